import PyProof.Rows.All
import Wide.All
import OpenK.AllK
import Wide.FinOn
import PyProof.GenRules
import PyProof.GenObj
import PyProof.InstSpecial
import PyProof.ListIndexNeg
import PyProof.EnumStmt
import PyProof.EnumMake
import PyProof.StrLawsReplace
import PyProof.AttrMissHeap
import KE.KDictOf
import Lean
import PySem.Challenge.RW_te0035_04
set_option Elab.async false
set_option maxRecDepth 100000
set_option maxHeartbeats 4000000
set_option bootstrap.genMatcherCode false
set_option genSizeOf false
set_option tactic.hygienic false
set_option linter.all false
section
set_option compiler.extract_closed false
local macro_rules (kind:=Lean.Parser.Command.declaration)
| s=>if s.getPos?.isNone then Lean.Macro.throwUnsupported else pure (s.rewriteBottomUp (·.setInfo .none))
namespace HL.Lake
theorem gC {P:Prop} (h:∀ G:Prop,(P→G)→G):P:=h P id
theorem nn {α:Type _} {a:Option α} {o:α} {P:Prop} (h:a=none) (k:a=some o):P:=Option.noConfusion rfl (heq_of_eq (h.symm.trans k))
set_option genCtorIdx false in
set_option genInjectivity false in
inductive LN
 | n (k:Nat) | v (i:Nat) | a (x y:LN) | m (k:Nat) (x:LN)
noncomputable def ati:List Nat→Nat→Nat
 | [],_=>0
 | x :: _,0=>x
 | _ :: r,i+1=>ati r i
noncomputable def LN.d (xs:List Nat):LN→Nat
 | .n k=>k
 | .v i=>ati xs i
 | .a x y=>x.d xs+y.d xs
 | .m k x=>k * x.d xs
noncomputable def LN.k:LN→Nat
 | .n k=>k
 | .v _=>0
 | .a x y=>x.k+y.k
 | .m k x=>k * x.k
noncomputable def LN.w (i:Nat):LN→Nat
 | .n _=>0
 | .v j=>if i=j then 1 else 0
 | .a x y=>x.w i+y.w i
 | .m k x=>k * x.w i
noncomputable def LN.dot (e:LN):List Nat→Nat→Nat
 | [],_=>0
 | x :: r,i=>e.w i * x+e.dot r (i+1)
theorem LN.dot_n (k:Nat) (xs:List Nat):∀ i:Nat,(LN.n k).dot xs i=0:=by
 induction xs with
 | nil=>exact fun z9=>rfl
 | cons x r ih=>exact fun i=>(congrArg (0 * x+·) (ih (i+1))).trans (Nat.zero_mul x)
theorem LN.dot_a (x y:LN) (xs:List Nat):∀ i:Nat,(LN.a x y).dot xs i=x.dot xs i+y.dot xs i:=by
 induction xs with
 | nil=>exact fun z9=>rfl
 | cons z r ih =>
  intro i
  show (x.w i+y.w i) * z+(LN.a x y).dot r (i+1)=(x.w i * z+x.dot r (i+1))+(y.w i * z+y.dot r (i+1))
  rw [ih,Nat.add_mul,Nat.add_add_add_comm]
theorem LN.dot_m (k:Nat) (x:LN) (xs:List Nat):∀ i:Nat,(LN.m k x).dot xs i=k * x.dot xs i:=by
 induction xs with
 | nil=>exact fun z9=>rfl
 | cons z r ih =>
  intro i
  show k * x.w i * z+(LN.m k x).dot r (i+1)=k * (x.w i * z+x.dot r (i+1))
  rw [ih,Nat.mul_add,Nat.mul_assoc]
theorem LN.dot_lt (j:Nat) (xs:List Nat):∀ i:Nat,j < i→(LN.v j).dot xs i=0:=by
 induction xs with
 | nil=>exact fun z9 z9=>rfl
 | cons z r ih =>
  intro i h
  show (if i=j then 1 else 0) * z+(LN.v j).dot r (i+1)=0
  rw [ih (i+1) (Nat.lt_succ_of_lt h),if_neg (Nat.ne_of_gt h)]
  exact Nat.zero_mul z
theorem LN.dot_v (xs:List Nat):∀ (i j:Nat),(LN.v (i+j)).dot xs i=ati xs j:=by
 induction xs with
 | nil=>exact fun z9 z9=>rfl
 | cons z r ih =>
  intro i j
  cases j with
  | zero =>
   show (if i=i then 1 else 0) * z+(LN.v i).dot r (i+1)=z
   rw [LN.dot_lt _ r (i+1) (Nat.lt_succ_self _),if_pos rfl]
   exact Nat.one_mul z
  | succ j =>
   show (if i=i+(j+1) then 1 else 0) * z+(LN.v (i+(j+1))).dot r (i+1)=ati r j
   rw [if_neg (Nat.ne_of_lt (Nat.lt_add_of_pos_right (Nat.succ_pos j))),Nat.zero_mul,Nat.zero_add,show i+(j+1)=(i+1)+j from (Nat.succ_add_eq_add_succ i j).symm]
   exact ih (i+1) j
theorem LN.d_eq (xs:List Nat) (e:LN):e.d xs=e.k+e.dot xs 0:=by
 induction e with
 | n k=>exact (congrArg (k+·) (LN.dot_n k xs 0)).symm
 | v j=>exact ((Nat.zero_add _).trans ((congrArg (fun z=>(LN.v z).dot xs 0) (Nat.zero_add j).symm).trans (LN.dot_v xs 0 j))).symm
 | a x y hx hy =>
  show x.d xs+y.d xs=(x.k+y.k)+(LN.a x y).dot xs 0
  rw [LN.dot_a,hx,hy,Nat.add_add_add_comm]
 | m k x hx =>
  show k * x.d xs=k * x.k+(LN.m k x).dot xs 0
  rw [LN.dot_m,hx,Nat.mul_add]
noncomputable def LN.all (l r:LN):Nat→Bool
 | 0=>true
 | i+1=>Nat.ble (r.w i) (l.w i)&&LN.all l r i
theorem LN.all_at {l r:LN} {N i:Nat} (h:LN.all l r N=true) (hi:i < N):r.w i≤l.w i:=by
 induction N with
 | zero=>exact absurd hi (Nat.not_lt_zero _)
 | succ N ih =>
  have h':=(Bool.and_eq_true _ _).mp h
  rcases Nat.lt_or_eq_of_le (Nat.le_of_lt_succ hi) with h1 | h1
  ·exact ih h'.2 h1
  ·exact h1▸Nat.le_of_ble_eq_true h'.1
theorem LN.dot_le {l r:LN} (xs:List Nat):∀ i:Nat,(∀ j,i≤j→j < i+xs.length→r.w j≤l.w j)→r.dot xs i≤l.dot xs i:=by
 induction xs with
 | nil=>exact fun z9 z9=>Nat.le_refl _
 | cons x s ih=>exact fun i h=>Nat.add_le_add (Nat.mul_le_mul_right x (h i (Nat.le_refl i) (Nat.lt_add_of_pos_right (Nat.succ_pos _)))) (ih (i+1) fun j h1 h2=>h j (Nat.le_of_succ_le h1) (Nat.lt_of_lt_of_eq h2 (Nat.succ_add_eq_add_succ i s.length)))
noncomputable def LN.gt (n:Nat) (l r:LN):Bool:=Nat.ble (r.k+1) l.k&&LN.all l r n
theorem LN.no {xs:List Nat} {l r:LN} (h:LN.gt xs.length l r=true) (h1:l.d xs≤r.d xs):False:=by
 have h':=(Bool.and_eq_true _ _).mp h
 rw [LN.d_eq,LN.d_eq] at h1
 have h2:=LN.dot_le (l:=l) (r:=r) xs 0 fun j z9 hj=>LN.all_at h'.2 (Nat.lt_of_lt_of_eq hj (Nat.zero_add _))
 exact Nat.not_lt.mpr h1 (Nat.add_lt_add_of_lt_of_le (Nat.le_of_ble_eq_true h'.1) h2)
section
variable {l1 r1 l2 r2 l3 r3 l4 r4 l5 r5 l6 r6 l7 r7:LN}
theorem LN.ad {xs:List Nat} (k:Nat) (h1:l1.d xs≤r1.d xs) (h2:l2.d xs≤r2.d xs):(LN.a (.m k l1) l2).d xs≤(LN.a (.m k r1) r2).d xs:=Nat.add_le_add (Nat.mul_le_mul_left k h1) h2
theorem n1 (xs:List Nat) (l1 r1:LN) (h:LN.gt xs.length l1 r1=true) (h1:l1.d xs≤r1.d xs):False:=LN.no h h1
theorem n2 (xs:List Nat) (k1:Nat) (l1 r1:LN) (k2:Nat) (l2 r2:LN) (h:LN.gt xs.length (.a (.m k1 l1) (.m k2 l2)) (.a (.m k1 r1) (.m k2 r2))=true) (h1:l1.d xs≤r1.d xs) (h2:l2.d xs≤r2.d xs):False:=LN.no h (LN.ad k1 h1 (Nat.mul_le_mul_left k2 h2))
theorem n3 (xs:List Nat) (k1:Nat) (l1 r1:LN) (k2:Nat) (l2 r2:LN) (k3:Nat) (l3 r3:LN) (h:LN.gt xs.length (.a (.m k1 l1) (.a (.m k2 l2) (.m k3 l3))) (.a (.m k1 r1) (.a (.m k2 r2) (.m k3 r3)))=true) (h1:l1.d xs≤r1.d xs) (h2:l2.d xs≤r2.d xs) (h3:l3.d xs≤r3.d xs):False:=LN.no h (LN.ad k1 h1 (LN.ad k2 h2 (Nat.mul_le_mul_left k3 h3)))
theorem n4 (xs:List Nat) (k1:Nat) (l1 r1:LN) (k2:Nat) (l2 r2:LN) (k3:Nat) (l3 r3:LN) (k4:Nat) (l4 r4:LN) (h:LN.gt xs.length (.a (.m k1 l1) (.a (.m k2 l2) (.a (.m k3 l3) (.m k4 l4)))) (.a (.m k1 r1) (.a (.m k2 r2) (.a (.m k3 r3) (.m k4 r4))))=true) (h1:l1.d xs≤r1.d xs) (h2:l2.d xs≤r2.d xs) (h3:l3.d xs≤r3.d xs) (h4:l4.d xs≤r4.d xs):False:=LN.no h (LN.ad k1 h1 (LN.ad k2 h2 (LN.ad k3 h3 (Nat.mul_le_mul_left k4 h4))))
theorem n5 (xs:List Nat) (k1:Nat) (l1 r1:LN) (k2:Nat) (l2 r2:LN) (k3:Nat) (l3 r3:LN) (k4:Nat) (l4 r4:LN) (k5:Nat) (l5 r5:LN) (h:LN.gt xs.length (.a (.m k1 l1) (.a (.m k2 l2) (.a (.m k3 l3) (.a (.m k4 l4) (.m k5 l5))))) (.a (.m k1 r1) (.a (.m k2 r2) (.a (.m k3 r3) (.a (.m k4 r4) (.m k5 r5)))))=true) (h1:l1.d xs≤r1.d xs) (h2:l2.d xs≤r2.d xs) (h3:l3.d xs≤r3.d xs) (h4:l4.d xs≤r4.d xs) (h5:l5.d xs≤r5.d xs):False:=LN.no h (LN.ad k1 h1 (LN.ad k2 h2 (LN.ad k3 h3 (LN.ad k4 h4 (Nat.mul_le_mul_left k5 h5)))))
end
theorem nsub (a b:Nat):a≤a - b+b:=Nat.le_add_of_sub_le (Nat.le_refl _)
end HL.Lake
noncomputable section
namespace HL.Lake
open PySem PySem.W PySem.Calls PyProof.Rows
theorem szL {x:Nat} (h:x≤10000):x≤sizeLine:=by rw [sizeLine_eq]; exact Nat.le_trans h (Nat.le_of_ble_eq_true rfl)
theorem fitT {x:Nat} (h:x≤10000):(x:Int) < 2 ^ 63:=Int.lt_of_le_of_lt (Int.ofNat_le.mpr h) (by decide)
theorem fitL {x:Nat} (h:x≤10000):¬ ((x:Int) ≥ 2 ^ 63):=Int.not_le.mpr (fitT h)
inductive V where
 | none | bool (b:Bool) | int (i:Int) | str (s:Str)
 | st (v:Value)
 | ob (i:Nat)
 | lo (i:Nat)
 | inst (C:Addr) (i:Nat)
 | tup (l:List V) | list (l:List V) | dict (l:List (Str×V))
 | meth (f:Value) (self:V)
inductive AO where
 | list (l:List V)
 | dict (l:List (Str×V))
set_option genInjectivity false in
structure Cx where
 prog:Program
 w:World
 K:Frag
 h₀:Heap
 mg:Str→Option Value
 mb:Str→Option Value
 X:K.In h₀
 nl:h₀.NoLimit
 g:h₀.Ns mainGlobals mg
 b:h₀.Ns builtinsNs mb
 bi:∀ x:Str,x≠"__name__"→mb x=bootBuiltins x
 nd:∃ mc,h₀.Ns cStatics mc∧mc "sys.int_max_str_digits"=none
noncomputable abbrev PHeap:=Addr→Option Obj
mutual
inductive Rel (P:Params) (g:PHeap) (ιT ιW:List Addr):V→Value→Prop
 | none:Rel P g ιT ιW .none .none
 | bool {b}:Rel P g ιT ιW (.bool b) (.bool b)
 | int {i t}:Rel P g ιT ιW (.int i) (.int i t)
 | str {s t}:Rel P g ιT ιW (.str s) (.str s t)
 | st {v}:Rel P g ιT ιW (.st v) v
 | ob {i a}:ιW[i]?=some a→Rel P g ιT ιW (.ob i) (.ref a)
 | lo {i a}:ιT[i]?=some a→Rel P g ιT ιW (.lo i) (.ref a)
 | inst {C i x d}:ιW[i]?=some d→g x=some ⟨.ref C,some d,.plain,#[]⟩→Rel P g ιT ιW (.inst C i) (.ref x)
 | tup {l x xs n}:g x=some { cls:=.type "tuple",data:=.seq (List.toArray xs) n }→RelL P g ιT ιW l xs→Rel P g ιT ιW (.tup l) (.ref x)
 | list {l x xs n}:g x=some { cls:=.type "list",data:=.seq (List.toArray xs) n }→RelL P g ιT ιW l xs→Rel P g ιT ιW (.list l) (.ref x)
 | dict {l x es n}:g x=some (dictOf es n)→1 < x→RelD P g ιT ιW l es→(l.map (·.1)).Nodup→Rel P g ιT ιW (.dict l) (.ref x)
 | meth {f self sv x}:g x=some (methodObj f sv)→Rel P g ιT ιW self sv→Rel P g ιT ιW (.meth f self) (.ref x)
inductive RelL (P:Params) (g:PHeap) (ιT ιW:List Addr):List V→List Value→Prop
 | nil:RelL P g ιT ιW [] []
 | cons {v rv l rl}:Rel P g ιT ιW v rv→RelL P g ιT ιW l rl→RelL P g ιT ιW (v :: l) (rv :: rl)
inductive RelD (P:Params) (g:PHeap) (ιT ιW:List Addr):List (Str×V)→List DictEntry→Prop
 | nil:RelD P g ιT ιW [] []
 | cons {k v t rv l rl}:Rel P g ιT ιW v rv→RelD P g ιT ιW l rl→RelD P g ιT ιW ((k,v) :: l) (⟨PyData.keyHash P k,.str k t,rv⟩ :: rl)
end
noncomputable def Rel.Inv (P:Params) (g:PHeap) (ιT ιW:List Addr):V→Value→Prop
 | .none,rv=>rv=.none
 | .bool b,rv=>rv=.bool b
 | .int i,rv=>∃ t,rv=.int i t
 | .str s,rv=>∃ t,rv=.str s t
 | .st v,rv=>rv=v
 | .ob i,rv=>∃ a,rv=.ref a∧ιW[i]?=some a
 | .lo i,rv=>∃ a,rv=.ref a∧ιT[i]?=some a
 | .inst C i,rv=>∃ x d,rv=.ref x∧ιW[i]?=some d∧g x=some ⟨.ref C,some d,.plain,#[]⟩
 | .tup l,rv=>∃ x xs n,rv=.ref x∧g x=some { cls:=.type "tuple",data:=.seq (List.toArray xs) n }∧RelL P g ιT ιW l xs
 | .list l,rv=>∃ x xs n,rv=.ref x∧g x=some { cls:=.type "list",data:=.seq (List.toArray xs) n }∧RelL P g ιT ιW l xs
 | .dict l,rv=>∃ x es n,rv=.ref x∧g x=some (dictOf es n)∧1 < x∧RelD P g ιT ιW l es∧(l.map (·.1)).Nodup
 | .meth f self,rv=>∃ sv x,rv=.ref x∧g x=some (methodObj f sv)∧Rel P g ιT ιW self sv
set_option tactic.hygienic true in
theorem Rel.inv {P:Params} {g:PHeap} {ιT ιW:List Addr} {v:V} {rv:Value} (h:Rel P g ιT ιW v rv):Rel.Inv P g ιT ιW v rv:=by
 cases h
 case none=>exact rfl
 case bool=>exact rfl
 case int=>exact ⟨_,rfl⟩
 case str=>exact ⟨_,rfl⟩
 case st=>exact rfl
 case ob h=>exact ⟨_,rfl,h⟩
 case lo h=>exact ⟨_,rfl,h⟩
 case inst h k=>exact ⟨_,_,rfl,h,k⟩
 case tup h r=>exact ⟨_,_,_,rfl,h,r⟩
 case list h r=>exact ⟨_,_,_,rfl,h,r⟩
 case dict h q r n=>exact ⟨_,_,_,rfl,h,q,r,n⟩
 case meth h r=>exact ⟨_,_,rfl,h,r⟩
structure Sub (g g':PHeap) (a a' b b':List Addr):Prop where
 hg:∀ (x:Addr) (o:Obj),g x=some o→g' x=some o
 ha:∀ (i:Nat) (x:Addr),a[i]?=some x→a'[i]?=some x
 hb:∀ (i:Nat) (x:Addr),b[i]?=some x→b'[i]?=some x
theorem Rel.mono {P:Params} {g g':PHeap} {a a' b b':List Addr} (S:Sub g g' a a' b b') {v:V} {rv:Value} (h:Rel P g a b v rv):Rel P g' a' b' v rv:=@Rel.rec P g a b (fun v rv z9=>Rel P g' a' b' v rv) (fun v rv z9=>RelL P g' a' b' v rv) (fun v rv z9=>RelD P g' a' b' v rv) .none .bool .int .str .st (fun h=>.ob (S.hb _ _ h)) (fun h=>.lo (S.ha _ _ h)) (fun h k=>.inst (S.hb _ _ h) (S.hg _ _ k)) (fun h z9 ih=>.tup (S.hg _ _ h) ih) (fun h z9 ih=>.list (S.hg _ _ h) ih) (fun h q z9 n ih=>.dict (S.hg _ _ h) q ih n) (fun h z9 ih=>.meth (S.hg _ _ h) ih) .nil (fun z9 z9 i1 i2=>.cons i1 i2) .nil (fun z9 z9 i1 i2=>.cons i1 i2) _ _ h
theorem RelL.mono {P:Params} {g g':PHeap} {a a' b b':List Addr} (S:Sub g g' a a' b b') {v:List V} {rv:List Value} (h:RelL P g a b v rv):RelL P g' a' b' v rv:=@RelL.rec P g a b (fun v rv z9=>Rel P g' a' b' v rv) (fun v rv z9=>RelL P g' a' b' v rv) (fun v rv z9=>RelD P g' a' b' v rv) .none .bool .int .str .st (fun h=>.ob (S.hb _ _ h)) (fun h=>.lo (S.ha _ _ h)) (fun h k=>.inst (S.hb _ _ h) (S.hg _ _ k)) (fun h z9 ih=>.tup (S.hg _ _ h) ih) (fun h z9 ih=>.list (S.hg _ _ h) ih) (fun h q z9 n ih=>.dict (S.hg _ _ h) q ih n) (fun h z9 ih=>.meth (S.hg _ _ h) ih) .nil (fun z9 z9 i1 i2=>.cons i1 i2) .nil (fun z9 z9 i1 i2=>.cons i1 i2) _ _ h
theorem RelD.mono {P:Params} {g g':PHeap} {a a' b b':List Addr} (S:Sub g g' a a' b b') {v:List (Str×V)} {rv:List DictEntry} (h:RelD P g a b v rv):RelD P g' a' b' v rv:=@RelD.rec P g a b (fun v rv z9=>Rel P g' a' b' v rv) (fun v rv z9=>RelL P g' a' b' v rv) (fun v rv z9=>RelD P g' a' b' v rv) .none .bool .int .str .st (fun h=>.ob (S.hb _ _ h)) (fun h=>.lo (S.ha _ _ h)) (fun h k=>.inst (S.hb _ _ h) (S.hg _ _ k)) (fun h z9 ih=>.tup (S.hg _ _ h) ih) (fun h z9 ih=>.list (S.hg _ _ h) ih) (fun h q z9 n ih=>.dict (S.hg _ _ h) q ih n) (fun h z9 ih=>.meth (S.hg _ _ h) ih) .nil (fun z9 z9 i1 i2=>.cons i1 i2) .nil (fun z9 z9 i1 i2=>.cons i1 i2) _ _ h
theorem RelL.un {P:Params} {g:PHeap} {a b:List Addr} {v:V} {l:List V} {rl:List Value} (h:RelL P g a b (v :: l) rl):∃ r t,rl=r :: t∧Rel P g a b v r∧RelL P g a b l t:=by
 cases h with | cons r t=>exact ⟨_,_,rfl,r,t⟩
theorem RelL.ind {P:Params} {g:PHeap} {a b:List Addr} {M:List V→List Value→Prop} (h0:M [] []) (h1:∀ v rv l rl,Rel P g a b v rv→RelL P g a b l rl→M l rl→M (v :: l) (rv :: rl)) {l:List V} {rl:List Value} (h:RelL P g a b l rl):M l rl:=by
 induction l generalizing rl with
 | nil=>cases h; exact h0
 | cons v l ih=>obtain ⟨r,t,rfl,hr,ht⟩:=h.un; exact h1 _ _ _ _ hr ht (ih ht)
theorem RelD.ind {P:Params} {g:PHeap} {a b:List Addr} {M:List (Str×V)→List DictEntry→Prop} (h0:M [] []) (h1:∀ k v t rv l rl,Rel P g a b v rv→RelD P g a b l rl→M l rl→M ((k,v) :: l) (⟨PyData.keyHash P k,.str k t,rv⟩ :: rl)) {l:List (Str×V)} {rl:List DictEntry} (h:RelD P g a b l rl):M l rl:=by
 induction l generalizing rl with
 | nil=>cases h; exact h0
 | cons v l ih=>cases h with | cons r t=>exact h1 _ _ _ _ _ _ r t (ih t)
end HL.Lake
end
noncomputable section
namespace HL.Lake
open PySem PySem.W PySem.Calls PyProof.Rows
inductive RelO (P:Params) (g:PHeap) (a b:List Addr):AO→Obj→Prop
 | list {l xs n}:RelL P g a b l xs→RelO P g a b (.list l) { cls:=.type "list",data:=.seq (List.toArray xs) n }
 | dict {l es n}:RelD P g a b l es→(l.map (·.1)).Nodup→RelO P g a b (.dict l) (dictOf es n)
theorem RelO.mono {P:Params} {g g':PHeap} {a a' b b':List Addr} (S:Sub g g' a a' b b') {o ob} (h:RelO P g a b o ob):RelO P g' a' b' o ob:=by
 cases h with
 | list r=>exact .list (r.mono S)
 | dict r n=>exact .dict (r.mono S) n
set_option genInjectivity false in
structure Wd where
 s:Shared
 m:Str→Option Value
 a:List Addr
 b:List Addr
 g:PHeap
 k:PHeap
 kf:Addr→Option (Str→Option Value)
set_option genInjectivity false in
structure St where
 loc:List (Str×Option V)
 T:List AO
 W:List AO
noncomputable def Tab (P:Params) (g:PHeap) (a b:List Addr) (h:Heap) (ι:List Addr) (T:List AO):Prop :=
 ι.length=T.length∧∀ (i:Nat) (o:AO),T[i]?=some o→∃ (x:Addr) (ob:Obj),ι[i]?=some x∧h.get? x=some ob∧RelO P g a b o ob
structure SatW (c:Cx) (W:List AO) (s:Shared) (b:List Addr) (g k:PHeap) (kf:Addr→Option (Str→Option Value)):Prop where
 keep:∀ x o,g x=some o→s.heap.get? x=some o
 base:∀ x o,c.h₀.get? x=some o→g x=some o
 tab:Tab c.w.params g [] b s.heap b W
 nodup:b.Nodup
 out:∀ x∈b,g x=none
 kk:∀ x o,k x=some o→s.heap.get? x=some o
 ok:∀ x∈b,k x=none
 nf:∀ x m,kf x=some m→s.heap.Ns x m
 okf:∀ x∈b,kf x=none
 dis:∀ x m,kf x=some m→k x=none∧g x=none
 dk:∀ x o,k x=some o→g x=none
 sz:c.h₀.objs.size≤s.heap.objs.size∧∀ x∈b,1 < x
structure Sat (c:Cx) (L:Addr) (σ:St) (ω:Wd):Prop where
 ns:ω.s.heap.Ns L ω.m
 keep:∀ x o,ω.g x=some o→ω.s.heap.get? x=some o
 base:∀ x o,c.h₀.get? x=some o→ω.g x=some o
 high:c.h₀.objs.size≤L∧∀ x∈ω.a++ω.b,1 < x
 loc:∀ x v,(x,some v)∈σ.loc→∃ rv,ω.m x=some rv∧Rel c.w.params ω.g ω.a ω.b v rv
 nd:(σ.loc.map (·.1)).Nodup
 tT:Tab c.w.params ω.g ω.a ω.b ω.s.heap ω.a σ.T
 tW:Tab c.w.params ω.g [] ω.b ω.s.heap ω.b σ.W
 apart:(L :: (ω.a++ω.b)).Nodup
 out:∀ x∈L :: (ω.a++ω.b),ω.g x=none
 kk:∀ x o,ω.k x=some o→ω.s.heap.get? x=some o
 ok:∀ x∈L :: (ω.a++ω.b),ω.k x=none
 nf:∀ x m,ω.kf x=some m→ω.s.heap.Ns x m
 okf:∀ x∈L :: (ω.a++ω.b),ω.kf x=none
 dis:∀ x m,ω.kf x=some m→ω.k x=none∧ω.g x=none
 dk:∀ x o,ω.k x=some o→ω.g x=none
noncomputable def finB:GenState→Bool
 | .finished=>true
 | _=>false
noncomputable def gkS (g:GenState) (q:List GenState):List GenState:=bif q.isEmpty&&finB g then [] else g :: q
noncomputable def gkL (l:List GenState):List GenState:=l.foldr gkS []
noncomputable def gk (a:Array GenState):List GenState:=gkL a.toList
structure Le (ω ω':Wd):Prop where
 sub:Sub ω.g ω'.g ω.a ω'.a ω.b ω'.b
 gens:gk ω'.s.gens=gk ω.s.gens
 drawn:ω'.s.drawn=ω.s.drawn
 os:ω'.s.os=ω.s.os
 k:ω'.k=ω.k
 kf:ω'.kf=ω.kf
theorem Sub.refl {g:PHeap} {a b:List Addr}:Sub g g a a b b:=⟨fun z9 z9 h=>h,fun z9 z9 h=>h,fun z9 z9 h=>h⟩
theorem Sub.trans {g g' g'':PHeap} {a a' a'' b b' b'':List Addr} (x:Sub g g' a a' b b') (y:Sub g' g'' a' a'' b' b''):Sub g g'' a a'' b b'' :=
 ⟨fun z9 z9 h=>y.hg _ _ (x.hg _ _ h),fun z9 z9 h=>y.ha _ _ (x.ha _ _ h),fun z9 z9 h=>y.hb _ _ (x.hb _ _ h)⟩
theorem Le.refl (ω:Wd):Le ω ω:=⟨.refl,rfl,rfl,rfl,rfl,rfl⟩
theorem Le.trans {ω ω' ω'':Wd} (x:Le ω ω') (y:Le ω' ω''):Le ω ω'':=⟨x.sub.trans y.sub,y.gens.trans x.gens,y.drawn.trans x.drawn,y.os.trans x.os,y.k.trans x.k,y.kf.trans x.kf⟩
structure Room (n:Nat) (A:Around):Prop where
 depth:A.depth+10 * n < 600
 units:A.units+50 * n < 9000
 handled:A.handled=none
noncomputable def Outs (c:Cx) (kf:Addr→Option (Str→Option Value)) (outer:List Env):Prop:=∀ e∈outer,e.scope.kind≠.module∧∃ L m,e.frame=some L∧kf L=some m∧c.h₀.get? L=none
structure Here (c:Cx) (n:Nat) (env:Env) (A:Around) (kf:Addr→Option (Str→Option Value)):Prop where
 room:Room n A
 fm:∃ l,A.frames=some l∧∀ e∈l,e.scope.kind≠.module∧∃ L,e.frame=some L∧c.h₀.get? L=none∧(L=env.locals∨∃ m,kf L=some m)
 hd:env.func.isSome=true→∃ outer,A.frames=some (env :: outer)∧Outs c kf outer
theorem Here.le {c:Cx} {n:Nat} {env:Env} {A:Around} {ω ω':Wd} (h:Here c n env A ω.kf) (l:Le ω ω'):Here c n env A ω'.kf:=l.kf▸h
noncomputable abbrev RV (c:Cx) (ω:Wd) (v:V) (rv:Value):Prop:=Rel c.w.params ω.g ω.a ω.b v rv
noncomputable abbrev RVs (c:Cx) (ω:Wd) (v:List V) (rv:List Value):Prop:=RelL c.w.params ω.g ω.a ω.b v rv
noncomputable def Flies (c:Cx) (l:List Env) (e:Value) (h:Heap) (K:Addr→Obj→Prop):Prop :=
 ∃ (ea:Addr) (a0:Value) (B:Heap),e=.ref ea∧Heap.FlyingW B l ea (.type "KeyError") a0 h∧(∀ x o,c.h₀.get? x=some o→B.get? x=some o)∧∀ x o,K x o→B.get? x=some o
noncomputable def Known (ω:Wd) (x:Addr) (o:Obj):Prop:=ω.g x=some o∨ω.k x=some o∨(x∈ω.a++ω.b∧ω.s.heap.get? x=some o)
noncomputable def Made (c:Cx) (L:Addr) (ω:Wd) (e:Value):Prop:=∃ (ea:Addr) (vs:List Value) (h1:Heap),e=.ref ea∧Heap.MadeExcOf h1 ω.s.heap ea (.type "KeyError") vs∧(∀ x o,c.h₀.get? x=some o→h1.get? x=some o) ∧
 (∀ x o,Known ω x o→h1.get? x=some o)∧(∀ x m,ω.kf x=some m→h1.Ns x m)∧∃ m,h1.Ns L m
noncomputable def Exc (c:Cx) (env:Env) (A:Around) (ω:Wd) (e:Value):Prop:=(∃ l,A.frames=some l∧Flies c l e ω.s.heap (Known ω))∨Made c env.locals ω e
inductive Post {α β:Type} (c:Cx) (L:Addr) (rel:Wd→β→α→Prop) (ω:Wd) (Q:β→St→Prop) (a:α) (s':Shared):Prop
 | intro (b:β) (σ':St) (ω':Wd) (l:Le ω ω') (e:ω'.s=s') (S:Sat c L σ' ω') (r:rel ω' b a) (q:Q b σ'):Post c L rel ω Q a s'
inductive PostX (c:Cx) (env:Env) (A:Around) (ω:Wd) (X:St→Prop) (e:Value) (s':Shared):Prop
 | intro (σ':St) (ω':Wd) (l:Le ω ω') (e':ω'.s=s') (S:Sat c env.locals σ' ω') (hx:Exc c env A ω' e) (q:X σ'):PostX c env A ω X e s'
theorem Post.le {α β:Type} {c:Cx} {L:Addr} {rel:Wd→β→α→Prop} {ω ω':Wd} {Q:β→St→Prop} {a:α} {s':Shared} (l:Le ω ω') (h:Post c L rel ω' Q a s'):Post c L rel ω Q a s':=by
 cases h with | intro b σ' ω'' l' e S r q=>exact ⟨b,σ',ω'',l.trans l',e,S,r,q⟩
theorem PostX.le {c:Cx} {env:Env} {A:Around} {ω ω':Wd} {X:St→Prop} {e:Value} {s':Shared} (l:Le ω ω') (h:PostX c env A ω' X e s'):PostX c env A ω X e s':=by
 cases h with | intro σ' ω'' l' e' S hx q=>exact ⟨σ',ω'',l.trans l',e',S,hx,q⟩
theorem PostX.no {c:Cx} {env:Env} {A:Around} {ω:Wd} {e:Value} {s':Shared} {P:Prop} (h:PostX c env A ω (fun z9=>False) e s'):P:=by
 cases h with | intro _ _ _ _ _ _ q=>exact q.elim
noncomputable def W {α β:Type} (c:Cx) (n:Nat) (env:Env) (t:Sem α) (rel:Wd→β→α→Prop) (Q:β→St→Prop) (X:St→Prop) (σ:St):Prop :=
 ∀ A ω,Here c n env A ω.kf→Sat c env.locals σ ω→wpAny (model c.prog c.w) A t (Post c env.locals rel ω Q) (PostX c env A ω X) ω.s
noncomputable abbrev WE (c:Cx) (n:Nat) (env:Env) (e:PySem.Expr) (Q:V→St→Prop) (X:St→Prop) (σ:St):Prop:=W c n env (eval e env) (RV c) Q X σ
noncomputable abbrev WT (c:Cx) (n:Nat) (env:Env) (e:PySem.Expr) (Q:Bool→St→Prop) (X:St→Prop) (σ:St):Prop:=W c n env (isTrue e env (eval e env)) (fun z9 a b=>a=b) Q X σ
set_option genInjectivity false in
inductive Fl where
 | next | brk | cont | ret (v:V)
inductive RelF (c:Cx) (ω:Wd):Fl→Flow→Prop
 | next:RelF c ω .next .next
 | brk:RelF c ω .brk .brk
 | cont:RelF c ω .cont .cont
 | ret {v rv}:RV c ω v rv→RelF c ω (.ret v) (.ret rv)
noncomputable abbrev WS (c:Cx) (n:Nat) (env:Env) (b:List Stmt) (Q:Fl→St→Prop) (X:St→Prop) (σ:St):Prop:=W c n env (execs b env) (RelF c) Q X σ
noncomputable abbrev WL (c:Cx) (n:Nat) (env:Env) (pos:Pos) (es:List PySem.Expr) (Q:List V→St→Prop) (X:St→Prop) (σ:St):Prop:=W c n env (spliced (backTo pos (starEach es env))) (RVs c) Q X σ
noncomputable def WO {α β:Type} (c:Cx) (n:Nat) (env:Env) (f:List Value→Sem α) (vs:List V) (rel:Wd→β→α→Prop) (Q:β→St→Prop) (X:St→Prop) (σ:St):Prop :=
 ∀ A ω rvs,Here c n env A ω.kf→Sat c env.locals σ ω→RVs c ω vs rvs→wpAny (model c.prog c.w) A (f rvs) (Post c env.locals rel ω Q) (PostX c env A ω X) ω.s
theorem Room.line {n k:Nat} {A:Around} (h:Room n A) (hk:k≤900):A.units+k < cLine:=Nat.lt_of_lt_of_le (Nat.add_lt_add_of_lt_of_le (Nat.lt_of_le_of_lt (Nat.le_add_right ..) h.units) hk) (Nat.le_of_ble_eq_true rfl)
theorem Room.dl {n k:Nat} {A:Around} (h:Room n A) (hk:k≤400):A.depth+k < recursionLimit:=Nat.lt_of_lt_of_le (Nat.add_lt_add_of_lt_of_le (Nat.lt_of_le_of_lt (Nat.le_add_right ..) h.depth) hk) (Nat.le_of_ble_eq_true rfl)
theorem Room.mono {n k:Nat} {A:Around} (h:Room n A) (hk:k≤n):Room k A:=⟨Nat.lt_of_le_of_lt (Nat.add_le_add_left (Nat.mul_le_mul_left 10 hk) _) h.depth,Nat.lt_of_le_of_lt (Nat.add_le_add_left (Nat.mul_le_mul_left 50 hk) _) h.units,h.handled⟩
theorem W.mono {α β:Type} {c:Cx} {n:Nat} {env:Env} {t:Sem α} {rel:Wd→β→α→Prop} {Q Q':β→St→Prop} {X X':St→Prop} {σ:St}
  (h:W c n env t rel Q X σ) (hQ:∀ b σ,Q b σ→Q' b σ) (hX:∀ σ,X σ→X' σ):W c n env t rel Q' X' σ:=fun A ω hR hS =>
 wpAny_mono (h A ω hR hS) (fun z9 z9 p=>by cases p with | intro b σ' ω' l e S r q=>exact ⟨b,σ',ω',l,e,S,r,hQ _ _ q⟩) fun z9 z9 p=>by cases p with | intro σ' ω' l e S r q=>exact ⟨σ',ω',l,e,S,r,hX _ q⟩
theorem Sat.above {c:Cx} {L:Addr} {σ:St} {ω:Wd} (S:Sat c L σ ω):c.h₀.objs.size≤L:=S.high.1
theorem Cx.big (c:Cx):2 < c.h₀.objs.size:=c.nd.elim fun z9 q=>q.1.lt
theorem Sat.fr {c:Cx} {L:Addr} {σ:St} {ω:Wd} (S:Sat c L σ ω):Fr c.h₀ L ω.s.heap ω.m:=⟨S.ns,fun x o e=>S.keep x o (S.base x o e),S.above⟩
theorem Sat.tok {c:Cx} {L:Addr} {σ:St} {ω:Wd} (S:Sat c L σ ω) (k:Nat):Sat c L σ { ω with s:={ ω.s with toks:=k } }:=⟨S.ns,S.keep,S.base,S.high,S.loc,S.nd,S.tT,S.tW,S.apart,S.out,S.kk,S.ok,S.nf,S.okf,S.dis,S.dk⟩
theorem Sat.X {c:Cx} {L:Addr} {σ:St} {ω:Wd} (S:Sat c L σ ω):c.K.In ω.s.heap:=fun x o e=>S.keep x o (S.base x o (c.X x o e))
theorem done {α β:Type} {c:Cx} {L:Addr} {σ:St} {ω:Wd} {rel:Wd→β→α→Prop} {Q:β→St→Prop} {a:α} {b:β} (S:Sat c L σ ω) (r:rel ω b a) (q:Q b σ):Post c L rel ω Q a ω.s :=
 ⟨b,σ,ω,.refl _,rfl,S,r,q⟩
theorem doneT {β α:Type} {c:Cx} {L:Addr} {σ:St} {ω:Wd} {rel:Wd→β→α→Prop} {Q:β→St→Prop} {a:α} {b:β} {k:Nat} (S:Sat c L σ ω)
  (r:rel { ω with s:={ ω.s with toks:=k } } b a) (q:Q b σ):Post c L rel ω Q a { ω.s with toks:=k } :=
 ⟨b,σ,{ ω with s:={ ω.s with toks:=k } },⟨.refl,rfl,rfl,rfl,rfl,rfl⟩,rfl,S.tok k,r,q⟩
end HL.Lake
end
noncomputable section
namespace HL.Lake
open PySem PySem.W PySem.Calls PyProof.Rows
section
variable {P:Params} {g:PHeap} {a b:List Addr}
theorem RelD.get {l:List (Str×V)} {es:List DictEntry} (h:RelD P g a b l es) (nd:(l.map (·.1)).Nodup) {x:Str} {v:V} (m:(x,v)∈l):∃ rv,getL x es=some (some rv)∧Rel P g a b v rv:=by
 have key:∃ e,es.find? (·.key.isStr x)=some e∧Rel P g a b v e.val:=by
  induction l generalizing es with
  | nil=>cases m
  | cons p l ih =>
   cases h with
   | @cons k v' t rv l' rl hv hr =>
    have nd:=List.nodup_cons.mp nd
    rcases List.mem_cons.mp m with e | m
    ·cases e
     exact ⟨_,List.find?_cons_of_pos (p:=fun d:DictEntry=>d.key.isStr x) (beq_self_eq_true x),hv⟩
    ·obtain ⟨e,e1,r⟩:=ih hr nd.2 m
     have hk:k≠x:=fun e=>nd.1 (List.mem_map.mpr ⟨_,m,e.symm⟩)
     exact ⟨e,(List.find?_cons_of_neg (p:=fun d:DictEntry=>d.key.isStr x) (by intro q; exact hk (eq_of_beq (show (k==x)=true from q)))).trans e1,r⟩
 obtain ⟨e,e1,r⟩:=key
 unfold getL
 rw [e1]
 exact ⟨_,rfl,r⟩
theorem RelD.noRef {l:List (Str×V)} {es:List DictEntry} (h:RelD P g a b l es):es.any (·.refKey)=false:=by
 induction l generalizing es with
 | nil=>cases h; rfl
 | cons p l ih=>cases h with | cons hv hr=>simp only [List.any_cons,ih hr,Bool.or_false]; rfl
theorem RelD.miss {l:List (Str×V)} {es:List DictEntry} (h:RelD P g a b l es) {x:Str} (m:x ∉ l.map (·.1)):getL x es=some none:=by
 have:es.find? (·.key.isStr x)=none:=by
  induction l generalizing es with
  | nil=>cases h; rfl
  | cons p l ih =>
   cases h with
   | @cons k v' t rv l' rl hv hr =>
    exact (List.find?_cons_of_neg (p:=fun d:DictEntry=>d.key.isStr x) (by intro q; exact m (eq_of_beq (show (k==x)=true from q)▸.head _))).trans (ih hr fun q=>m (.tail _ q))
 unfold getL
 rw [this,h.noRef]
 rfl
theorem RelD.keys {l:List (Str×V)} {es:List DictEntry} (h:RelD P g a b l es):l.length=es.length:=by
 induction l generalizing es with
 | nil=>cases h; rfl
 | cons p l ih=>cases h with | cons hv hr=>simp [ih hr]
inductive Put (x:Str) (v:V):List (Str×V)→List (Str×V)→Prop
 | head {w r}:Put x v ((x,w) :: r) ((x,v) :: r)
 | tail {p r r'}:Put x v r r'→Put x v (p :: r) (p :: r')
theorem Put.keys {x:Str} {v:V} {l l':List (Str×V)} (h:Put x v l l'):l'.map (·.1)=l.map (·.1):=by
 induction h with
 | head=>rfl
 | tail _ ih=>simp [ih]
theorem Put.mem {x:Str} {v:V} {l l':List (Str×V)} (h:Put x v l l'):x∈l.map (·.1):=by
 induction h with
 | head=>exact .head _
 | tail _ ih=>exact .tail _ ih
theorem put_miss {x k:Str} {hh h0:Int} {t:Tok} {kk rv w:Value} {es:List DictEntry} (h:k≠x):putL x hh kk rv (⟨h0,.str k t,w⟩ :: es)=⟨h0,.str k t,w⟩ :: putL x hh kk rv es:=if_neg fun q=>h (eq_of_beq q)
theorem RelD.put {l l':List (Str×V)} {es:List DictEntry} (h:RelD P g a b l es) (nd:(l.map (·.1)).Nodup) {x:Str} {v:V} {rv:Value} (m:Put x v l l') (r:Rel P g a b v rv) {hh:Int} {kk:Value} :
  RelD P g a b l' (putL x hh kk rv es):=by
 induction m generalizing es with
 | head =>
  cases h with
  | @cons _ _ t w _ rl hv hr=>rw [show putL x hh kk rv (⟨_,.str x t,w⟩ :: rl)=_ from if_pos (beq_self_eq_true x)]; exact .cons r hr
 | tail m ih =>
  cases h with
  | cons hv hr =>
   have nd:=List.nodup_cons.mp nd
   rw [put_miss (by rintro rfl; exact nd.1 m.mem)]
   exact .cons hv (ih hr nd.2)
theorem RelD.putNew {l:List (Str×V)} {es:List DictEntry} (h:RelD P g a b l es) {x:Str} {v:V} {rv:Value} (m:x ∉ l.map (·.1)) (r:Rel P g a b v rv) {t:Tok} :
  RelD P g a b (l++[(x,v)]) (putL x (PyData.keyHash P x) (.str x t) rv es):=by
 induction l generalizing es with
 | nil=>cases h; exact .cons r .nil
 | cons p l ih =>
  cases h with
  | cons hv hr =>
   rw [put_miss (by rintro rfl; exact m (.head _))]
   exact .cons hv (ih hr fun q=>m (.tail _ q))
end
noncomputable def notK (l:List Nat) (e:PySem.Expr):Bool:=l.all fun k=>!(k.beq e.ctorIdx)
set_option backward.match.sparseCases false in
noncomputable def callB (e:PySem.Expr) (f:PySem.Expr→List PySem.Expr→Bool):Bool:=match e with
 | .Call g a _ _=>f g a
 | _=>true
noncomputable def notSuper (o:PySem.Expr):Bool:=callB o fun z9 a=>!a.isEmpty
theorem andT {a b:Bool} (h:(a&&b)=true):a=true∧b=true:=Bool.and_eq_true_iff.mp h
theorem bifT {α:Type} {b:Bool} {x:Option α} {y:α} (h:(bif b then x else none)=some y):b=true∧x=some y:=by
 cases b with
 | false=>cases h
 | true=>exact ⟨rfl,h⟩
theorem attributeBase_plain {o:PySem.Expr} {attr:Str} {env:Env} {t:Sem Value} (h:notSuper o=true):attributeBase o attr env t=t:=by
 refine PySem.Expr.casesOn (motive_1:=fun o=>notSuper o=true→attributeBase o attr env t=t) o ?_ ?_ ?_ ?_ ?_ ?_ ?_ ?_ ?_ ?_ ?_ ?_ ?_ ?_ ?_ ?_ (fun f a k p h=>?_) ?_ ?_ ?_ ?_ ?_ ?_ ?_ ?_ ?_ ?_ h
 case refine_17=>cases a with
  | nil=>cases h
  | cons x r=>exact PySem.Expr.casesOn (motive_1:=fun f=>attributeBase (.Call f (x :: r) k p) attr env t=t) f (by intros; rfl) (by intros; rfl) (by intros; rfl) (by intros; rfl) (by intros; rfl) (by intros; rfl) (by intros; rfl) (by intros; rfl) (by intros; rfl) (by intros; rfl) (by intros; rfl) (by intros; rfl) (by intros; rfl) (by intros; rfl) (by intros; rfl) (by intros; rfl) (by intros; rfl) (by intros; rfl) (by intros; rfl) (by intros; rfl) (by intros; rfl) (by intros; rfl) (by intros; rfl) (by intros; rfl) (by intros; rfl) (by intros; rfl) (by intros; rfl)
 all_goals (intros; rfl)
structure EnvOk (env:Env) (sc:Scope):Prop where
 scope:env.scope=sc
 kind:sc.kind=.function
 globals:env.globals=mainGlobals
 builtins:env.builtins=builtinsNs
noncomputable def EnvF (env:Env):Prop:=env.frame=some env.locals∧env.func.isSome=true
theorem EnvOk.kind' {env:Env} {sc:Scope} (h:EnvOk env sc):env.scope.kind=.function:=h.scope▸h.kind
theorem EnvOk.look {env:Env} {sc:Scope} {x:Str} {k:NameKind} (h:EnvOk env sc) (e:(sc.names.lookup x==some k)=true):env.kindOf x=some k:=by
 unfold Env.kindOf; rw [h.scope]; exact beq_iff_eq.mp e
section
variable {c:Cx} {n:Nat} {env:Env} {Q:V→St→Prop} {X:St→Prop} {σ:St} {pos:Pos}
theorem e_str {x:Str} {k:Nat} (h:Q (.str x) σ):WE c n env (.Constant (.str x) k pos) Q X σ:=fun A ω z9 hS=>by
 rw [eval_Constant]; exact wpAny_mkText (doneT hS .str h)
theorem e_int {i:Int} {k:Nat} (h:Q (.int i) σ):WE c n env (.Constant (.int i) k pos) Q X σ:=fun A ω z9 hS=>by
 rw [eval_Constant]; exact wpAny_mkInt (doneT hS .int h)
theorem e_bool {i:Bool} {k:Nat} (h:Q (.bool i) σ):WE c n env (.Constant (.bool i) k pos) Q X σ:=fun A ω z9 hS=>by
 rw [eval_Constant]; exact wpAny_pure (done hS .bool h)
theorem e_none {k:Nat} (h:Q .none σ):WE c n env (.Constant .none k pos) Q X σ:=fun A ω z9 hS=>by
 rw [eval_Constant]; exact wpAny_pure (done hS .none h)
theorem e_local {x:Str} {v:V} {sc:Scope} (he:EnvOk env sc) (hm:(x,some v)∈σ.loc) (hk:(sc.names.lookup x==some .local)=true) (hd:(x==("__debug__":Str))=false) (h:Q v σ):WE c n env (.Name x pos) Q X σ:=fun A ω z9 hS=>by
 obtain ⟨rv,e,r⟩:=hS.loc x v hm
 exact wpAny_Name (wpAny_loadName_local he.kind' (he.look hk) hS.ns e (done hS r h)) hd
noncomputable def Stat (c:Cx) (v:V) (rv:Value):Prop:=∀ g:PHeap,(∀ x o,c.K.lookup x=some o→g x=some o)→Rel c.w.params g [] [] v rv
theorem Stat.rel {v:V} {rv:Value} (h:Stat c v rv) {L:Addr} {ω:Wd} (S:Sat c L σ ω):RV c ω v rv :=
 (h ω.g fun x o e=>S.base x o (c.X x o e)).mono ⟨fun z9 z9 h=>h,fun z9 z9 h=>(Lake.nn rfl h),fun z9 z9 h=>(Lake.nn rfl h)⟩
theorem Stat.st {rv:Value}:Stat c (.st rv) rv:=fun z9 z9=>.st
theorem e_global {x:Str} {v:V} {rv:Value} {sc:Scope} (he:EnvOk env sc) (hk:(sc.names.lookup x==some .globalImplicit)=true) (hd:(x==("__debug__":Str))=false)
  (hg:nsIn c.K mainGlobals x=some (some rv)) (hr:Stat c v rv) (h:Q v σ):WE c n env (.Name x pos) Q X σ:=fun A ω z9 hS=>by
 have hn:ω.s.heap.Ns env.globals c.mg:=by rw [he.globals]; exact c.g.keeps fun x o e=>hS.keep x o (hS.base x o e)
 exact Calls.Name_function_global he.kind' (he.look hk) (Calls.loadGlobal_global hn (mg_of c.X c.g hg) (done hS (hr.rel hS) h)) hd
theorem e_builtin {x:Str} {rv:Value} {sc:Scope} (he:EnvOk env sc) (hk:(sc.names.lookup x==some .globalImplicit)=true) (hd:(x==("__debug__":Str))=false)
  (hg:nsIn c.K mainGlobals x=some none) (hb:bootBuiltins x=some rv) (hx:(x==("__name__":Str))=false) (h:Q (.st rv) σ):WE c n env (.Name x pos) Q X σ:=fun A ω z9 hS=>by
 have k:∀ x o,c.h₀.get? x=some o→ω.s.heap.get? x=some o:=fun x o e=>hS.keep x o (hS.base x o e)
 have hn:ω.s.heap.Ns env.globals c.mg:=by rw [he.globals]; exact c.g.keeps k
 have hbn:ω.s.heap.Ns env.builtins c.mb:=by rw [he.builtins]; exact c.b.keeps k
 exact Calls.Name_function_global he.kind' (he.look hk) (Calls.loadGlobal_builtin hn (mg_none_of c.X c.g hg) hbn ((c.bi x (beq_eq_false_iff_ne.mp hx)).trans hb) (done hS .st h)) hd
end
end HL.Lake
end
noncomputable section
namespace HL.Lake
open PySem PySem.W PySem.Calls PyProof.Rows
section
variable {c:Cx} {L:Addr} {σ:St} {ω:Wd}
theorem Tab.lt {P:Params} {g:PHeap} {a b ι:List Addr} {h:Heap} {T:List AO} (t:Tab P g a b h ι T) {x:Addr} (hx:x∈ι):x < h.objs.size:=by
 obtain ⟨i,hi,e⟩:=List.mem_iff_getElem.mp hx
 have hi':i < T.length:=t.1▸hi
 obtain ⟨y,ob,ey,ho,_⟩:=t.2 i T[i] (by simp [hi'])
 rw [List.getElem?_eq_getElem hi,e] at ey
 cases ey
 exact Heap.lt_size ho
theorem Sat.lt {x:Addr} (S:Sat c L σ ω) (hx:x∈L :: (ω.a++ω.b)):x < ω.s.heap.objs.size:=by
 rcases List.mem_cons.mp hx with rfl | hx
 ·exact S.ns.lt
 ·rcases List.mem_append.mp hx with hx | hx
  ·exact S.tT.lt hx
  ·exact S.tW.lt hx
theorem Sat.glt {x:Addr} {o:Obj} (S:Sat c L σ ω) (h:ω.g x=some o):x < ω.s.heap.objs.size:=Heap.lt_size (S.keep _ _ h)
theorem Tab.keeps {P:Params} {g g':PHeap} {a a' b b' ι:List Addr} {h h':Heap} {T:List AO} (t:Tab P g a b h ι T) (S:Sub g g' a a' b b') (hk:∀ x∈ι,h'.get? x=h.get? x):Tab P g' a' b' h' ι T :=
 ⟨t.1,fun i o e=>(t.2 i o e).imp fun x q=>q.imp fun ob q=>⟨q.1,(hk x (List.mem_of_getElem? q.1)).trans q.2.1,q.2.2.mono S⟩⟩
noncomputable def gAdd (g:PHeap) (x:Addr) (o:Obj):PHeap:=fun y=>if y=x then some o else g y
theorem gAdd_sub {g:PHeap} {x:Addr} {o:Obj} {a b:List Addr} (h:g x=none):Sub g (gAdd g x o) a a b b:=by
 refine ⟨fun y o' e=>?_,fun z9 z9 h=>h,fun z9 z9 h=>h⟩
 unfold gAdd
 rw [if_neg (by rintro rfl; exact Lake.nn (h) e)]; exact e
theorem push_get {h:Heap} {o:Obj} {x:Addr} (hx:x < h.objs.size):(h.push o).get? x=h.get? x:=Heap.get?_push_ne h x o (Nat.ne_of_lt hx)
set_option tactic.hygienic true in
theorem Sat.push (S:Sat c L σ ω) (o:Obj) (hf:o.isFreed=false) (k:Nat) :
  Sat c L σ { ω with s:={ ω.s with heap:=ω.s.heap.push o,toks:=k },g:=gAdd ω.g ω.s.heap.objs.size o } ∧
  Le ω { ω with s:={ ω.s with heap:=ω.s.heap.push o,toks:=k },g:=gAdd ω.g ω.s.heap.objs.size o }:=by
 have hn:ω.g ω.s.heap.objs.size=none:=by
  cases e:ω.g ω.s.heap.objs.size with
  | none=>rfl
  | some o'=>exact absurd (S.glt e) (Nat.lt_irrefl _)
 have hs:∀ {a b:List Addr},Sub ω.g (gAdd ω.g ω.s.heap.objs.size o) a a b b:=gAdd_sub hn
 refine ⟨⟨S.ns.push o,fun x o' e=>?_,fun x o' e=>hs.hg (a:=ω.a) (b:=ω.b) _ _ (S.base x o' e),S.high,fun x v m=>?_,S.nd,?_,?_,S.apart,fun x hx=>?_,fun x o' e=>Heap.get?_push_of_some _ (S.kk x o' e),S.ok,fun x m e=>(S.nf x m e).push o,S.okf,fun x m e=>⟨(S.dis x m e).1,?_⟩,fun x o' e=>?_⟩,⟨hs,rfl,rfl,rfl,rfl,rfl⟩⟩
 ·have e':(if x=ω.s.heap.objs.size then some o else ω.g x)=some o':=e
  split at e'
  ·rename_i h; subst h; cases e'; exact Heap.get?_push_size _ hf
  ·exact Heap.get?_push_of_some _ (S.keep x o' e')
 ·obtain ⟨rv,e,r⟩:=S.loc x v m
  exact ⟨rv,e,r.mono hs⟩
 ·exact S.tT.keeps hs fun x hx=>push_get (S.tT.lt hx)
 ·exact S.tW.keeps hs fun x hx=>push_get (S.tW.lt hx)
 ·show gAdd _ _ _ x=none
  unfold gAdd
  rw [if_neg (Nat.ne_of_lt (S.lt hx))]
  exact S.out x hx
 ·show gAdd _ _ _ x=none
  unfold gAdd
  rw [if_neg (Nat.ne_of_lt (S.nf x m e).lt)]
  exact (S.dis x m e).2
 ·show gAdd _ _ _ x=none
  unfold gAdd
  rw [if_neg (Nat.ne_of_lt (Heap.lt_size (S.kk x o' e)))]
  exact S.dk x o' e
theorem Sat.pushT (S:Sat c L σ ω) (o:AO) (ob:Obj) (r:RelO c.w.params ω.g (ω.a++[ω.s.heap.objs.size]) ω.b o ob) (hf:ob.isFreed=false) (k:Nat) :
  Sat c L { σ with T:=σ.T++[o] } { ω with s:={ ω.s with heap:=ω.s.heap.push ob,toks:=k },a:=ω.a++[ω.s.heap.objs.size] } ∧
  Le ω { ω with s:={ ω.s with heap:=ω.s.heap.push ob,toks:=k },a:=ω.a++[ω.s.heap.objs.size] }:=by
 have hs:∀ {b:List Addr},Sub ω.g ω.g ω.a (ω.a++[ω.s.heap.objs.size]) b b:=fun {b}=>⟨fun z9 z9 h=>h,fun i x e=>(by
  have hi:i < ω.a.length:=(List.getElem?_eq_some_iff.mp e).1
  rw [List.getElem?_append_left hi]; exact e),fun z9 z9 h=>h⟩
 have ha:ω.s.heap.objs.size ∉ L :: (ω.a++ω.b):=fun h=>Nat.lt_irrefl _ (S.lt h)
 have hn:ω.g ω.s.heap.objs.size=none:=by
  cases e:ω.g ω.s.heap.objs.size with
  | none=>rfl
  | some o'=>exact absurd (S.glt e) (Nat.lt_irrefl _)
 have hnk:ω.k ω.s.heap.objs.size=none:=by
  cases e:ω.k ω.s.heap.objs.size with
  | none=>rfl
  | some o'=>exact absurd (Heap.lt_size (S.kk _ _ e)) (Nat.lt_irrefl _)
 refine ⟨⟨S.ns.push ob,fun x o' e=>Heap.get?_push_of_some _ (S.keep x o' e),S.base,⟨S.above,fun x hx=>by
  rcases List.mem_append.mp hx with hx | hx
  ·rcases List.mem_append.mp hx with hx | hx
   ·exact S.high.2 x (List.mem_append_left _ hx)
   ·have e:=List.mem_singleton.mp hx; have h1:=c.big; have h2:=S.above; have h3:=S.ns.lt; show 1 < x; rw [e]; exact Nat.lt_of_lt_of_le (Nat.lt_of_succ_lt h1) (Nat.le_trans h2 (Nat.le_of_lt h3))
  ·exact S.high.2 x (List.mem_append_right _ hx)⟩,fun x v m=>?_,S.nd,?_,?_,?_,fun x hx=>?_,fun x o' e=>Heap.get?_push_of_some _ (S.kk x o' e),fun x hx=>?_,fun x m e=>(S.nf x m e).push ob,fun x hx=>?_,S.dis,S.dk⟩,⟨hs,rfl,rfl,rfl,rfl,rfl⟩⟩
 ·obtain ⟨rv,e,r⟩:=S.loc x v m
  exact ⟨rv,e,r.mono hs⟩
 ·refine ⟨by simp [S.tT.1],fun i o' e=>?_⟩
  by_cases hi:i < σ.T.length
  ·rw [List.getElem?_append_left hi] at e
   obtain ⟨x,ob',e1,e2,r'⟩:=S.tT.2 i o' e
   exact ⟨x,ob',hs.ha (b:=ω.b) _ _ e1,Heap.get?_push_of_some _ e2,r'.mono hs⟩
  ·rw [List.getElem?_append_right (Nat.le_of_not_lt hi)] at e
   have h0:i - σ.T.length=0:=by
    cases hk:i - σ.T.length with
    | zero=>rfl
    | succ j=>rw [hk] at e; simp at e
   rw [h0] at e
   cases e
   refine ⟨ω.s.heap.objs.size,ob,?_,Heap.get?_push_size _ hf,r⟩
   have:i=ω.a.length:=by rw [S.tT.1]; exact (Nat.le_antisymm (Nat.le_of_not_lt fun hn=>Lake.n3 [_,_,_] 1 (.a (.v 0) (.n 1)) (.v 1) 1 (.v 2) (.n 0) 1 (.v 1) (.a (.v 2) (.v 0)) rfl hn (Nat.le_of_eq h0) (Lake.nsub _ _)) (Nat.le_of_not_lt fun hn=>Lake.n2 [_,_] 1 (.a (.v 1) (.n 1)) (.v 0) 1 (.v 0) (.v 1) rfl hn (Nat.le_of_not_lt hi)))
   subst this
   simp
 ·exact S.tW.keeps ⟨fun z9 z9 h=>h,fun z9 z9 h=>h,fun z9 z9 h=>h⟩ fun x hx=>push_get (S.tW.lt hx)
 ·have hp:(L :: (ω.a++[ω.s.heap.objs.size]++ω.b)).Perm (ω.s.heap.objs.size :: L :: (ω.a++ω.b)):=by
   rw [List.append_assoc]
   exact ((List.perm_middle (l₁:=ω.a) (l₂:=ω.b)).cons L).trans (.swap ..)
  exact hp.nodup_iff.mpr (List.nodup_cons.mpr ⟨ha,S.apart⟩)
 ·simp only [List.mem_cons,List.mem_append,List.not_mem_nil,or_false] at hx
  rcases hx with rfl | (hx | rfl) | hx
  ·exact S.out _ (.head _)
  ·exact S.out _ (.tail _ (List.mem_append_left _ hx))
  ·exact hn
  ·exact S.out _ (.tail _ (List.mem_append_right _ hx))
 ·simp only [List.mem_cons,List.mem_append,List.not_mem_nil,or_false] at hx
  rcases hx with rfl | (hx | rfl) | hx
  ·exact S.ok _ (.head _)
  ·exact S.ok _ (.tail _ (List.mem_append_left _ hx))
  ·exact hnk
  ·exact S.ok _ (.tail _ (List.mem_append_right _ hx))
 ·simp only [List.mem_cons,List.mem_append,List.not_mem_nil,or_false] at hx
  rcases hx with rfl | (hx | rfl) | hx
  ·exact S.okf _ (.head _)
  ·exact S.okf _ (.tail _ (List.mem_append_left _ hx))
  ·cases e:ω.kf ω.s.heap.objs.size with
   | none=>rfl
   | some m=>exact absurd (S.nf _ _ e).lt (Nat.lt_irrefl _)
  ·exact S.okf _ (.tail _ (List.mem_append_right _ hx))
theorem nodup_ne {l:List Addr} (nd:l.Nodup) {i j:Nat} {x y:Addr} (hi:l[i]?=some x) (hj:l[j]?=some y) (h:i≠j):x≠y:=by
 rintro rfl
 exact h ((List.getElem?_inj (List.getElem?_eq_some_iff.mp hi).1 nd).mp (hi.trans hj.symm))
theorem Sat.neW (S:Sat c L σ ω) {i j:Nat} {x y:Addr} (hi:ω.b[i]?=some x) (hj:ω.b[j]?=some y) (h:i≠j):x≠y :=
 nodup_ne (List.nodup_append.mp (List.nodup_cons.mp S.apart).2).2.1 hi hj h
theorem Sat.neT (S:Sat c L σ ω) {i j:Nat} {x y:Addr} (hi:ω.a[i]?=some x) (hj:ω.a[j]?=some y) (h:i≠j):x≠y :=
 nodup_ne (List.nodup_append.mp (List.nodup_cons.mp S.apart).2).1 hi hj h
theorem Sat.neTW (S:Sat c L σ ω) {x y:Addr} (hx:x∈ω.a) (hy:y∈ω.b):x≠y :=
 (List.nodup_append.mp (List.nodup_cons.mp S.apart).2).2.2 x hx y hy
theorem Sat.neL (S:Sat c L σ ω) {x:Addr} (hx:x∈ω.a++ω.b):L≠x:=by
 rintro rfl; exact (List.nodup_cons.mp S.apart).1 hx
set_option tactic.hygienic true in
theorem Tab.set {P:Params} {g:PHeap} {a b ι:List Addr} {h h':Heap} {T:List AO} (t:Tab P g a b h ι T) {i:Nat} {d L:Addr} {o':AO} {ob':Obj} (hd:ι[i]?=some d) (hn:∀ j x,ι[j]?=some x→i≠j→d≠x) (hL:∀ x∈ι,x≠L)
  (h1:h'.get? d=some ob') (h2:∀ x o,x≠d→x≠L→h.get? x=some o→h'.get? x=some o) (r:RelO P g a b o' ob'):Tab P g a b h' ι (T.set i o'):=by
 refine ⟨by simp [t.1],fun j o e=>?_⟩
 rw [List.getElem?_set] at e
 split at e
 ·rename_i hij
  split at e
  ·cases e; exact ⟨d,ob',hij▸hd,h1,r⟩
  ·cases e
 ·rename_i hij
  refine gC fun G hG=>?_
  obtain ⟨x,ob,e1,e2,r'⟩:=t.2 j o e
  refine hG ?_
  exact ⟨x,ob,e1,h2 x _ (Ne.symm (hn j x e1 hij)) (hL x (List.mem_of_getElem? e1)) e2,r'⟩
theorem Tab.keeps' {P:Params} {g:PHeap} {a b ι:List Addr} {h h':Heap} {T:List AO} (t:Tab P g a b h ι T) (hk:∀ x∈ι,∀ o,h.get? x=some o→h'.get? x=some o):Tab P g a b h' ι T :=
 ⟨t.1,fun i o e=>let ⟨x,ob,e1,e2,r⟩:=t.2 i o e; ⟨x,ob,e1,hk x (List.mem_of_getElem? e1) _ e2,r⟩⟩
theorem nsKeep {h h':Heap} {x:Addr} {m:Str→Option Value} (n:h.Ns x m) (k:∀ o,h.get? x=some o→h'.get? x=some o):h'.Ns x m:=by
 obtain ⟨o,es,ep,ho,r⟩:=n; exact ⟨o,es,ep,k o ho,r⟩
theorem Sat.setW (S:Sat c L σ ω) {i:Nat} {d:Addr} {o':AO} {ob':Obj} {h':Heap} (hd:ω.b[i]?=some d) (hns:h'.Ns L ω.m) (hs:∀ x o,x≠d→x≠L→ω.s.heap.get? x=some o→h'.get? x=some o) (h1:h'.get? d=some ob') (r:RelO c.w.params ω.g [] ω.b o' ob') (k:Nat) :
  Sat c L { σ with W:=σ.W.set i o' } { ω with s:={ ω.s with heap:=h',toks:=k } }∧Le ω { ω with s:={ ω.s with heap:=h',toks:=k } }:=by
 have hm:d∈ω.b:=List.mem_of_getElem? hd
 have hg:ω.g d=none:=S.out d (.tail _ (List.mem_append_right _ hm))
 have hgL:ω.g L=none:=S.out L (.head _)
 have kg:ω.k d=none:=S.ok d (.tail _ (List.mem_append_right _ hm))
 have kfd:ω.kf d=none:=S.okf d (.tail _ (List.mem_append_right _ hm))
 have kfL:ω.kf L=none:=S.okf L (.head _)
 have kgL:ω.k L=none:=S.ok L (.head _)
 refine ⟨⟨hns,fun x o e=>?_,S.base,S.high,S.loc,S.nd,?_,?_,S.apart,S.out,fun x o e=>hs x o (by rintro rfl; exact Lake.nn (kg) e) (by rintro rfl; exact Lake.nn (kgL) e) (S.kk x o e),S.ok,fun x m e=>nsKeep (S.nf x m e) (fun o q=>hs x o (by rintro rfl; exact Lake.nn (kfd) e) (by rintro rfl; exact Lake.nn (kfL) e) q),S.okf,S.dis,S.dk⟩,⟨.refl,rfl,rfl,rfl,rfl,rfl⟩⟩
 ·exact hs x o (by rintro rfl; exact Lake.nn (hg) e) (by rintro rfl; exact Lake.nn (hgL) e) (S.keep x o e)
 ·exact S.tT.keeps' fun x hx o e=>hs x o (S.neTW hx hm) (Ne.symm (S.neL (List.mem_append_left _ hx))) e
 ·exact S.tW.set hd (fun j x e hij=>S.neW hd e hij) (fun x hx=>Ne.symm (S.neL (List.mem_append_right _ hx))) h1 hs r
theorem Sat.setT (S:Sat c L σ ω) {i:Nat} {d:Addr} {o':AO} {ob':Obj} {h':Heap} (hd:ω.a[i]?=some d) (hns:h'.Ns L ω.m) (hs:∀ x o,x≠d→x≠L→ω.s.heap.get? x=some o→h'.get? x=some o) (h1:h'.get? d=some ob') (r:RelO c.w.params ω.g ω.a ω.b o' ob') (k:Nat) :
  Sat c L { σ with T:=σ.T.set i o' } { ω with s:={ ω.s with heap:=h',toks:=k } }∧Le ω { ω with s:={ ω.s with heap:=h',toks:=k } }:=by
 have hm:d∈ω.a:=List.mem_of_getElem? hd
 have hg:ω.g d=none:=S.out d (.tail _ (List.mem_append_left _ hm))
 have hgL:ω.g L=none:=S.out L (.head _)
 have kg:ω.k d=none:=S.ok d (.tail _ (List.mem_append_left _ hm))
 have kfd:ω.kf d=none:=S.okf d (.tail _ (List.mem_append_left _ hm))
 have kfL:ω.kf L=none:=S.okf L (.head _)
 have kgL:ω.k L=none:=S.ok L (.head _)
 refine ⟨⟨hns,fun x o e=>?_,S.base,S.high,S.loc,S.nd,?_,?_,S.apart,S.out,fun x o e=>hs x o (by rintro rfl; exact Lake.nn (kg) e) (by rintro rfl; exact Lake.nn (kgL) e) (S.kk x o e),S.ok,fun x m e=>nsKeep (S.nf x m e) (fun o q=>hs x o (by rintro rfl; exact Lake.nn (kfd) e) (by rintro rfl; exact Lake.nn (kfL) e) q),S.okf,S.dis,S.dk⟩,⟨.refl,rfl,rfl,rfl,rfl,rfl⟩⟩
 ·exact hs x o (by rintro rfl; exact Lake.nn (hg) e) (by rintro rfl; exact Lake.nn (hgL) e) (S.keep x o e)
 ·exact S.tT.set hd (fun j x e hij=>S.neT hd e hij) (fun x hx=>Ne.symm (S.neL (List.mem_append_left _ hx))) h1 hs r
 ·exact S.tW.keeps' fun x hx o e=>hs x o (Ne.symm (S.neTW hm hx)) (Ne.symm (S.neL (List.mem_append_right _ hx))) e
noncomputable def others (h₀ h:Heap) (L d:Addr):List (Addr×Obj):=(List.range h.objs.size).filterMap fun x=>if x=L∨x=d∨(h₀.get? x).isSome then none else (h.get? x).map fun o=>(x,o)
set_option tactic.hygienic true in
theorem others_news {h₀ h:Heap} {L d:Addr} {p:Addr×Obj} (hp:p∈others h₀ h L d):h.get? p.1=some p.2∧p.1≠L∧h₀.get? p.1=none∧p.1≠d:=by
 obtain ⟨x,_,e⟩:=List.mem_filterMap.mp hp
 split at e
 ·cases e
 ·rename_i hc
  simp only [not_or,Bool.not_eq_true,Option.isSome_eq_false_iff,Option.isNone_iff_eq_none] at hc
  cases q:h.get? x with
  | none=>rw [q] at e; cases e
  | some o=>rw [q] at e; cases e; exact ⟨q,hc.1,hc.2.2,hc.2.1⟩
theorem others_mem {h₀ h:Heap} {L d x:Addr} {o:Obj} (e:h.get? x=some o) (h1:x≠L) (h2:h₀.get? x=none) (h3:x≠d):(x,o)∈others h₀ h L d:=by
 refine List.mem_filterMap.mpr ⟨x,List.mem_range.mpr (Heap.lt_size e),?_⟩
 rw [if_neg (by simp [h1,h2,h3]),e]; rfl
theorem Sat.ledger (S:Sat c L σ ω) {d:Addr} {od:Obj} (hd:d∈ω.a++ω.b) (ho:ω.s.heap.get? d=some od):News c.h₀ L ω.s.heap (others c.h₀ ω.s.heap L d++(d,od) :: []):=by
 intro p hp
 rcases List.mem_append.mp hp with hp | hp
 ·have:=others_news hp; exact ⟨this.1,this.2.1,this.2.2.1⟩
 ·rw [List.mem_singleton] at hp
  subst hp
  refine ⟨ho,Ne.symm (S.neL hd),?_⟩
  cases q:c.h₀.get? d with
  | none=>rfl
  | some o=>have:=S.base d o q; exact Lake.nn (S.out d (.tail _ hd)) this
theorem ledger_back {m:Str→Option Value} {d:Addr} {od':Obj} {h h':Heap} (F:Fr c.h₀ L h' m) (N:News c.h₀ L h' (others c.h₀ h L d++(d,od') :: [])) (K:∀ x o,c.h₀.get? x=some o→h.get? x=some o) :
  h'.Ns L m∧(∀ x o,x≠d→x≠L→h.get? x=some o→h'.get? x=some o)∧h'.get? d=some od':=by
 refine ⟨F.ns,fun x o h1 h2 e=>?_,(N (d,od') (by simp)).1⟩
 cases q:c.h₀.get? x with
 | none=>exact (N (x,o) (List.mem_append_left _ (others_mem e h2 q h1))).1
 | some o'=>have:=K x o' q; rw [e] at this; cases this; exact F.keep x o q
inductive PutL (x:Str) (v:V):List (Str×Option V)→List (Str×Option V)→Prop
 | head {w r}:PutL x v ((x,w) :: r) ((x,some v) :: r)
 | tail {p r r'}:PutL x v r r'→PutL x v (p :: r) (p :: r')
theorem PutL.keys {x:Str} {v:V} {l l':List (Str×Option V)} (h:PutL x v l l'):l'.map (·.1)=l.map (·.1):=by
 induction h with
 | head=>rfl
 | tail _ ih=>simp [ih]
theorem PutL.mem {x:Str} {v:V} {l l':List (Str×Option V)} (h:PutL x v l l'):x∈l.map (·.1):=by
 induction h with
 | head=>exact .head _
 | tail _ ih=>exact .tail _ ih
theorem PutL.look {x:Str} {v:V} {l l':List (Str×Option V)} (h:PutL x v l l') (nd:(l.map (·.1)).Nodup) {y:Str} {u:V} (m:(y,some u)∈l'):(y=x∧u=v)∨(y≠x∧(y,some u)∈l):=by
 induction h with
 | @head w r =>
  rcases List.mem_cons.mp m with e | m'
  ·cases e; exact .inl ⟨rfl,rfl⟩
  ·refine .inr ⟨?_,.tail _ m'⟩
   rintro rfl
   exact (List.nodup_cons.mp nd).1 (List.mem_map.mpr ⟨(y,some u),m',rfl⟩)
 | @tail p r r' h ih =>
  rcases List.mem_cons.mp m with e | m
  ·refine .inr ⟨?_,e▸.head _⟩
   rintro rfl
   subst e
   exact (List.nodup_cons.mp nd).1 h.mem
  ·rcases ih (List.nodup_cons.mp nd).2 m with h | h
   ·exact .inl h
   ·exact .inr ⟨h.1,.tail _ h.2⟩
theorem Sat.store (S:Sat c L σ ω) {x:Str} {v:V} {rv:Value} {l':List (Str×Option V)} (p:PutL x v σ.loc l') (r:RV c ω v rv) {h':Heap} (hn:h'.Ns L (fun y=>if y=x then some rv else ω.m y)) (hs:Heap.SameBut L ω.s.heap h') (k:Nat) :
  Sat c L { σ with loc:=l' } { ω with s:={ ω.s with heap:=h',toks:=k },m:=fun y=>if y=x then some rv else ω.m y }∧Le ω { ω with s:={ ω.s with heap:=h',toks:=k },m:=fun y=>if y=x then some rv else ω.m y }:=by
 have hg:ω.g L=none:=S.out L (.head _)
 have kg:ω.k L=none:=S.ok L (.head _)
 refine ⟨⟨hn,fun y o e=>?_,S.base,S.high,fun y u m=>?_,?_,?_,?_,S.apart,S.out,fun y o e=>(hs.2 y (by rintro rfl; exact Lake.nn (kg) e)).trans (S.kk y o e),S.ok,fun x m e=>(S.nf x m e).sameBut hs (by rintro rfl; exact Lake.nn (S.okf _ (.head _)) e),S.okf,S.dis,S.dk⟩,⟨.refl,rfl,rfl,rfl,rfl,rfl⟩⟩
 ·exact (hs.2 y (by rintro rfl; exact Lake.nn (hg) e)).trans (S.keep y o e)
 ·rcases p.look S.nd m with ⟨rfl,rfl⟩ | ⟨hne,m⟩
  ·exact ⟨rv,if_pos rfl,r⟩
  ·obtain ⟨ru,e,r⟩:=S.loc y u m
   exact ⟨ru,(if_neg hne).trans e,r⟩
 ·show (l'.map (·.1)).Nodup
  rw [p.keys]; exact S.nd
 ·exact S.tT.keeps .refl fun x hx=>hs.2 x (Ne.symm (S.neL (List.mem_append_left _ hx)))
 ·exact S.tW.keeps .refl fun x hx=>hs.2 x (Ne.symm (S.neL (List.mem_append_right _ hx)))
end
end HL.Lake
end
noncomputable section
namespace HL.Lake
open PySem PySem.W PySem.Calls PyProof.Rows
section
variable {c:Cx} {n:Nat} {L:Addr} {env:Env} {X:St→Prop} {σ:St} {pos:Pos} {ω:Wd}
theorem Post.all {α β:Type} {rel:Wd→β→α→Prop} {Q:β→St→Prop} {F:α→Shared→Prop} (k:∀ a b σ' ω',Le ω ω'→Sat c L σ' ω'→rel ω' b a→Q b σ'→F a ω'.s):∀ a s',Post c L rel ω Q a s'→F a s':=by
 rintro a s ⟨b,σ',ω',l,rfl,S,r,q⟩
 exact k a b σ' ω' l S r q
theorem wpX {α:Type} {A:Around} {t:Sem α} {Q Q':α→Shared→Prop} {ω ω':Wd} {s:Shared} (l:Le ω ω') (h:wpAny (model c.prog c.w) A t Q (PostX c env A ω' X) s) (hQ:∀ a s',Q a s'→Q' a s') :
  wpAny (model c.prog c.w) A t Q' (PostX c env A ω X) s:=wpAny_mono h hQ fun z9 z9 x=>x.le l
theorem Sat.dictW {i:Nat} {l:List (Str×V)} (S:Sat c L σ ω) (h:σ.W[i]?=some (.dict l)):∃ d es k,ω.b[i]?=some d∧ω.s.heap.get? d=some (dictOf es k)∧RelD c.w.params ω.g [] ω.b l es∧(l.map (·.1)).Nodup:=by
 refine gC fun G hG=>?_
 obtain ⟨d,ob,e,ho,r⟩:=S.tW.2 i _ h
 refine hG ?_
 refine gC fun G hG=>?_
 cases r with
 | dict r nd=>refine hG ?_; exact ⟨d,_,_,e,ho,r,nd⟩
theorem Sat.instAt {C:Addr} {i:Nat} {rv:Value} {l:List (Str×V)} (S:Sat c L σ ω) (r:RV c ω (.inst C i) rv) (h:σ.W[i]?=some (.dict l)) :
  ∃ x d es k,rv=.ref x∧ω.b[i]?=some d∧ω.g x=some ⟨.ref C,some d,.plain,#[]⟩∧InstAt ω.s.heap x ⟨.ref C,some d,.plain,#[]⟩ C (some (dictOf es k))∧ω.s.heap.get? d=some (dictOf es k)∧RelD c.w.params ω.g [] ω.b l es∧(l.map (·.1)).Nodup:=by
 refine gC fun G hG=>?_
 obtain ⟨d,es,k,e,ho,rd,nd⟩:=S.dictW h
 obtain ⟨x,d',rfl,hd,hg⟩:=r.inv
 refine hG ?_
 rw [hd] at e; cases e
 exact ⟨x,d,es,k,rfl,hd,hg,⟨S.keep _ _ hg,rfl,rfl,ho⟩,ho,rd,nd⟩
theorem subT {P:Params} {g:PHeap} {a b:List Addr} {v rv} (h:Rel P g [] b v rv):Rel P g a b v rv:=h.mono ⟨fun z9 z9 h=>h,fun z9 z9 h=>(Lake.nn rfl h),fun z9 z9 h=>h⟩
noncomputable def OwnOk (K:Frag) (C:Addr) (x:Str):Prop:=plainGet K C x=true∧hasDictIn K C=true∧∃ attr,findIn K (.ref C) x=some attr∧noGet K attr=true
noncomputable def MethOk (K:Frag) (C:Addr) (x:Str) (f:Addr):Prop:=plainGet K C x=true∧findIn K (.ref C) x=some (some (.ref f))∧isFn K (.ref f)=true∧keepIn K (.ref f)=true∧fnIn K f=true
noncomputable def BoundOk (K:Frag) (C:Addr) (x:Str) (f:Addr):Prop:=MethOk K C x f∧hasDictIn K C=true∧specialIn K (.ref f) "__get__"=some (some (.builtin "function.__get__"))∧takesIn K (.ref f)=some false∧copiedNames.contains x=false
noncomputable def SetOk (K:Frag) (C:Addr) (x:Str):Prop:=findIn K (.ref C) "__setattr__"=some (some (.builtin "object.__setattr__"))∧plainOver K C=true∧takerIn K C x=some none∧hasDictIn K C=true
noncomputable abbrev GA (c:Cx) (n:Nat) (env:Env) (x:Str) (v:V) (Q:V→St→Prop) (X:St→Prop) (σ:St):Prop :=
 WO c n env (fun | [o]=>getAttr o x true | _=>unsupported "") [v] (RV c) Q X σ
theorem RelL.one {P:Params} {g:PHeap} {a b:List Addr} {v:V} {rvs:List Value} (h:RelL P g a b [v] rvs):∃ rv,rvs=[rv]∧Rel P g a b v rv:=by
 cases h with | cons r t=>cases t; exact ⟨_,rfl,r⟩
theorem RelL.two {P:Params} {g:PHeap} {a b:List Addr} {v w:V} {rvs:List Value} (h:RelL P g a b [v,w] rvs):∃ rv rw,rvs=[rv,rw]∧Rel P g a b v rv∧Rel P g a b w rw:=by
 cases h with | cons r t=>obtain ⟨rw,rfl,r'⟩:=t.one; exact ⟨_,rw,rfl,r,r'⟩
theorem RelL.three {P:Params} {g:PHeap} {a b:List Addr} {v w z:V} {rvs:List Value} (h:RelL P g a b [v,w,z] rvs):∃ rv rw rz,rvs=[rv,rw,rz]∧Rel P g a b v rv∧Rel P g a b w rw∧Rel P g a b z rz:=by
 cases h with | cons r t=>obtain ⟨rw,rz,rfl,r',r''⟩:=t.two; exact ⟨_,rw,rz,rfl,r,r',r''⟩
noncomputable def notBuiltin:V→Bool
 | .st (.builtin _)=>false
 | _=>true
theorem handedIn_of {P:Params} {g:PHeap} {a b:List Addr} {v:V} {rv:Value} (h:Rel P g a b v rv) (k:notBuiltin v=true):handedIn rv=true:=by
 cases h <;> first | rfl | (cases rv <;> first | rfl | cases k)
theorem ga_own {Q:V→St→Prop} {C:Addr} {i:Nat} {l:List (Str×V)} {x:Str} {v:V} (hk:OwnOk c.K C x) (hW:σ.W[i]?=some (.dict l)) (hm:(x,v)∈l) (hb:notBuiltin v=true) (h:Q v σ):GA c n env x (.inst C i) Q X σ:=fun A ω rvs z9 hS hr=>by
 refine gC fun G hG=>?_
 obtain ⟨rv,rfl,r⟩:=hr.one
 obtain ⟨x',d,es,k,rfl,hd,hg,I,ho,rd,nd⟩:=hS.instAt r hW
 obtain ⟨rv,e,r'⟩:=rd.get nd hm
 obtain ⟨h1,h2,attr,h3,h4⟩:=hk
 refine hG ?_
 exact get_own hS.fr c.X I h1 h2 h3 h4 e (handedIn_of r' hb) (doneT hS (subT r') h)
theorem ga_cls {Q:V→St→Prop} {C:Addr} {i:Nat} {l:List (Str×V)} {x:Str} {v:V} {rv:Value} (hg:plainGet c.K C x=true) (hh:hasDictIn c.K C=true) (ha:findIn c.K (.ref C) x=some (some rv)) (hn:specialIn c.K rv "__get__"=some none)
  (hv:handedIn rv=true) (hc:copiedNames.contains x=false) (hr':Stat c v rv) (hW:σ.W[i]?=some (.dict l)) (hm:x ∉ l.map (·.1)) (h:Q v σ):GA c n env x (.inst C i) Q X σ:=fun A ω rvs z9 hS hr=>by
 refine gC fun G hG=>?_
 obtain ⟨rv,rfl,r⟩:=hr.one
 obtain ⟨x',d,es,k,rfl,hd,_,I,ho,rd,nd⟩:=hS.instAt r hW
 refine hG ?_
 exact get_cls hS.fr c.X I hg hh ha hn hv hc (rd.miss hm) (doneT hS (hr'.rel (hS.tok _)) h)
theorem ga_bound {Q:V→St→Prop} {C:Addr} {i:Nat} {l:List (Str×V)} {x:Str} {f:Addr} (hk:BoundOk c.K C x f) (hW:σ.W[i]?=some (.dict l)) (hm:x ∉ l.map (·.1))
  (h:Q (.meth (.ref f) (.inst C i)) σ):GA c n env x (.inst C i) Q X σ:=fun A ω rvs z9 hS hr=>by
 refine gC fun G hG=>?_
 obtain ⟨rv,rfl,r⟩:=hr.one
 obtain ⟨x',d,es,k,rfl,hd,hg,I,ho,rd,nd⟩:=hS.instAt r hW
 obtain ⟨⟨h1,h2,h3,_,_⟩,h4,h5,h6,h7⟩:=hk
 refine hG ?_
 refine get_bind hS.X I (plainGet_of h1).1 (findObj_fn h4 h2 h5 h6 h7 (by show lookIn x (dictOf es k)=_; rw [lookIn_dict,rd.miss hm])) (plainGet_of h1).2
  (wpAny_call (fn_get (s:={ ω.s with toks:=ω.s.toks+1 }) hS.X (beq_iff_eq.mp h3) (handed_on rfl ?_)))
 obtain ⟨S',l'⟩:=hS.push (methodObj (.ref f) (.ref x')) rfl (ω.s.toks+1)
 refine ⟨_,σ,_,l',rfl,S',.meth (if_pos rfl) (r.mono l'.sub),h⟩
theorem setA {C:Addr} {i:Nat} {l l':List (Str×V)} {x:Str} {v:V} {rv rx:Value} {A:Around} {Q:Unit→St→Prop} (hk:SetOk c.K C x) (hW:σ.W[i]?=some (.dict l)) (hp:Put x v l l') (hz:l.length≤1000) (hS:Sat c env.locals σ ω)
  (rx':RV c ω (.inst C i) rx) (r:Rel c.w.params ω.g [] ω.b v rv) (h:Q () { σ with W:=σ.W.set i (.dict l') }):wpAny (model c.prog c.w) A (setAttr rx x rv) (Post c env.locals (fun z9 z9 z9=>True) ω Q) (PostX c env A ω X) ω.s:=by
 refine gC fun G hG=>?_
 obtain ⟨x',d,es,k,rfl,hd,hg,I,ho,rd,nd⟩:=hS.instAt rx' hW
 obtain ⟨h1,h2,h3,h4⟩:=hk
 have N:=hS.ledger (List.mem_append_right _ (List.mem_of_getElem? hd)) ho
 have rd':RelD c.w.params ω.g [] ω.b l' (putL x (PyData.keyHash c.w.params x) (.str x (ω.s.toks+1)) rv es):=rd.put nd hp r
 obtain ⟨ru,eg,_⟩:=rd'.get (by rw [hp.keys]; exact nd) (x:=x) (v:=v) (by
  clear hW hz h rd rd' nd
  induction hp with
  | head=>exact .head _
  | tail _ ih=>exact .tail _ ih)
 refine hG ?_
 have hsome:(getL x es).isSome=true:=by
  unfold getL; split
  ·rfl
  ·rw [rd.noRef]; rfl
 refine set_dict hS.fr c.X (news':=others c.h₀ ω.s.heap env.locals d++(d,dictOf (putL x (PyData.keyHash c.w.params x) (.str x (ω.s.toks+1)) rv es) (putN x es k)) :: []) N I rfl h1 h2 h3 h4 hsome rfl ?_ ?_ ?_
 ·have:∀ q:List (Addr×Obj),(∀ p∈q,p.1≠d)→∀ o o',Upd d o o' (q++(d,o) :: []) (q++(d,o') :: []):=by
   intro q
   induction q with
   | nil=>intro _ o o'; exact .head (fun z9 h=>nomatch h)
   | cons p q ih=>intro hq o o'; exact .tail (hq p (.head _)) (ih (fun y hy=>hq y (.tail _ hy)) o o')
  exact this _ (fun p hp=>(others_news hp).2.2.2) _ _
 ·rw [← rd'.keys]
  have:=congrArg List.length hp.keys
  simp only [List.length_map] at this
  exact Nat.le_trans (Nat.le_of_eq this) hz
 ·intro h' F' N'
  obtain ⟨q1,q2,q3⟩:=ledger_back F' N' hS.fr.keep
  obtain ⟨S',l''⟩:=hS.setW (o':=.dict l') hd q1 q2 q3 (.dict rd' (by rw [hp.keys]; exact nd)) (ω.s.toks+2)
  exact ⟨(),_,_,l'',rfl,S',trivial,h⟩
theorem setNew {C:Addr} {i:Nat} {l:List (Str×V)} {x:Str} {v:V} {rv rx:Value} {A:Around} {Q:Unit→St→Prop} (hk:SetOk c.K C x) (hW:σ.W[i]?=some (.dict l)) (hp:x ∉ l.map (·.1)) (hz:l.length+1≤1000) (hS:Sat c env.locals σ ω)
  (rx':RV c ω (.inst C i) rx) (r:Rel c.w.params ω.g [] ω.b v rv) (h:Q () { σ with W:=σ.W.set i (.dict (l++[(x,v)])) }):wpAny (model c.prog c.w) A (setAttr rx x rv) (Post c env.locals (fun z9 z9 z9=>True) ω Q) (PostX c env A ω X) ω.s:=by
 refine gC fun G hG=>?_
 obtain ⟨x',d,es,k,rfl,hd,hg,I,ho,rd,nd⟩:=hS.instAt rx' hW
 obtain ⟨h1,h2,h3,h4⟩:=hk
 refine hG ?_
 have N:=hS.ledger (List.mem_append_right _ (List.mem_of_getElem? hd)) ho
 have rd':RelD c.w.params ω.g [] ω.b (l++[(x,v)]) (putL x (PyData.keyHash c.w.params x) (.str x (ω.s.toks+1)) rv es):=rd.putNew hp r
 have hsome:(getL x es).isSome=true:=by rw [rd.miss hp]; rfl
 refine set_dict hS.fr c.X (news':=others c.h₀ ω.s.heap env.locals d++(d,dictOf (putL x (PyData.keyHash c.w.params x) (.str x (ω.s.toks+1)) rv es) (putN x es k)) :: []) N I rfl h1 h2 h3 h4 hsome rfl ?_ ?_ ?_
 ·have:∀ q:List (Addr×Obj),(∀ p∈q,p.1≠d)→∀ o o',Upd d o o' (q++(d,o) :: []) (q++(d,o') :: []):=by
   intro q
   induction q with
   | nil=>intro _ o o'; exact .head (fun z9 h=>nomatch h)
   | cons p q ih=>intro hq o o'; exact .tail (hq p (.head _)) (ih (fun y hy=>hq y (.tail _ hy)) o o')
  exact this _ (fun p hp=>(others_news hp).2.2.2) _ _
 ·rw [← rd'.keys]
  simpa using hz
 ·intro h' F' N'
  refine gC fun G hG=>?_
  obtain ⟨q1,q2,q3⟩:=ledger_back F' N' hS.fr.keep
  have nd':((l++[(x,v)]).map (·.1)).Nodup:=by
   rw [List.map_append,List.nodup_append]
   exact ⟨nd,by simp,fun y hy z hz=>by simp only [List.map_cons,List.map_nil,List.mem_singleton] at hz; subst hz; rintro rfl; exact hp hy⟩
  obtain ⟨S',l''⟩:=hS.setW (o':=.dict (l++[(x,v)])) hd q1 q2 q3 (.dict rd' nd') (ω.s.toks+2)
  refine hG ?_
  exact ⟨(),_,_,l'',rfl,S',trivial,h⟩
theorem e_attr {Q:V→St→Prop} {o:PySem.Expr} {x:Str} (hn:notSuper o=true) (h:WE c n env o (fun v σ'=>GA c n env x v Q X σ') X σ):WE c n env (.Attribute o x pos) Q X σ:=fun A ω hR hS=>by
 rw [arm_eval_Attribute,attributeBase_plain hn]
 refine wpAny_bind (wpAny_mono (h A ω hR hS) ?_ fun z9 z9 x=>x)
 refine Post.all fun rv v σ₁ ω₁ l₁ S₁ r h₁=>?_
 refine wpAny_bind (wpAny_standAt (wpAny_bind (wpAny_holding (wpX l₁ (h₁ A ω₁ [rv] (hR.le l₁) S₁ (.cons r .nil)) ?_))))
 rintro ru s₂ p
 exact wpAny_bind (wpAny_letTemporaryGo (wpAny_pure (p.le l₁)))
end
end HL.Lake
end
noncomputable section
namespace HL.Lake
open PySem PySem.W PySem.Calls PyProof.Rows
set_option backward.match.sparseCases false in
mutual
noncomputable def V.noLo:V→Bool
 | .lo _=>false
 | .tup l=>V.noLoL l
 | .list l=>V.noLoL l
 | .dict l=>V.noLoD l
 | .meth _ s=>s.noLo
 | _=>true
noncomputable def V.noLoL:List V→Bool
 | []=>true
 | v :: r=>v.noLo&&V.noLoL r
noncomputable def V.noLoD:List (Str×V)→Bool
 | []=>true
 | (_,v) :: r=>v.noLo&&V.noLoD r
end
theorem Rel.noLo {P:Params} {g:PHeap} {a a' b:List Addr} {v:V} {rv:Value} (h:Rel P g a b v rv):v.noLo=true→Rel P g a' b v rv:=@Rel.rec P g a b (fun v rv z9=>v.noLo=true→Rel P g a' b v rv) (fun v rv z9=>V.noLoL v=true→RelL P g a' b v rv) (fun v rv z9=>V.noLoD v=true→RelD P g a' b v rv) (fun z9=>.none) (fun z9=>.bool) (fun z9=>.int) (fun z9=>.str) (fun z9=>.st) (fun h z9=>.ob h) (fun z9 e=>absurd (show false=true from e) Bool.false_ne_true) (fun h k z9=>.inst h k) (fun h z9 ih e=>.tup h (ih e)) (fun h z9 ih e=>.list h (ih e)) (fun h q z9 n ih e=>.dict h q (ih e) n) (fun h z9 ih e=>.meth h (ih e)) (fun z9=>.nil) (fun z9 z9 i1 i2 e=>.cons (i1 (andT e).1) (i2 (andT e).2)) (fun z9=>.nil) (fun z9 z9 i1 i2 e=>.cons (i1 (andT e).1) (i2 (andT e).2)) _ _ h
theorem RelL.noLo {P:Params} {g:PHeap} {a a' b:List Addr} {v:List V} {rv:List Value} (h:RelL P g a b v rv):V.noLoL v=true→RelL P g a' b v rv:=@RelL.rec P g a b (fun v rv z9=>v.noLo=true→Rel P g a' b v rv) (fun v rv z9=>V.noLoL v=true→RelL P g a' b v rv) (fun v rv z9=>V.noLoD v=true→RelD P g a' b v rv) (fun z9=>.none) (fun z9=>.bool) (fun z9=>.int) (fun z9=>.str) (fun z9=>.st) (fun h z9=>.ob h) (fun z9 e=>nomatch e) (fun h k z9=>.inst h k) (fun h z9 ih e=>.tup h (ih e)) (fun h z9 ih e=>.list h (ih e)) (fun h q z9 n ih e=>.dict h q (ih e) n) (fun h z9 ih e=>.meth h (ih e)) (fun z9=>.nil) (fun z9 z9 i1 i2 e=>.cons (i1 (andT e).1) (i2 (andT e).2)) (fun z9=>.nil) (fun z9 z9 i1 i2 e=>.cons (i1 (andT e).1) (i2 (andT e).2)) _ _ h
theorem RelD.noLo {P:Params} {g:PHeap} {a a' b:List Addr} {v:List (Str×V)} {rv:List DictEntry} (h:RelD P g a b v rv):V.noLoD v=true→RelD P g a' b v rv:=@RelD.rec P g a b (fun v rv z9=>v.noLo=true→Rel P g a' b v rv) (fun v rv z9=>V.noLoL v=true→RelL P g a' b v rv) (fun v rv z9=>V.noLoD v=true→RelD P g a' b v rv) (fun z9=>.none) (fun z9=>.bool) (fun z9=>.int) (fun z9=>.str) (fun z9=>.st) (fun h z9=>.ob h) (fun z9 e=>nomatch e) (fun h k z9=>.inst h k) (fun h z9 ih e=>.tup h (ih e)) (fun h z9 ih e=>.list h (ih e)) (fun h q z9 n ih e=>.dict h q (ih e) n) (fun h z9 ih e=>.meth h (ih e)) (fun z9=>.nil) (fun z9 z9 i1 i2 e=>.cons (i1 (andT e).1) (i2 (andT e).2)) (fun z9=>.nil) (fun z9 z9 i1 i2 e=>.cons (i1 (andT e).1) (i2 (andT e).2)) _ _ h
noncomputable def F2 {α β:Type} (R:α→β→Prop) (l:List α):List β→Prop:=@List.rec α (fun z9=>List β→Prop) (fun r=>r=[]) (fun x z9 ih r=>∃ y t,r=y :: t∧R x y∧ih t) l
theorem F2.nil {α β:Type} {R:α→β→Prop}:F2 R [] []:=rfl
theorem F2.cons {α β:Type} {R:α→β→Prop} {x:α} {y:β} {l:List α} {r:List β} (h:R x y) (t:F2 R l r):F2 R (x :: l) (y :: r):=⟨_,_,rfl,h,t⟩
theorem F2.ind {α β:Type} {R:α→β→Prop} {M:(l:List α)→(r:List β)→F2 R l r→Prop} (nil:M [] [] .nil) (cons:∀ {x y l r} (h:R x y) (t:F2 R l r),M l r t→M (x :: l) (y :: r) (.cons h t)) {l:List α} {r:List β} (h:F2 R l r):M l r h:=by
 induction l generalizing r with
 | nil=>obtain rfl:=(h:r=[]); exact nil
 | cons x l ih=>obtain ⟨y,t,rfl,h1,h2⟩:=(h:∃ y t,r=y :: t∧R x y∧F2 R l t); exact cons h1 h2 (ih h2)
noncomputable abbrev RelKw (P:Params) (g:PHeap) (a b:List Addr):List (Str×V)→List (Str×Value)→Prop:=F2 fun p q=>p.1=q.1∧Rel P g a b p.2 q.2
theorem RelKw.ind {P:Params} {g:PHeap} {a b:List Addr} {M:(l:List (Str×V))→(r:List (Str×Value))→RelKw P g a b l r→Prop} (nil:M [] [] .nil) (cons:∀ {k v rv l rl} (h:Rel P g a b v rv) (t:RelKw P g a b l rl),M l rl t→M ((k,v) :: l) ((k,rv) :: rl) (.cons ⟨rfl,h⟩ t)) {l:List (Str×V)} {rl:List (Str×Value)} (h:RelKw P g a b l rl):M l rl h :=
 F2.ind nil (fun {x y l r} h t ih=>by obtain ⟨k,v⟩:=x; obtain ⟨k',w⟩:=y; have e:k=k':=h.1; subst e; exact cons h.2 t ih) h
structure Same (s s':Shared):Prop where
 gens:gk s'.gens=gk s.gens
 drawn:s'.drawn=s.drawn
 os:s'.os=s.os
noncomputable def KnownW (s:Shared) (b:List Addr) (g k:PHeap) (x:Addr) (o:Obj):Prop:=g x=some o∨k x=some o∨(x∈b∧s.heap.get? x=some o)
noncomputable def RetW (c:Cx) (A:Around) (s:Shared) (b:List Addr) (g k:PHeap) (kf:Addr→Option (Str→Option Value)) (Q:V→List AO→Prop) (X:List AO→Prop) (r:Result) (s':Shared):Prop :=
 match r with
 | .ok (.ret rv)=>∃ v W' b' g',Sub g g' [] [] b b'∧Same s s'∧SatW c W' s' b' g' k kf∧Rel c.w.params g' [] b' v rv∧Q v W'
 | .ok _=>False
 | .error e=>∃ W' b' g',Sub g g' [] [] b b'∧Same s s'∧SatW c W' s' b' g' k kf∧(∃ l,A.frames=some l∧Flies c l e s'.heap (KnownW s' b' g' k))∧X W'
noncomputable def CallS (c:Cx) (n:Nat) (f:Value) (vs:List V) (kw:List (Str×V)) (Q:V→List AO→Prop) (X:List AO→Prop) (W:List AO):Prop :=
 ∀ A s b g k kf rvs rkw,Room n A→(∃ l,A.frames=some l∧Outs c kf l)→SatW c W s b g k kf→RelL c.w.params g [] b vs rvs→RelKw c.w.params g [] b kw rkw →
  codeAny (model c.prog c.w) A (.call f ⟨rvs,rkw⟩) (RetW c A s b g k kf Q X) s
theorem CallS.mono {c:Cx} {n:Nat} {f:Value} {vs:List V} {kw:List (Str×V)} {Q Q':V→List AO→Prop} {X X':List AO→Prop} {W:List AO} (h:CallS c n f vs kw Q X W) (hQ:∀ v W,Q v W→Q' v W) (hX:∀ W,X W→X' W):CallS c n f vs kw Q' X' W :=
 fun A s b g k kf rvs rkw a1 a2 a3 a4 a5=>codeAny_mono (h A s b g k kf rvs rkw a1 a2 a3 a4 a5) fun r s' z=>by
  rcases r with e | (_ | _ | _ | v)
  ·obtain ⟨W',b',g',z1,z2,z3,z4,z5⟩:=z; exact ⟨W',b',g',z1,z2,z3,z4,hX _ z5⟩
  ·exact z
  ·exact z
  ·exact z
  ·obtain ⟨v,W',b',g',z1,z2,z3,z4,z5⟩:=z; exact ⟨v,W',b',g',z1,z2,z3,z4,hQ _ _ z5⟩
section
variable {c:Cx} {n:Nat} {env:Env} {X:St→Prop} {σ:St} {pos:Pos} {ω:Wd} {sc:Scope}
noncomputable def kBelow (L:Addr) (ω:Wd):PHeap:=fun x=>if x=L∨x∈ω.b∨(ω.kf x).isSome∨(ω.g x).isSome then none else ω.s.heap.get? x
noncomputable def kfBelow (L:Addr) (ω:Wd):Addr→Option (Str→Option Value):=fun x=>if x=L then some ω.m else ω.kf x
set_option tactic.hygienic true in
theorem Sat.toW {L:Addr} (S:Sat c L σ ω):SatW c σ.W ω.s ω.b ω.g (kBelow L ω) (kfBelow L ω):=by
 have hb:∀ x∈ω.b,x≠L:=fun x hx=>Ne.symm (S.neL (List.mem_append_right _ hx))
 refine ⟨S.keep,S.base,S.tW,(List.nodup_append.mp (List.nodup_cons.mp S.apart).2).2.1,fun x hx=>S.out x (.tail _ (List.mem_append_right _ hx)),?_,?_,?_,?_,?_,?_,⟨Nat.le_trans S.above (Nat.le_of_lt S.ns.lt),fun x hx=>S.high.2 x (List.mem_append_right _ hx)⟩⟩
 ·intro x o e
  unfold kBelow at e
  split at e
  ·cases e
  ·exact e
 ·intro x hx
  unfold kBelow
  rw [if_pos (.inr (.inl hx))]
 ·intro x m e
  unfold kfBelow at e
  split at e
  ·rename_i h; subst h; cases e; exact S.ns
  ·exact S.nf x m e
 ·intro x hx
  unfold kfBelow
  rw [if_neg (hb x hx)]
  exact S.okf x (.tail _ (List.mem_append_right _ hx))
 ·intro x m e
  unfold kfBelow at e
  split at e
  ·rename_i h; subst h; exact ⟨by unfold kBelow; rw [if_pos (.inl rfl)],S.out _ (.head _)⟩
  ·exact ⟨by unfold kBelow; rw [if_pos (.inr (.inr (.inl (by rw [e]; rfl))))],(S.dis x m e).2⟩
 ·intro x o e
  unfold kBelow at e
  split at e
  ·cases e
  ·rename_i h
   cases q:ω.g x with
   | none=>rfl
   | some o'=>exact absurd (.inr (.inr (.inr (by rw [q]; rfl)))) h
theorem Sat.kBelow_a {L:Addr} (S:Sat c L σ ω) {x:Addr} (hx:x∈ω.a):∃ o,ω.s.heap.get? x=some o∧kBelow L ω x=some o:=by
 refine gC fun G hG=>?_
 obtain ⟨i,hi,e⟩:=List.mem_iff_getElem.mp hx
 have hi':i < σ.T.length:=S.tT.1▸hi
 obtain ⟨y,ob,ey,ho,_⟩:=S.tT.2 i σ.T[i] (by simp [hi'])
 refine hG ?_
 rw [List.getElem?_eq_getElem hi,e] at ey
 cases ey
 refine ⟨ob,ho,?_⟩
 unfold kBelow
 rw [if_neg]
 ·exact ho
 ·rintro (h | h | h | h)
  ·exact S.neL (List.mem_append_left _ hx) h.symm
  ·exact S.neTW hx h rfl
  ·rw [S.okf x (.tail _ (List.mem_append_left _ hx))] at h; cases h
  ·rw [S.out x (.tail _ (List.mem_append_left _ hx))] at h; cases h
theorem Sat.back {L:Addr} (S:Sat c L σ ω) {W':List AO} {s':Shared} {b':List Addr} {g':PHeap} (hs:Sub ω.g g' [] [] ω.b b') (hm:Same ω.s s') (S':SatW c W' s' b' g' (kBelow L ω) (kfBelow L ω)) :
  Sat c L { σ with W:=W' } { ω with s:=s',b:=b',g:=g' }∧Le ω { ω with s:=s',b:=b',g:=g' }:=by
 have hsub:∀ {a:List Addr},Sub ω.g g' a a ω.b b':=⟨hs.hg,fun z9 z9 h=>h,hs.hb⟩
 have kL:kfBelow L ω L=some ω.m:=if_pos rfl
 have kff:∀ x m,ω.kf x=some m→kfBelow L ω x=some m:=fun x m e=>by
  unfold kfBelow; rw [if_neg]; exact e
  rintro rfl; exact Lake.nn (S.okf _ (.head _)) e
 have kk:∀ x o,ω.k x=some o→kBelow L ω x=some o:=fun x o e=>by
  unfold kBelow
  rw [if_neg]
  ·exact S.kk x o e
  ·rintro (h | h | h | h)
   ·subst h; exact Lake.nn (S.ok _ (.head _)) e
   ·exact Lake.nn (S.ok x (.tail _ (List.mem_append_right _ h))) e
   ·obtain ⟨m,hm⟩:=Option.isSome_iff_exists.mp h; exact Lake.nn ((S.dis x m hm).1) e
   ·rw [S.dk x o e] at h; cases h
 have hLb:L ∉ b':=fun h=>by have:=S'.okf L h; rw [kL] at this; cases this
 have hab:∀ x∈ω.a,x ∉ b':=fun x hx h=>by
  refine gC fun G hG=>?_
  obtain ⟨o,_,e⟩:=S.kBelow_a hx
  refine hG ?_
  exact Lake.nn (S'.ok x h) e
 refine ⟨⟨S'.nf L _ kL,S'.keep,S'.base,⟨S.above,fun x hx=>(List.mem_append.mp hx).elim (fun q=>S.high.2 x (List.mem_append_left _ q)) fun q=>S'.sz.2 x q⟩,fun x v m=>?_,S.nd,?_,S'.tab,?_,?_,fun x o e=>S'.kk x o (kk x o e),?_,fun x m e=>S'.nf x m (kff x m e),?_,fun x m e=>⟨(S.dis x m e).1,(S'.dis x m (kff x m e)).2⟩,fun x o e=>S'.dk x o (kk x o e)⟩,⟨hsub,hm.gens,hm.drawn,hm.os,rfl,rfl⟩⟩
 ·obtain ⟨rv,e,r⟩:=S.loc x v m
  exact ⟨rv,e,r.mono hsub⟩
 ·refine ⟨S.tT.1,fun i o e=>?_⟩
  refine gC fun G hG=>?_
  obtain ⟨x,ob,e1,e2,r⟩:=S.tT.2 i o e
  obtain ⟨ob',h1,h2⟩:=S.kBelow_a (List.mem_of_getElem? e1)
  refine hG ?_
  rw [e2] at h1; cases h1
  exact ⟨x,ob,e1,S'.kk x ob h2,r.mono hsub⟩
 ·have:=List.nodup_append.mp (List.nodup_cons.mp S.apart).2
  refine List.nodup_cons.mpr ⟨fun h=>?_,List.nodup_append.mpr ⟨this.1,S'.nodup,fun x hx y hy=>?_⟩⟩
  ·rcases List.mem_append.mp h with h | h
   ·exact (List.nodup_cons.mp S.apart).1 (List.mem_append_left _ h)
   ·exact hLb h
  ·rintro rfl; exact hab x hx hy
 ·intro x hx
  rcases List.mem_cons.mp hx with rfl | hx
  ·exact (S'.dis _ _ kL).2
  ·rcases List.mem_append.mp hx with hx | hx
   ·obtain ⟨o,_,e⟩:=S.kBelow_a hx
    exact S'.dk x o e
   ·exact S'.out x hx
 ·intro x hx
  rcases List.mem_cons.mp hx with rfl | hx
  ·exact S.ok _ (.head _)
  ·rcases List.mem_append.mp hx with hx | hx
   ·exact S.ok x (.tail _ (List.mem_append_left _ hx))
   ·cases q:ω.k x with
    | none=>rfl
    | some o=>have:=kk x o q; exact Lake.nn (S'.ok x hx) this
 ·intro x hx
  rcases List.mem_cons.mp hx with rfl | hx
  ·exact S.okf _ (.head _)
  ·rcases List.mem_append.mp hx with hx | hx
   ·exact S.okf x (.tail _ (List.mem_append_left _ hx))
   ·cases q:ω.kf x with
    | none=>rfl
    | some m=>have:=kff x m q; exact Lake.nn (S'.okf x hx) this
end
end HL.Lake
end
noncomputable section
namespace HL.Lake
open PySem PySem.W PySem.Calls PyProof.Rows
mutual
inductive Frz (T:List AO):V→V→Prop
 | same {v}:v.noLo=true→Frz T v v
 | lol {i l l'}:T[i]?=some (.list l)→FrzL T l l'→Frz T (.lo i) (.list l')
 | lod {i l l'}:T[i]?=some (.dict l)→FrzD T l l'→Frz T (.lo i) (.dict l')
 | tup {l l'}:FrzL T l l'→Frz T (.tup l) (.tup l')
 | list {l l'}:FrzL T l l'→Frz T (.list l) (.list l')
 | dict {l l'}:FrzD T l l'→Frz T (.dict l) (.dict l')
inductive FrzL (T:List AO):List V→List V→Prop
 | same {v}:V.noLoL v=true→FrzL T v v
 | nil:FrzL T [] []
 | cons {v v' l l'}:Frz T v v'→FrzL T l l'→FrzL T (v :: l) (v' :: l')
inductive FrzD (T:List AO):List (Str×V)→List (Str×V)→Prop
 | same {v}:V.noLoD v=true→FrzD T v v
 | nil:FrzD T [] []
 | cons {k v v' l l'}:Frz T v v'→FrzD T l l'→FrzD T ((k,v) :: l) ((k,v') :: l')
end
theorem FrzD.keys {T:List AO} {l l':List (Str×V)} (h:FrzD T l l'):l'.map (·.1)=l.map (·.1):=by
 induction l generalizing l' with
 | nil=>cases h <;> rfl
 | cons p l ih =>
  cases h with
  | same=>rfl
  | cons h r=>simp [ih r]
noncomputable def gEnd (g:PHeap) (a:List Addr) (h:Heap):PHeap:=fun x=>if x∈a then h.get? x else g x
section
variable {P:Params} {g:PHeap} {a b:List Addr} {h:Heap} {T:List AO}
theorem gEnd_sub (ho:∀ x∈a,g x=none) {a' b':List Addr}:Sub g (gEnd g a h) a' a' b' b':=⟨fun x o e=>by
 unfold gEnd
 rw [if_neg (fun hx=>by exact Lake.nn (ho x hx) e)]; exact e,fun z9 z9 h=>h,fun z9 z9 h=>h⟩
theorem Frz.rel (t:Tab P g a b h a T) (ho:∀ x∈a,g x=none) (h1:∀ x∈a,1 < x) {v v':V} {rv:Value} (f:Frz T v v'):Rel P g a b v rv→Rel P (gEnd g a h) [] b v' rv :=
 @Frz.rec T (fun v v' z9=>∀ rv,Rel P g a b v rv→Rel P (gEnd g a h) [] b v' rv) (fun l l' z9=>∀ rl,RelL P g a b l rl→RelL P (gEnd g a h) [] b l' rl) (fun l l' z9=>∀ rl,RelD P g a b l rl→RelD P (gEnd g a h) [] b l' rl)
  (fun e z9 r=>(r.noLo e).mono (gEnd_sub ho))
  (fun e z9 ih z9 r=>by
   obtain ⟨y,rfl,hi⟩:=r.inv
   obtain ⟨x,ob,e1,e2,q⟩:=t.2 _ _ e
   rw [hi] at e1; cases e1
   cases q with
   | list q=>exact .list (by unfold gEnd; rw [if_pos (List.mem_of_getElem? hi)]; exact e2) (ih _ q))
  (fun e f ih z9 r=>by
   obtain ⟨y,rfl,hi⟩:=r.inv
   obtain ⟨x,ob,e1,e2,q⟩:=t.2 _ _ e
   rw [hi] at e1; cases e1
   cases q with
   | dict q nd=>exact .dict (by unfold gEnd; rw [if_pos (List.mem_of_getElem? hi)]; exact e2) (h1 _ (List.mem_of_getElem? hi)) (ih _ q) (by rw [f.keys]; exact nd))
  (fun z9 ih z9 r=>by
   obtain ⟨x,xs,n,rfl,hg,r⟩:=r.inv
   exact .tup ((gEnd_sub (a':=a) (b':=b) ho).hg _ _ hg) (ih _ r))
  (fun z9 ih z9 r=>by
   obtain ⟨x,xs,n,rfl,hg,r⟩:=r.inv
   exact .list ((gEnd_sub (a':=a) (b':=b) ho).hg _ _ hg) (ih _ r))
  (fun f ih z9 r=>by
   obtain ⟨x,xs,n,rfl,hg,q,r,nd⟩:=r.inv
   exact .dict ((gEnd_sub (a':=a) (b':=b) ho).hg _ _ hg) q (ih _ r) (by rw [f.keys]; exact nd))
  (fun e z9 r=>(r.noLo e).mono (gEnd_sub ho))
  (fun z9 r=>by cases r; exact .nil)
  (fun z9 z9 i1 i2 z9 r=>by cases r with | cons r rs=>exact .cons (i1 _ r) (i2 _ rs))
  (fun e z9 r=>(r.noLo e).mono (gEnd_sub ho))
  (fun z9 r=>by cases r; exact .nil)
  (fun z9 z9 i1 i2 z9 r=>by cases r with | cons r rs=>exact .cons (i1 _ r) (i2 _ rs))
  _ _ f rv
end
section
variable {c:Cx} {n:Nat} {env:Env} {X:St→Prop} {σ:St} {pos:Pos} {ω:Wd} {sc:Scope}
theorem Sat.leave {L:Addr} (S:Sat c L σ ω):SatW c σ.W ω.s ω.b (gEnd ω.g ω.a ω.s.heap) ω.k ω.kf:=by
 have ho:∀ x∈ω.a,ω.g x=none:=fun x hx=>S.out x (.tail _ (List.mem_append_left _ hx))
 have hs:∀ {a' b':List Addr},Sub ω.g (gEnd ω.g ω.a ω.s.heap) a' a' b' b':=gEnd_sub ho
 refine ⟨fun x o e=>?_,fun x o e=>(hs (a':=[]) (b':=[])).hg x o (S.base x o e),S.tW.keeps hs fun z9 z9=>rfl,(List.nodup_append.mp (List.nodup_cons.mp S.apart).2).2.1,fun x hx=>?_,S.kk,fun x hx=>S.ok x (.tail _ (List.mem_append_right _ hx)),S.nf,fun x hx=>S.okf x (.tail _ (List.mem_append_right _ hx)),fun x m e=>⟨(S.dis x m e).1,?_⟩,fun x o e=>?_,⟨Nat.le_trans S.above (Nat.le_of_lt S.ns.lt),fun x hx=>S.high.2 x (List.mem_append_right _ hx)⟩⟩
 ·unfold gEnd at e
  split at e
  ·exact e
  ·exact S.keep x o e
 ·unfold gEnd
  rw [if_neg (fun h=>S.neTW h hx rfl)]
  exact S.out x (.tail _ (List.mem_append_right _ hx))
 ·unfold gEnd
  rw [if_neg (fun h=>by exact Lake.nn (S.okf x (.tail _ (List.mem_append_left _ h))) e)]
  exact (S.dis x m e).2
 ·unfold gEnd
  rw [if_neg (fun h=>by exact Lake.nn (S.ok x (.tail _ (List.mem_append_left _ h))) e)]
  exact S.dk x o e
noncomputable def RetP (Q:V→List AO→Prop) (fl:Fl) (σ:St):Prop:=match fl with
 | .ret v=>∃ v',Frz σ.T v v'∧Q v' σ.W
 | .next=>Q .none σ.W
 | _=>False
noncomputable def frameAddrs (l:List Env):List Addr:=l.filterMap (·.frame)
theorem exitX {A:Around} {ω₀:Wd} {XB:List AO→Prop} {e:Value} {s' s₀:Shared} {b₀:List Addr} {g₀:PHeap} {R:Result→Shared→Prop} (he:EnvOk env sc) (hns:EnvF env) (hfm:∃ outer,A.frames=some outer∧Outs c ω₀.kf outer) (hL:c.h₀.objs.size≤env.locals)
  (hsub:Sub g₀ ω₀.g [] [] b₀ ω₀.b) (hsame:Same s₀ ω₀.s)
  (h:PostX c env (A.deeper env) ω₀ (fun σ'=>XB σ'.W) e s')
  (hR:∀ s'' W' b' g',Sub g₀ g' [] [] b₀ b'→Same s₀ s''→SatW c W' s'' b' g' ω₀.k ω₀.kf→(∃ l,A.frames=some l∧Flies c l e s''.heap (KnownW s'' b' g' ω₀.k))→XB W'→R (.error e) s'') :
  wpAny (model c.prog c.w) (A.deeper env) (leaving env e) (fun z9 s''=>R (.error e) s'') (fun e' s''=>R (.error e') s'') s':=by
 obtain ⟨outer,hA,ho⟩:=hfm
 obtain ⟨σ',ω',l',rfl,S,hx,q⟩:=h
 have hfr:(A.deeper env).frames=some (env :: outer):=by show A.frames.map _=_; rw [hA]; rfl
 have ho':Outs c ω'.kf outer:=by rw [l'.kf]; exact ho
 have hns:env.frame=some env.locals:=hns.1
 -- what is the same in both: the end
 have fin:∀ (ea:Addr) (a0:Value) (B h':Heap),e=.ref ea→Heap.FlyingW B outer ea (.type "KeyError") a0 h'→ω'.s.heap.UpToSlots h'→(∀ x o,c.h₀.get? x=some o→B.get? x=some o)→(∀ x o,Known ω' x o→B.get? x=some o) →
   R (.error e) { ω'.s with heap:=h' }:=by
  intro ea a0 B h' hea hfl hup hB0 hBK
  subst hea
  have kp:∀ x o,Known ω' x o→h'.get? x=some o:=fun x o k=>hfl.1 x o (hBK x o k)
  refine hR _ σ'.W ω'.b ω'.g (hsub.trans ⟨l'.sub.hg,fun z9 z9 h=>h,l'.sub.hb⟩) ⟨l'.gens.trans hsame.gens,l'.drawn.trans hsame.drawn,l'.os.trans hsame.os⟩ ?_ ⟨outer,hA,ea,a0,B,rfl,hfl,hB0,fun x o k=>hBK x o ?_⟩ q
  ·rw [← l'.k,← l'.kf]
   refine ⟨fun x o e=>kp x o (.inl e),S.base,?_,(List.nodup_append.mp (List.nodup_cons.mp S.apart).2).2.1,fun x hx=>S.out x (.tail _ (List.mem_append_right _ hx)),fun x o e=>kp x o (.inr (.inl e)),fun x hx=>S.ok x (.tail _ (List.mem_append_right _ hx)),fun x m e=>hup.ns (S.nf x m e),fun x hx=>S.okf x (.tail _ (List.mem_append_right _ hx)),S.dis,S.dk,⟨Nat.le_trans S.above (Nat.le_of_lt (hup.ns S.ns).lt),fun x hx=>S.high.2 x (List.mem_append_right _ hx)⟩⟩
   exact S.tW.keeps' fun x hx o e=>kp x o (.inr (.inr ⟨List.mem_append_right _ hx,e⟩))
  ·rcases k with k | k | ⟨k1,k2⟩
   ·exact .inl k
   ·exact .inr (.inl (by rw [l'.k]; exact k))
   ·refine .inr (.inr ⟨List.mem_append_right _ k1,?_⟩)
    refine gC fun G hG=>?_
    obtain ⟨i,hi,ex⟩:=List.mem_iff_getElem.mp k1
    have hi':i < σ'.W.length:=S.tW.1▸hi
    obtain ⟨y,ob,ey,hy,_⟩:=S.tW.2 i σ'.W[i] (by simp [hi'])
    refine hG ?_
    rw [List.getElem?_eq_getElem hi,ex] at ey
    cases ey
    have:=kp x ob (.inr (.inr ⟨List.mem_append_right _ k1,hy⟩))
    rw [k2] at this; cases this; exact hy
 refine gC fun G hG=>?_
 rcases hx with ⟨l,hl,ea,a0,B,rfl,hfl,hB0,hBK⟩ | ⟨ea,vs,h1,rfl,hx,h10,h1K,h1f,m1,h1L⟩
 ·refine hG ?_
  rw [hfr] at hl; cases hl
  exact wpAny_leaves_onW hfr hns hfl fun h' k1 k2=>fin ea a0 B h' rfl k1 k2 hB0 hBK
 ·refine hG ?_
  have hin:∀ x∈frameAddrs (env :: outer),x=env.locals∨∃ m,ω'.kf x=some m:=fun x hx=>by
   obtain ⟨e',he',hf'⟩:=List.mem_filterMap.mp hx
   rcases List.mem_cons.mp he' with rfl | he'
   ·rw [hns] at hf'; cases hf'; exact .inl rfl
   ·obtain ⟨_,L',m,hf2,hm,_⟩:=ho' e' he'
    rw [hf'] at hf2; cases hf2; exact .inr ⟨m,hm⟩
  have hB0:∀ x o,c.h₀.get? x=some o→(hideAll h1 (frameAddrs (env :: outer))).get? x=some o:=fun x o q=>hideAll_get _ (h10 x o q) fun hm=>by
   rcases hin x hm with rfl | ⟨m,hm⟩
   ·exact absurd (Heap.lt_size q) (Nat.not_lt_of_le hL)
   ·have:=(S.dis x m hm).2; rw [S.base x o q] at this; cases this
  have hBK:∀ x o,Known ω' x o→(hideAll h1 (frameAddrs (env :: outer))).get? x=some o:=fun x o k=>hideAll_get _ (h1K x o k) fun hm=>by
   rcases hin x hm with rfl | ⟨m,hm⟩
   ·rcases k with k | k | ⟨k,_⟩
    ·exact Lake.nn (S.out _ (.head _)) k
    ·exact Lake.nn (S.ok _ (.head _)) k
    ·exact S.neL k rfl
   ·rcases k with k | k | ⟨k,_⟩
    ·exact Lake.nn ((S.dis x m hm).2) k
    ·exact Lake.nn ((S.dis x m hm).1) k
    ·exact Lake.nn (S.okf x (.tail _ k)) hm
  have hff:h1.FunFrames (hideAll h1 (frameAddrs (env :: outer))) (env :: outer):=by
   refine ⟨by rw [he.scope,he.kind]; decide,?_,?_⟩
   ·refine gC fun G hG=>?_
    obtain ⟨ob,es,ep,ho,hd,_⟩:=h1L
    refine hG ?_
    exact ⟨env.locals,ob,hns,hideAll_none _ (List.mem_filterMap.mpr ⟨env,.head _,hns⟩),ho,fun vs q=>by rw [hd] at q; (first | obtain rfl:=q.inv | obtain ⟨_,rfl⟩:=q.inv | cases q)⟩
   ·have:∀ l:List Env,(∀ e'∈l,e'∈outer)→h1.FunFrames (hideAll h1 (frameAddrs (env :: outer))) l:=by
     intro l
     induction l with
     | nil=>intro _; trivial
     | cons e' l ih =>
      intro hl
      refine gC fun G hG=>?_
      obtain ⟨hk,L',m,hf,hm,_⟩:=ho' e' (hl e' (.head _))
      obtain ⟨ob,es,ep,ho,hd,_⟩:=h1f L' m hm
      refine hG ?_
      exact ⟨hk,⟨L',ob,hf,hideAll_none _ (List.mem_filterMap.mpr ⟨e',.tail _ (hl e' (.head _)),hf⟩),ho,fun vs q=>by rw [hd] at q; (first | obtain rfl:=q.inv | obtain ⟨_,rfl⟩:=q.inv | cases q)⟩,ih fun z hz=>hl z (.tail _ hz)⟩
    exact this outer fun z9 h=>h
  exact wpAny_leaves_madeW hfr hns (fun b o q=>of_hideAll _ q) hff hx fun h' t k1 z9 z9 k2=>fin ea _ _ h' rfl k1 k2 hB0 hBK
end
end HL.Lake
end
noncomputable section
namespace HL.Lake
open PySem PySem.W PySem.Calls PyProof.Rows
structure DefOk (K:Frag) (f:Addr) (fd:FuncData) (sc:Scope) (body:List Stmt):Prop where
 look:∃ o,K.lookup f=some o∧o.data=.func fd
 body:fd.body=.stmts body
 scope:fd.scope=sc
 globals:fd.globals=mainGlobals
 builtins:fd.builtins=builtinsNs
 code:codeIn K fd.code fd.qualname=true
 kind:sc.kind=.function
 co:sc.isCoroutine=false
noncomputable def Binds (c:Cx) (fd:FuncData) (vs:List V) (kw:List (Str×V)) (bs:List (Str×V)):Prop :=
 ∀ (s:Shared) (g:PHeap) (b:List Addr) (rvs:List Value) (rkw:List (Str×Value)),c.K.In s.heap→(∀ x o,c.K.lookup x=some o→g x=some o)→RelL c.w.params g [] b vs rvs→RelKw c.w.params g [] b kw rkw →
  ∃ rb,BindsTo s fd ⟨rvs,rkw⟩ rb∧RelKw c.w.params g [] b bs rb
theorem RelKw.keys {P:Params} {g:PHeap} {a b:List Addr} {l:List (Str×V)} {rl:List (Str×Value)} (h:RelKw P g a b l rl):rl.map (·.1)=l.map (·.1):=by
 induction h using F2.ind with
 | nil=>rfl
 | cons h _ ih=>rw [List.map_cons,List.map_cons,ih,h.1]
theorem RelKw.look {P:Params} {g:PHeap} {a b:List Addr} {l:List (Str×V)} {rl:List (Str×Value)} (h:RelKw P g a b l rl) (nd:(l.map (·.1)).Nodup) {x:Str} {v:V} (m:(x,v)∈l):∃ rv,rl.reverse.lookup x=some rv∧Rel P g a b v rv:=by
 have key:∃ rv,(x,rv)∈rl∧Rel P g a b v rv:=by
  induction h using RelKw.ind with
  | nil=>cases m
  | cons r _ ih =>
   rcases List.mem_cons.mp m with e | m
   ·cases e; exact ⟨_,.head _,r⟩
   ·obtain ⟨rv,h1,h2⟩:=ih (List.nodup_cons.mp nd).2 m
    exact ⟨rv,.tail _ h1,h2⟩
 obtain ⟨rv,h1,h2⟩:=key
 refine ⟨rv,?_,h2⟩
 have nd':(rl.reverse.map (·.1)).Nodup:=by rw [List.map_reverse,(List.reverse_perm _).nodup_iff,h.keys]; exact nd
 have h1':(x,rv)∈rl.reverse:=List.mem_reverse.mpr h1
 clear h h1 m nd h2
 generalize rl.reverse=q at nd' h1'
 induction q with
 | nil=>cases h1'
 | cons p q ih =>
  obtain ⟨y,w⟩:=p
  simp only [List.map_cons,List.nodup_cons] at nd'
  rcases List.mem_cons.mp h1' with e | m
  ·cases e; simp [List.lookup_cons]
  ·have:(x==y)=false:=by
    rw [beq_eq_false_iff_ne]; rintro rfl; exact nd'.1 (List.mem_map.mpr ⟨_,m,rfl⟩)
   rw [List.lookup_cons,this]; exact ih nd'.2 m
noncomputable def loc0 (bs:List (Str×V)) (others:List Str):List (Str×Option V):=bs.map (fun p=>(p.1,some p.2))++others.map fun x=>(x,none)
section
variable {c:Cx} {n:Nat} {X:List AO→Prop} {Q:V→List AO→Prop} {sc:Scope}
theorem callS_def {f:Addr} {fd:FuncData} {body:List Stmt} {vs:List V} {kw bs:List (Str×V)} {others:List Str} {W₀:List AO} (D:DefOk c.K f fd sc body) (hb:Binds c fd vs kw bs)
  (hnd:((bs.map (·.1))++others).Nodup) (hloc:∀ x∈bs.map (·.1),sc.names.lookup x=some .local) (hcell:∀ x∈sc.names,x.2≠.cell)
  (h:∀ env,EnvOk env sc→EnvF env→WS c n env body (RetP Q) (fun σ=>X σ.W) ⟨loc0 bs others,[],W₀⟩) (hgen:sc.isGenerator=false):CallS c (n+1) (.ref f) vs kw Q X W₀:=by
 intro A s b g k kf rvs rkw hR hF S hv hk
 refine gC fun G hG=>?_
 obtain ⟨outer,hA,ho⟩:=hF
 have XK:c.K.In s.heap:=fun x o e=>S.keep x o (S.base x o (c.X x o e))
 obtain ⟨rb,hbt,hrb⟩:=hb s g b rvs rkw XK (fun x o e=>S.base x o (c.X x o e)) hv hk
 obtain ⟨o,hl,hod⟩:=D.look
 refine hG ?_
 have hlim:s.heap.NoLimit:=c.nl.keeps fun x o e=>S.keep x o (S.base x o e)
 refine codeAny_call_def (fd:=fd) (body:=body) (binds:=rb) (hR.dl (k:=0) (Nat.zero_le _)) (XK _ _ hl) hod hlim (codeRec_of XK D.code) D.body hbt (by rw [D.scope]; exact hcell) (fun x hx=>by
   rw [D.scope]; exact hloc _ (by rw [← hrb.keys]; exact List.mem_map.mpr ⟨x,hx,rfl⟩)) (fun h₁ hns hkeep=>?_) (by rw [D.scope]; exact D.co) (by rw [D.scope]; exact hgen) (by rw [D.scope]; exact D.kind)
 generalize henv:callEnv fd s.heap.objs.size f=env
 have hloc':env.locals=s.heap.objs.size:=by rw [← henv]; rfl
 have he:EnvOk env sc:=⟨by rw [← henv]; exact D.scope,D.kind,by rw [← henv]; exact D.globals,by rw [← henv]; exact D.builtins⟩
 have hlt:∀ x∈b,x < s.heap.objs.size:=fun x hx=>S.tab.lt hx
 have gnone:g s.heap.objs.size=none:=by
  cases q:g s.heap.objs.size with
  | none=>rfl
  | some o'=>exact absurd (Heap.lt_size (S.keep _ _ q)) (Nat.lt_irrefl _)
 have knone:k s.heap.objs.size=none:=by
  cases q:k s.heap.objs.size with
  | none=>rfl
  | some o'=>exact absurd (Heap.lt_size (S.kk _ _ q)) (Nat.lt_irrefl _)
 have kfnone:kf s.heap.objs.size=none:=by
  cases q:kf s.heap.objs.size with
  | none=>rfl
  | some m=>exact absurd (S.nf _ _ q).lt (Nat.lt_irrefl _)
 let ω₀:Wd:={ s:={ s with heap:=h₁,toks:=s.toks+rb.length },m:=fun x=>rb.reverse.lookup x,a:=[],b:=b,g:=g,k:=k,kf:=kf }
 have hsize:c.h₀.objs.size≤s.heap.objs.size:=S.sz.1
 have S₀:Sat c env.locals ⟨loc0 bs others,[],W₀⟩ ω₀:=by
  rw [hloc']
  refine ⟨hns,fun x o e=>hkeep x o (S.keep x o e),S.base,⟨hsize,fun x hx=>S.sz.2 x (by simpa [ω₀] using hx)⟩,?_,?_,⟨rfl,fun i o e=>(by simp at e)⟩,S.tab.keeps .refl fun x hx=>?_,?_,?_,fun x o e=>hkeep x o (S.kk x o e),?_,fun x m e=>(S.nf x m e).keeps hkeep,?_,S.dis,S.dk⟩
  ·intro x v m
   rcases List.mem_append.mp m with m | m
   ·obtain ⟨p,hp,e⟩:=List.mem_map.mp m
    cases e
    exact hrb.look (List.nodup_append.mp hnd).1 hp
   ·obtain ⟨p,hp,e⟩:=List.mem_map.mp m
    cases e
  ·unfold loc0
   simpa [List.map_append,List.map_map,Function.comp_def] using hnd
  ·refine gC fun G hG=>?_
   obtain ⟨i,hi,e⟩:=List.mem_iff_getElem.mp hx
   have hi':i < W₀.length:=S.tab.1▸hi
   obtain ⟨y,ob,ey,ho,_⟩:=S.tab.2 i W₀[i] (by simp [hi'])
   refine hG ?_
   rw [List.getElem?_eq_getElem hi,e] at ey
   cases ey
   rw [ho]; exact hkeep _ _ ho
  ·exact List.nodup_cons.mpr ⟨fun h=>Nat.lt_irrefl _ (hlt _ h),S.nodup⟩
  ·intro x hx
   rcases List.mem_cons.mp hx with rfl | hx
   ·exact gnone
   ·exact S.out x hx
  ·intro x hx
   rcases List.mem_cons.mp hx with rfl | hx
   ·exact knone
   ·exact S.ok x hx
  ·intro x hx
   rcases List.mem_cons.mp hx with rfl | hx
   ·exact kfnone
   ·exact S.okf x hx
 have hf:EnvF env:=by rw [← henv]; exact ⟨rfl,rfl⟩
 have h0:c.h₀.get? env.locals=none:=by
  cases q:c.h₀.get? env.locals with
  | none=>rfl
  | some o'=>exact absurd (Heap.lt_size q) (Nat.not_lt_of_le (hloc'▸hsize))
 have hR':Here c n env (A.deeper env) ω₀.kf:=⟨⟨by have:=hR.depth; show A.depth+1+_ < _; exact (Nat.lt_of_not_le fun hn=>Lake.n2 [_,_] 1 (.n 600) (.a (.a (.v 0) (.n 1)) (.m 10 (.v 1))) 1 (.a (.a (.v 0) (.m 10 (.a (.v 1) (.n 1)))) (.n 1)) (.n 600) rfl hn this),by have:=hR.units; show A.units+3+_ < _; exact (Nat.lt_of_not_le fun hn=>Lake.n2 [_,_] 1 (.n 9000) (.a (.a (.v 0) (.n 3)) (.m 50 (.v 1))) 1 (.a (.a (.v 0) (.m 50 (.a (.v 1) (.n 1)))) (.n 1)) (.n 9000) rfl hn this),hR.handled⟩,⟨env :: outer,by show A.frames.map _=_; rw [hA]; rfl,fun e' he'=>by
  rcases List.mem_cons.mp he' with q | q
  ·subst q; exact ⟨by rw [he.scope,he.kind]; decide,_,hf.1,h0,.inl rfl⟩
  ·obtain ⟨h1,L',m,h2,h3,h4⟩:=ho e' q; exact ⟨h1,L',h2,h4,.inr ⟨m,h3⟩⟩⟩,fun z9=>⟨outer,by show A.frames.map _=_; rw [hA]; rfl,ho⟩⟩
 refine wpAny_mono (h env he hf (A.deeper env) ω₀ hR' S₀) ?_ ?_
 ·refine Post.all fun f fl σ' ω' l S' r q=>?_
  have SW:=S'.leave
  rw [l.k,l.kf] at SW
  have hs:Sub g (gEnd ω'.g ω'.a ω'.s.heap) [] [] b ω'.b :=
   (⟨l.sub.hg,fun z9 z9 h=>h,l.sub.hb⟩:Sub g ω'.g [] [] b ω'.b).trans (gEnd_sub fun x hx=>S'.out x (.tail _ (List.mem_append_left _ hx)))
  have hsame:Same s ω'.s:=⟨l.gens,l.drawn,l.os⟩
  cases r with
  | next=>exact ⟨.none,σ'.W,_,_,hs,hsame,SW,.none,q⟩
  | brk=>exact q.elim
  | cont=>exact q.elim
  | ret r =>
   obtain ⟨v',fz,q⟩:=q
   exact ⟨v',σ'.W,_,_,hs,hsame,SW,fz.rel S'.tT (fun x hx=>S'.out x (.tail _ (List.mem_append_left _ hx))) (fun x hx=>S'.high.2 x (List.mem_append_left _ hx)) r,q⟩
 ·intro e s' hx
  exact exitX he hf ⟨outer,hA,ho⟩ (by rw [hloc']; exact hsize) .refl ⟨rfl,rfl,rfl⟩ hx fun s'' W' b' g' z1 z2 z3 z4 z5=>⟨W',b',g',z1,⟨z2.gens,z2.drawn,z2.os⟩,z3,z4,z5⟩
end
end HL.Lake
end
noncomputable section
namespace HL.Lake
open PySem PySem.W PySem.Calls PyProof.Rows
section
variable {c:Cx} {n:Nat} {env:Env} {X:St→Prop} {σ:St} {pos:Pos} {ω:Wd} {sc:Scope}
noncomputable def callF:List Value→Sem Value
 | f :: vs=>call f vs
 | []=>unsupported ""
noncomputable abbrev CV (c:Cx) (n:Nat) (env:Env) (f:V) (vs:List V) (Q:V→St→Prop) (X:St→Prop) (σ:St):Prop:=WO c n env callF (f :: vs) (RV c) Q X σ
theorem Here.outs {A:Around} {L:Addr} (h:Here c n env A ω.kf) (hL:env.locals=L):∃ l,A.frames=some l∧Outs c (kfBelow L ω) l:=by
 obtain ⟨l,hA,ho⟩:=h.fm
 refine ⟨_,hA,fun e he'=>?_⟩
 obtain ⟨h1,L',h2,h4,h3⟩:=ho e he'
 by_cases hq:L'=L
 ·subst hq
  exact ⟨h1,L',ω.m,h2,by unfold kfBelow; rw [if_pos rfl],h4⟩
 ·rcases h3 with h3 | ⟨m,h3⟩
  ·exact absurd (h3.trans hL) hq
  ·exact ⟨h1,L',m,h2,by unfold kfBelow; rw [if_neg hq]; exact h3,h4⟩
theorem known_back {L:Addr} (S:Sat c L σ ω) {s':Shared} {b':List Addr} {g':PHeap} {W':List AO} (S':SatW c W' s' b' g' (kBelow L ω) (kfBelow L ω)) {x:Addr} {o:Obj}
  (h:Known { ω with s:=s',b:=b',g:=g' } x o):KnownW s' b' g' (kBelow L ω) x o:=by
 rcases h with h | h | ⟨h1,h2⟩
 ·exact .inl h
 ·refine .inr (.inl ?_)
  unfold kBelow
  rw [if_neg]
  ·exact S.kk x o h
  ·rintro (q | q | q | q)
   ·subst q; exact Lake.nn (S.ok _ (.head _)) h
   ·exact Lake.nn (S.ok x (.tail _ (List.mem_append_right _ q))) h
   ·obtain ⟨m,hm⟩:=Option.isSome_iff_exists.mp q; exact Lake.nn ((S.dis x m hm).1) h
   ·rw [S.dk x o h] at q; (first | obtain rfl:=q.inv | obtain ⟨_,rfl⟩:=q.inv | cases q)
 ·rcases List.mem_append.mp h1 with h1 | h1
  ·refine .inr (.inl ?_)
   obtain ⟨ob,_,e⟩:=S.kBelow_a h1
   have:=S'.kk x ob e
   rw [h2] at this; cases this; exact e
  ·exact .inr (.inr ⟨h1,h2⟩)
theorem back_call {A:Around} {Q:V→St→Prop} {rv:Result} {s':Shared} (hS:Sat c env.locals σ ω)
  (z:RetW c A ω.s ω.b ω.g (kBelow env.locals ω) (kfBelow env.locals ω) (fun v W'=>Q v { σ with W:=W' }) (fun W'=>X { σ with W:=W' }) rv s') :
  match (generalizing:=false) rv with | .ok (.ret v)=>Post c env.locals (RV c) ω Q v s' | .ok _=>False | .error e=>PostX c env A ω X e s':=by
 rcases rv with e | (_ | _ | _ | v)
 ·refine gC fun G hG=>?_
  obtain ⟨W',b',g',z1,z2,z3,⟨l,z4,ea,a0,B,z6,z7,z8,z9⟩,z5⟩:=z
  obtain ⟨S',l'⟩:=hS.back z1 z2 z3
  refine hG ?_
  exact ⟨_,_,l',rfl,S',.inl ⟨l,z4,ea,a0,B,z6,z7,z8,fun x o k=>z9 x o (known_back hS z3 k)⟩,z5⟩
 ·exact z
 ·exact z
 ·exact z
 ·refine gC fun G hG=>?_
  obtain ⟨u,W',b',g',z1,z2,z3,z4,z5⟩:=z
  obtain ⟨S',l'⟩:=hS.back z1 z2 z3
  refine hG ?_
  exact ⟨u,_,_,l',rfl,S',z4.mono ⟨fun z9 z9 h=>h,fun z9 z9 h=>(Lake.nn rfl h),fun z9 z9 h=>h⟩,z5⟩
theorem call_def {Q:V→St→Prop} {f:Value} {vs:List V} (he:EnvOk env sc) (hv:V.noLoL vs=true) (h:CallS c n f vs [] (fun v W'=>Q v { σ with W:=W' }) (fun W'=>X { σ with W:=W' }) σ.W):CV c n env (.st f) vs Q X σ:=fun A ω rvs hR hS hr=>by
 cases hr with
 | cons r rs =>
  (first | obtain rfl:=r.inv | obtain ⟨_,rfl⟩:=r.inv | cases r)
  refine wpAny_call (codeAny_mono (h A ω.s ω.b ω.g (kBelow env.locals ω) (kfBelow env.locals ω) _ _ hR.room (hR.outs rfl) hS.toW (rs.noLo hv) .nil) fun rv s' z=>?_)
  exact back_call hS z
theorem call_bound {Q:V→St→Prop} {f:Value} {self:V} {vs:List V} (he:EnvOk env sc) (hv:V.noLoL (self :: vs)=true) (h:CallS c n f (self :: vs) [] (fun v W'=>Q v { σ with W:=W' }) (fun W'=>X { σ with W:=W' }) σ.W):CV c n env (.meth f self) vs Q X σ:=fun A ω rvs hR hS hr=>by
 cases hr with
 | cons r rs =>
  obtain ⟨_,_,rfl,hg,r⟩:=r.inv
  refine wpAny_call (method_call (hS.keep _ _ hg) (codeAny_mono (h A ω.s ω.b ω.g (kBelow env.locals ω) (kfBelow env.locals ω) _ _ hR.room (hR.outs rfl) hS.toW (RelL.noLo (.cons r rs) hv) .nil) fun rv s' z=>?_))
  exact back_call hS z
inductive Kp (c:Cx):V→Prop
 | builtin {id}:Kp c (.st (.builtin id))
 | type {T}:Kp c (.st (.type T))
 | ref {a}:keepIn c.K (.ref a)=true→Kp c (.st (.ref a))
 | meth {f self}:fnIn c.K f=true→Kp c (.meth (.ref f) self)
theorem Kp.looks {L:Addr} {v:V} {rv:Value} (k:Kp c v) (S:Sat c L σ ω) (r:RV c ω v rv):∃ k,(k=Keeper.frame∨k=Keeper.machine∨k=Keeper.boundFrame)∧Looks (model c.prog c.w) ω.s.heap (keeperOf rv) k:=by
 cases k with
 | builtin=>(first | obtain rfl:=r.inv | obtain ⟨_,rfl⟩:=r.inv | cases r); exact ⟨.machine,.inr (.inl rfl),Looks.now⟩
 | type=>(first | obtain rfl:=r.inv | obtain ⟨_,rfl⟩:=r.inv | cases r); exact ⟨.machine,.inr (.inl rfl),Looks.now⟩
 | ref h=>(first | obtain rfl:=r.inv | obtain ⟨_,rfl⟩:=r.inv | cases r); exact keeps_K h _ S.X
 | meth h=>obtain ⟨_,_,rfl,hg,r⟩:=r.inv; exact keeps_M (q:=_) (self:=_) h _ ⟨S.keep _ _ hg,S.X⟩
noncomputable def notStar (e:PySem.Expr):Bool:=notK [22] e
noncomputable def noStars (l:List PySem.Expr):Bool:=l.all notStar
theorem starEach_cons {e:PySem.Expr} {rest:List PySem.Expr} (h:notStar e=true):starEach (e :: rest) env=(false,eval e env) :: starEach rest env:=by
 cases e <;> first | rfl | cases h
theorem wl_nil {Q:List V→St→Prop} (h:Q [] σ):WL c n env pos [] Q X σ:=fun A ω z9 hS=>spliced_nil (done hS .nil h)
theorem wl_cons {Q:List V→St→Prop} {e:PySem.Expr} {rest:List PySem.Expr} (hs:notStar e=true) (h:WE c n env e (fun v σ₁=>WL c n env pos rest (fun vs σ₂=>Q (v :: vs) σ₂) X σ₁) X σ):WL c n env pos (e :: rest) Q X σ:=fun A ω hR hS=>by
 refine args_cons (wpAny_mono (h A ω hR hS) ?_ fun z9 z9 x=>x) (starEach_cons hs)
 refine Post.all fun rv v σ₁ ω₁ l₁ S₁ r h₁=>?_
 refine wpX l₁ (h₁ A ω₁ (hR.le l₁) S₁) ?_
 rintro rvs s₂ ⟨vs,σ₂,ω₂,l₂,e₂,S₂,rs,h₂⟩
 exact ⟨v :: vs,σ₂,ω₂,l₁.trans l₂,e₂,S₂,.cons (r.mono l₂.sub) rs,h₂⟩
theorem backTo_any {l:List PySem.Expr} (h:noStars l=true):(backTo pos (starEach l env)).any (·.1)=false:=by
 induction l with
 | nil=>rfl
 | cons e l ih =>
  simp only [noStars,List.all_cons,Bool.and_eq_true] at h
  rw [starEach_cons h.1]
  show (false||(backTo pos (starEach l env)).any (·.1))=false
  rw [ih h.2]; rfl
theorem evalArgs_plainL {M:Model} {A:Around} {E:Value→Shared→Prop} {s:Shared} {f:Value} {l:List PySem.Expr} {Q:Args→Shared→Prop} (hs:noStars l=true) (h:wpAny M A (spliced (backTo pos (starEach l env))) (fun vs s'=>Q ⟨vs,[]⟩ s') E s) :
  wpAny M A (evalArgs f true (backTo pos (starEach l env)) []) Q E s:=by
 cases l with
 | nil =>
  unfold evalArgs
  show wpAny M A (spliced [] >>= _) Q E s
  refine wpAny_bind (wpAny_mono h (fun vs s' h'=>wpAny_bind (wpAny_pure ?_)) fun z9 z9 x=>x)
  exact wpAny_holding (wpAny_bind (wpAny_pure (wpAny_bind (wpAny_pure (wpAny_pure h')))))
 | cons e l =>
  simp only [noStars,List.all_cons,Bool.and_eq_true] at hs
  rw [starEach_cons hs.1] at h ⊢
  exact evalArgs_plain h
end
end HL.Lake
end
noncomputable section
namespace HL.Lake
open PySem PySem.W PySem.Calls PyProof.Rows
section
variable {c:Cx} {n:Nat} {env:Env} {X:St→Prop} {σ:St} {pos:Pos} {ω:Wd} {sc:Scope}
theorem keywordEach_nil:backToKw pos (keywordEach [] env)=[]:=rfl
noncomputable def notAttr (e:PySem.Expr):Bool:=notK [20] e
theorem eval_call {f:PySem.Expr} {args:List PySem.Expr} {kws:List Keyword} (h:notAttr f=true):eval (.Call f args kws pos) env=(do callWith pos (← eval f env) [] (backTo pos (starEach args env)) (backToKw pos (keywordEach kws env))):=by
 cases f <;> first | rfl | cases h
theorem callW {A:Around} {f:V} {rf:Value} {first:List V} {rfirst:List Value} {args:List PySem.Expr} {Q:V→St→Prop} (hs:noStars args=true) (hR:Here c n env A ω.kf) (hS:Sat c env.locals σ ω) (r:RV c ω f rf) (rs:RVs c ω first rfirst)
  (h:WL c n env pos args (fun vs σ₂=>Kp c f∧CV c n env f (first++vs) Q X σ₂) X σ) :
  wpAny (model c.prog c.w) A (callWith pos rf rfirst (backTo pos (starEach args env)) []) (Post c env.locals (RV c) ω Q) (PostX c env A ω X) ω.s:=by
 refine callWith_of (P:=fun h=>∃ k,(k=Keeper.frame∨k=Keeper.machine∨k=Keeper.boundFrame)∧Looks (model c.prog c.w) h (keeperOf rf) k) (by rw [backTo_any hs]; rfl) (fun z9 h=>h) ?_
 refine evalArgs_plainL hs (wpAny_mono (h A ω hR hS) ?_ fun z9 z9 x=>x)
 refine Post.all fun rvs vs σ₂ ω₂ l₂ S₂ rvs' hz1=>?_
 obtain ⟨kp,h₂⟩:=hz1
 have r':=r.mono l₂.sub
 refine ⟨kp.looks S₂ r',?_⟩
 have:=h₂ A ω₂ (rf :: (rfirst++rvs)) (hR.le l₂) S₂ (.cons r' ?_)
 ·exact wpX l₂ this fun z9 z9 p=>p.le l₂
 ·clear h₂ h
  have q:=rs.mono l₂.sub
  clear rs
  generalize first=l1 at q
  generalize rfirst=l2 at q
  induction l1 generalizing l2 with
  | nil=>(first | obtain rfl:=q.inv | obtain ⟨_,rfl⟩:=q.inv | cases q); exact rvs'
  | cons a l1 ih=>cases q with | cons a b=>exact .cons a (ih _ b)
theorem e_call {Q:V→St→Prop} {f:PySem.Expr} {args:List PySem.Expr} (hf:notAttr f=true) (hs:noStars args=true) (h:WE c n env f (fun v σ₁=>WL c n env pos args (fun vs σ₂=>Kp c v∧CV c n env v vs Q X σ₂) X σ₁) X σ) :
  WE c n env (.Call f args [] pos) Q X σ:=fun A ω hR hS=>by
 rw [eval_call hf]
 refine wpAny_bind (wpAny_mono (h A ω hR hS) ?_ fun z9 z9 x=>x)
 refine Post.all fun rf v σ₁ ω₁ l₁ S₁ r h₁=>?_
 exact wpX l₁ (callW (first:=[]) hs (hR.le l₁) S₁ r .nil h₁) fun z9 z9 p=>p.le l₁
noncomputable abbrev GM (c:Cx) (n:Nat) (env:Env) (x:Str) (v:V) (Q:V→List V→St→Prop) (X:St→Prop) (σ:St):Prop :=
 ∀ pl:Sem Bool,WO (α:=Value×List Value) (β:=V×List V) c n env (fun | [o]=>getMethod o x pl | _=>unsupported "") [v] (fun ω p q=>RV c ω p.1 q.1∧RVs c ω p.2 q.2) (fun p σ=>Q p.1 p.2 σ) X σ
theorem starEach_all {l:List PySem.Expr} (h:noStars l=true):(backTo pos (starEach l env)).all (!·.1)=true:=by
 have:=backTo_any (env:=env) (pos:=pos) h
 rw [List.all_eq_not_any_not]
 simp only [Bool.not_not]
 rw [this]; rfl
theorem e_meth {Q:V→St→Prop} {o:PySem.Expr} {x:Str} {apos:Pos} {args:List PySem.Expr} (hn:notSuper o=true) (hp:(apos.endLine==pos.line)=true) (hl:decide (args.length < 30)=true) (hs:noStars args=true)
  (h:WE c n env o (fun v σ₁=>GM c n env x v (fun f first σ₂=>WL c n env pos args (fun vs σ₃=>Kp c f∧CV c n env f (first++vs) Q X σ₃) X σ₂) X σ₁) X σ) :
  WE c n env (.Call (.Attribute o x apos) args [] pos) Q X σ:=fun A ω hR hS=>by
 rw [arm_eval_Call,attributeBase_plain hn]
 refine wpAny_bind (wpAny_mono (h A ω hR hS) ?_ fun z9 z9 x=>x)
 refine Post.all fun ro v σ₁ ω₁ l₁ S₁ r h₁=>?_
 have hform:methodCallForm (args.length+([]:List Keyword).length) (backTo pos (starEach args env)) (backToKw pos (keywordEach [] env))=true:=by
  unfold methodCallForm
  rw [starEach_all hs]
  have:=of_decide_eq_true hl
  simp only [keywordEach_nil,List.length_nil,Nat.add_zero,List.all_nil,Bool.and_true,Bool.true_and,List.isEmpty_nil,if_true]
  exact decide_eq_true this
 unfold methodCall
 rw [hform]
 refine wpAny_bind (wpAny_standAt (wpAny_bind (wpAny_holding (wpX l₁ (h₁ _ A ω₁ [ro] (hR.le l₁) S₁ (.cons r .nil)) ?_))))
 refine Post.all fun az2 bz3 σ₂ ω₂ l₂ S₂ rz4 h₂=>?_
 obtain ⟨rf,rfirst⟩:=az2
 obtain ⟨f,first⟩:=bz3
 obtain ⟨r2,rs2⟩:=rz4
 have hpos:methodCallPos true o env apos pos=pure pos:=by
  unfold methodCallPos
  rw [hp]; rfl
 rw [hpos]
 refine wpAny_bind (wpAny_pure ?_)
 exact wpX (l₁.trans l₂) (callW hs (hR.le (l₁.trans l₂)) S₂ r2 rs2 h₂) fun z9 z9 p=>p.le (l₁.trans l₂)
theorem gm_inst {Q:V→List V→St→Prop} {C:Addr} {i:Nat} {l:List (Str×V)} {x:Str} {f:Addr} (hk:MethOk c.K C x f) (hW:σ.W[i]?=some (.dict l)) (hm:x ∉ l.map (·.1)) (h:Q (.st (.ref f)) [.inst C i] σ):GM c n env x (.inst C i) Q X σ:=fun pl A ω rvs z9 hS hr=>by
 obtain ⟨rv,rfl,r⟩:=hr.one
 refine gC fun G hG=>?_
 obtain ⟨x',d,es,k,rfl,hd,hg,I,ho,rd,nd⟩:=hS.instAt r hW
 obtain ⟨h1,h2,h3,_⟩:=hk
 refine hG ?_
 exact method_inst hS.fr c.X I h1 h2 h3 (rd.miss hm) (done (b:=(V.st (.ref f),[V.inst C i])) hS ⟨.st,.cons r .nil⟩ h)
theorem gm_own {Q:V→List V→St→Prop} {C:Addr} {i:Nat} {l:List (Str×V)} {x:Str} {v:V} (hk:OwnOk c.K C x) (hf:findIn c.K (.ref C) x=some none) (hW:σ.W[i]?=some (.dict l)) (hm:(x,v)∈l) (hb:notBuiltin v=true) (h:Q v [] σ):GM c n env x (.inst C i) Q X σ:=fun pl A ω rvs z9 hS hr=>by
 refine gC fun G hG=>?_
 obtain ⟨rv,rfl,r⟩:=hr.one
 obtain ⟨x',d,es,k,rfl,hd,hg,I,ho,rd,nd⟩:=hS.instAt r hW
 obtain ⟨rv,e,r'⟩:=rd.get nd hm
 obtain ⟨h1,h2,attr,h3,h4⟩:=hk
 refine hG ?_
 exact kmu_own hS.fr c.X I h1 hf (get_own hS.fr c.X I h1 h2 h3 h4 e (handedIn_of r' hb) (doneT (b:=(v,([]:List V))) hS ⟨subT r',.nil⟩ h))
noncomputable abbrev BV (c:Cx) (n:Nat) (env:Env) (op:Operator) (a b:V) (Q:V→St→Prop) (X:St→Prop) (σ:St):Prop:=WO c n env (fun | [x,y]=>binaryOp op x y | _=>unsupported "") [a,b] (RV c) Q X σ
noncomputable abbrev KV (c:Cx) (n:Nat) (env:Env) (op:CmpOp) (a b:V) (Q:V→St→Prop) (X:St→Prop) (σ:St):Prop:=WO c n env (fun | [x,y]=>compareOp op x y | _=>unsupported "") [a,b] (RV c) Q X σ
noncomputable abbrev TV (c:Cx) (n:Nat) (env:Env) (a:V) (Q:Bool→St→Prop) (X:St→Prop) (σ:St):Prop:=WO c n env (fun | [x]=>truthy x | _=>unsupported "") [a] (fun z9 a b=>a=b) Q X σ
theorem e_bin {Q:V→St→Prop} {op:Operator} {l r:PySem.Expr} (h:WE c n env l (fun a σ₁=>WE c n env r (fun b σ₂=>BV c n env op a b Q X σ₂) X σ₁) X σ):WE c n env (.BinOp l op r pos) Q X σ:=fun A ω hR hS=>by
 refine wpAny_BinOp (wpAny_mono (h A ω hR hS) ?_ fun z9 z9 x=>x)
 refine Post.all fun ra a σ₁ ω₁ l₁ S₁ r₁ h₁=>?_
 refine wpX l₁ (h₁ A ω₁ (hR.le l₁) S₁) ?_
 refine Post.all fun rb b σ₂ ω₂ l₂ S₂ r₂ h₂=>?_
 exact wpX (l₁.trans l₂) (h₂ A ω₂ [ra,rb] (hR.le (l₁.trans l₂)) S₂ (.cons (r₁.mono l₂.sub) (.cons r₂ .nil))) fun z9 z9 p=>p.le (l₁.trans l₂)
theorem e_cmp {Q:V→St→Prop} {op:CmpOp} {l r:PySem.Expr} (hm:behindInMarks op r=false) (h:WE c n env l (fun a σ₁=>WE c n env r (fun b σ₂=>KV c n env op a b Q X σ₂) X σ₁) X σ):WE c n env (.Compare l [op] [r] pos) Q X σ:=fun A ω hR hS=>by
 refine wpAny_Compare1 (wpAny_mono (h A ω hR hS) ?_ fun z9 z9 x=>x) hm
 refine Post.all fun ra a σ₁ ω₁ l₁ S₁ r₁ h₁=>?_
 refine wpX l₁ (h₁ A ω₁ (hR.le l₁) S₁) ?_
 refine Post.all fun rb b σ₂ ω₂ l₂ S₂ r₂ h₂=>?_
 exact wpX (l₁.trans l₂) (h₂ A ω₂ [ra,rb] (hR.le (l₁.trans l₂)) S₂ (.cons (r₁.mono l₂.sub) (.cons r₂ .nil))) fun z9 z9 p=>p.le (l₁.trans l₂)
theorem t_cmp {Q:Bool→St→Prop} {op:CmpOp} {l r:PySem.Expr} (hm:behindInMarks op r=false) (h:WE c n env l (fun a σ₁=>WE c n env r (fun b σ₂=>KV c n env op a b (fun v σ₃=>TV c n env v Q X σ₃) X σ₂) X σ₁) X σ):WT c n env (.Compare l [op] [r] pos) Q X σ:=fun A ω hR hS=>by
 refine wpAny_isTrue_Compare1 (wpAny_mono (h A ω hR hS) ?_ fun z9 z9 x=>x) hm
 refine Post.all fun ra a σ₁ ω₁ l₁ S₁ r₁ h₁=>?_
 refine wpX l₁ (h₁ A ω₁ (hR.le l₁) S₁) ?_
 refine Post.all fun rb b σ₂ ω₂ l₂ S₂ r₂ h₂=>?_
 have l12:=l₁.trans l₂
 refine wpX l12 (h₂ A ω₂ [ra,rb] (hR.le l12) S₂ (.cons (r₁.mono l₂.sub) (.cons r₂ .nil))) ?_
 refine Post.all fun rv v σ₃ ω₃ l₃ S₃ r₃ h₃=>?_
 have l13:=l12.trans l₃
 exact wpX l13 (h₃ A ω₃ [rv] (hR.le l13) S₃ (.cons r₃ .nil)) fun z9 z9 p=>p.le l13
theorem t_not {Q:Bool→St→Prop} {x:PySem.Expr} (h:WT c n env x (fun b σ'=>Q (!b) σ') X σ):WT c n env (.UnaryOp .Not x pos) Q X σ:=fun A ω hR hS=>by
 refine isTrue_not (wpAny_mono (h A ω hR hS) ?_ fun z9 z9 x=>x)
 rintro b s₁ ⟨b',σ₁,ω₁,l₁,e,S₁,rfl,h₁⟩
 exact ⟨!b',σ₁,ω₁,l₁,e,S₁,rfl,h₁⟩
noncomputable def plainTest (e:PySem.Expr):Bool:=notK [3,0,5,15] e
theorem isTrue_eq {e:PySem.Expr} {whole:Sem Value} (h:plainTest e=true):isTrue e env whole=(do let v ← whole; standAt e.pos; holding [v] (truthy v)):=by
 revert h
 exact PySem.Expr.casesOn (motive_1:=fun e=>plainTest e=true→isTrue e env whole=(do let v ← whole; standAt e.pos; holding [v] (truthy v))) e (by intros; first | rfl | contradiction) (by intros; first | rfl | contradiction) (by intros; first | rfl | contradiction) (by intros; first | rfl | contradiction) (by intros; first | rfl | contradiction) (by intros; first | rfl | contradiction) (by intros; first | rfl | contradiction) (by intros; first | rfl | contradiction) (by intros; first | rfl | contradiction) (by intros; first | rfl | contradiction) (by intros; first | rfl | contradiction) (by intros; first | rfl | contradiction) (by intros; first | rfl | contradiction) (by intros; first | rfl | contradiction) (by intros; first | rfl | contradiction) (by intros; first | rfl | contradiction) (by intros; first | rfl | contradiction) (by intros; first | rfl | contradiction) (by intros; first | rfl | contradiction) (by intros; first | rfl | contradiction) (by intros; first | rfl | contradiction) (by intros; first | rfl | contradiction) (by intros; first | rfl | contradiction) (by intros; first | rfl | contradiction) (by intros; first | rfl | contradiction) (by intros; first | rfl | contradiction) (by intros; first | rfl | contradiction)
theorem t_plain {Q:Bool→St→Prop} {e:PySem.Expr} (hp:plainTest e=true) (h:WE c n env e (fun v σ'=>TV c n env v Q X σ') X σ):WT c n env e Q X σ:=fun A ω hR hS=>by
 refine isTrue_plain (wpAny_mono (h A ω hR hS) ?_ fun z9 z9 x=>x) (isTrue_eq hp)
 refine Post.all fun rv v σ₁ ω₁ l₁ S₁ r₁ h₁=>?_
 exact wpX l₁ (h₁ A ω₁ [rv] (hR.le l₁) S₁ (.cons r₁ .nil)) fun z9 z9 p=>p.le l₁
noncomputable abbrev WTs (c:Cx) (n:Nat) (env:Env) (op:BoolOp) (l:List PySem.Expr) (Q:Bool→St→Prop) (X:St→Prop) (σ:St):Prop:=W c n env (allTrue op l env) (fun z9 a b=>a=b) Q X σ
theorem t_bool {Q:Bool→St→Prop} {op:BoolOp} {l:List PySem.Expr} (h:WTs c n env op l Q X σ):WT c n env (.BoolOp op l pos) Q X σ:=h
theorem ts_nil {Q:Bool→St→Prop} {op:BoolOp} (h:Q (op==.And) σ):WTs c n env op [] Q X σ:=fun A ω hR hS=>wpAny_pure (done hS rfl h)
theorem ts_cons {Q:Bool→St→Prop} {op:BoolOp} {x:PySem.Expr} {l:List PySem.Expr} (h:WT c n env x (fun b σ'=>if b=(op==.And) then WTs c n env op l Q X σ' else Q b σ') X σ):WTs c n env op (x :: l) Q X σ:=fun A ω hR hS=>by
 rw [arm_allTrue_cons]
 refine wpAny_bind (wpAny_mono (h A ω hR hS) ?_ fun z9 z9 x=>x)
 refine Post.all fun b b' σ₁ ω₁ l₁ S₁ rz5 h₁=>?_
 obtain rfl:=rz5
 cases op <;> (first | obtain rfl:=b'.inv | obtain ⟨_,rfl⟩:=b'.inv | cases b')
 ·exact wpAny_pure ⟨false,σ₁,ω₁,l₁,rfl,S₁,rfl,h₁⟩
 ·exact wpX l₁ (h₁ A ω₁ (hR.le l₁) S₁) fun z9 z9 p=>p.le l₁
 ·exact wpX l₁ (h₁ A ω₁ (hR.le l₁) S₁) fun z9 z9 p=>p.le l₁
 ·exact wpAny_pure ⟨true,σ₁,ω₁,l₁,rfl,S₁,rfl,h₁⟩
end
end HL.Lake
end
noncomputable section
namespace HL.Lake
open PySem PySem.W PySem.Calls PyProof.Rows
section
variable {c:Cx} {n:Nat} {env:Env} {X:St→Prop} {σ:St} {pos:Pos} {ω:Wd} {sc:Scope}
theorem pushDone {Q:V→St→Prop} {v:V} (hS:Sat c env.locals σ ω) (o:Obj) (hf:o.isFreed=false) (r:RV c { ω with s:={ ω.s with heap:=ω.s.heap.push o },g:=gAdd ω.g ω.s.heap.objs.size o } v (.ref ω.s.heap.objs.size)) (h:Q v σ) :
  Post c env.locals (RV c) ω Q (.ref ω.s.heap.objs.size) { ω.s with heap:=ω.s.heap.push o }:=by
 obtain ⟨S',l'⟩:=hS.push o hf ω.s.toks
 exact ⟨v,σ,_,l',rfl,S',r,h⟩
theorem RVs.len {vs:List V} {rvs:List Value} (h:RVs c ω vs rvs):rvs.length=vs.length:=by
 induction vs generalizing rvs with
 | nil=>cases h; rfl
 | cons v vs ih=>cases h with | cons _ r=>simp [ih r]
theorem gAdd_self {g:PHeap} {x:Addr} {o:Obj}:gAdd g x o x=some o:=if_pos rfl
theorem Sat.gsize {L:Addr} (S:Sat c L σ ω):ω.g ω.s.heap.objs.size=none:=by
 cases e:ω.g ω.s.heap.objs.size with
 | none=>rfl
 | some o'=>exact absurd (S.glt e) (Nat.lt_irrefl _)
theorem e_tup {Q:V→St→Prop} {es:List PySem.Expr} {k:Nat} (h:WL c n env pos es (fun vs σ'=>vs.length≤4096∧Q (.tup vs) σ') X σ):WE c n env (.Tuple es k pos) Q X σ:=fun A ω hR hS=>by
 refine Tuple_ (wpAny_mono (h A ω hR hS) ?_ fun z9 z9 x=>x)
 refine Post.all fun rvs vs σ₁ ω₁ l₁ S₁ rs hz6=>?_
 obtain ⟨hl,h₁⟩:=hz6
 refine wpAny_newObj_type ?_ ?_
 ·refine (pushDone S₁ _ rfl (.tup gAdd_self (rs.mono (gAdd_sub S₁.gsize))) h₁).le l₁
 ·show rvs.toArray.size≤sizeLine
  rw [List.size_toArray,rs.len,sizeLine_eq]; exact (Nat.le_of_not_lt fun hn=>Lake.n2 [_] 1 (.a (.n 16777216) (.n 1)) (.v 0) 1 (.v 0) (.n 4096) rfl hn hl)
theorem e_listF {Q:V→St→Prop} {es:List PySem.Expr} (h:WL c n env pos es (fun vs σ'=>vs.length≤4096∧Q (.list vs) σ') X σ):WE c n env (.List es pos) Q X σ:=fun A ω hR hS=>by
 refine List_ (wpAny_mono (h A ω hR hS) ?_ fun z9 z9 x=>x)
 refine Post.all fun rvs vs σ₁ ω₁ l₁ S₁ rs hz7=>?_
 obtain ⟨hl,h₁⟩:=hz7
 refine wpAny_newObj_type ?_ ?_
 ·refine (pushDone S₁ _ rfl (.list gAdd_self (rs.mono (gAdd_sub S₁.gsize))) h₁).le l₁
 ·show rvs.toArray.size≤sizeLine
  rw [List.size_toArray,rs.len,sizeLine_eq]; exact (Nat.le_of_not_lt fun hn=>Lake.n2 [_] 1 (.a (.n 16777216) (.n 1)) (.v 0) 1 (.v 0) (.n 4096) rfl hn hl)
theorem subA {g:PHeap} {a b:List Addr} {x:Addr}:Sub g g a (a++[x]) b b:=⟨fun z9 z9 h=>h,fun i y e=>by
 have hi:i < a.length:=(List.getElem?_eq_some_iff.mp e).1
 rw [List.getElem?_append_left hi]; exact e,fun z9 z9 h=>h⟩
theorem pushTDone {Q:V→St→Prop} (hS:Sat c env.locals σ ω) (o:AO) (ob:Obj) (r:RelO c.w.params ω.g ω.a ω.b o ob) (hf:ob.isFreed=false) (h:Q (.lo σ.T.length) { σ with T:=σ.T++[o] }) :
  Post c env.locals (RV c) ω Q (.ref ω.s.heap.objs.size) { ω.s with heap:=ω.s.heap.push ob }:=by
 obtain ⟨S',l'⟩:=hS.pushT o ob (r.mono subA) hf ω.s.toks
 refine ⟨_,_,_,l',rfl,S',.lo ?_,h⟩
 show (ω.a++[ω.s.heap.objs.size])[σ.T.length]?=_
 rw [← hS.tT.1]; simp
theorem e_listT {Q:V→St→Prop} {es:List PySem.Expr} (h:WL c n env pos es (fun vs σ'=>vs.length≤4096∧Q (.lo σ'.T.length) { σ' with T:=σ'.T++[.list vs] }) X σ):WE c n env (.List es pos) Q X σ:=fun A ω hR hS=>by
 refine List_ (wpAny_mono (h A ω hR hS) ?_ fun z9 z9 x=>x)
 refine Post.all fun rvs vs σ₁ ω₁ l₁ S₁ rs hz8=>?_
 obtain ⟨hl,h₁⟩:=hz8
 refine wpAny_newObj_type ?_ ?_
 ·exact (pushTDone S₁ (.list vs) _ (.list rs) rfl h₁).le l₁
 ·show rvs.toArray.size≤sizeLine
  rw [List.size_toArray,rs.len,sizeLine_eq]; exact (Nat.le_of_not_lt fun hn=>Lake.n2 [_] 1 (.a (.n 16777216) (.n 1)) (.v 0) 1 (.v 0) (.n 4096) rfl hn hl)
set_option tactic.hygienic true in
theorem Sat.addK {L:Addr} (S:Sat c L σ ω) (o:Obj) (hf:o.isFreed=false) :
  Sat c L σ { ω with s:={ ω.s with heap:=ω.s.heap.push o },k:=gAdd ω.k ω.s.heap.objs.size o }:=by
 have hne:∀ x,x < ω.s.heap.objs.size→gAdd ω.k ω.s.heap.objs.size o x=ω.k x:=fun x hx=>by unfold gAdd; rw [if_neg (Nat.ne_of_lt hx)]
 refine ⟨S.ns.push o,fun x o' e=>Heap.get?_push_of_some _ (S.keep x o' e),S.base,S.high,S.loc,S.nd,S.tT.keeps .refl fun x hx=>push_get (S.tT.lt hx),S.tW.keeps .refl fun x hx=>push_get (S.tW.lt hx),S.apart,S.out,fun x o' e=>?_,fun x hx=>(hne x (S.lt hx)).trans (S.ok x hx),fun x m e=>(S.nf x m e).push o,S.okf,fun x m e=>⟨(hne x (S.nf x m e).lt).trans (S.dis x m e).1,(S.dis x m e).2⟩,fun x o' e=>?_⟩
 ·have e':(if x=ω.s.heap.objs.size then some o else ω.k x)=some o':=e
  split at e'
  ·rename_i h; subst h; cases e'; exact Heap.get?_push_size _ hf
  ·exact Heap.get?_push_of_some _ (S.kk x o' e')
 ·have e':(if x=ω.s.heap.objs.size then some o else ω.k x)=some o':=e
  split at e'
  ·rename_i h; subst h; exact S.gsize
  ·exact S.dk x o' e'
set_option tactic.hygienic true in
theorem Sat.dropK {L d:Addr} {o o':Obj} {k₀:PHeap} {h':Heap} (S:Sat c L σ ω) (hk:ω.k=gAdd k₀ d o) (h0:k₀ d=none) (hs:Heap.SameBut d ω.s.heap h') (hd:h'.get? d=some o') (t:Nat) :
  Sat c L σ { ω with s:={ ω.s with heap:=h',toks:=t },k:=k₀,g:=gAdd ω.g d o' }∧Sub ω.g (gAdd ω.g d o') ω.a ω.a ω.b ω.b:=by
 have kd:ω.k d=some o:=by rw [hk]; exact gAdd_self
 have hne:∀ x,x≠d→ω.k x=k₀ x:=fun x hx=>by rw [hk]; unfold gAdd; rw [if_neg hx]
 have gd:ω.g d=none:=S.dk d o kd
 have hin:∀ x∈L :: (ω.a++ω.b),x≠d:=fun x hx=>by rintro rfl; exact Lake.nn (S.ok x hx) kd
 have hkf:∀ x m,ω.kf x=some m→x≠d:=fun x m e=>by rintro rfl; exact Lake.nn ((S.dis x m e).1) kd
 have hs':Sub ω.g (gAdd ω.g d o') ω.a ω.a ω.b ω.b:=gAdd_sub gd
 have gne:∀ x,x≠d→gAdd ω.g d o' x=ω.g x:=fun x hx=>by unfold gAdd; rw [if_neg hx]
 refine ⟨⟨S.ns.sameBut hs (hin L (.head _)),fun x o'' e=>?_,fun x o'' e=>hs'.hg x o'' (S.base x o'' e),S.high,fun x v m=>?_,S.nd,?_,?_,S.apart,fun x hx=>(gne x (hin x hx)).trans (S.out x hx),fun x o'' e=>?_,fun x hx=>(hne x (hin x hx)).symm.trans (S.ok x hx),fun x m e=>(S.nf x m e).sameBut hs (hkf x m e),S.okf,fun x m e=>⟨(hne x (hkf x m e)).symm.trans (S.dis x m e).1,(gne x (hkf x m e)).trans (S.dis x m e).2⟩,fun x o'' e=>?_⟩,hs'⟩
 ·have e':(if x=d then some o' else ω.g x)=some o'':=e
  split at e'
  ·rename_i h; subst h; cases e'; exact hd
  ·rename_i h; exact (hs.2 x h).trans (S.keep x o'' e')
 ·obtain ⟨rv,e,r⟩:=S.loc x v m
  exact ⟨rv,e,r.mono hs'⟩
 ·exact S.tT.keeps hs' fun x hx=>hs.2 x (hin x (.tail _ (List.mem_append_left _ hx)))
 ·exact S.tW.keeps ⟨hs'.hg,fun _ _ h=>h,fun _ _ h=>h⟩ fun x hx=>hs.2 x (hin x (.tail _ (List.mem_append_right _ hx)))
 ·have hx:x≠d:=by rintro rfl; have e':k₀ x=some o'':=e; exact Lake.nn (h0) e'
  exact (hs.2 x hx).trans (S.kk x o'' ((hne x hx).trans e))
 ·have hx:x≠d:=by rintro rfl; have e':k₀ x=some o'':=e; exact Lake.nn (h0) e'
  exact (gne x hx).trans (S.dk x o'' ((hne x hx).trans e))
noncomputable abbrev RelP (c:Cx) (ω:Wd):List (V×V)→List (Value×Value)→Prop:=F2 fun p q=>RV c ω p.1 q.1∧RV c ω p.2 q.2
noncomputable abbrev WD (c:Cx) (n:Nat) (env:Env) (pos:Pos) (keys:List (Option PySem.Expr)) (values:List PySem.Expr) (Q:List (V×V)→St→Prop) (X:St→Prop) (σ:St):Prop:=W c n env (evalPairs (pairTrees keys values env pos)) (RelP c) Q X σ
end
end HL.Lake
end
noncomputable section
namespace HL.Lake
open PySem PySem.W PySem.Calls PyProof.Rows
section
variable {c:Cx} {n:Nat} {env:Env} {X:St→Prop} {σ:St} {pos:Pos} {ω:Wd} {sc:Scope}
theorem wd_nil {Q:List (V×V)→St→Prop} {vs:List PySem.Expr} (h:Q [] σ):WD c n env pos [] vs Q X σ:=fun A ω z9 hS=>by
 rw [show pairTrees [] vs env pos=[] from rfl]
 exact evalPairs_nil (done hS .nil h)
theorem wd_cons {Q:List (V×V)→St→Prop} {k v:PySem.Expr} {ks:List (Option PySem.Expr)} {vs:List PySem.Expr} (h:WE c n env k (fun a σ₁=>WE c n env v (fun b σ₂=>WD c n env pos ks vs (fun ps σ₃=>Q ((a,b) :: ps) σ₃) X σ₂) X σ₁) X σ) :
  WD c n env pos (some k :: ks) (v :: vs) Q X σ:=fun A ω hR hS=>by
 rw [show pairTrees (some k :: ks) (v :: vs) env pos=(eval k env,do let x ← eval v env; standAt pos; pure x) :: pairTrees ks vs env pos from rfl]
 refine evalPairs_cons (wpAny_mono (h A ω hR hS) ?_ fun z9 z9 x=>x)
 refine Post.all fun ra a σ₁ ω₁ l₁ S₁ r₁ h₁=>?_
 refine wpAny_bind (wpX l₁ (h₁ A ω₁ (hR.le l₁) S₁) ?_)
 refine Post.all fun rb b σ₂ ω₂ l₂ S₂ r₂ h₂=>?_
 have l12:=l₁.trans l₂
 refine wpAny_bind (wpAny_standAt (wpAny_pure (wpX l12 (h₂ A ω₂ (hR.le l12) S₂) ?_)))
 rintro rps s₃ ⟨ps,σ₃,ω₃,l₃,e₃,S₃,r₃,h₃⟩
 exact ⟨_,σ₃,ω₃,l12.trans l₃,e₃,S₃,.cons ⟨r₁.mono (l₂.trans l₃).sub,r₂.mono l₃.sub⟩ r₃,h₃⟩
noncomputable def strPairs:List (V×V)→Option (List (Str×V))
 | []=>some []
 | (.str x,v) :: r=>(strPairs r).map ((x,v) :: ·)
 | _ :: _=>none
theorem Exc.dropK {A:Around} {ω:Wd} {k₀:PHeap} {e:Value} (h:Exc c env A ω e) (hk:∀ x o,k₀ x=some o→ω.k x=some o):Exc c env A { ω with k:=k₀ } e:=by
 have kn:∀ x o,Known { ω with k:=k₀ } x o→Known ω x o:=fun x o h=>by
  rcases h with h | h | h
  ·exact .inl h
  ·exact .inr (.inl (hk x o h))
  ·exact .inr (.inr h)
 refine gC fun G hG=>?_
 rcases h with ⟨l,h1,ea,a0,B,h2,h3,h4,h5⟩ | ⟨ea,vs,h1,h2,h3,h4,h5,h6,h7⟩
 ·refine hG ?_
  exact .inl ⟨l,h1,ea,a0,B,h2,h3,h4,fun x o q=>h5 x o (kn x o q)⟩
 ·refine hG ?_
  exact .inr ⟨ea,vs,h1,h2,h3,h4,fun x o q=>h5 x o (kn x o q),h6,h7⟩
theorem noneOf {α:Type} {x:Option α} (h:∀ o,x=some o→False):x=none:=by
 cases x with
 | none=>rfl
 | some o=>exact (h o rfl).elim
theorem Sat.lessK {L:Addr} {k₀:PHeap} (S:Sat c L σ ω) (hk:∀ x o,k₀ x=some o→ω.k x=some o):Sat c L σ { ω with k:=k₀ } :=
 ⟨S.ns,S.keep,S.base,S.high,S.loc,S.nd,S.tT,S.tW,S.apart,S.out,fun x o e=>S.kk x o (hk x o e),fun x hx=>noneOf fun o q=>(by
  have:=hk x o q; rw [S.ok x hx] at this; cases this),S.nf,S.okf,fun x m e=>⟨noneOf fun o q=>(by
  have:=hk x o q; rw [(S.dis x m e).1] at this; cases this),(S.dis x m e).2⟩,fun x o e=>S.dk x o (hk x o e)⟩
theorem PostX.dropK {A:Around} {ω₁:Wd} {k₀:PHeap} {e:Value} {s':Shared} (h:PostX c env A ω₁ X e s') (hk:∀ x o,k₀ x=some o→ω₁.k x=some o) (hl:Le ω { ω₁ with k:=k₀ }):PostX c env A ω X e s':=by
 obtain ⟨σ',ω',l,e',S,hx,q⟩:=h
 have hk':∀ x o,k₀ x=some o→ω'.k x=some o:=fun x o q=>by rw [l.k]; exact hk x o q
 have l':Le { ω₁ with k:=k₀ } { ω' with k:=k₀ }:=⟨l.sub,l.gens,l.drawn,l.os,rfl,l.kf⟩
 exact ⟨σ',{ ω' with k:=k₀ },hl.trans l',e',S.lessK hk',hx.dropK hk',q⟩
set_option tactic.hygienic true in
theorem strPairs_cons {k v:V} {ps:List (V×V)} {l:List (Str×V)} (h:strPairs ((k,v) :: ps)=some l):∃ x l',k=.str x∧l=(x,v) :: l'∧strPairs ps=some l':=by
 cases k <;> first | (cases h; done) | skip
 rename_i x
 obtain ⟨l',e',rfl⟩:=Option.map_eq_some_iff.mp (show (strPairs ps).map ((x,v) :: ·)=some l from h)
 exact ⟨x,l',rfl,rfl,e'⟩
theorem strPairs_carries {ps:List (V×V)} {l:List (Str×V)} {rps:List (Value×Value)} (e:strPairs ps=some l) (r:RelP c ω ps rps):∃ kvs:List (Str×Value),Carries (strKind c.prog c.w) rps kvs∧RelKw c.w.params ω.g ω.a ω.b l kvs:=by
 induction r using F2.ind generalizing l with
 | nil=>cases e; exact ⟨[],trivial,rfl⟩
 | @cons p q _ _ r1 r ih =>
  refine gC fun G hG=>?_
  obtain ⟨p1,p2⟩:=p
  obtain ⟨q1,q2⟩:=q
  obtain ⟨x,l',rfl,rfl,e'⟩:=strPairs_cons e
  obtain ⟨kvs,h1,h2⟩:=ih e'
  obtain ⟨_,rfl⟩:=r1.1.inv
  refine hG ?_
  exact ⟨(x,q2) :: kvs,⟨strKind_is _ _ x _,rfl,h1⟩,.cons ⟨rfl,r1.2⟩ h2⟩
theorem stored_new {kvs:List (Str×Value)} {k:Str} {v:Value} (h:k ∉ kvs.map (·.1)):stored kvs k v=kvs++[(k,v)]:=by
 unfold stored
 rw [if_neg]
 intro q
 obtain ⟨p,hp,e⟩:=List.any_eq_true.mp q
 exact h (List.mem_map.mpr ⟨p,hp,of_decide_eq_true e⟩)
theorem merged_new {more:List (Str×Value)}:∀ {acc:List (Str×Value)},(acc.map (·.1)++more.map (·.1)).Nodup→merged acc more=acc++more:=by
 induction more with
 | nil=>intro acc _; exact (List.append_nil _).symm
 | cons p more ih =>
  intro acc h
  have hk:p.1 ∉ acc.map (·.1):=fun hk=>(List.nodup_append.mp h).2.2 _ hk _ (.head _) rfl
  show merged (stored acc p.1 p.2) more=_
  rw [stored_new hk,ih (by rw [List.map_append,List.append_assoc]; exact h),List.append_assoc]; rfl
theorem dictOf_rel {P:Params} {g:PHeap} {a b:List Addr} {h:Heap} {d:Addr} {l:List (Str×V)} {kvs:List (Str×Value)} (hP:P=c.w.params) (D:h.DictOf (strKind c.prog c.w) d kvs) (r:RelKw P g a b l kvs):∃ es k,h.get? d=some (dictOf es k)∧RelD P g a b l es:=by
 obtain ⟨⟨cls,dd,dt,sl⟩,⟨es⟩,ep,ho,⟨hc,hdd,hsl⟩,hd,hk,hp,ndk⟩:=D
 dsimp only at hc hdd hsl hd
 subst hc hdd hsl hd
 refine ⟨es,ep,ho,?_⟩
 replace hk:∀ e∈es,∃ k,Value.isStrOf k e.key=true∧e.hash=hashStr c.w k:=fun e he=>hk e (by simpa using he)
 replace hp:Pairs (strKind c.prog c.w) es kvs:=hp
 clear ho ndk
 induction r using RelKw.ind generalizing es with
 | nil=>cases hp; exact .nil
 | @cons k v rv l rl hr _ ih =>
  cases hp with
  | @cons e _ es _ p1 p2 p3 =>
   obtain ⟨k',q1,q2⟩:=hk e (.head _)
   obtain ⟨hh,key,val⟩:=e
   dsimp only at p1 p2 q1 q2
   obtain ⟨t,rfl⟩:=Value.isStrOf_shape p1
   have:k'=k:=Value.isStrOf_inj _ _ _ q1 p1
   subst this
   subst p2 q2 hP
   exact .cons hr (ih es (fun e he=>hk e (.tail _ he)) p3)
theorem e_dictF {Q:V→St→Prop} {ks:List (Option PySem.Expr)} {vs:List PySem.Expr} (hall:ks.all (·.isSome)=true) (hl:ks.length=vs.length) (h0:ks≠[]) (hlen:ks.length≤15)
  (h:WD c n env pos ks vs (fun ps σ'=>∃ l,strPairs ps=some l∧(l.map (·.1)).Nodup∧l.length≤4096∧Q (.dict l) σ') X σ):WE c n env (.Dict ks vs pos) Q X σ:=fun A ω hR hS=>by
 refine wpAny_Dict_any hall hl h0 hlen ?_
 have hS₁:=hS.addK { cls:=.type "dict",data:=.dict #[] } rfl
 have hk0:ω.k ω.s.heap.objs.size=none:=by
  cases e:ω.k ω.s.heap.objs.size with
  | none=>rfl
  | some o'=>exact absurd (Heap.lt_size (hS.kk _ _ e)) (Nat.lt_irrefl _)
 have hkk:∀ x o,ω.k x=some o→gAdd ω.k ω.s.heap.objs.size { cls:=.type "dict",data:=.dict #[] } x=some o:=(gAdd_sub (a:=[]) (b:=[]) hk0).hg
 let ω₁:Wd:={ ω with s:={ ω.s with heap:=ω.s.heap.push { cls:=.type "dict",data:=.dict #[] } },k:=gAdd ω.k ω.s.heap.objs.size { cls:=.type "dict",data:=.dict #[] } }
 refine wpAny_mono (h A ω₁ hR hS₁) ?_ fun e s' x=>x.dropK hkk ⟨.refl,rfl,rfl,rfl,rfl,rfl⟩
 refine Post.all fun rps ps σ₁ ω₂ l₂ S₂ rp hz9=>?_
 refine gC fun G hG=>?_
 obtain ⟨l,hsp,hnd,hln,h₂⟩:=hz9
 obtain ⟨kvs,hc,hrk⟩:=strPairs_carries hsp rp
 refine hG ?_
 have kd:ω₂.k ω.s.heap.objs.size=some { cls:=.type "dict",data:=.dict #[] }:=by rw [l₂.k]; exact gAdd_self
 have hd0:ω₂.s.heap.DictOf (strKind c.prog c.w) ω.s.heap.objs.size []:=⟨_,#[],0,S₂.kk _ _ kd,⟨rfl,rfl,rfl⟩,rfl,fun e he=>by simp at he,.nil,.nil⟩
 have hm:merged [] kvs=kvs:=by rw [merged_new (by simpa [hrk.keys] using hnd)]; rfl
 have hlen':kvs.length≤sizeLine:=by
  have e1:=congrArg List.length hrk.keys
  simp only [List.length_map] at e1
  exact szL (e1▸Nat.le_trans hln (Nat.le_of_ble_eq_true rfl))
 refine wpAny_storeAll (knd:=strKind c.prog c.w) rps kvs [] _ _ hc hd0 (by simpa using hlen') fun h' hD hs=>?_
 rw [hm] at hD
 refine gC fun G hG=>?_
 obtain ⟨es,ep,hg,hr⟩:=dictOf_rel rfl hD hrk
 obtain ⟨S₃,hs₃⟩:=S₂.dropK l₂.k hk0 hs hg (ω₂.s.toks+rps.length)
 refine hG ?_
 exact ⟨.dict l,σ₁,{ ω₂ with s:={ ω₂.s with heap:=h',toks:=ω₂.s.toks+rps.length },k:=ω.k,g:=gAdd ω₂.g ω.s.heap.objs.size (dictOf es ep) },⟨l₂.sub.trans hs₃,l₂.gens,l₂.drawn,l₂.os,rfl,l₂.kf⟩,rfl,S₃,.dict gAdd_self (Nat.lt_of_lt_of_le (Nat.lt_of_succ_lt c.big) (Nat.le_trans hS.above (Nat.le_of_lt hS.ns.lt))) (hr.mono hs₃) hnd,h₂⟩
end
end HL.Lake
end
noncomputable section
namespace HL.Lake
open PySem PySem.W PySem.Calls PyProof.Rows
section
variable {c:Cx} {n:Nat} {env:Env} {X:St→Prop} {σ:St} {pos:Pos} {ω:Wd} {sc:Scope}
theorem e_and {Q:V→St→Prop} {e₁ e₂:PySem.Expr} {rest:List PySem.Expr} (h:WE c n env e₁ (fun v σ₁=>TV c n env v (fun b σ₂=>if b then WE c n env (.BoolOp .And (e₂ :: rest) pos) Q X σ₂ else Q v σ₂) X σ₁) X σ):WE c n env (.BoolOp .And (e₁ :: e₂ :: rest) pos) Q X σ:=fun A ω hR hS=>by
 refine BoolOp_and (wpAny_mono (h A ω hR hS) ?_ fun z9 z9 x=>x)
 refine Post.all fun rv v σ₁ ω₁ l₁ S₁ r₁ h₁=>?_
 refine wpX l₁ (h₁ A ω₁ [rv] (hR.le l₁) S₁ (.cons r₁ .nil)) ?_
 refine Post.all fun b b' σ₂ ω₂ l₂ S₂ rz10 h₂=>?_
 obtain rfl:=rz10
 have l12:=l₁.trans l₂
 cases b' with
 | true=>exact wpX l12 (h₂ A ω₂ (hR.le l12) S₂) fun z9 z9 p=>p.le l12
 | false=>exact ⟨v,σ₂,ω₂,l12,rfl,S₂,r₁.mono l₂.sub,h₂⟩
theorem e_or {Q:V→St→Prop} {e₁ e₂:PySem.Expr} {rest:List PySem.Expr} (h:WE c n env e₁ (fun v σ₁=>TV c n env v (fun b σ₂=>if b then Q v σ₂ else WE c n env (.BoolOp .Or (e₂ :: rest) pos) Q X σ₂) X σ₁) X σ):WE c n env (.BoolOp .Or (e₁ :: e₂ :: rest) pos) Q X σ:=fun A ω hR hS=>by
 refine BoolOp_or (wpAny_mono (h A ω hR hS) ?_ fun z9 z9 x=>x)
 refine Post.all fun rv v σ₁ ω₁ l₁ S₁ r₁ h₁=>?_
 refine wpX l₁ (h₁ A ω₁ [rv] (hR.le l₁) S₁ (.cons r₁ .nil)) ?_
 refine Post.all fun b b' σ₂ ω₂ l₂ S₂ rz11 h₂=>?_
 obtain rfl:=rz11
 have l12:=l₁.trans l₂
 cases b' with
 | false=>exact wpX l12 (h₂ A ω₂ (hR.le l12) S₂) fun z9 z9 p=>p.le l12
 | true=>exact ⟨v,σ₂,ω₂,l12,rfl,S₂,r₁.mono l₂.sub,h₂⟩
theorem e_bool1 {Q:V→St→Prop} {op:BoolOp} {e:PySem.Expr} (h:WE c n env e Q X σ):WE c n env (.BoolOp op [e] pos) Q X σ:=fun A ω hR hS=>BoolOp_one (h A ω hR hS)
theorem e_ifexp {Q:V→St→Prop} {t a b:PySem.Expr} (h:WT c n env t (fun d σ₁=>if d then WE c n env a Q X σ₁ else WE c n env b Q X σ₁) X σ):WE c n env (.IfExp t a b pos) Q X σ:=fun A ω hR hS=>by
 rw [arm_eval_IfExp]
 refine wpAny_bind (wpAny_mono (h A ω hR hS) ?_ fun z9 z9 x=>x)
 refine Post.all fun d d' σ₁ ω₁ l₁ S₁ rz12 h₁=>?_
 obtain rfl:=rz12
 cases d' <;> exact wpX l₁ (h₁ A ω₁ (hR.le l₁) S₁) fun z9 z9 p=>p.le l₁
theorem rel_free {M:Model} {A:Around} {E:Value→Shared→Prop} {s:Shared} {vs keep:List Value} {Q:Unit→Shared→Prop} (h:Q () s):wpAny M A (release vs keep) Q E s:=fun Γ p z9=>by rw [Sem.wp_release]; exact h
theorem e_chain2 {Q:V→St→Prop} {o₁ o₂:CmpOp} {l r₁ r₂:PySem.Expr} (hm:lastMarks [o₁,o₂] [r₁,r₂]=false)
  (h:WE c n env l (fun a σ₁=>WE c n env r₁ (fun b σ₂=>KV c n env o₁ a b (fun v σ₃=>TV c n env v (fun t σ₄=>if t then WE c n env r₂ (fun d σ₅=>KV c n env o₂ b d Q X σ₅) X σ₄ else Q v σ₄) X σ₃) X σ₂) X σ₁) X σ) :
  WE c n env (.Compare l [o₁,o₂] [r₁,r₂] pos) Q X σ:=fun A ω hR hS=>by
 refine Compare_chain (wpAny_mono (h A ω hR hS) ?_ fun z9 z9 x=>x) hm
 refine Post.all fun ra a σ₁ ω₁ l₁ S₁ ra' h₁=>?_
 show wpAny _ _ (do
  let rv ← holding [ra] (eval r₁ env)
  standAt pos
  let c ← holding [ra,rv] (compareOp o₁ ra rv)
  release [ra,rv] [c]
  if ← holding [c,rv] (truthy c) then compareChain pos rv [o₂] [eval r₂ env] else pure c) _ _ _
 refine wpAny_bind (wpAny_holding (wpX l₁ (h₁ A ω₁ (hR.le l₁) S₁) ?_))
 refine Post.all fun rb b σ₂ ω₂ l₂ S₂ rb' h₂=>?_
 have l12:=l₁.trans l₂
 refine wpAny_bind (wpAny_standAt (wpAny_bind (wpAny_holding (wpX l12 (h₂ A ω₂ [ra,rb] (hR.le l12) S₂ (.cons (ra'.mono l₂.sub) (.cons rb' .nil))) ?_))))
 refine Post.all fun rv v σ₃ ω₃ l₃ S₃ rv' h₃=>?_
 have l13:=l12.trans l₃
 refine wpAny_bind (rel_free ?_)
 refine wpAny_bind (wpAny_holding (wpX l13 (h₃ A ω₃ [rv] (hR.le l13) S₃ (.cons rv' .nil)) ?_))
 refine Post.all fun t t' σ₄ ω₄ l₄ S₄ rz13 h₄=>?_
 obtain rfl:=rz13
 have l14:=l13.trans l₄
 cases t' with
 | false=>exact wpAny_pure ⟨v,σ₄,ω₄,l14,rfl,S₄,rv'.mono l₄.sub,h₄⟩
 | true =>
  show wpAny _ _ (do
   let rv ← holding [rb] (eval r₂ env)
   standAt pos
   operate [rb,rv] (compareOp o₂ rb rv)) _ _ _
  refine wpAny_bind (wpAny_holding (wpX l14 (h₄ A ω₄ (hR.le l14) S₄) ?_))
  refine Post.all fun rd d σ₅ ω₅ l₅ S₅ rd' h₅=>?_
  have l15:=l14.trans l₅
  exact wpAny_bind (wpAny_standAt (wpAny_operating (wpX l15 (h₅ A ω₅ [rb,rd] (hR.le l15) S₅ (.cons (rb'.mono (l₃.trans (l₄.trans l₅)).sub) (.cons rd' .nil))) fun z9 z9 p=>p.le l15)))
theorem t_chain2 {Q:Bool→St→Prop} {o₁ o₂:CmpOp} {l r₁ r₂:PySem.Expr} (hm:lastMarks [o₁,o₂] [r₁,r₂]=false)
  (h:WE c n env l (fun a σ₁=>WE c n env r₁ (fun b σ₂=>KV c n env o₁ a b (fun v σ₃=>TV c n env v (fun t σ₄=>if t then WE c n env r₂ (fun d σ₅=>KV c n env o₂ b d (fun u σ₆=>TV c n env u Q X σ₆) X σ₅) X σ₄ else Q false σ₄) X σ₃) X σ₂) X σ₁) X σ) :
  WT c n env (.Compare l [o₁,o₂] [r₁,r₂] pos) Q X σ:=fun A ω hR hS=>by
 refine isTrue_chain (wpAny_mono (h A ω hR hS) ?_ fun z9 z9 x=>x) hm
 refine Post.all fun ra a σ₁ ω₁ l₁ S₁ ra' h₁=>?_
 show wpAny _ _ (do
  let rv ← holding [ra] (eval r₁ env)
  standAt pos
  let c ← holding [ra,rv] (compareOp o₁ ra rv)
  release [ra,rv] [c]
  if ← holding [c,rv] (truthy c) then testChain pos rv [o₂] [eval r₂ env] else pure false) _ _ _
 refine wpAny_bind (wpAny_holding (wpX l₁ (h₁ A ω₁ (hR.le l₁) S₁) ?_))
 refine Post.all fun rb b σ₂ ω₂ l₂ S₂ rb' h₂=>?_
 have l12:=l₁.trans l₂
 refine wpAny_bind (wpAny_standAt (wpAny_bind (wpAny_holding (wpX l12 (h₂ A ω₂ [ra,rb] (hR.le l12) S₂ (.cons (ra'.mono l₂.sub) (.cons rb' .nil))) ?_))))
 refine Post.all fun rv v σ₃ ω₃ l₃ S₃ rv' h₃=>?_
 have l13:=l12.trans l₃
 refine wpAny_bind (rel_free ?_)
 refine wpAny_bind (wpAny_holding (wpX l13 (h₃ A ω₃ [rv] (hR.le l13) S₃ (.cons rv' .nil)) ?_))
 refine Post.all fun t t' σ₄ ω₄ l₄ S₄ rz14 h₄=>?_
 obtain rfl:=rz14
 have l14:=l13.trans l₄
 cases t' with
 | false=>exact wpAny_pure ⟨false,σ₄,ω₄,l14,rfl,S₄,rfl,h₄⟩
 | true =>
  show wpAny _ _ (do
   let rv ← holding [rb] (eval r₂ env)
   standAt pos
   let c ← operate [rb,rv] (compareOp o₂ rb rv)
   holding [c] (truthy c)) _ _ _
  refine wpAny_bind (wpAny_holding (wpX l14 (h₄ A ω₄ (hR.le l14) S₄) ?_))
  refine Post.all fun rd d σ₅ ω₅ l₅ S₅ rd' h₅=>?_
  have l15:=l14.trans l₅
  refine wpAny_bind (wpAny_standAt (wpAny_bind (wpAny_operating (wpX l15 (h₅ A ω₅ [rb,rd] (hR.le l15) S₅ (.cons (rb'.mono (l₃.trans (l₄.trans l₅)).sub) (.cons rd' .nil))) ?_))))
  refine Post.all fun ru u σ₆ ω₆ l₆ S₆ ru' h₆=>?_
  have l16:=l15.trans l₆
  exact wpAny_holding (wpX l16 (h₆ A ω₆ [ru] (hR.le l16) S₆ (.cons ru' .nil)) fun z9 z9 p=>p.le l16)
noncomputable abbrev UV (c:Cx) (n:Nat) (env:Env) (op:UnaryOp) (a:V) (Q:V→St→Prop) (X:St→Prop) (σ:St):Prop:=WO c n env (fun | [x]=>unaryOp op x | _=>unsupported "") [a] (RV c) Q X σ
theorem e_un {Q:V→St→Prop} {op:UnaryOp} {e:PySem.Expr} (h:WE c n env e (fun a σ₁=>UV c n env op a Q X σ₁) X σ):WE c n env (.UnaryOp op e pos) Q X σ:=fun A ω hR hS=>by
 rw [arm_eval_UnaryOp]
 refine wpAny_bind (wpAny_mono (h A ω hR hS) ?_ fun z9 z9 x=>x)
 refine Post.all fun ra a σ₁ ω₁ l₁ S₁ r₁ h₁=>?_
 exact wpAny_bind (wpAny_standAt (wpAny_holding (wpX l₁ (h₁ A ω₁ [ra] (hR.le l₁) S₁ (.cons r₁ .nil)) fun z9 z9 p=>p.le l₁)))
inductive Sub4 (σ:St):V→Prop
 | str {x}:Sub4 σ (.str x)
 | tup {l}:Sub4 σ (.tup l)
 | list {l}:Sub4 σ (.list l)
 | dict {l}:Sub4 σ (.dict l)
 | lo {i o}:σ.T[i]?=some o→Sub4 σ (.lo i)
 | ob {i o}:σ.W[i]?=some o→Sub4 σ (.ob i)
theorem typeObj {s:Shared} {x:Addr} {o:Obj} {T:String} (ho:s.heap.get? x=some o) (hc:o.cls=.type T):s.TypeIs (.ref x) T:=⟨o,ho,hc⟩
theorem Sub4.slot {L:Addr} {v:V} {rv:Value} (k:Sub4 σ v) (S:Sat c L σ ω) (r:RV c ω v rv):∃ T id,ω.s.TypeIs rv T∧typeLookup (.type T) "__getitem__"=pure (some (.builtin id)):=by
 have ofO:∀ {P g a b o ob x},RelO P g a b o ob→ω.s.heap.get? x=some ob→∃ T id,ω.s.TypeIs (.ref x) T∧typeLookup (.type T) "__getitem__"=pure (some (.builtin id)):=by
  intro P g a b o ob x r ho
  cases r with
  | list=>exact ⟨"list",_,typeObj ho rfl,F.slot_list_getitem.lookup⟩
  | dict=>exact ⟨"dict",_,typeObj ho rfl,F.slot_dict_getitem.lookup⟩
 cases k with
 | str=>(first | obtain rfl:=r.inv | obtain ⟨_,rfl⟩:=r.inv | cases r); exact ⟨"str",_,typeIs_str _ _ _,F.slot_str_getitem.lookup⟩
 | tup=>obtain ⟨_,_,_,rfl,hg,_⟩:=r.inv; exact ⟨"tuple",_,typeObj (S.keep _ _ hg) rfl,F.slot_tuple_getitem.lookup⟩
 | list=>obtain ⟨_,_,_,rfl,hg,_⟩:=r.inv; exact ⟨"list",_,typeObj (S.keep _ _ hg) rfl,F.slot_list_getitem.lookup⟩
 | dict=>obtain ⟨_,_,_,rfl,hg,_,_,_⟩:=r.inv; exact ⟨"dict",_,typeObj (S.keep _ _ hg) rfl,F.slot_dict_getitem.lookup⟩
 | lo h=>obtain ⟨_,rfl,hi⟩:=r.inv; obtain ⟨x,ob,e1,e2,r⟩:=S.tT.2 _ _ h; rw [hi] at e1; cases e1; exact ofO r e2
 | ob h=>obtain ⟨_,rfl,hi⟩:=r.inv; obtain ⟨x,ob,e1,e2,r⟩:=S.tW.2 _ _ h; rw [hi] at e1; cases e1; exact ofO r e2
theorem subscripted_ops {slice:PySem.Expr} {o i:Value}:∃ ops,subscripted slice false o i=operate ops (getItem o i):=by
 exact PySem.Expr.casesOn (motive_1:=fun e=>∃ ops,subscripted e false o i=operate ops (getItem o i)) slice (by intros; exact ⟨_,rfl⟩) (by intros; exact ⟨_,rfl⟩) (by intros; exact ⟨_,rfl⟩) (by intros; exact ⟨_,rfl⟩) (by intros; exact ⟨_,rfl⟩) (by intros; exact ⟨_,rfl⟩) (by intros; exact ⟨_,rfl⟩) (by intros; exact ⟨_,rfl⟩) (by intros; exact ⟨_,rfl⟩) (by intros; exact ⟨_,rfl⟩) (by intros; exact ⟨_,rfl⟩) (by intros; exact ⟨_,rfl⟩) (by intros; exact ⟨_,rfl⟩) (by intros; exact ⟨_,rfl⟩) (by intros; exact ⟨_,rfl⟩) (by intros; exact ⟨_,rfl⟩) (by intros; exact ⟨_,rfl⟩) (by intros; exact ⟨_,rfl⟩) (by intros; exact ⟨_,rfl⟩) (by intros; exact ⟨_,rfl⟩) (by intros; exact ⟨_,rfl⟩) (by intros; exact ⟨_,rfl⟩) (by intros; exact ⟨_,rfl⟩) (by intros; exact ⟨_,rfl⟩) (by intros; exact ⟨_,rfl⟩) (by intros; exact ⟨_,rfl⟩) (by intro _ _ s _; cases s <;> exact ⟨_,rfl⟩)
noncomputable abbrev IV (c:Cx) (n:Nat) (env:Env) (a i:V) (Q:V→St→Prop) (X:St→Prop) (σ:St):Prop:=WO c n env (fun | [x,i]=>getItem x i | _=>unsupported "") [a,i] (RV c) Q X σ
theorem e_sub {Q:V→St→Prop} {value slice:PySem.Expr} (h:WE c n env value (fun o σ₁=>WE c n env slice (fun i σ₂=>Sub4 σ₂ o∧IV c n env o i Q X σ₂) X σ₁) X σ):WE c n env (.Subscript value slice pos) Q X σ:=fun A ω hR hS=>by
 refine Subscript_ (wpAny_mono (h A ω hR hS) ?_ fun z9 z9 x=>x)
 refine Post.all fun ro o σ₁ ω₁ l₁ S₁ r₁ h₁=>?_
 refine wpX l₁ (h₁ A ω₁ (hR.le l₁) S₁) ?_
 refine Post.all fun ri i σ₂ ω₂ l₂ S₂ r₂ hz15=>?_
 refine gC fun G hG=>?_
 obtain ⟨k,h₂⟩:=hz15
 have l12:=l₁.trans l₂
 obtain ⟨T,id,hT,hl⟩:=k.slot S₂ (r₁.mono l₂.sub)
 obtain ⟨ops,ho⟩:=subscripted_ops (slice:=slice) (o:=ro) (i:=ri)
 refine hG ?_
 exact wpX l12 (tail_any hT hl (h₂ A ω₂ [ro,ri] (hR.le l12) S₂ (.cons (r₁.mono l₂.sub) (.cons r₂ .nil))) ho) fun z9 z9 p=>p.le l12
end
end HL.Lake
end
noncomputable section
namespace HL.Lake
open PySem PySem.W PySem.Calls PyProof.Rows
section
variable {c:Cx} {n:Nat} {env:Env} {X:St→Prop} {σ:St} {pos:Pos} {ω:Wd} {sc:Scope} {rest:List Stmt} {Q:Fl→St→Prop}
theorem s_nil (h:Q .next σ):WS c n env [] Q X σ:=fun A ω hR hS=>wpAny_execs_nil (done hS .next h)
noncomputable def notComp (e:PySem.Expr):Bool:=notK [8,9,10] e
theorem swapsWith_plain {v:PySem.Expr} {t:Option PySem.Expr} {k:Nat} (h:notComp v=true):swapsWith v t k env=pure false:=by
 cases v <;> first | rfl | cases h
theorem s_cons {A:Around} {st:Stmt} (hR:Here c n env A ω.kf)
  (h:wpAny (model c.prog c.w) A (exec st env) (fun f s'=>match f with | .next=>∃ σ' ω',Le ω ω'∧ω'.s=s'∧Sat c env.locals σ' ω'∧WS c n env rest Q X σ' | f=>Post c env.locals (RelF c) ω Q f s') (PostX c env A ω X) ω.s) :
  wpAny (model c.prog c.w) A (execs (st :: rest) env) (Post c env.locals (RelF c) ω Q) (PostX c env A ω X) ω.s:=by
 refine wpAny_execs_cons (wpAny_mono h ?_ fun z9 z9 x=>x)
 intro f s' p
 cases f with
 | next =>
  obtain ⟨σ',ω',l,rfl,S',k⟩:=p
  exact wpX l (k A ω' (hR.le l) S') fun z9 z9 p=>p.le l
 | _=>exact p
theorem storeV {A:Around} {x:Str} {v:V} {rv:Value} {l':List (Str×Option V)} (he:EnvOk env sc) (hk:(sc.names.lookup x==some .local)=true) (hS:Sat c env.locals σ ω) (r:RV c ω v rv) (p:PutL x v σ.loc l') {Q:Unit→Shared→Prop} {E:Value→Shared→Prop}
  (h:∀ ω',Le ω ω'→Sat c env.locals { σ with loc:=l' } ω'→Q () ω'.s):wpAny (model c.prog c.w) A (storeName env x rv) Q E ω.s:=by
 refine wpAny_storeName_local (he.look hk) hS.ns (fun h' hn hs=>?_) ?_
 ·obtain ⟨S',l''⟩:=hS.store p r hn hs (ω.s.toks+1)
  exact h _ l'' S'
 ·rw [he.kind']; rfl
theorem s_assign {x:Str} {p':Pos} {value:PySem.Expr} (he:EnvOk env sc) (hk:(sc.names.lookup x==some .local)=true) (hc:notComp value=true)
  (h:WE c n env value (fun v σ'=>∃ l',PutL x v σ'.loc l'∧WS c n env rest Q X { σ' with loc:=l' }) X σ):WS c n env (.Assign [.Name x p'] value pos :: rest) Q X σ:=fun A ω hR hS=>by
 refine s_cons hR (wpAny_Assign_Name (wpAny_mono (h A ω hR hS) ?_ fun z9 z9 x=>x) (swapsWith_plain hc))
 refine Post.all fun rv v σ₁ ω₁ l₁ S₁ r hz16=>?_
 obtain ⟨l',p,h₁⟩:=hz16
 exact storeV he hk S₁ r p fun ω₂ l₂ S₂=>⟨_,ω₂,l₁.trans l₂,rfl,S₂,h₁⟩
noncomputable abbrev SA (c:Cx) (n:Nat) (env:Env) (x:Str) (o v:V) (Q:Unit→St→Prop) (X:St→Prop) (σ:St):Prop:=WO c n env (fun | [o,v]=>setAttr o x v | _=>unsupported "") [o,v] (fun z9 z9 z9=>True) Q X σ
theorem sa_put {Q:Unit→St→Prop} {C:Addr} {i:Nat} {l l':List (Str×V)} {x:Str} {v:V} (hk:SetOk c.K C x) (hW:σ.W[i]?=some (.dict l)) (hp:Put x v l l') (hz:decide (l.length≤1000)=true) (hv:v.noLo=true) (h:Q () { σ with W:=σ.W.set i (.dict l') }):SA c n env x (.inst C i) v Q X σ:=fun A ω rvs hR hS hr=>by
 obtain ⟨ro,rv,rfl,r1,r2⟩:=hr.two
 exact setA hk hW hp (of_decide_eq_true hz) hS r1 (r2.noLo hv) h
theorem sa_new {Q:Unit→St→Prop} {C:Addr} {i:Nat} {l:List (Str×V)} {x:Str} {v:V} (hk:SetOk c.K C x) (hW:σ.W[i]?=some (.dict l)) (hp:x ∉ l.map (·.1)) (hz:decide (l.length+1≤1000)=true) (hv:v.noLo=true) (h:Q () { σ with W:=σ.W.set i (.dict (l++[(x,v)])) }):SA c n env x (.inst C i) v Q X σ:=fun A ω rvs hR hS hr=>by
 obtain ⟨ro,rv,rfl,r1,r2⟩:=hr.two
 exact setNew hk hW hp (of_decide_eq_true hz) hS r1 (r2.noLo hv) h
theorem s_assign_attr {o value:PySem.Expr} {x:Str} {p':Pos} (hc:notComp value=true) (h:WE c n env value (fun v σ₁=>WE c n env o (fun ov σ₂=>SA c n env x ov v (fun z9 σ₃=>WS c n env rest Q X σ₃) X σ₂) X σ₁) X σ) :
  WS c n env (.Assign [.Attribute o x p'] value pos :: rest) Q X σ:=fun A ω hR hS=>by
 refine s_cons hR (plainObj_wpAny_Assign_Attribute (wpAny_mono (h A ω hR hS) ?_ fun z9 z9 x=>x) (swapsWith_plain hc))
 refine Post.all fun rv v σ₁ ω₁ l₁ S₁ r h₁=>?_
 refine wpX l₁ (h₁ A ω₁ (hR.le l₁) S₁) ?_
 refine Post.all fun ro ov σ₂ ω₂ l₂ S₂ r₂ h₂=>?_
 have l12:=l₁.trans l₂
 refine wpX l12 (h₂ A ω₂ [ro,rv] (hR.le l12) S₂ (.cons r₂ (.cons (r.mono l₂.sub) .nil))) ?_
 refine Post.all fun z9 z9 σ₃ ω₃ l₃ S₃ z9 h₃=>?_
 exact ⟨σ₃,ω₃,l12.trans l₃,rfl,S₃,h₃⟩
noncomputable abbrev SI (c:Cx) (n:Nat) (env:Env) (o i v:V) (Q:Unit→St→Prop) (X:St→Prop) (σ:St):Prop:=WO c n env (fun | [o,i,v]=>setItem o i v | _=>unsupported "") [o,i,v] (fun z9 z9 z9=>True) Q X σ
theorem s_assign_sub {o i value:PySem.Expr} {p':Pos} (hc:notComp value=true) (h:WE c n env value (fun v σ₁=>WE c n env o (fun ov σ₂=>WE c n env i (fun iv σ₃=>SI c n env ov iv v (fun z9 σ₄=>WS c n env rest Q X σ₄) X σ₃) X σ₂) X σ₁) X σ) :
  WS c n env (.Assign [.Subscript o i p'] value pos :: rest) Q X σ:=fun A ω hR hS=>by
 refine s_cons hR (wpAny_Assign_Subscript (wpAny_mono (h A ω hR hS) ?_ fun z9 z9 x=>x) (swapsWith_plain hc))
 refine Post.all fun rv v σ₁ ω₁ l₁ S₁ r h₁=>?_
 refine wpX l₁ (h₁ A ω₁ (hR.le l₁) S₁) ?_
 refine Post.all fun ro ov σ₂ ω₂ l₂ S₂ r₂ h₂=>?_
 have l12:=l₁.trans l₂
 refine wpX l12 (h₂ A ω₂ (hR.le l12) S₂) ?_
 refine Post.all fun ri iv σ₃ ω₃ l₃ S₃ r₃ h₃=>?_
 have l13:=l12.trans l₃
 refine wpX l13 (h₃ A ω₃ [ro,ri,rv] (hR.le l13) S₃ (.cons (r₂.mono l₃.sub) (.cons r₃ (.cons (r.mono (l₂.trans l₃).sub) .nil)))) ?_
 refine Post.all fun z9 z9 σ₄ ω₄ l₄ S₄ z9 h₄=>?_
 exact ⟨σ₄,ω₄,l13.trans l₄,rfl,S₄,h₄⟩
theorem s_return {e:PySem.Expr} (h:WE c n env e (fun v σ'=>Q (.ret v) σ') X σ):WS c n env (.Return (some e) pos :: rest) Q X σ:=fun A ω hR hS=>by
 refine s_cons hR (wpAny_Return_some (wpAny_mono (h A ω hR hS) ?_ fun z9 z9 x=>x))
 rintro rv s₁ ⟨v,σ₁,ω₁,l₁,e₁,S₁,r,h₁⟩
 exact ⟨.ret v,σ₁,ω₁,l₁,e₁,S₁,.ret r,h₁⟩
theorem s_return_none (h:Q (.ret .none) σ):WS c n env (.Return none pos :: rest) Q X σ:=fun A ω hR hS=>by
 exact s_cons hR (wpAny_Return_none ⟨.ret .none,σ,ω,.refl _,rfl,hS,.ret .none,h⟩)
theorem s_break (h:Q .brk σ):WS c n env (.Break pos :: rest) Q X σ:=fun A ω hR hS=>by
 exact s_cons hR (fun z9 z9 z9=>⟨.brk,σ,ω,.refl _,rfl,hS,.brk,h⟩)
theorem s_pass (h:WS c n env rest Q X σ):WS c n env (.Pass pos :: rest) Q X σ:=fun A ω hR hS=>by
 exact s_cons hR (wpAny_Pass ⟨σ,ω,.refl _,rfl,hS,h⟩)
theorem execs_append (a b:List Stmt):execs (a++b) env=(do match ← execs a env with | .next=>execs b env | f=>pure f):=by
 induction a with
 | nil=>rw [execs_nil,pure_bind]; rfl
 | cons s a ih =>
  rw [List.cons_append,execs_cons,execs_cons,bind_assoc]
  refine congrArg _ (funext fun f=>?_)
  cases f with
  | next=>exact ih
  | _=>exact (pure_bind _ _).symm
theorem s_if {t:PySem.Expr} {a o:List Stmt} (h:WT c n env t (fun b σ'=>if b then WS c n env (a++rest) Q X σ' else WS c n env (o++rest) Q X σ') X σ):WS c n env (.If t a o pos :: rest) Q X σ:=fun A ω hR hS=>by
 have e:execs (.If t a o pos :: rest) env=(do standAt pos; if ← isTrue t env (eval t env) then execs (a++rest) env else execs (o++rest) env):=by
  rw [execs_cons,exec_If,bind_assoc]
  refine congrArg _ (funext fun z9=>?_)
  rw [bind_assoc]
  refine congrArg _ (funext fun b=>?_)
  (first | obtain rfl:=b.inv | obtain ⟨_,rfl⟩:=b.inv | cases b)
  ·exact (execs_append o rest).symm
  ·exact (execs_append a rest).symm
 rw [e]
 refine wpAny_bind (wpAny_standAt (wpAny_bind (wpAny_mono (h A ω hR hS) ?_ fun z9 z9 x=>x)))
 refine Post.all fun d d' σ₁ ω₁ l₁ S₁ rz17 h₁=>?_
 obtain rfl:=rz17
 cases d' <;> exact wpX l₁ (h₁ A ω₁ (hR.le l₁) S₁) fun z9 z9 p=>p.le l₁
end
end HL.Lake
end
noncomputable section
namespace HL.Lake
open PySem PySem.W PySem.Calls PyProof.Rows
section
variable {c:Cx} {n:Nat} {env:Env} {X:St→Prop} {σ:St} {pos:Pos} {ω:Wd} {sc:Scope} {rest:List Stmt} {Q:Fl→St→Prop}
theorem interactive_no (he:EnvOk env sc):interactive env=false:=by
 unfold interactive; rw [he.kind']; rfl
theorem s_expr {e:PySem.Expr} (he:EnvOk env sc) (hc:notComp e=true) (h:WE c n env e (fun z9 σ'=>WS c n env rest Q X σ') X σ):WS c n env (.Expr e pos :: rest) Q X σ:=fun A ω hR hS=>by
 refine s_cons hR (wpAny_Expr_any (wpAny_mono (h A ω hR hS) ?_ fun z9 z9 x=>x) (interactive_no he) (swapsWith_plain hc))
 rintro rv s₁ ⟨v,σ₁,ω₁,l₁,e₁,S₁,r,h₁⟩
 exact ⟨σ₁,ω₁,l₁,e₁,S₁,h₁⟩
noncomputable abbrev PV (c:Cx) (n:Nat) (env:Env) (op:Operator) (a b:V) (Q:V→St→Prop) (X:St→Prop) (σ:St):Prop:=WO c n env (fun | [x,y]=>inplaceOp op x y | _=>unsupported "") [a,b] (RV c) Q X σ
theorem s_aug {x:Str} {p':Pos} {op:Operator} {value:PySem.Expr} {v:V} (he:EnvOk env sc) (hk:(sc.names.lookup x==some .local)=true) (hm:(x,some v)∈σ.loc)
  (h:WE c n env value (fun w σ₁=>PV c n env op v w (fun u σ₂=>∃ l',PutL x u σ₂.loc l'∧WS c n env rest Q X { σ₂ with loc:=l' }) X σ₁) X σ):WS c n env (.AugAssign (.Name x p') op value pos :: rest) Q X σ:=fun A ω hR hS=>by
 obtain ⟨rv,e,r⟩:=hS.loc x v hm
 refine s_cons hR (wpAny_AugAssign_Name (wpAny_loadName_local he.kind' (he.look hk) hS.ns e (wpAny_mono (h A ω hR hS) ?_ fun z9 z9 x=>x)))
 refine Post.all fun rw w σ₁ ω₁ l₁ S₁ r₁ h₁=>?_
 refine wpX l₁ (h₁ A ω₁ [rv,rw] (hR.le l₁) S₁ (.cons (r.mono l₁.sub) (.cons r₁ .nil))) ?_
 refine Post.all fun ru u σ₂ ω₂ l₂ S₂ r₂ hz18=>?_
 obtain ⟨l',p,h₂⟩:=hz18
 exact storeV he hk S₂ r₂ p fun ω₃ l₃ S₃=>⟨_,ω₃,(l₁.trans l₂).trans l₃,rfl,S₃,h₂⟩
theorem s_aug_attr {o value:PySem.Expr} {x:Str} {p':Pos} {op:Operator}
  (h:WE c n env o (fun ov σ₁=>GA c n env x ov (fun old σ₂=>WE c n env value (fun v σ₃=>PV c n env op old v (fun new σ₄=>SA c n env x ov new (fun z9 σ₅=>WS c n env rest Q X σ₅) X σ₄) X σ₃) X σ₂) X σ₁) X σ) :
  WS c n env (.AugAssign (.Attribute o x p') op value pos :: rest) Q X σ:=fun A ω hR hS=>by
 refine s_cons hR (wpAny_AugAssign_AttributeAny (wpAny_mono (h A ω hR hS) ?_ fun z9 z9 x=>x))
 refine Post.all fun ro ov σ₁ ω₁ l₁ S₁ r₁ h₁=>?_
 refine wpX l₁ (h₁ A ω₁ [ro] (hR.le l₁) S₁ (.cons r₁ .nil)) ?_
 refine Post.all fun rold old σ₂ ω₂ l₂ S₂ r₂ h₂=>?_
 have l12:=l₁.trans l₂
 refine wpX l12 (h₂ A ω₂ (hR.le l12) S₂) ?_
 refine Post.all fun rv v σ₃ ω₃ l₃ S₃ r₃ h₃=>?_
 have l13:=l12.trans l₃
 refine wpX l13 (h₃ A ω₃ [rold,rv] (hR.le l13) S₃ (.cons (r₂.mono l₃.sub) (.cons r₃ .nil))) ?_
 refine Post.all fun rnew new σ₄ ω₄ l₄ S₄ r₄ h₄=>?_
 have l14:=l13.trans l₄
 refine wpX l14 (h₄ A ω₄ [ro,rnew] (hR.le l14) S₄ (.cons (r₁.mono (l₂.trans (l₃.trans l₄)).sub) (.cons r₄ .nil))) ?_
 refine Post.all fun z9 z9 σ₅ ω₅ l₅ S₅ z9 h₅=>?_
 exact ⟨σ₅,ω₅,l14.trans l₅,rfl,S₅,h₅⟩
noncomputable def notSlice (e:PySem.Expr):Bool:=notK [26] e
theorem augStore_plain {i:PySem.Expr} (h:notSlice i=true) (ov iv new:Value):augStore i ov iv new=(do holding [new,ov,iv] (setItem ov iv new); release [new,ov,iv] []; pure .next):=by
 revert h
 exact PySem.Expr.casesOn (motive_1:=fun e=>notSlice e=true→augStore e ov iv new=(do holding [new,ov,iv] (setItem ov iv new); release [new,ov,iv] []; pure .next)) i (by intros; rfl) (by intros; rfl) (by intros; rfl) (by intros; rfl) (by intros; rfl) (by intros; rfl) (by intros; rfl) (by intros; rfl) (by intros; rfl) (by intros; rfl) (by intros; rfl) (by intros; rfl) (by intros; rfl) (by intros; rfl) (by intros; rfl) (by intros; rfl) (by intros; rfl) (by intros; rfl) (by intros; rfl) (by intros; rfl) (by intros; rfl) (by intros; rfl) (by intros; rfl) (by intros; rfl) (by intros; rfl) (by intros; rfl) (by intros; contradiction)
theorem s_aug_sub {o i value:PySem.Expr} {p':Pos} {op:Operator} (hi:notSlice i=true)
  (h:WE c n env o (fun ov σ₁=>WE c n env i (fun iv σ₂=>IV c n env ov iv (fun old σ₃=>WE c n env value (fun v σ₄=>PV c n env op old v (fun new σ₅=>SI c n env ov iv new (fun z9 σ₆=>WS c n env rest Q X σ₆) X σ₅) X σ₄) X σ₃) X σ₂) X σ₁) X σ) :
  WS c n env (.AugAssign (.Subscript o i p') op value pos :: rest) Q X σ:=fun A ω hR hS=>by
 refine s_cons hR (wpAny_AugAssign_SubscriptAny (wpAny_mono (h A ω hR hS) ?_ fun z9 z9 x=>x) (augStore_plain hi))
 refine Post.all fun ro ov σ₁ ω₁ l₁ S₁ r₁ h₁=>?_
 refine wpX l₁ (h₁ A ω₁ (hR.le l₁) S₁) ?_
 refine Post.all fun ri iv σ₂ ω₂ l₂ S₂ r₂ h₂=>?_
 have l12:=l₁.trans l₂
 refine wpX l12 (h₂ A ω₂ [ro,ri] (hR.le l12) S₂ (.cons (r₁.mono l₂.sub) (.cons r₂ .nil))) ?_
 refine Post.all fun rold old σ₃ ω₃ l₃ S₃ r₃ h₃=>?_
 have l13:=l12.trans l₃
 refine wpX l13 (h₃ A ω₃ (hR.le l13) S₃) ?_
 refine Post.all fun rv v σ₄ ω₄ l₄ S₄ r₄ h₄=>?_
 have l14:=l13.trans l₄
 refine wpX l14 (h₄ A ω₄ [rold,rv] (hR.le l14) S₄ (.cons (r₃.mono l₄.sub) (.cons r₄ .nil))) ?_
 refine Post.all fun rnew new σ₅ ω₅ l₅ S₅ r₅ h₅=>?_
 have l15:=l14.trans l₅
 have l25:=l₃.trans (l₄.trans l₅)
 refine wpX l15 (h₅ A ω₅ [ro,ri,rnew] (hR.le l15) S₅ (.cons (r₁.mono (l₂.trans l25).sub) (.cons (r₂.mono l25.sub) (.cons r₅ .nil)))) ?_
 refine Post.all fun z9 z9 σ₆ ω₆ l₆ S₆ z9 h₆=>?_
 exact ⟨σ₆,ω₆,l15.trans l₆,rfl,S₆,h₆⟩
theorem Sat.ext {L:Addr} (S:Sat c L σ ω) {h':Heap} (hk:∀ x o,ω.s.heap.get? x=some o→h'.get? x=some o) (t:Nat):Sat c L σ { ω with s:={ ω.s with heap:=h',toks:=t } }∧Le ω { ω with s:={ ω.s with heap:=h',toks:=t } } :=
 ⟨⟨S.ns.keeps hk,fun x o e=>hk _ _ (S.keep x o e),S.base,S.high,S.loc,S.nd,S.tT.keeps' fun x z9 o e=>hk x o e,S.tW.keeps' fun x z9 o e=>hk x o e,S.apart,S.out,fun x o e=>hk _ _ (S.kk x o e),S.ok,fun x m e=>(S.nf x m e).keeps hk,S.okf,S.dis,S.dk⟩,⟨.refl,rfl,rfl,rfl,rfl,rfl⟩⟩
noncomputable abbrev AO_ (c:Cx) (n:Nat) (env:Env) (ts:List PySem.Expr) (vs:List V) (Q:Unit→St→Prop) (X:St→Prop) (σ:St):Prop:=WO c n env (fun rvs=>assignInOrder ((assignEach ts env).map (·.2)) rvs) vs (fun z9 z9 z9=>True) Q X σ
theorem ao_nil {Q:Unit→St→Prop} (h:Q () σ):AO_ c n env [] [] Q X σ:=fun A ω rvs hR hS hr=>by cases hr; exact wpAny_pure (done hS trivial h)
theorem ao_name {Q:Unit→St→Prop} {x:Str} {p:Pos} {ts:List PySem.Expr} {v:V} {vs:List V} (he:EnvOk env sc) (hk:(sc.names.lookup x==some .local)=true) (h:∃ l',PutL x v σ.loc l'∧AO_ c n env ts vs Q X { σ with loc:=l' }):AO_ c n env (.Name x p :: ts) (v :: vs) Q X σ:=fun A ω rvs hR hS hr=>by
 cases hr with
 | cons r rs =>
  refine gC fun G hG=>?_
  obtain ⟨l',p,h⟩:=h
  refine hG ?_
  refine assignInOrder_cons (assign_Name (storeV he hk hS r p fun ω' l S'=>?_))
  exact wpX l (h A ω' _ (hR.le l) S' (rs.mono l.sub)) fun z9 z9 q=>q.le l
theorem ao_attr {Q:Unit→St→Prop} {o:PySem.Expr} {x:Str} {p:Pos} {ts:List PySem.Expr} {v:V} {vs:List V} (h:WE c n env o (fun ov σ₁=>SA c n env x ov v (fun z9 σ₂=>AO_ c n env ts vs Q X σ₂) X σ₁) X σ):AO_ c n env (.Attribute o x p :: ts) (v :: vs) Q X σ:=fun A ω rvs hR hS hr=>by
 refine gC fun G hG=>?_
 cases hr with
 | @cons _ rv _ _ r rs =>
  refine hG ?_
  refine assignInOrder_cons (t:=assign (.Attribute o x p) env) ?_
  rw [arm_assign_Attribute]
  refine wpAny_bind (wpAny_holding (wpAny_mono (h A ω hR hS) ?_ fun z9 z9 x=>x))
  refine Post.all fun ro ov σ₁ ω₁ l₁ S₁ r₁ h₁=>?_
  refine wpAny_bind (wpAny_standAt (wpAny_bind (wpAny_holding (wpX l₁ (h₁ A ω₁ [ro,rv] (hR.le l₁) S₁ (.cons r₁ (.cons (r.mono l₁.sub) .nil))) ?_))))
  refine Post.all fun z9 z9 σ₂ ω₂ l₂ S₂ z9 h₂=>?_
  have l12:=l₁.trans l₂
  exact rel_free (wpX l12 (h₂ A ω₂ _ (hR.le l12) S₂ (rs.mono l12.sub)) fun z9 z9 q=>q.le l12)
noncomputable def notStarT (e:PySem.Expr):Bool:=notK [22] e
theorem assignEach_find {ts:List PySem.Expr} (h:ts.all notStarT=true):(assignEach ts env).findIdx? (·.1)=none∧(assignEach ts env).length=ts.length:=by
 induction ts with
 | nil=>exact ⟨rfl,rfl⟩
 | cons t ts ih =>
  have h:(notStarT t&&ts.all notStarT)=true:=h
  have e:assignEach (t :: ts) env=(false,assign t env) :: assignEach ts env:=by
   have h:=(andT h).1
   clear ih
   cases t <;> first | rfl | exact absurd (show false=true from h) Bool.false_ne_true
  obtain ⟨i1,i2⟩:=ih (andT h).2
  rw [e,List.findIdx?_cons,i1]
  exact ⟨if_neg Bool.false_ne_true,congrArg Nat.succ i2⟩
noncomputable def notTupE (e:PySem.Expr):Bool:=notK [25] e
theorem swappedStores_plain {elts:List PySem.Expr} {k:Nat} {tp:Pos} {v:PySem.Expr} (h:notTupE v=true):swappedStores [.Tuple elts k tp] v env=pure none:=by
 cases v <;> first | rfl | cases h
theorem swapsWithSole_plain {t v:PySem.Expr} {k:Nat} (h:notComp v=true):swapsWithSole [t] v k env=pure false:=by
 show swapsWith v (some t) k env=_
 exact swapsWith_plain h
theorem s_tuple {elts:List PySem.Expr} {k:Nat} {tp:Pos} {value:PySem.Expr} (hc:notComp value=true) (ht:notTupE value=true) (hs:elts.all notStarT=true)
  (h:WE c n env value (fun v σ₁=>∃ vs,v=.tup vs∧vs.length=elts.length∧AO_ c n env elts vs (fun z9 σ₂=>WS c n env rest Q X σ₂) X σ₁) X σ):WS c n env (.Assign [.Tuple elts k tp] value pos :: rest) Q X σ:=fun A ω hR hS=>by
 refine s_cons hR (Assign_Tuple (wpAny_mono (h A ω hR hS) ?_ fun z9 z9 x=>x) (swapsWithSole_plain hc) (swappedStores_plain ht))
 refine Post.all fun rv z9 σ₁ ω₁ l₁ S₁ r hz19=>?_
 refine gC fun G hG=>?_
 obtain ⟨vs,rfl,hl,h₁⟩:=hz19
 obtain ⟨x,xs,k,rfl,hg,rs⟩:=r.inv
 obtain ⟨q1,q2⟩:=assignEach_find (env:=env) hs
 refine hG ?_
 rw [arm_assign_Tuple]
 refine wpAny_bind (wpAny_standAt (unpack_tuple (hR.room.handled) ⟨_,S₁.keep _ _ hg,rfl,k,rfl⟩ (by rw [q2,List.size_toArray,RVs.len rs,hl]) q1 fun h' hx=>?_))
 obtain ⟨S₂,l₂⟩:=S₁.ext (h':=h') (fun y o e=>hx y o (Nat.ne_of_lt (Heap.lt_size e)) e) ω₁.s.toks
 have l12:=l₁.trans l₂
 refine wpX l12 (h₁ A _ xs (hR.le l12) S₂ (rs.mono l₂.sub)) ?_
 refine Post.all fun z9 z9 σ₃ ω₃ l₃ S₃ z9 h₃=>?_
 exact ⟨σ₃,ω₃,l12.trans l₃,rfl,S₃,h₃⟩
theorem s_while {test:PySem.Expr} {body:List Stmt} (I:Nat→St→Prop) (k:Nat) (hI:I k σ)
  (turn:∀ k σ,I k σ→WT c n env test (fun b σ₁=>if b then WS c n env body (fun fl σ₂=>match fl with | .next=>∃ j,j < k∧I j σ₂ | .cont=>∃ j,j < k∧I j σ₂ | .brk=>WS c n env rest Q X σ₂ | .ret v=>Q (.ret v) σ₂) (fun z9=>False) σ₁ else WS c n env rest Q X σ₁) (fun z9=>False) σ) :
  WS c n env (.While test body [] pos :: rest) Q X σ:=fun A ω hR hS=>by
 refine s_cons hR (wpAny_While ?_)
 refine codeAny_whileLoop (fun k s=>∃ σ' ω',Le ω ω'∧ω'.s=s∧Sat c env.locals σ' ω'∧I k σ') ?_ k ⟨σ,ω,.refl _,rfl,hS,hI⟩
 intro k _ hz2q
 refine gC fun G hG=>?_
 obtain ⟨σ',ω',l,rfl,S',hI'⟩:=hz2q
 refine hG ?_
 refine wpAny_mono (turn k σ' hI' A ω' (hR.le l) S') ?_ fun z9 z9 p=>p.no
 refine Post.all fun b b' σ₁ ω₁ l₁ S₁ rz20 h₁=>?_
 obtain rfl:=rz20
 have l01:=l.trans l₁
 cases b' with
 | false =>
  rw [if_neg Bool.false_ne_true] at h₁ ⊢
  exact wpAny_execs_nil ⟨σ₁,ω₁,l01,rfl,S₁,h₁⟩
 | true =>
  rw [if_pos rfl] at h₁ ⊢
  refine wpAny_mono (h₁ A ω₁ (hR.le l01) S₁) ?_ fun z9 z9 p=>p.no
  refine Post.all fun f fl σ₂ ω₂ l₂ S₂ rf h₂=>?_
  have l02:=l01.trans l₂
  cases rf with
  | next=>obtain ⟨j,hj,hI₂⟩:=h₂; exact ⟨j,hj,σ₂,ω₂,l02,rfl,S₂,hI₂⟩
  | cont=>obtain ⟨j,hj,hI₂⟩:=h₂; exact ⟨j,hj,σ₂,ω₂,l02,rfl,S₂,hI₂⟩
  | brk=>exact ⟨σ₂,ω₂,l02,rfl,S₂,h₂⟩
  | ret r=>exact ⟨_,σ₂,ω₂,l02,rfl,S₂,.ret r,h₂⟩
theorem s_assert {t:PySem.Expr} (h:WT c n env t (fun b σ'=>b=true∧WS c n env rest Q X σ') X σ):WS c n env (.Assert t none pos :: rest) Q X σ:=fun A ω hR hS=>by
 refine s_cons hR (wpAny_Assert_new hR.room.handled (wpAny_mono (h A ω hR hS) ?_ fun z9 z9 x=>x))
 rintro b s₁ ⟨b',σ₁,ω₁,l₁,e₁,S₁,rfl,rfl,h₁⟩
 rw [if_pos rfl]
 exact ⟨σ₁,ω₁,l₁,e₁,S₁,h₁⟩
end
end HL.Lake
end
noncomputable section
namespace HL.Lake
open PySem PySem.W PySem.Calls PyProof.Rows
section
variable {c:Cx} {n:Nat} {env:Env} {X:St→Prop} {σ:St} {pos:Pos} {ω:Wd} {sc:Scope} {rest:List Stmt} {Q:Fl→St→Prop}
set_option tactic.hygienic true in
theorem Sat.swapK {L I:Addr} {o o':Obj} {k₀:PHeap} {h':Heap} (S:Sat c L σ ω) (hk:ω.k=gAdd k₀ I o) (hs:∀ x o,x≠I→ω.s.heap.get? x=some o→h'.get? x=some o) (hd:h'.get? I=some o') (t:Nat) :
  Sat c L σ { ω with s:={ ω.s with heap:=h',toks:=t },k:=gAdd k₀ I o' }:=by
 have kd:ω.k I=some o:=by rw [hk]; exact gAdd_self
 have hin:∀ x∈L :: (ω.a++ω.b),x≠I:=fun x hx=>by rintro rfl; exact Lake.nn (S.ok x hx) kd
 have hkf:∀ x m,ω.kf x=some m→x≠I:=fun x m e=>by rintro rfl; exact Lake.nn ((S.dis x m e).1) kd
 have hne:∀ x,x≠I→gAdd k₀ I o' x=ω.k x:=fun x hx=>by rw [hk]; unfold gAdd; rw [if_neg hx,if_neg hx]
 refine ⟨nsKeep S.ns fun o e=>hs _ o (hin _ (.head _)) e,fun x o'' e=>hs x o'' (by rintro rfl; exact Lake.nn (S.dk _ _ kd) e) (S.keep x o'' e),S.base,S.high,S.loc,S.nd,S.tT.keeps' fun x hx o e=>hs x o (hin x (.tail _ (List.mem_append_left _ hx))) e,S.tW.keeps' fun x hx o e=>hs x o (hin x (.tail _ (List.mem_append_right _ hx))) e,S.apart,S.out,fun x o'' e=>?_,fun x hx=>(hne x (hin x hx)).trans (S.ok x hx),fun x m e=>nsKeep (S.nf x m e) fun o q=>hs x o (hkf x m e) q,S.okf,fun x m e=>⟨(hne x (hkf x m e)).trans (S.dis x m e).1,(S.dis x m e).2⟩,fun x o'' e=>?_⟩
 ·have e':(if x=I then some o' else k₀ x)=some o'':=e
  split at e'
  ·rename_i h; subst h; cases e'; exact hd
  ·rename_i h; exact hs x o'' h (S.kk x o'' (by rw [← hne x h]; exact e))
 ·have e':(if x=I then some o' else k₀ x)=some o'':=e
  split at e'
  ·rename_i h; subst h; exact S.dk _ _ kd
  ·rename_i h; exact S.dk x o'' (by rw [← hne x h]; exact e)
noncomputable def quietIter (o:Obj):Prop:=match o.cls,o.data with
 | .type n,.fields _=>(["enumerate","zip","dict_itemiterator","dict_reverseitemiterator","odict_iterator","itertools.zip_longest","itertools.pairwise"]:List String).contains n=false
 | _,_=>True
theorem quiet_of {o:Obj} {n:String} {fs:Array Value} (hc:o.cls=.type n) (hd:o.data=.fields fs) (h:(["enumerate","zip","dict_itemiterator","dict_reverseitemiterator","odict_iterator","itertools.zip_longest","itertools.pairwise"]:List String).contains n=false):quietIter o:=by
 unfold quietIter
 rw [hc,hd]
 exact h
structure Iters (c:Cx) (ω:Wd) (rv:Value) (items:List V):Prop where
 it:∀ (A:Around) (Q:Value→Shared→Prop) (E:Value→Shared→Prop),A.handled=none →
  (∀ (o:Obj) (fp:List Addr) (P:Nat→Value→Prop) (St:Nat→Heap→Prop),o.isFreed=false→(∀ A':Around,A'.handled=none→Walks c.prog c.w A' ω.s.heap.objs.size fp [ω.s.heap.objs.size] items.length P St)→St 0 (ω.s.heap.push o) →
   (∀ b∈fp,b=ω.s.heap.objs.size∨∃ o,ω.g b=some o)→(∀ i h,St i h→∃ o,h.get? ω.s.heap.objs.size=some o∧quietIter o)→(∀ i v,i < items.length→P i v→∃ u,items[i]?=some u∧RV c ω u v) →
   Q (.ref ω.s.heap.objs.size) { ω.s with heap:=ω.s.heap.push o })→wpAny (model c.prog c.w) A (pyIter rv) Q E ω.s
theorem relL_get {P:Params} {g:PHeap} {a b:List Addr} {l:List V} {rl:List Value} {i:Nat} {v:Value} (h:RelL P g a b l rl):rl[i]?=some v→∃ u,l[i]?=some u∧Rel P g a b u v :=
 RelL.ind (M:=fun l rl=>∀ i:Nat,rl[i]?=some v→∃ u,l[i]?=some u∧Rel P g a b u v) (fun z9 e=>by cases e) (fun z9 z9 z9 z9 r z9 ih i e=>by
  cases i with
  | zero=>exact Option.some.inj e▸⟨_,rfl,r⟩
  | succ i=>exact ih i e) h i
theorem relL_len {P:Params} {g:PHeap} {a b:List Addr} {l:List V} {rl:List Value} (h:RelL P g a b l rl):rl.length=l.length :=
 RelL.ind (M:=fun l rl=>rl.length=l.length) rfl (fun z9 z9 z9 z9 z9 z9 ih=>congrArg (·+1) ih) h
theorem iters_list {L:Addr} {l:List V} {rv:Value} (hS:Sat c L σ ω) (r:RV c ω (.list l) rv):Iters c ω rv l:=by
 obtain ⟨x,xs,k,rfl,hg,rs⟩:=r.inv
 refine ⟨fun A Q E hh hQ=>?_⟩
 have hl:ω.s.heap.IsList x xs.toArray:=⟨_,hS.keep _ _ hg,rfl,k,rfl⟩
 have hne:x≠ω.s.heap.objs.size:=Nat.ne_of_lt (Heap.lt_size (hS.keep _ _ hg))
 have hlen:xs.toArray.size=l.length:=by rw [List.size_toArray,relL_len rs]
 refine wpAny_pyIter_list hl (hQ _ [ω.s.heap.objs.size,x] (fun i v=>xs.toArray[i]?=some v) (fun i h=>h.IsListIter ω.s.heap.objs.size x i∧h.IsList x xs.toArray) rfl (fun A' hA'=>hlen▸Walks.list hA' _ _ hne _) ⟨⟨_,Heap.get?_push_size _ rfl,rfl,rfl⟩,hl.push _⟩ ?_ ?_ ?_)
 ·intro b hb
  simp only [List.mem_cons,List.not_mem_nil,or_false] at hb
  rcases hb with rfl | rfl
  ·exact .inl rfl
  ·exact .inr ⟨_,hg⟩
 ·rintro i h ⟨⟨o,ho,hc,hd⟩,_⟩
  refine ⟨o,ho,?_⟩
  exact quiet_of hc hd (by decide)
 ·intro i v _ e
  exact relL_get rs (by simpa using e)
theorem iters_tup {L:Addr} {l:List V} {rv:Value} (hS:Sat c L σ ω) (r:RV c ω (.tup l) rv):Iters c ω rv l:=by
 obtain ⟨x,xs,k,rfl,hg,rs⟩:=r.inv
 refine ⟨fun A Q E hh hQ=>?_⟩
 have hl:ω.s.heap.IsTuple x xs.toArray:=⟨_,hS.keep _ _ hg,rfl,k,rfl⟩
 have hne:x≠ω.s.heap.objs.size:=Nat.ne_of_lt (Heap.lt_size (hS.keep _ _ hg))
 have hlen:xs.toArray.size=l.length:=by rw [List.size_toArray,relL_len rs]
 refine wpAny_pyIter_tuple hl (hQ _ [ω.s.heap.objs.size,x] (fun i v=>xs.toArray[i]?=some v) (fun i h=>h.IsTupleIter ω.s.heap.objs.size x i∧h.IsTuple x xs.toArray) rfl (fun A' hA'=>hlen▸Walks.tuple hA' _ _ hne _) ⟨⟨_,Heap.get?_push_size _ rfl,rfl,rfl⟩,hl.push _⟩ ?_ ?_ ?_)
 ·intro b hb
  simp only [List.mem_cons,List.not_mem_nil,or_false] at hb
  rcases hb with rfl | rfl
  ·exact .inl rfl
  ·exact .inr ⟨_,hg⟩
 ·rintro i h ⟨⟨o,ho,hc,hd⟩,_⟩
  exact ⟨o,ho,quiet_of hc hd (by decide)⟩
 ·intro i v _ e
  exact relL_get rs (by simpa using e)
theorem iters_range {rv:Value} {r:Addr} {a b d:Int} {N:Nat} {t u v:Tok} (hr:rv=.ref r) (hg:ω.s.heap.get? r=some { cls:=.type "range",dict:=none,data:=.fields #[.int a t,.int b u,.int d v],slots:=#[] }) (hz:Builtin.Range.small a b d=true) (hN:Builtin.Range.rangeSize a b d=N) :
  Iters c ω rv ((List.range N).map fun i=>.int (a+(i:Nat) * d)):=by
 subst hr
 refine ⟨fun A Q E hh hQ=>?_⟩
 have hlen:((List.range N).map fun (i:Nat)=>V.int (a+i * d)).length=N:=by simp
 refine wpAny_pyIter_range hg hz (hQ _ [ω.s.heap.objs.size] (fun i v=>∃ t,v=.int (a+i * d) t) (fun i h=>IsRangeIter h ω.s.heap.objs.size (a+(i:Nat) * d) ((N:Int) - (i:Nat)) d) rfl (fun A' hA'=>by rw [hlen]; exact Walks.range hA' _ a d _) ?_ (fun b hb=>.inl (by simpa using hb)) ?_ ?_)
 ·show Heap.get? _ _=_
  rw [hN]
  simp only [Int.ofNat_zero,Int.zero_mul,Int.add_zero,Int.sub_zero,Int.natCast_zero]
  exact Heap.get?_push_size _ rfl
 ·intro i h e
  exact ⟨_,e,quiet_of rfl rfl (by decide)⟩
 ·rintro i v hi ⟨t,rfl⟩
  rw [hlen] at hi
  exact ⟨.int (a+i * d),by simp [hi],.int⟩
theorem iters_str {L:Addr} {x:Str} {rv:Value} (hS:Sat c L σ ω) (r:RV c ω (.str x) rv):Iters c ω rv (x.cps.toList.map fun k=>.str ⟨#[k]⟩):=by
 obtain ⟨t,rfl⟩:=r.inv
 refine ⟨fun A Q E hh hQ=>?_⟩
 have hlen:(x.cps.toList.map fun k=>V.str ⟨#[k]⟩).length=x.cps.size:=List.length_map _
 have hP:∀ i v,i < (x.cps.toList.map fun k=>V.str ⟨#[k]⟩).length→SignAt x i v→∃ u,(x.cps.toList.map fun k=>V.str ⟨#[k]⟩)[i]?=some u∧RV c ω u v:=by
  rintro i v - ⟨k,u,e,rfl⟩
  exact ⟨.str ⟨#[k]⟩,by rw [List.getElem?_map,Array.getElem?_toList,e]; rfl,.str⟩
 cases ha:x.cps.all (· < 128)
 ·exact wpAny_pyIter_wide ha (hQ _ [ω.s.heap.objs.size] (SignAt x) (fun i h=>h.IsStrIter ω.s.heap.objs.size "str_iterator" x t i) rfl (fun A' hA=>hlen▸Walks.strWide hA _ x t) ⟨_,Heap.get?_push_size _ rfl,rfl,rfl⟩ (fun b hb=>.inl (List.mem_singleton.mp hb)) (fun i h q=>q.imp fun o q=>⟨q.1,quiet_of q.2.1 q.2.2 (by decide)⟩) hP)
 ·exact wpAny_pyIter_ascii ha (hQ _ [ω.s.heap.objs.size] (SignAt x) (fun i h=>h.IsStrIter ω.s.heap.objs.size "str_ascii_iterator" x t i) rfl (fun A' hA=>hlen▸Walks.strAscii hA _ x t) ⟨_,Heap.get?_push_size _ rfl,rfl,rfl⟩ (fun b hb=>.inl (List.mem_singleton.mp hb)) (fun i h q=>q.imp fun o q=>⟨q.1,quiet_of q.2.1 q.2.2 (by decide)⟩) hP)
noncomputable abbrev AT (c:Cx) (n:Nat) (env:Env) (t:PySem.Expr) (v:V) (Q:Unit→St→Prop) (X:St→Prop) (σ:St):Prop:=WO c n env (fun | [x]=>assign t env x | _=>unsupported "") [v] (fun z9 z9 z9=>True) Q X σ
theorem at_name {Q:Unit→St→Prop} {x:Str} {p:Pos} {v:V} (he:EnvOk env sc) (hk:(sc.names.lookup x==some .local)=true) (h:∃ l',PutL x v σ.loc l'∧Q () { σ with loc:=l' }):AT c n env (.Name x p) v Q X σ:=fun A ω rvs hR hS hr=>by
 obtain ⟨rv,rfl,r⟩:=hr.one
 obtain ⟨l',p,h⟩:=h
 exact assign_Name (storeV he hk hS r p fun ω' l S'=>⟨(),_,ω',l,rfl,S',trivial,h⟩)
theorem at_tuple {Q:Unit→St→Prop} {elts:List PySem.Expr} {k:Nat} {tp:Pos} {vs:List V} (hs:elts.all notStarT=true) (hl:vs.length=elts.length) (h:AO_ c n env elts vs Q X σ):AT c n env (.Tuple elts k tp) (.tup vs) Q X σ:=fun A ω rvs hR hS hr=>by
 obtain ⟨rv,rfl,r⟩:=hr.one
 refine gC fun G hG=>?_
 obtain ⟨x,xs,k,rfl,hg,rs⟩:=r.inv
 obtain ⟨q1,q2⟩:=assignEach_find (env:=env) hs
 refine hG ?_
 show wpAny _ _ (assign (.Tuple elts _ tp) env (.ref x)) _ _ _
 rw [arm_assign_Tuple]
 refine wpAny_bind (wpAny_standAt (unpack_tuple (hR.room.handled) ⟨_,hS.keep _ _ hg,rfl,k,rfl⟩ (by rw [q2,List.size_toArray,RVs.len rs,hl]) q1 fun h' hx=>?_))
 obtain ⟨S₂,l₂⟩:=hS.ext (h':=h') (fun y o e=>hx y o (Nat.ne_of_lt (Heap.lt_size e)) e) ω.s.toks
 exact wpX l₂ (h A _ xs (hR.le l₂) S₂ (rs.mono l₂.sub)) fun z9 z9 q=>q.le l₂
noncomputable def notSetE (e:PySem.Expr):Bool:=notK [7,11] e
end
end HL.Lake
end
noncomputable section
namespace HL.Lake
open PySem PySem.W PySem.Calls PyProof.Rows
section
variable {c:Cx} {n:Nat} {env:Env} {X:St→Prop} {σ:St} {pos:Pos} {ω:Wd} {sc:Scope} {rest:List Stmt} {Q:Fl→St→Prop}
theorem Sat.forgetK {L I:Addr} {o:Obj} {k₀:PHeap} {h':Heap} (S:Sat c L σ ω) (hk:ω.k=gAdd k₀ I o) (h0:k₀ I=none) (hs:∀ x o,x≠I→ω.s.heap.get? x=some o→h'.get? x=some o) (t:Nat) :
  Sat c L σ { ω with s:={ ω.s with heap:=h',toks:=t },k:=k₀ }:=by
 have kd:ω.k I=some o:=by rw [hk]; exact gAdd_self
 have hin:∀ x∈L :: (ω.a++ω.b),x≠I:=fun x hx=>by rintro rfl; exact Lake.nn (S.ok x hx) kd
 have hkf:∀ x m,ω.kf x=some m→x≠I:=fun x m e=>by rintro rfl; exact Lake.nn ((S.dis x m e).1) kd
 have hne:∀ x,x≠I→k₀ x=ω.k x:=fun x hx=>by rw [hk]; unfold gAdd; rw [if_neg hx]
 have hk':∀ x o'',k₀ x=some o''→x≠I:=fun x o'' e=>by rintro rfl; exact Lake.nn (h0) e
 refine ⟨nsKeep S.ns fun o e=>hs _ o (hin _ (.head _)) e,fun x o'' e=>hs x o'' (by rintro rfl; exact Lake.nn (S.dk _ _ kd) e) (S.keep x o'' e),S.base,S.high,S.loc,S.nd,S.tT.keeps' fun x hx o e=>hs x o (hin x (.tail _ (List.mem_append_left _ hx))) e,S.tW.keeps' fun x hx o e=>hs x o (hin x (.tail _ (List.mem_append_right _ hx))) e,S.apart,S.out,fun x o'' e=>hs x o'' (hk' x o'' e) (S.kk x o'' ((hne x (hk' x o'' e)).symm.trans e)),fun x hx=>(hne x (hin x hx)).trans (S.ok x hx),fun x m e=>nsKeep (S.nf x m e) fun o q=>hs x o (hkf x m e) q,S.okf,fun x m e=>⟨(hne x (hkf x m e)).trans (S.dis x m e).1,(S.dis x m e).2⟩,fun x o'' e=>S.dk x o'' ((hne x (hk' x o'' e)).symm.trans e)⟩
structure LeK (ω ω':Wd):Prop where
 sub:Sub ω.g ω'.g ω.a ω'.a ω.b ω'.b
 gens:gk ω'.s.gens=gk ω.s.gens
 drawn:ω'.s.drawn=ω.s.drawn
 os:ω'.s.os=ω.s.os
 kf:ω'.kf=ω.kf
noncomputable def LoopAt (c:Cx) (L:Addr) (ω₀:Wd) (I:Addr) (T:Nat→Heap→Prop) (i:Nat) (σ:St) (s:Shared):Prop :=
 ∃ ω o,LeK ω₀ ω∧ω.s=s∧Sat c L σ ω∧ω.k=gAdd ω₀.k I o∧ω₀.k I=none∧T i s.heap∧s.heap.get? I=some o
theorem LoopAt.out {L I:Addr} {T:Nat→Heap→Prop} {i:Nat} {s:Shared} (h:LoopAt c L ω I T i σ s) {h':Heap} {t:Nat} (hs:∀ x o,x≠I→s.heap.get? x=some o→h'.get? x=some o) :
  ∃ ω',Le ω ω'∧ω'.s={ s with heap:=h',toks:=t }∧Sat c L σ ω':=by
 refine gC fun G hG=>?_
 obtain ⟨ω',o,l,rfl,S,hk,h0,_⟩:=h
 refine hG ?_
 exact ⟨{ ω' with s:={ ω'.s with heap:=h',toks:=t },k:=ω.k },⟨l.sub,l.gens,l.drawn,l.os,rfl,l.kf⟩,rfl,S.forgetK hk h0 hs t⟩
noncomputable def Leans (ω:Wd) (I:Addr) (fp:List Addr):Prop:=∀ b∈fp,b=I∨∃ o,ω.g b=some o
theorem LoopAt.go {A:Around} {I:Addr} {fp:List Addr} {N:Nat} {P:Nat→Value→Prop} {T:Nat→Heap→Prop} (W:Walks c.prog c.w A I fp [I] N P T) (hfp:Leans ω I fp) (ho:∀ i h,T i h→∃ o,h.get? I=some o∧quietIter o)
  {target:PySem.Expr} {items:List V} (hl:items.length=N) (hP:∀ i v,i < N→P i v→∃ u,items[i]?=some u∧RV c ω u v) (hR:Here c n env A ω.kf)
  {B:St→Prop}
  {i:Nat} {s:Shared} (h:LoopAt c env.locals ω I T i σ s) (hi:i≤N)
  (turn:∀ u,items[i]?=some u→AT c n env target u (fun z9 σ₃=>B σ₃) (fun z9=>False) σ)
  {Qn:Option Value→Shared→Prop} {E':Value→Shared→Prop}
  (hd:i=N→∀ s',(∃ ω',Le ω ω'∧ω'.s=s'∧Sat c env.locals σ ω')→Qn none s')
  (hb:∀ v s',i < N→wpAny (model c.prog c.w) A (letOwnedTupleGo target (.ref I) v) (fun z9 s₁=>wpAny (model c.prog c.w) A (assign target env v) (fun z9 s₂=>∃ σ',LoopAt c env.locals ω I T (i+1) σ' s₂∧B σ') E' s₁) E' s'→Qn (some v) s') :
  wpAny (model c.prog c.w) A (pyNext (.ref I)) Qn E' s:=by
 obtain ⟨ω',o,l,rfl,S,hk,h0,st,hg⟩:=h
 rcases Nat.lt_or_ge i N with hlt | hge
 ·refine W.item i _ _ _ hlt st fun v h' tk p st' hs=>?_
  obtain ⟨o',ho',hq⟩:=ho _ _ st'
  obtain ⟨u,hu,r⟩:=hP i v hlt p
  have S':=S.swapK (o':=o') hk (fun x o hx e=>hs x o (by simpa using hx) e) ho' tk
  refine hb v _ hlt ?_
  -- the owned tuple
  have hgo:∀ (s:Shared) (Q:Unit→Shared→Prop) (E:Value→Shared→Prop),s.heap.get? I=some o'→Q () s→wpAny (model c.prog c.w) A (letOwnedTupleGo target (.ref I) v) Q E s:=by
   intro s Q E hs q
   have key:wpAny (model c.prog c.w) A (do
     let (.ref r,.ref a):=(Value.ref I,v) | return
     let o ← load r
     match o.cls,o.data with
     | .type n,.fields vs =>
      if ["enumerate","zip","dict_itemiterator","dict_reverseitemiterator","odict_iterator","itertools.zip_longest","itertools.pairwise"].contains n&&vs[0]?==some (rawInt a) then
       rule "for.unpacks-the-owned-tuple"
       updateField r 0 .none
     | _,_=>pure ():Sem Unit) Q E s:=by
    cases v with
    | ref a =>
     refine wpAny_bind (wpAny_load hs ?_)
     unfold quietIter at hq
     generalize o'.cls=cl at hq ⊢
     generalize o'.data=dt at hq ⊢
     cases cl with
     | type n=>cases dt with
      | fields vs =>
       have hq:(_:Bool)=false:=hq
       dsimp only
       rw [hq,Bool.false_and,if_neg Bool.false_ne_true]
       exact wpAny_pure q
      | _=>exact wpAny_pure q
     | _=>exact wpAny_pure q
    | _=>exact wpAny_pure q
   have pq:wpAny (model c.prog c.w) A (pure ()) Q E s:=wpAny_pure q
   exact PySem.Expr.casesOn (motive_1:=fun t=>wpAny (model c.prog c.w) A (letOwnedTupleGo t (.ref I) v) Q E s) target (by intros; exact pq) (by intros; exact pq) (by intros; exact pq) (by intros; exact pq) (by intros; exact pq) (by intros; exact pq) (by intros; exact pq) (by intros; exact pq) (by intros; exact pq) (by intros; exact pq) (by intros; exact pq) (by intros; exact pq) (by intros; exact pq) (by intros; exact pq) (by intros; exact pq) (by intros; exact pq) (by intros; exact pq) (by intros; exact pq) (by intros; exact pq) (by intros; exact pq) (by intros; exact pq) (by intros; exact pq) (by intros; exact pq) (by intros; exact pq) (by intros; exact key) (by intros; exact key) (by intros; exact pq)
  refine hgo _ _ _ ho' ?_
  refine wpAny_mono (turn u hu A { ω' with s:={ ω'.s with heap:=h',toks:=tk },k:=gAdd ω.k I o' } [v] (show Here c n env A ω'.kf from l.kf▸hR) S' (.cons (r.mono l.sub) .nil)) ?_ fun z9 z9 p=>p.no
  refine Post.all fun z9 z9 σ₂ ω₂ l₂ S₂ z9 hB=>?_
  have hkI:ω₂.k I=some o':=by rw [l₂.k]; exact gAdd_self
  refine ⟨σ₂,⟨ω₂,o',⟨l.sub.trans l₂.sub,l₂.gens.trans l.gens,l₂.drawn.trans l.drawn,l₂.os.trans l.os,l₂.kf.trans l.kf⟩,rfl,S₂,l₂.k,h0,W.frame _ _ _ st' fun b hb o e=>?_,S₂.kk _ _ hkI⟩,hB⟩
  rcases hfp b hb with rfl | ⟨ob,hob⟩
  ·rw [ho'] at e; cases e; exact S₂.kk _ _ hkI
  ·have e1:=S'.keep b ob (l.sub.hg _ _ hob)
   rw [e] at e1; cases e1
   exact S₂.keep b _ (l₂.sub.hg _ _ (l.sub.hg _ _ hob))
 ·have hiN:i=N:=Nat.le_antisymm hi hge
  subst hiN
  refine W.done _ _ _ st fun h' tk hs=>?_
  refine hd rfl _ ?_
  exact LoopAt.out (T:=T) (i:=i) ⟨ω',o,l,rfl,S,hk,h0,st,hg⟩ fun x o hx e=>hs x o (by simpa using hx) e
end
end HL.Lake
end
noncomputable section
namespace HL.Lake
open PySem PySem.W PySem.Calls PyProof.Rows
section
variable {c:Cx} {n:Nat} {env:Env} {X:St→Prop} {σ:St} {pos:Pos} {ω:Wd} {sc:Scope} {rest:List Stmt} {Q:Fl→St→Prop}
noncomputable def WI (c:Cx) (n:Nat) (env:Env) (e:PySem.Expr) (Q:List V→St→Prop) (X:St→Prop) (σ:St):Prop:=W c n env (eval e env) (fun ω items rv=>Iters c ω rv items) Q X σ
inductive ItemsOf:V→List V→Prop
 | list {l}:ItemsOf (.list l) l
 | tup {l}:ItemsOf (.tup l) l
 | str {x:Str}:ItemsOf (.str x) (x.cps.toList.map fun k=>.str ⟨#[k]⟩)
theorem ItemsOf.it {L:Addr} {v:V} {items:List V} {rv:Value} (h:ItemsOf v items) (hS:Sat c L σ ω) (r:RV c ω v rv):Iters c ω rv items:=by
 cases h with
 | list=>exact iters_list hS r
 | tup=>exact iters_tup hS r
 | str=>exact iters_str hS r
theorem wi_plain {e:PySem.Expr} {Q:List V→St→Prop} (h:WE c n env e (fun v σ'=>∃ items,ItemsOf v items∧Q items σ') X σ):WI c n env e Q X σ:=fun A ω hR hS=>by
 refine wpAny_mono (h A ω hR hS) ?_ fun z9 z9 x=>x
 intro rv s₁ hz1q
 refine gC fun G hG=>?_
 obtain ⟨v,σ₁,ω₁,l₁,e₁,S₁,r,items,hi,h₁⟩:=hz1q
 refine hG ?_
 exact ⟨items,σ₁,ω₁,l₁,e₁,S₁,hi.it S₁ r,h₁⟩
theorem foldedPlain {iter:PySem.Expr} (h:notSetE iter=true) (x:Value):foldedSetIterable iter env x=pure x:=by
 cases iter <;> first | rfl | cases h
theorem stepK {i k N:Nat} (e:i+k=N) (h:i < N):k - 1 < k∧i+1+(k - 1)=N:=by
 cases k with
 | zero=>exact absurd h (e▸Nat.lt_irrefl _)
 | succ k=>exact ⟨Nat.lt_succ_self _,(Nat.add_right_comm i 1 k).trans e⟩
theorem forCore {A:Around} {t:PySem.Expr} {I:Value} {body:List Stmt} {At:Nat→St→Shared→Prop} {J:Nat→St→Prop} {Z:Nat→Fl→St→Prop} {N:Nat} {s:Shared} {R:Result→Shared→Prop} (hR:Here c n env A ω.kf)
  (go:∀ i σ s Qn E',i≤N→J i σ→At i σ s→(i=N→∀ s',(∃ ω',Le ω ω'∧ω'.s=s'∧Sat c env.locals σ ω')→Qn none s')→(∀ v s',i < N→wpAny (model c.prog c.w) A (letOwnedTupleGo t I v) (fun z9 s₁=>wpAny (model c.prog c.w) A (assign t env v) (fun z9 s₂=>∃ σ',At (i+1) σ' s₂∧WS c n env body (Z i) (fun z9=>False) σ') E' s₁) E' s'→Qn (some v) s')→wpAny (model c.prog c.w) A (pyNext I) Qn E' s)
  (re:∀ i σ s,At i σ s→∃ ω₂,ω₂.s=s∧ω₂.kf=ω.kf∧Sat c env.locals σ ω₂∧∀ σ₃ ω₃,Le ω₂ ω₃→Sat c env.locals σ₃ ω₃→At i σ₃ ω₃.s∧∃ k,Le ω { ω₃ with k:=k }∧Sat c env.locals σ₃ { ω₃ with k:=k })
  (hz:∀ i f σ,Z i f σ→f=.next∨f=.cont→J (i+1) σ) (h0:J 0 σ) (hA:At 0 σ s)
  (fin:∀ σ ω',Le ω ω'→Sat c env.locals σ ω'→J N σ→R (.ok .next) ω'.s)
  (brk:∀ i σ ω',Le ω ω'→Sat c env.locals σ ω'→Z i .brk σ→R (.ok .next) ω'.s)
  (ret:∀ i v rv σ ω',Le ω ω'→Sat c env.locals σ ω'→RV c ω' v rv→Z i (.ret v) σ→R (.ok (.ret rv)) ω'.s) :
  codeAny (model c.prog c.w) A (.forLoop t I body [] env) R s:=by
 refine codeAny_forLoop_any (fun k s=>∃ i σ,i+k=N∧J i σ∧At i σ s) (fun k s h=>?_) N ⟨0,σ,Nat.zero_add _,h0,hA⟩
 refine gC fun G hG=>?_
 obtain ⟨i,σ',e,hJ,hA⟩:=h
 refine hG ?_
 refine go i σ' s _ _ (e▸Nat.le_add_right _ _) hJ hA (fun hi s' h=>?_) fun v s' hlt h'=>?_
 ·refine gC fun G hG=>?_
  obtain ⟨ω',l',rfl,S'⟩:=h
  refine hG ?_
  exact wpAny_execs_nil (fin σ' ω' l' S' (hi▸hJ))
 refine wpAny_mono h' (fun z9 s₁ h₁=>wpAny_mono h₁ (fun z9 s₂ h₂=>?_) fun z9 z9 x=>x) fun z9 z9 x=>x
 refine gC fun G hG=>?_
 obtain ⟨σ₂,hA₂,hB⟩:=h₂
 obtain ⟨ω₂,rfl,hkf,S₂,st⟩:=re _ _ _ hA₂
 refine hG ?_
 refine wpAny_mono (hB A ω₂ (hkf▸hR) S₂) ?_ fun z9 z9 p=>p.no
 refine Post.all fun f fl σ₃ ω₃ l₃ S₃ rf h₃=>?_
 obtain ⟨A₃,k₄,l₄,S₄⟩:=st σ₃ ω₃ l₃ S₃
 have q:=stepK e hlt
 cases rf with
 | next=>exact ⟨_,q.1,_,_,q.2,hz i _ _ h₃ (.inl rfl),A₃⟩
 | cont=>exact ⟨_,q.1,_,_,q.2,hz i _ _ h₃ (.inr rfl),A₃⟩
 | brk=>exact brk i _ { ω₃ with k:=k₄ } l₄ S₄ h₃
 | ret r=>exact ret i _ _ _ { ω₃ with k:=k₄ } l₄ S₄ r h₃
noncomputable def ForZ (c:Cx) (n:Nat) (env:Env) (rest:List Stmt) (Q:Fl→St→Prop) (X:St→Prop) (J:Nat→St→Prop) (i:Nat) (fl:Fl) (σ₄:St):Prop:=match fl with | .next=>J (i+1) σ₄ | .cont=>J (i+1) σ₄ | .brk=>WS c n env rest Q X σ₄ | .ret v=>Q (.ret v) σ₄
theorem LoopAt.re {A:Around} {L I:Addr} {fp:List Addr} {N i:Nat} {s:Shared} {P:Nat→Value→Prop} {T:Nat→Heap→Prop} (W:Walks c.prog c.w A I fp [I] N P T) (hfp:Leans ω I fp) (h:LoopAt c L ω I T i σ s) :
  ∃ ω₂,ω₂.s=s∧ω₂.kf=ω.kf∧Sat c L σ ω₂∧∀ σ₃ ω₃,Le ω₂ ω₃→Sat c L σ₃ ω₃→LoopAt c L ω I T i σ₃ ω₃.s∧∃ k,Le ω { ω₃ with k:=k }∧Sat c L σ₃ { ω₃ with k:=k }:=by
 refine gC fun G hG=>?_
 obtain ⟨ω₂,o₂,l₂,rfl,S₂,hk₂,h0₂,st₂,hg₂⟩:=h
 refine hG ⟨ω₂,rfl,l₂.kf,S₂,fun σ₃ ω₃ l₃ S₃=>?_⟩
 have lk:LeK ω ω₃:=⟨l₂.sub.trans l₃.sub,l₃.gens.trans l₂.gens,l₃.drawn.trans l₂.drawn,l₃.os.trans l₂.os,l₃.kf.trans l₂.kf⟩
 have hk:=l₃.k.trans hk₂
 have kI:ω₃.s.heap.get? I=some o₂:=S₃.kk _ _ ((congrFun hk I).trans gAdd_self)
 refine ⟨⟨ω₃,o₂,lk,rfl,S₃,hk,h0₂,W.frame _ _ _ st₂ fun b hb o e=>?_,kI⟩,ω.k,⟨lk.sub,lk.gens,lk.drawn,lk.os,rfl,lk.kf⟩,S₃.forgetK (h':=ω₃.s.heap) hk h0₂ (fun z9 z9 z9 e=>e) ω₃.s.toks⟩
 rcases hfp b hb with rfl | ⟨ob,hob⟩
 ·exact kI.trans (hg₂.symm.trans e)
 ·exact (S₃.keep b _ (lk.sub.hg _ _ hob)).trans ((S₂.keep b ob (l₂.sub.hg _ _ hob)).symm.trans e)
theorem s_for {target iter:PySem.Expr} {body:List Stmt} (hset:notSetE iter=true)
  (h:WI c n env iter (fun items σ₁=>∃ J:Nat→St→Prop,J 0 σ₁∧(∀ i σ₂ u,items[i]?=some u→J i σ₂→AT c n env target u (fun z9 σ₃=>WS c n env body (fun fl σ₄=>match fl with | .next=>J (i+1) σ₄ | .cont=>J (i+1) σ₄ | .brk=>WS c n env rest Q X σ₄ | .ret v=>Q (.ret v) σ₄) (fun z9=>False) σ₃) (fun z9=>False) σ₂)∧∀ σ₂,J items.length σ₂→WS c n env rest Q X σ₂) X σ) :
  WS c n env (.For target iter body [] pos :: rest) Q X σ:=fun A ω hR hS=>by
 refine s_cons hR (wpAny_For (wpAny_mono (h A ω hR hS) ?_ fun z9 z9 x=>x) (foldedPlain hset))
 refine Post.all fun rv items σ₁ ω₁ l₁ S₁ it hz21=>?_
 refine gC fun G hG=>?_
 obtain ⟨J,hJ0,turn,fin⟩:=hz21
 refine hG ?_
 refine it.it A _ _ hR.room.handled fun o fp P T hf hW hT hfp ho hP=>?_
 have k0:ω₁.k ω₁.s.heap.objs.size=none:=by
  cases e:ω₁.k ω₁.s.heap.objs.size with
  | none=>rfl
  | some o=>exact absurd (Heap.lt_size (S₁.kk _ _ e)) (Nat.lt_irrefl _)
 have start:LoopAt c env.locals ω₁ ω₁.s.heap.objs.size T 0 σ₁ { ω₁.s with heap:=ω₁.s.heap.push o }:=⟨{ ω₁ with s:={ ω₁.s with heap:=ω₁.s.heap.push o },k:=gAdd ω₁.k ω₁.s.heap.objs.size o },o,⟨.refl,rfl,rfl,rfl,rfl⟩,rfl,S₁.addK o hf,rfl,k0,hT,Heap.get?_push_size _ hf⟩
 have hR₁:Here c n env A ω₁.kf:=hR.le l₁
 have hw:=hW A hR.room.handled
 exact forCore (Z:=ForZ c n env rest Q X J) hR₁ (fun i σ' s' Qn E' hi hJ hl hd hb=>hl.go hw hfp ho rfl hP hR₁ hi (fun u hu=>turn i σ' u hu hJ) hd hb) (fun i σ' s' h=>h.re hw hfp) (fun i f σ' h e=>by rcases e with rfl | rfl <;> exact h) hJ0 start (fun σ' ω' l' S' hJ=>⟨σ',ω',l₁.trans l',rfl,S',fin σ' hJ⟩) (fun i σ' ω' l' S' h=>⟨σ',ω',l₁.trans l',rfl,S',h⟩) fun i v rv σ' ω' l' S' r h=>⟨.ret v,σ',ω',l₁.trans l',rfl,S',.ret r,h⟩
end
end HL.Lake
end
noncomputable section
namespace HL.Lake
open PySem PySem.W PySem.Calls PyProof.Rows
section
variable {c:Cx} {n:Nat} {env:Env} {X:St→Prop} {σ:St} {pos:Pos} {ω:Wd} {sc:Scope} {rest:List Stmt}
set_option tactic.hygienic true in
theorem Sat.enter {L:Addr} (S:Sat c L σ ω) {x:Str} {m:Str→Option Value} {ob:Obj} {h':Heap} (hn:h'.Ns ω.s.heap.objs.size m) (hs:Heap.SameBut ω.s.heap.objs.size (ω.s.heap.push ob) h') (t:Nat) :
  Sat c ω.s.heap.objs.size ⟨[(x,none)],σ.T,σ.W⟩ { ω with s:={ ω.s with heap:=h',toks:=t },m:=m,kf:=kfBelow L ω }:=by
 have up:∀ y o,ω.s.heap.get? y=some o→h'.get? y=some o:=fun y o e=>hs.extBut y o (Nat.ne_of_lt (Heap.lt_size e)) (Heap.get?_push_of_some _ e)
 have gC:ω.g ω.s.heap.objs.size=none:=by
  cases q:ω.g ω.s.heap.objs.size with
  | none=>rfl
  | some o'=>exact absurd (Heap.lt_size (S.keep _ _ q)) (Nat.lt_irrefl _)
 have kC:ω.k ω.s.heap.objs.size=none:=by
  cases q:ω.k ω.s.heap.objs.size with
  | none=>rfl
  | some o'=>exact absurd (Heap.lt_size (S.kk _ _ q)) (Nat.lt_irrefl _)
 have kfC:kfBelow L ω ω.s.heap.objs.size=none:=by
  unfold kfBelow
  rw [if_neg (Nat.ne_of_gt S.ns.lt)]
  cases q:ω.kf ω.s.heap.objs.size with
  | none=>rfl
  | some m=>exact absurd (S.nf _ _ q).lt (Nat.lt_irrefl _)
 refine ⟨hn,fun y o e=>up y o (S.keep y o e),S.base,⟨Nat.le_trans S.above (Nat.le_of_lt S.ns.lt),S.high.2⟩,fun y v m=>by simp at m,by simp,S.tT.keeps' fun y _ o e=>up y o e,S.tW.keeps' fun y _ o e=>up y o e,?_,?_,fun y o e=>up y o (S.kk y o e),?_,?_,?_,?_,S.dk⟩
 ·exact List.nodup_cons.mpr ⟨fun h=>Nat.lt_irrefl _ (S.lt (.tail _ h)),(List.nodup_cons.mp S.apart).2⟩
 ·intro y hy
  rcases List.mem_cons.mp hy with rfl | hy
  ·exact gC
  ·exact S.out y (.tail _ hy)
 ·intro y hy
  rcases List.mem_cons.mp hy with rfl | hy
  ·exact kC
  ·exact S.ok y (.tail _ hy)
 ·intro y m' e
  change kfBelow L ω y=some m' at e
  unfold kfBelow at e
  split at e
  ·rename_i h; subst h; cases e; exact S.ns.keeps up
  ·exact (S.nf y m' e).keeps up
 ·intro y hy
  rcases List.mem_cons.mp hy with rfl | hy
  ·exact kfC
  ·show kfBelow L ω y=none
   unfold kfBelow
   rw [if_neg (by rintro rfl; exact S.neL hy rfl)]
   exact S.okf y (.tail _ hy)
 ·intro y m' e
  change kfBelow L ω y=some m' at e
  unfold kfBelow at e
  split at e
  ·rename_i h; subst h; exact ⟨S.ok _ (.head _),S.out _ (.head _)⟩
  ·exact S.dis y m' e
theorem Sat.exit {C L:Addr} {m₀:Str→Option Value} {kf₀:Addr→Option (Str→Option Value)} {loc₀:List (Str×Option V)} (S:Sat c C σ ω) (hkf:ω.kf=fun x=>if x=L then some m₀ else kf₀ x) (hL0:kf₀ L=none) (ha:c.h₀.objs.size≤L)
  (hloc:∀ x v,(x,some v)∈loc₀→∃ rv,m₀ x=some rv∧Rel c.w.params ω.g ω.a ω.b v rv) (hnd:(loc₀.map (·.1)).Nodup) {h'':Heap} (hs:Heap.SameBut C ω.s.heap h'') (t:Nat) :
  Sat c L ⟨loc₀,σ.T,σ.W⟩ { ω with s:={ ω.s with heap:=h'',toks:=t },m:=m₀,kf:=kf₀ }:=by
 have kL:ω.kf L=some m₀:=by rw [hkf]; exact if_pos rfl
 have kne:∀ x,x≠L→kf₀ x=ω.kf x:=fun x hx=>by rw [hkf]; exact (if_neg hx).symm
 have inL:∀ x∈C :: (ω.a++ω.b),x≠L:=fun x hx=>by rintro rfl; exact Lake.nn (S.okf x hx) kL
 have up:∀ y o,y≠C→ω.s.heap.get? y=some o→h''.get? y=some o:=fun y o hy e=>hs.extBut y o hy e
 have gC:=S.out _ (.head _)
 have kC:=S.ok _ (.head _)
 have kfC:=S.okf _ (.head _)
 have kf':∀ x m,kf₀ x=some m→x≠L:=fun x m e=>by rintro rfl; exact Lake.nn (hL0) e
 refine ⟨(S.nf L m₀ kL).sameBut hs (inL C (.head _)).symm,fun y o e=>up y o (by rintro rfl; exact Lake.nn (gC) e) (S.keep y o e),S.base,⟨ha,S.high.2⟩,hloc,hnd,S.tT.keeps' fun y hy o e=>up y o (by rintro rfl; exact S.neL (List.mem_append_left _ hy) rfl) e,S.tW.keeps' fun y hy o e=>up y o (by rintro rfl; exact S.neL (List.mem_append_right _ hy) rfl) e,?_,?_,fun y o e=>up y o (by rintro rfl; exact Lake.nn (kC) e) (S.kk y o e),?_,?_,?_,?_,S.dk⟩
 ·exact List.nodup_cons.mpr ⟨fun h=>inL L (.tail _ h) rfl,(List.nodup_cons.mp S.apart).2⟩
 ·intro y hy
  rcases List.mem_cons.mp hy with rfl | hy
  ·exact (S.dis _ _ kL).2
  ·exact S.out y (.tail _ hy)
 ·intro y hy
  rcases List.mem_cons.mp hy with rfl | hy
  ·exact (S.dis _ _ kL).1
  ·exact S.ok y (.tail _ hy)
 ·intro y m' e
  have e1:ω.kf y=some m':=(kne y (kf' y m' e)).symm.trans e
  exact (S.nf y m' e1).sameBut hs (by rintro rfl; exact Lake.nn (kfC) e1)
 ·intro y hy
  rcases List.mem_cons.mp hy with rfl | hy
  ·exact hL0
  ·exact (kne y (inL y (.tail _ hy))).trans (S.okf y (.tail _ hy))
 ·intro y m' e
  exact S.dis y m' ((kne y (kf' y m' e)).symm.trans e)
end
end HL.Lake
end
noncomputable section
namespace HL.Lake
open PySem PySem.W PySem.Calls PyProof.Rows
section
variable {c:Cx} {n:Nat} {env:Env} {X:St→Prop} {σ:St} {pos:Pos} {ω:Wd} {sc:Scope} {rest:List Stmt}
noncomputable abbrev WF (c:Cx) (n:Nat) (env:Env) (ifs:List PySem.Expr) (Q:Bool→St→Prop) (X:St→Prop) (σ:St):Prop :=
 W c n env (forIn ifs true fun c r=>if r=true then do let ok ← isTrue c env (eval c env); pure (ForInStep.yield ok) else pure (ForInStep.yield r)) (fun z9 a b=>a=b) Q X σ
theorem wf_nil {Q:Bool→St→Prop} (h:Q true σ):WF c n env [] Q X σ:=fun A ω hR hS=>wpAny_tests_nil (done hS rfl h)
theorem wf_one {Q:Bool→St→Prop} {t:PySem.Expr} (h:WT c n env t Q X σ):WF c n env [t] Q X σ:=fun A ω hR hS=>wpAny_tests_one (h A ω hR hS)
noncomputable def compOk (scope:Scope) (x:Str):Bool:=scope.names.all (fun y=>y.2 != .free&&y.2 != .cell&&(y.2 != .local||scope.names.lookup y.1==some .local))&&scope.names.lookup x==some .local&&scope.kind==.function
theorem Here.comp {A:Around} {C:Addr} {scope:Scope} (h:Here c n env A ω.kf):Here c n (compEnv scope C env) A (kfBelow env.locals ω):=by
 refine ⟨h.room,?_,fun e=>by cases e⟩
 obtain ⟨l,hA,ho⟩:=h.fm
 refine ⟨l,hA,fun e he=>?_⟩
 refine gC fun G hG=>?_
 obtain ⟨h1,L,h2,h3,h4⟩:=ho e he
 refine hG ?_
 refine ⟨h1,L,h2,h3,.inr ?_⟩
 by_cases hq:L=env.locals
 ·exact ⟨ω.m,by unfold kfBelow; rw [if_pos hq]⟩
 ·rcases h4 with h4 | ⟨m,h4⟩
  ·exact absurd h4 hq
  ·exact ⟨m,by unfold kfBelow; rw [if_neg hq]; exact h4⟩
theorem Sat.loseLoc {L:Addr} (S:Sat c L σ ω) {x:Str}:Sat c L ⟨[(x,none)],σ.T,σ.W⟩ ω :=
 ⟨S.ns,S.keep,S.base,S.high,fun y v m=>by simp at m,by simp,S.tT,S.tW,S.apart,S.out,S.kk,S.ok,S.nf,S.okf,S.dis,S.dk⟩
noncomputable def CompAt (c:Cx) (C:Addr) (ω₀:Wd) (I D:Addr) (x:Str) (T:Nat→Heap→Prop) (J:Nat→List V→List AO→Prop) (T₀:List AO) (i:Nat) (s:Shared):Prop :=
 ∃ (ω:Wd) (oI:Obj) (ys:List V) (rys:List Value) (nn:Nat) (W:List AO),LeK ω₀ ω∧ω.s=s∧Sat c C ⟨[(x,none)],T₀,W⟩ ω∧ω.k=gAdd (gAdd ω₀.k D { cls:=.type "list",data:=.seq rys.toArray nn }) I oI∧T i s.heap∧RVs c ω ys rys∧ys.length≤i∧J i ys W
theorem gAdd_comm {k:PHeap} {x y:Addr} {o p:Obj} (h:x≠y):gAdd (gAdd k x o) y p=gAdd (gAdd k y p) x o:=by
 funext z
 unfold gAdd
 by_cases h1:z=y
 ·rw [if_pos h1,if_neg (h1▸h.symm),if_pos h1]
 ·rw [if_neg h1]
  by_cases h2:z=x
  ·rw [if_pos h2,if_pos h2]
  ·rw [if_neg h2,if_neg h2,if_neg h1]
theorem list_append_exact {A:Around} {E:Value→Shared→Prop} {s:Shared} {l:Addr} {its:Array Value} {nn:Nat} {x:Value} {Q:Value→Shared→Prop} (hl:s.heap.get? l=some { cls:=.type "list",data:=.seq its nn }) (hsz:its.size≤sizeLine)
  (hQ:∀ h' nn',h'.get? l=some { cls:=.type "list",data:=.seq (its.push x) nn' }→Heap.SameBut l s.heap h'→Q .none { s with heap:=h' }) :
  wpAny (model c.prog c.w) A (call (.builtin "list.append") [.ref l,x]) Q E s :=
 call_meets slot_list_append (show s.TypeIs (.ref l) "list" from ⟨_,hl,rfl⟩) entry_list_append (args_list_append _ _) (PySem.list_append l its nn x hsz) ⟨hl,hQ _ _ (IsL.update hl _) (Heap.SameBut.update ..)⟩
theorem RelL.append {P:Params} {g:PHeap} {a b:List Addr} {l l':List V} {r r':List Value} (h:RelL P g a b l r) (h':RelL P g a b l' r'):RelL P g a b (l++l') (r++r') :=
 RelL.ind (M:=fun l r=>RelL P g a b (l++l') (r++r')) h' (fun z9 z9 z9 z9 x z9 ih=>.cons x ih) h
theorem compLoop {elt iter:PySem.Expr} {x:Str} {px:Pos} {ifs:List PySem.Expr} {scope:Scope} {A:Around} {I D C:Addr} {fp:List Addr} {items:List V} {P:Nat→Value→Prop} {T:Nat→Heap→Prop}
  (W:Walks c.prog c.w A I fp [I] items.length P T) (hfp:Leans ω I fp) (ho:∀ i h,T i h→∃ o,h.get? I=some o∧quietIter o) (hP:∀ i v,i < items.length→P i v→∃ u,items[i]?=some u∧RV c ω u v)
  (he:EnvOk env scope) (hx:(scope.names.lookup x==some .local)=true) (hC:env.locals=C) (hR:Here c n env A ω.kf) (hDI:D≠I) (hI0:ω.k I=none) (hD0:ω.k D=none) (hlen:items.length≤10000)
  {J:Nat→List V→List AO→Prop} {T₀:List AO}
  (turn:∀ i ys W u,items[i]?=some u→J i ys W→WF c n env ifs (fun ok σ₃=>if ok then WE c n env elt (fun v σ₄=>σ₄.T=T₀∧J (i+1) (ys++[v]) σ₄.W) (fun z9=>False) σ₃ else σ₃.T=T₀∧J (i+1) ys σ₃.W) (fun z9=>False) ⟨[(x,some u)],T₀,W⟩)
  {s:Shared} (h:CompAt c C ω I D x T J T₀ 0 s) {R:Result→Shared→Prop}
  (fin:∀ (ω':Wd) (ys:List V) (rys:List Value) (nn:Nat) (W:List AO),LeK ω ω'→Sat c C ⟨[(x,none)],T₀,W⟩ ω'→ω'.k=gAdd ω.k D { cls:=.type "list",data:=.seq rys.toArray nn }→RVs c ω' ys rys→J items.length ys W→R (.ok .next) ω'.s) :
  codeAny (model c.prog c.w) A (.compLoop (.ListComp elt [⟨.Name x px,iter,ifs,0⟩] scope pos) 0 (.ref I) (.ref D) env) R s:=by
 refine codeAny_compLoop_tests (fun k s=>∃ i,i+k=items.length∧CompAt c C ω I D x T J T₀ i s) ?_ items.length ⟨0,Nat.zero_add _,h⟩
 intro k s hz1q
 refine gC fun G hG=>?_
 obtain ⟨i,hik,ω₁,oI,ys,rys,nn,W₁,l₁,rfl,S₁,hk₁,st,rs,hle,hJ⟩:=hz1q
 refine hG ?_
 subst hC
 have kI:ω₁.k I=some oI:=by rw [hk₁]; exact gAdd_self
 rcases Nat.lt_or_ge i items.length with hlt | hge
 ·refine W.item i _ _ _ hlt st fun v h' tk p st' hs=>?_
  obtain ⟨o',ho',hq⟩:=ho _ _ st'
  obtain ⟨u,hu,r⟩:=hP i v hlt p
  have S₂:=S₁.swapK (o':=o') hk₁ (fun x o hx e=>hs x o (by simpa using hx) e) ho' tk
  dsimp only
  refine wpAny_assign_Name (storeV (l':=[(x,some u)]) he hx S₂ (r.mono l₁.sub) PutL.head fun ω₃ l₃ S₃=>?_)
  have hR₃:Here c n env A ω₃.kf:=(l₃.kf.trans l₁.kf)▸hR
  refine wpAny_mono (turn i ys W₁ u hu hJ A ω₃ hR₃ S₃) ?_ fun z9 z9 p=>p.no
  refine Post.all fun ok ok' σ₄ ω₄ l₄ S₄ rz22 h₄=>?_
  obtain rfl:=rz22
  have l24:=l₃.trans l₄
  -- what stands at the end of a turn
  have key:∀ (ω₅:Wd) (σ₅:St) (ys':List V) (rys':List Value) (nn':Nat),LeK ω₄ ω₅→Sat c env.locals σ₅ ω₅→ω₅.k=gAdd (gAdd ω.k D { cls:=.type "list",data:=.seq rys'.toArray nn' }) I o'→RVs c ω₅ ys' rys'→ys'.length≤i+1→σ₅.T=T₀→J (i+1) ys' σ₅.W →
    ∃ m,m < k∧∃ i,i+m=items.length∧CompAt c env.locals ω I D x T J T₀ i ω₅.s:=by
   intro ω₅ σ₅ ys' rys' nn' l₅ S₅ hk₅ rs₅ hl₅ hT hJ₅
   have kI₅:ω₅.s.heap.get? I=some o':=S₅.kk _ _ (by rw [hk₅]; exact gAdd_self)
   have q:=stepK hik hlt
   refine ⟨k - 1,q.1,i+1,q.2,ω₅,o',ys',rys',nn',σ₅.W,⟨l₁.sub.trans (l24.sub.trans l₅.sub),l₅.gens.trans (l24.gens.trans l₁.gens),l₅.drawn.trans (l24.drawn.trans l₁.drawn),l₅.os.trans (l24.os.trans l₁.os),l₅.kf.trans (l24.kf.trans l₁.kf)⟩,rfl,hT▸S₅.loseLoc,hk₅,?_,rs₅,hl₅,hJ₅⟩
   refine W.frame _ _ _ st' fun b hb o e=>?_
   rcases hfp b hb with rfl | ⟨ob,hob⟩
   ·rw [ho'] at e; cases e; exact kI₅
   ·have e1:=S₂.keep b ob (l₁.sub.hg _ _ hob)
    rw [e] at e1; cases e1
    exact S₅.keep b _ (l₅.sub.hg _ _ (l24.sub.hg _ _ (l₁.sub.hg _ _ hob)))
  have hk₄:ω₄.k=gAdd (gAdd ω.k D { cls:=.type "list",data:=.seq rys.toArray nn }) I o':=by
   rw [l24.k]
  cases ok' with
  | false =>
   rw [if_neg Bool.false_ne_true] at h₄ ⊢
   exact key ω₄ σ₄ ys rys nn ⟨.refl,rfl,rfl,rfl,rfl⟩ S₄ hk₄ (rs.mono l24.sub) (Nat.le_succ_of_le hle) h₄.1 h₄.2
  | true =>
   rw [if_pos rfl] at h₄ ⊢
   refine wpAny_mono (h₄ A ω₄ ((l₄.kf)▸hR₃) S₄) ?_ fun z9 z9 p=>p.no
   refine Post.all fun rv v' σ₅ ω₅ l₅ S₅ r₅ hz23=>?_
   obtain ⟨hT,hJ₅⟩:=hz23
   have hk₅:ω₅.k=gAdd (gAdd ω.k I o') D { cls:=.type "list",data:=.seq rys.toArray nn }:=by rw [l₅.k,hk₄]; exact gAdd_comm hDI
   have kD:ω₅.s.heap.get? D=some { cls:=.type "list",data:=.seq rys.toArray nn }:=S₅.kk _ _ (by rw [hk₅]; exact gAdd_self)
   have rs₅:RVs c ω₅ ys rys:=rs.mono (l24.sub.trans l₅.sub)
   have hsz:rys.toArray.size≤sizeLine:=by
    rw [List.size_toArray,RVs.len rs₅]; exact Nat.le_trans hle (Nat.le_trans (Nat.le_of_lt hlt) (Nat.le_trans hlen (by rw [sizeLine_eq]; decide)))
   refine list_append_exact kD hsz fun h₆ nn' hd hs₆=>?_
   have S₆:=S₅.swapK (I:=D) (h':=h₆) (k₀:=gAdd ω.k I o') (o':={ cls:=.type "list",data:=.seq (rys++[rv]).toArray nn' }) hk₅ (fun x o hx e=>hs₆.extBut x o hx e) (by simpa using hd) ω₅.s.toks
   refine key { ω₅ with s:={ ω₅.s with heap:=h₆,toks:=ω₅.s.toks },k:=gAdd (gAdd ω.k I o') D { cls:=.type "list",data:=.seq (rys++[rv]).toArray nn' } } σ₅ (ys++[v']) (rys++[rv]) nn' ⟨l₅.sub,l₅.gens,l₅.drawn,l₅.os,l₅.kf⟩ S₆ ?_ (rs₅.append (.cons r₅ .nil)) (by rw [List.length_append]; exact Nat.succ_le_succ hle) hT hJ₅
   exact (gAdd_comm hDI).symm
 ·have hiN:i=items.length:=Nat.le_antisymm (hik▸Nat.le_add_right _ _) hge
  subst hiN
  refine W.done _ _ _ st fun h' tk hs=>?_
  have S₂:=S₁.forgetK (h':=h') hk₁ (by unfold gAdd; rw [if_neg hDI.symm]; exact hI0) (fun x o hx e=>hs x o (by simpa using hx) e) tk
  exact fin { ω₁ with s:={ ω₁.s with heap:=h',toks:=tk },k:=gAdd ω.k D { cls:=.type "list",data:=.seq rys.toArray nn } } ys rys nn W₁ ⟨l₁.sub,l₁.gens,l₁.drawn,l₁.os,l₁.kf⟩ S₂ rfl rs hJ
end
end HL.Lake
end
noncomputable section
namespace HL.Lake
open PySem PySem.W PySem.Calls PyProof.Rows
section
variable {c:Cx} {n:Nat} {env:Env} {X:St→Prop} {σ:St} {pos:Pos} {ω:Wd} {sc:Scope} {rest:List Stmt}
theorem compOk.free {scope:Scope} {x:Str} (h:compOk scope x=true):(∀ y∈scope.names,y.2≠.free)∧(∀ y∈scope.names,y.2≠.cell)∧(∀ y∈scope.names,y.2=.local→scope.names.lookup y.1=some .local)∧(scope.names.lookup x==some .local)=true∧scope.kind=.function:=by
 unfold compOk at h
 simp only [Bool.and_eq_true,List.all_eq_true,bne_iff_ne,ne_eq,Bool.or_eq_true,beq_iff_eq] at h
 obtain ⟨⟨h1,h2⟩,h3⟩:=h
 refine ⟨fun y hy=>(h1 y hy).1.1,fun y hy=>(h1 y hy).1.2,fun y hy e=>(h1 y hy).2.resolve_left fun q=>q e,by simpa using h2,h3⟩
theorem e_comp {elt iter:PySem.Expr} {x:Str} {px:Pos} {ifs:List PySem.Expr} {scope:Scope} {Q:V→St→Prop} (he:EnvOk env sc) (hset:notSetE iter=true) (hsc:compOk scope x=true)
  (h:WI c n env iter (fun items σ₁=>items.length≤10000∧∃ J:Nat→List V→List AO→Prop,J 0 [] σ₁.W ∧
   (∀ cenv,EnvOk cenv scope→∀ i ys W u,items[i]?=some u→J i ys W→WF c n cenv ifs (fun ok σ₃=>if ok then WE c n cenv elt (fun v σ₄=>σ₄.T=σ₁.T∧J (i+1) (ys++[v]) σ₄.W) (fun z9=>False) σ₃ else σ₃.T=σ₁.T∧J (i+1) ys σ₃.W) (fun z9=>False) ⟨[(x,some u)],σ₁.T,W⟩) ∧
   ∀ ys W,J items.length ys W→Q (.list ys) ⟨σ₁.loc,σ₁.T,W⟩) X σ) :
  WE c n env (.ListComp elt [⟨.Name x px,iter,ifs,0⟩] scope pos) Q X σ:=fun A ω hR hS=>by
 refine gC fun G hG=>?_
 obtain ⟨hfree,hcell,hnames,hx,hkind⟩:=compOk.free hsc
 refine hG ?_
 refine wpAny_ListComp hfree hkind hnames (wpAny_mono (h A ω hR hS) ?_ fun z9 z9 x=>x) (foldedPlain hset)
 refine Post.all fun rv items σ₁ ω₁ l₁ S₁ it hz24=>?_
 refine gC fun G hG=>?_
 obtain ⟨hlen,J,hJ0,turn,fin⟩:=hz24
 refine hG ?_
 refine it.it A _ _ hR.room.handled fun o fp P T hf hW hT hfp ho hP=>?_
 refine wpAny_newObj_type (hd:=by size_fits) (wpAny_newFunctionEnv hcell (by intro y hy; simp at hy) (fun h₁ hns₁ hsb₁=>?_) hkind)
 have k0:∀ x,ω₁.s.heap.objs.size≤x→ω₁.k x=none:=fun x hx=>by
  cases e:ω₁.k x with
  | none=>rfl
  | some o=>exact absurd (Heap.lt_size (S₁.kk _ _ e)) (Nat.not_lt_of_le hx)
 have S₂:=S₁.addK o hf
 have S₃:=S₂.addK ({ cls:=.type "list",dict:=none,data:=.seq ([]:List Value).toArray }) rfl
 have S₄:=S₃.enter (x:=x) hns₁ hsb₁ (ω₁.s.toks+([]:List (Str×Value)).length)
 have hDI:(ω₁.s.heap.push o).objs.size≠ω₁.s.heap.objs.size:=by rw [Heap.size_push]; exact Nat.succ_ne_self _
 have hR₁:Here c n env A ω₁.kf:=hR.le l₁
 have kL:ω₁.kf env.locals=none:=S₁.okf _ (.head _)
 have he':EnvOk (compEnv scope ((ω₁.s.heap.push o).push ({ cls:=.type "list",dict:=none,data:=.seq ([]:List Value).toArray })).objs.size env) scope:=⟨rfl,hkind,he.globals,he.builtins⟩
 have st₁:T 0 h₁:=(hW A hR.room.handled).frame _ _ _ hT fun b hb o' e=>hsb₁.extBut b o' (by
   have:=Heap.lt_size e
   rw [Heap.size_push]; exact Nat.ne_of_lt (Nat.lt_succ_of_lt this)) (Heap.get?_push_of_some _ (Heap.get?_push_of_some _ e))
 have loop:∀ s₂:Shared,s₂={ ω₁.s with heap:=h₁,toks:=ω₁.s.toks+([]:List (Str×Value)).length }→codeAny (model c.prog c.w) A (.compLoop (.ListComp elt [⟨.Name x px,iter,ifs,0⟩] scope pos) 0 (.ref ω₁.s.heap.objs.size) (.ref (ω₁.s.heap.push o).objs.size) (compEnv scope ((ω₁.s.heap.push o).push ({ cls:=.type "list",dict:=none,data:=.seq ([]:List Value).toArray })).objs.size env))
   (fun r s'=>∃ m,s'.heap.Ns ((ω₁.s.heap.push o).push ({ cls:=.type "list",dict:=none,data:=.seq ([]:List Value).toArray })).objs.size m∧∀ h',Heap.SameBut ((ω₁.s.heap.push o).push ({ cls:=.type "list",dict:=none,data:=.seq ([]:List Value).toArray })).objs.size s'.heap h' →
    match r with
    | .ok _=>Post c env.locals (RV c) ω Q (.ref (ω₁.s.heap.push o).objs.size) { s' with heap:=h' }
    | .error x=>wpAny (model c.prog c.w) A (passOn "comprehension.variables-let-go" x (compEnv scope ((ω₁.s.heap.push o).push ({ cls:=.type "list",dict:=none,data:=.seq ([]:List Value).toArray })).objs.size env)) (Post c env.locals (RV c) ω Q) (PostX c env A ω X) { s' with heap:=h' }) s₂:=by
  rintro s₂ rfl
  refine compLoop (ω:={ ω₁ with kf:=kfBelow env.locals ω₁ }) (C:=((ω₁.s.heap.push o).push ({ cls:=.type "list",dict:=none,data:=.seq ([]:List Value).toArray })).objs.size) (hW A hR.room.handled) hfp ho hP he' hx rfl hR₁.comp hDI (k0 _ (Nat.le_refl _)) (k0 _ (by rw [Heap.size_push]; exact Nat.le_succ _)) hlen (turn _ he') ?_ ?_
  ·refine ⟨_,o,[],[],0,σ₁.W,?_,rfl,S₄,?_,st₁,.nil,Nat.le_refl _,hJ0⟩
   ·exact ⟨.refl,rfl,rfl,rfl,rfl⟩
   ·exact gAdd_comm hDI.symm
  ·rintro ω' ys rys nn W lk S' hk rs hJ
   refine ⟨_,S'.ns,fun h' hs'=>?_⟩
   have S₅:=S'.exit (L:=env.locals) (m₀:=ω₁.m) (kf₀:=ω₁.kf) (loc₀:=σ₁.loc) lk.kf kL S₁.above (fun y v m=>by
    obtain ⟨rv,e,r⟩:=S₁.loc y v m
    exact ⟨rv,e,r.mono lk.sub⟩) S₁.nd hs' ω'.s.toks
   have kD:h'.get? (ω₁.s.heap.push o).objs.size=some { cls:=.type "list",data:=.seq rys.toArray nn }:=S₅.kk _ _ (by show ω'.k _=_; rw [hk]; exact gAdd_self)
   obtain ⟨S₆,sub₆⟩:=S₅.dropK (k₀:=ω₁.k) (o':={ cls:=.type "list",data:=.seq rys.toArray nn }) hk (k0 _ (by rw [Heap.size_push]; exact Nat.le_succ _)) (Heap.SameBut.refl _ _) kD ω'.s.toks
   refine ⟨.list ys,⟨σ₁.loc,σ₁.T,W⟩,_,?_,rfl,S₆,.list gAdd_self (rs.mono sub₆),fin ys W hJ⟩
   exact l₁.trans ⟨lk.sub.trans sub₆,lk.gens,lk.drawn,lk.os,rfl,rfl⟩
 exact codeAny_compStart_list (loop _ rfl) ((hW A hR.room.handled).self 0 _ _ _ st₁ (loop _ rfl))
end
end HL.Lake
end
noncomputable section
namespace HL.Lake
open PySem PySem.W PySem.Calls PyProof.Rows
section
variable {c:Cx} {n:Nat} {env:Env} {X:St→Prop} {σ:St} {pos:Pos} {ω:Wd} {sc:Scope} {Q:V→St→Prop}
theorem wo1 {α β:Type} {f:List Value→Sem α} {a:V} {rel:Wd→β→α→Prop} {Q:β→St→Prop}
  (h:∀ A ω ra,Here c n env A ω.kf→Sat c env.locals σ ω→RV c ω a ra→wpAny (model c.prog c.w) A (f [ra]) (Post c env.locals rel ω Q) (PostX c env A ω X) ω.s):WO c n env f [a] rel Q X σ:=fun A ω rvs hR hS hr=>by
 obtain ⟨ra,rfl,r1⟩:=hr.one; exact h A ω ra hR hS r1
theorem wo2 {α β:Type} {f:List Value→Sem α} {a b:V} {rel:Wd→β→α→Prop} {Q:β→St→Prop}
  (h:∀ A ω ra rb,Here c n env A ω.kf→Sat c env.locals σ ω→RV c ω a ra→RV c ω b rb→wpAny (model c.prog c.w) A (f [ra,rb]) (Post c env.locals rel ω Q) (PostX c env A ω X) ω.s):WO c n env f [a,b] rel Q X σ:=fun A ω rvs hR hS hr=>by
 obtain ⟨ra,rb,rfl,r1,r2⟩:=hr.two; exact h A ω ra rb hR hS r1 r2
theorem wo3 {α β:Type} {f:List Value→Sem α} {a b d:V} {rel:Wd→β→α→Prop} {Q:β→St→Prop}
  (h:∀ A ω ra rb rd,Here c n env A ω.kf→Sat c env.locals σ ω→RV c ω a ra→RV c ω b rb→RV c ω d rd→wpAny (model c.prog c.w) A (f [ra,rb,rd]) (Post c env.locals rel ω Q) (PostX c env A ω X) ω.s):WO c n env f [a,b,d] rel Q X σ:=fun A ω rvs hR hS hr=>by
 obtain ⟨ra,rb,rd,rfl,r1,r2,r3⟩:=hr.three; exact h A ω ra rb rd hR hS r1 r2 r3
section
variable {a b:Int}
theorem bv_add (h:Q (.int (a+b)) σ):BV c n env .Add (.int a) (.int b) Q X σ:=wo2 fun z9 z9 z9 z9 z9 hS r1 r2=>by (first | obtain rfl:=r1.inv | obtain ⟨_,rfl⟩:=r1.inv | cases r1); (first | obtain rfl:=r2.inv | obtain ⟨_,rfl⟩:=r2.inv | cases r2); exact add_int (doneT hS .int h)
theorem bv_sub (h:Q (.int (a - b)) σ):BV c n env .Sub (.int a) (.int b) Q X σ:=wo2 fun z9 z9 z9 z9 z9 hS r1 r2=>by (first | obtain rfl:=r1.inv | obtain ⟨_,rfl⟩:=r1.inv | cases r1); (first | obtain rfl:=r2.inv | obtain ⟨_,rfl⟩:=r2.inv | cases r2); exact sub_int (doneT hS .int h)
theorem bv_mul (hm:IntMulOk a b) (h:Q (.int (a * b)) σ):BV c n env .Mult (.int a) (.int b) Q X σ:=wo2 fun z9 z9 z9 z9 z9 hS r1 r2=>by (first | obtain rfl:=r1.inv | obtain ⟨_,rfl⟩:=r1.inv | cases r1); (first | obtain rfl:=r2.inv | obtain ⟨_,rfl⟩:=r2.inv | cases r2); exact mul_int (doneT hS .int h) hm
theorem bv_div (hb:b≠0) (hd:Builtin.divisionGoesByPylong a b=false) (h:Q (.int (a.fdiv b)) σ):BV c n env .FloorDiv (.int a) (.int b) Q X σ:=wo2 fun z9 z9 z9 z9 z9 hS r1 r2=>by (first | obtain rfl:=r1.inv | obtain ⟨_,rfl⟩:=r1.inv | cases r1); (first | obtain rfl:=r2.inv | obtain ⟨_,rfl⟩:=r2.inv | cases r2); exact floordiv_int hb (doneT hS .int h) (.inl hd)
theorem bv_mod (hb:b≠0) (h:Q (.int (a.fmod b)) σ):BV c n env .Mod (.int a) (.int b) Q X σ:=wo2 fun z9 z9 z9 z9 z9 hS r1 r2=>by (first | obtain rfl:=r1.inv | obtain ⟨_,rfl⟩:=r1.inv | cases r1); (first | obtain rfl:=r2.inv | obtain ⟨_,rfl⟩:=r2.inv | cases r2); exact mod_int' hb (doneT hS .int h)
theorem uv_neg (h:Q (.int (-a)) σ):UV c n env .USub (.int a) Q X σ:=wo1 fun z9 z9 z9 z9 hS r1=>by (first | obtain rfl:=r1.inv | obtain ⟨_,rfl⟩:=r1.inv | cases r1); exact neg_int (doneT hS .int h)
theorem kv_eq_int (h:Q (.bool (a==b)) σ):KV c n env .Eq (.int a) (.int b) Q X σ:=wo2 fun z9 z9 z9 z9 z9 hS r1 r2=>by (first | obtain rfl:=r1.inv | obtain ⟨_,rfl⟩:=r1.inv | cases r1); (first | obtain rfl:=r2.inv | obtain ⟨_,rfl⟩:=r2.inv | cases r2); exact eq_int (done hS .bool h)
theorem kv_ne_int (h:Q (.bool (a != b)) σ):KV c n env .NotEq (.int a) (.int b) Q X σ:=wo2 fun z9 z9 z9 z9 z9 hS r1 r2=>by (first | obtain rfl:=r1.inv | obtain ⟨_,rfl⟩:=r1.inv | cases r1); (first | obtain rfl:=r2.inv | obtain ⟨_,rfl⟩:=r2.inv | cases r2); exact ne_int (done hS .bool h)
theorem kv_lt_int (h:Q (.bool (decide (a < b))) σ):KV c n env .Lt (.int a) (.int b) Q X σ:=wo2 fun z9 z9 z9 z9 z9 hS r1 r2=>by (first | obtain rfl:=r1.inv | obtain ⟨_,rfl⟩:=r1.inv | cases r1); (first | obtain rfl:=r2.inv | obtain ⟨_,rfl⟩:=r2.inv | cases r2); exact lt_int (done hS .bool h)
theorem kv_le_int (h:Q (.bool (decide (a≤b))) σ):KV c n env .LtE (.int a) (.int b) Q X σ:=wo2 fun z9 z9 z9 z9 z9 hS r1 r2=>by (first | obtain rfl:=r1.inv | obtain ⟨_,rfl⟩:=r1.inv | cases r1); (first | obtain rfl:=r2.inv | obtain ⟨_,rfl⟩:=r2.inv | cases r2); exact le_int (done hS .bool h)
theorem kv_gt_int (h:Q (.bool (decide (a > b))) σ):KV c n env .Gt (.int a) (.int b) Q X σ:=wo2 fun z9 z9 z9 z9 z9 hS r1 r2=>by (first | obtain rfl:=r1.inv | obtain ⟨_,rfl⟩:=r1.inv | cases r1); (first | obtain rfl:=r2.inv | obtain ⟨_,rfl⟩:=r2.inv | cases r2); exact gt_int (done hS .bool h)
theorem kv_ge_int (h:Q (.bool (decide (a ≥ b))) σ):KV c n env .GtE (.int a) (.int b) Q X σ:=wo2 fun z9 z9 z9 z9 z9 hS r1 r2=>by (first | obtain rfl:=r1.inv | obtain ⟨_,rfl⟩:=r1.inv | cases r1); (first | obtain rfl:=r2.inv | obtain ⟨_,rfl⟩:=r2.inv | cases r2); exact ge_int (done hS .bool h)
end
section
variable {x y:Str}
theorem bv_add_str (hz:x.length+y.length≤sizeLine) (h:Q (.str (x++y)) σ):BV c n env .Add (.str x) (.str y) Q X σ:=wo2 fun z9 z9 z9 z9 z9 hS r1 r2=>by (first | obtain rfl:=r1.inv | obtain ⟨_,rfl⟩:=r1.inv | cases r1); (first | obtain rfl:=r2.inv | obtain ⟨_,rfl⟩:=r2.inv | cases r2); exact add_str (fun t' tk=>doneT hS .str h) hz
theorem kv_eq_str (h:Q (.bool (x==y)) σ):KV c n env .Eq (.str x) (.str y) Q X σ:=wo2 fun z9 z9 z9 z9 z9 hS r1 r2=>by (first | obtain rfl:=r1.inv | obtain ⟨_,rfl⟩:=r1.inv | cases r1); (first | obtain rfl:=r2.inv | obtain ⟨_,rfl⟩:=r2.inv | cases r2); exact eq_str (done hS .bool h)
theorem kv_ne_str (h:Q (.bool (x != y)) σ):KV c n env .NotEq (.str x) (.str y) Q X σ:=wo2 fun z9 z9 z9 z9 z9 hS r1 r2=>by (first | obtain rfl:=r1.inv | obtain ⟨_,rfl⟩:=r1.inv | cases r1); (first | obtain rfl:=r2.inv | obtain ⟨_,rfl⟩:=r2.inv | cases r2); exact ne_str (done hS .bool h)
theorem kv_lt_str (h:Q (.bool (decide (x.cps.toList < y.cps.toList))) σ):KV c n env .Lt (.str x) (.str y) Q X σ:=wo2 fun z9 z9 z9 z9 z9 hS r1 r2=>by (first | obtain rfl:=r1.inv | obtain ⟨_,rfl⟩:=r1.inv | cases r1); (first | obtain rfl:=r2.inv | obtain ⟨_,rfl⟩:=r2.inv | cases r2); exact lt_str (done hS .bool h)
theorem kv_le_str (h:Q (.bool (!(decide (y.cps.toList < x.cps.toList)))) σ):KV c n env .LtE (.str x) (.str y) Q X σ:=wo2 fun z9 z9 z9 z9 z9 hS r1 r2=>by (first | obtain rfl:=r1.inv | obtain ⟨_,rfl⟩:=r1.inv | cases r1); (first | obtain rfl:=r2.inv | obtain ⟨_,rfl⟩:=r2.inv | cases r2); exact P.le_str (done hS .bool h)
theorem kv_in_str (h:Q (.bool (Txt.contains x y)) σ):KV c n env .In (.str y) (.str x) Q X σ:=wo2 fun z9 z9 z9 z9 z9 hS r1 r2=>by (first | obtain rfl:=r1.inv | obtain ⟨_,rfl⟩:=r1.inv | cases r1); (first | obtain rfl:=r2.inv | obtain ⟨_,rfl⟩:=r2.inv | cases r2); exact P.in_str (done hS .bool h)
theorem kv_eq_ns (h:Q (.bool false) σ):KV c n env .Eq .none (.str y) Q X σ:=wo2 fun z9 z9 z9 z9 z9 hS r1 r2=>by (first | obtain rfl:=r1.inv | obtain ⟨_,rfl⟩:=r1.inv | cases r1); (first | obtain rfl:=r2.inv | obtain ⟨_,rfl⟩:=r2.inv | cases r2); exact EqNone.eq_none_str (done hS .bool h)
theorem kv_eq_sn (h:Q (.bool false) σ):KV c n env .Eq (.str y) .none Q X σ:=wo2 fun z9 z9 z9 z9 z9 hS r1 r2=>by (first | obtain rfl:=r1.inv | obtain ⟨_,rfl⟩:=r1.inv | cases r1); (first | obtain rfl:=r2.inv | obtain ⟨_,rfl⟩:=r2.inv | cases r2); exact EqNone.eq_str_none (done hS .bool h)
theorem kv_ne_ns (h:Q (.bool true) σ):KV c n env .NotEq .none (.str y) Q X σ:=wo2 fun z9 z9 z9 z9 z9 hS r1 r2=>by (first | obtain rfl:=r1.inv | obtain ⟨_,rfl⟩:=r1.inv | cases r1); (first | obtain rfl:=r2.inv | obtain ⟨_,rfl⟩:=r2.inv | cases r2); exact EqNone.ne_none_str (done hS .bool h)
theorem kv_ne_sn (h:Q (.bool true) σ):KV c n env .NotEq (.str y) .none Q X σ:=wo2 fun z9 z9 z9 z9 z9 hS r1 r2=>by (first | obtain rfl:=r1.inv | obtain ⟨_,rfl⟩:=r1.inv | cases r1); (first | obtain rfl:=r2.inv | obtain ⟨_,rfl⟩:=r2.inv | cases r2); exact EqNone.ne_str_none (done hS .bool h)
theorem kv_eq_nn (h:Q (.bool true) σ):KV c n env .Eq .none .none Q X σ:=wo2 fun z9 z9 z9 z9 z9 hS r1 r2=>by (first | obtain rfl:=r1.inv | obtain ⟨_,rfl⟩:=r1.inv | cases r1); (first | obtain rfl:=r2.inv | obtain ⟨_,rfl⟩:=r2.inv | cases r2); exact EqNone.eq_none_none (done hS .bool h)
end
theorem kv_eq_bool {p q:Bool} (h:Q (.bool (p==q)) σ):KV c n env .Eq (.bool p) (.bool q) Q X σ:=wo2 fun z9 z9 z9 z9 z9 hS r1 r2=>by (first | obtain rfl:=r1.inv | obtain ⟨_,rfl⟩:=r1.inv | cases r1); (first | obtain rfl:=r2.inv | obtain ⟨_,rfl⟩:=r2.inv | cases r2); exact eq_bool (done hS .bool h)
noncomputable def isStV:V→Bool
 | .st _=>true
 | _=>false
noncomputable def isNoneV:V→Bool
 | .none=>true
 | _=>false
theorem ne_none_of {P:Params} {g:PHeap} {a b:List Addr} {v:V} {rv:Value} (h:Rel P g a b v rv) (k:isStV v=false) (k':isNoneV v=false):rv≠.none:=by
 cases h <;> first | (cases k; done) | (cases k'; done) | (intro e; cases e)
theorem kv_is_none {v:V} (k:isStV v=false) (h:Q (.bool (isNoneV v)) σ):KV c n env .Is v .none Q X σ:=wo2 fun z9 z9 z9 z9 z9 hS r1 r2=>by
 (first | obtain rfl:=r2.inv | obtain ⟨_,rfl⟩:=r2.inv | cases r2)
 cases hv:isNoneV v with
 | true =>
  cases v <;> first | (cases hv; done) | skip
  (first | obtain rfl:=r1.inv | obtain ⟨_,rfl⟩:=r1.inv | cases r1)
  exact wpAny_is_self rfl (done hS .bool h)
 | false =>
  rw [hv] at h
  exact is_none_ne (ne_none_of r1 k hv) (done hS .bool h)
theorem kv_isnot_none {v:V} (k:isStV v=false) (h:Q (.bool (!isNoneV v)) σ):KV c n env .IsNot v .none Q X σ:=wo2 fun z9 z9 z9 z9 z9 hS r1 r2=>by
 (first | obtain rfl:=r2.inv | obtain ⟨_,rfl⟩:=r2.inv | cases r2)
 cases hv:isNoneV v with
 | true =>
  cases v <;> first | (cases hv; done) | skip
  (first | obtain rfl:=r1.inv | obtain ⟨_,rfl⟩:=r1.inv | cases r1)
  exact wpAny_isNot_self rfl (done hS .bool h)
 | false =>
  rw [hv] at h
  exact isnot_none_ne (ne_none_of r1 k hv) (done hS .bool h)
theorem tv_bool {b:Bool} {Q:Bool→St→Prop} (h:Q b σ):TV c n env (.bool b) Q X σ:=wo1 fun z9 z9 z9 z9 hS r1=>by (first | obtain rfl:=r1.inv | obtain ⟨_,rfl⟩:=r1.inv | cases r1); exact wpAny_truthy_bool (done hS rfl h)
theorem tv_none {Q:Bool→St→Prop} (h:Q false σ):TV c n env .none Q X σ:=wo1 fun z9 z9 z9 z9 hS r1=>by (first | obtain rfl:=r1.inv | obtain ⟨_,rfl⟩:=r1.inv | cases r1); exact truthy_none (done hS rfl h)
theorem tv_int {a:Int} {Q:Bool→St→Prop} (h:Q (a != 0) σ):TV c n env (.int a) Q X σ:=wo1 fun z9 z9 z9 z9 hS r1=>by (first | obtain rfl:=r1.inv | obtain ⟨_,rfl⟩:=r1.inv | cases r1); exact truthy_int (done hS rfl h)
theorem tv_str {x:Str} {Q:Bool→St→Prop} (hz:x.length≤10000) (h:Q ((x.length:Int) != 0) σ):TV c n env (.str x) Q X σ:=wo1 fun z9 z9 z9 z9 hS r1=>by (first | obtain rfl:=r1.inv | obtain ⟨_,rfl⟩:=r1.inv | cases r1); exact P.truthy_str (fitL hz) (doneT hS rfl h)
inductive IsLV (σ:St):V→List V→Prop
 | list {l}:IsLV σ (.list l) l
 | lo {i l}:σ.T[i]?=some (.list l)→IsLV σ (.lo i) l
 | ob {i l}:σ.W[i]?=some (.list l)→IsLV σ (.ob i) l
theorem IsLV.at {L:Addr} {v:V} {l:List V} {rv:Value} (k:IsLV σ v l) (S:Sat c L σ ω) (r:RV c ω v rv):∃ x xs nn,rv=.ref x∧ω.s.heap.get? x=some { cls:=.type "list",data:=.seq (List.toArray xs) nn }∧RVs c ω l xs:=by
 cases k with
 | list=>obtain ⟨_,_,_,rfl,hg,rs⟩:=r.inv; exact ⟨_,_,_,rfl,S.keep _ _ hg,rs⟩
 | lo h =>
  obtain ⟨_,rfl,hi⟩:=r.inv
  obtain ⟨x,ob,e1,e2,r⟩:=S.tT.2 _ _ h
  rw [hi] at e1; cases e1
  cases r with | list r=>exact ⟨_,_,_,rfl,e2,r⟩
 | ob h =>
  obtain ⟨_,rfl,hi⟩:=r.inv
  obtain ⟨x,ob,e1,e2,r⟩:=S.tW.2 _ _ h
  rw [hi] at e1; cases e1
  cases r with | list r=>exact ⟨_,_,_,rfl,e2,r.mono ⟨fun z9 z9 h=>h,fun z9 z9 h=>(Lake.nn rfl h),fun z9 z9 h=>h⟩⟩
theorem isLV {h:Heap} {x:Addr} {xs:List Value} {nn:Nat} (e:h.get? x=some { cls:=.type "list",data:=.seq (List.toArray xs) nn }):h.IsList x xs.toArray:=⟨_,e,rfl,nn,rfl⟩
theorem tv_list {v:V} {l:List V} {Q:Bool→St→Prop} (k:IsLV σ v l) (hz:l.length≤10000) (h:Q (!l.isEmpty) σ):TV c n env v Q X σ:=wo1 fun z9 z9 z9 z9 hS r1=>by
 obtain ⟨x,xs,nn,rfl,e,rs⟩:=k.at hS r1
 have hl:=relL_len rs
 refine wpAny_truthy_list (isLV e) (by rw [List.size_toArray,hl]; exact fitT hz) ?_
 have:(!xs.toArray.isEmpty)=!l.isEmpty:=by
  cases xs <;> cases l <;> first | rfl | (simp at hl)
 rw [this]
 exact doneT hS rfl h
end
end HL.Lake
end
noncomputable section
namespace HL.Lake
open PySem PySem.W PySem.Calls PyProof.Rows
theorem RelL.isNoLo {P:Params} {g:PHeap} {b:List Addr} {v:List V} {rv:List Value} (h:RelL P g [] b v rv):V.noLoL v=true:=@RelL.rec P g [] b (fun v z9 z9=>v.noLo=true) (fun v z9 z9=>V.noLoL v=true) (fun v z9 z9=>V.noLoD v=true) rfl rfl rfl rfl rfl (fun z9=>rfl) (fun h=>by simp at h) (fun z9 z9=>rfl) (fun z9 z9 ih=>ih) (fun z9 z9 ih=>ih) (fun z9 z9 z9 z9 ih=>ih) (fun z9 z9 ih=>ih) rfl (fun z9 z9 i1 i2=>by rw [V.noLoL,i1,i2]; rfl) rfl (fun z9 z9 i1 i2=>by rw [V.noLoD,i1,i2]; rfl) _ _ h
theorem noLoL_append {l l':List V} (h:V.noLoL l=true) (h':V.noLoL l'=true):V.noLoL (l++l')=true:=by
 induction l with
 | nil=>exact h'
 | cons v l ih =>
  have h:(v.noLo&&V.noLoL l)=true:=h
  show (v.noLo&&V.noLoL (l++l'))=true
  rw [(andT h).1,ih (andT h).2]; rfl
theorem noLoL_mem {l:List V}:V.noLoL l=true ↔ ∀ v∈l,v.noLo=true:=by
 induction l with
 | nil=>exact ⟨fun z9 z9 h=>(by cases h),fun z9=>rfl⟩
 | cons v l ih =>
  show (v.noLo&&V.noLoL l)=true ↔ _
  rw [Bool.and_eq_true,ih]
  exact ⟨fun h w hw=>(List.mem_cons.mp hw).elim (fun e=>e▸h.1) (h.2 w),fun h=>⟨h v (.head _),fun w hw=>h w (.tail _ hw)⟩⟩
noncomputable def isObV:V→Bool
 | .ob _=>true
 | _=>false
section
variable {c:Cx} {n:Nat} {env:Env} {X:St→Prop} {σ:St} {pos:Pos} {ω:Wd} {sc:Scope} {Q:V→St→Prop}
inductive LMut (σ:St):V→List V→(List V→St)→Prop
 | lo {i l}:σ.T[i]?=some (.list l)→LMut σ (.lo i) l (fun l'=>{ σ with T:=σ.T.set i (.list l') })
 | ob {i l}:σ.W[i]?=some (.list l)→LMut σ (.ob i) l (fun l'=>{ σ with W:=σ.W.set i (.list l') })
theorem LMut.at {L:Addr} {v:V} {l:List V} {f:List V→St} {rv:Value} (k:LMut σ v l f) (S:Sat c L σ ω) (r:RV c ω v rv) :
  ∃ x xs nn,rv=.ref x∧ω.s.heap.get? x=some { cls:=.type "list",data:=.seq (List.toArray xs) nn }∧RVs c ω l xs∧(isObV v=true→V.noLoL l=true) ∧
   ∀ (h':Heap) (l':List V) (xs':List Value) (nn' t:Nat),Heap.SameBut x ω.s.heap h'→h'.get? x=some { cls:=.type "list",data:=.seq (List.toArray xs') nn' }→RVs c ω l' xs'→(isObV v=true→V.noLoL l'=true) →
    Sat c L (f l') { ω with s:={ ω.s with heap:=h',toks:=t } }∧Le ω { ω with s:={ ω.s with heap:=h',toks:=t } }:=by
 cases k with
 | lo h =>
  obtain ⟨_,rfl,hi⟩:=r.inv
  refine gC fun G hG=>?_
  obtain ⟨x,ob,e1,e2,r⟩:=S.tT.2 _ _ h
  cases Option.some.inj (hi.symm.trans e1)
  cases r with
  | list r =>
   refine hG ?_
   refine ⟨_,_,_,rfl,e2,r,fun h=>(by cases h),fun h' l' xs' nn' t hs hg rs z9=>?_⟩
   exact S.setT hi (S.ns.sameBut hs (S.neL (List.mem_append_left _ (List.mem_of_getElem? hi)))) (fun y o hy z9 e=>hs.extBut y o hy e) hg (.list rs) t
 | ob h =>
  obtain ⟨_,rfl,hi⟩:=r.inv
  refine gC fun G hG=>?_
  obtain ⟨x,ob,e1,e2,r⟩:=S.tW.2 _ _ h
  cases Option.some.inj (hi.symm.trans e1)
  cases r with
  | list r =>
   refine hG ?_
   refine ⟨_,_,_,rfl,e2,r.mono ⟨fun z9 z9 h=>h,fun z9 z9 h=>(Lake.nn rfl h),fun z9 z9 h=>h⟩,fun z9=>r.isNoLo,fun h' l' xs' nn' t hs hg rs hn=>?_⟩
   exact S.setW hi (S.ns.sameBut hs (S.neL (List.mem_append_right _ (List.mem_of_getElem? hi)))) (fun y o hy z9 e=>hs.extBut y o hy e) hg (.list (rs.noLo (hn rfl))) t
theorem getMethod_list {M:Model} {A:Around} {E:Value→Shared→Prop} {s:Shared} {x:Addr} {xs:Array Value} {nn:Nat} {name:Str} {id:String} {pl:Sem Bool} {Q:Value×List Value→Shared→Prop} (ho:s.heap.get? x=some { cls:=.type "list",data:=.seq xs nn })
  (hl:typeLookup (.type "list") name=pure (some (.builtin id))) (ht:typeOf (.builtin id)=pure (.type "method_descriptor")) (h:Q (.builtin id,[.ref x]) s):wpAny M A (getMethod (.ref x) name pl) Q E s:=by
 have hT:s.TypeIs (.ref x) "list":=⟨_,ho,rfl⟩
 unfold getMethod
 refine wpAny_bind (wpAny_specialOf hT list_getattribute ?_)
 show wpAny M A (if (Manifest.canonical "list.__getattribute__" != "object.__getattribute__")=true then _ else _) Q E s
 rw [canon_list_getattribute,if_neg Bool.false_ne_true]
 refine wpAny_bind (wpAny_specialOf hT list_getattr_none ?_)
 refine wpAny_bind (wpAny_specialOf hT hl ?_)
 refine wpAny_bind (wpAny_of_eq ht ?_)
 refine wpAny_bind (wpAny_load ho ?_)
 exact wpAny_bind (wpAny_rule (wpAny_pure h))
theorem gm_append {Q:V→List V→St→Prop} {v:V} {l:List V} (k:IsLV σ v l) (h:Q (.st (.builtin "list.append")) [v] σ):GM c n env "append" v Q X σ:=fun pl=>wo1 fun z9 z9 z9 z9 hS r1=>by
 obtain ⟨x,xs,nn,rfl,e,rs⟩:=k.at hS r1
 exact getMethod_list_append e rfl rfl (done (b:=(V.st (.builtin "list.append"),[v])) hS ⟨.st,.cons r1 .nil⟩ h)
theorem gm_pop {Q:V→List V→St→Prop} {v:V} {l:List V} (k:IsLV σ v l) (h:Q (.st (.builtin "list.pop")) [v] σ):GM c n env "pop" v Q X σ:=fun pl=>wo1 fun z9 z9 z9 z9 hS r1=>by
 obtain ⟨x,xs,nn,rfl,e,rs⟩:=k.at hS r1
 exact getMethod_list e F.slot_list_pop.lookup F.type_list_pop (done (b:=(V.st (.builtin "list.pop"),[v])) hS ⟨.st,.cons r1 .nil⟩ h)
theorem cv_append {v x:V} {l:List V} {f:List V→St} (k:LMut σ v l f) (hn:(!isObV v||x.noLo)=true) (hz:l.length≤10000) (h:Q .none (f (l++[x]))):CV c n env (.st (.builtin "list.append")) [v,x] Q X σ:=fun A ω rvs hR hS hr=>by
 obtain ⟨rf,rv,rx,rfl,r0,r1,r2⟩:=hr.three
 (first | obtain rfl:=r0.inv | obtain ⟨_,rfl⟩:=r0.inv | cases r0)
 refine gC fun G hG=>?_
 obtain ⟨a,xs,nn,rfl,e,rs,no,put⟩:=k.at hS r1
 refine hG ?_
 have hl:=relL_len rs
 refine list_append_exact e (by rw [List.size_toArray,sizeLine_eq]; exact (Nat.le_of_not_lt fun hn=>Lake.n3 [_,_] 1 (.a (.n 16777216) (.n 1)) (.v 1) 1 (.v 0) (.n 10000) 1 (.v 1) (.v 0) rfl hn hz (Nat.le_of_eq hl))) fun h' nn' e' hs=>?_
 obtain ⟨S',l'⟩:=put h' (l++[x]) (xs++[rx]) nn' ω.s.toks hs (by simpa using e') (rs.append (.cons r2 .nil)) fun ho=>by
  refine noLoL_append (no ho) ?_
  rw [ho] at hn
  have:x.noLo=true:=by simpa using hn
  rw [V.noLoL,this]; rfl
 exact ⟨.none,_,_,l',rfl,S',.none,h⟩
theorem call_pop_last {A:Around} {E:Value→Shared→Prop} {s:Shared} {l:Addr} {its:Array Value} {nn:Nat} {y:Value} {Q:Value→Shared→Prop} (hl:s.heap.get? l=some { cls:=.type "list",data:=.seq its nn }) (hy:its[its.size - 1]?=some y) (hsz:its.size≤sizeLine)
  (hQ:∀ h' nn',h'.get? l=some { cls:=.type "list",data:=.seq (its.eraseIdxIfInBounds (its.size - 1)) nn' }→Heap.SameBut l s.heap h'→Q y { s with heap:=h' }):wpAny (model c.prog c.w) A (call (.builtin "list.pop") [.ref l]) Q E s :=
 call_meets F.slot_list_pop (show s.TypeIs (.ref l) "list" from ⟨_,hl,rfl⟩) F.entry_list_pop (F.args_list_pop_1 _) (MeetsSeq.list_pop_last l its nn y hy hsz) ⟨hl,hQ _ _ (IsL.update hl _) (Heap.SameBut.update ..)⟩
theorem relL_snoc {P:Params} {g:PHeap} {a b:List Addr} {l:List V} {v:V} {xs:List Value} (h:RelL P g a b (l++[v]) xs):∃ ys y,xs=ys++[y]∧RelL P g a b l ys∧Rel P g a b v y:=by
 induction l generalizing xs with
 | nil =>
  obtain ⟨y,rfl,r⟩:=RelL.one (v:=v) h
  exact ⟨[],y,rfl,.nil,r⟩
 | cons u l ih =>
  obtain ⟨x,t,rfl,r,rs⟩:=RelL.un (l:=l++[v]) h
  obtain ⟨ys,y,rfl,h1,h2⟩:=ih rs
  exact ⟨x :: ys,y,rfl,.cons r h1,h2⟩
theorem cv_pop {v x:V} {l:List V} {f:List V→St} (k:LMut σ v (l++[x]) f) (hz:l.length≤10000) (h:Q x (f l)):CV c n env (.st (.builtin "list.pop")) [v] Q X σ:=fun A ω rvs hR hS hr=>by
 obtain ⟨rf,rv,rfl,r0,r1⟩:=hr.two
 (first | obtain rfl:=r0.inv | obtain ⟨_,rfl⟩:=r0.inv | cases r0)
 refine gC fun G hG=>?_
 obtain ⟨a,xs,nn,rfl,e,rs,no,put⟩:=k.at hS r1
 obtain ⟨ys,y,rfl,rs',ry⟩:=relL_snoc rs
 refine hG ?_
 have hl:=relL_len rs'
 refine call_pop_last (y:=y) e (by simp) (by simp only [List.size_toArray,List.length_append,List.length_cons,List.length_nil,sizeLine_eq]; exact (Nat.le_of_not_lt fun hn=>Lake.n3 [_,_] 1 (.a (.n 16777216) (.n 1)) (.a (.v 1) (.a (.n 0) (.n 1))) 1 (.v 0) (.n 10000) 1 (.v 1) (.v 0) rfl hn hz (Nat.le_of_eq hl))) fun h' nn' e' hs=>?_
 have e2:(ys++[y]).toArray.eraseIdxIfInBounds ((ys++[y]).toArray.size - 1)=ys.toArray:=by
  unfold Array.eraseIdxIfInBounds
  rw [dif_pos (by simp)]
  apply Array.ext'
  simp [List.eraseIdx_append_of_length_le]
 rw [e2] at e'
 obtain ⟨S',l'⟩:=put h' l ys nn' ω.s.toks hs e' rs' fun ho=>by
  have:=no ho
  rw [noLoL_mem] at this ⊢
  exact fun v hv=>this v (List.mem_append_left _ hv)
 exact ⟨x,_,_,l',rfl,S',ry.mono l'.sub,h⟩
theorem cv_len_str {x:Str} (hz:x.length≤10000) (h:Q (.int x.length) σ):CV c n env (.st (.builtin "len")) [.str x] Q X σ:=wo2 fun z9 z9 z9 z9 z9 hS r0 r1=>by
 (first | obtain rfl:=r0.inv | obtain ⟨_,rfl⟩:=r0.inv | cases r0); (first | obtain rfl:=r1.inv | obtain ⟨_,rfl⟩:=r1.inv | cases r1)
 exact len_str (fitL hz) (doneT hS .int h)
theorem cv_len_list {v:V} {l:List V} (k:IsLV σ v l) (hz:l.length≤10000) (h:Q (.int l.length) σ):CV c n env (.st (.builtin "len")) [v] Q X σ:=wo2 fun z9 z9 z9 z9 z9 hS r0 r1=>by
 (first | obtain rfl:=r0.inv | obtain ⟨_,rfl⟩:=r0.inv | cases r0)
 refine gC fun G hG=>?_
 obtain ⟨x,xs,nn,rfl,e,rs⟩:=k.at hS r1
 refine hG ?_
 have hl:=relL_len rs
 refine call_len_list (isLV e) (by rw [List.size_toArray,hl]; exact fitT hz) ?_
 rw [List.size_toArray,hl]
 exact doneT hS .int h
theorem relL_get' {P:Params} {g:PHeap} {a b:List Addr} {l:List V} {rl:List Value} {i:Nat} {v:V} (h:RelL P g a b l rl):l[i]?=some v→∃ rv,rl[i]?=some rv∧Rel P g a b v rv :=
 RelL.ind (M:=fun l rl=>∀ i:Nat,l[i]?=some v→∃ rv,rl[i]?=some rv∧Rel P g a b v rv) (fun z9 e=>by cases e) (fun z9 z9 z9 z9 r z9 ih i e=>by
  cases i with
  | zero=>exact Option.some.inj e▸⟨_,rfl,r⟩
  | succ i=>exact ih i e) h i
theorem int_fit {k:Int} {n:Nat} (hk:0≤k) (h:k.toNat < n) (hz:n≤10000):k < 2 ^ 63:=by
 obtain ⟨m,rfl⟩:=Int.eq_ofNat_of_zero_le hk
 exact Int.lt_trans (Int.ofNat_lt.mpr (Nat.lt_of_lt_of_le h hz)) (by decide)
theorem iv_list {v x:V} {l:List V} {k:Int} (h0:IsLV σ v l) (hk:0≤k) (hx:l[k.toNat]?=some x) (hz:l.length≤10000) (h:Q x σ):IV c n env v (.int k) Q X σ:=wo2 fun z9 z9 z9 z9 z9 hS r1 r2=>by
 (first | obtain rfl:=r2.inv | obtain ⟨_,rfl⟩:=r2.inv | cases r2)
 refine gC fun G hG=>?_
 obtain ⟨a,xs,nn,rfl,e,rs⟩:=h0.at hS r1
 obtain ⟨rv,e',r⟩:=relL_get' rs hx
 refine hG ?_
 have hlt:=(List.getElem?_eq_some_iff.mp hx).1
 exact wpAny_getItem_list (isLV e) hk (int_fit hk hlt hz) (by simpa using e') (done hS r h)
theorem iv_list_neg {v x:V} {l:List V} {k:Int} (h0:IsLV σ v l) (hk:k < 0) (hk':-(l.length:Int)≤k) (hx:l[(k+l.length).toNat]?=some x) (hz:l.length≤10000) (h:Q x σ):IV c n env v (.int k) Q X σ:=wo2 fun z9 z9 z9 z9 z9 hS r1 r2=>by
 (first | obtain rfl:=r2.inv | obtain ⟨_,rfl⟩:=r2.inv | cases r2)
 refine gC fun G hG=>?_
 obtain ⟨a,xs,nn,rfl,e,rs⟩:=h0.at hS r1
 obtain ⟨rv,e',r⟩:=relL_get' rs hx
 refine hG ?_
 have hl:=relL_len rs
 refine wpAny_getItem_list_neg (isLV e) hk (by rw [List.size_toArray,hl]; exact hk') (Int.le_trans (Int.neg_le_neg (Int.le_of_lt (fitT hz))) hk') ?_ (done hS r h)
 rw [List.size_toArray,hl]
 simpa using e'
theorem seqIx {k:Int} {len:Nat} (h0:0≤k) (h1:k < len):seqIndex? k len=some k.toNat:=by
 show (if (decide (0≤if k < 0 then k+len else k)&&decide ((if k < 0 then k+len else k) < len))=true then some (if k < 0 then k+len else k).toNat else none)=_
 rw [if_neg (Int.not_lt.mpr h0),decide_eq_true h0,decide_eq_true h1]
 rfl
theorem iv_tup {x:V} {l:List V} {k:Int} (hk:0≤k) (hx:l[k.toNat]?=some x) (hz:l.length≤10000) (h:Q x σ):IV c n env (.tup l) (.int k) Q X σ:=wo2 fun z9 z9 z9 z9 z9 hS r1 r2=>by
 (first | obtain rfl:=r2.inv | obtain ⟨_,rfl⟩:=r2.inv | cases r2)
 refine gC fun G hG=>?_
 obtain ⟨_,_,_,rfl,hg,rs⟩:=r1.inv
 obtain ⟨rv,e',r⟩:=relL_get' rs hx
 refine hG ?_
 have hlt:=(List.getElem?_eq_some_iff.mp hx).1
 have hl:=relL_len rs
 refine getItem_tuple (items:=List.toArray _) ⟨_,hS.keep _ _ hg,rfl,_,rfl⟩ (Int.le_trans (by decide) hk) (int_fit hk hlt hz) (j:=k.toNat) ?_ (by simpa using e') (done hS r h)
 have hz2:k < ((List.toArray _).size:Int):=Int.lt_of_lt_of_le ((Int.toNat_lt hk).mp hlt) (Int.ofNat_le.mpr (Nat.le_of_eq hl.symm))
 exact seqIx hk hz2
theorem iv_str {x:Str} {k:Int} {j cp:Nat} (hj:seqIndex? k x.length=some j) (hx:x.cps[j]?=some cp) (hk:(decide (k < -2 ^ 63)||decide (k ≥ 2 ^ 63))=false) (h:Q (.str ⟨#[cp]⟩) σ):IV c n env (.str x) (.int k) Q X σ:=wo2 fun z9 z9 z9 z9 z9 hS r1 r2=>by
 (first | obtain rfl:=r1.inv | obtain ⟨_,rfl⟩:=r1.inv | cases r1); (first | obtain rfl:=r2.inv | obtain ⟨_,rfl⟩:=r2.inv | cases r2)
 exact getItem_str hk (by rw [hj]; exact hx) (doneT hS .str h)
end
end HL.Lake
end
noncomputable section
namespace HL.Lake
open PySem PySem.W PySem.Calls PyProof.Rows
noncomputable def sl {α:Type} (l:List α) (lo hi:Option Int):List α:=(l.drop (lo.elim 0 (clipAt l.length))).take (hi.elim l.length (clipAt l.length) - lo.elim 0 (clipAt l.length))
theorem clip_nat (n a:Nat):clipAt n ((a:Nat):Int)=min a n:=by
 unfold clipAt
 rw [if_neg (Int.not_lt.mpr (Int.natCast_nonneg a))]
 rcases Nat.le_total a n with h | h
 ·rw [Int.min_eq_left (Int.ofNat_le.mpr h),Nat.min_eq_left h]; exact congrArg Int.toNat (Int.max_eq_right (Int.natCast_nonneg a))
 ·rw [Int.min_eq_right (Int.ofNat_le.mpr h),Nat.min_eq_right h]; exact congrArg Int.toNat (Int.max_eq_right (Int.natCast_nonneg n))
theorem clip_le (n:Nat) (i:Int):clipAt n i≤n:=Int.ofNat_le.mp (by rw [clipAt_cast]; exact Int.max_le.mpr ⟨Int.natCast_nonneg _,Int.min_le_right _ _⟩)
theorem sl_len {α:Type} (l:List α) (lo hi:Option Int):(sl l lo hi).length≤l.length:=by
 unfold sl; rw [List.length_take,List.length_drop]; exact (Nat.le_of_not_lt fun hn=>Lake.n3 [_,_,_] 1 (.a (.v 0) (.n 1)) (.v 1) 1 (.v 1) (.v 2) 1 (.v 2) (.v 0) rfl hn (Nat.min_le_right _ _) (Nat.sub_le _ _))
theorem sl_pick (xs:List Value) (lo hi:Option Int):slicePick xs.toArray lo hi none=(sl xs lo hi).toArray:=by
 rw [slicePick_plain]
 unfold sl
 rw [List.size_toArray]
theorem sl_str (x:Str) (lo hi:Option Int):(Builtin.Str.strSliceIndices lo hi 1 x.length).filterMap (x.cps[·]?)=sl x.cps.toList lo hi:=by
 have e:Builtin.Str.strSliceIndices lo hi 1 x.length=sliceRange ((lo.elim 0 (clipAt x.length):Nat):Int) ((hi.elim x.length (clipAt x.length):Nat):Int) 1:=by
  cases lo <;> cases hi <;> simp [Builtin.Str.strSliceIndices,clipAt_cast]
 rw [e,sliceRange_one,pick_run]
 unfold sl
 rw [show x.cps.toList.length=x.length from by simp [Str.length]]
noncomputable def slS (x:Str) (lo hi:Option Int):Str:=⟨(sl x.cps.toList lo hi).toArray⟩
section
variable {c:Cx} {n:Nat} {env:Env} {X:St→Prop} {σ:St} {pos:Pos} {ω:Wd} {sc:Scope} {Q:V→St→Prop}
theorem relL_drop {P:Params} {g:PHeap} {a b:List Addr} {l:List V} {rl:List Value} (k:Nat) (h:RelL P g a b l rl):RelL P g a b (l.drop k) (rl.drop k):=by
 induction k generalizing l rl with
 | zero=>exact h
 | succ k ih=>cases h with
  | nil=>exact .nil
  | cons _ rs=>exact ih rs
theorem relL_take {P:Params} {g:PHeap} {a b:List Addr} {l:List V} {rl:List Value} (k:Nat) (h:RelL P g a b l rl):RelL P g a b (l.take k) (rl.take k):=by
 induction k generalizing l rl with
 | zero=>show RelL P g a b [] []; exact .nil
 | succ k ih=>cases h with
  | nil=>exact .nil
  | cons r rs=>exact .cons r (ih rs)
theorem relL_sl {P:Params} {g:PHeap} {a b:List Addr} {l:List V} {rl:List Value} (lo hi:Option Int) (h:RelL P g a b l rl):RelL P g a b (sl l lo hi) (sl rl lo hi):=by
 unfold sl
 rw [relL_len h]
 exact relL_take _ (relL_drop _ h)
noncomputable abbrev WP (c:Cx) (n:Nat) (env:Env) (e:Option PySem.Expr) (Q:Option Int→St→Prop) (X:St→Prop) (σ:St):Prop:=W c n env (evalPart e env) (fun z9 o rv=>IsPart rv o) Q X σ
theorem wp_none {Q:Option Int→St→Prop} (h:Q none σ):WP c n env none Q X σ:=fun A ω z9 hS=>wpAny_evalPart_none (done hS .none h)
theorem wp_some {Q:Option Int→St→Prop} {e:PySem.Expr} (h:WE c n env e (fun v σ'=>∃ i,v=.int i∧Q (some i) σ') X σ):WP c n env (some e) Q X σ:=fun A ω hR hS=>by
 refine wpAny_evalPart_some (wpAny_mono (h A ω hR hS) ?_ fun z9 z9 x=>x)
 rintro rv s₁ ⟨v,σ₁,ω₁,l₁,e₁,S₁,r,i,rfl,h₁⟩
 (first | obtain rfl:=r.inv | obtain ⟨_,rfl⟩:=r.inv | cases r)
 exact ⟨some i,σ₁,ω₁,l₁,e₁,S₁,.int _ _,h₁⟩
inductive SlOf (σ:St) (lo hi:Option Int):V→V→Prop
 | str {x:Str}:x.length≤10000→SlOf σ lo hi (.str x) (.str (slS x lo hi))
 | list {v l}:IsLV σ v l→l.length≤10000→SlOf σ lo hi v (.list (sl l lo hi))
theorem sliceE_ops {lo hi:Option PySem.Expr} {sp:Pos} {o i:Value}:∃ ops,subscripted (.Slice lo hi none sp) false o i=operate ops (getItem o i):=subscripted_ops
theorem partOf {rv:Value} {o:Option Int} (h:IsPart rv o):∃ q:Option (Int×Tok),rv=partValue q∧q.map (·.1)=o:=by
 cases h with
 | none=>exact ⟨none,rfl,rfl⟩
 | int i t=>exact ⟨some (i,t),rfl,rfl⟩
theorem len_cps (x:Str):x.cps.toList.length=x.length:=Array.length_toList
set_option tactic.hygienic true in
theorem slS_pick {x:Str} {qlo qhi:Option (Int×Tok)} {lo hi:Option Int} (elo:qlo.map (·.1)=lo) (ehi:qhi.map (·.1)=hi) (hE:(slicePicked x qlo qhi none).filterMap (x.cps[·]?)=sl x.cps.toList lo hi) :
  slS x lo hi=if ((none:Option (Int×Tok)).map (·.1)).getD 1==1&&(slicePicked x qlo qhi none).length==x.length then x else ⟨((slicePicked x qlo qhi none).filterMap (x.cps[·]?)).toArray⟩:=by
 rw [hE]
 split
 ·rename_i hc
  have hc:(slicePicked x qlo qhi none).length=x.length:=beq_iff_eq.mp hc
  have e2:slicePicked x qlo qhi none=(List.range (hi.elim x.length (clipAt x.length) - lo.elim 0 (clipAt x.length))).map (lo.elim 0 (clipAt x.length)+·):=by
   unfold slicePicked
   rw [elo,ehi,← sliceRange_one]
   cases lo <;> cases hi <;> simp [Builtin.Str.strSliceIndices,clipAt_cast]
  rw [e2,List.length_map,List.length_range] at hc
  have h1:(hi.elim x.length (clipAt x.length))≤x.length:=by
   cases hi with
   | none=>exact Nat.le_refl _
   | some i=>exact clip_le _ i
  have hlen:(sl x.cps.toList lo hi).length=x.cps.toList.length:=by
   unfold sl
   rw [List.length_take,List.length_drop,len_cps,Nat.min_eq_left (Nat.sub_le_sub_right h1 _)]
   exact hc
  unfold slS
  have hs:List.Sublist (sl x.cps.toList lo hi) x.cps.toList:=(List.take_sublist _ _).trans (List.drop_sublist _ _)
  rw [hs.eq_of_length hlen]
 ·rfl
theorem e_slice {value:PySem.Expr} {lower upper:Option PySem.Expr} {sp:Pos}
  (h:WE c n env value (fun o σ₁=>WP c n env lower (fun lo σ₂=>WP c n env upper (fun hi σ₃=>∃ r,SlOf σ₃ lo hi o r∧Q r σ₃) X σ₂) X σ₁) X σ):WE c n env (.Subscript value (.Slice lower upper none sp) pos) Q X σ:=fun A ω hR hS=>by
 refine Subscript_ (wpAny_mono (h A ω hR hS) ?_ fun z9 z9 x=>x)
 refine Post.all fun ro o σ₁ ω₁ l₁ S₁ r₁ h₁=>?_
 refine wpAny_Slice ?_
 refine wpX l₁ (h₁ A ω₁ (hR.le l₁) S₁) ?_
 refine Post.all fun rlo lo σ₂ ω₂ l₂ S₂ plo h₂=>?_
 have l12:=l₁.trans l₂
 refine wpX l12 (h₂ A ω₂ (hR.le l12) S₂) ?_
 refine Post.all fun rhi hi σ₃ ω₃ l₃ S₃ phi hz25=>?_
 obtain ⟨r,k,h₃⟩:=hz25
 have l13:=l12.trans l₃
 refine wpAny_evalPart_none ?_
 have ro₃:=r₁.mono (l₂.trans l₃).sub
 obtain ⟨S₄,l₄⟩:=S₃.push ({ cls:=.type "slice",data:=.fields #[rlo,rhi,.none] }) rfl ω₃.s.toks
 have l14:=l13.trans l₄
 obtain ⟨ops,hops⟩:=sliceE_ops (lo:=lower) (hi:=upper) (sp:=sp) (o:=ro) (i:=.ref ω₃.s.heap.objs.size)
 cases k with
 | @str x hz =>
  obtain ⟨t₀,rfl⟩:=ro₃.inv
  obtain ⟨qlo,rfl,elo⟩:=partOf plo
  obtain ⟨qhi,rfl,ehi⟩:=partOf phi
  refine tail_any (typeIs_str _ _ _) F.slot_str_getitem.lookup (wpAny_getItem_str_slice (l:=qlo) (u:=qhi) (st:=none) ⟨_,Heap.get?_push_size _ rfl,rfl,rfl⟩ rfl ?_) hops
  have hE:(slicePicked x qlo qhi none).filterMap (x.cps[·]?)=sl x.cps.toList lo hi:=by
   unfold slicePicked
   rw [elo,ehi]; exact sl_str x lo hi
  have hL:=slS_pick elo ehi hE
  unfold sliceMade
  refine post_val_or_str ?_
  rw [← hL]
  refine ⟨?_,fun t' k=>?_⟩
  ·show (sl x.cps.toList lo hi).toArray.size≤_
   exact Nat.le_trans (Nat.le_trans (sl_len x.cps.toList lo hi) (Nat.le_of_eq (len_cps x))) (Nat.le_trans hz (by rw [sizeLine_eq]; decide))
  ·have q:Post c env.locals (RV c) { ω₃ with s:={ ω₃.s with heap:=ω₃.s.heap.push ({ cls:=.type "slice",data:=.fields #[partValue qlo,partValue qhi,.none] }),toks:=ω₃.s.toks },g:=gAdd ω₃.g ω₃.s.heap.objs.size ({ cls:=.type "slice",data:=.fields #[partValue qlo,partValue qhi,.none] }) } Q (.str (slS x lo hi) t') _:=doneT (k:=k) S₄ .str h₃
   exact q.le l14
 | @list _ l k hz =>
  obtain ⟨a,xs,nn,rfl,e,rs⟩:=k.at S₃ ro₃
  have hl:=relL_len rs
  have e':=Heap.get?_push_of_some ({ cls:=.type "slice",data:=.fields #[rlo,rhi,.none] }:Obj) e
  refine tail_any (typeObj e' rfl) F.slot_list_getitem.lookup (wpAny_getItem_list_slice (isLV e') ⟨_,Heap.get?_push_size _ rfl,rfl,rfl⟩ plo phi .none (by simp) ?_ (by rw [List.size_toArray,sizeLine_eq]; exact (Nat.le_of_not_lt fun hn=>Lake.n3 [_,_] 1 (.a (.n 16777216) (.n 1)) (.v 1) 1 (.v 0) (.n 10000) 1 (.v 1) (.v 0) rfl hn hz (Nat.le_of_eq hl)))) hops
  rw [sl_pick]
  obtain ⟨S₅,l₅⟩:=S₄.push ({ cls:=.type "list",data:=.seq (sl xs lo hi).toArray }) rfl ω₃.s.toks
  exact ⟨.list (sl l lo hi),σ₃,_,l14.trans l₅,rfl,S₅,.list (if_pos rfl) (relL_sl lo hi (rs.mono (l₄.trans l₅).sub)),h₃⟩
end
end HL.Lake
end
noncomputable section
namespace HL.Lake
open PySem PySem.W PySem.Calls PyProof.Rows PySem.NumText
noncomputable def isFig (hex:Bool) (k:Nat):Bool:=(48≤k&&k≤57)||(hex&&((97≤k&&k≤102)||(65≤k&&k≤70)))
noncomputable def figVal (k:Nat):Nat:=if k≤57 then k - 48 else if k≤70 then k - 55 else k - 87
noncomputable def baseOf (hex:Bool):Nat:=if hex then 16 else 10
noncomputable def numVal (hex:Bool) (cs:List Nat):Nat:=cs.foldl (fun acc k=>acc * baseOf hex+figVal k) 0
theorem fig_range {hex:Bool} {k:Nat} (h:isFig hex k=true):(48≤k∧k≤57)∨(hex=true∧((97≤k∧k≤102)∨(65≤k∧k≤70))):=by
 unfold isFig at h
 simpa [Bool.or_eq_true,Bool.and_eq_true,decide_eq_true_eq] using h
theorem fig_lo {hex:Bool} {k:Nat} (h:isFig hex k=true):48≤k:=(fig_range h).elim (·.1) fun r=>r.2.elim (fun q=>Nat.le_trans (by decide) q.1) fun q=>Nat.le_trans (by decide) q.1
theorem fig_lt {hex:Bool} {k:Nat} (h:isFig hex k=true):k < 128:=(fig_range h).elim (fun r=>Nat.lt_of_le_of_lt r.2 (by decide)) fun r=>r.2.elim (fun q=>Nat.lt_of_le_of_lt q.2 (by decide)) fun q=>Nat.lt_of_le_of_lt q.2 (by decide)
theorem fig_tab:[true,false].all (fun hex=>(List.range 128).all fun k=>!isFig hex k||(!(k==95)&&(digit? k==some (figVal k)&&decide (figVal k < baseOf hex))))=true:=by decide +kernel
theorem fig_step {hex:Bool} {k:Nat} (h:isFig hex k=true) (ds:Array Nat) (b:Bool):step (baseOf hex) (ds,b) k=some (ds.push (figVal k),true):=by
 have t:=List.all_eq_true.mp (List.all_eq_true.mp fig_tab hex (by cases hex <;> decide)) k (List.mem_range.mpr (fig_lt h))
 rw [h] at t
 have t:(!(k==95)&&(digit? k==some (figVal k)&&decide (figVal k < baseOf hex)))=true:=t
 unfold NumText.step
 rw [if_neg (fun e=>by rw [e] at t; cases t),eq_of_beq (andT (andT t).2).1]
 exact if_pos (of_decide_eq_true (andT (andT t).2).2)
theorem fold_figs {hex:Bool} (cs:List Nat):∀ ds:Array Nat,(∀ k∈cs,isFig hex k=true)→cs.foldlM (step (baseOf hex)) (ds,true)=some ((ds.toList++cs.map figVal).toArray,true):=by
 induction cs with
 | nil=>intro ds _; show some (ds,true)=some ((ds.toList++[]).toArray,true); rw [List.append_nil]
 | cons k cs ih =>
  intro ds h
  rw [List.foldlM_cons,fig_step (h k (.head _))]
  refine (ih _ fun d hd=>h d (.tail _ hd)).trans ?_
  rw [Array.toList_push,List.append_assoc]; rfl
theorem digs_figs {hex:Bool} {cs:List Nat} (h:∀ k∈cs,isFig hex k=true) (hne:cs≠[]):digits? (baseOf hex) cs=some (cs.map figVal).toArray:=by
 cases cs with
 | nil=>exact absurd rfl hne
 | cons k cs =>
  unfold digits?
  rw [List.foldlM_cons,fig_step (h k (.head _))]
  show (cs.foldlM (step (baseOf hex)) ((#[]:Array Nat).push (figVal k),true)).bind _=_
  rw [fold_figs cs _ fun d hd=>h d (.tail _ hd)]
  simp
noncomputable def pfQ (c:Nat):Option Nat:=if (c==120||c==88)=true then some 16 else if (c==111||c==79)=true then some 8 else if (c==98||c==66)=true then some 2 else none
theorem pf_of {cs:List Nat} {p:Nat} (hp:prefix? cs=some p):∃ c r,cs=48 :: c :: r∧pfQ c=some p:=by
 unfold prefix? at hp
 split at hp
 ·exact ⟨_,_,rfl,hp⟩
 ·cases hp
theorem fig_tab2:[true,false].all (fun hex=>(List.range 128).all fun k=>!isFig hex k||(!blank k&&(pfQ k).all fun p=>!(baseOf hex==0||baseOf hex==p)))=true:=by decide +kernel
theorem fig2 {hex:Bool} {k:Nat} (h:isFig hex k=true):(!blank k&&(pfQ k).all fun p=>!(baseOf hex==0||baseOf hex==p))=true:=by
 have t:=List.all_eq_true.mp (List.all_eq_true.mp fig_tab2 hex (by cases hex <;> decide)) k (List.mem_range.mpr (fig_lt h))
 rw [h] at t
 exact t
theorem fig_blank {hex:Bool} {k:Nat} (h:isFig hex k=true):blank k=false:=(Bool.not_eq_true' _).mp (andT (fig2 h)).1
theorem drop_blank {hex:Bool} {cs:List Nat} (h:∀ k∈cs,isFig hex k=true):cs.dropWhile blank=cs:=by
 cases cs with
 | nil=>rfl
 | cons k cs=>rw [List.dropWhile_cons,fig_blank (h k (.head _))]; rfl
theorem sign_figs {hex:Bool} {cs:List Nat} (h:∀ k∈cs,isFig hex k=true):sign cs=(false,cs):=by
 unfold sign
 split
 ·exact absurd (fig_lo (h 45 (.head _))) (by decide)
 ·exact absurd (fig_lo (h 43 (.head _))) (by decide)
 ·rfl
set_option tactic.hygienic true in
theorem based_figs {hex:Bool} {cs:List Nat} (h:∀ k∈cs,isFig hex k=true):based (baseOf hex) cs=(baseOf hex,false,cs):=by
 unfold based
 split
 ·rename_i p hp
  obtain ⟨c,r,rfl,hq⟩:=pf_of hp
  have t:=(andT (fig2 (h c (.tail _ (.head _))))).2
  rw [hq] at t
  exact if_neg (Bool.eq_false_iff.mp ((Bool.not_eq_true' _).mp t))
 ·cases hex <;> rfl
theorem read_figs {hex:Bool} {cs:List Nat} (h:∀ k∈cs,isFig hex k=true) (hne:cs≠[]) (hl:cs.length≤640):(int_private% "readNumeral") 0 (baseOf hex) cs=(int_private% "Numeral.value") (numVal hex cs):=by
 refine (readNumeral_eq 0 (baseOf hex) cs).trans ?_
 rw [drop_blank h,sign_figs h]
 simp only [based_figs h]
 have hr:(cs.reverse.dropWhile blank).reverse=cs:=by
  rw [drop_blank (hex:=hex) (fun k hk=>h k (List.mem_reverse.mp hk)),List.reverse_reverse]
 rw [hr,digs_figs h hne]
 unfold judge
 have e1:¬ (![2,4,8,16,32].contains (baseOf hex)&&(0:Nat) != 0&&decide ((cs.map figVal).toArray.size > 0))=true:=by simp
 have e2:¬ ((baseOf hex)==10&&decide ((cs.map figVal).toArray.size > 6000))=true:=by
  rw [decide_eq_false (by simp; exact (Nat.le_of_not_lt fun hn=>Lake.n2 [_] 1 (.a (.n 6000) (.n 1)) (.v 0) 1 (.v 0) (.n 640) rfl hn hl)),Bool.and_false]; exact Bool.false_ne_true
 dsimp only
 rw [if_neg e1,if_neg e2]
 have e3:(cs.map figVal).toArray.foldl (fun acc d=>acc * baseOf hex+d) 0=numVal hex cs:=by
  unfold numVal
  simp [List.foldl_map]
 rw [e3]
 rfl
theorem wp_textB {M:Model} {A:Around} {E:Value→Shared→Prop} {s:Shared} {Q:Value→Shared→Prop} {v:Value} {text:List Nat} {n:Int} {base:Nat}
  (hs:(text.takeWhile (· != 0)).length≤640) (hr:(int_private% "readNumeral") 0 base (text.takeWhile (· != 0))=(int_private% "Numeral.value") n)
  (ha:((text.takeWhile (· != 0)).length==text.length)=true) (h:Q (.int n s.toks) { s with toks:=s.toks+1 }) :
  wpAny M A ((int_private% "intFromText") v text base) Q E s:=by
 obtain ⟨hp,g,d,tk,os⟩:=s
 repeat (any_goals (first
  | assumption
  | (with_reducible refine wpAny_ite_true (decide_eq_true hs) ?_)
  | (with_reducible refine wpAny_ite_true (decide_eq_true ha) ?_)
  | wp_step))
 all_goals (try rw [hr])
 all_goals (try dsimp only)
 repeat (any_goals (first
  | assumption
  | (with_reducible refine wpAny_ite_true (decide_eq_true hs) ?_)
  | (with_reducible refine wpAny_ite_true (decide_eq_true ha) ?_)
  | wp_step))
structure HidB (p:Prop):Prop where
 out:p
theorem takeWhile_figs {hex:Bool} {cs:List Nat} (h:∀ k∈cs,isFig hex k=true):cs.takeWhile (· != 0)=cs:=by
 induction cs with
 | nil=>rfl
 | cons k cs ih =>
  rw [List.takeWhile_cons_of_pos (p:=(· != 0)) (bne_iff_ne.mpr (Nat.ne_of_gt (Nat.lt_of_lt_of_le (by decide) (fig_lo (h k (.head _)))))),ih fun d hd=>h d (.tail _ hd)]
set_option maxHeartbeats 4000000 in
theorem gives_int_figs {hex:Bool} {x:Str} {u v:Tok} (hf:∀ k∈x.cps.toList,isFig hex k=true) (hne:x.cps.toList≠[]) (hl:x.length≤640):Gives (Builtin.«int.__new__» ⟨[.type "int",.str x u,.int (baseOf hex:Nat) v],[]⟩) (.int (numVal hex x.cps.toList)) :=
 .of_wp fun M A E s Q h=>by
  obtain ⟨hp,g,d,tk,os⟩:=s
  have f1:=F.conv_sub_int
  have f2:=F.madeHere_int
  have f6:typeOf (.str x u)=pure (.type "str"):=rfl
  have hasc:x.cps.all (· < 128)=true:=by
   rw [← Array.all_toList]
   rw [List.all_eq_true]
   intro k hk
   exact decide_eq_true (fig_lt (hf k hk))
  have ht:numTextOf x=x.cps.toList:=if_pos hasc
  have hseen:numSeenOf x=x.cps.toList:=by unfold numSeenOf; rw [ht]; exact takeWhile_figs hf
  have hs:(numSeenOf x).length≤640:=by rw [hseen]; simpa [Str.length] using hl
  have hr:(int_private% "readNumeral") 0 (baseOf hex) (numSeenOf x)=(int_private% "Numeral.value") (numVal hex x.cps.toList)∧((numSeenOf x).length==(numTextOf x).length)=true:=by
   refine ⟨?_,by rw [hseen,ht]; simp⟩
   rw [hseen]
   exact read_figs hf hne (by simpa [Str.length] using hl)
  have hk:=HidB.mk (And.intro hs hr)
  clear hs hr hl hf hne hasc ht hseen
  cases hex <;> simp only [baseOf,if_true,Bool.false_eq_true,if_false] at hk ⊢ <;>
  ·repeat (any_goals (first
    | assumption
    | ((with_reducible show wpAny _ _ ((int_private% "intFromText") _ _ _) _ _ _); refine wp_textB hk.out.1 hk.out.2.1 hk.out.2.2 ?_)
    | wp_step))
   all_goals first | exact ⟨_,rfl,h⟩ | skip
theorem typeCall_int_2 (a b:Value):checkTypeCall "int" ⟨[a,b],[]⟩=pure ():=by kernel_rfl
theorem args_object_init_3 (obj a b:Value):argsOk "object.__init__" ⟨[obj,a,b],[]⟩:=by unfold argsOk; kernel_rfl
theorem newCall_int_2 (a b:Value):checkBuiltinCall "int.__new__" ⟨[.type "int",a,b],[]⟩=pure ():=by kernel_rfl
theorem call_int_figs {prog:Program} {w:World} {A:Around} {E:Value→Shared→Prop} {s:Shared} {Q:Value→Shared→Prop} {hex:Bool} {x:Str} {u v:Tok} (hf:∀ k∈x.cps.toList,isFig hex k=true) (hne:x.cps.toList≠[]) (hl:x.length≤640) (h:Q (.int (numVal hex x.cps.toList) s.toks) { s with toks:=s.toks+1 }) :
  wpAny (model prog w) A (call (.type "int") [.str x u,.int (baseOf hex:Nat) v]) Q E s :=
 callType_new F.called_int F.newNe_int (typeCall_int_2 _ _) (newCall_int_2 _ _) (fun obj=>args_object_init_3 obj _ _) F.entry_int_new (gives_int_figs hf hne hl).meets (show (Made.int _).post _ s from ⟨rfl,h⟩)
section
variable {c:Cx} {n:Nat} {env:Env} {X:St→Prop} {σ:St} {Q:V→St→Prop}
theorem cv_int {hex:Bool} {x:Str} {b:Int} (hb:b=(baseOf hex:Nat)) (hf:∀ k∈x.cps.toList,isFig hex k=true) (hne:x.cps.toList≠[]) (hl:x.length≤640) (h:Q (.int (numVal hex x.cps.toList)) σ):CV c n env (.st (.type "int")) [.str x,.int b] Q X σ:=fun A ω rvs hR hS hr=>by
 subst hb
 obtain ⟨r0,r1,r2,rfl,q0,q1,q2⟩:=hr.three
 (first | obtain rfl:=q0.inv | obtain ⟨_,rfl⟩:=q0.inv | cases q0); (first | obtain rfl:=q1.inv | obtain ⟨_,rfl⟩:=q1.inv | cases q1); (first | obtain rfl:=q2.inv | obtain ⟨_,rfl⟩:=q2.inv | cases q2)
 exact call_int_figs hf hne hl (doneT hS .int h)
end
end HL.Lake
end
noncomputable section
namespace HL.Lake
open PySem PySem.W PySem.Calls PyProof.Rows
open PySem.Builtin PySem.Builtin.Str
theorem subAt_one (x:Str) (k i:Nat):subAt x ⟨#[k]⟩ i=true ↔ x.cps.toList[i]?=some k:=by
 unfold subAt
 rw [beq_iff_eq]
 have e:(x.cps.extract i (i+(⟨#[k]⟩:Str).length)).toList=(x.cps.toList.drop i).take 1:=by
  rw [Array.toList_extract]
  simp [List.extract_eq_take_drop,Str.length]
 constructor
 ·intro h
  rw [h] at e
  have e2:[k]=(x.cps.toList.drop i).take 1:=e
  have:=congrArg List.head? e2
  cases hd:x.cps.toList.drop i with
  | nil=>rw [hd] at this; cases this
  | cons a r =>
   rw [hd] at this
   cases this
   have:=congrArg List.head? hd
   rw [List.head?_drop] at this
   exact this
 ·intro h
  apply Array.ext'
  rw [e]
  have hlt:=(List.getElem?_eq_some_iff.mp h).1
  rw [List.drop_eq_getElem_cons hlt]
  obtain ⟨_,h2⟩:=List.getElem?_eq_some_iff.mp h
  rw [h2]; rfl
noncomputable def cntIn (k:Nat) (l:List Nat):Nat:=(l.filter (·==k)).length
theorem cnt_hit {k:Nat} {l:List Nat}:cntIn k (k :: l)=cntIn k l+1:=by unfold cntIn; rw [List.filter_cons_of_pos (p:=(·==k)) (beq_self_eq_true k)]; rfl
theorem take_cons {l:List Nat} {i hi:Nat} (h:i < hi) (h2:i < l.length):(l.take hi).drop i=l[i] :: (l.take hi).drop (i+1):=by
 rw [List.drop_eq_getElem_cons (by rw [List.length_take]; exact Nat.lt_min.mpr ⟨h,h2⟩),List.getElem_take]
theorem take_end {l:List Nat} {i hi:Nat} (h:hi≤i):(l.take hi).drop i=[]:=List.drop_eq_nil_of_le (by rw [List.length_take]; exact Nat.le_trans (Nat.min_le_left _ _) h)
theorem occ_one_run (x:Str) (k hi limit:Nat) (hhi:hi≤x.length) (m:Nat):∀ (i:Nat) (st:Array Nat×Nat),st.2≤i→st.1.size+m≤limit→i+m=hi+1→(forIn (m:=Id) (List.range' i m) st (StrLaws.occBody x ⟨#[k]⟩ hi limit)).run.fst.size=st.1.size+cntIn k ((x.cps.toList.take hi).drop i):=by
 induction m with
 | zero =>
  intro i st _ _ h
  rw [take_end (i:=i) (Nat.le_of_succ_le (Nat.le_of_eq h.symm))]; rfl
 | succ m ih =>
  intro i st hf hl h
  rw [List.range'_succ,List.forIn_cons]
  unfold StrLaws.occBody
  have hlen:x.cps.toList.length=x.length:=Array.length_toList
  have h':i+1+m=hi+1:=(Nat.succ_add_eq_add_succ i m).trans h
  have hl':st.1.size+1+m≤limit:=Nat.le_trans (Nat.le_of_eq (Nat.succ_add_eq_add_succ _ m)) hl
  by_cases hc:i < hi∧x.cps.toList[i]?=some k
  ·have hc':(((st.fst.size < limit∧st.snd≤i)∧i+(⟨#[k]⟩:Str).length≤hi)∧subAt x ⟨#[k]⟩ i=true):=⟨⟨⟨Nat.lt_of_lt_of_le (Nat.lt_add_of_pos_right (Nat.succ_pos m)) hl,hf⟩,hc.1⟩,(subAt_one x k i).mpr hc.2⟩
   rw [if_pos hc']
   obtain ⟨q1,q2⟩:=List.getElem?_eq_some_iff.mp hc.2
   rw [take_cons hc.1 q1,q2,cnt_hit]
   refine (ih (i+1) _ (Nat.le_refl _) (by rw [Array.size_push]; exact hl') h').trans ?_
   rw [Array.size_push,Nat.add_assoc,Nat.add_comm 1]
  ·have hc':¬ (((st.fst.size < limit∧st.snd≤i)∧i+(⟨#[k]⟩:Str).length≤hi)∧subAt x ⟨#[k]⟩ i=true):=fun q=>hc ⟨q.1.2,(subAt_one x k i).mp q.2⟩
   rw [if_neg hc']
   refine (ih (i+1) _ (Nat.le_succ_of_le hf) (Nat.le_trans (Nat.add_le_add_right (Nat.le_succ _) m) hl') h').trans (congrArg _ ?_)
   by_cases hi':i < hi
   ·have q1:i < x.cps.toList.length:=Nat.lt_of_lt_of_le hi' (hlen▸hhi)
    rw [take_cons hi' q1]
    unfold cntIn
    rw [List.filter_cons_of_neg (p:=(·==k)) (by rw [beq_iff_eq]; exact fun q=>hc ⟨hi',by rw [List.getElem?_eq_getElem q1,q]⟩)]
   ·rw [take_end (Nat.le_of_not_lt hi'),take_end (Nat.le_succ_of_le (Nat.le_of_not_lt hi'))]
theorem occ_one (x:Str) (k hi:Nat) (hhi:hi≤x.length):(occurrences x ⟨#[k]⟩ 0 hi (x.length+1)).length=cntIn k (x.cps.toList.take hi):=by
 rw [StrLaws.occ_eq]
 have:=occ_one_run x k hi (x.length+1) hhi (hi+1) 0 (#[],0) (Nat.le_refl _) (by simp; exact (Nat.le_of_not_lt fun hn=>Lake.n2 [_,_] 1 (.a (.v 1) (.n 1)) (.v 0) 1 (.v 0) (.v 1) rfl hn hhi)) (by exact (Nat.le_antisymm (Nat.le_of_not_lt fun hn=>Lake.n1 [_] (.a (.a (.v 0) (.n 1)) (.n 1)) (.a (.n 0) (.a (.v 0) (.n 1))) rfl hn) (Nat.le_of_not_lt fun hn=>Lake.n1 [_] (.a (.a (.n 0) (.a (.v 0) (.n 1))) (.n 1)) (.a (.v 0) (.n 1)) rfl hn)))
 simp only [Nat.sub_zero,Array.length_toList]
 rw [this]
 simp
noncomputable def lastIn (k:Nat):List Nat→Option Nat
 | []=>none
 | a :: l=>match lastIn k l with
  | some i=>some (i+1)
  | none=>if a=k then some 0 else none
noncomputable def LastSpec (k:Nat) (l:List Nat) (o:Option Nat):Prop:=match o with | none=>∀ i:Nat,l[i]?≠some k | some i=>l[i]?=some k∧∀ j:Nat,i < j→l[j]?≠some k
theorem lastIn_spec (k:Nat) (l:List Nat):LastSpec k l (lastIn k l):=by
 induction l with
 | nil=>exact fun i h=>nomatch h
 | cons a l ih =>
  show LastSpec k (a :: l) (match lastIn k l with | some i=>some (i+1) | none=>if a=k then some 0 else none)
  revert ih
  cases lastIn k l with
  | some i =>
   intro ih
   refine ⟨ih.1,fun j hj=>?_⟩
   cases j with
   | zero=>exact absurd hj (Nat.not_lt_zero _)
   | succ j=>exact ih.2 j (Nat.lt_of_succ_lt_succ hj)
  | none =>
   intro ih
   show LastSpec k (a :: l) (if a=k then some 0 else none)
   by_cases e:a=k
   ·rw [if_pos e]
    refine ⟨congrArg some e,fun j hj=>?_⟩
    cases j with
    | zero=>exact absurd hj (Nat.not_lt_zero _)
    | succ j=>exact ih j
   ·rw [if_neg e]
    intro i
    cases i with
    | zero=>exact fun h=>e (Option.some.inj h)
    | succ i=>exact ih i
theorem last_one (x:Str) (k hi:Nat) (hhi:hi≤x.length):lastOccurrence x ⟨#[k]⟩ 0 hi=lastIn k (x.cps.toList.take hi):=by
 have hAt:∀ i,StrLaws.At x ⟨#[k]⟩ hi i ↔ (x.cps.toList.take hi)[i]?=some k:=fun i=>by
  rw [List.getElem?_take]
  constructor
  ·intro h
   have h1:i+1≤hi:=h.1
   rw [if_pos (by exact (Nat.lt_of_not_le fun hn=>Lake.n2 [_,_] 1 (.v 0) (.v 1) 1 (.a (.v 1) (.n 1)) (.v 0) rfl hn h1))]; exact (subAt_one x k i).mp h.2
  ·intro h
   split at h
   ·exact ⟨by show i+1≤hi; exact (Nat.le_of_not_lt fun hn=>Lake.n2 [_,_] 1 (.a (.v 0) (.n 1)) (.a (.v 1) (.n 1)) 1 (.a (.v 1) (.n 1)) (.v 0) rfl hn ‹i < hi›),(subAt_one x k i).mpr h⟩
   ·cases h
 have h1:=StrLaws.last_run x ⟨#[k]⟩ hi (List.range' 0 (hi+1 - 0)) [] none (by intro i hi; cases hi) (by intro i hi; cases hi) List.pairwise_lt_range'
 rw [← StrLaws.last_eq,List.nil_append] at h1
 have h2:=lastIn_spec k (x.cps.toList.take hi)
 have hin:∀ i,(x.cps.toList.take hi)[i]?=some k→i∈List.range' 0 (hi+1 - 0):=fun i h=>by
  have:=(List.getElem?_eq_some_iff.mp h).1
  rw [List.length_take] at this
  simp; exact (Nat.lt_of_not_le fun hn=>Lake.n3 [_,_,_] 1 (.a (.v 0) (.n 1)) (.v 1) 1 (.a (.v 1) (.n 1)) (.v 2) 1 (.v 2) (.v 0) rfl hn this (Nat.min_le_left _ _))
 cases e1:lastOccurrence x ⟨#[k]⟩ 0 hi with
 | none =>
  rw [e1] at h1
  cases e2:lastIn k (x.cps.toList.take hi) with
  | none=>rfl
  | some i=>rw [e2] at h2; exact absurd ((hAt i).mpr h2.1) (h1 i (hin i h2.1))
 | some a =>
  rw [e1] at h1
  have ha:=(hAt a).mp h1.1
  cases e2:lastIn k (x.cps.toList.take hi) with
  | none=>rw [e2] at h2; exact absurd ha (h2 a)
  | some i =>
   rw [e2] at h2
   rcases Nat.lt_trichotomy a i with h | h | h
   ·exact absurd ((hAt i).mpr h2.1) (h1.2 i (hin i h2.1) h)
   ·rw [h]
   ·exact absurd ha (h2.2 a h)
end HL.Lake
end
noncomputable section
namespace HL.Lake
open PySem PySem.W PySem.Calls PyProof.Rows
open PySem.Builtin PySem.Builtin.Str
theorem gives_count4 (x y:Str) (off:Nat) (t u v w:Tok) (ho:off≤x.length):Gives («str.count» ⟨[.str x t,.str y u,.int 0 v,.int off w],[]⟩) (.int (occurrences x y 0 off (x.length+1)).length):=by
 show Gives (retInt (occurrences x y (max 0 (if (0:Int) < 0 then (0:Int)+x.length else 0)).toNat (min (max 0 (if (off:Int) < 0 then (off:Int)+x.length else off)).toNat x.length) (x.length+1)).length) _
 have e1:(max 0 (if (0:Int) < 0 then (0:Int)+x.length else 0)).toNat=0:=by simp
 have e2:min (max 0 (if (off:Int) < 0 then (off:Int)+x.length else off)).toNat x.length=off:=by
  rw [if_neg (Int.not_lt.mpr (Int.natCast_nonneg off)),Int.max_eq_right (Int.natCast_nonneg off)]; exact Nat.min_eq_left ho
 rw [e1,e2]
 exact .of_eq rfl
theorem gives_rfind4 (x y:Str) (off:Nat) (t u v w:Tok) (ho:off≤x.length):Gives («str.rfind» ⟨[.str x t,.str y u,.int 0 v,.int off w],[]⟩) (.int (match lastOccurrence x y 0 off with | some i=>(i:Int) | none=>-1)):=by
 show Gives (match lastOccurrence x y (max 0 (if (0:Int) < 0 then (0:Int)+x.length else 0)).toNat (min (max 0 (if (off:Int) < 0 then (off:Int)+x.length else off)).toNat x.length) with | some i=>retInt i | none=>(do rule "str.rfind.not-found"; retInt (-1))) _
 have e1:(max 0 (if (0:Int) < 0 then (0:Int)+x.length else 0)).toNat=0:=by simp
 have e2:min (max 0 (if (off:Int) < 0 then (off:Int)+x.length else off)).toNat x.length=off:=by
  rw [if_neg (Int.not_lt.mpr (Int.natCast_nonneg off)),Int.max_eq_right (Int.natCast_nonneg off)]; exact Nat.min_eq_left ho
 rw [e1,e2]
 cases lastOccurrence x y 0 off with
 | none=>exact .rule (.of_eq rfl)
 | some i=>exact .of_eq rfl
theorem gives_replace_none (x y z:Str) (t u v:Tok) (h:occurrences x y 0 x.length (x.length+1)=[]):Gives («str.replace» ⟨[.str x t,.str y u,.str z v],[]⟩) (.val (.str x t)):=by
 show Gives (if (occurrences x y 0 x.length (x.length+1)).isEmpty||(y.length==0&&z.length==0) then (do rule "str.replace.nothing"; ret (← strUnchanged (.str x t) x)) else _) _
 rw [h]
 exact .rule (.of_eq rfl)
section
variable {c:Cx} {n:Nat} {env:Env} {X:St→Prop} {σ:St} {pos:Pos} {ω:Wd} {sc:Scope} {Q:V→St→Prop}
section
variable {x:Str} {Q:V→List V→St→Prop}
theorem gm_join (h:Q (.st (.builtin "str.join")) [.str x] σ):GM c n env "join" (.str x) Q X σ:=fun pl=>wo1 fun z9 z9 z9 z9 hS r1=>by
 (first | obtain rfl:=r1.inv | obtain ⟨_,rfl⟩:=r1.inv | cases r1); exact GM.join (done (b:=(V.st (.builtin "str.join"),[V.str x])) hS ⟨.st,.cons .str .nil⟩ h)
theorem gm_count (h:Q (.st (.builtin "str.count")) [.str x] σ):GM c n env "count" (.str x) Q X σ:=fun pl=>wo1 fun z9 z9 z9 z9 hS r1=>by
 (first | obtain rfl:=r1.inv | obtain ⟨_,rfl⟩:=r1.inv | cases r1); exact GM.count (done (b:=(V.st (.builtin "str.count"),[V.str x])) hS ⟨.st,.cons .str .nil⟩ h)
theorem gm_rfind (h:Q (.st (.builtin "str.rfind")) [.str x] σ):GM c n env "rfind" (.str x) Q X σ:=fun pl=>wo1 fun z9 z9 z9 z9 hS r1=>by
 (first | obtain rfl:=r1.inv | obtain ⟨_,rfl⟩:=r1.inv | cases r1); exact GM.rfind (done (b:=(V.st (.builtin "str.rfind"),[V.str x])) hS ⟨.st,.cons .str .nil⟩ h)
theorem gm_replace (h:Q (.st (.builtin "str.replace")) [.str x] σ):GM c n env "replace" (.str x) Q X σ:=fun pl=>wo1 fun z9 z9 z9 z9 hS r1=>by
 (first | obtain rfl:=r1.inv | obtain ⟨_,rfl⟩:=r1.inv | cases r1); exact GM.replace (done (b:=(V.st (.builtin "str.replace"),[V.str x])) hS ⟨.st,.cons .str .nil⟩ h)
theorem gm_startswith (h:Q (.st (.builtin "str.startswith")) [.str x] σ):GM c n env "startswith" (.str x) Q X σ:=fun pl=>wo1 fun z9 z9 z9 z9 hS r1=>by
 (first | obtain rfl:=r1.inv | obtain ⟨_,rfl⟩:=r1.inv | cases r1); exact GM.startswith (done (b:=(V.st (.builtin "str.startswith"),[V.str x])) hS ⟨.st,.cons .str .nil⟩ h)
end
theorem RelL.strs {P:Params} {g:PHeap} {a b:List Addr} {ys:List Str} {xs:List Value} (h:RelL P g a b (ys.map V.str) xs):StrsAre xs ys:=by
 induction ys generalizing xs with
 | nil=>cases h; exact .nil
 | cons y ys ih =>
  obtain ⟨x,t,rfl,r,rs⟩:=RelL.un (v:=.str y) (l:=ys.map V.str) h
  obtain ⟨_,rfl⟩:=r.inv
  exact .cons _ _ (ih rs)
theorem cv_join {sep:Str} {v:V} {ys:List Str} (k:IsLV σ v (ys.map V.str)) (hs:sep.length≤16) (hw:(ys.map (·.length)).sum+ys.length≤1048576) (h:Q (.str (Txt.join sep ys)) σ):CV c n env (.st (.builtin "str.join")) [.str sep,v] Q X σ:=fun A ω rvs hR hS hr=>by
 obtain ⟨r0,r1,r2,rfl,q0,q1,q2⟩:=hr.three
 (first | obtain rfl:=q0.inv | obtain ⟨_,rfl⟩:=q0.inv | cases q0); (first | obtain rfl:=q1.inv | obtain ⟨_,rfl⟩:=q1.inv | cases q1)
 obtain ⟨a,xs,nn,rfl,e,rs⟩:=k.at hS q2
 exact join_listW (items:=List.toArray xs) (isLV e) rs.strs hs hw fun t' k=>doneT hS .str h
theorem hr4 {P:Params} {g:PHeap} {a b:List Addr} {v w z y:V} {rvs:List Value} (h:RelL P g a b [v,w,z,y] rvs):∃ rv rw rz ry,rvs=[rv,rw,rz,ry]∧Rel P g a b v rv∧Rel P g a b w rw∧Rel P g a b z rz∧Rel P g a b y ry:=by
 cases h with | cons r t=>obtain ⟨rw,rz,ry,rfl,r',r''⟩:=t.three; exact ⟨_,rw,rz,ry,rfl,r,r',r''⟩
theorem hr5 {P:Params} {g:PHeap} {a b:List Addr} {v w z y u:V} {rvs:List Value} (h:RelL P g a b [v,w,z,y,u] rvs):∃ rv rw rz ry ru,rvs=[rv,rw,rz,ry,ru]∧Rel P g a b v rv∧Rel P g a b w rw∧Rel P g a b z rz∧Rel P g a b y ry∧Rel P g a b u ru:=by
 cases h with | cons r t=>obtain ⟨rw,rz,ry,ru,rfl,r',r''⟩:=hr4 t; exact ⟨_,rw,rz,ry,ru,rfl,r,r',r''⟩
theorem cv_count4 {x:Str} {k:Nat} {off:Int} (h0:0≤off) (ho:off≤x.length) (h:Q (.int (cntIn k (x.cps.toList.take off.toNat))) σ):CV c n env (.st (.builtin "str.count")) [.str x,.str ⟨#[k]⟩,.int 0,.int off] Q X σ:=fun A ω rvs hR hS hr=>by
 obtain ⟨r0,r1,r2,r3,r4,rfl,q0,q1,q2,q3,q4⟩:=hr5 hr
 (first | obtain rfl:=q0.inv | obtain ⟨_,rfl⟩:=q0.inv | cases q0); (first | obtain rfl:=q1.inv | obtain ⟨_,rfl⟩:=q1.inv | cases q1); (first | obtain rfl:=q2.inv | obtain ⟨_,rfl⟩:=q2.inv | cases q2); (first | obtain rfl:=q3.inv | obtain ⟨_,rfl⟩:=q3.inv | cases q3); (first | obtain rfl:=q4.inv | obtain ⟨_,rfl⟩:=q4.inv | cases q4)
 obtain ⟨m,rfl⟩:=Int.eq_ofNat_of_zero_le h0
 refine call_gives F.slot_str_count (typeIs_str _ _ _) F.entry_str_count (F.args_str_count_4 _ _ _ _) (gives_count4 x ⟨#[k]⟩ m _ _ _ _ (by exact (Nat.le_of_not_lt fun hn=>Lake.n2 [_,_] 1 (.a (.v 1) (.n 1)) (.v 0) 1 (.v 0) (.v 1) rfl hn ((Int.ofNat_le (m:=m) (n:=x.length)).mp ho)))) ?_
 rw [occ_one x k m (by exact (Nat.le_of_not_lt fun hn=>Lake.n2 [_,_] 1 (.a (.v 1) (.n 1)) (.v 0) 1 (.v 0) (.v 1) rfl hn ((Int.ofNat_le (m:=m) (n:=x.length)).mp ho)))]
 exact doneT hS .int h
theorem cv_rfind4 {x:Str} {k:Nat} {off:Int} (h0:0≤off) (ho:off≤x.length) (h:Q (.int (match lastIn k (x.cps.toList.take off.toNat) with | some i=>(i:Int) | none=>-1)) σ):CV c n env (.st (.builtin "str.rfind")) [.str x,.str ⟨#[k]⟩,.int 0,.int off] Q X σ:=fun A ω rvs hR hS hr=>by
 obtain ⟨r0,r1,r2,r3,r4,rfl,q0,q1,q2,q3,q4⟩:=hr5 hr
 (first | obtain rfl:=q0.inv | obtain ⟨_,rfl⟩:=q0.inv | cases q0); (first | obtain rfl:=q1.inv | obtain ⟨_,rfl⟩:=q1.inv | cases q1); (first | obtain rfl:=q2.inv | obtain ⟨_,rfl⟩:=q2.inv | cases q2); (first | obtain rfl:=q3.inv | obtain ⟨_,rfl⟩:=q3.inv | cases q3); (first | obtain rfl:=q4.inv | obtain ⟨_,rfl⟩:=q4.inv | cases q4)
 obtain ⟨m,rfl⟩:=Int.eq_ofNat_of_zero_le h0
 refine call_gives F.slot_str_rfind (typeIs_str _ _ _) F.entry_str_rfind (F.args_str_rfind_4 _ _ _ _) (gives_rfind4 x ⟨#[k]⟩ m _ _ _ _ (by exact (Nat.le_of_not_lt fun hn=>Lake.n2 [_,_] 1 (.a (.v 1) (.n 1)) (.v 0) 1 (.v 0) (.v 1) rfl hn ((Int.ofNat_le (m:=m) (n:=x.length)).mp ho)))) ?_
 rw [last_one x k m (by exact (Nat.le_of_not_lt fun hn=>Lake.n2 [_,_] 1 (.a (.v 1) (.n 1)) (.v 0) 1 (.v 0) (.v 1) rfl hn ((Int.ofNat_le (m:=m) (n:=x.length)).mp ho)))]
 exact doneT hS .int h
theorem cv_replace_none {x y z:Str} (hn:occurrences x y 0 x.length (x.length+1)=[]) (h:Q (.str x) σ):CV c n env (.st (.builtin "str.replace")) [.str x,.str y,.str z] Q X σ:=fun A ω rvs hR hS hr=>by
 obtain ⟨r0,r1,r2,r3,rfl,q0,q1,q2,q3⟩:=hr4 hr
 (first | obtain rfl:=q0.inv | obtain ⟨_,rfl⟩:=q0.inv | cases q0); (first | obtain rfl:=q1.inv | obtain ⟨_,rfl⟩:=q1.inv | cases q1); (first | obtain rfl:=q2.inv | obtain ⟨_,rfl⟩:=q2.inv | cases q2); (first | obtain rfl:=q3.inv | obtain ⟨_,rfl⟩:=q3.inv | cases q3)
 exact call_gives F.slot_str_replace (typeIs_str _ _ _) F.entry_str_replace (F.args_str_replace_3 _ _ _) (gives_replace_none x y z _ _ _ hn) (done hS .str h)
theorem cv_startswith {x y:Str} (h:Q (.bool (Txt.startswith x y)) σ):CV c n env (.st (.builtin "str.startswith")) [.str x,.str y] Q X σ:=fun A ω rvs hR hS hr=>by
 obtain ⟨r0,r1,r2,rfl,q0,q1,q2⟩:=hr.three
 (first | obtain rfl:=q0.inv | obtain ⟨_,rfl⟩:=q0.inv | cases q0); (first | obtain rfl:=q1.inv | obtain ⟨_,rfl⟩:=q1.inv | cases q1); (first | obtain rfl:=q2.inv | obtain ⟨_,rfl⟩:=q2.inv | cases q2)
 exact SC.startswith (done hS .bool h)
theorem cv_ord {k:Nat} (h:Q (.int k) σ):CV c n env (.st (.builtin "ord")) [.str ⟨#[k]⟩] Q X σ:=wo2 fun z9 z9 z9 z9 z9 hS r0 r1=>by
 (first | obtain rfl:=r0.inv | obtain ⟨_,rfl⟩:=r0.inv | cases r0); (first | obtain rfl:=r1.inv | obtain ⟨_,rfl⟩:=r1.inv | cases r1); exact P.ord_of_char (doneT hS .int h)
theorem cv_chr {i:Int} (hi:(decide (i < 0)||decide (i > 1114111))=false) (h:Q (.str ⟨#[i.toNat]⟩) σ):CV c n env (.st (.builtin "chr")) [.int i] Q X σ:=wo2 fun z9 z9 z9 z9 z9 hS r0 r1=>by
 (first | obtain rfl:=r0.inv | obtain ⟨_,rfl⟩:=r0.inv | cases r0); (first | obtain rfl:=r1.inv | obtain ⟨_,rfl⟩:=r1.inv | cases r1); exact P.chr_of_int hi (doneT hS .str h)
theorem cv_max {a b:Int} (h:Q (.int (if b > a then b else a)) σ):CV c n env (.st (.builtin "max")) [.int a,.int b] Q X σ:=fun A ω rvs hR hS hr=>by
 obtain ⟨r0,r1,r2,rfl,q0,q1,q2⟩:=hr.three
 (first | obtain rfl:=q0.inv | obtain ⟨_,rfl⟩:=q0.inv | cases q0); (first | obtain rfl:=q1.inv | obtain ⟨_,rfl⟩:=q1.inv | cases q1); (first | obtain rfl:=q2.inv | obtain ⟨_,rfl⟩:=q2.inv | cases q2)
 refine max_two_ints hR.room.handled fun h' tk hk=>?_
 obtain ⟨S',l'⟩:=hS.ext hk tk
 refine ⟨_,_,_,l',rfl,S',?_,h⟩
 split <;> exact .int
theorem cv_isb_int {i:Int} (h:Q (.bool false) σ):CV c n env (.st (.builtin "isinstance")) [.int i,.st (.type "bool")] Q X σ:=fun A ω rvs hR hS hr=>by
 obtain ⟨r0,r1,r2,rfl,q0,q1,q2⟩:=hr.three
 (first | obtain rfl:=q0.inv | obtain ⟨_,rfl⟩:=q0.inv | cases q0); (first | obtain rfl:=q1.inv | obtain ⟨_,rfl⟩:=q1.inv | cases q1); (first | obtain rfl:=q2.inv | obtain ⟨_,rfl⟩:=q2.inv | cases q2)
 exact IsiPair.int_bool (doneT hS .bool h)
theorem cv_isb_bool {b:Bool} (h:Q (.bool true) σ):CV c n env (.st (.builtin "isinstance")) [.bool b,.st (.type "bool")] Q X σ:=fun A ω rvs hR hS hr=>by
 obtain ⟨r0,r1,r2,rfl,q0,q1,q2⟩:=hr.three
 (first | obtain rfl:=q0.inv | obtain ⟨_,rfl⟩:=q0.inv | cases q0); (first | obtain rfl:=q1.inv | obtain ⟨_,rfl⟩:=q1.inv | cases q1); (first | obtain rfl:=q2.inv | obtain ⟨_,rfl⟩:=q2.inv | cases q2)
 exact IsiPair.bool_bool (done hS .bool h)
theorem wi_range2 {a b:PySem.Expr} {np:Pos} (he:EnvOk env sc) (hk:(sc.names.lookup (Str.ofString "range")==some NameKind.globalImplicit)=true) (hg:nsIn c.K mainGlobals "range"=some none) (hs:noStars [a,b]=true) {Q:List V→St→Prop}
  (h:WE c n env a (fun v σ₁=>WE c n env b (fun w σ₂=>∃ i j:Int,∃ N:Nat,v=.int i∧w=.int j∧Builtin.Range.small i j 1=true∧Builtin.Range.rangeSize i j 1=N∧Q ((List.range N).map fun k=>.int (i+(k:Nat) * 1)) σ₂) X σ₁) X σ):WI c n env (.Call (.Name "range" np) [a,b] [] pos) Q X σ:=fun A ω hR hS=>by
 rw [eval_call rfl]
 refine wpAny_bind (wpAny_mono ((e_builtin (Q:=fun v σ'=>v=.st (.type "range")∧σ'=σ) (X:=X) he hk (by decide) hg (by decide +kernel) (by decide) ⟨rfl,rfl⟩) A ω hR hS) ?_ fun z9 z9 x=>x)
 refine Post.all fun rf v σ₁ ω₁ l₁ S₁ r hz26=>?_
 obtain ⟨rfl,rfl⟩:=hz26
 (first | obtain rfl:=r.inv | obtain ⟨_,rfl⟩:=r.inv | cases r)
 refine callWith_of (P:=fun h=>∃ k,(k=Keeper.frame∨k=Keeper.machine∨k=Keeper.boundFrame)∧Looks (model c.prog c.w) h (keeperOf (.type "range")) k) (by rw [backTo_any hs]; rfl) (fun z9 h=>h) ?_
 refine evalArgs_plainL hs ?_
 have hw:WL c n env pos [a,b] (fun vs σ₂=>∃ i j:Int,∃ N:Nat,vs=[.int i,.int j]∧Builtin.Range.small i j 1=true∧Builtin.Range.rangeSize i j 1=N∧Q ((List.range N).map fun k=>.int (i+(k:Nat) * 1)) σ₂) X σ₁:=by
  simp only [noStars,List.all_cons,List.all_nil,Bool.and_true,Bool.and_eq_true] at hs
  refine wl_cons hs.1 fun A ω hR hS=>wpAny_mono (h A ω hR hS) ?_ fun z9 z9 x=>x
  rintro rv s ⟨v,σ',ω',l,e,S,r,hw⟩
  refine ⟨v,σ',ω',l,e,S,r,?_⟩
  refine wl_cons hs.2 fun A ω hR hS=>wpAny_mono (hw A ω hR hS) ?_ fun z9 z9 x=>x
  intro rv s hz2q
  refine gC fun G hG=>?_
  obtain ⟨w,σ',ω',l,e,S,r,i,j,N,rfl,rfl,h1,h2,h3⟩:=hz2q
  refine hG ?_
  exact ⟨_,σ',ω',l,e,S,r,wl_nil ⟨i,j,N,rfl,h1,h2,h3⟩⟩
 refine wpX l₁ (hw A ω₁ (hR.le l₁) S₁) ?_
 refine Post.all fun rvs vs σ₂ ω₂ l₂ S₂ rs hz27=>?_
 refine gC fun G hG=>?_
 obtain ⟨i,j,N,rfl,h1,h2,h3⟩:=hz27
 obtain ⟨r1,r2,rfl,q1,q2⟩:=rs.two
 refine hG ?_
 (first | obtain rfl:=q1.inv | obtain ⟨_,rfl⟩:=q1.inv | cases q1); (first | obtain rfl:=q2.inv | obtain ⟨_,rfl⟩:=q2.inv | cases q2)
 refine ⟨⟨.machine,.inr (.inl rfl),Looks.now⟩,?_⟩
 refine call_range_2 ?_
 obtain ⟨S₃,l₃⟩:=S₂.push ({ cls:=.type "range",data:=.fields #[.int i _,.int j _,.int 1 ω₂.s.toks] }) rfl (ω₂.s.toks+1)
 exact ⟨_,σ₂,_,(l₁.trans l₂).trans l₃,rfl,S₃,iters_range rfl (Heap.get?_push_size _ rfl) h1 h2,h3⟩
end
end HL.Lake
end
noncomputable section
namespace HL.Lake
open PySem PySem.W PySem.Calls PyProof.Rows
section
variable {c:Cx} {n:Nat} {env:Env} {X:St→Prop} {σ:St} {pos:Pos} {ω:Wd} {sc:Scope} {Q:V→St→Prop}
theorem rel_pairs {P:Params} {g:PHeap} {a b:List Addr} (hP:P=c.w.params)  {l:List (Str×V)} {es:List DictEntry} (h:RelD P g a b l es):∃ kvs,Pairs (strKind c.prog c.w) es kvs∧RelKw P g a b l kvs∧∀ e∈es,∃ k,Value.isStrOf k e.key=true∧e.hash=hashStr c.w k:=by
 refine RelD.ind (M:=fun l es=>∃ kvs,Pairs (strKind c.prog c.w) es kvs∧RelKw P g a b l kvs∧∀ e∈es,∃ k,Value.isStrOf k e.key=true∧e.hash=hashStr c.w k) ⟨[],.nil,rfl,fun z9 h=>(by cases h)⟩ (fun k v t rv l rl hv hr ih=>?_) h
 obtain ⟨kvs,h1,h2,h3⟩:=ih
 refine ⟨(k,rv) :: kvs,.cons (beq_self_eq_true k) rfl h1,.cons ⟨rfl,hv⟩ h2,fun e he=>?_⟩
 rcases List.mem_cons.mp he with rfl | he
 ·exact ⟨k,beq_self_eq_true k,by subst hP; rfl⟩
 ·exact h3 e he
theorem rel_dictOf {P:Params} {g:PHeap} {a b:List Addr} {h:Heap} {d:Addr} {l:List (Str×V)} {es:List DictEntry} {nn:Nat} (hP:P=c.w.params) (e:h.get? d=some (dictOf es nn)) (r:RelD P g a b l es) (nd:(l.map (·.1)).Nodup) :
  ∃ kvs,h.DictOf (strKind c.prog c.w) d kvs∧RelKw P g a b l kvs:=by
 obtain ⟨kvs,h1,h2,h3⟩:=rel_pairs (c:=c) hP r
 refine ⟨kvs,⟨_,es.toArray,nn,e,⟨rfl,rfl,rfl⟩,rfl,fun x hx=>h3 x (by simpa using hx),by simpa using h1,by rw [h2.keys]; exact nd⟩,h2⟩
inductive IsDV (σ:St):V→List (Str×V)→Prop
 | dict {l}:IsDV σ (.dict l) l
 | lo {i l}:σ.T[i]?=some (.dict l)→IsDV σ (.lo i) l
 | ob {i l}:σ.W[i]?=some (.dict l)→IsDV σ (.ob i) l
theorem IsDV.at {L:Addr} {v:V} {l:List (Str×V)} {rv:Value} (k:IsDV σ v l) (S:Sat c L σ ω) (r:RV c ω v rv):∃ x es nn,rv=.ref x∧1 < x∧ω.s.heap.get? x=some (dictOf es nn)∧RelD c.w.params ω.g ω.a ω.b l es∧(l.map (·.1)).Nodup:=by
 cases k with
 | dict=>obtain ⟨_,_,_,rfl,hg,q,rs,nd⟩:=r.inv; exact ⟨_,_,_,rfl,q,S.keep _ _ hg,rs,nd⟩
 | lo h =>
  obtain ⟨_,rfl,hi⟩:=r.inv
  obtain ⟨x,ob,e1,e2,r⟩:=S.tT.2 _ _ h
  rw [hi] at e1; cases e1
  cases r with | dict r nd=>exact ⟨_,_,_,rfl,S.high.2 _ (List.mem_append_left _ (List.mem_of_getElem? hi)),e2,r,nd⟩
 | ob h =>
  obtain ⟨_,rfl,hi⟩:=r.inv
  obtain ⟨x,ob,e1,e2,r⟩:=S.tW.2 _ _ h
  rw [hi] at e1; cases e1
  cases r with | dict r nd=>exact ⟨_,_,_,rfl,S.high.2 _ (List.mem_append_right _ (List.mem_of_getElem? hi)),e2,r.mono ⟨fun z9 z9 h=>h,fun z9 z9 h=>(Lake.nn rfl h),fun z9 z9 h=>h⟩,nd⟩
theorem sysNe {x:Addr} (h:1 < x):(x==sysModules)=false:=beq_eq_false_iff_ne.mpr (Nat.ne_of_gt h)
theorem IsDV.of {L:Addr} {v:V} {l:List (Str×V)} {rv:Value} (k:IsDV σ v l) (S:Sat c L σ ω) (r:RV c ω v rv):∃ x kvs,rv=.ref x∧(x==sysModules)=false∧ω.s.heap.DictOf (strKind c.prog c.w) x kvs∧RelKw c.w.params ω.g ω.a ω.b l kvs∧(l.map (·.1)).Nodup:=by
 refine gC fun G hG=>?_
 obtain ⟨x,es,nn,rfl,hx,e,rd,nd⟩:=k.at S r
 obtain ⟨kvs,h1,h2⟩:=rel_dictOf rfl e rd nd
 refine hG ?_
 exact ⟨x,kvs,rfl,sysNe hx,h1,h2,nd⟩
theorem RelKw.at {P:Params} {g:PHeap} {a b:List Addr} {l:List (Str×V)} {kvs:List (Str×Value)} {x:Str} {v:V} (h:RelKw P g a b l kvs) (nd:(l.map (·.1)).Nodup) (m:(x,v)∈l):∃ rv,valueAt kvs x=some rv∧Rel P g a b v rv:=by
 induction h using RelKw.ind with
 | nil=>cases m
 | @cons k u rv l rl hv hr ih =>
  rcases List.mem_cons.mp m with e | m
  ·cases e
   exact ⟨rv,by simp [valueAt],hv⟩
  ·obtain ⟨rv',e,r⟩:=ih (List.nodup_cons.mp nd).2 m
   have hk:k≠x:=fun e=>(List.nodup_cons.mp nd).1 (List.mem_map.mpr ⟨_,m,e.symm⟩)
   exact ⟨rv',by simpa [valueAt,hk] using e,r⟩
theorem RelKw.no {P:Params} {g:PHeap} {a b:List Addr} {l:List (Str×V)} {kvs:List (Str×Value)} {x:Str} (h:RelKw P g a b l kvs) (m:x ∉ l.map (·.1)):valueAt kvs x=none:=by
 induction h using RelKw.ind with
 | nil=>exact rfl
 | @cons k u rv l rl hv hr ih =>
  have hk:k≠x:=fun e=>m (e▸List.mem_cons_self)
  simpa [valueAt,hk] using ih fun q=>m (List.mem_cons_of_mem _ q)
theorem iv_dict {v u:V} {l:List (Str×V)} {x:Str} (k:IsDV σ v l) (hm:(x,u)∈l) (h:Q u σ):IV c n env v (.str x) Q X σ:=wo2 fun z9 z9 z9 z9 z9 hS r1 r2=>by
 (first | obtain rfl:=r2.inv | obtain ⟨_,rfl⟩:=r2.inv | cases r2)
 refine gC fun G hG=>?_
 obtain ⟨a,kvs,rfl,hs,hd,rk,nd⟩:=k.of hS r1
 obtain ⟨rv,e,r⟩:=rk.at nd hm
 refine hG ?_
 exact wpAny_getItem_of (knd:=strKind c.prog c.w) (by simp [PySem.strKind,Value.isStrOf]) hd.mapOf e (doneT hS r h)
theorem kv_in_dict {v:V} {l:List (Str×V)} {x:Str} (k:IsDV σ v l) (h:Q (.bool (decide (x∈l.map (·.1)))) σ):KV c n env .In (.str x) v Q X σ:=wo2 fun z9 z9 z9 z9 z9 hS r2 r1=>by
 (first | obtain rfl:=r2.inv | obtain ⟨_,rfl⟩:=r2.inv | cases r2)
 obtain ⟨a,kvs,rfl,hs,hd,rk,nd⟩:=k.of hS r1
 refine wpAny_in_of (knd:=strKind c.prog c.w) (k:=x) (by simp [PySem.strKind,Value.isStrOf]) hs hd.mapOf ?_
 have:(valueAt kvs x).isSome=decide (x∈l.map (·.1)):=by
  by_cases hm:x∈l.map (·.1)
  ·refine gC fun G hG=>?_
   obtain ⟨⟨y,u⟩,hp,rfl⟩:=List.mem_map.mp hm
   obtain ⟨rv,e,_⟩:=rk.at nd hp
   refine hG ?_
   rw [e]; simp [hm]
  ·rw [rk.no hm]; simp [hm]
 rw [this]
 exact doneT hS .bool h
theorem tv_dict {v:V} {l:List (Str×V)} {Q:Bool→St→Prop} (k:IsDV σ v l) (hz:l.length≤10000) (h:Q (!l.isEmpty) σ):TV c n env v Q X σ:=wo1 fun z9 z9 z9 z9 hS r1=>by
 refine gC fun G hG=>?_
 obtain ⟨a,kvs,rfl,hs,hd,rk,nd⟩:=k.of hS r1
 refine hG ?_
 have hl:kvs.length=l.length:=by have:=congrArg List.length rk.keys; rwa [List.length_map,List.length_map] at this
 refine wpAny_truthy_dict hs hd (fitT (hl▸hz)) ?_
 have:(!kvs.isEmpty)=!l.isEmpty:=by cases kvs <;> cases l <;> first | rfl | cases hl
 rw [this]
 exact doneT hS rfl h
theorem bv_add_list {v w:V} {l l':List V} (k:IsLV σ v l) (k':IsLV σ w l') (hz:l.length+l'.length≤10000) (h:Q (.list (l++l')) σ):BV c n env .Add v w Q X σ:=wo2 fun z9 z9 z9 z9 z9 hS r1 r2=>by
 obtain ⟨a,xs,nn,rfl,e,rs⟩:=k.at hS r1
 obtain ⟨b,ys,mm,rfl,e',rs'⟩:=k'.at hS r2
 have h1:=relL_len rs
 have h2:=relL_len rs'
 refine P.add_list e e' ?_ (by rw [List.size_toArray,List.size_toArray,sizeLine_eq]; exact (Nat.le_of_not_lt fun hn=>Lake.n4 [_,_,_,_] 1 (.a (.n 16777216) (.n 1)) (.a (.v 2) (.v 3)) 1 (.a (.v 0) (.v 1)) (.n 10000) 1 (.v 2) (.v 0) 1 (.v 3) (.v 1) rfl hn hz (Nat.le_of_eq h1) (Nat.le_of_eq h2)))
 obtain ⟨S',l''⟩:=hS.push ({ cls:=.type "list",data:=.seq (xs.toArray++ys.toArray) }) rfl _
 refine ⟨.list (l++l'),σ,_,l'',rfl,S',.list (xs:=xs++ys) (n:=0) ?_ ((rs.append rs').mono l''.sub),h⟩
 show gAdd _ _ _ _=_
 rw [List.append_toArray] at *
 exact gAdd_self
end
end HL.Lake
end
noncomputable section
namespace HL.Lake
open PySem PySem.W PySem.Calls PyProof.Rows
noncomputable def isFlat:Value→Bool
 | .none | .bool _ | .int .. | .str ..=>true
 | _=>false
noncomputable def isFlatV:V→Bool
 | .none | .bool _ | .int _ | .str _=>true
 | _=>false
noncomputable def rf:Value→Value→Bool
 | .none,.none=>true
 | .bool a,.bool b=>a==b
 | .bool a,.int b _=>(if a then 1 else 0)==b
 | .int a _,.bool b=>a==(if b then 1 else 0)
 | .int a _,.int b _=>a==b
 | .str a _,.str b _=>a==b
 | _,_=>false
noncomputable def vf:V→V→Bool
 | .none,.none=>true
 | .bool a,.bool b=>a==b
 | .bool a,.int b=>(if a then 1 else 0)==b
 | .int a,.bool b=>a==(if b then 1 else 0)
 | .int a,.int b=>a==b
 | .str a,.str b=>a==b
 | _,_=>false
theorem eqAt_flat {A:Around} {s:Shared} {y x:Value} (hy:isFlat y=true) (hx:isFlat x=true):SeqAt.EqAt A s y x (rf y x):=by
 cases y <;> first | (cases hy; done) | skip
 all_goals (cases x <;> first | (cases hx; done) | skip)
 ·exact SeqAt.EqAt.same _
 ·exact SeqAt.EqAt.none_bool _
 ·exact SeqAt.EqAt.none_int _ _
 ·exact SeqAt.EqAt.none_str _ _
 ·exact SeqAt.EqAt.bool_none _
 ·exact SeqAt.EqAt.bool_bool _ _
 ·exact SeqAt.EqAt.bool_int _ _ _
 ·exact SeqAt.EqAt.bool_str _ _ _
 ·exact SeqAt.EqAt.int_none _ _
 ·exact SeqAt.EqAt.int_bool _ _ _
 ·exact SeqAt.EqAt.int_int _ _ _ _
 ·exact SeqAt.EqAt.int_str _ _ _ _
 ·exact SeqAt.EqAt.str_none _ _
 ·exact SeqAt.EqAt.str_bool _ _ _
 ·exact SeqAt.EqAt.str_int _ _ _ _
 ·exact SeqAt.EqAt.str_str _ _ _ _
theorem Rel.flat {P:Params} {g:PHeap} {a b:List Addr} {v:V} {rv:Value} (h:Rel P g a b v rv) (k:isFlatV v=true):isFlat rv=true:=by
 cases h <;> first | rfl | cases k
noncomputable def unV:Value→V
 | .none=>.none
 | .bool b=>.bool b
 | .int i _=>.int i
 | .str x _=>.str x
 | v=>.st v
theorem rf_unV (v w:Value):rf v w=vf (unV v) (unV w):=by
 cases v <;> cases w <;> rfl
theorem Rel.unV {P:Params} {g:PHeap} {a b:List Addr} {v:V} {rv:Value} (h:Rel P g a b v rv) (k:isFlatV v=true):unV rv=v:=by
 have i:=h.inv
 cases v with
 | none=>exact congrArg Lake.unV i
 | bool _=>exact congrArg Lake.unV i
 | int _=>exact i.elim fun z9 i=>congrArg Lake.unV i
 | str _=>exact i.elim fun z9 i=>congrArg Lake.unV i
 | _=>cases k
theorem Rel.rf_eq {P:Params} {g:PHeap} {a b:List Addr} {v w:V} {rv rw:Value} (h:Rel P g a b v rv) (h':Rel P g a b w rw) (k:isFlatV v=true) (k':isFlatV w=true):rf rv rw=vf v w :=
 (rf_unV rv rw).trans (congr (congrArg vf (h.unV k)) (h'.unV k'))
section
variable {c:Cx} {n:Nat} {env:Env} {X:St→Prop} {σ:St} {pos:Pos} {ω:Wd} {sc:Scope} {Q:V→St→Prop}
theorem relL_flat {P:Params} {g:PHeap} {a b:List Addr} {x:V} {rx:Value} (hx:Rel P g a b x rx) (kx:isFlatV x=true)  {l:List V} {xs:List Value} (h:RelL P g a b l xs):l.all isFlatV=true→(∀ y∈xs,isFlat y=true)∧xs.any (fun y=>rf y rx)=l.any fun y=>vf y x:=by
 refine RelL.ind (M:=fun l xs=>l.all isFlatV=true→(∀ y∈xs,isFlat y=true)∧xs.any (fun y=>rf y rx)=l.any fun y=>vf y x) (fun z9=>⟨fun z9 h=>(by cases h),rfl⟩) (fun v rv l rl r z9 ih h=>?_) h
 have h':=(Bool.and_eq_true _ _).mp h
 have q:=ih h'.2
 refine ⟨fun y hy=>?_,by rw [List.any_cons,List.any_cons,q.2,r.rf_eq hx h'.1 kx]⟩
 rcases List.mem_cons.mp hy with rfl | hy
 ·exact r.flat h'.1
 ·exact q.1 y hy
theorem kv_in_tup {x:V} {l:List V} (hl:l.all isFlatV=true) (hx:isFlatV x=true) (h:Q (.bool (l.any fun y=>vf y x)) σ):KV c n env .In x (.tup l) Q X σ:=wo2 fun z9 z9 z9 z9 z9 hS r1 r2=>by
 obtain ⟨_,_,_,rfl,hg,rs⟩:=r2.inv
 obtain ⟨q1,q2⟩:=relL_flat r1 hx rs hl
 refine SeqAt.in_tupleAt (items:=List.toArray _) (fun y=>rf y _) ⟨_,hS.keep _ _ hg,rfl,_,rfl⟩ (fun y hy=>eqAt_flat (q1 y (List.mem_toArray.mp hy)) (r1.flat hx)) ?_
 rw [List.any_toArray,q2]
 exact done hS .bool h
theorem kv_notin_tup {x:V} {l:List V} (hl:l.all isFlatV=true) (hx:isFlatV x=true) (h:Q (.bool (!l.any fun y=>vf y x)) σ):KV c n env .NotIn x (.tup l) Q X σ:=wo2 fun z9 z9 z9 z9 z9 hS r1 r2=>by
 obtain ⟨_,_,_,rfl,hg,rs⟩:=r2.inv
 obtain ⟨q1,q2⟩:=relL_flat r1 hx rs hl
 refine SeqAt.notIn_tupleAt (items:=List.toArray _) (fun y=>rf y _) ⟨_,hS.keep _ _ hg,rfl,_,rfl⟩ (fun y hy=>eqAt_flat (q1 y (List.mem_toArray.mp hy)) (r1.flat hx)) ?_
 rw [List.any_toArray,q2]
 exact done hS .bool h
end
end HL.Lake
end
noncomputable section
namespace HL.Lake
open PySem PySem.W PySem.Calls PyProof.Rows
section
variable {c:Cx} {n:Nat} {env:Env} {X:St→Prop} {σ:St} {pos:Pos} {ω:Wd} {sc:Scope} {Q:V→St→Prop}
theorem Sat.moveK {L d:Addr} {o ob:Obj} {ao:AO} {k₀:PHeap} {h':Heap} (S:Sat c L σ ω) (hk:ω.k=gAdd k₀ d o) (h0:k₀ d=none) (hs:Heap.SameBut d ω.s.heap h') (hd:h'.get? d=some ob) (r:RelO c.w.params ω.g [] ω.b ao ob) (h1:1 < d) (t:Nat) :
  Sat c L { σ with W:=σ.W++[ao] } { ω with s:={ ω.s with heap:=h',toks:=t },k:=k₀,b:=ω.b++[d] }∧Sub ω.g ω.g ω.a ω.a ω.b (ω.b++[d])∧(ω.b++[d])[σ.W.length]?=some d:=by
 have kd:ω.k d=some o:=by rw [hk]; exact gAdd_self
 have hne:∀ x,x≠d→ω.k x=k₀ x:=fun x hx=>by rw [hk]; unfold gAdd; rw [if_neg hx]
 have gd:ω.g d=none:=S.dk d o kd
 have hin:∀ x∈L :: (ω.a++ω.b),x≠d:=fun x hx=>by rintro rfl; exact Lake.nn (S.ok x hx) kd
 have hkf:∀ x m,ω.kf x=some m→x≠d:=fun x m e=>by rintro rfl; exact Lake.nn ((S.dis x m e).1) kd
 have hb:∀ (i:Nat) (x:Addr),ω.b[i]?=some x→(ω.b++[d])[i]?=some x:=fun i x e=>by
  rw [List.getElem?_append_left (List.getElem?_eq_some_iff.mp e).1]; exact e
 have hs':∀ {a:List Addr},Sub ω.g ω.g a a ω.b (ω.b++[d]):=fun {a}=>⟨fun z9 z9 h=>h,fun z9 z9 h=>h,hb⟩
 have hidx:(ω.b++[d])[σ.W.length]?=some d:=by rw [← S.tW.1]; simp
 have memd:∀ x∈L :: (ω.a++(ω.b++[d])),x∈L :: (ω.a++ω.b)∨x=d:=fun x hx=>by
  simp only [List.mem_cons,List.mem_append,List.not_mem_nil,or_false] at hx ⊢
  rcases hx with h | h | h | h
  ·exact .inl (.inl h)
  ·exact .inl (.inr (.inl h))
  ·exact .inl (.inr (.inr h))
  ·exact .inr h
 refine ⟨⟨S.ns.sameBut hs (hin L (.head _)),fun x o'' e=>(hs.2 x (by rintro rfl; exact Lake.nn (gd) e)).trans (S.keep x o'' e),S.base,⟨S.above,fun x hx=>?_⟩,fun x v m=>?_,S.nd,?_,?_,?_,fun x hx=>?_,fun x o'' e=>?_,fun x hx=>?_,fun x m e=>(S.nf x m e).sameBut hs (hkf x m e),fun x hx=>?_,fun x m e=>⟨(hne x (hkf x m e)).symm.trans (S.dis x m e).1,(S.dis x m e).2⟩,fun x o'' e=>?_⟩,hs',hidx⟩
 ·rcases memd x (.tail _ hx) with h | h
  ·rcases List.mem_cons.mp h with h | h
   ·rw [h]; exact Nat.lt_of_lt_of_le (Nat.lt_of_succ_lt c.big) S.above
   ·exact S.high.2 x h
  ·rw [h]; exact h1
 ·obtain ⟨rv,e,r⟩:=S.loc x v m
  exact ⟨rv,e,r.mono hs'⟩
 ·exact S.tT.keeps hs' fun x hx=>hs.2 x (hin x (.tail _ (List.mem_append_left _ hx)))
 ·refine ⟨by simp [S.tW.1],fun i o' e=>?_⟩
  by_cases hi:i < σ.W.length
  ·rw [List.getElem?_append_left hi] at e
   obtain ⟨x,ob',e1,e2,r'⟩:=S.tW.2 i o' e
   exact ⟨x,ob',hb _ _ e1,(hs.2 x (hin x (.tail _ (List.mem_append_right _ (List.mem_of_getElem? e1))))).trans e2,r'.mono hs'⟩
  ·rw [List.getElem?_append_right (Nat.le_of_not_lt hi)] at e
   have h0:i - σ.W.length=0:=by
    cases hk:i - σ.W.length with
    | zero=>rfl
    | succ j=>rw [hk] at e; simp at e
   rw [h0] at e
   cases e
   have hi':i=σ.W.length:=by exact (Nat.le_antisymm (Nat.le_of_not_lt fun hn=>Lake.n3 [_,_,_] 1 (.a (.v 0) (.n 1)) (.v 1) 1 (.v 2) (.n 0) 1 (.v 1) (.a (.v 2) (.v 0)) rfl hn (Nat.le_of_eq h0) (Lake.nsub _ _)) (Nat.le_of_not_lt fun hn=>Lake.n2 [_,_] 1 (.a (.v 1) (.n 1)) (.v 0) 1 (.v 0) (.v 1) rfl hn (Nat.le_of_not_lt hi)))
   subst hi'
   exact ⟨d,ob,hidx,hd,r.mono hs'⟩
 ·have hp:(L :: (ω.a++(ω.b++[d]))).Perm (d :: L :: (ω.a++ω.b)):=by
   have:L :: (ω.a++(ω.b++[d]))=(L :: (ω.a++ω.b))++[d]:=by simp
   rw [this]
   exact List.perm_append_comm
  exact hp.nodup_iff.mpr (List.nodup_cons.mpr ⟨fun h=>hin d h rfl,S.apart⟩)
 ·rcases memd x hx with h | h
  ·exact S.out x h
  ·rw [h]; exact gd
 ·have hx:x≠d:=by rintro rfl; have e':k₀ x=some o'':=e; exact Lake.nn (h0) e'
  exact (hs.2 x hx).trans (S.kk x o'' ((hne x hx).trans e))
 ·rcases memd x hx with h | h
  ·exact (hne x (hin x h)).symm.trans (S.ok x h)
  ·rw [h]; exact h0
 ·rcases memd x hx with h | h
  ·exact S.okf x h
  ·rw [h]
   cases q:ω.kf d with
   | none=>rfl
   | some m=>exact absurd rfl (hkf d m q)
 ·have hx:x≠d:=by rintro rfl; have e':k₀ x=some o'':=e; exact Lake.nn (h0) e'
  exact S.dk x o'' ((hne x hx).trans e)
theorem Sat.newHigh {L:Addr} (S:Sat c L σ ω):1 < ω.s.heap.objs.size:=Nat.lt_of_lt_of_le (Nat.lt_of_succ_lt c.big) (Nat.le_trans S.above (Nat.le_of_lt S.ns.lt))
theorem Sat.knew {L:Addr} (S:Sat c L σ ω):ω.k ω.s.heap.objs.size=none:=by
 cases e:ω.k ω.s.heap.objs.size with
 | none=>rfl
 | some o'=>exact absurd (Heap.lt_size (S.kk _ _ e)) (Nat.lt_irrefl _)
theorem Sat.pushW {L:Addr} {ob:Obj} {ao:AO} (S:Sat c L σ ω) (r:RelO c.w.params ω.g [] ω.b ao ob) (hf:ob.isFreed=false) :
  Sat c L { σ with W:=σ.W++[ao] } { ω with s:={ ω.s with heap:=ω.s.heap.push ob },b:=ω.b++[ω.s.heap.objs.size] }∧Le ω { ω with s:={ ω.s with heap:=ω.s.heap.push ob },b:=ω.b++[ω.s.heap.objs.size] }∧(ω.b++[ω.s.heap.objs.size])[σ.W.length]?=some ω.s.heap.objs.size:=by
 obtain ⟨S',s',i⟩:=(S.addK ob hf).moveK (h':=ω.s.heap.push ob) rfl S.knew (Heap.SameBut.refl _ _) (Heap.get?_push_size _ hf) r S.newHigh ω.s.toks
 exact ⟨S',⟨s',rfl,rfl,rfl,rfl,rfl⟩,i⟩
theorem e_listW {es:List PySem.Expr} (h:WL c n env pos es (fun vs σ'=>vs.length≤4096∧V.noLoL vs=true∧Q (.ob σ'.W.length) { σ' with W:=σ'.W++[.list vs] }) X σ):WE c n env (.List es pos) Q X σ:=fun A ω hR hS=>by
 refine List_ (wpAny_mono (h A ω hR hS) ?_ fun z9 z9 x=>x)
 refine Post.all fun rvs vs σ₁ ω₁ l₁ S₁ rs hz28=>?_
 obtain ⟨hl,hn,h₁⟩:=hz28
 refine wpAny_newObj_type ?_ ?_
 ·obtain ⟨S',l',i⟩:=S₁.pushW (ob:={ cls:=.type "list",data:=.seq rvs.toArray }) (.list (rs.noLo hn)) rfl
  exact ⟨_,_,_,l₁.trans l',rfl,S',.ob i,h₁⟩
 ·show rvs.toArray.size≤sizeLine
  rw [List.size_toArray,rs.len,sizeLine_eq]; exact (Nat.le_of_not_lt fun hn=>Lake.n2 [_] 1 (.a (.n 16777216) (.n 1)) (.v 0) 1 (.v 0) (.n 4096) rfl hn hl)
theorem e_dictW {ks:List (Option PySem.Expr)} {vs:List PySem.Expr} (hall:ks.all (·.isSome)=true) (hl:ks.length=vs.length) (h0:ks≠[]) (hlen:ks.length≤15)
  (h:WD c n env pos ks vs (fun ps σ'=>∃ l,strPairs ps=some l∧(l.map (·.1)).Nodup∧l.length≤4096∧V.noLoD l=true∧Q (.ob σ'.W.length) { σ' with W:=σ'.W++[.dict l] }) X σ):WE c n env (.Dict ks vs pos) Q X σ:=fun A ω hR hS=>by
 refine wpAny_Dict_any hall hl h0 hlen ?_
 have hS₁:=hS.addK { cls:=.type "dict",data:=.dict #[] } rfl
 have hk0:=hS.knew
 have hkk:∀ x o,ω.k x=some o→gAdd ω.k ω.s.heap.objs.size { cls:=.type "dict",data:=.dict #[] } x=some o:=(gAdd_sub (a:=[]) (b:=[]) hk0).hg
 let ω₁:Wd:={ ω with s:={ ω.s with heap:=ω.s.heap.push { cls:=.type "dict",data:=.dict #[] } },k:=gAdd ω.k ω.s.heap.objs.size { cls:=.type "dict",data:=.dict #[] } }
 refine wpAny_mono (h A ω₁ hR hS₁) ?_ fun e s' x=>x.dropK hkk ⟨.refl,rfl,rfl,rfl,rfl,rfl⟩
 refine Post.all fun rps ps σ₁ ω₂ l₂ S₂ rp hz29=>?_
 refine gC fun G hG=>?_
 obtain ⟨l,hsp,hnd,hln,hno,h₂⟩:=hz29
 obtain ⟨kvs,hc,hrk⟩:=strPairs_carries hsp rp
 refine hG ?_
 have kd:ω₂.k ω.s.heap.objs.size=some { cls:=.type "dict",data:=.dict #[] }:=by rw [l₂.k]; exact gAdd_self
 have hd0:ω₂.s.heap.DictOf (PySem.strKind c.prog c.w) ω.s.heap.objs.size []:=⟨_,#[],0,S₂.kk _ _ kd,⟨rfl,rfl,rfl⟩,rfl,fun e he=>by simp at he,.nil,.nil⟩
 have hm:merged [] kvs=kvs:=by rw [merged_new (by simpa [hrk.keys] using hnd)]; rfl
 have hlen':kvs.length≤sizeLine:=by
  have e1:=congrArg List.length hrk.keys
  simp only [List.length_map] at e1
  exact szL (e1▸Nat.le_trans hln (Nat.le_of_ble_eq_true rfl))
 refine wpAny_storeAll (knd:=PySem.strKind c.prog c.w) rps kvs [] _ _ hc hd0 (by simpa using hlen') fun h' hD hs=>?_
 rw [hm] at hD
 refine gC fun G hG=>?_
 obtain ⟨es,ep,hg,hr⟩:=dictOf_rel rfl hD hrk
 obtain ⟨S₃,hs₃,i⟩:=S₂.moveK (ao:=.dict l) l₂.k hk0 hs hg (.dict (hr.noLo hno) hnd) hS.newHigh (ω₂.s.toks+rps.length)
 refine hG ?_
 exact ⟨.ob σ₁.W.length,_,{ ω₂ with s:={ ω₂.s with heap:=h',toks:=ω₂.s.toks+rps.length },k:=ω.k,b:=ω₂.b++[ω.s.heap.objs.size] },⟨l₂.sub.trans hs₃,l₂.gens,l₂.drawn,l₂.os,rfl,l₂.kf⟩,rfl,S₃,.ob i,h₂⟩
end
end HL.Lake
end
noncomputable section
namespace HL.Lake
open PySem PySem.W PySem.Calls PyProof.Rows
theorem tc_weight (C:Addr) (r:List Value) (kw:List (Str×Value)):(Code.builtin "type.__call__" ⟨.ref C :: r,kw⟩).weight=1:=by kernel_rfl
theorem tc_units (a:Args):(Code.builtin "type.__call__" a).cUnits=1:=by kernel_rfl
theorem tc_envs (a:Args):(Code.builtin "type.__call__" a).envs=[]:=by kernel_rfl
theorem under_frames {A:Around} (C:Addr) (r:List Value) (kw:List (Str×Value)):(A.under (.builtin "type.__call__" ⟨.ref C :: r,kw⟩)).frames=A.frames:=by
 show pushEnvs (Code.builtin "type.__call__" ⟨.ref C :: r,kw⟩).envs A.frames=_
 rw [tc_envs]; rfl
theorem Room.under {n:Nat} {A:Around} (h:Room (n+1) A) (C:Addr) (r:List Value) (kw:List (Str×Value)):Room n (A.under (.builtin "type.__call__" ⟨.ref C :: r,kw⟩)):=by
 refine ⟨?_,?_,h.handled⟩
 ·have:=h.depth
  show A.depth+(Code.builtin "type.__call__" ⟨.ref C :: r,kw⟩).weight+_ < _
  rw [tc_weight]; exact (Nat.lt_of_not_le fun hn=>Lake.n2 [_,_] 1 (.n 600) (.a (.a (.v 0) (.n 1)) (.m 10 (.v 1))) 1 (.a (.a (.v 0) (.m 10 (.a (.v 1) (.n 1)))) (.n 1)) (.n 600) rfl hn this)
 ·have:=h.units
  show A.units+(Code.builtin "type.__call__" ⟨.ref C :: r,kw⟩).cUnits+_ < _
  rw [tc_units]; exact (Nat.lt_of_not_le fun hn=>Lake.n2 [_,_] 1 (.n 9000) (.a (.a (.v 0) (.n 1)) (.m 50 (.v 1))) 1 (.a (.a (.v 0) (.m 50 (.a (.v 1) (.n 1)))) (.n 1)) (.n 9000) rfl hn this)
section
variable {c:Cx} {n:Nat} {env:Env} {X:St→Prop} {σ:St} {pos:Pos} {ω:Wd} {sc:Scope} {Q:V→St→Prop}
theorem call_new {C fI:Addr} {vs:List V} (hm:makesIn c.K C=true) (hi:findIn c.K (.ref C) "__init__"=some (some (.ref fI))) (hf:typeIn c.K (.ref fI)=some (.type "function")) (hv:V.noLoL vs=true)
  (h:CallS c n (.ref fI) (.inst C σ.W.length :: vs) [] (fun v W'=>v=.none∧Q (.inst C σ.W.length) { σ with W:=W' }) (fun W'=>X { σ with W:=W' }) (σ.W++[.dict []])):CV c (n+1) env (.st (.ref C)) vs Q X σ:=fun A ω rvs hR hS hr=>by
 cases hr with
 | @cons _ rf _ rvs r rs =>
  (first | obtain rfl:=r.inv | obtain ⟨_,rfl⟩:=r.inv | cases r)
  refine gC fun G hG=>?_
  obtain ⟨S₁,l₁,hi₁⟩:=hS.pushW (ob:=emptyDict) (ao:=.dict []) (.dict (es:=[]) (n:=0) .nil .nil) rfl
  obtain ⟨S₂,l₂⟩:=S₁.push (instObj C ω.s.heap.objs.size) rfl ω.s.toks
  refine hG ?_
  have hsz:(ω.s.heap.push emptyDict).objs.size=ω.s.heap.objs.size+1:=Heap.size_push ..
  have l12:=l₁.trans l₂
  refine wpAny_call (make_core (makes_of hS.X hm) (looks_findIn hS.X hi) (fun self=>bind_fn hS.X self hf) (.inl rfl) ?_)
  generalize hA':A.under (.builtin "type.__call__" ⟨.ref C :: rvs,[]⟩)=A'
  have hR₁:Room n A':=hA'▸hR.room.under C rvs []
  have hfm:∃ l,A'.frames=some l∧Outs c (kfBelow env.locals ω) l:=by
   rw [← hA',under_frames]; exact hR.outs rfl
  have hself:Rel c.w.params (gAdd ω.g (ω.s.heap.push emptyDict).objs.size (instObj C ω.s.heap.objs.size)) [] (ω.b++[ω.s.heap.objs.size]) (.inst C σ.W.length) (.ref (ω.s.heap.objs.size+1)) :=
   .inst hi₁ (by rw [← hsz]; exact gAdd_self)
  refine codeAny_mono (h A' _ _ _ _ _ _ [] hR₁ hfm S₂.toW (.cons hself ((rs.noLo hv).mono ⟨l12.sub.hg,fun z9 z9 h=>h,l12.sub.hb⟩)) .nil) fun rv s' z=>?_
  have back:=back_call (c:=c) (env:=env) (σ:={ σ with W:=σ.W++[.dict []] }) (Q:=fun v σ'=>v=.none∧Q (.inst C σ.W.length) σ') (X:=X) (A:=A') S₂ z
  rcases rv with e | (_ | _ | _ | v)
  ·obtain ⟨σ',ω',l',rfl,S',hx,q⟩:=back
   refine ⟨σ',ω',l12.trans l',rfl,S',?_,q⟩
   refine gC fun G hG=>?_
   rcases hx with ⟨l,e1,e2⟩ | e2
   ·refine hG ?_
    exact .inl ⟨l,by rw [← e1,← hA',under_frames],e2⟩
   ·refine hG ?_
    exact .inr e2
  ·exact back
  ·exact back
  ·exact back
  ·obtain ⟨u,σ',ω',l',rfl,S',r,rfl,q⟩:=back
   (first | obtain rfl:=r.inv | obtain ⟨_,rfl⟩:=r.inv | cases r)
   refine ⟨rfl,⟨_,σ',ω',l12.trans l',rfl,S',?_,q⟩⟩
   exact (hself.mono ⟨fun z9 z9 h=>h,fun z9 z9 h=>(Lake.nn rfl h),fun z9 z9 h=>h⟩).mono l'.sub
end
end HL.Lake
end
noncomputable section
namespace HL.Lake
open PySem PySem.W PySem.Calls PyProof.Rows
structure KeyNewFacts:Prop where
 ends:"LookupError.__new__".endsWith ".__new__"=true
 owner:"LookupError.__new__".dropRight 8="LookupError"
 entry:entryFor table "LookupError.__new__"=some Builtin.«BaseException.__new__»
 sub:isSubtype (.type "KeyError") (.type "LookupError")=pure true
 notAttr:isSubtype (.type "KeyError") (.type "AttributeError")=pure false
 notName:isSubtype (.type "KeyError") (.type "NameError")=pure false
 made:Bind.madeHere "BaseException.__new__" (.type "KeyError")=pure ()
structure KeyCallFacts:Prop where
 sub:isSubtype (.type "KeyError") (.type "KeyError")=pure true
 notType:(Value.type "KeyError"==Value.type "type")=false
 canMake:((Manifest.find? "KeyError").bind fun x=>List.findSome? (fun t=>(Manifest.find? t).bind fun b =>
  if b.noNew=true then some true else if (b.attrs.any fun x=>x.fst=="__new__")=true then some false else none) x.mro).getD false=false
 noVector:∀ args,checkTypeCall "KeyError" args=pure ()
 mro:∃ m,mroOf (.type "KeyError")=pure m∧m.isEmpty=false
 madeBy:Bind.madeBy (.type "KeyError")=pure (some "LookupError.__new__")
 quiet:"LookupError.__new__".startsWith "lifetime."=false
 newOk:∀ rest,checkBuiltinCall "LookupError.__new__" ⟨.type "KeyError" :: rest,[]⟩=pure ()
 init:Slot "KeyError" "__init__" "KeyError.__init__"
 initEntry:entryFor table "KeyError.__init__"=some Builtin.«BaseException.__init__»
 initSplit:splitId "KeyError.__init__"=some ("KeyError","__init__")
 initKind:builtinKind "KeyError.__init__"=some .slot
 initRow:Manifest.signature? "KeyError.__init__"=some ⟨.positional,"*","KeyError",.self,[⟨"args",.varPos,false⟩]⟩
 noStar:("KeyError" != "*")=true
section
variable {prog:Program} {w:World} {A:Around} {R:Result→Shared→Prop}
end
section
variable {c:Cx} {n:Nat} {env:Env} {X:St→Prop} {σ:St} {pos:Pos} {ω:Wd} {sc:Scope} {rest:List Stmt} {Q:Fl→St→Prop}
end
end HL.Lake
end
noncomputable section
namespace HL.Lake
open PySem PySem.W PySem.Calls PyProof.Rows
section
variable {M:Model} {A:Around} {E:Value→Shared→Prop} {s:Shared}
end
section
variable {c:Cx} {n:Nat} {env:Env} {X:St→Prop} {σ:St} {pos:Pos} {ω:Wd} {sc:Scope} {rest:List Stmt} {Q:Fl→St→Prop}
end
end HL.Lake
end
noncomputable section
namespace HL.Lake
open PySem PySem.W PySem.Calls PyProof.Rows
section
variable {c:Cx} {n:Nat} {env:Env} {X:St→Prop} {σ:St} {pos:Pos} {ω:Wd} {sc:Scope} {Q:V→St→Prop}
theorem pv_add_int {a b:Int} (h:Q (.int (a+b)) σ):PV c n env .Add (.int a) (.int b) Q X σ:=wo2 fun z9 z9 z9 z9 z9 hS r1 r2=>by (first | obtain rfl:=r1.inv | obtain ⟨_,rfl⟩:=r1.inv | cases r1); (first | obtain rfl:=r2.inv | obtain ⟨_,rfl⟩:=r2.inv | cases r2); exact PyProof.Rows.iadd_int (doneT hS .int h)
theorem pv_sub_int {a b:Int} (h:Q (.int (a - b)) σ):PV c n env .Sub (.int a) (.int b) Q X σ:=wo2 fun z9 z9 z9 z9 z9 hS r1 r2=>by (first | obtain rfl:=r1.inv | obtain ⟨_,rfl⟩:=r1.inv | cases r1); (first | obtain rfl:=r2.inv | obtain ⟨_,rfl⟩:=r2.inv | cases r2); exact PyProof.Rows.isub_int (doneT hS .int h)
theorem pv_add_str {x y:Str} (hz:x.length+y.length≤sizeLine) (h:Q (.str (x++y)) σ):PV c n env .Add (.str x) (.str y) Q X σ:=wo2 fun z9 z9 z9 z9 z9 hS r1 r2=>by (first | obtain rfl:=r1.inv | obtain ⟨_,rfl⟩:=r1.inv | cases r1); (first | obtain rfl:=r2.inv | obtain ⟨_,rfl⟩:=r2.inv | cases r2); exact PyProof.Rows.iadd_str (fun t' tk=>doneT hS .str h) hz
theorem relL_set {P:Params} {g:PHeap} {a b:List Addr}  {l:List V} {rl:List Value} (i:Nat) {v:V} {rv:Value} (hl:RelL P g a b l rl) (h:Rel P g a b v rv):RelL P g a b (l.set i v) (rl.set i rv) :=
 RelL.ind (M:=fun l rl=>∀ i:Nat,RelL P g a b (l.set i v) (rl.set i rv)) (fun z9=>.nil) (fun z9 z9 z9 z9 r rs ih i=>match i with
  | 0=>.cons h rs
  | i+1=>.cons r (ih i)) hl i
end
theorem setItem_list_exact {prog:Program} {w:World} {A:Around} {E:Value→Shared→Prop} {s:Shared} {l:Addr} {items:Array Value} {nn:Nat} {k:Int} {t:Tok} {v:Value} {Q:Unit→Shared→Prop} (ho:s.heap.get? l=some { cls:=.type "list",data:=.seq items nn })
  (h0:0≤k) (hfit:k < 2 ^ 63) (hn:k < items.size)
  (hQ:Q () { s with heap:=s.heap.update l (Obj.mapSeq (·.setIfInBounds k.toNat v)) }):wpAny (model prog w) A (setItem (.ref l) (.int k t) v) Q E s:=by
 have hl:s.heap.IsList l items:=⟨_,ho,rfl,nn,rfl⟩
 unfold setItem
 try with_reducible refine wpAny_holding ?_
 first | refine wpAny_bind (wpAny_pure ?_) | skip
 refine wpAny_bind (wpAny_sequenceKey hl.typeIs (by decide) ?_)
 refine wpAny_bind (wpAny_callSpecial?_slot (name:=Str.ofString "__setitem__") hl.typeIs slot_list_setitem
  (wpAny_call_entry slot_list_setitem hl.typeIs entry_list_setitem ?_ (args_list_setitem _ _ _)))
 show wpAny _ _ (Builtin.List.listSubscript? (.int k t) >>= _) _ _ s
 refine wpAny_bind (wpAny_listSubscript_int (fitsIndex_of h0 hfit) ?_)
 clear hfit
 obtain ⟨j,rfl⟩:=Int.eq_ofNat_of_zero_le h0
 have hj:j < items.size:=Int.ofNat_lt.mp hn
 have hx':items[j]?=some items[j]:=Array.getElem?_eq_getElem hj
 show wpAny _ _ ((seqItemAt l j >>= fun r=>pure (r.map (j,·))) >>= _) _ _ s
 refine wpAny_bind (wpAny_bind (wpAny_seqItemAt ho rfl (wpAny_pure ?_)))
 rw [hx']
 show wpAny _ _ (setSeqItemAt l j v >>= _) _ _ s
 refine wpAny_bind (wpAny_setSeqItemAt ho rfl ?_)
 first
  | exact wpAny_bind (wpAny_pure (wpAny_pure ⟨.none,rfl,wpAny_pure hQ⟩))
  | exact wpAny_pure ⟨.none,rfl,wpAny_pure hQ⟩
section
variable {c:Cx} {n:Nat} {env:Env} {X:St→Prop} {σ:St} {pos:Pos} {ω:Wd} {sc:Scope}
theorem si_list {Q:Unit→St→Prop} {v x:V} {l:List V} {f:List V→St} {k:Int} (m:LMut σ v l f) (h0:0≤k) (hn:k < l.length) (hz:l.length≤10000) (hno:(!isObV v||x.noLo)=true) (h:Q () (f (l.set k.toNat x))):SI c n env v (.int k) x Q X σ:=wo3 fun A ω rv ri rx hR hS r1 r2 r3=>by
 (first | obtain rfl:=r2.inv | obtain ⟨_,rfl⟩:=r2.inv | cases r2)
 refine gC fun G hG=>?_
 obtain ⟨a,xs,nn,rfl,e,rs,no,put⟩:=m.at hS r1
 refine hG ?_
 have hl:=relL_len rs
 refine setItem_list_exact e h0 (Int.lt_trans hn (fitT hz)) (by rw [List.size_toArray,hl]; exact hn) ?_
 have e':=IsL.update e (·.setIfInBounds k.toNat rx)
 obtain ⟨S',l'⟩:=put _ (l.set k.toNat x) (xs.set k.toNat rx) (if (xs.toArray.setIfInBounds k.toNat rx).size==xs.toArray.size then nn else nn+1) ω.s.toks (Heap.SameBut.update ..) (by rw [e',List.setIfInBounds_toArray]) (relL_set _ rs r3) fun ho=>by
  have h1:=no ho
  rw [ho] at hno
  have h2:x.noLo=true:=by simpa using hno
  rw [noLoL_mem] at h1 ⊢
  intro u hu
  rcases List.mem_or_eq_of_mem_set hu with q | q
  ·exact h1 u q
  ·rw [q]; exact h2
 exact ⟨(),_,_,l',rfl,S',trivial,h⟩
end
end HL.Lake
end
noncomputable section
namespace HL.Lake
open PySem PySem.W PySem.Calls PyProof.Rows
section
variable {c:Cx} {A:Around} {s:Shared}
noncomputable abbrev MT (c:Cx) (t:Sem Fin) (A:Around) (R:Result→Shared→Prop) (s:Shared):Prop :=
 wpAny (model c.prog c.w) A.in1 t (fun fin s'=>match fin with | .done f=>R (.ok f) s' | .again c'=>c'.quiet=true∧codeAny (model c.prog c.w) A c' R s') (fun e s'=>R (.error e) s') s
noncomputable def EqT (c:Cx) (A:Around) (s:Shared) (y x:Value):Prop:=∀ (E:Value→Shared→Prop) (Q:Bool→Shared→Prop),Q true s→wpAny (model c.prog c.w) A (eqBool y x) Q E s
theorem eqT_of {y x:Value} (h:SeqAt.EqAt A s y x true):EqT c A s y x:=fun E Q q=>h c.prog c.w E Q q
theorem eq_loopT2 (l b:Addr) (items items2:Array Value) (n n2:Nat) (hsz:items.size=items2.size) (k:Nat) :
  ∀ (i:Nat) (A:Around) (R:Result→Shared→Prop) (s:Shared),items.size - i=k→s.heap.get? l=some { cls:=.type "list",data:=.seq items n }→s.heap.get? b=some { cls:=.type "list",data:=.seq items2 n2 } →
   (∀ j (h1:j < items.size) (h2:j < items2.size),EqT c A.in1 s items[j] items2[j])→R (.ok (.ret (.bool true))) s→MT c (Builtin.«list.__eq__.loop» ⟨[.ref l,.ref b,rawInt i,rawInt 2],[]⟩) A R s:=by
 induction k with
 | zero =>
  intro i A R s hk hl hb he h
  obtain ⟨hp,g,d,tk,os⟩:=s
  unfold MT
  wp_walk using wpAny_loadPart' hl,wpAny_loadPart' hb
  have hi1:items[((i:Nat):Int).toNat]?=none:=Array.getElem?_eq_none (Nat.le_of_sub_eq_zero hk)
  have hi2:items2[((i:Nat):Int).toNat]?=none:=Array.getElem?_eq_none (hsz▸Nat.le_of_sub_eq_zero hk)
  rw [hi1,hi2]
  wp_walk using wpAny_loadPart' hl,wpAny_loadPart' hb
  show R (.ok (.ret (.bool (items.size==items2.size)))) _
  rw [hsz,beq_self_eq_true]
  exact h
 | succ k ih =>
  intro i A R s hk hl hb he h
  obtain ⟨hp,g,d,tk,os⟩:=s
  unfold MT
  wp_walk using wpAny_loadPart' hl,wpAny_loadPart' hb
  have hlt:i < items.size:=Nat.sub_pos_iff_lt.mp (hk▸Nat.succ_pos k)
  have hlt2:i < items2.size:=hsz▸hlt
  have hi1:items[((i:Nat):Int).toNat]?=some items[i]:=Array.getElem?_eq_getElem hlt
  have hi2:items2[((i:Nat):Int).toNat]?=some items2[i]:=Array.getElem?_eq_getElem hlt2
  have hc:((i:Int)+1)=((i+1:Nat):Int):=by push_cast; rfl
  rw [hi1,hi2]
  refine wpAny_bind (he i hlt hlt2 _ _ ?_)
  wp_walk
  rw [hc]
  exact ⟨plainId_quiet MeetsSeq3.plain_eq_loop _,codeAny_builtin MeetsSeq3.entry_eq_loop (by
   rw [Around.under_plainId MeetsSeq3.plain_eq_loop _]
   exact ih (i+1) A R _ (by rw [Nat.sub_add_eq,hk]; rfl) hl hb he h)⟩
theorem eq_loopT3 (l b:Addr) (items items2:Array Value) (n n2:Nat) (hsz:items.size=items2.size) (k:Nat) :
  ∀ (i:Nat) (A:Around) (R:Result→Shared→Prop) (s:Shared),items.size - i=k→s.heap.get? l=some { cls:=.type "list",data:=.seq items n }→s.heap.get? b=some { cls:=.type "list",data:=.seq items2 n2 } →
   (∀ j (h1:j < items.size) (h2:j < items2.size),EqT c A.in1 s items[j] items2[j])→R (.ok (.ret (.bool false))) s→MT c (Builtin.«list.__eq__.loop» ⟨[.ref l,.ref b,rawInt i,rawInt 3],[]⟩) A R s:=by
 induction k with
 | zero =>
  intro i A R s hk hl hb he h
  obtain ⟨hp,g,d,tk,os⟩:=s
  unfold MT
  wp_walk using wpAny_loadPart' hl,wpAny_loadPart' hb
  have hi1:items[((i:Nat):Int).toNat]?=none:=Array.getElem?_eq_none (Nat.le_of_sub_eq_zero hk)
  have hi2:items2[((i:Nat):Int).toNat]?=none:=Array.getElem?_eq_none (hsz▸Nat.le_of_sub_eq_zero hk)
  rw [hi1,hi2]
  wp_walk using wpAny_loadPart' hl,wpAny_loadPart' hb
  show R (.ok (.ret (.bool (items.size != items2.size)))) _
  rw [hsz,bne_self_eq_false]
  exact h
 | succ k ih =>
  intro i A R s hk hl hb he h
  obtain ⟨hp,g,d,tk,os⟩:=s
  unfold MT
  wp_walk using wpAny_loadPart' hl,wpAny_loadPart' hb
  have hlt:i < items.size:=Nat.sub_pos_iff_lt.mp (hk▸Nat.succ_pos k)
  have hlt2:i < items2.size:=hsz▸hlt
  have hi1:items[((i:Nat):Int).toNat]?=some items[i]:=Array.getElem?_eq_getElem hlt
  have hi2:items2[((i:Nat):Int).toNat]?=some items2[i]:=Array.getElem?_eq_getElem hlt2
  have hc:((i:Int)+1)=((i+1:Nat):Int):=by push_cast; rfl
  rw [hi1,hi2]
  refine wpAny_bind (he i hlt hlt2 _ _ ?_)
  wp_walk
  rw [hc]
  exact ⟨plainId_quiet MeetsSeq3.plain_eq_loop _,codeAny_builtin MeetsSeq3.entry_eq_loop (by
   rw [Around.under_plainId MeetsSeq3.plain_eq_loop _]
   exact ih (i+1) A R _ (by rw [Nat.sub_add_eq,hk]; rfl) hl hb he h)⟩
theorem call_MT {T:String} {name:Str} {id:String} {B:Builtin} {self:Value} {rest:List Value} {Q E:Value→Shared→Prop} (slot:Slot T name id) (hT:s.TypeIs self T)
  (entry:entryFor table id=some B) (args:argsOk id ⟨self :: rest,[]⟩) (g:MT c (B ⟨self :: rest,[]⟩) A (wants Q E) s) :
  wpAny (model c.prog c.w) A (call (.builtin id) (self :: rest)) Q E s :=
 wpAny_call (codeAny_call_builtin slot.plain entry (slot.check _ _ _ _ _ _ _ _ hT args g))
section
variable {l b:Addr} {items items2:Array Value} {n n2:Nat} {Q E:Value→Shared→Prop} (hl:s.heap.get? l=some { cls:=.type "list",data:=.seq items n }) (hb:s.heap.get? b=some { cls:=.type "list",data:=.seq items2 n2 }) (hsz:items.size=items2.size) (hu:A.units < cLine)
 (he:∀ j (h1:j < items.size) (h2:j < items2.size),EqT c A.in1 s items[j] items2[j])
include hl hb hsz hu he
theorem rc_listT (h:Q (.bool true) s):wpAny (model c.prog c.w) A (richCompare .Eq (.ref l) (.ref b)) Q E s:=by
 refine wpAny_richCompare_same_room (op:=.Eq) ⟨_,hl,rfl⟩ ⟨_,hb,rfl⟩ F.slot_list_eq (call_MT F.slot_list_eq ⟨_,hl,rfl⟩ F.entry_list_eq (F.args_list_eq_2 _ _) ?_) hu
 obtain ⟨hp,g,d,tk,os⟩:=s
 have f3:=AutoSeq1.sub_list_list
 have hne:¬ (items.size != items2.size)=true:=by rw [hsz,bne_self_eq_false]; exact Bool.false_ne_true
 show MT c _ A _ _
 unfold MT
 wp_walk using wpAny_loadPart' hl,wpAny_loadPart' hb
 exact ⟨plainId_quiet MeetsSeq3.plain_eq_loop _,codeAny_builtin MeetsSeq3.entry_eq_loop (by
  rw [Around.under_plainId MeetsSeq3.plain_eq_loop _]
  exact eq_loopT2 l b items items2 n n2 hsz _ 0 A _ _ rfl hl hb he ⟨(fun x=>(by cases x)),h⟩)⟩
theorem rc_listF (h:Q (.bool false) s):wpAny (model c.prog c.w) A (richCompare .NotEq (.ref l) (.ref b)) Q E s:=by
 refine wpAny_richCompare_same_room (op:=.NotEq) ⟨_,hl,rfl⟩ ⟨_,hb,rfl⟩ F.slot_list_ne (call_MT F.slot_list_ne ⟨_,hl,rfl⟩ F.entry_list_ne (F.args_list_ne_2 _ _) ?_) hu
 obtain ⟨hp,g,d,tk,os⟩:=s
 have f3:=AutoSeq1.sub_list_list
 have hne:¬ (items.size != items2.size)=true:=by rw [hsz,bne_self_eq_false]; exact Bool.false_ne_true
 show MT c _ A _ _
 unfold MT
 wp_walk using wpAny_loadPart' hl,wpAny_loadPart' hb
 exact ⟨plainId_quiet MeetsSeq3.plain_eq_loop _,codeAny_builtin MeetsSeq3.entry_eq_loop (by
  rw [Around.under_plainId MeetsSeq3.plain_eq_loop _]
  exact eq_loopT3 l b items items2 n n2 hsz _ 0 A _ _ rfl hl hb he ⟨(fun x=>nomatch x),h⟩)⟩
end
theorem EqT.same (v:Value):EqT c A s v v:=eqT_of (SeqAt.EqAt.same v)
theorem EqT.of_rc {l b:Addr} (h:l≠b→∀ (E Q:Value→Shared→Prop),Q (.bool true) s→wpAny (model c.prog c.w) A (richCompare .Eq (.ref l) (.ref b)) Q E s):EqT c A s (.ref l) (.ref b):=by
 by_cases e:l=b
 ·subst e; exact .same _
 ·intro E Q q
  unfold eqBool
  refine wpAny_holding ?_
  refine wpAny_ite_split (fun hab=>absurd (by have:=eq_of_beq hab; injection this) e) (fun z9=>?_)
  exact wpAny_bind (h e E _ (wpAny_truthy_bool q))
end
end HL.Lake
end
noncomputable section
namespace HL.Lake
open PySem PySem.W PySem.Calls PyProof.Rows
section
variable {c:Cx} {A:Around} {s:Shared}
noncomputable def HitsT (c:Cx) (A:Around) (s:Shared) (kb l:List (Str×Value)):Prop:=∀ p∈l,∃ y,valueAt kb p.1=some y∧EqT c A s p.2 y
theorem HitsT.nil {kb:List (Str×Value)}:HitsT c A s kb []:=fun z9 h=>by cases h
theorem HitsT.hit {kb:List (Str×Value)} {k:Str} {v y:Value} {r:List (Str×Value)} (h:valueAt kb k=some y) (e:EqT c A s v y) (t:HitsT c A s kb r):HitsT c A s kb ((k,v) :: r):=fun p m=>(List.mem_cons.mp m).elim (fun q=>q▸⟨y,h,e⟩) (t p)
theorem HitsT.inv {kb:List (Str×Value)} {k:Str} {v:Value} {r:List (Str×Value)} (h:HitsT c A s kb ((k,v) :: r)):∃ y,valueAt kb k=some y∧EqT c A s v y∧HitsT c A s kb r:=(h _ (.head _)).imp fun z9 q=>⟨q.1,q.2,fun p m=>h p (.tail _ m)⟩
theorem samePairsT {nm:String} {a b:Addr} {ka kb:List (Str×Value)} {E:Value→Shared→Prop} {Q:Bool→Shared→Prop} (ha:(a==sysModules)=false) (hb:(b==sysModules)=false)
  (da:s.heap.DictOf (PySem.strKind c.prog c.w) a ka) (db:s.heap.DictOf (PySem.strKind c.prog c.w) b kb) (hlen:ka.length=kb.length) (hits:HitsT c A s kb ka) (h:Q true s) :
  wpAny (model c.prog c.w) A (Builtin.Dict.samePairs nm a b) Q E s:=by
 refine gC fun G hG=>?_
 obtain ⟨oa,es,ep,hoa,_,hda,hka,hpa,_⟩:=da
 obtain ⟨ob,es',ep',hob,_,hdb,hkb,hpb,_⟩:=db
 refine hG ?_
 have hla:ka.length=es.size:=by rw [← hpa.length]; exact Array.length_toList
 have hlb:kb.length=es'.size:=by rw [← hpb.length]; exact Array.length_toList
 have hfind:∀ k,findBy (PySem.strKind c.prog c.w).is es' k=valueAt kb k:=fun k=>by
  rw [← hpb.find k]
  clear hlb hpb hkb hdb hob
  obtain ⟨l⟩:=es'
  simp [findBy]
 have hsz:es.size=es'.size:=by rw [← hla,← hlb,hlen]
 unfold Builtin.Dict.samePairs Builtin.Dict.showsAll
 rw [if_neg (show ¬ (a==sysModules)=true by rw [ha]; exact Bool.false_ne_true),if_neg (show ¬ (b==sysModules)=true by rw [hb]; exact Bool.false_ne_true)]
 refine wpAny_bind (wpAny_pure (wpAny_bind (wpAny_pure ?_)))
 refine wpAny_bind (wpAny_dictEntries hoa hda ?_)
 dsimp only
 refine wpAny_bind (wpAny_dictEntries hob hdb ?_)
 rw [if_neg (by rw [hsz,bne_self_eq_false]; exact Bool.false_ne_true)]
 refine wpAny_bind (wpAny_dictEpoch hoa hda ?_)
 refine wpAny_bind ?_
 rw [Std.Legacy.Range.forIn_eq_forIn_range']
 rw [show Std.Legacy.Range.size _=es.size from Nat.div_one _]
 refine wpAny_forIn_list _
  (fun rest q s'=>s'=s∧q=(none,())∧∃ i,rest=List.range' i (es.size - i)∧i≤es.size∧HitsT c A s kb (ka.drop i))
  _ ?_ ?_ _ _ ⟨rfl,rfl,0,rfl,Nat.zero_le _,hits⟩
 ·intro x rest q s' hz1q
  refine gC fun G hG=>?_
  obtain ⟨rfl,rfl,i,hr,hi,hpre⟩:=hz1q
  have hlt:i < es.size:=by
   rcases Nat.lt_or_ge i es.size with h | h
   ·exact h
   ·rw [Nat.sub_eq_zero_of_le h] at hr; cases hr
  obtain ⟨rfl,hrest⟩:x=i∧rest=List.range' (i+1) (es.size - (i+1)):=by
   have e:es.size - i=(es.size - (i+1))+1:=by rw [Nat.sub_add_eq,Nat.sub_add_cancel (Nat.sub_pos_of_lt hlt)]
   rw [e,List.range'_succ] at hr
   injection hr with h1 h2
   exact ⟨h1,h2⟩
  refine hG ?_
  refine wpAny_bind (wpAny_dictEntries hoa hda ?_)
  rw [Array.getElem?_eq_getElem hlt]
  have hlt':x < ka.length:=by rw [hla]; exact hlt
  refine gC fun G hG=>?_
  obtain ⟨k,v,hkv⟩:∃ k v,ka[x]=(k,v):=⟨_,_,rfl⟩
  have hdrop:ka.drop x=(k,v) :: ka.drop (x+1):=by rw [← hkv]; exact List.drop_eq_getElem_cons hlt'
  obtain ⟨hkey,hval⟩:=hpa.get? (i:=x) (e:=es[x]) (k:=k) (v:=v) (by rw [Array.getElem?_toList]; exact Array.getElem?_eq_getElem hlt) (by rw [List.getElem?_eq_getElem hlt',hkv])
  obtain ⟨k',hk',hh⟩:=hka es[x] (Array.getElem_mem hlt)
  have ekk:k'=k:=(PySem.strKind c.prog c.w).inj _ _ _ hk' hkey
  rw [ekk] at hh
  rw [hdrop] at hpre
  obtain ⟨y,hy,he,hrr⟩:=hpre.inv
  refine hG ?_
  show wpAny _ _ (holding [es[x].key,es[x].val] _ >>= _) _ _ _
  rw [hh]
  refine wpAny_bind (wpAny_holding (wpAny_bind (wpAny_dictFind_of hkey hob hdb hkb ?_)))
  cases hj:es'.findIdx? fun e=>(PySem.strKind c.prog c.w).is k e.key with
  | none =>
   have hn:valueAt kb k=none:=by rw [← hfind k,findBy_of_findIdx?,hj]
   rw [hn] at hy; cases hy
  | some j =>
   refine gC fun G hG=>?_
   obtain ⟨hjlt,_,_⟩:=Array.findIdx?_eq_some_iff_getElem.mp hj
   refine hG ?_
   have hv':valueAt kb k=some es'[j].val:=by
    rw [← hfind k,findBy_of_findIdx?,hj]
    show (es'[j]?).map _=_
    rw [Array.getElem?_eq_getElem hjlt]; rfl
   refine wpAny_bind (wpAny_dictEntries hob hdb ?_)
   rw [Array.getElem?_eq_getElem hjlt]
   have ey:es'[j].val=y:=Option.some.inj (hv'.symm.trans hy)
   rw [← ey,← hval] at he
   refine wpAny_holding (he _ _ ?_)
   show wpAny _ _ (if (!true)=true then _ else _) _ _ _
   rw [if_neg (by decide)]
   refine wpAny_bind (wpAny_dictEpoch hoa hda ?_)
   rw [if_neg (by rw [bne_self_eq_false]; exact Bool.false_ne_true)]
   exact wpAny_pure ⟨rfl,rfl,x+1,hrest,hlt,hrr⟩
 ·rintro q s' ⟨rfl,rfl,i,hr,hi,hpre⟩
  exact wpAny_pure h
section
variable {a b:Addr} {ka kb:List (Str×Value)} {Q E:Value→Shared→Prop} (ha:(a==sysModules)=false) (hb:(b==sysModules)=false) (da:s.heap.DictOf (PySem.strKind c.prog c.w) a ka) (db:s.heap.DictOf (PySem.strKind c.prog c.w) b kb) (hlen:ka.length=kb.length) (hu:A.units < cLine) (hits:HitsT c A.in1 s kb ka)
include ha hb da db hlen hu hits
theorem rc_dictT (h:Q (.bool true) s):wpAny (model c.prog c.w) A (richCompare .Eq (.ref a) (.ref b)) Q E s:=by
 refine wpAny_richCompare_same_room (op:=.Eq) da.typeIs db.typeIs PySem.F.slot_dict_eq (wpAny_call_entry PySem.F.slot_dict_eq da.typeIs PySem.F.entry_dict_eq ?_ (PySem.F.args_dict_eq_2 _ _)) hu
 show wpAny _ _ (Builtin.Dict.dictSlotArgs "__eq__" ⟨[.ref a,.ref b],[]⟩ >>= _) _ _ s
 refine wpAny_bind ?_
 unfold Builtin.Dict.dictSlotArgs
 refine wpAny_bind (wpAny_notOrdered_dict da.typeIs ?_)
 show wpAny _ _ (pure (Value.ref a,Value.ref b)) _ _ s
 refine wpAny_pure ?_
 refine wpAny_bind (wpAny_isInstance (T:="dict") db.typeIs PySem.F.sub_dict_dict ?_)
 rw [if_neg (show ¬ (!true)=true by decide)]
 refine wpAny_bind (wpAny_pure (wpAny_bind (wpAny_pure ?_)))
 refine wpAny_bind (samePairsT ha hb da db hlen hits ?_)
 exact wpAny_pure ⟨_,rfl,(fun x=>by cases x),h⟩
end
end
end HL.Lake
end
noncomputable section
namespace HL.Lake
open PySem PySem.W PySem.Calls PyProof.Rows
mutual
noncomputable def V.pure:V→Bool
 | .none=>true
 | .bool _=>true
 | .int _=>true
 | .str _=>true
 | .list l=>V.pureL l
 | .dict l=>V.pureD l
 | _=>false
noncomputable def V.pureL:List V→Bool
 | []=>true
 | v :: r=>v.pure&&V.pureL r
noncomputable def V.pureD:List (Str×V)→Bool
 | []=>true
 | (_,v) :: r=>v.pure&&V.pureD r
end
mutual
noncomputable def V.dep:V→Nat
 | .list l=>V.depL l+1
 | .dict l=>V.depD l+1
 | _=>0
noncomputable def V.depL:List V→Nat
 | []=>0
 | v :: r=>max v.dep (V.depL r)
noncomputable def V.depD:List (Str×V)→Nat
 | []=>0
 | (_,v) :: r=>max v.dep (V.depD r)
end
noncomputable abbrev hp (h:Heap):PHeap:=fun x=>h.get? x
noncomputable def RcT (c:Cx) (A:Around) (s:Shared) (rv ru:Value):Prop:=∀ (E Q:Value→Shared→Prop),Q (.bool true) s→wpAny (model c.prog c.w) A (richCompare .Eq rv ru) Q E s
noncomputable def EqM (c:Cx) (s:Shared) (d:V):Prop:=∀ (A:Around) (rv ru:Value),d.pure=true→A.units+d.dep < cLine→Rel c.w.params (hp s.heap) [] [] d rv→Rel c.w.params (hp s.heap) [] [] d ru→EqT c A s rv ru∧∀ l,d=.list l→RcT c A s rv ru
noncomputable def EqML (c:Cx) (s:Shared) (l:List V):Prop:=∀ (A:Around) (xs ys:List Value),V.pureL l=true→A.units+V.depL l < cLine→RelL c.w.params (hp s.heap) [] [] l xs→RelL c.w.params (hp s.heap) [] [] l ys→∀ (j:Nat) (h1:j < xs.length) (h2:j < ys.length),EqT c A s xs[j] ys[j]
noncomputable def EqMD (c:Cx) (s:Shared) (l:List (Str×V)):Prop:=∀ (A:Around) (whole:List (Str×V)) (kvs kus:List (Str×Value)),V.pureD l=true→A.units+V.depD l < cLine→RelKw c.w.params (hp s.heap) [] [] l kvs→RelKw c.w.params (hp s.heap) [] [] whole kus→(whole.map (·.1)).Nodup→(∀ p∈l,p∈whole)→HitsT c A s kus kvs
theorem eqV {c:Cx} {s:Shared} (d:V):EqM c s d:=by
 have sm:∀ {A d rv},(∀ l,d≠V.list l)→EqT c A s rv rv∧∀ l,d=.list l→RcT c A s rv rv:=fun h=>⟨.same _,fun l e=>(h l e).elim⟩
 have no:∀ {d:V},d.pure=false→EqM c s d:=fun h z9 z9 z9 e=>by rw [h] at e; cases e
 have w1:∀ {A:Around} {k:Nat},A.units+(k+1) < cLine→A.in1.units+k < cLine:=fun {A k} h=>(Nat.add_right_comm A.units 1 k).symm▸h
 have w2:∀ {A:Around} {a b:Nat},A.units+max a b < cLine→A.units+a < cLine∧A.units+b < cLine:=fun h=>⟨Nat.lt_of_le_of_lt (Nat.add_le_add_left (Nat.le_max_left _ _) _) h,Nat.lt_of_le_of_lt (Nat.add_le_add_left (Nat.le_max_right _ _) _) h⟩
 refine V.rec (motive_1:=EqM c s) (motive_2:=EqML c s) (motive_3:=EqMD c s) (motive_4:=fun p=>EqM c s p.2) ?_ (fun z9=>?_) (fun i=>?_) (fun x=>?_) (fun z9=>no rfl) (fun z9=>no rfl) (fun z9=>no rfl) (fun z9 z9=>no rfl) (fun z9 z9=>no rfl) (fun l ih=>?_) (fun l ih=>?_) (fun z9 z9 z9=>no rfl) ?_ (fun v l i1 i2=>?_) ?_ (fun p l i1 i2=>?_) (fun z9 z9 h=>h) d
 ·intro A rv ru _ _ r r'
  obtain rfl:=r.inv
  obtain rfl:=r'.inv
  exact sm nofun
 ·intro A rv ru _ _ r r'
  obtain rfl:=r.inv
  obtain rfl:=r'.inv
  exact sm nofun
 ·intro A rv ru _ _ r r'
  obtain ⟨t,rfl⟩:=r.inv
  obtain ⟨u,rfl⟩:=r'.inv
  have:=SeqAt.EqAt.int_int (A:=A) (s:=s) i t i u
  rw [beq_self_eq_true] at this
  exact ⟨eqT_of this,nofun⟩
 ·intro A rv ru _ _ r r'
  obtain ⟨t,rfl⟩:=r.inv
  obtain ⟨u,rfl⟩:=r'.inv
  have:=SeqAt.EqAt.str_str (A:=A) (s:=s) x t x u
  rw [beq_self_eq_true] at this
  exact ⟨eqT_of this,nofun⟩
 ·intro A rv ru hp' hd r r'
  obtain ⟨x,xs,k,rfl,hg,rs⟩:=r.inv
  obtain ⟨y,ys,k',rfl,hg',rs'⟩:=r'.inv
  have h:=ih A.in1 xs ys hp' (w1 hd) rs rs'
  have rc:RcT c A s (.ref x) (.ref y):=fun z9 z9 q=>rc_listT hg hg' ((relL_len rs).trans (relL_len rs').symm) (Nat.lt_of_le_of_lt (Nat.le_add_right _ _) hd) (fun j j1 j2=>h j j1 j2) q
  exact ⟨.of_rc fun z9=>rc,fun z9 z9=>rc⟩
 ·intro A rv ru hp' hd r r'
  obtain ⟨x,es,k,rfl,hg,hx,rs,nd⟩:=r.inv
  obtain ⟨y,es',k',rfl,hg',hy,rs',nd'⟩:=r'.inv
  obtain ⟨kvs,d1,k1⟩:=rel_dictOf (c:=c) rfl hg rs nd
  obtain ⟨kus,d2,k2⟩:=rel_dictOf (c:=c) rfl hg' rs' nd'
  have h:kvs.length=kus.length:=by have:=congrArg List.length (k1.keys.trans k2.keys.symm); rwa [List.length_map,List.length_map] at this
  exact ⟨.of_rc fun z9 z9 z9 q=>rc_dictT (sysNe hx) (sysNe hy) d1 d2 h (Nat.lt_of_le_of_lt (Nat.le_add_right _ _) hd) (ih A.in1 l kvs kus hp' (w1 hd) k1 k2 nd' fun z9 h=>h) q,nofun⟩
 ·intro A xs ys _ _ r _ j h1
  cases r
  exact absurd h1 (Nat.not_lt_zero _)
 ·intro A xs ys hp' hd r r' j h1 h2
  cases r with
  | cons r rs=>cases r' with
   | cons r' rs'=>cases j with
    | zero=>exact (i1 A _ _ (andT hp').1 (w2 hd).1 r r').1
    | succ j=>exact i2 A _ _ (andT hp').2 (w2 hd).2 rs rs' j (Nat.lt_of_succ_lt_succ h1) (Nat.lt_of_succ_lt_succ h2)
 ·intro A whole kvs kus _ _ r _ _ _
  obtain rfl:=(r:kvs=[])
  exact .nil
 ·intro A whole kvs kus hp' hd r h nd hin
  obtain ⟨q,kvs,rfl,r,rs⟩:=(r:∃ y t,kvs=y :: t∧(p.1=y.1∧Rel c.w.params (hp s.heap) [] [] p.2 y.2)∧RelKw c.w.params (hp s.heap) [] [] l t)
  obtain ⟨k,u⟩:=p
  obtain ⟨_,v⟩:=q
  obtain ⟨rfl,r⟩:=r
  obtain ⟨ru,e,r'⟩:=h.at nd (hin _ (.head _))
  exact .hit e (i1 A _ _ (andT hp').1 (w2 hd).1 r r').1 (i2 A whole _ kus (andT hp').2 (w2 hd).2 rs h nd fun p hp=>hin p (.tail _ hp))
theorem V.pure_mono {P:Params} {g g':PHeap} {a b:List Addr} (h:∀ x o,g x=some o→g' x=some o) {v:V} {rv:Value} (hp:v.pure=true) (hr:Rel P g a b v rv):Rel P g' [] [] v rv:=@Rel.rec P g a b (fun v rv z9=>v.pure=true→Rel P g' [] [] v rv) (fun v rv z9=>V.pureL v=true→RelL P g' [] [] v rv) (fun v rv z9=>V.pureD v=true→RelD P g' [] [] v rv) (fun z9=>.none) (fun z9=>.bool) (fun z9=>.int) (fun z9=>.str) (fun e=>absurd (show false=true from e) Bool.false_ne_true) (fun z9 e=>absurd (show false=true from e) Bool.false_ne_true) (fun z9 e=>absurd (show false=true from e) Bool.false_ne_true) (fun z9 z9 e=>absurd (show false=true from e) Bool.false_ne_true) (fun z9 z9 z9 e=>absurd (show false=true from e) Bool.false_ne_true) (fun hg z9 ih e=>.list (h _ _ hg) (ih e)) (fun hg q z9 n ih e=>.dict (h _ _ hg) q (ih e) n) (fun z9 z9 z9 e=>absurd (show false=true from e) Bool.false_ne_true) (fun z9=>.nil) (fun z9 z9 i1 i2 e=>.cons (i1 (andT e).1) (i2 (andT e).2)) (fun z9=>.nil) (fun z9 z9 i1 i2 e=>.cons (i1 (andT e).1) (i2 (andT e).2)) _ _ hr hp
theorem V.pureL_mono {P:Params} {g g':PHeap} {a b:List Addr} (h:∀ x o,g x=some o→g' x=some o) {v:List V} {rv:List Value} (hp:V.pureL v=true) (hr:RelL P g a b v rv):RelL P g' [] [] v rv:=RelL.ind (M:=fun v rv=>V.pureL v=true→RelL P g' [] [] v rv) (fun z9=>.nil) (fun z9 z9 z9 z9 r z9 ih e=>.cons (V.pure_mono h (andT e).1 r) (ih (andT e).2)) hr hp
end HL.Lake
end
noncomputable section
namespace HL.Lake
open PySem PySem.W PySem.Calls PyProof.Rows
theorem well_ints {P:Params} {h:Heap} {g:PHeap} {ls:List Int}:∀ {vs:List Value},WellAll P h vs (ofPys (ls.map PyData.int))→RelL P g [] [] (ls.map V.int) vs:=by
 induction ls with
 | nil=>intro _ h; cases (h:WellAll P _ _ []); exact .nil
 | cons i ls ih =>
  intro _ h
  cases (h:WellAll P _ _ (ofPy (.int i) :: ofPys (ls.map PyData.int))) with
  | cons a b=>cases (a:Well P _ _ (.int i)); exact .cons .int (ih b)
theorem CallS.up {c:Cx} {k n:Nat} {f:Value} {vs:List V} {kw:List (Str×V)} {Q:V→List AO→Prop} {X:List AO→Prop} {W:List AO} (h:CallS c k f vs kw Q X W) (hk:k≤n):CallS c n f vs kw Q X W :=
 fun A s b g k' kf rvs rkw hR=>h A s b g k' kf rvs rkw (hR.mono hk)
theorem gkL_cons (g:GenState) (r:List GenState):gkL (g :: r)=g :: gkL r∨gkL (g :: r)=[]∧gkL r=[]∧g=.finished:=by
 show gkS g (gkL r)=_∨gkS g (gkL r)=[]∧_
 cases gkL r with
 | cons a b=>exact .inl rfl
 | nil=>cases g with
  | finished=>exact .inr ⟨rfl,rfl,rfl⟩
  | _=>exact .inl rfl
theorem gkL_split (l:List GenState):∃ f,l=gkL l++f∧∀ y∈f,y=.finished:=by
 induction l with
 | nil=>exact ⟨[],rfl,fun z9 h=>nomatch h⟩
 | cons g r ih =>
  obtain ⟨f,h1,h2⟩:=ih
  rcases gkL_cons g r with h | ⟨h,h',rfl⟩
  ·exact ⟨f,by rw [h]; exact congrArg _ h1,h2⟩
  ·rw [h',List.nil_append] at h1
   exact ⟨.finished :: r,by rw [h]; rfl,fun y hy=>(List.mem_cons.mp hy).elim id fun hy=>h2 y (h1▸hy)⟩
theorem gkL_nil {l:List GenState} (h:gkL l=[]):∀ x∈l,x.bare=true:=fun x hx=>by
 obtain ⟨f,h1,h2⟩:=gkL_split l
 rw [h,List.nil_append] at h1
 rw [h2 x (h1▸hx)]; rfl
theorem bare_of_gk {a:Array GenState} (h:gk a=gk #[]):AllBare a:=fun x hx=>gkL_nil (h.trans rfl) x (Array.mem_toList_iff.mpr hx)
theorem law_end {prog:Program} {w:World} {K:Frag} {claim:ClaimW} {cl:Str→Option Addr} {mean:ExcName→Option Value} {args:List WData} {p:Program} {loose:List Str} {mn:ExcName→Option Value} {s₁:Shared} {mg mb:Str→Option Value} {h₁:Heap} {fa a:Addr} {cd:Value} {name:Str} {sc:Scope} {body:List Stmt} {ls:List Int} {tk:Nat} {x:Str} {others:List Str} {E:Value→Shared→Prop}
  (KX:K.In s₁.heap) (T:Top p loose mn mg mb s₁.heap) (hg:s₁.gens=#[]) (F:Fr s₁.heap s₁.heap.objs.size h₁ (fun y=>[(x,Value.ref a)].reverse.lookup y)) (w1:Well w.params s₁.heap (.ref a) (ofPy (.list (ls.map .int))))
  (hk:sc.kind=.function) (hnd:([x]++others).Nodup)
  (h:∀ c:Cx,c.prog=prog→c.w=w→c.K=K→∀ env,EnvOk env sc→EnvF env→WS c 29 env body (fun fl z9=>fl=.ret (.bool true)) (fun z9=>False) ⟨loc0 [(x,.list (ls.map V.int))] others,[],[]⟩)
  (hn:∀ cls,claim.raises args cls=false) (hp:claim.post args (.bool true) args=true) :
  wpAny (model prog w) (callerA.deeper (envOf name sc s₁.heap.objs.size fa cd)) (execs body (envOf name sc s₁.heap.objs.size fa cd)) (fun f s'=>GoodWG claim cl mean args s₁ (.ok (.ret (match f with | .ret v=>v | _=>.none))) s') E { s₁ with heap:=h₁,toks:=tk }:=by
 let c:Cx:={ prog:=prog,w:=w,K:=K,h₀:=s₁.heap,mg:=mg,mb:=mb,X:=KX,nl:=T.nolimit,g:=T.g,b:=T.b,bi:=T.builtins,nd:=T.nodigits }
 let ω:Wd:={ s:={ s₁ with heap:=h₁,toks:=tk },m:=fun y=>[(x,Value.ref a)].reverse.lookup y,a:=[],b:=[],g:=fun y=>s₁.heap.get? y,k:=fun z9=>none,kf:=fun z9=>none }
 have he:EnvOk (envOf name sc s₁.heap.objs.size fa cd) sc:=⟨rfl,hk,rfl,rfl⟩
 have hf:EnvF (envOf name sc s₁.heap.objs.size fa cd):=⟨rfl,rfl⟩
 have hnew:s₁.heap.get? s₁.heap.objs.size=none:=by
  cases q:s₁.heap.get? s₁.heap.objs.size with
  | none=>rfl
  | some o=>exact absurd (Heap.lt_size q) (Nat.lt_irrefl _)
 have S:Sat c (envOf name sc s₁.heap.objs.size fa cd).locals ⟨loc0 [(x,.list (ls.map V.int))] others,[],[]⟩ ω:=by
  refine ⟨F.ns,fun y o e=>F.keep y o e,fun y o e=>e,⟨Nat.le_refl _,fun y hy=>(by cases hy)⟩,?_,?_,⟨rfl,fun i o e=>(by cases e)⟩,⟨rfl,fun i o e=>(by cases e)⟩,List.nodup_cons.mpr ⟨fun h=>(by cases h),List.nodup_nil⟩,fun y hy=>(List.mem_singleton.mp hy)▸hnew,fun z9 z9 e=>(by cases e),fun z9 z9=>rfl,fun z9 z9 e=>(by cases e),fun z9 z9=>rfl,fun z9 z9 e=>(by cases e),fun z9 z9 e=>(by cases e)⟩
  ·intro y v m
   refine gC fun G hG=>?_
   rcases List.mem_append.mp m with m | m
   ·cases List.mem_singleton.mp m
    refine hG ⟨.ref a,List.lookup_cons_self,?_⟩
    cases (w1:Well w.params _ _ (.list (ofPys (ls.map .int)))) with
    | list e r=>exact .list e (well_ints r)
   ·obtain ⟨q,hq,e⟩:=List.mem_map.mp m
    cases e
  ·show (List.map _ (_++_)).Nodup
   rw [List.map_append,List.map_map,List.map_map]
   exact (List.map_id others).symm▸hnd
 have hR:Here c 29 (envOf name sc s₁.heap.objs.size fa cd) (callerA.deeper (envOf name sc s₁.heap.objs.size fa cd)) ω.kf:=by
  refine ⟨⟨show 1+claimMargin+1+10 * 29 < 600 by decide,show 4+3+50 * 29 < 9000 by decide,rfl⟩,⟨[envOf name sc s₁.heap.objs.size fa cd],rfl,fun e he'=>?_⟩,fun z9=>⟨[],rfl,fun z9 h=>nomatch h⟩⟩
  rw [List.mem_singleton] at he'
  subst he'
  exact ⟨by show sc.kind≠_; rw [hk]; decide,_,rfl,hnew,.inl rfl⟩
 refine wpAny_mono (h c rfl rfl rfl _ he hf _ ω hR S) ?_ fun z9 z9 p=>p.no
 refine Post.all fun f fl σ' ω' l S' r hz32=>?_
 obtain rfl:=hz32
 cases r with
 | ret r =>
  (first | obtain rfl:=r.inv | obtain ⟨_,rfl⟩:=r.inv | cases r)
  have q:GoodW claim cl mean args s₁ (.ok (.ret (.bool true))) { ω'.s with gens:=#[] }:=goodW_bool S'.fr rfl hn hp l.os
  exact ⟨q.1,.of_keep q.2.1,q.2.2.1,bare_of_gk (l.gens.trans (congrArg gk hg))⟩
end HL.Lake
end
noncomputable section
namespace HL.Lake
open PySem PySem.W PySem.Calls PyProof.Rows
noncomputable def nodupB:List Str→Bool
 | []=>true
 | x :: r=>!r.contains x&&nodupB r
theorem nodupB_iff:∀ {l:List Str},nodupB l=true→l.Nodup
 | [],_=>.nil
 | x :: r,h=>by
  simp only [nodupB,Bool.and_eq_true,Bool.not_eq_true'] at h
  refine List.nodup_cons.mpr ⟨fun m=>?_,nodupB_iff h.2⟩
  rw [List.contains_iff_mem.mpr m] at h
  cases h.1
noncomputable def fnOk (fd:FuncData) (ks others:List Str):Bool :=
 fd.globals==mainGlobals&&fd.builtins==builtinsNs&&fd.scope.kind==.function&&!fd.scope.isCoroutine&&!fd.scope.isGenerator&&nodupB (ks++others)&&ks.all (fun x=>fd.scope.names.lookup x==some .local)&&fd.scope.names.all (fun x=>x.2 != .cell)
section
variable {c:Cx} {n:Nat} {X:List AO→Prop} {Q:V→List AO→Prop}
theorem callS_go {f:Addr} {fd:FuncData} {body:List Stmt} {vs:List V} {kw bs:List (Str×V)} {ks others:List Str} {W₀:List AO} (hl:∃ o,c.K.lookup f=some o∧o.data=.func fd) (hb:fd.body=.stmts body) (hks:bs.map (·.1)=ks) (hok:fnOk fd ks others=true) (hcode:codeIn c.K fd.code fd.qualname=true) (hbind:Binds c fd vs kw bs)
  (h:∀ env,EnvOk env fd.scope→EnvF env→WS c n env body (RetP Q) (fun σ=>X σ.W) ⟨loc0 bs others,[],W₀⟩):CallS c (n+1) (.ref f) vs kw Q X W₀:=by
 subst hks
 simp only [fnOk,Bool.and_eq_true,beq_iff_eq,Bool.not_eq_true',List.all_eq_true,bne_iff_ne,ne_eq] at hok
 refine gC fun G hG=>?_
 obtain ⟨⟨⟨⟨⟨⟨⟨h1,h2⟩,h3⟩,h4⟩,h5⟩,h6⟩,h7⟩,h8⟩:=hok
 refine hG ?_
 exact callS_def ⟨hl,hb,rfl,h1,h2,hcode,h3,h4⟩ hbind (nodupB_iff h6) (fun x hx=>h7 x hx) (fun x hx=>h8 x hx) h h5
noncomputable abbrev StatL (c:Cx):List (Str×V)→List (Str×Value)→Prop:=F2 fun p q=>p.1=q.1∧Stat c p.2 q.2
theorem StatL.rel {l:List (Str×V)} {rl:List (Str×Value)} (h:StatL c l rl) {g:PHeap} {b:List Addr} (hg:∀ x o,c.K.lookup x=some o→g x=some o):RelKw c.w.params g [] b l rl:=by
 induction h using F2.ind with
 | nil=>exact .nil
 | cons a _ ih=>exact .cons ⟨a.1,(a.2 g hg).mono ⟨fun z9 z9 h=>h,fun z9 z9 h=>h,fun z9 z9 h=>(Lake.nn rfl h)⟩⟩ ih
variable {fd:FuncData} {v1 v2 v3 v4:V} {x1 x2 x3 x4:Str} {dl:List (Str×V)} {ds:List (Str×Value)}
theorem binds0 (h:∀ s:Shared,c.K.In s.heap→BindsTo s fd ⟨[],[]⟩ ds) (hs:StatL c dl ds):Binds c fd [] [] dl:=fun s g b rvs rkw X hg hv hk=>by
 obtain rfl:=(hk:rkw=[]); cases hv
 exact ⟨_,h s X,hs.rel hg⟩
theorem binds1 (h:∀ s:Shared,c.K.In s.heap→∀ a,BindsTo s fd ⟨[a],[]⟩ ((x1,a) :: ds)) (hs:StatL c dl ds):Binds c fd [v1] [] ((x1,v1) :: dl):=fun s g b rvs rkw X hg hv hk=>by
 obtain rfl:=(hk:rkw=[])
 obtain ⟨a,rfl,r⟩:=hv.one
 exact ⟨_,h s X a,.cons ⟨rfl,r⟩ (hs.rel hg)⟩
theorem binds2 (h:∀ s:Shared,c.K.In s.heap→∀ a b,BindsTo s fd ⟨[a,b],[]⟩ ((x1,a) :: (x2,b) :: ds)) (hs:StatL c dl ds):Binds c fd [v1,v2] [] ((x1,v1) :: (x2,v2) :: dl):=fun s g b rvs rkw X hg hv hk=>by
 obtain rfl:=(hk:rkw=[])
 obtain ⟨a,b',rfl,r,r'⟩:=hv.two
 exact ⟨_,h s X a b',.cons ⟨rfl,r⟩ (.cons ⟨rfl,r'⟩ (hs.rel hg))⟩
theorem binds3 (h:∀ s:Shared,c.K.In s.heap→∀ a b d,BindsTo s fd ⟨[a,b,d],[]⟩ ((x1,a) :: (x2,b) :: (x3,d) :: ds)) (hs:StatL c dl ds):Binds c fd [v1,v2,v3] [] ((x1,v1) :: (x2,v2) :: (x3,v3) :: dl):=fun s g b rvs rkw X hg hv hk=>by
 obtain rfl:=(hk:rkw=[])
 refine gC fun G hG=>?_
 obtain ⟨a,b',d,rfl,r,r',r''⟩:=hv.three
 refine hG ?_
 exact ⟨_,h s X a b' d,.cons ⟨rfl,r⟩ (.cons ⟨rfl,r'⟩ (.cons ⟨rfl,r''⟩ (hs.rel hg)))⟩
end
noncomputable def seqIn (K:Frag) (ty:String) (a:Addr):Option (List Value):=(K.lookup a).bind fun o=>match o with
 | ⟨.type t,none,.seq xs _,⟨[]⟩⟩=>bif t==ty then some xs.toList else none
 | _=>none
theorem seqIn_get {K:Frag} {ty:String} {a:Addr} {xs:List Value} (h:seqIn K ty a=some xs):∃ n,K.lookup a=some { cls:=.type ty,data:=.seq xs.toArray n }:=by
 obtain ⟨⟨cl,d,dt,⟨sl⟩⟩,e,h⟩:=Option.bind_eq_some_iff.mp h
 refine gC fun G hG=>?_
 refine hG ?_
 have no:∀ {P:Prop},(none:Option (List Value))=some xs→P:=fun h=>nomatch h
 suffices q:∃ n,(⟨cl,d,dt,⟨sl⟩⟩:Obj)={ cls:=.type ty,data:=.seq xs.toArray n } from let ⟨n,q⟩:=q; ⟨n,e.trans (congrArg some q)⟩
 clear e
 revert h
 cases cl with
 | type t=>cases d with
  | some _=>exact no
  | none=>cases dt with
   | seq ys n=>cases sl with
    | cons _ _=>exact no
    | nil =>
     intro h
     obtain ⟨ht,h⟩:=bifT h
     cases h
     cases beq_iff_eq.mp ht
     exact ⟨n,rfl⟩
   | _=>exact no
 | _=>exact no
mutual
noncomputable def statB (K:Frag):V→Value→Bool
 | .none,rv=>match rv with | .none=>true | _=>false
 | .bool b,rv=>match rv with | .bool b'=>b==b' | _=>false
 | .int i,rv=>match rv with | .int j _=>i==j | _=>false
 | .str x,rv=>match rv with | .str y _=>x==y | _=>false
 | .tup l,rv=>match rv with | .ref a=>(match seqIn K "tuple" a with | some xs=>statBL K l xs | none=>false) | _=>false
 | .list l,rv=>match rv with | .ref a=>(match seqIn K "list" a with | some xs=>statBL K l xs | none=>false) | _=>false
 | _,_=>false
noncomputable def statBL (K:Frag):List V→List Value→Bool
 | [],xs=>xs.isEmpty
 | v :: l,xs=>match xs with | x :: xs=>statB K v x&&statBL K l xs | []=>false
end
mutual
theorem statB_rel {K:Frag} {P:Params} {g:PHeap} (hg:∀ x o,K.lookup x=some o→g x=some o):∀ (v:V) (rv:Value),statB K v rv=true→Rel P g [] [] v rv
 | .none,rv,h=>by
  cases rv with
  | none=>exact .none
  | _=>exact absurd (show false=true from h) (by decide)
 | .bool b,rv,h=>by
  cases rv with
  | bool b'=>rw [beq_iff_eq.mp (show (b==b')=true from h)]; exact .bool
  | _=>exact absurd (show false=true from h) (by decide)
 | .int i,rv,h=>by
  cases rv with
  | int j t=>rw [beq_iff_eq.mp (show (i==j)=true from h)]; exact .int
  | _=>exact absurd (show false=true from h) (by decide)
 | .str x,rv,h=>by
  cases rv with
  | str y t=>rw [beq_iff_eq.mp (show (x==y)=true from h)]; exact .str
  | _=>exact absurd (show false=true from h) (by decide)
 | .tup l,rv,h=>by
  cases rv with
  | ref a =>
   have h:(match seqIn K "tuple" a with | some xs=>statBL K l xs | none=>false)=true:=h
   cases e:seqIn K "tuple" a with
   | none=>rw [e] at h; cases h
   | some xs =>
    rw [e] at h
    obtain ⟨n,e'⟩:=seqIn_get e
    exact .tup (hg _ _ e') (statBL_rel (P:=P) hg l xs h)
  | _=>exact absurd (show false=true from h) (by decide)
 | .list l,rv,h=>by
  cases rv with
  | ref a =>
   have h:(match seqIn K "list" a with | some xs=>statBL K l xs | none=>false)=true:=h
   cases e:seqIn K "list" a with
   | none=>rw [e] at h; cases h
   | some xs =>
    rw [e] at h
    obtain ⟨n,e'⟩:=seqIn_get e
    exact .list (hg _ _ e') (statBL_rel (P:=P) hg l xs h)
  | _=>exact absurd (show false=true from h) (by decide)
 | .dict _,_,h=>absurd (show false=true from h) (by decide)
 | .st _,_,h=>absurd (show false=true from h) (by decide)
 | .ob _,_,h=>absurd (show false=true from h) (by decide)
 | .lo _,_,h=>absurd (show false=true from h) (by decide)
 | .inst _ _,_,h=>absurd (show false=true from h) (by decide)
 | .meth _ _,_,h=>absurd (show false=true from h) (by decide)
theorem statBL_rel {K:Frag} {P:Params} {g:PHeap} (hg:∀ x o,K.lookup x=some o→g x=some o):∀ (l:List V) (xs:List Value),statBL K l xs=true→RelL P g [] [] l xs
 | [],xs,h=>by
  rw [List.isEmpty_iff.mp (show xs.isEmpty=true from h)]; exact .nil
 | v :: l,[],h=>absurd (show false=true from h) (by decide)
 | v :: l,x :: xs,h=>by
  have h:(statB K v x&&statBL K l xs)=true:=h
  rw [Bool.and_eq_true] at h
  exact .cons (statB_rel hg v _ h.1) (statBL_rel hg l _ h.2)
end
theorem Stat.of {c:Cx} {v:V} {rv:Value} (h:statB c.K v rv=true):Stat c v rv:=fun z9 hg=>statB_rel hg v rv h
end HL.Lake
end
noncomputable section
namespace HL.Lake
open PySem PySem.W PySem.Calls PyProof.Rows
section
variable {c:Cx} {n:Nat} {env:Env} {X:St→Prop} {σ:St} {pos:Pos} {sc:Scope}
noncomputable def PB (c:Cx) (n:Nat) (env:Env) (e:PySem.Expr) (b:Bool) (X:St→Prop) (σ:St):Prop:=∀ Q:V→St→Prop,Q (.bool b) σ→WE c n env e Q X σ
noncomputable def PE (c:Cx) (n:Nat) (env:Env) (e:PySem.Expr) (v:V) (X:St→Prop) (σ:St):Prop:=∀ Q:V→St→Prop,Q v σ→WE c n env e Q X σ
theorem pb_or {e₁ e₂:PySem.Expr} {rest:List PySem.Expr} {b₁ b₂:Bool} (h₁:PB c n env e₁ b₁ X σ) (h₂:PB c n env (.BoolOp .Or (e₂ :: rest) pos) b₂ X σ):PB c n env (.BoolOp .Or (e₁ :: e₂ :: rest) pos) (b₁||b₂) X σ:=fun Q q=>by
 refine e_or (h₁ _ (tv_bool ?_))
 cases b₁ with
 | true=>simpa using q
 | false=>exact h₂ _ (by simpa using q)
theorem pb_and {e₁ e₂:PySem.Expr} {rest:List PySem.Expr} {b₁ b₂:Bool} (h₁:PB c n env e₁ b₁ X σ) (h₂:PB c n env (.BoolOp .And (e₂ :: rest) pos) b₂ X σ):PB c n env (.BoolOp .And (e₁ :: e₂ :: rest) pos) (b₁&&b₂) X σ:=fun Q q=>by
 refine e_and (h₁ _ (tv_bool ?_))
 cases b₁ with
 | false=>simpa using q
 | true=>exact h₂ _ (by simpa using q)
noncomputable def PL (c:Cx) (n:Nat) (env:Env) (pos:Pos) (es:List PySem.Expr) (vs:List V) (X:St→Prop) (σ:St):Prop:=∀ Q:List V→St→Prop,Q vs σ→WL c n env pos es Q X σ
theorem pl_nil:PL c n env pos [] [] X σ:=fun Q q=>wl_nil q
theorem pl_cons {e:PySem.Expr} {es:List PySem.Expr} {v:V} {vs:List V} (hs:notStar e=true) (h₁:PE c n env e v X σ) (h₂:PL c n env pos es vs X σ):PL c n env pos (e :: es) (v :: vs) X σ:=fun Q q=>wl_cons hs (h₁ _ (h₂ _ q))
theorem pe_tup {es:List PySem.Expr} {vs:List V} {k:Nat} (h:PL c n env pos es vs X σ) (hl:decide (vs.length≤4096)=true):PE c n env (.Tuple es k pos) (.tup vs) X σ:=fun Q q=>e_tup (h _ ⟨of_decide_eq_true hl,q⟩)
end
end HL.Lake
end
noncomputable section
namespace HL.Lake
open PySem PySem.W PySem.Calls PyProof.Rows
theorem noKey {l:List (Str×V)} {x:Str} (h:(l.map (·.1)).contains x=false):x ∉ l.map (·.1):=fun m=>by rw [List.contains_iff_mem.mpr m] at h; cases h
section
variable {c:Cx} {n:Nat} {env:Env} {X:St→Prop} {σ:St} {pos:Pos} {sc:Scope}
theorem pe_slice {e:PySem.Expr} {lo hi:Option PySem.Expr} {sp:Pos} {o r:V} {a b:Option Int} (h:PE c n env e o X σ) (h₁:∀ Q,Q a σ→WP c n env lo Q X σ) (h₂:∀ Q,Q b σ→WP c n env hi Q X σ) (hr:SlOf σ a b o r):PE c n env (.Subscript e (.Slice lo hi none sp) pos) r X σ:=fun Q q=>e_slice (h _ (h₁ _ (h₂ _ ⟨r,hr,q⟩)))
end
end HL.Lake
end
noncomputable section
namespace HL.Lake
open PySem PySem.W PySem.Calls PyProof.Rows
theorem slS_le {x:Str} {a b:Option Int} {m:Nat} (h:x.length≤m):(slS x a b).length≤m:=by
 refine Nat.le_trans ?_ h
 have:=sl_len x.cps.toList a b
 simpa [slS,Str.length] using this
noncomputable def Gl (c:Cx) (x:Str) (v:V):Prop:=∃ rv,nsIn c.K mainGlobals x=some (some rv)∧Stat c v rv
theorem e_glob {c:Cx} {n:Nat} {env:Env} {sc:Scope} {pos:Pos} {σ:St} {X:St→Prop} {Q:V→St→Prop} {x:Str} {v:V} (he:EnvOk env sc) (hk:(sc.names.lookup x==some .globalImplicit)=true) (hd:(x==("__debug__":Str))=false) (hg:Gl c x v) (h:Q v σ):WE c n env (.Name x pos) Q X σ:=by
 obtain ⟨rv,h1,h2⟩:=hg
 exact e_global he hk hd h1 h2 h
section
variable {c:Cx} {n:Nat} {env:Env} {σ:St} {X:St→Prop} {Q:V→St→Prop}
theorem cv_count_nl {x y:Str} {off:Int} (hy:y=⟨#[10]⟩) (h0:0≤off) (ho:off≤x.length) (h:Q (.int (cntIn 10 (x.cps.toList.take off.toNat))) σ):CV c n env (.st (.builtin "str.count")) [.str x,.str y,.int 0,.int off] Q X σ:=by
 subst hy; exact cv_count4 h0 ho h
theorem cv_rfind_nl {x y:Str} {off:Int} (hy:y=⟨#[10]⟩) (h0:0≤off) (ho:off≤x.length) (h:Q (.int (match lastIn 10 (x.cps.toList.take off.toNat) with | some i=>(i:Int) | none=>-1)) σ):CV c n env (.st (.builtin "str.rfind")) [.str x,.str y,.int 0,.int off] Q X σ:=by
 subst hy; exact cv_rfind4 h0 ho h
end
end HL.Lake
end
noncomputable section
namespace HL.Lake
open PySem PySem.W PySem.Calls PyProof.Rows
open PySem.Builtin PySem.Builtin.Str
theorem occ_nil_run (x y:Str) (hi limit:Nat) (h:∀ i,¬ (i+y.length≤hi∧subAt x y i=true)) (m:Nat):∀ (i:Nat) (st:Array Nat×Nat),(forIn (m:=Id) (List.range' i m) st (StrLaws.occBody x y hi limit)).run=st:=by
 induction m with
 | zero=>exact fun z9 z9=>rfl
 | succ m ih =>
  intro i st
  rw [List.range'_succ,List.forIn_cons]
  unfold StrLaws.occBody
  rw [if_neg (fun q=>h i ⟨q.1.2,q.2⟩)]
  exact ih (i+1) _
theorem occ_none {x y:Str} {k:Nat} (hy:y.cps[0]?=some k) (hk:∀ a∈x.cps.toList,a≠k):occurrences x y 0 x.length (x.length+1)=[]:=by
 rw [StrLaws.occ_eq]
 have:=occ_nil_run x y x.length (x.length+1) (fun i q=>by
  have h2:=q.2
  unfold subAt at h2
  have e:x.cps.extract i (i+y.length)=y.cps:=eq_of_beq h2
  rw [← e] at hy
  rw [Array.getElem?_extract] at hy
  split at hy
  ·obtain ⟨hlt,he⟩:=Array.getElem?_eq_some_iff.mp hy
   exact hk k (by rw [← he]; exact Array.mem_toList_iff.mpr (Array.getElem_mem ..)) rfl
  ·cases hy) (x.length+1) 0 (#[],0)
 simp only [Nat.sub_zero]
 rw [this]
section
variable {c:Cx} {n:Nat} {env:Env} {σ:St} {X:St→Prop} {Q:V→St→Prop}
theorem cv_replace_cr {x y z:Str} (hy:y.cps[0]?=some 13) (hk:∀ a∈x.cps.toList,a≠13) (h:Q (.str x) σ):CV c n env (.st (.builtin "str.replace")) [.str x,.str y,.str z] Q X σ:=cv_replace_none (occ_none hy hk) h
theorem binds_D {K:Frag} {s:Shared} {fd:FuncData} {args:Args} {binds:List (Str×Value)} {T:Addr} {xs:List Value} {k:Option (Array Value)→Sem (List (Str×Value))} (X:K.In s.heap) (hd:fd.defaults=.ref T) (ho:seqIn K "tuple" T=some xs)
  (h₁:bindArgs fd args=seqItems? fd.defaults >>= k) (h₂:k (some xs.toArray)=pure binds):BindsTo s fd args binds:=by
 obtain ⟨n,e⟩:=seqIn_get ho
 exact binds_K X hd e rfl h₁ h₂
end
end HL.Lake
end
noncomputable section
namespace HL.Lake
open PySem PySem.W PySem.Calls PyProof.Rows
section
variable {c:Cx} {n:Nat} {env:Env} {σ:St} {X:St→Prop} {Q:V→St→Prop}
noncomputable def flatVal:V→Nat→Value
 | .str s,t=>.str s t
 | .int i,t=>.int i t
 | _,_=>.none
noncomputable def isSI:V→Bool
 | .str _=>true
 | .int _=>true
 | _=>false
noncomputable def mkE (P:Params) (L:List (Str×Nat×V×Nat)):List DictEntry:=L.map fun p=>⟨PyData.keyHash P p.1,.str p.1 p.2.1,flatVal p.2.2.1 p.2.2.2⟩
noncomputable def tabL (L:List (Str×Nat×V×Nat)):List (Str×V):=L.map fun p=>(p.1,p.2.2.1)
theorem relD_tab {P:Params} {g:PHeap} {a b:List Addr} {L:List (Str×Nat×V×Nat)} (h:L.all (fun p=>isSI p.2.2.1)=true):RelD P g a b (tabL L) (mkE P L):=by
 induction L with
 | nil=>exact .nil
 | cons p L ih =>
  obtain ⟨k,t,v,t'⟩:=p
  have h:(isSI v&&L.all (fun p=>isSI p.2.2.1))=true:=h
  refine .cons ?_ (ih (andT h).2)
  have h:=(andT h).1
  cases v with
  | str s=>exact .str
  | int i=>exact .int
  | _=>cases h
theorem Stat.tab {a:Addr} {L:List (Str×Nat×V×Nat)} {k:Nat} (h:c.K.lookup a=some (dictOf (mkE c.w.params L) k)) (h1:1 < a) (hs:L.all (fun p=>isSI p.2.2.1)=true) (nd:((tabL L).map (·.1)).Nodup):Stat c (.dict (tabL L)) (.ref a):=fun g hg=>.dict (hg _ _ h) h1 (relD_tab hs) nd
end
end HL.Lake
end
noncomputable section
namespace HL.Lake
open PySem PySem.W PySem.Calls PyProof.Rows
section
variable {c:Cx} {n:Nat} {env:Env} {σ:St} {X:St→Prop} {Q:V→St→Prop} {pos:Pos} {rest:List Stmt}
noncomputable def mkI (L:List (Int×Nat×Str×Nat)):List DictEntry:=L.map fun p=>⟨hashInt p.1,.int p.1 p.2.1,.str p.2.2.1 p.2.2.2⟩
theorem pairsI {prog:Program} {w:World} (L:List (Int×Nat×Str×Nat)):Pairs (intKind prog w) (mkI L) (L.map fun p=>(p.1,Value.str p.2.2.1 p.2.2.2)):=by
 induction L with
 | nil=>exact .nil
 | cons p L ih=>exact .cons (e:=⟨hashInt p.1,.int p.1 p.2.1,.str p.2.2.1 p.2.2.2⟩) (kv:=(p.1,Value.str p.2.2.1 p.2.2.2)) (by simp [intKind,Value.isInt]) rfl ih
theorem dictI {prog:Program} {w:World} {h:Heap} {d:Addr} {L:List (Int×Nat×Str×Nat)} {k:Nat} (e:h.get? d=some (dictOf (mkI L) k)) (nd:(L.map (·.1)).Nodup):h.DictOf (intKind prog w) d (L.map fun p=>(p.1,Value.str p.2.2.1 p.2.2.2)):=by
 refine ⟨_,(mkI L).toArray,k,e,⟨rfl,rfl,rfl⟩,rfl,?_,pairsI L,by rw [List.map_map]; exact nd⟩
 intro x hx
 obtain ⟨p,_,rfl⟩:=List.mem_map.mp (by simpa using hx:x∈mkI L)
 exact ⟨p.1,by simp [intKind,Value.isInt],rfl⟩
theorem valI:∀ {L:List (Int×Nat×Str×Nat)} {i:Int},valueAt (L.map fun p=>(p.1,Value.str p.2.2.1 p.2.2.2)) i=(L.find? fun p=>p.1=i).map fun p=>Value.str p.2.2.1 p.2.2.2:=by
 intro L i
 unfold valueAt
 rw [List.find?_map,Option.map_map]
 rfl
theorem kv_in_idict {a:Addr} {L:List (Int×Nat×Str×Nat)} {k:Nat} {i:Int} (h0:c.K.lookup a=some (dictOf (mkI L) k)) (ha:(a==sysModules)=false) (nd:(L.map (·.1)).Nodup) (h:Q (.bool (L.find? fun p=>p.1=i).isSome) σ):KV c n env .In (.int i) (.st (.ref a)) Q X σ:=wo2 fun A ω ra rb hR hS r1 r2=>by
 (first | obtain rfl:=r1.inv | obtain ⟨_,rfl⟩:=r1.inv | cases r1)
 (first | obtain rfl:=r2.inv | obtain ⟨_,rfl⟩:=r2.inv | cases r2)
 have e:ω.s.heap.get? a=some (dictOf (mkI L) k):=hS.X _ _ h0
 refine wpAny_in_of (knd:=intKind c.prog c.w) (k:=i) (by simp [intKind,Value.isInt]) ha (dictI e nd).mapOf ?_
 rw [valI,Option.isSome_map]
 exact doneT hS .bool h
theorem iv_idict {a:Addr} {L:List (Int×Nat×Str×Nat)} {k:Nat} {i:Int} {p:Int×Nat×Str×Nat} (h0:c.K.lookup a=some (dictOf (mkI L) k)) (nd:(L.map (·.1)).Nodup) (hf:(L.find? fun p=>p.1=i)=some p) (h:Q (.str p.2.2.1) σ):IV c n env (.st (.ref a)) (.int i) Q X σ:=wo2 fun A ω ra rb hR hS r1 r2=>by
 (first | obtain rfl:=r1.inv | obtain ⟨_,rfl⟩:=r1.inv | cases r1)
 (first | obtain rfl:=r2.inv | obtain ⟨_,rfl⟩:=r2.inv | cases r2)
 have e:ω.s.heap.get? a=some (dictOf (mkI L) k):=hS.X _ _ h0
 exact wpAny_getItem_of (knd:=intKind c.prog c.w) (k:=i) (by simp [intKind,Value.isInt]) (dictI e nd).mapOf (by rw [valI,hf]; rfl) (doneT hS .str h)
theorem s_try_no {body:List Stmt} {h₀:ExceptHandler} {hs:List ExceptHandler} {Q:Fl→St→Prop}
  (h:WS c n env body (fun fl σ'=>match fl with | .next=>WS c n env rest Q X σ' | fl=>Q fl σ') (fun z9=>False) σ):WS c n env (.Try body (h₀ :: hs) [] [] pos :: rest) Q X σ:=fun A ω hR hS=>by
 refine s_cons hR (wpAny_Try_except (wpAny_mono (h A ω hR hS) ?_ ?_))
 ·refine Post.all fun f fl σ₁ ω₁ l₁ S₁ rf h₁=>?_
  cases rf with
  | next=>exact wpAny_execs_nil ⟨σ₁,ω₁,l₁,rfl,S₁,h₁⟩
  | brk=>exact ⟨.brk,σ₁,ω₁,l₁,rfl,S₁,.brk,h₁⟩
  | cont=>exact ⟨.cont,σ₁,ω₁,l₁,rfl,S₁,.cont,h₁⟩
  | ret r=>exact ⟨.ret _,σ₁,ω₁,l₁,rfl,S₁,.ret r,h₁⟩
 ·rintro e s₁ ⟨σ₁,ω₁,l₁,rfl,S₁,hex,hf⟩
  exact hf.elim
theorem ts_last {Q:Bool→St→Prop} {op:BoolOp} {x:PySem.Expr} (h:WT c n env x Q X σ):WTs c n env op [x] Q X σ :=
 ts_cons (h.mono (fun b σ hq=>by
  by_cases e:b=(op==.And)
  ·rw [if_pos e]; exact ts_nil (e▸hq)
  ·rw [if_neg e]; exact hq) fun z9 h=>h)
noncomputable def PT (c:Cx) (n:Nat) (env:Env) (e:PySem.Expr) (b:Bool) (X:St→Prop) (σ:St):Prop:=∀ Q:Bool→St→Prop,Q b σ→WT c n env e Q X σ
noncomputable def PTs (c:Cx) (n:Nat) (env:Env) (op:BoolOp) (l:List PySem.Expr) (b:Bool) (X:St→Prop) (σ:St):Prop:=∀ Q:Bool→St→Prop,Q b σ→WTs c n env op l Q X σ
theorem pt_bool {op:BoolOp} {l:List PySem.Expr} {b:Bool} (h:PTs c n env op l b X σ):PT c n env (.BoolOp op l pos) b X σ:=fun Q q=>t_bool (h Q q)
theorem pts_one {op:BoolOp} {x:PySem.Expr} {b:Bool} (h:PT c n env x b X σ):PTs c n env op [x] b X σ:=fun Q q=>ts_last (h Q q)
theorem pts_or {x:PySem.Expr} {l:List PySem.Expr} {a b:Bool} (h:PT c n env x a X σ) (h2:PTs c n env .Or l b X σ):PTs c n env .Or (x :: l) (a||b) X σ:=fun Q q=>ts_cons (h _ (by
 (first | obtain rfl:=a.inv | obtain ⟨_,rfl⟩:=a.inv | cases a)
 ·show (if _=_ then _ else _)
  rw [if_pos (by rfl)]
  exact h2 Q q
 ·rw [if_neg (fun e=>by cases e)]; exact q))
theorem pts_and {x:PySem.Expr} {l:List PySem.Expr} {a b:Bool} (h:PT c n env x a X σ) (h2:PTs c n env .And l b X σ):PTs c n env .And (x :: l) (a&&b) X σ:=fun Q q=>ts_cons (h _ (by
 (first | obtain rfl:=a.inv | obtain ⟨_,rfl⟩:=a.inv | cases a)
 ·rw [if_neg (fun e=>by cases e)]; exact q
 ·show (if _=_ then _ else _)
  rw [if_pos (by rfl)]
  exact h2 Q q))
end
section
theorem str_nil {d:Str} (h:d.length=0):d=Str.ofString "":=by
 obtain ⟨a⟩:=d
 have:a=#[]:=Array.eq_empty_of_size_eq_zero h
 rw [this]
 kernel_rfl
variable {c:Cx} {n:Nat} {env:Env} {σ:St} {X:St→Prop}
theorem call_defQ {Q:V→St→Prop} {sc:Scope} {f:Value} {vs:List V} {P:V→List AO→Prop} {k:Nat} (he:EnvOk env sc) (hv:V.noLoL vs=true) (h:CallS c k f vs [] P (fun z9=>False) σ.W) (hk:Nat.ble k n=true) (hq:∀ v W',P v W'→Q v { σ with W:=W' }):CV c n env (.st f) vs Q X σ :=
 call_def he hv ((h.up (Nat.le_of_ble_eq_true hk)).mono hq fun z9 x=>x.elim)
theorem call_boundQ {Q:V→St→Prop} {sc:Scope} {f:Value} {self:V} {vs:List V} {P:V→List AO→Prop} {k:Nat} (he:EnvOk env sc) (hv:V.noLoL (self :: vs)=true) (h:CallS c k f (self :: vs) [] P (fun z9=>False) σ.W) (hk:Nat.ble k n=true) (hq:∀ v W',P v W'→Q v { σ with W:=W' }):CV c n env (.meth f self) vs Q X σ :=
 call_bound he hv ((h.up (Nat.le_of_ble_eq_true hk)).mono hq fun z9 x=>x.elim)
theorem call_newQ {Q:V→St→Prop} {C fI:Addr} {vs:List V} {P:V→List AO→Prop} {k:Nat} (hm:makesIn c.K C=true) (hi:findIn c.K (.ref C) "__init__"=some (some (.ref fI))) (hf:typeIn c.K (.ref fI)=some (.type "function")) (hv:V.noLoL vs=true)
  (h:CallS c k (.ref fI) (.inst C σ.W.length :: vs) [] P (fun z9=>False) (σ.W++[.dict []])) (hk:Nat.ble k n=true) (hq:∀ v W',P v W'→v=.none∧Q (.inst C σ.W.length) { σ with W:=W' }):CV c (n+1) env (.st (.ref C)) vs Q X σ :=
 call_new hm hi hf hv ((h.up (Nat.le_of_ble_eq_true hk)).mono hq fun z9 x=>x.elim)
theorem s_seq1 {Q:Fl→St→Prop} {st:Stmt} {rest:List Stmt} (J:St→Prop) (h1:WS c n env [st] (fun fl σ'=>match fl with | .next=>J σ' | fl=>Q fl σ') X σ) (h2:∀ σ',J σ'→WS c n env rest Q X σ'):WS c n env (st :: rest) Q X σ:=fun A ω hR hS=>by
 rw [show execs (st :: rest) env=_ from execs_append [st] rest]
 refine wpAny_bind (wpAny_mono (h1 A ω hR hS) ?_ fun z9 z9 x=>x)
 refine Post.all fun f fl σ₁ ω₁ l₁ S₁ rf h₁=>?_
 cases rf with
 | next=>exact wpX l₁ (h2 σ₁ h₁ A ω₁ (hR.le l₁) S₁) fun z9 z9 p=>p.le l₁
 | brk=>exact wpAny_pure ⟨.brk,σ₁,ω₁,l₁,rfl,S₁,.brk,h₁⟩
 | cont=>exact wpAny_pure ⟨.cont,σ₁,ω₁,l₁,rfl,S₁,.cont,h₁⟩
 | ret r=>exact wpAny_pure ⟨.ret _,σ₁,ω₁,l₁,rfl,S₁,.ret r,h₁⟩
theorem tv_meth {f:Value} {self:V} {Q:Bool→St→Prop} (h:Q true σ):TV c n env (.meth f self) Q X σ:=wo1 fun z9 z9 z9 z9 hS r1=>by
 obtain ⟨_,_,rfl,hg,r⟩:=r1.inv
 have hT:=(⟨_,hS.keep _ _ hg,rfl⟩:Shared.TypeIs _ (.ref _) "method")
 unfold truthy
 refine wpAny_bind (wpAny_callSpecial?_none hT (by rw [typeLookup_type,builtinLookup_eq_fast]; kernel_rfl) ?_)
 refine wpAny_bind (wpAny_specialOf hT (r:=none) (by rw [typeLookup_type,builtinLookup_eq_fast]; kernel_rfl) ?_)
 exact wpAny_pure (done hS rfl h)
end
end HL.Lake
end
noncomputable section
namespace HL.Lake
open PySem PySem.W PySem.Calls PyProof.Rows
section
variable {c:Cx} {n:Nat} {env:Env} {σ:St} {X:St→Prop} {pos:Pos}
theorem e_subI {Q:V→St→Prop} {value slice:PySem.Expr} {a:Addr} {es:List DictEntry} {k:Nat} (h0:c.K.lookup a=some (dictOf es k)) (h:WE c n env value (fun o σ₁=>o=.st (.ref a)∧WE c n env slice (fun i σ₂=>IV c n env o i Q X σ₂) X σ₁) X σ):WE c n env (.Subscript value slice pos) Q X σ:=fun A ω hR hS=>by
 refine Subscript_ (wpAny_mono (h A ω hR hS) ?_ fun z9 z9 x=>x)
 refine Post.all fun ro o σ₁ ω₁ l₁ S₁ r₁ hz34=>?_
 obtain ⟨rfl,h₁⟩:=hz34
 refine wpX l₁ (h₁ A ω₁ (hR.le l₁) S₁) ?_
 refine Post.all fun ri i σ₂ ω₂ l₂ S₂ r₂ h₂=>?_
 have l12:=l₁.trans l₂
 (first | obtain rfl:=r₁.inv | obtain ⟨_,rfl⟩:=r₁.inv | cases r₁)
 have hT:ω₂.s.TypeIs (.ref a) "dict":=typeObj (S₂.X _ _ h0) rfl
 obtain ⟨ops,ho⟩:=subscripted_ops (slice:=slice) (o:=.ref a) (i:=ri)
 exact wpX l12 (tail_any hT F.slot_dict_getitem.lookup (h₂ A ω₂ [.ref a,ri] (hR.le l12) S₂ (.cons .st (.cons r₂ .nil))) ho) fun z9 z9 p=>p.le l12
end
end HL.Lake
end
noncomputable section
namespace HL.Lake
open PySem PySem.W PySem.Calls PyProof.Rows
variable {c:Cx} {n:Nat} {env:Env} {σ:St} {X:St→Prop} {pos:Pos}
end HL.Lake
end
noncomputable section
namespace HL.Lake
open PySem PySem.W PySem.Calls PyProof.Rows
section
variable {c:Cx} {n:Nat} {env:Env} {X:St→Prop} {σ:St} {pos:Pos} {ω ω':Wd} {sc:Scope} {L:Addr}
noncomputable def Wd.frz (ω:Wd):Wd:={ ω with a:=[],b:=[],g:=gEnd ω.g (ω.a++ω.b) ω.s.heap }
noncomputable def Wd.thaw (ω ω':Wd):Wd:={ ω' with a:=ω.a,b:=ω.b,g:=fun x=>if x∈ω.a++ω.b then none else ω'.g x }
theorem Sat.gSub (S:Sat c L σ ω) {x:Addr} {o:Obj} (h:ω.g x=some o):x ∉ ω.a++ω.b:=fun m=>by
 rw [S.out x (.tail _ m)] at h; cases h
theorem Sat.freeze (S:Sat c L σ ω):Sat c L ⟨[],[],[]⟩ ω.frz:=by
 have hL:L ∉ ω.a++ω.b:=(List.nodup_cons.mp S.apart).1
 have gno:∀ x,x ∉ ω.a++ω.b→ω.frz.g x=ω.g x:=fun x hx=>if_neg hx
 have one:∀ x∈L :: (([]:List Addr)++[]),x=L:=fun x hx=>by simpa using hx
 refine ⟨S.ns,fun x o e=>?_,fun x o e=>?_,⟨S.high.1,fun x hx=>by cases hx⟩,fun x v m=>(by cases m),List.nodup_nil,⟨rfl,fun i o e=>by cases e⟩,⟨rfl,fun i o e=>by cases e⟩,by simp [Wd.frz],fun x hx=>?_,S.kk,fun x hx=>?_,S.nf,fun x hx=>?_,fun x m e=>⟨(S.dis x m e).1,?_⟩,fun x o e=>?_⟩
 ·by_cases hx:x∈ω.a++ω.b
  ·have:ω.frz.g x=ω.s.heap.get? x:=if_pos hx
   exact this▸e
  ·rw [gno x hx] at e; exact S.keep x o e
 ·have:=S.base x o e
  rw [gno x (S.gSub this)]; exact this
 ·rw [one x hx,gno L hL]; exact S.out L (.head _)
 ·rw [one x hx]; exact S.ok L (.head _)
 ·rw [one x hx]; exact S.okf L (.head _)
 ·have e':ω.kf x=some m:=e
  rw [gno x fun hx=>by rw [S.okf x (.tail _ hx)] at e'; cases e']; exact (S.dis x m e').2
 ·have e':ω.k x=some o:=e
  rw [gno x fun hx=>by rw [S.ok x (.tail _ hx)] at e'; cases e']; exact S.dk x o e'
theorem tabGet {P:Params} {g:PHeap} {a b ι:List Addr} {h:Heap} {T:List AO} (t:Tab P g a b h ι T) {x:Addr} (hx:x∈ι):∃ ob,h.get? x=some ob:=by
 refine gC fun G hG=>?_
 obtain ⟨i,hi,e⟩:=List.mem_iff_getElem.mp hx
 have hi':i < T.length:=t.1▸hi
 obtain ⟨y,ob,ey,ho,_⟩:=t.2 i T[i] (by simp [hi'])
 refine hG ?_
 rw [List.getElem?_eq_getElem hi,e] at ey
 cases ey
 exact ⟨ob,ho⟩
theorem Sat.thaw {loc':List (Str×Option V)} (S:Sat c L σ ω) (S':Sat c L ⟨loc',[],[]⟩ ω') (hg:∀ x o,ω.frz.g x=some o→ω'.g x=some o) (hm:ω'.m=ω.m) (hk:ω'.k=ω.k) (hkf:ω'.kf=ω.kf):Sat c L σ (ω.thaw ω')∧Sub ω.g (ω.thaw ω').g ω.a ω.a ω.b ω.b:=by
 have gno:∀ x,x ∉ ω.a++ω.b→(ω.thaw ω').g x=ω'.g x:=fun x hx=>if_neg hx
 have gin:∀ x,x∈ω.a++ω.b→(ω.thaw ω').g x=none:=fun x hx=>if_pos hx
 have hs:Sub ω.g (ω.thaw ω').g ω.a ω.a ω.b ω.b:=⟨fun x o e=>by
  have hx:=S.gSub e
  rw [gno x hx]
  exact hg x o ((if_neg hx:ω.frz.g x=ω.g x).trans e),fun z9 z9 h=>h,fun z9 z9 h=>h⟩
 have heap:∀ x∈ω.a++ω.b,ω'.s.heap.get? x=ω.s.heap.get? x:=fun x hx=>by
  obtain ⟨ob,ho⟩:∃ ob,ω.s.heap.get? x=some ob:=by
   rcases List.mem_append.mp hx with h | h
   ·exact tabGet S.tT h
   ·exact tabGet S.tW h
  rw [ho]
  exact S'.keep x ob (hg x ob ((if_pos hx:ω.frz.g x=ω.s.heap.get? x).trans ho))
 refine ⟨⟨S'.ns,fun x o e=>?_,fun x o e=>?_,S.high,fun x v m=>?_,S.nd,S.tT.keeps hs fun x hx=>heap x (List.mem_append_left _ hx),S.tW.keeps ⟨hs.hg,fun z9 z9 h=>h,hs.hb⟩ fun x hx=>heap x (List.mem_append_right _ hx),S.apart,fun x hx=>?_,S'.kk,fun x hx=>?_,S'.nf,fun x hx=>?_,fun x m e=>⟨(S'.dis x m e).1,?_⟩,fun x o e=>?_⟩,hs⟩
 ·by_cases hx:x∈ω.a++ω.b
  ·rw [gin x hx] at e; cases e
  ·rw [gno x hx] at e; exact S'.keep x o e
 ·rw [gno x (S.gSub (S.base x o e))]; exact S'.base x o e
 ·obtain ⟨rv,e,r⟩:=S.loc x v m
  exact ⟨rv,by show ω'.m x=_; rw [hm]; exact e,r.mono hs⟩
 ·by_cases h:x∈ω.a++ω.b
  ·exact gin x h
  ·rcases List.mem_cons.mp hx with rfl | hx
   ·rw [gno x h]; exact S'.out x (.head _)
   ·exact absurd hx h
 ·show ω'.k x=none; rw [hk]; exact S.ok x hx
 ·show ω'.kf x=none; rw [hkf]; exact S.okf x hx
 ·by_cases h:x∈ω.a++ω.b
  ·exact gin x h
  ·rw [gno x h]; exact (S'.dis x m e).2
 ·by_cases h:x∈ω.a++ω.b
  ·exact gin x h
  ·rw [gno x h]; exact S'.dk x o e
end
end HL.Lake
end
noncomputable section
namespace HL.Lake
open PySem PySem.W PySem.Calls PyProof.Rows
theorem relL_int2 {P:Params} {g:PHeap} {α β:List Addr} {a b:Int} {xs:List Value} (h:RelL P g α β [.int a,.int b] xs):∃ t u,xs=[.int a t,.int b u]:=by
 cases h with
 | cons p h =>
  cases h with
  | cons q h =>
   cases h
   obtain ⟨t,rfl⟩:=p.inv
   obtain ⟨u,rfl⟩:=q.inv
   exact ⟨t,u,rfl⟩
theorem eqAt_int2 {A:Around} {s:Shared} {a b:Int} {t u t' u':Tok} (j:Nat) (h1:j < #[Value.int a t,.int b u].size) (h2:j < #[Value.int a t',.int b u'].size):SeqAt.EqAt A s #[Value.int a t,.int b u][j] #[Value.int a t',.int b u'][j] true:=by
 cases j with
 | zero=>exact (beq_self_eq_true a▸SeqAt.EqAt.int_int a t a t':SeqAt.EqAt A s (.int a t) (.int a t') true)
 | succ j=>cases j with
  | zero=>exact (beq_self_eq_true b▸SeqAt.EqAt.int_int b u b u':SeqAt.EqAt A s (.int b u) (.int b u') true)
  | succ j=>exact absurd h1 (Nat.not_lt.mpr (Nat.le_add_left 2 j))
theorem kv_eq_tup2 {c:Cx} {n:Nat} {env:Env} {X:St→Prop} {σ:St} {Q:V→St→Prop} {a b a' b':Int} (ha:a=a') (hb:b=b') (h:Q (.bool true) σ):KV c n env .Eq (.tup [.int a,.int b]) (.tup [.int a',.int b']) Q X σ:=by
 subst ha hb
 refine wo2 fun A ω rv rw hR hS r1 r2=>?_
 refine gC fun G hG=>?_
 obtain ⟨x,xs,k,rfl,hg,rs⟩:=r1.inv
 obtain ⟨y,ys,k',rfl,hg',rs'⟩:=r2.inv
 obtain ⟨t,u,rfl⟩:=relL_int2 rs
 obtain ⟨t',u',rfl⟩:=relL_int2 rs'
 refine hG ?_
 exact SeqAt.RcAt.tuples (e:=fun z9=>true) ⟨_,hS.keep _ _ hg,rfl,k,rfl⟩ ⟨_,hS.keep _ _ hg',rfl,k',rfl⟩ (hR.room.line (k:=0) (Nat.zero_le _)) eqAt_int2 c.prog c.w _ _ (done hS .bool h)
end HL.Lake
end
noncomputable section
set_option genSizeOf false
set_option genInjectivity false
set_option backward.match.sparseCases false
set_option bootstrap.genMatcherCode false
namespace HL.Lake
open PySem PySem.W PySem.Calls PyProof.Rows
noncomputable abbrev Loc:=List (Str×Option V)
noncomputable abbrev Ob:=List Prop
noncomputable def Ob.all:Ob→Prop
 | []=>True
 | p :: r=>p∧Ob.all r
theorem Ob.app {a b:Ob} (h:Ob.all (a++b)):Ob.all a∧Ob.all b:=by
 induction a with
 | nil=>exact ⟨trivial,h⟩
 | cons x a ih =>
  have h:_∧Ob.all (a++b):=h
  exact ⟨⟨h.1,(ih h.2).1⟩,(ih h.2).2⟩
structure TblD where
 gl:List (Str×V)
 bi:List (Str×Value)
 own:List (Addr×Str)
 ow2:List (Addr×Str)
 st:List (Addr×Str)
 mt:List (Addr×Str×Addr)
 ca:List (Addr×Str×V)
 sa:List (Addr×Str×V)
 sm:List (Addr×Str×Addr)
 kp:List Addr
 kc:List Addr
 pol:List (Nat×Nat×Nat)
structure Tbl (c:Cx) (τ:TblD):Prop where
 gl:∀ p∈τ.gl,Gl c p.1 p.2
 bi:∀ p∈τ.bi,nsIn c.K mainGlobals p.1=some none∧bootBuiltins p.1=some p.2∧(p.1==("__name__":Str))=false
 own:∀ p∈τ.own,OwnOk c.K p.1 p.2
 ow2:∀ p∈τ.ow2,OwnOk c.K p.1 p.2∧findIn c.K (.ref p.1) p.2=some none
 st:∀ p∈τ.st,SetOk c.K p.1 p.2
 mt:∀ p∈τ.mt,BoundOk c.K p.1 p.2.1 p.2.2
 ca:∀ p∈τ.ca,∀ (n:Nat) (env:Env) (Q:V→St→Prop) (X:St→Prop) (σ:St) (i:Nat) (l:List (Str×V)),σ.W[i]?=some (.dict l)→p.2.1 ∉ l.map (·.1)→Q p.2.2 σ→GA c n env p.2.1 (.inst p.1 i) Q X σ
 sa:∀ p∈τ.sa,∀ (n:Nat) (env:Env) (Q:V→St→Prop) (X:St→Prop) (σ:St),Q p.2.2 σ→GA c n env p.2.1 (.st (.ref p.1)) Q X σ
 sm:∀ p∈τ.sm,∀ (n:Nat) (env:Env) (Q:V→List V→St→Prop) (X:St→Prop) (σ:St),Q (.st (.ref p.2.2)) [.st (.ref p.1)] σ→GM c n env p.2.1 (.st (.ref p.1)) Q X σ
 kp:∀ a∈τ.kp,keepIn c.K (.ref a)=true∧fnIn c.K a=true
 kc:∀ a∈τ.kc,keepIn c.K (.ref a)=true
noncomputable def fndS {β:Type} (x:Str):(l:List (Str×β))→Option {v:β // (x,v)∈l}
 | []=>none
 | (y,w) :: r=>if h:(y==x)=true then some ⟨w,by rw [eq_of_beq h]; exact .head _⟩
  else match fndS x r with
   | some ⟨v,m⟩=>some ⟨v,.tail _ m⟩
   | none=>none
noncomputable def fndN {β:Type} (C:Addr) (x:Str):(l:List (Addr×Str×β))→Option {v:β // (C,x,v)∈l}
 | []=>none
 | (D,y,w) :: r=>if h:(D==C&&y==x)=true then some ⟨w,by rw [Bool.and_eq_true] at h; rw [eq_of_beq h.1,eq_of_beq h.2]; exact .head _⟩
  else match fndN C x r with
   | some ⟨v,m⟩=>some ⟨v,.tail _ m⟩
   | none=>none
noncomputable def getL2 (x:Str):(l:Loc)→Option {v:V // (x,some v)∈l}
 | []=>none
 | (y,w) :: r=>if h:(y==x)=true then match w with
   | some v=>some ⟨v,by rw [eq_of_beq h]; exact .head _⟩
   | none=>none
  else match getL2 x r with
   | some ⟨v,m⟩=>some ⟨v,.tail _ m⟩
   | none=>none
noncomputable def putL2 (x:Str) (v:V):(l:Loc)→Option {l':Loc // PutL x v l l'}
 | []=>none
 | (y,w) :: r=>if h:(y==x)=true then some ⟨(y,some v) :: r,by rw [eq_of_beq h]; exact .head⟩
  else match putL2 x v r with
   | some ⟨l',m⟩=>some ⟨(y,w) :: l',.tail m⟩
   | none=>none
noncomputable def putD2 (x:Str) (v:V):(l:List (Str×V))→Option {l':List (Str×V) // Put x v l l'}
 | []=>none
 | (y,w) :: r=>if h:(y==x)=true then some ⟨(y,v) :: r,by rw [eq_of_beq h]; exact .head⟩
  else match putD2 x v r with
   | some ⟨l',m⟩=>some ⟨(y,w) :: l',.tail m⟩
   | none=>none
noncomputable def atW:(W:List AO)→(i:Nat)→Option {o:AO // W[i]?=some o}
 | [],_=>none
 | o :: _,0=>some ⟨o,rfl⟩
 | _ :: r,i+1=>match atW r i with
  | some ⟨o,h⟩=>some ⟨o,h⟩
  | none=>none
noncomputable def setWl (o:AO):(W:List AO)→(i:Nat)→Option {W':List AO // W'=W.set i o}
 | [],_=>none
 | _ :: r,0=>some ⟨o :: r,rfl⟩
 | a :: r,i+1=>match setWl o r i with
  | some ⟨W',h⟩=>some ⟨a :: W',by rw [h]; rfl⟩
  | none=>none
noncomputable def appW {α:Type} (b:List α):(W:List α)→{W':List α // W'=W++b}
 | []=>⟨b,rfl⟩
 | a :: r=>match appW b r with
  | ⟨W',h⟩=>⟨a :: W',by rw [h]; rfl⟩
noncomputable def lvF (l:Loc) (T W:List AO):(v:V)→Option {xs:List V // IsLV ⟨l,T,W⟩ v xs}
 | .list xs=>some ⟨xs,.list⟩
 | .lo i=>match atW T i with
  | some ⟨.list xs,h⟩=>some ⟨xs,.lo h⟩
  | _=>none
 | .ob i=>match atW W i with
  | some ⟨.list xs,h⟩=>some ⟨xs,.ob h⟩
  | _=>none
 | _=>none
noncomputable def dvF (l:Loc) (T W:List AO):(v:V)→Option {xs:List (Str×V) // IsDV ⟨l,T,W⟩ v xs}
 | .dict xs=>some ⟨xs,.dict⟩
 | .lo i=>match atW T i with
  | some ⟨.dict xs,h⟩=>some ⟨xs,.lo h⟩
  | _=>none
 | .ob i=>match atW W i with
  | some ⟨.dict xs,h⟩=>some ⟨xs,.ob h⟩
  | _=>none
 | _=>none
end HL.Lake
end
noncomputable section
set_option genSizeOf false
set_option genInjectivity false
set_option backward.match.sparseCases false
set_option bootstrap.genMatcherCode false
namespace HL.Lake
open PySem PySem.W PySem.Calls PyProof.Rows
structure Ct (c:Cx) (sc:Scope) (τ:TblD) where
 env:Env
 he:EnvOk env sc
 ok:Tbl c τ
 X:St→Prop
 Q:Fl→St→Prop
section
variable {c:Cx} (n:Nat) {sc:Scope} {τ:TblD} (κ:Ct c sc τ)
noncomputable def nameF (x:Str) (pos:Pos) (l:Loc) (T W:List AO):Option {v:V // ∀ Q:V→St→Prop,Q v ⟨l,T,W⟩→WE c n κ.env (.Name x pos) Q κ.X ⟨l,T,W⟩} :=
 if hd:(x==("__debug__":Str))=false then
  if h1:(sc.names.lookup x==some .local)=true then match getL2 x l with
   | some ⟨v,m⟩=>some ⟨v,fun z9 q=>e_local κ.he m h1 hd q⟩
   | none=>none
  else if h2:(sc.names.lookup x==some .globalImplicit)=true then match fndS x τ.gl with
   | some ⟨v,m⟩=>some ⟨v,fun z9 q=>e_glob κ.he h2 hd (κ.ok.gl _ m) q⟩
   | none=>match fndS x τ.bi with
    | some ⟨v,m⟩=>some ⟨.st v,fun z9 q=>e_builtin κ.he h2 hd (κ.ok.bi _ m).1 (κ.ok.bi _ m).2.1 (κ.ok.bi _ m).2.2 q⟩
    | none=>none
  else none
 else none
theorem sz_le {x:Nat} (h:x≤10000):x≤sizeLine:=szL h
noncomputable def bvF (op:Operator) (a b:V) (l:Loc) (T W:List AO):Option {r:Ob×V // r.1.all→∀ Q:V→St→Prop,Q r.2 ⟨l,T,W⟩→BV c n κ.env op a b Q κ.X ⟨l,T,W⟩} :=
 match a,b with
 | .int a,.int b=>match op with
  | .Add=>some ⟨([],.int (a+b)),fun z9 z9 q=>bv_add q⟩
  | .Sub=>some ⟨([],.int (a - b)),fun z9 z9 q=>bv_sub q⟩
  | .FloorDiv=>some ⟨([b≠0∧Builtin.divisionGoesByPylong a b=false],.int (a.fdiv b)),fun h z9 q=>bv_div h.1.1 h.1.2 q⟩
  | .Mod=>some ⟨([b≠0],.int (a.fmod b)),fun h z9 q=>bv_mod h.1 q⟩
  | .Mult=>some ⟨([IntMulOk a b],.int (a * b)),fun h z9 q=>bv_mul h.1 q⟩
  | _=>none
 | .str x,.str y=>match op with
  | .Add=>some ⟨([x.length+y.length≤sizeLine],.str (x++y)),fun h z9 q=>bv_add_str h.1 q⟩
  | _=>none
 | _,_=>none
noncomputable def kvF (op:CmpOp) (a b:V) (l:Loc) (T W:List AO):Option {r:Bool // ∀ Q:V→St→Prop,Q (.bool r) ⟨l,T,W⟩→KV c n κ.env op a b Q κ.X ⟨l,T,W⟩} :=
 match op with
 | .Eq=>match a,b with
  | .int a,.int b=>some ⟨a==b,fun z9 q=>kv_eq_int q⟩
  | .str a,.str b=>some ⟨a==b,fun z9 q=>kv_eq_str q⟩
  | .none,.str _=>some ⟨false,fun z9 q=>kv_eq_ns q⟩
  | .str _,.none=>some ⟨false,fun z9 q=>kv_eq_sn q⟩
  | .none,.none=>some ⟨true,fun z9 q=>kv_eq_nn q⟩
  | .bool a,.bool b=>some ⟨a==b,fun z9 q=>kv_eq_bool q⟩
  | _,_=>none
 | .NotEq=>match a,b with
  | .int a,.int b=>some ⟨a != b,fun z9 q=>kv_ne_int q⟩
  | .str a,.str b=>some ⟨a != b,fun z9 q=>kv_ne_str q⟩
  | .none,.str _=>some ⟨true,fun z9 q=>kv_ne_ns q⟩
  | .str _,.none=>some ⟨true,fun z9 q=>kv_ne_sn q⟩
  | _,_=>none
 | .Lt=>match a,b with
  | .int a,.int b=>some ⟨decide (a < b),fun z9 q=>kv_lt_int q⟩
  | .str a,.str b=>some ⟨decide (a.cps.toList < b.cps.toList),fun z9 q=>kv_lt_str q⟩
  | _,_=>none
 | .LtE=>match a,b with
  | .int a,.int b=>some ⟨decide (a≤b),fun z9 q=>kv_le_int q⟩
  | .str a,.str b=>some ⟨!(decide (b.cps.toList < a.cps.toList)),fun z9 q=>kv_le_str q⟩
  | _,_=>none
 | .Gt=>match a,b with
  | .int a,.int b=>some ⟨decide (a > b),fun z9 q=>kv_gt_int q⟩
  | _,_=>none
 | .GtE=>match a,b with
  | .int a,.int b=>some ⟨decide (a ≥ b),fun z9 q=>kv_ge_int q⟩
  | _,_=>none
 | .Is=>match b with
  | .none=>if h:isStV a=false then some ⟨isNoneV a,fun z9 q=>kv_is_none h q⟩ else none
  | _=>none
 | .IsNot=>match b with
  | .none=>if h:isStV a=false then some ⟨!isNoneV a,fun z9 q=>kv_isnot_none h q⟩ else none
  | _=>none
 | .In=>match b with
  | .tup vs=>if h:vs.all isFlatV=true then if h2:isFlatV a=true then some ⟨vs.any fun y=>vf y a,fun z9 q=>kv_in_tup h h2 q⟩ else none else none
  | .str x=>match a with
   | .str y=>some ⟨Txt.contains x y,fun z9 q=>kv_in_str q⟩
   | _=>none
  | b=>match a with
   | .str x=>match dvF l T W b with
    | some ⟨xs,k⟩=>some ⟨decide (x∈xs.map (·.1)),fun z9 q=>kv_in_dict k q⟩
    | none=>none
   | _=>none
 | .NotIn=>match b with
  | .tup vs=>if h:vs.all isFlatV=true then if h2:isFlatV a=true then some ⟨!vs.any fun y=>vf y a,fun z9 q=>kv_notin_tup h h2 q⟩ else none else none
  | _=>none
noncomputable def tvF (v:V) (l:Loc) (T W:List AO):Option {r:Ob×Bool // r.1.all→∀ Q:Bool→St→Prop,Q r.2 ⟨l,T,W⟩→TV c n κ.env v Q κ.X ⟨l,T,W⟩} :=
 match v with
 | .bool b=>some ⟨([],b),fun z9 z9 q=>tv_bool q⟩
 | .none=>some ⟨([],false),fun z9 z9 q=>tv_none q⟩
 | .int a=>some ⟨([],a != 0),fun z9 z9 q=>tv_int q⟩
 | .str x=>some ⟨([x.length≤10000],(x.length:Int) != 0),fun h z9 q=>tv_str h.1 q⟩
 | .meth _ _=>some ⟨([],true),fun z9 z9 q=>tv_meth q⟩
 | v=>match lvF l T W v with
  | some ⟨xs,k⟩=>some ⟨([xs.length≤10000],!xs.isEmpty),fun h z9 q=>tv_list k h.1 q⟩
  | none=>match dvF l T W v with
   | some ⟨xs,k⟩=>some ⟨([xs.length≤10000],!xs.isEmpty),fun h z9 q=>tv_dict k h.1 q⟩
   | none=>none
noncomputable def ixI (n:Nat) (i:Int):Nat:=(if i < 0 then i+n else i).toNat
noncomputable def IxOk (n:Nat) (i:Int):Prop:=(-(n:Int)≤i∧i < n)∧n≤10000
theorem ix_nat {n k:Nat}:ixI n (k:Int)=k:=by unfold ixI; rw [if_neg (Int.not_lt.mpr (Int.natCast_nonneg k))]; rfl
theorem ix_last {n:Nat}:ixI n (-1)=n - 1:=by unfold ixI; rw [if_pos (by decide)]; exact match n with | 0=>rfl | n+1=>congrArg Int.toNat (show (-1:Int)+((n:Int)+1)=n by rw [Int.add_comm,Int.add_neg_cancel_right])
theorem ixOk_nat {n k:Nat} (h:k < n) (hn:n≤10000):IxOk n (k:Int):=⟨⟨Int.le_trans (Int.neg_nonpos_of_nonneg (Int.natCast_nonneg n)) (Int.natCast_nonneg k),Int.ofNat_lt.mpr h⟩,hn⟩
theorem ixOk_last {n:Nat} (h:0 < n) (hn:n≤10000):IxOk n (-1):=⟨⟨Int.neg_le_neg (Int.ofNat_le.mpr h),Int.lt_of_lt_of_le (by decide) (Int.natCast_nonneg n)⟩,hn⟩
theorem IxOk.lt {n:Nat} {i:Int} (h:IxOk n i):ixI n i < n∧seqIndex? i n=some (ixI n i)∧(decide (i < -2 ^ 63)||decide (i ≥ 2 ^ 63))=false:=by
 obtain ⟨⟨h1,h2⟩,h3⟩:=h
 have hj:0≤(if i < 0 then i+n else i)∧(if i < 0 then i+n else i) < n:=by
  by_cases hi:i < 0
  ·rw [if_pos hi]; exact ⟨Int.add_left_neg (n:Int)▸Int.add_le_add_right h1 n,(Int.zero_add (n:Int)).subst (motive:=fun z=>i+n < z) (Int.add_lt_add_right hi n)⟩
  ·rw [if_neg hi]; exact ⟨Int.not_lt.mp hi,h2⟩
 refine ⟨?_,?_,?_⟩
 ·exact (Int.toNat_lt hj.1).mpr hj.2
 ·show (if (decide (0≤(if i < 0 then i+n else i))&&decide ((if i < 0 then i+n else i) < (n:Int)))=true then some _ else none)=_
  rw [if_pos (by rw [decide_eq_true hj.1,decide_eq_true hj.2]; rfl)]; rfl
 ·rw [decide_eq_false (Int.not_lt.mpr (Int.le_trans (Int.neg_le_neg (Int.le_of_lt (fitT h3))) h1)),decide_eq_false (Int.not_le.mpr (Int.lt_trans h2 (fitT h3)))]; rfl
theorem iv_str_at {x:Str} {i:Int} {Q:V→St→Prop} {X:St→Prop} {σ:St} {env:Env} (h:IxOk x.length i) (q:Q (.str ⟨#[x.cps.toList.getD (ixI x.length i) 0]⟩) σ):IV c n env (.str x) (.int i) Q X σ:=by
 obtain ⟨h1,h2,h3⟩:=h.lt
 refine iv_str h2 (cp:=x.cps.toList.getD (ixI x.length i) 0) ?_ h3 q
 have hl:ixI x.length i < x.cps.toList.length:=by rw [Array.length_toList]; exact h1
 rw [← Array.getElem?_toList,List.getD_eq_getElem?_getD,List.getElem?_eq_getElem hl]; rfl
theorem iv_listX {v w:V} {xs:List V} {i:Int} {Q:V→St→Prop} {X:St→Prop} {σ:St} {env:Env} (k:IsLV σ v xs) (h:IxOk xs.length i) (m:xs[ixI xs.length i]?=some w) (q:Q w σ):IV c n env v (.int i) Q X σ:=by
 obtain ⟨⟨h1,h2⟩,h3⟩:=h
 unfold ixI at m
 by_cases h0:i < 0
 ·rw [if_pos h0] at m; exact iv_list_neg k h0 h1 m h3 q
 ·rw [if_neg h0] at m; exact iv_list k (Int.not_lt.mp h0) m h3 q
noncomputable def nthV:(xs:List V)→(i:Nat)→Option {v:V // xs[i]?=some v}
 | [],_=>none
 | o :: _,0=>some ⟨o,rfl⟩
 | _ :: r,i+1=>match nthV r i with
  | some ⟨o,h⟩=>some ⟨o,h⟩
  | none=>none
noncomputable def ivF (o i:V) (l:Loc) (T W:List AO):Option {r:Ob×V // r.1.all→∀ Q:V→St→Prop,Q r.2 ⟨l,T,W⟩→Sub4 ⟨l,T,W⟩ o∧IV c n κ.env o i Q κ.X ⟨l,T,W⟩} :=
 match o,i with
 | .str x,.int i=>some ⟨([IxOk x.length i],_),fun h z9 q=>⟨.str,iv_str_at n h.1 q⟩⟩
 | .tup xs,.int i=>match nthV xs i.toNat with
  | some ⟨v,m⟩=>some ⟨([0≤i∧xs.length≤10000],v),fun h z9 q=>⟨.tup,iv_tup h.1.1 m h.1.2 q⟩⟩
  | none=>none
 | .dict xs,.str k=>match fndS k xs with
  | some ⟨v,m⟩=>some ⟨([],v),fun z9 z9 q=>⟨.dict,iv_dict .dict m q⟩⟩
  | none=>none
 | .ob j,.str k=>match atW W j with
  | some ⟨.dict xs,h⟩=>match fndS k xs with
   | some ⟨v,m⟩=>some ⟨([],v),fun z9 z9 q=>⟨.ob h,iv_dict (.ob h) m q⟩⟩
   | none=>none
  | _=>none
 | .ob j,.int i=>match atW W j with
  | some ⟨.list xs,h⟩=>match nthV xs (ixI xs.length i) with
   | some ⟨v,m⟩=>some ⟨([IxOk xs.length i],v),fun h' z9 q=>⟨.ob h,iv_listX n (.ob h) h'.1 m q⟩⟩
   | none=>none
  | _=>none
 | .list xs,.int i=>match nthV xs (ixI xs.length i) with
  | some ⟨v,m⟩=>some ⟨([IxOk xs.length i],v),fun h z9 q=>⟨.list,iv_listX n .list h.1 m q⟩⟩
  | none=>none
 | .lo j,.int i=>match atW T j with
  | some ⟨.list xs,h⟩=>match nthV xs (ixI xs.length i) with
   | some ⟨v,m⟩=>some ⟨([IxOk xs.length i],v),fun h' z9 q=>⟨.lo h,iv_listX n (.lo h) h'.1 m q⟩⟩
   | none=>none
  | _=>none
 | _,_=>none
noncomputable def gaF (x:Str) (v:V) (l:Loc) (T W:List AO):Option {r:V // ∀ Q:V→St→Prop,Q r ⟨l,T,W⟩→GA c n κ.env x v Q κ.X ⟨l,T,W⟩} :=
 match v with
 | .inst C i=>match atW W i with
  | some ⟨.dict xs,hW⟩=>match fndS x xs with
   | some ⟨v,m⟩=>if hb:(τ.own.contains (C,x)&&notBuiltin v)=true then
     some ⟨v,fun z9 q=>have hb:=(Bool.and_eq_true _ _).mp hb; ga_own (κ.ok.own _ (List.contains_iff_mem.mp hb.1)) hW m hb.2 q⟩
    else none
   | none=>if hc:(xs.map (·.1)).contains x=false then match fndN C x τ.mt with
     | some ⟨f,hm⟩=>some ⟨.meth (.ref f) (.inst C i),fun z9 q=>ga_bound (κ.ok.mt _ hm) hW (noKey hc) q⟩
     | none=>match fndN C x τ.ca with
      | some ⟨v,hm⟩=>some ⟨v,fun z9 q=>κ.ok.ca _ hm _ _ _ _ _ _ _ hW (noKey hc) q⟩
      | none=>none
    else none
  | _=>none
 | .st (.ref a)=>match fndN a x τ.sa with
  | some ⟨v,hm⟩=>some ⟨v,fun z9 q=>κ.ok.sa _ hm _ _ _ _ _ q⟩
  | none=>none
 | _=>none
end
end HL.Lake
end
noncomputable section
set_option genSizeOf false
set_option genInjectivity false
set_option backward.match.sparseCases false
set_option bootstrap.genMatcherCode false
namespace HL.Lake
open PySem PySem.W PySem.Calls PyProof.Rows
section
variable {c:Cx} (n:Nat) {sc:Scope} {τ:TblD} (κ:Ct c sc τ) (l:Loc) (T W:List AO)
noncomputable abbrev PvE (e:PySem.Expr):Type:=Option {r:Ob×V // r.1.all→PE c n κ.env e r.2 κ.X ⟨l,T,W⟩}
noncomputable abbrev PvT (e:PySem.Expr):Type:=Option {r:Ob×Bool // r.1.all→PT c n κ.env e r.2 κ.X ⟨l,T,W⟩}
noncomputable def pvL (pos:Pos) (ev:∀ e,PvE n κ l T W e):(es:List PySem.Expr)→Option {r:Ob×List V // r.1.all→PL c n κ.env pos es r.2 κ.X ⟨l,T,W⟩}
 | []=>some ⟨([],[]),fun z9=>pl_nil⟩
 | e :: es=>if hs:notStar e=true then match ev e with
  | some ⟨(o,v),h⟩=>match pvL pos ev es with
   | some ⟨(o',vs),h'⟩=>some ⟨(o++o',v :: vs),fun a=>pl_cons hs (h (Ob.app a).1) (h' (Ob.app a).2)⟩
   | none=>none
  | none=>none
  else none
noncomputable def pvP (ev:∀ e,PvE n κ l T W e):(e:Option PySem.Expr)→Option {r:Ob×Option Int // r.1.all→∀ Q:Option Int→St→Prop,Q r.2 ⟨l,T,W⟩→WP c n κ.env e Q κ.X ⟨l,T,W⟩}
 | none=>some ⟨([],none),fun z9 z9 q=>wp_none q⟩
 | some e=>match ev e with
  | some ⟨(o,.int i),h⟩=>some ⟨(o,some i),fun a z9 q=>wp_some (h a _ ⟨i,rfl,q⟩)⟩
  | _=>none
noncomputable def slF (a b:Option Int) (v:V):Option {r:Ob×V // r.1.all→SlOf ⟨l,T,W⟩ a b v r.2} :=
 match v with
 | .str x=>some ⟨([x.length≤10000],_),fun h=>.str h.1⟩
 | v=>match lvF l T W v with
  | some ⟨xs,k⟩=>some ⟨([xs.length≤10000],_),fun h=>.list k h.1⟩
  | none=>none
theorem pe_chain {e a b:PySem.Expr} {o₁ o₂:CmpOp} {x y z:V} {r s:Bool} {X:St→Prop} {σ:St} {env:Env} {pos:Pos} (hm:lastMarks [o₁,o₂] [a,b]=false) (h1:PE c n env e x X σ) (h2:PE c n env a y X σ) (h3:PE c n env b z X σ) (k1:∀ Q:V→St→Prop,Q (.bool r) σ→KV c n env o₁ x y Q X σ) (k2:∀ Q:V→St→Prop,Q (.bool s) σ→KV c n env o₂ y z Q X σ):PE c n env (.Compare e [o₁,o₂] [a,b] pos) (.bool (r&&s)) X σ:=fun Q q=>by
 refine e_chain2 hm (h1 _ (h2 _ (k1 _ (tv_bool ?_))))
 cases r with
 | false=>exact q
 | true=>exact h3 _ (k2 _ q)
theorem pt_chain {e a b:PySem.Expr} {o₁ o₂:CmpOp} {x y z:V} {r s:Bool} {X:St→Prop} {σ:St} {env:Env} {pos:Pos} (hm:lastMarks [o₁,o₂] [a,b]=false) (h1:PE c n env e x X σ) (h2:PE c n env a y X σ) (h3:PE c n env b z X σ) (k1:∀ Q:V→St→Prop,Q (.bool r) σ→KV c n env o₁ x y Q X σ) (k2:∀ Q:V→St→Prop,Q (.bool s) σ→KV c n env o₂ y z Q X σ):PT c n env (.Compare e [o₁,o₂] [a,b] pos) (r&&s) X σ:=fun Q q=>by
 refine t_chain2 hm (h1 _ (h2 _ (k1 _ (tv_bool ?_))))
 cases r with
 | false=>exact q
 | true=>exact h3 _ (k2 _ (tv_bool q))
noncomputable def pvE (k:Nat):(e:PySem.Expr)→PvE n κ l T W e:=Nat.rec (motive:=fun z9=>(e:PySem.Expr)→PvE n κ l T W e) (fun z9=>none) (fun z9 pvE e=>match e with
  | .Constant k _ _=>match k with
   | .int i=>some ⟨([],.int i),fun z9 z9 q=>e_int q⟩
   | .str i=>some ⟨([],.str i),fun z9 z9 q=>e_str q⟩
   | .bool i=>some ⟨([],.bool i),fun z9 z9 q=>e_bool q⟩
   | .none=>some ⟨([],.none),fun z9 z9 q=>e_none q⟩
   | _=>none
  | .Name x pos=>match nameF n κ x pos l T W with
   | some ⟨v,h⟩=>some ⟨([],v),fun z9=>h⟩
   | none=>none
  | .BinOp a op b _=>match pvE a with
   | some ⟨(o,x),h⟩=>match pvE b with
    | some ⟨(o',y),h'⟩=>match bvF n κ op x y l T W with
     | some ⟨(o'',z),h''⟩=>some ⟨(o++(o'++o''),z),fun a z9 q=>e_bin (h (Ob.app a).1 _ (h' (Ob.app (Ob.app a).2).1 _ (h'' (Ob.app (Ob.app a).2).2 _ q)))⟩
     | none=>none
    | none=>none
   | none=>none
  | .UnaryOp .USub a _=>match pvE a with
   | some ⟨(o,.int x),h⟩=>some ⟨(o,.int (-x)),fun a z9 q=>e_un (h a _ (uv_neg q))⟩
   | _=>none
  | .Compare a ops bs _=>match ops,bs with
   | [op],[b]=>if hm:behindInMarks op b=false then match pvE a with
    | some ⟨(o,x),h⟩=>match pvE b with
     | some ⟨(o',y),h'⟩=>match kvF n κ op x y l T W with
      | some ⟨z,h''⟩=>some ⟨(o++o',.bool z),fun a z9 q=>e_cmp hm (h (Ob.app a).1 _ (h' (Ob.app a).2 _ (h'' _ q)))⟩
      | none=>none
     | none=>none
    | none=>none
    else none
   | [o₁,o₂],[b,d]=>if hm:lastMarks [o₁,o₂] [b,d]=false then match pvE a with
    | some ⟨(o,x),h⟩=>match pvE b with
     | some ⟨(o',y),h'⟩=>match pvE d with
      | some ⟨(o'',z),h''⟩=>match kvF n κ o₁ x y l T W with
       | some ⟨r,k1⟩=>match kvF n κ o₂ y z l T W with
        | some ⟨s,k2⟩=>some ⟨(o++(o'++o''),.bool (r&&s)),fun a=>pe_chain n hm (h (Ob.app a).1) (h' (Ob.app (Ob.app a).2).1) (h'' (Ob.app (Ob.app a).2).2) k1 k2⟩
        | none=>none
       | none=>none
      | none=>none
     | none=>none
    | none=>none
    else none
   | _,_=>none
  | .BoolOp op es pos=>match es with
   | [e]=>match pvE e with
    | some ⟨(o,v),h⟩=>some ⟨(o,v),fun a z9 q=>e_bool1 (h a _ q)⟩
    | none=>none
   | e :: e₂ :: rest=>match pvE e with
    | some ⟨(o,.bool a),h⟩=>match pvE (.BoolOp op (e₂ :: rest) pos) with
     | some ⟨(o',.bool b),h'⟩=>match op with
      | .Or=>some ⟨(o++o',.bool (a||b)),fun a=>pb_or (h (Ob.app a).1) (h' (Ob.app a).2)⟩
      | .And=>some ⟨(o++o',.bool (a&&b)),fun a=>pb_and (h (Ob.app a).1) (h' (Ob.app a).2)⟩
     | _=>none
    | _=>none
   | _=>none
  | .Attribute o x _=>if hn:notSuper o=true then match pvE o with
   | some ⟨(ob,v),h⟩=>match gaF n κ x v l T W with
    | some ⟨w,h'⟩=>some ⟨(ob,w),fun a z9 q=>e_attr hn (h a _ (h' _ q))⟩
    | none=>none
   | none=>none
   else none
  | .Subscript o s _=>match pvE o with
   | some ⟨(ob,v),h⟩=>match s with
    | .Slice lo hi none _=>match pvP n κ l T W (pvE) lo with
     | some ⟨(o1,a),h1⟩=>match pvP n κ l T W (pvE) hi with
      | some ⟨(o2,b),h2⟩=>match slF l T W a b v with
       | some ⟨(o3,r),h3⟩=>some ⟨(ob++(o1++(o2++o3)),r),fun a=>have a1:=Ob.app a; have a2:=Ob.app a1.2; have a3:=Ob.app a2.2; pe_slice (h a1.1) (h1 a2.1) (h2 a3.1) (h3 a3.2)⟩
       | none=>none
      | none=>none
     | none=>none
    | s=>match pvE s with
     | some ⟨(o1,i),h1⟩=>match ivF n κ v i l T W with
      | some ⟨(o2,r),h2⟩=>some ⟨(ob++(o1++o2),r),fun a z9 q=>have a1:=Ob.app a; have a2:=Ob.app a1.2; e_sub (h a1.1 _ (h1 a2.1 _ (h2 a2.2 _ q)))⟩
      | none=>none
     | none=>none
   | none=>none
  | .Tuple es _ pos=>match pvL n κ l T W pos (pvE) es with
   | some ⟨(o,vs),h⟩=>if hl:decide (vs.length≤4096)=true then some ⟨(o,.tup vs),fun a=>pe_tup (h a) hl⟩ else none
   | none=>none
  | _=>none) k
noncomputable def pvT (k:Nat):(e:PySem.Expr)→PvT n κ l T W e:=Nat.rec (motive:=fun z9=>(e:PySem.Expr)→PvT n κ l T W e) (fun z9=>none) (fun f pvT e=>match e with
  | .UnaryOp .Not a _=>match pvT a with
   | some ⟨(o,b),h⟩=>some ⟨(o,!b),fun a z9 q=>t_not (h a _ q)⟩
   | none=>none
  | .BoolOp op es pos=>match es with
   | [e]=>match pvT e with
    | some ⟨(o,v),h⟩=>some ⟨(o,v),fun a=>pt_bool (pts_one (h a))⟩
    | none=>none
   | e :: e₂ :: rest=>match pvT e with
    | some ⟨(o,a),h⟩=>match pvT (.BoolOp op (e₂ :: rest) pos) with
     | some ⟨(o',b),h'⟩=>match op with
      | .Or=>some ⟨(o++o',a||b),fun a=>pt_bool (pts_or (h (Ob.app a).1) (h' (Ob.app a).2))⟩
      | .And=>some ⟨(o++o',a&&b),fun a=>pt_bool (pts_and (h (Ob.app a).1) (h' (Ob.app a).2))⟩
     | none=>none
    | none=>none
   | _=>none
  | .Compare a ops bs _=>match ops,bs with
   | [op],[b]=>if hm:behindInMarks op b=false then match pvE n κ l T W f a with
    | some ⟨(o,x),h⟩=>match pvE n κ l T W f b with
     | some ⟨(o',y),h'⟩=>match kvF n κ op x y l T W with
      | some ⟨z,h''⟩=>some ⟨(o++o',z),fun a z9 q=>t_cmp hm (h (Ob.app a).1 _ (h' (Ob.app a).2 _ (h'' _ (tv_bool q))))⟩
      | none=>none
     | none=>none
    | none=>none
    else none
   | [o₁,o₂],[b,d]=>if hm:lastMarks [o₁,o₂] [b,d]=false then match pvE n κ l T W f a with
    | some ⟨(o,x),h⟩=>match pvE n κ l T W f b with
     | some ⟨(o',y),h'⟩=>match pvE n κ l T W f d with
      | some ⟨(o'',z),h''⟩=>match kvF n κ o₁ x y l T W with
       | some ⟨r,k1⟩=>match kvF n κ o₂ y z l T W with
        | some ⟨s,k2⟩=>some ⟨(o++(o'++o''),r&&s),fun a=>pt_chain n hm (h (Ob.app a).1) (h' (Ob.app (Ob.app a).2).1) (h'' (Ob.app (Ob.app a).2).2) k1 k2⟩
        | none=>none
       | none=>none
      | none=>none
     | none=>none
    | none=>none
    else none
   | _,_=>none
  | e=>if hp:plainTest e=true then match pvE n κ l T W f e with
   | some ⟨(o,v),h⟩=>match tvF n κ v l T W with
    | some ⟨(o',b),h'⟩=>some ⟨(o++o',b),fun a z9 q=>t_plain hp (h (Ob.app a).1 _ (h' (Ob.app a).2 _ q))⟩
    | none=>none
   | none=>none
   else none) k
end
end HL.Lake
end
noncomputable section
set_option genSizeOf false
set_option genInjectivity false
set_option backward.match.sparseCases false
set_option bootstrap.genMatcherCode false
namespace HL.Lake
open PySem PySem.W PySem.Calls PyProof.Rows
set_option genCtorIdx false in
inductive Fn
 | call (f:V) | tup | listF | listT | listW
set_option genCtorIdx false in
inductive Fr
 | binR (op:Operator) (e:PySem.Expr) | bin (op:Operator) (a:V)
 | cmpR (op:CmpOp) (e:PySem.Expr) | cmp (op:CmpOp) (a:V)
 | attr (x:Str)
 | sub0 (e:PySem.Expr) | sub1 (o:V)
 | slc (lo hi:Option PySem.Expr)
 | fcal (args:List PySem.Expr) (pos:Pos) | meth (x:Str) (args:List PySem.Expr) (pos:Pos)
 | arg (g:Fn) (acc:List V) (rest:List PySem.Expr) (pos:Pos)
 | dk (d:Bool) (acc:List (V×V)) (v:PySem.Expr) (ks:List (Option PySem.Expr)) (vs:List PySem.Expr) (pos:Pos)
 | dv (d:Bool) (acc:List (V×V)) (a:V) (ks:List (Option PySem.Expr)) (vs:List PySem.Expr) (pos:Pos)
 | ret | exp (rest:List Stmt)
 | asg (x:Str) (rest:List Stmt) | asgT (elts:List PySem.Expr) (rest:List Stmt)
 | asgA (o:PySem.Expr) (x:Str) (rest:List Stmt)
 | aug (x:Str) (op:Operator) (a:V) (rest:List Stmt)
 | augA (o:V) (x:Str) (op:Operator) (a:V) (rest:List Stmt)
 | augS0 (i:PySem.Expr) (op:Operator) (e:PySem.Expr) (rest:List Stmt) | augS1 (o:V) (op:Operator) (e:PySem.Expr) (rest:List Stmt) | augS2 (o i:V) (op:Operator) (a:V) (rest:List Stmt)
 | tst | notF | bl (op:BoolOp) (rest:List PySem.Expr)
 | cond (a b rest:List Stmt) | asrt (rest:List Stmt) | ifx (a b:PySem.Expr)
 | forF (t:PySem.Expr) (body rest:List Stmt)
 | rng0 (b t:PySem.Expr) (body rest:List Stmt)
 | rng1 (a:V) (t:PySem.Expr) (body rest:List Stmt)
 | wh (body:List Stmt)
 | bv (op:BoolOp) (e:PySem.Expr) (rest:List PySem.Expr) (pos:Pos)
set_option genCtorIdx false in
inductive M
 | ev (e:PySem.Expr) (ks:List Fr) (l:Loc) (T W:List AO)
 | te (e:PySem.Expr) (ks:List Fr) (l:Loc) (T W:List AO)
 | ts (op:BoolOp) (es:List PySem.Expr) (ks:List Fr) (l:Loc) (T W:List AO)
 | rt (v:V) (ks:List Fr) (l:Loc) (T W:List AO)
 | ex (ss:List Stmt) (l:Loc) (T W:List AO)
 | cl (f:V) (vs:List V) (ks:List Fr) (l:Loc) (T W:List AO)
 | al (g:Fn) (acc:List V) (rest:List PySem.Expr) (pos:Pos) (ks:List Fr) (l:Loc) (T W:List AO)
 | dl (d:Bool) (acc:List (V×V)) (keys:List (Option PySem.Expr)) (vs:List PySem.Expr) (pos:Pos) (ks:List Fr) (l:Loc) (T W:List AO)
 | ft (t:PySem.Expr) (v:V) (body:List Stmt) (l:Loc) (T W:List AO)
 | ao (ts:List PySem.Expr) (vs:List V) (rest:List Stmt) (l:Loc) (T W:List AO)
section
variable {c:Cx} (n:Nat) {sc:Scope} {τ:TblD} (κ:Ct c sc τ)
noncomputable abbrev Ex (rest:List Stmt) (σ:St):Prop:=WS c n κ.env rest κ.Q κ.X σ
noncomputable def finP (K:V→St→Prop):Fn→List V→St→Prop
 | .call f,vs,σ=>Kp c f∧CV c n κ.env f vs K κ.X σ
 | .tup,vs,σ=>vs.length≤4096∧K (.tup vs) σ
 | .listF,vs,σ=>vs.length≤4096∧K (.list vs) σ
 | .listT,vs,σ=>vs.length≤4096∧K (.lo σ.T.length) { σ with T:=σ.T++[.list vs] }
 | .listW,vs,σ=>vs.length≤4096∧V.noLoL vs=true∧K (.ob σ.W.length) { σ with W:=σ.W++[.list vs] }
noncomputable def finD (K:V→St→Prop) (d:Bool) (ps:List (V×V)) (σ:St):Prop :=
 ∃ l,strPairs ps=some l∧(l.map (·.1)).Nodup∧l.length≤4096∧(if d then V.noLoD l=true∧K (.ob σ.W.length) { σ with W:=σ.W++[.dict l] } else K (.dict l) σ)
noncomputable def forP (items:List V) (t:PySem.Expr) (body rest:List Stmt) (σ:St):Prop:=∃ J:Nat→St→Prop,J 0 σ∧(∀ i σ₂ u,items[i]?=some u→J i σ₂→AT c n κ.env t u (fun z9 σ₃=>WS c n κ.env body (fun fl σ₄=>match fl with | .next=>J (i+1) σ₄ | .cont=>J (i+1) σ₄ | .brk=>Ex n κ rest σ₄ | .ret v=>κ.Q (.ret v) σ₄) (fun z9=>False) σ₃) (fun z9=>False) σ₂)∧∀ σ₂,J items.length σ₂→Ex n κ rest σ₂
noncomputable def rngI (i:Int) (N:Nat):List V:=(List.range N).map fun k=>.int (i+(k:Nat) * 1)
noncomputable def rngP (v w:V) (t:PySem.Expr) (body rest:List Stmt) (σ:St):Prop:=∃ i j:Int,∃ N:Nat,v=.int i∧w=.int j∧Builtin.Range.small i j 1=true∧Builtin.Range.rangeSize i j 1=N∧forP n κ (rngI i N) t body rest σ
noncomputable def augP (ov iv:V) (op:Operator) (e:PySem.Expr) (rest:List Stmt) (σ:St):Prop:=IV c n κ.env ov iv (fun old σ₃=>WE c n κ.env e (fun v σ₄=>PV c n κ.env op old v (fun new σ₅=>SI c n κ.env ov iv new (fun z9 σ₆=>Ex n κ rest σ₆) κ.X σ₅) κ.X σ₄) κ.X σ₃) κ.X σ
noncomputable def kontF (K:V→St→Prop):Fr→V→St→Prop
 | .binR op e,a,σ=>WE c n κ.env e (fun b σ'=>BV c n κ.env op a b K κ.X σ') κ.X σ
 | .bin op a,b,σ=>BV c n κ.env op a b K κ.X σ
 | .cmpR op e,a,σ=>WE c n κ.env e (fun b σ'=>KV c n κ.env op a b K κ.X σ') κ.X σ
 | .cmp op a,b,σ=>KV c n κ.env op a b K κ.X σ
 | .attr x,v,σ=>GA c n κ.env x v K κ.X σ
 | .sub0 e,o,σ=>WE c n κ.env e (fun i σ'=>Sub4 σ' o∧IV c n κ.env o i K κ.X σ') κ.X σ
 | .sub1 o,i,σ=>Sub4 σ o∧IV c n κ.env o i K κ.X σ
 | .slc lo hi,o,σ=>WP c n κ.env lo (fun a σ₁=>WP c n κ.env hi (fun b σ₂=>∃ r,SlOf σ₂ a b o r∧K r σ₂) κ.X σ₁) κ.X σ
 | .fcal args pos,f,σ=>WL c n κ.env pos args (fun us σ'=>Kp c f∧CV c n κ.env f us K κ.X σ') κ.X σ
 | .meth x args pos,v,σ=>GM c n κ.env x v (fun f first σ₂=>WL c n κ.env pos args (fun us σ'=>Kp c f∧CV c n κ.env f (first++us) K κ.X σ') κ.X σ₂) κ.X σ
 | .arg g acc rest pos,v,σ=>WL c n κ.env pos rest (fun us σ'=>finP n κ K g ((v :: acc).reverseAux us) σ') κ.X σ
 | .dk d acc v ks vs pos,a,σ=>WE c n κ.env v (fun b σ₁=>WD c n κ.env pos ks vs (fun ps σ'=>finD K d (((a,b) :: acc).reverseAux ps) σ') κ.X σ₁) κ.X σ
 | .dv d acc a ks vs pos,b,σ=>WD c n κ.env pos ks vs (fun ps σ'=>finD K d (((a,b) :: acc).reverseAux ps) σ') κ.X σ
 | .ret,v,σ=>κ.Q (.ret v) σ
 | .exp rest,_,σ=>Ex n κ rest σ
 | .asg x rest,v,σ=>∃ l',PutL x v σ.loc l'∧Ex n κ rest { σ with loc:=l' }
 | .asgT elts rest,v,σ=>∃ vs,v=.tup vs∧vs.length=elts.length∧AO_ c n κ.env elts vs (fun z9 σ₂=>Ex n κ rest σ₂) κ.X σ
 | .asgA o x rest,v,σ=>WE c n κ.env o (fun ov σ₂=>SA c n κ.env x ov v (fun z9 σ₃=>Ex n κ rest σ₃) κ.X σ₂) κ.X σ
 | .aug x op a rest,w,σ=>PV c n κ.env op a w (fun u σ₂=>∃ l',PutL x u σ₂.loc l'∧Ex n κ rest { σ₂ with loc:=l' }) κ.X σ
 | .augA o x op a rest,w,σ=>PV c n κ.env op a w (fun u σ₂=>SA c n κ.env x o u (fun z9 σ₃=>Ex n κ rest σ₃) κ.X σ₂) κ.X σ
 | .augS0 i op e rest,ov,σ=>WE c n κ.env i (fun iv σ₂=>augP n κ ov iv op e rest σ₂) κ.X σ
 | .augS1 ov op e rest,iv,σ=>augP n κ ov iv op e rest σ
 | .augS2 ov iv op a rest,w,σ=>PV c n κ.env op a w (fun u σ₂=>SI c n κ.env ov iv u (fun z9 σ₃=>Ex n κ rest σ₃) κ.X σ₂) κ.X σ
 | .tst,v,σ=>TV c n κ.env v (fun b σ'=>K (.bool b) σ') κ.X σ
 | .notF,v,σ=>∃ b,v=.bool b∧K (.bool (!b)) σ
 | .bl op rest,v,σ=>∃ b,v=.bool b∧if b=(op==.And) then WTs c n κ.env op rest (fun b σ'=>K (.bool b) σ') κ.X σ else K (.bool b) σ
 | .cond a b rest,v,σ=>∃ t,v=.bool t∧if t=true then Ex n κ (a++rest) σ else Ex n κ (b++rest) σ
 | .asrt rest,v,σ=>v=.bool true∧Ex n κ rest σ
 | .ifx a b,v,σ=>∃ t,v=.bool t∧if t=true then WE c n κ.env a K κ.X σ else WE c n κ.env b K κ.X σ
 | .wh body,v,σ=>∃ t,v=.bool t∧if t=true then Ex n κ body σ else κ.Q .brk σ
 | .forF t body rest,v,σ=>∃ items,ItemsOf v items∧forP n κ items t body rest σ
 | .rng0 b t body rest,v,σ=>WE c n κ.env b (fun w σ₂=>rngP n κ v w t body rest σ₂) κ.X σ
 | .rng1 a t body rest,w,σ=>rngP n κ a w t body rest σ
 | .bv op e rest pos,v,σ=>TV c n κ.env v (fun b σ₂=>if b=(op==.And) then WE c n κ.env (.BoolOp op (e :: rest) pos) K κ.X σ₂ else K v σ₂) κ.X σ
noncomputable def kont:List Fr→V→St→Prop
 | [],_,_=>False
 | f :: ks,v,σ=>kontF n κ (kont ks) f v σ
noncomputable def Vd:M→Prop
 | .ev e ks l T W=>WE c n κ.env e (kont n κ ks) κ.X ⟨l,T,W⟩
 | .te e ks l T W=>WT c n κ.env e (fun b σ=>kont n κ ks (.bool b) σ) κ.X ⟨l,T,W⟩
 | .ts op es ks l T W=>WTs c n κ.env op es (fun b σ=>kont n κ ks (.bool b) σ) κ.X ⟨l,T,W⟩
 | .rt v ks l T W=>kont n κ ks v ⟨l,T,W⟩
 | .ex ss l T W=>Ex n κ ss ⟨l,T,W⟩
 | .cl f vs ks l T W=>CV c n κ.env f vs (kont n κ ks) κ.X ⟨l,T,W⟩
 | .al g acc rest pos ks l T W=>WL c n κ.env pos rest (fun us σ=>finP n κ (kont n κ ks) g (acc.reverseAux us) σ) κ.X ⟨l,T,W⟩
 | .dl d acc keys vs pos ks l T W=>WD c n κ.env pos keys vs (fun ps σ=>finD (kont n κ ks) d (acc.reverseAux ps) σ) κ.X ⟨l,T,W⟩
 | .ft t v body l T W=>AT c n κ.env t v (fun z9 σ=>Ex n κ body σ) κ.X ⟨l,T,W⟩
 | .ao ts vs rest l T W=>AO_ c n κ.env ts vs (fun z9 σ=>Ex n κ rest σ) κ.X ⟨l,T,W⟩
inductive Nx (m:M):Type
 | mk (o:Ob) (m':M) (h:o.all→Vd n κ m'→Vd n κ m):Nx m
end
end HL.Lake
end
noncomputable section
set_option genSizeOf false
set_option genInjectivity false
set_option backward.match.sparseCases false
set_option bootstrap.genMatcherCode false
namespace HL.Lake
open PySem PySem.W PySem.Calls PyProof.Rows
section
variable {c:Cx} (n:Nat) {sc:Scope} {τ:TblD} (κ:Ct c sc τ)
theorem WO.mono {α β:Type} {c:Cx} {n:Nat} {env:Env} {f:List Value→Sem α} {vs:List V} {rel:Wd→β→α→Prop} {Q Q':β→St→Prop} {X:St→Prop} {σ:St} (h:WO c n env f vs rel Q X σ) (hQ:∀ b σ,Q b σ→Q' b σ):WO c n env f vs rel Q' X σ:=fun A ω rvs a1 a2 a3 =>
 wpAny_mono (h A ω rvs a1 a2 a3) (fun _ _ ⟨b,σ',ω',l,e,S,r,q⟩=>⟨b,σ',ω',l,e,S,r,hQ _ _ q⟩) fun z9 z9 h=>h
noncomputable def polOf (pos:Pos):List (Nat×Nat×Nat)→Nat
 | []=>0
 | (a,b,k) :: r=>if (a==pos.line&&b==pos.col)=true then k else polOf pos r
noncomputable def fnOf (k:Nat):Fn:=match k with
 | 0=>.listF
 | 1=>.listT
 | _=>.listW
theorem listFn {g:Fn} {pos:Pos} {es:List PySem.Expr} {Q:V→St→Prop} {σ:St} (k:Nat) (hg:g=fnOf k) (h:WL c n κ.env pos es (fun vs σ'=>finP n κ Q g vs σ') κ.X σ):WE c n κ.env (.List es pos) Q κ.X σ:=by
 subst hg
 cases k with
 | zero=>exact e_listF h
 | succ k=>cases k with
  | zero=>exact e_listT h
  | succ k=>exact e_listW h
noncomputable def stepSu (o i:PySem.Expr) (pos:Pos) (ks:List Fr) (l:Loc) (T W:List AO):Option (Nx n κ (.ev (.Subscript o i pos) ks l T W)) :=
 match i with
 | .Slice lo hi st _=>match st with
  | none=>some ⟨[],.ev o (.slc lo hi :: ks) l T W,fun z9 q=>e_slice q⟩
  | some _=>none
 | i=>some ⟨[],.ev o (.sub0 i :: ks) l T W,fun z9 q=>e_sub q⟩
noncomputable def stepCa (f:PySem.Expr) (args:List PySem.Expr) (pos:Pos) (ks:List Fr) (l:Loc) (T W:List AO):Option (Nx n κ (.ev (.Call f args [] pos) ks l T W)) :=
 match f with
 | .Attribute o x ap=>if hc:(notSuper o&&(ap.endLine==pos.line&&(decide (args.length < 30)&&noStars args)))=true then
   some ⟨[],.ev o (.meth x args pos :: ks) l T W,fun z9 q=>have a:=(Bool.and_eq_true _ _).mp hc; have b:=(Bool.and_eq_true _ _).mp a.2; have d:=(Bool.and_eq_true _ _).mp b.2; e_meth a.1 b.1 d.1 d.2 q⟩ else none
 | f=>if hc:(notAttr f&&noStars args)=true then some ⟨[],.ev f (.fcal args pos :: ks) l T W,fun z9 q=>have a:=(Bool.and_eq_true _ _).mp hc; e_call a.1 a.2 q⟩ else none
noncomputable def stepE (e:PySem.Expr) (ks:List Fr) (l:Loc) (T W:List AO):Option (Nx n κ (.ev e ks l T W)) :=
 match pvE n κ l T W 12 e with
 | some ⟨(o,v),h⟩=>some ⟨o,.rt v ks l T W,fun a q=>h a _ q⟩
 | none=>match e with
  | .BinOp a op b _=>some ⟨[],.ev a (.binR op b :: ks) l T W,fun z9 q=>e_bin q⟩
  | .Compare a [op] [b] _=>if hm:behindInMarks op b=false then some ⟨[],.ev a (.cmpR op b :: ks) l T W,fun z9 q=>e_cmp hm q⟩ else none
  | .Attribute o x _=>if hn:notSuper o=true then some ⟨[],.ev o (.attr x :: ks) l T W,fun z9 q=>e_attr hn q⟩ else none
  | .Subscript o i pos=>stepSu n κ o i pos ks l T W
  | .Call f args [] pos=>stepCa n κ f args pos ks l T W
  | .Tuple es _ pos=>some ⟨[],.al .tup [] es pos ks l T W,fun z9 q=>e_tup q⟩
  | .List es pos=>some ⟨[],.al (fnOf (polOf pos τ.pol)) [] es pos ks l T W,fun z9 q=>listFn n κ (polOf pos τ.pol) rfl q⟩
  | .Dict kk vs pos=>if hc:(kk.all (·.isSome)&&(kk.length==vs.length&&(!kk.isEmpty&&decide (kk.length≤15))))=true then
    have a:=(Bool.and_eq_true _ _).mp hc; have b:=(Bool.and_eq_true _ _).mp a.2; have d:=(Bool.and_eq_true _ _).mp b.2
    have h0:kk≠[]:=fun e=>by rw [e] at d; exact absurd d.1 (by decide)
    match polOf pos τ.pol with
    | 0=>some ⟨[],.dl false [] kk vs pos ks l T W,fun z9 q=>e_dictF a.1 (eq_of_beq b.1) h0 (of_decide_eq_true d.2) q⟩
    | _=>some ⟨[],.dl true [] kk vs pos ks l T W,fun z9 q=>e_dictW a.1 (eq_of_beq b.1) h0 (of_decide_eq_true d.2) q⟩
   else none
  | .IfExp t a b _=>some ⟨[],.te t (.ifx a b :: ks) l T W,fun z9 q=>e_ifexp (q.mono (fun b σ h=>by obtain ⟨t,e,h⟩:=h; cases e; exact h) fun z9 h=>h)⟩
  | .BoolOp op [e] _=>some ⟨[],.ev e ks l T W,fun z9 q=>e_bool1 q⟩
  | .BoolOp .And (e :: e₂ :: rest) pos=>some ⟨[],.ev e (.bv .And e₂ rest pos :: ks) l T W,fun z9 q=>e_and q⟩
  | .BoolOp .Or (e :: e₂ :: rest) pos=>some ⟨[],.ev e (.bv .Or e₂ rest pos :: ks) l T W,fun z9 q=>e_or (q.mono (fun v σ h=>WO.mono h (fun b σ h=>by cases b <;> exact h)) fun z9 h=>h)⟩
  | _=>none
noncomputable def stepT (e:PySem.Expr) (ks:List Fr) (l:Loc) (T W:List AO):Option (Nx n κ (.te e ks l T W)) :=
 match pvT n κ l T W 12 e with
 | some ⟨(o,b),h⟩=>some ⟨o,.rt (.bool b) ks l T W,fun a q=>h a _ q⟩
 | none=>match e with
  | .Compare a [op] [b] _=>if hm:behindInMarks op b=false then some ⟨[],.ev a (.cmpR op b :: .tst :: ks) l T W,fun z9 q=>t_cmp hm q⟩ else none
  | .UnaryOp .Not a _=>some ⟨[],.te a (.notF :: ks) l T W,fun z9 q=>t_not (q.mono (fun b σ h=>by obtain ⟨t,e,h⟩:=h; cases e; exact h) fun z9 h=>h)⟩
  | .BoolOp op es _=>some ⟨[],.ts op es ks l T W,fun z9 q=>t_bool q⟩
  | e=>if hp:plainTest e=true then some ⟨[],.ev e (.tst :: ks) l T W,fun z9 q=>t_plain hp q⟩ else none
noncomputable def stepB (op:BoolOp) (es:List PySem.Expr) (ks:List Fr) (l:Loc) (T W:List AO):Option (Nx n κ (.ts op es ks l T W)) :=
 match es with
 | []=>none
 | [e]=>some ⟨[],.te e ks l T W,fun z9 q=>ts_last q⟩
 | e :: rest=>some ⟨[],.te e (.bl op rest :: ks) l T W,fun z9 q=>ts_cons (q.mono (fun b σ h=>by obtain ⟨t,e,h⟩:=h; cases e; exact h) fun z9 h=>h)⟩
end
end HL.Lake
end
noncomputable section
set_option genSizeOf false
set_option genInjectivity false
set_option backward.match.sparseCases false
set_option bootstrap.genMatcherCode false
namespace HL.Lake
open PySem PySem.W PySem.Calls PyProof.Rows
section
variable {c:Cx} (n:Nat) {sc:Scope} {τ:TblD} (κ:Ct c sc τ)
noncomputable def pvF (op:Operator) (a b:V) (l:Loc) (T W:List AO):Option {r:Ob×V // r.1.all→∀ Q:V→St→Prop,Q r.2 ⟨l,T,W⟩→PV c n κ.env op a b Q κ.X ⟨l,T,W⟩} :=
 match op,a,b with
 | .Add,.int a,.int b=>some ⟨([],.int (a+b)),fun z9 z9 q=>pv_add_int q⟩
 | .Sub,.int a,.int b=>some ⟨([],.int (a - b)),fun z9 z9 q=>pv_sub_int q⟩
 | .Add,.str x,.str y=>some ⟨([x.length+y.length≤sizeLine],.str (x++y)),fun h z9 q=>pv_add_str h.1 q⟩
 | _,_,_=>none
noncomputable def gmF (x:Str) (v:V) (l:Loc) (T W:List AO):Option {r:V×List V // ∀ Q:V→List V→St→Prop,Q r.1 r.2 ⟨l,T,W⟩→GM c n κ.env x v Q κ.X ⟨l,T,W⟩} :=
 match v with
 | .inst C i=>match atW W i with
  | some ⟨.dict xs,hW⟩=>match fndS x xs with
   | some ⟨v,m⟩=>if hb:(τ.ow2.contains (C,x)&&notBuiltin v)=true then
     some ⟨(v,[]),fun z9 q=>have hb:=(Bool.and_eq_true _ _).mp hb; have o:=κ.ok.ow2 _ (List.contains_iff_mem.mp hb.1); gm_own o.1 o.2 hW m hb.2 q⟩
    else none
   | none=>if hc:(xs.map (·.1)).contains x=false then match fndN C x τ.mt with
     | some ⟨f,hm⟩=>some ⟨(.st (.ref f),[.inst C i]),fun z9 q=>gm_inst (κ.ok.mt _ hm).1 hW (noKey hc) q⟩
     | none=>none
    else none
  | _=>none
 | .st (.ref a)=>match fndN a x τ.sm with
  | some ⟨f,hm⟩=>some ⟨(.st (.ref f),[.st (.ref a)]),fun z9 q=>κ.ok.sm _ hm _ _ _ _ _ q⟩
  | none=>none
 | .str s =>
  if h:(x==Str.ofString "join")=true then some ⟨(.st (.builtin "str.join"),[.str s]),fun z9 q=>eq_of_beq h▸gm_join q⟩
  else if h:(x==Str.ofString "startswith")=true then some ⟨(.st (.builtin "str.startswith"),[.str s]),fun z9 q=>eq_of_beq h▸gm_startswith q⟩
  else if h:(x==Str.ofString "count")=true then some ⟨(.st (.builtin "str.count"),[.str s]),fun z9 q=>eq_of_beq h▸gm_count q⟩
  else if h:(x==Str.ofString "rfind")=true then some ⟨(.st (.builtin "str.rfind"),[.str s]),fun z9 q=>eq_of_beq h▸gm_rfind q⟩
  else if h:(x==Str.ofString "replace")=true then some ⟨(.st (.builtin "str.replace"),[.str s]),fun z9 q=>eq_of_beq h▸gm_replace q⟩
  else none
 | v=>match lvF l T W v with
  | some ⟨_,k⟩ =>
   if h:(x==Str.ofString "append")=true then some ⟨(.st (.builtin "list.append"),[v]),fun z9 q=>eq_of_beq h▸gm_append k q⟩
   else if h:(x==Str.ofString "pop")=true then some ⟨(.st (.builtin "list.pop"),[v]),fun z9 q=>eq_of_beq h▸gm_pop k q⟩
   else none
  | none=>none
noncomputable def saF (x:Str) (o v:V) (l:Loc) (T W:List AO):Option {W':List AO // ∀ Q:Unit→St→Prop,Q () ⟨l,T,W'⟩→SA c n κ.env x o v Q κ.X ⟨l,T,W⟩} :=
 match o with
 | .inst C i=>if hs:(τ.st.contains (C,x)&&v.noLo)=true then match atW W i with
  | some ⟨.dict xs,hW⟩=>if hz:decide (xs.length≤999)=true then match putD2 x v xs with
   | some ⟨ys,hp⟩=>match setWl (.dict ys) W i with
    | some ⟨W',hw⟩=>some ⟨W',fun z9 q=>have b:=(Bool.and_eq_true _ _).mp hs; sa_put (κ.ok.st _ (List.contains_iff_mem.mp b.1)) hW hp (decide_eq_true (Nat.le_succ_of_le (of_decide_eq_true hz))) b.2 (hw▸q)⟩
    | none=>none
   | none=>if hc:(xs.map (·.1)).contains x=false then match appW [(x,v)] xs with
    | ⟨ys,hy⟩=>match setWl (.dict ys) W i with
     | some ⟨W',hw⟩=>some ⟨W',fun z9 q=>have b:=(Bool.and_eq_true _ _).mp hs; sa_new (κ.ok.st _ (List.contains_iff_mem.mp b.1)) hW (noKey hc) (decide_eq_true (Nat.succ_le_succ (of_decide_eq_true hz))) b.2 (hy▸hw▸q)⟩
     | none=>none
    else none
   else none
  | _=>none
  else none
 | _=>none
noncomputable def setVl (x:V):(xs:List V)→(i:Nat)→Option {ys:List V // ys=xs.set i x}
 | [],_=>none
 | _ :: r,0=>some ⟨x :: r,rfl⟩
 | a :: r,i+1=>match setVl x r i with
  | some ⟨ys,h⟩=>some ⟨a :: ys,by rw [h]; rfl⟩
  | none=>none
noncomputable def siF (o i x:V) (l:Loc) (T W:List AO):Option {r:Ob×List AO×List AO // r.1.all→∀ Q:Unit→St→Prop,Q () ⟨l,r.2.1,r.2.2⟩→SI c n κ.env o i x Q κ.X ⟨l,T,W⟩} :=
 match o,i with
 | .ob j,.int k=>if hn:x.noLo=true then match atW W j with
  | some ⟨.list xs,h⟩=>match setVl x xs k.toNat with
   | some ⟨ys,hy⟩=>match setWl (.list ys) W j with
    | some ⟨W',hw⟩=>some ⟨([0≤k∧k < xs.length∧xs.length≤10000],T,W'),fun a z9 q=>si_list (.ob h) a.1.1 a.1.2.1 a.1.2.2 hn (hy▸hw▸q)⟩
    | none=>none
   | none=>none
  | _=>none
  else none
 | .lo j,.int k=>match atW T j with
  | some ⟨.list xs,h⟩=>match setVl x xs k.toNat with
   | some ⟨ys,hy⟩=>match setWl (.list ys) T j with
    | some ⟨T',hw⟩=>some ⟨([0≤k∧k < xs.length∧xs.length≤10000],T',W),fun a z9 q=>si_list (.lo h) a.1.1 a.1.2.1 a.1.2.2 rfl (hy▸hw▸q)⟩
    | none=>none
   | none=>none
  | _=>none
 | _,_=>none
noncomputable def kpF (f:V):Option (PLift (Kp c f)) :=
 match f with
 | .st (.builtin _)=>some ⟨.builtin⟩
 | .st (.type _)=>some ⟨.type⟩
 | .st (.ref a)=>if h:τ.kp.contains a=true then some ⟨.ref (κ.ok.kp _ (List.contains_iff_mem.mp h)).1⟩ else if h:τ.kc.contains a=true then some ⟨.ref (κ.ok.kc _ (List.contains_iff_mem.mp h))⟩ else none
 | .meth (.ref a) _=>if h:τ.kp.contains a=true then some ⟨.meth (κ.ok.kp _ (List.contains_iff_mem.mp h)).2⟩ else none
 | _=>none
noncomputable def lenW {α:Type}:(l:List α)→{k:Nat // k=l.length}
 | []=>⟨0,rfl⟩
 | _ :: r=>match lenW r with
  | ⟨k,h⟩=>⟨k+1,by rw [h]; rfl⟩
noncomputable def stepA (g:Fn) (acc:List V) (rest:List PySem.Expr) (pos:Pos) (ks:List Fr) (l:Loc) (T W:List AO):Option (Nx n κ (.al g acc rest pos ks l T W)) :=
 match rest with
 | e :: rest=>if hs:notStar e=true then some ⟨[],.ev e (.arg g acc rest pos :: ks) l T W,fun z9 q=>wl_cons hs q⟩ else none
 | []=>match appW [] (acc.reverseAux []) with
  | ⟨vs,hv⟩=>have hv:vs=acc.reverseAux []:=hv.trans (List.append_nil _)
   match g with
   | .call f=>match kpF κ f with
    | some ⟨k⟩=>some ⟨[],.cl f vs ks l T W,fun z9 q=>wl_nil ⟨k,hv▸q⟩⟩
    | none=>none
   | .tup=>if hz:decide (vs.length≤4096)=true then some ⟨[],.rt (.tup vs) ks l T W,fun z9 q=>wl_nil (hv▸⟨of_decide_eq_true hz,q⟩)⟩ else none
   | .listF=>if hz:decide (vs.length≤4096)=true then some ⟨[],.rt (.list vs) ks l T W,fun z9 q=>wl_nil (hv▸⟨of_decide_eq_true hz,q⟩)⟩ else none
   | .listT=>if hz:decide (vs.length≤4096)=true then match lenW T,appW [.list vs] T with
    | ⟨k,hk⟩,⟨T',hT⟩=>some ⟨[],.rt (.lo k) ks l T' W,fun z9 q=>wl_nil (hv▸⟨of_decide_eq_true hz,hk▸hT▸q⟩)⟩
    else none
   | .listW=>if hz:(decide (vs.length≤4096)&&V.noLoL vs)=true then match lenW W,appW [.list vs] W with
    | ⟨k,hk⟩,⟨W',hT⟩=>some ⟨[],.rt (.ob k) ks l T W',fun z9 q=>have b:=(Bool.and_eq_true _ _).mp hz; wl_nil (hv▸⟨of_decide_eq_true b.1,b.2,hk▸hT▸q⟩)⟩
    else none
noncomputable def spF:(ps:List (V×V))→Option {l:List (Str×V) // strPairs ps=some l}
 | []=>some ⟨[],rfl⟩
 | (.str x,v) :: r=>match spF r with
  | some ⟨l,h⟩=>some ⟨(x,v) :: l,by show (strPairs _).map ((x,v) :: ·)=_; rw [h]; rfl⟩
  | none=>none
 | _=>none
noncomputable def stepD (d:Bool) (acc:List (V×V)) (keys:List (Option PySem.Expr)) (vs:List PySem.Expr) (pos:Pos) (ks:List Fr) (l:Loc) (T W:List AO):Option (Nx n κ (.dl d acc keys vs pos ks l T W)) :=
 match keys,vs with
 | some k :: keys,v :: vs=>some ⟨[],.ev k (.dk d acc v keys vs pos :: ks) l T W,fun z9 q=>wd_cons q⟩
 | [],vs=>match spF (acc.reverseAux []) with
  | some ⟨es,he⟩=>if hz:(nodupB (es.map (·.1))&&decide (es.length≤4096))=true then match d with
   | false=>some ⟨[],.rt (.dict es) ks l T W,fun z9 q=>have b:=(Bool.and_eq_true _ _).mp hz; wd_nil ⟨es,he,nodupB_iff b.1,of_decide_eq_true b.2,q⟩⟩
   | true=>if hn:V.noLoD es=true then match lenW W,appW [.dict es] W with
    | ⟨k,hk⟩,⟨W',hT⟩=>some ⟨[],.rt (.ob k) ks l T W',fun z9 q=>have b:=(Bool.and_eq_true _ _).mp hz; wd_nil ⟨es,he,nodupB_iff b.1,of_decide_eq_true b.2,hn,hk▸hT▸q⟩⟩
    else none
   else none
  | none=>none
 | _,_=>none
noncomputable def stepO (ts:List PySem.Expr) (vs:List V) (rest:List Stmt) (l:Loc) (T W:List AO):Option (Nx n κ (.ao ts vs rest l T W)) :=
 match ts,vs with
 | [],[]=>some ⟨[],.ex rest l T W,fun z9 q=>ao_nil q⟩
 | .Name x _ :: ts,v :: vs=>if hk:(sc.names.lookup x==some .local)=true then match putL2 x v l with
  | some ⟨l',p⟩=>some ⟨[],.ao ts vs rest l' T W,fun z9 q=>ao_name κ.he hk ⟨l',p,q⟩⟩
  | none=>none
  else none
 | .Attribute o x _ :: ts,v :: vs=>match pvE n κ l T W 3 o with
  | some ⟨(ob,ov),h⟩=>match saF n κ x ov v l T W with
   | some ⟨W',h'⟩=>some ⟨ob,.ao ts vs rest l T W',fun a q=>ao_attr (h a _ (h' _ q))⟩
   | none=>none
  | none=>none
 | _,_=>none
end
end HL.Lake
end
noncomputable section
set_option genSizeOf false
set_option genInjectivity false
set_option backward.match.sparseCases false
set_option bootstrap.genMatcherCode false
namespace HL.Lake
open PySem PySem.W PySem.Calls PyProof.Rows
section
variable {c:Cx} (n:Nat) {sc:Scope} {τ:TblD} (κ:Ct c sc τ)
noncomputable def stepR (v:V) (f:Fr) (ks:List Fr) (l:Loc) (T W:List AO):Option (Nx n κ (.rt v (f :: ks) l T W)) :=
 match f with
 | .binR op e=>some ⟨[],.ev e (.bin op v :: ks) l T W,fun z9 q=>q⟩
 | .bin op a=>match bvF n κ op a v l T W with
  | some ⟨(o,r),h⟩=>some ⟨o,.rt r ks l T W,fun a q=>h a _ q⟩
  | none=>none
 | .cmpR op e=>some ⟨[],.ev e (.cmp op v :: ks) l T W,fun z9 q=>q⟩
 | .cmp op a=>match kvF n κ op a v l T W with
  | some ⟨r,h⟩=>some ⟨[],.rt (.bool r) ks l T W,fun z9 q=>h _ q⟩
  | none=>none
 | .attr x=>match gaF n κ x v l T W with
  | some ⟨r,h⟩=>some ⟨[],.rt r ks l T W,fun z9 q=>h _ q⟩
  | none=>none
 | .sub0 e=>some ⟨[],.ev e (.sub1 v :: ks) l T W,fun z9 q=>q⟩
 | .sub1 o=>match ivF n κ o v l T W with
  | some ⟨(ob,r),h⟩=>some ⟨ob,.rt r ks l T W,fun a q=>h a _ q⟩
  | none=>none
 | .slc lo hi=>match pvP n κ l T W (pvE n κ l T W 12) lo with
  | some ⟨(o1,a),h1⟩=>match pvP n κ l T W (pvE n κ l T W 12) hi with
   | some ⟨(o2,b),h2⟩=>match slF l T W a b v with
    | some ⟨(o3,r),h3⟩=>some ⟨o1++(o2++o3),.rt r ks l T W,fun a q=>have a1:=Ob.app a; have a2:=Ob.app a1.2; h1 a1.1 _ (h2 a2.1 _ ⟨r,h3 a2.2,q⟩)⟩
    | none=>none
   | none=>none
  | none=>none
 | .fcal args pos=>some ⟨[],.al (.call v) [] args pos ks l T W,fun z9 q=>q⟩
 | .meth x args pos=>match gmF n κ x v l T W with
  | some ⟨(f,[]),h⟩=>some ⟨[],.al (.call f) [] args pos ks l T W,fun z9 q=>h (fun f first σ₂=>WL c n κ.env pos args (fun us σ'=>Kp c f∧CV c n κ.env f (first++us) (kont n κ ks) κ.X σ') κ.X σ₂) q⟩
  | some ⟨(f,[a]),h⟩=>some ⟨[],.al (.call f) [a] args pos ks l T W,fun z9 q=>h (fun f first σ₂=>WL c n κ.env pos args (fun us σ'=>Kp c f∧CV c n κ.env f (first++us) (kont n κ ks) κ.X σ') κ.X σ₂) q⟩
  | _=>none
 | .arg g acc rest pos=>some ⟨[],.al g (v :: acc) rest pos ks l T W,fun z9 q=>q⟩
 | .dk d acc e kk vs pos=>some ⟨[],.ev e (.dv d acc v kk vs pos :: ks) l T W,fun z9 q=>q⟩
 | .dv d acc a kk vs pos=>some ⟨[],.dl d ((a,v) :: acc) kk vs pos ks l T W,fun z9 q=>q⟩
 | .exp rest=>some ⟨[],.ex rest l T W,fun z9 q=>q⟩
 | .asg x rest=>match putL2 x v l with
  | some ⟨l',p⟩=>some ⟨[],.ex rest l' T W,fun z9 q=>⟨l',p,q⟩⟩
  | none=>none
 | .asgT elts rest=>match v with
  | .tup vs=>if hl:(vs.length==elts.length)=true then some ⟨[],.ao elts vs rest l T W,fun z9 q=>⟨vs,rfl,eq_of_beq hl,q⟩⟩ else none
  | _=>none
 | .asgA o x rest=>match pvE n κ l T W 12 o with
  | some ⟨(ob,ov),h⟩=>match saF n κ x ov v l T W with
   | some ⟨W',h'⟩=>some ⟨ob,.ex rest l T W',fun a q=>h a _ (h' _ q)⟩
   | none=>none
  | none=>none
 | .aug x op a rest=>match pvF n κ op a v l T W with
  | some ⟨(ob,r),h⟩=>match putL2 x r l with
   | some ⟨l',p⟩=>some ⟨ob,.ex rest l' T W,fun a q=>h a _ ⟨l',p,q⟩⟩
   | none=>none
  | none=>none
 | .augA o x op a rest=>match pvF n κ op a v l T W with
  | some ⟨(ob,r),h⟩=>match saF n κ x o r l T W with
   | some ⟨W',h'⟩=>some ⟨ob,.ex rest l T W',fun a q=>h a _ (h' _ q)⟩
   | none=>none
  | none=>none
 | .augS0 i op e rest=>some ⟨[],.ev i [.augS1 v op e rest] l T W,fun z9 q=>q⟩
 | .augS1 ov op e rest=>match ivF n κ ov v l T W with
  | some ⟨(ob,old),h⟩=>some ⟨ob,.ev e [.augS2 ov v op old rest] l T W,fun a q=>(h a _ q).2⟩
  | none=>none
 | .augS2 ov iv op a rest=>match pvF n κ op a v l T W with
  | some ⟨(ob,r),h⟩=>match siF n κ ov iv r l T W with
   | some ⟨(ob',T',W'),h'⟩=>some ⟨ob++ob',.ex rest l T' W',fun a q=>h (Ob.app a).1 _ (h' (Ob.app a).2 _ q)⟩
   | none=>none
  | none=>none
 | .tst=>match tvF n κ v l T W with
  | some ⟨(ob,b),h⟩=>some ⟨ob,.rt (.bool b) ks l T W,fun a q=>h a _ q⟩
  | none=>none
 | .notF=>match v with
  | .bool b=>some ⟨[],.rt (.bool (!b)) ks l T W,fun z9 q=>⟨b,rfl,q⟩⟩
  | _=>none
 | .bl op rest=>match v with
  | .bool true=>match op with
   | .And=>some ⟨[],.ts .And rest ks l T W,fun z9 q=>⟨true,rfl,q⟩⟩
   | .Or=>some ⟨[],.rt (.bool true) ks l T W,fun z9 q=>⟨true,rfl,q⟩⟩
  | .bool false=>match op with
   | .And=>some ⟨[],.rt (.bool false) ks l T W,fun z9 q=>⟨false,rfl,q⟩⟩
   | .Or=>some ⟨[],.ts .Or rest ks l T W,fun z9 q=>⟨false,rfl,q⟩⟩
  | _=>none
 | .cond a b rest=>match v with
  | .bool true=>match appW rest a with
   | ⟨ss,h⟩=>some ⟨[],.ex ss l T W,fun z9 q=>⟨true,rfl,h▸q⟩⟩
  | .bool false=>match appW rest b with
   | ⟨ss,h⟩=>some ⟨[],.ex ss l T W,fun z9 q=>⟨false,rfl,h▸q⟩⟩
  | _=>none
 | .wh body=>match v with
  | .bool true=>some ⟨[],.ex body l T W,fun z9 q=>⟨true,rfl,q⟩⟩
  | _=>none
 | .asrt rest=>match v with
  | .bool true=>some ⟨[],.ex rest l T W,fun z9 q=>⟨rfl,q⟩⟩
  | _=>none
 | .ifx a b=>match v with
  | .bool true=>some ⟨[],.ev a ks l T W,fun z9 q=>⟨true,rfl,q⟩⟩
  | .bool false=>some ⟨[],.ev b ks l T W,fun z9 q=>⟨false,rfl,q⟩⟩
  | _=>none
 | .rng0 b t body rest=>some ⟨[],.ev b [.rng1 v t body rest] l T W,fun z9 q=>q⟩
 | .ret | .bv .. | .forF .. | .rng1 ..=>none
noncomputable def isRange:PySem.Expr→Bool
 | .Call (.Name x _) _ _ _=>x==Str.ofString "range"||x==Str.ofString "enumerate"
 | _=>false
noncomputable def rngE:(e:PySem.Expr)→Option {r:(Str×Pos)×PySem.Expr×PySem.Expr×Pos // e=.Call (.Name r.1.1 r.1.2) [r.2.1,r.2.2.1] [] r.2.2.2}
 | .Call (.Name x p) [a,b] [] p'=>some ⟨((x,p),a,b,p'),rfl⟩
 | _=>none
noncomputable def stepFr (t iter:PySem.Expr) (body rest:List Stmt) (pos:Pos) (l:Loc) (T W:List AO):Option (Nx n κ (.ex (.For t iter body [] pos :: rest) l T W)) :=
 match rngE iter with
 | some r=>if hr:(r.1.1.1==Str.ofString "range"&&(noStars [r.1.2.1,r.1.2.2.1]&&sc.names.lookup (Str.ofString "range")==some NameKind.globalImplicit))=true then match fndS (Str.ofString "range") τ.bi with
   | some ⟨_,m⟩=>some ⟨[],.ev r.1.2.1 [.rng0 r.1.2.2.1 t body rest] l T W,fun z9 q=>have h:=(Bool.and_eq_true _ _).mp hr; have h':=(Bool.and_eq_true _ _).mp h.2; r.2.symm▸eq_of_beq h.1▸s_for rfl (wi_range2 κ.he h'.2 (κ.ok.bi _ m).1 h'.1 q)⟩
   | none=>none
  else none
 | none=>if hs:(notSetE iter&&!isRange iter)=true then some ⟨[],.ev iter [.forF t body rest] l T W,fun z9 q=>have b:=(Bool.and_eq_true _ _).mp hs; s_for b.1 (wi_plain q)⟩ else none
noncomputable def stepS (ss:List Stmt) (l:Loc) (T W:List AO):Option (Nx n κ (.ex ss l T W)) :=
 match ss with
 | []=>none
 | s :: rest=>match s with
  | .Return (some e) _=>some ⟨[],.ev e [.ret] l T W,fun z9 q=>s_return q⟩
  | .Return none _=>some ⟨[],.rt .none [.ret] l T W,fun z9 q=>s_return_none q⟩
  | .Expr e _=>if hc:notComp e=true then some ⟨[],.ev e [.exp rest] l T W,fun z9 q=>s_expr κ.he hc q⟩ else none
  | .Pass _=>some ⟨[],.ex rest l T W,fun z9 q=>s_pass q⟩
  | .If t a b _=>some ⟨[],.te t [.cond a b rest] l T W,fun z9 q=>s_if (q.mono (fun b σ h=>by obtain ⟨t,e,h⟩:=h; cases e; exact h) fun z9 h=>h)⟩
  | .For t iter body [] pos=>stepFr n κ t iter body rest pos l T W
  | .Assert t none _=>some ⟨[],.te t [.asrt rest] l T W,fun z9 q=>s_assert (q.mono (fun b σ h=>⟨V.bool.inj h.1,h.2⟩) fun z9 h=>h)⟩
  | .Assign [t] e _=>if hc:notComp e=true then match t with
   | .Name x _=>if hk:(sc.names.lookup x==some .local)=true then some ⟨[],.ev e [.asg x rest] l T W,fun z9 q=>s_assign κ.he hk hc q⟩ else none
   | .Attribute o x _=>some ⟨[],.ev e [.asgA o x rest] l T W,fun z9 q=>s_assign_attr hc q⟩
   | .Tuple elts _ _=>if ht:(notTupE e&&elts.all notStarT)=true then some ⟨[],.ev e [.asgT elts rest] l T W,fun z9 q=>have b:=(Bool.and_eq_true _ _).mp ht; s_tuple hc b.1 b.2 q⟩ else none
   | _=>none
   else none
  | .AugAssign t op e _=>match t with
   | .Name x _=>if hk:(sc.names.lookup x==some .local)=true then match getL2 x l with
    | some ⟨a,m⟩=>some ⟨[],.ev e [.aug x op a rest] l T W,fun z9 q=>s_aug κ.he hk m q⟩
    | none=>none
    else none
   | .Attribute o x _=>match pvE n κ l T W 6 o with
    | some ⟨(ob,ov),h⟩=>match gaF n κ x ov l T W with
     | some ⟨old,h'⟩=>some ⟨ob,.ev e [.augA ov x op old rest] l T W,fun a q=>s_aug_attr (h a _ (h' _ q))⟩
     | none=>none
    | none=>none
   | .Subscript o i _=>if hi:notSlice i=true then some ⟨[],.ev o [.augS0 i op e rest] l T W,fun z9 q=>s_aug_sub hi q⟩ else none
   | _=>none
  | _=>none
noncomputable def strsF:(xs:List V)→Option {ys:List Str // xs=ys.map V.str}
 | []=>some ⟨[],rfl⟩
 | .str x :: r=>match strsF r with
  | some ⟨ys,h⟩=>some ⟨x :: ys,by rw [h]; rfl⟩
  | none=>none
 | _=>none
noncomputable def popF:(xs:List V)→Option {p:List V×V // xs=p.1++[p.2]}
 | []=>none
 | [a]=>some ⟨([],a),rfl⟩
 | a :: r=>match popF r with
  | some ⟨(b,x),h⟩=>some ⟨(a :: b,x),by rw [h]; rfl⟩
  | none=>none
theorem cv_count_o {x y:Str} {z off:Int} {X:St→Prop} {env:Env} {σ:St} {Q:V→St→Prop} (h:y=⟨#[10]⟩∧z=0∧0≤off∧off≤x.length) (q:Q (.int (cntIn 10 (x.cps.toList.take off.toNat))) σ):CV c n env (.st (.builtin "str.count")) [.str x,.str y,.int z,.int off] Q X σ:=h.2.1▸cv_count_nl h.1 h.2.2.1 h.2.2.2 q
theorem cv_rfind_o {x y:Str} {z off:Int} {X:St→Prop} {env:Env} {σ:St} {Q:V→St→Prop} (h:y=⟨#[10]⟩∧z=0∧0≤off∧off≤x.length) (q:Q (.int (match lastIn 10 (x.cps.toList.take off.toNat) with | some i=>(i:Int) | none=>-1)) σ):CV c n env (.st (.builtin "str.rfind")) [.str x,.str y,.int z,.int off] Q X σ:=h.2.1▸cv_rfind_nl h.1 h.2.2.1 h.2.2.2 q
noncomputable def stepC (f:V) (vs:List V) (ks:List Fr) (l:Loc) (T W:List AO):Option (Nx n κ (.cl f vs ks l T W)) :=
 match f with
 | .st (.builtin id)=>match vs with
  | [a]=>if h:id="list.pop" then match a with
    | .lo i=>match atW T i with
     | some ⟨.list xs,h0⟩=>match popF xs with
      | some ⟨(ys,y),hy⟩=>match setWl (.list ys) T i with
       | some ⟨T',hT⟩=>some ⟨[ys.length≤10000],.rt y ks l T' W,fun o q=>h▸cv_pop (.lo (hy▸h0)) o.1 (hT▸q)⟩
       | none=>none
      | none=>none
     | _=>none
    | _=>none
   else if h:id="len" then match a with
    | .str x=>some ⟨[x.length≤10000],.rt (.int x.length) ks l T W,fun o q=>h▸cv_len_str o.1 q⟩
    | a=>match lvF l T W a with
     | some ⟨xs,k⟩=>some ⟨[xs.length≤10000],.rt (.int xs.length) ks l T W,fun o q=>h▸cv_len_list k o.1 q⟩
     | none=>none
   else if h:id="ord" then match a with
    | .str ⟨⟨[k]⟩⟩=>some ⟨[],.rt (.int k) ks l T W,fun z9 q=>h▸cv_ord q⟩
    | _=>none
   else if h:id="chr" then match a with
    | .int i=>some ⟨[(decide (i < 0)||decide (i > 1114111))=false],.rt (.str ⟨#[i.toNat]⟩) ks l T W,fun o q=>h▸cv_chr o.1 q⟩
    | _=>none
   else none
  | [a,b]=>if h:id="list.append" then match a with
    | .lo i=>match atW T i with
     | some ⟨.list xs,h0⟩=>match setWl (.list (xs++[b])) T i with
       | some ⟨T',hT⟩=>some ⟨[xs.length≤10000],.rt .none ks l T' W,fun o q=>h▸cv_append (.lo h0) rfl o.1 (hT▸q)⟩
       | none=>none
     | _=>none
    | .ob i=>if hn:b.noLo=true then match atW W i with
     | some ⟨.list xs,h0⟩=>match setWl (.list (xs++[b])) W i with
       | some ⟨W',hT⟩=>some ⟨[xs.length≤10000],.rt .none ks l T W',fun o q=>h▸cv_append (.ob h0) hn o.1 (hT▸q)⟩
       | none=>none
     | _=>none
     else none
    | _=>none
   else if h:id="max" then match a,b with
    | .int a,.int b=>some ⟨[],.rt (.int (if b > a then b else a)) ks l T W,fun z9 q=>h▸cv_max q⟩
    | _,_=>none
   else if h:id="str.join" then match a with
    | .str s=>match lvF l T W b with
     | some ⟨xs,k⟩=>match strsF xs with
      | some ⟨ys,hy⟩=>some ⟨[s.length≤16∧(ys.map (·.length)).sum+ys.length≤1048576],.rt (.str (Txt.join s ys)) ks l T W,fun o q=>h▸cv_join (hy▸k) o.1.1 o.1.2 q⟩
      | none=>none
     | none=>none
    | _=>none
   else if h:id="str.startswith" then match a,b with
    | .str a,.str b=>some ⟨[],.rt (.bool (Txt.startswith a b)) ks l T W,fun z9 q=>h▸cv_startswith q⟩
    | _,_=>none
   else if h:id="isinstance" then match a,b with
    | .int a,.st (.type t)=>if h2:t="bool" then some ⟨[],.rt (.bool false) ks l T W,fun z9 q=>h▸h2▸cv_isb_int q⟩ else none
    | .bool a,.st (.type t)=>if h2:t="bool" then some ⟨[],.rt (.bool true) ks l T W,fun z9 q=>h▸h2▸cv_isb_bool q⟩ else none
    | _,_=>none
   else none
  | [.str x,.str y,.int z,.int o]=>if h:id="str.count" then some ⟨[y=⟨#[10]⟩∧z=0∧0≤o∧o≤x.length],.rt (.int (cntIn 10 (x.cps.toList.take o.toNat))) ks l T W,fun a q=>h▸cv_count_o n a.1 q⟩
   else if h:id="str.rfind" then some ⟨[y=⟨#[10]⟩∧z=0∧0≤o∧o≤x.length],.rt (.int (match lastIn 10 (x.cps.toList.take o.toNat) with | some i=>(i:Int) | none=>-1)) ks l T W,fun a q=>h▸cv_rfind_o n a.1 q⟩
   else none
  | [.str x,.str y,.str z]=>if h:id="str.replace" then some ⟨[y.cps[0]?=some 13∧∀ a∈x.cps.toList,a≠13],.rt (.str x) ks l T W,fun a q=>h▸cv_replace_cr a.1.1 a.1.2 q⟩ else none
  | _=>none
 | _=>none
noncomputable def stepF (t:PySem.Expr) (v:V) (body:List Stmt) (l:Loc) (T W:List AO):Option (Nx n κ (.ft t v body l T W)) :=
 match t with
 | .Name x _=>if hk:(sc.names.lookup x==some .local)=true then match putL2 x v l with
  | some ⟨l',p⟩=>some ⟨[],.ex body l' T W,fun z9 q=>at_name κ.he hk ⟨l',p,q⟩⟩
  | none=>none
  else none
 | .Tuple elts _ _=>match v with
  | .tup vs=>if hl:(elts.all notStarT&&vs.length==elts.length)=true then some ⟨[],.ao elts vs body l T W,fun z9 q=>have b:=(Bool.and_eq_true _ _).mp hl; at_tuple b.1 (eq_of_beq b.2) q⟩ else none
  | _=>none
 | _=>none
noncomputable def step (m:M):Option (Nx n κ m):=match m with
 | .ev e ks l T W=>stepE n κ e ks l T W
 | .te e ks l T W=>stepT n κ e ks l T W
 | .ts op es ks l T W=>stepB n κ op es ks l T W
 | .rt v (f :: ks) l T W=>stepR n κ v f ks l T W
 | .rt _ [] _ _ _=>none
 | .ex ss l T W=>stepS n κ ss l T W
 | .cl f vs ks l T W=>stepC n κ f vs ks l T W
 | .al g acc rest pos ks l T W=>stepA n κ g acc rest pos ks l T W
 | .dl d acc keys vs pos ks l T W=>stepD n κ d acc keys vs pos ks l T W
 | .ao ts vs rest l T W=>stepO n κ ts vs rest l T W
 | .ft t v body l T W=>stepF n κ t v body l T W
noncomputable def run:Nat→(m:M)→Nx n κ m
 | 0,m=>⟨[],m,fun z9 q=>q⟩
 | k+1,m=>match step n κ m with
  | none=>⟨[],m,fun z9 q=>q⟩
  | some ⟨o,m',h⟩=>match run k m' with
   | ⟨o',m'',h'⟩=>⟨o++o',m'',fun a q=>h (Ob.app a).1 (h' (Ob.app a).2 q)⟩
noncomputable def Nx.o {m:M}:Nx n κ m→Ob
 | ⟨o,_,_⟩=>o
noncomputable def Nx.m {m:M}:Nx n κ m→M
 | ⟨_,m',_⟩=>m'
theorem Nx.h {m:M} (x:Nx n κ m) (a:x.o.all) (q:Vd n κ (Nx.m n κ x)):Vd n κ m:=by
 cases x with
 | mk o m' h=>exact h a q
theorem go (k:Nat) {m m':M} (e:Nx.m n κ (run n κ k m)=m') (a:(Nx.o n κ (run n κ k m)).all) (q:Vd n κ m'):Vd n κ m:=Nx.h n κ _ a (e▸q)
variable {n κ}
theorem go0 (k:Nat) {m m':M} (e:Nx.m n κ (run n κ k m)=m') (a:Nx.o n κ (run n κ k m)=[]) (q:Vd n κ m'):Vd n κ m:=Nx.h n κ _ (a▸trivial) (e▸q)
theorem go1 (k:Nat) {m m':M} {p:Prop} (e:Nx.m n κ (run n κ k m)=m') (a:Nx.o n κ (run n κ k m)=[p]) (h:p) (q:Vd n κ m'):Vd n κ m:=Nx.h n κ _ (a▸⟨h,trivial⟩) (e▸q)
theorem go2 (k:Nat) {m m':M} {p p2:Prop} (e:Nx.m n κ (run n κ k m)=m') (a:Nx.o n κ (run n κ k m)=[p,p2]) (h:p) (h2:p2) (q:Vd n κ m'):Vd n κ m:=Nx.h n κ _ (a▸⟨h,h2,trivial⟩) (e▸q)
end
end HL.Lake
end
noncomputable section
set_option genSizeOf false
set_option genInjectivity false
set_option backward.match.sparseCases false
set_option bootstrap.genMatcherCode false
namespace HL.Lake
open PySem PySem.W PySem.Calls PyProof.Rows
noncomputable def stOk (K:Frag) (v:V) (rv:Value):Bool:=match v with
 | .st w=>w==rv
 | v=>statB K v rv
theorem stOk_stat {c:Cx} {v:V} {rv:Value} (h:stOk c.K v rv=true):Stat c v rv:=by
 cases v with
 | st w=>rw [eq_of_beq (show (w==rv)=true from h)]; exact Stat.st
 | _=>exact Stat.of h
noncomputable def glB (K:Frag) (p:Str×V×Value):Bool:=nsIn K mainGlobals p.1==some (some p.2.2)&&stOk K p.2.1 p.2.2
noncomputable def biB (K:Frag) (p:Str×Value):Bool:=nsIn K mainGlobals p.1==some none&&(bootBuiltins p.1==some p.2&&(p.1==("__name__":Str))==false)
noncomputable def ownB (K:Frag) (p:Addr×Str):Bool:=plainGet K p.1 p.2&&(hasDictIn K p.1&&match findIn K (.ref p.1) p.2 with
 | some attr=>noGet K attr
 | none=>false)
noncomputable def stB (K:Frag) (p:Addr×Str):Bool:=findIn K (.ref p.1) "__setattr__"==some (some (.builtin "object.__setattr__"))&&(plainOver K p.1&&(takerIn K p.1 p.2==some none&&hasDictIn K p.1))
noncomputable def mtB (K:Frag) (p:Addr×Str×Addr):Bool:=plainGet K p.1 p.2.1&&(findIn K (.ref p.1) p.2.1==some (some (.ref p.2.2))&&(isFn K (.ref p.2.2)&&(keepIn K (.ref p.2.2)&&(fnIn K p.2.2&&(hasDictIn K p.1&&(specialIn K (.ref p.2.2) "__get__"==some (some (.builtin "function.__get__"))&&(takesIn K (.ref p.2.2)==some false&&copiedNames.contains p.2.1==false)))))))
theorem and2 {a b:Bool} (h:(a&&b)=true):a=true∧b=true:=(Bool.and_eq_true _ _).mp h
section
variable {c:Cx}
theorem all_gl {l:List (Str×V×Value)} (h:l.all (glB c.K)=true):∀ p∈l.map (fun p=>(p.1,p.2.1)),Gl c p.1 p.2:=fun p hp=>by
 obtain ⟨q,hq,rfl⟩:=List.mem_map.mp hp
 have:=and2 (List.all_eq_true.mp h q hq)
 exact ⟨_,eq_of_beq this.1,stOk_stat this.2⟩
theorem all_bi {l:List (Str×Value)} (h:l.all (biB c.K)=true):∀ p∈l,nsIn c.K mainGlobals p.1=some none∧bootBuiltins p.1=some p.2∧(p.1==("__name__":Str))=false:=fun p hp =>
 have a:=and2 (List.all_eq_true.mp h p hp)
 have b:=and2 a.2
 ⟨eq_of_beq a.1,eq_of_beq b.1,eq_of_beq b.2⟩
theorem all_own {l:List (Addr×Str)} (h:l.all (ownB c.K)=true):∀ p∈l,OwnOk c.K p.1 p.2:=fun p hp=>by
 have a:=and2 (List.all_eq_true.mp h p hp)
 have b:=and2 a.2
 refine ⟨a.1,b.1,?_⟩
 have d:=b.2
 cases e:findIn c.K (.ref p.1) p.2 with
 | none=>rw [e] at d; cases d
 | some attr=>rw [e] at d; exact ⟨_,rfl,d⟩
theorem all_ow2 {l:List (Addr×Str)} (h:l.all (fun p=>ownB c.K p&&findIn c.K (.ref p.1) p.2==some none)=true):∀ p∈l,OwnOk c.K p.1 p.2∧findIn c.K (.ref p.1) p.2=some none:=fun p hp =>
 ⟨all_own (List.all_eq_true.mpr fun q hq=>(and2 (List.all_eq_true.mp h q hq)).1) p hp,eq_of_beq (and2 (List.all_eq_true.mp h p hp)).2⟩
theorem all_st {l:List (Addr×Str)} (h:l.all (stB c.K)=true):∀ p∈l,SetOk c.K p.1 p.2:=fun p hp =>
 have a:=and2 (List.all_eq_true.mp h p hp)
 have b:=and2 a.2
 have d:=and2 b.2
 ⟨eq_of_beq a.1,b.1,eq_of_beq d.1,d.2⟩
theorem all_mt {l:List (Addr×Str×Addr)} (h:l.all (mtB c.K)=true):∀ p∈l,BoundOk c.K p.1 p.2.1 p.2.2:=fun p hp =>
 have a:=and2 (List.all_eq_true.mp h p hp)
 have b:=and2 a.2
 have d:=and2 b.2
 have e:=and2 d.2
 have f:=and2 e.2
 have g:=and2 f.2
 have i:=and2 g.2
 have j:=and2 i.2
 ⟨⟨a.1,eq_of_beq b.1,d.1,e.1,f.1⟩,g.1,eq_of_beq i.1,eq_of_beq j.1,eq_of_beq j.2⟩
theorem all_kp {l:List Addr} (h:l.all (fun a=>keepIn c.K (.ref a)&&fnIn c.K a)=true):∀ a∈l,keepIn c.K (.ref a)=true∧fnIn c.K a=true:=fun a ha=>and2 (List.all_eq_true.mp h a ha)
noncomputable def locn:List Str→Loc
 | []=>[]
 | x :: r=>(x,none) :: locn r
noncomputable def locs (os:List Str):List (Str×V)→Loc
 | []=>locn os
 | (x,v) :: r=>(x,some v) :: locs os r
theorem locs_eq {os:List Str} {bs:List (Str×V)}:locs os bs=loc0 bs os:=by
 induction bs with
 | nil=>induction os with
  | nil=>rfl
  | cons x r ih=>exact congrArg ((x,none) :: ·) ih
 | cons p r ih=>exact congrArg ((p.1,some p.2) :: ·) ih
variable {n:Nat} {Q:V→List AO→Prop} {X:List AO→Prop} {τ:TblD}
theorem cgo {H:Frag} {f:Addr} {o:Obj} {fd:FuncData} {body:List Stmt} {vs:List V} {kw bs:List (Str×V)} {others:List Str} {W₀:List AO} (hK:c.K=H) (ok:Tbl c τ) (hl:H.lookup f=some o) (hd:o.data=.func fd) (hb:fd.body=.stmts body) (hok:fnOk fd (bs.map (·.1)) others=true) (hcode:codeIn H fd.code fd.qualname=true) (hbind:Binds c fd vs kw bs)
  (h:∀ κ:Ct c fd.scope τ,EnvF κ.env→(∀ v v' l T W,Frz T v v'→Q v' W→κ.Q (.ret v) ⟨l,T,W⟩)→(∀ l T W,Q .none W→κ.Q .next ⟨l,T,W⟩)→(∀ l T W,X W→κ.X ⟨l,T,W⟩)→Vd n κ (.ex body (locs others bs) [] W₀)):CallS c (n+1) (.ref f) vs kw Q X W₀ :=
 callS_go ⟨o,hK▸hl,hd⟩ hb rfl hok (hK▸hcode) hbind fun env he hf=>locs_eq▸h ⟨env,he,ok,fun σ=>X σ.W,RetP Q⟩ hf (fun z9 v' z9 z9 z9 hz hq=>⟨v',hz,hq⟩) (fun z9 z9 z9 hq=>hq) fun z9 z9 z9 hx=>hx
noncomputable def bindKp (fd:FuncData) (pos:List Value):{k:Option (Array Value)→Sem (List (Str×Value)) // bindArgs fd ⟨pos,[]⟩=seqItems? fd.defaults >>= k}:=⟨_,rfl⟩
section
variable {H:Frag} {fd:FuncData} {D:Addr} {xs:List Value} {dl:List (Str×V)} {ds:List (Str×Value)} {v1 v2 v3:V} {x1 x2 x3:Str}
theorem bd_D (hK:c.K=H) (hd:fd.defaults=.ref D) (ho:seqIn H "tuple" D=some xs) {pos:List Value} {bs:List (Str×Value)} (h:(bindKp fd pos).1 (some xs.toArray)=pure bs) (s:Shared) (X:c.K.In s.heap):BindsTo s fd ⟨pos,[]⟩ bs:=binds_D X hd (hK▸ho) (bindKp fd pos).2 h
theorem bd1 (hK:c.K=H) (hd:fd.defaults=.ref D) (ho:seqIn H "tuple" D=some xs) (h:∀ a,(bindKp fd [a]).1 (some xs.toArray)=pure ((x1,a) :: ds)) (hs:StatL c dl ds):Binds c fd [v1] [] ((x1,v1) :: dl):=binds1 (fun s X a=>bd_D hK hd ho (h a) s X) hs
theorem bd2 (hK:c.K=H) (hd:fd.defaults=.ref D) (ho:seqIn H "tuple" D=some xs) (h:∀ a b,(bindKp fd [a,b]).1 (some xs.toArray)=pure ((x1,a) :: (x2,b) :: ds)) (hs:StatL c dl ds):Binds c fd [v1,v2] [] ((x1,v1) :: (x2,v2) :: dl):=binds2 (fun s X a b=>bd_D hK hd ho (h a b) s X) hs
theorem bd3 (hK:c.K=H) (hd:fd.defaults=.ref D) (ho:seqIn H "tuple" D=some xs) (h:∀ a b d,(bindKp fd [a,b,d]).1 (some xs.toArray)=pure ((x1,a) :: (x2,b) :: (x3,d) :: ds)) (hs:StatL c dl ds):Binds c fd [v1,v2,v3] [] ((x1,v1) :: (x2,v2) :: (x3,v3) :: dl):=binds3 (fun s X a b d=>bd_D hK hd ho (h a b d) s X) hs
end
theorem vcall {sc:Scope} {κ:Ct c sc τ} {f:Addr} {vs:List V} {ks:List Fr} {l:Loc} {T W:List AO} {P:V→List AO→Prop} {k:Nat} (h:CallS c k (.ref f) vs [] P (fun z9=>False) W) (hk:Nat.ble k n=true) (hv:V.noLoL vs=true) (hq:∀ v W',P v W'→Vd n κ (.rt v ks l T W')):Vd n κ (.cl (.st (.ref f)) vs ks l T W) :=
 call_defQ κ.he hv h hk hq
theorem vcallb {sc:Scope} {κ:Ct c sc τ} {f:Addr} {s:V} {vs:List V} {ks:List Fr} {l:Loc} {T W:List AO} {P:V→List AO→Prop} {k:Nat} (h:CallS c k (.ref f) (s :: vs) [] P (fun z9=>False) W) (hk:Nat.ble k n=true) (hv:V.noLoL (s :: vs)=true) (hq:∀ v W',P v W'→Vd n κ (.rt v ks l T W')):Vd n κ (.cl (.meth (.ref f) s) vs ks l T W) :=
 call_boundQ κ.he hv h hk hq
theorem all_kc {l:List Addr} (h:l.all (fun a=>keepIn c.K (.ref a))=true):∀ a∈l,keepIn c.K (.ref a)=true:=fun a ha=>List.all_eq_true.mp h a ha
noncomputable abbrev CallD (c:Cx) (n:Nat) (f:Addr) (vs:List V) (W:List AO) (v:V) (W':List AO):Prop:=CallS c n (.ref f) vs [] (fun v' W''=>v'=v∧W''=W') (fun z9=>False) W
theorem vcallD {sc:Scope} {κ:Ct c sc τ} {f:Addr} {vs:List V} {ks:List Fr} {l:Loc} {T W W':List AO} {v:V} {k:Nat} (h:CallD c k f vs W v W') (hk:Nat.ble k n=true) (hv:V.noLoL vs=true) (hq:Vd n κ (.rt v ks l T W')):Vd n κ (.cl (.st (.ref f)) vs ks l T W) :=
 vcall h hk hv fun z9 z9 e=>by rw [e.1,e.2]; exact hq
theorem vcallbD {sc:Scope} {κ:Ct c sc τ} {f:Addr} {s:V} {vs:List V} {ks:List Fr} {l:Loc} {T W W':List AO} {v:V} {k:Nat} (h:CallD c k f (s :: vs) W v W') (hk:Nat.ble k n=true) (hv:V.noLoL (s :: vs)=true) (hq:Vd n κ (.rt v ks l T W')):Vd n κ (.cl (.meth (.ref f) s) vs ks l T W) :=
 vcallb h hk hv fun z9 z9 e=>by rw [e.1,e.2]; exact hq
theorem vend {sc:Scope} {κ:Ct c sc τ} {l:Loc} {T W:List AO} (h:κ.Q .next ⟨l,T,W⟩):Vd n κ (.ex [] l T W):=s_nil h
theorem vnew {H:Frag} (hK:c.K=H) {sc:Scope} {κ:Ct c sc τ} {C fI:Addr} {vs:List V} {ks:List Fr} {l:Loc} {T W W2 W':List AO} {i k:Nat} (hm:makesIn H C=true) (hi:findIn H (.ref C) "__init__"=some (some (.ref fI))) (hf:typeIn H (.ref fI)=some (.type "function")) (hv:V.noLoL vs=true)
  (hl:W.length=i) (hw:W++[.dict []]=W2) (h:CallD c k fI (.inst C i :: vs) W2 .none W') (hk:Nat.ble k n=true) (hq:Vd (n+1) κ (.rt (.inst C i) ks l T W')):Vd (n+1) κ (.cl (.st (.ref C)) vs ks l T W):=by
 subst hl hw
 exact call_newQ (hK▸hm) (hK▸hi) (hK▸hf) hv h hk fun z9 z9 e=>by rw [e.1,e.2]; exact ⟨rfl,hq⟩
theorem vb {sc:Scope} {κ:Ct c sc τ} {b b':Bool} {ks:List Fr} {l:Loc} {T W:List AO} (h:b=b') (q:Vd n κ (.rt (.bool b') ks l T W)):Vd n κ (.rt (.bool b) ks l T W):=h▸q
end
end HL.Lake
end
noncomputable section
set_option genSizeOf false
set_option genInjectivity false
set_option bootstrap.genMatcherCode false
namespace HL.Lake
open PySem PySem.W PySem.Calls PyProof.Rows
section
variable {c:Cx} {n:Nat} {sc:Scope} {τ:TblD} {κ:Ct c sc τ} {l:Loc} {T W:List AO} {pos:Pos} {rest:List Stmt}
theorem vseq {st:Stmt} (J:Loc→List AO→List AO→Prop)
  (h1:∀ κ':Ct c sc τ,(∀ l T W,J l T W→κ'.Q .next ⟨l,T,W⟩)→(∀ v l T W,κ.Q (.ret v) ⟨l,T,W⟩→κ'.Q (.ret v) ⟨l,T,W⟩)→(∀ l T W,κ.Q .brk ⟨l,T,W⟩→κ'.Q .brk ⟨l,T,W⟩)→(∀ l T W,κ.Q .cont ⟨l,T,W⟩→κ'.Q .cont ⟨l,T,W⟩)→(∀ l T W,κ.X ⟨l,T,W⟩→κ'.X ⟨l,T,W⟩)→κ'.env=κ.env→Vd n κ' (.ex [st] l T W))
  (h2:∀ l T W,J l T W→Vd n κ (.ex rest l T W)):Vd n κ (.ex (st :: rest) l T W) :=
 s_seq1 (fun σ=>J σ.loc σ.T σ.W) (h1 ⟨κ.env,κ.he,κ.ok,κ.X,fun fl σ'=>match fl with | .next=>J σ'.loc σ'.T σ'.W | fl=>κ.Q fl σ'⟩ (fun z9 z9 z9 h=>h) (fun z9 z9 z9 z9 h=>h) (fun z9 z9 z9 h=>h) (fun z9 z9 z9 h=>h) (fun z9 z9 z9 h=>h) rfl) fun σ' h=>h2 σ'.loc σ'.T σ'.W h
theorem vwhile {test:PySem.Expr} {body:List Stmt} (I:Nat→Loc→List AO→List AO→Prop) (k:Nat) (hI:I k l T W)
  (turn:∀ k l T W,I k l T W→∀ κ':Ct c sc τ,(∀ j l T W,j < k→I j l T W→κ'.Q .next ⟨l,T,W⟩)→(∀ j l T W,j < k→I j l T W→κ'.Q .cont ⟨l,T,W⟩)→(∀ l T W,Vd n κ (.ex rest l T W)→κ'.Q .brk ⟨l,T,W⟩)→(∀ v l T W,κ.Q (.ret v) ⟨l,T,W⟩→κ'.Q (.ret v) ⟨l,T,W⟩)→Vd n κ' (.te test [.wh body] l T W)) :
  Vd n κ (.ex (.While test body [] pos :: rest) l T W) :=
 s_while (fun k σ=>I k σ.loc σ.T σ.W) k hI fun k σ h=>by
  have:=turn k σ.loc σ.T σ.W h ⟨κ.env,κ.he,κ.ok,fun z9=>False,fun fl σ₂=>match fl with | .next=>∃ j,j < k∧I j σ₂.loc σ₂.T σ₂.W | .cont=>∃ j,j < k∧I j σ₂.loc σ₂.T σ₂.W | .brk=>WS c n κ.env rest κ.Q κ.X σ₂ | .ret v=>κ.Q (.ret v) σ₂⟩ (fun j z9 z9 z9 a b=>⟨j,a,b⟩) (fun j z9 z9 z9 a b=>⟨j,a,b⟩) (fun z9 z9 z9 h=>h) fun z9 z9 z9 z9 h=>h
  exact Lake.W.mono this (fun b σ₁ h=>by obtain ⟨t,e,h⟩:=h; cases e; exact h) fun z9 h=>h
theorem vforP {target:PySem.Expr} {body:List Stmt} {items:List V} (J:Nat→Loc→List AO→List AO→Prop) (h0:J 0 l T W)
  (turn:∀ i l T W u,items[i]?=some u→J i l T W→∀ κ':Ct c sc τ,(∀ l T W,J (i+1) l T W→κ'.Q .next ⟨l,T,W⟩)→(∀ l T W,J (i+1) l T W→κ'.Q .cont ⟨l,T,W⟩)→(∀ l T W,Vd n κ (.ex rest l T W)→κ'.Q .brk ⟨l,T,W⟩)→(∀ v l T W,κ.Q (.ret v) ⟨l,T,W⟩→κ'.Q (.ret v) ⟨l,T,W⟩)→Vd n κ' (.ft target u body l T W))
  (fin:∀ l T W,J items.length l T W→Vd n κ (.ex rest l T W)):forP n κ items target body rest ⟨l,T,W⟩ :=
 ⟨fun i σ=>J i σ.loc σ.T σ.W,h0,fun i σ₂ u hu hJ=>turn i σ₂.loc σ₂.T σ₂.W u hu hJ ⟨κ.env,κ.he,κ.ok,fun z9=>False,fun fl σ₄=>match fl with | .next=>J (i+1) σ₄.loc σ₄.T σ₄.W | .cont=>J (i+1) σ₄.loc σ₄.T σ₄.W | .brk=>WS c n κ.env rest κ.Q κ.X σ₄ | .ret v=>κ.Q (.ret v) σ₄⟩ (fun z9 z9 z9 h=>h) (fun z9 z9 z9 h=>h) (fun z9 z9 z9 h=>h) fun z9 z9 z9 z9 h=>h,fun σ₂ h=>fin σ₂.loc σ₂.T σ₂.W h⟩
theorem vfor {target:PySem.Expr} {body:List Stmt} {v:V} {items:List V} (hi:ItemsOf v items) (h:forP n κ items target body rest ⟨l,T,W⟩):Vd n κ (.rt v [.forF target body rest] l T W):=⟨items,hi,h⟩
theorem rngI_at {i:Int} {N k:Nat} {u:V} (h:(rngI i N)[k]?=some u):k < N∧u=.int (i+k):=by
 unfold rngI at h
 rw [List.getElem?_map,Option.map_eq_some_iff] at h
 obtain ⟨a,ha,rfl⟩:=h
 obtain ⟨hl,rfl⟩:=List.getElem?_eq_some_iff.mp ha
 rw [List.length_range] at hl
 rw [List.getElem_range,Int.mul_one]
 exact ⟨hl,rfl⟩
theorem rngI_len {i:Int} {N:Nat}:(rngI i N).length=N:=by unfold rngI; rw [List.length_map,List.length_range]
theorem vsub {o i:PySem.Expr} {ks:List Fr} (q:Vd n κ (.ev o (.sub0 i :: ks) l T W)):Vd n κ (.ev (.Subscript o i pos) ks l T W):=e_sub q
theorem vsub_list {xs:List V} {i:Int} {w:V} {ks:List Fr} (h:IxOk xs.length i) (m:xs[ixI xs.length i]?=some w) (q:Vd n κ (.rt w ks l T W)):Vd n κ (.rt (.int i) (.sub1 (.list xs) :: ks) l T W):=⟨.list,iv_listX n .list h m q⟩
theorem pe_run {k:Nat} {e:PySem.Expr} {v:V} (h:(pvE n κ l T W k e).map Subtype.val=some ([],v)):PE c n κ.env e v κ.X ⟨l,T,W⟩:=by
 cases e1:pvE n κ l T W k e with
 | none=>rw [e1] at h; cases h
 | some r =>
  obtain ⟨⟨o,w⟩,p⟩:=r
  rw [e1] at h
  cases h
  exact p trivial
theorem vsub_st {o i:PySem.Expr} {a:Addr} {es:List DictEntry} {k:Nat} {v:V} {ks:List Fr} (h0:c.K.lookup a=some (dictOf es k)) (ho:PE c n κ.env o (.st (.ref a)) κ.X ⟨l,T,W⟩) (hi:PE c n κ.env i v κ.X ⟨l,T,W⟩) (h:IV c n κ.env (.st (.ref a)) v (kont n κ ks) κ.X ⟨l,T,W⟩):Vd n κ (.ev (.Subscript o i pos) ks l T W):=e_subI h0 (ho _ ⟨rfl,hi _ h⟩)
theorem vtryn {body:List Stmt} {h₀:ExceptHandler} {hs:List ExceptHandler} (h:∀ κ':Ct c sc τ,(∀ l T W,Vd n κ (.ex rest l T W)→κ'.Q .next ⟨l,T,W⟩)→(∀ v l T W,κ.Q (.ret v) ⟨l,T,W⟩→κ'.Q (.ret v) ⟨l,T,W⟩)→Vd n κ' (.ex body l T W)):Vd n κ (.ex (.Try body (h₀ :: hs) [] [] pos :: rest) l T W) :=
 s_try_no (h ⟨κ.env,κ.he,κ.ok,fun z9=>False,fun fl σ'=>match fl with | .next=>WS c n κ.env rest κ.Q κ.X σ' | fl=>κ.Q fl σ'⟩ (fun z9 z9 z9 h=>h) fun z9 z9 z9 z9 h=>h)
theorem vbool {op:BoolOp} {es:List PySem.Expr} {ks:List Fr} (q:Vd n κ (.ts op es ks l T W)):Vd n κ (.te (.BoolOp op es pos) ks l T W):=t_bool q
theorem vjoin {sep:Str} {v:V} {ks:List Fr} {ys:List Str} (k:IsLV ⟨l,T,W⟩ v (ys.map V.str)) (hs:sep.length≤16) (hw:(ys.map (·.length)).sum+ys.length≤1048576) (q:Vd n κ (.rt (.str (Txt.join sep ys)) ks l T W)):Vd n κ (.cl (.st (.builtin "str.join")) [.str sep,v] ks l T W):=cv_join k hs hw q
theorem vpop {i:Nat} {xs:List V} {x:V} {ks:List Fr} (k:T[i]?=some (.list (xs++[x]))) (hz:xs.length≤10000) (q:Vd n κ (.rt x ks l (T.set i (.list xs)) W)):Vd n κ (.cl (.st (.builtin "list.pop")) [.lo i] ks l T W):=cv_pop (.lo k) hz q
theorem vcmp {op:CmpOp} {a b:PySem.Expr} {ks:List Fr} (hm:behindInMarks op b=false) (q:Vd n κ (.ev a (.cmpR op b :: ks) l T W)):Vd n κ (.ev (.Compare a [op] [b] pos) ks l T W):=e_cmp hm q
theorem vcmpT {op:CmpOp} {a b:PySem.Expr} {ks:List Fr} (hm:behindInMarks op b=false) (q:Vd n κ (.ev a (.cmpR op b :: .tst :: ks) l T W)):Vd n κ (.te (.Compare a [op] [b] pos) ks l T W):=t_cmp hm q
theorem vin {vs:List V} {a:V} {ks:List Fr} (h:vs.all isFlatV=true) (h2:isFlatV a=true) (q:Vd n κ (.rt (.bool (vs.any fun y=>vf y a)) ks l T W)):Vd n κ (.rt (.tup vs) (.cmp .In a :: ks) l T W):=kv_in_tup h h2 q
theorem vwh_f {body:List Stmt} {ks:List Fr} (h:κ.Q .brk ⟨l,T,W⟩):Vd n κ (.rt (.bool false) (.wh body :: ks) l T W):=⟨false,rfl,h⟩
theorem vbreak {p:Pos} (h:κ.Q .brk ⟨l,T,W⟩):Vd n κ (.ex (.Break p :: rest) l T W):=s_break h
end
end HL.Lake
end
noncomputable section
set_option bootstrap.genMatcherCode false
namespace HL.Lake
open PySem PySem.W PySem.Calls PyProof.Rows
section
variable {c:Cx} {n:Nat} {sc:Scope} {τ:TblD} {κ:Ct c sc τ} {l:Loc} {T W:List AO} {pos:Pos}
theorem vtest {e:PySem.Expr} {b:Bool} {ks:List Fr} (h:PT c n κ.env e b κ.X ⟨l,T,W⟩) (q:Vd n κ (.rt (.bool b) ks l T W)):Vd n κ (.te e ks l T W):=h _ q
theorem pt_run {k:Nat} {e:PySem.Expr} {b b':Bool} {os:Ob} (h:(pvT n κ l T W k e).map Subtype.val=some (os,b)) (a:os.all) (hb:b=b'):PT c n κ.env e b' κ.X ⟨l,T,W⟩:=by
 subst hb
 cases e1:pvT n κ l T W k e with
 | none=>rw [e1] at h; cases h
 | some r =>
  obtain ⟨⟨o,w⟩,p⟩:=r
  rw [e1] at h
  cases h
  exact p a
theorem pe_runO {k:Nat} {e:PySem.Expr} {v:V} {os:Ob} (h:(pvE n κ l T W k e).map Subtype.val=some (os,v)) (a:os.all):PE c n κ.env e v κ.X ⟨l,T,W⟩:=by
 cases e1:pvE n κ l T W k e with
 | none=>rw [e1] at h; cases h
 | some r =>
  obtain ⟨⟨o,w⟩,p⟩:=r
  rw [e1] at h
  cases h
  exact p a
section
variable {X:St→Prop} {σ:St} {env:Env}
theorem pt_in {a b:PySem.Expr} {x:V} {vs:List V} (hm:behindInMarks .In b=false) (h1:PE c n env a x X σ) (h2:PE c n env b (.tup vs) X σ) (hv:vs.all isFlatV=true) (hx:isFlatV x=true):PT c n env (.Compare a [.In] [b] pos) (vs.any fun y=>vf y x) X σ:=fun z9 q=>t_cmp hm (h1 _ (h2 _ (kv_in_tup hv hx (tv_bool q))))
theorem pe_subs {o i:PySem.Expr} {v w r:V} (h1:PE c n env o v X σ) (h2:PE c n env i w X σ) (h:∀ Q:V→St→Prop,Q r σ→Sub4 σ v∧IV c n env v w Q X σ):PE c n env (.Subscript o i pos) r X σ:=fun z9 q=>e_sub (h1 _ (h2 _ (h _ q)))
theorem at_nth {j e:Nat} {xs:List V} {w:V} (h:σ.T[j]?=some (.list xs)) (m:xs[e]?=some w) (hz:xs.length≤10000):∀ Q:V→St→Prop,Q w σ→Sub4 σ (.lo j)∧IV c n env (.lo j) (.int (e:Int)) Q X σ:=fun z9 q =>
 ⟨.lo h,iv_list (.lo h) (Int.natCast_nonneg _) m hz q⟩
theorem at_last {j:Nat} {xs:List V} {x:V} (h:σ.T[j]?=some (.list (xs++[x]))) (hz:xs.length≤5000):∀ Q:V→St→Prop,Q x σ→Sub4 σ (.lo j)∧IV c n env (.lo j) (.int (-1)) Q X σ:=fun z9 q=>by
 have hl:(xs++[x]).length=xs.length+1:=List.length_append
 refine ⟨.lo h,iv_listX n (.lo h) (ixOk_last (hl▸Nat.succ_pos _) (hl▸Nat.le_trans (Nat.succ_le_succ hz) (Nat.le_of_ble_eq_true rfl))) ?_ q⟩
 rw [ix_last,hl,Nat.add_sub_cancel,List.getElem?_append_right (Nat.le_refl _),Nat.sub_self]
 rfl
end
theorem vlast {j:Nat} {xs:List V} {x:V} {ks:List Fr} (h:T[j]?=some (.list (xs++[x]))) (hz:xs.length≤5000) (q:Vd n κ (.rt x ks l T W)):Vd n κ (.rt (.int (-1)) (.sub1 (.lo j) :: ks) l T W):=at_last (σ:=⟨l,T,W⟩) h hz _ q
end
end HL.Lake
end
noncomputable section
namespace HL.Lake
open PySem PySem.W PySem.Calls PyProof.Rows
section
variable {c:Cx} {σ:St} {ω:Wd}
noncomputable def kfA (kf:Addr→Option (Str→Option Value)) (C:Addr) (m:Str→Option Value):Addr→Option (Str→Option Value):=fun x=>if x=C then some m else kf x
noncomputable def kfD (kf:Addr→Option (Str→Option Value)) (C:Addr):Addr→Option (Str→Option Value):=fun x=>if x=C then none else kf x
theorem SatW.wake {W:List AO} {s:Shared} {b:List Addr} {g k:PHeap} {kf:Addr→Option (Str→Option Value)} {C:Addr} {m:Str→Option Value} {loc:List (Str×Option V)} (S:SatW c W s b g k kf) (hk:kf C=some m) (hc:c.h₀.objs.size≤C)
  (hl:∀ x v,(x,some v)∈loc→∃ rv,m x=some rv∧Rel c.w.params g [] b v rv) (nd:(loc.map (·.1)).Nodup):Sat c C ⟨loc,[],W⟩ ⟨s,m,[],b,g,k,kfD kf C⟩:=by
 have hC:C ∉ b:=fun h=>by exact Lake.nn (S.okf C h) hk
 have ne:∀ x m',kfD kf C x=some m'→kf x=some m':=fun x m' e=>by
  unfold kfD at e
  split at e
  ·cases e
  ·exact e
 refine ⟨S.nf _ _ hk,S.keep,S.base,⟨hc,fun x hx=>S.sz.2 x hx⟩,hl,nd,⟨rfl,fun i o e=>(by simp at e)⟩,S.tab,List.nodup_cons.mpr ⟨hC,S.nodup⟩,?_,S.kk,?_,fun x m' e=>S.nf x m' (ne x m' e),?_,fun x m' e=>S.dis x m' (ne x m' e),S.dk⟩
 ·intro x hx
  rcases List.mem_cons.mp hx with rfl | hx
  ·exact (S.dis _ _ hk).2
  ·exact S.out x hx
 ·intro x hx
  rcases List.mem_cons.mp hx with rfl | hx
  ·exact (S.dis _ _ hk).1
  ·exact S.ok x hx
 ·intro x hx
  rcases List.mem_cons.mp hx with rfl | hx
  ·exact if_pos rfl
  ·exact (if_neg (show ¬ x=C from fun e=>hC (e▸hx))).trans (S.okf x hx)
theorem Sat.sleep {C:Addr} {kf:Addr→Option (Str→Option Value)} (S:Sat c C σ ω) (hT:σ.T=[]) (hkf:ω.kf=kfD kf C):SatW c σ.W ω.s ω.b ω.g ω.k (kfA kf C ω.m):=by
 have ha:ω.a=[]:=List.length_eq_zero_iff.mp (S.tT.1.trans (by rw [hT]; rfl))
 have hap:=S.apart
 have hh:=S.high
 have hout:=S.out
 have hok:=S.ok
 have hokf:=S.okf
 rw [ha] at hap hh hout hok hokf
 have ne:∀ x,x≠C→kfA kf C ω.m x=ω.kf x:=fun x h=>by
  rw [hkf]; exact (if_neg h).trans (if_neg h).symm
 have hC:C ∉ ω.b:=(List.nodup_cons.mp hap).1
 refine ⟨S.keep,S.base,S.tW,(List.nodup_cons.mp hap).2,fun x hx=>hout x (.tail _ hx),S.kk,fun x hx=>hok x (.tail _ hx),?_,fun x hx=>?_,?_,S.dk,⟨Nat.le_trans hh.1 (Nat.le_of_lt S.ns.lt),fun x hx=>hh.2 x hx⟩⟩
 ·intro x m e
  by_cases h:x=C
  ·subst h
   have:kfA kf x ω.m x=some ω.m:=if_pos rfl
   rw [this] at e; cases e; exact S.ns
  ·rw [ne x h] at e; exact S.nf x m e
 ·rw [ne x fun e=>hC (e▸hx)]; exact hokf x (.tail _ hx)
 ·intro x m e
  by_cases h:x=C
  ·subst h; exact ⟨hok _ (.head _),hout _ (.head _)⟩
  ·rw [ne x h] at e; exact S.dis x m e
theorem Sat.backK {L:Addr} (S:Sat c L σ ω) {W':List AO} {s':Shared} {b':List Addr} {g':PHeap} {kf':Addr→Option (Str→Option Value)} (hs:Sub ω.g g' [] [] ω.b b') (S':SatW c W' s' b' g' (kBelow L ω) (kfBelow L { ω with kf:=kf' }))
  (hk:∀ x m,kf' x=some m→∃ m₀,ω.kf x=some m₀):Sat c L { σ with W:=W' } { ω with s:=s',b:=b',g:=g',kf:=kf' }:=by
 have hsub:∀ {a:List Addr},Sub ω.g g' a a ω.b b':=⟨hs.hg,fun z9 z9 h=>h,hs.hb⟩
 have kL:kfBelow L { ω with kf:=kf' } L=some ω.m:=if_pos rfl
 have no:∀ x,ω.kf x=none→kf' x=none:=fun x e=>by
  cases q:kf' x with
  | none=>rfl
  | some m=>obtain ⟨m₀,h⟩:=hk x m q; exact Lake.nn (e) h
 have kff:∀ x m,kf' x=some m→kfBelow L { ω with kf:=kf' } x=some m:=fun x m e=>by
  unfold kfBelow; rw [if_neg]; exact e
  rintro rfl; exact Lake.nn (no _ (S.okf _ (.head _))) e
 have kk:∀ x o,ω.k x=some o→kBelow L ω x=some o:=fun x o e=>by
  unfold kBelow
  rw [if_neg]
  ·exact S.kk x o e
  ·rintro (h | h | h | h)
   ·subst h; exact Lake.nn (S.ok _ (.head _)) e
   ·exact Lake.nn (S.ok x (.tail _ (List.mem_append_right _ h))) e
   ·obtain ⟨m,hm⟩:=Option.isSome_iff_exists.mp h; exact Lake.nn ((S.dis x m hm).1) e
   ·rw [S.dk x o e] at h; cases h
 have hLb:L ∉ b':=fun h=>by have:=S'.okf L h; rw [kL] at this; cases this
 have hab:∀ x∈ω.a,x ∉ b':=fun x hx h=>by
  obtain ⟨o,_,e⟩:=S.kBelow_a hx
  exact Lake.nn (S'.ok x h) e
 refine ⟨S'.nf L _ kL,S'.keep,S'.base,⟨S.above,fun x hx=>(List.mem_append.mp hx).elim (fun q=>S.high.2 x (List.mem_append_left _ q)) fun q=>S'.sz.2 x q⟩,fun x v m=>?_,S.nd,?_,S'.tab,?_,?_,fun x o e=>S'.kk x o (kk x o e),?_,fun x m e=>S'.nf x m (kff x m e),?_,fun x m e=>⟨?_,(S'.dis x m (kff x m e)).2⟩,fun x o e=>S'.dk x o (kk x o e)⟩
 ·obtain ⟨rv,e,r⟩:=S.loc x v m
  exact ⟨rv,e,r.mono hsub⟩
 ·refine ⟨S.tT.1,fun i o e=>?_⟩
  obtain ⟨x,ob,e1,e2,r⟩:=S.tT.2 i o e
  obtain ⟨ob',h1,h2⟩:=S.kBelow_a (List.mem_of_getElem? e1)
  rw [e2] at h1; cases h1
  exact ⟨x,ob,e1,S'.kk x ob h2,r.mono hsub⟩
 ·have:=List.nodup_append.mp (List.nodup_cons.mp S.apart).2
  refine List.nodup_cons.mpr ⟨fun h=>?_,List.nodup_append.mpr ⟨this.1,S'.nodup,fun x hx y hy=>?_⟩⟩
  ·rcases List.mem_append.mp h with h | h
   ·exact (List.nodup_cons.mp S.apart).1 (List.mem_append_left _ h)
   ·exact hLb h
  ·rintro rfl; exact hab x hx hy
 ·intro x hx
  rcases List.mem_cons.mp hx with rfl | hx
  ·exact (S'.dis _ _ kL).2
  ·rcases List.mem_append.mp hx with hx | hx
   ·obtain ⟨o,_,e⟩:=S.kBelow_a hx
    exact S'.dk x o e
   ·exact S'.out x hx
 ·intro x hx
  rcases List.mem_cons.mp hx with rfl | hx
  ·exact S.ok _ (.head _)
  ·rcases List.mem_append.mp hx with hx | hx
   ·exact S.ok x (.tail _ (List.mem_append_left _ hx))
   ·cases q:ω.k x with
    | none=>rfl
    | some o=>have:=kk x o q; exact Lake.nn (S'.ok x hx) this
 ·intro x hx
  rcases List.mem_cons.mp hx with rfl | hx
  ·exact no _ (S.okf _ (.head _))
  ·rcases List.mem_append.mp hx with hx | hx
   ·exact no _ (S.okf x (.tail _ (List.mem_append_left _ hx)))
   ·have:=S'.okf x hx
    exact (if_neg (show ¬ x=L from fun e=>hLb (e▸hx))).symm.trans this
 ·obtain ⟨m₀,h⟩:=hk x m e; exact (S.dis x m₀ h).1
end
end HL.Lake
end
noncomputable section
namespace HL.Lake
open PySem PySem.W PySem.Calls PyProof.Rows
section
variable (c:Cx) (L C aG:Addr) (oG:Obj) (x:Str) (u:V) (ω₁:Wd) (J:Nat→St→Prop)
structure OI (m:Nat) (γ:St×Wd) (h:Heap):Prop where
 sat:Sat c L γ.1 γ.2
 hp:γ.2.s.heap=h
 sub:Sub ω₁.g γ.2.g ω₁.a γ.2.a ω₁.b γ.2.b
 k:γ.2.k=gAdd ω₁.k aG oG
 kf:∃ mG r,γ.2.kf=kfA ω₁.kf C mG∧mG x=some r∧Rel c.w.params γ.2.g [] γ.2.b u r
 js:J m γ.1
open Classical in
noncomputable def Om (m:Nat) (h:Heap):St×Wd:=if q:∃ γ,OI c L C aG oG x u ω₁ J m γ h then choose q else (⟨[],[],[]⟩,ω₁)
theorem Om.ok {c:Cx} {L C aG:Addr} {oG:Obj} {x:Str} {u:V} {ω₁:Wd} {J:Nat→St→Prop} {m:Nat} {γ:St×Wd} {h:Heap} (H:OI c L C aG oG x u ω₁ J m γ h):OI c L C aG oG x u ω₁ J m (Om c L C aG oG x u ω₁ J m h) h:=by
 unfold Om
 rw [dif_pos ⟨γ,H⟩]
 exact Classical.choose_spec (p:=fun γ=>OI c L C aG oG x u ω₁ J m γ h) ⟨γ,H⟩
structure IN (m:Nat) (s₀ s:Shared) (W:List AO) (ω:Wd):Prop where
 sat:Sat c C ⟨[(x,some u)],[],W⟩ ω
 hs:ω.s=s
 sub:Sub (Om c L C aG oG x u ω₁ J m s₀.heap).2.g ω.g [] [] (Om c L C aG oG x u ω₁ J m s₀.heap).2.b ω.b
 k:ω.k=kBelow L (Om c L C aG oG x u ω₁ J m s₀.heap).2
 kf:ω.kf=kfD (kfBelow L (Om c L C aG oG x u ω₁ J m s₀.heap).2) C
 dr:s.drawn=s₀.drawn
 os:s.os=s₀.os
 gens:gk s.gens=gk s₀.gens
structure RG (m:Nat) (s₀ s:Shared) (W:List AO) (b:List Addr) (g:PHeap):Prop where
 sub:Sub (Om c L C aG oG x u ω₁ J m s₀.heap).2.g g [] [] (Om c L C aG oG x u ω₁ J m s₀.heap).2.b b
 dr:s.drawn=s₀.drawn
 os:s.os=s₀.os
 gens:gk s.gens=gk s₀.gens
 sat:∃ mG r,SatW c W s b g (kBelow L (Om c L C aG oG x u ω₁ J m s₀.heap).2) (kfA (kfBelow L (Om c L C aG oG x u ω₁ J m s₀.heap).2) C mG)∧mG x=some r∧Rel c.w.params g [] b u r
inductive Yp (Yd:Nat→St→V→List AO→Prop) (Er:List AO→Prop) (m:Nat) (s₀:Shared) (v:Value) (s₁:Shared) (kap:Resume→Shared→Prop):Prop
 | mk (H:OI c L C aG oG x u ω₁ J (m+1) (Om c L C aG oG x u ω₁ J (m+1) s₀.heap) s₀.heap) (tok:V) (W':List AO) (b':List Addr) (g':PHeap) (r:RG c L C aG oG x u ω₁ J (m+1) s₀ s₁ W' b' g') (t:Rel c.w.params g' [] b' tok v) (q:Yd m (Om c L C aG oG x u ω₁ J (m+1) s₀.heap).1 tok W')
  (hk:∀ s'' γ'',OI c L C aG oG x u ω₁ J m γ'' s''.heap→(Er W'→Er γ''.1.W)→kap (.send .none) s''):Yp Yd Er m s₀ v s₁ kap
inductive Ed (En:St→List AO→Prop) (m:Nat) (s₀ s₁:Shared):Prop
 | mk (H:OI c L C aG oG x u ω₁ J m (Om c L C aG oG x u ω₁ J m s₀.heap) s₀.heap) (W':List AO) (b':List Addr) (g':PHeap) (r:RG c L C aG oG x u ω₁ J m s₀ s₁ W' b' g') (q:En (Om c L C aG oG x u ω₁ J m s₀.heap).1 W'):Ed En m s₀ s₁
end
section
variable {c:Cx} {L C aG:Addr} {oG:Obj} {x:Str} {u:V} {ω₁:Wd} {J:Nat→St→Prop} {m:Nat} {s₀ s:Shared} {W:List AO} {ω:Wd}
theorem SatW.re {s':Shared} {b:List Addr} {g k:PHeap} {kf:Addr→Option (Str→Option Value)} (S:SatW c W s b g k kf) (h:s.heap=s'.heap):SatW c W s' b g k kf :=
 ⟨fun y o e=>h▸S.keep y o e,S.base,by rw [← h]; exact S.tab,S.nodup,S.out,fun y o e=>h▸S.kk y o e,S.ok,fun y o e=>h▸S.nf y o e,S.okf,S.dis,S.dk,⟨h▸S.sz.1,S.sz.2⟩⟩
theorem IN.rest (h:IN c L C aG oG x u ω₁ J m s₀ s W ω) (hu:u.noLo=true):RG c L C aG oG x u ω₁ J m s₀ s W ω.b ω.g:=by
 have ha:ω.a=[]:=List.length_eq_zero_iff.mp (h.sat.tT.1.trans rfl)
 obtain ⟨r,e,hr⟩:=h.sat.loc x u (.head _)
 have q:=h.sat.sleep rfl h.kf
 rw [h.hs,h.k] at q
 exact ⟨h.sub,h.dr,h.os,h.gens,ω.m,r,q,e,hr.noLo hu⟩
theorem IN.go {ω':Wd} {W':List AO} (h:IN c L C aG oG x u ω₁ J m s₀ s W ω) (l:Le ω ω') (S:Sat c C ⟨[(x,some u)],[],W'⟩ ω'):IN c L C aG oG x u ω₁ J m s₀ ω'.s W' ω' :=
 ⟨S,rfl,⟨fun y o e=>l.sub.hg y o (h.sub.hg y o e),fun z9 z9 e=>e,fun i y e=>l.sub.hb i y (h.sub.hb i y e)⟩,l.k.trans h.k,l.kf.trans h.kf,l.drawn.trans (h.hs▸h.dr),l.os.trans (h.hs▸h.os),l.gens.trans (h.hs▸h.gens)⟩
theorem OI.wake {γ:St×Wd} (h:OI c L C aG oG x u ω₁ J m γ s.heap) (hC:c.h₀.objs.size≤C) (hL:L≠C):∃ ω,IN c L C aG oG x u ω₁ J m s s (Om c L C aG oG x u ω₁ J m s.heap).1.W ω:=by
 have H:=Om.ok h
 obtain ⟨mG,r,e1,e2,e3⟩:=H.kf
 have q:=H.sat.toW
 have hk:kfBelow L (Om c L C aG oG x u ω₁ J m s.heap).2 C=some mG:=by
  unfold kfBelow
  rw [if_neg (Ne.symm hL),e1]
  exact if_pos rfl
 have q':=q.re H.hp
 refine ⟨_,SatW.wake (loc:=[(x,some u)]) (s:=s) q' hk hC (fun y v hm=>?_) (List.nodup_cons.mpr ⟨List.not_mem_nil,List.nodup_nil⟩),rfl,⟨fun z9 z9 e=>e,fun z9 z9 e=>e,fun z9 z9 e=>e⟩,rfl,rfl,rfl,rfl,rfl⟩
 cases List.mem_singleton.mp hm
 exact ⟨r,e2,e3⟩
theorem er_det {e:Nat} {E:Addr} {γ γ':St×Wd} {h:Heap} {l:List V} (hE:ω₁.b[e]?=some E) (H:OI c L C aG oG x u ω₁ J m γ h) (H':OI c L C aG oG x u ω₁ J m γ' h) (h0:γ.1.W[e]?=some (.list [])) (h1:γ'.1.W[e]?=some (.list l)):l=[]:=by
 obtain ⟨y,ob,e1,e2,e3⟩:=H.sat.tW.2 e _ h0
 obtain ⟨y',ob',e1',e2',e3'⟩:=H'.sat.tW.2 e _ h1
 rw [H.sub.hb e E hE] at e1; cases e1
 rw [H'.sub.hb e E hE] at e1'; cases e1'
 rw [H.hp] at e2; rw [H'.hp,e2] at e2'; cases e2'
 cases e3 with
 | list r =>
  cases r
  generalize hq:({ cls:=.type "list",data:=.seq (List.toArray []) _ }:Obj)=q at e3'
  cases e3' with
  | list r' =>
   injection hq with _ _ hq _
   injection hq with hq _
   have:=congrArg Array.toList hq
   dsimp only at this
   subst this
   cases r'; rfl
end
end HL.Lake
end
noncomputable section
namespace HL.Lake
open PySem PySem.W PySem.Calls PyProof.Rows
section
variable {c:Cx}
theorem ar_room {a b m k n K:Nat} (h:b≤a+k) (hk:k≤m) (d:a+m * (n+1) < K):b+m * n < K:=Nat.lt_of_le_of_lt (Nat.le_trans (Nat.add_le_add_right (Nat.le_trans h (Nat.add_le_add_left hk a)) (m * n)) (Nat.le_of_eq (by rw [Nat.mul_succ,Nat.add_assoc,Nat.add_comm m]))) d
theorem hereG {n:Nat} {A A'':Around} {env:Env} {sc:Scope} {outer:List Env} {kfo:Addr→Option (Str→Option Value)} (he:EnvOk env sc) (hf:EnvF env) (hA:Room (n+1) A) (ho:Outs c kfo outer) (hd:A''.depth≤A.depth+3) (hu:A''.units≤A.units+20) (hh:A''.handled=none) (hfr:A''.frames=some (env :: outer))
  (hC:∀ e∈outer,e.frame≠some env.locals) (h0:c.h₀.get? env.locals=none):Here c n env A'' (kfD kfo env.locals):=by
 have ho':Outs c (kfD kfo env.locals) outer:=fun e q=>by
  obtain ⟨h1,L',m,h2,h3,h4⟩:=ho e q
  exact ⟨h1,L',m,h2,(if_neg (show ¬ L'=env.locals from fun z=>hC e q (z▸h2))).trans h3,h4⟩
 refine ⟨⟨ar_room hd (by decide) hA.depth,ar_room hu (by decide) hA.units,hh⟩,⟨_,hfr,fun e q=>?_⟩,fun z9=>⟨outer,hfr,ho'⟩⟩
 rcases List.mem_cons.mp q with rfl | q
 ·exact ⟨by rw [he.kind']; decide,_,hf.1,h0,.inl rfl⟩
 ·obtain ⟨h1,L',m,h2,h3,h4⟩:=ho' e q
  exact ⟨h1,L',h2,h4,.inr ⟨m,h3⟩⟩
end
section
variable {c:Cx} {L C aG:Addr} {oG:Obj} {x:Str} {u:V} {ω₁:Wd} {J:Nat→St→Prop} {m nn:Nat} {s₀ s:Shared} {W:List AO} {ω:Wd} {env:Env} {A':Around} {R:GenEnd} {Y:Protocol} {cc:Code} {fs:List Frame}
 {K:Flow→Sem Fin} {H:Value→Sem Fin} {gd:Bool→Bool} {lv:List Value→List Value} {P P':List AO→Prop}
theorem sg_stmt {st:Stmt} {rest:List Stmt} (hL:env.locals=C) (hin:IN c L C aG oG x u ω₁ J m s₀ s W ω) (hH:Here c nn env (A'.over cc fs) ω.kf)
  (h:WS c nn env [st] (fun fl σ=>fl=.next∧∃ W',σ=⟨[(x,some u)],[],W'⟩∧P W') (fun z9=>False) ⟨[(x,some u)],[],W⟩)
  (k:∀ s' W' ω',IN c L C aG oG x u ω₁ J m s₀ s' W' ω'→P W'→Seg (model c.prog c.w) A' R Y m s₀ cc ((execs rest env).wrap K H gd lv) fs s') :
  Seg (model c.prog c.w) A' R Y m s₀ cc ((execs (st :: rest) env).wrap K H gd lv) fs s:=by
 have e:(execs (st :: rest) env).wrap K H gd lv=(execs [st] env).wrap (fun f=>match f with | .next=>(execs rest env).wrap K H gd lv | f=>K f) H gd lv:=by
  rw [execs_cons_wrap,execs_cons_wrap]
  exact Sem.wrap_congr _ _ _ (fun f=>by cases f <;> rfl) (fun z9=>rfl)
 rw [e]
 subst hL
 refine seg_wrap ?_
 have q:=h _ ω hH hin.sat
 rw [hin.hs] at q
 refine wpAny_mono q ?_ fun z9 z9 p=>p.no
 refine Post.all fun f fl σ' ω' l S r z=>?_
 obtain ⟨rfl,W',rfl,hP⟩:=z
 cases r
 exact k _ _ _ (hin.go l S) hP
theorem sg_while {test:PySem.Expr} {body:List Stmt} (hL:env.locals=C) (hin:IN c L C aG oG x u ω₁ J m s₀ s W ω) (hH:Here c nn env (A'.over (.whileLoop test body [] env) fs) ω.kf)
  (h:WT c nn env test (fun b σ=>∃ W',σ=⟨[(x,some u)],[],W'⟩∧(b=true→P W')∧(b=false→P' W')) (fun z9=>False) ⟨[(x,some u)],[],W⟩)
  (ht:∀ s' W' ω',IN c L C aG oG x u ω₁ J m s₀ s' W' ω'→P W'→Seg (model c.prog c.w) A' R Y m s₀ (.whileLoop test body [] env) ((execs body env).wrap (fun f=>match f with
      | .next | .cont=>.pure (.again (.whileLoop test body [] env))
      | .brk=>.pure (.done .next)
      | .ret v=>.pure (.done (.ret v))) (fun e=>(do noteFrame e env; theTreesLotGoes e:Sem Unit).wrap (fun z9=>.raise e) .raise id id) id id) fs s')
  (hf:∀ s' W' ω',IN c L C aG oG x u ω₁ J m s₀ s' W' ω'→P' W'→Seg (model c.prog c.w) A' R Y m s₀ (.whileLoop test body [] env) (.pure (.done .next)) fs s') :
  Seg (model c.prog c.w) A' R Y m s₀ (.whileLoop test body [] env) ((model c.prog c.w).den (.whileLoop test body [] env)) fs s:=by
 subst hL
 refine seg_whileLoop ?_
 have q:=h _ ω hH hin.sat
 rw [hin.hs] at q
 refine wpAny_mono q ?_ fun z9 z9 p=>p.no
 refine Post.all fun b b' σ' ω' l S r z=>?_
 obtain ⟨W',rfl,hT,hF⟩:=z
 obtain rfl:=r
 cases b' with
 | true=>rw [if_pos rfl]; exact ht _ _ _ (hin.go l S) (hT rfl)
 | false=>rw [if_neg Bool.false_ne_true]; exact seg_execs_nil (hf _ _ _ (hin.go l S) (hF rfl))
theorem sg_yield {Yd:Nat→St→V→List AO→Prop} {Er:List AO→Prop} {e:PySem.Expr} {ypos pos:Pos} (hL:env.locals=C) (hu:u.noLo=true) (ho:OI c L C aG oG x u ω₁ J (m+1) (Om c L C aG oG x u ω₁ J (m+1) s₀.heap) s₀.heap) (hin:IN c L C aG oG x u ω₁ J (m+1) s₀ s W ω) (hH:Here c nn env (A'.over cc fs) ω.kf)
  (hfs:splitAtGen fs=none) (hgd:gd false=false) (hfg:fs.any Frame.guarded=false) (hco:env.scope.isCoroutine=false) (hi:interactive env=false)
  (h:WE c nn env e (fun v σ=>∃ W',σ=⟨[(x,some u)],[],W'⟩∧Yd m (Om c L C aG oG x u ω₁ J (m+1) s₀.heap).1 v W'∧P W') (fun z9=>False) ⟨[(x,some u)],[],W⟩)
  (k:∀ W' s'' γ'',P W'→OI c L C aG oG x u ω₁ J m γ'' s''.heap→(Er W'→Er γ''.1.W)→Seg (model c.prog c.w) A' R (Yp c L C aG oG x u ω₁ J Yd Er) m s'' cc (K .next) fs s'') :
  Seg (model c.prog c.w) A' R (Yp c L C aG oG x u ω₁ J Yd Er) (m+1) s₀ cc ((exec (.Expr (.Yield (some e) ypos) pos) env).wrap K H gd lv) fs s:=by
 subst hL
 refine seg_Expr_Yield hfs hgd hfg ?_ hco hi
 have q:=h _ ω hH hin.sat
 rw [hin.hs] at q
 refine wpAny_mono q ?_ fun z9 z9 p=>p.no
 refine Post.all fun v tok σ' ω' l S r z=>?_
 obtain ⟨W',rfl,hY,hP⟩:=z
 intro kap hkap
 have ha:ω'.a=[]:=List.length_eq_zero_iff.mp (S.tT.1.trans rfl)
 exact ⟨ho,tok,W',_,_,(hin.go l S).rest hu,ha▸r,hY,fun s'' γ'' ho' hE=>hkap .none s'' (k W' s'' γ'' hP ho' hE)⟩
end
end HL.Lake
end
noncomputable section
namespace HL.Lake
open PySem PySem.W PySem.Calls PyProof.Rows
section
variable {c:Cx} {n:Nat} {A:Around} {env:Env} {sc:Scope} {outer:List Env} {kfo:Addr→Option (Str→Option Value)} {gb:List Stmt}
theorem here1 (he:EnvOk env sc) (hf:EnvF env) (hA:Room (n+1) A) (hfr:A.frames=some outer) (ho:Outs c kfo outer) (hC:∀ e∈outer,e.frame≠some env.locals) (h0:c.h₀.get? env.locals=none) :
  Here c n env (A.in1.over (.func gb env) []) (kfD kfo env.locals) :=
 hereG he hf hA ho (Nat.add_le_add_left (show 1≤3 by decide) A.depth) (Nat.add_le_add_left (show 4≤20 by decide) A.units) hA.handled (by show pushEnvs [env] (pushEnvs [] A.frames)=_; rw [hfr]; rfl) hC h0
theorem here2 {t:PySem.Expr} {b:List Stmt} {k:Result→Sem Fin} {g:Bool} {l kp:List Value} {p:Pos} (he:EnvOk env sc) (hf:EnvF env) (hA:Room (n+1) A) (hfr:A.frames=some outer) (ho:Outs c kfo outer) (hC:∀ e∈outer,e.frame≠some env.locals) (h0:c.h₀.get? env.locals=none) :
  Here c n env (A.in1.over (.whileLoop t b [] env) [.ret k none g l (.func gb env) p kp]) (kfD kfo env.locals) :=
 hereG he hf hA ho (Nat.add_le_add_left (show 1≤3 by decide) A.depth) (Nat.add_le_add_left (show 4≤20 by decide) A.units) hA.handled (by show pushEnvs [] (pushEnvs [env] A.frames)=_; rw [hfr]; rfl) hC h0
theorem here3 {t t':PySem.Expr} {b b':List Stmt} {k k':Result→Sem Fin} {g g':Bool} {l kp l' kp':List Value} {p p':Pos} (he:EnvOk env sc) (hf:EnvF env) (hA:Room (n+1) A) (hfr:A.frames=some outer) (ho:Outs c kfo outer) (hC:∀ e∈outer,e.frame≠some env.locals) (h0:c.h₀.get? env.locals=none) :
  Here c n env (A.in1.over (.whileLoop t b [] env) [.ret k' none g' l' (.whileLoop t' b' [] env) p' kp',.ret k none g l (.func gb env) p kp]) (kfD kfo env.locals) :=
 hereG he hf hA ho (Nat.add_le_add_left (show 1≤3 by decide) A.depth) (Nat.add_le_add_left (show 4≤20 by decide) A.units) hA.handled (by show pushEnvs [] (pushEnvs [env] A.frames)=_; rw [hfr]; rfl) hC h0
end
end HL.Lake
end
noncomputable section
namespace HL.Lake
open PySem PySem.W PySem.Calls PyProof.Rows
section
variable (Q:List V→St→Prop) (P1 P2:List V→Nat→List AO→Prop) (En:List AO→Prop) (e:Nat)
noncomputable def Jd (m:Nat) (σ:St):Prop:=∃ i,i.length=m∧Q i σ∧∃ k,P2 i k σ.W
noncomputable def Yd (m:Nat) (σ:St) (tok:V) (W':List AO):Prop:=∃ i,i.length=m∧Q (tok :: i) σ∧∃ k,P2 i k W'
noncomputable def Nd (σ:St) (W':List AO):Prop:=Q [] σ∧En W'
noncomputable def Er (W:List AO):Prop:=W[e]?=some (.list [])
end
section
variable {c:Cx} {L C aG:Addr} {oG:Obj} {x:Str} {u:V} {ω₁:Wd} {nn:Nat} {A:Around} {env:Env} {sc:Scope} {outer:List Env} {gb:List Stmt}
 {Q:List V→St→Prop} {P1 P2 PJ P2e P3e:List V→Nat→List AO→Prop} {En:List AO→Prop} {e N:Nat} {E:Addr} {R:GenEnd}
 {t1 t2 t3 e1 e2:PySem.Expr} {q1 q2 q3 y1 y2 z1 z2:Pos}
structure GE (c:Cx) (L C:Addr) (u:V) (ω₁:Wd) (nn:Nat) (A:Around) (env:Env) (sc:Scope) (outer:List Env) (e:Nat) (E:Addr):Prop where
 he:EnvOk env sc
 hf:EnvF env
 hL:env.locals=C
 hC:c.h₀.objs.size≤C
 hLC:L≠C
 hu:u.noLo=true
 hA:Room (nn+1) A
 hfr:A.frames=some outer
 h0:c.h₀.get? env.locals=none
 hCo:∀ e∈outer,e.frame≠some env.locals
 hE:ω₁.b[e]?=some E
 co:env.scope.isCoroutine=false
 it:interactive env=false
 /-- the frames below,beside every state of the law -/
 ho:∀ mG (m:Str→Option Value) ,Outs c (fun y=>if y=L then some m else kfA ω₁.kf C mG y) outer
theorem GE.outs {J:Nat→St→Prop} (G:GE c L C u ω₁ nn A env sc outer e E) {m:Nat} {γ:St×Wd} {h:Heap} (H:OI c L C aG oG x u ω₁ J m γ h):Outs c (kfBelow L γ.2) outer:=by
 obtain ⟨mG,r,e1,_⟩:=H.kf
 have:=G.ho mG γ.2.m
 unfold kfBelow
 rw [e1]
 exact this
theorem IN.kfo {J:Nat→St→Prop} {m:Nat} {s₀ s:Shared} {W:List AO} {ω:Wd} (h:IN c L C aG oG x u ω₁ J m s₀ s W ω) (hL:env.locals=C):ω.kf=kfD (kfBelow L (Om c L C aG oG x u ω₁ J m s₀.heap).2) env.locals:=hL▸h.kf
structure GW (c:Cx) (nn:Nat) (env:Env) (x:Str) (u:V) (P1 P2 P2e P3e:List V→Nat→List AO→Prop) (En:List AO→Prop) (e:Nat) (t1 t2 t3 e1 e2:PySem.Expr):Prop where
 h1:∀ i k W,P1 i k W→WT c nn env t1 (fun b σ=>∃ W',σ=⟨[(x,some u)],[],W'⟩∧(b=true→∃ k',k=k'+1∧P2 i k' W')∧(b=false→i=[]∧En W')) (fun z9=>False) ⟨[(x,some u)],[],W⟩
 h2:∀ i k W,P2 i k W→WT c nn env t2 (fun b σ=>∃ W',σ=⟨[(x,some u)],[],W'⟩∧(b=true→P2e i k W')∧(b=false→P2 i k W'∧Er e W')) (fun z9=>False) ⟨[(x,some u)],[],W⟩
 h3:∀ i k W,P2 i k W→Er e W→WT c nn env t3 (fun b σ=>∃ W',σ=⟨[(x,some u)],[],W'⟩∧(b=true→P3e i k W')∧(b=false→P1 i k W')) (fun z9=>False) ⟨[(x,some u)],[],W⟩
 i2:∀ i k W,P2e i k W→∃ t j,i=t :: j
 i3:∀ i k W,P3e i k W→∃ t j,i=t :: j
 g2:∀ t j k W,P2e (t :: j) k W→WE c nn env e1 (fun v σ=>v=t∧∃ W',σ=⟨[(x,some u)],[],W'⟩∧P2 j k W') (fun z9=>False) ⟨[(x,some u)],[],W⟩
 g3:∀ t j k W,P3e (t :: j) k W→WE c nn env e2 (fun v σ=>v=t∧∃ W',σ=⟨[(x,some u)],[],W'⟩∧P2 j k W'∧Er e W') (fun z9=>False) ⟨[(x,some u)],[],W⟩
 el:∀ i k W,P2 i k W→∃ l,W[e]?=some (.list l)
theorem gen_E {Rr:GenEnd} {m k:Nat} {k0 k1:Result→Sem Fin} {l0 l1 r0 r1:List Value} {p0 p1:Pos} {b1:List Stmt} (G:GE c L C u ω₁ nn A env sc outer e E) (B:GW c nn env x u P1 P2 P2e P3e En e t1 t2 t3 e1 e2) (hJ:∀ i k W,i.length < N→(PJ i k W ↔ P2 i k W)) (hm:m≤N)
  (pop:∀ m' i k' s₀ s W ω,(m' < m∨m'=m∧k'≤k)→i.length=m'→Q i (Om c L C aG oG x u ω₁ (Jd Q PJ) m' s₀.heap).1→OI c L C aG oG x u ω₁ (Jd Q PJ) m' (Om c L C aG oG x u ω₁ (Jd Q PJ) m' s₀.heap) s₀.heap→IN c L C aG oG x u ω₁ (Jd Q PJ) m' s₀ s W ω→P2 i k' W→Er e W →
   Seg (model c.prog c.w) A.in1 Rr (Yp c L C aG oG x u ω₁ (Jd Q PJ) (Yd Q PJ) (Er e)) m' s₀ (.whileLoop t2 [.Expr (.Yield (some e1) y1) z1] [] env) (.pure (.done .next)) [.ret k1 none false l1 (.whileLoop t1 b1 [] env) p1 r1,.ret k0 none false l0 (.func gb env) p0 r0] s) :
  ∀ m' i k' s₀ s W ω,(m' < m∨m'=m∧k'≤k)→i.length=m'→Q i (Om c L C aG oG x u ω₁ (Jd Q PJ) m' s₀.heap).1→OI c L C aG oG x u ω₁ (Jd Q PJ) m' (Om c L C aG oG x u ω₁ (Jd Q PJ) m' s₀.heap) s₀.heap→IN c L C aG oG x u ω₁ (Jd Q PJ) m' s₀ s W ω→P2 i k' W →
   Seg (model c.prog c.w) A.in1 Rr (Yp c L C aG oG x u ω₁ (Jd Q PJ) (Yd Q PJ) (Er e)) m' s₀ (.whileLoop t2 [.Expr (.Yield (some e1) y1) z1] [] env) ((model c.prog c.w).den (.whileLoop t2 [.Expr (.Yield (some e1) y1) z1] [] env)) [.ret k1 none false l1 (.whileLoop t1 b1 [] env) p1 r1,.ret k0 none false l0 (.func gb env) p0 r0] s:=by
 intro m'
 induction m' with
 | zero =>
  intro i k' s₀ s W ω hc hi hQ H hin hP
  refine sg_while G.hL hin (hin.kfo G.hL▸here3 G.he G.hf G.hA G.hfr (G.outs H) G.hCo G.h0) (B.h2 i k' W hP) (fun s' W' ω' hin' hE=>?_) fun s' W' ω' hin' hE=>pop _ i k' _ _ _ _ hc hi hQ H hin' hE.1 hE.2
  obtain ⟨t,j,rfl⟩:=B.i2 _ _ _ hE
  cases hi
 | succ m' ih =>
  intro i k' s₀ s W ω hc hi hQ H hin hP
  have hh:=hin.kfo G.hL▸here3 (t:=t2) (b:=[.Expr (.Yield (some e1) y1) z1]) (k:=k0) (k':=k1) (g:=false) (g':=false) (l:=l0) (l':=l1) (p:=p0) (p':=p1) (kp:=r0) (kp':=r1) (gb:=gb) (t':=t1) (b':=b1) G.he G.hf G.hA G.hfr (G.outs H) G.hCo G.h0
  refine sg_while G.hL hin hh (B.h2 i k' W hP) (fun s' W' ω' hin' hE=>?_) fun s' W' ω' hin' hE=>pop _ i k' _ _ _ _ hc hi hQ H hin' hE.1 hE.2
  obtain ⟨t,j,rfl⟩:=B.i2 _ _ _ hE
  have hj:j.length=m':=Nat.succ.inj hi
  have hN:m' < N:=Nat.lt_of_lt_of_le (hc.elim (fun q=>Nat.lt_of_succ_lt q) fun q=>q.1▸Nat.lt_succ_self _) hm
  refine seg_execs_cons (sg_yield (P:=fun z9=>True) G.hL G.hu H hin' (hin'.kfo G.hL▸hin.kfo G.hL▸hh) rfl rfl rfl G.co G.it ((B.g2 t j k' W' hE).mono (fun v σ z=>?_) fun z9 z=>z) fun W'' s'' γ'' z9 ho z9=>?_)
  ·obtain ⟨rfl,W'',rfl,hp⟩:=z
   exact ⟨W'',rfl,⟨j,hj,hQ,k',(hJ j k' _ (hj▸hN)).mpr hp⟩,trivial⟩
  ·show Seg _ _ _ _ _ _ _ (.pure (.again _)) _ _
   refine seg_again rfl ?_
   obtain ⟨ω'',hin''⟩:=OI.wake ho G.hC G.hLC
   obtain ⟨i',h1,h2,k'',h3⟩:=(Om.ok ho).js
   have h3:=(hJ i' k'' _ (h1▸hN)).mp h3
   exact ih i' k'' _ _ _ _ (.inl (hc.elim (fun q=>Nat.lt_of_succ_lt q) fun q=>q.1▸Nat.lt_succ_self _)) h1 h2 (Om.ok ho) hin'' h3
theorem gen_Q {Rr:GenEnd} {m k:Nat} {k0 k1:Result→Sem Fin} {l0 l1 r0 r1:List Value} {p0 p1:Pos} {b1:List Stmt} (G:GE c L C u ω₁ nn A env sc outer e E) (B:GW c nn env x u P1 P2 P2e P3e En e t1 t2 t3 e1 e2) (hJ:∀ i k W,i.length < N→(PJ i k W ↔ P2 i k W)) (hm:m≤N)
  (pop:∀ m' i k' s₀ s W ω,(m' < m∨m'=m∧k'≤k)→i.length=m'→Q i (Om c L C aG oG x u ω₁ (Jd Q PJ) m' s₀.heap).1→OI c L C aG oG x u ω₁ (Jd Q PJ) m' (Om c L C aG oG x u ω₁ (Jd Q PJ) m' s₀.heap) s₀.heap→IN c L C aG oG x u ω₁ (Jd Q PJ) m' s₀ s W ω→P1 i k' W →
   Seg (model c.prog c.w) A.in1 Rr (Yp c L C aG oG x u ω₁ (Jd Q PJ) (Yd Q PJ) (Er e)) m' s₀ (.whileLoop t3 [.Expr (.Yield (some e2) y2) z2] [] env) (.pure (.done .next)) [.ret k1 none false l1 (.whileLoop t1 b1 [] env) p1 r1,.ret k0 none false l0 (.func gb env) p0 r0] s) :
  ∀ m' i k' s₀ s W ω,(m' < m∨m'=m∧k'≤k)→i.length=m'→Q i (Om c L C aG oG x u ω₁ (Jd Q PJ) m' s₀.heap).1→OI c L C aG oG x u ω₁ (Jd Q PJ) m' (Om c L C aG oG x u ω₁ (Jd Q PJ) m' s₀.heap) s₀.heap→IN c L C aG oG x u ω₁ (Jd Q PJ) m' s₀ s W ω→P2 i k' W→Er e W →
   Seg (model c.prog c.w) A.in1 Rr (Yp c L C aG oG x u ω₁ (Jd Q PJ) (Yd Q PJ) (Er e)) m' s₀ (.whileLoop t3 [.Expr (.Yield (some e2) y2) z2] [] env) ((model c.prog c.w).den (.whileLoop t3 [.Expr (.Yield (some e2) y2) z2] [] env)) [.ret k1 none false l1 (.whileLoop t1 b1 [] env) p1 r1,.ret k0 none false l0 (.func gb env) p0 r0] s:=by
 intro m'
 induction m' with
 | zero =>
  intro i k' s₀ s W ω hc hi hQ H hin hP hr
  refine sg_while G.hL hin (hin.kfo G.hL▸here3 G.he G.hf G.hA G.hfr (G.outs H) G.hCo G.h0) (B.h3 i k' W hP hr) (fun s' W' ω' hin' hE=>?_) fun s' W' ω' hin' hE=>pop _ i k' _ _ _ _ hc hi hQ H hin' hE
  obtain ⟨t,j,rfl⟩:=B.i3 _ _ _ hE
  cases hi
 | succ m' ih =>
  intro i k' s₀ s W ω hc hi hQ H hin hP hr
  have hh:=hin.kfo G.hL▸here3 (t:=t3) (b:=[.Expr (.Yield (some e2) y2) z2]) (k:=k0) (k':=k1) (g:=false) (g':=false) (l:=l0) (l':=l1) (p:=p0) (p':=p1) (kp:=r0) (kp':=r1) (gb:=gb) (t':=t1) (b':=b1) G.he G.hf G.hA G.hfr (G.outs H) G.hCo G.h0
  refine sg_while G.hL hin hh (B.h3 i k' W hP hr) (fun s' W' ω' hin' hE=>?_) fun s' W' ω' hin' hE=>pop _ i k' _ _ _ _ hc hi hQ H hin' hE
  obtain ⟨t,j,rfl⟩:=B.i3 _ _ _ hE
  have hj:j.length=m':=Nat.succ.inj hi
  have hN:m' < N:=Nat.lt_of_lt_of_le (hc.elim (fun q=>Nat.lt_of_succ_lt q) fun q=>q.1▸Nat.lt_succ_self _) hm
  refine seg_execs_cons (sg_yield (P:=Er e) G.hL G.hu H hin' (hin'.kfo G.hL▸hin.kfo G.hL▸hh) rfl rfl rfl G.co G.it ((B.g3 t j k' W' hE).mono (fun v σ z=>?_) fun z9 z=>z) fun W'' s'' γ'' hw ho hq=>?_)
  ·obtain ⟨rfl,W'',rfl,hp⟩:=z
   exact ⟨W'',rfl,⟨j,hj,hQ,k',(hJ j k' _ (hj▸hN)).mpr hp.1⟩,hp.2⟩
  ·show Seg _ _ _ _ _ _ _ (.pure (.again _)) _ _
   refine seg_again rfl ?_
   obtain ⟨ω'',hin''⟩:=OI.wake ho G.hC G.hLC
   obtain ⟨i',h1,h2,k'',h3⟩:=(Om.ok ho).js
   have h3:=(hJ i' k'' _ (h1▸hN)).mp h3
   exact ih i' k'' _ _ _ _ (.inl (hc.elim (fun q=>Nat.lt_of_succ_lt q) fun q=>q.1▸Nat.lt_succ_self _)) h1 h2 (Om.ok ho) hin'' h3 (by
    obtain ⟨l,hl⟩:=B.el _ _ _ h3
    rw [er_det G.hE ho (Om.ok ho) (hq hw) hl] at hl; exact hl)
end
end HL.Lake
end
noncomputable section
namespace HL.Lake
open PySem PySem.W PySem.Calls PyProof.Rows
section
variable {c:Cx} {L C aG:Addr} {oG:Obj} {x:Str} {u:V} {ω₁:Wd} {nn:Nat} {A:Around} {env:Env} {sc:Scope} {outer:List Env} {gb:List Stmt}
 {Q:List V→St→Prop} {P1 P2 PJ P2e P3e:List V→Nat→List AO→Prop} {En:List AO→Prop} {e N:Nat} {E:Addr} {R:GenEnd}
 {t1 t2 t3 e1 e2:PySem.Expr} {q1 q2 q3 y1 y2 z1 z2:Pos}
theorem gen_O {Rr:GenEnd} {k0:Result→Sem Fin} {l0 r0:List Value} {p0:Pos} (G:GE c L C u ω₁ nn A env sc outer e E) (B:GW c nn env x u P1 P2 P2e P3e En e t1 t2 t3 e1 e2) (hJ:∀ i k W,i.length < N→(PJ i k W ↔ P2 i k W))
  (pop:∀ m' s₀ s W ω,Q [] (Om c L C aG oG x u ω₁ (Jd Q PJ) m' s₀.heap).1→OI c L C aG oG x u ω₁ (Jd Q PJ) m' (Om c L C aG oG x u ω₁ (Jd Q PJ) m' s₀.heap) s₀.heap→IN c L C aG oG x u ω₁ (Jd Q PJ) m' s₀ s W ω→En W →
   Seg (model c.prog c.w) A.in1 Rr (Yp c L C aG oG x u ω₁ (Jd Q PJ) (Yd Q PJ) (Er e)) m' s₀ (.whileLoop t1 [.While t2 [.Expr (.Yield (some e1) y1) z1] [] q2,.While t3 [.Expr (.Yield (some e2) y2) z2] [] q3] [] env) (.pure (.done .next)) [.ret k0 none false l0 (.func gb env) p0 r0] s) :
  ∀ m' k' i s₀ s W ω,m'≤N→i.length=m'→Q i (Om c L C aG oG x u ω₁ (Jd Q PJ) m' s₀.heap).1→OI c L C aG oG x u ω₁ (Jd Q PJ) m' (Om c L C aG oG x u ω₁ (Jd Q PJ) m' s₀.heap) s₀.heap→IN c L C aG oG x u ω₁ (Jd Q PJ) m' s₀ s W ω→P1 i k' W →
   Seg (model c.prog c.w) A.in1 Rr (Yp c L C aG oG x u ω₁ (Jd Q PJ) (Yd Q PJ) (Er e)) m' s₀ (.whileLoop t1 [.While t2 [.Expr (.Yield (some e1) y1) z1] [] q2,.While t3 [.Expr (.Yield (some e2) y2) z2] [] q3] [] env)
    ((model c.prog c.w).den (.whileLoop t1 [.While t2 [.Expr (.Yield (some e1) y1) z1] [] q2,.While t3 [.Expr (.Yield (some e2) y2) z2] [] q3] [] env)) [.ret k0 none false l0 (.func gb env) p0 r0] s:=by
 intro m'
 induction m' using Nat.strongRecOn with
 | ind m' ih =>
 intro k'
 induction k' using Nat.strongRecOn with
 | ind k' ihk =>
 intro i s₀ s W ω hm hi hQ H hin hP
 refine sg_while G.hL hin (hin.kfo G.hL▸here2 G.he G.hf G.hA G.hfr (G.outs H) G.hCo G.h0) (B.h1 i k' W hP) (fun s' W' ω' hin' hE=>?_) fun s' W' ω' hin' hE=>?_
 ·obtain ⟨k'',rfl,hP2⟩:=hE
  refine seg_execs_cons (seg_While fun p=>?_)
  refine gen_E (m:=m') (k:=k'') G B hJ hm ?_ m' i k'' _ _ _ _ (.inr ⟨rfl,Nat.le_refl _⟩) hi hQ H hin' hP2
  intro m2 i2 k2 s₀ s W ω hc hi hQ H hin hP hr
  have hm2:m2≤N:=Nat.le_trans (hc.elim Nat.le_of_lt fun q=>Nat.le_of_eq q.1) hm
  refine seg_leaf (.ok .next) ?_
  show Seg _ _ _ _ _ _ _ ((execs [.While t3 [.Expr (.Yield (some e2) y2) z2] [] q3] env).wrap _ _ id id) _ _
  refine seg_execs_cons (seg_While fun p'=>?_)
  refine gen_Q (m:=m2) (k:=k2) G B hJ hm2 ?_ m2 i2 k2 _ _ _ _ (.inr ⟨rfl,Nat.le_refl _⟩) hi hQ H hin hP hr
  intro m3 i3 k3 s₀ s W ω hc3 hi3 hQ3 H3 hin3 hP3
  refine seg_leaf (.ok .next) ?_
  show Seg _ _ _ _ _ _ _ (.pure (.again _)) _ _
  refine seg_again rfl ?_
  have hm3:m3≤N:=Nat.le_trans (hc3.elim Nat.le_of_lt fun q=>Nat.le_of_eq q.1) hm2
  rcases hc3 with h3 | ⟨rfl,h3⟩
  ·exact ih m3 (hc.elim (Nat.lt_trans h3) fun q=>q.1▸h3) k3 i3 _ _ _ _ hm3 hi3 hQ3 H3 hin3 hP3
  ·rcases hc with h2 | ⟨rfl,h2⟩
   ·exact ih m3 h2 k3 i3 _ _ _ _ hm3 hi3 hQ3 H3 hin3 hP3
   ·exact ihk k3 (Nat.lt_succ_of_le (Nat.le_trans h3 h2)) i3 _ _ _ _ hm3 hi3 hQ3 H3 hin3 hP3
 ·obtain ⟨rfl,hE⟩:=hE
  exact pop m' _ _ _ _ hQ H hin' hE
theorem gen_start {s1:Stmt} {γ:St×Wd} {s:Shared} (G:GE c L C u ω₁ nn A env sc outer e E) (B:GW c nn env x u P1 P2 P2e P3e En e t1 t2 t3 e1 e2) (hJ:∀ i k W,i.length < N→(PJ i k W ↔ P2 i k W))
  (h1:∀ i W,i.length=N→(∃ k,PJ i k W)→WS c nn env [s1] (fun fl σ=>fl=.next∧∃ W',σ=⟨[(x,some u)],[],W'⟩∧∃ k,P1 i k W') (fun z9=>False) ⟨[(x,some u)],[],W⟩)
  (ho:OI c L C aG oG x u ω₁ (Jd Q PJ) N γ s.heap) :
  Seg (model c.prog c.w) A.in1 (fun n s₀ r s₁=>r=.ok (.ret .none)∧Ed c L C aG oG x u ω₁ (Jd Q PJ) (Nd Q En) n s₀ s₁) (Yp c L C aG oG x u ω₁ (Jd Q PJ) (Yd Q PJ) (Er e)) N s
   (.func [s1,.While t1 [.While t2 [.Expr (.Yield (some e1) y1) z1] [] q2,.While t3 [.Expr (.Yield (some e2) y2) z2] [] q3] [] q1] env)
   ((model c.prog c.w).den (.func [s1,.While t1 [.While t2 [.Expr (.Yield (some e1) y1) z1] [] q2,.While t3 [.Expr (.Yield (some e2) y2) z2] [] q3] [] q1] env)) [] s:=by
 obtain ⟨ω,hin⟩:=OI.wake ho G.hC G.hLC
 have H:=Om.ok ho
 obtain ⟨i,hi,hQ,k,hP⟩:=H.js
 refine seg_func (sg_stmt G.hL hin (hin.kfo G.hL▸here1 G.he G.hf G.hA G.hfr (G.outs H) G.hCo G.h0) (h1 i _ hi ⟨k,hP⟩) fun s' W' ω' hin' hP=>?_)
 obtain ⟨k',hP⟩:=hP
 refine seg_execs_cons (seg_While fun p=>?_)
 refine gen_O G B hJ ?_ N k' i _ _ _ _ (Nat.le_refl N) hi hQ H hin' hP
 intro m' s₀ s W ω hQ H hin hE
 refine seg_leaf (.ok .next) ?_
 show Seg _ _ _ _ _ _ _ (.pure (.done (.ret .none))) _ _
 exact seg_end (.ok (.ret .none)) ⟨rfl,H,_,_,_,hin.rest G.hu,hQ,hE⟩
end
end HL.Lake
end
noncomputable section
namespace HL.Lake
open PySem PySem.W PySem.Calls PyProof.Rows
section
variable {A:Around} {E:Value→Shared→Prop} {h:Heap} {g:Array GenState} {d:Drawn} {t:Nat} {os:OsState} {C x f:Addr} {B:String} {prog:Program} {w:World}
theorem ifBoundUnlessNone_own {name:Str} {refuse:Sem Value} {Q:Option Value→Shared→Prop} (X:h.OwnSpecial x C f B name)
  (hcall:wpAny (model prog w) A (call (.ref f) [.ref x]) (fun v=>Q (some v)) E ⟨h,g,d,t,os⟩):wpAny (model prog w) A (callSpecialIfBoundUnlessNone? (.ref x) name refuse) Q E ⟨h,g,d,t,os⟩:=by
 have X':=X
 obtain ⟨o,of,_,_,_,_,_,_,_,_,_,_,_,_,_,_,_,_,_,_,_,_,_,_,_,_,hfo,hfc,_,_⟩:=X'
 unfold callSpecialIfBoundUnlessNone? bindSpecialIfBound?
 refine wpAny_holding (wpAny_bind (wpAny_bind (wpAny_specialOf_own X ?_)))
 refine wpAny_bind (wpAny_askSetting (wpAny_ite ?_))
 have fin:wpAny (model prog w) A (if (Value.ref f==Value.none)=true then (refuse >>= fun v=>pure (some v)) else (call (.ref f) [.ref x] >>= fun v=>pure (some v))) Q E ⟨h,g,d,t,os⟩:=by
  rw [if_neg (by simp)]
  exact wpAny_bind (wpAny_mono hcall (fun v s' h'=>wpAny_pure h') fun z9 z9 h'=>h')
 split
 ·exact wpAny_bind (wpAny_bindSpecial_def (s:=⟨h,g,d,t,os⟩) hfo hfc (wpAny_pure (by exact fin)))
 ·exact wpAny_tryCatch (wpAny_bind (wpAny_bindSpecial_def (s:=⟨h,g,d,t,os⟩) hfo hfc (wpAny_pure (by exact fin))))
theorem pyIter_own {Q:Value→Shared→Prop} (X:h.OwnSpecial x C f B "__iter__")
  (hcall:wpAny (model prog w) A (call (.ref f) [.ref x]) (fun v s'=>s'.TypeIs v "generator"∧Q v s') E ⟨h,g,d,t,os⟩):wpAny (model prog w) A (pyIter (.ref x)) Q E ⟨h,g,d,t,os⟩:=by
 unfold pyIter
 refine wpAny_bind (wpAny_specialOf_own X ?_)
 refine wpAny_bind (ifBoundUnlessNone_own X (wpAny_mono hcall (fun v s' hv=>?_) fun z9 z9 z=>z))
 dsimp only
 exact wpAny_bind (wpAny_specialOf hv.1 slot_gen_next.lookup (wpAny_pure hv.2))
end
end HL.Lake
end
noncomputable section
namespace HL.Lake
open PySem PySem.W PySem.Calls PyProof.Rows
section
variable {c:Cx} {σ:St} {ω:Wd}
theorem Sat.ungrow {L:Addr} (S:Sat c L σ ω) {s':Shared} {C aG:Addr} {oG:Obj} {m:Str→Option Value} {k₀:PHeap} {kf₀:Addr→Option (Str→Option Value)} (hk:ω.k=gAdd k₀ aG oG) (hkf:ω.kf=kfA kf₀ C m) (h1:k₀ aG=none) (h2:kf₀ C=none) (hs:∀ b o,ω.s.heap.get? b=some o→s'.heap.get? b=some o) :
  Sat c L σ { ω with s:=s',k:=k₀,kf:=kf₀ }:=by
 have ke:∀ y o,k₀ y=some o→ω.k y=some o:=fun y o e=>by
  rw [hk]; exact (if_neg (show ¬ y=aG from fun h=>by rw [h,h1] at e; cases e)).trans e
 have ne:∀ y m',kf₀ y=some m'→ω.kf y=some m':=fun y m' e=>by
  rw [hkf]; exact (if_neg (show ¬ y=C from fun h=>by rw [h,h2] at e; cases e)).trans e
 have kn:∀ y,ω.k y=none→k₀ y=none:=fun y e=>by
  cases q:k₀ y with
  | none=>rfl
  | some o=>rw [ke y o q] at e; cases e
 have nn:∀ y,ω.kf y=none→kf₀ y=none:=fun y e=>by
  cases q:kf₀ y with
  | none=>rfl
  | some o=>rw [ne y o q] at e; cases e
 exact ⟨S.ns.keeps hs,fun y o e=>hs y o (S.keep y o e),S.base,S.high,S.loc,S.nd,S.tT.keeps' (fun y z9 o e=>hs y o e),S.tW.keeps' (fun y z9 o e=>hs y o e),S.apart,S.out,fun y o e=>hs y o (S.kk y o (ke y o e)),fun y hy=>kn y (S.ok y hy),fun y m' e=>(S.nf y m' (ne y m' e)).keeps hs,fun y hy=>nn y (S.okf y hy),
  fun y m' e=>⟨kn y (S.dis y m' (ne y m' e)).1,(S.dis y m' (ne y m' e)).2⟩,fun y o e=>S.dk y o (ke y o e)⟩
end
theorem gkL_fin {f:List GenState} (h:∀ y∈f,y=.finished):gkL f=[]:=by
 induction f with
 | nil=>rfl
 | cons g r ih =>
  show gkS g (gkL r)=[]
  rw [ih fun y hy=>h y (.tail _ hy),h g (.head _)]; rfl
theorem gkL_app (l:List GenState) {r:List GenState} (h:gkL r≠[]):gkL (l++r)=l++gkL r:=by
 induction l with
 | nil=>rfl
 | cons g l ih =>
  rcases gkL_cons g (l++r) with q | q
  ·exact q.trans (congrArg _ ih)
  ·exact absurd (List.append_eq_nil_iff.mp (ih.symm.trans q.2.1)).2 h
theorem gkL_drop (l:List GenState) {r:List GenState} (h:gkL r=[]):gkL (l++r)=gkL l:=by
 induction l with
 | nil=>exact h
 | cons g l ih=>exact congrArg (gkS g) ih
noncomputable def GI (G0:Array GenState) (gs:GenState) (a:Array GenState):Prop:=∃ f,a.toList=G0.toList++gs :: f∧∀ y∈f,y=.finished
theorem GI.get {G0 a:Array GenState} {gs:GenState} (h:GI G0 gs a):a[G0.size]?=some gs:=by
 obtain ⟨f,e,_⟩:=h
 rw [← Array.getElem?_toList,e,← Array.length_toList,List.getElem?_append_right (Nat.le_refl _)]
 simp
theorem GI.set {G0:Array GenState} {gs gs':GenState} {s:Shared} (h:GI G0 gs s.gens):GI G0 gs' (s.setGen G0.size gs').gens:=by
 obtain ⟨f,e,hf⟩:=h
 refine ⟨f,?_,hf⟩
 show (s.gens.setIfInBounds G0.size gs').toList=_
 rw [Array.toList_setIfInBounds,e,← Array.length_toList,List.set_append_right _ _ (Nat.le_refl _),Nat.sub_self]
 rfl
theorem gkL_one {g:GenState} {f:List GenState} (hg:g≠.finished) (hf:∀ y∈f,y=.finished):gkL (g :: f)=[g]:=by
 rcases gkL_cons g f with q | q
 ·rw [q,gkL_fin hf]
 ·exact absurd q.2.2 hg
theorem GI.of_gk {G0 a a':Array GenState} {gs:GenState} (h:GI G0 gs a) (hg:gs≠.finished) (hk:gk a'=gk a):GI G0 gs a':=by
 obtain ⟨f,e,hf⟩:=h
 obtain ⟨f',h1,h2⟩:=gkL_split a'.toList
 refine ⟨f',?_,h2⟩
 have e2:gkL a'.toList=G0.toList++[gs]:=by
  show gk a'=_
  rw [hk]
  show gkL a.toList=_
  rw [e,gkL_app _ (by rw [gkL_one hg hf]; exact List.cons_ne_nil _ _),gkL_one hg hf]
 rw [e2,List.append_assoc] at h1
 exact h1
theorem GI.fin {G0 a:Array GenState} (h:GI G0 .finished a):gk a=gk G0:=by
 obtain ⟨f,e,hf⟩:=h
 show gkL a.toList=gkL G0.toList
 rw [e,gkL_drop _ (gkL_fin fun y hy=>?_)]
 rcases List.mem_cons.mp hy with rfl | hy
 ·rfl
 ·exact hf y hy
end HL.Lake
end
noncomputable section
namespace HL.Lake
open PySem PySem.W PySem.Calls PyProof.Rows
section
variable {c:Cx} {L C aG:Addr} {x:Str} {u:V} {ω₁:Wd} {n nn:Nat} {A:Around} {env:Env} {sc:Scope} {rest body:List Stmt} {X:St→Prop} {Qf:Fl→St→Prop}
 {Q:List V→St→Prop} {P2:List V→Nat→List AO→Prop} {En:List AO→Prop} {e:Nat} {nm qn:Value}
theorem Here.kfA {kf:Addr→Option (Str→Option Value)} {m:Str→Option Value} (h:Here c n env A kf):Here c n env A (kfA kf C m):=by
 have key:∀ y m',kf y=some m'→∃ m'',Lake.kfA kf C m y=some m'':=fun y m' e=>by
  unfold Lake.kfA
  split
  ·exact ⟨_,rfl⟩
  ·exact ⟨_,e⟩
 obtain ⟨l,h1,h2⟩:=h.fm
 refine ⟨h.room,⟨l,h1,fun e he=>?_⟩,fun hf=>?_⟩
 ·obtain ⟨a1,L',a2,a3,a4⟩:=h2 e he
  exact ⟨a1,L',a2,a3,a4.imp id fun ⟨m',q⟩=>key _ _ q⟩
 ·obtain ⟨o,b1,b2⟩:=h.hd hf
  refine ⟨o,b1,fun e he=>?_⟩
  obtain ⟨a1,L',m',a2,a3,a4⟩:=b2 e he
  obtain ⟨m'',q⟩:=key _ _ a3
  exact ⟨a1,L',m'',a2,q,a4⟩
noncomputable def genObj (g:Nat) (nm qn:Value):Obj:={ cls:=.type "generator",data:=.fields #[.int g 0,nm,qn] }
theorem OI.back {m:Nat} {oG:Obj} {J:Nat→St→Prop} {h:Heap} {γ:St×Wd} {s₁ s':Shared} {W':List AO} {b':List Addr} {g':PHeap} {mG:Str→Option Value} (H:OI c L C aG oG x u ω₁ J m γ h) (hL:L≠C) (sub:Sub γ.2.g g' [] [] γ.2.b b')
  (S:SatW c W' s₁ b' g' (kBelow L γ.2) (kfA (kfBelow L γ.2) C mG)) (hs:s₁.heap=s'.heap):Sat c L { γ.1 with W:=W' } { γ.2 with s:=s',b:=b',g:=g',kf:=kfA ω₁.kf C mG }:=by
 obtain ⟨m0,r,e1,_⟩:=H.kf
 have ek:kfA (kfBelow L γ.2) C mG=kfBelow L { γ.2 with kf:=kfA ω₁.kf C mG }:=by
  funext y
  show (if y=C then some mG else if y=L then some γ.2.m else γ.2.kf y)=if y=L then some γ.2.m else if y=C then some mG else ω₁.kf y
  by_cases h1:y=C
  ·subst h1; rw [if_pos rfl,if_neg (Ne.symm hL),if_pos rfl]
  ·rw [if_neg h1,if_neg h1,e1]
   show (if y=L then some γ.2.m else if y=C then some m0 else ω₁.kf y)=_
   rw [if_neg h1]
 rw [ek] at S
 refine H.sat.backK sub (S.re hs) fun y m' q=>?_
 rw [e1]
 show ∃ m₀,(if y=C then some m0 else ω₁.kf y)=some m₀
 change (if y=C then some mG else ω₁.kf y)=some m' at q
 by_cases h1:y=C
 ·exact ⟨m0,if_pos h1⟩
 ·rw [if_neg h1] at q; exact ⟨m',(if_neg h1).trans q⟩
end
end HL.Lake
end
noncomputable section
namespace HL.Lake
open PySem PySem.W PySem.Calls PyProof.Rows
section
variable {c:Cx} {C aG:Addr} {x:Str} {u:V} {ω₁:Wd} {n nn:Nat} {A:Around} {env:Env} {sc:Scope} {rest body:List Stmt} {X:St→Prop} {Qf:Fl→St→Prop}
 {Q:List V→St→Prop} {P2:List V→Nat→List AO→Prop} {En:List AO→Prop} {e:Nat} {nm qn:Value} {xt:Str} {px:Pos}
noncomputable def GoG (c:Cx) (env:Env) (C aG:Addr) (nm qn:Value) (x:Str) (u:V) (ω₁:Wd) (A:Around) (Q:List V→St→Prop) (P2:List V→Nat→List AO→Prop) (En:List AO→Prop) (e:Nat) (gs:GenState) (N:Nat) (s':Shared):Prop:=gs.Goes (model c.prog c.w) A.in1
   (fun n s₀ r s₁=>r=.ok (.ret .none)∧Ed c env.locals C aG (genObj ω₁.s.gens.size nm qn) x u ω₁ (Jd Q P2) (Nd Q En) n s₀ s₁) (Yp c env.locals C aG (genObj ω₁.s.gens.size nm qn) x u ω₁ (Jd Q P2) (Yd Q P2) (Er e)) N (.send .none) s'
inductive LG (c:Cx) (env:Env) (C aG:Addr) (nm qn:Value) (x:Str) (u:V) (ω₁:Wd) (A:Around) (Q:List V→St→Prop) (P2:List V→Nat→List AO→Prop) (En:List AO→Prop) (e:Nat) (N:Nat) (s:Shared):Prop
 | mk (γ:St×Wd) (gs:GenState) (H:OI c env.locals C aG (genObj ω₁.s.gens.size nm qn) x u ω₁ (Jd Q P2) N γ s.heap) (hdr:s.drawn=ω₁.s.drawn) (hos:s.os=ω₁.s.os) (hg:GI ω₁.s.gens gs s.gens) (go:∀ s',s'.heap=s.heap→GoG c env C aG nm qn x u ω₁ A Q P2 En e gs N s'):LG c env C aG nm qn x u ω₁ A Q P2 En e N s
theorem stepG (hR:Here c n env A ω₁.kf) (hL:env.locals≠C) (h1:ω₁.k aG=none) (h2:ω₁.kf C=none) {N:Nat} {s:Shared} (h:LG c env C aG nm qn x u ω₁ A Q P2 En e N s) {Qn:Option Value→Shared→Prop} {E':Value→Shared→Prop}
  (item:∀ v t i σ₁ W' k ω₂,Sat c env.locals { σ₁ with W:=W' } ω₂→Here c n env A ω₂.kf→RV c ω₂ t v→Q (t :: i) σ₁→P2 i k W'→(∀ (j:Nat) (y:Addr),ω₁.a[j]?=some y→ω₂.a[j]?=some y) →
   (∀ σ₄ ω₄,Le ω₂ ω₄→Sat c env.locals σ₄ ω₄→Q i σ₄→(∃ k,P2 i k σ₄.W)→(Er e W'→Er e σ₄.W)→∃ m,m < N∧LG c env C aG nm qn x u ω₁ A Q P2 En e m ω₄.s)→Qn (some v) ω₂.s)
  (fin:∀ σ₁ W' ω',Q [] σ₁→En W'→Le ω₁ ω'→Sat c env.locals { σ₁ with W:=W' } ω'→Qn none ω'.s) :
  wpAny (model c.prog c.w) A (pyNext (.ref aG)) Qn E' s:=by
 obtain ⟨γ,gs,H,hdr,hos,hg,hgo⟩:=h
 have hgen:s.heap.IsGen aG ω₁.s.gens.size:=⟨_,nm,qn,H.hp▸H.sat.kk aG _ (by rw [H.k]; exact gAdd_self),rfl,rfl,rfl⟩
 have hlim:s.heap.NoLimit:=c.nl.keeps fun y o q=>H.hp▸H.sat.keep y o (H.sat.base y o q)
 refine wpAny_pyNext_gen hR.room.handled hlim (hR.room.dl (k:=0) (Nat.zero_le _)) hgen hg.get (hgo _ rfl) (fun v s₁ gs' hy=>?_) fun s₁ hE h' hkeep=>?_
 ·obtain ⟨H',tok,W',b',g',r,t,⟨i,hi,hQ,k,hP⟩,hk⟩:=hy
  obtain ⟨mG,rv,SW,e1,e2⟩:=r.sat
  have hg₁:GI ω₁.s.gens .running s₁.gens:=GI.of_gk (GI.set hg) (fun q=>by cases q) r.gens
  obtain ⟨m0,r0,k1,k2,k3⟩:=H'.kf
  have S':=OI.back (s':=s₁.setGen ω₁.s.gens.size gs') H' hL r.sub SW rfl
  refine item v tok i _ W' k _ S' hR.kfA (t.mono ⟨fun z9 z9 h=>h,fun z9 z9 h=>(Lake.nn rfl h),fun z9 z9 h=>h⟩) hQ hP H'.sub.ha fun σ₄ ω₄ l34 S₄ hQ₄ hP₄ hE₄=>?_
  have sub':Sub ω₁.g ω₄.g ω₁.a ω₄.a ω₁.b ω₄.b:=⟨fun y o q=>l34.sub.hg y o (r.sub.hg y o (H'.sub.hg y o q)),fun j y q=>l34.sub.ha j y (H'.sub.ha j y q),fun j y q=>l34.sub.hb j y (r.sub.hb j y (H'.sub.hb j y q))⟩
  have ho:OI c env.locals C aG (genObj ω₁.s.gens.size nm qn) x u ω₁ (Jd Q P2) (N - 1) (σ₄,ω₄) ω₄.s.heap :=
   ⟨S₄,rfl,sub',l34.k.trans H'.k,⟨mG,rv,l34.kf,e1,e2.mono ⟨fun y o q=>l34.sub.hg y o q,fun z9 z9 h=>h,fun j y q=>l34.sub.hb j y q⟩⟩,i,hi,hQ₄,hP₄⟩
  cases N with
  | zero=>exact (hk ω₄.s (σ₄,ω₄) ho hE₄).elim
  | succ m =>
   have go:∀ s',s'.heap=ω₄.s.heap→GoG c env C aG nm qn x u ω₁ A Q P2 En e gs' m s':=fun s' hs=>hk s' (σ₄,ω₄) (hs▸ho) hE₄
   have hne:gs'≠.finished:=fun q=>by have:=go ω₄.s rfl; rw [q] at this; exact this
   exact ⟨m,Nat.lt_succ_self m,(σ₄,ω₄),gs',ho,l34.drawn.trans (r.dr.trans hdr),l34.os.trans (r.os.trans hos),GI.of_gk (GI.set (gs':=gs') hg₁) hne l34.gens,go⟩
 ·obtain ⟨H',W',b',g',r,hQ,hE⟩:=hE
  obtain ⟨mG,rv,SW,e1,e2⟩:=r.sat
  have hg₁:GI ω₁.s.gens .running s₁.gens:=GI.of_gk (GI.set hg) (fun q=>by cases q) r.gens
  obtain ⟨m0,r0,k1,k2,k3⟩:=H'.kf
  have S':=OI.back (s':=s₁) H' hL r.sub SW rfl
  have S'':=S'.ungrow (s':={ s₁.setGen ω₁.s.gens.size .finished with heap:=h' }) (C:=C) (m:=mG) (k₀:=ω₁.k) (kf₀:=ω₁.kf) H'.k rfl h1 h2 hkeep
  refine fin _ W' _ hQ hE ?_ S''
  exact ⟨⟨fun y o q=>r.sub.hg y o (H'.sub.hg y o q),H'.sub.ha,fun j y q=>r.sub.hb j y (H'.sub.hb j y q)⟩,(GI.set (gs':=.finished) hg₁).fin,r.dr.trans hdr,r.os.trans hos,rfl,rfl⟩
end
end HL.Lake
end
noncomputable section
namespace HL.Lake
open PySem PySem.W PySem.Calls PyProof.Rows
section
variable {c:Cx} {n:Nat} {env:Env} {sc scg:Scope} {rest body:List Stmt} {X:St→Prop} {Qf:Fl→St→Prop} {σ:St}
 {Q:List V→St→Prop} {P1 P2 PJ P2e P3e:List V→Nat→List AO→Prop} {En:List AO→Prop} {e N:Nat} {xt xs:Str} {px pos:Pos}
structure GD (c:Cx) (f:Addr) (fd:FuncData) (scg:Scope) (body:List Stmt) (xs:Str):Prop where
 look:∃ o,c.K.lookup f=some o∧o.data=.func fd
 body:fd.body=.stmts body
 scope:fd.scope=scg
 kind:scg.kind=.function
 gen:scg.isGenerator=true
 co:scg.isCoroutine=false
 globals:fd.globals=mainGlobals
 builtins:fd.builtins=builtinsNs
 closure:fd.closure=[]
 code:codeIn c.K fd.code fd.qualname=true
 cell:∀ x∈scg.names,x.2≠.cell
 self:scg.names.lookup xs=some .local
 bind:∀ s v,BindsTo s fd ⟨[v],[]⟩ [(xs,v)]
end
end HL.Lake
end
noncomputable section
namespace HL.Lake
open PySem PySem.W PySem.Calls PyProof.Rows
section
variable {c:Cx} {n:Nat} {env:Env} {X:St→Prop} {σ:St} {Q:V→St→Prop}
theorem call_pop_0 {A:Around} {E:Value→Shared→Prop} {s:Shared} {l:Addr} {its:Array Value} {nn:Nat} {t:Tok} {y:Value} {Q:Value→Shared→Prop} (hl:s.heap.get? l=some { cls:=.type "list",data:=.seq its nn }) (hy:its[0]?=some y) (hp:0 < its.size) (hsz:its.size≤sizeLine)
  (hQ:∀ h' nn',h'.get? l=some { cls:=.type "list",data:=.seq (its.eraseIdxIfInBounds 0) nn' }→Heap.SameBut l s.heap h'→Q y { s with heap:=h' }):wpAny (model c.prog c.w) A (call (.builtin "list.pop") [.ref l,.int 0 t]) Q E s :=
 call_meets F.slot_list_pop (show s.TypeIs (.ref l) "list" from ⟨_,hl,rfl⟩) F.entry_list_pop (F.args_list_pop_2 _ _) (MeetsSeq.list_pop_at l its nn 0 t 0 y (by decide) (by unfold seqIndex?; simp [hp]) hy hsz) ⟨hl,hQ _ _ (IsL.update hl _) (Heap.SameBut.update ..)⟩
theorem cv_pop0 {v x:V} {l:List V} {f:List V→St} (k:LMut σ v (x :: l) f) (hz:l.length≤10000) (h:Q x (f l)):CV c n env (.st (.builtin "list.pop")) [v,.int 0] Q X σ:=fun A ω rvs hR hS hr=>by
 obtain ⟨rf,rv,rw',rfl,r0,r1,r2⟩:=hr.three
 obtain rfl:=r0.inv
 obtain ⟨t,rfl⟩:=r2.inv
 obtain ⟨a,xs,nn,rfl,e,rs,no,put⟩:=k.at hS r1
 obtain ⟨y,ys,rfl,ry,rs'⟩:=rs.un
 have hl:=relL_len rs'
 refine call_pop_0 (y:=y) e rfl (Nat.succ_pos _) (by rw [List.size_toArray,List.length_cons,hl,sizeLine_eq]; exact Nat.le_trans (Nat.succ_le_succ hz) (by decide)) fun h' nn' e' hs=>?_
 have e2:(y :: ys).toArray.eraseIdxIfInBounds 0=ys.toArray:=by
  unfold Array.eraseIdxIfInBounds
  rw [dif_pos (by simp)]
  apply Array.ext'
  simp
 rw [e2] at e'
 obtain ⟨S',l'⟩:=put h' l ys nn' ω.s.toks hs e' rs' fun ho=>by
  have:=no ho
  rw [noLoL_mem] at this ⊢
  exact fun v hv=>this v (List.mem_cons_of_mem _ hv)
 exact ⟨x,_,_,l',rfl,S',ry.mono l'.sub,h⟩
end
section
variable {c:Cx} {n:Nat} {env:Env} {sc:Scope} {τ:TblD} {l:Loc} {T W:List AO}
theorem vpop0 {κ:Ct c sc τ} {i:Nat} {xs:List V} {x:V} {ks:List Fr} (k:W[i]?=some (.list (x :: xs))) (hz:xs.length≤10000) (q:Vd n κ (.rt x ks l T (W.set i (.list xs)))):Vd n κ (.cl (.st (.builtin "list.pop")) [.ob i,.int 0] ks l T W):=cv_pop0 (.ob k) hz q
theorem we_vd {e:PySem.Expr} {Q:V→St→Prop} (he:EnvOk env sc) (ok:Tbl c τ) (h:∀ κ:Ct c sc τ,κ.env=env→(∀ v σ,Q v σ→κ.Q (.ret v) σ)→Vd n κ (.ev e [.ret] l T W)):WE c n env e Q (fun z9=>False) ⟨l,T,W⟩:=by
 have q:=h ⟨env,he,ok,fun z9=>False,fun fl σ=>match fl with | .ret v=>Q v σ | _=>False⟩ rfl fun z9 z9 z=>z
 exact q
theorem wt_vd {e:PySem.Expr} {Q:Bool→St→Prop} (he:EnvOk env sc) (ok:Tbl c τ) (h:∀ κ:Ct c sc τ,κ.env=env→(∀ b σ,Q b σ→κ.Q (.ret (.bool b)) σ)→Vd n κ (.te e [.ret] l T W)):WT c n env e Q (fun z9=>False) ⟨l,T,W⟩:=by
 have q:=h ⟨env,he,ok,fun z9=>False,fun fl σ=>match fl with | .ret (.bool b)=>Q b σ | _=>False⟩ rfl fun z9 z9 z=>z
 exact q
theorem ws_vd {b:List Stmt} {Q:Fl→St→Prop} {X:St→Prop} (he:EnvOk env sc) (ok:Tbl c τ) (h:∀ κ:Ct c sc τ,κ.env=env→(∀ v σ,Q v σ→κ.Q v σ)→(∀ σ,X σ→κ.X σ)→Vd n κ (.ex b l T W)):WS c n env b Q X ⟨l,T,W⟩ :=
 h ⟨env,he,ok,X,Q⟩ rfl (fun z9 z9 z=>z) fun z9 z=>z
end
noncomputable def gnOk (fd:FuncData) (xs:Str):Bool:=(fd.scope.kind==.function)&&fd.scope.isGenerator&&!fd.scope.isCoroutine&&(fd.globals==mainGlobals)&&(fd.builtins==builtinsNs)&&fd.closure.isEmpty&&fd.scope.names.all (fun x=>x.2 != .cell)&&(fd.scope.names.lookup xs==some .local)
theorem GD.of {c:Cx} {H:Frag} {f:Addr} {o:Obj} {fd:FuncData} {body:List Stmt} {xs:Str} (hK:c.K=H) (hl:H.lookup f=some o) (hd:o.data=.func fd) (hb:fd.body=.stmts body) (hok:gnOk fd xs=true) (hcode:codeIn H fd.code fd.qualname=true) (bind:∀ s v,BindsTo s fd ⟨[v],[]⟩ [(xs,v)]):GD c f fd fd.scope body xs:=by
 simp only [gnOk,Bool.and_eq_true,beq_iff_eq,Bool.not_eq_true',List.all_eq_true,bne_iff_ne,ne_eq,List.isEmpty_iff] at hok
 obtain ⟨⟨⟨⟨⟨⟨⟨h1,h2⟩,h3⟩,h4⟩,h5⟩,h6⟩,h7⟩,h8⟩:=hok
 exact ⟨⟨o,hK▸hl,hd⟩,hb,rfl,h1,h2,h3,h4,h5,h6,hK▸hcode,fun x hx=>h7 x hx,h8,bind⟩
end HL.Lake
end
noncomputable section
namespace HL.Lake
open PySem PySem.W PySem.Calls PyProof.Rows
section
variable {c:Cx} {n:Nat} {env:Env} {X:St→Prop} {σ:St} {sc:Scope} {τ:TblD} {κ:Ct c sc τ} {l:Loc} {T W:List AO} {rest:List Stmt}
end
end HL.Lake
end
noncomputable section
namespace HL.Lake
open PySem PySem.W PySem.Calls PyProof.Rows
section
variable {c:Cx} {n:Nat} {env:Env} {X:St→Prop} {σ:St} {pos:Pos} {ω:Wd} {sc:Scope} {rest:List Stmt} {Q:Fl→St→Prop}
structure New (c:Cx) (L:Addr) (ω:Wd) (x:Addr):Prop where
 h:∀ y∈L :: (ω.a++ω.b),y≠x
 g:ω.g x=none
 k:ω.k x=none
 f:ω.kf x=none
theorem Sat.new {L x:Addr} (S:Sat c L σ ω) (hx:ω.s.heap.objs.size≤x):New c L ω x:=by
 have no:∀ {o},ω.s.heap.get? x=some o→False:=fun e=>Nat.not_lt.mpr hx (Heap.lt_size e)
 refine ⟨fun y hy e=>Nat.not_lt.mpr hx (e▸S.lt hy),?_,?_,?_⟩
 ·cases e:ω.g x with
  | none=>rfl
  | some o=>exact (no (S.keep _ _ e)).elim
 ·cases e:ω.k x with
  | none=>rfl
  | some o=>exact (no (S.kk _ _ e)).elim
 ·cases e:ω.kf x with
  | none=>rfl
  | some m=>exact absurd (S.nf _ _ e).lt (Nat.not_lt.mpr hx)
inductive EnAt (c:Cx) (L:Addr) (ω₁:Wd) (e it l:Addr) (i:Nat) (σ:St) (s:Shared):Prop
 | mk (ω:Wd) (oe oi:Obj) (old:Value) (l':LeK ω₁ ω) (hs:ω.s=s) (S:Sat c L σ ω) (hk:ω.k=gAdd (gAdd ω₁.k it oi) e oe) (he:IsEnum s.heap e it i old) (hi:s.heap.IsListIter it l i) (eo:s.heap.get? e=some oe) (io:s.heap.get? it=some oi):EnAt c L ω₁ e it l i σ s
end
end HL.Lake
end
noncomputable section
namespace HL.Lake
open PySem PySem.W PySem.Calls PyProof.Rows
theorem iadd_list {prog:Program} {w:World} {A:Around} {E:Value→Shared→Prop} {s:Shared} {l b:Addr} {xs ys:Array Value} {nn mm:Nat} {Q:Value→Shared→Prop} (hl:s.heap.get? l=some { cls:=.type "list",data:=.seq xs nn }) (hb:s.heap.get? b=some { cls:=.type "list",data:=.seq ys mm })
  (hz:xs.size+ys.size≤20000) (hQ:Q (.ref l) { s with heap:=s.heap.update l (Obj.mapSeq fun x=>x++ys) }):wpAny (model prog w) A (inplaceOp .Add (.ref l) (.ref b)) Q E s:=by
 unfold inplaceOp
 refine wpAny_holding ?_
 have hT:s.TypeIs (.ref l) "list":=⟨_,hl,rfl⟩
 have hfi:fillsInplaceSlot (.type "list") "add" (Operator.Add==.Add)=pure false:=by
  unfold fillsInplaceSlot
  show (typeLookup (.type "list") (dunderI "add") >>= fun fi=>pure (fi.isSome&&!isSeqSlot fi))=pure false
  rw [F.slot_list_iadd.lookup]; rfl
 refine wpAny_bind (wpAny_typeOf hT (wpAny_bind (wpAny_of_eq hfi ?_)))
 show wpAny _ A (if false=true then _ else _) Q E s
 rw [if_neg Bool.false_ne_true]
 refine wpAny_bind (wpAny_binaryOp1_none (nm:="add") hT ⟨_,hb,rfl⟩ PySem.noFill_list_add ?_)
 refine wpAny_bind (wpAny_of_eq (PySem.seqSlot_of F.slot_list_iadd.lookup (by decide +kernel)) ?_)
 have hs:sizeLine=16777216:=sizeLine_eq
 exact wpAny_bind (wpAny_rule (call_meets F.slot_list_iadd hT F.entry_list_iadd (F.args_list_iadd_2 _ _) (AutoSeq1.list___iadd___list_list_0 l xs nn b ys mm (by rw [show Builtin.List.listTooLong (xs.size+ys.size)=false from decide_eq_false (by exact (fun hn=>Lake.n3 [_,_,_] 1 (.a (.v 2) (.n 1)) (.a (.v 0) (.v 1)) 1 (.a (.v 0) (.v 1)) (.n 20000) 1 (.n 16777216) (.v 2) rfl hn hz (Nat.le_of_eq (Eq.symm hs)))),Bool.and_false]; exact Bool.false_ne_true) (by exact (Nat.le_of_not_lt fun hn=>Lake.n3 [_,_,_] 1 (.a (.v 2) (.n 1)) (.v 0) 1 (.a (.v 0) (.v 1)) (.n 20000) 1 (.n 16777216) (.v 2) rfl hn hz (Nat.le_of_eq (Eq.symm hs)))) (by exact (Nat.le_of_not_lt fun hn=>Lake.n3 [_,_,_] 1 (.a (.a (.v 2) (.n 1)) (.n 1)) (.a (.v 0) (.v 1)) 1 (.a (.v 0) (.v 1)) (.n 20000) 1 (.n 16777216) (.v 2) rfl hn hz (Nat.le_of_eq (Eq.symm hs))))) ⟨hl,hb,hQ⟩))
section
variable {c:Cx} {n:Nat} {env:Env} {X:St→Prop} {σ:St} {sc:Scope} {τ:TblD} {κ:Ct c sc τ} {l:Loc} {T W:List AO} {rest:List Stmt}
theorem pv_add_list {Q:V→St→Prop} {v w:V} {xs ys:List V} {f:List V→St} (m:LMut σ v xs f) (k:IsLV σ w ys) (hno:(!isObV v||V.noLoL ys)=true) (hz:xs.length+ys.length≤10000) (h:Q v (f (xs++ys))):PV c n env .Add v w Q X σ:=wo2 fun A ω ra rb hR hS r1 r2=>by
 obtain ⟨a,rs,nn,rfl,e,hr,no,put⟩:=m.at hS r1
 obtain ⟨b,rs',mm,rfl,e',hr'⟩:=k.at hS r2
 have h1:=relL_len hr
 have h2:=relL_len hr'
 refine iadd_list e e' (by rw [List.size_toArray,List.size_toArray]; exact (Nat.le_of_not_lt fun hn=>Lake.n4 [_,_,_,_] 1 (.a (.n 20000) (.n 1)) (.a (.v 2) (.v 3)) 1 (.a (.v 0) (.v 1)) (.n 10000) 1 (.v 2) (.v 0) 1 (.v 3) (.v 1) rfl hn hz (Nat.le_of_eq h1) (Nat.le_of_eq h2))) ?_
 have e2:=IsL.update e (fun x=>x++rs'.toArray)
 obtain ⟨S',l'⟩:=put _ (xs++ys) (rs++rs') _ ω.s.toks (Heap.SameBut.update ..) (by rw [e2,List.append_toArray]) (hr.append hr') fun ho=>noLoL_append (no ho) (by rw [ho] at hno; exact hno)
 exact ⟨v,_,_,l',rfl,S',r1,h⟩
theorem vaugLL {x:Str} {w:V} {xs ys:List V} {j:Nat} {l':Loc} (hT:T[j]?=some (.list xs)) (k:IsLV ⟨l,T,W⟩ w ys) (hz:xs.length+ys.length≤10000) (p:PutL x (.lo j) l l') (q:Vd n κ (.ex rest l' (T.set j (.list (xs++ys))) W)):Vd n κ (.rt w [.aug x .Add (.lo j) rest] l T W) :=
 pv_add_list (.lo hT) k rfl hz ⟨l',p,q⟩
end
end HL.Lake
end
noncomputable section
namespace HL.Lake
open PySem PySem.W PySem.Calls PyProof.Rows
section
variable {c:Cx} {n:Nat} {env:Env} {X:St→Prop} {σ:St} {Q:V→St→Prop} {pos:Pos}
end
section
variable {c:Cx} {n:Nat} {sc:Scope} {τ:TblD} {κ:Ct c sc τ} {l:Loc} {T W:List AO} {ks:List Fr} {pos:Pos}
end
end HL.Lake
end
noncomputable section
namespace HL.Lake
open PySem PySem.W PySem.Calls PyProof.Rows
section
variable {c:Cx} {n:Nat} {sc:Scope} {τ:TblD} {κ:Ct c sc τ} {l:Loc} {T W:List AO} {ks:List Fr}
end
end HL.Lake
end
noncomputable section
namespace HL.Lake
open PySem PySem.W PySem.Calls PyProof.Rows
section
variable {c:Cx} {σ:St} {ω:Wd}
theorem Sat.grow2 {L:Addr} (S:Sat c L σ ω) {s':Shared} {C aG:Addr} {oG:Obj} {m:Str→Option Value} (hk:∀ b o,ω.s.heap.get? b=some o→s'.heap.get? b=some o) (hC:New c L ω C) (hG:New c L ω aG) (hne:C≠aG) (hns:s'.heap.Ns C m) (ho:s'.heap.get? aG=some oG) :
  Sat c L σ { ω with s:=s',k:=gAdd ω.k aG oG,kf:=kfA ω.kf C m }:=by
 have nk:∀ y,y≠aG→gAdd ω.k aG oG y=ω.k y:=fun y h=>if_neg h
 have nf:∀ y,y≠C→kfA ω.kf C m y=ω.kf y:=fun y h=>if_neg h
 refine ⟨S.ns.keeps hk,fun y o e=>hk y o (S.keep y o e),S.base,S.high,S.loc,S.nd,S.tT.keeps' (fun y z9 o e=>hk y o e),S.tW.keeps' (fun y z9 o e=>hk y o e),S.apart,S.out,fun y o e=>?_,fun y hy=>(nk y (hG.h y hy)).trans (S.ok y hy),fun y m' e=>?_,fun y hy=>(nf y (hC.h y hy)).trans (S.okf y hy),fun y m' e=>?_,fun y o e=>?_⟩
 ·by_cases h:y=aG
  ·subst h; exact ho.trans ((if_pos rfl).symm.trans e)
  ·exact hk y o (S.kk y o ((nk y h).symm.trans e))
 ·by_cases h:y=C
  ·subst h; cases Option.some.inj ((show kfA ω.kf y m y=some m from if_pos rfl).symm.trans e); exact hns
  ·exact (S.nf y m' ((nf y h).symm.trans e)).keeps hk
 ·by_cases h:y=C
  ·subst h; exact ⟨(nk y hne).trans hC.k,hC.g⟩
  ·have e':=(nf y h).symm.trans e
   exact ⟨(nk y (fun z=>by rw [z,hG.f] at e'; cases e')).trans (S.dis y m' e').1,(S.dis y m' e').2⟩
 ·by_cases h:y=aG
  ·subst h; exact hG.g
  ·exact S.dk y o ((nk y h).symm.trans e)
end
section
variable {c:Cx} {n:Nat} {env:Env} {sc scg:Scope} {X:St→Prop} {σ₁:St} {ω₁:Wd} {A:Around}
 {Q:List V→St→Prop} {P1 P2 PJ P2e P3e:List V→Nat→List AO→Prop} {En:List AO→Prop} {e N:Nat} {xs:Str}
theorem mkLG {Ci f:Addr} {ii:Nat} {fd:FuncData} {s1:Stmt} {t1 t2 t3 e1 e2:PySem.Expr} {q1 q2 q3 y1 y2 z1 z2:Pos}
  (D:GD c f fd scg [s1,.While t1 [.While t2 [.Expr (.Yield (some e1) y1) z1] [] q2,.While t3 [.Expr (.Yield (some e2) y2) z2] [] q3] [] q1] xs)
  (B:∀ envg,EnvOk envg scg→EnvF envg→GW c n envg xs (.inst Ci ii) P1 P2 P2e P3e En e t1 t2 t3 e1 e2)
  (hJ:∀ i k W,i.length < N→(PJ i k W ↔ P2 i k W))
  (h1:∀ envg,EnvOk envg scg→EnvF envg→∀ i W,i.length=N→(∃ k,PJ i k W)→WS c n envg [s1] (fun fl σ=>fl=.next∧∃ W',σ=⟨[(xs,some (.inst Ci ii))],[],W'⟩∧∃ k,P1 i k W') (fun z9=>False) ⟨[(xs,some (.inst Ci ii))],[],W⟩)
  (hR₁:Here c (n+1) env A ω₁.kf) (S₁:Sat c env.locals σ₁ ω₁) {xi:Addr} (hrel:Rel c.w.params ω₁.g [] ω₁.b (.inst Ci ii) (.ref xi)) {i:List V} {k:Nat} (hiN:i.length=N) (hQ:Q i σ₁) (hP:PJ i k σ₁.W) {el:List V} (hel:σ₁.W[e]?=some (.list el))
  {Cg aG:Addr} {nm qn:Value} {envg:Env} (heg:EnvOk envg scg) (hfg:EnvF envg) (hloc:envg.locals=Cg) (nC:New c env.locals ω₁ Cg) (nG:New c env.locals ω₁ aG) (hne:Cg≠aG) (hsz:c.h₀.objs.size≤Cg) (hou:∀ e∈A.frames.getD [],e.frame≠some Cg)
  {s:Shared} (hk:∀ b o,ω₁.s.heap.get? b=some o→s.heap.get? b=some o) (hns:s.heap.Ns Cg fun y=>[(xs,Value.ref xi)].reverse.lookup y) (hg:s.heap.get? aG=some (genObj ω₁.s.gens.size nm qn)) (hdr:s.drawn=ω₁.s.drawn) (hos:s.os=ω₁.s.os)
  (hgen:s.gens=ω₁.s.gens.push (.fresh (.func [s1,.While t1 [.While t2 [.Expr (.Yield (some e1) y1) z1] [] q2,.While t3 [.Expr (.Yield (some e2) y2) z2] [] q3] [] q1] envg))) :
  LG c env Cg aG nm qn xs (.inst Ci ii) ω₁ A Q PJ En e N s:=by
 obtain ⟨outer,hfr,hou'⟩:=hR₁.fm
 rw [hfr] at hou
 have hLC:env.locals≠Cg:=nC.h _ (.head _)
 obtain ⟨E,obE,hE1,hE2,hE3⟩:=S₁.tW.2 e _ hel
 have G:GE c env.locals Cg (.inst Ci ii) ω₁ n A envg scg outer e E:={
  he:=heg,hf:=hfg,hL:=hloc,hC:=hsz,hLC:=hLC,hu:=rfl,hA:=hR₁.room,hfr:=hfr
  h0:=by
   rw [hloc]
   cases q:c.h₀.get? Cg with
   | none=>rfl
   | some o=>exact Lake.nn nC.g (S₁.base _ _ q)
  hCo:=fun e' q z=>hou e' q (hloc▸z)
  hE:=hE1,co:=by rw [heg.scope]; exact D.co,it:=by
   unfold interactive
   rw [heg.scope,D.kind]; rfl
  ho:=fun mG m e' q=>by
   obtain ⟨a1,L',a2,a3,a4⟩:=hou' e' q
   by_cases z:L'=env.locals
   ·exact ⟨a1,L',m,a2,if_pos z,a3⟩
   ·rcases a4 with a4 | ⟨m',a4⟩
    ·exact absurd a4 z
    ·exact ⟨a1,L',m',a2,(if_neg z).trans ((if_neg (show ¬ L'=Cg from fun z'=>hou e' q (z'▸a2))).trans a4),a3⟩ }
 have O:∀ s':Shared,s'.heap=s.heap→OI c env.locals Cg aG (genObj ω₁.s.gens.size nm qn) xs (.inst Ci ii) ω₁ (Jd Q PJ) N (σ₁,{ ω₁ with s:=s',k:=gAdd ω₁.k aG (genObj ω₁.s.gens.size nm qn),kf:=kfA ω₁.kf Cg fun y=>[(xs,Value.ref xi)].reverse.lookup y }) s'.heap:=fun s' hs =>
  ⟨S₁.grow2 (s':=s') (fun b o q=>hs▸hk b o q) nC nG hne (hs▸hns) (hs▸hg),rfl,.refl,rfl,⟨_,.ref xi,rfl,List.lookup_cons_self,hrel⟩,i,hiN,hQ,k,hP⟩
 exact ⟨_,.fresh _,O _ rfl,hdr,hos,⟨[],by rw [hgen]; exact (Array.toList_push ..).trans rfl,fun z9 h=>by cases h⟩,fun s' hs=>⟨rfl,gen_start G (B envg heg hfg) hJ (h1 envg heg hfg) (O s' hs)⟩⟩
end
end HL.Lake
end
noncomputable section
namespace HL.Lake
open PySem PySem.W PySem.Calls PyProof.Rows
section
variable {c:Cx} {C aG:Addr} {xs x:Str} {u:V} {ω₁:Wd} {n:Nat} {A:Around} {cenv:Env}
 {P2:List V→Nat→List AO→Prop} {En:List AO→Prop} {e:Nat} {nm qn:Value}
noncomputable def QC (T₀:List AO) (x:Str) (i₀ i:List V) (σ:St):Prop:=∃ ys,ys++i=i₀∧σ.loc=[(x,none)]∧σ.T=T₀++[.list ys]
theorem compG {iter:PySem.Expr} {px pe pos:Pos} {scope:Scope} {D:Addr} {T₀:List AO} {i₀:List V} (he:EnvOk cenv scope) (hx:(scope.names.lookup x==some .local)=true) (hd:(x==("__debug__":Str))=false)
  (hR:Here c n cenv A ω₁.kf) (hL:cenv.locals≠C) (h1:ω₁.k aG=none) (h2:ω₁.kf C=none) (hz:i₀.length≤10000) (hD:ω₁.a[T₀.length]?=some D) {R:Result→Shared→Prop}
  (fin:∀ W' ω',En W'→Le ω₁ ω'→Sat c cenv.locals ⟨[(x,none)],T₀++[.list i₀],W'⟩ ω'→R (.ok .next) ω'.s)
  (N:Nat) {s:Shared} (h:LG c cenv C aG nm qn xs u ω₁ A (QC T₀ x i₀) P2 En e N s) :
  codeAny (model c.prog c.w) A (.compLoop (.ListComp (.Name x pe) [⟨.Name x px,iter,[],0⟩] scope pos) 0 (.ref aG) (.ref D) cenv) R s:=by
 refine codeAny_compLoop_tests (LG c cenv C aG nm qn xs u ω₁ A (QC T₀ x i₀) P2 En e) ?_ N h
 intro N s hI
 refine stepG hR hL h1 h2 hI (fun v t i σ₁ W' k ω₂ S' hR' rt hQ hP ha next=>?_) fun σ₁ W' ω' hQ hE l S=>?_
 ·obtain ⟨ys,hys,hl,hT⟩:=hQ
  obtain ⟨loc,T,W⟩:=σ₁
  cases hl; cases hT
  dsimp only
  refine wpAny_assign_Name (storeV (l':=[(x,some t)]) he hx S' rt PutL.head fun ω₃ l₃ S₃=>?_)
  refine wpAny_tests_nil ?_
  rw [if_pos rfl]
  have hR₃:=hR'.le l₃
  refine wpAny_mono (e_local (n:=n) (X:=fun z9=>False) (Q:=fun v σ=>v=t∧σ=⟨[(x,some t)],T₀++[.list ys],W'⟩) (pos:=pe) he (.head _) hx hd ⟨rfl,rfl⟩ A ω₃ hR₃ S₃) ?_ fun z9 z9 p=>p.no
  refine Post.all fun rv v' σ₄ ω₄ l₄ S₄ r₄ hz4=>?_
  obtain ⟨rfl,rfl⟩:=hz4
  have hy:ys.length≤10000:=by
   rw [← hys,List.length_append] at hz
   exact Nat.le_trans (Nat.le_add_right _ _) hz
  have hg:(T₀++[AO.list ys])[T₀.length]?=some (.list ys):=List.getElem?_concat_length
  have hset:(T₀++[AO.list ys]).set T₀.length (.list (ys++[v']))=T₀++[.list (ys++[v'])]:=by
   rw [List.set_append_right _ _ (Nat.le_refl _),Nat.sub_self]; rfl
  have hDa:RV c ω₄ (.lo T₀.length) (.ref D):=.lo (l₄.sub.ha _ _ (l₃.sub.ha _ _ (ha _ _ hD)))
  refine wpAny_mono (cv_append (c:=c) (n:=n) (env:=cenv) (X:=fun z9=>False) (Q:=fun z9 σ=>σ=⟨[(x,some v')],T₀++[.list (ys++[v'])],W'⟩) (x:=v') (.lo hg) rfl hy (by dsimp only; rw [hset]) A ω₄ [.builtin "list.append",.ref D,rv] (hR₃.le l₄) S₄ (.cons .st (.cons hDa (.cons r₄ .nil)))) ?_ fun z9 z9 p=>p.no
  refine Post.all fun z9 z9 σ₅ ω₅ l₅ S₅ z9 hz5=>?_
  cases hz5
  have hys':(ys++[v'])++i=i₀:=by rw [← hys,List.append_assoc]; rfl
  exact next ⟨[(x,none)],T₀++[.list (ys++[v'])],W'⟩ ω₅ (l₃.trans (l₄.trans l₅)) S₅.loseLoc ⟨_,hys',rfl,rfl⟩ ⟨k,hP⟩ fun z=>z
 ·obtain ⟨ys,hys,hl,hT⟩:=hQ
  obtain ⟨loc,T,W⟩:=σ₁
  cases hl; cases hT
  rw [List.append_nil] at hys
  cases hys
  exact fin _ _ hE l S
end
end HL.Lake
end
noncomputable section
namespace HL.Lake
open PySem PySem.W PySem.Calls PyProof.Rows
section
variable {c:Cx} {n:Nat} {env:Env} {sc scg:Scope} {X:St→Prop} {σ:St}
 {P1 P2 PJ P2e P3e:List V→Nat→List AO→Prop} {En:List AO→Prop} {e N:Nat} {xt xs:Str} {px pe pos:Pos}
noncomputable abbrev Sat.w {L:Addr} {ω:Wd} (_:Sat c L σ ω):Wd:=ω
theorem compStart_gen {elt target iter:PySem.Expr} {ifs:List PySem.Expr} {rest:List Comprehension} {scope:Scope} {A:Around} {acc:Value} {cenv:Env} {R:Result→Shared→Prop} {s:Shared} {aG:Addr} {g:Nat} (hg:s.heap.IsGen aG g)
  (h:codeAny (model c.prog c.w) A (.compLoop (.ListComp elt (⟨target,iter,ifs,0⟩ :: rest) scope pos) 0 (.ref aG) acc cenv) R s):codeAny (model c.prog c.w) A (.compStart (.ListComp elt (⟨target,iter,ifs,0⟩ :: rest) scope pos) 0 (.ref aG) acc cenv) R s :=
 codeAny_compStart_list h (wpAny_pyIter_gen hg h)
theorem New.enter {L x y D:Addr} {ω:Wd} (N:New c L ω x) (hD:D≠x) (hy:y≠x) {s:Shared} {m:Str→Option Value} {s':Shared}:New c y ⟨s,m,ω.a++[D],ω.b,ω.g,ω.k,kfBelow L ⟨s',ω.m,ω.a++[D],ω.b,ω.g,ω.k,ω.kf⟩⟩ x:=by
 refine ⟨fun z hz=>?_,N.g,N.k,(if_neg fun h=>N.h _ (.head _) h.symm).trans N.f⟩
 rcases List.mem_cons.mp hz with rfl | hz
 ·exact hy
 ·rcases List.mem_append.mp hz with hz | hz
  ·rcases List.mem_append.mp hz with hz | hz
   ·exact N.h _ (.tail _ (List.mem_append_left _ hz))
   ·exact List.mem_singleton.mp hz▸hD
  ·exact N.h _ (.tail _ (List.mem_append_right _ hz))
end
end HL.Lake
end
noncomputable section
namespace HL.Lake
open PySem PySem.W PySem.Calls PyProof.Rows
noncomputable def reO (i:Nat):Option AO→V
 | some (.dict l)=>.dict l
 | _=>.ob i
noncomputable def reV (W:List AO):V→V
 | .ob i=>reO i W[i]?
 | v=>v
section
variable {c:Cx} {n:Nat} {env:Env} {X:St→Prop} {σ:St} {ω:Wd}
theorem V.pureD_mono {P:Params} {g g':PHeap} {a b:List Addr} (h:∀ x o,g x=some o→g' x=some o) {l:List (Str×V)} {es:List DictEntry} (hp':V.pureD l=true) (hr:RelD P g a b l es):RelD P g' [] [] l es :=
 RelD.ind (M:=fun l es=>V.pureD l=true→RelD P g' [] [] l es) (fun z9=>.nil) (fun z9 z9 z9 z9 z9 z9 r z9 ih e=>.cons (V.pure_mono h (andT e).1 r) (ih (andT e).2)) hr hp'
theorem Sat.reVg {L:Addr} {g':PHeap} (S:Sat c L σ ω) (hg:∀ x o,ω.g x=some o→g' x=some o) (hb:∀ x,x∈ω.b→∀ o,ω.s.heap.get? x=some o→g' x=some o) {v:V} {rv:Value} (r:RV c ω v rv) (hp':(reV σ.W v).pure=true):Rel c.w.params g' [] [] (reV σ.W v) rv:=by
 have other:Lake.reV σ.W v=v→Rel c.w.params g' [] [] (Lake.reV σ.W v) rv:=fun e=>by
  rw [e] at hp' ⊢
  exact V.pure_mono hg hp' r
 cases v with
 | ob i =>
  cases e:σ.W[i]? with
  | none=>exact other (congrArg (reO i) e)
  | some o=>cases o with
   | list l=>exact other (congrArg (reO i) e)
   | dict l =>
    have q:Lake.reV σ.W (.ob i)=.dict l:=congrArg (reO i) e
    rw [q] at hp' ⊢
    obtain ⟨x,rfl,hi⟩:=r.inv
    obtain ⟨d,es,k,e1,e2,rd,nd⟩:=S.dictW e
    cases Option.some.inj (hi.symm.trans e1)
    exact .dict (hb _ (List.mem_of_getElem? hi) _ e2) (S.high.2 _ (List.mem_append_right _ (List.mem_of_getElem? hi))) (V.pureD_mono hg hp' rd) nd
 | _=>exact other rfl
theorem Sat.reVLg {L:Addr} {g':PHeap} (S:Sat c L σ ω) (hg:∀ x o,ω.g x=some o→g' x=some o) (hb:∀ x,x∈ω.b→∀ o,ω.s.heap.get? x=some o→g' x=some o) {l:List V} {rl:List Value} (r:RVs c ω l rl) (hp':V.pureL (l.map (Lake.reV σ.W))=true):RelL c.w.params g' [] [] (l.map (Lake.reV σ.W)) rl :=
 RelL.ind (M:=fun l rl=>V.pureL (l.map (Lake.reV σ.W))=true→RelL c.w.params g' [] [] (l.map (Lake.reV σ.W)) rl) (fun z9=>.nil) (fun z9 z9 z9 z9 r z9 ih e=>.cons (S.reVg hg hb r (andT e).1) (ih (andT e).2)) r hp'
theorem Sat.reVL {L:Addr} (S:Sat c L σ ω) {l:List V} {rl:List Value} (r:RVs c ω l rl) (hp':V.pureL (l.map (Lake.reV σ.W))=true):RelL c.w.params (hp ω.s.heap) [] [] (l.map (Lake.reV σ.W)) rl :=
 S.reVLg S.keep (fun z9 z9 z9 e=>e) r hp'
end
end HL.Lake
end
noncomputable section
namespace HL.Lake
open PySem PySem.W PySem.Calls PyProof.Rows
theorem dl_plain:plainId "dict.update.loop"=true:=by decide +kernel
theorem dl_entry:entryFor table "dict.update.loop"=some Builtin.«dict.update.loop»:=entryFor_of_tree (by kernel_rfl)
theorem dl_keys:typeLookup (.type "list") "keys"=pure none:=by rw [typeLookup_type,builtinLookup_eq_fast]; kernel_rfl
theorem no_keys {prog:Program} {w:World} {A:Around} {E:Value→Shared→Prop} {s:Shared} {a:Addr} {xs:Array Value} {k:Nat} {Q:Option Value→Shared→Prop}
  (hx:s.heap.get? a=some { cls:=.type "list",data:=.seq xs k }) (hA:A.handled=none)
  (h:∀ h' tk,(∀ b o,s.heap.get? b=some o→h'.get? b=some o)→Q none { s with heap:=h',toks:=tk }) :
  wpAny (model prog w) A (getAttr? (.ref a) "keys") Q E s:=by
 obtain ⟨hp,g,d,tk,os⟩:=s
 have hT:∀ tk',(⟨hp,g,d,tk',os⟩:Shared).TypeIs (.ref a) "list":=fun z9=>⟨_,hx,rfl⟩
 have f1:=sub_AttributeError
 have f3:=F.slot_list_getattribute.lookup
 have f4:=F.slot_list_getattribute.bind (.ref a)
 have f5:=am_list_getattr_none
 unfold getAttr? getAttrBy? getAttrBy
 repeat (any_goals (first | assumption | exact hT _ | ((with_reducible show wpAny _ _ (call (Value.builtin "list.__getattribute__") _ _) _ _ _); refine call_meets F.slot_list_getattribute (hT _) am_entry_list_getattribute (F.args_list_getattribute_2 _ _) (meets_getattribute_miss_list a xs k #[] "keys" _ dl_keys (by decide) (by decide)) ⟨hx,hA,fun h' tk' e hx'=>?_⟩) | wp_step))
 obtain ⟨t',u',he⟩:=hx'.there
 show wpAny _ _ (getattributeRaised _ _ _ _ _ _ _) _ _ _
 unfold getattributeRaised
 repeat (any_goals (first | assumption | wp_step))
 exact h _ _ hx'.keeps
section
variable {prog:Program} {w:World} {A:Around} {E:Value→Shared→Prop} {s:Shared} {d it l p:Addr} {x:Str} {tx:Tok} {v:Value} {np:Nat}
theorem loop_end {R:Result→Shared→Prop} {i:Int} {ti:Tok} (hA:A.handled=none) (hi:s.heap.IsListIter it l 1) (hl:s.heap.IsList l #[.ref p]) (hR:∀ h',Heap.ExtBut it s.heap h'→R (.ok (.ret .none)) { s with heap:=h' }) :
  codeAny (model prog w) A (.builtin "dict.update.loop" ⟨[.ref d,.ref it,.int i ti,.none],[]⟩) R s:=by
 refine codeAny_builtin dl_entry ?_
 rw [Around.under_plainId dl_plain _]
 unfold Builtin.«dict.update.loop»
 show wpAny _ _ (pyNext (.ref it) >>= _) _ _ _
 refine wpAny_bind (wpAny_pyNext_list_end hA hi hl rfl fun h' hs=>?_)
 exact wpAny_bind (wpAny_pure (wpAny_pure (hR _ hs)))
theorem loop_one {R:Result→Shared→Prop} {i:Int} {ti:Tok} (hA:A.handled=none) (hi:s.heap.IsListIter it l 0) (hl:s.heap.IsList l #[.ref p]) (hp:s.heap.get? p=some { cls:=.type "list",data:=.seq #[.str x tx,v] np }) (hd:s.heap.DictOf (strKind prog w) d [])
  (h1:it≠d) (h2:it≠l) (h3:it≠p) (h4:d≠l)
  (hR:∀ h' tk,h'.DictOf (strKind prog w) d [(x,v)]→(∀ b o,b≠it→b≠d→s.heap.get? b=some o→h'.get? b=some o)→R (.ok (.ret .none)) { s with heap:=h',toks:=tk }) :
  codeAny (model prog w) A (.builtin "dict.update.loop" ⟨[.ref d,.ref it,.int i ti,.none],[]⟩) R s:=by
 refine codeAny_builtin dl_entry ?_
 rw [Around.under_plainId dl_plain _]
 unfold Builtin.«dict.update.loop»
 show wpAny _ _ (pyNext (.ref it) >>= _) _ _ _
 refine wpAny_bind (wpAny_pyNext_list_item hi hl rfl fun h1' hi1 hs1=>?_)
 have hp1:h1'.get? p=some { cls:=.type "list",data:=.seq #[.str x tx,v] np }:=(hs1.2 p h3.symm).trans hp
 have hl1:h1'.IsList l #[.ref p]:=by obtain ⟨o,e,r⟩:=hl; exact ⟨o,(hs1.2 l h2.symm).trans e,r⟩
 have hd1:h1'.DictOf (strKind prog w) d []:=hd.sameBut hs1 h1.symm
 have hT:({ s with heap:=h1' }:Shared).TypeIs (.ref p) "list":=⟨_,hp1,rfl⟩
 refine wpAny_bind (wpAny_holding ?_)
 refine wpAny_bind (wpAny_tryCatch ?_)
 unfold Builtin.Dict.pairItems
 refine wpAny_bind (wpAny_typeOf hT ?_)
 rw [if_pos (by decide)]
 refine wpAny_bind (wpAny_seqItems hp1 rfl (wpAny_pure ?_))
 show wpAny _ _ (holding _ (dictSet d (.str x tx) v)) _ _ _
 refine wpAny_holding ?_
 refine wpAny_dictSet_pairs (knd:=strKind prog w) (k:=x) (beq_self_eq_true x) hd1 (fun h2' hd2 hs2=>?_) (Nat.zero_le _)
 show wpAny _ _ (again _) _ _ _
 refine wpAny_pure ⟨plainId_quiet dl_plain _,?_⟩
 refine loop_end (l:=l) (p:=p) hA ?_ ?_ fun h' hs=>?_
 ·obtain ⟨o,e,r⟩:=hi1
  exact ⟨o,(hs2.2 it h1).trans e,r⟩
 ·obtain ⟨o,e,r⟩:=hl1
  exact ⟨o,(hs2.2 l h4.symm).trans e,r⟩
 ·exact hR _ _ (hd2.extBut hs h1.symm) fun b o n1 n2 e=>hs b o n1 ((hs2.2 b n2).trans ((hs1.2 b n1).trans e))
theorem call_dict1 {Q:Value→Shared→Prop} {nl:Nat} (hA:A.handled=none) (hl:s.heap.get? l=some { cls:=.type "list",data:=.seq #[.ref p] nl }) (hp:s.heap.get? p=some { cls:=.type "list",data:=.seq #[.str x tx,v] np })
  (h:∀ h' tk,h'.DictOf (strKind prog w) s.heap.objs.size [(x,v)]→(∀ b o,s.heap.get? b=some o→h'.get? b=some o)→Q (.ref s.heap.objs.size) { s with heap:=h',toks:=tk }) :
  wpAny (model prog w) A (call (.type "dict") [.ref l]) Q E s:=by
 refine callType_codes (Q₁:=fun obj s₁=>obj=.ref s.heap.objs.size∧s₁={ s with heap:=s.heap.push { cls:=.type "dict",data:=.dict #[] } }) F.kt_called_dict (F.kt_typeCall_dict_1 _) F.entry_dict_init (kt_code_dict_new _ ⟨rfl,rfl⟩) ?_
 rintro obj s₁ ⟨rfl,rfl⟩
 have hnew:(s.heap.push { cls:=.type "dict",data:=.dict #[] }).DictOf (strKind prog w) s.heap.objs.size []:=Heap.DictOf.new s.heap
 have hl1:=Heap.get?_push_of_some { cls:=.type "dict",data:=.dict #[] } hl
 have hT:({ s with heap:=s.heap.push { cls:=.type "dict",data:=.dict #[] } }:Shared).TypeIs (.ref l) "list":=⟨_,hl1,rfl⟩
 refine ⟨hnew.typeIs,F.args_dict_init_2 _ _,?_⟩
 unfold Builtin.«dict.__init__»
 refine wpAny_bind ?_
 unfold Builtin.Dict.selfAndRest
 refine wpAny_bind (wpAny_notOrdered_dict hnew.typeIs ?_)
 show wpAny _ _ (pure (s.heap.objs.size,[Value.ref l])) _ _ _
 refine wpAny_pure ?_
 show wpAny _ _ (Builtin.Dict.updateFrom "dict.__init__" s.heap.objs.size (.ref l) [] .none) _ _ _
 unfold Builtin.Dict.updateFrom
 refine wpAny_bind (wpAny_typeOf hT ?_)
 rw [if_pos (by decide)]
 refine wpAny_bind (no_keys hl1 hA fun h2 tk2 k2=>?_)
 show wpAny _ _ (rule _ >>= _) _ _ _
 refine wpAny_bind (wpAny_rule ?_)
 have hl2:=k2 _ _ hl1
 refine wpAny_bind (wpAny_pyIter_list ⟨_,hl2,rfl,nl,rfl⟩ ?_)
 have old:∀ b o,s.heap.get? b=some o→h2.get? b=some o:=fun b o e=>k2 b o (Heap.get?_push_of_some _ e)
 have lt:∀ b o,h2.get? b=some o→b < h2.objs.size:=fun b o e=>Heap.lt_size e
 have hD:∃ o,h2.get? s.heap.objs.size=some o:=⟨_,k2 _ _ (Heap.get?_push_size _ rfl)⟩
 show wpAny _ _ (again _) _ _ _
 refine wpAny_pure ⟨plainId_quiet dl_plain _,?_⟩
 have np1:s.heap.objs.size≠l:=fun e=>absurd (Heap.lt_size hl) (by rw [e]; exact Nat.lt_irrefl _)
 have nx:∀ b o,h2.get? b=some o→h2.objs.size≠b:=fun b o e q=>absurd (Heap.lt_size e) (by rw [q]; exact Nat.lt_irrefl _)
 refine loop_one (l:=l) (p:=p) (tx:=tx) (v:=v) (np:=np) hA ⟨_,Heap.get?_push_size _ rfl,rfl,rfl⟩ ⟨_,Heap.get?_push_of_some _ hl2,rfl,nl,rfl⟩ (Heap.get?_push_of_some _ (old _ _ hp)) ?_ ?_ ?_ ?_ np1 fun h' tk hd' k'=>⟨rfl,?_⟩
 ·obtain ⟨o,es,ep,e,r⟩:=hnew
  exact ⟨o,es,ep,Heap.get?_push_of_some _ (k2 _ _ e),r⟩
 ·obtain ⟨o,e⟩:=hD; exact nx _ _ e
 ·exact nx _ _ hl2
 ·exact nx _ _ (old _ _ hp)
 ·refine h _ _ hd' fun b o e=>k' b o (nx _ _ (old _ _ e)).symm ?_ (Heap.get?_push_of_some _ (old _ _ e))
  rintro rfl
  exact absurd (Heap.lt_size e) (Nat.lt_irrefl _)
end
end HL.Lake
end
noncomputable section
namespace HL.Lake
open PySem PySem.W PySem.Calls PyProof.Rows
section
variable {c:Cx} {n:Nat} {env:Env} {X:St→Prop} {σ:St} {pos:Pos} {ω:Wd} {sc:Scope} {Q:V→St→Prop}
theorem stored_put {P:Params} {g:PHeap} {a b:List Addr} {x:Str} {v:V} {rv:Value} {l l':List (Str×V)} {kvs:List (Str×Value)} (hp:Put x v l l') (r:RelKw P g a b l kvs) (nd:(l.map (·.1)).Nodup) (h:Rel P g a b v rv):RelKw P g a b l' (stored kvs x rv):=by
 have hin:kvs.any (fun kv=>decide (kv.1=x))=true:=by
  have:=hp.mem
  rw [← r.keys] at this
  obtain ⟨q,hq,e⟩:=List.mem_map.mp this
  exact List.any_eq_true.mpr ⟨q,hq,decide_eq_true e⟩
 unfold stored
 rw [if_pos hin]
 clear hin
 have miss:∀ {l:List (Str×V)} {kvs:List (Str×Value)},RelKw P g a b l kvs→x ∉ l.map (·.1)→RelKw P g a b l (kvs.map fun kv=>if kv.1=x then (kv.1,rv) else kv):=fun {l kvs} r=>by
  induction r using RelKw.ind with
  | nil=>exact fun z9=>.nil
  | @cons k u ru l rl hv hr ih =>
   intro hm
   refine .cons ?_ (ih fun q=>hm (.tail _ q))
   have hk:k≠x:=fun e=>hm (e▸.head _)
   show _=(if k=x then (k,rv) else (k,ru)).1∧Rel P g a b u (if k=x then (k,rv) else (k,ru)).2
   rw [if_neg hk]; exact ⟨rfl,hv⟩
 induction hp generalizing kvs with
 | @head w' rest =>
  obtain ⟨y,t,rfl,hy,ht⟩:=(r:∃ y t,kvs=y :: t∧(x=y.1∧Rel P g a b w' y.2)∧RelKw P g a b rest t)
  refine .cons ?_ (miss ht (List.nodup_cons.mp nd).1)
  show x=(if y.1=x then (y.1,rv) else y).1∧Rel P g a b v (if y.1=x then (y.1,rv) else y).2
  rw [if_pos hy.1.symm]; exact ⟨hy.1,h⟩
 | @tail p rest rest' m ih =>
  obtain ⟨y,t,rfl,hy,ht⟩:=(r:∃ y t,kvs=y :: t∧(p.1=y.1∧Rel P g a b p.2 y.2)∧RelKw P g a b rest t)
  have hn:=List.nodup_cons.mp nd
  refine .cons ?_ (ih ht hn.2)
  have hk:y.1≠x:=fun e=>hn.1 (show p.1∈rest.map (·.1) by rw [show p.1=x from hy.1.trans e]; exact m.mem)
  show p.1=(if y.1=x then (y.1,rv) else y).1∧Rel P g a b p.2 (if y.1=x then (y.1,rv) else y).2
  rw [if_neg hk]; exact hy
theorem si_dict {Q:Unit→St→Prop} {j:Nat} {l l':List (Str×V)} {x:Str} {v:V} (hW:σ.W[j]?=some (.dict l)) (hp:Put x v l l') (hz:decide (l.length≤1000)=true) (hv:v.noLo=true) (h:Q () { σ with W:=σ.W.set j (.dict l') }):SI c n env (.ob j) (.str x) v Q X σ:=wo3 fun A ω rv ri rx hR hS r1 r2 r3=>by
 obtain ⟨d,rfl,hd⟩:=r1.inv
 obtain ⟨t,rfl⟩:=r2.inv
 refine gC fun G hG=>?_
 obtain ⟨d',es,k,hd',ho,rd,nd⟩:=hS.dictW hW
 cases Option.some.inj (hd.symm.trans hd')
 obtain ⟨kvs,D,rk⟩:=rel_dictOf (c:=c) rfl ho rd nd
 refine hG ?_
 have hl:kvs.length=l.length:=by have:=congrArg List.length rk.keys; rwa [List.length_map,List.length_map] at this
 refine wpAny_setItem_pairs (knd:=strKind c.prog c.w) (k:=x) (beq_self_eq_true x) D (fun h' D' hs=>?_) (by rw [hl]; exact szL (Nat.le_trans (of_decide_eq_true hz) (Nat.le_of_ble_eq_true rfl)))
 obtain ⟨es',k',ho',rd'⟩:=dictOf_rel (c:=c) rfl D' (stored_put hp rk nd (r3.noLo hv))
 obtain ⟨S',l''⟩:=hS.setW (o':=.dict l') hd (hS.ns.sameBut hs (hS.neL (List.mem_append_right _ (List.mem_of_getElem? hd)))) (fun y o hy z9 e=>hs.extBut y o hy e) ho' (.dict rd' (by rw [hp.keys]; exact nd)) (ω.s.toks+1)
 exact ⟨(),_,_,l'',rfl,S',trivial,h⟩
set_option tactic.hygienic true in
theorem Sat.learn {L D:Addr} {oD:Obj} (S:Sat c L σ ω) (hD:ω.s.heap.get? D=some oD) (h0:ω.g D=none) (h1:D ∉ L :: (ω.a++ω.b)) (h2:ω.k D=none) (h3:ω.kf D=none):Sat c L σ { ω with g:=gAdd ω.g D oD }∧Le ω { ω with g:=gAdd ω.g D oD }:=by
 have hs:∀ {a b:List Addr},Sub ω.g (gAdd ω.g D oD) a a b b:=gAdd_sub h0
 refine ⟨⟨S.ns,fun x o' e=>?_,fun x o' e=>hs.hg (a:=ω.a) (b:=ω.b) _ _ (S.base x o' e),S.high,fun x v m=>?_,S.nd,?_,?_,S.apart,fun x hx=>?_,S.kk,S.ok,S.nf,S.okf,fun x m e=>⟨(S.dis x m e).1,?_⟩,fun x o' e=>?_⟩,⟨hs,rfl,rfl,rfl,rfl,rfl⟩⟩
 ·have e':(if x=D then some oD else ω.g x)=some o':=e
  split at e'
  ·rename_i h; subst h; cases e'; exact hD
  ·exact S.keep x o' e'
 ·obtain ⟨rv,e,r⟩:=S.loc x v m
  exact ⟨rv,e,r.mono hs⟩
 ·exact S.tT.keeps hs fun x hx=>rfl
 ·exact S.tW.keeps hs fun x hx=>rfl
 ·show gAdd _ _ _ x=none
  unfold gAdd
  rw [if_neg (fun e:x=D=>h1 (e▸hx))]
  exact S.out x hx
 ·show gAdd _ _ _ x=none
  unfold gAdd
  rw [if_neg (fun q:x=D=>Lake.nn h3 (q▸e))]
  exact (S.dis x m e).2
 ·show gAdd _ _ _ x=none
  unfold gAdd
  rw [if_neg (fun q:x=D=>Lake.nn h2 (q▸e))]
  exact S.dk x o' e
theorem cv_dict1 {v p:V} {x:Str} {u:V} (h1:IsLV σ v [p]) (h2:IsLV σ p [.str x,u]) (h:Q (.dict [(x,u)]) σ):CV c n env (.st (.type "dict")) [v] Q X σ:=fun A ω rvs hR hS hr=>by
 obtain ⟨r0,r1,rfl,q0,q1⟩:=hr.two
 obtain rfl:=q0.inv
 refine gC fun G hG=>?_
 obtain ⟨a,xs,nn,rfl,e,rs⟩:=h1.at hS q1
 obtain ⟨rp,rfl,rr⟩:=rs.one
 obtain ⟨b,ys,mm,rfl,e',rs'⟩:=h2.at hS rr
 obtain ⟨r3,r4,rfl,q3,q4⟩:=rs'.two
 obtain ⟨t,rfl⟩:=q3.inv
 refine hG ?_
 refine call_dict1 hR.room.handled e e' fun h' tk hd hk=>?_
 obtain ⟨S',l'⟩:=hS.ext hk tk
 obtain ⟨es,k,ho,rd⟩:=dictOf_rel (c:=c) (g:=ω.g) (a:=ω.a) (b:=ω.b) (l:=[(x,u)]) rfl hd (.cons ⟨rfl,q4⟩ .nil)
 have nh:∀ {p:PHeap},(∀ y o,p y=some o→ω.s.heap.get? y=some o)→p ω.s.heap.objs.size=none:=fun {p} h=>by
  cases q:p ω.s.heap.objs.size with
  | none=>rfl
  | some o=>exact absurd (Heap.lt_size (h _ _ q)) (Nat.lt_irrefl _)
 obtain ⟨S2,l2⟩:=S'.learn ho (nh hS.keep) (fun m=>absurd (hS.lt m) (Nat.lt_irrefl _)) (nh hS.kk) (by
  cases q:ω.kf ω.s.heap.objs.size with
  | none=>rfl
  | some m=>exact absurd (hS.nf _ _ q).lt (Nat.lt_irrefl _))
 exact ⟨.dict [(x,u)],σ,_,l'.trans l2,rfl,S2,.dict gAdd_self hS.newHigh (rd.mono l2.sub) (List.nodup_cons.mpr ⟨nofun,List.nodup_nil⟩),h⟩
theorem cv_len_dict {v:V} {l:List (Str×V)} (k:IsDV σ v l) (hz:l.length≤10000) (h:Q (.int l.length) σ):CV c n env (.st (.builtin "len")) [v] Q X σ:=fun A ω rvs hR hS hr=>by
 obtain ⟨r0,r1,rfl,q0,q1⟩:=hr.two
 obtain rfl:=q0.inv
 obtain ⟨x,kvs,rfl,hx,D,rk,nd⟩:=k.of hS q1
 have hl:kvs.length=l.length:=by have:=congrArg List.length rk.keys; rwa [List.length_map,List.length_map] at this
 refine call_len_dict hx D (by rw [hl]; exact fitT hz) ?_
 rw [hl]
 exact doneT hS .int h
theorem kv_isnot_bool {p q:Bool} (h:Q (.bool (p != q)) σ):KV c n env .IsNot (.bool p) (.bool q) Q X σ:=wo2 fun z9 z9 z9 z9 z9 hS r1 r2=>by
 obtain rfl:=r1.inv
 obtain rfl:=r2.inv
 exact isnot_bool (done hS .bool h)
theorem cv_min {a b:Int} (h:Q (.int (if b < a then b else a)) σ):CV c n env (.st (.builtin "min")) [.int a,.int b] Q X σ:=fun A ω rvs hR hS hr=>by
 obtain ⟨r0,r1,r2,rfl,q0,q1,q2⟩:=hr.three
 obtain rfl:=q0.inv
 obtain ⟨_,rfl⟩:=q1.inv
 obtain ⟨_,rfl⟩:=q2.inv
 refine min_two_ints hR.room.handled fun h' tk hk=>?_
 obtain ⟨S',l'⟩:=hS.ext hk tk
 refine ⟨_,_,_,l',rfl,S',?_,h⟩
 split <;> exact .int
theorem wi_range1 {a:PySem.Expr} {np:Pos} (he:EnvOk env sc) (hk:(sc.names.lookup (Str.ofString "range")==some NameKind.globalImplicit)=true) (hg:nsIn c.K mainGlobals "range"=some none) (hs:noStars [a]=true) {Q:List V→St→Prop}
  (h:WE c n env a (fun v σ₁=>∃ j:Int,∃ N:Nat,v=.int j∧Builtin.Range.small 0 j 1=true∧Builtin.Range.rangeSize 0 j 1=N∧Q ((List.range N).map fun k=>.int (0+(k:Nat) * 1)) σ₁) X σ):WI c n env (.Call (.Name "range" np) [a] [] pos) Q X σ:=fun A ω hR hS=>by
 rw [eval_call rfl]
 refine wpAny_bind (wpAny_mono ((e_builtin (Q:=fun v σ'=>v=.st (.type "range")∧σ'=σ) (X:=X) he hk (by decide) hg (by decide +kernel) (by decide) ⟨rfl,rfl⟩) A ω hR hS) ?_ fun z9 z9 x=>x)
 refine Post.all fun rf v σ₁ ω₁ l₁ S₁ r hz26=>?_
 obtain ⟨rfl,rfl⟩:=hz26
 obtain rfl:=r.inv
 refine callWith_of (P:=fun h=>∃ k,(k=Keeper.frame∨k=Keeper.machine∨k=Keeper.boundFrame)∧Looks (model c.prog c.w) h (keeperOf (.type "range")) k) (by rw [backTo_any hs]; rfl) (fun z9 h=>h) ?_
 refine evalArgs_plainL hs ?_
 have hw:WL c n env pos [a] (fun vs σ₂=>∃ j:Int,∃ N:Nat,vs=[.int j]∧Builtin.Range.small 0 j 1=true∧Builtin.Range.rangeSize 0 j 1=N∧Q ((List.range N).map fun k=>.int (0+(k:Nat) * 1)) σ₂) X σ₁:=by
  refine wl_cons ((Bool.and_eq_true _ _).mp hs).1 fun A ω hR hS=>wpAny_mono (h A ω hR hS) ?_ fun z9 z9 x=>x
  intro rv s hz2q
  refine gC fun G hG=>?_
  obtain ⟨w,σ',ω',l,e,S,r,j,N,rfl,h1,h2,h3⟩:=hz2q
  refine hG ?_
  exact ⟨_,σ',ω',l,e,S,r,wl_nil ⟨j,N,rfl,h1,h2,h3⟩⟩
 refine wpX l₁ (hw A ω₁ (hR.le l₁) S₁) ?_
 refine Post.all fun rvs vs σ₂ ω₂ l₂ S₂ rs hz27=>?_
 refine gC fun G hG=>?_
 obtain ⟨j,N,rfl,h1,h2,h3⟩:=hz27
 obtain ⟨r1,rfl,q1⟩:=rs.one
 obtain ⟨_,rfl⟩:=q1.inv
 refine hG ?_
 refine ⟨⟨.machine,.inr (.inl rfl),Looks.now⟩,?_⟩
 refine call_range_1 ?_
 obtain ⟨S₃,l₃⟩:=S₂.push ({ cls:=.type "range",data:=.fields #[.int 0 ω₂.s.toks,.int j _,.int 1 (ω₂.s.toks+1)] }) rfl (ω₂.s.toks+1+1)
 exact ⟨_,σ₂,_,(l₁.trans l₂).trans l₃,rfl,S₃,iters_range rfl (Heap.get?_push_size _ rfl) h1 h2,h3⟩
theorem kv_ne_lo2 {i:Nat} {xs zs:List V} (h1:σ.T[i]?=some (.list xs)) (e1:xs.map (reV σ.W)=zs) (hp':V.pureL zs=true) (hd:V.depL zs < 20) (h:Q (.bool false) σ):KV c n env .NotEq (.lo i) (.list zs) Q X σ:=wo2 fun A ω rv rw hR hS r1 r2=>by
 refine gC fun G hG=>?_
 obtain ⟨y,rfl,hi⟩:=r1.inv
 obtain ⟨x,ob,e2,e3,q⟩:=hS.tT.2 _ _ h1
 cases Option.some.inj (hi.symm.trans e2)
 cases q with
 | @list _ ra k1 q =>
 have ra':=e1▸hS.reVL q (e1.symm▸hp')
 obtain ⟨z,rb,nn,rfl,hg,rs⟩:=r2.inv
 have rb':=V.pureL_mono hS.keep hp' rs
 refine hG ?_
 have l1:=relL_len ra'
 have l2:=relL_len rb'
 have hu:A.units+20 < cLine:=hR.room.line (Nat.le_of_ble_eq_true rfl)
 refine rc_listF (c:=c) e3 (hS.keep _ _ hg) (by rw [List.size_toArray,List.size_toArray]; exact l1.trans l2.symm) (Nat.lt_of_le_of_lt (Nat.le_add_right _ _) hu) (fun j j1 j2=>?_) (done hS .bool h)
 have all:∀ {zs:List V} {xs ys:List Value},V.pureL zs=true→V.depL zs < 20→RelL c.w.params (hp ω.s.heap) [] [] zs xs→RelL c.w.params (hp ω.s.heap) [] [] zs ys→∀ j (h1:j < xs.length) (h2:j < ys.length),EqT c A.in1 ω.s xs[j] ys[j]:=fun {zs}=>by
  induction zs with
  | nil=>intro xs ys _ _ r _ j h1; cases r; exact absurd h1 (Nat.not_lt_zero _)
  | cons v zs ih =>
   intro xs ys hp' hd r r' j h1 h2
   cases r with
   | cons r rs=>cases r' with
    | cons r' rs'=>cases j with
     | zero=>exact (eqV v A.in1 _ _ (andT hp').1 (by
       have h3:v.dep < 20:=Nat.lt_of_le_of_lt (Nat.le_max_left _ _) hd
       show A.units+1+v.dep < cLine
       exact Nat.lt_of_le_of_lt (by rw [Nat.add_assoc,Nat.add_comm 1]; exact Nat.add_le_add_left h3 _) hu) r r').1
     | succ j=>exact ih (andT hp').2 (Nat.lt_of_le_of_lt (Nat.le_max_right _ _) hd) rs rs' j (Nat.lt_of_succ_lt_succ h1) (Nat.lt_of_succ_lt_succ h2)
 exact all hp' hd ra' rb' j (by rwa [List.size_toArray] at j1) (by rwa [List.size_toArray] at j2)
theorem e_methK {o e1 e2:PySem.Expr} {x k1 k2:Str} {apos p1 p2:Pos} {v v1 v2:V} {f:Addr} (hn:notSuper o=true) (hp:(apos.endLine==pos.line)=true) (ho:PE c n env o v X σ) (hg:∀ Q:V→List V→St→Prop,Q (.st (.ref f)) [v] σ→GM c n env x v Q X σ) (hkp:keepIn c.K (.ref f)=true)
  (h1:PE c n env e1 v1 X σ) (h2:PE c n env e2 v2 X σ) (nv:V.noLoL [v]=true) (n1:v1.noLo=true) (n2:v2.noLo=true)
  (h:CallS c n (.ref f) [v] [(k1,v1),(k2,v2)] (fun r W'=>Q r { σ with W:=W' }) (fun W'=>X { σ with W:=W' }) σ.W):WE c n env (.Call (.Attribute o x apos) [] [⟨some k1,e1,p1⟩,⟨some k2,e2,p2⟩] pos) Q X σ:=fun A ω hR hS=>by
 rw [arm_eval_Call,attributeBase_plain hn]
 refine wpAny_bind (wpAny_mono (ho (fun u σ₁=>u=v∧σ₁=σ) ⟨rfl,rfl⟩ A ω hR hS) ?_ fun z9 z9 x=>x)
 refine Post.all fun ro v' σ₁ ω₁ l₁ S₁ r hz=>?_
 obtain ⟨rfl,rfl⟩:=hz
 unfold methodCall
 rw [show methodCallForm (([]:List PySem.Expr).length+[(⟨some k1,e1,p1⟩:Keyword),⟨some k2,e2,p2⟩].length) (backTo pos (starEach [] env)) (backToKw pos (keywordEach [⟨some k1,e1,p1⟩,⟨some k2,e2,p2⟩] env))=true from rfl]
 refine wpAny_bind (wpAny_standAt (wpAny_bind (wpAny_holding (wpX l₁ (hg (fun g first σ₂=>g=.st (.ref f)∧first=[v']∧σ₂=σ₁) ⟨rfl,rfl,rfl⟩ _ A ω₁ [ro] (hR.le l₁) S₁ (.cons r .nil)) ?_))))
 refine Post.all fun az2 bz3 σ₂ ω₂ l₂ S₂ rz4 hz=>?_
 obtain ⟨rf,rfirst⟩:=az2
 obtain ⟨g,first⟩:=bz3
 obtain ⟨rfl,rfl,rfl⟩:=hz
 obtain ⟨r2,rs2⟩:=rz4
 obtain rfl:=r2.inv
 obtain ⟨rs,rfl,rs1⟩:=rs2.one
 have hpos:methodCallPos true o env apos pos=pure pos:=by
  unfold methodCallPos
  rw [hp]; rfl
 rw [hpos]
 refine wpAny_bind (wpAny_pure ?_)
 have l12:=l₁.trans l₂
 refine callWith_of (P:=fun h=>∃ k,(k=Keeper.frame∨k=Keeper.machine∨k=Keeper.boundFrame)∧Looks (model c.prog c.w) h (keeperOf (.ref f)) k) rfl (fun z9 h=>h) (evalArgs_kw_nil rfl (kws_cons ?_))
 refine wpX l12 (h1 (fun u σ₁=>u=v1∧σ₁=σ₂) ⟨rfl,rfl⟩ A ω₂ (hR.le l12) S₂) ?_
 refine Post.all fun r1 u1 σ₃ ω₃ l₃ S₃ q1 hz=>?_
 obtain ⟨rfl,rfl⟩:=hz
 refine kws_cons ?_
 have l13:=l12.trans l₃
 refine wpX l13 (h2 (fun u σ₁=>u=v2∧σ₁=σ₃) ⟨rfl,rfl⟩ A ω₃ (hR.le l13) S₃) ?_
 refine Post.all fun r3 u2 σ₄ ω₄ l₄ S₄ q2 hz=>?_
 obtain ⟨rfl,rfl⟩:=hz
 refine kws_nil ⟨keeps_K hkp _ S₄.X,?_⟩
 have l14:=l13.trans l₄
 refine wpX l14 (wpAny_call (codeAny_mono (h A ω₄.s ω₄.b ω₄.g (kBelow env.locals ω₄) (kfBelow env.locals ω₄) [rs] [(k1,r1),(k2,r3)] (hR.le l14).room ((hR.le l14).outs rfl) S₄.toW (RelL.noLo (.cons (rs1.mono (l₃.trans l₄).sub) .nil) nv) (.cons ⟨rfl,(q1.mono l₄.sub).noLo n1⟩ (.cons ⟨rfl,q2.noLo n2⟩ .nil))) fun rv s' z=>back_call S₄ z)) fun z9 z9 p=>p.le l14
end
end HL.Lake
end
noncomputable section
namespace HL.Lake
open PySem PySem.W PySem.Calls PyProof.Rows
section
variable {c:Cx} {n:Nat} {env:Env} {X:St→Prop} {σ:St} {pos:Pos} {ω:Wd} {sc:Scope}
theorem e_comp_no2 {elt iter:PySem.Expr} {x:Str} {px:Pos} {ifs:List PySem.Expr} {scope:Scope} {Q:V→St→Prop} (he:EnvOk env sc) (hset:notSetE iter=true) (hsc:compOk scope x=true)
  (h:WE c n env iter (fun v σ₁=>∃ (i:Nat) (xs l:List V),v=.lo i∧σ₁.T[i]?=some (.list xs)∧xs.map (reV σ₁.W)=l∧V.pureL l=true∧l.length≤10000 ∧
   (∀ cenv,EnvOk cenv scope→∀ u∈l,WF c n cenv ifs (fun ok σ₃=>ok=false∧σ₃.T=[]∧σ₃.W=[]) (fun z9=>False) ⟨[(x,some u)],[],[]⟩)∧Q (.list []) σ₁) X σ) :
  WE c n env (.ListComp elt [⟨.Name x px,iter,ifs,0⟩] scope pos) Q X σ:=fun A ω hR hS=>by
 refine gC fun G hG=>?_
 obtain ⟨hfree,hcell,hnames,hx,hkind⟩:=compOk.free hsc
 refine hG ?_
 refine wpAny_ListComp hfree hkind hnames (wpAny_mono (h A ω hR hS) ?_ fun z9 z9 x=>x) (foldedPlain hset)
 refine Post.all fun rv v σ₁ ω₀ l₀ S₀ r₀ hz35=>?_
 refine gC fun G hG=>?_
 obtain ⟨i,xs₀,l,rfl,hi,hre,hpu,hlen,turn,fin⟩:=hz35
 refine hG ?_
 have S₁:=S₀.freeze
 have it:Iters c ω₀.frz rv l:=by
  obtain ⟨ad,rfl,hb⟩:=r₀.inv
  obtain ⟨y,ob,e1,e2,r⟩:=S₀.tT.2 _ _ hi
  rw [hb] at e1
  cases e1
  refine gC fun G hG=>?_
  cases r with
  | @list _ xs k rs =>
   refine hG ?_
   have hga:ω₀.frz.g ad=ω₀.s.heap.get? ad:=if_pos (List.mem_append_left _ (List.mem_of_getElem? hb))
   have rr:RelL c.w.params ω₀.frz.g [] [] l xs:=hre▸S₀.reVLg (g':=ω₀.frz.g) (fun x o e=>(if_neg (S₀.gSub e):ω₀.frz.g x=ω₀.g x).trans e) (fun x m o e=>(if_pos (List.mem_append_right _ m):ω₀.frz.g x=ω₀.s.heap.get? x).trans e) rs (hre.symm▸hpu)
   exact iters_list S₁ (Rel.list (hga.trans e2) rr)
 have turn':∀ cenv,EnvOk cenv scope→∀ (i:Nat) (ys:List V) (W:List AO) (u:V),l[i]?=some u→(ys=[]∧W=[])→WF c n cenv ifs (fun ok σ₃=>if ok then WE c n cenv elt (fun v σ₄=>σ₄.T=[]∧(ys++[v]=[]∧σ₄.W=[])) (fun z9=>False) σ₃ else σ₃.T=[]∧(ys=[]∧σ₃.W=[])) (fun z9=>False) ⟨[(x,some u)],[],W⟩:=by
  rintro cenv hc i ys W u hu ⟨rfl,rfl⟩
  refine (turn cenv hc u (List.mem_of_getElem? hu)).mono (fun ok σ₃ hq=>?_) fun z9 h=>h
  obtain ⟨rfl,h1,h2⟩:=hq
  exact ⟨h1,rfl,h2⟩
 refine it.it A _ _ hR.room.handled fun o fp P T hf hW hT hfp ho hP=>?_
 refine wpAny_newObj_type (hd:=by size_fits) (wpAny_newFunctionEnv hcell (by intro y hy; simp at hy) (fun h₁ hns₁ hsb₁=>?_) hkind)
 have k0:∀ x,ω₀.s.heap.objs.size≤x→ω₀.k x=none:=fun x hx=>by
  cases e:ω₀.k x with
  | none=>rfl
  | some o=>exact absurd (Heap.lt_size (S₁.kk _ _ e)) (Nat.not_lt_of_le hx)
 have S₂:=S₁.addK o hf
 have S₃:=S₂.addK ({ cls:=.type "list",dict:=none,data:=.seq ([]:List Value).toArray }) rfl
 have S₄:=S₃.enter (x:=x) hns₁ hsb₁ (ω₀.s.toks+([]:List (Str×Value)).length)
 have hDI:(ω₀.s.heap.push o).objs.size≠ω₀.s.heap.objs.size:=by rw [Heap.size_push]; exact Nat.succ_ne_self _
 have hR₁:Here c n env A ω₀.frz.kf:=(hR.le l₀:Here c n env A ω₀.kf)
 have kL:ω₀.kf env.locals=none:=S₀.okf _ (.head _)
 have he':EnvOk (compEnv scope ((ω₀.s.heap.push o).push ({ cls:=.type "list",dict:=none,data:=.seq ([]:List Value).toArray })).objs.size env) scope:=⟨rfl,hkind,he.globals,he.builtins⟩
 have st₁:T 0 h₁:=(hW A hR.room.handled).frame _ _ _ hT fun b hb o' e=>hsb₁.extBut b o' (by
   have:=Heap.lt_size e
   rw [Heap.size_push]; exact Nat.ne_of_lt (Nat.lt_succ_of_lt this)) (Heap.get?_push_of_some _ (Heap.get?_push_of_some _ e))
 have loop:∀ s₂:Shared,s₂={ ω₀.s with heap:=h₁,toks:=ω₀.s.toks+([]:List (Str×Value)).length }→codeAny (model c.prog c.w) A (.compLoop (.ListComp elt [⟨.Name x px,iter,ifs,0⟩] scope pos) 0 (.ref ω₀.s.heap.objs.size) (.ref (ω₀.s.heap.push o).objs.size) (compEnv scope ((ω₀.s.heap.push o).push ({ cls:=.type "list",dict:=none,data:=.seq ([]:List Value).toArray })).objs.size env))
   (fun r s'=>∃ m,s'.heap.Ns ((ω₀.s.heap.push o).push ({ cls:=.type "list",dict:=none,data:=.seq ([]:List Value).toArray })).objs.size m∧∀ h',Heap.SameBut ((ω₀.s.heap.push o).push ({ cls:=.type "list",dict:=none,data:=.seq ([]:List Value).toArray })).objs.size s'.heap h' →
    match r with
    | .ok _=>Post c env.locals (RV c) ω Q (.ref (ω₀.s.heap.push o).objs.size) { s' with heap:=h' }
    | .error x=>wpAny (model c.prog c.w) A (passOn "comprehension.variables-let-go" x (compEnv scope ((ω₀.s.heap.push o).push ({ cls:=.type "list",dict:=none,data:=.seq ([]:List Value).toArray })).objs.size env)) (Post c env.locals (RV c) ω Q) (PostX c env A ω X) { s' with heap:=h' }) s₂:=by
  rintro s₂ rfl
  refine compLoop (ω:={ ω₀.frz with kf:=kfBelow env.locals ω₀.frz }) (C:=((ω₀.s.heap.push o).push ({ cls:=.type "list",dict:=none,data:=.seq ([]:List Value).toArray })).objs.size) (J:=fun z9 ys W=>ys=[]∧W=[]) (T₀:=[]) (hW A hR.room.handled) hfp ho hP he' hx rfl hR₁.comp hDI (k0 _ (Nat.le_refl _)) (k0 _ (by rw [Heap.size_push]; exact Nat.le_succ _)) hlen (turn' _ he') ?_ ?_
  ·refine ⟨_,o,[],[],0,[],?_,rfl,S₄,?_,st₁,.nil,Nat.le_refl _,rfl,rfl⟩
   ·exact ⟨.refl,rfl,rfl,rfl,rfl⟩
   ·exact gAdd_comm hDI.symm
  ·rintro ω' ys rys nn W lk S' hk rs ⟨rfl,rfl⟩
   refine ⟨_,S'.ns,fun h' hs'=>?_⟩
   have S₅:=S'.exit (L:=env.locals) (m₀:=ω₀.m) (kf₀:=ω₀.kf) (loc₀:=[]) lk.kf kL S₁.above (fun y v m=>by cases m) List.nodup_nil hs' ω'.s.toks
   have kD:h'.get? (ω₀.s.heap.push o).objs.size=some { cls:=.type "list",data:=.seq rys.toArray nn }:=S₅.kk _ _ (by show ω'.k _=_; rw [hk]; exact gAdd_self)
   obtain ⟨S₆,sub₆⟩:=S₅.dropK (k₀:=ω₀.k) (o':={ cls:=.type "list",data:=.seq rys.toArray nn }) hk (k0 _ (by rw [Heap.size_push]; exact Nat.le_succ _)) (Heap.SameBut.refl _ _) kD ω'.s.toks
   obtain ⟨S₇,sub₇⟩:=S₀.thaw S₆ (fun x o e=>sub₆.hg _ _ (lk.sub.hg _ _ e)) rfl rfl rfl
   have hD:(ω₀.s.heap.push o).objs.size ∉ ω₀.a++ω₀.b:=fun m=>by
    have h1:(ω₀.s.heap.push o).objs.size < ω₀.s.heap.objs.size:=S₀.lt (.tail _ m)
    rw [Heap.size_push] at h1
    exact Nat.lt_irrefl _ (Nat.lt_of_succ_lt h1)
   cases rs
   refine ⟨.list [],σ₁,_,?_,rfl,S₇,.list ((if_neg hD).trans gAdd_self) .nil,fin⟩
   exact l₀.trans ⟨sub₇,lk.gens,lk.drawn,lk.os,rfl,rfl⟩
 exact codeAny_compStart_list (loop _ rfl) ((hW A hR.room.handled).self 0 _ _ _ st₁ (loop _ rfl))
end
end HL.Lake
end
noncomputable section
namespace HL.Lake
open PySem PySem.W PySem.Calls PyProof.Rows
section
variable {c:Cx} {n:Nat} {env:Env} {sc scg:Scope} {X:St→Prop} {σ:St}
 {P1 P2 PJ P2e P3e:List V→Nat→List AO→Prop} {En:List AO→Prop} {e N:Nat} {xt xs:Str} {px pe pos:Pos}
theorem Sat.swap {C L:Addr} {m₀:Str→Option Value} {kf₀:Addr→Option (Str→Option Value)} {loc₀:List (Str×Option V)} (S:Sat c C σ ω) (hkf:ω.kf=fun x=>if x=L then some m₀ else kf₀ x) (hL0:kf₀ L=none) (ha:c.h₀.objs.size≤L)
  (hloc:∀ x v,(x,some v)∈loc₀→∃ rv,m₀ x=some rv∧Rel c.w.params ω.g ω.a ω.b v rv) (hnd:(loc₀.map (·.1)).Nodup) :
  Sat c L ⟨loc₀,σ.T,σ.W⟩ { ω with m:=m₀,kf:=fun x=>if x=C then some ω.m else kf₀ x }:=by
 have kL:ω.kf L=some m₀:=by rw [hkf]; exact if_pos rfl
 have kne:∀ x,x≠L→kf₀ x=ω.kf x:=fun x hx=>by rw [hkf]; exact (if_neg hx).symm
 have inL:∀ x∈C :: (ω.a++ω.b),x≠L:=fun x hx=>by rintro rfl; exact Lake.nn (S.okf x hx) kL
 have inC:∀ x∈L :: (ω.a++ω.b),x≠C:=fun x hx=>by
  rcases List.mem_cons.mp hx with rfl | hx
  ·exact (inL C (.head _)).symm
  ·rintro rfl; exact (List.nodup_cons.mp S.apart).1 hx
 refine ⟨S.nf L m₀ kL,S.keep,S.base,⟨ha,S.high.2⟩,hloc,hnd,S.tT,S.tW,?_,?_,S.kk,?_,?_,?_,?_,S.dk⟩
 ·exact List.nodup_cons.mpr ⟨fun h=>inL L (.tail _ h) rfl,(List.nodup_cons.mp S.apart).2⟩
 ·intro y hy
  rcases List.mem_cons.mp hy with rfl | hy
  ·exact (S.dis _ _ kL).2
  ·exact S.out y (.tail _ hy)
 ·intro y hy
  rcases List.mem_cons.mp hy with rfl | hy
  ·exact (S.dis _ _ kL).1
  ·exact S.ok y (.tail _ hy)
 ·intro y m' e
  have e':(if y=C then some ω.m else kf₀ y)=some m':=e
  by_cases hy:y=C
  ·rw [if_pos hy] at e'
   cases e'
   exact hy▸S.ns
  ·rw [if_neg hy] at e'
   exact S.nf y m' ((kne y (by rintro rfl; exact Lake.nn hL0 e')).symm.trans e')
 ·intro y hy
  refine (if_neg (inC y hy)).trans ?_
  rcases List.mem_cons.mp hy with rfl | hy
  ·exact hL0
  ·exact (kne y (inL y (.tail _ hy))).trans (S.okf y (.tail _ hy))
 ·intro y m' e
  have e':(if y=C then some ω.m else kf₀ y)=some m':=e
  by_cases hy:y=C
  ·obtain rfl:=hy
   exact ⟨S.ok _ (.head _),S.out _ (.head _)⟩
  ·rw [if_neg hy] at e'
   exact S.dis y m' ((kne y (by rintro rfl; exact Lake.nn hL0 e')).symm.trans e')
theorem Sat.dropF {C L:Addr} {mC:Str→Option Value} {kf₀:Addr→Option (Str→Option Value)} (S:Sat c L σ ω) (hkf:ω.kf=fun x=>if x=C then some mC else kf₀ x) (hC0:kf₀ C=none) {h':Heap} (hs:Heap.SameBut C ω.s.heap h') :
  Sat c L σ { ω with s:={ ω.s with heap:=h' },kf:=kf₀ }:=by
 have kC:ω.kf C=some mC:=by rw [hkf]; exact if_pos rfl
 have kne:∀ x,x≠C→kf₀ x=ω.kf x:=fun x hx=>by rw [hkf]; exact (if_neg hx).symm
 have inC:∀ x∈L :: (ω.a++ω.b),x≠C:=fun x hx=>by rintro rfl; exact Lake.nn (S.okf x hx) kC
 have up:∀ y o,y≠C→ω.s.heap.get? y=some o→h'.get? y=some o:=fun y o hy e=>hs.extBut y o hy e
 have dC:=S.dis _ _ kC
 have kf':∀ x m,kf₀ x=some m→x≠C:=fun x m e=>by rintro rfl; exact Lake.nn hC0 e
 refine ⟨S.ns.sameBut hs (inC L (.head _)),fun y o e=>up y o (by rintro rfl; exact Lake.nn dC.2 e) (S.keep y o e),S.base,S.high,S.loc,S.nd,S.tT.keeps' fun y hy o e=>up y o (inC y (.tail _ (List.mem_append_left _ hy))) e,S.tW.keeps' fun y hy o e=>up y o (inC y (.tail _ (List.mem_append_right _ hy))) e,S.apart,S.out,fun y o e=>up y o (by rintro rfl; exact Lake.nn dC.1 e) (S.kk y o e),S.ok,?_,fun y hy=>(kne y (inC y hy)).trans (S.okf y hy),fun y m' e=>S.dis y m' ((kne y (kf' y m' e)).symm.trans e),S.dk⟩
 intro y m' e
 exact (S.nf y m' ((kne y (kf' y m' e)).symm.trans e)).sameBut hs (kf' y m' e)
theorem s_asgG {y:Str} {py spos:Pos} {rest:List Stmt} {Qf:Fl→St→Prop} {Ci f:Addr} {ii:Nat} {fd:FuncData} {iter:PySem.Expr} {scope:Scope} {s1:Stmt} {t1 t2 t3 e1 e2:PySem.Expr} {q1 q2 q3 y1 y2 z1 z2:Pos} (he:EnvOk env sc) (hk':(sc.names.lookup y==some .local)=true) (hsw:(py.line==pos.line&&!(scope.names.any fun (n,k)=>n==y&&(k==.local||k==.cell)))=true) (hset:notSetE iter=true) (hsc:compOk scope xt=true) (hd:(xt==("__debug__":Str))=false)
  (D:GD c f fd scg [s1,.While t1 [.While t2 [.Expr (.Yield (some e1) y1) z1] [] q2,.While t3 [.Expr (.Yield (some e2) y2) z2] [] q3] [] q1] xs)
  (hX:∀ h xi d,c.K.In h→h.get? xi=some ⟨.ref Ci,some d,.plain,#[]⟩→h.OwnSpecial xi Ci f "object" (Str.ofString "__iter__"))
  (hit:WE c (n+1) env iter (fun v σ₁=>v=.inst Ci ii∧∃ i,i.length=N∧N≤10000∧(∃ k,PJ i k σ₁.W)∧(∃ l,σ₁.W[e]?=some (.list l))∧∀ W',En W'→∃ l',PutL y (.lo σ₁.T.length) σ₁.loc l'∧WS c (n+1) env rest Qf X ⟨l',σ₁.T++[.list i],W'⟩) X σ)
  (B:∀ envg,EnvOk envg scg→EnvF envg→GW c n envg xs (.inst Ci ii) P1 P2 P2e P3e En e t1 t2 t3 e1 e2)
  (hJ:∀ i k W,i.length < N→(PJ i k W ↔ P2 i k W))
  (h1:∀ envg,EnvOk envg scg→EnvF envg→∀ i W,i.length=N→(∃ k,PJ i k W)→WS c n envg [s1] (fun fl σ=>fl=.next∧∃ W',σ=⟨[(xs,some (.inst Ci ii))],[],W'⟩∧∃ k,P1 i k W') (fun z9=>False) ⟨[(xs,some (.inst Ci ii))],[],W⟩) :
  WS c (n+1) env (.Assign [.Name y py] (.ListComp (.Name xt pe) [⟨.Name xt px,iter,[],0⟩] scope pos) spos :: rest) Qf X σ:=fun A ω hR hS=>by
 refine gC fun G0 hG0=>?_
 obtain ⟨hfree,hcell,hnames,hx,hkind⟩:=compOk.free hsc
 refine hG0 ?_
 have hsw2:swapsWith (.ListComp (.Name xt pe) [⟨.Name xt px,iter,[],0⟩] scope pos) (some (.Name y py)) spos.line env=pure true:=by
  show (pure (env.blockKind==.function&&env.kindOf y==some .local&&py.line==pos.line&&!(scope.names.any fun (n,k)=>n==y&&(k==.local||k==.cell))):Sem Bool)=pure true
  rw [show env.blockKind=.function by unfold Env.blockKind; rw [he.kind']; rfl,he.look hk',Bool.and_assoc,hsw]
  rfl
 refine s_cons hR ?_
 rw [exec_Assign_Name_used _ _ _ _ hsw2]
 refine wpAny_bind (wpAny_standAt (wpAny_bind ?_))
 show wpAny _ A (do let _ ← comprehension (.ListComp (.Name xt pe) [⟨.Name xt px,iter,[],0⟩] scope pos) scope env _ (newList []) false (eval iter env) (some (assign (.Name y py) env))) _ _ _
 refine wpAny_bind (wpAny_mono (wpAny_comprehension_use (Q:=fun z9 s'=>∃ σ' ω',Le ω ω'∧ω'.s=s'∧Sat c env.locals σ' ω'∧WS c (n+1) env rest Qf X σ') rfl (foldedPlain hset) hfree hkind hnames (wpAny_mono (hit A ω hR hS) ?_ fun z9 z9 x=>x)) (fun z9 s' hq=>wpAny_pure (wpAny_pure hq)) fun z9 z9 e=>e)
 refine Post.all fun rv v σ₁ ω₁ l₁ S₁ r hz=>?_
 obtain ⟨rfl,i,hiN,hN,⟨k,hP⟩,⟨el,hel⟩,fin⟩:=hz
 obtain ⟨xi,d,rfl,hbd,hgx⟩:=r.inv
 have KX:c.K.In ω₁.s.heap:=S₁.X
 have hR₁:Here c (n+1) env A ω₁.kf:=hR.le l₁
 obtain ⟨o,hl,hdt⟩:=D.look
 have hlim:ω₁.s.heap.NoLimit:=c.nl.keeps fun y o q=>S₁.keep y o (S₁.base y o q)
 refine pyIter_own (h:=ω₁.s.heap) (g:=ω₁.s.gens) (d:=ω₁.s.drawn) (t:=ω₁.s.toks) (os:=ω₁.s.os) (hX _ xi d KX (S₁.keep _ _ hgx)) (wpAny_call (codeAny_call_generator (hR₁.room.dl (k:=0) (Nat.zero_le _)) (KX _ _ hl) hdt (by rw [D.scope]; exact D.co) (by rw [D.scope]; exact D.gen) D.body (codeRec_of KX D.code) (D.bind _ _ _ _ _ _ ?_)))
 refine wpAny_newFunctionEnv (by rw [D.scope]; exact D.cell) (fun y hy=>by rw [List.mem_singleton.mp hy,D.scope]; exact D.self) (fun h₀ hns hsb=>⟨hlim.fresh _ hsb,⟨_,Heap.get?_push_size _ rfl,rfl⟩,?_⟩) (by rw [D.scope]; exact D.kind)
 generalize henv:newEnv fd.scope ω₁.s.heap.objs.size fd.globals fd.closure (fd.qualname++".<locals>.") (some f) fd.code none fd.builtins=envg
 have hloc:envg.locals=ω₁.s.heap.objs.size:=by rw [← henv]; rfl
 have heg:EnvOk envg scg:=⟨by rw [← henv]; exact D.scope,D.kind,by rw [← henv]; exact D.globals,by rw [← henv]; exact D.builtins⟩
 have hfg:EnvF envg:=by rw [← henv]; exact ⟨rfl,rfl⟩
 have hk:∀ b o,ω₁.s.heap.get? b=some o→h₀.get? b=some o:=fun b o e=>hsb.extBut b o (Nat.ne_of_lt (Heap.lt_size e)) (Heap.get?_push_of_some _ e)
 have hCs:ω₁.s.heap.objs.size < h₀.objs.size:=hns.lt
 refine wpAny_newObj_type (hd:=by size_fits) (wpAny_newFunctionEnv hcell (by intro y hy; simp at hy) (fun h₂ hns₂ hsb₂=>?_) hkind)
 have Sb:=(S₁.ext (h':=h₀.push (genObj ω₁.s.gens.size (.str fd.name (ω₁.s.toks+1)) (.str fd.qualname (ω₁.s.toks+1+1)))) (fun b o q=>Heap.get?_push_of_some _ (hk b o q)) 0).1.pushT (.list []) { cls:=.type "list",dict:=none,data:=.seq ([]:List Value).toArray } (.list .nil) rfl 0
 have Sc:=Sb.1.enter (x:=xt) hns₂ hsb₂ 0
 have hsz:c.h₀.objs.size≤ω₁.s.heap.objs.size:=Nat.le_trans S₁.above (Nat.le_of_lt S₁.ns.lt)
 have up:∀ b o,(h₀.push (genObj ω₁.s.gens.size (.str fd.name (ω₁.s.toks+1)) (.str fd.qualname (ω₁.s.toks+1+1)))).get? b=some o→h₂.get? b=some o:=fun b o q=>hsb₂.extBut b o (Nat.ne_of_lt (Nat.lt_trans (Heap.lt_size q) (Nat.lt_of_lt_of_eq (Nat.lt_succ_self _) (Heap.size_push ..).symm))) (Heap.get?_push_of_some _ (Heap.get?_push_of_some _ q))
 have gG:=up _ _ (Heap.get?_push_size _ rfl)
 have nC:=S₁.new (Nat.le_refl ω₁.s.heap.objs.size)
 have nG:=S₁.new (Nat.le_of_lt hCs)
 have kL:ω₁.kf env.locals=none:=S₁.okf _ (.head _)
 have z1:(h₀.push (genObj ω₁.s.gens.size (.str fd.name (ω₁.s.toks+1)) (.str fd.qualname (ω₁.s.toks+1+1)))).objs.size=h₀.objs.size+1:=Heap.size_push ..
 have z2:((h₀.push (genObj ω₁.s.gens.size (.str fd.name (ω₁.s.toks+1)) (.str fd.qualname (ω₁.s.toks+1+1)))).push { cls:=.type "list",dict:=none,data:=.seq ([]:List Value).toArray }).objs.size=h₀.objs.size+1+1:=(Heap.size_push ..).trans (congrArg (·+1) z1)
 have hDC:=Nat.ne_of_gt (Nat.lt_of_lt_of_eq (Nat.lt_succ_of_lt hCs) z1.symm)
 have hCc:=Nat.ne_of_gt (Nat.lt_of_lt_of_eq (Nat.lt_succ_of_lt (Nat.lt_succ_of_lt hCs)) z2.symm)
 have hDG:=Nat.ne_of_gt (Nat.lt_of_lt_of_eq (Nat.lt_succ_self _) z1.symm)
 have hCG:=Nat.ne_of_gt (Nat.lt_of_lt_of_eq (Nat.lt_succ_of_lt (Nat.lt_succ_self _)) z2.symm)
 have hDa:(ω₁.a++[(h₀.push (genObj ω₁.s.gens.size (.str fd.name (ω₁.s.toks+1)) (.str fd.qualname (ω₁.s.toks+1+1)))).objs.size])[σ₁.T.length]?=some (h₀.push (genObj ω₁.s.gens.size (.str fd.name (ω₁.s.toks+1)) (.str fd.qualname (ω₁.s.toks+1+1)))).objs.size:=by
  rw [← S₁.tT.1]; exact List.getElem?_concat_length
 have nCf:=(S₁.new (Nat.le_of_lt (Nat.lt_of_lt_of_eq (Nat.lt_succ_of_lt (Nat.lt_succ_of_lt hCs)) z2.symm))).f
 refine compStart_gen (g:=ω₁.s.gens.size) ⟨_,_,_,gG,rfl,rfl,rfl⟩ (compG (n:=n+1) (ω₁:=Sc.w) (C:=ω₁.s.heap.objs.size) (T₀:=σ₁.T) (i₀:=i) ?he hx hd ?hR ?hL ?h1 ?h2 (hiN▸hN) ?hD ?fin N (mkLG D B hJ h1 ?hR' Sc (xi:=xi) ?hrel hiN ?hQ (k:=k) ?hP (el:=el) ?hel heg hfg hloc ?nC ?nG (Nat.ne_of_lt hCs) hsz ?hou (fun z9 z9 q=>q) ?hns gG rfl rfl rfl))
 case he=>exact ⟨rfl,hkind,he.globals,he.builtins⟩
 case hR=>exact hR₁.comp
 case hR'=>exact hR₁.comp
 case h1=>exact nG.k
 case hrel=>exact r.noLo rfl
 case hQ=>exact ⟨[],rfl,rfl,rfl⟩
 case hP=>exact hP
 case hel=>exact hel
 case hns=>exact (hns.push _).keeps up
 case hL=>exact hCc
 case h2=>exact (if_neg fun h=>nC.h _ (.head _) h.symm).trans nC.f
 case hD=>exact hDa
 case nC=>exact nC.enter hDC hCc
 case nG=>exact nG.enter hDG hCG
 case hou =>
  obtain ⟨outer,hfr,hou⟩:=hR₁.fm
  rw [hfr]
  intro e' q z
  obtain ⟨a1,L',a2,a3,a4⟩:=hou e' q
  rw [a2] at z
  cases z
  rcases a4 with a4 | ⟨m,a4⟩
  ·exact nC.h _ (.head _) a4.symm
  ·rw [nC.f] at a4; cases a4
 case fin =>
  intro W' ω' hE l S
  have sub:Sub ω₁.g ω'.g ω₁.a ω'.a ω₁.b ω'.b:=subA.trans l.sub
  have S₅:=S.swap (L:=env.locals) (m₀:=ω₁.m) (kf₀:=ω₁.kf) (loc₀:=σ₁.loc) l.kf kL S₁.above (fun y v m=>(S₁.loc y v m).imp fun rv q=>⟨q.1,q.2.mono sub⟩) S₁.nd
  obtain ⟨l',p,hW⟩:=fin W' hE
  refine assign_Name (storeV he hk' S₅ (.lo (l.sub.ha _ _ hDa)) p fun ω6 l6 S6=>?_)
  have ek:ω6.kf=_:=l6.kf
  refine ⟨ω'.m,S6.nf _ _ (by rw [ek]; exact if_pos rfl),fun h' hs'=>?_⟩
  have S7:=S6.dropF ek nCf hs'
  have L5:Le ω₁ { ω' with m:=ω₁.m,kf:=ω₁.kf }:=⟨sub,l.gens,l.drawn,l.os,l.k,rfl⟩
  have L6:Le { ω' with m:=ω₁.m,kf:=ω₁.kf } { ω6 with s:={ ω6.s with heap:=h' },kf:=ω₁.kf }:=⟨l6.sub,l6.gens,l6.drawn,l6.os,l6.k,rfl⟩
  exact ⟨_,_,l₁.trans (L5.trans L6),rfl,S7,hW⟩
end
end HL.Lake
end
noncomputable section
namespace HL.Lake
open PySem PySem.W PySem.Calls PyProof.Rows
section
variable {c:Cx} {n:Nat} {sc:Scope} {τ:TblD} {κ:Ct c sc τ} {l:Loc} {T W:List AO} {ks:List Fr} {rest:List Stmt} {pos:Pos}
theorem pe_walk {e:PySem.Expr} {v:V} (h:∀ κ':Ct c sc τ,κ'.Q (.ret v) ⟨l,T,W⟩→Vd n κ' (.ev e [.ret] l T W)):PE c n κ.env e v κ.X ⟨l,T,W⟩:=fun Q q=>h ⟨κ.env,κ.he,κ.ok,κ.X,fun fl σ=>match fl with | .ret v=>Q v σ | _=>True⟩ q
theorem vassub {o i value:PySem.Expr} {p':Pos} {ov iv v:V} (hc:notComp value=true) (h1:PE c n κ.env value v κ.X ⟨l,T,W⟩) (h2:PE c n κ.env o ov κ.X ⟨l,T,W⟩) (h3:PE c n κ.env i iv κ.X ⟨l,T,W⟩) (h:SI c n κ.env ov iv v (fun z9 σ=>Ex n κ rest σ) κ.X ⟨l,T,W⟩):Vd n κ (.ex (.Assign [.Subscript o i p'] value pos :: rest) l T W):=s_assign_sub hc (h1 _ (h2 _ (h3 _ h)))
theorem vsi_dict {j:Nat} {xs xs':List (Str×V)} {x:Str} {v:V} (hW:W[j]?=some (.dict xs)) (hp:Put x v xs xs') (hz:decide (xs.length≤1000)=true) (hv:v.noLo=true) (q:Vd n κ (.ex rest l T (W.set j (.dict xs')))):SI c n κ.env (.ob j) (.str x) v (fun z9 σ=>Ex n κ rest σ) κ.X ⟨l,T,W⟩:=si_dict (σ:=⟨l,T,W⟩) hW hp hz hv q
theorem vsi_list {j:Nat} {xs:List V} {k:Int} {v:V} (hW:W[j]?=some (.list xs)) (h0:0≤k) (hn:k < xs.length) (hz:xs.length≤10000) (hv:v.noLo=true) (q:Vd n κ (.ex rest l T (W.set j (.list (xs.set k.toNat v))))):SI c n κ.env (.ob j) (.int k) v (fun z9 σ=>Ex n κ rest σ) κ.X ⟨l,T,W⟩:=si_list (.ob hW) h0 hn hz hv q
theorem vdict1 {v p:V} {x:Str} {u:V} (h1:IsLV ⟨l,T,W⟩ v [p]) (h2:IsLV ⟨l,T,W⟩ p [.str x,u]) (q:Vd n κ (.rt (.dict [(x,u)]) ks l T W)):Vd n κ (.cl (.st (.type "dict")) [v] ks l T W):=cv_dict1 h1 h2 q
theorem vlen_dict {v:V} {xs:List (Str×V)} (k:IsDV ⟨l,T,W⟩ v xs) (hz:xs.length≤10000) (q:Vd n κ (.rt (.int xs.length) ks l T W)):Vd n κ (.cl (.st (.builtin "len")) [v] ks l T W):=cv_len_dict k hz q
theorem visnot {p b:Bool} (q:Vd n κ (.rt (.bool (p != b)) ks l T W)):Vd n κ (.rt (.bool b) (.cmp .IsNot (.bool p) :: ks) l T W):=kv_isnot_bool q
theorem vmin {a b:Int} (q:Vd n κ (.rt (.int (if b < a then b else a)) ks l T W)):Vd n κ (.cl (.st (.builtin "min")) [.int a,.int b] ks l T W):=cv_min q
theorem vrange1 {target a:PySem.Expr} {np p:Pos} {body:List Stmt} {v:Value} {j:Int} (N:Nat) (hk:(sc.names.lookup (Str.ofString "range")==some NameKind.globalImplicit)=true) (m:(Str.ofString "range",v)∈τ.bi) (hs:noStars [a]=true) (ha:PE c n κ.env a (.int j) κ.X ⟨l,T,W⟩)
  (h1:Builtin.Range.small 0 j 1=true) (h2:Builtin.Range.rangeSize 0 j 1=N) (h:forP n κ (rngI 0 N) target body rest ⟨l,T,W⟩):Vd n κ (.ex (.For target (.Call (.Name (Str.ofString "range") np) [a] [] p) body [] pos :: rest) l T W) :=
 s_for rfl (wi_range1 κ.he hk (κ.ok.bi _ m).1 hs (ha _ ⟨j,N,rfl,h1,h2,h⟩))
theorem vne_lo2 {i:Nat} {xs zs:List V} (h1:T[i]?=some (.list xs)) (e1:xs.map (reV W)=zs) (hp':V.pureL zs=true) (hd:V.depL zs < 20) (q:Vd n κ (.rt (.bool false) ks l T W)):Vd n κ (.rt (.list zs) (.cmp .NotEq (.lo i) :: ks) l T W):=kv_ne_lo2 (σ:=⟨l,T,W⟩) h1 e1 hp' hd q
theorem vmethK {o e1 e2:PySem.Expr} {x k1 k2:Str} {apos p1 p2:Pos} {v v1 v2:V} {f:Addr} {P:V→List AO→Prop} {k:Nat} (hn:notSuper o=true) (hp:(apos.endLine==pos.line)=true) (ho:PE c n κ.env o v κ.X ⟨l,T,W⟩) (hg:∀ Q:V→List V→St→Prop,Q (.st (.ref f)) [v] ⟨l,T,W⟩→GM c n κ.env x v Q κ.X ⟨l,T,W⟩) (hkp:τ.kp.contains f=true)
  (h1:PE c n κ.env e1 v1 κ.X ⟨l,T,W⟩) (h2:PE c n κ.env e2 v2 κ.X ⟨l,T,W⟩) (nv:V.noLoL [v]=true) (n1:v1.noLo=true) (n2:v2.noLo=true)
  (h:CallS c k (.ref f) [v] [(k1,v1),(k2,v2)] P (fun z9=>False) W) (hk:Nat.ble k n=true) (q:∀ v W',P v W'→Vd n κ (.rt v ks l T W')):Vd n κ (.ev (.Call (.Attribute o x apos) [] [⟨some k1,e1,p1⟩,⟨some k2,e2,p2⟩] pos) ks l T W) :=
 e_methK hn hp ho hg (κ.ok.kp _ (List.contains_iff_mem.mp hkp)).1 h1 h2 nv n1 n2 ((h.up (Nat.le_of_ble_eq_true hk)).mono (fun v W' z=>q v W' z) fun z9 z=>z.elim)
theorem vcompno2 {elt iter t:PySem.Expr} {x:Str} {px:Pos} {scope:Scope} {i:Nat} {xs zs:List V} (hset:notSetE iter=true) (hsc:compOk scope x=true) (hi:PE c n κ.env iter (.lo i) κ.X ⟨l,T,W⟩) (hT:T[i]?=some (.list xs)) (hre:xs.map (reV W)=zs) (hp:V.pureL zs=true) (hz:zs.length≤10000)
  (turn:∀ κ':Ct c scope τ,∀ u∈zs,(∀ l,κ'.Q (.ret (.bool false)) ⟨l,[],[]⟩)→Vd n κ' (.te t [.ret] [(x,some u)] [] []))
  (q:Vd n κ (.rt (.list []) ks l T W)):Vd n κ (.ev (.ListComp elt [⟨.Name x px,iter,[t],0⟩] scope pos) ks l T W) :=
 e_comp_no2 κ.he hset hsc (hi _ ⟨i,xs,zs,rfl,hT,hre,hp,hz,fun cenv hc u hu=>wf_one (turn ⟨cenv,hc,κ.ok,fun z9=>False,fun fl σ=>match fl with | .ret v=>v=.bool false∧σ.T=[]∧σ.W=[] | _=>False⟩ u hu (fun z9=>⟨rfl,rfl,rfl⟩) |>.mono (fun b σ h=>⟨V.bool.inj h.1,h.2⟩) fun z9 h=>h),q⟩)
theorem vcompP {elt iter:PySem.Expr} {x:Str} {px:Pos} {scope:Scope} {v:V} {items:List V} (f:V→V) (hset:notSetE iter=true) (hsc:compOk scope x=true) (hi:PE c n κ.env iter v κ.X ⟨l,T,W⟩) (hv:ItemsOf v items) (hz:items.length≤10000)
  (he:∀ κ':Ct c scope τ,∀ u∈items,(∀ l,κ'.Q (.ret (f u)) ⟨l,T,W⟩)→Vd n κ' (.ev elt [.ret] [(x,some u)] T W))
  (q:Vd n κ (.rt (.list (items.map f)) ks l T W)):Vd n κ (.ev (.ListComp elt [⟨.Name x px,iter,[],0⟩] scope pos) ks l T W):=by
 refine e_comp κ.he hset hsc (wi_plain (hi _ ⟨items,hv,hz,fun i ys W'=>ys=(items.take i).map f∧W'=W,⟨rfl,rfl⟩,fun cenv hc i ys W' u hu hJ=>?_,fun ys W' hJ=>?_⟩))
 ·obtain ⟨rfl,rfl⟩:=hJ
  refine wf_nil (he ⟨cenv,hc,κ.ok,fun z9=>False,fun fl σ=>match fl with | .ret v=>σ.T=T∧((items.take i).map f++[v]=(items.take (i+1)).map f∧σ.W=W') | _=>True⟩ u (List.mem_of_getElem? hu) fun z9=>⟨rfl,?_,rfl⟩)
  rw [List.take_add_one,hu,List.map_append]; rfl
 ·obtain ⟨rfl,rfl⟩:=hJ
  rw [List.take_of_length_le (Nat.le_refl _)]
  exact q
theorem veq_tup2 {a b a' b':Int} (ha:a=a') (hb:b=b') (q:Vd n κ (.rt (.bool true) ks l T W)):Vd n κ (.rt (.tup [.int a',.int b']) (.cmp .Eq (.tup [.int a,.int b]) :: ks) l T W):=kv_eq_tup2 ha hb q
theorem vlaw {body:List Stmt} {os:List Str} {bs:List (Str×V)} (ok:Tbl c τ) (h:∀ κ:Ct c sc τ,EnvF κ.env→(∀ l T W,κ.Q (.ret (.bool true)) ⟨l,T,W⟩)→Vd n κ (.ex body (locs os bs) [] [])) (env:Env) (he:EnvOk env sc) (hf:EnvF env):WS c n env body (fun fl z9=>fl=.ret (.bool true)) (fun z9=>False) ⟨loc0 bs os,[],[]⟩ :=
 locs_eq▸h ⟨env,he,ok,fun z9=>False,fun fl z9=>fl=.ret (.bool true)⟩ hf fun z9 z9 z9=>rfl
theorem bdk2 {H:Frag} {fd:FuncData} {D:Addr} {xs:List Value} {v1 v2 v3:V} {x1 x2 x3:Str} {k:Value→Value→Value→Option (Array Value)→Sem (List (Str×Value))} (hK:c.K=H) (hd:fd.defaults=.ref D) (ho:seqIn H "tuple" D=some xs) (hk:∀ a b d,bindArgs fd ⟨[a],[(x2,b),(x3,d)]⟩=seqItems? fd.defaults >>= k a b d) (h:∀ a b d,k a b d (some xs.toArray)=pure [(x1,a),(x2,b),(x3,d)]):Binds c fd [v1] [(x2,v2),(x3,v3)] [(x1,v1),(x2,v2),(x3,v3)]:=fun s g b rvs rkw X hg hv hkw=>by
 obtain ⟨r1,rfl,q1⟩:=hv.one
 obtain ⟨⟨_,y⟩,t,rfl,⟨rfl,hy⟩,ht⟩:=(hkw:∃ y t,rkw=y :: t∧(x2=y.1∧Rel c.w.params g [] b v2 y.2)∧RelKw c.w.params g [] b [(x3,v3)] t)
 obtain ⟨⟨_,z⟩,t,rfl,⟨rfl,hz⟩,ht⟩:=(ht:∃ y t',t=y :: t'∧(x3=y.1∧Rel c.w.params g [] b v3 y.2)∧RelKw c.w.params g [] b [] t')
 obtain rfl:=(ht:t=[])
 exact ⟨_,binds_D X hd (hK▸ho) (hk r1 y z) (h r1 y z),.cons ⟨rfl,q1⟩ (.cons ⟨rfl,hy⟩ (.cons ⟨rfl,hz⟩ .nil))⟩
end
end HL.Lake
end
set_option tactic.hygienic true
noncomputable section
open PySem PySem.W PyProof.Rows
namespace HL.Lake
section
local macro_rules | `(tactic| o_head $_H)=>`(tactic| assumption)
set_option Elab.async false in
set_option maxHeartbeats 0 in
theorem top (h:PySem.Challenge.rw_te0035_04.row.Holds):PySem.Challenge.rw_te0035_04.row.Holds:=by k_head
end
end HL.Lake
end
set_option tactic.hygienic false
noncomputable section
namespace HL.Lake
open PySem PySem.W PySem.Calls PyProof.Rows
noncomputable def spaceCharactersL:List Nat:=[9,10,12,32,13]
noncomputable def asciiLettersL:List Nat:=[97,98,99,100,101,102,103,104,105,106,107,108,109,110,111,112,113,114,115,116,117,118,119,120,121,122,65,66,67,68,69,70,71,72,73,74,75,76,77,78,79,80,81,82,83,84,85,86,87,88,89,90]
noncomputable def digitsL:List Nat:=[48,49,50,51,52,53,54,55,56,57]
noncomputable def hexDigitsL:List Nat:=[48,49,50,51,52,53,54,55,56,57,97,98,99,100,101,102,65,66,67,68,69,70]
noncomputable def oldL:List Nat:=[8364,129,8218,402,8222,8230,8224,8225,710,8240,352,8249,338,141,381,143,144,8216,8217,8220,8221,8226,8211,8212,732,8482,353,8250,339,157,382,376]
noncomputable def smallL:List Nat:=[48,49,50,51,52,53,54,55,56,57,97,98,99,100,101,102]
noncomputable def largeL:List Nat:=[48,49,50,51,52,53,54,55,56,57,65,66,67,68,69,70]
noncomputable def tup1 (l:List Nat):V:=.tup (l.map fun k=>.str ⟨#[k]⟩)
noncomputable def gl1:List (Str×V×Value):=[(Str.ofString "EOF",.none,.none),(Str.ofString "spaceCharacters",tup1 spaceCharactersL,.ref 22),(Str.ofString "asciiLetters",tup1 asciiLettersL,.ref 27),(Str.ofString "digits",tup1 digitsL,.ref 32),(Str.ofString "hexDigits",tup1 hexDigitsL,.ref 37),(Str.ofString "tagTokenTypes",.tup [.int 3,.int 4,.int 5],.ref 49),
 (Str.ofString "Text",.st (.ref 73),.ref 73),(Str.ofString "_is_invalid",.st (.ref 84),.ref 84),(Str.ofString "HTMLUnicodeInputStream",.st (.ref 166),.ref 166),(Str.ofString "HTMLTokenizer",.st (.ref 762),.ref 762),(Str.ofString "asciiLower",.st (.ref 42),.ref 42),(Str.ofString "_law_FLOORS",.st (.ref 773),.ref 773),(Str.ofString "_law_BEHIND",.st (.ref 780),.ref 780),(Str.ofString "_law_drawn",.st (.ref 787),.ref 787),(Str.ofString "_law_written",.st (.ref 794),.ref 794),(Str.ofString "_law_sign",.st (.ref 801),.ref 801),(Str.ofString "_law_token",.st (.ref 808),.ref 808),(Str.ofString "_law_end",.st (.ref 815),.ref 815),(Str.ofString "replacementCharacters",.st (.ref 46),.ref 46),
 (Str.ofString "_law_OLD",.str ⟨oldL.toArray⟩,.str ⟨oldL.toArray⟩ 1462),(Str.ofString "_law_SMALL",.str ⟨smallL.toArray⟩,.str ⟨smallL.toArray⟩ 1446),(Str.ofString "_law_LARGE",.str ⟨largeL.toArray⟩,.str ⟨largeL.toArray⟩ 1448)]
noncomputable def bi1:List (Str×Value):=[(Str.ofString "len",.builtin "len"),(Str.ofString "ord",.builtin "ord"),(Str.ofString "chr",.builtin "chr"),(Str.ofString "max",.builtin "max"),(Str.ofString "min",.builtin "min"),(Str.ofString "isinstance",.builtin "isinstance"),(Str.ofString "int",.type "int"),(Str.ofString "bool",.type "bool"),(Str.ofString "range",.type "range"),(Str.ofString "dict",.type "dict")]
noncomputable def attrsS:List String:=["reportCharacterErrors","newLines","dataStream","chunk","chunkSize","chunkOffset","errors","prevNumLines","prevNumCols","_bufferedCharacter"]
noncomputable def attrsT:List String:=["stream","parser","escapeFlag","lastFourChars","state","escape","currentToken","tokenQueue"]
noncomputable def own1:List (Addr×Str):=[(73,Str.ofString "text"),(73,Str.ofString "place")]++attrsS.map (fun s=>(166,Str.ofString s))++attrsT.map (fun s=>(762,Str.ofString s))
noncomputable def mt1:List (Addr×Str×Addr):=[(73,Str.ofString "read",70),(166,Str.ofString "reset",105),(166,Str.ofString "openStream",112),(166,Str.ofString "_position",119),(166,Str.ofString "position",126),(166,Str.ofString "char",133),(166,Str.ofString "readChunk",141),(166,Str.ofString "characterErrorsUCS4",148),(166,Str.ofString "charsUntil",156),(166,Str.ofString "unget",163),(762,Str.ofString "consumeNumberEntity",275),(762,Str.ofString "consumeEntity",283),(762,Str.ofString "processEntityInAttribute",290),(762,Str.ofString "emitCurrentToken",297),(762,Str.ofString "dataState",304),(762,Str.ofString "entityDataState",311),(762,Str.ofString "tagOpenState",353),(762,Str.ofString "tagNameState",367),(762,Str.ofString "beforeAttributeNameState",535),(762,Str.ofString "attributeNameState",542),(762,Str.ofString "beforeAttributeValueState",556),(762,Str.ofString "attributeValueDoubleQuotedState",563),(762,Str.ofString "afterAttributeValueState",584)]
noncomputable def kp1:List Addr:=[42,70,84,105,112,119,126,133,141,148,156,163,275,283,290,297,304,311,353,367,535,542,556,563,584,773,780,787,794,801,808,815]
theorem tst1 (P:Params):gl1.all (glB (top.heap_1 P))=true:=by kernel_rfl
theorem tst2 (P:Params):bi1.all (biB (top.heap_1 P))=true:=by kernel_rfl
theorem tst3 (P:Params):own1.all (ownB (top.heap_1 P))=true:=by kernel_rfl
theorem tst4 (P:Params):own1.all (stB (top.heap_1 P))=true:=by kernel_rfl
theorem tst5 (P:Params):own1.all (fun p=>ownB (top.heap_1 P) p&&findIn (top.heap_1 P) (.ref p.1) p.2==some none)=true:=by kernel_rfl
theorem tst6 (P:Params):mt1.all (mtB (top.heap_1 P))=true:=by kernel_rfl
theorem tst7 (P:Params):kp1.all (fun a=>keepIn (top.heap_1 P) (.ref a)&&fnIn (top.heap_1 P) a)=true:=by kernel_rfl
theorem tst8 (P:Params):[73,166,762].all (fun a=>keepIn (top.heap_1 P) (.ref a))=true:=by kernel_rfl
end HL.Lake
end
noncomputable section
namespace HL.Lake
open PySem PySem.W PySem.Calls PyProof.Rows
noncomputable def tokTab:List (Str×Nat×V×Nat):=[(Str.ofString "Doctype",532,.int 0,533),(Str.ofString "Characters",534,.int 1,535),(Str.ofString "SpaceCharacters",536,.int 2,537),(Str.ofString "StartTag",538,.int 3,539),(Str.ofString "EndTag",540,.int 4,541),(Str.ofString "EmptyTag",542,.int 5,543),(Str.ofString "Comment",544,.int 6,545),(Str.ofString "ParseError",546,.int 7,547)]
noncomputable abbrev tokL:List (Str×V):=tabL tokTab
noncomputable def repTab:List (Int×Nat×Str×Nat):=[(0,429,⟨#[65533]⟩,430),(13,432,⟨#[13]⟩,433),(128,435,⟨#[8364]⟩,436),(129,438,⟨#[129]⟩,439),(130,441,⟨#[8218]⟩,442),(131,444,⟨#[402]⟩,445),(132,447,⟨#[8222]⟩,448),(133,450,⟨#[8230]⟩,451),(134,453,⟨#[8224]⟩,454),(135,456,⟨#[8225]⟩,457),(136,459,⟨#[710]⟩,460),(137,462,⟨#[8240]⟩,463),(138,465,⟨#[352]⟩,466),(139,468,⟨#[8249]⟩,469),(140,471,⟨#[338]⟩,472),(141,474,⟨#[141]⟩,475),(142,477,⟨#[381]⟩,478),(143,480,⟨#[143]⟩,481),(144,483,⟨#[144]⟩,484),(145,486,⟨#[8216]⟩,487),(146,489,⟨#[8217]⟩,490),(147,492,⟨#[8220]⟩,493),(148,495,⟨#[8221]⟩,496),(149,498,⟨#[8226]⟩,499),(150,501,⟨#[8211]⟩,502),(151,504,⟨#[8212]⟩,505),(152,507,⟨#[732]⟩,508),(153,510,⟨#[8482]⟩,511),(154,513,⟨#[353]⟩,514),(155,516,⟨#[8250]⟩,517),(156,519,⟨#[339]⟩,520),(157,522,⟨#[157]⟩,523),(158,525,⟨#[382]⟩,526),(159,528,⟨#[376]⟩,529)]
section
variable {c:Cx} (hK:c.K=top.heap_1 c.w.params)
include hK
theorem st_tokens:Stat c (.dict tokL) (.ref 48):=Stat.tab (k:=8) (by rw [hK]; kernel_rfl) (by decide) rfl (nodupB_iff (by kernel_rfl))
end
noncomputable def τ1:TblD:={ gl:=(Str.ofString "tokenTypes",.dict tokL) :: gl1.map (fun p=>(p.1,p.2.1)),bi:=bi1,own:=own1,ow2:=own1,st:=own1,mt:=mt1,ca:=[(166,Str.ofString "_defaultChunkSize",.int 10240)],sa:=[],sm:=[],kp:=kp1,kc:=[73,166,762],pol:=[(107,13,1),(207,20,1),(234,20,1),(42,22,2),(194,26,2),(349,32,2),(349,87,2),(476,45,2),(1228,13,1),(1229,14,1),(1236,14,1)] }
theorem ok1 {c:Cx} (hK:c.K=top.heap_1 c.w.params):Tbl c τ1 :=
 ⟨List.forall_mem_cons.mpr ⟨⟨.ref 48,by rw [hK]; kernel_rfl,st_tokens hK⟩,all_gl (by rw [hK]; exact tst1 _)⟩,all_bi (by rw [hK]; exact tst2 _),all_own (by rw [hK]; exact tst3 _),all_ow2 (by rw [hK]; exact tst5 _),all_st (by rw [hK]; exact tst4 _),all_mt (by rw [hK]; exact tst6 _),fun p hp n env Q X σ i l hW hx q=>by
  obtain rfl:=List.mem_singleton.mp hp
  refine ga_cls (v:=.int 10240) (rv:=?rv) (l:=l) ?h1 ?h2 ?h3 ?h4 ?h5 ?h6 ?h7 hW ?h8 ?_
  case h1=>rw [hK]; kernel_rfl
  case h2=>rw [hK]; kernel_rfl
  case h3=>rw [hK]; exact rfl
  case h4=>rw [hK]; kernel_rfl
  case h5=>kernel_rfl
  case h6=>kernel_rfl
  case h7=>exact Stat.of rfl
  case h8=>exact hx
  exact q,(fun z9 h=>by cases h),(fun z9 h=>by cases h),all_kp (by rw [hK]; exact tst7 _),all_kc (by rw [hK]; exact tst8 _)⟩
end HL.Lake
end
noncomputable section
namespace HL.Lake
open PySem PySem.W PySem.Calls PyProof.Rows
noncomputable abbrev textD (x:Str) (p:Int):AO:=.dict [(Str.ofString "text",.str x),(Str.ofString "place",.int p)]
theorem c_Text_init (c:Cx) (hK:c.K=top.heap_1 c.w.params) {o0 o1:AO} (x:Str):CallD c 1 63 [.inst 73 2,.str x] [o0,o1,.dict []] .none [o0,o1,textD x 0]:=by
 refine cgo (bs:=[(Str.ofString "self",.inst 73 2),(Str.ofString "text",.str x)]) (others:=[]) hK (ok1 hK) rfl rfl rfl (by kernel_rfl) (by kernel_rfl) (binds2 (fun s X a b=>BindsTo.of_eq rfl) .nil) ?_
 intro κ hf hQ hN hX
 refine go0 6 (m':=.ex _ _ _ _) rfl rfl ?_
 exact vend (hN _ _ _ ⟨rfl,rfl⟩)
theorem c_Text_read (c:Cx) (hK:c.K=top.heap_1 c.w.params) {o0 o1:AO} {R:List AO} {x:Str} {p:Nat} (hx:x.length≤10000) (k:Int) :
  CallD c 1 70 [.inst 73 2,.int k] (o0 :: o1 :: textD x p :: R) (.str (slS x (some (p:Int)) (some ((p:Int)+k)))) (o0 :: o1 :: textD x (p+(slS x (some (p:Int)) (some ((p:Int)+k))).length) :: R):=by
 refine cgo (bs:=[(Str.ofString "self",.inst 73 2),(Str.ofString "size",.int k)]) (others:=[Str.ofString "part"]) hK (ok1 hK) rfl rfl rfl (by kernel_rfl) (by kernel_rfl) (binds2 (fun s X a b=>BindsTo.of_eq rfl) .nil) ?_
 intro κ hf hQ hN hX
 refine go2 15 (m':=.rt _ _ _ _ _) rfl rfl ?_ ?_ ?_
 ·exact hx
 ·exact slS_le hx
 ·exact hQ _ _ _ _ _ (.same rfl) ⟨rfl,rfl⟩
noncomputable abbrev strD (ch:Str) (sz off pl pc:Int):AO:=.dict [(Str.ofString "reportCharacterErrors",.meth (.ref 148) (.inst 166 1)),(Str.ofString "newLines",.list [.int 0]),(Str.ofString "dataStream",.inst 73 2),(Str.ofString "chunk",.str ch),(Str.ofString "chunkSize",.int sz),(Str.ofString "chunkOffset",.int off),(Str.ofString "errors",.ob 3),(Str.ofString "prevNumLines",.int pl),(Str.ofString "prevNumCols",.int pc),(Str.ofString "_bufferedCharacter",.none)]
noncomputable def lineOf (pl:Int) (ch:Str) (off:Nat):Int:=pl+cntIn 10 (ch.cps.toList.take off)
noncomputable def colOf (pc:Int) (ch:Str) (off:Nat):Int:=match lastIn 10 (ch.cps.toList.take off) with | some k=>off - (k+1) | none=>pc+off
theorem c_pos (c:Cx) (hK:c.K=top.heap_1 c.w.params) {o0:AO} {R:List AO} {ch:Str} {sz o pl pc:Int} {off:Nat} (ho:off≤ch.length) (hc:ch.length≤10000) :
  CallD c 1 119 [.inst 166 1,.int off] (o0 :: strD ch sz o pl pc :: R) (.tup [.int (lineOf pl ch off),.int (colOf pc ch off)]) (o0 :: strD ch sz o pl pc :: R):=by
 refine cgo (bs:=[(Str.ofString "self",.inst 166 1),(Str.ofString "offset",.int off)]) (others:=[Str.ofString "chunk",Str.ofString "nLines",Str.ofString "positionLine",Str.ofString "lastLinePos",Str.ofString "positionColumn"]) hK (ok1 hK) rfl rfl rfl (by kernel_rfl) (by kernel_rfl) (binds2 (fun s X a b=>BindsTo.of_eq rfl) .nil) ?_
 intro κ hf hQ hN hX
 have h10:Str.ofString "\n"=⟨#[10]⟩:=by kernel_rfl
 have h1:Str.ofString "\n"=⟨#[10]⟩∧(0:Int)=0∧(0:Int)≤off∧(off:Int)≤ch.length:=⟨h10,rfl,Int.natCast_nonneg _,Int.ofNat_le.mpr ho⟩
 refine go2 40 (m':=.rt _ _ _ _ _) rfl rfl ?_ ?_ ?_
 ·exact h1
 ·exact h1
 ·cases hl:lastIn 10 (List.take (off:Int).toNat ch.cps.toList) with
  | none =>
   refine go0 6 (m':=.rt _ _ _ _ _) rfl rfl ?_
   refine hQ _ _ _ _ _ (.same rfl) ⟨?_,rfl⟩
   unfold lineOf colOf
   rw [show (off:Int).toNat=off from rfl] at *
   rw [hl]
  | some k =>
   refine vb (b':=false) (show ((k:Int)==-1)=false from beq_false_of_ne (Int.ne_of_gt (Int.lt_of_lt_of_le (by decide) (Int.natCast_nonneg k)))) ?_
   refine go0 6 (m':=.rt _ _ _ _ _) rfl rfl ?_
   refine hQ _ _ _ _ _ (.same rfl) ⟨?_,rfl⟩
   unfold lineOf colOf
   rw [show (off:Int).toNat=off from rfl] at *
   rw [hl]
end HL.Lake
end
noncomputable section
namespace HL.Lake
open PySem PySem.W PySem.Calls PyProof.Rows
noncomputable def invalidB (k:Int):Bool:=(decide (1≤k)&&decide (k≤8))||(k==11||((decide (14≤k)&&decide (k≤31))||((decide (127≤k)&&decide (k≤159))||((decide (64976≤k)&&decide (k≤65007))||((([V.int 65534,V.int 65535]:List V).any fun y=>vf y (.int (k.fmod 65536)))||(decide (55296≤k)&&decide (k≤57343)))))))
theorem c_is_invalid (c:Cx) (hK:c.K=top.heap_1 c.w.params) (k:Int) (W:List AO):CallD c 1 84 [.int k] W (.bool (invalidB k)) W:=by
 refine cgo (bs:=[(Str.ofString "codepoint",.int k)]) (others:=[]) hK (ok1 hK) rfl rfl rfl (by kernel_rfl) (by kernel_rfl) (binds1 (fun s X a=>BindsTo.of_eq rfl) .nil) ?_
 intro κ hf hQ hN hX
 refine go1 2 (m':=.rt _ _ _ _ _) rfl rfl ?_ ?_
 ·decide
 ·exact hQ _ _ _ _ _ (.same rfl) ⟨rfl,rfl⟩
theorem c_position (c:Cx) (hK:c.K=top.heap_1 c.w.params) {o0:AO} {R:List AO} {ch:Str} {sz pl pc:Int} {off:Nat} (ho:off≤ch.length) (hc:ch.length≤10000) :
  CallD c 2 126 [.inst 166 1] (o0 :: strD ch sz off pl pc :: R) (.tup [.int (lineOf pl ch off+1),.int (colOf pc ch off)]) (o0 :: strD ch sz off pl pc :: R):=by
 refine cgo (bs:=[(Str.ofString "self",.inst 166 1)]) (others:=[Str.ofString "line",Str.ofString "col"]) hK (ok1 hK) rfl rfl rfl (by kernel_rfl) (by kernel_rfl) (binds1 (fun s X a=>BindsTo.of_eq rfl) .nil) ?_
 intro κ hf hQ hN hX
 refine go0 8 (m':=.cl _ _ _ _ _ _) rfl rfl ?_
 refine vcallD (c_pos c hK ho hc) rfl rfl ?_
 refine go0 6 (m':=.rt _ _ _ _ _) rfl rfl ?_
 exact hQ _ _ _ _ _ (.same rfl) ⟨rfl,rfl⟩
noncomputable def invN (x:List Nat):Nat:=(x.filter fun k:Nat=>invalidB (k:Int)).length
noncomputable def badV (m:Nat):List V:=List.replicate m (.str (Str.ofString "invalid-codepoint"))
theorem invN_le (x:List Nat):invN x≤x.length:=List.length_filter_le ..
theorem invN_snoc (x:List Nat) (a:Nat):invN (x++[a])=invN x+if invalidB a then 1 else 0:=by
 unfold invN
 rw [List.filter_append,List.length_append]
 cases h:invalidB (a:Int) <;> simp [h]
theorem badV_len (m:Nat):(badV m).length=m:=List.length_replicate
theorem badV_snoc (m:Nat):badV m++[.str (Str.ofString "invalid-codepoint")]=badV (m+1):=List.replicate_succ'.symm
theorem c_errors (c:Cx) (hK:c.K=top.heap_1 c.w.params) {o0 t:AO} {R:List AO} {ch:Str} {sz o pl pc:Int} {es:List V} (x:Str) (hz:es.length+x.length≤10000) :
  CallD c 2 148 [.inst 166 1,.str x] (o0 :: strD ch sz o pl pc :: t :: .list es :: R) .none (o0 :: strD ch sz o pl pc :: t :: .list (es++badV (invN x.cps.toList)) :: R):=by
 refine cgo (bs:=[(Str.ofString "self",.inst 166 1),(Str.ofString "data",.str x)]) (others:=[Str.ofString "c"]) hK (ok1 hK) rfl rfl rfl (by kernel_rfl) (by kernel_rfl) (binds2 (fun s X a b=>BindsTo.of_eq rfl) .nil) ?_
 intro κ hf hQ hN hX
 refine go0 2 (m':=.rt _ _ _ _ _) rfl rfl ?_
 refine vfor .str (vforP (fun k l T W=>∃ cv,l=[(Str.ofString "self",some (.inst 166 1)),(Str.ofString "data",some (.str x)),(Str.ofString "c",cv)]∧T=[]∧W=o0 :: strD ch sz o pl pc :: t :: .list (es++badV (invN (x.cps.toList.take k))) :: R) ⟨none,rfl,rfl,by rw [List.take_zero]; exact (List.append_nil es).symm▸rfl⟩ ?_ ?_)
 ·intro k _ _ _ u hu hz1q κ' hn hc hb hr
  refine gC fun G hG=>?_
  obtain ⟨cv,rfl,rfl,rfl⟩:=hz1q
  rw [List.getElem?_map,Option.map_eq_some_iff] at hu
  obtain ⟨a,ha,rfl⟩:=hu
  refine hG ?_
  have hk:x.cps.toList.take (k+1)=x.cps.toList.take k++[a]:=by rw [List.take_add_one,ha]; rfl
  refine go0 17 (m':=.cl _ _ _ _ _ _) rfl rfl ?_
  refine vcallD (c_is_invalid c hK a _) rfl rfl ?_
  refine go0 1 (m':=.rt _ _ _ _ _) rfl rfl ?_
  cases hi:invalidB (a:Int)
  ·refine go0 1 (m':=.ex _ _ _ _) rfl rfl ?_
   refine vend (hn _ _ _ ⟨_,rfl,rfl,?_⟩)
   rw [hk,invN_snoc,hi]; rfl
  ·refine go1 11 (m':=.ex _ _ _ _) rfl rfl ?_ ?_
   ·show (es++badV _).length≤10000
    have h1:=invN_le (x.cps.toList.take k)
    rw [List.length_take] at h1
    have h2:x.cps.toList.length=x.length:=Array.length_toList
    rw [List.length_append,badV_len]
    exact Nat.le_trans (Nat.add_le_add_left (Nat.le_trans h1 (Nat.le_trans (Nat.min_le_right ..) (Nat.le_of_eq h2))) _) hz
   ·refine vend (hn _ _ _ ⟨_,rfl,rfl,?_⟩)
    rw [hk,invN_snoc,hi,if_pos rfl,← badV_snoc,← List.append_assoc]
 ·rintro _ _ _ ⟨cv,rfl,rfl,rfl⟩
  refine vend (hN _ _ _ ⟨rfl,?_⟩)
  rw [List.length_map,List.take_length]
end HL.Lake
end
noncomputable section
namespace HL.Lake
open PySem PySem.W PySem.Calls PyProof.Rows
noncomputable def lastOk (l:List Nat):Prop:=(∀ a∈l,a≠13)∧∀ a,l.getLast?=some a→¬ (55296≤a∧a≤56319)
theorem lastOk_at {d:Str} (h0:0 < d.length) (hl:lastOk d.cps.toList):d.cps.toList.getD (ixI d.length (-1)) 0≠13∧¬ (55296≤d.cps.toList.getD (ixI d.length (-1)) 0∧d.cps.toList.getD (ixI d.length (-1)) 0≤56319):=by
 have e:d.cps.toList.length=d.length:=Array.length_toList
 have hlt:d.length - 1 < d.cps.toList.length:=by rw [e]; exact Nat.sub_lt h0 Nat.one_pos
 have hg:d.cps.toList[d.length - 1]?=some (d.cps.toList.getD (ixI d.length (-1)) 0):=by
  rw [ix_last,List.getD_eq_getElem?_getD,List.getElem?_eq_getElem hlt]; rfl
 exact ⟨hl.1 _ (List.mem_of_getElem? hg),hl.2 _ (by rw [List.getLast?_eq_getElem?,e]; exact hg)⟩
theorem c_readChunk (c:Cx) (hK:c.K=top.heap_1 c.w.params) {o0:AO} {R:List AO} {ch:Str} {pl pc off:Int} {es:List V} {x:Str} {p:Nat}
  (hc:ch.length≤10000) (hx:x.length≤10000) (hz:es.length+x.length≤10000) {d:Str} (hd:d=slS x (some (p:Int)) (some ((p:Int)+10240))) (hl:lastOk d.cps.toList) :
  CallD c 3 141 [.inst 166 1] (o0 :: strD ch ch.length off pl pc :: textD x p :: .list es :: R) (.bool (d.length != 0)) (o0 :: strD d d.length 0 (lineOf pl ch ch.length) (colOf pc ch ch.length) :: textD x (p+d.length:Nat) :: .list (es++badV (invN d.cps.toList)) :: R):=by
 refine cgo (bs:=[(Str.ofString "self",.inst 166 1),(Str.ofString "chunkSize",.none)]) (others:=[Str.ofString "data",Str.ofString "lastv"]) hK (ok1 hK) rfl rfl rfl (by kernel_rfl) (by kernel_rfl) (bd1 (xs:=[.none]) hK rfl (by kernel_rfl) (fun z9=>rfl) (.cons ⟨rfl,Stat.of rfl⟩ .nil)) ?_
 intro κ hf hQ hN hX
 refine go0 14 (m':=.cl _ _ _ _ _ _) rfl rfl ?_
 refine vcallD (c_pos c hK (Nat.le_refl _) hc) rfl rfl ?_
 refine go0 21 (m':=.cl _ _ _ _ _ _) rfl rfl ?_
 refine vcallD (c_Text_read c hK hx 10240) rfl rfl ?_
 rw [← hd]
 have hdz:d.length≤10000:=hd▸slS_le hx
 have hdx:d.length≤x.length:=hd▸slS_le (Nat.le_refl _)
 refine go1 6 (m':=.rt _ _ _ _ _) rfl rfl ?_ ?_
 ·exact hdz
 by_cases h0:d.length=0
 ·refine vb (b':=true) (by rw [h0]; rfl) ?_
  refine go0 3 (m':=.rt _ _ _ _ _) rfl rfl ?_
  have hn:d.cps.toList=[]:=List.eq_nil_of_length_eq_zero (by rw [Array.length_toList]; exact h0)
  refine hQ _ _ _ _ _ (.same rfl) ⟨by rw [h0]; rfl,?_⟩
  rw [hn,h0,str_nil h0]
  show _=(_:AO) :: _ :: _ :: AO.list (es++[]) :: R
  rw [List.append_nil]; rfl
 ·refine vb (b':=false) (by rw [show ((d.length:Int) != 0)=true from bne_iff_ne.mpr (fun e=>h0 (Int.ofNat_eq_zero.mp e))]; rfl) ?_
  refine go0 1 (m':=.ex _ _ _ _) rfl rfl ?_
  refine vseq (fun l T W=>∃ lv,l=[(Str.ofString "self",some (.inst 166 1)),(Str.ofString "chunkSize",some (.int 10240)),(Str.ofString "data",some (.str d)),(Str.ofString "lastv",lv)]∧T=[]∧W=o0 :: strD (Str.ofString "") 0 0 (lineOf pl ch ch.length) (colOf pc ch ch.length) :: textD x (p+d.length:Nat) :: .list es :: R) ?_ ?_
  ·intro κ' hn hr hb hc hx ke
   refine go1 14 (m':=.rt _ _ _ _ _) rfl rfl ?_ ?_
   ·exact hdz
   by_cases h1:(d.length:Int) > 1
   ·obtain ⟨l1,l2⟩:=lastOk_at (by exact (Nat.lt_of_not_le fun hn=>Lake.n2 [_] 1 (.v 0) (.n 0) 1 (.a (.n 0) (.n 1)) (.v 0) rfl hn (Nat.pos_of_ne_zero h0))) hl
    refine vb (decide_eq_true h1) ?_
    refine go1 13 (m':=.rt _ _ _ _ _) rfl rfl ?_ ?_
    ·exact ixOk_last (by exact (Nat.lt_of_not_le fun hn=>Lake.n2 [_] 1 (.v 0) (.n 0) 1 (.a (.n 0) (.n 1)) (.v 0) rfl hn (Nat.pos_of_ne_zero h0))) hdz
    refine vb (b':=false) ?_ ?_
    ·rw [show (((d.cps.toList.getD (ixI d.length (-1)) 0:Nat):Int)==13)=false from beq_false_of_ne (fun e=>l1 (Int.ofNat.inj e)),Bool.false_or,Bool.and_eq_false_iff]
     by_cases h2:(55296:Int)≤(d.cps.toList.getD (ixI d.length (-1)) 0:Nat)
     ·exact .inr (decide_eq_false fun q=>l2 ⟨Int.ofNat_le.mp h2,Int.ofNat_le.mp q⟩)
     ·exact .inl (decide_eq_false h2)
    refine go0 1 (m':=.ex _ _ _ _) rfl rfl ?_
    exact vend (hn _ _ _ ⟨_,rfl,rfl,rfl⟩)
   ·refine vb (decide_eq_false h1) ?_
    refine go0 1 (m':=.ex _ _ _ _) rfl rfl ?_
    exact vend (hn _ _ _ ⟨_,rfl,rfl,rfl⟩)
  ·rintro _ _ _ ⟨lv,rfl,rfl,rfl⟩
   refine go0 11 (m':=.cl _ _ _ _ _ _) rfl rfl ?_
   refine vcallbD (c_errors c hK d (by exact (Nat.le_of_not_lt fun hn=>Lake.n3 [_,_,_] 1 (.a (.n 10000) (.n 1)) (.a (.v 1) (.v 2)) 1 (.a (.v 1) (.v 0)) (.n 10000) 1 (.v 2) (.v 0) rfl hn hz hdx))) rfl rfl ?_
   refine go _ _ 42 (m':=.rt _ _ _ _ _) rfl ⟨?_,?_,?_,trivial⟩ ?_
   ·exact ⟨by kernel_rfl,hl.1⟩
   ·exact ⟨by kernel_rfl,hl.1⟩
   ·exact hdz
   refine hQ _ _ _ _ _ (.same rfl) ⟨?_,rfl⟩
   rw [show (d.length != 0)=true from bne_iff_ne.mpr h0]
end HL.Lake
end
noncomputable section
namespace HL.Lake
open PySem PySem.W PySem.Calls PyProof.Rows
set_option genInjectivity false in
structure SV where
 ch:Str
 off:Nat
 pl:Int
 pc:Int
 p:Nat
 m:Nat
noncomputable def sD (s:SV):AO:=strD s.ch s.ch.length s.off s.pl s.pc
noncomputable def sT (x:Str) (s:SV):AO:=textD x s.p
noncomputable def sE (s:SV):AO:=.list (badV s.m)
structure OkS (x:Str) (s:SV):Prop where
 hx:x.length≤4000
 cr:∀ a∈x.cps.toList,a≠13∧¬ (55296≤a∧a≤56319)
 off:s.off≤s.ch.length
 ch:s.ch.length≤x.length+8
 es:s.m≤s.p
 p:s.p≤x.length
noncomputable def dataS (x:Str) (s:SV):Str:=slS x (some (s.p:Int)) (some ((s.p:Int)+10240))
noncomputable def fillS (x:Str) (s:SV):SV:=⟨dataS x s,0,lineOf s.pl s.ch s.ch.length,colOf s.pc s.ch s.ch.length,s.p+(dataS x s).length,s.m+invN (dataS x s).cps.toList⟩
theorem len_str (x:Str):x.cps.toList.length=x.length:=Array.length_toList
theorem dataS_list {x:Str} {s:SV} (h:OkS x s):(dataS x s).cps.toList=x.cps.toList.drop s.p:=by
 have hl:=len_str x
 have h1:=h.hx
 have h2:=h.p
 unfold dataS slS sl
 rw [List.toList_toArray]
 have e1:(some (s.p:Int)).elim 0 (clipAt x.cps.toList.length)=s.p:=(clip_nat _ s.p).trans (Nat.min_eq_left (by rw [hl]; exact h2))
 have e2:(some ((s.p:Int)+10240)).elim x.cps.toList.length (clipAt x.cps.toList.length)=x.cps.toList.length:=by
  show clipAt _ ((s.p+10240:Nat):Int)=_
  rw [clip_nat,Nat.min_eq_right (by exact (Nat.le_of_not_lt fun hn=>Lake.n3 [_,_,_] 1 (.a (.a (.v 2) (.n 10240)) (.n 1)) (.v 0) 1 (.v 0) (.v 1) 1 (.v 1) (.n 4000) rfl hn (Nat.le_of_eq hl) h1))]
 rw [e1,e2]
 exact List.take_of_length_le (by rw [List.length_drop]; exact Nat.le_refl _)
theorem dataS_len {x:Str} {s:SV} (h:OkS x s):(dataS x s).length=x.length - s.p:=by
 rw [← len_str,dataS_list h,List.length_drop,len_str]
theorem fillS_ok {x:Str} {s:SV} (h:OkS x s):OkS x (fillS x s):=by
 have hl:=dataS_len h
 have h2:=invN_le (dataS x s).cps.toList
 rw [len_str] at h2
 exact ⟨h.hx,h.cr,Nat.zero_le _,hl▸Nat.le_trans (Nat.sub_le ..) (Nat.le_add_right ..),Nat.add_le_add h.es h2,Nat.le_of_eq (by show s.p+(dataS x s).length=x.length; rw [hl]; exact Nat.add_sub_cancel' h.p)⟩
theorem badV_add (m k:Nat):badV m++badV k=badV (m+k):=List.replicate_append_replicate
theorem c_fill (c:Cx) (hK:c.K=top.heap_1 c.w.params) {o0:AO} {R:List AO} {x:Str} {s:SV} (ok:OkS x s) :
  CallD c 3 141 [.inst 166 1] (o0 :: sD s :: sT x s :: sE s :: R) (.bool ((dataS x s).length != 0)) (o0 :: sD (fillS x s) :: sT x (fillS x s) :: sE (fillS x s) :: R):=by
 have h1:=ok.hx
 have h2:=ok.ch
 have h3:=ok.es
 have h4:=ok.p
 have:=c_readChunk c hK (o0:=o0) (R:=R) (ch:=s.ch) (pl:=s.pl) (pc:=s.pc) (off:=s.off) (es:=badV s.m) (x:=x) (p:=s.p) (by exact (Nat.le_of_not_lt fun hn=>Lake.n3 [_,_] 1 (.a (.n 10000) (.n 1)) (.v 1) 1 (.v 0) (.n 4000) 1 (.v 1) (.a (.v 0) (.n 8)) rfl hn h1 h2)) (by exact (Nat.le_of_not_lt fun hn=>Lake.n2 [_] 1 (.a (.n 10000) (.n 1)) (.v 0) 1 (.v 0) (.n 4000) rfl hn h1)) (by rw [badV_len]; exact (Nat.le_of_not_lt fun hn=>Lake.n4 [_,_,_] 1 (.a (.n 10000) (.n 1)) (.a (.v 1) (.v 0)) 2 (.v 0) (.n 4000) 1 (.v 1) (.v 2) 1 (.v 2) (.v 0) rfl hn h1 h3 h4)) (d:=dataS x s) rfl (by
  rw [dataS_list ok]
  exact ⟨fun a ha=>(ok.cr a (List.mem_of_mem_drop ha)).1,fun a ha=>(ok.cr a (List.mem_of_mem_drop (List.mem_of_getLast? ha))).2⟩)
 rw [badV_add] at this
 exact this
noncomputable def restS (x:Str) (s:SV):List Nat:=s.ch.cps.toList.drop s.off++x.cps.toList.drop s.p
noncomputable def headV:List Nat→V
 | []=>.none
 | k :: _=>.str ⟨#[k]⟩
noncomputable def bumpS (s:SV) (o:Nat):SV:={ s with off:=o }
theorem c_char_in (c:Cx) (hK:c.K=top.heap_1 c.w.params) {o0:AO} {R:List AO} {x:Str} {s:SV} (ok:OkS x s) (h:s.off < s.ch.length) :
  CallD c 4 133 [.inst 166 1] (o0 :: sD s :: sT x s :: sE s :: R) (headV (restS x s)) (o0 :: sD (bumpS s (s.off+1)) :: sT x s :: sE s :: R):=by
 refine cgo (bs:=[(Str.ofString "self",.inst 166 1)]) (others:=[Str.ofString "chunkOffset",Str.ofString "char"]) hK (ok1 hK) rfl rfl rfl (by kernel_rfl) (by kernel_rfl) (binds1 (fun s X a=>BindsTo.of_eq rfl) .nil) ?_
 intro κ hf hQ hN hX
 have h1:=ok.hx
 have h2:=ok.ch
 refine go0 2 (m':=.rt _ _ _ _ _) rfl rfl ?_
 refine vb (decide_eq_false (by exact (fun hn=>Lake.n2 [_,_] 1 (.v 1) (.v 0) 1 (.a (.v 0) (.n 1)) (.v 1) rfl ((Int.ofNat_le (m:=s.ch.length) (n:=s.off)).mp hn) h))) ?_
 refine go1 12 (m':=.rt _ _ _ _ _) rfl rfl ?_ ?_
 ·exact ixOk_nat h (by exact (Nat.le_of_not_lt fun hn=>Lake.n3 [_,_] 1 (.a (.n 10000) (.n 1)) (.v 0) 1 (.v 1) (.n 4000) 1 (.v 0) (.a (.v 1) (.n 8)) rfl hn h1 h2))
 refine hQ _ _ _ _ _ (.same rfl) ⟨?_,rfl⟩
 have hl:s.off < s.ch.cps.toList.length:=by rw [len_str]; exact h
 unfold restS
 rw [List.drop_eq_getElem_cons hl,ix_nat,List.getD_eq_getElem?_getD,List.getElem?_eq_getElem hl]
 rfl
theorem c_char_fill (c:Cx) (hK:c.K=top.heap_1 c.w.params) {o0:AO} {R:List AO} {x:Str} {s:SV} (ok:OkS x s) (h:¬ s.off < s.ch.length) (h0:(dataS x s).length≠0) :
  CallD c 4 133 [.inst 166 1] (o0 :: sD s :: sT x s :: sE s :: R) (headV (restS x (fillS x s))) (o0 :: sD (bumpS (fillS x s) 1) :: sT x (fillS x s) :: sE (fillS x s) :: R):=by
 refine cgo (bs:=[(Str.ofString "self",.inst 166 1)]) (others:=[Str.ofString "chunkOffset",Str.ofString "char"]) hK (ok1 hK) rfl rfl rfl (by kernel_rfl) (by kernel_rfl) (binds1 (fun s X a=>BindsTo.of_eq rfl) .nil) ?_
 intro κ hf hQ hN hX
 have h1:=ok.hx
 have h2:=dataS_len ok
 refine go0 2 (m':=.rt _ _ _ _ _) rfl rfl ?_
 refine vb (decide_eq_true (by exact ((Int.ofNat_le (m:=s.ch.length) (n:=s.off)).mpr (Nat.le_of_not_lt fun hn=>Lake.n2 [_,_] 1 (.a (.v 1) (.n 1)) (.v 0) 1 (.v 0) (.v 1) rfl hn (Nat.le_of_not_lt h))))) ?_
 refine go0 8 (m':=.cl _ _ _ _ _ _) rfl rfl ?_
 refine vcallD (c_fill c hK ok) rfl rfl ?_
 refine go0 2 (m':=.rt _ _ _ _ _) rfl rfl ?_
 refine vb (b':=false) (by rw [show ((dataS x s).length != 0)=true from bne_iff_ne.mpr h0]; rfl) ?_
 refine go1 12 (m':=.rt _ _ _ _ _) rfl rfl ?_ ?_
 ·exact ixOk_nat (n:=(dataS x s).length) (k:=0) (Nat.pos_of_ne_zero h0) (by exact (Nat.le_of_not_lt fun hn=>Lake.n4 [_,_,_] 1 (.a (.n 10000) (.n 1)) (.v 0) 1 (.v 1) (.n 4000) 1 (.v 0) (.v 2) 1 (.v 2) (.v 1) rfl hn h1 (Nat.le_of_eq h2) (Nat.sub_le _ _)))
 refine hQ _ _ _ _ _ (.same rfl) ⟨?_,rfl⟩
 have hl:0 < (dataS x s).cps.toList.length:=by rw [len_str]; exact Nat.pos_of_ne_zero h0
 unfold restS
 show V.str ⟨#[(dataS x s).cps.toList.getD (ixI _ ((0:Nat):Int)) 0]⟩=headV ((dataS x s).cps.toList.drop 0++_)
 rw [List.drop_eq_getElem_cons hl,ix_nat,List.getD_eq_getElem?_getD,List.getElem?_eq_getElem hl]
 rfl
theorem c_char_end (c:Cx) (hK:c.K=top.heap_1 c.w.params) {o0:AO} {R:List AO} {x:Str} {s:SV} (ok:OkS x s) (h:¬ s.off < s.ch.length) (h0:(dataS x s).length=0) :
  CallD c 4 133 [.inst 166 1] (o0 :: sD s :: sT x s :: sE s :: R) .none (o0 :: sD (fillS x s) :: sT x (fillS x s) :: sE (fillS x s) :: R):=by
 refine cgo (bs:=[(Str.ofString "self",.inst 166 1)]) (others:=[Str.ofString "chunkOffset",Str.ofString "char"]) hK (ok1 hK) rfl rfl rfl (by kernel_rfl) (by kernel_rfl) (binds1 (fun s X a=>BindsTo.of_eq rfl) .nil) ?_
 intro κ hf hQ hN hX
 refine go0 2 (m':=.rt _ _ _ _ _) rfl rfl ?_
 refine vb (decide_eq_true (by exact ((Int.ofNat_le (m:=s.ch.length) (n:=s.off)).mpr (Nat.le_of_not_lt fun hn=>Lake.n2 [_,_] 1 (.a (.v 1) (.n 1)) (.v 0) 1 (.v 0) (.v 1) rfl hn (Nat.le_of_not_lt h))))) ?_
 refine go0 8 (m':=.cl _ _ _ _ _ _) rfl rfl ?_
 refine vcallD (c_fill c hK ok) rfl rfl ?_
 refine go0 2 (m':=.rt _ _ _ _ _) rfl rfl ?_
 refine vb (b':=true) (by rw [h0]; rfl) ?_
 refine go0 3 (m':=.rt _ _ _ _ _) rfl rfl ?_
 exact hQ _ _ _ _ _ (.same rfl) ⟨rfl,rfl⟩
theorem c_unget_none (c:Cx) (hK:c.K=top.heap_1 c.w.params) {W:List AO}:CallD c 1 163 [.inst 166 1,.none] W .none W:=by
 refine cgo (bs:=[(Str.ofString "self",.inst 166 1),(Str.ofString "char",.none)]) (others:=[]) hK (ok1 hK) rfl rfl rfl (by kernel_rfl) (by kernel_rfl) (binds2 (fun s X a b=>BindsTo.of_eq rfl) .nil) ?_
 intro κ hf hQ hN hX
 refine go0 3 (m':=.ex _ _ _ _) rfl rfl ?_
 exact vend (hN _ _ _ ⟨rfl,rfl⟩)
theorem c_unget (c:Cx) (hK:c.K=top.heap_1 c.w.params) {o0:AO} {R:List AO} {x:Str} {s:SV} (ok:OkS x s) {k o:Nat} (ho:s.off=o+1) (hk:s.ch.cps.toList[o]?=some k) :
  CallD c 1 163 [.inst 166 1,.str ⟨#[k]⟩] (o0 :: sD s :: sT x s :: sE s :: R) .none (o0 :: sD (bumpS s o) :: sT x s :: sE s :: R):=by
 refine cgo (bs:=[(Str.ofString "self",.inst 166 1),(Str.ofString "char",.str ⟨#[k]⟩)]) (others:=[]) hK (ok1 hK) rfl rfl rfl (by kernel_rfl) (by kernel_rfl) (binds2 (fun s X a b=>BindsTo.of_eq rfl) .nil) ?_
 intro κ hf hQ hN hX
 have h1:=ok.hx
 have h2:=ok.ch
 have h3:=ok.off
 refine go0 5 (m':=.rt _ _ _ _ _) rfl rfl ?_
 refine vb (b':=false) (show ((s.off:Int)==0)=false from beq_false_of_ne (fun e=>by rw [ho] at e; exact absurd (Int.ofNat_eq_zero.mp e) (Nat.succ_ne_zero o))) ?_
 have e:((s.off:Int) - 1)=(o:Nat):=by rw [ho]; exact Int.add_sub_cancel (o:Int) 1
 refine go1 6 (m':=.rt _ _ _ _ _) rfl rfl ?_ ?_
 ·rw [e]; exact ixOk_nat (by exact (Nat.lt_of_not_le fun hn=>Lake.n3 [_,_,_] 1 (.v 2) (.v 1) 1 (.a (.v 1) (.n 1)) (.v 0) 1 (.v 0) (.v 2) rfl hn (Nat.le_of_eq (Eq.symm ho)) h3)) (by exact (Nat.le_of_not_lt fun hn=>Lake.n3 [_,_] 1 (.a (.n 10000) (.n 1)) (.v 1) 1 (.v 0) (.n 4000) 1 (.v 1) (.a (.v 0) (.n 8)) rfl hn h1 h2))
 refine vb (b':=true) ?_ ?_
 ·rw [e,ix_nat,List.getD_eq_getElem?_getD,hk]; exact beq_self_eq_true _
 refine go0 1 (m':=.ex _ _ _ _) rfl rfl ?_
 refine vend (hN _ _ _ ⟨rfl,?_⟩)
 rw [e]; rfl
end HL.Lake
end
noncomputable section
namespace HL.Lake
open PySem PySem.W PySem.Calls PyProof.Rows
noncomputable def colL (l:List Nat):Int:=match lastIn 10 l with | some k=>(l.length:Int) - (k+1) | none=>l.length
theorem lastIn_append (k:Nat):∀ (a b:List Nat),lastIn k (a++b)=match lastIn k b with | some j=>some (a.length+j) | none=>lastIn k a
 | [],b=>by
  rw [List.nil_append]
  cases h:lastIn k b with
  | none=>rfl
  | some j=>exact congrArg some (Nat.zero_add j).symm
 | x :: a,b=>by
  have e:∀ l,lastIn k (x :: l)=match lastIn k l with | some i=>some (i+1) | none=>if x=k then some 0 else none:=fun z9=>rfl
  rw [List.cons_append,e,lastIn_append k a b]
  cases h:lastIn k b with
  | some j=>exact congrArg some (Nat.succ_add a.length j).symm
  | none=>exact (e a).symm
theorem cnt_append (k:Nat) (a b:List Nat):cntIn k (a++b)=cntIn k a+cntIn k b:=by
 unfold cntIn
 rw [List.filter_append,List.length_append]
theorem invN_append (a b:List Nat):invN (a++b)=invN a+invN b:=by
 unfold invN
 rw [List.filter_append,List.length_append]
structure At (x:Str) (s:SV) (u told:Nat) (pre post:List Nat):Prop where
 ok:OkS x s
 e:x.cps.toList=pre++(s.ch.cps.toList++post)
 p:pre.length+s.ch.length=s.p
 pl:s.pl=cntIn 10 pre
 pc:s.pc=colL pre
 u:u=pre.length+s.off
 m:told+s.m=invN (x.cps.toList.take s.p)
 fl:post=[]∨s.p=0
namespace At
variable {x:Str} {s:SV} {u told:Nat} {pre post:List Nat}
theorem ule (h:At x s u told pre post):u≤x.length:=by
 exact Nat.le_trans (Nat.le_of_eq h.u) (Nat.le_trans (Nat.add_le_add_left h.ok.off _) (Nat.le_trans (Nat.le_of_eq h.p) h.ok.p))
theorem cut (h:At x s u told pre post):x.cps.toList.take u=pre++s.ch.cps.toList.take s.off:=by
 rw [h.e,h.u,List.take_length_add_append,List.take_append_of_le_length (by rw [len_str]; exact h.ok.off)]
theorem drop_p (h:At x s u told pre post):x.cps.toList.drop s.p=post:=by
 rw [h.e,← h.p,List.drop_length_add_append,← len_str,List.drop_left]
theorem rest (h:At x s u told pre post):restS x s=x.cps.toList.drop u:=by
 unfold restS
 rw [h.drop_p,h.e,h.u,List.drop_length_add_append,List.drop_append_of_le_length (by rw [len_str]; exact h.ok.off)]
theorem line (h:At x s u told pre post):lineOf s.pl s.ch s.off=cntIn 10 (x.cps.toList.take u):=by
 unfold lineOf
 rw [h.cut,cnt_append,h.pl]
 rfl
theorem col (h:At x s u told pre post):colOf s.pc s.ch s.off=colL (x.cps.toList.take u):=by
 have hl:(s.ch.cps.toList.take s.off).length=s.off:=by rw [List.length_take,len_str]; exact Nat.min_eq_left h.ok.off
 unfold colOf
 rw [h.cut,h.pc]
 unfold colL
 rw [lastIn_append,List.length_append,hl]
 cases lastIn 10 (s.ch.cps.toList.take s.off) with
 | some k=>show (s.off:Int) - ((k:Int)+1)=((pre.length+s.off:Nat):Int) - (((pre.length+k:Nat):Int)+1); rw [Int.natCast_add,Int.natCast_add,Int.add_assoc,Int.add_sub_add_left]
 | none =>
  cases lastIn 10 pre with
  | some k=>show ((pre.length:Int) - (k+1))+s.off=((pre.length+s.off:Nat):Int) - (k+1); rw [Int.natCast_add,Int.sub_eq_add_neg,Int.sub_eq_add_neg,Int.add_right_comm]
  | none=>rfl
theorem fill (h:At x s u told pre post) (hn:¬ s.off < s.ch.length):At x (fillS x s) u told (pre++s.ch.cps.toList) []:=by
 have hd:(dataS x s).cps.toList=post:=by rw [dataS_list h.ok,h.drop_p]
 have ho:s.off=s.ch.length:=Nat.le_antisymm h.ok.off (Nat.not_lt.mp hn)
 have ht:s.ch.cps.toList.take s.ch.length=s.ch.cps.toList:=List.take_of_length_le (by rw [len_str]; exact Nat.le_refl _)
 refine ⟨fillS_ok h.ok,?_,?_,?_,?_,?_,?_,.inl rfl⟩
 ·show _=_++((dataS x s).cps.toList++[])
  rw [hd,h.e,List.append_nil,List.append_assoc]
 ·show (pre++s.ch.cps.toList).length+(dataS x s).length=s.p+(dataS x s).length
  rw [List.length_append,len_str,h.p]
 ·show lineOf s.pl s.ch s.ch.length=_
  have:=h.line
  rwa [ho,h.cut,ho,ht] at this
 ·show colOf s.pc s.ch s.ch.length=_
  have:=h.col
  rwa [ho,h.cut,ho,ht] at this
 ·show u=_+0
  rw [h.u,ho,List.length_append,len_str,Nat.add_zero]
 ·show told+(s.m+invN (dataS x s).cps.toList)=invN (x.cps.toList.take (s.p+(dataS x s).length))
  rw [List.take_add,invN_append,← h.m,Nat.add_assoc,← dataS_list h.ok,List.take_of_length_le (by rw [len_str]; exact Nat.le_refl _)]
theorem bump (h:At x s u told pre post) {o:Nat} (ho:o≤s.ch.length):At x (bumpS s o) (pre.length+o) told pre post :=
 ⟨⟨h.ok.hx,h.ok.cr,ho,h.ok.ch,h.ok.es,h.ok.p⟩,h.e,h.p,h.pl,h.pc,rfl,h.m,h.fl⟩
theorem lt_in (h:At x s u told pre post) (hl:s.off < s.ch.length):u < x.length:=by
 exact Nat.lt_of_lt_of_le (Nat.lt_of_le_of_lt (Nat.le_of_eq h.u) (Nat.add_lt_add_left hl _)) (Nat.le_trans (Nat.le_of_eq h.p) h.ok.p)
theorem lt_fill (h:At x s u told pre post) (hn:¬ s.off < s.ch.length):((dataS x s).length≠0) ↔ u < x.length:=by
 rw [dataS_len h.ok,show u=s.p from h.u.trans ((congrArg _ (Nat.le_antisymm h.ok.off (Nat.not_lt.mp hn))).trans h.p)]
 exact Nat.sub_ne_zero_iff_lt
theorem sign (h:At x s u told pre post) {o:Nat} (ho:o < s.ch.length):s.ch.cps.toList[o]?=x.cps.toList[pre.length+o]?:=by
 rw [h.e,List.getElem?_append_right (Nat.le_add_right ..),Nat.add_sub_cancel_left,List.getElem?_append_left (by rw [len_str]; exact ho)]
end At
noncomputable def chV (x:Str) (u:Nat):V:=match x.cps.toList[u]? with | some k=>.str ⟨#[k]⟩ | none=>.none
theorem head_chV {x:Str} {u:Nat}:headV (x.cps.toList.drop u)=chV x u:=by
 unfold chV
 cases h:x.cps.toList[u]? with
 | none=>rw [List.drop_of_length_le (List.getElem?_eq_none_iff.mp h)]; rfl
 | some k =>
  obtain ⟨hl,rfl⟩:=List.getElem?_eq_some_iff.mp h
  rw [List.drop_eq_getElem_cons hl]; rfl
noncomputable def Strm (x:Str) (u b told:Nat) (z1:AO) (z2:AO) (z3:AO):Prop:=∀ G:AO→AO→AO→Prop,(∀ (s:SV) (pre post:List Nat) (a:At x s u told pre post) (hb:b≤s.off),G (sD s) (sT x s) (sE s))→G z1 z2 z3
theorem Strm.mk {x:Str} {u b told:Nat} (s:SV) (pre post:List Nat) (a:At x s u told pre post) (hb:b≤s.off):Strm x u b told (sD s) (sT x s) (sE s):=fun z9 z=>z s pre post a hb
theorem Strm.ule {x:Str} {u b told:Nat} {d t e:AO} (h:Strm x u b told d t e):u≤x.length:=by apply h; clear h; intro _ _ _ a _; exact a.ule
theorem Strm.fm {x:Str} {u b told:Nat} {d t e:AO} (h:Strm x u b told d t e):∃ s,d=sD s:=by apply h; clear h; intro s _ _ _ _; exact ⟨s,rfl⟩
theorem Strm.weak {x:Str} {u b told:Nat} {d t e:AO} (h:Strm x u b told d t e):Strm x u 0 told d t e:=by apply h; clear h; intro s p q a _; exact .mk s p q a (Nat.zero_le _)
noncomputable def RS (o0:AO) (R:List AO) (x:Str) (u b told:Nat) (v:V) (z1:V) (z2:List AO):Prop:=∀ G:V→List AO→Prop,(∀ (d t e:AO) (h:Strm x u b told d t e),G v (o0 :: d :: t :: e :: R))→G z1 z2
theorem RS.mk {o0:AO} {R:List AO} {x:Str} {u b told:Nat} {v:V} {d t e:AO} (h:Strm x u b told d t e):RS o0 R x u b told v v (o0 :: d :: t :: e :: R):=fun z9 z=>z d t e h
theorem c_charA (c:Cx) (hK:c.K=top.heap_1 c.w.params) {o0 d t e:AO} {R:List AO} {x:Str} {u b told:Nat} (h:Strm x u b told d t e) :
  CallS c 4 (.ref 133) [.inst 166 1] [] (RS o0 R x (min (u+1) x.length) (if u < x.length then 1 else 0) told (chV x u)) (fun z9=>False) (o0 :: d :: t :: e :: R):=by
 apply h; clear h; intro s pre post a _
 have hr:=a.rest
 by_cases hl:s.off < s.ch.length
 ·refine (c_char_in c hK a.ok hl).mono ?_ fun z9 x=>x
  rintro _ _ ⟨rfl,rfl⟩
  have hu:=a.lt_in hl
  rw [hr,head_chV]
  refine .mk (.mk (bumpS s (s.off+1)) (pre) post ?_ ?_)
  ·rw [Nat.min_eq_left hu,a.u]; exact a.bump hl
  ·rw [if_pos hu]; exact Nat.le_add_left ..
 ·have af:=a.fill hl
  have hr':=af.rest
  by_cases h0:(dataS x s).length=0
  ·refine (c_char_end c hK a.ok hl h0).mono ?_ fun z9 x=>x
   rintro _ _ ⟨rfl,rfl⟩
   have hu:¬ u < x.length:=fun q=>(a.lt_fill hl).mpr q h0
   have hv:chV x u=.none:=by unfold chV; rw [List.getElem?_eq_none (by rw [len_str]; exact Nat.not_lt.mp hu)]
   rw [hv]
   refine .mk (.mk (fillS x s) (pre++s.ch.cps.toList) [] ?_ ?_)
   ·rw [Nat.min_eq_right (Nat.le_succ_of_le (Nat.not_lt.mp hu)),Nat.le_antisymm (Nat.not_lt.mp hu) a.ule]; exact af
   ·rw [if_neg hu]; exact Nat.zero_le _
  ·refine (c_char_fill c hK a.ok hl h0).mono ?_ fun z9 x=>x
   rintro _ _ ⟨rfl,rfl⟩
   have hu:=(a.lt_fill hl).mp h0
   rw [hr',head_chV]
   refine .mk (.mk (bumpS (fillS x s) 1) (pre++s.ch.cps.toList) [] ?_ ?_)
   ·have q:=af.bump (o:=1) (Nat.pos_of_ne_zero h0)
    rw [Nat.min_eq_left hu,af.u]; exact q
   ·rw [if_pos hu]; exact Nat.le_refl 1
theorem At.back {x:Str} {s:SV} {u told:Nat} {pre post:List Nat} (a:At x s (u+1) told pre post) (hb:1≤s.off):∃ o,s.off=o+1∧o < s.ch.length∧u=pre.length+o :=
 ⟨s.off - 1,(Nat.sub_add_cancel hb).symm,Nat.lt_of_lt_of_le (Nat.sub_lt hb Nat.zero_lt_one) a.ok.off,Nat.succ.inj (a.u.trans (congrArg (pre.length+·) (Nat.sub_add_cancel hb).symm))⟩
theorem c_ungetA (c:Cx) (hK:c.K=top.heap_1 c.w.params) {o0 d t e:AO} {R:List AO} {x:Str} {u k told:Nat} (h:Strm x (u+1) 1 told d t e) (hk:x.cps.toList[u]?=some k) :
  CallS c 1 (.ref 163) [.inst 166 1,.str ⟨#[k]⟩] [] (RS o0 R x u 0 told .none) (fun z9=>False) (o0 :: d :: t :: e :: R):=by
 apply h; clear h; intro s pre post a hb
 refine gC fun G hG=>?_
 obtain ⟨o,ho,hol,hu⟩:=a.back hb
 refine hG ?_
 refine (c_unget c hK a.ok ho ?_).mono ?_ fun z9 x=>x
 ·rw [a.sign hol,← hu,hk]
 rintro _ _ ⟨rfl,rfl⟩
 exact .mk (.mk (bumpS s o) pre post (hu▸a.bump (Nat.le_of_lt hol)) (Nat.zero_le _))
theorem c_positionA (c:Cx) (hK:c.K=top.heap_1 c.w.params) {o0 d t e:AO} {R:List AO} {x:Str} {u b told:Nat} (h:Strm x u b told d t e) :
  CallD c 2 126 [.inst 166 1] (o0 :: d :: t :: e :: R) (.tup [.int (cntIn 10 (x.cps.toList.take u)+1),.int (colL (x.cps.toList.take u))]) (o0 :: d :: t :: e :: R):=by
 apply h; clear h; intro s pre post a hb
 have h1:=a.ok.hx
 have h2:=a.ok.ch
 have:=c_position c hK (o0:=o0) (R:=sT x s :: sE s :: R) (ch:=s.ch) (sz:=s.ch.length) (pl:=s.pl) (pc:=s.pc) (off:=s.off) a.ok.off (by exact (Nat.le_of_not_lt fun hn=>Lake.n3 [_,_] 1 (.a (.n 10000) (.n 1)) (.v 1) 1 (.v 0) (.n 4000) 1 (.v 1) (.a (.v 0) (.n 8)) rfl hn h1 h2))
 rwa [a.line,a.col] at this
end HL.Lake
end
noncomputable section
namespace HL.Lake
open PySem PySem.W PySem.Calls PyProof.Rows
theorem slS_from (x:Str) (a:Nat) (h:a≤x.length):slS x (some (a:Int)) none=⟨(x.cps.toList.drop a).toArray⟩:=by
 unfold slS sl
 rw [show (some (a:Int)).elim 0 (clipAt x.cps.toList.length)=a from (clip_nat _ a).trans (Nat.min_eq_left (by rw [len_str]; exact h))]
 show (⟨((x.cps.toList.drop a).take (x.cps.toList.length - a)).toArray⟩:Str)=_
 rw [List.take_of_length_le (by rw [List.length_drop]; exact Nat.le_refl _)]
theorem slS_mid (x:Str) (a b:Nat) (h:a≤b) (hb:b≤x.length):slS x (some (a:Int)) (some (b:Int))=⟨((x.cps.toList.take b).drop a).toArray⟩:=by
 unfold slS sl
 rw [show (some (a:Int)).elim 0 (clipAt x.cps.toList.length)=a from (clip_nat _ a).trans (Nat.min_eq_left (by rw [len_str]; exact Nat.le_trans h hb)),show (some (b:Int)).elim x.cps.toList.length (clipAt x.cps.toList.length)=b from (clip_nat _ b).trans (Nat.min_eq_left (by rw [len_str]; exact hb)),List.drop_take]
theorem vf1 (a b:Nat):vf (.str ⟨#[a]⟩) (.str ⟨#[b]⟩)=(a==b):=by
 show ((⟨#[a]⟩:Str)==⟨#[b]⟩)=_
 by_cases h:a=b
 ·subst h; rw [beq_self_eq_true,beq_self_eq_true]
 ·rw [beq_false_of_ne h]; exact beq_false_of_ne (fun e=>h (by injection e with e; injection e with e; injection e))
theorem any1 (cs:List Nat) (k:Nat):((cs.map fun k=>V.str ⟨#[k]⟩).any fun y=>vf y (.str ⟨#[k]⟩))=decide (k∈cs):=by
 rw [List.any_map]
 induction cs with
 | nil=>rfl
 | cons a cs ih =>
  rw [List.any_cons,ih]
  show (vf (.str ⟨#[a]⟩) (.str ⟨#[k]⟩)||_)=_
  rw [vf1]
  by_cases h:a=k
  ·subst h; simp
  ·simp [h,Ne.symm h]
theorem flat1 (cs:List Nat):(cs.map fun k=>V.str ⟨#[k]⟩).all isFlatV=true:=by
 rw [List.all_map]; exact List.all_eq_true.mpr fun z9 z9=>rfl
noncomputable def pchar (cs:List Nat) (op:Bool) (k:Nat):Bool:=decide (k∈cs)==op
noncomputable def joinL (ys:List Str):List Nat:=(ys.map fun y=>y.cps.toList).flatten
theorem joinL_snoc (ys:List Str) (l:List Nat):joinL (ys++[⟨l.toArray⟩])=joinL ys++l:=by simp [joinL]
theorem joinL_sum (ys:List Str):(ys.map (·.length)).sum=(joinL ys).length:=by
 unfold joinL
 rw [List.length_flatten,List.map_map]
 congr 1
theorem join_nil:∀ (ys:List Str),Txt.join (Str.ofString "") ys=⟨(joinL ys).toArray⟩:=by
 intro ys
 rw [← str_nil (d:=⟨#[]⟩) rfl]
 unfold Txt.join
 rw [StrLaws.glued_eq_join]
 induction ys with
 | nil=>rfl
 | cons y r ih =>
  cases r with
  | nil =>
   show y=_
   simp [joinL]
  | cons z r =>
   show y++⟨#[]⟩++Str.join ⟨#[]⟩ (z :: r)=_
   rw [ih]
   show (⟨y.cps++#[]++(joinL (z :: r)).toArray⟩:Str)=_
   simp [joinL]
theorem At.move {x:Str} {s:SV} {u told:Nat} {pre post:List Nat} (h:At x s u told pre post) {e:Nat} (h1:s.off≤e) (h2:e≤s.ch.length):At x (bumpS s e) (u+(e - s.off)) told pre post:=by
 have q:=h.bump h2
 rwa [show pre.length+e=u+(e - s.off) by rw [h.u,Nat.add_assoc,Nat.add_sub_cancel' h1]] at q
noncomputable def lcU (cs:List Nat) (op:Bool) (e:Option V):Loc:=[(Str.ofString "self",some (.inst 166 1)),(Str.ofString "characters",some (.tup (cs.map fun k=>.str ⟨#[k]⟩))),(Str.ofString "opposite",some (.bool op)),(Str.ofString "rv",some (.lo 0)),(Str.ofString "end",e),(Str.ofString "r",none)]
noncomputable def tkW (cs:List Nat) (op:Bool) (x:Str) (u:Nat):List Nat:=(x.cps.toList.drop u).takeWhile (pchar cs op)
noncomputable def U1 (cs:List Nat) (op:Bool) (o0:AO) (R:List AO) (x:Str) (u told:Nat) (z1:Loc) (z2:List AO) (z3:List AO):Prop:=∀ G:Loc→List AO→List AO→Prop,(∀ (s:SV) (pre post:List Nat) (ys:List Str) (e:Option V) (hj:joinL ys=tkW cs op x u) (a:At x s (u+(tkW cs op x u).length) told pre post) (hy:ys.length≤x.length+2),G (lcU cs op e) [.list (ys.map .str)] (o0 :: sD s :: sT x s :: sE s :: R))→G z1 z2 z3
theorem U1.mk {cs:List Nat} {op:Bool} {o0:AO} {R:List AO} {x:Str} {u told:Nat} (s:SV) (pre post:List Nat) (ys:List Str) (e:Option V) (hj:joinL ys=tkW cs op x u) (a:At x s (u+(tkW cs op x u).length) told pre post) (hy:ys.length≤x.length+2):U1 cs op o0 R x u told (lcU cs op e) [.list (ys.map .str)] (o0 :: sD s :: sT x s :: sE s :: R):=fun z9 z=>z s pre post ys e hj a hy
noncomputable def U2 (cs:List Nat) (op:Bool) (o0:AO) (R:List AO) (x:Str) (u told k:Nat) (z1:Loc) (z2:List AO) (z3:List AO):Prop:=∀ G:Loc→List AO→List AO→Prop,(∀ (s:SV) (pre post:List Nat) (ys:List Str) (e:Option V) (a:At x s (u+(joinL ys).length) told pre post) (hj:joinL ys++tkW cs op x (u+(joinL ys).length)=tkW cs op x u) (hk:x.length - s.p < k) (hy:ys.length+(x.length - s.p)≤x.length+1),G (lcU cs op e) [.list (ys.map .str)] (o0 :: sD s :: sT x s :: sE s :: R))→G z1 z2 z3
theorem U2.mk {cs:List Nat} {op:Bool} {o0:AO} {R:List AO} {x:Str} {u told k:Nat} (s:SV) (pre post:List Nat) (ys:List Str) (e:Option V) (a:At x s (u+(joinL ys).length) told pre post) (hj:joinL ys++tkW cs op x (u+(joinL ys).length)=tkW cs op x u) (hk:x.length - s.p < k) (hy:ys.length+(x.length - s.p)≤x.length+1):U2 cs op o0 R x u told k (lcU cs op e) [.list (ys.map .str)] (o0 :: sD s :: sT x s :: sE s :: R):=fun z9 z=>z s pre post ys e a hj hk hy
structure Up (cs:List Nat) (op:Bool) (s:SV) (e:Nat):Prop where
 g1:s.off≤e
 g2:e≤s.ch.length
 g3:∀ q∈(s.ch.cps.toList.take e).drop s.off,pchar cs op q=true
noncomputable def U3 (cs:List Nat) (op:Bool) (s:SV) (T W:List AO) (k:Nat) (z1:Loc) (z2:List AO) (z3:List AO):Prop:=∀ G:Loc→List AO→List AO→Prop,(∀ (e:Nat) (g:Up cs op s e) (hk:k=s.ch.length - e),G (lcU cs op (some (.int e))) T W)→G z1 z2 z3
theorem U3.mk {cs:List Nat} {op:Bool} {s:SV} {T W:List AO} {k:Nat} (e:Nat) (g:Up cs op s e) (hk:k=s.ch.length - e):U3 cs op s T W k (lcU cs op (some (.int e))) T W:=fun z9 z=>z e g hk
noncomputable def U4 (cs:List Nat) (op:Bool) (s:SV) (T W:List AO) (z1:Loc) (z2:List AO) (z3:List AO):Prop:=∀ G:Loc→List AO→List AO→Prop,(∀ (e:Nat) (g:Up cs op s e) (g4:e=s.ch.length∨∃ q,s.ch.cps.toList[e]?=some q∧pchar cs op q=false),G (lcU cs op (some (.int e))) T W)→G z1 z2 z3
theorem U4.mk {cs:List Nat} {op:Bool} {s:SV} {T W:List AO} (e:Nat) (g:Up cs op s e) (g4:e=s.ch.length∨∃ q,s.ch.cps.toList[e]?=some q∧pchar cs op q=false):U4 cs op s T W (lcU cs op (some (.int e))) T W:=fun z9 z=>z e g g4
noncomputable def U5 (cs:List Nat) (op:Bool) (e:Nat) (T W:List AO) (z1:Loc) (z2:List AO) (z3:List AO):Prop:=∀ G:Loc→List AO→List AO→Prop,(G (lcU cs op (some (.int e))) T W)→G z1 z2 z3
theorem U5.mk {cs:List Nat} {op:Bool} {e:Nat} {T W:List AO}:U5 cs op e T W (lcU cs op (some (.int e))) T W:=fun z9 z=>z
theorem Up.start {cs:List Nat} {op:Bool} {s:SV} (h:s.off≤s.ch.length):Up cs op s s.off:=⟨Nat.le_refl _,h,fun q hq=>(by rw [List.drop_of_length_le (by rw [List.length_take]; exact Nat.min_le_left ..)] at hq; cases hq)⟩
theorem Up.next {cs:List Nat} {op:Bool} {s:SV} {e q:Nat} (g:Up cs op s e) (hq:s.ch.cps.toList[e]?=some q) (hp:pchar cs op q=true):Up cs op s (e+1):=by
 have hel:e < s.ch.length:=by rw [← len_str]; exact (List.getElem?_eq_some_iff.mp hq).1
 refine ⟨Nat.le_succ_of_le g.g1,hel,fun q' hq'=>?_⟩
 rw [List.take_add_one,hq,List.drop_append_of_le_length (by rw [List.length_take,len_str,Nat.min_eq_left g.g2]; exact g.g1)] at hq'
 rcases List.mem_append.mp hq' with hm | hm
 ·exact g.g3 q' hm
 ·cases List.mem_singleton.mp hm; exact hp
theorem Up.tw {cs:List Nat} {op:Bool} {s:SV} {e:Nat} {x:Str} {u told:Nat} {pre post:List Nat} (g:Up cs op s e) (a:At x s u told pre post):tkW cs op x u=(s.ch.cps.toList.take e).drop s.off++(s.ch.cps.toList.drop e++x.cps.toList.drop s.p).takeWhile (pchar cs op):=by
 have hR:x.cps.toList.drop u=(s.ch.cps.toList.take e).drop s.off++(s.ch.cps.toList.drop e++x.cps.toList.drop s.p):=by
  rw [← a.rest]
  unfold restS
  rw [← List.append_assoc]
  congr 1
  conv=>lhs; rw [← List.take_append_drop e s.ch.cps.toList]
  rw [List.drop_append_of_le_length (by rw [List.length_take,len_str,Nat.min_eq_left g.g2]; exact g.g1)]
 unfold tkW
 rw [hR]; exact List.takeWhile_append_of_pos g.g3
theorem Up.stop {cs:List Nat} {op:Bool} {s:SV} {e:Nat} {x:Str} {u told:Nat} {pre post:List Nat} (g:Up cs op s e) (a:At x s u told pre post) (h:∃ q,s.ch.cps.toList[e]?=some q∧pchar cs op q=false):tkW cs op x u=(s.ch.cps.toList.take e).drop s.off:=by
 obtain ⟨q,hq,hp⟩:=h
 obtain ⟨hlt,hq'⟩:=List.getElem?_eq_some_iff.mp hq
 rw [g.tw a,List.drop_eq_getElem_cons hlt,hq',List.cons_append,List.takeWhile_cons_of_neg (by rw [hp]; decide),List.append_nil]
theorem Up.seg {cs:List Nat} {op:Bool} {s:SV} {e:Nat} (g:Up cs op s e):((s.ch.cps.toList.take e).drop s.off).length=e - s.off:=by rw [List.length_drop,List.length_take,len_str,Nat.min_eq_left g.g2]
theorem Up.all {cs:List Nat} {op:Bool} {s:SV} {x:Str} {u told:Nat} {pre post:List Nat} (g:Up cs op s s.ch.length) (a:At x s u told pre post):At x (fillS x s) (u+(s.ch.length - s.off)) told (pre++s.ch.cps.toList) []∧tkW cs op x u=s.ch.cps.toList.drop s.off++tkW cs op x (u+(s.ch.length - s.off))∧((dataS x s).length=0→tkW cs op x (u+(s.ch.length - s.off))=[]):=by
 have am:=a.move a.ok.off (Nat.le_refl _)
 have af:At x (fillS x s) (u+(s.ch.length - s.off)) told (pre++s.ch.cps.toList) []:=am.fill (Nat.lt_irrefl _)
 have hte:s.ch.cps.toList.take s.ch.length=s.ch.cps.toList:=List.take_of_length_le (by rw [len_str]; exact Nat.le_refl _)
 have hde:s.ch.cps.toList.drop s.ch.length=[]:=List.drop_of_length_le (by rw [len_str]; exact Nat.le_refl _)
 have hrest:x.cps.toList.drop (u+(s.ch.length - s.off))=x.cps.toList.drop s.p:=by
  rw [← am.rest]
  unfold restS
  show s.ch.cps.toList.drop s.ch.length++_=_
  rw [hde,List.nil_append]
  rfl
 refine ⟨af,?_,fun h0=>?_⟩
 ·have:=g.tw a
  rw [hte,hde,List.nil_append,← hrest] at this
  exact this
 ·unfold tkW
  have hl:=dataS_list a.ok
  rw [hrest,← hl,show (dataS x s).cps.toList=[] from List.eq_nil_of_length_eq_zero (by rw [len_str]; exact h0)]; rfl
section
variable {y a x p d k o ch:Nat}
theorem arA:x - p < x+1:=Nat.lt_succ_of_le (Nat.sub_le ..)
theorem arB:0+(x - p)≤x+1:=(Nat.zero_add _).symm▸Nat.le_succ_of_le (Nat.sub_le ..)
theorem arC (h:y+a≤x+1) (hx:x≤4000):y≤10000:=by exact (Nat.le_of_not_lt fun hn=>Lake.n3 [_,_,_] 1 (.a (.n 10000) (.n 1)) (.v 0) 1 (.a (.v 0) (.v 1)) (.a (.v 2) (.n 1)) 1 (.v 2) (.n 4000) rfl hn h hx)
theorem arD (h:ch≤x+8) (hx:x≤4000):ch≤10000:=by exact (Nat.le_of_not_lt fun hn=>Lake.n3 [_,_] 1 (.a (.n 10000) (.n 1)) (.v 0) 1 (.v 0) (.a (.v 1) (.n 8)) 1 (.v 1) (.n 4000) rfl hn h hx)
theorem arE (h:y+a≤x+1):y+1≤x+2:=by exact (Nat.le_of_not_lt fun hn=>Lake.n2 [_,_,_] 1 (.a (.a (.v 2) (.n 2)) (.n 1)) (.a (.v 0) (.n 1)) 1 (.a (.v 0) (.v 1)) (.a (.v 2) (.n 1)) rfl hn h)
theorem arF (h:y+(x - p)≤x+1) (hd:d=x - p) (h0:d≠0):y+1+(x - (p+d))≤x+1:=Nat.le_trans (Nat.add_le_add (Nat.add_le_add_left (Nat.pos_of_ne_zero h0) y) (Nat.le_of_eq (by rw [Nat.sub_add_eq,hd,Nat.sub_self]))) (by rw [Nat.add_zero,hd]; exact h)
theorem arG (h:x - p < k) (hd:d=x - p) (h0:d≠0):x - (p+d)+1 < k:=by rw [Nat.sub_add_eq,hd,Nat.sub_self,Nat.zero_add]; exact Nat.lt_of_le_of_lt (Nat.pos_of_ne_zero (hd▸h0)) h
theorem arH (h:y≤x+2) (hx:x≤4000) (ha:a≤x):a+y≤1048576:=by exact (Nat.le_of_not_lt fun hn=>Lake.n4 [_,_,_] 1 (.a (.n 1048576) (.n 1)) (.a (.v 2) (.v 0)) 1 (.v 0) (.a (.v 1) (.n 2)) 2 (.v 1) (.n 4000) 1 (.v 2) (.v 1) rfl hn h hx ha)
end
theorem map_snoc {ys:List Str} {y:Str}:ys.map V.str++[V.str y]=(ys++[y]).map V.str:=by rw [List.map_append]; rfl
section
variable {cs:List Nat} {op:Bool} {x:Str} {u:Nat} {ys:List Str} {l:List Nat}
theorem tw_stop (h:joinL ys++tkW cs op x (u+(joinL ys).length)=tkW cs op x u) (hl:tkW cs op x (u+(joinL ys).length)=l):joinL (ys++[⟨l.toArray⟩])=tkW cs op x u:=by rw [joinL_snoc,← h,hl]
theorem join_len (h:joinL (ys++[⟨l.toArray⟩])=tkW cs op x u):u+(tkW cs op x u).length=u+(joinL ys).length+l.length:=by rw [← h,joinL_snoc,List.length_append,Nat.add_assoc]
theorem tkW_le (h:u≤x.length):(tkW cs op x u).length≤x.length:=Nat.le_trans ((List.takeWhile_sublist _).length_le) (by rw [List.length_drop,len_str]; exact Nat.sub_le ..)
end
theorem c_charsUntil (c:Cx) (hK:c.K=top.heap_1 c.w.params) {o0 d t e:AO} {R:List AO} {x:Str} {u b told:Nat} (h:Strm x u b told d t e) (cs:List Nat) (op:Bool) {vs:List V} (hvs:vs=[.inst 166 1,.tup (cs.map fun k=>.str ⟨#[k]⟩),.bool op]∨(vs=[.inst 166 1,.tup (cs.map fun k=>.str ⟨#[k]⟩)]∧op=false)) :
  CallS c 4 (.ref 156) vs [] (RS o0 R x (u+(tkW cs op x u).length) 0 told (.str ⟨(tkW cs op x u).toArray⟩)) (fun z9=>False) (o0 :: d :: t :: e :: R):=by
 apply h; clear h; intro s pre post a hb0
 have hb:∀ fd:FuncData,∀ o,(top.heap_1 c.w.params).lookup 156=some o→o.data=.func fd→Binds c fd vs [] [(Str.ofString "self",.inst 166 1),(Str.ofString "characters",.tup (cs.map fun k=>.str ⟨#[k]⟩)),(Str.ofString "opposite",.bool op)]:=fun fd o ho hd=>by
  cases ho
  cases hd
  rcases hvs with rfl | ⟨rfl,rfl⟩
  ·exact bd3 (xs:=[.bool false]) hK rfl (by kernel_rfl) (fun z9 z9 z9=>rfl) .nil
  ·exact bd2 (xs:=[.bool false]) hK rfl (by kernel_rfl) (fun z9 z9=>rfl) (.cons ⟨rfl,Stat.of rfl⟩ .nil)
 refine cgo (bs:=[(Str.ofString "self",.inst 166 1),(Str.ofString "characters",.tup (cs.map fun k=>.str ⟨#[k]⟩)),(Str.ofString "opposite",.bool op)]) (others:=[Str.ofString "rv",Str.ofString "end",Str.ofString "r"]) hK (ok1 hK) rfl rfl rfl (by kernel_rfl) (by kernel_rfl) (hb _ _ rfl rfl) ?_
 intro κ hf hQ hN hX
 refine go0 4 (m':=.ex _ _ _ _) rfl rfl ?_
 refine vseq (U1 cs op o0 R x u told) ?_ ?_
 ·intro κ' kn kr kb kc kx ke
  refine vwhile (fun k=>U2 cs op o0 R x u told k) (x.length+1) (.mk s pre post ([]) none a rfl arA arB) ?_
  intro k _ _ _ h κ'' tn tc tb tr
  apply h; clear h; intro s' pre' post' ys e a' hj hk hy
  refine go0 5 (m':=.ex _ _ _ _) rfl rfl ?_
  have hlen:s'.off≤s'.ch.length:=a'.ok.off
  have hyl:(ys.map V.str).length≤10000:=by rw [List.length_map]; exact arC hy a'.ok.hx
  have hcl:s'.ch.length≤10000:=arD a'.ok.ch a'.ok.hx
  refine vseq (U4 cs op s' [.list (ys.map .str)] (o0 :: sD s' :: sT x s' :: sE s' :: R)) ?_ ?_
  ·intro κ3 en er eb ec ex ke
   refine vwhile (U3 cs op s' [.list (ys.map .str)] (o0 :: sD s' :: sT x s' :: sE s' :: R)) (s'.ch.length - s'.off) (.mk _ (.start hlen) rfl) ?_
   intro k' _ _ _ h κ4 wn wc wb wr
   apply h; clear h; intro e g hk'
   refine vbool ?_
   refine go0 2 (m':=.rt _ _ _ _ _) rfl rfl ?_
   by_cases ge:e=s'.ch.length
   ·refine vb (b':=false) (by rw [ge]; exact bne_self_eq_false' _) ?_
    refine go0 1 (m':=.rt _ _ _ _ _) rfl rfl ?_
    exact vwh_f (wb _ _ _ (vend (en _ _ _ (.mk e g (.inl ge)))))
   ·have hel:e < s'.ch.length:=Nat.lt_of_le_of_ne g.g2 ge
    refine vb (b':=true) (bne_iff_ne.mpr fun q=>ge (Int.ofNat.inj q)) ?_
    refine go0 2 (m':=.te _ _ _ _ _) rfl rfl ?_
    refine vcmpT rfl ?_
    refine vcmp rfl ?_
    refine go1 1 (m':=.rt _ _ _ _ _) rfl rfl ?_ ?_
    ·exact ixOk_nat hel hcl
    obtain ⟨q,hq⟩:∃ q,s'.ch.cps.toList[e]?=some q:=⟨_,List.getElem?_eq_getElem (by rw [len_str]; exact hel)⟩
    have hqd:s'.ch.cps.toList.getD (ixI s'.ch.length (e:Int)) 0=q:=by rw [ix_nat,List.getD_eq_getElem?_getD,hq]; rfl
    rw [hqd]
    refine go0 2 (m':=.rt _ _ _ _ _) rfl rfl ?_
    refine vin (flat1 cs) rfl ?_
    rw [any1]
    refine go0 4 (m':=.rt _ _ _ _ _) rfl rfl ?_
    cases hp:(decide (q∈cs)==op) with
    | true =>
     refine go0 4 (m':=.ex _ _ _ _) rfl rfl ?_
     exact vend (wn _ _ _ _ (by rw [hk']; exact Nat.sub_succ_lt_self _ _ hel) (.mk (e+1) (g.next hq hp) rfl))
    | false=>exact vwh_f (wb _ _ _ (vend (en _ _ _ (.mk e g (.inr ⟨q,hq,hp⟩)))))
  ·intro _ _ _ h
   apply h; clear h; intro e g g4
   refine vseq (fun l T W=>U5 cs op e [.list (ys.map .str)] (o0 :: sD s' :: sT x s' :: sE s' :: R) l T W∧e=s'.ch.length) ?_ ?_
   ·intro κ3 en er eb ec ex ke
    refine go0 2 (m':=.rt _ _ _ _ _) rfl rfl ?_
    by_cases eo:e=s'.off
    ·refine vb (b':=true) (by rw [eo]; exact beq_self_eq_true _) ?_
     refine go0 3 (m':=.rt _ _ _ _ _) rfl rfl ?_
     by_cases hn:s'.off=s'.ch.length
     ·refine vb (b':=false) (by rw [hn]; exact bne_self_eq_false' _) ?_
      refine go0 1 (m':=.ex _ _ _ _) rfl rfl ?_
      exact vend (en _ _ _ ⟨(.mk ),eo.trans hn⟩)
     ·refine vb (b':=true) (bne_iff_ne.mpr fun q=>hn (Int.ofNat.inj q)) ?_
      refine go0 1 (m':=.ex _ _ _ _) rfl rfl ?_
      have htw:=g.stop a' (g4.resolve_left fun q=>hn (eo▸q))
      have hz:=List.eq_nil_of_length_eq_zero (g.seg.trans (by rw [eo]; exact Nat.sub_self _))
      have hjj:joinL ys=tkW cs op x u:=by rw [← hj,htw,hz,List.append_nil]
      exact vbreak (eb _ _ _ (tb _ _ _ (vend (kn _ _ _ (.mk s' pre' post' ys _ hjj (hjj▸a') (Nat.le_of_succ_le (arE hy)))))))
    ·refine vb (b':=false) (beq_false_of_ne fun q=>eo (Int.ofNat.inj q)) ?_
     refine go0 3 (m':=.rt _ _ _ _ _) rfl rfl ?_
     by_cases he2:e=s'.ch.length
     ·refine vb (b':=false) (by rw [he2]; exact bne_self_eq_false' _) ?_
      refine go0 1 (m':=.ex _ _ _ _) rfl rfl ?_
      exact vend (en _ _ _ ⟨(.mk ),he2⟩)
     ·refine vb (b':=true) (bne_iff_ne.mpr fun q=>he2 (Int.ofNat.inj q)) ?_
      refine go2 14 (m':=.ex _ _ _ _) rfl rfl ?_ ?_ ?_
      ·exact hcl
      ·exact hyl
      have hjj:=tw_stop hj (g.stop a' (g4.resolve_left he2))
      rw [slS_mid s'.ch s'.off e g.g1 g.g2,map_snoc]
      refine vbreak (eb _ _ _ (tb _ _ _ (vend (kn _ _ _ (.mk (bumpS s' e) pre' post' _ _ hjj ?_ (by rw [List.length_append]; exact arE hy))))))
      rw [join_len hjj,g.seg]
      exact a'.move g.g1 g.g2
   ·rintro _ _ _ ⟨h,he2⟩
    subst he2
    apply h; clear h
    refine go2 17 (m':=.cl _ _ _ _ _ _) rfl rfl ?_ ?_ ?_
    ·exact hcl
    ·exact hyl
    refine vcallD (c_fill c hK a'.ok) rfl rfl ?_
    refine go0 2 (m':=.rt _ _ _ _ _) rfl rfl ?_
    rw [slS_from s'.ch s'.off hlen,map_snoc]
    obtain ⟨af,htw,h00⟩:=g.all a'
    have hdl:(s'.ch.cps.toList.drop s'.off).length=s'.ch.length - s'.off:=by rw [List.length_drop,len_str]
    by_cases hd0:(dataS x s').length=0
    ·refine vb (b':=true) (by rw [hd0]; rfl) ?_
     refine go0 1 (m':=.ex _ _ _ _) rfl rfl ?_
     have hjj:=tw_stop hj (by rw [htw,h00 hd0,List.append_nil])
     refine vbreak (tb _ _ _ (vend (kn _ _ _ (.mk (fillS x s') (pre'++s'.ch.cps.toList) ([]) _ _ hjj ?_ (by rw [List.length_append]; exact arE hy)))))
     rw [join_len hjj,hdl]
     exact af
    ·refine vb (b':=false) (by rw [show ((dataS x s').length != 0)=true from bne_iff_ne.mpr hd0]; rfl) ?_
     refine go0 1 (m':=.ex _ _ _ _) rfl rfl ?_
     have hsd:=dataS_len a'.ok
     refine vend (tn (x.length - (s'.p+(dataS x s').length)+1) _ _ _ (arG hk hsd hd0) (.mk (fillS x s') (pre'++s'.ch.cps.toList) ([]) _ _ ?_ ?_ (Nat.lt_succ_self _) ?_))
     ·rw [joinL_snoc,List.length_append,hdl,← Nat.add_assoc]; exact af
     ·rw [joinL_snoc,List.length_append,hdl,← Nat.add_assoc,List.append_assoc,← htw]; exact hj
     ·rw [List.length_append]
      exact arF hy hsd hd0
 ·intro _ _ _ h
  apply h; clear h; intro s' pre' post' ys e hj a' hy
  have hlt:(joinL ys).length≤x.length:=hj▸tkW_le a.ule
  refine go0 8 (m':=.cl _ _ _ _ _ _) rfl rfl ?_
  refine vjoin (ys:=ys) (.lo rfl) (by decide) (by rw [joinL_sum]; exact arH hy a'.ok.hx hlt) ?_
  rw [join_nil,hj]
  refine go0 3 (m':=.rt _ _ _ _ _) rfl rfl ?_
  exact hQ _ _ _ _ _ (.same rfl) (.mk (.mk s' pre' post' a' (Nat.zero_le _)))
end HL.Lake
end
noncomputable section
namespace HL.Lake
open PySem PySem.W PySem.Calls PyProof.Rows
theorem c_openStream (c:Cx) (hK:c.K=top.heap_1 c.w.params) {o0 o1:AO} (x:Str):CallD c 3 112 [.inst 166 1,.str x] [o0,o1] (.inst 73 2) [o0,o1,textD x 0]:=by
 refine cgo (bs:=[(Str.ofString "self",.inst 166 1),(Str.ofString "source",.str x)]) (others:=[Str.ofString "stream"]) hK (ok1 hK) rfl rfl rfl (by kernel_rfl) (by kernel_rfl) (binds2 (fun s X a b=>BindsTo.of_eq rfl) .nil) ?_
 intro κ hf hQ hN hX
 refine go0 8 (m':=.cl _ _ _ _ _ _) rfl rfl ?_
 refine vnew hK (fI:=63) (by kernel_rfl) (by kernel_rfl) (by kernel_rfl) rfl rfl rfl (c_Text_init c hK x) rfl ?_
 refine go0 3 (m':=.rt _ _ _ _ _) rfl rfl ?_
 exact hQ _ _ _ _ _ (.same rfl) ⟨rfl,rfl⟩
theorem c_reset (c:Cx) (hK:c.K=top.heap_1 c.w.params) {o0 t:AO}:CallD c 1 105 [.inst 166 1] [o0,.dict [(Str.ofString "reportCharacterErrors",.meth (.ref 148) (.inst 166 1)),(Str.ofString "newLines",.list [.int 0]),(Str.ofString "dataStream",.inst 73 2)],t] .none [o0,strD (Str.ofString "") 0 0 0 0,t,.list []]:=by
 refine cgo (bs:=[(Str.ofString "self",.inst 166 1)]) (others:=[]) hK (ok1 hK) rfl rfl rfl (by kernel_rfl) (by kernel_rfl) (binds1 (fun s X a=>BindsTo.of_eq rfl) .nil) ?_
 intro κ hf hQ hN hX
 refine go0 22 (m':=.ex _ _ _ _) rfl rfl ?_
 exact vend (hN _ _ _ ⟨rfl,rfl⟩)
theorem c_stream_init (c:Cx) (hK:c.K=top.heap_1 c.w.params) {o0:AO} (x:Str):CallD c 4 98 [.inst 166 1,.str x] [o0,.dict []] .none [o0,strD (Str.ofString "") 0 0 0 0,textD x 0,.list []]:=by
 refine cgo (bs:=[(Str.ofString "self",.inst 166 1),(Str.ofString "source",.str x)]) (others:=[]) hK (ok1 hK) rfl rfl rfl (by kernel_rfl) (by kernel_rfl) (binds2 (fun s X a b=>BindsTo.of_eq rfl) .nil) ?_
 intro κ hf hQ hN hX
 refine go0 18 (m':=.cl _ _ _ _ _ _) rfl rfl ?_
 refine vcallD (c_openStream c hK x) rfl rfl ?_
 refine go0 6 (m':=.cl _ _ _ _ _ _) rfl rfl ?_
 refine vcallD (c_reset c hK) rfl rfl ?_
 refine go0 1 (m':=.ex _ _ _ _) rfl rfl ?_
 exact vend (hN _ _ _ ⟨rfl,rfl⟩)
noncomputable def tokD (st ct:V):List (Str×V):=[(Str.ofString "stream",.inst 166 1),(Str.ofString "parser",.none),(Str.ofString "escapeFlag",.bool false),(Str.ofString "lastFourChars",.list []),(Str.ofString "state",st),(Str.ofString "escape",.bool false),(Str.ofString "currentToken",ct)]
noncomputable abbrev mtS (f:Addr):V:=.meth (.ref f) (.inst 762 0)
theorem c_tok_init (c:Cx) (hK:c.K=top.heap_1 c.w.params) (x:Str):CallD c 6 261 [.inst 762 0,.str x] [.dict []] .none [.dict (tokD (mtS 304) .none),strD (Str.ofString "") 0 0 0 0,textD x 0,.list []]:=by
 refine cgo (bs:=[(Str.ofString "self",.inst 762 0),(Str.ofString "stream",.str x),(Str.ofString "parser",.none)]) (others:=[]) hK (ok1 hK) rfl rfl rfl (by kernel_rfl) (by kernel_rfl) (bd2 (xs:=[.none]) hK rfl (by kernel_rfl) (fun z9 z9=>rfl) (.cons ⟨rfl,Stat.of rfl⟩ .nil)) ?_
 intro κ hf hQ hN hX
 refine go0 8 (m':=.cl _ _ _ _ _ _) rfl rfl ?_
 refine vnew hK (fI:=98) (by kernel_rfl) (by kernel_rfl) (by kernel_rfl) rfl rfl rfl (c_stream_init c hK x) rfl ?_
 refine go0 20 (m':=.ex _ _ _ _) rfl rfl ?_
 exact vend (hN _ _ _ ⟨rfl,rfl⟩)
theorem strm_start {x:Str} (h1:x.length≤4000) (h2:∀ a∈x.cps.toList,a≠13∧¬ (55296≤a∧a≤56319)):Strm x 0 0 0 (strD (Str.ofString "") 0 0 0 0) (textD x 0) (.list []) :=
 .mk ⟨⟨#[]⟩,0,0,0,0,0⟩ [] x.cps.toList ⟨⟨h1,h2,Nat.zero_le _,Nat.zero_le _,Nat.zero_le _,Nat.zero_le _⟩,rfl,rfl,rfl,rfl,rfl,rfl,.inr rfl⟩ (Nat.zero_le _)
end HL.Lake
end
noncomputable section
namespace HL.Lake
open PySem PySem.W PySem.Calls PyProof.Rows
theorem rep_at {c:Cx} (hK:c.K=top.heap_1 c.w.params):c.K.lookup 46=some (dictOf (mkI repTab) 34):=by rw [hK]; kernel_rfl
theorem rep_nd:(repTab.map (·.1)).Nodup:=by decide
noncomputable def repS (n:Int):Option (Int×Nat×Str×Nat):=repTab.find? fun p=>p.1=n
noncomputable def badN (n:Int):Bool:=(decide (55296≤n)&&decide (n≤57343))||decide (n > 1114111)
noncomputable def badT:List Int:=[11,65534,65535,131070,131071,196606,196607,262142,262143,327678,327679,393214,393215,458750,458751,524286,524287,589822,589823,655358,655359,720894,720895,786430,786431,851966,851967,917502,917503,983038,983039,1048574,1048575,1114110,1114111]
noncomputable def badC (n:Int):Bool:=(decide (1≤n)&&decide (n≤8))||((decide (14≤n)&&decide (n≤31))||((decide (127≤n)&&decide (n≤159))||((decide (64976≤n)&&decide (n≤65007))||((badT.map V.int).any fun y=>vf y (.int n)))))
noncomputable def numSign (n:Int):Str:=match repS n with
 | some p=>p.2.2.1
 | none=>if badN n then ⟨#[65533]⟩ else ⟨#[n.toNat]⟩
noncomputable def errT (s:Str):V:=.dict [(Str.ofString "type",.int 7),(Str.ofString "data",.str s)]
noncomputable def illT (n:Int):V:=.dict [(Str.ofString "type",.int 7),(Str.ofString "data",.str (Str.ofString "illegal-codepoint-for-numeric-entity")),(Str.ofString "datavars",.dict [(Str.ofString "charAsInt",.int n)])]
noncomputable def numErr (n:Int):List V:=if (repS n).isSome||(badN n||badC n) then [illT n] else []
noncomputable def allowedL (hex:Bool):List Nat:=if hex then hexDigitsL else digitsL
theorem allowed_fig (hex:Bool) (k:Nat):decide (k∈allowedL hex)=isFig hex k:=by
 rcases Nat.lt_or_ge k 128 with h | h
 ·have key:∀ hex:Bool,(List.range 128).all (fun k=>decide (k∈allowedL hex)==isFig hex k)=true:=by decide +kernel
  exact eq_of_beq (List.all_eq_true.mp (key hex) k (List.mem_range.mpr h))
 ·have h1:∀ hex:Bool,(allowedL hex).all (fun k=>decide (k < 128))=true:=by decide +kernel
  have hn:¬ k∈allowedL hex:=fun m=>Nat.not_lt.mpr h (of_decide_eq_true (List.all_eq_true.mp (h1 hex) k m))
  rw [decide_eq_false hn]
  unfold isFig
  rw [decide_eq_false (show ¬ k≤57 by exact (fun hn=>Lake.n2 [_] 1 (.v 0) (.n 57) 1 (.n 128) (.v 0) rfl hn h)),decide_eq_false (show ¬ k≤102 by exact (fun hn=>Lake.n2 [_] 1 (.v 0) (.n 102) 1 (.n 128) (.v 0) rfl hn h)),decide_eq_false (show ¬ k≤70 by exact (fun hn=>Lake.n2 [_] 1 (.v 0) (.n 70) 1 (.n 128) (.v 0) rfl hn h)),Bool.and_false,Bool.and_false,Bool.and_false,Bool.or_false,Bool.and_false,Bool.or_false]
theorem chV_in (x:Str) (u:Nat) (cs:List Nat):((cs.map fun k=>V.str ⟨#[k]⟩).any fun y=>vf y (chV x u))=(match x.cps.toList[u]? with | some k=>decide (k∈cs) | none=>false):=by
 unfold chV
 cases x.cps.toList[u]? with
 | some k=>exact any1 cs k
 | none =>
  rw [List.any_map,List.any_eq_false]
  intro a _ h
  cases h
theorem chV_flat (x:Str) (u:Nat):isFlatV (chV x u)=true:=by
 unfold chV
 cases x.cps.toList[u]? <;> rfl
noncomputable def figO (hex:Bool):Option Nat→Bool
 | some k=>isFig hex k
 | none=>false
noncomputable def numL (hex:Bool) (x:Str) (u:Nat):List Nat:=(x.cps.toList.drop u).takeWhile (isFig hex)
noncomputable def semi (x:Str) (u:Nat):Bool:=x.cps.toList[u]?==some 59
theorem numL_step {hex:Bool} {x:Str} {u j:Nat} (hj:j≤(numL hex x u).length) (hf:figO hex (x.cps.toList[u+j]?)=true):j < (numL hex x u).length∧∃ k,x.cps.toList[u+j]?=some k∧(numL hex x u)[j]?=some k:=by
 have key:∀ (l:List Nat) (j:Nat),j≤(l.takeWhile (isFig hex)).length→figO hex l[j]?=true→j < (l.takeWhile (isFig hex)).length∧∃ k,l[j]?=some k∧(l.takeWhile (isFig hex))[j]?=some k:=by
  intro l
  induction l with
  | nil=>intro j hj hf; cases hf
  | cons a l ih =>
   intro j hj hf
   cases ha:isFig hex a with
   | false =>
    rw [List.takeWhile_cons_of_neg (by rw [ha]; decide)] at hj
    have:j=0:=Nat.le_zero.mp hj
    subst this
    rw [List.getElem?_cons_zero] at hf
    rw [show isFig hex a=true from hf] at ha
    cases ha
   | true =>
    rw [List.takeWhile_cons_of_pos ha] at hj ⊢
    cases j with
    | zero=>exact ⟨Nat.succ_pos _,a,rfl,rfl⟩
    | succ j =>
     rw [List.getElem?_cons_succ] at hf
     obtain ⟨h1,k,h2,h3⟩:=ih j (Nat.le_of_succ_le_succ hj) hf
     exact ⟨Nat.succ_lt_succ h1,k,h2,h3⟩
 have:=key (x.cps.toList.drop u) j hj (by rw [List.getElem?_drop]; exact hf)
 rw [List.getElem?_drop] at this
 exact this
theorem numL_end {hex:Bool} {x:Str} {u j:Nat} (hj:j≤(numL hex x u).length) (hf:figO hex (x.cps.toList[u+j]?)=false):j=(numL hex x u).length:=by
 have key:∀ (l:List Nat) (j:Nat),j≤(l.takeWhile (isFig hex)).length→figO hex l[j]?=false→j=(l.takeWhile (isFig hex)).length:=by
  intro l
  induction l with
  | nil=>intro j hj hf; exact Nat.le_zero.mp hj
  | cons a l ih =>
   intro j hj hf
   cases ha:isFig hex a with
   | false =>
    rw [List.takeWhile_cons_of_neg (by rw [ha]; decide)] at hj ⊢
    exact Nat.le_zero.mp hj
   | true =>
    rw [List.takeWhile_cons_of_pos ha] at hj ⊢
    cases j with
    | zero=>rw [List.getElem?_cons_zero] at hf; rw [show isFig hex a=false from hf] at ha; cases ha
    | succ j =>
     rw [List.getElem?_cons_succ] at hf
     rw [List.length_cons,← ih j (Nat.le_of_succ_le_succ hj) hf]
 exact key (x.cps.toList.drop u) j hj (by rw [List.getElem?_drop]; exact hf)
theorem tw_all {p:Nat→Bool} {l:List Nat} {k:Nat} (h:k∈l.takeWhile p):p k=true:=by
 induction l with
 | nil=>cases h
 | cons a l ih =>
  cases ha:p a with
  | false=>rw [List.takeWhile_cons_of_neg (by rw [ha]; decide)] at h; cases h
  | true =>
   rw [List.takeWhile_cons_of_pos ha] at h
   rcases List.mem_cons.mp h with e | h
   ·exact e▸ha
   ·exact ih h
theorem joinL_one (l:List Nat):joinL (l.map fun k=>(⟨#[k]⟩:Str))=l:=by
 unfold joinL
 induction l with
 | nil=>rfl
 | cons a l ih=>rw [List.map_cons,List.map_cons,List.flatten_cons,ih]; rfl
theorem any_none (cs:List Nat):((cs.map fun k=>V.str ⟨#[k]⟩).any fun y=>vf y .none)=false:=by
 rw [List.any_map,List.any_eq_false]
 intro a _ h
 cases h
noncomputable def tkD (st ct:V):List (Str×V):=[(Str.ofString "stream",.inst 166 1),(Str.ofString "parser",.none),(Str.ofString "escapeFlag",.bool false),(Str.ofString "lastFourChars",.list []),(Str.ofString "state",st),(Str.ofString "escape",.bool false),(Str.ofString "currentToken",ct),(Str.ofString "tokenQueue",.ob 4)]
noncomputable def RT (st ct:V) (R:List AO) (x:Str) (u b told:Nat) (q:List V) (v:V) (z1:V) (z2:List AO):Prop:=∀ G:V→List AO→Prop,(∀ (d t e:AO) (h:Strm x u b told d t e),G v (.dict (tkD st ct) :: d :: t :: e :: .list q :: R))→G z1 z2
theorem RT.mk {st ct:V} {R:List AO} {x:Str} {u b told:Nat} {q:List V} {v:V} {d t e:AO} (h:Strm x u b told d t e):RT st ct R x u b told q v v (.dict (tkD st ct) :: d :: t :: e :: .list q :: R):=fun z9 z=>z d t e h
noncomputable def lcN (hex:Bool) (cs c n ch:Option V):Loc:=[(Str.ofString "self",some (.inst 762 0)),(Str.ofString "isHex",some (.bool hex)),(Str.ofString "allowed",some (.tup ((allowedL hex).map fun k=>.str ⟨#[k]⟩))),(Str.ofString "radix",some (.int (baseOf hex:Nat))),(Str.ofString "charStack",cs),(Str.ofString "c",c),(Str.ofString "charAsInt",n),(Str.ofString "char",ch),(Str.ofString "v",none)]
noncomputable def figV (hex:Bool) (x:Str) (u j:Nat):List V:=((numL hex x u).take j).map fun k=>.str ⟨#[k]⟩
noncomputable def NI (hex:Bool) (st ct:V) (R:List AO) (x:Str) (u told:Nat) (q:List V) (k:Nat) (z1:Loc) (z2:List AO) (z3:List AO):Prop:=∀ G:Loc→List AO→List AO→Prop,(∀ (d t e:AO) (j:Nat) (h:Strm x (min (u+j+1) x.length) (if u+j < x.length then 1 else 0) told d t e) (hj:j≤(numL hex x u).length) (hk:k=(numL hex x u).length - j),G (lcN hex (some (.lo 0)) (some (chV x (u+j))) none none) [.list (figV hex x u j)] (.dict (tkD st ct) :: d :: t :: e :: .list q :: R))→G z1 z2 z3
theorem NI.mk {hex:Bool} {st ct:V} {R:List AO} {x:Str} {u told:Nat} {q:List V} {k:Nat} {d t e:AO} (j:Nat) (h:Strm x (min (u+j+1) x.length) (if u+j < x.length then 1 else 0) told d t e) (hj:j≤(numL hex x u).length) (hk:k=(numL hex x u).length - j):NI hex st ct R x u told q k (lcN hex (some (.lo 0)) (some (chV x (u+j))) none none) [.list (figV hex x u j)] (.dict (tkD st ct) :: d :: t :: e :: .list q :: R):=fun z9 z=>z d t e j h hj hk
noncomputable def NE (hex:Bool) (st ct:V) (R:List AO) (x:Str) (u told:Nat) (q:List V) (n ch:Option V) (z1:Loc) (z2:List AO) (z3:List AO):Prop:=∀ G:Loc→List AO→List AO→Prop,(∀ (d t e:AO) (h:Strm x (min (u+(numL hex x u).length+1) x.length) (if u+(numL hex x u).length < x.length then 1 else 0) told d t e),G (lcN hex (some (.lo 0)) (some (chV x (u+(numL hex x u).length))) n ch) [.list (figV hex x u (numL hex x u).length)] (.dict (tkD st ct) :: d :: t :: e :: .list q :: R))→G z1 z2 z3
theorem NE.mk {hex:Bool} {st ct:V} {R:List AO} {x:Str} {u told:Nat} {q:List V} {n ch:Option V} {d t e:AO} (h:Strm x (min (u+(numL hex x u).length+1) x.length) (if u+(numL hex x u).length < x.length then 1 else 0) told d t e):NE hex st ct R x u told q n ch (lcN hex (some (.lo 0)) (some (chV x (u+(numL hex x u).length))) n ch) [.list (figV hex x u (numL hex x u).length)] (.dict (tkD st ct) :: d :: t :: e :: .list q :: R):=fun z9 z=>z d t e h
theorem numL_le (hex:Bool) {x:Str} {u:Nat} (h:u≤x.length):u+(numL hex x u).length≤x.length:=by
 have:(numL hex x u).length≤(x.cps.toList.drop u).length:=(List.takeWhile_sublist _).length_le
 rw [List.length_drop,len_str] at this
 exact Nat.le_trans (Nat.add_le_add_left this u) (Nat.le_of_eq (Nat.add_sub_cancel' h))
theorem chV_at {x:Str} {u k:Nat} (h:x.cps.toList[u]?=some k):chV x u=.str ⟨#[k]⟩:=by unfold chV; rw [h]
theorem chV_end {x:Str} {u:Nat} (h:x.cps.toList[u]?=none):chV x u=.none:=by unfold chV; rw [h]
theorem at_lt {x:Str} {u k:Nat} (h:x.cps.toList[u]?=some k):u < x.length:=by rw [← len_str]; exact (List.getElem?_eq_some_iff.mp h).1
theorem at_end {x:Str} {u:Nat} (h:x.cps.toList[u]?=none):x.length≤u:=by rw [← len_str]; exact List.getElem?_eq_none_iff.mp h
theorem vin_rep {c:Cx} (hK:c.K=top.heap_1 c.w.params) {n:Nat} {sc:Scope} {κ:Ct c sc τ1} {ks:List Fr} {l:Loc} {T W:List AO} {i:Int} (q:Vd n κ (.rt (.bool (repS i).isSome) ks l T W)):Vd n κ (.rt (.st (.ref 46)) (.cmp .In (.int i) :: ks) l T W):=kv_in_idict (rep_at hK) rfl rep_nd q
theorem vrep {c:Cx} (hK:c.K=top.heap_1 c.w.params) {n:Nat} {sc:Scope} {κ:Ct c sc τ1} {ks:List Fr} {l:Loc} {T W:List AO} {v:Int} {p:Int×Nat×Str×Nat} (hr:repS v=some p) {o i:PySem.Expr} {pos:Pos} (ho:PE c n κ.env o (.st (.ref 46)) κ.X ⟨l,T,W⟩) (hi:PE c n κ.env i (.int v) κ.X ⟨l,T,W⟩) (q:Vd n κ (.rt (.str p.2.2.1) ks l T W)):Vd n κ (.ev (.Subscript o i pos) ks l T W):=vsub_st (rep_at hK) ho hi (iv_idict (rep_at hK) rep_nd hr q)
theorem figV_snoc {hex:Bool} {x:Str} {u j k:Nat} (h:(numL hex x u)[j]?=some k):figV hex x u j++[.str ⟨#[k]⟩]=figV hex x u (j+1):=by
 unfold figV; rw [List.take_add_one,h,List.map_append]; rfl
theorem figV_all (hex:Bool) (x:Str) (u:Nat):figV hex x u (numL hex x u).length=((numL hex x u).map fun k=>(⟨#[k]⟩:Str)).map V.str:=by unfold figV; rw [List.take_length,List.map_map]; rfl
theorem figV_len {hex:Bool} {x:Str} {u j m:Nat} (h:(numL hex x u).length≤m):(figV hex x u j).length≤m:=by unfold figV; rw [List.length_map,List.length_take]; exact Nat.le_trans (Nat.min_le_right ..) h
theorem c_number_in (c:Cx) (hK:c.K=top.heap_1 c.w.params) {sc:Scope} {κ:Ct c sc τ1} {hex:Bool} {x:Str} {u:Nat} {ks:List Fr} {l:Loc} (hx:x.length≤600) (hux:u≤x.length) (hne:numL hex x u≠[]) {W:List AO} (hq:Vd 4 κ (.rt (.int (numVal hex (numL hex x u))) ks l [.list (figV hex x u (numL hex x u).length)] W)) :
  Vd 4 κ (.cl (.st (.type "int")) [.str (Txt.join (Str.ofString "") ((numL hex x u).map fun k=>⟨#[k]⟩)),.int (baseOf hex:Nat)] ks l [.list (figV hex x u (numL hex x u).length)] W):=by
 rw [join_nil,joinL_one]
 refine (cv_int (hex:=hex) rfl ?_ ?_ ?_ ?_:CV c 4 κ.env _ _ _ _ _)
 ·intro k hk; exact tw_all (l:=x.cps.toList.drop u) (by simpa [numL] using hk)
 ·simpa using hne
 ·have:=numL_le hex hux
  show (numL hex x u).toArray.size≤640
  rw [List.size_toArray]; exact (Nat.le_of_not_lt fun hn=>Lake.n3 [_,_,_] 1 (.a (.n 640) (.n 1)) (.v 2) 1 (.v 0) (.n 600) 1 (.a (.v 1) (.v 2)) (.v 0) rfl hn hx this)
 ·show Vd 4 κ (.rt (.int (numVal hex (numL hex x u).toArray.toList)) ks l _ W)
  rw [List.toList_toArray]; exact hq
theorem numErr_len (n:Int):(numErr n).length≤1:=by unfold numErr; split <;> exact Nat.le_of_ble_eq_true rfl
theorem ar_q {a b:Nat} (h:a≤5000) (hb:b≤1):a+b≤10000:=by exact (Nat.le_of_not_lt fun hn=>Lake.n3 [_,_] 1 (.a (.n 10000) (.n 1)) (.a (.v 0) (.v 1)) 1 (.v 0) (.n 5000) 1 (.v 1) (.n 1) rfl hn h hb)
theorem ar_q2 {a:Nat} (h:a≤5000):a≤10000:=by exact (Nat.le_of_not_lt fun hn=>Lake.n2 [_] 1 (.a (.n 10000) (.n 1)) (.v 0) 1 (.v 0) (.n 5000) rfl hn h)
theorem chr_ok {n:Nat} (h:badN n=false):(decide ((n:Int) < 0)||decide ((n:Int) > 1114111))=false:=by
 unfold badN at h
 rw [Bool.or_eq_false_iff] at h
 rw [h.2,decide_eq_false (Int.not_lt.mpr (Int.natCast_nonneg n))]; rfl
theorem ne_semi (k:Nat):((⟨#[k]⟩:Str) != Str.ofString ";")=!(k==59):=by
 rw [show Str.ofString ";"=⟨#[59]⟩ from by kernel_rfl]
 exact congrArg not (vf1 k 59)
noncomputable def semT (x:Str) (u:Nat):List V:=if semi x u then [] else [errT (Str.ofString "numeric-entity-without-semicolon")]
noncomputable def semN (x:Str) (u:Nat):Nat:=if semi x u then 1 else 0
theorem c_number (c:Cx) (hK:c.K=top.heap_1 c.w.params) {st ct:V} {R:List AO} {d t e:AO} {x:Str} {u b told:Nat} {q:List V} (h:Strm x u b told d t e) (hex:Bool) (hx:x.length≤600) (hq:q.length≤5000) (hne:numL hex x u≠[]) :
  CallS c 5 (.ref 275) [.inst 762 0,.bool hex] [] (RT st ct R x (u+(numL hex x u).length+semN x (u+(numL hex x u).length)) 0 told (q++numErr (numVal hex (numL hex x u))++semT x (u+(numL hex x u).length)) (.str (numSign (numVal hex (numL hex x u))))) (fun z9=>False) (.dict (tkD st ct) :: d :: t :: e :: .list q :: R):=by
 have hux:=h.ule
 obtain ⟨s0,rfl⟩:=h.fm
 have hnl:=numL_le hex hux
 have hq2:=ar_q2 hq
 refine cgo (bs:=[(Str.ofString "self",.inst 762 0),(Str.ofString "isHex",.bool hex)]) (others:=[Str.ofString "allowed",Str.ofString "radix",Str.ofString "charStack",Str.ofString "c",Str.ofString "charAsInt",Str.ofString "char",Str.ofString "v"]) hK (ok1 hK) rfl rfl rfl (by kernel_rfl) (by kernel_rfl) (binds2 (fun s X a b=>BindsTo.of_eq rfl) .nil) ?_
 intro κ hf hQ hN hX
 refine go0 6 (m':=.ex _ _ _ _) rfl rfl ?_
 refine vseq (fun l T W=>l=lcN hex none none none none∧T=[]∧W=.dict (tkD st ct) :: sD s0 :: t :: e :: .list q :: R) ?_ ?_
 ·intro κ' kn kr kb kc kx ke
  cases hex with
  | false=>refine go0 3 (m':=.ex _ _ _ _) rfl rfl ?_; exact vend (kn _ _ _ ⟨rfl,rfl,rfl⟩)
  | true=>refine go0 9 (m':=.ex _ _ _ _) rfl rfl ?_; exact vend (kn _ _ _ ⟨rfl,rfl,rfl⟩)
 rintro _ _ _ ⟨rfl,rfl,rfl⟩
 refine go0 9 (m':=.cl _ _ _ _ _ _) rfl rfl ?_
 refine vcall (c_charA c hK h) rfl rfl fun v W' hW=>?_
 apply hW; clear hW; intro _ _ _ h1
 obtain ⟨s1,rfl⟩:=h1.fm
 refine go0 1 (m':=.ex _ _ _ _) rfl rfl ?_
 refine vseq (NE hex st ct R x u told q none none) ?_ ?_
 ·intro κ' kn kr kb kc kx ke
  refine vwhile (NI hex st ct R x u told q) (numL hex x u).length (.mk 0 h1 (Nat.zero_le _) rfl) ?_
  intro k _ _ _ hI κ2 tn tc tb tr
  apply hI; clear hI; intro _ _ _ j h2 hj hk
  obtain ⟨s2,rfl⟩:=h2.fm
  cases hxk:x.cps.toList[u+j]? with
  | none =>
   have hje:=numL_end hj (by rw [hxk]; rfl)
   refine vbool ?_
   refine go0 1 (m':=.te _ _ _ _ _) rfl rfl ?_
   refine vcmpT rfl ?_
   refine go0 3 (m':=.rt _ _ _ _ _) rfl rfl ?_
   refine vin (flat1 _) (chV_flat ..) ?_
   rw [chV_end hxk,any_none]
   refine go0 2 (m':=.rt _ _ _ _ _) rfl rfl ?_
   rw [hje] at h2
   have hn:=NE.mk (st:=st) (ct:=ct) (R:=R) (q:=q) (n:=none) (ch:=none) h2
   rw [← hje,chV_end hxk] at hn
   exact vwh_f (tb _ _ _ (vend (kn _ _ _ hn)))
  | some k =>
   rw [chV_at hxk]
   refine vbool ?_
   refine go0 1 (m':=.te _ _ _ _ _) rfl rfl ?_
   refine vcmpT rfl ?_
   refine go0 3 (m':=.rt _ _ _ _ _) rfl rfl ?_
   refine vin (flat1 _) rfl ?_
   rw [any1,allowed_fig]
   have hul:=at_lt hxk
   cases hf:isFig hex k with
   | false =>
    have hje:=numL_end hj (by rw [hxk]; exact hf)
    refine go0 2 (m':=.rt _ _ _ _ _) rfl rfl ?_
    rw [hje] at h2
    have hn:=NE.mk (st:=st) (ct:=ct) (R:=R) (q:=q) (n:=none) (ch:=none) h2
    rw [← hje,chV_at hxk] at hn
    exact vwh_f (tb _ _ _ (vend (kn _ _ _ hn)))
   | true =>
    refine gC fun G hG=>?_
    obtain ⟨hlt,k2,hx1,hx2⟩:=numL_step hj (by rw [hxk]; exact hf)
    obtain rfl:k=k2:=Option.some.inj (hxk.symm.trans hx1)
    refine hG ?_
    refine go1 20 (m':=.cl _ _ _ _ _ _) rfl rfl ?_ ?_
    ·exact figV_len (Nat.le_trans (Nat.le_trans (Nat.le_add_left ..) hnl) (Nat.le_trans hx (by decide)))
    rw [Nat.min_eq_left hul] at h2
    refine vcall (c_charA c hK h2) rfl rfl fun v W' hW=>?_
    apply hW; clear hW; intro _ _ _ h3
    refine go0 1 (m':=.ex _ _ _ _) rfl rfl ?_
    rw [figV_snoc hx2]
    exact vend (tn _ _ _ _ (by rw [hk]; exact Nat.sub_succ_lt_self _ _ hlt) (.mk (j+1) h3 hlt rfl))
 ·intro _ _ _ hE
  apply hE; clear hE; intro d2 t2 e2 h2
  obtain ⟨s2,rfl⟩:=h2.fm
  refine go0 12 (m':=.cl _ _ _ _ _ _) rfl rfl ?_
  have hfl:(numL hex x u).length≤600:=Nat.le_trans (Nat.le_trans (Nat.le_add_left ..) hnl) hx
  refine vjoin (ys:=(numL hex x u).map fun k=>⟨#[k]⟩) (.lo (congrArg some (congrArg AO.list (figV_all hex x u)))) (by decide) ?_ ?_
  ·rw [joinL_sum,joinL_one,List.length_map]; exact (Nat.le_of_not_lt fun hn=>Lake.n2 [_] 1 (.a (.n 1048576) (.n 1)) (.a (.v 0) (.v 0)) 2 (.v 0) (.n 600) rfl hn hfl)
  refine go0 5 (m':=.cl _ _ _ _ _ _) rfl rfl ?_
  refine c_number_in c hK hx hux hne ?_
  refine go0 1 (m':=.ex _ _ _ _) rfl rfl ?_
  generalize numVal hex (numL hex x u)=n at *
  refine vseq (fun l T W=>l=lcN hex (some (.lo 0)) (some (chV x (u+(numL hex x u).length))) (some (.int n)) (some (.str (numSign n)))∧T=[.list (figV hex x u (numL hex x u).length)]∧W=.dict (tkD st ct) :: sD s2 :: t2 :: e2 :: .list (q++numErr n) :: R) ?_ ?_
  ·intro κ' kn kr kb kc kx ke
   refine go0 5 (m':=.rt _ _ _ _ _) rfl rfl ?_
   refine vin_rep hK ?_
   refine go0 1 (m':=.rt _ _ _ _ _) rfl rfl ?_
   cases hr:repS n with
   | some p =>
    refine go0 2 (m':=.ev _ _ _ _ _) rfl rfl ?_
    refine vrep hK hr (pe_run (k:=3) rfl) (pe_run (k:=3) rfl) ?_
    refine go1 33 (m':=.ex _ _ _ _) rfl rfl ?_ ?_
    ·exact hq2
    have hs:numSign n=p.2.2.1:=by unfold numSign; rw [hr]
    have he2:numErr n=[illT n]:=by unfold numErr; rw [hr]; rfl
    exact vend (kn _ _ _ ⟨by rw [hs]; first | done | rfl,rfl,by rw [he2]; first | done | rfl⟩)
   | none =>
    refine go0 3 (m':=.rt _ _ _ _ _) rfl rfl ?_
    cases hbn:badN n with
    | true =>
     refine vb hbn ?_
     refine go1 36 (m':=.ex _ _ _ _) rfl rfl ?_ ?_
     ·exact hq2
     have hs:numSign n=Str.ofString "\uFFFD":=by unfold numSign; rw [hr,hbn]; kernel_rfl
     have he2:numErr n=[illT n]:=by unfold numErr; rw [hr,hbn]; rfl
     exact vend (kn _ _ _ ⟨by rw [hs]; first | done | rfl,rfl,by rw [he2]; first | done | rfl⟩)
    | false =>
     have hs:numSign n=⟨#[n]⟩:=by unfold numSign; rw [hr,hbn]; rfl
     refine vb hbn ?_
     refine go0 3 (m':=.rt _ _ _ _ _) rfl rfl ?_
     cases hbc:badC n with
     | true =>
      refine vb hbc ?_
      refine go1 33 (m':=.ex _ _ _ _) rfl rfl ?_ ?_
      ·exact hq2
      refine vtryn fun κ2 tn tr=>?_
      refine go1 10 (m':=.ex _ _ _ _) rfl rfl ?_ ?_
      ·exact chr_ok hbn
      have he2:numErr n=[illT n]:=by unfold numErr; rw [hr,hbn,hbc]; rfl
      exact vend (tn _ _ _ (vend (kn _ _ _ ⟨by rw [hs]; first | done | rfl,rfl,by rw [he2]; first | done | rfl⟩)))
     | false =>
      refine vb hbc ?_
      refine go0 1 (m':=.ex _ _ _ _) rfl rfl ?_
      refine vtryn fun κ2 tn tr=>?_
      refine go1 10 (m':=.ex _ _ _ _) rfl rfl ?_ ?_
      ·exact chr_ok hbn
      have he2:numErr n=[]:=by unfold numErr; rw [hr,hbn,hbc]; rfl
      exact vend (tn _ _ _ (vend (kn _ _ _ ⟨by rw [hs]; first | done | rfl,rfl,by rw [he2,List.append_nil]; first | done | rfl⟩)))
  ·rintro _ _ _ ⟨rfl,rfl,rfl⟩
   have hz3:(q++numErr n).length≤10000:=by rw [List.length_append]; exact ar_q hq (numErr_len _)
   cases hxk:x.cps.toList[u+(numL hex x u).length]? with
   | none =>
    rw [chV_end hxk]
    have hle:=Nat.le_antisymm (at_end hxk) hnl
    refine go1 32 (m':=.cl _ _ _ _ _ _) rfl rfl ?_ ?_
    ·exact hz3
    refine vcallD (c_unget_none c hK) rfl rfl ?_
    refine go0 3 (m':=.rt _ _ _ _ _) rfl rfl ?_
    rw [if_neg (Nat.not_lt.mpr (Nat.le_of_eq hle)),Nat.min_eq_right (Nat.le_succ_of_le (Nat.le_of_eq hle)),hle] at h2
    refine hQ _ _ _ _ _ (.same rfl) ?_
    rw [show semN x (u+(numL hex x u).length)=0 by unfold semN semi; rw [hxk]; rfl,show semT x (u+(numL hex x u).length)=[errT (Str.ofString "numeric-entity-without-semicolon")] by unfold semT semi; rw [hxk]; rfl]
    exact (.mk h2)
   | some k =>
    rw [chV_at hxk]
    have hlt:=at_lt hxk
    rw [if_pos hlt,Nat.min_eq_left hlt] at h2
    refine go0 2 (m':=.rt _ _ _ _ _) rfl rfl ?_
    cases hs:(some k==some 59) with
    | true =>
     refine vb (b':=false) (by rw [ne_semi]; rw [show (k==59)=true from hs]; rfl) ?_
     refine go0 3 (m':=.rt _ _ _ _ _) rfl rfl ?_
     refine hQ _ _ _ _ _ (.same rfl) ?_
     rw [show semN x (u+(numL hex x u).length)=1 by unfold semN semi; rw [hxk,hs]; rfl,show semT x (u+(numL hex x u).length)=[] by unfold semT semi; rw [hxk,hs]; rfl,List.append_nil]
     exact (.mk h2.weak)
    | false =>
     refine vb (b':=true) (by rw [ne_semi]; rw [show (k==59)=false from hs]; rfl) ?_
     refine go1 30 (m':=.cl _ _ _ _ _ _) rfl rfl ?_ ?_
     ·exact hz3
     refine vcall (c_ungetA c hK h2 hxk) rfl rfl fun v W' hW=>?_
     apply hW; clear hW; intro _ _ _ h3
     refine go0 3 (m':=.rt _ _ _ _ _) rfl rfl ?_
     refine hQ _ _ _ _ _ (.same rfl) ?_
     rw [show semN x (u+(numL hex x u).length)=0 by unfold semN semi; rw [hxk,hs]; rfl,show semT x (u+(numL hex x u).length)=[errT (Str.ofString "numeric-entity-without-semicolon")] by unfold semT semi; rw [hxk,hs]; rfl]
     exact (.mk h3)
end HL.Lake
end
noncomputable section
namespace HL.Lake
open PySem PySem.W PySem.Calls PyProof.Rows
noncomputable def subL (x:Str) (a b:Nat):List Nat:=(x.cps.toList.take b).drop a
noncomputable def subS (x:Str) (a b:Nat):Str:=⟨(subL x a b).toArray⟩
noncomputable def amp (l:List Nat):Str:=⟨(38 :: l).toArray⟩
noncomputable def inC (cs:List Nat):Option Nat→Bool
 | some k=>decide (k∈cs)
 | none=>false
noncomputable def stopB (al:Option Nat) (o:Option Nat):Bool:=inC spaceCharactersL o||(match o with | none=>true | some k=>k==60||k==38)||(match al,o with | some a,some k=>a==k | _,_=>false)
set_option genInjectivity false in
structure ER where
 es:List V
 out:Str
 used:Nat
noncomputable def numR (x:Str) (u:Nat):ER :=
 let hex:=inC [120,88] (x.cps.toList[u+1]?)
 let v:=u+1+(if hex then 1 else 0)
 if figO hex (x.cps.toList[v]?) then
  let nl:=(numL hex x v).length
  ⟨numErr (numVal hex (numL hex x v))++(if semi x (v+nl) then [] else [errT (Str.ofString "numeric-entity-without-semicolon")]),numSign (numVal hex (numL hex x v)),v+nl+(if semi x (v+nl) then 1 else 0) - u⟩
 else ⟨[errT (Str.ofString "expected-numeric-entity")],amp (subL x u v),v - u⟩
noncomputable def alV:Option Nat→V
 | some k=>.str ⟨#[k]⟩
 | none=>.none
noncomputable def spcB (s:Str):Bool:=(spaceCharactersL.map fun k=>V.str ⟨#[k]⟩).any fun y=>vf y (.str s)
noncomputable def chT (s:Str):V:=.dict [(Str.ofString "type",.int (if spcB s then 2 else 1)),(Str.ofString "data",.str s)]
theorem inC_any (x:Str) (u:Nat) (cs:List Nat):((cs.map fun k=>V.str ⟨#[k]⟩).any fun y=>vf y (chV x u))=inC cs (x.cps.toList[u]?):=by
 rw [chV_in]
 cases x.cps.toList[u]? <;> rfl
theorem stop2 (x:Str) (u:Nat):([V.none,.str (Str.ofString "<"),.str (Str.ofString "&")].any fun y=>vf y (chV x u))=(match x.cps.toList[u]? with | none=>true | some k=>k==60||k==38):=by
 rw [show Str.ofString "<"=⟨#[60]⟩ by kernel_rfl,show Str.ofString "&"=⟨#[38]⟩ by kernel_rfl]
 unfold chV
 cases x.cps.toList[u]? with
 | none=>rfl
 | some k =>
  show (false||(vf (.str ⟨#[60]⟩) (.str ⟨#[k]⟩)||(vf (.str ⟨#[38]⟩) (.str ⟨#[k]⟩)||false)))=(k==60||k==38)
  rw [vf1,vf1,Bool.false_or,Bool.or_false,Bool.beq_comm (a:=60),Bool.beq_comm (a:=38)]
theorem stop_eq (x:Str) (u:Nat) (al:Option Nat):(inC spaceCharactersL (x.cps.toList[u]?)||((match x.cps.toList[u]? with | none=>true | some k=>k==60||k==38)||(!isNoneV (alV al)&&vf (alV al) (chV x u))))=stopB al (x.cps.toList[u]?):=by
 unfold stopB
 rw [← Bool.or_assoc]
 congr 1
 unfold chV
 cases al with
 | none=>cases x.cps.toList[u]? <;> rfl
 | some a =>
  cases x.cps.toList[u]? with
  | none=>rfl
  | some k=>show (true&&vf (.str ⟨#[a]⟩) (.str ⟨#[k]⟩))=(a==k); rw [vf1,Bool.true_and]
theorem c_back (c:Cx) (hK:c.K=top.heap_1 c.w.params) {o0 d t e:AO} {R:List AO} {x:Str} {u told:Nat} (h:Strm x (min (u+1) x.length) (if u < x.length then 1 else 0) told d t e) (hu:u≤x.length) :
  CallS c 1 (.ref 163) [.inst 166 1,chV x u] [] (RS o0 R x u 0 told .none) (fun z9=>False) (o0 :: d :: t :: e :: R):=by
 cases hxk:x.cps.toList[u]? with
 | none =>
  have hle:=Nat.le_antisymm (at_end hxk) hu
  rw [chV_end hxk]
  rw [if_neg (Nat.not_lt.mpr (Nat.le_of_eq hle)),Nat.min_eq_right (Nat.le_succ_of_le (Nat.le_of_eq hle)),hle] at h
  refine (c_unget_none c hK).mono ?_ fun z9 h=>h
  rintro _ _ ⟨rfl,rfl⟩
  exact (.mk h)
 | some k =>
  have hlt:=at_lt hxk
  rw [chV_at hxk]
  rw [if_pos hlt,Nat.min_eq_left hlt] at h
  exact c_ungetA c hK h hxk
theorem hex_any (x:Str) (u:Nat):([V.str (Str.ofString "x"),.str (Str.ofString "X")].any fun y=>vf y (chV x u))=inC [120,88] (x.cps.toList[u]?):=by
 rw [show Str.ofString "x"=⟨#[120]⟩ by kernel_rfl,show Str.ofString "X"=⟨#[88]⟩ by kernel_rfl]
 exact inC_any x u [120,88]
theorem inC_fig (hex:Bool) (o:Option Nat):inC (allowedL hex) o=figO hex o:=by
 cases o with
 | none=>rfl
 | some k=>exact allowed_fig hex k
theorem amp_eq (l:List Nat):Str.ofString "&"++(⟨l.toArray⟩:Str)=amp l:=by
 rw [show Str.ofString "&"=⟨#[38]⟩ by kernel_rfl]
 show (⟨#[38]++l.toArray⟩:Str)=⟨(38 :: l).toArray⟩
 simp
theorem numSign_len (n:Int):(numSign n).length≤1:=by
 unfold numSign
 cases h:repS n with
 | none=>dsimp only; split <;> exact Nat.le_refl 1
 | some p =>
  have hm:p∈repTab:=List.mem_of_find?_eq_some h
  have:∀ p∈repTab,p.2.2.1.length≤1:=by decide
  exact this p hm
theorem subS_len (x:Str) (a b:Nat):(subS x a b).length≤x.length:=by
 show (subL x a b).toArray.size≤_
 unfold subL
 simp
 rw [← len_str]
 simp
 exact (Nat.le_of_not_lt fun hn=>Lake.n2 [_,_,_] 1 (.a (.a (.v 0) (.v 1)) (.n 1)) (.v 2) 1 (.v 2) (.v 0) rfl hn (Nat.min_le_right _ _))
theorem sub_snoc {x:Str} {u m k:Nat} (h:x.cps.toList[u+m]?=some k):subL x u (u+m+1)=subL x u (u+m)++[k]:=by
 have hl:=(List.getElem?_eq_some_iff.mp h).1
 unfold subL
 rw [List.take_add_one,h,List.drop_append_of_le_length (by rw [List.length_take]; exact Nat.le_min.mpr ⟨Nat.le_add_right u m,Nat.le_of_lt (Nat.lt_of_le_of_lt (Nat.le_add_right u m) hl)⟩)]
 rfl
theorem semi_len (b:Bool) (s:V):(if b=true then ([]:List V) else [s]).length≤1:=by cases b <;> simp
theorem ER_ite {b:Bool} {A B:ER} {P:ER→Prop} (h1:P A) (h2:P B):P (if b=true then A else B):=by
 cases b
 ·exact h2
 ·exact h1
theorem numL_ne {hex:Bool} {x:Str} {v:Nat} (h:figO hex (x.cps.toList[v]?)=true):numL hex x v≠[]:=by
 obtain ⟨h1,_⟩:=numL_step (hex:=hex) (x:=x) (u:=v) (j:=0) (Nat.zero_le _) h
 intro e
 rw [e] at h1
 exact Nat.lt_irrefl _ h1
theorem fig_eq (hb:Bool) (o:Option Nat):((hb&&inC hexDigitsL o)||(!hb&&inC digitsL o))=figO hb o:=by
 rw [← inC_fig]
 unfold allowedL
 cases hb
 ·rw [if_neg (by decide)]; rfl
 ·rw [if_pos rfl]; cases inC hexDigitsL o <;> rfl
end HL.Lake
end
noncomputable section
namespace HL.Lake
open PySem PySem.W PySem.Calls PyProof.Rows
noncomputable def lcE (al:Option Nat) (attr:Bool) (out cs hx nm ln:Option V):Loc:=[(Str.ofString "self",some (.inst 762 0)),(Str.ofString "allowedChar",some (alV al)),(Str.ofString "fromAttribute",some (.bool attr)),(Str.ofString "output",out),(Str.ofString "charStack",cs),(Str.ofString "hex",hx),(Str.ofString "entityName",nm),(Str.ofString "entityLength",ln),(Str.ofString "tokenType",none)]
noncomputable def EJ (al:Option Nat) (attr:Bool) (st ct:V) (R:List AO) (x:Str) (u told:Nat) (q:List V) (r:ER) (z1:Loc) (z2:List AO) (z3:List AO):Prop:=∀ G:Loc→List AO→List AO→Prop,(∀ (d t e:AO) (T:List AO) (hv nm ln:Option V) (h:Strm x (u+r.used) 0 told d t e),G (lcE al attr (some (.str r.out)) (some (.lo 0)) hv nm ln) T (.dict (tkD st ct) :: d :: t :: e :: .list (q++r.es) :: R))→G z1 z2 z3
theorem EJ.mk {al:Option Nat} {attr:Bool} {st ct:V} {R:List AO} {x:Str} {u told:Nat} {q:List V} {r:ER} {d t e:AO} {T:List AO} {hv nm ln:Option V} (h:Strm x (u+r.used) 0 told d t e):EJ al attr st ct R x u told q r (lcE al attr (some (.str r.out)) (some (.lo 0)) hv nm ln) T (.dict (tkD st ct) :: d :: t :: e :: .list (q++r.es) :: R):=fun z9 z=>z d t e T hv nm ln h
noncomputable def EH (al:Option Nat) (attr:Bool) (st ct:V) (R:List AO) (x:Str) (u told:Nat) (q:List V) (hb:Bool) (z1:Loc) (z2:List AO) (z3:List AO):Prop:=∀ G:Loc→List AO→List AO→Prop,(∀ (d t e:AO) (pre:List Str) (h:Strm x (min (u+1+(if hb then 1 else 0)+1) x.length) (if u+1+(if hb then 1 else 0) < x.length then 1 else 0) told d t e) (hp:joinL pre=subL x u (u+1+(if hb then 1 else 0))) (hl:pre.length≤2) (hv:u+1+(if hb then 1 else 0)≤x.length),G (lcE al attr (some (.str (Str.ofString "&"))) (some (.lo 0)) (some (.bool hb)) none none) [.list (pre.map V.str++[chV x (u+1+(if hb then 1 else 0))])] (.dict (tkD st ct) :: d :: t :: e :: .list q :: R))→G z1 z2 z3
theorem EH.mk {al:Option Nat} {attr:Bool} {st ct:V} {R:List AO} {x:Str} {u told:Nat} {q:List V} {hb:Bool} {d t e:AO} (pre:List Str) (h:Strm x (min (u+1+(if hb then 1 else 0)+1) x.length) (if u+1+(if hb then 1 else 0) < x.length then 1 else 0) told d t e) (hp:joinL pre=subL x u (u+1+(if hb then 1 else 0))) (hl:pre.length≤2) (hv:u+1+(if hb then 1 else 0)≤x.length):EH al attr st ct R x u told q hb (lcE al attr (some (.str (Str.ofString "&"))) (some (.lo 0)) (some (.bool hb)) none none) [.list (pre.map V.str++[chV x (u+1+(if hb then 1 else 0))])] (.dict (tkD st ct) :: d :: t :: e :: .list q :: R):=fun z9 z=>z d t e pre h hp hl hv
theorem sub_one {x:Str} {u k:Nat} (h:x.cps.toList[u]?=some k):subL x u (u+1)=[k]:=by
 have:=sub_snoc (x:=x) (u:=u) (m:=0) (k:=k) h
 rw [this,show subL x u (u+0)=[] from List.drop_of_length_le (by rw [List.length_take]; exact Nat.min_le_left ..)]; rfl
theorem sub_two {x:Str} {u k j:Nat} (h:x.cps.toList[u]?=some k) (h2:x.cps.toList[u+1]?=some j):subL x u (u+1+1)=[k,j]:=by
 rw [sub_snoc h2,sub_one h]; rfl
theorem ar_back {u v a b:Nat} (h:u≤v):u+(v+a+b - u)=v+a+b:=Nat.add_sub_cancel' (Nat.le_trans h (Nat.le_trans (Nat.le_add_right ..) (Nat.le_add_right ..)))
theorem ar_jn {l n p:Nat} {x:Str} (h:l≤x.length) (hx:x.length≤600) (hp:p≤n) (hn:n≤2000):l+p≤1048576:=Nat.le_trans (Nat.add_le_add (Nat.le_trans h hx) (Nat.le_trans hp hn)) (Nat.le_of_ble_eq_true rfl)
theorem amp_sz {l:List Nat} (h:(⟨l.toArray⟩:Str).length≤600):(Str.ofString "&").length+(⟨l.toArray⟩:Str).length≤sizeLine:=Nat.le_trans (Nat.add_le_add (show (Str.ofString "&").length≤1 from Nat.le_of_ble_eq_true (by kernel_rfl)) h) (sz_le (by decide))
noncomputable def fdOf (P:Params) (f:Addr):FuncData:=match (top.heap_1 P).lookup f with
 | some ⟨_,_,.func fd,_⟩=>fd
 | _=>default
noncomputable def bodyOf (P:Params) (f:Addr):List Stmt:=match (fdOf P f).body with
 | .stmts b=>b
 | _=>[]
theorem ix0 {a:V}:IxOk [a].length (0:Int):=ixOk_nat (n:=1) (k:=0) (by decide) (by decide)
theorem eq1 (k:Nat) {s:Str} {j:Nat} (h:s=⟨#[j]⟩):((⟨#[k]⟩:Str)==s)=(k==j):=h▸vf1 k j
theorem stop_all (x:Str) (u:Nat) (al:Option Nat):(((spaceCharactersL.map fun k=>V.str ⟨#[k]⟩).any fun y=>vf y (chV x u))||(([V.none,.str (Str.ofString "<"),.str (Str.ofString "&")].any fun y=>vf y (chV x u))||(!isNoneV (alV al)&&vf (alV al) (chV x u))))=stopB al (x.cps.toList[u]?):=by
 rw [inC_any,stop2,stop_eq]
theorem c_entity (c:Cx) (hK:c.K=top.heap_1 c.w.params) {st ct:V} {R:List AO} {d t e:AO} {x:Str} {u b told:Nat} {q:List V} (h:Strm x u b told d t e) (hx:x.length≤600) (hq:q.length≤4000) (al:Option Nat) (attr:Bool) (hst:stopB al (x.cps.toList[u]?)=false) (h35:x.cps.toList[u]?=some 35) {P:V→List AO→Prop} {vs:List V} {kw:List (Str×V)} (hvs:(kw=[]∧vs=[.inst 762 0]∧al=none∧attr=false)∨(vs=[.inst 762 0]∧kw=[(Str.ofString "allowedChar",alV al),(Str.ofString "fromAttribute",.bool attr)]))
  (fin:∀ κ:Ct c (fdOf c.w.params 283).scope τ1,(∀ l T W,P .none W→κ.Q .next ⟨l,T,W⟩)→∀ l T W,EJ al attr st ct R x u told q (numR x u) l T W→Vd 5 κ (.ex ((bodyOf c.w.params 283).drop 3) l T W)) :
  CallS c 6 (.ref 283) vs kw P (fun z9=>False) (.dict (tkD st ct) :: d :: t :: e :: .list q :: R):=by
 have hux:=h.ule
 obtain ⟨s0,rfl⟩:=h.fm
 have hb:∀ fd:FuncData,∀ o,(top.heap_1 c.w.params).lookup 283=some o→o.data=.func fd→Binds c fd vs kw [(Str.ofString "self",.inst 762 0),(Str.ofString "allowedChar",alV al),(Str.ofString "fromAttribute",.bool attr)]:=fun fd o ho hd=>by
  cases ho
  cases hd
  rcases hvs with ⟨rfl,rfl,rfl,rfl⟩ | ⟨rfl,rfl⟩
  ·exact bd1 (xs:=[.none,.bool false]) hK rfl (by kernel_rfl) (fun z9=>rfl) (.cons ⟨rfl,Stat.of rfl⟩ (.cons ⟨rfl,Stat.of rfl⟩ .nil))
  ·exact bdk2 (xs:=[.none,.bool false]) hK rfl (by kernel_rfl) (fun z9 z9 z9=>rfl) (fun z9 z9 z9=>rfl)
 refine cgo (bs:=[(Str.ofString "self",.inst 762 0),(Str.ofString "allowedChar",alV al),(Str.ofString "fromAttribute",.bool attr)]) (others:=[Str.ofString "output",Str.ofString "charStack",Str.ofString "hex",Str.ofString "entityName",Str.ofString "entityLength",Str.ofString "tokenType"]) hK (ok1 hK) rfl rfl rfl (by kernel_rfl) (by kernel_rfl) (hb _ _ rfl rfl) ?_
 intro κ hf hQ hN hX
 refine go0 10 (m':=.cl _ _ _ _ _ _) rfl rfl ?_
 refine vcall (c_charA c hK h) rfl rfl fun v W' hW=>?_
 apply hW; clear hW; intro d1 t1 e1 h1
 obtain ⟨s1,rfl⟩:=h1.fm
 refine go0 3 (m':=.ex _ _ _ _) rfl rfl ?_
 refine vseq (EJ al attr st ct R x u told q (numR x u)) ?_ ?_
 ·intro κ' kn kr kb kc kx ke
  refine go0 1 (m':=.te _ _ _ _ _) rfl rfl ?_
  refine vtest (b:=stopB al (x.cps.toList[u]?)) ?_ ?_
  ·have hs:=stop_all x u al
   cases hxu:x.cps.toList[u]? with
   | none =>
    rw [chV_end hxu] at hs ⊢
    rw [hxu] at hs
    cases al with
    | none=>exact pt_run (k:=12) rfl ⟨ix0,ix0,ix0,trivial⟩ hs
    | some a=>exact pt_run (k:=12) rfl ⟨ix0,ix0,ix0,trivial⟩ hs
   | some k =>
    rw [chV_at hxu] at hs ⊢
    rw [hxu] at hs
    cases al with
    | none=>exact pt_run (k:=12) rfl ⟨ix0,ix0,ix0,trivial⟩ hs
    | some a=>exact pt_run (k:=12) rfl ⟨ix0,ix0,ix0,trivial⟩ hs
  rw [hst]
  have hxu:=h35
  rw [chV_at hxu]
  have hlt:=at_lt hxu
  rw [if_pos hlt,Nat.min_eq_left (show u+1≤x.length from hlt)] at h1
  refine go1 3 (m':=.rt _ _ _ _ _) rfl rfl ?_ ?_
  ·exact ix0
  rw [eq1 35 (j:=35) (by kernel_rfl)]
  generalize hR0:numR x u=rr at kn
  have hR:=hR0.symm
  rw [show ((35:Nat)==35)=true from rfl]
  refine go0 13 (m':=.cl _ _ _ _ _ _) rfl rfl ?_
  refine vcall (c_charA c hK h1) rfl rfl fun v W' hW=>?_
  apply hW; clear hW; intro d2 t2 e2 h2
  obtain ⟨s2,rfl⟩:=h2.fm
  refine go1 4 (m':=.ex _ _ _ _) rfl rfl ?_ ?_
  ·exact Nat.le_of_ble_eq_true rfl
  refine vseq (EH al attr st ct R x u told q (inC [120,88] (x.cps.toList[u+1]?))) ?_ ?_
  ·intro κ2 en er eb ec ex ee
   have hs1:=sub_one hxu
   cases hxv:x.cps.toList[u+1]? with
   | none =>
    rw [chV_end hxv]
    rw [hxv] at en
    refine go1 3 (m':=.ex _ _ _ _) rfl rfl ?_ ?_
    ·exact ixOk_last (n:=2) (by decide) (by decide)
    have hE:=EH.mk (al:=al) (attr:=attr) (st:=st) (ct:=ct) (R:=R) (x:=x) (u:=u) (told:=told) (q:=q) (hb:=false) [⟨#[35]⟩] h2 hs1.symm (Nat.le_of_ble_eq_true rfl) hlt
    rw [show u+1+(if false=true then 1 else 0)=u+1 from rfl,chV_end hxv] at hE
    exact vend (en _ _ _ hE)
   | some k1 =>
    have hla:=at_lt hxv
    have hha:=hex_any x (u+1)
    rw [chV_at hxv,hxv] at hha
    rw [chV_at hxv]
    rw [hxv] at en
    refine go1 2 (m':=.rt _ _ _ _ _) rfl rfl ?_ ?_
    ·exact ixOk_last (n:=2) (by decide) (by decide)
    rw [hha]
    cases hh:inC [120,88] (some k1) with
    | true =>
     rw [hh] at en
     rw [if_pos hla,Nat.min_eq_left (show u+1+1≤x.length from hla)] at h2
     refine go0 13 (m':=.cl _ _ _ _ _ _) rfl rfl ?_
     refine vcall (c_charA c hK h2) rfl rfl fun v W' hW=>?_
     apply hW; clear hW; intro d3 t3 e3 h3
     refine go1 4 (m':=.ex _ _ _ _) rfl rfl ?_ ?_
     ·exact Nat.le_of_ble_eq_true rfl
     exact vend (en _ _ _ (EH.mk (hb:=true) [⟨#[35]⟩,⟨#[k1]⟩] h3 (sub_two hxu hxv).symm (Nat.le_of_ble_eq_true rfl) hla))
    | false =>
     rw [hh] at en
     refine go0 1 (m':=.ex _ _ _ _) rfl rfl ?_
     have hE:=EH.mk (al:=al) (attr:=attr) (st:=st) (ct:=ct) (R:=R) (x:=x) (u:=u) (told:=told) (q:=q) (hb:=false) [⟨#[35]⟩] h2 hs1.symm (Nat.le_of_ble_eq_true rfl) hlt
     rw [show u+1+(if false=true then 1 else 0)=u+1 from rfl,chV_at hxv] at hE
     exact vend (en _ _ _ hE)
  ·intro _ _ _ hE
   unfold numR at hR
   generalize inC [120,88] (x.cps.toList[u+1]?)=hb at hR hE
   apply hE; clear hE; intro d3 t3 e3 pre h3 hp hl hv
   obtain ⟨s3,rfl⟩:=h3.fm
   dsimp only at hR
   have huv:u≤u+1+(if hb=true then 1 else 0):=Nat.le_trans (Nat.le_succ u) (Nat.le_add_right ..)
   generalize u+1+(if hb=true then 1 else 0)=v at hR h3 hp hv huv ⊢
   have hpz:(pre.map V.str).length≤5000:=by rw [List.length_map]; exact Nat.le_trans hl (by decide)
   refine go0 1 (m':=.te _ _ _ _ _) rfl rfl ?_
   have hg (cs:List Nat):((cs.map fun k=>V.str ⟨#[k]⟩).any fun y=>vf y (chV x v))=inC cs (x.cps.toList[v]?):=inC_any x v cs
   refine vtest (b:=figO hb (x.cps.toList[v]?)) ?_ ?_
   ·rw [← fig_eq,← hg,← hg]
    refine pt_bool (pts_or (pt_bool (pts_and (pt_run (k:=3) rfl trivial rfl) (pts_one ?_))) (pts_one (pt_bool (pts_and (pt_run (k:=3) rfl trivial rfl) (pts_one ?_)))))
    ·exact pt_in rfl (pe_subs (pe_run (k:=3) rfl) (pe_run (k:=3) rfl) (at_last rfl hpz)) (pe_run (k:=3) rfl) (flat1 _) (chV_flat ..)
    ·exact pt_in rfl (pe_subs (pe_run (k:=3) rfl) (pe_run (k:=3) rfl) (at_last rfl hpz)) (pe_run (k:=3) rfl) (flat1 _) (chV_flat ..)
   cases hfg:figO hb (x.cps.toList[v]?) with
   | true =>
    rw [hfg,if_pos rfl] at hR
    refine go0 6 (m':=.ev _ _ _ _ _) rfl rfl ?_
    refine vsub ?_
    refine go0 3 (m':=.rt _ _ _ _ _) rfl rfl ?_
    refine vlast rfl hpz ?_
    refine go0 2 (m':=.cl _ _ _ _ _ _) rfl rfl ?_
    refine vcall (c_back c hK h3 hv) rfl (by unfold chV; cases x.cps.toList[v]? <;> rfl) fun v' W' hW=>?_
    apply hW; clear hW; intro d4 t4 e4 h4
    obtain ⟨s4,rfl⟩:=h4.fm
    refine go0 9 (m':=.cl _ _ _ _ _ _) rfl rfl ?_
    refine vcall (c_number c hK h4 hb hx (Nat.le_trans hq (by decide)) (numL_ne hfg)) rfl rfl fun v' W' hW=>?_
    apply hW; clear hW; intro d5 t5 e5 h5
    refine go0 1 (m':=.ex _ _ _ _) rfl rfl ?_
    rw [hR] at kn
    refine vend (kn _ _ _ ?_)
    rw [List.append_assoc]
    refine EJ.mk (r:=⟨_,_,_⟩) ?_
    show Strm x (u+(v+(numL hb x v).length+semN x (v+(numL hb x v).length) - u)) 0 told _ _ _
    rwa [show u+(v+(numL hb x v).length+semN x (v+(numL hb x v).length) - u)=v+(numL hb x v).length+semN x (v+(numL hb x v).length) from ar_back huv]
   | false =>
    rw [hfg,if_neg (by decide)] at hR
    refine go1 31 (m':=.cl _ _ _ _ _ _) rfl rfl ?_ ?_
    ·exact Nat.le_trans hq (by decide)
    refine vpop rfl (Nat.le_trans hpz (by decide)) ?_
    refine go0 2 (m':=.cl _ _ _ _ _ _) rfl rfl ?_
    refine vcall (c_back c hK h3 hv) rfl (by unfold chV; cases x.cps.toList[v]? <;> rfl) fun v' W' hW=>?_
    apply hW; clear hW; intro d4 t4 e4 h4
    refine go0 12 (m':=.cl _ _ _ _ _ _) rfl rfl ?_
    refine vjoin (ys:=pre) (.lo rfl) (by decide) ?_ ?_
    ·rw [joinL_sum,hp]; exact ar_jn (n:=2) (subS_len x u v) hx hl (Nat.le_of_ble_eq_true rfl)
    rw [join_nil,hp]
    refine go1 2 (m':=.ex _ _ _ _) rfl rfl ?_ ?_
    ·exact amp_sz (Nat.le_trans (subS_len x u v) hx)
    rw [amp_eq]
    rw [hR] at kn
    refine vend (kn _ _ _ ?_)
    refine EJ.mk (r:=⟨_,_,_⟩) ?_
    show Strm x (u+(v - u)) 0 told _ _ _
    rwa [Nat.add_sub_cancel' huv]
 ·exact fin κ hN
end HL.Lake
end
noncomputable section
namespace HL.Lake
open PySem PySem.W PySem.Calls PyProof.Rows
noncomputable def ED (st ct:V) (R:List AO) (x:Str) (u told:Nat) (q:List V) (r:ER) (z1:V) (z2:List AO):Prop:=∀ G:V→List AO→Prop,(∀ (d t e:AO) (h:Strm x (u+r.used) 0 told d t e),G .none (.dict (tkD st ct) :: d :: t :: e :: .list (q++r.es++[chT r.out]) :: R))→G z1 z2
theorem ED.mk {st ct:V} {R:List AO} {x:Str} {u told:Nat} {q:List V} {r:ER} {d t e:AO} (h:Strm x (u+r.used) 0 told d t e):ED st ct R x u told q r .none (.dict (tkD st ct) :: d :: t :: e :: .list (q++r.es++[chT r.out]) :: R):=fun z9 z=>z d t e h
theorem numR_es (x:Str) (u:Nat):(numR x u).es.length≤2:=by
 unfold numR
 dsimp only
 refine ER_ite (P:=fun r=>r.es.length≤2) ?_ ?_
 ·dsimp only
  rw [List.length_append]
  exact Nat.add_le_add (numErr_len _) (semi_len _ _)
 ·exact Nat.le_of_ble_eq_true rfl
theorem ar_es {x:Str} {u:Nat} {q:List V} (hq:q.length≤4000):(q++(numR x u).es).length≤10000:=by
 have:=numR_es x u
 rw [List.length_append]; exact Nat.le_trans (Nat.add_le_add hq this) (Nat.le_of_ble_eq_true rfl)
theorem c_entD (c:Cx) (hK:c.K=top.heap_1 c.w.params) {st ct:V} {R:List AO} {d t e:AO} {x:Str} {u b told:Nat} {q:List V} (h:Strm x u b told d t e) (hx:x.length≤600) (hq:q.length≤4000) (hst:stopB none (x.cps.toList[u]?)=false) (h35:x.cps.toList[u]?=some 35) :
  CallS c 6 (.ref 283) [.inst 762 0] [] (ED st ct R x u told q (numR x u)) (fun z9=>False) (.dict (tkD st ct) :: d :: t :: e :: .list q :: R):=by
 have hz:=ar_es (x:=x) (u:=u) hq
 refine c_entity c hK h hx hq none false hst h35 (.inl ⟨rfl,rfl,rfl,rfl⟩) fun κ hN l T W hj=>?_
 generalize numR x u=r at hj hz hN
 apply hj; clear hj; intro d t e T hv nm ln h
 obtain ⟨s,rfl⟩:=h.fm
 refine go0 5 (m':=.rt _ _ _ _ _) rfl rfl ?_
 rw [show ((spaceCharactersL.map fun k=>V.str ⟨#[k]⟩).any fun y=>vf y (.str r.out))=spcB r.out from rfl]
 have hj:=ED.mk (st:=st) (ct:=ct) (R:=R) (q:=q) h
 unfold chT at hj
 cases hs:spcB r.out with
 | true =>
  rw [hs] at hj
  refine go1 25 (m':=.ex _ _ _ _) rfl rfl ?_ ?_
  ·exact hz
  exact vend (hN _ _ _ hj)
 | false =>
  rw [hs] at hj
  refine go1 25 (m':=.ex _ _ _ _) rfl rfl ?_ ?_
  ·exact hz
  exact vend (hN _ _ _ hj)
end HL.Lake
end
noncomputable section
namespace HL.Lake
open PySem PySem.W PySem.Calls PyProof.Rows
noncomputable def tagD (nm:Str) (d:V):List (Str×V):=[(Str.ofString "type",.int 3),(Str.ofString "name",.str nm),(Str.ofString "data",d),(Str.ofString "selfClosing",.bool false),(Str.ofString "selfClosingAcknowledged",.bool false)]
noncomputable def tagR (nm an av:Str):List AO:=[.list [.ob 7],.dict (tagD nm (.ob 5)),.list [.str an,.str av]]
theorem out_len (x:Str) (u:Nat) (hx:x.length≤600):(numR x u).out.length≤601:=by
 unfold numR
 dsimp only
 refine ER_ite (P:=fun r=>r.out.length≤601) (Nat.le_trans (numSign_len _) (by decide)) ?_
 dsimp only
 rw [← amp_eq]
 show (_++_:Array Nat).size≤601
 rw [Array.size_append,Nat.add_comm]
 exact Nat.add_le_add (Nat.le_trans (subS_len x u _) hx) (show (Str.ofString "&").length≤1 from Nat.le_of_ble_eq_true (by kernel_rfl))
theorem c_entA (c:Cx) (hK:c.K=top.heap_1 c.w.params) {st:V} {nm an av:Str} {d t e:AO} {x:Str} {u b told:Nat} {q:List V} (h:Strm x u b told d t e) (hx:x.length≤600) (hq:q.length≤4000) (ha:av.length≤2000) (h35:x.cps.toList[u]?=some 35) :
  CallS c 6 (.ref 283) [.inst 762 0] [(Str.ofString "allowedChar",.str ⟨#[34]⟩),(Str.ofString "fromAttribute",.bool true)] (RT st (.ob 6) (tagR nm an (av++(numR x u).out)) x (u+(numR x u).used) 0 told (q++(numR x u).es) .none) (fun z9=>False) (.dict (tkD st (.ob 6)) :: d :: t :: e :: .list q :: tagR nm an av):=by
 have hz:=out_len x u hx
 refine c_entity c hK h hx hq (some 34) true (by rw [h35]; rfl) h35 (.inr ⟨rfl,rfl⟩) fun κ hN l T W hj=>?_
 generalize numR x u=r at hj hz hN
 apply hj; clear hj; intro d t e T hv nm' ln h
 obtain ⟨s,rfl⟩:=h.fm
 unfold tagR at hN ⊢
 refine go _ _ 20 (m':=.ex _ _ _ _) rfl ⟨?_,?_,?_,?_,trivial⟩ ?_
 ·exact ixOk_last (n:=1) (by decide) (by decide)
 ·exact ixOk_nat (n:=2) (k:=1) (by decide) (by decide)
 ·exact sz_le (Nat.le_trans (Nat.add_le_add ha hz) (by decide))
 ·exact ⟨Int.le_of_lt Int.one_pos,Int.ofNat_lt.mpr (Nat.le_of_ble_eq_true rfl),Nat.le_of_ble_eq_true rfl⟩
 exact vend (hN _ _ _ (.mk h))
end HL.Lake
end
noncomputable section
namespace HL.Lake
open PySem PySem.W PySem.Calls PyProof.Rows
noncomputable def tokT (n:Int) (s:Str):V:=.dict [(Str.ofString "type",.int n),(Str.ofString "data",.str s)]
noncomputable def stopL:List Nat:=[38,60,0]
noncomputable def quotL:List Nat:=[34,38,0]
noncomputable def txtR (x:Str) (u k:Nat):List V×Nat×Addr :=
 if (k==38)=true then ([],u+1,311)
 else if (k==60)=true then ([],u+1,353)
 else if inC spaceCharactersL (some k)=true then ([tokT 2 ⟨(k :: tkW spaceCharactersL true x (u+1)).toArray⟩],u+1+(tkW spaceCharactersL true x (u+1)).length,304)
 else ([tokT 1 ⟨(k :: tkW stopL false x (u+1)).toArray⟩],u+1+(tkW stopL false x (u+1)).length,304)
noncomputable def TS (ct:V) (R:List AO) (x:Str) (u told:Nat) (q:List V) (f:Addr) (v:V) (z1:V) (z2:List AO):Prop:=∀ G:V→List AO→Prop,(∀ (d t e:AO) (h:Strm x u 0 told d t e),G v (.dict (tkD (mtS f) ct) :: d :: t :: e :: .list q :: R))→G z1 z2
theorem TS.mk {ct:V} {R:List AO} {x:Str} {u told:Nat} {q:List V} {f:Addr} {v:V} {d t e:AO} (h:Strm x u 0 told d t e):TS ct R x u told q f v v (.dict (tkD (mtS f) ct) :: d :: t :: e :: .list q :: R):=fun z9 z=>z d t e h
theorem ar_n1 {q:List V} (h:q.length≤4000):q.length≤10000:=Nat.le_trans h (by decide)
theorem str_cons (k:Nat) (l:List Nat):(⟨#[k]⟩:Str)++⟨l.toArray⟩=⟨(k :: l).toArray⟩:=by
 show (⟨#[k]++l.toArray⟩:Str)=_
 exact congrArg Str.mk (Array.toList_inj.mp (by simp))
theorem ar_tk {x:Str} {u k:Nat} {l:List Nat} (h:u+1+l.length≤x.length) (hx:x.length≤600):(⟨#[k]⟩:Str).length+(⟨l.toArray⟩:Str).length≤sizeLine:=by
 show 1+l.toArray.size≤sizeLine
 rw [List.size_toArray]
 exact sz_le (Nat.le_trans (Nat.le_trans (Nat.add_le_add_right (Nat.le_add_left 1 u) _) h) (Nat.le_trans hx (by decide)))
theorem spc_at {x:Str} {u k:Nat} (hxu:x.cps.toList[u]?=some k):((spaceCharactersL.map fun k=>V.str ⟨#[k]⟩).any fun y=>vf y (.str ⟨#[k]⟩))=inC spaceCharactersL (some k):=by
 have:=inC_any x u spaceCharactersL
 rw [chV_at hxu,hxu] at this; exact this
section
variable (c:Cx) (hK:c.K=top.heap_1 c.w.params) {ct:V} {R:List AO} {d t e:AO} {x:Str} {u b told:Nat} {q:List V} (h:Strm x u b told d t e)
include hK h
theorem c_refS (hx:x.length≤600) (hq:q.length≤4000) (h35:x.cps.toList[u]?=some 35) :
  CallS c 7 (.ref 311) [.inst 762 0] [] (TS ct R x (u+(numR x u).used) told (q++(numR x u).es++[chT (numR x u).out]) 304 (.bool true)) (fun z9=>False) (.dict (tkD (mtS 311) ct) :: d :: t :: e :: .list q :: R):=by
 refine cgo (bs:=[(Str.ofString "self",.inst 762 0)]) (others:=[]) hK (ok1 hK) rfl rfl rfl (by kernel_rfl) (by kernel_rfl) (binds1 (fun s X a=>BindsTo.of_eq rfl) .nil) ?_
 intro κ hf hQ hN hX
 refine go0 5 (m':=.cl _ _ _ _ _ _) rfl rfl ?_
 refine vcall (c_entD c hK h hx hq (by rw [h35]; rfl) h35) rfl rfl fun v W' hW=>?_
 apply hW; clear hW; intro d1 t1 e1 h1
 refine go0 6 (m':=.rt _ _ _ _ _) rfl rfl ?_
 exact hQ _ _ _ _ _ (.same rfl) (.mk h1)
theorem c_dataE (hxu:x.cps.toList[u]?=none) :
  CallS c 5 (.ref 304) [.inst 762 0] [] (TS ct R x x.length told q 304 (.bool false)) (fun z9=>False) (.dict (tkD (mtS 304) ct) :: d :: t :: e :: .list q :: R):=by
 obtain ⟨s0,rfl⟩:=h.fm
 refine cgo (bs:=[(Str.ofString "self",.inst 762 0)]) (others:=[Str.ofString "data",Str.ofString "chars"]) hK (ok1 hK) rfl rfl rfl (by kernel_rfl) (by kernel_rfl) (binds1 (fun s X a=>BindsTo.of_eq rfl) .nil) ?_
 intro κ hf hQ hN hX
 refine go0 5 (m':=.cl _ _ _ _ _ _) rfl rfl ?_
 refine vcall (c_charA c hK h) rfl rfl fun v W' hW=>?_
 apply hW; clear hW; intro d1 t1 e1 h1
 obtain ⟨s1,rfl⟩:=h1.fm
 have hl:x.length≤u:=by rw [← len_str]; exact List.getElem?_eq_none_iff.mp hxu
 rw [chV_end hxu]
 rw [Nat.min_eq_right (Nat.le_succ_of_le hl)] at h1
 refine go0 15 (m':=.rt _ _ _ _ _) rfl rfl ?_
 exact hQ _ _ _ _ _ (.same rfl) (.mk h1.weak)
theorem c_dataS (hx:x.length≤600) (hq:q.length≤4000) {k:Nat} (hxu:x.cps.toList[u]?=some k) (k0:(k==0)=false) :
  CallS c 5 (.ref 304) [.inst 762 0] [] (TS ct R x (txtR x u k).2.1 told (q++(txtR x u k).1) (txtR x u k).2.2 (.bool true)) (fun z9=>False) (.dict (tkD (mtS 304) ct) :: d :: t :: e :: .list q :: R):=by
 have hux:=h.ule
 obtain ⟨s0,rfl⟩:=h.fm
 refine cgo (bs:=[(Str.ofString "self",.inst 762 0)]) (others:=[Str.ofString "data",Str.ofString "chars"]) hK (ok1 hK) rfl rfl rfl (by kernel_rfl) (by kernel_rfl) (binds1 (fun s X a=>BindsTo.of_eq rfl) .nil) ?_
 intro κ hf hQ hN hX
 refine go0 5 (m':=.cl _ _ _ _ _ _) rfl rfl ?_
 refine vcall (c_charA c hK h) rfl rfl fun v W' hW=>?_
 apply hW; clear hW; intro d1 t1 e1 h1
 obtain ⟨s1,rfl⟩:=h1.fm
 have hl:=at_lt hxu
 rw [chV_at hxu]
 rw [Nat.min_eq_left (Nat.succ_le_of_lt hl)] at h1
 unfold txtR at hQ
 refine go0 3 (m':=.rt _ _ _ _ _) rfl rfl ?_
 rw [eq1 k (s:=Str.ofString "&") (j:=38) (by kernel_rfl)]
 cases h38:(k==38) with
 | true =>
  rw [h38,if_pos rfl,List.append_nil] at hQ
  refine go0 6 (m':=.rt _ _ _ _ _) rfl rfl ?_
  exact hQ _ _ _ _ _ (.same rfl) (.mk h1.weak)
 | false =>
 rw [h38,if_neg Bool.false_ne_true] at hQ
 refine go0 3 (m':=.rt _ _ _ _ _) rfl rfl ?_
 rw [eq1 k (s:=Str.ofString "<") (j:=60) (by kernel_rfl)]
 cases h60:(k==60) with
 | true =>
  rw [h60,if_pos rfl,List.append_nil] at hQ
  refine go0 6 (m':=.rt _ _ _ _ _) rfl rfl ?_
  exact hQ _ _ _ _ _ (.same rfl) (.mk h1.weak)
 | false =>
 rw [h60,if_neg Bool.false_ne_true] at hQ
 refine go0 3 (m':=.rt _ _ _ _ _) rfl rfl ?_
 rw [eq1 k (s:=Str.ofString "\x00") (j:=0) (by kernel_rfl),k0]
 refine go0 6 (m':=.rt _ _ _ _ _) rfl rfl ?_
 rw [spc_at hxu]
 cases hs:inC spaceCharactersL (some k) with
 | true =>
  rw [hs,if_pos rfl] at hQ
  refine go0 28 (m':=.cl _ _ _ _ _ _) rfl rfl ?_
  refine vcall (c_charsUntil c hK h1 spaceCharactersL true (.inl rfl)) rfl rfl fun v W' hW=>?_
  apply hW; clear hW; intro d2 t2 e2 h2
  have hz:=h2.ule
  obtain ⟨s2,rfl⟩:=h2.fm
  refine go2 9 (m':=.rt _ _ _ _ _) rfl rfl ?_ ?_ ?_
  ·exact ar_tk hz hx
  ·exact ar_n1 hq
  rw [str_cons]
  exact hQ _ _ _ _ _ (.same rfl) (.mk h2)
 | false =>
 rw [hs,if_neg Bool.false_ne_true] at hQ
 refine go0 9 (m':=.cl _ _ _ _ _ _) rfl rfl ?_
 refine vcall (c_charsUntil c hK h1 stopL false (.inr ⟨by kernel_rfl,rfl⟩)) rfl rfl fun v W' hW=>?_
 apply hW; clear hW; intro d2 t2 e2 h2
 have hz:=h2.ule
 obtain ⟨s2,rfl⟩:=h2.fm
 refine go2 24 (m':=.rt _ _ _ _ _) rfl rfl ?_ ?_ ?_
 ·exact ar_tk hz hx
 ·exact ar_n1 hq
 rw [str_cons]
 exact hQ _ _ _ _ _ (.same rfl) (.mk h2)
theorem c_procE {st:V} {nm an av:Str} (hx:x.length≤600) (hq:q.length≤4000) (ha:av.length≤2000) (h35:x.cps.toList[u]?=some 35) :
  CallS c 7 (.ref 290) [.inst 762 0,.str ⟨#[34]⟩] [] (RT st (.ob 6) (tagR nm an (av++(numR x u).out)) x (u+(numR x u).used) 0 told (q++(numR x u).es) .none) (fun z9=>False) (.dict (tkD st (.ob 6)) :: d :: t :: e :: .list q :: tagR nm an av):=by
 refine cgo (bs:=[(Str.ofString "self",.inst 762 0),(Str.ofString "allowedChar",.str ⟨#[34]⟩)]) (others:=[]) hK (ok1 hK) rfl rfl rfl (by kernel_rfl) (by kernel_rfl) (binds2 (fun s X a b=>BindsTo.of_eq rfl) .nil) ?_
 intro κ hf hQ hN hX
 refine go0 1 (m':=.ev _ _ _ _ _) rfl rfl ?_
 refine vmethK (v:=.inst 762 0) (v1:=.str ⟨#[34]⟩) (v2:=.bool true) (f:=283) rfl rfl (pe_run (k:=3) rfl) (fun Q q=>gm_inst (κ.ok.mt (762,Str.ofString "consumeEntity",283) (List.contains_iff_mem.mp (by kernel_rfl))).1 rfl (noKey (by kernel_rfl)) q) (by kernel_rfl) (pe_run (k:=3) rfl) (pe_run (k:=3) rfl) rfl rfl rfl (c_entA c hK h hx hq ha h35) rfl fun v W' hW=>?_
 have hv:v=.none:=by
  refine hW (fun z z9=>z=.none) fun d t e h=>rfl
 subst hv
 refine go0 1 (m':=.ex _ _ _ _) rfl rfl ?_
 exact vend (hN _ _ _ hW)
end
end HL.Lake
end
noncomputable section
namespace HL.Lake
open PySem PySem.W PySem.Calls PyProof.Rows
theorem c_lower (c:Cx) (hK:c.K=top.heap_1 c.w.params) {k:Nat} (hk:k=97∨k=98) (W:List AO):CallD c 2 42 [.str ⟨#[k]⟩] W (.str ⟨#[k]⟩) W:=by
 refine cgo (bs:=[(Str.ofString "text",.str ⟨#[k]⟩)]) (others:=[]) hK (ok1 hK) rfl rfl rfl (by kernel_rfl) (by kernel_rfl) (binds1 (fun s X a=>BindsTo.of_eq rfl) .nil) ?_
 intro κ hf hQ hN hX
 refine go0 9 (m':=.ev _ _ _ _ _) rfl rfl ?_
 refine vcompP (v:=.str ⟨#[k]⟩) (items:=[.str ⟨#[k]⟩]) (fun v=>v) rfl (by kernel_rfl) (pe_run (k:=3) rfl) (.str (x:=⟨#[k]⟩)) (Nat.le_of_ble_eq_true rfl) (fun κ' u hu q=>?_) ?_
 ·obtain rfl:=List.mem_singleton.mp hu
  refine go0 1 (m':=.te _ _ _ _ _) rfl rfl ?_
  refine vtest (b:=false) ?_ ?_
  ·refine pt_run (k:=12) rfl trivial ?_
   rcases hk with rfl | rfl <;> decide +kernel
  refine go0 2 (m':=.rt _ _ _ _ _) rfl rfl ?_
  exact q _
 ·refine go0 2 (m':=.cl _ _ _ _ _ _) rfl rfl ?_
  refine vjoin (ys:=[⟨#[k]⟩]) .list (by decide) (Nat.le_of_ble_eq_true rfl) ?_
  rw [join_nil]
  exact hQ _ _ _ _ _ (.same rfl) ⟨rfl,rfl⟩
section
variable (c:Cx) (hK:c.K=top.heap_1 c.w.params) {ct:V} {R:List AO} {d t e:AO} {x:Str} {u b told:Nat} {q:List V} (h:Strm x u b told d t e)
include hK h
theorem c_tagOpen (hxu:x.cps.toList[u]?=some 97) :
  CallS c 5 (.ref 353) [.inst 762 0] [] (TS (.ob 6) [.list [],.dict (tagD ⟨#[97]⟩ (.ob 5))] x (u+1) told q 367 (.bool true)) (fun z9=>False) [.dict (tkD (mtS 353) ct),d,t,e,.list q]:=by
 obtain ⟨s0,rfl⟩:=h.fm
 refine cgo (bs:=[(Str.ofString "self",.inst 762 0)]) (others:=[Str.ofString "data"]) hK (ok1 hK) rfl rfl rfl (by kernel_rfl) (by kernel_rfl) (binds1 (fun s X a=>BindsTo.of_eq rfl) .nil) ?_
 intro κ hf hQ hN hX
 refine go0 5 (m':=.cl _ _ _ _ _ _) rfl rfl ?_
 refine vcall (c_charA c hK h) rfl rfl fun v W' hW=>?_
 apply hW; clear hW; intro d1 t1 e1 h1
 obtain ⟨s1,rfl⟩:=h1.fm
 rw [chV_at hxu]
 rw [Nat.min_eq_left (Nat.succ_le_of_lt (at_lt hxu))] at h1
 refine go0 99 (m':=.rt _ _ _ _ _) rfl rfl ?_
 exact hQ _ _ _ _ _ (.same rfl) (.mk h1.weak)
theorem c_tagName (hxu:x.cps.toList[u]?=some 32) :
  CallS c 5 (.ref 367) [.inst 762 0] [] (TS ct R x (u+1) told q 535 (.bool true)) (fun z9=>False) (.dict (tkD (mtS 367) ct) :: d :: t :: e :: .list q :: R):=by
 obtain ⟨s0,rfl⟩:=h.fm
 refine cgo (bs:=[(Str.ofString "self",.inst 762 0)]) (others:=[Str.ofString "data"]) hK (ok1 hK) rfl rfl rfl (by kernel_rfl) (by kernel_rfl) (binds1 (fun s X a=>BindsTo.of_eq rfl) .nil) ?_
 intro κ hf hQ hN hX
 refine go0 5 (m':=.cl _ _ _ _ _ _) rfl rfl ?_
 refine vcall (c_charA c hK h) rfl rfl fun v W' hW=>?_
 apply hW; clear hW; intro d1 t1 e1 h1
 obtain ⟨s1,rfl⟩:=h1.fm
 rw [chV_at hxu]
 rw [Nat.min_eq_left (Nat.succ_le_of_lt (at_lt hxu))] at h1
 refine go0 99 (m':=.rt _ _ _ _ _) rfl rfl ?_
 exact hQ _ _ _ _ _ (.same rfl) (.mk h1.weak)
theorem c_attrBefore (hxu:x.cps.toList[u]?=some 98) :
  CallS c 5 (.ref 535) [.inst 762 0] [] (TS (.ob 6) (tagR ⟨#[97]⟩ ⟨#[98]⟩ (Str.ofString "")) x (u+1) told q 542 (.bool true)) (fun z9=>False) [.dict (tkD (mtS 535) (.ob 6)),d,t,e,.list q,.list [],.dict (tagD ⟨#[97]⟩ (.ob 5))]:=by
 obtain ⟨s0,rfl⟩:=h.fm
 refine cgo (bs:=[(Str.ofString "self",.inst 762 0)]) (others:=[Str.ofString "data"]) hK (ok1 hK) rfl rfl rfl (by kernel_rfl) (by kernel_rfl) (binds1 (fun s X a=>BindsTo.of_eq rfl) .nil) ?_
 intro κ hf hQ hN hX
 refine go0 5 (m':=.cl _ _ _ _ _ _) rfl rfl ?_
 refine vcall (c_charA c hK h) rfl rfl fun v W' hW=>?_
 apply hW; clear hW; intro d1 t1 e1 h1
 obtain ⟨s1,rfl⟩:=h1.fm
 rw [chV_at hxu]
 rw [Nat.min_eq_left (Nat.succ_le_of_lt (at_lt hxu))] at h1
 refine go1 99 (m':=.rt _ _ _ _ _) rfl rfl ?_ ?_
 ·exact Nat.zero_le _
 exact hQ _ _ _ _ _ (.same rfl) (.mk h1.weak)
theorem c_attrName {nm an av:Str} (han:an=⟨#[98]⟩) (hxu:x.cps.toList[u]?=some 61) :
  CallS c 5 (.ref 542) [.inst 762 0] [] (TS (.ob 6) (tagR nm an av) x (u+1) told q 556 (.bool true)) (fun z9=>False) (.dict (tkD (mtS 542) (.ob 6)) :: d :: t :: e :: .list q :: tagR nm an av):=by
 obtain ⟨s0,rfl⟩:=h.fm
 refine cgo (bs:=[(Str.ofString "self",.inst 762 0)]) (others:=[Str.ofString "data",Str.ofString "leavingThisState",Str.ofString "emitToken",Str.ofString "name",Str.ofString "_"]) hK (ok1 hK) rfl rfl rfl (by kernel_rfl) (by kernel_rfl) (binds1 (fun s X a=>BindsTo.of_eq rfl) .nil) ?_
 intro κ hf hQ hN hX
 refine go0 5 (m':=.cl _ _ _ _ _ _) rfl rfl ?_
 refine vcall (c_charA c hK h) rfl rfl fun v W' hW=>?_
 apply hW; clear hW; intro d1 t1 e1 h1
 obtain ⟨s1,rfl⟩:=h1.fm
 rw [chV_at hxu]
 rw [Nat.min_eq_left (Nat.succ_le_of_lt (at_lt hxu))] at h1
 unfold tagR at hQ ⊢
 subst han
 refine go0 99 (m':=.ex _ _ _ _) rfl rfl ?_
 refine vassub (v:=.str ⟨#[98]⟩) (ov:=.ob 7) (iv:=.int 0) rfl (pe_walk fun κ' q=>?_) (pe_runO (k:=9) rfl ⟨ixOk_last (n:=1) (by decide) (by decide),trivial⟩) (pe_run (k:=3) rfl) (vsi_list (xs:=[.str ⟨#[98]⟩,.str av]) rfl (Int.le_refl 0) (Int.ofNat_lt.mpr (Nat.le_of_ble_eq_true rfl)) (Nat.le_of_ble_eq_true rfl) rfl ?_)
 ·refine go _ _ 99 (m':=.cl _ _ _ _ _ _) rfl ⟨?_,?_,trivial⟩ ?_
  ·exact ixOk_last (n:=1) (by decide) (by decide)
  ·exact ixOk_nat (n:=2) (k:=0) (by decide) (by decide)
  refine vcallD (c_lower c hK (.inr rfl) _) rfl rfl ?_
  exact q
 ·refine go1 99 (m':=.rt _ _ _ _ _) rfl rfl ?_ ?_
  ·exact Nat.le_of_ble_eq_true rfl
  refine vfor (items:=[]) .list (vforP (fun z9 l' T' W'=>l'=_∧T'=_∧W'=_) ⟨rfl,rfl,rfl⟩ (fun i l T W u hu=>nomatch hu) ?_)
  rintro _ _ _ ⟨rfl,rfl,rfl⟩
  refine go0 99 (m':=.rt _ _ _ _ _) rfl rfl ?_
  exact hQ _ _ _ _ _ (.same rfl) (.mk h1.weak)
theorem c_valBefore (hxu:x.cps.toList[u]?=some 34) :
  CallS c 5 (.ref 556) [.inst 762 0] [] (TS ct R x (u+1) told q 563 (.bool true)) (fun z9=>False) (.dict (tkD (mtS 556) ct) :: d :: t :: e :: .list q :: R):=by
 obtain ⟨s0,rfl⟩:=h.fm
 refine cgo (bs:=[(Str.ofString "self",.inst 762 0)]) (others:=[Str.ofString "data"]) hK (ok1 hK) rfl rfl rfl (by kernel_rfl) (by kernel_rfl) (binds1 (fun s X a=>BindsTo.of_eq rfl) .nil) ?_
 intro κ hf hQ hN hX
 refine go0 5 (m':=.cl _ _ _ _ _ _) rfl rfl ?_
 refine vcall (c_charA c hK h) rfl rfl fun v W' hW=>?_
 apply hW; clear hW; intro d1 t1 e1 h1
 obtain ⟨s1,rfl⟩:=h1.fm
 rw [chV_at hxu]
 rw [Nat.min_eq_left (Nat.succ_le_of_lt (at_lt hxu))] at h1
 refine go0 99 (m':=.rt _ _ _ _ _) rfl rfl ?_
 exact hQ _ _ _ _ _ (.same rfl) (.mk h1.weak)
theorem c_valEnd (hxu:x.cps.toList[u]?=some 34) :
  CallS c 8 (.ref 563) [.inst 762 0] [] (TS ct R x (u+1) told q 584 (.bool true)) (fun z9=>False) (.dict (tkD (mtS 563) ct) :: d :: t :: e :: .list q :: R):=by
 obtain ⟨s0,rfl⟩:=h.fm
 refine cgo (bs:=[(Str.ofString "self",.inst 762 0)]) (others:=[Str.ofString "data"]) hK (ok1 hK) rfl rfl rfl (by kernel_rfl) (by kernel_rfl) (binds1 (fun s X a=>BindsTo.of_eq rfl) .nil) ?_
 intro κ hf hQ hN hX
 refine go0 5 (m':=.cl _ _ _ _ _ _) rfl rfl ?_
 refine vcall (c_charA c hK h) rfl rfl fun v W' hW=>?_
 apply hW; clear hW; intro d1 t1 e1 h1
 obtain ⟨s1,rfl⟩:=h1.fm
 rw [chV_at hxu]
 rw [Nat.min_eq_left (Nat.succ_le_of_lt (at_lt hxu))] at h1
 refine go0 99 (m':=.rt _ _ _ _ _) rfl rfl ?_
 exact hQ _ _ _ _ _ (.same rfl) (.mk h1.weak)
theorem c_valRef {nm an av:Str} (hx:x.length≤600) (hq:q.length≤4000) (ha:av.length≤2000) (hxu:x.cps.toList[u]?=some 38) (h35:x.cps.toList[u+1]?=some 35) :
  CallS c 8 (.ref 563) [.inst 762 0] [] (TS (.ob 6) (tagR nm an (av++(numR x (u+1)).out)) x (u+1+(numR x (u+1)).used) told (q++(numR x (u+1)).es) 563 (.bool true)) (fun z9=>False) (.dict (tkD (mtS 563) (.ob 6)) :: d :: t :: e :: .list q :: tagR nm an av):=by
 obtain ⟨s0,rfl⟩:=h.fm
 refine cgo (bs:=[(Str.ofString "self",.inst 762 0)]) (others:=[Str.ofString "data"]) hK (ok1 hK) rfl rfl rfl (by kernel_rfl) (by kernel_rfl) (binds1 (fun s X a=>BindsTo.of_eq rfl) .nil) ?_
 intro κ hf hQ hN hX
 refine go0 5 (m':=.cl _ _ _ _ _ _) rfl rfl ?_
 refine vcall (c_charA c hK h) rfl rfl fun v W' hW=>?_
 apply hW; clear hW; intro d1 t1 e1 h1
 obtain ⟨s1,rfl⟩:=h1.fm
 rw [chV_at hxu]
 rw [Nat.min_eq_left (Nat.succ_le_of_lt (at_lt hxu))] at h1
 refine go0 99 (m':=.cl _ _ _ _ _ _) rfl rfl ?_
 refine vcall (c_procE c hK h1 hx hq ha h35) rfl rfl fun v W' hW=>?_
 apply hW; clear hW; intro d2 t2 e2 h2
 refine go0 99 (m':=.rt _ _ _ _ _) rfl rfl ?_
 exact hQ _ _ _ _ _ (.same rfl) (.mk h2)
theorem c_valText {nm an av:Str} {k:Nat} (hx:x.length≤600) (ha:av.length≤2000) (hxu:x.cps.toList[u]?=some k) (k34:(k==34)=false) (k38:(k==38)=false) (k0:(k==0)=false) :
  CallS c 8 (.ref 563) [.inst 762 0] [] (TS (.ob 6) (tagR nm an (av++⟨(k :: tkW quotL false x (u+1)).toArray⟩)) x (u+1+(tkW quotL false x (u+1)).length) told q 563 (.bool true)) (fun z9=>False) (.dict (tkD (mtS 563) (.ob 6)) :: d :: t :: e :: .list q :: tagR nm an av):=by
 obtain ⟨s0,rfl⟩:=h.fm
 refine cgo (bs:=[(Str.ofString "self",.inst 762 0)]) (others:=[Str.ofString "data"]) hK (ok1 hK) rfl rfl rfl (by kernel_rfl) (by kernel_rfl) (binds1 (fun s X a=>BindsTo.of_eq rfl) .nil) ?_
 intro κ hf hQ hN hX
 refine go0 5 (m':=.cl _ _ _ _ _ _) rfl rfl ?_
 refine vcall (c_charA c hK h) rfl rfl fun v W' hW=>?_
 apply hW; clear hW; intro d1 t1 e1 h1
 obtain ⟨s1,rfl⟩:=h1.fm
 rw [chV_at hxu]
 rw [Nat.min_eq_left (Nat.succ_le_of_lt (at_lt hxu))] at h1
 unfold tagR at hQ ⊢
 refine go0 3 (m':=.rt _ _ _ _ _) rfl rfl ?_
 rw [eq1 k (s:=Str.ofString "\"") (j:=34) (by kernel_rfl),k34]
 refine go0 3 (m':=.rt _ _ _ _ _) rfl rfl ?_
 rw [eq1 k (s:=Str.ofString "&") (j:=38) (by kernel_rfl),k38]
 refine go0 3 (m':=.rt _ _ _ _ _) rfl rfl ?_
 rw [eq1 k (s:=Str.ofString "\x00") (j:=0) (by kernel_rfl),k0]
 refine go _ _ 99 (m':=.cl _ _ _ _ _ _) rfl ⟨?_,?_,trivial⟩ ?_
 ·exact ixOk_last (n:=1) (by decide) (by decide)
 ·exact ixOk_nat (n:=2) (k:=1) (by decide) (by decide)
 refine vcall (c_charsUntil c hK h1 quotL false (.inr ⟨by kernel_rfl,rfl⟩)) rfl rfl fun v W' hW=>?_
 apply hW; clear hW; intro d2 t2 e2 h2
 have hz:=h2.ule
 obtain ⟨s2,rfl⟩:=h2.fm
 have htk:=ar_tk (k:=k) hz hx
 refine go _ _ 99 (m':=.rt _ _ _ _ _) rfl ⟨htk,?_,?_,trivial⟩ ?_
 ·refine sz_le (Nat.le_trans (Nat.add_le_add ha (show (#[k]++(tkW quotL false x (u+1)).toArray).size≤601 from ?_)) (by decide))
  rw [Array.size_append,List.size_toArray,Nat.add_comm]
  exact Nat.succ_le_succ (Nat.le_trans (Nat.le_trans (Nat.le_add_left _ _) hz) hx)
 ·exact ⟨Int.le_of_lt Int.one_pos,Int.ofNat_lt.mpr (Nat.le_of_ble_eq_true rfl),Nat.le_of_ble_eq_true rfl⟩
 rw [str_cons]
 exact hQ _ _ _ _ _ (.same rfl) (.mk h2)
end
noncomputable def tagE (nm an av:Str):List AO:=[.list [.ob 7],.dict (tagD nm (.dict [(an,.str av)])),.list [.str an,.str av]]
theorem c_emit (c:Cx) (hK:c.K=top.heap_1 c.w.params) {st:V} {nm an av:Str} {d t e:AO} {q:List V} (hq:q.length≤4000) (hnm:nm=⟨#[97]⟩):CallD c 5 297 [.inst 762 0] (.dict (tkD st (.ob 6)) :: d :: t :: e :: .list q :: tagR nm an av) .none (.dict (tkD (mtS 304) (.ob 6)) :: d :: t :: e :: .list (q++[.ob 6]) :: tagE nm an av):=by
 subst hnm
 refine cgo (bs:=[(Str.ofString "self",.inst 762 0)]) (others:=[Str.ofString "token",Str.ofString "raw",Str.ofString "data"]) hK (ok1 hK) rfl rfl rfl (by kernel_rfl) (by kernel_rfl) (binds1 (fun s X a=>BindsTo.of_eq rfl) .nil) ?_
 intro κ hf hQ hN hX
 unfold tagR tagD
 refine go0 99 (m':=.ex _ _ _ _) rfl rfl ?_
 refine vassub (v:=.str ⟨#[97]⟩) (ov:=.ob 6) (iv:=.str (Str.ofString "name")) rfl (pe_walk fun κ' q=>?_) (pe_run (k:=3) rfl) (pe_run (k:=3) rfl) (vsi_dict rfl (.tail .head) rfl rfl ?_)
 ·refine go0 99 (m':=.cl _ _ _ _ _ _) rfl rfl ?_
  refine vcallD (c_lower c hK (.inl rfl) _) rfl rfl ?_
  exact q
 refine go0 99 (m':=.cl _ _ _ _ _ _) rfl rfl ?_
 refine vdict1 (p:=.ob 7) (x:=an) (u:=.str av) (.ob rfl) (.ob rfl) ?_
 refine go1 99 (m':=.cl _ _ _ _ _ _) rfl rfl ?_ ?_
 ·exact Nat.le_of_ble_eq_true rfl
 refine vlen_dict .dict (Nat.le_of_ble_eq_true rfl) ?_
 refine go0 99 (m':=.ex _ _ _ _) rfl rfl ?_
 refine vassub (v:=.dict [(an,.str av)]) (ov:=.ob 6) (iv:=.str (Str.ofString "data")) rfl (pe_run (k:=3) rfl) (pe_run (k:=3) rfl) (pe_run (k:=3) rfl) (vsi_dict rfl (.tail (.tail .head)) rfl rfl ?_)
 refine go1 99 (m':=.ex _ _ _ _) rfl rfl ?_ ?_
 ·exact ar_n1 hq
 exact vend (hN _ _ _ ⟨rfl,rfl⟩)
theorem c_afterVal (c:Cx) (hK:c.K=top.heap_1 c.w.params) {nm an av:Str} {d t e:AO} {x:Str} {u b told:Nat} {q:List V} (h:Strm x u b told d t e) (hq:q.length≤4000) (hnm:nm=⟨#[97]⟩) (hxu:x.cps.toList[u]?=some 62) :
  CallS c 7 (.ref 584) [.inst 762 0] [] (TS (.ob 6) (tagE nm an av) x (u+1) told (q++[.ob 6]) 304 (.bool true)) (fun z9=>False) (.dict (tkD (mtS 584) (.ob 6)) :: d :: t :: e :: .list q :: tagR nm an av):=by
 obtain ⟨s0,rfl⟩:=h.fm
 refine cgo (bs:=[(Str.ofString "self",.inst 762 0)]) (others:=[Str.ofString "data"]) hK (ok1 hK) rfl rfl rfl (by kernel_rfl) (by kernel_rfl) (binds1 (fun s X a=>BindsTo.of_eq rfl) .nil) ?_
 intro κ hf hQ hN hX
 refine go0 5 (m':=.cl _ _ _ _ _ _) rfl rfl ?_
 refine vcall (c_charA c hK h) rfl rfl fun v W' hW=>?_
 apply hW; clear hW; intro d1 t1 e1 h1
 obtain ⟨s1,rfl⟩:=h1.fm
 rw [chV_at hxu]
 rw [Nat.min_eq_left (Nat.succ_le_of_lt (at_lt hxu))] at h1
 refine go0 99 (m':=.cl _ _ _ _ _ _) rfl rfl ?_
 refine vcallD (c_emit c hK hq hnm) rfl rfl ?_
 refine go0 99 (m':=.rt _ _ _ _ _) rfl rfl ?_
 exact hQ _ _ _ _ _ (.same rfl) (.mk h1.weak)
end HL.Lake
end
noncomputable section
namespace HL.Lake
open PySem PySem.W PySem.Calls PyProof.Rows
theorem ns_some_of {K:Frag} {h:Heap} {N:Addr} {mg:Str→Option Value} {n:Str} {v:Value} (X:K.In h) (G:h.Ns N mg) (e:nsIn K N n=some (some v)):mg n=some v:=by
 obtain ⟨o,es,ep,ho,hd,_,hf⟩:=G
 unfold nsIn at e
 cases q:List.lookup N K with
 | none=>rw [q] at e; cases e
 | some o2 =>
  rw [q] at e
  have hx:=X _ _ q
  rw [ho] at hx
  cases hx
  obtain ⟨c,d,dt,sl⟩:=o
  obtain rfl:=hd
  rw [← hf]
  unfold nsFind findBy
  rw [← Array.find?_toList]
  revert e
  show (match List.find? (fun d:DictEntry=>d.key.isStr n) es.toList with | some e=>some (some e.val) | none=>_)=some (some v)→_
  cases List.find? (fun d:DictEntry=>d.key.isStr n) es.toList with
  | some en=>intro e; cases e; rfl
  | none =>
   intro e
   cases hb:es.toList.any (fun d:DictEntry=>d.refKey) with
   | true=>rw [hb,if_pos rfl] at e; cases e
   | false=>rw [hb,if_neg Bool.false_ne_true] at e; cases e
theorem own_special {K:Frag} {h:Heap} {x C f N:Addr} {o of:Obj} {name nm q:Str} {bs bm:List Value} {hdct:Bool} {sn:List Str} {sub:List Value} {ab:Bool} {col:Option Bool} {dd:Option Addr} {k0 k1 k2 k3 k5:Option Value} {newId:String} {y:Option Value} (X:K.In h) (hx:h.get? x=some o) (hc:o.cls=.ref C)
  (hC:K.lookup C=some (excClassObj nm q C N bs bm hdct sn sub ab col dd k0 k1 k2 k3 k5 newId)) (hN:nsOkIn K N=true) (hn:nsIn K N name=some (some (.ref f))) (hf:K.lookup f=some of) (ht:of.cls=.type "function") (hbm:mroOf (.type "object")=pure bm) (hy:typeLookup (.type "object") name=pure y):h.OwnSpecial x C f "object" name :=
 ⟨o,of,nm,q,N,bs,bm,hdct,sn,sub,ab,col,dd,k0,k1,k2,k3,k5,newId,_,y,hx,hc,X _ _ hC,.of_isNs (isNs_of_in X hN),ns_some_of X (.of_isNs (isNs_of_in X hN)) hn,X _ _ hf,ht,hbm,hy⟩
theorem no_iter:typeLookup (.type "object") (Str.ofString "__iter__")=pure none:=by rw [typeLookup_type,builtinLookup_eq_fast]; kernel_rfl
theorem own268 (c:Cx) (hK:c.K=top.heap_1 c.w.params) (h:Heap) (xi d:Addr) (X:c.K.In h) (hx:h.get? xi=some ⟨.ref 762,some d,.plain,#[]⟩):h.OwnSpecial xi 762 268 "object" (Str.ofString "__iter__"):=by
 rw [hK] at X
 exact own_special X hx rfl (by exact rfl) (by kernel_rfl) (by kernel_rfl) (by exact rfl) rfl (by kernel_rfl:mroOf (.type "object")=pure [.type "object"]) no_iter
theorem Strm.full {x:Str} {u b told:Nat} {d t e:AO} (h:Strm x u b told d t e) (hu:0 < u∨x.length=0):∃ m,e=.list (badV m)∧told+m=invN x.cps.toList:=by
 apply h; clear h; intro s pre post a hb
 refine ⟨s.m,rfl,a.m.trans ?_⟩
 rw [List.take_of_length_le]
 rw [len_str]
 rcases a.fl with h | h
 ·have e:=congrArg List.length a.e
  rw [h,List.append_nil,List.length_append,len_str,len_str] at e
  exact Nat.le_of_eq (e.trans a.p)
 ·rcases hu with hu | hu
  ·have h1:=a.u
   have h2:=a.p
   have h3:=a.ok.off
   exfalso
   exact (Lake.n5 [_,_,_,_,_] 1 (.v 1) (.n 0) 1 (.a (.n 0) (.n 1)) (.v 2) 1 (.v 2) (.a (.v 3) (.v 0)) 1 (.a (.v 3) (.v 4)) (.v 1) 1 (.v 0) (.v 4) rfl (Nat.le_of_eq h) hu (Nat.le_of_eq h1) (Nat.le_of_eq h2) h3)
  ·rw [hu]; exact Nat.zero_le _
structure Cf where
 f:Addr
 u:Nat
 ct:V
 R:List AO
structure Go (c:Cx) (x:Str) (cf cf':Cf) (q:List V):Prop where
 hf:kp1.contains cf.f=true
 hu:0 < cf'.u
 hq:q.length≤4000
 go:∀ d t,Strm x cf.u 0 0 d t (.list [])→CallS c 8 (.ref cf.f) [.inst 762 0] [] (TS cf'.ct cf'.R x cf'.u 0 q cf'.f (.bool true)) (fun z9=>False) (.dict (tkD (mtS cf.f) cf.ct) :: d :: t :: .list [] :: .list [] :: cf.R)
noncomputable def Run (c:Cx) (x:Str) (Rf:List AO):Nat→Cf→List V→Prop
 | 0,_,_=>False
 | k+1,cf,i=>(cf.f=304∧cf.R=Rf∧x.cps.toList[cf.u]?=none∧i=[])∨∃ q cf' i',i=q++i'∧Go c x cf cf' q∧Run c x Rf k cf' i'
theorem Strm.noErr {x:Str} (h0:invN x.cps.toList=0) {u b:Nat} {d t e:AO} (h:Strm x u b 0 d t e) (hu:0 < u):e=.list []:=by
 obtain ⟨m,rfl,hm⟩:=h.full (.inl hu)
 obtain rfl:m=0:=(Nat.zero_add m).symm.trans (hm.trans h0)
 rfl
noncomputable def P1l (c:Cx) (x:Str) (Rf:List AO) (i:List V) (k:Nat) (z1:List AO):Prop:=∀ G:List AO→Prop,(∀ (cf:Cf) (d t:AO) (h:Strm x cf.u 0 0 d t (.list [])) (hr:Run c x Rf k cf i),G (.dict (tkD (mtS cf.f) cf.ct) :: d :: t :: .list [] :: .list [] :: cf.R))→G z1
theorem P1l.mk {c:Cx} {x:Str} {Rf:List AO} {i:List V} {k:Nat} (cf:Cf) {d t:AO} (h:Strm x cf.u 0 0 d t (.list [])) (hr:Run c x Rf k cf i):P1l c x Rf i k (.dict (tkD (mtS cf.f) cf.ct) :: d :: t :: .list [] :: .list [] :: cf.R):=fun z9 z=>z cf d t h hr
noncomputable def P2l (c:Cx) (x:Str) (Rf:List AO) (i:List V) (k:Nat) (z1:List AO):Prop:=∀ G:List AO→Prop,(∀ (cf:Cf) (q i':List V) (d t:AO) (h:Strm x cf.u 0 0 d t (.list [])) (hq:q.length≤4000) (hi:i=q++i') (hr:Run c x Rf k cf i'),G (.dict (tkD (mtS cf.f) cf.ct) :: d :: t :: .list [] :: .list q :: cf.R))→G z1
theorem P2l.mk {c:Cx} {x:Str} {Rf:List AO} {i:List V} {k:Nat} (cf:Cf) (q i':List V) {d t:AO} (h:Strm x cf.u 0 0 d t (.list [])) (hq:q.length≤4000) (hi:i=q++i') (hr:Run c x Rf k cf i'):P2l c x Rf i k (.dict (tkD (mtS cf.f) cf.ct) :: d :: t :: .list [] :: .list q :: cf.R):=fun z9 z=>z cf q i' d t h hq hi hr
noncomputable def En2 (x:Str) (Rf:List AO) (z1:List AO):Prop:=∀ G:List AO→Prop,(∀ (st ct:V) (d t:AO) (h:Strm x x.length 0 0 d t (.list [])),G (.dict (tkD st ct) :: d :: t :: .list [] :: .list [] :: Rf))→G z1
theorem En2.mk {x:Str} {Rf:List AO} (st ct:V) {d t:AO} (h:Strm x x.length 0 0 d t (.list [])):En2 x Rf (.dict (tkD st ct) :: d :: t :: .list [] :: .list [] :: Rf):=fun z9 z=>z st ct d t h
noncomputable def StP (c:Cx) (x:Str) (Rf:List AO) (i:List V) (k:Nat) (v:V) (W':List AO):Prop:=∃ b,v=.bool b∧(b=true→∃ k',k=k'+1∧P2l c x Rf i k' W')∧(b=false→i=[]∧En2 x Rf W')
theorem c_state (c:Cx) (hK:c.K=top.heap_1 c.w.params) {x:Str} {Rf:List AO} {cf:Cf} {i:List V} {k:Nat} {d t:AO} (h0:invN x.cps.toList=0) (hx:0 < x.length) (h:Strm x cf.u 0 0 d t (.list [])) (hr:Run c x Rf k cf i) :
  fnIn c.K cf.f=true∧CallS c 8 (.ref cf.f) [.inst 762 0] [] (StP c x Rf i k) (fun z9=>False) (.dict (tkD (mtS cf.f) cf.ct) :: d :: t :: .list [] :: .list [] :: cf.R):=by
 cases k with
 | zero=>exact hr.elim
 | succ k =>
  rcases hr with ⟨h1,h2,h3,rfl⟩ | ⟨q,cf',i',rfl,g,hr⟩
  ·obtain ⟨f,u,ct,R⟩:=cf
   obtain rfl:=h1
   obtain rfl:=h2
   refine ⟨((ok1 hK).kp 304 (List.contains_iff_mem.mp (by kernel_rfl))).2,((c_dataE c hK h h3).mono (fun v W' z=>?_) fun z9 z=>z).up (by decide)⟩
   apply z; clear z; intro d t e h
   obtain rfl:=h.noErr h0 hx
   exact ⟨false,rfl,nofun,fun z9=>⟨rfl,.mk _ _ h⟩⟩
  ·refine ⟨((ok1 hK).kp _ (List.contains_iff_mem.mp g.hf)).2,(g.go d t h).mono (fun v W' z=>?_) fun z9 z=>z⟩
   apply z; clear z; intro d t e h
   obtain rfl:=h.noErr h0 g.hu
   exact ⟨true,rfl,fun z9=>⟨k,rfl,.mk cf' q i' h g.hq rfl hr⟩,nofun⟩
theorem valc {c:Cx} {n:Nat} {sc:Scope} {τ:TblD} {κ:Ct c sc τ} {l:Loc} {T W:List AO} {ks:List Fr} {f:V} {acc:List V} {pos:Pos} (h:Kp c f) (q:Vd n κ (.cl f (acc.reverseAux []) ks l T W)):Vd n κ (.al (.call f) acc [] pos ks l T W):=wl_nil ⟨h,q⟩
noncomputable def P2e (c:Cx) (x:Str) (Rf:List AO) (i:List V) (k:Nat) (W:List AO):Prop:=P2l c x Rf i k W∧∃ a l,W[3]?=some (.list (a :: l))
noncomputable def P3e (c:Cx) (x:Str) (Rf:List AO) (i:List V) (k:Nat) (W:List AO):Prop:=P2l c x Rf i k W∧Er 3 W∧∃ t q,W[4]?=some (.list (t :: q))
noncomputable def lcG:Loc:=[(Str.ofString "self",some (.inst 762 0))]
theorem p2e_no {c:Cx} {x:Str} {Rf:List AO} {i:List V} {k:Nat} {W:List AO} (h:P2e c x Rf i k W):False:=by
 obtain ⟨hP,a,l,e⟩:=h
 revert e; apply hP; clear hP; intro cf q i' d t _ _ _ _ e
 cases AO.list.inj (Option.some.inj e)
inductive G268 (c:Cx) (x:Str) (Rf:List AO):Prop
 | mk (fd:FuncData) (s1:Stmt) (t1 t2 t3 e1 e2:PySem.Expr) (q1 q2 q3 y1 y2 z1 z2:Pos) (D:GD c 268 fd fd.scope [s1,.While t1 [.While t2 [.Expr (.Yield (some e1) y1) z1] [] q2,.While t3 [.Expr (.Yield (some e2) y2) z2] [] q3] [] q1] (Str.ofString "self"))
  (G:∀ envg,EnvOk envg fd.scope→EnvF envg→GW c 28 envg (Str.ofString "self") (.inst 762 0) (P1l c x Rf) (P2l c x Rf) (P2e c x Rf) (P3e c x Rf) (En2 x Rf) 3 t1 t2 t3 e1 e2)
  (S:∀ envg,EnvOk envg fd.scope→EnvF envg→∀ (st ct:V) (d t e:AO),WS c 28 envg [s1] (fun fl σ=>fl=.next∧σ=⟨lcG,[],[.dict (tkD st ct),d,t,e,.list []]⟩) (fun z9=>False) ⟨lcG,[],[.dict (tokD st ct),d,t,e]⟩):G268 c x Rf
theorem gen268 (c:Cx) (hK:c.K=top.heap_1 c.w.params) {x:Str} {Rf:List AO} (hx:0 < x.length) (h0:invN x.cps.toList=0):G268 c x Rf:=by
 refine ⟨_,_,_,_,_,_,_,_,_,_,_,_,_,_,GD.of hK rfl rfl rfl (by kernel_rfl) (by kernel_rfl) (fun s v=>BindsTo.of_eq rfl),fun envg he hf=>⟨?_,?_,?_,?_,?_,?_,?_,?_⟩,?_⟩
 ·intro i k W hP
  apply hP; clear hP; intro cf d t h hr
  obtain ⟨s0,rfl⟩:=h.fm
  refine wt_vd he (ok1 hK) fun κ hκ hQ=>?_
  obtain ⟨hk,hc⟩:=c_state c hK h0 hx h hr
  obtain ⟨f,u,ct,R⟩:=cf
  refine go0 4 (m':=.al _ _ _ _ _ _ _ _) rfl rfl ?_
  refine valc (.meth hk) ?_
  refine vcallb hc rfl rfl fun v W' hv=>?_
  obtain ⟨b,rfl,hb1,hb2⟩:=hv
  refine go0 1 (m':=.rt _ _ _ _ _) rfl rfl ?_
  exact hQ b _ ⟨W',rfl,hb1,hb2⟩
 ·intro i k W hP
  apply hP; clear hP; intro cf q i' d t h hq hi hr
  obtain ⟨s0,rfl⟩:=h.fm
  obtain ⟨f,u,ct,R⟩:=cf
  refine wt_vd he (ok1 hK) fun κ hκ hQ=>?_
  refine go1 1 (m':=.rt _ _ _ _ _) rfl rfl ?_ ?_
  ·exact Nat.zero_le _
  exact hQ false _ ⟨_,rfl,nofun,fun z9=>⟨.mk ⟨f,u,ct,R⟩ q i' h hq hi hr,rfl⟩⟩
 ·intro i k W hP _
  apply hP; clear hP; intro cf q i' d t h hq hi hr
  obtain ⟨s0,rfl⟩:=h.fm
  obtain ⟨f,u,ct,R⟩:=cf
  refine wt_vd he (ok1 hK) fun κ hκ hQ=>?_
  refine go1 1 (m':=.rt _ _ _ _ _) rfl rfl ?_ ?_
  ·exact ar_n1 hq
  cases q with
  | nil=>exact hQ false _ ⟨_,rfl,nofun,fun z9=>hi▸.mk ⟨f,u,ct,R⟩ h hr⟩
  | cons a q=>exact hQ true _ ⟨_,rfl,(fun z9=>⟨.mk ⟨f,u,ct,R⟩ (a :: q) i' h hq hi hr,rfl,a,q,rfl⟩),nofun⟩
 ·exact fun i k W hP=>(p2e_no hP).elim
 ·intro i k W hP
  obtain ⟨hP,hr,t0,q0,hq0⟩:=hP
  revert hq0; apply hP; clear hP; intro cf q i' d t h hq hi hr hq0
  obtain rfl:q=t0 :: q0:=AO.list.inj (Option.some.inj hq0)
  exact ⟨t0,_,hi⟩
 ·exact fun v j k W hP=>(p2e_no hP).elim
 ·intro v j k W hP
  obtain ⟨hP,hr,t0,q0,hq0⟩:=hP
  generalize hj:v :: j=i at hP
  revert hq0; apply hP; clear hP; intro cf q i' d t h hq hi hr hq0
  obtain rfl:q=t0 :: q0:=AO.list.inj (Option.some.inj hq0)
  obtain ⟨s0,rfl⟩:=h.fm
  obtain ⟨f,u,ct,R⟩:=cf
  refine we_vd he (ok1 hK) fun κ hκ hQ=>?_
  refine go0 7 (m':=.cl _ _ _ _ _ _) rfl rfl ?_
  have hq':q0.length≤4000:=Nat.le_trans (Nat.le_succ _) hq
  refine vpop0 (i:=4) rfl (Nat.le_trans hq' (by decide)) ?_
  have e:v=t0∧j=q0++i':=List.cons.inj (hj.trans hi)
  exact hQ _ _ ⟨e.1.symm,_,rfl,.mk ⟨f,u,ct,R⟩ q0 i' h hq' e.2 hr,rfl⟩
 ·intro i k W hP
  apply hP; clear hP; intro cf q i' d t h hq hi hr
  exact ⟨_,rfl⟩
 ·intro envg he hf st ct d t e
  refine ws_vd he (ok1 hK) fun κ hκ hQ hX=>?_
  unfold lcG tokD
  refine go0 4 (m':=.ex _ _ _ _) rfl rfl ?_
  exact vend (hQ _ _ ⟨rfl,rfl⟩)
end HL.Lake
end
noncomputable section
namespace HL.Lake
open PySem PySem.W PySem.Calls PyProof.Rows
theorem noPy {b:Int} (a:Int) (h0:b≠0) (h:b.natAbs < 2 ^ 30):b≠0∧Builtin.divisionGoesByPylong a b=false:=⟨h0,PyProof.noPylong_small h⟩
noncomputable def told (k:Nat):Bool:=k==0||(decide (1114111 < k)||k / 2048==27)
theorem told_iff {k:Nat}:told k=true ↔ k=0∨1114111 < k∨k / 2048=27:=by
 unfold told
 rw [Bool.or_eq_true,Bool.or_eq_true,beq_iff_eq,decide_eq_true_eq,beq_iff_eq]
noncomputable def lawS (k:Nat):Str×Bool :=
 if told k then (⟨#[65533]⟩,true)
 else if k / 32=4 then (⟨#[oldL[k % 32]?.getD 0]⟩,true)
 else if k < 32 then (⟨#[k]⟩,!(k==9||(k==10||k==12)))
 else (⟨#[k]⟩,k==127||((k / 16==4061||k / 16==4062)||decide (65533 < k % 65536)))
theorem fdiv_nat (k b:Nat):(k:Int).fdiv (b:Nat)=((k / b:Nat):Int):=by rw [Int.fdiv_eq_ediv_of_nonneg _ (Int.natCast_nonneg b)]; rfl
theorem fmod_nat (k b:Nat):(k:Int).fmod (b:Nat)=((k % b:Nat):Int):=by rw [Int.fmod_eq_emod_of_nonneg _ (Int.natCast_nonneg b)]; rfl
theorem int_beq (a b:Nat):((a:Int)==(b:Nat))=(a==b):=by
 by_cases h:a=b
 ·subst h; rw [beq_self_eq_true,beq_self_eq_true]
 ·rw [beq_false_of_ne h]; exact beq_false_of_ne fun e=>h (Int.ofNat_inj.mp e)
theorem int_gt (a b:Nat):decide ((a:Int) > (b:Nat))=decide (b < a):=decide_eq_decide.mpr Int.ofNat_lt
theorem told_int (k:Nat):((k:Int)==0||(decide ((k:Int) > 1114111)||((k:Int).fdiv 2048==27)))=told k:=by
 rw [show (k:Int).fdiv 2048=((k / 2048:Nat):Int) from fdiv_nat k 2048,show ((k:Int)==0)=_ from int_beq k 0,show decide ((k:Int) > 1114111)=_ from int_gt k 1114111,show (((k / 2048:Nat):Int)==27)=_ from int_beq (k / 2048) 27]
 rfl
theorem sign_lo (k:Nat):([V.int 9,V.int 10,V.int 12].any fun y=>vf y (.int k))=(k==9||(k==10||k==12)):=by
 show ((9==(k:Int))||((10==(k:Int))||((12==(k:Int))||false)))=_
 rw [Bool.or_false,show ((9:Int)==(k:Int))=(k==9) from (int_beq 9 k).trans Bool.beq_comm,show ((10:Int)==(k:Int))=(k==10) from (int_beq 10 k).trans Bool.beq_comm,show ((12:Int)==(k:Int))=(k==12) from (int_beq 12 k).trans Bool.beq_comm]
theorem sign_hi (k:Nat):((k:Int)==127||(([V.int 4061,V.int 4062].any fun y=>vf y (.int ((k:Int).fdiv 16)))||decide ((k:Int).fmod 65536 > 65533)))=(k==127||((k / 16==4061||k / 16==4062)||decide (65533 < k % 65536))):=by
 rw [show (k:Int).fdiv 16=((k / 16:Nat):Int) from fdiv_nat k 16,show (k:Int).fmod 65536=((k % 65536:Nat):Int) from fmod_nat k 65536]
 show ((k:Int)==127||(((4061:Int)==((k / 16:Nat):Int))||(((4062:Int)==((k / 16:Nat):Int))||false)||_))=_
 rw [Bool.or_false,show ((k:Int)==127)=(k==127) from int_beq k 127,show ((4061:Int)==((k / 16:Nat):Int))=(k / 16==4061) from (int_beq 4061 (k / 16)).trans Bool.beq_comm,show ((4062:Int)==((k / 16:Nat):Int))=(k / 16==4062) from (int_beq 4062 (k / 16)).trans Bool.beq_comm]
 rw [show decide ((((k % 65536:Nat)):Int) > 65533)=_ from int_gt (k % 65536) 65533]
theorem chr_in {k:Nat} (h:k≤1114111):(decide ((k:Int) < 0)||decide ((k:Int) > 1114111))=false:=by
 rw [decide_eq_false (Int.not_lt.mpr (Int.natCast_nonneg k)),show decide ((k:Int) > 1114111)=_ from int_gt k 1114111,decide_eq_false (Nat.not_lt.mpr h)]
 rfl
theorem c_law_sign (c:Cx) (hK:c.K=top.heap_1 c.w.params) (k:Nat) (W:List AO):CallD c 1 801 [.int k] W (.tup [.str (lawS k).1,.bool (lawS k).2]) W:=by
 refine cgo (bs:=[(Str.ofString "value",.int k)]) (others:=[]) hK (ok1 hK) rfl rfl rfl (by kernel_rfl) (by kernel_rfl) (binds1 (fun s X a=>BindsTo.of_eq rfl) .nil) ?_
 intro κ hf hQ hN hX
 have ret:∀ (a:Str) (b:Bool),lawS k=(a,b)→∀ l T,κ.Q (.ret (.tup [.str a,.bool b])) ⟨l,T,W⟩:=fun a b e l T=>hQ _ _ _ _ _ (.same rfl) ⟨by rw [e],rfl⟩
 clear hQ
 unfold lawS at ret
 refine go1 2 (m':=.rt _ _ _ _ _) rfl rfl ?_ ?_
 ·exact noPy _ (by decide) (by decide)
 refine vb (told_int k) ?_
 cases h1:told k with
 | true =>
  rw [h1] at ret
  refine go0 3 (m':=.rt _ _ _ _ _) rfl rfl ?_
  rw [show Str.ofString "�"=⟨#[65533]⟩ by kernel_rfl]
  exact ret _ _ rfl _ _
 | false =>
  have hch:=chr_in (k:=k) (Nat.le_of_not_lt fun h=>absurd (told_iff.mpr (.inr (.inl h))) (by rw [h1]; decide))
  rw [h1,if_neg (by decide)] at ret
  refine go1 3 (m':=.rt _ _ _ _ _) rfl rfl ?_ ?_
  ·exact noPy _ (by decide) (by decide)
  refine vb (b':=(k / 32==4)) (by rw [show (k:Int).fdiv 32=((k / 32:Nat):Int) from fdiv_nat k 32]; exact int_beq (k / 32) 4) ?_
  cases h2:(k / 32==4) with
  | true =>
   have hlt:k % 32 < 32:=Nat.mod_lt _ (by decide)
   rw [if_pos (eq_of_beq h2)] at ret
   refine go2 3 (m':=.rt _ _ _ _ _) rfl rfl ?_ ?_ ?_
   ·decide
   ·rw [show (k:Int).fmod 32=((k % 32:Nat):Int) from fmod_nat k 32]; exact ixOk_nat (n:=32) hlt (by decide)
   rw [show (k:Int).fmod 32=((k % 32:Nat):Int) from fmod_nat k 32,ix_nat,List.getD_eq_getElem?_getD]
   exact ret _ _ rfl _ _
  | false =>
   rw [if_neg (ne_of_beq_false h2)] at ret
   refine go0 3 (m':=.rt _ _ _ _ _) rfl rfl ?_
   refine vb (b':=decide (k < 32)) (int_gt 32 k) ?_
   cases h3:decide (k < 32) with
   | true =>
    rw [if_pos (of_decide_eq_true h3)] at ret
    refine go1 17 (m':=.rt _ _ _ _ _) rfl rfl ?_ ?_
    ·exact hch
    rw [Int.toNat_natCast,sign_lo]
    exact ret _ _ rfl _ _
   | false =>
    rw [if_neg (of_decide_eq_false h3)] at ret
    refine go _ _ 17 (m':=.rt _ _ _ _ _) rfl ⟨?_,?_,?_,trivial⟩ ?_
    ·exact hch
    ·exact noPy _ (by decide) (by decide)
    ·decide
    rw [Int.toNat_natCast,sign_hi]
    exact ret _ _ rfl _ _
end HL.Lake
end
noncomputable section
namespace HL.Lake
open PySem PySem.W PySem.Calls PyProof.Rows
theorem any_int (l:List Int) (n:Int):((l.map V.int).any fun y=>vf y (.int n))=decide (n∈l):=by
 rw [List.any_map]
 induction l with
 | nil=>rfl
 | cons a l ih =>
  rw [List.any_cons,ih]
  show ((a==n)||_)=_
  by_cases h:a=n
  ·subst h
   rw [beq_self_eq_true,Bool.true_or]
   exact (decide_eq_true List.mem_cons_self).symm
  ·rw [beq_false_of_ne h,Bool.false_or]
   rw [Bool.eq_iff_iff,decide_eq_true_eq,decide_eq_true_eq,List.mem_cons]
   exact ⟨.inr,fun h'=>h'.elim (fun e=>absurd e.symm h) id⟩
theorem bad_mem {k:Nat} (h1:160≤k) (h2:k≤1114111):decide ((k:Int)∈badT)=decide (65533 < k % 65536):=by
 have hq:k / 65536 < 17:=by exact (Nat.lt_of_not_le fun hn=>Lake.n3 [_,_,_] 65536 (.n 17) (.v 1) 1 (.v 0) (.n 1114111) 1 (.a (.m 65536 (.v 1)) (.v 2)) (.v 0) rfl hn h2 (Nat.le_of_eq (Nat.div_add_mod _ 65536)))
 have all1:badT.all (fun t=>decide (t < 160)||decide (65533 < t.toNat % 65536))=true:=by decide +kernel
 have all2:(List.range 17).all (fun q=>decide (((q * 65536+65534:Nat):Int)∈badT)&&decide (((q * 65536+65535:Nat):Int)∈badT))=true:=by decide +kernel
 rw [Bool.eq_iff_iff,decide_eq_true_eq,decide_eq_true_eq]
 constructor
 ·intro hm
  have:=List.all_eq_true.mp all1 _ hm
  simp only [Bool.or_eq_true,decide_eq_true_eq] at this
  exact this.elim (fun q=>absurd (Int.ofNat_lt (n:=k) (m:=160) |>.mp q) (Nat.not_lt.mpr h1)) id
 ·intro hm
  have:=List.all_eq_true.mp all2 (k / 65536) (List.mem_range.mpr hq)
  simp only [Bool.and_eq_true,decide_eq_true_eq] at this
  have e0:k / 65536 * 65536+k % 65536=k:=Nat.div_add_mod' k 65536
  rcases Nat.lt_or_eq_of_le (Nat.succ_le_of_lt hm) with h3 | h3
  ·have h4:k % 65536=65535:=Nat.le_antisymm (Nat.le_of_lt_succ (Nat.mod_lt k (by decide))) h3
   rw [h4] at e0
   rw [← e0]; exact this.2
  ·rw [← h3] at e0
   rw [← e0]; exact this.1
theorem rep_hi {k:Nat} (h:160≤k):repS (k:Int)=none:=by
 unfold repS
 rw [List.find?_eq_none]
 intro p hp
 have all1:repTab.all (fun p=>decide (p.1 < 160))=true:=by decide +kernel
 have:=of_decide_eq_true (List.all_eq_true.mp all1 p hp)
 simp
 intro e
 rw [e] at this
 exact absurd (Int.ofNat_lt (n:=k) (m:=160) |>.mp this) (Nat.not_lt.mpr h)
theorem law_lo:(List.range 160).all (fun k=>decide (numSign (k:Nat)=(lawS k).1)&&(((repS (k:Nat)).isSome||(badN (k:Nat)||badC (k:Nat)))==(lawS k).2))=true:=by decide +kernel
theorem int_le (a b:Nat):decide ((a:Int)≤(b:Nat))=decide (a≤b):=decide_eq_decide.mpr Int.ofNat_le
theorem le_div {k q b:Nat} (hb:0 < b):decide (q * b≤k)=decide (q≤k / b):=decide_eq_decide.mpr (Nat.le_div_iff_mul_le hb).symm
theorem div_lt {k q b:Nat} (hb:0 < b):decide (k < q * b)=decide (k / b < q):=decide_eq_decide.mpr (Nat.div_lt_iff_lt_mul hb).symm
theorem at_one {q c:Nat}:(decide (c≤q)&&decide (q < c+1))=(q==c):=by
 rw [Bool.eq_iff_iff,Bool.and_eq_true,decide_eq_true_eq,decide_eq_true_eq,beq_iff_eq]
 exact ⟨fun h=>Nat.le_antisymm (Nat.le_of_lt_succ h.2) h.1,fun h=>h▸⟨Nat.le_refl _,Nat.lt_succ_self _⟩⟩
theorem at_two {q c:Nat}:(decide (c≤q)&&decide (q < c+2))=(q==c||q==c+1):=by
 rw [Bool.eq_iff_iff,Bool.and_eq_true,Bool.or_eq_true,decide_eq_true_eq,decide_eq_true_eq,beq_iff_eq,beq_iff_eq]
 constructor
 ·intro h
  rcases Nat.lt_or_eq_of_le h.1 with h1 | h1
  ·exact .inr (Nat.le_antisymm (Nat.le_of_lt_succ h.2) h1)
  ·exact .inl h1.symm
 ·rintro (h | h)
  ·exact h▸⟨Nat.le_refl _,Nat.lt_succ_of_lt (Nat.lt_succ_self _)⟩
  ·exact h▸⟨Nat.le_succ _,Nat.lt_succ_self _⟩
theorem badN_nat (k:Nat):badN (k:Nat)=(k / 2048==27||decide (1114111 < k)):=by
 unfold badN
 rw [show decide ((55296:Int)≤(k:Nat))=_ from int_le 55296 k,show decide (((k:Nat):Int)≤57343)=_ from int_le k 57343,show decide (((k:Nat):Int) > 1114111)=_ from int_gt k 1114111]
 rw [show decide (55296≤k)=_ from le_div (q:=27) (b:=2048) (by decide),show decide (k≤57343)=decide (k / 2048 < 27+1) from (decide_eq_decide.mpr Nat.lt_succ_iff.symm).trans (div_lt (q:=28) (b:=2048) (by decide)),at_one]
theorem dec_no {a b:Nat} {y:Bool} (h:b < a):(y&&decide ((a:Int)≤(b:Nat)))=false:=by
 rw [int_le,decide_eq_false (Nat.not_le.mpr h),Bool.and_false]
theorem badC_hi {k:Nat} (h:160≤k) (h2:k≤1114111):badC (k:Nat)=(k==127||((k / 16==4061||k / 16==4062)||decide (65533 < k % 65536))):=by
 unfold badC
 have e1:(decide ((1:Int)≤k)&&decide ((k:Int)≤8))=false:=dec_no (b:=8) (Nat.lt_of_lt_of_le (by decide) h)
 have e2:(decide ((14:Int)≤k)&&decide ((k:Int)≤31))=false:=dec_no (b:=31) (Nat.lt_of_lt_of_le (by decide) h)
 have e3:(decide ((127:Int)≤k)&&decide ((k:Int)≤159))=false:=dec_no (b:=159) (Nat.lt_of_lt_of_le (by decide) h)
 have e4:(decide ((64976:Int)≤k)&&decide ((k:Int)≤65007))=(k / 16==4061||k / 16==4062):=by
  rw [show decide ((64976:Int)≤k)=_ from int_le 64976 k,show decide ((k:Int)≤65007)=_ from int_le k 65007]
  rw [show decide (64976≤k)=_ from le_div (q:=4061) (b:=16) (by decide),show decide (k≤65007)=decide (k / 16 < 4061+2) from (decide_eq_decide.mpr Nat.lt_succ_iff.symm).trans (div_lt (q:=4063) (b:=16) (by decide)),at_two]
 have e5:(k==127)=false:=beq_false_of_ne (Nat.ne_of_gt (Nat.lt_of_lt_of_le (by decide) h))
 rw [e1,e2,e3,e4,e5,any_int,bad_mem h h2]
 rfl
theorem lawS_eq (k:Nat):numSign (k:Nat)=(lawS k).1∧numErr (k:Nat)=if (lawS k).2 then [illT k] else []:=by
 rcases Nat.lt_or_ge k 160 with h | h
 ·have:=List.all_eq_true.mp law_lo k (List.mem_range.mpr h)
  rw [Bool.and_eq_true,decide_eq_true_eq,beq_iff_eq] at this
  unfold numErr
  exact ⟨this.1,by rw [this.2]⟩
 ·have ne:numErr (k:Nat)=if (badN (k:Nat)||badC (k:Nat))=true then [illT k] else []:=by
   unfold numErr
   rw [rep_hi h]
   rfl
  have ns:numSign (k:Nat)=if badN (k:Nat)=true then ⟨#[65533]⟩ else ⟨#[k]⟩:=by
   unfold numSign
   rw [rep_hi h]
   rfl
  have et:told k=badN (k:Nat):=by
   rw [badN_nat]
   unfold told
   rw [beq_false_of_ne (Nat.ne_of_gt (Nat.lt_of_lt_of_le (by decide) h)),Bool.false_or,Bool.or_comm]
  rw [ne,ns]
  unfold lawS
  rw [et]
  cases hb:badN (k:Nat) with
  | true=>exact ⟨rfl,rfl⟩
  | false =>
   rw [badN_nat,Bool.or_eq_false_iff] at hb
   rw [if_neg (by decide),if_neg (by decide),if_neg (Nat.ne_of_gt ((Nat.le_div_iff_mul_le (by decide)).mpr h)),if_neg (Nat.not_lt.mpr (Nat.le_trans (by decide) h)),Bool.false_or,badC_hi h (Nat.le_of_not_lt (of_decide_eq_false hb.2))]
   exact ⟨rfl,rfl⟩
end HL.Lake
end
noncomputable section
namespace HL.Lake
open PySem PySem.W PySem.Calls PyProof.Rows
noncomputable def floorL:List Int:=[0,124,55293,57340,64973,65531,1114108]
noncomputable def behL:List (List Nat):=[[],[122],[32],[103,57],[10,9],[61,49],[39]]
noncomputable def behS (w:Int):List Nat:=behL.getD ((w.fdiv 4).fmod 7).toNat []
theorem fmod_range {a b:Int} (hb:0 < b):0≤a.fmod b∧a.fmod b < b:=⟨Int.fmod_nonneg_of_pos a hb,Int.fmod_lt_of_pos a hb⟩
theorem fmod_lt {a:Int} {b:Nat} (hb:0 < b):∃ k:Nat,k < b∧a.fmod (b:Int)=k:=by
 have h:=fmod_range (a:=a) (b:=b) (Int.ofNat_lt.mpr hb)
 obtain ⟨k,hk⟩:=Int.eq_ofNat_of_zero_le h.1
 exact ⟨k,Int.ofNat_lt.mp (hk▸h.2),hk⟩
section
variable {c:Cx} {n:Nat} {sc:Scope} {τ:TblD} {κ:Ct c sc τ} {l:Loc} {T W:List AO} {ks:List Fr}
theorem vifx {b:Bool} {e e':PySem.Expr} {v v' w:V} (h1:PE c n κ.env e v κ.X ⟨l,T,W⟩) (h2:PE c n κ.env e' v' κ.X ⟨l,T,W⟩) (hk:(if b then v else v')=w) (q:Vd n κ (.rt w ks l T W)):Vd n κ (.rt (.bool b) (.ifx e e' :: ks) l T W) :=
 ⟨b,rfl,by subst hk; cases b; exact h2 _ q; exact h1 _ q⟩
theorem vaddL {v w:V} {xs ys:List V} (k:IsLV ⟨l,T,W⟩ v xs) (k':IsLV ⟨l,T,W⟩ w ys) (hz:xs.length+ys.length≤10000) (q:Vd n κ (.rt (.list (xs++ys)) ks l T W)):Vd n κ (.rt w (.bin .Add v :: ks) l T W):=bv_add_list k k' hz q
end
theorem c_floors (c:Cx) (hK:c.K=top.heap_1 c.w.params) (W:List AO):CallD c 1 773 [] W (.list (floorL.map V.int)) W:=by
 refine cgo (bs:=[]) (others:=[]) hK (ok1 hK) rfl rfl rfl (by kernel_rfl) (by kernel_rfl) (binds0 (fun s X=>BindsTo.of_eq rfl) .nil) ?_
 intro κ hf hQ hN hX
 refine go0 99 (m':=.rt _ _ _ _ _) rfl rfl ?_
 exact hQ _ _ _ _ _ (.same rfl) ⟨rfl,rfl⟩
theorem behL_map:behL.map (fun s=>V.str ⟨s.toArray⟩)=[.str (Str.ofString ""),.str (Str.ofString "z"),.str (Str.ofString " "),.str (Str.ofString "g9"),.str (Str.ofString "\n\t"),.str (Str.ofString "=1"),.str (Str.ofString "'")]:=by kernel_rfl
theorem c_behind (c:Cx) (hK:c.K=top.heap_1 c.w.params) (W:List AO):CallD c 1 780 [] W (.list (behL.map fun s=>V.str ⟨s.toArray⟩)) W:=by
 refine cgo (bs:=[]) (others:=[]) hK (ok1 hK) rfl rfl rfl (by kernel_rfl) (by kernel_rfl) (binds0 (fun s X=>BindsTo.of_eq rfl) .nil) ?_
 intro κ hf hQ hN hX
 refine go0 99 (m':=.rt _ _ _ _ _) rfl rfl ?_
 refine hQ _ _ _ _ _ (.same rfl) ⟨?_,rfl⟩
 rw [behL_map]
noncomputable def Drw (W:List AO) (v:V) (W':List AO):Prop:=∃ k:Nat,k < 10 ^ 24∧v=.int k∧W'=W
theorem c_drawn (c:Cx) (hK:c.K=top.heap_1 c.w.params) (m:Int) (W:List AO):CallS c 2 (.ref 787) [.int m] [] (Drw W) (fun z9=>False) W:=by
 refine cgo (bs:=[(Str.ofString "n",.int m)]) (others:=[]) hK (ok1 hK) rfl rfl rfl (by kernel_rfl) (by kernel_rfl) (binds1 (fun s X a=>BindsTo.of_eq rfl) .nil) ?_
 intro κ hf hQ hN hX
 refine go1 2 (m':=.rt _ _ _ _ _) rfl rfl ?_ ?_
 ·decide
 cases h7:(m.fmod 8==7) with
 | true =>
  refine go2 99 (m':=.rt _ _ _ _ _) rfl rfl ?_ ?_ ?_
  ·exact noPy _ (by decide) (by decide)
  ·decide
  obtain ⟨k,hk,e⟩:=fmod_lt (a:=m.fdiv 8+9) (b:=1000000000000000000000000) (by decide)
  exact hQ _ _ _ _ _ (.same rfl) ⟨k,Nat.lt_of_lt_of_eq hk (by decide),congrArg V.int e,rfl⟩
 | false =>
  obtain ⟨j,hj,e⟩:=fmod_lt (a:=m) (b:=8) (by decide)
  have hj7:j < floorL.length:=by
   refine Nat.lt_of_le_of_ne (Nat.le_of_lt_succ hj) fun h=>?_
   rw [show m.fmod 8=_ from e,h] at h7
   cases h7
  obtain ⟨i,hi,e2⟩:=fmod_lt (a:=m.fdiv 8) (b:=48) (by decide)
  refine go0 99 (m':=.cl _ _ _ _ _ _) rfl rfl ?_
  refine vcallD (c_floors c hK W) rfl rfl ?_
  refine go1 2 (m':=.rt _ _ _ _ _) rfl rfl ?_ ?_
  ·decide
  rw [show m.fmod 8=_ from e]
  refine vsub_list (w:=.int (floorL.getD j 0)) (ixOk_nat (by rw [List.length_map]; exact hj7) (Nat.le_of_ble_eq_true rfl)) (by rw [ix_nat,List.getElem?_map,List.getElem?_eq_getElem hj7,List.getD_eq_getElem?_getD,List.getElem?_eq_getElem hj7]; rfl) ?_
  refine go2 99 (m':=.rt _ _ _ _ _) rfl rfl ?_ ?_ ?_
  ·exact noPy _ (by decide) (by decide)
  ·decide
  rw [show (m.fdiv 8).fmod 48=_ from e2]
  have hall:floorL.all (fun a=>decide (0≤a∧a≤1114108))=true:=by decide
  have hf1:=of_decide_eq_true (List.all_eq_true.mp hall _ (List.getElem_mem hj7))
  rw [List.getD_eq_getElem?_getD,List.getElem?_eq_getElem hj7]
  obtain ⟨f,hf2⟩:=Int.eq_ofNat_of_zero_le hf1.1
  refine hQ _ _ _ _ _ (.same rfl) ⟨f+i,?_,congrArg V.int (congrArg (·+(i:Int)) hf2),rfl⟩
  have h1:f≤1114108:=Int.ofNat_le.mp (hf2▸hf1.2)
  exact Nat.lt_of_le_of_lt (Nat.add_le_add h1 (Nat.le_of_lt hi)) (by decide)
noncomputable def lawTok (s:List Nat):V:=.dict [(Str.ofString "type",.int (if inC spaceCharactersL s.head? then 2 else 1)),(Str.ofString "data",.str ⟨s.toArray⟩)]
theorem c_law_token (c:Cx) (hK:c.K=top.heap_1 c.w.params) (k:Nat) (s:List Nat) (hs:(k :: s).length≤100) (W:List AO):CallD c 1 808 [.str ⟨(k :: s).toArray⟩] W (lawTok (k :: s)) W:=by
 refine cgo (bs:=[(Str.ofString "data",.str ⟨(k :: s).toArray⟩)]) (others:=[]) hK (ok1 hK) rfl rfl rfl (by kernel_rfl) (by kernel_rfl) (binds1 (fun s X a=>BindsTo.of_eq rfl) .nil) ?_
 intro κ hf hQ hN hX
 refine go1 7 (m':=.rt _ _ _ _ _) rfl rfl ?_ ?_
 ·exact ixOk_nat (n:=(k :: s).toArray.size) (k:=0) (by rw [List.size_toArray]; exact Nat.succ_pos _) (by rw [List.size_toArray]; exact Nat.le_trans hs (by decide))
 have e:(([V.str (Str.ofString "\t"),V.str (Str.ofString "\n"),V.str (Str.ofString "\x0c"),V.str (Str.ofString " "),V.str (Str.ofString "\x0d")]:List V).any fun y=>vf y (.str ⟨#[(⟨(k :: s).toArray⟩:Str).cps.toList.getD (ixI (⟨(k :: s).toArray⟩:Str).length (0:Int)) 0]⟩))=inC spaceCharactersL (some k):=by
  rw [show ixI (⟨(k :: s).toArray⟩:Str).length (0:Int)=0 from ix_nat,show (⟨(k :: s).toArray⟩:Str).cps.toList=k :: s from List.toList_toArray,show ([V.str (Str.ofString "\t"),V.str (Str.ofString "\n"),V.str (Str.ofString "\x0c"),V.str (Str.ofString " "),V.str (Str.ofString "\x0d")]:List V)=spaceCharactersL.map (fun k=>V.str ⟨#[k]⟩) from by kernel_rfl]
  exact any1 spaceCharactersL k
 refine vb e ?_
 refine vifx (w:=.int (if inC spaceCharactersL (some k) then 2 else 1)) (pe_run (k:=3) rfl) (pe_run (k:=3) rfl) (by cases inC spaceCharactersL (some k) <;> rfl) ?_
 refine go0 9 (m':=.rt _ _ _ _ _) rfl rfl ?_
 exact hQ _ _ _ _ _ (.same rfl) ⟨rfl,rfl⟩
end HL.Lake
end
noncomputable section
namespace HL.Lake
open PySem PySem.W PySem.Calls PyProof.Rows
noncomputable def figC (big:Bool) (d:Nat):Nat:=(if big then largeL else smallL).getD d 0
noncomputable def dgL (b:Nat) (big:Bool):Nat→Nat→List Nat
 | 0,_=>[]
 | n+1,v=>if v=0 then [] else dgL b big n (v / b)++[figC big (v % b)]
noncomputable def opL (hex X:Bool):List Nat:=if hex then (if X then [38,35,88] else [38,35,120]) else [38,35]
noncomputable def wrL (hex big X:Bool) (z:Nat) (nosc:Bool) (v:Nat):List Nat:=opL hex X++List.replicate z 48++(dgL (baseOf hex) big 24 v++(if 0 < v then [] else [48]))++(if nosc then [] else [59])
noncomputable def hexW (w:Int):Bool:=w.fmod 2==1
noncomputable def bigW (w:Int):Bool:=(w.fdiv 112).fmod 2==1
noncomputable def XW (w:Int):Bool:=(w.fdiv 224).fmod 2==1
noncomputable def zW (w:Int):Nat:=((w.fdiv 28).fmod 4).toNat
noncomputable def noW (w:Int):Bool:=(w.fdiv 2).fmod 2==1
noncomputable def wrW (w:Int) (v:Nat):List Nat:=wrL (hexW w) (bigW w) (XW w) (zW w) (noW w) v
theorem base_pos (hex:Bool):0 < baseOf hex:=by cases hex <;> decide
theorem base_ge (hex:Bool):10≤baseOf hex:=by cases hex <;> decide
theorem base_le (hex:Bool):baseOf hex≤16:=by cases hex <;> decide
theorem dgL_len (b:Nat) (big:Bool):∀ n v,(dgL b big n v).length≤n:=by
 intro n
 induction n with
 | zero=>exact fun z9=>Nat.le_refl _
 | succ n ih =>
  intro v
  show (if v=0 then [] else dgL b big n (v / b)++[figC big (v % b)]).length≤n+1
  split
  ·exact Nat.zero_le _
  ·rw [List.length_append]; exact Nat.succ_le_succ (ih _)
noncomputable def lcW (w:Int) (hex big:Bool) (t o:Option V) (v':Int):Loc:=[(Str.ofString "value",some (.int v')),(Str.ofString "way",some (.int w)),(Str.ofString "figures",some (.str ⟨(if big then largeL else smallL).toArray⟩)),(Str.ofString "base",some (.int (baseOf hex:Nat))),(Str.ofString "text",t),(Str.ofString "opening",o)]
noncomputable def IW (W:List AO) (w:Int) (hex big:Bool) (end_:List Nat) (k:Nat) (z1:Loc) (z2 z3:List AO):Prop:=∀ G:Loc→List AO→List AO→Prop,(∀ (v':Nat) (t:List Nat) (hv:v' < baseOf hex ^ k) (hk:k+t.length≤25) (he:dgL (baseOf hex) big k v'++t=end_),G (lcW w hex big (some (.str ⟨t.toArray⟩)) none v') [] W)→G z1 z2 z3
theorem str_app (a b:List Nat):(⟨a.toArray⟩:Str)++⟨b.toArray⟩=⟨(a++b).toArray⟩:=by
 show (⟨a.toArray++b.toArray⟩:Str)=_
 rw [List.append_toArray]
theorem fig_at (big:Bool) (v b:Nat) (t:List Nat):(⟨#[(⟨(if big=true then largeL else smallL).toArray⟩:Str).cps.toList.getD (ixI (⟨(if big=true then largeL else smallL).toArray⟩:Str).length ((v:Int).fmod (b:Nat))) 0]⟩:Str)++⟨t.toArray⟩=⟨(figC big (v % b) :: t).toArray⟩:=by
 rw [fmod_nat,ix_nat]
 exact str_app [_] t
theorem zer_at {k:Nat} (hk:k < 4):slS (Str.ofString "000") none (some (k:Int))=⟨(List.replicate k 48).toArray⟩:=by
 have h:(List.range 4).all (fun k=>slS (Str.ofString "000") none (some (k:Int))==⟨(List.replicate k 48).toArray⟩)=true:=by decide +kernel
 exact eq_of_beq (List.all_eq_true.mp h k (List.mem_range.mpr hk))
theorem c_written (c:Cx) (hK:c.K=top.heap_1 c.w.params) (v:Nat) (hv:v < 10 ^ 24) (w:Int) (W:List AO):CallD c 2 794 [.int v,.int w] W (.str ⟨(wrW w v).toArray⟩) W:=by
 refine cgo (bs:=[(Str.ofString "value",.int v),(Str.ofString "way",.int w)]) (others:=[Str.ofString "figures",Str.ofString "base",Str.ofString "text",Str.ofString "opening"]) hK (ok1 hK) rfl rfl rfl (by kernel_rfl) (by kernel_rfl) (binds2 (fun s X a b=>BindsTo.of_eq rfl) .nil) ?_
 intro κ hf hQ hN hX
 refine go2 3 (m':=.rt _ _ _ _ _) rfl rfl ?_ ?_ ?_
 ·exact noPy _ (by decide) (by decide)
 ·decide
 refine vifx (w:=.str ⟨(if bigW w then largeL else smallL).toArray⟩) (pe_run (k:=3) rfl) (pe_run (k:=3) rfl) (by unfold bigW; cases ((w.fdiv 112).fmod 2==1) <;> rfl) ?_
 refine go1 4 (m':=.rt _ _ _ _ _) rfl rfl ?_ ?_
 ·decide
 refine vifx (w:=.int (baseOf (hexW w):Nat)) (pe_run (k:=3) rfl) (pe_run (k:=3) rfl) (by unfold hexW; cases (w.fmod 2==1) <;> rfl) ?_
 refine go0 4 (m':=.rt _ _ _ _ _) rfl rfl ?_
 refine vifx (w:=.str ⟨(if 0 < v then [] else [48]:List Nat).toArray⟩) (pe_run (k:=3) rfl) (pe_run (k:=3) rfl) (by
  rw [show decide ((v:Int) > 0)=decide (0 < v) from int_gt v 0]
  by_cases h:0 < v
  ·rw [if_pos (decide_eq_true h),if_pos h]; rfl
  ·rw [if_neg (by rw [decide_eq_false h]; exact Bool.false_ne_true),if_neg h]; rfl) ?_
 refine go0 1 (m':=.ex _ _ _ _) rfl rfl ?_
 generalize hh:hexW w=hex
 refine vwhile (IW W w hex (bigW w) (dgL (baseOf hex) (bigW w) 24 v++(if 0 < v then [] else [48]))) 24 ?_ ?_
 ·refine fun G z=>z v (if 0 < v then [] else [48]) (Nat.lt_of_lt_of_le hv (Nat.pow_le_pow_left (base_ge hex) 24)) ?_ rfl
  split <;> decide
 ·intro k l T W' hI κ' hn hc hb hr
  apply hI; clear hI; intro v' t hv' hk he
  refine go0 1 (m':=.rt _ _ _ _ _) rfl rfl ?_
  refine vb (b':=decide (0 < v')) (int_gt v' 0) ?_
  cases hz:decide (0 < v') with
  | false =>
   obtain rfl:v'=0:=Nat.eq_zero_of_not_pos (of_decide_eq_false hz)
   have ht:t=dgL (baseOf hex) (bigW w) 24 v++(if 0 < v then [] else [48]):=by
    rw [← he]
    cases k <;> rfl
   refine vwh_f (hb _ _ _ ?_)
   refine go0 3 (m':=.rt _ _ _ _ _) rfl rfl ?_
   refine vb (b':=!hex) (by cases hex <;> rfl) ?_
   refine vifx (v':=.str ⟨(if XW w then [38,35,88] else [38,35,120]:List Nat).toArray⟩) (w:=.str ⟨(opL hex (XW w)).toArray⟩) (pe_run (k:=3) rfl) (pe_walk fun κ' q=>?_) (by cases hex <;> first | rfl | kernel_rfl) ?_
   ·refine go2 2 (m':=.rt _ _ _ _ _) rfl rfl ?_ ?_ ?_
    ·exact noPy _ (by decide) (by decide)
    ·decide
    refine vifx (w:=.str ⟨(if XW w then [38,35,88] else [38,35,120]:List Nat).toArray⟩) (pe_run (k:=3) rfl) (pe_run (k:=3) rfl) (by unfold XW; cases ((w.fdiv 224).fmod 2==1) <;> kernel_rfl) ?_
    exact q
   obtain ⟨z,hz4,ez⟩:=fmod_lt (a:=w.fdiv 28) (b:=4) (by decide)
   have ezW:zW w=z:=by unfold zW; rw [show (w.fdiv 28).fmod 4=_ from ez]; rfl
   have hop:(opL hex (XW w)).length≤3:=by cases hex <;> cases XW w <;> decide
   refine go _ _ 7 (m':=.rt _ _ _ _ _) rfl ⟨?_,?_,?_,?_,?_,?_,?_,trivial⟩ ?_
   ·exact noPy _ (by decide) (by decide)
   ·decide
   ·exact Nat.le_of_ble_eq_true (by kernel_rfl)
   ·rw [show (w.fdiv 28).fmod 4=_ from ez,zer_at hz4]
    show (opL hex (XW w)).toArray.size+(List.replicate z 48).toArray.size≤sizeLine
    rw [List.size_toArray,List.size_toArray,List.length_replicate]
    exact sz_le (Nat.le_trans (Nat.add_le_add hop (Nat.le_of_lt hz4)) (by decide))
   ·rw [show (w.fdiv 28).fmod 4=_ from ez,zer_at hz4,str_app]
    show (opL hex (XW w)++List.replicate z 48).toArray.size+t.toArray.size≤sizeLine
    rw [List.size_toArray,List.size_toArray,List.length_append,List.length_replicate]
    exact sz_le (Nat.le_trans (Nat.add_le_add (Nat.add_le_add hop (Nat.le_of_lt hz4)) (Nat.le_trans (Nat.le_add_left _ _) hk)) (by decide))
   ·exact noPy _ (by decide) (by decide)
   ·decide
   rw [show (w.fdiv 28).fmod 4=_ from ez,zer_at hz4,str_app (opL hex (XW w)) (List.replicate z 48),str_app (opL hex (XW w)++List.replicate z 48) t,ht]
   refine vifx (w:=.str ⟨(if noW w then [] else [59]:List Nat).toArray⟩) (pe_run (k:=3) rfl) (pe_run (k:=3) rfl) (by unfold noW; cases ((w.fdiv 2).fmod 2==1) <;> kernel_rfl) ?_
   have hlen:((opL hex (XW w)++List.replicate z 48)++(dgL (baseOf hex) (bigW w) 24 v++(if 0 < v then [] else [48]))).length≤100:=by
    rw [← ht,List.length_append,List.length_append,List.length_replicate]
    exact Nat.le_trans (Nat.add_le_add (Nat.add_le_add hop (Nat.le_of_lt hz4)) (Nat.le_trans (Nat.le_add_left _ _) hk)) (by decide)
   refine go1 1 (m':=.rt _ _ _ _ _) rfl rfl ?_ ?_
   ·show (_:List Nat).toArray.size+(_:List Nat).toArray.size≤sizeLine
    rw [List.size_toArray,List.size_toArray]
    exact sz_le (Nat.le_trans (Nat.add_le_add hlen (show _≤1 by cases noW w <;> decide)) (by decide))
   rw [str_app]
   refine hQ _ _ _ _ _ (.same rfl) ⟨?_,rfl⟩
   unfold wrW wrL
   rw [hh,ezW]
  | true =>
   cases k with
   | zero=>exact absurd (of_decide_eq_true hz) (Nat.not_lt.mpr (Nat.le_of_lt_succ hv'))
   | succ k =>
    have hb0:=base_pos hex
    have hmod:v' % baseOf hex < 16:=Nat.lt_of_lt_of_le (Nat.mod_lt _ hb0) (base_le hex)
    refine go _ _ 7 (m':=.ex _ _ _ _) rfl ⟨?_,?_,?_,?_,trivial⟩ ?_
    ·exact Int.ofNat_ne_zero.mpr (Nat.ne_of_gt hb0)
    ·rw [fmod_nat]; cases bigW w <;> exact ixOk_nat (n:=16) hmod (by decide)
    ·show 1+t.toArray.size≤sizeLine
     rw [List.size_toArray]
     exact sz_le (Nat.le_trans (Nat.add_le_add_left (Nat.le_trans (Nat.le_add_left _ _) hk) 1) (by decide))
    ·exact noPy _ (Int.ofNat_ne_zero.mpr (Nat.ne_of_gt hb0)) (Nat.lt_of_le_of_lt (show (baseOf hex:Int).natAbs≤16 from base_le hex) (by decide))
    rw [fig_at,fdiv_nat]
    refine vend (hn k _ _ _ (Nat.lt_succ_self k) fun G z=>z (v' / baseOf hex) (figC (bigW w) (v' % baseOf hex) :: t) (Nat.div_lt_of_lt_mul (by rw [Nat.mul_comm]; exact hv')) (by rw [List.length_cons,← Nat.add_assoc,Nat.add_right_comm]; exact hk) ?_)
    rw [← he,show dgL (baseOf hex) (bigW w) (k+1) v'=dgL (baseOf hex) (bigW w) k (v' / baseOf hex)++[figC (bigW w) (v' % baseOf hex)] from if_neg (Nat.ne_of_gt (of_decide_eq_true hz)),List.append_assoc]
    rfl
end HL.Lake
end
noncomputable section
namespace HL.Lake
open PySem PySem.W PySem.Calls PyProof.Rows
theorem nl_snoc (l:List Nat) (a:Nat):((cntIn 10 (l++[a]):Nat):Int)=(if (a==10)=true then (cntIn 10 l:Int)+1 else cntIn 10 l)∧colL (l++[a])=if (a==10)=true then 0 else colL l+1:=by
 unfold colL cntIn
 rw [lastIn_append,List.filter_append,List.length_append,List.length_append]
 cases h:(a==10) with
 | true =>
  obtain rfl:=eq_of_beq h
  rw [if_pos rfl,if_pos rfl]
  refine ⟨rfl,?_⟩
  show ((l.length:Int)+1) - ((l.length:Int)+1)=0
  exact Int.sub_self _
 | false =>
  rw [if_neg Bool.false_ne_true,if_neg Bool.false_ne_true,List.filter_cons_of_neg (by rw [h]; exact Bool.false_ne_true),show lastIn 10 [a]=none from by unfold lastIn; exact if_neg (ne_of_beq_false h)]
  refine ⟨rfl,?_⟩
  cases e:lastIn 10 l with
  | none=>rfl
  | some k =>
   show ((l.length:Int)+1) - ((k:Int)+1)=(l.length:Int) - ((k:Int)+1)+1
   rw [Int.sub_eq_add_neg,Int.sub_eq_add_neg,Int.add_right_comm]
noncomputable def lcE2 (x:Str) (r co:Int) (s:Option V):Loc:=[(Str.ofString "text",some (.str x)),(Str.ofString "row",some (.int r)),(Str.ofString "column",some (.int co)),(Str.ofString "sign",s)]
noncomputable def JE (x:Str) (W:List AO) (i:Nat) (z1:Loc) (z2 z3:List AO):Prop:=∀ G:Loc→List AO→List AO→Prop,(∀ s,G (lcE2 x (1+(cntIn 10 (x.cps.toList.take i):Nat)) (colL (x.cps.toList.take i)) s) [] W)→G z1 z2 z3
theorem c_law_end (c:Cx) (hK:c.K=top.heap_1 c.w.params) (x:Str) (hx:x.length≤600) (W:List AO):CallD c 2 815 [.str x] W (.tup [.int (1+(cntIn 10 x.cps.toList:Nat)),.int (colL x.cps.toList)]) W:=by
 refine cgo (bs:=[(Str.ofString "text",.str x)]) (others:=[Str.ofString "row",Str.ofString "column",Str.ofString "sign"]) hK (ok1 hK) rfl rfl rfl (by kernel_rfl) (by kernel_rfl) (binds1 (fun s X a=>BindsTo.of_eq rfl) .nil) ?_
 intro κ hf hQ hN hX
 refine go0 8 (m':=.rt _ _ _ _ _) rfl rfl ?_
 refine vfor .str (vforP (JE x W) (fun G z=>z none) ?_ ?_)
 ·intro i l T W' u hu hJ κ' hn _ _ _
  rw [List.getElem?_map] at hu
  obtain ⟨k,hk,rfl⟩:=Option.map_eq_some_iff.mp hu
  apply hJ; clear hJ; intro s
  have e:x.cps.toList.take (i+1)=x.cps.toList.take i++[k]:=by rw [List.take_add_one,hk]; rfl
  obtain ⟨e1,e2⟩:=nl_snoc (x.cps.toList.take i) k
  rw [← e] at e1 e2
  refine go0 6 (m':=.rt _ _ _ _ _) rfl rfl ?_
  rw [eq1 k (s:=Str.ofString "\n") (j:=10) (by kernel_rfl)]
  cases h:(k==10) with
  | true =>
   rw [h] at e1 e2
   refine go0 9 (m':=.ex _ _ _ _) rfl rfl ?_
   refine vend (hn _ _ _ fun G z=>?_)
   have:=z (some (.str ⟨#[k]⟩))
   rw [e1,e2,if_pos rfl,if_pos rfl,← Int.add_assoc] at this
   exact this
  | false =>
   rw [h] at e1 e2
   refine go0 9 (m':=.ex _ _ _ _) rfl rfl ?_
   refine vend (hn _ _ _ fun G z=>?_)
   have:=z (some (.str ⟨#[k]⟩))
   rw [e1,e2,if_neg Bool.false_ne_true,if_neg Bool.false_ne_true] at this
   exact this
 ·intro l T W' hJ
  rw [List.length_map] at hJ
  apply hJ; clear hJ; intro s
  rw [List.take_of_length_le (Nat.le_refl _)]
  refine go0 2 (m':=.rt _ _ _ _ _) rfl rfl ?_
  exact hQ _ _ _ _ _ (.same rfl) ⟨rfl,rfl⟩
end HL.Lake
end
noncomputable section
namespace HL.Lake
open PySem PySem.W PySem.Calls PyProof.Rows
noncomputable def hdB (p:Nat→Bool):List Nat→Bool
 | []=>false
 | k :: _=>p k
theorem tw_app {p:Nat→Bool} {D R:List Nat} (hD:∀ k∈D,p k=true) (hR:hdB p R=false):(D++R).takeWhile p=D:=by
 induction D with
 | nil=>cases R with
  | nil=>rfl
  | cons k R=>exact List.takeWhile_cons_of_neg (by rw [show p k=false from hR]; exact Bool.false_ne_true)
 | cons k D ih=>rw [List.cons_append,List.takeWhile_cons_of_pos (hD k (.head _)),ih fun k m=>hD k (.tail _ m)]
theorem numVal_snoc (hex:Bool) (l:List Nat) (k:Nat):numVal hex (l++[k])=numVal hex l * baseOf hex+figVal k:=by
 unfold numVal
 rw [List.foldl_append]
 rfl
theorem numVal_zero (hex:Bool) (z:Nat) (l:List Nat):numVal hex (List.replicate z 48++l)=numVal hex l:=by
 induction z with
 | zero=>rfl
 | succ z ih =>
  rw [← ih]
  show (List.replicate z 48++l).foldl _ (0 * baseOf hex+figVal 48)=_
  rw [Nat.zero_mul]; rfl
theorem figC_ok (hex big:Bool) {d:Nat} (h:d < baseOf hex):isFig hex (figC big d)=true∧figVal (figC big d)=d:=by
 have t:[true,false].all (fun hex=>[true,false].all fun big=>(List.range (baseOf hex)).all fun d=>isFig hex (figC big d)&&(figVal (figC big d)==d))=true:=by decide +kernel
 have bm:∀ b:Bool,b∈[true,false]:=by decide
 have:=List.all_eq_true.mp (List.all_eq_true.mp (List.all_eq_true.mp t hex (bm hex)) big (bm big)) d (List.mem_range.mpr h)
 rw [Bool.and_eq_true,beq_iff_eq] at this
 exact this
theorem dgL_ok (hex big:Bool):∀ n v,v < baseOf hex ^ n→(∀ k∈dgL (baseOf hex) big n v,isFig hex k=true)∧numVal hex (dgL (baseOf hex) big n v)=v:=by
 intro n
 induction n with
 | zero =>
  intro v hv
  obtain rfl:v=0:=Nat.lt_one_iff.mp hv
  exact ⟨(fun z9 h=>nomatch h),rfl⟩
 | succ n ih =>
  intro v hv
  unfold dgL
  by_cases h0:v=0
  ·rw [if_pos h0,h0]
   exact ⟨(fun z9 h=>nomatch h),rfl⟩
  ·rw [if_neg h0]
   obtain ⟨h1,h2⟩:=ih (v / baseOf hex) (Nat.div_lt_of_lt_mul (by rw [Nat.mul_comm]; exact hv))
   obtain ⟨h3,h4⟩:=figC_ok hex big (Nat.mod_lt v (base_pos hex))
   refine ⟨fun k hk=>?_,?_⟩
   ·rcases List.mem_append.mp hk with m | m
    ·exact h1 k m
    ·rw [List.mem_singleton.mp m]; exact h3
   ·rw [numVal_snoc,h2,h4]; exact Nat.div_add_mod' v (baseOf hex)
noncomputable def dig (w:Int) (v:Nat):List Nat:=List.replicate (zW w) 48++(dgL (baseOf (hexW w)) (bigW w) 24 v++(if 0 < v then [] else [48]))
noncomputable def hxL (w:Int):List Nat:=if hexW w then [if XW w then 88 else 120] else []
noncomputable def scL (w:Int):List Nat:=if noW w then [] else [59]
theorem wr_eq (w:Int) (v:Nat):wrW w v=38 :: 35 :: (hxL w++(dig w v++scL w)):=by
 unfold wrW wrL opL hxL scL dig
 cases hexW w <;> cases XW w <;> simp only [Bool.false_eq_true,if_true,if_false,List.append_assoc,List.cons_append,List.nil_append]
theorem fig48 (hex:Bool):isFig hex 48=true:=by cases hex <;> rfl
theorem dig_ok {w:Int} {v:Nat} (hv:v < 10 ^ 24):(∀ k∈dig w v,isFig (hexW w) k=true)∧numVal (hexW w) (dig w v)=v∧∃ k D,dig w v=k :: D:=by
 obtain ⟨h1,h2⟩:=dgL_ok (hexW w) (bigW w) 24 v (Nat.lt_of_lt_of_le hv (Nat.pow_le_pow_left (base_ge _) 24))
 have ne:∃ k D,dgL (baseOf (hexW w)) (bigW w) 24 v++(if 0 < v then [] else [48])=k :: D:=by
  by_cases h0:0 < v
  ·rw [if_pos h0,List.append_nil]
   refine List.exists_cons_of_ne_nil fun e=>?_
   rw [e] at h2
   rw [← h2] at h0
   exact absurd h0 (Nat.lt_irrefl 0)
  ·exact List.exists_cons_of_ne_nil fun e=>by rw [if_neg h0] at e; cases (List.append_eq_nil_iff.mp e).2
 unfold dig
 refine ⟨fun k hk=>?_,?_,?_⟩
 ·rcases List.mem_append.mp hk with m | m
  ·rw [(List.mem_replicate.mp m).2]; exact fig48 _
  ·rcases List.mem_append.mp m with m | m
   ·exact h1 k m
   ·split at m
    ·cases m
    ·rw [List.mem_singleton.mp m]; exact fig48 _
 ·rw [numVal_zero]
  by_cases h0:0 < v
  ·rw [if_pos h0,List.append_nil,h2]
  ·obtain rfl:v=0:=Nat.eq_zero_of_not_pos h0
   rw [if_neg h0,show dgL (baseOf (hexW w)) (bigW w) 24 0=[] from if_pos rfl]
   cases hexW w <;> rfl
 ·obtain ⟨k,D,e⟩:=ne
  rw [e]
  cases zW w with
  | zero=>exact ⟨k,D,rfl⟩
  | succ z=>exact ⟨48,_,rfl⟩
theorem fig_up {hex:Bool} {R:List Nat} (h:hdB (isFig true) R=false):hdB (isFig hex) R=false:=by
 cases R with
 | nil=>rfl
 | cons k R =>
  cases hex with
  | true=>exact h
  | false =>
   cases e:isFig false k with
   | false=>exact e
   | true =>
    have:isFig true k=true:=by
     unfold isFig at e ⊢
     rw [Bool.false_and,Bool.or_false] at e
     rw [e,Bool.true_or]
    rw [show hdB (isFig true) (k :: R)=isFig true k from rfl,this] at h
    cases h
theorem at_drop {x:Str} {u:Nat} {l:List Nat} (h:x.cps.toList.drop u=l) (k:Nat):x.cps.toList[u+k]?=l[k]?:=by rw [← h,List.getElem?_drop]
theorem drop_app {x:Str} {u:Nat} {a b:List Nat} (h:x.cps.toList.drop u=a++b):x.cps.toList.drop (u+a.length)=b:=by
 rw [← List.drop_drop,h,List.drop_left]
theorem ref_read {x:Str} {u v:Nat} {w:Int} {rest:List Nat} (hv:v < 10 ^ 24) (h:x.cps.toList.drop u=35 :: (hxL w++(dig w v++(scL w++rest)))) (hr1:hdB (isFig true) rest=false) (hr2:hdB (·==59) rest=false) :
  numR x u=⟨numErr v++(if noW w then [errT (Str.ofString "numeric-entity-without-semicolon")] else []),numSign v,(wrW w v).length - 1⟩:=by
 obtain ⟨d1,d2,k,D,d3⟩:=dig_ok (w:=w) hv
 have hl:(hxL w).length=if hexW w then 1 else 0:=by unfold hxL; cases hexW w <;> rfl
 have hk:isFig (hexW w) k=true:=d1 k (by rw [d3]; exact .head _)
 have e1:inC [120,88] (x.cps.toList[u+1]?)=hexW w:=by
  rw [at_drop h 1,List.getElem?_cons_succ]
  unfold hxL
  cases hw:hexW w with
  | true=>cases XW w <;> rfl
  | false =>
   rw [hw] at hk
   rw [if_neg Bool.false_ne_true,List.nil_append,d3]
   show inC [120,88] (some k)=false
   have:=fig_range hk
   rcases this with ⟨_,h2⟩ | ⟨h2,_⟩
   ·unfold inC
    exact decide_eq_false fun m=>by
     rcases List.mem_cons.mp m with rfl | m
     ·exact absurd h2 (by decide)
     ·rw [List.mem_singleton.mp m] at h2; exact absurd h2 (by decide)
   ·cases h2
 have e2:x.cps.toList.drop (u+1+(if hexW w then 1 else 0))=dig w v++(scL w++rest):=by
  rw [← hl]
  exact drop_app (u:=u+1) (drop_app (a:=[35]) h)
 have hsr:hdB (isFig (hexW w)) (scL w++rest)=false:=by
  unfold scL
  cases noW w with
  | true=>exact fig_up hr1
  | false=>cases hexW w <;> rfl
 unfold numR
 dsimp only
 rw [e1]
 generalize hp:u+1+(if hexW w=true then 1 else 0)=p at e2 ⊢
 have e3:numL (hexW w) x p=dig w v:=by unfold numL; rw [e2]; exact tw_app d1 hsr
 have e4:semi x (p+(dig w v).length)=!noW w:=by
  unfold semi
  rw [at_drop e2,List.getElem?_append_right (Nat.le_refl _),Nat.sub_self]
  unfold scL
  cases noW w with
  | true =>
   cases rest with
   | nil=>rfl
   | cons a r=>exact hr2
  | false=>rfl
 rw [if_pos (by rw [show x.cps.toList[p]?=some k from by rw [show p=p+0 from rfl,at_drop e2,d3]; rfl]; exact hk),e3,d2,e4]
 have e5:p+(dig w v).length+(if (!noW w)=true then 1 else 0) - u=(wrW w v).length - 1:=by
  rw [wr_eq,List.length_cons,List.length_cons,List.length_append,List.length_append,hl,← hp]
  have:(scL w).length=if (!noW w)=true then 1 else 0:=by unfold scL; cases noW w <;> rfl
  rw [this]
  generalize (if hexW w=true then 1 else 0)=a
  generalize (if (!noW w)=true then 1 else 0)=b
  rw [Nat.add_assoc,Nat.add_assoc,Nat.add_assoc,Nat.add_sub_cancel_left,Nat.add_comm]
  rfl
 rw [e5]
 cases noW w <;> rfl
end HL.Lake
end
noncomputable section
namespace HL.Lake
open PySem PySem.W PySem.Calls PyProof.Rows
noncomputable abbrev Pc:=Nat×Int
noncomputable def txP (p:Pc):List Nat:=wrW p.2 p.1++behS p.2
noncomputable def txL (l:List Pc):List Nat:=(l.map txP).flatten
noncomputable def sgL (v:Nat):List Nat:=(lawS v).1.cps.toList
noncomputable def jnP (p:Pc):List Nat:=sgL p.1++behS p.2
noncomputable def jnL (l:List Pc):List Nat:=(l.map jnP).flatten
noncomputable def rowP (p:Pc):List V:=(if (lawS p.1).2 then [illT p.1] else [])++(if noW p.2 then [errT (Str.ofString "numeric-entity-without-semicolon")] else [])
theorem rowP_len (p:Pc):(rowP p).length≤2:=by unfold rowP; cases (lawS p.1).2 <;> cases noW p.2 <;> exact Nat.le_of_ble_eq_true rfl
noncomputable def outP (p:Pc):List V:=rowP p++[lawTok (sgL p.1)]++(if behS p.2=[] then [] else [lawTok (behS p.2)])
noncomputable def inL (l:List Pc):List V:=(l.map rowP).flatten
noncomputable def outL (l:List Pc):List V:=(l.map outP).flatten
noncomputable def okB:List Nat→Bool
 | []=>true
 | k :: t=>!isFig true k&&(!(k==59)&&(!(k==38)&&(!(k==34)&&(!(k==60)&&(!(k==0)&&((t.all fun a=>pchar quotL false a)&&t.all fun a=>if inC spaceCharactersL (some k) then pchar spaceCharactersL true a else pchar stopL false a))))))
theorem behS_ok (w:Int):okB (behS w)=true:=by
 have t:behL.all okB=true:=by unfold okB stopL quotL; decide +kernel
 unfold behS
 rw [List.getD_eq_getElem?_getD]
 cases h:behL[((w.fdiv 4).fmod 7).toNat]? with
 | none=>rfl
 | some b=>exact List.all_eq_true.mp t b (List.mem_of_getElem? h)
theorem okB_cons {k:Nat} {t:List Nat} (h:okB (k :: t)=true):isFig true k=false∧(k==59)=false∧(k==38)=false∧(k==34)=false∧(k==60)=false∧(k==0)=false∧(∀ a∈t,pchar quotL false a=true)∧∀ a∈t,(if inC spaceCharactersL (some k) then pchar spaceCharactersL true a else pchar stopL false a)=true:=by
 unfold okB at h
 rw [Bool.and_eq_true,Bool.and_eq_true,Bool.and_eq_true,Bool.and_eq_true,Bool.and_eq_true,Bool.and_eq_true,Bool.and_eq_true,Bool.not_eq_true',Bool.not_eq_true',Bool.not_eq_true',Bool.not_eq_true',Bool.not_eq_true',Bool.not_eq_true',List.all_eq_true,List.all_eq_true] at h
 exact h
theorem lawS_one (v:Nat):∃ k,(lawS v).1=⟨#[k]⟩:=by
 unfold lawS
 split
 ·exact ⟨_,rfl⟩
 ·split
  ·exact ⟨_,rfl⟩
  ·split
   ·exact ⟨_,rfl⟩
   ·exact ⟨_,rfl⟩
theorem sg_str (v:Nat):(lawS v).1=⟨(sgL v).toArray⟩:=by unfold sgL; rw [Array.toArray_toList]
theorem chT_law (v:Nat):chT (lawS v).1=lawTok (sgL v):=by
 obtain ⟨k,e⟩:=lawS_one v
 unfold sgL
 rw [e]
 unfold chT lawTok
 rw [show spcB ⟨#[k]⟩=inC spaceCharactersL (some k) from any1 spaceCharactersL k]
 rfl
noncomputable def opn:List Nat→Bool
 | []=>true
 | k :: _=>k==38||k==34
theorem opn_fig {R:List Nat} (h:opn R=true):hdB (isFig true) R=false∧hdB (·==59) R=false∧hdB (pchar quotL false) R=false:=by
 cases R with
 | nil=>exact ⟨rfl,rfl,rfl⟩
 | cons k R =>
  rcases (Bool.or_eq_true _ _).mp (show (k==38||k==34)=true from h) with h | h <;> obtain rfl:=eq_of_beq h <;> exact ⟨rfl,rfl,rfl⟩
theorem beh_fig (w:Int) {R:List Nat} (h:opn R=true):hdB (isFig true) (behS w++R)=false∧hdB (·==59) (behS w++R)=false:=by
 have hb:=behS_ok w
 cases e:behS w with
 | nil=>exact ⟨(opn_fig h).1,(opn_fig h).2.1⟩
 | cons k t =>
  rw [e] at hb
  exact ⟨(okB_cons hb).1,(okB_cons hb).2.1⟩
theorem txL_cons (p:Pc) (l:List Pc):txL (p :: l)=38 :: 35 :: (hxL p.2++(dig p.2 p.1++scL p.2))++(behS p.2++txL l):=by
 unfold txL txP
 rw [List.map_cons,List.flatten_cons,wr_eq,List.append_assoc]
theorem opn_tx (l:List Pc) (R:List Nat) (h:opn R=true):opn (txL l++R)=true:=by
 cases l with
 | nil=>exact h
 | cons p l=>rw [txL_cons]; rfl
section
variable {c:Cx} (hK:c.K=top.heap_1 c.w.params) {x:Str} (hx:x.length≤600) {Rf:List AO}
theorem run_cons {cf cf':Cf} {q i:List V} (g:Go c x cf cf' q) (r:∃ k,Run c x Rf k cf' i):∃ k,Run c x Rf k cf (q++i):=r.elim fun k r=>⟨k+1,.inr ⟨q,cf',i,rfl,g,r⟩⟩
include hK hx
theorem go_amp {u:Nat} {ct:V} {R:List AO} (h:x.cps.toList[u]?=some 38):Go c x ⟨304,u,ct,R⟩ ⟨311,u+1,ct,R⟩ [] :=
 ⟨rfl,Nat.succ_pos _,Nat.zero_le _,fun d t hs=>by
  have:=c_dataS c hK hs hx (ct:=ct) (R:=R) (q:=[]) (Nat.zero_le _) h rfl
  exact this.up (by decide)⟩
theorem go_lt {u:Nat} {ct:V} {R:List AO} (h:x.cps.toList[u]?=some 60):Go c x ⟨304,u,ct,R⟩ ⟨353,u+1,ct,R⟩ [] :=
 ⟨rfl,Nat.succ_pos _,Nat.zero_le _,fun d t hs=>by
  have:=c_dataS c hK hs hx (ct:=ct) (R:=R) (q:=[]) (Nat.zero_le _) h rfl
  exact this.up (by decide)⟩
theorem go_ref {u:Nat} {ct:V} {R:List AO} {p:Pc} {rest:List Nat} (hv:p.1 < 10 ^ 24) (h:x.cps.toList.drop u=35 :: (hxL p.2++(dig p.2 p.1++(scL p.2++rest)))) (hr:hdB (isFig true) rest=false∧hdB (·==59) rest=false):Go c x ⟨311,u,ct,R⟩ ⟨304,u+((wrW p.2 p.1).length - 1),ct,R⟩ (rowP p++[lawTok (sgL p.1)]):=by
 have e:=ref_read hv h hr.1 hr.2
 obtain ⟨l1,l2⟩:=lawS_eq p.1
 refine ⟨rfl,?_,?_,fun d t hs=>?_⟩
 ·rw [wr_eq]; exact Nat.lt_of_lt_of_le (Nat.succ_pos _) (Nat.le_add_left _ _)
 ·rw [List.length_append]
  exact Nat.le_trans (Nat.add_le_add (rowP_len p) (Nat.le_refl 1)) (by decide)
 ·have:=c_refS c hK hs (ct:=ct) (R:=R) (q:=[]) hx (Nat.zero_le _) (by rw [show u=u+0 from rfl,at_drop h]; rfl)
  rw [e,l2,l1,chT_law] at this
  exact this.up (by decide)
theorem go_txt {u k:Nat} {ct:V} {R:List AO} {t rest:List Nat} (hb:okB (k :: t)=true) (hr:opn rest=true) (h:x.cps.toList.drop u=k :: t++rest) (h34:hdB (·==34) rest=false):Go c x ⟨304,u,ct,R⟩ ⟨304,u+(k :: t).length,ct,R⟩ [lawTok (k :: t)]:=by
 obtain ⟨b1,b2,b3,b4,b5,b6,b7,b8⟩:=okB_cons hb
 refine ⟨rfl,Nat.succ_pos _,Nat.le_of_ble_eq_true rfl,fun d tt hs=>?_⟩
 have:=c_dataS c hK hs hx (ct:=ct) (R:=R) (q:=[]) (Nat.zero_le _) (k:=k) (by rw [show u=u+0 from rfl,at_drop h]; rfl) b6
 have hd:x.cps.toList.drop (u+1)=t++rest:=drop_app (a:=[k]) h
 have e:txtR x u k=([lawTok (k :: t)],u+(k :: t).length,304):=by
  unfold txtR lawTok
  rw [b3,b5,if_neg Bool.false_ne_true,if_neg Bool.false_ne_true]
  show _=([V.dict [(Str.ofString "type",.int (if inC spaceCharactersL (some k) then 2 else 1)),_]],_,_)
  cases hs:inC spaceCharactersL (some k) with
  | true =>
   rw [hs] at b8
   have e2:tkW spaceCharactersL true x (u+1)=t:=by
    unfold tkW; rw [hd]
    refine tw_app b8 ?_
    cases rest with
    | nil=>rfl
    | cons a r=>rcases (Bool.or_eq_true _ _).mp (show (a==38||a==34)=true from hr) with h | h <;> obtain rfl:=eq_of_beq h <;> rfl
   rw [if_pos rfl,e2,Nat.add_assoc,Nat.add_comm 1]
   rfl
  | false =>
   rw [hs] at b8
   have e2:tkW stopL false x (u+1)=t:=by
    unfold tkW; rw [hd]
    refine tw_app b8 ?_
    cases rest with
    | nil=>rfl
    | cons a r =>
     rcases (Bool.or_eq_true _ _).mp (show (a==38||a==34)=true from hr) with h | h
     ·obtain rfl:=eq_of_beq h; rfl
     ·rw [show hdB (·==34) (a :: r)=(a==34) from rfl,h] at h34; cases h34
   rw [if_neg Bool.false_ne_true,e2,Nat.add_assoc,Nat.add_comm 1]
   rfl
 rw [e] at this
 exact this.up (by decide)
end
end HL.Lake
end
noncomputable section
namespace HL.Lake
open PySem PySem.W PySem.Calls PyProof.Rows
theorem tail_len (w:Int) (v:Nat) (u:Nat):u+1+((wrW w v).length - 1)=u+(38 :: 35 :: (hxL w++(dig w v++scL w))).length:=by
 rw [wr_eq]
 show u+1+(_+1)=u+(_+1+1)
 rw [Nat.add_assoc,Nat.add_comm 1]
theorem tail_app (a d s b:List Nat):35 :: (a++(d++s))++b=35 :: (a++(d++(s++b))):=by rw [List.cons_append,List.append_assoc,List.append_assoc]
theorem at0 {x:Str} {u k:Nat} {l:List Nat} (h:x.cps.toList.drop u=k :: l):x.cps.toList[u]?=some k:=by rw [show u=u+0 from rfl,at_drop h]; rfl
section
variable {c:Cx} (hK:c.K=top.heap_1 c.w.params) {x:Str} (hx:x.length≤600) {Rf:List AO}
include hK hx
theorem run_out {ct:V}:∀ (ps:List Pc) (u:Nat),(∀ p∈ps,p.1 < 10 ^ 24)→x.cps.toList.drop u=txL ps→∃ k,Run c x Rf k ⟨304,u,ct,Rf⟩ (outL ps):=by
 intro ps
 induction ps with
 | nil=>exact fun u z9 h=>⟨1,.inl ⟨rfl,rfl,List.drop_eq_nil_iff.mp h |> List.getElem?_eq_none,rfl⟩⟩
 | cons p ps ih =>
  intro u hv h
  rw [txL_cons] at h
  have e:=tail_len p.2 p.1 u
  have ho:opn (txL ps)=true:=by have:=opn_tx ps [] rfl; rwa [List.append_nil] at this
  have h34:hdB (·==34) (txL ps)=false:=by
   cases ps with
   | nil=>rfl
   | cons p ps=>rw [txL_cons]; rfl
  have hd:=drop_app h
  have g1:=go_amp hK hx (ct:=ct) (R:=Rf) (at0 h)
  have g2:=go_ref hK hx (u:=u+1) (ct:=ct) (R:=Rf) (p:=p) (rest:=behS p.2++txL ps) (hv p (.head _)) (by
   have:=drop_app (a:=[38]) (b:=35 :: (hxL p.2++(dig p.2 p.1++scL p.2))++(behS p.2++txL ps)) h
   rwa [tail_app] at this) (beh_fig p.2 ho)
  rw [e] at g2
  have ev:outL (p :: ps)=[]++((rowP p++[lawTok (sgL p.1)])++((if behS p.2=[] then [] else [lawTok (behS p.2)])++outL ps)):=by
   show outP p++outL ps=_
   unfold outP
   rw [List.append_assoc]; rfl
  rw [ev]
  refine run_cons g1 (run_cons g2 ?_)
  have hb:=behS_ok p.2
  cases hbe:behS p.2 with
  | nil =>
   rw [if_pos rfl]
   rw [hbe] at hd
   exact ih _ (fun q m=>hv q (.tail _ m)) hd
  | cons k t =>
   rw [if_neg (by simp)]
   rw [hbe] at hd hb
   exact run_cons (go_txt hK hx hb ho hd h34) (ih _ (fun q m=>hv q (.tail _ m)) (drop_app hd))
theorem run_in {i:List V} {rest:List Nat}:∀ (ps:List Pc) (u:Nat) (av:List Nat),(∀ p∈ps,p.1 < 10 ^ 24)→av.length+601 * ps.length≤2000→x.cps.toList.drop u=txL ps++34 :: 62 :: rest →
  (∃ k,Run c x Rf k ⟨304,u+(txL ps).length+2,.ob 6,tagE ⟨#[97]⟩ ⟨#[98]⟩ ⟨(av++jnL ps).toArray⟩⟩ i)→∃ k,Run c x Rf k ⟨563,u,.ob 6,tagR ⟨#[97]⟩ ⟨#[98]⟩ ⟨av.toArray⟩⟩ (inL ps++([.ob 6]++i)):=by
 intro ps
 induction ps with
 | nil =>
  intro u av _ _ h hr
  have g1:Go c x ⟨563,u,.ob 6,tagR ⟨#[97]⟩ ⟨#[98]⟩ ⟨av.toArray⟩⟩ ⟨584,u+1,.ob 6,tagR ⟨#[97]⟩ ⟨#[98]⟩ ⟨av.toArray⟩⟩ []:=⟨rfl,Nat.succ_pos _,Nat.zero_le _,fun d t hs=>(c_valEnd c hK hs (at0 h)).up (by decide)⟩
  have g2:Go c x ⟨584,u+1,.ob 6,tagR ⟨#[97]⟩ ⟨#[98]⟩ ⟨av.toArray⟩⟩ ⟨304,u+1+1,.ob 6,tagE ⟨#[97]⟩ ⟨#[98]⟩ ⟨av.toArray⟩⟩ [.ob 6]:=⟨rfl,Nat.succ_pos _,Nat.le_of_ble_eq_true rfl,fun d t hs=>(c_afterVal c hK hs (q:=[]) (Nat.zero_le _) rfl (at0 (drop_app (a:=[34]) h))).up (by decide)⟩
  refine run_cons (i:=[.ob 6]++i) g1 (run_cons g2 ?_)
  rwa [show jnL []=[] from rfl,List.append_nil] at hr
 | cons p ps ih =>
  intro u av hv ha h hr
  have e:=tail_len p.2 p.1 u
  have ho:=opn_tx ps (34 :: 62 :: rest) rfl
  have hn:(txL (p :: ps)).length=(38 :: 35 :: (hxL p.2++(dig p.2 p.1++scL p.2))).length+((behS p.2).length+(txL ps).length):=by rw [txL_cons,List.length_append,List.length_append]
  rw [hn] at hr
  rw [txL_cons,List.append_assoc,List.append_assoc] at h
  have hd:=drop_app h
  have h2:x.cps.toList.drop (u+1)=35 :: (hxL p.2++(dig p.2 p.1++(scL p.2++(behS p.2++(txL ps++34 :: 62 :: rest))))):=by
   have:=drop_app (a:=[38]) (b:=35 :: (hxL p.2++(dig p.2 p.1++scL p.2))++(behS p.2++(txL ps++34 :: 62 :: rest))) h
   rwa [tail_app] at this
  have er:=ref_read (hv p (.head _)) h2 (beh_fig p.2 ho).1 (beh_fig p.2 ho).2
  obtain ⟨l1,l2⟩:=lawS_eq p.1
  have hsg:(sgL p.1).length≤1:=by
   unfold sgL
   obtain ⟨k,ek⟩:=lawS_one p.1
   rw [ek]; exact Nat.le_refl 1
  have ha2:av.length≤2000:=Nat.le_trans (Nat.le_add_right _ _) ha
  rw [List.length_cons,Nat.mul_succ,← Nat.add_assoc] at ha
  have g1:Go c x ⟨563,u,.ob 6,tagR ⟨#[97]⟩ ⟨#[98]⟩ ⟨av.toArray⟩⟩ ⟨563,u+(38 :: 35 :: (hxL p.2++(dig p.2 p.1++scL p.2))).length,.ob 6,tagR ⟨#[97]⟩ ⟨#[98]⟩ ⟨(av++sgL p.1).toArray⟩⟩ (rowP p):=by
   refine ⟨rfl,Nat.lt_of_lt_of_le (Nat.succ_pos _) (Nat.le_add_left _ _),Nat.le_trans (rowP_len p) (by decide),fun d t hs=>?_⟩
   have:=c_valRef c hK hs (nm:=⟨#[97]⟩) (an:=⟨#[98]⟩) (av:=⟨av.toArray⟩) (q:=[]) hx (Nat.zero_le _) (by show av.toArray.size≤_; rw [List.size_toArray]; exact ha2) (at0 h) (at0 h2)
   rw [er,l2,l1,sg_str,str_app] at this
   dsimp only at this
   rw [e] at this
   exact this
  have ev:inL (p :: ps)++([.ob 6]++i)=rowP p++(inL ps++([.ob 6]++i)):=List.append_assoc ..
  rw [ev]
  refine run_cons g1 ?_
  have ej:av++jnL (p :: ps)=av++sgL p.1++behS p.2++jnL ps:=by
   show av++((sgL p.1++behS p.2)++jnL ps)=_
   rw [List.append_assoc,List.append_assoc,List.append_assoc]
  rw [ej] at hr
  generalize (38 :: 35 :: (hxL p.2++(dig p.2 p.1++scL p.2))).length=W at hd hr ⊢
  have hb:=behS_ok p.2
  have hv':∀ q∈ps,q.1 < 10 ^ 24:=fun q m=>hv q (.tail _ m)
  have hlen:(av++sgL p.1).length+601 * ps.length≤1400:=by
   rw [List.length_append]
   refine Nat.le_trans (Nat.add_le_add_right (Nat.add_le_add_left hsg _) _) ?_
   rw [Nat.add_right_comm]
   exact Nat.succ_le_succ (Nat.le_of_add_le_add_right (b:=601) ha)
  cases hbe:behS p.2 with
  | nil =>
   rw [hbe] at hd hr
   rw [List.append_nil,List.length_nil,Nat.zero_add,← Nat.add_assoc] at hr
   exact ih _ _ hv' (Nat.le_trans hlen (by decide)) hd hr
  | cons k t =>
   rw [hbe] at hd hr hb
   obtain ⟨b1,b2,b3,b4,b5,b6,b7,b8⟩:=okB_cons hb
   have ht:tkW quotL false x (u+W+1)=t:=by
    unfold tkW
    rw [show x.cps.toList.drop (u+W+1)=t++(txL ps++34 :: 62 :: rest) from drop_app (a:=[k]) hd]
    exact tw_app b7 (opn_fig ho).2.2
   have hkt:(k :: t).length≤600:=by
    have:=congrArg List.length hd
    rw [List.length_drop,len_str,List.length_append] at this
    exact Nat.le_trans (Nat.le_add_right _ _) (Nat.le_trans (Nat.le_of_eq this.symm) (Nat.le_trans (Nat.sub_le _ _) hx))
   have g2:Go c x ⟨563,u+W,.ob 6,tagR ⟨#[97]⟩ ⟨#[98]⟩ ⟨(av++sgL p.1).toArray⟩⟩ ⟨563,u+W+(k :: t).length,.ob 6,tagR ⟨#[97]⟩ ⟨#[98]⟩ ⟨(av++sgL p.1++(k :: t)).toArray⟩⟩ []:=by
    refine ⟨rfl,Nat.succ_pos _,Nat.zero_le _,fun d tt hs=>?_⟩
    have:=c_valText c hK hs (nm:=⟨#[97]⟩) (an:=⟨#[98]⟩) (av:=⟨(av++sgL p.1).toArray⟩) (q:=[]) hx (by show (av++sgL p.1).toArray.size≤_; rw [List.size_toArray]; exact Nat.le_trans (Nat.le_add_right _ _) (Nat.le_trans hlen (by decide))) (at0 hd) b4 b3 b6
    rw [ht,str_app,Nat.add_assoc (u+W),Nat.add_comm 1] at this
    exact this
   refine run_cons (i:=inL ps++([.ob 6]++i)) g2 (ih _ _ hv' ?_ (drop_app hd) ?_)
   ·rw [List.length_append,Nat.add_right_comm]
    exact Nat.le_trans (Nat.add_le_add hlen hkt) (by decide)
   ·rwa [Nat.add_assoc u W,Nat.add_assoc (u+_),Nat.add_assoc u,Nat.add_assoc W] 
end
end HL.Lake
end
noncomputable section
namespace HL.Lake
open PySem PySem.W PySem.Calls PyProof.Rows
noncomputable def whL (ps:List Pc):List Nat:=[60,97,32,98,61,34]++(txL ps++34 :: 62 :: txL ps)
noncomputable def okC (a:Nat):Bool:=a==9||(a==10||(decide (32≤a)&&decide (a≤122)))
theorem okC_tab {a:Nat} (h:okC a=true):invalidB (a:Int)=false∧a≠13∧¬ (55296≤a∧a≤56319):=by
 have hlt:a < 123:=by
  unfold okC at h
  rw [Bool.or_eq_true,Bool.or_eq_true,Bool.and_eq_true,beq_iff_eq,beq_iff_eq,decide_eq_true_eq,decide_eq_true_eq] at h
  rcases h with rfl | rfl | ⟨_,h⟩
  ·decide
  ·decide
  ·exact Nat.lt_succ_of_le h
 have t:(List.range 123).all (fun a=>!okC a||(!(invalidB (a:Int))&&!(a==13)))=true:=by decide +kernel
 have:=List.all_eq_true.mp t a (List.mem_range.mpr hlt)
 rw [h,Bool.not_true,Bool.false_or,Bool.and_eq_true,Bool.not_eq_true',Bool.not_eq_true'] at this
 exact ⟨this.1,ne_of_beq_false this.2,fun q=>absurd (Nat.lt_of_lt_of_le hlt (by decide:123≤55296)) (Nat.not_lt.mpr q.1)⟩
theorem behS_mem (w:Int):behS w∈behL:=by
 unfold behS
 rw [List.getD_eq_getElem?_getD]
 cases h:behL[((w.fdiv 4).fmod 7).toNat]? with
 | none=>exact .head _
 | some b=>exact List.mem_of_getElem? h
theorem fig_okC {hex:Bool} {k:Nat} (h:isFig hex k=true):okC k=true:=by
 have h1:=fig_lo h
 have h2:=fig_lt h
 have t:[true,false].all (fun hex=>(List.range 128).all fun k=>!isFig hex k||okC k)=true:=by decide +kernel
 have bm:∀ b:Bool,b∈[true,false]:=by decide
 have:=List.all_eq_true.mp (List.all_eq_true.mp t hex (bm hex)) k (List.mem_range.mpr h2)
 rwa [h,Bool.not_true,Bool.false_or] at this
theorem txP_ok {p:Pc} (hv:p.1 < 10 ^ 24):(∀ a∈txP p,okC a=true)∧(txP p).length≤34:=by
 obtain ⟨d1,_⟩:=dig_ok (w:=p.2) hv
 have t:behL.all (fun b=>b.all okC&&decide (b.length≤2))=true:=by decide +kernel
 have hb:=List.all_eq_true.mp t _ (behS_mem p.2)
 rw [Bool.and_eq_true,List.all_eq_true,decide_eq_true_eq] at hb
 have hh:(∀ a∈hxL p.2,okC a=true)∧(hxL p.2).length≤1:=by
  unfold hxL
  cases hexW p.2 <;> cases XW p.2 <;> decide
 have hs:(∀ a∈scL p.2,okC a=true)∧(scL p.2).length≤1:=by
  unfold scL
  cases noW p.2 <;> decide
 have hz:zW p.2≤3:=by
  unfold zW
  obtain ⟨k,hk,e⟩:=fmod_lt (a:=p.2.fdiv 28) (b:=4) (by decide)
  rw [show (p.2.fdiv 28).fmod 4=_ from e]
  exact Nat.le_of_lt_succ hk
 have hd:(dig p.2 p.1).length≤28:=by
  unfold dig
  rw [List.length_append,List.length_append,List.length_replicate]
  refine Nat.le_trans (Nat.add_le_add hz (Nat.add_le_add (dgL_len _ _ 24 _) (show _≤1 from ?_))) (by decide)
  split <;> decide
 unfold txP
 rw [wr_eq]
 refine ⟨fun a ha=>?_,?_⟩
 ·rcases List.mem_append.mp ha with m | m
  ·rcases List.mem_cons.mp m with rfl | m
   ·rfl
   rcases List.mem_cons.mp m with rfl | m
   ·rfl
   rcases List.mem_append.mp m with m | m
   ·exact hh.1 a m
   rcases List.mem_append.mp m with m | m
   ·exact fig_okC (d1 a m)
   ·exact hs.1 a m
  ·exact hb.1 a m
 ·rw [List.length_append,List.length_cons,List.length_cons,List.length_append,List.length_append]
  exact Nat.add_le_add (Nat.succ_le_succ (Nat.succ_le_succ (Nat.add_le_add hh.2 (Nat.add_le_add hd hs.2)))) hb.2
theorem txL_ok:∀ {ps:List Pc},(∀ p∈ps,p.1 < 10 ^ 24)→(∀ a∈txL ps,okC a=true)∧(txL ps).length≤34 * ps.length:=by
 intro ps
 induction ps with
 | nil=>exact fun z9=>⟨(fun z9 h=>nomatch h),Nat.le_refl _⟩
 | cons p ps ih =>
  intro hv
  obtain ⟨h1,h2⟩:=txP_ok (hv p (.head _))
  obtain ⟨h3,h4⟩:=ih fun q m=>hv q (.tail _ m)
  have e:txL (p :: ps)=txP p++txL ps:=rfl
  rw [e]
  refine ⟨fun a ha=>(List.mem_append.mp ha).elim (h1 a) (h3 a),?_⟩
  rw [List.length_append,List.length_cons,Nat.mul_succ,Nat.add_comm]
  exact Nat.add_le_add h4 h2
theorem whL_ok {ps:List Pc} (hv:∀ p∈ps,p.1 < 10 ^ 24) (hn:ps.length≤3):(∀ a∈whL ps,okC a=true)∧(whL ps).length≤212∧invN (whL ps)=0:=by
 obtain ⟨h1,h2⟩:=txL_ok hv
 have h3:(txL ps).length≤102:=Nat.le_trans h2 (Nat.mul_le_mul_left 34 hn)
 have ho:∀ a∈whL ps,okC a=true:=fun a ha=>by
  rcases List.mem_append.mp ha with m | m
  ·have t:[60,97,32,98,61,34].all okC=true:=by decide +kernel
   exact List.all_eq_true.mp t a m
  rcases List.mem_append.mp m with m | m
  ·exact h1 a m
  rcases List.mem_cons.mp m with rfl | m
  ·rfl
  rcases List.mem_cons.mp m with rfl | m
  ·rfl
  ·exact h1 a m
 refine ⟨ho,?_,?_⟩
 ·unfold whL
  rw [List.length_append,List.length_append,List.length_cons,List.length_cons]
  exact Nat.add_le_add (Nat.le_refl 6) (Nat.add_le_add h3 (Nat.add_le_add_right h3 2))
 ·unfold invN
  rw [List.filter_eq_nil_iff.mpr fun a ha=>by rw [(okC_tab (ho a ha)).1]; exact Bool.false_ne_true]
  rfl
theorem run_all {c:Cx} (hK:c.K=top.heap_1 c.w.params) {ps:List Pc} (hv:∀ p∈ps,p.1 < 10 ^ 24) (hn:ps.length≤3) {x:Str} (h:x.cps.toList=whL ps):∃ k,Run c x (tagE ⟨#[97]⟩ ⟨#[98]⟩ ⟨(jnL ps).toArray⟩) k ⟨304,0,.none,[]⟩ (inL ps++([.ob 6]++outL ps)):=by
 have hx:x.length≤600:=by rw [← len_str,h]; exact Nat.le_trans (whL_ok hv hn).2.1 (by decide)
 have d0:x.cps.toList.drop 0=[60,97,32,98,61]++(34 :: (txL ps++34 :: 62 :: txL ps)):=h
 have d6:x.cps.toList.drop 6=txL ps++34 :: 62 :: txL ps:=by
  rw [h]; rfl
 have d8:x.cps.toList.drop (6+(txL ps).length+2)=txL ps:=drop_app (a:=[34,62]) (drop_app d6)
 have a (k:Nat):x.cps.toList[k]?=(whL ps)[k]?:=by rw [h]
 have g1:Go c x ⟨304,0,.none,[]⟩ ⟨353,1,.none,[]⟩ []:=go_lt hK hx (a 0)
 have g2:Go c x ⟨353,1,.none,[]⟩ ⟨367,2,.ob 6,[.list [],.dict (tagD ⟨#[97]⟩ (.ob 5))]⟩ []:=⟨rfl,Nat.succ_pos _,Nat.zero_le _,fun d t hs=>(c_tagOpen c hK hs (a 1)).up (by decide)⟩
 have g3:Go c x ⟨367,2,.ob 6,[.list [],.dict (tagD ⟨#[97]⟩ (.ob 5))]⟩ ⟨535,3,.ob 6,[.list [],.dict (tagD ⟨#[97]⟩ (.ob 5))]⟩ []:=⟨rfl,Nat.succ_pos _,Nat.zero_le _,fun d t hs=>(c_tagName c hK hs (a 2)).up (by decide)⟩
 have g4:Go c x ⟨535,3,.ob 6,[.list [],.dict (tagD ⟨#[97]⟩ (.ob 5))]⟩ ⟨542,4,.ob 6,tagR ⟨#[97]⟩ ⟨#[98]⟩ ⟨([]:List Nat).toArray⟩⟩ []:=⟨rfl,Nat.succ_pos _,Nat.zero_le _,fun d t hs=>by
  have:=c_attrBefore c hK hs (q:=[]) (a 3)
  rw [show Str.ofString ""=⟨([]:List Nat).toArray⟩ from by kernel_rfl] at this
  exact this.up (by decide)⟩
 have g5:Go c x ⟨542,4,.ob 6,tagR ⟨#[97]⟩ ⟨#[98]⟩ ⟨([]:List Nat).toArray⟩⟩ ⟨556,5,.ob 6,tagR ⟨#[97]⟩ ⟨#[98]⟩ ⟨([]:List Nat).toArray⟩⟩ []:=⟨rfl,Nat.succ_pos _,Nat.zero_le _,fun d t hs=>(c_attrName c hK hs rfl (a 4)).up (by decide)⟩
 have g6:Go c x ⟨556,5,.ob 6,tagR ⟨#[97]⟩ ⟨#[98]⟩ ⟨([]:List Nat).toArray⟩⟩ ⟨563,6,.ob 6,tagR ⟨#[97]⟩ ⟨#[98]⟩ ⟨([]:List Nat).toArray⟩⟩ []:=⟨rfl,Nat.succ_pos _,Nat.zero_le _,fun d t hs=>(c_valBefore c hK hs (a 5)).up (by decide)⟩
 have r1:=run_out hK hx (Rf:=tagE ⟨#[97]⟩ ⟨#[98]⟩ ⟨(jnL ps).toArray⟩) (ct:=.ob 6) ps _ hv d8
 have r2:=run_in hK hx ps 6 [] hv (by rw [List.length_nil,Nat.zero_add]; exact Nat.le_trans (Nat.mul_le_mul_left 601 hn) (by decide)) d6 r1
 have st {cf cf':Cf} (g:Go c x cf cf' []) (r:∃ k,Run c x (tagE ⟨#[97]⟩ ⟨#[98]⟩ ⟨(jnL ps).toArray⟩) k cf' (inL ps++([.ob 6]++outL ps))):∃ k,Run c x (tagE ⟨#[97]⟩ ⟨#[98]⟩ ⟨(jnL ps).toArray⟩) k cf (inL ps++([.ob 6]++outL ps)):=run_cons (q:=[]) (i:=inL ps++([.ob 6]++outL ps)) g r
 exact st g1 (st g2 (st g3 (st g4 (st g5 (st g6 r2)))))
end HL.Lake
end
noncomputable section
namespace HL.Lake
open PySem PySem.W PySem.Calls PyProof.Rows
noncomputable def tagV (j:List Nat):V:=.dict (tagD ⟨#[97]⟩ (.dict [(⟨#[98]⟩,.str ⟨j.toArray⟩)]))
inductive TokF:V→Prop
 | err (s:Str):TokF (errT s)
 | ill (n:Int):TokF (illT n)
 | tok (s:List Nat):TokF (lawTok s)
 | tag (j:List Nat):TokF (tagV j)
theorem TokF.pure {v:V} (h:TokF v):v.pure=true∧v.dep≤3∧∀ W,reV W v=v:=by
 cases h with
 | err s=>exact ⟨rfl,Nat.le_of_ble_eq_true rfl,fun z9=>rfl⟩
 | ill n=>exact ⟨rfl,Nat.le_of_ble_eq_true rfl,fun z9=>rfl⟩
 | tok s=>exact ⟨rfl,Nat.le_of_ble_eq_true rfl,fun z9=>rfl⟩
 | tag j=>exact ⟨rfl,Nat.le_of_ble_eq_true rfl,fun z9=>rfl⟩
noncomputable def TokL (l:List V):Prop:=∀ v∈l,TokF v
theorem TokL.app {a b:List V} (ha:TokL a) (hb:TokL b):TokL (a++b):=fun v hv=>(List.mem_append.mp hv).elim (ha v) (hb v)
theorem TokL.one {a:V} (h:TokF a):TokL [a]:=fun v hv=>by rw [List.mem_singleton.mp hv]; exact h
theorem TokL.nil:TokL []:=fun z9 h=>nomatch h
theorem tok_pure {l:List V} (h:TokL l):V.pureL l=true∧V.depL l≤3:=by
 induction l with
 | nil=>exact ⟨rfl,Nat.zero_le _⟩
 | cons v l ih =>
  have h1:=(h v (.head _)).pure
  have h2:=ih fun w m=>h w (.tail _ m)
  show (v.pure&&V.pureL l)=true∧max v.dep (V.depL l)≤3
  rw [h1.1,h2.1]
  exact ⟨rfl,Nat.max_le.mpr ⟨h1.2.1,h2.2⟩⟩
theorem tok_re {l:List V} (h:TokL l) (W:List AO):l.map (reV W)=l:=by
 rw [List.map_congr_left fun v hv=>(h v hv).pure.2.2 W,List.map_id']
theorem rowP_tok (p:Pc):TokL (rowP p):=by
 unfold rowP
 refine .app ?_ ?_
 ·split
  ·exact .one (.ill _)
  ·exact .nil
 ·split
  ·exact .one (.err _)
  ·exact .nil
theorem outP_tok (p:Pc):TokL (outP p):=by
 unfold outP
 refine .app (.app (rowP_tok p) (.one (.tok _))) ?_
 split
 ·exact .nil
 ·exact .one (.tok _)
theorem flat_tok {f:Pc→List V} (h:∀ p,TokL (f p)) (l:List Pc):TokL ((l.map f).flatten):=fun v hv=>by
 obtain ⟨a,ha,hv⟩:=List.mem_flatten.mp hv
 obtain ⟨p,_,rfl⟩:=List.mem_map.mp ha
 exact h p v hv
theorem outP_len (p:Pc):(outP p).length≤4:=by
 unfold outP
 rw [List.length_append,List.length_append]
 refine Nat.add_le_add (Nat.add_le_add (rowP_len p) (Nat.le_refl 1)) (show _≤1 from ?_)
 split
 ·exact Nat.zero_le _
 ·exact Nat.le_refl 1
theorem flat_len {α:Type} {f:Pc→List α} {m:Nat} (h:∀ p,(f p).length≤m):∀ l:List Pc,((l.map f).flatten).length≤m * l.length:=by
 intro l
 induction l with
 | nil=>exact Nat.le_refl _
 | cons p l ih =>
  rw [List.map_cons,List.flatten_cons,List.length_append,List.length_cons,Nat.mul_succ,Nat.add_comm]
  exact Nat.add_le_add ih (h p)
theorem flat_snoc {α:Type} (f:Pc→List α) (l:List Pc) (p:Pc):((l++[p]).map f).flatten=(l.map f).flatten++f p:=by
 rw [List.map_append,List.flatten_append]
 show _++(f p++[])=_
 rw [List.append_nil]
theorem jnP_len (p:Pc):(jnP p).length≤3:=by
 unfold jnP
 have t:behL.all (fun b=>decide (b.length≤2))=true:=by decide
 have h2:=of_decide_eq_true (List.all_eq_true.mp t _ (behS_mem p.2))
 obtain ⟨k,ek⟩:=lawS_one p.1
 rw [List.length_append]
 refine Nat.add_le_add (show _≤1 from ?_) h2
 unfold sgL; rw [ek]; exact Nat.le_refl 1
noncomputable def nP (n:Nat):Nat:=max 1 (min 3 ((n+1) / 2))
theorem nP_le (n:Nat):nP n≤3:=Nat.max_le.mpr ⟨by decide,Nat.min_le_left ..⟩
theorem nP_tape (n:Nat):2 * nP n≤min n 6+2:=by
 unfold nP
 omega
theorem nP_int (n:Nat):(if (if ((n:Int)+1).fdiv 2 < 3 then ((n:Int)+1).fdiv 2 else 3) > 1 then (if ((n:Int)+1).fdiv 2 < 3 then ((n:Int)+1).fdiv 2 else 3) else 1)=(nP n:Int):=by
 rw [show ((n:Int)+1).fdiv 2=(((n+1) / 2:Nat):Int) from fdiv_nat (n+1) 2]
 unfold nP
 generalize (n+1) / 2=q
 omega
set_option tactic.hygienic true in
theorem rng0_size {n:Nat}:Builtin.Range.rangeSize 0 (n:Int) 1=n:=by
 rw [rangeSize_one]
 split
 ·exact Int.sub_zero _
 ·rename_i h
  exact (Int.le_antisymm (Int.not_lt.mp h) (Int.natCast_nonneg n)).symm
theorem rng0_small {n:Nat} (h:n≤10000):Builtin.Range.small 0 (n:Int) 1=true:=small_one (by decide) (by decide) (Int.le_trans (by decide) (Int.natCast_nonneg n)) (Int.lt_of_le_of_lt (Int.ofNat_le.mpr h) (by decide))
end HL.Lake
end
noncomputable section
namespace HL.Lake
open PySem PySem.W PySem.Calls PyProof.Rows
noncomputable def osL:List Str:=[Str.ofString "tape",Str.ofString "text",Str.ofString "inside",Str.ofString "outside",Str.ofString "joined",Str.ofString "place",Str.ofString "value",Str.ofString "way",Str.ofString "behind",Str.ofString "sign",Str.ofString "told",Str.ofString "row",Str.ofString "tag",Str.ofString "whole",Str.ofString "t",Str.ofString "got"]
noncomputable def lcL (ls tp:List Int) (tx jn:List Nat) (pl va wa be sg to ro:Option V):Loc:=[(Str.ofString "script",some (.list (ls.map V.int))),(Str.ofString "tape",some (.list (tp.map V.int))),(Str.ofString "text",some (.str ⟨tx.toArray⟩)),(Str.ofString "inside",some (.lo 0)),(Str.ofString "outside",some (.lo 1)),(Str.ofString "joined",some (.str ⟨jn.toArray⟩)),(Str.ofString "place",pl),(Str.ofString "value",va),(Str.ofString "way",wa),(Str.ofString "behind",be),(Str.ofString "sign",sg),(Str.ofString "told",to),(Str.ofString "row",ro),(Str.ofString "tag",none),(Str.ofString "whole",none),(Str.ofString "t",none),(Str.ofString "got",none)]
noncomputable def JL (ls tp:List Int) (i:Nat) (z1:Loc) (z2 z3:List AO):Prop:=∀ G:Loc→List AO→List AO→Prop,(∀ (ps:List Pc) (rs:List AO) (pl va wa be sg to ro:Option V) (hv:∀ p∈ps,p.1 < 10 ^ 24) (hn:ps.length=i) (hr:rs.length=i),G (lcL ls tp (txL ps) (jnL ps) pl va wa be sg to ro) (.list (inL ps) :: .list (outL ps) :: rs) [])→G z1 z2 z3
noncomputable def RJ (ls tp:List Int) (ps:List Pc) (rs:List AO) (pl va wa be sg to:V) (r:List V) (z1:Loc) (z2 z3:List AO):Prop:=∀ G:Loc→List AO→List AO→Prop,G (lcL ls tp (txL ps) (jnL ps) (some pl) (some va) (some wa) (some be) (some sg) (some to) (some (.lo (rs.length+2)))) (.list (inL ps) :: .list (outL ps) :: (rs++[.list r])) []→G z1 z2 z3
theorem vnthT {c:Cx} {n:Nat} {sc:Scope} {τ:TblD} {κ:Ct c sc τ} {l:Loc} {T W:List AO} {ks:List Fr} {j e:Nat} {xs:List V} {w:V} (h:T[j]?=some (.list xs)) (m:xs[e]?=some w) (hz:xs.length≤10000) (q:Vd n κ (.rt w ks l T W)):Vd n κ (.rt (.int (e:Int)) (.sub1 (.lo j) :: ks) l T W):=at_nth (σ:=⟨l,T,W⟩) h m hz _ q
noncomputable def wdB (x:Str):List AO:=[.dict (tokD (mtS 304) .none),strD (Str.ofString "") 0 0 0 0,textD x 0,.list []]
noncomputable def PJl (c:Cx) (x:Str) (Rf:List AO) (tl:List V) (i:List V) (k:Nat) (W:List AO):Prop:=(i.length < tl.length∧P2l c x Rf i k W)∨(i=tl∧W=wdB x)
theorem law_ws (c:Cx) (hK:c.K=top.heap_1 c.w.params) (ls:List Int) (hl:ls.length≤63):∃ (fd:FuncData) (body:List Stmt),(∃ o,c.K.lookup 820=some o∧o.data=.func fd)∧fd.body=.stmts body∧∀ env,EnvOk env fd.scope→EnvF env→WS c 29 env body (fun fl z9=>fl=.ret (.bool true)) (fun z9=>False) ⟨loc0 [(Str.ofString "script",.list (ls.map V.int))] osL,[],[]⟩:=by
 refine ⟨_,_,⟨_,by rw [hK]; rfl,rfl⟩,rfl,?_⟩
 refine vlaw (ok1 hK) fun κ hf hQ=>?_
 have hlz:(ls.map V.int).length≤63:=by rw [List.length_map]; exact hl
 refine go1 12 (m':=.rt _ _ _ _ _) rfl rfl ?_ ?_
 ·exact Nat.le_trans hlz (by decide)
 refine vaddL .list .list (Nat.le_trans (Nat.add_le_add_right (Nat.le_trans (sl_len ..) hlz) 2) (by decide)) ?_
 have htp:∃ tp:List Int,sl (ls.map V.int) none (some 6)++[.int 0,.int 0]=tp.map V.int∧2 * nP ls.length≤tp.length∧tp.length≤100:=by
  refine ⟨sl ls none (some 6)++[0,0],?_,?_,by rw [List.length_append]; exact Nat.le_trans (Nat.add_le_add_right (Nat.le_trans (sl_len ..) hl) 2) (by decide)⟩
  ·rw [List.map_append]
   unfold sl
   rw [List.length_map,List.map_take,List.map_drop]; rfl
  ·rw [List.length_append]
   unfold sl
   rw [show (some (6:Int)).elim ls.length (clipAt ls.length)=min 6 ls.length from clip_nat _ 6,List.length_take,List.length_drop]
   show _≤min (min 6 ls.length - 0) (ls.length - 0)+2
   rw [Nat.sub_zero,Nat.sub_zero,Nat.min_eq_left (Nat.min_le_right 6 _),Nat.min_comm]
   exact nP_tape _
 obtain ⟨tp,etp,htp,htz⟩:=htp
 rw [etp]
 refine go0 15 (m':=.ex _ _ _ _) rfl rfl ?_
 refine vrange1 (v:=.type "range") (nP ls.length) rfl (show (Str.ofString "range",Value.type "range")∈bi1 from by unfold bi1; exact .tail _ (.tail _ (.tail _ (.tail _ (.tail _ (.tail _ (.tail _ (.tail _ (.head _))))))))) rfl (pe_walk fun κ' q=>?_) (rng0_small (Nat.le_trans (nP_le _) (by decide))) rng0_size (vforP (JL ls tp) ?_ ?_ ?_)
 ·refine go2 32 (m':=.cl _ _ _ _ _ _) rfl rfl ?_ ?_ ?_
  ·exact Nat.le_trans hlz (by decide)
  ·exact noPy _ (by decide) (by decide)
  refine vmin ?_
  refine go0 3 (m':=.rt _ _ _ _ _) rfl rfl ?_
  rw [List.length_map,nP_int]
  exact q
 ·exact fun G z=>z [] [] none none none none none none none (fun z9 h=>nomatch h) rfl rfl
 ·intro i l T W u hu hJ κ1 hn _ _ _
  obtain ⟨hi,rfl⟩:=rngI_at hu
  rw [Int.zero_add]
  apply hJ; clear hJ; intro ps rs pl va wa be sg to ro hv hn2 hr
  have hi3:i < 3:=Nat.lt_of_lt_of_le hi (nP_le _)
  have h2i:2 * i+1 < tp.length:=Nat.lt_of_lt_of_le (Nat.lt_of_lt_of_le (Nat.lt_succ_self _) (Nat.mul_le_mul_left 2 (Nat.succ_le_of_lt hi))) htp
  obtain ⟨a,ha⟩:∃ a,tp[2 * i]?=some a:=⟨_,List.getElem?_eq_getElem (Nat.lt_of_succ_lt h2i)⟩
  obtain ⟨w,hw⟩:∃ w,tp[2 * i+1]?=some w:=⟨_,List.getElem?_eq_getElem h2i⟩
  have htz2:(tp.map V.int).length≤10000:=by rw [List.length_map]; exact Nat.le_trans htz (by decide)
  refine go0 6 (m':=.ev _ _ _ _ _) rfl rfl ?_
  refine vsub ?_
  refine go1 3 (m':=.rt _ _ _ _ _) rfl rfl ?_ ?_
  ·exact IntMulOk.of_left (by decide)
  rw [show (2:Int) * (i:Nat)=((2 * i:Nat):Int) from (Int.natCast_mul 2 i).symm]
  refine vsub_list (w:=.int a) (ixOk_nat (by rw [List.length_map]; exact Nat.lt_of_succ_lt h2i) htz2) (by rw [ix_nat,List.getElem?_map,ha]; rfl) ?_
  refine go0 2 (m':=.cl _ _ _ _ _ _) rfl rfl ?_
  refine vcall (c_drawn c hK a []) rfl rfl fun v' W' hv'=>?_
  obtain ⟨k,hk,rfl,rfl⟩:=hv'
  refine go0 2 (m':=.ev _ _ _ _ _) rfl rfl ?_
  refine vsub ?_
  refine go1 3 (m':=.rt _ _ _ _ _) rfl rfl ?_ ?_
  ·exact IntMulOk.of_left (by decide)
  rw [show (2:Int) * (i:Nat)+1=((2 * i+1:Nat):Int) from by rw [Int.natCast_add,Int.natCast_mul]; rfl]
  refine vsub_list (w:=.int w) (ixOk_nat (by rw [List.length_map]; exact h2i) htz2) (by rw [ix_nat,List.getElem?_map,hw]; rfl) ?_
  refine go0 99 (m':=.cl _ _ _ _ _ _) rfl rfl ?_
  refine vcallD (c_behind c hK _) rfl rfl ?_
  obtain ⟨j,hj,ej⟩:=fmod_lt (a:=w.fdiv 4) (b:=7) (by decide)
  have ebs:behL[j]?=some (behS w):=by
   unfold behS
   rw [show (w.fdiv 4).fmod 7=_ from ej,Int.toNat_natCast,List.getD_eq_getElem?_getD,List.getElem?_eq_getElem (show j < behL.length from hj)]
   rfl
  refine go2 2 (m':=.rt _ _ _ _ _) rfl rfl ?_ ?_ ?_
  ·exact noPy _ (by decide) (by decide)
  ·decide
  rw [show (w.fdiv 4).fmod 7=_ from ej]
  refine vsub_list (w:=.str ⟨(behS w).toArray⟩) (ixOk_nat (by rw [List.length_map]; exact hj) (Nat.le_of_ble_eq_true rfl)) (by rw [ix_nat,List.getElem?_map,ebs]; rfl) ?_
  refine go0 99 (m':=.cl _ _ _ _ _ _) rfl rfl ?_
  refine vcallD (c_law_sign c hK k _) rfl rfl ?_
  obtain ⟨sk,esk⟩:=lawS_one k
  have hrs:rs=[]∨(∃ a,rs=[a])∨∃ a b,rs=[a,b]:=by
   subst hr
   match rs,hi3 with
   | [],_=>exact .inl rfl
   | [a],_=>exact .inr (.inl ⟨a,rfl⟩)
   | [a,b],_=>exact .inr (.inr ⟨a,b,rfl⟩)
  refine go0 4 (m':=.ex _ _ _ _) rfl rfl ?_
  refine vseq (RJ ls tp ps rs (.int i) (.int k) (.int w) (.str ⟨(behS w).toArray⟩) (.str (lawS k).1) (.bool (lawS k).2) []) ?_ ?_
  ·intro κ2 en er eb ec ex ee
   rcases hrs with rfl | ⟨a1,rfl⟩ | ⟨a1,a2,rfl⟩
   all_goals refine go0 99 (m':=.ex _ _ _ _) rfl rfl ?_
   all_goals exact vend (en _ _ _ fun G z=>z)
  intro _ _ _ hj
  apply hj; clear hj
  refine vseq (RJ ls tp ps rs (.int i) (.int k) (.int w) (.str ⟨(behS w).toArray⟩) (.str (lawS k).1) (.bool (lawS k).2) (if (lawS k).2 then [illT k] else [])) ?_ ?_
  ·intro κ2 en er eb ec ex ee
   cases hs2:(lawS k).2 with
   | true =>
    rw [hs2] at en
    rcases hrs with rfl | ⟨a1,rfl⟩ | ⟨a1,a2,rfl⟩
    all_goals refine go1 35 (m':=.ex _ _ _ _) rfl rfl (Nat.zero_le _) ?_
    all_goals exact vend (en _ _ _ fun G z=>z)
   | false =>
    rw [hs2] at en
    refine go0 9 (m':=.ex _ _ _ _) rfl rfl ?_
    exact vend (en _ _ _ fun G z=>z)
  intro _ _ _ hj
  apply hj; clear hj
  refine vseq (RJ ls tp ps rs (.int i) (.int k) (.int w) (.str ⟨(behS w).toArray⟩) (.str (lawS k).1) (.bool (lawS k).2) (rowP (k,w))) ?_ ?_
  ·intro κ2 en er eb ec ex ee
   have hr1:(if (lawS k).2 then [illT k] else []:List V).length≤10000:=by cases (lawS k).2 <;> exact Nat.le_of_ble_eq_true rfl
   unfold rowP at en
   dsimp only at en
   generalize (if (lawS k).2 then [illT k] else []:List V)=r1 at hr1 en ⊢
   refine go2 2 (m':=.rt _ _ _ _ _) rfl rfl (noPy _ (by decide) (by decide)) (by decide) ?_
   refine vb (b':=noW w) rfl ?_
   cases hs3:noW w with
   | true =>
    rw [hs3] at en
    rcases hrs with rfl | ⟨a1,rfl⟩ | ⟨a1,a2,rfl⟩
    all_goals refine go1 22 (m':=.ex _ _ _ _) rfl rfl hr1 ?_
    all_goals exact vend (en _ _ _ fun G z=>z)
   | false =>
    rw [hs3,if_neg Bool.false_ne_true,List.append_nil] at en
    refine go0 9 (m':=.ex _ _ _ _) rfl rfl ?_
    exact vend (en _ _ _ fun G z=>z)
  intro _ _ _ hj
  apply hj; clear hj
  refine go0 12 (m':=.cl _ _ _ _ _ _) rfl rfl ?_
  refine vcallD (c_written c hK k hk w _) rfl rfl ?_
  have hps:ps.length≤2:=hn2▸Nat.le_of_lt_succ hi3
  have h1:=(txP_ok (p:=(k,w)) hk).2
  have h2:=Nat.le_trans (txL_ok hv).2 (Nat.mul_le_mul_left 34 hps)
  have h3:=jnP_len (k,w)
  have h4:(jnL ps).length≤6:=Nat.le_trans (flat_len jnP_len ps) (Nat.mul_le_mul_left 3 hps)
  have h5:=rowP_len (k,w)
  have h6:(inL ps).length≤4:=Nat.le_trans (flat_len rowP_len ps) (Nat.mul_le_mul_left 2 hps)
  have h7:(outL ps).length≤8:=Nat.le_trans (flat_len outP_len ps) (Nat.mul_le_mul_left 4 hps)
  have h8:=outP_len (k,w)
  unfold txP at h1
  unfold jnP at h3
  dsimp only at h1 h3
  have esg:sgL k=[sk]:=by unfold sgL; rw [esk]
  have sz:∀ {a b:List Nat} {m:Nat},(a++b).length≤m→m≤10000→(⟨a.toArray⟩:Str).length+(⟨b.toArray⟩:Str).length≤sizeLine:=fun {a b m} h hm=>by
   show a.toArray.size+b.toArray.size≤sizeLine
   rw [List.size_toArray,List.size_toArray,← List.length_append]
   exact sz_le (Nat.le_trans h hm)
  refine go _ _ 9 (m':=.rt _ _ _ _ _) rfl ⟨sz h1 (by decide),?_,?_,?_,trivial⟩ ?_
  ·rw [str_app]
   exact sz (m:=68+34) (by rw [List.length_append]; exact Nat.add_le_add h2 h1) (by decide)
  ·rw [sg_str]; exact sz h3 (by decide)
  ·rw [sg_str,str_app]
   exact sz (m:=6+3) (by rw [List.length_append]; exact Nat.add_le_add h4 h3) (by decide)
  rw [sg_str k,str_app (wrW w k) (behS w),str_app (txL ps) (wrW w k++behS w),str_app (sgL k) (behS w),str_app (jnL ps) (sgL k++behS w)]
  have hTr:∀ (a b:AO) ,(a :: b :: (rs++[AO.list (rowP (k,w))]))[rs.length+2]?=some (.list (rowP (k,w))):=fun a b=>by
   rw [List.getElem?_cons_succ,List.getElem?_cons_succ,List.getElem?_append_right (Nat.le_refl _),Nat.sub_self]; rfl
  refine vaugLL (xs:=inL ps) (ys:=rowP (k,w)) (j:=0) rfl (.lo (hTr _ _)) (Nat.le_trans (Nat.add_le_add h6 h5) (by decide)) (.tail (.tail (.tail .head))) ?_
  have hts:CallD c 1 808 [.str ⟨(sgL k).toArray⟩] [] (lawTok (sgL k)) []:=by rw [esg]; exact c_law_token c hK sk [] (Nat.le_of_ble_eq_true rfl) []
  refine go0 14 (m':=.cl _ _ _ _ _ _) rfl rfl ?_
  refine vcallD hts rfl rfl ?_
  refine go0 2 (m':=.rt _ _ _ _ _) rfl rfl ?_
  refine vaddL (.lo (hTr _ _)) .list (Nat.le_trans (Nat.add_le_add_right h5 1) (by decide)) ?_
  have hfin:∀ (l9:Loc) (T9:List AO) (r9:List V),r9=(if behS w=[] then [] else [lawTok (behS w)])→l9=lcL ls tp (txL ps++(wrW w k++behS w)) (jnL ps++(sgL k++behS w)) (some (.int i)) (some (.int k)) (some (.int w)) (some (.str ⟨(behS w).toArray⟩)) (some (.str ⟨(sgL k).toArray⟩)) (some (.bool (lawS k).2)) (some (.lo (rs.length+2)))→T9=.list (inL ps++rowP (k,w)) :: .list (outL ps++(rowP (k,w)++[lawTok (sgL k)]++r9)) :: (rs++[.list (rowP (k,w))])→κ1.Q .next ⟨l9,T9,[]⟩:=fun l9 T9 r9 e1 e2 e3=>by
   refine hn _ _ _ fun G z=>?_
   have:=z (ps++[(k,w)]) (rs++[.list (rowP (k,w))]) (some (.int i)) (some (.int k)) (some (.int w)) (some (.str ⟨(behS w).toArray⟩)) (some (.str ⟨(sgL k).toArray⟩)) (some (.bool (lawS k).2)) (some (.lo (rs.length+2))) (fun p hp=>(List.mem_append.mp hp).elim (hv p) fun m=>by rw [List.mem_singleton.mp m]; exact hk) (by rw [List.length_append,hn2]; rfl) (by rw [List.length_append,hr]; rfl)
   rw [show txL (ps++[(k,w)])=txL ps++(wrW w k++behS w) from flat_snoc txP ps (k,w),show jnL (ps++[(k,w)])=jnL ps++(sgL k++behS w) from flat_snoc jnP ps (k,w),show inL (ps++[(k,w)])=inL ps++rowP (k,w) from flat_snoc rowP ps (k,w),show outL (ps++[(k,w)])=outL ps++outP (k,w) from flat_snoc outP ps (k,w)] at this
   subst e1 e2 e3
   exact this
  have hb2:(behS w).length≤34:=Nat.le_trans (Nat.le_add_left _ _) (by rwa [List.length_append] at h1)
  cases hbe:behS w with
  | nil =>
   rw [hbe] at hfin
   refine go1 6 (m':=.rt _ _ _ _ _) rfl rfl (Nat.zero_le _) ?_
   refine vaddL .list .list (Nat.le_trans (Nat.add_le_add_right (by rw [List.length_append]; exact Nat.add_le_add_right h5 1) 0) (by decide)) ?_
   refine vaugLL (xs:=outL ps) (j:=1) rfl .list (Nat.le_trans (Nat.add_le_add h7 (show _≤3 by rw [List.append_nil,List.length_append]; exact Nat.add_le_add_right h5 1)) (by decide)) (.tail (.tail (.tail (.tail .head)))) ?_
   exact vend (hfin _ _ [] (if_pos rfl).symm rfl rfl)
  | cons b t =>
   rw [hbe] at hfin hb2
   refine go1 13 (m':=.cl _ _ _ _ _ _) rfl rfl ?_ ?_
   ·show (b :: t).toArray.size≤_; rw [List.size_toArray]; exact Nat.le_trans hb2 (by decide)
   refine vcallD (c_law_token c hK b t (Nat.le_trans hb2 (by decide)) _) rfl rfl ?_
   refine go0 2 (m':=.rt _ _ _ _ _) rfl rfl ?_
   have h9:(rowP (k,w)++[lawTok (sgL k)]).length≤3:=by rw [List.length_append]; exact Nat.add_le_add_right h5 1
   refine vaddL .list .list (Nat.le_trans (Nat.add_le_add_right h9 1) (by decide)) ?_
   refine vaugLL (xs:=outL ps) (j:=1) rfl .list (Nat.le_trans (Nat.add_le_add h7 (show _≤4 by rw [List.length_append]; exact Nat.add_le_add_right h9 1)) (by decide)) (.tail (.tail (.tail (.tail .head)))) ?_
   exact vend (hfin _ _ [lawTok (b :: t)] (if_neg nofun).symm rfl rfl)
 ·intro l T W hJ
  rw [rngI_len] at hJ
  refine hJ (fun l T W=>Vd 29 κ (.ex _ l T W)) ?_; clear hJ; intro ps rs pl va wa be sg to ro hv hn hr
  have hn3:ps.length≤3:=by rw [hn]; exact nP_le _
  obtain ⟨ok1',ok2,ok3⟩:=whL_ok hv hn3
  have ewh:Str.ofString "<a b=\""++⟨(txL ps).toArray⟩++Str.ofString "\">"++⟨(txL ps).toArray⟩=(⟨(whL ps).toArray⟩:Str):=by
   rw [show Str.ofString "<a b=\""=⟨([60,97,32,98,61,34]:List Nat).toArray⟩ from by kernel_rfl,show Str.ofString "\">"=⟨([34,62]:List Nat).toArray⟩ from by kernel_rfl,str_app [60,97,32,98,61,34] (txL ps),str_app ([60,97,32,98,61,34]++txL ps) [34,62],str_app (([60,97,32,98,61,34]++txL ps)++[34,62]) (txL ps),List.append_assoc,List.append_assoc]
   rfl
  have hwz:(⟨(whL ps).toArray⟩:Str).length≤212:=by show (whL ps).toArray.size≤_; rw [List.size_toArray]; exact ok2
  have htz:(⟨(txL ps).toArray⟩:Str).length≤102:=by
   show (txL ps).toArray.size≤_; rw [List.size_toArray]; exact Nat.le_trans (txL_ok hv).2 (Nat.mul_le_mul_left 34 hn3)
  have la:∀ a b:Str,(a++b).length=a.length+b.length:=fun a b=>Array.size_append
  refine @go c 29 _ τ1 κ 46 _ (.cl _ _ _ _ _ _) rfl ⟨?_,?_,?_,trivial⟩ ?_
  ·exact sz_le (Nat.le_trans (Nat.add_le_add (show (Str.ofString "<a b=\"").length≤6 from Nat.le_of_ble_eq_true (by kernel_rfl)) htz) (by decide))
  ·rw [← la]
   refine sz_le (Nat.le_trans (Nat.le_trans (Nat.le_add_right _ (⟨(txL ps).toArray⟩:Str).length) (Nat.le_of_eq (la _ _).symm)) ?_)
   rw [ewh]; exact Nat.le_trans hwz (by decide)
  ·rw [← la,ewh]; exact sz_le (Nat.le_trans hwz (by decide))
  rw [ewh]
  have hxl:(⟨(whL ps).toArray⟩:Str).cps.toList=whL ps:=List.toList_toArray
  generalize (⟨(whL ps).toArray⟩:Str)=x at hxl hwz ⊢
  refine vnew hK (i:=0) (fI:=261) (by kernel_rfl) (by kernel_rfl) (by kernel_rfl) rfl rfl rfl (c_tok_init c hK x) rfl ?_
  refine @go0 c 29 _ τ1 κ 1 _ (.ex _ _ _ _) rfl rfl ?_
  have hx0:0 < x.length:=by rw [← len_str,hxl]; exact Nat.succ_pos _
  have hok:∀ a∈x.cps.toList,a≠13∧¬ (55296≤a∧a≤56319):=fun a ha=>(okC_tab (ok1' a (hxl▸ha))).2
  obtain ⟨kr,hrun⟩:=run_all hK hv hn3 hxl
  have htl:(inL ps++([V.ob 6]++outL ps)).length≤10000:=by
   rw [List.length_append,List.length_append]
   exact Nat.le_trans (Nat.add_le_add (Nat.le_trans (flat_len rowP_len ps) (Nat.mul_le_mul_left 2 hn3)) (Nat.add_le_add_left (Nat.le_trans (flat_len outP_len ps) (Nat.mul_le_mul_left 4 hn3)) 1)) (by decide)
  generalize htl0:inL ps++([V.ob 6]++outL ps)=tl at hrun htl
  obtain ⟨fd,s1,t1,t2,t3,e1,e2,q1,q2,q3,y1,y2,z1,z2,D,G,S1⟩:=gen268 c hK (Rf:=tagE ⟨#[97]⟩ ⟨#[98]⟩ ⟨(jnL ps).toArray⟩) hx0 (hxl▸ok3)
  refine s_asgG (e:=3) (N:=tl.length) (PJ:=PJl c x (tagE ⟨#[97]⟩ ⟨#[98]⟩ ⟨(jnL ps).toArray⟩) tl) κ.he rfl (by kernel_rfl) rfl (by kernel_rfl) rfl D (own268 c hK) (pe_run (k:=3) rfl _ ⟨rfl,tl,rfl,htl,⟨0,.inr ⟨rfl,rfl⟩⟩,⟨_,rfl⟩,fun W' hE=>⟨_,.tail (.tail (.tail (.tail (.tail (.tail (.tail (.tail (.tail (.tail (.tail (.tail (.tail (.tail (.tail (.tail (.head)))))))))))))))),?_⟩⟩) G (fun i k W hi=>⟨fun h=>by
   rcases h with ⟨_,p⟩ | ⟨h,_⟩
   ·exact p
   ·rw [h] at hi; exact absurd hi (Nat.lt_irrefl _),fun p=>.inl ⟨hi,p⟩⟩) ?_
  ·refine hE (fun w=>WS c 29 κ.env _ _ _ ⟨_,_,w⟩) ?_; clear hE; intro st ct d0 t0 h
   obtain ⟨s0,rfl⟩:=h.fm
   refine (?_:Vd 29 κ (.ex _ _ _ _))
   have hin:(inL ps).length≤6:=Nat.le_trans (flat_len rowP_len ps) (Nat.mul_le_mul_left 2 hn3)
   have hout:(outL ps).length≤12:=Nat.le_trans (flat_len outP_len ps) (Nat.mul_le_mul_left 4 hn3)
   have htok:TokL (inL ps++[tagV (jnL ps)]++outL ps):=.app (.app (flat_tok rowP_tok ps) (.one (.tag _))) (flat_tok outP_tok ps)
   refine go0 15 (m':=.rt _ _ _ _ _) rfl rfl ?_
   rw [show (V.dict [(Str.ofString "type",V.int 3),(Str.ofString "name",V.str (Str.ofString "a")),(Str.ofString "data",V.dict [(Str.ofString "b",V.str ⟨(jnL ps).toArray⟩)]),(Str.ofString "selfClosing",V.bool false),(Str.ofString "selfClosingAcknowledged",V.bool false)])=tagV (jnL ps) from by kernel_rfl]
   refine vaddL (.lo rfl) .list (Nat.le_trans (Nat.add_le_add_right hin 1) (by decide)) ?_
   refine go0 2 (m':=.rt _ _ _ _ _) rfl rfl ?_
   refine vaddL .list (.lo rfl) (Nat.le_trans (Nat.add_le_add (show _≤7 by rw [List.length_append]; exact Nat.add_le_add_right hin 1) hout) (by decide)) ?_
   have hre:∀ W:List AO,reV W (.ob 6)=tagV (jnL ps)→tl.map (reV W)=inL ps++[tagV (jnL ps)]++outL ps:=fun W e=>by
    rw [← htl0,List.map_append,List.map_append,tok_re (l:=inL ps) (flat_tok rowP_tok ps),tok_re (l:=outL ps) (flat_tok outP_tok ps),List.append_assoc]
    show _++([reV W (.ob 6)]++_)=_
    rw [e]
   refine vne_lo2 (xs:=tl) List.getElem?_concat_length (hre _ rfl) (tok_pure htok).1 (Nat.lt_of_le_of_lt (tok_pure htok).2 (by decide)) ?_
   refine go1 16 (m':=.rt _ _ _ _ _) rfl rfl (Nat.le_trans hin (by decide)) ?_
   refine vnthT (xs:=tl) (w:=.ob 6) List.getElem?_concat_length (by rw [← htl0,List.getElem?_append_right (Nat.le_refl _),Nat.sub_self]; rfl) htl ?_
   refine go0 5 (m':=.rt _ _ _ _ _) rfl rfl ?_
   refine visnot ?_
   refine go0 4 (m':=.ev _ _ _ _ _) rfl rfl ?_
   refine vcompno2 (xs:=tl) (zs:=inL ps++[tagV (jnL ps)]++outL ps) rfl (by kernel_rfl) (pe_run (k:=3) rfl) List.getElem?_concat_length (hre _ rfl) (tok_pure htok).1 (Nat.le_trans (Nat.le_of_eq (by rw [← hre [.dict [],.dict [],.dict [],.dict [],.dict [],.dict [],.dict (tagD ⟨#[97]⟩ (.dict [(⟨#[98]⟩,.str ⟨(jnL ps).toArray⟩)]))] rfl,List.length_map])) htl) (fun κ' u hu q=>?_) ?_
   ·cases htok u hu with
    | err s=>exact go0 21 (m':=.rt _ _ _ _ _) rfl rfl (q _)
    | ill n=>exact go0 35 (m':=.rt _ _ _ _ _) rfl rfl (q _)
    | tok s=>exact go0 21 (m':=.rt _ _ _ _ _) rfl rfl (q _)
    | tag t=>exact go0 21 (m':=.rt _ _ _ _ _) rfl rfl (q _)
   refine go1 8 (m':=.cl _ _ _ _ _ _) rfl rfl (Nat.zero_le _) ?_
   refine vcallD (c_positionA c hK h) rfl rfl ?_
   refine go0 99 (m':=.cl _ _ _ _ _ _) rfl rfl ?_
   refine vcallD (c_law_end c hK x (Nat.le_trans hwz (by decide)) _) rfl rfl ?_
   refine veq_tup2 ?_ ?_ ?_
   ·rw [List.take_of_length_le (Nat.le_of_eq (len_str x)),Int.add_comm]
   ·rw [List.take_of_length_le (Nat.le_of_eq (len_str x))]
   exact hQ _ _ _
  ·intro envg he hf i W hi hP
   obtain ⟨k,⟨h,_⟩ | ⟨rfl,rfl⟩⟩:=hP
   ·rw [hi] at h; exact absurd h (Nat.lt_irrefl _)
   ·refine (S1 envg he hf (mtS 304) .none _ _ _).mono (fun fl σ z=>?_) fun z9 z=>z
    obtain ⟨rfl,rfl⟩:=z
    exact ⟨rfl,_,rfl,kr,.mk ⟨304,0,.none,[]⟩ (strm_start (Nat.le_trans hwz (by decide)) hok) hrun⟩
end HL.Lake
end
noncomputable section
namespace HL.Lake
open PySem PySem.W PySem.Calls PyProof.Rows
theorem law_fin (c:Cx) (hK:c.K=top.heap_1 c.w.params) (ls:List Int) (hl:ls.length≤63) (fd:FuncData) (body:List Stmt) (o:Obj) (ho:(top.heap_1 c.w.params).lookup 820=some o) (hd:o.data=.func fd) (hb:fd.body=.stmts body) (env:Env) (he:EnvOk env fd.scope) (hf:EnvF env) :
  WS c 29 env body (fun fl z9=>fl=.ret (.bool true)) (fun z9=>False) ⟨loc0 [(Str.ofString "script",.list (ls.map V.int))] osL,[],[]⟩:=by
 obtain ⟨fd',body',⟨o',ho',hd'⟩,hb',hw⟩:=law_ws c hK ls hl
 rw [hK,ho] at ho'
 cases ho'
 rw [hd] at hd'
 cases hd'
 rw [hb] at hb'
 cases hb'
 exact hw env he hf
end HL.Lake
end
set_option tactic.hygienic true
open PySem PySem.W PySem.Calls PyProof.Rows
namespace HL.Lake
noncomputable def addrs:List Addr:=[nat_lit 2,nat_lit 3,nat_lit 15,nat_lit 17,nat_lit 18,nat_lit 20,nat_lit 21,nat_lit 22,nat_lit 27,nat_lit 32,nat_lit 37,nat_lit 38,nat_lit 41,nat_lit 42,nat_lit 43,nat_lit 46,nat_lit 48,nat_lit 49,nat_lit 50,nat_lit 57,nat_lit 59,nat_lit 60,nat_lit 62,nat_lit 63,nat_lit 64,nat_lit 66,nat_lit 67,nat_lit 69,nat_lit 70,nat_lit 71,nat_lit 72,nat_lit 73,nat_lit 74,nat_lit 75,nat_lit 78,nat_lit 80,nat_lit 81,nat_lit 83,nat_lit 84,nat_lit 85,nat_lit 92,nat_lit 94,nat_lit 95,nat_lit 97,nat_lit 98,nat_lit 99,nat_lit 101,nat_lit 102,nat_lit 104,nat_lit 105,nat_lit 106,nat_lit 108,nat_lit 109,nat_lit 111,nat_lit 112,nat_lit 113,nat_lit 115,nat_lit 116,nat_lit 118,nat_lit 119,nat_lit 120,nat_lit 122,nat_lit 123,nat_lit 125,nat_lit 126,nat_lit 127,nat_lit 129,nat_lit 130,nat_lit 132,nat_lit 133,nat_lit 134,nat_lit 135,nat_lit 137,nat_lit 138,nat_lit 140,nat_lit 141,nat_lit 142,nat_lit 144,nat_lit 145,nat_lit 147,nat_lit 148,nat_lit 149,nat_lit 150,nat_lit 152,nat_lit 153,nat_lit 155,nat_lit 156,nat_lit 157,nat_lit 159,nat_lit 160,nat_lit 162,nat_lit 163,nat_lit 164,nat_lit 165,nat_lit 166,nat_lit 167,nat_lit 168,nat_lit 171,nat_lit 172,nat_lit 174,nat_lit 175,nat_lit 177,nat_lit 178,nat_lit 179,nat_lit 186,nat_lit 188,nat_lit 189,nat_lit 191,nat_lit 192,nat_lit 193,nat_lit 195,nat_lit 196,nat_lit 198,nat_lit 199,nat_lit 200,nat_lit 202,nat_lit 203,nat_lit 205,nat_lit 206,nat_lit 207,nat_lit 209,nat_lit 210,nat_lit 212,nat_lit 213,nat_lit 214,nat_lit 216,nat_lit 217,nat_lit 219,nat_lit 220,nat_lit 221,nat_lit 223,nat_lit 224,nat_lit 226,nat_lit 227,nat_lit 228,nat_lit 229,nat_lit 230,nat_lit 231,nat_lit 232,nat_lit 235,nat_lit 236,nat_lit 243,nat_lit 246,nat_lit 247,nat_lit 254,nat_lit 255,nat_lit 257,nat_lit 258,nat_lit 260,nat_lit 261,nat_lit 262,nat_lit 264,nat_lit 265,nat_lit 267,nat_lit 268,nat_lit 269,nat_lit 271,nat_lit 272,nat_lit 274,nat_lit 275,nat_lit 276,nat_lit 277,nat_lit 279,nat_lit 280,nat_lit 282,nat_lit 283,nat_lit 284,nat_lit 286,nat_lit 287,nat_lit 289,nat_lit 290,nat_lit 291,nat_lit 293,nat_lit 294,nat_lit 296,nat_lit 297,nat_lit 298,nat_lit 300,nat_lit 301,nat_lit 303,nat_lit 304,nat_lit 305,nat_lit 307,nat_lit 308,nat_lit 310,nat_lit 311,nat_lit 312,nat_lit 314,nat_lit 315,nat_lit 317,nat_lit 318,nat_lit 319,nat_lit 321,nat_lit 322,nat_lit 324,nat_lit 325,nat_lit 326,nat_lit 328,nat_lit 329,nat_lit 331,nat_lit 332,nat_lit 333,nat_lit 335,nat_lit 336,nat_lit 338,nat_lit 339,nat_lit 340,nat_lit 342,nat_lit 343,nat_lit 345,nat_lit 346,nat_lit 347,nat_lit 349,nat_lit 350,nat_lit 352,nat_lit 353,nat_lit 354,nat_lit 356,nat_lit 357,nat_lit 359,nat_lit 360,nat_lit 361,nat_lit 363,nat_lit 364,nat_lit 366,nat_lit 367,nat_lit 368,nat_lit 370,nat_lit 371,nat_lit 373,nat_lit 374,nat_lit 375,nat_lit 377,nat_lit 378,nat_lit 380,nat_lit 381,nat_lit 382,nat_lit 384,nat_lit 385,nat_lit 387,nat_lit 388,nat_lit 389,nat_lit 391,nat_lit 392,nat_lit 394,nat_lit 395,nat_lit 396,nat_lit 398,nat_lit 399,nat_lit 401,nat_lit 402,nat_lit 403,nat_lit 405,nat_lit 406,nat_lit 408,nat_lit 409,nat_lit 410,nat_lit 412,nat_lit 413,nat_lit 415,nat_lit 416,nat_lit 417,nat_lit 419,nat_lit 420,nat_lit 422,nat_lit 423,nat_lit 424,nat_lit 426,nat_lit 427,nat_lit 429,nat_lit 430,nat_lit 431,nat_lit 433,nat_lit 434,nat_lit 436,nat_lit 437,nat_lit 438,nat_lit 440,nat_lit 441,nat_lit 443,nat_lit 444,nat_lit 445,nat_lit 447,nat_lit 448,nat_lit 450,nat_lit 451,nat_lit 452,nat_lit 454,nat_lit 455,nat_lit 457,nat_lit 458,nat_lit 459,nat_lit 461,nat_lit 462,nat_lit 464,nat_lit 465,nat_lit 466,nat_lit 468,nat_lit 469,nat_lit 471,nat_lit 472,nat_lit 473,nat_lit 475,nat_lit 476,nat_lit 478,nat_lit 479,nat_lit 480,nat_lit 482,nat_lit 483,nat_lit 485,nat_lit 486,nat_lit 487,nat_lit 489,nat_lit 490,nat_lit 492,nat_lit 493,nat_lit 494,nat_lit 496,nat_lit 497,nat_lit 499,nat_lit 500,nat_lit 501,nat_lit 503,nat_lit 504,nat_lit 506,nat_lit 507,nat_lit 508,nat_lit 510,nat_lit 511,nat_lit 513,nat_lit 514,nat_lit 515,nat_lit 517,nat_lit 518,nat_lit 520,nat_lit 521,nat_lit 522,nat_lit 524,nat_lit 525,nat_lit 527,nat_lit 528,nat_lit 529,nat_lit 531,nat_lit 532,nat_lit 534,nat_lit 535,nat_lit 536,nat_lit 538,nat_lit 539,nat_lit 541,nat_lit 542,nat_lit 543,nat_lit 545,nat_lit 546,nat_lit 548,nat_lit 549,nat_lit 550,nat_lit 552,nat_lit 553,nat_lit 555,nat_lit 556,nat_lit 557,nat_lit 559,nat_lit 560,nat_lit 562,nat_lit 563,nat_lit 564,nat_lit 566,nat_lit 567,nat_lit 569,nat_lit 570,nat_lit 571,nat_lit 573,nat_lit 574,nat_lit 576,nat_lit 577,nat_lit 578,nat_lit 580,nat_lit 581,nat_lit 583,nat_lit 584,nat_lit 585,nat_lit 587,nat_lit 588,nat_lit 590,nat_lit 591,nat_lit 592,nat_lit 594,nat_lit 595,nat_lit 597,nat_lit 598,nat_lit 599,nat_lit 601,nat_lit 602,nat_lit 604,nat_lit 605,nat_lit 606,nat_lit 608,nat_lit 609,nat_lit 611,nat_lit 612,nat_lit 613,nat_lit 615,nat_lit 616,nat_lit 618,nat_lit 619,nat_lit 620,nat_lit 622,nat_lit 623,nat_lit 625,nat_lit 626,nat_lit 627,nat_lit 629,nat_lit 630,nat_lit 632,nat_lit 633,nat_lit 634,nat_lit 636,nat_lit 637,nat_lit 639,nat_lit 640,nat_lit 641,nat_lit 643,nat_lit 644,nat_lit 646,nat_lit 647,nat_lit 648,nat_lit 650,nat_lit 651,nat_lit 653,nat_lit 654,nat_lit 655,nat_lit 657,nat_lit 658,nat_lit 660,nat_lit 661,nat_lit 662,nat_lit 664,nat_lit 665,nat_lit 667,nat_lit 668,nat_lit 669,nat_lit 671,nat_lit 672,nat_lit 674,nat_lit 675,nat_lit 676,nat_lit 678,nat_lit 679,nat_lit 681,nat_lit 682,nat_lit 683,nat_lit 685,nat_lit 686,nat_lit 688,nat_lit 689,nat_lit 690,nat_lit 692,nat_lit 693,nat_lit 695,nat_lit 696,nat_lit 697,nat_lit 699,nat_lit 700,nat_lit 702,nat_lit 703,nat_lit 704,nat_lit 706,nat_lit 707,nat_lit 709,nat_lit 710,nat_lit 711,nat_lit 713,nat_lit 714,nat_lit 716,nat_lit 717,nat_lit 718,nat_lit 720,nat_lit 721,nat_lit 723,nat_lit 724,nat_lit 725,nat_lit 727,nat_lit 728,nat_lit 730,nat_lit 731,nat_lit 732,nat_lit 734,nat_lit 735,nat_lit 737,nat_lit 738,nat_lit 739,nat_lit 741,nat_lit 742,nat_lit 744,nat_lit 745,nat_lit 746,nat_lit 748,nat_lit 749,nat_lit 751,nat_lit 752,nat_lit 753,nat_lit 755,nat_lit 756,nat_lit 758,nat_lit 759,nat_lit 760,nat_lit 761,nat_lit 762,nat_lit 763,nat_lit 764,nat_lit 767,nat_lit 769,nat_lit 770,nat_lit 772,nat_lit 773,nat_lit 774,nat_lit 776,nat_lit 777,nat_lit 779,nat_lit 780,nat_lit 781,nat_lit 783,nat_lit 784,nat_lit 786,nat_lit 787,nat_lit 788,nat_lit 790,nat_lit 791,nat_lit 793,nat_lit 794,nat_lit 795,nat_lit 797,nat_lit 798,nat_lit 800,nat_lit 801,nat_lit 802,nat_lit 804,nat_lit 805,nat_lit 807,nat_lit 808,nat_lit 809,nat_lit 811,nat_lit 812,nat_lit 814,nat_lit 815,nat_lit 816,nat_lit 819,nat_lit 820]
local macro_rules (kind:=Lean.Parser.Command.in)
| s=>if s[0].isOfKind `Lean.Parser.Command.universe then pure (Lean.mkNullNode (s[0][1].getArgs.map fun x=>s[2].rewriteBottomUp fun y=>if y.getId==`X then Lean.mkIdent (.str `hd ("tw"++toString (`HL.Lake.hd++x.getId).hash)) else y)) else Lean.Macro.throwUnsupported
universe env_1_41 heap_1_47 heap_1_1439 o_1_43 o_1_45 o_1_46 o_1_52 o_1_54 o_1_56 o_1_57 o_1_58 o_1_59 o_1_60 o_1_61 o_1_65 o_1_66 o_1_67 o_1_68 o_1_69 o_1_70 o_1_72 o_1_73 o_1_74 o_1_75 o_1_85 o_1_86 o_1_87 o_1_88 o_1_89 o_1_90 o_1_96 o_1_98 o_1_99 o_1_100 o_1_101 o_1_102 o_1_103 o_1_105 o_1_106 o_1_107 o_1_113 o_1_114 o_1_115 o_1_116 o_1_123 o_1_124 o_1_125 o_1_131 o_1_132 o_1_133 o_1_139 o_1_141 o_1_142 o_1_143 o_1_144 o_1_146 o_1_147 o_1_148 o_1_150 o_1_151 o_1_152 o_1_153 o_1_154 o_1_155 o_1_157 o_1_158 o_1_159 o_1_160 o_1_161 o_1_162 o_1_163 o_1_164 o_1_165 o_1_166 o_1_167 o_1_168 o_1_169 o_1_171 o_1_172 o_1_173 o_1_174 o_1_175 o_1_179 o_1_181 o_1_182 o_1_183 o_1_184 o_1_186 o_1_187 o_1_188 o_1_190 o_1_191 o_1_192 o_1_193 o_1_194 o_1_195 o_1_197 o_1_198 o_1_199 o_1_200 o_1_201 o_1_202 o_1_204 o_1_205 o_1_206 o_1_207 o_1_208 o_1_209 o_1_211 o_1_212 o_1_213 o_1_214 o_1_215 o_1_216 o_1_218 o_1_219 o_1_220 o_1_221 o_1_222 o_1_223 o_1_225 o_1_226 o_1_227 o_1_228 o_1_229 o_1_230 o_1_231 o_1_233 o_1_234 o_1_235 o_1_236 o_1_237 o_1_238 o_1_240 o_1_241 o_1_242 o_1_243 o_1_244 o_1_245 o_1_246 o_1_248 o_1_249 o_1_250 o_1_251 o_1_252 o_1_253 o_1_255 o_1_256 o_1_257 o_1_258 o_1_259 o_1_260 o_1_261 o_1_262 o_1_263 o_1_264 o_1_265 o_1_266 o_1_270 o_1_272 o_1_273 o_1_275 o_1_276 o_1_277 o_1_278 o_1_279 o_1_283 o_1_285 o_1_286 o_1_287 o_1_288 o_1_290 o_1_291 o_1_292 o_1_294 o_1_295 o_1_296 o_1_297 o_1_298 o_1_299 o_1_301 o_1_302 o_1_303 o_1_304 o_1_305 o_1_306 o_1_308 o_1_309 o_1_310 o_1_311 o_1_312 o_1_313 o_1_315 o_1_316 o_1_317 o_1_318 o_1_319 o_1_320 o_1_322 o_1_323 o_1_324 o_1_325 o_1_326 o_1_327 o_1_329 o_1_330 o_1_331 o_1_332 o_1_333 o_1_334 o_1_335 o_1_336 o_1_337 o_1_338 o_1_339 o_1_340 o_1_344 o_1_348 o_1_349 o_1_351 o_1_352 o_1_353 o_1_354 o_1_355 o_1_356 o_1_357 o_1_358 o_1_359 o_1_360 o_1_362 o_1_364 o_1_365 o_1_366 o_1_367 o_1_368 o_1_369 o_1_381 o_1_383 o_1_384 o_1_385 o_1_386 o_1_388 o_1_389 o_1_390 o_1_391 o_1_393 o_1_394 o_1_395 o_1_396 o_1_397 o_1_398 o_1_400 o_1_401 o_1_402 o_1_403 o_1_404 o_1_405 o_1_407 o_1_408 o_1_409 o_1_410 o_1_411 o_1_412 o_1_413 o_1_415 o_1_416 o_1_417 o_1_418 o_1_419 o_1_420 o_1_422 o_1_423 o_1_424 o_1_425 o_1_426 o_1_427 o_1_429 o_1_430 o_1_431 o_1_432 o_1_433 o_1_434 o_1_436 o_1_437 o_1_438 o_1_439 o_1_440 o_1_441 o_1_443 o_1_444 o_1_445 o_1_446 o_1_447 o_1_448 o_1_450 o_1_451 o_1_452 o_1_453 o_1_454 o_1_455 o_1_457 o_1_458 o_1_459 o_1_460 o_1_461 o_1_462 o_1_464 o_1_465 o_1_466 o_1_467 o_1_468 o_1_469 o_1_471 o_1_472 o_1_473 o_1_474 o_1_475 o_1_476 o_1_478 o_1_479 o_1_480 o_1_481 o_1_482 o_1_483 o_1_485 o_1_486 o_1_487 o_1_488 o_1_489 o_1_490 o_1_492 o_1_493 o_1_494 o_1_495 o_1_496 o_1_497 o_1_499 o_1_500 o_1_501 o_1_502 o_1_503 o_1_504 o_1_506 o_1_507 o_1_508 o_1_509 o_1_510 o_1_511 o_1_513 o_1_514 o_1_515 o_1_516 o_1_517 o_1_518 o_1_520 o_1_521 o_1_522 o_1_523 o_1_524 o_1_525 o_1_527 o_1_528 o_1_529 o_1_530 o_1_531 o_1_532 o_1_534 o_1_535 o_1_536 o_1_537 o_1_538 o_1_539 o_1_541 o_1_542 o_1_543 o_1_544 o_1_545 o_1_546 o_1_548 o_1_549 o_1_550 o_1_551 o_1_552 o_1_553 o_1_555 o_1_556 o_1_557 o_1_558 o_1_559 o_1_560 o_1_562 o_1_563 o_1_564 o_1_565 o_1_566 o_1_567 o_1_569 o_1_570 o_1_571 o_1_572 o_1_573 o_1_574 o_1_576 o_1_577 o_1_578 o_1_579 o_1_580 o_1_581 o_1_583 o_1_584 o_1_585 o_1_586 o_1_587 o_1_588 o_1_590 o_1_591 o_1_592 o_1_593 o_1_594 o_1_595 o_1_597 o_1_598 o_1_599 o_1_600 o_1_601 o_1_602 o_1_604 o_1_605 o_1_606 o_1_607 o_1_608 o_1_609 o_1_611 o_1_612 o_1_613 o_1_614 o_1_615 o_1_616 o_1_618 o_1_619 o_1_620 o_1_621 o_1_622 o_1_623 o_1_625 o_1_626 o_1_627 o_1_628 o_1_629 o_1_630 o_1_632 o_1_633 o_1_634 o_1_635 o_1_636 o_1_637 o_1_639 o_1_640 o_1_641 o_1_642 o_1_643 o_1_644 o_1_646 o_1_647 o_1_648 o_1_649 o_1_650 o_1_651 o_1_653 o_1_654 o_1_655 o_1_656 o_1_657 o_1_658 o_1_660 o_1_661 o_1_662 o_1_663 o_1_664 o_1_665 o_1_667 o_1_668 o_1_669 o_1_670 o_1_671 o_1_672 o_1_674 o_1_675 o_1_676 o_1_677 o_1_678 o_1_679 o_1_681 o_1_682 o_1_683 o_1_684 o_1_685 o_1_686 o_1_688 o_1_689 o_1_690 o_1_691 o_1_692 o_1_693 o_1_695 o_1_696 o_1_697 o_1_698 o_1_699 o_1_700 o_1_702 o_1_703 o_1_704 o_1_705 o_1_706 o_1_707 o_1_709 o_1_710 o_1_711 o_1_712 o_1_713 o_1_714 o_1_716 o_1_717 o_1_718 o_1_719 o_1_720 o_1_721 o_1_723 o_1_724 o_1_725 o_1_726 o_1_727 o_1_728 o_1_730 o_1_731 o_1_732 o_1_733 o_1_734 o_1_735 o_1_737 o_1_738 o_1_739 o_1_740 o_1_741 o_1_742 o_1_744 o_1_745 o_1_746 o_1_747 o_1_748 o_1_749 o_1_751 o_1_752 o_1_753 o_1_754 o_1_755 o_1_756 o_1_758 o_1_759 o_1_760 o_1_761 o_1_762 o_1_763 o_1_765 o_1_766 o_1_767 o_1_768 o_1_769 o_1_770 o_1_772 o_1_773 o_1_774 o_1_775 o_1_776 o_1_777 o_1_779 o_1_780 o_1_781 o_1_782 o_1_783 o_1_784 o_1_786 o_1_787 o_1_788 o_1_789 o_1_790 o_1_791 o_1_793 o_1_794 o_1_795 o_1_796 o_1_797 o_1_798 o_1_800 o_1_801 o_1_802 o_1_803 o_1_804 o_1_805 o_1_807 o_1_808 o_1_809 o_1_810 o_1_811 o_1_812 o_1_814 o_1_815 o_1_816 o_1_817 o_1_818 o_1_819 o_1_821 o_1_822 o_1_823 o_1_824 o_1_825 o_1_826 o_1_828 o_1_829 o_1_830 o_1_831 o_1_832 o_1_833 o_1_835 o_1_836 o_1_837 o_1_838 o_1_839 o_1_840 o_1_842 o_1_843 o_1_844 o_1_845 o_1_846 o_1_847 o_1_849 o_1_850 o_1_851 o_1_852 o_1_853 o_1_854 o_1_856 o_1_857 o_1_858 o_1_859 o_1_860 o_1_861 o_1_863 o_1_864 o_1_865 o_1_866 o_1_867 o_1_868 o_1_870 o_1_871 o_1_872 o_1_873 o_1_874 o_1_875 o_1_877 o_1_878 o_1_879 o_1_880 o_1_881 o_1_882 o_1_884 o_1_885 o_1_886 o_1_887 o_1_888 o_1_889 o_1_891 o_1_892 o_1_893 o_1_894 o_1_895 o_1_896 o_1_897 o_1_898 o_1_899 o_1_900 o_1_901 o_1_902 o_1_905 o_1_906 o_1_907 o_1_908 o_1_910 o_1_911 o_1_912 o_1_913 o_1_915 o_1_916 o_1_917 o_1_918 o_1_919 o_1_920 o_1_922 o_1_923 o_1_924 o_1_925 o_1_926 o_1_927 o_1_929 o_1_930 o_1_931 o_1_932 o_1_933 o_1_934 o_1_935 o_1_937 o_1_938 o_1_939 o_1_940 o_1_941 o_1_942 o_1_944 o_1_945 o_1_946 o_1_947 o_1_948 o_1_949 o_1_951 o_1_952 o_1_953 o_1_954 o_1_955 o_1_956 o_1_958 o_1_959 o_1_960 o_1_961 o_1_962 o_1_963 o_1_965 o_1_966 o_1_967 o_1_968 o_1_969 o_1_970 o_1_972 o_1_973 o_1_974 o_1_975 o_1_976 o_1_977 o_1_979 o_1_980 o_1_981 o_1_982 o_1_983 o_1_984 o_1_986 o_1_987 o_1_988 o_1_992 o_1_994 o_1_995 o_1_996 o_1_998 o_1_999 o_1_1000 o_1_1001 o_1_1002 o_1_1003 o_1_1005 o_1_1006 o_1_1007 o_1_1008 o_1_1009 o_1_1010 o_1_1012 o_1_1013 o_1_1014 o_1_1015 o_1_1016 o_1_1017 o_1_1019 o_1_1020 o_1_1021 o_1_1022 o_1_1023 o_1_1024 o_1_1026 o_1_1027 o_1_1028 o_1_1029 o_1_1030 o_1_1031 o_1_1033 o_1_1034 o_1_1035 o_1_1036 o_1_1037 o_1_1038 o_1_1040 o_1_1041 o_1_1042 o_1_1043 o_1_1044 o_1_1045 o_1_1047 o_1_1048 o_1_1049 o_1_1050 o_1_1051 o_1_1052 o_1_1054 o_1_1055 o_1_1056 o_1_1057 o_1_1058 o_1_1059 o_1_1061 o_1_1062 o_1_1063 o_1_1064 o_1_1065 o_1_1066 o_1_1068 o_1_1069 o_1_1070 o_1_1071 o_1_1072 o_1_1073 o_1_1075 o_1_1076 o_1_1077 o_1_1078 o_1_1079 o_1_1080 o_1_1082 o_1_1083 o_1_1084 o_1_1085 o_1_1089 o_1_1091 o_1_1092 o_1_1094 o_1_1095 o_1_1096 o_1_1097 o_1_1098 o_1_1099 o_1_1101 o_1_1102 o_1_1103 o_1_1104 o_1_1105 o_1_1106 o_1_1108 o_1_1109 o_1_1110 o_1_1111 o_1_1112 o_1_1113 o_1_1115 o_1_1116 o_1_1117 o_1_1118 o_1_1119 o_1_1120 o_1_1122 o_1_1123 o_1_1124 o_1_1125 o_1_1126 o_1_1127 o_1_1129 o_1_1130 o_1_1131 o_1_1132 o_1_1133 o_1_1134 o_1_1136 o_1_1137 o_1_1138 o_1_1139 o_1_1140 o_1_1141 o_1_1143 o_1_1144 o_1_1145 o_1_1146 o_1_1147 o_1_1148 o_1_1150 o_1_1151 o_1_1152 o_1_1153 o_1_1154 o_1_1155 o_1_1157 o_1_1158 o_1_1159 o_1_1160 o_1_1161 o_1_1162 o_1_1164 o_1_1165 o_1_1166 o_1_1167 o_1_1168 o_1_1169 o_1_1171 o_1_1172 o_1_1173 o_1_1174 o_1_1175 o_1_1176 o_1_1178 o_1_1179 o_1_1180 o_1_1181 o_1_1182 o_1_1186 o_1_1188 o_1_1190 o_1_1191 o_1_1192 o_1_1193 o_1_1194 o_1_1195 o_1_1197 o_1_1198 o_1_1199 o_1_1200 o_1_1201 o_1_1202 o_1_1204 o_1_1205 o_1_1206 o_1_1207 o_1_1208 o_1_1209 o_1_1211 o_1_1212 o_1_1213 o_1_1214 o_1_1215 o_1_1216 o_1_1218 o_1_1219 o_1_1220 o_1_1221 o_1_1222 o_1_1223 o_1_1225 o_1_1226 o_1_1227 o_1_1228 o_1_1229 o_1_1230 o_1_1232 o_1_1233 o_1_1234 o_1_1235 o_1_1236 o_1_1237 o_1_1239 o_1_1240 o_1_1241 o_1_1242 o_1_1243 o_1_1244 o_1_1246 o_1_1247 o_1_1248 o_1_1249 o_1_1250 o_1_1251 o_1_1253 o_1_1254 o_1_1255 o_1_1256 o_1_1257 o_1_1258 o_1_1260 o_1_1261 o_1_1262 o_1_1263 o_1_1264 o_1_1265 o_1_1267 o_1_1268 o_1_1269 o_1_1270 o_1_1271 o_1_1272 o_1_1274 o_1_1275 o_1_1276 o_1_1277 o_1_1278 o_1_1282 o_1_1284 o_1_1286 o_1_1287 o_1_1288 o_1_1289 o_1_1290 o_1_1291 o_1_1293 o_1_1294 o_1_1295 o_1_1296 o_1_1297 o_1_1298 o_1_1300 o_1_1301 o_1_1302 o_1_1303 o_1_1304 o_1_1305 o_1_1307 o_1_1308 o_1_1309 o_1_1310 o_1_1311 o_1_1312 o_1_1314 o_1_1315 o_1_1316 o_1_1317 o_1_1318 o_1_1319 o_1_1321 o_1_1322 o_1_1323 o_1_1324 o_1_1325 o_1_1326 o_1_1328 o_1_1329 o_1_1330 o_1_1331 o_1_1332 o_1_1333 o_1_1335 o_1_1336 o_1_1337 o_1_1338 o_1_1339 o_1_1340 o_1_1342 o_1_1343 o_1_1344 o_1_1345 o_1_1346 o_1_1347 o_1_1349 o_1_1350 o_1_1351 o_1_1352 o_1_1353 o_1_1354 o_1_1356 o_1_1357 o_1_1358 o_1_1359 o_1_1360 o_1_1361 o_1_1363 o_1_1364 o_1_1365 o_1_1366 o_1_1367 o_1_1368 o_1_1370 o_1_1371 o_1_1372 o_1_1373 o_1_1381 o_1_1383 o_1_1385 o_1_1386 o_1_1387 o_1_1388 o_1_1389 o_1_1390 o_1_1392 o_1_1393 o_1_1394 o_1_1395 o_1_1396 o_1_1397 o_1_1399 o_1_1400 o_1_1401 o_1_1402 o_1_1403 o_1_1404 o_1_1406 o_1_1407 o_1_1408 o_1_1409 o_1_1410 o_1_1411 o_1_1413 o_1_1414 o_1_1415 o_1_1416 o_1_1417 o_1_1418 o_1_1420 o_1_1421 o_1_1422 o_1_1423 o_1_1424 o_1_1425 o_1_1427 o_1_1428 o_1_1429 o_1_1430 o_1_1431 o_1_1432 o_1_1434 o_1_1435 o_1_1436 sts_1_51 sts_1_64 sts_1_84 sts_1_95 sts_1_112 sts_1_122 sts_1_130 sts_1_138 sts_1_178 sts_1_269 sts_1_282 sts_1_343 sts_1_347 sts_1_380 sts_1_1380 tree_1_49 tree_1_62 tree_1_71 tree_1_76 tree_1_91 tree_1_108 tree_1_117 tree_1_126 tree_1_134 tree_1_176 tree_1_267 tree_1_280 tree_1_341 tree_1_345 tree_1_361 tree_1_370 tree_1_903 tree_1_989 tree_1_1086 tree_1_1183 tree_1_1279 tree_1_1374 tree_1_1437 view_1_39 in theorem X:True:=trivial
theorem hd.tw4153192756532399634:True:=trivial
theorem hd.tw11326569055486494244:True:=trivial
theorem hd.tw1431521616801677902:True:=trivial
set_option Elab.async true in
set_option maxHeartbeats 0 in
theorem hd:PySem.Challenge.rw_te0035_04.Holds:=by
 w_on; o_law; o_head (kHook HL.Lake.top.heap_1 HL.Lake.addrs (fun _=>by kernel_rfl)); (case hw=>w_witness2); w_strict (
  k_fill
  intro w s₀ s₁ mg mb G Y fa o pm cd doc dV kV ho hd hcd hD hmg hg args vals as hpre hlay hrd hwl hlo
  have KX:=kIn_of Y
  refine Ground.open G ?_
  intro T B D TE TW
  obtain ⟨_,_,M⟩:=bmod_of_top T
  try (obtain ⟨_,_,he,B0⟩:=based_of_top T rfl hmg ho hd; have he':cd=_:=he; subst he'; clear he)
  clear hmg
  wrow_args hpre hlay hrd hwl hlo
  first | refine callC_kw (enter_call ?_) | refine enter_call ?_ | refine callC_kw (enter_callW ?_) | refine enter_callW ?_ | w_how
  w_top on
  have K0:=below_caller (Top.heap T)
  w_call any ho hd hcd hD T F
  (refine law_end (others:=[Str.ofString "tape",Str.ofString "text",Str.ofString "inside",Str.ofString "outside",Str.ofString "joined",Str.ofString "place",Str.ofString "value",Str.ofString "way",Str.ofString "behind",Str.ofString "sign",Str.ofString "told",Str.ofString "row",Str.ofString "tag",Str.ofString "whole",Str.ofString "t",Str.ofString "got"]) (by assumption) (by assumption) (by assumption) (by assumption) (by assumption) rfl ?hnd ?h ?hn ?hp); (case hnd=>exact nodupB_iff (by kernel_rfl)); (case hn=>intro cls; rfl); (case hp=>first | rfl | kernel_rfl!); (case h=>intro c h1 h2 h3 env he hf; exact law_fin c (by rw [h3,h2]) _ (by omega) _ _ _ rfl rfl rfl env he hf))
end HL.Lake
end
theorem PySem.Challenge.cw_te0035_04_holds : PySem.Challenge.rw_te0035_04.Holds :=
 HL.Lake.hd
