import PyProof.Rows.All
import Wide.All
import OpenK.AllK
import Wide.FinOn
import PyProof.TableCode
import KE.KxPercent
import KE.KxWritten
import PyProof.FactsAll.str_4
import PyProof.IsiBase
import PyProof.ExcArgs
import KE.KLam
import PyProof.FString5
import PyProof.IsiHeapPairs
import KE.KDictObj
import KE.KDictIter
import KE.KDictAnyGet
import PyProof.DictWalks
import PyProof.RulesDel
import PyProof.Rows.EqDataRows
import PyProof.NeData
import PyProof.Rows.SumAny
import PyProof.Rows.ListMul
import OpenK.KWalk
import OpenK.KLine
import KE.KPar
import PyProof.AssignAttr
import PyProof.Rows.AttrNodeAny
import PyProof.RulesAssignMore
import PyProof.RulesSmallArms
import PyProof.TupleOfSeq
import PyProof.Conv_bool
import PyProof.Rows.Tup
import PyProof.ListOps
import KE.KListMore
import KE.TryLedger
import KE.KTryDeep
import PyProof.RulesTry
import PyProof.AttrMissHeap
import KE.KSetInts
import PyProof.Raises
import PyProof.MinMaxWalk
import KE.KSortTup
import PyProof.Rows.SortRev
import PyProof.LetGo
import PyProof.DictCompW
import PySem.Challenge.RW_oy0463_01
set_option Elab.async false
set_option compiler.extract_closed false
set_option genInjectivity false
set_option genSizeOf false
set_option genSizeOfSpec false
set_option maxRecDepth 100000
set_option linter.unusedVariables false
namespace Mine
open PySem PySem.W PySem.Calls PyProof.Rows PySem.Spec
section
set_option genInjectivity false
set_option genSizeOf false
set_option genSizeOfSpec false
noncomputable abbrev Vn:=List Nat
noncomputable abbrev Vz:=List Int
noncomputable def dot:List Int->Vz->Int
 |[],_=>0
 |x::a,v=>x*v.headD 0+dot a v.tail
noncomputable def pZ:List Int->List Int->List Int
 |[],b=>b
 |x::a,b=>(x+b.headD 0)::pZ a b.tail
noncomputable def wO:Nat->List Int
 |0=>[1]
 |i+1=>0::wO i
noncomputable abbrev qZ {α:Type}(z:α)(l:List α):Nat->α:=List.rec (motive:=λ_=>Nat->α) (λ_=>z) (λx _ r i=>Nat.rec (motive:=λ_=>α) x (λi _=>r i) i) l
noncomputable abbrev rW {α:Sort u}(z:Bool)(a b:α):α:=Bool.rec (motive:=λ_=>α) b a z
theorem UX (b:List Int)(v:Vz):dot b v=b.headD 0*v.headD 0+dot b.tail v.tail:=by
 cases b with
 |nil=>exact((Int.add_zero _).trans (Int.zero_mul _)).symm
 |cons y b=>rfl
theorem GX (a:List Int):∀(b:List Int) (v:Vz),dot (pZ a b) v=dot a v+dot b v:=by
 induction a with
 |nil=>exact λb v=>(Int.zero_add _).symm
 |cons x a ih=>
  intro b v
  show(x+b.headD 0)*v.headD 0+dot (pZ a b.tail) v.tail=x*v.headD 0+dot a v.tail+dot b v
  rw[ih,UX b v,Int.add_mul,Int.add_assoc,Int.add_assoc,Int.add_left_comm (dot a _)]
theorem GY (c:Int)(a:List Int):∀v:Vz,dot (a.map (c*·)) v=c*dot a v:=by
 induction a with
 |nil=>exact λv=>(Int.mul_zero _).symm
 |cons x a ih=>
  intro v
  show c*x*v.headD 0+dot (a.map (c*·)) v.tail=c*(x*v.headD 0+dot a v.tail)
  rw[ih,Int.mul_add,Int.mul_assoc]
theorem GZ (i:Nat):∀v:Vz,dot (wO i) v=qZ 0 v i:=by
 induction i with
 |zero=>exact λv=>(Int.add_zero _).trans ((Int.one_mul _).trans (by cases v<;>rfl))
 |succ i ih=>
  intro v
  refine(congrArg (· +dot (wO i) v.tail) (Int.zero_mul _)).trans ((Int.zero_add _).trans ((ih _).trans ?_))
  cases v with
  |nil=>rfl
  |cons w v=>rfl
noncomputable abbrev cst (ρ:Vn):Vz:=ρ.map Int.ofNat
theorem VE (i:Nat):∀ρ:Vn,qZ 0 (cst ρ) i=Int.ofNat (qZ 0 ρ i):=by
 induction i with
 |zero=>intro ρ;cases ρ<;>rfl
 |succ i ih=>intro ρ;cases ρ with
  |nil=>rfl
  |cons w v=>exact ih v
structure Li where
 c:Int
 n:List Int
 z:List Int
section
variable {ρ:Vn}{σ:Vz}
noncomputable def Li.v (l:Li)(ρ:Vn)(σ:Vz):Int:=l.c+(dot l.n (cst ρ)+dot l.z σ)
noncomputable def Li.add (a b:Li):Li:=⟨a.c+b.c,pZ a.n b.n,pZ a.z b.z⟩
noncomputable def Li.sc (c:Int)(a:Li):Li:=⟨c*a.c,a.n.map (c*·),a.z.map (c*·)⟩
noncomputable def Li.k (c:Int):Li:=⟨c,[],[]⟩
theorem ET (a b c d:Int):(a+b)+(c+d)=(a+c)+(b+d):=by rw[Int.add_assoc,Int.add_assoc,Int.add_left_comm b]
theorem Li.v_add (a b:Li):(a.add b).v ρ σ=a.v ρ σ+b.v ρ σ:=by
 show(a.c+b.c)+(dot (pZ a.n b.n) _+dot (pZ a.z b.z) _)=_
 rw[GX,GX,ET (dot _ _),ET];rfl
theorem Li.tV (c:Int)(a:Li):(a.sc c).v ρ σ=c*a.v ρ σ:=by
 show c*a.c+(dot (a.n.map _) _+dot (a.z.map _) _)=c*(a.c+(_+_))
 rw[GY,GY,Int.mul_add,Int.mul_add]
theorem Li.tU (c:Int):(Li.k c).v ρ σ=c:=Int.add_zero _
noncomputable def Li.sb (b a:Li):Li:=b.add (a.sc (-1))
theorem Li.Mh (a b:Li):(b.sb a).v ρ σ=b.v ρ σ-a.v ρ σ:=by
 refine(Li.v_add b _).trans ?_
 rw[Li.tV,Int.neg_one_mul];rfl
structure Ex where
 n':Vn->Vz->Nat
 z':Vn->Vz->Int
 l:Bool->Li
 o':∀ρ σ b,(bif b then z' ρ σ else Int.ofNat (n' ρ σ))=(l b).v ρ σ
noncomputable abbrev Ex.n (e:Ex):Vn->Vz->Nat:=Ex.rec (motive:=λ_=>Vn->Vz->Nat) (λn _ _ _=>n) e
noncomputable abbrev Ex.z (e:Ex):Vn->Vz->Int:=Ex.rec (motive:=λ_=>Vn->Vz->Int) (λ_ z _ _=>z) e
theorem Ex.o (e:Ex):∀ρ σ b,(bif b then e.z ρ σ else Int.ofNat (e.n ρ σ))=(e.l b).v ρ σ:=e.o'
noncomputable abbrev Ex.at (i:Nat):Ex:=⟨λρ _=>qZ 0 ρ i,λ_ σ=>qZ 0 σ i,λz=>bif z then⟨0,[],wO i⟩ else⟨0,wO i,[]⟩,λρ σ b=>by
 cases b with
 |true=>exact(GZ i σ).symm.trans ((Int.zero_add _).symm.trans (Int.zero_add _).symm)
 |false=>exact((GZ i _).trans (VE i ρ)).symm.trans ((Int.add_zero _).symm.trans (Int.zero_add _).symm)⟩
noncomputable abbrev Ex.k (i:Nat):Ex:=⟨λ_ _=>i,λ_ _=>Int.ofNat i,λ_=> .k i,λρ σ b=>by cases b<;>exact(Li.tU _).symm⟩
noncomputable abbrev Ex.add (a b:Ex):Ex:=⟨λρ σ=>a.n ρ σ+b.n ρ σ,λρ σ=>a.z ρ σ+b.z ρ σ,λz=>(a.l z).add (b.l z),λρ σ c=>by
 rw[Li.v_add,<-a.o,<-b.o];cases c<;>rfl⟩
noncomputable abbrev Ex.sub (a b:Ex):Ex:=⟨λ_ _=>0,λρ σ=>a.z ρ σ-b.z ρ σ,λz=>bif z then(a.l z).sb (b.l z) else .k 0,λρ σ c=>by
 cases c with
 |true=>exact(Eq.trans (by rw[<-a.o,<-b.o];rfl) (Li.Mh _ _).symm)
 |false=>exact(Li.tU _).symm⟩
noncomputable abbrev Ex.ml (k:Nat)(a:Ex):Ex:=⟨λρ σ=>k*a.n ρ σ,λρ σ=>Int.ofNat k*a.z ρ σ,λz=>(a.l z).sc (Int.ofNat k),λρ σ c=>by
 rw[Li.tV,<-a.o];cases c<;>rfl⟩
noncomputable abbrev Ex.mr (k:Nat)(a:Ex):Ex:=⟨λρ σ=>a.n ρ σ*k,λρ σ=>a.z ρ σ*Int.ofNat k,λz=>(a.l z).sc (Int.ofNat k),λρ σ c=>by
 rw[Li.tV,<-a.o,Int.mul_comm (Int.ofNat k)];cases c<;>rfl⟩
noncomputable abbrev Ex.ng (a:Ex):Ex:=⟨λ_ _=>0,λρ σ=> -a.z ρ σ,λz=>bif z then(a.l z).sc (-1) else .k 0,λρ σ c=>by
 cases c with
 |true=>rw[cond_true,cond_true,Li.tV,<-a.o,Int.neg_one_mul];rfl
 |false=>exact(Li.tU _).symm⟩
noncomputable abbrev Ex.nl (k:Nat)(a:Ex):Ex:=⟨λ_ _=>0,λρ σ=> -Int.ofNat k*a.z ρ σ,λz=>bif z then(a.l z).sc (-Int.ofNat k) else .k 0,λρ σ c=>by
 cases c with
 |true=>rw[cond_true,cond_true,Li.tV,<-a.o];rfl
 |false=>exact(Li.tU _).symm⟩
noncomputable abbrev Ex.c (a:Ex):Ex:=⟨λ_ _=>0,λρ σ=>(a.n ρ σ:Int),λz=>bif z then a.l false else .k 0,λρ σ c=>by
 cases c with
 |true=>exact a.o ρ σ false
 |false=>exact(Li.tU _).symm⟩
noncomputable abbrev Dn:=List (List Li)
noncomputable def sat (d:Dn)(ρ:Vn)(σ:Vz):Prop:=∃b∈d,∀l∈b,0≤l.v ρ σ
noncomputable def yq (d e:Dn):Dn:=d.flatMap λb=>e.map λb'=>b++b'
theorem DG {d e:Dn}(h:sat d ρ σ∨sat e ρ σ):sat (d++e) ρ σ:=
 h.elim (λ⟨b,hb,h⟩=>⟨b,List.mem_append_left _ hb,h⟩) λ⟨b,hb,h⟩=>⟨b,List.mem_append_right _ hb,h⟩
theorem AX {b c:List Li}(h:∀l∈b,0≤l.v ρ σ)(h':∀l∈c,0≤l.v ρ σ):∀l∈b++c,0≤l.v ρ σ:=λl hl=>(List.mem_append.mp hl).elim (h l) (h' l)
theorem DH {d e:Dn}(h:sat d ρ σ)(h':sat e ρ σ):sat (yq d e) ρ σ:=
 h.elim λb hb=>h'.elim λb' jw=>⟨b++b',List.mem_flatMap.mpr ⟨b,hb.1,List.mem_map.mpr ⟨b',jw.1,rfl⟩⟩,AX hb.2 jw.2⟩
structure Px where
 p':Vn->Vz->Prop
 d:Bool->Dn
 o':∀ρ σ,(p' ρ σ->sat (d true) ρ σ)∧(¬p' ρ σ->sat (d false) ρ σ)
noncomputable abbrev Px.p (e:Px):Vn->Vz->Prop:=Px.rec (motive:=λ_=>Vn->Vz->Prop) (λp _ _=>p) e
theorem Px.o (e:Px):∀ρ σ,(e.p ρ σ->sat (e.d true) ρ σ)∧(¬e.p ρ σ->sat (e.d false) ρ σ):=e.o'
noncomputable def uR (a b:Li):List Li:=[b.sb a]
noncomputable def uS (a b:Li):List Li:=[b.sb (a.add (.k 1))]
theorem uy {a b:Li}(h:a.v ρ σ≤b.v ρ σ):∀l∈uR a b,0≤l.v ρ σ:=λl hl=>by
 cases List.mem_singleton.mp hl
 exact(Li.Mh a b).symm▸Int.sub_nonneg_of_le h
theorem xV {a b:Li}(h:a.v ρ σ<b.v ρ σ):∀l∈uS a b,0≤l.v ρ σ:=uy (a:=a.add (.k 1)) (((Li.v_add a _).trans (congrArg _ (Li.tU 1))).symm▸h)
theorem tN {b:List Li}(h:∀l∈b,0≤l.v ρ σ):sat [b] ρ σ:=⟨b, .head _,h⟩
theorem Ex.le_iff (z:Bool)(a b:Ex):rW z (a.z ρ σ≤b.z ρ σ) (a.n ρ σ≤b.n ρ σ)↔(a.l z).v ρ σ≤(b.l z).v ρ σ:=by
 rw[<-a.o,<-b.o]
 cases z
 ·exact Int.ofNat_le.symm
 ·exact .rfl
theorem Ex.lt_iff (z:Bool)(a b:Ex):rW z (a.z ρ σ<b.z ρ σ) (a.n ρ σ<b.n ρ σ)↔(a.l z).v ρ σ<(b.l z).v ρ σ:=by
 rw[<-a.o,<-b.o]
 cases z
 ·exact Int.ofNat_lt.symm
 ·exact .rfl
theorem Ex.eq_iff (z:Bool)(a b:Ex):rW z (a.z ρ σ=b.z ρ σ) (a.n ρ σ=b.n ρ σ)↔(a.l z).v ρ σ=(b.l z).v ρ σ:=by
 rw[<-a.o,<-b.o]
 cases z
 ·exact Int.ofNat_inj.symm
 ·exact .rfl
noncomputable abbrev Px.le (z:Bool)(a b:Ex):Px:=⟨λρ σ=>rW z (a.z ρ σ≤b.z ρ σ) (a.n ρ σ≤b.n ρ σ),λt=>[bif t then uR (a.l z) (b.l z) else uS (b.l z) (a.l z)],λρ σ=>
 ⟨λh=>tN (uy ((Ex.le_iff z a b).mp h)),λh=>tN (xV (Int.not_le.mp λq=>h ((Ex.le_iff z a b).mpr q)))⟩⟩
noncomputable abbrev Px.lt (z:Bool)(a b:Ex):Px:=⟨λρ σ=>rW z (a.z ρ σ<b.z ρ σ) (a.n ρ σ<b.n ρ σ),λt=>[bif t then uS (a.l z) (b.l z) else uR (b.l z) (a.l z)],λρ σ=>
 ⟨λh=>tN (xV ((Ex.lt_iff z a b).mp h)),λh=>tN (uy (Int.not_lt.mp λq=>h ((Ex.lt_iff z a b).mpr q)))⟩⟩
noncomputable abbrev Px.eq (z:Bool)(a b:Ex):Px:=⟨λρ σ=>rW z (a.z ρ σ=b.z ρ σ) (a.n ρ σ=b.n ρ σ),λt=>bif t then[uR (a.l z) (b.l z)++uR (b.l z) (a.l z)] else[uS (a.l z) (b.l z),uS (b.l z) (a.l z)],λρ σ=>
 ⟨λh=>tN (AX (uy (Int.le_of_eq ((Ex.eq_iff z a b).mp h))) (uy (Int.le_of_eq ((Ex.eq_iff z a b).mp h).symm))),
  λh=>(Int.lt_or_gt_of_ne λq=>h ((Ex.eq_iff z a b).mpr q)).elim (λq=>⟨_, .head _,xV q⟩) λq=>⟨_, .tail _ (.head _),xV q⟩⟩⟩
noncomputable abbrev Px.no (a:Px):Px:=⟨λρ σ=>¬a.p ρ σ,λt=>a.d (!t),λρ σ=>⟨(a.o ρ σ).2,λh=>(a.o ρ σ).1 (Classical.not_not.mp h)⟩⟩
noncomputable abbrev Px.an (a b:Px):Px:=⟨λρ σ=>a.p ρ σ∧b.p ρ σ,λt=>bif t then yq (a.d true) (b.d true) else a.d false++b.d false,λρ σ=>
 ⟨λh=>DH ((a.o ρ σ).1 h.1) ((b.o ρ σ).1 h.2),λh=>DG ((Classical.not_and_iff_not_or_not.mp h).imp (a.o ρ σ).2 (b.o ρ σ).2)⟩⟩
noncomputable abbrev Px.or (a b:Px):Px:=⟨λρ σ=>a.p ρ σ∨b.p ρ σ,λt=>bif t then a.d true++b.d true else yq (a.d false) (b.d false),λρ σ=>
 ⟨λh=>DG (h.imp (a.o ρ σ).1 (b.o ρ σ).1),λh=>DH ((a.o ρ σ).2 λq=>h (.inl q)) ((b.o ρ σ).2 λq=>h (.inr q))⟩⟩
noncomputable abbrev Px.im (a b:Px):Px:=⟨λρ σ=>a.p ρ σ->b.p ρ σ,λt=>bif t then a.d false++b.d true else yq (a.d true) (b.d false),λρ σ=>
 ⟨λh=>DG ((Classical.em (a.p ρ σ)).elim (λq=> .inr ((b.o ρ σ).1 (h q))) λq=> .inl ((a.o ρ σ).2 q)),λh=>DH ((a.o ρ σ).1 (Classical.not_imp.mp h).1) ((b.o ρ σ).2 (Classical.not_imp.mp h).2)⟩⟩
theorem LC:sat [[]] ρ σ:=tN (List.forall_mem_nil _)
noncomputable abbrev Px.fa:Px:=⟨λ_ _=>False,λt=>bif t then[] else[[]],λρ σ=>⟨False.elim,λ_=>LC⟩⟩
noncomputable abbrev Px.of (p:Vn->Vz->Prop)(f:Px)(h:∀ρ σ,p ρ σ->f.p ρ σ):Px:=⟨p,λt=>bif t then f.d true else[[]],λρ σ=>⟨λq=>(f.o ρ σ).1 (h ρ σ q),λ_=>LC⟩⟩
noncomputable abbrev Px.sub (t a b:Ex):Px:= .of (λρ σ=>t.n ρ σ=a.n ρ σ-b.n ρ σ) (((Px.le false b a).an (.eq false (t.add b) a)).or ((Px.le false a b).an (.eq false t (.k 0)))) λρ σ h=>
 (Nat.le_total _ _).imp (λq=>⟨q,(congrArg (· +_) h).trans (Nat.sub_add_cancel q)⟩) λq=>⟨q,h.trans (Nat.sub_eq_zero_of_le q)⟩
noncomputable abbrev Px.min (t a b:Ex):Px:= .of (λρ σ=>t.n ρ σ=Min.min (a.n ρ σ) (b.n ρ σ)) (((Px.le false a b).an (.eq false t a)).or ((Px.le false b a).an (.eq false t b))) λρ σ h=>
 (Nat.le_total _ _).imp (λq=>⟨q,h.trans (Nat.min_eq_left q)⟩) λq=>⟨q,h.trans (Nat.min_eq_right q)⟩
noncomputable abbrev Px.max (t a b:Ex):Px:= .of (λρ σ=>t.n ρ σ=Max.max (a.n ρ σ) (b.n ρ σ)) (((Px.le false a b).an (.eq false t b)).or ((Px.le false b a).an (.eq false t a))) λρ σ h=>
 (Nat.le_total _ _).imp (λq=>⟨q,h.trans (Nat.max_eq_right q)⟩) λq=>⟨q,h.trans (Nat.max_eq_left q)⟩
noncomputable abbrev Px.tn (t a:Ex):Px:= .of (λρ σ=>t.n ρ σ=(a.z ρ σ).toNat) (((Px.le true (.k 0) a).an (.eq true t.c a)).or ((Px.le true a (.k 0)).an (.eq false t (.k 0)))) λρ σ h=>
 (Int.le_total _ _).imp (λq=>⟨q,(congrArg Nat.cast h).trans (Int.toNat_of_nonneg q)⟩) λq=>⟨q,h.trans (Int.toNat_of_nonpos q)⟩
theorem yi {k:Nat}{P Q:Px}(h':Q.p ρ σ)(h:0<k->P.p ρ σ):(bif Nat.blt 0 k then P else Q).p ρ σ:=by
 cases e:Nat.blt 0 k
 ·exact h'
 ·exact h (Nat.le_of_ble_eq_true e)
noncomputable def qf (z:Bool)(k:Nat)(t a:Ex):Px:=bif Nat.blt 0 k then(Px.le z (.ml k t) a).an (.lt z a ((Ex.ml k t).add (.k k))) else .no .fa
noncomputable def rf (z:Bool)(k:Nat)(t:Ex):Px:=bif Nat.blt 0 k then(Px.le z (.k 0) t).an (.lt z t (.k k)) else .no .fa
noncomputable abbrev Px.dn (k:Nat)(t a:Ex):Px:= .of (λρ σ=>t.n ρ σ=a.n ρ σ/k) (qf false k t a) λρ σ h=>yi id λhk=>
 ⟨Nat.le_trans (Nat.le_of_eq (congrArg (k*·) h)) (Nat.mul_div_le _ _),by
  show _<k*_+k
  rw[h];exact Nat.lt_mul_div_succ _ hk⟩
noncomputable abbrev Px.mn (k:Nat)(t a:Ex):Px:= .of (λρ σ=>t.n ρ σ=a.n ρ σ% k) (rf false k t) λρ σ h=>yi id λhk=>⟨Nat.zero_le _,Nat.lt_of_le_of_lt (Nat.le_of_eq h) (Nat.mod_lt _ hk)⟩
noncomputable abbrev Px.dz (k:Nat)(t a:Ex):Px:= .of (λρ σ=>t.z ρ σ=(a.z ρ σ).fdiv (Int.ofNat k)) (qf true k t a) λρ σ h=>yi id λhk=>by
 have h:=h.trans (Int.fdiv_eq_ediv_of_nonneg _ (Int.natCast_nonneg k))
 refine⟨Int.le_trans (Int.le_of_eq (congrArg (Int.ofNat k*·) h)) (Int.mul_ediv_self_le (Int.ne_of_gt (Int.natCast_pos.mpr hk))),?_⟩
 show _<Int.ofNat k*_+Int.ofNat k
 rw[h];exact Int.lt_mul_ediv_self_add (Int.natCast_pos.mpr hk)
noncomputable abbrev Px.mz (k:Nat)(t a:Ex):Px:= .of (λρ σ=>t.z ρ σ=(a.z ρ σ).fmod (Int.ofNat k)) (rf true k t) λρ σ h=>yi id λhk=>
 have h:=h.trans (Int.fmod_eq_emod_of_nonneg _ (Int.natCast_nonneg k))
 ⟨Int.le_trans (Int.emod_nonneg _ (Int.ne_of_gt (Int.natCast_pos.mpr hk))) (Int.le_of_eq h.symm),Int.lt_of_le_of_lt (Int.le_of_eq h) (Int.emod_lt_of_pos _ (Int.natCast_pos.mpr hk))⟩
noncomputable def pI (x:Int):Bool:=Nat.beq x.toNat 0
noncomputable def Lb (l:List Int):Bool:=l.all pI
noncomputable def MA (l:List Int):Bool:=l.all λx=>pI x&&pI (-x)
noncomputable abbrev num (N:Nat):Nat×Nat:=bif Nat.beq (N% 32) 31 then(N/1024% 32^(N/32% 32),N/1024/32^(N/32% 32)) else(N% 32,N/32)
noncomputable def tK:List Li->Nat->Li×Nat
 |[],N=>(.k 0,N)
 |l::cs,N=>((tK cs (num N).2).1.add (l.sc (Int.ofNat (num N).1)),(tK cs (num N).2).2)
noncomputable def JN (l:Li):Bool:=pI (l.c+1)&&(Lb l.n&&MA l.z)
noncomputable def Bp (k:List Li->Nat->Option Nat):Dn->List Li->Nat->Option Nat
 |[],_,N=>some N
 |b::d,cs,N=>(k (b++cs) N).bind (Bp k d cs)
noncomputable def z0 (cs:List Li)(N:Nat):Option Nat:=bif JN (tK cs N).1 then some (tK cs N).2 else none
noncomputable def z3:List Dn->List Li->Nat->Option Nat
 |[],cs,N=>z0 cs (N/32)
 |d::ds,cs,N=>bif Nat.beq (N% 32) 0 then z3 ds cs (N/32) else bif Nat.beq (N% 32) 1 then Bp (z3 ds) d cs (N/32) else z0 cs (N/32)
theorem zX {x:Int}(h:pI x=true):x≤0:=Int.toNat_eq_zero.mp (Nat.eq_of_beq_eq_true h)
theorem nonp_le (l:List Int):Lb l=true->∀ρ:Vn,dot l (cst ρ)≤0:=by
 induction l with
 |nil=>exact λ_ _=>Int.le_refl 0
 |cons x l ih=>
  intro h ρ
  have h:=(Bool.and_eq_true_iff (x:=pI x)).mp h
  cases ρ with
  |nil=>exact Int.add_le_add (Int.le_of_eq (Int.mul_zero x)) (ih h.2 [])
  |cons n ρ=>exact Int.add_le_add (Int.mul_nonpos_of_nonpos_of_nonneg (zX h.1) (Int.natCast_nonneg n)) (ih h.2 ρ)
theorem zer_eq (l:List Int):MA l=true->∀σ:Vz,dot l σ=0:=by
 induction l with
 |nil=>exact λ_ _=>rfl
 |cons x l ih=>
  intro h σ
  have h:=(Bool.and_eq_true_iff (x:=pI x&&pI (-x))).mp h
  have h1:=Bool.and_eq_true_iff.mp h.1
  have e:x=0:=Int.le_antisymm (zX h1.1) (Int.neg_le_neg_iff.mp (zX h1.2))
  subst e
  exact(congrArg (· +dot l σ.tail) (Int.zero_mul _)).trans ((Int.zero_add _).trans (ih h.2 _))
theorem pLc_ok (cs:List Li):(∀l∈cs,0≤l.v ρ σ)->∀N,0≤(tK cs N).1.v ρ σ:=by
 induction cs with
 |nil=>exact λ_ _=>Int.le_refl 0
 |cons l cs ih=>
  intro h N
  refine(Li.v_add _ _).symm▸Int.add_nonneg (ih (λl hl=>h l (.tail _ hl)) _) ?_
  rw[Li.tV];exact Int.mul_nonneg (Int.natCast_nonneg _) (h l (.head _))
theorem JO {cs:List Li}(h:∀l∈cs,0≤l.v ρ σ){N r:Nat}(e:z0 cs N=some r):False:=by
 have h1:=pLc_ok cs h N
 unfold z0 at e
 cases q:JN (tK cs N).1
 ·rw[q] at e;cases e
 ·have q:=Bool.and_eq_true_iff.mp q
  have q2:=Bool.and_eq_true_iff.mp q.2
  have h3:=Int.add_le_add (zX q.1) (Int.add_le_add (nonp_le _ q2.1 ρ) (Int.le_of_eq (zer_eq _ q2.2 σ)))
  rw[Int.add_right_comm] at h3
  exact Int.not_le.mpr (Int.lt_add_one_iff.mpr h1) h3
theorem Ui {k:List Li->Nat->Option Nat}{cs:List Li}{r:Nat}(hk:∀b,(∀l∈b,0≤l.v ρ σ)->∀N r,k (b++cs) N=some r->False)(d:Dn)(h:sat d ρ σ):∀N,Bp k d cs N=some r->False:=by
 obtain ⟨b,hb,hs⟩:=h
 induction hb with
 |head d=>
  intro N e
  obtain ⟨N',e1,_⟩:=Option.bind_eq_some_iff.mp e
  exact hk b hs N N' e1
 |tail _ _ ih=>
  intro N e
  obtain ⟨N',_,e1⟩:=Option.bind_eq_some_iff.mp e
  exact ih N' e1
theorem run_ok (ds:List Dn):(∀d∈ds,sat d ρ σ)->∀(cs:List Li) (N r:Nat),(∀l∈cs,0≤l.v ρ σ)->z3 ds cs N=some r->False:=by
 induction ds with
 |nil=>exact λ_ cs N r h e=>JO h e
 |cons d ds ih=>
  intro hd cs N r h e
  have ih:=ih λd ff=>hd d (.tail _ ff)
  change (bif _ then _ else bif _ then _ else _)=_ at e
  cases h0:Nat.beq (N% 32) 0<;>rw[h0] at e
  ·cases h1:Nat.beq (N% 32) 1<;>rw[h1] at e
   ·exact JO h e
   ·exact Ui (λb hb N r=>ih _ N r (AX hb h)) d (hd d (.head _)) _ e
  ·exact ih _ _ _ h e
noncomputable abbrev tH {α β:Type}(f:α->β)(g:Nat->α×Nat)(N:Nat):β×Nat:=(f (g N).1,(g N).2)
noncomputable abbrev lq {α β γ:Type}(f:α->β->γ)(g:Nat->α×Nat)(g':Nat->β×Nat)(N:Nat):γ×Nat:=tH (f (g N).1) g' (g N).2
@[reducible] noncomputable def dE:Nat->Nat->Ex×Nat
 |0,N=>(.k 0,N)
 |f+1,N=>bif Nat.ble (N% 32) 10 then(.at (N% 32),N/32) else
  qZ (tH .k num) [lq .add (dE f) (dE f),lq .sub (dE f) (dE f),lq .ml num (dE f),lq .mr num (dE f),tH .c (dE f),tH .at num,tH .ng (dE f),lq .nl num (dE f)] (N% 32-11) (N/32)
noncomputable abbrev nQ (f:Ex->Ex->Px):Nat->Px×Nat:=lq f (dE 20) (dE 20)
noncomputable abbrev zZ (f:Nat->Ex->Ex->Px)(N:Nat):Px×Nat:=nQ (f (num N).1) (num N).2
noncomputable abbrev Dy (f:Ex->Ex->Ex->Px)(N:Nat):Px×Nat:=nQ (f (dE 20 N).1) (dE 20 N).2
@[reducible] noncomputable def dP:Nat->Nat->Px×Nat
 |0,N=>(.fa,N)
 |f+1,N=>qZ (zZ .mz) [nQ (.le false),nQ (.lt false),nQ (.eq false),nQ (.le true),nQ (.lt true),nQ (.eq true),tH .no (dP f),lq .an (dP f) (dP f),lq .or (dP f) (dP f),
  λN=>(.fa,N),Dy .sub,Dy .min,nQ .tn,zZ .dn,zZ .mn,zZ .dz,Dy .max,lq .im (dP f) (dP f)] (N% 32) (N/32)
@[reducible] noncomputable def GQ:Nat->Nat->List Px×Nat
 |0,N=>([],N)
 |k+1,N=>lq (· ::·) (dP 9) (GQ k) N
noncomputable abbrev GG (hs:List Px)(g:Px)(ρ:Vn)(σ:Vz):Prop:=List.rec (motive:=λ_=>Prop) (g.p ρ σ) (λh _ r=>h.p ρ σ->r) hs
noncomputable abbrev GH (n:Nat):(Vn->Prop)->Prop:=Nat.rec (motive:=λ_=>(Vn->Prop)->Prop) (λP=>P []) (λ_ r P=>∀{x:Nat},r λρ=>P (x::ρ)) n
noncomputable abbrev GI (n:Nat):(Vz->Prop)->Prop:=Nat.rec (motive:=λ_=>(Vz->Prop)->Prop) (λP=>P []) (λ_ r P=>∀{x:Int},r λσ=>P (x::σ)) n
noncomputable abbrev sys (N:Nat):(List Px×Px)×Nat:=lq Prod.mk (GQ (N/1024% 32)) (dP 9) (N/32768)
noncomputable def Uy (N:Nat):Bool:=(z3 (((sys N).1.1.map λh=>h.d true)++[(sys N).1.2.d false]) [] (sys N).2).isSome
noncomputable abbrev aD (N:Nat):Prop:=GH (N% 32) λρ=>GI (N/32% 32) λσ=>GG (sys N).1.1 (sys N).1.2 ρ σ
theorem UA (n:Nat):∀{P:Vn->Prop},(∀ρ,P ρ)->GH n P:=by
 induction n with
 |zero=>exact λh=>h _
 |succ n ih=>exact λh x=>ih λρ=>h _
theorem UB (n:Nat):∀{P:Vz->Prop},(∀ρ,P ρ)->GI n P:=by
 induction n with
 |zero=>exact λh=>h _
 |succ n ih=>exact λh x=>ih λρ=>h _
theorem Uz {g:Px}(hs:List Px):((∀x∈hs,x.p ρ σ)->¬g.p ρ σ->False)->GG hs g ρ σ:=by
 induction hs with
 |nil=>exact λh=>Classical.byContradiction λq=>h (List.forall_mem_nil _) q
 |cons y hs ih=>exact λh hy=>ih λq=>h (List.forall_mem_cons.mpr ⟨hy,q⟩)
structure Wr (N:Nat):Prop where
 p:aD N
theorem ln (N:Nat)(h:true=Uy N:=by kernel_rfl):Wr N:=by
 refine⟨UA _ λρ=>UB _ λσ=>Uz _ λq q'=>?_⟩
 obtain ⟨r,e⟩:=Option.isSome_iff_exists.mp h.symm
 refine run_ok (ρ:=ρ) (σ:=σ) _ (λd hd=>?_) _ _ _ (List.forall_mem_nil _) e
 refine(List.mem_append.mp hd).elim (λhd=>?_) λhd=>?_
 ·obtain ⟨x,hx,e⟩:=List.mem_map.mp hd
  exact e▸(x.o ρ σ).1 (q x hx)
 ·exact(List.mem_singleton.mp hd).symm▸(Px.o _ ρ σ).2 q'
end
theorem pF:aD 0x44103c1318001:=@Wr.p _ (ln _)
theorem Df:aD 0x211042100c2020440:=@Wr.p _ (ln _)
theorem ln2:aD 0x108441084b3004200966100802:=@Wr.p _ (ln _)
theorem Di:aD 0x8422084280000000000000006fe60790200966100802:=@Wr.p _ (ln _)
theorem zS:aD 1169304944672:=@Wr.p _ (ln _)
theorem zT:aD 0x422084201802430440:=@Wr.p _ (ln _)
theorem Zq:aD 0x211042100c2018440:=@Wr.p _ (ln _)
theorem nN:aD 0x88214826008401:=@Wr.p _ (ln _)
theorem zU:aD 37417775005697:=@Wr.p _ (ln _)
theorem tD:aD 0x8402080211042108021008c19856008802:=@Wr.p _ (ln _)
theorem ln10:aD 0x200882100401104212cc213cc015326008802:=@Wr.p _ (ln _)
theorem YZ:aD 0x401104210804108420200243002530840:=@Wr.p _ (ln _)
theorem wj:aD 0x8441084010a582fcc0b08402:=@Wr.p _ (ln _)
theorem zQ:aD 0x100422084280000000000000006fe60790201166100802:=@Wr.p _ (ln _)
theorem J8:aD 0x210042208421400000000000000037f303c82008220166100c03:=@Wr.p _ (ln _)
theorem Y9:aD 0x21104210102020440:=@Wr.p _ (ln _)
theorem J9:aD 0x8422084280000000000000006fe60790200166100802:=@Wr.p _ (ln _)
theorem Ka:aD 0x802110421080220044110803:=@Wr.p _ (ln _)
theorem Kc:aD 0x21104280000000000000006fe607938417e6000401:=@Wr.p _ (ln _)
theorem Za:aD 0x44104c1318000:=@Wr.p _ (ln _)
theorem Zb:aD 0x11050000000000000000dfcc1320000:=@Wr.p _ (ln _)
theorem Kd:aD 0x2209e603cd6130001:=@Wr.p _ (ln _)
theorem Ke:aD 0x108821080210cc0b00402:=@Wr.p _ (ln _)
theorem Kf:aD 0x422084200843312c0b10403:=@Wr.p _ (ln _)
theorem Kg:aD 0x110441086605ac330ac0b10002:=@Wr.p _ (ln _)
theorem zR:aD 0x80220042208421008200982000802:=@Wr.p _ (ln _)
theorem Dg:aD 0x21104211005f981610a582fcc0b08402:=@Wr.p _ (ln _)
theorem Dh:aD 0x422084029801f40bf300401:=@Wr.p _ (ln _)
theorem Kh:aD 0x80200882108a6008442901e228861:=@Wr.p _ (ln _)
theorem Kl:aD 0x1004410801308a6010401:=@Wr.p _ (ln _)
theorem Km:aD 0x44114c5300000:=@Wr.p _ (ln _)
theorem Zc:aD 0x42110421400000000000000037f30cc0b7902008e6100802:=@Wr.p _ (ln _)
theorem Kn:aD 0x844100441088219816b108330ac0b10403:=@Wr.p _ (ln _)
theorem Dj:aD 0x108041085213cd6011e6008802:=@Wr.p _ (ln _)
theorem Zd:aD 0x422084b3000b30cc0b00401:=@Wr.p _ (ln _)
theorem Dk:aD 0x2208522986619816b08401:=@Wr.p _ (ln _)
theorem Ze:aD 0x21104210042008402:=@Wr.p _ (ln _)
theorem Ko:aD 0x422084019801f40bf300401:=@Wr.p _ (ln _)
theorem Dl:aD 0x1080010882108001008210852208d610086008c04:=@Wr.p _ (ln _)
theorem Dm:aD 0x42110421080811104020860:=@Wr.p _ (ln _)
theorem Zf:aD 0x80210042208421004200844108421080030084309662112621203f40bf301004:=@Wr.p _ (ln _)
theorem Zg:aD 0x8421104210a0000000000000001bf981e40801f40bf31004108c03:=@Wr.p _ (ln _)
theorem Zh:aD 0x4210044108421781e4184420006208c04:=@Wr.p _ (ln _)
theorem Dp:aD 0x100422084280000000000000006fe60790201226100802:=@Wr.p _ (ln _)
theorem Kq:aD 0x4410cc3300000:=@Wr.p _ (ln _)
theorem Zi:aD 0x1080220842014c2114d601041308802:=@Wr.p _ (ln _)
theorem ln46:aD 0x11060000005fcc1300000:=@Wr.p _ (ln _)
theorem Kr:aD 0x421104210806110c4020860:=@Wr.p _ (ln _)
theorem Zj:aD 0x8010040210440080211082108462086600a8221346008c04:=@Wr.p _ (ln _)
theorem Ks:aD 0x110021104229804d5802114c026ac270808608a601356138442:=@Wr.p _ (ln _)
theorem Ku:aD 0x2100820088207826504c0288001:=@Wr.p _ (ln _)
theorem Zk:aD 0x100401000211042108483094c2694821bc4f0c83303d817026b5940611007:=@Wr.p _ (ln _)
theorem Kv:aD 0x4220859301e6b0966008401:=@Wr.p _ (ln _)
theorem Kw:aD 0x22082619816230001:=@Wr.p _ (ln _)
theorem Zl:aD 0x21088210a0000000000000001bf986619816f6102008e6100802:=@Wr.p _ (ln _)
theorem Zm:aD 0x22086605bc1318001:=@Wr.p _ (ln _)
theorem Zn:aD 0x4412cc9300000:=@Wr.p _ (ln _)
theorem Zo:aD 0x108820088210804104c0b10402:=@Wr.p _ (ln _)
theorem Ky:aD 0x40100440080211040008022004000882108440588011282000803:=@Wr.p _ (ln _)
theorem Zp:aD 0x422084201042108020088c19856008802:=@Wr.p _ (ln _)
theorem Zr:aD 0x220f082fcc9300000:=@Wr.p _ (ln _)
theorem Kz:aD 0x2208820781e16826b28001:=@Wr.p _ (ln _)
theorem Zs:aD 0x21080200882108401084410842118801009640807f40bf30166401005:=@Wr.p _ (ln _)
theorem Zt:aD 0x10802208421781e40cc4b0884000803:=@Wr.p _ (ln _)
theorem KA:aD 0x80410a43302c1310401:=@Wr.p _ (ln _)
theorem KC:aD 0x8441084010cc2b0cc0b08402:=@Wr.p _ (ln _)
theorem KD:aD 0x21104280000000000000006fe60793e817e6000401:=@Wr.p _ (ln _)
theorem KG:aD 0x42110421400000000000000037f303c9f40bf30802008802:=@Wr.p _ (ln _)
theorem ln68:aD 0x2208a700000000000000006fe7120000:=@Wr.p _ (ln _)
theorem ln69:aD 0x11060000000000000000dfcc5320000:=@Wr.p _ (ln _)
theorem Zu:aD 0x802110421086601356113c33009ab7904110803:=@Wr.p _ (ln _)
theorem Zv:aD 0x80211042108a601356113c53009ab7904110803:=@Wr.p _ (ln _)
theorem KH:aD 0x21004410842f03c820884008803:=@Wr.p _ (ln _)
theorem Zw:aD 0x422084b3004b30cc0b00401:=@Wr.p _ (ln _)
theorem KI:aD 0x10042208020088200800110001004410840f014006001318821:=@Wr.p _ (ln _)
theorem ln75:aD 0x11060000025fcc1300000:=@Wr.p _ (ln _)
theorem ln76:aD 0x2008821080219816110402:=@Wr.p _ (ln _)
theorem Zx:aD 0x108021104210840010041fa05f9806417e6200c03:=@Wr.p _ (ln _)
theorem KJ:aD 0x802110421400000000000000037f303c810086417e6100802:=@Wr.p _ (ln _)
theorem KL:aD 0x4211042108001fa05f983e817e6000802:=@Wr.p _ (ln _)
theorem KN:aD 0x100401104200802208422084f301e6b0a84008803:=@Wr.p _ (ln _)
theorem KO:aD 0x8022084203cd6231e6108402:=@Wr.p _ (ln _)
theorem Zy:aD 0x80000002010421000200044108020004410042204c209802a08ffffffff3fe625801308c03:=@Wr.p _ (ln _)
theorem ln83:aD 0x21104210002000402:=@Wr.p _ (ln _)
theorem Zz:aD 0x4220850000000000000000dfcc0f2326000401:=@Wr.p _ (ln _)
theorem ZA:aD 0x80211042124c010880b10e6100803:=@Wr.p _ (ln _)
theorem KP:aD 0x802008022080000040110421080210cc0150c411804b10c04:=@Wr.p _ (ln _)
theorem KQ:aD 0x40100441000200844100400080220800100022084211883302d620cc2250c011840b10c04:=@Wr.p _ (ln _)
theorem ln88:aD 0x11060000045fcc7300000:=@Wr.p _ (ln _)
theorem KR:aD 0x2110401088212cc002cc0224c0240401:=@Wr.p _ (ln _)
theorem KS:aD 0x4011042008821002612cc0224c0240401:=@Wr.p _ (ln _)
theorem KU:aD 0x1c85f088214e203fcc0390bee0226000401:=@Wr.p _ (ln _)
theorem KV:aD 0x100401104200842208421004221ac6008804:=@Wr.p _ (ln _)
theorem KW:aD 0x422084200002130402:=@Wr.p _ (ln _)
theorem ZC:aD 0x200844108020084410850000000000000000dfcc0f204022cc2224c2240802:=@Wr.p _ (ln _)
theorem ZD:aD 0x108820084410fd02fcc002cc0224c0240401:=@Wr.p _ (ln _)
theorem ZE:aD 0x842208401084410850000000000000000dfcc0f204012cc2224c2240802:=@Wr.p _ (ln _)
theorem ZF:aD 0x108441080210882109660084012cc2224c2240802:=@Wr.p _ (ln _)
theorem KY:aD 0x42110421080220042210803:=@Wr.p _ (ln _)
theorem ZG:aD 0x200842208421400000000000000037f303c82004221226100c03:=@Wr.p _ (ln _)
theorem JS:aD 0x400080410042000020088200800008022084211882198560128201a80108c04:=@Wr.p _ (ln _)
theorem YX:aD 0x4220846417e600326000401:=@Wr.p _ (ln _)
theorem YY:aD 0x44124c5300000:=@Wr.p _ (ln _)
theorem JT:aD 0x211040110421080a100c0118840:=@Wr.p _ (ln _)
theorem JU:aD 0x8422084210003f40bf300e6000802:=@Wr.p _ (ln _)
theorem JV:aD 0x211042102c130801308402:=@Wr.p _ (ln _)
theorem JW:aD 0x842208421003e817e600053880ff300802:=@Wr.p _ (ln _)
theorem JX:aD 0x10802008022084200802108821084210004322c801053880ff30226201005:=@Wr.p _ (ln _)
theorem JY:aD 0x42010421480131001308801:=@Wr.p _ (ln _)
theorem JZ:aD 0x84410a0000000000000001bf981e414c0f20401:=@Wr.p _ (ln _)
theorem Y0:aD 0x80200882108e6008023901e128841:=@Wr.p _ (ln _)
theorem Y3:aD 0x2108021104210844102c019804308049c407f983e817e6301004:=@Wr.p _ (ln _)
theorem Y4:aD 0x4011042102c1308a6010402:=@Wr.p _ (ln _)
theorem J3:aD 0x210882108401100219856208803:=@Wr.p _ (ln _)
theorem J4:aD 0x422084200026010402:=@Wr.p _ (ln _)
theorem Y5:aD 0x100000088210802000821085200894204c410cc0b00c03:=@Wr.p _ (ln _)
theorem Y6:aD 0x108821080010cc0b00402:=@Wr.p _ (ln _)
theorem J5:aD 0x108041085210082008802:=@Wr.p _ (ln _)
theorem Y7:aD 0x42110421080211044008803:=@Wr.p _ (ln _)
theorem J6:aD 0x1088210cc2b0002000402:=@Wr.p _ (ln _)
theorem J7:aD 0x10044008441084050c41128440:=@Wr.p _ (ln _)
theorem ln121:aD 0x11060000005fcc5300000:=@Wr.p _ (ln _)
theorem ln122:aD 0x11060000025fcc5300000:=@Wr.p _ (ln _)
theorem Y8:aD 0x8001008000000008022080010040108820084000040110400080200044108423108330cc2b5804a0cc2b0114198d6410c05:=@Wr.p _ (ln _)
end
section
theorem xA {P0:Prop}{R:Prop}{r:Prop}(h:P0∧R)(k:P0->R->r):r:=by
 obtain ⟨v0,v1⟩:=h
 exact k v0 v1
theorem cP {P0:Prop}{P1:Prop}{R:Prop}{r:Prop}(h:P0∧P1∧R)(k:P0->P1->R->r):r:=by
 obtain ⟨v0,v1,v2⟩:=h
 exact k v0 v1 v2
theorem iy {P0:Prop}{P1:Prop}{P2:Prop}{R:Prop}{r:Prop}(h:P0∧P1∧P2∧R)(k:P0->P1->P2->R->r):r:=by
 obtain ⟨v0,v1,v2,v3⟩:=h
 exact k v0 v1 v2 v3
theorem wW {P0:Prop}{P1:Prop}{P2:Prop}{P3:Prop}{R:Prop}{r:Prop}(h:P0∧P1∧P2∧P3∧R)(k:P0->P1->P2->P3->R->r):r:=by
 obtain ⟨v0,v1,v2,v3,v4⟩:=h
 exact k v0 v1 v2 v3 v4
theorem Mn {P0:Prop}{P1:Prop}{P2:Prop}{P3:Prop}{P4:Prop}{P5:Prop}{P6:Prop}{P7:Prop}{P8:Prop}{P9:Prop}{R:Prop}{r:Prop}(h:P0∧P1∧P2∧P3∧P4∧P5∧P6∧P7∧P8∧P9∧R)(k:P0->P1->P2->P3->P4->P5->P6->P7->P8->P9->R->r):r:=by
 obtain ⟨v0,v1,v2,v3,v4,v5,v6,v7,v8,v9,v10⟩:=h
 exact k v0 v1 v2 v3 v4 v5 v6 v7 v8 v9 v10
theorem xAAAE.{u1}{ai:Sort u1}{P0:Prop}{P1:Prop}{P2:Prop}{R:ai->Prop}{r:Prop}(h:P0∧P1∧P2∧∃e1:ai,R e1)(k:P0->P1->P2->(e1:ai)->R e1->r):r:=by
 obtain ⟨v0,v1,v2,v3,v4⟩:=h
 exact k v0 v1 v2 v3 v4
theorem Mp.{u1}{ai:Sort u1}{P0:Prop}{R:ai->Prop}{r:Prop}(h:P0∧∃e1:ai,R e1)(k:P0->(e1:ai)->R e1->r):r:=by
 obtain ⟨v0,v1,v2⟩:=h
 exact k v0 v1 v2
theorem j3.{u1}{ai:Sort u1}{P0:Prop}{P2:ai->Prop}{R:ai->Prop}{r:Prop}(h:P0∧∃e1:ai,P2 e1∧R e1)(k:P0->(e1:ai)->P2 e1->R e1->r):r:=by
 obtain ⟨v0,v1,v2,v3⟩:=h
 exact k v0 v1 v2 v3
theorem Mq.{u1}{ai:Sort u1}{P0:Prop}{P2:ai->Prop}{P3:ai->Prop}{P4:ai->Prop}{R:ai->Prop}{r:Prop}(h:P0∧∃e1:ai,P2 e1∧P3 e1∧P4 e1∧R e1)(k:P0->(e1:ai)->P2 e1->P3 e1->P4 e1->R e1->r):r:=by
 obtain ⟨v0,v1,v2,v3,v4,v5⟩:=h
 exact k v0 v1 v2 v3 v4 v5
theorem xAEEEAA.{u1,u2,u3}{ai:Sort u1}{aq:Sort u2}{ay:Sort u3}{P0:Prop}{P4:ai->aq->ay->Prop}{P5:ai->aq->ay->Prop}{R:ai->aq->ay->Prop}{r:Prop}(h:P0∧∃e1:ai,∃e2:aq,∃e3:ay,P4 e1 e2 e3∧P5 e1 e2 e3∧R e1 e2 e3)(k:P0->(e1:ai)->(e2:aq)->(e3:ay)->P4 e1 e2 e3->P5 e1 e2 e3->R e1 e2 e3->r):r:=by
 obtain ⟨v0,v1,v2,v3,v4,v5,v6⟩:=h
 exact k v0 v1 v2 v3 v4 v5 v6
theorem xE.{u1}{ai:Sort u1}{R:ai->Prop}{r:Prop}(h:∃e1:ai,R e1)(k:(e1:ai)->R e1->r):r:=by
 obtain ⟨v0,v1⟩:=h
 exact k v0 v1
theorem ah.{u1}{ai:Sort u1}{P1:ai->Prop}{R:ai->Prop}{r:Prop}(h:∃e1:ai,P1 e1∧R e1)(k:(e1:ai)->P1 e1->R e1->r):r:=by
 obtain ⟨v0,v1,v2⟩:=h
 exact k v0 v1 v2
theorem cQ.{u1}{ai:Sort u1}{P1:ai->Prop}{P2:ai->Prop}{R:ai->Prop}{r:Prop}(h:∃e1:ai,P1 e1∧P2 e1∧R e1)(k:(e1:ai)->P1 e1->P2 e1->R e1->r):r:=by
 obtain ⟨v0,v1,v2,v3⟩:=h
 exact k v0 v1 v2 v3
theorem j4.{u1}{ai:Sort u1}{P1:ai->Prop}{P2:ai->Prop}{P3:ai->Prop}{R:ai->Prop}{r:Prop}(h:∃e1:ai,P1 e1∧P2 e1∧P3 e1∧R e1)(k:(e1:ai)->P1 e1->P2 e1->P3 e1->R e1->r):r:=by
 obtain ⟨v0,v1,v2,v3,v4⟩:=h
 exact k v0 v1 v2 v3 v4
theorem xEAAAA.{u1}{ai:Sort u1}{P1:ai->Prop}{P2:ai->Prop}{P3:ai->Prop}{P4:ai->Prop}{R:ai->Prop}{r:Prop}(h:∃e1:ai,P1 e1∧P2 e1∧P3 e1∧P4 e1∧R e1)(k:(e1:ai)->P1 e1->P2 e1->P3 e1->P4 e1->R e1->r):r:=by
 obtain ⟨v0,v1,v2,v3,v4,v5⟩:=h
 exact k v0 v1 v2 v3 v4 v5
theorem Mr.{u1}{ai:Sort u1}{P1:ai->Prop}{P2:ai->Prop}{P3:ai->Prop}{P4:ai->Prop}{P5:ai->Prop}{R:ai->Prop}{r:Prop}(h:∃e1:ai,P1 e1∧P2 e1∧P3 e1∧P4 e1∧P5 e1∧R e1)(k:(e1:ai)->P1 e1->P2 e1->P3 e1->P4 e1->P5 e1->R e1->r):r:=by
 obtain ⟨v0,v1,v2,v3,v4,v5,v6⟩:=h
 exact k v0 v1 v2 v3 v4 v5 v6
theorem pS.{u1}{ai:Sort u1}{P1:ai->Prop}{P2:ai->Prop}{P3:ai->Prop}{P4:ai->Prop}{P5:ai->Prop}{P6:ai->Prop}{R:ai->Prop}{r:Prop}(h:∃e1:ai,P1 e1∧P2 e1∧P3 e1∧P4 e1∧P5 e1∧P6 e1∧R e1)(k:(e1:ai)->P1 e1->P2 e1->P3 e1->P4 e1->P5 e1->P6 e1->R e1->r):r:=by
 obtain ⟨v0,v1,v2,v3,v4,v5,v6,v7⟩:=h
 exact k v0 v1 v2 v3 v4 v5 v6 v7
theorem Ms.{u1,u2,u3}{ai:Sort u1}{aq:Sort u2}{ay:Sort u3}{P1:ai->Prop}{P2:ai->Prop}{P3:ai->Prop}{P6:ai->aq->ay->Prop}{P7:ai->aq->ay->Prop}{R:ai->aq->ay->Prop}{r:Prop}(h:∃e1:ai,P1 e1∧P2 e1∧P3 e1∧∃e2:aq,∃e3:ay,P6 e1 e2 e3∧P7 e1 e2 e3∧R e1 e2 e3)(k:(e1:ai)->P1 e1->P2 e1->P3 e1->(e2:aq)->(e3:ay)->P6 e1 e2 e3->P7 e1 e2 e3->R e1 e2 e3->r):r:=by
 obtain ⟨v0,v1,v2,v3,v4,v5,v6,v7,v8⟩:=h
 exact k v0 v1 v2 v3 v4 v5 v6 v7 v8
theorem An.{u1,u2}{ai:Sort u1}{aq:Sort u2}{P1:ai->Prop}{R:ai->aq->Prop}{r:Prop}(h:∃e1:ai,P1 e1∧∃e2:aq,R e1 e2)(k:(e1:ai)->P1 e1->(e2:aq)->R e1 e2->r):r:=by
 obtain ⟨v0,v1,v2,v3⟩:=h
 exact k v0 v1 v2 v3
theorem tZ.{u1,u2,u3}{ai:Sort u1}{aq:Sort u2}{ay:Sort u3}{P1:ai->Prop}{R:ai->aq->ay->Prop}{r:Prop}(h:∃e1:ai,P1 e1∧∃e2:aq,∃e3:ay,R e1 e2 e3)(k:(e1:ai)->P1 e1->(e2:aq)->(e3:ay)->R e1 e2 e3->r):r:=by
 obtain ⟨v0,v1,v2,v3,v4⟩:=h
 exact k v0 v1 v2 v3 v4
theorem D9.{u1,u2,u3}{ai:Sort u1}{aq:Sort u2}{ay:Sort u3}{P1:ai->Prop}{P4:ai->aq->ay->Prop}{P5:ai->aq->ay->Prop}{R:ai->aq->ay->Prop}{r:Prop}(h:∃e1:ai,P1 e1∧∃e2:aq,∃e3:ay,P4 e1 e2 e3∧P5 e1 e2 e3∧R e1 e2 e3)(k:(e1:ai)->P1 e1->(e2:aq)->(e3:ay)->P4 e1 e2 e3->P5 e1 e2 e3->R e1 e2 e3->r):r:=by
 obtain ⟨v0,v1,v2,v3,v4,v5,v6⟩:=h
 exact k v0 v1 v2 v3 v4 v5 v6
theorem Mt.{u1,u2,u3,u4}{ai:Sort u1}{aq:Sort u2}{ay:Sort u3}{aG:Sort u4}{P1:ai->Prop}{R:ai->aq->ay->aG->Prop}{r:Prop}(h:∃e1:ai,P1 e1∧∃e2:aq,∃e3:ay,∃e4:aG,R e1 e2 e3 e4)(k:(e1:ai)->P1 e1->(e2:aq)->(e3:ay)->(e4:aG)->R e1 e2 e3 e4->r):r:=by
 obtain ⟨v0,v1,v2,v3,v4,v5⟩:=h
 exact k v0 v1 v2 v3 v4 v5
theorem n6.{u1,u2}{ai:Sort u1}{aq:Sort u2}{R:ai->aq->Prop}{r:Prop}(h:∃e1:ai,∃e2:aq,R e1 e2)(k:(e1:ai)->(e2:aq)->R e1 e2->r):r:=by
 obtain ⟨v0,v1,v2⟩:=h
 exact k v0 v1 v2
theorem Ea.{u1,u2}{ai:Sort u1}{aq:Sort u2}{P2:ai->aq->Prop}{R:ai->aq->Prop}{r:Prop}(h:∃e1:ai,∃e2:aq,P2 e1 e2∧R e1 e2)(k:(e1:ai)->(e2:aq)->P2 e1 e2->R e1 e2->r):r:=by
 obtain ⟨v0,v1,v2,v3⟩:=h
 exact k v0 v1 v2 v3
theorem eX.{u1,u2}{ai:Sort u1}{aq:Sort u2}{P2:ai->aq->Prop}{P3:ai->aq->Prop}{R:ai->aq->Prop}{r:Prop}(h:∃e1:ai,∃e2:aq,P2 e1 e2∧P3 e1 e2∧R e1 e2)(k:(e1:ai)->(e2:aq)->P2 e1 e2->P3 e1 e2->R e1 e2->r):r:=by
 obtain ⟨v0,v1,v2,v3,v4⟩:=h
 exact k v0 v1 v2 v3 v4
theorem rB.{u1,u2}{ai:Sort u1}{aq:Sort u2}{P2:ai->aq->Prop}{P3:ai->aq->Prop}{P4:ai->aq->Prop}{R:ai->aq->Prop}{r:Prop}(h:∃e1:ai,∃e2:aq,P2 e1 e2∧P3 e1 e2∧P4 e1 e2∧R e1 e2)(k:(e1:ai)->(e2:aq)->P2 e1 e2->P3 e1 e2->P4 e1 e2->R e1 e2->r):r:=by
 obtain ⟨v0,v1,v2,v3,v4,v5⟩:=h
 exact k v0 v1 v2 v3 v4 v5
theorem xEEAAAA.{u1,u2}{ai:Sort u1}{aq:Sort u2}{P2:ai->aq->Prop}{P3:ai->aq->Prop}{P4:ai->aq->Prop}{P5:ai->aq->Prop}{R:ai->aq->Prop}{r:Prop}(h:∃e1:ai,∃e2:aq,P2 e1 e2∧P3 e1 e2∧P4 e1 e2∧P5 e1 e2∧R e1 e2)(k:(e1:ai)->(e2:aq)->P2 e1 e2->P3 e1 e2->P4 e1 e2->P5 e1 e2->R e1 e2->r):r:=by
 obtain ⟨v0,v1,v2,v3,v4,v5,v6⟩:=h
 exact k v0 v1 v2 v3 v4 v5 v6
theorem xEEAAAAA.{u1,u2}{ai:Sort u1}{aq:Sort u2}{P2:ai->aq->Prop}{P3:ai->aq->Prop}{P4:ai->aq->Prop}{P5:ai->aq->Prop}{P6:ai->aq->Prop}{R:ai->aq->Prop}{r:Prop}(h:∃e1:ai,∃e2:aq,P2 e1 e2∧P3 e1 e2∧P4 e1 e2∧P5 e1 e2∧P6 e1 e2∧R e1 e2)(k:(e1:ai)->(e2:aq)->P2 e1 e2->P3 e1 e2->P4 e1 e2->P5 e1 e2->P6 e1 e2->R e1 e2->r):r:=by
 obtain ⟨v0,v1,v2,v3,v4,v5,v6,v7⟩:=h
 exact k v0 v1 v2 v3 v4 v5 v6 v7
theorem cE.{u1,u2,u3}{ai:Sort u1}{aq:Sort u2}{ay:Sort u3}{P3:ai->aq->ay->Prop}{R:ai->aq->ay->Prop}{r:Prop}(h:∃e1:ai,∃e2:aq,∃e3:ay,P3 e1 e2 e3∧R e1 e2 e3)(k:(e1:ai)->(e2:aq)->(e3:ay)->P3 e1 e2 e3->R e1 e2 e3->r):r:=by
 obtain ⟨v0,v1,v2,v3,v4⟩:=h
 exact k v0 v1 v2 v3 v4
theorem wX.{u1,u2,u3}{ai:Sort u1}{aq:Sort u2}{ay:Sort u3}{P3:ai->aq->ay->Prop}{P4:ai->aq->ay->Prop}{R:ai->aq->ay->Prop}{r:Prop}(h:∃e1:ai,∃e2:aq,∃e3:ay,P3 e1 e2 e3∧P4 e1 e2 e3∧R e1 e2 e3)(k:(e1:ai)->(e2:aq)->(e3:ay)->P3 e1 e2 e3->P4 e1 e2 e3->R e1 e2 e3->r):r:=by
 obtain ⟨v0,v1,v2,v3,v4,v5⟩:=h
 exact k v0 v1 v2 v3 v4 v5
theorem Ao.{u1,u2,u3}{ai:Sort u1}{aq:Sort u2}{ay:Sort u3}{P3:ai->aq->ay->Prop}{P4:ai->aq->ay->Prop}{P5:ai->aq->ay->Prop}{R:ai->aq->ay->Prop}{r:Prop}(h:∃e1:ai,∃e2:aq,∃e3:ay,P3 e1 e2 e3∧P4 e1 e2 e3∧P5 e1 e2 e3∧R e1 e2 e3)(k:(e1:ai)->(e2:aq)->(e3:ay)->P3 e1 e2 e3->P4 e1 e2 e3->P5 e1 e2 e3->R e1 e2 e3->r):r:=by
 obtain ⟨v0,v1,v2,v3,v4,v5,v6⟩:=h
 exact k v0 v1 v2 v3 v4 v5 v6
theorem Aq.{u1,u2,u3}{ai:Sort u1}{aq:Sort u2}{ay:Sort u3}{P3:ai->aq->ay->Prop}{P4:ai->aq->ay->Prop}{P5:ai->aq->ay->Prop}{P6:ai->aq->ay->Prop}{R:ai->aq->ay->Prop}{r:Prop}(h:∃e1:ai,∃e2:aq,∃e3:ay,P3 e1 e2 e3∧P4 e1 e2 e3∧P5 e1 e2 e3∧P6 e1 e2 e3∧R e1 e2 e3)(k:(e1:ai)->(e2:aq)->(e3:ay)->P3 e1 e2 e3->P4 e1 e2 e3->P5 e1 e2 e3->P6 e1 e2 e3->R e1 e2 e3->r):r:=by
 obtain ⟨v0,v1,v2,v3,v4,v5,v6,v7⟩:=h
 exact k v0 v1 v2 v3 v4 v5 v6 v7
theorem xEEEAAAAAA.{u1,u2,u3}{ai:Sort u1}{aq:Sort u2}{ay:Sort u3}{P3:ai->aq->ay->Prop}{P4:ai->aq->ay->Prop}{P5:ai->aq->ay->Prop}{P6:ai->aq->ay->Prop}{P7:ai->aq->ay->Prop}{P8:ai->aq->ay->Prop}{R:ai->aq->ay->Prop}{r:Prop}(h:∃e1:ai,∃e2:aq,∃e3:ay,P3 e1 e2 e3∧P4 e1 e2 e3∧P5 e1 e2 e3∧P6 e1 e2 e3∧P7 e1 e2 e3∧P8 e1 e2 e3∧R e1 e2 e3)(k:(e1:ai)->(e2:aq)->(e3:ay)->P3 e1 e2 e3->P4 e1 e2 e3->P5 e1 e2 e3->P6 e1 e2 e3->P7 e1 e2 e3->P8 e1 e2 e3->R e1 e2 e3->r):r:=by
 obtain ⟨v0,v1,v2,v3,v4,v5,v6,v7,v8,v9⟩:=h
 exact k v0 v1 v2 v3 v4 v5 v6 v7 v8 v9
theorem i9.{u1,u2,u3,u4}{ai:Sort u1}{aq:Sort u2}{ay:Sort u3}{aG:Sort u4}{P4:ai->aq->ay->aG->Prop}{P5:ai->aq->ay->aG->Prop}{R:ai->aq->ay->aG->Prop}{r:Prop}(h:∃e1:ai,∃e2:aq,∃e3:ay,∃e4:aG,P4 e1 e2 e3 e4∧P5 e1 e2 e3 e4∧R e1 e2 e3 e4)(k:(e1:ai)->(e2:aq)->(e3:ay)->(e4:aG)->P4 e1 e2 e3 e4->P5 e1 e2 e3 e4->R e1 e2 e3 e4->r):r:=by
 obtain ⟨v0,v1,v2,v3,v4,v5,v6⟩:=h
 exact k v0 v1 v2 v3 v4 v5 v6
theorem Ar.{u1,u2,u3,u4}{ai:Sort u1}{aq:Sort u2}{ay:Sort u3}{aG:Sort u4}{P4:ai->aq->ay->aG->Prop}{P5:ai->aq->ay->aG->Prop}{P6:ai->aq->ay->aG->Prop}{R:ai->aq->ay->aG->Prop}{r:Prop}(h:∃e1:ai,∃e2:aq,∃e3:ay,∃e4:aG,P4 e1 e2 e3 e4∧P5 e1 e2 e3 e4∧P6 e1 e2 e3 e4∧R e1 e2 e3 e4)(k:(e1:ai)->(e2:aq)->(e3:ay)->(e4:aG)->P4 e1 e2 e3 e4->P5 e1 e2 e3 e4->P6 e1 e2 e3 e4->R e1 e2 e3 e4->r):r:=by
 obtain ⟨v0,v1,v2,v3,v4,v5,v6,v7⟩:=h
 exact k v0 v1 v2 v3 v4 v5 v6 v7
theorem Eb.{u1,u2,u3,u4}{ai:Sort u1}{aq:Sort u2}{ay:Sort u3}{aG:Sort u4}{P4:ai->aq->ay->aG->Prop}{P5:ai->aq->ay->aG->Prop}{P6:ai->aq->ay->aG->Prop}{P7:ai->aq->ay->aG->Prop}{P8:ai->aq->ay->aG->Prop}{R:ai->aq->ay->aG->Prop}{r:Prop}(h:∃e1:ai,∃e2:aq,∃e3:ay,∃e4:aG,P4 e1 e2 e3 e4∧P5 e1 e2 e3 e4∧P6 e1 e2 e3 e4∧P7 e1 e2 e3 e4∧P8 e1 e2 e3 e4∧R e1 e2 e3 e4)(k:(e1:ai)->(e2:aq)->(e3:ay)->(e4:aG)->P4 e1 e2 e3 e4->P5 e1 e2 e3 e4->P6 e1 e2 e3 e4->P7 e1 e2 e3 e4->P8 e1 e2 e3 e4->R e1 e2 e3 e4->r):r:=by
 obtain ⟨v0,v1,v2,v3,v4,v5,v6,v7,v8,v9⟩:=h
 exact k v0 v1 v2 v3 v4 v5 v6 v7 v8 v9
theorem xEEEEAAAAAA.{u1,u2,u3,u4}{ai:Sort u1}{aq:Sort u2}{ay:Sort u3}{aG:Sort u4}{P4:ai->aq->ay->aG->Prop}{P5:ai->aq->ay->aG->Prop}{P6:ai->aq->ay->aG->Prop}{P7:ai->aq->ay->aG->Prop}{P8:ai->aq->ay->aG->Prop}{P9:ai->aq->ay->aG->Prop}{R:ai->aq->ay->aG->Prop}{r:Prop}(h:∃e1:ai,∃e2:aq,∃e3:ay,∃e4:aG,P4 e1 e2 e3 e4∧P5 e1 e2 e3 e4∧P6 e1 e2 e3 e4∧P7 e1 e2 e3 e4∧P8 e1 e2 e3 e4∧P9 e1 e2 e3 e4∧R e1 e2 e3 e4)(k:(e1:ai)->(e2:aq)->(e3:ay)->(e4:aG)->P4 e1 e2 e3 e4->P5 e1 e2 e3 e4->P6 e1 e2 e3 e4->P7 e1 e2 e3 e4->P8 e1 e2 e3 e4->P9 e1 e2 e3 e4->R e1 e2 e3 e4->r):r:=by
 obtain ⟨v0,v1,v2,v3,v4,v5,v6,v7,v8,v9,v10⟩:=h
 exact k v0 v1 v2 v3 v4 v5 v6 v7 v8 v9 v10
theorem Mu.{u1,u2,u3,u4,u5}{ai:Sort u1}{aq:Sort u2}{ay:Sort u3}{aG:Sort u4}{aY:Sort u5}{P5:ai->aq->ay->aG->aY->Prop}{P6:ai->aq->ay->aG->aY->Prop}{P7:ai->aq->ay->aG->aY->Prop}{R:ai->aq->ay->aG->aY->Prop}{r:Prop}(h:∃e1:ai,∃e2:aq,∃e3:ay,∃e4:aG,∃e5:aY,P5 e1 e2 e3 e4 e5∧P6 e1 e2 e3 e4 e5∧P7 e1 e2 e3 e4 e5∧R e1 e2 e3 e4 e5)(k:(e1:ai)->(e2:aq)->(e3:ay)->(e4:aG)->(e5:aY)->P5 e1 e2 e3 e4 e5->P6 e1 e2 e3 e4 e5->P7 e1 e2 e3 e4 e5->R e1 e2 e3 e4 e5->r):r:=by
 obtain ⟨v0,v1,v2,v3,v4,v5,v6,v7,v8⟩:=h
 exact k v0 v1 v2 v3 v4 v5 v6 v7 v8
theorem Mv.{u1,u2,u3,u4,u5}{ai:Sort u1}{aq:Sort u2}{ay:Sort u3}{aG:Sort u4}{aY:Sort u5}{P5:ai->aq->ay->aG->aY->Prop}{P6:ai->aq->ay->aG->aY->Prop}{P7:ai->aq->ay->aG->aY->Prop}{P8:ai->aq->ay->aG->aY->Prop}{R:ai->aq->ay->aG->aY->Prop}{r:Prop}(h:∃e1:ai,∃e2:aq,∃e3:ay,∃e4:aG,∃e5:aY,P5 e1 e2 e3 e4 e5∧P6 e1 e2 e3 e4 e5∧P7 e1 e2 e3 e4 e5∧P8 e1 e2 e3 e4 e5∧R e1 e2 e3 e4 e5)(k:(e1:ai)->(e2:aq)->(e3:ay)->(e4:aG)->(e5:aY)->P5 e1 e2 e3 e4 e5->P6 e1 e2 e3 e4 e5->P7 e1 e2 e3 e4 e5->P8 e1 e2 e3 e4 e5->R e1 e2 e3 e4 e5->r):r:=by
 obtain ⟨v0,v1,v2,v3,v4,v5,v6,v7,v8,v9⟩:=h
 exact k v0 v1 v2 v3 v4 v5 v6 v7 v8 v9
theorem Mw.{u1,u2,u3,u4,u5}{ai:Sort u1}{aq:Sort u2}{ay:Sort u3}{aG:Sort u4}{aY:Sort u5}{P5:ai->aq->ay->aG->aY->Prop}{P6:ai->aq->ay->aG->aY->Prop}{P7:ai->aq->ay->aG->aY->Prop}{P8:ai->aq->ay->aG->aY->Prop}{P9:ai->aq->ay->aG->aY->Prop}{R:ai->aq->ay->aG->aY->Prop}{r:Prop}(h:∃e1:ai,∃e2:aq,∃e3:ay,∃e4:aG,∃e5:aY,P5 e1 e2 e3 e4 e5∧P6 e1 e2 e3 e4 e5∧P7 e1 e2 e3 e4 e5∧P8 e1 e2 e3 e4 e5∧P9 e1 e2 e3 e4 e5∧R e1 e2 e3 e4 e5)(k:(e1:ai)->(e2:aq)->(e3:ay)->(e4:aG)->(e5:aY)->P5 e1 e2 e3 e4 e5->P6 e1 e2 e3 e4 e5->P7 e1 e2 e3 e4 e5->P8 e1 e2 e3 e4 e5->P9 e1 e2 e3 e4 e5->R e1 e2 e3 e4 e5->r):r:=by
 obtain ⟨v0,v1,v2,v3,v4,v5,v6,v7,v8,v9,v10⟩:=h
 exact k v0 v1 v2 v3 v4 v5 v6 v7 v8 v9 v10
theorem Mx.{u1,u2,u3,u4,u5,u6}{ai:Sort u1}{aq:Sort u2}{ay:Sort u3}{aG:Sort u4}{aY:Sort u5}{bG:Sort u6}{P6:ai->aq->ay->aG->aY->bG->Prop}{P7:ai->aq->ay->aG->aY->bG->Prop}{R:ai->aq->ay->aG->aY->bG->Prop}{r:Prop}(h:∃e1:ai,∃e2:aq,∃e3:ay,∃e4:aG,∃e5:aY,∃e6:bG,P6 e1 e2 e3 e4 e5 e6∧P7 e1 e2 e3 e4 e5 e6∧R e1 e2 e3 e4 e5 e6)(k:(e1:ai)->(e2:aq)->(e3:ay)->(e4:aG)->(e5:aY)->(e6:bG)->P6 e1 e2 e3 e4 e5 e6->P7 e1 e2 e3 e4 e5 e6->R e1 e2 e3 e4 e5 e6->r):r:=by
 obtain ⟨v0,v1,v2,v3,v4,v5,v6,v7,v8⟩:=h
 exact k v0 v1 v2 v3 v4 v5 v6 v7 v8
theorem My.{u1,u2,u3,u4,u5,u6}{ai:Sort u1}{aq:Sort u2}{ay:Sort u3}{aG:Sort u4}{aY:Sort u5}{bG:Sort u6}{P6:ai->aq->ay->aG->aY->bG->Prop}{P7:ai->aq->ay->aG->aY->bG->Prop}{P8:ai->aq->ay->aG->aY->bG->Prop}{P9:ai->aq->ay->aG->aY->bG->Prop}{R:ai->aq->ay->aG->aY->bG->Prop}{r:Prop}(h:∃e1:ai,∃e2:aq,∃e3:ay,∃e4:aG,∃e5:aY,∃e6:bG,P6 e1 e2 e3 e4 e5 e6∧P7 e1 e2 e3 e4 e5 e6∧P8 e1 e2 e3 e4 e5 e6∧P9 e1 e2 e3 e4 e5 e6∧R e1 e2 e3 e4 e5 e6)(k:(e1:ai)->(e2:aq)->(e3:ay)->(e4:aG)->(e5:aY)->(e6:bG)->P6 e1 e2 e3 e4 e5 e6->P7 e1 e2 e3 e4 e5 e6->P8 e1 e2 e3 e4 e5 e6->P9 e1 e2 e3 e4 e5 e6->R e1 e2 e3 e4 e5 e6->r):r:=by
 obtain ⟨v0,v1,v2,v3,v4,v5,v6,v7,v8,v9,v10⟩:=h
 exact k v0 v1 v2 v3 v4 v5 v6 v7 v8 v9 v10
theorem xEEEEEEAAAAA.{u1,u2,u3,u4,u5,u6}{ai:Sort u1}{aq:Sort u2}{ay:Sort u3}{aG:Sort u4}{aY:Sort u5}{bG:Sort u6}{P6:ai->aq->ay->aG->aY->bG->Prop}{P7:ai->aq->ay->aG->aY->bG->Prop}{P8:ai->aq->ay->aG->aY->bG->Prop}{P9:ai->aq->ay->aG->aY->bG->Prop}{ou:ai->aq->ay->aG->aY->bG->Prop}{R:ai->aq->ay->aG->aY->bG->Prop}{r:Prop}(h:∃e1:ai,∃e2:aq,∃e3:ay,∃e4:aG,∃e5:aY,∃e6:bG,P6 e1 e2 e3 e4 e5 e6∧P7 e1 e2 e3 e4 e5 e6∧P8 e1 e2 e3 e4 e5 e6∧P9 e1 e2 e3 e4 e5 e6∧ou e1 e2 e3 e4 e5 e6∧R e1 e2 e3 e4 e5 e6)(k:(e1:ai)->(e2:aq)->(e3:ay)->(e4:aG)->(e5:aY)->(e6:bG)->P6 e1 e2 e3 e4 e5 e6->P7 e1 e2 e3 e4 e5 e6->P8 e1 e2 e3 e4 e5 e6->P9 e1 e2 e3 e4 e5 e6->ou e1 e2 e3 e4 e5 e6->R e1 e2 e3 e4 e5 e6->r):r:=by
 obtain ⟨v0,v1,v2,v3,v4,v5,v6,v7,v8,v9,v10,v11⟩:=h
 exact k v0 v1 v2 v3 v4 v5 v6 v7 v8 v9 v10 v11
theorem wY.{u1,u2,u3,u4,u5,u6,u7}{ai:Sort u1}{aq:Sort u2}{ay:Sort u3}{aG:Sort u4}{aY:Sort u5}{bG:Sort u6}{cR:Sort u7}{P7:ai->aq->ay->aG->aY->bG->cR->Prop}{R:ai->aq->ay->aG->aY->bG->cR->Prop}{r:Prop}(h:∃e1:ai,∃e2:aq,∃e3:ay,∃e4:aG,∃e5:aY,∃e6:bG,∃e7:cR,P7 e1 e2 e3 e4 e5 e6 e7∧R e1 e2 e3 e4 e5 e6 e7)(k:(e1:ai)->(e2:aq)->(e3:ay)->(e4:aG)->(e5:aY)->(e6:bG)->(e7:cR)->P7 e1 e2 e3 e4 e5 e6 e7->R e1 e2 e3 e4 e5 e6 e7->r):r:=by
 obtain ⟨v0,v1,v2,v3,v4,v5,v6,v7,v8⟩:=h
 exact k v0 v1 v2 v3 v4 v5 v6 v7 v8
theorem ua.{u1,u2,u3,u4,u5,u6,u7}{ai:Sort u1}{aq:Sort u2}{ay:Sort u3}{aG:Sort u4}{aY:Sort u5}{bG:Sort u6}{cR:Sort u7}{P7:ai->aq->ay->aG->aY->bG->cR->Prop}{P8:ai->aq->ay->aG->aY->bG->cR->Prop}{R:ai->aq->ay->aG->aY->bG->cR->Prop}{r:Prop}(h:∃e1:ai,∃e2:aq,∃e3:ay,∃e4:aG,∃e5:aY,∃e6:bG,∃e7:cR,P7 e1 e2 e3 e4 e5 e6 e7∧P8 e1 e2 e3 e4 e5 e6 e7∧R e1 e2 e3 e4 e5 e6 e7)(k:(e1:ai)->(e2:aq)->(e3:ay)->(e4:aG)->(e5:aY)->(e6:bG)->(e7:cR)->P7 e1 e2 e3 e4 e5 e6 e7->P8 e1 e2 e3 e4 e5 e6 e7->R e1 e2 e3 e4 e5 e6 e7->r):r:=by
 obtain ⟨v0,v1,v2,v3,v4,v5,v6,v7,v8,v9⟩:=h
 exact k v0 v1 v2 v3 v4 v5 v6 v7 v8 v9
theorem Mz.{u1,u2,u3,u4,u5,u6,u7}{ai:Sort u1}{aq:Sort u2}{ay:Sort u3}{aG:Sort u4}{aY:Sort u5}{bG:Sort u6}{cR:Sort u7}{P7:ai->aq->ay->aG->aY->bG->cR->Prop}{P8:ai->aq->ay->aG->aY->bG->cR->Prop}{P9:ai->aq->ay->aG->aY->bG->cR->Prop}{ou:ai->aq->ay->aG->aY->bG->cR->Prop}{EL:ai->aq->ay->aG->aY->bG->cR->Prop}{R:ai->aq->ay->aG->aY->bG->cR->Prop}{r:Prop}(h:∃e1:ai,∃e2:aq,∃e3:ay,∃e4:aG,∃e5:aY,∃e6:bG,∃e7:cR,P7 e1 e2 e3 e4 e5 e6 e7∧P8 e1 e2 e3 e4 e5 e6 e7∧P9 e1 e2 e3 e4 e5 e6 e7∧ou e1 e2 e3 e4 e5 e6 e7∧EL e1 e2 e3 e4 e5 e6 e7∧R e1 e2 e3 e4 e5 e6 e7)(k:(e1:ai)->(e2:aq)->(e3:ay)->(e4:aG)->(e5:aY)->(e6:bG)->(e7:cR)->P7 e1 e2 e3 e4 e5 e6 e7->P8 e1 e2 e3 e4 e5 e6 e7->P9 e1 e2 e3 e4 e5 e6 e7->ou e1 e2 e3 e4 e5 e6 e7->EL e1 e2 e3 e4 e5 e6 e7->R e1 e2 e3 e4 e5 e6 e7->r):r:=by
 obtain ⟨v0,v1,v2,v3,v4,v5,v6,v7,v8,v9,v10,v11,v12⟩:=h
 exact k v0 v1 v2 v3 v4 v5 v6 v7 v8 v9 v10 v11 v12
theorem wZ.{u1,u2,u3,u4,u5,u6,u7,u8}{ai:Sort u1}{aq:Sort u2}{ay:Sort u3}{aG:Sort u4}{aY:Sort u5}{bG:Sort u6}{cR:Sort u7}{jn:Sort u8}{R:ai->aq->ay->aG->aY->bG->cR->jn->Prop}{r:Prop}(h:∃e1:ai,∃e2:aq,∃e3:ay,∃e4:aG,∃e5:aY,∃e6:bG,∃e7:cR,∃e8:jn,R e1 e2 e3 e4 e5 e6 e7 e8)(k:(e1:ai)->(e2:aq)->(e3:ay)->(e4:aG)->(e5:aY)->(e6:bG)->(e7:cR)->(e8:jn)->R e1 e2 e3 e4 e5 e6 e7 e8->r):r:=by
 obtain ⟨v0,v1,v2,v3,v4,v5,v6,v7,v8⟩:=h
 exact k v0 v1 v2 v3 v4 v5 v6 v7 v8
theorem xEEEEEEEEAAA.{u1,u2,u3,u4,u5,u6,u7,u8}{ai:Sort u1}{aq:Sort u2}{ay:Sort u3}{aG:Sort u4}{aY:Sort u5}{bG:Sort u6}{cR:Sort u7}{jn:Sort u8}{P8:ai->aq->ay->aG->aY->bG->cR->jn->Prop}{P9:ai->aq->ay->aG->aY->bG->cR->jn->Prop}{ou:ai->aq->ay->aG->aY->bG->cR->jn->Prop}{R:ai->aq->ay->aG->aY->bG->cR->jn->Prop}{r:Prop}(h:∃e1:ai,∃e2:aq,∃e3:ay,∃e4:aG,∃e5:aY,∃e6:bG,∃e7:cR,∃e8:jn,P8 e1 e2 e3 e4 e5 e6 e7 e8∧P9 e1 e2 e3 e4 e5 e6 e7 e8∧ou e1 e2 e3 e4 e5 e6 e7 e8∧R e1 e2 e3 e4 e5 e6 e7 e8)(k:(e1:ai)->(e2:aq)->(e3:ay)->(e4:aG)->(e5:aY)->(e6:bG)->(e7:cR)->(e8:jn)->P8 e1 e2 e3 e4 e5 e6 e7 e8->P9 e1 e2 e3 e4 e5 e6 e7 e8->ou e1 e2 e3 e4 e5 e6 e7 e8->R e1 e2 e3 e4 e5 e6 e7 e8->r):r:=by
 obtain ⟨v0,v1,v2,v3,v4,v5,v6,v7,v8,v9,v10,v11⟩:=h
 exact k v0 v1 v2 v3 v4 v5 v6 v7 v8 v9 v10 v11
theorem xEEEEEEEEEA.{u1,u2,u3,u4,u5,u6,u7,u8,u9}{ai:Sort u1}{aq:Sort u2}{ay:Sort u3}{aG:Sort u4}{aY:Sort u5}{bG:Sort u6}{cR:Sort u7}{jn:Sort u8}{As:Sort u9}{P9:ai->aq->ay->aG->aY->bG->cR->jn->As->Prop}{R:ai->aq->ay->aG->aY->bG->cR->jn->As->Prop}{r:Prop}(h:∃e1:ai,∃e2:aq,∃e3:ay,∃e4:aG,∃e5:aY,∃e6:bG,∃e7:cR,∃e8:jn,∃e9:As,P9 e1 e2 e3 e4 e5 e6 e7 e8 e9∧R e1 e2 e3 e4 e5 e6 e7 e8 e9)(k:(e1:ai)->(e2:aq)->(e3:ay)->(e4:aG)->(e5:aY)->(e6:bG)->(e7:cR)->(e8:jn)->(e9:As)->P9 e1 e2 e3 e4 e5 e6 e7 e8 e9->R e1 e2 e3 e4 e5 e6 e7 e8 e9->r):r:=by
 obtain ⟨v0,v1,v2,v3,v4,v5,v6,v7,v8,v9,v10⟩:=h
 exact k v0 v1 v2 v3 v4 v5 v6 v7 v8 v9 v10
@[elab_as_elim] theorem aa {α:Sort u}{a b:α}{p:α->Prop}(h:a=b)(k:p b):p a:=h▸k
theorem qT {c:Prop}[Decidable c]{X Y:Prop}(h:c)(k:X):if c then X else Y:=(if_pos h).symm▸k
theorem qS {c:Prop}[Decidable c]{X Y:Prop}(h:¬c)(k:Y):if c then X else Y:=(if_neg h).symm▸k
end
section
structure xN where
 name:Str
 params:Arguments
 body:List Stmt
 scope:Scope
noncomputable def BO:xN:=⟨Str.empty,⟨[],[],none,[],[],none,[]⟩,[],⟨.function,[],false,false,[]⟩⟩
noncomputable def stK:Option Stmt->xN×List Stmt×List Expr
 |some (.FunctionDef n a b _ _ _ sc _ _ _)=>(⟨n,a,b,sc⟩,[],[])
 |some (.ClassDef _ _ _ b _ _ _ _ _ _ _)=>(BO,b,[])
 |some (.Assign _ v _)=>(BO,[],[v])
 |_=>(BO,[],[])
noncomputable def BJ:Expr->List Expr×Int
 | .Call _ a _ _=>(a,0)
 | .List es _=>(es,0)
 | .Constant (.int i) _ _=>([],i)
 |_=>([],0)
noncomputable def aO (i:Nat):xN:=(stK (PySem.Challenge.pw_oy0463_01.main.body[i]?)).1
noncomputable def cJ (ci mi:Nat):xN:=(stK ((stK (PySem.Challenge.pw_oy0463_01.main.body[ci]?)).2.1[mi]?)).1
noncomputable def aS (i:Nat):Array Nat:=(((stK (PySem.Challenge.pw_oy0463_01.main.body[i]?)).2.2.flatMap λv=>((BJ v).1.drop 2).take 1).flatMap λe=>(BJ e).1.map λe=>(BJ e).2.toNat).toArray
end
section
theorem said0:PySem.Challenge.rw_oy0463_01.wellSaid=true:=by decide+kernel
end
section
noncomputable def tR (tb:String->Option Builtin)(p:Program)(w:World)(kE:Nat)(ann:Option Value):Nat->SharedT->Thread->Option SharedT
 |0,_,_=>none
 |n+1,s,t=>match through t with
  |true=>some s
  |false=>match stepOk kE ann t with
   |false=>none
   |true=>match stepT (denote tb) p w s t with
    |some (s',t')=>tR tb p w kE ann n s' t'
    |none=>none
theorem L1:∀{n:Nat} {s s':SharedT} {t:Thread},tR tb p w kE ann n s t=some s'->topRun tb p w kE ann n s.abs t=some s'.abs
 |0,_,_,_,h=>by cases h
 |n+1,s,s',t,h=>by
  unfold tR at h
  unfold topRun
  cases ht:through t with
  |true=>rw[ht] at h;cases h;rfl
  |false=>
   rw[ht] at h
   cases hk:stepOk kE ann t with
   |false=>rw[hk] at h;cases h
   |true=>
    rw[hk] at h
    cases hs:stepT (denote tb) p w s t with
    |none=>rw[hs] at h;cases h
    |some r=>obtain ⟨dU,tT⟩:=r;rw[hs] at h;refine aa (stepT_spec hs) ?_;exact L1 h
noncomputable def Dq (p:Program)(EJ:Heap)(s:Shared):Bool:=staticsOk (importedModules p.main.body) EJ s.heap&&namesBound p s.heap&&gensDone s&&laidKept EJ s.heap
noncomputable def treeOf:List Obj->Nat->BT->BT
 |[],_,t=>t
 |o::r,i,t=>treeOf r (i+1) (t.ins i o)
theorem CV (o:Obj):∀(t:BT) (n:Nat),(∀i<n,(t.get i).isSome=true)->((t.ins n o).get n).isSome=true
 | .nil,n,h=>by
   cases n with
   |zero=>rfl
   |succ n=>exact absurd (h 0 (Nat.succ_pos _)) (by exact Bool.false_ne_true)
 | .node v l r,n,h=>by
   refine aa (BT.ins_node ..) ?_
   by_cases h0:n=0
   ·refine aa (if_pos h0 ..) (aa (BT.get_node ..) (aa (if_pos h0 ..) ?_));rfl
   ·refine aa (if_neg h0) ?_
    by_cases h1:n% 2=1
    ·refine aa (if_pos h1 ..) (aa (BT.get_node ..) (aa (if_neg h0 ..) (aa (if_pos h1 ..) ?_)))
     refine CV o l (n/2) λi hi=>?_
     have:=h (2*i+1) (by exact(ln 0x4008441084219804d584221344008803).1 hi (Eq.refl (n/2)))
     rw[BT.get_node,if_neg (by exact Nat.succ_ne_zero _),if_pos (by simp+arith),show(2*i+1)/2=i by exact(ln 0x884100841080220cc026ac2268402).1 (Eq.refl ((2*i+1)/2))] at this
     exact this
    ·refine aa (if_neg h1 ..) (aa (BT.get_node ..) (aa (if_neg h0 ..) (aa (if_neg h1 ..) ?_)))
     refine CV o r (n/2-1) λi hi=>?_
     have:=h (2*i+2) (by exact(ln 0x1004000004108802000211042108453009ab08442686621a86008c04).1 hi (Eq.refl (n/2-1)) (Eq.refl (n/2)))
     rw[BT.get_node,if_neg (by exact Nat.succ_ne_zero _),if_neg (by simp+arith),show(2*i+2)/2-1=i by simp+arith] at this
     exact this
theorem L2:∀(l pre:List Obj) (t:BT),(∀i<pre.length,t.get i=pre[i]?)->∀i<pre.length+l.length,(treeOf l pre.length t).get i=(pre++l)[i]?
 |[],pre,t,h,i,hi=>by refine aa (List.append_nil ..) ?_;exact h i (by simpa using hi)
 |o::r,pre,t,h,i,hi=>by
  have hs:=CV o t pre.length λj hj=>by refine aa (h j hj) (aa (List.getElem?_eq_getElem hj) ?_);rfl
  have:=L2 r (pre++[o]) (t.ins pre.length o) (λj hj=>by
   refine aa (BT.get_ins o t pre.length hs ..) ?_
   rw[List.length_append,List.length_singleton] at hj
   by_cases e:j=pre.length
   ·subst e;refine aa (if_pos rfl ..) (aa (List.getElem?_append_right (Nat.le_refl _) ..) (aa (Nat.sub_self ..) ?_));rfl
   ·exact aa (if_neg e) (aa (h j (by exact tD hj e)) (aa (List.getElem?_append_left (by lia)) rfl))) i (by refine aa List.length_append (aa List.length_singleton ?_);rw[List.length_cons] at hi;exact(ln 0x8441088330ad60086625856008403).1 hi)
  rw[List.length_append,List.length_singleton,List.append_assoc] at this
  exact this
theorem treeOf_abs (h:Heap):absHeap (treeOf h.objs.toList 0 .nil) h.objs.size h.life=h:=by
 have:(absHeap (treeOf h.objs.toList 0 .nil) h.objs.size h.life).objs=h.objs:=by
  apply Array.ext_getElem?
  intro i
  refine aa (absHeap_at ..) ?_
  by_cases hi:i<h.objs.size
  ·refine aa (if_pos hi) ?_
   have:=L2 h.objs.toList [] .nil (λi hi=>absurd hi (Nat.not_lt_zero _)) i (by simpa using hi)
   rw[List.nil_append,Array.getElem?_toList] at this
   have e:(treeOf h.objs.toList 0 .nil).get i=h.objs[i]?:=this
   refine aa e (aa (Array.getElem?_eq_getElem hi) ?_);rfl
  ·exact aa (if_neg hi) (aa (Array.getElem?_eq_none (by exact Nat.le_of_not_lt ‹_›)) rfl)
 exact congrArg (Heap.mk · h.life) this
noncomputable def toT (s:Shared):SharedT:=⟨treeOf s.heap.objs.toList 0 .nil,s.heap.objs.size,s.heap.life,s.gens,s.drawn,s.toks,s.os⟩
theorem LZ (s:Shared):(toT s).abs=s:=by
 show Shared.mk (absHeap (treeOf s.heap.objs.toList 0 .nil) s.heap.objs.size s.heap.life) s.gens s.drawn s.toks s.os=s
 exact aa (treeOf_abs ..) rfl
noncomputable def sW (tb:String->Option Builtin)(p:Program)(w:World):Nat->SharedT->Thread->Option SharedT
 |0,_,_=>none
 |n+1,s,t=>match t.atExitBegin with
  |some []=>some s
  |some (_::_)=>none
  |none=>match stepT (denote tb) p w s t with
   |some (s',t')=>sW tb p w n s' t'
   |none=>none
theorem Jv:∀{n:Nat} {s s':SharedT} {t:Thread},sW tb p w n s t=some s'->importEnds tb p w n s.abs t=some s'.abs
 |0,_,_,_,h=>by cases h
 |n+1,s,s',t,h=>by
  unfold sW at h
  unfold importEnds
  cases ht:t.atExitBegin with
  |some l=>
   cases l with
   |nil=>rw[ht] at h;cases h;rfl
   |cons _ _=>rw[ht] at h;cases h
  |none=>
   rw[ht] at h
   cases hs:stepT (denote tb) p w s t with
   |none=>rw[hs] at h;cases h
   |some r=>obtain ⟨dU,tT⟩:=r;rw[hs] at h;refine aa (stepT_spec hs) ?_;exact Jv h
noncomputable def wU (p:Program)(w:World)(N:Nat):Option (Shared×SharedT):=
 (sW treeTable (opening p) w N (toT (start (opening p)).1) (start (opening p)).2).bind λs=>(fenceModules? p s.abs).bind λnZ=>
  (tR treeTable p w nZ.heap.objs.size (nZ.heap.nsMap mainGlobals "__annotations__") N (toT nZ) (topStub p)).map λcX=>(nZ,cX)
theorem YF
 (run:∀w:World,(wU p w N).map (λr=>(r.1.heap.isNs mainGlobals&&r.1.gens.size==0,Dq p r.1.heap r.2.abs,openSeen q loose (importedModules p.main.body) Xt true r.2.abs,Yf r.2.abs))=some (true,true,openGood q loose,Ya w)):
 LeftO p q loose Xt Yf Ya N:=λw=>by
 obtain ⟨⟨nZ,cX⟩,r0,r1⟩:=Option.map_eq_some_iff.mp (run w)
 unfold wU at r0
 refine ah (Option.bind_eq_some_iff.mp r0) λs i1 i2=>?_
 refine ah (Option.bind_eq_some_iff.mp i2) λDF i3 i4=>?_
 refine ah (Option.map_eq_some_iff.mp i4) λs1' i5 i6=>?_
 refine xA (Prod.mk.inj i6) λzr367 zr368=>?_;subst zr367;subst zr368
 refine iy (show _∧_∧_∧_ from by simpa only [Prod.mk.injEq] using r1) λz1 l1 l2 l3=>?_
 have e1:=Jv i1
 rw[LZ] at e1
 have e2:=L1 i5
 rw[LZ] at e2
 have e:fencedOpening treeTable p w N=some DF:=by unfold fencedOpening;refine aa e1 ?_;exact i3
 have t:topFrom treeTable p w N DF=some s1'.abs:=by
  unfold topFrom
  refine aa z1 (aa e2 ?_)
  show(match Dq p DF.heap s1'.abs with|true=>_|false=>_)=_
  exact aa l1 rfl
 unfold openEnds
 refine aa e ?_
 show(topFrom treeTable p w N DF).map _=_
 refine aa t ?_
 exact congrArg some (Prod.ext l2 l3)
end
section
open PySem.Builtin PySem.Builtin.Re PySem.Sre
set_option genInjectivity true in
inductive Ob where
 |b (x:Bool)|ob (x:Option Bool)|v (x:Option (Option Value))|n (x:Option Nat)|t (x:Option Value)|cd (x:Option Value)
 |fn (x:Option (Str×Str×Arguments×FuncBody×Scope×Addr×List (Str×Addr)×Value×Addr×Bool×Bool))
 |pat (x:Option (Nat×Nat×Array Nat))|bd (x:Addr->Setting->Option (List (Str×Value)))
noncomputable def cY (K:Frag)(f:Addr):Option (Str×Str×Arguments×FuncBody×Scope×Addr×List (Str×Addr)×Value×Addr×Bool×Bool):=match K.lookup f with
 |some ⟨_,_, .func d,_⟩=>some (d.name,d.qualname,d.params,d.body,d.scope,d.globals,d.closure,d.defaults,d.builtins,codeIn K d.code d.qualname,keepIn K (.ref f))
 |_=>none
noncomputable def BL (K:Frag)(f:Addr):Option (Str×Str×Arguments×FuncBody×Scope×Addr×List (Str×Addr)×Value×Addr×Bool×Bool):=match K.lookup f with
 |some ⟨_,_, .func d,_⟩=>some (d.name,d.qualname,d.params,d.body,d.scope,d.globals,d.closure, .none,d.builtins,codeIn K d.code d.qualname,keepIn K (.ref f))
 |_=>none
noncomputable def fT (i:Nat):Option (Str×Str×Arguments×FuncBody×Scope×Addr×List (Str×Addr)×Value×Addr×Bool×Bool):=some ((aO i).name,(aO i).name,(aO i).params, .stmts (aO i).body,(aO i).scope,mainGlobals,[], .none,builtinsNs,true,true)
noncomputable def l6 (i j:Nat)(q:Str):Option (Str×Str×Arguments×FuncBody×Scope×Addr×List (Str×Addr)×Value×Addr×Bool×Bool):=some ((cJ i j).name,q,(cJ i j).params, .stmts (cJ i j).body,(cJ i j).scope,mainGlobals,[], .none,builtinsNs,true,true)
noncomputable def uL (K:Frag)(f:Addr):Option Value:=match K.lookup f with
 |some ⟨_,_, .func d,_⟩=>some d.code
 |_=>none
noncomputable def Bo (K:Frag)(f:Addr)(x:Addr)(S:Setting):Option (List (Str×Value)):=match K.lookup f with
 |some ⟨_,_, .func d,_⟩=>peek K S (bindArgs d ⟨[.ref x],[]⟩)
 |_=>none
noncomputable def nR (K:Frag)(p:Addr):Option (Nat×Nat×Array Nat):=match K.lookup p with
 |some ⟨.type "re.Pattern",none, .fields fs,_⟩=>(match fs.getD 5 .none with
  | .ref t=>(match K.lookup t with
    |some ⟨.type "tuple",_, .seq items _,_⟩=>some (reRawNat (fs.getD 2 .none),reRawNat (fs.getD 6 .none),(items.map reRawOf).map (·.toNat))
    |_=>none)
  |_=>none)
 |_=>none
noncomputable def zD (K:Frag)(x:Str):Option Nat:=match nsIn K mainGlobals x with
 |some (some (.int (.negSucc i) _))=>some (i+1)
 |_=>none
noncomputable def facts (K:Frag):List Ob:=[
.v (nsIn K mainGlobals (Str.ofString "len")),
 .v (nsIn K mainGlobals (Str.ofString "range")),
 .v (nsIn K mainGlobals (Str.ofString "reversed")),
 .v (nsIn K mainGlobals (Str.ofString "isinstance")),
 .v (nsIn K mainGlobals (Str.ofString "str")),
 .v (nsIn K mainGlobals (Str.ofString "sum")),
 .v (nsIn K mainGlobals (Str.ofString "min")),
 .v (nsIn K mainGlobals (Str.ofString "sorted")),
 .v (nsIn K mainGlobals (Str.ofString "tuple")),
 .v (nsIn K mainGlobals (Str.ofString "set")),
 .v (nsIn K mainGlobals (Str.ofString "iter")),
 .v (nsIn K mainGlobals (Str.ofString "bool")),
 .v (nsIn K mainGlobals (Str.ofString "StopIteration")),
 .fn (cY K 45),
 .v (nsIn K mainGlobals (Str.ofString "heappush")),
 .fn (cY K 52),
 .v (nsIn K mainGlobals (Str.ofString "heappop")),
 .fn (cY K 59),
 .v (nsIn K mainGlobals (Str.ofString "heappushpop")),
 .fn (cY K 66),
 .v (nsIn K mainGlobals (Str.ofString "heapify")),
 .fn (cY K 73),
 .v (nsIn K mainGlobals (Str.ofString "_siftdown")),
 .fn (cY K 80),
 .v (nsIn K mainGlobals (Str.ofString "_siftup")),
 .fn (cY K 212),
 .v (nsIn K mainGlobals (Str.ofString "unmatched")),
 .fn (cY K 239),
 .v (nsIn K mainGlobals (Str.ofString "split_header_words")),
 .fn (cY K 256),
 .v (nsIn K mainGlobals (Str.ofString "join_header_words")),
 .fn (cY K 268),
 .v (nsIn K mainGlobals (Str.ofString "is_HDN")),
 .fn (cY K 275),
 .v (nsIn K mainGlobals (Str.ofString "liberal_is_HDN")),
 .fn (cY K 282),
 .v (nsIn K mainGlobals (Str.ofString "user_domain_match")),
 .fn (cY K 289),
 .v (nsIn K mainGlobals (Str.ofString "reach")),
 .fn (cY K 296),
 .v (nsIn K mainGlobals (Str.ofString "_law_host")),
 .fn (cY K 303),
 .v (nsIn K mainGlobals (Str.ofString "_law_ladder")),
 .fn (cY K 308),
 .v (nsIn K mainGlobals (Str.ofString "_law_limits")),
 .fn (cY K 313),
 .v (nsIn K mainGlobals (Str.ofString "_law_greedy")),
 .fn (cY K 320),
 .v (nsIn K mainGlobals (Str.ofString "_law_trimmed")),
 .fn (cY K 325),
 .v (nsIn K mainGlobals (Str.ofString "_law_best")),
 .v (nsIn K mainGlobals (Str.ofString "IPV4_RE")),
 .pat (nR K 261),
 .v (nsIn K mainGlobals (Str.ofString "HEADER_TOKEN_RE")),
 .pat (nR K 217),
 .v (nsIn K mainGlobals (Str.ofString "HEADER_QUOTED_VALUE_RE")),
 .pat (nR K 222),
 .v (nsIn K mainGlobals (Str.ofString "HEADER_ESCAPE_RE")),
 .pat (nR K 232),
 .v (nsIn K mainGlobals (Str.ofString "HEADER_JOIN_TOKEN_RE")),
 .pat (nR K 244),
 .v (nsIn K mainGlobals (Str.ofString "HEADER_JOIN_ESCAPE_RE")),
 .pat (nR K 249),
 .v (nsIn K mainGlobals (Str.ofString "_twin_re_8")),
 .pat (nR K 205),
 .cd (uL K 256),
 .b (codeHdIn K 255 251),
 .cd (uL K 239),
 .b (codeHdIn K 238 234),
 .v (nsIn K mainGlobals (Str.ofString "_NodeInfo")),
 .v (nsIn K mainGlobals (Str.ofString "TopologicalSorter")),
 .n (zD K (Str.ofString "_NODE_OUT")),
 .n (zD K (Str.ofString "_NODE_DONE")),
 .v (findIn K (.ref 99) "__getattribute__"),
 .v (findIn K (.ref 99) "__getattr__"),
 .v (findIn K (.ref 99) "__setattr__"),
 .b (plainOver K 99),
 .b (makesIn K 99),
 .b (keepIn K (.ref 99)),
 .v (findIn K (.ref 196) "__getattribute__"),
 .v (findIn K (.ref 196) "__getattr__"),
 .v (findIn K (.ref 196) "__setattr__"),
 .b (plainOver K 196),
 .b (makesIn K 196),
 .b (keepIn K (.ref 196)),
 .v (findIn K (.ref 99) "__init__"),
 .b (isFn K (.ref 95)),
 .fn (cY K 95),
 .v (findIn K (.ref 99) (Str.ofString "node")),
 .v (specialIn K (.ref 100) "__get__"),
 .ob (takesIn K (.ref 100)),
 .n (slotIn K 100 99),
 .t (typeIn K (.ref 100)),
 .v (takerIn K 99 (Str.ofString "node")),
 .b (clsIn K 99).isSome,
 .v (findIn K (.ref 99) (Str.ofString "npredecessors")),
 .v (specialIn K (.ref 101) "__get__"),
 .ob (takesIn K (.ref 101)),
 .n (slotIn K 101 99),
 .t (typeIn K (.ref 101)),
 .v (takerIn K 99 (Str.ofString "npredecessors")),
 .b (clsIn K 99).isSome,
 .v (findIn K (.ref 99) (Str.ofString "successors")),
 .v (specialIn K (.ref 102) "__get__"),
 .ob (takesIn K (.ref 102)),
 .n (slotIn K 102 99),
 .t (typeIn K (.ref 102)),
 .v (takerIn K 99 (Str.ofString "successors")),
 .b (clsIn K 99).isSome,
 .v (findIn K (.ref 196) "__init__"),
 .b (isFn K (.ref 132)),
 .fn (BL K 132),
 .bd (Bo K 132),
 .b (hasDictIn K 196),
 .v (findIn K (.ref 196) (Str.ofString "_node2info")),
 .b (hasDictIn K 196),
 .v (findIn K (.ref 196) (Str.ofString "_ready_nodes")),
 .b (hasDictIn K 196),
 .v (findIn K (.ref 196) (Str.ofString "_npassedout")),
 .b (hasDictIn K 196),
 .v (findIn K (.ref 196) (Str.ofString "_nfinished")),
 .v (findIn K (.ref 196) (Str.ofString "_get_nodeinfo")),
 .b (isFn K (.ref 139)),
 .fn (cY K 139),
 .v (findIn K (.ref 196) (Str.ofString "add")),
 .b (isFn K (.ref 146)),
 .fn (cY K 146),
 .v (findIn K (.ref 196) (Str.ofString "prepare")),
 .b (isFn K (.ref 151)),
 .fn (cY K 151),
 .v (findIn K (.ref 196) (Str.ofString "get_ready")),
 .b (isFn K (.ref 158)),
 .fn (cY K 158),
 .v (findIn K (.ref 196) (Str.ofString "is_active")),
 .b (isFn K (.ref 165)),
 .fn (cY K 165),
 .v (findIn K (.ref 196) (Str.ofString "done")),
 .b (isFn K (.ref 179)),
 .fn (cY K 179),
 .v (findIn K (.ref 196) (Str.ofString "_find_cycle")),
 .b (isFn K (.ref 186)),
 .fn (cY K 186),
 .b (noTabs K)]
noncomputable def dm:List Ob:=[
.v (some none),
 .v (some none),
 .v (some none),
 .v (some none),
 .v (some none),
 .v (some none),
 .v (some none),
 .v (some none),
 .v (some none),
 .v (some none),
 .v (some none),
 .v (some none),
 .v (some none),
 .fn (fT 3),
 .v (some (some (.ref 45))),
 .fn (fT 4),
 .v (some (some (.ref 52))),
 .fn (fT 5),
 .v (some (some (.ref 59))),
 .fn (fT 6),
 .v (some (some (.ref 66))),
 .fn (fT 7),
 .v (some (some (.ref 73))),
 .fn (fT 8),
 .v (some (some (.ref 80))),
 .fn (fT 17),
 .v (some (some (.ref 212))),
 .fn (fT 22),
 .v (some (some (.ref 239))),
 .fn (fT 25),
 .v (some (some (.ref 256))),
 .fn (fT 27),
 .v (some (some (.ref 268))),
 .fn (fT 28),
 .v (some (some (.ref 275))),
 .fn (fT 29),
 .v (some (some (.ref 282))),
 .fn (fT 30),
 .v (some (some (.ref 289))),
 .fn (fT 32),
 .v (some (some (.ref 296))),
 .fn (fT 33),
 .v (some (some (.ref 303))),
 .fn (fT 34),
 .v (some (some (.ref 308))),
 .fn (fT 35),
 .v (some (some (.ref 313))),
 .fn (fT 36),
 .v (some (some (.ref 320))),
 .fn (fT 37),
 .v (some (some (.ref 325))),
 .v (some (some (.ref 261))),
 .pat (some (0,0,aS 26)),
 .v (some (some (.ref 217))),
 .pat (some (1,0,aS 18)),
 .v (some (some (.ref 222))),
 .pat (some (1,0,aS 19)),
 .v (some (some (.ref 232))),
 .pat (some (1,0,aS 21)),
 .v (some (some (.ref 244))),
 .pat (some (0,0,aS 23)),
 .v (some (some (.ref 249))),
 .pat (some (1,0,aS 24)),
 .v (some (some (.ref 205))),
 .pat (some (0,0,aS 16)),
 .cd (some (.ref 255)),
 .b true,
 .cd (some (.ref 238)),
 .b true,
 .v (some (some (.ref 99))),
 .v (some (some (.ref 196))),
 .n (some 1),
 .n (some 2),
 .v (some (some (.builtin "object.__getattribute__"))),
 .v (some none),
 .v (some (some (.builtin "object.__setattr__"))),
 .b true,
 .b true,
 .b true,
 .v (some (some (.builtin "object.__getattribute__"))),
 .v (some none),
 .v (some (some (.builtin "object.__setattr__"))),
 .b true,
 .b true,
 .b true,
 .v (some (some (.ref 95))),
 .b true,
 .fn (l6 12 1 (Str.ofString "_NodeInfo.__init__")),
 .v (some (some (.ref 100))),
 .v (some (some (.builtin "member_descriptor.__get__"))),
 .ob (some true),
 .n (some 0),
 .t (some (.type "member_descriptor")),
 .v (some (some (.ref 100))),
 .b true,
 .v (some (some (.ref 101))),
 .v (some (some (.builtin "member_descriptor.__get__"))),
 .ob (some true),
 .n (some 1),
 .t (some (.type "member_descriptor")),
 .v (some (some (.ref 101))),
 .b true,
 .v (some (some (.ref 102))),
 .v (some (some (.builtin "member_descriptor.__get__"))),
 .ob (some true),
 .n (some 2),
 .t (some (.type "member_descriptor")),
 .v (some (some (.ref 102))),
 .b true,
 .v (some (some (.ref 132))),
 .b true,
 .fn (l6 14 0 (Str.ofString "TopologicalSorter.__init__")),
 .bd λx S=>some [(Str.ofString "self", .ref x),(Str.ofString "graph", .none)],
 .b true,
 .v (some none),
 .b true,
 .v (some none),
 .b true,
 .v (some none),
 .b true,
 .v (some none),
 .v (some (some (.ref 139))),
 .b true,
 .fn (l6 14 1 (Str.ofString "TopologicalSorter._get_nodeinfo")),
 .v (some (some (.ref 146))),
 .b true,
 .fn (l6 14 2 (Str.ofString "TopologicalSorter.add")),
 .v (some (some (.ref 151))),
 .b true,
 .fn (l6 14 3 (Str.ofString "TopologicalSorter.prepare")),
 .v (some (some (.ref 158))),
 .b true,
 .fn (l6 14 4 (Str.ofString "TopologicalSorter.get_ready")),
 .v (some (some (.ref 165))),
 .b true,
 .fn (l6 14 5 (Str.ofString "TopologicalSorter.is_active")),
 .v (some (some (.ref 179))),
 .b true,
 .fn (l6 14 7 (Str.ofString "TopologicalSorter.done")),
 .v (some (some (.ref 186))),
 .b true,
 .fn (l6 14 8 (Str.ofString "TopologicalSorter._find_cycle")),
 .b true]
end
section
noncomputable abbrev nS:Program:=PySem.Challenge.rw_oy0463_01.row.prog
noncomputable def pM:Program:=PySem.W.view nS [0,1,3,4,5,6,7,8,10,11,12,13,14,16,17,18,19,20,21,22,23,24,25,26,27,28,29,30,32,33,34,35,36,37,38]
noncomputable def loose:List Str:=[Str.ofString "_NodeInfo",Str.ofString "_twin_re_8",Str.ofString "HEADER_TOKEN_RE",Str.ofString "HEADER_QUOTED_VALUE_RE",Str.ofString "HEADER_VALUE_RE",Str.ofString "HEADER_ESCAPE_RE",Str.ofString "HEADER_JOIN_TOKEN_RE",Str.ofString "HEADER_JOIN_ESCAPE_RE",Str.ofString "IPV4_RE"]
noncomputable def addrs:List Addr:=[2,3,32,34,35,37,38,39,41,42,44,45,46,48,49,51,52,53,55,56,58,59,60,62,63,65,66,67,69,70,72,73,74,76,77,79,80,88,89,91,92,94,95,96,98,99,100,101,102,105,112,113,114,115,125,126,128,129,131,132,133,135,136,138,139,140,142,143,145,146,147,150,151,152,154,155,157,158,159,161,162,164,165,166,168,169,171,172,173,175,176,178,179,180,182,183,185,186,187,189,190,192,193,194,195,196,197,198,204,205,206,208,209,211,212,216,217,221,222,226,227,231,232,233,235,236,238,239,243,244,248,249,250,252,253,255,256,260,261,262,264,265,267,268,269,271,272,274,275,276,278,279,281,282,283,285,286,288,289,290,292,293,295,296,297,299,300,302,303,304,307,308,309,312,313,314,316,317,319,320,321,324,325,326,329,330]
noncomputable def uW (h:Heap):List Addr->Frag
 |[]=>[]
 |a::r=>match h.get? a with
  |some o=>(a,o)::uW h r
  |none=>uW h r
theorem BN (h:Heap):∀l,(uW h l).In h
 |[]=>λa o e=>by cases e
 |b::r=>λa o e=>by
  unfold uW at e
  split at e
  ·rename_i o' e'
   rw[List.lookup_cons] at e
   by_cases hb:(a==b)=true
   ·rw[hb] at e
    obtain rfl:a=b:=by simpa using hb
    refine aa e' ?_;exact e
   ·have:(a==b)=false:=by exact Bool.eq_false_iff.mpr hb
    rw[this] at e
    exact BN h r a o e
  ·exact BN h r a o e
noncomputable def hook:Hook where
 α:=List Ob×List (Option Obj)
 obs:=λs=>(facts (uW s.heap addrs),[s.heap.get? 251,s.heap.get? 234])
 val:=λ_=>(dm,[some (tabObj #[]),some (tabObj #[])])
 says:=λw h=>∃K:Frag,K.In h∧facts K=dm∧∀P∈[251,234],h.get? P=some (tabObj #[])
 of:=λw s x=>by
  refine xA (Prod.mk.inj x) λx1 x2=>?_
  refine xA (List.cons.inj x2) λy1 y2=>?_
  refine xA (List.cons.inj y2) λy2 _=>?_
  refine⟨_,BN s.heap addrs,x1,λP hP=>?_⟩
  rcases List.mem_cons.mp hP with rfl|hP
  ·exact y1
  ·rw[List.mem_singleton] at hP;subst hP;exact y2
 keeps:=λw h h' ⟨K,a,b,c⟩ k=>⟨K,λx o e=>k _ _ (a x o e),b,λP hP=>k _ _ (c P hP)⟩
noncomputable def Ai (tb:String->Option Builtin)(p:Program)(w:World)(kE:Nat)(ann:Option Value):Nat->SharedT->Thread->Option SharedT
 |0,_,_=>none
 |n+1,s,t=>match through t with
  |true=>some s
  |false=>match PySem.W.Fast.tw6613529449190102663 kE ann t with
   |false=>none
   |true=>match PySem.W.Fast.tw10156331382660048174 (PySem.W.Fast.tw11892475500146522536 tb) p w s t with
    |some (s',t')=>Ai tb p w kE ann n s' t'
    |none=>none
theorem L0 {tb:String->Option Builtin}{p:Program}{w:World}{kE:Nat}{ann:Option Value}:∀n s t,Ai tb p w kE ann n s t=tR tb p w kE ann n s t
 |0,_,_=>rfl
 |n+1,s,t=>by
  unfold Ai tR
  refine aa (Eq.symm PySem.W.Fast.te6613529449190102663) (aa (Eq.symm PySem.W.Fast.te10156331382660048174) (aa (Eq.symm PySem.W.Fast.te11892475500146522536) ?_))
  cases through t with
  |true=>rfl
  |false=>
   cases stepOk kE ann t with
   |false=>rfl
   |true=>
    cases stepT (denote tb) p w s t with
    |none=>rfl
    |some r=>exact L0 n r.1 r.2
noncomputable def zC (tb:String->Option Builtin)(p:Program)(w:World):Nat->SharedT->Thread->Option SharedT
 |0,_,_=>none
 |n+1,s,t=>match t.atExitBegin with
  |some []=>some s
  |some (_::_)=>none
  |none=>match PySem.W.Fast.tw10156331382660048174 (PySem.W.Fast.tw11892475500146522536 tb) p w s t with
   |some (s',t')=>zC tb p w n s' t'
   |none=>none
theorem Ju {tb:String->Option Builtin}{p:Program}{w:World}:∀n s t,zC tb p w n s t=sW tb p w n s t
 |0,_,_=>rfl
 |n+1,s,t=>by
  unfold zC sW
  refine aa (Eq.symm PySem.W.Fast.te10156331382660048174) (aa (Eq.symm PySem.W.Fast.te11892475500146522536) ?_)
  cases t.atExitBegin with
  |some l=>cases l<;>rfl
  |none=>
   cases stepT (denote tb) p w s t with
   |none=>rfl
   |some r=>exact Ju n r.1 r.2
noncomputable def xt (s:Shared):Bool:=xlAt pM [] s&&recOk (RowW.records PySem.Challenge.rw_oy0463_01.row.toRowW) s
end
section
noncomputable def wR (p:Program)(w:World)(N:Nat):Option (Shared×SharedT):=
 (zC PySem.W.Fast.tw14364793385576792824 (opening p) w N (toT (PySem.W.Fast.tw1435165496053646825 (opening p)).1) (PySem.W.Fast.tw1435165496053646825 (opening p)).2).bind λs=>(PySem.W.Fast.tw14289696077712309145 p s.abs).bind λnZ=>
  (Ai PySem.W.Fast.tw14364793385576792824 p w nZ.heap.objs.size (PySem.W.Fast.tw8920871248978507458 nZ.heap mainGlobals "__annotations__") N (toT nZ) (topStub p)).map λcX=>(nZ,cX)
theorem wholeQ_eq (p:Program)(w:World)(N:Nat):wR p w N=wU p w N:=by
 unfold wR wU
 rw[<-PySem.W.Fast.te14364793385576792824,<-PySem.W.Fast.te1435165496053646825,<-PySem.W.Fast.te14289696077712309145,<-PySem.W.Fast.te8920871248978507458,Ju]
 simp only [L0]
end
section
theorem Wi (w:World):(wR nS w 2500).map (λr=>(r.1.heap.isNs mainGlobals&&r.1.gens.size==0,Dq nS r.1.heap r.2.abs))=some (true,true):=by kernel_rfl
theorem Wj (w:World):(wR nS w 2500).map (λr=>PySem.W.Fast.tw4187177175401517315 pM loose (PySem.W.Fast.tw5923862056798008813 nS.main.body) xt true r.2.abs)=some (openGood pM loose):=by kernel_rfl
theorem Wk (w:World):(wR nS w 2500).map (λr=>hook.obs r.2.abs)=some (hook.val w):=by kernel_rfl
end
section
noncomputable abbrev Loc:=List (Str×Value)
noncomputable abbrev Led:=List (Addr×(Obj->Prop))
noncomputable def lk:Loc->Str->Option Value
 |[],_=>none
 |(y,v)::r,x=>if x=y then some v else lk r x
theorem three (h:l.length≤3):l=[]∨(∃a,l=[a])∨(∃a b,l=[a,b])∨∃a b c,l=[a,b,c]:=by
 rcases l with _|⟨a,_|⟨b,_|⟨c,_|⟨d,l⟩⟩⟩⟩
 ·exact .inl rfl
 ·exact .inr (.inl ⟨a,rfl⟩)
 ·exact .inr (.inr (.inl ⟨a,b,rfl⟩))
 ·exact .inr (.inr (.inr ⟨a,b,c,rfl⟩))
 ·exact absurd h (Nat.not_le.mpr (Nat.le_add_left 4 l.length))
structure St (h₀:Heap)(L:Addr)(h:Heap)(m:Loc)(H:Led):Prop where
 fr:∃mf,Fr h₀ L h mf∧∀x v,lk m x=some v->mf x=some v
 nw:∀p∈H,∃o,h.get? p.1=some o∧p.2 o∧p.1≠L∧h₀.get? p.1=none
 nd:(H.map (·.1)).Nodup
noncomputable def raw (h:Heap)(H:Led):List (Addr×Obj):=H.map λp=>(p.1,(h.get? p.1).getD default)
inductive aZ (a:Addr)(P:Obj->Prop):Led->Led->Prop
 |head {T}:aZ a P ((a,P)::T) T
 |tail {p T T'}:aZ a P T T'->aZ a P (p::T) (p::T')
theorem aZ.perm (p:aZ a o H H'):H.Perm ((a,o)::H'):=by
 induction p with
 |head=>exact .refl _
 |tail _ ih=>exact(List.Perm.cons _ ih).trans (.swap _ _ _)
theorem aZ.mem (p:aZ a o H H'):(a,o)∈H:=p.perm.mem_iff.mpr (.head _)
section
variable {h₀ h h':Heap}{L a:Addr}{m m':Loc}{H H':Led}{P P':Obj->Prop}{o:Obj}
theorem St.perm (S:St h₀ L h m H)(p:H.Perm H'):St h₀ L h m H':=
 ⟨S.fr,λq hq=>S.nw q (p.mem_iff.mpr hq),(p.map _).nodup_iff.mp S.nd⟩
theorem St.sub (S:St h₀ L h m H)(p:H'.Sublist H):St h₀ L h m H':=
 ⟨S.fr,λq hq=>S.nw q (p.subset hq),(p.map _).nodup S.nd⟩
theorem St.loc (S:St h₀ L h m H)(p:∀x v,lk m' x=some v->lk m x=some v):St h₀ L h m' H:=
 let⟨mf,F,g⟩:=S.fr
 ⟨⟨mf,F,λx v e=>g x v (p x v e)⟩,S.nw,S.nd⟩
theorem St.get (S:St h₀ L h m H)(hm:(a,P)∈H):∃o,h.get? a=some o∧P o:=let⟨o,e,p,_⟩:=S.nw _ hm;⟨o,e,p⟩
theorem St.keep (S:St h₀ L h m H):∀b o,h₀.get? b=some o->h.get? b=some o:=let⟨_,F,_⟩:=S.fr;F.keep
theorem St.news (S:St h₀ L h m H):News h₀ L h (raw h H):=λp hp=>by
 refine ah (List.mem_map.mp hp) λq hq zr94=>?_;subst zr94
 refine j4 (S.nw q hq) λo e _ n1 n2=>?_
 exact⟨by refine aa e ?_;rfl,n1,n2⟩
theorem St.pred (S:St h₀ L h m ((a,P)::H))(hp:∀o,P o->P' o):St h₀ L h m ((a,P')::H):=
 ⟨S.fr,λq hq=>by
  rcases List.mem_cons.mp hq with rfl|hq
  ·refine cQ (S.nw _ (.head _)) λo e p r=>?_;exact⟨o,e,hp o p,r⟩
  ·exact S.nw q (.tail _ hq),S.nd⟩
theorem St.upd (S:St h₀ L h m ((a,P)::H))(hs:Heap.SameBut a h h')(ho:h'.get? a=some o)(hp:P' o):St h₀ L h' m ((a,P')::H):=by
 refine ah S.fr λmf F g=>?_
 refine j4 (S.nw _ (.head _)) λo₁ yw _ n1 n2=>?_
 have nd:=S.nd
 rw[List.map_cons,List.nodup_cons] at nd
 refine⟨⟨mf,⟨F.ns.sameBut hs (Ne.symm n1),λb x e=>(hs.2 b ?_).trans (F.keep b x e),F.above⟩,g⟩,λq hq=>?_,S.nd⟩
 ·intro q;subst q;rw[n2] at e;cases e
 ·rcases List.mem_cons.mp hq with rfl|hq
  ·exact⟨o,ho,hp,n1,n2⟩
  ·refine ah (S.nw q (.tail _ hq)) λo' e' r=>?_
   refine⟨o',(hs.2 q.1 ?_).trans e',r⟩
   intro z
   exact nd.1 (List.mem_map.mpr ⟨q,hq,z⟩)
theorem St.push (S:St h₀ L h m H)(hf:o.isFreed=false)(hp:P o):St h₀ L (h.push o) m ((h.objs.size,P)::H):=by
 refine ah S.fr λmf F g=>?_
 have N:=S.news.push F o hf
 refine⟨⟨mf,F.push o,g⟩,λq hq=>?_,?_⟩
 ·rcases List.mem_cons.mp hq with rfl|hq
  ·refine cP (N _ (.head _)) λn1 n2 n3=>?_;exact⟨o,n1,hp,n2,n3⟩
  ·refine ah (S.nw q hq) λo' e' r=>?_;exact⟨o',Heap.get?_push_of_some _ e',r⟩
 ·rw[List.map_cons,List.nodup_cons]
  refine⟨λhm=>?_,S.nd⟩
  refine ah (List.mem_map.mp hm) λq hq e=>?_
  refine ah (S.nw q hq) λo' e' _=>?_
  have:=Heap.lt_size e'
  rw[e] at this
  exact Nat.lt_irrefl _ this
theorem St.keeps (S:St h₀ L h m H)(hk:∀b o,h.get? b=some o->h'.get? b=some o):St h₀ L h' m H:=by
 refine ah S.fr λmf F g=>?_
 exact⟨⟨mf,⟨F.ns.keeps hk,λb x e=>hk b x (F.keep b x e),F.above⟩,g⟩,λq hq=>let⟨o,e,r⟩:=S.nw q hq;⟨o,hk _ _ e,r⟩,S.nd⟩
theorem St.more (S:St h₀ L h m H)(F:Fr h₀ L h' mf)(g:∀x v,lk m x=some v->mf x=some v)(N:News h₀ L h' ((a,o)::raw h H))(hn:h.get? a=none)(hp:P o):St h₀ L h' m ((a,P)::H):=by
 refine⟨⟨mf,F,g⟩,λq hq=>?_,?_⟩
 ·rcases List.mem_cons.mp hq with rfl|hq
  ·refine cP (N _ (.head _)) λn1 n2 n3=>?_;exact⟨o,n1,hp,n2,n3⟩
  ·refine cQ (S.nw q hq) λo' e' p' _=>?_
   refine cP (N (q.1,(h.get? q.1).getD default) (.tail _ (List.mem_map.mpr ⟨q,hq,rfl⟩))) λn1 n2 n3=>?_
   exact⟨o',by refine aa n1 (aa e' ?_);rfl,p',n2,n3⟩
 ·rw[List.map_cons,List.nodup_cons]
  refine⟨λhm=>?_,S.nd⟩
  refine ah (List.mem_map.mp hm) λq hq e=>?_
  refine ah (S.nw q hq) λo' e' _=>?_
  rw[e,hn] at e';cases e'
theorem St.ofRaw (S:St h₀ L h m H)(F:Fr Ho L' h' mf)(g:∀x v,lk m₂ x=some v->mf x=some v)(N:News Ho L' h' (raw h H)):St Ho L' h' m₂ H:=by
 refine⟨⟨mf,F,g⟩,λq hq=>?_,S.nd⟩
 refine cQ (S.nw q hq) λo' e' p' _=>?_
 refine cP (N (q.1,(h.get? q.1).getD default) (List.mem_map.mpr ⟨q,hq,rfl⟩)) λn1 n2 n3=>?_
 exact⟨o',by refine aa n1 (aa e' ?_);rfl,p',n2,n3⟩
end
noncomputable def AW {α:Type}(M:Model)(A:Around)(h₀:Heap)(L:Addr)(t:Sem α)(Q:α->Loc->Led->Prop)(m:Loc)(H:Led):Prop:=
 ∀(s:Shared) (R:α->Shared->Prop) (E:Value->Shared->Prop),St h₀ L s.heap m H->
  (∀a m' H' h' aB,St h₀ L h' m' H'->Q a m' H'->R a {s with heap:=h',toks:=aB})->wpAny M A t R E s
section
variable {α β γ δ:Type}(M:Model)(A:Around)(h₀:Heap)(L:Addr)
@[reducible] noncomputable def bK (f:α->Sem β)(Q:β->Loc->Led->Prop):α->Loc->Led->Prop:=λa m H=>AW M A h₀ L (f a) Q m H
@[reducible] noncomputable def cK (t:Sem β)(Q:β->Loc->Led->Prop):α->Loc->Led->Prop:=λ_ m H=>AW M A h₀ L t Q m H
@[reducible] noncomputable def mY (t:Sem β)(f:α->β->Sem γ)(Q:γ->Loc->Led->Prop):α->Loc->Led->Prop:=λa m H=>AW M A h₀ L t (bK M A h₀ L (f a) Q) m H
@[reducible] noncomputable def T7 (t:Sem β)(t':Sem γ)(f:α->β->γ->Sem δ)(Q:δ->Loc->Led->Prop):α->Loc->Led->Prop:=λa m H=>AW M A h₀ L t (mY M A h₀ L t' (f a) Q) m H
@[reducible] noncomputable def nxK (env:Env)(rest:List Stmt)(Q:Flow->Loc->Led->Prop):Loc->Led->Prop:=λm H=>AW M A h₀ L (execs rest env) Q m H
@[reducible] noncomputable def Jt (env:Env)(t e:List Stmt)(Q:Flow->Loc->Led->Prop):Bool->Loc->Led->Prop:=λb m H=>if b=true then AW M A h₀ L (execs t env) Q m H else AW M A h₀ L (execs e env) Q m H
@[reducible] noncomputable def Qp (t:Sem Bool)(Q:Bool->Loc->Led->Prop):Bool->Loc->Led->Prop:=λc m H=>if c=true then AW M A h₀ L t Q m H else Q false m H
@[reducible] noncomputable def orK (t:Sem Bool)(Q:Bool->Loc->Led->Prop):Bool->Loc->Led->Prop:=λc m H=>if c=true then Q true m H else AW M A h₀ L t Q m H
@[reducible] noncomputable def notK (Q:Bool->Loc->Led->Prop):Bool->Loc->Led->Prop:=λc=>Q (!c)
@[reducible] noncomputable def Lz (Q:Flow->Loc->Led->Prop):Value->Loc->Led->Prop:=λv=>Q (.ret v)
@[reducible] noncomputable def UL (v:Value)(Q:List Value->Loc->Led->Prop):List Value->Loc->Led->Prop:=λvs=>Q (v::vs)
@[reducible] noncomputable def Qq (env:Env)(pos:Pos)(rest:List Expr)(Q:List Value->Loc->Led->Prop):Value->Loc->Led->Prop:=λv m H=>AW M A h₀ L (spliced (backTo pos (starEach rest env))) (UL v Q) m H
@[reducible] noncomputable def UM (pos:Pos)(args:List Expr)(env:Env)(f:Value):Sem Value:=callWith pos f [] (backTo pos (starEach args env)) []
noncomputable def K0 (pos:Pos)(args:List Expr)(env:Env)(Q:Value->Loc->Led->Prop):Value×List Value->Loc->Led->Prop:=λfx m H=>AW M A h₀ L (callWith pos fx.1 fx.2 (backTo pos (starEach args env)) []) Q m H
@[reducible] noncomputable def VG (name:Str)(pl:Sem Bool)(ov:Value):Sem (Value×List Value):=getMethod ov name pl
@[reducible] noncomputable def Bs (f:Value)(first:List Value)(Q:Value->Loc->Led->Prop):List Value->Loc->Led->Prop:=λvs m H=>AW M A h₀ L (call f (first++vs)) Q m H
@[reducible] noncomputable def Bt (f:Value)(Q:Value->Loc->Led->Prop):List Value->Loc->Led->Prop:=λvs m H=>AW M A h₀ L (call f vs) Q m H
@[reducible] noncomputable def Um (f a:Value)(Q:Value->Loc->Led->Prop):List Value->Loc->Led->Prop:=λvs m H=>AW M A h₀ L (call f (a::vs)) Q m H
@[reducible] noncomputable def VD (attr:Str)(o:Value):Sem Value:=getAttr o attr true
@[reducible] noncomputable def uT (Q:Value->Loc->Led->Prop)(m:Loc):Flow->Loc->Led->Prop:=λfl _ H'=>Q (match fl with| .ret v=>v|_=> .none) m H'
@[reducible] noncomputable def Z8 (env:Env)(x:Str)(Q:Value->Loc->Led->Prop):Value->Loc->Led->Prop:=λv m H=>AW M A h₀ L (storeName env x v) (λ_=>Q v) m H
@[reducible] noncomputable def DN (v ov iv:Value):Sem Unit:=setItem ov iv v
@[reducible] noncomputable def saF (attr:Str)(v ov:Value):Sem Unit:=setAttr ov attr v
theorem cF {M:Model}{A:Around}{h₀:Heap}{L:Addr}(h:AW M A h₀ L (callWith pos f first (backTo pos (starEach args env)) []) Q m H):K0 M A h₀ L pos args env Q (f,first) m H:=h
end
section
variable {α β:Type}{M:Model}{A:Around}{h₀:Heap}{L:Addr}{m m':Loc}{H H':Led}
theorem aw_pure (h:Q a m H):AW M A h₀ L (pure a) Q m H:=
 λs R E S k=>wpAny_pure (k a m H _ _ S h)
theorem rP (h:AW M A h₀ L t Q m H)(hQ:∀a m H,Q a m H->Q' a m H):AW M A h₀ L t Q' m H:=
 λs R E S k=>h s R E S λa m' H' h' aB S' q=>k a m' H' h' aB S' (hQ _ _ _ q)
theorem aw_bind (h:AW M A h₀ L t (bK M A h₀ L f Q) m H):AW M A h₀ L (t>>=f) Q m H:=
 λs R E S k=>wpAny_bind (h s _ E S λa m' H' h' aB S' q=>q _ R E S' λb iH fK eT fZ iB q'=>k b iH fK eT fZ iB q')
theorem dQ (p:H.Perm H')(h:AW M A h₀ L t Q m H'):AW M A h₀ L t Q m H:=
 λs R E S k=>h s R E (S.perm p) k
theorem bu (p:aZ a o H H')(h:AW M A h₀ L t Q m ((a,o)::H')):AW M A h₀ L t Q m H:=
 dQ p.perm h
theorem F5 (p:H'.Sublist H)(h:AW M A h₀ L t Q m H'):AW M A h₀ L t Q m H:=
 λs R E S k=>h s R E (S.sub p) k
theorem aw_drop (h:AW M A h₀ L t Q m H):AW M A h₀ L t Q m (p::H):=F5 (List.sublist_cons_self _ _) h
theorem bO (p:∀x v,lk m' x=some v->lk m x=some v)(h:AW M A h₀ L t Q m' H):AW M A h₀ L t Q m H:=
 λs R E S k=>h s R E (S.loc p) k
theorem aw_nd (h:(H.map (·.1)).Nodup->AW M A h₀ L t Q m H):AW M A h₀ L t Q m H:=
 λs R E S k=>h S.nd s R E S k
theorem aw_eqH (e:H=H')(h:AW M A h₀ L t Q m H'):AW M A h₀ L t Q m H:=e▸h
theorem aw_eqm (e:m=m')(h:AW M A h₀ L t Q m' H):AW M A h₀ L t Q m H:=e▸h
theorem aw_eq (e:t=t')(h:AW M A h₀ L t' Q m H):AW M A h₀ L t Q m H:=e▸h
theorem aw_of (h:∀(s:Shared) (R:α->Shared->Prop) (E:Value->Shared->Prop),St h₀ L s.heap m H->
 (∀a aB,Q a m H->R a {s with toks:=aB})->wpAny M A t R E s):AW M A h₀ L t Q m H:=
 λs R E S k=>h s R E S λa aB q=>k a m H _ aB S q
variable {env:Env}
theorem Rc (h:Q .next m H):AW M A h₀ L (execs [] env) Q m H:=
 λs R E S k=>wpAny_execs_nil (k _ m H _ _ S h)
theorem mQ {st rest}{Q:Flow->Loc->Led->Prop}
 (h:AW M A h₀ L (exec st env) (λf m H=>match f with| .next=>AW M A h₀ L (execs rest env) Q m H|f=>Q f m H) m H):AW M A h₀ L (execs (st::rest) env) Q m H:=
 λs R E S k=>wpAny_execs_cons (h s _ E S λf m' H' h' aB S' q=>by
  cases f with
  |next=>exact q _ R E S' λa iH fK eT fZ iB q'=>k a iH fK eT fZ iB q'
  |brk=>exact k _ m' H' h' aB S' q
  |cont=>exact k _ m' H' h' aB S' q
  |ret v=>exact k _ m' H' h' aB S' q)
theorem E0 (h:Q .brk m H):AW M A h₀ L (exec (.Break pos) env) Q m H:=
 λs R E S k=>wpAny_Break (k _ m H _ _ S h)
theorem E5 (h:Q .cont m H):AW M A h₀ L (exec (.Continue pos) env) Q m H:=
 λs R E S k=>wpAny_Continue (k _ m H _ _ S h)
theorem Sy (h:AW M A h₀ L (eval e env) (Lz Q) m H):AW M A h₀ L (exec (.Return (some e) pos) env) Q m H:=
 λs R E S k=>wpAny_Return_some (h s _ E S λv m' H' h' aB S' q=>k _ m' H' h' aB S' q)
theorem aw_return_none (h:Q (.ret .none) m H):AW M A h₀ L (exec (.Return none pos) env) Q m H:=
 λs R E S k=>wpAny_Return_none (k _ m H _ _ S h)
theorem uD
 (h:AW M A h₀ L (isTrue test env (eval test env)) (Jt M A h₀ L env body orelse Q) m H):
 AW M A h₀ L (exec (.If test body orelse pos) env) Q m H:=
 λs R E S k=>wpAny_If (h s _ E S λb m' H' h' aB S' q=>by
  cases b with
  |true=>exact q _ R E S' λa iH fK eT fZ iB q'=>k a iH fK eT fZ iB q'
  |false=>exact q _ R E S' λa iH fK eT fZ iB q'=>k a iH fK eT fZ iB q')
theorem mP
 (h:AW M A h₀ L (eval value env) (λv m H=>AW M A h₀ L (storeName env x v) (λ_=>Q .next) m H) m H)
 (hs:swapsWith value (some (.Name x pos')) pos.line env=pure false:=by with_unfolding_all rfl):
 AW M A h₀ L (exec (.Assign [.Name x pos'] value pos) env) Q m H:=
 λs R E S k=>wpAny_Assign_Name (h s _ E S λv m' H' h' aB S' q=>q _ _ E S' λ_ iH fK eT fZ iB q'=>k _ iH fK eT fZ iB q') hs
theorem QG
 (h:AW M A h₀ L (eval value env) (λv m H=>AW M A h₀ L (eval o env) (λov m H=>AW M A h₀ L (eval i env) (λiv m H=>AW M A h₀ L (setItem ov iv v) (λ_=>Q .next) m H) m H) m H) m H)
 (hs:swapsWith value (some (.Subscript o i pos')) pos.line env=pure false:=by with_unfolding_all rfl):
 AW M A h₀ L (exec (.Assign [.Subscript o i pos'] value pos) env) Q m H:=
 λs R E S k=>wpAny_Assign_Subscript (h s _ E S λv m1 H1 h1 aX S1 q1=>q1 _ _ E S1 λov m2 H2 h2 bC S2 q2=>q2 _ _ E S2 λiv m3 H3 h3 aR S3 q3=>q3 _ _ E S3 λ_ m4 H4 h4 iw S4 q4=>k _ m4 H4 h4 iw S4 q4) hs
theorem Rf (h:AW M A h₀ L (eval e env) (λv m H=>match v with| .ref _=>False|_=>Q .next m H) m H)
 (hi:interactive env=false:=by with_unfolding_all rfl)(hs:swapsWith e none pos.line env=pure false:=by with_unfolding_all rfl):AW M A h₀ L (exec (.Expr e pos) env) Q m H:=
 λs R E S k=>wpAny_Expr (h s _ E S λv m' H' h' aB S' q=>by
  cases v with
  |ref a=>exact q
  |_=>exact k _ m' H' h' aB S' q) hi hs
theorem TG (I:Nat->Loc->Led->Prop)
 (turn:∀n m H,I n m H->AW M A h₀ L (isTrue test env (eval test env)) (λb m H=>if b=true then AW M A h₀ L (execs body env) (λf m H=>match f with
  | .next| .cont=>∃k,k<n∧I k m H
  | .brk=>Q .next m H
  | .ret v=>Q (.ret v) m H) m H else AW M A h₀ L (execs orelse env) Q m H) m H)
 (n:Nat)(h:I n m H)(hM:M=model prog w):AW M A h₀ L (exec (.While test body orelse pos) env) Q m H:=by
 subst hM
 intro s R E S k
 refine wpAny_While (codeAny_whileLoop (A:=A.mark none) (λn s'=>∃m H h' aB,s'={s with heap:=h',toks:=aB}∧St h₀ L h' m H∧I n m H) (λn s' hI=>?_) n ⟨m,H,_,_,rfl,S,h⟩)
 refine i9 hI λm1 H1 h1 aX zr95 S1 i1=>?_;clear hI;subst zr95
 have e:A.mark none=A:=by cases A;simp[Around.mark]
 refine aa e ?_
 refine turn n m1 H1 i1 _ _ _ S1 λb m2 H2 h2 bC S2 q2=>?_
 cases b with
 |true=>
  refine q2 _ _ _ S2 λf m3 H3 h3 aR S3 q3=>?_
  cases f with
  |next=>refine ah q3 λj hj ij=>?_;clear q3;exact⟨j,hj,m3,H3,h3,aR,rfl,S3,ij⟩
  |cont=>refine ah q3 λj hj ij=>?_;clear q3;exact⟨j,hj,m3,H3,h3,aR,rfl,S3,ij⟩
  |brk=>exact k _ m3 H3 h3 aR S3 q3
  |ret v=>exact k _ m3 H3 h3 aR S3 q3
 |false=>exact q2 _ _ _ S2 λf m3 H3 h3 aR S3 q3=>k _ m3 H3 h3 aR S3 q3
end
section
variable {M:Model}{A:Around}{h₀:Heap}{L a:Addr}{m:Loc}{H:Led}{cn:Str}{cs:Scope}{gr:Value}{cl:List (Str×Addr)}
theorem Sb (hv:lk m x=some v)(h:Q v m H)
 (hk:cs.kind= .function:=by with_unfolding_all rfl)(hx:(envX cn cs L a gr cl).kindOf x=some .local:=by with_unfolding_all rfl)(hd:(x==("__debug__":Str))=false:=by decide):
 AW M A h₀ L (eval (.Name x pos) (envX cn cs L a gr cl)) Q m H:=λs R E S k=>by
 refine ah S.fr λmf F g=>?_
 exact nameX_L F (g _ _ hv) (k _ m H _ _ S h) hk hx hd
theorem jg (h:Q () ((x,v)::m) H)
 (hk:cs.kind= .function:=by with_unfolding_all rfl)(hx:(envX cn cs L a gr cl).kindOf x=some .local:=by with_unfolding_all rfl):
 AW M A h₀ L (storeName (envX cn cs L a gr cl) x v) Q m H:=λs R E S k=>by
 refine ah S.fr λmf F g=>?_
 refine storeX_L F S.news (λh' F' N'=>k _ ((x,v)::m) H h' _ (S.ofRaw F' (λy u e=>?_) N') h) hk hx
 show(if y=x then some v else mf y)=some u
 unfold lk at e
 split at e
 ·rename_i q;refine aa (if_pos q) ?_;exact e
 ·rename_i q;refine aa (if_neg q) ?_;exact g _ _ e
end
theorem iu (h:AW M A h₀ L t (λa m' H'=>a=a0∧m'=m0∧H'=H0) m H)(S:St h₀ L s.heap m H)
 (k:∀h' aB,St h₀ L h' m0 H0->R a0 {s with heap:=h',toks:=aB}):wpAny M A t R E s:=h s R E S λa m' H' h' aB S' q=>by
 obtain ⟨rfl,rfl,rfl⟩:=q
 exact k h' aB S'
theorem Ab (P:α->Prop)(h:AW M A h₀ L t (λa m' H'=>P a∧m'=m0∧H'=H0) m H)(S:St h₀ L s.heap m H)
 (k:∀a,P a->∀h' aB,St h₀ L h' m0 H0->R a {s with heap:=h',toks:=aB}):wpAny M A t R E s:=h s R E S λa m' H' h' aB S' q=>by
 obtain ⟨p,rfl,rfl⟩:=q
 exact k a p h' aB S'
theorem Ac (h:AW M A h₀ L t (λ_ m' H'=>m'=m0∧H'=H0) m H)(S:St h₀ L s.heap m H)
 (k:∀a h' aB,St h₀ L h' m0 H0->R a {s with heap:=h',toks:=aB}):wpAny M A t R E s:=h s R E S λa m' H' h' aB S' q=>by
 obtain ⟨rfl,rfl⟩:=q
 exact k a h' aB S'
end
section
noncomputable def af (vs:List Value):Obj->Prop:=λo=>∃n,o=listOf vs.toArray n
noncomputable def bf (vs:List Value):Obj->Prop:=λo=>∃n,o={cls:= .type "tuple",data:= .seq vs.toArray n}
noncomputable def aE (v:Option Value):Obj->Prop:=λo=>o.data= .cell v
theorem af.isList {h:Heap}{a:Addr}{vs:List Value}{o:Obj}(e:h.get? a=some o)(p:af vs o):h.IsList a vs.toArray:=by
 refine xE p λn zr96=>?_;clear p;subst zr96;exact⟨_,e,rfl,n,rfl⟩
theorem bf.isTup (e:h.get? a=some o)(p:bf vs o):IsTup h a vs.toArray:=by
 refine xE p λn zr97=>?_;clear p;subst zr97;exact⟨_,e,rfl,n,rfl⟩
theorem St.lst (S:St h₀ L h m H)(hm:(a,af vs)∈H):∃n,h.get? a=some (listOf vs.toArray n):=by
 obtain ⟨o,e,n,rfl⟩:=S.get hm
 exact⟨n,e⟩
theorem St.tup (S:St h₀ L h m H)(hm:(a,bf vs)∈H):∃n,h.get? a=some {cls:= .type "tuple",data:= .seq vs.toArray n}:=by
 obtain ⟨o,e,n,rfl⟩:=S.get hm
 exact⟨n,e⟩
noncomputable def bw (A:Around)(n:Nat):Prop:=A.depth+2*n+20<recursionLimit∧A.units+16*n+400<cLine
theorem bw.down (r:bw A (n+1)):bw (A.deeper env) n:=by
 unfold bw at*
 show A.depth+1+2*n+20<recursionLimit∧A.units+3+16*n+400<cLine
 exact(ln 0x100440084410919017e61834731ad6b08a93089a19816b584e46405f986615c1a35ac22a4c330ac4d02d6138405).1 r
theorem bw.le (r:bw A n)(h:k≤n):bw A k:=by unfold bw at*;exact(ln 0x41008801104410848c80bf30c1a35ac22a4c226816b09ca10119017e658346b584549944d02d6138806).1 r h
theorem bw.depth (r:bw A n):A.depth<recursionLimit:=by unfold bw at*;exact(ln 0x422084200919017e628346b584349884d02d6138405).1 r
theorem bw.units (r:bw A n):A.units+300<cLine:=by unfold bw at*;exact(ln 0x20088210a582fcc0b0859017e638340b5849498c4d12d6138405).1 r
section
variable {M:Model}{A:Around}{h₀:Heap}{L:Addr}{m:Loc}{H H':Led}{env:Env}
theorem QU (h:∀t,Q (.int i t) m H):AW M A h₀ L (eval (.Constant (.int i) k pos) env) Q m H:=
 λs R E S kk=>wpAny_Constant_int (kk _ m H _ _ S (h _))
theorem QW (h:∀t,Q (.str x t) m H):AW M A h₀ L (eval (.Constant (.str x) k pos) env) Q m H:=
 λs R E S kk=>Calls.Constant_str (kk _ m H _ _ S (h _))
theorem QV (h:Q .none m H):AW M A h₀ L (eval (.Constant .none k pos) env) Q m H:=
 λs R E S kk _ _ _=>kk _ m H _ _ S h
theorem QT (h:Q (.bool b) m H):AW M A h₀ L (eval (.Constant (.bool b) k pos) env) Q m H:=
 λs R E S kk _ _ _=>kk _ m H _ _ S h
theorem QL
 (h:AW M A h₀ L (eval l env) (mY M A h₀ L (eval r env) (binaryOp op) Q) m H):AW M A h₀ L (eval (.BinOp l op r pos) env) Q m H:=
 λs R E S k=>wpAny_BinOp (h s _ E S λa m1 H1 h1 aX S1 q1=>q1 _ _ E S1 λb m2 H2 h2 bC S2 q2=>q2 _ _ E S2 λc m3 H3 h3 aR S3 q3=>k _ m3 H3 h3 aR S3 q3)
theorem Tw (h:AW M A h₀ L (eval x env) (bK M A h₀ L (unaryOp op) Q) m H):AW M A h₀ L (eval (.UnaryOp op x pos) env) Q m H:=
 λs R E S k=>UnaryOp_ (h s _ E S λa m1 H1 h1 aX S1 q1=>q1 _ _ E S1 λc m3 H3 h3 aR S3 q3=>k _ m3 H3 h3 aR S3 q3)
theorem QS
 (h:AW M A h₀ L (eval l env) (mY M A h₀ L (eval r env) (compareOp op) Q) m H)
 (hm:behindInMarks op r=false:=by with_unfolding_all rfl):AW M A h₀ L (eval (.Compare l [op] [r] pos) env) Q m H:=
 λs R E S k=>wpAny_Compare1 (h s _ E S λa m1 H1 h1 aX S1 q1=>q1 _ _ E S1 λb m2 H2 h2 bC S2 q2=>q2 _ _ E S2 λc m3 H3 h3 aR S3 q3=>k _ m3 H3 h3 aR S3 q3) hm
theorem F7 (h:Q b m H):AW M A h₀ L (truthy (.bool b)) Q m H:=
 λs R E S k=>wpAny_truthy_bool (k _ m H _ _ S h)
theorem oH
 (h:AW M A h₀ L (eval l env) (mY M A h₀ L (eval r env) (compareOp op) (bK M A h₀ L truthy Q)) m H)
 (hm:behindInMarks op r=false:=by with_unfolding_all rfl):AW M A h₀ L (isTrue (.Compare l [op] [r] pos) env whole) Q m H:=
 λs R E S k=>wpAny_isTrue_Compare1 (h s _ E S λa m1 H1 h1 aX S1 q1=>q1 _ _ E S1 λb m2 H2 h2 bC S2 q2=>q2 _ _ E S2 λc m3 H3 h3 aR S3 q3=>q3 _ _ E S3 λd m4 H4 h4 iw S4 q4=>k _ m4 H4 h4 iw S4 q4) hm
theorem Tp (h:AW M A h₀ L (isTrue x env (eval x env)) (notK Q) m H):AW M A h₀ L (isTrue (.UnaryOp .Not x pos) env whole) Q m H:=
 λs R E S k=>isTrue_not (h s _ E S λc m3 H3 h3 aR S3 q3=>k _ m3 H3 h3 aR S3 q3)
theorem Tn
 (h:AW M A h₀ L (isTrue x env (eval x env)) (Qp M A h₀ L (isTrue (.BoolOp .And rest pos) env whole) Q) m H):AW M A h₀ L (isTrue (.BoolOp .And (x::rest) pos) env whole) Q m H:=
 λs R E S k=>isTrue_and (h s _ E S λc m3 H3 h3 aR S3 q3=>by
  cases c with
  |true=>exact q3 _ _ E S3 λd m4 H4 h4 iw S4 q4=>k _ m4 H4 h4 iw S4 q4
  |false=>exact k _ m3 H3 h3 aR S3 q3)
theorem To (h:Q true m H):AW M A h₀ L (isTrue (.BoolOp .And [] pos) env whole) Q m H:=
 λs R E S k=>isTrue_and_nil (k _ m H _ _ S h)
theorem Tq
 (h:AW M A h₀ L (isTrue x env (eval x env)) (orK M A h₀ L (isTrue (.BoolOp .Or rest pos) env whole) Q) m H):AW M A h₀ L (isTrue (.BoolOp .Or (x::rest) pos) env whole) Q m H:=
 λs R E S k=>isTrue_or (h s _ E S λc m3 H3 h3 aR S3 q3=>by
  cases c with
  |false=>exact q3 _ _ E S3 λd m4 H4 h4 iw S4 q4=>k _ m4 H4 h4 iw S4 q4
  |true=>exact k _ m3 H3 h3 aR S3 q3)
theorem Tr (h:Q false m H):AW M A h₀ L (isTrue (.BoolOp .Or [] pos) env whole) Q m H:=
 λs R E S k=>isTrue_or_nil (k _ m H _ _ S h)
theorem uH (h:AW M A h₀ L whole (bK M A h₀ L truthy Q) m H)
 (he:isTrue e env whole=(do let v<-whole;standAt e.pos;holding [v] (truthy v)):=by with_unfolding_all rfl):AW M A h₀ L (isTrue e env whole) Q m H:=
 λs R E S k=>isTrue_plain (h s _ E S λa m1 H1 h1 aX S1 q1=>q1 _ _ E S1 λc m3 H3 h3 aR S3 q3=>k _ m3 H3 h3 aR S3 q3) he
theorem aw_not (h:AW M A h₀ L (truthy v) (λc=>Q (.bool (!c))) m H):AW M A h₀ L (unaryOp .Not v) Q m H:=
 λs R E S k=>not_of (h s _ E S λc m3 H3 h3 aR S3 q3=>k _ m3 H3 h3 aR S3 q3)
theorem Be
 (h:AW M A h₀ L (eval value env) (mY M A h₀ L (eval slice env) (subscriptTail value slice) Q) m H):AW M A h₀ L (eval (.Subscript value slice pos) env) Q m H:=
 λs R E S k=>Subscript_ (h s _ E S λa m1 H1 h1 aX S1 q1=>q1 _ _ E S1 λb m2 H2 h2 bC S2 q2=>q2 _ _ E S2 λc m3 H3 h3 aR S3 q3=>k _ m3 H3 h3 aR S3 q3)
theorem oB
 (h:AW M A h₀ L (eval func env) (bK M A h₀ L (UM pos args env) Q) m H)
 (he:eval (.Call func args [] pos) env=(do callWith pos (<-eval func env) [] (backTo pos (starEach args env)) (backToKw pos (keywordEach [] env))):=by with_unfolding_all rfl):
 AW M A h₀ L (eval (.Call func args [] pos) env) Q m H:=
 λs R E S k=>Call_ (h s _ E S λa m1 H1 h1 aX S1 q1=>q1 _ _ E S1 λc m3 H3 h3 aR S3 q3=>k _ m3 H3 h3 aR S3 q3) he
theorem rO
 (h:AW M A h₀ L (eval o env) (bK M A h₀ L (VG name pl) (K0 M A h₀ L pos args env Q)) m H)
 (he:eval (.Call (.Attribute o name apos) args [] pos) env=(do
  let ov<-eval o env
  standAt apos.atName
  let(f,first)<-holding [ov] (getMethod ov name pl)
  callWith pos f first (backTo pos (starEach args env)) []):=by with_unfolding_all rfl):
 AW M A h₀ L (eval (.Call (.Attribute o name apos) args [] pos) env) Q m H:=
 λs R E S k=>MethodCall_ (h s _ E S λa m1 H1 h1 aX S1 q1=>q1 _ _ E S1 λb m2 H2 h2 bC S2 q2=>q2 _ _ E S2 λc m3 H3 h3 aR S3 q3=>k _ m3 H3 h3 aR S3 q3) he
theorem QD (h:Q [] m H):AW M A h₀ L (spliced (backTo pos (starEach [] env))) Q m H:=
 λs R E S k=>args_nil (k _ m H _ _ S h)
theorem QC
 (h:AW M A h₀ L (eval e env) (Qq M A h₀ L env pos rest Q) m H)
 (he:starEach (e::rest) env=(false,eval e env)::starEach rest env:=by with_unfolding_all rfl):AW M A h₀ L (spliced (backTo pos (starEach (e::rest) env))) Q m H:=
 λs R E S k=>args_cons (h s _ E S λa m1 H1 h1 aX S1 q1=>q1 _ _ E S1 λc m3 H3 h3 aR S3 q3=>k _ m3 H3 h3 aR S3 q3) he
theorem Q2 {pos id first}{Q:Value->Loc->Led->Prop}(h:AW M A h₀ L (call (.builtin id) first) Q m H):AW M A h₀ L (callWith pos (.builtin id) first (backTo pos (starEach [] env)) []) Q m H:=
 λs R E S k=>callWith_method0 (h s R E S k)
theorem E6 {pos id first e rest}{Q:Value->Loc->Led->Prop}
 (h:AW M A h₀ L (spliced (backTo pos (starEach (e::rest) env))) (Bs M A h₀ L (.builtin id) first Q) m H)
 (he:starEach (e::rest) env=(false,eval e env)::starEach rest env:=by with_unfolding_all rfl)(iG:(backTo pos (starEach rest env)).any (·.1)=false:=by with_unfolding_all rfl):
 AW M A h₀ L (callWith pos (.builtin id) first (backTo pos (starEach (e::rest) env)) []) Q m H:=
 λs R E S k=>callWith_method1 (h s _ E S λa m1 H1 h1 aX S1 q1=>q1 _ _ E S1 λc m3 H3 h3 aR S3 q3=>k _ m3 H3 h3 aR S3 q3) he iG
theorem QZ {pos id e rest}{Q:Value->Loc->Led->Prop}(h:AW M A h₀ L (spliced (backTo pos (starEach (e::rest) env))) (Bt M A h₀ L (.builtin id) Q) m H)
 (he:starEach (e::rest) env=(false,eval e env)::starEach rest env:=by with_unfolding_all rfl)(iG:(backTo pos (starEach rest env)).any (·.1)=false:=by with_unfolding_all rfl):
 AW M A h₀ L (callWith pos (.builtin id) [] (backTo pos (starEach (e::rest) env)) []) Q m H:=E6 h he iG
theorem Q0 {pos id a e rest}{Q:Value->Loc->Led->Prop}(h:AW M A h₀ L (spliced (backTo pos (starEach (e::rest) env))) (Um M A h₀ L (.builtin id) a Q) m H)
 (he:starEach (e::rest) env=(false,eval e env)::starEach rest env:=by with_unfolding_all rfl)(iG:(backTo pos (starEach rest env)).any (·.1)=false:=by with_unfolding_all rfl):
 AW M A h₀ L (callWith pos (.builtin id) [a] (backTo pos (starEach (e::rest) env)) []) Q m H:=E6 h he iG
theorem Q4
 (h:AW M A h₀ L (spliced (backTo pos (starEach (e::rest) env))) (Bt M A h₀ L (.type T) Q) m H)
 (he:starEach (e::rest) env=(false,eval e env)::starEach rest env:=by with_unfolding_all rfl)(iG:(backTo pos (starEach rest env)).any (·.1)=false:=by with_unfolding_all rfl):
 AW M A h₀ L (callWith pos (.type T) [] (backTo pos (starEach (e::rest) env)) []) Q m H:=
 λs R E S k=>callWith_type1 (h s _ E S λa m1 H1 h1 aX S1 q1=>q1 _ _ E S1 λc m3 H3 h3 aR S3 q3=>k _ m3 H3 h3 aR S3 q3) he iG
theorem Q5 (h:AW M A h₀ L (call (.type T) []) Q m H):AW M A h₀ L (callWith pos (.type T) [] (backTo pos (starEach [] env)) []) Q m H:=
 λs R E S k=>callWith_type0 (h s R E S k)
end
section
variable {K:Frag}{M:Model}{A:Around}{h₀:Heap}{L:Addr}{m:Loc}{H H':Led}{env:Env}
theorem xX (X:K.In h₀)(hk:keepIn K f=true)(h:AW M A h₀ L (call f (first++[])) Q m H):AW M A h₀ L (callWith pos f first (backTo pos (starEach [] env)) []) Q m H:=
 λs R E S k=>callWith_K0 (X.keeps S.keep) hk (h s R E S k)
theorem xW (X:K.In h₀)(hk:keepIn K f=true)
 (h:AW M A h₀ L (spliced (backTo pos (starEach (e::rest) env))) (Bs M A h₀ L f first Q) m H)
 (he:starEach (e::rest) env=(false,eval e env)::starEach rest env:=by with_unfolding_all rfl)(iG:(backTo pos (starEach rest env)).any (·.1)=false:=by with_unfolding_all rfl):
 AW M A h₀ L (callWith pos f first (backTo pos (starEach (e::rest) env)) []) Q m H:=
 λs R E S k=>callWith_K (h₀:=h₀) X hk (h s _ E S λa m1 H1 h1 aX S1 q1=>⟨X.keeps S1.keep,q1 _ _ E S1 λc m3 H3 h3 aR S3 q3=>k _ m3 H3 h3 aR S3 q3⟩) he iG
end
section
variable {prog:Program}{w:World}{A:Around}{h₀:Heap}{L:Addr}{m:Loc}{H:Led}{a b:Int}{t u:Tok}{Q:Value->Loc->Led->Prop}
theorem QB (h:∀t,Q (.int (a+b) t) m H):AW (model prog w) A h₀ L (binaryOp .Add (.int a t) (.int b u)) Q m H:=λs R E S k=>PyProof.Rows.add_int (k _ m H _ _ S (h _))
theorem F3 (h:∀t,Q (.int (a-b) t) m H):AW (model prog w) A h₀ L (binaryOp .Sub (.int a t) (.int b u)) Q m H:=λs R E S k=>PyProof.Rows.sub_int (k _ m H _ _ S (h _))
theorem A8 (hm:IntMulOk a b)(h:∀t,Q (.int (a*b) t) m H):AW (model prog w) A h₀ L (binaryOp .Mult (.int a t) (.int b u)) Q m H:=λs R E S k=>PyProof.Rows.mul_int (k _ m H _ _ S (h _)) hm
theorem R9 (hb:b≠0)(h:∀t,Q (.int (a.fmod b) t) m H):AW (model prog w) A h₀ L (binaryOp .Mod (.int a t) (.int b u)) Q m H:=λs R E S k=>PyProof.Rows.mod_int (t:=t) (u:=u) hb (k _ m H _ _ S (h _))
theorem SD (hb:0≤b)(h:∀t,Q (.int (a.fdiv (2^b.toNat)) t) m H):AW (model prog w) A h₀ L (binaryOp .RShift (.int a t) (.int b u)) Q m H:=λs R E S k=>rshift_int (t:=t) (u:=u) hb (k _ m H _ _ S (h _))
theorem RV (h:Q (.bool (decide (a<b))) m H):AW (model prog w) A h₀ L (compareOp .Lt (.int a t) (.int b u)) Q m H:=λs R E S k=>PyProof.Rows.lt_int (k _ m H _ _ S h)
theorem Rm (h:Q (.bool (decide (b<a))) m H):AW (model prog w) A h₀ L (compareOp .Gt (.int a t) (.int b u)) Q m H:=λs R E S k=>PyProof.Rows.gt_int (k _ m H _ _ S h)
theorem Rh (h:Q (.bool (decide (b≤a))) m H):AW (model prog w) A h₀ L (compareOp .GtE (.int a t) (.int b u)) Q m H:=λs R E S k=>PyProof.Rows.ge_int (k _ m H _ _ S h)
theorem RN (h:Q (.bool (decide (a≤b))) m H):AW (model prog w) A h₀ L (compareOp .LtE (.int a t) (.int b u)) Q m H:=λs R E S k=>PyProof.Rows.le_int (k _ m H _ _ S h)
theorem Q9 (h:Q (.bool (a==b)) m H):AW (model prog w) A h₀ L (compareOp .Eq (.int a t) (.int b u)) Q m H:=λs R E S k=>PyProof.Rows.eq_int (k _ m H _ _ S h)
theorem Se (h:Q (.bool (a !=b)) m H):AW (model prog w) A h₀ L (compareOp .NotEq (.int a t) (.int b u)) Q m H:=λs R E S k=>PyProof.Rows.ne_int (k _ m H _ _ S h)
theorem Sg (h:∀t,Q (.int (-a) t) m H):AW (model prog w) A h₀ L (unaryOp .USub (.int a t)) Q m H:=λs R E S k=>PyProof.Rows.neg_int (k _ m H _ _ S (h _))
theorem aw_truthy_int {Q:Bool->Loc->Led->Prop}(h:Q (a !=0) m H):AW (model prog w) A h₀ L (truthy (.int a t)) Q m H:=λs R E S k=>PySem.P.truthy_int (k _ m H _ _ S h)
theorem Tt {Q:Bool->Loc->Led->Prop}(h:Q false m H):AW M A h₀ L (truthy .none) Q m H:=λs R E S k=>truthy_none (k _ m H _ _ S h)
end
end
section
theorem tB:∀(m:Loc) (x:Str),lk m x=m.lookup x
 |[],_=>rfl
 |(y,v)::r,x=>by
  unfold lk
  refine aa List.lookup_cons ?_
  by_cases h:x=y
  ·subst h;simp
  ·have hb:(x==y)=false:=beq_eq_false_iff_ne.mpr h
   simp only [hb,h,if_false];exact tB r x
structure Gx where
 prog:Program
 w:World
 K:Frag
 p:Program
 loose:List Str
 mean:ExcName->Option Value
 mg:Str->Option Value
 mb:Str->Option Value
structure Cx (G:Gx)(A:Around)(h₀:Heap)(L:Addr)(env:Env):Prop where
 below:∃A₀ base outer,Below A₀ base outer h₀∧A.frames=some (env::outer)
 fr:env.frame=some L
 kd:env.scope.kind= .function
 hh:A.handled=none
 X:G.K.In h₀
 T:Top G.p G.loose G.mean G.mg G.mb h₀
structure lE (K:Frag)(f:Addr)(name qual:Str)(params:Arguments)(body:List Stmt)(scope:Scope)(bg:Value):Prop where
 at':∃oc od jX kV doc pm an ct,K.lookup f=some ⟨oc,od, .func (fnOf name qual params body scope .none kV doc pm an bg ct),jX⟩
 code:codeIn K bg qual=true
 keep:keepIn K (.ref f)=true
section
variable {G:Gx}{A:Around}{h₀:Heap}{L:Addr}{m:Loc}{H:Led}{env:Env}
theorem gX
 (C:Cx G A h₀ L env)(r:bw A (n+1))(D:lE G.K f name qual params body scope bg)
 (nv:∀kV doc pm an ct,bindArgs (fnOf name qual params body scope .none kV doc pm an bg ct) ⟨vs,kw⟩=pure binds)(nC:(binds.all λx=>decide (scope.names.lookup x.1=some .local))=true)
 (h:∀A' g L',Cx G A' g L' (envX qual scope L' f bg [])->bw A' n->AW (model G.prog G.w) A' g L' (execs body (envX qual scope L' f bg []))
  (uT Q m) binds.reverse H)
 (kT:scope.isCoroutine=false:=by with_unfolding_all rfl)(kW:scope.isGenerator=false:=by with_unfolding_all rfl)(hk:scope.kind= .function:=by with_unfolding_all rfl)(nA:∀x∈scope.names,x.2≠ .cell:=by decide):
 AW (model G.prog G.w) A h₀ L (call (.ref f) vs kw) Q m H:=λs R E S k=>by
 refine cE C.below λA₀ base outer B hA=>?_
 refine ah S.fr λmf F gm=>?_
 refine wZ D.at' λoc od jX kV doc pm an ct ho=>?_
 refine wpAny_call (code_def (K:=G.K) (mean:=G.mean) B F C.X S.news C.T hA C.fr C.kd ho D.code r.depth (.of_eq (nv _ _ _ _ _)) (locs nC) (λg L' h₁ FG F' N' B' X' T'=>?_) kT kW hk nA)
 refine h (A.deeper (envX qual scope L' f bg [])) g L' ⟨⟨A,base,env::outer,B',?_⟩,rfl,hk,C.hh,X',T'⟩ r.down _ _ _ (S.ofRaw F' (λx v e=>by refine aa (Eq.symm (tB ..)) ?_;exact e) N') λfl m' H' h' aB S' q=>?_
 ·show A.frames.map _=_
  refine aa hA ?_;rfl
 ·refine ah S'.fr λmf' mF _=>?_
  exact leaveK_ mF S'.news λxP mH=>k _ m H' h' aB (S'.ofRaw xP gm mH) q
theorem Br:∀(names:List (Str×NameKind)) (n:Nat) (acc:List (Str×Addr)),(acc.map (·.2)).Nodup->(∀p∈acc,p.2<n)->
 ((cellsFrom n names acc).map (·.2)).Nodup∧∀p∈cellsFrom n names acc,p∈acc∨n≤p.2
 |[],n,acc,h,_=>⟨h,λp hp=> .inl hp⟩
 |(y,k)::r,n,acc,h,hl=>by
  unfold cellsFrom
  by_cases hk:(k== .cell)=true
  ·refine aa (if_pos hk) ?_
   refine xA (Br r (n+1) ((y,n)::acc) (by
    rw[List.map_cons,List.nodup_cons]
    refine⟨λhm=>?_,h⟩
    obtain ⟨p,hp,e⟩:=List.mem_map.mp hm
    exact absurd (hl p hp) (by refine aa (show p.2=n from e) ?_;exact Nat.lt_irrefl _)) (λp hp=>by
    rcases List.mem_cons.mp hp with rfl|hp
    ·exact Nat.lt_succ_self _
    ·exact Nat.lt_succ_of_lt (hl p hp))) λa b=>?_
   refine⟨a,λp hp=>?_⟩
   rcases b p hp with q|q
   ·rcases List.mem_cons.mp q with rfl|q
    ·exact .inr (Nat.le_refl _)
    ·exact .inl q
   ·exact .inr (Nat.le_of_succ_le q)
  ·refine aa (if_neg hk) ?_
   exact Br r n acc h hl
theorem Ul (Y:CellsAre cm cs cells)(hx:x∈cs):∃o,(x.2,o)∈cells∧o.data= .cell (cm x.1):=by
 induction Y with
 |nil=>cases hx
 |cons hd _ ih=>
  rcases List.mem_cons.mp hx with rfl|hx
  ·exact⟨_, .head _,hd⟩
  ·refine ah (ih hx) λo h1 h2=>?_
   exact⟨o, .tail _ h1,h2⟩
theorem AZ
 (C:Cx G A h₀ L env)(r:bw A (n+1))(D:lE G.K f name qual params body scope bg)
 (nv:∀kV doc pm an ct,bindArgs (fnOf name qual params body scope .none kV doc pm an bg ct) ⟨vs,kw⟩=pure binds)
 (qA:(binds.all λy=>scope.names.lookup y.1==some .local||scope.names.lookup y.1==some .cell)=true)
 (cN:((cellsFrom 0 scope.names []).map (·.1)).Nodup)(iI:Loc)
 (Xk:∀L' x v,lk iI x=some v->bindL (envOfC qual scope L' f bg).kindOf binds (λ_=>none) x=some v)
 (h:∀A' g L',Cx G A' g L' (envOfC qual scope L' f bg)->bw A' n->AW (model G.prog G.w) A' g L' (execs body (envOfC qual scope L' f bg))
  (uT Q m) iI (((cellsFrom (L'+1) scope.names []).map λx=>(x.2,aE (bindC (envOfC qual scope L' f bg).kindOf binds (λ_=>none) x.1)))++H))
 (kT:scope.isCoroutine=false:=by with_unfolding_all rfl)(kW:scope.isGenerator=false:=by with_unfolding_all rfl)(hk:scope.kind= .function:=by with_unfolding_all rfl):
 AW (model G.prog G.w) A h₀ L (call (.ref f) vs kw) Q m H:=λs R E S k=>by
 refine cE C.below λA₀ base outer B hA=>?_
 refine ah S.fr λmf F gm=>?_
 refine wZ D.at' λoc od jX kV doc pm an ct ho=>?_
 refine wpAny_call (code_defC (K:=G.K) (mean:=G.mean) B F C.X S.news C.T hA C.fr C.kd ho D.code r.depth (.of_eq (nv _ _ _ _ _)) qA cN (λg L' h₁ tk cells FG F' N' Y B' X' T' lt=>?_) kT kW hk)
 have S1:St g L' h₁ iI (((cellsFrom (L'+1) scope.names []).map λx=>(x.2,aE (bindC (envOfC qual scope L' f bg).kindOf binds (λ_=>none) x.1)))++H):=by
  have NN:=Br scope.names (L'+1) [] List.nodup_nil (λ_ h=>nomatch h)
  refine⟨⟨_,F',Xk L'⟩,λq hq=>?_,?_⟩
  ·rcases List.mem_append.mp hq with hq|hq
   ·refine ah (List.mem_map.mp hq) λx hx zr98=>?_;subst zr98
    refine ah (Ul Y hx) λo ho hd=>?_
    refine cP (N' (x.2,o) (List.mem_append_left _ ho)) λn1 n2 n3=>?_
    exact⟨o,n1,hd,n2,n3⟩
   ·refine cQ (S.nw q hq) λo' e' p' _=>?_
    refine cP (N' (q.1,(s.heap.get? q.1).getD default) (List.mem_append_right _ (List.mem_map.mpr ⟨q,hq,rfl⟩))) λn1 n2 n3=>?_
    exact⟨o',by refine aa n1 (aa e' ?_);rfl,p',n2,n3⟩
  ·refine aa List.map_append (aa List.map_map ?_)
   refine List.nodup_append.mpr ⟨NN.1,S.nd,λa ha b hb=>?_⟩
   refine ah (List.mem_map.mp ha) λx hx zr99=>?_;subst zr99
   refine ah (List.mem_map.mp hb) λq hq zr100=>?_;subst zr100
   have l1:=lt (q.1,(s.heap.get? q.1).getD default) (List.mem_map.mpr ⟨q,hq,rfl⟩)
   rcases NN.2 x hx with z|z
   ·cases z
   ·exact λe=>by
     have Yu:q.1<L':=l1
     have e':x.2=q.1:=e
     have z':L'+1≤x.2:=z
     rw[e'] at z'
     exact absurd (Nat.lt_of_lt_of_le Yu (Nat.le_of_succ_le z')) (Nat.lt_irrefl _)
 refine h (A.deeper (envOfC qual scope L' f bg)) g L' ⟨⟨A,base,env::outer,B',?_⟩,rfl,hk,C.hh,X',T'⟩ r.down _ _ _ S1 λfl m' H' h' aB S' q=>?_
 ·show A.frames.map _=_
  refine aa hA ?_;rfl
 ·refine ah S'.fr λmf' mF _=>?_
  exact leaveK_ mF S'.news λxP mH=>k _ m H' h' aB (S'.ofRaw xP gm mH) q
end
end
section
section
variable {G:Gx}{A:Around}{h₀:Heap}{L a:Addr}{m:Loc}{H:Led}{cn:Str}{cs:Scope}{gr:Value}{cl:List (Str×Addr)}{gf:Env}
theorem cI (C:Cx G A h₀ L gf)(e:nsIn G.K mainGlobals x=some (some v))(h:Q v m H)
 (hk:cs.kind= .function:=by with_unfolding_all rfl)(hx:(envX cn cs L a gr cl).kindOf x=some .globalImplicit:=by with_unfolding_all rfl)(hd:(x==("__debug__":Str))=false:=by decide):
 AW (model G.prog G.w) A h₀ L (eval (.Name x pos) (envX cn cs L a gr cl)) Q m H:=λs R E S k=>by
 refine ah S.fr λmf F g=>?_
 exact nameX_K F C.X (topRead_of C.T) e (k _ m H _ _ S h) hk hx hd
theorem Sd (C:Cx G A h₀ L gf)(e:nsIn G.K mainGlobals x=some none)(hv:bootBuiltins x=some v)(h:Q v m H)(hn:x≠"__name__":=by decide)
 (hk:cs.kind= .function:=by with_unfolding_all rfl)(hx:(envX cn cs L a gr cl).kindOf x=some .globalImplicit:=by with_unfolding_all rfl)(hd:(x==("__debug__":Str))=false:=by decide):
 AW (model G.prog G.w) A h₀ L (eval (.Name x pos) (envX cn cs L a gr cl)) Q m H:=λs R E S k=>by
 refine ah S.fr λmf F g=>?_
 exact nameX_B F C.X (topRead_of C.T) e hv hn (k _ m H _ _ S h) hk hx hd
theorem g6 (hc:cl.lookup x=some c)(hm:(c,aE (some v))∈H)(h:Q v m H)
 (hk:cs.kind= .function:=by with_unfolding_all rfl)(hx:(envX cn cs L a gr cl).kindOf x=some .cell:=by with_unfolding_all rfl)(hd:(x==("__debug__":Str))=false:=by decide):
 AW M A h₀ L (eval (.Name x pos) (envX cn cs L a gr cl)) Q m H:=λs R E S k=>by
 refine ah (S.get hm) λo e p=>?_
 exact wpAny_Name (wpAny_loadName_cell hk hx hc ⟨o,e,p⟩ (k _ m H _ _ S h)) hd
theorem aw_name_F (hc:cl.lookup x=some c)(hm:(c,aE (some v))∈H)(h:Q v m H)
 (hk:cs.kind= .function:=by with_unfolding_all rfl)(hx:(envX cn cs L a gr cl).kindOf x=some .free:=by with_unfolding_all rfl)(hd:(x==("__debug__":Str))=false:=by decide)(hn:(x==("__classdict__":Str))=false:=by decide):
 AW M A h₀ L (eval (.Name x pos) (envX cn cs L a gr cl)) Q m H:=λs R E S k=>by
 refine ah (S.get hm) λo e p=>?_
 exact wpAny_Name (wpAny_loadName_free hk hx hc ⟨o,e,p⟩ (k _ m H _ _ S h) hn) hd
theorem qc (hc:cl.lookup x=some c)(p:aZ c (aE v₀) H H')(h:Q () m ((c,aE (some v))::H'))
 (hk:cs.kind= .function:=by with_unfolding_all rfl)(hx:(envX cn cs L a gr cl).kindOf x=some .cell:=by with_unfolding_all rfl):
 AW M A h₀ L (storeName (envX cn cs L a gr cl) x v) Q m H:=λs R E S k=>by
 have S':=S.perm p.perm
 refine ah (S'.get (.head _)) λo e q=>?_
 refine wpAny_storeName_cell hk hx hc ⟨o,e,q⟩ λh' hv hs=>?_
 refine ah hv λo' gu ff=>?_;clear hv
 exact k _ m _ h' _ (S'.upd hs gu ff) h
end
section
variable {prog:Program}{w:World}{A:Around}{h₀:Heap}{L a:Addr}{m:Loc}{H:Led}{vs:List Value}{k:Int}{u:Tok}{v:Value}
theorem Ri (hm:(a,af vs)∈H)(h0:0≤k)(hf:k<2^63)(hx:vs[k.toNat]?=some v)(h:Q v m H):
 AW (model prog w) A h₀ L (getItem (.ref a) (.int k u)) Q m H:=λs R E S kk=>by
 refine ah (S.get hm) λo e p=>?_
 exact wpAny_getItem_list (p.isList e) h0 hf (by simpa using hx) (kk _ m H _ _ S h)
theorem cM (hm:(a,af vs)∈H)(h0:0≤k)(hf:k<2^63)(hx:vs[k.toNat]?=some v)(h:Q v m H)
 (hs:subscripted slice false (.ref a) (.int k u)=operate [.ref a, .int k u] (getItem (.ref a) (.int k u)):=by with_unfolding_all rfl):
 AW (model prog w) A h₀ L (subscriptTail value slice (.ref a) (.int k u)) Q m H:=λs R E S kk=>by
 refine ah (S.get hm) λo e p=>?_
 exact tail_any (p.isList e).typeIs slot_list_getitem.lookup (wpAny_getItem_list (p.isList e) h0 hf (by simpa using hx) (kk _ m H _ _ S h)) hs
theorem aw_item_tup (hm:(a,bf vs)∈H)(qC: -(2^63)≤k)(WT:k<2^63)(hj:seqIndex? k vs.length=some j)(hx:vs[j]?=some v)(h:Q v m H)
 (hs:subscripted slice false (.ref a) (.int k u)=operate [.ref a, .int k u] (getItem (.ref a) (.int k u)):=by with_unfolding_all rfl):
 AW (model prog w) A h₀ L (subscriptTail value slice (.ref a) (.int k u)) Q m H:=λs R E S kk=>by
 refine ah (S.get hm) λo e p=>?_
 exact item_tupleT (p.isTup e) qC WT hj hx (kk _ m H _ _ S h) hs
theorem lK (h0:0≤k)(hf:k<2^63)(hn:k<vs.length)(h:Q () m ((a,af (vs.set k.toNat v))::H)):
 AW (model prog w) A h₀ L (setItem (.ref a) (.int k u) v) Q m ((a,af vs)::H):=λs R E S kk=>by
 refine ah (S.get (.head _)) λo ho p=>?_
 have hl:=p.isList ho
 refine xE p λn zr101=>?_;clear p;subst zr101
 unfold setItem
 try with_reducible refine wpAny_holding ?_
 first|refine wpAny_bind (wpAny_pure ?_)|skip
 refine wpAny_bind (wpAny_sequenceKey hl.typeIs (by decide) ?_)
 refine wpAny_bind (wpAny_callSpecial?_slot (name:=Str.ofString "__setitem__") hl.typeIs slot_list_setitem
  (wpAny_call_entry slot_list_setitem hl.typeIs entry_list_setitem ?_ (args_list_setitem _ _ _)))
 show wpAny _ _ (Builtin.List.listSubscript? (.int k u)>>=_) _ _ s
 refine wpAny_bind (wpAny_listSubscript_int (fitsIndex_of h0 hf) ?_)
 clear hf
 refine xE (Int.eq_ofNat_of_zero_le h0) λj zr102=>?_;subst zr102
 have hj:j<vs.length:=by exact Int.ofNat_lt.mp ‹_›
 have hx:vs.toArray[j]?=some vs[j]:=by simp[hj]
 have fin:R () {s with heap:=s.heap.update a (Obj.mapSeq (·.setIfInBounds j v))}:=by
  refine kk _ m _ _ _ (S.upd (Heap.SameBut.update ..) (Heap.get?_update_self _ ho rfl) ⟨n,?_⟩) h
  simp[Obj.mapSeq]
 show wpAny _ _ ((seqItemAt a j>>=λr=>pure (r.map (j,·)))>>=_) _ _ s
 refine wpAny_bind (wpAny_bind (wpAny_seqItemAt ho rfl (wpAny_pure ?_)))
 refine aa hx ?_
 show wpAny _ _ (setSeqItemAt a j v>>=_) _ _ s
 refine wpAny_bind (wpAny_setSeqItemAt ho rfl ?_)
 first
  |exact wpAny_bind (wpAny_pure (wpAny_pure ⟨.none,rfl,wpAny_pure fin⟩))
  |exact wpAny_pure ⟨.none,rfl,wpAny_pure fin⟩
theorem jL (hz:vs.length≤sizeLine)(h:Q .none m ((a,af (vs++[v]))::H)):
 AW (model prog w) A h₀ L (call (.builtin "list.append") [.ref a,v]) Q m ((a,af vs)::H):=λs R E S kk=>by
 refine xE (S.lst (.head _)) λn ho=>?_
 refine append_at (hsz:=by assumption) ho λh' hs gu=>kk _ m _ _ _ (S.upd hs gu ⟨n+1,?_⟩) h
 simp
theorem Ba (hz:vs.length+1≤sizeLine)(h:Q v m ((a,af vs)::H)):
 AW (model prog w) A h₀ L (call (.builtin "list.pop") [.ref a]) Q m ((a,af (vs++[v]))::H):=λs R E S kk=>by
 refine xE (S.lst (.head _)) λn ho=>?_
 have kq:(vs++[v]).toArray.size≤sizeLine:=by refine aa List.size_toArray (aa List.length_append ?_);exact hz
 have hk:(vs++[v]).toArray.size-1=vs.length:=by refine aa List.size_toArray (aa List.length_append ?_);rfl
 have hy:(vs++[v]).toArray[(vs++[v]).toArray.size-1]?=some v:=by refine aa hk ?_;simp
 refine call_meets PySem.F.slot_list_pop ⟨_,ho,rfl⟩ PySem.F.entry_list_pop (PySem.F.args_list_pop_1 _) (PySem.MeetsSeq.list_pop_last a _ n v hy kq) ⟨ho,kk _ m _ _ _ (S.upd (Heap.SameBut.update ..) (Heap.get?_update_self _ ho rfl) ⟨n+1,?_⟩) h⟩
 have e:(vs++[v]).toArray.eraseIdxIfInBounds ((vs++[v]).toArray.size-1)=vs.toArray:=by rw[hk,kl_erase,List.append_nil]
 show Obj.mapSeq _ (listOf (vs++[v]).toArray n)=_
 simp only [Obj.mapSeq,e]
 simp
theorem fL (hm:(a,af vs)∈H)(hf:(vs.length:Int)<2^63)(h:∀t,Q (.int vs.length t) m H):
 AW (model prog w) A h₀ L (call (.builtin "len") [.ref a]) Q m H:=λs R E S kk=>by
 refine ah (S.get hm) λo e p=>?_
 refine Calls.call_len_list (p.isList e) (by assumption) (kk _ m H _ _ S ?_)
 exact h _
theorem uI (hm:(a,af vs)∈H)(hf:(vs.length:Int)<2^63)(h:Q (!vs.isEmpty) m H):
 AW (model prog w) A h₀ L (truthy (.ref a)) Q m H:=λs R E S kk=>by
 refine ah (S.get hm) λo e p=>?_
 refine wpAny_truthy_list (p.isList e) (by assumption) (kk _ m H _ _ S ?_)
 simpa using h
theorem iO {id:String}{pl:Sem Bool}{Q:Value×List Value->Loc->Led->Prop}(hm:(a,af vs)∈H)(slot:Slot "list" name id)(XR:typeOf (.builtin id)=pure (.type "method_descriptor"))
 (h:Q (.builtin id,[.ref a]) m H):AW (model prog w) A h₀ L (getMethod (.ref a) name pl) Q m H:=λs R E S kk=>by
 refine xE (S.lst hm) λn e=>?_
 exact getMethod_builtin ⟨_,e,rfl⟩ PySem.F.plainAttrs_list slot XR (λa e'=>by cases e';exact⟨_,e,rfl⟩) (kk _ m H _ _ S h)
theorem x9 (hu:A.units<cLine)(ha:(a,bf [.int x tx,p])∈H)(hb:(b,bf [.int y ty,q])∈H)(bF:x≠y)
 (h:Q (.bool (decide (x<y))) m H):AW (model prog w) A h₀ L (compareOp .Lt (.ref a) (.ref b)) Q m H:=λs R E S kk=>by
 refine xE (S.tup ha) λn e=>?_
 refine xE (S.tup hb) λn' e'=>?_
 have HK:s.TypeIs (.ref a) "tuple":=⟨_,e,rfl⟩
 have HL:s.TypeIs (.ref b) "tuple":=⟨_,e',rfl⟩
 show wpAny _ _ (richCompare .Lt (.ref a) (.ref b)) _ _ s
 refine wpAny_richCompare_same_room (op:= .Lt) HK HL PySem.F.slot_tuple_lt (wpAny_call_entry PySem.F.slot_tuple_lt HK PySem.F.entry_tuple_lt ?_ (PySem.F.args_tuple_lt_2 _ _)) hu
 show wpAny _ _ (isInstance (.ref b) (.type "tuple")>>=_) _ _ s
 refine wpAny_bind (wpAny_isInstance HL isSubtype_tuple_tuple ?_)
 simp only [Bool.not_true,Bool.false_eq_true,if_false]
 refine wpAny_bind (wpAny_tupleItemsOf e rfl ?_)
 refine wpAny_bind (wpAny_tupleItemsOf e' rfl ?_)
 refine wpAny_bind ?_
 show wpAny _ _ (forIn [((.int x tx:Value),(.int y ty:Value)),(p,q)] _ _) _ _ s
 refine aa (List.forIn_cons ..) ?_
 refine wpAny_bind (wpAny_bind (wpAny_eqBool_int ?_))
 refine aa (show(x==y)=false from beq_eq_false_iff_ne.mpr bF) ?_
 simp only [Bool.not_false,if_true]
 refine wpAny_bind (wpAny_rule ?_)
 refine wpAny_bind ?_
 refine(PyProof.Rows.lt_int (a:=x) (b:=y) ?_:wpAny _ _ (richCompare .Lt (.int x tx) (.int y ty)) _ _ s)
 exact wpAny_bind (wpAny_pure (wpAny_pure (wpAny_pure (wpAny_pure ⟨_,rfl,(λz=>nomatch z),kk _ m H _ _ S h⟩))))
end
end
section
section
variable {M:Model}{A:Around}{h₀:Heap}{L:Addr}{m:Loc}{H:Led}{env:Env}
noncomputable def nX (M:Model)(A:Around)(h₀:Heap)(L:Addr)(env:Env)(rest:List Stmt)(Q:Flow->Loc->Led->Prop):Flow->Loc->Led->Prop:=λf m H=>match f with
 | .next=>AW M A h₀ L (execs rest env) Q m H
 |f=>Q f m H
theorem gR (h:AW M A h₀ L (execs rest env) Q m H):nX M A h₀ L env rest Q .next m H:=h
theorem seqK_brk (h:Q .brk m H):nX M A h₀ L env rest Q .brk m H:=h
theorem seqK_cont (h:Q .cont m H):nX M A h₀ L env rest Q .cont m H:=h
theorem seqK_ret (h:Q (.ret v) m H):nX M A h₀ L env rest Q (.ret v) m H:=h
theorem jM {st rest}{Q:Flow->Loc->Led->Prop}(h:AW M A h₀ L (exec st env) (nX M A h₀ L env rest Q) m H):AW M A h₀ L (execs (st::rest) env) Q m H:=mQ h
theorem kP
 (h:AW M A h₀ L (eval value env) (bK M A h₀ L (storeName env x) (cK M A h₀ L (execs rest env) Q)) m H)
 (hs:swapsWith value (some (.Name x pos')) pos.line env=pure false:=by with_unfolding_all rfl):AW M A h₀ L (execs (.Assign [.Name x pos'] value pos::rest) env) Q m H:=
 mQ (mP h hs)
theorem Bc
 (h:AW M A h₀ L (eval value env) (T7 M A h₀ L (eval o env) (eval i env) DN (cK M A h₀ L (execs rest env) Q)) m H)
 (hs:swapsWith value (some (.Subscript o i pos')) pos.line env=pure false:=by with_unfolding_all rfl):AW M A h₀ L (execs (.Assign [.Subscript o i pos'] value pos::rest) env) Q m H:=
 mQ (QG h hs)
noncomputable def noRef (P:Loc->Led->Prop):Value->Loc->Led->Prop:=λv m H=>match v with| .ref _=>False|_=>P m H
theorem i8 (h:P m H):noRef P .none m H:=h
theorem noRef_int (h:P m H):noRef P (.int i t) m H:=h
theorem oE (h:AW M A h₀ L (eval e env) (noRef (nxK M A h₀ L env rest Q)) m H)
 (hi:interactive env=false:=by with_unfolding_all rfl)(hs:swapsWith e none pos.line env=pure false:=by with_unfolding_all rfl):AW M A h₀ L (execs (.Expr e pos::rest) env) Q m H:=
 mQ (Rf (rP h λv m H q=>by cases v<;>first|exact q|exact q.elim) hi hs)
theorem FW (h:AW M A h₀ L (eval e env) (Lz Q) m H):AW M A h₀ L (execs (.Return (some e) pos::rest) env) Q m H:=
 mQ (Sy h)
theorem FU (h:Q .brk m H):AW M A h₀ L (execs (.Break pos::rest) env) Q m H:=mQ (E0 h)
theorem SI (h:Q .cont m H):AW M A h₀ L (execs (.Continue pos::rest) env) Q m H:=mQ (E5 h)
theorem jf
 (h:AW M A h₀ L (isTrue test env (eval test env)) (Jt M A h₀ L env body orelse (nX M A h₀ L env rest Q)) m H):
 AW M A h₀ L (execs (.If test body orelse pos::rest) env) Q m H:=mQ (uD h)
noncomputable def wk (I:Nat->Loc->Led->Prop)(n:Nat)(Q:Flow->Loc->Led->Prop):Flow->Loc->Led->Prop:=λf m H=>match f with
 | .next| .cont=>∃k,k<n∧I k m H
 | .brk=>Q .next m H
 | .ret v=>Q (.ret v) m H
theorem qY (hk:k<n)(h:I k m H):wk I n Q .next m H:=⟨k,hk,h⟩
theorem ZJ (hk:k<n)(h:I k m H):wk I n Q .cont m H:=⟨k,hk,h⟩
theorem ZI (h:Q .next m H):wk I n Q .brk m H:=h
theorem ZK (h:Q (.ret v) m H):wk I n Q (.ret v) m H:=h
theorem rS (I:Nat->Loc->Led->Prop)
 (n:Nat)(h:I n m H)
 (turn:∀n (J:Nat->Loc->Led->Prop),(∀{k m H},I k m H->J k m H)->∀m H,I n m H->AW (model prog w) A h₀ L (isTrue test env (eval test env)) (λb m H=>if b=true then AW (model prog w) A h₀ L (execs body env) (wk J n (nX (model prog w) A h₀ L env rest Q)) m H
  else AW (model prog w) A h₀ L (execs orelse env) (nX (model prog w) A h₀ L env rest Q) m H) m H):AW (model prog w) A h₀ L (execs (.While test body orelse pos::rest) env) Q m H:=
 mQ (TG I (λn m H i=>rP (turn n I id m H i) λb m H q=>q) n h rfl)
theorem k6 [Decidable P]{X Y:Prop}(h1:P->X)(h2:¬P->Y):if decide P=true then X else Y:=by
 by_cases h:P
 ·refine qT ((decide_eq_true h)) ?_;exact h1 h
 ·refine qS ((by simpa using h)) ?_;exact h2 h
theorem jW {X Y:Prop}(h:X):if true=true then X else Y:=h
theorem vY {X Y:Prop}(h:Y):if false=true then X else Y:=h
theorem i7 {b:Bool}{X Y:Prop}(h1:b=true->X)(h2:b=false->Y):if b=true then X else Y:=by
 cases b with
 |true=>exact h1 rfl
 |false=>exact h2 rfl
theorem gF (h:Q .next m H):AW M A h₀ L (execs [] env) Q m H:=Rc h
end
end
local macro_rules
 | `(tactic|walk_at "aw_mem")=>
 `(tactic|(repeat (first|assumption|exact List.Mem.head _|refine List.Mem.tail _ ?_)))
section
def ids (s:String):Array (Lean.TSyntax `term):=(s.splitOn " ").toArray.map λs=>⟨Lean.mkIdent s.toName⟩
end
local macro_rules
 | `(tactic|walk_at "aw_step")=>do
  let y:=ids "QU QW QB F3"
  let z:=ids "QT QV QL Tw QS rO oB oH Tp Tn To Tq Tr uH F7 jg RV Rm Rh RN Q9 Se QD QC kP Bc oE FW FU SI gF gR seqK_brk seqK_cont seqK_ret ZI ZK i8 noRef_int cF"
  `(tactic|with_reducible first
  |refine Sb (by with_unfolding_all rfl) ?_
  |((fail_if_success (show AW _ _ _ _ (eval (.Subscript _ (.Slice _ _ _ _) _) _) _ _ _));refine Be ?_)
  |refine SD (by decide) λ_=>?_
  $[|(refine $y ?_;intro _)]*
  $[|refine $z ?_]*)
local macro_rules
 | `(tactic|walk_at "aw_sh")=>
 `(tactic|(try with_reducible first|show AW _ _ _ _ _ _ _ _|show if _=true then _ else _))
local macro_rules
 | `(tactic|walk_at "aw")=>
 `(tactic|((repeat walk_at "aw_step";walk_at "aw_sh")))
section
noncomputable def SubL (l m:Loc):Prop:=∀x v,lk l x=some v->lk m x=some v
theorem SubL.nil:SubL [] m:=λ_ _ e=>nomatch e
theorem SubL.cons (h:lk m y=some v)(r:SubL l m):SubL ((y,v)::l) m:=λx u e=>by
 unfold lk at e
 split at e
 ·rename_i q;subst q;refine aa h ?_;exact e
 ·exact r _ _ e
theorem SubL.refl:SubL l l:=λ_ _ e=>e
end
local macro_rules
 | `(tactic|walk_at "aw_subl")=>
 `(tactic|(repeat (first|exact SubL.nil|refine SubL.cons rfl ?_)))
section
noncomputable def fP (key:Value->Int)(H:Led)(vs:List Value):Prop:=∀v∈vs,∃r x tx p,v= .ref r∧(r,bf [.int x tx,p])∈H∧key v=x
noncomputable def dS (key:Value->Int)(x:Value)(start:Nat):Nat->List Value->Nat->List Value×Nat
 |0,vs,pos=>(vs,pos)
 |n+1,vs,pos=>if start<pos then
  (if key x<key (vs.getD ((pos-1)/2) .none) then dS key x start n (vs.set pos (vs.getD ((pos-1)/2) .none)) ((pos-1)/2) else(vs,pos))
  else(vs,pos)
theorem pP (key:Value->Int)(x:Value)(start n:Nat)(vs:List Value)(pos:Nat):dS key x start (n+1) vs pos=if start<pos then
 (if key x<key (vs.getD ((pos-1)/2) .none) then dS key x start n (vs.set pos (vs.getD ((pos-1)/2) .none)) ((pos-1)/2) else(vs,pos))
 else(vs,pos):=rfl
noncomputable def er (key:Value->Int)(vs:List Value)(start pos:Nat):List Value:=
 (dS key (vs.getD pos .none) start pos vs pos).1.set (dS key (vs.getD pos .none) start pos vs pos).2 (vs.getD pos .none)
section
variable {G:Gx}{A:Around}{h₀:Heap}{L:Addr}{m:Loc}{H:Led}{env:Env}
set_option maxHeartbeats 1000000 in
theorem siftdown_aw {start pos:Nat}{t1 t2:Tok}{Q:Value->Loc->Led->Prop}
 (C:Cx G A h₀ L env)(r:bw A 1)(D:lE G.K f (aO 7).name (aO 7).name (aO 7).params (aO 7).body (aO 7).scope bg)
 (hp:pos<vs.length)(hz:vs.length≤1000)(hi:fP key H vs)(hk:∀i j,i<j->j<vs.length->key (vs.getD i .none)≠key (vs.getD j .none))
 (h:Q .none m ((a,af (er key vs start pos))::H)):
 AW (model G.prog G.w) A h₀ L (call (.ref f) [.ref a, .int start t1, .int pos t2]) Q m ((a,af vs)::H):=by
 refine gX (n:=0) (binds:=[(Str.ofString "heap",_),(Str.ofString "startpos",_),(Str.ofString "pos",_)]) C r D (λ_ _ _ _ _=>rfl) rfl λA' g L' C' r'=>?_
 have hx:vs[pos]?=some (vs.getD pos .none):=by refine aa (List.getD_eq_getElem?_getD) (aa (List.getElem?_eq_getElem hp) ?_);rfl
 generalize vV:vs.getD pos .none=x at hx
 have hsz:(1000:Int)<2^63:=by decide
 refine bO (m':=[(Str.ofString "pos", .int pos t2),(Str.ofString "startpos", .int start t1),(Str.ofString "heap", .ref a)]) (by walk_at "aw_subl") ?_
 refine kP ?_
 walk_at "aw"
 refine cM (by walk_at "aw_mem") (by exact Int.natCast_nonneg _) (by exact KG hp hz) hx ?_
 walk_at "aw"
 refine xE (show∃fin,dS key x start pos vs pos=fin from⟨_,rfl⟩) λfin qq=>?_
 have dR:∀(p':Nat) (vs':List Value),(vs',p')=fin->vs'.set p' x=er key vs start pos:=by
  intro p' vs' e
  unfold er
  exact aa vV (aa qq (aa (Eq.symm e) rfl))
 refine rS (λn m H'=>∃(p':Nat) (t:Tok) (vs':List Value),SubL [(Str.ofString "newitem",x),(Str.ofString "pos", .int p' t),(Str.ofString "startpos", .int start t1),(Str.ofString "heap", .ref a)] m∧H'=(a,af vs')::H∧
  p'≤n∧p'≤pos∧vs'.length=vs.length∧(∀i,i<p'->vs'.getD i .none=vs.getD i .none)∧dS key x start n vs' p'=fin) pos ⟨pos,t2,vs,by walk_at "aw_subl",rfl,Nat.le_refl _,Nat.le_refl _,rfl,λ_ _=>rfl,qq⟩ ?_
 intro n J hJ m1 H1 N6;refine xEEEAAAAAA N6 λp' t vs' hm zr196 hn gv hl zk nH=>?_;clear N6;subst zr196
 refine bO hm ?_
 walk_at "aw"
 refine k6 (λaC=>?_) (λo4=>?_)
 ·have qD:start<p':=by exact Int.ofNat_lt.mp ‹_›
  refine xE (show∃k,n=k+1 from⟨n-1,by exact(ln 0x100422084010044100020004400002008821084330ac020cc01509e37900200c04).1 hn aC (Eq.refl (n-1))⟩) λn zr197=>?_;subst zr197
  have hdiv:Int.fdiv ((p':Int)-1) (2^(1:Int).toNat)=(((p'-1)/2:Nat):Int):=by
   have:((2:Int)^(1:Int).toNat)=2:=by decide
   refine aa this (aa (Int.fdiv_eq_ediv_of_nonneg _ (by decide)) ?_)
   lia
  generalize hq:(p'-1)/2=q at hdiv
  have vH:q<p':=by exact(ln 0x2100010040210402000200844208421084010cc2350c82680820bc4f21005).1 aC hq (Eq.refl ((p'-1)/2)) (Eq.refl (p'-1))
  refine xE (show∃par,vs.getD q .none=par from⟨_,rfl⟩) λpar sI=>?_
  have I2:vs'[q]?=some par:=by
   have e:=zk q vH
   rw[sI,List.getD_eq_getElem?_getD] at e
   rw[List.getElem?_eq_getElem (by exact(ln 0x20080200020080420842200800080201082108421084010cc85514c2680c2184422006209807).1 hp gv hl hq (Eq.refl ((p'-1)/2)) (Eq.refl (p'-1)))] at e ⊢
   exact(congrArg _ ‹_›)
  walk_at "aw"
  refine aa hdiv ?_
  walk_at "aw"
  refine cM (by walk_at "aw_mem") (by exact Int.natCast_nonneg _) (by exact(ln 0x108421104210850000000000000000dfcc0f20c0108c1f40bf31004109004).1 hp hz gv vH) I2 ?_
  walk_at "aw"
  refine jf ?_
  walk_at "aw"
  refine i9 (hi x (List.mem_of_getElem? hx)) λrx kx tx px uP G7 nj=>?_
  refine i9 (hi par (by
   have:vs[q]?=some par:=by
    refine aa (List.getElem?_eq_getElem (by exact(ln 0x84211042108401180221802208c04).1 hp gv vH)) ?_
    rw[List.getD_eq_getElem?_getD,List.getElem?_eq_getElem (by exact(ln 0x2008000802010822108000802110821084210802198c8a2144d014421802209406).1 hp gv hq (Eq.refl ((p'-1)/2)) (Eq.refl (p'-1)))] at sI
    simpa using sI
   exact List.mem_of_getElem? this)) λry ky ty py qh G8 nk=>?_
  have bF:kx≠ky:=by
   refine aa (Eq.symm nj) (aa (Eq.symm nk) (aa (Eq.symm vV) (aa (Eq.symm sI) ?_)))
   exact(hk q pos (by exact Nat.lt_of_lt_of_le ‹_› ‹_›) hp).symm
  subst uP qh
  refine x9 (by have:=r'.units;exact wj this) (by walk_at "aw_mem") (by walk_at "aw_mem") bF ?_
  walk_at "aw"
  have nI:dS key (.ref rx) start (n+1) vs' p'=if kx<ky then dS key (.ref rx) start n (vs'.set p' (.ref ry)) q else(vs',p'):=by
   have e1:vs'.getD ((p'-1)/2) .none= .ref ry:=by
    refine aa hq (aa (List.getD_eq_getElem?_getD) (aa I2 ?_));rfl
   exact aa (pP ..) (aa (if_pos qD ..) (aa (e1 ..) (aa (hq ..) (aa (nj ..) (aa (nk ..) rfl)))))
  refine k6 (λhc=>?_) (λhc=>?_)
  ·rw[if_pos hc] at nI
   walk_at "aw"
   refine lK (by exact pF) (by exact Zg hp hz gv) (by exact Zh hp gv hl) ?_
   walk_at "aw"
   refine ZJ (k:=n) (by exact Nat.lt_succ_self _) (hJ ⟨q,_,vs'.set p' (.ref ry),by walk_at "aw_subl",by rfl,by exact(ln 0x210882108400100219856200803).1 hn vH,by exact Nat.le_of_lt (Nat.lt_of_lt_of_le ‹_› ‹_›),by simpa using hl,λi bR=>?_,nI.symm.trans nH⟩)
   exact aa (Eq.symm (zk i (by exact Nat.lt_trans ‹_› ‹_›))) (aa (List.getD_eq_getElem?_getD) (aa (List.getD_eq_getElem?_getD) (aa (List.getElem?_set_ne (by exact(ln 0x10802208421008c20840208803).1 vH bR)) rfl)))
  ·rw[if_neg hc] at nI
   walk_at "aw"
   refine lK (by lia) (by lia) (by lia) ?_
   refine aa (Int.toNat_natCast ..) (aa (dR _ _ (nI.symm.trans nH) ..) ?_)
   walk_at "aw"
   exact h
 ·have nI:dS key x start n vs' p'=(vs',p'):=by
   cases n with
   |zero=>rfl
   |succ n=>exact aa (pP ..) (aa (if_neg (by exact(ln 0x2110421004c1781e430402).1 o4) ..) rfl)
  walk_at "aw"
  refine lK (by lia) (by lia) (by lia) ?_
  refine aa (Int.toNat_natCast ..) (aa (dR _ _ (nI.symm.trans nH) ..) ?_)
  walk_at "aw"
  exact h
end
end
section
structure FnAt (K:Frag)(i:Nat)(nm:Str)(f:Addr):Prop where
 d:∃bg,lE K f (aO i).name (aO i).name (aO i).params (aO i).body (aO i).scope bg
 n:nsIn K mainGlobals nm=some (some (.ref f))
theorem FnAt.keep {K:Frag}{i:Nat}{nm:Str}{f:Addr}(h:FnAt K i nm f):keepIn K (.ref f)=true:=let⟨_,d⟩:=h.d;d.keep
structure eu where
 (qM kY gv qx sd su:Addr)
 (n5 l9 lX qo nM rA reach:Addr)
 (host qV qX ql pQ best:Addr)
structure aT (K:Frag)(d:eu):Prop where
 Bk:nsIn K mainGlobals (Str.ofString "len")=some none
 Gl:nsIn K mainGlobals (Str.ofString "range")=some none
 Gm:nsIn K mainGlobals (Str.ofString "reversed")=some none
 Gh:nsIn K mainGlobals (Str.ofString "isinstance")=some none
 Gs:nsIn K mainGlobals (Str.ofString "str")=some none
 Bm:nsIn K mainGlobals (Str.ofString "sum")=some none
 Gj:nsIn K mainGlobals (Str.ofString "min")=some none
 Gp:nsIn K mainGlobals (Str.ofString "sorted")=some none
 Gv:nsIn K mainGlobals (Str.ofString "tuple")=some none
 Gn:nsIn K mainGlobals (Str.ofString "set")=some none
 Gi:nsIn K mainGlobals (Str.ofString "iter")=some none
 Gf:nsIn K mainGlobals (Str.ofString "bool")=some none
 Gq:nsIn K mainGlobals (Str.ofString "StopIteration")=some none
 qM:FnAt K 3 (Str.ofString "heappush") d.qM
 kY:FnAt K 4 (Str.ofString "heappop") d.kY
 gv:FnAt K 5 (Str.ofString "heappushpop") d.gv
 qx:FnAt K 6 (Str.ofString "heapify") d.qx
 sd:FnAt K 7 (Str.ofString "_siftdown") d.sd
 su:FnAt K 8 (Str.ofString "_siftup") d.su
 n5:FnAt K 17 (Str.ofString "unmatched") d.n5
 l9:FnAt K 22 (Str.ofString "split_header_words") d.l9
 lX:FnAt K 25 (Str.ofString "join_header_words") d.lX
 qo:FnAt K 27 (Str.ofString "is_HDN") d.qo
 nM:FnAt K 28 (Str.ofString "liberal_is_HDN") d.nM
 rA:FnAt K 29 (Str.ofString "user_domain_match") d.rA
 reach:FnAt K 30 (Str.ofString "reach") d.reach
 host:FnAt K 32 (Str.ofString "_law_host") d.host
 qV:FnAt K 33 (Str.ofString "_law_ladder") d.qV
 qX:FnAt K 34 (Str.ofString "_law_limits") d.qX
 ql:FnAt K 35 (Str.ofString "_law_greedy") d.ql
 pQ:FnAt K 36 (Str.ofString "_law_trimmed") d.pQ
 best:FnAt K 37 (Str.ofString "_law_best") d.best
theorem T9:bootBuiltins "isinstance"=some (.builtin "isinstance"):=by decide+kernel
theorem Ug:bootBuiltins "str"=some (.type "str"):=by decide+kernel
theorem Gy:bootBuiltins "sum"=some (.builtin "sum"):=by decide+kernel
theorem Ub:bootBuiltins "min"=some (.builtin "min"):=by decide+kernel
theorem Ud:bootBuiltins "sorted"=some (.builtin "sorted"):=by decide+kernel
theorem Uh:bootBuiltins "tuple"=some (.type "tuple"):=by decide+kernel
theorem Uc:bootBuiltins "set"=some (.type "set"):=by decide+kernel
theorem Ua:bootBuiltins "iter"=some (.builtin "iter"):=by decide+kernel
theorem T8:bootBuiltins "bool"=some (.type "bool"):=by decide+kernel
theorem Ue:bootBuiltins "StopIteration"=some (.type "StopIteration"):=by decide+kernel
section
variable {K:Frag}{M:Model}{A:Around}{h₀:Heap}{L:Addr}{m:Loc}{H H':Led}{env:Env}
theorem eO (X:K.In h₀)(hk:FnAt K i nm f)
 (h:AW M A h₀ L (spliced (backTo pos (starEach (e::rest) env))) (Bt M A h₀ L (.ref f) Q) m H)
 (he:starEach (e::rest) env=(false,eval e env)::starEach rest env:=by with_unfolding_all rfl)(iG:(backTo pos (starEach rest env)).any (·.1)=false:=by with_unfolding_all rfl):
 AW M A h₀ L (callWith pos (.ref f) [] (backTo pos (starEach (e::rest) env)) []) Q m H:=xW X hk.keep h he iG
end
section
variable {M:Model}{A:Around}{h₀:Heap}{L:Addr}{m:Loc}{H H':Led}{env:Env}
theorem QY {st rest}{Q:Flow->Loc->Led->Prop}(P:Loc->Led->Prop)(h1:AW M A h₀ L (exec st env) (λf m H=>f= .next∧P m H) m H)
 (h2:∀m H,P m H->AW M A h₀ L (execs rest env) Q m H):AW M A h₀ L (execs (st::rest) env) Q m H:=
 jM (rP h1 λf m H q=>by refine xA q λe p=>?_;clear q;subst e;exact gR (h2 m H p))
theorem Yn [Decidable P]{X Y:Prop}(h1:¬P->X)(h2:P->Y):if(!decide P)=true then X else Y:=by
 by_cases h:P
 ·refine qS ((by simp[h])) ?_;exact h2 h
 ·refine qT ((by simp[h])) ?_;exact h1 h
end
end
local macro_rules
 | `(tactic|walk_at "aw_bi")=>do
  let b:=ids "aT.Bk aT.Gl aT.Gm aT.Gh aT.Gs aT.Bm aT.Gj aT.Gp aT.Gv aT.Gn aT.Gi aT.Gf"
  let c:=ids "boot_len boot_range boot_reversed T9 Ug Gy Ub Ud Uh Uc Ua T8"
  let z:=ids "Q2 QZ Q0 Q4 Q5"
  `(tactic|with_reducible first
  $[|refine Sd (by assumption) ($b (by assumption)) $c ?_]*
  $[|refine $z ?_]*)
local macro_rules
 | `(tactic|walk_at "aww")=>do
  let z:=ids "jW vY uD"
  `(tactic|(repeat ((first
  |walk_at "aw_step"
  |walk_at "aw_bi"
  |with_reducible first $[|refine $z ?_]*);walk_at "aw_sh")))
section
noncomputable def AC (M:Model)(A:Around)(h₀:Heap)(L:Addr)(c:Code)(Q:Flow->Loc->Led->Prop)(m:Loc)(H:Led):Prop:=
 ∀(s:Shared) (R:Result->Shared->Prop),St h₀ L s.heap m H->
  (∀f m' H' h' aB,St h₀ L h' m' H'->Q f m' H'->R (.ok f) {s with heap:=h',toks:=aB})->codeAny M A c R s
@[reducible] noncomputable def ER (M:Model)(A:Around)(h₀:Heap)(L:Addr)(target:Expr)(body orelse:List Stmt)(env:Env)(Q:Flow->Loc->Led->Prop):Value->Loc->Led->Prop:=λit m H=>AC M A h₀ L (.forLoop target it body orelse env) Q m H
section
variable {prog:Program}{w:World}{A:Around}{h₀:Heap}{L:Addr}{m:Loc}{H:Led}{env:Env}
theorem Fg
 (h:AW (model prog w) A h₀ L (eval iter env) (bK (model prog w) A h₀ L pyIter (ER (model prog w) A h₀ L target body orelse env Q)) m H)
 (hs:∀x,foldedSetIterable iter env x=pure x:=by intro _;with_unfolding_all rfl):AW (model prog w) A h₀ L (exec (.For target iter body orelse pos) env) Q m H:=λs R E S k=>by
 refine wpAny_For (h s _ E S λx m1 H1 h1 aX S1 q1=>q1 _ _ E S1 λit m2 H2 h2 bC S2 q2=>?_) hs
 exact q2 _ _ S2 λf m3 H3 h3 aR S3 q3=>k _ m3 H3 h3 aR S3 q3
noncomputable def uU (it:Addr)(P:Obj->Prop)(I:Loc->Led->Prop)(Q:Flow->Loc->Led->Prop):Flow->Loc->Led->Prop:=λf m H=>match f with
 | .next| .cont=>∃H',aZ it P H H'∧I m H'
 | .brk=>Q .next m H
 | .ret v=>Q (.ret v) m H
theorem fU (p:aZ it P H H')(h:I m H'):uU it P I Q .next m H:=⟨H',p,h⟩
theorem forK_cont (p:aZ it P H H')(h:I m H'):uU it P I Q .cont m H:=⟨H',p,h⟩
theorem forK_brk (h:Q .next m H):uU it P I Q .brk m H:=h
theorem forK_ret (h:Q (.ret v) m H):uU it P I Q (.ret v) m H:=h
structure jJ (prog:Program)(w:World)(A:Around)(h₀:Heap)(L:Addr)(it:Addr)(P:Nat->Obj->Prop)(n:Nat)(item:Nat->Value->Prop)(cS:Led->Prop):Prop where
 next:∀i m H (Q:Option Value->Loc->Led->Prop),i<n->cS H->(∀v,item i v->Q (some v) m ((it,P (i+1))::H))->AW (model prog w) A h₀ L (pyNext (.ref it)) Q m ((it,P i)::H)
 done:∀m H (Q:Option Value->Loc->Led->Prop),cS H->Q none m H->AW (model prog w) A h₀ L (pyNext (.ref it)) Q m ((it,P n)::H)
 go:∀i v m H (target:Expr) (Q:Unit->Loc->Led->Prop),Q () m ((it,P i)::H)->AW (model prog w) A h₀ L (letOwnedTupleGo target (.ref it) v) Q m ((it,P i)::H)
 self:∀i m H (Q:Value->Loc->Led->Prop),Q (.ref it) m ((it,P i)::H)->AW (model prog w) A h₀ L (pyIter (.ref it)) Q m ((it,P i)::H)
theorem jJ.tE (O:jJ prog w A h₀ L it P n item cS)
 (aC:i<n)(dp:cS H)(S:St h₀ L s.heap m ((it,P i)::H))(k:∀v,item i v->∀h' aB,St h₀ L h' m ((it,P (i+1))::H)->R (some v) {s with heap:=h',toks:=aB}):wpAny (model prog w) A (pyNext (.ref it)) R E s:=
 O.next i m H (λr m2 H2=>∃v,r=some v∧item i v∧m2=m∧H2=(it,P (i+1))::H) aC dp (λv hv=>⟨v,rfl,hv,rfl,rfl⟩) s R E S λr m2 H2 h2 bC S2 q2=>by
  obtain ⟨v,rfl,hv,rfl,rfl⟩:=q2
  exact k v hv h2 bC S2
theorem iN
 (O:jJ prog w A h₀ L it P n item cS)(I:Nat->Loc->Led->Prop)(dep:∀i m H,I i m H->cS H)
 (turn:∀i (J:Loc->Led->Prop),(∀{m H},I (i+1) m H->J m H)->∀v m H,i<n->item i v->I i m H->AW (model prog w) A h₀ L (assign target env v) (cK (model prog w) A h₀ L (execs body env) (uU it (P (i+1)) J Q)) m ((it,P (i+1))::H))
 (fin:∀m H,I n m H->AW (model prog w) A h₀ L (execs orelse env) Q m H)(k7:Nat)(Ci:k7≤n)(h:I k7 m H):
 AC (model prog w) A h₀ L (.forLoop target (.ref it) body orelse env) Q m ((it,P k7)::H):=λs R S k=>by
 refine codeAny_forLoop_any (λj s'=>∃i m H h' aB,i≤n∧j=n-i∧s'={s with heap:=h',toks:=aB}∧St h₀ L h' m ((it,P i)::H)∧I i m H) (λj s' hI=>?_) (n-k7) ⟨k7,m,H,_,_,Ci,rfl,rfl,S,h⟩
 refine Mv hI λi m1 H1 h1 aX hi zr108 zr109 S1 i1=>?_;clear hI;subst zr108;subst zr109
 by_cases aC:i<n
 ·refine O.tE aC (dep _ _ _ i1) S1 λv hv h2 bC S2=>?_
  refine Ac (O.go (i+1) v m1 H1 target _ ⟨rfl,rfl⟩) S2 λ_ h3 aR S3=>?_
  refine turn i (I (i+1)) id v m1 H1 aC hv i1 _ _ _ S3 λ_ m4 H4 h4 iw S4 q4=>?_
  refine q4 _ _ _ S4 λf m5 H5 h5 gT S5 q5=>?_
  cases f with
  |next=>refine ah q5 λH' p iv=>?_;clear q5;exact⟨n-(i+1),by exact Nat.sub_lt_sub_left ‹_› (Nat.lt_succ_self _),i+1,m5,H',h5,gT,aC,rfl,rfl,S5.perm p.perm,iv⟩
  |cont=>refine ah q5 λH' p iv=>?_;clear q5;exact⟨n-(i+1),by exact JS aC (Eq.refl (n-i)) (Eq.refl (n-(i+1))),i+1,m5,H',h5,gT,aC,rfl,rfl,S5.perm p.perm,iv⟩
  |brk=>exact k _ m5 H5 h5 gT S5 q5
  |ret v=>exact k _ m5 H5 h5 gT S5 q5
 ·obtain rfl:i=n:=by exact zR hi aC
  refine iu (O.done m1 H1 _ (dep _ _ _ i1) ⟨rfl,rfl,rfl⟩) S1 λh2 bC S2=>?_
  exact fin m1 H1 i1 _ _ _ S2 λf m3 H3 h3 aR S3 q3=>k _ m3 H3 h3 aR S3 q3
theorem St.ext (S:St h₀ L h m ((a,P)::H))(hs:Heap.ExtBut a h h'):St h₀ L h' m H:=by
 refine ah S.fr λmf F g=>?_
 refine j4 (S.nw _ (.head _)) λo₁ yw _ n1 n2=>?_
 have nd:=S.nd
 rw[List.map_cons,List.nodup_cons] at nd
 refine⟨⟨mf,⟨F.ns.extBut hs (Ne.symm n1),λb x e=>hs _ _ ?_ (F.keep b x e),F.above⟩,g⟩,λq hq=>?_,nd.2⟩
 ·intro q;subst q;rw[n2] at e;cases e
 ·refine ah (S.nw q (.tail _ hq)) λo' e' r=>?_
  refine⟨o',hs _ _ ?_ e',r⟩
  intro z
  exact nd.1 (List.mem_map.mpr ⟨q,hq,z⟩)
noncomputable def c7 (h₀:Heap)(l:Addr)(vs:List Value)(H:Led):Prop:=(l,af vs)∈H∨h₀.IsList l vs.toArray
theorem c7.at (x:c7 h₀ l vs H)(S:St h₀ L h m H):h.IsList l vs.toArray:=by
 rcases x with x|x
 ·refine ah (S.get x) λo e p=>?_;exact p.isList e
 ·refine ah x λo e r=>?_;clear x;exact⟨o,S.keep _ _ e,r⟩
theorem c7.more (x:c7 h₀ l vs H):c7 h₀ l vs (p::H):=x.imp (λy=> .tail _ y) id
noncomputable def fu (l:Addr)(i:Nat):Obj->Prop:=λo=>o.cls= .type "list_iterator"∧o.data= .fields #[.ref l, .int i 0]
theorem fu.at {h:Heap}{it l:Addr}{i:Nat}{o:Obj}(e:h.get? it=some o)(p:fu l i o):h.IsListIter it l i:=⟨o,e,p⟩
theorem St.cL (S:St h₀ L h m H)(hp:P o)(hf:o.isFreed=false:=by with_unfolding_all rfl):St h₀ L (h.push o) m ((h.objs.size,P)::H):=S.push hf hp
theorem gZ (x:c7 h₀ l vs H)(h:∀it,Q (.ref it) m ((it,fu l 0)::H)):AW (model prog w) A h₀ L (pyIter (.ref l)) Q m H:=λs R E S k=>
 wpAny_pyIter_list (x.at S) (k _ m _ _ _ (S.cL (P:=fu l 0) ⟨rfl,rfl⟩) (h _))
theorem wV (ho:s.heap.get? it=some o)(hc:o.cls= .type n)
 (hn:(["enumerate","zip","dict_itemiterator","dict_reverseitemiterator","odict_iterator","itertools.zip_longest","itertools.pairwise"]:List String).contains n=false)(h:Q () s):wpAny M A (letOwnedTupleGo target (.ref it) v) Q E s:=by
 have key:wpAny M A (letOwnedTupleGo (.Tuple [] 0 ⟨0,0,0,0⟩) (.ref it) v) Q E s:=by
  cases v<;>first
   |exact wpAny_pure h
   |(refine wpAny_bind (wpAny_load ho ?_)
     refine aa hc ?_
     generalize o.data=d
     cases d<;>first
      |exact wpAny_pure h
      |(show wpAny M A (if(_&&_)=true then _ else pure ()) Q E s;refine aa hn ?_;exact wpAny_pure h))
 cases target<;>first|exact wpAny_pure h|exact key
theorem gw {it l:Addr}{vs:List Value}(hh:A.handled=none):jJ prog w A h₀ L it (fu l) vs.length (λi v=>vs[i]?=some v) (c7 h₀ l vs) where
 next:=λi m H Q hi d h s R E S k=>by
  refine ah (S.get (.head _)) λo e p=>?_
  have hx:vs[i]?=some (vs[i]'hi):=List.getElem?_eq_getElem hi
  refine wpAny_pyNext_list_item (p.at e) (d.more.at S) (x:=vs[i]'hi) (by refine aa (List.getElem?_toArray) ?_;exact hx) λh' hit hs=>?_
  refine ah hit λo' e' p'=>?_;clear hit
  exact k _ m _ _ _ (S.upd hs e' p') (h _ hx)
 done:=λm H Q d h s R E S k=>by
  refine ah (S.get (.head _)) λo e p=>?_
  exact wpAny_pyNext_list_end hh (p.at e) (d.more.at S) (by simp) λh' hs=>k _ m _ _ _ (S.ext hs) h
 go:=λi v m H target Q h s R E S k=>by
  refine ah (S.get (.head _)) λo e p=>?_
  exact wV e p.1 (by decide) (k _ m _ _ _ S h)
 self:=λi m H Q h s R E S k=>by
  refine ah (S.get (.head _)) λo e p=>?_
  exact wpAny_pyIter_listiter (p.at e) (k _ m _ _ _ S h)
noncomputable def eB (a b c:Int):Obj->Prop:=λo=>∃t u v,o={cls:= .type "range",data:= .fields #[.int a t, .int b u, .int c v]}
noncomputable def iL (a c:Int)(n i:Nat):Obj->Prop:=λo=>o={cls:= .type "range_iterator",data:= .fields #[rawInt (a+c*i),rawInt ((n:Int)-i),rawInt c]}
theorem mU (h:∀r,Q (.ref r) m ((r,eB 0 n 1)::H)):AW (model prog w) A h₀ L (call (.type "range") [.int n t]) Q m H:=λs R E S k=>
 call_range_1 (k _ m _ _ _ (S.cL (P:=eB 0 n 1) ⟨_,_,_,rfl⟩) (h _))
theorem Sv (h:∀r,Q (.ref r) m ((r,eB a b 1)::H)):AW (model prog w) A h₀ L (call (.type "range") [.int a t, .int b u]) Q m H:=λs R E S k=>
 call_range_2 (k _ m _ _ _ (S.cL (P:=eB a b 1) ⟨_,_,_,rfl⟩) (h _))
theorem mR {n:Nat}{Q:Value->Loc->Led->Prop}(hm:(r,eB a b c)∈H)(vL:Builtin.Range.small a b c=true)(hn:Builtin.Range.rangeSize a b c=(n:Int))(h:∀it,Q (.ref it) m ((it,iL a c n 0)::H)):
 AW (model prog w) A h₀ L (pyIter (.ref r)) Q m H:=λs R E S k=>by
 refine Mt (S.get hm) λo e t u v zr118=>?_;subst zr118
 refine wpAny_pyIter_range (t:=t) (u:=u) (v:=v) e vL (k _ m _ _ _ (S.cL (P:=iL a c n 0) ?_) (h _))
 show _=_
 refine aa hn ?_;simp
theorem lW (hh:A.handled=none):jJ prog w A h₀ L it (iL a c n) n (λi v=>∃t,v= .int (a+c*i) t) (λ_=>True) where
 next:=λi m H Q hi d h s R E S k=>by
  refine ah (S.get (.head _)) λo e p=>?_
  subst p
  refine wpAny_pyNext_range_item e (by exact(ln 0x4220842f03d809900108402).1 hi) λh' hit hs=>?_
  refine k _ m _ _ _ (S.upd hs hit ?_) (h _ ⟨_,rfl⟩)
  show _=_
  have e1:a+c*(i:Int)+c=a+c*((i+1:Nat):Int):=by refine aa (Int.natCast_add ..) (aa (Int.mul_add ..) ?_);simp[Int.add_assoc]
  have e2:(n:Int)-i-1=n-((i+1:Nat):Int):=by simp+arith
  exact aa e1 (aa e2 rfl)
 done:=λm H Q d h s R E S k=>by
  refine ah (S.get (.head _)) λo e p=>?_
  subst p
  exact wpAny_pyNext_range_end hh e (by simp+arith) λh' hs=>k _ m _ _ _ (S.ext hs) h
 go:=λi v m H target Q h s R E S k=>by
  refine ah (S.get (.head _)) λo e p=>?_
  subst p
  exact wV e rfl (by decide) (k _ m _ _ _ S h)
 self:=λi m H Q h s R E S k=>by
  refine ah (S.get (.head _)) λo e p=>?_
  subst p
  exact wpAny_pyIter_rangeiter e (k _ m _ _ _ S h)
theorem bQ (h:AW (model prog w) A h₀ L (storeName env x v) Q m H):AW (model prog w) A h₀ L (assign (.Name x pos) env v) Q m H:=
 λs R E S k=>wpAny_assign_Name (h s R E S k)
end
end
section
section
variable {prog:Program}{w:World}{A:Around}{h₀:Heap}{L:Addr}{m:Loc}{H:Led}{env:Env}
theorem St.Vr (S:St h₀ L h m H)(hs:Heap.ExtBut h.objs.size h h'):St h₀ L h' m H:=
 S.keeps λb o e=>hs b o (Nat.ne_of_lt (Heap.lt_size e)) e
@[reducible] noncomputable def GV (P:List Value->Obj->Prop)(Q:Value->Loc->Led->Prop):List Value->Loc->Led->Prop:=λvs m H=>vs.length≤sizeLine∧∀t,Q (.ref t) m ((t,P vs)::H)
theorem rT
 (h:AW (model prog w) A h₀ L (spliced (backTo pos (starEach elts env))) (GV bf Q) m H):AW (model prog w) A h₀ L (eval (.Tuple elts k pos) env) Q m H:=λs R E S kk=>
 Tuple_ (h s _ E S λvs m1 H1 h1 aX S1 q1=>wpAny_newObj_type (kk _ m1 _ _ _ (S1.cL (P:=bf vs) ⟨0,rfl⟩) (q1.2 _)) (by show vs.toArray.size≤sizeLine;refine aa List.size_toArray ?_;exact q1.1))
theorem dF
 (h:AW (model prog w) A h₀ L (spliced (backTo pos (starEach elts env))) (GV af Q) m H):AW (model prog w) A h₀ L (eval (.List elts pos) env) Q m H:=λs R E S kk=>
 List_ (h s _ E S λvs m1 H1 h1 aX S1 q1=>wpAny_newObj_type (kk _ m1 _ _ _ (S1.cL (P:=af vs) ⟨0,rfl⟩) (q1.2 _)) (by show vs.toArray.size≤sizeLine;refine aa List.size_toArray ?_;exact q1.1))
theorem oJ (hh:A.handled=none)(hm:(t,bf [v1,v2])∈H)
 (h:AW (model prog w) A h₀ L (assign e1 env v1) (cK (model prog w) A h₀ L (assign e2 env v2) Q) m H)
 (he:assignEach [e1,e2] env=[(false,assign e1 env),(false,assign e2 env)]:=by with_unfolding_all rfl):
 AW (model prog w) A h₀ L (assign (.Tuple [e1,e2] k pos) env (.ref t)) Q m H:=λs R E S kk=>by
 refine ah (S.get hm) λo e p=>?_
 refine assign_Tuple_tuple hh (p.isTup e) (by refine aa he ?_;rfl) (by refine aa he ?_;rfl) λh' hs=>?_
 refine aa he ?_
 show wpAny _ _ (assignInOrder [assign e1 env,assign e2 env] [v1,v2]) _ _ _
 refine assignInOrder_cons (h _ _ _ (S.Vr hs) λ_ m1 H1 h1 aX S1 q1=>?_)
 refine assignInOrder_cons (q1 _ _ _ S1 λ_ m2 H2 h2 bC S2 q2=>?_)
 exact assignInOrder_nil (kk _ m2 H2 h2 bC S2 q2)
theorem QH
 (h:AW (model prog w) A h₀ L (eval o env) (mY (model prog w) A h₀ L (eval i env) (DN v) Q) m H):
 AW (model prog w) A h₀ L (assign (.Subscript o i pos) env v) Q m H:=λs R E S kk=>by
 refine aa (assign_Subscript ..) ?_
 refine wpAny_bind (wpAny_holding (h s _ E S λov m1 H1 h1 aX S1 q1=>wpAny_bind (wpAny_holding (q1 _ _ _ S1 λiv m2 H2 h2 bC S2 q2=>wpAny_bind (wpAny_standAt (wpAny_bind (wpAny_holding (q2 _ _ _ S2 λ_ m3 H3 h3 aR S3 q3=>?_))))))))
 exact λΓ p hΓ=>by refine aa (Sem.wp_release ..) ?_;exact kk _ m3 H3 h3 aR S3 q3
theorem yd
 (h:AW (model prog w) A h₀ L (eval value env) (bK (model prog w) A h₀ L (assign (.Tuple elts k tS) env) (cK (model prog w) A h₀ L (execs rest env) Q)) m H)
 (hs:swapsWithSole [.Tuple elts k tS] value pos.line env=pure false:=by with_unfolding_all rfl)
 (hw:swappedStores [.Tuple elts k tS] value env=pure none:=by with_unfolding_all rfl):AW (model prog w) A h₀ L (execs (.Assign [.Tuple elts k tS] value pos::rest) env) Q m H:=
 jM λs R E S kk=>Assign_Tuple (h s _ E S λv m1 H1 h1 aX S1 q1=>q1 _ _ _ S1 λ_ m2 H2 h2 bC S2 q2=>kk _ m2 H2 h2 bC S2 (gR q2)) hs hw
theorem xZ (hb:b≠0)(hs:b.natAbs<1073741824)(h:∀t,Q (.int (a.fdiv b) t) m H):AW (model prog w) A h₀ L (binaryOp .FloorDiv (.int a t) (.int b u)) Q m H:=
 λs R E S k=>floordiv_int (t:=t) (u:=u) hb (k _ m H _ _ S (h _)) (.inl (PyProof.noPylong_small hs))
theorem je
 (h:AW (model prog w) A h₀ L (eval iter env) (bK (model prog w) A h₀ L pyIter (ER (model prog w) A h₀ L target body orelse env (nX (model prog w) A h₀ L env rest Q))) m H)
 (hs:∀x,foldedSetIterable iter env x=pure x:=by intro _;with_unfolding_all rfl):AW (model prog w) A h₀ L (execs (.For target iter body orelse pos::rest) env) Q m H:=jM (Fg h hs)
theorem UJ (hr:IsRange s.heap r a b c t u v)(hn:Builtin.Range.rangeSize a b c=(n:Int))
 (vL:(Builtin.Range.rangeFitsLong a&&Builtin.Range.rangeFitsLong b&&Builtin.Range.rangeFitsLong c&&Builtin.Range.rangeFitsLong (-c)&&Builtin.Range.rangeFitsLong (a-c)&&Builtin.Range.rangeFitsLong (n:Int))=true)
 (h:Q₁ (.ref s.heap.objs.size) {s with heap:=s.heap.push {cls:= .type "range_iterator",data:= .fields #[rawInt (a+(n-1)*c),rawInt n,rawInt (-c)]}}):
 codeAny (model prog w) A (.call (.builtin "reversed.__new__") ⟨[.type "reversed", .ref r],[]⟩) (wants Q₁ E) s:=by
 have hT:s.TypeIs (.ref r) "range":=⟨_,hr,rfl⟩
 refine codeAny_of_tree ?_
 show wpAny _ A.in1 (do checkBuiltinCall "reversed.__new__" ⟨[.type "reversed", .ref r],[]⟩;again (.builtin "reversed.__new__" ⟨[.type "reversed", .ref r],[]⟩)) _ _ s
 refine wpAny_bind (wpAny_of_eq (PySem.F.newCall_reversed_1 _) (wpAny_pure ⟨plainId_quiet PySem.F.plain_reversed_new _,codeAny_builtin PySem.F.entry_reversed_new ?_⟩))
 refine aa (Around.under_plainId PySem.F.plain_reversed_new _) ?_
 unfold Builtin.«reversed.__new__»
 refine wpAny_bind (wpAny_of_eq (newClass_reversed _) ?_)
 try dsimp only
 refine wpAny_bind (wpAny_of_eq (a:=()) (by first|rfl|kernel_rfl) ?_)
 refine wpAny_bind (wpAny_of_eq (a:=()) (by first|rfl|kernel_rfl) ?_)
 try dsimp only
 refine wpAny_bind (wpAny_specialOf hT PySem.F.slot_range_reversed.lookup ?_)
 try dsimp only
 refine wpAny_bind (wpAny_of_eq (PySem.F.slot_range_reversed.bind _) ?_)
 try dsimp only
 first
 |refine aa (if_neg (show¬((Value.builtin "range.__reversed__"==Value.none)=true) from Bool.false_ne_true)) ?_
 |(show wpAny _ _ (if(Value.builtin "range.__reversed__"==Value.none)=true then _ else _) _ _ _;rw[if_neg (show¬((Value.builtin "range.__reversed__"==Value.none)=true) from Bool.false_ne_true)])
 refine wpAny_bind (wpAny_rule ?_)
 refine wpAny_bind (m:=runValue (.call (.builtin "range.__reversed__") ⟨[.ref r],[]⟩)) (show wpAny _ _ (call (.builtin "range.__reversed__") [.ref r]) _ _ _ from ?_)
 refine wpAny_call_entry PySem.F.slot_range_reversed hT PySem.F.entry_range_reversed ?_ (PySem.F.args_range_reversed_1 _)
 unfold Builtin.«range.__reversed__»
 refine wpAny_bind (wpAny_of_eq (a:=Value.ref r) rfl ?_)
 refine wpAny_bind (m:=Builtin.Range.rangeFields (.ref r)) (Q:=_) ?_
 unfold Builtin.Range.rangeFields
 refine wpAny_bind (wpAny_field hr rfl (x:= .int a t) rfl ?_)
 refine wpAny_bind (wpAny_of_eq (a:=some a) rfl ?_)
 refine wpAny_bind (wpAny_field hr rfl (x:= .int b u) rfl ?_)
 refine wpAny_bind (wpAny_of_eq (a:=some b) rfl ?_)
 refine wpAny_bind (wpAny_field hr rfl (x:= .int c v) rfl ?_)
 refine wpAny_bind (wpAny_of_eq (a:=some c) rfl ?_)
 refine wpAny_pure ?_
 dsimp only
 refine aa hn (aa vL ?_)
 simp only [Bool.not_true,Bool.false_eq_true,if_false,if_true]
 first
  |exact wpAny_bind (wpAny_newObj_type (wpAny_pure ⟨_,rfl,wpAny_bind (wpAny_pure (wpAny_pure h))⟩))
  |exact wpAny_bind (wpAny_pure (wpAny_bind (wpAny_newObj_type (wpAny_pure ⟨_,rfl,wpAny_bind (wpAny_pure (wpAny_pure h))⟩))))
  |exact wpAny_bind (wpAny_newObj_type (wpAny_pure ⟨_,rfl,wpAny_pure h⟩))
theorem Sz {n:Nat}{Q:Value->Loc->Led->Prop}(hm:(r,eB a b c)∈H)(hn:Builtin.Range.rangeSize a b c=(n:Int))
 (vL:(Builtin.Range.rangeFitsLong a&&Builtin.Range.rangeFitsLong b&&Builtin.Range.rangeFitsLong c&&Builtin.Range.rangeFitsLong (-c)&&Builtin.Range.rangeFitsLong (a-c)&&Builtin.Range.rangeFitsLong (n:Int))=true)
 (h:∀it,Q (.ref it) m ((it,iL (a+(n-1)*c) (-c) n 0)::H)):AW (model prog w) A h₀ L (call (.type "reversed") [.ref r]) Q m H:=λs R E S kk=>by
 refine Mt (S.get hm) λo e t u v zr119=>?_;subst zr119
 have hT:s.TypeIs (.ref r) "range":=⟨_,e,rfl⟩
 refine callType_other (U:="range_iterator") (Q₁:=λobj cX=>obj= .ref s.heap.objs.size∧cX={s with heap:=s.heap.push {cls:= .type "range_iterator",data:= .fields #[rawInt (a+(n-1)*c),rawInt n,rawInt (-c)]}}) (by decide+kernel) PySem.F.create_reversed ⟨_,_,PySem.F.mro_reversed⟩ PySem.F.made_reversed
  (by refine aa (isSubtype_type ..) ?_;kernel_rfl) (PySem.F.typeCall_reversed_1 _) (UJ (t:=t) (u:=u) (v:=v) e hn vL ⟨rfl,rfl⟩) ?_
 intro obj cX Nm;refine xA Nm λzr120 zr121=>?_;clear Nm;subst zr120;subst zr121
 refine⟨⟨_,Heap.get?_push_size _ rfl,rfl⟩,kk _ m _ _ _ (S.cL (P:=iL (a+(n-1)*c) (-c) n 0) ?_) (h _)⟩
 show _=_
 simp
theorem RA (hm:(it,iL a c n i)∈H)(h:Q (.ref it) m H):AW (model prog w) A h₀ L (pyIter (.ref it)) Q m H:=λs R E S kk=>by
 refine ah (S.get hm) λo e p=>?_
 subst p
 exact wpAny_pyIter_rangeiter e (kk _ m H _ _ S h)
end
end
section
noncomputable def bP (mc:Loc):Obj->Prop:=λo=>∃(es:_) (ep:_) (mf:Str->Option Value),o.data= .dict es ep∧StrKeys es∧(∀x,nsFind es x=mf x)∧∀x v,lk mc x=some v->mf x=some v
theorem bP.ns {h:Heap}{a:Addr}{mc:Loc}{o:Obj}(e:h.get? a=some o)(p:bP mc o):∃mf,h.Ns a mf∧∀x v,lk mc x=some v->mf x=some v:=by
 refine Ao p λes ep mf h1 h2 h3 h4=>?_;clear p
 exact⟨mf,⟨o,es,ep,e,h1,h2,h3⟩,h4⟩
theorem bP.of {h:Heap}{a:Addr}{mf:Str->Option Value}{mc:Loc}(n:h.Ns a mf)(g:∀x v,lk mc x=some v->mf x=some v):∃o,h.get? a=some o∧bP mc o:=by
 refine Ao n λo es ep e h1 h2 h3=>?_;clear n
 exact⟨o,e,es,ep,mf,h1,h2,h3,g⟩
noncomputable def iP:Nat->List (Str×NameKind)->Led
 |_,[]=>[]
 |n,(_,k)::r=>if k== .cell then iP (n+1) r++[(n,aE none)] else iP n r
section
variable {prog:Program}{w:World}{A:Around}{h₀:Heap}{L:Addr}{m:Loc}{H:Led}{env:Env}
theorem St.pushCells:∀(names:List (Str×NameKind)) (h:Heap) (H:Led),St h₀ L h m H->St h₀ L (pushCells h names) m (iP h.objs.size names++H)
 |[],h,H,S=>S
 |(x,k)::r,h,H,S=>by
  unfold PySem.pushCells iP
  by_cases hk:(k==NameKind.cell)=true
  ·refine aa (if_pos hk) (aa (if_pos hk) ?_)
   have:=St.pushCells r (h.push {cls:= .type "cell",data:= .cell none}) _ (S.cL (P:=aE none) rfl)
   rw[Heap.size_push] at this
   refine aa (List.append_assoc ..) ?_
   exact this
  ·refine aa (if_neg hk) (aa (if_neg hk) ?_)
   exact St.pushCells r h H S
noncomputable abbrev oK (scope:Scope)(cl:List (Str×Addr))(C:Addr)(env:Env):Env:=compEnvC scope (cellsFrom (C+1) scope.names cl) C env
inductive Bx (it:Addr)(P:Obj->Prop)(C D:Addr)(J:List Value->Led->Prop)(m m':Loc)(H:Led):Prop
 |mk (e:m'=m) (mc ys H1 H2 H3) (p1:aZ it P H H1) (p2:aZ C (bP mc) H1 H2) (p3:aZ D (af ys) H2 H3) (j:J ys H3)
inductive GJ (it:Addr)(P:Obj->Prop)(C D:Addr)(J:List Value->Led->Prop)(m:Loc)(x:Value)(m':Loc)(H:Led):Prop
 |mk (e:m'=m) (mc ys H1 H2 H3) (p1:aZ it P H H1) (p2:aZ C (bP mc) H1 H2) (p3:aZ D (af ys) H2 H3) (z:ys.length≤sizeLine) (j:J (ys++[x]) H3)
noncomputable def yl (ifs:List Expr)(env:Env):Sem Bool:=forIn ifs true λc r=>if r=true then do let ok<-isTrue c env (eval c env);pure (ForInStep.yield ok) else pure (ForInStep.yield r)
theorem Qj
 (O:jJ prog w A h₀ L it P n item cS)(hD:∀p H,cS H->cS (p::H))(J:Nat->List Value->Led->Prop)(dep:∀i ys X,J i ys X->cS X)
 (turn:∀i v mc ys X,i<n->item i v->J i ys X->AW (model prog w) A h₀ L (assign target gG v) (λ_ m' H=>AW (model prog w) A h₀ L (yl ifs gG) (λok m' H=>
  if ok=true then AW (model prog w) A h₀ L (eval elt gG) (GJ it (P (i+1)) C D (J (i+1)) m) m' H else Bx it (P (i+1)) C D (J (i+1)) m m' H) m' H) m ((C,bP mc)::(it,P (i+1))::(D,af ys)::X))
 (h:J 0 ys X)(s:Shared)(S:St h₀ L s.heap m ((it,P 0)::(C,bP mc)::(D,af ys)::X))
 (k:∀mc ys X h' aB,St h₀ L h' m ((C,bP mc)::(D,af ys)::X)->J n ys X->R (.ok .next) {s with heap:=h',toks:=aB}):
 codeAny (model prog w) A (.compLoop (.ListComp elt [⟨target,iter,ifs,0⟩] scope pos) 0 (.ref it) (.ref D) gG) R s:=by
 refine codeAny_loop rfl (λj s'=>∃i mc ys X h' aB,i≤n∧j=n-i∧s'={s with heap:=h',toks:=aB}∧St h₀ L h' m ((it,P i)::(C,bP mc)::(D,af ys)::X)∧J i ys X) (λj s' hI=>?_) n ⟨0,mc,ys,X,_,_,Nat.zero_le _,rfl,rfl,S,h⟩
 refine My hI λi wm w4 X1 h1 aX hi zr122 zr123 S1 i1=>?_;clear hI;subst zr122;subst zr123
 show wpAny _ A ((compTurn (.ListComp elt [⟨target,iter,ifs,0⟩] scope pos) 0 (.ref it) (.ref D) gG).onRaise (λx=>do noteFrame x gG;theTreesLotGoes x)) _ _ _
 refine wpAny_noted ?_
 refine aa (compTurn_list ..) ?_
 refine wpAny_bind (wpAny_standAt (wpAny_bind ?_))
 have dp:cS ((C,bP wm)::(D,af w4)::X1):=hD _ _ (hD _ _ (dep _ _ _ i1))
 have nx:∀(m5:Loc) (H5:Led) (h5:Heap) (gT:Nat),i<n->St h₀ L h5 m5 H5->Bx it (P (i+1)) C D (J (i+1)) m m5 H5->
  ∃k,k<n-i∧∃i mc ys X h' aB,i≤n∧k=n-i∧({s with heap:=h5,toks:=gT}:Shared)={s with heap:=h',toks:=aB}∧St h₀ L h' m ((it,P i)::(C,bP mc)::(D,af ys)::X)∧J i ys X:=by
  intro m5 H5 h5 gT aC S5 q5
  obtain ⟨rfl,ic,gb,H1,H2,H3,p1,p2,p3,j⟩:=q5
  exact⟨n-(i+1),by exact Nat.sub_lt_sub_left ‹_› (Nat.lt_succ_self _),i+1,ic,gb,H3,h5,gT,aC,rfl,rfl,S5.perm (p1.perm.trans ((p2.perm.trans (p3.perm.cons _)).cons _)),j⟩
 by_cases aC:i<n
 ·refine O.tE aC dp S1 λv hv h2 bC S2=>?_
  refine wpAny_bind (Ac (O.go (i+1) v m _ target _ ⟨rfl,rfl⟩) S2 λ_ h3 aR S3=>?_)
  refine wpAny_bind (turn i v wm w4 X1 aC hv i1 _ _ _ (S3.perm (.swap _ _ _)) λ_ m4 H4 h4 iw S4 q4=>?_)
  refine wpAny_bind (q4 _ _ _ S4 λok m5 H5 h5 gT S5 q5=>?_)
  cases ok with
  |false=>exact wpAny_pure ⟨rfl,nx _ _ _ _ aC S5 q5⟩
  |true=>
   refine wpAny_bind (wpAny_bind (q5 _ _ _ S5 λx m6 H6 h6 wM S6 q6=>?_))
   obtain ⟨e6,ic,gb,H1,H2,H3,p1,p2,p3,hz,j⟩:=q6
   have S7:=S6.perm (p1.perm.trans ((p2.perm.trans (p3.perm.cons _)).cons _))
   refine wpAny_bind (iu (jL hz ⟨rfl,rfl,rfl⟩) (S7.perm ((List.Perm.cons _ (.swap _ _ _)).trans (.swap _ _ _))) λh7 tk7 S7=>?_)
   exact wpAny_pure (wpAny_pure ⟨rfl,nx _ _ _ _ aC S7 ⟨e6,ic,gb++[x],_,_,_, .tail .head, .tail .head, .head,j⟩⟩)
 ·obtain rfl:i=n:=by exact zR hi aC
  refine iu (O.done m _ _ dp ⟨rfl,rfl,rfl⟩) S1 λh2 bC S2=>?_
  exact wpAny_pure (k _ _ _ _ _ S2 i1)
inductive PT (prog:Program)(w:World)(A:Around)(h₀:Heap)(L:Addr)(elt target:Expr)(ifs:List Expr)(scope:Scope)(cl:List (Str×Addr))(env:Env)(Q:Value->Loc->Led->Prop)(m:Loc)
 (it:Addr)(P:Nat->Obj->Prop)(n:Nat)(item:Nat->Value->Prop)(cS:Led->Prop)(X:Led)(C D:Addr):Prop
 |mk (J:Nat->List Value->Led->Prop) (dep:∀i ys X,J i ys X->cS X) (h:J 0 [] (iP (C+1) scope.names++X))
  (turn:∀i v mc ys X,i<n->item i v->J i ys X->AW (model prog w) A h₀ L (assign target (oK scope cl C env) v) (λ_ m' H=>AW (model prog w) A h₀ L (yl ifs (oK scope cl C env)) (λok m' H=>
   if ok=true then AW (model prog w) A h₀ L (eval elt (oK scope cl C env)) (GJ it (P (i+1)) C D (J (i+1)) m) m' H else Bx it (P (i+1)) C D (J (i+1)) m m' H) m' H) m ((C,bP mc)::(it,P (i+1))::(D,af ys)::X))
  (fin:∀mc ys X,J n ys X->Q (.ref D) m ((C,bP mc)::(D,af ys)::X))
inductive AJ (prog:Program)(w:World)(A:Around)(h₀:Heap)(L:Addr)(elt target:Expr)(ifs:List Expr)(scope:Scope)(cl:List (Str×Addr))(env:Env)(Q:Value->Loc->Led->Prop)(qU:Value)(m:Loc)(H:Led):Prop
 |mk (it P n item cS X) (e1:qU= .ref it) (e2:H=(it,P 0)::X) (io:jJ prog w A h₀ L it P n item cS) (hD:∀p H,cS H->cS (p::H))
  (k:∀C D,PT prog w A h₀ L elt target ifs scope cl env Q m it P n item cS X C D)
theorem GL (dU:Shared)(xT:St h₀ L dU.heap m H)
 (O:AJ prog w A h₀ L elt target ifs scope cl env Q qU m H){RR:Value->Addr->Result->Shared->Prop}
 (BY:∀C D mc H' h' aB,Q (.ref D) m ((C,bP mc)::H')->St h₀ L h' m ((C,bP mc)::H')->RR (.ref D) C (.ok .next) {dU with heap:=h',toks:=aB}):
 wpAny (model prog w) A (newList []) (λacc kF=>wpAny (model prog w) A (newFunctionEnv scope env.globals cl [] env.qual none .none (some env)) (λgG DW=>
  codeAny (model prog w) A (.compStart (.ListComp elt [⟨target,iter,ifs,0⟩] scope pos) 0 qU acc {gG with scope:=relabel scope env}) (RR acc gG.locals) DW) E kF) E dU:=by
 obtain ⟨it,P,n,item,cS,X,rfl,rfl,IO,hD,hJ⟩:=O
 refine wpAny_newObj_type ?_ (by show(#[]:Array Value).size≤sizeLine;decide)
 generalize BU:dU.heap.objs.size=D
 have pY:St h₀ L (dU.heap.push {cls:= .type "list",dict:=none,data:= .seq ([]:List Value).toArray}) m ((D,af [])::(it,P 0)::X):=BU▸xT.cL (P:=af []) ⟨0,rfl⟩
 simp only [newFunctionEnv,Option.isSome_some,if_true]
 refine wpAny_bind (wpAny_alloc ?_)
 refine wpAny_bind (wpAny_layCells _ (λname kind cells=>by cases kind==NameKind.cell<;>rfl) _ _ _ _ ?_)
 generalize WS:dU.heap.push {cls:= .type "list",dict:=none,data:= .seq ([]:List Value).toArray}=h3 at pY ⊢
 generalize qm:h3.objs.size=C
 have AR:St h₀ L (h3.push {cls:= .type "dict",data:= .dict #[]}) m ((C,bP [])::(D,af [])::(it,P 0)::X):=by
  refine aa (Eq.symm qm) ?_
  exact pY.cL (P:=bP []) ⟨#[],_,λ_=>none,rfl,λ_ hm=>by simp at hm,λx=>rfl,λx v e=>nomatch e⟩
 have uv:=AR.pushCells scope.names
 rw[Heap.size_push,qm] at uv
 refine wpAny_bind (wpAny_pure (wpAny_pure ?_))
 dsimp only
 refine aa (show({dU with heap:=h3.push {cls:= .type "dict",data:= .dict #[]}}:Shared).heap.objs.size=C+1 from by show(h3.push _).objs.size=_;rw[Heap.size_push,qm]) ?_
 obtain ⟨J,dep,j0,turn,fin⟩:=hJ C D
 have loop:∀rq:Shared,(∃h' aB,rq={dU with heap:=h',toks:=aB}∧St h₀ L h' m ((it,P 0)::(C,bP [])::(D,af [])::(iP (C+1) scope.names++X)))->
  codeAny (model prog w) A (.compLoop (.ListComp elt [⟨target,iter,ifs,0⟩] scope pos) 0 (.ref it) (.ref D) (oK scope cl C env)) (RR (.ref D) C) rq:=by
  intro rq Nn;refine Ea Nn λh' aB zr134 mL=>?_;clear Nn;subst zr134
  exact Qj IO hD J dep turn j0 _ mL λmc ys X eT fZ AS j=>BY C D mc _ eT fZ (fin mc ys X j) AS
 have mL:St h₀ L (PySem.pushCells (h3.push {cls:= .type "dict",data:= .dict #[]}) scope.names) m ((it,P 0)::(C,bP [])::(D,af [])::(iP (C+1) scope.names++X)):=by
  refine uv.perm ?_
  refine(List.perm_middle (l₁:=iP (C+1) scope.names) (a:=(C,bP []))).trans ?_
  refine(List.Perm.cons _ (List.perm_middle (l₁:=iP (C+1) scope.names) (a:=(D,af [])))).trans ?_
  refine(List.Perm.cons _ (List.Perm.cons _ (List.perm_middle (l₁:=iP (C+1) scope.names) (a:=(it,P 0))))).trans ?_
  exact(List.Perm.cons _ (.swap _ _ _)).trans (.swap _ _ _)
 refine codeAny_compStart_list (loop _ ⟨_,_,rfl,mL⟩) ?_
 exact iu (IO.self 0 m _ _ ⟨rfl,rfl,rfl⟩) mL λh2 bC S2=>loop _ ⟨_,_,rfl,S2⟩
theorem St.C6 (S:St h₀ L h m ((C,P)::H))(hs:Heap.SameBut C h h'):St h₀ L h' m H:=S.ext hs.extBut
theorem mS {pos:Pos}(cl:List (Str×Addr)){Q:Value->Loc->Led->Prop}
 (vg:closureFor scope env=pure cl)
 (h:AW (model prog w) A h₀ L (eval iter env) (λx m H=>AW (model prog w) A h₀ L (pyIter x) (AJ prog w A h₀ L elt target ifs scope cl env (λv m H=>∃C mc H',H=(C,bP mc)::H'∧Q v m H')) m H) m H)
 (qA:scope.kind= .function:=by with_unfolding_all rfl)(vD:∀x∈scope.names,x.2= .local->scope.names.lookup x.1=some .local:=by decide)
 (hs:∀x,foldedSetIterable iter env x=pure x:=by intro _;with_unfolding_all rfl):
 AW (model prog w) A h₀ L (eval (.ListComp elt [⟨target,iter,ifs,0⟩] scope pos) env) Q m H:=λs R E S k=>by
 refine aa (eval_ListComp ..) ?_
 refine wpAny_comprehension_free (use:=none) rfl hs vg qA vD (h _ _ _ S λx m1 H1 h1 aX S1 q1=>q1 _ _ _ S1 λqU m2 H2 h2 bC S2 q2=>?_)
 refine GL _ S2 q2 (RR:=λacc C=>compPost (model prog w) A E none R acc C) λC D mc H' h' aB q S'=>?_
 refine cE q λC' KZ fK e q=>?_
 simp only [List.cons.injEq,Prod.mk.injEq] at e
 refine xA e λzr138 zr140=>?_;clear e;refine xA zr138 λzr139 _=>?_;subst zr139;subst zr140
 refine ah (S'.get (.head _)) λo eo p=>?_
 refine ah (p.ns eo) λmf hn _=>?_
 exact⟨mf,hn,λeT vJ=>k _ m2 _ _ _ (S'.C6 vJ) q⟩
theorem qa {rest:List Stmt}(cl:List (Str×Addr)){Q:Flow->Loc->Led->Prop}
 (CH:swapsWith (.ListComp elt [⟨target,iter,ifs,0⟩] scope pos) (some (.Name y py)) DT.line env=pure true)
 (vg:closureFor scope env=pure cl)
 (h:AW (model prog w) A h₀ L (eval iter env) (λx m H=>AW (model prog w) A h₀ L (pyIter x) (AJ prog w A h₀ L elt target ifs scope cl env (λv m H=>∃C mc H',H=(C,bP mc)::H'∧AW (model prog w) A h₀ L (storeName env y v) (λ_ m2 H2=>H2=H∧AW (model prog w) A h₀ L (execs rest env) Q m2 H') m H)) m H) m H)
 (qA:scope.kind= .function:=by with_unfolding_all rfl)(vD:∀x∈scope.names,x.2= .local->scope.names.lookup x.1=some .local:=by decide)
 (hs:∀x,foldedSetIterable iter env x=pure x:=by intro _;with_unfolding_all rfl):
 AW (model prog w) A h₀ L (execs (.Assign [.Name y py] (.ListComp elt [⟨target,iter,ifs,0⟩] scope pos) DT::rest) env) Q m H:=jM λs R E S k=>by
 refine aa (exec_Assign_Name_used _ _ _ _ CH) ?_
 refine wpAny_bind (wpAny_standAt (wpAny_bind ?_))
 show wpAny _ A (do let _<-comprehension (.ListComp elt [⟨target,iter,ifs,0⟩] scope pos) scope env _ (newList []) false (eval iter env) (some (assign (.Name y py) env))) _ _ s
 refine wpAny_bind (wpAny_mono (wpAny_comprehension_free (use:=some (assign (.Name y py) env)) (Q:=λ_ s'=>R .next s') rfl hs vg qA vD (h _ _ _ S λx m1 H1 h1 aX S1 q1=>q1 _ _ _ S1 λqU m2 H2 h2 bC S2 q2=>?_)) (λ_ s' hq=>wpAny_pure (wpAny_pure hq)) λ_ _ e=>e)
 refine GL _ S2 q2 (RR:=λacc C=>compPost (model prog w) A E (some (assign (.Name y py) env)) (λ_ s'=>R .next s') acc C) λC D mc H' h' aB q S'=>?_
 refine cE q λC' KZ fK e q=>?_
 simp only [List.cons.injEq,Prod.mk.injEq] at e
 refine xA e λzr141 zr143=>?_;clear e;refine xA zr141 λzr142 _=>?_;subst zr142;subst zr143
 refine wpAny_assign_Name (q _ _ _ S' λ_ m3 H3 h3 aR S3 q3=>?_)
 obtain ⟨rfl,q3⟩:=q3
 obtain ⟨o,eo,p⟩:=S3.get (.head _)
 obtain ⟨mf,hn,_⟩:=p.ns eo
 exact⟨mf,hn,λeT vJ=>k _ m3 _ _ _ (S3.C6 vJ) (gR q3)⟩
theorem mW (h:Q true m H):AW (model prog w) A h₀ L (yl [] gG) Q m H:=λs R E S k=>wpAny_pure (k _ m H _ _ S h)
theorem qd (h:AW (model prog w) A h₀ L (isTrue c gG (eval c gG)) Q m H):AW (model prog w) A h₀ L (yl [c] gG) Q m H:=λs R E S k=>
 wpAny_tests_one (h s _ E S λb m1 H1 h1 aX S1 q=>k _ m1 H1 h1 aX S1 q)
end
section
variable {G:Gx}{A:Around}{h₀:Heap}{L L₂ C:Addr}{m:Loc}{H:Led}{gf env:Env}{scope:Scope}{cl:List (Str×Addr)}{M:Model}
theorem dj {Q:Value->Loc->Led->Prop}(hm:(C,bP mc)∈H)(hv:lk mc x=some v)(h:Q v m H)
 (hk:scope.kind= .function:=by with_unfolding_all rfl)(hx:(compEnvC scope cl C env).kindOf x=some .local:=by with_unfolding_all rfl)(hd:(x==("__debug__":Str))=false:=by decide):
 AW M A h₀ L (eval (.Name x pos) (compEnvC scope cl C env)) Q m H:=λs R E S k=>by
 refine ah (S.get hm) λo e p=>?_
 refine ah (p.ns e) λmf hn g=>?_
 exact wpAny_Name (wpAny_loadName_local hk hx hn (g _ _ hv) (k _ m H _ _ S h)) hd
theorem gY (hc:cl.lookup x=some c)(hm:(c,aE (some v))∈H)(h:Q v m H)
 (hk:scope.kind= .function:=by with_unfolding_all rfl)(hx:(compEnvC scope cl C env).kindOf x=some .cell:=by with_unfolding_all rfl)(hd:(x==("__debug__":Str))=false:=by decide):
 AW M A h₀ L (eval (.Name x pos) (compEnvC scope cl C env)) Q m H:=λs R E S k=>by
 refine ah (S.get hm) λo e p=>?_
 exact wpAny_Name (wpAny_loadName_cell (env:=compEnvC scope cl C env) hk hx hc ⟨o,e,p⟩ (k _ m H _ _ S h)) hd
theorem aw_cname_F (hc:cl.lookup x=some c)(hm:(c,aE (some v))∈H)(h:Q v m H)
 (hk:scope.kind= .function:=by with_unfolding_all rfl)(hx:(compEnvC scope cl C env).kindOf x=some .free:=by with_unfolding_all rfl)(hd:(x==("__debug__":Str))=false:=by decide)(hn:(x==("__classdict__":Str))=false:=by decide):
 AW M A h₀ L (eval (.Name x pos) (compEnvC scope cl C env)) Q m H:=λs R E S k=>by
 refine ah (S.get hm) λo e p=>?_
 exact wpAny_Name (wpAny_loadName_free (env:=compEnvC scope cl C env) hk hx hc ⟨o,e,p⟩ (k _ m H _ _ S h) hn) hd
theorem A0 (kK:Cx G A h₀ L gf)(e:nsIn G.K mainGlobals x=some (some v))(h:Q v m H)
 (hk:scope.kind= .function:=by with_unfolding_all rfl)(hx:(compEnvC scope cl C env).kindOf x=some .globalImplicit:=by with_unfolding_all rfl)(hg:env.globals=mainGlobals:=by with_unfolding_all rfl)(hd:(x==("__debug__":Str))=false:=by decide):
 AW (model G.prog G.w) A h₀ L (eval (.Name x pos) (compEnvC scope cl C env)) Q m H:=λs R E S k=>by
 refine ah S.fr λmf F g=>?_
 have T:=topRead_of kK.T
 refine Name_function_global (env:=compEnvC scope cl C env) hk hx (loadGlobal_global (mg:=G.mg) ?_ (mg_of kK.X T.g e) (k _ m H _ _ S h)) hd
 show s.heap.Ns env.globals _
 refine aa hg ?_;exact T.g.keeps F.keep
theorem E4 (kK:Cx G A h₀ L gf)(e:nsIn G.K mainGlobals x=some none)(hv:bootBuiltins x=some v)(h:Q v m H)(hn:x≠"__name__":=by decide)
 (hk:scope.kind= .function:=by with_unfolding_all rfl)(hx:(compEnvC scope cl C env).kindOf x=some .globalImplicit:=by with_unfolding_all rfl)(hg:env.globals=mainGlobals:=by with_unfolding_all rfl)(hb:env.builtins=builtinsNs:=by with_unfolding_all rfl)(hd:(x==("__debug__":Str))=false:=by decide):
 AW (model G.prog G.w) A h₀ L (eval (.Name x pos) (compEnvC scope cl C env)) Q m H:=λs R E S k=>by
 refine ah S.fr λmf F g=>?_
 have T:=topRead_of kK.T
 refine Name_function_global (env:=compEnvC scope cl C env) hk hx (loadGlobal_builtin (mg:=G.mg) (mb:=G.mb) ?_ (mg_none_of kK.X T.g e) ?_ ((T.builtins x hn).trans hv) (k _ m H _ _ S h)) hd
 ·show s.heap.Ns env.globals _
  refine aa hg ?_;exact T.g.keeps F.keep
 ·show s.heap.Ns env.builtins _
  refine aa hb ?_;exact T.b.keeps F.keep
theorem gq {x v mc H'}{Q:Unit->Loc->Led->Prop}(p:aZ C (bP mc) H H')(h:Q () m ((C,bP ((x,v)::mc))::H'))
 (hk:scope.kind= .function:=by with_unfolding_all rfl)(hx:(compEnvC scope cl C env).kindOf x=some .local:=by with_unfolding_all rfl):
 AW M A h₀ L (storeName (compEnvC scope cl C env) x v) Q m H:=λs R E S k=>by
 have S':=S.perm p.perm
 refine ah (S'.get (.head _)) λo e q=>?_
 refine ah (q.ns e) λmf hn g=>?_
 refine wpAny_storeName_local hx hn (λh' za hs=>?_) (by simp[compEnvC,relabel,hk])
 refine ah (bP.of (mc:=(x,v)::mc) za λy u hy=>by
  unfold lk at hy
  by_cases Jm:y=x
  ·rw[if_pos Jm] at hy ⊢;exact hy
  ·rw[if_neg Jm] at hy ⊢;exact g _ _ hy) λo' e' q'=>?_
 exact k _ m _ h' _ (S'.upd hs e' q') h
end
end
section
open PySem.Builtin PySem.Builtin.Str
section
variable {prog:Program}{w:World}{A:Around}{h₀:Heap}{L:Addr}{m:Loc}{H:Led}{env:Env}{x y:Str}{t u:Tok}{Q:Value->Loc->Led->Prop}
theorem oG {id:String}{pl:Sem Bool}{Q:Value×List Value->Loc->Led->Prop}(slot:Slot "str" name id)(ty:typeOf (.builtin id)=pure (.type "method_descriptor"))
 (h:Q (.builtin id,[.str x t]) m H):AW M A h₀ L (getMethod (.str x t) name pl) Q m H:=λs R E S k=>GM.of (.str x t) (typeIs_str _ _ _) slot ty GM.noRef (k _ m H _ _ S h)
theorem RX {Q:Value×List Value->Loc->Led->Prop}(h:Q (.builtin "str.find",[.str x t]) m H):AW M A h₀ L (getMethod (.str x t) (Str.ofString "find") pl) Q m H:=by
 with_reducible exact oG PySem.F.slot_str_find PySem.F.type_str_find h
theorem R2 {Q:Value×List Value->Loc->Led->Prop}(h:Q (.builtin "str.lower",[.str x t]) m H):AW M A h₀ L (getMethod (.str x t) (Str.ofString "lower") pl) Q m H:=by
 with_reducible exact oG PySem.F.slot_str_lower PySem.F.type_str_lower h
theorem R5 {Q:Value×List Value->Loc->Led->Prop}(h:Q (.builtin "str.upper",[.str x t]) m H):AW M A h₀ L (getMethod (.str x t) (Str.ofString "upper") pl) Q m H:=by
 with_reducible exact oG PySem.F.slot_str_upper PySem.F.type_str_upper h
theorem R3 {Q:Value×List Value->Loc->Led->Prop}(h:Q (.builtin "str.lstrip",[.str x t]) m H):AW M A h₀ L (getMethod (.str x t) (Str.ofString "lstrip") pl) Q m H:=by
 with_reducible exact oG PySem.F.slot_str_lstrip PySem.F.type_str_lstrip h
theorem R4 {Q:Value×List Value->Loc->Led->Prop}(h:Q (.builtin "str.startswith",[.str x t]) m H):AW M A h₀ L (getMethod (.str x t) (Str.ofString "startswith") pl) Q m H:=by
 with_reducible exact oG PySem.F.slot_str_startswith PySem.F.type_str_startswith h
theorem RW {Q:Value×List Value->Loc->Led->Prop}(h:Q (.builtin "str.endswith",[.str x t]) m H):AW M A h₀ L (getMethod (.str x t) (Str.ofString "endswith") pl) Q m H:=by
 with_reducible exact oG PySem.F.slot_str_endswith PySem.F.type_str_endswith h
theorem RY {Q:Value×List Value->Loc->Led->Prop}(h:Q (.builtin "str.index",[.str x t]) m H):AW M A h₀ L (getMethod (.str x t) (Str.ofString "index") pl) Q m H:=by
 with_reducible exact oG PySem.F.slot_str_index PySem.F.type_str_index h
theorem RZ {Q:Value×List Value->Loc->Led->Prop}(h:Q (.builtin "str.join",[.str x t]) m H):AW M A h₀ L (getMethod (.str x t) (Str.ofString "join") pl) Q m H:=by
 with_reducible exact oG PySem.F.slot_str_join PySem.F.type_str_join h
theorem Fw (e:Txt.lower x=y)(hf:tooLong (Txt.lower x).length=false)(h:∀t,Q (.str y t) m H):AW (model prog w) A h₀ L (call (.builtin "str.lower") [.str x t]) Q m H:=λs R E S k=>KXw.lower e hf λt' _=>k _ m H _ _ S (h t')
theorem TA (e:Txt.upper x=y)(hf:tooLong (Txt.upper x).length=false)(h:∀t,Q (.str y t) m H):AW (model prog w) A h₀ L (call (.builtin "str.upper") [.str x t]) Q m H:=λs R E S k=>KXw.upper e hf λt' _=>k _ m H _ _ S (h t')
theorem RT (e:Txt.lstrip x=y)(hs:x.length≤sizeLine)(h:∀t,Q (.str y t) m H):AW (model prog w) A h₀ L (call (.builtin "str.lstrip") [.str x t]) Q m H:=λs R E S k=>KXw.lstrip e hs λt' _=>k _ m H _ _ S (h t')
theorem RU (e:Txt.lstripChars x z=y)(hs:x.length≤sizeLine)(h:∀t,Q (.str y t) m H):AW (model prog w) A h₀ L (call (.builtin "str.lstrip") [.str x t, .str z u]) Q m H:=λs R E S k=>KXw.lstripChars e hs λt' _=>k _ m H _ _ S (h t')
theorem Fe (e:(Txt.find x y:Int)=i)(h:∀t,Q (.int i t) m H):AW (model prog w) A h₀ L (call (.builtin "str.find") [.str x t, .str y u]) Q m H:=λs R E S k=>KXw.find e λt' _=>k _ m H _ _ S (h t')
theorem F1 (e:Txt.startswith x y=b)(h:Q (.bool b) m H):AW (model prog w) A h₀ L (call (.builtin "str.startswith") [.str x t, .str y u]) Q m H:=λs R E S k=>SC.startswith (by refine aa e ?_;exact k _ m H _ _ S h)
theorem E9 (e:Txt.endswith x y=b)(h:Q (.bool b) m H):AW (model prog w) A h₀ L (call (.builtin "str.endswith") [.str x t, .str y u]) Q m H:=λs R E S k=>SC.endswith (by refine aa e ?_;exact k _ m H _ _ S h)
theorem Rv (e:Builtin.Str.occurrences x y 0 x.length 1=i::rest)(h:∀t,Q (.int i t) m H):AW (model prog w) A h₀ L (call (.builtin "str.index") [.str x t, .str y u]) Q m H:=λs R E S k=>SC.index e (k _ m H _ _ S (h _))
theorem x8 (l:List (Str×Tok))(hl:c7 h₀ D vs H)(e:vs=strValues l)(gK:JoinOk x (l.map (·.1))=true)(h:∀t,Q (.str (Txt.join x (l.map (·.1))) t) m H):
 AW (model prog w) A h₀ L (call (.builtin "str.join") [.str x t, .ref D]) Q m H:=λs R E S k=>SC.join (l:=l) (e▸hl.at S) rfl gK λt' _=>k _ m H _ _ S (h t')
theorem Rb (h:Q (.bool (x==y)) m H):AW (model prog w) A h₀ L (compareOp .Eq (.str x t) (.str y u)) Q m H:=λs R E S k=>eq_str (k _ m H _ _ S h)
theorem FF (h:Q (.bool (x !=y)) m H):AW (model prog w) A h₀ L (compareOp .NotEq (.str x t) (.str y u)) Q m H:=λs R E S k=>ne_str (k _ m H _ _ S h)
theorem p6 (hs:x.length+y.length≤sizeLine)(h:∀t,Q (.str (x++y) t) m H):AW (model prog w) A h₀ L (binaryOp .Add (.str x t) (.str y u)) Q m H:=λs R E S k=>add_str (λt' _=>k _ m H _ _ S (h t')) hs
theorem Bg {Q:Bool->Loc->Led->Prop}(hf:(x.length:Int)<2^63)(h:Q ((x.length:Int) !=0) m H):AW (model prog w) A h₀ L (truthy (.str x t)) Q m H:=λs R E S k=>P.truthy_str (by exact @(ln 0x4220840f400000000000000037f31990000000000000000dfcc0f20401).1 x.length hf) (k _ m H _ _ S h)
theorem p9 (hr:fitsSsize i=true)(h1: -(x.length:Int)≤i)(h2:i<x.length)(e:Txt.item x i=y)(h:∀t,Q (.str y t) m H)
 (hs:subscripted slice false (.str x t) (.int i u)=operate [.str x t, .int i u] (getItem (.str x t) (.int i u)):=by with_unfolding_all rfl)
 (ht:∀r,letTemporaryGo value (.str x t) r=pure ():=by intro _;with_unfolding_all rfl):AW (model prog w) A h₀ L (subscriptTail value slice (.str x t) (.int i u)) Q m H:=λs R E S k=>
 item_str hr h1 h2 (λ_=>by refine aa e ?_;exact k _ m H _ _ S (h _)) hs ht
theorem rQ (h:Q .none m H):AW M A h₀ L (evalPart none env) Q m H:=λs R E S k=>wpAny_pure (k _ m H _ _ S h)
theorem rR (h:AW M A h₀ L (eval e env) Q m H):AW M A h₀ L (evalPart (some e) env) Q m H:=h
theorem uG
 (h:AW (model prog w) A h₀ L (eval value env) (λo m H=>AW (model prog w) A h₀ L (evalPart lower env) (λvl m H=>AW (model prog w) A h₀ L (evalPart upper env) (λvu m H=>
  ∃l vs lo hi,o= .ref l∧c7 h₀ l vs H∧vs.length≤sizeLine∧IsPart vl lo∧IsPart vu hi∧∀r,Q (.ref r) m ((r,af (slicePick vs.toArray lo hi none).toList)::H)) m H) m H) m H)
 (ht:∀o r,letTemporaryGo value o r=pure ():=by intro _ _;with_unfolding_all rfl):AW (model prog w) A h₀ L (eval (.Subscript value (.Slice lower upper none p) pos) env) Q m H:=λs R E S k=>
 wpAny_Subscript_list_slice (h s _ E S λo m1 H1 h1 aX S1 q1=>q1 _ _ E S1 λvl m2 H2 h2 bC S2 q2=>q2 _ _ E S2 λvu m3 H3 h3 aR S3 q3=>by
  refine Eb q3 λl vs lo hi zr145 hl hz pl pu q=>?_;clear q3;subst zr145
  refine⟨l,vs.toArray,lo,hi,rfl,hl.at S3,by assumption,pl,pu,?_⟩
  have S4:St h₀ L (h3.push {cls:= .type "slice",data:= .fields #[vl,vu, .none]}) m3 H3:=S3.keeps λb o e=>Heap.get?_push_of_some _ e
  have S5:=S4.cL (o:={cls:= .type "list",data:= .seq (slicePick vs.toArray lo hi none)}) (P:=af (slicePick vs.toArray lo hi none).toList) ⟨0,by simp[W.listOf]⟩
  rw[Heap.size_push] at S5
  exact k _ m3 _ _ _ S5 (q _)) ht
theorem zJ:KeptH (λh=>St h₀ L h m H):=λh ob S=>S.keeps λb o e=>Heap.get?_push_of_some _ e
theorem F0
 (h:AW (model prog w) A h₀ L (eval value env) (λo m H=>AW (model prog w) A h₀ L (eval lower env) (λvl m H=>∃x t i u,o= .str x t∧vl= .int i u∧x.length≤sizeLine∧∀t',Q (.str (Txt.slice x (some i) none) t') m H) m H) m H)
 (ht:∀o r,letTemporaryGo value o r=pure ():=by intro _ _;with_unfolding_all rfl):AW (model prog w) A h₀ L (eval (.Subscript value (.Slice (some lower) none none p) pos) env) Q m H:=λs R E S k=>
 Subscript_Slice (h s _ E S λo m1 H1 h1 aX S1 q1=>wpAny_Slice (q1 _ _ E S1 λvl m2 H2 h2 bC S2 q2=>evalPart_none_step (evalPart_none_step (by
  refine Ar q2 λx t i u zr146 zr147 hz q=>?_;clear q2;subst zr146;subst zr147
  exact SBH.sliceItem_sn (P:=λh=>St h₀ L h m2 H2) zJ S2 (λh' t' k' S3=>k _ m2 H2 _ _ S3 (q t')) hz)))) ht
theorem aw_slice_str_ns
 (h:AW (model prog w) A h₀ L (eval value env) (λo m H=>AW (model prog w) A h₀ L (eval upper env) (λvl m H=>∃x t i u,o= .str x t∧vl= .int i u∧x.length≤sizeLine∧∀t',Q (.str (Txt.slice x none (some i)) t') m H) m H) m H)
 (ht:∀o r,letTemporaryGo value o r=pure ():=by intro _ _;with_unfolding_all rfl):AW (model prog w) A h₀ L (eval (.Subscript value (.Slice none (some upper) none p) pos) env) Q m H:=λs R E S k=>
 Subscript_Slice (h s _ E S λo m1 H1 h1 aX S1 q1=>wpAny_Slice (evalPart_none_step (q1 _ _ E S1 λvl m2 H2 h2 bC S2 q2=>evalPart_none_step (by
  refine Ar q2 λx t i u zr148 zr149 hz q=>?_;clear q2;subst zr148;subst zr149
  exact SBH.sliceItem_ns (P:=λh=>St h₀ L h m2 H2) zJ S2 (λh' t' k' S3=>k _ m2 H2 _ _ S3 (q t')) hz)))) ht
end
end
section
theorem oR {vs:List Value}{i:Nat}(h:i<vs.length):vs[i]?=some (vs.getD i .none):=by
 refine aa (List.getD_eq_getElem?_getD) (aa (List.getElem?_eq_getElem h) ?_);rfl
theorem Dt {vs:List Value}(h:(vs.map key).Nodup){i j:Nat}(dg:i<j)(hj:j<vs.length):key (vs.getD i .none)≠key (vs.getD j .none):=by
 have:=(List.pairwise_iff_getElem.mp h) i j (by simpa using Nat.lt_trans dg hj) (by simpa using hj) dg
 rw[List.getElem_map,List.getElem_map] at this
 refine aa (List.getD_eq_getElem?_getD) (aa (List.getD_eq_getElem?_getD) (aa (List.getElem?_eq_getElem (Nat.lt_trans dg hj)) (aa (List.getElem?_eq_getElem hj) ?_)))
 exact this
theorem getD_mem {vs:List Value}{i:Nat}(h:i<vs.length):vs.getD i .none∈vs:=List.mem_of_getElem? (oR h)
noncomputable def dG (key:Value->Int)(vs:List Value)(pos:Nat):Nat:=
 if 2*pos+2<vs.length∧¬key (vs.getD (2*pos+1) .none)<key (vs.getD (2*pos+2) .none) then 2*pos+2 else 2*pos+1
noncomputable def fH (key:Value->Int):Nat->List Value->Nat->List Value×Nat
 |0,vs,pos=>(vs,pos)
 |n+1,vs,pos=>if 2*pos+1<vs.length then fH key n (vs.set pos (vs.getD (dG key vs pos) .none)) (dG key vs pos) else(vs,pos)
theorem rj (key:Value->Int)(n:Nat)(vs:List Value)(pos:Nat):fH key (n+1) vs pos=
 if 2*pos+1<vs.length then fH key n (vs.set pos (vs.getD (dG key vs pos) .none)) (dG key vs pos) else(vs,pos):=rfl
noncomputable def cO (key:Value->Int)(vs:List Value)(pos:Nat):List Value:=
 er key ((fH key vs.length vs pos).1.set (fH key vs.length vs pos).2 (vs.getD pos .none)) pos (fH key vs.length vs pos).2
theorem fP.perm (h:fP key H vs)(p:vs'.Perm vs):fP key H vs':=λv hv=>h v (p.mem_iff.mp hv)
theorem swap_perm {vs:List Value}{x:Value}{i j:Nat}(hi:i<vs.length)(hj:j<vs.length)(dg:i≠j):((vs.set i (vs.getD j .none)).set j x).Perm (vs.set i x):=by
 have h1:i<(vs.set i x).length:=by simpa using hi
 have h2:j<(vs.set i x).length:=by simpa using hj
 have p:=List.set_set_perm (as:=vs.set i x) h1 h2
 have e1:(vs.set i x)[j]=vs.getD j .none:=by
  refine aa (List.getElem_set_ne dg ..) (aa (List.getD_eq_getElem?_getD ..) (aa (List.getElem?_eq_getElem hj ..) ?_));rfl
 have e2:(vs.set i x)[i]=x:=by exact aa (List.getElem_set_self ..) rfl
 rw[e1,e2,List.set_set] at p
 exact p
section
variable {G:Gx}{A:Around}{h₀:Heap}{L:Addr}{m:Loc}{H:Led}{env:Env}{aW:eu}
theorem FZ {start pos:Nat}{t1 t2:Tok}{Q:Value->Loc->Led->Prop}
 (T:aT G.K aW)(C:Cx G A h₀ L env)(r:bw A 1)
 (hp:pos<vs.length)(hz:vs.length≤1000)(hi:fP key H vs)(hk:(vs.map key).Nodup)
 (h:Q .none m ((a,af (er key vs start pos))::H)):
 AW (model G.prog G.w) A h₀ L (call (.ref aW.sd) [.ref a, .int start t1, .int pos t2]) Q m ((a,af vs)::H):=by
 refine xE T.sd.d λbg d=>?_
 exact siftdown_aw C r d hp hz hi (λi j a b=>Dt hk a b) h
set_option maxHeartbeats 2000000 in
theorem Bd {pos:Nat}{t1:Tok}{Q:Value->Loc->Led->Prop}
 (T:aT G.K aW)(C:Cx G A h₀ L env)(r:bw A 2)
 (hp:pos<vs.length)(hz:vs.length≤1000)(hi:fP key H vs)(hk:(vs.map key).Nodup)
 (h:Q .none m ((a,af (cO key vs pos))::H)):
 AW (model G.prog G.w) A h₀ L (call (.ref aW.su) [.ref a, .int pos t1]) Q m ((a,af vs)::H):=by
 refine xE T.su.d λbg d=>?_
 refine gX (n:=1) (binds:=[(Str.ofString "heap",_),(Str.ofString "pos",_)]) C r d (λ_ _ _ _ _=>rfl) rfl λA' g L' C' r'=>?_
 have hx:=oR hp
 have X7:=getD_mem hp
 generalize vV:vs.getD pos .none=x at hx X7
 have hsz:(1000:Int)<2^62:=by decide
 refine bO (m':=[(Str.ofString "pos", .int pos t1),(Str.ofString "heap", .ref a)]) (by walk_at "aw_subl") ?_
 refine kP ?_
 walk_at "aww"
 refine fL (by walk_at "aw_mem") (by exact KD hz) λtl=>?_
 walk_at "aww"
 refine cM (by walk_at "aw_mem") (by exact Int.natCast_nonneg _) (by exact KG hp hz) hx ?_
 walk_at "aww"
 refine A8 (by mul_fits) λt2=>?_
 walk_at "aww"
 refine xE (show∃fin,fH key vs.length vs pos=fin from⟨_,rfl⟩) λfin qq=>?_
 have dR:cO key vs pos=er key (fin.1.set fin.2 x) pos fin.2:=by unfold cO;exact aa qq (aa vV rfl)
 rw[dR] at h
 clear dR
 refine rS (λn m H'=>∃(p':Nat) (t t':Tok) (vs':List Value),SubL [(Str.ofString "childpos", .int (2*p'+1) t'),(Str.ofString "pos", .int p' t),(Str.ofString "newitem",x),(Str.ofString "endpos", .int vs.length tl),(Str.ofString "startpos", .int pos t1),(Str.ofString "heap", .ref a)] m∧H'=(a,af vs')::H∧
  vs.length-p'≤n∧p'<vs.length∧vs'.length=vs.length∧(vs'.set p' x).Perm vs∧fH key n vs' p'=fin) vs.length ⟨pos,t1,_,vs,by walk_at "aw_subl",rfl,by exact Nat.sub_le _ _,hp,rfl,?_,qq⟩ ?_
 ·rw[show vs.set pos x=vs from by
   refine aa (Eq.symm vV) (aa (List.getD_eq_getElem?_getD) (aa (List.getElem?_eq_getElem hp) ?_));exact List.set_getElem_self hp]
 intro n J hJ m1 H1 N7;refine xEEEEAAAAAA N7 λp' t t' vs' hm zr198 hn fh hl qJ CG=>?_;clear N7;subst zr198
 refine bO hm ?_
 have hlen:((2*(p':Int)+1:Int))=((2*p'+1:Nat):Int):=by rfl
 refine aa hlen ?_
 have bR:=hi.perm qJ
 have jB:((vs'.set p' x).map key).Nodup:=(qJ.map key).nodup_iff.mpr hk
 have IY:∀j,p'<j->j<vs'.length->vs'.getD j .none=(vs'.set p' x).getD j .none:=by
  intro j h1 h2
  exact aa (List.getD_eq_getElem?_getD) (aa (List.getD_eq_getElem?_getD) (aa (List.getElem?_set_ne (by exact Nat.ne_of_lt ‹_›)) rfl))
 walk_at "aww"
 refine k6 (λaC=>?_) (λo4=>?_)
 ·have qD:2*p'+1<vs'.length:=by exact Zu hl aC
  refine xE (show∃k,n=k+1 from⟨n-1,by exact(ln 0x2000441084000002200000004000880000000080220842108661580419802a1888a13c33189ab7900401005).1 hn aC (Eq.refl (vs.length-p')) (Eq.refl (n-1))⟩) λn zr199=>?_;subst zr199
  walk_at "aww"
  have yK:=IY (2*p'+1) (by simp+arith) (by lia)
  refine QY (λm H'=>H'=(a,af vs')::H∧∃tc,SubL [(Str.ofString "childpos", .int (dG key vs' p':Nat) tc),(Str.ofString "pos", .int p' t),(Str.ofString "newitem",x),(Str.ofString "endpos", .int vs.length tl),(Str.ofString "startpos", .int pos t1),(Str.ofString "heap", .ref a)] m) ?_ ?_
  ·walk_at "aww"
   have hr:(((2*p'+1:Nat):Int)+1)=((2*p'+2:Nat):Int):=by rfl
   refine aa hr ?_
   refine k6 (λIK=>?_) (λhge2=>?_)
   ·have y9:2*p'+2<vs'.length:=by exact Zv hl IK
    have yL:=IY (2*p'+2) (by simp+arith) (by lia)
    walk_at "aww"
    refine cM (by walk_at "aw_mem") (by exact Int.natCast_nonneg _) (by exact(ln 0x42110421400000000000000037f30cc026ade40bc53009ab793e817e6100802).1 hz IK) (oR qD) ?_
    walk_at "aww"
    refine cM (by walk_at "aw_mem") (by exact Int.natCast_nonneg _) (by exact(ln 0x42110421400000000000000037f314c026ade40bc53009ab793e817e6100802).1 hz IK) (oR y9) ?_
    walk_at "aww"
    refine i9 (bR ((vs'.set p' x).getD (2*p'+1) .none) (getD_mem (by simpa using qD))) λrx kx tx px uP G7 nj=>?_
    refine i9 (bR ((vs'.set p' x).getD (2*p'+2) .none) (getD_mem (by simpa using y9))) λry ky ty py qh G8 nk=>?_
    have bF:kx≠ky:=by
     refine aa (Eq.symm nj) (aa (Eq.symm nk) ?_)
     exact Dt jB (by exact Nat.lt_succ_self _) (by simpa using y9)
    have jx:dG key vs' p'=if kx<ky then 2*p'+1 else 2*p'+2:=by
     unfold dG
     refine aa yK (aa yL (aa nj (aa nk ?_)))
     by_cases h:kx<ky
     ·exact aa (if_pos h) (aa (if_neg (λz=>z.2 h)) rfl)
     ·exact aa (if_neg h) (aa (if_pos ⟨y9,h⟩) rfl)
    simp only [Int.toNat_natCast]
    refine aa yK (aa yL (aa uP (aa qh ?_)))
    refine x9 (by have:=r'.units;exact wj this) (by walk_at "aw_mem") (by walk_at "aw_mem") bF ?_
    walk_at "aww"
    refine Yn (λhc=>?_) (λhc=>?_)
    ·rw[if_neg hc] at jx
     walk_at "aww"
     refine aa jx ?_
     exact⟨rfl,rfl,_,by walk_at "aw_subl"⟩
    ·rw[if_pos hc] at jx
     walk_at "aww"
     refine aa jx ?_
     exact⟨rfl,rfl,_,by walk_at "aw_subl"⟩
   ·have jx:dG key vs' p'=2*p'+1:=by
     unfold dG
     exact aa (if_neg (λz=>by have:=z.1;exact(ln 0x8401104210a420218029884d584e178a621356f2182010c43).1 hl hge2 z)) rfl
    walk_at "aww"
    refine aa jx ?_
    exact⟨rfl,rfl,_,by walk_at "aw_subl"⟩
  ·intro m2 H2 N8;refine Mp N8 λzr200 tc dH=>?_;clear N8;subst zr200
   refine bO dH ?_
   have gJ:dG key vs' p'<vs'.length∧p'<dG key vs' p':=by
    unfold dG
    split
    ·rename_i z;have:=z.1;exact Ks z
    ·exact(ln 0x44100422084219804d580210cc026ac2713c33009ab7904110803).1 hl aC
   refine xE (show∃c,dG key vs' p'=c from⟨_,rfl⟩) λc hc=>?_
   rw[hc] at gJ ⊢
   walk_at "aww"
   refine cM (by walk_at "aw_mem") (by exact Int.natCast_nonneg _) (by exact(ln 0x2008021104210a0000000000000001bf981e400c22004e110be817e6100c04).1 hz hl gJ) (oR gJ.1) ?_
   walk_at "aww"
   refine lK (by exact pF) (by exact(ln 0x21108210a0000000000000001bf981e40bc33009ab793e817e6100802).1 hz aC) (by exact KH fh hl) ?_
   simp only [Int.toNat_natCast]
   walk_at "aww"
   refine A8 (by mul_fits) λt5=>?_
   walk_at "aww"
   refine qY (k:=n) (by exact Nat.lt_succ_self _) (hJ ⟨c,_,_,vs'.set p' (vs'.getD c .none),by walk_at "aw_subl",rfl,by exact(ln 0x1004410040000400080410800000000080220842008000080220842108c400804a200aa09026084e198d6501007).1 hn gJ (Eq.refl (vs.length-p')) (Eq.refl (vs.length-c)),by exact(ln 0x802110421080201844009c2210804).1 hl gJ,by simpa using hl,?_,?_⟩)
   ·exact(swap_perm (by exact Nat.lt_of_lt_of_eq ‹_› (Eq.symm ‹_›)) (by exact(ln 0x2110421004020840138403).1 gJ) (by exact(ln 0x10040208420118200882138403).1 gJ)).trans qJ
   ·rw[rj,if_pos qD,hc] at CG
    exact CG
 ·have WK:(vs',p')=fin:=by
   refine aa (Eq.symm CG) ?_
   cases n with
   |zero=>rfl
   |succ n=>exact aa (rj ..) (aa (if_neg (by exact(ln 0x108441084219804d584c2786601356f2184110803).1 hl o4) ..) rfl)
  subst WK
  walk_at "aww"
  refine lK (by lia) (by exact(ln 0x42110421400000000000000037f303c81007e817e6100802).1 hz fh) (by exact KH fh hl) ?_
  simp only [Int.toNat_natCast]
  refine oE ?_
  refine oB ?_
  ((with_reducible refine cI (by assumption) (FnAt.n (aT.sd (by assumption))) ?_;with_reducible refine eO (Cx.X (by assumption)) (aT.sd (by assumption)) ?_))
  walk_at "aww"
  refine FZ T C' (r'.le (by exact Nat.succ_pos _)) (by simpa using(show p'<vs'.length by exact Nat.lt_of_lt_of_eq ‹_› (Eq.symm ‹_›))) (by simpa using(show vs'.length≤1000 by exact(ln 0x802110421fa05f9800100be817e6100802).1 hz hl)) bR jB ?_
  walk_at "aww"
  exact h
end
end
section
noncomputable def jA (key:Value->Int)(vs:List Value)(v:Value):List Value:=er key (vs++[v]) 0 vs.length
noncomputable def jz (key:Value->Int)(vs:List Value)(last:Value):Value×List Value:=
 if vs=[] then(last,[]) else(vs.getD 0 .none,cO key (vs.set 0 last) 0)
noncomputable def jy (key:Value->Int):Nat->List Value->List Value
 |0,vs=>vs
 |i+1,vs=>jy key i (cO key vs i)
noncomputable def iU (key:Value->Int)(vs:List Value):List Value:=jy key (vs.length/2) vs
theorem LF (key:Value->Int)(x:Value)(start:Nat):∀n vs pos,(dS key x start n vs pos).1.length=vs.length
 |0,_,_=>rfl
 |n+1,vs,pos=>by
  refine aa (pP ..) ?_
  split
  ·split
   ·refine aa (LF key x start n ..) ?_;simp
   ·rfl
  ·rfl
theorem siftdownL_len (key:Value->Int)(vs:List Value)(s p:Nat):(er key vs s p).length=vs.length:=by
 unfold er;rw[List.length_set,LF]
theorem LI (key:Value->Int)(x:Value)(start:Nat):∀n vs pos,pos<vs.length->((dS key x start n vs pos).1.set (dS key x start n vs pos).2 x).Perm (vs.set pos x)
 |0,_,_,_=> .refl _
 |n+1,vs,pos,hp=>by
  refine aa (pP ..) ?_
  split
  ·rename_i hs
   split
   ·refine(LI key x start n _ _ (by simp;exact Zj hp (Eq.refl ((pos-1)/2)) (Eq.refl (pos-1)))).trans (swap_perm hp (by lia) (by exact(ln 0x40080200084100020080011042108802306600a8221340308c04).1 hs (Eq.refl ((pos-1)/2)) (Eq.refl (pos-1))))
   ·exact .refl _
  ·exact .refl _
theorem LJ (vs:List Value)(p:Nat):vs.set p (vs.getD p .none)=vs:=by
 by_cases h:p<vs.length
 ·refine aa (List.getD_eq_getElem?_getD) (aa (List.getElem?_eq_getElem h) ?_);exact List.set_getElem_self h
 ·exact List.set_eq_of_length_le (by exact Nat.le_of_not_lt ‹_›)
theorem siftdownL_perm (key:Value->Int)(vs:List Value)(s p:Nat)(hp:p<vs.length):(er key vs s p).Perm vs:=by
 unfold er
 refine(LI key _ s p vs p hp).trans ?_
 rw[LJ]
theorem Uv (key:Value->Int)(vs:List Value)(p:Nat)(h:2*p+1<vs.length):dG key vs p<vs.length∧p<dG key vs p:=by
 unfold dG
 split
 ·rename_i z;have:=z.1;exact Ks z
 ·exact(ln 0x441088210cc026ac01086601356138433009ab08402).1 h
theorem LU (key:Value->Int)(x:Value):∀n vs pos,pos<vs.length->(fH key n vs pos).2<vs.length∧((fH key n vs pos).1.set (fH key n vs pos).2 x).Perm (vs.set pos x)
 |0,_,_,hp=>⟨hp, .refl _⟩
 |n+1,vs,pos,hp=>by
  refine aa (rj ..) ?_
  split
  ·rename_i hs
   refine xA (Uv key vs pos hs) λc1 c2=>?_
   refine xA (LU key x n (vs.set pos (vs.getD (dG key vs pos) .none)) (dG key vs pos) (by simpa using c1)) λa b=>?_
   exact⟨by simpa using a,b.trans (swap_perm hp c1 (by exact Nat.ne_of_lt ‹_›))⟩
  ·exact⟨hp, .refl _⟩
theorem DO (key:Value->Int)(vs:List Value)(p:Nat)(hp:p<vs.length):(cO key vs p).Perm vs:=by
 unfold cO
 refine xA (LU key (vs.getD p .none) vs.length vs p hp) λa b=>?_
 have e:((fH key vs.length vs p).1.set (fH key vs.length vs p).2 (vs.getD p .none)).Perm vs:=by
  refine b.trans ?_
  rw[LJ]
 refine(siftdownL_perm key _ p _ ?_).trans e
 refine aa e.length_eq ?_;exact a
theorem Ie (key:Value->Int):∀i vs,i≤vs.length->(jy key i vs).Perm vs
 |0,_,_=> .refl _
 |i+1,vs,h=>by
  have p:=DO key vs i (by assumption)
  exact(Ie key i _ (by refine aa p.length_eq ?_;exact Nat.le_of_lt ‹_›)).trans p
section
variable {G:Gx}{A:Around}{h₀:Heap}{L:Addr}{m:Loc}{H:Led}{env:Env}{aW:eu}
theorem Rq
 (T:aT G.K aW)(C:Cx G A h₀ L env)(r:bw A 2)
 (hz:vs.length≤900)(hi:fP key H (vs++[v]))(hk:((vs++[v]).map key).Nodup)
 (h:Q .none m ((a,af (jA key vs v))::H)):
 AW (model G.prog G.w) A h₀ L (call (.ref aW.qM) [.ref a,v]) Q m ((a,af vs)::H):=by
 refine xE T.qM.d λbg d=>?_
 refine gX (n:=1) (binds:=[(Str.ofString "heap",_),(Str.ofString "item",_)]) C r d (λ_ _ _ _ _=>rfl) rfl λA' g L' C' r'=>?_
 have aP:(1000:Nat)≤sizeLine:=by decide
 have hsz:(1000:Int)<2^62:=by decide
 refine bO (m':=[(Str.ofString "item",v),(Str.ofString "heap", .ref a)]) (by walk_at "aw_subl") ?_
 refine oE ?_
 walk_at "aww"
 refine iO (by walk_at "aw_mem") PySem.F.slot_list_append PySem.F.type_list_append ?_
 refine cF ?_
 walk_at "aww"
 refine jL (by exact Nat.le_trans ‹_› (by decide)) ?_
 walk_at "aww"
 ((with_reducible refine cI (by assumption) (FnAt.n (aT.sd (by assumption))) ?_;with_reducible refine eO (Cx.X (by assumption)) (aT.sd (by assumption)) ?_))
 walk_at "aww"
 refine fL (by walk_at "aw_mem") (by simp;exact(ln 0x108821400000000000000037f30cc0f5938417e6000401).1 hz) λtl=>?_
 walk_at "aww"
 have e:(((vs++[v]).length:Int)-1)=((vs.length:Nat):Int):=by simp
 refine aa e ?_
 refine FZ (start:=0) T C' (r'.le (by exact Nat.succ_pos _)) (by simp) (by simp;exact Nat.le_trans ‹_› (by decide)) hi hk ?_
 walk_at "aww"
 exact h
theorem Rp
 (T:aT G.K aW)(C:Cx G A h₀ L env)(r:bw A 3)
 (hz:vs.length≤900)(hi:fP key H (vs++[last]))(hk:((vs++[last]).map key).Nodup)
 (h:Q (jz key vs last).1 m ((a,af (jz key vs last).2)::H)):
 AW (model G.prog G.w) A h₀ L (call (.ref aW.kY) [.ref a]) Q m ((a,af (vs++[last]))::H):=by
 refine xE T.kY.d λbg d=>?_
 refine gX (n:=2) (binds:=[(Str.ofString "heap",_)]) C r d (λ_ _ _ _ _=>rfl) rfl λA' g L' C' r'=>?_
 have aP:(1000:Nat)≤sizeLine:=by decide
 have hsz:(1000:Int)<2^62:=by decide
 refine bO (m':=[(Str.ofString "heap", .ref a)]) (by walk_at "aw_subl") ?_
 refine kP ?_
 walk_at "aww"
 refine iO (by walk_at "aw_mem") PySem.F.slot_list_pop PySem.F.type_list_pop ?_
 refine cF ?_
 walk_at "aww"
 refine Ba (by exact Nat.lt_of_le_of_lt ‹_› (by decide)) ?_
 walk_at "aww"
 refine jf ?_
 walk_at "aww"
 refine uI (by walk_at "aw_mem") (by exact Kc hz) ?_
 refine i7 (λhb=>?_) (λhb=>?_)
 ·have bF:vs≠[]:=by intro e;subst e;cases hb
  have g8:0<vs.length:=List.length_pos_iff.mpr bF
  walk_at "aww"
  refine cM (by walk_at "aw_mem") (by exact Int.natCast_nonneg _) (by exact Int.natCast_nonneg _) (oR (by simpa using g8)) ?_
  walk_at "aww"
  refine lK (by exact Za) (by exact Zb) (by exact Int.ofNat_lt.mpr ‹_›) ?_
  walk_at "aww"
  ((with_reducible refine cI (by assumption) (FnAt.n (aT.su (by assumption))) ?_;with_reducible refine eO (Cx.X (by assumption)) (aT.su (by assumption)) ?_))
  walk_at "aww"
  have hp:((vs.set 0 last)++[vs.getD 0 .none]).Perm (vs++[last]):=by
   refine n6 (List.exists_cons_of_ne_nil bF) λy ys zr201=>?_;subst zr201
   show(last::(ys++[y])).Perm (y::(ys++[last]))
   have p1:(ys++[y]).Perm (y::ys):=List.perm_append_comm
   have p2:(ys++[last]).Perm (last::ys):=List.perm_append_comm
   exact(p1.cons last).trans ((List.Perm.swap _ _ _).trans (p2.symm.cons y))
  have qu:fP key H (vs.set 0 last):=λx hx=>hi x (hp.mem_iff.mp (List.mem_append_left _ hx))
  have vt:((vs.set 0 last).map key).Nodup:=by
   have q:=(hp.map key).nodup_iff.mpr hk
   rw[List.map_append] at q
   exact(List.nodup_append.mp q).1
  refine Bd (pos:=0) T C' (r'.le (by exact Nat.lt_succ_self _)) (by simpa using g8) (by simp;exact Nat.le_trans ‹_› (by decide)) qu vt ?_
  walk_at "aww"
  unfold jz at h
  rw[if_neg bF] at h
  exact h
 ·have he:vs=[]:=by
   cases vs with
   |nil=>rfl
   |cons=>cases hb
  subst he
  walk_at "aww"
  exact h
noncomputable def kg (key:Value->Int)(vs:List Value)(v:Value):Value×List Value:=
 if vs≠[]∧key (vs.getD 0 .none)<key v then(vs.getD 0 .none,cO key (vs.set 0 v) 0) else(v,vs)
theorem Rr
 (T:aT G.K aW)(C:Cx G A h₀ L env)(r:bw A 3)
 (hz:vs.length≤900)(hi:fP key H (vs++[v]))(hk:((vs++[v]).map key).Nodup)
 (h:∀jk,Q (kg key vs v).1 m ((a,af (kg key vs v).2)::(jk++H))):
 AW (model G.prog G.w) A h₀ L (call (.ref aW.gv) [.ref a,v]) Q m ((a,af vs)::H):=by
 refine xE T.gv.d λbg d=>?_
 refine gX (n:=2) (binds:=[(Str.ofString "heap",_),(Str.ofString "item",_)]) C r d (λ_ _ _ _ _=>rfl) rfl λA' g L' C' r'=>?_
 have aP:(1000:Nat)≤sizeLine:=by decide
 have hsz:(1000:Int)<2^62:=by decide
 refine bO (m':=[(Str.ofString "item",v),(Str.ofString "heap", .ref a)]) (by walk_at "aw_subl") ?_
 refine jf ?_
 walk_at "aww"
 refine uI (by walk_at "aw_mem") (by lia) ?_
 refine i7 (λhb=>?_) (λhb=>?_)
 ·have bF:vs≠[]:=by intro e;subst e;cases hb
  have g8:0<vs.length:=List.length_pos_iff.mpr bF
  walk_at "aww"
  refine cM (by walk_at "aw_mem") (by lia) (by lia) (oR (by simpa using g8)) ?_
  walk_at "aww"
  refine i9 (hi (vs.getD 0 .none) (List.mem_append_left _ (getD_mem g8))) λrx kx tx px uP G7 nj=>?_
  refine i9 (hi v (List.mem_append_right _ (.head _))) λry ky ty py qh G8 nk=>?_
  have zc:kx≠ky:=by
   refine aa (Eq.symm nj) (aa (Eq.symm nk) ?_)
   have:=Dt hk (i:=0) (j:=vs.length) g8 (by simp)
   rw[List.getD_eq_getElem?_getD,List.getD_eq_getElem?_getD,List.getElem?_append_left g8,List.getElem?_append_right (by exact Nat.le_refl _)] at this
   refine aa (List.getD_eq_getElem?_getD) ?_
   simpa using this
  show AW _ _ _ _ (compareOp .Lt (vs.getD 0 .none) v) _ _ _
  refine aa uP (aa qh ?_)
  refine x9 (by have:=r'.units;exact wj this) (by walk_at "aw_mem") (by walk_at "aw_mem") zc ?_
  walk_at "aww"
  refine k6 (λaC=>?_) (λo4=>?_)
  ·walk_at "aww"
   refine yd ?_
   refine rT ?_
   walk_at "aww"
   refine cM (by walk_at "aw_mem") (by lia) (by lia) (oR (by simpa using g8)) ?_
   walk_at "aww"
   refine⟨by show(2:Nat)≤sizeLine;decide,λt=>?_⟩
   refine oJ C'.hh (by walk_at "aw_mem") ?_
   refine bQ ?_
   walk_at "aww"
   refine QH ?_
   walk_at "aww"
   refine bu (.tail .head) ?_
   refine lK (by lia) (by lia) (by exact(ln 0x10882103c132001308401).1 g8) ?_
   walk_at "aww"
   ((with_reducible refine cI (by assumption) (FnAt.n (aT.su (by assumption))) ?_;with_reducible refine eO (Cx.X (by assumption)) (aT.su (by assumption)) ?_))
   walk_at "aww"
   have hp:((vs.set 0 v)++[vs.getD 0 .none]).Perm (vs++[v]):=by
    refine n6 (List.exists_cons_of_ne_nil bF) λy ys zr202=>?_;subst zr202
    show(v::(ys++[y])).Perm (y::(ys++[v]))
    have p1:(ys++[y]).Perm (y::ys):=List.perm_append_comm
    have p2:(ys++[v]).Perm (v::ys):=List.perm_append_comm
    exact(p1.cons v).trans ((List.Perm.swap _ _ _).trans (p2.symm.cons y))
   have qu:fP key ((t,bf [vs.getD 0 .none,v])::H) (vs.set 0 v):=λx hx=>by
    refine i9 (hi x (hp.mem_iff.mp (List.mem_append_left _ hx))) λr x' tx p e1 e2 e3=>?_
    exact⟨r,x',tx,p,e1, .tail _ e2,e3⟩
   have vt:((vs.set 0 v).map key).Nodup:=by
    have q:=(hp.map key).nodup_iff.mpr hk
    rw[List.map_append] at q
    exact(List.nodup_append.mp q).1
   refine aa (Eq.symm qh) ?_
   refine Bd (pos:=0) T C' (r'.le (by exact Km)) (by simpa using g8) (by simp;exact(ln 0x211043f40bf30038417e6000401).1 hz) qu vt ?_
   walk_at "aww"
   have:=h [(t,bf [vs.getD 0 .none,v])]
   unfold kg at this
   rw[if_pos ⟨bF,by refine aa nj (aa nk ?_);exact aC⟩] at this
   exact this
  ·walk_at "aww"
   have:=h []
   unfold kg at this
   rw[if_neg (by refine aa nj (aa nk ?_);exact λz=>o4 z.2),qh] at this
   exact this
 ·have he:vs=[]:=by
   cases vs with
   |nil=>rfl
   |cons=>cases hb
  subst he
  walk_at "aww"
  have:=h []
  unfold kg at this
  rw[if_neg (by exact λh=>nomatch h)] at this
  exact this
theorem Ro
 (T:aT G.K aW)(C:Cx G A h₀ L env)(r:bw A 3)
 (hz:vs.length≤900)(hi:fP key H vs)(hk:(vs.map key).Nodup)
 (h:Q .none m ((a,af (iU key vs))::H)):
 AW (model G.prog G.w) A h₀ L (call (.ref aW.qx) [.ref a]) Q m ((a,af vs)::H):=by
 refine xE T.qx.d λbg d=>?_
 refine gX (n:=2) (binds:=[(Str.ofString "x",_)]) C r d (λ_ _ _ _ _=>rfl) rfl λA' g L' C' r'=>?_
 have hsz:(1000:Int)<2^62:=by decide
 refine bO (m':=[(Str.ofString "x", .ref a)]) (by walk_at "aw_subl") ?_
 refine kP ?_
 walk_at "aww"
 refine fL (by walk_at "aw_mem") (by lia) λtl=>?_
 walk_at "aww"
 refine je ?_
 walk_at "aww"
 refine xZ (by decide) (by decide) λt1=>?_
 have e1:Int.fdiv (vs.length:Int) 2=((vs.length/2:Nat):Int):=by
  refine aa (Int.fdiv_eq_ediv_of_nonneg _ (by decide)) ?_;rfl
 refine aa e1 ?_
 generalize hn:vs.length/2=n
 walk_at "aww"
 refine mU λrr=>?_
 walk_at "aww"
 refine Sz (n:=n) (by walk_at "aw_mem") (by unfold Builtin.Range.rangeSize;simp;exact Ku) (by unfold Builtin.Range.rangeFitsLong;simp;exact(ln 0x4400044208421400000000000000037f303c81109a010b8417e6100c03).1 hz hn (Eq.refl (vs.length/2))) λit=>?_
 refine F5 (.cons_cons _ (.cons _ (.refl _))) ?_
 refine RA (by walk_at "aw_mem") ?_
 refine iN (lW C'.hh) (λi m H'=>i≤n∧∃vs',H'=(a,af vs')::H∧vs'.Perm vs∧jy key (n-i) vs'=iU key vs∧SubL [(Str.ofString "x", .ref a)] m) (λ_ _ _ _=>trivial) ?_ ?_ 0 (Nat.zero_le _) ⟨Nat.zero_le _,vs,rfl, .refl _,by refine aa (Nat.sub_zero ..) ?_;unfold iU;exact aa hn rfl,by walk_at "aw_subl"⟩
 ·intro i J hJ v m1 H1 aC Oa Oc;refine xE Oa λti zr203=>?_;clear Oa;subst zr203;refine Mq Oc λcA vs' zr204 hp hg hm=>?_;clear Oc;subst zr204
  refine bO hm ?_
  have e2:(0+((n:Int)-1)*1+ -1*(i:Int))=((n-1-i:Nat):Int):=by exact(ln 0x800000422080200000110401004200044100400000220840000000084410040008022080200040008800080010044108423785e1906607b02e04d6b28660128221a80108c04).1 aC (Eq.refl (n-1-i)) (Eq.refl (n-1))
  refine aa e2 ?_
  refine bQ ?_
  walk_at "aww"
  ((with_reducible refine cI (by assumption) (FnAt.n (aT.su (by assumption))) ?_;with_reducible refine eO (Cx.X (by assumption)) (aT.su (by assumption)) ?_))
  walk_at "aww"
  have hl:=hp.length_eq
  refine bu (.tail .head) ?_
  refine Bd T C' (r'.le (by lia)) (by exact @Zk n (n-1) i (n-1-i) vs'.length vs.length (vs.length/2) hn e2 hl (Eq.refl (vs.length/2))) (by exact(ln 0x802110421fa05f9800100b8417e6100802).1 hz hl) (λx hx=>?_) ((hp.map key).nodup_iff.mpr hk) ?_
  ·refine i9 (hi x (hp.mem_iff.mp hx)) λr x' tx p e1 e2 e3=>?_
   exact⟨r,x',tx,p,e1, .tail _ e2,e3⟩
  walk_at "aww"
  refine fU (.tail .head) (hJ ⟨by assumption,_,rfl,(DO key vs' _ (by lia)).trans hp,?_,by walk_at "aw_subl"⟩)
  refine aa (Eq.symm hg) (aa (show n-i=(n-1-i)+1 by exact @(ln 0x200002200401004410040008821086645884100944785e1906607b02e04d6b28805).1 n i (n-i) (n-1) (n-1-i) e2 (Eq.refl (n-i))) ?_)
  show jy key (n-(i+1)) _=jy key (n-1-i) _
  exact aa (show n-(i+1)=n-1-i by exact(ln 0x1000000002008801000000800110420000010040110020000000002208420000000040110020000010002208401080000802200400000000044108400000000040110020004010002208000000200802200400080000044108000000000802200400080200844108001000010044008001004000882108482106615804a0cc035046450c05).1 (Eq.refl (n-1-i)) (Eq.refl (n-1)) (Eq.refl (n-(i+1)))) rfl
 ·intro m1 H1 Od;refine Mq Od λ_ vs' zr205 hp hg hm=>?_;clear Od;subst zr205
  rw[Nat.sub_self] at hg
  have Ca:vs'=iU key vs:=hg
  subst Ca
  walk_at "aww"
  exact h
end
end
section
open PySem.Builtin
theorem zY:Manifest.owners.lookup (String.ofList ['n','r','e','t','t','a','P','.','e','r'].reverse)=some Manifest.sig_re_Pattern:=by kernel_rfl
theorem Lf:Manifest.owners.lookup (String.ofList ['h','c','t','a','M','.','e','r'].reverse)=some Manifest.sig_re_Match:=by kernel_rfl
theorem plainAttrs_pat:PlainAttrs "re.Pattern":=
 ⟨⟨"object.__getattribute__",by refine aa (typeLookup_type ..) (aa (builtinLookup_eq_fast ..) ?_);kernel_rfl,by decide+kernel⟩,by refine aa (typeLookup_type ..) (aa (builtinLookup_eq_fast ..) ?_);kernel_rfl⟩
theorem plainAttrs_mat:PlainAttrs "re.Match":=
 ⟨⟨"object.__getattribute__",by refine aa (typeLookup_type ..) (aa (builtinLookup_eq_fast ..) ?_);kernel_rfl,by decide+kernel⟩,by refine aa (typeLookup_type ..) (aa (builtinLookup_eq_fast ..) ?_);kernel_rfl⟩
theorem tP:Slot "re.Pattern" "search" "re.Pattern.search":=
 .of (owner:="re.Pattern") (n:="search") (by refine aa (typeLookup_type ..) (aa (builtinLookup_eq_fast ..) ?_);kernel_rfl) (by decide+kernel) (by decide+kernel) (by decide+kernel)
  (by first|exact .inl (by decide+kernel)|exact .inr (by decide+kernel)) (by refine aa (isSubtype_type ..) ?_;kernel_rfl)
theorem wN:typeOf (.builtin "re.Pattern.search")=pure (.type "method_descriptor"):=by show builtinType _=_;refine aa builtinType_eq_fast ?_;kernel_rfl
theorem Vm:entryFor table "re.Pattern.search"=some Builtin.«re.Pattern.search»:=entryFor_of_tree (by kernel_rfl)
theorem Qx (a b:Value):argsOk "re.Pattern.search" ⟨[a,b],[]⟩:=by
 unfold argsOk;refine aa (signature?_of (id:="re.Pattern.search") (n:=['h','c','r','a','e','s']) (o:=['n','r','e','t','t','a','P','.','e','r']) (by kernel_rfl) zY) ?_;kernel_rfl
theorem LN:Slot "re.Pattern" "fullmatch" "re.Pattern.fullmatch":=
 .of (owner:="re.Pattern") (n:="fullmatch") (by refine aa (typeLookup_type ..) (aa (builtinLookup_eq_fast ..) ?_);kernel_rfl) (by decide+kernel) (by decide+kernel) (by decide+kernel)
  (by first|exact .inl (by decide+kernel)|exact .inr (by decide+kernel)) (by refine aa (isSubtype_type ..) ?_;kernel_rfl)
theorem type_pat_fullmatch:typeOf (.builtin "re.Pattern.fullmatch")=pure (.type "method_descriptor"):=by show builtinType _=_;refine aa builtinType_eq_fast ?_;kernel_rfl
theorem Vl:entryFor table "re.Pattern.fullmatch"=some Builtin.«re.Pattern.fullmatch»:=entryFor_of_tree (by kernel_rfl)
theorem Qw (a b:Value):argsOk "re.Pattern.fullmatch" ⟨[a,b],[]⟩:=by
 unfold argsOk;refine aa (signature?_of (id:="re.Pattern.fullmatch") (n:=['h','c','t','a','m','l','l','u','f']) (o:=['n','r','e','t','t','a','P','.','e','r']) (by kernel_rfl) zY) ?_;kernel_rfl
theorem Af:Slot "re.Pattern" "sub" "re.Pattern.sub":=
 .of (owner:="re.Pattern") (n:="sub") (by refine aa (typeLookup_type ..) (aa (builtinLookup_eq_fast ..) ?_);kernel_rfl) (by decide+kernel) (by decide+kernel) (by decide+kernel)
  (by first|exact .inl (by decide+kernel)|exact .inr (by decide+kernel)) (by refine aa (isSubtype_type ..) ?_;kernel_rfl)
theorem Mc:typeOf (.builtin "re.Pattern.sub")=pure (.type "method_descriptor"):=by show builtinType _=_;refine aa builtinType_eq_fast ?_;kernel_rfl
theorem Vo:entryFor table "re.Pattern.sub"=some Builtin.«re.Pattern.sub»:=entryFor_of_tree (by kernel_rfl)
theorem Qy (a b c:Value):argsOk "re.Pattern.sub" ⟨[a,b,c],[]⟩:=by
 unfold argsOk;refine aa (signature?_of (id:="re.Pattern.sub") (n:=['b','u','s']) (o:=['n','r','e','t','t','a','P','.','e','r']) (by kernel_rfl) zY) ?_;kernel_rfl
theorem DR:Slot "re.Pattern" "subn" "re.Pattern.subn":=
 .of (owner:="re.Pattern") (n:="subn") (by refine aa (typeLookup_type ..) (aa (builtinLookup_eq_fast ..) ?_);kernel_rfl) (by decide+kernel) (by decide+kernel) (by decide+kernel)
  (by first|exact .inl (by decide+kernel)|exact .inr (by decide+kernel)) (by refine aa (isSubtype_type ..) ?_;kernel_rfl)
theorem type_pat_subn:typeOf (.builtin "re.Pattern.subn")=pure (.type "method_descriptor"):=by show builtinType _=_;refine aa builtinType_eq_fast ?_;kernel_rfl
theorem Vp:entryFor table "re.Pattern.subn"=some Builtin.«re.Pattern.subn»:=entryFor_of_tree (by kernel_rfl)
theorem Qz (a b c:Value):argsOk "re.Pattern.subn" ⟨[a,b,c],[]⟩:=by
 unfold argsOk;refine aa (signature?_of (id:="re.Pattern.subn") (n:=['n','b','u','s']) (o:=['n','r','e','t','t','a','P','.','e','r']) (by kernel_rfl) zY) ?_;kernel_rfl
theorem LM:Slot "re.Match" "span" "re.Match.span":=
 .of (owner:="re.Match") (n:="span") (by refine aa (typeLookup_type ..) (aa (builtinLookup_eq_fast ..) ?_);kernel_rfl) (by decide+kernel) (by decide+kernel) (by decide+kernel)
  (by first|exact .inl (by decide+kernel)|exact .inr (by decide+kernel)) (by refine aa (isSubtype_type ..) ?_;kernel_rfl)
theorem type_mat_span:typeOf (.builtin "re.Match.span")=pure (.type "method_descriptor"):=by show builtinType _=_;refine aa builtinType_eq_fast ?_;kernel_rfl
theorem Vh:entryFor table "re.Match.span"=some Builtin.«re.Match.span»:=entryFor_of_tree (by kernel_rfl)
theorem Qt (a b:Value):argsOk "re.Match.span" ⟨[a,b],[]⟩:=by
 unfold argsOk;refine aa (signature?_of (id:="re.Match.span") (n:=['n','a','p','s']) (o:=['h','c','t','a','M','.','e','r']) (by kernel_rfl) Lf) ?_;kernel_rfl
theorem DP:Slot "re.Match" "group" "re.Match.group":=
 .of (owner:="re.Match") (n:="group") (by refine aa (typeLookup_type ..) (aa (builtinLookup_eq_fast ..) ?_);kernel_rfl) (by decide+kernel) (by decide+kernel) (by decide+kernel)
  (by first|exact .inl (by decide+kernel)|exact .inr (by decide+kernel)) (by refine aa (isSubtype_type ..) ?_;kernel_rfl)
theorem Mb:typeOf (.builtin "re.Match.group")=pure (.type "method_descriptor"):=by show builtinType _=_;refine aa builtinType_eq_fast ?_;kernel_rfl
theorem Vg:entryFor table "re.Match.group"=some Builtin.«re.Match.group»:=entryFor_of_tree (by kernel_rfl)
theorem Qs (a b:Value):argsOk "re.Match.group" ⟨[a,b],[]⟩:=by
 unfold argsOk;refine aa (signature?_of (id:="re.Match.group") (n:=['p','u','o','r','g']) (o:=['h','c','t','a','M','.','e','r']) (by kernel_rfl) Lf) ?_;kernel_rfl
end
section
open PySem.Builtin
theorem DQ:Slot "member_descriptor" "__get__" "member_descriptor.__get__":=
 .of (owner:="member_descriptor") (n:="__get__") (by refine aa (typeLookup_type ..) (aa (builtinLookup_eq_fast ..) ?_);kernel_rfl) (by decide+kernel) (by decide+kernel) (by decide+kernel)
  (by first|exact .inl (by decide+kernel)|exact .inr (by decide+kernel)) (by refine aa (isSubtype_type ..) ?_;kernel_rfl)
theorem slot_md_set:Slot "member_descriptor" "__set__" "member_descriptor.__set__":=
 .of (owner:="member_descriptor") (n:="__set__") (by refine aa (typeLookup_type ..) (aa (builtinLookup_eq_fast ..) ?_);kernel_rfl) (by decide+kernel) (by decide+kernel) (by decide+kernel)
  (by first|exact .inl (by decide+kernel)|exact .inr (by decide+kernel)) (by refine aa (isSubtype_type ..) ?_;kernel_rfl)
theorem Vi:entryFor table "member_descriptor.__get__"=some Builtin.«member_descriptor.__get__»:=entryFor_of_tree (by kernel_rfl)
theorem Qu (a b c:Value):argsOk "member_descriptor.__get__" ⟨[a,b,c],[]⟩:=by unfold argsOk;kernel_rfl
theorem zV:Slot "re.Match" "__getattribute__" "object.__getattribute__":=
 .of (owner:="object") (n:="__getattribute__") (by refine aa (typeLookup_type ..) (aa (builtinLookup_eq_fast ..) ?_);kernel_rfl) (by decide+kernel) (by decide+kernel) (by decide+kernel)
  (by first|exact .inl (by decide+kernel)|exact .inr (by decide+kernel)) (by refine aa (isSubtype_type ..) ?_;kernel_rfl)
theorem ZQ:typeLookup (.type "re.Match") "string"=pure (some (.builtin "re.Match.string")):=by refine aa (typeLookup_type ..) (aa (builtinLookup_eq_fast ..) ?_);kernel_rfl
theorem ZR:typeLookup (.type "re.Match") "__bool__"=pure none:=by refine aa (typeLookup_type ..) (aa (builtinLookup_eq_fast ..) ?_);kernel_rfl
theorem ZS:typeLookup (.type "re.Match") "__len__"=pure none:=by refine aa (typeLookup_type ..) (aa (builtinLookup_eq_fast ..) ?_);kernel_rfl
theorem DY:typeOf (.builtin "re.Match.string")=pure (.type "member_descriptor"):=by kernel_rfl
theorem Vj:entryFor table "re.Match.string"=some Builtin.«re.Match.string»:=entryFor_of_tree (by kernel_rfl)
theorem owner_mstring:(".".intercalate ("re.Match.string".cutAt '.').dropLast)="re.Match":=by
 have e0:"re.Match.string".cutAt '.'=["re","Match","string"]:=by first|rfl|decide+kernel
 refine aa e0 ?_;decide+kernel
theorem Vk:entryFor table "object.__getattribute__"=some Builtin.«object.__getattribute__»:=entryFor_of_tree (by kernel_rfl)
theorem Qv (a b:Value):argsOk "object.__getattribute__" ⟨[a,b],[]⟩:=by unfold argsOk;kernel_rfl
theorem sub_mat:isSubtype (.type "re.Match") (.type "re.Match")=pure true:=by refine aa (isSubtype_type ..) ?_;kernel_rfl
section
variable {prog:Program}{w:World}{A:Around}{E:Value->Shared->Prop}{h:Heap}{g:Array GenState}{d:Drawn}{t:Nat}{os:OsState}{a:Addr}{o:Obj}{vs:Array Value}{a0:Value}
theorem Z2 (hx:h.get? a=some o)(hc:o.cls= .type "re.Match")(hd:o.data= .fields vs)(h0:vs[0]?=some a0)(hq:R (.ok (.ret a0)) ⟨h,g,d,t,os⟩):
 codeAny (model prog w) A (.call (.builtin "member_descriptor.__get__") ⟨[.builtin "re.Match.string", .ref a, .type "re.Match"],[]⟩) R ⟨h,g,d,t,os⟩:=by
 have hT:(⟨h,g,d,t,os⟩:Shared).TypeIs (.ref a) "re.Match":=⟨_,hx,hc⟩
 have HH:(⟨h,g,d,t,os⟩:Shared).TypeIs (.builtin "re.Match.string") "member_descriptor":=DY
 have f8:isSubtype (.type "re.Match") (.type (".".intercalate ("re.Match.string".cutAt '.').dropLast))=pure true:=by refine aa owner_mstring ?_;exact sub_mat
 refine codeAny_call_builtin DQ.plain Vi (DQ.check _ _ _ _ _ _ _ _ HH (Qu _ _ _) ?_)
 repeat (any_goals (first|assumption|wp_step))
 refine⟨Code.quiet_builtin _ (by decide+kernel),codeAny_builtin Vj ?_⟩
 show wpAny _ _ (field (.ref a) 0>>=λv=>ret v) _ _ _
 exact wpAny_bind (wpAny_field hx hd h0 (wpAny_pure hq))
theorem Z1 (hx:h.get? a=some o)(hc:o.cls= .type "re.Match")(hd:o.data= .fields vs)(h0:vs[0]?=some a0)(hq:Q (.done (.ret a0)) ⟨h,g,d,t,os⟩):
 wpAny (model prog w) A (Builtin.«object.__getattribute__» ⟨[.ref a, .str "string" tk],[]⟩) Q E ⟨h,g,d,t,os⟩:=by
 have hT:(⟨h,g,d,t,os⟩:Shared).TypeIs (.ref a) "re.Match":=⟨_,hx,hc⟩
 have HH:(⟨h,g,d,t,os⟩:Shared).TypeIs (.builtin "re.Match.string") "member_descriptor":=DY
 have f4:=ZQ
 have f5:=DY
 have f6:=DQ.lookup
 have f7:=slot_md_set.lookup
 repeat (any_goals (first|assumption|wp_step))
 refine Z2 hx hc hd h0 ?_
 repeat (any_goals (first|assumption|wp_step))
theorem Z0 (hx:h.get? a=some o)(hc:o.cls= .type "re.Match")(hd:o.data= .fields vs)(h0:vs[0]?=some a0)(hq:R (.ok (.ret a0)) ⟨h,g,d,t,os⟩):
 codeAny (model prog w) A (.call (.builtin "object.__getattribute__") ⟨[.ref a, .str "string" tk],[]⟩) R ⟨h,g,d,t,os⟩:=
 codeAny_call_builtin zV.plain Vk (zV.check _ _ _ _ _ _ _ _ (show(⟨h,g,d,t,os⟩:Shared).TypeIs (.ref a) "re.Match" from⟨_,hx,hc⟩) (Qv _ _) (Z1 hx hc hd h0 hq))
theorem ZZ {fill expr:Bool}{Q:Value->Shared->Prop}(hx:h.get? a=some o)(hc:o.cls= .type "re.Match")(hd:o.data= .fields vs)(h0:vs[0]?=some (.str x tx))
 (hq:Q (.str x tx) ⟨h,g,d,t,os⟩):wpAny (model prog w) A (getAttrBy (.ref a) (.str "string" tk) fill expr) Q E ⟨h,g,d,t,os⟩:=by
 have hT:(⟨h,g,d,t,os⟩:Shared).TypeIs (.ref a) "re.Match":=⟨_,hx,hc⟩
 have f2:=zV.lookup
 have f3:=zV.bind (.ref a)
 have pA:(expr&&onTheHeap (Value.builtin "object.__getattribute__"))=false:=by cases expr<;>rfl
 repeat (any_goals (first|assumption|wp_step))
 refine Z0 hx hc hd h0 ?_
 repeat (any_goals (first|assumption|wp_step))
theorem ZY {expr:Bool}{Q:Value->Shared->Prop}(hx:h.get? a=some o)(hc:o.cls= .type "re.Match")(hd:o.data= .fields vs)(h0:vs[0]?=some (.str x tx))
 (hq:Q (.str x tx) ⟨h,g,d,t+1,os⟩):wpAny (model prog w) A (getAttr (.ref a) "string" expr) Q E ⟨h,g,d,t,os⟩:=by
 unfold getAttr
 repeat (any_goals (first|assumption|with_reducible apply ZZ hx hc hd h0|wp_step))
theorem truthy_mat (hx:h.get? a=some o)(hc:o.cls= .type "re.Match")(hq:Q true ⟨h,g,d,t,os⟩):wpAny (model prog w) A (truthy (.ref a)) Q E ⟨h,g,d,t,os⟩:=by
 have hT:(⟨h,g,d,t,os⟩:Shared).TypeIs (.ref a) "re.Match":=⟨_,hx,hc⟩
 have f1:=ZR
 have f2:=ZS
 unfold truthy callSpecial?
 repeat (any_goals (first|assumption|wp_step))
end
end
section
open PySem.Builtin PySem.Builtin.Re PySem.Sre
theorem q9:∀(n:Nat) (m:M),m.outcome.isSome=true->M.runFor n m=m
 |0,_,_=>rfl
 |n+1,m,h=>by unfold M.runFor;exact aa (if_pos h) rfl
theorem nU (n:Nat)(m:M)(h:m.outcome=none):M.runFor (n+1) m=M.runFor n m.step:=by
 show(if m.outcome.isSome=true then m else M.runFor n m.step)=_
 refine aa h ?_;rfl
theorem tM (b:Nat):∀(a:Nat) (m:M),M.runFor (a+b) m=M.runFor b (M.runFor a m)
 |0,m=>by refine aa (Nat.zero_add ..) ?_;rfl
 |a+1,m=>by
  refine aa (show a+1+b=(a+b)+1 by simp+arith) ?_
  cases h:m.outcome with
  |none=>rw[nU _ _ h,nU _ _ h,tM b a]
  |some o=>
   have hs:m.outcome.isSome=true:=by refine aa h ?_;rfl
   exact aa (q9 ((a+b)+1) m hs) (aa (q9 (a+1) m hs) (aa (q9 b m hs) rfl))
section
variable {M':Model}{A:Around}{E:Value->Shared->Prop}{s:Shared}
theorem Ml:∀(T n:Nat) (m:M),n≤4*T->(M.runFor n m).outcome.isSome=true->Q (M.runFor n m) s->wpAny M' A (reDrive (T+1) m) Q E s
 |T,n,m,hn,ho,h=>by
  unfold reDrive
  dsimp only
  by_cases h4:(M.runFor reTurnSteps m).outcome.isSome=true
  ·refine aa (if_pos h4) ?_
   have e:M.runFor reTurnSteps m=M.runFor n m:=by
    rcases Nat.le_total n 4 with hle|hle
    ·refine xE (Nat.exists_eq_add_of_le hle) λd hd=>?_
     show M.runFor 4 m=_
     rw[hd,tM,q9 _ _ ho]
    ·refine xE (Nat.exists_eq_add_of_le hle) λd zr296=>?_;subst zr296
     refine aa (tM ..) ?_
     exact(q9 _ _ h4).symm
   refine aa e ?_
   exact wpAny_pure h
  ·refine aa (if_neg h4) ?_
   refine wpAny_bind (wpAny_rule ?_)
   cases T with
   |zero=>
    obtain rfl:n=0:=by exact(ln 0x42200441082601026000401).1 hn
    exact absurd (by refine aa (show reTurnSteps=0+4 from rfl ..) (aa (tM ..) (aa (q9 4 (M.runFor 0 m) ho ..) ?_));exact ho) h4
   |succ T=>
    have h5:4<n:=by
     rcases Nat.lt_or_ge 4 n with z|z
     ·exact z
     ·refine xE (Nat.exists_eq_add_of_le z) λd hd=>?_
      exact absurd (by show(M.runFor 4 m).outcome.isSome=true;refine aa (hd ..) (aa (tM ..) (aa (q9 _ _ ho ..) ?_));exact ho) h4
    refine xE (Nat.exists_eq_add_of_le (Nat.le_of_lt h5)) λd zr297=>?_;subst zr297
    rw[tM] at ho h
    exact Ml T d _ (by exact(ln 0x84410848d000330ac8d0126b00402).1 hn) ho h
theorem Mm (f:Nat->PUnit->Sem (ForInStep PUnit))(hf:∀i u (Q:ForInStep PUnit->Shared->Prop),Q (.yield u) s->wpAny M' A (f i u) Q E s)(h:Q PUnit.unit s):∀l:List Nat,wpAny M' A (forIn l PUnit.unit f) Q E s
 |[]=>wpAny_pure h
 |i::l=>by
  refine aa (List.forIn_cons ..) ?_
  exact wpAny_bind (hf _ _ _ (Mm f hf h l))
theorem Am (hn:n≤2^62)
 (h:match(M.runFor n m).outcome with|some .matched=>Q (some (M.runFor n m)) s|some .failed=>Q none s|_=>False):wpAny M' A (reRunToEnd m) Q E s:=by
 unfold reRunToEnd
 have hs:(M.runFor n m).outcome.isSome=true:=by
  split at h
  ·rename_i e;refine aa e ?_;rfl
  ·rename_i e;refine aa e ?_;rfl
  ·exact h.elim
 refine wpAny_bind (Ml (2^64-1) n m (by exact Nat.le_trans ‹_› (by decide)) hs ?_)
 refine wpAny_bind (Mm _ (λi u Q hq=>?_) ?_ _)
 ·refine wpAny_ite ?_
  split
  ·exact wpAny_bind (wpAny_rule (wpAny_pure hq))
  ·exact wpAny_pure hq
 ·split at h
  ·rename_i e;refine aa e ?_;exact wpAny_pure h
  ·rename_i e;refine aa e ?_;exact wpAny_pure h
  ·exact h.elim
end
structure eG (K:Frag)(nm:Str)(p:Addr)(code:Array Nat)(groups:Nat):Prop where
 n:nsIn K mainGlobals nm=some (some (.ref p))
 o:∃fs sl tup items n od kG,K.lookup p=some ⟨.type "re.Pattern",none, .fields fs,sl⟩∧reRawNat (fs.getD 2 .none)=groups∧fs.getD 5 .none= .ref tup∧reRawNat (fs.getD 6 .none)=0∧
  K.lookup tup=some ⟨.type "tuple",od, .seq items n,kG⟩∧(items.map reRawOf).map (·.toNat)=code
section
variable {prog:Program}{w:World}{A:Around}{h₀:Heap}{L p:Addr}{m:Loc}{H:Led}{env:Env}{x y:Str}{t u:Tok}{Q:Value->Loc->Led->Prop}
theorem mT {K:Frag}{nm:Str}{code:Array Nat}{groups:Nat}{M:Model}{name:Str}{id:String}{pl:Sem Bool}{Q:Value×List Value->Loc->Led->Prop}(X:K.In h₀)(P:eG K nm p code groups)(slot:Slot "re.Pattern" name id)(ty:typeOf (.builtin id)=pure (.type "method_descriptor"))
 (h:Q (.builtin id,[.ref p]) m H):AW M A h₀ L (getMethod (.ref p) name pl) Q m H:=λs R E S k=>by
 refine wY P.o λfs sl tup items n od kG e1 _=>?_
 have e:=S.keep _ _ (X _ _ e1)
 exact getMethod_builtin ⟨_,e,rfl⟩ plainAttrs_pat slot ty (λa e'=>by cases e';exact⟨_,e,rfl⟩) (k _ m H _ _ S h)
theorem reNamed_3 (id f:String)(v:Value):reNamed id f ["string","pos","endpos"] 1 [v] []=pure [some v,none,none]:=by rfl
theorem DE {Q:Array Nat×Nat->Shared->Prop}(h:Q (x.cps,0) s):wpAny Mo A (reTextOf (.str x t)) Q E s:=by
 unfold reTextOf
 first
  |exact wpAny_pure h
  |exact wpAny_bind (wpAny_pure (wpAny_pure h))
  |exact wpAny_bind (wpAny_pure h)
noncomputable def uu (groups:Nat)(m:M):List Value:=(List.range groups).flatMap λg=>
 match if((2*g+1:Nat):Int)≤m.lastmark then(m.marks.getD (2*g) none,m.marks.getD (2*g+1) none) else(none,none) with
 |(some b,some e)=>[rawInt b,rawInt e]
 |_=>[rawInt (-1),rawInt (-1)]
noncomputable def ux (groups:Nat)(m:M):Bool:=(List.range groups).any (λg=>match m.marks.getD (2*g) none,m.marks.getD (2*g+1) none with|some b,some e=>((2*g+1:Nat):Int)≤m.lastmark&&e<b|_,_=>false)
structure kL where
 b:Nat
 e:Nat
 sp:List Value
noncomputable def Ends (groups:Nat)(iI:M):Option kL->Prop
 |none=>∃n,n≤2^62∧(M.runFor n iI).outcome=some .failed
 |some r=>∃n,n≤2^62∧(M.runFor n iI).outcome=some .matched∧(M.runFor n iI).start=r.b∧(M.runFor n iI).handed=r.e∧uu groups (M.runFor n iI)=r.sp∧ux groups (M.runFor n iI)=false
noncomputable def lI (x:Str)(tp:Addr):Obj->Prop:=λo=>o.cls= .type "re.Match"∧o.dict=none∧∃fs t,o.data= .fields fs∧fs[0]?=some (.str x t)∧fs[5]?=some (.ref tp)
noncomputable def AL (Q:Value->Loc->Led->Prop)(x:Str)(m:Loc)(H:Led):Option kL->Prop
 |none=>Q .none m H
 |some r=>∀ma tp,Q (.ref ma) m ((ma,lI x tp)::(tp,bf (rawInt r.b::rawInt r.e::r.sp))::H)
theorem Sw {r:kL}(h1:mm.start=r.b)(h2:mm.handed=r.e)(h3:uu groups mm=r.sp)(h4:ux groups mm=false)(hz:r.sp.length≤1000)
 (h:∀ma tp,Q (.ref ma) m ((ma,lI x tp)::(tp,bf (rawInt r.b::rawInt r.e::r.sp))::H)):AW (model prog w) A h₀ L (reNewMatch pv (.str x t) groups pos lim mm) Q m H:=λs R E S k=>by
 unfold reNewMatch
 have aP:(100000:Nat)≤sizeLine:=by decide
 refine wpAny_ite ?_
 split
 ·rename_i e
  exact absurd ((show ux groups mm=true from e).symm.trans h4) (by simp)
 refine wpAny_bind ?_
 show wpAny _ _ (newTuple (rawInt mm.start::rawInt mm.handed::uu groups mm)) _ _ _
 refine aa h3 (aa h1 (aa h2 ?_))
 refine wpAny_newTuple ?_ (by simp only [List.length_cons];exact @(ln 0x42110421086619816b00461a809f983e817e6000802).1 r.sp.length sizeLine hz aP)
 refine wpAny_newObj_type ?_
 have S1:=S.cL (o:={cls:= .type "tuple",data:= .seq (rawInt r.b::rawInt r.e::r.sp).toArray}) (P:=bf (rawInt r.b::rawInt r.e::r.sp)) ⟨0,rfl⟩
 have S2:=S1.cL (o:={cls:= .type "re.Match",data:= .fields [.str x t,pv,rawInt pos,rawInt lim,rawInt mm.lastindex, .ref s.heap.objs.size].toArray}) (P:=lI x s.heap.objs.size) ⟨rfl,rfl,_,t,rfl,rfl,rfl⟩
 exact k _ m _ _ _ S2 (h _ _)
theorem FN (hs:T.string= .str x t)(dR:Ends T.groups mm r)(hz:∀q,r=some q->q.sp.length≤1000)
 (h:AL Q x m H r):
 AW (model prog w) A h₀ L (reAnswer T mm) (λfin m H=>∃v,fin= .done (.ret v)∧Q v m H) m H:=λs R E S k=>by
 unfold reAnswer
 cases r with
 |none=>
  refine ah dR λn hn ho=>?_;clear dR
  refine wpAny_bind (Am hn ?_)
  refine aa ho ?_
  exact wpAny_pure (k _ m H _ _ S ⟨_,rfl,h⟩)
 |some r=>
  refine Mr dR λn hn ho h1 h2 h3 h4=>?_;clear dR
  refine wpAny_bind (Am hn ?_)
  refine aa ho ?_
  dsimp only
  refine aa hs ?_
  refine wpAny_bind (Sw h1 h2 h3 h4 (hz _ rfl) (λma tp=>?_) _ _ _ S λv m' H' h' aB S' q=>wpAny_pure (k _ m' H' _ _ S' q))
  exact⟨_,rfl,h ma tp⟩
theorem FP {K:Frag}{nm:Str}{code:Array Nat}{groups:Nat}(id f:String)(X:K.In h₀)(P:eG K nm p code groups)(hz:x.length≤sizeLine){Q:ReTarget->Loc->Led->Prop}
 (h:Q ⟨.ref p, .str x t,code,x.cps,0,groups,0,x.cps.size⟩ m H):AW (model prog w) A h₀ L (reTarget id f ⟨[.ref p, .str x t],[]⟩) Q m H:=λs R E S k=>by
 refine Mz P.o λfs sl tup items n od kG e1 e2 e3 e4 e5 e6=>?_
 have ep:=S.keep _ _ (X _ _ e1)
 have et:=S.keep _ _ (X _ _ e5)
 have aP:(100000000:Nat)≤2^62:=by decide
 unfold reTarget
 dsimp only
 refine aa (reNamed_3 ..) ?_
 refine wpAny_bind (wpAny_pure ?_)
 dsimp only
 refine wpAny_bind (wpAny_pure (wpAny_bind (wpAny_pure ?_)))
 refine wpAny_bind (wpAny_fieldsOf ep rfl ?_)
 refine wpAny_bind (DE ?_)
 dsimp only
 refine aa e4 ?_
 have ec:∀{R:Array Int->Shared->Prop} {s':Shared},s'.heap.get? tup=some ⟨.type "tuple",od, .seq items n,kG⟩->R (items.map reRawOf) s'->wpAny (model prog w) A (reRawItems (fs.getD 5 .none)) R E s':=by
  intro R s' e hr
  unfold reRawItems
  refine aa e3 ?_
  exact wpAny_bind (wpAny_seqItems e rfl (wpAny_pure hr))
 have hsz:x.cps.size≤2^24:=hz
 have fin:R ⟨.ref p, .str x t,Array.map (λx=>x.toNat) (items.map reRawOf),x.cps,0,reRawNat (fs.getD 2 .none),Min.min (Int.toNat 0) x.cps.size,Min.min (2^63-1:Int).toNat x.cps.size⟩ s:=by
  have:(2^63-1:Int).toNat=9223372036854775807:=by decide
  refine aa e6 (aa e2 (aa this (aa (show Min.min (Int.toNat 0) x.cps.size=0 from Nat.zero_min _) (aa (Nat.min_eq_right (a:=9223372036854775807) (by exact Nat.le_trans ‹_› (by decide))) ?_))))
  exact k _ m H _ _ S h
 refine aa (if_neg (by decide)) (aa (if_neg (by decide)) ?_)
 refine wpAny_bind ?_
 show wpAny _ _ (pure ()) _ _ _
 exact wpAny_pure (wpAny_bind (ec et (wpAny_pure fin)))
theorem yc {K:Frag}{nm:Str}{code:Array Nat}{groups:Nat}(X:K.In h₀)(P:eG K nm p code groups){Q:ReTarget->Loc->Led->Prop}
 (h:Q ⟨.ref p, .str x t,code,x.cps,0,groups,0,x.cps.size⟩ m H):AW (model prog w) A h₀ L (reWholeTarget (.ref p) (.str x t)) Q m H:=λs R E S k=>by
 refine Mz P.o λfs sl tup items n od kG e1 e2 e3 e4 e5 e6=>?_
 have ep:=S.keep _ _ (X _ _ e1)
 have et:=S.keep _ _ (X _ _ e5)
 unfold reWholeTarget
 refine wpAny_bind (wpAny_fieldsOf ep rfl ?_)
 refine wpAny_bind (DE ?_)
 dsimp only
 refine aa e4 ?_
 have ec:∀{R:Array Int->Shared->Prop} {s':Shared},s'.heap.get? tup=some ⟨.type "tuple",od, .seq items n,kG⟩->R (items.map reRawOf) s'->wpAny (model prog w) A (reRawItems (fs.getD 5 .none)) R E s':=by
  intro R s' e hr
  unfold reRawItems
  refine aa e3 ?_
  exact wpAny_bind (wpAny_seqItems e rfl (wpAny_pure hr))
 have fin:R ⟨.ref p, .str x t,Array.map (λx=>x.toNat) (items.map reRawOf),x.cps,0,reRawNat (fs.getD 2 .none),0,x.cps.size⟩ s:=by
  refine aa e6 (aa e2 ?_)
  exact k _ m H _ _ S h
 refine aa (if_neg (by decide)) (aa (if_neg (by decide)) ?_)
 refine wpAny_bind ?_
 show wpAny _ _ (pure ()) _ _ _
 exact wpAny_pure (wpAny_bind (ec et (wpAny_pure fin)))
theorem uF {K:Frag}{nm:Str}{code:Array Nat}{groups:Nat}{r:Option kL}(X:K.In h₀)(P:eG K nm p code groups)(hz:x.length≤sizeLine)(dR:Ends groups (forSearch code x.cps groups 0 x.cps.size false) r)(qP:∀q,r=some q->q.sp.length≤1000)
 (h:AL Q x m H r):AW (model prog w) A h₀ L (call (.builtin "re.Pattern.search") [.ref p, .str x t]) Q m H:=λs R E S k=>by
 refine wY (id P.o) λfs sl tup items n od kG e1 _=>?_
 have e:=S.keep _ _ (X _ _ e1)
 refine wpAny_call_entry tP ⟨_,e,rfl⟩ Vm ?_ (Qx _ _)
 refine wpAny_bind (iu (FP "re.Pattern.search" "search" X P hz ⟨rfl,rfl,rfl⟩) S λh1 aX S1=>?_)
 exact FN rfl dR qP h _ _ _ S1 λfin m2 H2 h2 bC S2 q2=>by
  refine ah q2 λv zr301 q=>?_;clear q2;subst zr301
  exact⟨v,rfl,k _ _ _ _ _ S2 q⟩
theorem Rg {K:Frag}{nm:Str}{code:Array Nat}{groups:Nat}{r:Option kL}(X:K.In h₀)(P:eG K nm p code groups)(hz:x.length≤sizeLine)(dR:Ends groups (forMatch code x.cps groups 0 x.cps.size true false) r)(qP:∀q,r=some q->q.sp.length≤1000)
 (h:AL Q x m H r):AW (model prog w) A h₀ L (call (.builtin "re.Pattern.fullmatch") [.ref p, .str x t]) Q m H:=λs R E S k=>by
 refine wY (id P.o) λfs sl tup items n od kG e1 _=>?_
 have e:=S.keep _ _ (X _ _ e1)
 refine wpAny_call_entry LN ⟨_,e,rfl⟩ Vl ?_ (Qw _ _)
 refine wpAny_bind (iu (FP "re.Pattern.fullmatch" "fullmatch" X P hz ⟨rfl,rfl,rfl⟩) S λh1 aX S1=>?_)
 exact FN rfl dR qP h _ _ _ S1 λfin m2 H2 h2 bC S2 q2=>by
  refine ah q2 λv zr305 q=>?_;clear q2;subst zr305
  exact⟨v,rfl,k _ _ _ _ _ S2 q⟩
end
end
section
open PySem.Builtin PySem.Builtin.Re PySem.Sre
section
variable {prog:Program}{w:World}{A:Around}{h₀:Heap}{L ma tp:Addr}{m:Loc}{H:Led}{env:Env}{x y:Str}{t u:Tok}{Q:Value->Loc->Led->Prop}
theorem F8 {Q:Bool->Loc->Led->Prop}(hm:(ma,lI x tp)∈H)(h:Q true m H):AW (model prog w) A h₀ L (truthy (.ref ma)) Q m H:=λs R E S k=>by
 refine ah (S.get hm) λo e p=>?_
 exact truthy_mat e p.1 (k _ m H _ _ S h)
theorem A7 {M:Model}{name:Str}{id:String}{pl:Sem Bool}{Q:Value×List Value->Loc->Led->Prop}(hm:(ma,lI x tp)∈H)(slot:Slot "re.Match" name id)(ty:typeOf (.builtin id)=pure (.type "method_descriptor"))
 (h:Q (.builtin id,[.ref ma]) m H):AW M A h₀ L (getMethod (.ref ma) name pl) Q m H:=λs R E S k=>by
 refine ah (S.get hm) λo e p=>?_
 exact getMethod_builtin ⟨_,e,p.1⟩ plainAttrs_mat slot ty (λa e'=>by cases e';exact⟨_,e,p.2.1⟩) (k _ m H _ _ S h)
theorem Fx (h:AW (model prog w) A h₀ L (eval value env) (λv m H=>∃ma tp x,v= .ref ma∧(ma,lI x tp)∈H∧∀t,Q (.str x t) m H) m H)
 (he:eval (.Attribute value (Str.ofString "string") pos) env=(do let o<-eval value env;standAt pos.atName;holding [o] (getAttr o (Str.ofString "string") true)>>=λr=>pure r):=by rfl):AW (model prog w) A h₀ L (eval (.Attribute value (Str.ofString "string") pos) env) Q m H:=λs R E S k=>by
 refine aa he ?_
 refine wpAny_bind (h _ _ _ S λv m1 H1 h1 aX S1 q1=>?_)
 refine wX q1 λma tp x zr306 hm q=>?_;clear q1;subst zr306
 refine Ms (S1.get hm) λo e c _ fs t ed e0 _=>?_
 refine wpAny_bind (wpAny_standAt (wpAny_bind (wpAny_holding ?_)))
 exact ZY e c ed e0 (wpAny_pure (k _ m1 H1 _ _ S1 (q _)))
end
end
section
open PySem.Builtin PySem.Builtin.Re PySem.Sre
section
variable {prog:Program}{w:World}{A:Around}{h₀:Heap}{L ma tp:Addr}{m:Loc}{H:Led}{env:Env}{x y:Str}{t u:Tok}{Q:Value->Loc->Led->Prop}
theorem FO {Q:ReFound->Loc->Led->Prop}(hm:(ma,lI x tp)∈H)(ht:(tp,bf vs)∈H)
 (h:∀fs t,fs.getD 0 .none= .str x t->Q ⟨fs,(vs.map reRawOf).toArray⟩ m H):AW (model prog w) A h₀ L (reFound (.ref ma)) Q m H:=λs R E S k=>by
 refine Ms (S.get hm) λo e c _ fs t ed e0 e5=>?_
 refine xE (S.tup ht) λn e2=>?_
 unfold reFound
 refine wpAny_bind (wpAny_fieldsOf e ed ?_)
 have U1:fs.getD 5 .none= .ref tp:=by refine aa (Array.getD_eq_getD_getElem?) (aa e5 ?_);rfl
 have U0:fs.getD 0 .none= .str x t:=by refine aa (Array.getD_eq_getD_getElem?) (aa e0 ?_);rfl
 refine aa U1 ?_
 refine wpAny_bind ?_
 unfold reRawItems
 refine wpAny_bind (wpAny_seqItems e2 rfl (wpAny_pure (wpAny_pure ?_)))
 have:=k _ m H _ s.toks S (h fs t U0)
 show R ⟨fs,Array.map reRawOf vs.toArray⟩ s
 refine aa (show Array.map reRawOf vs.toArray=(vs.map reRawOf).toArray from by simp) ?_
 exact this
theorem Fl {Q:Nat->Loc->Led->Prop}(hs:2*i<F.spans.size)(h:Q i m H):AW (model prog w) A h₀ L (reGroupNumber F (.int i t)) Q m H:=λs R E S k=>by
 unfold reGroupNumber
 refine wpAny_bind ?_
 show wpAny _ _ (pure (some (i:Int))) _ _ _
 refine wpAny_pure ?_
 dsimp only
 refine aa (if_pos (show(some (i:Int)).isSome=true from rfl)) ?_
 refine wpAny_bind ?_
 show wpAny _ _ (pure (i:Int)) _ _ _
 refine wpAny_pure ?_
 have:¬((decide ((i:Int)<0)||decide (2*(i:Int)≥F.spans.size))=true):=by simp;exact Int.ofNat_lt.mpr ‹_›
 refine aa (if_neg this) ?_
 have e:(i:Int).toNat=i:=by simp
 refine aa e ?_
 exact wpAny_pure (k _ m H _ _ S h)
theorem Tg {sp:List Value}(hm:(ma,lI x tp)∈H)(ht:(tp,bf (rawInt b::rawInt e::sp))∈H)
 (h:∀r t1 t2,Q (.ref r) m ((r,bf [.int b t1, .int e t2])::H)):AW (model prog w) A h₀ L (call (.builtin "re.Match.span") [.ref ma, .int 0 t]) Q m H:=λs R E S k=>by
 refine cQ (S.get hm) λo eo c _=>?_
 refine wpAny_call_entry LM ⟨_,eo,c⟩ Vh ?_ (Qt _ _)
 unfold Builtin.«re.Match.span» reOneGroup
 refine wpAny_bind (wpAny_bind ?_)
 show wpAny _ _ (pure (Value.ref ma,[Value.int 0 t])) _ _ _
 refine wpAny_pure ?_
 dsimp only
 refine wpAny_bind (Ab (λF=>F.spans=((rawInt b::rawInt e::sp).map reRawOf).toArray) (FO hm ht (λfs t _=>⟨rfl,rfl,rfl⟩)) S λF hF h1 aX S1=>?_)
 refine wpAny_bind (iu (Fl (i:=0) (by refine aa hF ?_;simp) ⟨rfl,rfl,rfl⟩) S1 λh2 bC S2=>?_)
 refine wpAny_pure ?_
 dsimp only
 refine aa hF ?_
 refine wpAny_bind (wpAny_mkInt (wpAny_bind (wpAny_mkInt (wpAny_bind ?_))))
 refine wpAny_newTuple ?_ (by show(2:Nat)≤sizeLine;decide)
 refine wpAny_pure ⟨_,rfl,?_⟩
 exact k _ m _ _ _ (S2.cL (P:=bf [.int b bC, .int e (bC+1)]) ⟨0,rfl⟩) (h _ _ _)
theorem Fj {b1 e1:Nat}(hm:(ma,lI x tp)∈H)(ht:(tp,bf [rawInt b,rawInt e,rawInt b1,rawInt e1])∈H)(hz:x.length≤sizeLine)
 (h:∀t,Q (.str ⟨x.cps.extract b1 e1⟩ t) m H):AW (model prog w) A h₀ L (call (.builtin "re.Match.group") [.ref ma, .int 1 t]) Q m H:=λs R E S k=>by
 refine cQ (S.get hm) λo eo c _=>?_
 refine wpAny_call_entry DP ⟨_,eo,c⟩ Vg ?_ (Qs _ _)
 unfold Builtin.«re.Match.group»
 refine wpAny_bind ?_
 show wpAny _ _ (pure ()) _ _ _
 refine wpAny_pure ?_
 dsimp only
 refine wpAny_bind (Ab (λF=>F.spans=([rawInt b,rawInt e,rawInt b1,rawInt e1].map reRawOf).toArray∧∃t,F.fields.getD 0 .none= .str x t) (FO hm ht (λfs t e=>⟨⟨rfl,t,e⟩,rfl,rfl⟩)) S λF VR h1 aX S1=>?_)
 refine Mp VR λhF tx hx=>?_
 refine wpAny_bind (iu (Fl (i:=1) (by refine aa hF ?_;simp) ⟨rfl,rfl,rfl⟩) S1 λh2 bC S2=>?_)
 refine wpAny_bind ?_
 unfold reGroupText
 refine aa hF (aa hx ?_)
 show wpAny _ _ (if(decide ((b1:Int)<0)||decide ((e1:Int)<0))=true then pure Value.none else do
  let(text,kind)<-reTextOf (.str x tx)
  reSlice text kind (b1:Int).toNat (e1:Int).toNat) _ _ _
 have hn:¬((decide ((b1:Int)<0)||decide ((e1:Int)<0))=true):=by exact Bool.false_ne_true
 refine aa (if_neg hn) ?_
 refine wpAny_bind (DE ?_)
 dsimp only
 unfold reSlice
 refine aa (if_pos (by decide)) ?_
 have hl:(⟨x.cps.extract (b1:Int).toNat (e1:Int).toNat⟩:Str).length≤sizeLine:=by
  refine Nat.le_trans ?_ hz
  show(x.cps.extract _ _).size≤x.cps.size
  refine aa Array.size_extract ?_;omega
 refine wpAny_mkStr (wpAny_pure ⟨_,rfl,?_⟩) hl
 exact k _ m _ _ _ S2 (h _)
end
end
section
open PySem.Builtin PySem.Builtin.Re PySem.Sre
noncomputable def bT (pos:Pos):Obj->Prop:=λo=>∃ps,o=tabObj ps∧(ps= #[]∨∃c':Addr,ps= #[rawInt pos.line,rawInt pos.col, .ref c'])
noncomputable def xO:Obj->Prop:=λo=>o.cls= .type "function"
theorem VB:∃id,typeLookup (.type "function") "__call__"=pure (some (.builtin id)):=⟨"function.__call__",by refine aa (typeLookup_type ..) (aa (builtinLookup_eq_fast ..) ?_);kernel_rfl⟩
theorem str_noCall:typeLookup (.type "str") "__call__"=pure none:=by refine aa (typeLookup_type ..) (aa (builtinLookup_eq_fast ..) ?_);kernel_rfl
section
variable {h₀ h h':Heap}{L P:Addr}{m:Loc}{H:Led}{Pr AP:Obj->Prop}{o:Obj}
theorem St.updX (S:St h₀ L h m ((P,Pr)::H))(hs:Heap.ExtBut P h h')(ho:h'.get? P=some o)(hp:AP o):St h₀ L h' m ((P,AP)::H):=by
 refine ah S.fr λmf F g=>?_
 refine j4 (S.nw _ (.head _)) λo₁ yw _ n1 n2=>?_
 have nd:=S.nd
 rw[List.map_cons,List.nodup_cons] at nd
 refine⟨⟨mf,⟨F.ns.extBut hs (Ne.symm n1),λb x e=>hs _ _ ?_ (F.keep b x e),F.above⟩,g⟩,λq hq=>?_,S.nd⟩
 ·intro q;subst q;rw[n2] at e;cases e
 ·rcases List.mem_cons.mp hq with rfl|hq
  ·exact⟨o,ho,hp,n1,n2⟩
  ·refine ah (S.nw q (.tail _ hq)) λo' e' r=>?_
   refine⟨o',hs _ _ ?_ e',r⟩
   intro z
   exact nd.1 (List.mem_map.mpr ⟨q,hq,z⟩)
end
section
variable {G:Gx}{A:Around}{h₀:Heap}{L a c P:Addr}{m:Loc}{H H':Led}{gf:Env}{cn:Str}{cs:Scope}{cl:List (Str×Addr)}{Q:Value->Loc->Led->Prop}
theorem Fq (kK:Cx G A h₀ L gf)(C:CodeHd h₀ c P)(p:aZ P (bT pos) H H')
 (h:∀f,Q (.ref f) m ((f,xO)::(P,bT pos)::H'))
 (gJ:closureFor scope (envX cn cs L a (.ref c) cl)=pure []:=by rfl)(Wm:defaultsOf params (envX cn cs L a (.ref c) cl)=([],[]):=by rfl):
 AW (model G.prog G.w) A h₀ L (eval (.Lambda params body scope pos) (envX cn cs L a (.ref c) cl)) Q m H:=λs R E S k=>by
 have S:=S.perm p.perm
 refine ah S.fr λmf F gm=>?_
 refine j4 (S.nw _ (.head _)) λo eo zr318 n1 n2=>?_;refine ah zr318 λps zr319 qL=>?_;subst zr319
 have T:=kK.T
 have yQ:=T.g.keeps F.keep
 refine xEEAAAAA T.bmain λbm ob b1 b2 b3 b4 b5 b6=>?_
 have WO:mainGlobals≠P:=λq=>by
  refine wX T.g λo es ep e hd _=>?_
  have e':=e
  rw[q,n2] at e';cases e'
 have HQ:bm≠P:=λq=>by
  have e':=b3
  rw[q,n2] at e';cases e'
 have HO:bm≠mainGlobals:=λq=>by
  refine wX T.g λo es ep e hd _=>?_
  rw[q,e] at b3;cases b3;rw[hd] at b6;cases b6
 refine kla_eval Wm ?_
 rcases qL with rfl|⟨c',rfl⟩
 ·refine kla_makeFunction (mg:=G.mg) gJ rfl yQ rfl (C.keeps F.keep) eo trivial rfl WO ⟨bm,ob,b1,b2,HO,HQ,F.keep _ _ b3,b4,b5,b6⟩ λc' ctv h' tk hx o4 aC hrec XN=>?_
  have S1:=S.updX (AP:=bT pos) hx XN ⟨_,rfl, .inr ⟨c',by rfl⟩⟩
  exact k _ m _ _ _ (S1.cL (P:=xO) rfl) (h _)
 ·refine kla_makeFunctionHit (mg:=G.mg) (cv:= .ref c') gJ rfl yQ rfl (C.keeps F.keep) eo trivial (by simp[codeAmong,rawInt]) ⟨bm,ob,b1,b2,HO,HQ,F.keep _ _ b3,b4,b5,b6⟩ λctv h' tk hk hsz=>?_
  have S1:St h₀ L h' m ((P,bT pos)::H'):=S.keeps hk
  exact k _ m _ _ _ (S1.cL (P:=xO) rfl) (h _)
end
section
variable {prog:Program}{w:World}{A:Around}{h₀:Heap}{L p f:Addr}{m:Loc}{H:Led}{env:Env}{x y:Str}{t u:Tok}{Q:Value->Loc->Led->Prop}
theorem Lx (id f:String)(a b:Value):reNamed id f ["repl","string","count"] 2 [a,b] []=pure [some a,some b,none]:=by rfl
theorem G6:entryFor table "re.Pattern.sub.loop"=some Builtin.«re.Pattern.sub.loop»:=entryFor_of_tree (by kernel_rfl)
theorem Lp:plainId "re.Pattern.sub.loop"=true:=by decide+kernel
theorem str_notArr:isSubtype (.type "str") (.type "bytearray")=pure false:=by refine aa (isSubtype_type ..) ?_;kernel_rfl
theorem Yo (hz:x.length≤1000):JoinOk (Str.ofString "") [x]=true:=by
 unfold JoinOk
 have:([x].toArray.foldl (· +·.length+(Str.ofString "").length) 0)=x.length:=by
  show 0+x.length+0=x.length
  exact Nat.zero_add _
 refine aa this ?_
 unfold Builtin.Str.tooLong sizeLine
 simp;exact Nat.le_trans ‹_› (by decide)
theorem LV {K:Frag}{nm:Str}{code:Array Nat}{groups:Nat}{way n:Int}{done start:Nat}{zW wc:Bool}{Ly:Value}{l:Addr}{ys:List (Str×Tok)}{R:Result->Shared->Prop}{s:Shared}
 (X:K.In h₀)(P:eG K nm p code groups)(hw:way=1∨way=0∧∃y u,Ly= .str y u)(hd:done<x.cps.size)(hz:x.length≤1000)
 (dR:Ends groups (forSearch code x.cps groups start x.cps.size zW) none)(hy:ys.length≤1000)(gK:JoinOk ⟨#[]⟩ (ys.map (·.1)++[⟨x.cps.extract done x.cps.size⟩])=true)
 (S:St h₀ L s.heap m ((l,af (strValues ys))::H))
 (k0:wc=false->∀P' t h' aB,St h₀ L h' m ((l,P')::H)->R (.ok (.ret (.str (Txt.join ⟨#[]⟩ (ys.map (·.1)++[⟨x.cps.extract done x.cps.size⟩])) t))) {s with heap:=h',toks:=aB})
 (k1:wc=true->∀P' tp t t2 h' aB,St h₀ L h' m ((tp,bf [.str (Txt.join ⟨#[]⟩ (ys.map (·.1)++[⟨x.cps.extract done x.cps.size⟩])) t, .int n t2])::(l,P')::H)->R (.ok (.ret (.ref tp))) {s with heap:=h',toks:=aB}):
 codeAny (model prog w) A (.builtin "re.Pattern.sub.loop" ⟨[.ref p, .str x t,Ly,rawInt way,rawInt 0,rawInt n,rawInt done,rawInt start, .bool zW, .ref l, .bool wc],[]⟩) R s:=by
 refine codeAny_builtin G6 ?_
 refine aa (Around.under_plainId Lp ..) ?_
 unfold Builtin.«re.Pattern.sub.loop»
 dsimp only [rawInt]
 refine wpAny_bind (iu (yc X P ⟨rfl,rfl,rfl⟩) S λh1 aX S1=>?_)
 have tail:∀(f:M->Sem PySem.Fin) (h1:Heap) (aX:Nat),St h₀ L h1 m ((l,af (strValues ys))::H)->wpAny (model prog w) A.in1 (do
  match<-(if((0:Int) !=0&&decide (n≥0))=true then pure none else reNextFound ⟨.ref p, .str x t,code,x.cps,0,groups,0,x.cps.size⟩ (start:Int).toNat zW) with
  |some m=>f m
  |none=>
   if(done:Int).toNat<x.cps.size then updateSeq l (·.push (<-reSlice x.cps 0 (done:Int).toNat x.cps.size))
   let JE<-reSlice x.cps 0 0 0
   let text<-if((<-seqItems? (.ref l)).getD #[]).isEmpty then pure JE
    else call (.builtin "str.join") [JE, .ref l]
   if wc then ret (<-holding [text] do newTuple [text,<-mkInt n]) else ret text)
  (λfin s'=>match fin with| .done f=>R (.ok f) s'| .again c'=>c'.quiet=true∧codeAny (model prog w) A c' R s') (λe s'=>R (.error e) s') {s with heap:=h1,toks:=aX}:=by
  intro f h1 aX S1
  have aP:(100000:Nat)≤sizeLine:=by decide
  have kq:x.cps.size≤1000:=hz
  refine ah dR λn' hn ho=>?_;clear dR
  refine wpAny_bind ?_
  refine aa (if_neg (by exact Bool.false_ne_true)) ?_
  refine Am (n:=n') (m:=forSearch code x.cps groups start x.cps.size zW) hn ?_
  refine aa ho ?_
  dsimp only
  refine aa (if_pos (show(done:Int).toNat<x.cps.size from hd)) ?_
  refine wpAny_bind ?_
  unfold reSlice
  refine aa (if_pos (by decide)) ?_
  refine wpAny_mkStr ?_ (by show(x.cps.extract _ _).size≤_;refine aa Array.size_extract ?_;lia)
  refine xE (S1.lst (.head _)) λnl el=>?_
  refine wpAny_bind (wpAny_updateSeq el rfl ?_ (by simp[strValues];exact Nat.le_trans ‹_› (by decide)) (by simp[strValues];exact @(ln 0x1084410842000461a809f983e817e6000802).1 ys.length sizeLine hy aP))
  have S2:=S1.upd (P':=af (strValues (ys++[(⟨x.cps.extract done x.cps.size⟩,aX)]))) (Heap.SameBut.update ..) (Heap.get?_update_self (Obj.mapSeq λa=>a.push (.str ⟨x.cps.extract done x.cps.size⟩ aX)) el rfl) ⟨nl+1,by simp[Obj.mapSeq,strValues,W.listOf]⟩
  refine wpAny_bind ?_
  refine aa (if_pos (by decide)) ?_
  refine wpAny_mkStr ?_ (by show(x.cps.extract _ _).size≤_;refine aa Array.size_extract ?_;exact Nat.zero_le _)
  have e0:(⟨x.cps.extract 0 0⟩:Str)=⟨#[]⟩:=by simp
  refine aa e0 ?_
  refine xE (S2.lst (.head _)) λnl2 yu=>?_
  refine wpAny_bind (wpAny_seqItems yu rfl ?_)
  refine aa (if_neg (by simp[strValues])) ?_
  refine wpAny_bind (SC.join (l:=ys++[(⟨x.cps.extract done x.cps.size⟩,aX)]) ⟨_,yu,rfl,_,rfl⟩ rfl (by simpa using gK) λt' aB=>?_)
  have ej:(ys++[((⟨x.cps.extract done x.cps.size⟩:Str),aX)]).map (·.1)=ys.map (·.1)++[⟨x.cps.extract done x.cps.size⟩]:=by simp
  refine aa ej ?_
  cases Ji:wc with
  |false=>
   exact wpAny_pure (k0 Ji _ _ _ _ S2)
  |true=>
   refine aa (if_pos rfl) ?_
   refine wpAny_bind (wpAny_holding (wpAny_bind (wpAny_mkInt (wpAny_newTuple ?_ (by show(2:Nat)≤sizeLine;exact Nat.le_add_left _ _)))))
   exact wpAny_pure (k1 Ji _ _ _ _ _ _ (S2.cL (P:=bf _) ⟨0,rfl⟩))
 rcases hw with rfl|⟨rfl,y,u,rfl⟩
 ·refine aa (if_neg (by decide)) ?_
  exact tail _ _ _ S1
 ·refine aa (if_pos (by decide)) ?_
  refine wpAny_bind ?_
  show wpAny _ _ (pure ()) _ _ _
  exact wpAny_pure (tail _ _ _ S1)
theorem F4 {K:Frag}{nm:Str}{code:Array Nat}{groups:Nat}(X:K.In h₀)(P:eG K nm p code groups)(hf:(f,xO)∈H)(hz:x.length≤1000)(h0:0<x.length)(dR:Ends groups (forSearch code x.cps groups 0 x.cps.size false) none)
 (h:∀jk t,Q (.str x t) m (jk::H)):AW (model prog w) A h₀ L (call (.builtin "re.Pattern.sub") [.ref p, .ref f, .str x t]) Q m H:=λs R E S k=>by
 refine wY (id P.o) λfs sl tup items n od kG e1 _=>?_
 have e:=S.keep _ _ (X _ _ e1)
 refine ah (S.get hf) λof ef cf=>?_
 obtain ⟨Js,hc⟩:=VB
 refine wpAny_call (codeAny_call_builtin Af.plain Vo (Af.check _ _ _ _ _ _ _ _ ⟨_,e,rfl⟩ (Qy _ _ _) ?_))
 show wpAny _ _ (reSubstitute "re.Pattern.sub" "sub" false ⟨[.ref p, .ref f, .str x t],[]⟩) _ _ _
 unfold reSubstitute
 dsimp only
 refine aa (Lx ..) ?_
 refine wpAny_bind (wpAny_pure ?_)
 dsimp only
 refine wpAny_bind (wpAny_pure ?_)
 refine wpAny_bind (wpAny_specialOf ⟨_,ef,cf⟩ hc ?_)
 refine aa (if_pos (show(some (Value.builtin Js)).isSome=true from rfl)) ?_
 refine wpAny_bind (wpAny_pure ?_)
 refine aa (if_pos (show(some (Value.builtin Js)).isSome=true from rfl)) ?_
 refine wpAny_bind (wpAny_pure ?_)
 dsimp only
 refine wpAny_bind (wpAny_holding (Ab (λ_=>True) (yc X P ⟨trivial,rfl,rfl⟩) S λT _ h1 aX S1=>?_))
 refine aa (if_pos (by decide)) ?_
 refine wpAny_bind ?_
 unfold reNotHeld
 refine wpAny_bind (wpAny_isInstance (typeIs_str _ _ _) str_notArr ?_)
 refine aa (if_neg (by decide)) ?_
 refine wpAny_pure ?_
 refine wpAny_bind (wpAny_newObj_type ?_ (by show(#[]:Array Value).size≤sizeLine;decide))
 have S2:=S1.cL (o:={cls:= .type "list",dict:=none,data:= .seq ([]:List Value).toArray}) (P:=af (strValues [])) ⟨0,rfl⟩
 refine wpAny_pure ⟨Code.quiet_builtin _ (by decide+kernel),?_⟩
 have hsz:0<x.cps.size:=h0
 have ee:(⟨x.cps.extract 0 x.cps.size⟩:Str)=x:=by simp
 have e2:Txt.join ⟨#[]⟩ ([].map (λq:Str×Tok=>q.1)++[⟨x.cps.extract 0 x.cps.size⟩])=x:=by refine aa ee ?_;rfl
 refine LV (way:=1) (n:=0) (done:=0) (start:=0) (ys:=[]) X P (.inl rfl) hsz hz dR (by simp) (by refine aa ee ?_;exact Yo hz) S2 (λ_ P' t h' aB S3=>?_) (λhc=>by cases hc)
 refine aa e2 ?_
 exact k _ m _ _ _ S3 (h _ _)
theorem Ti {K:Frag}{nm:Str}{code:Array Nat}{groups e:Nat}{sp:List Value}{z:Str}(X:K.In h₀)(P:eG K nm p code groups)(hy:y.cps.contains 92=false)(hz:x.length≤1000)(hyz:y.length≤1000)(h0:0<e)(aC:e<x.cps.size)
 (dR:Ends groups (forSearch code x.cps groups 0 x.cps.size false) (some ⟨0,e,sp⟩))(WE:Ends groups (forSearch code x.cps groups e x.cps.size false) none)(sR:z=Txt.join ⟨#[]⟩ [y,⟨x.cps.extract e x.cps.size⟩])
 (gK:JoinOk ⟨#[]⟩ [y,⟨x.cps.extract e x.cps.size⟩]=true)
 (h:∀jk tp t t2,Q (.ref tp) m ((tp,bf [.str z t, .int 1 t2])::jk::H)):AW (model prog w) A h₀ L (call (.builtin "re.Pattern.subn") [.ref p, .str y u, .str x t]) Q m H:=λs R E S k=>by
 refine wY (id P.o) λfs sl tup items n od kG e1 _=>?_
 have ep:=S.keep _ _ (X _ _ e1)
 refine wpAny_call (codeAny_call_builtin DR.plain Vp (DR.check _ _ _ _ _ _ _ _ ⟨_,ep,rfl⟩ (Qz _ _ _) ?_))
 show wpAny _ _ (reSubstitute "re.Pattern.subn" "subn" true ⟨[.ref p, .str y u, .str x t],[]⟩) _ _ _
 unfold reSubstitute
 dsimp only
 refine aa (Lx ..) ?_
 refine wpAny_bind (wpAny_pure ?_)
 dsimp only
 refine wpAny_bind (wpAny_pure ?_)
 refine wpAny_bind (wpAny_specialOf (typeIs_str _ _ _) str_noCall ?_)
 refine aa (if_neg (by decide)) ?_
 refine wpAny_bind ?_
 show wpAny _ _ (pure (some y)) _ _ _
 refine wpAny_pure ?_
 dsimp only
 refine wpAny_bind (wpAny_pure ?_)
 refine aa (if_neg (by decide)) (aa hy ?_)
 refine aa (if_pos (by decide)) ?_
 refine wpAny_bind (wpAny_pure ?_)
 dsimp only
 refine wpAny_bind (wpAny_holding (Ab (λ_=>True) (yc X P ⟨trivial,rfl,rfl⟩) S λT _ h1 aX S1=>?_))
 refine aa (if_neg (by decide)) ?_
 refine wpAny_bind (wpAny_newObj_type ?_ (by show(#[]:Array Value).size≤sizeLine;decide))
 have S2:=S1.cL (o:={cls:= .type "list",dict:=none,data:= .seq ([]:List Value).toArray}) (P:=af (strValues [])) ⟨0,rfl⟩
 refine wpAny_pure ⟨Code.quiet_builtin _ (by decide+kernel),?_⟩
 generalize h1.objs.size=l at S2 ⊢
 refine codeAny_builtin G6 ?_
 refine aa (Around.under_plainId Lp ..) ?_
 unfold Builtin.«re.Pattern.sub.loop»
 dsimp only [rawInt]
 refine wpAny_bind (iu (yc X P ⟨rfl,rfl,rfl⟩) S2 λh3 aR S3=>?_)
 refine aa (if_pos (by decide)) ?_
 refine wpAny_bind ?_
 show wpAny _ _ (pure ()) _ _ _
 refine wpAny_pure ?_
 refine wpAny_bind ?_
 refine aa (if_neg (by exact Bool.false_ne_true)) ?_
 refine Mr dR λn' hn ho b1 b2 _ _=>?_;clear dR
 refine Am (n:=n') (m:=forSearch code x.cps groups 0 x.cps.size false) hn ?_
 refine aa ho ?_
 dsimp only
 refine aa b1 (aa b2 ?_)
 refine aa (if_neg (by simp)) (aa (if_pos (by decide)) ?_)
 refine wpAny_bind (wpAny_pure ?_)
 refine aa (if_pos (by rfl)) ?_
 have aP:(100000:Nat)≤sizeLine:=by decide
 refine xE (S3.lst (.head _)) λnl el=>?_
 refine wpAny_bind (wpAny_updateSeq el rfl ?_ (by exact Nat.zero_le _) (by simp[strValues]))
 have S4:=S3.upd (P':=af (strValues [(y,u)])) (Heap.SameBut.update ..) (Heap.get?_update_self (Obj.mapSeq λa=>a.push (.str y u)) el rfl) ⟨nl+1,by rfl⟩
 refine wpAny_pure ⟨Code.quiet_builtin _ (by decide+kernel),?_⟩
 have hm:((e:Nat)==0)=false:=by simp;exact Nat.ne_of_gt ‹_›
 refine aa hm ?_
 refine LV (way:=0) (n:=1) (done:=e) (start:=e) (ys:=[(y,u)]) X P (.inr ⟨rfl,_,_,rfl⟩) aC hz WE (by simp) gK S4 (λhc=>by cases hc) (λ_ P' tp t t2 h' aB S5=>?_)
 have e3:Txt.join ⟨#[]⟩ ([(y,u)].map (λq:Str×Tok=>q.1)++[⟨x.cps.extract e x.cps.size⟩])=z:=sR.symm
 rw[e3] at S5
 exact k _ m _ _ _ S5 (h _ _ _ _)
end
end
section
open PySem.Builtin PySem.Builtin.Re PySem.Sre
noncomputable def g9:Array Nat:=aS 26
noncomputable def j8 (code:Array Nat)(groups:Nat)(x:Str):Bool:=match(M.runFor 400 (forSearch code x.cps groups 0 x.cps.size false)).outcome with|some .failed=>true|_=>false
theorem yv {code:Array Nat}{groups:Nat}{x:Str}(h:j8 code groups x=true):Ends groups (forSearch code x.cps groups 0 x.cps.size false) none:=by
 unfold j8 at h
 refine⟨400,by decide,?_⟩
 split at h
 ·assumption
 ·cases h
noncomputable def GW:Nat->String
 |0=>".local"|1=>".a.local"|2=>".b.local"|3=>".a.a.local"|4=>".a.b.local"|5=>".b.a.local"|_=>".b.b.local"
noncomputable def YG:Nat->String
 |0=>"s"|1=>"t"|2=>"u"|3=>"v"|_=>"w"
noncomputable def bM (j:Nat):Str:=Str.ofString (GW j)
noncomputable def host (k j:Nat):Str:=Str.ofString (YG k++GW j)
theorem IW:∀k<5,∀j<7,j8 g9 0 (host k j)=true:=by decide+kernel
end
section
open PySem.Builtin PySem.Builtin.Re PySem.Sre
structure jb where
 (g9 tok tL val r4 s6 sY twin:Addr)
structure jd (K:Frag)(d:jb):Prop where
 g9:eG K (Str.ofString "IPV4_RE") d.g9 (aS 26) 0
 tok:eG K (Str.ofString "HEADER_TOKEN_RE") d.tok (aS 18) 1
 tL:eG K (Str.ofString "HEADER_QUOTED_VALUE_RE") d.tL (aS 19) 1
 r4:eG K (Str.ofString "HEADER_ESCAPE_RE") d.r4 (aS 21) 1
 s6:eG K (Str.ofString "HEADER_JOIN_TOKEN_RE") d.s6 (aS 23) 0
 sY:eG K (Str.ofString "HEADER_JOIN_ESCAPE_RE") d.sY (aS 24) 1
 twin:eG K (Str.ofString "_twin_re_8") d.twin (aS 16) 0
end
local macro_rules
 | `(tactic|walk_at "aw_st")=>do
  let z:=ids "Rb FF Tt RX R2 R5 R3 R4 RW RY RZ"
  `(tactic|with_reducible first
  |refine Sg λ_=>?_
  $[|refine $z ?_]*)
section
open PySem.Builtin PySem.Builtin.Re PySem.Sre
theorem JC {X Y:Prop}(h:Y):if(!true)=true then X else Y:=h
theorem JB {X Y:Prop}(h:X):if(!false)=true then X else Y:=h
end
local macro_rules
 | `(tactic|walk_at "awz")=>do
  let z:=ids "JC JB jW vY uD jf"
  `(tactic|(repeat ((first
  |walk_at "aw_step"
  |walk_at "aw_bi"
  |walk_at "aw_st"
  |with_reducible first $[|refine $z ?_]*);walk_at "aw_sh")))
local macro_rules
 | `(tactic|walk_at "aw_in")=>
 `(tactic|((
  (conv in(aO _).body=>whnf)
  (conv in(occs:= *) (aO _).scope=>all_goals whnf))))
section
open PySem.Builtin PySem.Builtin.Re PySem.Sre
section
variable {G:Gx}{A:Around}{h₀:Heap}{L:Addr}{m:Loc}{H:Led}{env:Env}{aW:eu}{pd:jb}{x y:Str}{t u:Tok}{Q:Value->Loc->Led->Prop}
noncomputable def yN (x:Str):Bool:=if x==Str.ofString "" then false else !(Txt.item x 0==Str.ofString "."||Txt.item x (-1)==Str.ofString ".")
theorem Rn (T:aT G.K aW)(Pt:jd G.K pd)(C:Cx G A h₀ L env)(r:bw A 1)(hz:x.length≤1000)(h0:0<x.length)(hp:j8 g9 0 x=true)(h:Q (.bool (yN x)) m H):
 AW (model G.prog G.w) A h₀ L (call (.ref aW.qo) [.str x t]) Q m H:=by
 refine xE T.qo.d λbg d=>?_
 conv at d in(aO _).body=>whnf
 conv at d in(occs:= *) (aO _).scope=>all_goals whnf
 refine gX (n:=0) (binds:=[(Str.ofString "text",_)]) C r d (λ_ _ _ _ _=>rfl) rfl λA' g L' C' r'=>?_
 have aP:(1000:Nat)≤sizeLine:=by decide
 (with_reducible show AW _ _ _ _ (execs (.If _ _ _ _::_) _) _ _ _)
 refine jf ?_
 (with_reducible show AW _ _ _ _ (isTrue _ _ _) _ _ _)
 refine uH ?_
 (with_reducible show AW _ _ _ _ (eval (.Call (.Attribute _ _ _) _ [] _) _) _ _ _)
 ((with_reducible refine rO ?_;with_reducible refine cI (by assumption) (eG.n (jd.g9 (by assumption))) ?_))
 refine mT C'.X Pt.g9 tP wN ?_
 refine cF ?_
 walk_at "awz"
 refine uF (r:=none) C'.X Pt.g9 (by exact Nat.le_trans ‹_› ‹_›) (yv hp) (λ_ e=>nomatch e) ?_
 show AW _ _ _ _ _ _ _ _
 walk_at "awz"
 refine i7 (λhb=>?_) (λhb=>?_)
 ·have hx:x=Str.ofString "":=by simpa using hb
  subst hx
  cases h0
 ·have hx:yN x= !(Txt.item x 0==Str.ofString "."||Txt.item x (-1)==Str.ofString "."):=by
   unfold yN;refine aa hb ?_;rfl
  rw[hx] at h
  walk_at "awz"
  refine p9 (by decide) (by simp+arith) (by exact Int.ofNat_lt.mpr ‹_›) rfl λ_=>?_
  walk_at "awz"
  refine i7 (λfV=>?_) (λfV=>?_)
  ·rw[fV] at h
   walk_at "awz"
   exact h
  ·rw[fV] at h
   walk_at "awz"
   refine p9 (by decide) (by exact @(ln 0x42208433881f11801308401).1 x.length h0) (by exact Int.natCast_nonneg _) rfl λ_=>?_
   walk_at "awz"
   refine i7 (λiS=>?_) (λiS=>?_)
   ·rw[iS] at h
    walk_at "awz"
    exact h
   ·rw[iS] at h
    walk_at "awz"
    exact h
theorem Fv (T:aT G.K aW)(Pt:jd G.K pd)(C:Cx G A h₀ L env)(r:bw A 1)(hz:x.length≤1000)(hp:j8 g9 0 x=true)(h:Q (.bool true) m H):
 AW (model G.prog G.w) A h₀ L (call (.ref aW.nM) [.str x t]) Q m H:=by
 refine xE T.nM.d λbg d=>?_
 conv at d in(aO _).body=>whnf
 conv at d in(occs:= *) (aO _).scope=>all_goals whnf
 refine gX (n:=0) (binds:=[(Str.ofString "text",_)]) C r d (λ_ _ _ _ _=>rfl) rfl λA' g L' C' r'=>?_
 have aP:(1000:Nat)≤sizeLine:=by decide
 (with_reducible show AW _ _ _ _ (execs (.If _ _ _ _::_) _) _ _ _)
 refine jf ?_
 (with_reducible show AW _ _ _ _ (isTrue _ _ _) _ _ _)
 refine uH ?_
 (with_reducible show AW _ _ _ _ (eval (.Call (.Attribute _ _ _) _ [] _) _) _ _ _)
 ((with_reducible refine rO ?_;with_reducible refine cI (by assumption) (eG.n (jd.g9 (by assumption))) ?_))
 refine mT C'.X Pt.g9 tP wN ?_
 refine cF ?_
 walk_at "awz"
 refine uF (r:=none) C'.X Pt.g9 (by exact @KL x.length sizeLine hz aP) (yv hp) (λ_ e=>nomatch e) ?_
 show AW _ _ _ _ _ _ _ _
 walk_at "awz"
 exact h
end
end
section
open PySem.Builtin PySem.Builtin.Re PySem.Sre
section
variable {G:Gx}{A:Around}{h₀:Heap}{L:Addr}{m:Loc}{H:Led}{env:Env}{aW:eu}{pd:jb}{x y x' y':Str}{t u:Tok}{Q:Value->Loc->Led->Prop}
theorem fits_of (h:x.length≤1000):Builtin.Str.tooLong x.length=false:=by unfold Builtin.Str.tooLong sizeLine;simp;exact Nat.le_trans ‹_› (by decide)
theorem Tv (T:aT G.K aW)(Pt:jd G.K pd)(C:Cx G A h₀ L env)(r:bw A 2)(hx:Txt.lower x=x')(hy:Txt.lower y=y')(Jq:x'.length≤1000)(Jr:y'.length≤1000)(hp:j8 g9 0 x'=true)(fh:j8 g9 0 y'=true)
 (Wn:Txt.startswith y' (Str.ofString ".")=true)(h:Q (.bool (Txt.endswith x' y')) m H):
 AW (model G.prog G.w) A h₀ L (call (.ref aW.rA) [.str x t, .str y u]) Q m H:=by
 refine xE T.rA.d λbg d=>?_
 conv at d in(aO _).body=>whnf
 conv at d in(occs:= *) (aO _).scope=>all_goals whnf
 refine gX (n:=1) (binds:=[(Str.ofString "A",_),(Str.ofString "B",_)]) C r d (λ_ _ _ _ _=>rfl) rfl λA' g L' C' r'=>?_
 walk_at "awz"
 refine Fw hx (by refine aa hx ?_;exact fits_of Jq) λ_=>?_
 walk_at "awz"
 refine Fw hy (by refine aa hy ?_;exact fits_of Jr) λ_=>?_
 walk_at "awz"
 ((with_reducible refine cI (by assumption) (FnAt.n (aT.nM (by assumption))) ?_;with_reducible refine eO (Cx.X (by assumption)) (aT.nM (by assumption)) ?_))
 walk_at "awz"
 refine Fv T Pt C' (r'.le (by exact Nat.succ_pos _)) Jq hp ?_
 walk_at "awz"
 ((with_reducible refine cI (by assumption) (FnAt.n (aT.nM (by assumption))) ?_;with_reducible refine eO (Cx.X (by assumption)) (aT.nM (by assumption)) ?_))
 walk_at "awz"
 refine Fv T Pt C' (r'.le (by exact Kq)) Jr fh ?_
 walk_at "awz"
 refine F1 Wn ?_
 walk_at "awz"
 refine E9 rfl ?_
 walk_at "awz"
 refine i7 (λhb=>?_) (λhb=>?_)
 ·rw[hb] at h
  walk_at "awz"
  exact h
 ·rw[hb] at h
  walk_at "awz"
  exact h
noncomputable def wI (x:Str):Str:=
 let b:=Txt.slice x (some ((Txt.find x (Str.ofString "."):Int)+1)) none
 if(Txt.find x (Str.ofString "."):Int)≥0 then
  if yN x&&(decide ((Txt.find b (Str.ofString "."):Int)≥0)||b==Str.ofString "local") then Str.ofString "."++b else x
 else x
theorem FQ (T:aT G.K aW)(Pt:jd G.K pd)(C:Cx G A h₀ L env)(r:bw A 2)(hz:x.length≤1000)(h0:0<x.length)(hp:j8 g9 0 x=true)(h:∀t,Q (.str (wI x) t) m H):
 AW (model G.prog G.w) A h₀ L (call (.ref aW.reach) [.str x t]) Q m H:=by
 refine xE T.reach.d λbg d=>?_
 conv at d in(aO _).body=>whnf
 conv at d in(occs:= *) (aO _).scope=>all_goals whnf
 refine gX (n:=1) (binds:=[(Str.ofString "h",_)]) C r d (λ_ _ _ _ _=>rfl) rfl λA' g L' C' r'=>?_
 have aP:(10000:Nat)≤sizeLine:=by decide
 unfold wI at h
 walk_at "awz"
 refine Fe rfl λ_=>?_
 walk_at "awz"
 refine k6 (λhi=>?_) (λhi=>?_)
 ·rw[if_pos hi] at h
  walk_at "awz"
  refine F0 ?_
  walk_at "awz"
  refine⟨_,_,_,_,rfl,rfl,by exact Nat.le_trans ‹_› (by decide),λ_=>?_⟩
  walk_at "awz"
  have hb:(Txt.slice x (some ((Txt.find x (Str.ofString "."):Int)+1)) none).length≤x.length:=Txt.slice_le _ _ _
  refine Fe rfl λ_=>?_
  walk_at "awz"
  ((with_reducible refine cI (by assumption) (FnAt.n (aT.qo (by assumption))) ?_;with_reducible refine eO (Cx.X (by assumption)) (aT.qo (by assumption)) ?_))
  walk_at "awz"
  refine Rn T Pt C' (r'.le (by lia)) hz h0 hp ?_
  walk_at "awz"
  refine i7 (λfV=>?_) (λfV=>?_)
  ·rw[fV,Bool.true_and] at h
   walk_at "awz"
   refine k6 (λiS=>?_) (λiS=>?_)
   ·rw[decide_eq_true iS,Bool.true_or,if_pos rfl] at h
    walk_at "awz"
    refine p6 (by have:(Str.ofString ".").length=1:=by decide
                  exact @Y3 ((Str.ofString ".").length) ((Txt.slice x (some (Txt.find x (Str.ofString ".")+1)) none).length) sizeLine x.length hz aP hb this) λ_=>?_
    walk_at "awz"
    exact h _
   ·rw[decide_eq_false iS,Bool.false_or] at h
    walk_at "awz"
    refine i7 (λV7=>?_) (λV7=>?_)
    ·rw[V7,if_pos rfl] at h
     walk_at "awz"
     refine p6 (by have:(Str.ofString ".").length=1:=by decide
                   lia) λ_=>?_
     walk_at "awz"
     exact h _
    ·rw[V7,if_neg (by simp)] at h
     walk_at "awz"
     exact h _
  ·rw[fV,Bool.false_and,if_neg (by simp)] at h
   walk_at "awz"
   exact h _
 ·rw[if_neg hi] at h
  walk_at "awz"
  exact h _
end
end
section
open PySem.Builtin PySem.Builtin.Re PySem.Sre
section
variable {prog:Program}{w:World}{A:Around}{h₀:Heap}{L:Addr}{m:Loc}{H:Led}{env:Env}{Q:Value->Loc->Led->Prop}
theorem uA (x1:c7 h₀ l vs H)(x2:c7 h₀ b ws H)(hz:vs.length+ws.length≤sizeLine)(h:∀r,Q (.ref r) m ((r,af (vs++ws))::H)):
 AW (model prog w) A h₀ L (binaryOp .Add (.ref l) (.ref b)) Q m H:=λs R E S k=>by
 refine ah S.fr λmf F g=>?_
 refine add_lists F S.news (x1.at S) (x2.at S) (λh' F' N'=>?_) hz
 exact k _ m _ h' _ (S.more F' g N' (Heap.get?_none_of_le (Nat.le_refl _)) ⟨0,by simp[W.listOf]⟩) (h _)
theorem z6 (vs:List Value)(n:Nat):(slicePick vs.toArray none (some (n:Int)) none).toList=vs.take n:=by exact aa (slicePick_upto' ..) rfl
theorem Ln (vs:List Value)(n:Nat):(slicePick vs.toArray (some (n:Int)) none none).toList=vs.drop n:=by exact aa (slicePick_from' ..) rfl
end
end
local macro_rules
 | `(tactic|walk_at "aw_ar")=>
 `(tactic|(with_reducible first
  |refine xZ (by decide) (by decide) λ_=>?_
  |refine R9 (by decide) λ_=>?_))
local macro_rules
 | `(tactic|walk_at "awa")=>do
  let z:=ids "JC JB jW vY uD jf"
  `(tactic|(repeat ((first
  |walk_at "aw_step"
  |walk_at "aw_bi"
  |walk_at "aw_st"
  |walk_at "aw_ar"
  |with_reducible first $[|refine $z ?_]*);walk_at "aw_sh")))
section
open PySem.Builtin PySem.Builtin.Re PySem.Sre
noncomputable def Ae (n a b:Nat):Nat:=if n=0 then 0 else if n=1 then 1+a else 3+2*a+b
noncomputable def shape (y:Int):Nat:=Ae (y.fmod 3).toNat ((y.fdiv 3).fmod 2).toNat ((y.fdiv 6).fmod 2).toNat
theorem Xs:∀k<5,∀a<2,∀b<2,∀n<3,Txt.join (Str.ofString ".") ([Txt.item (Str.ofString "stuvw") (k:Nat)]++([Txt.item (Str.ofString "ab") (a:Nat),Txt.item (Str.ofString "ab") (b:Nat)].take n)++[Str.ofString "local"])=host k (Ae n a b):=by decide+kernel
theorem Xr:∀k<5,∀a<2,∀b<2,∀n<3,JoinOk (Str.ofString ".") ([Txt.item (Str.ofString "stuvw") (k:Nat)]++([Txt.item (Str.ofString "ab") (a:Nat),Txt.item (Str.ofString "ab") (b:Nat)].take n)++[Str.ofString "local"])=true:=by decide+kernel
theorem qi (a:Int)(h:0<n):∃k:Nat,a.fmod n=k∧(k:Int)<n:=by
 have h1:=Int.fmod_nonneg_of_pos a h
 have h2:=Int.fmod_lt_of_pos a h
 exact⟨(a.fmod n).toNat,by exact @KI ((a.fmod n).toNat) (a.fmod n) h1 (Eq.refl ((a.fmod n).toNat)),by exact @(ln 0x84010044100401004410842103c80030202001318c41).1 ((a.fmod n).toNat) (a.fmod n) n h1 h2 (Eq.refl ((a.fmod n).toNat))⟩
section
variable {G:Gx}{A:Around}{h₀:Heap}{L:Addr}{m:Loc}{H:Led}{env:Env}{aW:eu}{pd:jb}{x y:Str}{t u:Tok}{Q:Value->Loc->Led->Prop}
theorem Rt (T:aT G.K aW)(C:Cx G A h₀ L env)(r:bw A 1){y:Int}(hk:k<5)(h:∀t jk,Q (.str (host k (shape y)) t) m (jk++H)):
 AW (model G.prog G.w) A h₀ L (call (.ref aW.host) [.int k t, .int y u]) Q m H:=by
 refine xE T.host.d λbg d=>?_
 conv at d in(aO _).body=>whnf
 conv at d in(occs:= *) (aO _).scope=>all_goals whnf
 refine gX (n:=0) (binds:=[(Str.ofString "k",_),(Str.ofString "y",_)]) C r d (λ_ _ _ _ _=>rfl) rfl λA' g L' C' r'=>?_
 have aP:(1000:Nat)≤sizeLine:=by decide
 refine ah (qi y (n:=3) (by decide)) λn en hn=>?_
 refine ah (qi (y.fdiv 3) (n:=2) (by decide)) λa ea ha=>?_
 refine ah (qi (y.fdiv 6) (n:=2) (by decide)) λb eb hb=>?_
 have aA:shape y=Ae n a b:=by unfold shape;refine aa en (aa ea (aa eb ?_));simp
 rw[aA] at h
 have Co:(Str.ofString "ab").length=2:=by decide
 have IJ:(Str.ofString "stuvw").length=5:=by decide
 have hz:(10:Int)<2^62:=by decide
 walk_at "awa"
 refine dF ?_
 walk_at "awa"
 refine aa ea ?_
 refine p9 (by unfold fitsSsize;simp;exact JZ ha) (by exact Int.natCast_nonneg _) (by assumption) rfl λt1=>?_
 walk_at "awa"
 refine aa eb ?_
 refine p9 (by unfold fitsSsize;simp;exact JZ hb) (by exact Int.natCast_nonneg _) (by assumption) rfl λt2=>?_
 walk_at "awa"
 refine⟨by show(2:Nat)≤sizeLine;exact Nat.le_add_left _ _,λl1=>?_⟩
 walk_at "awa"
 refine dF ?_
 walk_at "awa"
 refine p9 (by unfold fitsSsize;simp;exact(ln 0x4220850000000000000000dfcc0f2166008401).1 hk) (by exact Int.natCast_nonneg _) (by exact Int.ofNat_lt.mpr ‹_›) rfl λt3=>?_
 walk_at "awa"
 refine⟨by show(1:Nat)≤sizeLine;exact Nat.succ_pos _,λl2=>?_⟩
 refine uG ?_
 walk_at "awa"
 refine rQ ?_
 refine rR ?_
 walk_at "awa"
 refine aa en ?_
 refine⟨l1,_,_,_,rfl, .inl (by walk_at "aw_mem"),by show(2:Nat)≤sizeLine;exact @id ((2:Nat)≤sizeLine) (@Dh sizeLine aP), .none, .int _ _,λl3=>?_⟩
 refine aa (z6 ..) ?_
 have aC:([Value.str (Txt.item (Str.ofString "ab") a) t1, .str (Txt.item (Str.ofString "ab") b) t2].take n).length≤2:=by
  refine aa List.length_take ?_;exact Nat.min_le_right _ _
 refine uA (.inl (by walk_at "aw_mem")) (.inl (by walk_at "aw_mem")) (by simp only [List.length_cons,List.length_nil];lia) λl4=>?_
 refine dF ?_
 walk_at "awa"
 refine⟨by show(1:Nat)≤sizeLine;exact @id ((1:Nat)≤sizeLine) (@Ko sizeLine aP),λl5=>?_⟩
 refine uA (.inl (by walk_at "aw_mem")) (.inl (by walk_at "aw_mem")) (by simp only [List.length_cons,List.length_nil,List.length_append];exact(ln 0x2108821084330066b580530003f40bf300802).1 aP aC) λl6=>?_
 walk_at "awa"
 rename_i t5
 have em:([(Txt.item (Str.ofString "stuvw") k,t3)]++([(Txt.item (Str.ofString "ab") a,t1),(Txt.item (Str.ofString "ab") b,t2)].take n)++[(Str.ofString "local",t5)]).map (·.1)=
  [Txt.item (Str.ofString "stuvw") k]++([Txt.item (Str.ofString "ab") a,Txt.item (Str.ofString "ab") b].take n)++[Str.ofString "local"]:=by simp[List.map_take]
 refine x8 ([(Txt.item (Str.ofString "stuvw") k,t3)]++([(Txt.item (Str.ofString "ab") a,t1),(Txt.item (Str.ofString "ab") b,t2)].take n)++[(Str.ofString "local",t5)]) (.inl (by walk_at "aw_mem")) (by simp[strValues,List.map_take]) (by refine aa em ?_;exact Xr k hk a (by exact @Kh a y (y.fdiv 3) ((y.fdiv 3).fmod 2) ea (Eq.refl ((y.fdiv 3).fmod 2))) b (by exact @Kh b y (y.fdiv 6) ((y.fdiv 6).fmod 2) eb (Eq.refl ((y.fdiv 6).fmod 2))) n (by exact @Y0 n y (y.fmod 3) en (Eq.refl (y.fmod 3)))) λt6=>?_
 refine aa em (aa (Xs k hk a (by lia) b (by lia) n (by lia)) ?_)
 exact h t6 [_,_,_,_,_,_]
end
end
section
open PySem.Builtin PySem.Builtin.Re PySem.Sre
section
variable {prog:Program}{w:World}{A:Around}{h₀:Heap}{L a:Addr}{m:Loc}{H:Led}{env:Env}{Q:Value->Loc->Led->Prop}{vs:List Value}{k:Int}{u:Tok}{v:Value}
theorem Fp (hm:c7 h₀ a vs H)(h0:k<0)(h1: -(vs.length:Int)≤k)(hf: -(2^63)≤k)(hx:vs[(k+vs.length).toNat]?=some v)(h:Q v m H)
 (hs:subscripted slice false (.ref a) (.int k u)=operate [.ref a, .int k u] (getItem (.ref a) (.int k u)):=by with_unfolding_all rfl):
 AW (model prog w) A h₀ L (subscriptTail value slice (.ref a) (.int k u)) Q m H:=λs R E S kk=>
 tail_any (hm.at S).typeIs slot_list_getitem.lookup (wpAny_getItem_list_neg (hm.at S) h0 (by assumption) hf (by simpa using hx) (kk _ m H _ _ S h)) hs
theorem aw_item_listH (hm:c7 h₀ a vs H)(h0:0≤k)(hf:k<2^63)(hx:vs[k.toNat]?=some v)(h:Q v m H)
 (hs:subscripted slice false (.ref a) (.int k u)=operate [.ref a, .int k u] (getItem (.ref a) (.int k u)):=by with_unfolding_all rfl):
 AW (model prog w) A h₀ L (subscriptTail value slice (.ref a) (.int k u)) Q m H:=λs R E S kk=>
 tail_any (hm.at S).typeIs slot_list_getitem.lookup (wpAny_getItem_list (hm.at S) h0 hf (by simpa using hx) (kk _ m H _ _ S h)) hs
end
noncomputable def bU (vs:List Value)(xs:List Str):Prop:=∃l:List (Str×Tok),vs=strValues l∧l.map (·.1)=xs
theorem bU.length (h:bU vs xs):vs.length=xs.length:=by
 refine ah h λl zr269 zr270=>?_;clear h;subst zr269;subst zr270;simp[strValues]
theorem bU.get (h:bU vs xs){i:Nat}{x:Str}(hx:xs[i]?=some x):∃t,vs[i]?=some (.str x t):=by
 refine ah h λl zr271 zr272=>?_;clear h;subst zr271;subst zr272
 rw[List.getElem?_map] at hx
 cases hl:l[i]? with
 |none=>rw[hl] at hx;cases hx
 |some p=>rw[hl] at hx;cases hx;exact⟨p.2,by rw[strValues,List.getElem?_map,hl];rfl⟩
theorem bU.snoc (h:bU vs xs)(x:Str)(t:Tok):bU (vs++[.str x t]) (xs++[x]):=by
 refine ah h λl zr273 zr274=>?_;clear h;subst zr273;subst zr274;exact⟨l++[(x,t)],by simp[strValues],by simp⟩
theorem bU.one (x:Str)(t:Tok):bU [.str x t] [x]:=⟨[(x,t)],rfl,rfl⟩
theorem bU.nil:bU [] []:=⟨[],rfl,rfl⟩
noncomputable def chain:Nat->List Nat
 |0=>[0]|1=>[1,0]|2=>[2,0]|3=>[3,1,0]|4=>[4,2,0]|5=>[5,1,0]|_=>[6,2,0]
noncomputable def fF (k j:Nat):List Str:=host k j::(chain j).map bM
noncomputable def mh (j i:Nat):Str:=((chain j).map bM++[Str.ofString "local"]).getD i Str.empty
noncomputable def wC (k j i:Nat):Str:=(fF k j).getD i Str.empty
noncomputable def tF (j i:Nat):Str:=Txt.slice (mh j i) (some 1) none
theorem Yv:∀k<5,∀j<7,wI (host k j)=mh j 0:=by decide+kernel
theorem Yw:∀k<5,∀j<7,∀i<4,i≤(chain j).length->(mh j i !=Txt.lstripChars (wC k j i) (Str.ofString "."))=decide (i<(chain j).length):=by decide+kernel
theorem Yx:∀j<7,∀i<3,i<(chain j).length->wI (tF j i)=mh j (i+1)∧j8 g9 0 (tF j i)=true∧0<(tF j i).length∧(tF j i).length≤100∧(mh j i).length≤100:=by decide+kernel
theorem JK:∀k<5,∀j<7,(host k j).length≤100∧0<(host k j).length:=by decide+kernel
theorem rX:∀j,(chain j).length≤3:=by
 intro j
 unfold chain
 split<;>decide
theorem Z9:∀k<5,∀j<7,∀i<4,(wC k j i).length≤100:=by decide+kernel
section
variable {G:Gx}{A:Around}{h₀:Heap}{L:Addr}{m:Loc}{H:Led}{env:Env}{aW:eu}{pd:jb}{x y:Str}{t u:Tok}{Q:Value->Loc->Led->Prop}
theorem RK (T:aT G.K aW)(Pt:jd G.K pd)(C:Cx G A h₀ L env)(r:bw A 3){k j:Nat}(hk:k<5)(hj:j<7)(h:∀r vs,bU vs (fF k j)->Q (.ref r) m ((r,af vs)::H)):
 AW (model G.prog G.w) A h₀ L (call (.ref aW.qV) [.str (host k j) t]) Q m H:=by
 refine xE T.qV.d λbg d=>?_
 conv at d in(aO _).body=>whnf
 conv at d in(occs:= *) (aO _).scope=>all_goals whnf
 refine gX (n:=2) (binds:=[(Str.ofString "host",_)]) C r d (λ_ _ _ _ _=>rfl) rfl λA' g L' C' r'=>?_
 have aP:(1000:Nat)≤sizeLine:=by decide
 have hz:(10:Int)<2^62:=by decide
 refine xA (JK k hk j hj) λCn iY=>?_
 have gJ:=rX j
 walk_at "awa"
 refine dF ?_
 walk_at "awa"
 refine⟨by show(1:Nat)≤sizeLine;exact Nat.succ_pos _,λl1=>?_⟩
 walk_at "awa"
 ((with_reducible refine cI (by assumption) (FnAt.n (aT.reach (by assumption))) ?_;with_reducible refine eO (Cx.X (by assumption)) (aT.reach (by assumption)) ?_))
 walk_at "awa"
 refine FQ T Pt C' (r'.le (by exact Nat.lt_succ_self _)) (by exact Nat.le_trans ‹_› (by decide)) iY (IW k hk j hj) λt0=>?_
 refine aa (Yv k hk j hj) ?_
 walk_at "awa"
 refine rS (λn m H'=>∃(i:Nat) (vs:List Value) (t:Tok),i+n=(chain j).length∧SubL [(Str.ofString "told", .str (mh j i) t),(Str.ofString "names", .ref l1)] m∧H'=(l1,af vs)::H∧bU vs ((fF k j).take (i+1)))
  (chain j).length ⟨0,_,t0,by exact Nat.zero_add _,by walk_at "aw_subl",rfl,bU.one _ _⟩ ?_
 intro n J hJ m1 H1 OV;refine Ao OV λi vs t1 hi hm zr275 hs=>?_;clear OV;subst zr275
 refine bO hm ?_
 have hlen:vs.length=i+1:=by
  refine aa hs.length (aa List.length_take ?_)
  show min (i+1) (((chain j).map bM).length+1)=i+1
  refine aa (List.length_map ..) ?_;exact(ln 0x1084400840008820000200880008001104210cc0b108330ac3302c4b08c0b10804).1 hi (Eq.refl (Min.min (i+1) ((chain j).length+1)))
 refine xE (show∃t,vs[i]?=some (.str (wC k j i) t) from by
  refine hs.get ?_
  refine aa (List.getElem?_take_of_lt (by exact Nat.lt_succ_self _)) ?_
  unfold wC
  refine aa (List.getD_eq_getElem?_getD) ?_
  have:i<(fF k j).length:=by
   show i<((chain j).map bM).length+1
   refine aa (List.length_map ..) ?_;exact(ln 0x422084330ac010880b10403).1 hi
  refine aa (List.getElem?_eq_getElem this) ?_;rfl) λtl yX=>?_
 walk_at "awa"
 refine Fp (v:= .str (wC k j i) tl) (.inl (by walk_at "aw_mem")) (by exact Int.natCast_nonneg _) (by exact(ln 0x20088210ce207c4619856010402).1 hlen) (by exact Int.natCast_nonneg _) (by refine aa hlen (aa (show(-1+((i+1:Nat):Int)).toNat=i by simp+arith) ?_);exact yX) ?_
 walk_at "awa"
 refine RU rfl (by have:=Z9 k hk j hj i (by exact ZA gJ hi);exact Nat.le_trans ‹_› (by decide)) λ_=>?_
 walk_at "awa"
 refine aa (Yw k hk j hj i (by lia) (by exact(ln 0x8441084000880b10403).1 hi)) ?_
 refine k6 (λaC=>?_) (λo4=>?_)
 ·refine wW (Yx j hj i (by exact Nat.lt_of_lt_of_le ‹_› ‹_›) aC) λe1 e2 e3 e4 e5=>?_
  walk_at "awa"
  refine iO (by walk_at "aw_mem") PySem.F.slot_list_append PySem.F.type_list_append ?_
  refine cF ?_
  walk_at "awa"
  refine jL (by exact @(ln 0x21004211042108420008610cc6b008731003f40bf301004).1 vs.length sizeLine ((chain j).length) i aP gJ hlen aC) ?_
  walk_at "awa"
  ((with_reducible refine cI (by assumption) (FnAt.n (aT.reach (by assumption))) ?_;with_reducible refine eO (Cx.X (by assumption)) (aT.reach (by assumption)) ?_))
  walk_at "awa"
  refine F0 ?_
  walk_at "awa"
  refine⟨_,_,_,_,rfl,rfl,by exact @(ln 0x421104210800320bf30003f40bf300802).1 ((mh j i).length) sizeLine aP e5,λ_=>?_⟩
  walk_at "awa"
  refine FQ T Pt C' (r'.le (by exact Km)) (by show(tF j i).length≤_;exact(ln 0x211043f40bf30006417e6000401).1 e4) e3 e2 λt2=>?_
  show AW _ _ _ _ (storeName _ _ (.str (wI (tF j i)) t2)) _ _ _
  refine aa e1 ?_
  walk_at "awa"
  refine qY (k:=n-1) (by exact KP hi aC (Eq.refl (n-1))) (hJ ⟨i+1,_,t2,by exact KQ hi aC (Eq.refl (n-1)),by walk_at "aw_subl",rfl,?_⟩)
  have:(fF k j).take (i+1+1)=(fF k j).take (i+1)++[mh j i]:=by
   have qD:i+1<(fF k j).length:=by
    show i+1<((chain j).map bM).length+1
    rw[List.length_map];exact(ln 0x844108661586605842008402).1 aC
   rw[List.take_succ_eq_append_getElem qD]
   congr 2
   show((chain j).map bM)[i]'(by rw[List.length_map];exact Ze aC)=mh j i
   unfold mh
   rw[List.getD_eq_getElem?_getD,List.getElem?_append_left (by rw[List.length_map];lia),List.getElem?_eq_getElem (by rw[List.length_map];lia)]
   rfl
  rw[this]
  exact hs.snoc _ _
 ·walk_at "awa"
  refine h _ _ ?_
  have:(fF k j).take (i+1)=fF k j:=List.take_of_length_le (by
   show((chain j).map bM).length+1≤i+1
   rw[List.length_map];exact(ln 0x1088210cc2b0cc0b0002130402).1 o4)
  rw[this] at hs
  exact hs
end
end
section
open PySem.Builtin PySem.Builtin.Re PySem.Sre
theorem bU.are (h:bU vs xs):StrsAre vs xs:=by
 refine ah h λl zr227 zr228=>?_;clear h;subst zr227;subst zr228
 induction l with
 |nil=>exact .nil
 |cons p r ih=>exact .cons _ _ ih
section
variable {prog:Program}{w:World}{A:Around}{E:Value->Shared->Prop}{s:Shared}
theorem wpAny_iadd_list (hl:IsL s.heap l items n)(hb:IsL s.heap b zG n2)(hz:items.size+zG.size≤1000)
 (h:Q (.ref l) {s with heap:=s.heap.update l (Obj.mapSeq λx=>x++zG)}):wpAny (model prog w) A (inplaceOp .Add (.ref l) (.ref b)) Q E s:=by
 have aP:(100000:Nat)≤sizeLine:=by decide
 have ha:s.TypeIs (.ref l) "list":=⟨_,hl,rfl⟩
 have jw:s.TypeIs (.ref b) "list":=⟨_,hb,rfl⟩
 have B9:fillsInplaceSlot (.type "list") "add" (Operator.Add== .Add)=pure false:=by
  unfold fillsInplaceSlot
  show(typeLookup (.type "list") (dunderI "add")>>=λfi=>pure (fi.isSome&& !isSeqSlot fi))=pure false
  refine aa F.slot_list_iadd.lookup ?_
  show(pure (true&& !isSeqSlot (some (.builtin "list.__iadd__"))):Sem Bool)=pure false
  refine aa (show isSeqSlot (some (.builtin "list.__iadd__"))=true by decide+kernel) ?_;rfl
 unfold inplaceOp
 refine wpAny_holding ?_
 refine wpAny_bind (wpAny_typeOf ha (wpAny_bind (wpAny_of_eq B9 ?_)))
 show wpAny _ A (if false=true then _ else _) Q E s
 refine aa (if_neg Bool.false_ne_true) ?_
 refine wpAny_bind (wpAny_binaryOp1_none (nm:="add") ha jw noFill_list_add ?_)
 refine wpAny_bind (wpAny_of_eq (PySem.seqSlot_of F.slot_list_iadd.lookup (by decide+kernel)) ?_)
 refine wpAny_bind (wpAny_rule ?_)
 exact call_meets F.slot_list_iadd ha F.entry_list_iadd (F.args_list_iadd_2 _ _) (AutoSeq1.list___iadd___list_list_0 l items n b zG n2 (by unfold Builtin.List.listTooLong;simp;lia) (by exact @(ln 0x4211042108001186a027e60fa05f9880b00803).1 items.size sizeLine zG.size hz aP) (by exact Nat.le_trans ‹_› (by decide))) ⟨hl,hb,h⟩
end
section
variable {prog:Program}{w:World}{A:Around}{h₀:Heap}{L a b c:Addr}{m:Loc}{H H':Led}{env:Env}{Q:Value->Loc->Led->Prop}{vs ws:List Value}{k:Int}{t u:Tok}{v:Value}{x:Str}
theorem Ru (hb:(b,af ws)∈H)(hz:vs.length+ws.length≤1000)(h:Q (.ref a) m ((a,af (vs++ws))::H)):AW (model prog w) A h₀ L (inplaceOp .Add (.ref a) (.ref b)) Q m ((a,af vs)::H):=λs R E S kk=>by
 refine xE (S.lst (.head _)) λn e=>?_
 refine xE (S.lst (.tail _ hb)) λn2 e2=>?_
 refine wpAny_iadd_list e e2 (by assumption) ?_
 exact kk _ m _ _ _ (S.upd (P':=af (vs++ws)) (Heap.SameBut.update ..) (Heap.get?_update_self (Obj.mapSeq λx=>x++ws.toArray) e rfl) ⟨_,by simp[Obj.mapSeq,W.listOf];rfl⟩) h
theorem Sn (hm:c7 h₀ a vs H)(hs:bU vs xs)(h:Q (.bool (!(xs.any (· ==x)))) m H):AW (model prog w) A h₀ L (compareOp .NotIn (.str x t) (.ref a)) Q m H:=λs R E S kk=>
 notin_list_strs (hm.at S) hs.are (kk _ m H _ _ S h)
theorem Bb {a n:Int}(hn:0≤n)(zb:n≤1000000)(ha:a.natAbs<2^64)(h:∀t,Q (.int (a^n.toNat) t) m H):AW (model prog w) A h₀ L (binaryOp .Pow (.int a t) (.int n u)) Q m H:=λs R E S kk=>
 pow_int_small hn zb ha (kk _ m H _ _ S (h _))
theorem QI {Q:Flow->Loc->Led->Prop}
 (h:AW (model prog w) A h₀ L (loadName env y) (λold m H=>AW (model prog w) A h₀ L (eval value env) (λv m H=>AW (model prog w) A h₀ L (inplaceOp op old v) (λr m H=>AW (model prog w) A h₀ L (storeName env y r) (λ_ m H=>AW (model prog w) A h₀ L (execs rest env) Q m H) m H) m H) m H) m H):
 AW (model prog w) A h₀ L (execs (.AugAssign (.Name y pos') op value pos::rest) env) Q m H:=jM λs R E S kk=>
 wpAny_AugAssign_Name (h s _ E S λold m1 H1 h1 aX S1 q1=>q1 _ _ E S1 λv m2 H2 h2 bC S2 q2=>q2 _ _ E S2 λr m3 H3 h3 aR S3 q3=>q3 _ _ E S3 λ_ m4 H4 h4 iw S4 q4=>kk _ m4 H4 h4 iw S4 (gR q4))
end
section
variable {M:Model}{A:Around}{h₀:Heap}{L a c:Addr}{m:Loc}{H:Led}{cn:Str}{cs:Scope}{gr:Value}{cl:List (Str×Addr)}{x:Str}{v:Value}{Q:Value->Loc->Led->Prop}
theorem RQ (hc:cl.lookup x=some c)(hm:(c,aE (some v))∈H)(h:Q v m H)(hk:cs.kind= .function:=by with_unfolding_all rfl)(hx:(envX cn cs L a gr cl).kindOf x=some .cell:=by with_unfolding_all rfl):
 AW M A h₀ L (loadName (envX cn cs L a gr cl) x) Q m H:=λs R E S k=>by
 refine ah (S.get hm) λo e p=>?_
 exact wpAny_loadName_cell hk hx hc ⟨o,e,p⟩ (k _ m H _ _ S h)
theorem aw_load_L (hv:lk m x=some v)(h:Q v m H)(hk:cs.kind= .function:=by with_unfolding_all rfl)(hx:(envX cn cs L a gr cl).kindOf x=some .local:=by with_unfolding_all rfl):
 AW M A h₀ L (loadName (envX cn cs L a gr cl) x) Q m H:=λs R E S k=>by
 refine ah S.fr λmf F g=>?_
 exact wpAny_loadName_local hk hx F.ns (g _ _ hv) (k _ m H _ _ S h)
end
end
section
open PySem.Builtin PySem.Builtin.Re PySem.Sre
theorem pick_drop1 (vs:List Value):(slicePick vs.toArray (some 1) none none).toList=vs.drop 1:=Ln vs 1
noncomputable def oj (H:Led)(vs:List Value)(cy:List (List Str)):Prop:=vs.length=cy.length∧∀(i:Nat) (xs:List Str),cy[i]?=some xs->∃(a:Addr) (ws:List Value),vs[i]?=some (Value.ref a)∧(a,af ws)∈H∧bU ws xs
noncomputable def qW (ns:List Str)(xs:List Str):List Str:=ns++(xs.drop 1).filter (λn=>!(ns.any (· ==n)))
noncomputable def eW (cy:List (List Str)):List Str:=cy.foldl qW []
theorem YR (cy:List (List Str))(i:Nat)(xs:List Str)(h:cy[i]?=some xs):eW (cy.take (i+1))=qW (eW (cy.take i)) xs:=by
 unfold eW
 refine aa (List.take_add_one ..) (aa (h ..) (aa (Option.toList_some ..) (aa (List.foldl_append ..) ?_)));rfl
noncomputable def fQ (H:Led)(vs:List Value)(ps:List (Str×Str)):Prop:=vs.length=ps.length∧∀(i:Nat) (p:Str×Str),ps[i]?=some p->∃(a:Addr) (t u:Tok),vs[i]?=some (Value.ref a)∧(a,bf [.str p.1 t, .str p.2 u])∈H
theorem fQ.mono (h:fQ H vs ps)(hs:∀q∈H,q∈H'):fQ H' vs ps:=
 ⟨h.1,λi p e=>let⟨a,t,u,e1,e2⟩:=h.2 i p e;⟨a,t,u,e1,hs _ e2⟩⟩
theorem fQ.nil:fQ H [] []:=⟨rfl,λi p e=>nomatch e⟩
theorem fQ.snoc (h:fQ H vs ps)(hm:(a,bf [.str x t, .str y u])∈H):fQ H (vs++[.ref a]) (ps++[(x,y)]):=by
 refine⟨by simp[h.1],λi p e=>?_⟩
 rcases Nat.lt_trichotomy i ps.length with hi|hi|hi
 ·rw[List.getElem?_append_left hi] at e
  refine cE (h.2 i p e) λa' t' u' e1 e2=>?_
  exact⟨a',t',u',by refine aa (List.getElem?_append_left (by rw[h.1];exact hi)) ?_;exact e1,e2⟩
 ·subst hi
  rw[List.getElem?_append_right (Nat.le_refl _),Nat.sub_self] at e
  cases e
  exact⟨a,t,u,by refine aa (List.getElem?_append_right (by rw[h.1];exact Nat.le_refl _) ..) (aa (h.1 ..) (aa (Nat.sub_self ..) ?_));rfl,hm⟩
 ·rw[List.getElem?_eq_none (by refine aa List.length_append ?_;show ps.length+1≤i;assumption)] at e
  cases e
noncomputable def jG (total:Int)(k:Nat):Int:=((([2,3,1,1,2,1,2,1]:List Int).getD k 0)+total.fdiv (4^k)).fmod 4
noncomputable def word (d:Int):Str:=Str.ofString "at most "++Txt.item (Str.ofString "0123") d
noncomputable def kD (ns:List Str)(total:Int):List (Str×Str):=ns.zipIdx.map λp=>(p.1,word (jG total p.2))
theorem YT (ns:List Str)(total:Int)(i:Nat)(n:Str)(h:ns[i]?=some n):(kD ns total).take (i+1)=(kD ns total).take i++[(n,word (jG total i))]:=by
 have e:(kD ns total)[i]?=some (n,word (jG total i)):=by
  unfold kD
  refine aa (List.getElem?_map) (aa (List.getElem?_zipIdx) (aa h ?_))
  simp
 refine aa List.take_add_one (aa e ?_);rfl
theorem U7 (t0 t1 t2 t3 t4 t5 t6 t7:Tok)(i:Nat)(hi:i<8):∃tk,([.int 2 t0, .int 3 t1, .int 1 t2, .int 1 t3, .int 2 t4, .int 1 t5, .int 2 t6, .int 1 t7]:List Value)[i]?=some (.int (([2,3,1,1,2,1,2,1]:List Int).getD i 0) tk):=by
 rcases i with _|_|_|_|_|_|_|_|i
 all_goals first|exact⟨_,rfl⟩|exact absurd hi (Nat.not_lt.mpr (Nat.le_add_left 8 i))
theorem VA:∀i<8,((4:Int)^i)≠0∧((4:Int)^i).natAbs<1073741824:=by decide
theorem word_len:∀d:Nat,d<4->(Txt.item (Str.ofString "0123") (d:Int)).length=1:=by decide+kernel
theorem nT {n:Nat}:Builtin.Range.rangeSize 0 n 1=n:=by
 unfold Builtin.Range.rangeSize
 rcases Nat.eq_zero_or_pos n with e|e
 ·subst e;rfl
 ·simp;exact Ku
theorem pN {n:Nat}(h:n≤1000):Builtin.Range.small 0 n 1=true:=by
 have e1:∀i:Int,0≤i->i≤2000->Builtin.Range.rangeFitsLong i=true:=by
  intro i h0 h1
  unfold Builtin.Range.rangeFitsLong
  simp;exact(ln 0x42208022084280000000000000006fe602010000000000000000dfce23387d01fe601801318820).1 h0 h1
 unfold Builtin.Range.small
 simp[nT,e1 0 (by exact Int.natCast_nonneg _) (by exact Int.natCast_nonneg _),e1 1 (by exact Int.natCast_nonneg _) (by exact Int.natCast_nonneg _),e1 n (by exact Int.natCast_nonneg _) (by exact(ln 0x8441087d01fe6078fe817e6000401).1 h)]
theorem JR:∀(cy:List (List Str)) (ns:List Str),ns.length≤(cy.foldl qW ns).length
 |[],_=>Nat.le_refl _
 |xs::r,ns=>Nat.le_trans (by unfold qW;refine aa List.length_append ?_;exact Nat.le_add_right _ _) (JR r (qW ns xs))
theorem YQ (cy:List (List Str))(i:Nat):(eW (cy.take i)).length≤(eW cy).length:=by
 have:=JR (cy.drop i) (eW (cy.take i))
 unfold eW at this ⊢
 rwa [<-List.foldl_append,List.take_append_drop] at this
end
local macro_rules
 | `(tactic|walk_at "aw_m0")=>
 `(tactic|((intro L' x v e;simp only [lk] at e;repeat (split at e;(rename_i hx;subst hx;cases e;with_unfolding_all rfl));cases e)))
section
open PySem.Builtin PySem.Builtin.Re PySem.Sre
section
variable {G:Gx}{A:Around}{h₀:Heap}{L:Addr}{m:Loc}{H:Led}{env:Env}{aW:eu}{pd:jb}{x y:Str}{t u:Tok}{Q:Value->Loc->Led->Prop}
theorem RP (T:aT G.K aW)(C:Cx G A h₀ L env)(r:bw A 1){total:Int}(hl:(l,af vs)∈H)(hv:oj H vs cy)(hz:cy.length≤5)(hx:∀xs∈cy,xs.length≤4)
 (hn:(eW cy).length≤8)
 (h:∀r ys jk,fQ jk ys (kD (eW cy) total)->Q (.ref r) m ((r,af ys)::jk++H)):
 AW (model G.prog G.w) A h₀ L (call (.ref aW.qX) [.ref l, .int total t]) Q m H:=by
 refine xE T.qX.d λbg d=>?_
 conv at d in(aO _).body=>whnf
 conv at d in(occs:= *) (aO _).scope=>all_goals whnf
 refine AZ (n:=0) (binds:=[(Str.ofString "ladders",_),(Str.ofString "total",_)]) C r d (λ_ _ _ _ _=>rfl) (by rfl) (by decide) [(Str.ofString "ladders", .ref l)] (by walk_at "aw_m0") λA' g L' C' r'=>?_
 have aP:(1000:Nat)≤sizeLine:=by decide
 have sS:(10:Int)<2^62:=by decide
 show AW _ _ _ _ (execs _ (envX _ _ _ _ _ [(Str.ofString "names",L'+1+1),(Str.ofString "total",L'+1)])) _ _ ((L'+1+1,aE none)::(L'+1,aE (some (.int total t)))::H)
 (with_reducible show AW _ _ _ _ (execs (.Assign [.Name _ _] _ _::_) _) _ _ _)
 with_reducible refine kP ?_
 refine dF ?_
 walk_at "awa"
 refine⟨by show(0:Nat)≤sizeLine;exact Nat.zero_le _,λnl=>?_⟩
 refine qc (c:=L'+1+1) rfl (.tail .head) ?_
 (with_reducible show AW _ _ _ _ (execs (.For _ _ _ _ _::_) _) _ _ _)
 with_reducible refine je ?_
 walk_at "awa"
 refine gZ (.inl (by walk_at "aw_mem")) λit=>?_
 refine xA hv λfE bB=>?_;clear hv
 refine iN (gw C'.hh) (λi m H'=>∃ns jk,bU ns (eW (cy.take i))∧SubL [(Str.ofString "ladders", .ref l)] m∧H'=(L'+1+1,aE (some (.ref nl)))::(nl,af ns)::(L'+1,aE (some (.int total t)))::(jk++H))
  (λi m H' hI=>by refine eX hI λns jk _ _ zr231=>?_;clear hI;subst zr231;exact .inl (.tail _ (.tail _ (.tail _ (List.mem_append_right _ hl))))) ?_ ?_ 0 (Nat.zero_le _) ⟨[],[],bU.nil,by walk_at "aw_subl",rfl⟩
 ·intro i J hJ v m1 H1 hi Ir Oi;refine eX Oi λns jk iF hm zr232=>?_;clear Oi;subst zr232
  refine bO hm ?_
  refine xE (show∃xs,cy[i]?=some xs from⟨_,List.getElem?_eq_getElem (by exact Nat.lt_of_lt_of_eq ‹_› ‹_›)⟩) λxs qQ=>?_
  refine eX (bB i xs qQ) λa ws e1 ha hs=>?_
  obtain rfl:v= .ref a:=by rw[e1] at Ir;cases Ir;rfl
  have vU:=hx xs (List.mem_of_getElem? qQ)
  have kZ:=hs.length
  have ve:(a,af ws)∈jk++H:=List.mem_append_right _ ha
  refine bQ ?_
  walk_at "awa"
  (with_reducible show AW _ _ _ _ (execs (.AugAssign (.Name _ _) _ _ _::_) _) _ _ _)
  with_reducible refine QI ?_
  refine RQ (c:=L'+1+1) rfl (.tail _ (.head _)) ?_
  refine mS [(Str.ofString "names",L'+1+1)] (by rfl) ?_
  refine uG ?_
  walk_at "awa"
  refine rR ?_
  walk_at "awa"
  refine rQ ?_
  refine⟨a,ws,_,_,rfl, .inl (.tail _ (.tail _ (.tail _ (.tail _ ve)))),by exact @(ln 0x21004220842108002008931003f40bf300c03).1 ws.length sizeLine xs.length aP vU kZ, .int _ _, .none,λsl=>?_⟩
  refine aa (pick_drop1 ..) ?_
  refine gZ (.inl (.head _)) λpC=>?_
  have jE:bU (ws.drop 1) (xs.drop 1):=by
   refine ah hs λq zr233 zr234=>?_;clear hs;subst zr233;subst zr234
   exact⟨q.drop 1,by simp[strValues],by simp⟩
  refine⟨pC,fu sl,_,_,c7 g sl (ws.drop 1),_,rfl,rfl,gw C'.hh,λp H d=>d.more,λcC D=>⟨λi' ys X=>X=_∧bU ys (((xs.drop 1).take i').filter (λn=>!((eW (cy.take i)).any (· ==n)))),?_,⟨rfl,bU.nil⟩,?_,?_⟩⟩
  ·intro i' ys X Oj;refine xA Oj λzr235 _=>?_;clear Oj;subst zr235
   exact .inl (.head _)
  ·intro i' v mc ys X bR lS Ol;refine xA Ol λzr236 bA=>?_;clear Ol;subst zr236
   rw[jE.length] at bR
   refine xE (jE.get (List.getElem?_eq_getElem bR)) λtv sN=>?_
   obtain rfl:v= .str ((xs.drop 1)[i']) tv:=by rw[sN] at lS;cases lS;rfl
   refine bQ ?_
   refine gq .head ?_
   refine qd ?_
   (with_reducible show AW _ _ _ _ (isTrue (.Compare _ [_] [_] _) _ _) _ _ _)
   with_reducible refine oH ?_
   refine dj (.head _) (by with_unfolding_all rfl) ?_
   refine gY (c:=L'+1+1) (by with_unfolding_all rfl) (.tail _ (.tail _ (.tail _ (.tail _ (.tail _ (.head _)))))) ?_
   refine Sn (.inl (.tail _ (.tail _ (.tail _ (.tail _ (.tail _ (.tail _ (.head _)))))))) iF ?_
   refine F7 ?_
   refine i7 (λhb=>?_) (λhb=>?_)
   ·refine dj (.head _) (by with_unfolding_all rfl) ?_
    refine⟨rfl,_,_,_,_,_, .tail .head, .head, .head,?_,rfl,?_⟩
    ·have:=bA.length
     have h2:=List.length_filter_le (λn=>!((eW (cy.take i)).any (· ==n))) ((xs.drop 1).take i')
     rw[List.length_take] at h2
     rw[List.length_drop] at bR
     exact(ln 0x100000000010004108420084010802008821000200000000020008210840108020004011042108421084000cc445186759ca028044184931003f40bf301c08).1 aP vU bR this h2 (Eq.refl (Min.min i' (List.drop 1 xs).length)) (Eq.refl (xs.length-1))
    ·refine aa (List.take_succ_eq_append_getElem bR ..) (aa (List.filter_append ..) ?_)
     have ef:[(xs.drop 1)[i']].filter (λn=>!((eW (cy.take i)).any (· ==n)))=[(xs.drop 1)[i']]:=List.filter_cons_of_pos (p:=λn=>!((eW (cy.take i)).any (· ==n))) (l:=[]) hb
     refine aa ef ?_
     exact bA.snoc _ _
   ·refine⟨rfl,_,_,_,_,_, .tail .head, .head, .head,rfl,?_⟩
    refine aa (List.take_succ_eq_append_getElem bR ..) (aa (List.filter_append ..) ?_)
    have ef:[(xs.drop 1)[i']].filter (λn=>!((eW (cy.take i)).any (· ==n)))=[]:=List.filter_cons_of_neg (p:=λn=>!((eW (cy.take i)).any (· ==n))) (l:=[]) (by refine aa hb ?_;simp)
    refine aa (ef ..) (aa (List.append_nil ..) ?_)
    exact bA
  ·intro mc ys X Oo;refine xA Oo λzr237 bA=>?_;clear Oo;subst zr237
   rw[jE.length,List.take_length] at bA
   refine⟨_,_,_,rfl,?_⟩
   refine bu (.tail (.tail (.tail (.tail .head)))) ?_
   have gO:=bA.length
   have lQ:=iF.length
   have h3:=YQ cy i
   have h2:=List.length_filter_le (λn=>!((eW (cy.take i)).any (· ==n))) (xs.drop 1)
   rw[List.length_drop] at h2
   refine Ru (ws:=ys) (.head _) (by exact(ln 0x8001004210040110421004010840100441084210843f40bf3081600cc66518801140500881112630226201c07).1 hn vU gO lQ h3 h2 (Eq.refl (xs.length-1))) ?_
   refine qc (c:=L'+1+1) rfl (.tail (.tail (.tail (.tail .head)))) ?_
   refine bu (.tail (.tail (.tail (.tail (.tail .head))))) ?_
   refine bu (.tail (.tail .head)) ?_
   refine bu (.tail (.tail .head)) ?_
   refine gF ?_
   refine fU (.tail (.tail (.tail (.tail (.tail .head))))) (hJ ⟨_,[_,_]++jk,?_,by walk_at "aw_subl",rfl⟩)
   refine aa (YR cy i xs qQ) ?_
   refine ah iF λq1 zr238 e1=>?_;clear iF;subst zr238
   refine ah bA λq2 zr239 e2=>?_;clear bA;subst zr239
   exact⟨q1++q2,by simp[strValues],by refine aa List.map_append (aa e1 (aa e2 ?_));rfl⟩
 ·intro m1 H1 Oq;refine eX Oq λns jk iF hm zr240=>?_;clear Oq;subst zr240
  rw[fE,List.take_length] at iF
  refine gF ?_
  refine gR ?_
  (with_reducible show AW _ _ _ _ (execs (.Return (some _) _::_) _) _ _ _)
  with_reducible refine FW ?_
  refine mS _ (by rfl) ?_
  walk_at "awa"
  refine g6 (c:=L'+1+1) rfl (.head _) ?_
  walk_at "awa"
  have lQ:=iF.length
  refine fL (.tail _ (.head _)) (by exact Dp hn lQ) λtl=>?_
  walk_at "awa"
  refine mU λrr=>?_
  refine mR (n:=ns.length) (.head _) (pN (by exact(ln 0x1004220843f40bf3000201226100802).1 hn lQ)) nT λit=>?_
  refine⟨it,iL 0 1 ns.length,_,_,_,_,rfl,rfl,lW C'.hh,λp H d=>d,λcC D=>⟨λi' ys X=>∃kB,X=kB++((rr,eB 0 ns.length 1)::(L'+1+1,aE (some (.ref nl)))::(nl,af ns)::(L'+1,aE (some (.int total t)))::(jk++H))∧fQ kB ys ((kD (eW cy) total).take i'),λ_ _ _ _=>trivial,⟨[],rfl,fQ.nil⟩,?_,?_⟩⟩
  ·intro i v mc ys X hi Ot Ou;refine xE Ot λtv zr241=>?_;clear Ot;subst zr241;refine ah Ou λkB zr242 bA=>?_;clear Ou;subst zr242
   have Ip:i<8:=by exact(ln 0x401084410842898022004221226100c03).1 hn lQ hi
   refine xA (VA i Ip) λf1 f2=>?_
   have qE:(Str.ofString "0123").length=4:=by decide
   refine aa (show(0:Int)+1*(i:Int)=i by simp+arith) ?_
   refine xE (show∃nm,(eW cy)[i]?=some nm from⟨_,List.getElem?_eq_getElem (by exact KY lQ hi)⟩) λnm qF=>?_
   refine xE (iF.get qF) λtn zb=>?_
   refine bQ ?_
   refine gq .head ?_
   refine mW ?_
   refine jW ?_
   refine rT ?_
   walk_at "awa"
   refine gY (c:=L'+1+1) (by with_unfolding_all rfl) (.tail _ (.tail _ (.tail _ (List.mem_append_right _ (.tail _ (.head _)))))) ?_
   refine dj (.head _) (by with_unfolding_all rfl) ?_
   refine cM (.tail _ (.tail _ (.tail _ (List.mem_append_right _ (.tail _ (.tail _ (.head _))))))) (by exact pF) (by exact ZG hn lQ hi) (by assumption) ?_
   walk_at "awa"
   refine dF ?_
   walk_at "awa"
   refine⟨by show(8:Nat)≤sizeLine;exact Nat.le_add_left _ _,λl8=>?_⟩
   refine dj (.tail _ (.head _)) (by with_unfolding_all rfl) ?_
   rename_i t0 t1 t2 t3 t4 t5 t6 t7 t8
   refine xE (U7 t1 t2 t3 t4 t5 t6 t7 t8 i Ip) λtk8 e8=>?_
   refine cM (.head _) (by lia) (by lia) (by refine aa (Int.toNat_natCast ..) ?_;exact e8) ?_
   walk_at "awa"
   refine gY (c:=L'+1) (by with_unfolding_all rfl) (.tail _ (.tail _ (.tail _ (.tail _ (List.mem_append_right _ (.tail _ (.tail _ (.tail _ (.head _))))))))) ?_
   walk_at "awa"
   refine dj (.tail _ (.head _)) (by with_unfolding_all rfl) ?_
   refine Bb (by lia) (by exact(ln 0x100421104210fa12013f303c62004221226100c03).1 hn lQ hi) (by decide) λ_=>?_
   rw[Int.toNat_natCast]
   refine xZ f1 f2 λ_=>?_
   walk_at "awa"
   refine ah (qi ((([2,3,1,1,2,1,2,1]:List Int).getD i 0)+total.fdiv (4^i)) (n:=4) (by decide)) λd ed hd=>?_
   rw[ed]
   refine p9 (by unfold fitsSsize;simp;exact @(ln 0x10040110421400000000000000037f303c8102c44901e228861).1 d ([2,3,1,1,2,1,2,1].getD i 0) (total.fdiv (4^i)) (([2,3,1,1,2,1,2,1].getD i 0+total.fdiv (4^i)).fmod 4) ed (Eq.refl (([2,3,1,1,2,1,2,1].getD i 0+total.fdiv (4^i)).fmod 4))) (by exact @(ln 0x8821781f118002).1 ((Str.ofString "0123").length) d) (by exact @(ln 0x2008020088210842f03c8102c44901e22926110c62).1 d ((Str.ofString "0123").length) ([2,3,1,1,2,1,2,1].getD i 0) (total.fdiv (4^i)) (([2,3,1,1,2,1,2,1].getD i 0+total.fdiv (4^i)).fmod 4) qE ed (Eq.refl (([2,3,1,1,2,1,2,1].getD i 0+total.fdiv (4^i)).fmod 4))) rfl λt9=>?_
   have nJ:=word_len d (by exact @(ln 0x2008022084249802102c44901e228861).1 d ([2,3,1,1,2,1,2,1].getD i 0) (total.fdiv (4^i)) (([2,3,1,1,2,1,2,1].getD i 0+total.fdiv (4^i)).fmod 4) ed (Eq.refl (([2,3,1,1,2,1,2,1].getD i 0+total.fdiv (4^i)).fmod 4)))
   refine p6 (by rw[nJ];have:(Str.ofString "at most ").length=8:=by decide
                 exact @(ln 0x80211042108660581130083f40bf300802).1 ((Str.ofString "at most ").length) sizeLine aP this) λt10=>?_
   walk_at "awa"
   refine⟨by show(2:Nat)≤sizeLine;exact @id ((2:Nat)≤sizeLine) (@Dh sizeLine aP),λtp=>?_⟩
   have fD:jG total i=d:=by unfold jG;exact ed
   refine⟨rfl,_,_,_,_,_, .tail (.tail (.tail .head)), .tail (.tail .head), .tail (.tail .head),?_,(tp,bf [.str nm tn, .str (Str.ofString "at most "++Txt.item (Str.ofString "0123") d) t10])::(l8,_)::kB,rfl,?_⟩
   ·have:=bA.1
    rw[List.length_take] at this
    exact(ln 0x2100420080210882108021004010044108421084200148659802190221883f40bf30226201807).1 hn aP lQ hi this (Eq.refl (Min.min i (kD (eW cy) total).length))
   ·rw[YT _ total i nm qF,fD]
    exact(bA.mono λq hq=> .tail _ (.tail _ hq)).snoc (.head _)
  ·intro mc ys X Ov;refine ah Ov λkB zr243 bA=>?_;clear Ov;subst zr243
   have iY:(kD (eW cy) total).length=ns.length:=by unfold kD;simp[lQ]
   rw[<-iY,List.take_length] at bA
   refine⟨_,_,_,rfl,?_⟩
   have:=h D ys (kB++((rr,eB 0 ns.length 1)::(L'+1+1,aE (some (.ref nl)))::(nl,af ns)::(L'+1,aE (some (.int total t)))::jk)) (bA.mono λq hq=>List.mem_append_left _ hq)
   simpa using this
end
end
section
open PySem.Builtin PySem.Builtin.Re PySem.Sre
section
variable {prog:Program}{w:World}{A:Around}{E:Value->Shared->Prop}{s:Shared}{x y:Str}{t u:Tok}{Q:Value->Shared->Prop}
theorem ZX (hy:y.length≤1000000)(h:∀t' k,Q (.str (Str.ofString "\""++y++Str.ofString "\"") t') {s with toks:=k}):
 wpAny (model prog w) A (binaryOp .Mod (.str (Str.ofString "\"%s\"") t) (.str y u)) Q E s:=by
 refine' KPc.mod_str ?kpcF ?kpcl ?kpcm ?_
 case kpcF=>kpc_eq
 case kpcl=>exact hy
 case kpcm=>k_dflt kpc_run_s
 exact h
end
end
section
open PySem.Builtin PySem.Builtin.Re PySem.Sre
noncomputable def fY:Pos:=⟨224,50,224,87⟩
noncomputable def BK (code:Array Nat)(groups:Nat)(x:Str):Bool:=match(M.runFor 400 (forMatch code x.cps groups 0 x.cps.size true false)).outcome with|some .failed=>true|_=>false
theorem Vf {code:Array Nat}{groups:Nat}{x:Str}(h:BK code groups x=true):Ends groups (forMatch code x.cps groups 0 x.cps.size true false) none:=by
 unfold BK at h
 refine⟨400,by decide,?_⟩
 split at h
 ·assumption
 ·cases h
theorem Al:∀d:Nat,d<4->BK (aS 23) 0 (word d)=true∧j8 (aS 24) 1 (word d)=true∧(word d).length=9:=by decide+kernel
section
variable {prog:Program}{w:World}{A:Around}{h₀:Heap}{L b:Addr}{m:Loc}{H:Led}{env:Env}{x y:Str}{t u:Tok}{Q:Value->Loc->Led->Prop}
theorem Sa (hy:y.length≤1000)(h:∀t,Q (.str (Str.ofString "\""++y++Str.ofString "\"") t) m H):
 AW (model prog w) A h₀ L (binaryOp .Mod (.str (Str.ofString "\"%s\"") t) (.str y u)) Q m H:=λs R E S k=>ZX (by exact Nat.le_trans ‹_› (by decide)) λt' _=>k _ m H _ _ S (h t')
theorem Ff (h:AW (model prog w) A h₀ L (eval value env) (λv m H=>∃x t,v= .str x t∧x.length≤1000∧∀t',Q (.str x t') m H) m H):
 AW (model prog w) A h₀ L (eval (.FormattedValue value 115 none pos) env) Q m H:=λs R E S k=>by
 have aP:(10000:Nat)≤sizeLine:=by decide
 refine wpAny_FormattedValue_s (h s _ E S λv m1 H1 h1 aX S1 q1=>?_)
 refine eX q1 λx t zr214 hz q=>?_;clear q1;subst zr214
 exact SB.convS_str (λt' k'=>formatField_str (λt'' k''=>k _ m1 H1 _ _ S1 (q t'')) (by exact Nat.le_trans ‹_› (by decide))) (by exact @JW x.length sizeLine aP hz)
theorem RE (h:AW (model prog w) A h₀ L (joinParts Str.empty (evalEach (v1::v2::rest) env)) Q m H):AW (model prog w) A h₀ L (eval (.JoinedStr (v1::v2::rest) pos) env) Q m H:=
 λs R E S k=>JoinedStr_many (h s R E S k)
theorem A6 (h:AW (model prog w) A h₀ L (eval e env) (λv m H=>∃y t,v= .str y t∧(out++y).length≤10000∧AW (model prog w) A h₀ L (joinParts (out++y) (evalEach es env)) Q m H) m H):
 AW (model prog w) A h₀ L (joinParts out (evalEach (e::es) env)) Q m H:=λs R E S k=>by
 have aP:(10000:Nat)≤sizeLine:=by decide
 refine joinParts_consE (joinParts_cons (h s _ E S λv m1 H1 h1 aX S1 q1=>?_))
 refine eX q1 λy t zr215 hz q=>?_;clear q1;subst zr215
 exact⟨by exact Nat.le_trans ‹_› ‹_›,q _ R E S1 k⟩
theorem RG (hz:out.length≤10000)(h:∀t,Q (.str out t) m H):AW (model prog w) A h₀ L (joinParts out (evalEach [] env)) Q m H:=λs R E S k=>
 joinParts_nilE (joinParts_nil (k _ m H _ _ S (h _)) (by have:(10000:Nat)≤sizeLine:=by decide
                                                         exact Nat.le_trans ‹_› ‹_›))
theorem Rx (h:Q (.bool true) m H):AW (model prog w) A h₀ L (compareOp .IsNot (.str x t) .none) Q m H:=λs R E S k=>isnot_str_none (k _ m H _ _ S h)
end
theorem foldLen_le (sep:Str)(B:Nat):∀(l:List Str) (n:Nat),(∀x∈l,x.length≤B)->l.foldl (λn x=>n+x.length+sep.length) n≤n+l.length*(B+sep.length)
 |[],n,_=>by simp
 |x::r,n,h=>by
  have h1:=h x (.head _)
  refine Nat.le_trans (foldLen_le sep B r _ λy hy=>h y (.tail _ hy)) ?_
  refine aa (List.length_cons ..) (aa (Nat.succ_mul ..) ?_)
  show n+x.length+sep.length+r.length*(B+sep.length)≤_
  exact(ln 0x211042222c6b02c620816b5808100405).1 h1
theorem aZ.app (h:aZ a P T T'):∀J:Led,aZ a P (J++T) (J++T')
 |[]=>h
 |_::J=> .tail (aZ.app h J)
theorem DV (B:Nat):∀l:List Str,(∀x∈l,x.length≤B)->(l.map (·.length)).sum≤l.length*B
 |[],_=>by exact Nat.zero_le _
 |x::r,h=>by
  have h1:=h x (.head _)
  have h2:=DV B r λy hy=>h y (.tail _ hy)
  refine aa (List.map_cons ..) (aa (List.sum_cons ..) (aa (List.length_cons ..) (aa (Nat.succ_mul ..) ?_)))
  exact @(ln 0x421104211896102c020806000804).1 x.length ((List.map (λx=>x.length) r).sum) (r.length*B) B h1 h2
theorem zI (h:∀x∈l,x.length≤B)(hn:l.length*(B+sep.length)≤10000):JoinOk sep l=true:=by
 unfold JoinOk
 have:=foldLen_le sep B l 0 h
 unfold Builtin.Str.tooLong sizeLine
 refine aa (List.foldl_toArray ..) ?_
 simp
 exact(ln 0x21088210c000000bf9800104d60027101fe6100802).1 hn this
structure mG (K:Frag)(i:Nat)(f c P:Addr):Prop where
 d:lE K f (aO i).name (aO i).name (aO i).params (aO i).body (aO i).scope (.ref c)
 hd:codeHdIn K c P=true
noncomputable def fG (p:Str×Str):Str:=p.1++Str.ofString "="++(Str.ofString "\""++p.2++Str.ofString "\"")
noncomputable def headText (ps:List (Str×Str)):Str:=Txt.join (Str.ofString "; ") (ps.map fG)
noncomputable def xS (ps:List (Str×Str)):Prop:=∀p∈ps,p.1.length≤100∧∃d:Nat,d<4∧p.2=word d
theorem Dz (h:xS ps):∀x∈ps.map fG,x.length≤112:=by
 intro x hx
 refine ah (List.mem_map.mp hx) λp hp zr216=>?_;subst zr216
 refine j3 (h p hp) λh1 d hd h2=>?_
 have w3:=(Al d hd).2.2
 have l1:(Str.ofString "=").length=1:=by decide
 have l2:(Str.ofString "\"").length=1:=by decide
 unfold fG
 refine aa h2 ?_
 simp only [Str.length_append]
 exact @(ln 0x40100402088210842380bf310c4b5840b5803310833089331886417e6001004).1 p.fst.length ((Str.ofString "=").length) ((Str.ofString "\"").length) ((word ↑d).length) h1 w3 l1 l2
theorem Wt (h:xS ps)(hz:ps.length≤8):(headText ps).length≤1000:=by
 unfold headText
 show(Builtin.Str.glued (Str.ofString "; ") (ps.map fG)).length≤_
 refine aa (StrLaws.glued_eq_join ..) ?_
 have h1:=StrLaws.join_length_le (Str.ofString "; ") (ps.map fG)
 have h2:=DV 112 _ (Dz h)
 have l1:(Str.ofString "; ").length=2:=by decide
 rw[List.length_map] at h1 h2
 rw[l1] at h1
 exact(ln 0x390be1084410843f40bf30002380bee10022709600226100c03).1 hz h1 h2
section
variable {G:Gx}{A:Around}{h₀:Heap}{L:Addr}{m:Loc}{H:Led}{env:Env}{aW:eu}{pd:jb}{x y:Str}{t u:Tok}{Q:Value->Loc->Led->Prop}
set_option maxHeartbeats 4000000 in
theorem RD (T:aT G.K aW)(Pt:jd G.K pd)(La:mG G.K 25 aW.lX c P)(C:Cx G A h₀ L env)(r:bw A 1)(jS:(ll,af [.ref la])∈H)(Co:(la,af vs)∈H)(hp:fQ H vs ps)(gK:xS ps)
 (hz:ps.length≤8)(h0:0<ps.length)
 (h:∀t jk,Q (.str (headText ps) t) m ((P,bT fY)::(jk++H))):
 AW (model G.prog G.w) A h₀ L (call (.ref aW.lX) [.ref ll]) Q m ((P,bT fY)::H):=by
 have vf:∀g:Heap,G.K.In g->CodeHd g c P:=λg X=>codeHd_of_K X La.hd
 have d:=La.d
 conv at d in(aO _).body=>whnf
 conv at d in(occs:= *) (aO _).scope=>all_goals whnf
 refine gX (n:=0) (binds:=[(Str.ofString "lists",_)]) C r d (λ_ _ _ _ _=>rfl) rfl λA' g L' C' r'=>?_
 have aP:(10000:Nat)≤sizeLine:=by decide
 have sS:(10:Int)<2^62:=by decide
 walk_at "awa"
 refine dF ?_
 walk_at "awa"
 refine⟨by show(0:Nat)≤sizeLine;exact Nat.zero_le _,λhl=>?_⟩
 walk_at "awa"
 (with_reducible show AW _ _ _ _ (execs (.For _ _ _ _ _::_) _) _ _ _)
 with_reducible refine je ?_
 walk_at "awa"
 refine gZ (.inl (.tail _ (.tail _ jS))) λit=>?_
 refine iN (gw C'.hh) (λi m H'=>∃ws jk,bU ws (if i=0 then[] else[headText ps])∧SubL [(Str.ofString "headers", .ref hl),(Str.ofString "lists", .ref ll)] m∧H'=(hl,af ws)::(P,bT fY)::(jk++H))
  (λi m H' hI=>by refine eX hI λws jk _ _ zr217=>?_;clear hI;subst zr217;exact .inl (.tail _ (.tail _ (List.mem_append_right _ jS)))) ?_ ?_ 0 (Nat.zero_le _) ⟨[],[],bU.nil,by walk_at "aw_subl",rfl⟩
 ·intro i J hJ v m1 H1 hi hv Oe;refine eX Oe λws jk kZ hm zr218=>?_;clear Oe;subst zr218
  obtain rfl:i=0:=by simpa using hi
  obtain rfl:v= .ref la:=by exact(Option.some.inj hv.symm)
  refine bO hm ?_
  refine bQ ?_
  walk_at "awa"
  refine dF ?_
  walk_at "awa"
  refine⟨by show(0:Nat)≤sizeLine;exact @id ((0:Nat)≤sizeLine) (@zU sizeLine),λal=>?_⟩
  walk_at "awa"
  refine bu (.tail (.tail (.tail .head))) ?_
  refine bu (.tail .head) ?_
  (with_reducible show AW _ _ _ _ (execs (.For _ _ _ _ _::_) _) _ _ _)
  with_reducible refine je ?_
  walk_at "awa"
  refine gZ (.inl (.tail _ (.tail _ (.tail _ (.tail _ (List.mem_append_right _ Co)))))) λpC=>?_
  refine iN (gw C'.hh) (λi m H'=>∃us br,bU us ((ps.map fG).take i)∧SubL [(Str.ofString "attr", .ref al),(Str.ofString "headers", .ref hl),(Str.ofString "lists", .ref ll)] m∧H'=(al,af us)::(P,bT fY)::(br++(it,fu ll (0+1))::(hl,af ws)::(jk++H)))
   (λi m H' hI=>by refine eX hI λus br _ _ zr219=>?_;clear hI;subst zr219;exact .inl (.tail _ (.tail _ (List.mem_append_right _ (.tail _ (.tail _ (List.mem_append_right _ Co))))))) ?_ ?_ 0 (Nat.zero_le _) ⟨[],[],bU.nil,by walk_at "aw_subl",rfl⟩
  ·intro i J hJ v m2 H2 hi hv Of;refine eX Of λus br ko dH zr220=>?_;clear Of;subst zr220
   refine bO dH ?_
   rw[hp.1] at hi
   refine cE (hp.2 i _ (List.getElem?_eq_getElem hi)) λtp tk tw e1 e2=>?_
   obtain rfl:v= .ref tp:=by rw[e1] at hv;cases hv;rfl
   refine j3 (gK _ (List.getElem_mem hi)) λjV d hd hw=>?_
   refine cP (Al d hd) λw1 w2 w3=>?_
   generalize lR:ps[i]=p at*
   obtain ⟨nm,wd⟩:=p
   subst hw
   refine oJ C'.hh (.tail _ (.tail _ (.tail _ (List.mem_append_right _ (.tail _ (.tail _ (List.mem_append_right _ e2))))))) ?_
   refine bQ ?_
   walk_at "awa"
   refine bQ ?_
   walk_at "awa"
   dsimp only
   with_reducible refine Rx ?_
   walk_at "awa"
   refine cI C' (eG.n Pt.s6) ?_
   with_reducible refine mT C'.X Pt.s6 LN type_pat_fullmatch ?_
   refine cF ?_
   walk_at "awa"
   with_reducible refine Rg (r:=none) C'.X Pt.s6 (by lia) (Vf w1) (λ_ e=>nomatch e) ?_
   show AW _ _ _ _ _ _ _ _
   walk_at "awa"
   refine cI C' (eG.n Pt.sY) ?_
   with_reducible refine mT C'.X Pt.sY Af Mc ?_
   refine cF ?_
   walk_at "awa"
   refine Fq C' (vf g C'.X) (.tail (.tail .head)) λf=>?_
   walk_at "awa"
   refine F4 C'.X Pt.sY (.head _) (by exact Nat.le_add_left _ _) (by exact Nat.succ_pos _) (yv w2) λjn t1=>?_
   walk_at "awa"
   with_reducible refine Sa (by lia) λt2=>?_
   walk_at "awa"
   have l0:Str.empty.length=0:=rfl
   have l1:(Str.ofString "=").length=1:=by decide
   have l2:(Str.ofString "\"").length=1:=by decide
   have hz1':nm.length≤100:=jV
   with_reducible refine RE ?_
   with_reducible refine A6 ?_
   with_reducible refine Ff ?_
   walk_at "awa"
   refine⟨_,_,rfl,by exact Nat.le_trans ‹_› (by decide),λ_=>?_⟩
   refine⟨_,_,rfl,by simp only [Str.length_append];exact(ln 0x8021104214e203fcc20580130086417e6100802).1 jV l0,?_⟩
   with_reducible refine A6 ?_
   walk_at "awa"
   refine⟨_,_,rfl,by simp only [Str.length_append];exact @(ln 0x100401088210853880ff31040b58033108130086417e6100c03).1 Str.empty.length nm.length ((Str.ofString "=").length) jV l0 l1,?_⟩
   with_reducible refine A6 ?_
   with_reducible refine Ff ?_
   walk_at "awa"
   refine⟨_,_,rfl,by simp only [Str.length_append];exact Nat.le_add_left _ _,λ_=>?_⟩
   refine⟨_,_,rfl,by simp only [Str.length_append];exact @(ln 0x84010040208821084214e203fcc641ad620816b5803318833108130086417e610266411405).1 Str.empty.length nm.length ((Str.ofString "=").length) ((Str.ofString "\"").length) ((word ↑d).length) w3 jV l0 l1 l2,?_⟩
   with_reducible refine RG (by simp only [Str.length_append];lia) λt3=>?_
   rw[KT.empty_app]
   walk_at "awa"
   refine iO (.tail _ (.tail _ (.tail _ (.tail _ (.head _))))) PySem.F.slot_list_append PySem.F.type_list_append ?_
   refine cF ?_
   walk_at "awa"
   have kj:=ko.length
   rw[List.length_take,List.length_map] at kj
   refine bu (.tail (.tail (.tail (.tail .head)))) ?_
   refine jL (by exact @JX us.length sizeLine ps.length i (Min.min i ps.length) hz aP kj (Eq.refl (Min.min i ps.length))) ?_
   with_reducible refine i8 ?_
   refine bu (.tail (.tail (.tail .head))) ?_
   refine bu (.tail .head) ?_
   walk_at "awa"
   refine fU (.tail (.tail (.tail (.tail .head)))) (hJ ⟨_,[_,_]++br,?_,by walk_at "aw_subl",rfl⟩)
   have aC:i<(ps.map fG).length:=by refine aa (List.length_map ..) ?_;exact hi
   refine aa (List.take_succ_eq_append_getElem aC ..) (aa (List.getElem_map ..) (aa (lR ..) ?_))
   exact ko.snoc _ _
  ·intro m2 H2 Og;refine eX Og λus br ko dH zr221=>?_;clear Og;subst zr221
   have kj:=ko.length
   rw[List.length_take,List.length_map,hp.1,Nat.min_self] at kj
   rw[hp.1,show ps.length=(ps.map fG).length by simp,List.take_length] at ko
   refine bO dH ?_
   walk_at "awa"
   refine uI (.head _) (by exact Dp hz kj) ?_
   have bF:(!us.isEmpty)=true:=by cases us with|nil=>simp at kj;exact False.elim (JY h0 kj)|cons=>rfl
   refine aa bF ?_
   walk_at "awa"
   refine iO (.tail _ (.tail _ (List.mem_append_right _ (.tail _ (.head _))))) PySem.F.slot_list_append PySem.F.type_list_append ?_
   refine cF ?_
   walk_at "awa"
   refine ah ko λq zr222 e=>?_;clear ko;subst zr222
   have e':q.map (·.1)=ps.map fG:=e
   have l3:(Str.ofString "; ").length=2:=by decide
   refine x8 q (.inl (.head _)) rfl (by refine aa e' ?_;exact zI (Dz gK) (by refine aa (List.length_map ..) (aa (l3 ..) ?_);exact KU hz)) λt8=>?_
   refine aa e' ?_
   walk_at "awa"
   refine bu (.tail (.tail (aZ.app (.tail .head) br))) ?_
   refine jL (by refine aa kZ.length ?_;exact Nat.zero_le _) ?_
   with_reducible refine i8 ?_
   refine bu (.tail (.tail .head)) ?_
   refine bu (.tail .head) ?_
   walk_at "awa"
   refine fU (.tail (.tail (.tail (aZ.app .head br)))) (hJ ⟨ws++[.str (headText ps) t8],(al,af (strValues q))::(br++jk),?_,by walk_at "aw_subl",by simp[headText]⟩)
   have:=kZ.snoc (headText ps) t8
   assumption
 ·intro m1 H1 Oh;refine eX Oh λws jk kZ hm zr223=>?_;clear Oh;subst zr223
  refine bO hm ?_
  walk_at "awa"
  refine ah kZ λq zr224 e=>?_;clear kZ;subst zr224
  have e':q.map (·.1)=[headText ps]:=e
  refine bu (.tail .head) ?_
  refine x8 q (.inl (.tail _ (.head _))) rfl (by refine aa e' ?_;exact zI (B:=1000) (λx hx=>by refine aa (List.mem_singleton.mp hx) ?_;exact Wt gK hz) (by refine aa List.length_singleton (aa (show(Str.ofString ", ").length=2 by decide) ?_);exact Nat.le_add_left _ _)) λt9=>?_
  refine aa e' ?_
  walk_at "awa"
  exact h t9 ((hl,_)::jk)
end
end
section
open PySem.Builtin PySem.Builtin.Re PySem.Sre
section
variable {prog:Program}{w:World}{A:Around}{h₀:Heap}{L:Addr}{m:Loc}{H:Led}{env:Env}{Q:Value->Loc->Led->Prop}
theorem Tc
 (h:AW (model prog w) A h₀ L (eval value env) (λo m H=>AW (model prog w) A h₀ L (eval lower env) (λvl m H=>∃x t i u,o= .str x t∧vl= .int i u∧x.length≤sizeLine∧∀t',Q (.str (Txt.slice x (some i) none) t') m H) m H) m H)
 (hs:∀x t sl,subscripted (.Slice (some lower) none none p) false (.str x t) (.ref sl)=operate [.ref sl, .str x t] (getItem (.str x t) (.ref sl)):=by intro _ _ _;with_unfolding_all rfl)
 (ht:∀x t r,letTemporaryGo value (.str x t) r=pure ():=by intro _ _ _;with_unfolding_all rfl):AW (model prog w) A h₀ L (eval (.Subscript value (.Slice (some lower) none none p) pos) env) Q m H:=λs R E S k=>
 Subscript_ (h s _ E S λo m1 H1 h1 aX S1 q1=>wpAny_Slice (q1 _ _ E S1 λvl m2 H2 h2 bC S2 q2=>evalPart_none_step (evalPart_none_step (by
  refine Ar q2 λx t i u zr333 zr334 hz q=>?_;clear q2;subst zr333;subst zr334
  exact tail_of_ItemOn (SBH.sliceItem_sn (P:=λh=>St h₀ L h m2 H2) zJ S2 (λh' t' k' S3=>k _ m2 H2 _ _ S3 (q t')) hz) (hs _ _ _) (ht _ _)))))
theorem SY
 (h:AW (model prog w) A h₀ L (eval value env) (λo m H=>AW (model prog w) A h₀ L (eval upper env) (λvl m H=>∃x t i u,o= .str x t∧vl= .int i u∧x.length≤sizeLine∧∀t',Q (.str (Txt.slice x none (some i)) t') m H) m H) m H)
 (hs:∀x t sl,subscripted (.Slice none (some upper) none p) false (.str x t) (.ref sl)=operate [.ref sl, .str x t] (getItem (.str x t) (.ref sl)):=by intro _ _ _;with_unfolding_all rfl)
 (ht:∀x t r,letTemporaryGo value (.str x t) r=pure ():=by intro _ _ _;with_unfolding_all rfl):AW (model prog w) A h₀ L (eval (.Subscript value (.Slice none (some upper) none p) pos) env) Q m H:=λs R E S k=>
 Subscript_ (h s _ E S λo m1 H1 h1 aX S1 q1=>wpAny_Slice (evalPart_none_step (q1 _ _ E S1 λvl m2 H2 h2 bC S2 q2=>evalPart_none_step (by
  refine Ar q2 λx t i u zr335 zr336 hz q=>?_;clear q2;subst zr335;subst zr336
  exact tail_of_ItemOn (SBH.sliceItem_ns (P:=λh=>St h₀ L h m2 H2) zJ S2 (λh' t' k' S3=>k _ m2 H2 _ _ S3 (q t')) hz) (hs _ _ _) (ht _ _)))))
end
section
variable {G:Gx}{A:Around}{h₀:Heap}{L:Addr}{m:Loc}{H:Led}{env:Env}{aW:eu}{pd:jb}{x y:Str}{t u:Tok}{Q:Value->Loc->Led->Prop}
theorem F9 (T:aT G.K aW)(C:Cx G A h₀ L env)(r:bw A 1)(hm:(ma,lI x tp)∈H)(ht:(tp,bf (rawInt b::rawInt e::sp))∈H)(hz:x.length≤5000)
 (h:∀t jk,Q (.str (Txt.slice x none (some (b:Int))++Txt.slice x (some (e:Int)) none) t) m (jk::H)):
 AW (model G.prog G.w) A h₀ L (call (.ref aW.n5) [.ref ma]) Q m H:=by
 refine xE T.n5.d λbg d=>?_
 conv at d in(aO _).body=>whnf
 conv at d in(occs:= *) (aO _).scope=>all_goals whnf
 refine gX (n:=0) (binds:=[(Str.ofString "match",_)]) C r d (λ_ _ _ _ _=>rfl) rfl λA' g L' C' r'=>?_
 have aP:(100000:Nat)≤sizeLine:=by decide
 (with_reducible show AW _ _ _ _ (execs (.Assign [.Tuple _ _ _] _ _::_) _) _ _ _)
 with_reducible refine yd ?_
 walk_at "awa"
 refine A7 hm LM type_mat_span ?_
 refine cF ?_
 walk_at "awa"
 refine Tg hm ht λr1 t1 t2=>?_
 refine oJ C'.hh (.head _) ?_
 refine bQ ?_
 walk_at "awa"
 refine bQ ?_
 walk_at "awa"
 refine SY ?_
 refine Fx ?_
 walk_at "awa"
 refine⟨_,_,_,rfl, .tail _ hm,λ_=>?_⟩
 walk_at "awa"
 refine⟨_,_,_,_,rfl,rfl,by exact Nat.le_trans ‹_› (by decide),λ_=>?_⟩
 refine Tc ?_
 refine Fx ?_
 walk_at "awa"
 refine⟨_,_,_,rfl, .tail _ hm,λ_=>?_⟩
 walk_at "awa"
 refine⟨_,_,_,_,rfl,rfl,by exact @(ln 0x21088210840008c35013f3013881fe6000802).1 x.length sizeLine hz aP,λ_=>?_⟩
 have l1:=Txt.slice_le x none (some (b:Int))
 have l2:=Txt.slice_le x (some (e:Int)) none
 with_reducible refine p6 (by lia) λ_=>?_
 walk_at "awa"
 exact h _ _
end
end
section
open PySem.Builtin PySem.Builtin.Re PySem.Sre
structure rJ (code:Array Nat)(n s:Nat)(m:M):Prop where
 mZ:m.code=code
 pc:m.pc=5
 pos:m.pos=s
 fr:∃o,m.frames=[{wait:= .nextStart,pc:=5,pos:=s,outermost:=o}]
 EY:m.answer=none
 out:m.outcome=none
 last:m.lastStart=n
 wt:m.weight=1
noncomputable def lD (code:Array Nat):Prop:=code.getD 5 0=6∧code.getD 6 0=0∧5<code.size∧code.getD 0 0=14∧code.getD 2 0=0
theorem p5:lD (aS 18):=by unfold lD;decide+kernel
theorem uz:lD (aS 16):=by unfold lD;decide+kernel
theorem EV:lD (aS 19):=by unfold lD;decide+kernel
theorem EW {code:Array Nat}{n s:Nat}{m:M}(hc:lD code)(h:rJ code n s m)(hs:0<s):∃sn,m.step={m with seen:=sn,answer:=some false}:=by
 refine wW hc λc1 c2 c3 c4 c5=>?_;clear hc
 obtain ⟨h1,h2,h3,⟨o,h4⟩,h5,h6,h7,h8⟩:=h
 unfold M.step
 refine aa h6 (aa h5 (aa h4 ?_))
 simp only [Option.isSome_none,Bool.false_eq_true,if_false]
 refine aa h1 (aa h2 (aa (if_pos c3) ?_))
 unfold M.exec
 have w0:m.word 0=6:=by unfold M.word;refine aa h1 (aa h2 ?_);exact c1
 have w1:m.word 1=0:=by unfold M.word;refine aa h1 (aa h2 ?_);exact c2
 refine aa w0 ?_
 have ha:∀sn,M.isAt ({m with seen:=sn}:M) (M.word ({m with seen:=sn}:M) 1)= .ok false:=by
  intro sn
  show M.isAt _ (m.word 1)=_
  refine aa w1 ?_
  unfold M.isAt
  dsimp only
  refine aa h3 ?_
  have:(s==0)=false:=by simp;exact Nat.ne_of_gt ‹_›
  refine aa this ?_
  rfl
 refine aa (show ops[6]?=some Op.AT from rfl) ?_
 dsimp only
 refine aa (ha ..) ?_
 dsimp only
 refine aa (if_neg (by decide)) ?_
 refine⟨?sn,?_⟩
 rotate_left
 unfold M.say
 have w1':M.word ({m with seen:=m.seen.add 6}:M) 1=m.word 1:=rfl
 simp only [h1,h2,h4,h5,h6]
 rfl
theorem EX {code:Array Nat}{n s:Nat}{m:M}(hc:lD code)(h:rJ code n s m)(sn:Sre.Seen):
 if s<n then rJ code n (s+1) (M.step {m with seen:=sn,answer:=some false}) else(M.runFor 2 {m with seen:=sn,answer:=some false}).outcome=some .failed:=by
 refine wW hc λc1 c2 c3 c4 c5=>?_;clear hc
 obtain ⟨h1,h2,h3,⟨o,h4⟩,h5,h6,h7,h8⟩:=h
 obtain ⟨mZ,text,lim,start,lastStart,wholeText,mustAdvance,pc,pos,handed,outermost,marks,lastmark,lastindex,loops,inner,frames,weight,answer,seen,outcome⟩:=m
 dsimp only at h1 h2 h3 h4 h5 h6 h7 h8
 subst h1 h2 h3 h4 h5 h6 h7 h8
 have WM:∀m:M,m.code=mZ->M.hasFirstSet m=false:=by
  intro m e
  unfold M.hasFirstSet
  refine aa e (aa c4 (aa c5 ?_));rfl
 split
 ·rename_i aC
  have e:M.step ⟨mZ,text,lim,start,lastStart,wholeText,mustAdvance,5,pos,handed,outermost,marks,lastmark,lastindex,loops,inner,[{wait:= .nextStart,pc:=5,pos:=pos,outermost:=o}],1,some false,sn,none⟩=
   ({code:=mZ,text,lim,start,lastStart,wholeText,mustAdvance:=false,pc:=5,pos,handed,outermost:=o,marks,lastmark,lastindex,loops,inner,frames:=[],weight:=1-(1+0),answer:=none,seen:=sn,outcome:=none}:M).attemptFrom (pos+1) false:=by
   show(if pos<lastStart then _ else _)=_
   refine aa (if_pos aC) ?_
   rfl
  show rJ _ _ _ (M.step ⟨mZ,text,lim,start,lastStart,wholeText,mustAdvance,5,pos,handed,outermost,marks,lastmark,lastindex,loops,inner,[{wait:= .nextStart,pc:=5,pos:=pos,outermost:=o}],1,some false,sn,none⟩)
  refine aa e ?_
  unfold M.attemptFrom
  refine aa (WM _ rfl) ?_
  simp only [Bool.not_false,if_true]
  unfold M.attemptAt M.attempt
  dsimp only
  refine aa (if_neg (by decide)) ?_
  exact⟨rfl,rfl,rfl,⟨_,rfl⟩,rfl,rfl,rfl,rfl⟩
 ·rename_i o4
  have e:M.step ⟨mZ,text,lim,start,lastStart,wholeText,mustAdvance,5,pos,handed,outermost,marks,lastmark,lastindex,loops,inner,[{wait:= .nextStart,pc:=5,pos:=pos,outermost:=o}],1,some false,sn,none⟩=
   ({code:=mZ,text,lim,start,lastStart,wholeText,mustAdvance,pc:=5,pos,handed,outermost:=o,marks,lastmark,lastindex,loops,inner,frames:=[],weight:=1-(1+0),answer:=some false,seen:=sn,outcome:=none}:M):=by
   show(if pos<lastStart then _ else _)=_
   refine aa (if_neg o4) ?_
   rfl
  show(M.runFor 2 ⟨mZ,text,lim,start,lastStart,wholeText,mustAdvance,5,pos,handed,outermost,marks,lastmark,lastindex,loops,inner,[{wait:= .nextStart,pc:=5,pos:=pos,outermost:=o}],1,some false,sn,none⟩).outcome=_
  refine aa (nU _ _ rfl) (aa e (aa (nU _ _ rfl) ?_))
  rfl
theorem EU {code:Array Nat}{n:Nat}(hc:lD code):∀(d s:Nat) (m:M),rJ code n s m->0<s->s+d=n->∃k,k≤2*d+3∧(M.runFor k m).outcome=some .failed
 |0,s,m,h,hs,e=>by
  refine xE (EW hc h hs) λsn e1=>?_
  have h2:=EX hc h sn
  rw[if_neg (by exact(ln 0x40110421004c104c0b10402).1 e)] at h2
  exact⟨3,by exact Nat.lt_succ_self _,by refine aa (nU _ _ h.out) (aa e1 ?_);exact h2⟩
 |d+1,s,m,h,hs,e=>by
  refine xE (EW hc h hs) λsn e1=>?_
  have h2:=EX hc h sn
  rw[if_pos (by exact Kf e)] at h2
  refine ah (EU hc d (s+1) _ h2 (by exact Nat.succ_pos _) (by exact Kn e)) λk hk hf=>?_
  exact⟨k+2,by exact Nat.add_le_add_right ‹_› _,by refine aa (nU _ _ h.out) (aa e1 (aa (nU k {m with seen:=sn,answer:=some false} h.out) ?_));exact hf⟩
end
section
open PySem.Builtin PySem.Builtin.Re PySem.Sre
theorem run_spec {code text:Array Nat}{i:Nat}(acc:Nat->Bool)(sf:∀c seen,∃nW,accepts code i c seen= .ok (acc c,nW)):
 ∀(n p f:Nat) (seen:Sre.Seen) (k:Nat),(∀j,j<k->acc (text.getD (p+j) 0)=true)->(k=n∨(k<n∧acc (text.getD (p+k) 0)=false))->∃nW,Sre.run code text i n p f seen= .ok (f+k,nW)
 |0,p,f,seen,k,h1,h2=>by
  obtain rfl:k=0:=by lia
  exact⟨seen,rfl⟩
 |n+1,p,f,seen,k,h1,h2=>by
  refine xE (sf (text.getD p 0) seen) λs1 e=>?_
  unfold Sre.run
  refine aa e ?_
  cases k with
  |zero=>
   have h3:acc (text.getD p 0)=false:=by rcases h2 with h|h;exact False.elim (KA h);exact h.2
   refine aa h3 ?_
   exact⟨s1,rfl⟩
  |succ k=>
   have h3:acc (text.getD p 0)=true:=by exact h1 0 (by exact Nat.succ_pos _)
   refine aa h3 ?_
   refine xE (run_spec acc sf n (p+1) (f+1) s1 k (λj hj=>by have:=h1 (j+1) (by exact Nat.add_lt_add_right ‹_› _);rwa [show p+(j+1)=p+1+j by simp+arith] at this) (by
    rcases h2 with h|h
    ·exact .inl (by exact Nat.succ.inj ‹_›)
    ·refine .inr ⟨by exact KC h.1,?_⟩
     have:=h.2
     rwa [show p+(k+1)=p+1+k by exact Kg] at this)) λs2 e2=>?_
   refine⟨s2,?_⟩
   refine aa (show f+(k+1)=f+1+k by lia) ?_
   exact e2
end
section
open PySem.Builtin PySem.Builtin.Re PySem.Sre
noncomputable def jK (r r':Except String (Bool×Sre.Seen)):Prop:=(∃e,r= .error e∧r'= .error e)∨∃b t t',r= .ok (b,t)∧r'= .ok (b,t')
theorem jK.err (e:String):jK (.error e) (.error e):= .inl ⟨e,rfl,rfl⟩
theorem jK.ok (b:Bool)(t t':Sre.Seen):jK (.ok (b,t)) (.ok (b,t')):= .inr ⟨b,t,t',rfl,rfl⟩
theorem jK.ite [Decidable c](h:jK x x')(k:jK y y'):jK (if c then x else y) (if c then x' else y'):=by
 by_cases q:c
 ·refine aa (if_pos q) (aa (if_pos q) ?_);exact h
 ·refine aa (if_neg q) (aa (if_neg q) ?_);exact k
theorem jK.cat {r:Except String Bool}{b:Bool}{t t':Sre.Seen}{x x':Except String (Bool×Sre.Seen)}(h:jK x x'):jK (do if<-r then pure (b,t) else x) (do if<-r then pure (b,t') else x'):=by
 cases r with
 |error e=>exact .err e
 |ok q=>cases q with
  |true=>exact .ok b t t'
  |false=>exact h
set_option smartUnfolding false in
theorem Jw (code:Array Nat)(c:Nat):∀(fuel i:Nat) (yes:Bool) (s s':Sre.Seen),jK (inSet code c fuel i yes s) (inSet code c fuel i yes s')
 |0,_,_,_,_=> .err _
 |fuel+1,i,yes,s,s'=>by
  have ih:=Jw code c fuel
  delta inSet
  conv=>arg 1;whnf
  conv=>arg 2;whnf
  cases ops[code.getD (i+0) 0]? with
  |none=>exact .err _
  |some op=>cases op<;>first|exact .err _|exact .ok _ _ _|exact ih _ _ _ _|exact .ite (.ok _ _ _) (ih _ _ _ _)|exact .cat (ih _ _ _ _)
noncomputable def fz (code:Array Nat)(i c:Nat):Option Bool:=match accepts code i c {} with| .ok (b,_)=>some b| .error _=>none
theorem ES {code:Array Nat}{i c:Nat}{b:Bool}(h:fz code i c=some b)(seen:Sre.Seen):∃t,accepts code i c seen= .ok (b,t):=by
 have key:jK (accepts code i c {}) (accepts code i c seen):=by
  unfold accepts
  dsimp only
  cases ops[code.getD i 0]? with
  |none=>exact .err _
  |some op=>cases op<;>first|exact .err _|exact .ok _ _ _|exact Jw _ _ _ _ _ _ _
 unfold fz at h
 rcases key with⟨e,e1,e2⟩|⟨b',t,t',e1,e2⟩
 ·rw[e1] at h;cases h
 ·rw[e1] at h;cases h;exact⟨_,e2⟩
theorem nV {code text:Array Nat}{i:Nat}:∀(n p f:Nat) (seen:Sre.Seen) (k:Nat),(∀j,j<k->fz code i (text.getD (p+j) 0)=some true)->(k=n∨(k<n∧fz code i (text.getD (p+k) 0)=some false))->∃nW,Sre.run code text i n p f seen= .ok (f+k,nW)
 |0,p,f,seen,k,h1,h2=>by
  obtain rfl:k=0:=by lia
  exact⟨seen,rfl⟩
 |n+1,p,f,seen,k,h1,h2=>by
  unfold Sre.run
  cases k with
  |zero=>
   have h3:fz code i (text.getD p 0)=some false:=by rcases h2 with h|h;exact False.elim (KA h);exact h.2
   refine xE (ES h3 seen) λs1 e=>?_
   refine aa e ?_
   exact⟨s1,rfl⟩
  |succ k=>
   have h3:fz code i (text.getD p 0)=some true:=by exact h1 0 (by exact Nat.succ_pos _)
   refine xE (ES h3 seen) λs1 e=>?_
   refine aa e ?_
   refine xE (nV n (p+1) (f+1) s1 k (λj hj=>by have:=h1 (j+1) (by exact Nat.add_lt_add_right ‹_› _);rwa [show p+(j+1)=p+1+j by simp+arith] at this) (by
    rcases h2 with h|h
    ·exact .inl (by exact Nat.succ.inj ‹_›)
    ·refine .inr ⟨by exact KC h.1,?_⟩
     have:=h.2
     rwa [show p+(k+1)=p+1+k by exact Kg] at this)) λs2 e2=>?_
   refine⟨s2,?_⟩
   refine aa (show f+(k+1)=f+1+k by lia) ?_
   exact e2
noncomputable def bJ (groups:Nat)(iI:M)(k:Nat):Option kL->Prop
 |none=>∃n,n≤k∧(M.runFor n iI).outcome=some .failed
 |some r=>∃n,n≤k∧(M.runFor n iI).outcome=some .matched∧(M.runFor n iI).start=r.b∧(M.runFor n iI).handed=r.e∧uu groups (M.runFor n iI)=r.sp∧ux groups (M.runFor n iI)=false
theorem bJ.ends (h:bJ groups m k r)(hk:k≤2^62):Ends groups m r:=by
 cases r with
 |none=>refine ah h λn h1 h2=>?_;clear h;exact⟨n,by exact Nat.le_trans ‹_› ‹_›,h2⟩
 |some r=>refine ah h λn h1 h2=>?_;clear h;exact⟨n,by exact(ln 0x1084410848000000000000000dfcc00080040000000000000006fe6100802).1 hk h1,h2⟩
theorem bJ.le (h:bJ groups m k r)(hk:k≤k'):bJ groups m k' r:=by
 cases r with
 |none=>refine ah h λn h1 h2=>?_;clear h;exact⟨n,by exact Nat.le_trans ‹_› ‹_›,h2⟩
 |some r=>refine ah h λn h1 h2=>?_;clear h;exact⟨n,by exact(ln 0x42110421080020002200803).1 hk h1,h2⟩
theorem bJ.step (ho:m.outcome=none)(h:bJ groups m.step k r):bJ groups m (k+1) r:=by
 cases r with
 |none=>refine ah h λn h1 h2=>?_;clear h;exact⟨n+1,by exact Nat.lt_add_one_of_le ‹_›,by refine aa (nU _ _ ho) ?_;exact h2⟩
 |some r=>refine ah h λn h1 h2=>?_;clear h;exact⟨n+1,by exact(ln 0x844108661586605802000402).1 h1,by refine aa (nU _ _ ho) ?_;exact h2⟩
noncomputable abbrev KM (code text:Array Nat)(lim ls start pc pos handed:Nat)(om:Bool)(marks:Array (Option Nat))(lm li:Int)(loops:Array Loop)(inner:Option Nat)(fr:List Sre.Frame)(w:Nat)(EY:Option Bool)(sn:Sre.Seen):M:=
 ⟨code,text,lim,start,ls,false,false,pc,pos,handed,om,marks,lm,li,loops,inner,fr,w,EY,sn,none⟩
section
variable {groups:Nat}{code text:Array Nat}{lim ls start pc pos handed:Nat}{om:Bool}{marks:Array (Option Nat)}{lm li:Int}{loops:Array Loop}{inner:Option Nat}{fr:List Sre.Frame}{w:Nat}{sn:Sre.Seen}{r:Option kL}{k:Nat}
theorem nc (ho:m.outcome=none)(ha:m.answer=none)(hp:m.pc<m.code.size)(h:bJ groups m.exec k r):bJ groups m (k+1) r:=by
 refine bJ.step ho ?_
 have e:m.step=m.exec:=by
  unfold M.step
  rw[ho,ha,if_pos hp]
  rfl
 refine aa e ?_;exact h
theorem yt (hp:pc<code.size)(h0:code.getD pc 0=6)(h1:code.getD (pc+1) 0=0)
 (h:∀sn,bJ groups (KM code text lim ls start (pc+2) 0 handed om marks lm li loops inner fr w none sn) k r):bJ groups (KM code text lim ls start pc 0 handed om marks lm li loops inner fr w none sn) (k+1) r:=by
 refine nc rfl rfl hp ?_
 have w0:M.word (KM code text lim ls start pc 0 handed om marks lm li loops inner fr w none sn) 0=6:=h0
 have w1:M.word (KM code text lim ls start pc 0 handed om marks lm li loops inner fr w none (sn.add 6)) 1=0:=h1
 unfold M.exec
 refine aa w0 ?_
 refine aa (show ops[6]?=some Op.AT from rfl) ?_
 dsimp only
 refine aa w1 ?_
 exact h _
theorem uO (hp:pc<code.size)(h0:code.getD pc 0=17)(h1:code.getD (pc+1) 0=i)
 (hm:∀sn:Sre.Seen,M.mark (KM code text lim ls start pc pos handed om marks lm li loops inner fr w none sn) i=KM code text lim ls start (pc+2) pos handed om marks' tC tg loops inner fr w none sn)
 (h:∀sn,bJ groups (KM code text lim ls start (pc+2) pos handed om marks' tC tg loops inner fr w none sn) k r):bJ groups (KM code text lim ls start pc pos handed om marks lm li loops inner fr w none sn) (k+1) r:=by
 refine nc rfl rfl hp ?_
 have w0:M.word (KM code text lim ls start pc pos handed om marks lm li loops inner fr w none sn) 0=17:=h0
 have w1:M.word (KM code text lim ls start pc pos handed om marks lm li loops inner fr w none (sn.add 17)) 1=i:=h1
 unfold M.exec
 refine aa w0 ?_
 refine aa (show ops[17]?=some Op.MARK from rfl) ?_
 dsimp only
 refine aa w1 ?_
 have:=hm (sn.add 17)
 unfold KM at this
 refine aa this ?_
 exact h _
theorem qg (hp:pc<code.size)(h0:code.getD pc 0=24)(hi:inner=none)(fD:pos+n≤lim)(hw:w+1≤16777216)(nE:code.getD (pc+2) 0≤n)
 (CB:∀seen,∃nW,Sre.run code text (pc+4) (min (code.getD (pc+3) 0) (lim-pos)) pos 0 seen= .ok (n,nW))
 (h:∀sn w',w'=w+1->bJ groups (KM code text lim ls start (pc+1+code.getD (pc+1) 0) (pos+n) (pos+n) om marks lm li loops inner ({wait:= .giveBack,pc:=pc,pos:=pos+n,outermost:=om,count:=n,kept:={lastmark:=lm,lastindex:=li,whole:=false,marks:= #[]}}::fr) w' none sn) k r):
 bJ groups (KM code text lim ls start pc pos handed om marks lm li loops inner fr w none sn) (k+1) r:=by
 subst hi
 refine nc rfl rfl hp ?_
 have w0:M.word (KM code text lim ls start pc pos handed om marks lm li loops none fr w none sn) 0=24:=h0
 unfold M.exec
 refine aa w0 ?_
 refine aa (show ops[24]?=some Op.REPEAT_ONE from rfl) ?_
 dsimp only
 have hr:((lim:Int)-pos).toNat=lim-pos:=by simp
 refine xE (CB ((sn.add 24).add (code.getD (pc+4) 0))) λnW e=>?_
 have lT:∀q:Sre.Seen,M.word (KM code text lim ls start pc pos handed om marks lm li loops none fr w none q) 2=code.getD (pc+2) 0:=λ_=>rfl
 have vN:∀q:Sre.Seen,M.word (KM code text lim ls start pc pos handed om marks lm li loops none fr w none q) 3=code.getD (pc+3) 0:=λ_=>rfl
 have vO:∀q:Sre.Seen,M.word (KM code text lim ls start pc pos handed om marks lm li loops none fr w none q) 4=code.getD (pc+4) 0:=λ_=>rfl
 unfold KM at lT vN vO
 refine aa (lT ..) (aa (vN ..) (aa (vO ..) ?_))
 refine aa (if_neg (by exact @(ln 0x4211042113c2f03d8430c4000c2b00804).1 lim pos (code.getD (pc+2) 0) n fD nE)) (aa hr ?_)
 simp only [Bool.false_eq_true,if_false]
 refine aa e ?_
 dsimp only
 refine aa (if_neg (by exact Nat.not_lt.mpr ‹_›)) ?_
 unfold M.afterRun M.attempt M.frame M.keep
 simp only [Option.isSome_none,Bool.false_eq_true,if_false]
 refine aa (if_neg (by show¬(w+1+0>16777216);exact Nat.not_lt.mpr ‹_›)) ?_
 exact h _ _ rfl
theorem Vc (hp:pc<code.size)(h0:code.getD pc 0=24)(fD:pos+n≤lim)(nE:n<code.getD (pc+2) 0)
 (CB:∀seen,∃nW,Sre.run code text (pc+4) (min (code.getD (pc+3) 0) (lim-pos)) pos 0 seen= .ok (n,nW))
 (h:∀sn,bJ groups (KM code text lim ls start pc pos handed om marks lm li loops inner fr w (some false) sn) k r):
 bJ groups (KM code text lim ls start pc pos handed om marks lm li loops inner fr w none sn) (k+1) r:=by
 refine nc rfl rfl hp ?_
 have w0:M.word (KM code text lim ls start pc pos handed om marks lm li loops inner fr w none sn) 0=24:=h0
 unfold M.exec
 refine aa w0 ?_
 refine aa (show ops[24]?=some Op.REPEAT_ONE from rfl) ?_
 dsimp only
 have hr:((lim:Int)-pos).toNat=lim-pos:=by exact(ln 0x800008022004010002208401004011002000001104200000100440080200844108000080220040100022084231082f03d826040350804).1 rfl rfl
 refine xE (CB ((sn.add 24).add (code.getD (pc+4) 0))) λnW e=>?_
 have lT:∀q:Sre.Seen,M.word (KM code text lim ls start pc pos handed om marks lm li loops inner fr w none q) 2=code.getD (pc+2) 0:=λ_=>rfl
 have vN:∀q:Sre.Seen,M.word (KM code text lim ls start pc pos handed om marks lm li loops inner fr w none q) 3=code.getD (pc+3) 0:=λ_=>rfl
 have vO:∀q:Sre.Seen,M.word (KM code text lim ls start pc pos handed om marks lm li loops inner fr w none q) 4=code.getD (pc+4) 0:=λ_=>rfl
 unfold KM at lT vN vO
 refine aa (lT ..) (aa (vN ..) (aa (vO ..) ?_))
 by_cases hb:((code.getD (pc+2) 0:Nat):Int)>(lim:Int)-pos
 ·refine aa (if_pos hb) ?_
  exact h _
 refine aa (if_neg hb) (aa hr ?_)
 simp only [Bool.false_eq_true,if_false]
 refine aa e ?_
 dsimp only
 refine aa (if_pos nE) ?_
 exact h _
theorem BF (hp:pc<code.size)(h0:code.getD pc 0=16)(h1:code.getD (pc+1) 0=c)(hl:pos<lim)(hc:text.getD pos 0=c)
 (h:∀sn,bJ groups (KM code text lim ls start (pc+2) (pos+1) handed om marks lm li loops inner fr w none sn) k r):bJ groups (KM code text lim ls start pc pos handed om marks lm li loops inner fr w none sn) (k+1) r:=by
 refine nc rfl rfl hp ?_
 have w0:M.word (KM code text lim ls start pc pos handed om marks lm li loops inner fr w none sn) 0=16:=h0
 unfold M.exec
 refine aa w0 ?_
 refine aa (show ops[16]?=some Op.LITERAL from rfl) ?_
 dsimp only
 refine aa (if_neg (by exact Nat.not_le.mpr ‹_›)) ?_
 have ea:∀q,accepts code pc (text.getD pos 0) q= .ok (true,q):=by
  intro q
  unfold accepts
  dsimp only
  refine aa h0 (aa h1 (aa hc ?_))
  show Except.ok (c==c,q)=_
  simp
 have ew:itemWidth code pc=2:=by
  unfold itemWidth;refine aa h0 ?_;rfl
 refine aa (ea ..) ?_
 dsimp only
 refine aa ew ?_
 exact h _
theorem U9 (hp:pc<code.size)(h0:code.getD pc 0=16)(h1:code.getD (pc+1) 0=c)(hc:text.getD pos 0≠c)
 (h:∀sn,bJ groups (KM code text lim ls start pc pos handed om marks lm li loops inner fr w (some false) sn) k r):bJ groups (KM code text lim ls start pc pos handed om marks lm li loops inner fr w none sn) (k+1) r:=by
 refine nc rfl rfl hp ?_
 have w0:M.word (KM code text lim ls start pc pos handed om marks lm li loops inner fr w none sn) 0=16:=h0
 unfold M.exec
 refine aa w0 ?_
 refine aa (show ops[16]?=some Op.LITERAL from rfl) ?_
 dsimp only
 by_cases hl:pos≥lim
 ·refine aa (if_pos hl) ?_;exact h _
 refine aa (if_neg hl) ?_
 have ea:∀q,accepts code pc (text.getD pos 0) q= .ok (false,q):=by
  intro q
  unfold accepts
  dsimp only
  refine aa h0 (aa h1 ?_)
  show Except.ok (text.getD pos 0==c,q)=_
  exact aa (beq_eq_false_iff_ne.mpr hc) rfl
 refine aa (ea ..) ?_
 exact h _
theorem BH (hp:pc<code.size)(h0:code.getD pc 0=1)
 (h:∀sn,bJ groups (KM code text lim ls start pc pos pos om marks lm li loops inner fr w (some true) sn) k r):bJ groups (KM code text lim ls start pc pos handed om marks lm li loops inner fr w none sn) (k+1) r:=by
 refine nc rfl rfl hp ?_
 have w0:M.word (KM code text lim ls start pc pos handed om marks lm li loops inner fr w none sn) 0=1:=h0
 unfold M.exec
 refine aa w0 ?_
 refine aa (show ops[1]?=some Op.SUCCESS from rfl) ?_
 dsimp only
 refine aa (if_neg (by simp)) ?_
 exact h _
end
end
section
open PySem.Builtin PySem.Builtin.Re PySem.Sre
section
variable {groups:Nat}{code text:Array Nat}{lim ls start pc pos handed:Nat}{om:Bool}{marks:Array (Option Nat)}{lm li:Int}{loops:Array Loop}{inner:Option Nat}{fr:List Sre.Frame}{w:Nat}{sn:Sre.Seen}{r:Option kL}{k:Nat}
theorem nh (hf:f.wait= .giveBack∨f.wait= .nextStart)
 (h:∀w',bJ groups (KM code text lim ls start f.pc f.pos handed f.outermost marks lm li loops inner fr w' (some true) sn) k r):bJ groups (KM code text lim ls start pc pos handed om marks lm li loops inner (f::fr) w (some true) sn) (k+1) r:=by
 refine bJ.step rfl ?_
 unfold M.step
 dsimp only
 refine aa (if_neg (by simp)) ?_
 unfold M.resume
 obtain ⟨wait,r5,yy,yx,fc,fk,fl,fb⟩:=f
 dsimp only at hf ⊢
 rcases hf with hf|hf
 ·subst hf
  exact h _
 ·subst hf
  exact h _
theorem Ve (hf:f.wait= .maxTail)
 (h:∀w',bJ groups (KM code text lim ls start f.pc f.pos handed f.outermost marks lm li loops (some f.loop) fr w' (some true) sn) k r):bJ groups (KM code text lim ls start pc pos handed om marks lm li loops inner (f::fr) w (some true) sn) (k+1) r:=by
 refine bJ.step rfl ?_
 unfold M.step
 dsimp only
 refine aa (if_neg (by simp)) ?_
 unfold M.resume
 obtain ⟨wait,r5,yy,yx,fc,fk,fl,fb⟩:=f
 dsimp only at hf ⊢
 subst hf
 exact h _
theorem Vd (hf:f.wait= .closeLoop)
 (h:∀w' lp Jy,bJ groups (KM code text lim ls start f.pc f.pos handed f.outermost marks lm li lp Jy fr w' (some true) sn) k r):bJ groups (KM code text lim ls start pc pos handed om marks lm li loops inner (f::fr) w (some true) sn) (k+1) r:=by
 refine bJ.step rfl ?_
 unfold M.step
 dsimp only
 refine aa (if_neg (by simp)) ?_
 unfold M.resume
 obtain ⟨wait,r5,yy,yx,fc,fk,fl,fb⟩:=f
 dsimp only at hf ⊢
 subst hf
 exact h _ _ _
theorem BE (hs:uu groups (KM code text lim ls start pc pos handed om marks lm li loops inner [] w (some true) sn)=sp)
 (hw:ux groups (KM code text lim ls start pc pos handed om marks lm li loops inner [] w (some true) sn)=false):bJ groups (KM code text lim ls start pc pos handed om marks lm li loops inner [] w (some true) sn) 1 (some ⟨start,handed,sp⟩):=
 ⟨1,Nat.le_refl _,rfl,rfl,rfl,hs,hw⟩
theorem Va {f:Sre.Frame}(hf:f.wait= .giveBack)(hc:f.count-1<(code.getD (f.pc+2) 0:Nat))(hk:f.kept.whole=false)
 (h:bJ groups (KM code text lim ls start f.pc f.pos handed f.outermost marks f.kept.lastmark f.kept.lastindex loops inner fr (w-(1+f.kept.marks.size)) (some false) sn) k r):bJ groups (KM code text lim ls start pc pos handed om marks lm li loops inner (f::fr) w (some false) sn) (k+1) r:=by
 refine bJ.step rfl ?_
 unfold M.step
 dsimp only
 refine aa (if_neg (by simp)) ?_
 unfold M.resume
 obtain ⟨wait,r5,yy,yx,fc,⟨k1,k2,k3,k4⟩,fl,fb⟩:=f
 dsimp only at hf hc hk ⊢
 subst hf hk
 dsimp only
 refine aa (if_neg (by simp)) ?_
 have:∀q:M,q.code=code->q.pc=r5->(q.word 2:Int)=(code.getD (r5+2) 0:Nat):=by
  intro q e1 e2;unfold M.word;exact aa e1 (aa e2 rfl)
 refine aa (if_pos (by rw[this _ rfl rfl];exact hc)) ?_
 exact h
theorem HM {m:M}(h0:m.code.getD 0 0=14)(h2:m.code.getD 2 0=0):m.hasFirstSet=false:=by
 unfold M.hasFirstSet;refine aa h0 (aa h2 ?_);rfl
theorem Vb {f:Sre.Frame}(hf:f.wait= .nextStart)(h0:code.getD 0 0=14)(h2:code.getD 2 0=0)(aC:f.pos<ls)(sF:f.kept.marks.size=0)(hw:w=1)
 (h:bJ groups (KM code text lim ls (f.pos+1) f.pc (f.pos+1) (f.pos+1) false marks (-1) (-1) loops inner [{wait:= .nextStart,pc:=f.pc,pos:=f.pos+1,outermost:=false}] 1 none sn) k r):bJ groups (KM code text lim ls start pc pos handed om marks lm li loops inner [f] w (some false) sn) (k+1) r:=by
 subst hw
 refine bJ.step rfl ?_
 unfold M.step
 dsimp only
 refine aa (if_neg (by simp)) ?_
 unfold M.resume
 obtain ⟨wait,r5,yy,yx,fc,fk,fl,fb⟩:=f
 dsimp only at hf aC sF h ⊢
 subst hf
 dsimp only
 refine aa (if_neg (by simp)) (aa (if_pos aC) ?_)
 unfold M.attemptFrom
 refine aa (HM (by exact h0) (by exact h2)) ?_
 unfold M.attemptAt M.attempt
 simp only [Bool.not_false,if_true,sF]
 refine aa (if_neg (by decide)) ?_
 exact h
theorem G3 (hc:lD code)(h:rJ code n s m)(hs:0<s)(hn:s≤n)(zb:n≤100000):bJ groups m 300000 none:=by
 refine ah (EU hc (n-s) s m h hs (by exact Ky hn (Eq.refl (n-s)))) λk hk ho=>?_
 exact⟨k,by exact(ln 0x4020044110402004410842927c04fcc001046a1cc626ac00186a027e6100c04).1 zb hk (Eq.refl (n-s)),ho⟩
theorem uV {least s:Nat}(h:header code=(least,5))(h0:code.getD 0 0=14)(h2:code.getD 2 0=0)(hs:s+least≤lim):∃ls sn,forSearch code text groups s lim false=KM code text lim ls s 5 s s true (Array.replicate (2*groups) none) (-1) (-1) #[] none [{wait:= .nextStart,pc:=5,pos:=s,outermost:=true}] 1 none sn∧ls≤lim∧s≤ls∧(least≤1->ls=lim):=by
 refine⟨if(decide (least>1)&& !false)=true then max s (lim-(least-1)) else lim,({}:Sre.Seen).add 14,?_,?_,?_,?_⟩
 ·unfold forSearch
  refine aa h ?_
  dsimp only
  refine aa (if_neg (by simp;exact(ln 0x42008441000011042100022000010882108c40080070046a0880b00804).1 hs (Eq.refl (lim-s)))) ?_
  unfold M.attemptFrom
  refine aa (HM (by exact h0) (by exact h2)) ?_
  unfold M.attemptAt M.attempt
  simp only [Bool.not_false,if_true]
  refine aa h2 ?_
  refine aa (if_neg (by show¬(0+1+0>16777216);decide)) ?_
  show KM code text lim _ s _ s s true _ _ _ _ _ _ _ none _=_
  congr 1
  ·exact congrArg Prod.snd h
  ·show[({wait:= .nextStart,pc:=(header code).2,pos:=s,outermost:=true}:Sre.Frame)]=_
   exact aa h rfl
  ·show(if(header code).2==0 then _ else _)=_
   refine aa h ?_;rfl
 ·split<;>(first|exact(ln 0x2008022080000800100441000200040110421084a01848a200b00880b00c06).1 hs (Eq.refl (Max.max s (lim-(least-1)))) (Eq.refl (lim-(least-1)))|exact(ln 1169304846337).1)
 ·split<;>(first|exact @(ln 0x4000882100422084a00100580406).1 s lim least (least-1) (lim-(least-1)) (Max.max s (lim-(least-1))) (Eq.refl (Max.max s (lim-(least-1))))|exact(ln 0x8441084000880b00403).1 hs)
 ·intro hl
  exact aa (if_neg (by simp;omega)) rfl
theorem forSearch_short (h:header code=(least,5))(hs:lim<s+least):bJ groups (forSearch code text groups s lim false) 1 none:=by
 refine⟨1,Nat.le_refl _,?_⟩
 unfold forSearch
 refine aa h ?_
 dsimp only
 refine aa (if_pos (by simp;exact(ln 0x10040108821004010082108c41080280804a1856008804).1 hs (Eq.refl (lim-s)))) ?_
 rfl
end
end
section
open PySem.Builtin PySem.Builtin.Re PySem.Sre
theorem HZ:header (aS 18)=(1,5):=by decide+kernel
theorem HY:header (aS 16)=(0,5):=by decide+kernel
theorem We:header (aS 19)=(3,5):=by decide+kernel
theorem tok_front (hn:0<n)(aC:n<x.size)(hz:x.size≤100000)(h0:fz (aS 18) 11 (x.getD 0 0)=some false)(sf:∀j<n,fz (aS 18) 23 (x.getD j 0)=some true)
 (dR:fz (aS 18) 23 (x.getD n 0)=some false):Ends 1 (forSearch (aS 18) x 1 0 x.size false) (some ⟨0,n,[rawInt 0,rawInt n]⟩):=by
 refine rB (uV (groups:=1) (text:=x) (lim:=x.size) (s:=0) HZ p5.2.2.2.1 p5.2.2.2.2 (by exact Nat.lt_trans ‹_› ‹_›)) λls sn e _ _ _=>?_
 refine aa e ?_
 refine bJ.ends (k:=10) ?_ (by decide)
 refine yt (by decide+kernel) (by decide+kernel) (by decide+kernel) λsn=>?_
 refine qg (n:=0) (by decide+kernel) (by decide+kernel) rfl (by exact Nat.zero_le _) (by decide) (by decide+kernel) (λseen=>?_) λsn w' jF=>?_
 ·have e3:(aS 18).getD (5+2+3) 0=4294967295:=by decide+kernel
  have:=nV (code:=aS 18) (text:=x) (i:=5+2+4) (min ((aS 18).getD (5+2+3) 0) (x.size-0)) 0 0 seen 0 (λj hj=>by exact False.elim (nN hj)) (.inr ⟨by refine aa e3 ?_;exact(ln 0x400000010082108001000220840100022080211026104c015047fffffff9ff312c0308c04).1 aC (Eq.refl (Min.min 4294967295 (x.size-0))) (Eq.refl (x.size-0)),h0⟩)
  assumption
 subst jF
 refine aa (show 5+2+1+(aS 18).getD (5+2+1) 0=17 by decide+kernel) ?_
 refine uO (i:=0) (marks':= #[some 0,none]) (tC:=0) (tg:= -1) (by decide+kernel) (by decide+kernel) (by decide+kernel) (λ_=>rfl) λsn=>?_
 refine qg (n:=n) (by decide+kernel) (by decide+kernel) rfl (by exact(ln 0x108821080135802008402).1 aC) (by decide) (by refine aa (show(aS 18).getD (17+2+2) 0=1 by decide+kernel) ?_;assumption) (λseen=>?_) λsn w' jF=>?_
 ·have e3:(aS 18).getD (17+2+3) 0=4294967295:=by decide+kernel
  have:=nV (code:=aS 18) (text:=x) (i:=17+2+4) (min ((aS 18).getD (17+2+3) 0) (x.size-0)) 0 0 seen n (λj hj=>by refine aa (Nat.zero_add ..) ?_;exact sf j hj) (.inr ⟨by refine aa e3 ?_;exact(ln 0x4000000008041080200040008821084200044100421180209844a10ffffffff3fe6358c35013f30802009004).1 aC hz (Eq.refl (Min.min 4294967295 (x.size-0))) (Eq.refl (x.size-0)),by refine aa (Nat.zero_add ..) ?_;exact dR⟩)
  simpa using this
 subst jF
 refine aa (show 17+2+1+(aS 18).getD (17+2+1) 0=39 by decide+kernel) ?_
 refine uO (i:=1) (marks':= #[some 0,some (0+0+n)]) (tC:=1) (tg:=1) (by decide+kernel) (by decide+kernel) (by decide+kernel) (λ_=>rfl) λsn=>?_
 refine BH (by decide+kernel) (by decide+kernel) λsn=>?_
 refine nh (.inl rfl) λw1=>?_
 refine nh (.inl rfl) λw2=>?_
 refine nh (.inr rfl) λw3=>?_
 have:=BE (groups:=1) (code:=aS 18) (text:=x) (lim:=x.size) (ls:=ls) (start:=0) (pc:=5) (pos:=0) (handed:=0+0+n) (om:=true) (marks:= #[some 0,some (0+0+n)]) (lm:=1) (li:=1) (loops:= #[]) (inner:=none) (w:=w3) (sn:=sn) (sp:=[rawInt 0,rawInt n])
  (by show[rawInt (0:Nat),rawInt ((0+0+n:Nat):Int)]=_;simp) (by
   show((match(some 0:Option Nat),(some (0+0+n):Option Nat) with|some b,some e=>decide (((1:Nat):Int)≤1)&&decide (e<b)|_,_=>false)||false)=false
   rfl)
 simp only [Nat.zero_add] at this ⊢
 exact this
theorem tok_none (aC:0<x.size)(hz:x.size≤100000)(h0:fz (aS 18) 11 (x.getD 0 0)=some false)(h1:fz (aS 18) 23 (x.getD 0 0)=some false):
 Ends 1 (forSearch (aS 18) x 1 0 x.size false) none:=by
 refine rB (uV (groups:=1) (text:=x) (lim:=x.size) (s:=0) HZ p5.2.2.2.1 p5.2.2.2.2 (by assumption)) λls sn e h5 h6 h7=>?_
 refine aa e ?_
 obtain rfl:=h7 (by decide)
 refine bJ.ends (k:=300006) ?_ (by decide)
 refine yt (by decide+kernel) (by decide+kernel) (by decide+kernel) λsn=>?_
 refine qg (n:=0) (by decide+kernel) (by decide+kernel) rfl (by exact zU) (by decide) (by decide+kernel) (λseen=>?_) λsn w' jF=>?_
 ·have e3:(aS 18).getD (5+2+3) 0=4294967295:=by decide+kernel
  have:=nV (code:=aS 18) (text:=x) (i:=5+2+4) (min ((aS 18).getD (5+2+3) 0) (x.size-0)) 0 0 seen 0 (λj hj=>by lia) (.inr ⟨by refine aa e3 ?_;exact Zy aC (Eq.refl (Min.min 4294967295 (x.size-0))) (Eq.refl (x.size-0)),h0⟩)
  assumption
 subst jF
 refine aa (show 5+2+1+(aS 18).getD (5+2+1) 0=17 by decide+kernel) ?_
 refine uO (i:=0) (marks':= #[some 0,none]) (tC:=0) (tg:= -1) (by decide+kernel) (by decide+kernel) (by decide+kernel) (λ_=>rfl) λsn=>?_
 refine Vc (n:=0) (by decide+kernel) (by decide+kernel) (by omega) (by decide+kernel) (λseen=>?_) λsn=>?_
 ·have e3:(aS 18).getD (17+2+3) 0=4294967295:=by decide+kernel
  have:=nV (code:=aS 18) (text:=x) (i:=17+2+4) (min ((aS 18).getD (17+2+3) 0) (x.size-0)) 0 0 seen 0 (λj hj=>by exact False.elim (nN hj)) (.inr ⟨by refine aa e3 ?_;lia,h1⟩)
  assumption
 refine Va rfl (by show(((0:Nat):Int)-1<_);exact Int.natCast_nonneg _) rfl ?_
 refine Vb rfl p5.2.2.2.1 p5.2.2.2.2 (by exact aC) rfl rfl ?_
 exact G3 p5 (n:=x.size) (s:=1) ⟨rfl,rfl,rfl,⟨_,rfl⟩,rfl,rfl,rfl,rfl⟩ (by exact Nat.succ_pos _) (by assumption) (by assumption)
theorem twin_front (aC:2<x.size)(hz:x.size≤100000)(h0:fz (aS 16) 11 (x.getD 0 0)=some true)(h1:fz (aS 16) 11 (x.getD 1 0)=some true)(h2:fz (aS 16) 11 (x.getD 2 0)=some false):
 Ends 0 (forSearch (aS 16) x 0 0 x.size false) (some ⟨0,2,[]⟩):=by
 refine rB (uV (groups:=0) (text:=x) (lim:=x.size) (s:=0) HY uz.2.2.2.1 uz.2.2.2.2 (by lia)) λls sn e h5 h6 h7=>?_
 refine aa e ?_
 refine bJ.ends (k:=10) ?_ (by decide)
 refine yt (by decide+kernel) (by decide+kernel) (by decide+kernel) λsn=>?_
 refine qg (n:=2) (by decide+kernel) (by decide+kernel) rfl (by exact Nat.le_of_lt ‹_›) (by decide) (by decide+kernel) (λseen=>?_) λsn w' jF=>?_
 ·have e3:(aS 16).getD (5+2+3) 0=4294967295:=by decide+kernel
  have:=nV (code:=aS 16) (text:=x) (i:=5+2+4) (min ((aS 16).getD (5+2+3) 0) (x.size-0)) 0 0 seen 2 (λj hj=>by
   rcases j with _|_|j
   ·exact h0
   ·exact h1
   ·exact False.elim (Dk hj)) (.inr ⟨by refine aa e3 ?_;exact(ln 0x80000002010421000200044108020004410042214c209802a08ffffffff3fe625805308c03).1 aC (Eq.refl (Min.min 4294967295 (x.size-0))) (Eq.refl (x.size-0)),h2⟩)
  assumption
 subst jF
 refine aa (show 5+2+1+(aS 16).getD (5+2+1) 0=21 by decide+kernel) ?_
 refine BH (by decide+kernel) (by decide+kernel) λsn=>?_
 refine nh (.inl rfl) λw1=>?_
 refine nh (.inr rfl) λw2=>?_
 refine bJ.le (k:=1) ?_ (by decide)
 exact BE (groups:=0) (sp:=[]) rfl rfl
theorem twin_back (h0:0<s)(aC:s<x.size)(hz:x.size≤100000):Ends 0 (forSearch (aS 16) x 0 s x.size false) none:=by
 refine rB (uV (groups:=0) (text:=x) (lim:=x.size) (s:=s) HY uz.2.2.2.1 uz.2.2.2.2 (by exact Nat.le_of_lt ‹_›)) λls sn e h5 h6 h7=>?_
 refine aa e ?_
 obtain rfl:=h7 (by decide)
 refine bJ.ends (k:=300000) ?_ (by decide)
 exact G3 uz (n:=x.size) (s:=s) ⟨rfl,rfl,rfl,⟨_,rfl⟩,rfl,rfl,rfl,rfl⟩ h0 (by omega) (by exact(ln 0x21104230d404fcc00186a027e6000401).1 hz)
section
variable {groups:Nat}{code text:Array Nat}{lim ls start pc pos handed:Nat}{marks:Array (Option Nat)}{li:Int}{fr:List Sre.Frame}{w:Nat}{sn:Sre.Seen}{r:Option kL}{k p0:Nat}
theorem EZ {m:M}{f:Sre.Frame}{t a:Nat}{o:Bool}(h:m.weight+1+f.kept.marks.size≤16777216):m.attempt f t a o={m with frames:=f::m.frames,weight:=m.weight+1+f.kept.marks.size,pc:=t,pos:=a,handed:=a,outermost:=o}:=by
 unfold M.attempt
 exact aa (if_neg (by exact Nat.not_lt.mpr ‹_›)) rfl
theorem U8 {c:Nat}(hp:pc<code.size)(h0:code.getD pc 0=23)(hu:pc+1+code.getD (pc+1) 0<code.size)(XS:code.getD (pc+1+code.getD (pc+1) 0) 0=18)
 (nE:code.getD (pc+2) 0=0)(Cr:code.getD (pc+3) 0=maxRepeat)(hb:pc+4<code.size)(V6:code.getD (pc+4) 0=16)(fV:code.getD (pc+5) 0=c)(hc:text.getD pos 0≠c)(hw:w≤1000)
 (h:∀sn w' f1 f2,w'≤1002->f1.wait= .maxTail->f1.pc=pc+1+code.getD (pc+1) 0+1->f1.pos=pos->f1.outermost=true->f2.wait= .closeLoop->∀lp,bJ groups (KM code text lim ls start (pc+1+code.getD (pc+1) 0+1) pos pos true #[some p0,none] 0 (-1) lp none (f1::f2::fr) w' none sn) k r):
 bJ groups (KM code text lim ls start pc pos handed true #[some p0,none] 0 (-1) #[] none fr w none sn) (k+4) r:=by
 refine nc rfl rfl hp ?_
 have w0:M.word (KM code text lim ls start pc pos handed true #[some p0,none] 0 (-1) #[] none fr w none sn) 0=23:=h0
 unfold M.exec
 refine aa w0 ?_
 refine aa (show ops[23]?=some Op.REPEAT from rfl) ?_
 dsimp only
 unfold M.attempt
 refine aa (if_neg (by show¬(w+1+0>16777216);exact @id (¬(w+1+0>16777216)) ((ln 0x8441082619816b80000017f309be817e6000401).1 hw))) ?_
 dsimp only [M.frame]
 show bJ groups (KM code text lim ls start (pc+1+code.getD (pc+1) 0) pos pos true #[some p0,none] 0 (-1) #[{pc:=pc,outer:=none}] (some 0) ({wait:= .closeLoop,pc:=pc,pos:=pos,outermost:=true,loop:=0}::fr) (w+1+0) none _) _ _
 generalize hu':pc+1+code.getD (pc+1) 0=u at*
 refine nc rfl rfl hu ?_
 unfold M.exec
 refine aa (show M.word (KM code text lim ls start u pos pos true #[some p0,none] 0 (-1) #[{pc:=pc,outer:=none}] (some 0) ({wait:= .closeLoop,pc:=pc,pos:=pos,outermost:=true,loop:=0}::fr) (w+1+0) none _) 0=18 from XS) ?_
 refine aa (show ops[18]?=some Op.MAX_UNTIL from rfl) ?_
 dsimp only
 unfold M.until_
 dsimp only
 have hl:∀q:M,q.loops= #[{pc:=pc,outer:=none}]->q.loopAt 0={pc:=pc,outer:=none}:=by
  intro q e;unfold M.loopAt;refine aa e ?_;rfl
 refine aa (hl _ rfl) ?_
 dsimp only
 refine aa nE (aa Cr ?_)
 refine aa (if_neg (by decide)) (aa (if_neg (by decide)) ?_)
 rw[if_pos (by
  have:((none:Option Nat) !=some pos)=true:=rfl
  refine aa this ?_;rfl)]
 have kp:∀(q:M),q.lastmark=0->q.lastindex= -1->q.marks= #[some p0,none]->q.keep true={lastmark:=0,lastindex:= -1,whole:=true,marks:= #[some p0]}:=by
  intro q e1 e2 e3;unfold M.keep;refine aa e1 (aa e2 (aa e3 ?_));rfl
 refine aa (kp _ rfl rfl rfl) ?_
 unfold M.round
 refine aa (hl _ rfl) ?_
 refine aa (EZ (by show w+1+0+1+1≤16777216;exact @id (w+1+0+1+1≤16777216) ((ln 0x10882180000017f30cc3304c3302d6b583e817e6000401).1 hw))) ?_
 show bJ groups (KM code text lim ls start (pc+4) pos pos true #[some p0,none] 0 (-1) #[{pc:=pc,count:=0,began:=some pos,outer:=none}] (some 0) ({wait:= .maxMore,pc:=u+1,pos:=pos,outermost:=true,loop:=0,count:=0,kept:={lastmark:=0,lastindex:= -1,whole:=true,marks:= #[some p0]},began:=none}::{wait:= .closeLoop,pc:=pc,pos:=pos,outermost:=true,loop:=0}::fr) (w+1+0+1+1) none _) _ _
 refine U9 hb V6 fV hc λsn=>?_
 refine bJ.step rfl ?_
 unfold M.step
 dsimp only
 refine aa (if_neg (by simp)) ?_
 unfold M.resume
 dsimp only
 refine aa (if_neg (by simp)) ?_
 have pb:∀(q:M),q.marks= #[some p0,none]->q.lastmark=0->q.lastindex= -1->q.putBack {lastmark:=0,lastindex:= -1,whole:=true,marks:= #[some p0]}=q:=by
  intro q e1 e2 e3
  unfold M.putBack
  dsimp only
  obtain ⟨mZ,text,lim,start,lastStart,wholeText,mustAdvance,pc,pos,handed,outermost,marks,lastmark,lastindex,loops,inner,frames,weight,answer,seen,outcome⟩:=q
  dsimp only at e1 e2 e3
  subst e1 e2 e3
  rfl
 refine aa (pb _ rfl rfl rfl) ?_
 unfold M.afterLoop
 refine aa (EZ (by show w+1+0+1+1-(1+1)+1+0≤16777216;exact @id (w+1+0+1+1-(1+1)+1+0≤16777216) ((ln 0x804108020088210c000000bf982619856b00a6198660986605ad6b0abe817e6000802).1 hw (Eq.refl (w+1+0+1+1-(1+1)))))) ?_
 exact h _ _ _ _ (by show w+1+0+1+1-(1+1)+1+0≤1002;exact @id (w+1+0+1+1-(1+1)+1+0≤1002) ((ln 0x1008210040110421fa85f982619856b00a6198660986605ad6b0abe817e6000802).1 hw (Eq.refl (w+1+0+1+1-(1+1))))) rfl rfl rfl rfl rfl _
end
end
section
open PySem.Builtin PySem.Builtin.Re PySem.Sre
theorem q19:∀p∈[(5,6),(6,0),(7,24),(8,9),(9,0),(10,4294967295),(16,1),(17,16),(18,61),(19,24),(20,9),(21,0),(22,4294967295),(29,16),(30,34),(31,17),(32,0),(33,24),(34,12),(35,0),(36,4294967295),(46,23),(47,19),(48,0),(49,4294967295),(50,16),(51,92),(66,18),(67,17),(68,1),(69,16),(70,34),(71,1)],(aS 19).getD p.1 0=p.2:=by decide+kernel
theorem s19:(aS 19).size=72:=by decide+kernel
theorem quo_front (aC:n+2<x.size)(hz:x.size≤100000)(h0:x.getD 0 0=61)(h1:x.getD 1 0=34)(sf:∀j<n,fz (aS 19) 37 (x.getD (2+j) 0)=some true)
 (dR:x.getD (2+n) 0=34):Ends 1 (forSearch (aS 19) x 1 0 x.size false) (some ⟨0,n+3,[rawInt 2,rawInt (n+2)]⟩):=by
 refine rB (uV (groups:=1) (text:=x) (lim:=x.size) (s:=0) We EV.2.2.2.1 EV.2.2.2.2 (by exact(ln 0x21104201cc0014c2b08402).1 aC)) λls sn e _ _ _=>?_
 refine aa e ?_
 have g:∀i v,(i,v)∈[(5,6),(6,0),(7,24),(8,9),(9,0),(10,4294967295),(16,1),(17,16),(18,61),(19,24),(20,9),(21,0),(22,4294967295),(29,16),(30,34),(31,17),(32,0),(33,24),(34,12),(35,0),(36,4294967295),(46,23),(47,19),(48,0),(49,4294967295),(50,16),(51,92),(66,18),(67,17),(68,1),(69,16),(70,34),(71,1)]->(aS 19).getD i 0=v:=λi v h=>q19 _ h
 have sz:=s19
 have a0:fz (aS 19) 11 61=some false:=by decide+kernel
 have a1:fz (aS 19) 23 34=some false:=by decide+kernel
 have a2:fz (aS 19) 37 34=some false:=by decide+kernel
 refine bJ.ends (k:=30) ?_ (by decide)
 refine yt (by decide) (g 5 6 (by decide)) (g 6 0 (by decide)) λsn=>?_
 refine qg (n:=0) (by decide) (g 7 24 (by decide)) rfl (by exact Nat.zero_le _) (by decide) (by refine aa (g 9 0 (by decide)) ?_;exact Nat.zero_le _) (λseen=>?_) λsn w' jF=>?_
 ·have e3:(aS 19).getD (5+2+3) 0=4294967295:=g 10 _ (by decide)
  have:=nV (code:=aS 19) (text:=x) (i:=5+2+4) (min ((aS 19).getD (5+2+3) 0) (x.size-0)) 0 0 seen 0 (λj hj=>by exact False.elim (nN hj)) (.inr ⟨by refine aa e3 ?_;lia,by refine aa (Nat.add_zero ..) (aa (h0 ..) ?_);exact a0⟩)
  assumption
 subst jF
 refine aa (show 5+2+1+(aS 19).getD (5+2+1) 0=17 by rw[g 8 9 (by decide)]) ?_
 refine BF (by decide) (g 17 16 (by decide)) (g 18 61 (by decide)) (by exact(ln 0x211042004c2014c2b08402).1 aC) h0 λsn=>?_
 refine qg (n:=0) (by decide) (g 19 24 (by decide)) rfl (by exact(ln 0x21104200cc0014c2b08402).1 aC) (by decide) (by refine aa (g 21 0 (by decide)) ?_;exact(ln 0x44104c1300000).1) (λseen=>?_) λsn w' jF=>?_
 ·have e3:(aS 19).getD (17+2+3) 0=4294967295:=g 22 _ (by decide)
  have:=nV (code:=aS 19) (text:=x) (i:=17+2+4) (min ((aS 19).getD (17+2+3) 0) (x.size-(0+0+1))) (0+0+1) 0 seen 0 (λj hj=>by exact False.elim (nN hj)) (.inr ⟨by refine aa e3 ?_;exact(ln 0x200000008041084000800110420080011040108813086600a823fffffffcff9896014c6b08c04).1 aC (Eq.refl (Min.min 4294967295 (x.size-(0+0+1)))) (Eq.refl (x.size-(0+0+1))),by refine aa (Nat.add_zero ..) (aa (Nat.add_zero ..) (aa (Nat.zero_add ..) (aa (h1 ..) ?_)));exact a1⟩)
  assumption
 subst jF
 refine aa (show 17+2+1+(aS 19).getD (17+2+1) 0=29 by rw[g 20 9 (by decide)]) ?_
 refine BF (by decide) (g 29 16 (by decide)) (g 30 34 (by decide)) (by exact(ln 0x21104200cc2014c2b08402).1 aC) h1 λsn=>?_
 refine uO (i:=0) (marks':= #[some (0+0+1+0+1),none]) (tC:=0) (tg:= -1) (by decide) (g 31 17 (by decide)) (g 32 0 (by decide)) (λ_=>rfl) λsn=>?_
 refine qg (n:=n) (by decide) (g 33 24 (by decide)) rfl (by exact(ln 0x8441084029ac0114c0b08402).1 aC) (by decide) (by refine aa (g 35 0 (by decide)) ?_;exact Nat.zero_le _) (λseen=>?_) λsn w' jF=>?_
 ·have e3:(aS 19).getD (29+2+2+3) 0=4294967295:=g 36 _ (by decide)
  have:=nV (code:=aS 19) (text:=x) (i:=29+2+2+4) (min ((aS 19).getD (29+2+2+3) 0) (x.size-(0+0+1+0+1))) (0+0+1+0+1) 0 seen n sf (.inr ⟨by refine aa e3 ?_;exact(ln 0x20000000040208401000200044108421000220802108c0114c225087fffffff9ff31ac61a809f9840114c0b09004).1 aC hz (Eq.refl (Min.min 4294967295 (x.size-(0+0+1+0+1)))) (Eq.refl (x.size-(0+0+1+0+1))),by
   show fz (aS 19) 37 (x.getD (2+n) 0)=_
   refine aa dR ?_;exact a2⟩)
  simpa using this
 subst jF
 refine aa (show 29+2+2+1+(aS 19).getD (29+2+2+1) 0=46 by rw[g 34 12 (by decide)]) ?_
 have hu:46+1+(aS 19).getD (46+1) 0=66:=by rfl
 refine U8 (c:=92) (by decide) (g 46 23 (by decide)) (by refine aa hu ?_;decide) (by refine aa hu ?_;exact g 66 18 (by decide)) (g 48 0 (by decide)) (g 49 _ (by decide)) (by decide) (g 50 16 (by decide)) (g 51 92 (by decide)) ?_ (by exact Nat.le_add_left _ _) λsn w' f1 f2 jF t1 t2 t3 t4 t5 lp=>?_
 ·show x.getD (2+n) 0≠92
  refine aa dR ?_;decide
 refine aa hu ?_
 refine uO (i:=1) (marks':= #[some (0+0+1+0+1),some (0+0+1+0+1+n)]) (tC:=1) (tg:=1) (by decide) (g 67 17 (by decide)) (g 68 1 (by decide)) (λ_=>rfl) λsn=>?_
 refine BF (by decide) (g 69 16 (by decide)) (g 70 34 (by decide)) (by exact(ln 0x8441084029ac2114c0b08402).1 aC) (by show x.getD (2+n) 0=_;exact dR) λsn=>?_
 refine BH (by exact Nat.lt_succ_self _) (g 71 1 (by decide)) λsn=>?_
 refine Ve t1 λw1=>?_
 refine Vd t5 λw1 lp Jy=>?_
 refine nh (.inl rfl) λw2=>?_
 refine nh (.inl rfl) λw2=>?_
 refine nh (.inl rfl) λw2=>?_
 refine nh (.inr rfl) λw3=>?_
 refine bJ.le (k:=1) ?_ (by decide)
 have e2:0+0+1+0+1+n=n+2:=by exact Nat.add_comm _ _
 have e3:0+0+1+0+1+n+1=n+3:=by exact(ln 0x882208e605866014d6b10001).1
 refine aa e3 (aa e2 ?_)
 refine BE (groups:=1) (sp:=[rawInt 2,rawInt (n+2)]) ?_ ?_
 ·rfl
 ·show((match(some (0+0+1+0+1):Option Nat),(some (n+2):Option Nat) with|some b,some e=>decide (((1:Nat):Int)≤1)&&decide (e<b)|_,_=>false)||false)=false
  rfl
end
section
open PySem.Builtin PySem.Builtin.Re PySem.Sre
theorem Ma (x:Str)(l u:Option Int):Txt.slice x l u=StrLaws.sliceText x l u:=rfl
theorem By (x:Str):x.cps.size=x.length:=rfl
theorem slice_app (a b:Str):Txt.slice (a++b) (some (a.length:Int)) none=b:=by
 refine aa (Ma ..) (aa (StrLaws.sliceText_from ⟨by exact Int.natCast_nonneg _,by have:=Str.length_append a b;simp only [Str.length] at this;simp[Str.length,Str.cps_append];simp+arith⟩ ..) ?_)
 apply Str.ext'
 have e1:(a++b).cps.toList=a.cps.toList++b.cps.toList:=by refine aa (Str.cps_append ..) ?_;simp
 refine aa e1 ?_
 have e2:(a.length:Int).toNat=a.cps.toList.length:=by simp[Str.length]
 rw[e2,List.drop_append_of_le_length (Nat.le_refl _),List.drop_length,List.nil_append]
 exact aa (List.take_of_length_le (by simp[Str.length];exact(ln 0x80000042208401080011042000000084410800100022084230000f0bd626044350804).1 rfl rfl)) rfl
theorem slice_zero (x:Str):Txt.slice x none (some ((0:Nat):Int))=Str.empty:=by
 refine aa (Ma ..) (aa (StrLaws.sliceText_to ⟨by exact Int.natCast_nonneg _,by exact Int.natCast_nonneg _⟩ ..) ?_)
 rfl
theorem Me (a b:Str):Txt.slice (a++b) none (some ((0:Nat):Int))++Txt.slice (a++b) (some (a.length:Int)) none=b:=by
 exact aa (slice_zero ..) (aa (slice_app ..) (aa (Str.empty_append ..) rfl))
theorem Vs (a b:Str):(⟨(a++b).cps.extract 0 a.length⟩:Str)=a:=by
 apply Str.ext'
 show(a.cps++b.cps).extract 0 a.cps.size=a.cps
 simp
theorem Vt (a b c:Str):(⟨(a++(b++c)).cps.extract a.length (b.length+a.length)⟩:Str)=b:=by
 apply Str.ext'
 show(a.cps++(b.cps++c.cps)).extract a.cps.size (b.cps.size+a.cps.size)=b.cps
 refine aa Array.extract_append ?_
 simp
theorem jO {a b:Str}{i:Nat}(h:i<a.length):(a++b).cps.getD i 0=a.cps.getD i 0:=by
 show(a.cps++b.cps).getD i 0=_
 exact aa (Array.getD_eq_getD_getElem?) (aa (Array.getD_eq_getD_getElem?) (aa (Array.getElem?_append_left h) rfl))
theorem yz {a b:Str}{i:Nat}:(a++b).cps.getD (a.length+i) 0=b.cps.getD i 0:=by
 show(a.cps++b.cps).getD (a.cps.size+i) 0=_
 rw[Array.getD_eq_getD_getElem?,Array.getD_eq_getD_getElem?,Array.getElem?_append_right (by exact Nat.le_add_right _ _),Nat.add_sub_cancel_left]
noncomputable def bV:List (Str×Str)->Str
 |[]=>Str.empty
 |p::r=>Str.ofString "; "++headText (p::r)
theorem sy (p:Str×Str)(r:List (Str×Str)):headText (p::r)=p.1++(Str.ofString "=\""++(p.2++(Str.ofString "\""++bV r))):=by
 have e0:Str.ofString "=\""=Str.ofString "="++Str.ofString "\"":=by decide
 unfold headText
 show Builtin.Str.glued _ _=_
 refine aa (StrLaws.glued_eq_join ..) (aa (List.map_cons ..) ?_)
 cases r with
 |nil=>
  show fG p=_
  unfold fG bV
  rw[e0,Str.append_empty]
  simp only [Str.append_assoc]
 |cons q r=>
  show fG p++Str.ofString "; "++Str.join (Str.ofString "; ") ((q::r).map fG)=_
  have pe:fG p=p.1++Str.ofString "="++(Str.ofString "\""++p.2++Str.ofString "\""):=rfl
  refine aa pe ?_
  show _=p.1++(Str.ofString "=\""++(p.2++(Str.ofString "\""++(Str.ofString "; "++Builtin.Str.glued (Str.ofString "; ") ((q::r).map fG)))))
  refine aa (StrLaws.glued_eq_join ..) (aa (e0 ..) ?_)
  simp only [Str.append_assoc]
noncomputable def mJ (p:Str×Str):Prop:=(∃j,j<7∧p.1=bM j)∧∃d:Nat,d<4∧p.2=word d
theorem yr:∀j<7,fz (aS 18) 11 ((bM j).cps.getD 0 0)=some false∧0<(bM j).length∧(bM j).length≤20∧∀i<(bM j).length,fz (aS 18) 23 ((bM j).cps.getD i 0)=some true:=by decide+kernel
theorem UU:∀j<7,fz (aS 16) 11 ((bM j).cps.getD 0 0)=some false:=by decide+kernel
theorem Mk:∀d:Nat,d<4->(∀i<9,fz (aS 19) 37 ((word d).cps.getD i 0)=some true)∧(word d).length=9∧j8 (aS 21) 1 (word d)=true:=by decide+kernel
theorem Ww {p:Str×Str}{r:List (Str×Str)}(h:mJ p)(hz:(headText (p::r)).length≤100000):Ends 1 (forSearch (aS 18) (headText (p::r)).cps 1 0 (headText (p::r)).cps.size false) (some ⟨0,p.1.length,[rawInt 0,rawInt p.1.length]⟩):=by
 refine j3 h λzr337 d hd hw=>?_;clear h;refine ah zr337 λj hj hp=>?_
 refine iy (yr j hj) λh1 h2 h3 h4=>?_
 have hl:(Str.ofString "=\"").length=2:=by decide
 have kq:(headText (p::r)).cps.size≤100000:=hz
 rw[sy] at kq ⊢
 refine tok_front (n:=p.1.length) (by refine aa hp ?_;exact h2) ?_ kq ?_ ?_ ?_
 ·show _<Str.length _
  simp only [Str.length_append]
  exact @(ln 0x802208483589615816008a6110405).1 p.fst.length ((Str.ofString "=\"").length) p.snd.length ((Str.ofString "\"").length) ((bV r).length) hl
 ·refine aa (jO (by rw[hp];exact h2)) (aa hp ?_);exact h1
 ·intro i hi
  refine aa (jO hi) (aa hp ?_)
  exact h4 i (by refine aa (Eq.symm hp) ?_;exact hi)
 ·have:(p.1++(Str.ofString "=\""++(p.2++(Str.ofString "\""++bV r)))).cps.getD p.1.length 0=(Str.ofString "=\""++(p.2++(Str.ofString "\""++bV r))).cps.getD 0 0:=yz (i:=0)
  refine aa this (aa (jO (by decide)) ?_)
  decide+kernel
theorem Wu {p:Str×Str}{r:List (Str×Str)}(h:mJ p)(hz:(headText (p::r)).length≤100000):
 Ends 1 (forSearch (aS 19) (Str.ofString "=\""++(p.2++(Str.ofString "\""++bV r))).cps 1 0 (Str.ofString "=\""++(p.2++(Str.ofString "\""++bV r))).cps.size false) (some ⟨0,p.2.length+3,[rawInt 2,rawInt (p.2.length+2)]⟩):=by
 refine j3 h λzr338 d hd hw=>?_;clear h;refine ah zr338 λj hj hp=>?_
 refine cP (Mk d hd) λh1 h2 h3=>?_
 have hl:(Str.ofString "=\"").length=2:=by decide
 have Cn:(Str.ofString "\"").length=1:=by decide
 rw[sy] at hz
 simp only [Str.length_append] at hz
 have sR:(Str.ofString "=\""++(p.2++(Str.ofString "\""++bV r))).cps.size=2+(p.2.length+(1+(bV r).length)):=by
  refine aa (By ..) ?_;simp only [Str.length_append,hl,Cn]
 have e2:∀i,(Str.ofString "=\""++(p.2++(Str.ofString "\""++bV r))).cps.getD (2+i) 0=(p.2++(Str.ofString "\""++bV r)).cps.getD i 0:=λi=>by
  have:=yz (a:=Str.ofString "=\"") (b:=p.2++(Str.ofString "\""++bV r)) (i:=i)
  rwa [hl] at this
 refine quo_front (n:=p.2.length) (by exact(ln 0x200882108a60584419ac0b14d6110403).1 sR) (by exact(ln 0x20080200844108421186a027e6001433591629ac02186a027e6512c8b0ac6b0066210a6111006).1 hl Cn hz sR) ?_ ?_ ?_ ?_
 ·refine aa (jO (by exact @Kl ((Str.ofString "=\"").length) hl)) ?_;decide+kernel
 ·refine aa (jO (by exact Nat.lt_succ_self _)) ?_;decide+kernel
 ·intro i hi
  refine aa (e2 ..) (aa (jO hi ..) (aa (hw ..) ?_))
  exact h1 i (by rw[hw,h2] at hi;exact hi)
 ·refine aa (e2 ..) ?_
  have:=yz (a:=p.2) (b:=Str.ofString "\""++bV r) (i:=0)
  rw[Nat.add_zero] at this
  refine aa this (aa (jO (by exact Nat.lt_succ_self _)) ?_)
  decide+kernel
theorem semi_tok {p:Str×Str}{r:List (Str×Str)}(hz:(bV (p::r)).length≤100000):Ends 1 (forSearch (aS 18) (bV (p::r)).cps 1 0 (bV (p::r)).cps.size false) none:=by
 have hl:(Str.ofString "; ").length=2:=by decide
 have kq:(bV (p::r)).cps.size≤100000:=hz
 have e:bV (p::r)=Str.ofString "; "++headText (p::r):=rfl
 rw[e] at kq ⊢
 refine tok_none ?_ kq ?_ ?_
 ·refine aa (By ..) (aa (Str.length_append ..) ?_);exact @Y4 ((Str.ofString "; ").length) ((headText (p::r)).length) hl
 ·refine aa (jO (by exact Nat.le_succ _)) ?_;decide+kernel
 ·refine aa (jO (by exact @Kl ((Str.ofString "; ").length) hl)) ?_;decide+kernel
theorem semi_twin {p:Str×Str}{r:List (Str×Str)}(h:mJ p)(hz:(bV (p::r)).length≤100000):
 Ends 0 (forSearch (aS 16) (bV (p::r)).cps 0 0 (bV (p::r)).cps.size false) (some ⟨0,2,[]⟩)∧Ends 0 (forSearch (aS 16) (bV (p::r)).cps 0 2 (bV (p::r)).cps.size false) none∧2<(bV (p::r)).cps.size∧(⟨(bV (p::r)).cps.extract 2 (bV (p::r)).cps.size⟩:Str)=headText (p::r):=by
 refine j3 h λzr339 d hd hw=>?_;clear h;refine ah zr339 λj hj hp=>?_
 refine iy (yr j hj) λh1 h2 h3 h4=>?_
 have hl:(Str.ofString "; ").length=2:=by decide
 have kq:(bV (p::r)).cps.size≤100000:=hz
 have e:bV (p::r)=Str.ofString "; "++headText (p::r):=rfl
 have hh:0<(headText (p::r)).length:=by
  refine aa (sy ..) (aa (Str.length_append ..) (aa (hp ..) ?_));exact JV h2
 rw[e] at kq ⊢
 have hs:(Str.ofString "; "++headText (p::r)).cps.size=2+(headText (p::r)).length:=by exact aa (By ..) (aa (Str.length_append ..) (aa (hl ..) rfl))
 refine⟨twin_front (by exact Zi hh hs) kq ?_ ?_ ?_,twin_back (by decide) (by lia) kq,by lia,?_⟩
 ·refine aa (jO (by lia)) ?_;decide+kernel
 ·refine aa (jO (by exact Nat.lt_succ_self _)) ?_;decide+kernel
 ·have:=yz (a:=Str.ofString "; ") (b:=headText (p::r)) (i:=0)
  rw[hl] at this
  refine aa (this ..) (aa (sy ..) (aa (jO (by rw[hp];exact h2) ..) (aa (hp ..) ?_)))
  exact UU j hj
 ·apply Str.ext'
  show((Str.ofString "; ").cps++(headText (p::r)).cps).extract 2 _=_
  have h2:(Str.ofString "; ").cps.size=2:=hl
  refine aa hs ?_
  refine aa Array.extract_append (aa h2 ?_)
  have a1:(Str.ofString "; ").cps.extract 2 (2+(headText (p::r)).length)= #[]:=Array.extract_empty_of_size_le_start (by exact Nat.le_refl _)
  have a2:(headText (p::r)).cps.extract (2-2) (2+(headText (p::r)).length-2)=(headText (p::r)).cps:=by
   refine aa (Nat.add_sub_cancel_left ..) ?_;exact Array.extract_size
  exact aa a1 (aa a2 (aa Array.empty_append rfl))
theorem ZO (h:x.cps.getD 0 0=c)(h0:0<x.length)(hc:Unicode.isSpace c=false):Txt.lstrip x=x:=by
 have h1:Txt.lstrip x=(if stripSame Unicode.isSpace true false x=true then x else PySem.stripped Unicode.isSpace true false x):=rfl
 have qC:stripLo Unicode.isSpace true x=0:=by
  unfold stripLo
  obtain ⟨a⟩:=x
  rw[Array.getD_eq_getD_getElem?] at h
  cases hl:a.toList with
  |nil=>
   have:a.size=0:=by refine aa (Eq.symm Array.length_toList) (aa hl ?_);rfl
   have yE:0<a.size:=h0
   exact Int.toNat_natCast _
  |cons b r=>
   have:a[0]?=some b:=by refine aa (Eq.symm (Array.getElem?_toList)) (aa hl ?_);rfl
   have hb:b=c:=by
    have h':(a[0]?).getD 0=c:=h
    rw[this] at h';exact h'
   simp[hb,hc]
 have:stripSame Unicode.isSpace true false x=true:=by
  unfold stripSame
  refine aa qC ?_
  unfold stripHi
  exact if_pos rfl
 exact aa h1 (aa (if_pos this) rfl)
theorem no_comma (h:x.cps.getD 0 0=c)(h0:0<x.length)(hc:c≠44):Txt.startswith x (Str.ofString ",")=false:=by
 unfold Txt.startswith
 refine aa (StrLaws.subAt_eq ..) ?_
 obtain ⟨a⟩:=x
 rw[Array.getD_eq_getD_getElem?] at h
 have h':(a[0]?).getD 0=c:=h
 have e1:(Str.ofString ",").length=1:=by decide
 have e2:(Str.ofString ",").cps.toList=[44]:=by decide
 refine aa e1 (aa e2 ?_)
 cases hl:a.toList with
 |nil=>
  have:a.size=0:=by refine aa (Eq.symm Array.length_toList) (aa hl ?_);rfl
  have yE:0<a.size:=h0
  simp+arith
 |cons b r=>
  have hb:a[0]?=some b:=by refine aa (Eq.symm (Array.getElem?_toList)) (aa hl ?_);rfl
  rw[hb] at h'
  have eT:b=c:=h'
  simp[eT,hc]
theorem semi_strip {p:Str×Str}{r:List (Str×Str)}:Txt.lstrip (bV (p::r))=bV (p::r)∧Txt.startswith (bV (p::r)) (Str.ofString ",")=false:=by
 have hl:(Str.ofString "; ").length=2:=by decide
 have e:bV (p::r)=Str.ofString "; "++headText (p::r):=rfl
 have h0:(bV (p::r)).cps.getD 0 0=59:=by refine aa e (aa (jO (by lia)) ?_);decide+kernel
 have h1:0<(bV (p::r)).length:=by refine aa (e ..) (aa (Str.length_append ..) ?_);lia
 exact⟨ZO h0 h1 (by decide+kernel),no_comma h0 h1 (by decide)⟩
end
section
open PySem.Builtin PySem.Builtin.Re PySem.Sre
noncomputable def fX:Pos:=⟨193,49,193,84⟩
section
variable {prog:Program}{w:World}{A:Around}{h₀:Heap}{L l:Addr}{m:Loc}{H:Led}{env:Env}{vs:List Value}
theorem Rw (hm:c7 h₀ l vs H)(h:Q (.bool false) m H):AW (model prog w) A h₀ L (call (.builtin "isinstance") [.ref l, .type "str"]) Q m H:=λs R E S k=>by
 refine cQ (hm.at S) λo e c _=>?_
 exact IsiPair.list_str e c (k _ m H _ _ S h)
theorem FT (h:AW (model prog w) A h₀ L (isTrue test env (eval test env)) (λb m H=>b=true∧AW (model prog w) A h₀ L (execs rest env) Q m H) m H):
 AW (model prog w) A h₀ L (execs (.Assert test msg pos::rest) env) Q m H:=jM λs R E S k=>
 wpAny_Assert_holds (h s _ E S λb m1 H1 h1 aX S1 q1=>⟨q1.1,k _ m1 H1 h1 aX S1 (gR q1.2)⟩)
end
theorem Ja:∀q:kL,some (⟨b,e,[a,c]⟩:kL)=some q->q.sp.length≤1000:=λq h=>by
 cases h;show(2:Nat)≤1000;decide
section
variable {G:Gx}{A:Around}{h₀:Heap}{L:Addr}{m:Loc}{H:Led}{env:Env}{aW:eu}{pd:jb}{x y:Str}{t u:Tok}{Q:Value->Loc->Led->Prop}
set_option maxHeartbeats 4000000 in
theorem Th (T:aT G.K aW)(Pt:jd G.K pd)(La:mG G.K 22 aW.l9 c P)(C:Cx G A h₀ L env)(r:bw A 2)(jS:(ll,af [.str (headText ps) t])∈H)(gK:∀p∈ps,mJ p)
 (hz:ps.length≤8)(h0:0<ps.length)(CT:∀i,(headText (ps.drop i)).length≤900)
 (h:∀rl pl vs jk,fQ jk vs ps->Q (.ref rl) m ((rl,af [.ref pl])::(P,bT fX)::(pl,af vs)::(jk++H))):
 AW (model G.prog G.w) A h₀ L (call (.ref aW.l9) [.ref ll]) Q m ((P,bT fX)::H):=by
 have vf:∀g:Heap,G.K.In g->CodeHd g c P:=λg X=>codeHd_of_K X La.hd
 have d:=La.d
 conv at d in(aO _).body=>whnf
 conv at d in(occs:= *) (aO _).scope=>all_goals whnf
 refine gX (n:=1) (binds:=[(Str.ofString "header_values",_)]) C r d (λ_ _ _ _ _=>rfl) rfl λA' g L' C' r'=>?_
 have aP:(10000:Nat)≤sizeLine:=by decide
 have sS:(10:Int)<2^62:=by decide
 refine FT ?_
 walk_at "awa"
 refine Rw (.inl (.tail _ jS)) ?_
 walk_at "awa"
 refine⟨rfl,?_⟩
 walk_at "awa"
 refine dF ?_
 walk_at "awa"
 refine⟨by show(0:Nat)≤sizeLine;exact Nat.zero_le _,λrl=>?_⟩
 walk_at "awa"
 (with_reducible show AW _ _ _ _ (execs (.For _ _ _ _ _::_) _) _ _ _)
 with_reducible refine je ?_
 walk_at "awa"
 refine gZ (.inl (.tail _ (.tail _ jS))) λit=>?_
 refine iN (gw C'.hh) (λi m H'=>∃ws jk,SubL [(Str.ofString "result", .ref rl),(Str.ofString "header_values", .ref ll)] m∧H'=(rl,af ws)::(P,bT fX)::(jk++H)∧
  (i=0∧ws=[]∨i=1∧∃pl vs kB,ws=[.ref pl]∧jk=(pl,af vs)::kB∧fQ kB vs ps))
  (λi m H' hI=>by refine eX hI λws jk _ zr340 _=>?_;clear hI;subst zr340;exact .inl (.tail _ (.tail _ (List.mem_append_right _ jS)))) ?_ ?_ 0 (Nat.zero_le _) ⟨[],[],by walk_at "aw_subl",rfl, .inl ⟨rfl,rfl⟩⟩
 ·intro i J0 jP v m1 H1 hi hv MG;refine eX MG λws jk hm zr341 kR=>?_;clear MG;subst zr341
  obtain rfl:i=0:=by simpa using hi
  obtain rfl:v= .str (headText ps) t:=by exact(Option.some.inj hv.symm)
  refine xA (show(0:Nat)=0∧ws=[] from by
   rcases kR with kR|kR
   ·exact kR
   ·exact absurd kR.1 (by decide)) λ_ zr342=>?_;subst zr342
  refine bO hm ?_
  refine bQ ?_
  walk_at "awa"
  refine dF ?_
  walk_at "awa"
  refine⟨by show(0:Nat)≤sizeLine;exact @id ((0:Nat)≤sizeLine) (@zU sizeLine),λpl=>?_⟩
  walk_at "awa"
  refine bu (.tail (.tail (.tail .head))) ?_
  refine bu (.tail .head) ?_
  have Yg:∀i,(bV (ps.drop i)).length≤902:=λi=>by
   have:=CT i
   have e2:(Str.ofString "; ").length=2:=by decide
   cases hd:ps.drop i with
   |nil=>exact Nat.zero_le _
   |cons p r=>rw[hd] at this;show(Str.ofString "; "++headText (p::r)).length≤_;refine aa (Str.length_append ..) ?_;exact @(ln 0x21088210f0c2fcc205838417e6100a6010802).1 ((Str.ofString "; ").length) ((headText (p::r)).length) e2 this
  refine rS (λn m H'=>∃(i:Nat) (b:Bool) (vs:List Value) (br:Led) (t1:Tok),(b=true->i<ps.length)∧i≤ps.length∧n=2*(ps.length-i)+(if b=true then 0 else 1)∧
   SubL [(Str.ofString "pairs", .ref pl),(Str.ofString "orig_text", .str (headText ps) t),(Str.ofString "text", .str (if b=true then headText (ps.drop i) else bV (ps.drop i)) t1),(Str.ofString "result", .ref rl),(Str.ofString "header_values", .ref ll)] m∧
   H'=(pl,af vs)::(P,bT fX)::(br++(it,fu ll (0+1))::(rl,af [])::(jk++H))∧fQ br vs (ps.take i))
   (2*ps.length) ⟨0,true,[],[],t,λ_=>h0,Nat.zero_le _,by exact Nat.add_zero _,by walk_at "aw_subl",rfl,fQ.nil⟩ ?_
  intro n J hJ m2 H2 MH;refine Mw MH λi b vs br t1 hb Ce hn dH zr343 qI=>?_;clear MH;subst zr343
  refine bO dH ?_
  have fE:=qI.1
  rw[List.length_take] at fE
  cases b with
  |true=>
   have bR:i<ps.length:=hb rfl
   simp only [if_true] at dH hn ⊢
   have oX:ps.drop i=ps[i]::ps.drop (i+1):=List.drop_eq_getElem_cons bR
   have qK:=gK _ (List.getElem_mem bR)
   have jV:=CT i
   rw[oX] at jV dH ⊢
   generalize lR:ps[i]=p at*
   generalize hr:ps.drop (i+1)=rr at*
   have hlen:0<(headText (p::rr)).length:=by
    refine xA qK λzr344 _=>?_;clear qK;refine ah zr344 λj hj hp=>?_
    refine aa (sy ..) (aa (Str.length_append ..) (aa (hp ..) ?_))
    have:=(yr j hj).2.1
    exact JV this
   walk_at "awa"
   refine Bg (by exact Kc jV) ?_
   refine aa (show(((headText (p::rr)).length:Int) !=0)=true by simp;exact Nat.ne_of_gt ‹_›) ?_
   walk_at "awa"
   refine cI C' (eG.n Pt.tok) ?_
   with_reducible refine mT C'.X Pt.tok tP wN ?_
   refine cF ?_
   walk_at "awa"
   with_reducible refine uF (r:=some ⟨0,p.1.length,[rawInt 0,rawInt p.1.length]⟩) C'.X Pt.tok (by exact Nat.le_trans ‹_› (by decide)) (Ww qK (by exact Nat.le_trans ‹_› (by decide))) Ja ?_
   intro ma tp
   walk_at "awa"
   refine F8 (.head _) ?_
   walk_at "awa"
   ((with_reducible refine cI (by assumption) (FnAt.n (aT.n5 (by assumption))) ?_;with_reducible refine eO (Cx.X (by assumption)) (aT.n5 (by assumption)) ?_))
   walk_at "awa"
   have ex:headText (p::rr)=p.1++(Str.ofString "=\""++(p.2++(Str.ofString "\""++bV rr))):=sy p rr
   have un1:Txt.slice (headText (p::rr)) none (some ((0:Nat):Int))++Txt.slice (headText (p::rr)) (some (p.1.length:Int)) none=Str.ofString "=\""++(p.2++(Str.ofString "\""++bV rr)):=by refine aa ex ?_;exact Me _ _
   refine F9 T C' (r'.le (by assumption)) (b:=0) (e:=p.1.length) (.head _) (.tail _ (.head _)) (by exact Nat.le_trans ‹_› (by decide)) λt2 j1=>?_
   refine aa un1 ?_
   walk_at "awa"
   refine A7 (.tail _ (.head _)) DP Mb ?_
   refine cF ?_
   walk_at "awa"
   refine Fj (b:=0) (e:=p.1.length) (b1:=0) (e1:=p.1.length) (.tail _ (.head _)) (.tail _ (.tail _ (.head _))) (by exact @(ln 0x8422084210038417e600053880ff300802).1 ((headText (p::rr)).length) sizeLine aP jV) λt3=>?_
   refine aa (show(⟨(headText (p::rr)).cps.extract 0 p.1.length⟩:Str)=p.1 by rw[ex];exact Vs _ _) ?_
   walk_at "awa"
   have I4:∃d:Nat,d<4∧p.2=word d:=qK.2
   refine ah I4 λd hd hw=>?_;clear I4
   refine cP (Mk d hd) λw1 w2 w3=>?_
   have Cz:(Str.ofString "=\"").length=2:=by decide
   have Xy:(Str.ofString "\"").length=1:=by decide
   have zj:p.2.length=9:=by refine aa hw ?_;exact w2
   have CS:(Str.ofString "=\""++(p.2++(Str.ofString "\""++bV rr))).length≤1000:=by
    have e3:=jV
    rw[ex,Str.length_append] at e3
    exact(ln 0x84410fd02fcc00e105f9802b00402).1 e3
   generalize pB:Str.ofString "=\""++(p.2++(Str.ofString "\""++bV rr))=xq at*
   have Xz:Ends 1 (forSearch (aS 19) xq.cps 1 0 xq.cps.size false) (some ⟨0,p.2.length+3,[rawInt 2,rawInt (p.2.length+2)]⟩):=by refine aa (Eq.symm pB) ?_;exact Wu qK (by exact(ln 0x844108c35013f30038417e6000401).1 jV)
   refine cI C' (eG.n Pt.tL) ?_
   with_reducible refine mT C'.X Pt.tL tP wN ?_
   refine cF ?_
   walk_at "awa"
   with_reducible refine uF (r:=some ⟨0,p.2.length+3,[rawInt 2,rawInt (p.2.length+2)]⟩) C'.X Pt.tL (by exact Nat.le_trans ‹_› (by decide)) Xz Ja ?_
   intro ma2 tp2
   walk_at "awa"
   refine F8 (.head _) ?_
   walk_at "awa"
   ((with_reducible refine cI (by assumption) (FnAt.n (aT.n5 (by assumption))) ?_;with_reducible refine eO (Cx.X (by assumption)) (aT.n5 (by assumption)) ?_))
   walk_at "awa"
   have un2:Txt.slice xq none (some ((0:Nat):Int))++Txt.slice xq (some ((p.2.length+3:Nat):Int)) none=bV rr:=by
    have e4:xq=(Str.ofString "=\""++(p.2++Str.ofString "\""))++bV rr:=by refine aa (Eq.symm pB) ?_;simp only [Str.append_assoc]
    have e5:p.2.length+3=(Str.ofString "=\""++(p.2++Str.ofString "\"")).length:=by simp only [Str.length_append];exact @(ln 0x802008801004220842202c2b1cc0b1066210a6110803).1 p.snd.length ((Str.ofString "=\"").length) ((Str.ofString "\"").length) Cz Xy
    refine aa e5 (aa e4 ?_)
    exact Me _ _
   refine F9 T C' (r'.le (by exact Kq)) (b:=0) (e:=p.2.length+3) (.head _) (.tail _ (.head _)) (by exact Nat.le_trans ‹_› (by decide)) λt4 j2=>?_
   refine aa un2 ?_
   walk_at "awa"
   refine A7 (.tail _ (.head _)) DP Mb ?_
   refine cF ?_
   walk_at "awa"
   refine Fj (b:=0) (e:=p.2.length+3) (b1:=2) (e1:=p.2.length+2) (.tail _ (.head _)) (.tail _ (.tail _ (.head _))) (by exact @JW xq.length sizeLine aP CS) λt5=>?_
   refine aa (show(⟨xq.cps.extract 2 (p.2.length+2)⟩:Str)=p.2 by rw[<-pB];exact Vt _ _ _) ?_
   walk_at "awa"
   refine cI C' (eG.n Pt.r4) ?_
   with_reducible refine mT C'.X Pt.r4 Af Mc ?_
   refine cF ?_
   walk_at "awa"
   refine Fq C' (vf g C'.X) (.tail (.tail (.tail (.tail (.tail (.tail (.tail .head))))))) λf=>?_
   walk_at "awa"
   refine F4 C'.X Pt.r4 (.head _) (by exact @(ln 0x422087e817e600266010401).1 p.snd.length zj) (by exact @(ln 0x100441080130a66010401).1 p.snd.length zj) (yv (by refine aa hw ?_;exact w3)) λjn t6=>?_
   walk_at "awa"
   refine iO (.tail _ (.tail _ (.tail _ (.tail _ (.tail _ (.tail _ (.tail _ (.tail _ (.tail _ (.head _)))))))))) PySem.F.slot_list_append PySem.F.type_list_append ?_
   refine cF ?_
   walk_at "awa"
   refine rT ?_
   walk_at "awa"
   refine⟨by show(2:Nat)≤sizeLine;exact Nat.le_add_left _ _,λtu=>?_⟩
   walk_at "awa"
   refine bu (.tail (.tail (.tail (.tail (.tail (.tail (.tail (.tail (.tail (.tail .head)))))))))) ?_
   refine jL (by exact @JX vs.length sizeLine ps.length i (Min.min i ps.length) hz aP fE (Eq.refl (Min.min i ps.length))) ?_
   with_reducible refine i8 ?_
   refine bu (.tail (.tail (.tail (.tail .head)))) ?_
   refine bu (.tail .head) ?_
   walk_at "awa"
   refine qY (k:=2*(ps.length-(i+1))+1) (by lia) (hJ ⟨i+1,false,vs++[.ref tu],[_,_,_,_,_,_,_,_,_]++br,t4,(λe=>by cases e),by assumption,by rfl,?_,rfl,?_⟩)
   ·simp only [Bool.false_eq_true,if_false]
    refine aa hr ?_
    walk_at "aw_subl"
   ·have e8:ps.take (i+1)=ps.take i++[(p.1,p.2)]:=by
     exact aa (List.take_succ_eq_append_getElem bR) (aa lR rfl)
    refine aa e8 ?_
    exact(qI.mono λq hq=>List.mem_append_right _ hq).snoc (.head _)
  |false=>
   have he:(if false=true then headText (ps.drop i) else bV (ps.drop i))=bV (ps.drop i):=rfl
   rw[he] at dH ⊢
   have jV:=Yg i
   cases oX:ps.drop i with
   |nil=>
    have WW:i=ps.length:=by
     have:=List.length_drop (i:=i) (l:=ps)
     rw[oX] at this
     simp at this
     exact(ln 0x2000000088000000108820000000844008020004410842100801128409882000c03).1 Ce this (Eq.refl (ps.length-i))
    subst WW
    walk_at "awa"
    refine Bg (by show((0:Nat):Int)<_;exact Int.natCast_nonneg _) ?_
    refine aa (show(((bV []).length:Int) !=0)=false from rfl) ?_
    walk_at "awa"
    rw[Nat.min_self] at fE
    refine uI (.head _) (by exact Dp hz fE) ?_
    have bF:(!vs.isEmpty)=true:=by cases vs with|nil=>simp at fE;exact False.elim (JY h0 fE)|cons=>rfl
    refine aa bF ?_
    walk_at "awa"
    refine iO (.tail _ (.tail _ (List.mem_append_right _ (.tail _ (.head _))))) PySem.F.slot_list_append PySem.F.type_list_append ?_
    refine cF ?_
    walk_at "awa"
    refine bu (.tail (.tail (aZ.app (.tail .head) br))) ?_
    refine jL (by show(0:Nat)≤sizeLine;lia) ?_
    with_reducible refine i8 ?_
    refine bu (.tail (.tail .head)) ?_
    refine bu (.tail .head) ?_
    walk_at "awa"
    refine fU (.tail (.tail (.tail (aZ.app .head br)))) (jP ⟨[.ref pl],(pl,af vs)::(br++jk),by walk_at "aw_subl",by simp, .inr ⟨rfl,pl,vs,br++jk,rfl,rfl,?_⟩⟩)
    rw[List.take_length] at qI
    exact qI.mono λq hq=>List.mem_append_left _ hq
   |cons p rr=>
    rw[oX] at jV dH
    have bR:i<ps.length:=by
     have:=List.length_drop (i:=i) (l:=ps)
     rw[oX] at this
     simp at this
     exact(ln 0x1004001040100401104210802008d430cc4b10804).1 this (Eq.refl (ps.length-i))
    have qK:mJ p:=gK _ (List.mem_of_mem_drop (i:=i) (by refine aa oX ?_;exact .head _))
    refine iy (semi_twin (r:=rr) qK (by exact Nat.le_trans ‹_› (by decide))) λtw1 tw2 L7 L8=>?_
    refine xA (semi_strip (p:=p) (r:=rr)) λls1 ZN=>?_
    have kh:(headText (p::rr)).length≤900:=by refine aa (Eq.symm oX) ?_;exact CT i
    generalize Jl:bV (p::rr)=xt at*
    have hlen:2<xt.length:=L7
    walk_at "awa"
    refine Bg (by exact @(ln 0x21104280000000000000006fe607938617e6000401).1 xt.length jV) ?_
    refine aa (show((xt.length:Int) !=0)=true by simp;exact @(ln 0x200882104c023005308401).1 xt.length hlen) ?_
    walk_at "awa"
    refine cI C' (eG.n Pt.tok) ?_
    with_reducible refine mT C'.X Pt.tok tP wN ?_
    refine cF ?_
    walk_at "awa"
    have XI:Ends 1 (forSearch (aS 18) xt.cps 1 0 xt.cps.size false) none:=by refine aa (Eq.symm Jl) ?_;exact semi_tok (by refine aa Jl ?_;exact Nat.le_trans ‹_› (by decide))
    with_reducible refine uF (r:=none) C'.X Pt.tok (by exact Nat.le_trans ‹_› (by decide)) XI (λq e=>by cases e) ?_
    show AW _ _ _ _ _ _ _ _
    walk_at "awa"
    refine RT ls1 (by exact @(ln 0x8422084210038617e600053880ff300802).1 xt.length sizeLine aP jV) λt2=>?_
    walk_at "awa"
    refine F1 ZN ?_
    walk_at "awa"
    (with_reducible show AW _ _ _ _ (execs (.Assign [.Tuple _ _ _] _ _::_) _) _ _ _)
    with_reducible refine yd ?_
    walk_at "awa"
    refine cI C' (eG.n Pt.twin) ?_
    with_reducible refine mT C'.X Pt.twin DR type_pat_subn ?_
    refine cF ?_
    walk_at "awa"
    have hem:(Str.ofString "").length=0:=by decide
    refine Ti (e:=2) (sp:=[]) (z:=headText (p::rr)) C'.X Pt.twin (by decide+kernel) (by exact Nat.le_trans ‹_› (by decide)) (by exact Nat.le_add_left _ _) (by decide) L7 tw1 tw2 ?_ ?_ λcV tp3 t3 t4=>?_
    ·refine aa L8 ?_
     show _=Builtin.Str.glued _ _
     refine aa (StrLaws.glued_eq_join ..) ?_
     show _=Str.ofString ""++⟨#[]⟩++headText (p::rr)
     apply Str.ext'
     have:(Str.ofString "").cps= #[]:=by decide
     simp[Str.cps_append,this]
    ·refine aa L8 ?_
     refine zI (B:=900) (λq hq=>?_) (by show 2*(900+0)≤10000;decide)
     simp only [List.mem_cons,List.not_mem_nil,or_false] at hq
     rcases hq with rfl|rfl
     ·exact Nat.le_add_left _ _
     ·exact kh
    refine oJ C'.hh (.head _) ?_
    refine bQ ?_
    walk_at "awa"
    refine bQ ?_
    walk_at "awa"
    refine FT ?_
    walk_at "awa"
    refine⟨by decide,?_⟩
    refine bu (.tail (.tail .head)) ?_
    refine bu (.tail (.tail (.tail .head))) ?_
    refine bu (.tail .head) ?_
    walk_at "awa"
    refine qY (k:=2*(ps.length-i)) (by simp only [Bool.false_eq_true,if_false] at hn;exact Nat.le_of_eq (Eq.symm ‹_›)) (hJ ⟨i,true,vs,[_,_]++br,t3,(λ_=>bR),by omega,by exact Nat.add_zero _,?_,rfl,?_⟩)
    ·refine aa (if_pos rfl) (aa oX ?_)
     walk_at "aw_subl"
    ·exact qI.mono λq hq=>List.mem_append_right _ hq
 ·intro m1 H1 MI;refine eX MI λws jk hm zr345 kR=>?_;clear MI;subst zr345
  refine xAEEEAA (show 1=1∧∃pl vs kB,ws=[.ref pl]∧jk=(pl,af vs)::kB∧fQ kB vs ps from by
   rcases kR with kR|kR
   ·exact absurd kR.1 (by show¬((1:Nat)=0);decide)
   ·exact kR) λ_ pl vs kB zr346 zr347 qI=>?_;subst zr346;subst zr347
  refine bO hm ?_
  walk_at "awa"
  exact h rl pl vs kB qI
end
end
section
noncomputable def dM (prog:Program)(w:World)(d:Addr)(kvs:List (Str×Value))(ep:Nat):Obj->Prop:=λo=>(d==sysModules)=false∧
 ∃es,o.ExactDict∧o.data= .dict es ep∧KeysOf (strKind prog w) es∧Pairs (strKind prog w) es.toList kvs∧(kvs.map (·.1)).Nodup
noncomputable def aK (prog:Program)(w:World)(d:Addr)(kvs:List (Str×Value)):Obj->Prop:=λo=>(d==sysModules)=false∧o.IsDictOf (strKind prog w) kvs
theorem dM.GU (h:dM prog w d kvs ep o):aK prog w d kvs o:=let⟨a,es,r⟩:=h;⟨a,es,ep,r⟩
theorem aK.ep (h:aK prog w d kvs o):∃ep,dM prog w d kvs ep o:=let⟨a,es,ep,r⟩:=h;⟨ep,a,es,r⟩
theorem aK.of {h:Heap}(e:h.get? d=some o)(p:aK prog w d kvs o):h.DictOf (strKind prog w) d kvs:=Heap.dictOf_iff.mpr ⟨o,e,p.2⟩
theorem dM.at {h:Heap}(e:h.get? d=some o)(p:dM prog w d kvs ep o):h.DictAt (strKind prog w) d kvs ep:=let⟨_,es,r⟩:=p;⟨o,es,e,r⟩
noncomputable def di (prog:Program)(w:World)(d:Addr)(kvs:List (Str×Value))(H:Led):Prop:=∃P,(d,P)∈H∧∀o,P o->aK prog w d kvs o
theorem di.mk (h:(d,aK prog w d kvs)∈H):di prog w d kvs H:=⟨_,h,λ_ p=>p⟩
theorem di.pG (h:(d,dM prog w d kvs ep)∈H):di prog w d kvs H:=⟨_,h,λ_ p=>p.GU⟩
theorem LQ {k:Str}(h:k∈kvs.map (·.1))(v:Value):PySem.stored kvs k v=kvs.map (λkv=>if kv.1=k then(kv.1,v) else kv):=by
 unfold PySem.stored
 rw[if_pos]
 refine ah (List.mem_map.mp h) λq hq e=>?_
 exact List.any_eq_true.mpr ⟨q,hq,decide_eq_true e⟩
theorem wL {k:Str}(h:k∉kvs.map (·.1))(v:Value):PySem.stored kvs k v=kvs++[(k,v)]:=by
 unfold PySem.stored
 rw[if_neg]
 rw[List.any_eq_true]
 intro MB;refine ah MB λq hq e=>?_;clear MB
 exact h (List.mem_map.mpr ⟨q,hq,of_decide_eq_true e⟩)
theorem D0 {k:Str}(h:k∉kvs.map (·.1)):valueAt kvs k=none:=by
 unfold valueAt
 rw[List.find?_eq_none.mpr]
 ·rfl
 ·intro q hq e
  exact h (List.mem_map.mpr ⟨q,hq,of_decide_eq_true e⟩)
theorem wQ (hn:(kvs.map (·.1)).Nodup){i:Nat}{k:Str}{v:Value}(hx:kvs[i]?=some (k,v)):valueAt kvs k=some v:=valueAt_of_get hn hx
section
variable {prog:Program}{w:World}{A:Around}{h₀:Heap}{L d:Addr}{m:Loc}{H H':Led}{kvs:List (Str×Value)}{k:Str}{t:Tok}{v:Value}{env:Env}
theorem di.dictOf {h:Heap}(x:di prog w d kvs H)(S:St h₀ L h m H):h.DictOf (strKind prog w) d kvs∧(d==sysModules)=false:=by
 refine ah x λP hm hp=>?_;clear x
 refine ah (S.get hm) λo e p=>?_
 exact⟨(hp o p).of e,(hp o p).1⟩
theorem di.nodup (x:di prog w d kvs H)(S:St h₀ L h m H):(kvs.map (·.1)).Nodup:=by
 obtain ⟨⟨o,es,ep,_,_,_,_,_,hn⟩,_⟩:=x.dictOf S;exact hn
theorem FJ (hp:∀o,P o->P' o)(h:AW M A h₀ L tr Q m ((a,P')::H)):AW M A h₀ L tr Q m ((a,P)::H):=
 λs R E S kk=>h s R E (S.pred hp) kk
theorem uB (x:di prog w d kvs H)(h:(kvs.map (·.1)).Nodup->AW M A h₀ L tr Q m H):AW M A h₀ L tr Q m H:=
 λs R E S kk=>h (x.nodup S) s R E S kk
theorem Q7 (h:∀ep,AW M A h₀ L tr Q m ((d,dM prog w d kvs ep)::H)):AW M A h₀ L tr Q m ((d,aK prog w d kvs)::H):=
 λs R E S kk=>by
  refine j4 (S.nw _ (.head _)) λo e p n1 n2=>?_
  refine xE (aK.ep p) λep pe=>?_
  refine h ep s R E ⟨S.fr,λq hq=>?_,S.nd⟩ kk
  rcases List.mem_cons.mp hq with rfl|hq
  ·exact⟨o,e,pe,n1,n2⟩
  ·exact S.nw q (.tail _ hq)
theorem E8 (x:di prog w d kvs H)(h:Q (.bool (valueAt kvs k).isSome) m H):AW (model prog w) A h₀ L (compareOp .In (.str k t) (.ref d)) Q m H:=λs R E S kk=>by
 refine xA (x.dictOf S) λhd lo=>?_
 exact wpAny_in_of (strKind_is _ _ _ _) lo hd.mapOf (kk _ m H _ _ S h)
theorem lJ (x:di prog w d kvs H)(hv:valueAt kvs k=some v)(h:Q v m H)
 (hs:subscripted slice false (.ref d) (.str k t)=operate [.ref d, .str k t] (getItem (.ref d) (.str k t)):=by with_unfolding_all rfl):
 AW (model prog w) A h₀ L (subscriptTail value slice (.ref d) (.str k t)) Q m H:=λs R E S kk=>by
 refine xA (x.dictOf S) λhd lo=>?_
 exact tail_any hd.typeIs slot_dict_getitem.lookup (wpAny_getItem_of (strKind_is _ _ _ _) hd.mapOf hv (kk _ m H _ _ S h)) hs
theorem A3 {id:String}{pl:Sem Bool}{Q:Value×List Value->Loc->Led->Prop}(x:di prog w d kvs H)(slot:Slot "dict" name id)(ty:typeOf (.builtin id)=pure (.type "method_descriptor"))
 (h:Q (.builtin id,[.ref d]) m H):AW (model prog w) A h₀ L (getMethod (.ref d) name pl) Q m H:=λs R E S kk=>by
 refine xA (x.dictOf S) λhd lo=>?_
 exact getMethod_builtin hd.typeIs PySem.F.plainAttrs_dict slot ty hd.mapOf.noDict (kk _ m H _ _ S h)
theorem E7 (x:di prog w d kvs H)(h:Q ((valueAt kvs k).getD .none) m H):AW (model prog w) A h₀ L (call (.builtin "dict.get") [.ref d, .str k t]) Q m H:=λs R E S kk=>by
 refine xA (x.dictOf S) λhd lo=>?_
 exact call_meetsIn PySem.F.slot_dict_get hd.typeIs PySem.F.entry_dict_get (PySem.F.args_dict_get_2 _ _) (meets_dict_get (strKind prog w) d (strKind_is _ _ _ _) lo) ⟨_,hd.mapOf,kk _ m H _ _ S h⟩
theorem uC (hz:kvs.length≤1000)(h:Q () m ((d,aK prog w d (PySem.stored kvs k v))::H)):AW (model prog w) A h₀ L (setItem (.ref d) (.str k t) v) Q m ((d,aK prog w d kvs)::H):=λs R E S kk=>by
 have aP:(1000:Nat)≤sizeLine:=by decide
 refine xA ((di.mk (.head _)).dictOf S) λhd lo=>?_
 refine wpAny_setItem_pairs (hsz:=by exact Nat.le_trans ‹_› ‹_›) (strKind_is _ _ _ _) hd λh' hm hs=>?_
 refine ah (Heap.dictOf_iff.mp hm) λo' gu ff=>?_
 exact kk _ m _ _ _ (S.upd hs gu ⟨lo,ff⟩) h
theorem Q6 (hz:kvs.length≤1000)(hv:(valueAt kvs k).isSome=true)(h:Q () m ((d,aK prog w d (without kvs k))::H)):AW (model prog w) A h₀ L (delItem (.ref d) (.str k t)) Q m ((d,aK prog w d kvs)::H):=λs R E S kk=>by
 have aP:(1000:Nat)≤sizeLine:=by decide
 refine xA ((di.mk (.head _)).dictOf S) λhD lo=>?_
 unfold delItem
 try with_reducible refine wpAny_holding ?_
 refine wpAny_bind (wpAny_sequenceKey hD.typeIs (by decide) ?_)
 refine wpAny_bind (wpAny_callSpecial?_slot (name:=Str.ofString "__delitem__") hD.typeIs PySem.F.slot_dict_delitem
  (call_meetsIn PySem.F.slot_dict_delitem hD.typeIs PySem.F.entry_dict_delitem (PySem.F.args_dict_delitem_2 _ _) (meets_dict_delitem_pairs (strKind prog w) d (strKind_is _ _ _ _)) ⟨kvs,hD,by exact @KL kvs.length sizeLine hz aP,hv,λh' iE hs=>?_⟩))
 refine ah (Heap.dictOf_iff.mp iE) λo' gu ff=>?_
 exact wpAny_pure (kk _ m _ _ _ (S.upd hs gu ⟨lo,ff⟩) h)
end
section
variable {G:Gx}{A:Around}{h₀:Heap}{L d:Addr}{m:Loc}{H H':Led}{kvs:List (Str×Value)}{gf env:Env}
theorem xY (C:Cx G A h₀ L gf)(h:∀d,Q (.ref d) m ((d,aK G.prog G.w d [])::H)):AW (model G.prog G.w) A h₀ L (eval (.Dict [] [] pos) env) Q m H:=λs R E S kk=>by
 refine wpAny_Dict_empty ?_
 refine ah S.fr λmf F g=>?_
 exact kk _ m _ _ _ (S.cL (P:=aK G.prog G.w s.heap.objs.size []) ⟨F.notModules (modules_low C.T.nolimit),#[],0,⟨rfl,rfl,rfl⟩,rfl,λ_ he=>by simp at he,Pairs.nil,List.nodup_nil⟩) (h _)
end
noncomputable def pW (d:Addr)(n ep i:Nat):Obj->Prop:=λo=>o.cls= .type "dict_keyiterator"∧o.data= .fields #[.ref d, .int i 0, .int n 0, .int ep 0]
noncomputable def xU (d:Addr)(n ep i:Nat):Obj->Prop:=λo=>o.cls= .type "dict_valueiterator"∧o.data= .fields #[.ref d, .int i 0, .int n 0, .int ep 0]
noncomputable def uw (d:Addr):Obj->Prop:=λo=>o.cls= .type "dict_values"∧o.data= .fields #[.ref d]
section
variable {prog:Program}{w:World}{A:Around}{h₀:Heap}{L d it:Addr}{m:Loc}{H H':Led}{kvs:List (Str×Value)}{k:Str}{t:Tok}{v:Value}{env:Env}{ep:Nat}
theorem A5 {Q:Value->Loc->Led->Prop}(x:(d,dM prog w d kvs ep)∈H)(h:∀it,Q (.ref it) m ((it,pW d kvs.length ep 0)::H)):AW (model prog w) A h₀ L (pyIter (.ref d)) Q m H:=λs R E S kk=>by
 refine ah (S.get x) λo e p=>?_
 exact wpAny_pyIter_dict p.1 (p.at e) (kk _ m _ _ _ (S.cL (P:=pW d kvs.length ep 0) ⟨rfl,rfl⟩) (h _))
theorem TF (x:di prog w d kvs H)(h:∀vw,Q (.ref vw) m ((vw,uw d)::H)):AW (model prog w) A h₀ L (call (.builtin "dict.values") [.ref d]) Q m H:=λs R E S kk=>by
 refine xA (x.dictOf S) λhd lo=>?_
 exact call_meetsIn PySem.F.slot_dict_values hd.typeIs PySem.F.entry_dict_values (PySem.F.args_dict_values_1 _) (meets_dict_values (strKind prog w) d lo) ⟨⟨kvs,hd⟩,kk _ m _ _ _ (S.cL (P:=uw d) ⟨rfl,rfl⟩) (h _)⟩
theorem RC {Q:Value->Loc->Led->Prop}(hv:(vw,uw d)∈H)(x:(d,dM prog w d kvs ep)∈H)(h:∀it,Q (.ref it) m ((it,xU d kvs.length ep 0)::H)):AW (model prog w) A h₀ L (pyIter (.ref vw)) Q m H:=λs R E S kk=>by
 refine ah (S.get x) λo e p=>?_
 refine cQ (S.get hv) λov ev pv1 pv2=>?_
 exact wpAny_pyIter_values ⟨ov,ev,pv1,pv2⟩ (p.at e) (kk _ m _ _ _ (S.cL (P:=xU d kvs.length ep 0) ⟨rfl,rfl⟩) (h _))
theorem CX (hh:A.handled=none):jJ prog w A h₀ L it (pW d kvs.length ep) kvs.length (λi v=>∃k x t,kvs[i]?=some (k,x)∧v= .str k t) (λH=>(d,dM prog w d kvs ep)∈H) where
 next:=λi m H Q hi dep h s R E S kk=>by
  refine ah (S.get (.head _)) λo e p=>?_
  refine ah (S.get (.tail _ dep)) λod ed pd=>?_
  have hx:kvs[i]?=some ((kvs[i]'hi).1,(kvs[i]'hi).2):=List.getElem?_eq_getElem hi
  refine wpAny_pyNext_dict_item ⟨o,e,p⟩ (pd.at ed) hx λkey h' hk hit hs=>?_
  refine ah hit λo' e' p'=>?_;clear hit
  refine xE (Value.isStrOf_shape hk) λtk zr2=>?_;subst zr2
  exact kk _ m _ _ _ (S.upd hs e' p') (h _ ⟨_,_,tk,hx,rfl⟩)
 done:=λm H Q dep h s R E S kk=>by
  refine ah (S.get (.head _)) λo e p=>?_
  refine ah (S.get (.tail _ dep)) λod ed pd=>?_
  exact wpAny_pyNext_dict_end hh ⟨o,e,p⟩ (pd.at ed) (by simp) λh' hs=>kk _ m _ _ _ (S.ext hs) h
 go:=λi v m H target Q h s R E S kk=>by
  refine ah (S.get (.head _)) λo e p=>?_
  exact wV e p.1 (by decide) (kk _ m _ _ _ S h)
 self:=λi m H Q h s R E S kk=>by
  refine ah (S.get (.head _)) λo e p=>?_
  exact wpAny_pyIter_keyiter ⟨o,e,p⟩ (kk _ m _ _ _ S h)
theorem Ym (hh:A.handled=none):jJ prog w A h₀ L it (xU d kvs.length ep) kvs.length (λi v=>∃k,kvs[i]?=some (k,v)) (λH=>(d,dM prog w d kvs ep)∈H) where
 next:=λi m H Q hi dep h s R E S kk=>by
  refine ah (S.get (.head _)) λo e p=>?_
  refine ah (S.get (.tail _ dep)) λod ed pd=>?_
  have hx:kvs[i]?=some ((kvs[i]'hi).1,(kvs[i]'hi).2):=List.getElem?_eq_getElem hi
  refine wpAny_pyNext_values_item ⟨o,e,p⟩ (pd.at ed) hx λh' hit hs=>?_
  refine ah hit λo' e' p'=>?_;clear hit
  exact kk _ m _ _ _ (S.upd hs e' p') (h _ ⟨_,hx⟩)
 done:=λm H Q dep h s R E S kk=>by
  refine ah (S.get (.head _)) λo e p=>?_
  refine ah (S.get (.tail _ dep)) λod ed pd=>?_
  exact wpAny_pyNext_values_end hh ⟨o,e,p⟩ (pd.at ed) (by simp) λh' hs=>kk _ m _ _ _ (S.ext hs) h
 go:=λi v m H target Q h s R E S kk=>by
  refine ah (S.get (.head _)) λo e p=>?_
  exact wV e p.1 (by decide) (kk _ m _ _ _ S h)
 self:=λi m H Q h s R E S kk=>by
  refine ah (S.get (.head _)) λo e p=>?_
  exact wpAny_pyIter_valiter ⟨o,e,p⟩ (kk _ m _ _ _ S h)
end
end
section
open PySem.SeqAt
noncomputable def Holds (h:Heap)(H:Led):Prop:=∀q∈H,∃o,h.get? q.1=some o∧q.2 o
noncomputable def Rd (H:Led)(v:Value)(d:PyData):Prop:=∀h:Heap,Holds h H->∃as,Reads h v d as
noncomputable def cH (H:Led)(vs:List Value)(ds:List PyData):Prop:=∀h:Heap,Holds h H->∃as,ReadsAll h vs ds as
theorem Rd.mono (x:Rd H v d)(hs:∀q∈H,q∈H'):Rd H' v d:=λh k=>x h λq hq=>k q (hs q hq)
theorem cH.mono (x:cH H v d)(hs:∀q∈H,q∈H'):cH H' v d:=λh k=>x h λq hq=>k q (hs q hq)
theorem Rd.int (i t):Rd H (.int i t) (.int i):=λh _=>⟨_, .int i t⟩
theorem Rd.str (x t):Rd H (.str x t) (.str x):=λh _=>⟨_, .str x t⟩
theorem Rd.none:Rd H .none .none:=λh _=>⟨_, .none⟩
theorem cH.nil:cH H [] []:=λh _=>⟨_, .nil⟩
theorem cH.cons (x:Rd H v d)(y:cH H vs ds):cH H (v::vs) (d::ds):=λh k=>by
 refine xE (x h k) λa x=>?_
 refine xE (y h k) λb y=>?_
 exact⟨_, .cons x y⟩
theorem cH.app:∀{vs ds vs' ds'},cH H vs ds->vs.length=ds.length->cH H vs' ds'->cH H (vs++vs') (ds++ds')
 |[],[],_,_,_,_,y=>y
 |v::vs,d::ds,vs',ds',x,hl,y=>λh k=>by
  refine xE (x h k) λa x=>?_
  cases x with
  |cons x1 x2=>
   have lO:vs.length=ds.length:=by simpa using hl
   have:=cH.app (H:=[(0,λ_=>True)]) (vs:=vs) (ds:=ds) (vs':=vs') (ds':=ds')
   refine xE (y h k) λb y=>?_
   have z:∀{vs:List Value} {ds:List PyData} {as:List Addr},ReadsAll h vs ds as->∃cs,ReadsAll h (vs++vs') (ds++ds') cs:=by
    intro vs ds as r
    induction vs generalizing ds as with
    |nil=>cases r;exact⟨_,y⟩
    |cons v r ih=>cases r with
     |cons r1 r2=>refine xE (ih r2) λcs q=>?_;exact⟨_, .cons r1 q⟩
   refine xE (z x2) λcs q=>?_
   exact⟨_, .cons x1 q⟩
theorem Rd.lst (hm:(a,af vs)∈H)(x:cH H vs ds):Rd H (.ref a) (.list ds):=λh k=>by
 refine An (k _ hm) λo e n zr3=>?_;subst zr3
 refine xE (x h k) λb x=>?_
 exact⟨_, .list e rfl rfl (by simpa using x)⟩
theorem Rd.tup (hm:(a,bf vs)∈H)(x:cH H vs ds):Rd H (.ref a) (.tuple ds):=λh k=>by
 refine An (k _ hm) λo e n zr4=>?_;subst zr4
 refine xE (x h k) λb x=>?_
 exact⟨_, .tuple e rfl rfl (by simpa using x)⟩
theorem St.holds (S:St h₀ L h m H):Holds h H:=λq hq=>let⟨o,e,p,_⟩:=S.nw q hq;⟨o,e,p⟩
section
variable {prog:Program}{w:World}{A:Around}{h₀:Heap}{L:Addr}{m:Loc}{H:Led}{a b:Value}{da db:PyData}{Q:Value->Loc->Led->Prop}
theorem Ra (ra:Rd H a da)(rb:Rd H b db)(ha:shaped da=true)(hb:shaped db=true)(hu:A.units+64<cLine)(Cs:noMix da db=true)(h:Q (.bool (same da db)) m H):
 AW (model prog w) A h₀ L (compareOp .Eq a b) Q m H:=λs R E S k=>by
 refine xE (ra _ S.holds) λas ra=>?_
 refine xE (rb _ S.holds) λbs rb=>?_
 exact eq_dataH_same ra rb ha hb hu Cs (k _ m H _ _ S h)
theorem A9 (ra:Rd H a da)(rb:Rd H b db)(ha:shaped da=true)(hb:shaped db=true)(hu:A.units+64<cLine)(Cs:noMix da db=true)(h:Q (.bool (!same da db)) m H):
 AW (model prog w) A h₀ L (compareOp .NotEq a b) Q m H:=λs R E S k=>by
 refine xE (ra _ S.holds) λas ra=>?_
 refine xE (rb _ S.holds) λbs rb=>?_
 exact ne_dataH_same ra rb ha hb hu Cs (k _ m H _ _ S h)
end
end
section
section nat
variable {key key':Value->Int}{f:Value->Value}
theorem getD_map (hn:f .none= .none)(vs:List Value)(i:Nat):(vs.map f).getD i .none=f (vs.getD i .none):=by
 refine aa (List.getD_eq_getElem?_getD) (aa (List.getD_eq_getElem?_getD) (aa (List.getElem?_map) ?_))
 cases vs[i]? with
 |none=>exact hn.symm
 |some v=>rfl
theorem LG (hn:f .none= .none)(hk:∀v,key (f v)=key' v)(x:Value)(start:Nat):∀n vs pos,dS key (f x) start n (vs.map f) pos=((dS key' x start n vs pos).1.map f,(dS key' x start n vs pos).2)
 |0,_,_=>rfl
 |n+1,vs,pos=>by
  refine aa (pP ..) (aa (pP ..) (aa (getD_map hn ..) (aa (hk ..) (aa (hk ..) ?_))))
  split
  ·split
   ·rw[<-List.map_set,LG hn hk x start n]
   ·rfl
  ·rfl
theorem siftdownL_map (hn:f .none= .none)(hk:∀v,key (f v)=key' v)(vs:List Value)(s p:Nat):er key (vs.map f) s p=(er key' vs s p).map f:=by
 unfold er
 exact aa (getD_map hn ..) (aa (LG hn hk ..) (aa (List.map_set ..) rfl))
theorem Uw (hn:f .none= .none)(hk:∀v,key (f v)=key' v)(vs:List Value)(p:Nat):dG key (vs.map f) p=dG key' vs p:=by
 unfold dG
 exact aa (getD_map hn ..) (aa (getD_map hn ..) (aa (hk ..) (aa (hk ..) (aa (List.length_map ..) rfl))))
theorem LR (hn:f .none= .none)(hk:∀v,key (f v)=key' v):∀n vs pos,fH key n (vs.map f) pos=((fH key' n vs pos).1.map f,(fH key' n vs pos).2)
 |0,_,_=>rfl
 |n+1,vs,pos=>by
  refine aa (rj ..) (aa (rj ..) (aa (Uw hn hk ..) (aa (getD_map hn ..) (aa (List.length_map ..) ?_))))
  split
  ·rw[<-List.map_set,LR hn hk n]
  ·rfl
theorem LK (hn:f .none= .none)(hk:∀v,key (f v)=key' v)(vs:List Value)(p:Nat):cO key (vs.map f) p=(cO key' vs p).map f:=by
 unfold cO
 exact aa (getD_map hn ..) (aa (List.length_map ..) (aa (LR hn hk ..) (aa (Eq.symm (List.map_set ..)) (aa (siftdownL_map hn hk ..) rfl))))
theorem Ib (hn:f .none= .none)(hk:∀v,key (f v)=key' v):∀i vs,jy key i (vs.map f)=(jy key' i vs).map f
 |0,_=>rfl
 |i+1,vs=>by
  show jy key i (cO key (vs.map f) i)=(jy key' i (cO key' vs i)).map f
  exact aa (LK hn hk ..) (aa (Ib hn hk i ..) rfl)
theorem Wy (hn:f .none= .none)(hk:∀v,key (f v)=key' v)(vs:List Value):iU key (vs.map f)=(iU key' vs).map f:=by
 unfold iU
 exact aa (List.length_map ..) (aa (Ib hn hk ..) rfl)
noncomputable def gQ (key:Value->Int)(vs:List Value):Value×List Value:=jz key vs.dropLast (vs.getD (vs.length-1) .none)
noncomputable def cz (key:Value->Int)(vs:List Value):Nat->List Value
 |0=>vs
 |i+1=>(gQ key (cz key vs i)).2
noncomputable def lg (key:Value->Int)(vs:List Value)(i:Nat):Value:=(gQ key (cz key vs i)).1
theorem WB (hn:f .none= .none)(hk:∀v,key (f v)=key' v)(vs:List Value)(l:Value):jz key (vs.map f) (f l)=(f (jz key' vs l).1,(jz key' vs l).2.map f):=by
 unfold jz
 by_cases h:vs=[]
 ·subst h;rfl
 ·rw[if_neg h,if_neg (by simpa using h),getD_map hn,<-List.map_set,LK hn hk]
theorem Lr (hn:f .none= .none)(hk:∀v,key (f v)=key' v)(vs:List Value):gQ key (vs.map f)=(f (gQ key' vs).1,(gQ key' vs).2.map f):=by
 unfold gQ
 exact aa (List.length_map ..) (aa (getD_map hn ..) (aa (Eq.symm (List.map_dropLast ..)) (aa (WB hn hk ..) rfl)))
theorem HE (hn:f .none= .none)(hk:∀v,key (f v)=key' v)(vs:List Value):∀i,cz key (vs.map f) i=(cz key' vs i).map f
 |0=>rfl
 |i+1=>by
  show(gQ key (cz key (vs.map f) i)).2=(gQ key' (cz key' vs i)).2.map f
  rw[HE hn hk vs i,Lr hn hk]
theorem ordV_map (hn:f .none= .none)(hk:∀v,key (f v)=key' v)(vs:List Value)(i:Nat):lg key (vs.map f) i=f (lg key' vs i):=by
 unfold lg
 exact aa (HE hn hk ..) (aa (Lr hn hk ..) rfl)
end nat
section ord
variable {key key':Value->Int}
theorem LH (h:∀v w,key v<key w↔key' v<key' w)(x:Value)(start:Nat):∀n vs pos,dS key x start n vs pos=dS key' x start n vs pos
 |0,_,_=>rfl
 |n+1,vs,pos=>by
  refine aa (pP ..) (aa (pP ..) ?_)
  simp only [h,LH h x start n]
theorem siftdownL_ord (h:∀v w,key v<key w↔key' v<key' w)(vs:List Value)(s p:Nat):er key vs s p=er key' vs s p:=by
 unfold er
 exact aa (LH h ..) rfl
theorem Ux (h:∀v w,key v<key w↔key' v<key' w)(vs:List Value)(p:Nat):dG key vs p=dG key' vs p:=by
 unfold dG
 simp only [h]
theorem LS (h:∀v w,key v<key w↔key' v<key' w):∀n vs pos,fH key n vs pos=fH key' n vs pos
 |0,_,_=>rfl
 |n+1,vs,pos=>by
  exact aa (rj ..) (aa (rj ..) (aa (Ux h ..) (aa (LS h n ..) rfl)))
theorem LL (h:∀v w,key v<key w↔key' v<key' w)(vs:List Value)(p:Nat):cO key vs p=cO key' vs p:=by
 unfold cO
 exact aa (LS h ..) (aa (siftdownL_ord h ..) rfl)
theorem Ic (h:∀v w,key v<key w↔key' v<key' w):∀i vs,jy key i vs=jy key' i vs
 |0,_=>rfl
 |i+1,vs=>by
  show jy key i (cO key vs i)=jy key' i (cO key' vs i)
  exact aa (LL h ..) (aa (Ic h i ..) rfl)
theorem Wz (h:∀v w,key v<key w↔key' v<key' w)(vs:List Value):iU key vs=iU key' vs:=Ic h _ _
theorem Ls (h:∀v w,key v<key w↔key' v<key' w)(vs:List Value):gQ key vs=gQ key' vs:=by
 unfold gQ jz
 simp only [LL h]
theorem HF (h:∀v w,key v<key w↔key' v<key' w)(vs:List Value):∀i,cz key vs i=cz key' vs i
 |0=>rfl
 |i+1=>by
  show(gQ key (cz key vs i)).2=(gQ key' (cz key' vs i)).2
  rw[HF h vs i,Ls h]
theorem ordV_ord (h:∀v w,key v<key w↔key' v<key' w)(vs:List Value)(i:Nat):lg key vs i=lg key' vs i:=by
 unfold lg
 exact aa (HF h ..) (aa (Ls h ..) rfl)
end ord
theorem WC (key:Value->Int)(vs:List Value)(l:Value):((jz key vs l).2++[(jz key vs l).1]).Perm (vs++[l]):=by
 unfold jz
 by_cases h:vs=[]
 ·subst h;exact .refl _
 ·refine aa (if_neg h) ?_
  refine n6 (List.exists_cons_of_ne_nil h) λy ys zr206=>?_;subst zr206
  have p1:(cO key ((y::ys).set 0 l) 0).Perm ((y::ys).set 0 l):=DO key _ _ (by simp)
  refine(p1.append_right _).trans ?_
  show(l::(ys++[y])).Perm (y::(ys++[l]))
  have p2:(ys++[y]).Perm (y::ys):=List.perm_append_comm
  have p3:(ys++[l]).Perm (l::ys):=List.perm_append_comm
  exact(p2.cons l).trans ((List.Perm.swap _ _ _).trans (p3.symm.cons y))
theorem LP {vs:List Value}(h:vs≠[]):vs.dropLast++[vs.getD (vs.length-1) .none]=vs:=by
 have:=List.dropLast_concat_getLast h
 rw[List.getLast_eq_getElem] at this
 refine aa (List.getD_eq_getElem?_getD) (aa (List.getElem?_eq_getElem (by have:=List.length_pos_iff.mpr h;exact Nat.sub_lt_sub_left ‹_› (Nat.lt_succ_self _))) ?_)
 exact this
theorem Lu (key:Value->Int)(h:vs≠[]):((gQ key vs).2++[(gQ key vs).1]).Perm vs:=by
 have:=WC key vs.dropLast (vs.getD (vs.length-1) .none)
 rw[LP h] at this
 exact this
theorem BZ (key:Value->Int)(vs:List Value):∀i,i≤vs.length->(cz key vs i).length=vs.length-i
 |0,_=>rfl
 |i+1,h=>by
  have ih:=BZ key vs i (by exact Nat.le_of_lt ‹_›)
  have bF:cz key vs i≠[]:=by intro e;rw[e,List.length_nil] at ih;exact Y5 h ih (Eq.refl (vs.length-i))
  have:=(Lu key bF).length_eq
  rw[List.length_append,List.length_singleton] at this
  show(gQ key (cz key vs i)).2.length=_
  exact(ln 0x401004020040100401004220000000000080220802008020080011040100400004011042108460106625846a104aa20660588a411006).1 ih this (Eq.refl (vs.length-i)) (Eq.refl (vs.length-(i+1)))
theorem HG (key:Value->Int)(vs:List Value):∀i,i≤vs.length->∃l,(cz key vs i++l).Perm vs
 |0,_=>⟨[],by refine aa (List.append_nil ..) ?_;exact .refl _⟩
 |i+1,h=>by
  refine xE (HG key vs i (by exact Y6 h)) λl p=>?_
  have ih:=BZ key vs i (by lia)
  have bF:cz key vs i≠[]:=by intro e;rw[e,List.length_nil] at ih;lia
  refine⟨(gQ key (cz key vs i)).1::l,?_⟩
  show((gQ key (cz key vs i)).2++((gQ key (cz key vs i)).1::l)).Perm vs
  have:=(Lu key bF).append_right l
  rw[List.append_assoc] at this
  exact this.trans p
theorem WA (key:Value->Int)(vs:List Value):(iU key vs).Perm vs:=Ie key _ _ (by exact(ln 0x442084010002268402).1 (Eq.refl (vs.length/2)))
noncomputable def rZ (k:Nat):Value:= .int k 0
noncomputable def l7 (π:List Nat):Value->Int
 | .int k _=>if k.toNat<π.length then((π.getD k.toNat 0:Nat):Int) else 100
 |_=>100
noncomputable def z7 (π:List Nat):List Value:=(List.range π.length).map (lg (l7 π) (iU (l7 π) ((List.range π.length).map rZ)))
noncomputable def jH (π:List Nat):List Nat:=(z7 π).map λv=>match v with| .int k _=>k.toNat|_=>0
noncomputable def z8 (π:List Nat):Bool:=(jH π).isPerm (List.range π.length)&&(jH π).map rZ==z7 π&&(List.range π.length).all λi=>π.getD ((jH π).getD i 0) 0==i
theorem pops4:∀a<4,∀b<4,∀c<4,∀d<4,[a,b,c,d].Nodup->z8 [a,b,c,d]=true:=by decide+kernel
set_option synthInstance.maxHeartbeats 1000000 in
set_option synthInstance.maxSize 10000 in
theorem pops5:∀a<5,∀b<5,∀c<5,∀d<5,∀e<5,[a,b,c,d,e].Nodup->z8 [a,b,c,d,e]=true:=by decide+kernel
theorem pops (π:List Nat)(hn:π.length=4∨π.length=5)(aC:∀x∈π,x<π.length)(hd:π.Nodup):z8 π=true:=by
 rcases hn with hn|hn
 ·match π,hn with
  |[a,b,c,d],_=>
   have h:=λx hx=>aC x hx
   simp only [List.mem_cons,List.not_mem_nil,or_false,List.length_cons,List.length_nil] at h
   exact pops4 a (h a (by exact Or.inl rfl)) b (h b (by simp)) c (h c (by simp)) d (h d (by simp)) hd
 ·match π,hn with
  |[a,b,c,d,e],_=>
   have h:=λx hx=>aC x hx
   simp only [List.mem_cons,List.not_mem_nil,or_false,List.length_cons,List.length_nil] at h
   exact pops5 a (h a (by exact Or.inl rfl)) b (h b (by simp)) c (h c (by simp)) d (h d (by simp)) e (h e (by simp)) hd
theorem filter_lt (p q:α->Bool):∀(l:List α),(∀x∈l,p x=true->q x=true)->(∃x∈l,q x=true∧p x=false)->(l.filter p).length<(l.filter q).length
 |[],_,h=>by refine ah h λx hx _=>?_;clear h;cases hx
 |y::r,h1,h2=>by
  have le:(r.filter p).length≤(r.filter q).length:=by
   refine aa (Eq.symm List.countP_eq_length_filter) (aa (Eq.symm List.countP_eq_length_filter) ?_)
   exact List.countP_mono_left λx hx=>h1 x (.tail _ hx)
  refine cQ h2 λx hx hq hp=>?_;clear h2
  rcases List.mem_cons.mp hx with rfl|hx
  ·refine aa (List.filter_cons_of_pos hq) (aa (List.filter_cons_of_neg (by rw[hp];simp)) ?_)
   show _<(r.filter q).length+1
   exact Nat.lt_add_one_of_le ‹_›
  ·have ih:=filter_lt p q r (λx hx=>h1 x (.tail _ hx)) ⟨x,hx,hq,hp⟩
   by_cases Cy:p y=true
   ·refine aa (List.filter_cons_of_pos Cy) (aa (List.filter_cons_of_pos (h1 y (.head _) Cy)) ?_)
    show(r.filter p).length+1<(r.filter q).length+1
    exact Nat.add_lt_add_right ‹_› _
   ·refine aa (List.filter_cons_of_neg Cy) ?_
    by_cases I8:q y=true
    ·refine aa (List.filter_cons_of_pos I8) ?_
     show(r.filter p).length<(r.filter q).length+1
     exact Nat.lt_add_one_of_le ‹_›
    ·refine aa (List.filter_cons_of_neg I8) ?_;exact ih
noncomputable def fN (n:Nat)(wt:Nat->Int)(k:Nat):Nat:=((List.range n).filter λj=>decide (wt k<wt j)).length
theorem Lw (hk:k<n)(h:wt l<wt k):fN n wt k<fN n wt l:=
 filter_lt _ _ _ (λx _ hx=>by simp at hx ⊢;exact Dm h hx) ⟨k,List.mem_range.mpr hk,by simpa using h,by simp⟩
theorem Aa (hi:∀i j,i<n->j<n->wt i=wt j->i=j)(hk:k<n)(hl:l<n):fN n wt k<fN n wt l↔wt l<wt k:=by
 refine⟨λh=>?_,Lw hk⟩
 rcases Int.lt_trichotomy (wt l) (wt k) with q|q|q
 ·exact q
 ·obtain rfl:=hi _ _ hl hk q;exact @(ln 0x20104200100008421).1 (fN n wt l) (wt l) h
 ·have:=Lw hl q;exact @(ln 0x42010421080800842008842).1 (fN n wt k) (fN n wt l) (wt l) (wt k) h this
theorem Wx (hn:n=4∨n=5)(wt:Nat->Int)(hi:∀i j,i<n->j<n->wt i=wt j->i=j):
 ∃ord:List Nat,ord.Perm (List.range n)∧(∀i j,i<j->j<n->wt (ord.getD j 0)<wt (ord.getD i 0))∧
  ∀(key:Value->Int) (as:Nat->Addr),(∀k<n,key (.ref (as k))= -(wt k))->(∀k<n,-(wt k)<key .none)->
   ∀i<n,lg key (iU key ((List.range n).map λk=> .ref (as k))) i= .ref (as (ord.getD i 0)):=by
 refine xE (show∃π,π=(List.range n).map (fN n wt) from⟨_,rfl⟩) λπ vX=>?_
 have hl:π.length=n:=by refine aa (vX) ?_;simp
 have hg:∀k<n,π.getD k 0=fN n wt k:=λk hk=>by
  refine aa (vX) (aa (List.getD_eq_getElem?_getD) (aa (List.getElem?_map) (aa (List.getElem?_range hk) ?_)));rfl
 have aC:∀x∈π,x<π.length:=by
  intro x hx
  rw[vX] at hx
  refine ah (List.mem_map.mp hx) λk hk zr207=>?_;subst zr207
  refine aa hl ?_
  unfold fN
  have jB:=List.mem_range.mp hk
  have:=filter_lt (λj=>decide (wt k<wt j)) (λ_=>true) (List.range n) (λ_ _ _=>rfl) ⟨k,hk,rfl,by simp⟩
  have e:((List.range n).filter λ_=>true).length=n:=by refine aa (List.filter_eq_self.mpr (λ_ _=>rfl)) ?_;exact List.length_range ..
  rw[e] at this
  exact this
 have hd:π.Nodup:=by
  refine aa (vX) ?_
  refine List.pairwise_map.mpr ?_
  refine(List.pairwise_lt_range (n:=n)).imp_of_mem ?_
  intro a b ha hb jQ e
  have ve:=List.mem_range.mp ha
  have jw:=List.mem_range.mp hb
  have h1:=Aa hi ve jw
  have h2:=Aa hi jw ve
  rcases Int.lt_trichotomy (wt a) (wt b) with q|q|q
  ·have:=h2.mpr q;exact @(ln 0x840208400084410842908080084202442010c42).1 (fN n wt a) (fN n wt b) (wt a) (wt b) e h2.2 q
  ·have:=hi _ _ ve jw q;exact J5 jQ this
  ·have:=h1.mpr q;exact @(ln 0x10040208400084410842908081004202442010c42).1 (fN n wt a) (fN n wt b) (wt b) (wt a) e h1.2 q
 have hp:=pops π (by refine aa hl ?_;exact hn) aC hd
 unfold z8 at hp
 rw[Bool.and_eq_true,Bool.and_eq_true] at hp
 refine xA hp λzr208 p3=>?_;clear hp;refine xA zr208 λp1 p2=>?_
 have p1:=List.isPerm_iff.mp p1
 have p2:=eq_of_beq p2
 rw[hl] at p1
 have Lg:∀i<n,π.getD ((jH π).getD i 0) 0=i:=λi hi=>by
  have:=List.all_eq_true.mp p3 i (List.mem_range.mpr (by refine aa hl ?_;exact hi))
  exact eq_of_beq this
 have pl:(jH π).length=n:=by refine aa p1.length_eq ?_;exact List.length_range ..
 have pm:∀i<n,(jH π).getD i 0<n:=λi hi=>by
  have:(jH π).getD i 0∈jH π:=by
   refine aa (List.getD_eq_getElem?_getD) (aa (List.getElem?_eq_getElem (by exact Nat.lt_of_lt_of_eq ‹_› (Eq.symm ‹_›))) ?_);exact List.getElem_mem _
  exact List.mem_range.mp (p1.mem_iff.mp this)
 refine⟨jH π,p1,λi j dg hj=>?_,λkey as hk h0 i cA=>?_⟩
 ·have e1:=Lg i (by exact Nat.lt_trans ‹_› ‹_›)
  have e2:=Lg j hj
  rw[hg _ (pm i (by exact Y7 dg hj))] at e1
  rw[hg _ (pm j hj)] at e2
  exact(Aa hi (pm i (by lia)) (pm j hj)).mp (by exact @(ln 0x20084011042108401184420086208c04).1 (fN n wt ((jH π).getD i 0)) (fN n wt ((jH π).getD j 0)) i j dg e1 e2)
 ·refine xE (show∃f:Value->Value,f=λv=>match v with| .int k _=>if k.toNat<n then .ref (as k.toNat) else .none|_=> .none from⟨_,rfl⟩) λf hf=>?_
  have vn:f .none= .none:=by exact aa hf rfl
  have e0:((List.range n).map λk=>Value.ref (as k))=((List.range n).map rZ).map f:=by
   refine aa List.map_map ?_
   refine List.map_congr_left λk hk=>?_
   have:=List.mem_range.mp hk
   refine aa hf ?_
   show _=(if((k:Int)).toNat<n then Value.ref (as (k:Int).toNat) else .none)
   exact aa (Int.toNat_natCast ..) (aa (if_pos this ..) rfl)
  have eU:∀v w,key (f v)<key (f w)↔l7 π v<l7 π w:=by
   have h1:∀v,(∃k,k<n∧f v= .ref (as k)∧l7 π v=fN n wt k)∨(f v= .none∧l7 π v=100):=by
    intro v
    refine aa hf ?_
    cases v with
    |int k t=>
     by_cases h:k.toNat<n
     ·refine .inl ⟨k.toNat,h,by exact if_pos ‹_›,?_⟩
      show(if k.toNat<π.length then((π.getD k.toNat 0:Nat):Int) else 100)=_
      exact aa (if_pos (by rw[hl];exact h)) (aa (hg _ h) rfl)
     ·refine .inr ⟨by exact if_neg ‹_›,?_⟩
      show(if k.toNat<π.length then((π.getD k.toNat 0:Nat):Int) else 100)=_
      exact aa (if_neg (by rw[hl];exact h)) rfl
    |_=>exact .inr ⟨rfl,rfl⟩
   have hr:∀k<n,(fN n wt k:Int)<100:=λk hk=>by
    have:=aC (fN n wt k) (by refine aa (vX) ?_;exact List.mem_map.mpr ⟨k,List.mem_range.mpr hk,rfl⟩)
    rw[hl] at this
    exact @(ln 0x108441080210882108c82fcc0f204012cc2224c2240802).1 (fN n wt k) n hn this
   intro v w
   rcases h1 v with⟨k,jB,e1,e2⟩|⟨e1,e2⟩<;>rcases h1 w with⟨l,lO,e3,e4⟩|⟨e3,e4⟩
   ·refine aa e1 (aa e2 (aa e3 (aa e4 (aa (hk k jB) (aa (hk l lO) ?_)))))
    have:=Aa hi jB lO
    constructor<;>intro q
    ·have:=this.mpr (by exact(ln 0x8441084040443120440).1 q);exact Int.ofNat_lt.mpr ‹_›
    ·have:=this.mp (by exact Int.ofNat_lt.mp ‹_›);exact(ln 0x8441086208900120440).1 this
   ·refine aa e1 (aa e2 (aa e3 (aa e4 (aa (hk k jB) ?_))))
    have h2:=h0 k jB
    have h3:=hr k jB
    constructor<;>intro q<;>assumption
   ·refine aa e1 (aa e2 (aa e3 (aa e4 (aa (hk l lO) ?_))))
    have h2:=h0 l lO
    have h3:=hr l lO
    constructor<;>intro q<;>(first|exact @(ln 0x2100821081e320bf3202212041120841).1 (fN n wt l) (wt l) (key Value.none) h2 q|exact @(ln 0x210082108620201e320bf320c82fcc0f20841).1 (fN n wt l) (key Value.none) (wt l) h3 q)
   ·refine aa e1 (aa e2 (aa e3 (aa e4 ?_)));constructor<;>intro q<;>(first|exact(ln 0x201042320bf31905f9900020420).1 q|exact(ln 0x20104200106417e6320bf320420).1 q)
  refine aa (e0 ..) (aa (Wy (key':=λv=>key (f v)) vn (λv=>rfl) ..) (aa (ordV_map (key':=λv=>key (f v)) vn (λv=>rfl) ..) ?_))
  refine aa (Wz eU ..) (aa (ordV_ord eU ..) ?_)
  have e5:lg (l7 π) (iU (l7 π) ((List.range n).map rZ)) i=rZ ((jH π).getD i 0):=by
   have e6:(z7 π)[i]?=some (lg (l7 π) (iU (l7 π) ((List.range n).map rZ)) i):=by
    unfold z7
    refine aa hl (aa (List.getElem?_map) (aa (List.getElem?_range cA) ?_));rfl
   rw[<-p2,List.getElem?_map,List.getElem?_eq_getElem (by lia)] at e6
   refine aa (List.getD_eq_getElem?_getD) (aa (List.getElem?_eq_getElem (by lia)) ?_)
   exact(Option.some.inj e6).symm
  refine aa e5 (aa hf ?_)
  show(if(((jH π).getD i 0:Nat):Int).toNat<n then Value.ref (as (((jH π).getD i 0:Nat):Int).toNat) else .none)=_
  exact aa (Int.toNat_natCast ..) (aa (if_pos (pm i cA) ..) rfl)
end
section
open PySem.SeqAt
section
variable {prog:Program}{w:World}{A:Around}{h₀:Heap}{L:Addr}{m:Loc}{H:Led}{env:Env}
theorem Tz (hh:A.handled=none)(hm:(t,af [v1,v2])∈H)
 (h:AW (model prog w) A h₀ L (assign e1 env v1) (cK (model prog w) A h₀ L (assign e2 env v2) Q) m H)
 (he:assignEach [e1,e2] env=[(false,assign e1 env),(false,assign e2 env)]:=by with_unfolding_all rfl):
 AW (model prog w) A h₀ L (assign (.Tuple [e1,e2] k pos) env (.ref t)) Q m H:=λs R E S kk=>by
 refine ah (S.get hm) λo e p=>?_
 have hl:=p.isList e
 have O:=λit=>gw (prog:=prog) (w:=w) (A:=A) (h₀:=h₀) (L:=L) (it:=it) (l:=t) (vs:=[v1,v2]) hh
 refine aa (assign_Tuple ..) ?_
 refine wpAny_bind (wpAny_standAt ?_)
 unfold unpack
 refine aa he ?_
 refine wpAny_bind (wpAny_holding ?_)
 show wpAny _ _ (unpackItems (.ref t) 2 none) _ _ _
 unfold unpackItems
 refine wpAny_bind ?_
 unfold notIterableAtAll
 refine wpAny_bind (wpAny_specialOf hl.typeIs PySem.F.slot_list_iter.lookup ?_)
 refine wpAny_pure ?_
 simp only [Bool.false_eq_true,if_false]
 refine wpAny_bind (wpAny_holding (gZ (Q:=λv m' H'=>∃it,v= .ref it∧m'=m∧H'=(it,fu t 0)::H) (.inl hm) (λit=>⟨it,rfl,rfl,rfl⟩) _ _ _ S λv m1 H1 h1 aX S1 q1=>?_))
 refine cQ q1 λit zr5 zr6 zr7=>?_;clear q1;subst zr5;subst zr6;subst zr7
 refine wpAny_bind (wpAny_holding ?_)
 show wpAny _ _ (pyNext (.ref it)>>=_) _ _ _
 refine wpAny_bind (iu ((O it).next 0 _ H _ (by show 0<2;decide) (.inl hm) (λv hv=>⟨by cases hv;rfl,rfl,rfl⟩)) S1 λh2 bC S2=>?_)
 refine wpAny_bind (wpAny_holding ?_)
 show wpAny _ _ (pyNext (.ref it)>>=_) _ _ _
 refine wpAny_bind (iu ((O it).next 1 _ H _ (by show 1<2;decide) (.inl hm) (λv hv=>⟨by cases hv;rfl,rfl,rfl⟩)) S2 λh3 aR S3=>?_)
 refine wpAny_bind (wpAny_holding ?_)
 refine wpAny_pure (wpAny_pure (wpAny_pure ?_))
 refine aa (if_neg (by show¬((2:Nat)<2);decide)) ?_
 refine wpAny_bind (wpAny_holding (iu ((O it).done _ H _ (.inl hm) ⟨rfl,rfl,rfl⟩) S3 λh4 iw S4=>?_))
 simp only [Option.isSome_none,Bool.false_eq_true,if_false]
 refine wpAny_pure ?_
 show wpAny _ _ (assignInOrder [assign e1 env,assign e2 env] [v1,v2]) _ _ _
 refine assignInOrder_cons (h _ _ _ S4 λ_ m5 H5 h5 gT S5 q5=>?_)
 refine assignInOrder_cons (q5 _ _ _ S5 λ_ m6 H6 h6 wM S6 q6=>?_)
 exact assignInOrder_nil (kk _ m6 H6 h6 wM S6 q6)
theorem QJ
 (h:AW (model prog w) A h₀ L (eval o env) (λov m H=>AW (model prog w) A h₀ L (eval i env) (λiv m H=>AW (model prog w) A h₀ L (getItem ov iv) (λold m H=>AW (model prog w) A h₀ L (eval value env) (λv m H=>
  AW (model prog w) A h₀ L (inplaceOp op old v) (λnew m H=>AW (model prog w) A h₀ L (setItem ov iv new) (λ_ m H=>AW (model prog w) A h₀ L (execs rest env) Q m H) m H) m H) m H) m H) m H) m H)
 (hi:∀ov iv new,augStore i ov iv new=(do holding [new,ov,iv] (setItem ov iv new);release [new,ov,iv] [];pure .next):=by intros;with_unfolding_all rfl):
 AW (model prog w) A h₀ L (execs (.AugAssign (.Subscript o i tS) op value pos::rest) env) Q m H:=jM λs R E S k=>
 wpAny_AugAssign_SubscriptAny (h s _ E S λv1 m1 H1 h1 aX S1 q1=>q1 _ _ E S1 λv2 m2 H2 h2 bC S2 q2=>q2 _ _ E S2 λv3 m3 H3 h3 aR S3 q3=>q3 _ _ E S3 λv4 m4 H4 h4 iw S4 q4=>
  q4 _ _ E S4 λv5 m5 H5 h5 gT S5 q5=>q5 _ _ E S5 λ_ m6 H6 h6 wM S6 q6=>k _ m6 H6 h6 wM S6 (gR q6)) hi
theorem x6 (h:∀t,Q (.int (a+b) t) m H):AW (model prog w) A h₀ L (inplaceOp .Add (.int a t) (.int b u)) Q m H:=λs R E S k=>by
 exact iadd_int (k _ m H _ _ S (h _))
theorem Ry (h:∀t,Q (.int (a-b) t) m H):AW (model prog w) A h₀ L (inplaceOp .Sub (.int a t) (.int b u)) Q m H:=λs R E S k=>by
 exact isub_int (k _ m H _ _ S (h _))
end
end
section
open PySem.SeqAt
section
variable {prog:Program}{w:World}{A:Around}{h₀:Heap}{L a b:Addr}{m:Loc}{H:Led}{vs:List Value}{Q:Value->Loc->Led->Prop}
theorem Fd (hu:A.units<cLine)(ha:c7 h₀ a vs H)(hb:c7 h₀ b [] H)(h:Q (.bool vs.isEmpty) m H):AW (model prog w) A h₀ L (compareOp .Eq (.ref a) (.ref b)) Q m H:=λs R E S k=>by
 have k':=k _ m H _ s.toks S h
 cases vs with
 |nil=>exact RcAt.lists (e:=λ_=>true) (ha.at S) (hb.at S) rfl hu (λj h1 _=>absurd h1 (Nat.not_lt_zero _)) _ _ _ _ k'
 |cons v r=>exact RcAt.lists_lengths (ha.at S) (hb.at S) (by rfl) hu _ _ _ _ k'
theorem Sf (hu:A.units<cLine)(ha:c7 h₀ a vs H)(hb:c7 h₀ b [] H)(h:Q (.bool (!vs.isEmpty)) m H):AW (model prog w) A h₀ L (compareOp .NotEq (.ref a) (.ref b)) Q m H:=λs R E S k=>by
 have k':=k _ m H _ s.toks S h
 cases vs with
 |nil=>exact RcNeAt.lists (e:=λ_=>true) (ha.at S) (hb.at S) rfl hu (λj h1 _=>absurd h1 (Nat.not_lt_zero _)) _ _ _ _ k'
 |cons v r=>exact RcNeAt.lists_lengths (ha.at S) (hb.at S) (by rfl) hu _ _ _ _ k'
end
section
variable {α:Type}{M:Model}{A:Around}{h₀:Heap}{L:Addr}{m:Loc}{H:Led}{tr:Sem α}{Q:α->Loc->Led->Prop}
theorem Fo (h:(∃hp,Holds hp H)->AW M A h₀ L tr Q m H):AW M A h₀ L tr Q m H:=λs R E S k=>h ⟨_,S.holds⟩ s R E S k
end
theorem Holds.tup (x:Holds h H)(h1:(a,bf vs)∈H)(h2:(a,bf ws)∈H):vs=ws:=by
 refine An (x _ h1) λo e n p=>?_
 refine An (x _ h2) λo' e' n' p'=>?_
 have e2:o=o':=by
  have:some o=some o':=e.symm.trans e'
  cases this;rfl
 subst e2
 rw[p] at p'
 have:=congrArg Obj.data p'
 simp only [Data.seq.injEq] at this
 exact Array.toList_inj.mpr this.1|>λq=>by simpa using q
end
section
open PySem.SeqAt
noncomputable def b7 (vs:List Value)(ns:List Int):Prop:=vs.length=ns.length∧∀(i:Nat) (n:Int),ns[i]?=some n->∃t,vs[i]?=some (.int n t)
noncomputable def ki (n:Nat)(sh:Nat->Nat):List Str:=(List.range n).map λk=>host k (sh k)
noncomputable def kI (n:Nat)(wt:Nat->Int):List Int:=(List.range n).map wt
theorem qH:(ki n sh).length=n:=by unfold ki;simp
theorem worthsOf_len:(kI n wt).length=n:=by unfold kI;simp
theorem zh (h:k<n):(ki n sh)[k]?=some (host k (sh k)):=by unfold ki;refine aa (List.getElem?_map) (aa (List.getElem?_range h) ?_);rfl
theorem D6 (h:k<n):(kI n wt)[k]?=some (wt k):=by unfold kI;refine aa (List.getElem?_map) (aa (List.getElem?_range h) ?_);rfl
noncomputable def lG (kvs:List (Str×Value))(ao:List (Nat×Int)):Prop:=kvs.length=ao.length∧∀(i j:Nat) (c:Int),ao[i]?=some (j,c)->∃t,kvs[i]?=some (bM j, .int c t)
noncomputable def gD (H:Led)(vs:List Value)(wt:Nat->Int)(sh:Nat->Nat)(ks:List Nat):Prop:=vs.length=ks.length∧∀(i k:Nat),ks[i]?=some k->∃(a:Addr) (t u:Tok),vs[i]?=some (.ref a)∧(a,bf [.int (wt k) t, .str (host k (sh k)) u])∈H
theorem gD.mono (h:gD H vs wt sh ks)(hs:∀q∈H,q∈H'):gD H' vs wt sh ks:=
 ⟨h.1,λi p e=>let⟨a,t,u,e1,e2⟩:=h.2 i p e;⟨a,t,u,e1,hs _ e2⟩⟩
theorem gD.nil:gD H [] wt sh []:=⟨rfl,λi p e=>nomatch e⟩
theorem gD.snoc (h:gD H vs wt sh ks)(hm:(a,bf [.int (wt k) t, .str (host k (sh k)) u])∈H):gD H (vs++[.ref a]) wt sh (ks++[k]):=by
 refine⟨by simp[h.1],λi p e=>?_⟩
 rcases Nat.lt_trichotomy i ks.length with hi|hi|hi
 ·rw[List.getElem?_append_left hi] at e
  refine cE (h.2 i p e) λa' t' u' e1 e2=>?_
  exact⟨a',t',u',by refine aa (List.getElem?_append_left (by rw[h.1];exact hi)) ?_;exact e1,e2⟩
 ·subst hi
  rw[List.getElem?_append_right (Nat.le_refl _),Nat.sub_self] at e
  cases e
  exact⟨a,t,u,by refine aa (List.getElem?_append_right (by rw[h.1];exact Nat.le_refl _) ..) (aa (h.1 ..) (aa (Nat.sub_self ..) ?_));rfl,hm⟩
 ·rw[List.getElem?_eq_none (by refine aa List.length_append ?_;show ks.length+1≤i;assumption)] at e
  cases e
theorem pL:∀{l:List Nat} {i:Nat},i∈l->aZ (F i).1 (F i).2 (l.map F++R) ((l.erase i).map F++R)
 |x::r,i,h=>by
  by_cases e:x=i
  ·subst e
   refine aa (List.erase_cons_head ..) ?_
   exact .head
  ·refine aa (List.erase_cons_tail (by simpa using e)) ?_
   rcases List.mem_cons.mp h with h|h
   ·exact absurd h.symm e
   ·exact .tail (pL h)
theorem Lo (h:i<n):aZ (F i).1 (F i).2 ((List.range n).map F++R) (((List.range n).erase i).map F++R):=pL (List.mem_range.mpr h)
theorem put_range {R:Led}{n i:Nat}(h:i<n)(hF:∀j,j≠i->F' j=F j):(F' i::(((List.range n).erase i).map F++R)).Perm ((List.range n).map F'++R):=by
 have e:((List.range n).erase i).map F=((List.range n).erase i).map F':=by
  refine List.map_congr_left λj hj=>(hF j ?_).symm
  have:=(List.Nodup.mem_erase_iff (List.nodup_range (n:=n))).mp hj
  exact this.1
 refine aa e ?_
 have:=(Lo (F:=F') (R:=R) h).perm
 exact this.symm
noncomputable def eE (sh:Nat->Nat)(j k:Nat):Bool:=(chain (sh k)).contains j
noncomputable def iD (sh:Nat->Nat)(ks:List Nat)(j:Nat):Int:=((ks.filter (eE sh j)).length:Nat)
noncomputable def qj (sh:Nat->Nat)(ao:List (Nat×Int))(ks:List Nat)(k:Nat):Bool:=ao.all λp=>!eE sh p.1 k||decide (iD sh ks p.1<p.2)
noncomputable def qk (sh:Nat->Nat)(ao:List (Nat×Int))(ks:List Nat)(k:Nat):List Nat:=if qj sh ao ks k=true then ks++[k] else ks
noncomputable def fB (sh:Nat->Nat)(ao:List (Nat×Int))(ord:List Nat):List Nat:=ord.foldl (qk sh ao) []
theorem BP {ord:List Nat}{i k:Nat}(h:ord[i]?=some k):fB sh ao (ord.take (i+1))=qk sh ao (fB sh ao (ord.take i)) k:=by
 unfold fB
 refine aa (List.take_add_one ..) (aa (h ..) (aa (Option.toList_some ..) (aa (List.foldl_append ..) ?_)));rfl
theorem UD:iD sh (ks++[k]) j=iD sh ks j+(if eE sh j k=true then 1 else 0):=by
 unfold iD
 refine aa (List.filter_append ..) ?_
 by_cases h:eE sh j k=true
 ·refine aa (if_pos h) (aa (List.filter_cons_of_pos h) ?_);simp
 ·refine aa (if_neg h) (aa (List.filter_cons_of_neg h) ?_);simp
theorem G4:∀k<5,∀j<7,∀d<7,Txt.endswith (host k j) (bM d)=(chain j).contains d:=by decide+kernel
theorem udm_host:∀k<5,∀j<7,Txt.lower (Txt.upper (host k j))=host k j∧Builtin.Str.tooLong (Txt.upper (host k j)).length=false:=by decide+kernel
theorem udm_dom:∀d<7,Txt.lower (bM d)=bM d∧Txt.startswith (bM d) (Str.ofString ".")=true∧j8 g9 0 (bM d)=true∧(bM d).length≤100:=by decide+kernel
end
section
open PySem.SeqAt
theorem gD.range (h:gD H vs wt sh (List.range n)):∃(as:Nat->Addr) (ts us:Nat->Tok),vs=(List.range n).map (λk=> .ref (as k))∧∀k<n,(as k,bf [.int (wt k) (ts k), .str (host k (sh k)) (us k)])∈H:=by
 have h1:∀k:Nat,∃q:Addr×Tok×Tok,k<n->vs[k]?=some (.ref q.1)∧(q.1,bf [.int (wt k) q.2.1, .str (host k (sh k)) q.2.2])∈H:=λk=>by
  by_cases hk:k<n
  ·refine cE (h.2 k k (List.getElem?_range hk)) λa t u e1 e2=>?_
   exact⟨(a,t,u),λ_=>⟨e1,e2⟩⟩
  ·exact⟨(0,0,0),λq=>absurd q hk⟩
 refine xE (show∃f:Nat->Addr×Tok×Tok,∀k,k<n->vs[k]?=some (.ref (f k).1)∧((f k).1,bf [.int (wt k) (f k).2.1, .str (host k (sh k)) (f k).2.2])∈H from⟨λk=>Classical.choose (h1 k),λk=>Classical.choose_spec (h1 k)⟩) λf hf=>?_
 refine⟨λk=>(f k).1,λk=>(f k).2.1,λk=>(f k).2.2,?_,λk hk=>(hf k hk).2⟩
 refine List.ext_getElem? λi=>?_
 have hl:=h.1
 rw[List.length_range] at hl
 by_cases hi:i<n
 ·refine aa ((hf i hi).1) (aa (List.getElem?_map) (aa (List.getElem?_range hi) ?_));rfl
 ·exact aa (List.getElem?_eq_none (by exact(ln 0x842208421000410984010803).1 hl hi)) (aa (List.getElem?_eq_none (by simp;exact Nat.le_of_not_lt ‹_›)) rfl)
noncomputable def eK (p:Nat->Addr)(ao:List (Nat×Int))(tn tu:Nat->Tok)(c:Nat->Int):Nat->Addr×(Obj->Prop):=λi=>(p i,af [.str (bM (ao.getD i (0,0)).1) (tn i), .int (c i) (tu i)])
theorem z4 (A:Led)(h:(x::B).Perm B'):(x::(A++B)).Perm (A++B'):=List.perm_middle.symm.trans (h.append_left A)
theorem Hi (sh:Nat->Nat)(ao:List (Nat×Int))(ord:List Nat):∀i,(fB sh ao (ord.take i)).length≤i
 |0=>Nat.le_refl _
 |i+1=>by
  have ih:=Hi sh ao ord i
  cases h:ord[i]? with
  |none=>
   have:ord.take (i+1)=ord.take i:=by
    refine aa List.take_add_one (aa h ?_);exact List.append_nil ..
   refine aa this ?_;exact Nat.le_succ_of_le ‹_›
  |some k=>
   refine aa (BP h) ?_
   unfold qk
   split
   ·refine aa List.length_append (aa List.length_singleton ?_);exact Nat.lt_add_one_of_le ‹_›
   ·exact J6 ih
theorem VC (sh:Nat->Nat)(ao:List (Nat×Int))(ks:List Nat)(k:Nat)(c:Nat->Int)(hc:c=λq=>iD sh ks (ao.getD q (0,0)).1):
 qj sh ao ks k=((List.range ao.length).filter λq=>eE sh (ao.getD q (0,0)).1 k).all λq=>decide (c q<(ao.getD q (0,0)).2):=by
 rw[Bool.eq_iff_iff]
 unfold qj
 rw[List.all_eq_true,List.all_eq_true]
 constructor
 ·intro h q hq
  refine xA (List.mem_filter.mp hq) λq1 q2=>?_
  have e1:ao[q]?=some (ao.getD q (0,0)):=by refine aa (List.getD_eq_getElem?_getD) (aa (List.getElem?_eq_getElem (List.mem_range.mp q1)) ?_);rfl
  have:=h _ (List.mem_of_getElem? e1)
  rw[q2,Bool.not_true,Bool.false_or] at this
  subst hc
  exact this
 ·intro h p hp
  obtain ⟨q,hq,e⟩:=List.mem_iff_getElem.mp hp
  have e1:ao.getD q (0,0)=p:=by refine aa (List.getD_eq_getElem?_getD) (aa (List.getElem?_eq_getElem hq) (aa e ?_));rfl
  by_cases cA:eE sh p.1 k=true
  ·have:=h q (List.mem_filter.mpr ⟨List.mem_range.mpr hq,by refine aa e1 ?_;exact cA⟩)
   subst hc
   have h2:=of_decide_eq_true this
   dsimp only at h2
   rw[e1] at h2
   rw[decide_eq_true h2,Bool.or_true]
  ·rw[Bool.not_eq_true] at cA
   refine aa cA ?_;rfl
section
variable {G:Gx}{A:Around}{h₀:Heap}{L:Addr}{m:Loc}{H:Led}{env:Env}{aW:eu}{pd:jb}{x y:Str}{t u:Tok}{Q:Value->Loc->Led->Prop}
set_option maxHeartbeats 4000000 in
theorem Rl (T:aT G.K aW)(Pt:jd G.K pd)(C:Cx G A h₀ L env)(r:bw A 4){hl wl ld:Addr}{hv wv:List Value}{kvs:List (Str×Value)}{ao:List (Nat×Int)}{n ep:Nat}{sh:Nat->Nat}{wt:Nat->Int}
 (kh:(hl,af hv)∈H)(o5:bU hv (ki n sh))(nJ:(wl,af wv)∈H)(vP:b7 wv (kI n wt))(o7:(ld,dM G.prog G.w ld kvs ep)∈H)(fD:lG kvs ao)(o8:ao.length≤8)(lP:∀p∈ao,p.1<7)
 (hn:n≤5)(aA:∀k<n,sh k<7)(iZ:∀k<n,0≤wt k)(sC:∀i j,i<n->j<n->wt i=wt j->i=j)
 (eU:ord.Perm (List.range n))(kY:∀(key:Value->Int) (as:Nat->Addr),(∀k<n,key (.ref (as k))= -(wt k))->(∀k<n,-(wt k)<key .none)->
  ∀i<n,lg key (iU key ((List.range n).map λk=> .ref (as k))) i= .ref (as (ord.getD i 0)))
 (h:∀r vs jk,gD jk vs wt sh (fB sh ao ord)->Q (.ref r) m ((r,af vs)::(jk++H))):
 AW (model G.prog G.w) A h₀ L (call (.ref aW.ql) [.ref hl, .ref wl, .ref ld]) Q m H:=by
 refine xE T.ql.d λbg d=>?_
 conv at d in(aO _).body=>whnf
 conv at d in(occs:= *) (aO _).scope=>all_goals whnf
 refine AZ (n:=3) (binds:=[(Str.ofString "hosts",_),(Str.ofString "worths",_),(Str.ofString "limits",_)]) C r d (λ_ _ _ _ _=>rfl) (by rfl) (by decide) [] (λ_ _ _ e=>nomatch e) λA' g L' C' r'=>?_
 have aP:(1000:Nat)≤sizeLine:=by decide
 have sS:(1000:Int)<2^62:=by decide
 show AW _ _ _ _ (execs _ (envX _ _ _ _ _ [(Str.ofString "host",L'+1+1+1+1),(Str.ofString "limits",L'+1+1+1),(Str.ofString "worths",L'+1+1),(Str.ofString "hosts",L'+1)])) _ _ ((L'+1+1+1+1,aE none)::(L'+1+1+1,aE (some (.ref ld)))::(L'+1+1,aE (some (.ref wl)))::(L'+1,aE (some (.ref hl)))::H)
 generalize yK:L'+1=c1
 generalize yL:c1+1=c2
 generalize oW:c2+1=c3
 generalize Wb:c3+1=c4
 (with_reducible show AW _ _ _ _ (execs (.Assign [.Name _ _] (.ListComp _ _ _ _) _::_) _) _ _ _)
 have iV:=o5.length
 rw[qH] at iV
 refine qa _ (by rfl) (by rfl) ?_
 walk_at "awa"
 refine g6 (c:=c1) rfl (.tail _ (.tail _ (.tail _ (.head _)))) ?_
 walk_at "awa"
 refine fL (.tail _ (.tail _ (.tail _ (.tail _ kh)))) (by exact zQ hn iV) λtl=>?_
 walk_at "awa"
 refine mU λrr=>?_
 refine aa iV ?_
 refine mR (n:=n) (.head _) (pN (by exact Nat.le_trans ‹_› (by decide))) nT λit=>?_
 refine⟨it,iL 0 1 n,_,_,_,_,rfl,rfl,lW C'.hh,λp H d=>d,λcC D=>⟨λi' ys X=>∃jk,X=jk++((rr,eB 0 n 1)::(c4,aE none)::(c3,aE (some (.ref ld)))::(c2,aE (some (.ref wl)))::(c1,aE (some (.ref hl)))::H)∧gD jk ys (λk=> -(wt k)) sh (List.range i'),λ_ _ _ _=>trivial,⟨[],rfl,gD.nil⟩,?_,?_⟩⟩
 ·intro i v mc ys X hi NP NQ;refine xE NP λtv zr183=>?_;clear NP;subst zr183;refine ah NQ λjk zr184 bA=>?_;clear NQ;subst zr184
  refine aa (show(0:Int)+1*(i:Int)=i by simp+arith) ?_
  refine xE (vP.2 i (wt i) (D6 hi)) λtw lT=>?_
  refine xE (o5.get (zh (sh:=sh) hi)) λth yR=>?_
  refine bQ ?_
  refine gq .head ?_
  refine mW ?_
  refine jW ?_
  refine rT ?_
  walk_at "awa"
  refine gY (c:=c2) (by with_unfolding_all rfl) (.tail _ (.tail _ (.tail _ (List.mem_append_right _ (.tail _ (.tail _ (.tail _ (.head _)))))))) ?_
  walk_at "awa"
  refine dj (.head _) (by with_unfolding_all rfl) ?_
  refine cM (.tail _ (.tail _ (.tail _ (List.mem_append_right _ (.tail _ (.tail _ (.tail _ (.tail _ (.tail _ nJ))))))))) (by exact Int.natCast_nonneg _) (by exact Di hn hi) (by assumption) ?_
  walk_at "awa"
  refine gY (c:=c1) (by with_unfolding_all rfl) (.tail _ (.tail _ (.tail _ (List.mem_append_right _ (.tail _ (.tail _ (.tail _ (.tail _ (.head _))))))))) ?_
  refine dj (.head _) (by with_unfolding_all rfl) ?_
  refine cM (.tail _ (.tail _ (.tail _ (List.mem_append_right _ (.tail _ (.tail _ (.tail _ (.tail _ (.tail _ kh))))))))) (by exact pF) (by lia) (by assumption) ?_
  walk_at "awa"
  refine⟨by show(2:Nat)≤sizeLine;exact Nat.le_add_left _ _,λtu=>?_⟩
  refine⟨rfl,_,_,_,_,_, .tail (.tail .head), .tail .head, .tail .head,?_,(tu,_)::jk,rfl,?_⟩
  ·have:=bA.1
   rw[List.length_range] at this
   exact @(ln 0x421004220842108400180421843f40bf30166201004).1 ys.length sizeLine n i hn aP hi this
  ·refine aa List.range_succ ?_
   exact(bA.mono λq hq=> .tail _ hq).snoc (.head _)
 ·intro mc ys X NR;refine ah NR λjk zr185 bA=>?_;clear NR;subst zr185
  refine⟨_,_,_,rfl,?_⟩
  refine jg ⟨rfl,?_⟩
  refine cE bA.range λas ts us zr186 has=>?_;subst zr186
  refine Fo λ⟨hp,hH⟩=>?_
  have WX:∀i j,i<n->j<n->as i=as j->i=j:=λi j hi hj e=>by
   have e1:=has i hi
   have e2:=has j hj
   rw[e] at e1
   have:=hH.tup (.tail _ (List.mem_append_left _ e1)) (.tail _ (List.mem_append_left _ e2))
   simp only [List.cons.injEq,Value.int.injEq] at this
   exact sC i j hi hj (by exact J7 this.1.1)
  refine ah (show∃key:Value->Int,(∀k<n,key (.ref (as k))= -(wt k))∧key .none=1 from by
   refine⟨λv=>if hv:∃k,k<n∧v= .ref (as k) then -(wt (Classical.choose hv)) else 1,λk hk=>?_,?_⟩
   ·have hv:∃k',k'<n∧Value.ref (as k)= .ref (as k'):=⟨k,hk,rfl⟩
    show(if hv:∃k',k'<n∧Value.ref (as k)= .ref (as k') then -(wt (Classical.choose hv)) else 1)=_
    refine aa (dif_pos hv) ?_
    have sp:=Classical.choose_spec hv
    have e:as k=as (Classical.choose hv):=by have:=sp.2;injection this
    exact aa (Eq.symm (WX _ _ hk sp.1 e)) rfl
   ·show(if hv:∃k',k'<n∧Value.none= .ref (as k') then -(wt (Classical.choose hv)) else 1)=_
    rw[dif_neg]
    intro zq44;obtain ⟨k,_,e⟩:=zq44
    cases e) λkey iW qz=>?_
  have W8:((List.range n).map λk=>Value.ref (as k)).map key=(List.range n).map λk=> -(wt k):=by
   refine aa List.map_map ?_
   exact List.map_congr_left λk hk=>iW k (List.mem_range.mp hk)
  have IQ:(((List.range n).map λk=>Value.ref (as k)).map key).Nodup:=by
   refine aa W8 ?_
   refine List.pairwise_map.mpr ?_
   refine(List.pairwise_lt_range (n:=n)).imp_of_mem ?_
   intro a b ha hb jQ e
   have:=sC a b (List.mem_range.mp ha) (List.mem_range.mp hb) (by exact J7 e)
   exact J5 jQ this
  have WY:∀H':Led,(∀q∈jk,q∈H')->fP key H' ((List.range n).map λk=>Value.ref (as k)):=λH' hs v hv=>by
   refine ah (List.mem_map.mp hv) λk hk zr187=>?_;subst zr187
   have jB:=List.mem_range.mp hk
   exact⟨_,_,_,_,rfl,hs _ (has k jB),iW k jB⟩
  walk_at "awa"
  ((with_reducible refine cI (by assumption) (FnAt.n (aT.qx (by assumption))) ?_;with_reducible refine eO (Cx.X (by assumption)) (aT.qx (by assumption)) ?_))
  walk_at "awa"
  refine Ro (key:=key) T C' (r'.le (by exact Nat.lt_succ_self _)) (by simp;exact Nat.le_trans ‹_› (by decide)) (WY _ λq hq=>List.mem_append_left _ hq) IQ ?_
  walk_at "awa"
  refine dF ?_
  walk_at "awa"
  refine⟨by show(0:Nat)≤sizeLine;exact Nat.zero_le _,λtk=>?_⟩
  walk_at "awa"
  refine bu (.tail (.tail (aZ.app (.tail .head) jk))) ?_
  refine xE (show∃J0,J0=jk++[(rr,eB 0 n 1),(c3,aE (some (.ref ld))),(c2,aE (some (.ref wl))),(c1,aE (some (.ref hl)))] from⟨_,rfl⟩) λJ0 jP=>?_
  have BX:jk++((rr,eB 0 n 1)::(c3,aE (some (.ref ld)))::(c2,aE (some (.ref wl)))::(c1,aE (some (.ref hl)))::H)=J0++H:=by refine aa jP ?_;simp
  refine aa BX ?_
  have vc:∀q∈H,q∈J0++H:=λq hq=>List.mem_append_right _ hq
  have vd:(c3,aE (some (.ref ld)))∈J0++H:=List.mem_append_left _ (by refine aa jP ?_;exact List.mem_append_right _ (.tail _ (.head _)))
  have HC:∀k<n,(as k,bf [.int (-(wt k)) (ts k), .str (host k (sh k)) (us k)])∈J0++H:=λk hk=>List.mem_append_left _ (by refine aa jP ?_;exact List.mem_append_left _ (has k hk))
  have qn:(ld,dM G.prog G.w ld kvs ep)∈J0++H:=vc _ o7
  generalize hR:J0++H=R0 at*
  (with_reducible show AW _ _ _ _ (execs (.For _ _ _ _ _::_) _) _ _ _)
  with_reducible refine je ?_
  refine g6 (c:=c3) rfl (.tail _ (.tail _ (.tail _ vd))) ?_
  refine A5 (.tail _ (.tail _ (.tail _ qn))) λpC=>?_
  refine xE (show∃dI,dI=iU key ((List.range n).map λk=>Value.ref (as k)) from⟨_,rfl⟩) λdI Cc=>?_
  refine aa (Eq.symm Cc) ?_
  refine iN (CX C'.hh) (λi m H'=>∃p tn tu,SubL [(Str.ofString "taken", .ref tk),(Str.ofString "heap", .ref D)] m∧
   H'.Perm ((tk,af ((List.range i).map λq=>Value.ref (p q)))::((List.range i).map (eK p ao tn tu (λ_=>0))++((c4,aE none)::(D,af dI)::R0))))
   (λi m H' hI=>by refine cE hI λp tn tu _ hp=>?_;clear hI;exact hp.mem_iff.mpr (.tail _ (List.mem_append_right _ (.tail _ (.tail _ qn))))) ?_ ?_ 0 (Nat.zero_le _) ⟨λ_=>0,λ_=>0,λ_=>0,by walk_at "aw_subl", .swap _ _ _⟩
  ·intro i J hJ v m1 H1 hi NS NT;refine cE NS λkk xx tv aM zr188=>?_;clear NS;subst zr188;refine cE NT λp tn tu hm hp=>?_;clear NT
   refine bO hm ?_
   rw[fD.1] at hi
   obtain ⟨⟨j,cc⟩,vp⟩:∃q,ao[i]?=some q:=⟨_,List.getElem?_eq_getElem hi⟩
   refine xE (fD.2 i j cc vp) λtc sE=>?_
   obtain rfl:kk=bM j:=by rw[sE] at aM;cases aM;rfl
   refine dQ (hp.cons _) ?_
   refine bQ ?_
   walk_at "awa"
   refine iO (.tail _ (.head _)) PySem.F.slot_list_append PySem.F.type_list_append ?_
   refine cF ?_
   walk_at "awa"
   refine dF ?_
   walk_at "awa"
   rename_i t0
   refine⟨by show(2:Nat)≤sizeLine;exact @id ((2:Nat)≤sizeLine) (@Dh sizeLine aP),λal=>?_⟩
   walk_at "awa"
   refine bu (.tail (.tail .head)) ?_
   refine jL (by simp;exact @(ln 0x10842208421080020043f40bf30226200c03).1 i sizeLine ao.length o8 aP hi) ?_
   with_reducible refine i8 ?_
   walk_at "awa"
   refine fU (.tail (.tail .head)) (hJ ⟨λq=>if q=i then al else p q,λq=>if q=i then tv else tn q,λq=>if q=i then t0 else tu q,by walk_at "aw_subl",?_⟩)
   refine aa List.range_succ (aa List.map_append (aa List.map_append ?_))
   have e1:(List.range i).map (λq=>Value.ref (if q=i then al else p q))=(List.range i).map λq=>Value.ref (p q):=
    List.map_congr_left λq hq=>by have:=List.mem_range.mp hq;exact aa (if_neg (by exact Nat.ne_of_lt ‹_›)) rfl
   have e2:(List.range i).map (eK (λq=>if q=i then al else p q) ao (λq=>if q=i then tv else tn q) (λq=>if q=i then t0 else tu q) (λ_=>0))=(List.range i).map (eK p ao tn tu (λ_=>0)):=
    List.map_congr_left λq hq=>by
     have:=List.mem_range.mp hq
     unfold eK
     simp only [if_neg (show¬q=i by exact(ln 0x8402084201182008402).1 this)]
   refine aa e1 (aa e2 ?_)
   have e3:[i].map (λq=>Value.ref (if q=i then al else p q))=[Value.ref al]:=by simp
   have e4:[i].map (eK (λq=>if q=i then al else p q) ao (λq=>if q=i then tv else tn q) (λq=>if q=i then t0 else tu q) (λ_=>0))=[(al,af [.str (bM j) tv, .int 0 t0])]:=by
    unfold eK
    simp[List.getD_eq_getElem?_getD,vp]
   refine aa e3 (aa e4 ?_)
   refine List.Perm.cons _ ?_
   refine aa (List.append_assoc ..) ?_
   exact(List.perm_middle (l₁:=(List.range i).map (eK p ao tn tu (λ_=>0))) (a:=(al,af [.str (bM j) tv, .int 0 t0]))).symm
  ·intro m1 H1 NU;refine cE NU λp tn tu hm hp=>?_;clear NU
   rw[fD.1] at hp
   refine bO hm ?_
   refine dQ hp ?_
   walk_at "awa"
   refine dF ?_
   walk_at "awa"
   refine⟨by show(0:Nat)≤sizeLine;exact @id ((0:Nat)≤sizeLine) (@zU sizeLine),λka=>?_⟩
   walk_at "awa"
   refine xE (show∃ks:Nat->List Nat,ks=λi=>fB sh ao (ord.take i) from⟨_,rfl⟩) λks fC=>?_
   refine xE (show∃cn:Nat->Nat->Int,cn=λi q=>iD sh (ks i) (ao.getD q (0,0)).1 from⟨_,rfl⟩) λcn kc=>?_
   have zg:ord.length=n:=by refine aa eU.length_eq ?_;exact List.length_range ..
   have Xp:∀i<n,ord[i]?=some (ord.getD i 0)∧ord.getD i 0<n:=λi hi=>by
    have e1:ord[i]?=some (ord.getD i 0):=by refine aa (List.getD_eq_getElem?_getD) (aa (List.getElem?_eq_getElem (by exact Nat.lt_of_lt_of_eq ‹_› (Eq.symm ‹_›))) ?_);rfl
    exact⟨e1,List.mem_range.mp (eU.mem_iff.mp (List.mem_of_getElem? e1))⟩
   have qP:dI.Perm ((List.range n).map λk=>Value.ref (as k)):=by refine aa Cc ?_;exact WA _ _
   have CD:dI.length=n:=by refine aa qP.length_eq ?_;simp
   refine rS (λnn m H'=>∃(i:Nat) (kv:List Value) (br:Led) (tu:Nat->Tok) (hv:Option Value),i+nn=n∧SubL [(Str.ofString "kept", .ref ka),(Str.ofString "taken", .ref tk),(Str.ofString "heap", .ref D)] m∧gD br kv wt sh (ks i)∧
    H'.Perm ((D,af (cz key dI i))::(ka,af kv)::(tk,af ((List.range ao.length).map λq=>Value.ref (p q)))::(c4,aE hv)::(br++((List.range ao.length).map (eK p ao tn tu (cn i))++R0))))
    n ⟨0,[],[],tu,none,by exact Nat.zero_add _,by walk_at "aw_subl",?_,?_⟩ ?_
   ·refine aa fC ?_;exact gD.nil
   ·have e0:cn 0=λ_=>0:=by refine aa kc (aa fC ?_);rfl
    refine aa e0 ?_
    have p1:((List.range ao.length).map (eK p ao tn tu λ_=>0)++(c4,aE none)::(D,af dI)::R0).Perm ((c4,aE none)::(D,af dI)::((List.range ao.length).map (eK p ao tn tu λ_=>0)++R0)):=
     List.perm_middle.trans (List.Perm.cons _ List.perm_middle)
    refine(List.Perm.cons _ (List.Perm.cons _ p1)).trans ?_
    show List.Perm _ ((D,af dI)::(ka,af [])::(tk,_)::(c4,aE none)::((List.range ao.length).map (eK p ao tn tu λ_=>0)++R0))
    exact((List.Perm.cons _ ((List.Perm.cons _ (.swap _ _ _)).trans (.swap _ _ _))).trans (.swap _ _ _))
   intro nn J hJ m2 H2 NV;refine Mu NV λi kv br tu hv cA dH yV zj=>?_;clear NV
   refine bO dH ?_
   refine dQ zj ?_
   have hlen:=BZ key dI i (by exact(ln 0x4000844108420008605884110804).1 CD cA)
   rw[CD] at hlen
   (with_reducible show AW _ _ _ _ (isTrue (.Compare _ [_] [_] _) _ _) _ _ _)
   with_reducible refine oH ?_
   walk_at "awa"
   refine dF ?_
   walk_at "awa"
   refine⟨by show(0:Nat)≤sizeLine;lia,λel=>?_⟩
   refine Sf (by have:=r'.units;exact wj this) (.inl (.tail _ (.head _))) (.inl (.head _)) ?_
   walk_at "awa"
   refine i7 (λhb=>?_) (λhb=>?_)
   ·have bF:cz key dI i≠[]:=by intro e;rw[e] at hb;cases hb
    have hi:i<n:=by
     have:=List.length_pos_iff.mpr bF
     exact(ln 0x10802000820084010044108421004011a8409846210c04).1 hlen this (Eq.refl (n-i))
    refine xA (Xp i hi) λze IT=>?_
    have nG:=kY key as iW (λk hk=>by refine aa qz ?_;have:=iZ k hk;exact(ln 0x1088210cc112001318420).1 this) i hi
    rw[<-Cc] at nG
    generalize hk:ord.getD i 0=k at*
    (with_reducible show AW _ _ _ _ (execs (.Assign [.Tuple _ _ _] _ _::_) _) _ _ _)
    with_reducible refine yd ?_
    walk_at "awa"
    ((with_reducible refine cI (by assumption) (FnAt.n (aT.kY (by assumption))) ?_;with_reducible refine eO (Cx.X (by assumption)) (aT.kY (by assumption)) ?_))
    walk_at "awa"
    refine bu (.tail .head) ?_
    have XG:=LP bF
    refine xE (HG key dI i (by exact(ln 0x802110421080020044110803).1 CD hi)) λlq II=>?_
    have hits:fP key ((el,af [])::(ka,af kv)::(tk,af ((List.range ao.length).map λq=>Value.ref (p q)))::(c4,aE hv)::(br++((List.range ao.length).map (eK p ao tn tu (cn i))++R0))) (cz key dI i):=λv lS=>by
     have sN:=qP.mem_iff.mp (II.mem_iff.mp (List.mem_append_left _ lS))
     refine ah (List.mem_map.mp sN) λk' jB zr189=>?_;subst zr189
     have IB:=List.mem_range.mp jB
     exact⟨_,_,_,_,rfl, .tail _ (.tail _ (.tail _ (.tail _ (List.mem_append_right _ (List.mem_append_right _ (HC k' IB)))))),iW k' IB⟩
    have cN:((cz key dI i).map key).Nodup:=by
     have q:=((II.trans qP).map key).nodup_iff.mpr IQ
     rw[List.map_append] at q
     exact(List.nodup_append.mp q).1
    rw[<-XG] at hits cN ⊢
    refine Rp (key:=key) T C' (r'.le (by exact(ln 0x4411cc7300000).1)) (by refine aa List.length_dropLast ?_;exact(ln 0x8022080010040000402084000000000401104200802000401104210878417e61006600a862228801166201005).1 hn hlen (Eq.refl (n-i)) (Eq.refl ((cz key dI i).length-1))) hits cN ?_
    have e1:(jz key (cz key dI i).dropLast ((cz key dI i).getD ((cz key dI i).length-1) .none)).1= .ref (as k):=nG
    have e2:(jz key (cz key dI i).dropLast ((cz key dI i).getD ((cz key dI i).length-1) .none)).2=cz key dI (i+1):=rfl
    refine aa e1 (aa e2 ?_)
    refine oJ C'.hh (.tail _ (.tail _ (.tail _ (.tail _ (.tail _ (List.mem_append_right _ (List.mem_append_right _ (HC k IT)))))))) ?_
    refine bQ ?_
    walk_at "awa"
    refine bQ ?_
    refine qc (c:=c4) rfl (.tail (.tail (.tail (.tail .head)))) ?_
    refine xE (show∃zi:List Nat,zi=(List.range ao.length).filter λq=>eE sh (ao.getD q (0,0)).1 k from⟨_,rfl⟩) λzi sU=>?_
    have jC:k<5:=by exact Nat.lt_of_lt_of_le ‹_› ‹_›
    have zp:=aA k IT
    refine xA (udm_host k jC (sh k) zp) λuh1 uh2=>?_
    refine xA (JK k jC (sh k) zp) λvA hl4=>?_
    have yZ:∀q<ao.length,ao[q]?=some (ao.getD q (0,0))∧(ao.getD q (0,0)).1<7:=λq hq=>by
     have e1:ao[q]?=some (ao.getD q (0,0)):=by refine aa (List.getD_eq_getElem?_getD) (aa (List.getElem?_eq_getElem hq) ?_);rfl
     exact⟨e1,lP _ (List.mem_of_getElem? e1)⟩
    (with_reducible show AW _ _ _ _ (execs (.Assign [.Name _ _] (.ListComp _ _ _ _) _::_) _) _ _ _)
    refine qa _ (by rfl) (by rfl) ?_
    walk_at "awa"
    refine gZ (.inl (.tail _ (.tail _ (.tail _ (.tail _ (.head _)))))) λzE=>?_
    refine⟨zE,fu tk,_,_,c7 g tk ((List.range ao.length).map λq=>Value.ref (p q)),_,rfl,rfl,gw C'.hh,λp H d=>d.more,λcC E=>⟨λi' ys X=>X=(c4,aE (some (.str (host k (sh k)) (us k))))::(D,af (cz key dI (i+1)))::(el,af [])::(ka,af kv)::(tk,af ((List.range ao.length).map λq=>Value.ref (p q)))::(br++((List.range ao.length).map (eK p ao tn tu (cn i))++R0))∧
     ys=(((List.range ao.length).take i').filter λq=>eE sh (ao.getD q (0,0)).1 k).map λq=>Value.ref (p q),?_,⟨rfl,rfl⟩,?_,?_⟩⟩
    ·intro i' ys X NW;refine xA NW λzr190 _=>?_;clear NW;subst zr190
     exact .inl (.tail _ (.tail _ (.tail _ (.tail _ (.head _)))))
    ·intro q v mc ys X hq hv NY;refine xA NY λzr191 bA=>?_;clear NY;subst zr191
     rw[List.length_map,List.length_range] at hq
     rw[List.getElem?_map,List.getElem?_range hq] at hv
     obtain rfl:v= .ref (p q):=by cases hv;rfl
     refine xA (yZ q hq) λJP vZ=>?_
     refine iy (udm_dom _ vZ) λud1 ud2 ud3 ud4=>?_
     have Xf:(p q,af [.str (bM (ao.getD q (0,0)).1) (tn q), .int (cn i q) (tu q)])∈br++((List.range ao.length).map (eK p ao tn tu (cn i))++R0):=List.mem_append_right _ (List.mem_append_left _ (List.mem_map.mpr ⟨q,List.mem_range.mpr hq,rfl⟩))
     refine bQ ?_
     refine gq .head ?_
     refine qd ?_
     (with_reducible show AW _ _ _ _ (isTrue _ _ _) _ _ _)
     with_reducible refine uH ?_
     with_reducible refine oB ?_
     refine A0 C' (FnAt.n T.rA) ?_
     refine eO C'.X T.rA ?_
     walk_at "awa"
     refine gY (c:=c4) (by with_unfolding_all rfl) (.tail _ (.tail _ (.tail _ (.head _)))) ?_
     walk_at "awa"
     refine TA rfl uh2 λt9=>?_
     walk_at "awa"
     refine dj (.head _) (by with_unfolding_all rfl) ?_
     walk_at "awa"
     refine cM (.tail _ (.tail _ (.tail _ (.tail _ (.tail _ (.tail _ (.tail _ (.tail _ Xf)))))))) (by exact Int.natCast_nonneg _) (by exact Int.natCast_nonneg _) (by rfl) ?_
     walk_at "awa"
     refine Tv T Pt C' (r'.le (by exact Nat.le_succ _)) uh1 ud1 (by exact Nat.le_trans ‹_› (by decide)) (by exact Nat.le_trans ‹_› (by decide)) (IW k jC (sh k) zp) ud3 ud2 ?_
     walk_at "awa"
     have U6:Txt.endswith (host k (sh k)) (bM (ao.getD q (0,0)).1)=eE sh (ao.getD q (0,0)).1 k:=G4 k jC (sh k) zp _ vZ
     refine aa U6 ?_
     have jh:(List.range ao.length).take (q+1)=(List.range ao.length).take q++[q]:=by
      refine aa (List.take_succ_eq_append_getElem (by simpa using hq)) ?_;simp
     refine i7 (λfV=>?_) (λfV=>?_)
     ·refine dj (.head _) (by with_unfolding_all rfl) ?_
      refine⟨rfl,_,_,_,_,_, .tail .head, .head, .head,?_,rfl,?_⟩
      ·refine aa (bA ..) (aa (List.length_map ..) ?_)
       refine Nat.le_trans (List.length_filter_le _ _) ?_
       refine aa List.length_take (aa List.length_range ?_)
       exact @(ln 0x8401004410840108441084231002012c7f40bf30226100c04).1 q ao.length (min q ao.length) sizeLine o8 aP (Eq.refl (min q ao.length))
      ·refine aa (jh ..) (aa (List.filter_append ..) (aa (List.filter_cons_of_pos (by exact fV) ..) (aa (List.map_append ..) (aa (Eq.symm (bA ..)) ?_))));rfl
     ·refine⟨rfl,_,_,_,_,_, .tail .head, .head, .head,rfl,?_⟩
      refine aa (jh ..) (aa (List.filter_append ..) (aa (List.filter_cons_of_neg (by rw[fV];simp) ..) (aa (List.map_append ..) (aa (Eq.symm (bA ..)) ?_))))
      simp
    ·intro mc ys X NZ;refine xA NZ λzr192 bA=>?_;clear NZ;subst zr192
     rw[List.length_map,List.take_length,<-sU] at bA
     refine⟨_,_,_,rfl,?_⟩
     refine jg ⟨rfl,?_⟩
     have Yh:∀q∈zi,q<ao.length∧eE sh (ao.getD q (0,0)).1 k=true:=λq hq=>by
      rw[sU] at hq
      refine xA (List.mem_filter.mp hq) λq1 q2=>?_
      exact⟨List.mem_range.mp q1,q2⟩
     have Yi:zi.Nodup:=by refine aa sU ?_;exact(List.nodup_range).filter _
     have CR:zi.length≤8:=by
      refine aa sU ?_
      refine Nat.le_trans (List.length_filter_le _ _) ?_
      refine aa List.length_range ?_;exact o8
     subst bA
     have Jp:∀i',i'<zi.length->zi[i']?=some (zi.getD i' 0)∧zi.getD i' 0<ao.length:=λi' bR=>by
      have e1:zi[i']?=some (zi.getD i' 0):=by refine aa (List.getD_eq_getElem?_getD) (aa (List.getElem?_eq_getElem bR) ?_);rfl
      exact⟨e1,(Yh _ (List.mem_of_getElem? e1)).1⟩
     have Xg:∀q,q<ao.length->(p q,af [.str (bM (ao.getD q (0,0)).1) (tn q), .int (cn i q) (tu q)])∈br++((List.range ao.length).map (eK p ao tn tu (cn i))++R0):=λq hq=>List.mem_append_right _ (List.mem_append_left _ (List.mem_map.mpr ⟨q,List.mem_range.mpr hq,rfl⟩))
     (with_reducible show AW _ _ _ _ (execs (.If _ _ _ _::_) _) _ _ _)
     with_reducible refine jf ?_
     (with_reducible show AW _ _ _ _ (isTrue (.Compare _ [_] [_] _) _ _) _ _ _)
     with_reducible refine oH ?_
     refine mS _ (by rfl) ?_
     walk_at "awa"
     refine gZ (.inl (.head _)) λCW=>?_
     refine⟨CW,fu E,_,_,c7 g E (zi.map λq=>Value.ref (p q)),_,rfl,rfl,gw C'.hh,λp H d=>d.more,λcC2 E2=>⟨λi' ys X=>X=(E,af (zi.map λq=>Value.ref (p q)))::(c4,aE (some (.str (host k (sh k)) (us k))))::(D,af (cz key dI (i+1)))::(el,af [])::(ka,af kv)::(tk,af ((List.range ao.length).map λq=>Value.ref (p q)))::(br++((List.range ao.length).map (eK p ao tn tu (cn i))++R0))∧
      ys.length≤i'∧ys.isEmpty=(zi.take i').all λq=>decide (cn i q<(ao.getD q (0,0)).2),?_,⟨rfl,Nat.le_refl _,rfl⟩,?_,?_⟩⟩
     ·intro i' ys X N1;refine xA N1 λzr193 _=>?_;clear N1;subst zr193
      exact .inl (.head _)
     ·intro i' v ic ys X bR hv N2;refine cP N2 λzr194 gO zA=>?_;clear N2;subst zr194
      rw[List.length_map] at bR
      refine xA (Jp i' bR) λw6 w7=>?_
      generalize CS:zi.getD i' 0=q at*
      rw[List.getElem?_map,w6] at hv
      obtain rfl:v= .ref (p q):=by cases hv;rfl
      refine xA (yZ q w7) λJP vZ=>?_
      refine xE (fD.2 q (ao.getD q (0,0)).1 (ao.getD q (0,0)).2 JP) λtlv sE=>?_
      refine Tz C'.hh (.tail _ (.tail _ (.tail _ (.tail _ (.tail _ (.tail _ (.tail _ (.tail _ (.tail _ (Xg q w7)))))))))) ?_
      refine bQ ?_
      refine gq .head ?_
      refine bQ ?_
      refine gq .head ?_
      refine qd ?_
      (with_reducible show AW _ _ _ _ (isTrue (.Compare _ [_] [_] _) _ _) _ _ _)
      with_reducible refine oH ?_
      refine dj (.head _) (by with_unfolding_all rfl) ?_
      walk_at "awa"
      refine gY (c:=c3) (by with_unfolding_all rfl) (.tail _ (.tail _ (.tail _ (.tail _ (.tail _ (.tail _ (.tail _ (.tail _ (.tail _ (List.mem_append_right _ (List.mem_append_right _ vd))))))))))) ?_
      refine dj (.head _) (by with_unfolding_all rfl) ?_
      have vh:di G.prog G.w ld kvs ((cC2,bP ((Str.ofString "number",Value.int (cn i q) (tu q))::(Str.ofString "name",Value.str (bM (ao.getD q (0,0)).1) (tn q))::ic))::(CW,fu E (i'+1))::(E2,af ys)::(E,af (zi.map λq=>Value.ref (p q)))::(c4,aE (some (.str (host k (sh k)) (us k))))::(D,af (cz key dI (i+1)))::(el,af [])::(ka,af kv)::(tk,af ((List.range ao.length).map λq=>Value.ref (p q)))::(br++((List.range ao.length).map (eK p ao tn tu (cn i))++R0))):=
       .pG (ep:=ep) (.tail _ (.tail _ (.tail _ (.tail _ (.tail _ (.tail _ (.tail _ (.tail _ (.tail _ (List.mem_append_right _ (List.mem_append_right _ qn)))))))))))
      refine uB vh λiX=>?_
      refine lJ vh (wQ iX sE) ?_
      walk_at "awa"
      have jh:zi.take (i'+1)=zi.take i'++[q]:=by
       refine aa List.take_add_one (aa w6 ?_);rfl
      refine k6 (λo4=>?_) (λaC=>?_)
      ·refine dj (.head _) (by with_unfolding_all rfl) ?_
       refine⟨rfl,_,_,_,_,_, .tail .head, .head, .head,by exact @(ln 0x2108422084210840018002185131003f40bf301004).1 ys.length sizeLine zi.length i' aP CR bR gO,rfl,by refine aa List.length_append ?_;show ys.length+1≤i'+1;exact Nat.lt_succ_of_le ‹_›,?_⟩
       refine aa jh (aa List.all_append ?_)
       have e6:decide (cn i q<(ao.getD q (0,0)).2)=false:=decide_eq_false (by exact(ln 0x422084202180118440).1 o4)
       refine aa (List.all_cons ..) (aa (e6 ..) (aa (Bool.false_and ..) (aa (Bool.and_false ..) ?_)))
       cases ys<;>rfl
      ·refine⟨rfl,_,_,_,_,_, .tail .head, .head, .head,rfl,by exact J6 gO,?_⟩
       refine aa jh (aa List.all_append (aa zA ?_))
       have e6:decide (cn i q<(ao.getD q (0,0)).2)=true:=decide_eq_true (by exact Int.not_le.mp ‹_›)
       rw[List.all_cons,e6,List.all_nil,Bool.true_and,Bool.and_true]
     ·intro ic ys X N3;refine cP N3 λzr195 gO zA=>?_;clear N3;subst zr195
      rw[List.length_map,List.take_length] at zA
      refine⟨_,_,_,rfl,?_⟩
      refine dF ?_
      walk_at "awa"
      refine⟨by show(0:Nat)≤sizeLine;lia,λyu=>?_⟩
      refine Fd (by have:=r'.units;lia) (.inl (.tail _ (.head _))) (.inl (.head _)) ?_
      walk_at "awa"
      have gK:qj sh ao (ks i) k=ys.isEmpty:=by
       refine aa zA (aa sU ?_)
       exact VC sh ao (ks i) k (cn i) (by exact aa kc rfl)
      refine i7 (λfV=>?_) (λfV=>?_)
      ·rw[fV] at gK
       have vz:ks (i+1)=ks i++[k]:=by
        refine aa fC ?_
        show fB sh ao (ord.take (i+1))=fB sh ao (ord.take i)++[k]
        refine aa (BP ze) ?_
        unfold qk
        exact aa (if_pos (by rw[fC] at gK;exact gK)) rfl
       have B4:cn (i+1)=λq=>cn i q+(if eE sh (ao.getD q (0,0)).1 k=true then 1 else 0):=by
        refine aa kc ?_
        funext q
        show iD sh (ks (i+1)) _=iD sh (ks i) _+_
        exact aa vz (aa UD rfl)
       (with_reducible show AW _ _ _ _ (execs (.For _ _ _ _ _::_) _) _ _ _)
       with_reducible refine je ?_
       walk_at "awa"
       refine gZ (.inl (.tail _ (.tail _ (.head _)))) λit5=>?_
       refine iN (gw C'.hh) (λi' m H'=>∃rz,SubL [(Str.ofString "worth", .int (-wt k) (ts k)),(Str.ofString "kept", .ref ka),(Str.ofString "taken", .ref tk),(Str.ofString "heap", .ref D)] m∧
        H'.Perm ((yu,af [])::(E2,af ys)::(E,af (zi.map λq=>Value.ref (p q)))::(c4,aE (some (.str (host k (sh k)) (us k))))::(D,af (cz key dI (i+1)))::(el,af [])::(ka,af kv)::(tk,af ((List.range ao.length).map λq=>Value.ref (p q)))::
         (br++((List.range ao.length).map (eK p ao tn rz (λq=>cn i q+(if q∈zi.take i' then 1 else 0)))++R0))))
        (λi' m H' hI=>by refine ah hI λ_ _ hp=>?_;clear hI;exact .inl (hp.mem_iff.mpr (.tail _ (.tail _ (.head _))))) ?_ ?_ 0 (Nat.zero_le _) ⟨tu,by walk_at "aw_subl",?_⟩
       ·intro i' J hJ v m3 H3 bR hv N4;refine ah N4 λrz vB vF=>?_;clear N4
        rw[List.length_map] at bR
        refine xA (Jp i' bR) λw6 w7=>?_
        generalize CS:zi.getD i' 0=q at*
        rw[List.getElem?_map,w6] at hv
        obtain rfl:v= .ref (p q):=by cases hv;rfl
        refine bO vB ?_
        refine dQ (vF.cons _) ?_
        refine bQ ?_
        walk_at "awa"
        (with_reducible show AW _ _ _ _ (execs (.AugAssign (.Subscript _ _ _) _ _ _::_) _) _ _ _)
        with_reducible refine QJ ?_
        walk_at "awa"
        refine bu (.tail (.tail (.tail (.tail (.tail (.tail (.tail (.tail (.tail (aZ.app (Lo w7) br)))))))))) ?_
        refine Ri (.head _) (by exact Int.natCast_nonneg _) (by exact Int.natCast_nonneg _) (by rfl) ?_
        walk_at "awa"
        refine x6 λt7=>?_
        refine lK (by exact(ln 0x4410cc1318000).1) (by exact(ln 0x11050000000000000000dfcc3320000).1) (by show(1:Int)<2;decide) ?_
        walk_at "awa"
        have Xo:q∉zi.take i':=λhq=>by
         obtain ⟨x,hx,e⟩:=List.mem_iff_getElem.mp hq
         rw[List.length_take] at hx
         rw[List.getElem_take] at e
         have e2:zi[i']'bR=q:=by
          have:=List.getElem?_eq_getElem bR
          rw[this] at w6
          exact Option.some.inj w6
         have:=(List.getElem_inj (h₀:=by exact KV hx (Eq.refl (min i' zi.length))) (h₁:=bR) Yi).mp (e.trans e2.symm)
         exact Dl hx this (Eq.refl (min i' zi.length))
        refine fU (.tail .head) (hJ ⟨λq'=>if q'=q then t7 else rz q',by walk_at "aw_subl",?_⟩)
        have Jc:zi.take (i'+1)=zi.take i'++[q]:=by refine aa List.take_add_one (aa w6 ?_);rfl
        have VS:eK p ao tn (λq'=>if q'=q then t7 else rz q') (λq'=>cn i q'+if q'∈zi.take (i'+1) then 1 else 0) q=
         (p q,af ([Value.str (bM (ao.getD q (0,0)).1) (tn q),Value.int ((λq=>cn i q+if q∈zi.take i' then 1 else 0) q) (rz q)].set (Int.toNat 1) (Value.int ((λq=>cn i q+if q∈zi.take i' then 1 else 0) q+1) t7))):=by
         unfold eK
         have m1:q∈zi.take (i'+1):=by refine aa Jc ?_;exact List.mem_append_right _ (.head _)
         simp only [if_pos m1,if_neg Xo,if_pos]
         refine aa (Int.add_zero ..) ?_;rfl
        refine aa (Eq.symm VS) ?_
        refine z4 ((yu,af [])::(E2,af ys)::(E,af (zi.map λq=>Value.ref (p q)))::(c4,aE (some (.str (host k (sh k)) (us k))))::(D,af (cz key dI (i+1)))::(el,af [])::(ka,af kv)::(tk,af ((List.range ao.length).map λq=>Value.ref (p q)))::br) ?_
        refine put_range w7 λj hj=>?_
        unfold eK
        have m2:(j∈zi.take (i'+1))=(j∈zi.take i'):=by
         refine aa Jc ?_
         simp[hj]
        simp only [if_neg hj,m2]
       ·intro m3 H3 N5;refine ah N5 λrz vB vF=>?_;clear N5
        rw[List.length_map,List.take_length] at vF
        have U3:(List.range ao.length).map (eK p ao tn rz (λq=>cn i q+(if q∈zi then 1 else 0)))=(List.range ao.length).map (eK p ao tn rz (cn (i+1))):=by
         refine List.map_congr_left λq hq=>?_
         unfold eK
         refine aa B4 ?_
         have:(q∈zi)=(eE sh (ao.getD q (0,0)).1 k=true):=by
          rw[sU,List.mem_filter]
          simp only [hq,true_and]
         simp only [this]
        rw[U3] at vF
        refine bO vB ?_
        refine dQ vF ?_
        walk_at "awa"
        refine iO (.tail _ (.tail _ (.tail _ (.tail _ (.tail _ (.tail _ (.head _))))))) PySem.F.slot_list_append PySem.F.type_list_append ?_
        refine cF ?_
        walk_at "awa"
        refine rT ?_
        walk_at "awa"
        refine aa (Int.neg_neg ..) ?_
        rename_i tneg
        refine g6 (c:=c4) rfl (.tail _ (.tail _ (.tail _ (.head _)))) ?_
        walk_at "awa"
        refine⟨by show(2:Nat)≤sizeLine;lia,λtu9=>?_⟩
        walk_at "awa"
        have Xb:=yV.1
        have jD:(ks i).length≤i:=by
         refine aa fC ?_
         exact Hi sh ao ord i
        refine bu (.tail (.tail (.tail (.tail (.tail (.tail (.tail .head))))))) ?_
        refine jL (by exact @(ln 0x842008422084210842000c80200421843f40bf30166201405).1 kv.length sizeLine n i ((ks i).length) hn aP hi Xb jD) ?_
        with_reducible refine i8 ?_
        refine bu (.tail (.tail (.tail (.tail (.tail .head))))) ?_
        refine bu (.tail (.tail (.tail (.tail (.tail (.tail (.tail (.tail .head)))))))) ?_
        refine bu (.tail (.tail .head)) ?_
        refine bu (.tail (.tail (.tail (.tail (.tail (.tail (.tail .head))))))) ?_
        walk_at "awa"
        refine qY (k:=nn-1) (by exact KP cA hi (Eq.refl (nn-1))) (hJ ⟨i+1,kv++[.ref tu9],[_,_,_,_,_]++br,rz,_,by exact KQ cA hi (Eq.refl (nn-1)),by walk_at "aw_subl",?_,List.Perm.refl _⟩)
        refine aa vz ?_
        exact(yV.mono λq hq=>List.mem_append_right _ hq).snoc (.head _)
       ·have e0:(λq=>cn i q+(if q∈zi.take 0 then 1 else 0))=cn i:=by
         funext q;simp
        rw[e0]
      ·rw[fV] at gK
       have vz:ks (i+1)=ks i:=by
        refine aa fC ?_
        show fB sh ao (ord.take (i+1))=fB sh ao (ord.take i)
        refine aa (BP ze) ?_
        unfold qk
        exact aa (if_neg (by rw[fC] at gK;rw[gK];simp)) rfl
       have B4:cn (i+1)=cn i:=by refine aa kc ?_;funext q;show iD sh (ks (i+1)) _=_;exact aa vz rfl
       refine bu (.tail (.tail (.tail .head))) ?_
       refine bu (.tail (.tail (.tail (.tail (.tail (.tail (.tail .head))))))) ?_
       refine bu (.tail (.tail (.tail (.tail (.tail (.tail (.tail .head))))))) ?_
       refine bu (.tail (.tail (.tail (.tail (.tail (.tail .head)))))) ?_
       walk_at "awa"
       refine qY (k:=nn-1) (by lia) (hJ ⟨i+1,kv,[_,_,_,_]++br,tu,_,by lia,by walk_at "aw_subl",?_,by refine aa B4 ?_;exact List.Perm.refl _⟩)
       refine aa vz ?_
       exact yV.mono λq hq=>List.mem_append_right _ hq
   ·have hi:i=n:=by
     have:cz key dI i=[]:=by
      cases hh:cz key dI i with
      |nil=>rfl
      |cons=>rw[hh] at hb;cases hb
     rw[this,List.length_nil] at hlen
     exact(ln 0x400000011000000001088200000000422000200800110421084020046a182620880b10c04).1 cA hlen (Eq.refl (n-i))
    refine bu (.tail (.tail .head)) ?_
    walk_at "awa"
    have qq:ks i=fB sh ao ord:=by
     refine aa fC (aa hi (aa (Eq.symm zg) ?_))
     show fB sh ao (ord.take ord.length)=_
     exact aa List.take_length rfl
    have:=h ka kv ((el,af [])::(D,af (cz key dI i))::(tk,af ((List.range ao.length).map λq=>Value.ref (p q)))::(c4,aE hv)::(br++((List.range ao.length).map (eK p ao tn tu (cn i))++J0)))
     (by refine aa (Eq.symm qq) ?_;exact yV.mono λq hq=> .tail _ (.tail _ (.tail _ (.tail _ (List.mem_append_left _ hq)))))
    refine aa (Eq.symm hR) ?_
    simpa [List.append_assoc] using this
end
end
section
open PySem.SeqAt
theorem b7.are:∀{vs:List Value} {ns:List Int},b7 vs ns->IntsAre vs ns
 |[],[],_=> .nil
 |[],_::_,h=>by cases h.1
 |_::_,[],h=>by cases h.1
 |v::vs,n::ns,h=>by
  refine xE (h.2 0 n rfl) λt e=>?_
  obtain rfl:v= .int n t:=by cases e;rfl
  refine .cons n t (b7.are ⟨by have:=h.1;simpa using this,λi m hm=>?_⟩)
  exact h.2 (i+1) m hm
theorem b7.nil:b7 [] []:=⟨rfl,λ_ _ h=>nomatch h⟩
theorem b7.snoc (h:b7 vs ns)(n:Int)(t:Tok):b7 (vs++[.int n t]) (ns++[n]):=by
 refine⟨by simp[h.1],λi m hm=>?_⟩
 rcases Nat.lt_trichotomy i ns.length with hi|hi|hi
 ·rw[List.getElem?_append_left hi] at hm
  refine xE (h.2 i m hm) λt' e=>?_
  exact⟨t',by refine aa (List.getElem?_append_left (by rw[h.1];exact hi)) ?_;exact e⟩
 ·subst hi
  rw[List.getElem?_append_right (Nat.le_refl _),Nat.sub_self] at hm
  cases hm
  exact⟨t,by refine aa (List.getElem?_append_right (by rw[h.1];exact Nat.le_refl _) ..) (aa (h.1 ..) (aa (Nat.sub_self ..) ?_));rfl⟩
 ·rw[List.getElem?_eq_none (by refine aa List.length_append ?_;show ns.length+1≤i;assumption)] at hm
  cases hm
section
variable {prog:Program}{w:World}{A:Around}{h₀:Heap}{L a b:Addr}{m:Loc}{H:Led}{vs:List Value}{Q:Value->Loc->Led->Prop}
theorem Bf (hh:A.handled=none)(ha:c7 h₀ a vs H)(hi:b7 vs ns)(h:∀t,Q (.int ns.sum t) m H):AW (model prog w) A h₀ L (call (.builtin "sum") [.ref a]) Q m H:=λs R E S k=>by
 have hl:=ha.at S
 refine xE hi.are.allInts.items λxs e=>?_
 rw[e] at hl
 refine sum_intListG hh hl λh' tk t' hk=>?_
 have hn:=hi.are.numsOf
 have e2:(numsOf vs).sum=preSum (numAt xs) xs.size:=by
  have:vs=(intItems xs).toList:=by exact aa (Eq.symm e) rfl
  rw[this,nums_intItems,preSum_eq,List.take_of_length_le (by simp)]
 rw[hn] at e2
 refine aa (Eq.symm e2) ?_
 exact k _ m H _ _ (S.keeps hk) (h _)
theorem foldl_rep (v:Value):∀(k:Nat) (acc:Array Value),(List.foldl (λx1 x2=>x1++x2) acc (List.replicate k #[v]))=acc++(List.replicate k v).toArray
 |0,acc=>by simp
 |k+1,acc=>by
  refine aa (List.replicate_succ ..) (aa (List.foldl_cons ..) (aa (foldl_rep v k ..) ?_))
  apply Array.toList_inj.mp
  simp[List.replicate_succ]
theorem Fy (ha:(a,af [v])∈H)(hx:x≤1000)(h:∀r,Q (.ref r) m ((r,af (List.replicate x v))::H)):AW (model prog w) A h₀ L (binaryOp .Mult (.ref a) (.int x u)) Q m H:=λs R E S k=>by
 refine xE (S.lst ha) λn e=>?_
 refine ah S.fr λmf F g=>?_
 have nq:(1000:Int)<2^63:=by decide
 refine PyProof.Rows.mul_list F S.news e (by exact Int.natCast_nonneg _) (by exact KD hx) (by simp;exact Nat.le_trans ‹_› (by decide)) λh' F' N'=>?_
 refine k _ m _ h' _ (S.more F' g N' (Heap.get?_none_of_le (Nat.le_refl _)) ⟨0,?_⟩) (h _)
 have e1:(List.foldl (λx1 x2=>x1++x2) #[] (List.replicate (if([v].toArray).isEmpty=true then 0 else((x:Int)).toNat) [v].toArray))=(List.replicate x v).toArray:=by
  refine aa (if_neg (by exact Bool.false_ne_true) ..) (aa (Int.toNat_natCast ..) ?_)
  have:=foldl_rep v x #[]
  simpa using this
 exact aa e1 rfl
theorem p8 (h:Q (.bool (v== .none)) m H):AW (model prog w) A h₀ L (compareOp .Is v .none) Q m H:=λs R E S k=>is_none_gen (k _ m H _ _ S h)
end
section
variable {M:Model}{A:Around}{h₀:Heap}{L C:Addr}{m:Loc}{H H':Led}{env:Env}{scope:Scope}{cl:List (Str×Addr)}
theorem QX (hc:cl.lookup x=some c)(p:aZ c (aE v₀) H H')(h:Q () m ((c,aE (some v))::H'))
 (hk:scope.kind= .function:=by with_unfolding_all rfl)(hx:(compEnvC scope cl C env).kindOf x=some .cell:=by with_unfolding_all rfl):
 AW M A h₀ L (storeName (compEnvC scope cl C env) x v) Q m H:=λs R E S k=>by
 have S':=S.perm p.perm
 refine ah (S'.get (.head _)) λo e q=>?_
 refine wpAny_storeName_cell (by assumption) hx hc ⟨o,e,q⟩ λh' hv hs=>?_
 refine ah hv λo' gu ff=>?_;clear hv
 exact k _ m _ h' _ (S'.upd hs gu ff) h
end
noncomputable def gh (vs:List Value)(os:List (Option Int)):Prop:=vs.length=os.length∧∀(i:Nat) (o:Option Int),os[i]?=some o->∃t,vs[i]?=some (match o with|none=> .none|some x=> .int x t)
noncomputable def cB (n c:Nat):List Nat:=(List.range n).filter λk=>c/2^k% 2==1
noncomputable def indep (sh:Nat->Nat)(ao:List (Nat×Int))(S:List Nat):Bool:=ao.all λp=>decide (iD sh S p.1≤p.2)
noncomputable def jN (sh:Nat->Nat)(wt:Nat->Int)(ao:List (Nat×Int))(b:List (Option Int))(S:List Nat):List (Option Int):=
 if indep sh ao S=true∧(b.getD S.length none=none∨∃x,b.getD S.length none=some x∧x<(S.map wt).sum) then b.set S.length (some (S.map wt).sum) else b
noncomputable def c9 (sh:Nat->Nat)(wt:Nat->Int)(ao:List (Nat×Int))(n:Nat):Nat->List (Option Int)
 |0=>List.replicate (n+1) none
 |c+1=>jN sh wt ao (c9 sh wt ao n c) (cB n c)
theorem gh.set {vs os}(h:gh vs os)(i:Nat)(x:Int)(t:Tok):gh (vs.set i (.int x t)) (os.set i (some x)):=by
 refine⟨by simp[h.1],λj o hj=>?_⟩
 by_cases e:i=j
 ·subst e
  have aC:i<os.length:=by
   rw[List.getElem?_set] at hj
   by_cases q:i<os.length
   ·exact q
   ·simp[q] at hj
  rw[List.getElem?_set_self aC] at hj
  cases hj
  exact⟨t,List.getElem?_set_self (by refine aa h.1 ?_;exact aC)⟩
 ·rw[List.getElem?_set_ne e] at hj ⊢
  exact h.2 j o hj
theorem pickN_len (n c:Nat):(cB n c).length≤n:=by
 unfold cB
 refine Nat.le_trans (List.length_filter_le _ _) ?_
 refine aa List.length_range ?_;exact Nat.le_refl _
theorem qe (sh wt ao n):∀c,(c9 sh wt ao n c).length=n+1
 |0=>by simp[c9]
 |c+1=>by
  show(jN sh wt ao (c9 sh wt ao n c) (cB n c)).length=_
  unfold jN
  split
  ·refine aa List.length_set ?_;exact qe sh wt ao n c
  ·exact qe sh wt ao n c
end
section
open PySem.SeqAt
section
variable {G:Gx}{A:Around}{h₀:Heap}{L:Addr}{m:Loc}{H:Led}{env:Env}{aW:eu}{pd:jb}{x y:Str}{t u:Tok}{Q:Value->Loc->Led->Prop}
set_option maxHeartbeats 4000000 in
theorem QK (T:aT G.K aW)(C:Cx G A h₀ L env)(r:bw A 2){hl wl ld:Addr}{hv wv:List Value}{kvs:List (Str×Value)}{ao:List (Nat×Int)}{n ep:Nat}{sh:Nat->Nat}{wt:Nat->Int}
 (kh:(hl,af hv)∈H)(o5:bU hv (ki n sh))(nJ:(wl,af wv)∈H)(vP:b7 wv (kI n wt))(o7:(ld,dM G.prog G.w ld kvs ep)∈H)(fD:lG kvs ao)(o8:ao.length≤8)(lP:∀p∈ao,p.1<7)
 (hn:n≤5)(aA:∀k<n,sh k<7)
 (h:∀r vs jk,gh vs (c9 sh wt ao n (2^n))->Q (.ref r) m ((r,af vs)::(jk++H))):
 AW (model G.prog G.w) A h₀ L (call (.ref aW.best) [.ref hl, .ref wl, .ref ld]) Q m H:=by
 refine xE T.best.d λbg d=>?_
 conv at d in(aO _).body=>whnf
 conv at d in(occs:= *) (aO _).scope=>all_goals whnf
 refine AZ (n:=1) (binds:=[(Str.ofString "hosts",_),(Str.ofString "worths",_),(Str.ofString "limits",_)]) C r d (λ_ _ _ _ _=>rfl) (by rfl) (by decide) [] (λ_ _ _ e=>nomatch e) λA' g L' C' r'=>?_
 have aP:(1000:Nat)≤sizeLine:=by decide
 have sS:(1000:Int)<2^62:=by decide
 show AW _ _ _ _ (execs _ (envX _ _ _ _ _ [(Str.ofString "picked",L'+1+1+1+1+1),(Str.ofString "choice",L'+1+1+1+1),(Str.ofString "limits",L'+1+1+1),(Str.ofString "worths",L'+1+1),(Str.ofString "hosts",L'+1)])) _ _ ((L'+1+1+1+1+1,aE none)::(L'+1+1+1+1,aE none)::(L'+1+1+1,aE (some (.ref ld)))::(L'+1+1,aE (some (.ref wl)))::(L'+1,aE (some (.ref hl)))::H)
 generalize yK:L'+1=c1
 generalize yL:c1+1=c2
 generalize oW:c2+1=c3
 generalize Wb:c3+1=c4
 generalize hc5:c4+1=c5
 have iV:=o5.length
 rw[qH] at iV
 walk_at "awa"
 refine dF ?_
 walk_at "awa"
 refine⟨by show(1:Nat)≤sizeLine;exact Nat.succ_pos _,λl1=>?_⟩
 walk_at "awa"
 refine g6 (c:=c1) rfl (.tail _ (.tail _ (.tail _ (.tail _ (.tail _ (.head _)))))) ?_
 walk_at "awa"
 refine fL (.tail _ (.tail _ (.tail _ (.tail _ (.tail _ (.tail _ kh)))))) (by exact zQ hn iV) λtl=>?_
 walk_at "awa"
 refine aa iV (aa (show((n:Int)+1)=((n+1:Nat):Int) by rfl) ?_)
 refine Fy (.head _) (by exact Nat.lt_of_le_of_lt ‹_› (by decide)) λbe=>?_
 walk_at "awa"
 (with_reducible show AW _ _ _ _ (execs (.For _ _ _ _ _::_) _) _ _ _)
 with_reducible refine je ?_
 walk_at "awa"
 refine g6 (c:=c1) rfl (.tail _ (.tail _ (.tail _ (.tail _ (.tail _ (.tail _ (.head _))))))) ?_
 walk_at "awa"
 refine fL (.tail _ (.tail _ (.tail _ (.tail _ (.tail _ (.tail _ (.tail _ kh))))))) (by lia) λtQ=>?_
 walk_at "awa"
 refine aa iV ?_
 refine Bb (by exact Int.natCast_nonneg _) (by exact(ln 0x211043e84804fcc0f1966000401).1 hn) (by decide) λtp=>?_
 walk_at "awa"
 refine mU λrr=>?_
 rw[Int.toNat_natCast,show((2:Int)^n)=((2^n:Nat):Int) by simp]
 have h2n:2^n≤2^5:=Nat.pow_le_pow_right (by decide) hn
 generalize hN:2^n=N at*
 refine mR (n:=N) (.head _) (pN (by exact Nat.le_trans ‹_› (by decide))) nT λit=>?_
 refine xE (show∃J0,J0=[(rr,eB 0 N 1),(l1,af [Value.none]),(c3,aE (some (.ref ld))),(c2,aE (some (.ref wl))),(c1,aE (some (.ref hl)))] from⟨_,rfl⟩) λJ0 jP=>?_
 have vc:∀q∈H,q∈J0++H:=λq hq=>List.mem_append_right _ hq
 have vd:(c3,aE (some (.ref ld)))∈J0++H:=by refine aa jP ?_;exact .tail _ (.tail _ (.head _))
 have VZ:(c2,aE (some (.ref wl)))∈J0++H:=by refine aa jP ?_;exact .tail _ (.tail _ (.tail _ (.head _)))
 have Hz:(c1,aE (some (.ref hl)))∈J0++H:=by refine aa jP ?_;exact .tail _ (.tail _ (.tail _ (.tail _ (.head _))))
 have qn:(ld,dM G.prog G.w ld kvs ep)∈J0++H:=vc _ o7
 have HA:=vc _ kh
 have V0:=vc _ nJ
 have Xw:((rr,eB 0 N 1)::(be,af (List.replicate (n+1) Value.none))::(l1,af [Value.none])::(c5,aE none)::(c4,aE none)::(c3,aE (some (.ref ld)))::(c2,aE (some (.ref wl)))::(c1,aE (some (.ref hl)))::H).Perm
  ((be,af (List.replicate (n+1) Value.none))::(c4,aE none)::(c5,aE none)::(J0++H)):=by
  refine aa jP ?_
  refine(List.Perm.swap _ _ _).trans (List.Perm.cons _ ?_)
  refine(List.Perm.cons _ (List.Perm.cons _ (List.Perm.swap _ _ _))).trans ?_
  refine(List.Perm.cons _ (List.Perm.swap _ _ _)).trans ?_
  refine(List.Perm.swap _ _ _).trans (List.Perm.cons _ ?_)
  refine(List.Perm.cons _ (List.Perm.swap _ _ _)).trans ?_
  exact(List.Perm.swap _ _ _)
 generalize hR:J0++H=R0 at*
 refine iN (lW C'.hh) (λc m H'=>∃bv br x4 x5,SubL [(Str.ofString "best", .ref be)] m∧gh bv (c9 sh wt ao n c)∧H'.Perm ((be,af bv)::(c4,aE x4)::(c5,aE x5)::(br++R0)))
  (λ_ _ _ _=>trivial) ?_ ?_ 0 (Nat.zero_le _) ⟨_,[],none,none,by walk_at "aw_subl",?_,Xw⟩
 ·intro c J hJ v m1 H1 hc Np Nq;refine xE Np λtv zr151=>?_;clear Np;subst zr151;refine i9 Nq λbv br x4 x5 hm sH hp=>?_;clear Nq
  refine bO hm ?_
  refine dQ (hp.cons _) ?_
  refine aa (show(0:Int)+1*(c:Int)=c by simp+arith) ?_
  refine bQ ?_
  refine qc (c:=c4) rfl (.tail (.tail .head)) ?_
  (with_reducible show AW _ _ _ _ (execs (.Assign [.Name _ _] (.ListComp _ _ _ _) _::_) _) _ _ _)
  with_reducible refine kP ?_
  refine mS _ (by rfl) ?_
  walk_at "awa"
  refine g6 (c:=c1) rfl (.tail _ (.tail _ (.tail _ (.tail _ (List.mem_append_right _ Hz))))) ?_
  walk_at "awa"
  refine fL (.tail _ (.tail _ (.tail _ (.tail _ (List.mem_append_right _ HA))))) (by lia) λtl3=>?_
  walk_at "awa"
  refine mU λr2=>?_
  refine aa iV ?_
  refine mR (n:=n) (.head _) (pN (by exact Nat.le_trans ‹_› (by decide))) nT λpC=>?_
  refine⟨pC,iL 0 1 n,_,_,_,_,rfl,rfl,lW C'.hh,λp H d=>d,λcC D=>⟨λi' ys X=>X=(r2,eB 0 n 1)::(c4,aE (some (.int c tv)))::(it,iL 0 1 N (c+1))::(be,af bv)::(c5,aE x5)::(br++R0)∧b7 ys (((List.range i').filter λk=>c/2^k% 2==1).map λ(k:Nat)=>(k:Int)),λ_ _ _ _=>trivial,⟨rfl,b7.nil⟩,?_,?_⟩⟩
  ·intro k v mc ys X hk Nr Nt;refine xE Nr λtk zr152=>?_;clear Nr;subst zr152;refine xA Nt λzr153 bA=>?_;clear Nt;subst zr153
   refine aa (show(0:Int)+1*(k:Int)=k by exact Kz) ?_
   refine bQ ?_
   refine gq .head ?_
   refine qd ?_
   (with_reducible show AW _ _ _ _ (isTrue (.Compare _ [_] [_] _) _ _) _ _ _)
   with_reducible refine oH ?_
   walk_at "awa"
   refine gY (c:=c4) (by with_unfolding_all rfl) (.tail _ (.tail _ (.tail _ (.tail _ (.head _))))) ?_
   walk_at "awa"
   refine dj (.head _) (by with_unfolding_all rfl) ?_
   refine Bb (by exact pF) (by exact(ln 0x42110421f424027e6078c200966100802).1 hn hk) (by decide) λ_=>?_
   rw[Int.toNat_natCast,show((2:Int)^k)=((2^k:Nat):Int) by simp]
   have h2k:2^k≤2^5:=Nat.pow_le_pow_right (by decide) (by exact Nat.le_of_lt (Nat.lt_of_lt_of_le ‹_› ‹_›))
   have VM:0<2^k:=Nat.pow_pos (by decide)
   refine xZ (by exact(ln 0x40110420981e53001308401).1 VM) (by exact Nat.lt_of_le_of_lt ‹_› (by decide)) λ_=>?_
   walk_at "awa"
   have e1:((c:Int).fdiv ((2^k:Nat):Int)).fmod 2=((c/2^k% 2:Nat):Int):=by
    refine aa (Int.fdiv_eq_ediv_of_nonneg _ (by exact Int.natCast_nonneg _)) (aa (Int.fmod_eq_emod_of_nonneg _ (by decide)) ?_)
    rfl
   refine aa e1 ?_
   have e2:(((c/2^k% 2:Nat):Int)==1)=(c/2^k% 2==1):=by
    rw[Bool.eq_iff_iff,beq_iff_eq,beq_iff_eq];lia
   refine aa e2 ?_
   refine i7 (λhb=>?_) (λhb=>?_)
   ·refine dj (.head _) (by with_unfolding_all rfl) ?_
    refine⟨rfl,_,_,_,_,_, .tail .head, .head, .head,?_,rfl,?_⟩
    ·refine aa (bA.1 ..) (aa (List.length_map ..) ?_)
     refine Nat.le_trans (List.length_filter_le _ _) ?_
     refine aa List.length_range ?_;exact @(ln 0x10842208421080020043f40bf30166200c03).1 k sizeLine n hn aP hk
    ·refine aa (List.range_succ ..) (aa (List.filter_append ..) (aa (List.filter_cons_of_pos (p:=λk=>c/2^k% 2==1) (by exact hb) ..) (aa (List.map_append ..) ?_)))
     exact bA.snoc _ _
   ·refine⟨rfl,_,_,_,_,_, .tail .head, .head, .head,rfl,?_⟩
    refine aa (List.range_succ ..) (aa (List.filter_append ..) (aa (List.filter_cons_of_neg (p:=λk=>c/2^k% 2==1) (by rw[hb];simp) ..) (aa (List.filter_nil ..) (aa (List.append_nil ..) ?_))))
    exact bA
  ·intro mc ys X Nu;refine xA Nu λzr154 bA=>?_;clear Nu;subst zr154
   refine⟨_,_,_,rfl,?_⟩
   refine qc (c:=c5) rfl (.tail (.tail (.tail (.tail (.tail .head))))) ?_
   refine xE (show∃S,S=cB n c from⟨_,rfl⟩) λS hS=>?_
   have bA:b7 ys (S.map λ(k:Nat)=>(k:Int)):=by refine aa hS ?_;exact bA
   have r9:S.length≤n:=by refine aa hS ?_;exact pickN_len n c
   have V1:∀k∈S,k<n:=λk hk=>by rw[hS] at hk;exact List.mem_range.mp (List.mem_filter.mp hk).1
   have gO:ys.length=S.length:=by rw[bA.1,List.length_map]
   have HD:∀i',i'<S.length->∃k t,S[i']?=some k∧k<n∧ys[i']?=some (.int (k:Int) t):=λi' bR=>by
    have e1:=List.getElem?_eq_getElem bR
    refine xE (bA.2 i' ((S[i']:Nat):Int) (by refine aa (List.getElem?_map) (aa e1 ?_);rfl)) λt e2=>?_
    exact⟨_,t,e1,V1 _ (List.getElem_mem bR),e2⟩
   have yZ:∀q<ao.length,ao[q]?=some (ao.getD q (0,0))∧(ao.getD q (0,0)).1<7:=λq hq=>by
    have e1:ao[q]?=some (ao.getD q (0,0)):=by refine aa (List.getD_eq_getElem?_getD) (aa (List.getElem?_eq_getElem hq) ?_);rfl
    exact⟨e1,lP _ (List.mem_of_getElem? e1)⟩
   refine xE (show∃base,base=(c5,aE (some (.ref D)))::(D,af ys)::(r2,eB 0 n 1)::(c4,aE (some (.int c tv)))::(it,iL 0 1 N (c+1))::(be,af bv)::(br++R0) from⟨_,rfl⟩) λbase nu=>?_
   have sj:(c5,aE (some (.ref D)))∈base:=by refine aa nu ?_;exact .head _
   have oV:(D,af ys)∈base:=by refine aa nu ?_;exact .tail _ (.head _)
   have nt:∀q∈R0,q∈base:=λq hq=>by refine aa nu ?_;exact .tail _ (.tail _ (.tail _ (.tail _ (.tail _ (.tail _ (List.mem_append_right _ hq))))))
   refine aa (Eq.symm nu) ?_
   (with_reducible show AW _ _ _ _ (execs (.Assign [.Name _ _] (.ListComp _ _ _ _) _::_) _) _ _ _)
   refine qa _ (by rfl) (by rfl) ?_
   refine g6 (c:=c3) rfl (nt _ vd) ?_
   refine A5 (nt _ qn) λzE=>?_
   refine⟨zE,pW ld kvs.length ep,_,_,λH=>(ld,dM G.prog G.w ld kvs ep)∈H,base,rfl,rfl,CX C'.hh,λp H d=> .tail _ d,λcC E=>⟨λi' jm X=>∃xn cV,X=(cC+1,aE xn)::(cV++base)∧jm.length≤i'∧jm.isEmpty=(ao.take i').all λp=>decide (iD sh S p.1≤p.2),?_,⟨none,[],rfl,Nat.le_refl _,rfl⟩,?_,?_⟩⟩
   ·intro i' jm X Nv;refine Ea Nv λxn cV zr155 _=>?_;clear Nv;subst zr155
    exact .tail _ (List.mem_append_right _ (nt _ qn))
   ·intro q v ic jm X hq Ny Nz;refine cE Ny λkk xx tq aM zr156=>?_;clear Ny;subst zr156;refine eX Nz λxn cV zr157 Jo zB=>?_;clear Nz;subst zr157
    rw[fD.1] at hq
    refine xA (yZ q hq) λJP vZ=>?_
    refine xE (fD.2 q (ao.getD q (0,0)).1 (ao.getD q (0,0)).2 JP) λtlv sE=>?_
    obtain rfl:kk=bM (ao.getD q (0,0)).1:=by rw[sE] at aM;cases aM;rfl
    generalize vp:ao.getD q (0,0)=jc at*
    obtain ⟨j,cc⟩:=jc
    refine bQ ?_
    refine QX (c:=cC+1) (by with_unfolding_all rfl) (.tail (.tail (.tail .head))) ?_
    refine qd ?_
    (with_reducible show AW _ _ _ _ (isTrue (.Compare _ [_] [_] _) _ _) _ _ _)
    with_reducible refine oH ?_
    with_reducible refine oB ?_
    refine E4 C' (aT.Bk T) boot_len ?_
    walk_at "awa"
    refine mS _ (by rfl) ?_
    refine gY (c:=c5) (by with_unfolding_all rfl) (.tail _ (.tail _ (.tail _ (.tail _ (List.mem_append_right _ sj))))) ?_
    refine gZ (.inl (.tail _ (.tail _ (.tail _ (.tail _ (List.mem_append_right _ oV)))))) λCW=>?_
    refine⟨CW,fu D,_,_,c7 g D ys,_,rfl,rfl,gw C'.hh,λp H d=>d.more,λcC2 E2=>⟨λi' gb X=>X=(cC+1,aE (some (Value.str (bM j) tq)))::(cC,bP ic)::(zE,pW ld kvs.length ep (q+1))::(E,af jm)::(cV++base)∧gb.length=((S.take i').filter (eE sh j)).length,?_,⟨rfl,rfl⟩,?_,?_⟩⟩
    ·intro i' gb X NB;refine xA NB λzr158 _=>?_;clear NB;subst zr158
     exact .inl (.tail _ (.tail _ (.tail _ (.tail _ (List.mem_append_right _ oV)))))
    ·intro i' v wo gb X bR lS NC;refine xA NC λzr159 jU=>?_;clear NC;subst zr159
     rw[gO] at bR
     refine eX (HD i' bR) λk tk DK wJ DL=>?_
     obtain rfl:v= .int (k:Int) tk:=by rw[DL] at lS;cases lS;rfl
     refine xE (o5.get (zh (sh:=sh) wJ)) λth yR=>?_
     refine bQ ?_
     refine gq .head ?_
     refine qd ?_
     (with_reducible show AW _ _ _ _ (isTrue _ _ _) _ _ _)
     with_reducible refine uH ?_
     with_reducible refine rO ?_
     with_reducible refine Be ?_
     refine gY (c:=c1) (by with_unfolding_all rfl) (.tail _ (.tail _ (.tail _ (.tail _ (.tail _ (.tail _ (.tail _ (List.mem_append_right _ (nt _ Hz))))))))) ?_
     refine dj (.head _) (by with_unfolding_all rfl) ?_
     refine cM (.tail _ (.tail _ (.tail _ (.tail _ (.tail _ (.tail _ (.tail _ (List.mem_append_right _ (nt _ HA))))))))) (by lia) (by exact Di hn wJ) (by assumption) ?_
     walk_at "awa"
     refine gY (c:=cC+1) (by with_unfolding_all rfl) (.tail _ (.tail _ (.tail _ (.head _)))) ?_
     walk_at "awa"
     refine E9 (G4 k (by exact Nat.lt_of_lt_of_le ‹_› ‹_›) (sh k) (aA k wJ) j (by exact vZ)) ?_
     walk_at "awa"
     have jh:S.take (i'+1)=S.take i'++[k]:=by refine aa List.take_add_one (aa DK ?_);rfl
     have cA:eE sh j k=(chain (sh k)).contains j:=rfl
     refine i7 (λfV=>?_) (λfV=>?_)
     ·refine dj (.head _) (by with_unfolding_all rfl) ?_
      refine⟨rfl,_,_,_,_,_, .tail .head, .head, .head,?_,rfl,?_⟩
      ·refine aa jU ?_
       refine Nat.le_trans (List.length_filter_le _ _) ?_
       refine aa List.length_take ?_;exact @Zs i' S.length (min i' S.length) sizeLine n hn aP r9 (Eq.refl (min i' S.length))
      ·refine aa (jh ..) (aa (List.filter_append ..) (aa (List.filter_cons_of_pos (p:=eE sh j) (by rw[cA];exact fV) ..) (aa (List.length_append ..) (aa (jU ..) (aa (List.length_append ..) ?_)))));rfl
     ·refine⟨rfl,_,_,_,_,_, .tail .head, .head, .head,rfl,?_⟩
      rw[jh,List.filter_append,List.filter_cons_of_neg (p:=eE sh j) (by refine aa cA (aa fV ?_);simp),List.filter_nil,List.append_nil,jU]
    ·intro wo gb X ND;refine xA ND λzr160 jU=>?_;clear ND;subst zr160
     rw[gO,List.take_length] at jU
     refine⟨_,_,_,rfl,?_⟩
     have Yd:gb.length≤n:=by
      refine aa jU ?_;exact Nat.le_trans (List.length_filter_le _ _) r9
     walk_at "awa"
     refine fL (.head _) (by exact J9 hn Yd) λt8=>?_
     walk_at "awa"
     refine gY (c:=c3) (by with_unfolding_all rfl) (.tail _ (.tail _ (.tail _ (.tail _ (.tail _ (List.mem_append_right _ (nt _ vd))))))) ?_
     refine gY (c:=cC+1) (by with_unfolding_all rfl) (.tail _ (.head _)) ?_
     have vh:di G.prog G.w ld kvs ((E2,af gb)::(cC+1,aE (some (Value.str (bM j) tq)))::(cC,bP ic)::(zE,pW ld kvs.length ep (q+1))::(E,af jm)::(cV++base)):=
      .pG (ep:=ep) (.tail _ (.tail _ (.tail _ (.tail _ (.tail _ (List.mem_append_right _ (nt _ qn)))))))
     refine uB vh λiX=>?_
     refine lJ vh (wQ iX sE) ?_
     refine bu (.tail .head) ?_
     walk_at "awa"
     have jh:ao.take (q+1)=ao.take q++[(j,cc)]:=by refine aa List.take_add_one (aa JP ?_);rfl
     have yM:iD sh S j=(gb.length:Int):=by unfold iD;exact aa jU rfl
     refine k6 (λWR=>?_) (λhle=>?_)
     ·refine gY (c:=cC+1) (by with_unfolding_all rfl) (.head _) ?_
      refine⟨rfl,_,_,_,_,_, .tail (.tail (.tail .head)), .tail (.tail .head), .tail (.tail .head),by exact @(ln 0x21084220842108400180021843f40bf30226201004).1 jm.length sizeLine ao.length q o8 aP hq Jo,_,(E2,af gb)::cV,rfl,by refine aa List.length_append ?_;show jm.length+1≤q+1;exact Nat.lt_add_one_of_le ‹_›,?_⟩
      refine aa jh (aa List.all_append ?_)
      have e6:decide (iD sh S j≤cc)=false:=decide_eq_false (by refine aa yM ?_;exact λz=>by dsimp only at WR;exact(ln 0x21104214800f181e020821).1 WR z)
      refine aa List.all_cons ?_
      dsimp only
      refine aa (e6 ..) (aa (Bool.false_and ..) (aa (Bool.and_false ..) ?_))
      cases jm<;>rfl
     ·refine⟨rfl,_,_,_,_,_, .tail (.tail (.tail .head)), .tail (.tail .head), .tail (.tail .head),_,(E2,af gb)::cV,rfl,by exact Nat.le_succ_of_le ‹_›,?_⟩
      refine aa jh (aa List.all_append (aa zB ?_))
      have e6:decide (iD sh S j≤cc)=true:=decide_eq_true (by refine aa yM ?_;dsimp only at hle;exact Int.not_lt.mp ‹_›)
      refine aa List.all_cons ?_
      dsimp only
      rw[e6,List.all_nil,Bool.true_and,Bool.and_true]
   ·intro ic jm X NF;refine eX NF λxn cV zr161 Jo zB=>?_;clear NF;subst zr161
    rw[fD.1,List.take_length] at zB
    have Cf:indep sh ao S=jm.isEmpty:=zB.symm
    refine⟨_,_,_,rfl,?_⟩
    refine jg ⟨rfl,?_⟩
    refine xE (show∃k8,k8=(E,af jm)::(cC+1,aE xn)::cV from⟨_,rfl⟩) λk8 Iz=>?_
    have hE:(E,af jm)∈k8++base:=List.mem_append_left _ (by refine aa Iz ?_;exact .head _)
    refine aa (show(E,af jm)::(cC+1,aE xn)::(cV++base)=k8++base by rw[Iz];rfl) ?_
    walk_at "awa"
    refine mS _ (by rfl) ?_
    refine g6 (c:=c5) rfl (List.mem_append_right _ sj) ?_
    refine gZ (.inl (List.mem_append_right _ oV)) λCW=>?_
    refine⟨CW,fu D,_,_,c7 g D ys,_,rfl,rfl,gw C'.hh,λp H d=>d.more,λcC2 E2=>⟨λi' gb X=>X=k8++base∧b7 gb ((S.take i').map wt),?_,⟨rfl,b7.nil⟩,?_,?_⟩⟩
    ·intro i' gb X NG;refine xA NG λzr162 _=>?_;clear NG;subst zr162
     exact .inl (List.mem_append_right _ oV)
    ·intro i' v wo gb X bR lS NH;refine xA NH λzr163 jU=>?_;clear NH;subst zr163
     rw[gO] at bR
     refine eX (HD i' bR) λk tk DK wJ DL=>?_
     obtain rfl:v= .int (k:Int) tk:=by rw[DL] at lS;cases lS;rfl
     refine xE (vP.2 k (wt k) (D6 wJ)) λtw lT=>?_
     refine bQ ?_
     refine gq .head ?_
     refine mW ?_
     refine jW ?_
     with_reducible refine Be ?_
     refine gY (c:=c2) (by with_unfolding_all rfl) (.tail _ (.tail _ (.tail _ (List.mem_append_right _ (nt _ VZ))))) ?_
     refine dj (.head _) (by with_unfolding_all rfl) ?_
     refine cM (.tail _ (.tail _ (.tail _ (List.mem_append_right _ (nt _ V0))))) (by lia) (by lia) (by assumption) ?_
     refine⟨rfl,_,_,_,_,_, .tail .head, .head, .head,?_,rfl,?_⟩
     ·refine aa (jU.1 ..) (aa (List.length_map ..) (aa (List.length_take ..) ?_));lia
     ·refine aa List.take_add_one (aa DK (aa List.map_append ?_))
      exact jU.snoc _ _
    ·intro wo gb X NI;refine xA NI λzr164 jU=>?_;clear NI;subst zr164
     rw[gO,List.take_length] at jU
     refine⟨_,_,_,rfl,?_⟩
     walk_at "awa"
     refine Bf C'.hh (.inl (.head _)) jU λt8=>?_
     refine aa (show(E2,af gb)::(k8++base)=((E2,af gb)::k8)++base from rfl) ?_
     generalize W3:(E2,af gb)::k8=zH
     have VQ:(E,af jm)∈zH++base:=by refine aa (Eq.symm W3) ?_;exact .tail _ hE
     generalize zw:(S.map wt).sum=w5
     walk_at "awa"
     refine dF ?_
     walk_at "awa"
     refine⟨by show(0:Nat)≤sizeLine;exact Nat.zero_le _,λel=>?_⟩
     refine Fd (by have:=r'.units;exact wj this) (.inl (.tail _ VQ)) (.inl (.head _)) ?_
     walk_at "awa"
     refine aa (show(el,af [])::(zH++base)=((el,af [])::zH)++base from rfl) ?_
     generalize hjk6:(el,af [])::zH=jl
     have HU:=qe sh wt ao n c
     refine xE (show∃o,(c9 sh wt ao n c)[S.length]?=some o from⟨_,List.getElem?_eq_getElem (by exact(ln 0x42008821084010cc4b0884000803).1 r9 HU)⟩) λo ho=>?_
     have zf:(c9 sh wt ao n c).getD S.length none=o:=by refine aa (List.getD_eq_getElem?_getD) (aa ho ?_);rfl
     refine xE (sH.2 S.length o ho) λto I0=>?_
     have HR:(be,af bv)∈base:=by refine aa nu ?_;exact .tail _ (.tail _ (.tail _ (.tail _ (.tail _ (.head _)))))
     have Wa:bv.length=n+1:=by exact aa sH.1 (aa HU rfl)
     have ny:c9 sh wt ao n (c+1)=jN sh wt ao (c9 sh wt ao n c) S:=by refine aa hS ?_;rfl
     have keep:c9 sh wt ao n (c+1)=c9 sh wt ao n c->∃uK CY D7 D8,SubL [(Str.ofString "best", .ref be)] [(Str.ofString "worth",Value.int w5 t8),(Str.ofString "over",Value.ref E),(Str.ofString "best",Value.ref be)]∧gh uK (c9 sh wt ao n (c+1))∧
      (jl++((c5,aE (some (.ref D)))::(D,af ys)::(r2,eB 0 n 1)::(c4,aE (some (.int c tv)))::(be,af bv)::(br++R0))).Perm ((be,af uK)::(c4,aE D7)::(c5,aE D8)::(CY++R0)):=λe=>by
      refine⟨bv,jl++((D,af ys)::(r2,eB 0 n 1)::br),some (.int c tv),some (.ref D),by walk_at "aw_subl",by refine aa e ?_;exact sH,?_⟩
      refine aa (List.append_assoc ..) ?_
      exact(aZ.app (.tail (.tail (.tail (.tail .head)))) jl).perm.trans (((aZ.app (.tail (.tail (.tail .head))) jl).perm.trans ((aZ.app .head jl).perm.cons _)).cons _)
     have JH:∀t9,c9 sh wt ao n (c+1)=(c9 sh wt ao n c).set S.length (some w5)->∃uK CY D7 D8,SubL [(Str.ofString "best", .ref be)] [(Str.ofString "worth",Value.int w5 t8),(Str.ofString "over",Value.ref E),(Str.ofString "best",Value.ref be)]∧gh uK (c9 sh wt ao n (c+1))∧
      ((be,af (bv.set S.length (.int w5 t9)))::(jl++((c5,aE (some (.ref D)))::(D,af ys)::(r2,eB 0 n 1)::(c4,aE (some (.int c tv)))::(br++R0)))).Perm ((be,af uK)::(c4,aE D7)::(c5,aE D8)::(CY++R0)):=λt9 e=>by
      refine⟨bv.set S.length (.int w5 t9),jl++((D,af ys)::(r2,eB 0 n 1)::br),some (.int c tv),some (.ref D),by walk_at "aw_subl",by refine aa e ?_;exact sH.set _ _ _,?_⟩
      refine aa (List.append_assoc ..) ?_
      exact((aZ.app (.tail (.tail (.tail .head))) jl).perm.trans ((aZ.app .head jl).perm.cons _)).cons _
     refine i7 (λfV=>?_) (λfV=>?_)
     ·walk_at "awa"
      refine g6 (c:=c5) rfl (List.mem_append_right _ sj) ?_
      walk_at "awa"
      refine fL (List.mem_append_right _ oV) (by exact J8 hn r9 gO) λt9=>?_
      refine aa gO ?_
      refine cM (List.mem_append_right _ HR) (by exact Int.natCast_nonneg _) (by exact J9 hn r9) (by refine aa (Int.toNat_natCast ..) ?_;exact I0) ?_
      walk_at "awa"
      refine p8 ?_
      walk_at "awa"
      cases o with
      |none=>
       change if true=true then _ else _
       walk_at "awa"
       refine g6 (c:=c5) rfl (List.mem_append_right _ sj) ?_
       walk_at "awa"
       refine fL (List.mem_append_right _ oV) (by lia) λt11=>?_
       refine aa gO (aa nu ?_)
       refine bu (aZ.app (.tail (.tail (.tail (.tail (.tail .head))))) jl) ?_
       refine lK (by exact pF) (by lia) (by exact Zt r9 Wa) ?_
       refine aa (Int.toNat_natCast ..) ?_
       walk_at "awa"
       refine fU (.tail (aZ.app (.tail (.tail (.tail (.tail .head)))) jl)) (hJ (JH _ ?_))
       refine aa ny ?_
       unfold jN
       exact aa (if_pos ⟨by rw[Cf,fV], .inl zf⟩) (aa zw rfl)
      |some x=>
       change if false=true then _ else _
       walk_at "awa"
       refine g6 (c:=c5) rfl (List.mem_append_right _ sj) ?_
       walk_at "awa"
       refine fL (List.mem_append_right _ oV) (by lia) λt10=>?_
       refine aa gO ?_
       refine cM (List.mem_append_right _ HR) (by lia) (by lia) (by refine aa (Int.toNat_natCast ..) ?_;exact I0) ?_
       walk_at "awa"
       refine k6 (λaC=>?_) (λo4=>?_)
       ·walk_at "awa"
        refine g6 (c:=c5) rfl (List.mem_append_right _ sj) ?_
        walk_at "awa"
        refine fL (List.mem_append_right _ oV) (by lia) λt11=>?_
        refine aa gO (aa nu ?_)
        refine bu (aZ.app (.tail (.tail (.tail (.tail (.tail .head))))) jl) ?_
        refine lK (by lia) (by lia) (by lia) ?_
        refine aa (Int.toNat_natCast ..) ?_
        walk_at "awa"
        refine fU (.tail (aZ.app (.tail (.tail (.tail (.tail .head)))) jl)) (hJ (JH _ ?_))
        refine aa ny ?_
        unfold jN
        exact aa (if_pos ⟨by rw[Cf,fV], .inr ⟨x,zf,by rw[zw];exact aC⟩⟩) (aa zw rfl)
       ·walk_at "awa"
        refine aa nu ?_
        refine fU (aZ.app (.tail (.tail (.tail (.tail .head)))) jl) (hJ (keep ?_))
        refine aa ny ?_
        unfold jN
        rw[if_neg]
        rintro ⟨_,z|⟨x',z,zz⟩⟩
        ·rw[zf] at z;cases z
        ·rw[zf] at z;cases z;rw[zw] at zz;exact o4 zz
     ·walk_at "awa"
      refine aa nu ?_
      refine fU (aZ.app (.tail (.tail (.tail (.tail .head)))) jl) (hJ (keep ?_))
      refine aa ny ?_
      unfold jN
      exact aa (if_neg (by rw[Cf,fV];simp)) rfl
 ·intro m1 H1 NJ;refine i9 NJ λbv br x4 x5 hm sH hp=>?_;clear NJ
  refine bO hm ?_
  refine dQ hp ?_
  walk_at "awa"
  have:=h be bv ((c4,aE x4)::(c5,aE x5)::(br++J0)) sH
  refine aa (Eq.symm hR) ?_
  simpa [List.append_assoc] using this
 ·refine⟨by simp[c9],λi o hi=>⟨0,?_⟩⟩
  rw[show c9 sh wt ao n 0=List.replicate (n+1) none from rfl,List.getElem?_replicate] at hi
  refine aa (List.getElem?_replicate) ?_
  by_cases q:i<n+1
  ·rw[if_pos q] at hi ⊢
   cases hi;rfl
  ·rw[if_neg q] at hi;cases hi
end
end
section
noncomputable def gg (C dx:Addr)(sl:List (Option Value)):Obj->Prop:=λo=>o=⟨.ref C,some dx, .plain,sl.toArray⟩
noncomputable def ent (e:DictEntry):Option (Str×Value):=match e.key with| .str s _=>some (s,e.val)|_=>none
noncomputable def ez (kvs:Loc):Obj->Prop:=λo=>∃es n,o=dictOf es n∧es.map ent=kvs.map some∧es.length≤1000
noncomputable def z9 (name:Str)(v:Value):Loc->Loc
 |[]=>[(name,v)]
 |(y,u)::r=>if y=name then(y,v)::r else(y,u)::z9 name v r
theorem G5 (h:ent e=some (s,v)):∃t,e.key= .str s t∧e.val=v:=by
 unfold ent at h
 split at h
 ·rename_i s' t hk
  refine xA (Prod.mk.inj (Option.some.inj h)) λzr40 zr41=>?_;subst zr40;subst zr41
  exact⟨t,hk,rfl⟩
 ·cases h
theorem JA (s name:Str)(t:Tok):(Value.str s t).isStr name=decide (s=name):=by
 show(s==name)=_
 by_cases h:s=name
 ·subst h;rfl
 ·rfl
theorem yC (name:Str):∀(es:List DictEntry) (kvs:Loc),es.map ent=kvs.map some->getL name es=some (lk kvs name)
 |[],[],_=>rfl
 |[],_::_,h=>nomatch h
 |_::_,[],h=>nomatch h
 |e::es,(y,u)::kvs,h=>by
  rw[List.map_cons,List.map_cons] at h
  refine xA (List.cons.inj h) λh1 h2=>?_
  refine ah (G5 h1) λt hk zr42=>?_;subst zr42
  have ih:=yC name es kvs h2
  unfold getL at ih ⊢
  unfold lk
  refine aa (List.find?_cons ..) (aa (hk ..) (aa (JA ..) ?_))
  by_cases hy:y=name
  ·subst hy;simp
  ·refine aa (decide_eq_false hy) (aa (if_neg (Ne.symm hy)) ?_)
   have hr:e.refKey=false:=by unfold DictEntry.refKey;exact aa hk rfl
   dsimp only
   refine aa (List.any_cons ..) (aa (hr ..) (aa (Bool.false_or ..) ?_))
   exact ih
theorem Lv (name:Str)(aA:Int)(t:Tok)(v:Value):∀(es:List DictEntry) (kvs:Loc),es.map ent=kvs.map some->
 (putL name aA (.str name t) v es).map ent=(z9 name v kvs).map some∧(putL name aA (.str name t) v es).length≤es.length+1
 |[],[],_=>⟨rfl,Nat.le_refl _⟩
 |[],_::_,h=>nomatch h
 |_::_,[],h=>nomatch h
 |e::es,(y,u)::kvs,h=>by
  rw[List.map_cons,List.map_cons] at h
  refine xA (List.cons.inj h) λh1 h2=>?_
  refine ah (G5 h1) λtk hk zr43=>?_;subst zr43
  refine xA (Lv name aA t v es kvs h2) λi1 i2=>?_
  unfold putL z9
  refine aa (hk ..) (aa (JA ..) ?_)
  by_cases hy:y=name
  ·subst hy
   refine aa (decide_eq_true rfl) (aa (if_pos rfl) (aa (if_pos rfl) ?_))
   refine⟨?_,Nat.le_succ _⟩
   refine aa List.map_cons (aa List.map_cons (aa h2 ?_));rfl
  ·refine aa (decide_eq_false hy) (aa (if_neg (by decide)) (aa (if_neg hy) ?_))
   refine⟨?_,Nat.succ_le_succ i2⟩
   refine aa List.map_cons (aa List.map_cons (aa i1 ?_))
   unfold ent;exact aa hk rfl
theorem gg.inst (e:h.get? x=some o)(p:gg C dx sl o)(ed:h.get? dx=some od):InstAt h x o C (some od):=by
 obtain rfl:o=_:=p
 exact⟨e,rfl,rfl,ed⟩
structure oh (K:Frag)(C:Addr):Prop where
 ga:findIn K (.ref C) "__getattribute__"=some (some (.builtin "object.__getattribute__"))
 gk:findIn K (.ref C) "__getattr__"=some none
 sa:findIn K (.ref C) "__setattr__"=some (some (.builtin "object.__setattr__"))
 po:plainOver K C=true
 ZW:makesIn K C=true
 kp:keepIn K (.ref C)=true
structure rL (K:Frag)(C:Addr)(name:Str):Prop where
 hd:hasDictIn K C=true
 fn:findIn K (.ref C) name=some none
structure j6 (K:Frag)(C:Addr)(name:Str)(f:Addr):Prop where
 fn:findIn K (.ref C) name=some (some (.ref f))
 is:isFn K (.ref f)=true
structure ur (K:Frag)(C:Addr)(name:Str)(i:Nat):Prop where
 ex:∃p,findIn K (.ref C) name=some (some (.ref p))∧specialIn K (.ref p) "__get__"=some (some (.builtin "member_descriptor.__get__"))∧takesIn K (.ref p)=some true∧
  slotIn K p C=some i∧typeIn K (.ref p)=some (.type "member_descriptor")∧takerIn K C name=some (some (.ref p))∧(clsIn K C).isSome=true
section
variable {G:Gx}{A:Around}{h₀:Heap}{L x dx C:Addr}{m:Loc}{H:Led}{env gf:Env}{kvs:Loc}{name:Str}{v:Value}{sl:List (Option Value)}
theorem St.DZ (S:St h₀ L h m ((a,P)::H))(F:Fr h₀ L h' mf)(g:∀x v,lk m x=some v->mf x=some v)(N:News h₀ L h' ((a,o)::raw h H))(hp:P' o):
 St h₀ L h' m ((a,P')::H):=by
 refine⟨⟨mf,F,g⟩,λq hq=>?_,S.nd⟩
 rcases List.mem_cons.mp hq with rfl|hq
 ·refine cP (N _ (.head _)) λn1 n2 n3=>?_;exact⟨o,n1,hp,n2,n3⟩
 ·refine cQ (S.nw q (.tail _ hq)) λo' e' p' _=>?_
  refine cP (N (q.1,(h.get? q.1).getD default) (.tail _ (List.mem_map.mpr ⟨q,hq,rfl⟩))) λn1 n2 n3=>?_
  exact⟨o',by refine aa n1 (aa e' ?_);rfl,p',n2,n3⟩
theorem St.wH (S:St h₀ L h m ((a,P)::H)):∀p∈raw h H,p.1≠a:=λp hp=>by
 refine ah (List.mem_map.mp hp) λq hq zr44=>?_;subst zr44
 have nd:=S.nd
 rw[List.map_cons,List.nodup_cons] at nd
 exact λe=>nd.1 (List.mem_map.mpr ⟨q,hq,e⟩)
theorem p7 (C':Cx G A h₀ L gf)(c:oh G.K C)(a:rL G.K C name)(hx:(x,gg C dx sl)∈H)(hd:(dx,ez kvs)∈H)(hl:lk kvs name=some v)(hv:handedIn v=true)
 (h:Q v m H):AW (model G.prog G.w) A h₀ L (getAttr (.ref x) name expr) Q m H:=λs R E S k=>by
 refine ah (S.get hx) λo e p=>?_
 refine D9 (S.get hd) λod ed es n zr45 qp _=>?_;subst zr45
 exact get_value (C'.X.keeps S.keep) (p.inst e ed) c.ga (findObj_own a.hd a.fn rfl (by exact aa (lookIn_dict ..) (aa (yC name es kvs qp ..) (aa (hl ..) rfl)))) hv (k _ m H _ _ S h)
theorem qb (C':Cx G A h₀ L gf)(c:oh G.K C)(a:rL G.K C name)(hx:(x,gg C dx sl)∈H)(hz:kvs.length≤900)
 (h:Q () m ((dx,ez (z9 name v kvs))::H)):AW (model G.prog G.w) A h₀ L (setAttr (.ref x) name v) Q m ((dx,ez kvs)::H):=λs R E S k=>by
 refine ah (S.get (.tail _ hx)) λo e p=>?_
 refine D9 (S.get (.head _)) λod ed es n zr46 qp _=>?_;subst zr46
 refine ah S.fr λmf F gm=>?_
 have WD:es.length=kvs.length:=by have:=congrArg List.length qp;simpa using this
 refine xA (Lv name (PyData.keyHash G.w.params name) (s.toks+1) v es kvs qp) λP1 P2=>?_
 have N:=S.news
 unfold raw at N
 rw[List.map_cons] at N
 dsimp only at N
 rw[ed] at N
 have Wq:o.dict=some dx:=by obtain rfl:o=_:=p;rfl
 refine set_dict (news':=(dx,dictOf (putL name (PyData.keyHash G.w.params name) (.str name (s.toks+1)) v es) (putN name es n))::raw s.heap H) F C'.X N (p.inst e ed) Wq c.sa c.po (by unfold takerIn;refine aa a.fn ?_;rfl) a.hd (by refine aa (yC name es kvs qp) ?_;rfl) rfl (.head S.wH) (by exact(ln 0x802108821087e817e60006625800110b8417e6100c03).1 hz WD P2) λh' F' N'=>?_
 exact k _ m _ _ _ (S.DZ F' gm N' ⟨_,_,rfl,P1,by lia⟩) h
theorem R6 (C':Cx G A h₀ L gf)(c:oh G.K C)(a:j6 G.K C name f)(hx:(x,gg C dx sl)∈H)(hd:(dx,ez kvs)∈H)(hl:lk kvs name=none)
 (h:Q (.ref f,[.ref x]) m H):AW (model G.prog G.w) A h₀ L (getMethod (.ref x) name pl) Q m H:=λs R E S k=>by
 refine ah (S.get hx) λo e p=>?_
 refine D9 (S.get hd) λod ed es n zr47 qp _=>?_;subst zr47
 exact method_fn (C'.X.keeps S.keep) (p.inst e ed) c.ga c.gk a.fn (beq_iff_eq.mp a.is) (by show(lookIn name (dictOf es n)).map _=_;refine aa (lookIn_dict ..) (aa (yC name es kvs qp ..) (aa (hl ..) ?_));rfl) (k _ m H _ _ S h)
theorem aw_slot_get (C':Cx G A h₀ L gf)(c:oh G.K C)(a:ur G.K C name i)(hx:(x,gg C dx sl)∈H)(hd:(dx,ez kvs)∈H)(hl:(sl[i]?).join=some v)(hv:handedIn v=true)
 (h:Q v m H):AW (model G.prog G.w) A h₀ L (getAttr (.ref x) name expr) Q m H:=λs R E S k=>by
 refine ah (S.get hx) λo e p=>?_
 refine ah (S.get hd) λod ed _=>?_
 refine pS a.ex λq a1 a2 a3 a4 a5 a6 a7=>?_
 refine get_bind (C'.X.keeps S.keep) (p.inst e ed) c.ga (findObj_data a7 a1 a2 a3) c.gk (wpAny_call (slot_get (s:={s with toks:=s.toks+1}) (C'.X.keeps S.keep) (p.inst e ed) a4 (v:=v) ?_ (handed_on hv (k _ m H _ _ S h))))
 obtain rfl:o=_:=p
 simpa using hl
theorem yf (C':Cx G A h₀ L gf)(c:oh G.K C)(a:ur G.K C name i)(hd:(dx,ez kvs)∈H)(hi:i<1000)
 (aP:((sl.toArray++Array.replicate (i+1-sl.toArray.size) none).setIfInBounds i (some v))=nY.toArray)
 (h:Q () m ((x,gg C dx nY)::H)):AW (model G.prog G.w) A h₀ L (setAttr (.ref x) name v) Q m ((x,gg C dx sl)::H):=λs R E S k=>by
 refine ah (S.get (.head _)) λo e p=>?_
 refine ah (S.get (.tail _ hd)) λod ed _=>?_
 refine pS a.ex λq a1 a2 a3 a4 a5 a6 a7=>?_
 refine ah S.fr λmf F gm=>?_
 have I:=p.inst e ed
 obtain rfl:o=_:=p
 have X:=C'.X.keeps S.keep
 have N:=S.news
 unfold raw at N
 rw[List.map_cons] at N
 dsimp only at N
 rw[e] at N
 refine set_plain X I c.sa (osa_descr (s:={s with toks:=s.toks+1}) KF.slot_mset X I c.po a6 a5 ?_)
 refine slot_set (s:={s with toks:=s.toks+1}) (pre:=[]) (post:=raw s.heap H) (ox':=⟨.ref C,some dx, .plain,nY.toArray⟩) F N X I a4 hi (λ_ h=>nomatch h) S.wH (by refine aa (Eq.symm aP) ?_;rfl) rfl λh' F' N'=>?_
 exact k _ m _ _ _ (S.DZ (P':=gg C dx nY) F' gm N' rfl) h
end
end
section
section
variable {prog:Program}{w:World}{A:Around}{h₀:Heap}{L:Addr}{m:Loc}{H:Led}{env:Env}
theorem AY
 (h:AW (model prog w) A h₀ L (eval value env) (bK (model prog w) A h₀ L (VD attr) Q) m H)
 (he:eval (.Attribute value attr pos) env=(do
  let o<-eval value env
  standAt pos.atName
  let r<-holding [o] (getAttr o attr true)
  letTemporaryGo value o r
  pure r):=by with_unfolding_all rfl):AW (model prog w) A h₀ L (eval (.Attribute value attr pos) env) Q m H:=λs R E S k=>
 Attribute_any_ (h s _ E S λv1 m1 H1 h1 aX S1 q1=>q1 _ _ E S1 λv2 m2 H2 h2 bC S2 q2=>k _ m2 H2 h2 bC S2 q2) he
theorem SO
 (h:AW (model prog w) A h₀ L (eval value env) (mY (model prog w) A h₀ L (eval o env) (saF attr) (cK (model prog w) A h₀ L (execs rest env) Q)) m H)
 (hs:swapsWith value (some (.Attribute o attr pos')) pos.line env=pure false:=by with_unfolding_all rfl):
 AW (model prog w) A h₀ L (execs (.Assign [.Attribute o attr pos'] value pos::rest) env) Q m H:=jM λs R E S k=>
 plainObj_wpAny_Assign_Attribute (h s _ E S λv1 m1 H1 h1 aX S1 q1=>q1 _ _ E S1 λv2 m2 H2 h2 bC S2 q2=>q2 _ _ E S2 λ_ m3 H3 h3 aR S3 q3=>k _ m3 H3 h3 aR S3 (gR q3)) hs
theorem SH
 (h:AW (model prog w) A h₀ L (eval o env) (λov m H=>AW (model prog w) A h₀ L (getAttr ov attr true) (λold m H=>AW (model prog w) A h₀ L (eval value env) (λv m H=>
  AW (model prog w) A h₀ L (inplaceOp op old v) (λnew m H=>AW (model prog w) A h₀ L (setAttr ov attr new) (λ_ m H=>AW (model prog w) A h₀ L (execs rest env) Q m H) m H) m H) m H) m H) m H):
 AW (model prog w) A h₀ L (execs (.AugAssign (.Attribute o attr tS) op value pos::rest) env) Q m H:=jM λs R E S k=>
 wpAny_AugAssign_AttributeAny (h s _ E S λv1 m1 H1 h1 aX S1 q1=>q1 _ _ E S1 λv2 m2 H2 h2 bC S2 q2=>q2 _ _ E S2 λv3 m3 H3 h3 aR S3 q3=>q3 _ _ E S3 λv4 m4 H4 h4 iw S4 q4=>
  q4 _ _ E S4 λ_ m5 H5 h5 gT S5 q5=>k _ m5 H5 h5 gT S5 (gR q5))
theorem SP
 (h:AW (model prog w) A h₀ L (eval value env) (λv m H=>AW (model prog w) A h₀ L (assign Aj env v) (λ_ m H=>AW (model prog w) A h₀ L (assign tT env v) (λ_ m H=>AW (model prog w) A h₀ L (execs rest env) Q m H) m H) m H) m H)
 (he:(assignEach [Aj,tT] env).map (·.2)=[assign Aj env,assign tT env]:=by with_unfolding_all rfl)
 (hw:swappedStores [Aj,tT] value env=pure none:=by with_unfolding_all rfl):
 AW (model prog w) A h₀ L (execs (.Assign [Aj,tT] value pos::rest) env) Q m H:=jM λs R E S k=>
 wpAny_Assign_two (h s _ E S λv1 m1 H1 h1 aX S1 q1=>q1 _ _ E S1 λ_ m2 H2 h2 bC S2 q2=>q2 _ _ E S2 λ_ m3 H3 h3 aR S3 q3=>k _ m3 H3 h3 aR S3 (gR q3)) he hw
theorem QE
 (h:AW (model prog w) A h₀ L (eval o env) (mY (model prog w) A h₀ L (eval i env) (DN v) Q) m H):
 AW (model prog w) A h₀ L (assign (.Subscript o i pos) env v) Q m H:=λs R E S k=>by
 refine aa (arm_assign_Subscript ..) ?_
 refine wpAny_bind (wpAny_holding (h s _ E S λv1 m1 H1 h1 aX S1 q1=>wpAny_bind (wpAny_holding (q1 _ _ E S1 λv2 m2 H2 h2 bC S2 q2=>wpAny_bind (wpAny_standAt (wpAny_bind (wpAny_holding (q2 _ _ E S2 λ_ m3 H3 h3 aR S3 q3=>wpAny_release (k _ m3 H3 h3 aR S3 q3)))))))))
theorem FE
 (h:AW (model prog w) A h₀ L (eval value env) (Z8 (model prog w) A h₀ L env x Q) m H):AW (model prog w) A h₀ L (eval (.NamedExpr (.Name x pos') value pos) env) Q m H:=λs R E S k=>
 wpAny_NamedExpr (h s _ E S λv1 m1 H1 h1 aX S1 q1=>wpAny_assign_Name (q1 _ _ E S1 λ_ m2 H2 h2 bC S2 q2=>k _ m2 H2 h2 bC S2 q2))
end
structure AK (K:Frag)(f:Addr)(name qual:Str)(params:Arguments)(body:List Stmt)(scope:Scope)(bg:Value)(vs:List Value)(binds:List (Str×Value)):Prop where
 at':∃oc od jX dV kV doc pm an ct,K.lookup f=some ⟨oc,od, .func (fnOf name qual params body scope dV kV doc pm an bg ct),jX⟩∧
  ∀S,peek K S (bindArgs (fnOf name qual params body scope dV kV doc pm an bg ct) ⟨vs,[]⟩)=some binds
 code:codeIn K bg qual=true
section
variable {G:Gx}{A:Around}{h₀:Heap}{L:Addr}{m:Loc}{H:Led}{env:Env}
noncomputable def xH (M:Model)(A:Around)(h₀:Heap)(L:Addr)(c:Code)(Q:Value->Loc->Led->Prop)(m:Loc)(H:Led):Prop:=
 ∀(s:Shared) (R:Result->Shared->Prop),St h₀ L s.heap m H->(∀v m' H' h' aB,St h₀ L h' m' H'->Q v m' H'->R (.ok (.ret v)) {s with heap:=h',toks:=aB})->codeAny M A c R s
theorem aw_of_code (h:xH (model G.prog G.w) A h₀ L (.call f ⟨vs,kw⟩) Q m H):AW (model G.prog G.w) A h₀ L (call f vs kw) Q m H:=λs R E S k=>
 wpAny_call (h s _ S λv m' H' h' aB S' q=>k v m' H' h' aB S' q)
theorem Ql
 (C:Cx G A h₀ L env)(r:bw A (n+1))(D:lE G.K f name qual params body scope bg)
 (nv:∀kV doc pm an ct,bindArgs (fnOf name qual params body scope .none kV doc pm an bg ct) ⟨vs,kw⟩=pure binds)(nC:(binds.all λx=>decide (scope.names.lookup x.1=some .local))=true)
 (h:∀A' g L',Cx G A' g L' (envX qual scope L' f bg [])->bw A' n->AW (model G.prog G.w) A' g L' (execs body (envX qual scope L' f bg []))
  (uT Q m) binds.reverse H)
 (kT:scope.isCoroutine=false:=by with_unfolding_all rfl)(kW:scope.isGenerator=false:=by with_unfolding_all rfl)(hk:scope.kind= .function:=by with_unfolding_all rfl)(nA:∀x∈scope.names,x.2≠ .cell:=by decide):
 xH (model G.prog G.w) A h₀ L (.call (.ref f) ⟨vs,kw⟩) Q m H:=λs R S k=>by
 refine cE C.below λA₀ base outer B hA=>?_
 refine ah S.fr λmf F gm=>?_
 refine wZ D.at' λoc od jX kV doc pm an ct ho=>?_
 refine code_def (K:=G.K) (mean:=G.mean) B F C.X S.news C.T hA C.fr C.kd ho D.code r.depth (.of_eq (nv _ _ _ _ _)) (locs nC) (λg L' h₁ FG F' N' B' X' T'=>?_) kT kW hk nA
 refine h (A.deeper (envX qual scope L' f bg [])) g L' ⟨⟨A,base,env::outer,B',?_⟩,rfl,hk,C.hh,X',T'⟩ r.down _ _ _ (S.ofRaw F' (λx v e=>by refine aa (Eq.symm (tB ..)) ?_;exact e) N') λfl m' H' h' aB S' q=>?_
 ·show A.frames.map _=_
  refine aa hA ?_;rfl
 ·refine ah S'.fr λmf' mF _=>?_
  exact leaveK_ mF S'.news λxP mH=>k _ m H' h' aB (S'.ofRaw xP gm mH) q
theorem Qm
 (C:Cx G A h₀ L env)(r:bw A (n+1))(D:AK G.K f name qual params body scope bg vs binds)(nC:(binds.all λx=>decide (scope.names.lookup x.1=some .local))=true)
 (h:∀A' g L',Cx G A' g L' (envX qual scope L' f bg [])->bw A' n->AW (model G.prog G.w) A' g L' (execs body (envX qual scope L' f bg []))
  (uT Q m) binds.reverse H)
 (kT:scope.isCoroutine=false:=by with_unfolding_all rfl)(kW:scope.isGenerator=false:=by with_unfolding_all rfl)(hk:scope.kind= .function:=by with_unfolding_all rfl)(nA:∀x∈scope.names,x.2≠ .cell:=by decide):
 xH (model G.prog G.w) A h₀ L (.call (.ref f) ⟨vs,[]⟩) Q m H:=λs R S k=>by
 refine cE C.below λA₀ base outer B hA=>?_
 refine ah S.fr λmf F gm=>?_
 refine xEEEEEEEEEA D.at' λoc od jX dV kV doc pm an ct ho hb=>?_
 refine code_def (K:=G.K) (mean:=G.mean) B F C.X S.news C.T hA C.fr C.kd ho D.code r.depth (kp_binds (C.X.keeps S.keep) hb) (locs nC) (λg L' h₁ FG F' N' B' X' T'=>?_) kT kW hk nA
 refine h (A.deeper (envX qual scope L' f bg [])) g L' ⟨⟨A,base,env::outer,B',?_⟩,rfl,hk,C.hh,X',T'⟩ r.down _ _ _ (S.ofRaw F' (λx v e=>by refine aa (Eq.symm (tB ..)) ?_;exact e) N') λfl m' H' h' aB S' q=>?_
 ·show A.frames.map _=_
  refine aa hA ?_;rfl
 ·refine ah S'.fr λmf' mF _=>?_
  exact leaveK_ mF S'.news λxP mH=>k _ m H' h' aB (S'.ofRaw xP gm mH) q
theorem E3 {binds:Addr->List (Str×Value)}{Q:Value->Loc->Led->Prop}
 (C:Cx G A h₀ L env)(r:bw A (n+1))(D:lE G.K f name qual params body scope bg)
 (hv:vs.drop (params.posonlyargs.length+params.args.length)=rs)
 (nv:∀kV doc pm an ct,peek1 G.K ⟨G.prog,G.w.params⟩ (bindArgs (fnOf name qual params body scope .none kV doc pm an bg ct) ⟨vs,[]⟩)=some (({cls:= .type "tuple",data:= .seq rs.toArray}:Obj),λD=>some (binds D)))
 (nC:∀D,((binds D).all λx=>decide (scope.names.lookup x.1=some .local))=true)
 (h:∀D A' g L',Cx G A' g L' (envX qual scope L' f bg [])->bw A' n->AW (model G.prog G.w) A' g L' (execs body (envX qual scope L' f bg []))
  (uT Q m) (binds D).reverse ((D,bf rs)::H))
 (kT:scope.isCoroutine=false:=by with_unfolding_all rfl)(kW:scope.isGenerator=false:=by with_unfolding_all rfl)(hk:scope.kind= .function:=by with_unfolding_all rfl)(nA:∀x∈scope.names,x.2≠ .cell:=by decide):
 AW (model G.prog G.w) A h₀ L (call (.ref f) vs []) Q m H:=λs R E S k=>by
 refine cE C.below λA₀ base outer B hA=>?_
 refine ah S.fr λmf F gm=>?_
 refine wZ D.at' λoc od jX kV doc pm an ct ho=>?_
 refine wpAny_call (kp_rest (K:=G.K) (mean:=G.mean) B F C.X S.news C.T hA C.fr C.kd ho D.code r.depth hv (nv _ _ _ _ _) (λ_=>rfl) (λD=>locs (nC D)) (λD g L' h₁ lt FG F' N' B' X' T'=>?_) kT kW hk nA)
 have S1:St g L' h₁ (binds D).reverse ((D,bf rs)::H):=by
  refine⟨⟨_,F',λx v e=>by refine aa (Eq.symm (tB ..)) ?_;exact e⟩,λq hq=>?_,?_⟩
  ·rcases List.mem_cons.mp hq with rfl|hq
   ·refine cP (N' _ (.head _)) λn1 n2 n3=>?_;exact⟨_,n1,⟨_,rfl⟩,n2,n3⟩
   ·refine cQ (S.nw q hq) λo' e' p' _=>?_
    refine cP (N' (q.1,(s.heap.get? q.1).getD default) (.tail _ (List.mem_map.mpr ⟨q,hq,rfl⟩))) λn1 n2 n3=>?_
    exact⟨o',by refine aa n1 (aa e' ?_);rfl,p',n2,n3⟩
  ·rw[List.map_cons,List.nodup_cons]
   refine⟨λhm=>?_,S.nd⟩
   refine ah (List.mem_map.mp hm) λq hq e=>?_
   have:=lt _ (List.mem_map.mpr ⟨q,hq,rfl⟩)
   dsimp only at this
   dsimp only at e
   rw[e] at this
   exact Nat.lt_irrefl _ this
 refine h D (A.deeper (envX qual scope L' f bg [])) g L' ⟨⟨A,base,env::outer,B',?_⟩,rfl,hk,C.hh,X',T'⟩ r.down _ _ _ S1 λfl m' H' h' aB S' q=>?_
 ·show A.frames.map _=_
  refine aa hA ?_;rfl
 ·refine ah S'.fr λmf' mF _=>?_
  exact leaveK_ mF S'.news λxP mH=>k _ m H' h' aB (S'.ofRaw xP gm mH) q
theorem tc_w (C:Addr)(vs:List Value)(kw:List (Str×Value)):(Code.builtin "type.__call__" ⟨.ref C::vs,kw⟩).weight=1:=by kernel_rfl
theorem tc_u (C:Addr)(vs:List Value)(kw:List (Str×Value)):(Code.builtin "type.__call__" ⟨.ref C::vs,kw⟩).cUnits=1:=by kernel_rfl
theorem E1 (C':Cx G A h₀ L env)(c:oh G.K C)(i:j6 G.K C "__init__" f)
 (h:∀A' x dx,Cx G A' h₀ L env->(∀n,bw A (n+1)->bw A' n)->xH (model G.prog G.w) A' h₀ L (.call (.ref f) ⟨.ref x::vs,kw⟩) (λv m H=>v= .none∧Q (.ref x) m H) m ((x,gg C dx [])::(dx,ez [])::H)):
 AW (model G.prog G.w) A h₀ L (call (.ref C) vs kw) Q m H:=λs R E S k=>by
 refine ah S.fr λmf F gm=>?_
 refine call_cls F C'.X S.news c.ZW i.fn i.is λx dx h' F' N' lt lt'=>?_
 have S1:St h₀ L h' m ((x,gg C dx [])::(dx,ez [])::H):=by
  refine⟨⟨_,F',gm⟩,λq hq=>?_,?_⟩
  ·rcases List.mem_cons.mp hq with rfl|hq
   ·refine cP (N' _ (.head _)) λn1 n2 n3=>?_;exact⟨_,n1,rfl,n2,n3⟩
   rcases List.mem_cons.mp hq with rfl|hq
   ·refine cP (N' _ (.tail _ (.head _))) λn1 n2 n3=>?_;exact⟨_,n1,⟨[],0,rfl,rfl,by decide⟩,n2,n3⟩
   ·refine cQ (S.nw q hq) λo' e' p' _=>?_
    refine cP (N' (q.1,(s.heap.get? q.1).getD default) (.tail _ (.tail _ (List.mem_map.mpr ⟨q,hq,rfl⟩)))) λn1 n2 n3=>?_
    exact⟨o',by refine aa n1 (aa e' ?_);rfl,p',n2,n3⟩
  ·have ll:∀q∈H,q.1<dx:=λq hq=>lt (q.1,(s.heap.get? q.1).getD default) (List.mem_map.mpr ⟨q,hq,rfl⟩)
   rw[List.map_cons,List.nodup_cons,List.map_cons,List.nodup_cons]
   refine⟨λhm=>?_,λhm=>?_,S.nd⟩
   ·rcases List.mem_cons.mp hm with e|hm
    ·exact absurd e (Nat.ne_of_gt lt')
    ·refine ah (List.mem_map.mp hm) λq hq e=>?_
     have:=ll q hq
     rw[e] at this
     exact absurd this (Nat.not_lt.mpr (Nat.le_of_lt lt'))
   ·refine ah (List.mem_map.mp hm) λq hq e=>?_
    have:=ll q hq
    rw[e] at this
    exact Nat.lt_irrefl _ this
 refine cE C'.below λA₀ base outer B hA=>?_
 refine h (A.under (.builtin "type.__call__" ⟨.ref C::vs,kw⟩)) x dx ⟨⟨A₀,base,outer,B,hA⟩,C'.fr,C'.kd,C'.hh,C'.X,C'.T⟩ (λn r=>?_) {s with heap:=h'} _ S1 λv m' H' eT aB S' q=>?_
 ·unfold bw at*
  have r1:=r.1
  have r2:=r.2
  show A.depth+(Code.builtin "type.__call__" ⟨.ref C::vs,kw⟩).weight+2*n+20<recursionLimit∧A.units+(Code.builtin "type.__call__" ⟨.ref C::vs,kw⟩).cUnits+16*n+400<cLine
  refine aa (tc_w ..) (aa (tc_u ..) ?_)
  exact(ln 0x100440084410919017e61834331ad6b08a93089a19816b584e46405f986615c1a35ac22a4c330ac4d02d6138405).1 r
 ·exact⟨q.1,k _ m' H' eT aB S' q.2⟩
end
end
section
structure ju where
 (ni ts K6 L6 yD add prepare ready AV done BA:Addr)
noncomputable def kM (K:Frag)(ci mi:Nat)(qual:Str)(f:Addr):Prop:=∃bg,lE K f (cJ ci mi).name qual (cJ ci mi).params (cJ ci mi).body (cJ ci mi).scope bg
structure oA (K:Frag)(d:ju):Prop where
 Gk:nsIn K mainGlobals (Str.ofString "_NodeInfo")=some (some (.ref d.ni))
 Gu:nsIn K mainGlobals (Str.ofString "TopologicalSorter")=some (some (.ref d.ts))
 Bl:∃t,nsIn K mainGlobals (Str.ofString "_NODE_OUT")=some (some (.int (-1) t))
 Gg:∃t,nsIn K mainGlobals (Str.ofString "_NODE_DONE")=some (some (.int (-2) t))
 gH:oh K d.ni
 g7:oh K d.ts
 K5:j6 K d.ni "__init__" d.K6
 K4:kM K 12 1 (Str.ofString "_NodeInfo.__init__") d.K6
 s0:ur K d.ni (Str.ofString "node") 0
 s1:ur K d.ni (Str.ofString "npredecessors") 1
 s2:ur K d.ni (Str.ofString "successors") 2
 L5:j6 K d.ts "__init__" d.L6
 L3:∃bg,∀x,AK K d.L6 (cJ 14 0).name (Str.ofString "TopologicalSorter.__init__") (cJ 14 0).params (cJ 14 0).body (cJ 14 0).scope bg [.ref x] [(Str.ofString "self", .ref x),(Str.ofString "graph", .none)]
 o0:rL K d.ts (Str.ofString "_node2info")
 o1:rL K d.ts (Str.ofString "_ready_nodes")
 o2:rL K d.ts (Str.ofString "_npassedout")
 o3:rL K d.ts (Str.ofString "_nfinished")
 m1:j6 K d.ts (Str.ofString "_get_nodeinfo") d.yD
 d1:kM K 14 1 (Str.ofString "TopologicalSorter._get_nodeinfo") d.yD
 m2:j6 K d.ts (Str.ofString "add") d.add
 d2:kM K 14 2 (Str.ofString "TopologicalSorter.add") d.add
 m3:j6 K d.ts (Str.ofString "prepare") d.prepare
 d3:kM K 14 3 (Str.ofString "TopologicalSorter.prepare") d.prepare
 m4:j6 K d.ts (Str.ofString "get_ready") d.ready
 d4:kM K 14 4 (Str.ofString "TopologicalSorter.get_ready") d.ready
 m5:j6 K d.ts (Str.ofString "is_active") d.AV
 d5:kM K 14 5 (Str.ofString "TopologicalSorter.is_active") d.AV
 m7:j6 K d.ts (Str.ofString "done") d.done
 d7:kM K 14 7 (Str.ofString "TopologicalSorter.done") d.done
 m8:j6 K d.ts (Str.ofString "_find_cycle") d.BA
 d8:kM K 14 8 (Str.ofString "TopologicalSorter._find_cycle") d.BA
end
local macro_rules
 | `(tactic|walk_at "aw_inm")=>
 `(tactic|((
  (conv in(cJ _ _).body=>whnf)
  (conv in(occs:= *) (cJ _ _).scope=>all_goals whnf))))
local macro_rules
 | `(tactic|walk_at "aw_at")=>do
  let z:=ids "SO AY SH"
  `(tactic|with_reducible first $[|refine $z ?_]*)
local macro_rules
 | `(tactic|walk_at "awo")=>
 `(tactic|((walk_at "awa";repeat (walk_at "aw_at";walk_at "awa"))))
section
noncomputable def iK (C dx:Addr)(nm:Str)(np:Int)(la:Addr):Obj->Prop:=λo=>∃t u,gg C dx [some (.str nm t),some (.int np u),some (.ref la)] o
section
variable {G:Gx}{A:Around}{h₀:Heap}{L x dx la:Addr}{m:Loc}{H H':Led}{env:Env}{aW:eu}{sd:ju}{nm:Str}{np:Int}{t u:Tok}
theorem Sl (h:∀t u,AW M A h₀ L tr Q m ((x,gg C dx [some (.str nm t),some (.int np u),some (.ref la)])::H)):AW M A h₀ L tr Q m ((x,iK C dx nm np la)::H):=λs R E S k=>by
 refine j4 (S.nw _ (.head _)) λo e zr48 n1 n2=>?_;refine n6 zr48 λt u p=>?_
 refine h t u s R E ⟨S.fr,λq hq=>?_,S.nd⟩ k
 rcases List.mem_cons.mp hq with rfl|hq
 ·exact⟨o,e,p,n1,n2⟩
 ·exact S.nw q (.tail _ hq)
theorem Sk (h:AW M A h₀ L tr Q m ((x,iK C dx nm np la)::H)):AW M A h₀ L tr Q m ((x,gg C dx [some (.str nm t),some (.int np u),some (.ref la)])::H):=
 FJ (λo p=>⟨t,u,p⟩) h
set_option maxHeartbeats 1000000 in
theorem Sm (SK:oA G.K sd)(C:Cx G A h₀ L env)(r:bw A 2)
 (h:∀x dx la,Q (.ref x) m ((x,iK sd.ni dx nm 0 la)::(la,af [])::(dx,ez [])::H)):
 AW (model G.prog G.w) A h₀ L (call (.ref sd.ni) [.str nm t] []) Q m H:=by
 refine E1 C SK.gH SK.K5 λA' x dx C' hr=>?_
 refine xE SK.K4 λbg d=>?_
 conv at d in(cJ _ _).body=>whnf
 conv at d in(occs:= *) (cJ _ _).scope=>all_goals whnf
 refine Ql (n:=0) (binds:=[(Str.ofString "self",_),(Str.ofString "node",_)]) C' (hr 1 r) d (λ_ _ _ _ _=>rfl) rfl λA1 g L' C1 r1=>?_
 have hD:∀{H':Led},(dx,ez [])∈(x,gg sd.ni dx [])::(dx,ez [])::H:= .tail _ (.head _)
 refine bO (m':=[(Str.ofString "node", .str nm t),(Str.ofString "self", .ref x)]) (by walk_at "aw_subl") ?_
 walk_at "awo"
 refine yf (nY:=[some (.str nm t)]) C1 SK.gH SK.s0 (.head _) (by decide) rfl ?_
 walk_at "awo"
 refine yf (nY:=[some (.str nm t),some (.int 0 _)]) C1 SK.gH SK.s1 (.head _) (by decide) rfl ?_
 walk_at "awo"
 refine dF ?_
 walk_at "awo"
 refine⟨Nat.zero_le _,λla=>?_⟩
 walk_at "awo"
 refine bu (.tail .head) ?_
 refine yf (kvs:=[]) (dx:=dx) (nY:=[some (.str nm t),some (.int 0 _),some (.ref la)]) C1 SK.gH SK.s2 (.tail _ (.head _)) (by decide) rfl ?_
 refine Sk ?_
 walk_at "awo"
 exact⟨rfl,h _ _ _⟩
end
end
section
noncomputable def upd {β:Type}(f:Nat->β)(i:Nat)(v:β):Nat->β:=λj=>if j=i then v else f j
theorem cD:upd f i v i=v:=if_pos rfl
theorem bY (h:j≠i):upd f i v j=f j:=if_neg h
noncomputable def b8 (xs:List Str):Obj->Prop:=λo=>∃vs,bU vs xs∧af vs o
theorem ye (h:∀vs,bU vs xs->AW M A h₀ L tr Q m ((x,af vs)::H)):AW M A h₀ L tr Q m ((x,b8 xs)::H):=λs R E S k=>by
 refine j4 (S.nw _ (.head _)) λo e zr49 n1 n2=>?_;refine ah zr49 λvs h1 p=>?_
 refine h vs h1 s R E ⟨S.fr,λq hq=>?_,S.nd⟩ k
 rcases List.mem_cons.mp hq with rfl|hq
 ·exact⟨o,e,p,n1,n2⟩
 ·exact S.nw q (.tail _ hq)
theorem aw_sl_close (hv:bU vs xs)(h:AW M A h₀ L tr Q m ((x,b8 xs)::H)):AW M A h₀ L tr Q m ((x,af vs)::H):=
 FJ (λo p=>⟨vs,hv,p⟩) h
noncomputable def sv (nm:Nat->Str)(l:List (Nat×Tok)):List Value:=l.map λq=> .str (nm q.1) q.2
structure eF where
 (ia da la:Nat->Addr)
section
variable (sd:ju)(nm:Nat->Str)(np:Nat->Int)(aN:Nat->List (Nat×Tok))(ad:eF)
noncomputable def bN:Nat->Addr×(Obj->Prop):=λi=>(ad.ia i,iK sd.ni (ad.da i) (nm i) (np i) (ad.la i))
noncomputable def bL:Nat->Addr×(Obj->Prop):=λi=>(ad.la i,af (sv nm (aN i)))
noncomputable def bD:Nat->Addr×(Obj->Prop):=λi=>(ad.da i,ez [])
noncomputable def cW:List Nat->List (Str×Value):=λns=>ns.map λi=>(nm i, .ref (ad.ia i))
noncomputable def NL (ns:List Nat)(H:Led):Led:=ns.map (bN sd nm np ad)++(ns.map (bL nm aN ad)++(ns.map (bD ad)++H))
end
noncomputable def attrs (n2:Addr)(rn:Value)(po nf:Int)(t u:Tok):Loc:=[(Str.ofString "_node2info", .ref n2),(Str.ofString "_ready_nodes",rn),(Str.ofString "_npassedout", .int po t),(Str.ofString "_nfinished", .int nf u)]
theorem Ak {ad:eF}{ns:List Nat}{i:Nat}(hn:((cW nm ad ns).map (·.1)).Nodup)(h:i∈ns):valueAt (cW nm ad ns) (nm i)=some (.ref (ad.ia i)):=by
 refine xE (List.getElem?_of_mem h) λk hk=>?_
 exact wQ hn (i:=k) (by unfold cW;refine aa (List.getElem?_map) (aa hk ?_);rfl)
theorem Ds {ad:eF}{ns:List Nat}:(cW nm ad ns).map (·.1)=ns.map nm:=by unfold cW;refine aa List.map_map ?_;rfl
theorem wG {R:Led}{l:List Nat}{i:Nat}(hn:l.Nodup)(h:i∈l)(hF:∀j,j≠i->F' j=F j):(F' i::((l.erase i).map F++R)).Perm (l.map F'++R):=by
 have e:(l.erase i).map F=(l.erase i).map F':=by
  refine List.map_congr_left λj hj=>(hF j ?_).symm
  exact((List.Nodup.mem_erase_iff hn).mp hj).1
 refine aa e ?_
 exact(pL (F:=F') (R:=R) h).perm.symm
theorem wF {ad:eF}{ns:List Nat}{H:Led}{i:Nat}(h:i∈ns):aZ (ad.ia i) (iK sd.ni (ad.da i) (nm i) (np i) (ad.la i)) (NL sd nm np aN ad ns H) ((ns.erase i).map (bN sd nm np ad)++(ns.map (bL nm aN ad)++(ns.map (bD ad)++H))):=pL (F:=bN sd nm np ad) h
theorem memD {ad:eF}{ns:List Nat}{H:Led}{i:Nat}(h:i∈ns):(ad.da i,ez [])∈NL sd nm np aN ad ns H:=
 List.mem_append_right _ (List.mem_append_right _ (List.mem_append_left _ (List.mem_map.mpr ⟨i,h,rfl⟩)))
theorem ZU {ad:eF}{ns:List Nat}{H:Led}{i j:Nat}(h:i∈ns):(ad.da i,ez [])∈(ns.erase j).map (bN sd nm np ad)++(ns.map (bL nm aN ad)++(ns.map (bD ad)++H)):=
 List.mem_append_right _ (List.mem_append_right _ (List.mem_append_left _ (List.mem_map.mpr ⟨i,h,rfl⟩)))
theorem putNd {ad:eF}{ns:List Nat}{H:Led}{i:Nat}{v:Int}(hn:ns.Nodup)(h:i∈ns):((ad.ia i,iK sd.ni (ad.da i) (nm i) v (ad.la i))::((ns.erase i).map (bN sd nm np ad)++(ns.map (bL nm aN ad)++(ns.map (bD ad)++H)))).Perm (NL sd nm (upd np i v) aN ad ns H):=by
 have:=wG (F:=bN sd nm np ad) (F':=bN sd nm (upd np i v) ad) (R:=ns.map (bL nm aN ad)++(ns.map (bD ad)++H)) hn h λj hj=>by
  unfold bN;exact aa (bY hj) rfl
 unfold bN at this
 rw[cD] at this
 exact this
theorem pickL {ad:eF}{ns:List Nat}{H:Led}{i:Nat}(h:i∈ns):aZ (ad.la i) (af (sv nm (aN i))) (NL sd nm np aN ad ns H) (ns.map (bN sd nm np ad)++((ns.erase i).map (bL nm aN ad)++(ns.map (bD ad)++H))):=aZ.app (pL (F:=bL nm aN ad) h) _
theorem putL' {ad:eF}{ns:List Nat}{H:Led}{i:Nat}{v:List (Nat×Tok)}(hn:ns.Nodup)(h:i∈ns):((ad.la i,af (sv nm v))::(ns.map (bN sd nm np ad)++((ns.erase i).map (bL nm aN ad)++(ns.map (bD ad)++H)))).Perm (NL sd nm np (upd aN i v) ad ns H):=by
 have:=wG (F:=bL nm aN ad) (F':=bL nm (upd aN i v) ad) (R:=ns.map (bD ad)++H) hn h λj hj=>by
  unfold bL;exact aa (bY hj) rfl
 unfold bL at this
 rw[cD] at this
 exact z4 _ this
noncomputable def eF.add (ad:eF)(i x d l:Nat):eF:=⟨upd ad.ia i x,upd ad.da i d,upd ad.la i l⟩
theorem Qo {ad:eF}{ns:List Nat}{H:Led}{i x d l:Nat}(hi:i∉ns)(h1:np i=0)(h2:aN i=[]):
 ((x,iK sd.ni d (nm i) 0 l)::(l,af [])::(d,ez [])::NL sd nm np aN ad ns H).Perm (NL sd nm np aN (ad.add i x d l) (ns++[i]) H):=by
 have e:∀j∈ns,(ad.add i x d l).ia j=ad.ia j∧(ad.add i x d l).da j=ad.da j∧(ad.add i x d l).la j=ad.la j:=λj hj=>by
  have:j≠i:=λe=>hi (e▸hj)
  exact⟨bY this,bY this,bY this⟩
 have e1:ns.map (bN sd nm np (ad.add i x d l))=ns.map (bN sd nm np ad):=List.map_congr_left λj hj=>by unfold bN;exact aa ((e j hj).1) (aa ((e j hj).2.1) (aa ((e j hj).2.2) rfl))
 have e2:ns.map (bL nm aN (ad.add i x d l))=ns.map (bL nm aN ad):=List.map_congr_left λj hj=>by unfold bL;exact aa ((e j hj).2.2) rfl
 have e3:ns.map (bD (ad.add i x d l))=ns.map (bD ad):=List.map_congr_left λj hj=>by unfold bD;exact aa ((e j hj).2.1) rfl
 unfold NL
 refine aa List.map_append (aa List.map_append (aa List.map_append (aa e1 (aa e2 (aa e3 ?_)))))
 have n1:bN sd nm np (ad.add i x d l) i=(x,iK sd.ni d (nm i) 0 l):=by unfold bN eF.add;dsimp only;exact aa cD (aa cD (aa cD (aa h1 rfl)))
 have n2:bL nm aN (ad.add i x d l) i=(l,af []):=by unfold bL eF.add;dsimp only;refine aa cD (aa h2 ?_);rfl
 have n3:bD (ad.add i x d l) i=(d,ez []):=by unfold bD eF.add;dsimp only;exact aa cD rfl
 refine aa List.map_cons (aa List.map_nil (aa List.map_cons (aa List.map_nil (aa List.map_cons (aa List.map_nil (aa n1 (aa n2 (aa n3 ?_))))))))
 have g:∀(p q r:Addr×(Obj->Prop)) (B1 B2 B3 R:Led),(p::q::r::(B1++(B2++(B3++R)))).Perm (B1++[p]++(B2++[q]++(B3++[r]++R))):=λp q r B1 B2 B3 R=>by
  simp only [List.append_assoc,List.singleton_append]
  refine List.Perm.trans ?_ (List.perm_middle (a:=p) (l₁:=B1)).symm
  refine List.Perm.cons _ ?_
  have s1:(B1++(B2++q::(B3++r::R))).Perm (B1++(q::r::(B2++(B3++R)))):=by
   refine List.Perm.append_left _ ?_
   refine(List.perm_middle).trans (.cons _ ?_)
   have:(B2++(B3++r::R)).Perm (B2++(r::(B3++R))):=List.Perm.append_left _ List.perm_middle
   exact this.trans List.perm_middle
  refine List.Perm.trans ?_ s1.symm
  exact((List.perm_middle).trans (.cons _ List.perm_middle)).symm
 exact g _ _ _ _ _ _ _
section
variable {G:Gx}{A:Around}{h₀:Heap}{L sx gA n2:Addr}{m:Loc}{H H':Led}{env:Env}{aW:eu}{sd:ju}{nm:Nat->Str}{np:Nat->Int}{aN:Nat->List (Nat×Tok)}{ad:eF}{ns:List Nat}{rn:Value}{po nf:Int}{t u v:Tok}
theorem Z7 (hi:i∉ns):cW nm (ad.add i x d l) (ns++[i])=cW nm ad ns++[(nm i, .ref x)]:=by
 unfold cW
 refine aa List.map_append ?_
 congr 1
 ·exact List.map_congr_left λj hj=>by
   have:j≠i:=λe=>hi (e▸hj)
   show(nm j,Value.ref (upd ad.ia i x j))=_
   exact aa (bY this) rfl
 ·show[(nm i,Value.ref (upd ad.ia i x i))]=_
  exact aa cD rfl
theorem perm_six (l n x d s a:Addr×(Obj->Prop))(R:Led):(l::n::x::d::s::a::R).Perm (s::a::n::x::l::d::R):=by
 have h1:(l::n::x::d::s::a::R).Perm ([s,a]++(l::n::x::d::R)):=by
  have:(l::n::x::d::s::a::R)=[l,n,x,d]++([s,a]++R):=rfl
  refine aa this ?_
  refine List.Perm.trans (List.perm_append_comm_assoc _ _ _) ?_
  exact .refl _
 refine h1.trans (.cons _ (.cons _ ?_))
 refine(List.Perm.swap n l _).trans (.cons _ ?_)
 exact List.Perm.swap x l _
noncomputable def SL (prog:Program)(w:World)(sd:ju)(nm:Nat->Str)(sx gA n2:Addr)(rn:Value)(po nf:Int)(t u:Tok)(np:Nat->Int)(aN:Nat->List (Nat×Tok))(ad:eF)(ns:List Nat)(H:Led):Led:=
 (sx,gg sd.ts gA [])::(gA,ez (attrs n2 rn po nf t u))::(n2,aK prog w n2 (cW nm ad ns))::NL sd nm np aN ad ns H
set_option maxHeartbeats 2000000 in
theorem Rj (SK:oA G.K sd)(C:Cx G A h₀ L env)(r:bw A 3)(hz:ns.length≤900)(hd:i∉ns->np i=0∧aN i=[])(qF:∀j∈ns,nm j=nm i->j=i)
 (h1:i∈ns->Q (.ref (ad.ia i)) m (SL G.prog G.w sd nm sx gA n2 rn po nf t u np aN ad ns H))
 (h2:i∉ns->∀kN,Q (.ref (kN.ia i)) m (SL G.prog G.w sd nm sx gA n2 rn po nf t u np aN kN (ns++[i]) H)):
 AW (model G.prog G.w) A h₀ L (call (.ref sd.yD) [.ref sx, .str (nm i) v] []) Q m (SL G.prog G.w sd nm sx gA n2 rn po nf t u np aN ad ns H):=by
 refine xE SK.d1 λbg d=>?_
 conv at d in(cJ _ _).body=>whnf
 conv at d in(occs:= *) (cJ _ _).scope=>all_goals whnf
 refine gX (n:=2) (binds:=[(Str.ofString "self",_),(Str.ofString "node",_)]) C r d (λ_ _ _ _ _=>rfl) rfl λA1 g L' C1 r1=>?_
 refine bO (m':=[(Str.ofString "node", .str (nm i) v),(Str.ofString "self", .ref sx)]) (by walk_at "aw_subl") ?_
 unfold SL
 have hX:∀{H':Led},(sx,gg sd.ts gA [])∈(sx,gg sd.ts gA [])::H':= .head _
 refine uB (d:=n2) (kvs:=cW nm ad ns) (prog:=G.prog) (w:=G.w) (.mk (.tail _ (.tail _ (.head _)))) λcN=>?_
 refine jf ?_
 walk_at "awo"
 refine FE ?_
 refine rO ?_
 walk_at "awo"
 refine p7 (v:= .ref n2) C1 SK.g7 SK.o0 (.head _) (.tail _ (.head _)) rfl rfl ?_
 refine A3 (kvs:=cW nm ad ns) (.mk (.tail _ (.tail _ (.head _)))) PySem.F.slot_dict_get (by rfl) ?_
 walk_at "awo"
 refine E7 (kvs:=cW nm ad ns) (.mk (.tail _ (.tail _ (.head _)))) ?_
 by_cases hi:i∈ns
 ·refine aa (Ak cN hi) (aa Option.getD_some ?_)
  refine jg ?_
  walk_at "awo"
  refine p8 ?_
  walk_at "awo"
  refine aa (show(Value.ref (ad.ia i)==Value.none)=false from rfl) ?_
  walk_at "awo"
  exact h1 hi
 ·refine aa (D0 (by rw[Ds];intro hm;refine ah (List.mem_map.mp hm) λj hj e=>?_;exact hi (qF j hj e▸hj))) (aa Option.getD_none ?_)
  refine jg ?_
  walk_at "awo"
  refine p8 ?_
  walk_at "awo"
  refine aa (show(Value.none==Value.none)=true from rfl) ?_
  walk_at "awo"
  refine SP ?_
  refine oB ?_
  refine cI C1 SK.Gk ?_
  refine xW C1.X SK.gH.kp ?_
  walk_at "awo"
  refine Sm SK C1 r1 λx d l=>?_
  refine QE ?_
  walk_at "awo"
  refine p7 (v:= .ref n2) C1 SK.g7 SK.o0 (.tail _ (.tail _ (.tail _ (.head _)))) (.tail _ (.tail _ (.tail _ (.tail _ (.head _))))) rfl rfl ?_
  walk_at "awo"
  refine bu (.tail (.tail (.tail (.tail (.tail .head))))) ?_
  refine uC (by unfold cW;refine aa (List.length_map ..) ?_;exact Nat.le_trans ‹_› (by decide)) ?_
  refine bu (.tail (.tail .head)) ?_
  refine aa (wL (by rw[Ds];intro hm;refine ah (List.mem_map.mp hm) λj hj e=>?_;exact hi (qF j hj e▸hj)) ..) (aa (Eq.symm (Z7 hi (x:=x) (d:=d) (l:=l) ..)) ?_)
  refine dQ (H':=SL G.prog G.w sd nm sx gA n2 rn po nf t u np aN (ad.add i x d l) (ns++[i]) H) ?_ ?_
  ·unfold SL
   refine List.Perm.trans ?_ (List.Perm.cons _ (List.Perm.cons _ (List.Perm.cons _ (Qo hi (hd hi).1 (hd hi).2))))
   exact perm_six _ _ _ _ _ _ _
  refine bQ ?_
  refine jg ?_
  walk_at "awo"
  have e:x=(ad.add i x d l).ia i:=cD.symm
  have:=h2 hi (ad.add i x d l)
  rw[<-e] at this
  exact this
end
end
section
noncomputable def iM (l:Addr)(i:Nat):Obj->Prop:=λo=>o.cls= .type "tuple_iterator"∧o.data= .fields #[.ref l, .int i 0]
noncomputable def TLst (xs:List Str):Obj->Prop:=λo=>∃vs,bU vs xs∧bf vs o
theorem ZT (l:Addr)(items:Array Value)(WL:(items.size:Int)<2^63):
 Meets (Builtin.«bool.__new__» ⟨[.type "bool", .ref l],[]⟩) (λ_ R s=>s.heap.IsList l items∧∀tk,R (.ok (.ret (.bool (!items.isEmpty)))) {s with toks:=tk}):=
 Meets.of_wp λprog w A R s hs=>by
  obtain ⟨hp,g,d,tk,os⟩:=s
  refine xA hs λhl hs=>?_
  have f1:=F.conv_sub_bool
  repeat (any_goals (first|assumption|(with_reducible refine wpAny_truthy_list hl WL ?_)|wp_step))
  all_goals first|exact⟨_,rfl,hs _⟩|exact hs _|skip
section
variable {prog:Program}{w:World}{A:Around}{h₀:Heap}{L a it:Addr}{m:Loc}{H H':Led}{env:Env}{vs:List Value}{v:Value}
theorem A4 (h:Q (.bool (!(v== .none))) m H):AW (model prog w) A h₀ L (compareOp .IsNot v .none) Q m H:=λs R E S k=>isnot_none_gen (k _ m H _ _ S h)
theorem x7 (x:(a,bf vs)∈H)(h:∀it,Q (.ref it) m ((it,iM a 0)::H)):AW (model prog w) A h₀ L (pyIter (.ref a)) Q m H:=λs R E S k=>by
 refine ah (S.get x) λo e p=>?_
 exact wpAny_pyIter_tuple (p.isTup e) (k _ m _ _ _ (S.cL (P:=iM a 0) ⟨rfl,rfl⟩) (h _))
theorem zF (hh:A.handled=none):jJ prog w A h₀ L it (iM a) vs.length (λi v=>vs[i]?=some v) (λH=>(a,bf vs)∈H) where
 next:=λi m H Q hi dep h s R E S kk=>by
  refine ah (S.get (.head _)) λo e p=>?_
  refine ah (S.get (.tail _ dep)) λod ed pd=>?_
  have hx:vs[i]?=some (vs[i]'hi):=List.getElem?_eq_getElem hi
  refine wpAny_pyNext_tuple_item ⟨o,e,p⟩ (pd.isTup ed) (x:=vs[i]'hi) (by refine aa (List.getElem?_toArray) ?_;exact hx) λh' hit hs=>?_
  refine ah hit λo' e' p'=>?_;clear hit
  exact kk _ m _ _ _ (S.upd hs e' p') (h _ hx)
 done:=λm H Q dep h s R E S kk=>by
  refine ah (S.get (.head _)) λo e p=>?_
  refine ah (S.get (.tail _ dep)) λod ed pd=>?_
  exact wpAny_pyNext_tuple_end hh ⟨o,e,p⟩ (pd.isTup ed) (by simp) λh' hs=>kk _ m _ _ _ (S.ext hs) h
 go:=λi v m H target Q h s R E S kk=>by
  refine ah (S.get (.head _)) λo e p=>?_
  exact wV e p.1 (by decide) (kk _ m _ _ _ S h)
 self:=λi m H Q h s R E S kk=>by
  refine ah (S.get (.head _)) λo e p=>?_
  exact wpAny_pyIter_tupleiter ⟨o,e,p⟩ (kk _ m _ _ _ S h)
theorem Ft (hm:(a,bf vs)∈H)(hf:(vs.length:Int)<2^63)(h:∀t,Q (.int vs.length t) m H):
 AW (model prog w) A h₀ L (call (.builtin "len") [.ref a]) Q m H:=λs R E S kk=>by
 refine ah (S.get hm) λo e p=>?_
 refine len_tuple (p.isTup e) (by assumption) (kk _ m H _ _ S ?_)
 exact h _
theorem Tu (hm:(a,af vs)∈H)(hz:vs.length≤sizeLine)(h:∀t,Q (.ref t) m ((t,bf vs)::H)):
 AW (model prog w) A h₀ L (call (.type "tuple") [.ref a]) Q m H:=λs R E S kk=>by
 refine ah (S.get hm) λo e p=>?_
 exact call_tuple_list (p.isList e) (λh' hk=>kk _ m _ _ _ ((S.keeps hk).cL (P:=bf vs) ⟨0,rfl⟩) (h _)) (by assumption)
theorem QO (hz:vs.length≤sizeLine)(h:Q .none m ((a,af [])::H)):
 AW (model prog w) A h₀ L (call (.builtin "list.clear") [.ref a]) Q m ((a,af vs)::H):=λs R E S kk=>by
 refine xE (S.lst (.head _)) λn ho=>?_
 refine call_meets PySem.F.slot_list_clear ⟨_,ho,rfl⟩ PySem.F.entry_list_clear (PySem.F.args_list_clear_1 _) (PySem.AutoSeq1.list_clear_list_0 a vs.toArray n (by assumption))
  ⟨ho,kk _ m _ _ _ (S.upd (Heap.SameBut.update ..) (Heap.get?_update_self _ ho (by rfl)) ?_) h⟩
 simp only [Obj.mapSeq]
 exact⟨_,rfl⟩
theorem QM (hm:(a,af vs)∈H)(hf:(vs.length:Int)<2^63)(h:Q (.bool (!vs.isEmpty)) m H):
 AW (model prog w) A h₀ L (call (.type "bool") [.ref a]) Q m H:=λs R E S kk=>by
 refine ah (S.get hm) λo e p=>?_
 refine call_bool_1 (ZT a vs.toArray (by simpa using hf)) ⟨p.isList e,λtk=>⟨rfl,kk _ m H _ _ S ?_⟩⟩
 simpa using h
end
end
section
structure SC where
 prog:Program
 w:World
 sd:ju
 nm:Nat->Str
 sx:Addr
 gA:Addr
 n2:Addr
structure SS where
 rn:Value
 po:Int
 nf:Int
 t:Tok
 u:Tok
 np:Nat->Int
 aN:Nat->List (Nat×Tok)
 ad:eF
 ns:List Nat
noncomputable def aF (c:SC)(s:SS)(H:Led):Led:=SL c.prog c.w c.sd c.nm c.sx c.gA c.n2 s.rn s.po s.nf s.t s.u s.np s.aN s.ad s.ns H
noncomputable def ins (ns:List Nat)(i:Nat):List Nat:=if i∈ns then ns else ns++[i]
noncomputable def lV (s:SS)(kN:eF)(i:Nat):SS:={s with ad:=kN,ns:=ins s.ns i}
noncomputable def ir (s:SS)(i:Nat)(k:Int):SS:={s with np:=upd s.np i k}
noncomputable def Ah (s:SS)(i:Nat)(k:List (Nat×Tok)):SS:={s with aN:=upd s.aN i k}
structure bX (s:SS):Prop where
 nd:s.ns.Nodup
 lt:∀i∈s.ns,i<12
 df:∀j,j∉s.ns->s.np j=0∧s.aN j=[]
 sl:∀j,(s.aN j).length≤100
noncomputable def lF (nm:Nat->Str):Prop:=∀i<12,∀j<12,nm i=nm j->i=j
theorem nO:∀{n:Nat} {l:List Nat},l.Nodup->(∀i∈l,i<n)->l.length≤n
 |0,[],_,_=>Nat.le_refl _
 |0,x::_,_,h=>absurd (h x (.head _)) (Nat.not_lt_zero _)
 |n+1,l,h1,h2=>by
  by_cases hn:n∈l
  ·have h3:=List.length_erase_of_mem hn
   have:=nO (n:=n) (l:=l.erase n) (h1.erase n) λi hi=>by
    refine xA ((List.Nodup.mem_erase_iff h1).mp hi) λa b=>?_
    have:=h2 i b
    exact(ln 0x108041084011042108021985600840230802).1 a this
   have h4:0<l.length:=List.length_pos_of_mem hn
   exact(ln 0x84410802100022084210cc2b0003300d411006210c04).1 h3 this (Eq.refl (l.length-1))
  ·have:=nO (n:=n) (l:=l) h1 λi hi=>by
    have:=h2 i hi
    have:i≠n:=λe=>hn (e▸hi)
    exact tD (by assumption) this
   exact Nat.le_succ_of_le ‹_›
noncomputable def LE (H H':Led):Prop:=∀h₀ L h m,St h₀ L h m H->St h₀ L h m H'
theorem LE.perm (p:H.Perm H'):LE H H':=λ_ _ _ _ S=>S.perm p
theorem LE.sub (p:H'.Sublist H):LE H H':=λ_ _ _ _ S=>S.sub p
theorem LE.pick (p:aZ a P H H'):LE H ((a,P)::H'):=λ_ _ _ _ S=>S.perm p.perm
theorem LE.drop:LE (x::H) H:= .sub (List.sublist_cons_self _ _)
theorem LE.pred (h:∀o,P o->P' o):LE ((a,P)::H) ((a,P')::H):=λ_ _ _ _ S=>S.pred h
theorem LE.trans (a:LE H H')(b:LE H' fK):LE H fK:=λ_ _ _ _ S=>b _ _ _ _ (a _ _ _ _ S)
theorem cU (p:LE H H')(h:AW M A h₀ L t Q m H'):AW M A h₀ L t Q m H:=λs R E S k=>h s R E (p _ _ _ _ S) k
theorem uE (h:AW M A h₀ L t (λa m H=>∃H',LE H H'∧Q a m H') m H):AW M A h₀ L t Q m H:=λs R E S k=>
 h s R E S λa m' H' h' aB S' q=>by refine ah q λH2 p q=>?_;exact k a m' H2 h' aB (p _ _ _ _ S') q
theorem lZ:i∈ins ns i:=by
 unfold ins;split
 ·assumption
 ·simp
theorem sX (h:j∈ns):j∈ins ns i:=by
 unfold ins;split
 ·exact h
 ·exact List.mem_append_left _ h
theorem tG (h:j∈ins ns i):j∈ns∨j=i:=by
 unfold ins at h;split at h
 ·exact .inl h
 ·rcases List.mem_append.mp h with h|h
  ·exact .inl h
  ·exact .inr (by simpa using h)
theorem Jz (h:ns.Nodup):(ins ns i).Nodup:=by
 unfold ins;split
 ·exact h
 ·rename_i hn
  refine List.nodup_append.mpr ⟨h,by simp,λa ha b hb=>?_⟩
  rw[List.mem_singleton] at hb
  subst hb
  exact λe=>hn (e▸ha)
theorem dO (c:SC)(s:SS)(H:Led):aF c s H=aF c s []++H:=by
 unfold aF SL NL
 simp only [List.append_nil,List.cons_append,List.append_assoc]
theorem iC (c:SC)(s:SS)(x:Addr×(Obj->Prop))(H:Led):(x::aF c s H).Perm (aF c s (x::H)):=by
 refine aa (dO c s H) (aa (dO c s (x::H)) ?_)
 exact List.perm_middle.symm
theorem oz (c:SC)(s:SS)(a:Addr)(P:Obj->Prop)(H:Led):aZ a P (aF c s ((a,P)::H)) (aF c s H):=by
 refine aa (dO c s H) (aa (dO c s ((a,P)::H)) ?_)
 exact aZ.app .head _
theorem c8 (h:x∈H):x∈aF c s H:=by
 refine aa (dO ..) ?_;exact List.mem_append_right _ h
section
variable {G:Gx}{A:Around}{h₀:Heap}{L:Addr}{m:Loc}{H H':Led}{env:Env}{c:SC}{s:SS}{i:Nat}{v:Tok}
structure dN (G:Gx)(c:SC):Prop where
 pr:c.prog=G.prog
 ww:c.w=G.w
 ok:oA G.K c.sd
 ij:lF c.nm
theorem Fi (X:dN G c)(C:Cx G A h₀ L env)(r:bw A 3)(hs:bX s)(hi:i<12)
 (h:∀kN,Q (.ref (kN.ia i)) m (aF c (lV s kN i) H)):
 AW (model G.prog G.w) A h₀ L (call (.ref c.sd.yD) [.ref c.sx, .str (c.nm i) v] []) Q m (aF c s H):=by
 obtain ⟨cp,cw,sd,nm,sx,gA,n2⟩:=c
 obtain ⟨rfl,rfl,ok,ij⟩:=X
 refine Rj ok C r (by have:=nO hs.nd hs.lt;exact Nat.le_trans ‹_› (by decide)) (hs.df i) (λj hj e=>ij j (hs.lt j hj) i hi e) (λhm=>?_) λhm kN=>?_
 ·have:=h s.ad
  unfold lV ins at this
  rw[if_pos hm] at this
  exact this
 ·have:=h kN
  unfold lV ins at this
  rw[if_neg hm] at this
  exact this
theorem bX.ins (hs:bX s)(hi:i<12)(kN:eF):bX (lV s kN i) where
 nd:=Jz hs.nd
 lt:=λj hj=>by
  rcases tG hj with h|h
  ·exact hs.lt j h
  ·exact h▸hi
 df:=λj hj=>hs.df j λh=>hj (sX h)
 sl:=hs.sl
theorem bX.np (hs:bX s)(hi:i∈s.ns)(k:Int):bX (ir s i k) where
 nd:=hs.nd
 lt:=hs.lt
 df:=λj hj=>⟨by show upd s.np i k j=0;refine aa (bY λe:j=i=>hj (by subst e;exact hi)) ?_;exact(hs.df j hj).1,(hs.df j hj).2⟩
 sl:=hs.sl
theorem bX.aN (hs:bX s)(hi:i∈s.ns)(hk:k.length≤100):bX (Ah s i k) where
 nd:=hs.nd
 lt:=hs.lt
 df:=λj hj=>⟨(hs.df j hj).1,by show upd s.aN i k j=[];refine aa (bY λe:j=i=>hj (by subst e;exact hi)) ?_;exact(hs.df j hj).2⟩
 sl:=λj=>by
  show(upd s.aN i k j).length≤100
  by_cases e:j=i
  ·subst e;refine aa cD ?_;exact hk
  ·refine aa (bY e) ?_;exact hs.sl j
theorem ya (X:dN G c)(C:Cx G A h₀ L env)(hs:bX s)(hi:i∈s.ns)(h:∀t,Q (.int (s.np i) t) m (aF c s H)):
 AW (model G.prog G.w) A h₀ L (getAttr (.ref (s.ad.ia i)) (Str.ofString "npredecessors") expr) Q m (aF c s H):=by
 intro S R E St k
 have hp:=(wF (sd:=c.sd) (nm:=c.nm) (np:=s.np) (aN:=s.aN) (ad:=s.ad) (H:=H) hi).mem
 have fh:(s.ad.ia i,iK c.sd.ni (s.ad.da i) (c.nm i) (s.np i) (s.ad.la i))∈aF c s H:= .tail _ (.tail _ (.tail _ hp))
 refine tZ (St.get fh) λo e t u p=>?_
 refine ah (St.get (a:=s.ad.da i) (P:=ez []) (.tail _ (.tail _ (.tail _ (memD hi))))) λod ed _=>?_
 refine pS X.ok.s1.ex λq a1 a2 a3 a4 a5 a6 a7=>?_
 refine get_bind (C.X.keeps St.keep) (p.inst e ed) X.ok.gH.ga (findObj_data a7 a1 a2 a3) X.ok.gH.gk (wpAny_call (slot_get (s:={S with toks:=S.toks+1}) (C.X.keeps St.keep) (p.inst e ed) a4 (v:= .int (s.np i) u) ?_ (handed_on rfl (k _ m _ _ _ St (h _)))))
 obtain rfl:o=_:=p
 rfl
theorem aw_node_get (X:dN G c)(C:Cx G A h₀ L env)(hs:bX s)(hi:i∈s.ns)(h:∀t,Q (.str (c.nm i) t) m (aF c s H)):
 AW (model G.prog G.w) A h₀ L (getAttr (.ref (s.ad.ia i)) (Str.ofString "node") expr) Q m (aF c s H):=by
 intro S R E St k
 have hp:=(wF (sd:=c.sd) (nm:=c.nm) (np:=s.np) (aN:=s.aN) (ad:=s.ad) (H:=H) hi).mem
 have fh:(s.ad.ia i,iK c.sd.ni (s.ad.da i) (c.nm i) (s.np i) (s.ad.la i))∈aF c s H:= .tail _ (.tail _ (.tail _ hp))
 refine tZ (St.get fh) λo e t u p=>?_
 refine ah (St.get (a:=s.ad.da i) (P:=ez []) (.tail _ (.tail _ (.tail _ (memD hi))))) λod ed _=>?_
 refine pS X.ok.s0.ex λq a1 a2 a3 a4 a5 a6 a7=>?_
 refine get_bind (C.X.keeps St.keep) (p.inst e ed) X.ok.gH.ga (findObj_data a7 a1 a2 a3) X.ok.gH.gk (wpAny_call (slot_get (s:={S with toks:=S.toks+1}) (C.X.keeps St.keep) (p.inst e ed) a4 (v:= .str (c.nm i) t) ?_ (handed_on rfl (k _ m _ _ _ St (h _)))))
 obtain rfl:o=_:=p
 rfl
theorem F6 (X:dN G c)(C:Cx G A h₀ L env)(hs:bX s)(hi:i∈s.ns)(h:Q (.ref (s.ad.la i)) m (aF c s H)):
 AW (model G.prog G.w) A h₀ L (getAttr (.ref (s.ad.ia i)) (Str.ofString "successors") expr) Q m (aF c s H):=by
 intro S R E St k
 have hp:=(wF (sd:=c.sd) (nm:=c.nm) (np:=s.np) (aN:=s.aN) (ad:=s.ad) (H:=H) hi).mem
 have fh:(s.ad.ia i,iK c.sd.ni (s.ad.da i) (c.nm i) (s.np i) (s.ad.la i))∈aF c s H:= .tail _ (.tail _ (.tail _ hp))
 refine tZ (St.get fh) λo e t u p=>?_
 refine ah (St.get (a:=s.ad.da i) (P:=ez []) (.tail _ (.tail _ (.tail _ (memD hi))))) λod ed _=>?_
 refine pS X.ok.s2.ex λq a1 a2 a3 a4 a5 a6 a7=>?_
 refine get_bind (C.X.keeps St.keep) (p.inst e ed) X.ok.gH.ga (findObj_data a7 a1 a2 a3) X.ok.gH.gk (wpAny_call (slot_get (s:={S with toks:=S.toks+1}) (C.X.keeps St.keep) (p.inst e ed) a4 (v:= .ref (s.ad.la i)) ?_ (handed_on rfl (k _ m _ _ _ St h))))
 obtain rfl:o=_:=p
 rfl
theorem yb (X:dN G c)(C:Cx G A h₀ L env)(hs:bX s)(hi:i∈s.ns)(h:Q () m (aF c (ir s i k) H)):
 AW (model G.prog G.w) A h₀ L (setAttr (.ref (s.ad.ia i)) (Str.ofString "npredecessors") (.int k v)) Q m (aF c s H):=by
 unfold aF SL
 refine bu (.tail (.tail (.tail (wF hi)))) ?_
 refine Sl λt u=>?_
 refine uE ?_
 refine yf (nY:=[some (.str (c.nm i) t),some (.int k v),some (.ref (s.ad.la i))]) C X.ok.gH X.ok.s1 (.tail _ (.tail _ (.tail _ (ZU hi)))) (by decide) rfl ?_
 refine⟨_, .trans (.pred λo p=>(⟨t,v,p⟩:iK c.sd.ni (s.ad.da i) (c.nm i) k (s.ad.la i) o)) (.perm ?_),h⟩
 unfold aF SL ir
 exact(z4 [_,_,_] (putNd (v:=k) hs.nd hi))
theorem LE.sucOut (hi:i∈s.ns):∃R,LE (aF c s H) ((s.ad.la i,af (sv c.nm (s.aN i)))::R)∧∀(k:List (Nat×Tok)),s.ns.Nodup->LE ((s.ad.la i,af (sv c.nm k))::R) (aF c (Ah s i k) H):=by
 refine⟨_, .pick (.tail (.tail (.tail (pickL hi)))),λk hn=> .perm ?_⟩
 unfold Ah
 exact(z4 [_,_,_] (putL' (v:=k) hn hi))
end
end
section
section
variable {G:Gx}{A:Around}{h₀:Heap}{L:Addr}{m:Loc}{H H':Led}{env:Env}{c:SC}{s:SS}{i:Nat}{v t u:Tok}
theorem FA (X:dN G c)(C:Cx G A h₀ L env)(h:Q (.ref c.n2) m (aF c s H)):AW (model G.prog G.w) A h₀ L (getAttr (.ref c.sx) (Str.ofString "_node2info") expr) Q m (aF c s H):=
 p7 (v:= .ref c.n2) C X.ok.g7 X.ok.o0 (.head _) (.tail _ (.head _)) rfl rfl h
theorem mV (X:dN G c)(C:Cx G A h₀ L env)(hv:handedIn s.rn=true)(h:Q s.rn m (aF c s H)):AW (model G.prog G.w) A h₀ L (getAttr (.ref c.sx) (Str.ofString "_ready_nodes") expr) Q m (aF c s H):=
 p7 (v:=s.rn) C X.ok.g7 X.ok.o1 (.head _) (.tail _ (.head _)) rfl hv h
theorem FI (X:dN G c)(C:Cx G A h₀ L env)(h:Q (.int s.po s.t) m (aF c s H)):AW (model G.prog G.w) A h₀ L (getAttr (.ref c.sx) (Str.ofString "_npassedout") expr) Q m (aF c s H):=
 p7 (v:= .int s.po s.t) C X.ok.g7 X.ok.o2 (.head _) (.tail _ (.head _)) rfl rfl h
theorem FH (X:dN G c)(C:Cx G A h₀ L env)(h:Q (.int s.nf s.u) m (aF c s H)):AW (model G.prog G.w) A h₀ L (getAttr (.ref c.sx) (Str.ofString "_nfinished") expr) Q m (aF c s H):=
 p7 (v:= .int s.nf s.u) C X.ok.g7 X.ok.o3 (.head _) (.tail _ (.head _)) rfl rfl h
theorem SA (X:dN G c)(C:Cx G A h₀ L env)(h:Q () m (aF c {s with rn:=x} H)):AW (model G.prog G.w) A h₀ L (setAttr (.ref c.sx) (Str.ofString "_ready_nodes") x) Q m (aF c s H):=
 dQ (.swap _ _ _) (uE (qb C X.ok.g7 X.ok.o1 (.head _) (by show(4:Nat)≤900;exact Nat.le_add_left _ _) ⟨_, .perm (.swap _ _ _),h⟩))
theorem Su (X:dN G c)(C:Cx G A h₀ L env)(h:Q () m (aF c {s with po:=x,t:=t} H)):AW (model G.prog G.w) A h₀ L (setAttr (.ref c.sx) (Str.ofString "_npassedout") (.int x t)) Q m (aF c s H):=
 dQ (.swap _ _ _) (uE (qb C X.ok.g7 X.ok.o2 (.head _) (by show(4:Nat)≤900;exact @id ((4:Nat)≤900) (Zr)) ⟨_, .perm (.swap _ _ _),h⟩))
theorem Si (X:dN G c)(C:Cx G A h₀ L env)(h:Q () m (aF c {s with nf:=x,u:=u} H)):AW (model G.prog G.w) A h₀ L (setAttr (.ref c.sx) (Str.ofString "_nfinished") (.int x u)) Q m (aF c s H):=
 dQ (.swap _ _ _) (uE (qb C X.ok.g7 X.ok.o3 (.head _) (by show(4:Nat)≤900;lia) ⟨_, .perm (.swap _ _ _),h⟩))
theorem oF (X:dN G c)(C:Cx G A h₀ L env)(a:j6 G.K c.sd.ts name f)(hl:lk (attrs c.n2 s.rn s.po s.nf s.t s.u) name=none)
 (h:Q (.ref f,[.ref c.sx]) m (aF c s H)):AW (model G.prog G.w) A h₀ L (getMethod (.ref c.sx) name pl) Q m (aF c s H):=
 R6 C X.ok.g7 a (.head _) (.tail _ (.head _)) hl h
theorem A2 (C:Cx G A h₀ L env)(d:kM G.K ci mi qual f)
 (h:AW (model G.prog G.w) A h₀ L (spliced (backTo pos (starEach (e::rest) env))) (Bs (model G.prog G.w) A h₀ L (.ref f) first Q) m H)
 (he:starEach (e::rest) env=(false,eval e env)::starEach rest env:=by with_unfolding_all rfl)(iG:(backTo pos (starEach rest env)).any (·.1)=false:=by with_unfolding_all rfl):
 AW (model G.prog G.w) A h₀ L (callWith pos (.ref f) first (backTo pos (starEach (e::rest) env)) []) Q m H:=by
 refine xE d λbg d=>?_
 exact xW C.X d.keep h he iG
theorem aw_cw_m0 (C:Cx G A h₀ L env)(d:kM G.K ci mi qual f)(h:AW (model G.prog G.w) A h₀ L (call (.ref f) (first++[])) Q m H):
 AW (model G.prog G.w) A h₀ L (callWith pos (.ref f) first (backTo pos (starEach [] env)) []) Q m H:=by
 refine xE d λbg d=>?_
 exact xX C.X d.keep h
noncomputable def rN (s:SS)(gE fR:eF)(p:Nat)(t:Tok)(q:Nat):SS:=Ah (lV (ir (lV s gE p) p (s.np p+1)) fR q) q (s.aN q++[(p,t)])
theorem bX.add (hs:bX s)(hp:p<12)(hq:q<12)(hz:(s.aN q).length<100)(gE fR:eF):bX (rN s gE fR p t q):=by
 have h1:=(hs.ins hp gE).np (i:=p) lZ (s.np p+1)
 have h2:=(h1.ins hq fR).aN (i:=q) lZ (k:=s.aN q++[(p,t)]) (by refine aa List.length_append (aa List.length_singleton ?_);assumption)
 exact h2
set_option maxHeartbeats 4000000 in
theorem SQ (T:aT G.K aW)(X:dN G c)(C:Cx G A h₀ L env)(r:bw A 4)(hs:bX s)(fM:s.rn= .none)(hp:p<12)(hq:q<12)(hz:(s.aN q).length<100)
 (h:∀gE fR,Q .none m (aF c (rN s gE fR p t q) H)):
 AW (model G.prog G.w) A h₀ L (call (.ref c.sd.add) [.ref c.sx, .str (c.nm p) t, .str (c.nm q) u] []) Q m (aF c s H):=by
 refine xE X.ok.d2 λbg d=>?_
 conv at d in(cJ _ _).body=>whnf
 conv at d in(occs:= *) (cJ _ _).scope=>all_goals whnf
 refine E3 (n:=3) (rs:=[.str (c.nm q) u]) (binds:=λD=>[(Str.ofString "self", .ref c.sx),(Str.ofString "node", .str (c.nm p) t),(Str.ofString "predecessors", .ref D)]) C r d rfl (λ_ _ _ _ _=>by rfl) (λD=>rfl) λD A1 g L' C1 r1=>?_
 refine bO (m':=[(Str.ofString "predecessors", .ref D),(Str.ofString "node", .str (c.nm p) t),(Str.ofString "self", .ref c.sx)]) (by walk_at "aw_subl") ?_
 refine dQ (iC c s _ H) ?_
 refine jf ?_
 walk_at "awo"
 refine mV X C1 (by refine aa fM ?_;rfl) ?_
 refine aa fM ?_
 walk_at "awo"
 refine A4 ?_
 walk_at "awo"
 refine aa (show(!(Value.none==Value.none))=false from rfl) ?_
 walk_at "awo"
 refine oF X C1 X.ok.m1 rfl ?_
 refine cF ?_
 refine A2 C1 X.ok.d1 ?_
 walk_at "awo"
 refine Fi X C1 r1 hs hp λgE=>?_
 have jE:=hs.ins hp gE
 walk_at "awo"
 refine ya X C1 jE lZ λtk=>?_
 walk_at "awo"
 refine Ft (vs:=[.str (c.nm q) u]) (c8 (.head _)) (by show(1:Int)<_;decide) λbC=>?_
 walk_at "awo"
 refine x6 λaR=>?_
 refine yb X C1 jE lZ ?_
 have qO:=jE.np (i:=p) lZ (s.np p+1)
 refine je ?_
 walk_at "awo"
 refine x7 (c8 (.head _)) λit=>?_
 refine iN (zF C1.hh) (λi m' H'=>∃s',SubL [(Str.ofString "predecessors", .ref D),(Str.ofString "node", .str (c.nm p) t),(Str.ofString "self", .ref c.sx)] m'∧H'=aF c s' ((D,bf [.str (c.nm q) u])::H)∧
  ((i=0∧s'=ir (lV s gE p) p (s.np p+1))∨(i=1∧∃fR,s'=rN s gE fR p t q))) (λi m' H' hI=>by refine cQ hI λs' _ zr51 _=>?_;clear hI;subst zr51;exact c8 (.head _)) ?_ ?_ 0 (Nat.zero_le _) ⟨_,by walk_at "aw_subl",rfl, .inl ⟨rfl,rfl⟩⟩
 ·intro i J hJ v m1 H1 hi hv Nj;refine cQ Nj λs' hm zr52 hh=>?_;clear Nj;subst zr52
  obtain rfl:i=0:=by simpa using hi
  obtain rfl:v= .str (c.nm q) u:=by exact(Option.some.inj hv.symm)
  obtain rfl:s'=ir (lV s gE p) p (s.np p+1):=by
   rcases hh with⟨_,e⟩|⟨e,_⟩
   ·exact e
   ·cases e
  refine bO hm ?_
  refine bQ ?_
  walk_at "awo"
  refine dQ (iC c _ _ _) ?_
  refine oF X C1 X.ok.m1 rfl ?_
  refine cF ?_
  refine A2 C1 X.ok.d1 ?_
  walk_at "awo"
  refine Fi X C1 r1 qO hq λfR=>?_
  have zm:=qO.ins hq fR
  walk_at "awo"
  refine F6 X C1 zm lZ ?_
  refine ah (LE.sucOut (c:=c) (s:=lV (ir (lV s gE p) p (s.np p+1)) fR q) (H:=(it,iM D (0+1))::(D,bf [.str (c.nm q) u])::H) (i:=q) lZ) λR yG VY=>?_
  refine cU yG ?_
  refine iO (.head _) PySem.F.slot_list_append PySem.F.type_list_append ?_
  walk_at "awo"
  have aP:(1000:Nat)≤sizeLine:=by decide
  refine jL (by unfold sv;refine aa (List.length_map ..) ?_;show(s.aN q).length≤_;exact @(ln 0x4211042108001fa05f9806417e6008802).1 ((s.aN q).length) sizeLine hz aP) ?_
  refine i8 ?_
  have Hy:=VY (s.aN q++[(p,t)]) zm.nd
  rw[show sv c.nm (s.aN q++[(p,t)])=sv c.nm (s.aN q)++[.str (c.nm p) t] by unfold sv;simp] at Hy
  refine cU Hy ?_
  refine gF ?_
  exact fU (oz c _ _ _ _) (hJ ⟨_,by walk_at "aw_subl",rfl, .inr ⟨rfl,fR,rfl⟩⟩)
 ·intro m1 H1 Nx;refine cQ Nx λs' hm zr53 hh=>?_;clear Nx;subst zr53
  refine xE (show∃fR,s'=rN s gE fR p t q from by
   rcases hh with⟨e,_⟩|⟨_,e⟩
   ·cases e
   ·exact e) λfR zr54=>?_;subst zr54
  refine cU ((LE.pick (oz c _ _ _ _)).trans .drop) ?_
  refine gF ?_
  refine gR ?_
  refine gF ?_
  exact h _ _
end
end
section
section
variable {G:Gx}{A:Around}{h₀:Heap}{L:Addr}{m:Loc}{H H':Led}{env:Env}{aW:eu}{sd:ju}{c:SC}{s:SS}{i:Nat}{v t u:Tok}
noncomputable def SS.fresh (t u:Tok):SS:=⟨.none,0,0,t,u,λ_=>0,λ_=>[],⟨λ_=>0,λ_=>0,λ_=>0⟩,[]⟩
theorem bX.fresh:bX (SS.fresh t u):=by
 constructor
 ·exact List.nodup_nil
 ·intro _ h;cases h
 ·exact λ_ _=>⟨rfl,rfl⟩
 ·exact λ_=>Nat.zero_le _
set_option maxHeartbeats 2000000 in
theorem Tf (SK:oA G.K sd)(C:Cx G A h₀ L env)(r:bw A 2)(nm:Nat->Str)
 (h:∀sx gA n2 t u,Q (.ref sx) m (aF ⟨G.prog,G.w,sd,nm,sx,gA,n2⟩ (SS.fresh t u) H)):
 AW (model G.prog G.w) A h₀ L (call (.ref sd.ts) [] []) Q m H:=by
 refine E1 C SK.g7 SK.L5 λA' x dx C' hr=>?_
 refine xE SK.L3 λbg d=>?_
 conv at d in(cJ _ _).body=>whnf
 conv at d in(occs:= *) (cJ _ _).scope=>all_goals whnf
 refine Qm (n:=0) C' (hr 1 r) (d x) rfl λA1 g L' C1 r1=>?_
 refine bO (m':=[(Str.ofString "graph", .none),(Str.ofString "self", .ref x)]) (by walk_at "aw_subl") ?_
 walk_at "awo"
 refine xY C1 λn2=>?_
 walk_at "awo"
 refine bu (.tail (.tail .head)) ?_
 refine qb C1 SK.g7 SK.o0 (.tail _ (.head _)) (by decide) ?_
 walk_at "awo"
 refine qb C1 SK.g7 SK.o1 (.tail _ (.head _)) (by show(1:Nat)≤900;exact Nat.succ_pos _) ?_
 walk_at "awo"
 refine qb C1 SK.g7 SK.o2 (.tail _ (.head _)) (by show(2:Nat)≤900;exact Nat.le_add_left _ _) ?_
 walk_at "awo"
 refine qb C1 SK.g7 SK.o3 (.tail _ (.head _)) (by show(3:Nat)≤900;exact Nat.le_add_left _ _) ?_
 walk_at "awo"
 refine A4 ?_
 walk_at "awo"
 refine aa (show(!(Value.none==Value.none))=false from rfl) ?_
 refine dQ (H':=aF ⟨G.prog,G.w,sd,nm,x,dx,n2⟩ (SS.fresh _ _) H) ((List.Perm.cons _ (.swap _ _ _)).trans (.swap _ _ _)) ?_
 walk_at "awo"
 exact⟨rfl,h _ _ _ _ _⟩
theorem Sq
 (h:AW (model G.prog G.w) A h₀ L (eval yw env) (λv m H=>AW (model G.prog G.w) A h₀ L (truthy v) (λb m H=>if b=true then Q v m H else AW (model G.prog G.w) A h₀ L (eval (.BoolOp .Or (Vu::rest) pos) env) Q m H) m H) m H):
 AW (model G.prog G.w) A h₀ L (eval (.BoolOp .Or (yw::Vu::rest) pos) env) Q m H:=λs R E S k=>
 BoolOp_or (h s _ E S λv m1 H1 h1 aX S1 q1=>q1 _ _ E S1 λb m2 H2 h2 bC S2 q2=>by
  cases b with
  |true=>exact k _ m2 H2 h2 bC S2 q2
  |false=>exact q2 _ R E S2 k)
theorem Ss (h:AW (model G.prog G.w) A h₀ L (eval e env) Q m H):AW (model G.prog G.w) A h₀ L (eval (.BoolOp .Or [e] pos) env) Q m H:=λs R E S k=>BoolOp_one (h s R E S k)
set_option maxHeartbeats 2000000 in
theorem QA (T:aT G.K aW)(X:dN G c)(C:Cx G A h₀ L env)(r:bw A 1)(fM:s.rn= .ref rl)(hx:xs.length≤100)
 (h:Q (.bool (decide (s.nf<s.po)|| !xs.isEmpty)) m (aF c s ((rl,b8 xs)::H))):
 AW (model G.prog G.w) A h₀ L (call (.ref c.sd.AV) [.ref c.sx] []) Q m (aF c s ((rl,b8 xs)::H)):=by
 refine xE X.ok.d5 λbg d=>?_
 conv at d in(cJ _ _).body=>whnf
 conv at d in(occs:= *) (cJ _ _).scope=>all_goals whnf
 refine gX (n:=0) (binds:=[(Str.ofString "self",_)]) C r d (λ_ _ _ _ _=>rfl) rfl λA1 g L' C1 r1=>?_
 refine bO (m':=[(Str.ofString "self", .ref c.sx)]) (by walk_at "aw_subl") ?_
 refine jf ?_
 walk_at "awo"
 refine mV X C1 (by refine aa fM ?_;rfl) ?_
 refine aa fM ?_
 walk_at "awo"
 refine p8 ?_
 walk_at "awo"
 refine aa (show(Value.ref rl==Value.none)=false from rfl) ?_
 walk_at "awo"
 refine Sq ?_
 walk_at "awo"
 refine FH X C1 ?_
 walk_at "awo"
 refine FI X C1 ?_
 walk_at "awo"
 by_cases aC:s.nf<s.po
 ·refine qT ((decide_eq_true aC)) ?_
  rw[decide_eq_true aC,Bool.true_or] at h
  refine aa (decide_eq_true aC) ?_
  exact h
 ·refine qS ((by simpa using aC)) ?_
  rw[decide_eq_false aC,Bool.false_or] at h
  refine Ss ?_
  walk_at "awo"
  refine mV X C1 (by refine aa fM ?_;rfl) ?_
  refine aa fM ?_
  walk_at "awo"
  refine bu (oz c s _ _ _) ?_
  refine ye λvs bB=>?_
  have fE:=bB.length
  have nq:(100:Int)<2^63:=by decide
  refine uE ?_
  refine QM (.head _) (by exact KJ hx fE) ?_
  refine⟨_, .trans (.pred λo hp=>(⟨_,bB,hp⟩:b8 xs o)) (.perm (iC c s _ H)),?_⟩
  refine aa (show vs.isEmpty=xs.isEmpty by rw[Bool.eq_iff_iff,List.isEmpty_iff_length_eq_zero,List.isEmpty_iff_length_eq_zero,fE]) ?_
  exact h
end
end
section
noncomputable def tO (f:Nat->Int)(R:List Nat)(k:Int):Nat->Int:=R.foldl (λf i=>upd f i k) f
noncomputable def kO (s:SS)(R:List Nat)(k:Int):SS:={s with np:=tO s.np R k}
noncomputable def Lq (s:SS)(x:Int)(t:Tok):SS:={s with po:=x,t:=t}
noncomputable def wu (s:SS)(x:Int)(t:Tok):SS:={s with nf:=x,u:=t}
theorem DJ (k:Int):∀(R:List Nat) (f:Nat->Int) (i:Nat),tO f R k i=if i∈R then k else f i
 |[],f,i=>by rfl
 |x::R,f,i=>by
  show tO (upd f x k) R k i=_
  refine aa (DJ k R (upd f x k) i) ?_
  by_cases h:i∈R
  ·exact aa (if_pos h) (aa (if_pos (.tail _ h)) rfl)
  ·refine aa (if_neg h) ?_
   by_cases e:i=x
   ·subst e;exact aa cD (aa (if_pos (.head _)) rfl)
   ·exact aa (bY e) (aa (if_neg (by simp[e,h])) rfl)
section
variable {G:Gx}{A:Around}{h₀:Heap}{L:Addr}{m:Loc}{H H':Led}{env:Env}{aW:eu}{sd:ju}{c:SC}{s:SS}{i:Nat}{v t u:Tok}
theorem bX.all (hs:bX s)(hR:∀i∈R,i∈s.ns)(k:Int):bX (kO s R k):=by
 constructor
 ·exact hs.nd
 ·exact hs.lt
 ·intro j hj
  refine⟨?_,(hs.df j hj).2⟩
  show tO s.np R k j=0
  refine aa (DJ ..) (aa (if_neg λe=>hj (hR j e) ..) ?_)
  exact(hs.df j hj).1
 ·exact hs.sl
theorem EO (c:SC)(s:SS)(H:Led):di c.prog c.w c.n2 (cW c.nm s.ad s.ns) (aF c s H):= .mk (.tail _ (.tail _ (.head _)))
theorem C3 (dg:lF c.nm)(hs:bX s):((cW c.nm s.ad s.ns).map (·.1)).Nodup:=by
 refine aa Ds ?_
 refine List.pairwise_map.mpr (hs.nd.imp_of_mem λ{a b} ha hb bF e=>bF (dg a (hs.lt a ha) b (hs.lt b hb) e))
theorem FD (X:dN G c)(hs:bX s)(hi:i∈s.ns)(h:Q (.ref (s.ad.ia i)) m (aF c s H))
 (hq:subscripted slice false (.ref c.n2) (.str (c.nm i) t)=operate [.ref c.n2, .str (c.nm i) t] (getItem (.ref c.n2) (.str (c.nm i) t)):=by with_unfolding_all rfl):
 AW (model G.prog G.w) A h₀ L (subscriptTail value slice (.ref c.n2) (.str (c.nm i) t)) Q m (aF c s H):=
 lJ (by have:=EO c s H;rw[X.pr,X.ww] at this;exact this) (Ak (C3 X.ij hs) hi) h hq
set_option maxHeartbeats 4000000 in
theorem Sx (T:aT G.K aW)(X:dN G c)(C:Cx G A h₀ L env)(r:bw A 2)(hs:bX s)(fM:s.rn= .ref rl)(hR:∀i∈R,i∈s.ns)(hz:R.length≤100)
 (h:∀rt vs t,bU vs (R.map c.nm)->Q (.ref rt) m (aF c (Lq (kO s R (-1)) (s.po+R.length) t) ((rl,b8 [])::(rt,bf vs)::H))):
 AW (model G.prog G.w) A h₀ L (call (.ref c.sd.ready) [.ref c.sx] []) Q m (aF c s ((rl,b8 (R.map c.nm))::H)):=by
 refine xE X.ok.d4 λbg d=>?_
 conv at d in(cJ _ _).body=>whnf
 conv at d in(occs:= *) (cJ _ _).scope=>all_goals whnf
 refine gX (n:=1) (binds:=[(Str.ofString "self",_)]) C r d (λ_ _ _ _ _=>rfl) rfl λA1 g L' C1 r1=>?_
 refine bO (m':=[(Str.ofString "self", .ref c.sx)]) (by walk_at "aw_subl") ?_
 have aP:(1000:Nat)≤sizeLine:=by decide
 have nq:(100:Int)<2^63:=by decide
 refine jf ?_
 walk_at "awo"
 refine mV X C1 (by refine aa fM ?_;rfl) ?_
 refine aa fM ?_
 walk_at "awo"
 refine p8 ?_
 walk_at "awo"
 refine aa (show(Value.ref rl==Value.none)=false from rfl) ?_
 walk_at "awo"
 refine mV X C1 (by refine aa fM ?_;rfl) ?_
 refine aa fM ?_
 walk_at "awo"
 refine bu (oz c s _ _ _) ?_
 refine ye λvs bB=>?_
 have fE:=bB.length
 rw[List.length_map] at fE
 refine Tu (.head _) (by exact @Zx vs.length sizeLine R.length hz aP fE) λrt=>?_
 refine cU (H':=aF c s ((rl,b8 (R.map c.nm))::(rt,bf vs)::H)) ((LE.perm (.swap _ _ _)).trans (LE.trans (.pred λo hp=>(⟨_,bB,hp⟩:b8 (R.map c.nm) o)) ((LE.perm (.cons _ (iC c s _ H))).trans (.perm (iC c s _ _))))) ?_
 walk_at "awo"
 refine FA X C1 ?_
 walk_at "awo"
 refine je ?_
 walk_at "awo"
 refine x7 (c8 (.tail _ (.head _))) λit=>?_
 refine iN (zF C1.hh) (λi m' H'=>SubL [(Str.ofString "n2i", .ref c.n2),(Str.ofString "result", .ref rt),(Str.ofString "self", .ref c.sx)] m'∧H'=aF c (kO s (R.take i) (-1)) ((rl,b8 (R.map c.nm))::(rt,bf vs)::H))
  (λi m' H' hI=>by refine xA hI λ_ zr55=>?_;clear hI;subst zr55;exact c8 (.tail _ (.head _))) ?_ ?_ 0 (Nat.zero_le _) ⟨by walk_at "aw_subl",rfl⟩
 ·intro i J hJ v m1 H1 hi hv NK;refine xA NK λhm zr56=>?_;clear NK;subst zr56
  have jR:i<R.length:=by exact Nat.lt_of_lt_of_eq ‹_› ‹_›
  refine xE (bB.get (i:=i) (x:=c.nm R[i]) (by refine aa (List.getElem?_map) (aa (List.getElem?_eq_getElem jR) ?_);rfl)) λtx hx=>?_
  obtain rfl:v= .str (c.nm R[i]) tx:=by rw[hx] at hv;cases hv;rfl
  refine bO hm ?_
  refine bQ ?_
  walk_at "awo"
  refine xE X.ok.Bl λtb hb=>?_
  refine cI C1 hb ?_
  walk_at "awo"
  have jE:bX (kO s (R.take i) (-1)):=hs.all (λj hj=>hR j (List.mem_of_mem_take hj)) _
  have cA:R[i]∈s.ns:=hR _ (List.getElem_mem jR)
  refine dQ (iC c _ _ _) ?_
  refine FD X jE cA ?_
  walk_at "awo"
  refine yb X C1 jE cA ?_
  walk_at "awo"
  refine fU (oz c _ _ _ _) (hJ ⟨by walk_at "aw_subl",?_⟩)
  have e:ir (kO s (R.take i) (-1)) R[i] (-1)=kO s (R.take (i+1)) (-1):=by
   unfold ir kO tO
   refine aa (List.take_add_one ..) (aa (List.getElem?_eq_getElem jR ..) (aa (Option.toList_some ..) (aa (List.foldl_append ..) ?_)))
   rfl
  exact aa e rfl
 ·intro m1 H1 NX;refine xA NX λhm zr57=>?_;clear NX;subst zr57
  refine aa (show vs.length=R.length from fE) (aa List.take_length ?_)
  refine bO hm ?_
  have jE:bX (kO s R (-1)):=hs.all hR _
  walk_at "awo"
  refine mV X C1 (by show handedIn s.rn=true;refine aa fM ?_;rfl) ?_
  refine aa (show(kO s R (-1)).rn= .ref rl from fM) ?_
  refine bu (oz c _ _ _ _) ?_
  refine ye λus ko=>?_
  have kj:=ko.length
  rw[List.length_map] at kj
  refine iO (.head _) PySem.F.slot_list_clear PySem.F.type_list_clear ?_
  refine cF ?_
  walk_at "awo"
  refine QO (by lia) ?_
  refine i8 ?_
  refine cU (H':=aF c (kO s R (-1)) ((rl,b8 [])::(rt,bf vs)::H)) (LE.trans (.pred λo hp=>(⟨_,bU.nil,hp⟩:b8 [] o)) (.perm (iC c _ _ _))) ?_
  walk_at "awo"
  refine FI X C1 ?_
  walk_at "awo"
  refine Ft (c8 (.tail _ (.head _))) (by exact KJ hz fE) λtk=>?_
  walk_at "awo"
  refine x6 λbC=>?_
  refine Su X C1 ?_
  walk_at "awo"
  refine aa fE ?_
  exact h _ _ _ bB
end
end
section
noncomputable def j7 (a:(Nat->Int)×List Nat)(j:Nat):(Nat->Int)×List Nat:=(upd a.1 j (a.1 j-1),if a.1 j-1=0 then a.2++[j] else a.2)
noncomputable def fS (f:Nat->Int)(R:List Nat)(js:List Nat):(Nat->Int)×List Nat:=js.foldl j7 (f,R)
noncomputable def ie (s:SS)(f:Nat->Int):SS:={s with np:=f}
noncomputable def dK (s:SS)(i:Nat):List Nat:=(s.aN i).map (·.1)
theorem UQ (js:List Nat):∀(f:Nat->Int) (R:List Nat),(fS f R js).2.length≤R.length+js.length:=by
 induction js with
 |nil=>intro f R;exact Nat.le_refl _
 |cons j js ih=>
  intro f R
  have:=ih (j7 (f,R) j).1 (j7 (f,R) j).2
  refine Nat.le_trans this ?_
  have:(j7 (f,R) j).2.length≤R.length+1:=by
   unfold j7;dsimp only;split
   ·simp
   ·exact Nat.le_succ _
  refine aa List.length_cons ?_;exact(ln 0x8441086615896102c019896000403).1 this
theorem UR (js:List Nat):∀(f:Nat->Int) (R:List Nat) (j:Nat),j∉js->(fS f R js).1 j=f j:=by
 induction js with
 |nil=>intro f R j _;rfl
 |cons x js ih=>
  intro f R j hj
  have h1:j≠x:=λe=>hj (e▸ .head _)
  have:=ih (j7 (f,R) x).1 (j7 (f,R) x).2 j λh=>hj (.tail _ h)
  refine this.trans ?_
  exact bY h1
theorem GS {js:List Nat}{k j:Nat}(h:js[k]?=some j):fS f R (js.take (k+1))=j7 (fS f R (js.take k)) j:=by
 unfold fS
 refine aa (List.take_add_one ..) (aa (h ..) (aa (Option.toList_some ..) (aa (List.foldl_append ..) ?_)))
 rfl
theorem Qa (c:SC)(s:SS)(x y:Addr×(Obj->Prop))(H:Led):(aF c s (x::y::H)).Perm (aF c s (y::x::H)):=by
 refine aa (dO c s (x::y::H)) (aa (dO c s (y::x::H)) ?_)
 exact List.Perm.append_left _ (.swap _ _ _)
theorem aZ.wK (c:SC)(s:SS)(p:aZ a P H H'):aZ a P (aF c s H) (aF c s H'):=by
 refine aa (dO c s H) (aa (dO c s H') ?_)
 exact aZ.app p _
section
variable {G:Gx}{A:Around}{h₀:Heap}{L:Addr}{m:Loc}{H H':Led}{env:Env}{aW:eu}{sd:ju}{c:SC}{s:SS}{i:Nat}{v t u:Tok}
theorem bX.ie (hs:bX s)(hf:∀j,j∉s.ns->f j=0):bX (ie s f):=by
 constructor
 ·exact hs.nd
 ·exact hs.lt
 ·exact λj hj=>⟨hf j hj,(hs.df j hj).2⟩
 ·exact hs.sl
theorem K1 (hi:i∈s.ns):(s.ad.la i,af (sv c.nm (s.aN i)))∈aF c s H:=
 .tail _ (.tail _ (.tail _ (List.mem_append_right _ (List.mem_append_left _ (List.mem_map.mpr ⟨i,hi,rfl⟩)))))
set_option maxHeartbeats 8000000 in
theorem SR (T:aT G.K aW)(X:dN G c)(C:Cx G A h₀ L env)(r:bw A 2)(hs:bX s){rl:Addr}{R:List Nat}(fM:s.rn= .ref rl)(hi:i∈s.ns)(zd:s.np i= -1)(zq:∀j∈dK s i,j∈s.ns)(hz:R.length≤100)
 (h:∀t,Q .none m (aF c (wu (ie s (fS (upd s.np i (-2)) R (dK s i)).1) (s.nf+1) t) ((rl,b8 ((fS (upd s.np i (-2)) R (dK s i)).2.map c.nm))::H))):
 AW (model G.prog G.w) A h₀ L (call (.ref c.sd.done) [.ref c.sx, .str (c.nm i) u] []) Q m (aF c s ((rl,b8 (R.map c.nm))::H)):=by
 refine xE X.ok.d7 λbg d=>?_
 conv at d in(cJ _ _).body=>whnf
 conv at d in(occs:= *) (cJ _ _).scope=>all_goals whnf
 refine E3 (n:=1) (rs:=[.str (c.nm i) u]) (binds:=λD=>[(Str.ofString "self", .ref c.sx),(Str.ofString "nodes", .ref D)]) C r d rfl (λ_ _ _ _ _=>by rfl) (λD=>rfl) λD A1 g L' C1 r1=>?_
 refine bO (m':=[(Str.ofString "nodes", .ref D),(Str.ofString "self", .ref c.sx)]) (by walk_at "aw_subl") ?_
 have aP:(1000:Nat)≤sizeLine:=by decide
 have nq:(100:Int)<2^63:=by decide
 refine cU (H':=aF c s ((rl,b8 (R.map c.nm))::(D,bf [.str (c.nm i) u])::H)) (.perm ((iC c s _ _).trans ?_)) ?_
 ·refine aa (dO c s ..) (aa (dO c s (_::_::H) ..) ?_)
  exact List.Perm.append_left _ (.swap _ _ _)
 refine jf ?_
 walk_at "awo"
 refine mV X C1 (by refine aa fM ?_;rfl) ?_
 refine aa fM ?_
 walk_at "awo"
 refine p8 ?_
 walk_at "awo"
 refine aa (show(Value.ref rl==Value.none)=false from rfl) ?_
 walk_at "awo"
 refine FA X C1 ?_
 walk_at "awo"
 refine je ?_
 walk_at "awo"
 refine x7 (c8 (.tail _ (.head _))) λit=>?_
 refine xE (show∃F,F=fS (upd s.np i (-2)) R (dK s i) from⟨_,rfl⟩) λF hF=>?_
 rw[<-hF] at h
 refine iN (zF C1.hh) (λk m' H'=>SubL [(Str.ofString "n2i", .ref c.n2),(Str.ofString "nodes", .ref D),(Str.ofString "self", .ref c.sx)] m'∧
  ((k=0∧H'=aF c s ((rl,b8 (R.map c.nm))::(D,bf [.str (c.nm i) u])::H))∨(k=1∧∃t,H'=aF c (wu (ie s F.1) (s.nf+1) t) ((rl,b8 (F.2.map c.nm))::(D,bf [.str (c.nm i) u])::H))))
  (λk m' H' hI=>by obtain ⟨_,⟨_,rfl⟩|⟨_,_,rfl⟩⟩:=hI<;>exact c8 (.tail _ (.head _))) ?_ ?_ 0 (Nat.zero_le _) ⟨by walk_at "aw_subl", .inl ⟨rfl,rfl⟩⟩
 ·intro k J hJ v m1 H1 hk hv N9;refine xA N9 λhm hh=>?_;clear N9
  obtain rfl:k=0:=by simpa using hk
  obtain rfl:v= .str (c.nm i) u:=by exact(Option.some.inj hv.symm)
  obtain rfl:H1=aF c s ((rl,b8 (R.map c.nm))::(D,bf [.str (c.nm i) u])::H):=by
   rcases hh with⟨_,e⟩|⟨e,_⟩
   ·exact e
   ·cases e
  refine bO hm ?_
  refine bQ ?_
  walk_at "awo"
  refine dQ (iC c s _ _) ?_
  generalize BX:((D,bf [.str (c.nm i) u])::H:Led)=R0
  refine FE ?_
  refine rO ?_
  walk_at "awo"
  have hD:∀{H':Led},di G.prog G.w c.n2 (cW c.nm s.ad s.ns) (aF c s H'):=by
   intro H'
   have:=EO c s H'
   rw[X.pr,X.ww] at this
   exact this
  refine A3 hD PySem.F.slot_dict_get (by rfl) ?_
  refine cF ?_
  walk_at "awo"
  refine E7 hD ?_
  refine aa (Ak (C3 X.ij hs) hi) (aa Option.getD_some ?_)
  refine jg ?_
  walk_at "awo"
  refine p8 ?_
  walk_at "awo"
  refine aa (show(Value.ref (s.ad.ia i)==Value.none)=false from rfl) ?_
  walk_at "awo"
  refine ya X C1 hs hi λts=>?_
  walk_at "awo"
  refine xE X.ok.Bl λtb hb=>?_
  refine cI C1 hb ?_
  refine aa zd ?_
  walk_at "awo"
  refine aa (show((-1:Int) != -1)=false from rfl) ?_
  walk_at "awo"
  refine xE X.ok.Gg λtb2 iS=>?_
  refine cI C1 iS ?_
  walk_at "awo"
  refine yb X C1 hs hi ?_
  have jE:bX (ir s i (-2)):=hs.np hi _
  refine dQ (Qa c _ _ _ _) ?_
  walk_at "awo"
  refine je ?_
  walk_at "awo"
  refine F6 (s:=ir s i (-2)) X C1 jE hi ?_
  refine gZ (vs:=sv c.nm (s.aN i)) (.inl (K1 (s:=ir s i (-2)) hi)) λpC=>?_
  refine xE (show∃f0,f0=upd s.np i (-2) from⟨_,rfl⟩) λf0 B8=>?_
  have XK:(sv c.nm (s.aN i)).length=(dK s i).length:=by unfold sv dK;exact aa (List.length_map ..) (aa (List.length_map ..) rfl)
  have XF:(dK s i).length≤100:=by unfold dK;refine aa (List.length_map ..) ?_;exact hs.sl i
  refine iN (gw (vs:=sv c.nm (s.aN i)) C1.hh) (λk m' H'=>SubL [(Str.ofString "nodeinfo", .ref (s.ad.ia i)),(Str.ofString "node", .str (c.nm i) u),(Str.ofString "n2i", .ref c.n2),(Str.ofString "nodes", .ref D),(Str.ofString "self", .ref c.sx)] m'∧
   H'=aF c (ie s (fS f0 R ((dK s i).take k)).1) ((rl,b8 ((fS f0 R ((dK s i).take k)).2.map c.nm))::(it,iM D (0+1))::R0))
   (λk m' H' hI=>by refine xA hI λ_ zr58=>?_;clear hI;subst zr58;exact .inl (K1 (c:=c) (s:=ie s (fS f0 R ((dK s i).take k)).1) hi)) ?_ ?_ 0 (Nat.zero_le _) ⟨by walk_at "aw_subl",?_⟩
  ·intro k J hJ v m2 H2 hk hv Om;refine xA Om λdH zr59=>?_;clear Om;subst zr59
   have jD:k<(s.aN i).length:=by unfold sv at hk;rwa [List.length_map] at hk
   refine n6 (show∃j tj,(s.aN i)[k]=(j,tj) from⟨_,_,rfl⟩) λj tj hj=>?_
   obtain rfl:v= .str (c.nm j) tj:=by
    unfold sv at hv
    rw[List.getElem?_map,List.getElem?_eq_getElem jD,hj] at hv
    cases hv;rfl
   have vq:(dK s i)[k]?=some j:=by unfold dK;refine aa (List.getElem?_map) (aa (List.getElem?_eq_getElem jD) (aa hj ?_));rfl
   have lN:j∈s.ns:=zq j (List.mem_of_getElem? vq)
   have hq:=UQ ((dK s i).take k) f0 R
   rw[List.length_take] at hq
   have H7:∀q,q∉s.ns->(fS f0 R ((dK s i).take k)).1 q=0:=λq hq=>by
    refine aa (UR _ _ _ _ λhm=>hq (zq q (List.mem_of_mem_take hm))) (aa B8 (aa (bY λe=>hq (by rw[e];exact hi)) ?_))
    exact(hs.df q hq).1
   generalize hB:fS f0 R ((dK s i).take k)=B at*
   obtain ⟨f,Rk⟩:=B
   dsimp only at H7 hq
   have qO:bX (ie s f):=hs.ie H7
   refine bO dH ?_
   refine bQ ?_
   walk_at "awo"
   refine dQ (iC c _ _ _) ?_
   refine FD X qO lN ?_
   walk_at "awo"
   refine ya X C1 qO lN λt1=>?_
   walk_at "awo"
   refine Ry λt2=>?_
   refine yb X C1 qO lN ?_
   have zm:=qO.np (i:=j) lN (f j-1)
   walk_at "awo"
   refine ya (s:=ir (ie s f) j (f j-1)) X C1 zm lN λt3=>?_
   walk_at "awo"
   have e1:(ir (ie s f) j (f j-1)).np j=f j-1:=cD
   refine aa e1 ?_
   by_cases h0:f j-1=0
   ·have e2:j7 (f,Rk) j=(upd f j (f j-1),Rk++[j]):=by unfold j7;exact aa (if_pos h0) rfl
    refine qT ((by rw[h0];rfl)) ?_
    walk_at "awo"
    refine mV (s:=ir (ie s f) j (f j-1)) X C1 (by show handedIn s.rn=true;refine aa fM ?_;rfl) ?_
    refine aa (show(ir (ie s f) j (f j-1)).rn= .ref rl from fM) ?_
    refine cU (H':=(rl,b8 (Rk.map c.nm))::aF c (ir (ie s f) j (f j-1)) ((pC,fu (s.ad.la i) (k+1))::(it,iM D (0+1))::R0)) (LE.trans (.pick (.wK c _ (.tail .head))) (.perm (.refl _))) ?_
    refine ye λus ko=>?_
    have kj:=ko.length
    rw[List.length_map] at kj
    refine iO (.head _) PySem.F.slot_list_append PySem.F.type_list_append ?_
    refine cF ?_
    walk_at "awo"
    refine jL (by exact(ln 0x10842008020088210842008021088210842108400194cb2004612c801905f98c01fa05f9806417e6201807).1 hz aP XF hq kj (Eq.refl (min k (dK s i).length))) ?_
    refine i8 ?_
    refine cU (H':=aF c (ir (ie s f) j (f j-1)) ((pC,fu (s.ad.la i) (k+1))::(rl,b8 ((Rk++[j]).map c.nm))::(it,iM D (0+1))::R0)) ?_ ?_
    ·refine LE.trans (.pred λo hp=>(⟨_,by have:=ko.snoc (c.nm j) tj;refine aa (show List.map c.nm (Rk++[j])=List.map c.nm Rk++[c.nm j] by simp) ?_;exact this,hp⟩:b8 ((Rk++[j]).map c.nm) o)) (.perm ((iC c _ _ _).trans ?_))
     refine aa (dO c _ (_::_::_)) (aa (dO c _ (_::_::_)) ?_)
     exact List.Perm.append_left _ (.swap _ _ _)
    walk_at "awo"
    refine fU (oz c _ _ _ _) (hJ ⟨by walk_at "aw_subl",?_⟩)
    refine aa (GS vq) (aa hB (aa e2 ?_));rfl
   ·have e2:j7 (f,Rk) j=(upd f j (f j-1),Rk):=by unfold j7;exact aa (if_neg h0) rfl
    refine qS ((by simpa using h0)) ?_
    walk_at "awo"
    refine fU (oz c _ _ _ _) (hJ ⟨by walk_at "aw_subl",?_⟩)
    refine aa (GS vq) (aa hB (aa e2 ?_));rfl
  ·intro m2 H2 OC;refine xA OC λdH zr60=>?_;clear OC;subst zr60
   refine aa XK (aa List.take_length ?_)
   refine bO dH ?_
   walk_at "awo"
   refine FH X C1 ?_
   walk_at "awo"
   refine x6 λtn=>?_
   refine Si X C1 ?_
   walk_at "awo"
   refine fU (aZ.wK c _ (.tail .head)) (hJ ⟨by walk_at "aw_subl", .inr ⟨rfl,tn,?_⟩⟩)
   subst hF B8 BX
   rfl
  ·refine aa List.take_zero (aa B8 ?_)
   rfl
 ·intro m1 H1 OO;refine xA OO λhm hh=>?_;clear OO
  refine xE (show∃t,H1=aF c (wu (ie s F.1) (s.nf+1) t) ((rl,b8 (F.2.map c.nm))::(D,bf [.str (c.nm i) u])::H) from by
   rcases hh with⟨e,_⟩|⟨_,e⟩
   ·cases e
   ·exact e) λt zr61=>?_;subst zr61
  refine cU ((LE.pick (aZ.wK c _ (.tail .head))).trans .drop) ?_
  walk_at "awo"
  exact h t
end
end
section
noncomputable def bW {α:Type}(M:Model)(A:Around)(fs:List Addr)(h₀:Heap)(L:Addr)(t:Sem α)(Q:Heap->α->Loc->Led->Prop)(m:Loc)(H:Led):Prop:=
 ∀(s:Shared) (R:α->Shared->Prop) (E:Value->Shared->Prop),St h₀ L s.heap m H->
  (∀g a m' H' h' aB,KtsTurn fs h₀ g->St g L h' m' H'->Q g a m' H'->R a {s with heap:=h',toks:=aB})->wpAny M A t R E s
noncomputable def Ez (M:Model)(A:Around)(fs:List Addr)(h₀:Heap)(L:Addr)(c:Code)(Q:Heap->Flow->Loc->Led->Prop)(m:Loc)(H:Led):Prop:=
 ∀(s:Shared) (R:Result->Shared->Prop),St h₀ L s.heap m H->
  (∀g f m' H' h' aB,KtsTurn fs h₀ g->St g L h' m' H'->Q g f m' H'->R (.ok f) {s with heap:=h',toks:=aB})->codeAny M A c R s
noncomputable abbrev d9 (outer:List Env):List Addr:=outer.filterMap (·.frame)
structure iA (G:Gx)(A₀:Around)(base:Heap)(outer:List Env)(h₀:Heap)(L:Addr)(env:Env):Prop where
 below:Below A₀ base outer h₀
 fr:env.frame=some L
 kd:env.scope.kind= .function
 hh:A₀.handled=none
 XB:G.K.In base
 TB:Top G.p G.loose G.mean G.mg G.mb base
 D:KtsDicts (d9 outer) h₀
section
variable {G:Gx}{A A₀:Around}{base h₀ g:Heap}{outer:List Env}{L:Addr}{env:Env}{m:Loc}{H:Led}{M:Model}{fs:List Addr}{α:Type}
theorem iA.cx (C:iA G A₀ base outer h₀ L env):Cx G (A₀.deeper env) h₀ L env:=
 ⟨⟨A₀,base,outer,C.below,Around.frames_deeper C.below.stack⟩,C.fr,C.kd,C.hh,C.XB.keeps C.below.stays,C.TB.keeps C.below.stays⟩
theorem iA.turn (C:iA G A₀ base outer h₀ L env)(T:KtsTurn (d9 outer) h₀ g):iA G A₀ base outer g L env where
 below:=⟨C.below.stack,λb o e=>T.other b o (C.below.stays b o e) (λhm=>by rw[(C.below.frames.mem hm).1] at e;cases e),C.below.frames.of_keeps λb o e _=>by
  refine xE (T.up e) λsl hs=>?_
  exact⟨_,hs,rfl⟩⟩
 fr:=C.fr
 kd:=C.kd
 hh:=C.hh
 XB:=C.XB
 TB:=C.TB
 D:=C.D.turn T
theorem awt_eqH (e:H=H')(h:bW M A fs h₀ L t Q m H'):bW M A fs h₀ L t Q m H:=e▸h
theorem uJ (h:AW M A h₀ L t (λa m H=>Q h₀ a m H) m H):bW M A fs h₀ L t Q m H:=λs R E S k=>
 h s R E S λa m' H' h' aB S' q=>k h₀ a m' H' h' aB .refl S' q
theorem awt_mono (h:bW M A fs h₀ L t Q m H)(hQ:∀g a m H,KtsTurn fs h₀ g->Q g a m H->Q' g a m H):bW M A fs h₀ L t Q' m H:=λs R E S k=>
 h s R E S λg a m' H' h' aB T S' q=>k g a m' H' h' aB T S' (hQ _ _ _ _ T q)
theorem yg (p:LE H H')(h:bW M A fs h₀ L t Q m H'):bW M A fs h₀ L t Q m H:=λs R E S k=>h s R E (p _ _ _ _ S) k
theorem rU (p:SubL m' m)(h:bW M A fs h₀ L t Q m' H):bW M A fs h₀ L t Q m H:=λs R E S k=>h s R E (S.loc p) k
noncomputable def DI (M:Model)(A:Around)(fs:List Addr)(L:Addr)(env:Env)(rest:List Stmt)(Q:Heap->Flow->Loc->Led->Prop):Heap->Flow->Loc->Led->Prop:=λg f m H=>match f with
 | .next=>bW M A fs g L (execs rest env) Q m H
 |f=>Q g f m H
theorem rV (h:Q h₀ .next m H):bW M A fs h₀ L (execs [] env) Q m H:=uJ (gF h)
theorem mX {st rest}{Q:Heap->Flow->Loc->Led->Prop}(h:bW M A fs h₀ L (exec st env) (DI M A fs L env rest Q) m H):bW M A fs h₀ L (execs (st::rest) env) Q m H:=
 λs R E S k=>wpAny_execs_cons (h s _ E S λg f m' H' h' aB T S' q=>by
  cases f with
  |next=>exact q _ R E S' λg2 a iH fK eT fZ T2 iB q'=>k g2 a iH fK eT fZ (T.trans T2) iB q'
  |brk=>exact k g _ m' H' h' aB T S' q
  |cont=>exact k g _ m' H' h' aB T S' q
  |ret v=>exact k g _ m' H' h' aB T S' q)
theorem kQ {st rest}{Q:Heap->Flow->Loc->Led->Prop}(h:AW M A h₀ L (exec st env) (λf m H=>DI M A fs L env rest Q h₀ f m H) m H):bW M A fs h₀ L (execs (st::rest) env) Q m H:=mX (uJ h)
theorem Gb
 (h:AW M A h₀ L (isTrue test env (eval test env)) (λb m H=>if b=true then bW M A fs h₀ L (execs body env) Q m H else bW M A fs h₀ L (execs orelse env) Q m H) m H):
 bW M A fs h₀ L (exec (.If test body orelse pos) env) Q m H:=
 λs R E S k=>wpAny_If (h s _ E S λb m' H' h' aB S' q=>by
  cases b with
  |true=>exact q _ R E S' λg a iH fK eT fZ T iB q'=>k g a iH fK eT fZ T iB q'
  |false=>exact q _ R E S' λg a iH fK eT fZ T iB q'=>k g a iH fK eT fZ T iB q')
noncomputable def ZL (I:Nat->Loc->Led->Prop)(n:Nat)(Q:Heap->Flow->Loc->Led->Prop):Heap->Flow->Loc->Led->Prop:=λg f m H=>match f with
 | .next| .cont=>∃k,k<n∧I k m H
 | .brk=>Q g .next m H
 | .ret v=>Q g (.ret v) m H
theorem Ge (I:Nat->Loc->Led->Prop)
 (turn:∀n (J:Nat->Loc->Led->Prop),(∀{k m H},I k m H->J k m H)->∀g m H,KtsTurn fs h₀ g->I n m H->AW (model prog w) A g L (isTrue test env (eval test env)) (λb m H=>if b=true then bW (model prog w) A fs g L (execs body env) (ZL J n Q) m H
  else bW (model prog w) A fs g L (execs orelse env) Q m H) m H)
 (n:Nat)(h:I n m H):bW (model prog w) A fs h₀ L (exec (.While test body orelse pos) env) Q m H:=by
 intro s R E S k
 refine wpAny_While (codeAny_whileLoop (A:=A.mark none) (λn s'=>∃g m H h' aB,s'={s with heap:=h',toks:=aB}∧KtsTurn fs h₀ g∧St g L h' m H∧I n m H) (λn s' hI=>?_) n ⟨h₀,m,H,_,_,rfl, .refl,S,h⟩)
 refine Mu hI λg1 m1 H1 h1 aX zr67 T1 S1 i1=>?_;clear hI;subst zr67
 have e:A.mark none=A:=by cases A;simp[Around.mark]
 refine aa e ?_
 refine turn n I id g1 m1 H1 T1 i1 _ _ _ S1 λb m2 H2 h2 bC S2 q2=>?_
 cases b with
 |true=>
  refine q2 _ _ _ S2 λg3 f m3 H3 h3 aR T3 S3 q3=>?_
  cases f with
  |next=>refine ah q3 λj hj ij=>?_;clear q3;exact⟨j,hj,g3,m3,H3,h3,aR,rfl,T1.trans T3,S3,ij⟩
  |cont=>refine ah q3 λj hj ij=>?_;clear q3;exact⟨j,hj,g3,m3,H3,h3,aR,rfl,T1.trans T3,S3,ij⟩
  |brk=>exact k g3 _ m3 H3 h3 aR (T1.trans T3) S3 q3
  |ret v=>exact k g3 _ m3 H3 h3 aR (T1.trans T3) S3 q3
 |false=>exact q2 _ _ _ S2 λg3 f m3 H3 h3 aR T3 S3 q3=>k g3 _ m3 H3 h3 aR (T1.trans T3) S3 q3
noncomputable def Vy (it:Addr)(P:Obj->Prop)(I:Loc->Led->Prop)(Q:Heap->Flow->Loc->Led->Prop):Heap->Flow->Loc->Led->Prop:=λg f m H=>match f with
 | .next| .cont=>∃H',aZ it P H H'∧I m H'
 | .brk=>Q g .next m H
 | .ret v=>Q g (.ret v) m H
theorem TX
 (h:AW (model prog w) A h₀ L (eval iter env) (λx m H=>AW (model prog w) A h₀ L (pyIter x) (λit m H=>Ez (model prog w) A fs h₀ L (.forLoop target it body orelse env) Q m H) m H) m H)
 (hs:∀x,foldedSetIterable iter env x=pure x:=by intro _;with_unfolding_all rfl):bW (model prog w) A fs h₀ L (exec (.For target iter body orelse pos) env) Q m H:=λs R E S k=>by
 refine wpAny_For (h s _ E S λx m1 H1 h1 aX S1 q1=>q1 _ _ E S1 λit m2 H2 h2 bC S2 q2=>?_) hs
 exact q2 _ _ S2 λg f m3 H3 h3 aR T3 S3 q3=>k g _ m3 H3 h3 aR T3 S3 q3
theorem Qn
 (O:∀g,jJ prog w A g L it P n item cS)(I:Nat->Loc->Led->Prop)(dep:∀i m H,I i m H->cS H)
 (turn:∀i (J:Loc->Led->Prop),(∀{m H},I (i+1) m H->J m H)->∀g v m H,KtsTurn fs h₀ g->i<n->item i v->I i m H->AW (model prog w) A g L (assign target env v) (λ_ m H=>bW (model prog w) A fs g L (execs body env) (Vy it (P (i+1)) J Q) m H) m ((it,P (i+1))::H))
 (fin:∀g m H,KtsTurn fs h₀ g->I n m H->bW (model prog w) A fs g L (execs orelse env) Q m H)(k7:Nat)(Ci:k7≤n)(h:I k7 m H):
 Ez (model prog w) A fs h₀ L (.forLoop target (.ref it) body orelse env) Q m ((it,P k7)::H):=λs R S k=>by
 refine codeAny_forLoop_any (λj s'=>∃i g m H h' aB,i≤n∧j=n-i∧s'={s with heap:=h',toks:=aB}∧KtsTurn fs h₀ g∧St g L h' m ((it,P i)::H)∧I i m H) (λj s' hI=>?_) (n-k7) ⟨k7,h₀,m,H,_,_,Ci,rfl,rfl, .refl,S,h⟩
 refine xEEEEEEAAAAA hI λi g1 m1 H1 h1 aX hi zr68 zr69 T1 S1 i1=>?_;clear hI;subst zr68;subst zr69
 by_cases aC:i<n
 ·refine(O g1).tE aC (dep _ _ _ i1) S1 λv hv h2 bC S2=>?_
  refine Ac ((O g1).go (i+1) v m1 H1 target _ ⟨rfl,rfl⟩) S2 λ_ h3 aR S3=>?_
  refine turn i (I (i+1)) id g1 v m1 H1 T1 aC hv i1 _ _ _ S3 λ_ m4 H4 h4 iw S4 q4=>?_
  refine q4 _ _ _ S4 λg5 f m5 H5 h5 gT T5 S5 q5=>?_
  cases f with
  |next=>refine ah q5 λH' p iv=>?_;clear q5;exact⟨n-(i+1),by exact Nat.sub_lt_sub_left ‹_› (Nat.lt_succ_self _),i+1,g5,m5,H',h5,gT,aC,rfl,rfl,T1.trans T5,S5.perm p.perm,iv⟩
  |cont=>refine ah q5 λH' p iv=>?_;clear q5;exact⟨n-(i+1),by exact JS aC (Eq.refl (n-i)) (Eq.refl (n-(i+1))),i+1,g5,m5,H',h5,gT,aC,rfl,rfl,T1.trans T5,S5.perm p.perm,iv⟩
  |brk=>exact k g5 _ m5 H5 h5 gT (T1.trans T5) S5 q5
  |ret v=>exact k g5 _ m5 H5 h5 gT (T1.trans T5) S5 q5
 ·obtain rfl:i=n:=by exact zR hi aC
  refine iu ((O g1).done m1 H1 _ (dep _ _ _ i1) ⟨rfl,rfl,rfl⟩) S1 λh2 bC S2=>?_
  exact fin g1 m1 H1 T1 i1 _ _ _ S2 λg3 f m3 H3 h3 aR T3 S3 q3=>k g3 _ m3 H3 h3 aR (T1.trans T3) S3 q3
noncomputable def kJ {α:Type}(M:Model)(A:Around)(h₀:Heap)(L:Addr)(t:Sem α)(Q:α->Loc->Led->Prop)(X:Loc->Led->Prop)(m:Loc)(H:Led):Prop:=
 ∀(s:Shared) (R:α->Shared->Prop) (E:Value->Shared->Prop),St h₀ L s.heap m H->
  (∀a m' H' h' aB,St h₀ L h' m' H'->Q a m' H'->R a {s with heap:=h',toks:=aB})->
  (∀e m' H' hm h' aB,St h₀ L hm m' H'->Heap.NewExc hm h' e "StopIteration"->X m' H'->E (.ref e) {s with heap:=h',toks:=aB})->wpAny M A t R E s
theorem awe_of (h:AW M A h₀ L t Q m H):kJ M A h₀ L t Q X m H:=λs R E S k _=>h s R E S k
end
end
section
open PyProof.Rows.TI
theorem Hh:∀(l:List Addr) (h:Heap),(gone h l).objs.size=h.objs.size
 |[],_=>rfl
 |b::r,h=>by
  show((gone h r).update b _).objs.size=h.objs.size
  refine aa (Heap.size_after_update ..) ?_
  exact Hh r h
theorem Hf:∀{outer:List Env},h₀.FunFrames base outer->KtsDicts (d9 outer) h₀->∃frs,Frs outer frs∧(∀p∈frs,h₀.get? p.1=some p.2∧base.get? p.1=none)
 |[],_,_=>⟨[],trivial,λ_ h=>nomatch h⟩
 |env::outer,hl,D=>by
  refine cP hl λhk zr78 hr=>?_;clear hl;refine rB zr78 λL o hf hn ho hd=>?_
  have hm:∀b,b∈d9 outer->b∈d9 (env::outer):=λb hb=>by
   show b∈List.filterMap _ (env::outer)
   refine aa List.filterMap_cons (aa hf ?_)
   exact .tail _ hb
  refine ah (Hf (outer:=outer) hr λb hb=>D b (hm b hb)) λfrs F h1=>?_
  refine cE (D L (by show L∈List.filterMap _ (env::outer);refine aa List.filterMap_cons (aa hf ?_);exact .head _)) λo' es n gu ff=>?_
  rw[ho] at gu
  cases gu
  exact⟨(L,o)::frs,⟨hk,hf,⟨es,n,ff⟩,F⟩,λp hp=>by
   rcases List.mem_cons.mp hp with rfl|hp
   ·exact⟨ho,hn⟩
   ·exact h1 p hp⟩
section
variable {G:Gx}{bZ:Around}{base h₀:Heap}{outer:List Env}{L a:Addr}{m:Loc}{H:Led}{name:Str}{scope:Scope}{cd:Value}
set_option maxHeartbeats 2000000 in
theorem T6 (fC:scope.kind= .function)
 (C:iA G bZ base outer h₀ L (envX name scope L a cd []))(hx:x=Str.ofString "StopIteration")(ex:nsIn G.K mainGlobals x=some none)
 (h:kJ (model G.prog G.w) (bZ.deeper (envX name scope L a cd [])) h₀ L (execs body (envX name scope L a cd [])) (λf m H=>Q h₀ f m H)
  (λm H=>∀g e,KtsTurn (d9 outer) h₀ g->AW (model G.prog G.w) ((bZ.deeper (envX name scope L a cd [])).mark (some (.ref e))) g L (execs (Uj::suite) (envX name scope L a cd [])) (λf m H=>Q g f m H) m H) m H)
 (CO:(envOf name scope L a cd).kindOf x=some .globalImplicit):
 bW (model G.prog G.w) (bZ.deeper (envX name scope L a cd [])) (d9 outer) h₀ L (exec (.Try body [.ExceptHandler (some (.Name x np)) none (Uj::suite) g8] [] [] pos) (envX name scope L a cd [])) Q m H:=by
 intro s R E S k
 refine wpAny_Try_except (h s _ _ S (λf m' H' h' aB S' q=>?_) λe m' H' hm h' aB S' bF q=>?_)
 ·cases f with
  |next=>exact wpAny_execs_nil (k h₀ _ m' H' h' aB .refl S' q)
  |brk=>exact k h₀ _ m' H' h' aB .refl S' q
  |cont=>exact k h₀ _ m' H' h' aB .refl S' q
  |ret v=>exact k h₀ _ m' H' h' aB .refl S' q
 ·refine ah (Hf C.below.frames C.D) λfrs Fs yO=>?_
  have yI:d9 outer=frs.map (·.1):=Fs.addrs
  refine ah S'.fr λmf F gm=>?_
  let hb:=gone h₀ (d9 outer)
  have ny:∀b o,hb.get? b=some o->b∉d9 outer∧h₀.get? b=some o:=λb o e=>gone_some e
  have HT:∀b o,h₀.get? b=some o->b∉d9 outer->hb.get? b=some o:=λb o e hn=>(gone_get hn).trans e
  have st:∀b o,base.get? b=some o->hb.get? b=some o:=λb o e=>HT b o (C.below.stays b o e) λhm=>by
   rw[(C.below.frames.mem hm).1] at e;cases e
  have Fb:Fr hb L hm mf:=⟨F.ns,λb o e=>F.keep b o (ny b o e).2,by refine aa (show hb.objs.size=h₀.objs.size from Hh _ _) ?_;exact F.above⟩
  have nL:h₀.get? L=none:=kts_self F
  have Nb:News hb L hm (raw hm H'++frs):=λp hp=>by
   rcases List.mem_append.mp hp with hp|hp
   ·refine cP (S'.news p hp) λn1 n2 n3=>?_
    refine⟨n1,n2,?_⟩
    cases q:hb.get? p.1 with
    |none=>rfl
    |some o=>rw[(ny _ _ q).2] at n3;cases n3
   ·refine xA (yO p hp) λn1 n2=>?_
    refine⟨F.keep _ _ n1,λe=>?_,gone_none (by refine aa yI ?_;exact List.mem_map.mpr ⟨p,hp,rfl⟩)⟩
    rw[e,nL] at n1;cases n1
  have V4:∀p∈raw hm H',p.1∉L::frs.map (·.1):=λp hp iE=>by
   refine cP (S'.news p hp) λn1 n2 n3=>?_
   rcases List.mem_cons.mp iE with e|iE
   ·exact n2 e
   ·refine ah (List.mem_map.mp iE) λq hq e=>?_
    have:=(yO q hq).1
    rw[show q.1=p.1 from e,n3] at this
    cases this
  have Qi:G.K.In hb:=C.XB.keeps st
  have Qc:Top G.p G.loose G.mean G.mg G.mb hb:=C.TB.keeps st
  show wpAny _ (bZ.deeper (envOf name scope L a cd)) (noteFrame (.ref e) (envOf name scope L a cd)) _ _ _
  refine TLg.noted_newA (frs:=frs) (new:=raw hm H') C.below.stack Fs bF Fb Nb V4 (λh₁ frs₁ SU Fs₁ Hd=>?_) fC
  refine Hd.land λsV AM=>?_
  subst hx
  refine wpAny_handleBy_builtin (X:="StopIteration") (T:="StopIteration") (b:=true) (isSubtype_of_subB (by decide+kernel)) (isSubtype_of_subB (by decide+kernel)) (isSubtype_of_subB (by decide+kernel))
   (name_B AM.held.fr Qi (topRead_of Qc) ex Ue (by decide) ⟨rfl,AM.isA,?_⟩ fC CO (by decide))
  refine qT (rfl) ?_
  refine AM.lands λqR EF EK=>?_
  refine xA (kts_turn_at (h:=qR) (fs:=d9 outer) (g:=h₀) (λb jw=>by
   rw[yI] at jw
   obtain ⟨p,hp,rfl⟩:=List.mem_map.mp jw
   exact⟨_,(yO p hp).1⟩)
   (λb o e hn=>EF.keep b o (HT b o e hn))
   (λb o e iE=>by
    rw[yI] at iE
    obtain ⟨p,hp,rfl⟩:=List.mem_map.mp iE
    obtain ⟨sl,aP⟩:=SU.back p hp
    have h1:=(EK _ (List.mem_append_right _ aP)).1
    have h2:=(yO p hp).1
    rw[e] at h2
    cases h2
    exact⟨sl,h1⟩)) λT Kp=>?_
  have pY:St (ktsHeap qR (d9 outer) h₀) L qR m' H':=by
   refine⟨⟨mf,⟨EF.ns,Kp,by refine aa T.size ?_;exact F.above⟩,gm⟩,λp hp=>?_,S'.nd⟩
   refine j4 (S'.nw p hp) λo e1 e2 e3 e4=>?_
   have h1:=(EK (p.1,(hm.get? p.1).getD default) (List.mem_append_left _ (List.mem_map.mpr ⟨p,hp,rfl⟩))).1
   exact⟨o,by refine aa h1 (aa e1 ?_);rfl,e2,e3,T.none_ _ e4⟩
  exact q _ e T _ _ _ pY λf m4 H4 h4 iw S4 q4=>k _ _ m4 H4 h4 iw T S4 q4
end
end
section
@[reducible] noncomputable def Vx (fs:List Addr)(h₀:Heap)(Q:Heap->Value->Loc->Led->Prop)(m:Loc):Heap->Flow->Loc->Led->Prop:=λ_ fl _ H'=>∀g',KtsTurn fs h₀ g'->Q g' (match fl with| .ret v=>v|_=> .none) m H'
section
variable {G:Gx}{bZ:Around}{base h₀:Heap}{outer:List Env}{L:Addr}{m:Loc}{H:Led}{env:Env}
set_option maxHeartbeats 2000000 in
theorem Bh
 (C:iA G bZ base outer h₀ L env)(r:bw (bZ.deeper env) (n+1))(D:lE G.K f name qual params body scope bg)
 (nv:∀kV doc pm an ct,bindArgs (fnOf name qual params body scope .none kV doc pm an bg ct) ⟨vs,kw⟩=pure binds)(nC:(binds.all λx=>decide (scope.names.lookup x.1=some .local))=true)
 (h:∀g L',iA G (bZ.deeper env) base (env::outer) g L' (envX qual scope L' f bg [])->bw ((bZ.deeper env).deeper (envX qual scope L' f bg [])) n->
  bW (model G.prog G.w) ((bZ.deeper env).deeper (envX qual scope L' f bg [])) (d9 (env::outer)) g L' (execs body (envX qual scope L' f bg []))
  (Vx (d9 outer) h₀ Q m) binds.reverse H)
 (kT:scope.isCoroutine=false:=by with_unfolding_all rfl)(kW:scope.isGenerator=false:=by with_unfolding_all rfl)(hk:scope.kind= .function:=by with_unfolding_all rfl)(nA:∀x∈scope.names,x.2≠ .cell:=by decide):
 bW (model G.prog G.w) (bZ.deeper env) (d9 outer) h₀ L (call (.ref f) vs kw) Q m H:=λs R E S k=>by
 have C0:=C.cx
 refine ah S.fr λmf F gm=>?_
 refine wZ D.at' λoc od jX kV doc pm an ct ho=>?_
 have X:G.K.In s.heap:=C0.X.keeps F.keep
 have hA:(bZ.deeper env).frames=some (env::outer):=Around.frames_deeper C.below.stack
 obtain ⟨FG,BG,st,-⟩:=groundX (R:=λ_ _=>True) C.below F S.news hA C.fr C.kd
 refine wpAny_call (codeAny_call_def (fd:=fnOf name qual params body scope .none kV doc pm an bg ct) (body:=body) (binds:=binds) r.depth (X _ _ ho) rfl (C0.T.nolimit.keeps F.keep) (codeRec_of X D.code) rfl (.of_eq (nv _ _ _ _ _)) nA (locs nC) (λh₁ iF IE=>?_) kT kW hk)
 generalize hg:hideAll s.heap ((raw s.heap H).map (·.1))=g at FG BG st
 have WQ:∀b o,g.get? b=some o->s.heap.get? b=some o:=λb o e=>by rw[<-hg] at e;exact of_hideAll _ e
 have yQ:g.objs.size=s.heap.objs.size:=by refine aa (Eq.symm hg) ?_;exact hideAll_size _ _
 have uY:∃oL es ep,g.get? L=some oL∧oL.data= .dict es ep:=by
  refine wX FG.ns λoL es ep hL BW _=>?_
  exact⟨oL,es,ep,hL,BW⟩
 refine cE uY λoL es ep uY BW=>?_
 have nL:h₀.get? L=none:=kts_self F
 have Ij:∀b,b∈d9 (env::outer)->b=L∨b∈d9 outer:=λb hb=>by
  have:d9 (env::outer)=L::d9 outer:=by show List.filterMap _ (env::outer)=_;exact aa List.filterMap_cons (aa C.fr rfl)
  rw[this] at hb
  exact List.mem_cons.mp hb
 have CF:iA G (bZ.deeper env) base (env::outer) g s.heap.objs.size (envX qual scope s.heap.objs.size f bg []):=by
  refine⟨BG,rfl,hk,C.hh,C.XB,C.TB,λb hb=>?_⟩
  rcases Ij b hb with rfl|hb
  ·exact⟨oL,es,ep,uY,BW⟩
  ·refine cE (C.D b hb) λo BI n' gu ff=>?_
   exact⟨o,BI,n',st b o gu,ff⟩
 have S1:St g s.heap.objs.size h₁ binds.reverse H:=by
  refine⟨⟨_,⟨iF,λb o e=>IE b o (WQ b o e),Nat.le_of_eq yQ⟩,λx v e=>by refine aa (Eq.symm (tB ..)) ?_;exact e⟩,λq hq=>?_,S.nd⟩
  refine j4 (S.nw q hq) λo e1 e2 e3 e4=>?_
  exact⟨o,IE _ _ e1,e2,Nat.ne_of_lt (Heap.lt_size e1),by refine aa (Eq.symm hg) ?_;exact hideAll_none _ (List.mem_map_of_mem (List.mem_map.mpr ⟨q,hq,rfl⟩))⟩
 refine h g s.heap.objs.size CF r.down _ _ _ S1 λg' fl m' H' h' aB T' S' q=>?_
 refine ah S'.fr λmf' F' _=>?_
 refine xE (T'.up uY) λsl hs=>?_
 refine xA (kts_turn_at (h:=h') (fs:=d9 outer) (g:=h₀)
  (λb hb=>by
   obtain ⟨_,o,gu,_⟩:=C.below.frames.mem hb
   exact⟨o,gu⟩)
  (λb o e nmem=>F'.keep b o (T'.other b o (st b o e) (λhq=>by
   rcases Ij b hq with z|z
   ·rw[z,nL] at e;cases e
   ·exact nmem z)))
  (λb o e hm=>by
   obtain ⟨nY,pn⟩:=T'.up (st b o e)
   exact⟨nY,F'.keep _ _ pn⟩)) λAU PV=>?_
 have S2:St (ktsHeap h' (d9 outer) h₀) L h' m H':=by
  refine⟨⟨mf,⟨?_,PV,by refine aa AU.size ?_;exact F.above⟩,gm⟩,λp hp=>?_,S'.nd⟩
  ·refine wX FG.ns λoL' BI Vq Hx r1 r2=>?_
   rw[uY] at Hx
   cases Hx
   exact⟨_,BI,Vq,F'.keep _ _ hs,r1,r2⟩
  ·refine j4 (S'.nw p hp) λo e1 e2 e3 e4=>?_
   refine⟨o,e1,e2,λe=>?_,AU.none_ _ ?_⟩
   ·rw[e,hs] at e4;cases e4
   ·cases hq:h₀.get? p.1 with
    |none=>rfl
    |some o'=>
     refine xE (T'.up (st _ _ hq)) λnY pn=>?_
     rw[e4] at pn
     cases pn
 exact k _ _ m H' h' aB AU S2 (q _ AU)
theorem Sp (h:bW M A [] h₀ L t (λ_ a m H=>Q a m H) m H):AW M A h₀ L t Q m H:=λs R E S k=>by
 refine h s R E S λg a m' H' h' aB T S' q=>k a m' H' h' aB ?_ q
 obtain ⟨⟨mf,F,gm⟩,nw,nd⟩:=S'
 refine⟨⟨mf,⟨F.ns,λb o e=>F.keep b o (T.other b o e (by simp)),by refine aa (Eq.symm T.size) ?_;exact F.above⟩,gm⟩,λp hp=>?_,nd⟩
 refine j4 (nw p hp) λo e1 e2 e3 e4=>?_
 refine⟨o,e1,e2,e3,?_⟩
 cases hq:h₀.get? p.1 with
 |none=>rfl
 |some o'=>rw[T.other _ _ hq (by simp)] at e4;cases e4
end
end
section
noncomputable def lH (l:Addr)(i:Nat):Obj->Prop:=λo=>o={cls:= .type "list_iterator",data:= .fields #[.ref l, .int i 0]}
noncomputable def mO (it:Addr):Obj->Prop:=λo=>o={cls:= .type "method-wrapper",data:= .fields #[.builtin "list_iterator.__next__", .ref it]}
theorem C7:Slot "list_iterator" "__getattribute__" "object.__getattribute__":=
 .of (owner:="object") (n:="__getattribute__") (by refine aa (typeLookup_type ..) (aa (builtinLookup_eq_fast ..) ?_);kernel_rfl) (by decide+kernel) (by decide+kernel) (by decide+kernel)
  (.inl (by decide+kernel)) (by refine aa (isSubtype_type ..) ?_;kernel_rfl)
theorem YJ:entryFor table "object.__getattribute__"=some Builtin.«object.__getattribute__»:=entryFor_of_tree (by kernel_rfl)
theorem YL:typeLookup (.type "list_iterator") "__next__"=pure (some (.builtin "list_iterator.__next__")):=slot_listiter_next.lookup
theorem zL:typeOf (.builtin "list_iterator.__next__")=pure (.type "wrapper_descriptor"):=by show builtinType _=_;refine aa builtinType_eq_fast ?_;kernel_rfl
theorem wd_get:typeLookup (.type "wrapper_descriptor") "__get__"=pure (some (.builtin "wrapper_descriptor.__get__")):=by refine aa (typeLookup_type ..) (aa (builtinLookup_eq_fast ..) ?_);kernel_rfl
theorem wd_set:typeLookup (.type "wrapper_descriptor") "__set__"=pure none:=by refine aa (typeLookup_type ..) (aa (builtinLookup_eq_fast ..) ?_);kernel_rfl
theorem wd_delete:typeLookup (.type "wrapper_descriptor") "__delete__"=pure none:=by refine aa (typeLookup_type ..) (aa (builtinLookup_eq_fast ..) ?_);kernel_rfl
theorem wd_slot:Slot "wrapper_descriptor" "__get__" "wrapper_descriptor.__get__":=
 .of (owner:="wrapper_descriptor") (n:="__get__") (by refine aa (typeLookup_type ..) (aa (builtinLookup_eq_fast ..) ?_);kernel_rfl) (by decide+kernel) (by decide+kernel) (by decide+kernel)
  (.inl (by decide+kernel)) (by refine aa (isSubtype_type ..) ?_;kernel_rfl)
theorem wd_entry:entryFor table "wrapper_descriptor.__get__"=some Builtin.«wrapper_descriptor.__get__»:=entryFor_of_tree (by kernel_rfl)
theorem wd_args (a b c:Value):argsOk "wrapper_descriptor.__get__" ⟨[a,b,c],[]⟩:=by unfold argsOk;kernel_rfl
theorem li_sub:isSubtype (.type "list_iterator") (.type "list_iterator")=pure true:=by refine aa (isSubtype_type ..) ?_;kernel_rfl
theorem li_sub_o:isSubtype (.type "list_iterator") (.type "object")=pure true:=by refine aa (isSubtype_type ..) ?_;kernel_rfl
theorem YK:typeLookup (.type "list_iterator") "__getattr__"=pure none:=by refine aa (typeLookup_type ..) (aa (builtinLookup_eq_fast ..) ?_);kernel_rfl
theorem YH (a b:Value):argsOk "object.__getattribute__" ⟨[a,b],[]⟩:=by unfold argsOk;kernel_rfl
section
variable {prog:Program}{w:World}{A:Around}{h₀:Heap}{L l it:Addr}{m:Loc}{H:Led}{vs:List Value}
theorem Rz (x:(l,af vs)∈H)(h:∀it,Q (.ref it) m ((it,lH l 0)::H)):AW (model prog w) A h₀ L (call (.builtin "iter") [.ref l]) Q m H:=λs R E S k=>by
 refine ah (S.get x) λo e p=>?_
 refine call_function_entry (by decide+kernel) (by decide+kernel) kdk_entry_iter (kdk_args_iter _) ?_
 unfold Builtin.«iter»
 refine wpAny_bind (m:=someArgs "iter" 1 2 _) (wpAny_of_eq (a:=[Value.ref l]) (by first|rfl|kernel_rfl!) ?_)
 show wpAny _ _ (pyIter (.ref l)>>=_) _ _ _
 refine wpAny_bind (wpAny_pyIter_list (p.isList e) ?_)
 exact wpAny_pure ⟨_,rfl,k _ m _ _ _ (S.cL (P:=lH l 0) rfl) (h _)⟩
theorem VF (hx:s.heap.get? it=some {cls:= .type "list_iterator",data:= .fields #[.ref l, .int i 0]})
 (h:∀tk,Q (.ref s.heap.objs.size) {s with heap:=s.heap.push {cls:= .type "method-wrapper",data:= .fields #[.builtin "list_iterator.__next__", .ref it]},toks:=tk}):
 wpAny (model prog w) A (getAttr (.ref it) (Str.ofString "__next__") expr) Q E s:=by
 obtain ⟨hp,g,d,tk,os⟩:=s
 have hT:∀aB,(⟨hp,g,d,aB,os⟩:Shared).TypeIs (.ref it) "list_iterator":=λ_=>⟨_,hx,rfl⟩
 have f3:=C7.lookup
 have f4:=C7.bind (.ref it)
 have f5:=YK
 unfold getAttr getAttrBy
 repeat (any_goals (first|assumption|exact hT _|(refine aa (if_neg (show¬(expr&&onTheHeap (Value.builtin "object.__getattribute__"))=true by cases expr<;>decide)) ?_)|((with_reducible show wpAny _ _ (call (Value.builtin "object.__getattribute__") _ _) _ _ _);refine wpAny_call_entry C7 (hT _) YJ ?_ (YH _ _))|wp_step))
 refine wpAny_of_eq YL ?_
 refine wpAny_bind (m:=Builtin.ObjectAttr.getOf _) ?_
 show wpAny _ _ (typeOf (.builtin "list_iterator.__next__")>>=λt=>typeLookup t "__get__") _ _ _
 refine wpAny_bind (wpAny_of_eq zL (wpAny_of_eq wd_get ?_))
 refine wpAny_bind (m:=Builtin.ObjectAttr.dataDescriptor? _ _) ?_
 show wpAny _ _ (Builtin.ObjectAttr.takesStores (.builtin "list_iterator.__next__")>>=λb=>if b then pure (some (Value.builtin "wrapper_descriptor.__get__",Value.builtin "list_iterator.__next__")) else pure none) _ _ _
 refine wpAny_bind ?_
 show wpAny _ _ ((typeOf (.builtin "list_iterator.__next__")>>=λt=>typeLookup t "__set__")>>=_) _ _ _
 refine wpAny_bind (wpAny_bind (wpAny_of_eq zL (wpAny_of_eq wd_set ?_)))
 show wpAny _ _ ((typeOf (.builtin "list_iterator.__next__")>>=λt=>typeLookup t "__delete__")>>=_) _ _ _
 refine wpAny_bind (wpAny_bind (wpAny_of_eq zL (wpAny_of_eq wd_delete ?_)))
 refine wpAny_pure (wpAny_pure ?_)
 dsimp only at hx
 repeat (first|(fail_if_success (with_reducible show wpAny _ _ (call _ _ _) _ _ _));lk)
 refine wpAny_call_entry wd_slot (T:="wrapper_descriptor") ?_ wd_entry ?_ (wd_args _ _ _)
 ·exact zL
 unfold Builtin.«wrapper_descriptor.__get__»
 repeat lk
 exact⟨_,rfl,wpAny_pure ⟨_,rfl,handed_on rfl (h _)⟩⟩
theorem YI (it:Addr):checkBoundCall "list_iterator.__next__" ⟨[.ref it],[]⟩=pure ():=by kernel_rfl
theorem JQ:plainId "list_iterator.__next__"=true:=by decide+kernel
theorem wrap_call (ho:s.heap.get? p=some {cls:= .type "method-wrapper",data:= .fields #[.builtin "list_iterator.__next__", .ref it]})
 (h:wpAny (model prog w) A.in1 (Builtin.«list_iterator.__next__» ⟨[.ref it],[]⟩) (λfin s'=>match fin with| .done f=>R (.ok f) s'| .again c'=>c'.quiet=true∧codeAny (model prog w) A c' R s') (λe s'=>R (.error e) s') s):
 codeAny (model prog w) A (.call (.ref p) ⟨[],[]⟩) R s:=by
 obtain ⟨hh,g,d,t,os⟩:=s
 refine codeAny_of_tree ?_
 show wpAny _ _ (callAny (.ref p) _) _ _ _
 dsimp only at ho
 refine nd_load ho ?_
 show wpAny _ _ (checkBoundCall "list_iterator.__next__" ⟨[.ref it],[]⟩>>=λ_=>again (.builtin "list_iterator.__next__" ⟨[.ref it],[]⟩)) _ _ _
 refine aa (YI ..) ?_
 refine wpAny_bind (wpAny_pure (wpAny_pure ⟨plainId_quiet JQ _,codeAny_builtin entry_listiter_next ?_⟩))
 refine aa (Around.under_plainId JQ _) ?_
 exact h
end
end
section
section
variable {prog:Program}{w:World}{A:Around}{h₀:Heap}{L l it mw:Addr}{m:Loc}{H:Led}{vs:List Value}{env:Env}
theorem Sh (x:(it,lH l i)∈H)(h:∀mw,Q (.ref mw) m ((mw,mO it)::H)):AW (model prog w) A h₀ L (getAttr (.ref it) (Str.ofString "__next__") expr) Q m H:=λs R E S k=>by
 refine ah (S.get x) λo e p=>?_
 obtain rfl:o=_:=p
 exact VF e λtk=>k _ m _ _ _ (S.cL (P:=mO it) rfl) (h _)
set_option maxHeartbeats 1000000 in
theorem TP (hh:A.handled=none)(x:(mw,mO it)∈H)(y:(l,af vs)∈H)
 (h1:∀v,vs[i]?=some v->Q v m ((it,lH l (i+1))::H))(h2:vs[i]?=none->X m H):
 kJ (model prog w) A h₀ L (call (.ref mw) []) Q X m ((it,lH l i)::H):=λs R E S k kx=>by
 refine ah (S.get (.head _)) λo ho p=>?_
 obtain rfl:o=_:=p
 refine ah (S.get (.tail _ x)) λom em pm=>?_
 obtain rfl:om=_:=pm
 refine xE (S.lst (.tail _ y)) λnl el=>?_
 refine wpAny_call (wrap_call em ?_)
 show wpAny _ _ (field (.ref it) 0>>=_) _ _ s
 refine wpAny_bind (wpAny_field ho rfl (x:= .ref l) rfl ?_)
 show wpAny _ _ (if(Value.ref l==Value.none)=true then _ else _) _ _ s
 refine aa (if_neg (show¬((Value.ref l==Value.none)=true) from Bool.false_ne_true)) ?_
 show wpAny _ _ (field (.ref it) 1>>=_) _ _ s
 refine wpAny_bind (wpAny_field ho rfl (x:= .int i 0) rfl ?_)
 show wpAny _ _ (seqItems? (.ref l)>>=_) _ _ s
 refine wpAny_bind (wpAny_seqItems el rfl ?_)
 cases hx:vs[i]? with
 |some v=>
  have sP:vs.toArray[i]?=some v:=by refine aa (List.getElem?_toArray) ?_;exact hx
  simp only [Int.toNat_natCast,sP]
  refine wpAny_bind (wpAny_setField ho rfl (by exact Nat.le_refl _) (wpAny_pure ?_))
  refine k _ m _ _ _ (S.upd (Heap.SameBut.update ..) (Heap.get?_update_self _ ho (Obj.isFreed_of_fields (Obj.data_mapFields rfl _))) ?_) (h1 v hx)
  rfl
 |none=>
  have sP:vs.toArray[i]?=none:=by refine aa (List.getElem?_toArray) ?_;exact hx
  simp only [Int.toNat_natCast,sP]
  refine wpAny_bind (wpAny_rule (wpAny_bind (wpAny_setField ho rfl (by simp) ?_)))
  show wpAny _ _ (newExc (.type "StopIteration") []>>=_) _ _ _
  refine wpAny_bind ?_
  simp only [newExc,newTuple]
  refine wpAny_bind (wpAny_newObj_type ?_ (by size_fits))
  refine wpAny_bind (m:=firstArgMember _ _) (wpAny_of_eq (a:=Value.none) (by first|rfl|(simp only [firstArgMember];rfl)) ?_)
  refine wpAny_newObj_type ?_ (by size_fits)
  simp only [raiseNew]
  refine wpAny_bind (wpAny_handled ?_)
  refine aa (show A.in1.handled=none from hh) ?_
  refine wpAny_bind (wpAny_pure (wpAny_throw ?_))
  have Xu:ownMembersOf (.type "StopIteration") []= #[]:=by kernel_rfl
  refine aa Xu ?_
  have S1:St h₀ L (s.heap.update it (Obj.mapFields λx=>x.setIfInBounds 0 Value.none)) m H:=S.ext (Heap.SameBut.update ..).extBut
  have hn:∀(g:Heap) (o1:Obj),g.get? (g.push o1).objs.size=none:=λg o1=>Heap.get?_none_of_le (by refine aa (Heap.size_push ..) ?_;exact Nat.le_succ _)
  refine kx _ m H _ _ _ S1 ⟨λb o e=>Heap.get?_push_of_some _ (Heap.get?_push_of_some _ e),hn _ _,⟨_,_,Heap.get?_push_size _ rfl,rfl,rfl⟩⟩ (h2 hx)
end
end
section
section
variable {prog:Program}{w:World}{M:Model}{A:Around}{h₀:Heap}{L l it mw:Addr}{m:Loc}{H:Led}{vs:List Value}{env:Env}
theorem TH
 (h:AW M A h₀ L (eval func env) (λf m H=>kJ M A h₀ L (callWith pos f [] (backTo pos (starEach args env)) []) Q X m H) m H)
 (he:eval (.Call func args [] pos) env=(do callWith pos (<-eval func env) [] (backTo pos (starEach args env)) (backToKw pos (keywordEach [] env))):=by with_unfolding_all rfl):
 kJ M A h₀ L (eval (.Call func args [] pos) env) Q X m H:=
 λs R E S k kx=>Call_ (h s _ E S λa m1 H1 h1 aX S1 q1=>q1 _ _ E S1 (λc m3 H3 h3 aR S3 q3=>k _ m3 H3 h3 aR S3 q3) λe m3 H3 hm h3 aR S3 ne q3=>kx e m3 H3 hm h3 aR S3 ne q3) he
theorem ZH (e:h.get? mw=some {cls:= .type "method-wrapper",data:= .fields #[.builtin "list_iterator.__next__", .ref it]}):Looks M h (keeperOf (.ref mw)) .machine:=
 (Looks.ld (part:=none) e).andThen .now
theorem TJ (x:(mw,mO it)∈H)(h:kJ M A h₀ L (call (.ref mw) []) Q X m H):
 kJ M A h₀ L (callWith pos (.ref mw) [] (backTo pos (starEach [] env)) []) Q X m H:=λs R E S k kx=>by
 refine ah (S.get x) λom em pm=>?_
 obtain rfl:om=_:=pm
 exact callWith_of (P:=λh=>h.get? mw=some {cls:= .type "method-wrapper",data:= .fields #[.builtin "list_iterator.__next__", .ref it]}) rfl (λh e=>⟨.machine, .inr (.inl rfl),ZH e⟩) (evalArgs_nil3 ⟨em,h s R E S k kx⟩)
theorem TN
 (h:kJ M A h₀ L (eval value env) (λv m H=>AW M A h₀ L (storeName env x v) (λ_ m H=>AW M A h₀ L (execs rest env) Q m H) m H) X m H)
 (hs:swapsWith value (some (.Name x pos')) pos.line env=pure false:=by with_unfolding_all rfl):kJ M A h₀ L (execs (.Assign [.Name x pos'] value pos::rest) env) Q X m H:=
 λs R E S k kx=>wpAny_execs_cons (wpAny_Assign_Name (h s _ E S (λv m1 H1 h1 aX S1 q1=>q1 _ _ E S1 λ_ m2 H2 h2 bC S2 q2=>q2 _ R E S2 k) kx) hs)
theorem TM (p:LE H H')(h:kJ M A h₀ L t Q X m H'):kJ M A h₀ L t Q X m H:=λs R E S k kx=>h s R E (p _ _ _ _ S) k kx
end
end
section
noncomputable def mK (prog:Program)(w:World)(S:Str->Bool)(n:Nat):Obj->Prop:=λo=>o.SetObjOf (strKind prog w) S n
section
variable {prog:Program}{w:World}{A:Around}{h₀:Heap}{L sa:Addr}{m:Loc}{H H':Led}{S:Str->Bool}{n:Nat}{x:Str}{t:Tok}{env:Env}
theorem SX (h:∀D,Q (.ref D) m ((D,mK prog w (λ_=>false) 0)::H)):AW (model prog w) A h₀ L (call (.type "set") []) Q m H:=λs R E St k=>by
 exact call_set_0 λled=>k _ m _ _ _ (St.cL (P:=mK prog w (λ_=>false) 0) (setObjOf_fresh (knd:=PySem.strKind prog w) led)) (h _)
theorem SW (p:aZ sa (mK prog w S n) H H')(hb:n<scanBound)(h:Q (.builtin "set.add",[.ref sa]) m H):
 AW (model prog w) A h₀ L (getMethod (.ref sa) (Str.ofString "add") pl) Q m H:=λs R E St k=>by
 have pX:=St.perm p.perm
 refine ah (pX.get (.head _)) λo e ho=>?_
 have N:=pX.news
 unfold raw at N
 rw[List.map_cons] at N
 dsimp only at N
 rw[e] at N
 exact kse_method N (.head pX.wH) ho hb (k _ m H _ _ St h)
theorem FY (p:aZ sa (mK prog w S n) H H')(hb:n<scanBound)(dh:(Value.str x t).scannable=true)(h:Q (.bool (S x)) m H):
 AW (model prog w) A h₀ L (compareOp .In (.str x t) (.ref sa)) Q m H:=λs R E St k=>by
 have pX:=St.perm p.perm
 refine ah (pX.get (.head _)) λo e ho=>?_
 have N:=pX.news
 unfold raw at N
 rw[List.map_cons] at N
 dsimp only at N
 rw[e] at N
 exact kse_in N (.head pX.wH) ho hb (strKind_is _ _ _ _) dh (k _ m H _ _ St h)
theorem SV (hb:n+1<scanBound)(dh:(Value.str x t).scannable=true)(h:Q .none m ((sa,mK prog w (λk'=>S k'||decide (k'=x)) (if S x then n else n+1))::H)):
 AW (model prog w) A h₀ L (call (.builtin "set.add") [.ref sa, .str x t]) Q m ((sa,mK prog w S n)::H):=λs R E St k=>by
 refine ah (St.get (.head _)) λo e ho=>?_
 refine ah St.fr λmf F gm=>?_
 have N:=St.news
 unfold raw at N
 rw[List.map_cons] at N
 dsimp only at N
 rw[e] at N
 exact kse_add F N (.head St.wH) ho hb (strKind_is _ _ _ _) dh λh' so' F' N' hs=>k _ m _ h' _ (St.DZ F' gm N' hs) h
end
end
section
structure Fm where
 i:Nat
 t:Tok
 mw:Addr
 it:Addr
 pos:Nat
noncomputable def FL (la:Nat->Addr):List Fm->Led->Led
 |[],H=>H
 |f::fr,H=>(f.mw,mO f.it)::(f.it,lH (la f.i) f.pos)::FL la fr H
theorem xM (la:Nat->Addr):∀(fr:List Fm) (H:Led),FL la fr H=FL la fr []++H
 |[],H=>rfl
 |f::fr,H=>by
  show(_::_::FL la fr H)=(_::_::FL la fr [])++H
  refine aa (xM la fr H) ?_;rfl
theorem rK (h:x∈H):x∈FL la fr H:=by
 refine aa (xM ..) ?_;exact List.mem_append_right _ h
noncomputable def fy (c:SC)(s:SS)(ep:Nat)(H:Led):Led:=(c.sx,gg c.sd.ts c.gA [])::(c.gA,ez (attrs c.n2 s.rn s.po s.nf s.t s.u))::(c.n2,dM c.prog c.w c.n2 (cW c.nm s.ad s.ns) ep)::NL c.sd c.nm s.np s.aN s.ad s.ns H
theorem EN (c:SC)(s:SS)(ep:Nat)(H:Led):LE (fy c s ep H) (aF c s H):=by
 refine .trans (.perm ((List.Perm.cons _ (.swap _ _ _)).trans (.swap _ _ _))) (.trans (.pred λo h=>h.GU) (.perm ?_))
 exact((List.Perm.swap _ _ _).trans (List.Perm.cons _ (.swap _ _ _)))
section
variable {G:Gx}{A:Around}{h₀:Heap}{L:Addr}{m:Loc}{H H':Led}{env:Env}{c:SC}{s:SS}{i:Nat}{v t u:Tok}{ep:Nat}
theorem Fc (X:dN G c)(h:∀ep,AW M A h₀ L tr Q m (fy c s ep H)):AW M A h₀ L tr Q m (aF c s H):=by
 refine bu (.tail (.tail .head)) ?_
 refine Q7 λep=>?_
 refine dQ (List.Perm.trans (.swap _ _ _) (List.Perm.cons _ (.swap _ _ _))) (h ep)
theorem eN (hi:i∈s.ns):(s.ad.ia i,iK c.sd.ni (s.ad.da i) (c.nm i) (s.np i) (s.ad.la i))∈fy c s ep H:=
 .tail _ (.tail _ (.tail _ (wF (sd:=c.sd) (nm:=c.nm) (np:=s.np) (aN:=s.aN) (ad:=s.ad) (H:=H) hi).mem))
theorem eD (hi:i∈s.ns):(s.ad.da i,ez [])∈fy c s ep H:= .tail _ (.tail _ (.tail _ (memD hi)))
theorem eL (hi:i∈s.ns):(s.ad.la i,af (sv c.nm (s.aN i)))∈fy c s ep H:=
 .tail _ (.tail _ (.tail _ (List.mem_append_right _ (List.mem_append_left _ (List.mem_map.mpr ⟨i,hi,rfl⟩)))))
theorem eH (h:x∈H):x∈fy c s ep H:= .tail _ (.tail _ (.tail _ (List.mem_append_right _ (List.mem_append_right _ (List.mem_append_right _ h)))))
theorem oQ (X:dN G c):(c.n2,dM G.prog G.w c.n2 (cW c.nm s.ad s.ns) ep)∈fy c s ep H:=by
 have:(c.n2,dM c.prog c.w c.n2 (cW c.nm s.ad s.ns) ep)∈fy c s ep H:= .tail _ (.tail _ (.head _))
 rw[X.pr,X.ww] at this
 exact this
theorem uq (c:SC)(s:SS)(ep:Nat)(H:Led):fy c s ep H=fy c s ep []++H:=by
 unfold fy NL
 simp only [List.append_nil,List.cons_append,List.append_assoc]
theorem aZ.slE (p:aZ a P H H'):aZ a P (fy c s ep H) (fy c s ep H'):=by
 refine aa (uq c s ep H) (aa (uq c s ep H') ?_)
 exact aZ.app p _
theorem PZ (c:SC)(s:SS)(ep:Nat)(x:Addr×(Obj->Prop))(H:Led):(x::fy c s ep H).Perm (fy c s ep (x::H)):=by
 refine aa (uq c s ep H) (aa (uq c s ep (x::H)) ?_)
 exact List.perm_middle.symm
theorem Sj (X:dN G c)(C:Cx G A h₀ L env)(hp:(s.ad.ia i,iK c.sd.ni (s.ad.da i) (c.nm i) (s.np i) (s.ad.la i))∈H)(hd:(s.ad.da i,ez [])∈H)
 (h:∀t,Q (.str (c.nm i) t) m H):AW (model G.prog G.w) A h₀ L (getAttr (.ref (s.ad.ia i)) (Str.ofString "node") expr) Q m H:=by
 intro S R E St k
 refine tZ (St.get hp) λo e t u p=>?_
 refine ah (St.get hd) λod ed _=>?_
 refine pS X.ok.s0.ex λq a1 a2 a3 a4 a5 a6 a7=>?_
 refine get_bind (C.X.keeps St.keep) (p.inst e ed) X.ok.gH.ga (findObj_data a7 a1 a2 a3) X.ok.gH.gk (wpAny_call (slot_get (s:={S with toks:=S.toks+1}) (C.X.keeps St.keep) (p.inst e ed) a4 (v:= .str (c.nm i) t) ?_ (handed_on rfl (k _ m _ _ _ St (h _)))))
 obtain rfl:o=_:=p
 rfl
theorem So (X:dN G c)(C:Cx G A h₀ L env)(hp:(s.ad.ia i,iK c.sd.ni (s.ad.da i) (c.nm i) (s.np i) (s.ad.la i))∈H)(hd:(s.ad.da i,ez [])∈H)
 (h:∀t,Q (.int (s.np i) t) m H):AW (model G.prog G.w) A h₀ L (getAttr (.ref (s.ad.ia i)) (Str.ofString "npredecessors") expr) Q m H:=by
 intro S R E St k
 refine tZ (St.get hp) λo e t u p=>?_
 refine ah (St.get hd) λod ed _=>?_
 refine pS X.ok.s1.ex λq a1 a2 a3 a4 a5 a6 a7=>?_
 refine get_bind (C.X.keeps St.keep) (p.inst e ed) X.ok.gH.ga (findObj_data a7 a1 a2 a3) X.ok.gH.gk (wpAny_call (slot_get (s:={S with toks:=S.toks+1}) (C.X.keeps St.keep) (p.inst e ed) a4 (v:= .int (s.np i) u) ?_ (handed_on rfl (k _ m _ _ _ St (h _)))))
 obtain rfl:o=_:=p
 rfl
theorem Tj (X:dN G c)(C:Cx G A h₀ L env)(hp:(s.ad.ia i,iK c.sd.ni (s.ad.da i) (c.nm i) (s.np i) (s.ad.la i))∈H)(hd:(s.ad.da i,ez [])∈H)
 (h:Q (.ref (s.ad.la i)) m H):AW (model G.prog G.w) A h₀ L (getAttr (.ref (s.ad.ia i)) (Str.ofString "successors") expr) Q m H:=by
 intro S R E St k
 refine tZ (St.get hp) λo e t u p=>?_
 refine ah (St.get hd) λod ed _=>?_
 refine pS X.ok.s2.ex λq a1 a2 a3 a4 a5 a6 a7=>?_
 refine get_bind (C.X.keeps St.keep) (p.inst e ed) X.ok.gH.ga (findObj_data a7 a1 a2 a3) X.ok.gH.gk (wpAny_call (slot_get (s:={S with toks:=S.toks+1}) (C.X.keeps St.keep) (p.inst e ed) a4 (v:= .ref (s.ad.la i)) ?_ (handed_on rfl (k _ m _ _ _ St h))))
 obtain rfl:o=_:=p
 rfl
theorem Fz (X:dN G c)(C:Cx G A h₀ L env)(hx:(c.sx,gg c.sd.ts c.gA [])∈H)(hd:(c.gA,ez (attrs c.n2 s.rn s.po s.nf s.t s.u))∈H)(h:Q (.ref c.n2) m H):AW (model G.prog G.w) A h₀ L (getAttr (.ref c.sx) (Str.ofString "_node2info") expr) Q m H:=
 p7 (v:= .ref c.n2) C X.ok.g7 X.ok.o0 hx hd rfl rfl h
end
end
section
noncomputable def jZ (w:Nat->Nat)(sn:List Nat):List Nat->Nat
 |[]=>0
 |i::ns=>(if i∈sn then 0 else w i)+jZ w sn ns
theorem Mf (w:Nat->Nat)(hx:x∉sn):∀{ns:List Nat},ns.Nodup->x∈ns->jZ w (sn++[x]) ns+w x=jZ w sn ns
 |[],_,h=>nomatch h
 |i::ns,hn,h=>by
  have za:=List.nodup_cons.mp hn
  show(if i∈sn++[x] then 0 else w i)+jZ w (sn++[x]) ns+w x=(if i∈sn then 0 else w i)+jZ w sn ns
  by_cases e:i=x
  ·subst e
   have e2:jZ w (sn++[i]) ns=jZ w sn ns:=by
    have:∀l:List Nat,i∉l->jZ w (sn++[i]) l=jZ w sn l:=by
     intro l
     induction l with
     |nil=>intro _;rfl
     |cons j l ih=>
      intro hj
      have h1:j≠i:=λe=>hj (e▸ .head _)
      show(if j∈sn++[i] then 0 else w j)+jZ w (sn++[i]) l=(if j∈sn then 0 else w j)+jZ w sn l
      refine aa (ih λh=>hj (.tail _ h)) ?_
      simp[h1]
    exact this ns za.1
   refine aa e2 (aa (if_pos (by simp)) (aa (if_neg hx) ?_))
   simp+arith
  ·have ih:=Mf w hx za.2 (by
    rcases List.mem_cons.mp h with h|h
    ·exact absurd h.symm e
    ·exact h)
   have:(i∈sn++[x])↔i∈sn:=by simp[e]
   simp only [this]
   exact(ln 0x21104011042302c4102d621882b10404).1 ih
noncomputable def r6 (s:SS):List Fm->Nat
 |[]=>0
 |f::fr=>((s.aN f.i).length-f.pos+1)+r6 s fr
noncomputable def jt (s:SS)(sn:List Nat)(fr:List Fm):Nat:=jZ (λi=>(s.aN i).length+2) sn s.ns+r6 s fr
noncomputable def lu (nm:Nat->Str)(sn:List Nat):Str->Bool:=λx=>sn.any λi=>decide (nm i=x)
theorem snS_add (nm:Nat->Str)(sn:List Nat)(i:Nat):(λk'=>lu nm sn k'||decide (k'=nm i))=lu nm (sn++[i]):=by
 funext k
 unfold lu
 refine aa List.any_append ?_
 simp only [List.any_cons,List.any_nil,Bool.or_false]
 congr 1
 by_cases h:k=nm i
 ·exact aa (decide_eq_true h) (aa (decide_eq_true h.symm) rfl)
 ·exact aa (decide_eq_false h) (aa (decide_eq_false λe=>h e.symm) rfl)
theorem DS (dg:lF nm)(hs:∀i∈sn,i<12)(hx:x<12):lu nm sn (nm x)=decide (x∈sn):=by
 rw[Bool.eq_iff_iff]
 unfold lu
 rw[List.any_eq_true,decide_eq_true_iff]
 constructor
 ·intro Nl;refine ah Nl λi hi e=>?_;clear Nl
  have:=dg i (hs i hi) x hx (of_decide_eq_true e)
  exact this▸hi
 ·intro h
  exact⟨x,h,decide_eq_true rfl⟩
noncomputable def CL (G:Gx)(c:SC)(s:SS)(ep:Nat)(ls li ss dd:Addr)(sn:List Nat)(fr:List Fm)(kvs:List (Str×Value))(R:Led):Led:=
 (ls,af (fr.reverse.map λf=> .str (c.nm f.i) f.t))::(li,af (fr.reverse.map λf=> .ref f.mw))::(dd,aK G.prog G.w dd kvs)::(ss,mK G.prog G.w (lu c.nm sn) sn.length)::FL s.ad.la fr (fy c s ep R)
structure CI (c:SC)(s:SS)(rk:Nat->Nat)(sn:List Nat)(fr:List Fm)(kvs:List (Str×Value)):Prop where
 nd:sn.Nodup
 sub:∀i∈sn,i∈s.ns
 fs:∀f∈fr,f.i∈s.ns
 pw:fr.Pairwise λa b=>rk b.i<rk a.i
 kv:kvs.map (·.1)=fr.reverse.map λf=>c.nm f.i
section
variable {c:SC}{s:SS}{rk:Nat->Nat}{sn:List Nat}{fr:List Fm}{kvs:List (Str×Value)}{ep:Nat}{ls li ss dd:Addr}{R:Led}
theorem CI.len (h:CI c s rk sn fr kvs)(hs:bX s):sn.length≤12:=nO h.nd λi hi=>hs.lt i (h.sub i hi)
theorem CI.G9 (h:CI c s rk sn fr kvs)(hs:bX s):fr.length≤12:=by
 have:(fr.map (·.i)).Nodup:=List.pairwise_map.mpr (h.pw.imp λ{a b} e=>λq=>by rw[q] at e;exact Nat.lt_irrefl _ e)
 have:=nO this λi hi=>by
  refine ah (List.mem_map.mp hi) λf hf zr92=>?_;subst zr92
  exact hs.lt _ (h.fs f hf)
 rwa [List.length_map] at this
theorem CI.push (h:CI c s rk sn fr kvs)(hx:x∈s.ns)(qQ:x∉sn)(hr:∀f∈fr,rk f.i<rk x):CI c s rk (sn++[x]) (⟨x,t,mw,ia,0⟩::fr) (kvs++[(c.nm x,v)]):=by
 constructor
 ·refine List.nodup_append.mpr ⟨h.nd,by simp,λa ha b hb=>?_⟩
  rw[List.mem_singleton] at hb
  subst hb
  exact λe=>qQ (e▸ha)
 ·intro i hi
  rcases List.mem_append.mp hi with hi|hi
  ·exact h.sub i hi
  ·rw[List.mem_singleton] at hi;subst hi;exact hx
 ·intro f hf
  rcases List.mem_cons.mp hf with rfl|hf
  ·exact hx
  ·exact h.fs f hf
 ·exact List.pairwise_cons.mpr ⟨hr,h.pw⟩
 ·refine aa List.map_append (aa h.kv (aa List.reverse_cons (aa List.map_append ?_)));rfl
theorem PX (hs:bX s)(hx:x∈s.ns)(qQ:x∉sn):jt s (sn++[x]) (⟨x,t,mw,ia,0⟩::fr)<jt s sn fr:=by
 have:=Mf (λi=>(s.aN i).length+2) qQ hs.nd hx
 unfold jt
 show jZ _ (sn++[x]) s.ns+((s.aN x).length-0+1+r6 s fr)<_
 exact(ln 0x100401104010040110421191630cc4b5816104c22510530ac0b10805).1 this (Eq.refl ((s.aN x).length-0))
theorem PO (G:Gx):((ls,af (fr.reverse.map (λf=>Value.str (c.nm f.i) f.t)++[Value.str (c.nm x) t]))::(dd,aK G.prog G.w dd (kvs++[(c.nm x,v)]))::(li,af (fr.reverse.map (λf=>Value.ref f.mw)++[Value.ref mw]))::
 (mw,mO ia)::(ia,lH (s.ad.la x) 0)::(ss,mK G.prog G.w (lu c.nm (sn++[x])) (sn.length+1))::FL s.ad.la fr (fy c s ep R)).Perm (CL G c s ep ls li ss dd (sn++[x]) (⟨x,t,mw,ia,0⟩::fr) (kvs++[(c.nm x,v)]) R):=by
 unfold CL
 refine aa List.reverse_cons (aa List.map_append (aa List.map_append (aa List.length_append ?_)))
 refine List.Perm.cons _ ((List.Perm.swap _ _ _).trans (List.Perm.cons _ (List.Perm.cons _ ?_)))
 exact List.perm_append_comm_assoc [(mw,mO ia),(ia,lH (s.ad.la x) 0)] [_] _
theorem CI.step (h:CI c s rk sn (f::fr) kvs):CI c s rk sn (⟨f.i,f.t,f.mw,f.it,f.pos+1⟩::fr) kvs:=by
 constructor
 ·exact h.nd
 ·exact h.sub
 ·intro b hb
  rcases List.mem_cons.mp hb with rfl|hb
  ·exact h.fs f (.head _)
  ·exact h.fs b (.tail _ hb)
 ·exact List.pairwise_cons.mpr ⟨(List.pairwise_cons.mp h.pw).1,(List.pairwise_cons.mp h.pw).2⟩
 ·refine aa h.kv (aa List.reverse_cons (aa List.map_append (aa List.reverse_cons (aa List.map_append ?_))));rfl
theorem PY (h:f.pos<(s.aN f.i).length):jt s sn (⟨f.i,f.t,f.mw,f.it,f.pos+1⟩::fr)<jt s sn (f::fr):=by
 unfold jt
 show _+((s.aN f.i).length-(f.pos+1)+1+r6 s fr)<_+((s.aN f.i).length-f.pos+1+r6 s fr)
 exact(ln 0x100020104010800008022080200002008821084819956b02c8198d6b02c21989611a8412a82208c06).1 h (Eq.refl ((s.aN f.i).length-f.pos)) (Eq.refl ((s.aN f.i).length-(f.pos+1)))
theorem PS (G:Gx)(f:Fm):((f.it,lH (s.ad.la f.i) (f.pos+1))::(ls,af ((f::fr).reverse.map λf=> .str (c.nm f.i) f.t))::(li,af ((f::fr).reverse.map λf=> .ref f.mw))::(dd,aK G.prog G.w dd kvs)::(ss,mK G.prog G.w (lu c.nm sn) sn.length)::(f.mw,mO f.it)::FL s.ad.la fr (fy c s ep R)).Perm
 (CL G c s ep ls li ss dd sn (⟨f.i,f.t,f.mw,f.it,f.pos+1⟩::fr) kvs R):=by
 unfold CL
 refine aa List.reverse_cons (aa List.map_append (aa List.map_append (aa List.reverse_cons (aa List.map_append (aa List.map_append ?_)))))
 exact(List.perm_middle (a:=(f.it,lH (s.ad.la f.i) (f.pos+1))) (l₁:=[_,_,_,_,_])).symm
theorem CI.pop (h:CI c s rk sn (f::fr) kvs)(hs:bX s)(dg:lF c.nm):CI c s rk sn fr (without kvs (c.nm f.i)):=by
 constructor
 ·exact h.nd
 ·exact h.sub
 ·exact λb hb=>h.fs b (.tail _ hb)
 ·exact(List.pairwise_cons.mp h.pw).2
 ·have e:=h.kv
  rw[List.reverse_cons,List.map_append,List.map_cons,List.map_nil] at e
  have bF:∀k∈fr.reverse.map λf=>c.nm f.i,k≠c.nm f.i:=by
   intro k hk e
   refine ah (List.mem_map.mp hk) λb hb zr93=>?_;subst zr93
   have jw:=List.mem_reverse.mp hb
   have:=dg b.i (hs.lt _ (h.fs b (.tail _ jw))) f.i (hs.lt _ (h.fs f (.head _))) e
   have h2:=(List.pairwise_cons.mp h.pw).1 b jw
   rw[this] at h2
   exact Nat.lt_irrefl _ h2
  unfold without
  have e2:(kvs.filter λkv=>decide (kv.1≠c.nm f.i)).map (·.1)=(kvs.map (·.1)).filter λk=>decide (k≠c.nm f.i):=by refine aa List.filter_map ?_;rfl
  refine aa (e2 ..) (aa (e ..) (aa (List.filter_append ..) ?_))
  refine aa (List.filter_eq_self.mpr λk hk=>decide_eq_true (bF k hk)) ?_
  simp
theorem CI.has (h:CI c s rk sn (f::fr) kvs)(hn:(kvs.map (·.1)).Nodup):(valueAt kvs (c.nm f.i)).isSome=true:=by
 have:c.nm f.i∈kvs.map (·.1):=by
  refine aa h.kv (aa List.reverse_cons (aa List.map_append ?_))
  exact List.mem_append_right _ (.head _)
 refine ah (List.mem_map.mp this) λq hq e=>?_
 refine xE (List.getElem?_of_mem hq) λk hk=>?_
 refine aa (wQ hn (i:=k) (k:=c.nm f.i) (v:=q.2) (by rw[hk,<-e])) ?_
 rfl
theorem PW:jt s sn fr≤jt s sn (f::fr):=by
 unfold jt
 show _≤_+((s.aN f.i).length-f.pos+1+r6 s fr)
 simp+arith
theorem CI.fresh (h:CI c s rk sn fr kvs)(hs:bX s)(dg:lF c.nm)(hx:x∈s.ns)(hr:∀f∈fr,rk f.i<rk x):c.nm x∉kvs.map (·.1):=by
 refine aa h.kv ?_
 intro hm
 refine ah (List.mem_map.mp hm) λf hf e=>?_
 have Ih:=List.mem_reverse.mp hf
 have:=dg f.i (hs.lt _ (h.fs f Ih)) x (hs.lt x hx) e
 have h2:=hr f Ih
 rw[this] at h2
 exact Nat.lt_irrefl _ h2
end
section
variable {prog:Program}{w:World}{A:Around}{h₀:Heap}{L:Addr}{m:Loc}{H:Led}{env:Env}
theorem SM
 (h:AW (model prog w) A h₀ L (eval o env) (mY (model prog w) A h₀ L (eval i env) delItem (cK (model prog w) A h₀ L (execs rest env) Q)) m H):
 AW (model prog w) A h₀ L (execs (.Delete [.Subscript o i tS] pos::rest) env) Q m H:=jM λs R E S k=>by
 refine wpAny_Delete (wpAny_deleteEach_cons ?_)
 refine aa (arm_delete_Subscript ..) ?_
 refine wpAny_bind (h s _ E S λv1 m1 H1 h1 aX S1 q1=>?_)
 refine wpAny_bind (wpAny_holding (q1 _ _ E S1 λv2 m2 H2 h2 bC S2 q2=>?_))
 refine wpAny_bind (wpAny_standAt (wpAny_bind (wpAny_holding (q2 _ _ E S2 λ_ m3 H3 h3 aR S3 q3=>?_))))
 exact wpAny_release (wpAny_deleteEach_nil (k _ m3 H3 h3 aR S3 (gR q3)))
theorem SN (h:AW (model prog w) A h₀ L (eval e env) (cK (model prog w) A h₀ L (execs rest env) Q) m H)
 (hi:interactive env=false:=by with_unfolding_all rfl)(hs:swapsWith e none pos.line env=pure false:=by with_unfolding_all rfl):AW (model prog w) A h₀ L (execs (.Expr e pos::rest) env) Q m H:=jM λs R E S k=>
 wpAny_Expr_any (h s _ E S λv1 m1 H1 h1 aX S1 q1=>k _ m1 H1 h1 aX S1 (gR q1)) hi hs
end
end
section
theorem jY (h:bW M A fs g L (execs rest env) Q m H):DI M A fs L env rest Q g .next m H:=h
theorem Bj {st:Stmt}{rest:List Stmt}{Q:Heap->Flow->Loc->Led->Prop}(P:Loc->Led->Prop)(h1:AW M A h₀ L (exec st env) (λf m H=>f= .next∧P m H) m H)
 (h2:∀m H,P m H->bW M A fs h₀ L (execs rest env) Q m H):bW M A fs h₀ L (execs (st::rest) env) Q m H:=
 kQ (rP h1 λf m H q=>by refine xA q λe p=>?_;clear q;subst e;exact jY (h2 m H p))
noncomputable def k9 (dd ss li ls n2 sx:Addr):Loc:=[(Str.ofString "node2stacki", .ref dd),(Str.ofString "seen", .ref ss),(Str.ofString "itstack", .ref li),(Str.ofString "stack", .ref ls),(Str.ofString "n2i", .ref n2),(Str.ofString "self", .ref sx)]
theorem CI.start:CI c s rk [] [] []:=by
 constructor
 ·exact List.nodup_nil
 ·intro _ h;cases h
 ·intro _ h;cases h
 ·exact List.Pairwise.nil
 ·rfl
theorem perm_rev4 (a b c d:Addr×(Obj->Prop))(R:Led):(a::b::c::d::R).Perm (d::c::a::b::R):=by
 have h1:(a::b::c::d::R).Perm ([c,d]++(a::b::R)):=List.perm_append_comm_assoc [a,b] [c,d] R
 exact h1.trans (.swap _ _ _)
theorem PN (l a d e w:Addr×(Obj->Prop))(R:Led):(l::d::a::e::w::R).Perm (w::a::l::d::e::R):=by
 have h1:(l::d::a::e::w::R).Perm (w::l::d::a::e::R):=List.perm_middle (a:=w) (l₁:=[l,d,a,e])
 refine h1.trans (.cons _ ?_)
 exact List.perm_middle (a:=a) (l₁:=[l,d])
theorem xK (G:Gx)(c:SC)(s:SS)(ep:Nat)(ls li ss dd:Addr)(sn:List Nat)(fr:List Fm)(kvs:List (Str×Value))(R:Led):CL G c s ep ls li ss dd sn fr kvs R=CL G c s ep ls li ss dd sn fr kvs []++R:=by
 unfold CL
 refine aa (xM _ fr (fy c s ep R)) (aa (xM _ fr (fy c s ep [])) (aa (uq c s ep R) ?_))
 simp only [List.cons_append,List.append_assoc]
theorem PR (G:Gx)(c:SC)(s:SS)(ep:Nat)(ls li ss dd:Addr)(sn:List Nat)(fr:List Fm)(kvs:List (Str×Value))(x:Addr×(Obj->Prop))(R:Led):(x::CL G c s ep ls li ss dd sn fr kvs R).Perm (CL G c s ep ls li ss dd sn fr kvs (x::R)):=by
 refine aa (xK (R:=R) ..) (aa (xK (R:=x::R) ..) ?_)
 exact List.perm_middle.symm
theorem ED (G:Gx)(c:SC)(s:SS)(ep:Nat)(ls li ss dd:Addr)(sn:List Nat)(fr:List Fm)(kvs:List (Str×Value))(a:Addr)(P:Obj->Prop)(R:Led):aZ a P (CL G c s ep ls li ss dd sn fr kvs ((a,P)::R)) (CL G c s ep ls li ss dd sn fr kvs R):=by
 refine aa (xK (R:=R) ..) (aa (xK (R:=(a,P)::R) ..) ?_)
 exact aZ.app .head _
section
variable {G:Gx}{bZ:Around}{base h₀:Heap}{outer:List Env}{L:Addr}{m:Loc}{H H':Led}{env:Env}{aW:eu}{c:SC}{s:SS}{i:Nat}{v t u:Tok}
set_option maxHeartbeats 4000000 in
theorem TU (T:aT G.K aW)(X:dN G c)(C:iA G bZ base outer h₀ L env)(r:bw (bZ.deeper env) 3)(hs:bX s)(rk:Nat->Nat)(vI:∀i∈s.ns,∀q∈s.aN i,q.1∈s.ns∧rk i<rk q.1)
 (h:∀g,KtsTurn (d9 outer) h₀ g->Q g .none m (aF c s H)):
 bW (model G.prog G.w) (bZ.deeper env) (d9 outer) h₀ L (call (.ref c.sd.BA) [.ref c.sx] []) Q m (aF c s H):=by
 refine xE X.ok.d8 λbg d=>?_
 refine Bh (n:=2) (binds:=[(Str.ofString "self",_)]) C r d (λ_ _ _ _ _=>rfl) rfl λg0 L' CF r1=>?_
 have C1:=CF.cx
 refine xE (show∃sc,sc=(cJ 14 8).scope from⟨_,rfl⟩) λsc dh=>?_
 (conv at dh in(cJ _ _).scope=>whnf)
 rw[show(cJ 14 8).scope=sc by refine aa dh ?_;rfl] at CF C1 r1 ⊢
 subst dh
 (conv in(cJ _ _).body=>whnf)
 have aP:(1000:Nat)≤sizeLine:=by decide
 refine rU (m':=[(Str.ofString "self", .ref c.sx)]) (by walk_at "aw_subl") ?_
 refine kQ (Fc X λep=>?_)
 refine mP ?_
 walk_at "awo"
 refine Fz X C1 (.head _) (.tail _ (.head _)) ?_
 walk_at "awo"
 refine jY (kQ (mP ?_))
 refine dF ?_
 walk_at "awo"
 refine⟨Nat.zero_le _,λls=>?_⟩
 walk_at "awo"
 refine jY (kQ (mP ?_))
 refine dF ?_
 walk_at "awo"
 refine⟨Nat.zero_le _,λli=>?_⟩
 walk_at "awo"
 refine jY (kQ (mP ?_))
 walk_at "awo"
 refine SX λss=>?_
 walk_at "awo"
 refine jY (kQ (mP ?_))
 walk_at "awo"
 refine xY C1 λdd=>?_
 walk_at "awo"
 refine jY ?_
 have VO:SubL (k9 dd ss li ls c.n2 c.sx) [(Str.ofString "node2stacki", .ref dd),(Str.ofString "seen", .ref ss),(Str.ofString "itstack", .ref li),(Str.ofString "stack", .ref ls),(Str.ofString "n2i", .ref c.n2),(Str.ofString "self", .ref c.sx)]:=by unfold k9;walk_at "aw_subl"
 refine rU VO ?_
 refine yg (H':=CL G c s ep ls li ss dd [] [] [] H) (.perm ?_) ?_
 ·unfold CL
  exact(perm_rev4 _ _ _ _ _)
 refine mX (TX ?_)
 walk_at "awo"
 refine A5 (kvs:=cW c.nm s.ad s.ns) (ep:=ep) (.tail _ (.tail _ (.tail _ (.tail _ (oQ X))))) λit=>?_
 refine Qn (λg=>CX C1.hh) (λk m' H'=>∃sn,SubL (k9 dd ss li ls c.n2 c.sx) m'∧CI c s rk sn [] []∧H'=CL G c s ep ls li ss dd sn [] [] H)
  (λk m' H' hI=>by refine cQ hI λsn _ _ zr82=>?_;clear hI;subst zr82;exact .tail _ (.tail _ (.tail _ (.tail _ (oQ X))))) ?_ ?_ 0 (Nat.zero_le _) ⟨[],SubL.refl,CI.start,rfl⟩
 ·intro k J0 jP g v m1 H1 T1 hk Nd Nf;refine cE Nd λk0 x0 t0 pA zr83=>?_;clear Nd;subst zr83;refine cQ Nf λsn hm dB zr84=>?_;clear Nf;subst zr84
  have iX:k<s.ns.length:=by unfold cW at hk;rwa [List.length_map] at hk
  refine xE (show∃x,x=s.ns[k] from⟨_,rfl⟩) λx hx=>?_
  have jj:x∈s.ns:=by refine aa hx ?_;exact List.getElem_mem iX
  obtain rfl:k0=c.nm x:=by
   unfold cW at pA
   rw[List.getElem?_map,List.getElem?_eq_getElem iX,<-hx] at pA
   cases pA;rfl
  have EC:=CF.turn T1
  have Cg:=EC.cx
  refine bO hm ?_
  refine bQ ?_
  walk_at "awo"
  generalize hP:pW c.n2 (cW c.nm s.ad s.ns).length ep (k+1)=P
  refine yg (.perm (PR G c s ep ls li ss dd sn [] [] (it,P) H)) ?_
  have vR:x<12:=hs.lt x jj
  have sM:∀i∈sn,i<12:=λi hi=>hs.lt i (dB.sub i hi)
  have CC:∀(x:Str) (t:Tok),(Value.str x t).scannable=true:=λ_ _=>rfl
  have hbound:(100:Nat)<scanBound:=by decide
  refine mX (Gb ?_)
  walk_at "awo"
  refine FY (S:=lu c.nm sn) (n:=sn.length) (.tail (.tail (.tail .head))) (by have:=dB.len hs;exact Nat.lt_of_le_of_lt ‹_› (by decide)) (CC _ _) ?_
  refine aa (DS X.ij sM vR) ?_
  walk_at "awo"
  by_cases cA:x∈sn
  ·refine qT ((decide_eq_true cA)) ?_
   refine kQ (E5 ?_)
   refine⟨_,ED G c s ep ls li ss dd sn [] [] it P H,jP ⟨sn,?_,dB,rfl⟩⟩
   unfold k9;walk_at "aw_subl"
  ·refine qS ((by simpa using cA)) ?_
   refine rV ?_
   refine jY ?_
   refine mX (Ge (λN m' H'=>∃sn fr kvs x t,SubL ((Str.ofString "node", .str (c.nm x) t)::k9 dd ss li ls c.n2 c.sx) m'∧CI c s rk sn fr kvs∧x∈s.ns∧(∀f∈fr,rk f.i<rk x)∧jt s sn fr=N∧
    H'=CL G c s ep ls li ss dd sn fr kvs ((it,P)::H)) ?_ (jt s sn []) ⟨sn,[],[],x,t0,by unfold k9;walk_at "aw_subl",dB,jj,λ_ h=>(nomatch h),rfl,rfl⟩)
   clear cA vR sM dB hm pA jj hx iX hk
   clear x
   clear sn
   intro N J1 VW g2 m2 H2 T2 Ng;refine Mw Ng λsn fr kvs x t hm dB jj zl zr85 zr86=>?_;clear Ng;subst zr85;subst zr86
   have EA:=EC.turn T2
   have C2:=EA.cx
   have vR:x<12:=hs.lt x jj
   have sM:∀i∈sn,i<12:=λi hi=>hs.lt i (dB.sub i hi)
   refine bO hm ?_
   walk_at "awo"
   generalize yG:((it,P)::H:Led)=R1
   refine xE (show∃N,N=jt s sn fr from⟨_,rfl⟩) λN hN=>?_
   refine aa (Eq.symm hN) ?_
   refine Bj (λm' H'=>∃sn fr kvs,SubL (k9 dd ss li ls c.n2 c.sx) m'∧CI c s rk sn fr kvs∧jt s sn fr≤N∧H'=CL G c s ep ls li ss dd sn fr kvs R1) ?_ ?_
   ·have hdict:∀{sn:List Nat} {fr:List Fm} {kvs:List (Str×Value)} {R:Led},di G.prog G.w c.n2 (cW c.nm s.ad s.ns) (FL s.ad.la fr (fy c s ep R)):= .pG (rK (oQ X))
    have oZ:=dB.G9 hs
    have nq:(100:Int)<2^63:=by decide
    refine uD ?_
    walk_at "awo"
    refine FY (S:=lu c.nm sn) (n:=sn.length) (.tail (.tail (.tail .head))) (by have:=dB.len hs;exact Nat.lt_of_le_of_lt ‹_› (by decide)) (CC _ _) ?_
    refine aa (DS X.ij sM vR) ?_
    walk_at "awo"
    by_cases cA:x∈sn
    ·refine qT ((decide_eq_true cA)) ?_
     walk_at "awo"
     refine E8 (kvs:=kvs) (.mk (.tail _ (.tail _ (.head _)))) ?_
     refine aa (D0 (dB.fresh hs X.ij jj zl)) (aa Option.isSome_none ?_)
     walk_at "awo"
     exact⟨rfl,sn,fr,kvs,by unfold k9;walk_at "aw_subl",dB,Nat.le_of_eq hN.symm,rfl⟩
    ·refine qS ((by simpa using cA)) ?_
     refine oE ?_
     walk_at "awo"
     refine SW (S:=lu c.nm sn) (n:=sn.length) (.tail (.tail (.tail .head))) (by have:=dB.len hs;exact(ln 0x842208421005930002320bf308802).1 hbound this) ?_
     refine cF ?_
     walk_at "awo"
     refine bu (.tail (.tail (.tail .head))) ?_
     refine SV (by have:=dB.len hs;exact(ln 0x4211042108660585930002320bf308802).1 hbound this) (CC _ _) ?_
     refine aa (snS_add ..) (aa (DS X.ij sM vR ..) (aa (decide_eq_false cA ..) ?_))
     refine i8 ?_
     refine oE ?_
     walk_at "awo"
     refine iO (.tail _ (.tail _ (.head _))) PySem.F.slot_list_append PySem.F.type_list_append ?_
     refine cF ?_
     walk_at "awo"
     have jI:∀{y a b d e:Addr×(Obj->Prop)} {R:Led},y∈R->y∈a::b::d::e::R:=λh=> .tail _ (.tail _ (.tail _ (.tail _ h)))
     refine lJ (kvs:=cW c.nm s.ad s.ns) (v:= .ref (s.ad.ia x)) (.pG (jI (rK (oQ X)))) (Ak (C3 X.ij hs) jj) ?_
     refine Tj X C2 (jI (rK (eN jj))) (jI (rK (eD jj))) ?_
     walk_at "awo"
     refine Rz (vs:=sv c.nm (s.aN x)) (jI (rK (eL jj))) λia=>?_
     refine Sh (.head _) λmw=>?_
     walk_at "awo"
     refine bu (.tail (.tail (.tail (.tail .head)))) ?_
     refine jL (by refine aa (List.length_map ..) (aa (List.length_reverse ..) ?_);exact Nat.le_trans ‹_› (by decide)) ?_
     refine i8 ?_
     refine Bc ?_
     walk_at "awo"
     refine fL (.tail _ (.tail _ (.tail _ (.tail _ (.head _))))) (by refine aa (List.length_map ..) (aa (List.length_reverse ..) ?_);exact Zz oZ) λtl=>?_
     walk_at "awo"
     refine bu (.tail (.tail (.tail (.tail (.tail .head))))) ?_
     refine uC (by have:=congrArg List.length dB.kv;rw[List.length_map,List.length_map,List.length_reverse] at this;exact(ln 0x1004220843f40bf3000201326100802).1 oZ this) ?_
     refine aa (wL (dB.fresh hs X.ij jj zl) ..) ?_
     refine oE ?_
     walk_at "awo"
     refine iO (.tail _ (.tail _ (.tail _ (.tail _ (.tail _ (.head _)))))) PySem.F.slot_list_append PySem.F.type_list_append ?_
     refine cF ?_
     walk_at "awo"
     refine bu (.tail (.tail (.tail (.tail (.tail .head))))) ?_
     refine jL (by refine aa (List.length_map ..) (aa (List.length_reverse ..) ?_);exact @(ln 0x842208421001930003f40bf300802).1 fr.length sizeLine aP oZ) ?_
     refine i8 ?_
     refine aa (if_neg (by decide)) ?_
     refine dQ (PO G (s:=s) (c:=c) (t:=t)) ?_
     walk_at "awo"
     refine⟨rfl,_,_,_,by unfold k9;walk_at "aw_subl",dB.push jj cA zl,?_,rfl⟩
     refine aa hN ?_
     exact Nat.le_of_lt (PX hs jj cA)
   ·intro m3 H3 Nh;refine Ao Nh λsn fr kvs hm dB uZ zr87=>?_;clear Nh;subst zr87
    refine rU hm ?_
    refine mX (Ge (λk m' H'=>∃sn fr kvs,SubL (k9 dd ss li ls c.n2 c.sx) m'∧CI c s rk sn fr kvs∧jt s sn fr≤N∧fr.length=k∧H'=CL G c s ep ls li ss dd sn fr kvs R1) ?_ fr.length
     ⟨sn,fr,kvs,SubL.refl,dB,uZ,rfl,rfl⟩)
    clear dB uZ hm
    clear sM
    clear zl
    clear hN
    clear kvs
    clear fr
    clear sn
    intro k4 J2 VX g4 m4 H4 T4 Ni;refine Aq Ni λsn fr kvs hm dB uZ zr88 zr89=>?_;clear Ni;subst zr88;subst zr89
    have EB:=EA.turn T4
    have C4:=EB.cx
    have oZ:=dB.G9 hs
    have nq:(100:Int)<2^63:=by decide
    refine bO hm ?_
    walk_at "awo"
    refine uI (.head _) (by refine aa (List.length_map ..) (aa (List.length_reverse ..) ?_);lia) ?_
    cases fr with
    |nil=>
     refine vY ?_
     obtain rfl:kvs=[]:=by
      have:=dB.kv
      cases kvs with
      |nil=>rfl
      |cons _ _=>cases this
     refine kQ (E0 ?_)
     refine rV ?_
     subst yG
     exact⟨_,ED G c s ep ls li ss dd sn [] [] it P H,jP ⟨sn,SubL.refl,dB,rfl⟩⟩
    |cons f fr=>
     refine aa (show(!(List.map (λf=>Value.str (c.nm f.i) f.t) (f::fr).reverse).isEmpty)=true by simp) ?_
     refine jW ?_
     refine mX (T6 rfl EB rfl T.Gq ?_ (by with_unfolding_all rfl))
     refine TN (TH ?_)
     walk_at "awo"
     have CA:∀{α:Type} (F:Fm->α),(f::fr).reverse.map F=fr.reverse.map F++[F f]:=λF=>by refine aa List.reverse_cons (aa List.map_append ?_);rfl
     have vn:f.i∈s.ns:=dB.fs f (.head _)
     refine Fp (vs:=(f::fr).reverse.map λf=> .ref f.mw) (v:= .ref f.mw) (.inl (.tail _ (.head _))) (by decide) (by refine aa (List.length_map ..) (aa (List.length_reverse ..) (aa (List.length_cons ..) ?_));simp+arith) (by decide) (by
      refine aa (CA ..) (aa (List.length_append ..) (aa (List.length_map ..) (aa (List.length_reverse ..) (aa (List.length_singleton ..) ?_))))
      refine aa (show((-1:Int)+((fr.length+1:Nat):Int)).toNat=(fr.reverse.map λf=>Value.ref f.mw).length by rw[List.length_map,List.length_reverse];simp+arith) ?_
      simp) ?_
     refine TJ (it:=f.it) (.tail _ (.tail _ (.tail _ (.tail _ (.head _))))) ?_
     refine TM (LE.pick (.tail (.tail (.tail (.tail (.tail .head)))))) ?_
     refine TP (l:=s.ad.la f.i) (vs:=sv c.nm (s.aN f.i)) (mw:=f.mw) C4.hh (.tail _ (.tail _ (.tail _ (.tail _ (.head _))))) (.tail _ (.tail _ (.tail _ (.tail _ (.tail _ (rK (eL vn))))))) (λv hv=>?_) (λhv=>?_)
     ·refine ah (show∃q,(s.aN f.i)[f.pos]?=some q∧v= .str (c.nm q.1) q.2 from by
       unfold sv at hv
       rw[List.getElem?_map] at hv
       cases hq:(s.aN f.i)[f.pos]? with
       |none=>rw[hq] at hv;cases hv
       |some q=>rw[hq] at hv;exact⟨q,rfl,by cases hv;rfl⟩) λq hq zr90=>?_;subst zr90
      refine xA (vI f.i vn q (List.mem_of_getElem? hq)) λI6 I7=>?_
      refine jg ?_
      refine dQ (H':=CL G c s ep ls li ss dd sn (⟨f.i,f.t,f.mw,f.it,f.pos+1⟩::fr) kvs R1) ?_ ?_
      ·exact PS G f
      refine FU ?_
      refine rV ?_
      refine⟨_,?_,VW ⟨sn,_,kvs,q.1,q.2,?_,dB.step,I6,?_,rfl,by exact aa yG rfl⟩⟩
      ·exact Nat.lt_of_lt_of_le (PY (List.getElem?_eq_some_iff.mp hq).1) uZ
      ·unfold k9;walk_at "aw_subl"
      ·intro b hb
       rcases List.mem_cons.mp hb with rfl|hb
       ·exact I7
       ·exact Nat.lt_trans ((List.pairwise_cons.mp dB.pw).1 b hb) I7
     ·intro g5 e5 T5
      have jD:kvs.length≤12:=by
       have:=congrArg List.length dB.kv
       rw[List.length_map,List.length_map,List.length_reverse] at this
       exact(ln 0x200844108593000201326100802).1 oZ this
      refine aa (CA ..) (aa (CA ..) ?_)
      refine uB (d:=dd) (kvs:=kvs) (prog:=G.prog) (w:=G.w) (.mk (.tail _ (.tail _ (.head _)))) λcN=>?_
      refine SM ?_
      walk_at "awo"
      refine iO (.head _) PySem.F.slot_list_pop PySem.F.type_list_pop ?_
      refine cF ?_
      walk_at "awo"
      refine Ba (by refine aa (List.length_map ..) (aa (List.length_reverse ..) ?_);rw[List.length_cons] at oZ;exact Nat.lt_of_lt_of_le ‹_› (by decide)) ?_
      refine bu (.tail (.tail .head)) ?_
      refine Q6 (by exact Nat.le_trans ‹_› (by decide)) (dB.has cN) ?_
      refine SN ?_
      walk_at "awo"
      refine iO (.tail _ (.tail _ (.head _))) PySem.F.slot_list_pop PySem.F.type_list_pop ?_
      refine cF ?_
      walk_at "awo"
      refine bu (.tail (.tail .head)) ?_
      refine Ba (by refine aa (List.length_map ..) (aa (List.length_reverse ..) ?_);rw[List.length_cons] at oZ;exact @(ln 0x21088210843302c0c986605803f40bf300802).1 fr.length sizeLine aP oZ) ?_
      refine cU (H':=CL G c s ep ls li ss dd sn fr (without kvs (c.nm f.i)) R1) ?_ ?_
      ·refine LE.trans (.perm (H':=(f.mw,mO f.it)::CL G c s ep ls li ss dd sn fr (without kvs (c.nm f.i)) R1) ?_) .drop
       unfold CL
       exact PN _ _ _ _ _ _
      refine gF ?_
      refine rV ?_
      exact⟨fr.length,by refine aa List.length_cons ?_;exact Nat.lt_succ_self _,VX ⟨sn,fr,_,SubL.refl,dB.pop hs X.ij,Nat.le_trans PW uZ,rfl,rfl⟩⟩
 ·intro g m1 H1 T1 Nk;refine cQ Nk λsn hm dB zr91=>?_;clear Nk;subst zr91
  refine rV ?_
  refine uJ ?_
  refine cU (.trans .drop (.trans .drop (.trans .drop (.trans .drop (EN c s ep H))))) ?_
  walk_at "awo"
  exact λg' T=>h g' T
end
end
section
theorem QF
 (h:AW (model prog w) A h₀ L (eval value env) (λv m H=>AW (model prog w) A h₀ L (eval o env) (λov m H=>AW (model prog w) A h₀ L (setAttr ov attr v) (λ_ m H=>Q .next m H) m H) m H) m H)
 (hs:swapsWith value (some (.Attribute o attr pos')) pos.line env=pure false:=by with_unfolding_all rfl):
 AW (model prog w) A h₀ L (exec (.Assign [.Attribute o attr pos'] value pos) env) Q m H:=λs R E S k=>
 plainObj_wpAny_Assign_Attribute (h s _ E S λv1 m1 H1 h1 aX S1 q1=>q1 _ _ E S1 λv2 m2 H2 h2 bC S2 q2=>q2 _ _ E S2 λ_ m3 H3 h3 aR S3 q3=>k _ m3 H3 h3 aR S3 q3) hs
section
variable {prog:Program}{w:World}{A:Around}{fs:List Addr}{h₀:Heap}{L:Addr}{m:Loc}{H:Led}{env:Env}
theorem TQ
 (h:bW (model prog w) A fs h₀ L (eval value env) (λg v m H=>AW (model prog w) A g L (storeName env x v) (λ_ m H=>Q g .next m H) m H) m H)
 (hs:swapsWith value (some (.Name x pos')) pos.line env=pure false:=by with_unfolding_all rfl):
 bW (model prog w) A fs h₀ L (exec (.Assign [.Name x pos'] value pos) env) Q m H:=
 λs R E S k=>wpAny_Assign_Name (h s _ E S λg v m' H' h' aB T S' q=>q _ _ E S' λ_ iH fK eT fZ iB q'=>k g _ iH fK eT fZ T iB q') hs
theorem TV (h:bW (model prog w) A fs h₀ L (eval e env) (λg _ m H=>Q g .next m H) m H)
 (hi:interactive env=false:=by with_unfolding_all rfl)(hs:swapsWith e none pos.line env=pure false:=by with_unfolding_all rfl):bW (model prog w) A fs h₀ L (exec (.Expr e pos) env) Q m H:=
 λs R E S k=>wpAny_Expr_any (h s _ E S λg v m1 H1 h1 aX T S1 q1=>k g _ m1 H1 h1 aX T S1 q1) hi hs
theorem Gd
 (h:AW (model prog w) A h₀ L (eval o env) (λov m H=>AW (model prog w) A h₀ L (getMethod ov name pl) (λfx m H=>bW (model prog w) A fs h₀ L (callWith pos fx.1 fx.2 (backTo pos (starEach args env)) []) Q m H) m H) m H)
 (he:eval (.Call (.Attribute o name apos) args [] pos) env=(do
  let ov<-eval o env
  standAt apos.atName
  let(f,first)<-holding [ov] (getMethod ov name pl)
  callWith pos f first (backTo pos (starEach args env)) []):=by with_unfolding_all rfl):
 bW (model prog w) A fs h₀ L (eval (.Call (.Attribute o name apos) args [] pos) env) Q m H:=
 λs R E S k=>MethodCall_ (h s _ E S λa m1 H1 h1 aX S1 q1=>q1 _ _ E S1 λb m2 H2 h2 bC S2 q2=>q2 _ _ E S2 λg c m3 H3 h3 aR T S3 q3=>k g _ m3 H3 h3 aR T S3 q3) he
theorem awt_call
 (h:AW (model prog w) A h₀ L (eval func env) (λf m H=>bW (model prog w) A fs h₀ L (callWith pos f [] (backTo pos (starEach args env)) []) Q m H) m H)
 (he:eval (.Call func args [] pos) env=(do callWith pos (<-eval func env) [] (backTo pos (starEach args env)) (backToKw pos (keywordEach [] env))):=by with_unfolding_all rfl):
 bW (model prog w) A fs h₀ L (eval (.Call func args [] pos) env) Q m H:=
 λs R E S k=>Call_ (h s _ E S λa m1 H1 h1 aX S1 q1=>q1 _ _ E S1 λg c m3 H3 h3 aR T S3 q3=>k g _ m3 H3 h3 aR T S3 q3) he
theorem Ga {K:Frag}{pos f first}{Q:Heap->Value->Loc->Led->Prop}(X:K.In h₀)(hk:keepIn K f=true)(h:bW (model prog w) A fs h₀ L (call f (first++[])) Q m H):bW (model prog w) A fs h₀ L (callWith pos f first (backTo pos (starEach [] env)) []) Q m H:=
 λs R E S k=>callWith_K0 (X.keeps S.keep) hk (h s R E S k)
theorem awt_cw_K {K:Frag}{pos f first e rest}{Q:Heap->Value->Loc->Led->Prop}(X:K.In h₀)(hk:keepIn K f=true)
 (h:AW (model prog w) A h₀ L (spliced (backTo pos (starEach (e::rest) env))) (λvs m H=>bW (model prog w) A fs h₀ L (call f (first++vs)) Q m H) m H)
 (he:starEach (e::rest) env=(false,eval e env)::starEach rest env:=by with_unfolding_all rfl)(iG:(backTo pos (starEach rest env)).any (·.1)=false:=by with_unfolding_all rfl):
 bW (model prog w) A fs h₀ L (callWith pos f first (backTo pos (starEach (e::rest) env)) []) Q m H:=
 λs R E S k=>callWith_K (h₀:=h₀) X hk (h s _ E S λa m1 H1 h1 aX S1 q1=>⟨X.keeps S1.keep,q1 _ _ E S1 λg c m3 H3 h3 aR T S3 q3=>k g _ m3 H3 h3 aR T S3 q3⟩) he iG
end
noncomputable def pO (s:SS)(x:Value):SS:={s with rn:=x}
section
variable {G:Gx}{bZ:Around}{base h₀:Heap}{outer:List Env}{L:Addr}{m:Loc}{H H':Led}{env:Env}{aW:eu}{c:SC}{s:SS}{i:Nat}{v t u:Tok}
set_option maxHeartbeats 4000000 in
theorem TY (T:aT G.K aW)(X:dN G c)(C:iA G bZ base outer h₀ L env)(r:bw (bZ.deeper env) 4)(hs:bX s)(fM:s.rn= .none)(rk:Nat->Nat)(vI:∀i∈s.ns,∀q∈s.aN i,q.1∈s.ns∧rk i<rk q.1)
 (h:∀g rl,KtsTurn (d9 outer) h₀ g->Q g .none m (aF c (pO s (.ref rl)) ((rl,b8 ((s.ns.filter λi=>s.np i==0).map c.nm))::H))):
 bW (model G.prog G.w) (bZ.deeper env) (d9 outer) h₀ L (call (.ref c.sd.prepare) [.ref c.sx] []) Q m (aF c s H):=by
 refine xE X.ok.d3 λbg d=>?_
 refine Bh (n:=3) (binds:=[(Str.ofString "self",_)]) C r d (λ_ _ _ _ _=>rfl) rfl λg0 L' CF r1=>?_
 have C1:=CF.cx
 refine xE (show∃sc,sc=(cJ 14 3).scope from⟨_,rfl⟩) λsc dh=>?_
 (conv at dh in(cJ _ _).scope=>whnf)
 rw[show(cJ 14 3).scope=sc by refine aa dh ?_;rfl] at CF C1 r1 ⊢
 subst dh
 (conv in(cJ _ _).body=>whnf)
 have aP:(1000:Nat)≤sizeLine:=by decide
 refine rU (m':=[(Str.ofString "self", .ref c.sx)]) (by walk_at "aw_subl") ?_
 refine mX (Gb ?_)
 walk_at "awo"
 refine mV X C1 (by refine aa fM ?_;rfl) ?_
 refine aa fM ?_
 walk_at "awo"
 refine A4 ?_
 walk_at "awo"
 refine aa (show(!(Value.none==Value.none))=false from rfl) ?_
 refine vY ?_
 refine rV (jY ?_)
 refine Bj (λm' H'=>∃rl,m'=[(Str.ofString "self", .ref c.sx)]∧H'=aF c (pO s (.ref rl)) ((rl,b8 ((s.ns.filter λi=>s.np i==0).map c.nm))::H)) ?_ ?_
 ·refine Fc X λep=>?_
  refine QF ?_
  refine mS _ (by rfl) ?_
  walk_at "awo"
  refine Fz X C1 (.head _) (.tail _ (.head _)) ?_
  refine A3 (kvs:=cW c.nm s.ad s.ns) (.pG (oQ X)) PySem.F.slot_dict_values (by rfl) ?_
  refine cF ?_
  walk_at "awo"
  refine TF (kvs:=cW c.nm s.ad s.ns) (.pG (oQ X)) λvw=>?_
  walk_at "awo"
  refine RC (kvs:=cW c.nm s.ad s.ns) (ep:=ep) (.head _) (.tail _ (oQ X)) λpC=>?_
  have Xl:=nO hs.nd hs.lt
  have jD:(cW c.nm s.ad s.ns).length=s.ns.length:=by unfold cW;exact aa (List.length_map ..) rfl
  refine⟨pC,xU c.n2 (cW c.nm s.ad s.ns).length ep,_,_,λH=>(c.n2,dM G.prog G.w c.n2 (cW c.nm s.ad s.ns) ep)∈H,(vw,uw c.n2)::fy c s ep H,rfl,rfl,Ym C1.hh,λp H d=> .tail _ d,λcC D=>
   ⟨λi' ys X'=>X'=(vw,uw c.n2)::fy c s ep H∧bU ys (((s.ns.take i').filter λi=>s.np i==0).map c.nm),?_,⟨rfl,bU.nil⟩,?_,?_⟩⟩
  ·intro i' ys X' MC;refine xA MC λzr62 _=>?_;clear MC;subst zr62
   exact .tail _ (oQ X)
  ·intro q v mc ys X' hq MM MX;refine xE MM λk hk=>?_;clear MM;refine xA MX λzr63 bA=>?_;clear MX;subst zr63
   have I6:q<s.ns.length:=by exact Nat.lt_of_lt_of_eq ‹_› ‹_›
   refine xE (show∃j,s.ns[q]?=some j from⟨_,List.getElem?_eq_getElem I6⟩) λj hj=>?_
   have lN:j∈s.ns:=List.mem_of_getElem? hj
   obtain rfl:v= .ref (s.ad.ia j):=by
    unfold cW at hk
    rw[List.getElem?_map,hj] at hk
    cases hk;rfl
   have jI:∀{y a b d e:Addr×(Obj->Prop)} {R:Led},y∈R->y∈a::b::d::e::R:=λh=> .tail _ (.tail _ (.tail _ (.tail _ h)))
   refine bQ ?_
   refine gq .head ?_
   refine qd ?_
   (with_reducible show AW _ _ _ _ (isTrue (.Compare _ [_] [_] _) _ _) _ _ _)
   with_reducible refine oH ?_
   refine AY ?_
   refine dj (.head _) (by with_unfolding_all rfl) ?_
   refine So X C1 (jI (eN lN)) (jI (eD lN)) λtn=>?_
   walk_at "awo"
   refine i7 (λhb=>?_) (λhb=>?_)
   ·refine AY ?_
    refine dj (.head _) (by with_unfolding_all rfl) ?_
    refine Sj X C1 (jI (eN lN)) (jI (eD lN)) λtt=>?_
    have jh:s.ns.take (q+1)=s.ns.take q++[j]:=by refine aa List.take_add_one (aa hj ?_);rfl
    refine⟨rfl,_,_,_,_,_, .tail .head, .head, .head,?_,rfl,?_⟩
    ·have:=bA.length
     rw[List.length_map] at this
     have h2:=List.length_filter_le (λi=>s.np i==0) (s.ns.take q)
     rw[List.length_take] at h2
     exact(ln 0x2100420080220842008401084410842108400110ab28c03009931003f40bf301406).1 aP Xl this h2 (Eq.refl (min q s.ns.length))
    ·refine aa (jh ..) (aa (List.filter_append ..) (aa (List.filter_cons_of_pos (p:=λi=>s.np i==0) hb ..) (aa (List.filter_nil ..) (aa (List.map_append ..) ?_))))
     exact bA.snoc _ _
   ·have jh:s.ns.take (q+1)=s.ns.take q++[j]:=by refine aa List.take_add_one (aa hj ?_);rfl
    refine⟨rfl,_,_,_,_,_, .tail .head, .head, .head,rfl,?_⟩
    refine aa (jh ..) (aa (List.filter_append ..) (aa (List.filter_cons_of_neg (p:=λi=>s.np i==0) (by rw[hb];simp) ..) (aa (List.filter_nil ..) (aa (List.append_nil ..) ?_))))
    exact bA
  ·intro mc ys X' M9;refine xA M9 λzr64 bA=>?_;clear M9;subst zr64
   rw[jD,List.take_length] at bA
   refine⟨_,_,_,rfl,?_⟩
   refine cU (H':=aF c s ((D,b8 ((s.ns.filter λi=>s.np i==0).map c.nm))::H)) ?_ ?_
   ·refine LE.trans (.pred λo ho=>(⟨_,bA,ho⟩:b8 ((s.ns.filter λi=>s.np i==0).map c.nm) o)) ?_
    refine LE.trans (.perm (.swap _ _ _)) (LE.trans .drop ?_)
    exact(LE.perm (PZ c s ep _ H)).trans (EN c s ep _)
   walk_at "awo"
   refine SA X C1 ?_
   exact⟨rfl,D,rfl,rfl⟩
 ·intro m1 H1 Nc;refine ah Nc λrl zr65 zr66=>?_;clear Nc;subst zr65;subst zr66
  have pn:bX (pO s (.ref rl)):=⟨hs.nd,hs.lt,hs.df,hs.sl⟩
  refine mX (TQ (Gd ?_))
  walk_at "awo"
  refine oF X C1 X.ok.m8 rfl ?_
  dsimp only
  refine xE X.ok.d8 λcdv8 d8=>?_
  refine Ga C1.X d8.keep ?_
  refine TU T X CF r1 pn rk vI λg T1=>?_
  have C2:=(CF.turn T1).cx
  refine jg ?_
  refine jY ?_
  refine uJ ?_
  walk_at "awo"
  exact λg' T'=>h g' rl T'
end
end
section
section
variable {prog:Program}{w:World}{A:Around}{h₀:Heap}{L it l S:Addr}{m:Loc}{H:Led}{vs:List Value}{key:Value->Int}
set_option maxHeartbeats 1000000 in
theorem ZV (hh:A.handled=none)(hu:A.units+1<cLine)(hl:(l,af vs)∈H)(hi:fP key H vs)(hk:(vs.map key).Nodup):∀(k j:Nat) (vb:Value) (s:Shared) (R:Result->Shared->Prop),vs.length-(j+1)=k->j+1≤vs.length->
 St h₀ L s.heap m ((it,fu l (j+1))::(S,af [vb,vb])::H)->vb∈vs.take (j+1)->(∀u∈vs.take (j+1),key vb≤key u)->
 (∀v h' aB,St h₀ L h' m H->v∈vs->(∀u∈vs,key v≤key u)->R (.ok (.ret v)) {s with heap:=h',toks:=aB})->codeAny (model prog w) A (.builtin "min.loop" ⟨[.ref it, .none, .ref S],[]⟩) R s:=by
 have vC:(toString "min"++toString ".loop":String)="min.loop":=by decide
 intro k
 induction k with
 |zero=>
  intro j vb s R yW hj rM fV iS hR
  have cA:j+1=vs.length:=by exact(ln 0x1000011000000021104000000108801004000882108421981620cc0b089410cc0b0026210c03).1 yW hj (Eq.refl (vs.length-(j+1)))
  refine codeAny_builtin PySem.F.entry_min_loop ?_
  refine aa (Around.under_plainId PySem.F.plain_min_loop _) ?_
  refine xE (rM.lst (.tail _ (.head _))) λnS eS=>?_
  show wpAny _ A.in1 (seqItems? (.ref S)>>=_) _ _ s
  refine wpAny_bind (wpAny_seqItems eS rfl ?_)
  show wpAny _ A.in1 (tryCatch (pyNext (.ref it)) _>>=_) _ _ s
  rw[cA] at rM
  refine wpAny_bind (wpAny_tryCatch (iu ((gw (A:=A.in1) (vs:=vs) hh).done m _ _ (.inl (.tail _ hl)) ⟨rfl,rfl,rfl⟩) rM λh1 aX S1=>?_))
  refine xE (S1.lst (.head _)) λnS eS=>?_
  show wpAny _ A.in1 (updateSeq S (λ_=> #[])>>=_) _ _ _
  refine wpAny_bind ?_
  refine wpAny_updateSeq eS rfl (wpAny_bind (wpAny_letGo (wpAny_pure ?_)))
  rw[cA,List.take_length] at fV iS
  exact hR vb _ _ (S1.ext (Heap.SameBut.update ..).extBut) fV iS
 |succ k ih=>
  intro j vb s R yW hj rM fV iS hR
  have aC:j+1<vs.length:=by exact(ln 0x800100041080010044108421981610cc0b0894198d6210804).1 yW (Eq.refl (vs.length-(j+1)))
  refine codeAny_builtin PySem.F.entry_min_loop ?_
  refine aa (Around.under_plainId PySem.F.plain_min_loop _) ?_
  refine xE (rM.lst (.tail _ (.head _))) λnS eS=>?_
  show wpAny _ A.in1 (seqItems? (.ref S)>>=_) _ _ s
  refine wpAny_bind (wpAny_seqItems eS rfl ?_)
  show wpAny _ A.in1 (tryCatch (pyNext (.ref it)) _>>=_) _ _ s
  refine wpAny_bind (wpAny_tryCatch ((gw (A:=A.in1) (vs:=vs) hh).tE aC (.inl (.tail _ hl)) rM λv hv h1 aX S1=>?_))
  refine i9 (hi v (List.mem_of_getElem? hv)) λr1 x1 t1 p1 zr26 sG vQ=>?_;subst zr26
  refine i9 (hi vb (List.mem_of_mem_take fV)) λr2 x2 t2 p2 zr27 dH vS=>?_;subst zr27
  have bF:x1≠x2:=by
   refine aa (Eq.symm vQ) (aa (Eq.symm vS) ?_)
   intro e
   refine xE (List.getElem?_of_mem fV) λi qt=>?_
   have qu:i<j+1:=by
    have:=(List.getElem?_eq_some_iff.mp qt).1
    rw[List.length_take] at this
    exact(ln 0x40108441080200882108661580220cc2b1ac6008804).1 this (Eq.refl (min (j+1) vs.length))
   rw[List.getElem?_take_of_lt qu] at qt
   have g1:(vs.map key)[j+1]?=some (key (.ref r1)):=by refine aa (List.getElem?_map) (aa hv ?_);rfl
   have g2:(vs.map key)[i]?=some (key (.ref r2)):=by refine aa (List.getElem?_map) (aa qt ?_);rfl
   rw[<-e] at g2
   refine xE (List.getElem?_eq_some_iff.mp g1) λl1 e1=>?_
   refine xE (List.getElem?_eq_some_iff.mp g2) λl2 e2=>?_
   exact(List.pairwise_iff_getElem.mp hk) i (j+1) l2 l1 qu (e2.trans e1.symm)
  have ru:vs.take (j+1+1)=vs.take (j+1)++[.ref r1]:=by refine aa List.take_add_one (aa hv ?_);rfl
  show wpAny _ A.in1 (tryCatch (holding [_,_] (richCompare .Lt (.ref r1) (.ref r2)>>=_)) _>>=_) _ _ _
  refine wpAny_bind (wpAny_tryCatch (wpAny_holding (wpAny_bind (iu (x9 (by show A.units+1<cLine;exact hu) (.tail _ (.tail _ sG)) (.tail _ (.tail _ dH)) bF ⟨rfl,rfl,rfl⟩) S1 λh2 bC S2=>?_))))
  refine wpAny_bind (wpAny_holding (wpAny_truthy_bool ?_))
  refine wpAny_bind (wpAny_letGo (wpAny_pure ?_))
  refine xE (S2.lst (.tail _ (.head _))) λnS eS=>?_
  by_cases hb:x1<x2
  ·simp only [hb,decide_true,if_true]
   refine wpAny_bind ?_
   refine wpAny_updateSeq eS rfl (wpAny_bind (wpAny_letGo ?_))
   refine aa vC ?_
   refine wpAny_pure ⟨plainId_quiet PySem.F.plain_min_loop _,ih (j+1) (.ref r1) _ R (by exact Y8 yW (Eq.refl (vs.length-(j+1))) (Eq.refl (vs.length-(j+1+1)))) aC ?_ (by refine aa ru ?_;simp) (λu hu=>?_) λv' h' aB S' a b=>hR v' h' aB S' a b⟩
   ·have:=(S2.perm (.swap _ _ _)).upd (P':=af [.ref r1, .ref r1]) (Heap.SameBut.update h2 S (Obj.mapSeq λ_=> #[.ref r1, .ref r1])) (Heap.get?_update_self _ eS (by rfl)) ⟨_,by simp[Obj.mapSeq];rfl⟩
    exact this.perm (.swap _ _ _)
   ·rw[ru] at hu
    rcases List.mem_append.mp hu with hu|hu
    ·have:=iS u hu
     rw[vS] at this
     refine aa vQ ?_;exact Kr hb this
    ·rw[List.mem_singleton] at hu;subst hu;exact Int.le_refl _
  ·simp only [hb,decide_false,Bool.false_eq_true,if_false]
   refine wpAny_bind (wpAny_letGo ?_)
   refine aa vC ?_
   refine wpAny_pure ⟨plainId_quiet PySem.F.plain_min_loop _,ih (j+1) (.ref r2) _ R (by lia) aC S2 (by refine aa ru ?_;exact List.mem_append_left _ fV) (λu hu=>?_) λv' h' aB S' a b=>hR v' h' aB S' a b⟩
   rw[ru] at hu
   rcases List.mem_append.mp hu with hu|hu
   ·exact iS u hu
   ·rw[List.mem_singleton] at hu;subst hu;refine aa vQ (aa vS ?_);exact Int.not_lt.mp ‹_›
theorem R8 (hh:A.handled=none)(hu:A.units+1<cLine)(hl:(l,af vs)∈H)(hi:fP key H vs)(hk:(vs.map key).Nodup)(bF:0<vs.length)
 (h:∀v,v∈vs->(∀u∈vs,key v≤key u)->Q v m H):AW (model prog w) A h₀ L (call (.builtin "min") [.ref l]) Q m H:=λs R E S0 k=>by
 have vC:(toString "min"++toString ".loop":String)="min.loop":=by decide
 refine call_function_tree PySem.F.kind_min PySem.F.plain_min PySem.F.entry_min (PySem.F.args_min1 _) ?_
 show wpAny _ A.in1 (Builtin.Builtins.bindParams "min" ["key","default"] 0 ⟨[],[]⟩>>=_) _ _ s
 refine wpAny_bind (wpAny_of_eq (show Builtin.Builtins.bindParams "min" ["key","default"] 0 ⟨[],[]⟩=pure [none,none] from rfl) ?_)
 refine wpAny_bind (wpAny_pure ?_)
 refine wpAny_bind (gZ (A:=A.in1) (Q:=λv m' H'=>∃it,v= .ref it∧m'=m∧H'=(it,fu l 0)::H) (.inl hl) (λit=>⟨it,rfl,rfl,rfl⟩) _ _ _ S0 λv m1 H1 h1 aX S1 q1=>?_)
 refine cQ q1 λit zr32 zr33 zr34=>?_;clear q1;subst zr32;subst zr33;subst zr34
 refine wpAny_bind (wpAny_newObj_type ?_)
 refine aa vC ?_
 have S2:=S1.cL (o:={cls:= .type "list",data:= .seq #[]}) (P:=af []) ⟨0,rfl⟩
 generalize h1.objs.size=S at S2 ⊢
 refine wpAny_pure ⟨plainId_quiet PySem.F.plain_min_loop _,?_⟩
 refine codeAny_builtin PySem.F.entry_min_loop ?_
 refine aa (Around.under_plainId PySem.F.plain_min_loop _) ?_
 refine xE (S2.lst (.head _)) λnS eS=>?_
 refine wpAny_bind (m:=seqItems? (.ref S)) (wpAny_seqItems eS rfl ?_)
 refine wpAny_bind (m:=tryCatch (pyNext (.ref it)) _) ?_
 refine wpAny_tryCatch ((gw (A:=A.in1) (vs:=vs) hh).tE bF (.inl (.tail _ hl)) (S2.perm (.swap _ _ _)) λv hv h3 aR S3=>?_)
 refine xE (S3.lst (.tail _ (.head _))) λnS eS=>?_
 refine wpAny_bind (m:=updateSeq S (λ_=> #[v,v])) ?_
 refine wpAny_updateSeq eS rfl ?_
 refine aa vC ?_
 have ru:vs.take (0+1)=[v]:=by refine aa List.take_add_one (aa hv ?_);rfl
 refine wpAny_pure ⟨plainId_quiet PySem.F.plain_min_loop _,ZV (h₀:=h₀) (L:=L) (m:=m1) hh hu hl hi hk _ 0 v _ _ rfl bF ?_ (by refine aa ru ?_;exact List.mem_cons_self ..) (λu hu=>by rw[ru,List.mem_singleton] at hu;subst hu;exact Int.le_refl _) λv' h' aB S' a b=>?_⟩
 ·have:=(S3.perm (.swap _ _ _)).upd (P':=af [v,v]) (Heap.SameBut.update h3 S (Obj.mapSeq λ_=> #[v,v])) (Heap.get?_update_self _ eS (by rfl)) ⟨_,by simp[Obj.mapSeq];rfl⟩
  exact this.perm (.swap _ _ _)
 ·exact k _ _ _ _ _ S' (h _ a b)
end
end
section
noncomputable def gy {α:Type}(lt:Nat->Nat->Bool):KasT α->α
 | .ret a=>a
 | .ask i j k=>gy lt (k (lt i j))
noncomputable def lY {α:Type}(n:Nat):KasT α->Bool
 | .ret _=>true
 | .ask i j k=>decide (i<n)&&decide (j<n)&&decide (i≠j)&&lY n (k true)&&lY n (k false)
theorem C5:lY 2 (kas_sort 2)=true:=by decide+kernel
theorem JJ:lY 3 (kas_sort 3)=true:=by decide+kernel
theorem JF {P:Shared->Prop}{cmp:Nat->Nat->(Bool->Shared->Prop)->Shared->Prop}{lt:Nat->Nat->Bool}{n:Nat}
 (hc:∀i j C s,i<n->j<n->i≠j->P s->(∀s',P s'->C (lt i j) s')->cmp i j C s):∀(t:KasT α) (s:Shared),lY n t=true->P s->(∀s',P s'->Q (gy lt t) s')->t.kasWp cmp Q s
 | .ret a,s,_,hp,hq=>hq s hp
 | .ask i j k,s,ho,hp,hq=>by
   unfold lY at ho
   simp only [Bool.and_eq_true,decide_eq_true_eq] at ho
   refine xA ho λzr348 h5=>?_;clear ho;refine xA zr348 λzr349 h4=>?_;refine xA zr349 λzr350 h3=>?_;refine xA zr350 λh1 h2=>?_
   refine hc i j _ s h1 h2 h3 hp λs' fh=>?_
   refine JF hc (k (lt i j)) s' ?_ fh hq
   cases lt i j with
   |true=>exact h4
   |false=>exact h5
theorem JG {lt lt':Nat->Nat->Bool}{n:Nat}(h:∀i j,i<n->j<n->i≠j->lt i j=lt' i j):∀t:KasT α,lY n t=true->gy lt t=gy lt' t
 | .ret a,_=>rfl
 | .ask i j k,ho=>by
   unfold lY at ho
   simp only [Bool.and_eq_true,decide_eq_true_eq] at ho
   refine xA ho λzr351 h5=>?_;clear ho;refine xA zr351 λzr352 h4=>?_;refine xA zr352 λzr353 h3=>?_;refine xA zr353 λh1 h2=>?_
   show gy lt (k (lt i j))=gy lt' (k (lt' i j))
   refine aa (h i j h1 h2 h3) ?_
   refine JG h _ ?_
   cases lt' i j with
   |true=>exact h4
   |false=>exact h5
noncomputable def rk2:List (List Nat):=[[0,1],[1,0]]
noncomputable def rk3:List (List Nat):=[[0,1,2],[0,2,1],[1,0,2],[1,2,0],[2,0,1],[2,1,0]]
noncomputable def JI (n:Nat)(r:List Nat):Bool:=
 let p:=gy (λi j=>decide (r.getD i 0<r.getD j 0)) (kas_sort n)
 decide (p.toList.map (λi=>r.getD i 0)=List.range n)&&p.toList.all λi=>decide (i<n)
theorem kgood2:∀r∈rk2,JI 2 r=true:=by decide+kernel
theorem kgood3:∀r∈rk3,JI 3 r=true:=by decide+kernel
end
section
theorem DU (r:List Nat)(p:Array Nat)(ho:lY n (kas_sort n)=true)(hp:gy (λi j=>decide (r.getD i 0<r.getD j 0)) (kas_sort n)=p)(aC:∀i j,i<n->j<n->i≠j->lt i j=decide (r.getD i 0<r.getD j 0)):gy lt (kas_sort n)=p:=by
 exact aa (JG aC _ ho) (aa hp rfl)
theorem ZP {f:Nat->Int}{g:Nat->Nat}(VH:(f 0<f 1)↔(g 0<g 1))(uX:(f 1<f 0)↔(g 1<g 0))(VI:(f 0<f 2)↔(g 0<g 2))(VK:(f 2<f 0)↔(g 2<g 0))(VJ:(f 1<f 2)↔(g 1<g 2))(VL:(f 2<f 1)↔(g 2<g 1)):
 ∀i j,i<3->j<3->i≠j->decide (f i<f j)=decide (g i<g j):=by
 intro i j hi hj bF
 match i,j,hi,hj with
 |0,0,_,_=>exact absurd rfl bF
 |0,1,_,_=>exact decide_eq_decide.mpr VH
 |0,2,_,_=>exact decide_eq_decide.mpr VI
 |1,0,_,_=>exact decide_eq_decide.mpr uX
 |1,1,_,_=>exact absurd rfl bF
 |1,2,_,_=>exact decide_eq_decide.mpr VJ
 |2,0,_,_=>exact decide_eq_decide.mpr VK
 |2,1,_,_=>exact decide_eq_decide.mpr VL
 |2,2,_,_=>exact absurd rfl bF
theorem sorted2 (key:Value->Int)(x y:Value)(h:key x≠key y):∃q:List Value,(gy (λi j=>decide (key ([x,y].getD i .none)<key ([x,y].getD j .none))) (kas_sort 2)).toList.map (λi=>[x,y].getD i .none)=q∧q.Perm [x,y]∧q.Pairwise λa b=>key a<key b:=by
 by_cases h1:key x<key y
 ·rw[DU [0,1] #[0,1] C5 (by decide+kernel) λi j hi hj bF=>by
   match i,j,hi,hj with
   |0,0,_,_=>exact absurd rfl bF
   |0,1,_,_=>exact decide_eq_decide.mpr ⟨λ_=>by decide,λ_=>h1⟩
   |1,0,_,_=>exact decide_eq_decide.mpr ⟨λ(q:key y<key x)=>by exact(ln 0x42010421080200902020842).1 h1 q,λq=>absurd q (by decide)⟩
   |1,1,_,_=>exact absurd rfl bF]
  exact⟨_,rfl, .refl _,by simpa using h1⟩
 ·have h2:key y<key x:=by exact YZ h h1
  rw[DU [1,0] #[1,0] C5 (by decide+kernel) λi j hi hj bF=>by
   match i,j,hi,hj with
   |0,0,_,_=>exact absurd rfl bF
   |0,1,_,_=>exact decide_eq_decide.mpr ⟨λ(q:key x<key y)=>by exact absurd ‹_› ‹_›,λq=>absurd q (by decide)⟩
   |1,0,_,_=>exact decide_eq_decide.mpr ⟨λ_=>by decide,λ_=>h2⟩
   |1,1,_,_=>exact absurd rfl bF]
  exact⟨_,rfl, .swap _ _ _,by simpa using h2⟩
theorem sorted3 (key:Value->Int)(x y z:Value)(h1:key x≠key y)(h2:key y≠key z)(h3:key x≠key z):∃q:List Value,(gy (λi j=>decide (key ([x,y,z].getD i .none)<key ([x,y,z].getD j .none))) (kas_sort 3)).toList.map (λi=>[x,y,z].getD i .none)=q∧q.Perm [x,y,z]∧q.Pairwise λa b=>key a<key b:=by
 have go:∀(r:List Nat) (p:Array Nat),gy (λi j=>decide (r.getD i 0<r.getD j 0)) (kas_sort 3)=p->
  ((key x<key y)↔(r.getD 0 0<r.getD 1 0))->((key y<key x)↔(r.getD 1 0<r.getD 0 0))->((key x<key z)↔(r.getD 0 0<r.getD 2 0))->((key z<key x)↔(r.getD 2 0<r.getD 0 0))->((key y<key z)↔(r.getD 1 0<r.getD 2 0))->((key z<key y)↔(r.getD 2 0<r.getD 1 0))->
  gy (λi j=>decide (key ([x,y,z].getD i .none)<key ([x,y,z].getD j .none))) (kas_sort 3)=p:=λr p hp a b c d e f=>
  DU r p JJ hp (ZP (f:=λi=>key ([x,y,z].getD i .none)) (g:=λi=>r.getD i 0) a b c d e f)
 by_cases a:key x<key y
 ·by_cases b:key y<key z
  ·refine aa (go [0,1,2] #[0,1,2] (by decide+kernel) (by simp;assumption) (by simp;exact Int.le_of_lt ‹_›) (by simp;exact Dm a b) (by simp;exact(ln 0x42110421080611104020860).1 a b) (by simp;exact Y9 b) (by simp;exact Df b)) ?_
   exact⟨_,rfl, .refl _,by simp;exact(ln 0x21104211040110421104820102021ce20902020860).1 a b⟩
  ·by_cases c:key x<key z
   ·refine aa (go [0,2,1] #[0,2,1] (by decide+kernel) (by simp;lia) (by simp;lia) (by simp;lia) (by simp;lia) (by simp;exact Int.not_lt.mp ‹_›) (by simp;lia)) ?_
    exact⟨_,rfl, .cons _ (.swap _ _ _),by simp;exact(ln 0x20004400842200021104210840208422090402040439c20204443044530c60).1 h2 b c⟩
   ·refine aa (go [1,2,0] #[2,0,1] (by decide+kernel) (by simp;lia) (by simp;lia) (by simp;exact zT c) (by simp;lia) (by simp;exact Int.not_lt.mp ‹_›) (by simp;exact(ln 0x842208421010022182220860).1 a c)) ?_
    exact⟨_,rfl,(List.perm_append_comm (l₁:=[z]) (l₂:=[x,y])),by simp;exact(ln 0x1004400842208001104210802208422090402040439c01218412002530c60).1 h3 a c⟩
 ·by_cases b:key y<key z
  ·by_cases c:key x<key z
   ·refine aa (go [1,0,2] #[1,0,2] (by decide+kernel) (by simp;lia) (by simp;lia) (by simp;lia) (by simp;lia) (by simp;assumption) (by simp;exact Int.le_of_lt ‹_›)) ?_
    exact⟨_,rfl, .swap _ _ _,by simp;exact(ln 0x84400842208001104210840208422090402040439c41200243002530c60).1 h1 a c⟩
   ·rw[go [2,0,1] #[1,2,0] (by decide+kernel) (by simp;lia) (by simp;lia) (by simp;lia) (by simp;lia) (by simp;lia) (by simp;lia)]
    exact⟨_,rfl,(List.perm_append_comm (l₁:=[y,z]) (l₂:=[x])),by simp;exact(ln 0x20004400842200401104210802208422090402040439c22218202044530c60).1 h3 b c⟩
  ·rw[go [2,1,0] #[2,1,0] (by decide+kernel) (by simp;lia) (by simp;lia) (by simp;exact(ln 0x10844108420180443082430860).1 a b) (by simp;exact(ln 0x4000882108421008210842020044308243002530c60).1 h3 a b) (by simp;lia) (by simp;lia)]
   exact⟨_,rfl,List.reverse_perm [x,y,z],by simp;exact(ln 0x40000441000211002000441084010044108421008210044120804080873802430444300253044531060).1 h1 h2 a b⟩
end
section
theorem sorted_rev (key:Value->Int)(h2:2≤vs.length)(h3:vs.length≤3)(hk:(vs.map key).Nodup):
 lY vs.length (kas_sort vs.length)=true∧∀out,out=katRev true ((gy (λi j=>decide (key ((katRev true vs).getD i .none)<key ((katRev true vs).getD j .none))) (kas_sort vs.length)).toList.map λi=>(katRev true vs).getD i .none)->out.Perm vs∧out.Pairwise λa b=>key b<key a:=by
 rcases three h3 with rfl|⟨x,rfl⟩|⟨x,y,rfl⟩|⟨x,y,z,rfl⟩
 ·exact absurd h2 (by show¬2≤0;decide)
 ·exact absurd h2 (by show¬2≤1;decide)
 ·refine⟨C5,?_⟩
  rintro out rfl
  have bF:key y≠key x:=by simp at hk;exact λe=>hk e.symm
  refine cQ (sorted2 key y x bF) λq e p1 p2=>?_
  show(List.reverse (List.map (λi=>[y,x].getD i .none) (gy (λi j=>decide (key ([y,x].getD i .none)<key ([y,x].getD j .none))) (kas_sort 2)).toList)).Perm [x,y]∧_
  rw[e]
  refine⟨(List.reverse_perm _).trans (p1.trans (.swap _ _ _)),?_⟩
  show(List.reverse (List.map (λi=>[y,x].getD i .none) (gy (λi j=>decide (key ([y,x].getD i .none)<key ([y,x].getD j .none))) (kas_sort 2)).toList)).Pairwise _
  rw[e,List.pairwise_reverse]
  exact p2
 ·refine⟨JJ,?_⟩
  rintro out rfl
  simp at hk
  refine cQ (sorted3 key z y x (λe=>hk.2 e.symm) (λe=>hk.1.1 e.symm) (λe=>hk.1.2 e.symm)) λq e p1 p2=>?_
  show(List.reverse (List.map (λi=>[z,y,x].getD i .none) (gy (λi j=>decide (key ([z,y,x].getD i .none)<key ([z,y,x].getD j .none))) (kas_sort 3)).toList)).Perm [x,y,z]∧_
  rw[e]
  refine⟨(List.reverse_perm _).trans (p1.trans (List.reverse_perm [x,y,z])),?_⟩
  show(List.reverse (List.map (λi=>[z,y,x].getD i .none) (gy (λi j=>decide (key ([z,y,x].getD i .none)<key ([z,y,x].getD j .none))) (kas_sort 3)).toList)).Pairwise _
  rw[e,List.pairwise_reverse]
  exact p2
theorem JD (S:St h₀ L h m H):∀{vs:List Value},fP key H vs->∃fs,KatTups h vs fs∧fs.length=vs.length∧∀f∈fs,∃x t,f= .int x t
 |[],_=>⟨[], .nil,rfl,λ_ h=>nomatch h⟩
 |v::vs,hi=>by
  refine cQ (JD S (vs:=vs) λu hu=>hi u (.tail _ hu)) λfs h1 h2 h3=>?_
  refine i9 (hi v (.head _)) λr x tx p zr354 hm hx=>?_;subst zr354
  refine xE (S.tup hm) λn e=>?_
  exact⟨.int x tx::fs, .cons e rfl rfl rfl h1,by exact aa List.length_cons (aa List.length_cons (aa h2 rfl)),λf hf=>by
   rcases List.mem_cons.mp hf with rfl|hf
   ·exact⟨_,_,rfl⟩
   ·exact h3 f hf⟩
section
variable {prog:Program}{w:World}{A:Around}{h₀:Heap}{L l a:Addr}{m:Loc}{H:Led}{vs:List Value}{key:Value->Int}{E:Value->Shared->Prop}
set_option maxHeartbeats 2000000 in
theorem sort_rev_tree (hi:fP key H vs)(hk:(vs.map key).Nodup)(h3:vs.length≤3)(S0:St h₀ L s.heap m ((a,af vs)::H))
 (h:∀out h' aB,out.Perm vs->(out.Pairwise λa b=>key b<key a)->St h₀ L h' m ((a,af out)::H)->P (.done (.ret .none)) {s with heap:=h',toks:=aB}):
 wpAny (model prog w) A (Builtin.«list.sort» ⟨[.ref a],[(Str.ofString "reverse", .bool true)]⟩) P E s:=by
 have aP:(1000:Nat)≤sizeLine:=by decide
 refine aa (list_sort_rev ..) ?_
 refine xE (S0.lst (.head _)) λn ho=>?_
 refine wpAny_bind (listItems_at ho rfl ?_)
 refine wpAny_bind (listUpdate_at ho rfl ?_ (by refine aa List.size_toArray ?_;exact Nat.le_trans ‹_› (by decide)) (Nat.zero_le _))
 refine xE (show∃e1,(s.heap.update a (Obj.mapSeq λ_=>(#[]:Array Value))).get? a=some (seqObj "list" #[] e1) from⟨_,get?_update_seq ho λ_=> #[]⟩) λn1 ze=>?_
 have S1:=S0.upd (P':=λo=>o=seqObj "list" #[] n1) (Heap.SameBut.update s.heap a (Obj.mapSeq λ_=>(#[]:Array Value))) ze rfl
 refine wpAny_bind (seqEpoch_at ze rfl ?_)
 refine wpAny_bind (wpAny_newTuple ?_ (by show vs.length≤_;exact @JU vs.length sizeLine h3 aP))
 refine wpAny_bind (wpAny_newList ?_ (Nat.zero_le _))
 refine wpAny_holding ?_
 have S2:=(S1.cL (o:={cls:= .type "tuple",data:= .seq vs.toArray}) (P:=bf vs) ⟨0,rfl⟩).cL (o:={cls:= .type "list",data:= .seq ([]:List Value).toArray}) (P:=af []) ⟨0,rfl⟩
 have S3:=S2.sub ((List.sublist_cons_self _ _).trans (List.sublist_cons_self _ _))
 dsimp only
 refine aa (if_pos rfl) ?_
 refine wpAny_bind (wpAny_rule ?_)
 generalize ((s.heap.update a (Obj.mapSeq λ_=>(#[]:Array Value))).push {cls:= .type "tuple",data:= .seq vs.toArray}).push {cls:= .type "list",data:= .seq ([]:List Value).toArray}=hx at S3 ⊢
 have fin:∀(ly:SortSt) (s':Shared) (out:List Value),(∃h' aB,s'={s with heap:=h',toks:=aB})->St h₀ L s'.heap m ((a,λo=>o=seqObj "list" #[] n1)::H)->failedOf ly=none->((arrOf ly).map (·.2)).reverse=out.toArray->out.Perm vs->(out.Pairwise λa b=>key b<key a)->
  wpAny (model prog w) A (do
   let touched:=(<-seqEpoch a) !=n1
   Builtin.List.listUpdate (.ref a) λ_=>if true=true then((arrOf ly).map (·.2)).reverse else(arrOf ly).map (·.2)
   if let some e:=failedOf ly then rule "list.sort.comparison-raised";throw e
   if touched then rule "list.sort.modified";raiseError "ValueError" "list modified during sort"
   ret .none) P E s':=by
  intro ly s' out MJ S' hf gu hp sL;refine n6 MJ λh' aB zr357=>?_;clear MJ;subst zr357
  refine ah (S'.get (.head _)) λo' e' zr358=>?_;subst zr358
  refine wpAny_bind (seqEpoch_at e' rfl ?_)
  refine aa (if_pos rfl) (aa gu ?_)
  refine wpAny_bind (listUpdate_at e' rfl ?_ (Nat.zero_le _) (by show out.toArray.size≤_;refine aa List.size_toArray (aa hp.length_eq ?_);exact Nat.le_trans ‹_› (by decide)))
  refine aa hf ?_
  simp only [bne_self_eq_false,Bool.false_eq_true,if_false]
  refine wpAny_pure (h out _ _ hp sL (S'.upd (P':=af out) (Heap.SameBut.update _ a (Obj.mapSeq λ_=>out.toArray)) (Heap.get?_update_self _ e' (by rfl)) ⟨_,by simp[Obj.mapSeq];rfl⟩))
 by_cases hz:vs.toArray.size<2
 ·refine aa (if_pos hz) (aa (if_pos hz) ?_)
  refine wpAny_bind (wpAny_pure ?_)
  refine aa (StateT.run_pure ..) ?_
  refine wpAny_bind (wpAny_pure ?_)
  refine fin (SortSt.mk' general' (if true=true then(vs.toArray.zip vs.toArray).reverse else vs.toArray.zip vs.toArray) #[] 7 none) _ vs ⟨_,s.toks,rfl⟩ S3 rfl ?_ (.refl _) ?_
  ·match vs,hz with
   |[],_=>show(Array.map (λx=>x.2) (if true=true then((#[]:Array Value).zip (#[]:Array Value)).reverse else(#[]:Array Value).zip (#[]:Array Value))).reverse=_;with_unfolding_all rfl
   |[x],_=>show(Array.map (λx=>x.2) (if true=true then(#[x].zip #[x]).reverse else#[x].zip #[x])).reverse=_;with_unfolding_all rfl
   |_::_::_,hz=>simp at hz;exact False.elim (Dk hz)
  ·match vs,hz with
   |[],_=>exact .nil
   |[x],_=>exact List.pairwise_singleton _ _
   |_::_::_,hz=>simp at hz;exact False.elim (Dk hz)
 ·refine aa (if_neg hz) (aa (if_neg hz) ?_)
  have h2:2≤vs.length:=by rw[List.size_toArray] at hz;exact Nat.le_of_not_lt ‹_›
  refine cQ (JD S3 (vs:=vs) λu hu=>by
   obtain ⟨r,x,tx,p,e,hm,hx⟩:=hi u hu
   exact⟨r,x,tx,p,e, .tail _ hm,hx⟩) λfs WH lM WI=>?_
  refine xA (sorted_rev key h2 h3 hk) λho XH=>?_
  refine wpAny_bind (kat_kind (T:= .type "int") WH (by exact(ln 0x210044108400984201045300802).1 h2 lM) (λf hf=>by
   refine n6 (WI f hf) λx t zr359=>?_;subst zr359
   exact Looks.of_pure rfl) (by rfl) ?_)
  refine aa (kat_pairs true rfl) ?_
  have Cp:(katRev true vs).length=vs.length:=kat_len true vs
  have VN:(katRev true vs).length<64:=by exact(ln 0x1004220842200bf30042010e6100802).1 h3 Cp
  refine wpAny_bind (wpAny_mono (kat_run (ks:=katRev true vs) (vs:=katRev true vs) (κ:=tuples' (Value.type "int" !=Value.type "tuple"))
   (Q:=λly s'=>∃p:Array Nat,arrOf ly=p.map (kas_item ((katRev true vs).toArray.zip (katRev true vs).toArray))∧failedOf ly=none∧(∃h' aB,s'={s with heap:=h',toks:=aB})∧St h₀ L s'.heap m ((a,λo=>o=seqObj "list" #[] n1)::H)∧p=gy (λi j=>decide (key ((katRev true vs).getD i .none)<key ((katRev true vs).getD j .none))) (kas_sort vs.length))
   (G:=λp s'=>(∃h' aB,s'={s with heap:=h',toks:=aB})∧St h₀ L s'.heap m ((a,λo=>o=seqObj "list" #[] n1)::H)∧p=gy (λi j=>decide (key ((katRev true vs).getD i .none)<key ((katRev true vs).getD j .none))) (kas_sort vs.length))
   rfl (by exact Nat.lt_of_lt_of_eq ‹_› (Eq.symm ‹_›)) VN (λp' ly s' a1 a2 a3 a4=>⟨p',a2,a3,a4.1,a4.2.1,a4.2.2⟩) ?_) ?_ λ_ _ x=>x)
  ·refine aa Cp ?_
   refine JF (P:=λs'=>(∃h' aB,s'={s with heap:=h',toks:=aB})∧St h₀ L s'.heap m ((a,λo=>o=seqObj "list" #[] n1)::H)) (lt:=λi j=>decide (key ((katRev true vs).getD i .none)<key ((katRev true vs).getD j .none))) (n:=vs.length) ?_ _ _ ho ⟨⟨_,s.toks,rfl⟩,S3⟩ λs' hp=>⟨hp.1,hp.2,rfl⟩
   intro i j C s' qt WZ bF MK hC;refine xA MK λzr360 S'=>?_;clear MK;refine n6 zr360 λh' aB zr361=>?_;subst zr361
   have Il:∀i,i<vs.length->(katRev true vs).getD i .none∈vs:=λi qt=>by
    have hr:(katRev true vs).getD i .none∈katRev true vs:=by
     refine aa (List.getD_eq_getElem?_getD) (aa (List.getElem?_eq_getElem (by exact Nat.lt_of_lt_of_eq ‹_› (Eq.symm ‹_›))) ?_)
     exact List.getElem_mem _
    have e:katRev true vs=vs.reverse:=rfl
    rw[e] at hr
    exact List.mem_reverse.mp hr
   have zc:key ((katRev true vs).getD i .none)≠key ((katRev true vs).getD j .none):=by
    have IC:((katRev true vs).map key).Nodup:=by
     have e:katRev true vs=vs.reverse:=rfl
     refine aa e (aa List.map_reverse ?_)
     exact(List.reverse_perm _).nodup_iff.mpr hk
    have gi:((katRev true vs).map key)[i]?=some (key ((katRev true vs).getD i .none)):=by
     refine aa (List.getElem?_map) (aa (List.getD_eq_getElem?_getD) (aa (List.getElem?_eq_getElem (by exact Ka Cp qt)) ?_));rfl
    have gj:((katRev true vs).map key)[j]?=some (key ((katRev true vs).getD j .none)):=by
     refine aa (List.getElem?_map) (aa (List.getD_eq_getElem?_getD) (aa (List.getElem?_eq_getElem (by lia)) ?_));rfl
    refine xE (List.getElem?_eq_some_iff.mp gi) λl1 e1=>?_
    refine xE (List.getElem?_eq_some_iff.mp gj) λl2 e2=>?_
    rcases Nat.lt_or_gt_of_ne bF with aC|aC
    ·refine aa (Eq.symm e1) (aa (Eq.symm e2) ?_);exact(List.pairwise_iff_getElem.mp IC) i j l1 l2 aC
    ·refine aa (Eq.symm e1) (aa (Eq.symm e2) ?_);exact λe=>(List.pairwise_iff_getElem.mp IC) j i l2 l1 aC e.symm
   refine i9 (hi _ (Il i qt)) λr1 x1 t1 p1 e1 m1 k1=>?_
   refine i9 (hi _ (Il j WZ)) λr2 x2 t2 p2 e2 m2 k2=>?_
   refine xE (S'.tup (.tail _ m1)) λc1 g1=>?_
   refine xE (S'.tup (.tail _ m2)) λc2 g2=>?_
   rw[k1,k2] at zc hC
   show wpAny (model prog w) A (keyLt' _ ((katRev true vs).getD i .none) ((katRev true vs).getD j .none)) C (λ_ _=>False) _
   refine aa e1 (aa e2 ?_)
   refine kat_lt (b:=true) g1 rfl g2 rfl ?_
   refine kat_cons ?_
   refine wpAny_eqBool_int ?_
   refine aa (show(x1==x2)=false from beq_eq_false_iff_ne.mpr zc) ?_
   refine kat_no ?_
   refine oneLt_int ?_
   exact hC _ ⟨⟨_,_,rfl⟩,S'⟩
  ·intro zq108 s' ML;obtain ⟨⟨⟩,ly⟩:=zq108;refine xEAAAA ML λp V5 hf pn S' zr364=>?_;clear ML;subst zr364
   dsimp only
   refine xA (XH _ rfl) λq1 q2=>?_
   refine fin ly s' _ pn S' hf ?_ q1 q2
   refine aa (kat_snds rfl V5) ?_
   simp[katRev]
end
end
section
section
variable {prog:Program}{w:World}{A:Around}{h₀:Heap}{L l a:Addr}{m:Loc}{H:Led}{vs:List Value}{key:Value->Int}{env:Env}
set_option maxHeartbeats 2000000 in
theorem Te (hl:(l,af vs)∈H)(hi:fP key H vs)(hk:(vs.map key).Nodup)(h3:vs.length≤3)
 (h:∀D out,out.Perm vs->(out.Pairwise λa b=>key b<key a)->Q (.ref D) m ((D,af out)::H)):
 AW (model prog w) A h₀ L (call (.builtin "sorted") [.ref l] [(Str.ofString "reverse", .bool true)]) Q m H:=λs R E S k=>by
 have aP:(1000:Nat)≤sizeLine:=by decide
 refine xE (S.lst hl) λn ho=>?_
 have IJ:s.heap.IsList l vs.toArray:=⟨_,ho,rfl,n,rfl⟩
 refine call_function_entry_kw kind_sorted plain_sorted entry_sorted (args_sorted_rev _ _) ?_
 unfold Builtin.«sorted»
 refine wpAny_bind (m:=checkCount "sorted" 1 1 _) (wpAny_pure ?_)
 refine wpAny_bind (collect_list IJ ?_ (by exact Nat.le_trans ‹_› (by decide)))
 refine wpAny_bind (wpAny_newList ?_ (by exact @JU vs.length sizeLine h3 aP))
 have S1:=(S.cL (o:=seqObj "list" #[] 0) (P:=af []) ⟨0,rfl⟩)
 have Cb:=Heap.get?_push_size s.heap (o:=seqObj "list" #[] 0) rfl
 have S2:=S1.upd (P':=af vs) (Heap.SameBut.update _ s.heap.objs.size (Obj.mapSeq (· ++vs.toArray))) (Heap.get?_update_self _ Cb (by rfl)) ⟨_,by simp[Obj.mapSeq];rfl⟩
 have S3:=(S2.cL (o:=seqObj "list" vs.toArray 0) (P:=af vs) ⟨0,rfl⟩).perm (.swap _ _ _)|>.sub (List.sublist_cons_self _ _)
 refine xE (S3.lst (.head _)) λnL eL=>?_
 refine wpAny_bind (wpAny_holding (wpAny_call_entry_kw slot_list_sort ⟨_,eL,rfl⟩ entry_list_sort ?body (args_list_sort_rev _ _)))
 refine sort_rev_tree hi hk h3 S3 λout h' aB p1 p2 S'=>⟨_,rfl,?_⟩
 refine wpAny_pure ⟨_,rfl,?_⟩
 exact k _ m _ _ _ S' (h _ _ p1 p2)
theorem Q3 {id:String}{e:Expr}{rest:List Expr}{nK:List Keyword}{Q:Value->Loc->Led->Prop}
 (h:AW (model prog w) A h₀ L (spliced (backTo pos (starEach (e::rest) env))) (λvs m H=>AW (model prog w) A h₀ L (evalAll ((backToKw pos (keywordEach nK env)).map (·.2)))
  (λkvs m H=>AW (model prog w) A h₀ L (call (.builtin id) vs (((backToKw pos (keywordEach nK env)).filterMap (·.1)).zip kvs)) Q m H) m H) m H)
 (he:backTo pos (starEach (e::rest) env)=(false,eval e env)::backTo pos (starEach rest env):=by with_unfolding_all rfl)
 (iG:(backTo pos (starEach (e::rest) env)).any (·.1)=false:=by with_unfolding_all rfl)
 (yJ:(backToKw pos (keywordEach nK env)).all (·.1.isSome)=true:=by with_unfolding_all rfl)
 (sF:(backToKw pos (keywordEach nK env)).any (·.1.isNone)=false:=by with_unfolding_all rfl):
 AW (model prog w) A h₀ L (callWith pos (.builtin id) [] (backTo pos (starEach (e::rest) env)) (backToKw pos (keywordEach nK env))) Q m H:=λs R E S k=>
 callWith_kw (h s _ E S λv1 m1 H1 h1 aX S1 q1=>q1 _ _ E S1 λv2 m2 H2 h2 bC S2 q2=>q2 _ R E S2 k) he iG yJ sF
end
end
section
noncomputable def ow (key:Value->Int)(vs:List Value):Prop:=∀v∈vs,key (vs.getD 0 .none)≤key v
theorem push_ok (key:Value->Int)(v:Value)(h:ow key vs)(hz:vs.length≤2):(jA key vs v).Perm (v::vs)∧ow key (jA key vs v):=by
 rcases three (Nat.le_trans hz (by decide)) with rfl|⟨a,rfl⟩|⟨a,b,rfl⟩|⟨a,b,c,rfl⟩
 ·refine⟨?_,?_⟩
  ·rfl
  ·intro u hu;simp[jA,er,dS] at hu ⊢;subst hu;exact Int.le_refl _
 ·by_cases hv:key v<key a
  ·have e:jA key [a] v=[v,a]:=by simp[jA,er,dS,hv]
   refine aa e ?_
   refine⟨.refl _,λu hu=>?_⟩
   simp at hu ⊢
   rcases hu with rfl|rfl<;>(first|exact zS|exact Df hv)
  ·have e:jA key [a] v=[a,v]:=by simp[jA,er,dS,hv]
   refine aa e ?_
   refine⟨.swap _ _ _,λu hu=>?_⟩
   simp at hu ⊢
   rcases hu with rfl|rfl<;>(first|exact zS|exact zT hv)
 ·have jQ:key a≤key b:=h b (by simp)
  by_cases hv:key v<key a
  ·have e:jA key [a,b] v=[v,b,a]:=by simp[jA,er,dS,hv]
   refine aa e ?_
   refine⟨.cons _ (.swap _ _ _),λu hu=>?_⟩
   simp at hu ⊢
   rcases hu with rfl|rfl|rfl<;>(first|exact zS|exact Kr hv jQ|exact Df hv)
  ·have e:jA key [a,b] v=[a,b,v]:=by simp[jA,er,dS,hv]
   refine aa e ?_
   refine⟨List.perm_append_comm (l₁:=[a,b]) (l₂:=[v]),λu hu=>?_⟩
   simp at hu ⊢
   rcases hu with rfl|rfl|rfl<;>(first|exact zS|exact Zq jQ|exact zT hv)
 ·exact absurd hz (by show¬3≤2;decide)
theorem pushpop_ok (key:Value->Int)(v:Value)(h:ow key vs)(hz:vs.length≤3):
 ((kg key vs v).1::(kg key vs v).2).Perm (v::vs)∧ow key (kg key vs v).2∧(∀u∈v::vs,key (kg key vs v).1≤key u):=by
 unfold kg
 by_cases hc:vs≠[]∧key (vs.getD 0 .none)<key v
 ·refine aa (if_pos hc) ?_
  rcases three hz with rfl|⟨a,rfl⟩|⟨a,b,rfl⟩|⟨a,b,d,rfl⟩
  ·exact absurd rfl hc.1
  ·have ha:key a<key v:=hc.2
   have e:cO key ([a].set 0 v) 0=[v]:=by rfl
   show(a::cO key ([a].set 0 v) 0).Perm _∧_
   refine aa e ?_
   refine⟨.swap _ _ _,?_,λu hu=>?_⟩
   ·show ow key (cO key ([a].set 0 v) 0)
    refine aa e ?_;intro u hu;simp at hu ⊢;subst hu;exact Int.le_refl _
   ·show key a≤key u
    simp at hu;rcases hu with rfl|rfl<;>lia
  ·have ha:key a<key v:=hc.2
   have jQ:key a≤key b:=h b (by simp)
   have e:cO key ([a,b].set 0 v) 0=if key v<key b then[v,b] else[b,v]:=by
    by_cases hv:key v<key b<;>simp[cO,fH,dG,er,dS,hv]
   show(a::cO key ([a,b].set 0 v) 0).Perm _∧ow key (cO key ([a,b].set 0 v) 0)∧∀u∈[v,a,b],key a≤key u
   refine aa e ?_
   refine⟨?_,?_,λu hu=>?_⟩
   ·split
    ·exact .swap _ _ _
    ·exact(List.perm_append_comm (l₁:=[a,b]) (l₂:=[v]))
   ·split
    ·intro u hu;simp at hu ⊢;rcases hu with rfl|rfl<;>lia
    ·intro u hu;simp at hu ⊢;rcases hu with rfl|rfl<;>lia
   ·simp at hu;rcases hu with rfl|rfl|rfl<;>lia
  ·have ha:key a<key v:=hc.2
   have jQ:key a≤key b:=h b (by simp)
   have yI:key a≤key d:=h d (by simp)
   show(a::cO key ([a,b,d].set 0 v) 0).Perm _∧ow key (cO key ([a,b,d].set 0 v) 0)∧∀u∈[v,a,b,d],key a≤key u
   have nE:∀u∈[v,a,b,d],key a≤key u:=λu hu=>by simp at hu;rcases hu with rfl|rfl|rfl|rfl<;>lia
   have e:cO key ([a,b,d].set 0 v) 0=[v,b,d]∧key v≤key b∧key v≤key d∨cO key ([a,b,d].set 0 v) 0=[b,v,d]∧key b≤key v∧key b≤key d∨cO key ([a,b,d].set 0 v) 0=[d,b,v]∧key d≤key v∧key d≤key b:=by
    by_cases h1:key b<key d
    ·by_cases h2:key v<key b
     ·exact .inl ⟨by simp[cO,fH,dG,er,dS,h1,h2],by lia,by exact(ln 0x42110421080620102220860).1 h1 h2⟩
     ·exact .inr (.inl ⟨by simp[cO,fH,dG,er,dS,h1,h2],by exact Int.not_lt.mp ‹_›,by lia⟩)
    ·by_cases h2:key v<key d
     ·exact .inl ⟨by simp[cO,fH,dG,er,dS,h1,h2],by exact(ln 0x84220842100c402082430860).1 h1 h2,by lia⟩
     ·exact .inr (.inr ⟨by simp[cO,fH,dG,er,dS,h1,h2],by exact zT h2,by lia⟩)
   rcases e with⟨e,g1,g2⟩|⟨e,g1,g2⟩|⟨e,g1,g2⟩
   all_goals refine aa e ?_
   ·exact⟨.swap _ _ _,λu hu=>by simp at hu ⊢;rcases hu with rfl|rfl|rfl<;>lia,nE⟩
   ·exact⟨(List.Perm.cons a (.swap _ _ _)).trans (.swap _ _ _),λu hu=>by simp at hu ⊢;rcases hu with rfl|rfl|rfl<;>lia,nE⟩
   ·refine⟨?_,λu hu=>by simp at hu ⊢;rcases hu with rfl|rfl|rfl<;>lia,nE⟩
    have:[a,d,b,v].Perm [v,a,d,b]:=List.perm_append_comm (l₁:=[a,d,b]) (l₂:=[v])
    exact this.trans (.cons _ (.cons _ (.swap _ _ _)))
 ·refine aa (if_neg hc) ?_
  refine⟨.refl _,h,λu hu=>?_⟩
  rcases List.mem_cons.mp hu with rfl|hu
  ·exact Int.le_refl _
  ·have bF:vs≠[]:=λe=>by rw[e] at hu;cases hu
   have h1:=h u hu
   have h2:¬key (vs.getD 0 .none)<key v:=λq=>hc ⟨bF,q⟩
   show key v≤key u
   lia
end
section
noncomputable def cu (sh:Nat->Nat)(i:Nat):Str:=if i<7 then bM i else host (i-7) (sh (i-7))
noncomputable def aI (sh:Nat->Nat)(i:Nat):Nat:=if i<7 then(chain i).getD 1 0 else sh (i-7)
noncomputable def fO (i:Nat):Nat:=if i<7 then 4-(chain i).length else 0
noncomputable def aQ (sh:Nat->Nat)(k i:Nat):Nat:=if i=0 then 7+k else(chain (sh k)).getD (i-1) 0
theorem BD:∀i<7,∀j<7,bM i=bM j->i=j:=by decide+kernel
theorem Xq:∀k<5,∀i<7,∀l<5,∀j<7,host k i=host l j->k=l:=by decide+kernel
theorem IV:∀k<5,∀i<7,∀j<7,host k i≠bM j:=by decide+kernel
theorem K9 (aA:∀k<5,sh k<7):lF (cu sh):=by
 intro i hi j hj e
 unfold cu at e
 by_cases h1:i<7
 ·rw[if_pos h1] at e
  by_cases h2:j<7
  ·rw[if_pos h2] at e;exact BD i h1 j h2 e
  ·rw[if_neg h2] at e
   exact absurd e.symm (IV (j-7) (by exact ln10 hj (Eq.refl (j-7))) _ (aA _ (by exact ln10 hj (Eq.refl (j-7)))) i h1)
 ·rw[if_neg h1] at e
  by_cases h2:j<7
  ·rw[if_pos h2] at e
   exact absurd e (IV (i-7) (by lia) _ (aA _ (by lia)) j h2)
  ·rw[if_neg h2] at e
   have:=Xq (i-7) (by lia) _ (aA _ (by lia)) (j-7) (by lia) _ (aA _ (by lia)) e
   exact(ln 0x200000000021104000000100001104010040100400088000000008001088210000000020004220802008000080220800008020080011000100400004011042108421008f3009479846a18847984263cc0131404).1 h1 h2 this (Eq.refl (j-7)) (Eq.refl (i-7))
theorem GF:∀j<7,∀i<3,i<(chain j).length->(chain j).getD i 0<7:=by decide+kernel
theorem Ur:∀j<7,(chain j).getD 0 0=j:=by decide+kernel
theorem Us:∀j<7,∀i<3,i+1<(chain j).length->(chain ((chain j).getD i 0)).getD 1 0=(chain j).getD (i+1) 0:=by decide+kernel
theorem Ut:∀j<7,∀i<3,i+1<(chain j).length->4-(chain ((chain j).getD i 0)).length<4-(chain ((chain j).getD (i+1) 0)).length:=by decide+kernel
theorem Uu:∀j<7,0<4-(chain j).length:=by decide+kernel
theorem Bu (j:Nat)(hj:j<7)(i:Nat)(hi:i<3)(hl:i<(chain j).length):(chain j).getD i 0<7∧(i=0->(chain j).getD i 0=j)∧
 (i+1<(chain j).length->(chain ((chain j).getD i 0)).getD 1 0=(chain j).getD (i+1) 0∧4-(chain ((chain j).getD i 0)).length<4-(chain ((chain j).getD (i+1) 0)).length)∧0<4-(chain ((chain j).getD i 0)).length∧True:=
 ⟨GF j hj i hi hl,λe=>by refine aa e ?_;exact Ur j hj,λh=>⟨Us j hj i hi h,Ut j hj i hi h⟩,Uu _ (GF j hj i hi hl),trivial⟩
theorem wA (hk:k<5)(hs:sh k<7)(hi:i<(chain (sh k)).length):
 aQ sh k i<12∧aQ sh k (i+1)<7∧aI sh (aQ sh k i)=aQ sh k (i+1)∧fO (aQ sh k i)<fO (aQ sh k (i+1)):=by
 have hc:=rX (sh k)
 refine wW (Bu (sh k) hs i (by exact Nat.lt_of_lt_of_le ‹_› ‹_›) hi) λc1 c2 c3 c4 c5=>?_
 have e1:aQ sh k (i+1)=(chain (sh k)).getD i 0:=by unfold aQ;refine aa (if_neg (by exact Nat.succ_ne_zero _)) ?_;rfl
 refine aa e1 ?_
 by_cases h0:i=0
 ·subst h0
  have e0:aQ sh k 0=7+k:=rfl
  refine aa e0 (aa (c2 rfl) ?_)
  refine⟨by exact Kv hk,hs,?_,?_⟩
  ·unfold aI;rw[if_neg (by simp),Nat.add_sub_cancel_left]
  ·have:=c4
   rw[c2 rfl] at this
   unfold fO;refine aa (if_neg (by exact Kd)) (aa (if_pos hs) ?_);exact this
 ·have e0:aQ sh k i=(chain (sh k)).getD (i-1) 0:=by unfold aQ;exact aa (if_neg h0) rfl
  refine wW (Bu (sh k) hs (i-1) (by exact(ln 0x40110421004011042108e61086600a8731004008c03).1 hi hc (Eq.refl (i-1))) (by exact Nat.sub_lt_of_lt ‹_›)) λd1 d2 d3 d4 d5=>?_
  refine xA (d3 (by exact(ln 0x420080220840008022084010082008441985610cc01502601184008c03).1 hi h0 (Eq.refl (i-1)))) λd6 d7=>?_
  rw[show i-1+1=i by exact(ln 0x100401100200844100020088010002208422080330ac419802a04c0230802).1 h0 (Eq.refl (i-1))] at d6 d7
  refine aa e0 ?_
  refine⟨by exact Nat.lt_of_lt_of_le ‹_› (by decide),c1,?_,?_⟩
  ·unfold aI;refine aa (if_pos d1) ?_;exact d6
  ·unfold fO;refine aa (if_pos d1) (aa (if_pos c1) ?_);exact d7
theorem K8 (hk:k<5)(hs:sh k<7)(hi:i≤(chain (sh k)).length):(fF k (sh k))[i]?=some (cu sh (aQ sh k i)):=by
 have hc:=rX (sh k)
 unfold fF
 match i,hi with
 |0,_=>
  show some _=_
  unfold cu aQ
  rw[if_pos rfl,if_neg (by lia),Nat.add_sub_cancel_left]
 |i+1,hi=>
  refine xA (Bu (sh k) hs i (by exact Nat.lt_of_lt_of_le ‹_› ‹_›) (by assumption)) λc1 _=>?_
  have e1:aQ sh k (i+1)=(chain (sh k)).getD i 0:=by unfold aQ;refine aa (if_neg (by exact Kw)) ?_;rfl
  refine aa e1 (aa (List.getElem?_cons_succ) (aa (List.getElem?_map) (aa (List.getElem?_eq_getElem (by exact Ke hi)) ?_)))
  unfold cu
  refine aa (if_pos c1) (aa (List.getD_eq_getElem?_getD) (aa (List.getElem?_eq_getElem (by lia)) ?_))
  rfl
structure SE (s:SS)(es:List (Nat×Nat)):Prop where
 ok:bX s
 rn:s.rn= .none
 po:s.po=0
 nf:s.nf=0
 np:∀p,s.np p=(es.countP λe=>e.1==p:Nat)
 aN:∀q,dK s q=(es.filter λe=>e.2==q).map (·.1)
 mem:∀i,i∈s.ns↔∃e∈es,i=e.1∨i=e.2
theorem SE.fresh:SE (SS.fresh t u) []:=by
 constructor
 ·exact bX.fresh
 ·rfl
 ·rfl
 ·rfl
 ·intro p;rfl
 ·intro q;rfl
 ·intro i
  constructor
  ·intro h;cases h
  ·intro MN;refine ah MN λe h _=>?_;clear MN;cases h
theorem K2:j∈ins ns i↔j∈ns∨j=i:=
 ⟨tG,λh=>by
  rcases h with h|h
  ·exact sX h
  ·exact h▸lZ⟩
theorem SE.add (h:SE s es)(hp:p<12)(hq:q<12)(hz:es.length<100)(t:Tok)(gE fR:eF):SE (rN s gE fR p t q) (es++[(p,q)]):=by
 have aP:(s.aN q).length<100:=by
  have:=congrArg List.length (h.aN q)
  unfold dK at this
  rw[List.length_map,List.length_map] at this
  have h2:=List.length_filter_le (λe:Nat×Nat=>e.2==q) es
  exact(ln 0x1004211042108c82fcc01088020086417e6108c03).1 hz this h2
 constructor
 ·exact h.ok.add hp hq aP gE fR
 ·exact h.rn
 ·exact h.po
 ·exact h.nf
 ·intro r
  show upd s.np p (s.np p+1) r=_
  refine aa List.countP_append ?_
  by_cases e:r=p
  ·subst e;refine aa (cD ..) (aa (h.np ..) ?_);simp
  ·refine aa (bY e ..) (aa (h.np ..) ?_)
   have:¬p=r:=λq=>e q.symm
   simp[this]
 ·intro r
  show(upd s.aN q (s.aN q++[(p,t)]) r).map (·.1)=_
  refine aa (List.filter_append ..) (aa (List.map_append ..) ?_)
  by_cases e:r=q
  ·subst e
   refine aa cD (aa List.map_append ?_)
   have:=h.aN r
   unfold dK at this
   refine aa this ?_
   simp
  ·refine aa (bY e) ?_
   have:=h.aN r
   unfold dK at this
   refine aa this ?_
   have:¬q=r:=λz=>e z.symm
   simp[this]
 ·intro i
  show i∈ins (ins s.ns p) q↔_
  rw[K2,K2,h.mem]
  constructor
  ·rintro ((⟨e,he,hi⟩|rfl)|rfl)
   ·exact⟨e,List.mem_append_left _ he,hi⟩
   ·exact⟨_,List.mem_append_right _ (.head _), .inl rfl⟩
   ·exact⟨_,List.mem_append_right _ (.head _), .inr rfl⟩
  ·intro MO;refine ah MO λe he hi=>?_;clear MO
   rcases List.mem_append.mp he with he|he
   ·exact .inl (.inl ⟨e,he,hi⟩)
   ·rw[List.mem_singleton] at he
    subst he
    rcases hi with rfl|rfl
    ·exact .inl (.inr rfl)
    ·exact .inr rfl
end
section
theorem tW {kvs:List (Str×Value)}:valueAt (p::kvs) k=if p.1=k then some p.2 else valueAt kvs k:=by
 unfold valueAt
 refine aa (List.find?_cons) ?_
 by_cases h:p.1=k
 ·simp[h]
 ·simp[h]
theorem Mj {v:Value}:∀{kvs:List (Str×Value)},valueAt (kvs.map λkv=>if kv.1=k then(kv.1,v) else kv) k'=if k'=k then(valueAt kvs k).map (λ_=>v) else valueAt kvs k'
 |[]=>by simp[valueAt]
 |p::kvs=>by
  refine aa List.map_cons (aa tW (aa tW (aa tW (aa (Mj (kvs:=kvs)) ?_))))
  by_cases h1:p.1=k
  ·subst h1
   by_cases h2:k'=p.1
   ·subst h2;simp
   ·have:¬p.1=k':=λe=>h2 e.symm
    simp[h2,this]
  ·by_cases h2:k'=k
   ·subst h2;simp[h1]
   ·simp[h1,h2]
theorem Mi {p:Str×Value}:∀{kvs:List (Str×Value)},valueAt (kvs++[p]) k=(valueAt kvs k).or (if p.1=k then some p.2 else none)
 |[]=>by
  show valueAt [p] k=_
  refine aa tW ?_
  simp[valueAt]
 |q::kvs=>by
  refine aa List.cons_append (aa tW (aa tW (aa (Mi (kvs:=kvs)) ?_)))
  by_cases h:q.1=k
  ·simp[h]
  ·simp[h]
theorem D4 {k k':Str}{v:Value}:valueAt (PySem.stored kvs k v) k'=if k'=k then some v else valueAt kvs k':=by
 by_cases hm:k∈kvs.map (·.1)
 ·refine aa (LQ hm ..) (aa (Mj ..) ?_)
  by_cases h:k'=k
  ·refine aa (if_pos h) (aa (if_pos h) ?_)
   have:(valueAt kvs k).isSome=true:=by
    cases e:valueAt kvs k with
    |some _=>rfl
    |none=>
     exfalso
     unfold valueAt at e
     rw[Option.map_eq_none_iff,List.find?_eq_none] at e
     refine ah (List.mem_map.mp hm) λq hq hk=>?_
     exact e q hq (decide_eq_true hk)
   refine xE (Option.isSome_iff_exists.mp this) λu hu=>?_
   refine aa hu ?_;rfl
  ·exact aa (if_neg h) (aa (if_neg h) rfl)
 ·refine aa (wL hm ..) (aa (Mi ..) ?_)
  by_cases h:k'=k
  ·subst h
   refine aa (D0 hm) ?_
   rfl
  ·have:¬k=k':=λe=>h e.symm
   refine aa (if_neg this) (aa (if_neg h) ?_)
   cases valueAt kvs k'<;>rfl
theorem Ag {k:Str}{v:Value}:(PySem.stored kvs k v).length≤kvs.length+1:=by
 by_cases hm:k∈kvs.map (·.1)
 ·refine aa (LQ hm ..) (aa (List.length_map ..) ?_);exact Nat.le_succ _
 ·refine aa (wL hm ..) (aa (List.length_append ..) (aa (List.length_singleton ..) ?_));exact Nat.lt_succ_self _
noncomputable def HB (ha:Nat->Addr)(hv:Nat->List Value)(hs:List Nat):Led:=hs.map λi=>(ha i,af (hv i))
theorem EI (hn:hs.Nodup):LE ((l,af w)::(HB ha hv hs++R)) (HB (upd ha d l) (upd hv d w) (ins hs d)++R):=by
 unfold ins
 by_cases h:d∈hs
 ·refine aa (if_pos h) ?_
  have p:=(pL (F:=λi=>(ha i,af (hv i))) (R:=R) h).perm
  refine .trans (.perm (List.Perm.cons _ p)) (.trans (.perm (.swap _ _ _)) (.trans .drop (.perm ?_)))
  have:=wG (F:=λi=>(ha i,af (hv i))) (F':=λi=>(upd ha d l i,af (upd hv d w i))) (R:=R) hn h λj hj=>by
   exact aa (bY hj) (aa (bY hj) rfl)
  rw[cD,cD] at this
  exact this
 ·refine aa (if_neg h) ?_
  have e:HB (upd ha d l) (upd hv d w) (hs++[d])++R=HB ha hv hs++((l,af w)::R):=by
   unfold HB
   refine aa (List.map_append ..) (aa (List.map_cons ..) (aa (List.map_nil ..) (aa (cD ..) (aa (cD ..) (aa (List.append_assoc ..) ?_)))))
   congr 1
   refine List.map_congr_left λj hj=>?_
   have:j≠d:=λe=>h (e▸hj)
   exact aa (bY this) (aa (bY this) rfl)
  refine aa e ?_
  exact .perm List.perm_middle.symm
theorem xQ (h:i∈hs):(ha i,af (hv i))∈HB ha hv hs++R:=List.mem_append_left _ (List.mem_map.mpr ⟨i,h,rfl⟩)
theorem HB_pick (h:i∈hs):∃T,aZ (ha i) (af (hv i)) (HB ha hv hs++R) T∧∀w,hs.Nodup->((ha i,af w)::T).Perm (HB ha (upd hv i w) hs++R):=by
 refine⟨_,pL (F:=λi=>(ha i,af (hv i))) h,λw hn=>?_⟩
 have:=wG (F:=λi=>(ha i,af (hv i))) (F':=λj=>(ha j,af (upd hv i w j))) (R:=R) hn h λj hj=>by
  exact aa (bY hj) rfl
 rw[cD] at this
 exact this
end
section
noncomputable def iR (sh:Nat->Nat)(k j:Nat):List (Nat×Nat):=(List.range j).map λi=>(aQ sh k (i+1),aQ sh k i)
noncomputable def m9 (sh:Nat->Nat)(k:Nat):List (Nat×Nat):=iR sh k (chain (sh k)).length
noncomputable def bE (sh:Nat->Nat)(k:Nat):List (Nat×Nat):=(List.range k).flatMap (m9 sh)
noncomputable def xJ (sh:Nat->Nat)(aV:List (Str×Value))(es:List (Nat×Nat)):Prop:=aV.length≤es.length∧
 ∀i<12,((∃e∈es,e.2=i)->∃t,valueAt aV (cu sh i)=some (.str (cu sh (aI sh i)) t))∧((∀e∈es,e.2≠i)->valueAt aV (cu sh i)=none)
noncomputable def xR (sh:Nat->Nat)(aM:List (Str×Value))(ha:Nat->Addr)(hs:List Nat):Prop:=aM.length≤100∧hs.Nodup∧(∀i∈hs,i<12)∧∀i<12,(i∈hs->valueAt aM (cu sh i)=some (.ref (ha i)))
noncomputable def TL (G:Gx)(c:SC)(s:SS)(ab hd:Addr)(aV aM:List (Str×Value))(ha:Nat->Addr)(hv:Nat->List Value)(hs:List Nat)(R:Led):Led:=
 (ab,aK G.prog G.w ab aV)::(hd,aK G.prog G.w hd aM)::(HB ha hv hs++aF c s R)
theorem EP (h:x∈R):x∈TL G c s ab hd aV aM ha hv hs R:=
 .tail _ (.tail _ (List.mem_append_right _ (c8 h)))
theorem Qe (tp it rr:Addr×(Obj->Prop))(hn:hs.Nodup):
 LE ((hd,aK G.prog G.w hd aM)::(l,af w)::tp::it::rr::(ab,aK G.prog G.w ab aV)::(HB ha hv hs++aF c s R)) (it::rr::TL G c s ab hd aV aM (upd ha d l) (upd hv d w) (ins hs d) (tp::R)):=by
 refine .trans (.perm ?_) (.trans (EI (ha:=ha) (hv:=hv) (l:=l) (w:=w) (d:=d) (R:=[(hd,aK G.prog G.w hd aM),tp,it,rr,(ab,aK G.prog G.w ab aV)]++aF c s R) hn) (.perm ?_))
 ·refine(List.Perm.swap _ _ _).trans (List.Perm.cons _ ?_)
  exact List.perm_append_comm_assoc [(hd,aK G.prog G.w hd aM),tp,it,rr,(ab,aK G.prog G.w ab aV)] (HB ha hv hs) (aF c s R)
 ·refine(List.perm_append_comm_assoc _ _ _).trans ?_
  have h1:([(hd,aK G.prog G.w hd aM),tp,it,rr,(ab,aK G.prog G.w ab aV)]++(HB (upd ha d l) (upd hv d w) (ins hs d)++aF c s R)).Perm ([it,rr,(ab,aK G.prog G.w ab aV),(hd,aK G.prog G.w hd aM),tp]++(HB (upd ha d l) (upd hv d w) (ins hs d)++aF c s R)):=
   List.Perm.append_right _ (List.perm_append_comm (l₁:=[(hd,aK G.prog G.w hd aM),tp]) (l₂:=[it,rr,(ab,aK G.prog G.w ab aV)]))
  refine h1.trans (List.Perm.cons _ (List.Perm.cons _ (List.Perm.cons _ (List.Perm.cons _ ?_))))
  refine(List.perm_middle (a:=tp) (l₁:=HB (upd ha d l) (upd hv d w) (ins hs d))).symm.trans ?_
  exact List.Perm.append_left _ (iC c s _ R)
theorem AQ (c:SC)(s:SS)(Y R:Led):(Y++aF c s R).Perm (aF c s (Y++R)):=by
 refine aa (dO c s R) (aa (dO c s (Y++R)) ?_)
 exact List.perm_append_comm_assoc _ _ _
theorem Qf {G:Gx}{c:SC}{s:SS}{ab hd l:Addr}{aV aM:List (Str×Value)}{ha:Nat->Addr}{hv:Nat->List Value}{hs:List Nat}{R:Led}{d:Nat}(i2 r2 it rr:Addr×(Obj->Prop))(hn:hs.Nodup):
 LE ((hd,aK G.prog G.w hd aM)::(l,af [])::(ab,aK G.prog G.w ab aV)::i2::r2::it::rr::(HB ha hv hs++aF c s R)) (aF c s ((HB (upd ha d l) (upd hv d []) (ins hs d)++[(hd,aK G.prog G.w hd aM),(ab,aK G.prog G.w ab aV),i2,r2,it,rr])++R)):=by
 refine .trans (.perm ?_) (.trans (EI (ha:=ha) (hv:=hv) (l:=l) (w:=[]) (d:=d) (R:=[(hd,aK G.prog G.w hd aM),(ab,aK G.prog G.w ab aV),i2,r2,it,rr]++aF c s R) hn) (.perm ?_))
 ·refine(List.Perm.swap _ _ _).trans (List.Perm.cons _ ?_)
  exact List.perm_append_comm_assoc [(hd,aK G.prog G.w hd aM),(ab,aK G.prog G.w ab aV),i2,r2,it,rr] (HB ha hv hs) (aF c s R)
 ·refine aa (Eq.symm (List.append_assoc ..)) ?_
  exact AQ c s _ R
theorem Qd (i2 r2 it rr:Addr×(Obj->Prop)):
 LE (aF c s ((HB ha hv hs++[(hd,aK G.prog G.w hd aM),(ab,aK G.prog G.w ab aV),i2,r2,it,rr])++R)) (i2::r2::it::rr::TL G c s ab hd aV aM ha hv hs R):=by
 refine .perm ((AQ c s _ R).symm.trans ?_)
 refine aa (List.append_assoc ..) ?_
 refine(List.perm_append_comm_assoc _ _ _).trans ?_
 have h1:([(hd,aK G.prog G.w hd aM),(ab,aK G.prog G.w ab aV),i2,r2,it,rr]++(HB ha hv hs++aF c s R)).Perm ([i2,r2,it,rr,(hd,aK G.prog G.w hd aM),(ab,aK G.prog G.w ab aV)]++(HB ha hv hs++aF c s R)):=
  List.Perm.append_right _ (List.perm_append_comm (l₁:=[(hd,aK G.prog G.w hd aM),(ab,aK G.prog G.w ab aV)]) (l₂:=[i2,r2,it,rr]))
 exact h1.trans (.cons _ (.cons _ (.cons _ (.cons _ (.swap _ _ _)))))
theorem rng1s:∀m<4,Builtin.Range.rangeSize 1 ((m+1:Nat):Int) 1=(m:Nat):=by decide+kernel
theorem rng1m:∀m<4,Builtin.Range.small 1 ((m+1:Nat):Int) 1=true:=by decide+kernel
theorem xJ.set (dg:lF (cu sh))(h:xJ sh aV es)(hq:q<12)(hp:aI sh q=p)(t:Tok):xJ sh (PySem.stored aV (cu sh q) (.str (cu sh p) t)) (es++[(p,q)]):=by
 refine⟨?_,λi hi=>⟨λhe=>?_,λhe=>?_⟩⟩
 ·have:=Ag (kvs:=aV) (k:=cu sh q) (v:= .str (cu sh p) t)
  have:=h.1
  refine aa List.length_append (aa List.length_singleton ?_);exact(ln 0x108441084330ac00088019896000803).1 (by assumption) this
 ·refine aa D4 ?_
  by_cases e:i=q
  ·subst e
   refine aa (if_pos rfl) (aa hp ?_);exact⟨t,rfl⟩
  ·refine aa (if_neg λz=>e (dg i hi q hq z)) ?_
   refine(h.2 i hi).1 ?_
   refine ah he λx hx zr369=>?_;clear he;subst zr369
   rcases List.mem_append.mp hx with hx|hx
   ·exact⟨x,hx,rfl⟩
   ·rw[List.mem_singleton] at hx;subst hx;exact absurd rfl e
 ·have e:i≠q:=λe=>he (p,q) (List.mem_append_right _ (.head _)) e.symm
  refine aa D4 (aa (if_neg λz=>e (dg i hi q hq z)) ?_)
  exact(h.2 i hi).2 λx hx=>he x (List.mem_append_left _ hx)
theorem xR.set (dg:lF (cu sh))(h:xR sh aM ha hs)(hd:d<12)(hz:aM.length<100):xR sh (PySem.stored aM (cu sh d) (.ref l)) (upd ha d l) (ins hs d):=by
 refine⟨?_,Jz h.2.1,λi hi=>?_,λi hi hm=>?_⟩
 ·have:=Ag (kvs:=aM) (k:=cu sh d) (v:= .ref l)
  exact Nat.le_trans ‹_› ‹_›
 ·rcases tG hi with hi|hi
  ·exact h.2.2.1 i hi
  ·exact(ln 0x200844108593004201326108802).1 hd hi
 ·refine aa D4 ?_
  by_cases e:i=d
  ·subst e;exact aa (if_pos rfl) (aa cD rfl)
  ·refine aa (if_neg λz=>e (dg i hi d hd z)) (aa (bY e) ?_)
   refine h.2.2.2 i hi ?_
   rcases tG hm with hm|hm
   ·exact hm
   ·exact absurd hm e
noncomputable def Qh (wt:Nat->Int)(sh:Nat->Nat)(bB:Nat->List Value)(K:Nat)(jk:Led):Prop:=∀k<K,∃a t u,bB (7+k)=[.ref a]∧(a,bf [.int (wt k) t, .str (host k (sh k)) u])∈jk
structure TS (sh:Nat->Nat)(wt:Nat->Int)(s:SS)(aV aM:List (Str×Value))(ha:Nat->Addr)(bB:Nat->List Value)(hs:List Nat)(jk:Led)(es:List (Nat×Nat))(K:Nat):Prop where
 se:SE s es
 ab:xJ sh aV es
 hp:xR sh aM ha hs
 tu:Qh wt sh bB K jk
 em:∀i∈hs,i<7->bB i=[]
 hk:∀k<K,7+k∈hs
 he:∀e∈es,e.1∈hs
 hz:aM.length≤K+es.length
 lz:es.length≤3*K
theorem TS.U4 {K:Nat}(dg:lF (cu sh))(h:TS sh wt s aV aM ha bB hs jk es K)(hp:p<7)(hq:q<12)(sI:aI sh q=p)
 (hl:es.length+1≤3*K)(hK:K≤5)(t:Tok)(gE fR:eF)(le:Addr):TS sh wt (rN s gE fR p t q) (PySem.stored aV (cu sh q) (.str (cu sh p) t)) (PySem.stored aM (cu sh p) (.ref le)) (upd ha p le) (upd bB p []) (ins hs p) jk (es++[(p,q)]) K:=by
 have hz:=h.hz
 have hlen:(es++[(p,q)]).length=es.length+1:=by exact aa List.length_append (aa List.length_singleton rfl)
 constructor
 ·exact h.se.add (by exact Nat.lt_of_lt_of_le ‹_› (by decide)) hq (by exact(ln 0x1184410846417e60096610046d0cc0b00802).1 hl hK) t gE fR
 ·exact h.ab.set dg hq sI t
 ·exact h.hp.set dg (by exact(ln 0x84410b26009e6008401).1 hp) (by exact(ln 0x90211042108c82fcc0108960016620086d0cc2b00c03).1 hl hK hz)
 ·intro k hk
  refine cE (h.tu k hk) λa t u e1 e2=>?_
  exact⟨a,t,u,by refine aa (bY (by exact KO hp)) ?_;exact e1,e2⟩
 ·intro i hi qv
  by_cases e:i=p
  ·subst e;exact cD
  ·refine aa (bY e) ?_
   rcases tG hi with hi|hi
   ·exact h.em i hi qv
   ·exact absurd hi e
 ·exact λk hk=>sX (h.hk k hk)
 ·intro e he
  rcases List.mem_append.mp he with he|he
  ·exact sX (h.he e he)
  ·rw[List.mem_singleton] at he;subst he;exact lZ
 ·have:=Ag (kvs:=aM) (k:=cu sh p) (v:= .ref le)
  exact(ln 0x42008441084220ac000cc6b0003322c422056300c05).1 hz hlen this
 ·exact(ln 0x20084410842368001989601046d0cc4b00803).1 hl hlen
theorem TS.host {K:Nat}(dg:lF (cu sh))(h:TS sh wt s aV aM ha bB hs jk es K)(hK:K<5):
 TS sh wt s aV (PySem.stored aM (cu sh (7+K)) (.ref la)) (upd ha (7+K) la) (upd bB (7+K) [.ref ta]) (ins hs (7+K)) ((ta,bf [.int (wt K) tw, .str (host K (sh K)) th])::jk) es (K+1):=by
 have hz:=h.hz
 have lz:=h.lz
 constructor
 ·exact h.se
 ·exact h.ab
 ·exact h.hp.set dg (by exact Kv hK) (by exact(ln 0x408422084211905f980211b440105600166108c03).1 hK hz lz)
 ·intro k hk
  by_cases e:k=K
  ·subst e
   exact⟨ta,tw,th,cD, .head _⟩
  ·refine cE (h.tu k (by exact tD hk e)) λa t u e1 e2=>?_
   exact⟨a,t,u,by refine aa (bY (by exact(ln 0x802208420104213cd603cd623040230402).1 e)) ?_;exact e1, .tail _ e2⟩
 ·intro i hi qv
  refine aa (bY (by exact(ln 0x8402084279ac0231e6008402).1 qv)) ?_
  rcases tG hi with hi|hi
  ·exact h.em i hi qv
  ·exact False.elim (Dj qv hi)
 ·intro k hk
  by_cases e:k=K
  ·subst e;exact lZ
  ·exact sX (h.hk k (by lia))
 ·exact λe he=>sX (h.he e he)
 ·have:=Ag (kvs:=aM) (k:=cu sh (7+K)) (v:= .ref la)
  exact(ln 0x108441084419856b000331ac001056300804).1 hz this
 ·exact(ln 0x1088210cc2b1b40008da000402).1 lz
theorem U5:iR sh k (j+1)=iR sh k j++[(aQ sh k (j+1),aQ sh k j)]:=by unfold iR;refine aa List.range_succ (aa List.map_append ?_);rfl
theorem G2:bE sh (k+1)=bE sh k++m9 sh k:=by unfold bE;refine aa List.range_succ (aa List.flatMap_append ?_);simp
theorem G1:∀k,(bE sh k).length≤3*k
 |0=>Nat.le_refl _
 |k+1=>by
  refine aa G2 (aa List.length_append ?_)
  have:=G1 (sh:=sh) k
  have h2:(m9 sh k).length=(chain (sh k)).length:=by unfold m9 iR;simp
  have:=rX (sh k)
  exact(ln 0x4010844108421989636840b00e6300c2210da000c04).1 (by assumption) h2 this
theorem jv (aA:∀k<5,sh k<7)(hn:n≤5)(he:e∈bE sh n):e.1<7∧e.2<12∧aI sh e.2=e.1∧fO e.2<fO e.1:=by
 unfold bE at he
 refine ah (List.mem_flatMap.mp he) λk hk he=>?_
 have jC:k<5:=by have:=List.mem_range.mp hk;exact Nat.lt_of_lt_of_le ‹_› ‹_›
 unfold m9 iR at he
 refine ah (List.mem_map.mp he) λj hj zr370=>?_;subst zr370
 refine iy (wA jC (aA k jC) (List.mem_range.mp hj)) λa b c d=>?_
 exact⟨b,a,c,d⟩
theorem SE.rank (aA:∀k<5,sh k<7)(hn:n≤5)(h:SE s (bE sh n)):∀i∈s.ns,∀q∈s.aN i,q.1∈s.ns∧fO i<fO q.1:=by
 intro i hi q hq
 have hm:q.1∈dK s i:=List.mem_map.mpr ⟨q,hq,rfl⟩
 rw[h.aN] at hm
 refine ah (List.mem_map.mp hm) λe he Cz=>?_
 refine xA (List.mem_filter.mp he) λWs B6=>?_
 have B6:e.2=i:=by simpa using B6
 refine aa (Eq.symm Cz) (aa (Eq.symm B6) ?_)
 exact⟨(h.mem _).mpr ⟨e,Ws, .inl rfl⟩,(jv aA hn Ws).2.2.2⟩
noncomputable def TR (G:Gx)(c:SC)(s:SS)(ab hd rl:Addr)(aV aM:List (Str×Value))(ha:Nat->Addr)(hv:Nat->List Value)(hs rd:List Nat)(R:Led):Led:=
 aF c s ((rl,b8 (rd.map c.nm))::(HB ha hv hs++((ab,aK G.prog G.w ab aV)::(hd,aK G.prog G.w hd aM)::R)))
theorem Qg:
 (TL G c s ab hd aV aM ha hv hs R).Perm (aF c s (HB ha hv hs++((ab,aK G.prog G.w ab aV)::(hd,aK G.prog G.w hd aM)::R))):=by
 unfold TL
 have h1:([(ab,aK G.prog G.w ab aV),(hd,aK G.prog G.w hd aM)]++(HB ha hv hs++aF c s R)).Perm (HB ha hv hs++([(ab,aK G.prog G.w ab aV),(hd,aK G.prog G.w hd aM)]++aF c s R)):=List.perm_append_comm_assoc _ _ _
 refine List.Perm.trans (l₂:=_) h1 ?_
 refine aa (Eq.symm (List.append_assoc ..)) ?_
 have:=AQ c s (HB ha hv hs++[(ab,aK G.prog G.w ab aV),(hd,aK G.prog G.w hd aM)]) R
 rwa [List.append_assoc (HB ha hv hs) _ R] at this
end
section
theorem upd_upd:upd (upd f i a) i b=upd f i b:=by
 funext j
 by_cases h:j=i
 ·subst h;exact aa cD (aa cD rfl)
 ·exact aa (bY h) (aa (bY h) (aa (bY h) rfl))
theorem GR:∀{m:Nat} {f:Nat->Int} {R:List Nat},(m:Int)≤f p->fS f R (List.replicate m p)=(upd f p (f p-m),if 0<m∧f p=m then R++[p] else R)
 |0,f,R,_=>by
  have e:upd f p (f p-(0:Nat))=f:=by
   funext j
   by_cases h:j=p
   ·subst h;refine aa cD ?_;simp
   ·exact aa (bY h) rfl
  refine aa e (aa (if_neg (by simp+arith)) ?_);rfl
 |m+1,f,R,h=>by
  have e:fS f R (List.replicate (m+1) p)=fS (upd f p (f p-1)) (if f p-1=0 then R++[p] else R) (List.replicate m p):=rfl
  refine aa e ?_
  by_cases hm:m=0
  ·subst hm
   show(upd f p (f p-1),if f p-1=0 then R++[p] else R)=_
   by_cases h1:f p-1=0
   ·refine aa (if_pos h1) (aa (if_pos ⟨by exact Nat.succ_pos _,by exact(ln 0x8441004410866f014130cc0c28420).1 h1⟩) ?_);rfl
   ·refine aa (if_neg h1) (aa (if_neg (by exact(ln 0x802010421000410866f0143304c27302619818530420).1 h1)) ?_);rfl
  ·refine aa (if_neg (by exact(ln 0x1080220802000821082619818530260118019816f18821).1 h hm)) (aa (GR (by rw[cD];exact(ln 0x21104219818078c019816f18421).1 h)) (aa upd_upd (aa cD ?_)))
   have e2:f p-1-(m:Int)=f p-((m+1:Nat):Int):=by simp+arith
   refine aa e2 ?_
   congr 1
   by_cases h1:f p=((m+1:Nat):Int)
   ·exact aa (if_pos ⟨by exact Nat.pos_of_ne_zero ‹_›,by exact(ln 0x211040110420786606143302de028421).1 h1⟩) (aa (if_pos ⟨by exact Nat.succ_pos _,h1⟩) rfl)
   ·exact aa (if_neg (by exact(ln 0x100402084200082103c33030a004c27306605bc0530421).1 h1)) (aa (if_neg (by exact(ln 0x80201042100041086605bc050cc0b04c27306605bc0530421).1 h1)) rfl)
noncomputable def pend (es:List (Nat×Nat))(D:List Nat)(p:Nat):Nat:=es.countP λe=>e.1==p&& !D.contains e.2
noncomputable def ig (es:List (Nat×Nat))(D B:List Nat)(i:Nat):Int:=if i∈D then -2 else if i∈B then -1 else pend es D i
noncomputable def dJ (es:List (Nat×Nat))(i:Nat):Nat:=es.countP λe=>e.2==i
theorem Lk (hi:i∉D)(hp:∀e∈es,e.2=i->e.1=p):∀j,pend es D j=pend es (D++[i]) j+if j=p then dJ es i else 0:=by
 intro j
 unfold pend dJ
 induction es with
 |nil=>simp
 |cons e es ih=>
  have ih:=ih λe he=>hp e (.tail _ he)
  refine aa List.countP_cons (aa List.countP_cons (aa List.countP_cons (aa ih ?_)))
  have h1:=hp e (.head _)
  by_cases he:e.2=i
  ·have Ig:=h1 he
   have c1:D.contains e.2=false:=by refine aa he ?_;simpa using hi
   have c2:(D++[i]).contains e.2=true:=by refine aa he ?_;simp
   refine aa c1 (aa c2 ?_)
   by_cases hj:j=p
   ·subst hj;simp[he,Ig];exact Int.toNat_natCast _
   ·have:¬e.1=j:=λz=>hj (by exact aa (Eq.symm z) (aa Ig rfl))
    simp[hj,this]
  ·have c:(D++[i]).contains e.2=D.contains e.2:=by
    rw[Bool.eq_iff_iff];simp[he]
   refine aa c ?_
   have:(e.2==i)=false:=beq_eq_false_iff_ne.mpr he
   refine aa this ?_
   simp
   simp+arith
theorem suc_rep (hp:∀e∈es,e.2=i->e.1=aI sh i):(es.filter λe=>e.2==i).map (·.1)=List.replicate (dJ es i) (aI sh i):=by
 rw[List.eq_replicate_iff]
 constructor
 ·refine aa (List.length_map ..) (aa (Eq.symm (List.countP_eq_length_filter ..)) ?_);rfl
 ·intro b hb
  refine ah (List.mem_map.mp hb) λe he zr371=>?_;subst zr371
  refine xA (List.mem_filter.mp he) λh1 h2=>?_
  exact hp e h1 (by simpa using h2)
theorem UW (hi:i∉D)(hp:∀e∈es,e.2=i->e.1=aI sh i)(lR:0<dJ es i->aI sh i∉D∧aI sh i∉B∧aI sh i≠i):
 fS (upd (ig es D B) i (-2)) R ((es.filter λe=>e.2==i).map (·.1))=(ig es (D++[i]) B,if 0<dJ es i∧pend es (D++[i]) (aI sh i)=0 then R++[aI sh i] else R):=by
 refine aa (suc_rep hp) ?_
 have o9:=Lk (es:=es) hi hp
 by_cases h0:dJ es i=0
 ·refine aa h0 (aa (if_neg (by simp+arith)) ?_)
  show(upd (ig es D B) i (-2),R)=_
  congr 1
  funext j
  by_cases hj:j=i
  ·subst hj;refine aa cD ?_;unfold ig;exact aa (if_pos (by simp)) rfl
  ·refine aa (bY hj) ?_
   unfold ig
   have c:(j∈D++[i])↔j∈D:=by simp[hj]
   have:=o9 j
   rw[h0] at this
   simp only [c]
   have e:pend es D j=pend es (D++[i]) j:=by split at this<;>assumption
   exact aa e rfl
 ·refine cP (lR (by exact Nat.pos_of_ne_zero ‹_›)) λg1 g2 g3=>?_
  have Jh:upd (ig es D B) i (-2) (aI sh i)=((pend es D (aI sh i):Nat):Int):=by
   refine aa (bY g3) ?_
   unfold ig
   exact aa (if_neg g1) (aa (if_neg g2) rfl)
  have gv:=o9 (aI sh i)
  rw[if_pos rfl] at gv
  refine aa (GR (by rw[Jh];exact @(ln 0x40110421781e30096110403).1 (dJ es i) (pend es D (aI sh i)) (pend es (D++[i]) (aI sh i)) gv)) (aa Jh ?_)
  have hR:(0<dJ es i∧((pend es D (aI sh i):Nat):Int)=(dJ es i:Int))↔(0<dJ es i∧pend es (D++[i]) (aI sh i)=0):=by
   constructor
   ·intro MP;refine xA MP λa b=>?_;clear MP;exact⟨a,by exact @(ln 0x800108800000220842098042785e51016110803).1 (pend es (D++[i]) (aI sh i)) (pend es D (aI sh i)) (dJ es i) gv b⟩
   ·intro MQ;refine xA MQ λa b=>?_;clear MQ;exact⟨a,by exact @(ln 0x401088200802208421781e504c420896010803).1 (pend es D (aI sh i)) (dJ es i) (pend es (D++[i]) (aI sh i)) gv b⟩
  have e1:(if 0<dJ es i∧((pend es D (aI sh i):Nat):Int)=(dJ es i:Int) then R++[aI sh i] else R)=if 0<dJ es i∧pend es (D++[i]) (aI sh i)=0 then R++[aI sh i] else R:=by
   by_cases z:0<dJ es i∧pend es (D++[i]) (aI sh i)=0
   ·exact aa (if_pos z) (aa (if_pos (hR.mpr z)) rfl)
   ·exact aa (if_neg z) (aa (if_neg λq=>z (hR.mp q)) rfl)
  refine aa e1 ?_
  congr 1
  funext j
  by_cases qy:j=aI sh i
  ·subst qy
   refine aa cD ?_
   unfold ig
   refine aa (if_neg (by simp[g1,g3])) (aa (if_neg g2) ?_)
   exact @(ln 0x1088200882113c2f03d850896010403).1 (pend es D (aI sh i)) (dJ es i) (pend es (D++[i]) (aI sh i)) gv
  ·refine aa (bY qy) ?_
   by_cases hj:j=i
   ·subst hj;refine aa cD ?_;unfold ig;exact aa (if_pos (by simp)) rfl
   ·refine aa (bY hj) ?_
    unfold ig
    have c:(j∈D++[i])↔j∈D:=by simp[hj]
    have:=o9 j
    rw[if_neg qy] at this
    simp only [c]
    exact aa (show pend es D j=pend es (D++[i]) j by exact @(ln 0x10882008821080409856010402).1 (pend es D j) (pend es (D++[i]) j) this) rfl
end
section
theorem DA (h:∀i∈D,i∈D')(j:Nat):pend es D' j≤pend es D j:=by
 unfold pend
 induction es with
 |nil=>exact Nat.le_refl _
 |cons e es ih=>
  refine aa List.countP_cons (aa List.countP_cons ?_)
  have:(e.1==j&& !D'.contains e.2)=true->(e.1==j&& !D.contains e.2)=true:=by
   intro q
   simp only [Bool.and_eq_true,Bool.not_eq_true',List.contains_eq_mem,decide_eq_false_iff_not] at q ⊢
   exact⟨q.1,λz=>q.2 (h _ z)⟩
  split
  ·rename_i q;refine aa (if_pos (this q)) ?_;exact Nat.lt_add_one_of_le ‹_›
  ·exact(ln 0x42208441582605802000403).1 ih
structure RM (es:List (Nat×Nat))(ns D B b R:List Nat):Prop where
 nd:(D++B).Nodup
 sub:∀i∈D++B,i∈ns
 bs:∀i∈b,i∈B
 bz:∀i∈B,pend es D i=0
 dz:∀i∈D++b,pend es (D++b) i=0
 rn:R.Nodup
 rm:∀i,i∈R↔i∈ns∧i∉D∧i∉B∧pend es (D++b) i=0
structure RH (es:List (Nat×Nat))(ns D rd:List Nat):Prop where
 nd:D.Nodup
 sub:∀i∈D,i∈ns
 dz:∀i∈D,pend es D i=0
 rn:rd.Nodup
 rm:∀i,i∈rd↔i∈ns∧i∉D∧pend es D i=0
theorem RH.start (h:RH es ns D rd):RM es ns D rd [] []:=by
 constructor
 ·refine List.nodup_append.mpr ⟨h.nd,h.rn,λa ha b hb e=>?_⟩
  subst e
  exact((h.rm a).mp hb).2.1 ha
 ·intro i hi
  rcases List.mem_append.mp hi with hi|hi
  ·exact h.sub i hi
  ·exact((h.rm i).mp hi).1
 ·intro i hi;cases hi
 ·exact λi hi=>((h.rm i).mp hi).2.2
 ·refine aa (List.append_nil ..) ?_;exact h.dz
 ·exact List.nodup_nil
 ·intro i
  refine aa (List.append_nil ..) ?_
  refine⟨λhi=>(by cases hi),?_⟩
  intro MR;refine iy MR λa b c d=>?_;clear MR
  exact absurd ((h.rm i).mpr ⟨a,b,d⟩) c
theorem RM.finish (h:RM es ns D B B R):RH es ns (D++B) R:=by
 constructor
 ·exact h.nd
 ·exact h.sub
 ·exact h.dz
 ·exact h.rn
 ·intro i
  rw[h.rm]
  simp only [List.mem_append,not_or]
  exact⟨λ⟨a,b,c,d⟩=>⟨a,⟨b,c⟩,d⟩,λ⟨a,⟨b,c⟩,d⟩=>⟨a,b,c,d⟩⟩
theorem RM.step (h:RM es ns D B b R)(hi:i∈B)(qw:i∉b)(hp:∀e∈es,e.2=i->e.1=aI sh i)(iF:∀e∈es,e.1∈ns):
 (0<dJ es i->aI sh i∉D++b∧aI sh i∉B∧aI sh i≠i)∧i∉D++b∧
 RM es ns D B (b++[i]) (if 0<dJ es i∧pend es (D++b++[i]) (aI sh i)=0 then R++[aI sh i] else R):=by
 have sA:i∉D++b:=by
  intro hm
  rcases List.mem_append.mp hm with hm|hm
  ·exact(List.nodup_append.mp h.nd).2.2 i hm i hi rfl
  ·exact qw hm
 have o9:=Lk (es:=es) sA hp
 have g8:0<dJ es i->0<pend es (D++b) (aI sh i):=λh0=>by
  have:=o9 (aI sh i)
  rw[if_pos rfl] at this
  exact @(ln 0x84011042100261089601041308803).1 (pend es (D++b) (aI sh i)) (dJ es i) (pend es (D++b++[i]) (aI sh i)) h0 this
 have IZ:0<dJ es i->aI sh i∉D++b∧aI sh i∉B∧aI sh i≠i:=λh0=>by
  have h1:=g8 h0
  have g1:aI sh i∉D++b:=λhm=>by have:=h.dz _ hm;exact @(ln 0x200044108421000410842904c2200261082610026188c02).1 (dJ es i) (pend es (D++b) (aI sh i)) g8 h0 this
  have g2:aI sh i∉B:=λhm=>by
   have a:=h.bz _ hm
   have b':=DA (es:=es) (D:=D) (D':=D++b) (λx hx=>List.mem_append_left _ hx) (aI sh i)
   exact @(ln 0x100021104210842000041084214882004c4200261082610026189003).1 (dJ es i) (pend es (D++b) (aI sh i)) (pend es D (aI sh i)) g8 h0 a b'
  exact⟨g1,g2,λe=>g2 (by refine aa e ?_;exact hi)⟩
 refine⟨IZ,sA,?_⟩
 have HN:D++(b++[i])=D++b++[i]:=(List.append_assoc _ _ _).symm
 constructor
 ·exact h.nd
 ·exact h.sub
 ·intro x hx
  rcases List.mem_append.mp hx with hx|hx
  ·exact h.bs x hx
  ·rw[List.mem_singleton] at hx;subst hx;exact hi
 ·exact h.bz
 ·intro x hx
  rw[HN] at hx ⊢
  have hm:pend es (D++b++[i]) x≤pend es (D++b) x:=DA (λy hy=>List.mem_append_left _ hy) x
  rcases List.mem_append.mp hx with hx|hx
  ·have:=h.dz x hx;exact @(ln 0x401088000044108413008130882000802).1 (pend es (D++b++[i]) x) (pend es (D++b) x) hm this
  ·rw[List.mem_singleton] at hx
   subst hx
   have a:=h.bz x hi
   have b':=DA (es:=es) (D:=D) (D':=D++b++[x]) (λy hy=>List.mem_append_left _ (List.mem_append_left _ hy)) x
   exact @(ln 0x21088000044108413008200026110802).1 (pend es (D++b++[x]) x) (pend es D x) a b'
 ·split
  ·rename_i hc
   refine List.nodup_append.mpr ⟨h.rn,by simp,λa ha c HX e=>?_⟩
   rw[List.mem_singleton] at HX
   subst HX e
   have:=((h.rm _).mp ha).2.2.2
   have:=g8 hc.1
   exact @(ln 0x4000002208421000200082108520984409884004c27082610026188c03).1 (dJ es i) (pend es (D++b) (aI sh i)) (pend es (D++b++[i]) (aI sh i)) g8 hc (by assumption)
  ·exact h.rn
 ·intro j
  refine aa HN ?_
  have hj:=o9 j
  by_cases qy:j=aI sh i
  ·subst qy
   rw[if_pos rfl] at hj
   by_cases h0:0<dJ es i
   ·refine cP (IZ h0) λg1 g2 g3=>?_
    have Xn:aI sh i∉R:=λhm=>by
     have:=((h.rm _).mp hm).2.2.2
     have:=g8 h0
     exact @(ln 0x401004410842904c02102611056010c03).1 (pend es (D++b) (aI sh i)) (pend es (D++b++[i]) (aI sh i)) (dJ es i) hj h0 (by assumption)
    have cA:aI sh i∈ns:=by
     unfold dJ at h0
     refine ah (List.countP_pos_iff.mp h0) λe he h2=>?_
     refine aa (Eq.symm (hp e he (by simpa using h2))) ?_
     exact iF e he
    by_cases hz:pend es (D++b++[i]) (aI sh i)=0
    ·refine aa (if_pos ⟨h0,hz⟩) ?_
     refine⟨λ_=>⟨cA,λz=>g1 (List.mem_append_left _ z),g2,hz⟩,λ_=>by simp⟩
    ·refine aa (if_neg λq=>hz q.2) ?_
     exact⟨λz=>absurd z Xn,λz=>absurd z.2.2.2 hz⟩
   ·rw[if_neg λq=>h0 q.1,h.rm]
    rw[show pend es (D++b) (aI sh i)=pend es (D++b++[i]) (aI sh i) by exact @(ln 0x842208001104210804204c261056010803).1 (pend es (D++b) (aI sh i)) (pend es (D++b++[i]) (aI sh i)) (dJ es i) hj h0]
  ·rw[if_neg qy] at hj
   rw[show pend es (D++b++[i]) j=pend es (D++b) j by exact Eq.symm ‹_›,<-h.rm]
   split
   ·simp[qy]
   ·rfl
theorem RH.all {rk:Nat->Nat}(h:RH es ns D [])(vI:∀e∈es,rk e.2<rk e.1)(iF:∀e∈es,e.2∈ns):∀i∈ns,i∈D:=by
 have:∀r i,i∈ns->rk i<r->i∈D:=by
  intro r
  induction r with
  |zero=>intro i _ h;exact False.elim (nN h)
  |succ r ih=>
   intro i hi hr
   by_cases hD:i∈D
   ·exact hD
   ·exfalso
    have hz:pend es D i=0:=by
     unfold pend
     rw[List.countP_eq_zero]
     intro e he hc
     simp only [Bool.and_eq_true,beq_iff_eq,Bool.not_eq_true',List.contains_eq_mem,decide_eq_false_iff_not] at hc
     have:=vI e he
     rw[hc.1] at this
     exact hc.2 (ih e.2 (iF e he) (by exact J3 hr this))
    exact nomatch (h.rm i).mpr ⟨hi,hD,hz⟩
 exact λi hi=>this (rk i+1) i hi (Nat.lt_succ_self _)
end
section
noncomputable def gW (wt:Nat->Int)(c:Nat)(l t:List Nat):Prop:=t.length=min c l.length∧∃rest,(t++rest).Perm l∧∀x∈rest,∀y∈t,wt x<wt y
theorem gW.nil (wt:Nat->Int)(c:Nat):gW wt c [] []:=⟨by simp,[], .refl _,λx h=>nomatch h⟩
theorem gW.len (h:gW wt c l t):t.length≤c:=by have:=h.1;exact(ln 0x2008422080200802208421000411ac6010804).1 this (Eq.refl (min c l.length))
theorem gW.perm (h:gW wt c l t)(hl:l.Perm l')(ht:t.Perm t'):gW wt c l' t':=by
 refine j3 h λh1 rest h2 h3=>?_;clear h
 refine⟨by refine aa (Eq.symm ht.length_eq) (aa (Eq.symm hl.length_eq) ?_);exact h1,rest,((ht.symm.append_right rest).trans h2).trans hl,λx hx y hy=>h3 x hx y (ht.mem_iff.mpr hy)⟩
theorem gW.sub (h:gW wt c l t):∀x∈t,x∈l:=λx hx=>by
 refine j3 h λ_ rest h2 _=>?_;clear h
 exact h2.mem_iff.mp (List.mem_append_left _ hx)
theorem gW.more (h:gW wt c l t)(hc:t.length<c):gW wt c (l++[x]) (x::t):=by
 refine j3 h λh1 rest h2 h3=>?_;clear h
 have hlen:=h2.length_eq
 rw[List.length_append] at hlen
 have hr:rest=[]:=List.length_eq_zero_iff.mp (by exact(ln 0x40008400088000000000022084200002000821084130086222c600ac440884109005).1 hc h1 hlen (Eq.refl (min c l.length)))
 subst hr
 rw[List.append_nil] at h2
 refine⟨by refine aa List.length_cons (aa List.length_append (aa List.length_singleton ?_));exact(ln 0x10040100022004010000100441080000002000440080200002108821084010004108461981620cc4b08d62091640082009005).1 hc h1 (Eq.refl (min c l.length)) (Eq.refl (min c (l.length+1))),[],?_,λx h=>nomatch h⟩
 refine aa (List.append_nil ..) ?_
 exact(List.Perm.cons x h2).trans (List.perm_append_comm (l₁:=[x]) (l₂:=l))
theorem gW.full (h:gW wt c l t)(hc:¬t.length<c)(hp:(m::t').Perm (x::t))(hm:∀y∈x::t,wt m≤wt y)(hd:((x::t).map wt).Nodup):gW wt c (l++[x]) t':=by
 refine j3 h λh1 rest h2 h3=>?_;clear h
 have iY:=hp.length_eq
 rw[List.length_cons,List.length_cons] at iY
 have hlen:=h2.length_eq
 rw[List.length_append] at hlen
 have H8:((m::t').map wt).Nodup:=(hp.map wt).nodup_iff.mpr hd
 rw[List.map_cons,List.nodup_cons] at H8
 have aC:∀y∈t',wt m<wt y:=λy hy=>by
  have a:=hm y (hp.mem_iff.mp (.tail _ hy))
  have b:wt m≠wt y:=λe=>H8.1 (List.mem_map.mpr ⟨y,hy,e.symm⟩)
  exact(ln 0x1080410042208421010202982018840).1 a b
 refine⟨by refine aa List.length_append (aa List.length_singleton ?_);exact(ln 0x10040000400004400040100421000220800100000004011042000000000200044000401004010002208001000000040110421084230083312c23588255866458660588a41048131406).1 hc h1 iY (Eq.refl (min c l.length)) (Eq.refl (min c (l.length+1))),m::rest,?_,λz hz y hy=>?_⟩
 ·have e1:(t'++m::rest).Perm (m::t'++rest):=List.perm_middle
  refine e1.trans ((hp.append_right rest).trans ?_)
  exact(List.Perm.cons x h2).trans (List.perm_append_comm (l₁:=[x]) (l₂:=l))
 ·rcases List.mem_cons.mp hz with rfl|hz
  ·exact aC y hy
  ·rcases List.mem_cons.mp (hp.mem_iff.mp (.tail _ hy)) with e|Yb
   ·subst e
    by_cases ht:t=[]
    ·subst ht
     have:t'=[]:=List.length_eq_zero_iff.mp (by simpa using iY)
     rw[this] at hy;cases hy
    ·refine xE (List.exists_mem_of_ne_nil t ht) λu hu=>?_
     by_cases IP:m∈t
     ·exact Int.lt_trans (h3 z hz m IP) (aC y hy)
     ·have Xj:m=y:=by
       rcases List.mem_cons.mp (hp.mem_iff.mp (.head _)) with e|e
       ·exact e
       ·exact absurd e IP
      subst Xj
      exact absurd (aC m hy) (Int.lt_irrefl _)
   ·exact h3 z hz y Yb
end
section
theorem DB (h:M.Perm L):∀l:List Nat,M=l.map f->∃l',l.Perm l'∧L=l'.map f:=by
 induction h with
 |nil=>intro l e;exact⟨l, .refl _,e⟩
 |cons x h ih=>
  intro l e
  cases l with
  |nil=>cases e
  |cons a l=>
   rw[List.map_cons] at e
   refine xA (List.cons.inj e) λe1 e2=>?_
   refine ah (ih l e2) λl' p q=>?_
   exact⟨a::l',p.cons a,by exact aa List.map_cons (aa e1 (aa q rfl))⟩
 |swap x y l0=>
  intro l e
  match l,e with
  |a::b::l,e=>
   rw[List.map_cons,List.map_cons] at e
   refine xA (List.cons.inj e) λe1 e2=>?_
   refine xA (List.cons.inj e2) λe3 e4=>?_
   exact⟨b::a::l, .swap _ _ _,by exact aa List.map_cons (aa List.map_cons (aa e1 (aa e3 (aa e4 rfl))))⟩
  |[a],e=>exact absurd (List.cons.inj e).2 (by simp)
  |[],e=>cases e
 |trans h1 h2 Yk Yl=>
  intro l e
  refine ah (Yk l e) λl1 p1 q1=>?_
  refine ah (Yl l1 q1) λl2 p2 q2=>?_
  exact⟨l2,p1.trans p2,q2⟩
structure oi (key:Value->Int)(f:Nat->Value)(wt:Nat->Int)(c:Nat)(l t:List Nat):Prop where
 top:gW wt c l t
 rt:ow key (t.map f)
theorem oi.push (h:oi key f wt c l t)(hc:t.length<c)(h3:c≤3):∃t',jA key (t.map f) (f x)=t'.map f∧oi key f wt c (l++[x]) t'∧(x::t).Perm t':=by
 refine xA (push_ok key (f x) h.rt (by refine aa (List.length_map ..) ?_;exact(ln 0x10844108453000730802008802).1 hc h3)) λp r=>?_
 refine ah (DB p.symm (x::t) rfl) λt' p' e=>?_
 exact⟨t',e,⟨(h.top.more hc).perm (.refl _) p',e▸r⟩,p'⟩
theorem oi.full (h:oi key f wt c l t)(hc:¬t.length<c)(h3:c≤3)(hk:∀y∈x::t,key (f y)=wt y)(hd:((x::t).map wt).Nodup):
 ∃m t',kg key (t.map f) (f x)=(f m,t'.map f)∧m∈x::t∧(∀y∈x::t,wt m≤wt y)∧oi key f wt c (l++[x]) t'∧(x::t).Perm (m::t'):=by
 have hl:=h.top.len
 refine cP (pushpop_ok key (f x) h.rt (by refine aa (List.length_map ..) ?_;exact Nat.le_trans ‹_› ‹_›)) λp r hm=>?_
 refine ah (DB p.symm (x::t) rfl) λq p' e=>?_
 cases q with
 |nil=>cases e
 |cons m t'=>
  rw[List.map_cons] at e
  refine xA (List.cons.inj e) λe1 e2=>?_
  have iE:∀y∈x::t,wt m≤wt y:=λy hy=>by
   have:=hm (f y) (by
    have:f y∈(x::t).map f:=List.mem_map.mpr ⟨y,hy,rfl⟩
    rwa [List.map_cons] at this)
   rw[e1,hk y hy,hk m (p'.mem_iff.mpr (.head _))] at this
   exact this
  refine⟨m,t',Prod.ext e1 e2,p'.mem_iff.mpr (.head _),iE,⟨h.top.full hc p'.symm iE hd,e2▸r⟩,p'⟩
end
section
structure RS (s:SS)(es:List (Nat×Nat))(D B:List Nat):Prop where
 ok:bX s
 np:s.np=ig es D B
 aN:∀q,dK s q=(es.filter λe=>e.2==q).map (·.1)
 mem:∀i,i∈s.ns↔∃e∈es,i=e.1∨i=e.2
theorem Ll (es:List (Nat×Nat))(p:Nat):pend es [] p=es.countP λe=>e.1==p:=by
 unfold pend;congr 1;funext e;simp
theorem RS.start (h:SE s es)(x:Value):RS (pO s x) es [] []:=by
 refine⟨⟨h.ok.nd,h.ok.lt,h.ok.df,h.ok.sl⟩,?_,h.aN,h.mem⟩
 funext i
 show s.np i=_
 rw[h.np,ig,if_neg (by simp),if_neg (by simp),Ll]
theorem RH.first (h:SE s es):RH es s.ns [] (s.ns.filter λi=>s.np i==0):=by
 constructor
 ·exact List.nodup_nil
 ·intro i hi;cases hi
 ·intro i hi;cases hi
 ·exact h.ok.nd.filter _
 ·intro i
  rw[List.mem_filter,h.np,Ll]
  simp
theorem RS.ready (h:RS s es D [])(hR:∀i∈R,i∈s.ns∧i∉D)(x:Int)(t:Tok):RS (Lq (kO s R (-1)) x t) es D R:=by
 have ho:=h.ok.all (λi hi=>(hR i hi).1) (-1)
 refine⟨⟨ho.nd,ho.lt,ho.df,ho.sl⟩,?_,h.aN,h.mem⟩
 funext i
 show tO s.np R (-1) i=_
 refine aa (DJ ..) (aa (h.np ..) ?_)
 unfold ig
 by_cases hD:i∈D
 ·exact aa (if_pos hD) (aa (if_pos hD) (aa (if_neg λz=>(hR i z).2 hD) rfl))
 ·refine aa (if_neg hD) (aa (if_neg hD) ?_)
  by_cases hi:i∈R
  ·rfl
  ·rfl
theorem RS.fin (h:RS s es (D++B) B):RS s es (D++B) []:=by
 refine⟨h.ok,?_,h.aN,h.mem⟩
 refine aa h.np ?_;funext i;unfold ig
 by_cases hD:i∈D++B
 ·exact aa (if_pos hD) (aa (if_pos hD) rfl)
 ·exact aa (if_neg hD) (aa (if_neg hD) (aa (if_neg λz=>hD (List.mem_append_right _ z)) (aa (if_neg (by simp)) rfl)))
theorem RS.done (h:RS s es (D++b) B)(hm:RM es s.ns D B b R)(hi:i∈B)(qw:i∉b)(hp:∀e∈es,e.2=i->e.1=aI sh i)(x:Int)(t:Tok):
 s.np i= -1∧RS (wu (ie s (fS (upd s.np i (-2)) R (dK s i)).1) x t) es (D++(b++[i])) B∧RM es s.ns D B (b++[i]) (fS (upd s.np i (-2)) R (dK s i)).2:=by
 have iF:∀e∈es,e.1∈s.ns:=λe he=>(h.mem _).mpr ⟨e,he, .inl rfl⟩
 refine cP (hm.step hi qw hp iF) λh1 h2 h3=>?_
 have hd:=UW (R:=R) h2 hp h1
 rw[<-h.np,<-h.aN] at hd
 refine aa hd ?_
 refine⟨?_,⟨?_,?_,h.aN,h.mem⟩,h3⟩
 ·refine aa h.np ?_;unfold ig;exact aa (if_neg h2) (aa (if_pos hi) rfl)
 ·have ho:=h.ok.ie (f:=ig es (D++b++[i]) B) λj hj=>by
   unfold ig
   have W0:j∉D++b++[i]:=λz=>hj (by
    rcases List.mem_append.mp z with z|z
    ·rcases List.mem_append.mp z with z|z
     ·exact hm.sub j (List.mem_append_left _ z)
     ·exact hm.sub j (List.mem_append_right _ (hm.bs j z))
    ·rw[List.mem_singleton] at z;subst z;exact hm.sub _ (List.mem_append_right _ hi))
   refine aa (if_neg W0) (aa (if_neg λz=>hj (hm.sub j (List.mem_append_right _ z))) ?_)
   have:pend es (D++b++[i]) j=0:=by
    unfold pend
    rw[List.countP_eq_zero]
    intro e he hc
    simp only [Bool.and_eq_true,beq_iff_eq] at hc
    exact hj (hc.1▸iF e he)
   refine aa this ?_;rfl
  exact⟨ho.nd,ho.lt,ho.df,ho.sl⟩
 ·show ig es (D++b++[i]) B=_
  exact aa (List.append_assoc ..) rfl
end
section
noncomputable def pJ (sh:Nat->Nat)(x q:Nat):Prop:=q=7+x∨(q<7∧q∈chain (sh x))
theorem Un:∀s<7,s∈chain s:=by decide+kernel
theorem Up:∀s<7,∀q<7,q∈chain s->(chain q).getD 1 0∈chain s:=by decide+kernel
theorem GC:∀s<7,∀q<7,q∈chain s->(chain q).getD 1 0=s->¬4-(chain q).length<4-(chain s).length:=by decide+kernel
set_option synthInstance.maxSize 4000 in
set_option synthInstance.maxHeartbeats 2000000 in
theorem Uo:∀s<7,∀q<7,∀r<7,(q∈chain s∧r∈chain s∧(chain q).getD 1 0=(chain r).getD 1 0∧4-(chain q).length<4-(chain ((chain q).getD 1 0)).length∧4-(chain r).length<4-(chain ((chain q).getD 1 0)).length)->q=r:=by decide+kernel
section
variable {sh:Nat->Nat}{n p q r x:Nat}
theorem onL_up (aA:∀k<5,sh k<7)(hn:n≤5)(hx:x<5)(h:pJ sh x q)(he:(p,q)∈bE sh n):pJ sh x p:=by
 refine iy (jv aA hn he) λh1 h2 h3 h4=>?_
 have h1:p<7:=h1
 have h3:aI sh q=p:=h3
 refine .inr ⟨h1,?_⟩
 rcases h with rfl|⟨hq,hm⟩
 ·rw[aI,if_neg (by simp),Nat.add_sub_cancel_left] at h3
  refine aa h3 ?_;exact Un p h1
 ·rw[aI,if_pos hq] at h3
  refine aa (Eq.symm h3) ?_;exact Up _ (aA x hx) q hq hm
theorem Lc (aA:∀k<5,sh k<7)(hn:n≤5)(hx:x<5)(h:pJ sh x q)(h':pJ sh x r)(he:(p,q)∈bE sh n)(Ia:(p,r)∈bE sh n):q=r:=by
 refine iy (jv aA hn he) λh1 h2 h3 h4=>?_
 refine iy (jv aA hn Ia) λg1 g2 g3 g4=>?_
 have h1:p<7:=h1
 have h3:aI sh q=p:=h3
 have g3:aI sh r=p:=g3
 have h4:fO q<fO p:=h4
 have g4:fO r<fO p:=g4
 have hs:=aA x hx
 rcases h with rfl|⟨hq,hm⟩<;>rcases h' with rfl|⟨hr,IL⟩
 ·rfl
 ·rw[aI,if_neg (by exact Kd),Nat.add_sub_cancel_left] at h3
  rw[aI,if_pos hr] at g3
  rw[fO,fO,if_pos hr,if_pos h1] at g4
  subst h3
  exact absurd g4 (GC _ hs r hr IL g3)
 ·rw[aI,if_neg (by lia),Nat.add_sub_cancel_left] at g3
  rw[aI,if_pos hq] at h3
  rw[fO,fO,if_pos hq,if_pos h1] at h4
  subst g3
  exact absurd h4 (GC _ hs q hq hm h3)
 ·rw[aI,if_pos hq] at h3
  rw[aI,if_pos hr] at g3
  rw[fO,fO,if_pos hq,if_pos h1] at h4
  rw[fO,fO,if_pos hr,if_pos h1] at g4
  refine Uo _ hs q hq r hr ⟨hm,IL,h3.trans g3.symm,?_,?_⟩
  ·refine aa h3 ?_;exact h4
  ·refine aa h3 ?_;exact g4
end
noncomputable def zK (es:List (Nat×Nat))(D:List Nat)(p:Nat):List Nat:=D.filter λq=>es.contains (p,q)
noncomputable def kH (es:List (Nat×Nat))(D:List Nat)(tt:Nat->List Nat)(p:Nat):List Nat:=(zK es D p).flatMap tt
theorem Vw {tt:Nat->List Nat}:∀{l:List Nat},l.Nodup->(∀q∈l,(tt q).Nodup)->(∀q∈l,∀r∈l,∀x,x∈tt q->x∈tt r->q=r)->(l.flatMap tt).Nodup
 |[],_,_,_=>List.nodup_nil
 |a::l,h1,h2,h3=>by
  refine aa List.flatMap_cons ?_
  refine xA (List.nodup_cons.mp h1) λha hl=>?_
  refine List.nodup_append.mpr ⟨h2 a (.head _),Vw hl (λq hq=>h2 q (.tail _ hq)) (λq hq r hr=>h3 q (.tail _ hq) r (.tail _ hr)),λx hx y hy e=>?_⟩
  subst e
  refine ah (List.mem_flatMap.mp hy) λr hr X8=>?_
  exact ha ((h3 a (.head _) r (.tail _ hr) x hx X8)▸hr)
theorem Yr:zK es (D++[i]) p=zK es D p++if(p,i)∈es then[i] else[]:=by
 unfold zK
 refine aa (List.filter_append ..) ?_
 congr 1
 by_cases h:(p,i)∈es
 ·refine aa (if_pos h) ?_;simp[h]
 ·refine aa (if_neg h) ?_;simp[h]
theorem Mg:kH es (D++[i]) tt p=kH es D tt p++if(p,i)∈es then tt i else[]:=by
 unfold kH
 refine aa Yr (aa List.flatMap_append ?_)
 congr 1
 split<;>simp
theorem upD_upd (h:p∉D):kH es D (upd tt p t) i=kH es D tt i:=by
 unfold kH
 have:∀l:List Nat,p∉l->l.flatMap (upd tt p t)=l.flatMap tt:=by
  intro l
  induction l with
  |nil=>intro _;rfl
  |cons a l ih=>
   intro hm
   exact aa List.flatMap_cons (aa List.flatMap_cons (aa (ih λz=>hm (.tail _ z)) (aa (bY λe=>hm (by subst e;exact .head _)) rfl)))
 exact this _ λz=>h (List.mem_filter.mp z).1
end
section
structure HV (key:Value->Int)(f:Nat->Value)(wt:Nat->Int)(cap:Nat->Nat)(sh:Nat->Nat)(n:Nat)(es:List (Nat×Nat))(D:List Nat)(p:Nat)(pre:List Nat)(tt:Nat->List Nat):Prop where
 ho:∀k<n,tt (7+k)=[k]
 on:∀q,∀x∈tt q,x<n∧pJ sh x q
 nd:∀q,(tt q).Nodup
 top:∀r<7,oi key f wt (cap r) (kH es D tt r++if r=p then pre else[]) (tt r)
noncomputable def mj (n:Nat)(q:Nat):List Nat:=if q<7 then[] else if q-7<n then[q-7] else[]
section
variable {key:Value->Int}{f:Nat->Value}{wt:Nat->Int}{cap:Nat->Nat}{sh:Nat->Nat}{n p i x:Nat}{D pre:List Nat}{tt:Nat->List Nat}
theorem HV.init:HV key f wt cap sh n es [] p [] (mj n):=by
 constructor
 ·intro k hk
  unfold mj
  refine aa (if_neg (by simp)) (aa (if_pos (by exact KN hk (Eq.refl (7+k-7)))) ?_);congr 1;exact Nat.add_sub_cancel_left _ _
 ·intro q x hx
  unfold mj at hx
  split at hx
  ·cases hx
  ·split at hx
   ·rw[List.mem_singleton] at hx
    exact⟨by exact @(ln 0x802110421080230082308804).1 x n q (q-7) (by assumption) hx, .inl (by exact(ln 0x2110401004011040100400088000802008821084279ac023cc02508223cc0130c03).1 (by assumption) hx (Eq.refl (q-7)))⟩
   ·cases hx
 ·intro q;unfold mj;split
  ·exact List.nodup_nil
  ·split
   ·simp
   ·exact List.nodup_nil
 ·intro r hr
  have h1:kH es [] (mj n) r=[]:=rfl
  have h2:mj n r=[]:=by unfold mj;exact aa (if_pos hr) rfl
  refine aa h1 (aa h2 ?_)
  have h3:([]++if r=p then([]:List Nat) else[])=[]:=by split<;>rfl
  refine aa h3 ?_
  exact⟨gW.nil _ _,λv hv=>nomatch hv⟩
theorem HV.fresh (aA:∀k<5,sh k<7)(hn:n≤5)(iZ:∀i j,i<n->j<n->wt i=wt j->i=j)(h:HV key f wt cap sh n (bE sh n) D p pre tt)(hp:p<7)(hi:i∉D)(he:(p,i)∈bE sh n)(hx:pre++x::post=tt i):
 x<n∧pJ sh x p∧x∉tt p∧((x::tt p).map wt).Nodup:=by
 have X6:x∈tt i:=by refine aa (Eq.symm hx) ?_;simp
 refine xA (h.on i x X6) λx1 x2=>?_
 have zd:x∉tt p:=by
  intro hm
  have hs:=(h.top p hp).top.sub x hm
  rw[if_pos rfl] at hs
  rcases List.mem_append.mp hs with hs|hs
  ·refine ah (List.mem_flatMap.mp hs) λq hq pB=>?_
   refine xA (List.mem_filter.mp hq) λhqD qN=>?_
   have qN:(p,q)∈bE sh n:=by simpa using qN
   have e:=Lc aA hn (by exact Nat.lt_of_lt_of_le ‹_› ‹_›) x2 (h.on q x pB).2 he qN
   subst e
   exact hi hqD
  ·have cN:=h.nd i
   rw[<-hx] at cN
   exact(List.nodup_append.mp cN).2.2 x hs x (.head _) rfl
 refine⟨x1,onL_up aA hn (by exact ln2 hn x1) x2 he,zd,?_⟩
 have cN:(x::tt p).Nodup:=List.nodup_cons.mpr ⟨zd,h.nd p⟩
 have aC:∀y∈x::tt p,y<n:=λy hy=>by
  rcases List.mem_cons.mp hy with rfl|hy
  ·exact x1
  ·exact(h.on p y hy).1
 unfold List.Nodup at cN ⊢
 rw[List.pairwise_map]
 exact cN.imp_of_mem λha hb bF e=>bF (iZ _ _ (aC _ ha) (aC _ hb) e)
theorem HV.put (aA:∀k<5,sh k<7)(h:HV key f wt cap sh n (bE sh n) D p pre tt)(hp:p<7)(nF:p∉D)(vQ:x<n)(vS:pJ sh x p)(ht:∀y∈t',y∈x::tt p)(cN:t'.Nodup)
 (hT:oi key f wt (cap p) (kH (bE sh n) D tt p++pre++[x]) t'):HV key f wt cap sh n (bE sh n) D p (pre++[x]) (upd tt p t'):=by
 constructor
 ·intro k hk;refine aa (bY (by exact KO hp)) ?_;exact h.ho k hk
 ·intro q y hy
  by_cases e:q=p
  ·subst e
   rw[cD] at hy
   rcases List.mem_cons.mp (ht y hy) with rfl|hm
   ·exact⟨vQ,vS⟩
   ·exact h.on _ y hm
  ·rw[bY e] at hy;exact h.on q y hy
 ·intro q
  by_cases e:q=p
  ·subst e;refine aa cD ?_;exact cN
  ·refine aa (bY e) ?_;exact h.nd q
 ·intro r hr
  refine aa (upD_upd nF) ?_
  by_cases e:r=p
  ·subst e;refine aa (cD ..) (aa (if_pos rfl ..) (aa (Eq.symm (List.append_assoc ..)) ?_));exact hT
  ·refine aa (bY e) (aa (if_neg e) ?_)
   have:=h.top r hr
   rw[if_neg e] at this
   exact this
theorem HV.next (aA:∀k<5,sh k<7)(hn:n≤5)(h:HV key f wt cap sh n (bE sh n) D p (tt i) tt)(he:(p,i)∈bE sh n)(p':Nat):HV key f wt cap sh n (bE sh n) (D++[i]) p' [] tt:=by
 refine⟨h.ho,h.on,h.nd,λr hr=>?_⟩
 have h1:=h.top r hr
 refine aa Mg ?_
 have h2:(if r=p' then([]:List Nat) else[])=[]:=by split<;>rfl
 refine aa (h2 ..) (aa (List.append_nil ..) ?_)
 by_cases e:r=p
 ·subst e;rw[if_pos rfl] at h1;refine aa (if_pos he) ?_;exact h1
 ·rw[if_neg e] at h1
  rw[if_neg λz=>e ?_]
  ·exact h1
  ·exact(jv aA hn z).2.2.1.symm.trans (jv aA hn he).2.2.1
theorem HV.root (h:HV key f wt cap sh n es D p [] tt)(he:∀e∈es,e.2≠i)(p':Nat):HV key f wt cap sh n es (D++[i]) p' [] tt:=by
 refine⟨h.ho,h.on,h.nd,λr hr=>?_⟩
 have h1:=h.top r hr
 refine aa Mg (aa (if_neg λz=>he _ z rfl) ?_)
 have h2:∀p,(if r=p then([]:List Nat) else[])=[]:=λp=>by split<;>rfl
 rw[h2,List.append_nil] at h1
 refine aa (h2 ..) (aa (List.append_nil ..) (aa (List.append_nil ..) ?_));exact h1
theorem HV.any (h:HV key f wt cap sh n es D p [] tt)(p':Nat):HV key f wt cap sh n es D p' [] tt:=by
 refine⟨h.ho,h.on,h.nd,λr hr=>?_⟩
 have h1:=h.top r hr
 have h2:∀p,(if r=p then([]:List Nat) else[])=[]:=λp=>by split<;>rfl
 rw[h2] at h1
 refine aa (h2 ..) ?_;exact h1
theorem HV.push (aA:∀k<5,sh k<7)(hn:n≤5)(iZ:∀i j,i<n->j<n->wt i=wt j->i=j)(h:HV key f wt cap sh n (bE sh n) D p pre tt)(hp:p<7)(hi:i∉D)(nF:p∉D)(he:(p,i)∈bE sh n)(hx:pre++x::post=tt i)(hc:(tt p).length<cap p)(h3:cap p≤3):
 ∃t',jA key ((tt p).map f) (f x)=t'.map f∧HV key f wt cap sh n (bE sh n) D p (pre++[x]) (upd tt p t'):=by
 refine iy (h.fresh aA hn iZ hp hi he hx) λa1 a2 a3 a4=>?_
 have h1:=h.top p hp
 rw[if_pos rfl] at h1
 refine cQ (h1.push (x:=x) hc h3) λt' e hT fh=>?_
 refine⟨t',e,h.put aA hp nF a1 a2 (λy hy=>fh.mem_iff.mpr hy) ?_ hT⟩
 exact fh.nodup_iff.mp (List.nodup_cons.mpr ⟨a3,h.nd p⟩)
theorem HV.full (aA:∀k<5,sh k<7)(hn:n≤5)(iZ:∀i j,i<n->j<n->wt i=wt j->i=j)(hk:∀k<n,key (f k)=wt k)(h:HV key f wt cap sh n (bE sh n) D p pre tt)(hp:p<7)(hi:i∉D)(nF:p∉D)(he:(p,i)∈bE sh n)(hx:pre++x::post=tt i)(hc:¬(tt p).length<cap p)(h3:cap p≤3):
 ∃m t',kg key ((tt p).map f) (f x)=(f m,t'.map f)∧m∈x::tt p∧(∀y∈x::tt p,wt m≤wt y)∧HV key f wt cap sh n (bE sh n) D p (pre++[x]) (upd tt p t'):=by
 refine iy (h.fresh aA hn iZ hp hi he hx) λa1 a2 a3 a4=>?_
 have h1:=h.top p hp
 rw[if_pos rfl] at h1
 have aC:∀y∈x::tt p,y<n:=λy hy=>by
  rcases List.mem_cons.mp hy with rfl|hy
  ·exact a1
  ·exact(h.on p y hy).1
 refine xEEAAAA (h1.full (x:=x) hc h3 (λy hy=>hk y (aC y hy)) a4) λm t' e e1 e2 hT fh=>?_
 refine⟨m,t',e,e1,e2,h.put aA hp nF a1 a2 (λy hy=>fh.mem_iff.mpr (.tail _ hy)) ?_ hT⟩
 exact(List.nodup_cons.mp (fh.nodup_iff.mp (List.nodup_cons.mpr ⟨a3,h.nd p⟩))).2
end
end
section
noncomputable def dc (sh:Nat->Nat)(S:List Nat)(j:Nat):Nat:=(S.filter (eE sh j)).length
structure oq (sh:Nat->Nat)(ao:List (Nat×Int))(cap:Nat->Nat)(n:Nat):Prop where
 hl:∀k<n,∀j∈chain (sh k),∃p∈ao,p.1=j
 hr:∀p∈ao,p.2=(cap p.1:Nat)
noncomputable def within (sh:Nat->Nat)(cap:Nat->Nat)(S:List Nat):Prop:=∀j,(∃k∈S,j∈chain (sh k))->dc sh S j≤cap j
section
variable {sh:Nat->Nat}{ao:List (Nat×Int)}{cap:Nat->Nat}{n:Nat}{wt:Nat->Int}
theorem yp (S:List Nat)(j:Nat):iD sh S j=(dc sh S j:Nat):=rfl
theorem lU:eE sh j k=true↔j∈chain (sh k):=by unfold eE;simp
theorem Bw (h:S.Sublist S')(j:Nat):dc sh S j≤dc sh S' j:=(h.filter _).length_le
theorem UG (h:S.Perm S')(j:Nat):dc sh S j=dc sh S' j:=(h.filter _).length_eq
theorem UE (h:¬∃k∈S,j∈chain (sh k)):dc sh S j=0:=by
 unfold dc
 rw[List.length_eq_zero_iff,List.filter_eq_nil_iff]
 exact λk hk q=>h ⟨k,hk,lU.mp q⟩
theorem tY (h:within sh cap S)(j:Nat):dc sh S j≤cap j:=by
 by_cases e:∃k∈S,j∈chain (sh k)
 ·exact h j e
 ·refine aa (UE e) ?_;exact Nat.zero_le _
theorem Jx (L:oq sh ao cap n)(hS:∀k∈S,k<n):indep sh ao S=true↔within sh cap S:=by
 unfold indep
 rw[List.all_eq_true]
 constructor
 ·intro h j OW;refine ah OW λk hk hj=>?_;clear OW
  refine ah (L.hl k (hS k hk) j hj) λp hp zr276=>?_;subst zr276
  have:=of_decide_eq_true (h p hp)
  rw[yp,L.hr p hp] at this
  exact Int.ofNat_le.mp ‹_›
 ·intro h p hp
  have:=tY h p.1
  refine decide_eq_true ?_
  refine aa (yp ..) (aa (L.hr p hp ..) ?_)
  exact Int.ofNat_le.mpr ‹_›
theorem Hg (L:oq sh ao cap n)(hk:k<n):qj sh ao ks k=true↔∀j∈chain (sh k),dc sh ks j<cap j:=by
 unfold qj
 rw[List.all_eq_true]
 constructor
 ·intro h j hj
  refine ah (L.hl k hk j hj) λp hp zr277=>?_;subst zr277
  have:=h p hp
  rw[lU.mpr hj] at this
  have:=of_decide_eq_true (by assumption)
  rw[yp,L.hr p hp] at this
  exact Int.ofNat_lt.mp ‹_›
 ·intro h p hp
  by_cases hj:eE sh p.1 k=true
  ·refine aa hj ?_
   have:=h p.1 (lU.mp hj)
   have h2:iD sh ks p.1<p.2:=by refine aa (yp ..) (aa (L.hr p hp ..) ?_);exact Int.ofNat_lt.mpr ‹_›
   exact decide_eq_true ‹_›
  ·simp[hj]
structure Gr (sh:Nat->Nat)(cap:Nat->Nat)(wt:Nat->Int)(ord G:List Nat):Prop where
 sl:G.Sublist ord
 ok:within sh cap G
 no:∀k∈ord,k∉G->∃j∈chain (sh k),cap j≤dc sh (G.filter λy=>decide (wt k<wt y)) j
theorem UH:dc sh (ks++[k]) j=dc sh ks j+if j∈chain (sh k) then 1 else 0:=by
 unfold dc
 refine aa (List.filter_append ..) (aa (List.length_append ..) ?_)
 by_cases h:j∈chain (sh k)
 ·refine aa (if_pos h) (aa (List.filter_cons_of_pos (lU.mpr h)) ?_);rfl
 ·refine aa (if_neg h) (aa (List.filter_cons_of_neg λq=>h (lU.mp q)) ?_);rfl
theorem Hj (L:oq sh ao cap n):∀(r:List Nat),(∀k∈r,k<n)->((r.reverse).Pairwise λa b=>wt b<wt a)->Gr sh cap wt r.reverse (fB sh ao r.reverse)
 |[],_,_=>⟨.refl _,λj h=>(by refine ah h λk hk _=>?_;clear h;cases hk),λk h=>nomatch h⟩
 |x::r,hn,hp=>by
  rw[List.reverse_cons] at hp ⊢
  refine cP (List.pairwise_append.mp hp) λp1 p2 p3=>?_
  have ih:=Hj L r (λk hk=>hn k (.tail _ hk)) p1
  have hx:=hn x (.head _)
  generalize hl:r.reverse=l at*
  have aC:∀y∈l,wt x<wt y:=λy hy=>p3 y hy x (.head _)
  have e:fB sh ao (l++[x])=qk sh ao (fB sh ao l) x:=by unfold fB;refine aa List.foldl_append ?_;rfl
  refine aa e ?_
  generalize fB sh ao l=G at*
  have hG:∀y∈G,wt x<wt y:=λy hy=>aC y (ih.sl.subset hy)
  unfold qk
  by_cases hg:qj sh ao G x=true
  ·refine aa (if_pos hg) ?_
   have Ca:=(Hg L hx).mp hg
   refine⟨ih.sl.append (.refl _),λj _=>?_,λk hk yU=>?_⟩
   ·refine aa UH ?_
    have h1:=tY ih.ok j
    split
    ·rename_i hj;have:=Ca j hj;assumption
    ·assumption
   ·rcases List.mem_append.mp hk with hk|hk
    ·refine ah (ih.no k hk λz=>yU (List.mem_append_left _ z)) λj hj hc=>?_
     refine⟨j,hj,?_⟩
     have CO:¬wt k<wt x:=by have:=aC k hk;exact(ln 0x422084202180120440).1 this
     refine aa (List.filter_append ..) (aa (List.filter_cons_of_neg (by simpa using CO) ..) (aa (List.filter_nil ..) (aa (List.append_nil ..) ?_)))
     exact hc
    ·exact absurd (List.mem_append_right _ hk) yU
  ·refine aa (if_neg hg) ?_
   refine⟨ih.sl.trans (List.sublist_append_left _ _),ih.ok,λk hk yU=>?_⟩
   rcases List.mem_append.mp hk with hk|hk
   ·exact ih.no k hk yU
   ·rw[List.mem_singleton] at hk;subst hk
    have:¬∀j∈chain (sh k),dc sh G j<cap j:=λq=>hg ((Hg L hx).mpr q)
    refine xE (Classical.not_forall.mp this) λj hc=>?_
    refine xA (Classical.not_imp.mp hc) λhj hc=>?_
    refine⟨j,hj,?_⟩
    refine aa (List.filter_eq_self.mpr λy hy=>decide_eq_true (hG y hy)) ?_
    exact Nat.le_of_not_lt ‹_›
theorem Hl (L:oq sh ao cap n)(hn:∀k∈ord,k<n)(hp:ord.Pairwise λa b=>wt b<wt a):Gr sh cap wt ord (fB sh ao ord):=by
 have:=Hj (wt:=wt) L ord.reverse (λk hk=>hn k (List.mem_reverse.mp hk)) (by refine aa (List.reverse_reverse ..) ?_;exact hp)
 rwa [List.reverse_reverse] at this
theorem Du {ord:List Nat}(hp:ord.Pairwise λa b=>wt b<wt a):ord.Nodup:=hp.imp λh e=>by subst e;exact Int.lt_irrefl _ h
theorem UI (hk:k∈G)(hj:j∈chain (sh k)):dc sh (G.filter λy=>decide (wt k<wt y)) j+1≤dc sh G j:=by
 unfold dc
 refine aa List.filter_filter ?_
 have h1:G.filter (λa=>eE sh j a&&decide (wt k<wt a))=(G.filter (eE sh j)).filter λy=>decide (wt k<wt y):=by
  refine aa List.filter_filter ?_
  refine List.filter_congr λx _=>?_
  exact aa (Bool.and_comm ..) rfl
 refine aa h1 ?_
 have:((G.filter (eE sh j)).filter λy=>decide (wt k<wt y)).length<(G.filter (eE sh j)).length:=by
  rw[List.length_filter_lt_length_iff_exists]
  exact⟨k,List.mem_filter.mpr ⟨hk,lU.mpr hj⟩,by simp⟩
 assumption
theorem Gr.half (h:Gr sh cap wt ord G)(h':Gr sh cap wt ord G')(hk:k∈ord)(hG:k∈G)(heq:∀y∈ord,wt k<wt y->(y∈G↔y∈G'))(cN:ord.Nodup):k∈G':=by
 by_cases Hw:k∈G'
 ·exact Hw
 ·exfalso
  refine ah (h'.no k hk Hw) λj hj hc=>?_
  have h1:=UI (wt:=wt) hG hj
  have h2:=tY h.ok j
  have e:dc sh (G'.filter λy=>decide (wt k<wt y)) j≤dc sh (G.filter λy=>decide (wt k<wt y)) j:=by
   unfold dc
   refine List.Nodup.length_le_of_subset ?_ ?_
   ·exact((cN.sublist h'.sl).filter _).filter _
   ·intro y hy
    refine xA (List.mem_filter.mp hy) λa b=>?_
    refine xA (List.mem_filter.mp a) λc d=>?_
    exact List.mem_filter.mpr ⟨List.mem_filter.mpr ⟨(heq y (h'.sl.subset c) (of_decide_eq_true d)).mpr c,d⟩,b⟩
  exact(ln 0x108422084210a44100060186625802001004).1 hc h1 h2 e
theorem Gr.iff (h:Gr sh cap wt ord G)(h':Gr sh cap wt ord G')(cN:ord.Nodup):∀k∈ord,(k∈G↔k∈G'):=by
 have:∀N,∀k∈ord,(ord.filter λy=>decide (wt k<wt y)).length<N->(k∈G↔k∈G'):=by
  intro N
  induction N with
  |zero=>intro k _ h;exact False.elim (nN h)
  |succ N ih=>
   intro k hk hN
   have heq:∀y∈ord,wt k<wt y->(y∈G↔y∈G'):=by
    intro y hy ID
    refine ih y hy ?_
    have e:(ord.filter λz=>decide (wt y<wt z))=(ord.filter λz=>decide (wt k<wt z)).filter λz=>decide (wt y<wt z):=by
     refine aa List.filter_filter ?_
     refine List.filter_congr λz _=>?_
     by_cases hz:wt y<wt z
     ·have:wt k<wt z:=by exact Dm ID hz
      simp[hz,this]
     ·simp[hz]
    have:(ord.filter λz=>decide (wt y<wt z)).length<(ord.filter λz=>decide (wt k<wt z)).length:=by
     rw[e,List.length_filter_lt_length_iff_exists]
     exact⟨y,List.mem_filter.mpr ⟨hy,decide_eq_true ID⟩,by simp⟩
    exact J3 hN this
   exact⟨λq=>h.half h' hk q heq cN,λq=>h'.half h hk q (λy hy hl=>(heq y hy hl).symm) cN⟩
 exact λk hk=>this _ k hk (Nat.lt_succ_self _)
end
theorem Bv:∀s<7,∀c<7,c∈chain s->(chain s).take ((chain s).length-(chain c).length)++chain c=chain s:=by decide+kernel
theorem rY:∀s<7,∀c∈chain s,c<7:=by decide+kernel
theorem GD:∀s<7,s∈chain s:=by decide+kernel
section
variable {sh:Nat->Nat}{cap:Nat->Nat}{n:Nat}{wt:Nat->Int}
noncomputable def iQ (sh:Nat->Nat)(t:Nat->Bool)(k:Nat):Nat:=((chain (sh k)).reverse.find? t).getD 7
theorem UC (hx:sh x<7)(hy:sh y<7)(hc:c<7)(h:iQ sh t x=c):iQ sh t y=c↔c∈chain (sh y):=by
 have key:∀z,sh z<7->iQ sh t z=c->c∈chain (sh z)∧(chain c).reverse.find? t=some c:=by
  intro z hz sq
  unfold iQ at sq
  cases e:(chain (sh z)).reverse.find? t with
  |none=>rw[e] at sq;simp at sq;exact False.elim ((ln 0x40110421480f311e6008801).1 hc sq)
  |some d=>
   rw[e] at sq
   have hd:d=c:=sq
   subst hd
   have hm:d∈chain (sh z):=List.mem_reverse.mp (List.mem_of_find?_eq_some e)
   refine⟨hm,?_⟩
   rw[<-Bv _ hz d hc hm,List.reverse_append,List.find?_append] at e
   cases e2:(chain d).reverse.find? t with
   |some d'=>rw[e2] at e;exact e
   |none=>
    rw[List.find?_eq_none] at e2
    have ht:=List.find?_some (p:=t) (l:=(chain (sh z)).reverse) (a:=d) (by refine aa (Eq.symm (Bv _ hz d hc hm)) (aa List.reverse_append (aa (List.find?_append) ?_));exact e)
    exact absurd ht (e2 d (List.mem_reverse.mpr (GD d hc)))
 refine⟨λq=>(key y hy q).1,λq=>?_⟩
 refine xA (key x hx h) λ_ h2=>?_
 unfold iQ
 refine aa (Eq.symm (Bv _ hy c hc q)) (aa List.reverse_append (aa (List.find?_append) (aa h2 ?_)));rfl
theorem JM (cls:Nat->Nat)(l:List Nat)(m:Nat)(h:∀x∈l,cls x<m):l.length=((List.range m).map λc=>l.countP λx=>cls x==c).sum:=by
 induction l with
 |nil=>
  have:∀m:Nat,((List.range m).map λc=>([]:List Nat).countP λx=>cls x==c).sum=0:=by
   intro m
   induction m with
   |zero=>rfl
   |succ m ih=>refine aa List.range_succ (aa List.map_append (aa List.sum_append (aa ih ?_)));rfl
  refine aa (this ..) ?_;rfl
 |cons a l ih=>
  have ih:=ih λx hx=>h x (.tail _ hx)
  have ha:=h a (.head _)
  have e:((List.range m).map λc=>(a::l).countP λx=>cls x==c)=((List.range m).map λc=>(l.countP λx=>cls x==c)+if cls a=c then 1 else 0):=by
   refine List.map_congr_left λc _=>?_
   refine aa List.countP_cons ?_
   simp
  refine aa e (aa List.length_cons (aa ih ?_))
  have:∀(m:Nat) (f:Nat->Nat) (b:Nat),b<m->((List.range m).map λc=>f c+if b=c then 1 else 0).sum=((List.range m).map f).sum+1:=by
   intro m
   induction m with
   |zero=>intro f b h;exact(ln 0x8821985601026208403).1 h
   |succ m ih=>
    intro f b hb
    refine aa List.range_succ (aa List.map_append (aa List.map_append (aa List.sum_append (aa List.sum_append ?_))))
    by_cases h:b=m
    ·subst h
     have e2:((List.range b).map λc=>f c+if b=c then 1 else 0)=(List.range b).map f:=by
      refine List.map_congr_left λc hc=>?_
      refine aa (if_neg (by have:=List.mem_range.mp hc;exact Nat.ne_of_gt ‹_›)) ?_;rfl
     refine aa e2 ?_;simp;exact Int.toNat_natCast _
    ·refine aa (ih f b (by exact tD hb h)) ?_
     simp[h];simp+arith
  exact aa (this m _ _ ha) rfl
theorem sum_le_of {f g:Nat->Nat}(h:∀c<m,f c≤g c):((List.range m).map f).sum≤((List.range m).map g).sum:=by
 induction m with
 |zero=>exact Nat.le_refl _
 |succ m ih=>
  refine aa List.range_succ (aa List.map_append (aa List.map_append (aa List.sum_append (aa List.sum_append ?_))))
  have:=ih λc hc=>h c (by exact Nat.lt_succ_of_lt ‹_›)
  have:=h m (by exact Nat.lt_succ_self _)
  simp
  exact(ln 0x421104211896102c030804000804).1 (by assumption) this
theorem aug {A B:List Nat}(aA:∀k,k∈A∨k∈B->sh k<7)(hA:A.Nodup)(hB:B.Nodup)(X3:within sh cap B)(hl:A.length<B.length):∃x∈B,x∉A∧∀j∈chain (sh x),dc sh A j<cap j:=by
 by_cases bF:∃x∈B,x∉A∧∀j∈chain (sh x),dc sh A j<cap j
 ·exact bF
 exfalso
 let t:Nat->Bool:=λj=>decide (cap j≤dc sh A j)
 have Ik:∀x∈B,iQ sh t x=7->x∈A:=by
  intro x hx h7
  by_cases zx:x∈A
  ·exact zx
  ·exfalso
   refine bF ⟨x,hx,zx,λj hj=>?_⟩
   by_cases hc:dc sh A j<cap j
   ·exact hc
   ·exfalso
    unfold iQ at h7
    cases e:(chain (sh x)).reverse.find? t with
    |none=>
     rw[List.find?_eq_none] at e
     exact e j (List.mem_reverse.mpr hj) (decide_eq_true (by exact Nat.le_of_not_lt ‹_›))
    |some d=>
     rw[e] at h7
     have hd:d=7:=h7
     have:=rY _ (aA x (.inr hx)) d (List.mem_reverse.mp (List.mem_of_find?_eq_some e))
     exact(ln 0x4011042149e6009e6010801).1 hd this
 have aC:∀x,x∈A∨x∈B->iQ sh t x<8:=by
  intro x hx
  unfold iQ
  cases e:(chain (sh x)).reverse.find? t with
  |none=>show(7:Nat)<8;exact Nat.lt_succ_self _
  |some d=>
   have:=rY _ (aA x hx) d (List.mem_reverse.mp (List.mem_of_find?_eq_some e))
   show d<8;exact Nat.lt_succ_of_lt ‹_›
 rw[JM (iQ sh t) A 8 (λx hx=>aC x (.inl hx)),JM (iQ sh t) B 8 (λx hx=>aC x (.inr hx))] at hl
 refine absurd hl (Nat.not_lt.mpr (sum_le_of λc hc=>?_))
 by_cases h7:c=7
 ·subst h7
  refine aa List.countP_eq_length_filter (aa List.countP_eq_length_filter ?_)
  refine List.Nodup.length_le_of_subset (hB.filter _) λx hx=>?_
  refine xA (List.mem_filter.mp hx) λa b=>?_
  exact List.mem_filter.mpr ⟨Ik x a (by simpa using b),b⟩
 ·by_cases hex:∃x∈B,iQ sh t x=c
  ·refine ah hex λx hx kU=>?_;clear hex
   have Wc:c<7:=by exact(ln 0x840208021104213cc013cc023226008801).1 hc h7
   have e:∀S:List Nat,(∀y∈S,sh y<7)->(S.countP λy=>iQ sh t y==c)=dc sh S c:=by
    intro S hS
    unfold dc
    refine aa List.countP_eq_length_filter ?_
    congr 1
    refine List.filter_congr λy hy=>?_
    have:=UC (t:=t) (aA x (.inr hx)) (hS y hy) Wc kU
    by_cases hm:c∈chain (sh y)
    ·refine aa (lU.mpr hm) ?_;simpa using this.mpr hm
    ·have h1:eE sh c y=false:=by
      cases e:eE sh c y with
      |false=>rfl
      |true=>exact absurd (lU.mp e) hm
     refine aa h1 ?_
     have h2:¬iQ sh t y=c:=λq=>hm (this.mp q)
     exact decide_eq_false ‹_›
   refine aa (e B λy hy=>aA y (.inr hy)) (aa (e A λy hy=>aA y (.inl hy)) ?_)
   have h1:=tY X3 c
   have ht:t c=true:=by
    unfold iQ at kU
    cases e2:(chain (sh x)).reverse.find? t with
    |none=>rw[e2] at kU;exact absurd kU.symm h7
    |some d=>
     rw[e2] at kU
     have hd:d=c:=kU
     subst hd
     exact List.find?_some e2
   have:=of_decide_eq_true ht
   exact Nat.le_trans ‹_› ‹_›
  ·have:(B.countP λy=>iQ sh t y==c)=0:=by
    rw[List.countP_eq_zero]
    intro y hy q
    exact hex ⟨y,hy,by simpa using q⟩
   exact J4 this
theorem within_sub (h:S.Sublist S')(hw:within sh cap S'):within sh cap S:=λj _=>Nat.le_trans (Bw h j) (tY hw j)
theorem Gr.count (h:Gr sh cap wt ord G)(cN:ord.Nodup)(aA:∀k∈ord,sh k<7)(hB:B.Nodup)(Ht:∀x∈B,x∈ord)(hw:within sh cap B)(w:Int):
 (B.countP λx=>decide (w≤wt x))≤G.countP λx=>decide (w≤wt x):=by
 refine aa List.countP_eq_length_filter (aa List.countP_eq_length_filter ?_)
 by_cases hl:(G.filter λx=>decide (w≤wt x)).length<(B.filter λx=>decide (w≤wt x)).length
 ·exfalso
  have VU:∀x∈G,x∈ord:=λx hx=>h.sl.subset hx
  refine cQ (aug (sh:=sh) (cap:=cap) (A:=G.filter λx=>decide (w≤wt x)) (B:=B.filter λx=>decide (w≤wt x)) (λk hk=>by
   rcases hk with hk|hk
   ·exact aA k (VU k (List.mem_filter.mp hk).1)
   ·exact aA k (Ht k (List.mem_filter.mp hk).1)) ((cN.sublist h.sl).filter _) (hB.filter _) (within_sub List.filter_sublist hw) hl) λx hx zx hj=>?_
  refine xA (List.mem_filter.mp hx) λhxB CP=>?_
  have CP:=of_decide_eq_true CP
  have X5:x∉G:=λq=>zx (List.mem_filter.mpr ⟨q,decide_eq_true CP⟩)
  refine ah (h.no x (Ht x hxB) X5) λj vp hc=>?_
  have h1:=hj j vp
  have h2:dc sh (G.filter λy=>decide (wt x<wt y)) j≤dc sh (G.filter λy=>decide (w≤wt y)) j:=by
   refine Bw ?_ j
   have e:(G.filter λy=>decide (wt x<wt y))=(G.filter λy=>decide (w≤wt y)).filter λy=>decide (wt x<wt y):=by
    refine aa List.filter_filter ?_
    refine List.filter_congr λz _=>?_
    by_cases hz:wt x<wt z
    ·have:w≤wt z:=by lia
     simp[hz,this]
    ·simp[hz]
   refine aa e ?_
   exact List.filter_sublist
  exact(ln 0x10844108429104001042000c03).1 hc h1 h2
 ·exact Nat.le_of_not_lt ‹_›
theorem LW:∀(B G:List Nat),(B.Pairwise λa b=>wt b≤wt a)->(G.Pairwise λa b=>wt b≤wt a)->(∀w:Int,(B.countP λx=>decide (w≤wt x))≤G.countP λx=>decide (w≤wt x))->
 B.length≤G.length∧(B.map wt).sum≤((G.take B.length).map wt).sum
 |[],G,_,_,_=>by simp
 |b::B,[],_,_,h=>by
  have:=h (wt b)
  rw[List.countP_cons] at this
  simp at this
 |b::B,g::G,hB,hG,h=>by
  refine xA (List.pairwise_cons.mp hB) λb1 b2=>?_
  refine xA (List.pairwise_cons.mp hG) λg1 g2=>?_
  have V9:wt b≤wt g:=by
   have h1:=h (wt b)
   rw[List.countP_cons,if_pos (by simp)] at h1
   have h2:0<(g::G).countP λx=>decide (wt b≤wt x):=by exact(ln 0x211042004c200cc2b00402).1 h1
   refine ah (List.countP_pos_iff.mp h2) λy hy CQ=>?_
   have CQ:=of_decide_eq_true CQ
   rcases List.mem_cons.mp hy with rfl|hy
   ·exact CQ
   ·have:=g1 y hy;exact Int.le_trans ‹_› ‹_›
  have ih:=LW B G b2 g2 λw=>by
   have h1:=h w
   rw[List.countP_cons,List.countP_cons] at h1
   by_cases hw:w≤wt b
   ·have lT:w≤wt g:=by exact Int.le_trans ‹_› ‹_›
    simp only [hw,lT,decide_true,if_true] at h1
    exact Nat.le_of_lt_add_one ‹_›
   ·have:(B.countP λx=>decide (w≤wt x))=0:=by
     rw[List.countP_eq_zero]
     intro y hy q
     have:=of_decide_eq_true q
     have:=b1 y hy
     lia
    exact J4 this
  refine⟨by simpa using ih.1,?_⟩
  refine aa List.length_cons (aa List.take_succ_cons (aa List.map_cons (aa List.map_cons (aa List.sum_cons (aa List.sum_cons ?_)))))
  have:=ih.2
  exact(ln 0x8401104211896102c6308c2001c4018882).1 V9 ih
end
end
section
noncomputable def yo (b0 b1 b2 b3 b4:Bool):Nat:=b0.toNat+2*b1.toNat+4*b2.toNat+8*b3.toNat+16*b4.toNat
theorem pick4:∀b0 b1 b2 b3:Bool,yo b0 b1 b2 b3 false<2^4∧cB 4 (yo b0 b1 b2 b3 false)=(List.range 4).filter λk=>[b0,b1,b2,b3].getD k false:=by decide+kernel
theorem pick5:∀b0 b1 b2 b3 b4:Bool,yo b0 b1 b2 b3 b4<2^5∧cB 5 (yo b0 b1 b2 b3 b4)=(List.range 5).filter λk=>[b0,b1,b2,b3,b4].getD k false:=by decide+kernel
theorem pick_all (hn:n=4∨n=5)(P:Nat->Bool):∃c<2^n,cB n c=(List.range n).filter P:=by
 rcases hn with rfl|rfl
 ·refine xA (pick4 (P 0) (P 1) (P 2) (P 3)) λh1 h2=>?_
  exact⟨_,h1,h2.trans (by kernel_rfl)⟩
 ·refine xA (pick5 (P 0) (P 1) (P 2) (P 3) (P 4)) λh1 h2=>?_
  exact⟨_,h1,h2.trans (by kernel_rfl)⟩
theorem DC (n c:Nat):(cB n c).Nodup:=List.nodup_range.filter _
theorem z5 (h:k∈cB n c):k<n:=List.mem_range.mp (List.mem_filter.mp h).1
theorem Lm (n c:Nat):(cB n c).length≤n:=by
 have:=List.length_filter_le (λk=>c/2^k% 2==1) (List.range n)
 rw[List.length_range] at this;exact this
section
variable {sh:Nat->Nat}{ao:List (Nat×Int)}{cap:Nat->Nat}{n:Nat}{wt:Nat->Int}
theorem yh:∀(c s:Nat) (x:Int),(c9 sh wt ao n c).getD s none=some x->∃c',indep sh ao (cB n c')=true∧(cB n c').length=s∧((cB n c').map wt).sum=x
 |0,s,x,h=>by
  exfalso
  unfold c9 at h
  rw[List.getD_eq_getElem?_getD,List.getElem?_replicate] at h
  split at h<;>cases h
 |c+1,s,x,h=>by
  have e:c9 sh wt ao n (c+1)=jN sh wt ao (c9 sh wt ao n c) (cB n c):=rfl
  rw[e] at h
  unfold jN at h
  split at h
  ·rename_i hc
   by_cases hs:s=(cB n c).length
   ·subst hs
    refine⟨c,hc.1,rfl,?_⟩
    rw[List.getD_eq_getElem?_getD,List.getElem?_set_self (by refine aa (qe ..) ?_;have:=Lm n c;exact Nat.lt_add_one_of_le ‹_›)] at h
    exact Option.some.inj h
   ·rw[List.getD_eq_getElem?_getD,List.getElem?_set_ne (λq=>hs q.symm),<-List.getD_eq_getElem?_getD] at h
    exact yh c s x h
  ·exact yh c s x h
theorem Gz:∀(c c':Nat),c'<c->indep sh ao (cB n c')=true->∃x,(c9 sh wt ao n c).getD (cB n c').length none=some x∧((cB n c').map wt).sum≤x
 |0,c',h,_=>by exact False.elim (nN h)
 |c+1,c',h,hi=>by
  have e:c9 sh wt ao n (c+1)=jN sh wt ao (c9 sh wt ao n c) (cB n c):=rfl
  refine aa e ?_
  have I9:((c9 sh wt ao n c).set (cB n c).length (some ((cB n c).map wt).sum)).getD (cB n c).length none=some ((cB n c).map wt).sum:=by
   refine aa (List.getD_eq_getElem?_getD) (aa (List.getElem?_set_self (by rw[qe];have:=Lm n c;exact(ln 0x1088210cc2b0042000402).1 this)) ?_);rfl
  by_cases hc:c'=c
  ·subst hc
   unfold jN
   split
   ·exact⟨_,I9,Int.le_refl _⟩
   ·rename_i hn
    cases e2:(c9 sh wt ao n c').getD (cB n c').length none with
    |none=>exact absurd ⟨hi, .inl e2⟩ hn
    |some x=>
     refine⟨x,rfl,?_⟩
     by_cases hx:x<((cB n c').map wt).sum
     ·exact absurd ⟨hi, .inr ⟨x,e2,hx⟩⟩ hn
     ·exact Int.not_lt.mp ‹_›
  ·refine ah (Gz c c' (by exact tD h hc) hi) λx h1 h2=>?_
   unfold jN
   split
   ·rename_i hq
    by_cases hs:(cB n c').length=(cB n c).length
    ·rw[hs] at h1 ⊢
     refine⟨_,I9,?_⟩
     rcases hq.2 with hq|⟨y,hq,hy⟩
     ·rw[hq] at h1;cases h1
     ·rw[hq] at h1;cases h1;exact(ln 0x42110421080611104018860).1 h2 hy
    ·refine⟨x,?_,h2⟩
     refine aa (List.getD_eq_getElem?_getD) (aa (List.getElem?_set_ne (λq=>hs q.symm)) (aa (Eq.symm (List.getD_eq_getElem?_getD)) ?_))
     exact h1
   ·exact⟨x,h1,h2⟩
theorem LX {l l':List Nat}(h:l.Perm l'):(l.map wt).sum=(l'.map wt).sum:=by
 induction h with
 |nil=>rfl
 |cons x _ ih=>simp[ih]
 |swap x y l=>simp;simp+arith
 |trans _ _ h1 h2=>exact h1.trans h2
noncomputable def oO (wt:Nat->Int)(n:Nat)(G:List Nat):List (Option Int):=(List.range (G.length+1)).map (λs=>some ((G.take s).map wt).sum)++List.replicate (n-G.length) none
theorem UZ {ord G:List Nat}(hn:n=4∨n=5)(L:oq sh ao cap n)(aA:∀k<n,sh k<7)(eU:ord.Perm (List.range n))(hp:ord.Pairwise λa b=>wt b<wt a)(h:Gr sh cap wt ord G):c9 sh wt ao n (2^n)=oO wt n G:=by
 have cN:=Du hp
 have qG:∀k∈ord,k<n:=λk hk=>List.mem_range.mp (eU.mem_iff.mp hk)
 have VT:G.length≤n:=by
  have:=h.sl.length_le
  rw[eU.length_eq,List.length_range] at this
  exact this
 have hle:∀{a b:Nat},wt b<wt a->wt b≤wt a:=λh=>by exact Int.le_of_lt ‹_›
 have VV:G.Pairwise λa b=>wt b≤wt a:=(hp.sublist h.sl).imp hle
 have H9:∀c,indep sh ao (cB n c)=true->(cB n c).length≤G.length∧((cB n c).map wt).sum≤((G.take (cB n c).length).map wt).sum:=by
  intro c hc
  have hw:=(Jx L (λk hk=>z5 hk)).mp hc
  have hB:(cB n c).Perm (ord.filter λx=>(cB n c).contains x):=by
   refine(List.perm_ext_iff_of_nodup (DC n c) (cN.filter _)).mpr λx=>?_
   rw[List.mem_filter]
   constructor
   ·intro hx
    exact⟨eU.mem_iff.mpr (List.mem_range.mpr (z5 hx)),by simpa using hx⟩
   ·intro OX;refine xA OX λ_ hx=>?_;clear OX;simpa using hx
  have yM:=h.count cN (λk hk=>aA k (qG k hk)) (DC n c) (λx hx=>eU.mem_iff.mpr (List.mem_range.mpr (z5 hx))) hw
  have:=LW (wt:=wt) (ord.filter λx=>(cB n c).contains x) G ((hp.imp hle).filter _) VV λw=>by
   refine aa (Eq.symm (hB.countP_eq ..)) ?_;exact yM w
  rw[<-hB.length_eq] at this
  refine⟨this.1,?_⟩
  refine aa (LX hB) ?_;exact this.2
 refine List.ext_getElem? λs=>?_
 have hlen:(oO wt n G).length=n+1:=by
  unfold oO;refine aa (List.length_append ..) (aa (List.length_map ..) (aa (List.length_range ..) (aa (List.length_replicate ..) ?_)));exact(ln 0x100401100200844100020088010002208421985620cc0b588011282000803).1 VT (Eq.refl (n-G.length))
 by_cases hs:s<n+1
 ·have e1:(c9 sh wt ao n (2^n))[s]?=some ((c9 sh wt ao n (2^n)).getD s none):=by
   refine aa (List.getD_eq_getElem?_getD) (aa (List.getElem?_eq_getElem (by rw[qe];exact hs)) ?_);rfl
  refine aa e1 ?_
  by_cases vK:s<G.length+1
  ·have e2:(oO wt n G)[s]?=some (some ((G.take s).map wt).sum):=by
    unfold oO
    refine aa (List.getElem?_append_left (by simpa using vK)) (aa (List.getElem?_map) (aa (List.getElem?_range vK) ?_));rfl
   refine aa e2 ?_
   congr 1
   refine ah (pick_all hn λk=>(G.take s).contains k) λc hc ec=>?_
   have qJ:(cB n c).Perm (G.take s):=by
    refine(List.perm_ext_iff_of_nodup (DC n c) (cN.sublist ((List.take_sublist s G).trans h.sl))).mpr λx=>?_
    rw[ec,List.mem_filter]
    constructor
    ·intro OY;refine xA OY λ_ hx=>?_;clear OY;simpa using hx
    ·intro hx
     exact⟨eU.mem_iff.mp (h.sl.subset (List.mem_of_mem_take hx)),by simpa using hx⟩
   have hl:(cB n c).length=s:=by refine aa qJ.length_eq (aa List.length_take ?_);exact(ln 0x2108821000220800100440080011042100841009619856008803).1 vK (Eq.refl (min s G.length))
   have hi:indep sh ao (cB n c)=true:=by
    refine(Jx L (λk hk=>z5 hk)).mpr λj _=>?_
    refine aa (UG qJ ..) ?_
    exact Nat.le_trans (Bw (List.take_sublist s G) j) (tY h.ok j)
   refine ah (Gz (wt:=wt) (2^n) c hc hi) λx hx hle=>?_
   rw[hl] at hx
   refine aa hx ?_
   refine cQ (yh _ _ _ hx) λc' bR lO sP=>?_
   have:=(H9 c' bR).2
   rw[sP,lO] at this
   rw[LX qJ] at hle
   congr 1
   exact @JT x ((List.map wt (List.take s G)).sum) hle this
  ·have e2:(oO wt n G)[s]?=some none:=by
    unfold oO
    exact aa (List.getElem?_append_right (by simp;exact Nat.le_of_not_lt ‹_›)) (aa (List.getElem?_replicate) (aa (if_pos (by simp;exact(ln 0x1080010082008420000200882100400004011042108482086615804a08c8a0cc2b004c198d6009005).1 hs vK (Eq.refl (n-G.length)) (Eq.refl (s-(G.length+1))))) rfl))
   refine aa e2 ?_
   congr 1
   cases e3:(c9 sh wt ao n (2^n)).getD s none with
   |none=>rfl
   |some x=>
    refine cQ (yh _ _ _ e3) λc' bR lO sP=>?_
    have:=(H9 c' bR).1
    exact False.elim ((ln 0x21004410842908800108330ac0130c03).1 vK lO this)
 ·exact aa (List.getElem?_eq_none (by rw[qe];exact Nat.le_of_not_lt ‹_›)) (aa (List.getElem?_eq_none (by exact(ln 0x2108821084000cc4b084c19896010803).1 hlen hs)) rfl)
end
end
section
theorem GB:∀j<7,0<(chain j).length∧(chain j).getD ((chain j).length-1) 0=0:=by decide+kernel
section
variable {key:Value->Int}{f:Nat->Value}{wt:Nat->Int}{cap:Nat->Nat}{sh:Nat->Nat}{n:Nat}{D:List Nat}{tt:Nat->List Nat}
theorem uN (hk:k<n)(hi:i<(chain (sh k)).length):(aQ sh k (i+1),aQ sh k i)∈bE sh n:=by
 unfold bE m9 iR
 exact List.mem_flatMap.mpr ⟨k,List.mem_range.mpr hk,List.mem_map.mpr ⟨i,List.mem_range.mpr hi,rfl⟩⟩
theorem K7 (hs:sh k<7)(hi:i≤(chain (sh k)).length):pJ sh k (aQ sh k i):=by
 match i,hi with
 |0,_=>exact .inl rfl
 |i+1,hi=>
  have e1:aQ sh k (i+1)=(chain (sh k)).getD i 0:=by unfold aQ;refine aa (if_neg (by exact Nat.succ_ne_zero _)) ?_;rfl
  have hm:(chain (sh k)).getD i 0∈chain (sh k):=by
   refine aa (List.getD_eq_getElem?_getD) (aa (List.getElem?_eq_getElem (by assumption)) ?_)
   exact List.getElem_mem _
  refine aa e1 ?_
  exact .inr ⟨rY _ hs _ hm,hm⟩
theorem Z6 (hj:j∈chain (sh k)):∃i<(chain (sh k)).length,aQ sh k (i+1)=j:=by
 obtain ⟨i,hi,e⟩:=List.mem_iff_getElem.mp hj
 refine⟨i,hi,?_⟩
 unfold aQ
 refine aa (if_neg (by exact Kw) ..) (aa (Nat.add_sub_cancel ..) (aa (List.getD_eq_getElem?_getD ..) (aa (List.getElem?_eq_getElem hi ..) ?_)))
 exact e
theorem wB (hs:sh k<7):aQ sh k (chain (sh k)).length=0:=by
 refine xA (GB _ hs) λh1 h2=>?_
 unfold aQ
 refine aa (if_neg (by exact Nat.ne_of_gt ‹_›)) ?_;exact h2
variable (aA:∀k<5,sh k<7)(hn:n≤5)(hD:∀e∈bE sh n,e.2∈D)(h:HV key f wt cap sh n (bE sh n) D 0 [] tt)
include aA hn hD h
theorem CK (hr:r<7):gW wt (cap r) (kH (bE sh n) D tt r) (tt r):=by
 have:=(h.top r hr).top
 rwa [show(if r=0 then([]:List Nat) else[])=[] by split<;>rfl,List.append_nil] at this
theorem XY (hk:k<n)(hi:i<(chain (sh k)).length)(hx:x∈tt (aQ sh k i)):x∈kH (bE sh n) D tt (aQ sh k (i+1)):=by
 have he:=uN hk hi
 exact List.mem_flatMap.mpr ⟨_,List.mem_filter.mpr ⟨hD _ he,by simpa using he⟩,hx⟩
theorem XW (hx:x<n)(hi:i<(chain (sh x)).length)(hm:x∈tt (aQ sh x (i+1))):x∈tt (aQ sh x i):=by
 have hs:=aA x (by exact Nat.lt_of_lt_of_le ‹_› ‹_›)
 refine iy (wA (k:=x) (by exact ln2 hn hx) hs hi) λ_ kX _ _=>?_
 have hu:=(CK aA hn hD h kX).sub x hm
 refine ah (List.mem_flatMap.mp hu) λq hq pB=>?_
 refine xA (List.mem_filter.mp hq) λ_ qN=>?_
 have qN:(aQ sh x (i+1),q)∈bE sh n:=by simpa using qN
 have e:=Lc aA hn (by lia) (h.on q x pB).2 (K7 hs (by exact Nat.le_of_lt ‹_›)) qN (uN hx hi)
 refine aa (Eq.symm e) ?_;exact pB
theorem XU (hx:x<n)(hm:x∈tt 0):∀i≤(chain (sh x)).length,x∈tt (aQ sh x i):=by
 have hs:=aA x (by lia)
 have:∀d i,i+d=(chain (sh x)).length->x∈tt (aQ sh x i):=by
  intro d
  induction d with
  |zero=>intro i hi;refine aa (show i=(chain (sh x)).length by omega) (aa (wB hs) ?_);exact hm
  |succ d ih=>intro i hi;exact XW aA hn hD h hx (by exact Kf hi) (ih (i+1) (by exact Kn hi))
 exact λi hi=>this ((chain (sh x)).length-i) i (by exact Ky hi (Eq.refl ((chain (sh x)).length-i)))
theorem Jg (hk:k<n)(hi:i<(chain (sh k)).length)(hy:y∈tt (aQ sh k i))(Xm:y∉tt (aQ sh k (i+1))):
 (tt (aQ sh k (i+1))).length=cap (aQ sh k (i+1))∧∀z∈tt (aQ sh k (i+1)),wt y<wt z:=by
 have hs:=aA k (by lia)
 refine iy (wA (k:=k) (by lia) hs hi) λ_ kX _ _=>?_
 refine j3 (CK aA hn hD h kX) λh1 rest h2 h3=>?_
 have hu:=XY aA hn hD h hk hi hy
 have hr:y∈rest:=by
  rcases List.mem_append.mp (h2.mem_iff.mpr hu) with q|q
  ·exact absurd q Xm
  ·exact q
 refine⟨?_,λz hz=>h3 y hr z hz⟩
 have hl:=h2.length_eq
 rw[List.length_append] at hl
 have:0<rest.length:=List.length_pos_of_mem hr
 exact(ln 0x800108400100200000100441000000800110421084201082359013088805886011005).1 h1 hl this (Eq.refl (min (cap (aQ sh k (i+1))) (kH (bE sh n) D tt (aQ sh k (i+1))).length))
theorem XX (eU:ord.Perm (List.range n))(hp:ord.Pairwise λa b=>wt b<wt a):Gr sh cap wt ord (ord.filter λx=>(tt 0).contains x):=by
 have cN:=Du hp
 have qG:∀k,k∈ord↔k<n:=λk=>by rw[eU.mem_iff,List.mem_range]
 have hT:∀x,x∈(ord.filter λx=>(tt 0).contains x)↔x∈tt 0:=λx=>by
  rw[List.mem_filter]
  constructor
  ·intro MD;refine xA MD λ_ q=>?_;clear MD;simpa using q
  ·intro q;exact⟨(qG x).mpr (h.on 0 x q).1,by simpa using q⟩
 refine⟨List.filter_sublist,?_,?_⟩
 ·intro j ME;refine ah ME λk hk hj=>?_;clear ME
  have iX:=(h.on 0 k ((hT k).mp hk)).1
  have Cj:=rY _ (aA k (by lia)) j hj
  refine Nat.le_trans ?_ (CK aA hn hD h Cj).len
  unfold dc
  refine List.Nodup.length_le_of_subset ((cN.filter _).filter _) λx hx=>?_
  refine xA (List.mem_filter.mp hx) λa b=>?_
  have pA:=(hT x).mp a
  have jj:=(h.on 0 x pA).1
  refine ah (Z6 (lU.mp b)) λi hi e=>?_
  refine aa (Eq.symm e) ?_
  exact XU aA hn hD h jj pA (i+1) (by assumption)
 ·intro k hk W5
  have iX:=(qG k).mp hk
  have hs:=aA k (by lia)
  have qz:k∉tt 0:=λq=>W5 ((hT k).mpr q)
  have Ii:∃i<(chain (sh k)).length,(tt (aQ sh k (i+1))).length=cap (aQ sh k (i+1))∧∀z∈tt (aQ sh k (i+1)),wt k<wt z:=by
   have hb:k∈tt (aQ sh k 0):=by
    have:aQ sh k 0=7+k:=rfl
    refine aa this (aa (h.ho k iX) ?_);exact .head _
   have:∀d i,i+d=(chain (sh k)).length->k∈tt (aQ sh k i)->∃i<(chain (sh k)).length,(tt (aQ sh k (i+1))).length=cap (aQ sh k (i+1))∧∀z∈tt (aQ sh k (i+1)),wt k<wt z:=by
    intro d
    induction d with
    |zero=>intro i hi hm;rw[show i=(chain (sh k)).length by exact Zo hi,wB hs] at hm;exact absurd hm qz
    |succ d ih=>
     intro i hi hm
     by_cases hu:k∈tt (aQ sh k (i+1))
     ·exact ih (i+1) (by lia) hu
     ·exact⟨i,by lia,Jg aA hn hD h iX (by lia) hm hu⟩
   exact this _ 0 (Nat.zero_add _) hb
  have yX:∃i<(chain (sh k)).length,((tt (aQ sh k (i+1))).length=cap (aQ sh k (i+1))∧∀z∈tt (aQ sh k (i+1)),wt k<wt z)∧
   ∀i',i<i'->i'<(chain (sh k)).length->¬((tt (aQ sh k (i'+1))).length=cap (aQ sh k (i'+1))∧∀z∈tt (aQ sh k (i'+1)),wt k<wt z):=by
   have:∀d i,i+d=(chain (sh k)).length->i<(chain (sh k)).length->((tt (aQ sh k (i+1))).length=cap (aQ sh k (i+1))∧∀z∈tt (aQ sh k (i+1)),wt k<wt z)->
    ∃i<(chain (sh k)).length,((tt (aQ sh k (i+1))).length=cap (aQ sh k (i+1))∧∀z∈tt (aQ sh k (i+1)),wt k<wt z)∧
    ∀i',i<i'->i'<(chain (sh k)).length->¬((tt (aQ sh k (i'+1))).length=cap (aQ sh k (i'+1))∧∀z∈tt (aQ sh k (i'+1)),wt k<wt z):=by
    intro d
    induction d using Nat.strongRecOn with
    |ind d ih=>
     intro i hi Ce hP
     by_cases hq:∃i',i<i'∧i'<(chain (sh k)).length∧((tt (aQ sh k (i'+1))).length=cap (aQ sh k (i'+1))∧∀z∈tt (aQ sh k (i'+1)),wt k<wt z)
     ·refine cQ hq λi' a b c=>?_;clear hq
      exact ih ((chain (sh k)).length-i') (by exact(ln 0x20004020840100020088210842310420128010848100c8b11005).1 hi a b (Eq.refl ((chain (sh k)).length-i'))) i' (by exact(ln 0x4000880008022004000882108440588011282008803).1 b (Eq.refl ((chain (sh k)).length-i'))) b c
     ·exact⟨i,Ce,hP,λi' a b c=>hq ⟨i',a,b,c⟩⟩
   refine ah Ii λi hi hP=>?_;clear Ii
   exact this _ i (Nat.add_sub_cancel' (Nat.le_of_lt hi)) hi hP
  refine cQ yX λi hi zr278 Cr=>?_;clear yX;refine xA zr278 λIk Im=>?_
  refine iy (wA (k:=k) (by lia) hs hi) λ_ kX _ _=>?_
  have XT:∀y∈tt (aQ sh k (i+1)),∀m,i<m->m≤(chain (sh k)).length->y∈tt (aQ sh k m):=by
   intro y hy m
   induction m with
   |zero=>intro h;exact False.elim (nN h)
   |succ m ih=>
    intro hm hl
    by_cases e:m=i
    ·subst e;exact hy
    ·have Ye:=ih (by exact Zp hm e) (by exact Nat.le_of_lt ‹_›)
     by_cases hu:y∈tt (aQ sh k (m+1))
     ·exact hu
     ·exfalso
      refine xA (Jg aA hn hD h iX (by exact Ke hl) Ye hu) λa b=>?_
      refine Cr m (by lia) (by lia) ⟨a,λz hz=>?_⟩
      have:=b z hz
      have:=Im y hy
      exact(ln 0x42110421080820102220860).1 (by assumption) this
  have hr:aQ sh k (i+1)∈chain (sh k):=by
   rcases K7 hs (show i+1≤(chain (sh k)).length by exact(ln 0x108821086605802008402).1 hi) with q|q
   ·exact False.elim (@Dj (aQ sh k (i+1)) k kX q)
   ·exact q.2
  refine⟨aQ sh k (i+1),hr,?_⟩
  refine aa (Eq.symm Ik) ?_
  unfold dc
  refine List.Nodup.length_le_of_subset (h.nd _) λy hy=>?_
  have Yc:y∈tt 0:=by refine aa (Eq.symm (wB hs)) ?_;exact XT y hy _ hi (Nat.le_refl _)
  refine List.mem_filter.mpr ⟨List.mem_filter.mpr ⟨(hT y).mpr Yc,decide_eq_true (Im y hy)⟩,lU.mpr ?_⟩
  rcases (h.on _ y hy).2 with q|q
  ·exact False.elim (@Dj (aQ sh k (i+1)) y kX q)
  ·exact q.2
end
theorem LO {wt:Nat->Int}:∀{l l':List Nat},(l.Pairwise λa b=>wt b<wt a)->(l'.Pairwise λa b=>wt b<wt a)->(∀x,x∈l↔x∈l')->l=l'
 |[],[],_,_,_=>rfl
 |[],b::l',_,_,h=>nomatch (h b).mpr (.head _)
 |a::l,[],_,_,h=>nomatch (h a).mp (.head _)
 |a::l,b::l',h1,h2,h=>by
  refine xA (List.pairwise_cons.mp h1) λa1 a2=>?_
  refine xA (List.pairwise_cons.mp h2) λb1 b2=>?_
  have e:a=b:=by
   rcases List.mem_cons.mp ((h a).mp (.head _)) with e|e
   ·exact e
   ·rcases List.mem_cons.mp ((h b).mpr (.head _)) with e'|e'
    ·exact e'.symm
    ·have:=a1 b e';have:=b1 a e;exact(ln 0x108821080400902020842).1 (by assumption) this
  subst e
  rw[LO a2 b2 λx=>?_]
  have hx:=h x
  rw[List.mem_cons,List.mem_cons] at hx
  constructor
  ·intro q
   rcases hx.mp (.inr q) with e|e
   ·subst e;exact absurd (a1 x q) (Int.lt_irrefl _)
   ·exact e
  ·intro q
   rcases hx.mpr (.inr q) with e|e
   ·subst e;exact absurd (b1 x q) (Int.lt_irrefl _)
   ·exact e
theorem trimmed_greedy {ord ks:List Nat}(aA:∀k<5,sh k<7)(hn:n≤5)(hD:∀e∈bE sh n,e.2∈D)(h:HV key f wt cap sh n (bE sh n) D 0 [] tt)
 (L:oq sh ao cap n)(eU:ord.Perm (List.range n))(hp:ord.Pairwise λa b=>wt b<wt a)(fC:ks.Perm (tt 0))(Cm:ks.Pairwise λa b=>wt b<wt a):ks=fB sh ao ord:=by
 have cN:=Du hp
 have qG:∀k,k∈ord↔k<n:=λk=>by rw[eU.mem_iff,List.mem_range]
 have h1:=XX aA hn hD h eU hp
 have h2:=Hl (wt:=wt) L (λk hk=>(qG k).mp hk) hp
 have hi:=h1.iff h2 cN
 refine LO Cm (hp.sublist h2.sl) λx=>?_
 rw[fC.mem_iff]
 constructor
 ·intro hx
  have zy:=(qG x).mpr (h.on 0 x hx).1
  exact(hi x zy).mp (List.mem_filter.mpr ⟨zy,by simpa using hx⟩)
 ·intro hx
  have zy:=h2.sl.subset hx
  have:=(hi x zy).mpr hx
  simpa using(List.mem_filter.mp this).2
end
section
open PySem.SeqAt
theorem Bq:∀{ds:List PyData},(∀d∈ds,d.canLay0=true)->PyData.canLayAll0 ds=true
 |[],_=>by simp[PyData.canLayAll0]
 |d::ds,h=>by
  rw[PyData.canLayAll0,h d (.head _),Bq λx hx=>h x (.tail _ hx)];rfl
theorem BC:∀{ds:List PyData},(∀d∈ds,d.depth≤k)->PyData.depthAll ds≤k
 |[],_=>by simp[PyData.depthAll]
 |d::ds,h=>by
  rw[PyData.depthAll]
  have h1:=h d (.head _)
  have h2:=BC λx hx=>h x (.tail _ hx)
  exact(ln 0x400080220802008022084211880100a030806000c04).1 h1 h2 (Eq.refl (max d.depth (PyData.depthAll ds)))
theorem K3:∀{ds ds':List PyData},(∀d∈ds,∀d'∈ds',noMix d d'=true)->noMixAll ds ds'=true
 |[],[],_=>by simp[noMixAll]
 |[],_::_,_=>by simp[noMixAll]
 |_::_,[],_=>by simp[noMixAll]
 |d::ds,d'::ds',h=>by
  rw[noMixAll,h d (.head _) d' (.head _),K3 λx hx y hy=>h x (.tail _ hx) y (.tail _ hy)];rfl
noncomputable def oM (w:Int)(s:Str):PyData:= .tuple [.int w, .str s]
noncomputable def oN (w s:Str):PyData:= .tuple [.str w, .str s]
theorem IX:∀k<5,∀j<7,PyData.strOk (host k j)=true:=by decide+kernel
theorem UT:∀j<7,PyData.strOk (bM j)=true:=by decide+kernel
theorem GN (h:PyData.strOk s=true):(oM w s).canLay0=true:=by simp[oM,PyData.canLay0,PyData.canLayAll0,h]
theorem UN (h:PyData.strOk w=true)(h2:PyData.strOk s=true):(oN w s).canLay0=true:=by simp[oN,PyData.canLay0,PyData.canLayAll0,h,h2]
theorem GO:(oM w s).depth≤3:=by simp[oM,PyData.depth,PyData.depthAll]
theorem UO:(oN w s).depth≤3:=by simp[oN,PyData.depth,PyData.depthAll]
theorem GP:noMix (oM w s) (oM w' s')=true:=by rfl
theorem UP:noMix (oN w s) (oN w' s')=true:=by rfl
theorem Ad (h1:d.canLay0=true)(h2:d.depth≤60):shaped d=true:=by
 unfold shaped
 refine aa h1 (aa (decide_eq_true (by exact Nat.le_trans ‹_› (by decide))) ?_);rfl
theorem De (h:∀d∈ds,d.canLay0=true∧d.depth≤10):(PyData.list ds).canLay0=true∧(PyData.list ds).depth≤12:=by
 refine⟨by rw[PyData.canLay0];exact Bq λd hd=>(h d hd).1,?_⟩
 rw[PyData.depth]
 have:=BC λd hd=>(h d hd).2
 exact Nat.lt_of_le_of_lt ‹_› (by decide)
theorem zP (h:∀d∈ds,∀d'∈ds',noMix d d'=true):noMix (.list ds) (.list ds')=true:=by
 rw[noMix];exact K3 h
theorem YV (h:∀d∈ds,d.canLay0=true∧d.depth≤12):(PyData.list ds).canLay0=true∧(PyData.list ds).depth≤14:=by
 refine⟨by rw[PyData.canLay0];exact Bq λd hd=>(h d hd).1,?_⟩
 rw[PyData.depth]
 have:=BC λd hd=>(h d hd).2
 exact Nat.lt_of_le_of_lt ‹_› (by decide)
end
section
open PySem.SeqAt
section
variable {M:Model}{A:Around}{h₀:Heap}{L:Addr}{m:Loc}{H:Led}{env:Env}
theorem QN
 (h:AW M A h₀ L (eval func env) (λf m H=>AW M A h₀ L (callWith pos f [] (backTo pos (starEach args env)) (backToKw pos (keywordEach nK env))) Q m H) m H)
 (he:eval (.Call func args nK pos) env=(do callWith pos (<-eval func env) [] (backTo pos (starEach args env)) (backToKw pos (keywordEach nK env))):=by with_unfolding_all rfl):
 AW M A h₀ L (eval (.Call func args nK pos) env) Q m H:=λs R E S k=>by
 refine aa he ?_
 exact wpAny_bind (h s _ E S λa m1 H1 h1 aX S1 q1=>q1 _ _ E S1 λc m3 H3 h3 aR S3 q3=>k _ m3 H3 h3 aR S3 q3)
theorem RJ (h:AW M A h₀ L (eval e env) (λv=>Q [v]) m H):
 AW M A h₀ L (evalAll ((backToKw pos (keywordEach [⟨name,e,p0⟩] env)).map (·.2))) Q m H:=λs R E S k=>by
 have e1:((backToKw pos (keywordEach [⟨name,e,p0⟩] env)).map (·.2))=[do let v<-eval e env;standAt pos;pure v]:=by
  kernel_rfl
 refine aa e1 ?_
 refine wpAny_evalAll_cons (wpAny_bind (h s _ E S λv m1 H1 h1 aX S1 q1=>wpAny_bind (wpAny_standAt (wpAny_pure (wpAny_evalAll_nil (k _ _ _ _ _ S1 q1))))))
end
end
section
open PySem.SeqAt
noncomputable def trimScope:Scope:=(aO 36).scope
structure RI (key:Value->Int)(f:Nat->Value)(wt:Nat->Int)(cap:Nat->Nat)(sh:Nat->Nat)(n:Nat)(N hs:List Nat)(rl:Addr)(s:SS)(D rd:List Nat)(bB:Nat->List Value)(tt:Nat->List Nat)(kv:List Value):Prop where
 ns:s.ns=N
 rn:s.rn= .ref rl
 po:s.po=(D.length:Nat)
 nf:s.nf=(D.length:Nat)
 rs:RS s (bE sh n) D []
 rh:RH (bE sh n) N D rd
 hv:HV key f wt cap sh n (bE sh n) D 0 [] tt
 eq:∀i∈N,bB i=(tt i).map f
 kp:0∈D->∃ks:List Nat,ks.Perm (tt 0)∧(ks.Pairwise λa b=>wt b<wt a)∧kv=ks.map f
structure RB (key:Value->Int)(f:Nat->Value)(wt:Nat->Int)(cap:Nat->Nat)(sh:Nat->Nat)(n:Nat)(N:List Nat)(rl:Addr)(s:SS)(D rd b R:List Nat)(bB:Nat->List Value)(tt:Nat->List Nat)(kv:List Value):Prop where
 ns:s.ns=N
 rn:s.rn= .ref rl
 po:s.po=((D.length+rd.length:Nat):Int)
 nf:s.nf=((D.length+b.length:Nat):Int)
 rs:RS s (bE sh n) (D++b) rd
 rm:RM (bE sh n) N D rd b R
 hv:HV key f wt cap sh n (bE sh n) (D++b) 0 [] tt
 eq:∀i∈N,bB i=(tt i).map f
 kp:0∈D++b->∃ks:List Nat,ks.Perm (tt 0)∧(ks.Pairwise λa b=>wt b<wt a)∧kv=ks.map f
section
variable {G:Gx}{A:Around}{g:Heap}{L:Addr}{m:Loc}{H H':Led}{env gf:Env}{aW:eu}{c:SC}
theorem EG (h:i∈hs):aZ (ha i) (af (hv i)) (HB ha hv hs++R) (HB ha hv (hs.erase i)++R):=pL (F:=λi=>(ha i,af (hv i))) h
theorem EH (h:i∈hs)(w:List Value)(hn:hs.Nodup):((ha i,af w)::(HB ha hv (hs.erase i)++R)).Perm (HB ha (upd hv i w) hs++R):=by
 have:=wG (F:=λi=>(ha i,af (hv i))) (F':=λj=>(ha j,af (upd hv i w j))) (R:=R) hn h λj hj=>by
  exact aa (bY hj) rfl
 rw[cD] at this
 exact this
theorem EM (p:(a::T).Perm U):(a::b1::b2::aF c s (b3::b4::T)).Perm (b1::b2::aF c s (b3::b4::U)):=by
 refine(List.Perm.swap _ _ _).trans (.cons _ ((List.Perm.swap _ _ _).trans (.cons _ ?_)))
 refine(iC c s a _).trans ?_
 refine aa (dO c s (_::_::_::_)) (aa (dO c s (_::_::_)) ?_)
 refine List.Perm.append_left _ ?_
 exact(List.Perm.swap _ _ _).trans (.cons _ ((List.Perm.swap _ _ _).trans (.cons _ p)))
theorem Yj {Q:Flow->Loc->Led->Prop}(P:Loc->Led->Prop)(hP:∀m H,P m H->Q .next m H)
 (h:if b=true then AW M A g L t (λfl m H=>fl= .next∧P m H) m H else AW M A g L e (λfl m H=>fl= .next∧P m H) m H):if b=true then AW M A g L t Q m H else AW M A g L e Q m H:=by
 have hq:∀(fl:Flow) (m:Loc) (H:Led),(fl= .next∧P m H)->Q fl m H:=λfl m H q=>by refine aa q.1 ?_;exact hP _ _ q.2
 split<;>rename_i hb
 ·rw[if_pos hb] at h;exact rP h hq
 ·rw[if_neg hb] at h;exact rP h hq
set_option maxHeartbeats 8000000 in
theorem SG (T:aT G.K aW)(X:dN G c)(C:Cx G A g L gf)(r:bw A 4){ab hd rl ld:Addr}{aV aM kvs:List (Str×Value)}{ha:Nat->Addr}{bB:Nat->List Value}{hs:List Nat}{jk:Led}{ao:List (Nat×Int)}{n ep:Nat}{sh:Nat->Nat}{wt:Nat->Int}
 (o7:(ld,dM G.prog G.w ld kvs ep)∈H)(fD:lG kvs ao)(hn:n≤5)(qE:0<n)(aA:∀k<5,sh k<7)(kc:c.nm=cu sh)(ts:TS sh wt s aV aM ha bB hs jk (bE sh n) n)
 (r8:∀i∈N,i∈hs∧(i<7∨∃k<n,i=7+k))(BQ:0∈N)(hN:s.ns=N)(hf:∀k<n,bB (7+k)=[f k])(lM:∀k<n,∃a t u,f k= .ref a∧(a,bf [.int (wt k) t, .str (host k (sh k)) u])∈jk)(lP:∀p∈ao,p.1<7)(B0:∀e∈bE sh n,(e.1,((cap e.1:Nat):Int))∈ao)(oW:∀j,cap j≤3)(iW:∀k<n,key (f k)=wt k)(iZ:∀i j,i<n->j<n->wt i=wt j->i=j)
 (hQ:∀(r:Addr) (ks:List Nat) (tt:Nat->List Nat) (m:Loc) (br:Led) (D:List Nat),D.Nodup->(∀i,i∈D↔i∈N)->HV key f wt cap sh n (bE sh n) D 0 [] tt->ks.Perm (tt 0)->(ks.Pairwise λa b=>wt b<wt a)->Q (.ret (.ref r)) m ((r,af (ks.map f))::(br++(jk++H)))):
 AW (model G.prog G.w) A g L (execs ((aO 36).body.drop 5) (envX (aO 36).name (aO 36).scope L aW.pQ bg [])) Q [(Str.ofString "heaps", .ref hd),(Str.ofString "above", .ref ab),(Str.ofString "sorter", .ref c.sx),(Str.ofString "limits", .ref ld)]
  (TR G c (pO s (.ref rl)) ab hd rl aV aM ha bB hs (s.ns.filter λi=>s.np i==0) (jk++H)):=by
 refine xE (show∃sc,sc=(aO 36).scope from⟨_,rfl⟩) λsc dh=>?_
 (conv at dh in(aO _).scope=>whnf)
 refine aa (show(aO 36).scope=sc by rw[dh];rfl) ?_
 subst dh
 refine xE (show∃bd,bd=(aO 36).body from⟨_,rfl⟩) λbd iT=>?_
 (conv at iT in(aO _).body=>whnf)
 refine aa (show(aO 36).body=bd by rw[iT];rfl) (aa iT ?_)
 clear iT
 show AW _ _ _ _ (execs [_,_,_] _) _ _ _
 have Xd:∀{s:SS} {bB:Nat->List Value} {rd:List Nat} {R:Led},(ld,dM G.prog G.w ld kvs ep)∈R->(ld,dM G.prog G.w ld kvs ep)∈TR G c s ab hd rl aV aM ha bB hs rd R:=λh=>
  c8 (.tail _ (List.mem_append_right _ (.tail _ (.tail _ h))))
 refine uB (di.pG (Xd (List.mem_append_right _ o7))) λiX=>?_
 have Xe:∀e∈bE sh n,∃t,valueAt kvs (cu sh e.1)=some (.int ((cap e.1:Nat):Int) t):=λe he=>by
  obtain ⟨i,hi,e1⟩:=List.mem_iff_getElem.mp (B0 e he)
  refine xE (fD.2 i _ _ (by exact aa (List.getElem?_eq_getElem hi) (aa e1 rfl))) λt ht=>?_
  refine⟨t,wQ iX (i:=i) ?_⟩
  refine aa ht ?_
  have:=(jv aA hn he).1
  unfold cu;exact aa (if_pos this) rfl
 refine kP ?_
 refine dF ?_
 walk_at "awo"
 refine⟨Nat.zero_le _,λk0=>?_⟩
 walk_at "awo"
 have hnsL:s.ns.length≤12:=nO ts.se.ok.nd ts.se.ok.lt
 refine cU (H':=TR G c (pO s (.ref rl)) ab hd rl aV aM ha bB hs (s.ns.filter λi=>s.np i==0) ((k0,af [])::([]++(jk++H)))) (.perm ?_) ?_
 ·unfold TR
  refine(iC c _ _ _).trans ?_
  refine aa (dO c _ (_::_::_)) (aa (dO c _ (_::(_++_))) ?_)
  refine List.Perm.append_left _ ?_
  refine(List.Perm.swap _ _ _).trans (.cons _ ?_)
  refine List.perm_middle.symm.trans (List.Perm.append_left _ ?_)
  exact(List.Perm.swap _ _ _).trans (.cons _ (.swap _ _ _))
 refine rS (I:=λz m1 H1=>∃s1 D rd zu tt kC kr kv,z+D.length=N.length+1∧SubL [(Str.ofString "heaps", .ref hd),(Str.ofString "above", .ref ab),(Str.ofString "sorter", .ref c.sx),(Str.ofString "limits", .ref ld),(Str.ofString "kept", .ref kr)] m1∧
  RI key f wt cap sh n N hs rl s1 D rd zu tt kv∧H1=TR G c s1 ab hd rl aV aM ha zu hs rd ((kr,af kv)::(kC++(jk++H)))) (N.length+1) ?_ ?_
 ·refine⟨_,[],_,bB,mj n,[],k0,[],rfl,by walk_at "aw_subl",?_,rfl⟩
  constructor
  ·exact hN
  ·rfl
  ·exact ts.se.po
  ·exact ts.se.nf
  ·exact RS.start ts.se _
  ·exact hN▸RH.first ts.se
  ·exact HV.init
  ·intro i hi
   refine xA (r8 i hi) λg1 g2=>?_
   rcases g2 with g2|⟨k,hk,rfl⟩
   ·refine aa (ts.em i g1 g2) ?_;unfold mj;refine aa (if_pos g2) ?_;rfl
   ·refine aa (hf k hk) ?_;unfold mj;refine aa (if_neg (by simp) ..) (aa (if_pos (by exact KN hk (Eq.refl (7+k-7))) ..) (aa (Nat.add_sub_cancel_left ..) ?_));rfl
  ·intro h;cases h
 ·intro z J hJ m1 H1 MS;refine xEEEEEEEEAAA MS λs1 D rd zu tt kC kr kv hz hm ri zr372=>?_;clear MS;subst zr372
  refine bO hm ?_
  walk_at "awo"
  unfold TR
  refine oF X C X.ok.m5 rfl ?_
  refine cF ?_
  refine xE X.ok.d5 λcdv5 d5=>?_
  refine xX C.X d5.keep ?_
  have XD:rd.length≤12:=nO ri.rh.rn λi hi=>by
   have:=((ri.rh.rm i).mp hi).1
   rw[<-ri.ns] at this
   exact ri.rs.ok.lt i this
  refine QA T X C (r.le (by exact Nat.succ_pos _)) ri.rn (by refine aa (List.length_map ..) ?_;exact Nat.le_trans ‹_› (by decide)) ?_
  walk_at "awo"
  refine aa (ri.nf ..) (aa (ri.po ..) (aa (decide_eq_false (by simp+arith) ..) (aa (Bool.false_or ..) ?_)))
  cases pg:rd with
  |nil=>
   subst pg
   refine qS ((by exact Bool.false_ne_true)) ?_
   have yJ:=ri.rh.all (rk:=fO) (λe he=>(jv aA hn he).2.2.2) (λe he=>ri.ns▸(ri.rs.mem _).mpr ⟨e,he, .inr rfl⟩)
   refine cQ (ri.kp (yJ 0 BQ)) λks k1 k2 k3=>?_
   subst k3
   refine cU (H':=(kr,af (ks.map f))::(kC++(jk++H))) (.sub ?_) ?_
   ·refine aa (dO ..) ?_
    refine .trans ?_ (List.sublist_append_right _ _)
    refine .trans ?_ (List.sublist_cons_self _ _)
    refine .trans ?_ (List.sublist_append_right _ _)
    exact(List.sublist_cons_self _ _).trans (List.sublist_cons_self _ _)
   walk_at "awo"
   exact hQ _ _ _ _ _ D ri.rh.nd (λi=>⟨ri.rh.sub i,yJ i⟩) ri.hv k1 k2
  |cons i0 rd0=>
   refine aa (if_pos (by rfl)) (aa (Eq.symm pg) ?_)
   refine je ?_
   walk_at "awo"
   refine oF X C X.ok.m4 rfl ?_
   refine cF ?_
   refine xE X.ok.d4 λcdv4 d4=>?_
   refine xX C.X d4.keep ?_
   refine Sx T X C (r.le (by exact Nat.le_add_left _ _)) ri.rs.ok ri.rn (λi hi=>by refine aa ri.ns ?_;exact((ri.rh.rm i).mp hi).1) (by exact YX XD) λrt vs tk bB=>?_
   refine x7 (c8 (.tail _ (.head _))) λit=>?_
   have fE:vs.length=rd.length:=by rw[bU.length bB,List.length_map]
   refine iN (zF (vs:=vs) (a:=rt) C.hh) (λz m1 H1=>∃s2 R fW f9 br gx gP,SubL [(Str.ofString "heaps", .ref hd),(Str.ofString "above", .ref ab),(Str.ofString "sorter", .ref c.sx),(Str.ofString "limits", .ref ld),(Str.ofString "kept", .ref gx)] m1∧
    RB key f wt cap sh n N rl s2 D rd (rd.take z) R fW f9 gP∧H1=aF c s2 ((rl,b8 (R.map c.nm))::(rt,bf vs)::(HB ha fW hs++((ab,aK G.prog G.w ab aV)::(hd,aK G.prog G.w hd aM)::(gx,af gP)::(br++(jk++H)))))) ?_ ?_ ?_ 0 (Nat.zero_le _) ?_
   ·intro z m1 H1 MT;refine ua MT λs2 R fW f9 br gx gP sG rb zr373=>?_;clear MT;subst zr373
    exact c8 (.tail _ (.head _))
   ·intro z J hJ v m1 H1 CR hv MU;refine ua MU λs2 R fW f9 br gx gP sG rb zr374=>?_;clear MU;subst zr374
    refine xE (show∃i,rd[z]?=some i from⟨_,List.getElem?_eq_getElem (by exact Nat.lt_of_lt_of_eq ‹_› ‹_›)⟩) λi hi=>?_
    have jR:i∈rd:=List.mem_of_getElem? hi
    have qw:i∉rd.take z:=by
     intro dH
     obtain ⟨j,hj,Iu⟩:=List.mem_iff_getElem.mp dH
     rw[List.length_take] at hj
     rw[List.getElem_take] at Iu
     have sR:z<rd.length:=by exact KY fE CR
     rw[List.getElem?_eq_getElem sR] at hi
     have:=(List.getElem_inj ri.rh.rn).mp (Iu.trans (Option.some.inj hi).symm)
     exact Dl hj this (Eq.refl (min z rd.length))
    refine xE (bU.get bB (i:=z) (x:=c.nm i) (by refine aa (List.getElem?_map) (aa hi ?_);rfl)) λtn XQ=>?_
    have:v= .str (c.nm i) tn:=Option.some.inj (hv.symm.trans XQ)
    subst this
    have XO:rd.take (z+1)=rd.take z++[i]:=by refine aa List.take_add_one (aa hi ?_);rfl
    refine bO sG ?_
    refine bQ ?_
    have hmap:∀(x:Addr×(Obj->Prop)),x∈H->x∈(it,iM rt (z+1))::aF c s2 ((rl,b8 (R.map c.nm))::(rt,bf vs)::(HB ha fW hs++((ab,aK G.prog G.w ab aV)::(hd,aK G.prog G.w hd aM)::(gx,af gP)::(br++(jk++H))))):=λx hx=>
     .tail _ (c8 (.tail _ (.tail _ (List.mem_append_right _ (.tail _ (.tail _ (.tail _ (List.mem_append_right _ (List.mem_append_right _ hx)))))))))
    walk_at "awo"
    have jQ:∀(X:Led),(ab,aK G.prog G.w ab aV)∈(it,iM rt (z+1))::aF c s2 ((rl,b8 (R.map c.nm))::(rt,bf vs)::(HB ha fW hs++((ab,aK G.prog G.w ab aV)::X))):=λX=>
     .tail _ (c8 (.tail _ (.tail _ (List.mem_append_right _ (.head _)))))
    refine E8 (di.mk (jQ _)) ?_
    walk_at "awo"
    have yS:i<12:=ts.se.ok.lt i (hN▸((ri.rh.rm i).mp jR).1)
    refine Yj (P:=λm3 H3=>∃gM dW cV s8 s9,SubL [(Str.ofString "heaps", .ref hd),(Str.ofString "above", .ref ab),(Str.ofString "sorter", .ref c.sx),(Str.ofString "limits", .ref ld),(Str.ofString "kept", .ref s8),(Str.ofString "name", .str (c.nm i) tn)] m3∧
     HV key f wt cap sh n (bE sh n) (D++(rd.take z++[i])) 0 [] dW∧(∀j∈N,gM j=(dW j).map f)∧(0∈D++(rd.take z++[i])->∃ks:List Nat,ks.Perm (dW 0)∧(ks.Pairwise λa b=>wt b<wt a)∧s9=ks.map f)∧
     H3=(it,iM rt (z+1))::aF c s2 ((rl,b8 (R.map c.nm))::(rt,bf vs)::(HB ha gM hs++((ab,aK G.prog G.w ab aV)::(hd,aK G.prog G.w hd aM)::(s8,af s9)::(cV++(jk++H)))))) ?_ ?_
    ·intro m3 H3 MV;refine Mv MV λgM dW cV s8 s9 vB jT nB W4 zr375=>?_;clear MV;subst zr375
     refine gR ?_
     refine bO vB ?_
     refine cP (rb.rs.done (rb.ns.symm▸rb.rm) jR qw (λe he q=>q▸(jv aA hn he).2.2.1.symm) (s2.nf+1) tn) λn1 rs1 rm1=>?_
     have hRl:R.length≤12:=nO rb.rm.rn λj hj=>rb.rs.ok.lt j (rb.ns▸((rb.rm.rm j).mp hj).1)
     refine dQ (H':=aF c s2 ((rl,b8 (R.map c.nm))::(it,iM rt (z+1))::(rt,bf vs)::(HB ha gM hs++((ab,aK G.prog G.w ab aV)::(hd,aK G.prog G.w hd aM)::(s8,af s9)::(cV++(jk++H)))))) ?_ ?_
     ·refine(iC c _ _ _).trans ?_
      refine aa (dO c _ (_::_::_::_)) (aa (dO c _ (_::_::_::_)) ?_)
      exact List.Perm.append_left _ (.swap _ _ _)
     walk_at "awo"
     refine oF X C X.ok.m7 rfl ?_
     refine cF ?_
     refine xE X.ok.d7 λcdv7 d7=>?_
     refine xW C.X d7.keep ?_
     walk_at "awo"
     have XJ:∀j∈dK s2 i,j∈s2.ns:=λj hj=>by
      rw[rb.rs.aN] at hj;refine ah (List.mem_map.mp hj) λe he zr376=>?_;subst zr376
      exact(rb.rs.mem _).mpr ⟨e,(List.mem_filter.mp he).1, .inl rfl⟩
     refine SR T X C (r.le (by exact YY)) rb.rs.ok rb.rn (rb.ns.symm▸((ri.rh.rm i).mp jR).1) n1 XJ (by lia) λt7=>?_
     refine i8 ?_
     refine cP (rb.rs.done (rb.ns.symm▸rb.rm) jR qw (λe he q=>q▸(jv aA hn he).2.2.1.symm) (s2.nf+1) t7) λn1' LB LA=>?_
     generalize zo:wu (ie s2 (fS (upd s2.np i (-2)) R (dK s2 i)).1) (s2.nf+1) t7=s7 at LB ⊢
     generalize (fS (upd s2.np i (-2)) R (dK s2 i)).2=R7 at LA ⊢
     refine dQ (H':=(it,iM rt (z+1))::aF c s7 ((rl,b8 (R7.map c.nm))::(rt,bf vs)::(HB ha gM hs++((ab,aK G.prog G.w ab aV)::(hd,aK G.prog G.w hd aM)::(s8,af s9)::(cV++(jk++H)))))) ?_ ?_
     ·refine List.Perm.trans ?_ (iC c _ _ _).symm
      refine aa (dO c _ (_::_::_::_)) (aa (dO c _ (_::_::_::_)) ?_)
      exact List.Perm.append_left _ (.swap _ _ _)
     refine gF ?_
     refine fU .head (hJ ⟨s7,R7,gM,dW,cV,s8,s9,by walk_at "aw_subl",?_,rfl⟩)
     refine aa XO ?_
     constructor
     ·refine aa (Eq.symm zo) ?_;exact rb.ns
     ·refine aa (Eq.symm zo) ?_;exact rb.rn
     ·refine aa (Eq.symm zo) ?_;exact rb.po
     ·refine aa (Eq.symm zo) ?_;show s2.nf+1=_;refine aa rb.nf (aa List.length_append (aa List.length_singleton ?_));rfl
     ·exact LB
     ·exact rb.ns▸LA
     ·exact jT
     ·exact nB
     ·exact W4
    by_cases jx:∃e∈bE sh n,e.2=i
    ·refine xE ((ts.ab.2 i yS).1 jx) λta XM=>?_
     have vM:valueAt aV (c.nm i)=some (.str (cu sh (aI sh i)) ta):=by refine aa kc ?_;exact XM
     refine aa vM (aa (if_pos (show(some (Value.str (cu sh (aI sh i)) ta)).isSome=true from rfl)) ?_)
     walk_at "awo"
     refine lJ (di.mk (jQ _)) vM ?_
     walk_at "awo"
     refine ah jx λe vj B7=>?_;clear jx
     refine iy (jv aA hn vj) λf1 f2 f3 f4=>?_
     have uQ:aI sh i=e.1:=B7▸f3
     have sJ:aI sh i∈hs:=uQ▸ts.he e vj
     have X0:valueAt aM (cu sh (aI sh i))=some (.ref (ha (aI sh i))):=ts.hp.2.2.2 _ (by lia) sJ
     refine lJ (di.mk (.tail _ (c8 (.tail _ (.tail _ (List.mem_append_right _ (.tail _ (.head _)))))))) X0 ?_
     walk_at "awo"
     refine je ?_
     walk_at "awo"
     have CM:valueAt aM (c.nm i)=some (.ref (ha i)):=by refine aa kc ?_;exact ts.hp.2.2.2 i yS (r8 i ((ri.rh.rm i).mp jR).1).1
     refine lJ (di.mk (.tail _ (c8 (.tail _ (.tail _ (List.mem_append_right _ (.tail _ (.head _)))))))) CM ?_
     walk_at "awo"
     have o6:i∈N:=((ri.rh.rm i).mp jR).1
     have vo:i∈hs:=(r8 i o6).1
     refine gZ (vs:=fW i) (.inl (.tail _ (c8 (.tail _ (.tail _ (xQ vo)))))) λpC=>?_
     have sO:(fW i).length=(f9 i).length:=by rw[rb.eq i o6,List.length_map]
     have lR:i≠aI sh i:=λq=>by
      have q2:e.2=e.1:=B7.trans (q.trans uQ)
      rw[q2] at f4;exact absurd f4 (Nat.lt_irrefl _)
     have vm:(aI sh i,i)∈bE sh n:=by
      have:e=(aI sh i,i):=Prod.ext uQ.symm B7
      refine aa (Eq.symm this) ?_;exact vj
     have nI:=rb.rm.step jR qw (λe he q=>q▸(jv aA hn he).2.2.1.symm) (λe he=>rb.ns▸(rb.rs.mem _).mpr ⟨e,he, .inl rfl⟩)
     have nF:aI sh i∉D++rd.take z:=(nI.1 (List.countP_pos_iff.mpr ⟨e,vj,by exact decide_eq_true ‹_›⟩)).1
     have sA:i∉D++rd.take z:=nI.2.1
     refine iN (gw (l:=ha i) (vs:=fW i) C.hh) (λy m2 H2=>∃gM dW cV,SubL [(Str.ofString "heaps", .ref hd),(Str.ofString "above", .ref ab),(Str.ofString "sorter", .ref c.sx),(Str.ofString "limits", .ref ld),(Str.ofString "kept", .ref gx),(Str.ofString "name", .str (c.nm i) tn),(Str.ofString "heap", .ref (ha (aI sh i)))] m2∧
      HV key f wt cap sh n (bE sh n) (D++rd.take z) (aI sh i) ((f9 i).take y) dW∧(∀j∈N,gM j=(dW j).map f)∧(∀j,j≠aI sh i->dW j=f9 j)∧
      H2=(it,iM rt (z+1))::aF c s2 ((rl,b8 (R.map c.nm))::(rt,bf vs)::(HB ha gM hs++((ab,aK G.prog G.w ab aV)::(hd,aK G.prog G.w hd aM)::(gx,af gP)::(cV++(jk++H)))))) ?_ ?_ ?_ 0 (Nat.zero_le _) ?_
     ·intro y m2 H2 MW;refine Aq MW λgM dW cV dH jT nB pq zr377=>?_;clear MW;subst zr377
      have:gM i=fW i:=by exact aa (nB i o6) (aa (rb.eq i o6) (aa (pq i lR) rfl))
      refine aa (Eq.symm this) ?_
      exact .inl (.tail _ (c8 (.tail _ (.tail _ (xQ vo)))))
     ·intro y J hJ w m2 H2 gO hw MY;refine Aq MY λgM dW cV dH jT nB pq zr378=>?_;clear MY;subst zr378
      refine bO dH ?_
      refine bQ ?_
      refine xE (show∃x,(f9 i)[y]?=some x from⟨_,List.getElem?_eq_getElem (by exact Nat.lt_of_lt_of_eq ‹_› ‹_›)⟩) λx hx=>?_
      have X4:w=f x:=by
       rw[rb.eq i o6,List.getElem?_map,hx] at hw;exact(Option.some.inj hw).symm
      subst X4
      have kX:aI sh i<7:=by refine aa uQ ?_;exact f1
      have CE:(f9 i).take y++x::(f9 i).drop (y+1)=dW i:=by
       refine aa (pq i lR) ?_
       refine xE (List.getElem?_eq_some_iff.mp hx) λaC ex=>?_
       rw[<-ex,<-List.drop_eq_getElem_cons aC,List.take_append_drop]
      have Jd:(f9 i).take (y+1)=(f9 i).take y++[x]:=by refine aa List.take_add_one (aa hx ?_);rfl
      refine iy (jT.fresh aA hn iZ kX sA vm CE) λx1 x2 x3 x4=>?_
      have nD:∀k∈x::dW (aI sh i),k<n:=λk hk=>by
       rcases List.mem_cons.mp hk with rfl|hk
       ·exact x1
       ·exact(jT.on _ k hk).1
      have Xv:aI sh i∈N:=by
       refine aa (Eq.symm rb.ns) ?_;exact(rb.rs.mem _).mpr ⟨e,vj, .inl uQ⟩
      have ji:gM (aI sh i)=(dW (aI sh i)).map f:=nB _ Xv
      have hits:∀H':Led,(∀q∈jk,q∈H')->fP key H' ((dW (aI sh i)).map f++[f x]):=by
       intro H' hj v hv
       have:∃k∈x::dW (aI sh i),f k=v:=by
        rcases List.mem_append.mp hv with q|q
        ·refine ah (List.mem_map.mp q) λk hk e=>?_;exact⟨k, .tail _ hk,e⟩
        ·rw[List.mem_singleton] at q;exact⟨x, .head _,q.symm⟩
       refine ah this λk hk zr379=>?_;clear this;subst zr379
       refine cE (lM k (nD k hk)) λa t u e1 e2=>?_
       exact⟨a,wt k,t,_,e1,hj _ e2,iW k (nD k hk)⟩
      have vE:(((dW (aI sh i)).map f++[f x]).map key).Nodup:=by
       have e1:((dW (aI sh i)).map f++[f x]).map key=((dW (aI sh i))++[x]).map wt:=by
        refine aa (show[f x]=[x].map f from rfl) (aa (Eq.symm List.map_append) (aa List.map_map ?_))
        refine List.map_congr_left λk hk=>iW k (nD k ?_)
        rcases List.mem_append.mp hk with q|q
        ·exact .tail _ q
        ·rw[List.mem_singleton] at q;subst q;exact .head _
       refine aa e1 ?_
       exact((List.perm_append_comm (l₁:=[x]) (l₂:=dW (aI sh i))).map wt).nodup_iff.mp x4
      have IF:(dW (aI sh i)).length≤3:=Nat.le_trans (jT.top _ kX).top.len (oW _)
      have vq:∀q∈jk,q∈aF c s2 ((rl,b8 (R.map c.nm))::(rt,bf vs)::(HB ha gM hs++((ab,aK G.prog G.w ab aV)::(hd,aK G.prog G.w hd aM)::(gx,af gP)::(cV++(jk++H))))):=λq hq=>
       c8 (.tail _ (.tail _ (List.mem_append_right _ (.tail _ (.tail _ (.tail _ (List.mem_append_right _ (List.mem_append_left _ hq))))))))
      have hH:∀q∈H,q∈aF c s2 ((rl,b8 (R.map c.nm))::(rt,bf vs)::(HB ha gM hs++((ab,aK G.prog G.w ab aV)::(hd,aK G.prog G.w hd aM)::(gx,af gP)::(cV++(jk++H))))):=λq hq=>
       c8 (.tail _ (.tail _ (List.mem_append_right _ (.tail _ (.tail _ (.tail _ (List.mem_append_right _ (List.mem_append_right _ hq))))))))
      have I3:(ha (aI sh i),af (gM (aI sh i)))∈aF c s2 ((rl,b8 (R.map c.nm))::(rt,bf vs)::(HB ha gM hs++((ab,aK G.prog G.w ab aV)::(hd,aK G.prog G.w hd aM)::(gx,af gP)::(cV++(jk++H))))):=
       c8 (.tail _ (.tail _ (xQ sJ)))
      have V2:(ab,aK G.prog G.w ab aV)∈aF c s2 ((rl,b8 (R.map c.nm))::(rt,bf vs)::(HB ha gM hs++((ab,aK G.prog G.w ab aV)::(hd,aK G.prog G.w hd aM)::(gx,af gP)::(cV++(jk++H))))):=
       c8 (.tail _ (.tail _ (List.mem_append_right _ (.head _))))
      have aP:(1000:Nat)≤sizeLine:=by decide
      have nq:(1000:Int)<2^63:=by decide
      walk_at "awo"
      refine dF ?_
      walk_at "awo"
      refine⟨by show(1:Nat)≤sizeLine;exact Nat.succ_pos _,λil=>?_⟩
      walk_at "awo"
      refine uA (.inl (.tail _ (.tail _ (.tail _ I3)))) (.inl (.head _)) (by refine aa (ji ..) (aa (List.length_map ..) (aa (List.length_singleton ..) ?_));exact Nat.lt_of_le_of_lt ‹_› (by decide)) λr1=>?_
      walk_at "awo"
      refine R8 (key:=key) C.hh (by have:=r.units;exact(ln 0x42208421981610a582fcc0b08402).1 this) (.head _) (ji▸hits _ λq hq=> .tail _ (.tail _ (.tail _ (.tail _ (vq q hq))))) (ji▸vE) (by refine aa List.length_append (aa List.length_singleton ?_);exact Nat.succ_pos _) λv CN fE=>?_
      rw[ji] at CN fE
      walk_at "awo"
      refine cU .drop ?_
      refine cU .drop ?_
      walk_at "awo"
      refine fL (.tail _ (.tail _ I3)) (by refine aa (ji ..) (aa (List.length_map ..) ?_);exact(ln 0x4220850000000000000000dfcc0f20e6000401).1 IF) λtl=>?_
      walk_at "awo"
      refine lJ (di.mk (.tail _ (.tail _ V2))) vM ?_
      walk_at "awo"
      refine xE (Xe _ vm) λtc Cq=>?_
      refine lJ (di.pG (.tail _ (.tail _ (hH _ o7)))) Cq ?_
      walk_at "awo"
      have Iw:∀q∈jk,q∈(pC,fu (ha i) (y+1))::(it,iM rt (z+1))::aF c s2 ((rl,b8 (R.map c.nm))::(rt,bf vs)::(HB ha gM (hs.erase (aI sh i))++((ab,aK G.prog G.w ab aV)::(hd,aK G.prog G.w hd aM)::(gx,af gP)::(cV++(jk++H))))):=λq hq=>
       .tail _ (.tail _ (c8 (.tail _ (.tail _ (List.mem_append_right _ (.tail _ (.tail _ (.tail _ (List.mem_append_right _ (List.mem_append_left _ hq))))))))))
      split
      ·rename_i aC
       have aC:=of_decide_eq_true aC
       rw[ji,List.length_map] at aC
       refine ah (jT.push aA hn iZ kX sA nF vm CE (by simpa using aC) (oW _)) λt' et CJ=>?_
       refine oE ?_
       walk_at "awo"
       ((with_reducible refine cI (by assumption) (FnAt.n (aT.qM (by assumption))) ?_;with_reducible refine eO (Cx.X (by assumption)) (aT.qM (by assumption)) ?_))
       walk_at "awo"
       refine bu (.tail (.tail (aZ.wK _ _ (.tail (.tail (EG sJ)))))) ?_
       refine Rq (key:=key) T C (r.le (by lia)) (by refine aa (ji ..) (aa (List.length_map ..) ?_);exact Nat.le_trans ‹_› (by decide)) (ji▸hits _ Iw) (ji▸vE) ?_
       refine i8 ?_
       refine dQ (EM (EH sJ _ ts.hp.2.1)) ?_
       refine gF ?_
       refine gF ?_
       refine fU .head (hJ ⟨upd gM (aI sh i) _,upd dW (aI sh i) t',cV,by walk_at "aw_subl",?_,?_,λj hj=>by refine aa (bY hj) ?_;exact pq j hj,rfl⟩)
       ·refine aa Jd ?_;exact CJ
       ·intro j hj
        by_cases q:j=aI sh i
        ·subst q;exact aa cD (aa cD (aa ji (aa et rfl)))
        ·refine aa (bY q) (aa (bY q) ?_);exact nB j hj
      ·rename_i aC
       have aC:¬(dW (aI sh i)).length<cap (aI sh i):=λq=>aC (decide_eq_true (by refine aa (ji ..) (aa (List.length_map ..) ?_);simpa using q))
       refine rB (jT.full aA hn iZ iW kX sA nF vm CE aC (oW _)) λmm t' et iE Xi CJ=>?_
       have XZ:v=f mm:=by
        have cA:∀u,u∈x::dW (aI sh i)↔u∈dW (aI sh i)++[x]:=λu=>by rw[List.mem_append,List.mem_singleton,List.mem_cons];exact Or.comm
        rw[show[f x]=[x].map f from rfl,<-List.map_append] at CN fE
        refine ah (List.mem_map.mp CN) λk0 qz zr380=>?_;subst zr380
        have Ck:=(cA k0).mpr qz
        have h1:=Xi k0 Ck
        have h2:=fE (f mm) (List.mem_map.mpr ⟨mm,(cA mm).mp iE,rfl⟩)
        rw[iW k0 (nD k0 Ck),iW mm (nD mm iE)] at h2
        exact aa (iZ k0 mm (nD k0 Ck) (nD mm iE) (by exact JT h1 h2)) rfl
       refine cE (lM mm (nD mm iE)) λam tm um ea V3=>?_
       subst XZ
       refine jf ?_
       walk_at "awo"
       ((with_reducible refine cI (by assumption) (FnAt.n (aT.gv (by assumption))) ?_;with_reducible refine eO (Cx.X (by assumption)) (aT.gv (by assumption)) ?_))
       walk_at "awo"
       refine bu (.tail (.tail (aZ.wK _ _ (.tail (.tail (EG sJ)))))) ?_
       refine Rr (key:=key) T C (r.le (by exact Nat.le_succ _)) (by refine aa (ji ..) (aa (List.length_map ..) ?_);exact(ln 0x4220878417e6000e6000401).1 IF) (ji▸hits _ Iw) (ji▸vE) λzH=>?_
       refine cU (.sub ((List.sublist_append_right _ _).cons_cons _)) ?_
       refine dQ (EM (EH sJ _ ts.hp.2.1)) ?_
       refine aa ji (aa et ?_)
       walk_at "awo"
       have pg:∀{X Y:Led},Rd (X++aF c s2 ((rl,b8 (R.map c.nm))::(rt,bf vs)::(Y++((ab,aK G.prog G.w ab aV)::(hd,aK G.prog G.w hd aM)::(gx,af gP)::(cV++(jk++H)))))) (.ref am) (.tuple [.int (wt mm), .str (host mm (sh mm))]):=λ{X Y}=>
        Rd.tup (List.mem_append_right _ (c8 (.tail _ (.tail _ (List.mem_append_right _ (.tail _ (.tail _ (.tail _ (List.mem_append_right _ (List.mem_append_left _ V3)))))))))) (cH.cons (Rd.int _ _) (cH.cons (Rd.str _ _) cH.nil))
       refine aa (show(f mm,List.map f t').fst= .ref am from ea) (aa ea ?_)
       have nH:shaped (.tuple [.int (wt mm), .str (host mm (sh mm))])=true:=by
        have IM:mm<5:=Nat.lt_of_lt_of_le (nD mm iE) hn
        exact Ad (GN (IX mm IM _ (aA mm IM))) (Nat.le_trans GO (by decide))
       refine A9 (pg (X:=[_,_])) (pg (X:=[_,_])) nH nH (by have:=r.units;exact Dg this) GP ?_
       refine aa (Spec.same_self ..) ?_
       walk_at "awo"
       refine fU .head (hJ ⟨upd gM (aI sh i) _,upd dW (aI sh i) t',cV,by walk_at "aw_subl",?_,?_,λj hj=>by refine aa (bY hj) ?_;exact pq j hj,rfl⟩)
       ·refine aa Jd ?_;exact CJ
       ·intro j hj
        by_cases q:j=aI sh i
        ·subst q;exact aa cD (aa cD rfl)
        ·refine aa (bY q) (aa (bY q) ?_);exact nB j hj
     ·intro m2 H2 MZ;refine Aq MZ λgM dW cV dH jT nB pq zr381=>?_;clear MZ;subst zr381
      rw[sO,List.take_length] at jT
      refine gF ?_
      refine gR ?_
      refine gF ?_
      refine⟨rfl,gM,dW,cV,gx,gP,SubL.cons (dH _ _ rfl) (SubL.cons (dH _ _ rfl) (SubL.cons (dH _ _ rfl) (SubL.cons (dH _ _ rfl) (SubL.cons (dH _ _ rfl) (SubL.cons (dH _ _ rfl) SubL.nil))))),?_,nB,?_,rfl⟩
      ·refine aa (Eq.symm (List.append_assoc ..)) ?_
       refine HV.next aA hn ?_ vm 0
       refine aa (pq i lR) ?_;exact jT
      ·intro h0
       have yE:0∈D++rd.take z:=by
        rw[<-List.append_assoc] at h0
        rcases List.mem_append.mp h0 with q|q
        ·exact q
        ·rw[List.mem_singleton] at q
         subst q
         exact absurd rfl lR
       refine aa (pq 0 λq=>nF (q▸yE)) ?_
       exact rb.kp yE
     ·refine⟨fW,f9,br,by walk_at "aw_subl",?_,rb.eq,λj _=>rfl,rfl⟩
      refine aa List.take_zero ?_;exact rb.hv.any _
    ·have vM:valueAt aV (c.nm i)=none:=by refine aa kc ?_;exact(ts.ab.2 i yS).2 λe he q=>jx ⟨e,he,q⟩
     refine aa vM (aa (if_neg (by simp)) ?_)
     have Io:i=0:=by
      have cA:=((ri.rh.rm i).mp jR).1
      rw[<-rb.ns] at cA
      refine ah ((rb.rs.mem i).mp cA) λe he Cd=>?_
      rcases Cd with rfl|rfl
      ·unfold bE at he
       refine ah (List.mem_flatMap.mp he) λk hk he=>?_
       have hk:=List.mem_range.mp hk
       unfold m9 iR at he
       refine ah (List.mem_map.mp he) λj hj zr382=>?_;subst zr382
       have hj:=List.mem_range.mp hj
       by_cases sD:j+1<(chain (sh k)).length
       ·exact absurd ⟨_,uN hk sD,rfl⟩ jx
       ·have:j+1=(chain (sh k)).length:=by exact(ln 0x2008801088210843302c410cc0b0982008802).1 hj sD
        show aQ sh k (j+1)=0
        refine aa this ?_;exact wB (aA k (by exact Nat.lt_of_lt_of_le ‹_› ‹_›))
      ·exact absurd ⟨e,he,rfl⟩ jx
     have o6:i∈N:=((ri.rh.rm i).mp jR).1
     have vo:i∈hs:=(r8 i o6).1
     have CM:valueAt aM (c.nm i)=some (.ref (ha i)):=by refine aa kc ?_;exact ts.hp.2.2.2 i yS vo
     walk_at "awo"
     refine QN ?_
     walk_at "aw_bi"
     refine Q3 ?_
     walk_at "awo"
     refine lJ (di.mk (.tail _ (c8 (.tail _ (.tail _ (List.mem_append_right _ (.tail _ (.head _)))))))) CM ?_
     walk_at "awo"
     refine RJ ?_
     walk_at "awo"
     have qv:i<7:=by exact(ln 0x844109e600826010401).1 Io
     have hits:fP key ((it,iM rt (z+1))::aF c s2 ((rl,b8 (R.map c.nm))::(rt,bf vs)::(HB ha fW hs++((ab,aK G.prog G.w ab aV)::(hd,aK G.prog G.w hd aM)::(gx,af gP)::(br++(jk++H)))))) ((f9 i).map f):=by
      intro v hv
      refine ah (List.mem_map.mp hv) λk hk zr383=>?_;subst zr383
      have iX:=(rb.hv.on _ k hk).1
      refine cE (lM k iX) λa t u e1 e2=>?_
      exact⟨a,wt k,t,_,e1, .tail _ (c8 (.tail _ (.tail _ (List.mem_append_right _ (.tail _ (.tail _ (.tail _ (List.mem_append_right _ (List.mem_append_left _ e2))))))))),iW k iX⟩
     have sF:((f9 i).map f).map key=(f9 i).map wt:=by
      refine aa List.map_map ?_
      exact List.map_congr_left λk hk=>iW k (rb.hv.on _ k hk).1
     have vE:(((f9 i).map f).map key).Nodup:=by
      refine aa sF ?_
      have:=rb.hv.nd i
      unfold List.Nodup at this ⊢
      rw[List.pairwise_map]
      exact this.imp_of_mem λha hb bF e=>bF (iZ _ _ (rb.hv.on _ _ ha).1 (rb.hv.on _ _ hb).1 e)
     have vA:((f9 i).map f).length≤3:=by
      refine aa (List.length_map ..) ?_;exact Nat.le_trans (rb.hv.top _ qv).top.len (oW _)
     have sO:fW i=(f9 i).map f:=rb.eq i o6
     refine Te (key:=key) (.tail _ (c8 (.tail _ (.tail _ (xQ vo))))) (sO▸hits) (sO▸vE) (sO▸vA) λD5 out IU sL=>?_
     rw[sO] at IU
     refine ah (DB IU.symm _ rfl) λks fC W9=>?_
     subst W9
     refine dQ (H':=(it,iM rt (z+1))::aF c s2 ((rl,b8 (R.map c.nm))::(rt,bf vs)::(HB ha fW hs++((ab,aK G.prog G.w ab aV)::(hd,aK G.prog G.w hd aM)::(D5,af (ks.map f))::(((gx,af gP)::br)++(jk++H)))))) ?_ ?_
     ·refine(List.Perm.swap _ _ _).trans (.cons _ ?_)
      refine(iC c _ _ _).trans ?_
      refine aa (dO c s2 (_::_::_::_)) (aa (dO c s2 (_::_::(_++_))) ?_)
      refine List.Perm.append_left _ ?_
      refine(List.Perm.swap _ _ _).trans (.cons _ ((List.Perm.swap _ _ _).trans (.cons _ ?_)))
      refine List.perm_middle.symm.trans (List.Perm.append_left _ ?_)
      exact(List.Perm.swap _ _ _).trans (.cons _ (.swap _ _ _))
     walk_at "awo"
     refine⟨rfl,fW,f9,(gx,af gP)::br,D5,ks.map f,by walk_at "aw_subl",?_,rb.eq,λ_=>⟨ks,?_,?_,rfl⟩,rfl⟩
     ·refine aa (Eq.symm (List.append_assoc ..)) ?_
      exact rb.hv.root (λe he q=>jx ⟨e,he,q⟩) 0
     ·refine aa (Eq.symm Io) ?_;exact fC.symm
     ·rw[List.pairwise_map] at sL
      refine sL.imp_of_mem λ{a b} ha hb h=>?_
      rw[iW a (rb.hv.on _ a (fC.mem_iff.mpr ha)).1,iW b (rb.hv.on _ b (fC.mem_iff.mpr hb)).1] at h
      exact h
   ·intro m1 H1 M0;refine ua M0 λs2 R fW f9 br gx gP sG rb zr384=>?_;clear M0;subst zr384
    rw[fE,List.take_length] at rb
    refine gF ?_
    refine gR ?_
    refine cU (H':=TR G c s2 ab hd rl aV aM ha fW hs R ((gx,af gP)::(br++(jk++H)))) (.sub ?_) ?_
    ·unfold TR
     refine aa (dO ..) (aa (dO c s2 (_::_::_) ..) ?_)
     exact(List.Sublist.refl _).append ((List.sublist_cons_self _ _).cons_cons _)
    refine gF ?_
    have XE:rd.length=rd0.length+1:=by refine aa pg ?_;rfl
    have BV:(D++rd).length≤N.length:=by
     have:=rb.rm.nd
     exact this.length_le_of_subset (λi hi=>rb.rm.sub i hi)
    rw[List.length_append] at BV
    refine qY (k:=N.length+1-(D.length+rd.length)) (by exact(ln 0x800100821004000040110421084830882b0cc0b1a8020ac0199562106605848b11006).1 hz XE BV (Eq.refl (N.length+1-(D.length+rd.length)))) (hJ ⟨s2,D++rd,R,fW,f9,br,gx,gP,by refine aa List.length_append ?_;exact(ln 0x40008800080220040008821086605882b1ac420ac3302c6a0082b00804).1 BV (Eq.refl (N.length+1-(D.length+rd.length))),sG,?_,rfl⟩)
    constructor
    ·exact rb.ns
    ·exact rb.rn
    ·refine aa List.length_append ?_;exact rb.po
    ·refine aa List.length_append ?_;exact rb.nf
    ·exact rb.rs.fin
    ·exact rb.rm.finish
    ·exact rb.hv
    ·exact rb.eq
    ·exact rb.kp
   ·refine⟨_,[],_,tt,kC,kr,kv,by walk_at "aw_subl",?_,rfl⟩
    constructor
    ·exact ri.ns
    ·exact ri.rn
    ·show s1.po+rd.length=_
     refine aa ri.po ?_;rfl
    ·show s1.nf=_
     refine aa ri.nf ?_;simp
    ·refine aa (List.take_zero ..) (aa (List.append_nil ..) ?_)
     exact ri.rs.ready (λi hi=>let q:=(ri.rh.rm i).mp hi;⟨ri.ns▸q.1,q.2.1⟩) _ _
    ·exact ri.rh.start
    ·refine aa (List.take_zero ..) (aa (List.append_nil ..) ?_);exact ri.hv
    ·exact ri.eq
    ·refine aa (List.take_zero ..) (aa (List.append_nil ..) ?_);exact ri.kp
end
end
section
section
variable {G:Gx}{bZ:Around}{base h₀:Heap}{outer:List Env}{L:Addr}{m:Loc}{H H':Led}{env:Env}{aW:eu}{sd:ju}{t u:Tok}
set_option maxHeartbeats 8000000 in
theorem TZ (T:aT G.K aW)(SK:oA G.K sd)(C:iA G bZ base outer h₀ L env)(r:bw (bZ.deeper env) 6){hl wl ll ld:Addr}{hv wv lv:List Value}{kvs:List (Str×Value)}{ao:List (Nat×Int)}{n ep:Nat}{sh:Nat->Nat}{wt:Nat->Int}
 (kh:(hl,af hv)∈H)(o5:bU hv (ki n sh))(nJ:(wl,af wv)∈H)(vP:b7 wv (kI n wt))(jS:(ll,af lv)∈H)(Cq:oj H lv ((List.range n).map λk=>fF k (sh k)))
 (o7:(ld,dM G.prog G.w ld kvs ep)∈H)(fD:lG kvs ao)(hn:n≤5)(qE:0<n)(aA:∀k<5,sh k<7)
 (lP:∀p∈ao,p.1<7)(hL:oq sh ao cap n)(oW:∀j,cap j≤3)(iZ:∀i j,i<n->j<n->wt i=wt j->i=j)(eU:ord.Perm (List.range n))(sL:ord.Pairwise λa b=>wt b<wt a)
 (hQ:∀g r vs jk,gD jk vs wt sh (fB sh ao ord)->Q g (.ref r) m ((r,af vs)::(jk++H))):
 bW (model G.prog G.w) (bZ.deeper env) (d9 outer) h₀ L (call (.ref aW.pQ) [.ref hl, .ref wl, .ref ll, .ref ld] []) Q m H:=by
 refine xE T.pQ.d λbg d=>?_
 refine Bh (n:=5) (binds:=[(Str.ofString "hosts",_),(Str.ofString "worths",_),(Str.ofString "ladders",_),(Str.ofString "limits",_)]) C r d (λ_ _ _ _ _=>rfl) rfl λg0 L' CF r1=>?_
 have C1:=CF.cx
 refine xE (show∃sc,sc=(aO 36).scope from⟨_,rfl⟩) λsc dh=>?_
 (conv at dh in(aO _).scope=>whnf)
 rw[show(aO 36).scope=sc by refine aa dh ?_;rfl] at CF C1 r1 ⊢
 subst dh
 (conv in(aO _).body=>whnf)
 have aP:(1000:Nat)≤sizeLine:=by decide
 have sS:(1000:Int)<2^62:=by decide
 refine rU (m':=[(Str.ofString "limits", .ref ld),(Str.ofString "ladders", .ref ll),(Str.ofString "worths", .ref wl),(Str.ofString "hosts", .ref hl)]) (by walk_at "aw_subl") ?_
 refine kQ (mP ?_)
 walk_at "awo"
 refine cI C1 SK.Gu ?_
 refine xX C1.X SK.g7.kp ?_
 refine Tf SK C1 (r1.le (by exact Nat.le_add_left _ _)) (cu sh) λsx gA n2 t0 u0=>?_
 refine xE (show∃c:SC,c=⟨G.prog,G.w,sd,cu sh,sx,gA,n2⟩ from⟨_,rfl⟩) λc hc=>?_
 refine aa (Eq.symm hc) ?_
 have X:dN G c:=by subst hc;exact⟨rfl,rfl,SK,K9 aA⟩
 have kU:c.sx=sx:=by exact aa hc rfl
 have kc:c.nm=cu sh:=by exact aa hc rfl
 have hcs:c.sd=sd:=by exact aa hc rfl
 have dg:=K9 aA
 walk_at "awo"
 refine jY (kQ (mP ?_))
 walk_at "awo"
 refine xY C1 λab=>?_
 walk_at "awo"
 refine jY (kQ (mP ?_))
 walk_at "awo"
 refine xY C1 λhd=>?_
 walk_at "awo"
 refine jY ?_
 refine yg (H':=TL G c (SS.fresh t0 u0) ab hd [] [] (λ_=>0) (λ_=>[]) [] H) (.perm (.swap _ _ _)) ?_
 have iV:=o5.length
 rw[qH] at iV
 refine Bj (λm' H'=>∃s aV aM ha bB hs jk,SubL [(Str.ofString "heaps", .ref hd),(Str.ofString "above", .ref ab),(Str.ofString "sorter", .ref sx),(Str.ofString "limits", .ref ld)] m'∧TS sh wt s aV aM ha bB hs jk (bE sh n) n∧
  H'=TL G c s ab hd aV aM ha bB hs (jk++H)) (Fg ?_) ?_
 ·walk_at "awo"
  refine fL (.tail _ (.tail _ (c8 kh))) (by exact zQ hn iV) λtl=>?_
  walk_at "awo"
  refine mU λrr=>?_
  refine aa iV ?_
  refine mR (n:=n) (.head _) (pN (by exact Nat.le_trans ‹_› (by decide))) nT λit=>?_
  refine iN (lW C1.hh) (λk m' H'=>∃s aV aM ha bB hs jk,SubL [(Str.ofString "heaps", .ref hd),(Str.ofString "above", .ref ab),(Str.ofString "sorter", .ref sx),(Str.ofString "limits", .ref ld),(Str.ofString "ladders", .ref ll),(Str.ofString "worths", .ref wl),(Str.ofString "hosts", .ref hl)] m'∧
   TS sh wt s aV aM ha bB hs jk (bE sh k) k∧H'=(rr,eB 0 n 1)::TL G c s ab hd aV aM ha bB hs (jk++H))
   (λ_ _ _ _=>trivial) ?_ ?_ 0 (Nat.zero_le _) ⟨_,_,_,_,_,_,[],by walk_at "aw_subl",?_,rfl⟩
  ·intro k J hJ v m1 H1 hk M1 M3;refine xE M1 λtv zr385=>?_;clear M1;subst zr385;refine ua M3 λs aV aM ha bB hs jk hm ts zr386=>?_;clear M3;subst zr386
   refine aa (show(0:Int)+1*(k:Int)=(k:Int) by simp+arith) ?_
   refine bO hm ?_
   refine bQ ?_
   walk_at "awo"
   have tQ:∀{y a b:Addr×(Obj->Prop)} {R:Led},y∈R->y∈a::b::R:=λh=> .tail _ (.tail _ h)
   refine xE (vP.2 k (wt k) (D6 hk)) λtw lT=>?_
   refine xE (o5.get (zh (sh:=sh) hk)) λth yR=>?_
   have CZ:∀{x:Addr×(Obj->Prop)},x∈H->x∈TL G c s ab hd aV aM ha bB hs (jk++H):=λh=>EP (List.mem_append_right _ h)
   refine dF ?_
   walk_at "awo"
   refine rT ?_
   walk_at "awo"
   refine cM (tQ (CZ nJ)) (by exact Int.natCast_nonneg _) (by exact Di hn hk) (by assumption) ?_
   walk_at "awo"
   refine cM (tQ (CZ kh)) (by exact pF) (by lia) (by assumption) ?_
   walk_at "awo"
   refine⟨by show(2:Nat)≤sizeLine;exact Nat.le_add_left _ _,λta=>?_⟩
   walk_at "awo"
   refine⟨by show(1:Nat)≤sizeLine;exact Nat.succ_pos _,λla=>?_⟩
   walk_at "awo"
   refine cM (tQ (tQ (CZ kh))) (by lia) (by lia) (by assumption) ?_
   walk_at "awo"
   have CU:aM.length≤20:=by have:=ts.hz;have:=ts.lz;exact(ln 0x10810844108421a4c0010da300c4b000220966101004).1 hn hk (by assumption) this
   refine bu (.tail (.tail (.tail (.tail (.tail .head))))) ?_
   refine uC (by exact Nat.le_trans ‹_› (by decide)) ?_
   refine cU (Qe (d:=7+k) _ _ _ ts.hp.2.1) ?_
   have pR:TS sh wt s aV (PySem.stored aM (cu sh (7+k)) (.ref la)) (upd ha (7+k) la) (upd bB (7+k) [.ref ta]) (ins hs (7+k)) ((ta,bf [.int (wt k) tw, .str (host k (sh k)) th])::jk) (bE sh k++iR sh k 0) (k+1):=by
    have:=ts.host dg (by exact Nat.lt_of_lt_of_le ‹_› ‹_›:k<5) (ta:=ta) (la:=la) (tw:=tw) (th:=th)
    rwa [show iR sh k 0=[] from rfl,List.append_nil]
   have IS:host k (sh k)=cu sh (7+k):=by
    unfold cu
    rw[if_neg (by simp),Nat.add_sub_cancel_left]
   refine aa IS ?_
   rw[IS] at pR
   generalize PySem.stored aM (cu sh (7+k)) (.ref la)=hkv1 at pR ⊢
   generalize upd ha (7+k) la=ha1 at pR ⊢
   generalize upd bB (7+k) [.ref ta]=zu at pR ⊢
   generalize ins hs (7+k)=jE at pR ⊢
   generalize W2:((ta,bf [.int (wt k) tw, .str (cu sh (7+k)) th])::jk:Led)=kC at pR
   refine aa (show((ta,bf [.int (wt k) tw, .str (cu sh (7+k)) th])::(jk++H):Led)=kC++H by rw[<-W2];rfl) ?_
   refine eX (Cq.2 k (fF k (sh k)) (by refine aa (List.getElem?_map) (aa (List.getElem?_range hk) ?_);rfl)) λlk1 ws Cn iY vA=>?_
   have kZ:=vA.length
   have sZ:∀{x:Addr×(Obj->Prop)} {s:SS} {aV aM:List (Str×Value)} {ha:Nat->Addr} {bB:Nat->List Value} {hs:List Nat},x∈H->x∈TL G c s ab hd aV aM ha bB hs (kC++H):=λh=>EP (List.mem_append_right _ h)
   refine je ?_
   walk_at "awo"
   refine cM (tQ (sZ jS)) (by lia) (by lia) (by assumption) ?_
   walk_at "awo"
   have gJ:=rX (sh k)
   have Jk:ws.length=(chain (sh k)).length+1:=by refine aa kZ ?_;unfold fF;rw[List.length_cons,List.length_map]
   refine fL (tQ (sZ iY)) (by exact(ln 0x802110421400000000000000037f303c819856010e6100802).1 gJ Jk) λtl2'=>?_
   walk_at "awo"
   refine Sv λr2=>?_
   refine aa Jk ?_
   refine mR (n:=(chain (sh k)).length) (.head _) (rng1m _ (by exact Nat.lt_add_one_of_le ‹_›)) (rng1s _ (by exact(ln 0x84410926008e6000401).1 gJ)) λpC=>?_
   refine iN (lW C1.hh) (λj m' H'=>∃s aV aM ha bB hs,SubL [(Str.ofString "k", .int k tv),(Str.ofString "heaps", .ref hd),(Str.ofString "above", .ref ab),(Str.ofString "sorter", .ref sx),(Str.ofString "limits", .ref ld),(Str.ofString "ladders", .ref ll),(Str.ofString "worths", .ref wl),(Str.ofString "hosts", .ref hl)] m'∧
    TS sh wt s aV aM ha bB hs kC (bE sh k++iR sh k j) (k+1)∧H'=(r2,eB 1 (((chain (sh k)).length+1:Nat):Int) 1)::(it,iL 0 1 n (k+1))::(rr,eB 0 n 1)::TL G c s ab hd aV aM ha bB hs (kC++H))
    (λ_ _ _ _=>trivial) ?_ ?_ 0 (Nat.zero_le _) ⟨_,_,_,_,_,_,by walk_at "aw_subl",pR,rfl⟩
   ·clear pR ts hm CU
    intro j J hJ v m2 H2 hj M4 M5;refine xE M4 λtj zr387=>?_;clear M4;subst zr387;refine Mx M5 λs aV aM ha bB hs hm ts zr388=>?_;clear M5;subst zr388
    refine bO hm ?_
    refine bQ ?_
    walk_at "awo"
    have jC:k<5:=by exact ln2 hn hk
    refine iy (wA jC (aA k jC) hj) λZ3 Z4 Z5 nf4=>?_
    refine xE (vA.get (i:=j) (K8 jC (aA k jC) (by exact Nat.le_of_lt ‹_›))) λt1 g1=>?_
    refine xE (vA.get (i:=j+1) (K8 jC (aA k jC) (by assumption))) λt2 g2=>?_
    have jI:∀{y a b d e:Addr×(Obj->Prop)} {R:Led},y∈R->y∈a::b::d::e::R:=λh=> .tail _ (.tail _ (.tail _ (.tail _ h)))
    have tj1:(1+1*(j:Int))=((j+1:Nat):Int):=by simp+arith
    refine aa tj1 ?_
    refine cM (jI (sZ jS)) (by lia) (by lia) (by assumption) ?_
    walk_at "awo"
    refine cM (jI (sZ iY)) (by exact Int.natCast_nonneg _) (by exact Zc gJ hj) (by assumption) ?_
    walk_at "awo"
    have Jb:(((j+1:Nat):Int)-1).toNat=j:=by simp+arith
    refine cM (jI (sZ jS)) (by lia) (by lia) (by assumption) ?_
    walk_at "awo"
    refine cM (jI (sZ iY)) (by simp+arith) (by exact Zl gJ hj) (by refine aa Jb ?_;exact g1) ?_
    walk_at "awo"
    have CU:aM.length≤40:=by have:=ts.hz;have:=ts.lz;exact(ln 0x21021088210842140bf30003312c6d180619896b000220966101004).1 hn hk (by assumption) this
    have hza:aV.length≤40:=by have:=ts.ab.1;have:=ts.lz;exact(ln 0xc6108441084210a05f980019896368c03000220966101004).1 hn hk (by assumption) this
    refine bu (.tail (.tail (.tail (.tail .head)))) ?_
    refine uC (by exact Nat.le_trans ‹_› (by decide)) ?_
    have LY:∀{y a b d e f:Addr×(Obj->Prop)} {R:Led},y∈R->y∈a::b::d::e::f::R:=λh=> .tail _ (.tail _ (.tail _ (.tail _ (.tail _ h))))
    have HP:∀{x:Addr×(Obj->Prop)},x∈H->x∈HB ha bB hs++aF c s (kC++H):=λh=>List.mem_append_right _ (c8 (List.mem_append_right _ h))
    refine Bc ?_
    refine dF ?_
    walk_at "awo"
    refine⟨Nat.zero_le _,λle=>?_⟩
    walk_at "awo"
    refine cM (.tail _ (LY (.tail _ (HP jS)))) (by lia) (by lia) (by assumption) ?_
    walk_at "awo"
    refine cM (.tail _ (LY (.tail _ (HP iY)))) (by exact Zm) (by lia) (by assumption) ?_
    walk_at "awo"
    refine bu (.tail (.tail (.tail (.tail (.tail (.tail .head)))))) ?_
    refine uC (by exact(ln 0x211043f40bf30002817e6000401).1 CU) ?_
    refine oE ?_
    walk_at "awo"
    refine cU (Qf (d:=aQ sh k (j+1)) _ _ _ _ ts.hp.2.1) ?_
    generalize hY:HB (upd ha (aQ sh k (j+1)) le) (upd bB (aQ sh k (j+1)) []) (ins hs (aQ sh k (j+1)))++_=Y
    have yH:∀{x:Addr×(Obj->Prop)},x∈H->x∈aF c s (Y++(kC++H)):=λh=>c8 (List.mem_append_right _ (List.mem_append_right _ h))
    refine aa (Eq.symm kU) ?_
    refine oF X C1 X.ok.m2 rfl ?_
    refine cF ?_
    refine A2 C1 X.ok.d2 ?_
    walk_at "awo"
    refine cM (yH jS) (by lia) (by lia) (by assumption) ?_
    walk_at "awo"
    refine cM (yH iY) (by lia) (by lia) (by assumption) ?_
    walk_at "awo"
    refine cM (yH jS) (by lia) (by lia) (by assumption) ?_
    walk_at "awo"
    refine cM (yH iY) (by exact(ln 0x1104330cc0b7b01318001).1) (by lia) (by refine aa Jb ?_;exact g1) ?_
    walk_at "awo"
    have zq:(s.aN (aQ sh k j)).length<100:=by
     have:=congrArg List.length (ts.se.aN (aQ sh k j))
     unfold dK at this
     rw[List.length_map,List.length_map] at this
     have h2:=List.length_filter_le (λe:Nat×Nat=>e.2==aQ sh k j) (bE sh k++iR sh k j)
     have:=ts.lz
     exact(ln 0x318021084410842108c82fcc010cc4b1b48020c03008220966101405).1 hn hk (by assumption) h2 this
    refine aa (Eq.symm kc) ?_
    refine SQ T X C1 (r1.le (by exact Nat.le_succ _)) ts.se.ok ts.se.rn (p:=aQ sh k (j+1)) (q:=aQ sh k j) (by exact Nat.lt_of_lt_of_le ‹_› (by decide)) Z3 zq λgE fR=>?_
    refine i8 ?_
    subst hY
    refine cU (Qd _ _ _ _) ?_
    refine gF ?_
    refine fU .head (hJ ⟨_,_,_,_,_,_,by refine aa kU ?_;walk_at "aw_subl",?_,rfl⟩)
    refine aa (U5 ..) (aa (Eq.symm (List.append_assoc ..)) ?_)
    refine ts.U4 dg Z4 Z3 Z5 ?_ (by assumption) t2 gE fR le
    have:=G1 (sh:=sh) k
    have h2:(iR sh k j).length=j:=by unfold iR;simp
    refine aa List.length_append ?_
    exact(ln 0x42100422084210866258da19840b580811086d0006408e6301005).1 gJ hj this h2
   ·intro m2 H2 M6;refine Mx M6 λs aV aM ha bB hs hm ts zr389=>?_;clear M6;subst zr389
    refine gF ?_
    refine gR ?_
    refine cU .drop ?_
    refine gF ?_
    refine fU .head (hJ ⟨_,_,_,_,_,_,kC,?_,?_,rfl⟩)
    ·exact λx v e=>hm x v (by
      unfold lk
      split
      ·rename_i q;subst q;cases e
      ·exact e)
    ·refine aa G2 ?_
     exact ts
  ·intro m1 H1 M7;refine ua M7 λs aV aM ha bB hs jk hm ts zr390=>?_;clear M7;subst zr390
   refine cU .drop ?_
   refine gF ?_
   exact⟨rfl,_,_,_,_,_,_,jk,by
    refine SubL.cons (hm _ _ rfl) (SubL.cons (hm _ _ rfl) (SubL.cons (hm _ _ rfl) (SubL.cons (hm _ _ rfl) SubL.nil))),ts,rfl⟩
  ·constructor
   ·exact SE.fresh
   ·refine⟨Nat.zero_le _,λi hi=>⟨?_,λ_=>rfl⟩⟩
    intro M8;refine ah M8 λe he _=>?_;clear M8
    cases he
   ·refine⟨Nat.zero_le _,List.nodup_nil,?_,?_⟩
    ·intro i h;cases h
    ·intro i _ h;cases h
   ·exact λk hk=>absurd hk (Nat.not_lt_zero _)
   ·exact λi h=>nomatch h
   ·exact λk hk=>absurd hk (Nat.not_lt_zero _)
   ·exact λe h=>nomatch h
   ·exact Nat.zero_le _
   ·exact Nat.zero_le _
 ·intro m1 H1 Na;refine ua Na λs aV aM ha bB hs jk hm ts zr391=>?_;clear Na;subst zr391
  have hle:LE (TL G c s ab hd aV aM ha bB hs (jk++H)) (aF c s (HB ha bB hs++((ab,aK G.prog G.w ab aV)::(hd,aK G.prog G.w hd aM)::(jk++H)))):= .perm Qg
  refine yg hle ?_
  refine rU hm ?_
  refine mX (TV (Gd ?_))
  walk_at "awo"
  refine aa (Eq.symm kU) ?_
  refine oF X C1 X.ok.m3 rfl ?_
  dsimp only
  refine xE X.ok.d3 λcdv3 d3=>?_
  refine Ga C1.X d3.keep ?_
  refine TY T X CF (r1.le (by exact Zn)) ts.se.ok ts.se.rn fO (ts.se.rank aA hn) λg rl T1=>?_
  have C2:=(CF.turn T1).cx
  refine jY ?_
  refine uJ ?_
  refine dQ (H':=TR G c (pO s (.ref rl)) ab hd rl aV aM ha bB hs (s.ns.filter λi=>s.np i==0) (jk++H)) (.refl _) ?_
  refine Fo λ⟨hp,WU⟩=>?_
  have IA:∀q∈jk,q∈TR G c (pO s (.ref rl)) ab hd rl aV aM ha bB hs (s.ns.filter λi=>s.np i==0) (jk++H):=λq hq=>
   c8 (.tail _ (List.mem_append_right _ (.tail _ (.tail _ (List.mem_append_left _ hq)))))
  refine xE (show∃f:Nat->Value,f=λk=>(bB (7+k)).getD 0 .none from⟨_,rfl⟩) λf WJ=>?_
  have hf:∀k<n,bB (7+k)=[f k]:=λk hk=>by
   refine cE (ts.tu k hk) λa t u e1 e2=>?_
   refine aa WJ ?_
   show _=[(bB (7+k)).getD 0 .none]
   refine aa e1 ?_;rfl
  have lM:∀k<n,∃a t u,f k= .ref a∧(a,bf [.int (wt k) t, .str (host k (sh k)) u])∈jk:=λk hk=>by
   refine cE (ts.tu k hk) λa t u e1 e2=>?_
   refine⟨a,t,u,?_,e2⟩
   have:=hf k hk
   rw[e1] at this
   exact(List.cons.inj this).1.symm
  have B9:∀i j,i<n->j<n->f i=f j->i=j:=λi j hi hj e=>by
   refine cE (lM i hi) λa t u e1 e2=>?_
   refine cE (lM j hj) λb t' u' e3 e4=>?_
   have jQ:a=b:=by rw[e1,e3] at e;cases e;rfl
   subst jQ
   have:=WU.tup (IA _ e2) (IA _ e4)
   refine xA (List.cons.inj this) λq _=>?_
   exact iZ i j hi hj (Value.int.inj q).1
  refine xE (show∃key:Value->Int,∀k<n,key (f k)=wt k from by
   classical
   refine⟨λv=>if h:∃k<n,f k=v then wt h.choose else 0,λk hk=>?_⟩
   have hex:∃k'<n,f k'=f k:=⟨k,hk,rfl⟩
   show(if h:∃k'<n,f k'=f k then wt h.choose else 0)=wt k
   refine aa (dif_pos hex) ?_
   exact aa (B9 _ _ hex.choose_spec.1 hk hex.choose_spec.2) rfl) λkey iW=>?_
  have B0:∀e∈bE sh n,(e.1,((cap e.1:Nat):Int))∈ao:=by
   intro e he
   unfold bE m9 iR at he
   refine ah (List.mem_flatMap.mp he) λk hk he=>?_
   have hk:=List.mem_range.mp hk
   refine ah (List.mem_map.mp he) λj hj zr392=>?_;subst zr392
   have hj:=List.mem_range.mp hj
   have hm:aQ sh k (j+1)∈chain (sh k):=by
    have e1:aQ sh k (j+1)=(chain (sh k)).getD j 0:=by unfold aQ;refine aa (if_neg (by exact Nat.succ_ne_zero _)) ?_;rfl
    refine aa e1 (aa (List.getD_eq_getElem?_getD) (aa (List.getElem?_eq_getElem hj) ?_))
    exact List.getElem_mem _
   refine ah (hL.hl k hk _ hm) λp hp e=>?_
   have:=hL.hr p hp
   rw[e] at this
   have o9:p=(aQ sh k (j+1),((cap (aQ sh k (j+1)):Nat):Int)):=Prod.ext e this
   refine aa (Eq.symm o9) ?_;exact hp
  have r8:∀i∈s.ns,i∈hs∧(i<7∨∃k<n,i=7+k):=by
   intro i hi
   refine ah ((ts.se.mem i).mp hi) λe he Cd=>?_
   rcases Cd with rfl|rfl
   ·exact⟨ts.he e he, .inl (jv aA hn he).1⟩
   ·have Ia:=he
    unfold bE m9 iR at he
    refine ah (List.mem_flatMap.mp he) λk hk he=>?_
    have hk:=List.mem_range.mp hk
    refine ah (List.mem_map.mp he) λj hj zr393=>?_;subst zr393
    have hj:=List.mem_range.mp hj
    cases j with
    |zero=>exact⟨ts.hk k hk, .inr ⟨k,hk,rfl⟩⟩
    |succ j=>
     have h2:=uN (sh:=sh) (n:=n) hk (show j<(chain (sh k)).length by exact Nat.le_of_lt ‹_›)
     exact⟨ts.he _ h2, .inl (jv aA hn h2).1⟩
  have BQ:0∈s.ns:=by
   have hl:=(GB _ (aA 0 (by exact Nat.succ_pos _))).1
   have h2:=uN (sh:=sh) (n:=n) qE (show(chain (sh 0)).length-1<(chain (sh 0)).length by exact Nat.sub_lt_sub_left ‹_› (Nat.lt_succ_self _))
   rw[show(chain (sh 0)).length-1+1=(chain (sh 0)).length by exact Nat.succ_pred_eq_of_pos ‹_›,wB (aA 0 (by exact(ln 0x4412cc1308000).1))] at h2
   exact(ts.se.mem _).mpr ⟨_,h2, .inl rfl⟩
  try rw[<-kU]
  refine SG (N:=s.ns) T X C2 (r1.le (by lia)) o7 fD hn qE aA kc ts r8 BQ rfl hf lM lP B0 oW iW iZ λr ks tt m2 br D hDn hD hv fC Cm=>?_
  have W7:ks=fB sh ao ord:=trimmed_greedy aA hn (λe he=>(hD _).mpr ((ts.se.mem _).mpr ⟨e,he, .inr rfl⟩)) hv hL eU sL fC Cm
  intro g' _
  have W6:gD (br++jk) (ks.map f) wt sh (fB sh ao ord):=by
   refine aa (Eq.symm W7) ?_
   refine⟨List.length_map _,λi k Iq=>?_⟩
   have iX:k<n:=(hv.on 0 k (fC.mem_iff.mp (List.mem_of_getElem? Iq))).1
   refine cE (lM k iX) λa t u e1 e2=>?_
   exact⟨a,t,u,by refine aa (List.getElem?_map) (aa Iq (aa (Eq.symm e1) ?_));rfl,List.mem_append_right _ e2⟩
  have:=hQ g' r (ks.map f) (br++jk) W6
  rw[List.append_assoc] at this
  exact this
end
end
section
noncomputable def gz (sh:Nat->Nat):Nat->List Nat
 |0=>[]
 |k+1=>gz sh k++(chain (sh k)).filter λj=>!(gz sh k).contains j
theorem Uq:∀j<7,(chain j).Nodup:=by decide+kernel
section
variable {sh:Nat->Nat}{n:Nat}
theorem we (aA:∀k<5,sh k<7):∀n≤5,∀j∈gz sh n,j<7
 |0,_,j,h=>nomatch h
 |n+1,hn,j,h=>by
  rcases List.mem_append.mp h with h|h
  ·exact we aA n (by exact Nat.le_of_lt ‹_›) j h
  ·exact rY _ (aA n (by assumption)) j (List.mem_filter.mp h).1
theorem zN (aA:∀k<5,sh k<7):∀n≤5,(gz sh n).Nodup
 |0,_=>List.nodup_nil
 |n+1,hn=>by
  refine List.nodup_append.mpr ⟨zN aA n (by exact Zd hn),(Uq _ (aA n (by exact Zw hn))).filter _,λa ha b hb e=>?_⟩
  subst e
  have:=(List.mem_filter.mp hb).2
  simp at this
  exact this ha
theorem C8:∀n,∀k<n,∀j∈chain (sh k),j∈gz sh n
 |0,k,h,_,_=>by exact False.elim (nN h)
 |n+1,k,h,j,hj=>by
  show j∈gz sh n++_
  by_cases hk:k=n
  ·subst hk
   by_cases hm:j∈gz sh k
   ·exact List.mem_append_left _ hm
   ·exact List.mem_append_right _ (List.mem_filter.mpr ⟨hj,by simpa using hm⟩)
  ·exact List.mem_append_left _ (C8 n k (by exact tD h hk) j hj)
theorem zM (aA:∀k<5,sh k<7)(hn:n≤5):(gz sh n).length≤7:=by
 have:=(zN aA n hn).length_le_of_subset (l₂:=List.range 7) λj hj=>List.mem_range.mpr (we aA n hn j hj)
 assumption
theorem C9 (aA:∀k<5,sh k<7):∀n≤5,eW ((List.range n).map λk=>fF k (sh k))=(gz sh n).map bM
 |0,_=>rfl
 |n+1,hn=>by
  have ih:=C9 aA n (by lia)
  unfold eW at ih ⊢
  refine aa List.range_succ (aa List.map_append (aa List.foldl_append (aa ih ?_)))
  show qW ((gz sh n).map bM) (fF n (sh n))=_
  unfold qW
  have e1:(fF n (sh n)).drop 1=(chain (sh n)).map bM:=rfl
  refine aa e1 ?_
  show _=(gz sh n++(chain (sh n)).filter λj=>!(gz sh n).contains j).map bM
  refine aa List.map_append (aa List.filter_map ?_)
  congr 2
  refine List.filter_congr λj hj=>?_
  have Cj:=rY _ (aA n (by lia)) j hj
  show(!((gz sh n).map bM).any (· ==bM j))=_
  congr 1
  rw[Bool.eq_iff_iff,List.any_map,List.any_eq_true]
  constructor
  ·intro MF;refine ah MF λi hi e=>?_;clear MF
   have e:bM i=bM j:=by exact of_decide_eq_true ‹_›
   have:=BD i (we aA n (by lia) i hi) j Cj e
   subst this
   simpa using hi
  ·intro h
   exact⟨j,by simpa using h,by exact if_pos rfl⟩
noncomputable def fj (sh:Nat->Nat)(n:Nat)(total:Int):List (Nat×Int):=(gz sh n).zipIdx.map λp=>(p.1,jG total p.2)
noncomputable def ym (sh:Nat->Nat)(n:Nat)(total:Int)(j:Nat):Nat:=((((fj sh n total).find? λp:Nat×Int=>p.1==j).map λp:Nat×Int=>p.2).getD 0).toNat
theorem YO (total:Int)(k:Nat):0≤jG total k∧jG total k<4:=by
 unfold jG
 exact⟨Int.fmod_nonneg_of_pos _ (by decide),Int.fmod_lt_of_pos _ (by decide)⟩
theorem limsOf_get (h:(gz sh n)[i]?=some j):(fj sh n total)[i]?=some (j,jG total i):=by
 unfold fj
 refine aa (List.getElem?_map) (aa (List.getElem?_zipIdx) (aa h ?_))
 simp
theorem wg (h:p∈fj sh n total):p.1∈gz sh n∧0≤p.2∧p.2<4:=by
 unfold fj at h
 refine ah (List.mem_map.mp h) λq hq zr279=>?_;subst zr279
 have:=List.mem_zipIdx hq
 refine⟨?_,YO _ _⟩
 refine aa this.2.2 ?_
 exact List.getElem_mem _
theorem zO:(fj sh n total).map (·.1)=gz sh n:=by
 unfold fj
 refine aa List.map_map ?_
 have:∀(l:List Nat) (m:Nat),(l.zipIdx m).map ((λp:Nat×Int=>p.1)∘λp=>(p.1,jG total p.2))=l:=by
  intro l
  induction l with
  |nil=>intro m;rfl
  |cons a l ih=>intro m;refine aa (List.zipIdx_cons ..) (aa (List.map_cons ..) (aa (ih ..) ?_));rfl
 exact this _ _
theorem Dc:(fj sh n total).length=(gz sh n).length:=by
 rw[<-zO (total:=total),List.length_map]
theorem find_key {l:List (Nat×Int)}(cN:(l.map (·.1)).Nodup)(h:p∈l):(l.find? λq=>q.1==p.1)=some p:=by
 induction l with
 |nil=>cases h
 |cons a l ih=>
  rw[List.map_cons,List.nodup_cons] at cN
  rcases List.mem_cons.mp h with rfl|h
  ·simp
  ·have:¬a.1=p.1:=λe=>cN.1 (e▸List.mem_map.mpr ⟨p,h,rfl⟩)
   refine aa (List.find?_cons_of_neg (by simpa using this)) ?_
   exact ih cN.2 h
theorem YU (aA:∀k<5,sh k<7)(hn:n≤5)(total:Int):oq sh (fj sh n total) (ym sh n total) n:=by
 constructor
 ·intro k hk j hj
  have hm:=C8 n k hk j hj
  rw[<-zO (total:=total)] at hm
  refine ah (List.mem_map.mp hm) λp hp e=>?_
  exact⟨p,hp,e⟩
 ·intro p hp
  unfold ym
  refine aa (find_key (by rw[zO];exact zN aA n hn) hp) ?_
  have:=(wg hp).2.1
  show p.2=(p.2.toNat:Int)
  exact @KI p.snd.toNat p.snd this (Eq.refl p.snd.toNat)
theorem Uk (aA:∀k<5,sh k<7)(hn:n≤5)(total:Int)(j:Nat):ym sh n total j≤3:=by
 unfold ym
 cases e:(fj sh n total).find? λp=>p.1==j with
 |none=>show(0:Int).toNat≤3;decide
 |some p=>
  have:=(wg (List.mem_of_find?_eq_some e)).2
  show p.2.toNat≤3
  exact @(ln 0x2008821000200882108e600000c24c040026338821).1 p.snd.toNat p.snd this (Eq.refl p.snd.toNat)
theorem Dd (aA:∀k<5,sh k<7)(hn:n≤5)(total:Int):∀p∈fj sh n total,p.1<7:=λp hp=>we aA n hn _ (wg hp).1
theorem YS (total:Int)(js:List Nat):kD (js.map bM) total=(js.zipIdx.map λp=>(p.1,jG total p.2)).map λp=>(bM p.1,word p.2):=by
 unfold kD
 refine aa List.map_map ?_
 have:∀(l:List Nat) (m:Nat),((l.map bM).zipIdx m).map (λp=>(p.1,word (jG total p.2)))=(l.zipIdx m).map ((λp:Nat×Int=>(bM p.1,word p.2))∘λp=>(p.1,jG total p.2)):=by
  intro l
  induction l with
  |nil=>intro m;rfl
  |cons a l ih=>intro m;rw[List.map_cons,List.zipIdx_cons,List.zipIdx_cons,List.map_cons,List.map_cons,ih];rfl
 exact this _ _
noncomputable def pairsOf (sh:Nat->Nat)(n:Nat)(total:Int):List (Str×Str):=(fj sh n total).map λp=>(bM p.1,word p.2)
theorem pairs_eq (aA:∀k<5,sh k<7)(hn:n≤5)(total:Int):kD (eW ((List.range n).map λk=>fF k (sh k))) total=pairsOf sh n total:=by
 refine aa (C9 aA n hn ..) (aa (YS ..) ?_);rfl
theorem Lj (aA:∀k<5,sh k<7)(hn:n≤5)(total:Int):∀p∈pairsOf sh n total,mJ p:=by
 intro p hp
 refine ah (List.mem_map.mp hp) λq hq zr280=>?_;subst zr280
 refine cP (wg hq) λh1 h2 h3=>?_
 refine⟨⟨q.1,we aA n hn _ h1,rfl⟩,q.2.toNat,by exact @(ln 0x8022084010044108493004006126020821).1 q.snd.toNat q.snd h3 (Eq.refl q.snd.toNat),?_⟩
 show word q.2=word (q.2.toNat:Int)
 exact aa (show((q.2.toNat:Nat):Int)=q.2 by exact Int.toNat_of_nonneg ‹_›) rfl
theorem mJ.len (h:mJ p):p.1.length≤20:=by
 refine xA h λzr281 _=>?_;clear h;refine ah zr281 λj hj e=>?_
 refine aa e ?_;exact(yr j hj).2.2.1
theorem pairs_oks (aA:∀k<5,sh k<7)(hn:n≤5)(total:Int):xS (pairsOf sh n total):=by
 intro p hp
 have h:=Lj aA hn total p hp
 have:=h.len
 exact⟨by exact Nat.le_trans ‹_› (by decide),h.2⟩
theorem Lh:(pairsOf sh n total).length=(gz sh n).length:=by unfold pairsOf;exact aa (List.length_map ..) (aa (Dc ..) rfl)
theorem YN (aA:∀k<5,sh k<7)(qE:0<n):0<(gz sh n).length:=by
 have h1:=GD _ (aA 0 (by exact Nat.succ_pos _))
 exact List.length_pos_of_mem (C8 n 0 qE _ h1)
theorem Wv (h:∀p∈ps,mJ p)(hz:ps.length≤8):(headText ps).length≤900:=by
 unfold headText
 show(Builtin.Str.glued (Str.ofString "; ") (ps.map fG)).length≤_
 refine aa (StrLaws.glued_eq_join ..) ?_
 have h1:=StrLaws.join_length_le (Str.ofString "; ") (ps.map fG)
 have h2:=DV 40 (ps.map fG) λx hx=>by
  refine ah (List.mem_map.mp hx) λp hp zr282=>?_;subst zr282
  have hl:=(h p hp).len
  refine j3 (h p hp) λ_ d hd h2=>?_
  have w3:=(Al d hd).2.2
  have l1:(Str.ofString "=").length=1:=by decide
  have l2:(Str.ofString "\"").length=1:=by decide
  unfold fG
  refine aa h2 ?_
  simp only [Str.length_append]
  exact @(ln 0x802008041104210842817e621896b0816b0066210661126631526001004).1 p.fst.length ((Str.ofString "=").length) ((Str.ofString "\"").length) ((word ↑d).length) hl w3 l1 l2
 have l1:(Str.ofString "; ").length=2:=by decide
 rw[List.length_map] at h1 h2
 rw[l1] at h1
 exact(ln 0x150be1084410843c20bf30002140bee10022709600226100c03).1 hz h1 h2
end
end
section
section
variable {prog:Program}{w:World}{A:Around}{E:Value->Shared->Prop}{s:Shared}{env:Env}
theorem sub_slice_temp {T id:String}{Q:Value->Shared->Prop}
 (hl:typeLookup (.type T) "__getitem__"=pure (some (.builtin id)))
 (h:wpAny (model prog w) A (eval value env) (λo cX=>wpAny (model prog w) A (eval (.Slice lower upper none p) env) (λi dU=>dU.TypeIs o T∧wpAny (model prog w) A (getItem o i) Q E dU) E cX) E s):
 wpAny (model prog w) A (eval (.Subscript value (.Slice lower upper none p) pos) env) Q E s:=by
 refine aa (eval_Subscript ..) ?_
 refine wpAny_bind (wpAny_mono h (λo cX h₁=>wpAny_bind (wpAny_holding (wpAny_mono h₁ (λi dU sV=>wpAny_bind (wpAny_standAt ?_)) λ_ _ x=>x)))
  λ_ _ x=>x)
 have fin:wpAny (model prog w) A (operate [i,o] (getItem o i)) (λr kF=>wpAny (model prog w) A (letTemporaryGo value o r>>=λ_=>pure r) Q E kF) E dU:=
  wpAny_operating (wpAny_mono sV.2 (λr kF qR=>wpAny_bind (wpAny_letTemporaryGo (wpAny_pure qR))) λ_ _ x=>x)
 first
  |(refine wpAny_bind ?_
    refine aa (getitemInPython_of_ne sV.1.not_modules) ?_
    refine wpAny_bind (wpAny_specialOf sV.1 hl ?_)
    first
     |exact wpAny_pure (wpAny_bind fin)
     |exact wpAny_bind (wpAny_pure (wpAny_bind fin))
     |exact wpAny_bind fin)
  |(refine wpAny_bind (wpAny_specialOf sV.1 hl ?_)
    first
     |exact wpAny_bind (wpAny_pure (wpAny_bind fin))
     |exact wpAny_bind fin)
theorem YW
 (h:wpAny (model prog w) A (eval value env) (λo cX=>wpAny (model prog w) A (evalPart lower env) (λvl dU=>wpAny (model prog w) A (evalPart upper env) (λvu kF=>
  ∃l items lo hi,o= .ref l∧kF.heap.IsList l items∧items.size≤sizeLine∧IsPart vl lo∧IsPart vu hi∧
   Q (.ref (kF.heap.objs.size+1)) {kF with heap:=(kF.heap.push {cls:= .type "slice",data:= .fields #[vl,vu, .none]}).push {cls:= .type "list",data:= .seq (slicePick items lo hi none)}}) E dU) E cX) E s):
 wpAny (model prog w) A (eval (.Subscript value (.Slice lower upper none p) pos) env) Q E s:=by
 refine sub_slice_temp (T:="list") list_getitem_lookup (wpAny_mono h (λo cX h₁=>wpAny_Slice (wpAny_mono h₁ (λvl dU sV=>wpAny_mono sV (λvu kF qR=>?_) λ_ _ e=>e) λ_ _ e=>e)) λ_ _ e=>e)
 refine Eb qR λl items lo hi zr225 hl hsz pl pu hQ=>?_;clear qR;subst zr225
 refine aa (evalPart_none ..) ?_
 refine wpAny_pure ⟨(hl.push _).typeIs,wpAny_getItem_list_slice (hl.push _) (Heap.IsSliceOf.new ..) pl pu .none (by simp) ?_ hsz⟩
 rw[Heap.size_push]
 exact hQ
end
section
variable {prog:Program}{w:World}{A:Around}{h₀:Heap}{L:Addr}{m:Loc}{H:Led}{env:Env}{Q:Value->Loc->Led->Prop}
theorem Td
 (h:AW (model prog w) A h₀ L (eval value env) (λo m H=>AW (model prog w) A h₀ L (evalPart lower env) (λvl m H=>AW (model prog w) A h₀ L (evalPart upper env) (λvu m H=>
  ∃l vs lo hi,o= .ref l∧c7 h₀ l vs H∧vs.length≤sizeLine∧IsPart vl lo∧IsPart vu hi∧∀r,Q (.ref r) m ((r,af (slicePick vs.toArray lo hi none).toList)::H)) m H) m H) m H):
 AW (model prog w) A h₀ L (eval (.Subscript value (.Slice lower upper none p) pos) env) Q m H:=λs R E S k=>
 YW (h s _ E S λo m1 H1 h1 aX S1 q1=>q1 _ _ E S1 λvl m2 H2 h2 bC S2 q2=>q2 _ _ E S2 λvu m3 H3 h3 aR S3 q3=>by
  refine Eb q3 λl vs lo hi zr226 hl hz pl pu q=>?_;clear q3;subst zr226
  refine⟨l,vs.toArray,lo,hi,rfl,hl.at S3,by assumption,pl,pu,?_⟩
  have S4:St h₀ L (h3.push {cls:= .type "slice",data:= .fields #[vl,vu, .none]}) m3 H3:=S3.keeps λb o e=>Heap.get?_push_of_some _ e
  have S5:=S4.cL (o:={cls:= .type "list",data:= .seq (slicePick vs.toArray lo hi none)}) (P:=af (slicePick vs.toArray lo hi none).toList) ⟨0,by simp[W.listOf]⟩
  rw[Heap.size_push] at S5
  exact k _ m3 _ _ _ S5 (q _))
end
end
section
section
variable {G:Gx}{A:Around}{h₀:Heap}{L:Addr}{m:Loc}{H:Led}{env gf:Env}
inductive GK (G:Gx)(it:Addr)(P:Obj->Prop)(C D:Addr)(J:List (Str×Value)->Led->Prop)(m:Loc)(kv vv:Value)(m':Loc)(H:Led):Prop
 |mk (e:m'=m) (mc kvs H1 H2 H3 k t) (ek:kv= .str k t) (p1:aZ it P H H1) (p2:aZ C (bP mc) H1 H2) (p3:aZ D (aK G.prog G.w D kvs) H2 H3) (z:kvs.length≤1000) (j:J (PySem.stored kvs k vv) H3)
theorem Qk
 (O:jJ G.prog G.w A h₀ L it P n item cS)(hD:∀p H,cS H->cS (p::H))(J:Nat->List (Str×Value)->Led->Prop)(dep:∀i ys X,J i ys X->cS X)
 (turn:∀i v mc kvs X,i<n->item i v->J i kvs X->AW (model G.prog G.w) A h₀ L (assign target gG v) (λ_ m' H=>AW (model G.prog G.w) A h₀ L (eval kx gG) (λkv m' H=>
  AW (model G.prog G.w) A h₀ L (eval vx gG) (λvv m' H=>GK G it (P (i+1)) C D (J (i+1)) m kv vv m' H) m' H) m' H) m ((C,bP mc)::(it,P (i+1))::(D,aK G.prog G.w D kvs)::X))
 (h:J 0 kvs X)(s:Shared)(S:St h₀ L s.heap m ((it,P 0)::(C,bP mc)::(D,aK G.prog G.w D kvs)::X))
 (k:∀mc kvs X h' aB,St h₀ L h' m ((C,bP mc)::(D,aK G.prog G.w D kvs)::X)->J n kvs X->R (.ok .next) {s with heap:=h',toks:=aB}):
 codeAny (model G.prog G.w) A (.compLoop (.DictComp kx vx [⟨target,iter,[],0⟩] scope pos) 0 (.ref it) (.ref D) gG) R s:=by
 have aP:(1000:Nat)≤sizeLine:=by decide
 refine codeAny_loop rfl (λj s'=>∃i mc kvs X h' aB,i≤n∧j=n-i∧s'={s with heap:=h',toks:=aB}∧St h₀ L h' m ((it,P i)::(C,bP mc)::(D,aK G.prog G.w D kvs)::X)∧J i kvs X) (λj s' hI=>?_) n ⟨0,mc,kvs,X,_,_,Nat.zero_le _,rfl,rfl,S,h⟩
 refine My hI λi wm w4 X1 h1 aX hi zr165 zr166 S1 i1=>?_;clear hI;subst zr165;subst zr166
 show wpAny _ A ((compTurn (.DictComp kx vx [⟨target,iter,[],0⟩] scope pos) 0 (.ref it) (.ref D) gG).onRaise (λx=>do noteFrame x gG;theTreesLotGoes x)) _ _ _
 refine wpAny_noted ?_
 refine aa (compTurn_dict ..) ?_
 refine wpAny_bind (wpAny_standAt (wpAny_bind ?_))
 have dp:cS ((C,bP wm)::(D,aK G.prog G.w D w4)::X1):=hD _ _ (hD _ _ (dep _ _ _ i1))
 by_cases aC:i<n
 ·refine O.tE aC dp S1 λv hv h2 bC S2=>?_
  refine wpAny_bind (Ac (O.go (i+1) v m _ target _ ⟨rfl,rfl⟩) S2 λ_ h3 aR S3=>?_)
  refine wpAny_bind (turn i v wm w4 X1 aC hv i1 _ _ _ (S3.perm (.swap _ _ _)) λ_ m4 H4 h4 iw S4 q4=>?_)
  refine wpAny_bind (wpAny_pure ?_)
  refine wpAny_bind (wpAny_bind (q4 _ _ _ S4 λkv m5 H5 h5 gT S5 q5=>wpAny_bind (wpAny_holding (q5 _ _ _ S5 λvv m6 H6 h6 wM S6 q6=>wpAny_bind (wpAny_standAt (wpAny_holding ?_))))))
  obtain ⟨rfl,ic,Ys,H1,H2,H3,Yt,t,rfl,p1,p2,p3,hz,j⟩:=q6
  have S7:=S6.perm (p1.perm.trans ((p2.perm.trans (p3.perm.cons _)).cons _))
  have S8:=S7.perm ((List.Perm.cons _ (.swap _ _ _)).trans (.swap _ _ _))
  refine xA ((di.mk (.head _)).dictOf S8) λhd lo=>?_
  refine wpAny_dictSet_pairs (hsz:=by exact Nat.le_trans ‹_› ‹_›) (strKind_is _ _ _ _) hd λh' hm hs=>?_
  refine ah (Heap.dictOf_iff.mp hm) λo' gu ff=>?_
  have S9:=S8.upd (P':=aK G.prog G.w D (PySem.stored Ys Yt vv)) hs gu ⟨lo,ff⟩
  refine wpAny_pure ⟨rfl,n-(i+1),by exact Nat.sub_lt_sub_left ‹_› (Nat.lt_succ_self _),i+1,ic,_,H3,h',_,aC,rfl,rfl,S9.perm ((List.Perm.swap _ _ _).trans (List.Perm.cons _ (.swap _ _ _))),j⟩
 ·obtain rfl:i=n:=by exact zR hi aC
  refine iu (O.done m _ _ dp ⟨rfl,rfl,rfl⟩) S1 λh2 bC S2=>?_
  exact wpAny_pure (k _ _ _ _ _ S2 i1)
inductive PU (G:Gx)(A:Around)(h₀:Heap)(L:Addr)(kx vx target:Expr)(scope:Scope)(cl:List (Str×Addr))(env:Env)(Q:Value->Loc->Led->Prop)(m:Loc)
 (it:Addr)(P:Nat->Obj->Prop)(n:Nat)(item:Nat->Value->Prop)(cS:Led->Prop)(X:Led)(C D:Addr):Prop
 |mk (J:Nat->List (Str×Value)->Led->Prop) (dep:∀i ys X,J i ys X->cS X) (h:J 0 [] (iP (C+1) scope.names++X))
  (turn:∀i v mc kvs X,i<n->item i v->J i kvs X->AW (model G.prog G.w) A h₀ L (assign target (oK scope cl C env) v) (λ_ m' H=>AW (model G.prog G.w) A h₀ L (eval kx (oK scope cl C env)) (λkv m' H=>
   AW (model G.prog G.w) A h₀ L (eval vx (oK scope cl C env)) (λvv m' H=>GK G it (P (i+1)) C D (J (i+1)) m kv vv m' H) m' H) m' H) m ((C,bP mc)::(it,P (i+1))::(D,aK G.prog G.w D kvs)::X))
  (fin:∀mc kvs X,J n kvs X->Q (.ref D) m ((C,bP mc)::(D,aK G.prog G.w D kvs)::X))
inductive EE (G:Gx)(A:Around)(h₀:Heap)(L:Addr)(kx vx target:Expr)(scope:Scope)(cl:List (Str×Addr))(env:Env)(Q:Value->Loc->Led->Prop)(qU:Value)(m:Loc)(H:Led):Prop
 |mk (it P n item cS X) (e1:qU= .ref it) (e2:H=(it,P 0)::X) (io:jJ G.prog G.w A h₀ L it P n item cS) (hD:∀p H,cS H->cS (p::H))
  (k:∀C D,PU G A h₀ L kx vx target scope cl env Q m it P n item cS X C D)
theorem UK (kK:Cx G A h₀ L gf)(dU:Shared)(xT:St h₀ L dU.heap m H)
 (O:EE G A h₀ L kx vx target scope cl env Q qU m H){RR:Value->Addr->Result->Shared->Prop}
 (BY:∀C D mc H' h' aB,Q (.ref D) m ((C,bP mc)::H')->St h₀ L h' m ((C,bP mc)::H')->RR (.ref D) C (.ok .next) {dU with heap:=h',toks:=aB}):
 wpAny (model G.prog G.w) A newDict (λacc kF=>wpAny (model G.prog G.w) A (newFunctionEnv scope env.globals cl [] env.qual none .none (some env)) (λgG DW=>
  codeAny (model G.prog G.w) A (.compStart (.DictComp kx vx [⟨target,iter,[],0⟩] scope pos) 0 qU acc {gG with scope:=relabel scope env}) (RR acc gG.locals) DW) E kF) E dU:=by
 obtain ⟨it,P,n,item,cS,X,rfl,rfl,IO,hD,hJ⟩:=O
 refine wpAny_newObj_type ?_
 generalize BU:dU.heap.objs.size=D
 refine ah xT.fr λmf F _=>?_
 have qC:=F.notModules (modules_low kK.T.nolimit)
 have pY:St h₀ L (dU.heap.push {cls:= .type "dict",dict:=none,data:= .dict #[]}) m ((D,aK G.prog G.w D [])::(it,P 0)::X):=BU▸xT.cL (P:=aK G.prog G.w dU.heap.objs.size []) ⟨qC,#[],0,⟨rfl,rfl,rfl⟩,rfl,λ_ he=>by simp at he,Pairs.nil,List.nodup_nil⟩
 simp only [newFunctionEnv,Option.isSome_some,if_true]
 refine wpAny_bind (wpAny_alloc ?_)
 refine wpAny_bind (wpAny_layCells _ (λname kind cells=>by cases kind==NameKind.cell<;>rfl) _ _ _ _ ?_)
 generalize WS:dU.heap.push {cls:= .type "dict",dict:=none,data:= .dict #[]}=h3 at pY ⊢
 generalize qm:h3.objs.size=C
 have AR:St h₀ L (h3.push {cls:= .type "dict",data:= .dict #[]}) m ((C,bP [])::(D,aK G.prog G.w D [])::(it,P 0)::X):=by
  refine aa (Eq.symm qm) ?_
  exact pY.cL (P:=bP []) ⟨#[],_,λ_=>none,rfl,λ_ hm=>by simp at hm,λx=>rfl,λx v e=>nomatch e⟩
 have uv:=AR.pushCells scope.names
 rw[Heap.size_push,qm] at uv
 refine wpAny_bind (wpAny_pure (wpAny_pure ?_))
 dsimp only
 refine aa (show({dU with heap:=h3.push {cls:= .type "dict",data:= .dict #[]}}:Shared).heap.objs.size=C+1 from by show(h3.push _).objs.size=_;rw[Heap.size_push,qm]) ?_
 obtain ⟨J,dep,j0,turn,fin⟩:=hJ C D
 have loop:∀rq:Shared,(∃h' aB,rq={dU with heap:=h',toks:=aB}∧St h₀ L h' m ((it,P 0)::(C,bP [])::(D,aK G.prog G.w D [])::(iP (C+1) scope.names++X)))->
  codeAny (model G.prog G.w) A (.compLoop (.DictComp kx vx [⟨target,iter,[],0⟩] scope pos) 0 (.ref it) (.ref D) (oK scope cl C env)) (RR (.ref D) C) rq:=by
  intro rq NO;refine Ea NO λh' aB zr175 mL=>?_;clear NO;subst zr175
  exact Qk IO hD J dep turn j0 _ mL λmc ys X eT fZ AS j=>BY C D mc _ eT fZ (fin mc ys X j) AS
 have mL:St h₀ L (PySem.pushCells (h3.push {cls:= .type "dict",data:= .dict #[]}) scope.names) m ((it,P 0)::(C,bP [])::(D,aK G.prog G.w D [])::(iP (C+1) scope.names++X)):=by
  refine uv.perm ?_
  refine(List.perm_middle (l₁:=iP (C+1) scope.names) (a:=(C,bP []))).trans ?_
  refine(List.Perm.cons _ (List.perm_middle (l₁:=iP (C+1) scope.names) (a:=(D,aK G.prog G.w D [])))).trans ?_
  refine(List.Perm.cons _ (List.Perm.cons _ (List.perm_middle (l₁:=iP (C+1) scope.names) (a:=(it,P 0))))).trans ?_
  exact(List.Perm.cons _ (.swap _ _ _)).trans (.swap _ _ _)
 refine codeAny_compStart_dict (loop _ ⟨_,_,rfl,mL⟩) ?_
 exact iu (IO.self 0 m _ _ ⟨rfl,rfl,rfl⟩) mL λh2 bC S2=>loop _ ⟨_,_,rfl,S2⟩
theorem SJ (kK:Cx G A h₀ L gf)(cl:List (Str×Addr)){Q:Flow->Loc->Led->Prop}
 (CH:swapsWith (.DictComp kx vx [⟨target,iter,[],0⟩] scope pos) (some (.Name y py)) DT.line env=pure true)
 (vg:closureFor scope env=pure cl)
 (h:AW (model G.prog G.w) A h₀ L (eval iter env) (λx m H=>AW (model G.prog G.w) A h₀ L (pyIter x) (EE G A h₀ L kx vx target scope cl env (λv m H=>∃C mc H',H=(C,bP mc)::H'∧AW (model G.prog G.w) A h₀ L (storeName env y v) (λ_ m2 H2=>H2=H∧AW (model G.prog G.w) A h₀ L (execs rest env) Q m2 H') m H)) m H) m H)
 (qA:scope.kind= .function:=by with_unfolding_all rfl)(vD:∀x∈scope.names,x.2= .local->scope.names.lookup x.1=some .local:=by decide)
 (hs:∀x,foldedSetIterable iter env x=pure x:=by intro _;with_unfolding_all rfl):
 AW (model G.prog G.w) A h₀ L (execs (.Assign [.Name y py] (.DictComp kx vx [⟨target,iter,[],0⟩] scope pos) DT::rest) env) Q m H:=jM λs R E S k=>by
 refine aa (exec_Assign_Name_used _ _ _ _ CH) ?_
 refine wpAny_bind (wpAny_standAt (wpAny_bind ?_))
 show wpAny _ A (do let _<-comprehension (.DictComp kx vx [⟨target,iter,[],0⟩] scope pos) scope env _ newDict false (eval iter env) (some (assign (.Name y py) env))) _ _ s
 refine wpAny_bind (wpAny_mono (wpAny_comprehension_free (use:=some (assign (.Name y py) env)) (Q:=λ_ s'=>R .next s') rfl hs vg qA vD (h _ _ _ S λx m1 H1 h1 aX S1 q1=>q1 _ _ _ S1 λqU m2 H2 h2 bC S2 q2=>?_)) (λ_ s' hq=>wpAny_pure (wpAny_pure hq)) λ_ _ e=>e)
 refine UK kK _ S2 q2 (RR:=λacc C=>compPost (model G.prog G.w) A E (some (assign (.Name y py) env)) (λ_ s'=>R .next s') acc C) λC D mc H' h' aB q S'=>?_
 refine cE q λC' KZ fK e q=>?_
 simp only [List.cons.injEq,Prod.mk.injEq] at e
 refine xA e λzr179 zr181=>?_;clear e;refine xA zr179 λzr180 _=>?_;subst zr180;subst zr181
 refine wpAny_assign_Name (q _ _ _ S' λ_ m3 H3 h3 aR S3 q3=>?_)
 obtain ⟨rfl,q3⟩:=q3
 obtain ⟨o,eo,p⟩:=S3.get (.head _)
 obtain ⟨mf,hn,_⟩:=p.ns eo
 exact⟨mf,hn,λeT vJ=>k _ m3 _ _ _ (S3.C6 vJ) (gR q3)⟩
end
end
section
open PySem.SeqAt
theorem cH.of_get:∀{vs:List Value} {ds:List PyData},vs.length=ds.length->(∀(i:Nat) (d:PyData),ds[i]?=some d->∃v,vs[i]?=some v∧Rd H v d)->cH H vs ds
 |[],[],_,_=>cH.nil
 |[],_::_,h,_=>by cases h
 |_::_,[],h,_=>by cases h
 |v::vs,d::ds,h,g=>by
  refine ah (g 0 d rfl) λv' e r=>?_
  obtain rfl:v=v':=Option.some.inj e
  exact cH.cons r (cH.of_get (by simpa using h) λi d hi=>g (i+1) d hi)
noncomputable def pD (wt:Nat->Int)(sh:Nat->Nat)(ks:List Nat):PyData:= .list (ks.map λk=>oM (wt k) (host k (sh k)))
theorem gD.rd (h:gD H vs wt sh ks)(hm:(a,af vs)∈H):Rd H (.ref a) (pD wt sh ks):=by
 refine Rd.lst hm (cH.of_get (by refine aa (List.length_map ..) ?_;exact h.1) λi d hi=>?_)
 rw[List.getElem?_map] at hi
 refine ah (Option.map_eq_some_iff.mp hi) λk hk zr283=>?_;subst zr283
 refine cE (h.2 i k hk) λb t u e1 e2=>?_
 exact⟨_,e1,Rd.tup e2 (cH.cons (Rd.int _ _) (cH.cons (Rd.str _ _) cH.nil))⟩
theorem Yq (hk:∀k∈ks,k<5)(hs:∀k<5,sh k<7):shaped (pD wt sh ks)=true:=by
 refine xA (De (ds:=ks.map λk=>oM (wt k) (host k (sh k))) λd hd=>by
  obtain ⟨k,hm,rfl⟩:=List.mem_map.mp hd
  have:=hk k hm
  exact⟨GN (IX k this _ (hs k this)),Nat.le_trans GO (by decide)⟩) λa b=>?_
 exact Ad a (by show PyData.depth _≤60;unfold pD;exact Nat.lt_of_lt_of_le ‹_› (by decide))
theorem Yp:noMix (pD wt sh ks) (pD wt sh ks)=true:=by
 refine zP λd hd d' ff=>?_
 refine ah (List.mem_map.mp hd) λk _ zr285=>?_;subst zr285
 refine ah (List.mem_map.mp ff) λk' _ zr286=>?_;subst zr286
 exact GP
noncomputable def pK (ps:List (Str×Str)):PyData:= .list (ps.map λp=>oN p.1 p.2)
theorem fQ.rd (h:fQ H vs ps)(hm:(a,af vs)∈H):Rd H (.ref a) (pK ps):=by
 refine Rd.lst hm (cH.of_get (by refine aa (List.length_map ..) ?_;exact h.1) λi d hi=>?_)
 rw[List.getElem?_map] at hi
 refine ah (Option.map_eq_some_iff.mp hi) λp hk zr287=>?_;subst zr287
 refine cE (h.2 i p hk) λb t u e1 e2=>?_
 exact⟨_,e1,Rd.tup e2 (cH.cons (Rd.str _ _) (cH.cons (Rd.str _ _) cH.nil))⟩
theorem pairs_shaped (hk:∀p∈ps,PyData.strOk p.1=true∧PyData.strOk p.2=true):shaped (.list [pK ps])=true:=by
 have h1:=De (ds:=ps.map λp=>oN p.1 p.2) λd hd=>by
  refine ah (List.mem_map.mp hd) λp hm zr288=>?_;subst zr288
  refine xA (hk p hm) λa b=>?_
  exact⟨UN a b,Nat.le_trans UO (by decide)⟩
 refine xA (YV (ds:=[pK ps]) λd hd=>by
  rw[List.mem_singleton] at hd;subst hd;exact h1) λa b=>?_
 exact Ad a (by exact Nat.lt_of_lt_of_le ‹_› (by decide))
theorem pairs_mix:noMix (.list [pK ps]) (.list [pK ps])=true:=by
 refine zP λd hd d' ff=>?_
 rw[List.mem_singleton] at hd ff
 subst hd ff
 refine zP λd hd d' ff=>?_
 refine ah (List.mem_map.mp hd) λk _ zr289=>?_;subst zr289
 refine ah (List.mem_map.mp ff) λk' _ zr290=>?_;subst zr290
 exact UP
noncomputable def Dw (o:Option Int):PyData:=match o with|none=> .none|some x=> .int x
noncomputable def wD (os:List (Option Int)):PyData:= .list (os.map Dw)
theorem gh.rd {os:List (Option Int)}(h:gh vs os)(hm:(a,af vs)∈H):Rd H (.ref a) (wD os):=by
 refine Rd.lst hm (cH.of_get (by refine aa (List.length_map ..) ?_;exact h.1) λi d hi=>?_)
 rw[List.getElem?_map] at hi
 refine ah (Option.map_eq_some_iff.mp hi) λo hk zr291=>?_;subst zr291
 refine xE (h.2 i o hk) λt e=>?_
 refine⟨_,e,?_⟩
 cases o with
 |none=>exact Rd.none
 |some x=>exact Rd.int _ _
theorem Ld {os:List (Option Int)}:shaped (wD os)=true:=by
 refine xA (De (ds:=os.map Dw) λd hd=>by
  obtain ⟨o,_,rfl⟩:=List.mem_map.mp hd
  cases o<;>simp[Dw,PyData.canLay0,PyData.depth]) λa b=>?_
 exact Ad a (by show PyData.depth _≤60;unfold wD;exact Nat.lt_of_lt_of_le ‹_› (by decide))
theorem opts_mix {os:List (Option Int)}:noMix (wD os) (wD os)=true:=by
 refine zP λd hd d' ff=>?_
 refine ah (List.mem_map.mp hd) λo _ zr293=>?_;subst zr293
 refine ah (List.mem_map.mp ff) λo' _ zr294=>?_;subst zr294
 cases o<;>cases o'<;>rfl
theorem gh.app {os Le:List (Option Int)}(h:gh vs os)(h':gh vs' Le):gh (vs++vs') (os++Le):=by
 refine⟨by exact aa List.length_append (aa List.length_append (aa h.1 (aa h'.1 rfl))),λi n hi=>?_⟩
 by_cases hl:i<os.length
 ·rw[List.getElem?_append_left hl] at hi
  refine aa (List.getElem?_append_left (by rw[h.1];exact hl)) ?_;exact h.2 i n hi
 ·rw[List.getElem?_append_right (by exact Nat.le_of_not_lt ‹_›)] at hi
  refine aa (List.getElem?_append_right (by rw[h.1];exact KW hl)) (aa h.1 ?_);exact h'.2 _ n hi
theorem gh.nones (n:Nat):gh (List.replicate n .none) (List.replicate n none):=by
 refine⟨by simp,λi o hi=>?_⟩
 rw[List.getElem?_replicate] at hi ⊢
 split at hi
 ·rename_i hl
  cases hi
  exact⟨0,by exact aa (if_pos hl) rfl⟩
 ·cases hi
theorem gh.ints (h:b7 vs ns):gh vs (ns.map some):=by
 refine⟨by refine aa (List.length_map ..) ?_;exact h.1,λi o hi=>?_⟩
 rw[List.getElem?_map] at hi
 refine ah (Option.map_eq_some_iff.mp hi) λn hn zr295=>?_;subst zr295
 exact h.2 i n hn
theorem ord_pair {wt:Nat->Int}{n:Nat}{ord:List Nat}(hl:ord.length=n)(h:∀i j,i<j->j<n->wt (ord.getD j 0)<wt (ord.getD i 0)):ord.Pairwise λa b=>wt b<wt a:=by
 rw[List.pairwise_iff_getElem]
 intro i j hi hj dg
 have:=h i j dg (by exact Nat.lt_of_lt_of_eq ‹_› ‹_›)
 rw[List.getD_eq_getElem?_getD,List.getD_eq_getElem?_getD,List.getElem?_eq_getElem hi,List.getElem?_eq_getElem hj] at this
 exact this
end
section
open PySem.SeqAt PySem.Builtin PySem.Builtin.Re PySem.Sre
noncomputable def eV (L f:Addr)(bg:Value)(cd ck:Addr):Env:=envX (aO 38).name (aO 38).scope L f bg [(Str.ofString "kept",ck),(Str.ofString "draws",cd)]
theorem b7.take (h:b7 vs ns)(k:Nat):b7 (vs.take k) (ns.take k):=by
 refine⟨by exact aa List.length_take (aa List.length_take (aa h.1 rfl)),λi n hi=>?_⟩
 rw[List.getElem?_take] at hi ⊢
 split at hi
 ·rename_i hk;refine aa (if_pos hk) ?_;exact h.2 i n hi
 ·cases hi
theorem b7.drop (h:b7 vs ns)(k:Nat):b7 (vs.drop k) (ns.drop k):=by
 refine⟨by exact aa List.length_drop (aa List.length_drop (aa h.1 rfl)),λi n hi=>?_⟩
 rw[List.getElem?_drop] at hi ⊢
 exact h.2 _ n hi
theorem b7.app (h:b7 vs ns)(h':b7 vs' ns'):b7 (vs++vs') (ns++ns'):=by
 refine⟨by exact aa List.length_append (aa List.length_append (aa h.1 (aa h'.1 rfl))),λi n hi=>?_⟩
 by_cases hl:i<ns.length
 ·rw[List.getElem?_append_left hl] at hi
  refine aa (List.getElem?_append_left (by rw[h.1];exact hl)) ?_;exact h.2 i n hi
 ·rw[List.getElem?_append_right (by exact Nat.le_of_not_lt ‹_›)] at hi
  refine aa (List.getElem?_append_right (by rw[h.1];exact KW hl)) (aa h.1 ?_);exact h'.2 _ n hi
theorem Vv (t1 t2 t3 t4:Tok):b7 [.int 13 t1, .int 65 t2, .int 41 t3, .int 24 t4] [13,65,41,24]:=by
 refine⟨rfl,λi n hi=>?_⟩
 match i with
 |0=>cases hi;exact⟨_,rfl⟩
 |1=>cases hi;exact⟨_,rfl⟩
 |2=>cases hi;exact⟨_,rfl⟩
 |3=>cases hi;exact⟨_,rfl⟩
 |i+4=>cases hi
theorem shp_lt:∀n<3,∀a<2,∀b<2,Ae n a b<7:=by decide+kernel
theorem DM (y:Int):shape y<7:=by
 unfold shape
 refine ah (qi y (n:=3) (by decide)) λn en hn=>?_
 refine ah (qi (y.fdiv 3) (n:=2) (by decide)) λa ea ha=>?_
 refine ah (qi (y.fdiv 6) (n:=2) (by decide)) λb eb hb=>?_
 refine aa en (aa ea (aa eb ?_))
 exact shp_lt n (by exact Int.ofNat_lt.mp ‹_›) a (by exact Int.ofNat_lt.mp ‹_›) b (by exact Int.ofNat_lt.mp ‹_›)
theorem oj.snoc (h:oj H vs cy)(hs:∀q∈H,q∈H')(hm:(a,af ws)∈H')(hw:bU ws xs):oj H' (vs++[.ref a]) (cy++[xs]):=by
 refine⟨by simp[h.1],λi p e=>?_⟩
 rcases Nat.lt_trichotomy i cy.length with hi|hi|hi
 ·rw[List.getElem?_append_left hi] at e
  refine eX (h.2 i p e) λa' w' e1 e2 e3=>?_
  exact⟨a',w',by refine aa (List.getElem?_append_left (by rw[h.1];exact hi)) ?_;exact e1,hs _ e2,e3⟩
 ·subst hi
  rw[List.getElem?_append_right (Nat.le_refl _),Nat.sub_self] at e
  cases e
  exact⟨a,ws,by refine aa (List.getElem?_append_right (by rw[h.1];exact Nat.le_refl _) ..) (aa (h.1 ..) (aa (Nat.sub_self ..) ?_));rfl,hm,hw⟩
 ·rw[List.getElem?_eq_none (by refine aa List.length_append ?_;show cy.length+1≤i;assumption)] at e
  cases e
noncomputable def drawsOf (xs:List Int):List Int:=xs.take 5++([13,65,41,24]:List Int).drop xs.length
theorem UY (xs:List Int):(drawsOf xs).length=4∨(drawsOf xs).length=5:=by
 unfold drawsOf
 refine aa List.length_append (aa List.length_take (aa List.length_drop ?_))
 show min 5 xs.length+(4-xs.length)=4∨min 5 xs.length+(4-xs.length)=5
 exact(ln 0x200042100800000000844000000004220802100001104010002008040000000042200000000211040008000088210040008001100000000108800000000844100020000220800100022084b31056224c41589002cc2b0126250803).1 (Eq.refl (4-xs.length)) (Eq.refl (Min.min 5 xs.length))
noncomputable def cT (xs:List Int)(k:Nat):Nat:=shape ((drawsOf xs).getD k 0)
noncomputable def fm (xs:List Int)(k:Nat):Int:=8*((((drawsOf xs).getD k 0).fdiv 12).fmod 8)+k
theorem wt_nonneg (xs:List Int)(k:Nat):0≤fm xs k:=by
 unfold fm
 have:=Int.fmod_nonneg_of_pos (((drawsOf xs).getD k 0).fdiv 12) (show(0:Int)<8 by decide)
 exact @(ln 0x80882103c486ac131844890461).1 k ((drawsOf xs).getD k 0) (((drawsOf xs).getD k 0).fdiv 12) ((((drawsOf xs).getD k 0).fdiv 12).fmod 8) (Eq.refl ((((drawsOf xs).getD k 0).fdiv 12).fmod 8))
theorem wt_inj (xs:List Int)(hi:i<5)(hj:j<5)(h:fm xs i=fm xs j):i=j:=by
 unfold fm at h
 omega
section
variable {G:Gx}{bZ:Around}{base h₀:Heap}{L f yk gp yj gn:Addr}{bg:Value}{aW:eu}{sd:ju}{pd:jb}
theorem RO (hm:c7 h₀ a vs H)(hf:(vs.length:Int)<2^63)(h:∀t,Q (.int vs.length t) m H):
 AW (model prog w) A h₀ L (call (.builtin "len") [.ref a]) Q m H:=λs R E S kk=>by
 refine Calls.call_len_list (hm.at S) (by assumption) (kk _ m H _ _ S ?_)
 exact h _
structure L4 (xs:List Int)(n:Nat)(H:Led)(hl wl ll:Addr)(hv wv lv:List Value):Prop where
 hn:(n=4∨n=5)∧(drawsOf xs).length=n
 hh:(hl,af hv)∈H
 hs:bU hv (ki n (cT xs))
 wh:(wl,af wv)∈H
 ws:b7 wv (kI n (fm xs))
 lh:(ll,af lv)∈H
 ls:oj H lv ((List.range n).map λk=>fF k (cT xs k))
set_option maxHeartbeats 8000000 in
theorem YA (T:aT G.K aW)(Pt:jd G.K pd)(C:iA G bZ base [] h₀ L (eV L f bg cd ck))(r:bw (bZ.deeper (eV L f bg cd ck)) 6)
 (hs:h₀.IsList sc gS.toArray)(hx:b7 gS xs)(hz:xs.length≤63)
 (hQ:∀n H hl wl ll hv wv lv m,L4 xs n H hl wl ll hv wv lv->SubL [(Str.ofString "script", .ref sc),(Str.ofString "hosts", .ref hl),(Str.ofString "worths", .ref wl),(Str.ofString "ladders", .ref ll)] m->
  AW (model G.prog G.w) (bZ.deeper (eV L f bg cd ck)) h₀ L (execs ((aO 38).body.drop 4) (eV L f bg cd ck)) Q m (H++((ck,aE none)::H0))):
 AW (model G.prog G.w) (bZ.deeper (eV L f bg cd ck)) h₀ L (execs (aO 38).body (eV L f bg cd ck)) Q [(Str.ofString "script", .ref sc)] ((ck,aE none)::(cd,aE none)::H0):=by
 unfold eV at*
 refine xE (show∃sc,sc=(aO 38).scope from⟨_,rfl⟩) λLD dh=>?_
 (conv at dh in(aO _).scope=>whnf)
 rw[show(aO 38).scope=LD by refine aa dh ?_;rfl] at C r hQ ⊢
 subst dh
 have C1:=C.cx
 refine xE (show∃bd,bd=(aO 38).body from⟨_,rfl⟩) λbd iT=>?_
 (conv at iT in(aO _).body=>whnf)
 rw[show(aO 38).body=bd by refine aa iT ?_;rfl] at hQ ⊢
 subst iT
 have aP:(1000:Nat)≤sizeLine:=by decide
 have nq:(1000:Int)<2^63:=by decide
 have sS:(1000:Int)<2^62:=by decide
 have hlen:=hx.1
 refine kP ?_
 walk_at "awo"
 refine uG ?_
 walk_at "awo"
 refine rQ ?_
 refine rR ?_
 walk_at "awo"
 refine⟨sc,gS,_,_,rfl, .inr hs,by exact @(ln 0x108021104210840010041fa05f9803f17e6200c03).1 gS.length sizeLine xs.length hz aP hlen, .none, .int _ _,λl1=>?_⟩
 walk_at "awo"
 refine Td ?_
 refine dF ?_
 walk_at "awo"
 refine⟨by show(4:Nat)≤sizeLine;exact Nat.le_add_left _ _,λl2=>?_⟩
 refine rR ?_
 walk_at "awo"
 refine RO (.inr hs) (by exact(ln 0x802110421400000000000000037f303c810083f17e6100802).1 hz hlen) λtl=>?_
 walk_at "awo"
 refine rQ ?_
 refine⟨l2,_,_,_,rfl, .inl (.head _),by show(4:Nat)≤sizeLine;exact @id ((4:Nat)≤sizeLine) (@(ln 0x422084049801f40bf300401).1 sizeLine aP), .int _ _, .none,λl3=>?_⟩
 walk_at "awo"
 have Cv:(slicePick gS.toArray none (some 5) none).toList=gS.take 5:=z6 gS 5
 refine aa (Cv ..) (aa (Ln ..) ?_)
 rename_i t1 t2 t3 t4
 have sr:=(hx.take 5).app ((Vv t1 t2 t3 t4).drop gS.length)
 rw[show List.take 5 xs++List.drop gS.length [13,65,41,24]=drawsOf xs by refine aa hlen ?_;rfl] at sr
 have hn:=UY xs
 refine uA (.inl (.tail _ (.tail _ (.head _)))) (.inl (.head _)) (by have:=sr.1;rw[List.length_append] at this;exact(ln 0x10040108821080200844108422081601840b11663112631205f40bf300c04).1 aP hn this) λdl=>?_
 refine qc (c:=cd) rfl (.tail (.tail (.tail (.tail (.tail .head))))) ?_
 generalize hdv:List.take 5 gS++List.drop gS.length _=uM at sr ⊢
 generalize Ct:(drawsOf xs).length=n at hn
 have B5:uM.length=n:=sr.1.trans Ct
 refine cU (H':=(cd,aE (some (.ref dl)))::(dl,af uM)::(ck,aE none)::H0) (.sub ((((List.Sublist.refl _).cons _|>.cons _|>.cons _).cons_cons _).cons_cons _)) ?_
 (with_reducible show AW _ _ _ _ (execs (.Assign [.Name _ _] (.ListComp _ _ _ _) _::_) _) _ _ _)
 refine qa _ (by rfl) (by rfl) ?_
 walk_at "awa"
 refine g6 (c:=cd) rfl (.head _) ?_
 walk_at "awa"
 refine fL (.tail _ (.head _)) (by exact ZC hn B5) λtl1=>?_
 walk_at "awa"
 refine mU λrr=>?_
 refine aa B5 ?_
 refine mR (n:=n) (.head _) (pN (by exact ZD hn)) nT λit=>?_
 refine⟨it,iL 0 1 n,_,_,_,_,rfl,rfl,lW C1.hh,λp H d=>d,λcC D=>⟨λi ys X=>∃jk,X=jk++((rr,eB 0 n 1)::(cd,aE (some (.ref dl)))::(dl,af uM)::(ck,aE none)::H0)∧bU ys (ki i (cT xs)),λ_ _ _ _=>trivial,⟨[],rfl,bU.nil⟩,?_,?_⟩⟩
 ·intro i v mc ys X hi Ow Ox;refine xE Ow λtv zr244=>?_;clear Ow;subst zr244;refine ah Ox λjk zr245 bA=>?_;clear Ox;subst zr245
  refine aa (show(0:Int)+1*(i:Int)=i by simp+arith) ?_
  refine xE (sr.2 i ((drawsOf xs).getD i 0) (by refine aa (List.getD_eq_getElem?_getD) (aa (List.getElem?_eq_getElem (by exact Nat.lt_of_lt_of_eq ‹_› (Eq.symm ‹_›))) ?_);rfl)) λtd hd2=>?_
  refine bQ ?_
  refine gq .head ?_
  refine mW ?_
  refine jW ?_
  with_reducible refine oB ?_
  refine A0 C1 (FnAt.n T.host) ?_
  refine eO C1.X T.host ?_
  walk_at "awa"
  refine dj (.head _) (by with_unfolding_all rfl) ?_
  walk_at "awa"
  refine gY (c:=cd) (by with_unfolding_all rfl) (.tail _ (.tail _ (.tail _ (List.mem_append_right _ (.tail _ (.head _)))))) ?_
  walk_at "awa"
  refine dj (.head _) (by with_unfolding_all rfl) ?_
  refine cM (.tail _ (.tail _ (.tail _ (List.mem_append_right _ (.tail _ (.tail _ (.head _))))))) (by exact Int.natCast_nonneg _) (by exact ZE hn hi) (by assumption) ?_
  walk_at "awa"
  refine Rt T C1 (r.le (by exact Nat.succ_pos _)) (by exact ZF hn hi) λth br=>?_
  refine⟨rfl,_,_,_,_,_,aZ.app (.tail .head) br,aZ.app .head br,aZ.app .head br,?_,br++jk,(List.append_assoc _ _ _).symm,?_⟩
  ·have:=bA.length
   rw[qH] at this
   exact @Zf ys.length sizeLine n i aP hn hi this
  ·have e1:ki (i+1) (cT xs)=ki i (cT xs)++[host i (cT xs i)]:=by unfold ki;refine aa List.range_succ (aa List.map_append ?_);rfl
   refine aa e1 ?_
   exact bA.snoc _ _
 ·intro mc ys X Oz;refine ah Oz λjk zr246 bA=>?_;clear Oz;subst zr246
  refine⟨_,_,_,rfl,?_⟩
  refine jg ⟨rfl,?_⟩
  generalize ys=hv at bA ⊢
  generalize D=hl
  refine cU (H':=(hl,af hv)::(cd,aE (some (.ref dl)))::(dl,af uM)::(ck,aE none)::H0) (.sub (((List.sublist_cons_self _ _).trans (List.sublist_append_right _ _)).cons_cons _)) ?_
  refine qa _ (by rfl) (by rfl) ?_
  walk_at "awa"
  refine g6 (c:=cd) rfl (.tail _ (.head _)) ?_
  walk_at "awa"
  refine fL (.tail _ (.tail _ (.head _))) (by lia) λtQ=>?_
  walk_at "awa"
  refine mU λr2=>?_
  refine aa B5 ?_
  refine mR (n:=n) (.head _) (pN (by lia)) nT λpC=>?_
  refine⟨pC,iL 0 1 n,_,_,_,_,rfl,rfl,lW C1.hh,λp H d=>d,λcC2 D2=>⟨λi ys X=>X=((r2,eB 0 n 1)::(hl,af hv)::(cd,aE (some (.ref dl)))::(dl,af uM)::(ck,aE none)::H0)∧b7 ys (kI i (fm xs)),λ_ _ _ _=>trivial,⟨rfl,b7.nil⟩,?_,?_⟩⟩
  ·intro i v ic ys X hi OA OB;refine xE OA λtv zr247=>?_;clear OA;subst zr247;refine xA OB λzr248 vW=>?_;clear OB;subst zr248
   refine aa (show(0:Int)+1*(i:Int)=i by exact Kz) ?_
   refine xE (sr.2 i ((drawsOf xs).getD i 0) (by refine aa (List.getD_eq_getElem?_getD) (aa (List.getElem?_eq_getElem (by exact Ka Ct hi)) ?_);rfl)) λtd hd2=>?_
   have Jj:fm xs i=8*((((drawsOf xs).getD i 0).fdiv 12).fmod 8)+i:=rfl
   generalize (drawsOf xs).getD i 0=y at hd2 Jj
   refine bQ ?_
   refine gq .head ?_
   refine mW ?_
   refine jW ?_
   walk_at "awa"
   refine gY (c:=cd) (by with_unfolding_all rfl) (.tail _ (.tail _ (.tail _ (.tail _ (.tail _ (.head _)))))) ?_
   walk_at "awa"
   refine dj (.head _) (by with_unfolding_all rfl) ?_
   refine cM (.tail _ (.tail _ (.tail _ (.tail _ (.tail _ (.tail _ (.head _))))))) (by exact pF) (by lia) (by assumption) ?_
   walk_at "awa"
   refine A8 (IntMulOk.of_left (by decide+kernel)) λ_=>?_
   walk_at "awa"
   refine dj (.head _) (by with_unfolding_all rfl) ?_
   walk_at "awa"
   refine⟨rfl,_,_,_,_,_, .tail .head, .head, .head,?_,rfl,?_⟩
   ·have:=vW.1
    rw[worthsOf_len] at this
    lia
   ·have e1:kI (i+1) (fm xs)=kI i (fm xs)++[fm xs i]:=by unfold kI;refine aa List.range_succ (aa List.map_append ?_);rfl
    refine aa e1 (aa Jj ?_)
    exact vW.snoc _ _
  ·intro ic ys X OD;refine xA OD λzr249 vW=>?_;clear OD;subst zr249
   refine⟨_,_,_,rfl,?_⟩
   refine jg ⟨rfl,?_⟩
   generalize ys=wv at vW ⊢
   generalize D2=wl
   refine cU (H':=(wl,af wv)::(hl,af hv)::(ck,aE none)::H0) (.sub ((((List.Sublist.refl _).cons _|>.cons _).cons_cons _|>.cons _).cons_cons _)) ?_
   refine qa _ (by rfl) (by rfl) ?_
   walk_at "awa"
   refine gZ (.inl (.tail _ (.head _))) λzE=>?_
   refine⟨zE,fu hl,_,_,c7 h₀ hl hv,_,rfl,rfl,gw C1.hh,λp H d=>d.more,λcC3 D3=>⟨λi ys X=>∃jk,X=jk++((wl,af wv)::(hl,af hv)::(ck,aE none)::H0)∧oj jk ys ((List.range i).map λk=>fF k (cT xs k)),?_,⟨[],rfl,⟨rfl,λi x h=>nomatch h⟩⟩,?_,?_⟩⟩
   ·intro i ys X OE;refine ah OE λjk zr250 _=>?_;clear OE;subst zr250
    exact .inl (List.mem_append_right _ (.tail _ (.head _)))
   ·intro i v wo ys X hi jT OF;refine ah OF λjk zr251 sQ=>?_;clear OF;subst zr251
    have WV:i<n:=by rw[bA.length,qH] at hi;exact hi
    refine xE (bA.get (zh (sh:=cT xs) WV)) λth yR=>?_
    obtain rfl:v= .str (host i (cT xs i)) th:=Option.some.inj (jT.symm.trans yR)
    refine bQ ?_
    refine gq .head ?_
    refine mW ?_
    refine jW ?_
    with_reducible refine oB ?_
    refine A0 C1 (FnAt.n T.qV) ?_
    refine eO C1.X T.qV ?_
    walk_at "awa"
    refine dj (.head _) (by with_unfolding_all rfl) ?_
    walk_at "awa"
    refine RK T Pt C1 (r.le (by exact Nat.le_add_left _ _)) (by lia) (DM _) λla ws kZ=>?_
    refine⟨rfl,_,_,_,_,_, .tail (.tail .head), .tail .head, .tail .head,?_,(la,af ws)::jk,rfl,?_⟩
    ·have:=sQ.1
     rw[List.length_map,List.length_range] at this
     lia
    ·refine aa List.range_succ (aa List.map_append ?_)
     exact oj.snoc sQ (λq hq=> .tail _ hq) (.head _) kZ
   ·intro wo ys X OG;refine ah OG λjk zr252 sQ=>?_;clear OG;subst zr252
    refine⟨_,_,_,rfl,?_⟩
    refine jg ⟨rfl,?_⟩
    rw[bA.length,qH] at sQ
    have e:(D3,af ys)::(jk++((wl,af wv)::(hl,af hv)::(ck,aE none)::H0))=((D3,af ys)::(jk++[(wl,af wv),(hl,af hv)]))++((ck,aE none)::H0):=by simp
    refine aa e ?_
    refine hQ n _ hl wl D3 hv wv ys _ ⟨⟨hn,Ct⟩,?_,bA,?_,vW, .head _,?_⟩ (by walk_at "aw_subl")
    ·exact .tail _ (List.mem_append_right _ (.tail _ (.head _)))
    ·exact .tail _ (List.mem_append_right _ (.head _))
    ·refine⟨sQ.1,λi x hi=>?_⟩
     refine eX (sQ.2 i x hi) λa w e1 e2 e3=>?_
     exact⟨a,w,e1, .tail _ (List.mem_append_left _ e2),e3⟩
end
end
section
open PySem.SeqAt PySem.Builtin PySem.Builtin.Re PySem.Sre
theorem pairText_eq (p:Str×Str):p.1++Str.ofString "=\""++p.2++Str.ofString "\""=fG p:=by
 have e:Str.ofString "=\""=Str.ofString "="++Str.ofString "\"":=by decide+kernel
 unfold fG
 refine aa e ?_
 simp only [Str.append_assoc]
theorem word_last:∀d:Nat,d<4->Txt.item (word d) (-1)=Txt.item (Str.ofString "0123") d∧Builtin.Str.occurrences (Str.ofString "0123") (Txt.item (Str.ofString "0123") d) 0 (Str.ofString "0123").length 1=[d]∧(word d).length=9:=by decide+kernel
theorem word_strOk:∀d:Nat,d<4->PyData.strOk (word d)=true:=by decide+kernel
theorem lG.snoc (h:lG kvs ao)(hl:∀p∈ao,p.1<7)(hj:j<7)(hn:j∉ao.map (·.1))(c:Int)(t:Tok):lG (PySem.stored kvs (bM j) (.int c t)) (ao++[(j,c)]):=by
 have hk:bM j∉kvs.map (·.1):=by
  intro hm
  refine ah (List.mem_map.mp hm) λq hq e=>?_
  obtain ⟨i,hi,e2⟩:=List.mem_iff_getElem.mp hq
  have bR:i<ao.length:=by refine aa (Eq.symm h.1) ?_;exact hi
  refine xE (h.2 i (ao[i]).1 (ao[i]).2 (by exact aa (List.getElem?_eq_getElem bR) rfl)) λt' e3=>?_
  rw[List.getElem?_eq_getElem hi,e2] at e3
  have e4:=Option.some.inj e3
  rw[e4] at e
  have:=BD _ (hl _ (List.getElem_mem bR)) j hj e
  exact hn (List.mem_map.mpr ⟨_,List.getElem_mem bR,this⟩)
 refine aa (wL hk ..) ?_
 refine⟨by simp[h.1],λi p c' e=>?_⟩
 rcases Nat.lt_trichotomy i ao.length with hi|hi|hi
 ·rw[List.getElem?_append_left hi] at e
  refine xE (h.2 i p c' e) λt' e1=>?_
  exact⟨t',by refine aa (List.getElem?_append_left (by rw[h.1];exact hi)) ?_;exact e1⟩
 ·subst hi
  rw[List.getElem?_append_right (Nat.le_refl _),Nat.sub_self] at e
  cases e
  exact⟨t,by refine aa (List.getElem?_append_right (by rw[h.1];exact Nat.le_refl _) ..) (aa (h.1 ..) (aa (Nat.sub_self ..) ?_));rfl⟩
 ·rw[List.getElem?_eq_none (by refine aa List.length_append ?_;show ao.length+1≤i;assumption)] at e
  cases e
theorem YD:LE (p::(j++(x::(B++[c,q])))) (B++[c,p,q]):=by
 refine .trans (.sub ((List.Sublist.trans (List.sublist_cons_self _ _) (List.sublist_append_right _ _)).cons_cons p)) (.perm ?_)
 refine List.perm_middle.symm.trans (List.Perm.append_left _ (.swap _ _ _))
theorem YE:LE (a::p::b::(j++(x::(B++[c,q])))) ((a::b::(j++B))++[c,q,p]):=by
 refine .trans (.sub (((((List.sublist_cons_self _ _).append_left j).cons_cons b).cons_cons p).cons_cons a)) (.perm ?_)
 refine(List.Perm.cons a ((List.Perm.swap _ _ _).trans (List.Perm.cons b ?_)))
 show(p::(j++(B++[c,q]))).Perm ((j++B)++[c,q,p])
 refine aa (Eq.symm (List.append_assoc ..)) ?_
 refine List.perm_middle.symm.trans (List.Perm.append_left _ ?_)
 exact(List.Perm.swap _ _ _).trans (List.Perm.cons _ (.swap _ _ _))
section
variable {G:Gx}{bZ:Around}{base h₀:Heap}{L f yk gp yj gn:Addr}{bg:Value}{aW:eu}{sd:ju}{pd:jb}
set_option maxHeartbeats 8000000 in
theorem YB (T:aT G.K aW)(Pt:jd G.K pd)(AO:mG G.K 25 aW.lX yk gp)(AN:mG G.K 22 aW.l9 yj gn)(C:iA G bZ base [] h₀ L (eV L f bg cd ck))(r:bw (bZ.deeper (eV L f bg cd ck)) 6)
 (hs:h₀.IsList sc gS.toArray)(hx:b7 gS xs)(hz:xs.length≤63)
 (l4:L4 xs n H hl wl ll hv wv lv)(hm:SubL [(Str.ofString "script", .ref sc),(Str.ofString "hosts", .ref hl),(Str.ofString "worths", .ref wl),(Str.ofString "ladders", .ref ll)] m)
 (hQ:∀H ld kvs m,L4 xs n H hl wl ll hv wv lv->lG kvs (fj (cT xs) n (xs.take 63).sum)->SubL [(Str.ofString "hosts", .ref hl),(Str.ofString "worths", .ref wl),(Str.ofString "ladders", .ref ll),(Str.ofString "limits", .ref ld)] m->
  AW (model G.prog G.w) (bZ.deeper (eV L f bg cd ck)) h₀ L (execs ((aO 38).body.drop 9) (eV L f bg cd ck)) Q m ((ld,aK G.prog G.w ld kvs)::(H++[(ck,aE none),(gp,bT fY),(gn,bT fX)]))):
 AW (model G.prog G.w) (bZ.deeper (eV L f bg cd ck)) h₀ L (execs ((aO 38).body.drop 4) (eV L f bg cd ck)) Q m (H++[(ck,aE none),(gp,bT fY),(gn,bT fX)]):=by
 unfold eV at*
 refine xE (show∃sc,sc=(aO 38).scope from⟨_,rfl⟩) λLD dh=>?_
 (conv at dh in(aO _).scope=>whnf)
 rw[show(aO 38).scope=LD by refine aa dh ?_;rfl] at C r hQ ⊢
 subst dh
 have C1:=C.cx
 refine xE (show∃bd,bd=(aO 38).body from⟨_,rfl⟩) λbd iT=>?_
 (conv at iT in(aO _).body=>whnf)
 rw[show(aO 38).body=bd by refine aa iT ?_;rfl] at hQ ⊢
 subst iT
 change AW _ _ _ _ (execs [_,_,_,_,_,_,_,_,_] _) _ _ _
 have aP:(1000:Nat)≤sizeLine:=by decide
 have nq:(1000:Int)<2^63:=by decide
 have eg:n≤5:=by have:=l4.hn.1;exact KR this
 have aA:∀k<5,cT xs k<7:=λk _=>DM _
 refine xE (show∃t,t=(xs.take 63).sum from⟨_,rfl⟩) λgU Je=>?_
 rw[<-Je] at hQ
 refine bO hm ?_
 refine kP ?_
 walk_at "awo"
 ((with_reducible refine cI (by assumption) (FnAt.n (aT.qX (by assumption))) ?_;with_reducible refine eO (Cx.X (by assumption)) (aT.qX (by assumption)) ?_))
 walk_at "awo"
 refine uG ?_
 walk_at "awo"
 refine rQ ?_
 refine rR ?_
 walk_at "awo"
 refine⟨sc,gS,_,_,rfl, .inr hs,by refine aa hx.1 ?_;exact Nat.le_trans ‹_› (by decide), .none, .int _ _,λl1=>?_⟩
 have Cv:(slicePick gS.toArray none (some 63) none).toList=gS.take 63:=z6 gS 63
 refine aa Cv ?_
 walk_at "awo"
 refine Bf C1.hh (.inl (.head _)) (hx.take 63) λtt=>?_
 refine aa (Eq.symm Je) ?_
 walk_at "awo"
 have vU:∀ys∈((List.range n).map λk=>fF k (cT xs k)),ys.length≤4:=by
  intro ys hy
  refine ah (List.mem_map.mp hy) λk hk zr253=>?_;subst zr253
  have:=rX (cT xs k)
  unfold fF
  refine aa (List.length_cons ..) (aa (List.length_map ..) ?_);exact Nat.lt_succ_of_le ‹_›
 have qF:(eW ((List.range n).map λk=>fF k (cT xs k))).length≤8:=by
  refine aa (C9 aA n eg ..) (aa (List.length_map ..) ?_)
  have:=zM aA eg
  exact Nat.le_succ_of_le ‹_›
 refine RP T C1 (r.le (by exact Nat.succ_pos _)) (.tail _ (List.mem_append_left _ l4.lh)) ⟨l4.ls.1,λi ys hi=>?_⟩ (by refine aa (List.length_map ..) (aa (List.length_range ..) ?_);exact eg) vU qF λal ys jk bA=>?_
 ·refine eX (l4.ls.2 i ys hi) λa w e1 e2 e3=>?_
  exact⟨a,w,e1, .tail _ (List.mem_append_left _ e2),e3⟩
 rw[pairs_eq aA eg] at bA
 refine xE (show∃ps,ps=pairsOf (cT xs) n gU from⟨_,rfl⟩) λps qL=>?_
 have nG:=Lj aA eg gU
 have Cw:=pairs_oks aA eg gU
 have vG:ps.length≤8:=by refine aa qL (aa Lh ?_);have:=zM aA eg;exact(ln 0x84410a26001e6000401).1 this
 have I1:0<ps.length:=by refine aa qL (aa Lh ?_);exact YN aA (by have:=l4.hn.1;exact KS this)
 rw[<-qL] at bA nG Cw
 refine xE (show∃B,B=(al,af ys)::(jk++H) from⟨_,rfl⟩) λB hB=>?_
 have j9:∀q∈H,q∈B:=λq hq=>by refine aa hB ?_;exact .tail _ (List.mem_append_right _ hq)
 have Hq:(al,af ys)∈B:=by refine aa hB ?_;exact .head _
 have Hu:fQ B ys ps:=bA.mono λq hq=>by refine aa hB ?_;exact .tail _ (List.mem_append_left _ hq)
 refine cU (H':=B++[(ck,aE none),(gp,bT fY),(gn,bT fX)]) ?_ ?_
 ·refine aa hB ?_
  show LE ((al,af ys)::(jk++((l1,_)::(H++_)))) ((al,af ys)::((jk++H)++_))
  refine aa (List.append_assoc ..) ?_
  exact .sub ((List.Sublist.append_left (List.sublist_cons_self _ _) _).cons_cons _)
 clear hB bA
 walk_at "awo"
 ((with_reducible refine cI (by assumption) (FnAt.n (aT.lX (by assumption))) ?_;with_reducible refine eO (Cx.X (by assumption)) (aT.lX (by assumption)) ?_))
 walk_at "awo"
 refine dF ?_
 walk_at "awo"
 refine⟨by show(1:Nat)≤sizeLine;exact Nat.succ_pos _,λl2=>?_⟩
 walk_at "awo"
 refine bu (.tail (aZ.app (.tail .head) B)) ?_
 refine RD T Pt AO C1 (r.le (by exact(ln 0x44134c3300000).1)) (.head _) (.tail _ (List.mem_append_left _ Hq)) (Hu.mono λq hq=> .tail _ (List.mem_append_left _ hq)) Cw vG I1 λtx cV=>?_
 refine cU (H':=B++[(ck,aE none),(gp,bT fY),(gn,bT fX)]) ?_ ?_
 ·exact YD
 walk_at "awo"
 ((with_reducible refine cI (by assumption) (FnAt.n (aT.l9 (by assumption))) ?_;with_reducible refine eO (Cx.X (by assumption)) (aT.l9 (by assumption)) ?_))
 walk_at "awo"
 refine dF ?_
 walk_at "awo"
 refine⟨by show(1:Nat)≤sizeLine;exact @id ((1:Nat)≤sizeLine) (@Ko sizeLine aP),λl3=>?_⟩
 walk_at "awo"
 refine bu (.tail (aZ.app (.tail (.tail .head)) B)) ?_
 refine Th T Pt AN C1 (r.le (by exact Nat.le_add_left _ _)) (.head _) nG vG I1 (λi=>Wv (λp hp=>nG p (List.mem_of_mem_drop hp)) (by refine aa List.length_drop ?_;exact Nat.le_trans (Nat.sub_le _ _) ‹_›)) λrl pl tX k8 fW=>?_
 refine cU (H':=((rl,af [.ref pl])::(pl,af tX)::(k8++B))++[(ck,aE none),(gp,bT fY),(gn,bT fX)]) ?_ ?_
 ·exact YE
 refine xE (show∃B2,B2=(rl,af [.ref pl])::(pl,af tX)::(k8++B) from⟨_,rfl⟩) λB2 oS=>?_
 refine aa (Eq.symm oS) ?_
 have r7:∀q∈B,q∈B2:=λq hq=>by refine aa oS ?_;exact .tail _ (.tail _ (List.mem_append_right _ hq))
 have Hv:(rl,af [.ref pl])∈B2:=by refine aa oS ?_;exact .head _
 have BS:(pl,af tX)∈B2:=by refine aa oS ?_;exact .tail _ (.head _)
 have zv:fQ B2 tX ps:=fW.mono λq hq=>by refine aa oS ?_;exact .tail _ (.tail _ (List.mem_append_left _ hq))
 have BR:=r7 _ Hq
 have yF:=Hu.mono r7
 clear oS fW
 walk_at "awo"
 have Xx:∀(i:Nat) (p:Str×Str),ps[i]?=some p->p.1.length≤20∧p.2.length≤9:=λi p hi=>by
  have h:=nG p (List.mem_of_getElem? hi)
  refine j3 h λ_ d hd e=>?_;clear h
  exact⟨(nG p (List.mem_of_getElem? hi)).len,by refine aa e ?_;exact Nat.le_of_eq (Al d hd).2.2⟩
 have Dr:(Str.ofString "=\"").length=2:=by decide
 have ZM:(Str.ofString "\"").length=1:=by decide
 refine mS _ (by rfl) ?_
 walk_at "awo"
 refine gZ (.inl (List.mem_append_left _ BR)) λit=>?_
 refine⟨it,fu al,_,_,c7 h₀ al ys,_,rfl,rfl,gw C1.hh,λp H d=>d.more,λcC D=>⟨λi zs X=>X=B2++[(ck,aE none),(gp,bT fY),(gn,bT fX)]∧bU zs ((ps.take i).map fG),?_,⟨rfl,bU.nil⟩,?_,?_⟩⟩
 ·intro i zs X OH;refine xA OH λzr254 _=>?_;clear OH;subst zr254
  exact .inl (List.mem_append_left _ BR)
 ·intro i v mc zs X hi hv OI;refine xA OI λzr255 ku=>?_;clear OI;subst zr255
  have yT:i<ps.length:=by refine aa (Eq.symm yF.1) ?_;exact hi
  refine xE (show∃p,ps[i]?=some p from⟨_,List.getElem?_eq_getElem yT⟩) λp hp=>?_
  refine cE (yF.2 i p hp) λa t1 t2 e1 e2=>?_
  obtain rfl:v= .ref a:=Option.some.inj (hv.symm.trans e1)
  refine xA (Xx i p hp) λz1 z2=>?_
  refine oJ C1.hh (.tail _ (.tail _ (.tail _ (List.mem_append_left _ e2)))) ?_
  refine bQ ?_
  refine gq .head ?_
  refine bQ ?_
  refine gq .head ?_
  refine mW ?_
  refine jW ?_
  walk_at "awo"
  refine dj (.head _) (by with_unfolding_all rfl) ?_
  walk_at "awo"
  refine p6 (by exact @(ln 0x100421104210882058293000530885f40bf300c03).1 p.fst.length ((Str.ofString "=\"").length) sizeLine aP Dr z1) λ_=>?_
  refine dj (.head _) (by with_unfolding_all rfl) ?_
  refine p6 (by refine aa (Str.length_append ..) ?_;exact @(ln 0x10042108821084231040b5813310293000530887f40bf301004).1 p.fst.length ((Str.ofString "=\"").length) p.snd.length sizeLine aP Dr z1 z2) λ_=>?_
  walk_at "awo"
  refine p6 (by refine aa (Str.length_append ..) (aa (Str.length_append ..) ?_);exact @(ln 0x20080210844108421090620816b581331029300033188530889f40bf301405).1 p.fst.length ((Str.ofString "=\"").length) p.snd.length ((Str.ofString "\"").length) sizeLine aP Dr ZM z1 z2) λtz=>?_
  refine aa (pairText_eq ..) ?_
  refine⟨rfl,_,_,_,_,_, .tail .head, .head, .head,?_,rfl,?_⟩
  ·have:=ku.length
   rw[List.length_map,List.length_take] at this
   exact @(ln 0x840100401104210040108441084210800219164009131003f40bf301005).1 zs.length sizeLine ps.length i (Min.min i ps.length) aP vG this (Eq.refl (Min.min i ps.length))
  ·refine aa (List.take_add_one ..) (aa (hp ..) (aa (Option.toList_some ..) (aa (List.map_append ..) ?_)))
   exact ku.snoc _ _
 ·intro mc zs X OJ;refine xA OJ λzr256 ku=>?_;clear OJ;subst zr256
  refine⟨_,_,_,rfl,?_⟩
  walk_at "awo"
  rw[yF.1,List.take_length] at ku
  refine ah ku λqs zr257 e=>?_;clear ku;subst zr257
  refine x8 qs (.inl (.head _)) rfl (by refine aa e ?_;exact zI (B:=112) (Dz Cw) (by rw[List.length_map,show(Str.ofString "; ").length=2 by decide];exact KU vG)) λt9=>?_
  refine aa e (aa (show Txt.join (Str.ofString "; ") (ps.map fG)=headText ps from rfl) ?_)
  refine cU .drop ?_
  refine FF ?_
  refine aa (show(headText ps !=headText ps)=false by simp) ?_
  walk_at "awo"
  refine dF ?_
  walk_at "awo"
  refine⟨by show(1:Nat)≤sizeLine;lia,λl5=>?_⟩
  walk_at "awo"
  have XA:∀{X:Led},Rd (X++(B2++[(ck,aE none),(gp,bT fY),(gn,bT fX)])) (.ref rl) (.list [pK ps]):=λ{X}=>
   Rd.lst (List.mem_append_right _ (List.mem_append_left _ Hv)) (cH.cons ((zv.mono λq hq=>List.mem_append_right _ (List.mem_append_left _ hq)).rd (List.mem_append_right _ (List.mem_append_left _ BS))) cH.nil)
  have XC:Rd ((l5,af [.ref al])::(B2++[(ck,aE none),(gp,bT fY),(gn,bT fX)])) (.ref l5) (.list [pK ps]):=
   Rd.lst (.head _) (cH.cons ((yF.mono λq hq=> .tail _ (List.mem_append_left _ hq)).rd (.tail _ (List.mem_append_left _ BR))) cH.nil)
  have I5:shaped (.list [pK ps])=true:=pairs_shaped λp hp=>by
   refine j3 (nG p hp) λzr258 d hd e2=>?_;refine ah zr258 λj hj e1=>?_
   refine aa e1 (aa e2 ?_)
   exact⟨UT j hj,word_strOk d hd⟩
  refine A9 (XA (X:=[_])) XC I5 I5 (by have:=r.units;exact Dg this) pairs_mix ?_
  refine aa (Spec.same_self ..) ?_
  walk_at "awo"
  refine cU .drop ?_
  refine SJ C1 _ (by rfl) (by rfl) ?_
  walk_at "awo"
  refine cM (List.mem_append_left _ Hv) (by exact Int.natCast_nonneg _) (by exact Int.natCast_nonneg _) (by rfl) ?_
  walk_at "awo"
  refine gZ (.inl (List.mem_append_left _ BS)) λpC=>?_
  refine⟨pC,fu pl,_,_,c7 h₀ pl tX,_,rfl,rfl,gw C1.hh,λp H d=>d.more,λcC2 D2=>⟨λi kvs X=>X=B2++[(ck,aE none),(gp,bT fY),(gn,bT fX)]∧lG kvs ((fj (cT xs) n gU).take i),?_,⟨rfl,rfl,λi j c h=>nomatch h⟩,?_,?_⟩⟩
  ·intro i kvs X OL;refine xA OL λzr259 _=>?_;clear OL;subst zr259
   exact .inl (List.mem_append_left _ BS)
  ·intro i v ic kvs X hi hv OM;refine xA OM λzr260 aM=>?_;clear OM;subst zr260
   have yT:i<ps.length:=by refine aa (Eq.symm zv.1) ?_;exact hi
   refine xE (show∃p,ps[i]?=some p from⟨_,List.getElem?_eq_getElem yT⟩) λp hp=>?_
   refine cE (zv.2 i p hp) λa t1 t2 e1 e2=>?_
   obtain rfl:v= .ref a:=Option.some.inj (hv.symm.trans e1)
   have fh:=hp
   rw[qL] at fh
   unfold pairsOf at fh
   rw[List.getElem?_map] at fh
   refine ah (Option.map_eq_some_iff.mp fh) λlc yY zr261=>?_;subst zr261
   have IG:=wg (List.mem_of_getElem? yY)
   refine xE (show∃d:Nat,lc.2=d from⟨lc.2.toNat,by exact @(ln 0x100422004010044100020004400002008821081e02800c24c040026338821).1 lc.snd.toNat lc.snd IG.2 (Eq.refl lc.snd.toNat)⟩) λd hd=>?_
   have Wh:d<4:=by exact(ln 0x1004011042124c0103c0524c040026338821).1 IG.2 hd
   refine cP (word_last d Wh) λw1 w2 w3=>?_
   refine oJ C1.hh (.tail _ (.tail _ (.tail _ (List.mem_append_left _ e2)))) ?_
   refine bQ ?_
   refine gq .head ?_
   refine bQ ?_
   refine gq .head ?_
   refine dj (.head _) (by with_unfolding_all rfl) ?_
   walk_at "awo"
   refine dj (.head _) (by with_unfolding_all rfl) ?_
   walk_at "awo"
   refine aa (show word lc.snd=word (d:Int) by rw[hd]) ?_
   refine p9 (by decide) (by refine aa w3 ?_;decide) (by refine aa w3 ?_;decide) w1 λ_=>?_
   walk_at "awo"
   refine Rv w2 λt9=>?_
   refine⟨rfl,_,_,_,_,_,_,_,rfl, .tail .head, .head, .head,?_,rfl,?_⟩
   ·have:=aM.1
    rw[List.length_take] at this
    have hl:=zM aA eg
    rw[<-Dc (total:=gU)] at hl
    exact(ln 0x84010042110421004010044108421fa05f9800311164008220a26101005).1 vG yT this (Eq.refl (Min.min i (fj (cT xs) n gU).length))
   ·refine aa (List.take_add_one ..) (aa (yY ..) (aa (Option.toList_some ..) (aa (show lc=(lc.1,(d:Int)) from Prod.ext rfl hd ..) ?_)))
    refine aM.snoc (λp hp=>Dd aA eg gU p (List.mem_of_mem_take hp)) (Dd aA eg gU _ (List.mem_of_getElem? yY)) ?_ _ _
    have cN:((fj (cT xs) n gU).map (·.1)).Nodup:=by refine aa zO ?_;exact zN aA n eg
    intro hm
    refine ah (List.mem_map.mp hm) λq hq e=>?_
    obtain ⟨j,hj,e3⟩:=List.mem_iff_getElem.mp hq
    rw[List.length_take] at hj
    rw[List.getElem_take] at e3
    refine xE (List.getElem?_eq_some_iff.mp yY) λqu e4=>?_
    have h1:((fj (cT xs) n gU).map (·.1))[j]'(by refine aa (List.length_map ..) ?_;exact KV hj (Eq.refl (Min.min i (fj (cT xs) n gU).length)))=((fj (cT xs) n gU).map (·.1))[i]'(by refine aa (List.length_map ..) ?_;exact qu):=by
     rw[List.getElem_map,List.getElem_map,e3,e4];exact e
    have:=(List.getElem_inj cN).mp h1
    exact Dl hj this (Eq.refl (Min.min i (fj (cT xs) n gU).length))
  ·intro ic kvs X ON;refine xA ON λzr262 aM=>?_;clear ON;subst zr262
   refine⟨_,_,_,rfl,?_⟩
   refine jg ⟨rfl,?_⟩
   have hlen:tX.length=(fj (cT xs) n gU).length:=by refine aa zv.1 (aa qL ?_);unfold pairsOf;exact aa (List.length_map ..) rfl
   rw[hlen,List.take_length] at aM
   refine hQ B2 D2 kvs _ ⟨l4.hn,r7 _ (j9 _ l4.hh),l4.hs,r7 _ (j9 _ l4.wh),l4.ws,r7 _ (j9 _ l4.lh),l4.ls.1,λi x hi=>?_⟩ aM (by walk_at "aw_subl")
   refine eX (l4.ls.2 i x hi) λa w e1 e2 e3=>?_
   exact⟨a,w,e1,r7 _ (j9 _ e2),e3⟩
end
end
section
open PySem.SeqAt PySem.Builtin PySem.Builtin.Re PySem.Sre
section
variable {G:Gx}{bZ:Around}{base h₀:Heap}{L f yk gp yj gn:Addr}{bg:Value}{aW:eu}{sd:ju}{pd:jb}
theorem Q8 {M:Model}{A:Around}{m:Loc}{H H':Led}{prog:Program}{w:World}{d:Addr}{kvs:List (Str×Value)}{tr:Sem α}{Q:α->Loc->Led->Prop}(p:aZ d (aK prog w d kvs) H H')(h:∀ep,AW M A h₀ L tr Q m ((d,dM prog w d kvs ep)::H')):AW M A h₀ L tr Q m H:=by
 refine bu p ?_
 intro s R E St k
 refine j4 (St.nw _ (.head _)) λo e pp n1 n2=>?_
 refine xE pp.ep λep hd=>?_
 refine h ep s R E ⟨St.fr,λq hq=>?_,St.nd⟩ k
 rcases List.mem_cons.mp hq with rfl|hq
 ·exact⟨o,e,hd,n1,n2⟩
 ·exact St.nw q (.tail _ hq)
set_option maxHeartbeats 8000000 in
theorem YC (T:aT G.K aW)(Pt:jd G.K pd)(SK:oA G.K sd)(C:iA G bZ base [] h₀ L (eV L f bg cd ck))(r:bw (bZ.deeper (eV L f bg cd ck)) 6)
 {hl wl ll ld:Addr}{hv wv lv:List Value}{kvs:List (Str×Value)}{m:Loc}(l4:L4 xs n H hl wl ll hv wv lv)(fD:lG kvs (fj (cT xs) n gU))(hm:SubL [(Str.ofString "hosts", .ref hl),(Str.ofString "worths", .ref wl),(Str.ofString "ladders", .ref ll),(Str.ofString "limits", .ref ld)] m):
 AW (model G.prog G.w) (bZ.deeper (eV L f bg cd ck)) h₀ L (execs ((aO 38).body.drop 9) (eV L f bg cd ck)) (λfl _ H=>fl= .ret (.bool true)∧(gp,bT fY)∈H∧(gn,bT fX)∈H) m ((ld,aK G.prog G.w ld kvs)::(H++[(ck,aE none),(gp,bT fY),(gn,bT fX)])):=by
 unfold eV at*
 refine xE (show∃sc,sc=(aO 38).scope from⟨_,rfl⟩) λLD dh=>?_
 (conv at dh in(aO _).scope=>whnf)
 rw[show(aO 38).scope=LD by refine aa dh ?_;rfl] at C r ⊢
 subst dh
 have C1:=C.cx
 refine xE (show∃bd,bd=(aO 38).body from⟨_,rfl⟩) λbd iT=>?_
 (conv at iT in(aO _).body=>whnf)
 refine aa (show(aO 38).body=bd by rw[iT];rfl) ?_
 subst iT
 change AW _ _ _ _ (execs [_,_,_,_] _) _ _ _
 have aP:(1000:Nat)≤sizeLine:=by decide
 have nq:(1000:Int)<2^63:=by decide
 have hn:=l4.hn.1
 have eg:n≤5:=by exact KR hn
 have aA:∀k<5,cT xs k<7:=λk _=>DM _
 have sC:∀i j,i<n->j<n->fm xs i=fm xs j->i=j:=λi j hi hj h=>wt_inj xs (by exact Nat.lt_of_lt_of_le ‹_› ‹_›) (by exact ln2 eg hj) h
 have o8:(fj (cT xs) n gU).length≤8:=by refine aa Dc ?_;have:=zM aA eg;exact Nat.le_succ_of_le ‹_›
 have lP:=Dd aA eg gU
 have hL:=YU aA eg gU
 refine cQ (Wx hn (fm xs) sC) λord eU Wl kY=>?_
 have zg:ord.length=n:=by exact aa eU.length_eq (aa List.length_range rfl)
 have Cu:=ord_pair zg Wl
 have yP:=Hl (wt:=fm xs) hL (λk hk=>List.mem_range.mp (eU.mem_iff.mp hk)) Cu
 have HS:=UZ hn hL (λk hk=>aA k (by lia)) eU Cu yP
 generalize fC:fB (cT xs) (fj (cT xs) n gU) ord=ks at yP HS
 have Xa:∀k∈ks,k<n:=λk hk=>List.mem_range.mp (eU.mem_iff.mp (yP.sl.subset hk))
 have qB:ks.length≤n:=by have:=yP.sl.length_le;rw[zg] at this;exact this
 refine Q8 .head λep=>?_
 refine bO hm ?_
 refine kP ?_
 walk_at "awo"
 ((with_reducible refine cI (by assumption) (FnAt.n (aT.ql (by assumption))) ?_;with_reducible refine eO (Cx.X (by assumption)) (aT.ql (by assumption)) ?_))
 walk_at "awo"
 refine Rl (n:=n) (sh:=cT xs) (wt:=fm xs) T Pt C1 (r.le (by exact Nat.le_add_left _ _)) (.tail _ (List.mem_append_left _ l4.hh)) l4.hs (.tail _ (List.mem_append_left _ l4.wh)) l4.ws (.head _) fD o8 lP eg (λk hk=>aA k (by lia)) (λk hk=>wt_nonneg xs k) sC eU kY λkl kv jk aM=>?_
 rw[fC] at aM
 refine qc (c:=ck) rfl (.tail (aZ.app (.tail (aZ.app .head H)) jk)) ?_
 refine xE (show∃B,B=jk++((ld,dM G.prog G.w ld kvs ep)::(H++[(gp,bT fY),(gn,bT fX)])) from⟨_,rfl⟩) λB hB=>?_
 have Hs:∀q∈jk,q∈B:=λq hq=>by refine aa hB ?_;exact List.mem_append_left _ hq
 have j9:∀q∈H,q∈B:=λq hq=>by refine aa hB ?_;exact List.mem_append_right _ (.tail _ (List.mem_append_left _ hq))
 have Hr:(ld,dM G.prog G.w ld kvs ep)∈B:=by refine aa hB ?_;exact List.mem_append_right _ (.head _)
 have VP:(gp,bT fY)∈B:=by refine aa hB ?_;exact List.mem_append_right _ (.tail _ (List.mem_append_right _ (.head _)))
 have oS:(gn,bT fX)∈B:=by refine aa hB ?_;exact List.mem_append_right _ (.tail _ (List.mem_append_right _ (.tail _ (.head _))))
 show AW _ _ _ _ _ _ _ ((ck,aE (some (.ref kl)))::(kl,af kv)::(jk++((ld,dM G.prog G.w ld kvs ep)::(H++[(gp,bT fY),(gn,bT fX)]))))
 refine aa (Eq.symm hB) ?_
 clear hB
 refine jf ?_
 walk_at "awo"
 refine g6 (c:=ck) rfl (.head _) ?_
 walk_at "awo"
 ((with_reducible refine cI (by assumption) (FnAt.n (aT.pQ (by assumption))) ?_;with_reducible refine eO (Cx.X (by assumption)) (aT.pQ (by assumption)) ?_))
 walk_at "awo"
 refine Sp (TZ (n:=n) (sh:=cT xs) (wt:=fm xs) T SK C r (.tail _ (.tail _ (j9 _ l4.hh))) l4.hs (.tail _ (.tail _ (j9 _ l4.wh))) l4.ws (.tail _ (.tail _ (j9 _ l4.lh))) ⟨l4.ls.1,λi ys hi=>?_⟩ (.tail _ (.tail _ Hr)) fD eg (by exact KS hn) aA lP hL (Uk aA eg gU) sC eU Cu λg tl tv br Jf=>?_)
 ·refine eX (l4.ls.2 i ys hi) λa w e1 e2 e3=>?_
  exact⟨a,w,e1, .tail _ (.tail _ (j9 _ e2)),e3⟩
 rw[fC] at Jf
 have nH:shaped (pD (fm xs) (cT xs) ks)=true:=Yq (λk hk=>by have:=Xa k hk;exact Nat.lt_of_lt_of_le ‹_› ‹_›) aA
 refine A9 (da:=pD (fm xs) (cT xs) ks) (db:=pD (fm xs) (cT xs) ks) ?_ ?_ nH nH (by have:=r.units;exact Dg this) Yp ?_
 ·exact(aM.mono λq hq=> .tail _ (List.mem_append_right _ (.tail _ (.tail _ (Hs q hq))))).rd (.tail _ (List.mem_append_right _ (.tail _ (.head _))))
 ·exact(Jf.mono λq hq=> .tail _ (List.mem_append_left _ hq)).rd (.head _)
 refine aa (Spec.same_self ..) ?_
 walk_at "awo"
 refine cU (H':=(ck,aE (some (.ref kl)))::(kl,af kv)::B) (.sub ((List.sublist_append_right _ _).cons _)) ?_
 have jD:=aM.1
 refine qa _ (by rfl) (by rfl) ?_
 walk_at "awa"
 refine g6 (c:=ck) rfl (.head _) ?_
 walk_at "awa"
 refine fL (.tail _ (.head _)) (by exact J8 eg qB jD) λtl1=>?_
 walk_at "awa"
 refine mU λrr=>?_
 refine aa jD (aa (show((ks.length:Nat):Int)+1=((ks.length+1:Nat):Int) by rfl) ?_)
 refine mR (n:=ks.length+1) (.head _) (pN (by exact(ln 0x42110421fa05f98660580200166100802).1 eg qB)) nT λit=>?_
 refine⟨it,iL 0 1 (ks.length+1),_,_,_,_,rfl,rfl,lW C1.hh,λp H d=>d,λcC D=>⟨λi ys X=>∃jk,X=jk++((rr,eB 0 (ks.length+1:Nat) 1)::(ck,aE (some (.ref kl)))::(kl,af kv)::B)∧b7 ys ((List.range i).map λs=>((ks.take s).map (fm xs)).sum),λ_ _ _ _=>trivial,⟨[],rfl,b7.nil⟩,?_,?_⟩⟩
 ·intro i v mc ys X hi OP OQ;refine xE OP λtv zr263=>?_;clear OP;subst zr263;refine ah OQ λcV zr264 bA=>?_;clear OQ;subst zr264
  refine aa (show(0:Int)+1*(i:Int)=i by simp+arith) ?_
  refine bQ ?_
  refine gq .head ?_
  refine mW ?_
  refine jW ?_
  with_reducible refine oB ?_
  refine E4 C1 (aT.Bm T) Gy ?_
  walk_at "awa"
  refine mS _ (by rfl) ?_
  refine uG ?_
  refine gY (c:=ck) (by with_unfolding_all rfl) (.tail _ (.tail _ (.tail _ (List.mem_append_right _ (.tail _ (.head _)))))) ?_
  refine rQ ?_
  refine rR ?_
  refine dj (.head _) (by with_unfolding_all rfl) ?_
  refine⟨kl,kv,_,_,rfl, .inl (.tail _ (.tail _ (.tail _ (List.mem_append_right _ (.tail _ (.tail _ (.head _))))))),by exact @(ln 0x42100422084210840018042180b31003f40bf301004).1 kv.length sizeLine n ks.length aP eg qB jD, .none, .int _ _,λs1=>?_⟩
  refine aa (z6 ..) ?_
  refine gZ (.inl (.head _)) λpC=>?_
  refine xE (show∃b,b=(s1,af (kv.take i))::(cC,bP ((Str.ofString "number", .int i tv)::mc))::(it,iL 0 1 (ks.length+1) (i+1))::(D,af ys)::(cV++((rr,eB 0 (ks.length+1:Nat) 1)::(ck,aE (some (.ref kl)))::(kl,af kv)::B)) from⟨_,rfl⟩) λGw iS=>?_
  have V8:∀q∈B,q∈Gw:=λq hq=>by refine aa iS ?_;exact .tail _ (.tail _ (.tail _ (.tail _ (List.mem_append_right _ (.tail _ (.tail _ (.tail _ hq)))))))
  have ny:(s1,af (kv.take i))∈Gw:=by refine aa iS ?_;exact .head _
  refine⟨pC,fu s1,_,_,c7 h₀ s1 (kv.take i),_,rfl,rfl,gw C1.hh,λp H d=>d.more,λcC2 D2=>⟨λj zs X=>X=Gw∧b7 zs (((ks.take i).take j).map (fm xs)),?_,⟨iS.symm,b7.nil⟩,?_,?_⟩⟩
  ·intro j zs X OR;refine xA OR λzr265 _=>?_;clear OR;subst zr265
   exact .inl ny
  ·intro j v ic zs X hj sN OS;refine xA OS λzr266 ku=>?_;clear OS;subst zr266
   have sD:j<(ks.take i).length:=by rw[List.length_take] at hj ⊢;exact(ln 0x84010040008820004010840008821004200842000441000200802000441084211802208d64095650044411006).1 jD hj (Eq.refl (Min.min i kv.length)) (Eq.refl (Min.min i ks.length))
   refine xE (show∃k,(ks.take i)[j]?=some k from⟨_,List.getElem?_eq_getElem sD⟩) λk hk=>?_
   have Iv:j<i:=by rw[List.length_take] at sD;exact(ln 0x100421104200802208421004411ac6008804).1 sD (Eq.refl (Min.min i ks.length))
   have vt:ks[j]?=some k:=by rw[List.getElem?_take,if_pos Iv] at hk;exact hk
   refine cE (aM.2 j k vt) λa t1 t2 e1 e2=>?_
   rw[List.getElem?_take,if_pos Iv] at sN
   obtain rfl:v= .ref a:=Option.some.inj (sN.symm.trans e1)
   refine oJ C1.hh (.tail _ (.tail _ (.tail _ (V8 _ (Hs _ e2))))) ?_
   refine bQ ?_
   refine gq .head ?_
   refine bQ ?_
   refine gq .head ?_
   refine mW ?_
   refine jW ?_
   refine dj (.head _) (by with_unfolding_all rfl) ?_
   refine⟨rfl,_,_,_,_,_, .tail .head, .head, .head,?_,rfl,?_⟩
   ·have:=ku.1
    rw[List.length_map,List.length_take,List.length_take] at this
    exact(ln 0x80210040100020088210042008020004211042100420080210040110420084010042008422084210840108020080010044108021004010002108821080210040108020088210042008021004211042108421080032996621d670084301662112621203f40bf301808).1 aP hn qB this (Eq.refl (Min.min j (Min.min i ks.length))) (Eq.refl (Min.min i ks.length))
   ·refine aa (List.take_add_one ..) (aa (hk ..) (aa (Option.toList_some ..) (aa (List.map_append ..) ?_)))
    exact ku.snoc _ _
  ·intro ic zs X OT;refine xA OT λzr267 ku=>?_;clear OT;subst zr267
   refine⟨_,_,_,rfl,?_⟩
   walk_at "awa"
   have iY:(kv.take i).length=(ks.take i).length:=by exact aa List.length_take (aa List.length_take (aa jD rfl))
   rw[iY,List.take_length] at ku
   refine Bf C1.hh (.inl (.head _)) ku λts=>?_
   refine aa iS ?_
   refine⟨rfl,_,_,_,_,_, .tail (.tail (.tail .head)), .tail (.tail .head), .tail (.tail .head),?_,(D2,af zs)::(s1,af (kv.take i))::cV,rfl,?_⟩
   ·have:=bA.1
    rw[List.length_map,List.length_range] at this
    exact @(ln 0x421080211042108421000801066359022180b31003f40bf301405).1 ys.length sizeLine n ks.length i aP eg qB hi this
   ·refine aa List.range_succ (aa List.map_append ?_)
    exact bA.snoc _ _
 ·intro mc ys X OU;refine ah OU λcV zr268 bA=>?_;clear OU;subst zr268
  refine⟨_,_,_,rfl,?_⟩
  refine jg ⟨rfl,?_⟩
  refine cU (H':=(D,af ys)::(ck,aE (some (.ref kl)))::(kl,af kv)::B) (.sub (((List.sublist_cons_self _ _).trans (List.sublist_append_right _ _)).cons_cons _)) ?_
  walk_at "awo"
  have iV:hv.length=n:=by exact aa l4.hs.length (aa qH rfl)
  refine dF ?_
  walk_at "awo"
  refine⟨by show(1:Nat)≤sizeLine;exact Nat.succ_pos _,λl1=>?_⟩
  walk_at "awo"
  refine fL (.tail _ (.tail _ (.tail _ (.tail _ (j9 _ l4.hh))))) (by exact zQ eg iV) λtQ=>?_
  walk_at "awo"
  refine g6 (c:=ck) rfl (.tail _ (.tail _ (.head _))) ?_
  walk_at "awo"
  refine fL (.tail _ (.tail _ (.tail _ (.head _)))) (by lia) λtl3=>?_
  refine F3 λjI=>?_
  refine aa iV (aa jD (aa (show((n:Nat):Int)-((ks.length:Nat):Int)=((n-ks.length:Nat):Int) by exact(ln 0x10042208020088200800110001004410844f0bc0f614201280100803).1 qB (Eq.refl (n-ks.length))) ?_))
  refine Fy (.head _) (by exact(ln 0x80220840100441087e817e62004025166000803).1 eg (Eq.refl (n-ks.length))) λl2=>?_
  have gO:=bA.1
  rw[List.length_map,List.length_range] at gO
  refine uA (.inl (.tail _ (.tail _ (.head _)))) (.inl (.head _)) (by refine aa List.length_replicate ?_;exact @(ln 0x42100401004410840008020088210842120c0b008235066258041100b30809f40bf301405).1 ys.length n ks.length (n-ks.length) sizeLine aP eg qB gO (Eq.refl (n-ks.length))) λl3=>?_
  walk_at "awo"
  ((with_reducible refine cI (by assumption) (FnAt.n (aT.best (by assumption))) ?_;with_reducible refine eO (Cx.X (by assumption)) (aT.best (by assumption)) ?_))
  walk_at "awo"
  refine QK (n:=n) (sh:=cT xs) (wt:=fm xs) T C1 (r.le (by exact Nat.le_add_left _ _)) (.tail _ (.tail _ (.tail _ (.tail _ (.tail _ (.tail _ (j9 _ l4.hh))))))) l4.hs (.tail _ (.tail _ (.tail _ (.tail _ (.tail _ (.tail _ (j9 _ l4.wh))))))) l4.ws (.tail _ (.tail _ (.tail _ (.tail _ (.tail _ (.tail _ Hr)))))) fD o8 lP eg (λk hk=>aA k (by lia)) λbl bv k8 HW=>?_
  rw[HS] at HW
  have Wo:gh (ys++List.replicate (n-ks.length) .none) (oO (fm xs) n ks):=by
   have:=(gh.ints bA).app (gh.nones (n-ks.length))
   rw[List.map_map] at this
   exact this
  refine Ra (Wo.rd (.tail _ (List.mem_append_right _ (.head _)))) (HW.rd (.head _)) Ld Ld (by have:=r.units;lia) opts_mix ?_
  refine aa (Spec.same_self ..) ?_
  exact⟨rfl, .tail _ (List.mem_append_right _ (.tail _ (.tail _ (.tail _ (.tail _ (.tail _ (.tail _ VP))))))), .tail _ (List.mem_append_right _ (.tail _ (.tail _ (.tail _ (.tail _ (.tail _ (.tail _ oS)))))))⟩
theorem RL (T:aT G.K aW)(Pt:jd G.K pd)(SK:oA G.K sd)(AO:mG G.K 25 aW.lX yk gp)(AN:mG G.K 22 aW.l9 yj gn)(C:iA G bZ base [] h₀ L (eV L f bg cd ck))(r:bw (bZ.deeper (eV L f bg cd ck)) 6)
 (hs:h₀.IsList sc gS.toArray)(hx:b7 gS xs)(hz:xs.length≤63):
 AW (model G.prog G.w) (bZ.deeper (eV L f bg cd ck)) h₀ L (execs (aO 38).body (eV L f bg cd ck)) (λfl _ H=>fl= .ret (.bool true)∧(gp,bT fY)∈H∧(gn,bT fX)∈H) [(Str.ofString "script", .ref sc)]
  [(ck,aE none),(cd,aE none),(gp,bT fY),(gn,bT fX)]:=
 YA T Pt C r hs hx hz λn H hl wl ll hv wv lv m l4 hm=>YB T Pt AO AN C r hs hx hz l4 hm λH ld kvs m l4 fD hm=>YC T Pt SK C r l4 fD hm
end
end
section
open PySem.Builtin PySem.Builtin.Re PySem.Sre
section
variable {K:Frag}
theorem nP (h:facts K=dm)(i:Nat)(ha:(facts K)[i]?=some a)(hb:dm[i]?=some b):a=b:=by
 rw[h,hb] at ha;exact(Option.some.inj ha).symm
theorem bl (h:facts K=dm)(i:Nat)(ha:(facts K)[i]?=some (.v a))(hb:dm[i]?=some (.v b)):a=b:=Ob.v.inj (nP h i ha hb)
theorem dZ (h:facts K=dm)(i:Nat)(ha:(facts K)[i]?=some (.b a))(hb:dm[i]?=some (.b b)):a=b:=Ob.b.inj (nP h i ha hb)
theorem Dv (h:facts K=dm)(i:Nat)(ha:(facts K)[i]?=some (.ob a))(hb:dm[i]?=some (.ob b)):a=b:=Ob.ob.inj (nP h i ha hb)
theorem wz (h:facts K=dm)(i:Nat)(ha:(facts K)[i]?=some (.n a))(hb:dm[i]?=some (.n b)):a=b:=Ob.n.inj (nP h i ha hb)
theorem DX (h:facts K=dm)(i:Nat)(ha:(facts K)[i]?=some (.t a))(hb:dm[i]?=some (.t b)):a=b:=Ob.t.inj (nP h i ha hb)
theorem GA (h:facts K=dm)(i:Nat)(ha:(facts K)[i]?=some (.cd a))(hb:dm[i]?=some (.cd b)):a=b:=Ob.cd.inj (nP h i ha hb)
theorem dw (h:facts K=dm)(i:Nat)(ha:(facts K)[i]?=some (.fn a))(hb:dm[i]?=some (.fn b)):a=b:=Ob.fn.inj (nP h i ha hb)
theorem q8 (h:facts K=dm)(i:Nat)(ha:(facts K)[i]?=some (.pat a))(hb:dm[i]?=some (.pat b)):a=b:=Ob.pat.inj (nP h i ha hb)
theorem US (h:facts K=dm)(i:Nat)(ha:(facts K)[i]?=some (.bd a))(hb:dm[i]?=some (.bd b)):a=b:=Ob.bd.inj (nP h i ha hb)
theorem BB (h:cY K f=some (name,qual,params, .stmts body,scope,mainGlobals,[], .none,builtinsNs,true,true)):∃bg,lE K f name qual params body scope bg∧uL K f=some bg:=by
 unfold cY at h
 split at h
 ·rename_i oc od d jX e
  simp only [Option.some.injEq,Prod.mk.injEq] at h
  refine Mn h λh1 h2 h3 h4 h5 h6 h7 h8 h9 uX Hp=>?_;clear h
  have hd:d=fnOf name qual params body scope .none d.kwdefaults d.doc d.pyModule d.annotations d.code d.closureTuple:=by
   cases d;simp only at*;subst h1 h2 h3 h4 h5 h6 h7 h8 h9;rfl
  refine⟨d.code,⟨⟨oc,od,jX,d.kwdefaults,d.doc,d.pyModule,d.annotations,d.closureTuple,by exact aa e (aa (Eq.symm hd) rfl)⟩,h2▸uX,Hp⟩,?_⟩
  unfold uL;exact aa e rfl
 ·cases h
theorem gI (h:cY K f=fT i)(hn:nsIn K mainGlobals nm=some (some (.ref f))):FnAt K i nm f:=⟨(BB h).imp λ_ x=>x.1,hn⟩
theorem pH (h:cY K f=l6 i j q):kM K i j q f:=(BB h).imp λ_ x=>x.1
theorem JL (h:cY K f=fT i)(hc:uL K f=some (.ref c))(hd:codeHdIn K c Q=true):mG K i f c Q:=by
 refine ah (BB h) λbg d e=>?_
 rw[hc] at e
 obtain rfl:=Option.some.inj e
 exact⟨d,hd⟩
theorem q7 {code:Array Nat}{g:Nat}(hn:nsIn K mainGlobals nm=some (some (.ref p)))(h:nR K p=some (g,0,code)):eG K nm p code g:=by
 unfold nR at h
 split at h
 ·rename_i fs sl e
  split at h
  ·rename_i t e2
   split at h
   ·rename_i od items n kG e3
    simp only [Option.some.injEq,Prod.mk.injEq] at h
    exact⟨hn,fs,sl,t,items,n,od,kG,e,h.1,e2,h.2.1,e3,h.2.2⟩
   ·cases h
  ·cases h
 ·cases h
theorem int_at (h:zD K x=some (i+1)):∃t,nsIn K mainGlobals x=some (some (.int (.negSucc i) t)):=by
 unfold zD at h
 split at h
 ·rename_i j t e
  have:j=i:=by simpa using h
  subst this
  exact⟨t,e⟩
 ·cases h
theorem ts_at {binds:Addr->List (Str×Value)}(h:BL K f=some (name,qual,params, .stmts body,scope,mainGlobals,[], .none,builtinsNs,true,true))(hb:Bo K f=λx S=>some (binds x)):
 ∃bg,∀x,AK K f name qual params body scope bg [.ref x] (binds x):=by
 unfold BL at h
 split at h
 ·rename_i oc od d jX e
  simp only [Option.some.injEq,Prod.mk.injEq] at h
  refine Mn h λh1 h2 h3 h4 h5 h6 h7 h8 h9 uX Hp=>?_;clear h
  have hd:d=fnOf name qual params body scope d.defaults d.kwdefaults d.doc d.pyModule d.annotations d.code d.closureTuple:=by
   cases d;simp only at*;subst h1 h2 h3 h4 h5 h6 h7 h9;rfl
  refine⟨d.code,λx=>⟨⟨oc,od,jX,d.defaults,d.kwdefaults,d.doc,d.pyModule,d.annotations,d.closureTuple,by exact aa e (aa (Eq.symm hd) rfl),λS=>?_⟩,h2▸uX⟩⟩
  have:=congrFun (congrFun hb x) S
  unfold Bo at this
  rw[e] at this
  refine aa (Eq.symm hd) ?_
  exact this
 ·cases h
noncomputable def aW:eu:=⟨45,52,59,66,73,80,212,239,256,268,275,282,289,296,303,308,313,320,325⟩
noncomputable def pads:jb:=⟨261,217,222,227,232,244,249,205⟩
noncomputable def sads:ju:=⟨99,196,95,132,139,146,151,158,165,179,186⟩
theorem top_ok (h:facts K=dm):aT K aW where
 Bk:=bl h 0 rfl rfl
 Gl:=bl h 1 rfl rfl
 Gm:=bl h 2 rfl rfl
 Gh:=bl h 3 rfl rfl
 Gs:=bl h 4 rfl rfl
 Bm:=bl h 5 rfl rfl
 Gj:=bl h 6 rfl rfl
 Gp:=bl h 7 rfl rfl
 Gv:=bl h 8 rfl rfl
 Gn:=bl h 9 rfl rfl
 Gi:=bl h 10 rfl rfl
 Gf:=bl h 11 rfl rfl
 Gq:=bl h 12 rfl rfl
 qM:=gI (dw h 13 rfl rfl) (bl h 14 rfl rfl)
 kY:=gI (dw h 15 rfl rfl) (bl h 16 rfl rfl)
 gv:=gI (dw h 17 rfl rfl) (bl h 18 rfl rfl)
 qx:=gI (dw h 19 rfl rfl) (bl h 20 rfl rfl)
 sd:=gI (dw h 21 rfl rfl) (bl h 22 rfl rfl)
 su:=gI (dw h 23 rfl rfl) (bl h 24 rfl rfl)
 n5:=gI (dw h 25 rfl rfl) (bl h 26 rfl rfl)
 l9:=gI (dw h 27 rfl rfl) (bl h 28 rfl rfl)
 lX:=gI (dw h 29 rfl rfl) (bl h 30 rfl rfl)
 qo:=gI (dw h 31 rfl rfl) (bl h 32 rfl rfl)
 nM:=gI (dw h 33 rfl rfl) (bl h 34 rfl rfl)
 rA:=gI (dw h 35 rfl rfl) (bl h 36 rfl rfl)
 reach:=gI (dw h 37 rfl rfl) (bl h 38 rfl rfl)
 host:=gI (dw h 39 rfl rfl) (bl h 40 rfl rfl)
 qV:=gI (dw h 41 rfl rfl) (bl h 42 rfl rfl)
 qX:=gI (dw h 43 rfl rfl) (bl h 44 rfl rfl)
 ql:=gI (dw h 45 rfl rfl) (bl h 46 rfl rfl)
 pQ:=gI (dw h 47 rfl rfl) (bl h 48 rfl rfl)
 best:=gI (dw h 49 rfl rfl) (bl h 50 rfl rfl)
theorem pats_ok (h:facts K=dm):jd K pads where
 g9:=q7 (bl h 51 rfl rfl) (q8 h 52 rfl rfl)
 tok:=q7 (bl h 53 rfl rfl) (q8 h 54 rfl rfl)
 tL:=q7 (bl h 55 rfl rfl) (q8 h 56 rfl rfl)
 r4:=q7 (bl h 57 rfl rfl) (q8 h 58 rfl rfl)
 s6:=q7 (bl h 59 rfl rfl) (q8 h 60 rfl rfl)
 sY:=q7 (bl h 61 rfl rfl) (q8 h 62 rfl rfl)
 twin:=q7 (bl h 63 rfl rfl) (q8 h 64 rfl rfl)
theorem sort_ok (h:facts K=dm):oA K sads where
 Gk:=bl h 69 rfl rfl
 Gu:=bl h 70 rfl rfl
 Bl:=int_at (wz h 71 rfl rfl)
 Gg:=int_at (wz h 72 rfl rfl)
 gH:=⟨bl h 73 rfl rfl,bl h 74 rfl rfl,bl h 75 rfl rfl,dZ h 76 rfl rfl,dZ h 77 rfl rfl,dZ h 78 rfl rfl⟩
 g7:=⟨bl h 79 rfl rfl,bl h 80 rfl rfl,bl h 81 rfl rfl,dZ h 82 rfl rfl,dZ h 83 rfl rfl,dZ h 84 rfl rfl⟩
 K5:=⟨bl h 85 rfl rfl,dZ h 86 rfl rfl⟩
 K4:=pH (dw h 87 rfl rfl)
 s0:=⟨⟨100,bl h 88 rfl rfl,bl h 89 rfl rfl,Dv h 90 rfl rfl,wz h 91 rfl rfl,DX h 92 rfl rfl,bl h 93 rfl rfl,dZ h 94 rfl rfl⟩⟩
 s1:=⟨⟨101,bl h 95 rfl rfl,bl h 96 rfl rfl,Dv h 97 rfl rfl,wz h 98 rfl rfl,DX h 99 rfl rfl,bl h 100 rfl rfl,dZ h 101 rfl rfl⟩⟩
 s2:=⟨⟨102,bl h 102 rfl rfl,bl h 103 rfl rfl,Dv h 104 rfl rfl,wz h 105 rfl rfl,DX h 106 rfl rfl,bl h 107 rfl rfl,dZ h 108 rfl rfl⟩⟩
 L5:=⟨bl h 109 rfl rfl,dZ h 110 rfl rfl⟩
 L3:=ts_at (dw h 111 rfl rfl) (US h 112 rfl rfl)
 o0:=⟨dZ h 113 rfl rfl,bl h 114 rfl rfl⟩
 o1:=⟨dZ h 115 rfl rfl,bl h 116 rfl rfl⟩
 o2:=⟨dZ h 117 rfl rfl,bl h 118 rfl rfl⟩
 o3:=⟨dZ h 119 rfl rfl,bl h 120 rfl rfl⟩
 m1:=⟨bl h 121 rfl rfl,dZ h 122 rfl rfl⟩
 d1:=pH (dw h 123 rfl rfl)
 m2:=⟨bl h 124 rfl rfl,dZ h 125 rfl rfl⟩
 d2:=pH (dw h 126 rfl rfl)
 m3:=⟨bl h 127 rfl rfl,dZ h 128 rfl rfl⟩
 d3:=pH (dw h 129 rfl rfl)
 m4:=⟨bl h 130 rfl rfl,dZ h 131 rfl rfl⟩
 d4:=pH (dw h 132 rfl rfl)
 m5:=⟨bl h 133 rfl rfl,dZ h 134 rfl rfl⟩
 d5:=pH (dw h 135 rfl rfl)
 m7:=⟨bl h 136 rfl rfl,dZ h 137 rfl rfl⟩
 d7:=pH (dw h 138 rfl rfl)
 m8:=⟨bl h 139 rfl rfl,dZ h 140 rfl rfl⟩
 d8:=pH (dw h 141 rfl rfl)
theorem Yz (h:facts K=dm):mG K 25 aW.lX 255 251:=JL (dw h 29 rfl rfl) (GA h 65 rfl rfl) (dZ h 66 rfl rfl)
theorem Yy (h:facts K=dm):mG K 22 aW.l9 238 234:=JL (dw h 27 rfl rfl) (GA h 67 rfl rfl) (dZ h 68 rfl rfl)
theorem notab (h:facts K=dm):noTabs K=true:=dZ h 142 rfl rfl
theorem Wg (h:facts K=dm):codeHdIn K 255 251=true:=dZ h 66 rfl rfl
theorem Wf (h:facts K=dm):codeHdIn K 238 234=true:=dZ h 68 rfl rfl
end
end
section
theorem left:LeftO nS pM loose xt hook.obs hook.val 2500:=YF λw=>by
 have a:=Wi w
 have b:=Wj w
 have c:=Wk w
 rw[wholeQ_eq] at a b c
 rw[<-PySem.W.Fast.te4187177175401517315,<-PySem.W.Fast.te5923862056798008813] at b
 cases e:wU nS w 2500 with
 |none=>rw[e] at a;cases a
 |some r=>
  rw[e] at a b c
  refine xA (Prod.mk.inj (Option.some.inj a)) λa1 a2=>?_
  show some (_,_,_,_)=_
  have b1:openSeen pM loose (importedModules nS.main.body) xt true r.2.abs=openGood pM loose:=Option.some.inj b
  have c1:hook.obs r.2.abs=hook.val w:=Option.some.inj c
  exact aa a1 (aa a2 (aa b1 (aa c1 rfl)))
theorem b7.of_are (h:IntsAre vs ns):b7 vs ns:=by
 induction h with
 |nil=>exact b7.nil
 |cons n t _ ih=>
  refine⟨by simp[ih.1],λi m hm=>?_⟩
  cases i with
  |zero=>cases hm;exact⟨t,rfl⟩
  |succ i=>exact ih.2 i m hm
theorem room_law (env:Env):bw (callerA.deeper env) 6:=by
 show callerA.depth+1+2*6+20<recursionLimit∧callerA.units+3+16*6+400<cLine
 exact⟨by decide+kernel,by decide+kernel⟩
set_option maxHeartbeats 8000000 in
theorem hold:PySem.Challenge.rw_oy0463_01.Holds:=by
 refine holds_law said0 λsaid=>?_
 refine PySem.W.holds_open (q:=pM) (loose:=loose) (Xt:=xt) (XP:=XL pM []) (Yf:=hook.obs) (Ya:=hook.val) (YP:=hook.says) (N:=2500) left hook.of hook.keeps (λs e=>xl_of s (Bool.and_eq_true_iff.mp e).1) XL.keeps (d:=⟨(aO 38).name,(aO 38).params,(aO 38).body,(aO 38).scope,⟨331,0,346,86⟩⟩) (kwd:=[]) (by kernel_rfl) (by kernel_rfl) (by kernel_rfl) (λs e=>recFacts_of (Bool.and_eq_true_iff.mp e).2) (by kernel_rfl) said (by decide+kernel) ⟨by kernel_rfl,by kernel_rfl,by kernel_rfl,by kernel_rfl,by kernel_rfl,by decide+kernel⟩ ?hw ?hc
 case hw=>w_witness2
 case hc=>
  intro w nZ cX mg mb G Y fa o pm cd doc dV kV ho hd vf hD Xh hg args vals as zk Xc pg nJ qC
  refine cQ Y λK KX oY HJ=>?_;clear Y
  have X:=(Ground.X G).1
  have V:=(Ground.X G).2
  refine Ground.open G ?_
  intro T B D TE TW
  have oU:TabsAt [(255,251),(238,234)] cX.heap:=List.forall_mem_cons.mpr ⟨⟨codeHd_of_K (c:=255) (P:=251) KX (Wg oY),HJ 251 (by exact List.mem_cons_self ..)⟩,List.forall_mem_cons.mpr ⟨⟨codeHd_of_K (c:=238) (P:=234) KX (Wf oY),HJ 234 (by decide)⟩,λ_ h=>nomatch h⟩⟩
  clear Xh
  wrow_args zk Xc pg nJ qC
  refine enter_call ?_
  w_top on
  refine kn_post oU (λ_ _=>rfl) ?_
  w_call any ho hd vf hD T F
  clear hd
  rename News _ _ _ _=>N
  have l0:=ghost_lt oU F
  have X':=ghost_K oU KX (notab oY)
  have T':=ghost_top oU T
  have K':=ghost_below oU
  have N':=ghost_news oU F N
  have F':=ghost_fr oU F
  have YM:=ghost_list oU (by assumption)
  clear N F
  rename_i xs _ _ _ _ _ _ _ sc gS _ hIs _ _ _ hint _ hlen _ h1 aX ok od ek ed Z
  have WG:envOfC (aO 38).name (aO 38).scope cX.heap.objs.size fa cd=eV cX.heap.objs.size fa cd (cX.heap.objs.size+1) (cX.heap.objs.size+1+1):=by with_unfolding_all rfl
  show wpAny _ (callerA.deeper (envOfC (aO 38).name (aO 38).scope cX.heap.objs.size fa cd)) (execs (aO 38).body (envOfC (aO 38).name (aO 38).scope cX.heap.objs.size fa cd)) _ _ _
  refine aa WG ?_
  have qz:ok.data= .cell none:=ek.trans (by with_unfolding_all rfl)
  have Wd:od.data= .cell none:=ed.trans (by with_unfolding_all rfl)
  have S:St (ghostOf cX.heap [(255,251),(238,234)]) cX.heap.objs.size h1 [(Str.ofString "script", .ref sc)] [(cX.heap.objs.size+1+1,aE none),(cX.heap.objs.size+1,aE none),(251,bT fY),(234,bT fX)]:=by
   refine⟨⟨_,F',λx v e=>?_⟩,λq hq=>?_,?_⟩
   ·simp only [lk] at e
    split at e
    ·rename_i hx
     subst hx
     cases e
     with_unfolding_all rfl
    ·cases e
   ·rcases List.mem_cons.mp hq with rfl|hq
    ·refine cP (N' _ (.head _)) λn1 n2 n3=>?_
     exact⟨_,n1,qz,n2,n3⟩
    rcases List.mem_cons.mp hq with rfl|hq
    ·refine cP (N' _ (.tail _ (.head _))) λn1 n2 n3=>?_
     exact⟨_,n1,Wd,n2,n3⟩
    rcases List.mem_cons.mp hq with rfl|hq
    ·refine cP (N' _ (.tail _ (.tail _ (.head _)))) λn1 n2 n3=>?_
     exact⟨_,n1,⟨#[],rfl, .inl rfl⟩,n2,n3⟩
    rcases List.mem_cons.mp hq with rfl|hq
    ·refine cP (N' _ (.tail _ (.tail _ (.tail _ (.head _))))) λn1 n2 n3=>?_
     exact⟨_,n1,⟨#[],rfl, .inl rfl⟩,n2,n3⟩
    ·cases hq
   ·have l1:251<cX.heap.objs.size:=l0 (251,tabObj #[]) (.head _)
    have l2:234<cX.heap.objs.size:=l0 (234,tabObj #[]) (.tail _ (.head _))
    generalize cX.heap.objs.size=z at l1 l2
    show([z+1+1,z+1,251,234]:List Nat).Nodup
    have a1:z+1+1≠z+1:=by simp
    have a2:z+1+1≠251:=by exact(ln 0x20088213ec5f986619816b11807d8bf308401).1 l1
    have a3:z+1+1≠234:=by exact(ln 0x20088213a85f986619816b11807d8bf308401).1 l1
    have a4:z+1≠251:=by exact(ln 0x40110427d8bf30cc0b11807d8bf308401).1 l1
    have a5:z+1≠234:=by exact(ln 0x4011042750bf30cc0b11807d8bf308401).1 l1
    simp[a2,a3,a4,a5]
  refine n6 (show∃lo me,Top topProg lo me mg mb (ghostOf cX.heap [(255,251),(238,234)]) from⟨_,_,T'⟩) λlo me T2=>?_
  let G0:Gx:=⟨PySem.Challenge.rw_oy0463_01.row.prog,w,K,topProg,lo,me,mg,mb⟩
  have C:iA G0 callerA (ghostOf cX.heap [(255,251),(238,234)]) [] (ghostOf cX.heap [(255,251),(238,234)]) cX.heap.objs.size (eV cX.heap.objs.size fa cd (cX.heap.objs.size+1) (cX.heap.objs.size+1+1)):=⟨K',rfl,rfl,rfl,X',T2,ktsDicts_nil⟩
  refine RL (G:=G0) (top_ok oY) (pats_ok oY) (sort_ok oY) (Yz oY) (Yy oY) C (room_law _) YM (b7.of_are hint) (by exact(ln 0x1088210fc5f98000787e2fcde430401).1 hlen) _ _ _ S λfl m2 H2 h2 bC S2 q=>?_
  refine cP q λzr209 q1 q2=>?_;clear q;subst zr209
  refine ah S2.fr λmf2 F2 _=>?_
  have Cb:GrownAt 251 h2:=by
   refine cQ (S2.nw _ q1) λo e zr210 _=>?_;refine ah zr210 λps zr211 _=>?_;subst zr211
   exact⟨ps,e⟩
  have WN:GrownAt 234 h2:=by
   refine cQ (S2.nw _ q2) λo e zr212 _=>?_;refine ah zr212 λps zr213 _=>?_;subst zr213
   exact⟨ps,e⟩
  refine⟨?_,Cb,WN,trivial⟩
  clear S2 S C X' T' N'
  show GoodW _ _ _ _ _ (.ok (.ret (.bool true))) _
  refine goodW_bool F2 hg (raisesW_false ?_) ?_
  ·wrow_none_raised
  ·wrow_post
end
end Mine
theorem PySem.Challenge.cw_oy0463_01_holds : PySem.Challenge.rw_oy0463_01.Holds :=
 Mine.hold
