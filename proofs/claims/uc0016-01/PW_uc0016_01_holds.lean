import PyProof.Rows.All
import Wide.All
import OpenK.AllK
import Wide.FinOn
import KE.KRevSl
import PySem.Challenge.RW_uc0016_01
set_option Elab.async false
set_option linter.unusedVariables false
set_option maxRecDepth 100000
set_option maxHeartbeats 8000000
set_option tactic.hygienic false
set_option genInjectivity false
set_option genSizeOf false
namespace Mine
open PySem PySem.W PyProof.Rows
noncomputable def vw:Program:={ PySem.Challenge.pw_uc0016_01 with main:={ PySem.Challenge.pw_uc0016_01.main with body:=[14,12,9,6,0].foldl List.eraseIdx PySem.Challenge.pw_uc0016_01.main.body } }
theorem left_boot {p q:Program} {loose:List Str} {Xt:Shared→Bool} {α:Type} {Yf:Shared→α} {Ya:World→α} {N:Nat} (a:opening p = plainProg p.main.scope.names) (b:Nat.ble 600 N = true) (c:∀ s,fenceModules? p s = some s)
  (k:∀ (w:World) (os:OsState),(topFrom treeTable p w N ⟨boot_heap w.params,Array.mk [],boot_drawn,boot_toks,os⟩).map (fun s=>(openSeen q loose (importedModules p.main.body) Xt true s,Yf s)) = some (openGood q loose,Ya w)):LeftO p q loose Xt Yf Ya N true:=fun w=>by
 obtain ⟨⟨_,_,_,_,os⟩,e,e'⟩:=Option.map_eq_some_iff.mp (boot_open a b c w)
 cases e'
 show (Option.bind (fencedOpening treeTable p w N) _).map _ = _
 rw [e]
 exact k w os
theorem said1:PySem.Challenge.rw_uc0016_01.wellSaid = true:=by kernel_rfl
theorem law0 (h:PySem.Challenge.rw_uc0016_01.row.Holds):PySem.Challenge.rw_uc0016_01.Holds:=⟨said1,h⟩
noncomputable def xt1 (s:Shared):Bool:=xlAt vw [] s && recOk (RowW.records (PySem.W.OpenRow.toRowW PySem.Challenge.rw_uc0016_01.row)) s
theorem head1 (H:Hook) {d:DefRec} {kwd:List (Str × Expr)}
  (k:∀ (w:World) (os:OsState),(topFrom treeTable PySem.Challenge.pw_uc0016_01 w 2000 ⟨boot_heap w.params,Array.mk [],boot_drawn,boot_toks,os⟩).map (fun s=>(openSeen vw [] (importedModules PySem.Challenge.pw_uc0016_01.main.body) xt1 true s,H.obs s)) = some (openGood vw [],H.val w))
  (a:defOf vw PySem.Challenge.rw_uc0016_01.row.name = some (d,kwd)) (hw:PySem.Challenge.rw_uc0016_01.row.toRowW.promised)
  (hp:PySem.Challenge.pw_uc0016_01.theDef PySem.Challenge.rw_uc0016_01.row.name = some (d.params,d.body,d.scope)) (hk:kwWritten? d.params.kwonlyargs d.params.kw_defaults = some kwd)
  (hc:WalkO vw [] (XL vw []) H.says PySem.Challenge.rw_uc0016_01.row.toRowW d kwd fun f vs=>PySem.call f vs):PySem.Challenge.rw_uc0016_01.row.Holds :=
 holds_open (q:=vw) (loose:=[]) (Xt:=xt1) (XP:=XL vw []) (Yf:=Hook.obs H) (Ya:=Hook.val H) (YP:=Hook.says H) (N:=2000) (left_boot (by kernel_rfl) (by rfl) (fun s=>by kernel_rfl) k) (Hook.of H) (Hook.keeps H) (fun s e=>xl_of s (Bool.and_eq_true_iff.mp e).1) XL.keeps a hp hk (fun s e=>recFacts_of (Bool.and_eq_true_iff.mp e).2) (by rfl) (row_said said1) (by decide +kernel) ⟨rfl,rfl,rfl,rfl,rfl,by decide +kernel⟩ hw hc
local macro_rules | `(tactic| o_law)=>`(tactic| refine law0 ?_)
local macro_rules | `(tactic| o_head $H)=>`(tactic| refine head1 $H (fun w o=>by kernel_rfl) rfl ?hw rfl rfl ?hc)
open_top hd for PySem.Challenge.rw_uc0016_01
end Mine
namespace Mine
open PySem
noncomputable abbrev T:=List Nat
theorem sub_s1 {n k:Nat} (h:k < n):n - k = n - (k + 1) + 1:=(Nat.sub_add_cancel (Nat.sub_pos_of_lt h)).symm
theorem sub_lt1 {n k:Nat} (h:k < n):n - (k + 1) < n - k:=Nat.sub_lt_sub_left h (Nat.lt_succ_self k)
theorem min_1 (n:Nat):min 1 n + (n - 1) = n:=by cases n with | zero=>rfl | succ n=>rw [Nat.min_eq_left (Nat.succ_pos n),Nat.add_comm];rfl
theorem le_min1 {m r c:Nat} (h:m + r + 1 ≤ c):m + min 1 r + (r - 1) ≤ c:=by simp only [Nat.add_assoc,min_1];exact Nat.le_of_succ_le h
theorem toNat_m1 {n:Nat}:(-1 + (n:Int)).toNat = n - 1:=by rw [Int.add_comm];exact Int.toNat_sub n 1
theorem toNat_max0 (i:Int):(max 0 i).toNat = i.toNat:=by
 refine Or.elim (Int.le_total 0 i) (fun h=>?_) (fun h=>?_)
 ·rw [Int.max_eq_right h]
 ·rw [Int.max_eq_left h,Int.toNat_of_nonpos h];rfl
theorem le_min2 {a b c:Nat} (h:b ≤ c):min a b ≤ c:=Nat.le_trans (Nat.min_le_right a b) h
inductive V where
 | none
 | bool (b:Bool)
 | int (i:Int)
 | str (s:T)
 | list (vs:List V)
 | tup (vs:List V)
 | rng (a b c:Int)
 | mref (n:Nat)
 deriving Inhabited
inductive Mo where
 | list (vs:List V)
 | lex (left:T) (line:Int) (push:List V)
 | dead
 deriving Inhabited
structure St where
 vars:List (Option V)
 mu:List Mo
 deriving Inhabited
inductive Bop where | add | sub | mul | fdiv | mod | pow
inductive Cop where | eq | ne | lt | le | gt | ge | isin | notin | is_
inductive Fn where | len | min | sum | chr | all | lenset | list | range | user (k:Nat)
inductive Me where | lower | split | startswith | endswith | find | join | count
inductive Tg where | one (i:Nat) | two (i j:Nat)
inductive X where
 | var (i:Nat)
 | cst (v:V)
 | bin (o:Bop) (a b:X)
 | neg (a:X)
 | not (a:X)
 | and (a b:X)
 | or (a b:X)
 | cmp (o:Cop) (a b:X)
 | ite (c a b:X)
 | call (f:Fn) (as:X)
 | meth (m:Me) (o as:X)
 | idx (a i:X)
 | slc (a lo hi:X)
 | rev (a:X)
 | lst (as:X)
 | tupl (as:X)
 | comp (own:List Nat) (g:X)
 | nil
 | cons (a as:X)
 | gen (it:X) (t:Tg) (ifs rest:X)
 | emit (e:X)
 | enm (a:X)
 | tok (i:Nat)
 | line (i:Nat)
 | newlex (a:X)
 | fresh (a:X)
inductive S where
 | skip
 | seq (a b:S)
 | asg (i:Nat) (e:X)
 | tasg (is:List Nat) (e:X)
 | casg (i j:Nat) (e:X)
 | frz (i:Nat)
 | aug (i:Nat) (o:Bop) (e:X)
 | seti (i:Nat) (j e:X)
 | del (i:Nat) (j:X)
 | app (i:Nat) (e:X)
 | push (i:Nat) (e:X)
 | ite (c:X) (a b:S)
 | whl (c:X) (a:S)
 | for_ (t:Tg) (it:X) (b:S)
 | fore (i j:Nat) (e:X) (b:S)
 | ret (e:X)
 | assert (c:X)
inductive Fl where | next | ret (v:V)
theorem nso {α:Type} {a:α} {C:Prop} (h:none = some a):C:=nomatch h
theorem fat {C:Prop} (h:false = true):C:=nomatch h
noncomputable def map2 {α β γ:Type} (f:α→β→γ) (o:Option α) (x:Option β):Option γ:=o.bind fun a=>x.map (f a)
noncomputable def map3 {α β γ δ:Type} (f:α→β→γ→δ) (o:Option α) (x:Option β) (y:Option γ):Option δ:=o.bind fun a=>map2 (f a) x y
noncomputable def gd {α:Type} (b:Bool) (o:Option α):Option α:=bif b then o else none
section
variable {α β γ δ:Type}
@[elab_as_elim] theorem oM {P:β→Prop} {f:α→β} {o:Option α} {z:β} (h:o.map f = some z) (k:∀ a,o = some a→P (f a)):P z:=by
 cases o with
 | none=>first | exact nso h | exact fat h | obtain rfl:=Option.some.inj h
 | some a=>obtain rfl:=Option.some.inj h;exact k a rfl
theorem oB {C:Prop} {f:α→Option β} {o:Option α} {z:β} (h:o.bind f = some z) (k:∀ a,o = some a→f a = some z→C):C:=by
 cases o with
 | none=>first | exact nso h | exact fat h | cases h
 | some a=>exact k a rfl h
@[elab_as_elim] theorem oM2 {P:γ→Prop} {f:α→β→γ} {o:Option α} {x:Option β} {z:γ} (h:map2 f o x = some z) (k:∀ a b,o = some a→x = some b→P (f a b)):P z :=
 oB h fun a ha h=>oM h fun b hb=>k a b ha hb
@[elab_as_elim] theorem oM3 {P:δ→Prop} {f:α→β→γ→δ} {o:Option α} {x:Option β} {y:Option γ} {z:δ} (h:map3 f o x y = some z) (k:∀ a b c,o = some a→x = some b→y = some c→P (f a b c)):P z :=
 oB h fun a ha h=>oM2 h fun b c hb hc=>k a b c ha hb hc
theorem oG {C:Prop} {b:Bool} {o:Option α} {z:α} (h:gd b o = some z) (k:b = true→o = some z→C):C:=by
 cases b with
 | false=>first | exact nso h | exact fat h | cases h
 | true=>exact k rfl h
theorem oI {f:α→β} {o:Option α} {z:β} (h:o.map f = some z):∃ a,o = some a ∧ z = f a:=oM h fun a h=>⟨a,h,rfl⟩
theorem oI2 {f:α→β→γ} {o:Option α} {x:Option β} {z:γ} (h:map2 f o x = some z):∃ a b,o = some a ∧ x = some b ∧ z = f a b:=oM2 h fun a b h k=>⟨a,b,h,k,rfl⟩
theorem oIB {f:α→Option β} {o:Option α} {z:β} (h:o.bind f = some z):∃ a,o = some a ∧ f a = some z:=oB h fun a h k=>⟨a,h,k⟩
theorem and_l {a b:Bool} (h:(a && b) = true):a = true:=(Bool.and_eq_true_iff.mp h).1
theorem and_r {a b:Bool} (h:(a && b) = true):b = true:=(Bool.and_eq_true_iff.mp h).2
end
theorem nil_of {α:Type} {l:List α} (h:l.isEmpty = true):l = []:=by cases l with | nil=>rfl | cons=>first | exact nso h | exact fat h | cases h
noncomputable def twoOf {α:Type}:List α→Option (α × α)
 | []=>none
 | a :: r=>match r with
  | []=>none
  | b :: r=>gd r.isEmpty (some (a,b))
theorem twoOf_eq {α:Type} {l:List α} {q:α × α} (h:twoOf l = some q):l = [q.1,q.2]:=by
 cases l with
 | nil=>first | exact nso h | exact fat h | obtain rfl:=Option.some.inj h
 | cons a r=>cases r with
  | nil=>first | exact nso h | exact fat h | obtain rfl:=Option.some.inj h
  | cons b r=>exact oG h fun h1 h=>(by obtain rfl:=Option.some.inj h;cases nil_of h1;rfl)
noncomputable def oneOf {α:Type}:List α→Option α
 | []=>none
 | a :: r=>gd r.isEmpty (some a)
theorem oneOf_eq {α:Type} {l:List α} {q:α} (h:oneOf l = some q):l = [q]:=by
 cases l with
 | nil=>first | exact nso h | exact fat h | obtain rfl:=Option.some.inj h
 | cons a r=>exact oG h fun h1 h=>(by obtain rfl:=Option.some.inj h;cases nil_of h1;rfl)
noncomputable def threeOf {α:Type}:List α→Option (α × α × α)
 | []=>none
 | a :: r=>(twoOf r).map fun q=>(a,q)
theorem threeOf_eq {α:Type} {l:List α} {q:α × α × α} (h:threeOf l = some q):l = [q.1,q.2.1,q.2.2]:=by
 cases l with
 | nil=>first | exact nso h | exact fat h | cases h
 | cons a r=>exact oM (P:=fun q=>a :: r = [q.1,q.2.1,q.2.2]) h fun p hp=>congrArg (a :: ·) (twoOf_eq hp)
theorem oIf {α:Type} {b:Bool} {o:Option α} {z:α} (h:(if b then o else none) = some z):b = true ∧ o = some z:=by
 cases b with
 | false=>first | exact nso h | exact fat h | cases h
 | true=>exact ⟨rfl,h⟩
noncomputable def V.int?:V→Option Int
 | .int i=>some i
 | _=>Option.none
noncomputable def V.bool?:V→Option Bool
 | .bool i=>some i
 | _=>Option.none
noncomputable def V.str?:V→Option T
 | .str i=>some i
 | _=>Option.none
noncomputable def V.list?:V→Option (List V)
 | .list i=>some i
 | _=>Option.none
theorem V.int?_eq {v:V} {i:Int} (h:v.int? = some i):v = .int i:=by cases v <;> first | exact nso h | (obtain rfl:=Option.some.inj h;rfl)
theorem V.bool?_eq {v:V} {i:Bool} (h:v.bool? = some i):v = .bool i:=by cases v <;> first | exact nso h | (obtain rfl:=Option.some.inj h;rfl)
theorem V.str?_eq {v:V} {i:T} (h:v.str? = some i):v = .str i:=by cases v <;> first | exact nso h | (cases h;rfl)
theorem V.list?_eq {v:V} {i:List V} (h:v.list? = some i):v = .list i:=by cases v <;> first | exact nso h | (cases h;rfl)
noncomputable def okC (c:Nat):Bool:=decide (c < 1114112)
noncomputable def plainB (f:Option (V→Bool)):V→Bool
 | .int _=>true
 | .bool _=>true
 | .str x=>x.all okC
 | .list l=>match f with
  | some f=>l.all f
  | none=>false
 | _=>false
noncomputable def V.plain:Nat→V→Bool
 | 0=>plainB Option.none
 | n + 1=>plainB (some (V.plain n))
mutual
noncomputable def V.eqv:V→V→Bool
 | .int a,y=>match y with
  | .int b=>a == b
  | .bool b=>a == (if b then 1 else 0)
  | _=>false
 | .str a,y=>match y with
  | .str b=>a == b
  | _=>false
 | .bool a,y=>match y with
  | .bool b=>a == b
  | .int b=>(if a then 1 else 0) == b
  | _=>false
 | .list a,y=>match y with
  | .list b=>V.eqvs a b
  | _=>false
 | _,_=>false
noncomputable def V.eqvs:List V→List V→Bool
 | [],r=>r.isEmpty
 | a :: as,r=>match r with
  | []=>false
  | b :: bs=>V.eqv a b && V.eqvs as bs
end
noncomputable def V.eq (x y:V):Option Bool:=match x with
 | .int a=>y.int?.map fun b=>a == b
 | .bool a=>y.bool?.map fun b=>a == b
 | .str a=>y.str?.map fun b=>a == b
 | .list a=>y.list?.bind fun b=>if V.plain 4 (.list a) && V.plain 4 (.list b) then some (V.eqvs a b) else Option.none
 | _=>Option.none
noncomputable def truth:V→Option Bool
 | .none=>some false
 | .bool b=>some b
 | .int i=>some (i != 0)
 | .str x=>some (!x.isEmpty)
 | .list l=>some (!l.isEmpty)
 | _=>none
noncomputable def okS (x:T):Option V:=if x.length ≤ 16777216 then some (.str x) else none
noncomputable def okL (l:List V):Option V:=if l.length ≤ 16777216 then some (.list l) else none
noncomputable def vAdd (x y:V):Option V:=match x with
 | .int a=>match y with
  | .int b=>some (.int (a + b))
  | .bool b=>some (.int (a + if b = true then 1 else 0))
  | _=>none
 | .str a=>y.str?.bind fun b=>okS (a ++ b)
 | .list a=>y.list?.bind fun b=>okL (a ++ b)
 | _=>none
noncomputable def vMul (x y:V):Option V:=y.int?.bind fun b=>match x with
 | .int a=>if a.natAbs ≤ 1000000000000 && b.natAbs ≤ 1000000000000 then some (.int (a * b)) else none
 | .str a=>if a.length ≤ 1000 && (b ≤ 1000 && -1000 ≤ b) then some (.str (List.replicate b.toNat a).flatten) else none
 | _=>none
noncomputable def vFdiv (x y:V):Option V:=x.int?.bind fun a=>y.int?.bind fun b=>if b != 0 && b.natAbs < 1073741824 then some (.int (a.fdiv b)) else none
noncomputable def vSub (x y:V):Option V:=x.int?.bind fun a=>y.int?.bind fun b=>some (.int (a - b))
noncomputable def bop (o:Bop) (x y:V):Option V:=match o with
 | .add=>vAdd x y
 | .sub=>vSub x y
 | .mul=>vMul x y
 | .fdiv=>vFdiv x y
 | .mod=>x.int?.bind fun a=>y.int?.bind fun b=>if b == 0 then none else some (.int (a.fmod b))
 | .pow=>x.int?.bind fun a=>y.int?.bind fun b=>if 0 ≤ b && (b ≤ 1000 && a.natAbs ≤ 1000) then some (.int (a ^ b.toNat)) else none
noncomputable def aAdd (x y:V):Option V:=match x with
 | .int a=>y.int?.map fun b=>.int (a + b)
 | .str a=>y.str?.bind fun b=>okS (a ++ b)
 | _=>none
noncomputable def aop (o:Bop) (x y:V):Option V:=match o with
 | .add=>aAdd x y
 | .sub=>vSub x y
 | .fdiv=>vFdiv x y
 | _=>none
noncomputable def findGo (y:T):T→Nat→Option Nat
 | [],k=>if y.isEmpty then some k else none
 | a :: r,k=>if y.isPrefixOf (a :: r) then some k else findGo y r (k + 1)
noncomputable def hasT (y x:T):Bool:=(findGo y x 0).isSome
noncomputable def findT (x y:T) (i j:Int):Int :=
 let lo:=(if i < 0 then i + x.length else i).toNat
 let hi:=min (if j < 0 then j + x.length else j).toNat x.length
 if lo ≤ hi then match findGo y ((x.take hi).drop lo) lo with
  | some k=>k
  | none=>-1
 else -1
noncomputable def splitGo (y:T):T→Nat→T→List T
 | [],_,acc=>[acc.reverse]
 | _ :: r,k + 1,acc=>splitGo y r k acc
 | a :: r,0,acc=>if y.isPrefixOf (a :: r) then acc.reverse :: splitGo y r (y.length - 1) [] else splitGo y r 0 (a :: acc)
noncomputable def splitT (x y:T):List T:=splitGo y x 0 []
noncomputable def joinT (y:T):List T→T
 | []=>[]
 | [x]=>x
 | x :: r=>x ++ y ++ joinT y r
noncomputable def strOf (x:T):Str:=⟨x.toArray⟩
noncomputable def lowerT (x:T):T:=(Txt.lower (strOf x)).cps.toList
noncomputable def memb (v:V) (l:List V):Option Bool:=if V.plain 4 v && V.plain 4 (.list l) then some (l.any fun y=>V.eqv y v) else none
noncomputable def cInt (f:Int→Int→Bool) (x y:V):Option Bool:=map2 f x.int? y.int?
noncomputable def cIn (x y:V):Option Bool:=match y with
 | .str b=>x.str?.map fun a=>hasT a b
 | .list b=>memb x b
 | .tup b=>memb x b
 | _=>none
noncomputable def cNin (x y:V):Option Bool:=match y with
 | .str b=>x.str?.map fun a=>!hasT a b
 | .list b=>(memb x b).map (!·)
 | _=>none
noncomputable def cIs (x y:V):Option Bool:=match y with
 | .none=>match x with
  | .none=>some true
  | .int _=>some false
  | _=>none
 | _=>none
noncomputable def cop (o:Cop) (x y:V):Option Bool:=match o with
 | .eq=>V.eq x y
 | .ne=>(V.eq x y).map (!·)
 | .lt=>cInt (fun a b=>decide (a < b)) x y
 | .le=>cInt (fun a b=>decide (a ≤ b)) x y
 | .gt=>cInt (fun a b=>decide (b < a)) x y
 | .ge=>cInt (fun a b=>decide (b ≤ a)) x y
 | .isin=>cIn x y
 | .notin=>cNin x y
 | .is_=>cIs x y
noncomputable def clip (n:Nat) (i:Int):Nat:=clipAt n i
theorem clip_nat (n i:Nat):clip n (i:Int) = min i n:=by
 delta clip clipAt
 rw [if_neg (Int.not_lt.mpr (Int.natCast_nonneg i)),toNat_max0]
 refine Or.elim (Nat.le_total i n) (fun h=>?_) (fun h=>?_)
 ·simp only [Int.min_eq_left (Int.ofNat_le.mpr h),Nat.min_eq_left h];rfl
 ·simp only [Int.min_eq_right (Int.ofNat_le.mpr h),Nat.min_eq_right h];rfl
theorem clip_le (n:Nat) (i:Int):clip n i ≤ n:=Int.ofNat_le.mp (by rw [show ((clip n i:Nat):Int) = _ from clipAt_cast n i];exact Int.max_le.mpr ⟨Int.natCast_nonneg n,Int.min_le_right _ _⟩)
noncomputable def bnd:V→Option (Option Int)
 | .none=>some none
 | .int i=>some (some i)
 | _=>none
noncomputable def cut {α:Type} (l:List α) (lo hi:Option Int):List α :=
 (l.drop (lo.elim 0 (clip l.length))).take (hi.elim l.length (clip l.length) - lo.elim 0 (clip l.length))
theorem cut_from {α:Type} (l:List α) (i:Nat):cut l (some (i:Int)) none = l.drop i:=by
 show (l.drop (clip l.length i)).take (l.length - clip l.length i) = _
 rw [clip_nat,List.take_of_length_le (Nat.le_of_eq List.length_drop)]
 refine Or.elim (Nat.le_total i l.length) (fun h=>?_) (fun h=>?_)
 ·simp only [Nat.min_eq_left h]
 ·simp only [Nat.min_eq_right h,List.drop_length,List.drop_of_length_le h]
theorem cut_upto {α:Type} (l:List α) (i:Nat):cut l none (some (i:Int)) = l.take i:=by
 show l.take (clip l.length i) = _
 rw [clip_nat]
 refine Or.elim (Nat.le_total i l.length) (fun h=>?_) (fun h=>?_)
 ·simp only [Nat.min_eq_left h]
 ·simp only [Nat.min_eq_right h,List.take_length,List.take_of_length_le h]
noncomputable def at? {α:Type} (l:List α) (i:Int):Option α:=if 0 ≤ i then l[i.toNat]? else if -(l.length:Int) ≤ i then l[(i + l.length).toNat]? else none
noncomputable def small (i:Int):Bool:=decide (-1000000000000 ≤ i) && decide (i ≤ 1000000000000)
noncomputable def rngItems (a b c:Int):List V:=(List.range ((b - a + c - 1) / c).toNat).map fun k:Nat=>.int (a + k * c)
noncomputable def sumV:List V→Option Int
 | []=>some 0
 | v :: r=>map2 (fun a b=>a + b) v.int? (sumV r)
noncomputable def allV:List V→Option Bool
 | []=>some true
 | v :: r=>map2 (fun a b=>a && b) v.bool? (allV r)
noncomputable def intsV:List V→Option (List Int)
 | []=>some []
 | v :: r=>map2 .cons v.int? (intsV r)
noncomputable def strsV:List V→Option (List T)
 | []=>some []
 | v :: r=>map2 .cons v.str? (strsV r)
noncomputable def distinct (ns:List Int):Int:=(ns.foldl (fun acc k=>if acc.any (· == k) then acc else acc ++ [k]) ([]:List Int)).length
noncomputable abbrev Con:=Nat→List V→Option V
noncomputable def fLen:V→Option V
 | .str x=>some (.int x.length)
 | .list l=>some (.int l.length)
 | _=>none
noncomputable def fRng (v:V):Option V:=match v with
 | .rng a b c=>okL (rngItems a b c)
 | _=>none
noncomputable def oAlt {α β:Type} (o:Option α) (f:α→β) (d:β):β:=match o with
 | some a=>f a
 | none=>d
theorem oAlt_el {α β:Type} {C:Prop} {o:Option α} {f:α→Option β} {d:Option β} {z:β} (h:oAlt o f d = some z) (c:∀ a,o = some a→f a = some z→C) (e:d = some z→C):C:=by
 cases o with
 | none=>exact e h
 | some a=>exact c a rfl h
noncomputable def fRange (vs:List V):Option V:=oAlt (oneOf vs) (fun v=>v.int?.bind fun b=>if small b then some (.rng 0 b 1) else none)
 (oAlt (twoOf vs) (fun q=>q.1.int?.bind fun a=>q.2.int?.bind fun b=>if small a && small b then some (.rng a b 1) else none)
  ((threeOf vs).bind fun q=>q.1.int?.bind fun a=>q.2.1.int?.bind fun b=>q.2.2.int?.bind fun c=>if small a && (small b && (decide (c ≤ 1000000) && decide (0 < c))) then some (.rng a b c) else none))
noncomputable def fList (f:List V→Option V) (vs:List V):Option V:=(oneOf vs).bind fun v=>v.list?.bind f
noncomputable def fn (C:Con) (f:Fn) (vs:List V):Option V:=match f with
 | .len=>(oneOf vs).bind fLen
 | .min=>(twoOf vs).bind fun q=>map2 (fun a b=>.int (if b < a then b else a)) q.1.int? q.2.int?
 | .sum=>fList (fun l=>(sumV l).map .int) vs
 | .chr=>(oneOf vs).bind fun v=>v.int?.bind fun a=>if 0 ≤ a && a < 50000 then some (.str [a.toNat]) else none
 | .all=>fList (fun l=>(allV l).map .bool) vs
 | .lenset=>fList (fun l=>if l.length ≤ 1000 then (intsV l).map fun ns=>.int (distinct ns) else none) vs
 | .list=>(oneOf vs).bind fRng
 | .range=>fRange vs
 | .user k=>C k vs
noncomputable def mJoin (x:T) (l:List V):Option V:=(strsV l).bind fun ts=>if (ts.map (·.length)).sum + ts.length * x.length ≤ 1000000 then some (.str (joinT x ts)) else none
noncomputable def mSplit (x y:T):Option V:=if !y.isEmpty && y.all (· < 256) then okL ((splitT x y).map .str) else none
noncomputable def mFind (x y:T) (i j:Int):Option V:=if small i && small j then some (.int (findT x y i j)) else none
noncomputable def meth (m:Me) (o:V) (vs:List V):Option V:=o.str?.bind fun x=>match m with
 | .lower=>gd vs.isEmpty (okS (lowerT x))
 | .split=>(oneOf vs).bind fun v=>v.str?.bind (mSplit x)
 | .startswith=>(oneOf vs).bind fun v=>v.str?.bind fun y=>some (.bool (y.isPrefixOf x))
 | .endswith=>(oneOf vs).bind fun v=>v.str?.bind fun y=>some (.bool (y.isSuffixOf x))
 | .find=>(threeOf vs).bind fun q=>q.1.str?.bind fun y=>q.2.1.int?.bind fun i=>q.2.2.int?.bind fun j=>mFind x y i j
 | .join=>fList (mJoin x) vs
 | .count=>(oneOf vs).bind fun v=>v.str?.bind fun y=>(oneOf y).map fun c=>.int (x.count c)
noncomputable def isWs (c:Nat):Bool:=c == 10 || c == 9 || c == 13 || c == 32
noncomputable def nl (c:Nat):Int:=if c == 10 then 1 else 0
noncomputable def lexQ:T→Int→T→T × T × Int
 | [],n,acc=>(acc,[],n)
 | [c],n,acc=>if c = 34 then (acc,[],n) else if c = 92 then (acc,[],n) else (acc ++ [c],[],n + nl c)
 | c :: d :: r,n,acc=>if c = 34 then (acc,d :: r,n) else if c = 92 then lexQ r (n + nl d) (acc ++ [d]) else lexQ (d :: r) (n + nl c) (acc ++ [c])
noncomputable def lexB:T→Int→T→T × T × Int
 | [],n,acc=>(acc,[],n)
 | [c],n,acc=>if isWs c = true then (acc,[],n + nl c) else if c = 92 then (acc,[],n) else (acc ++ [c],[],n + nl c)
 | c :: d :: r,n,acc=>if isWs c = true then (acc,d :: r,n + nl c) else if c = 92 then lexB r (n + nl d) (acc ++ [d]) else lexB (d :: r) (n + nl c) (acc ++ [c])
noncomputable def lex0:T→Int→T × T × Int
 | [],n=>([],[],n)
 | c :: r,n=>if isWs c = true then lex0 r (n + nl c) else if c = 34 then lexQ r n [] else if c = 92 then lexB (r.drop 1) (n + if r.take 1 = [10] then 1 else 0) (r.take 1) else lexB r n [c]
noncomputable def St.get (st:St) (i:Nat):Option V:=(st.vars[i]?).join
noncomputable def St.set (st:St) (i:Nat) (v:V):St:={ st with vars:=st.vars.set i (some v) }
noncomputable def St.clr (st:St) (i:Nat):St:={ st with vars:=st.vars.set i none }
noncomputable def St.see (st:St):V→V
 | .mref n=>match st.mu[n]? with
  | some (.list l)=>.list l
  | _=>.mref n
 | v=>v
noncomputable def St.sees (st:St):Fn→List V→List V
 | .user _,vs=>vs
 | _,vs=>vs.map st.see
noncomputable def escGo:Int→Bool→T→List V
 | k,e,[]=>if e then [.tup [.int (k - 1),.str [92]]] else []
 | k,true,c :: r=>.tup [.int k,.str [92,c]] :: escGo (k + 1) false r
 | k,false,c :: r=>if c == 92 then escGo (k + 1) true r else .tup [.int k,.str [c]] :: escGo (k + 1) false r
noncomputable def St.tok (st:St) (n:Nat):Option (V × St):=match st.mu[n]? with
 | some (.lex left line (v :: r))=>some (v,{ st with mu:=st.mu.set n (.lex left line r) })
 | some (.lex left line [])=>if left.length ≤ 10000 then
   some (.str (lex0 left line).1,{ st with mu:=st.mu.set n (.lex (lex0 left line).2.1 (lex0 left line).2.2 []) }) else none
 | _=>none
noncomputable def St.line (st:St) (n:Nat):Option Int:=match st.mu[n]? with
 | some (.lex _ line _)=>some line
 | _=>none
noncomputable def St.push (st:St) (n:Nat) (v:V):Option St:=match st.mu[n]? with
 | some (.lex left line l)=>if l.length ≤ 1000000 then some { st with mu:=st.mu.set n (.lex left line (l ++ [v])) } else none
 | _=>none
noncomputable def V.mref?:V→Option Nat
 | .mref i=>some i
 | _=>Option.none
noncomputable def V.tup?:V→Option (List V)
 | .tup i=>some i
 | _=>Option.none
noncomputable def Mo.list?:Mo→Option (List V)
 | .list i=>some i
 | _=>none
noncomputable def Mo.isLex:Mo→Bool
 | .lex _ _ _=>true
 | _=>false
theorem V.mref?_eq {v:V} {i:Nat} (h:v.mref? = some i):v = .mref i:=by cases v <;> first | exact nso h | (obtain rfl:=Option.some.inj h;rfl)
theorem V.tup?_eq {v:V} {i:List V} (h:v.tup? = some i):v = .tup i:=by cases v <;> first | exact nso h | (obtain rfl:=Option.some.inj h;rfl)
theorem Mo.list?_eq {v:Mo} {i:List V} (h:v.list? = some i):v = .list i:=by cases v <;> first | exact nso h | (obtain rfl:=Option.some.inj h;rfl)
section
variable {α:Type}
noncomputable def oS (o:Option (V × St)) (k:V→St→Option α):Option α:=o.bind fun p=>k p.1 p.2
noncomputable def oSL (o:Option (V × St)) (k:List V→St→Option α):Option α:=oS o fun x st=>x.list?.bind fun l=>k l st
noncomputable def oSI (o:Option (V × St)) (k:Int→St→Option α):Option α:=oS o fun x st=>x.int?.bind fun l=>k l st
noncomputable def oSS (o:Option (V × St)) (k:T→St→Option α):Option α:=oS o fun x st=>x.str?.bind fun l=>k l st
noncomputable def oST (o:Option (V × St)) (k:List V→St→Option α):Option α:=oS o fun x st=>x.tup?.bind fun l=>k l st
noncomputable def oR (o:Option V) (k:Nat→Option α):Option α:=o.bind fun x=>x.mref?.bind k
noncomputable def oT (o:Option Bool) (a b:Option α):Option α:=o.bind fun q=>bif q then a else b
noncomputable def oMl (o:Option Mo) (k:List V→Option α):Option α:=o.bind fun m=>m.list?.bind k
noncomputable def oE (o:Option (Bool × St)) (k l:St→Option α):Option α:=o.bind fun p=>bif p.1 then k p.2 else l p.2
noncomputable def oF (o:Option (Fl × St)) (k:St→Option (Fl × St)):Option (Fl × St):=o.bind fun p=>match p.1 with
 | .next=>k p.2
 | .ret v=>some (.ret v,p.2)
variable {o:Option (V × St)} {z:α} {C:Prop}
theorem oS_el {k:V→St→Option α} (h:oS o k = some z) (c:∀ x st,o = some (x,st)→k x st = some z→C):C:=oB h fun p e h=>c p.1 p.2 e h
theorem oSL_el {k:List V→St→Option α} (h:oSL o k = some z) (c:∀ l st,o = some (.list l,st)→k l st = some z→C):C :=
 oS_el h fun _ st e h=>oB h fun l e' h=>c l st (V.list?_eq e' ▸ e) h
theorem oSI_el {k:Int→St→Option α} (h:oSI o k = some z) (c:∀ l st,o = some (.int l,st)→k l st = some z→C):C :=
 oS_el h fun _ st e h=>oB h fun l e' h=>c l st (V.int?_eq e' ▸ e) h
theorem oSS_el {k:T→St→Option α} (h:oSS o k = some z) (c:∀ l st,o = some (.str l,st)→k l st = some z→C):C :=
 oS_el h fun _ st e h=>oB h fun l e' h=>c l st (V.str?_eq e' ▸ e) h
theorem oST_el {k:List V→St→Option α} (h:oST o k = some z) (c:∀ l st,o = some (.tup l,st)→k l st = some z→C):C :=
 oS_el h fun _ st e h=>oB h fun l e' h=>c l st (V.tup?_eq e' ▸ e) h
theorem oR_el {o:Option V} {k:Nat→Option α} (h:oR o k = some z) (c:∀ n,o = some (.mref n)→k n = some z→C):C :=
 oB h fun _ e h=>oB h fun n e' h=>c n (V.mref?_eq e' ▸ e) h
theorem oMl_el {o:Option Mo} {k:List V→Option α} (h:oMl o k = some z) (c:∀ l,o = some (.list l)→k l = some z→C):C :=
 oB h fun _ e h=>oB h fun n e' h=>c n (Mo.list?_eq e' ▸ e) h
theorem oT_el {o:Option Bool} {a b:Option α} (h:oT o a b = some z) (c:o = some true→a = some z→C) (d:o = some false→b = some z→C):C :=
 oB h fun q e h=>by
  cases q with
  | true=>exact c e h
  | false=>exact d e h
theorem oE_el {o:Option (Bool × St)} {k l:St→Option α} (h:oE o k l = some z) (c:∀ st,o = some (true,st)→k st = some z→C) (d:∀ st,o = some (false,st)→l st = some z→C):C :=
 oB h fun p e h=>by
  obtain ⟨q,st⟩:=p
  cases q with
  | true=>exact c st e h
  | false=>exact d st e h
theorem oF_el {o:Option (Fl × St)} {k:St→Option (Fl × St)} {z:Fl × St} (h:oF o k = some z) (c:∀ st,o = some (.next,st)→k st = some z→C) (d:∀ v st,o = some (.ret v,st)→z = (.ret v,st)→C):C :=
 oB h fun p e h=>by
  obtain ⟨q,st⟩:=p
  cases q with
  | next=>exact c st e h
  | ret v=>obtain rfl:=Option.some.inj h;exact d v st e rfl
end
noncomputable def setTg (st:St):Tg→V→Option St
 | .one i,v=>some (st.set i v)
 | .two i j,v=>v.tup?.bind fun l=>(twoOf l).map fun q=>(st.set i q.1).set j q.2
noncomputable def setAll (st:St):List Nat→List V→Option St
 | [],l=>gd l.isEmpty (some st)
 | i :: is,l=>match l with
  | []=>none
  | v :: vs=>setAll (st.set i v) is vs
noncomputable def items:V→Option (List V)
 | .list l=>some l
 | .tup l=>some l
 | .str x=>some (x.map fun c=>.str [c])
 | .rng a b c=>some (rngItems a b c)
 | _=>none
noncomputable def enum:Int→List V→List V
 | _,[]=>[]
 | k,v :: r=>.tup [.int k,v] :: enum (k + 1) r
noncomputable def idxV (x:V) (k:Int):Option V:=match x with
 | .list l=>at? l k
 | .tup l=>at? l k
 | .str l=>(at? l k).map fun c=>.str [c]
 | _=>none
noncomputable def slcV (x:V) (l h:Option Int):Option V:=match x with
 | .list xs=>some (.list (cut xs l h))
 | .str xs=>some (.str (cut xs l h))
 | _=>none
noncomputable def turns (f:V→St→Option (List V × St)):List V→St→Option (List V × St)
 | [],st=>some ([],st)
 | v :: r,st=>(f v st).bind fun p=>(turns f r p.2).map fun q=>(p.1 ++ q.1,q.2)
noncomputable def ev (C:Con):X→St→Option (V × St)
 | .var i,st=>(st.get i).map fun v=>(v,st)
 | .cst v,st=>some (v,st)
 | .bin o a b,st=>oS (ev C a st) fun x st=>oS (ev C b st) fun y st=>(bop o (st.see x) (st.see y)).map fun v=>(v,st)
 | .neg a,st=>oSI (ev C a st) fun i st=>some (.int (-i),st)
 | .not a,st=>oS (ev C a st) fun x st=>(truth (st.see x)).map fun b=>(.bool !b,st)
 | .and a b,st=>oS (ev C a st) fun x st=>oT (truth (st.see x)) (ev C b st) (some (x,st))
 | .or a b,st=>oS (ev C a st) fun x st=>oT (truth (st.see x)) (some (x,st)) (ev C b st)
 | .cmp o a b,st=>oS (ev C a st) fun x st=>oS (ev C b st) fun y st=>(cop o (st.see x) (st.see y)).map fun v=>(.bool v,st)
 | .ite c a b,st=>oS (ev C c st) fun x st=>oT (truth (st.see x)) (ev C a st) (ev C b st)
 | .call f as,st=>oSL (ev C as st) fun vs st=>(fn C f (st.sees f vs)).map fun v=>(v,st)
 | .meth m o as,st=>oS (ev C o st) fun x st=>oSL (ev C as st) fun vs st=>(meth m (st.see x) (vs.map st.see)).map fun v=>(v,st)
 | .idx a i,st=>oS (ev C a st) fun x st=>oSI (ev C i st) fun k st=>(idxV (st.see x) k).map fun v=>(v,st)
 | .slc a lo hi,st=>oS (ev C a st) fun x st=>oS (ev C lo st) fun l st=>oS (ev C hi st) fun h st=>(bnd l).bind fun l=>(bnd h).bind fun h=>(slcV (st.see x) l h).map fun v=>(v,st)
 | .rev a,st=>oS (ev C a st) fun x st=>(st.see x).list?.map fun l=>(.list l.reverse,st)
 | .lst as,st=>oSL (ev C as st) fun vs st=>some (.list vs,st)
 | .tupl as,st=>oSL (ev C as st) fun vs st=>some (.tup vs,st)
 | .comp own g,st=>oSL (ev C g st) fun vs st=>(okL vs).map fun v=>(v,own.foldl St.clr st)
 | .nil,st=>some (.list [],st)
 | .cons a as,st=>oS (ev C a st) fun v st=>oSL (ev C as st) fun vs st=>some (.list (v :: vs),st)
 | .gen it t ifs rest,st=>oS (ev C it st) fun x st=>(items x).bind fun l=>(turns (fun v st=>(setTg st t v).bind fun st=>oS (ev C ifs st) fun c st=>oT (truth (st.see c)) (oSL (ev C rest st) fun vs st=>some (vs,st)) (some ([],st))) l st).map fun r=>(.list r.1,r.2)
 | .emit e,st=>oS (ev C e st) fun v st=>some (.list [v],st)
 | .enm a,st=>oSL (ev C a st) fun l st=>some (.list (enum 0 l),st)
 | .tok i,st=>oR (st.get i) fun n=>st.tok n
 | .line i,st=>oR (st.get i) fun n=>(st.line n).map fun k=>(.int k,st)
 | .newlex a,st=>oSS (ev C a st) fun x st=>some (.mref st.mu.length,{ st with mu:=st.mu ++ [.lex x 1 []] })
 | .fresh a,st=>oSL (ev C a st) fun l st=>some (.mref st.mu.length,{ st with mu:=st.mu ++ [.list l] })
noncomputable def loop (f:V→St→Option (Fl × St)):List V→St→Option (Fl × St)
 | [],st=>some (.next,st)
 | v :: r,st=>oF (f v st) fun st=>loop f r st
noncomputable def whl (c:St→Option (Bool × St)) (f:St→Option (Fl × St)):Nat→St→Option (Fl × St)
 | 0,_=>none
 | n + 1,st=>oE (c st) (fun st=>oF (f st) fun st=>whl c f n st) fun st=>some (.next,st)
noncomputable def evT (C:Con) (c:X) (st:St):Option (Bool × St):=oS (ev C c st) fun x st=>(truth (st.see x)).map fun b=>(b,st)
noncomputable def ex (C:Con) (N:Nat):S→St→Option (Fl × St)
 | .skip,st=>some (.next,st)
 | .seq a b,st=>oF (ex C N a st) fun st=>ex C N b st
 | .asg i e,st=>oS (ev C e st) fun v st=>some (.next,st.set i v)
 | .tasg is e,st=>oST (ev C e st) fun vs st=>(setAll st is vs).map fun st=>(.next,st)
 | .casg i j e,st=>oS (ev C e st) fun v st=>some (.next,(st.set i v).set j v)
 | .frz i,st=>oR (st.get i) fun n=>oMl st.mu[n]? fun l=>some (.next,{ vars:=st.vars.set i (some (.list l)),mu:=st.mu.set n .dead })
 | .aug i o e,st=>(st.get i).bind fun x=>oS (ev C e st) fun y st=>(aop o x (st.see y)).map fun v=>(.next,st.set i v)
 | .seti i j e,st=>oS (ev C e st) fun v st=>oR (st.get i) fun n=>oSI (ev C j st) fun k st=>oMl st.mu[n]? fun l=>gd (decide (0 ≤ k) && decide (k < l.length)) (some (.next,{ st with mu:=st.mu.set n (.list (l.set k.toNat v)) }))
 | .del i j,st=>oR (st.get i) fun n=>oSI (ev C j st) fun k st=>oMl st.mu[n]? fun l=>gd ((k == 0 || k == -1) && !l.isEmpty) (some (.next,{ st with mu:=st.mu.set n (.list (if k == 0 then l.drop 1 else l.take (l.length - 1))) }))
 | .app i e,st=>oR (st.get i) fun n=>oMl st.mu[n]? fun _=>oS (ev C e st) fun v st=>oMl st.mu[n]? fun l=>gd (decide (l.length ≤ 1000000)) (some (.next,{ st with mu:=st.mu.set n (.list (l ++ [v])) }))
 | .push i e,st=>oR (st.get i) fun n=>st.mu[n]?.bind fun m=>gd m.isLex (oS (ev C e st) fun v st=>(st.push n v).map fun st=>(.next,st))
 | .ite c a b,st=>oE (evT C c st) (fun st=>ex C N a st) fun st=>ex C N b st
 | .whl c a,st=>whl (evT C c) (ex C N a) N st
 | .for_ t it b,st=>oS (ev C it st) fun x st=>(items x).bind fun l=>loop (fun v st=>(setTg st t v).bind fun st=>ex C N b st) l st
 | .fore i j e b,st=>oSS (ev C e st) fun x st=>loop (fun v st=>(setTg st (.two i j) v).bind fun st=>ex C N b st) (escGo 0 false x) st
 | .ret e,st=>oS (ev C e st) fun v st=>some (.ret v,st)
 | .assert c,st=>oE (evT C c st) (fun st=>some (.next,st)) fun _=>none
section
variable {α:Type} {o:Option (V × St)} {st:St}
theorem oS_eq {v:V} (h:o = some (v,st)) (k:V→St→Option α):oS o k = k v st:=h ▸ rfl
theorem oSL_eq {v:List V} (h:o = some (.list v,st)) (k:List V→St→Option α):oSL o k = k v st:=h ▸ rfl
theorem oSI_eq {v:Int} (h:o = some (.int v,st)) (k:Int→St→Option α):oSI o k = k v st:=h ▸ rfl
theorem oSS_eq {v:T} (h:o = some (.str v,st)) (k:T→St→Option α):oSS o k = k v st:=h ▸ rfl
theorem oST_eq {v:List V} (h:o = some (.tup v,st)) (k:List V→St→Option α):oST o k = k v st:=h ▸ rfl
theorem oR_eq {o:Option V} {n:Nat} (h:o = some (.mref n)) (k:Nat→Option α):oR o k = k n:=h ▸ rfl
theorem oMl_eq {o:Option Mo} {l:List V} (h:o = some (.list l)) (k:List V→Option α):oMl o k = k l:=h ▸ rfl
theorem oT_t {o:Option Bool} {a b:Option α} (h:o = some true):oT o a b = a:=h ▸ rfl
theorem oT_f {o:Option Bool} {a b:Option α} (h:o = some false):oT o a b = b:=h ▸ rfl
theorem oE_t {o:Option (Bool × St)} {k l:St→Option α} (h:o = some (true,st)):oE o k l = k st:=h ▸ rfl
theorem oE_f {o:Option (Bool × St)} {k l:St→Option α} (h:o = some (false,st)):oE o k l = l st:=h ▸ rfl
theorem oF_n {o:Option (Fl × St)} {k:St→Option (Fl × St)} (h:o = some (.next,st)):oF o k = k st:=h ▸ rfl
theorem oF_r {o:Option (Fl × St)} {k:St→Option (Fl × St)} {v:V} (h:o = some (.ret v,st)):oF o k = some (.ret v,st):=by rw [h];rfl
theorem oMap {β:Type} {o:Option β} {b:β} (f:β→α) (h:o = some b):o.map f = some (f b):=h ▸ rfl
end
end Mine
namespace Mine
open PySem PyProof.Rows
inductive Loc where
 | no
 | ns (a:Addr) (x:Str)
 | cell (a:Addr)
noncomputable def Loc.addr?:Loc→Option Addr
 | .no=>none
 | .ns a _=>some a
 | .cell a=>some a
noncomputable def Loc.holds (h:Heap) (val:Value):Loc→Prop
 | .no=>False
 | .ns a x=>∃ m,h.Ns a m ∧ m x = some val
 | .cell a=>h.IsCell a (some val)
noncomputable def Loc.ok (h:Heap):Loc→Prop
 | .no=>True
 | .ns a _=>∃ m,h.Ns a m
 | .cell a=>∃ v,h.IsCell a v
noncomputable def Loc.apart:Loc→Loc→Prop
 | .ns a x,.ns b y=>a = b→x ≠ y
 | .ns a _,.cell b=>a ≠ b
 | .cell a,.ns b _=>a ≠ b
 | .cell a,.cell b=>a ≠ b
 | _,_=>True
noncomputable abbrev listO (l:List Value) (n:Nat):Obj:={ cls:=.type "list",dict:=none,data:=.seq l.toArray n,slots:=#[] }
noncomputable abbrev tupO (l:List Value) (n:Nat):Obj:={ cls:=.type "tuple",dict:=none,data:=.seq l.toArray n,slots:=#[] }
noncomputable abbrev rngO (a b c:Int) (t u v:Tok):Obj:={ cls:=.type "range",dict:=none,data:=.fields #[.int a t,.int b u,.int c v],slots:=#[] }
noncomputable abbrev MuExt (mu mu':List (List Addr)):Prop:=∀ (n:Nat) (f:List Addr),mu[n]? = some f→mu'[n]? = some f
mutual
inductive VR (Z:Addr→Prop) (mu:List (List Addr)) (h:Heap):V→Value→Prop
 | none:VR Z mu h .none .none
 | bool {b:Bool}:VR Z mu h (.bool b) (.bool b)
 | int {i:Int} {t:Tok}:VR Z mu h (.int i) (.int i t)
 | str {x:T} {t:Tok}:x.length ≤ 16777216→VR Z mu h (.str x) (.str (strOf x) t)
 | list {vs:List V} {a:Addr} {l:List Value} {n:Nat}:Z a→h.get? a = some (listO l n)→vs.length ≤ 16777216→VRs Z mu h vs l→VR Z mu h (.list vs) (.ref a)
 | tup {vs:List V} {a:Addr} {l:List Value} {n:Nat}:Z a→h.get? a = some (tupO l n)→vs.length ≤ 16777216→VRs Z mu h vs l→VR Z mu h (.tup vs) (.ref a)
 | rng {i j k:Int} {a:Addr} {t u v:Tok}:Z a→h.get? a = some (rngO i j k t u v)→small i = true→small j = true→k ≤ 1000000→0 < k→VR Z mu h (.rng i j k) (.ref a)
 | mref {n:Nat} {a:Addr} {f:List Addr}:mu[n]? = some (a :: f)→VR Z mu h (.mref n) (.ref a)
inductive VRs (Z:Addr→Prop) (mu:List (List Addr)) (h:Heap):List V→List Value→Prop
 | nil:VRs Z mu h [] []
 | cons {v:V} {w:Value} {vs:List V} {ws:List Value}:VR Z mu h v w→VRs Z mu h vs ws→VRs Z mu h (v :: vs) (w :: ws)
end
theorem VR.mono {Z Z':Addr→Prop} {mu mu':List (List Addr)} {h h':Heap} (hZ:∀ b,Z b→Z' b) (hmu:MuExt mu mu') (hh:∀ b,Z b→h'.get? b = h.get? b)
  {v:V} {w:Value} (r:VR Z mu h v w):VR Z' mu' h' v w:=by
 refine VR.rec (motive_1:=fun v w _=>VR Z' mu' h' v w) (motive_2:=fun v w _=>VRs Z' mu' h' v w) .none .bool .int (fun a=>.str a) ?_ ?_ ?_ ?_ .nil ?_ r
 ·intro vs a l n z e len _ ih;exact .list (hZ _ z) ((hh _ z).trans e) len ih
 ·intro vs a l n z e len _ ih;exact .tup (hZ _ z) ((hh _ z).trans e) len ih
 ·intro i j k a t u v z e s1 s2 s3 p;exact .rng (hZ _ z) ((hh _ z).trans e) s1 s2 s3 p
 ·intro n a f e;exact .mref (hmu _ _ e)
 ·intro v w vs ws _ _ i1 i2;exact .cons i1 i2
section
variable {Z Z':Addr→Prop} {mu mu':List (List Addr)} {h h':Heap} {v v':List V} {w w':List Value}
@[elab_as_elim] theorem VRs.ind {P:List V→List Value→Prop} (r:VRs Z mu h v w) (hn:P [] []) (hc:∀ {x y vs ws},VR Z mu h x y→VRs Z mu h vs ws→P vs ws→P (x :: vs) (y :: ws)):P v w:=by
 revert w
 induction v with
 | nil=>intro w r;cases r;exact hn
 | cons a v ih=>intro w r;cases r with | cons a rs=>exact hc a rs (ih rs)
theorem VRs.mono (hZ:∀ b,Z b→Z' b) (hmu:MuExt mu mu') (hh:∀ b,Z b→h'.get? b = h.get? b) (r:VRs Z mu h v w):VRs Z' mu' h' v w:=r.ind .nil fun a _ ih=>.cons (a.mono hZ hmu hh) ih
theorem VRs.length (r:VRs Z mu h v w):w.length = v.length:=r.ind rfl fun _ _ ih=>congrArg (· + 1) ih
theorem VRs.get (r:VRs Z mu h v w):∀ (i:Nat) (x:V),v[i]? = some x→∃ y,w[i]? = some y ∧ VR Z mu h x y:=by
 refine r.ind (fun i x e=>nso e) fun {x y vs ws} a _ ih i x' e=>?_
 cases i with
 | zero=>obtain rfl:=Option.some.inj e;exact ⟨y,rfl,a⟩
 | succ i=>exact ih i x' e
theorem VRs.of_get:∀ {w:List Value},w.length = v.length→(∀ (i:Nat) (x:V) (y:Value),v[i]? = some x→w[i]? = some y→VR Z mu h x y)→VRs Z mu h v w:=by
 induction v with
 | nil=>intro w e _;simp only [List.length_eq_zero_iff.mp e];exact .nil
 | cons a v ih =>
  intro w e k
  cases w with
  | nil=>first | exact nso e | exact fat e | cases e
  | cons b w=>exact .cons (k 0 a b rfl rfl) (ih (Nat.succ.inj e) fun i x y hx hy=>k (i + 1) x y hx hy)
theorem VRs.append (r:VRs Z mu h v w) (r':VRs Z mu h v' w'):VRs Z mu h (v ++ v') (w ++ w'):=r.ind (P:=fun v w=>VRs Z mu h (v ++ v') (w ++ w')) r' fun a _ ih=>.cons a ih
theorem VRs.drop (n:Nat) (r:VRs Z mu h v w):VRs Z mu h (v.drop n) (w.drop n):=by
 revert n
 refine r.ind (fun n=>by simp only [List.drop_nil,List.drop_nil];exact .nil) fun {x y vs ws} a rs ih n=>?_
 cases n with
 | zero=>exact .cons a rs
 | succ n=>exact ih n
theorem VRs.take (n:Nat) (r:VRs Z mu h v w):VRs Z mu h (v.take n) (w.take n):=by
 revert n
 refine r.ind (fun n=>by simp only [List.take_nil,List.take_nil];exact .nil) fun {x y vs ws} a rs ih n=>?_
 cases n with
 | zero=>exact .nil
 | succ n=>exact .cons a (ih n)
theorem VRs.reverse (r:VRs Z mu h v w):VRs Z mu h v.reverse w.reverse :=
 r.ind .nil fun a _ ih=>by simp only [List.reverse_cons,List.reverse_cons];exact ih.append (.cons a .nil)
theorem VRs.set {x:V} {y:Value} (a:VR Z mu h x y) (n:Nat) (r:VRs Z mu h v w):VRs Z mu h (v.set n x) (w.set n y):=by
 revert n
 refine r.ind (fun n=>.nil) fun {x y vs ws} b rs ih n=>?_
 cases n with
 | zero=>exact .cons a rs
 | succ n=>exact .cons b (ih n)
end
structure LexI where
 R:(Addr→Prop)→List (List Addr)→Heap→List Addr→T→Int→List V→Prop
 mono:∀ {Z Z':Addr→Prop} {mu mu':List (List Addr)} {h h':Heap} {fp:List Addr} {l:T} {n:Int} {p:List V},(∀ b,Z b→Z' b)→MuExt mu mu'→(∀ b,Z b ∨ b ∈ fp→h'.get? b = h.get? b)→R Z mu h fp l n p→R Z' mu' h' fp l n p
 alive:∀ {Z:Addr→Prop} {mu:List (List Addr)} {h:Heap} {fp:List Addr} {l:T} {n:Int} {p:List V},R Z mu h fp l n p→∀ b ∈ fp,∃ o,h.get? b = some o
 tb:Addr
 TB:(Addr→Prop)→Heap→Prop
 tmono:∀ {Z Z':Addr→Prop} {h h':Heap},(∀ b,Z b→Z' b)→(∀ b,Z b ∨ b = tb→h'.get? b = h.get? b)→TB Z h→TB Z' h'
 talive:∀ {Z:Addr→Prop} {h:Heap},TB Z h→∃ o,h.get? tb = some o
structure RS where
 dt:List Loc
 mu:List (List Addr)
 Z:Addr→Prop
 P:Addr→Prop
noncomputable def MR (I:LexI) (Z:Addr→Prop) (mu:List (List Addr)) (h:Heap) (fp:List Addr):Mo→Prop
 | .list vs=>∃ a l n,fp = [a] ∧ h.get? a = some (listO l n) ∧ vs.length ≤ 16777216 ∧ VRs Z mu h vs l
 | .lex left line push=>I.R Z mu h fp left line push
 | .dead=>True
noncomputable def Mo.alive:Mo→Prop
 | .dead=>False
 | _=>True
inductive VarAt (dt:List Loc) (Z:Addr→Prop) (mu:List (List Addr)) (h:Heap) (i:Nat) (v:V):Prop
 | mk (l:Loc) (val:Value):dt[i]? = some l→l.holds h val→VR Z mu h v val→VarAt dt Z mu h i v
structure Rel (I:LexI) (B:Addr→Option Obj) (os:OsState) (R:RS) (st:St) (s:Shared):Prop where
 base:∀ b o,B b = some o→R.Z b ∧ s.heap.get? b = some o
 zal:∀ b,R.Z b ∨ R.P b→∃ o,s.heap.get? b = some o
 len:st.vars.length = R.dt.length
 var:∀ (i:Nat) (v:V),st.vars[i]? = some (some v)→VarAt R.dt R.Z R.mu s.heap i v
 loc:∀ (i:Nat) (l:Loc),R.dt[i]? = some l→l.ok s.heap
 locf:∀ (i:Nat) (l:Loc) (a:Addr),R.dt[i]? = some l→l.addr? = some a→¬ R.Z a ∧ ¬ R.P a ∧ a ≠ I.tb
 apart:∀ (i j:Nat) (l l':Loc),i ≠ j→R.dt[i]? = some l→R.dt[j]? = some l'→l.apart l'
 mulen:st.mu.length = R.mu.length
 muo:∀ (n:Nat) (o:Mo),st.mu[n]? = some o→∃ f,R.mu[n]? = some f ∧ MR I R.Z R.mu s.heap f o
 fp:∀ (n:Nat) (f:List Addr) (b:Addr) (o:Mo),st.mu[n]? = some o→o.alive→R.mu[n]? = some f→b ∈ f→¬ R.Z b ∧ ¬ R.P b ∧ b ≠ I.tb ∧ ∀ (i:Nat) (l:Loc),R.dt[i]? = some l→l.addr? ≠ some b
 fpa:∀ (n m:Nat) (f g:List Addr) (b:Addr) (o:Mo),n ≠ m→st.mu[n]? = some o→o.alive→R.mu[n]? = some f→R.mu[m]? = some g→b ∈ f→b ∉ g
 dead:∀ (n:Nat) (f:List Addr) (b:Addr),R.mu[n]? = some f→b ∈ f→∃ o,s.heap.get? b = some o
 tbf:¬ R.Z I.tb ∧ ¬ R.P I.tb
 tab:I.TB R.Z s.heap
 bare:AllBare s.gens
 os:s.os = os
structure Step (R:RS) (s:Shared) (R':RS) (s':Shared):Prop where
 dt:R'.dt = R.dt
 P:R'.P = R.P
 Z:∀ b,R.Z b→R'.Z b
 mu:MuExt R.mu R'.mu
 own:∀ b,(R'.Z b ∨ ∃ (n:Nat) (f:List Addr),R'.mu[n]? = some f ∧ b ∈ f)→R.Z b ∨ (∃ (n:Nat) (f:List Addr),R.mu[n]? = some f ∧ b ∈ f) ∨ s.heap.get? b = none
 keep:∀ b,R.Z b ∨ R.P b→s'.heap.get? b = s.heap.get? b
 alive:∀ b o,s.heap.get? b = some o→∃ o',s'.heap.get? b = some o'
 gens:∀ (g:Nat) x,s.gens[g]? = some x→s'.gens[g]? = some x
theorem Step.refl (R:RS) (s:Shared):Step R s R s :=
 ⟨rfl,rfl,fun _ h=>h,fun _ _ h=>h,fun _ h=>h.elim .inl fun h=>.inr (.inl h),fun _ _=>rfl,fun _ o h=>⟨o,h⟩,fun _ _ h=>h⟩
theorem none_back {s s':Shared} (al:∀ b o,s.heap.get? b = some o→∃ o',s'.heap.get? b = some o') {b:Addr} (e:s'.heap.get? b = none):s.heap.get? b = none:=by
 cases h:s.heap.get? b with
 | none=>rfl
 | some o=>obtain ⟨o',h'⟩:=al b o h;rw [e] at h';exact nso h'
theorem Step.trans {R R' R'':RS} {s s' s'':Shared} (a:Step R s R' s') (b:Step R' s' R'' s''):Step R s R'' s'' where
 dt:=b.dt.trans a.dt
 P:=b.P.trans a.P
 Z:=fun x h=>b.Z x (a.Z x h)
 mu:=fun n f h=>b.mu n f (a.mu n f h)
 own:=fun x h=>by
  rcases b.own x h with h | h | h
  ·exact a.own x (.inl h)
  ·exact a.own x (.inr h)
  ·exact .inr (.inr (none_back a.alive h))
 keep:=fun x h=>(b.keep x (h.elim (fun z=>.inl (a.Z x z)) fun p=>.inr (by simp only [a.P];exact p))).trans (a.keep x h)
 alive:=fun x o h=>let ⟨o',h'⟩:=a.alive x o h;b.alive x o' h'
 gens:=fun g x h=>b.gens g x (a.gens g x h)
section
variable {I:LexI} {B:Addr→Option Obj} {os:OsState} {R R':RS} {st:St} {s s':Shared}
theorem Step.vr (a:Step R s R' s') {v:V} {w:Value} (r:VR R.Z R.mu s.heap v w):VR R'.Z R'.mu s'.heap v w:=r.mono a.Z a.mu fun b z=>a.keep b (.inl z)
theorem Step.vrs (a:Step R s R' s') {v:List V} {w:List Value} (r:VRs R.Z R.mu s.heap v w):VRs R'.Z R'.mu s'.heap v w:=r.mono a.Z a.mu fun b z=>a.keep b (.inl z)
theorem VarAt.mono {dt dt':List Loc} {Z Z':Addr→Prop} {mu mu':List (List Addr)} {h h':Heap} {i:Nat} {v:V} (r:VarAt dt Z mu h i v) (hd:∀ l val,dt[i]? = some l→l.holds h val→dt'[i]? = some l ∧ l.holds h' val) (hZ:∀ b,Z b→Z' b) (hmu:MuExt mu mu') (hh:∀ b,Z b→h'.get? b = h.get? b):VarAt dt' Z' mu' h' i v:=by
 cases r with | mk l val a b c=>exact .mk l val (hd l val a b).1 (hd l val a b).2 (c.mono hZ hmu hh)
theorem MR.mono {Z Z':Addr→Prop} {mu mu':List (List Addr)} {h h':Heap} {f:List Addr} (hZ:∀ b,Z b→Z' b) (hmu:MuExt mu mu') (hh:∀ b,Z b→h'.get? b = h.get? b)
  {o:Mo} (hf:o.alive→∀ b ∈ f,h'.get? b = h.get? b) (r:MR I Z mu h f o):MR I Z' mu' h' f o:=by
 cases o with
 | list vs =>
  refine Classical.byContradiction fun hcon=>?_
  refine (r).elim fun a k0=>k0.elim fun l k1=>k1.elim fun n k2=>k2.elim fun e k3=>k3.elim fun g k4=>k4.elim fun len r=>?_
  refine hcon ?_
  exact ⟨a,l,n,e,(hf trivial a (by rw [e];exact .head _)).trans g,len,r.mono hZ hmu hh⟩
 | lex=>exact I.mono hZ hmu (fun b h=>h.elim (hh b) (hf trivial b)) r
 | dead=>trivial
theorem Loc.holds_of {h h':Heap} {val:Value}:∀ {l:Loc},(∀ a,l.addr? = some a→h'.get? a = h.get? a)→l.holds h val→l.holds h' val
 | .no,_,x=>x
 | .ns a x,e,⟨m,⟨o,es,ep,g,r⟩,k⟩=>⟨m,⟨o,es,ep,(e a rfl).trans g,r⟩,k⟩
 | .cell a,e,⟨o,g,d⟩=>⟨o,(e a rfl).trans g,d⟩
theorem Loc.ok_of {h h':Heap}:∀ {l:Loc},(∀ a,l.addr? = some a→h'.get? a = h.get? a)→l.ok h→l.ok h'
 | .no,_,_=>trivial
 | .ns a x,e,⟨m,⟨o,es,ep,g,r⟩⟩=>⟨m,⟨o,es,ep,(e a rfl).trans g,r⟩⟩
 | .cell a,e,⟨v,⟨o,g,d⟩⟩=>⟨v,⟨o,(e a rfl).trans g,d⟩⟩
theorem Loc.alive {h:Heap} {a:Addr}:∀ {l:Loc},l.ok h→l.addr? = some a→∃ o,h.get? a = some o
 | .no,_,e=>by cases e
 | .ns b x,⟨m,⟨o,es,ep,g,_⟩⟩,e=>by obtain rfl:=Option.some.inj e;exact ⟨o,g⟩
 | .cell b,⟨v,⟨o,g,_⟩⟩,e=>by obtain rfl:=Option.some.inj e;exact ⟨o,g⟩
theorem MR.live {Z:Addr→Prop} {mu:List (List Addr)} {h:Heap} {f:List Addr} {b:Addr} (hb:b ∈ f) {o:Mo} (r:MR I Z mu h f o) (ha:o.alive):∃ x,h.get? b = some x:=by
 cases o with
 | list vs =>
  refine (r).elim fun a k0=>k0.elim fun l k1=>k1.elim fun n k2=>k2.elim fun e k3=>k3.elim fun g k4=>k4.elim fun _ _=>?_
  rw [e] at hb;rw [List.mem_singleton.mp hb];exact ⟨_,g⟩
 | lex=>exact I.alive r b hb
 | dead=>exact ha.elim
theorem Rel.mu_at (r:Rel I B os R st s) {n:Nat} {o:Mo} {f:List Addr} (hm:st.mu[n]? = some o) (hf:R.mu[n]? = some f):MR I R.Z R.mu s.heap f o:=by
 refine Classical.byContradiction fun hcon=>?_
 obtain ⟨g,h1,h2⟩:=r.muo n o hm
 cases hf.symm.trans h1
 refine hcon ?_
 exact h2
theorem Rel.muo' (r:Rel I B os R st s) {n:Nat} {o:Mo} {Z':Addr→Prop} {mu':List (List Addr)} {h':Heap} (hm:st.mu[n]? = some o) (hZ:∀ b,R.Z b→Z' b) (hmu:MuExt R.mu mu') (hh:∀ b,R.Z b→h'.get? b = s.heap.get? b)
  (hf:∀ f,R.mu[n]? = some f→o.alive→∀ b ∈ f,h'.get? b = s.heap.get? b):∃ f,mu'[n]? = some f ∧ MR I Z' mu' h' f o :=
 (r.muo n o hm).elim fun f k=>⟨f,hmu n f k.1,k.2.mono hZ hmu hh (hf f k.1)⟩
theorem same_of {h h':Heap} {b:Addr} (hk:∀ o,h.get? b = some o→h'.get? b = some o) (ha:∃ o,h.get? b = some o):h'.get? b = h.get? b:=ha.elim fun o e=>(hk o e).trans e.symm
theorem get_ge {h:Heap} {b:Addr} (hb:h.objs.size ≤ b):h.get? b = none:=by
 cases q:h.get? b with
 | none=>rfl
 | some o=>exact absurd (Heap.lt_size q) (Nat.not_lt.mpr hb)
theorem get_ne {h:Heap} {a b:Addr} {o:Obj} (hn:h.get? a = none) (hs:h.get? b = some o):a ≠ b:=fun e=>by rw [e,hs] at hn;exact nso hn.symm
theorem get_unlike {h:Heap} {a b:Addr} {o o':Obj} (h1:h.get? a = some o) (h2:h.get? b = some o') (hd:o.data = o'.data→False):a ≠ b:=fun e=>by rw [e,h2] at h1;exact hd (congrArg Obj.data (Option.some.inj h1.symm))
theorem get_unlike' {h:Heap} {a b:Addr} {o o':Obj} (h1:h.get? a = some o) (h2:h.get? b = some o') (hd:o.cls = o'.cls→False):a ≠ b:=fun e=>by rw [e,h2] at h1;exact hd (congrArg Obj.cls (Option.some.inj h1.symm))
theorem ne_none {h:Heap} {b:Addr} {P:Prop} (ha:∃ o,h.get? b = some o) (hn:h.get? b = none):P:=ha.elim fun o e=>by rw [hn] at e;exact nso e
theorem Rel.grow (r:Rel I B os R st s) {h':Heap} {tk:Nat} {gn:Array GenState} (Z':Addr→Prop) (hk:∀ b o,s.heap.get? b = some o→h'.get? b = some o) (hg:∀ (g:Nat) x,s.gens[g]? = some x→gn[g]? = some x) (hgb:AllBare gn)
  (hZ:∀ b,R.Z b→Z' b) (hZn:∀ b,Z' b→R.Z b ∨ s.heap.get? b = none) (hZa:∀ b,Z' b→∃ o,h'.get? b = some o) :
  Rel I B os { R with Z:=Z' } st { s with heap:=h',toks:=tk,gens:=gn } ∧ Step R s { R with Z:=Z' } { s with heap:=h',toks:=tk,gens:=gn }:=by
 have same:∀ {b:Addr},(∃ o,s.heap.get? b = some o)→h'.get? b = s.heap.get? b:=fun e=>same_of (hk _) e
 have hZk:∀ b,R.Z b→h'.get? b = s.heap.get? b:=fun b z=>same (r.zal b (.inl z))
 have notnew:∀ {b:Addr},(∃ o,s.heap.get? b = some o)→¬ R.Z b→¬ Z' b:=fun e nz z=>(hZn _ z).elim nz (ne_none e)
 exact ⟨⟨fun b o e=>⟨hZ b (r.base b o e).1,hk b o (r.base b o e).2⟩,fun b h=>h.elim (hZa b) fun h=>(r.zal b (.inr h)).imp fun o=>hk b o,r.len,
   fun i v e=>(r.var i v e).mono (fun l val h1 h2=>⟨h1,l.holds_of (fun a ha=>same (l.alive (r.loc i l h1) ha)) h2⟩) hZ (fun _ _ h=>h) hZk,fun i l e=>l.ok_of (fun a ha=>same (l.alive (r.loc i l e) ha)) (r.loc i l e),
   fun i l a e ea=>⟨notnew (l.alive (r.loc i l e) ea) (r.locf i l a e ea).1,(r.locf i l a e ea).2⟩,r.apart,r.mulen,fun n o e=>r.muo' e hZ (fun _ _ h=>h) hZk fun f hf al b hb=>same ((r.mu_at e hf).live hb al),
   fun n f b o e al ef hb=>⟨notnew ((r.mu_at e ef).live hb al) (r.fp n f b o e al ef hb).1,(r.fp n f b o e al ef hb).2⟩,r.fpa,fun n f b e hb=>(r.dead n f b e hb).imp fun o=>hk b o,⟨notnew (I.talive r.tab) r.tbf.1,r.tbf.2⟩,
   I.tmono hZ (fun b h=>h.elim (hZk b) fun e=>by rw [e];exact same (I.talive r.tab)) r.tab,hgb,r.os⟩,
  ⟨rfl,rfl,hZ,fun _ _ h=>h,fun b h=>h.elim (fun h=>(hZn b h).imp_right .inr) fun h=>.inr (.inl h),fun b h=>same (r.zal b h),fun b o e=>⟨o,hk b o e⟩,hg⟩⟩
theorem Rel.keeps (r:Rel I B os R st s) {h':Heap} {tk:Nat} (hk:∀ b o,s.heap.get? b = some o→h'.get? b = some o) :
  Rel I B os R st { s with heap:=h',toks:=tk } ∧ Step R s R { s with heap:=h',toks:=tk } :=
 r.grow R.Z hk (fun _ _ h=>h) r.bare (fun _ h=>h) (fun _ h=>.inl h) fun b h=>let ⟨o,e⟩:=r.zal b (.inl h);⟨o,hk _ _ e⟩
theorem Rel.toks (r:Rel I B os R st s) {tk:Nat}:Rel I B os R st { s with toks:=tk } ∧ Step R s R { s with toks:=tk }:=r.keeps (h':=s.heap) fun _ _ e=>e
noncomputable def RS.add (R:RS) (a:Addr):RS:={ R with Z:=fun b=>R.Z b ∨ b = a }
theorem Rel.new (r:Rel I B os R st s) {h':Heap} {tk:Nat} {a:Addr} (hk:∀ b o,s.heap.get? b = some o→h'.get? b = some o) (ha:s.heap.get? a = none) (ha':∃ o,h'.get? a = some o) :
  Rel I B os (R.add a) st { s with heap:=h',toks:=tk } ∧ Step R s (R.add a) { s with heap:=h',toks:=tk } :=
 r.grow (fun b=>R.Z b ∨ b = a) hk (fun _ _ h=>h) r.bare (fun _ h=>.inl h) (fun b h=>h.imp id fun e=>by rw [e];exact ha) fun b h=>h.elim (fun z=>let ⟨o,e⟩:=r.zal b (.inl z);⟨o,hk _ _ e⟩) fun e=>by rw [e];exact ha'
theorem SameBut.alive {h h':Heap} {a:Addr} (hs:Heap.SameBut a h h') (ha:∃ o,h'.get? a = some o) (b:Addr) (o:Obj) (e:h.get? b = some o):∃ o',h'.get? b = some o':=by
 by_cases q:b = a
 ·rw [q];exact ha
 ·exact ⟨o,(hs.2 b q).trans e⟩
theorem Rel.store (r:Rel I B os R st s) {h':Heap} {tk:Nat} {i:Nat} {l:Loc} {a:Addr} {v:V} {val:Value} (hi:R.dt[i]? = some l) (ha:l.addr? = some a) (hs:Heap.SameBut a s.heap h') (hh:l.holds h' val) (hk:l.ok h')
  (hl:∀ l':Loc,l'.apart l→(∀ w:Value,l'.holds s.heap w→l'.holds h' w) ∧ (l'.ok s.heap→l'.ok h')) (hv:VR R.Z R.mu s.heap v val) :
  Rel I B os R (st.set i v) { s with heap:=h',toks:=tk } ∧ Step R s R { s with heap:=h',toks:=tk }:=by
 have own:=r.locf i l a hi ha
 have hZk:∀ b,R.Z b ∨ R.P b→h'.get? b = s.heap.get? b:=fun b z=>hs.2 b fun e=>by subst e;exact z.elim own.1 own.2.1
 have hZl:∀ b,R.Z b→h'.get? b = s.heap.get? b:=fun b z=>hZk b (.inl z)
 have al:=SameBut.alive hs (Loc.alive hk ha)
 refine ⟨⟨fun b o e=>⟨(r.base b o e).1,(hZl b (r.base b o e).1).trans (r.base b o e).2⟩,fun b h=>(r.zal b h).elim (al b),(List.length_set).trans r.len,fun j v' e=>?_,fun j l' e=>?_,r.locf,r.apart,r.mulen,
   fun n o e=>r.muo' e (fun _ h=>h) (fun _ _ h=>h) hZl fun f hf alv b hb=>hs.2 b fun q=>(r.fp n f b o e alv hf hb).2.2.2 i l hi (q ▸ ha),r.fp,r.fpa,fun n f b e hb=>(r.dead n f b e hb).elim (al b),r.tbf,
   I.tmono (fun _ h=>h) (fun b h=>h.elim (hZl b) fun e=>hs.2 b fun q=>own.2.2 (q ▸ e)) r.tab,r.bare,r.os⟩,
  ⟨rfl,rfl,fun _ h=>h,fun _ _ h=>h,fun _ h=>h.elim .inl fun h=>.inr (.inl h),hZk,al,fun _ _ h=>h⟩⟩
 ·replace e:(st.vars.set i (some v))[j]? = some (some v'):=e
  by_cases q:i = j
  ·subst q
   rw [List.getElem?_set_self (by simp only [r.len];exact (List.getElem?_eq_some_iff.mp hi).1)] at e
   cases e
   exact .mk l val hi hh (hv.mono (fun _ h=>h) (fun _ _ h=>h) hZl)
  ·rw [List.getElem?_set_ne q] at e
   exact (r.var j v' e).mono (fun l' w h1 h2=>⟨h1,(hl l' (r.apart j i l' l (Ne.symm q) h1 hi)).1 w h2⟩) (fun _ h=>h) (fun _ _ h=>h) hZl
 ·by_cases q:i = j
  ·subst q;rw [hi] at e;obtain rfl:=Option.some.inj e;exact hk
  ·exact (hl l' (r.apart j i l' l (Ne.symm q) e hi)).2 (r.loc j l' e)
theorem ns_fun {h:Heap} {a:Addr} {m m':Str→Option Value} (x:h.Ns a m) (y:h.Ns a m'):m = m':=by
 refine Classical.byContradiction fun hcon=>?_
 refine (x).elim fun o k0=>k0.elim fun es k1=>k1.elim fun ep k2=>k2.elim fun g k3=>k3.elim fun d k4=>k4.elim fun _ k=>?_
 obtain ⟨o',es',ep',g',d',_,k'⟩:=y
 refine hcon ?_
 rw [g] at g';cases g'
 rw [d] at d';cases d'
 funext n;simp only [← k n,k' n]
theorem Rel.store_ns (r:Rel I B os R st s) {h':Heap} {tk:Nat} {i:Nat} {a:Addr} {x:Str} {m:Str→Option Value} {v:V} {val:Value} (hi:R.dt[i]? = some (.ns a x)) (hm:s.heap.Ns a m)
  (hn:h'.Ns a (fun y=>if y = x then some val else m y)) (hs:Heap.SameBut a s.heap h') (hv:VR R.Z R.mu s.heap v val) :
  Rel I B os R (st.set i v) { s with heap:=h',toks:=tk } ∧ Step R s R { s with heap:=h',toks:=tk }:=by
 refine r.store hi rfl hs ⟨_,hn,by simp⟩ ⟨_,hn⟩ (fun l' q=>?_) hv
 cases l' with
 | no=>exact ⟨fun _ h=>h,fun h=>h⟩
 | ns b y =>
  by_cases e:b = a
  ·subst e
   refine ⟨fun w ⟨m',h1,h2⟩=>⟨_,hn,?_⟩,fun _=>⟨_,hn⟩⟩
   rw [ns_fun h1 hm] at h2
   have:y ≠ x:=q rfl
   simp [this,h2]
  ·exact ⟨fun w h=>Loc.holds_of (l:=.ns b y) (fun c hc=>hs.2 c (by obtain rfl:=Option.some.inj hc;exact e)) h,fun h=>Loc.ok_of (l:=.ns b y) (fun c hc=>hs.2 c (by obtain rfl:=Option.some.inj hc;exact e)) h⟩
 | cell b =>
  have e:b ≠ a:=q
  exact ⟨fun w h=>Loc.holds_of (l:=.cell b) (fun c hc=>hs.2 c (by obtain rfl:=Option.some.inj hc;exact e)) h,fun h=>Loc.ok_of (l:=.cell b) (fun c hc=>hs.2 c (by obtain rfl:=Option.some.inj hc;exact e)) h⟩
theorem Rel.store_cell (r:Rel I B os R st s) {h':Heap} {tk:Nat} {i:Nat} {a:Addr} {v:V} {val:Value} (hi:R.dt[i]? = some (.cell a))
  (hn:h'.IsCell a (some val)) (hs:Heap.SameBut a s.heap h') (hv:VR R.Z R.mu s.heap v val) :
  Rel I B os R (st.set i v) { s with heap:=h',toks:=tk } ∧ Step R s R { s with heap:=h',toks:=tk }:=by
 refine r.store hi rfl hs hn ⟨_,hn⟩ (fun l' q=>?_) hv
 have e:∀ b,l'.addr? = some b→b ≠ a:=fun b hb=>by
  cases l' with
  | no=>exact nso hb
  | ns c y=>obtain rfl:=Option.some.inj hb;exact q
  | cell c=>obtain rfl:=Option.some.inj hb;exact q
 exact ⟨fun w h=>Loc.holds_of (fun c hc=>hs.2 c (e c hc)) h,fun h=>Loc.ok_of (fun c hc=>hs.2 c (e c hc)) h⟩
theorem Rel.putmo (r:Rel I B os R st s) {h':Heap} {tk:Nat} {n:Nat} {f:List Addr} {o o':Mo} (hm:st.mu[n]? = some o) (ho:o.alive) (hf:R.mu[n]? = some f) (hk:∀ b x,b ∉ f→s.heap.get? b = some x→h'.get? b = some x)
  (hR:MR I R.Z R.mu h' f o') (ha:∀ b ∈ f,∃ x,h'.get? b = some x):Rel I B os R { st with mu:=st.mu.set n o' } { s with heap:=h',toks:=tk } ∧ Step R s R { s with heap:=h',toks:=tk }:=by
 have same:∀ {b:Addr},b ∉ f→(∃ o,s.heap.get? b = some o)→h'.get? b = s.heap.get? b:=fun nb e=>same_of (fun o=>hk _ o nb) e
 have own:=fun b hb=>r.fp n f b _ hm ho hf hb
 have hZk:∀ b,R.Z b ∨ R.P b→h'.get? b = s.heap.get? b:=fun b z=>same (fun hb=>z.elim (own b hb).1 (own b hb).2.1) (r.zal b z)
 have hZl:∀ b,R.Z b→h'.get? b = s.heap.get? b:=fun b z=>hZk b (.inl z)
 have al:∀ b o,s.heap.get? b = some o→∃ o',h'.get? b = some o':=fun b o e=>by
  by_cases q:b ∈ f
  ·exact ha b q
  ·exact ⟨o,hk b o q e⟩
 have mem:∀ {m:Nat} {x:Mo},(st.mu.set n o')[m]? = some x→x.alive→∃ y,st.mu[m]? = some y ∧ y.alive:=fun {m x} e al=>by
  by_cases q:n = m
  ·subst q;exact ⟨_,hm,ho⟩
  ·rw [List.getElem?_set_ne q] at e;exact ⟨x,e,al⟩
 refine ⟨⟨fun b o e=>⟨(r.base b o e).1,(hZl b (r.base b o e).1).trans (r.base b o e).2⟩,fun b h=>(r.zal b h).elim (al b),r.len,fun j v' e=>(r.var j v' e).mono (fun l w h1 h2=>⟨h1,l.holds_of (fun c hc=>same (fun q=>(own c q).2.2.2 j l h1 hc) (l.alive (r.loc j l h1) hc)) h2⟩) (fun _ h=>h) (fun _ _ h=>h) hZl,
   fun j l' e=>l'.ok_of (fun c hc=>same (fun q=>(own c q).2.2.2 j l' e hc) (l'.alive (r.loc j l' e) hc)) (r.loc j l' e),r.locf,r.apart,(List.length_set).trans r.mulen,fun m o e=>?_,
   fun m f b o e al=>(mem e al).elim fun o' h=>r.fp m f b o' h.1 h.2,fun m m' f g b o q e al=>(mem e al).elim fun o' h=>r.fpa m m' f g b o' q h.1 h.2,fun n f b e hb=>(r.dead n f b e hb).elim (al b),r.tbf,
   I.tmono (fun _ h=>h) (fun b h=>h.elim (hZl b) fun e=>by rw [e];exact same (fun q=>(own _ q).2.2.1 rfl) (I.talive r.tab)) r.tab,r.bare,r.os⟩,
  ⟨rfl,rfl,fun _ h=>h,fun _ _ h=>h,fun _ h=>h.elim .inl fun h=>.inr (.inl h),hZk,al,fun _ _ h=>h⟩⟩
 by_cases q:n = m
 ·subst q
  rw [List.getElem?_set_self (List.getElem?_eq_some_iff.mp hm).1] at e
  obtain rfl:=Option.some.inj e
  exact ⟨f,hf,hR⟩
 ·rw [List.getElem?_set_ne q] at e
  exact r.muo' e (fun _ h=>h) (fun _ _ h=>h) hZl fun g hg alv b hb=>same (fun hb'=>r.fpa n m f g b _ q hm ho hf hg hb' hb) (r.dead m g b hg hb)
theorem Rel.put (r:Rel I B os R st s) {h':Heap} {tk:Nat} {n:Nat} {a:Addr} {vs vs':List V} {l':List Value} {k':Nat} (hm:st.mu[n]? = some (.list vs)) (ha:R.mu[n]? = some [a]) (hs:Heap.SameBut a s.heap h')
  (hn:h'.get? a = some (listO l' k')) (hv:VRs R.Z R.mu s.heap vs' l') (hlen:vs'.length ≤ 16777216) :
  Rel I B os R { st with mu:=st.mu.set n (.list vs') } { s with heap:=h',toks:=tk } ∧ Step R s R { s with heap:=h',toks:=tk } :=
 r.putmo hm trivial ha (fun b x hb e=>(hs.2 b fun q=>hb (q ▸ .head _)).trans e) ⟨a,l',k',rfl,hn,hlen,hv.mono (fun _ h=>h) (fun _ _ h=>h) fun b z=>hs.2 b fun q=>(r.fp n [a] a _ hm trivial ha (.head _)).1 (q ▸ z)⟩ fun b hb=>by rw [List.mem_singleton.mp hb];exact ⟨_,hn⟩
theorem Rel.freeze (r:Rel I B os R st s) {n i:Nat} {vs:List V} (hi:st.get i = some (.mref n)) (hm:st.mu[n]? = some (.list vs)) :
  ∃ R',Rel I B os R' { vars:=st.vars.set i (some (.list vs)),mu:=st.mu.set n .dead } s ∧ Step R s R' s:=by
 refine Classical.byContradiction fun hcon=>?_
 obtain ⟨f,hf,a,l,k,rfl,hg,hlen,hv⟩:=r.muo n _ hm
 refine hcon ?_
 have own:=r.fp n [a] a _ hm trivial hf (.head _)
 have hZ:∀ b,R.Z b→(R.add a).Z b:=fun b h=>.inl h
 have hlt:n < st.mu.length:=(List.getElem?_eq_some_iff.mp hm).1
 have stay:∀ {m:Nat} {o:Mo},(st.mu.set n .dead)[m]? = some o→o.alive→n ≠ m ∧ st.mu[m]? = some o:=fun {m o} e al=>by
  by_cases q:n = m
  ·subst q;rw [List.getElem?_set_self hlt] at e;obtain rfl:=Option.some.inj e;exact al.elim
  ·rw [List.getElem?_set_ne q] at e;exact ⟨q,e⟩
 refine ⟨R.add a,⟨fun b o e=>⟨hZ b (r.base b o e).1,(r.base b o e).2⟩,fun b h=>h.elim (fun h=>h.elim (fun h=>r.zal b (.inl h)) fun h=>⟨_,h ▸ hg⟩) fun h=>r.zal b (.inr h),(List.length_set).trans r.len,fun j v e=>?_,r.loc,
   fun j l' b e eb=>⟨fun z=>z.elim (r.locf j l' b e eb).1 fun q=>own.2.2.2 j l' e (q ▸ eb),(r.locf j l' b e eb).2⟩,r.apart,(List.length_set).trans r.mulen,fun m o e=>?_,
   fun m g b o e al eg hb=>⟨fun z=>z.elim (r.fp m g b o (stay e al).2 al eg hb).1 fun e2=>r.fpa n m [a] g a _ (stay e al).1 hm trivial hf eg (.head _) (e2 ▸ hb),(r.fp m g b o (stay e al).2 al eg hb).2⟩,
   fun m m' f g b o q e al=>r.fpa m m' f g b o q (stay e al).2 al,r.dead,⟨fun z=>z.elim r.tbf.1 fun e=>own.2.2.1 e.symm,r.tbf.2⟩,I.tmono hZ (fun _ _=>rfl) r.tab,r.bare,r.os⟩,
  ⟨rfl,rfl,hZ,fun _ _ h=>h,fun b h=>h.elim (fun h=>h.elim .inl fun h=>.inr (.inl ⟨n,[a],hf,h ▸ .head _⟩)) fun h=>.inr (.inl h),fun _ _=>rfl,fun b o e=>⟨o,e⟩,fun _ _ h=>h⟩⟩
 ·by_cases q:i = j
  ·subst q
   have hw:st.vars[i]? = some (some (.mref n)):=by
    unfold St.get at hi
    cases h:st.vars[i]? with
    | none=>rw [h] at hi;exact nso hi
    | some w=>rw [h] at hi;exact congrArg some hi
   rw [List.getElem?_set_self (List.getElem?_eq_some_iff.mp hw).1] at e
   cases e
   cases r.var i _ hw with | mk l1 w1 g1 g2 g3 =>
    cases g3 with
    | mref e2 =>
     cases hf.symm.trans e2
     exact .mk l1 _ g1 g2 (.list (.inr rfl) hg hlen (hv.mono hZ (fun _ _ h=>h) fun _ _=>rfl))
  ·rw [List.getElem?_set_ne q] at e
   exact (r.var j v e).mono (fun _ _ h1 h2=>⟨h1,h2⟩) hZ (fun _ _ h=>h) fun _ _=>rfl
 ·by_cases q:n = m
  ·subst q;rw [List.getElem?_set_self hlt] at e;obtain rfl:=Option.some.inj e;exact ⟨[a],hf,trivial⟩
  ·rw [List.getElem?_set_ne q] at e
   exact r.muo' e hZ (fun _ _ h=>h) (fun _ _=>rfl) fun _ _ _ _ _=>rfl
theorem snoc_get {α:Type} {l:List α} {x y:α} {m:Nat} (e:(l ++ [x])[m]? = some y):(l[m]? = some y ∧ m < l.length) ∨ (m = l.length ∧ y = x):=by
 by_cases q:m < l.length
 ·rw [List.getElem?_append_left q] at e;exact .inl ⟨e,q⟩
 ·rw [List.getElem?_append_right (Nat.le_of_not_lt q)] at e
  cases h:m - l.length with
  | zero=>rw [h] at e;obtain rfl:=Option.some.inj e;exact .inr ⟨Nat.le_antisymm (Nat.le_of_sub_eq_zero h) (Nat.le_of_not_lt q),rfl⟩
  | succ k=>rw [h] at e;exact nso e
theorem snoc_last {α:Type} (l:List α) (x:α) {n:Nat} (h:n = l.length):(l ++ [x])[n]? = some x:=by simp only [h,List.getElem?_append_right (Nat.le_refl _),Nat.sub_self];rfl
theorem Rel.newmo (r:Rel I B os R st s) {h':Heap} {tk:Nat} {f:List Addr} {o':Mo} {Z':Addr→Prop} (hk:∀ b x,b ≠ I.tb→s.heap.get? b = some x→h'.get? b = some x) (hf:∀ b ∈ f,s.heap.get? b = none)
  (hZ:∀ b,R.Z b→Z' b) (hZn:∀ b,Z' b→R.Z b ∨ (s.heap.get? b = none ∧ b ∉ f)) (hZa:∀ b,Z' b→∃ o,h'.get? b = some o) (hT:I.TB Z' h') (hR:MR I Z' (R.mu ++ [f]) h' f o') (ha:∀ b ∈ f,∃ x,h'.get? b = some x) :
  Rel I B os { R with mu:=R.mu ++ [f],Z:=Z' } { st with mu:=st.mu ++ [o'] } { s with heap:=h',toks:=tk } ∧ Step R s { R with mu:=R.mu ++ [f],Z:=Z' } { s with heap:=h',toks:=tk }:=by
 have same:∀ {b:Addr},b ≠ I.tb→(∃ o,s.heap.get? b = some o)→h'.get? b = s.heap.get? b:=fun nb e=>same_of (fun o=>hk _ o nb) e
 have zt:∀ {b},R.Z b ∨ R.P b→b ≠ I.tb:=fun h q=>by subst q;exact h.elim r.tbf.1 r.tbf.2
 have hZk:∀ b,R.Z b ∨ R.P b→h'.get? b = s.heap.get? b:=fun b z=>same (zt z) (r.zal b z)
 have hZl:∀ b,R.Z b→h'.get? b = s.heap.get? b:=fun b z=>hZk b (.inl z)
 have nz:∀ {b},(∃ o,s.heap.get? b = some o)→¬ R.Z b→¬ Z' b:=fun e n z=>(hZn _ z).elim n fun q=>ne_none e q.1
 have nf:∀ {b},(∃ o,s.heap.get? b = some o)→b ∉ f:=fun e q=>ne_none e (hf _ q)
 have al:∀ b o,s.heap.get? b = some o→∃ o',h'.get? b = some o':=fun b o e=>by
  by_cases q:b = I.tb
  ·rw [q];exact I.talive hT
  ·exact ⟨o,hk b o q e⟩
 have ext:MuExt R.mu (R.mu ++ [f]):=fun n f' e=>by simp only [List.getElem?_append_left (List.getElem?_eq_some_iff.mp e).1];exact e
 have lt:∀ {i:Nat} {l:Loc} {a:Addr},R.dt[i]? = some l→l.addr? = some a→a ≠ I.tb:=fun e ea=>(r.locf _ _ _ e ea).2.2
 refine ⟨⟨fun b o e=>⟨hZ b (r.base b o e).1,(hZl b (r.base b o e).1).trans (r.base b o e).2⟩,fun b h=>h.elim (hZa b) fun h=>(r.zal b (.inr h)).elim (al b),r.len,
   fun j v e=>(r.var j v e).mono (fun l w h1 h2=>⟨h1,l.holds_of (fun a ha=>same (lt h1 ha) (l.alive (r.loc j l h1) ha)) h2⟩) hZ ext hZl,fun i l e=>l.ok_of (fun a ha=>same (lt e ha) (l.alive (r.loc i l e) ha)) (r.loc i l e),
   fun i l a e ea=>⟨nz (l.alive (r.loc i l e) ea) (r.locf i l a e ea).1,(r.locf i l a e ea).2⟩,r.apart,by simp only [List.length_append,List.length_append,r.mulen];rfl,fun m o e=>?_,fun m f' b o e alv ef hb=>?_,fun m m' f' g b o q e alv ef eg hb hc=>?_,
   fun m f' b e hb=>(snoc_get e).elim (fun e=>(r.dead m f' b e.1 hb).elim (al b)) fun e=>ha b (e.2 ▸ hb),⟨nz (I.talive r.tab) r.tbf.1,r.tbf.2⟩,hT,r.bare,r.os⟩,
  ⟨rfl,rfl,hZ,ext,fun b h=>h.elim (fun h=>(hZn b h).imp_right fun h=>.inr h.1) fun ⟨n,g,e,hb⟩=>(snoc_get e).elim (fun e=>.inr (.inl ⟨n,g,e.1,hb⟩)) fun e=>.inr (.inr (hf b (e.2 ▸ hb))),hZk,al,fun _ _ h=>h⟩⟩
 ·rcases snoc_get e with ⟨e',_⟩ | ⟨q,rfl⟩
  ·exact r.muo' e' hZ ext hZl fun g hg alv b hb=>same (r.fp m g b o e' alv hg hb).2.2.1 ((r.mu_at e' hg).live hb alv)
  ·exact ⟨f,snoc_last _ _ (q.trans r.mulen),hR⟩
 ·rcases snoc_get ef with ⟨ef',q⟩ | ⟨q,rfl⟩
  ·rcases snoc_get e with ⟨e',_⟩ | ⟨q2,_⟩
   ·have h:=r.fp m f' b o e' alv ef' hb
    exact ⟨nz ((r.mu_at e' ef').live hb alv) h.1,h.2⟩
   ·rw [q2,r.mulen] at q;exact (Nat.lt_irrefl _ q).elim
  ·have hn:=hf b hb
   exact ⟨fun z=>(hZn b z).elim (fun z=>ne_none (r.zal b (.inl z)) hn) fun z=>z.2 hb,fun z=>ne_none (r.zal b (.inr z)) hn,fun e=>ne_none (I.talive r.tab) (e ▸ hn),fun i l' e el=>ne_none (l'.alive (r.loc i l' e) el) hn⟩
 ·rcases snoc_get ef with ⟨ef',q1⟩ | ⟨q1,rfl⟩
  ·rcases snoc_get eg with ⟨eg',_⟩ | ⟨_,rfl⟩
   ·rcases snoc_get e with ⟨e',_⟩ | ⟨q2,_⟩
    ·exact r.fpa m m' f' g b o q e' alv ef' eg' hb hc
    ·rw [q2,r.mulen] at q1;exact Nat.lt_irrefl _ q1
   ·exact nf (r.dead m f' b ef' hb) hc
  ·rcases snoc_get eg with ⟨eg',_⟩ | ⟨q3,_⟩
   ·exact nf (r.dead m' g b eg' hc) hb
   ·exact q (q1.trans q3.symm)
theorem Rel.newl (r:Rel I B os R st s) {h':Heap} {tk:Nat} {a:Addr} {vs:List V} {l:List Value} {k:Nat} (hk:∀ b o,s.heap.get? b = some o→h'.get? b = some o) (ha:s.heap.get? a = none) (hn:h'.get? a = some (listO l k))
  (hv:VRs R.Z R.mu s.heap vs l) (hlen:vs.length ≤ 16777216) :
  Rel I B os { R with mu:=R.mu ++ [[a]] } { st with mu:=st.mu ++ [.list vs] } { s with heap:=h',toks:=tk } ∧ Step R s { R with mu:=R.mu ++ [[a]] } { s with heap:=h',toks:=tk } ∧
   VR R.Z (R.mu ++ [[a]]) h' (.mref st.mu.length) (.ref a):=by
 have K:=r.keeps (tk:=tk) hk
 have ext:MuExt R.mu (R.mu ++ [[a]]):=fun n f' e=>by rw [List.getElem?_append_left (List.getElem?_eq_some_iff.mp e).1];exact e
 have N:=r.newmo (tk:=tk) (f:=[a]) (o':=.list vs) (Z':=R.Z) (fun b o _=>hk b o) (fun b hb=>by rw [List.mem_singleton.mp hb];exact ha) (fun _ z=>z) (fun _ z=>.inl z) (fun b z=>(r.zal b (.inl z)).imp fun o=>hk b o) K.1.tab
  ⟨a,l,k,rfl,hn,hlen,(K.2.vrs hv).mono (fun _ z=>z) ext fun _ _=>rfl⟩ fun b hb=>by rw [List.mem_singleton.mp hb];exact ⟨_,hn⟩
 exact ⟨N.1,N.2,.mref (f:=[]) (snoc_last _ _ r.mulen)⟩
end
end Mine
namespace Mine
open PySem PyProof.Rows StrLaws Builtin Builtin.Str
theorem strOf_toList (x:T):(strOf x).cps.toList = x:=rfl
theorem strOf_length (x:T):(strOf x).length = x.length:=by simp [strOf,Str.length]
theorem strOf_append (x y:T):strOf x ++ strOf y = strOf (x ++ y):=by
 show Str.mk (x.toArray ++ y.toArray) = Str.mk (x ++ y).toArray
 simp
theorem strOf_inj {x y:T} (h:strOf x = strOf y):x = y:=by
 have:=congrArg (fun s:Str=>s.cps.toList) h
 exact this
theorem strOf_beq (x y:T):(strOf x == strOf y) = (x == y):=by
 by_cases h:x = y
 ·subst h;simp
 ·have:strOf x ≠ strOf y:=fun e=>h (strOf_inj e)
  simp only [beq_eq_false_iff_ne.mpr this,beq_eq_false_iff_ne.mpr h]
theorem strOf_of (s:Str):strOf s.cps.toList = s:=by cases s;rfl
theorem pre_take (y z:T):y.isPrefixOf z = (z.take y.length == y):=by
 rw [Bool.eq_iff_iff,List.isPrefixOf_iff_prefix,beq_iff_eq,List.prefix_iff_eq_take]
 exact ⟨fun h=>h.symm,fun h=>h.symm⟩
noncomputable def run (x y:T) (hi lim:Nat):List Nat→Nat→Nat→List Nat
 | [],_,_=>[]
 | i :: l,n,free=>if n < lim ∧ free ≤ i ∧ i + y.length ≤ hi ∧ (x.drop i).take y.length = y then i :: run x y hi lim l (n + 1) (i + y.length) else run x y hi lim l n free
theorem run_eq (x y:T) (hi lim:Nat):∀ (l:List Nat) (acc:Array Nat) (free:Nat),
  (forIn l (acc,free) (occBody (strOf x) (strOf y) hi lim)).run.fst.toList = acc.toList ++ run x y hi lim l acc.size free
 | [],acc,free=>by simp [run]
 | i :: l,acc,free=>by
  simp only [List.forIn_cons]
  unfold occBody
  simp only [subAt_eq,strOf_length,strOf_toList,strOf_toList]
  unfold run
  by_cases hc:acc.size < lim ∧ free ≤ i ∧ i + y.length ≤ hi ∧ (x.drop i).take y.length = y
  ·have c1:((acc.size < lim ∧ free ≤ i) ∧ i + y.length ≤ hi) ∧ ((x.drop i).take y.length == y) = true:=⟨⟨⟨hc.1,hc.2.1⟩,hc.2.2.1⟩,by simpa using hc.2.2.2⟩
   simp only [if_pos c1,if_pos hc]
   have ih:=run_eq x y hi lim l (acc.push i) (i + y.length)
   simp only [Array.size_push,Array.toList_push] at ih
   have e:(acc.toList ++ [i]) ++ run x y hi lim l (acc.size + 1) (i + y.length) = acc.toList ++ i :: run x y hi lim l (acc.size + 1) (i + y.length):=by simp
   simp only [← e,← ih]
   have fe:occBody (strOf x) (strOf y) hi lim = fun i st=>if ((st.fst.size < lim ∧ st.snd ≤ i) ∧ i + (strOf y).length ≤ hi) ∧ subAt (strOf x) (strOf y) i = true then pure (ForInStep.yield (st.fst.push i,i + (strOf y).length)) else pure (ForInStep.yield (st.fst,st.snd)):=rfl
   simp only [fe,subAt_eq,strOf_length,strOf_toList]
   rfl
  ·have c1:¬ (((acc.size < lim ∧ free ≤ i) ∧ i + y.length ≤ hi) ∧ ((x.drop i).take y.length == y) = true):=fun h=>hc ⟨h.1.1.1,h.1.1.2,h.1.2,by simpa using h.2⟩
   simp only [if_neg c1,if_neg hc]
   have ih:=run_eq x y hi lim l acc free
   simp only [← ih]
   have fe:occBody (strOf x) (strOf y) hi lim = fun i st=>if ((st.fst.size < lim ∧ st.snd ≤ i) ∧ i + (strOf y).length ≤ hi) ∧ subAt (strOf x) (strOf y) i = true then pure (ForInStep.yield (st.fst.push i,i + (strOf y).length)) else pure (ForInStep.yield (st.fst,st.snd)):=rfl
   simp only [fe,subAt_eq,strOf_length,strOf_toList]
   rfl
theorem occ_run (x y:T) (lo hi lim:Nat):occurrences (strOf x) (strOf y) lo hi lim = run x y hi lim (List.range' lo (hi + 1 - lo)) 0 lo:=by
 simp only [occ_eq,run_eq];simp
section
variable {x y:T} {hi lo free:Nat}
theorem run_full (l:List Nat) (n free:Nat) (h:1 ≤ n):run x y hi 1 l n free = []:=by
 induction l with
 | nil=>rfl
 | cons i l ih=>exact (if_neg fun c=>Nat.not_lt.mpr h c.1).trans ih
theorem pre_hi (hl:lo ≤ hi):y.isPrefixOf ((x.take hi).drop lo) = true ↔ lo + y.length ≤ hi ∧ (x.drop lo).take y.length = y:=by
 rw [pre_take,beq_iff_eq,List.drop_take,List.take_take]
 constructor
 ·intro h
  have hle:y.length ≤ hi - lo:=by
   rw [← congrArg List.length h];exact Nat.le_trans (List.length_take_le _ _) (Nat.min_le_right _ _)
  rw [Nat.min_eq_left hle] at h
  exact ⟨(Nat.le_sub_iff_add_le' hl).mp hle,h⟩
 ·intro h;rw [Nat.min_eq_left (Nat.le_sub_of_add_le' h.1)];exact h.2
theorem run_one (hl:lo ≤ hi) (hf:free ≤ lo) (l:List Nat):run x y hi 1 (lo :: l) 0 free = if y.isPrefixOf ((x.take hi).drop lo) = true then [lo] else run x y hi 1 l 0 free:=by
 by_cases h:y.isPrefixOf ((x.take hi).drop lo) = true
 ·rw [if_pos h];exact (if_pos ⟨Nat.zero_lt_one,hf,(pre_hi hl).mp h⟩).trans (congrArg (lo :: ·) (run_full _ _ _ (Nat.le_refl _)))
 ·rw [if_neg h];exact if_neg fun c=>h ((pre_hi hl).mpr c.2.2)
theorem find_run (hx:hi ≤ x.length) (m:Nat):∀ lo:Nat,lo + m = hi→free ≤ lo→run x y hi 1 (List.range' lo (m + 1)) 0 free = (match findGo y ((x.take hi).drop lo) lo with | some k=>[k] | none=>[]):=by
 induction m with
 | zero =>
  intro lo e hf
  have z:(x.take hi).drop lo = []:=List.drop_eq_nil_of_le (Nat.le_trans (List.length_take_le _ _) (Nat.le_of_eq e.symm))
  refine (run_one (lo:=lo) (Nat.le_of_eq e) hf []).trans ?_
  rw [z]
  cases y <;> rfl
 | succ m ih =>
  intro lo e hf
  have hlh:lo < hi:=e ▸ Nat.lt_add_of_pos_right (Nat.succ_pos m)
  have hlt:lo < (x.take hi).length:=by simp only [List.length_take];exact Nat.lt_min.mpr ⟨hlh,Nat.lt_of_lt_of_le hlh hx⟩
  refine (run_one (Nat.le_of_lt hlh) hf _).trans ?_
  have I:=ih (lo + 1) ((Nat.succ_add _ _).trans e) (Nat.le_succ_of_le hf)
  rw [List.drop_eq_getElem_cons hlt]
  simp only [findGo]
  split
  ·rfl
  ·exact I
end
theorem occ_find (x y:T) (lo hi:Nat) (hx:hi ≤ x.length):occurrences (strOf x) (strOf y) lo hi 1 =
  if lo ≤ hi then (match findGo y ((x.take hi).drop lo) lo with | some k=>[k] | none=>[]) else []:=by
 rw [occ_run]
 by_cases h:lo ≤ hi
 ·rw [if_pos h,show hi + 1 - lo = (hi - lo) + 1 from Nat.succ_sub h]
  exact find_run hx (hi - lo) lo (Nat.add_sub_cancel' h) (Nat.le_refl _)
 ·rw [if_neg h,show hi + 1 - lo = 0 from Nat.sub_eq_zero_of_le (Nat.not_le.mp h)];rfl
theorem has_eq (x y:T):Txt.contains (strOf x) (strOf y) = hasT y x:=by
 delta Txt.contains hasT
 rw [strOf_length,occ_find x y 0 x.length (Nat.le_refl _),if_pos (Nat.zero_le _)]
 simp only [List.take_length,List.drop_zero]
 cases findGo y x 0 <;> rfl
theorem starts_eq (x y:T):Txt.startswith (strOf x) (strOf y) = y.isPrefixOf x:=by
 unfold Txt.startswith
 simp only [subAt_eq,strOf_length,strOf_length,strOf_toList,strOf_toList,pre_take,List.drop_zero]
 by_cases h:x.take y.length = y
 ·have:y.length ≤ x.length:=by have:=congrArg List.length h;simp at this;lia
  simp [h,this]
 ·simp [h]
theorem ends_eq (x y:T):Txt.endswith (strOf x) (strOf y) = y.isSuffixOf x:=by
 unfold Txt.endswith
 rw [subAt_eq,strOf_length,strOf_length,strOf_toList,strOf_toList,Bool.eq_iff_iff,List.isSuffixOf_iff_suffix,List.suffix_iff_eq_drop,Bool.and_eq_true,beq_iff_eq,decide_eq_true_eq,Nat.zero_add]
 constructor
 ·intro h
  have h2:=h.2
  rw [List.take_of_length_le (by rw [List.length_drop];exact Nat.le_of_eq (Nat.sub_sub_self h.1))] at h2
  exact h2.symm
 ·intro h
  refine ⟨Nat.le_trans (Nat.le_of_eq ((congrArg List.length h).trans List.length_drop)) (Nat.sub_le _ _),?_⟩
  rw [← h,List.take_of_length_le (Nat.le_refl _)]
theorem count_eq (x:T) (c:Nat):Txt.count (strOf x) (strOf [c]) = x.count c:=by
 simp only [show strOf [c] = ⟨#[c]⟩ from rfl,count_cnt,strOf_toList]
 induction x with
 | nil=>rfl
 | cons a r ih =>
  simp only [cnt_cons,ih,List.count_cons]
  by_cases h:a = c <;> simp [h] <;> exact Int.add_comm _ _
theorem join_eq (y:T) (l:List T):Txt.join (strOf y) (l.map strOf) = strOf (joinT y l):=by
 unfold Txt.join
 simp only [glued_eq_join]
 induction l with
 | nil=>rfl
 | cons a r ih =>
  cases r with
  | nil=>rfl
  | cons b r =>
   show strOf a ++ strOf y ++ Str.join (strOf y) ((b :: r).map strOf) = _
   simp only [ih,strOf_append,strOf_append];rfl
noncomputable def parts (x:T) (w:Nat):Nat→List Nat→List T
 | a,[]=>[x.drop a]
 | a,c :: r=>(x.drop a).take (c - a) :: parts x w (c + w) r
theorem parts_eq (x:T) (w:Nat):∀ (cuts:List Nat) (a:Nat),partsFrom (strOf x) w a cuts = (parts x w a cuts).map strOf
 | [],a=>by
  show [strSub (strOf x) a (strOf x).length] = [strOf (x.drop a)]
  congr 1
  rw [← strOf_of (strSub _ _ _),strSub_toList,strOf_toList,strOf_length,List.take_of_length_le (by simp)]
 | c :: r,a=>by
  show strSub (strOf x) a c :: _ = strOf _ :: _
  simp only [parts_eq x w r (c + w)]
  congr 1
  rw [← strOf_of (strSub _ _ _),strSub_toList,strOf_toList]
inductive SpI (x:T) (i:Nat):Nat→Nat→Nat→T→Prop
 | go {a f:Nat} {acc:T}:f ≤ i→a ≤ i→acc.reverse = (x.drop a).take (i - a)→SpI x i 0 a f acc
 | skip {k c:Nat}:c = i + (k + 1)→c ≤ x.length→SpI x i (k + 1) c c []
section
variable {x y:T}
theorem SpI.step {i k c:Nat} (e:c = i + 1 + k) (h:c ≤ x.length):SpI x (i + 1) k c c []:=by
 cases k with
 | zero=>subst e;exact .go (Nat.le_refl _) (Nat.le_refl _) (by simp only [Nat.add_zero,Nat.sub_self];rfl)
 | succ k=>exact .skip e h
theorem splitGo_eq (hy:0 < y.length) (m:Nat):∀ {i k n a f:Nat} {acc:T},i + m = x.length→n + m ≤ x.length→SpI x i k a f acc→splitGo y (x.drop i) k acc = parts x y.length a (run x y x.length (x.length + 1) (List.range' i (m + 1)) n f):=by
 induction m with
 | zero =>
  intro i k n a f acc e hn I
  cases I with
  | skip h1 h2=>exact absurd (Nat.le_trans (Nat.le_of_eq h1.symm) (Nat.le_trans h2 (Nat.le_of_eq e.symm))) (Nat.not_le.mpr (Nat.lt_add_of_pos_right (Nat.succ_pos _)))
  | go hf ha hacc =>
   rw [List.drop_of_length_le (i:=i) (Nat.le_of_eq e.symm),List.range'_succ,run,if_neg fun c=>Nat.not_le.mpr (Nat.lt_add_of_pos_right hy) (Nat.le_trans c.2.2.1 (Nat.le_of_eq e.symm))]
   show [acc.reverse] = [x.drop a]
   rw [hacc,List.take_of_length_le (by rw [List.length_drop];exact Nat.sub_le_sub_right (Nat.le_of_eq e.symm) a)]
 | succ m ih =>
  intro i k n a f acc e hn I
  have hlt:i < x.length:=Nat.lt_of_lt_of_le (Nat.lt_add_of_pos_right (Nat.succ_pos m)) (Nat.le_of_eq e)
  have e':i + 1 + m = x.length:=(Nat.succ_add i m).trans e
  have hd:=List.drop_eq_getElem_cons hlt
  rw [List.range'_succ,run]
  cases I with
  | skip h1 h2 =>
   rw [hd,if_neg fun c=>Nat.not_le.mpr (Nat.lt_add_of_pos_right (Nat.succ_pos _)) (Nat.le_trans (Nat.le_of_eq h1.symm) c.2.1)]
   exact ih e' (Nat.le_of_succ_le hn) (.step (h1.trans (Nat.succ_add _ _).symm) h2)
  | go hf ha hacc =>
   rw [hd,splitGo,← hd,pre_take]
   by_cases hc:(x.drop i).take y.length = y
   ·have hle:y.length ≤ x.length - i:=by rw [← List.length_drop,← congrArg List.length hc];exact List.length_take_le' _ _
    rw [if_pos (beq_iff_eq.mpr hc),if_pos ⟨Nat.lt_succ_of_le (Nat.le_trans (Nat.le_add_right _ _) hn),hf,Nat.add_le_of_le_sub' (Nat.le_of_lt hlt) hle,hc⟩,hacc]
    exact congrArg (_ :: ·) (ih e' (Nat.le_trans (Nat.le_of_eq (Nat.succ_add n m)) hn) (.step (by simp only [Nat.add_assoc,Nat.add_sub_cancel' hy]) (Nat.add_le_of_le_sub' (Nat.le_of_lt hlt) hle)))
   ·rw [if_neg (fun c=>hc (beq_iff_eq.mp c)),if_neg (fun c=>hc c.2.2.2)]
    refine ih e' (Nat.le_of_succ_le hn) (.go (Nat.le_succ_of_le hf) (Nat.le_succ_of_le ha) ?_)
    rw [List.reverse_cons,hacc,Nat.succ_sub ha,List.take_add_one,List.getElem?_drop,Nat.add_sub_cancel' ha,List.getElem?_eq_getElem hlt];rfl
end
theorem split_eq (x y:T) (hy:y ≠ []) (hk:y.all (· < 256) = true):Txt.split (strOf x) (strOf y) = (splitT x y).map strOf:=by
 have hy':0 < y.length:=List.length_pos_iff.mpr hy
 have main:partsBetween (strOf x) (occurrences (strOf x) (strOf y) 0 (strOf x).length ((strOf x).length + 1)) (strOf y).length = (splitT x y).map strOf:=by
  simp only [partsBetween_eq,parts_eq,occ_run,strOf_length,strOf_length]
  congr 1
  delta splitT
  have:=splitGo_eq (x:=x) hy' x.length (n:=0) (Nat.zero_add _) (Nat.le_of_eq (Nat.zero_add _)) (acc:=[]) (.go (Nat.le_refl 0) (Nat.le_refl 0) rfl)
  rw [List.drop_zero] at this
  simp only [this];simp
 have hs:PySem.Builtin.Str.strKind (strOf y) = 1:=by
  delta PySem.Builtin.Str.strKind strOf
  rw [if_pos (by simpa using hk)]
 have hx:¬ PySem.Builtin.Str.strKind (strOf x) < PySem.Builtin.Str.strKind (strOf y):=by
  rw [hs];unfold PySem.Builtin.Str.strKind;repeat' split
  all_goals lia
 have none:occurrences (strOf x) (strOf y) 0 (strOf x).length ((strOf x).length + 1) = []→[strOf x] = (splitT x y).map strOf:=fun h=>by
  rw [h,partsBetween_eq,parts_eq] at main
  rw [← main];simp [parts]
 unfold Txt.split
 by_cases h1:(strOf x).length < (strOf y).length
 ·rw [if_pos (by simp [h1])]
  refine none ?_
  rw [occ_run]
  have:∀ (l:List Nat) (n f:Nat),run x y (strOf x).length ((strOf x).length + 1) l n f = []:=by
   intro l
   induction l with
   | nil=>intro n f;rfl
   | cons i l ih =>
    intro n f
    unfold run
    rw [if_neg (fun c=>by have:=c.2.2.1;rw [strOf_length] at *;rw [strOf_length] at h1;lia)]
    exact ih n f
  exact this _ _ _
 ·rw [if_neg (by simp [h1,hx])]
  by_cases h2:(occurrences (strOf x) (strOf y) 0 (strOf x).length ((strOf x).length + 1)).isEmpty = true
  ·rw [if_pos h2];exact none (List.isEmpty_iff.mp h2)
  ·rw [if_neg h2];exact main
theorem slice_idx (lo hi:Option Int) (n:Nat):strSliceIndices lo hi 1 n = (List.range (hi.elim n (clip n) - lo.elim 0 (clip n))).map (lo.elim 0 (clip n) + ·):=by
 rw [← sliceRange_one]
 unfold strSliceIndices
 have h1:∀ i:Int,max 0 (min (if i < 0 then i + (n:Int) else i) n) = ((clip n i:Nat):Int):=fun i=>(clipAt_cast n i).symm
 have h2:((1:Int) > 0) = True:=by simp
 dsimp only [h2,if_true]
 cases lo <;> cases hi <;> simp only [Option.elim_none,Option.elim_some,h1] <;> rfl
theorem slice_eq (x:T) (lo hi:Option Int):Txt.slice (strOf x) lo hi = strOf (cut x lo hi):=by
 have hb:hi.elim x.length (clip x.length) ≤ x.length:=by cases hi;exact Nat.le_refl _;exact clip_le _ _
 delta Txt.slice cut
 rw [strOf_length,slice_idx]
 generalize hi.elim x.length (clip x.length) = b at hb
 generalize lo.elim 0 (clip x.length) = a
 have key:((List.range (b - a)).map (a + ·)).filterMap ((strOf x).cps[·]?) = (x.drop a).take (b - a):=by
  by_cases hab:a ≤ b
  ·have:=StrLaws.picks x (b - a) a (by lia)
   simp only [← this];congr 1;funext k;simp [strOf]
  ·rw [show b - a = 0 by lia];simp
 rw [key]
 by_cases h:((1:Int) == 1 && ((List.range (b - a)).map (a + ·)).length == x.length) = true
 ·rw [if_pos h]
  have hl:b - a = x.length:=by simpa using h
  congr 1
  by_cases h0:x.length = 0
  ·rw [List.length_eq_zero_iff.mp h0];simp
  ·rw [hl,show a = 0 by lia];simp
 ·rw [if_neg h];rfl
end Mine
namespace Mine
open PySem PySem.Spec PyProof.Rows
inductive SR (Z:Addr→Prop) (mu:List (List Addr)) (h:Heap):V→Value→Prop
 | of {v:V} {w:Value}:VR Z mu h v w→SR Z mu h v w
 | list {vs:List V} {a:Addr} {l:List Value} {n:Nat}:h.get? a = some (listO l n)→vs.length ≤ 16777216→VRs Z mu h vs l→SR Z mu h (.list vs) (.ref a)
section
variable {I:LexI} {B:Addr→Option Obj} {os:OsState} {R R':RS} {st st':St} {s s':Shared}
noncomputable abbrev PostV (I:LexI) (B:Addr→Option Obj) (os:OsState) (R:RS) (s:Shared) (st':St) (v:V) (Q:Value→Shared→Prop):Prop :=
 ∀ R' s' val,Step R s R' s'→Rel I B os R' st' s'→VR R'.Z R'.mu s'.heap v val→Q val s'
theorem Rel.see (r:Rel I B os R st s) {v:V} {w:Value} (h:VR R.Z R.mu s.heap v w):SR R.Z R.mu s.heap (st.see v) w:=by
 cases v with
 | mref n =>
  cases e:st.mu[n]? with
  | none=>simp only [St.see,e];exact .of h
  | some o =>
   cases o with
   | list vs =>
    simp only [St.see,e]
    obtain ⟨f,h1,a,l,k,rfl,h2,h3,h4⟩:=r.muo n _ e
    cases h with
    | mref e2=>rw [h1] at e2;cases e2;exact .list h2 h3 h4
   | lex a b c=>simp only [St.see,e];exact .of h
   | dead=>simp only [St.see,e];exact .of h
 | _=>exact .of h
section
variable {Z:Addr→Prop} {mu:List (List Addr)} {h:Heap} {w:Value} {P:Value→Prop}
@[elab_as_elim] theorem SR.int_el {i:Int} (r:SR Z mu h (.int i) w) (c:∀ t,P (.int i t)):P w:=by cases r with | of r=>cases r;exact c _
@[elab_as_elim] theorem SR.str_el {i:T} (r:SR Z mu h (.str i) w) (c:i.length ≤ 16777216→∀ t,P (.str (strOf i) t)):P w:=by cases r with | of r=>cases r with | str hl=>exact c hl _
@[elab_as_elim] theorem SR.bool_el {i:Bool} (r:SR Z mu h (.bool i) w) (c:P (.bool i)):P w:=by cases r with | of r=>cases r;exact c
@[elab_as_elim] theorem SR.none_el (r:SR Z mu h .none w) (c:P .none):P w:=by cases r with | of r=>cases r;exact c
@[elab_as_elim] theorem SR.tup_el {vs:List V} (r:SR Z mu h (.tup vs) w) (c:∀ a l n,h.get? a = some (tupO l n)→vs.length ≤ 16777216→VRs Z mu h vs l→P (.ref a)):P w:=by cases r with | of r=>cases r with | tup z e len rs=>exact c _ _ _ e len rs
@[elab_as_elim] theorem SR.list_el {vs:List V} (r:SR Z mu h (.list vs) w) (c:∀ a l n,h.get? a = some (listO l n)→vs.length ≤ 16777216→VRs Z mu h vs l→P (.ref a)):P w:=by
 cases r with
 | of r=>cases r with | list z e len rs=>exact c _ _ _ e len rs
 | list e len rs=>exact c _ _ _ e len rs
end
@[elab_as_elim] theorem okS_el {P:V→Prop} {x:T} {v:V} (h:okS x = some v) (c:x.length ≤ 16777216→P (.str x)):P v:=by
 unfold okS at h;split at h
 ·obtain rfl:=Option.some.inj h;exact c (by assumption)
 ·exact nso h
@[elab_as_elim] theorem okL_el {P:V→Prop} {x:List V} {v:V} (h:okL x = some v) (c:x.length ≤ 16777216→P (.list x)):P v:=by
 unfold okL at h;split at h
 ·obtain rfl:=Option.some.inj h;exact c (by assumption)
 ·exact nso h
section
variable {α:Type} {P:V→Prop} {C:Prop} {y:V} {z:α}
theorem oIfP_el {p:Prop} [Decidable p] {o:Option α} (h:(if p then o else none) = some z) (c:p→o = some z→C):C:=by
 by_cases q:p
 ·rw [if_pos q] at h;exact c q h
 ·rw [if_neg q] at h;exact nso h
theorem oIf_el {b:Bool} {o:Option α} (h:(if b then o else none) = some z) (c:b = true→o = some z→C):C:=c (oIf h).1 (oIf h).2
end
theorem limL {n:Nat} (h:n ≤ 16777216):n ≤ sizeLine:=by simp only [sizeLine_eq];exact h
set_option tactic.hygienic true in
theorem okL_some {x:List V} {v:V} (h:okL x = some v):x.length ≤ 16777216 ∧ v = .list x:=by
 unfold okL at h;split at h
 ·rename_i q;exact ⟨q,(Option.some.inj h).symm⟩
 ·exact nso h
theorem PostV.tok {st:St} (r:Rel I B os R st s) {v:V} {w:Value} {Q:Value→Shared→Prop} (h:PostV I B os R s st v Q) (tk:Nat) (hv:∀ Z mu h,VR Z mu h v w):Q w { s with toks:=tk } :=
 h R _ w r.toks.2 r.toks.1 (hv _ _ _)
theorem PostV.here {st:St} (r:Rel I B os R st s) {v:V} {w:Value} {Q:Value→Shared→Prop} (h:PostV I B os R s st v Q) (hv:VR R.Z R.mu s.heap v w):Q w s:=h R s w (.refl _ _) r hv
theorem PostV.newList {st:St} (r:Rel I B os R st s) {vs:List V} {l:List Value} {n tk:Nat} {Q:Value→Shared→Prop} (h:PostV I B os R s st (.list vs) Q) (hv:VRs R.Z R.mu s.heap vs l) (hl:vs.length ≤ 16777216)
  {h':Heap} {a:Addr} (hk:∀ b o,s.heap.get? b = some o→h'.get? b = some o) (ha:s.heap.get? a = none) (ha':h'.get? a = some (listO l n)):Q (.ref a) { s with heap:=h',toks:=tk }:=by
 refine (r.new (tk:=tk) hk ha ⟨_,ha'⟩).elim fun r1 s1=>?_
 exact h _ _ _ s1 r1 (.list (.inr rfl) ha' hl (s1.vrs hv))
theorem PostV.newTup {st:St} (r:Rel I B os R st s) {vs:List V} {l:List Value} {n tk:Nat} {Q:Value→Shared→Prop} (h:PostV I B os R s st (.tup vs) Q) (hv:VRs R.Z R.mu s.heap vs l) (hl:vs.length ≤ 16777216)
  {h':Heap} {a:Addr} (hk:∀ b o,s.heap.get? b = some o→h'.get? b = some o) (ha:s.heap.get? a = none) (ha':h'.get? a = some (tupO l n)):Q (.ref a) { s with heap:=h',toks:=tk }:=by
 refine (r.new (tk:=tk) hk ha ⟨_,ha'⟩).elim fun r1 s1=>?_
 exact h _ _ _ s1 r1 (.tup (.inr rfl) ha' hl (s1.vrs hv))
theorem get_size (h:Heap):h.get? h.objs.size = none:=by
 cases e:h.get? h.objs.size with
 | none=>rfl
 | some o=>exact absurd (Heap.lt_size e) (Nat.lt_irrefl _)
end
section
variable {I:LexI} {B:Addr→Option Obj} {os:OsState} {R:RS} {st:St} {s:Shared} {prog:Program} {w:World} {A:Around} {E:Value→Shared→Prop}
theorem mul_ok {a:T} {b:Int} (h1:a.length ≤ 1000) (h2:b ≤ 1000) (h3:-1000 ≤ b):MulOk (strOf a) b:=by
 refine ⟨?_,fun h4 _=>?_,fun h4 _=>?_⟩
 ·rw [decide_eq_false (by lia),decide_eq_false (by lia)];rfl
 ·rw [strOf_length]
  have:(2 ^ 63 - 1:Int) / b ≥ (2 ^ 63 - 1) / 1000:=by
   have hb:0 < b:=by lia
   rw [ge_iff_le,Int.le_ediv_iff_mul_le hb]
   have:(2 ^ 63 - 1:Int) / 1000 * b ≤ (2 ^ 63 - 1) / 1000 * 1000:=Int.mul_le_mul_of_nonneg_left h2 (by decide)
   have h6:((2 ^ 63 - 1:Int) / 1000) * 1000 ≤ 2 ^ 63 - 1:=by decide
   exact Int.le_trans (by assumption) (by decide)
  have h7:((2 ^ 63 - 1:Int) / 1000) ≥ 1000:=by decide
  lia
 ·unfold Builtin.Str.tooLong
  rw [strOf_length,decide_eq_false]
  have:a.length * b.toNat ≤ 1000 * 1000:=Nat.mul_le_mul h1 (by lia)
  simp only [sizeLine_eq]
  lia
set_option tactic.hygienic true in
theorem mul_eq (a:T) (b:Int):Txt.mul (strOf a) b = strOf (List.replicate b.toNat a).flatten:=by
 have key:∀ (n:Nat) (acc:Array Nat),(List.replicate n a.toArray).foldl (· ++ ·) acc = acc ++ (List.replicate n a).flatten.toArray:=by
  intro n
  induction n with
  | zero=>intro acc;simp
  | succ n ih=>intro acc;simp only [List.replicate_succ,List.foldl_cons,ih,List.replicate_succ,List.flatten_cons];simp
 unfold Txt.mul
 by_cases h1:b < 1
 ·simp only [if_pos h1,show b.toNat = 0 by lia];rfl
 ·simp only [if_neg h1]
  split
  ·rename_i h2
   rw [Bool.or_eq_true] at h2
   rcases h2 with h2 | h2
   ·simp only [show b = 1 by simpa using h2];simp
   ·have:a = []:=by rw [strOf_length] at h2;simpa using h2
    subst this;congr 1;induction b.toNat with
    | zero=>rfl
    | succ n ih=>simp only [List.replicate_succ,List.flatten_cons,← ih];rfl
  ·unfold strOf
   simp only
   simp only [key];simp
noncomputable def Bop.op:Bop→Operator
 | .add=>.Add | .sub=>.Sub | .mul=>.Mult | .fdiv=>.FloorDiv | .mod=>.Mod | .pow=>.Pow
theorem intMul {a b:Int} (ha:a.natAbs ≤ 1000000000000):IntMulOk a b:=by
 exact IntMulOk.of_left (intBits_le_64 (by omega) (by omega))
theorem rep_len {a:T} {b:Int} (h1:a.length ≤ 1000) (h2:b ≤ 1000):(List.replicate b.toNat a).flatten.length ≤ 16777216:=by
 have:(List.replicate b.toNat a).flatten.length ≤ 1000 * 1000:=by
  simp only [List.length_flatten,List.map_replicate,List.sum_replicate_nat];exact Nat.mul_le_mul (by lia) h1
 exact Nat.le_trans (by assumption) (by decide)
theorem vAdd_ok (r:Rel I B os R st s) {x y v:V} {a b:Value} {Q:Value→Shared→Prop} (hv:vAdd x y = some v) (hx:SR R.Z R.mu s.heap x a) (hy:SR R.Z R.mu s.heap y b) (h:PostV I B os R s st v Q) :
  wpAny (model prog w) A (binaryOp .Add a b) Q E s:=by
 cases x with
 | int i =>
  refine hx.int_el fun t=>?_
  cases y with
  | int j=>obtain rfl:=Option.some.inj hv;exact hy.int_el fun u=>add_int (h.tok r _ fun _ _ _=>.int)
  | bool j=>obtain rfl:=Option.some.inj hv;exact hy.bool_el (add_int_bool (h.tok r _ fun _ _ _=>.int))
  | _=>exact nso hv
 | str i =>
  refine oB hv fun j hj h0=>?_
  cases V.str?_eq hj
  revert h
  refine okS_el h0 fun h1 h=>hx.str_el fun _ t=>hy.str_el fun _ u=>add_str (fun t' tk=>?_) (limL (by rw [strOf_length,strOf_length,← List.length_append];exact h1))
  rw [strOf_append];exact h.tok r _ fun _ _ _=>.str h1
 | list i =>
  refine oB hv fun j hj h0=>?_
  cases V.list?_eq hj
  revert h
  refine okL_el h0 fun h1 h=>hx.list_el fun a l n e1 _ r1=>hy.list_el fun b l' n' e2 _ r2=>?_
  have hsz:l.length + l'.length ≤ 16777216:=by rw [r1.length,r2.length,← List.length_append];exact h1
  refine P.add_list e1 e2 ?_ (limL hsz)
  exact h.newList r (r1.append r2) h1 (fun b o e=>Heap.get?_push_of_some _ e) (get_size _) (n:=0) (by have:=Heap.get?_push_size s.heap (o:=listO (l ++ l') 0) rfl;simpa using this)
 | _=>exact nso hv
theorem two_el {Z:Addr→Prop} {mu:List (List Addr)} {h:Heap} {α:Type} {x y:V} {a b:Value} {f:Int→Int→Option α} {v:α} {P:Value→Value→Prop} (hv:(x.int?.bind fun i=>y.int?.bind (f i)) = some v) (hx:SR Z mu h x a) (hy:SR Z mu h y b) (c:∀ i t j u,f i j = some v→P (.int i t) (.int j u)):P a b :=
 oB hv fun i hi h1=>oB h1 fun j hj h2=>by
  rw [V.int?_eq hi] at hx
  rw [V.int?_eq hj] at hy
  exact hx.int_el fun t=>hy.int_el fun u=>c i t j u h2
theorem vMul_ok (r:Rel I B os R st s) {x y v:V} {a b:Value} {Q:Value→Shared→Prop} (hv:vMul x y = some v) (hx:SR R.Z R.mu s.heap x a) (hy:SR R.Z R.mu s.heap y b) (h:PostV I B os R s st v Q) :
  wpAny (model prog w) A (binaryOp .Mult a b) Q E s:=by
 refine oB hv fun j hj h1=>?_
 rw [V.int?_eq hj] at hy
 refine hy.int_el fun u=>?_
 cases x with
 | int i =>
  refine hx.int_el fun t=>oIf_el h1 fun q h2=>?_
  obtain rfl:=Option.some.inj h2
  exact PyProof.Rows.mul_int (h.tok r _ fun _ _ _=>.int) (intMul (of_decide_eq_true (and_l q)))
 | str i =>
  refine hx.str_el fun _ t=>oIf_el h1 fun q h2=>?_
  obtain rfl:=Option.some.inj h2
  refine SB.mul (mul_ok (of_decide_eq_true (and_l q)) (of_decide_eq_true (and_l (and_r q))) (of_decide_eq_true (and_r (and_r q)))) fun t' k=>?_
  rw [mul_eq];exact h.tok r _ fun _ _ _=>.str (rep_len (of_decide_eq_true (and_l q)) (of_decide_eq_true (and_l (and_r q))))
 | _=>exact nso h1
theorem bop_ok (r:Rel I B os R st s) {o:Bop} {x y v:V} {a b:Value} {Q:Value→Shared→Prop} (hv:bop o x y = some v) (hx:SR R.Z R.mu s.heap x a) (hy:SR R.Z R.mu s.heap y b) (h:PostV I B os R s st v Q) :
  wpAny (model prog w) A (binaryOp o.op a b) Q E s:=by
 have two:∀ {f:Int→Int→Option V},(x.int?.bind fun i=>y.int?.bind (f i)) = some v→(∀ i t j u,f i j = some v→wpAny (model prog w) A (binaryOp o.op (.int i t) (.int j u)) Q E s)→wpAny (model prog w) A (binaryOp o.op a b) Q E s :=
  fun hv c=>two_el (P:=fun a b=>wpAny (model prog w) A (binaryOp o.op a b) Q E s) hv hx hy c
 cases o with
 | add=>exact vAdd_ok r hv hx hy h
 | sub=>exact two hv fun i t j u h1=>by obtain rfl:=Option.some.inj h1;exact sub_int (h.tok r _ fun _ _ _=>.int)
 | mul=>exact vMul_ok r hv hx hy h
 | fdiv=>exact two hv fun i t j u h1=>oIf_el h1 fun q h1=>by obtain rfl:=Option.some.inj h1;exact floordiv_int (bne_iff_ne.mp (and_l q)) (h.tok r _ fun _ _ _=>.int) (.inl (PyProof.noPylong_small (of_decide_eq_true (and_r q))))
 | mod =>
  refine two hv fun i t j u h1=>?_
  by_cases q:(j == 0) = true
  ·rw [if_pos q] at h1;exact nso h1
  ·rw [if_neg q] at h1;obtain rfl:=Option.some.inj h1;exact mod_int' (fun e=>q (beq_iff_eq.mpr e)) (h.tok r _ fun _ _ _=>.int)
 | pow=>exact two hv fun i t j u h1=>oIf_el h1 fun q h1=>by obtain rfl:=Option.some.inj h1;exact pow_int_small (of_decide_eq_true (and_l q)) (by have q2:=of_decide_eq_true (and_l (and_r q));exact Int.le_trans (by assumption) (by decide)) (Nat.lt_of_le_of_lt (of_decide_eq_true (and_r (and_r q))) (by decide)) (h.tok r _ fun _ _ _=>.int)
theorem truth_ok (r:Rel I B os R st s) {v:V} {b:Bool} {a:Value} {Q:Bool→Shared→Prop} (hv:truth v = some b) (hx:SR R.Z R.mu s.heap v a) (h:∀ tk,Q b { s with toks:=tk }) :
  wpAny (model prog w) A (truthy a) Q E s:=by
 cases v with
 | none=>obtain rfl:=Option.some.inj hv;exact hx.none_el (truthy_none (h _))
 | bool i=>obtain rfl:=Option.some.inj hv;exact hx.bool_el (wpAny_truthy_bool (h _))
 | int i=>obtain rfl:=Option.some.inj hv;exact hx.int_el fun t=>PyProof.Rows.truthy_int (h _)
 | str i =>
  obtain rfl:=Option.some.inj hv
  refine hx.str_el fun hl t=>P.truthy_str (by rw [strOf_length];lia) ?_
  rw [strOf_length]
  have e:((i.length:Int) != 0) = !i.isEmpty:=by cases i with | nil=>rfl | cons a l=>exact bne_iff_ne.mpr (Int.natCast_ne_zero.mpr (Nat.succ_ne_zero _))
  simp only [e];exact h _
 | list i =>
  obtain rfl:=Option.some.inj hv
  refine hx.list_el fun a l n e1 hl r1=>?_
  have e:(!l.toArray.isEmpty) = !i.isEmpty:=by cases r1 <;> rfl
  refine wpAny_truthy_list ⟨_,e1,rfl,n,rfl⟩ (by simp only [List.size_toArray,r1.length];lia) ?_
  simp only [e];exact h _
 | _=>exact nso hv
mutual
noncomputable def toPy:V→PyData
 | .bool b=>.bool b
 | .int i=>.int i
 | .str x=>.str (strOf x)
 | .list l=>.list (toPys l)
 | _=>.none
noncomputable def toPys:List V→List PyData
 | []=>[]
 | v :: r=>toPy v :: toPys r
end
theorem toPys_map:∀ l:List V,toPys l = l.map toPy
 | []=>rfl
 | v :: r=>by simp only [toPys,toPys_map r];rfl
theorem strOk_of {x:T} (h:x.all okC = true):PyData.strOk (strOf x) = true:=by
 delta PyData.strOk strOf
 rw [← Array.all_toList];exact h
theorem plain_lay:∀ (n:Nat) (v:V),V.plain n v = true→(toPy v).canLay0 = true ∧ (toPy v).depth ≤ n:=by
 intro n
 induction n with
 | zero =>
  intro v h
  cases v with
  | int i=>exact ⟨rfl,Nat.zero_le _⟩
  | bool i=>exact ⟨rfl,Nat.zero_le _⟩
  | str x=>exact ⟨strOk_of h,Nat.zero_le _⟩
  | _=>first | exact nso h | exact fat h | cases h
 | succ n ih =>
  intro v h
  cases v with
  | int i=>exact ⟨rfl,Nat.zero_le _⟩
  | bool i=>exact ⟨rfl,Nat.zero_le _⟩
  | str x=>exact ⟨strOk_of h,Nat.zero_le _⟩
  | list l =>
   have key:∀ l:List V,l.all (V.plain n) = true→PyData.canLayAll0 (toPys l) = true ∧ PyData.depthAll (toPys l) ≤ n:=by
    intro l
    induction l with
    | nil=>intro _;exact ⟨rfl,Nat.zero_le _⟩
    | cons a r ihl =>
     intro h
     refine (ih a (and_l h)).elim fun h1 h2=>?_
     refine (ihl (and_r h)).elim fun h3 h4=>?_
     exact ⟨Bool.and_eq_true_iff.mpr ⟨h1,h3⟩,Nat.max_le.mpr ⟨h2,h4⟩⟩
   refine Classical.byContradiction fun hcon=>?_
   refine (key l h).elim fun h1 h2=>?_
   refine hcon ?_
   exact ⟨h1,Nat.succ_le_succ h2⟩
  | _=>first | exact nso h | exact fat h | cases h
theorem eqv_py:∀ (n:Nat) (a b:V),V.plain n a = true→V.plain n b = true→PyData.eqv (toPy a) (toPy b) = V.eqv a b:=by
 intro n
 induction n with
 | zero =>
  intro a b h g
  cases a with
  | int i=>cases b <;> first | rfl | exact nso g | exact fat g | cases g
  | bool i=>cases b <;> first | rfl | exact nso g | exact fat g | cases g
  | str i=>cases b with
   | str j=>exact strOf_beq i j
   | _=>first | rfl | exact nso g | exact fat g | cases g
  | _=>first | exact nso h | exact fat h | cases h
 | succ n ih =>
  intro a b h g
  cases a with
  | int i=>cases b <;> first | rfl | exact nso g | exact fat g | cases g
  | bool i=>cases b <;> first | rfl | exact nso g | exact fat g | cases g
  | str i=>cases b with
   | str j=>exact strOf_beq i j
   | _=>first | rfl | exact nso g | exact fat g | cases g
  | list l=>cases b with
   | list k =>
    have key:∀ l k:List V,l.all (V.plain n) = true→k.all (V.plain n) = true→PyData.eqvAll (toPys l) (toPys k) = V.eqvs l k:=by
     intro l
     induction l with
     | nil=>intro k _ _;cases k <;> rfl
     | cons a r ihl =>
      intro k h g
      cases k with
      | nil=>rfl
      | cons b q =>
       show (PyData.eqv (toPy a) (toPy b) && PyData.eqvAll (toPys r) (toPys q)) = (V.eqv a b && V.eqvs r q)
       simp only [ih a b (and_l h) (and_l g),ihl q (and_r h) (and_r g)]
    exact key l k h g
   | _=>first | rfl | exact nso g | exact fat g | cases g
  | _=>first | exact nso h | exact fat h | cases h
theorem VRs.reads_of {Z:Addr→Prop} {mu:List (List Addr)} {h:Heap} {n:Nat} (ih:∀ {v:V} {w:Value},V.plain n v = true→VR Z mu h v w→∃ as,Reads h w (toPy v) as) {v:List V} {w:List Value} (r:VRs Z mu h v w) (p:v.all (V.plain n) = true):∃ as,ReadsAll h w (toPys v) as:=by
 revert w
 induction v with
 | nil=>intro w r;cases r;exact ⟨_,.nil⟩
 | cons a v ihl =>
  intro w r
  cases r with
  | cons r rs=>exact (ih (and_l p) r).elim fun as h1=>(ihl (and_r p) rs).elim fun bs h2=>⟨_,.cons h1 h2⟩
theorem VR.reads {Z:Addr→Prop} {mu:List (List Addr)} {h:Heap}:∀ (n:Nat) {v:V} {w:Value},V.plain n v = true→VR Z mu h v w→∃ as,Reads h w (toPy v) as:=by
 intro n
 induction n with
 | zero =>
  intro v w p r
  cases r with
  | bool=>exact ⟨_,.bool _⟩
  | int=>exact ⟨_,.int _ _⟩
  | str=>exact ⟨_,.str _ _⟩
  | _=>first | exact nso p | exact fat p | cases p
 | succ n ih =>
  intro v w p r
  cases r with
  | bool=>exact ⟨_,.bool _⟩
  | int=>exact ⟨_,.int _ _⟩
  | str=>exact ⟨_,.str _ _⟩
  | list z e l rs=>exact (rs.reads_of ih p).elim fun as h1=>⟨_,.list e rfl rfl h1⟩
  | _=>first | exact nso p | exact fat p | cases p
theorem VRs.reads {Z:Addr→Prop} {mu:List (List Addr)} {h:Heap} {n:Nat} {v:List V} {w:List Value} (p:v.all (V.plain n) = true) (r:VRs Z mu h v w):∃ as,ReadsAll h w (toPys v) as:=r.reads_of (VR.reads n) p
theorem SR.reads {Z:Addr→Prop} {mu:List (List Addr)} {h:Heap} {n:Nat} {v:V} {w:Value} (p:V.plain (n + 1) v = true) (r:SR Z mu h v w):∃ as,Reads h w (toPy v) as:=by
 cases r with
 | of r=>exact VR.reads _ p r
 | list e len rs=>exact (VRs.reads (n:=n) p rs).elim fun as h1=>⟨_,.list e rfl rfl h1⟩
noncomputable def Cop.op:Cop→CmpOp
 | .eq=>.Eq | .ne=>.NotEq | .lt=>.Lt | .le=>.LtE | .gt=>.Gt | .ge=>.GtE | .isin=>.In | .notin=>.NotIn | .is_=>.Is
theorem lay4 {v:V} (h:V.plain 4 v = true):SeqAt.shaped (toPy v) = true:=by
 refine (plain_lay 4 v h).elim fun h1 h2=>?_
 unfold SeqAt.shaped
 rw [h1,decide_eq_true (by exact Nat.le_trans (by assumption) (by decide))];rfl
section
variable {α:Type} {C:Prop} {y:V} {z:α}
theorem int_m {k:Int→α} (h:y.int?.map k = some z) (c:∀ i,y = .int i→k i = z→C):C:=(oI h).elim fun i e=>c i (V.int?_eq e.1) e.2.symm
theorem bool_m {k:Bool→α} (h:y.bool?.map k = some z) (c:∀ i,y = .bool i→k i = z→C):C:=(oI h).elim fun i e=>c i (V.bool?_eq e.1) e.2.symm
theorem str_m {k:T→α} (h:y.str?.map k = some z) (c:∀ i,y = .str i→k i = z→C):C:=(oI h).elim fun i e=>c i (V.str?_eq e.1) e.2.symm
end
structure Cmp (prog:Program) (w:World) (A:Around) (E:Value→Shared→Prop) (s:Shared) (a b:Value) (o o':CmpOp) (v:Bool):Prop where
 yes:∀ {Q:Value→Shared→Prop},Q (.bool v) s→wpAny (model prog w) A (compareOp o a b) Q E s
 no:∀ {Q:Value→Shared→Prop},Q (.bool !v) s→wpAny (model prog w) A (compareOp o' a b) Q E s
theorem veq_data {x y:V} {a b:Value} (hu:A.units + 100 < cLine) (hx:SR R.Z R.mu s.heap x a) (hy:SR R.Z R.mu s.heap y b) (p:V.plain 4 x = true) (q:V.plain 4 y = true):Cmp prog w A E s a b .Eq .NotEq (V.eqv x y) :=
 (hx.reads p).elim fun as ra=>(hy.reads q).elim fun bs rb=>by
  rw [← eqv_py 4 _ _ p q]
  exact ⟨fun h=>eq_dataH ra rb (lay4 p) (lay4 q) (by omega) h,fun h=>ne_dataH ra rb (lay4 p) (lay4 q) (by omega) h⟩
theorem veq_ok {x y:V} {v:Bool} {a b:Value} (hu:A.units + 100 < cLine) (hv:V.eq x y = some v) (hx:SR R.Z R.mu s.heap x a) (hy:SR R.Z R.mu s.heap y b):Cmp prog w A E s a b .Eq .NotEq v:=by
 cases x with
 | int i =>
  refine int_m hv fun j e h=>?_
  subst e;subst h
  exact veq_data hu hx hy rfl rfl
 | bool i =>
  refine bool_m hv fun j e h=>?_
  subst e;subst h
  exact veq_data hu hx hy rfl rfl
 | str i =>
  refine str_m hv fun j e h=>?_
  subst e;subst h
  refine hx.str_el fun _ t=>hy.str_el fun _ u=>?_
  rw [← strOf_beq i j]
  exact ⟨eq_str,ne_str⟩
 | list i =>
  refine oB hv fun j e h=>oIf_el h fun q h=>?_
  cases V.list?_eq e
  cases h
  exact veq_data hu hx hy (and_l q) (and_r q)
 | _=>exact nso hv
theorem any_congr' {α:Type} {f g:α→Bool}:∀ {l:List α},(∀ y ∈ l,f y = g y)→l.any f = l.any g
 | [],_=>rfl
 | a :: r,h=>by simp only [List.any_cons,List.any_cons,h a (.head _),any_congr' fun y hy=>h y (.tail _ hy)]
theorem plain_mono:∀ (n:Nat) (v:V),V.plain n v = true→V.plain (n + 1) v = true:=by
 intro n
 induction n with
 | zero=>intro v h;cases v <;> first | exact h | exact nso h | exact fat h | cases h
 | succ n ih =>
  intro v h
  cases v with
  | list l=>exact List.all_eq_true.mpr fun y hy=>ih y (List.all_eq_true.mp h y hy)
  | _=>first | exact h | exact nso h | exact fat h | cases h
theorem memb_ok {x:V} {l:List V} {v:Bool} {a b:Value} (hu:A.units + 100 < cLine) (hv:memb x l = some v) (hx:SR R.Z R.mu s.heap x a) (hb:SR R.Z R.mu s.heap (.list l) b ∨ SR R.Z R.mu s.heap (.tup l) b) :
  wpAny (model prog w) A (compareOp .In a b) (fun u s'=>u = .bool v ∧ s' = s) E s ∧ (SR R.Z R.mu s.heap (.list l) b→wpAny (model prog w) A (compareOp .NotIn a b) (fun u s'=>u = .bool !v ∧ s' = s) E s) :=
 oIf_el hv fun q h1=>(hx.reads (and_l q)).elim fun as ra=>by
  cases h1
  have q2:l.all (V.plain 3) = true:=and_r q
  have c1:=plain_lay 4 _ (and_l q)
  have c2:=plain_lay 4 (.list l) q2
  have d2:PyData.depthAll (toPys l) + 1 ≤ 4:=c2.2
  have hr:A.units + 1 + min (PyData.depthAll (toPys l)) (toPy x).depth < cLine:=by have:=c1.2;omega
  have e:(l.any fun y=>V.eqv y x) = ((toPys l).any fun y=>PyData.eqv y (toPy x)):=by
   rw [toPys_map,List.any_map]
   exact any_congr' fun y hy=>(eqv_py 4 y x (plain_mono 3 y (List.all_eq_true.mp q2 y hy)) (and_l q)).symm
  rw [e]
  refine ⟨hb.elim (fun hb=>(hb.reads (n:=3) (show V.plain 4 (.list l) = true from q2)).elim fun bs rb=>SeqAt.in_list_reads rb ra c2.1 c1.1 hr ⟨rfl,rfl⟩) fun hb=>hb.tup_el fun a l' n e2 _ rs=>(VRs.reads (n:=3) q2 rs).elim fun bs rb=>SeqAt.in_tuple_reads (.tuple e2 rfl rfl rb) ra c2.1 c1.1 hr ⟨rfl,rfl⟩,fun hb=>(hb.reads (n:=3) (show V.plain 4 (.list l) = true from q2)).elim fun bs rb=>SeqAt.notIn_list_reads rb ra c2.1 c1.1 hr ⟨rfl,rfl⟩⟩
theorem wp_at {m:Sem Value} {u:Value} {Q:Value→Shared→Prop} (h:wpAny (model prog w) A m (fun v s'=>v = u ∧ s' = s) E s) (hQ:Q u s):wpAny (model prog w) A m Q E s :=
 wpAny_mono h (fun v s' e=>by rw [e.1,e.2];exact hQ) fun _ _ x=>x
theorem cop_ok (r:Rel I B os R st s) {o:Cop} {x y:V} {v:Bool} {a b:Value} {Q:Value→Shared→Prop} (hu:A.units + 100 < cLine) (hv:cop o x y = some v) (hx:SR R.Z R.mu s.heap x a) (hy:SR R.Z R.mu s.heap y b) (h:Q (.bool v) s) :
  wpAny (model prog w) A (compareOp o.op a b) Q E s:=by
 have inz:∀ {f:Int→Int→Bool},cInt f x y = some v→(∀ i t j u,f i j = v→wpAny (model prog w) A (compareOp o.op (.int i t) (.int j u)) Q E s)→wpAny (model prog w) A (compareOp o.op a b) Q E s :=
  fun {f} e c=>two_el (P:=fun a b=>wpAny (model prog w) A (compareOp o.op a b) Q E s) (f:=fun i j=>some (f i j)) ((oI2 e).elim fun i e=>e.elim fun j e=>by rw [e.1,e.2.1];exact congrArg some e.2.2.symm) hx hy fun i t j u e=>c i t j u (Option.some.inj e)
 have stz:∀ {z:T} {f:T→Bool},SR R.Z R.mu s.heap (.str z) b→x.str?.map f = some v→(∀ c t u,f c = v→wpAny (model prog w) A (compareOp o.op (.str (strOf c) t) (.str (strOf z) u)) Q E s)→wpAny (model prog w) A (compareOp o.op a b) Q E s :=
  fun {z f} hz e k=>str_m e fun c hc e'=>by
   subst hc
   exact hx.str_el fun _ t=>hz.str_el fun _ u=>k c t u e'
 cases o with
 | eq=>exact (veq_ok hu hv hx hy).yes h
 | ne=>exact oM (P:=fun v=>Q (.bool v) s→_) hv (fun v' hv' h=>(veq_ok hu hv' hx hy).no h) h
 | lt=>exact inz hv fun i t j u e=>by subst e;exact lt_int h
 | le=>exact inz hv fun i t j u e=>by subst e;exact le_int h
 | gt=>exact inz hv fun i t j u e=>by subst e;exact gt_int h
 | ge=>exact inz hv fun i t j u e=>by subst e;exact ge_int h
 | isin=>cases y with
  | str z=>exact stz hy hv fun c t u e=>by subst e;refine in_str ?_;rw [← has_eq] at h;exact h
  | list l=>exact wp_at (memb_ok hu hv hx (.inl hy)).1 h
  | tup l=>exact wp_at (memb_ok hu hv hx (.inr hy)).1 h
  | _=>exact nso hv
 | notin=>cases y with
  | str z=>exact stz hy hv fun c t u e=>by subst e;refine notIn_str ?_;rw [← has_eq] at h;exact h
  | list l=>exact oM (P:=fun v=>Q (.bool v) s→_) (o:=memb x l) hv (fun v' hv' h=>wp_at ((memb_ok hu hv' hx (.inl hy)).2 hy) h) h
  | _=>exact nso hv
 | is_=>cases y with
  | none =>
   refine hy.none_el ?_
   cases x with
   | none=>cases hv;exact hx.none_el (is_none_none h)
   | int i=>cases hv;exact hx.int_el fun t=>is_int_none h
   | _=>exact nso hv
  | _=>exact nso hv
end
inductive SRs (Z:Addr→Prop) (mu:List (List Addr)) (h:Heap):List V→List Value→Prop
 | nil:SRs Z mu h [] []
 | cons {v:V} {w:Value} {vs:List V} {ws:List Value}:SR Z mu h v w→SRs Z mu h vs ws→SRs Z mu h (v :: vs) (w :: ws)
section
variable {I:LexI} {B:Addr→Option Obj} {os:OsState} {R:RS} {st:St} {s:Shared} {prog:Program} {w:World} {A:Around} {E:Value→Shared→Prop}
theorem Rel.sees (r:Rel I B os R st s):∀ {v:List V} {w:List Value},VRs R.Z R.mu s.heap v w→SRs R.Z R.mu s.heap (v.map st.see) w
 | _,_,.nil=>.nil
 | _,_,.cons a as=>.cons (r.see a) (Rel.sees r as)
theorem Rel.push (r:Rel I B os R st s) {o:Obj} {tk:Nat} (ho:o.isFreed = false) :
  Rel I B os (R.add s.heap.objs.size) st { s with heap:=s.heap.push o,toks:=tk } ∧ Step R s (R.add s.heap.objs.size) { s with heap:=s.heap.push o,toks:=tk } :=
 r.new (fun _ _ e=>Heap.get?_push_of_some _ e) (get_size _) ⟨_,Heap.get?_push_size _ ho⟩
section
variable {Z:Addr→Prop} {mu:List (List Addr)} {h:Heap} {vs:List V} {ws:List Value} {P:List Value→Prop} {α:Type} {z:α}
@[elab_as_elim] theorem SRs.one_el {k:V→Option α} (hx:SRs Z mu h vs ws) (e:(oneOf vs).bind k = some z) (c:∀ x y,SR Z mu h x y→k x = some z→P [y]):P ws:=oB e fun x h1 h2=>by
 rw [oneOf_eq h1] at hx
 cases hx with | cons r n=>cases n;exact c _ _ r h2
@[elab_as_elim] theorem SRs.oneI_el {k:Int→Option α} (hx:SRs Z mu h vs ws) (e:((oneOf vs).bind fun v=>v.int?.bind k) = some z) (c:∀ i t,k i = some z→P [.int i t]):P ws :=
 hx.one_el e fun x y r e=>oB e fun i hi e=>by rw [V.int?_eq hi] at r;exact r.int_el fun t=>c i t e
@[elab_as_elim] theorem SRs.oneS_el {k:T→Option α} (hx:SRs Z mu h vs ws) (e:((oneOf vs).bind fun v=>v.str?.bind k) = some z) (c:∀ i t,i.length ≤ 16777216→k i = some z→P [.str (strOf i) t]):P ws :=
 hx.one_el e fun x y r e=>oB e fun i hi e=>by rw [V.str?_eq hi] at r;exact r.str_el fun hl t=>c i t hl e
@[elab_as_elim] theorem SRs.oneL_el {k:List V→Option α} (hx:SRs Z mu h vs ws) (e:((oneOf vs).bind fun v=>v.list?.bind k) = some z) (c:∀ xs a l n,h.get? a = some (listO l n)→xs.length ≤ 16777216→VRs Z mu h xs l→k xs = some z→P [.ref a]):P ws :=
 hx.one_el e fun x y r e=>oB e fun i hi e=>by rw [V.list?_eq hi] at r;exact r.list_el fun a l n e1 hl r1=>c i a l n e1 hl r1 e
@[elab_as_elim] theorem SRs.two_el {k:V × V→Option α} (hx:SRs Z mu h vs ws) (e:(twoOf vs).bind k = some z) (c:∀ q x y,SR Z mu h q.1 x→SR Z mu h q.2 y→k q = some z→P [x,y]):P ws:=oB e fun q h1 h2=>by
 rw [twoOf_eq h1] at hx
 cases hx with | cons r n=>cases n with | cons r' n=>cases n;exact c _ _ _ r r' h2
@[elab_as_elim] theorem SRs.three_el {k:V × V × V→Option α} (hx:SRs Z mu h vs ws) (e:(threeOf vs).bind k = some z) (c:∀ q x y u,SR Z mu h q.1 x→SR Z mu h q.2.1 y→SR Z mu h q.2.2 u→k q = some z→P [x,y,u]):P ws:=oB e fun q h1 h2=>by
 rw [threeOf_eq h1] at hx
 cases hx with | cons r n=>cases n with | cons r' n=>cases n with | cons r'' n=>cases n;exact c _ _ _ _ r r' r'' h2
theorem int_at {v:V} {u:Value} {i:Int} (h1:v.int? = some i) (r:SR Z mu h v u):SR Z mu h (.int i) u:=by rw [V.int?_eq h1] at r;exact r
theorem str_at {v:V} {u:Value} {i:T} (h1:v.str? = some i) (r:SR Z mu h v u):SR Z mu h (.str i) u:=by rw [V.str?_eq h1] at r;exact r
end
theorem ints_are {Z:Addr→Prop} {mu:List (List Addr)} {h:Heap}:∀ {l:List V} {w:List Value} {ns:List Int},VRs Z mu h l w→intsV l = some ns→IntsAre w ns ∧ ns.length = l.length
 | [],_,_,r,e=>by cases r;obtain rfl:=Option.some.inj e;exact ⟨.nil,rfl⟩
 | v :: l,_,_,r,e=>by
  obtain ⟨i,k,hi,e1,rfl⟩:=oI2 e
  cases V.int?_eq hi
  cases r with
  | cons r rs =>
   refine Classical.byContradiction fun hcon=>?_
   cases r
   refine (ints_are rs e1).elim fun h1 h2=>?_
   refine hcon ?_
   exact ⟨.cons _ _ h1,congrArg Nat.succ h2⟩
theorem sum_ints:∀ {l:List V} {m:Int},sumV l = some m→∃ ns,intsV l = some ns ∧ m = ns.sum
 | [],_,e=>by obtain rfl:=Option.some.inj e;exact ⟨[],rfl,rfl⟩
 | v :: r,m,e=>by
  refine Classical.byContradiction fun hcon=>?_
  obtain ⟨a,k,ha,e1,rfl⟩:=oI2 e
  obtain ⟨ns,h1,rfl⟩:=sum_ints e1
  refine hcon ?_
  exact ⟨a :: ns,by show map2 List.cons v.int? (intsV r) = _;simp only [ha,h1];rfl,List.sum_cons.symm⟩
theorem all_bools:∀ {l:List V} {b:Bool},allV l = some b→∃ bs:List Bool,l = bs.map V.bool ∧ b = bs.all id
 | [],_,e=>by obtain rfl:=Option.some.inj e;exact ⟨[],rfl,rfl⟩
 | v :: r,m,e=>by
  obtain ⟨a,k,ha,e1,rfl⟩:=oI2 e
  obtain ⟨bs,rfl,rfl⟩:=all_bools e1
  exact ⟨a :: bs,by rw [V.bool?_eq ha];rfl,rfl⟩
theorem bools_are {Z:Addr→Prop} {mu:List (List Addr)} {h:Heap}:∀ {bs:List Bool} {w:List Value},VRs Z mu h (bs.map V.bool) w→w = bs.map Value.bool
 | [],_,.nil=>rfl
 | b :: bs,_,.cons r rs=>by cases r;rw [bools_are rs];rfl
theorem strs_are {Z:Addr→Prop} {mu:List (List Addr)} {h:Heap}:∀ {l:List V} {w:List Value} {ts:List T},VRs Z mu h l w→strsV l = some ts→∃ l':List (Str × Tok),w = strValues l' ∧ l'.map (·.1) = ts.map strOf
 | [],_,_,r,e=>by cases r;obtain rfl:=Option.some.inj e;exact ⟨[],rfl,rfl⟩
 | v :: l,_,_,r,e=>by
  obtain ⟨i,k,hi,e1,rfl⟩:=oI2 e
  cases V.str?_eq hi
  cases r with
  | cons r rs =>
   refine Classical.byContradiction fun hcon=>?_
   cases r
   refine (strs_are rs e1).elim fun l' k0=>k0.elim fun h1 h2=>?_
   refine hcon ?_
   exact ⟨(_,_) :: l',by rw [h1];rfl,congrArg (_ :: ·) h2⟩
theorem distinct_eq (ns:List Int):((firstMet (fun i=>ns.getD i 0) ns.length).length:Int) = distinct ns:=by
 have e:(List.range ns.length).map (fun i=>ns.getD i 0) = ns:=by
  apply List.ext_getElem
  ·simp
  ·intro i h1 h2;simp [List.getElem?_eq_getElem h2]
 delta firstMet distinct
 rw [e];rfl
noncomputable def Fn.callee:Fn→Value
 | .len=>.builtin "len" | .min=>.builtin "min" | .sum=>.builtin "sum" | .chr=>.builtin "chr" | .all=>.builtin "all"
 | .lenset=>.type "set" | .list=>.type "list" | .range=>.type "range" | .user _=>.none
theorem fits {i:Int} (h1:-4000000000000 ≤ i) (h2:i ≤ 4000000000000):Builtin.Range.rangeFitsLong i = true:=by
 delta Builtin.Range.rangeFitsLong
 simp only [Bool.and_eq_true,decide_eq_true_eq,decide_eq_true_eq]
 exact ⟨Int.le_trans (by decide) h1,Int.lt_of_le_of_lt h2 (by decide)⟩
theorem rng_small {a b c:Int} (h1:small a = true) (h2:small b = true) (h3:c ≤ 1000000) (h4:0 < c):Builtin.Range.small a b c = true ∧ ∃ n:Nat,Builtin.Range.rangeSize a b c = n ∧ n = ((b - a + c - 1) / c).toNat:=by
 have a1:=of_decide_eq_true (and_l h1)
 have a2:=of_decide_eq_true (and_r h1)
 have b1:=of_decide_eq_true (and_l h2)
 have b2:=of_decide_eq_true (and_r h2)
 clear h1 h2
 have e:Builtin.Range.rangeSize a b c = (((b - a + c - 1) / c).toNat:Nat):=by
  refine (if_pos h4).trans ?_
  by_cases q:a < b
  ·have h5:0 ≤ (b - a - 1) / c:=Int.ediv_nonneg (Int.le_sub_one_of_lt (Int.sub_pos_of_lt q)) (Int.le_of_lt h4)
   rw [if_pos q,show b - a + c - 1 = (b - a - 1) + 1 * c by lia,Int.add_mul_ediv_right _ _ (Int.ne_of_gt h4),Int.toNat_of_nonneg (Int.le_add_one h5)]
  ·rw [if_neg q,Int.toNat_of_nonpos (Int.le_of_lt_add_one (Int.ediv_lt_of_lt_mul h4 (by lia)))];rfl
 have hb:(b - a + c - 1) / c ≤ 4000000000000:=Int.ediv_le_of_le_mul h4 (Int.le_trans (b:=4000000000000 * 1) (by lia) (Int.mul_le_mul_of_nonneg_left h4 (by decide)))
 refine ⟨?_,_,e,rfl⟩
 delta Builtin.Range.small
 simp only [e,fits (Int.le_trans (by decide) a1) (Int.le_trans a2 (by decide)),fits (Int.le_trans (by decide) b1) (Int.le_trans b2 (by decide)),fits (Int.le_trans (by decide) (Int.le_of_lt h4)) (Int.le_trans h3 (by decide)),fits (Int.le_trans (by decide) (Int.natCast_nonneg _)) (by rw [Int.ofNat_toNat];exact Int.max_le.mpr ⟨hb,by decide⟩),
  if_pos h4,fits (Int.le_trans (by decide) (Int.add_le_add b1 (Int.le_sub_one_of_lt h4))) (Int.le_trans (Int.add_le_add b2 (Int.sub_le_sub_right h3 1)) (by decide)),Bool.or_true];rfl
theorem abs_if (i:Int):(if i < 0 then -i else i) = ((i.natAbs:Nat):Int):=by split <;> omega
noncomputable abbrev NewL (R:RS) (s:Shared) (vs:List V) (Q:Value→Shared→Prop):Prop:=∀ (h':Heap) (tk:Nat) (l:List Value) (n:Nat),(∀ b o,s.heap.get? b = some o→h'.get? b = some o)→h'.get? s.heap.objs.size = some (listO l n) →
 VRs R.Z R.mu s.heap vs l→Q (.ref s.heap.objs.size) { s with heap:=h',toks:=tk }
theorem range_new (r:Rel I B os R st s) (hA:A.handled = none) {C:Con} {vs:List V} {v:V} {ws:List Value} {Q:Value→Shared→Prop} (hv:fn C .list vs = some v) (hx:SRs R.Z R.mu s.heap vs ws) (h:∀ l,v = .list l→l.length ≤ 16777216→NewL R s l Q) :
  wpAny (model prog w) A (call (.type "list") ws) Q E s:=by
 refine hx.one_el hv fun x y h3 h4=>?_
 cases x with
 | rng i j k =>
  revert h
  refine okL_el h4 fun h1 h=>?_
  cases h3 with | of hx=>cases hx with | rng z e1 s1 s2 s3 s4 =>
   refine Classical.byContradiction fun hcon=>?_
   refine (rng_small s1 s2 s3 s4).elim fun sm k0=>k0.elim fun n k1=>k1.elim fun hn en=>?_
   refine hcon ?_
   have hlen:n ≤ 16777216:=by simp only [en];simpa [rngItems] using h1
   refine call_list_range hA e1 sm hn (by assumption) fun h' tk acc' c' hk ha hi=>?_
   refine h _ rfl h1 h' tk acc'.toList c' hk (by simpa using ha) ?_
   refine VRs.of_get ?_ fun i x y hx hy=>?_
   ·simp only [Array.length_toList,hi.1];simp [rngItems,← en]
   ·obtain ⟨t,rfl⟩:=hi.2 i y (by simpa using hy)
    simp only [rngItems,List.getElem?_map,Option.map_eq_some_iff] at hx
    obtain ⟨k,h2,rfl⟩:=hx
    obtain ⟨h3,h4⟩:=List.getElem?_eq_some_iff.mp h2
    simp at h4;subst h4
    exact .int
 | _=>exact nso h4
theorem int_items {Z:Addr→Prop} {mu:List (List Addr)} {hp:Heap} {l:List V} {w:List Value} {ns:List Int} (r:VRs Z mu hp l w) (e:intsV l = some ns):∃ xs:Array (Int × Tok),w.toArray = intItems xs ∧ ns = xs.toList.map (·.1) :=
 (ints_are r e).1.allInts.items.elim fun xs ex=>⟨xs,ex,by rw [← (ints_are r e).1.numsOf,← nums_intItems,← ex]⟩
theorem len_ok (r:Rel I B os R st s) {x v:V} {y:Value} {Q:Value→Shared→Prop} (hv:fLen x = some v) (hx:SR R.Z R.mu s.heap x y) (h:PostV I B os R s st v Q):wpAny (model prog w) A (call (.builtin "len") [y]) Q E s:=by
 cases x with
 | str x =>
  obtain rfl:=Option.some.inj hv
  refine hx.str_el fun hl t=>len_str (by simp only [strOf_length];lia) ?_
  simp only [strOf_length];exact h.tok r _ fun _ _ _=>.int
 | list x =>
  obtain rfl:=Option.some.inj hv
  refine hx.list_el fun a l n e1 hl r1=>PyProof.Rows.len_list ⟨_,e1,rfl,n,rfl⟩ (by simp only [List.size_toArray,r1.length];lia) ?_
  simp only [List.size_toArray,r1.length];exact h.tok r _ fun _ _ _=>.int
 | _=>exact nso hv
theorem all_ok (r:Rel I B os R st s) (hA:A.handled = none) {xs:List V} {b:Bool} {a:Addr} {l:List Value} {n:Nat} {Q:Value→Shared→Prop} (e:allV xs = some b) (e1:s.heap.get? a = some (listO l n)) (r1:VRs R.Z R.mu s.heap xs l) (h:PostV I B os R s st (.bool b) Q) :
  wpAny (model prog w) A (call (.builtin "all") [.ref a]) Q E s:=by
 refine Classical.byContradiction fun hcon=>?_
 obtain ⟨bs,rfl,rfl⟩:=all_bools e
 refine hcon ?_
 rw [bools_are r1] at e1
 have hL:s.heap.IsList a (bs.map Value.bool).toArray:=⟨_,e1,rfl,n,rfl⟩
 refine call_all_walk (wpAny_pyIter_list hL ?_)
 refine ⟨_,_,_,_,_,_,fun i=>bs.getD i true,rfl,Walks.list (A:=A.in1) hA s.heap.objs.size a (Nat.ne_of_lt (Heap.lt_size e1)) (bs.map Value.bool).toArray,
  ⟨⟨_,Heap.get?_push_size _ rfl,rfl,rfl⟩,hL.push _⟩,fun i v s' Q' E' hv hq=>?_,fun h' tk hk=>?_⟩
 ·replace hv:(bs.map Value.bool)[i]? = some v:=by simpa using hv
  replace hq:Q' (bs.getD i true) s':=hq
  rw [List.getElem?_map] at hv
  refine Classical.byContradiction fun hcon=>?_
  obtain ⟨b,h1,rfl⟩:=Option.map_eq_some_iff.mp hv
  refine hcon ?_
  refine wpAny_truthy_bool ?_
  rw [List.getD_eq_getElem?_getD,h1] at hq
  exact hq
 ·have e3:(List.range (bs.map Value.bool).toArray.size).all (fun i=>bs.getD i true) = bs.all id:=by
   rw [List.size_toArray,List.length_map,Bool.eq_iff_iff]
   simp only [List.all_eq_true,List.mem_range,id]
   constructor
   ·intro h x hx
    refine Classical.byContradiction fun hcon=>?_
    obtain ⟨i,hi,rfl⟩:=List.getElem_of_mem hx
    refine hcon ?_
    have:=h i hi
    simpa [List.getD_eq_getElem?_getD,List.getElem?_eq_getElem hi] using this
   ·intro h i hi
    simp only [List.getD_eq_getElem?_getD,List.getElem?_eq_getElem hi]
    exact h _ (List.getElem_mem hi)
  rw [e3]
  exact (r.keeps (h':=h') (tk:=tk) fun b o e=>hk b o (fun hb=>absurd (Heap.lt_size e) (by rw [List.mem_singleton.mp hb];exact Nat.lt_irrefl _)) (Heap.get?_push_of_some _ e)).elim fun r2 s2=>h _ _ _ s2 r2 .bool
theorem range_ok (r:Rel I B os R st s) {vs:List V} {v:V} {ws:List Value} {Q:Value→Shared→Prop} (hv:fRange vs = some v) (hx:SRs R.Z R.mu s.heap vs ws) (h:PostV I B os R s st v Q):wpAny (model prog w) A (call (.type "range") ws) Q E s:=by
 have fin:∀ {i j k:Int} {t u p:Tok} {tk:Nat},some (V.rng i j k) = some v→small i = true→small j = true→k ≤ 1000000→0 < k→Q (.ref s.heap.objs.size) { s with heap:=s.heap.push (rngO i j k t u p),toks:=tk }:=fun {i j k t u p tk} e p1 p2 s3 s4=>by
  obtain rfl:=Option.some.inj e
  exact (r.push (o:=rngO i j k t u p) (tk:=tk) rfl).elim fun r1 s1=>h (R.add s.heap.objs.size) _ _ s1 r1 (.rng (.inr rfl) (Heap.get?_push_size _ rfl) p1 p2 s3 s4)
 refine oAlt_el hv (fun x hq hv=>hx.oneI_el (z:=v) (k:=fun b=>if small b then some (.rng 0 b 1) else none) (by rw [hq];exact hv) fun i t h1=>oIf_el h1 fun q h1=>call_range_1 (fin h1 rfl q (by decide) (by decide)))
  fun hv=>oAlt_el hv (fun x hq hv=>hx.two_el (z:=v) (k:=fun q=>q.1.int?.bind fun a=>q.2.int?.bind fun b=>if small a && small b then some (.rng a b 1) else none) (by rw [hq];exact hv) fun x y z r1 r2 e=>oB e fun i hi e=>oB e fun j hj e=>oIf_el e fun q e =>
   (int_at hi r1).int_el fun t=>(int_at hj r2).int_el fun u=>call_range_2 (fin e (and_l q) (and_r q) (by decide) (by decide)))
  fun hv=>hx.three_el hv fun x y z u r1 r2 r3 e=>oB e fun i hi e=>oB e fun j hj e=>oB e fun k hk e=>oIf_el e fun q e =>
   (int_at hi r1).int_el fun t=>(int_at hj r2).int_el fun u=>(int_at hk r3).int_el fun p=>?_
 have q3:=of_decide_eq_true (and_l (and_r (and_r q)))
 have q4:=of_decide_eq_true (and_r (and_r (and_r q)))
 exact call_range_3 (by omega) (fin e (and_l q) (and_l (and_r q)) q3 q4) (.inl (PyProof.noPylong_small (by omega)))
set_option tactic.hygienic true in
theorem fn_ok (r:Rel I B os R st s) (hA:A.handled = none) {C:Con} {f:Fn} {vs:List V} {v:V} {ws:List Value} {Q:Value→Shared→Prop} (hu:∀ k,f ≠ .user k) (hs:f ≠ .lenset) (hv:fn C f vs = some v) (hx:SRs R.Z R.mu s.heap vs ws) (h:PostV I B os R s st v Q) :
  wpAny (model prog w) A (call f.callee ws) Q E s:=by
 cases f with
 | len=>exact hx.one_el hv fun x y h3 h4=>len_ok r h4 h3 h
 | min =>
  refine hx.two_el hv fun q x y r1 r2 e=>?_
  revert h
  refine oM2 e fun i j hi hj h=>(int_at hi r1).int_el fun t=>(int_at hj r2).int_el fun u=>min_two_ints hA fun h' tk hk=>(r.keeps (tk:=tk) hk).elim fun r1 s1=>?_
  split
  ·rename_i q;rw [if_pos q] at h;exact h _ _ _ s1 r1 .int
  ·rename_i q;rw [if_neg q] at h;exact h _ _ _ s1 r1 .int
 | sum =>
  refine hx.oneL_el hv fun xs a l n e1 hl r1 h1=>oM (P:=fun v=>PostV I B os R s st v Q→_) (o:=sumV xs) (f:=V.int) h1 (fun m e h=>?_) h
  obtain ⟨ns,e2,rfl⟩:=sum_ints e
  obtain ⟨xs,ex,hns⟩:=int_items r1 e2
  refine sum_intListG hA (xs:=xs) (by rw [← ex];exact ⟨_,e1,rfl,n,rfl⟩) fun h' tk t' hk=>(r.keeps (tk:=tk) hk).elim fun r2 s2=>?_
  rw [preSum_eq,List.take_of_length_le (by simp),← hns]
  exact h _ _ _ s2 r2 .int
 | chr =>
  refine hx.oneI_el hv fun i t h1=>oIf_el h1 fun q h1=>?_
  have q2:=of_decide_eq_true (and_r q)
  cases h1;exact chr_of_range (of_decide_eq_true (and_l q)) (by omega) (h.tok r _ fun _ _ _=>.str (x:=[_]) (Nat.le_of_ble_eq_true rfl))
 | all=>exact hx.oneL_el hv fun xs a l n e1 hl r1 h1=>oM (P:=fun v=>PostV I B os R s st v Q→_) (o:=allV xs) (f:=V.bool) h1 (fun m e h=>all_ok r hA e e1 r1 h) h
 | lenset=>exact (hs rfl).elim
 | list=>exact range_new r hA hv hx fun l e hl h' tk l' n hk hn hv'=>(by subst e;exact h.newList r hv' hl hk (get_size _) hn)
 | range=>exact range_ok r hv hx h
 | user k=>exact (hu _ rfl).elim
theorem lenset_ok (r:Rel I B os R st s) (hA:A.handled = none) {C:Con} {vs:List V} {v:V} {ws:List Value} {Q:Value→Shared→Prop} (hv:fn C .lenset vs = some v) (hx:SRs R.Z R.mu s.heap vs ws) (h:PostV I B os R s st v Q) :
  wpAny (model prog w) A (call (.type "set") ws) (fun u s'=>wpAny (model prog w) A (call (.builtin "len") [u]) Q E s') E s:=by
 refine hx.oneL_el hv fun xs a l n e1 hl r1 h1=>oIfP_el h1 fun q h1=>oM (P:=fun v=>PostV I B os R s st v Q→_) (o:=intsV xs) (f:=fun ns=>V.int (distinct ns)) h1 (fun ns e2 h=>?_) h
 have hi:=ints_are r1 e2
 have hsz:l.toArray.size = ns.length:=by simp only [List.size_toArray,r1.length,hi.2]
 have hle:(firstMet (fun i=>ns.getD i 0) ns.length).length ≤ ns.length:=firstMet_length_le _ _
 have hlen:ns.length ≤ 1000:=by simp only [hi.2];exact q
 refine PySem.call_set_list (items:=l.toArray) (ns:=ns) hA ⟨_,e1,rfl,n,rfl⟩ hi.1 (by unfold scanBound;lia) fun h' tk hS hk=>?_
 rw [hsz] at hS
 refine Classical.byContradiction fun hcon=>?_
 obtain ⟨o,es,ep,t,h1,h2,h3,_,_,_,h4,h5⟩:=hS
 refine hcon ?_
 refine call_len_set h1 h2 h3 h4 (by lia) ?_
 simp only [h5,distinct_eq]
 exact (r.keeps (h':=h') (tk:=tk + 1 + 1) fun b o e=>hk b o (Heap.lt_size e) e).elim fun r2 s2=>h _ _ _ s2 r2 .int
noncomputable def Me.id:Me→String
 | .lower=>"str.lower" | .split=>"str.split" | .startswith=>"str.startswith" | .endswith=>"str.endswith" | .find=>"str.find" | .join=>"str.join" | .count=>"str.count"
noncomputable def Me.name:Me→String
 | .lower=>"lower" | .split=>"split" | .startswith=>"startswith" | .endswith=>"endswith" | .find=>"find" | .join=>"join" | .count=>"count"
theorem gives_find4 (x y:T) (i j:Int) (t u v q:Tok):Gives (Builtin.«str.find» ⟨[.str (strOf x) t,.str (strOf y) u,.int i v,.int j q],[]⟩) (.int (findT x y i j)):=by
 show Gives (match Builtin.Str.occurrences (strOf x) (strOf y) (max 0 (if i < 0 then i + (strOf x).length else i)).toNat (min (max 0 (if j < 0 then j + (strOf x).length else j)).toNat (strOf x).length) 1 with | k :: _=>retInt k | []=>(do rule "str.find.not-found";retInt (-1))) _
 rw [strOf_length,occ_find x y _ _ (Nat.min_le_right _ _)]
 have e1:(max 0 (if i < 0 then i + (x.length:Int) else i)).toNat = (if i < 0 then i + (x.length:Int) else i).toNat:=toNat_max0 _
 have e2:(max 0 (if j < 0 then j + (x.length:Int) else j)).toNat = (if j < 0 then j + (x.length:Int) else j).toNat:=toNat_max0 _
 unfold findT
 rw [e1,e2]
 generalize (if i < 0 then i + (x.length:Int) else i).toNat = lo
 generalize min (if j < 0 then j + (x.length:Int) else j).toNat x.length = hi
 by_cases hle:lo ≤ hi
 ·simp only [if_pos hle]
  cases findGo y ((x.take hi).drop lo) lo with
  | none=>exact .rule (.of_eq rfl)
  | some k=>exact .of_eq rfl
 ·simp only [if_neg hle]
  exact .rule (.of_eq rfl)
theorem lower_strOf (x:T):Txt.lower (strOf x) = strOf (lowerT x):=(strOf_of _).symm
theorem lower_le (x:T):(Txt.lower (strOf x)).length = (lowerT x).length:=by simp [lowerT,Str.length]
theorem strs_vr {Z:Addr→Prop} {mu:List (List Addr)} {hp:Heap} (l:List (Str × Tok)):∀ (ts:List T),(∀ z ∈ ts,z.length ≤ 16777216)→l.map (·.1) = ts.map strOf→VRs Z mu hp (ts.map V.str) (strValues l):=by
 induction l with
 | nil=>intro ts _ e;cases ts with | nil=>exact .nil | cons a b=>first | exact nso e | exact fat e | cases e
 | cons a l ih =>
  intro ts hs e
  cases ts with
  | nil=>first | exact nso e | exact fat e | cases e
  | cons b ts =>
   have e':=List.cons.inj e
   have h:VR Z mu hp (.str b) (.str a.1 a.2):=by rw [show a.1 = strOf b from e'.1];exact .str (hs _ (.head _))
   exact .cons h (ih ts (fun z hz=>hs z (.tail _ hz)) e'.2)
theorem split_new (r:Rel I B os R st s) {o v:V} {vs:List V} {u:Value} {ws:List Value} {Q:Value→Shared→Prop} (hv:meth .split o vs = some v) (ho:SR R.Z R.mu s.heap o u) (hx:SRs R.Z R.mu s.heap vs ws) (h:∀ l,v = .list l→l.length ≤ 16777216→NewL R s l Q) :
  wpAny (model prog w) A (call (.builtin "str.split") (u :: ws)) Q E s:=by
 refine oB hv fun x hx0 h1=>(str_at hx0 ho).str_el fun hl t=>hx.oneS_el h1 fun y u hly h1=>oIf_el h1 fun q h2=>?_
 revert h
 refine okL_el h2 fun h3 h=>?_
 have h1:(splitT x y).length ≤ 16777216:=by rw [List.length_map] at h3;exact h3
 have hy:y ≠ []:=fun e=>by subst e;exact Bool.noConfusion (and_l q)
 have e:=split_eq x y hy (and_r q)
 have hy0:((strOf y).length == 0) = false:=by rw [strOf_length,beq_eq_false_iff_ne];exact fun e=>hy (List.length_eq_zero_iff.mp e)
 have fin:∀ (l:List (Str × Tok)) (tk:Nat),l.map (·.1) = Txt.split (strOf x) (strOf y)→Q (.ref s.heap.objs.size) { s with heap:=s.heap.push (listO (strValues l) 0),toks:=tk }:=fun l tk el =>
  h _ rfl h3 _ tk (strValues l) 0 (fun _ _ e=>Heap.get?_push_of_some _ e) (Heap.get?_push_size _ rfl) (strs_vr l _ (fun z hz=>by
   have:=part_short (x:=strOf x) (y:=strOf y) (a:=strOf z) (by rw [e];exact List.mem_map_of_mem hz)
   rw [strOf_length,strOf_length] at this;exact Nat.le_trans this hl) (el.trans e))
 cases h2:(decide ((strOf x).length < (strOf y).length) || decide (PySem.Builtin.Str.strKind (strOf x) < PySem.Builtin.Str.strKind (strOf y)))
 ·cases hf:(Builtin.Str.occurrences (strOf x) (strOf y) 0 (strOf x).length ((strOf x).length + 1)).isEmpty
  ·have es:Txt.split (strOf x) (strOf y) = Builtin.Str.partsBetween (strOf x) (Builtin.Str.occurrences (strOf x) (strOf y) 0 (strOf x).length ((strOf x).length + 1)) (strOf y).length :=
    (if_neg (by rw [h2];decide)).trans (if_neg (by rw [hf];decide))
   refine call_meets F.slot_str_split (typeIs_str _ _ _) F.entry_str_split (F.args_str_split_2 _ _) (meets_str_split_sep (strOf x) (strOf y) t u h2 hy0 hf (limL (by simp only [strOf_length];exact hl)) (limL (by simp only [← es,e,List.length_map];exact h1))) ?_
   show wants Q E _ { s with toks:=_,heap:=s.heap.push { cls:=.type "list",data:=.seq (strsFrom s.toks (Builtin.Str.partsBetween (strOf x) (Builtin.Str.occurrences (strOf x) (strOf y) 0 (strOf x).length ((strOf x).length + 1)) (strOf y).length)).toArray } }
   rw [strsFrom_eq]
   exact fin _ _ ((numbered_texts _ _).trans es.symm)
  ·exact call_meets F.slot_str_split (typeIs_str _ _ _) F.entry_str_split (F.args_str_split_2 _ _) (meets_str_split_not_found (strOf x) (strOf y) t u h2 hy0 hf)
    (fin [(strOf x,t)] s.toks ((if_neg (by rw [h2];decide)).trans (if_pos hf)).symm)
 ·exact call_meets F.slot_str_split (typeIs_str _ _ _) F.entry_str_split (F.args_str_split_2 _ _) (meets_str_split_cannot_occur (strOf x) (strOf y) t u h2)
   (fin [(strOf x,t)] s.toks (if_pos h2).symm)
theorem joinM_ok (r:Rel I B os R st s) {x:T} {t:Tok} {xs:List V} {v:V} {a:Addr} {l:List Value} {n:Nat} {Q:Value→Shared→Prop} (h1:mJoin x xs = some v) (e1:s.heap.get? a = some (listO l n)) (r1:VRs R.Z R.mu s.heap xs l) (h:PostV I B os R s st v Q) :
  wpAny (model prog w) A (call (.builtin "str.join") [.str (strOf x) t,.ref a]) Q E s:=by
 refine oB h1 fun ts e h1=>oIfP_el h1 fun q h1=>?_
 refine Classical.byContradiction fun hcon=>?_
 obtain rfl:=Option.some.inj h1
 obtain ⟨l2,rfl,e2⟩:=strs_are r1 e
 refine hcon ?_
 have ok:JoinOk (strOf x) (ts.map strOf) = true:=by
  delta JoinOk Builtin.Str.tooLong
  rw [StrLaws.joinTotal,strOf_length,List.length_map,List.map_map,show (fun s:Str=>s.length) ∘ strOf = fun z=>z.length from funext strOf_length,sizeLine_eq,decide_eq_false (by lia)];rfl
 have hj:=joinOk_length ok
 rw [join_eq,strOf_length,sizeLine_eq] at hj
 refine SC.join ⟨_,e1,rfl,n,rfl⟩ e2 ok fun t' k=>?_
 rw [join_eq]
 exact h.tok r _ fun _ _ _=>.str hj
theorem meth_ok (r:Rel I B os R st s) (hA:A.handled = none) {m:Me} {o:V} {vs:List V} {v:V} {u:Value} {ws:List Value} {Q:Value→Shared→Prop} (hv:meth m o vs = some v) (ho:SR R.Z R.mu s.heap o u) (hx:SRs R.Z R.mu s.heap vs ws) (h:PostV I B os R s st v Q) :
  wpAny (model prog w) A (call (.builtin m.id) (u :: ws)) Q E s:=by
 refine oB hv fun x hx0 h1=>?_
 have ho':=ho
 refine (str_at hx0 ho').str_el fun hl t=>?_
 cases m with
 | lower =>
  refine oG h1 fun h2 h3=>?_
  revert h
  refine okS_el h3 fun h4 h=>?_
  refine Classical.byContradiction fun hcon=>?_
  cases nil_of h2
  cases hx
  refine hcon ?_
  refine SC.lower ?_ ?_
  ·delta Builtin.Str.tooLong;rw [lower_le,decide_eq_false];rw [sizeLine_eq];exact Nat.not_lt.mpr (by assumption)
  ·rw [lower_strOf];exact h.tok r _ fun _ _ _=>.str h4
 | split=>exact split_new r (o:=.str x) h1 (.of (.str hl)) hx fun l e hl h' tk l' n hk hn hv'=>(by subst e;exact h.newList r hv' hl hk (get_size _) hn)
 | startswith=>exact hx.oneS_el h1 fun y u hly e=>by obtain rfl:=Option.some.inj e;exact SC.startswith (by rw [starts_eq];exact h.here r .bool)
 | endswith=>exact hx.oneS_el h1 fun y u hly e=>by obtain rfl:=Option.some.inj e;exact SC.endswith (by rw [ends_eq];exact h.here r .bool)
 | find =>
  refine hx.three_el h1 fun q a b c r1 r2 r3 e=>oB e fun y hy e=>oB e fun i hi e=>oB e fun j hj e=>oIf_el e fun _ e=>(str_at hy r1).str_el fun hly u=>(int_at hi r2).int_el fun t1=>(int_at hj r3).int_el fun t2=>?_
  obtain rfl:=Option.some.inj e
  exact call_gives F.slot_str_find (typeIs_str _ _ _) F.entry_str_find (F.args_str_find_4 _ _ _ _) (gives_find4 x y i j _ _ _ _) (h.tok r _ fun _ _ _=>.int)
 | join=>exact hx.oneL_el h1 fun xs a l n e1 hl r1 h1=>joinM_ok r h1 e1 r1 h
 | count =>
  refine hx.oneS_el h1 fun y u hly h1=>oM (P:=fun v=>PostV I B os R s st v Q→_) (o:=oneOf y) (f:=fun c=>V.int (x.count c)) h1 (fun c hc h=>?_) h
  rw [oneOf_eq hc]
  exact SC.count (by rw [count_eq];exact h.tok r _ fun _ _ _=>.int)
end
end Mine
namespace Mine
open PySem
inductive GV where
 | cst (v:V)
 | fn (f:Fn)
 | enum | set | lexer | esc
structure Cx where
 names:List (Str × NameKind)
 slot:Str→Option Nat
 next:Nat
 size:Nat
noncomputable abbrev Gl:=Str→Option GV
noncomputable def own:List (Str × NameKind)→List Str
 | []=>[]
 | (n,.local) :: r=>n :: own r
 | (n,.cell) :: r=>n :: own r
 | _ :: r=>own r
noncomputable def frees:List (Str × NameKind)→List Str
 | []=>[]
 | (n,.free) :: r=>n :: frees r
 | _ :: r=>frees r
noncomputable def idx:List Str→Str→Option Nat
 | [],_=>none
 | y :: r,x=>if x == y then some 0 else (idx r x).map (· + 1)
noncomputable def nodup:List Str→Bool
 | []=>true
 | y :: r=>!(r.any (· == y)) && nodup r
noncomputable def relab (out names:List (Str × NameKind)):List (Str × NameKind) :=
 names.map fun (n,k)=>if (k == .free && out.lookup n == some .cell) then (n,.cell) else (n,k)
noncomputable def Cx.fn (names:List (Str × NameKind)) (extra:Nat):Cx :=
 { names,slot:=(fun x=>idx (own names) x),next:=(own names).length,size:=(own names).length + extra }
noncomputable def Cx.sub (cx:Cx) (sc:Scope):Option Cx :=
 if sc.kind == .function && nodup (sc.names.map (·.1)) && sc.names.lookup (".0":Str) == some .local && decide (cx.next + (own sc.names).length ≤ cx.size) &&
   ((frees sc.names).all fun n=>(cx.names.lookup n == some .cell || cx.names.lookup n == some .free) && (cx.slot n).isSome) then
  some {
   names:=relab cx.names sc.names,next:=cx.next + (own sc.names).length,size:=cx.size,
   slot:=(fun x=>match sc.names.lookup x with
    | some .free=>cx.slot x
    | some .local | some .cell=>(idx (own sc.names) x).map (cx.next + ·)
    | _=>none) }
 else none
noncomputable def strT (x:Str):T:=x.cps.toList
noncomputable def cC:Const→Option V
 | .none=>some .none
 | .bool b=>some (.bool b)
 | .int i=>some (.int i)
 | .str x=>if (strT x).length ≤ 16777216 then some (.str (strT x)) else none
 | _=>none
noncomputable def cO:Operator→Option Bop
 | .Add=>some .add | .Sub=>some .sub | .Mult=>some .mul | .FloorDiv=>some .fdiv | .Mod=>some .mod | .Pow=>some .pow
 | _=>none
noncomputable def cP:CmpOp→Option Cop
 | .Eq=>some .eq | .NotEq=>some .ne | .Lt=>some .lt | .LtE=>some .le | .Gt=>some .gt | .GtE=>some .ge | .In=>some .isin | .NotIn=>some .notin | .Is=>some .is_
 | _=>none
noncomputable def cM (x:Str):Option Me :=
 if x == "lower" then some .lower else if x == "split" then some .split else if x == "startswith" then some .startswith else if x == "endswith" then some .endswith
 else if x == "find" then some .find else if x == "join" then some .join else if x == "count" then some .count else none
noncomputable def cN (cx:Cx) (x:Str):Option Nat :=
 if x == "__debug__" || x == "__classdict__" then none else
 match cx.names.lookup x with
 | some .local | some .cell | some .free=>cx.slot x
 | _=>none
noncomputable def cG (G:Gl) (cx:Cx) (x:Str):Option GV :=
 if x == "__debug__" then none else
 match cx.names.lookup x with
 | some .globalImplicit=>G x
 | _=>none
noncomputable def nameOf:Expr→Option Str
 | .Name x _=>some x
 | _=>none
theorem nameOf_eq {e:Expr} {x:Str} (h:nameOf e = some x):∃ p,e = .Name x p:=by
 cases e with
 | Name y p=>obtain rfl:=Option.some.inj h;exact ⟨p,rfl⟩
 | _=>exact nso h
noncomputable def attrOf:Expr→Option (Expr × Str × Pos)
 | .Attribute o m p=>some (o,m,p)
 | _=>none
theorem attrOf_eq {e:Expr} {q:Expr × Str × Pos} (h:attrOf e = some q):e = .Attribute q.1 q.2.1 q.2.2:=by
 cases e with
 | Attribute y p=>obtain rfl:=Option.some.inj h;rfl
 | _=>exact nso h
noncomputable def tupOf:Expr→Option (List Expr)
 | .Tuple es _ _=>some es
 | _=>none
theorem tupOf_eq {e:Expr} {q:List Expr} (h:tupOf e = some q):∃ k p,e = .Tuple q k p:=by
 cases e with
 | Tuple y k p=>obtain rfl:=Option.some.inj h;exact ⟨k,p,rfl⟩
 | _=>exact nso h
noncomputable def subOf:Expr→Option (Expr × Expr)
 | .Subscript a i _=>some (a,i)
 | _=>none
theorem subOf_eq {e:Expr} {q:Expr × Expr} (h:subOf e = some q):∃ p,e = .Subscript q.1 q.2 p:=by
 cases e with
 | Subscript y k p=>obtain rfl:=Option.some.inj h;exact ⟨p,rfl⟩
 | _=>exact nso h
noncomputable def slcOf:Expr→Option (Option Expr × Option Expr × Option Expr)
 | .Slice l h s _=>some (l,h,s)
 | _=>none
theorem slcOf_eq {e:Expr} {q:Option Expr × Option Expr × Option Expr} (h:slcOf e = some q):∃ p,e = .Slice q.1 q.2.1 q.2.2 p:=by
 cases e with
 | Slice a b c p=>obtain rfl:=Option.some.inj h;exact ⟨p,rfl⟩
 | _=>exact nso h
noncomputable def callOf:Expr→Option (Str × List Expr)
 | .Call f as ks _=>gd ks.isEmpty ((nameOf f).map fun g=>(g,as))
 | _=>none
theorem callOf_eq {e:Expr} {q:Str × List Expr} (h:callOf e = some q):∃ gp p,e = .Call (.Name q.1 gp) q.2 [] p:=by
 cases e with
 | Call f as ks p=>exact oG h fun h1 h=>oM (P:=fun q=>∃ gp p',Expr.Call f as ks p = .Call (.Name q.1 gp) q.2 [] p') h fun g hg=>(by
   obtain ⟨gp,rfl⟩:=nameOf_eq hg
   cases nil_of h1
   exact ⟨gp,p,rfl⟩)
 | _=>exact nso h
noncomputable def notStar:Expr→Bool
 | .Starred ..=>false
 | _=>true
theorem notStar_ne {e:Expr} (h:notStar e = true):∀ a p,e ≠ .Starred a p:=fun a p q=>by subst q;cases h
noncomputable def cSl (cx:Cx) (e:Expr):Option Nat:=(nameOf e).bind fun x=>match cx.names.lookup x with
  | some .local | some .cell=>cx.slot x
  | _=>none
noncomputable def cSls (cx:Cx):List Expr→Option (List Nat)
 | []=>some []
 | e :: r=>map2 .cons (cSl cx e) (cSls cx r)
noncomputable def cT (cx:Cx) (e:Expr):Option Tg:=match nameOf e with
 | some _=>(cSl cx e).map .one
 | none=>(tupOf e).bind fun es=>(twoOf es).bind fun q=>map2 .two (cSl cx q.1) (cSl cx q.2)
noncomputable def cL (f:Expr→Option X):List Expr→Option X
 | []=>some .nil
 | e :: r=>gd (notStar e) (map2 .cons (f e) (cL f r))
noncomputable def isName:Expr→Bool
 | .Name ..=>true
 | _=>false
noncomputable def GV.isEnum:GV→Bool
 | .enum=>true
 | _=>false
noncomputable def cI2 (G:Gl) (f:Expr→Option X) (cx:Cx) (e:Expr):Option X:=(callOf e).bind fun q=>(cG G cx q.1).bind fun v=>match oneOf q.2 with
 | some a=>gd (isName a && v.isEnum) ((f a).map .enm)
 | none=>none
noncomputable def notSet:Expr→Bool
 | .Set ..=>false
 | _=>true
noncomputable def cI (G:Gl) (f:Expr→Option X) (cx:Cx) (tg:Expr) (e:Expr):Option X:=match nameOf tg with
 | some _=>gd (notSet e) (f e)
 | none=>(tupOf tg).bind fun _=>cI2 G f cx e
noncomputable def cIfs (f:Expr→Option X):List Expr→Option X
 | []=>some (.cst (.bool true))
 | c :: r=>gd r.isEmpty (f c)
noncomputable def plainBase:Expr→Bool
 | .Name ..=>true
 | .Constant ..=>true
 | _=>false
noncomputable def isOne:Expr→Bool
 | .Constant c _ _=>match c with
  | .int i=>i == 1
  | _=>false
 | _=>false
noncomputable def minusOne:Expr→Bool
 | .UnaryOp o e _=>match o with
  | .USub=>isOne e
  | _=>false
 | _=>false
noncomputable def GV.isCst:GV→Option V
 | .cst v=>some v
 | _=>none
noncomputable def GV.isSet:GV→Bool
 | .set=>true
 | _=>false
noncomputable def GV.isLexer:GV→Bool
 | .lexer=>true
 | _=>false
noncomputable def GV.isFn:GV→Option Fn
 | .fn g=>some g
 | _=>none
noncomputable def Fn.isLen:Fn→Bool
 | .len=>true
 | _=>false
noncomputable def Fn.isList:Fn→Bool
 | .list=>true
 | _=>false
noncomputable def Fn.isLenset:Fn→Bool
 | .lenset=>true
 | _=>false
theorem GV.isEnum_eq {v:GV} (h:v.isEnum = true):v = .enum:=by cases v <;> first | rfl | exact nso h | exact fat h | cases h
theorem GV.isSet_eq {v:GV} (h:v.isSet = true):v = .set:=by cases v <;> first | rfl | exact nso h | exact fat h | cases h
theorem GV.isLexer_eq {v:GV} (h:v.isLexer = true):v = .lexer:=by cases v <;> first | rfl | exact nso h | exact fat h | cases h
theorem GV.isCst_eq {v:GV} {c:V} (h:v.isCst = some c):v = .cst c:=by cases v <;> first | exact nso h | (obtain rfl:=Option.some.inj h;rfl)
theorem GV.isFn_eq {v:GV} {c:Fn} (h:v.isFn = some c):v = .fn c:=by cases v <;> first | exact nso h | (obtain rfl:=Option.some.inj h;rfl)
theorem Fn.isLen_eq {v:Fn} (h:v.isLen = true):v = .len:=by cases v <;> first | rfl | exact nso h | exact fat h | cases h
theorem Fn.isList_eq {v:Fn} (h:v.isList = true):v = .list:=by cases v <;> first | rfl | exact nso h | exact fat h | cases h
theorem Fn.isLenset_ne {v:Fn} (h:(!v.isLenset) = true):v ≠ .lenset:=fun e=>by subst e;cases h
noncomputable def cU:UnaryOp→Option (X→X)
 | .Not=>some .not
 | .USub=>some .neg
 | _=>none
noncomputable def cBo:BoolOp→X→X→X
 | .And=>.and
 | .Or=>.or
noncomputable def setOf (G:Gl) (cx:Cx) (as:List Expr):Option Expr:=(oneOf as).bind fun e=>(callOf e).bind fun q=>(cG G cx q.1).bind fun v=>gd v.isSet (oneOf q.2)
noncomputable def cNm (G:Gl) (cx:Cx) (x:Str):Option X:=match cN cx x with
 | some i=>some (.var i)
 | none=>(cG G cx x).bind fun v=>v.isCst.map .cst
noncomputable def cBs (f:Expr→Option X) (o:BoolOp) (p:Pos):List Expr→Option X
 | []=>none
 | a :: r=>match r with
  | []=>f a
  | b :: r=>map2 (cBo o) (f a) (f (.BoolOp o (b :: r) p))
noncomputable def cCm (f:Expr→Option X) (a:Expr) (os:List CmpOp) (bs:List Expr):Option X:=match oneOf os with
 | some o=>(oneOf bs).bind fun b=>gd (notSet b) (map3 .cmp (cP o) (f a) (f b))
 | none=>none
noncomputable def cFn (G:Gl) (f:Expr→Option X) (cx:Cx) (v:GV) (as:List Expr):Option X:=match v.isFn with
 | some g=>match (gd g.isLen (setOf G cx as)) with
  | some a=>gd (notStar a) ((f a).map fun x=>.call .lenset (.cons x .nil))
  | none=>gd (!g.isLenset && !as.isEmpty) ((cL f as).map (.call g))
 | none=>gd v.isLexer ((oneOf as).bind fun a=>gd (notStar a) ((f a).map .newlex))
noncomputable def cMe (f:Expr→Option X) (cx:Cx) (o:Expr) (m:Str) (ap:Pos) (as:List Expr) (p:Pos):Option X :=
 gd ((ap.endLine == p.line) && (plainBase o && decide (as.length < 30))) (bif m == "get_token" then gd as.isEmpty ((nameOf o).bind fun x=>(cN cx x).map .tok) else map3 .meth (cM m) (f o) (cL f as))
noncomputable def cBd (f:Expr→Option X):Option Expr→Option X
 | none=>some (.cst .none)
 | some e=>f e
noncomputable def cSb (f:Expr→Option X) (a i:Expr):Option X:=match slcOf i with
 | some q=>match q.2.2 with
  | none=>map3 .slc (f a) (cBd f q.1) (cBd f q.2.1)
  | some e=>gd (q.1.isNone && (q.2.1.isNone && minusOne e)) ((f a).map .rev)
 | none=>gd (notStar i) (map2 .idx (f a) (f i))
noncomputable def cCo (G:Gl) (f:Cx→Expr→Option X) (cx:Cx) (elt:Expr) (sc:Scope):List Comprehension→Option X
 | []=>none
 | g :: r=>(cx.sub sc).bind fun cx'=>gd (g.is_async == 0) ((cI G (f cx) cx g.target g.iter).bind fun it=>map3 (fun t i x=>.comp ((List.range (own sc.names).length).map (cx.next + ·)) (.gen it t i x)) (cT cx' g.target) (cIfs (f cx') g.ifs)
   (match r with
   | []=>(f cx' elt).map .emit
   | h :: r=>gd (r.isEmpty && h.is_async == 0) ((cI G (f cx') cx' h.target h.iter).bind fun it=>map3 (fun t i x=>.gen it t i (.emit x)) (cT cx' h.target) (cIfs (f cx') h.ifs) (f cx' elt))))
noncomputable def cE1 (G:Gl) (f:Cx→Expr→Option X) (cx:Cx):Expr→Option X
 | .Name x _=>cNm G cx x
 | .Constant c _ _=>(cC c).map .cst
 | .BinOp a o b _=>map3 .bin (cO o) (f cx a) (f cx b)
 | .UnaryOp o a _=>(cU o).bind fun u=>(f cx a).map u
 | .BoolOp o es p=>cBs (f cx) o p es
 | .Compare a os bs _=>cCm (f cx) a os bs
 | .IfExp c a b _=>map3 .ite (f cx c) (f cx a) (f cx b)
 | .Call g as ks p=>gd ks.isEmpty (match nameOf g with
  | some x=>(cG G cx x).bind fun v=>cFn G (f cx) cx v as
  | none=>(attrOf g).bind fun q=>cMe (f cx) cx q.1 q.2.1 q.2.2 as p)
 | .Attribute o a _=>gd (a == "lineno") ((nameOf o).bind fun x=>(cN cx x).map .line)
 | .Subscript a i _=>cSb (f cx) a i
 | .List es _=>gd (decide (es.length ≤ 1000)) ((cL (f cx) es).map .lst)
 | .Tuple es _ _=>gd (decide (es.length ≤ 1000)) ((cL (f cx) es).map .tupl)
 | .ListComp elt gs sc _=>cCo G f cx elt sc gs
 | _=>none
noncomputable def cE (G:Gl):Nat→Cx→Expr→Option X
 | 0,_,_=>none
 | n + 1,cx,e=>cE1 G (cE G n) cx e
end Mine
namespace Mine
open PySem PySem.Spec PyProof.Rows
section
variable {I:LexI} {B:Addr→Option Obj} {os:OsState} {R:RS} {st:St} {s:Shared} {prog:Program} {w:World} {A:Around} {E:Value→Shared→Prop} {env:Env}
theorem sub_any {value slice:Expr} {pos:Pos} {Q:Value→Shared→Prop}
  (h:wpAny (model prog w) A (eval value env) (fun o s₁=>wpAny (model prog w) A (eval slice env) (fun i s₂=>ItemOn (model prog w) A E o i Q s₂) E s₁) E s) :
  wpAny (model prog w) A (eval (.Subscript value slice pos) env) Q E s:=by
 simp only [eval_Subscript]
 refine wpAny_bind (wpAny_mono h (fun o s₁ h₁=>wpAny_bind (wpAny_holding (wpAny_mono h₁ (fun i s₂ h₂=>wpAny_bind (wpAny_standAt ?_)) fun _ _ x=>x)))
  fun _ _ x=>x)
 refine (h₂).elim fun T k0=>k0.elim fun id k1=>k1.elim fun hl k2=>k2.elim fun hT hg=>?_
 have tail:∀ (vs:List Value),wpAny (model prog w) A (operate vs (getItem o i)) (fun r s₃=>wpAny (model prog w) A (letTemporaryGo value o r >>= fun _=>pure r) Q E s₃) E s₂ :=
  fun vs=>wpAny_operating (wpAny_mono hg (fun r s₃ h₃=>wpAny_bind (wpAny_letTemporaryGo (wpAny_pure h₃))) fun _ _ x=>x)
 have fin:wpAny (model prog w) A (subscripted slice false o i) (fun r s₃=>wpAny (model prog w) A (letTemporaryGo value o r >>= fun _=>pure r) Q E s₃) E s₂:=by
  have e:∃ vs,subscripted slice false o i = operate vs (getItem o i):=by
   cases slice with
   | Slice a b st p=>cases st <;> exact ⟨_,rfl⟩
   | _=>exact ⟨_,rfl⟩
  exact e.elim fun vs e=>by rw [e];exact tail vs
 first
  | (refine wpAny_bind ?_;rw [getitemInPython_of_ne hT.not_modules];refine wpAny_bind (wpAny_specialOf hT hl ?_))
  | refine wpAny_bind (wpAny_specialOf hT hl ?_)
 first
  | exact wpAny_pure (wpAny_bind fin)
  | exact wpAny_bind (wpAny_pure (wpAny_bind fin))
  | exact wpAny_bind fin
structure AtI {α:Type} (l:List α) (i:Int) (x:α):Prop where
 sq:seqIndex? i l.length = some (if i < 0 then i + l.length else i).toNat
 get:l[(if i < 0 then i + l.length else i).toNat]? = some x
 lo:-(l.length:Int) ≤ i
 hi:i < l.length
theorem at_lt {α:Type} {l:List α} {i:Int} {x:α} (h:at? l i = some x):AtI l i x:=by
 unfold at? at h
 by_cases h0:0 ≤ i
 ·rw [if_pos h0] at h
  have h1:¬ i < 0:=by lia
  have h2:=(List.getElem?_eq_some_iff.mp h).1
  have h3:i < l.length:=by lia
  have h4:-(l.length:Int) ≤ i:=by lia
  refine ⟨?_,?_,h4,h3⟩
  ·unfold seqIndex?
   simp only [if_neg h1]
   rw [if_pos (by simp only [decide_eq_true h0,decide_eq_true h3];rfl)]
  ·simp only [if_neg h1];exact h
 ·rw [if_neg h0] at h
  refine oIfP_el h fun q h=>?_
  have h1:i < 0:=by lia
  have h3:i < l.length:=by lia
  refine ⟨?_,?_,q,h3⟩
  ·unfold seqIndex?
   simp only [if_pos h1]
   rw [if_pos (by simp only [Bool.and_eq_true,decide_eq_true_eq,decide_eq_true_eq];lia)]
  ·simp only [if_pos h1];exact h
theorem item_list (r:Rel I B os R st s) {l:List V} {k:Int} {v:V} {o:Value} {t:Tok} {Q:Value→Shared→Prop} (hv:at? l k = some v) (ho:SR R.Z R.mu s.heap (.list l) o) (h:PostV I B os R s st v Q) :
  ItemOn (model prog w) A E o (.int k t) Q s:=by
 have q:=at_lt hv
 refine ho.list_el fun a l' n e hl rs=>(rs.get _ _ q.get).elim fun y h1=>?_
 have hy:=h1.1
 have lo:=q.lo
 have hi:=q.hi
 have hL:s.heap.IsList a l'.toArray:=⟨_,e,rfl,n,rfl⟩
 have hs:(l'.toArray.size:Int) = l.length:=by rw [List.size_toArray,rs.length]
 refine ⟨"list",_,list_getitem_lookup,hL.typeIs,?_⟩
 by_cases hk:k < 0
 ·rw [if_pos hk] at hy
  exact wpAny_getItem_list_neg hL hk (by rw [hs];exact lo) (by lia) (by rw [hs];simpa using hy) (h.here r h1.2)
 ·rw [if_neg hk] at hy
  exact wpAny_getItem_list hL (by lia) (by lia) (by simpa using hy) (h.here r h1.2)
theorem item_tup (r:Rel I B os R st s) {l:List V} {k:Int} {v:V} {o:Value} {t:Tok} {Q:Value→Shared→Prop} (hv:at? l k = some v) (ho:SR R.Z R.mu s.heap (.tup l) o) (h:PostV I B os R s st v Q) :
  ItemOn (model prog w) A E o (.int k t) Q s:=by
 have q:=at_lt hv
 refine ho.tup_el fun a l' n e hl rs=>(rs.get _ _ q.get).elim fun y h1=>?_
 have hT:IsTup s.heap a l'.toArray:=⟨_,e,rfl,n,rfl⟩
 have hi:=q.hi
 exact ⟨"tuple",_,slot_tuple_getitem.lookup,hT.typeIs,getItem_tuple hT (by have:=q.lo;lia) (by lia) (by simp only [List.size_toArray,rs.length];exact q.sq) (by simpa using h1.1) (h.here r h1.2)⟩
theorem item_str (r:Rel I B os R st s) {x:T} {k:Int} {c:Nat} {o:Value} {t:Tok} {Q:Value→Shared→Prop} (hv:at? x k = some c) (ho:SR R.Z R.mu s.heap (.str x) o) (h:PostV I B os R s st (.str [c]) Q) :
  ItemOn (model prog w) A E o (.int k t) Q s:=by
 have q:=at_lt hv
 refine ho.str_el fun hl u=>?_
 have hi:=q.hi
 have lo:=q.lo
 have e:Txt.charAt (strOf x) k = some c:=by unfold Txt.charAt;simp only [strOf_length,q.sq];simpa [strOf] using q.get
 refine SB.item (by unfold fitsSsize;rw [decide_eq_false (by lia),decide_eq_false (by lia)];rfl) (by rw [e];rfl) ?_
 have e2:Txt.item (strOf x) k = strOf [c]:=by unfold Txt.item;rw [e];rfl
 rw [e2]
 exact h.tok r _ fun _ _ _=>.str (by simp)
theorem idx_ok (r:Rel I B os R st s) {x v:V} {k:Int} {o:Value} {t:Tok} {Q:Value→Shared→Prop}
  (hv:idxV x k = some v) (ho:SR R.Z R.mu s.heap x o) (h:PostV I B os R s st v Q):ItemOn (model prog w) A E o (.int k t) Q s:=by
 cases x with
 | list l=>exact item_list r hv ho h
 | tup l=>exact item_tup r hv ho h
 | str l=>exact oM (P:=fun v=>PostV I B os R s st v Q→_) hv (fun c hc h=>item_str r hc ho h) h
 | _=>exact nso hv
inductive BndP:Option Int→Value→Prop
 | none:BndP none .none
 | int {i:Int} {t:Tok}:BndP (some i) (.int i t)
theorem bnd_part {Z:Addr→Prop} {mu:List (List Addr)} {hp:Heap} {v:V} {o:Option Int} {u:Value} (hv:bnd v = some o) (h:VR Z mu hp v u):BndP o u:=by
 cases v with
 | none=>obtain rfl:=Option.some.inj hv;cases h;exact .none
 | int i=>obtain rfl:=Option.some.inj hv;cases h;exact .int
 | _=>exact nso hv
theorem BndP.part {o:Option Int} {u:Value} (h:BndP o u):IsPart u o:=by cases h with
 | none=>exact .none
 | int=>exact .int _ _
theorem BndP.val {o:Option Int} {u:Value} (h:BndP o u):∃ q:Option (Int × Tok),u = partValue q ∧ q.map (·.1) = o:=by cases h with
 | none=>exact ⟨Option.none,rfl,rfl⟩
 | int=>exact ⟨some (_,_),rfl,rfl⟩
theorem pick_cut (l:List Value) (lo hi:Option Int):slicePick l.toArray lo hi none = (cut l lo hi).toArray:=by
 simp only [slicePick_plain]
 unfold cut
 rw [List.size_toArray];rfl
theorem cut_length_le {α:Type} (l:List α) (lo hi:Option Int):(cut l lo hi).length ≤ l.length:=by
 unfold cut
 refine Nat.le_trans (by simp only [List.length_take];exact Nat.min_le_right _ _) (Nat.le_trans (Nat.le_of_eq List.length_drop) (Nat.sub_le _ _))
theorem VRs.cut {Z:Addr→Prop} {mu:List (List Addr)} {h:Heap} {v:List V} {w:List Value} (r:VRs Z mu h v w) (lo hi:Option Int):VRs Z mu h (Mine.cut v lo hi) (Mine.cut w lo hi):=by
 unfold Mine.cut;rw [r.length];exact (r.drop _).take _
theorem slc_ok (r:Rel I B os R st s) {x v:V} {vl vh:V} {l h:Option Int} {o ul uh:Value} {Q:Value→Shared→Prop} (hl:bnd vl = some l) (hh:bnd vh = some h) (rl:VR R.Z R.mu s.heap vl ul) (rh:VR R.Z R.mu s.heap vh uh)
  (hv:slcV x l h = some v) (ho:SR R.Z R.mu s.heap x o) (hQ:PostV I B os R s st v Q) :
  ItemOn (model prog w) A E o (.ref s.heap.objs.size) Q { s with heap:=s.heap.push { cls:=.type "slice",data:=.fields #[ul,uh,.none] } }:=by
 have pl:=bnd_part hl rl
 have ph:=bnd_part hh rh
 refine (r.keeps (h':=s.heap.push { cls:=.type "slice",data:=.fields #[ul,uh,.none] }) (tk:=s.toks) (fun b o e=>Heap.get?_push_of_some _ e)).elim fun r1 s1=>?_
 cases x with
 | list xs =>
  obtain rfl:=Option.some.inj hv
  refine ho.list_el fun a l' n e hlen rs=>?_
  have hL:s.heap.IsList a l'.toArray:=⟨_,e,rfl,n,rfl⟩
  refine ⟨"list",_,list_getitem_lookup,(hL.push _).typeIs,wpAny_getItem_list_slice (hL.push _) (Heap.IsSliceOf.new ..) pl.part ph.part .none (by simp) ?_ (by rw [List.size_toArray,rs.length];exact limL hlen)⟩
  rw [pick_cut]
  exact PostV.newList r1 (fun R' s' val a b c=>hQ R' s' val (s1.trans a) b c) ((s1.vrs rs).cut l h) (Nat.le_trans (cut_length_le _ _ _) hlen) (n:=0) (tk:=s.toks) (fun b o e=>Heap.get?_push_of_some _ e) (get_size _) (Heap.get?_push_size _ rfl)
 | str xs =>
  obtain rfl:=Option.some.inj hv
  refine ho.str_el fun hlen t=>pl.val.elim fun ql el=>ph.val.elim fun qh eh=>?_
  rw [el.1,eh.1] at r1 s1 ⊢
  refine ⟨"str",_,F.slot_str_getitem.lookup,typeIs_str _ _ _,wpAny_getItem_str_slice (l:=ql) (u:=qh) (st:=none) ⟨_,Heap.get?_push_size _ rfl,rfl,rfl⟩ rfl ?_⟩
  refine post_val_or_str (c:=((1:Int) == 1 && (slicePicked (strOf _) ql qh none).length == (strOf _).length) = true) (y:=strOf _) (z:=⟨((slicePicked (strOf _) ql qh none).filterMap ((strOf _).cps[·]?)).toArray⟩) ?_
  unfold slicePicked
  rw [el.2,eh.2]
  show (Txt.slice (strOf xs) l h).length ≤ _ ∧ ∀ t' k,Q (.str (Txt.slice (strOf xs) l h) t') _
  rw [slice_eq]
  exact ⟨by rw [strOf_length];exact limL (Nat.le_trans (cut_length_le _ _ _) hlen),fun t' k=>hQ R _ _ (s1.trans r1.toks.2) r1.toks.1 (.str (Nat.le_trans (cut_length_le _ _ _) hlen))⟩
 | _=>exact nso hv
theorem pick_rev (l:List Value):slicePick l.toArray none none (some (-1)) = l.reverse.toArray:=PySem.W.krv_pick l.toArray
theorem rev_ok (r:Rel I B os R st s) {xs:List V} {o:Value} {t:Tok} {Q:Value→Shared→Prop} (ho:SR R.Z R.mu s.heap (.list xs) o) (hQ:PostV I B os R s st (.list xs.reverse) Q) :
  ItemOn (model prog w) A E o (.ref s.heap.objs.size) Q { s with heap:=s.heap.push { cls:=.type "slice",data:=.fields #[.none,.none,.int (-1) t] } }:=by
 refine (r.keeps (h':=s.heap.push { cls:=.type "slice",data:=.fields #[.none,.none,.int (-1) t] }) (tk:=s.toks) (fun b o e=>Heap.get?_push_of_some _ e)).elim fun r1 s1=>ho.list_el fun a l' n e hlen rs=>?_
 have hL:s.heap.IsList a l'.toArray:=⟨_,e,rfl,n,rfl⟩
 refine ⟨"list",_,list_getitem_lookup,(hL.push _).typeIs,wpAny_getItem_list_slice (hL.push _) (Heap.IsSliceOf.new ..) .none .none (.int _ _) (by simp) ?_ (by simp only [List.size_toArray,rs.length];exact limL hlen)⟩
 rw [pick_rev]
 exact PostV.newList r1 (fun R' s' val a b c=>hQ R' s' val (s1.trans a) b c) (s1.vrs rs).reverse (by simpa using hlen) (n:=0) (tk:=s.toks) (fun b o e=>Heap.get?_push_of_some _ e) (get_size _) (Heap.get?_push_size _ rfl)
end
noncomputable def GA (n:Nat) (A:Around):Prop:=A.handled = none ∧ A.depth + n < recursionLimit ∧ A.units + 100 + 10 * n < cLine
theorem GA.units {n:Nat} {A:Around} (h:GA n A):A.units + 100 < cLine:=by have:=h.2.2;exact Nat.lt_of_le_of_lt (Nat.le_add_right _ _) (by assumption)
theorem GA.deeper {n:Nat} {A:Around} {env:Env} (h:GA (n + 1) A):GA n (A.deeper env):=⟨h.1,by have:=h.2.1;simp only [Around.deeper];lia,by have:=h.2.2;simp only [Around.deeper];lia⟩
structure EnvOk (cx:Cx) (env:Env) (dt:List Loc):Prop where
 kind:env.scope.kind = .function
 names:env.scope.names = cx.names
 globals:env.globals = mainGlobals
 builtins:env.builtins = builtinsNs
 size:dt.length = cx.size
 loc:∀ x i,cx.slot x = some i→cx.names.lookup x = some .local→dt[i]? = some (.ns env.locals x)
 cell:∀ x i,cx.slot x = some i→cx.names.lookup x = some .cell ∨ cx.names.lookup x = some .free→∃ c,env.cells.lookup x = some c ∧ dt[i]? = some (.cell c)
 free:∀ i,cx.next ≤ i→i < dt.length→dt[i]? = some .no
 below:∀ x i,cx.slot x = some i→i < cx.next
noncomputable abbrev PostB (I:LexI) (B:Addr→Option Obj) (os:OsState) (R:RS) (s:Shared) (st':St) (v:Bool) (Q:Bool→Shared→Prop):Prop :=
 ∀ R' s',Step R s R' s'→Rel I B os R' st' s'→Q v s'
structure Wd (prog:Program) (w:World) where
 I:LexI
 B:Addr→Option Obj
 os:OsState
 C:Con
 G:Gl
 lev:Nat
 mg:Str→Option Value
 mb:Str→Option Value
section
variable {prog:Program} {w:World} (W:Wd prog w)
structure Wd.Ok:Prop where
 hmg:∀ h:Heap,(∀ b o,W.B b = some o→h.get? b = some o)→h.Ns mainGlobals W.mg
 hmb:∀ h:Heap,(∀ b o,W.B b = some o→h.get? b = some o)→h.Ns builtinsNs W.mb
 gcst:∀ x v,W.G x = some (.cst v)→∃ val,W.mg x = some val ∧ ∀ Z mu h,VR Z mu h v val
 gfn:∀ x f,W.G x = some (.fn f)→(∀ k,f ≠ .user k)→W.mg x = none ∧ W.mb x = some f.callee
 gset:∀ x,W.G x = some .set→W.mg x = none ∧ W.mb x = some (.type "set")
 genum:∀ x,W.G x = some .enum→W.mg x = none ∧ W.mb x = some (.type "enumerate")
 guser:∀ x k,W.G x = some (.fn (.user k))→∃ a o fd,W.mg x = some (.ref a) ∧ W.B a = some o ∧ o.data = .func fd ∧
  ∀ (A:Around) (E:Value→Shared→Prop) (vs:List V) (ws:List Value) (v:V) (R:RS) (st:St) (s:Shared) (Q:Value→Shared→Prop),GA W.lev A→W.C k vs = some v→VRs R.Z R.mu s.heap vs ws→Rel W.I W.B W.os R st s →
   PostV W.I W.B W.os R s st v Q→wpAny (model prog w) A (call (.ref a) ws) Q E s
 glexer:∀ x,W.G x = some .lexer→∃ a o fd,W.mg x = some (.ref a) ∧ W.B a = some o ∧ o.data = .func fd ∧
  ∀ (A:Around) (E:Value→Shared→Prop) (x:T) (t:Tok) (R:RS) (st:St) (s:Shared) (Q:Value→Shared→Prop),GA W.lev A→x.length ≤ 16777216→Rel W.I W.B W.os R st s →
   PostV W.I W.B W.os R s { st with mu:=st.mu ++ [.lex x 1 []] } (.mref st.mu.length) Q→wpAny (model prog w) A (call (.ref a) [.str (strOf x) t]) Q E s
 tok:∀ (A:Around) (E:Value→Shared→Prop) (env:Env) (x:Str) (xp ap pos:Pos) (R:RS) (st st':St) (s:Shared) (n:Nat) (a:Addr) (f:List Addr) (v:V) (Q:Value→Shared→Prop),GA W.lev A→(ap.endLine == pos.line) = true →
  Rel W.I W.B W.os R st s→R.mu[n]? = some (a :: f)→st.tok n = some (v,st')→PostV W.I W.B W.os R s st' v Q →
  wpAny (model prog w) A (methodCall (.Name x xp) "get_token" ap pos env (.ref a) 0 [] []) Q E s
 line:∀ (A:Around) (E:Value→Shared→Prop) (R:RS) (st:St) (s:Shared) (n:Nat) (a:Addr) (f:List Addr) (k:Int) (Q:Value→Shared→Prop),GA W.lev A →
  Rel W.I W.B W.os R st s→R.mu[n]? = some (a :: f)→st.line n = some k→PostV W.I W.B W.os R s st (.int k) Q →
  wpAny (model prog w) A (getAttr (.ref a) "lineno" true) Q E s
 push:∀ (A:Around) (E:Value→Shared→Prop) (env:Env) (x:Str) (xp ap pos:Pos) (arg:Sem Value) (R:RS) (st:St) (s:Shared) (n:Nat) (a:Addr) (f:List Addr) (Q:Value→Shared→Prop),GA W.lev A→(ap.endLine == pos.line) = true →
  Rel W.I W.B W.os R st s→R.mu[n]? = some (a :: f)→(∃ left line l,st.mu[n]? = some (.lex left line l)) →
  wpAny (model prog w) A arg (fun v s₁=>∃ R₁ st₁ st₂ pv,Step R s R₁ s₁ ∧ Rel W.I W.B W.os R₁ st₁ s₁ ∧ VR R₁.Z R₁.mu s₁.heap pv v ∧ st₁.push n pv = some st₂ ∧
   ∀ R' s',Step R₁ s₁ R' s'→Rel W.I W.B W.os R' st₂ s'→Q .none s') E s →
  wpAny (model prog w) A (methodCall (.Name x xp) "push_token" ap pos env (.ref a) 1 [(false,arg)] []) Q E s
noncomputable def isBO:Expr→Bool
 | .BoolOp ..=>true
 | _=>false
structure Snd (cx:Cx) (e:Expr) (x:X):Prop where
 val:∀ {A:Around} {E:Value→Shared→Prop} {env:Env} {R:RS} {st st':St} {s:Shared} {v:V} {Q:Value→Shared→Prop},GA W.lev A→EnvOk cx env R.dt→Rel W.I W.B W.os R st s→ev W.C x st = some (v,st') →
  PostV W.I W.B W.os R s st' v Q→wpAny (model prog w) A (eval e env) Q E s
 tru:∀ {A:Around} {E:Value→Shared→Prop} {env:Env} {R:RS} {st st':St} {s:Shared} {b:Bool} {Q:Bool→Shared→Prop},GA W.lev A→EnvOk cx env R.dt→Rel W.I W.B W.os R st s→evT W.C x st = some (b,st') →
  PostB W.I W.B W.os R s st' b Q→∀ whole,(isBO e = true ∨ whole = eval e env)→wpAny (model prog w) A (isTrue e env whole) Q E s
noncomputable def SndL (cx:Cx) (es:List Expr) (x:X):Prop :=
 ∀ {A:Around} {E:Value→Shared→Prop} {env:Env} {R:RS} {st st':St} {s:Shared} {vs:List V} {pos:Pos} {Q:List Value→Shared→Prop},GA W.lev A→EnvOk cx env R.dt→Rel W.I W.B W.os R st s→ev W.C x st = some (.list vs,st') →
  (∀ R' s' ws,Step R s R' s'→Rel W.I W.B W.os R' st' s'→VRs R'.Z R'.mu s'.heap vs ws→Q ws s')→wpAny (model prog w) A (spliced (backTo pos (starEach es env))) Q E s
end
section
variable {prog:Program} {w:World} {W:Wd prog w} {cx:Cx} {A:Around} {E:Value→Shared→Prop} {env:Env} {R R':RS} {st st':St} {s s':Shared}
theorem EnvOk.step (h:EnvOk cx env R.dt) (a:Step R s R' s'):EnvOk cx env R'.dt:=by simp only [a.dt];exact h
theorem PostV.step {v:V} {Q:Value→Shared→Prop} (h:PostV W.I W.B W.os R s st v Q) (a:Step R s R' s'):PostV W.I W.B W.os R' s' st v Q:=fun R₂ s₂ val b c d=>h R₂ s₂ val (a.trans b) c d
theorem PostB.step {v:Bool} {Q:Bool→Shared→Prop} (h:PostB W.I W.B W.os R s st v Q) (a:Step R s R' s'):PostB W.I W.B W.os R' s' st v Q:=fun R₂ s₂ b c=>h R₂ s₂ (a.trans b) c
theorem mainNs (O:W.Ok) (r:Rel W.I W.B W.os R st s):s.heap.Ns mainGlobals W.mg:=O.hmg _ fun b o e=>(r.base b o e).2
theorem biNs (O:W.Ok) (r:Rel W.I W.B W.os R st s):s.heap.Ns builtinsNs W.mb:=O.hmb _ fun b o e=>(r.base b o e).2
theorem evT_mk {C:Con} {x:X} {b:Bool} {v:V} (h:ev C x st = some (v,st')) (ht:truth (st'.see v) = some b):evT C x st = some (b,st'):=(oS_eq h _).trans (oMap _ ht)
theorem evT_el {C:Con} {x:X} {b:Bool} {P:Prop} (h:evT C x st = some (b,st')) (c:∀ v,ev C x st = some (v,st')→truth (st'.see v) = some b→P):P :=
 oS_el h fun v st₁ e h=>by
  obtain ⟨b',h1,h2⟩:=oI h
  cases h2;exact c v e h1
theorem evT_of {C:Con} {x:X} {b:Bool} (h:evT C x st = some (b,st')):∃ v,ev C x st = some (v,st') ∧ truth (st'.see v) = some b:=evT_el h fun v a b=>⟨v,a,b⟩
section
variable {α:Type} {P:Prop} {v w:V} {st₁ st₂:St} {C:Con} {x y z:X} {b:Bool} {Q:Value→Shared→Prop} {QB:Bool→Shared→Prop} {I:LexI} {B:Addr→Option Obj} {os:OsState}
theorem PostV.map {o:Option α} {f:α→V} (hv:(o.map fun a=>(f a,st₁)) = some (v,st')) (h:PostV I B os R s st' v Q) (c:∀ a,o = some a→PostV I B os R s st₁ (f a) Q→P):P:=by
 obtain ⟨a,h1,h2⟩:=oI hv
 cases h2;exact c _ h1 h
theorem PostV.ret (h:PostV I B os R s st' v Q) (hv:some (w,st₁) = some (v,st')):PostV I B os R s st₁ w Q:=by cases hv;exact h
theorem PostB.not (ht:evT C (.not x) st = some (b,st')) (h:PostB I B os R s st' b QB) (c:∀ b',evT C x st = some (b',st')→PostB I B os R s st' (!b') QB→P):P :=
 evT_el ht fun v h1 h2=>oS_el h1 fun va st₁ e1 h1=>by
  obtain ⟨b',h3,h4⟩:=oI h1
  cases h4;obtain rfl:=Option.some.inj h2
  exact c b' (evT_mk e1 h3) h
theorem PostB.and (ht:evT C (.and x y) st = some (b,st')) (h:PostB I B os R s st' b QB) (c:∀ st₁,evT C x st = some (true,st₁)→evT C y st₁ = some (b,st')→P) (d:evT C x st = some (false,st')→PostB I B os R s st' false QB→P):P :=
 evT_el ht fun v h1 h2=>oS_el h1 fun va st₁ e1 h1=>oT_el h1 (fun e2 h1=>c st₁ (evT_mk e1 e2) (evT_mk h1 h2)) fun e2 h1=>by
  cases h1
  cases e2.symm.trans h2
  exact d (evT_mk e1 e2) h
theorem PostB.or (ht:evT C (.or x y) st = some (b,st')) (h:PostB I B os R s st' b QB) (c:∀ st₁,evT C x st = some (false,st₁)→evT C y st₁ = some (b,st')→P) (d:evT C x st = some (true,st')→PostB I B os R s st' true QB→P):P :=
 evT_el ht fun v h1 h2=>oS_el h1 fun va st₁ e1 h1=>oT_el h1 (fun e2 h1=>by
  cases h1
  cases e2.symm.trans h2
  exact d (evT_mk e1 e2) h) fun e2 h1=>c st₁ (evT_mk e1 e2) (evT_mk h1 h2)
theorem PostB.ite (ht:evT C (.ite z x y) st = some (b,st')) (c:∀ st₁,evT C z st = some (true,st₁)→evT C x st₁ = some (b,st')→P) (d:∀ st₁,evT C z st = some (false,st₁)→evT C y st₁ = some (b,st')→P):P :=
 evT_el ht fun v h1 h2=>oS_el h1 fun va st₁ e1 h1=>oT_el h1 (fun e2 h1=>c st₁ (evT_mk e1 e2) (evT_mk h1 h2)) fun e2 h1=>d st₁ (evT_mk e1 e2) (evT_mk h1 h2)
theorem ev_ite_el {r:V × St} (hv:ev C (.ite z x y) st = some r) (c:∀ st₁,evT C z st = some (true,st₁)→ev C x st₁ = some r→P) (d:∀ st₁,evT C z st = some (false,st₁)→ev C y st₁ = some r→P):P :=
 oS_el hv fun va st₁ e1 h1=>oT_el h1 (fun e2 h1=>c st₁ (evT_mk e1 e2) h1) fun e2 h1=>d st₁ (evT_mk e1 e2) h1
theorem PostB.map {o:Option Bool} (hv:(o.map fun a=>(V.bool a,st₁)) = some (v,st')) (ht:truth (st'.see v) = some b) (h:PostB I B os R s st' b QB) (c:∀ a,o = some a→PostB I B os R s st₁ a QB→P):P:=by
 obtain ⟨a,h1,h2⟩:=oI hv
 cases h2;obtain rfl:=Option.some.inj ht;exact c _ h1 h
end
theorem tru_of (r:Rel W.I W.B W.os R st s) {v:V} {b:Bool} {val:Value} (hv:VR R.Z R.mu s.heap v val) (ht:truth (st.see v) = some b) {Q:Bool→Shared→Prop} (h:PostB W.I W.B W.os R s st b Q) :
  wpAny (model prog w) A (truthy val) Q E s :=
 truth_ok r ht (r.see hv) fun tk=>h R _ r.toks.2 r.toks.1
theorem Snd.plain {e:Expr} {x:X}
  (hv:∀ {A:Around} {E:Value→Shared→Prop} {env:Env} {R:RS} {st st':St} {s:Shared} {v:V} {Q:Value→Shared→Prop},GA W.lev A→EnvOk cx env R.dt→Rel W.I W.B W.os R st s→ev W.C x st = some (v,st') →
   PostV W.I W.B W.os R s st' v Q→wpAny (model prog w) A (eval e env) Q E s)
  (hp:∀ env whole,isTrue e env whole = do { let v ← whole;standAt e.pos;holding [v] (truthy v) }) (hb:isBO e = false):Snd W cx e x:=by
 refine ⟨hv,fun {A E env R st st' s b Q} ga eo r ht h whole hw=>?_⟩
 rcases hw with hw | rfl
 ·rw [hb] at hw;exact fat hw
 refine Classical.byContradiction fun hcon=>?_
 refine (evT_of ht).elim fun v k0=>k0.elim fun h1 h2=>?_
 refine hcon ?_
 refine isTrue_plain ?_ (hp _ _)
 refine hv ga eo r h1 fun R₁ s₁ val a r₁ hv₁=>tru_of r₁ hv₁ h2 (h.step a)
theorem get_some {i:Nat} {v:V} (h:st.get i = some v):st.vars[i]? = some (some v):=by
 unfold St.get at h
 cases e:st.vars[i]? with
 | none=>rw [e] at h;exact nso h
 | some o=>rw [e] at h;cases o with
  | none=>exact nso h
  | some u=>obtain rfl:=Option.some.inj h;rfl
set_option tactic.hygienic true in
theorem load_ok (r:Rel W.I W.B W.os R st s) (eo:EnvOk cx env R.dt) {x:Str} {i:Nat} {v:V} (hn:cN cx x = some i) (hg:st.get i = some v) {Q:Value→Shared→Prop} (h:∀ val,VR R.Z R.mu s.heap v val→Q val s) :
  wpAny (model prog w) A (loadName env x) Q E s ∧ (x == ("__debug__":Str)) = false:=by
 unfold cN at hn
 split at hn
 ·exact nso hn
 ·rename_i hd
  rw [Bool.or_eq_true,not_or] at hd
  have hd1:(x == ("__debug__":Str)) = false:=by simpa using hd.1
  have hd2:(x == ("__classdict__":Str)) = false:=by simpa using hd.2
  refine Classical.byContradiction fun hcon=>?_
  obtain ⟨l,val,h1,h2,h3⟩:=r.var i v (get_some hg)
  refine hcon ?_
  refine ⟨?_,hd1⟩
  have hk:∀ k,cx.names.lookup x = some k→env.kindOf x = some k:=fun k e=>by unfold Env.kindOf;rw [eo.names];exact e
  split at hn
  ·rename_i e
   rw [eo.loc x i hn e] at h1;obtain rfl:=Option.some.inj h1
   refine Classical.byContradiction fun hcon=>?_
   refine (h2).elim fun m k0=>k0.elim fun h4 h5=>?_
   refine hcon ?_
   exact wpAny_loadName_local eo.kind (hk _ e) h4 h5 (h _ h3)
  ·rename_i e
   refine Classical.byContradiction fun hcon=>?_
   refine (eo.cell x i hn (.inl e)).elim fun c k0=>k0.elim fun h4 h5=>?_
   refine hcon ?_
   rw [h5] at h1;obtain rfl:=Option.some.inj h1
   exact wpAny_loadName_cell eo.kind (hk _ e) h4 h2 (h _ h3)
  ·rename_i e
   refine Classical.byContradiction fun hcon=>?_
   refine (eo.cell x i hn (.inr e)).elim fun c k0=>k0.elim fun h4 h5=>?_
   refine hcon ?_
   rw [h5] at h1;obtain rfl:=Option.some.inj h1
   exact wpAny_loadName_free eo.kind (hk _ e) h4 h2 (h _ h3) hd2
  ·exact nso hn
theorem name_ok (r:Rel W.I W.B W.os R st s) (eo:EnvOk cx env R.dt) {x:Str} {p:Pos} {i:Nat} {v:V} (hn:cN cx x = some i) (hg:st.get i = some v) {Q:Value→Shared→Prop} (h:∀ val,VR R.Z R.mu s.heap v val→Q val s) :
  wpAny (model prog w) A (eval (.Name x p) env) Q E s:=let ⟨h1,h2⟩:=load_ok r eo hn hg h;wpAny_Name h1 h2
set_option tactic.hygienic true in
theorem glob_kind {G:Gl} {x:Str} {g:GV} (hG:cG G cx x = some g) (eo:EnvOk cx env R.dt):env.kindOf x = some .globalImplicit ∧ (x == ("__debug__":Str)) = false ∧ G x = some g:=by
 unfold cG at hG
 split at hG
 ·exact nso hG
 ·rename_i hd
  split at hG
  ·rename_i e
   exact ⟨by unfold Env.kindOf;rw [eo.names];exact e,by simpa using hd,hG⟩
  ·exact nso hG
theorem glob_main (O:W.Ok) (r:Rel W.I W.B W.os R st s) (eo:EnvOk cx env R.dt) {x:Str} {p:Pos} {g:GV} (hG:cG W.G cx x = some g) {v:Value} (hv:W.mg x = some v) {Q:Value→Shared→Prop} (h:Q v s) :
  wpAny (model prog w) A (eval (.Name x p) env) Q E s :=
 let ⟨h1,h2,_⟩:=glob_kind hG eo
 Calls.Name_function_global eo.kind h1 (Calls.loadGlobal_global (by rw [eo.globals];exact mainNs O r) hv h) h2
theorem glob_bi (O:W.Ok) (r:Rel W.I W.B W.os R st s) (eo:EnvOk cx env R.dt) {x:Str} {p:Pos} {g:GV} (hG:cG W.G cx x = some g) {v:Value} (hm:W.mg x = none) (hv:W.mb x = some v) {Q:Value→Shared→Prop} (h:Q v s) :
  wpAny (model prog w) A (eval (.Name x p) env) Q E s :=
 let ⟨h1,h2,_⟩:=glob_kind hG eo
 Calls.Name_function_global eo.kind h1 (Calls.loadGlobal_builtin (by simp only [eo.globals];exact mainNs O r) hm (by simp only [eo.builtins];exact biNs O r) hv h) h2
theorem strOf_strT (x:Str):strOf (strT x) = x:=strOf_of x
theorem snd_name (O:W.Ok) {x:Str} {p:Pos} {i:Nat} (hn:cN cx x = some i):Snd W cx (.Name x p) (.var i) :=
 .plain (fun _ eo r hv h=>h.map hv fun _ h1 h=>name_ok r eo hn h1 fun _ hv=>h.here r hv) (fun _ _=>rfl) rfl
theorem snd_gcst (O:W.Ok) {x:Str} {p:Pos} {c:V} (hG:cG W.G cx x = some (.cst c)):Snd W cx (.Name x p) (.cst c) :=
 .plain (fun _ eo r hv h=>(O.gcst _ _ (glob_kind hG eo).2.2).elim fun _ k=>glob_main O r eo hG k.1 ((h.ret hv).here r (k.2 _ _ _))) (fun _ _=>rfl) rfl
set_option tactic.hygienic true in
theorem snd_const {c:Const} {k:Nat} {p:Pos} {v:V} (hc:cC c = some v):Snd W cx (.Constant c k p) (.cst v):=by
 refine .plain (fun {A E env R st st' s v' Q} ga eo r hv h=>?_) (fun _ _=>rfl) rfl
 have h:=h.ret hv
 clear hv
 unfold cC at hc
 split at hc
 ·obtain rfl:=Option.some.inj hc;exact wpAny_pure (h.here r .none)
 ·obtain rfl:=Option.some.inj hc;exact wpAny_pure (h.here r .bool)
 ·obtain rfl:=Option.some.inj hc;exact wpAny_Constant_int (h.tok r _ fun _ _ _=>.int)
 ·split at hc
  ·rename_i q
   obtain rfl:=Option.some.inj hc;refine Calls.Constant_str ?_
   have:=h.tok r (s.toks + 1) (w:=.str (strOf (strT _)) s.toks) fun _ _ _=>.str q
   rw [strOf_strT] at this;exact this
  ·exact nso hc
 ·exact nso hc
theorem cO_op {o:Operator} {b:Bop} (h:cO o = some b):b.op = o:=by cases o <;> first | exact nso h | exact Option.some.inj h ▸ rfl
theorem cP_op {o:CmpOp} {b:Cop} (h:cP o = some b):b.op = o:=by cases o <;> first | exact nso h | exact Option.some.inj h ▸ rfl
theorem snd_bin {a b:Expr} {o:Operator} {p:Pos} {q:Bop} {x y:X} (ho:cO o = some q) (ha:Snd W cx a x) (hb:Snd W cx b y):Snd W cx (.BinOp a o b p) (.bin q x y):=by
 cases cO_op ho
 exact .plain (fun ga eo r hv h=>oS_el hv fun _ _ e1 hv=>oS_el hv fun _ _ e2 hv=>h.map hv fun _ h1 h =>
  wpAny_BinOp (ha.val ga eo r e1 fun _ _ _ a₁ r₁ v₁=>hb.val ga (eo.step a₁) r₁ e2 fun _ _ _ a₂ r₂ v₂ =>
   bop_ok r₂ h1 (r₂.see (a₂.vr v₁)) (r₂.see v₂) (PostV.step (W:=W) h (a₁.trans a₂)))) (fun _ _=>rfl) rfl
theorem snd_neg {a:Expr} {p:Pos} {x:X} (ha:Snd W cx a x):Snd W cx (.UnaryOp .USub a p) (.neg x) :=
 .plain (fun ga eo r hv h=>oSI_el hv fun _ _ e1 hv=>wpAny_UnaryOp (ha.val ga eo r e1 fun _ _ _ a₁ r₁ v₁=>by
  cases v₁
  exact neg_int (PostV.tok r₁ (PostV.step (W:=W) (h.ret hv) a₁) _ fun _ _ _=>.int))) (fun _ _=>rfl) rfl
theorem snd_not {a:Expr} {p:Pos} {x:X} (ha:Snd W cx a x):Snd W cx (.UnaryOp .Not a p) (.not x) :=
 ⟨fun ga eo r hv h=>oS_el hv fun _ _ e1 hv=>h.map hv fun _ h1 h =>
  wpAny_UnaryOp (ha.val ga eo r e1 fun _ _ _ a₁ r₁ v₁=>not_of (tru_of r₁ v₁ h1 fun _ _ a₂ r₂=>PostV.here r₂ (PostV.step (W:=W) h (a₁.trans a₂)) .bool)),
  fun ga eo r ht h _ _=>PostB.not ht h fun _ e1 h=>isTrue_not (ha.tru ga eo r e1 (fun R₁ s₁ a₁ r₁=>by exact h R₁ s₁ a₁ r₁) _ (.inr rfl))⟩
theorem snd_one {o:BoolOp} {a:Expr} {p:Pos} {x:X} (ha:Snd W cx a x):Snd W cx (.BoolOp o [a] p) x:=by
 refine ⟨fun {A E env R st st' s v Q} ga eo r hv h=>BoolOp_one (ha.val ga eo r hv h),fun {A E env R st st' s b Q} ga eo r ht h whole hw=>?_⟩
 cases o with
 | And =>
  refine isTrue_and (ha.tru ga eo r ht (fun R₁ s₁ a₁ r₁=>?_) _ (.inr rfl))
  cases b with
  | true=>exact isTrue_and_nil (h R₁ s₁ a₁ r₁)
  | false=>exact h R₁ s₁ a₁ r₁
 | Or =>
  refine isTrue_or (ha.tru ga eo r ht (fun R₁ s₁ a₁ r₁=>?_) _ (.inr rfl))
  cases b with
  | true=>exact h R₁ s₁ a₁ r₁
  | false=>exact isTrue_or_nil (h R₁ s₁ a₁ r₁)
theorem snd_and {a b:Expr} {rest:List Expr} {p:Pos} {x y:X} (ha:Snd W cx a x) (hb:Snd W cx (.BoolOp .And (b :: rest) p) y):Snd W cx (.BoolOp .And (a :: b :: rest) p) (.and x y) :=
 ⟨fun ga eo r hv h=>oS_el hv fun _ _ e1 hv=>BoolOp_and (ha.val ga eo r e1 fun _ _ _ a₁ r₁ v₁=>oT_el hv
   (fun e2 hv=>tru_of r₁ v₁ e2 fun _ _ a₂ r₂=>hb.val ga (eo.step (a₁.trans a₂)) r₂ hv (PostV.step (W:=W) h (a₁.trans a₂)))
   fun e2 hv=>tru_of r₁ v₁ e2 fun _ _ a₂ r₂=>PostV.here r₂ (PostV.step (W:=W) (h.ret hv) (a₁.trans a₂)) (a₂.vr v₁)),
  fun ga eo r ht h _ _=>PostB.and ht h
   (fun _ e1 e2=>isTrue_and (ha.tru ga eo r e1 (fun _ _ a₁ r₁=>hb.tru ga (eo.step a₁) r₁ e2 (h.step a₁) _ (.inl rfl)) _ (.inr rfl)))
   fun e1 h=>isTrue_and (ha.tru ga eo r e1 (fun R₁ s₁ a₁ r₁=>by exact h R₁ s₁ a₁ r₁) _ (.inr rfl))⟩
theorem snd_or {a b:Expr} {rest:List Expr} {p:Pos} {x y:X} (ha:Snd W cx a x) (hb:Snd W cx (.BoolOp .Or (b :: rest) p) y):Snd W cx (.BoolOp .Or (a :: b :: rest) p) (.or x y) :=
 ⟨fun ga eo r hv h=>oS_el hv fun _ _ e1 hv=>BoolOp_or (ha.val ga eo r e1 fun _ _ _ a₁ r₁ v₁=>oT_el hv
   (fun e2 hv=>tru_of r₁ v₁ e2 fun _ _ a₂ r₂=>PostV.here r₂ (PostV.step (W:=W) (h.ret hv) (a₁.trans a₂)) (a₂.vr v₁))
   fun e2 hv=>tru_of r₁ v₁ e2 fun _ _ a₂ r₂=>hb.val ga (eo.step (a₁.trans a₂)) r₂ hv (PostV.step (W:=W) h (a₁.trans a₂))),
  fun ga eo r ht h _ _=>PostB.or ht h
   (fun _ e1 e2=>isTrue_or (ha.tru ga eo r e1 (fun _ _ a₁ r₁=>hb.tru ga (eo.step a₁) r₁ e2 (h.step a₁) _ (.inl rfl)) _ (.inr rfl)))
   fun e1 h=>isTrue_or (ha.tru ga eo r e1 (fun R₁ s₁ a₁ r₁=>by exact h R₁ s₁ a₁ r₁) _ (.inr rfl))⟩
theorem marks_not {o:CmpOp} {e:Expr} (h:notSet e = true):behindInMarks o e = false:=by cases e <;> first | rfl | exact nso h | exact fat h | cases h
theorem snd_cmp {a b:Expr} {o:CmpOp} {p:Pos} {q:Cop} {x y:X} (ho:cP o = some q) (hn:notSet b = true) (ha:Snd W cx a x) (hb:Snd W cx b y):Snd W cx (.Compare a [o] [b] p) (.cmp q x y):=by
 cases cP_op ho
 exact ⟨fun ga eo r hv h=>oS_el hv fun _ _ e1 hv=>oS_el hv fun _ _ e2 hv=>h.map hv fun _ h1 h =>
  wpAny_Compare1 (ha.val ga eo r e1 fun _ _ _ a₁ r₁ v₁=>hb.val ga (eo.step a₁) r₁ e2 fun _ _ _ a₂ r₂ v₂ =>
   cop_ok r₂ ga.units h1 (r₂.see (a₂.vr v₁)) (r₂.see v₂) (PostV.here r₂ (PostV.step (W:=W) h (a₁.trans a₂)) .bool)) (marks_not hn),
  fun ga eo r ht h _ _=>evT_el ht fun _ hv h2=>oS_el hv fun _ _ e1 hv=>oS_el hv fun _ _ e2 hv=>PostB.map hv h2 h fun _ h3 h =>
  wpAny_isTrue_Compare1 (ha.val ga eo r e1 fun _ _ _ a₁ r₁ v₁=>hb.val ga (eo.step a₁) r₁ e2 fun R₂ s₂ _ a₂ r₂ v₂ =>
   cop_ok r₂ ga.units h3 (r₂.see (a₂.vr v₁)) (r₂.see v₂) (wpAny_truthy_bool (h R₂ s₂ (a₁.trans a₂) r₂))) (marks_not hn)⟩
theorem snd_ite {c a b:Expr} {p:Pos} {z x y:X} (hc:Snd W cx c z) (ha:Snd W cx a x) (hb:Snd W cx b y):Snd W cx (.IfExp c a b p) (.ite z x y) :=
 ⟨fun ga eo r hv h=>ev_ite_el hv
   (fun _ e1 hv=>IfExp_ (hc.tru ga eo r e1 (fun _ _ a₁ r₁=>ha.val ga (eo.step a₁) r₁ hv (PostV.step (W:=W) h a₁)) _ (.inr rfl)))
   fun _ e1 hv=>IfExp_ (hc.tru ga eo r e1 (fun _ _ a₁ r₁=>hb.val ga (eo.step a₁) r₁ hv (PostV.step (W:=W) h a₁)) _ (.inr rfl)),
  fun ga eo r ht h _ _=>PostB.ite ht
   (fun _ e1 hv=>isTrue_IfExp (hc.tru ga eo r e1 (fun _ _ a₁ r₁=>ha.tru ga (eo.step a₁) r₁ hv (h.step a₁) _ (.inr rfl)) _ (.inr rfl)))
   fun _ e1 hv=>isTrue_IfExp (hc.tru ga eo r e1 (fun _ _ a₁ r₁=>hb.tru ga (eo.step a₁) r₁ hv (h.step a₁) _ (.inr rfl)) _ (.inr rfl))⟩
end
section
variable {prog:Program} {w:World} {W:Wd prog w} {cx:Cx} {A:Around} {E:Value→Shared→Prop} {env:Env} {R R':RS} {st st':St} {s s':Shared}
theorem star_cons {e:Expr} {r:List Expr} (h:∀ a p,e ≠ .Starred a p):starEach (e :: r) env = (false,eval e env) :: starEach r env:=by
 cases e with
 | Starred a p=>exact (h a p rfl).elim
 | _=>rfl
theorem sndL_nil:SndL W cx [] .nil:=fun _ _ r hv h=>by
 cases hv
 exact spliced_none (h _ _ [] (.refl _ _) r .nil)
theorem sndL_cons {e:Expr} {es:List Expr} {x xs:X} (hs:∀ a p,e ≠ .Starred a p) (he:Snd W cx e x) (hr:SndL W cx es xs):SndL W cx (e :: es) (.cons x xs) :=
 fun ga eo r hv h=>oS_el hv fun _ _ e1 hv=>oSL_el hv fun _ _ e2 hv=>by
  cases hv
  exact spliced_more (he.val ga eo r e1 fun _ _ u a₁ r₁ v₁=>hr ga (eo.step a₁) r₁ e2 fun R₂ s₂ ws a₂ r₂ v₂=>h R₂ s₂ (u :: ws) (a₁.trans a₂) r₂ (.cons (a₂.vr v₁) v₂)) (star_cons hs)
theorem cL_nil {f:Expr→Option X} {xs:X} (h:cL f [] = some xs):xs = .nil:=by obtain rfl:=Option.some.inj h;rfl
@[elab_as_elim] theorem cL_cons {P:X→Prop} {f:Expr→Option X} {e:Expr} {r:List Expr} {xs:X} (h:cL f (e :: r) = some xs) (c:(∀ a p,e ≠ .Starred a p)→∀ y ys,f e = some y→cL f r = some ys→P (.cons y ys)):P xs :=
 oG h fun hn h=>oM2 h fun y ys h1 h2=>c (notStar_ne hn) y ys h1 h2
theorem sndL_of {f:Expr→Option X} (hf:∀ e x,f e = some x→Snd W cx e x) (es:List Expr):∀ (xs:X),cL f es = some xs→SndL W cx es xs:=by
 induction es with
 | nil=>intro xs h;simp only [cL_nil h];exact sndL_nil
 | cons e r ih=>intro xs h;exact cL_cons h fun hs y ys h1 h2=>sndL_cons hs (hf _ _ h1) (ih _ h2)
theorem ev_len {C:Con} {f:Expr→Option X} {es:List Expr}:∀ {xs:X} {vs:List V} {st st':St},cL f es = some xs→ev C xs st = some (.list vs,st')→vs.length = es.length:=by
 induction es with
 | nil=>intro xs vs st st' h e;rw [cL_nil h] at e;cases e;rfl
 | cons a r ih =>
  intro xs vs st st' h
  refine cL_cons h fun _ y ys _ h2 e=>oS_el e fun _ _ _ e=>oSL_el e fun _ _ e2 e=>?_
  cases e
  exact congrArg (· + 1) (ih h2 e2)
theorem lenOk {n:Nat} {ws:List Value} (h:ws.length = n) (hl:n ≤ 1000):ws.length ≤ sizeLine:=by simp only [h,sizeLine_eq];exact Nat.le_trans hl (by decide)
theorem snd_list {es:List Expr} {p:Pos} {xs:X} (hl:SndL W cx es xs) (hlen:es.length ≤ 1000) (hv:∀ {vs st st'},ev W.C xs st = some (.list vs,st')→vs.length = es.length):Snd W cx (.List es p) (.lst xs) :=
 .plain (fun ga eo r hev h=>oSL_el hev fun _ _ e1 hev=>List_ (hl ga eo r e1 fun _ s₁ ws a₁ r₁ v₁=>by
  have hn:=hv e1
  exact wpAny_newObj_type ((PostV.step (W:=W) (h.ret hev) a₁).newList r₁ v₁ (by rw [hn];exact Nat.le_trans hlen (by decide)) (n:=0) (tk:=s₁.toks) (fun b o e=>Heap.get?_push_of_some _ e) (get_size _) (Heap.get?_push_size _ rfl)) (lenOk (ws:=ws) (v₁.length.trans hn) hlen))) (fun _ _=>rfl) rfl
theorem snd_tup {es:List Expr} {k:Nat} {p:Pos} {xs:X} (hl:SndL W cx es xs) (hlen:es.length ≤ 1000) (hv:∀ {vs st st'},ev W.C xs st = some (.list vs,st')→vs.length = es.length):Snd W cx (.Tuple es k p) (.tupl xs) :=
 .plain (fun ga eo r hev h=>oSL_el hev fun _ _ e1 hev=>wpAny_Tuple (hl ga eo r e1 fun _ s₁ ws a₁ r₁ v₁=>by
  have hn:=hv e1
  exact ⟨lenOk (v₁.length.trans hn) hlen,(PostV.step (W:=W) (h.ret hev) a₁).newTup r₁ v₁ (by rw [hn];exact Nat.le_trans hlen (by decide)) (n:=0) (tk:=s₁.toks) (fun b o e=>Heap.get?_push_of_some _ e) (get_size _) (Heap.get?_push_size _ rfl)⟩)) (fun _ _=>rfl) rfl
theorem snd_idx {a i:Expr} {p:Pos} {x y:X} (ha:Snd W cx a x) (hi:Snd W cx i y):Snd W cx (.Subscript a i p) (.idx x y) :=
 .plain (fun ga eo r hv h=>oS_el hv fun _ _ e1 hv=>oSI_el hv fun _ _ e2 hv=>h.map hv fun _ h1 h =>
  sub_any (ha.val ga eo r e1 fun _ _ _ a₁ r₁ v₁=>hi.val ga (eo.step a₁) r₁ e2 fun _ _ _ a₂ r₂ v₂=>by
   cases v₂
   exact idx_ok r₂ h1 (r₂.see (a₂.vr v₁)) (PostV.step (W:=W) h (a₁.trans a₂)))) (fun _ _=>rfl) rfl
noncomputable def SndP (W:Wd prog w) (cx:Cx) (e:Option Expr) (x:X):Prop :=
 ∀ {A:Around} {E:Value→Shared→Prop} {env:Env} {R:RS} {st st':St} {s:Shared} {v:V} {Q:Value→Shared→Prop},GA W.lev A→EnvOk cx env R.dt→Rel W.I W.B W.os R st s→ev W.C x st = some (v,st') →
  PostV W.I W.B W.os R s st' v Q→wpAny (model prog w) A (PySem.evalPart e env) Q E s
theorem sndP_none:SndP W cx none (.cst .none):=fun _ _ r hv h=>wpAny_pure ((h.ret hv).here r .none)
theorem sndP_some {e:Expr} {x:X} (he:Snd W cx e x):SndP W cx (some e) x:=fun ga eo r hv h=>he.val ga eo r hv h
theorem snd_slc {a:Expr} {lo hi:Option Expr} {p q:Pos} {x l u:X} (ha:Snd W cx a x) (hl:SndP W cx lo l) (hh:SndP W cx hi u):Snd W cx (.Subscript a (.Slice lo hi none q) p) (.slc x l u) :=
 .plain (fun ga eo r hv h=>oS_el hv fun _ _ e1 hv=>oS_el hv fun _ _ e2 hv=>oS_el hv fun _ _ e3 hv=>oB hv fun _ hbl hv=>oB hv fun _ hbh hv=>h.map hv fun _ hv h =>
  sub_any (ha.val ga eo r e1 fun _ _ _ a₁ r₁ v₁=>wpAny_Slice (hl ga (eo.step a₁) r₁ e2 fun _ _ _ a₂ r₂ v₂=>hh ga (eo.step (a₁.trans a₂)) r₂ e3 fun _ _ _ a₃ r₃ v₃=>wpAny_pure
   (slc_ok r₃ hbl hbh (a₃.vr v₂) v₃ hv (r₃.see ((a₂.trans a₃).vr v₁)) (PostV.step (W:=W) h ((a₁.trans a₂).trans a₃)))))) (fun _ _=>rfl) rfl
theorem minusOne_eq {e:Expr} (h:minusOne e = true):∃ k p q,e = .UnaryOp .USub (.Constant (.int 1) k p) q:=by
 cases e with
 | UnaryOp o e q=>cases o with
  | USub=>cases e with
   | Constant c k p=>cases c with
    | int i=>have h:(i == 1) = true:=h;rw [eq_of_beq h];exact ⟨k,p,q,rfl⟩
    | _=>first | exact nso h | exact fat h | cases h
   | _=>first | exact nso h | exact fat h | cases h
  | _=>first | exact nso h | exact fat h | cases h
 | _=>first | exact nso h | exact fat h | cases h
theorem snd_rev {a e:Expr} {p q:Pos} {x:X} (hm:minusOne e = true) (ha:Snd W cx a x):Snd W cx (.Subscript a (.Slice none none (some e) q) p) (.rev x):=by
 refine Classical.byContradiction fun hcon=>?_
 obtain ⟨k,p1,p2,rfl⟩:=minusOne_eq hm
 refine hcon ?_
 exact .plain (fun ga eo r hv h=>oS_el hv fun _ _ e1 hv=>h.map hv fun _ e2 h =>
  sub_any (ha.val ga eo r e1 fun _ s₁ _ a₁ r₁ v₁=>wpAny_Slice (wpAny_pure (wpAny_pure (wpAny_UnaryOp (wpAny_Constant_int (neg_int (r₁.toks.elim fun r2 s2=>by
   have hse:=r₁.see v₁
   rw [V.list?_eq e2] at hse
   exact rev_ok (s:={ s₁ with toks:=s₁.toks + 1 + 1 }) r2 hse (PostV.step (W:=W) h (a₁.trans s2))))))))) ) (fun _ _=>rfl) rfl
theorem evalArgs_of {f:Value} {es:List Expr} {pos:Pos} {Q:Args→Shared→Prop} (hp:((backTo pos (starEach es env)).any (·.1)) = false) (h:wpAny (model prog w) A (spliced (backTo pos (starEach es env))) (fun vs s'=>Q ⟨vs,[]⟩ s') E s) :
  wpAny (model prog w) A (evalArgs f true (backTo pos (starEach es env)) []) Q E s:=by
 generalize backTo pos (starEach es env) = l at hp h
 cases l with
 | nil =>
  unfold evalArgs
  refine wpAny_bind (wpAny_mono h (fun vs s' h'=>?_) fun _ _ x=>x)
  refine wpAny_holding ?_
  exact wpAny_bind (wpAny_pure (wpAny_bind (wpAny_pure (wpAny_pure h'))))
 | cons a l =>
  obtain ⟨b,x⟩:=a
  have:b = false:=by simp at hp;exact hp.1
  subst this
  exact Calls.evalArgs_plain h
theorem cL_plain {f:Expr→Option X} (env:Env) (pos:Pos) {es:List Expr}:∀ {xs:X},cL f es = some xs→((backTo pos (starEach es env)).any (·.1)) = false ∧ ((backTo pos (starEach es env)).all (fun x=>!x.1)) = true:=by
 induction es with
 | nil=>intro _ _;exact ⟨rfl,rfl⟩
 | cons e r ih =>
  intro xs h
  refine cL_cons h fun hs y ys h1 h2=>?_
  rw [star_cons hs]
  exact ih h2
theorem callWith_any {f:Value} {first:List Value} {es:List Expr} {pos:Pos} {Q:Value→Shared→Prop} (hf:(∃ id,f = .builtin id) ∨ (∃ T,f = .type T)) (hp:((backTo pos (starEach es env)).any (·.1)) = false)
  (h:wpAny (model prog w) A (spliced (backTo pos (starEach es env))) (fun vs s'=>wpAny (model prog w) A (call f (first ++ vs)) Q E s') E s):wpAny (model prog w) A (callWith pos f first (backTo pos (starEach es env)) []) Q E s:=by
 rcases hf with ⟨id,rfl⟩ | ⟨T,rfl⟩
 ·exact Calls.callWith_builtin hp (evalArgs_of hp h)
 ·exact PySem.callWith_type hp (evalArgs_of hp h)
theorem callee_kind (f:Fn) (h:∀ k,f ≠ .user k):(∃ id,f.callee = .builtin id) ∨ (∃ T,f.callee = .type T):=by
 cases f <;> first | exact .inl ⟨_,rfl⟩ | exact .inr ⟨_,rfl⟩ | exact (h _ rfl).elim
theorem snd_call (O:W.Ok) {f:Str} {fp p:Pos} {e:Expr} {es:List Expr} {g:Fn} {xs:X} {ff:Expr→Option X} (hG:cG W.G cx f = some (.fn g)) (hs:g ≠ .lenset) (hc:cL ff (e :: es) = some xs) (hl:SndL W cx (e :: es) xs) :
  Snd W cx (.Call (.Name f fp) (e :: es) [] p) (.call g xs):=by
 refine .plain (fun {A E env R st st' s v Q} ga eo r hv h=>oSL_el hv fun vs st₁ e1 hv=>h.map hv fun v' h1 h=>wpAny_Call_Name_kw ?_) (fun _ _=>rfl) rfl
 have hg:=(glob_kind hG eo).2.2
 have hp:=(cL_plain env p hc).1
 have user:∀ k,g = .user k→wpAny (model prog w) A (eval (.Name f fp) env) (fun u s=>wpAny (model prog w) A (callWith p u [] (backTo p (starEach (e :: es) env)) []) Q E s) E s:=fun k hk=>by
  subst hk
  obtain ⟨a,o,fd,hm,hB,ho,hcon⟩:=O.guser _ _ hg
  exact glob_main O r eo hG hm (Calls.callWith_function (o:=o) (fd:=fd) (evalArgs_of hp (hl ga eo r e1 fun R₁ s₁ ws a₁ r₁ v₁=>⟨⟨(r₁.base _ _ hB).2,ho⟩,
   hcon A E vs ws v' R₁ _ s₁ Q ga h1 v₁ r₁ (PostV.step (W:=W) h a₁)⟩)))
 by_cases hu:∃ k,g = .user k
 ·exact hu.elim user
 ·have hu':∀ k,g ≠ .user k:=fun k e=>hu ⟨k,e⟩
  have hm:=O.gfn _ _ hg hu'
  have e2:st₁.sees g vs = vs.map st₁.see:=by cases g <;> first | rfl | exact (hu' _ rfl).elim
  rw [e2] at h1
  exact glob_bi O r eo hG hm.1 hm.2 (callWith_any (callee_kind g hu') hp (hl ga eo r e1 fun _ _ _ a₁ r₁ v₁=>fn_ok r₁ ga.1 hu' hs h1 (r₁.sees v₁) (PostV.step (W:=W) h a₁)))
theorem snd_lenset (O:W.Ok) {f g:Str} {fp gp p q:Pos} {e:Expr} {x:X} (hG:cG W.G cx f = some (.fn .len)) (hG':cG W.G cx g = some .set) (hs:∀ a p,e ≠ .Starred a p) (he:Snd W cx e x) :
  Snd W cx (.Call (.Name f fp) [.Call (.Name g gp) [e] [] q] [] p) (.call .lenset (.cons x .nil)):=by
 refine .plain (fun {A E env R st st' s v Q} ga eo r hv h=>oSL_el hv fun vs st₁ e1 hv=>h.map hv fun v' h1 h=>?_) (fun _ _=>rfl) rfl
 have hm:=O.gfn _ _ (glob_kind hG eo).2.2 (by intro k;exact nofun)
 have hm':=O.gset _ (glob_kind hG' eo).2.2
 have hp:((backTo q (starEach [e] env)).any (·.1)) = false:=by rw [star_cons hs];rfl
 exact wpAny_Call_Name_kw (glob_bi O r eo hG hm.1 hm.2 (callWith_any (.inl ⟨_,rfl⟩) rfl (spliced_more (wpAny_Call_Name_kw (glob_bi O r eo hG' hm'.1 hm'.2
  (callWith_any (.inr ⟨_,rfl⟩) hp (sndL_cons hs he sndL_nil ga eo r e1 fun R₁ s₁ ws a₁ r₁ v₁=>wpAny_mono (lenset_ok r₁ ga.1 h1 (r₁.sees v₁) (PostV.step (W:=W) h a₁)) (fun u s₂ h₂=>spliced_none h₂) fun _ _ x=>x)))) rfl)))
theorem snd_newlex (O:W.Ok) {f:Str} {fp p:Pos} {e:Expr} {x:X} (hG:cG W.G cx f = some .lexer) (hs:∀ a p,e ≠ .Starred a p) (he:Snd W cx e x) :
  Snd W cx (.Call (.Name f fp) [e] [] p) (.newlex x):=by
 refine .plain (fun {A E env R st st' s v Q} ga eo r hv h=>oSS_el hv fun t st₁ e1 hv=>?_) (fun _ _=>rfl) rfl
 refine (O.glexer _ (glob_kind hG eo).2.2).elim fun a k0=>k0.elim fun o k1=>k1.elim fun fd k2=>k2.elim fun hm k3=>k3.elim fun hB k4=>k4.elim fun ho hcon=>?_
 exact wpAny_Call_Name_kw (glob_main O r eo hG hm (Calls.callWith_function (o:=o) (fd:=fd) (evalArgs_of (by rw [star_cons hs];rfl) (spliced_more (he.val ga eo r e1 fun R₁ s₁ u a₁ r₁ v₁=>spliced_none ⟨⟨(r₁.base _ _ hB).2,ho⟩,by
  cases v₁ with | str hl=>exact hcon A E t _ R₁ _ s₁ Q ga hl r₁ (PostV.step (W:=W) (h.ret hv) a₁)⟩) (star_cons hs)))))
theorem me_slot (m:Me):Slot "str" (Str.ofString m.name) m.id ∧ typeOf (.builtin m.id) = pure (.type "method_descriptor"):=by
 cases m with
 | lower=>exact ⟨F.slot_str_lower,F.type_str_lower⟩
 | split=>exact ⟨F.slot_str_split,F.type_str_split⟩
 | startswith=>exact ⟨F.slot_str_startswith,F.type_str_startswith⟩
 | endswith=>exact ⟨F.slot_str_endswith,F.type_str_endswith⟩
 | find=>exact ⟨F.slot_str_find,F.type_str_find⟩
 | join=>exact ⟨F.slot_str_join,F.type_str_join⟩
 | count=>exact ⟨F.slot_str_count,F.type_str_count⟩
theorem base_plain {o:Expr} {m:Str} (h:plainBase o = true) (whole:Sem Value):attributeBase o m env whole = whole:=by
 cases o <;> first | rfl | exact nso h | exact fat h | cases h
theorem oIte {α:Type} {P:α→Prop} {b:Bool} {a k:α} {o:Option α} (h:(if b then some a else o) = some k) (p:b = true→P a) (q:o = some k→P k):P k:=by
 cases b with
 | false=>exact q h
 | true=>exact Option.some.inj h ▸ p rfl
theorem cM_name {m:Str} {k:Me} (h:cM m = some k):m = Str.ofString k.name:=by
 delta cM at h
 repeat (refine oIte (P:=fun k=>m = Str.ofString k.name) h (fun q=>eq_of_beq q) fun h=>?_)
 exact nso h
theorem meth_str {m:Me} {o:V} {vs:List V} {v:V} (h:meth m o vs = some v):∃ x,o = .str x:=oB h fun x hx _=>⟨x,V.str?_eq hx⟩
theorem see_str {st:St} {v:V} {x:T} (h:st.see v = .str x):v = .str x:=by
 unfold St.see at h
 split at h
 ·split at h <;> cases h
 ·exact h
theorem snd_meth {o:Expr} {m:Str} {ap p:Pos} {es:List Expr} {k:Me} {x xs:X} {ff:Expr→Option X} (hb:plainBase o = true) (hl:(ap.endLine == p.line) = true) (hn:es.length < 30) (hm:cM m = some k) (ho:Snd W cx o x)
  (hc:cL ff es = some xs) (hs:SndL W cx es xs):Snd W cx (.Call (.Attribute o m ap) es [] p) (.meth k x xs):=by
 refine .plain (fun {A E env R st st' s v Q} ga eo r hv h=>oS_el hv fun va st₁ e1 hv=>oSL_el hv fun vs st₂ e2 hv=>h.map hv fun v' h1 h=>?_) (fun _ _=>rfl) rfl
 have hp:=cL_plain env p hc
 refine wpAny_Call_method_lateS (base_plain hb _) ?_ hl (ho.val ga eo r e1 fun R₁ s₁ u a₁ r₁ v₁=>?_)
 ·simp only [hp.2]
  simp only [List.length_nil,Nat.add_zero,List.isEmpty_nil,if_true,Bool.true_and,Bool.and_eq_true,decide_eq_true_eq]
  exact ⟨rfl,hn⟩
 ·refine (meth_str h1).elim fun z hz=>?_
  have hsl:=me_slot k
  rw [cM_name hm]
  have v₁':=v₁
  rw [see_str hz] at v₁'
  cases v₁' with | str _ =>
   exact ⟨"str",k.id,F.plainAttrs_str,hsl.1,hsl.2,typeIs_str _ _ _,(fun _ e=>nomatch e),
    callWith_any (.inl ⟨_,rfl⟩) hp.1 (hs ga (eo.step a₁) r₁ e2 fun _ _ _ a₂ r₂ v₂=>meth_ok r₂ ga.1 h1 (r₂.see (a₂.vr v₁)) (r₂.sees v₂) (PostV.step (W:=W) h (a₁.trans a₂)))⟩
@[elab_as_elim] theorem mref_el {P:Value→Prop} {Z:Addr→Prop} {mu:List (List Addr)} {hp:Heap} {n:Nat} {val:Value} (h:VR Z mu hp (.mref n) val) (c:∀ a f,mu[n]? = some (a :: f)→P (.ref a)):P val:=by
 cases h with | mref e=>exact c _ _ e
theorem snd_tok (O:W.Ok) {x:Str} {xp ap p:Pos} {i:Nat} (hn:cN cx x = some i) (hl:(ap.endLine == p.line) = true):Snd W cx (.Call (.Attribute (.Name x xp) "get_token" ap) [] [] p) (.tok i):=by
 refine .plain (fun {A E env R st st' s v Q} ga eo r hv h=>oR_el hv fun n e1 hv=>?_) (fun _ _=>rfl) rfl
 rw [arm_eval_Call,base_plain rfl]
 exact wpAny_bind (name_ok r eo hn e1 fun val hval=>wpAny_bind (wpAny_standAt (mref_el hval fun a f hmu=>O.tok A E env x xp ap p R st st' s n a f v Q ga hl r hmu hv h)))
theorem snd_line (O:W.Ok) {x:Str} {xp p:Pos} {i:Nat} (hn:cN cx x = some i):Snd W cx (.Attribute (.Name x xp) "lineno" p) (.line i) :=
 .plain (fun {A E env R st st' s v Q} ga eo r hv h=>oR_el hv fun n e1 hv=>h.map hv fun k h1 h =>
  Attribute_Name_ (name_ok r eo hn e1 fun val hval=>mref_el hval fun a f hmu=>O.line A E R st s n a f k Q ga r hmu h1 h) rfl) (fun _ _=>rfl) rfl
theorem snd_fresh_list {es:List Expr} {p:Pos} {xs:X} (hl:SndL W cx es xs) (hlen:es.length ≤ 1000) (hv:∀ {vs st st'},ev W.C xs st = some (.list vs,st')→vs.length = es.length):Snd W cx (.List es p) (.fresh (.lst xs)) :=
 .plain (fun ga eo r hev h=>oSL_el hev fun _ _ e0 hev=>oSL_el e0 fun _ _ e1 e0=>List_ (hl ga eo r e1 fun _ s₁ ws a₁ r₁ v₁=>by
  have hn:=hv e1
  cases e0
  refine wpAny_newObj_type ?_ (lenOk (ws:=ws) (v₁.length.trans hn) hlen)
  refine (r₁.newl (tk:=s₁.toks) (h':=s₁.heap.push (listO ws 0)) (k:=0) (fun b o e=>Heap.get?_push_of_some _ e) (get_size _) (Heap.get?_push_size _ rfl) v₁ (by rw [hn];exact Nat.le_trans hlen (by decide))).elim fun r2 k0=>k0.elim fun s2 v2=>?_
  exact h.ret hev _ _ _ (a₁.trans s2) r2 v2)) (fun _ _=>rfl) rfl
end
section
variable {prog:Program} {w:World} {W:Wd prog w} {cx:Cx} {A:Around} {E:Value→Shared→Prop} {env:Env} {R R':RS} {st st':St} {s s':Shared}
theorem newL_fresh (r:Rel W.I W.B W.os R st s) {l:List V} {Q:Value→Shared→Prop} (hl:l.length ≤ 16777216) (h:PostV W.I W.B W.os R s { st with mu:=st.mu ++ [.list l] } (.mref st.mu.length) Q):NewL R s l Q :=
 fun _ tk _ _ hk hn hv=>(r.newl (tk:=tk) hk (get_size _) hn hv hl).elim fun r2 k=>h _ _ _ k.1 r2 k.2
theorem snd_fresh_range (O:W.Ok) {f:Str} {fp p:Pos} {e:Expr} {es:List Expr} {xs:X} {ff:Expr→Option X} (hG:cG W.G cx f = some (.fn .list)) (hc:cL ff (e :: es) = some xs) (hl:SndL W cx (e :: es) xs) :
  Snd W cx (.Call (.Name f fp) (e :: es) [] p) (.fresh (.call .list xs)) :=
 .plain (fun ga eo r hv h=>oSL_el hv fun _ _ e0 hv=>oSL_el e0 fun _ _ e1 e0=>by
  have hm:=O.gfn _ _ (glob_kind hG eo).2.2 nofun
  refine (oI e0).elim fun v' e0=>?_
  have h1:=e0.1
  cases e0.2
  exact wpAny_Call_Name_kw (glob_bi O r eo hG hm.1 hm.2 (callWith_any (.inr ⟨_,rfl⟩) (cL_plain _ p hc).1 (hl ga eo r e1 fun _ _ _ a₁ r₁ v₁ =>
   range_new r₁ ga.1 h1 (r₁.sees v₁) fun l' el hlen=>by cases el;exact newL_fresh r₁ hlen (PostV.step (W:=W) (h.ret hv) a₁))))) (fun _ _=>rfl) rfl
theorem snd_fresh_split {o:Expr} {ap p:Pos} {es:List Expr} {x xs:X} {ff:Expr→Option X} (hb:plainBase o = true) (hl:(ap.endLine == p.line) = true) (hn:es.length < 30) (ho:Snd W cx o x)
  (hc:cL ff es = some xs) (hs:SndL W cx es xs):Snd W cx (.Call (.Attribute o "split" ap) es [] p) (.fresh (.meth .split x xs)) :=
 .plain (fun {A E env R st st' s v Q} ga eo r hv h=>oSL_el hv fun _ _ e0 hv=>oS_el e0 fun _ _ e1 e0=>oSL_el e0 fun _ _ e2 e0=>by
  have hp:=cL_plain env p hc
  refine (oI e0).elim fun v' e0=>?_
  have h1:=e0.1
  cases e0.2
  refine wpAny_Call_method_lateS (base_plain hb _) (by simp only [hp.2];simp only [List.length_nil,Nat.add_zero,List.isEmpty_nil,if_true,Bool.true_and,Bool.and_eq_true,decide_eq_true_eq];exact ⟨rfl,hn⟩) hl (ho.val ga eo r e1 fun R₁ s₁ u a₁ r₁ v₁=>?_)
  refine (meth_str h1).elim fun z hz=>?_
  have v₁':=v₁
  rw [see_str hz] at v₁'
  cases v₁' with | str _ =>
   exact ⟨"str","str.split",F.plainAttrs_str,F.slot_str_split,F.type_str_split,typeIs_str _ _ _,(fun _ e=>nomatch e),
    callWith_any (.inl ⟨_,rfl⟩) hp.1 (hs ga (eo.step a₁) r₁ e2 fun _ _ _ a₂ r₂ v₂=>split_new r₂ h1 (r₂.see (a₂.vr v₁)) (r₂.sees v₂) fun l' el hlen=>by cases el;exact newL_fresh r₂ hlen (PostV.step (W:=W) (h.ret hv) (a₁.trans a₂)))⟩) (fun _ _=>rfl) rfl
end
structure StepX (X:Addr→Prop) (gs:Nat→Prop) (R:RS) (s:Shared) (R':RS) (s':Shared):Prop where
 dt:R'.dt = R.dt
 P:R'.P = R.P
 Z:∀ b,R.Z b→R'.Z b
 mu:MuExt R.mu R'.mu
 own:∀ b,(R'.Z b ∨ ∃ (n:Nat) (f:List Addr),R'.mu[n]? = some f ∧ b ∈ f)→R.Z b ∨ (∃ (n:Nat) (f:List Addr),R.mu[n]? = some f ∧ b ∈ f) ∨ s.heap.get? b = none
 keep:∀ b,R.Z b ∨ R.P b→s'.heap.get? b = s.heap.get? b
 alive:∀ b o,¬ X b→s.heap.get? b = some o→∃ o',s'.heap.get? b = some o'
 gens:∀ (g:Nat) x,¬ gs g→s.gens[g]? = some x→s'.gens[g]? = some x
theorem Step.thenX {X:Addr→Prop} {gs:Nat→Prop} {R R' R'':RS} {s s' s'':Shared} (a:Step R s R' s') (b:StepX X gs R' s' R'' s'') (hX:∀ c,X c→s.heap.get? c = none) (hg:∀ g,gs g→s.gens[g]? = none):Step R s R'' s'' where
 dt:=b.dt.trans a.dt
 P:=b.P.trans a.P
 Z:=fun x h=>b.Z x (a.Z x h)
 mu:=fun n f h=>b.mu n f (a.mu n f h)
 own:=fun x h=>by
  rcases b.own x h with h | h | h
  ·exact a.own x (.inl h)
  ·exact a.own x (.inr h)
  ·exact .inr (.inr (none_back a.alive h))
 keep:=fun x h=>(b.keep x (h.elim (fun z=>.inl (a.Z x z)) fun p=>.inr (by rw [a.P];exact p))).trans (a.keep x h)
 alive:=fun x o h=>by
  refine (a.alive x o h).elim fun o' h'=>?_
  exact b.alive x o' (fun q=>by rw [hX x q] at h;cases h) h'
 gens:=fun g x h=>b.gens g x (fun q=>by rw [hg g q] at h;cases h) (a.gens g x h)
noncomputable def ApartFp (I:LexI) (fp:List Addr) (R:RS):Prop:=∀ b ∈ fp,¬ R.Z b ∧ ¬ R.P b ∧ (∀ (n:Nat) (f:List Addr),R.mu[n]? = some f→b ∉ f) ∧ (∀ (i:Nat) (l:Loc),R.dt[i]? = some l→l.addr? ≠ some b) ∧ b ≠ I.tb
section
variable {I:LexI} {B:Addr→Option Obj} {os:OsState} {R R':RS} {st st':St} {s s':Shared}
theorem ApartFp.new (r:Rel I B os R st s) {fp:List Addr} (h:∀ b ∈ fp,s.heap.get? b = none):ApartFp I fp R:=fun b hb =>
 have hn:=h b hb
 ⟨fun z=>ne_none (r.zal b (.inl z)) hn,fun z=>ne_none (r.zal b (.inr z)) hn,fun n f e hf=>ne_none (r.dead n f b e hf) hn,fun i l e ea=>ne_none (l.alive (r.loc i l e) ea) hn,fun e=>ne_none (I.talive r.tab) (e ▸ hn)⟩
theorem ApartFp.stepX {X:Addr→Prop} {gs:Nat→Prop} {fp:List Addr} (a:ApartFp I fp R) (h:StepX X gs R s R' s') (al:∀ b ∈ fp,∃ o,s.heap.get? b = some o):ApartFp I fp R':=by
 intro b hb
 have q:=a b hb
 have key:¬ (R'.Z b ∨ ∃ (n:Nat) (f:List Addr),R'.mu[n]? = some f ∧ b ∈ f):=fun z=>(h.own b z).elim q.1 fun z=>z.elim (fun ⟨n,f,q1,q2⟩=>q.2.2.1 n f q1 q2) (ne_none (al b hb))
 exact ⟨fun z=>key (.inl z),by rw [h.P];exact q.2.1,fun n f e hf=>key (.inr ⟨n,f,e,hf⟩),by rw [h.dt];exact q.2.2.2.1,q.2.2.2.2⟩
theorem Step.toX {X:Addr→Prop} {gs:Nat→Prop} (a:Step R s R' s'):StepX X gs R s R' s':=⟨a.dt,a.P,a.Z,a.mu,a.own,a.keep,fun b o _ e=>a.alive b o e,fun g x _ e=>a.gens g x e⟩
theorem StepX.trans {X:Addr→Prop} {gs:Nat→Prop} {R'':RS} {s'':Shared} (a:Step R s R' s') (b:StepX X gs R' s' R'' s''):StepX X gs R s R'' s'' where
 dt:=b.dt.trans a.dt
 P:=b.P.trans a.P
 Z:=fun x h=>b.Z x (a.Z x h)
 mu:=fun n f h=>b.mu n f (a.mu n f h)
 own:=fun x h=>by
  rcases b.own x h with h | h | h
  ·exact a.own x (.inl h)
  ·exact a.own x (.inr h)
  ·exact .inr (.inr (none_back a.alive h))
 keep:=fun x h=>(b.keep x (h.elim (fun z=>.inl (a.Z x z)) fun p=>.inr (by simp only [a.P];exact p))).trans (a.keep x h)
 alive:=fun x o hx h=>by
  refine (a.alive x o h).elim fun o' h'=>?_
  exact b.alive x o' hx h'
 gens:=fun g x hg h=>b.gens g x hg (a.gens g x h)
theorem StepX.then {X:Addr→Prop} {gs:Nat→Prop} {R'':RS} {s'':Shared} (a:StepX X gs R s R' s') (b:Step R' s' R'' s'') (hX:∀ c,X c→(∃ o,s.heap.get? c = some o)→∃ o,s'.heap.get? c = some o):StepX X gs R s R'' s'' where
 dt:=b.dt.trans a.dt
 P:=b.P.trans a.P
 Z:=fun x h=>b.Z x (a.Z x h)
 mu:=fun n f h=>b.mu n f (a.mu n f h)
 own:=fun x h=>by
  rcases b.own x h with h | h | h
  ·exact a.own x (.inl h)
  ·exact a.own x (.inr h)
  ·refine .inr (.inr ?_)
   cases e:s.heap.get? x with
   | none=>rfl
   | some o =>
    have:∃ o',s'.heap.get? x = some o':=by
     by_cases hx:X x
     ·exact hX x hx ⟨o,e⟩
     ·exact a.alive x o hx e
    obtain ⟨o',h'⟩:=this;rw [h] at h';exact nso h'
 keep:=fun x h=>(b.keep x (h.elim (fun z=>.inl (a.Z x z)) fun p=>.inr (by rw [a.P];exact p))).trans (a.keep x h)
 alive:=fun x o hx h=>by
  obtain ⟨o',h'⟩:=a.alive x o hx h
  exact b.alive x o' h'
 gens:=fun g x hg h=>b.gens g x (a.gens g x hg h)
theorem Rel.loose2 (r:Rel I B os R st s) {fp:List Addr} {gs:Nat→Prop} (a:ApartFp I fp R) {h':Heap} {tk:Nat} {gn:Array GenState} {Z':Addr→Prop} (hk:∀ b o,b ∉ fp→s.heap.get? b = some o→h'.get? b = some o)
  (hZ:∀ b,R.Z b→Z' b) (hZn:∀ b,Z' b→R.Z b ∨ s.heap.get? b = none) (hZa:∀ b,Z' b→∃ o,h'.get? b = some o) (hgb:AllBare gn) (hgs:∀ (g:Nat) x,¬ gs g→s.gens[g]? = some x→gn[g]? = some x) :
  Rel I B os { R with Z:=Z' } st { s with heap:=h',toks:=tk,gens:=gn } ∧ StepX (· ∈ fp) gs R s { R with Z:=Z' } { s with heap:=h',toks:=tk,gens:=gn }:=by
 have same:∀ {b:Addr},b ∉ fp→(∃ o,s.heap.get? b = some o)→h'.get? b = s.heap.get? b:=fun hb e=>same_of (fun o=>hk _ o hb) e
 have nzp:∀ {b:Addr},R.Z b ∨ R.P b→b ∉ fp:=fun z hb=>z.elim (a _ hb).1 (a _ hb).2.1
 have hZk:∀ b,R.Z b→h'.get? b = s.heap.get? b:=fun b z=>same (nzp (.inl z)) (r.zal b (.inl z))
 have nl:∀ {i:Nat} {l:Loc} {b:Addr},R.dt[i]? = some l→l.addr? = some b→b ∉ fp:=fun {i l b} e eb hb=>(a _ hb).2.2.2.1 i l e eb
 have nm:∀ {n:Nat} {f:List Addr} {b:Addr},R.mu[n]? = some f→b ∈ f→b ∉ fp:=fun {n f b} e hf hb=>(a _ hb).2.2.1 n f e hf
 have nt:I.tb ∉ fp:=fun hb=>(a _ hb).2.2.2.2 rfl
 have nz:∀ {b},(∃ o,s.heap.get? b = some o)→¬ R.Z b→¬ Z' b:=fun e n z=>(hZn _ z).elim n (ne_none e)
 exact ⟨⟨fun b o e=>⟨hZ b (r.base b o e).1,(hZk b (r.base b o e).1).trans (r.base b o e).2⟩,fun b h=>h.elim (hZa b) fun h=>(r.zal b (.inr h)).imp fun o=>hk b o (nzp (.inr h)),r.len,
   fun i v e=>(r.var i v e).mono (fun l val h1 h2=>⟨h1,l.holds_of (fun b hb=>same (nl h1 hb) (l.alive (r.loc i l h1) hb)) h2⟩) hZ (fun _ _ h=>h) hZk,fun i l e=>l.ok_of (fun b hb=>same (nl e hb) (l.alive (r.loc i l e) hb)) (r.loc i l e),
   fun i l b e eb=>⟨nz (l.alive (r.loc i l e) eb) (r.locf i l b e eb).1,(r.locf i l b e eb).2⟩,r.apart,r.mulen,fun n o e=>r.muo' e hZ (fun _ _ h=>h) hZk fun f hf al b hb=>same (nm hf hb) ((r.mu_at e hf).live hb al),
   fun n f b o e al ef hb=>⟨nz (r.dead n f b ef hb) (r.fp n f b o e al ef hb).1,(r.fp n f b o e al ef hb).2⟩,r.fpa,fun n f b e hb=>(r.dead n f b e hb).imp fun o=>hk b o (nm e hb),⟨nz (I.talive r.tab) r.tbf.1,r.tbf.2⟩,
   I.tmono hZ (fun b h=>h.elim (hZk b) fun e=>by rw [e];exact same nt (I.talive r.tab)) r.tab,hgb,r.os⟩,
  ⟨rfl,rfl,hZ,fun _ _ h=>h,fun b h=>h.elim (fun h=>(hZn b h).imp_right .inr) fun h=>.inr (.inl h),fun b h=>same (nzp h) (r.zal b h),fun b o hb e=>⟨o,hk b o hb e⟩,hgs⟩⟩
theorem Rel.loose (r:Rel I B os R st s) {fp:List Addr} {gs:Nat→Prop} (a:ApartFp I fp R) {h':Heap} {tk:Nat} (hk:∀ b o,b ∉ fp→s.heap.get? b = some o→h'.get? b = some o) :
  Rel I B os R st { s with heap:=h',toks:=tk } ∧ StepX (· ∈ fp) gs R s R { s with heap:=h',toks:=tk } :=
 r.loose2 (gs:=gs) a (Z':=R.Z) hk (fun _ h=>h) (fun _ h=>.inl h) (fun b z=>(r.zal b (.inl z)).imp fun o=>hk b o fun hb=>(a _ hb).1 z) r.bare fun _ _ _ e=>e
noncomputable def RS.prot (R:RS) (fp:List Addr):RS:={ R with P:=fun b=>R.P b ∨ b ∈ fp }
theorem Rel.prot (r:Rel I B os R st s) {fp:List Addr} (a:ApartFp I fp R) (al:∀ b ∈ fp,∃ o,s.heap.get? b = some o):Rel I B os (R.prot fp) st s where
 base:=r.base
 zal:=fun b h=>by
  rcases h with h | h | h
  ·exact r.zal b (.inl h)
  ·exact r.zal b (.inr h)
  ·exact al b h
 len:=r.len
 var:=r.var
 loc:=r.loc
 locf:=fun i l b e eb=>⟨(r.locf i l b e eb).1,fun h=>h.elim (r.locf i l b e eb).2.1 fun h=>(a b h).2.2.2.1 i l e eb,(r.locf i l b e eb).2.2⟩
 apart:=r.apart
 mulen:=r.mulen
 muo:=r.muo
 fp:=fun n f b o e al' ef hb=>by
  have q:=r.fp n f b o e al' ef hb
  exact ⟨q.1,fun h=>h.elim q.2.1 fun h=>(a b h).2.2.1 n f ef hb,q.2.2⟩
 fpa:=r.fpa
 dead:=r.dead
 tbf:=⟨r.tbf.1,fun h=>h.elim r.tbf.2 fun h=>(a _ h).2.2.2.2 rfl⟩
 tab:=r.tab
 bare:=r.bare
 os:=r.os
theorem Rel.lessP (r:Rel I B os R st s) {P:Addr→Prop} (h:∀ b,P b→R.P b):Rel I B os { R with P:=P } st s where
 base:=r.base
 zal:=fun b q=>r.zal b (q.elim .inl fun q=>.inr (h b q))
 len:=r.len
 var:=r.var
 loc:=r.loc
 locf:=fun i l b e eb=>⟨(r.locf i l b e eb).1,fun q=>(r.locf i l b e eb).2.1 (h b q),(r.locf i l b e eb).2.2⟩
 apart:=r.apart
 mulen:=r.mulen
 muo:=r.muo
 fp:=fun n f b o e al' ef hb=>⟨(r.fp n f b o e al' ef hb).1,fun q=>(r.fp n f b o e al' ef hb).2.1 (h b q),(r.fp n f b o e al' ef hb).2.2⟩
 fpa:=r.fpa
 dead:=r.dead
 tbf:=⟨r.tbf.1,fun q=>r.tbf.2 (h _ q)⟩
 tab:=r.tab
 bare:=r.bare
 os:=r.os
structure Unp (I:LexI) (B:Addr→Option Obj) (os:OsState) (R:RS) (s:Shared) (fp:List Addr) (R':RS) (st':St) (s':Shared):Prop where
 r:Rel I B os { R' with P:=R.P } st' s'
 a:Step R s { R' with P:=R.P } s'
 ap:ApartFp I fp { R' with P:=R.P }
 hp:∀ b ∈ fp,s'.heap.get? b = s.heap.get? b
theorem Step.unprot {fp:List Addr} (a:Step (R.prot fp) s R' s') (r:Rel I B os R' st' s') (ap:ApartFp I fp R) (al:∀ b ∈ fp,∃ o,s.heap.get? b = some o):Unp I B os R s fp R' st' s':=by
 have s1:Step R s { R' with P:=R.P } s':=⟨a.dt,rfl,a.Z,a.mu,a.own,fun b h=>a.keep b (h.elim .inl fun h=>.inr (.inl h)),a.alive,a.gens⟩
 exact ⟨r.lessP fun b h=>by simp only [a.P];exact .inl h,s1,ap.stepX (X:=fun _=>False) (gs:=fun _=>False) s1.toX al,fun b hb=>a.keep b (.inr (.inr hb))⟩
end
section
variable {prog:Program} {w:World} (W:Wd prog w)
structure Wk (A:Around) (tg:Expr) (itv:Value) (l:List V) (fp:List Addr) (gs:Nat→Prop) (J:Nat→RS→Shared→Prop):Prop where
 alive:∀ {k:Nat} {R:RS} {s:Shared},J k R s→∀ b ∈ fp,∃ o,s.heap.get? b = some o
 frame:∀ {k:Nat} {R R':RS} {s s':Shared},J k R s→(∀ b,R.Z b→R'.Z b)→MuExt R.mu R'.mu→(∀ b,R.Z b ∨ b ∈ fp→s'.heap.get? b = s.heap.get? b)→(∀ (g:Nat) x,s.gens[g]? = some x→s'.gens[g]? = some x)→J k R' s'
 item:∀ {k:Nat} {v:V} {R:RS} {st:St} {s:Shared} {Q:Value→Shared→Prop} {E:Value→Shared→Prop},l[k]? = some v→J k R s→Rel W.I W.B W.os R st s→ApartFp W.I fp R →
  (∀ R' s' val,StepX (· ∈ fp) gs R s R' s'→Rel W.I W.B W.os R' st s'→ApartFp W.I fp R'→VR R'.Z R'.mu s'.heap v val→J (k + 1) R' s'→Q val s') →
  wpAny (model prog w) A (pyNext itv) (fun r s₁=>∃ val,r = some val ∧ wpAny (model prog w) A (letOwnedTupleGo tg itv val) (fun _ s₂=>Q val s₂) E s₁) E s
 done:∀ {R:RS} {st:St} {s:Shared} {Q:Shared→Prop} {E:Value→Shared→Prop},J l.length R s→Rel W.I W.B W.os R st s→ApartFp W.I fp R →
  (∀ s',StepX (· ∈ fp) gs R s R s'→Rel W.I W.B W.os R st s'→Q s')→wpAny (model prog w) A (pyNext itv) (fun r s₁=>r = none ∧ Q s₁) E s
 self:∀ {k:Nat} {R:RS} {s:Shared} {Q:Value→Shared→Prop} {E:Value→Shared→Prop},J k R s→Q itv s→wpAny (model prog w) A (pyIter itv) Q E s
noncomputable def SndI (cx:Cx) (tg:Expr) (e:Expr) (x:X):Prop :=
 ∀ {A:Around} {E:Value→Shared→Prop} {env:Env} {R:RS} {st st':St} {s:Shared} {v:V} {l:List V} {Q:Value→Shared→Prop},GA W.lev A→EnvOk cx env R.dt→Rel W.I W.B W.os R st s→ev W.C x st = some (v,st')→items v = some l →
  (∀ R' s' itv fp J,Step R s R' s'→Rel W.I W.B W.os R' st' s'→Wk W A tg itv l fp (fun _=>False) J→J 0 R' s'→(∀ b ∈ fp,s.heap.get? b = none)→ApartFp W.I fp R'→Q itv s') →
  wpAny (model prog w) A (eval e env) (fun xv s₁=>wpAny (model prog w) A (pyIter xv) Q E s₁) E s
end
section
variable {prog:Program} {w:World} {W:Wd prog w} {cx:Cx} {A:Around} {E:Value→Shared→Prop} {env:Env} {R R':RS} {st st':St} {s s':Shared}
theorem Wk.ofWalks {tg:Expr} {it:Addr} {l:List V} {fpW wr:List Addr} {n:Nat} {P:Nat→Value→Prop} {S:Nat→Heap→Prop} {Vl:RS→Heap→Prop} (H:Walks prog w A it fpW wr n P S) (hn:n = l.length)
  (hgo:∀ v,letOwnedTupleGo tg (.ref it) v = pure ()) (hal:∀ k h,S k h→∀ b ∈ wr,∃ o,h.get? b = some o)
  (hV:∀ {R R':RS} {h h':Heap},Vl R h→(∀ b,R.Z b→R'.Z b)→MuExt R.mu R'.mu→(∀ b,R.Z b→h'.get? b = h.get? b)→Vl R' h')
  (hP:∀ {k:Nat} {x:V} {v:Value} {R:RS} {h:Heap},Vl R h→l[k]? = some x→P k v→VR R.Z R.mu h x v) :
  Wk W A tg (.ref it) l wr (fun _=>False) (fun k R s=>S k s.heap ∧ (∀ b ∈ fpW,b ∈ wr ∨ R.Z b) ∧ Vl R s.heap) where
 alive:=fun j=>hal _ _ j.1
 frame:=fun {k R R' s s'} j hZ hm hh _=>⟨H.frame _ _ _ j.1 fun b hb o e=>(hh b ((j.2.1 b hb).symm)).trans e,fun b hb=>(j.2.1 b hb).imp_right (hZ b),hV j.2.2 hZ hm fun b z=>hh b (.inl z)⟩
 item:=fun {k v R st s Q E} hl j r ap hQ=>by
  refine H.item k s _ _ (by simp only [hn];exact (List.getElem?_eq_some_iff.mp hl).1) j.1 fun u h' tk hu hS hk=>⟨u,rfl,?_⟩
  rw [hgo]
  refine (r.loose (gs:=fun _=>False) ap (tk:=tk) (fun b o hb e=>hk b o hb e)).elim fun r1 s1=>?_
  have hZk:∀ b,R.Z b→h'.get? b = s.heap.get? b:=fun b z=>s1.keep b (.inl z)
  have hV':Vl R h':=hV j.2.2 (fun _ z=>z) (fun _ _ e=>e) hZk
  exact wpAny_pure (hQ R _ u s1 r1 ap (hP hV' hl hu) ⟨hS,j.2.1,hV'⟩)
 done:=fun {R st s Q E} j r ap hQ=>by
  refine H.done s _ _ (by rw [hn];exact j.1) fun h' tk hk=>⟨rfl,?_⟩
  refine (r.loose (gs:=fun _=>False) ap (tk:=tk) (fun b o hb e=>hk b o hb e)).elim fun r1 s1=>?_
  exact hQ _ s1 r1
 self:=fun {k R s Q E} j hq=>H.self k s Q E j.1 hq
theorem goName (x:Str) (p:Pos) (it v:Value):letOwnedTupleGo (.Name x p) it v = pure ():=rfl
theorem items_rng_get {a b c:Int} {k:Nat} {x:V} (h:(rngItems a b c)[k]? = some x):x = .int (a + k * c):=by
 unfold rngItems at h
 rw [List.getElem?_map,Option.map_eq_some_iff] at h
 obtain ⟨j,h1,rfl⟩:=h
 refine (List.getElem?_eq_some_iff.mp h1).elim fun h2 h3=>?_
 simp at h3;rw [← h3]
@[elab_as_elim] theorem items_el {v:V} {l:List V} {P:V→List V→Prop} (h:items v = some l) (hl:∀ l,P (.list l) l) (ht:∀ l,P (.tup l) l) (hs:∀ x:T,P (.str x) (x.map fun c=>.str [c])) (hr:∀ a b c,P (.rng a b c) (rngItems a b c)):P v l:=by
 cases v <;> first | exact nso h | (obtain rfl:=Option.some.inj h;first | exact hl _ | exact ht _ | exact hs _ | exact hr _ _ _)
theorem VRs.at {Z:Addr→Prop} {mu:List (List Addr)} {h:Heap} {l:List V} {its:List Value} {k:Nat} {x:V} {v:Value} (r:VRs Z mu h l its) (hx:l[k]? = some x) (hp:its.toArray[k]? = some v):VR Z mu h x v :=
 (r.get k x hx).elim fun y q=>Option.some.inj (q.1.symm.trans (List.getElem?_toArray.symm.trans hp)) ▸ q.2
theorem iter_fin {tx:Str} {tp:Pos} {l:List V} {ob:Obj} {n:Nat} {P:Nat→Value→Prop} {S:Nat→Heap→Prop} {Vl:RS→Heap→Prop} {fpW:List Addr} {R₁:RS} {s₁:Shared} {Q:Value→Shared→Prop} (a₁:Step R s R₁ s₁) (r₁:Rel W.I W.B W.os R₁ st' s₁)
  (hQ:∀ R' s' itv fp J,Step R s R' s'→Rel W.I W.B W.os R' st' s'→Wk W A (.Name tx tp) itv l fp (fun _=>False) J→J 0 R' s'→(∀ b ∈ fp,s.heap.get? b = none)→ApartFp W.I fp R'→Q itv s')
  (H:Walks prog w A s₁.heap.objs.size fpW [s₁.heap.objs.size] n P S) (hn:n = l.length) (hal:∀ k h,S k h→∃ o,h.get? s₁.heap.objs.size = some o)
  (hV:∀ {R R':RS} {h h':Heap},Vl R h→(∀ b,R.Z b→R'.Z b)→MuExt R.mu R'.mu→(∀ b,R.Z b→h'.get? b = h.get? b)→Vl R' h')
  (hP:∀ {k:Nat} {x:V} {v:Value} {R:RS} {h:Heap},Vl R h→l[k]? = some x→P k v→VR R.Z R.mu h x v)
  (h0:S 0 (s₁.heap.push ob)) (hfp:∀ b ∈ fpW,b ∈ [s₁.heap.objs.size] ∨ R₁.Z b) (hv:Step R₁ s₁ R₁ { s₁ with heap:=s₁.heap.push ob }→Vl R₁ (s₁.heap.push ob)):Q (.ref s₁.heap.objs.size) { s₁ with heap:=s₁.heap.push ob } :=
 have K:=r₁.keeps (h':=s₁.heap.push ob) (tk:=s₁.toks) fun b o e=>Heap.get?_push_of_some _ e
 hQ R₁ _ _ [s₁.heap.objs.size] _ (a₁.trans K.2) K.1 (Wk.ofWalks H hn (goName _ _ _) (fun k h g b hb=>List.mem_singleton.mp hb ▸ hal k h g) hV hP) ⟨h0,hfp,hv K.2⟩
  (fun b hb=>none_back a₁.alive (List.mem_singleton.mp hb ▸ get_size _)) (ApartFp.new r₁ fun b hb=>List.mem_singleton.mp hb ▸ get_size _)
theorem sndI_plain {e:Expr} {x:X} {tx:Str} {tp:Pos} (he:Snd W cx e x):SndI W cx (.Name tx tp) e x:=by
 intro A E env R st st' s v l Q ga eo r hv hi hQ
 refine he.val ga eo r hv fun R₁ s₁ u a₁ r₁ v₁=>?_
 clear hv
 have ne:∀ {b:Addr} {o:Obj},s₁.heap.get? b = some o→b ≠ s₁.heap.objs.size:=fun e=>Nat.ne_of_lt (Heap.lt_size e)
 have two:∀ {a b:Addr},R₁.Z a→b ∈ [s₁.heap.objs.size,a]→b ∈ [s₁.heap.objs.size] ∨ R₁.Z b:=fun z hb=>(List.mem_cons.mp hb).imp (fun q=>by simp only [q];exact .head _) fun q=>by simp only [List.mem_singleton.mp q];exact z
 revert v₁ hQ
 refine items_el hi (fun l hQ v₁=>?_) (fun l hQ v₁=>?_) (fun x hQ v₁=>?_) fun a b c hQ v₁=>?_
 ·cases v₁ with | @list _ ax its n z eo1 hlen rs =>
  have hL:s₁.heap.IsList ax its.toArray:=⟨_,eo1,rfl,n,rfl⟩
  exact wpAny_pyIter_list hL (iter_fin (Vl:=fun R h=>VRs R.Z R.mu h l its) a₁ r₁ hQ (Walks.list ga.1 _ ax (ne eo1) its.toArray) (by rw [List.size_toArray,rs.length]) (fun k h g=>g.1.imp fun o g=>g.1) (fun hv=>hv.mono) VRs.at ⟨⟨_,Heap.get?_push_size _ rfl,rfl,rfl⟩,hL.push _⟩ (fun b=>two z) fun s2=>s2.vrs rs)
 ·cases v₁ with | @tup _ ax its n z eo1 hlen rs =>
  have hL:s₁.heap.IsTuple ax its.toArray:=⟨_,eo1,rfl,n,rfl⟩
  exact wpAny_pyIter_tuple hL (iter_fin (Vl:=fun R h=>VRs R.Z R.mu h l its) a₁ r₁ hQ (Walks.tuple ga.1 _ ax (ne eo1) its.toArray) (by rw [List.size_toArray,rs.length]) (fun k h g=>g.1.imp fun o g=>g.1) (fun hv=>hv.mono) VRs.at ⟨⟨_,Heap.get?_push_size _ rfl,rfl,rfl⟩,hL.push _⟩ (fun b=>two z) fun s2=>s2.vrs rs)
 ·cases v₁ with | @str _ t hlen =>
  have hW:∀ I,Walks prog w A I [I] [I] (strOf x).cps.size (SignAt (strOf x)) (fun i h=>h.IsStrIter I (strIterType (strOf x)) (strOf x) t i):=fun I=>by
   cases ha:(strOf x).cps.all (· < 128)
   ·rw [show strIterType (strOf x) = _ from if_neg (by rw [ha];exact Bool.false_ne_true)];exact Walks.strWide ga.1 I (strOf x) t
   ·rw [show strIterType (strOf x) = _ from if_pos ha];exact Walks.strAscii ga.1 I (strOf x) t
  refine wpAny_pyIter_strU (iter_fin (Vl:=fun _ _=>True) a₁ r₁ hQ (hW _) (List.length_map _).symm (fun k h g=>g.imp fun o g=>g.1) (fun _ _ _ _=>trivial) (fun {k y v R h} hv hx hp=>?_) ⟨_,Heap.get?_push_size _ rfl,rfl,rfl⟩ (fun b=>.inl) fun _=>trivial)
  refine Classical.byContradiction fun hcon=>?_
  obtain ⟨c,u,h1,rfl⟩:=hp
  rw [List.getElem?_map,Option.map_eq_some_iff] at hx
  obtain ⟨c',h2,rfl⟩:=hx
  have h3:x[k]? = some c:=List.getElem?_toArray.symm.trans h1
  cases h2.symm.trans h3
  refine hcon ?_
  exact .str (x:=[c]) (Nat.le_of_ble_eq_true rfl)
 ·cases v₁ with | @rng _ _ _ ax t u v z eo1 h1 h2 h3 h4 =>
  refine Classical.byContradiction fun hcon=>?_
  refine (rng_small h1 h2 h3 h4).elim fun sm k0=>k0.elim fun n k1=>k1.elim fun hn en=>?_
  refine hcon ?_
  refine wpAny_pyIter_range eo1 sm (iter_fin (Vl:=fun _ _=>True) a₁ r₁ hQ (Walks.range ga.1 _ a c n) (by rw [en];exact (List.length_range.symm.trans (List.length_map _).symm)) (fun k h g=>⟨_,g⟩) (fun _ _ _ _=>trivial) (fun {k y v R h} hv hx hp=>?_) ?_ (fun b=>.inl) fun _=>trivial)
  ·refine Classical.byContradiction fun hcon=>?_
   obtain ⟨t,rfl⟩:=hp
   refine hcon ?_
   rw [items_rng_get hx];exact .int
  ·show IsRangeIter _ _ _ _ _
   unfold IsRangeIter
   rw [Heap.get?_push_size _ rfl,hn];simp
end
section
variable {prog:Program} {w:World} {W:Wd prog w} {cx:Cx} {A:Around} {E:Value→Shared→Prop} {env:Env} {R R':RS} {st st':St} {s s':Shared}
theorem enum_get:∀ {l:List V} {j:Int} {k:Nat} {v:V},(enum j l)[k]? = some v→∃ x,l[k]? = some x ∧ v = .tup [.int (j + k),x]
 | [],j,k,v,h=>by simp [enum] at h
 | a :: r,j,0,v,h=>by simp [enum] at h;exact ⟨a,rfl,by simp [← h]⟩
 | a :: r,j,k + 1,v,h=>by
  simp [enum] at h
  refine Classical.byContradiction fun hcon=>?_
  obtain ⟨x,h1,rfl⟩:=enum_get h
  refine hcon ?_
  exact ⟨x,h1,by congr 3;push_cast;lia⟩
theorem enum_len:∀ (l:List V) (j:Int),(enum j l).length = l.length
 | [],_=>rfl
 | a :: r,j=>by simp [enum,enum_len r]
theorem Rel.pair {I:LexI} {B:Addr→Option Obj} {os:OsState} (r:Rel I B os R st s) {fp:List Addr} (a:ApartFp I fp R) (al:∀ b ∈ fp,∃ o,s.heap.get? b = some o) {h':Heap} {tk:Nat} {u v:Value} {x y:V} (hT:h'.get? s.heap.objs.size = some (tupO [u,v] 0)) (hk:∀ b o,b ∉ fp→s.heap.get? b = some o→h'.get? b = some o)
  (hu:VR R.Z R.mu s.heap x u) (hv:VR R.Z R.mu s.heap y v) :
  Rel I B os (R.add s.heap.objs.size) st { s with heap:=h',toks:=tk } ∧ StepX (· ∈ fp) (fun _=>False) R s (R.add s.heap.objs.size) { s with heap:=h',toks:=tk } ∧ ApartFp I fp (R.add s.heap.objs.size) ∧
   VR (R.add s.heap.objs.size).Z (R.add s.heap.objs.size).mu h' (.tup [x,y]) (.ref s.heap.objs.size):=by
 refine Classical.byContradiction fun hcon=>?_
 refine (r.push (o:=tupO [u,v] 0) (tk:=s.toks) rfl).elim fun r1 s1=>?_
 have a1:ApartFp I fp (R.add s.heap.objs.size):=a.stepX (X:=fun _=>False) (gs:=fun _=>False) s1.toX al
 obtain ⟨r2,s2⟩:=r1.loose (gs:=fun _=>False) a1 (h':=h') (tk:=tk) (fun b o hb e=>by
  by_cases q:b = s.heap.objs.size
  ·subst q
   rw [show (s.heap.push (tupO [u,v] 0)).get? s.heap.objs.size = some (tupO [u,v] 0) from Heap.get?_push_size _ rfl] at e
   simp only [hT,← e]
  ·refine hk b o hb ?_
   exact ((Heap.get?_push_cases e).resolve_left fun h=>q h.1))
 refine hcon ?_
 refine ⟨r2,StepX.trans s1 s2,a1,.tup (.inr rfl) hT (by simp) ?_⟩
 have hh:∀ b,R.Z b→h'.get? b = s.heap.get? b:=fun b z=>by
  refine Classical.byContradiction fun hcon=>?_
  refine (r.zal b (.inl z)).elim fun o e=>?_
  refine hcon ?_
  simp only [hk b o (fun hb=>(a b hb).1 z) e,e]
 exact .cons (hu.mono (fun _ z=>.inl z) (fun _ _ e=>e) hh) (.cons (hv.mono (fun _ z=>.inl z) (fun _ _ e=>e) hh) .nil)
theorem fc {α:Type} {P:α→Prop} {a:α} {l:List α} (h:P a) (t:∀ x ∈ l,P x):∀ x ∈ a :: l,P x:=List.forall_mem_cons.mpr ⟨h,t⟩
theorem li_alive {h:Heap} {i l:Addr} {k:Nat} (x:h.IsListIter i l k):∃ o,h.get? i = some o:=x.elim fun o e=>⟨o,e.1⟩
theorem li_keep {h h':Heap} {i l:Addr} {k:Nat} (x:h.IsListIter i l k) (e:h'.get? i = h.get? i):h'.IsListIter i l k:=x.elim fun o q=>⟨o,e.trans q.1,q.2⟩
structure LL (a:Addr) (its:List Value) (n:Nat) (xs:List V) (R:RS) (h:Heap):Prop where
 own:R.Z a
 at_:h.get? a = some (listO its n)
 row:VRs R.Z R.mu h xs its
section
variable {a b z ti to i j:Addr} {its its2:List Value} {n n2:Nat} {xs ys:List V} {h h':Heap} {k:Nat}
theorem LL.isl (L:LL a its n xs R h):h.IsList a its.toArray:=⟨_,L.at_,rfl,n,rfl⟩
theorem LL.mono (L:LL a its n xs R h) (hZ:∀ b,R.Z b→R'.Z b) (hmu:MuExt R.mu R'.mu) (hh:∀ b,R.Z b→h'.get? b = h.get? b):LL a its n xs R' h':=⟨hZ _ L.own,(hh _ L.own).trans L.at_,L.row.mono hZ hmu hh⟩
theorem LL.get (L:LL a its n xs R h) {x:V} (hx:xs[k]? = some x):∃ w,its.toArray[k]? = some w ∧ VR R.Z R.mu h x w:=(L.row.get k x hx).elim fun w q=>⟨w,List.getElem?_toArray.trans q.1,q.2⟩
theorem LL.end_ (L:LL a its n xs R h) (hk:xs.length ≤ k):its.toArray[k]? = none:=Array.getElem?_eq_none (by simp only [List.size_toArray,L.row.length];exact hk)
structure ES (z i a:Addr) (its:List Value) (n:Nat) (xs:List V) (k:Nat) (R:RS) (s:Shared):Prop where
 en:∃ old,IsEnum s.heap z i k old
 it:s.heap.IsListIter i a k
 ll:LL a its n xs R s.heap
theorem ES.alive (S:ES z i a its n xs k R s):∀ b ∈ [z,i],∃ o,s.heap.get? b = some o:=fc (S.en.elim fun _ e=>⟨_,e⟩) (fc (li_alive S.it) fun _ h=>nomatch h)
theorem es_item {ts:List Expr} {tk:Nat} {tp:Pos} {Q:Value→Shared→Prop} {v:V} (D:z ≠ i) (hl:(enum 0 xs)[k]? = some v) (S:ES z i a its n xs k R s) (r:Rel W.I W.B W.os R st s) (ap:ApartFp W.I [z,i] R)
  (hQ:∀ R' s' val,StepX (· ∈ [z,i]) (fun _=>False) R s R' s'→Rel W.I W.B W.os R' st s'→ApartFp W.I [z,i] R'→VR R'.Z R'.mu s'.heap v val→ES z i a its n xs (k + 1) R' s'→Q val s') :
  wpAny (model prog w) A (pyNext (.ref z)) (fun r s₁=>∃ val,r = some val ∧ wpAny (model prog w) A (letOwnedTupleGo (.Tuple ts tk tp) (.ref z) val) (fun _ s₂=>Q val s₂) E s₁) E s :=
 (enum_get hl).elim fun x q=>(S.ll.get q.1).elim fun w rw1=>S.en.elim fun old he =>
  wpAny_pyNext_enum_item he S.it S.ll.isl rw1.1 D fun h' g1 g2 g3 g4 g5=>⟨_,rfl,wpAny_letOwnedTupleGo_enum g1 fun h'' f1 f2 =>
   (r.pair ap (h':=h'') (tk:=s.toks + 1) S.alive ((f2.2 _ (Nat.ne_of_gt (Heap.lt_size he))).trans g3) (fun b o hb e=>(f2.2 b fun q=>hb (q ▸ .head _)).trans (g5 b o (fun q=>hb (q ▸ .head _)) (fun q=>hb (q ▸ .tail _ (.head _))) e)) (x:=.int k) (y:=x) .int rw1.2).elim
    fun q1 k=>k.elim fun q2 k=>k.elim fun q3 q4=>hQ _ _ _ q2 q1 q3 (by rw [q.2,Int.zero_add];exact q4) ⟨⟨_,f1⟩,li_keep g2 (f2.2 _ D.symm),S.ll.mono (fun _ z=>.inl z) (fun _ _ e=>e) fun b z=>q2.keep b (.inl z)⟩⟩
theorem es_wk {ts:List Expr} {tk:Nat} {tp:Pos} (hA:A.handled = none) (D:z ≠ i):Wk (W:=W) A (.Tuple ts tk tp) (.ref z) (enum 0 xs) [z,i] (fun _=>False) (ES z i a its n xs) where
 alive:=fun S=>S.alive
 frame:=fun S hZ hmu hh _=>⟨S.en.imp fun _ e=>(hh _ (.inr (.head _))).trans e,li_keep S.it (hh _ (.inr (.tail _ (.head _)))),S.ll.mono hZ hmu fun b z=>hh b (.inl z)⟩
 item:=fun hl S r ap hQ=>es_item D hl S r ap hQ
 done:=fun S r ap hQ=>S.en.elim fun _ he=>wpAny_pyNext_enum_end hA he S.it S.ll.isl (S.ll.end_ (Nat.le_of_eq (enum_len _ _).symm)) fun h' hk =>
  (r.loose (gs:=fun _=>False) ap (h':=h') (tk:=_) fun b o hb e=>hk b o (fun q=>hb (q ▸ .tail _ (.head _))) e).elim fun r1 s1=>⟨rfl,hQ _ s1 r1⟩
 self:=fun S hq=>S.en.elim fun _ he=>wpAny_pyIter_enum he hq
theorem none_at {N x:Addr} (h:N ≤ x) (hN:s.heap.objs.size = N):s.heap.get? x = none:=by
 cases q:s.heap.get? x with
 | none=>rfl
 | some o=>exact absurd (Heap.lt_size q) (hN ▸ Nat.not_lt.mpr h)
theorem sndI_enm (O:W.Ok) {g:Str} {gp p tp:Pos} {a:Expr} {y:X} {ts:List Expr} {tk:Nat} (hG:cG W.G cx g = some .enum) (hs:∀ b q,a ≠ .Starred b q) (ha:Snd W cx a y) :
  SndI W cx (.Tuple ts tk tp) (.Call (.Name g gp) [a] [] p) (.enm y):=by
 intro A E env R st st' s v l Q ga eo r hv hi hQ
 refine oSL_el hv fun xs st₁ e1 hv=>?_
 have hm:=O.genum _ (glob_kind hG eo).2.2
 refine Classical.byContradiction fun hcon=>?_
 cases hv
 obtain rfl:=Option.some.inj hi
 refine hcon ?_
 refine wpAny_Call_Name_kw (glob_bi O r eo hG hm.1 hm.2 ?_)
 have hp:((backTo p (starEach [a] env)).any (·.1)) = false:=by rw [star_cons hs];rfl
 refine callWith_any (.inr ⟨_,rfl⟩) hp (spliced_more (ha.val ga eo r e1 fun R₁ s₁ u a₁ r₁ v₁=>spliced_none ?_) (star_cons hs))
 cases v₁ with | list z eo1 hlen rs =>
 refine call_enumerate_list ⟨_,eo1,rfl,_,rfl⟩ fun h' he hit hsz hk=>wpAny_pyIter_enum he ?_
 refine (r₁.keeps (tk:=s₁.toks) hk).elim fun r2 s2=>?_
 have hn1:∀ b ∈ [s₁.heap.objs.size + 1,s₁.heap.objs.size],s₁.heap.get? b = none:=fc (none_at (Nat.le_succ _) rfl) (fc (none_at (Nat.le_refl _) rfl) fun _ h=>nomatch h)
 exact hQ _ _ _ _ _ (a₁.trans s2) r2 (es_wk ga.1 (Nat.succ_ne_self _)) ⟨⟨_,he⟩,hit,z,hk _ _ eo1,s2.vrs rs⟩ (fun b hb=>none_back a₁.alive (hn1 b hb)) (ApartFp.new r₁ hn1)
end
end
section
variable {prog:Program} {w:World} {W:Wd prog w} {cx:Cx} {A:Around} {E:Value→Shared→Prop} {env:Env} {R R':RS} {st st':St} {s s':Shared}
noncomputable abbrev PostU (I:LexI) (B:Addr→Option Obj) (os:OsState) (R:RS) (s:Shared) (st':St) (Q:Unit→Shared→Prop):Prop:=∀ R' s',Step R s R' s'→Rel I B os R' st' s'→Q () s'
structure SlotOk (cx:Cx) (x:Str) (i:Nat):Prop where
 slot:cx.slot x = some i
 kind:cx.names.lookup x = some .local ∨ cx.names.lookup x = some .cell
set_option tactic.hygienic true in
theorem slot_at {x:Str} {p:Pos} {i:Nat} (h:cSl cx (.Name x p) = some i):SlotOk cx x i:=by
 replace h:(match cx.names.lookup x with | some .local=>cx.slot x | some .cell=>cx.slot x | _=>none) = some i:=h
 split at h
 ·rename_i e;exact ⟨h,.inl e⟩
 ·rename_i e;exact ⟨h,.inr e⟩
 ·exact nso h
@[elab_as_elim] theorem slot_el {P:Expr→Prop} {e:Expr} {i:Nat} (h:cSl cx e = some i) (c:∀ x p,SlotOk cx x i→P (.Name x p)):P e :=
 oB h fun x hx _=>(nameOf_eq hx).elim fun p e'=>by subst e';exact c x p (slot_at h)
@[elab_as_elim] theorem cT_el {P:Expr→Tg→Prop} {tg:Expr} {t:Tg} (h:cT cx tg = some t) (c:∀ x p i,SlotOk cx x i→P (.Name x p) (.one i)) (d:∀ a b k p i j,cSl cx a = some i→cSl cx b = some j→P (.Tuple [a,b] k p) (.two i j)):P tg t:=by
 unfold cT at h
 split at h
 ·refine oM h fun i hi=>slot_el hi fun x p h1=>c x p i h1
 ·refine oB h fun es he h=>oB h fun q hq h=>oM2 h fun i j h1 h2=>?_
  obtain ⟨k,p,rfl⟩:=tupOf_eq he
  cases twoOf_eq hq
  exact d _ _ k p i j h1 h2
theorem cSls_two {a b:Expr} {i j:Nat} (h1:cSl cx a = some i) (h2:cSl cx b = some j):cSls cx [a,b] = some [i,j]:=by unfold cSls cSls cSls;simp only [h1,h2];rfl
theorem store_ok (r:Rel W.I W.B W.os R st s) (eo:EnvOk cx env R.dt) {x:Str} {i:Nat} {v:V} {val:Value} (hs:SlotOk cx x i) (hv:VR R.Z R.mu s.heap v val)
  {Q:Unit→Shared→Prop} (h:PostU W.I W.B W.os R s (st.set i v) Q):wpAny (model prog w) A (storeName env x val) Q E s:=by
 have hkind:∀ k,cx.names.lookup x = some k→env.kindOf x = some k:=fun k e=>by unfold Env.kindOf;rw [eo.names];exact e
 refine hs.kind.elim (fun hk=>?_) fun hk=>?_
 ·have hi:=eo.loc x i hs.slot hk
  exact (r.loc i _ hi).elim fun m hm=>wpAny_storeName_local (hkind _ hk) hm (fun h' hn hsb=>(r.store_ns (tk:=s.toks + 1) hi hm hn hsb hv).elim fun r1 s1=>h _ _ s1 r1) (by rw [eo.kind];rfl)
 ·exact (eo.cell x i hs.slot (.inl hk)).elim fun c k0=>(r.loc i _ k0.2).elim fun v0 hv0=>wpAny_storeName_cell eo.kind (hkind _ hk) k0.1 hv0 fun h' hn hsb=>(r.store_cell (tk:=s.toks) k0.2 hn hsb hv).elim fun r1 s1=>h _ _ s1 r1
theorem assigns_ok {ts:List Expr}:∀ {is:List Nat} {vs:List V} {vals:List Value} {R:RS} {st st':St} {s:Shared} {Q:Unit→Shared→Prop},Rel W.I W.B W.os R st s→EnvOk cx env R.dt→cSls cx ts = some is→VRs R.Z R.mu s.heap vs vals→setAll st is vs = some st' →
  PostU W.I W.B W.os R s st' Q→wpAny (model prog w) A (assignInOrder ((assignEach ts env).map (·.2)) vals) Q E s:=by
 induction ts with
 | nil =>
  intro is vs vals R st st' s Q r eo hs hv ha h
  obtain rfl:=Option.some.inj hs
  cases hv with
  | nil=>obtain rfl:=Option.some.inj ha;exact wpAny_pure (h R s (.refl _ _) r)
  | cons=>exact nso ha
 | cons t ts ih =>
  intro is vs vals R st st' s Q r eo hs hv
  refine oM2 hs fun i is' h1 h2 ha h=>?_
  cases hv with
  | nil=>exact nso ha
  | cons r1 rs =>
   exact slot_el h1 fun x p h3=>wpAny_bind (wpAny_holding (wpAny_assign_Name (store_ok r eo h3 r1 fun R₁ s₁ a₁ r₁=>ih r₁ (eo.step a₁) h2 (a₁.vrs rs) ha fun R₂ s₂ a₂ r₂=>h R₂ s₂ (a₁.trans a₂) r₂)))
theorem each_len (env:Env) {ts:List Expr}:∀ {is:List Nat},cSls cx ts = some is→(assignEach ts env).length = is.length ∧ (assignEach ts env).findIdx? (·.1) = none:=by
 induction ts with
 | nil=>intro is h;obtain rfl:=Option.some.inj h;exact ⟨rfl,rfl⟩
 | cons t ts ih =>
  intro is h
  refine oM2 h fun i is' h1 h2=>slot_el h1 fun x p _=>⟨congrArg (· + 1) (ih h2).1,?_⟩
  show List.findIdx? (fun x=>x.1) ((false,assign (.Name x p) env) :: assignEach ts env) = none
  rw [List.findIdx?_cons,(ih h2).2];rfl
theorem setAll_len {is:List Nat}:∀ {vs:List V} {st st':St},setAll st is vs = some st'→is.length = vs.length:=by
 induction is with
 | nil=>intro vs st st' h;exact oG h fun h _=>by rw [nil_of h];rfl
 | cons i is ih =>
  intro vs st st' h
  cases vs with
  | nil=>exact nso h
  | cons v vs=>exact congrArg (· + 1) (ih h)
theorem tuple_ok (hA:A.handled = none) (r:Rel W.I W.B W.os R st s) (eo:EnvOk cx env R.dt) {ts:List Expr} {k:Nat} {p:Pos} {is:List Nat} {vs:List V} {val:Value} (hs:cSls cx ts = some is) (hv:VR R.Z R.mu s.heap (.tup vs) val) (ha:setAll st is vs = some st')
  {Q:Unit→Shared→Prop} (h:PostU W.I W.B W.os R s st' Q):wpAny (model prog w) A (assign (.Tuple ts k p) env val) Q E s :=
 (SR.of hv).tup_el fun a l n e hl rs=>wpAny_assign_Tuple hA ⟨_,e,rfl,n,rfl⟩ (by simp only [(each_len env hs).1,setAll_len ha,List.size_toArray,rs.length]) (each_len env hs).2 fun h' hx =>
  (r.keeps (h':=h') (tk:=s.toks) (fun b o e=>hx b o (fun q=>by rw [q,get_size] at e;exact nso e) e)).elim fun r1 s1=>assigns_ok r1 (eo.step s1) hs (s1.vrs rs) ha fun R₂ s₂ a₂ r₂=>h R₂ s₂ (s1.trans a₂) r₂
theorem tg_ok (hA:A.handled = none) (r:Rel W.I W.B W.os R st s) (eo:EnvOk cx env R.dt) {tg:Expr} {t:Tg} {v:V} {val:Value} (ht:cT cx tg = some t) (hv:VR R.Z R.mu s.heap v val) (ha:setTg st t v = some st')
  {Q:Unit→Shared→Prop} (h:PostU W.I W.B W.os R s st' Q):wpAny (model prog w) A (assign tg env val) Q E s:=by
 revert ha
 refine cT_el ht (fun x p i h3 ha=>?_) fun a b k p i j h1 h2 ha=>?_
 ·obtain rfl:=Option.some.inj ha
  exact wpAny_assign_Name (store_ok r eo h3 hv h)
 ·refine oB ha fun l hl ha=>(oI ha).elim fun q hq=>?_
  refine Classical.byContradiction fun hcon=>?_
  cases V.tup?_eq hl
  cases hq.2
  refine hcon ?_
  exact tuple_ok hA r eo (is:=[i,j]) (cSls_two h1 h2) hv (by simp only [twoOf_eq hq.1];rfl) h
theorem StepX.transX {X Y:Addr→Prop} {gs:Nat→Prop} {R'':RS} {s'':Shared} (a:StepX X gs R s R' s') (b:StepX Y gs R' s' R'' s'') (hX:∀ c,X c→(∃ o,s.heap.get? c = some o)→∃ o,s'.heap.get? c = some o) (hY:∀ c,Y c→X c ∨ s.heap.get? c = none):StepX X gs R s R'' s'' where
 dt:=b.dt.trans a.dt
 P:=b.P.trans a.P
 Z:=fun x h=>b.Z x (a.Z x h)
 mu:=fun n f h=>b.mu n f (a.mu n f h)
 own:=fun x h=>by
  rcases b.own x h with h | h | h
  ·exact a.own x (.inl h)
  ·exact a.own x (.inr h)
  ·refine .inr (.inr ?_)
   cases e:s.heap.get? x with
   | none=>rfl
   | some o =>
    have:∃ o',s'.heap.get? x = some o':=by
     by_cases hx:X x
     ·exact hX x hx ⟨o,e⟩
     ·exact a.alive x o hx e
    obtain ⟨o',h'⟩:=this;rw [h] at h';exact nso h'
 keep:=fun x h=>(b.keep x (h.elim (fun z=>.inl (a.Z x z)) fun p=>.inr (by rw [a.P];exact p))).trans (a.keep x h)
 alive:=fun x o hx h=>by
  refine (a.alive x o hx h).elim fun o' h'=>?_
  refine b.alive x o' (fun q=>?_) h'
  refine Or.elim (hY x q) (fun q=>?_) (fun q=>?_)
  ·exact hx q
  ·rw [q] at h;exact nso h
 gens:=fun g x hg h=>b.gens g x hg (a.gens g x hg h)
theorem StepX.weaken {X Y:Addr→Prop} {gs:Nat→Prop} (a:StepX X gs R s R' s') (h:∀ c,X c→Y c):StepX Y gs R s R' s' :=
 ⟨a.dt,a.P,a.Z,a.mu,a.own,a.keep,fun b o hb e=>a.alive b o (fun q=>hb (h b q)) e,a.gens⟩
theorem StepX.refl {X:Addr→Prop} {gs:Nat→Prop} (R:RS) (s:Shared):StepX X gs R s R s:=(Step.refl R s).toX
theorem StepX.unprot {X:Addr→Prop} {gs:Nat→Prop} {fp:List Addr} (a:StepX X gs (R.prot fp) s R' s') (r:Rel W.I W.B W.os R' st' s') (ap:ApartFp W.I fp R) (al:∀ b ∈ fp,∃ o,s.heap.get? b = some o) :
  Rel W.I W.B W.os { R' with P:=R.P } st' s' ∧ StepX X gs R s { R' with P:=R.P } s' ∧ ApartFp W.I fp { R' with P:=R.P } ∧ ∀ b ∈ fp,s'.heap.get? b = s.heap.get? b:=by
 have s1:StepX X gs R s { R' with P:=R.P } s':=⟨a.dt,rfl,a.Z,a.mu,a.own,fun b h=>a.keep b (h.elim .inl fun h=>.inr (.inl h)),a.alive,a.gens⟩
 exact ⟨r.lessP fun b h=>by simp only [a.P];exact .inl h,s1,ap.stepX s1 al,fun b hb=>a.keep b (.inr (.inr hb))⟩
theorem ApartFp.prot {fp D:List Addr} (h:ApartFp W.I D R) (hd:∀ b ∈ D,b ∉ fp):ApartFp W.I D (R.prot fp):=fun b hb=>let ⟨h1,h2,h3,h4,h5⟩:=h b hb;⟨h1,fun q=>q.elim h2 (hd b hb),h3,h4,h5⟩
theorem ApartFp.lessP {D:List Addr} {P:Addr→Prop} (h:ApartFp W.I D R) (hp:∀ b,P b→R.P b):ApartFp W.I D { R with P:=P }:=fun b hb=>let ⟨h1,h2,h3,h4,h5⟩:=h b hb;⟨h1,fun q=>h2 (hp b q),h3,h4,h5⟩
noncomputable def testsOf (ifs:List Expr) (env:Env):Sem Bool:=forIn ifs true fun c r=>if r = true then do let ok ← isTrue c env (eval c env);pure (ForInStep.yield ok) else pure (ForInStep.yield r)
noncomputable def turnOf (e:Expr) (d:Nat) (itv acc:Value) (env:Env) (p0:Pos) (tg:Expr) (ifs:List Expr) (rest:Sem Fin):Sem Fin:=(do
 standAt p0
 match ← pyNext itv with
 | none=>pure (.done .next)
 | some v =>
  letOwnedTupleGo tg itv v
  assign tg env v
  let ok ← testsOf ifs env
  if ok then rest else again (.compLoop e d itv acc env))
noncomputable def emitOf (elt:Expr) (acc:Value) (env:Env):Sem Unit:=(do let _ ← call (.builtin "list.append") [acc,← eval elt env])
noncomputable def innerOf (e:Expr) (acc:Value) (env:Env) (iter:Expr) (k:Sem Fin):Sem Fin:=(do
 let x ← eval iter env
 standAt iter.pos
 let x ← foldedSetIterable iter env x
 let _ ← runOwn (.compStart e 1 (← holding [x] (pyIter x)) acc env) env
 k)
theorem turn_one (elt tg iter:Expr) (ifs:List Expr) (sc:Scope) (pos:Pos) (itv acc:Value) (env:Env):compTurn (.ListComp elt [⟨tg,iter,ifs,0⟩] sc pos) 0 itv acc env =
  turnOf (.ListComp elt [⟨tg,iter,ifs,0⟩] sc pos) 0 itv acc env iter.pos tg ifs (emitOf elt acc env >>= fun _=>again (.compLoop (.ListComp elt [⟨tg,iter,ifs,0⟩] sc pos) 0 itv acc env)):=by rfl
theorem turn_two0 (elt tg iter tg' iter':Expr) (ifs ifs':List Expr) (sc:Scope) (pos:Pos) (itv acc:Value) (env:Env):compTurn (.ListComp elt [⟨tg,iter,ifs,0⟩,⟨tg',iter',ifs',0⟩] sc pos) 0 itv acc env =
  turnOf (.ListComp elt [⟨tg,iter,ifs,0⟩,⟨tg',iter',ifs',0⟩] sc pos) 0 itv acc env iter.pos tg ifs (innerOf (.ListComp elt [⟨tg,iter,ifs,0⟩,⟨tg',iter',ifs',0⟩] sc pos) acc env iter'
   (again (.compLoop (.ListComp elt [⟨tg,iter,ifs,0⟩,⟨tg',iter',ifs',0⟩] sc pos) 0 itv acc env))):=by rfl
theorem turn_two1 (elt tg iter tg' iter':Expr) (ifs ifs':List Expr) (sc:Scope) (pos:Pos) (itv acc:Value) (env:Env):compTurn (.ListComp elt [⟨tg,iter,ifs,0⟩,⟨tg',iter',ifs',0⟩] sc pos) 1 itv acc env =
  turnOf (.ListComp elt [⟨tg,iter,ifs,0⟩,⟨tg',iter',ifs',0⟩] sc pos) 1 itv acc env iter'.pos tg' ifs' (emitOf elt acc env >>= fun _=>again (.compLoop (.ListComp elt [⟨tg,iter,ifs,0⟩,⟨tg',iter',ifs',0⟩] sc pos) 1 itv acc env)):=by rfl
noncomputable def RestOk (prog:Program) (w:World) (A:Around) (rest:Sem Fin) (c:Code) (E:Value→Shared→Prop) (s:Shared) (K:Shared→Prop):Prop:=wpAny (model prog w) A rest (fun fin s'=>fin = .again c ∧ K s') E s
theorem loop_go {elt:Expr} {gens:List Comprehension} {sc:Scope} {pos:Pos} {d:Nat} {itv acc:Value} {env:Env} {p0:Pos} {tg:Expr} {ifs:List Expr} {rest:Sem Fin} {RR:Result→Shared→Prop}
  (heq:compTurn (.ListComp elt gens sc pos) d itv acc env = turnOf (.ListComp elt gens sc pos) d itv acc env p0 tg ifs rest) (I:Nat→Shared→Prop)
  (turn:∀ n s,I n s→∀ E,wpAny (model prog w) A (pyNext itv) (fun r s₁=>match r with
   | none=>RR (.ok .next) s₁
   | some v=>wpAny (model prog w) A (letOwnedTupleGo tg itv v) (fun _ s₁'=>wpAny (model prog w) A (assign tg env v) (fun _ s₂=>wpAny (model prog w) A (testsOf ifs env) (fun ok s₃ =>
      if ok = true then RestOk prog w A rest (.compLoop (.ListComp elt gens sc pos) d itv acc env) E s₃ (fun s₅=>∃ m,m < n ∧ I m s₅) else ∃ m,m < n ∧ I m s₃) E s₂) E s₁') E s₁) E s)
  (n:Nat) (h:I n s):codeAny (model prog w) A (.compLoop (.ListComp elt gens sc pos) d itv acc env) RR s:=by
 refine codeAny_loop rfl I (fun n s hI=>?_) n h
 show wpAny _ A ((compTurn (.ListComp elt gens sc pos) d itv acc env).onRaise (fun x=>do noteFrame x env;theTreesLotGoes x)) _ _ s
 refine wpAny_noted ?_
 simp only [heq]
 unfold turnOf
 refine wpAny_bind (wpAny_standAt (wpAny_bind (wpAny_mono (turn n s hI _) (fun r s₁ h₁=>?_) fun _ _ h'=>h')))
 cases r with
 | none=>exact wpAny_pure h₁
 | some v =>
  refine wpAny_bind (wpAny_mono h₁ (fun _ s₁' h₁'=>wpAny_bind (wpAny_mono h₁' (fun _ s₂ h₂=>wpAny_bind (wpAny_mono h₂ (fun ok s₃ h₃=>?_) fun _ _ h'=>h')) fun _ _ h'=>h')) fun _ _ h'=>h')
  cases ok with
  | false=>exact wpAny_pure ⟨rfl,h₃⟩
  | true=>exact wpAny_mono h₃ (fun fin s₄ h₄=>by obtain ⟨rfl,h₄⟩:=h₄;exact ⟨rfl,h₄⟩) fun _ _ h'=>h'
theorem turns_el {P:Prop} {f:V→St→Option (List V × St)} {v:V} {l:List V} {st st':St} {vs:List V} (h:turns f (v :: l) st = some (vs,st')) (c:∀ a b st₁,f v st = some (a,st₁)→turns f l st₁ = some (b,st')→vs = a ++ b→P):P :=
 oB h fun p h1 h=>(oI h).elim fun q h=>by
  have h2:=h.1
  cases h.2
  exact c p.1 q.1 p.2 h1 h2 rfl
noncomputable def BodyOk (W:Wd prog w) (A:Around) (env:Env) (dt:List Loc) (tg:Expr) (ifs:List Expr) (rest:Sem Fin) (c:Code) (D:Addr) (f:V→St→Option (List V × St)):Prop :=
 ∀ {v:V} {val:Value} {R:RS} {st st':St} {s:Shared} {vs:List V} {its:List Value} {n:Nat} {ws:List V} {K:Shared→Prop} {E:Value→Shared→Prop},R.dt = dt→Rel W.I W.B W.os R st s→VR R.Z R.mu s.heap v val→f v st = some (vs,st')→ApartFp W.I [D] R →
  s.heap.get? D = some (listO its n)→VRs R.Z R.mu s.heap ws its→(ws ++ vs).length ≤ 16777216 →
  (∀ R' s' its' n',StepX (· = D) (fun _=>False) R s R' s'→Rel W.I W.B W.os R' st' s'→ApartFp W.I [D] R'→s'.heap.get? D = some (listO its' n')→VRs R'.Z R'.mu s'.heap (ws ++ vs) its'→K s') →
  wpAny (model prog w) A (assign tg env val) (fun _ s₂=>wpAny (model prog w) A (testsOf ifs env) (fun ok s₃=>if ok = true then RestOk prog w A rest c E s₃ K else K s₃) E s₂) E s
inductive CInv (W:Wd prog w) (l:List V) (fp:List Addr) (D:Addr) (J:Nat→RS→Shared→Prop) (f:V→St→Option (List V × St)) (st':St) (R:RS) (s:Shared) (tot:List V):Nat→Shared→Prop
 | mk {k:Nat} {R₁:RS} {s₁:Shared} {st₁:St} {ws₁:List V} {its₁:List Value} {n₁:Nat} {vs₁:List V}:k ≤ l.length→StepX (fun b=>b ∈ fp ∨ b = D) (fun _=>False) R s R₁ s₁→(∀ b,b ∈ fp ∨ b = D→∃ o,s₁.heap.get? b = some o)→J k R₁ s₁→Rel W.I W.B W.os R₁ st₁ s₁→ApartFp W.I fp R₁→ApartFp W.I [D] R₁ →
   s₁.heap.get? D = some (listO its₁ n₁)→VRs R₁.Z R₁.mu s₁.heap ws₁ its₁→turns f (l.drop k) st₁ = some (vs₁,st')→ws₁ ++ vs₁ = tot→CInv W l fp D J f st' R s tot (l.length - k) s₁
theorem comp_walk {elt:Expr} {gens:List Comprehension} {sc:Scope} {pos:Pos} {d:Nat} {itv:Value} {env:Env} {p0:Pos} {tg:Expr} {ifs:List Expr} {rest:Sem Fin} {RR:Result→Shared→Prop} {D:Addr} {dt:List Loc} {f:V→St→Option (List V × St)}
  {l:List V} {fp:List Addr} {J:Nat→RS→Shared→Prop}
  (heq:compTurn (.ListComp elt gens sc pos) d itv (.ref D) env = turnOf (.ListComp elt gens sc pos) d itv (.ref D) env p0 tg ifs rest) (K:Wk W A tg itv l fp (fun _=>False) J)
  (hb:BodyOk W A env dt tg ifs rest (.compLoop (.ListComp elt gens sc pos) d itv (.ref D) env) D f)
  {vs:List V} {its:List Value} {n:Nat} {ws:List V} (hdt:R.dt = dt) (j:J 0 R s) (r:Rel W.I W.B W.os R st s) (ap:ApartFp W.I fp R) (aD:ApartFp W.I [D] R) (hD:D ∉ fp) (hl:s.heap.get? D = some (listO its n)) (hw:VRs R.Z R.mu s.heap ws its)
  (ht:turns f l st = some (vs,st')) (hlen:(ws ++ vs).length ≤ 16777216)
  (h:∀ R' s' its' n',StepX (fun b=>b ∈ fp ∨ b = D) (fun _=>False) R s R' s'→Rel W.I W.B W.os R' st' s'→ApartFp W.I [D] R'→s'.heap.get? D = some (listO its' n')→VRs R'.Z R'.mu s'.heap (ws ++ vs) its'→RR (.ok .next) s') :
  codeAny (model prog w) A (.compLoop (.ListComp elt gens sc pos) d itv (.ref D) env) RR s:=by
 refine loop_go heq (CInv W l fp D J f st' R s (ws ++ vs)) ?_ l.length
  (.mk (k:=0) (Nat.zero_le _) (.refl _ _) (fun b hb=>hb.elim (K.alive j b) fun e=>⟨_,e ▸ hl⟩) j r ap aD hl hw ht rfl)
 intro m s₁ hI E
 cases hI with | @mk k R₁ _ st₁ ws₁ its₁ n₁ vs₁ hk a₁ al₁ j₁ r₁ ap₁ aD₁ hl₁ hw₁ ht₁ hv₁ =>
 have hX:∀ c,(c ∈ fp ∨ c = D)→(∃ o,s.heap.get? c = some o)→∃ o,s₁.heap.get? c = some o:=fun c hc _=>al₁ c hc
 have alD1:∀ b ∈ [D],∃ o,s₁.heap.get? b = some o:=fun b hb=>al₁ b (.inr (List.mem_singleton.mp hb))
 have rD:=r₁.prot aD₁ alD1
 have apD:ApartFp W.I fp (R₁.prot [D]):=ap₁.prot fun b hb e=>hD (List.mem_singleton.mp e ▸ hb)
 have jD:J k (R₁.prot [D]) s₁:=K.frame j₁ (fun _ z=>z) (fun _ _ e=>e) (fun _ _=>rfl) (fun _ _ e=>e)
 by_cases hlt:k < l.length
 ·have hd:l.drop k = l[k] :: l.drop (k + 1):=List.drop_eq_getElem_cons hlt
  rw [hd] at ht₁
  refine turns_el ht₁ fun a b st₂ f1 f2 e=>?_
  subst e
  refine wpAny_mono (K.item (v:=l[k]) (List.getElem?_eq_getElem hlt) jD rD apD (Q:=fun val s₂=>wpAny (model prog w) A (assign tg env val) (fun _ s₂=>wpAny (model prog w) A (testsOf ifs env) (fun ok s₃=>if ok = true then
    RestOk prog w A rest (.compLoop (.ListComp elt gens sc pos) d itv (.ref D) env) E s₃ (fun s₅=>∃ m,m < l.length - k ∧ CInv W l fp D J f st' R s (ws ++ vs) m s₅) else ∃ m,m < l.length - k ∧ CInv W l fp D J f st' R s (ws ++ vs) m s₃) E s₂) E s₂) (E:=E) fun R₂ s₂ val a₂ r₂ ap₂ v₂ j₂=>?_) (fun o s' ho=>?_) fun _ _ x=>x
  rotate_left
  ·obtain ⟨val,rfl,ho⟩:=ho;exact ho
  refine Classical.byContradiction fun hcon=>?_
  obtain ⟨r₂',a₂',aD₂,hD₂⟩:=a₂.unprot r₂ aD₁ alD1
  refine hcon ?_
  have e₂:s₂.heap.get? D = some (listO its₁ n₁):=(hD₂ D (.head _)).trans hl₁
  have ap₂':ApartFp W.I fp { R₂ with P:=R₁.P }:=ap₂.lessP fun b hb=>by rw [a₂.P];exact .inl hb
  have al₂:∀ b ∈ fp,∃ o,s₂.heap.get? b = some o:=K.alive j₂
  have r₃:=r₂'.prot ap₂' al₂
  refine hb (R:={ R₂ with P:=R₁.P }.prot fp) (by show R₂.dt = dt;rw [a₂.dt];show R₁.dt = dt;rw [a₁.dt];exact hdt) r₃ v₂ f1 (aD₂.prot fun b hb=>by rw [List.mem_singleton.mp hb];exact hD) e₂ (hw₁.mono a₂'.Z a₂'.mu fun b z=>a₂'.keep b (.inl z)) ?_ fun R' s' its' n' a₃ r₄ aD₄ e₄ v₄=>?_
  ·have:(ws₁ ++ (a ++ b)).length ≤ 16777216:=by rw [hv₁];exact hlen
   simp only [List.length_append] at this ⊢;lia
  refine Classical.byContradiction fun hcon=>?_
  obtain ⟨r₅,a₅,ap₅,hfp₅⟩:=a₃.unprot r₄ ap₂' al₂
  refine hcon ?_
  refine ⟨l.length - (k + 1),sub_lt1 hlt,.mk (k:=k + 1) (R₁:={ R' with P:=R₁.P }) hlt ?_ ?_ ?_ r₅ ap₅ (aD₄.lessP (fun b hb=>by rw [a₃.P];exact .inl hb)) e₄ v₄ f2 (by rw [List.append_assoc];exact hv₁)⟩
  ·have t1:StepX (fun b=>b ∈ fp ∨ b = D) (fun _=>False) R s { R₂ with P:=R₁.P } s₂:=a₁.transX (a₂'.weaken (Y:=fun b=>b ∈ fp) fun _ h=>h) hX fun c hc=>.inl (.inl hc)
   exact t1.transX a₅ (fun c hc _=>hc.elim (al₂ c) fun e=>⟨_,e ▸ e₂⟩) fun c hc=>.inl (.inr hc)
  ·rintro c (hc | rfl)
   ·obtain ⟨o,h⟩:=al₂ c hc;exact ⟨o,(hfp₅ c hc).trans h⟩
   ·exact ⟨_,e₄⟩
  ·refine K.frame j₂ (fun c z=>a₅.Z c z) a₅.mu (fun c hc=>?_) fun g x e=>a₅.gens g x id e
   refine Or.elim (hc) (fun hc=>?_) (fun hc=>?_)
   ·exact a₅.keep c (.inl hc)
   ·exact hfp₅ c hc
 ·have hkl:k = l.length:=by lia
  subst hkl
  rw [List.drop_length] at ht₁
  refine Classical.byContradiction fun hcon=>?_
  cases ht₁
  rw [List.append_nil] at hv₁
  subst hv₁
  refine hcon ?_
  refine wpAny_mono (K.done jD rD apD (E:=E) (Q:=fun s₂=>RR (.ok .next) s₂) fun s₂ a₂ r₂=>?_) (fun o s' ho=>?_) fun _ _ x=>x
  ·refine Classical.byContradiction fun hcon=>?_
   obtain ⟨r₂',a₂',aD₂,hD₂⟩:=a₂.unprot r₂ aD₁ alD1
   refine hcon ?_
   refine h { R₁.prot [D] with P:=R₁.P } s₂ its₁ n₁ ?_ r₂' aD₂ ((hD₂ D (.head _)).trans hl₁) (hw₁.mono (fun _ z=>z) (fun _ _ e=>e) fun b z=>a₂'.keep b (.inl z))
   exact a₁.transX (a₂'.weaken (Y:=fun b=>b ∈ fp) fun _ h=>h) hX fun c hc=>.inl (.inl hc)
  ·obtain ⟨rfl,ho⟩:=ho;exact ho
end
theorem lookup_app {α:Type} (n:Str) (b:List (Str × α)):∀ a:List (Str × α),(a ++ b).lookup n = (a.lookup n).or (b.lookup n)
 | []=>by simp
 | (m,v) :: r=>by
  simp only [List.cons_append,List.lookup_cons,List.lookup_cons]
  cases n == m with
  | true=>rfl
  | false=>exact lookup_app n b r
noncomputable def cellsN:List (Str × NameKind)→List Str
 | []=>[]
 | (n,.cell) :: r=>n :: cellsN r
 | _ :: r=>cellsN r
theorem cellsFrom_app:∀ (names:List (Str × NameKind)) (k:Nat) (acc:List (Str × Addr)),cellsFrom k names acc = cellsFrom k names [] ++ acc
 | [],_,_=>rfl
 | (n,kd) :: r,k,acc=>by
  unfold cellsFrom
  split
  ·simp only [cellsFrom_app r (k + 1) ((n,k) :: acc),cellsFrom_app r (k + 1) [(n,k)],List.append_assoc];rfl
  ·exact cellsFrom_app r k acc
set_option tactic.hygienic true in
theorem cellsFrom_some:∀ (names:List (Str × NameKind)) (k:Nat) (n:Str),n ∈ cellsN names→((cellsFrom k names []).lookup n).isSome = true
 | [],_,_,h=>by cases h
 | (m,kd) :: r,k,n,h=>by
  unfold cellsFrom
  split
  ·rename_i q
   have q':kd = .cell:=by simpa using q
   subst q'
   rw [cellsFrom_app,lookup_app]
   by_cases e:n = m
   ·subst e
    cases (cellsFrom (k + 1) r []).lookup n <;> simp
   ·have h':n ∈ cellsN r:=by
     refine Or.elim (List.mem_cons.mp h) (fun h=>?_) (fun h=>?_)
     ·exact (e h).elim
     ·exact h
    have:=cellsFrom_some r (k + 1) n h'
    refine (Option.isSome_iff_exists.mp this).elim fun c hc=>?_
    rw [hc];rfl
  ·rename_i q
   refine cellsFrom_some r k n ?_
   cases kd with
   | cell=>exact (q rfl).elim
   | _=>exact h
set_option tactic.hygienic true in
theorem cellsFrom_none:∀ (names:List (Str × NameKind)) (k:Nat) (n:Str),n ∉ cellsN names→(cellsFrom k names []).lookup n = none
 | [],_,_,_=>rfl
 | (m,kd) :: r,k,n,h=>by
  unfold cellsFrom
  split
  ·rename_i q
   have q':kd = .cell:=by simpa using q
   subst q'
   have h1:n ≠ m:=fun e=>h (e ▸ .head _)
   rw [cellsFrom_app,lookup_app,cellsFrom_none r (k + 1) n fun e=>h (.tail _ e)]
   have:(n == m) = false:=by simpa using h1
   simp [List.lookup_cons,this]
  ·rename_i q
   refine cellsFrom_none r k n fun e=>h ?_
   cases kd with
   | cell=>exact (q rfl).elim
   | _=>exact e
noncomputable def clOf (env:Env):List (Str × NameKind)→List (Str × Addr)→List (Str × Addr)
 | [],acc=>acc
 | (n,.free) :: r,acc=>clOf env r ((n,(env.cells.lookup n).getD 0) :: acc)
 | _ :: r,acc=>clOf env r acc
theorem clOf_lookup (env:Env) (n:Str):∀ (names:List (Str × NameKind)) (acc:List (Str × Addr)),(clOf env names acc).lookup n = if n ∈ frees names then some ((env.cells.lookup n).getD 0) else acc.lookup n
 | [],acc=>by simp [clOf,frees]
 | (m,kd) :: r,acc=>by
  cases kd with
  | free =>
   show (clOf env r ((m,(env.cells.lookup m).getD 0) :: acc)).lookup n = if n ∈ m :: frees r then _ else _
   simp only [clOf_lookup env n r,List.lookup_cons]
   by_cases e:n = m
   ·subst e;simp
   ·have:(n == m) = false:=by simpa using e
    simp [this,e]
  | _=>exact clOf_lookup env n r acc
theorem closure_ok {scope:Scope} {env:Env} (h:∀ n ∈ frees scope.names,∃ c,env.cells.lookup n = some c):closureFor scope env = pure (clOf env scope.names []):=by
 unfold closureFor
 have key:∀ (names:List (Str × NameKind)) (acc:List (Str × Addr)),(∀ n ∈ frees names,∃ c,env.cells.lookup n = some c) →
   (forIn names acc fun (x:Str × NameKind) (r:List (Str × Addr))=>(match x with | (name,kind)=>if kind == .free then (do let a ← cellOf env name;pure (ForInStep.yield ((name,a) :: r))) else pure (ForInStep.yield r):Sem (ForInStep (List (Str × Addr))))) = (pure (clOf env names acc):Sem _):=by
  intro names
  induction names with
  | nil=>intro acc _;rfl
  | cons x r ih =>
   intro acc hf
   obtain ⟨n,kd⟩:=x
   rw [List.forIn_cons]
   cases kd with
   | free =>
    refine (hf n (.head _)).elim fun c hc=>?_
    have:cellOf env n = pure c:=by unfold cellOf;rw [hc]
    simp only [this,beq_self_eq_true,if_true,pure_bind]
    rw [ih _ fun m hm=>hf m (.tail _ hm)]
    simp only [clOf,hc,Option.getD_some]
   | _=>exact ih acc hf
 have:=key scope.names [] h
 simp only [bind_pure]
 exact this
section
variable {prog:Program} {w:World} {W:Wd prog w} {cx:Cx} {A:Around} {E:Value→Shared→Prop} {env:Env} {R R':RS} {st st':St} {s s':Shared}
theorem newEnv_comp {scope:Scope} {globals:Addr} {cl:List (Str × Addr)} {qual:Str} {Q:Env→Shared→Prop}
  (h:Q { scope,locals:=s.heap.objs.size,globals,cells:=cellsFrom (s.heap.objs.size + 1) scope.names cl,qual,func:=none,code:=env.code,frame:=env.frame,builtins:=env.builtins }
   { s with heap:=pushCells (s.heap.push { cls:=.type "dict",data:=.dict #[] }) scope.names }) :
  wpAny (model prog w) A (newFunctionEnv scope globals cl [] qual none .none (some env)) Q E s:=by
 simp only [newFunctionEnv,Option.isSome_some,if_true]
 refine wpAny_bind (wpAny_alloc ?_)
 refine wpAny_bind (wpAny_layCells _ (fun name kind cells=>by cases hkc:kind == NameKind.cell <;> simp [hkc]) _ _ _ _ ?_)
 rw [show ({ s with heap:=s.heap.push { cls:=.type "dict",data:=.dict #[] } }:Shared).heap.objs.size = s.heap.objs.size + 1 from Heap.size_push ..]
 simp only [List.forIn_nil]
 exact wpAny_bind (wpAny_pure (wpAny_pure h))
end
noncomputable def putDt (dt:List Loc) (k:Nat) (ls:List Loc):List Loc:=dt.take k ++ ls ++ dt.drop (k + ls.length)
theorem putDt_len {dt:List Loc} {k:Nat} {ls:List Loc} (h:k + ls.length ≤ dt.length):(putDt dt k ls).length = dt.length:=by
 unfold putDt;simp only [List.length_append,List.length_append,List.length_take,List.length_drop,Nat.min_eq_left (Nat.le_trans (Nat.le_add_right _ _) h),Nat.add_sub_cancel' h]
theorem putDt_lt {dt:List Loc} {k:Nat} {ls:List Loc} (h:k + ls.length ≤ dt.length) {i:Nat} (hi:i < k):(putDt dt k ls)[i]? = dt[i]?:=by
 unfold putDt
 rw [List.append_assoc,List.getElem?_append_left (by simp only [List.length_take];lia),List.getElem?_take_of_lt hi]
theorem putDt_mid {dt:List Loc} {k:Nat} {ls:List Loc} (h:k + ls.length ≤ dt.length) {j:Nat} (hj:j < ls.length):(putDt dt k ls)[k + j]? = ls[j]?:=by
 unfold putDt
 have hl:(dt.take k).length = k:=by rw [List.length_take];lia
 rw [List.append_assoc,List.getElem?_append_right (by lia),hl,show k + j - k = j by lia,List.getElem?_append_left hj]
theorem putDt_ge {dt:List Loc} {k:Nat} {ls:List Loc} (h:k + ls.length ≤ dt.length) {i:Nat} (hi:k + ls.length ≤ i):(putDt dt k ls)[i]? = dt[i]?:=by
 unfold putDt
 have hl:(dt.take k).length = k:=by rw [List.length_take];lia
 rw [List.append_assoc,List.getElem?_append_right (by lia),hl,List.getElem?_append_right (by lia),List.getElem?_drop]
 congr 1;lia
theorem putDt_cases {dt:List Loc} {k:Nat} {ls:List Loc} (h:k + ls.length ≤ dt.length) {i:Nat} {l:Loc} (e:(putDt dt k ls)[i]? = some l):(dt[i]? = some l ∧ (i < k ∨ k + ls.length ≤ i)) ∨ ∃ j,j < ls.length ∧ i = k + j ∧ ls[j]? = some l:=by
 by_cases h1:i < k
 ·rw [putDt_lt h h1] at e;exact .inl ⟨e,.inl h1⟩
 ·by_cases h2:k + ls.length ≤ i
  ·rw [putDt_ge h h2] at e;exact .inl ⟨e,.inr h2⟩
  ·refine .inr ⟨i - k,by omega,by omega,?_⟩
   rw [show i = k + (i - k) by omega,putDt_mid h (by omega)] at e;exact e
theorem Loc.apart_of {a b:Loc} (h:∀ x y,a.addr? = some x→b.addr? = some y→x ≠ y):a.apart b:=by
 cases a <;> cases b <;> first | exact trivial | exact fun e=>(h _ _ rfl rfl e).elim | exact h _ _ rfl rfl
section
variable {I:LexI} {B:Addr→Option Obj} {os:OsState} {R R':RS} {st st':St} {s s':Shared}
theorem Rel.enter (r:Rel I B os R st s) {k:Nat} {ls:List Loc} {h':Heap} {tk:Nat} (hno:∀ i,k ≤ i→i < R.dt.length→R.dt[i]? = some .no) (hk:k + ls.length ≤ R.dt.length) (hh:∀ b o,s.heap.get? b = some o→h'.get? b = some o)
  (hok:∀ l ∈ ls,l.ok h') (hnew:∀ l ∈ ls,∀ a,l.addr? = some a→s.heap.get? a = none) (hap:∀ (i j:Nat) (l l':Loc),i ≠ j→ls[i]? = some l→ls[j]? = some l'→l.apart l') :
  Rel I B os { R with dt:=putDt R.dt k ls } st { s with heap:=h',toks:=tk }:=by
 have r1:=(r.keeps (tk:=tk) hh).1
 have mem:∀ {i:Nat} {l:Loc},ls[i]? = some l→l ∈ ls:=fun e=>List.mem_of_getElem? e
 have na:∀ {b:Addr},(∃ o,s.heap.get? b = some o)→∀ {l:Loc},l ∈ ls→l.addr? ≠ some b:=fun e l hl q=>ne_none e (hnew l hl _ q)
 refine { r1 with len:=by simp only [putDt_len hk];exact r1.len,var:=fun i v e=>(r1.var i v e).mono (fun l val h1 h2=>⟨?_,h2⟩) (fun _ h=>h) (fun _ _ h=>h) fun _ _=>rfl,loc:=fun i l e=>(putDt_cases hk e).elim (fun e=>r1.loc i l e.1) fun ⟨j,_,_,e⟩=>hok l (mem e),locf:=fun i l a e ea=>(putDt_cases hk e).elim (fun e=>r1.locf i l a e.1 ea) fun ⟨j,_,_,e⟩=>⟨fun z=>na (r.zal a (.inl z)) (mem e) ea,fun z=>na (r.zal a (.inr z)) (mem e) ea,fun q=>na (I.talive r.tab) (mem e) (q ▸ ea)⟩,apart:=fun i j l l' hij e e'=>?_,fp:=fun n f b o e al ef hb=>?_ }
 ·by_cases hi:i < k
  ·exact (putDt_lt hk hi).trans h1
  ·rw [hno i (Nat.le_of_not_lt hi) (List.getElem?_eq_some_iff.mp h1).1] at h1;obtain rfl:=Option.some.inj h1;exact h2.elim
 ·rcases putDt_cases hk e with ⟨e,h1⟩ | ⟨p,p1,p2,e⟩ <;> rcases putDt_cases hk e' with ⟨e',h2⟩ | ⟨q,q1,q2,e'⟩
  ·exact r1.apart i j l l' hij e e'
  ·exact Loc.apart_of fun x y hx hy q=>na (Loc.alive (r.loc i l e) hx) (mem e') (q ▸ hy)
  ·exact Loc.apart_of fun x y hx hy q=>na (Loc.alive (r.loc j l' e') hy) (mem e) (q ▸ hx)
  ·exact hap p q l l' (fun h=>hij (by simp only [p2,q2,h])) e e'
 ·have q:=r1.fp n f b o e al ef hb
  exact ⟨q.1,q.2.1,q.2.2.1,fun i l e'=>(putDt_cases hk e').elim (fun e'=>q.2.2.2 i l e'.1) fun ⟨j,_,_,e'⟩=>na (r.dead n f b ef hb) (mem e')⟩
structure Clrd (is:List Nat) (st st':St):Prop where
 mu:st'.mu = st.mu
 len:st'.vars.length = st.vars.length
 var:∀ i v,st'.vars[i]? = some (some v)→st.vars[i]? = some (some v) ∧ i ∉ is
theorem clr_foldl (is:List Nat):∀ (st:St),Clrd is st (is.foldl St.clr st):=by
 induction is with
 | nil=>intro st;exact ⟨rfl,rfl,fun i v h=>⟨h,List.not_mem_nil⟩⟩
 | cons j is ih =>
  intro st
  have c:=ih (st.clr j)
  refine ⟨c.mu,c.len.trans List.length_set,fun i v h=>?_⟩
  have h4:(st.vars.set j none)[i]? = some (some v):=(c.var i v h).1
  by_cases q:j = i
  ·subst q
   rw [List.getElem?_set_self'] at h4
   cases h6:st.vars[j]? with
   | none=>rw [h6] at h4;exact nso h4
   | some w=>rw [h6] at h4;cases h4
  ·rw [List.getElem?_set_ne q] at h4
   exact ⟨h4,fun hm=>(List.mem_cons.mp hm).elim (fun e=>q e.symm) (c.var i v h).2⟩
theorem Rel.leave {dt:List Loc} {k:Nat} {ls:List Loc} (r:Rel I B os { R with dt:=putDt dt k ls } st s) (hno:∀ i,k ≤ i→i < dt.length→dt[i]? = some .no) (hk:k + ls.length ≤ dt.length) :
  Rel I B os { R with dt:=dt } (((List.range ls.length).map (k + ·)).foldl St.clr st) s:=by
 have c:=clr_foldl ((List.range ls.length).map (k + ·)) st
 have back:∀ {i:Nat} {l:Loc},dt[i]? = some l→l = .no ∨ (putDt dt k ls)[i]? = some l:=fun {i l} e=>by
  by_cases hi:i < k
  ·exact .inr ((putDt_lt hk hi).trans e)
  ·rw [hno i (Nat.le_of_not_lt hi) (List.getElem?_eq_some_iff.mp e).1] at e;obtain rfl:=Option.some.inj e;exact .inl rfl
 refine { r with len:=by simp only [c.len,r.len];exact putDt_len hk,var:=fun i v e=>(r.var i v (c.var i v e).1).mono (fun l val h3 h4=>⟨?_,h4⟩) (fun _ h=>h) (fun _ _ h=>h) fun _ _=>rfl,loc:=fun i l e=>(back e).elim (fun e=>by subst e;trivial) fun e=>r.loc i l e,locf:=fun i l a e ea=>(back e).elim (fun e=>by subst e;exact nso ea) fun e=>r.locf i l a e ea,apart:=fun i j l l' hij e e'=>(back e).elim (fun e=>by subst e;exact trivial) fun e=>(back e').elim (fun e'=>by subst e';cases l <;> exact trivial) fun e'=>r.apart i j l l' hij e e',mulen:=by simp only [c.mu];exact r.mulen,muo:=by rw [c.mu];exact r.muo,fp:=fun n f b o e al ef hb=>?_,fpa:=by rw [c.mu];exact r.fpa }
 ·exact (putDt_cases hk h3).elim (·.1) fun ⟨j,j1,j2,_⟩=>((c.var i v e).2 (by rw [j2];exact List.mem_map.mpr ⟨j,List.mem_range.mpr j1,rfl⟩)).elim
 ·rw [c.mu] at e
  have q:=r.fp n f b o e al ef hb
  exact ⟨q.1,q.2.1,q.2.2.1,fun i l e' z=>(back e').elim (fun e'=>by subst e';exact nso z) fun e'=>q.2.2.2 i l e' z⟩
theorem StepX.withDt {X:Addr→Prop} {gs:Nat→Prop} (a:StepX X gs R s R' s') (dt:List Loc):StepX X gs { R with dt:=dt } s { R' with dt:=dt } s':=⟨rfl,a.P,a.Z,a.mu,a.own,a.keep,a.alive,a.gens⟩
theorem Rel.addZ (r:Rel I B os R st s) {D:Addr} (a:ApartFp I [D] R) (al:∃ o,s.heap.get? D = some o):Rel I B os (R.add D) st s:=by
 have q:=a D (.head _)
 have hZ:∀ b,R.Z b→(R.add D).Z b:=fun b h=>.inl h
 exact ⟨fun b o e=>⟨hZ b (r.base b o e).1,(r.base b o e).2⟩,fun b h=>h.elim (fun h=>h.elim (fun h=>r.zal b (.inl h)) fun h=>h ▸ al) fun h=>r.zal b (.inr h),r.len,fun i v e=>(r.var i v e).mono (fun _ _ h1 h2=>⟨h1,h2⟩) hZ (fun _ _ e=>e) fun _ _=>rfl,r.loc,
  fun i l b e eb=>⟨fun z=>z.elim (r.locf i l b e eb).1 fun z=>q.2.2.2.1 i l e (z ▸ eb),(r.locf i l b e eb).2⟩,r.apart,r.mulen,fun n o e=>r.muo' e hZ (fun _ _ e=>e) (fun _ _=>rfl) fun _ _ _ _ _=>rfl,
  fun n f b o e al ef hb=>⟨fun z=>z.elim (r.fp n f b o e al ef hb).1 fun z=>q.2.2.1 n f ef (z ▸ hb),(r.fp n f b o e al ef hb).2⟩,r.fpa,r.dead,
  ⟨fun z=>z.elim r.tbf.1 fun z=>q.2.2.2.2 z.symm,r.tbf.2⟩,I.tmono hZ (fun _ _=>rfl) r.tab,r.bare,r.os⟩
theorem Step.addZ {D:Addr} (a:Step R s R' s') (hD:s.heap.get? D = none):Step R s (R'.add D) s' :=
 ⟨a.dt,a.P,fun b z=>.inl (a.Z b z),a.mu,fun b h=>by
  rcases h with (h | h) | h
  ·exact a.own b (.inl h)
  ·exact .inr (.inr (h ▸ hD))
  ·exact a.own b (.inr h),a.keep,a.alive,a.gens⟩
end
noncomputable def locOf (names:List (Str × NameKind)) (C:Addr) (cells:List (Str × Addr)) (n:Str):Loc :=
 match names.lookup n with
 | some .cell=>match cells.lookup n with
  | some c=>.cell c
  | none=>.no
 | _=>.ns C n
theorem nodup_lookup:∀ {names:List (Str × NameKind)} {n:Str} {k:NameKind},nodup (names.map (·.1)) = true→(n,k) ∈ names→names.lookup n = some k
 | (m,kd) :: r,n,k,h,hm=>by
  simp only [List.map_cons,nodup,Bool.and_eq_true,Bool.not_eq_true'] at h
  simp only [List.lookup_cons]
  refine Or.elim (List.mem_cons.mp hm) (fun e=>?_) (fun hm=>?_)
  ·cases e;simp
  ·have:(n == m) = false:=by
    have h1:=h.1
    rw [List.any_eq_false] at h1
    have:=h1 n (List.mem_map.mpr ⟨(n,k),hm,rfl⟩)
    simpa using this
   simp only [this];exact nodup_lookup h.2 hm
theorem own_mem:∀ {names:List (Str × NameKind)} {n:Str},n ∈ own names→∃ k,(n,k) ∈ names ∧ (k = .local ∨ k = .cell)
 | [],n,h=>by cases h
 | (m,kd) :: r,n,h=>by
  cases kd with
  | «local» =>
   rcases List.mem_cons.mp h with rfl | h
   ·exact ⟨_,.head _,.inl rfl⟩
   ·obtain ⟨k,h1,h2⟩:=own_mem (names:=r) h;exact ⟨k,.tail _ h1,h2⟩
  | cell =>
   rcases List.mem_cons.mp h with rfl | h
   ·exact ⟨_,.head _,.inr rfl⟩
   ·obtain ⟨k,h1,h2⟩:=own_mem (names:=r) h;exact ⟨k,.tail _ h1,h2⟩
  | _=>obtain ⟨k,h1,h2⟩:=own_mem (names:=r) h;exact ⟨k,.tail _ h1,h2⟩
theorem cells_mem:∀ {names:List (Str × NameKind)} {n:Str},n ∈ cellsN names ↔ (n,.cell) ∈ names
 | [],n=>by simp [cellsN]
 | (m,kd) :: r,n=>by cases kd <;> simp [cellsN,cells_mem (names:=r)]
theorem frees_mem:∀ {names:List (Str × NameKind)} {n:Str},n ∈ frees names ↔ (n,.free) ∈ names
 | [],n=>by simp [frees]
 | (m,kd) :: r,n=>by cases kd <;> simp [frees,frees_mem (names:=r)]
theorem lookup_mem:∀ {names:List (Str × NameKind)} {n:Str} {k:NameKind},names.lookup n = some k→(n,k) ∈ names
 | (m,kd) :: r,n,k,h=>by
  rw [List.lookup_cons] at h
  cases e:n == m with
  | true=>rw [e] at h;obtain rfl:=Option.some.inj h;rw [eq_of_beq e];exact .head _
  | false=>rw [e] at h;exact .tail _ (lookup_mem h)
set_option tactic.hygienic true in
theorem idx_get:∀ {l:List Str} {x:Str} {i:Nat},idx l x = some i→l[i]? = some x
 | y :: r,x,i,h=>by
  unfold idx at h
  split at h
  ·rename_i e;obtain rfl:=Option.some.inj h;rw [eq_of_beq e];rfl
  ·obtain ⟨j,h1,rfl⟩:=Option.map_eq_some_iff.mp h
   exact idx_get (l:=r) h1
theorem own_nodup:∀ {names:List (Str × NameKind)},nodup (names.map (·.1)) = true→nodup (own names) = true
 | [],_=>rfl
 | (m,kd) :: r,h=>by
  simp only [List.map_cons,nodup,Bool.and_eq_true,Bool.not_eq_true'] at h
  have ih:=own_nodup h.2
  have hm:(own r).any (· == m) = false:=by
   rw [List.any_eq_false]
   intro x hx
   refine Classical.byContradiction fun hcon=>?_
   refine (own_mem hx).elim fun k k0=>k0.elim fun h1 _=>?_
   refine hcon ?_
   have:=List.any_eq_false.mp h.1 x (List.mem_map.mpr ⟨(x,k),h1,rfl⟩)
   exact this
  cases kd with
  | «local»=>simp [own,nodup,hm,ih]
  | cell=>simp [own,nodup,hm,ih]
  | _=>exact ih
theorem nodup_get:∀ {l:List Str} {i j:Nat} {x:Str},nodup l = true→l[i]? = some x→l[j]? = some x→i = j
 | y :: r,0,0,_,_,_,_=>rfl
 | y :: r,i + 1,j + 1,x,h,h1,h2=>by
  simp only [nodup,Bool.and_eq_true] at h
  exact congrArg (· + 1) (nodup_get h.2 (by simpa using h1) (by simpa using h2))
 | y :: r,0,j + 1,x,h,h1,h2=>by
  simp only [nodup,Bool.and_eq_true,Bool.not_eq_true'] at h
  simp only [List.getElem?_cons_zero,Option.some.injEq] at h1;subst h1
  have:=List.any_eq_false.mp h.1 y (List.mem_of_getElem? (by simpa using h2))
  simp at this
 | y :: r,i + 1,0,x,h,h1,h2=>by
  simp only [nodup,Bool.and_eq_true,Bool.not_eq_true'] at h
  simp only [List.getElem?_cons_zero,Option.some.injEq] at h2;subst h2
  have:=List.any_eq_false.mp h.1 y (List.mem_of_getElem? (by simpa using h1))
  simp at this
theorem relab_lookup (out:List (Str × NameKind)):∀ (names:List (Str × NameKind)) (x:Str),(relab out names).lookup x = (names.lookup x).map fun k=>if (k == .free && out.lookup x == some .cell) then .cell else k
 | [],x=>rfl
 | (m,kd) :: r,x=>by
  have ih:=relab_lookup out r x
  have hm:relab out ((m,kd) :: r) = (m,if (kd == .free && out.lookup m == some .cell) then .cell else kd) :: relab out r:=by
   unfold relab
   simp only [List.map_cons]
   congr 1
   show (if (kd == .free && out.lookup m == some .cell) = true then (m,NameKind.cell) else (m,kd)) = _
   split <;> rfl
  simp only [hm,List.lookup_cons,List.lookup_cons]
  cases e:x == m with
  | true =>
   have:=eq_of_beq e;subst this
   rfl
  | false=>exact ih
section
variable {prog:Program} {w:World} {W:Wd prog w} {cx cx':Cx} {A:Around} {E:Value→Shared→Prop} {env:Env} {R R':RS} {st st':St} {s s':Shared}
noncomputable def genF (C:Con) (t:Tg) (ifs rest:X):V→St→Option (List V × St):=fun v st=>(setTg st t v).bind fun st=>oS (ev C ifs st) fun c st=>oT (truth (st.see c)) (oSL (ev C rest st) fun vs st=>some (vs,st)) (some ([],st))
theorem tests_ok {f:Expr→Option X} (hf:∀ e x,f e = some x→Snd W cx e x) {ifs:List Expr} {i:X} (hi:cIfs f ifs = some i) (ga:GA W.lev A) (eo:EnvOk cx env R.dt) (r:Rel W.I W.B W.os R st s) {c:V} (he:ev W.C i st = some (c,st')) {b:Bool} (hb:truth (st'.see c) = some b)
  {Q:Bool→Shared→Prop} (h:PostB W.I W.B W.os R s st' b Q):wpAny (model prog w) A (testsOf ifs env) Q E s:=by
 cases ifs with
 | nil =>
  refine Classical.byContradiction fun hcon=>?_
  obtain rfl:=Option.some.inj hi
  cases he
  obtain rfl:=Option.some.inj hb
  refine hcon ?_
  exact wpAny_tests_nil (h R s (.refl _ _) r)
 | cons e l =>
  refine oG hi fun hl hi=>?_
  cases nil_of hl
  exact wpAny_tests_one ((hf _ _ hi).tru ga eo r (evT_mk he hb) h _ (.inr rfl))
theorem append_ok (r:Rel W.I W.B W.os R st s) {D:Addr} (aD:ApartFp W.I [D] R) {its:List Value} {n:Nat} {ws:List V} (hl:s.heap.get? D = some (listO its n)) (hw:VRs R.Z R.mu s.heap ws its) {v:V} {val:Value} (hv:VR R.Z R.mu s.heap v val) (hlen:ws.length ≤ 16777216)
  {Q:Value→Shared→Prop} (h:∀ s' its' n',StepX (· = D) (fun _=>False) R s R s'→Rel W.I W.B W.os R st s'→s'.heap.get? D = some (listO its' n')→VRs R.Z R.mu s'.heap (ws ++ [v]) its'→Q .none s') :
  wpAny (model prog w) A (call (.builtin "list.append") [.ref D,val]) Q E s:=by
 refine wpAny_list_append_plain (items:=its.toArray) ⟨n,hl⟩ (fun h' hp hs=>?_) (by simp only [List.size_toArray,hw.length];exact limL hlen)
 refine (hp).elim fun n' hp=>?_
 refine (r.loose (gs:=fun _=>False) aD (h':=h') (tk:=s.toks) (fun b o hb e=>(hs.2 b (fun q=>hb (by simp [q]))).trans e)).elim fun r1 s1=>?_
 have e:(its.toArray.push val) = (its ++ [val]).toArray:=by simp
 rw [e] at hp
 refine h _ (its ++ [val]) n' (s1.weaken fun c hc=>List.mem_singleton.mp hc) r1 hp ?_
 exact (hw.append (.cons hv .nil)).mono (fun _ z=>z) (fun _ _ e=>e) fun b z=>s1.keep b (.inl z)
theorem body_of {f:Expr→Option X} (hf:∀ e x,f e = some x→Snd W cx e x) {tg:Expr} {t:Tg} {ifs:List Expr} {i y:X} {c:Code} {D:Addr} {dt:List Loc} {rest:Sem Fin} (ht:cT cx tg = some t) (hi:cIfs f ifs = some i) (ga:GA W.lev A) (eo:EnvOk cx env dt)
  (hr:∀ {R:RS} {s:Shared} {vs:List V} {its:List Value} {n:Nat} {ws:List V} {K:Shared→Prop} {E:Value→Shared→Prop} {R₂:RS} {st₂ st':St} {s₂:Shared},EnvOk cx env R₂.dt→ApartFp W.I [D] R→s.heap.get? D = some (listO its n)→VRs R.Z R.mu s.heap ws its→(ws ++ vs).length ≤ 16777216 →
   Step (R.prot [D]) s R₂ s₂→Rel W.I W.B W.os R₂ st₂ s₂→ev W.C y st₂ = some (.list vs,st')→Unp W.I W.B W.os R s [D] R₂ st₂ s₂ →
   (∀ R' s' its' n',StepX (· = D) (fun _=>False) R s R' s'→Rel W.I W.B W.os R' st' s'→ApartFp W.I [D] R'→s'.heap.get? D = some (listO its' n')→VRs R'.Z R'.mu s'.heap (ws ++ vs) its'→K s')→RestOk prog w A rest c E s₂ K) :
  BodyOk W A env dt tg ifs rest c D (genF W.C t i y):=by
 intro v val R st st' s vs its n ws K E hdt r hv hf' aD hl hw hlen h
 have al:∀ b ∈ [D],∃ o,s.heap.get? b = some o:=fun b hb=>⟨_,List.mem_singleton.mp hb ▸ hl⟩
 have eop:EnvOk cx env (R.prot [D]).dt:=by show EnvOk cx env R.dt;simp only [hdt];exact eo
 refine oB hf' fun st₁ e1 hf'=>oS_el hf' fun b st₂ e2 hf'=>tg_ok ga.1 (r.prot aD al) eop ht hv e1 fun R₁ s₁ a₁ r₁=>oT_el hf' (fun e3 hf'=>oSL_el hf' fun vs' st₃ e4 hf'=>?_) fun e3 hf'=>?_
 ·cases hf'
  exact tests_ok hf hi ga (eop.step a₁) r₁ e2 e3 fun R₂ s₂ a₂ r₂=>hr (eop.step (a₁.trans a₂)) aD hl hw hlen (a₁.trans a₂) r₂ e4 ((a₁.trans a₂).unprot r₂ aD al) h
 ·cases hf'
  refine tests_ok hf hi ga (eop.step a₁) r₁ e2 e3 fun R₂ s₂ a₂ r₂=>?_
  have u:=(a₁.trans a₂).unprot r₂ aD al
  exact h _ s₂ its n u.a.toX u.r u.ap ((u.hp D (.head _)).trans hl) (by simp only [List.append_nil];exact u.a.vrs hw)
theorem body_emit {f:Expr→Option X} (hf:∀ e x,f e = some x→Snd W cx e x) {tg elt:Expr} {t:Tg} {ifs:List Expr} {i x:X} {c:Code} {D:Addr} {dt:List Loc} (ht:cT cx tg = some t) (hi:cIfs f ifs = some i) (hx:f elt = some x) (ga:GA W.lev A) (eo:EnvOk cx env dt) :
  BodyOk W A env dt tg ifs (emitOf elt (.ref D) env >>= fun _=>again c) c D (genF W.C t i (.emit x)) :=
 body_of (y:=.emit x) hf ht hi ga eo fun {R s vs its n ws K E R₂ st₂ st' s₂} eo₂ aD hl hw hlen a₂ r₂ e4 _ h=>oS_el e4 fun u st₄ e5 e4=>by
  cases e4
  have al:∀ b ∈ [D],∃ o,s.heap.get? b = some o:=fun b hb=>⟨_,List.mem_singleton.mp hb ▸ hl⟩
  delta RestOk emitOf
  refine wpAny_bind (wpAny_bind ((hf _ _ hx).val ga eo₂ r₂ e5 fun R₃ s₃ w3 a₃ r₃ v₃=>wpAny_bind ?_))
  have q:=(a₂.trans a₃).unprot r₃ aD al
  exact append_ok (D:=D) q.r q.ap ((q.hp D (.head _)).trans hl) (q.a.vrs hw) v₃ (Nat.le_trans (by simp only [List.length_append];exact Nat.le_add_right _ _) hlen) fun s₅ its' n' a₅ r₅ e₅ v₅=>wpAny_pure (wpAny_pure ⟨rfl,h _ s₅ its' n' (StepX.trans q.a a₅) r₅ q.ap e₅ v₅⟩)
noncomputable def LoopSnd (W:Wd prog w) (cx:Cx) (e:Expr) (d:Nat) (tg:Expr) (f:V→St→Option (List V × St)):Prop :=
 ∀ {A:Around} {cenv:Env} {R:RS} {st st':St} {s:Shared} {l:List V} {fp:List Addr} {J:Nat→RS→Shared→Prop} {D:Addr} {vs:List V} {its:List Value} {n:Nat} {ws:List V} {RR:Result→Shared→Prop} {itv:Value},GA W.lev A→EnvOk cx cenv R.dt →
  Wk W A tg itv l fp (fun _=>False) J→J 0 R s→Rel W.I W.B W.os R st s→ApartFp W.I fp R→ApartFp W.I [D] R→D ∉ fp→s.heap.get? D = some (listO its n)→VRs R.Z R.mu s.heap ws its→turns f l st = some (vs,st')→(ws ++ vs).length ≤ 16777216 →
  (∀ R' s' its' n',StepX (fun b=>b ∈ fp ∨ b = D) (fun _=>False) R s R' s'→Rel W.I W.B W.os R' st' s'→ApartFp W.I [D] R'→s'.heap.get? D = some (listO its' n')→VRs R'.Z R'.mu s'.heap (ws ++ vs) its'→RR (.ok .next) s') →
  codeAny (model prog w) A (.compLoop e d itv (.ref D) cenv) RR s
theorem loop_one {f:Expr→Option X} (hf:∀ e x,f e = some x→Snd W cx e x) {tg elt iter:Expr} {t:Tg} {ifs:List Expr} {i x:X} {sc:Scope} {pos:Pos} (ht:cT cx tg = some t) (hi:cIfs f ifs = some i) (hx:f elt = some x) :
  LoopSnd W cx (.ListComp elt [⟨tg,iter,ifs,0⟩] sc pos) 0 tg (genF W.C t i (.emit x)):=by
 intro A cenv R st st' s l fp J D vs its n ws RR itv ga eo K j r ap aD hD hl hw htu hlen h
 exact comp_walk (turn_one elt tg iter ifs sc pos itv (.ref D) cenv) K (body_emit hf ht hi hx ga eo) rfl j r ap aD hD hl hw htu hlen h
theorem loop_two1 {f:Expr→Option X} (hf:∀ e x,f e = some x→Snd W cx e x) {tg elt iter tg' iter':Expr} {t:Tg} {ifs ifs':List Expr} {i x:X} {sc:Scope} {pos:Pos} (ht:cT cx tg' = some t) (hi:cIfs f ifs' = some i) (hx:f elt = some x) :
  LoopSnd W cx (.ListComp elt [⟨tg,iter,ifs,0⟩,⟨tg',iter',ifs',0⟩] sc pos) 1 tg' (genF W.C t i (.emit x)):=by
 intro A cenv R st st' s l fp J D vs its n ws RR itv ga eo K j r ap aD hD hl hw htu hlen h
 exact comp_walk (turn_two1 elt tg iter tg' iter' ifs ifs' sc pos itv (.ref D) cenv) K (body_emit hf ht hi hx ga eo) rfl j r ap aD hD hl hw htu hlen h
theorem compStart_go {elt:Expr} {gens:List Comprehension} {sc:Scope} {pos:Pos} {d:Nat} {g:Comprehension} {it acc:Value} {RR:Result→Shared→Prop} (hg:gens[d]? = some g) (ha:g.is_async = 0)
  (h0:codeAny (model prog w) A (.compLoop (.ListComp elt gens sc pos) d it acc env) RR s)
  (h:∀ E,wpAny (model prog w) A (pyIter it) (fun it' s'=>codeAny (model prog w) A (.compLoop (.ListComp elt gens sc pos) d it' acc env) RR s') E s) :
  codeAny (model prog w) A (.compStart (.ListComp elt gens sc pos) d it acc env) RR s:=by
 refine codeAny_of_tree ?_
 show wpAny _ _ ((compStart (.ListComp elt gens sc pos) d it acc env).onRaise (fun x=>do noteFrame x env;standAt theWindowsPlace)) _ _ s
 refine wpAny_notedAt ?_
 unfold compStart
 have hc:(clausesOf (.ListComp elt gens sc pos))[d]? = some g:=hg
 simp only [hc,Option.elim_some,ha,bne_self_eq_false,Bool.false_eq_true,if_false]
 refine wpAny_bind (wpAny_askSetting (wpAny_ite ?_))
 split
 ·first
   | exact wpAny_bind (wpAny_pure (wpAny_pure (And.intro rfl h0)))
   | exact wpAny_pure (And.intro rfl h0)
 ·exact wpAny_bind (wpAny_rule (wpAny_bind (wpAny_standAt (wpAny_bind (wpAny_mono (h _) (fun it' s' h'=>wpAny_pure (And.intro rfl h')) fun _ _ x=>x)))))
theorem folded_plain {e:Expr} (h:notSet e = true) (x:Value):foldedSetIterable e env x = pure x:=by
 cases e <;> first | rfl | exact nso h | exact fat h | cases h
theorem body_inner {f:Expr→Option X} (hf:∀ e x,f e = some x→Snd W cx e x) {tg elt iter tg' iter':Expr} {t:Tg} {ifs ifs':List Expr} {i it':X} {sc:Scope} {pos:Pos} {c:Code} {D:Addr} {dt:List Loc} {t':Tg} {i' x:X}
  (ht:cT cx tg = some t) (hi:cIfs f ifs = some i) (hI:SndI W cx tg' iter' it') (hns:notSet iter' = true)
  (hL:LoopSnd W cx (.ListComp elt [⟨tg,iter,ifs,0⟩,⟨tg',iter',ifs',0⟩] sc pos) 1 tg' (genF W.C t' i' (.emit x))) (ga:GA W.lev A) (eo:EnvOk cx env dt) :
  BodyOk W A env dt tg ifs (innerOf (.ListComp elt [⟨tg,iter,ifs,0⟩,⟨tg',iter',ifs',0⟩] sc pos) (.ref D) env iter' (again c)) c D (genF W.C t i (.gen it' t' i' (.emit x))):=by
 refine body_of (y:=.gen it' t' i' (.emit x)) hf ht hi ga eo fun {R s vs its n ws K E R₂ st₂ st' s₂} eo₂ aD hl hw hlen a12 r₂ e4 _ h=>oS_el e4 fun xv st₄ e5 e4=>oB e4 fun l e6 e4=>(oI e4).elim fun q e7=>?_
 refine Classical.byContradiction fun hcon=>?_
 obtain ⟨vs₀,st₀⟩:=q
 have e8:=e7.1
 cases e7.2
 refine hcon ?_
 have al:∀ b ∈ [D],∃ o,s.heap.get? b = some o:=fun b hb=>⟨_,List.mem_singleton.mp hb ▸ hl⟩
 delta RestOk innerOf
 refine wpAny_bind (wpAny_mono (hI ga eo₂ r₂ e5 e6 (E:=E) (Q:=fun itv s₃=>wpAny (model prog w) A (do
  let _ ← runOwn (.compStart (.ListComp elt [⟨tg,iter,ifs,0⟩,⟨tg',iter',ifs',0⟩] sc pos) 1 itv (.ref D) env) env
  again c) (fun fin s'=>fin = .again c ∧ K s') E s₃) fun R₃ s₃ itv fp J a₃ r₃ Kw j₃ hnew ap₃=>?_) (fun xv s₃ h₃=>?_) fun _ _ x=>x)
 ·have a13:=a12.trans a₃
  have u:=a13.unprot r₃ aD al
  have e₄:s₃.heap.get? D = some (listO its n):=(u.hp D (.head _)).trans hl
  have hDfp:D ∉ fp:=fun q=>by
   have h1:s₂.heap.get? D = some (listO its n):=(a12.keep D (.inr (.inr (.head _)))).trans hl
   rw [hnew D q] at h1;exact nso h1
  have fin:codeAny (model prog w) A (.compLoop (.ListComp elt [⟨tg,iter,ifs,0⟩,⟨tg',iter',ifs',0⟩] sc pos) 1 itv (.ref D) env) (fun r s'=>match r with | .ok f=>wpAny (model prog w) A (again c:Sem Fin) (fun fin s'=>fin = .again c ∧ K s') E s' | .error e=>cameBackBy (model prog w) A env E e s') s₃ :=
   hL (R:={ R₃ with P:=R.P }) ga (show EnvOk cx env R₃.dt from eo₂.step a₃) Kw (Kw.frame j₃ (fun _ z=>z) (fun _ _ e=>e) (fun _ _=>rfl) (fun _ _ e=>e)) u.r (ap₃.lessP fun b hb=>by simp only [a13.P];exact .inl hb) u.ap hDfp e₄ (u.a.vrs hw) e8 hlen fun R₅ s₅ its' n' a₅ r₅ aD₅ e₅ v₅=>wpAny_pure ⟨rfl,
    h R₅ s₅ its' n' (StepX.transX (X:=fun b=>b = D) (gs:=fun _=>False) u.a.toX a₅ (fun c hc _=>hc ▸ ⟨_,e₄⟩) fun c hc=>hc.elim (fun hc=>.inr (none_back a12.alive (hnew c hc))) .inl) r₅ aD₅ e₅ v₅⟩
  refine wpAny_bind (wpAny_runOwn (h:=none) ?_)
  simp only [show A.mark none = A from rfl]
  exact compStart_go (g:=⟨tg',iter',ifs',0⟩) rfl rfl fin fun E'=>Kw.self j₃ fin
 ·exact wpAny_bind (wpAny_standAt (wpAny_bind (wpAny_of_eq (folded_plain hns xv) (wpAny_bind (wpAny_holding h₃)))))
theorem loop_two0 {f:Expr→Option X} (hf:∀ e x,f e = some x→Snd W cx e x) {tg elt iter tg' iter':Expr} {t t':Tg} {ifs ifs':List Expr} {i i' x it':X} {sc:Scope} {pos:Pos} (ht:cT cx tg = some t) (hi:cIfs f ifs = some i) (hI:SndI W cx tg' iter' it') (hns:notSet iter' = true)
  (ht':cT cx tg' = some t') (hi':cIfs f ifs' = some i') (hx:f elt = some x) :
  LoopSnd W cx (.ListComp elt [⟨tg,iter,ifs,0⟩,⟨tg',iter',ifs',0⟩] sc pos) 0 tg (genF W.C t i (.gen it' t' i' (.emit x))):=by
 intro A cenv R st st' s l fp J D vs its n ws RR itv ga eo K j r ap aD hD hl hw htu hlen h
 exact comp_walk (turn_two0 elt tg iter tg' iter' ifs ifs' sc pos itv (.ref D) cenv) K (body_inner hf ht hi hI hns (loop_two1 hf ht' hi' hx) ga eo) rfl j r ap aD hD hl hw htu hlen h
end
section
variable {prog:Program} {w:World} {W:Wd prog w} {cx cx':Cx} {A:Around} {E:Value→Shared→Prop} {env:Env} {R R':RS} {st st':St} {s s':Shared}
noncomputable abbrev cEnv (sc:Scope) (env:Env) (C:Addr):Env :=
 { scope:=relabel sc env,locals:=C,globals:=env.globals,cells:=cellsFrom (C + 1) sc.names (clOf env sc.names []),qual:=env.qual,func:=none,code:=env.code,frame:=env.frame,builtins:=env.builtins }
noncomputable abbrev cLocs (sc:Scope) (env:Env) (C:Addr):List Loc:=(own sc.names).map (locOf sc.names C (cellsFrom (C + 1) sc.names (clOf env sc.names [])))
structure SubOk (cx cx':Cx) (sc:Scope):Prop where
 kind:sc.kind = .function
 nd:nodup (sc.names.map (·.1)) = true
 dot:sc.names.lookup (".0":Str) = some .local
 fits:cx.next + (own sc.names).length ≤ cx.size
 fr:∀ n ∈ frees sc.names,(cx.names.lookup n = some .cell ∨ cx.names.lookup n = some .free) ∧ (cx.slot n).isSome = true
 names:cx'.names = relab cx.names sc.names
 next:cx'.next = cx.next + (own sc.names).length
 size:cx'.size = cx.size
 slot:∀ x,cx'.slot x = match sc.names.lookup x with | some .free=>cx.slot x | some .local | some .cell=>(idx (own sc.names) x).map (cx.next + ·) | _=>none
set_option tactic.hygienic true in
theorem sub_some {sc:Scope} (h:cx.sub sc = some cx'):SubOk cx cx' sc:=by
 unfold Cx.sub at h
 split at h
 ·rename_i q
  simp only [Bool.and_eq_true,decide_eq_true_eq,beq_iff_eq,List.all_eq_true,Bool.or_eq_true] at q
  obtain rfl:=Option.some.inj h
  exact ⟨q.1.1.1.1,q.1.1.1.2,q.1.1.2,q.1.2,q.2,rfl,rfl,rfl,fun _=>rfl⟩
 ·exact nso h
theorem sub_frees {sc:Scope} (h:cx.sub sc = some cx') (eo:EnvOk cx env R.dt):∀ n ∈ frees sc.names,∃ c i,env.cells.lookup n = some c ∧ cx.slot n = some i ∧ R.dt[i]? = some (.cell c):=fun n hn =>
 (Option.isSome_iff_exists.mp ((sub_some h).fr n hn).2).elim fun i hi=>(eo.cell n i hi ((sub_some h).fr n hn).1).elim fun c k=>⟨c,i,k.1,hi,k.2⟩
theorem lookup_own_cell {sc:Scope} {n:Str} (hn:n ∈ cellsN sc.names) (k:Nat) (cl:List (Str × Addr)):∃ c,(cellsFrom k sc.names cl).lookup n = some c ∧ (cellsFrom k sc.names []).lookup n = some c:=by
 refine (Option.isSome_iff_exists.mp (cellsFrom_some sc.names k n hn)).elim fun c hc=>?_
 exact ⟨c,by rw [cellsFrom_app,lookup_app,hc];rfl,hc⟩
theorem sub_locs {sc:Scope} (h:cx.sub sc = some cx') (h0:Heap):(∀ l ∈ cLocs sc env h0.objs.size,l.ok (pushCells (h0.push { cls:=.type "dict",data:=.dict #[] }) sc.names) ∧ ∀ a,l.addr? = some a→h0.objs.size ≤ a) ∧
  (∀ (i j:Nat) (l l':Loc),i ≠ j→(cLocs sc env h0.objs.size)[i]? = some l→(cLocs sc env h0.objs.size)[j]? = some l'→l.apart l'):=by
 have hnd:=(sub_some h).nd
 have hC:(h0.push { cls:=.type "dict",data:=.dict #[] }).objs.size = h0.objs.size + 1:=Heap.size_push ..
 have ok:=cellsFrom_ok sc.names (h0.push { cls:=.type "dict",data:=.dict #[] }) (h0.objs.size + 1) [] ⟨fun _ _ hm=>(nomatch hm),List.Pairwise.nil⟩ (by simp only [hC];exact Nat.le_refl _)
 rw [hC] at ok
 have hns:(pushCells (h0.push { cls:=.type "dict",data:=.dict #[] }) sc.names).Ns h0.objs.size (fun x=>([]:List (Str × Value)).reverse.lookup x):=(Heap.Ns.new h0 (.type "dict")).keeps (pushCells_keeps _ _)
 have cases':∀ n ∈ own sc.names,locOf sc.names h0.objs.size (cellsFrom (h0.objs.size + 1) sc.names (clOf env sc.names [])) n = .ns h0.objs.size n ∨
   ∃ c,locOf sc.names h0.objs.size (cellsFrom (h0.objs.size + 1) sc.names (clOf env sc.names [])) n = .cell c ∧ (cellsFrom (h0.objs.size + 1) sc.names []).lookup n = some c:=fun n hn=>by
  refine Classical.byContradiction fun hcon=>?_
  obtain ⟨k,hk,hk'⟩:=own_mem hn
  refine hcon ?_
  have hlk:=nodup_lookup hnd hk
  rcases hk' with rfl | rfl
  ·left;unfold locOf;simp only [hlk]
  ·right
   refine Classical.byContradiction fun hcon=>?_
   refine (lookup_own_cell (sc:=sc) (cells_mem.mpr hk) (h0.objs.size + 1) (clOf env sc.names [])).elim fun c k0=>k0.elim fun h1 h2=>?_
   refine hcon ?_
   exact ⟨c,by unfold locOf;simp only [hlk,h1],h2⟩
 refine ⟨fun l hl=>?_,fun i j l l' hij hi hj=>?_⟩
 ·refine Classical.byContradiction fun hcon=>?_
  obtain ⟨n,hn,rfl⟩:=List.mem_map.mp hl
  refine hcon ?_
  rcases cases' n hn with e | ⟨c,e,hc⟩
  ·simp only [e];exact ⟨⟨_,hns⟩,fun a ha=>by obtain rfl:=Option.some.inj ha;exact Nat.le_refl _⟩
  ·simp only [e]
   have:=ok.empty n c (mem_of_lookup hc)
   exact ⟨⟨_,this.1⟩,fun a ha=>by obtain rfl:=Option.some.inj ha;exact Nat.le_of_succ_le this.2⟩
 ·simp only [List.getElem?_map,Option.map_eq_some_iff] at hi hj
  obtain ⟨n,hn,rfl⟩:=hi
  obtain ⟨m,hm,rfl⟩:=hj
  have hnm:n ≠ m:=fun e=>hij (nodup_get (own_nodup hnd) hn (e ▸ hm))
  rcases cases' n (List.mem_of_getElem? hn) with e | ⟨c,e,hc⟩ <;> rcases cases' m (List.mem_of_getElem? hm) with e' | ⟨c',e',hc'⟩ <;> simp only [e,e']
  ·exact fun _=>hnm
  ·have:=(ok.empty m c' (mem_of_lookup hc')).2
   exact fun q=>Nat.lt_irrefl _ (show h0.objs.size < h0.objs.size by rw [← q] at this;exact this)
  ·have:=(ok.empty n c (mem_of_lookup hc)).2
   exact fun q=>Nat.lt_irrefl _ (show h0.objs.size < h0.objs.size by rw [q] at this;exact this)
  ·exact fun q=>hnm (name_of_addr ok.apart (mem_of_lookup hc) (q ▸ mem_of_lookup hc'))
theorem sub_env {sc:Scope} (h:cx.sub sc = some cx') (eo:EnvOk cx env R.dt) (C:Addr):EnvOk cx' (cEnv sc env C) (putDt R.dt cx.next (cLocs sc env C)):=by
 cases sub_some h with | mk h1 h2 h3 h4 h5 h6 h7 h8 h9 =>
 have hlen:(cLocs sc env C).length = (own sc.names).length:=List.length_map ..
 have hk:cx.next + (cLocs sc env C).length ≤ R.dt.length:=by simp only [hlen,eo.size];exact h4
 have hnames:(relabel sc env).names = relab cx.names sc.names:=by
  delta relabel relab
  simp only [Env.kindOf,eo.names,eo.kind,beq_self_eq_true,Bool.and_true]
 have mid:∀ {x:Str} {j:Nat},idx (own sc.names) x = some j→(putDt R.dt cx.next (cLocs sc env C))[cx.next + j]? = some (locOf sc.names C (cellsFrom (C + 1) sc.names (clOf env sc.names [])) x):=fun {x j} hj=>by
  have hg:=idx_get hj
  have hlt:=(List.getElem?_eq_some_iff.mp hg).1
  simp only [putDt_mid hk (by simp only [hlen];exact hlt),List.getElem?_map,hg];rfl
 have idxlt:∀ {x:Str} {j:Nat},idx (own sc.names) x = some j→j < (own sc.names).length:=fun hj=>(List.getElem?_eq_some_iff.mp (idx_get hj)).1
 refine ⟨h1,hnames.trans h6.symm,eo.globals,eo.builtins,by simp only [putDt_len hk,h8];exact eo.size,fun x i hs hl=>?_,fun x i hs hl=>?_,fun i hi hlt=>?_,fun x i hs=>?_⟩
 ·rw [h6,relab_lookup] at hl
  refine Classical.byContradiction fun hcon=>?_
  obtain ⟨k,hk1,hk2⟩:=Option.map_eq_some_iff.mp hl
  have hkl:k = .local:=by
   split at hk2
   ·cases hk2
   ·exact hk2
  subst hkl
  rw [h9,hk1] at hs
  obtain ⟨j,hj,rfl⟩:=Option.map_eq_some_iff.mp hs
  refine hcon ?_
  simp only [mid hj];delta locOf;simp only [hk1]
 ·rw [h6,relab_lookup] at hl
  have hkk:sc.names.lookup x = some .cell ∨ sc.names.lookup x = some .free:=by
   cases hk1:sc.names.lookup x with
   | none=>rw [hk1] at hl;simp at hl
   | some k =>
    rw [hk1] at hl
    simp only [Option.map_some,Option.some.injEq] at hl
    cases k with
    | cell=>exact .inl rfl
    | free=>exact .inr rfl
    | «local»=>simp at hl
    | globalExplicit=>simp at hl
    | globalImplicit=>simp at hl
  rcases hkk with hkk | hkk
  ·rw [h9,hkk] at hs
   refine Classical.byContradiction fun hcon=>?_
   obtain ⟨j,hj,rfl⟩:=Option.map_eq_some_iff.mp hs
   obtain ⟨c,hc,hc'⟩:=lookup_own_cell (sc:=sc) (cells_mem.mpr (lookup_mem hkk)) (C + 1) (clOf env sc.names [])
   refine hcon ?_
   refine ⟨c,hc,?_⟩
   rw [mid hj];delta locOf;rw [hkk,hc]
  ·rw [h9,hkk] at hs
   have hfm:x ∈ frees sc.names:=frees_mem.mpr (lookup_mem hkk)
   refine Classical.byContradiction fun hcon=>?_
   obtain ⟨c,i',h10,h11,h12⟩:=sub_frees h eo x hfm
   refine hcon ?_
   rw [h11] at hs;obtain rfl:=Option.some.inj hs
   refine ⟨c,?_,?_⟩
   ·have hnc:x ∉ cellsN sc.names:=fun q=>by
     have:=nodup_lookup h2 (cells_mem.mp q)
     rw [hkk] at this;cases this
    show (cellsFrom (C + 1) sc.names (clOf env sc.names [])).lookup x = some c
    rw [cellsFrom_app,lookup_app,cellsFrom_none _ _ _ hnc,clOf_lookup,if_pos hfm,h10];rfl
   ·rw [putDt_lt hk (eo.below x _ h11)];exact h12
 ·rw [putDt_len hk] at hlt
  rw [h7,← hlen] at hi
  rw [putDt_ge hk hi]
  exact eo.free i (by exact Nat.le_trans (Nat.le_add_right _ _) (by assumption)) hlt
 ·rw [h9] at hs
  rw [h7]
  split at hs
  ·have:=eo.below x i hs;exact Nat.le_trans (by assumption) (Nat.le_add_right _ _)
  ·obtain ⟨j,hj,rfl⟩:=Option.map_eq_some_iff.mp hs
   have:=idxlt hj;lia
  ·obtain ⟨j,hj,rfl⟩:=Option.map_eq_some_iff.mp hs
   have:=idxlt hj;lia
  ·exact nso hs
theorem comp_all {e elt:Expr} {g:Comprehension} {gs:List Comprehension} {sc:Scope} {pos p:Pos} {use:Option (Value→Sem Unit)} {it rest ifs:X} {t:Tg} {v:V} {Q:Value→Shared→Prop} (he:e = .ListComp elt (g :: gs) sc pos) (hga:g.is_async = 0) (hsub:cx.sub sc = some cx')
  (hI:SndI W cx g.target g.iter it) (hns:notSet g.iter = true) (hL:LoopSnd W cx' e 0 g.target (genF W.C t ifs rest)) (ga:GA W.lev A) (eo:EnvOk cx env R.dt) (r:Rel W.I W.B W.os R st s)
  (hev:ev W.C (.comp ((List.range (own sc.names).length).map (cx.next + ·)) (.gen it t ifs rest)) st = some (v,st'))
  (h:∀ R' s' val C,Step R s R' s'→Rel W.I W.B W.os R' st' s'→VR R'.Z R'.mu s'.heap v val→(∃ m,s'.heap.Ns C m)→ApartFp W.I [C] R'→s.heap.get? C = none→compPost (model prog w) A E use Q val C (.ok .next) s') :
  wpAny (model prog w) A (comprehension e sc env p (newList []) false (eval g.iter env) use) Q E s:=by
 have S:=sub_some hsub
 have h1:=S.kind
 have h2:=S.nd
 have h3:=S.dot
 have h4:=S.fits
 refine oSL_el (k:=fun vs st=>(okL vs).map fun v=>(v,((List.range (own sc.names).length).map (cx.next + ·)).foldl St.clr st)) hev fun vs st₁ e1 hev=>oS_el e1 fun xv st₂ e2 e1'=>oB e1' fun l e3 e1'=>(oI e1').elim fun q e1'=>(oI hev).elim fun v' hev=>?_
 ···refine Classical.byContradiction fun hcon=>?_
    obtain ⟨vs₀,st₀⟩:=q
    have e4:=e1'.1
    have hlen:=(okL_some hev.1).1
    cases e1'.2
    cases hev.2
    cases (okL_some hev.1).2
    refine hcon ?_
    refine wpAny_comprehension_free (g:=g) (gs:=gs) (cl:=clOf env sc.names []) (by rw [he];rfl) (folded_plain hns) (closure_ok fun n hn=>let ⟨c,i,q,_⟩:=sub_frees hsub eo n hn;⟨c,q⟩) h1
     (fun x hx hl=>by rw [nodup_lookup h2 (show (x.1,x.2) ∈ sc.names from hx),hl]) ?_
    refine hI ga eo r e2 e3 fun R₂ s₂ itv fp J a₂ r₂ K j₂ hnew ap₂=>?_
    refine wpAny_newObj_type ?_
    refine newEnv_comp ?_
    generalize hh0:s₂.heap.push { cls:=.type "list",dict:=none,data:=.seq ([]:List Value).toArray } = h0
    have hD:s₂.heap.objs.size < h0.objs.size:=by rw [← hh0,Heap.size_push];exact Nat.lt_succ_self _
    have k0:∀ b o,s₂.heap.get? b = some o→h0.get? b = some o:=fun b o e=>hh0 ▸ Heap.get?_push_of_some _ e
    have k1:∀ b o,h0.get? b = some o→(pushCells (h0.push { cls:=.type "dict",data:=.dict #[] }) sc.names).get? b = some o:=fun b o e=>pushCells_keeps _ _ b o (Heap.get?_push_of_some _ e)
    refine Classical.byContradiction fun hcon=>?_
    obtain ⟨L1,L2⟩:=sub_locs (env:=env) hsub h0
    have hlenL:(cLocs sc env h0.objs.size).length = (own sc.names).length:=List.length_map ..
    have hkk:cx.next + (cLocs sc env h0.objs.size).length ≤ R₂.dt.length:=by rw [hlenL,a₂.dt,eo.size];exact h4
    have eo₂:=eo.step a₂
    have r₃:=r₂.enter (k:=cx.next) (ls:=cLocs sc env h0.objs.size) (h':=pushCells (h0.push { cls:=.type "dict",data:=.dict #[] }) sc.names) (tk:=s₂.toks) eo₂.free hkk (fun b o e=>k1 b o (k0 b o e)) (fun l hl=>(L1 l hl).1)
     (fun l hl a ha=>by
      cases q:s₂.heap.get? a with
      | none=>rfl
      | some o=>exact absurd (Heap.lt_size q) (Nat.not_lt.mpr (Nat.le_trans (Nat.le_of_lt hD) ((L1 l hl).2 a ha)))) L2
    have eo₃:=sub_env hsub eo₂ h0.objs.size
    have a₃:Step R₂ s₂ R₂ { s₂ with heap:=pushCells (h0.push { cls:=.type "dict",data:=.dict #[] }) sc.names }:=(r₂.keeps (tk:=s₂.toks) fun b o e=>k1 b o (k0 b o e)).2
    have gD:(pushCells (h0.push { cls:=.type "dict",data:=.dict #[] }) sc.names).get? s₂.heap.objs.size = some (listO [] 0):=k1 _ _ (hh0 ▸ Heap.get?_push_size _ rfl)
    have nD:s₂.heap.get? s₂.heap.objs.size = none:=get_size _
    have nC:s₂.heap.get? h0.objs.size = none:=by
     cases q:s₂.heap.get? h0.objs.size with
     | none=>rfl
     | some o=>exact absurd (Heap.lt_size q) (Nat.not_lt.mpr (Nat.le_of_lt hD))
    have al₂:∀ b ∈ fp,∃ o,s₂.heap.get? b = some o:=K.alive j₂
    have notloc:∀ b,(∃ o,s₂.heap.get? b = some o)→∀ l ∈ cLocs sc env h0.objs.size,l.addr? ≠ some b:=fun b ⟨o,q⟩ l hl ha=>Nat.lt_irrefl _ (Nat.lt_of_lt_of_le (Heap.lt_size q) (Nat.le_trans (Nat.le_of_lt hD) ((L1 l hl).2 b ha)))
    have ap₃:ApartFp W.I fp { R₂ with dt:=putDt R₂.dt cx.next (cLocs sc env h0.objs.size) }:=fun b hb=>by
     refine (ap₂ b hb).elim fun q1 k0=>k0.elim fun q2 k1=>k1.elim fun q3 k2=>k2.elim fun q4 q5=>?_
     refine ⟨q1,q2,q3,fun i l e=>?_,q5⟩
     rcases putDt_cases hkk e with ⟨e,_⟩ | ⟨j,_,_,e⟩
     ·exact q4 i l e
     ·exact notloc b (al₂ b hb) l (List.mem_of_getElem? e)
    have apDC:∀ b,s₂.heap.get? b = none→ApartFp W.I [b] R₂:=fun b hb=>ApartFp.new r₂ fun c hc=>by rw [List.mem_singleton.mp hc];exact hb
    have apD₃:ApartFp W.I [s₂.heap.objs.size] { R₂ with dt:=putDt R₂.dt cx.next (cLocs sc env h0.objs.size) }:=fun b hb=>by
     refine (apDC _ nD b hb).elim fun q1 k0=>k0.elim fun q2 k1=>k1.elim fun q3 k2=>k2.elim fun q4 q5=>?_
     refine ⟨q1,q2,q3,fun i l e ha=>?_,q5⟩
     rcases putDt_cases hkk e with ⟨e,_⟩ | ⟨j,_,_,e⟩
     ·exact q4 i l e ha
     ·have:=(L1 l (List.mem_of_getElem? e)).2 b ha
      rw [List.mem_singleton.mp hb] at this
      exact Nat.lt_irrefl _ (Nat.lt_of_lt_of_le hD this)
    have hDfp:s₂.heap.objs.size ∉ fp:=fun q=>by obtain ⟨o,e⟩:=al₂ _ q;rw [nD] at e;exact nso e
    have same:∀ b,(∃ o,s₂.heap.get? b = some o)→(pushCells (h0.push { cls:=.type "dict",data:=.dict #[] }) sc.names).get? b = s₂.heap.get? b:=fun b ⟨o,e⟩=>(k1 b o (k0 b o e)).trans e.symm
    have j₃:J 0 { R₂ with dt:=putDt R₂.dt cx.next (cLocs sc env h0.objs.size) } { s₂ with heap:=pushCells (h0.push { cls:=.type "dict",data:=.dict #[] }) sc.names } :=
     K.frame j₂ (fun _ z=>z) (fun _ _ e=>e) (fun b hb=>same b (hb.elim (fun z=>r₂.zal b (.inl z)) (al₂ b))) (fun _ _ e=>e)
    have fin:codeAny (model prog w) A (.compLoop e 0 itv (.ref s₂.heap.objs.size) (cEnv sc env h0.objs.size)) (compPost (model prog w) A E use Q (.ref s₂.heap.objs.size) h0.objs.size) { s₂ with heap:=pushCells (h0.push { cls:=.type "dict",data:=.dict #[] }) sc.names }:=by
     refine hL ga eo₃ K j₃ r₃ ap₃ apD₃ hDfp gD .nil e4 (hlen) fun R₅ s₅ its' n' a₅ r₅ aD₅ e₅ v₅=>?_
     have hdt₅:R₅ = { ({ R₅ with dt:=R₂.dt }:RS) with dt:=putDt R₂.dt cx.next (cLocs sc env h0.objs.size) }:=by
      have:=a₅.dt
      cases R₅;simp only at this ⊢;rw [this]
     have r₆:Rel W.I W.B W.os { R₅ with dt:=R₂.dt } (((List.range (cLocs sc env h0.objs.size).length).map (cx.next + ·)).foldl St.clr st₀) s₅:=Rel.leave (R:={ R₅ with dt:=R₂.dt }) (dt:=R₂.dt) (hdt₅ ▸ r₅) eo₂.free hkk
     rw [hlenL] at r₆
     have a₆:StepX (fun b=>b ∈ fp ∨ b = s₂.heap.objs.size) (fun _=>False) R₂ { s₂ with heap:=pushCells (h0.push { cls:=.type "dict",data:=.dict #[] }) sc.names } { R₅ with dt:=R₂.dt } s₅:=a₅.withDt R₂.dt
     have alC:∃ o,(pushCells (h0.push { cls:=.type "dict",data:=.dict #[] }) sc.names).get? h0.objs.size = some o:=⟨_,pushCells_keeps _ _ _ _ (Heap.get?_push_size _ rfl)⟩
     have aC₆:ApartFp W.I [h0.objs.size] { R₅ with dt:=R₂.dt }:=(apDC _ nC).stepX a₆ fun b hb=>by rw [List.mem_singleton.mp hb];exact alC
     have aD₆:ApartFp W.I [s₂.heap.objs.size] { R₅ with dt:=R₂.dt }:=(apDC _ nD).stepX a₆ fun b hb=>by rw [List.mem_singleton.mp hb];exact ⟨_,gD⟩
     have t1:Step R s { R₅ with dt:=R₂.dt } s₅:=(a₂.trans a₃).thenX a₆ (fun c hc=>hc.elim (hnew c) fun q=>by rw [q];exact none_back a₂.alive nD) fun _ q=>q.elim
     have r₇:=r₆.addZ aD₆ ⟨_,e₅⟩
     have t2:=t1.addZ (none_back a₂.alive nD)
     have aC₇:ApartFp W.I [h0.objs.size] (({ R₅ with dt:=R₂.dt }:RS).add s₂.heap.objs.size):=fun b hb=>by
      obtain ⟨q1,q2,q3,q4,q5⟩:=aC₆ b hb
      refine ⟨fun z=>z.elim q1 fun q=>?_,q2,q3,q4,q5⟩
      rw [List.mem_singleton.mp hb] at q
      exact Nat.lt_irrefl _ (show s₂.heap.objs.size < s₂.heap.objs.size from q ▸ hD)
     have hnsC:∃ m,s₅.heap.Ns h0.objs.size m:=by
      have hi:∃ j:Nat,(cLocs sc env h0.objs.size)[j]? = some (Loc.ns h0.objs.size (".0":Str)):=by
       have hm:(".0":Str) ∈ own sc.names:=by
        have:=lookup_mem h3
        generalize sc.names = names at this
        induction names with
        | nil=>first | exact nso this | exact fat this | cases this
        | cons x r ih =>
         obtain ⟨n,k⟩:=x
         refine Or.elim (List.mem_cons.mp this) (fun q=>?_) (fun q=>?_)
         ·cases q;exact .head _
         ·have hq:=ih q
          cases k <;> first | exact hq | exact .tail _ hq
       refine (List.getElem_of_mem hm).elim fun j k0=>k0.elim fun hj hj'=>?_
       refine ⟨j,?_⟩
       rw [List.getElem?_map,List.getElem?_eq_getElem hj,hj']
       show some (locOf _ _ _ _) = _
       unfold locOf;rw [h3]
      refine (hi).elim fun j hj=>?_
      have hjl:j < (cLocs sc env h0.objs.size).length:=(List.getElem?_eq_some_iff.mp hj).1
      have:R₅.dt[cx.next + j]? = some (Loc.ns h0.objs.size (".0":Str)):=by
       rw [a₅.dt];exact (putDt_mid hkk hjl).trans hj
      exact r₅.loc _ _ this
     refine h _ s₅ (.ref s₂.heap.objs.size) h0.objs.size t2 r₇ (.list (.inr rfl) e₅ hlen ?_) hnsC aC₇ (none_back a₂.alive nC)
     rw [List.nil_append] at v₅
     exact v₅.mono (fun _ z=>.inl z) (fun _ _ e=>e) fun _ _=>rfl
    subst he
    refine hcon ?_
    exact compStart_go (g:=g) rfl hga fin fun E'=>K.self j₃ fin
theorem snd_comp {elt:Expr} {g:Comprehension} {gs:List Comprehension} {sc:Scope} {pos:Pos} {it rest ifs:X} {t:Tg} (hga:g.is_async = 0) (hsub:cx.sub sc = some cx')
  (hI:SndI W cx g.target g.iter it) (hns:notSet g.iter = true) (hL:LoopSnd W cx' (.ListComp elt (g :: gs) sc pos) 0 g.target (genF W.C t ifs rest)) :
  Snd W cx (.ListComp elt (g :: gs) sc pos) (.comp ((List.range (own sc.names).length).map (cx.next + ·)) (.gen it t ifs rest)):=by
 refine .plain (fun {A E env R st st' s v Q} ga eo r hv h=>?_) (fun _ _=>rfl) rfl
 have e:eval (.ListComp elt (g :: gs) sc pos) env = comprehension (.ListComp elt (g :: gs) sc pos) sc env (firstIterPos (g :: gs) pos) (newList []) false (eval g.iter env):=by
  obtain ⟨a,b,c,d⟩:=g
  simp only at hga;subst hga;rfl
 rw [e]
 refine comp_all (use:=none) rfl hga hsub hI hns hL ga eo r hv fun R' s' val C a r' v' ⟨m,hm⟩ ap hC=>⟨m,hm,fun h' hs=>?_⟩
 refine (r'.loose (gs:=fun _=>False) ap (h':=h') (tk:=s'.toks) fun b o hb e=>(hs.2 b fun q=>hb (by simp [q])).trans e).elim fun r1 s1=>?_
 refine h R' _ val (a.thenX s1 (fun c hc=>by rw [List.mem_singleton.mp hc];exact hC) fun _ q=>q.elim) r1 (v'.mono (fun _ z=>z) (fun _ _ e=>e) fun b z=>s1.keep b (.inl z))
end
section
variable {prog:Program} {w:World} {W:Wd prog w} {cx cx':Cx} {A:Around} {E:Value→Shared→Prop} {env:Env} {R R':RS} {st st':St} {s s':Shared}
theorem cE_star {G:Gl} {n:Nat} {cx:Cx} {e:Expr} {x:X} (h:cE G n cx e = some x):∀ a q,e ≠ .Starred a q:=fun a q he=>by
 subst he
 cases n <;> exact nso h
theorem isName_ne {e:Expr} (h:isName e = true):∀ a q,e ≠ .Starred a q:=fun a q he=>by subst he;cases h
set_option tactic.hygienic true in
theorem cI_ok (O:W.Ok) {f:Expr→Option X} (hf:∀ e x,f e = some x→Snd W cx e x) {tg e:Expr} {x:X} (h:cI W.G f cx tg e = some x):SndI W cx tg e x ∧ notSet e = true:=by
 unfold cI at h
 split at h
 ·rename_i q
  obtain ⟨p,rfl⟩:=nameOf_eq q
  exact oG h fun h1 h2=>⟨sndI_plain (hf _ _ h2),h1⟩
 ·refine oB h fun ts ht h1=>oB h1 fun q hq h2=>oB h2 fun v hv h3=>?_
  obtain ⟨k,p,rfl⟩:=tupOf_eq ht
  obtain ⟨gp,p',rfl⟩:=callOf_eq hq
  split at h3
  ·rename_i a ha
   refine oG h3 fun h4 h5=>oM h5 fun y hy=>?_
   cases GV.isEnum_eq (and_r h4)
   rw [oneOf_eq ha]
   exact ⟨sndI_enm O hv (isName_ne (and_l h4)) (hf _ _ hy),rfl⟩
  ·exact nso h3
inductive CompOf (W:Wd prog w) (cx:Cx) (elt:Expr) (sc:Scope) (pos:Pos):List Comprehension→X→Prop
 | mk {g:Comprehension} {gs:List Comprehension} {cx':Cx} {it ifs rest:X} {t:Tg}:g.is_async = 0→cx.sub sc = some cx'→SndI W cx g.target g.iter it→notSet g.iter = true→LoopSnd W cx' (.ListComp elt (g :: gs) sc pos) 0 g.target (genF W.C t ifs rest) →
  CompOf W cx elt sc pos (g :: gs) (.comp ((List.range (own sc.names).length).map (cx.next + ·)) (.gen it t ifs rest))
theorem comp_of (O:W.Ok) {f:Cx→Expr→Option X} (hf:∀ cx e x,f cx e = some x→Snd W cx e x) {elt:Expr} {gens:List Comprehension} {sc:Scope} {pos:Pos} {x:X} (h:cCo W.G f cx elt sc gens = some x):CompOf W cx elt sc pos gens x:=by
 cases gens with
 | nil=>exact nso h
 | cons g r =>
  obtain ⟨tg,iter,ifs,a⟩:=g
  refine oB h fun cx' hsub h1=>oG h1 fun ha h2=>oB h2 fun it hit h3=>oM3 h3 fun t i y ht hi hy=>?_
  have hI:=cI_ok O (hf _) hit
  cases eq_of_beq ha
  refine .mk rfl hsub hI.1 hI.2 ?_
  cases r with
  | nil=>exact oM hy fun z hz=>loop_one (hf _) ht hi hz
  | cons k r =>
   obtain ⟨tg',iter',ifs',a'⟩:=k
   refine oG hy fun hb h4=>oB h4 fun it' hit' h5=>oM3 h5 fun t' i' z ht' hi' hz=>?_
   have hI':=cI_ok O (hf _) hit'
   cases nil_of (and_l hb)
   cases eq_of_beq (and_r hb)
   exact loop_two0 (hf _) ht hi hI'.1 hI'.2 ht' hi' hz
set_option tactic.hygienic true in
theorem cE_ok (O:W.Ok):∀ (n:Nat) (cx:Cx) (e:Expr) (x:X),cE W.G n cx e = some x→Snd W cx e x
 | 0,_,_,_,h=>by cases h
 | n + 1,cx,e,x,h=>by
  have ih:=cE_ok O n
  have ihL:∀ (es:List Expr) (xs:X),cL (cE W.G n cx) es = some xs→SndL W cx es xs:=sndL_of (ih cx)
  cases e with
  | Name y p =>
   have h:cNm W.G cx y = some x:=h
   unfold cNm at h
   split at h
   ·rename_i hn;cases h;exact snd_name O hn
   ·exact oB h fun v hv h1=>oM h1 fun c hc=>(by cases GV.isCst_eq hc;exact snd_gcst O hv)
  | Constant c k p=>exact oM (show (cC c).map X.cst = some x from h) fun v hv=>snd_const hv
  | BinOp a o b p=>exact oM3 (show map3 X.bin (cO o) (cE W.G n cx a) (cE W.G n cx b) = some x from h) fun o x y ho ha hb=>snd_bin ho (ih _ _ _ ha) (ih _ _ _ hb)
  | UnaryOp o a p =>
   refine oB (show ((cU o).bind fun u=>(cE W.G n cx a).map u) = some x from h) fun u hu h1=>oM h1 fun y hy=>?_
   cases o with
   | Not=>cases hu;exact snd_not (ih _ _ _ hy)
   | USub=>cases hu;exact snd_neg (ih _ _ _ hy)
   | _=>exact nso hu
  | BoolOp o es p =>
   cases es with
   | nil=>exact nso h
   | cons a r=>cases r with
    | nil=>exact snd_one (ih _ _ _ h)
    | cons b r =>
     refine oM2 (show map2 (cBo o) (cE W.G n cx a) (cE W.G n cx (.BoolOp o (b :: r) p)) = some x from h) fun y z hy hz=>?_
     cases o with
     | And=>exact snd_and (ih _ _ _ hy) (ih _ _ _ hz)
     | Or=>exact snd_or (ih _ _ _ hy) (ih _ _ _ hz)
  | Compare a os bs p =>
   have h:cCm (cE W.G n cx) a os bs = some x:=h
   unfold cCm at h
   split at h
   ·rename_i o ho
    refine oB h fun b hb h1=>oG h1 fun hs h2=>oM3 h2 fun o y z h3 h4 h5=>?_
    simp only [oneOf_eq ho,oneOf_eq hb]
    exact snd_cmp h3 hs (ih _ _ _ h4) (ih _ _ _ h5)
   ·exact nso h
  | IfExp c a b p=>exact oM3 (show map3 X.ite (cE W.G n cx c) (cE W.G n cx a) (cE W.G n cx b) = some x from h) fun z x y hz hx hy=>snd_ite (ih _ _ _ hz) (ih _ _ _ hx) (ih _ _ _ hy)
  | Call g as ks p =>
   refine oG (show gd ks.isEmpty _ = some x from h) fun hk h1=>?_
   cases nil_of hk
   split at h1
   ·rename_i y hg
    obtain ⟨gp,rfl⟩:=nameOf_eq hg
    refine oB h1 fun v hv h2=>?_
    unfold cFn at h2
    split at h2
    ·rename_i g hg'
     cases GV.isFn_eq hg'
     split at h2
     ·rename_i a ha
      refine oG ha fun hl ha=>oB ha fun e he h3=>oB h3 fun q hq h4=>oB h4 fun v' hv' h5=>oG h5 fun h6 h7=>oG h2 fun h8 h9=>oM h9 fun z hz=>?_
      cases Fn.isLen_eq hl
      cases GV.isSet_eq h6
      obtain ⟨gp',p',rfl⟩:=callOf_eq hq
      simp only [oneOf_eq he,oneOf_eq h7]
      exact snd_lenset O hv hv' (notStar_ne h8) (ih _ _ _ hz)
     ·refine oG h2 fun h3 h4=>?_
      cases as with
      | nil=>exact (Bool.noConfusion (and_r h3))
      | cons e r=>exact oM h4 fun z hz=>snd_call O hv (Fn.isLenset_ne (and_l h3)) hz (ihL _ _ hz)
    ·refine oG h2 fun h3 h4=>oB h4 fun a ha h5=>oG h5 fun h6 h7=>oM h7 fun z hz=>?_
     cases GV.isLexer_eq h3
     simp only [oneOf_eq ha]
     exact snd_newlex O hv (notStar_ne h6) (ih _ _ _ hz)
   ·refine oB h1 fun q hq h2=>oG h2 fun h3 h4=>?_
    simp only [attrOf_eq hq]
    cases hm:(q.2.1 == ("get_token":Str)) with
    | true =>
     rw [hm] at h4
     refine oG h4 fun h5 h6=>oB h6 fun y hy h7=>oM h7 fun i hi=>?_
     refine (nameOf_eq hy).elim fun xp hy=>?_
     simp only [hy,eq_of_beq hm,nil_of h5]
     exact snd_tok O hi (and_l h3)
    | false =>
     rw [hm] at h4
     exact oM3 (show map3 X.meth _ _ _ = some x from h4) fun m y ys h5 h6 h7=>snd_meth (and_l (and_r h3)) (and_l h3) (of_decide_eq_true (and_r (and_r h3))) h5 (ih _ _ _ h6) h7 (ihL _ _ h7)
  | Attribute o a p =>
   refine oG (show gd (a == ("lineno":Str)) _ = some x from h) fun h1 h2=>oB h2 fun y hy h3=>oM h3 fun i hi=>?_
   obtain ⟨xp,rfl⟩:=nameOf_eq hy
   simp only [eq_of_beq h1]
   exact snd_line O hi
  | Subscript a i p =>
   have h:cSb (cE W.G n cx) a i = some x:=h
   have hB:∀ (o:Option Expr) (x:X),cBd (cE W.G n cx) o = some x→SndP W cx o x:=fun o x h=>by
    cases o with
    | none=>cases h;exact sndP_none
    | some e=>exact sndP_some (ih _ _ _ h)
   unfold cSb at h
   split at h
   ·rename_i q hq
    obtain ⟨sp,rfl⟩:=slcOf_eq hq
    obtain ⟨lo,hi,st⟩:=q
    cases st with
    | none=>exact oM3 (show map3 X.slc _ _ _ = some x from h) fun y l u hy hl hu=>snd_slc (ih _ _ _ hy) (hB _ _ hl) (hB _ _ hu)
    | some e =>
     refine oG (show gd (lo.isNone && (hi.isNone && minusOne e)) _ = some x from h) fun h1 h2=>oM h2 fun y hy=>?_
     cases Option.isNone_iff_eq_none.mp (and_l h1)
     cases Option.isNone_iff_eq_none.mp (and_l (and_r h1))
     exact snd_rev (and_r (and_r h1)) (ih _ _ _ hy)
   ·exact oG h fun _ h1=>oM2 h1 fun y z hy hz=>snd_idx (ih _ _ _ hy) (ih _ _ _ hz)
  | List es p=>exact oG (show gd (decide (es.length ≤ 1000)) _ = some x from h) fun h1 h2=>oM h2 fun y hy=>snd_list (ihL _ _ hy) (of_decide_eq_true h1) fun e=>ev_len hy e
  | Tuple es k p=>exact oG (show gd (decide (es.length ≤ 1000)) _ = some x from h) fun h1 h2=>oM h2 fun y hy=>snd_tup (ihL _ _ hy) (of_decide_eq_true h1) fun e=>ev_len hy e
  | ListComp elt gs sc p =>
   cases comp_of O ih (pos:=p) (show cCo W.G (cE W.G n) cx elt sc gs = some x from h) with | mk h1 h2 h3 h4 h5=>exact snd_comp h1 h2 h3 h4 h5
  | _=>exact nso h
end
noncomputable def cF (G:Gl) (n:Nat) (cx:Cx):Expr→Option X
 | .List es _=>gd (decide (es.length ≤ 1000)) ((cL (cE G n cx) es).map fun x=>.fresh (.lst x))
 | .Call g as ks p=>gd ks.isEmpty (oAlt (nameOf g) (fun f=>(cG G cx f).bind fun v=>v.isFn.bind fun g=>gd (g.isList && !as.isEmpty) ((cL (cE G n cx) as).map fun x=>.fresh (.call .list x)))
  ((attrOf g).bind fun q=>gd ((q.2.2.endLine == p.line) && (plainBase q.1 && (decide (as.length < 30) && q.2.1 == "split"))) (map2 (fun x xs=>.fresh (.meth .split x xs)) (cE G n cx q.1) (cL (cE G n cx) as))))
 | _=>none
noncomputable def cV (G:Gl) (n:Nat) (cx:Cx) (M:List Str) (x:Str) (e:Expr):Option X:=oAlt (gd (M.any (· == x)) (cF G n cx e)) some (cE G n cx e)
theorem cV_or {G:Gl} {n:Nat} {cx:Cx} {M:List Str} {x:Str} {e:Expr} {y:X} (h:cV G n cx M x e = some y):cF G n cx e = some y ∨ cE G n cx e = some y :=
 oAlt_el h (fun a q e=>by obtain rfl:=Option.some.inj e;exact oG q fun _ h=>.inl h) .inr
noncomputable def cLv (G:Gl) (n:Nat) (cx:Cx) (M:List Str):List Expr→List Expr→Option X
 | [],es=>gd es.isEmpty (some .nil)
 | t :: ts,es=>match es with
  | []=>none
  | e :: es=>(nameOf t).bind fun x=>gd (notStar e) (map2 .cons (cV G n cx M x e) (cLv G n cx M ts es))
noncomputable def inM (M:List Str) (e:Expr):Option Str:=(nameOf e).bind fun x=>gd (M.any (· == x)) (some x)
noncomputable def cB (f:Stmt→Option S):List Stmt→Option S
 | []=>some .skip
 | a :: r=>map2 .seq (f a) (cB f r)
noncomputable def callAny:Expr→Option (Expr × List Expr × Pos)
 | .Call g as ks p=>gd ks.isEmpty (some (g,as,p))
 | _=>none
theorem callAny_eq {e:Expr} {q:Expr × List Expr × Pos} (h:callAny e = some q):e = .Call q.1 q.2.1 [] q.2.2:=by
 cases e with
 | Call g as ks p=>exact oG h fun h1 h=>(by cases nil_of h1;obtain rfl:=Option.some.inj h;rfl)
 | _=>first | exact nso h | exact fat h | obtain rfl:=Option.some.inj h
noncomputable def GV.isEsc:GV→Bool
 | .esc=>true
 | _=>false
theorem GV.isEsc_eq {v:GV} (h:v.isEsc = true):v = .esc:=by cases v <;> first | rfl | exact nso h | exact fat h | cases h
noncomputable def cAs (G:Gl) (M:List Str) (cx:Cx) (m:Nat) (ts:List Expr) (v:Expr):Option S:=oAlt (oneOf ts)
 (fun t=>oAlt (nameOf t) (fun x=>map2 .asg (cSl cx t) (cV G m cx M x v)) (oAlt (tupOf t)
  (fun ts=>(tupOf v).bind fun es=>(cSls cx ts).bind fun is=>gd (decide is.Nodup && (decide (es.length ≤ 1000) && (!(es.all (constantsAlone 8)) || es.all (foldedForSure 8)))) ((cLv G m cx M ts es).map fun y=>.tasg is (.tupl y)))
  ((subOf t).bind fun q=>(nameOf q.1).bind fun x=>map3 .seti (cN cx x) (cE G m cx q.2) (cE G m cx v))))
 ((twoOf ts).bind fun q=>gd (isName q.1 && isName q.2) (map3 .casg (cSl cx q.1) (cSl cx q.2) (cE G m cx v)))
noncomputable def cEx (G:Gl) (cx:Cx) (m:Nat) (e:Expr):Option S:=(callAny e).bind fun c=>(attrOf c.1).bind fun q=>(nameOf q.1).bind fun x=>(oneOf c.2.1).bind fun e=>(cN cx x).bind fun i=>(cE G m cx e).bind fun y =>
 gd (q.2.2.endLine == c.2.2.line) (bif q.2.1 == "append" then some (.app i y) else gd (q.2.1 == "push_token") (some (.push i y)))
noncomputable def escOf (G:Gl) (cx:Cx) (e:Expr):Option Expr:=(callOf e).bind fun q=>(cG G cx q.1).bind fun v=>gd v.isEsc (oneOf q.2)
noncomputable def Tg.two?:Tg→Option (Nat × Nat)
 | .two i j=>some (i,j)
 | .one _=>none
noncomputable def cFo (G:Gl) (M:List Str) (cx:Cx) (m:Nat) (tg it:Expr) (t:Tg) (b:S):Option S:=oAlt (escOf G cx it)
 (fun e=>t.two?.bind fun q=>(cE G m cx e).map fun x=>.fore q.1 q.2 x b)
 (oAlt (inM M it) (fun x=>map2 (fun i y=>.seq (.frz i) (.for_ t y b)) (cN cx x) (cI G (cE G m cx) cx tg it)) ((cI G (cE G m cx) cx tg it).map fun x=>.for_ t x b))
noncomputable def cRe (G:Gl) (M:List Str) (cx:Cx) (m:Nat) (e:Expr):Option S:=oAlt (inM M e) (fun x=>map2 (fun i y=>.seq (.frz i) (.ret y)) (cN cx x) (cE G m cx e)) ((cE G m cx e).map .ret)
noncomputable def cS1 (G:Gl) (M:List Str) (cx:Cx) (m:Nat) (f:Stmt→Option S):Stmt→Option S
 | .Assign ts v _=>cAs G M cx m ts v
 | .AugAssign t o v _=>(nameOf t).bind fun x=>(cN cx x).bind fun i=>(cSl cx t).bind fun j=>gd (i == j) (map2 (.aug i) (cO o) (cE G m cx v))
 | .Expr e _=>cEx G cx m e
 | .Delete ts _=>(oneOf ts).bind fun t=>(subOf t).bind fun q=>(nameOf q.1).bind fun x=>map2 .del (cN cx x) (cE G m cx q.2)
 | .If c a b _=>map3 .ite (cE G m cx c) (cB f a) (cB f b)
 | .While c a b _=>gd b.isEmpty (map2 .whl (cE G m cx c) (cB f a))
 | .For tg it a b _=>gd b.isEmpty ((cT cx tg).bind fun t=>(cB f a).bind fun b=>cFo G M cx m tg it t b)
 | .Return e _=>e.bind fun e=>cRe G M cx m e
 | .Assert c e _=>gd e.isNone ((cE G m cx c).map .assert)
 | _=>none
noncomputable def cS (G:Gl) (M:List Str) (cx:Cx) (m:Nat):Nat→Stmt→Option S
 | 0,_=>none
 | n + 1,p=>cS1 G M cx m (cS G M cx m n) p
noncomputable abbrev PostN (I:LexI) (B:Addr→Option Obj) (os:OsState) (R:RS) (s:Shared) (st':St) (Q:Flow→Shared→Prop):Prop:=∀ R' s',Step R s R' s'→Rel I B os R' st' s'→Q .next s'
noncomputable abbrev PostF (I:LexI) (B:Addr→Option Obj) (os:OsState) (R:RS) (s:Shared) (st':St) (fl:Fl) (Q:Flow→Shared→Prop):Prop:=match fl with
 | .next=>PostN I B os R s st' Q
 | .ret v=>∀ R' s' val,Step R s R' s'→Rel I B os R' st' s'→VR R'.Z R'.mu s'.heap v val→Q (.ret val) s'
section
variable {prog:Program} {w:World} {W:Wd prog w} {cx cx':Cx} {A:Around} {E:Value→Shared→Prop} {env:Env} {R R':RS} {st st':St} {s s':Shared}
theorem PostF.step {fl:Fl} {Q:Flow→Shared→Prop} (h:PostF W.I W.B W.os R s st' fl Q) (a:Step R s R' s'):PostF W.I W.B W.os R' s' st' fl Q:=by
 cases fl with
 | next=>exact fun R₂ s₂ b r=>h R₂ s₂ (a.trans b) r
 | ret v=>exact fun R₂ s₂ val b r c=>h R₂ s₂ val (a.trans b) r c
section
variable {I:LexI} {B:Addr→Option Obj} {os:OsState} {fl:Fl} {st₁:St} {Q:Flow→Shared→Prop}
theorem PostF.nx (h:PostF I B os R s st' fl Q) (hx:some (Fl.next,st₁) = some (fl,st')):PostN I B os R s st₁ Q:=by cases hx;exact h
theorem PostF.rt {v:V} (h:PostF I B os R s st' fl Q) (hx:some (Fl.ret v,st₁) = some (fl,st')):PostF I B os R s st₁ (.ret v) Q:=by cases hx;exact h
theorem PostF.map {α:Type} {P:Prop} {o:Option α} {f:α→St} (h:PostF I B os R s st' fl Q) (hx:(o.map fun a=>(Fl.next,f a)) = some (fl,st')) (c:∀ a,o = some a→PostN I B os R s (f a) Q→P):P:=by
 obtain ⟨a,h1,h2⟩:=oI hx
 cases h2;exact c a h1 h
end
noncomputable def SndS (W:Wd prog w) (N:Nat) (cx:Cx) (p:Stmt) (x:S):Prop :=
 ∀ ⦃A:Around⦄ ⦃E:Value→Shared→Prop⦄ ⦃env:Env⦄ ⦃R:RS⦄ ⦃st st':St⦄ ⦃s:Shared⦄ ⦃fl:Fl⦄ ⦃Q:Flow→Shared→Prop⦄,GA W.lev A→EnvOk cx env R.dt→Rel W.I W.B W.os R st s→ex W.C N x st = some (fl,st')→PostF W.I W.B W.os R s st' fl Q →
  wpAny (model prog w) A (exec p env) Q E s
noncomputable def SndB (W:Wd prog w) (N:Nat) (cx:Cx) (ps:List Stmt) (x:S):Prop :=
 ∀ ⦃A:Around⦄ ⦃E:Value→Shared→Prop⦄ ⦃env:Env⦄ ⦃R:RS⦄ ⦃st st':St⦄ ⦃s:Shared⦄ ⦃fl:Fl⦄ ⦃Q:Flow→Shared→Prop⦄,GA W.lev A→EnvOk cx env R.dt→Rel W.I W.B W.os R st s→ex W.C N x st = some (fl,st')→PostF W.I W.B W.os R s st' fl Q →
  wpAny (model prog w) A (execs ps env) Q E s
theorem sndB_of {N:Nat} {f:Stmt→Option S} (hf:∀ p x,f p = some x→SndS W N cx p x) (ps:List Stmt) (x:S) (h:cB f ps = some x):SndB W N cx ps x:=by
 induction ps generalizing x with
 | nil =>
  obtain rfl:=Option.some.inj h
  exact fun A E env R st st' s fl Q ga eo r hx hQ=>wpAny_execs_nil (hQ.nx hx R s (.refl _ _) r)
 | cons p ps ih =>
  refine oM2 h fun a b h1 h2 A E env R st st' s fl Q ga eo r hx hQ=>?_
  simp only [execs_cons]
  refine wpAny_bind (oF_el hx (fun st₁ e1 hx=>?_) fun v st₁ e1 hx=>?_)
  ·exact hf _ _ h1 ga eo r e1 (Q:=fun fl s₁=>wpAny (model prog w) A (match fl with | .next=>execs ps env | f=>pure f) Q E s₁) fun R₁ s₁ a₁ r₁=>ih b h2 ga (eo.step a₁) r₁ hx (hQ.step a₁)
  ·cases hx
   exact hf _ _ h1 ga eo r e1 fun R₁ s₁ val a₁ r₁ v₁=>wpAny_pure (hQ R₁ s₁ val a₁ r₁ v₁)
theorem cF_ok (O:W.Ok) {n:Nat} {e:Expr} {y:X} (h:cF W.G n cx e = some y):Snd W cx e y:=by
 cases e with
 | List es p=>exact oG (show gd (decide (es.length ≤ 1000)) _ = some y from h) fun h1 h2=>oM h2 fun z hz=>snd_fresh_list (sndL_of (cE_ok O n cx) _ _ hz) (of_decide_eq_true h1) fun e=>ev_len hz e
 | Call g as ks p =>
  refine oG (show gd ks.isEmpty _ = some y from h) fun hk h1=>?_
  cases nil_of hk
  refine oAlt_el h1 (fun f hg h1=>?_) fun h1=>?_
  ·obtain ⟨gp,rfl⟩:=nameOf_eq hg
   refine oB h1 fun v hv h2=>oB h2 fun g hg' h3=>oG h3 fun h4 h5=>?_
   cases GV.isFn_eq hg'
   cases Fn.isList_eq (and_l h4)
   cases as with
   | nil=>exact Bool.noConfusion (and_r h4)
   | cons e r=>exact oM h5 fun z hz=>snd_fresh_range O hv hz (sndL_of (cE_ok O n cx) _ _ hz)
  ·refine oB h1 fun q hq h2=>oG h2 fun h3 h4=>oM2 h4 fun z zs hz hzs=>?_
   rw [attrOf_eq hq,eq_of_beq (and_r (and_r (and_r h3)))]
   exact snd_fresh_split (and_l (and_r h3)) (and_l h3) (of_decide_eq_true (and_l (and_r (and_r h3)))) (cE_ok O n cx _ _ hz) hzs (sndL_of (cE_ok O n cx) _ _ hzs)
 | _=>exact nso h
theorem cV_ok (O:W.Ok) {n:Nat} {M:List Str} {x:Str} {e:Expr} {y:X} (h:cV W.G n cx M x e = some y):Snd W cx e y:=(cV_or h).elim (cF_ok O) (cE_ok O n cx _ _)
theorem swaps_ok {n:Nat} {M:List Str} {x:Str} {e:Expr} {y:X} {G:Gl} (h:cV G n cx M x e = some y):(∃ elt gens sc pos,e = .ListComp elt gens sc pos ∧ cE G n cx e = some y) ∨ ∀ t l env,swapsWith e t l env = pure false:=by
 cases e with
 | ListComp elt gens sc pos=>exact .inl ⟨_,_,_,_,rfl,(cV_or h).elim (fun h=>nomatch h) id⟩
 | SetComp elt gens sc pos=>exact ((cV_or h).elim (fun h=>nomatch h) fun h=>by cases n <;> cases h)
 | DictComp a b gens sc pos=>exact ((cV_or h).elim (fun h=>nomatch h) fun h=>by cases n <;> cases h)
 | _=>exact .inr fun _ _ _=>rfl
theorem snd_asg (O:W.Ok) {N n:Nat} {M:List Str} {x:Str} {xp p:Pos} {v:Expr} {i:Nat} {y:X} (hi:cSl cx (.Name x xp) = some i) (hy:cV W.G n cx M x v = some y):SndS W N cx (.Assign [.Name x xp] v p) (.asg i y):=by
 intro A E env R st st' s fl Q ga eo r hx hQ
 refine oS_el hx fun u st₁ e1 hx=>?_
 replace hQ:=hQ.nx hx
 clear hx
 have h3:=slot_at hi
 have norm:swapsWith v (some (.Name x xp)) p.line env = pure false→wpAny (model prog w) A (exec (.Assign [.Name x xp] v p) env) Q E s:=fun hs =>
  wpAny_Assign_Name ((cV_ok O hy).val ga eo r e1 fun R₁ s₁ val a₁ r₁ v₁=>store_ok r₁ (eo.step a₁) h3 v₁ fun R₂ s₂ a₂ r₂=>hQ R₂ s₂ (a₁.trans a₂) r₂) hs
 rcases swaps_ok hy with ⟨elt,gens,sc,pos,rfl,hc⟩ | hs
 ·have hb:∃ b,swapsWith (.ListComp elt gens sc pos) (some (.Name x xp)) p.line env = pure b:=⟨_,rfl⟩
  obtain ⟨b,hb⟩:=hb
  cases b with
  | false=>exact norm hb
  | true =>
   have hco:CompOf W cx elt sc pos gens y:=by
    cases n with
    | zero=>exact nso hc
    | succ n=>exact comp_of O (cE_ok O n) hc
   clear norm
   cases hco with | @mk g gs cx' it ifs rest t hga hsub hI hns hL =>
   rw [exec_Assign_Name_used _ _ _ _ hb]
   refine wpAny_bind (wpAny_standAt (wpAny_bind ?_))
   have e2:evalThenUse (.ListComp elt (g :: gs) sc pos) env (assign (.Name x xp) env) = (do
     let _ ← comprehension (.ListComp elt (g :: gs) sc pos) sc env (firstIterPos (g :: gs) pos) (newList []) false (eval g.iter env) (some (assign (.Name x xp) env))):=by
    obtain ⟨a,b,c,d⟩:=g
    simp only at hga;subst hga;rfl
   rw [e2]
   refine wpAny_bind (comp_all (use:=some (assign (.Name x xp) env)) rfl hga hsub hI hns hL ga eo r e1 fun R₁ s₁ val C a₁ r₁ v₁ hm ap hC=>?_)
   refine Classical.byContradiction fun hcon=>?_
   refine (hm).elim fun m hm=>?_
   refine (id hm).elim fun oC k0=>k0.elim fun esC k1=>k1.elim fun epC k2=>k2.elim fun gC hm'=>?_
   refine hcon ?_
   have al:∀ b ∈ [C],∃ o,s₁.heap.get? b = some o:=fun b hb=>⟨_,List.mem_singleton.mp hb ▸ gC⟩
   refine wpAny_assign_Name (store_ok (r₁.prot ap al) (show EnvOk cx env R₁.dt from eo.step a₁) h3 v₁ fun R₂ s₂ a₂ r₂=>?_)
   have u:=a₂.unprot r₂ ap al
   exact ⟨m,⟨oC,esC,epC,(u.hp C (.head _)).trans gC,hm'⟩,fun h' hsb=>(u.r.loose (gs:=fun _=>False) u.ap (h':=h') (tk:=s₂.toks) fun b o hb e=>(hsb.2 b fun q=>hb (by simp [q])).trans e).elim fun r₄ s₄ =>
    wpAny_pure (wpAny_pure (hQ _ _ ((a₁.trans u.a).thenX s₄ (fun c hc=>by rw [List.mem_singleton.mp hc];exact hC) fun _ q=>q.elim) r₄))⟩
 ·exact norm (hs _ _ _)
theorem snd_casg (O:W.Ok) {N n:Nat} {x y:Str} {xp yp p:Pos} {v:Expr} {i j:Nat} {z:X} (hi:cSl cx (.Name x xp) = some i) (hj:cSl cx (.Name y yp) = some j) (hz:cE W.G n cx v = some z):SndS W N cx (.Assign [.Name x xp,.Name y yp] v p) (.casg i j z) :=
 fun A E env R st st' s fl Q ga eo r hx hQ=>oS_el hx fun u st₁ e1 hx =>
  wpAny_Assign_two ((cE_ok O n cx _ _ hz).val ga eo r e1 fun R₁ s₁ val a₁ r₁ v₁=>wpAny_assign_Name (store_ok r₁ (eo.step a₁) (slot_at hi) v₁ fun R₂ s₂ a₂ r₂=>wpAny_assign_Name (store_ok r₂ (eo.step (a₁.trans a₂)) (slot_at hj) (a₂.vr v₁) fun R₃ s₃ a₃ r₃ =>
   hQ.nx hx R₃ s₃ ((a₁.trans a₂).trans a₃) r₃)))
theorem aop_ok (r:Rel W.I W.B W.os R st s) {o:Bop} {x y v:V} {a b:Value} {Q:Value→Shared→Prop} (hv:aop o x y = some v) (hx:SR R.Z R.mu s.heap x a) (hy:SR R.Z R.mu s.heap y b) (h:PostV W.I W.B W.os R s st v Q) :
  wpAny (model prog w) A (inplaceOp o.op a b) Q E s:=by
 cases o with
 | add=>cases x with
  | int i=>exact int_m hv fun j e e'=>by subst e;subst e';exact hx.int_el fun t=>hy.int_el fun u=>iadd_int (h.tok r _ fun _ _ _=>.int)
  | str i =>
   refine oB hv fun j hj h0=>?_
   cases V.str?_eq hj
   revert h
   refine okS_el h0 fun h1 h=>hx.str_el fun _ t=>hy.str_el fun _ u=>SB.iadd (fun t' tk=>?_) (limL (by rw [strOf_length,strOf_length,← List.length_append];exact h1))
   rw [strOf_append];exact h.tok r _ fun _ _ _=>.str h1
  | _=>exact nso hv
 | sub=>exact two_el (P:=fun a b=>wpAny (model prog w) A (inplaceOp .Sub a b) Q E s) hv hx hy fun i t j u h1=>by obtain rfl:=Option.some.inj h1;exact isub_int (h.tok r _ fun _ _ _=>.int)
 | fdiv=>exact two_el (P:=fun a b=>wpAny (model prog w) A (inplaceOp .FloorDiv a b) Q E s) hv hx hy fun i t j u h1=>oIf_el h1 fun q h1=>by obtain rfl:=Option.some.inj h1;exact AutoIntOps.ifloordiv_1 (fun e=>absurd (eq_of_beq e) (bne_iff_ne.mp (and_l q))) (by rw [PyProof.noPylong_small (of_decide_eq_true (and_r q))];exact Bool.false_ne_true) (h.tok r _ fun _ _ _=>.int)
 | _=>exact nso hv
theorem snd_aug (O:W.Ok) {N n:Nat} {x:Str} {xp p:Pos} {o:Operator} {v:Expr} {i:Nat} {q:Bop} {y:X} (hn:cN cx x = some i) (hi:cSl cx (.Name x xp) = some i) (ho:cO o = some q) (hy:cE W.G n cx v = some y):SndS W N cx (.AugAssign (.Name x xp) o v p) (.aug i q y):=by
 cases cO_op ho
 exact fun A E env R st st' s fl Q ga eo r hx hQ=>oB hx fun u e0 hx=>oS_el hx fun b st₁ e1 hx=>hQ.map hx fun v' h1 hQ =>
  wpAny_AugAssign_Name (load_ok r eo hn e0 fun old v₀=>(cE_ok O n cx _ _ hy).val ga eo r e1 fun R₁ s₁ val a₁ r₁ v₁ =>
   aop_ok r₁ h1 (.of (a₁.vr v₀)) (r₁.see v₁) fun R₂ s₂ nv a₂ r₂ v₂=>store_ok r₂ (eo.step (a₁.trans a₂)) (slot_at hi) v₂ fun R₃ s₃ a₃ r₃=>hQ R₃ s₃ ((a₁.trans a₂).trans a₃) r₃).1
end
section
variable {prog:Program} {w:World} {W:Wd prog w} {cx cx':Cx} {A:Around} {E:Value→Shared→Prop} {env:Env} {R R':RS} {st st':St} {s s':Shared}
theorem mu_el {P:Prop} (r:Rel W.I W.B W.os R st s) {n:Nat} {l:List V} (h:st.mu[n]? = some (.list l)) {a:Addr} {f:List Addr} (hf:R.mu[n]? = some (a :: f)) (c:R.mu[n]? = some [a]→∀ its k,s.heap.get? a = some (listO its k)→VRs R.Z R.mu s.heap l its→l.length ≤ 16777216→P):P:=by
 obtain ⟨g,h1,b,its,k,rfl,h2,h3,h4⟩:=r.muo n _ h
 rw [hf] at h1
 cases h1
 exact c hf its k h2 h4 h3
theorem setItem_exact {l:Addr} {items:List Value} {n:Nat} {k:Int} {t:Tok} {v:Value} {Q:Unit→Shared→Prop} (hl:s.heap.get? l = some (listO items n))
  (h0:0 ≤ k) (hfit:k < 2 ^ 63) (hn:k < items.length)
  (hQ:∀ h' n',h'.get? l = some (listO (items.set k.toNat v) n')→Heap.SameBut l s.heap h'→Q () { s with heap:=h' }) :
  wpAny (model prog w) A (setItem (.ref l) (.int k t) v) Q E s:=by
 have hL:s.heap.IsList l items.toArray:=⟨_,hl,rfl,n,rfl⟩
 unfold setItem
 try with_reducible refine wpAny_holding ?_
 first | refine wpAny_bind (wpAny_pure ?_) | skip
 refine wpAny_bind (wpAny_sequenceKey hL.typeIs (by decide) ?_)
 refine wpAny_bind (wpAny_callSpecial?_slot (name:=Str.ofString "__setitem__") hL.typeIs slot_list_setitem
  (wpAny_call_entry slot_list_setitem hL.typeIs entry_list_setitem ?_ (args_list_setitem _ _ _)))
 show wpAny _ _ (Builtin.List.listSubscript? (.int k t) >>= _) _ _ s
 refine wpAny_bind (wpAny_listSubscript_int (fitsIndex_of h0 hfit) ?_)
 clear hfit
 obtain ⟨j,rfl⟩:=Int.eq_ofNat_of_zero_le h0
 have hj:j < items.toArray.size:=by simp only [List.size_toArray];lia
 have hx':items.toArray[j]? = some items.toArray[j]:=Array.getElem?_eq_getElem hj
 refine wpAny_bind (wpAny_bind (wpAny_seqItemAt hl rfl (wpAny_pure ?_)))
 rw [hx']
 have hfin:∃ n',(s.heap.update l (Obj.mapSeq (·.setIfInBounds j v))).get? l = some (listO (items.set j v) n') :=
  ⟨_,by rw [Heap.get?_update_self _ hl (by simp only [Obj.mapSeq];rfl)];simp only [Obj.mapSeq,List.setIfInBounds_toArray];rfl⟩
 refine Classical.byContradiction fun hcon=>?_
 refine (hfin).elim fun n' hfin=>?_
 refine hcon ?_
 refine wpAny_bind (wpAny_setSeqItemAt hl rfl ?_)
 first
  | exact wpAny_bind (wpAny_pure (wpAny_pure ⟨.none,rfl,wpAny_pure (hQ _ n' hfin (Heap.SameBut.update ..))⟩))
  | exact wpAny_pure ⟨.none,rfl,wpAny_pure (hQ _ n' hfin (Heap.SameBut.update ..))⟩
theorem swaps_sub (v:Expr) (o i:Expr) (p:Pos) (l:Nat):swapsWith v (some (.Subscript o i p)) l env = pure false:=by cases v <;> rfl
theorem snd_seti (O:W.Ok) {N n:Nat} {x:Str} {xp sp p:Pos} {j v:Expr} {i:Nat} {y z:X} (hn:cN cx x = some i) (hy:cE W.G n cx j = some y) (hz:cE W.G n cx v = some z):SndS W N cx (.Assign [.Subscript (.Name x xp) j sp] v p) (.seti i y z) :=
 fun A E env R st st' s fl Q ga eo r hx hQ=>oS_el hx fun u st₁ e1 hx=>oR_el hx fun m e2 hx=>oSI_el hx fun k st₂ e3 hx=>oMl_el hx fun l e4 hx=>oG hx fun hk hx =>
  wpAny_Assign_Subscript ((cE_ok O n cx _ _ hz).val ga eo r e1 fun R₁ s₁ val a₁ r₁ v₁=>name_ok r₁ (eo.step a₁) hn e2 fun ov v₂=>(cE_ok O n cx _ _ hy).val ga (eo.step a₁) r₁ e3 fun R₂ s₂ iv a₂ r₂ v₃=>mref_el v₂ fun a f hmu=>mu_el r₂ e4 (a₂.mu _ _ hmu) fun hmu₂ its q h1 h2 h3=>by
   cases v₃
   have h0:=of_decide_eq_true (and_l hk)
   have hlt:=of_decide_eq_true (and_r hk)
   exact setItem_exact h1 h0 (by omega) (by rw [h2.length];exact hlt) fun h' n' g1 g2=>(r₂.put (tk:=s₂.toks) e4 hmu₂ g2 g1 (VRs.set (a₂.vr v₁) k.toNat h2) (by rw [List.length_set];exact h3)).elim fun r₄ a₄=>hQ.nx hx R₂ _ ((a₁.trans a₂).trans a₄) r₄) (swaps_sub _ _ _ _ _)
structure DelOk (k:Int) (l:List V) (its:List Value) (Z:Addr→Prop) (mu:List (List Addr)) (h:Heap):Prop where
 ix:seqIndex? k its.toArray.size = some (if k = 0 then 0 else its.length - 1)
 row:VRs Z mu h (if (k == 0) = true then l.drop 1 else l.take (l.length - 1)) (its.eraseIdx (if k = 0 then 0 else its.length - 1))
theorem del_ok {k:Int} {l:List V} {its:List Value} {Z:Addr→Prop} {mu:List (List Addr)} {h:Heap} (hk:k = 0 ∨ k = -1) (hl:(!l.isEmpty) = true) (r:VRs Z mu h l its):DelOk k l its Z mu h:=by
 have hlen:=r.length
 have hpos:0 < l.length:=by cases l with | nil=>exact Bool.noConfusion hl | cons=>exact Nat.succ_pos _
 rcases hk with rfl | rfl
 ·refine ⟨?_,?_⟩
  ·unfold seqIndex?
   rw [List.size_toArray,if_neg (Int.lt_irrefl 0),if_pos rfl,if_pos (by rw [decide_eq_true (Int.le_refl 0),decide_eq_true (Int.natCast_pos.mpr (hlen ▸ hpos))];rfl)];rfl
  ·have:its.eraseIdx 0 = its.drop 1:=by cases its <;> rfl
   show VRs Z mu h (l.drop 1) (its.eraseIdx 0)
   rw [this];exact r.drop 1
 ·refine ⟨?_,?_⟩
  ·unfold seqIndex?
   rw [List.size_toArray]
   dsimp only [show (-1:Int) < 0 by decide,if_true,show ¬ (-1:Int) = 0 by decide,if_false]
   rw [if_pos (by rw [decide_eq_true (by lia),decide_eq_true (by lia)];rfl)]
   exact congrArg some toNat_m1
  ·have:its.eraseIdx (its.length - 1) = its.take (its.length - 1):=by
    rw [List.eraseIdx_eq_take_drop_succ,List.drop_of_length_le (Nat.le_add_of_sub_le (Nat.le_refl _)),List.append_nil]
   show VRs Z mu h (l.take (l.length - 1)) (its.eraseIdx (its.length - 1))
   rw [this,hlen];exact r.take _
theorem snd_del (O:W.Ok) {N n:Nat} {x:Str} {xp sp p:Pos} {j:Expr} {i:Nat} {y:X} (hn:cN cx x = some i) (hy:cE W.G n cx j = some y):SndS W N cx (.Delete [.Subscript (.Name x xp) j sp] p) (.del i y) :=
 fun A E env R st st' s fl Q ga eo r hx hQ=>oR_el hx fun m e1 hx=>oSI_el hx fun k st₁ e2 hx=>oMl_el hx fun l e4 hx=>oG hx fun hk hx =>
  wpAny_Delete (wpAny_deleteEach_cons (wpAny_delete_Subscript (name_ok r eo hn e1 fun ov v₂=>(cE_ok O n cx _ _ hy).val ga eo r e2 fun R₂ s₂ iv a₂ r₂ v₃=>mref_el v₂ fun a f hmu=>mu_el r₂ e4 (a₂.mu _ _ hmu) fun hmu₂ its q h1 h2 h3=>by
   cases v₃
   have hk0:k = 0 ∨ k = -1:=(Bool.or_eq_true_iff.mp (and_l hk)).imp eq_of_beq eq_of_beq
   have D:=del_ok hk0 (and_r hk) h2
   refine delItem_at h1 (by rcases hk0 with rfl | rfl <;> decide) D.ix (fun h' g2 g1=>wpAny_deleteEach_nil ?_) (by simp only [List.size_toArray,h2.length];exact limL h3)
   exact (r₂.put (tk:=s₂.toks) e4 hmu₂ g2 (by simpa using g1) D.row (Nat.le_trans (by split;exact (by simp only [List.length_drop];exact Nat.sub_le _ _);exact (by simp only [List.length_take];exact Nat.min_le_right _ _)) h3)).elim fun r₄ a₄=>hQ.nx hx R₂ _ (a₂.trans a₄) r₄)))
theorem snd_app (O:W.Ok) {N n:Nat} {x:Str} {xp ap cp p:Pos} {e:Expr} {i:Nat} {y:X} (hn:cN cx x = some i) (hy:cE W.G n cx e = some y) (hl:(ap.endLine == cp.line) = true):SndS W N cx (.Expr (.Call (.Attribute (.Name x xp) "append" ap) [e] [] cp) p) (.app i y):=by
 have hs:∀ env,starEach [e] env = [(false,eval e env)]:=fun env=>star_cons (cE_star hy)
 exact fun A E env R st st' s fl Q ga eo r hx hQ=>oR_el hx fun m e1 hx=>oMl_el hx fun l₀ e2 hx=>oS_el hx fun v st₁ e3 hx=>oMl_el hx fun l e4 hx=>oG hx fun hk hx =>
  wpAny_Expr (wpAny_Call_append (base_plain rfl _) (by rw [hs];rfl) hl (by rw [hs];rfl) (name_ok r eo hn e1 fun ov v₂=>mref_el v₂ fun a f hmu=>mu_el r e2 hmu fun _ its q h1 h2 h3 =>
   ⟨a,its.toArray,rfl,⟨_,q,h1,rfl,rfl,rfl⟩,(cE_ok O n cx _ _ hy).val ga eo r e3 fun R₂ s₂ u a₂ r₂ v₃=>mu_el r₂ e4 (a₂.mu _ _ hmu) fun hmu₂ its' q' g1 g2 g3 =>
    wpAny_list_append_plain (items:=its'.toArray) ⟨q',g1⟩ (fun h' hp hsb=>hp.elim fun n' hp=>by
     rw [show (its'.toArray.push u) = (its' ++ [u]).toArray by simp] at hp
     have hk:=of_decide_eq_true hk
     exact (r₂.put (tk:=s₂.toks) e4 hmu₂ hsb hp (g2.append (.cons v₃ .nil)) (by rw [List.length_append];exact Nat.le_trans (Nat.succ_le_succ hk) (by decide))).elim fun r₄ a₄=>hQ.nx hx R₂ _ (a₂.trans a₄) r₄) (by simp only [List.size_toArray,g2.length];exact limL g3)⟩)) (by unfold interactive;rw [eo.kind];rfl)
theorem lex_of {m:Mo} (h:m.isLex = true):∃ left line l,m = .lex left line l:=by cases m <;> first | exact ⟨_,_,_,rfl⟩ | exact fat h
theorem snd_push (O:W.Ok) {N n:Nat} {x:Str} {xp ap cp p:Pos} {e:Expr} {i:Nat} {y:X} (hn:cN cx x = some i) (hy:cE W.G n cx e = some y) (hl:(ap.endLine == cp.line) = true):SndS W N cx (.Expr (.Call (.Attribute (.Name x xp) "push_token" ap) [e] [] cp) p) (.push i y):=by
 have hs:∀ env,starEach [e] env = [(false,eval e env)]:=fun env=>star_cons (cE_star hy)
 refine fun A E env R st st' s fl Q ga eo r hx hQ=>oR_el hx fun m e1 hx=>oB hx fun mo e2 hx=>oG hx fun hm hx=>oS_el hx fun v st₁ e3 hx=>hQ.map (f:=id) hx fun st₂ e4 hQ=>wpAny_Expr ?_ (by unfold interactive;rw [eo.kind];rfl)
 refine Classical.byContradiction fun hcon=>?_
 obtain ⟨left,line,l₀,rfl⟩:=lex_of hm
 refine hcon ?_
 rw [arm_eval_Call,base_plain rfl,hs]
 exact wpAny_bind (name_ok r eo hn e1 fun val hval=>wpAny_bind (wpAny_standAt (mref_el hval fun a f hmu=>O.push A E env x xp ap cp (eval e env) R st s m a f _ ga hl r hmu ⟨_,_,_,e2⟩ ((cE_ok O n cx _ _ hy).val ga eo r e3 fun R₂ s₂ u a₂ r₂ v₃ =>
  ⟨R₂,st₁,st₂,v,a₂,r₂,v₃,e4,fun R₃ s₃ a₃ r₃=>hQ R₃ s₃ (a₂.trans a₃) r₃⟩))))
theorem snd_if (O:W.Ok) {N n:Nat} {c:Expr} {a b:List Stmt} {p:Pos} {z:X} {x y:S} (hc:cE W.G n cx c = some z) (ha:SndB W N cx a x) (hb:SndB W N cx b y):SndS W N cx (.If c a b p) (.ite z x y) :=
 fun A E env R st st' s fl Q ga eo r hx hQ=>oE_el hx
  (fun _ e1 hx=>wpAny_If ((cE_ok O n cx _ _ hc).tru ga eo r e1 (fun _ _ a₁ r₁=>ha ga (eo.step a₁) r₁ hx (hQ.step a₁)) _ (.inr rfl)))
  fun _ e1 hx=>wpAny_If ((cE_ok O n cx _ _ hc).tru ga eo r e1 (fun _ _ a₁ r₁=>hb ga (eo.step a₁) r₁ hx (hQ.step a₁)) _ (.inr rfl))
theorem snd_ret (O:W.Ok) {N n:Nat} {e:Expr} {p:Pos} {y:X} (hy:cE W.G n cx e = some y):SndS W N cx (.Return (some e) p) (.ret y) :=
 fun A E env R st st' s fl Q ga eo r hx hQ=>oS_el hx fun _ _ e1 hx=>wpAny_Return_some ((cE_ok O n cx _ _ hy).val ga eo r e1 fun R₁ s₁ val a₁ r₁ v₁=>hQ.rt hx R₁ s₁ val a₁ r₁ v₁)
theorem snd_assert (O:W.Ok) {N n:Nat} {e:Expr} {p:Pos} {y:X} (hy:cE W.G n cx e = some y):SndS W N cx (.Assert e none p) (.assert y) :=
 fun A E env R st st' s fl Q ga eo r hx hQ=>oE_el hx (fun _ e1 hx=>wpAny_Assert_new ga.1 ((cE_ok O n cx _ _ hy).tru ga eo r e1 (fun R₁ s₁ a₁ r₁=>by exact hQ.nx hx R₁ s₁ a₁ r₁) _ (.inr rfl))) fun _ _ hx=>nso hx
theorem snd_frz {N:Nat} {p:Stmt} {i:Nat} {x:S} (h:SndS W N cx p x):SndS W N cx p (.seq (.frz i) x) :=
 fun A E env R st st' s fl Q ga eo r hx hQ=>oF_el hx (fun st₁ e1 hx=>oR_el e1 fun n e2 e1=>oMl_el e1 fun l e3 e1=>by
  cases e1
  exact (r.freeze e2 e3).elim fun R₁ q=>h ga (eo.step q.2) q.1 hx (hQ.step q.2)) fun v st₁ e1 _=>oR_el e1 fun n e2 e1=>oMl_el e1 fun l e3 e1=>by cases e1
theorem snd_while (O:W.Ok) {N n:Nat} {c:Expr} {a:List Stmt} {p:Pos} {z:X} {x:S} (hc:cE W.G n cx c = some z) (ha:SndB W N cx a x):SndS W N cx (.While c a [] p) (.whl z x):=by
 intro A E env R st st' s fl Q ga eo r hx hQ
 refine wpAny_While (codeAny_whileLoop (fun m s₁=>∃ R₁ st₁,Step R s R₁ s₁ ∧ Rel W.I W.B W.os R₁ st₁ s₁ ∧ whl (evT W.C z) (ex W.C N x) m st₁ = some (fl,st')) ?_ N ⟨R,st,.refl _ _,r,hx⟩)
 rintro m s₁ ⟨R₁,st₁,a₁,r₁,hx₁⟩
 cases m with
 | zero=>exact nso hx₁
 | succ m =>
  refine oE_el hx₁ (fun st₂ e1 hx₁=>(cE_ok O n cx _ _ hc).tru ga (eo.step a₁) r₁ e1 (fun R₂ s₂ a₂ r₂=>oF_el hx₁
   (fun st₃ e2 hx₁=>ha ga (eo.step (a₁.trans a₂)) r₂ e2 fun R₃ s₃ a₃ r₃=>⟨m,Nat.lt_succ_self _,R₃,st₃,(a₁.trans a₂).trans a₃,r₃,hx₁⟩)
   fun v st₃ e2 hx₁=>?_) _ (.inr rfl)) fun st₂ e1 hx₁=>(cE_ok O n cx _ _ hc).tru ga (eo.step a₁) r₁ e1 (fun R₂ s₂ a₂ r₂=>?_) _ (.inr rfl)
  ·cases hx₁
   exact ha ga (eo.step (a₁.trans a₂)) r₂ e2 fun R₃ s₃ val a₃ r₃ v₃=>hQ R₃ s₃ val ((a₁.trans a₂).trans a₃) r₃ v₃
  ·exact wpAny_execs_nil (hQ.nx hx₁ R₂ s₂ (a₁.trans a₂) r₂)
noncomputable abbrev loopF (C:Con) (N:Nat) (t:Tg) (b:S):V→St→Option (Fl × St):=fun v st=>(setTg st t v).bind fun st=>ex C N b st
structure WkG (W:Wd prog w) (A:Around) (tg:Expr) (itv:Value) (l:List V) (gs:Nat→Prop) (J:List Addr→Nat→RS→Shared→Prop):Prop where
 alive:∀ {fp:List Addr} {k:Nat} {R:RS} {s:Shared},J fp k R s→∀ b ∈ fp,∃ o,s.heap.get? b = some o
 frame:∀ {fp:List Addr} {k:Nat} {R R':RS} {s s':Shared},J fp k R s→(∀ b,R.Z b→R'.Z b)→MuExt R.mu R'.mu→(∀ b,R.Z b ∨ b ∈ fp→s'.heap.get? b = s.heap.get? b)→(∀ (g:Nat) x,s.gens[g]? = some x→s'.gens[g]? = some x)→J fp k R' s'
 item:∀ {fp:List Addr} {k:Nat} {v:V} {R:RS} {st:St} {s:Shared} {Q:Value→Shared→Prop} {E:Value→Shared→Prop},l[k]? = some v→J fp k R s→Rel W.I W.B W.os R st s→ApartFp W.I fp R →
  (∀ fp' R' s' val,(∀ b ∈ fp,b ∈ fp')→(∀ b ∈ fp',b ∈ fp ∨ s.heap.get? b = none)→StepX (· ∈ fp) gs R s R' s'→Rel W.I W.B W.os R' st s'→ApartFp W.I fp' R'→VR R'.Z R'.mu s'.heap v val→J fp' (k + 1) R' s'→Q val s') →
  wpAny (model prog w) A (pyNext itv) (fun r s₁=>∃ val,r = some val ∧ wpAny (model prog w) A (letOwnedTupleGo tg itv val) (fun _ s₂=>Q val s₂) E s₁) E s
 done:∀ {fp:List Addr} {R:RS} {st:St} {s:Shared} {Q:Shared→Prop} {E:Value→Shared→Prop},J fp l.length R s→Rel W.I W.B W.os R st s→ApartFp W.I fp R →
  (∀ R' s',StepX (· ∈ fp) gs R s R' s'→Rel W.I W.B W.os R' st s'→Q s')→wpAny (model prog w) A (pyNext itv) (fun r s₁=>r = none ∧ Q s₁) E s
theorem Wk.toG {tg:Expr} {itv:Value} {l:List V} {fp:List Addr} {gs:Nat→Prop} {J:Nat→RS→Shared→Prop} (K:Wk W A tg itv l fp gs J):WkG W A tg itv l gs fun fp' k R s=>fp' = fp ∧ J k R s where
 alive:=fun j=>j.1 ▸ K.alive j.2
 frame:=fun j a b c d=>⟨j.1,K.frame j.2 a b (j.1 ▸ c) d⟩
 item:=fun hl j r ap hQ=>by
  cases j.1
  exact K.item hl j.2 r ap fun R' s' val a r' ap' v j'=>hQ _ R' s' val (fun _ h=>h) (fun _ h=>.inl h) a r' ap' v ⟨rfl,j'⟩
 done:=fun j r ap hQ=>by
  cases j.1
  exact K.done j.2 r ap fun s' a r'=>hQ _ s' a r'
inductive FInv (W:Wd prog w) (l:List V) (gs:Nat→Prop) (J:List Addr→Nat→RS→Shared→Prop) (f:V→St→Option (Fl × St)) (z:Fl × St) (fp₀:List Addr) (R:RS) (s:Shared):Nat→Shared→Prop
 | mk {fp:List Addr} {k:Nat} {R₁:RS} {st₁:St} {s₁:Shared}:k ≤ l.length→(∀ b ∈ fp₀,b ∈ fp)→(∀ b ∈ fp,b ∈ fp₀ ∨ s.heap.get? b = none)→StepX (fun c=>c ∈ fp₀ ∨ s.heap.get? c = none) gs R s R₁ s₁→J fp k R₁ s₁→Rel W.I W.B W.os R₁ st₁ s₁→ApartFp W.I fp R₁→loop f (l.drop k) st₁ = some z →
  FInv W l gs J f z fp₀ R s (l.length - k) s₁
theorem for_walkG {N:Nat} {tg:Expr} {t:Tg} {itv:Value} {l:List V} {fp₀:List Addr} {gs:Nat→Prop} {J:List Addr→Nat→RS→Shared→Prop} {body:List Stmt} {b:S} {fl:Fl} {RR:Result→Shared→Prop}
  (K:WkG W A tg itv l gs J) (hb:SndB W N cx body b) (ht:cT cx tg = some t) (ga:GA W.lev A) (eo:EnvOk cx env R.dt) (j:J fp₀ 0 R s) (r:Rel W.I W.B W.os R st s) (ap:ApartFp W.I fp₀ R) (hx:loop (loopF W.C N t b) l st = some (fl,st'))
  (h:match fl with
   | .next=>∀ R' s',StepX (fun c=>c ∈ fp₀ ∨ s.heap.get? c = none) gs R s R' s'→Rel W.I W.B W.os R' st' s'→RR (.ok .next) s'
   | .ret v=>∀ R' s' val,StepX (fun c=>c ∈ fp₀ ∨ s.heap.get? c = none) gs R s R' s'→Rel W.I W.B W.os R' st' s'→VR R'.Z R'.mu s'.heap v val→RR (.ok (.ret val)) s') :
  codeAny (model prog w) A (.forLoop tg itv body [] env) RR s:=by
 refine codeAny_forLoop_any (FInv W l gs J (loopF W.C N t b) (fl,st') fp₀ R s) ?_ l.length (.mk (k:=0) (Nat.zero_le _) (fun _ z=>z) (fun _ z=>.inl z) (.refl _ _) j r ap hx)
 intro m s₁ hI
 cases hI with | @mk fp k R₁ st₁ _ hk hsub hfp a₁ j₁ r₁ ap₁ hx₁ =>
 have na:∀ {c} {P:Prop},s.heap.get? c = none→(∃ o,s.heap.get? c = some o)→P:=fun e ho=>ho.elim fun o ho=>by rw [e] at ho;exact nso ho
 have hX:∀ c,(c ∈ fp₀ ∨ s.heap.get? c = none)→(∃ o,s.heap.get? c = some o)→∃ o,s₁.heap.get? c = some o:=fun c hc ho=>hc.elim (fun hc=>K.alive j₁ c (hsub c hc)) fun e=>na e ho
 by_cases hlt:k < l.length
 ·rw [List.drop_eq_getElem_cons hlt] at hx₁
  refine wpAny_mono (K.item (v:=l[k]) (List.getElem?_eq_getElem hlt) j₁ r₁ ap₁ (Q:=fun val s₂=>wpAny (model prog w) A (assign tg env val) (fun _ s₂=>wpAny (model prog w) A (execs body env) (fun f s₃=>match f with
     | .next | .cont=>∃ m,m < l.length - k ∧ FInv W l gs J (loopF W.C N t b) (fl,st') fp₀ R s m s₃
     | .brk=>RR (.ok .next) s₃
     | .ret v=>RR (.ok (.ret v)) s₃) (notedBy (model prog w) A env fun e s'=>RR (.error e) s') s₂) (notedBy (model prog w) A env fun e s'=>RR (.error e) s') s₂) (E:=notedBy (model prog w) A env fun e s'=>RR (.error e) s') fun fp₂ R₂ s₂ val hs₂ hn₂ a₂ r₂ ap₂ v₂ j₂=>?_) (fun o s' ho=>?_) fun _ _ x=>x
  rotate_left
  ·obtain ⟨val,rfl,ho⟩:=ho;exact ho
  have al₂:∀ b ∈ fp₂,∃ o,s₂.heap.get? b = some o:=K.alive j₂
  have a12:=a₁.transX a₂ hX fun c hc=>.inl (hfp c hc)
  have eop:EnvOk cx env (R₂.prot fp₂).dt:=by show EnvOk cx env R₂.dt;simp only [a12.dt];exact eo
  refine oF_el hx₁ (fun st₄ e1 hx₁=>oB e1 fun st₃ e1 e2=>tg_ok ga.1 (r₂.prot ap₂ al₂) eop ht v₂ e1 fun R₃ s₃ a₃ r₃=>hb ga (eop.step a₃) r₃ e2 fun R₄ s₄ a₄ r₄=>?_)
   fun v st₄ e1 hx₁=>oB e1 fun st₃ e1 e2=>tg_ok ga.1 (r₂.prot ap₂ al₂) eop ht v₂ e1 fun R₃ s₃ a₃ r₃=>hb ga (eop.step a₃) r₃ e2 fun R₄ s₄ val a₄ r₄ v₄=>?_
  ·have q:=(a₃.trans a₄).unprot r₄ ap₂ al₂
   refine ⟨l.length - (k + 1),sub_lt1 hlt,.mk (fp:=fp₂) (k:=k + 1) hlt (fun b z=>hs₂ b (hsub b z)) (fun b hb=>(hn₂ b hb).elim (hfp b) fun e=>?_) (a12.then q.a fun c hc ho=>hc.elim (fun hc=>al₂ c (hs₂ c (hsub c hc))) fun e=>na e ho)
    (K.frame j₂ q.a.Z q.a.mu (fun c hc=>hc.elim (fun z=>q.a.keep c (.inl z)) (q.hp c)) q.a.gens) q.r q.ap hx₁⟩
   refine Classical.byContradiction fun z=>?_
   cases q:s.heap.get? b with
   | none=>exact z (.inr q)
   | some o=>obtain ⟨o',e'⟩:=a₁.alive b o z q;rw [e] at e';exact nso e'
  ·have q:=(a₃.trans a₄).unprot r₄ ap₂ al₂
   cases hx₁
   exact h _ s₄ val (a12.then q.a fun c hc ho=>hc.elim (fun hc=>al₂ c (hs₂ c (hsub c hc))) fun e=>na e ho) q.r v₄
 ·have hkl:k = l.length:=by omega
  subst hkl
  rw [List.drop_length] at hx₁
  cases hx₁
  refine wpAny_mono (K.done j₁ r₁ ap₁ (E:=notedBy (model prog w) A env fun e s'=>RR (.error e) s') (Q:=fun s₂=>RR (.ok .next) s₂) fun R₂ s₂ a₂ r₂=>?_) (fun o s' ho=>?_) fun _ _ x=>x
  ·exact h R₂ s₂ (a₁.transX a₂ hX fun c hc=>.inl (hfp c hc)) r₂
  ·obtain ⟨rfl,ho⟩:=ho;exact wpAny_execs_nil ho
theorem snd_for (O:W.Ok) {N:Nat} {tg it:Expr} {t:Tg} {body:List Stmt} {b:S} {p:Pos} {y:X} (hI:SndI W cx tg it y) (hns:notSet it = true) (ht:cT cx tg = some t) (hb:SndB W N cx body b):SndS W N cx (.For tg it body [] p) (.for_ t y b) :=
 fun A E env R st st' s fl Q ga eo r hx hQ=>oS_el hx fun xv st₁ e1 hx=>oB hx fun l e2 hx =>
  wpAny_For (hI ga eo r e1 e2 fun R₁ s₁ itv fp J a₁ r₁ K j₁ hnew ap₁=>for_walkG K.toG hb ht ga (eo.step a₁) ⟨rfl,j₁⟩ r₁ ap₁ hx (by
   have hn:∀ c,(c ∈ fp ∨ s₁.heap.get? c = none)→s.heap.get? c = none:=fun c hc=>hc.elim (hnew c) (none_back a₁.alive)
   cases fl with
   | next=>exact fun R₂ s₂ a₂ r₂=>hQ R₂ s₂ (a₁.thenX a₂ hn fun _ q=>q.elim) r₂
   | ret v=>exact fun R₂ s₂ val a₂ r₂ v₂=>hQ R₂ s₂ val (a₁.thenX a₂ hn fun _ q=>q.elim) r₂ v₂)) (folded_plain hns)
end
section
variable {prog:Program} {w:World} {W:Wd prog w} {cx cx':Cx} {A:Around} {E:Value→Shared→Prop} {env:Env} {R R':RS} {st st':St} {s s':Shared}
structure LvOk (W:Wd prog w) (cx:Cx) (ts es:List Expr) (xs:X):Prop where
 snd:SndL W cx es xs
 len:∀ {vs st st'},ev W.C xs st = some (.list vs,st')→vs.length = es.length
 star:(es.any fun | .Starred ..=>true | _=>false) = false
 same:ts.length = es.length
theorem cLv_ok (O:W.Ok) {n:Nat} {M:List Str}:∀ (ts es:List Expr) (xs:X),cLv W.G n cx M ts es = some xs→LvOk W cx ts es xs:=by
 intro ts
 induction ts with
 | nil =>
  intro es xs h
  refine oG h fun h1 h2=>?_
  cases nil_of h1
  obtain rfl:=Option.some.inj h2
  exact ⟨sndL_nil,fun {vs st st'} e=>by cases e;rfl,rfl,rfl⟩
 | cons t ts ih =>
  intro es xs h
  cases es with
  | nil=>exact nso h
  | cons e es =>
   refine oB h fun x hx h=>oG h fun hs h=>oM2 h fun y ys h1 h2=>?_
   have i:=ih es ys h2
   refine ⟨sndL_cons (notStar_ne hs) (cV_ok O h1) i.snd,fun {vs st st'} e0=>oS_el e0 fun _ _ _ e0=>oSL_el e0 fun _ _ e2 e0=>by cases e0;exact congrArg (· + 1) (i.len e2),?_,congrArg Nat.succ i.same⟩
   simp only [List.any_cons,i.star,Bool.or_false]
   cases e with
   | Starred a q=>exact fat hs
   | _=>rfl
noncomputable abbrev takes (env:Env) (line:Nat) (ts:List Expr):List Str:=ts.filterMap fun
  | .Name id pos=>if env.kindOf id == some .local && pos.line == line then some id else none
  | _=>none
theorem names_of {line:Nat} {ts:List Expr}:∀ {is:List Nat},cSls cx ts = some is→(takes env line ts).length = ts.length→cSls cx ((takes env line ts).map fun x=>.Name x ⟨0,0,0,0⟩) = some is:=by
 induction ts with
 | nil=>intro _ h _;exact h
 | cons t ts ih =>
  intro is h
  refine oM2 h fun i is' h1 h2=>?_
  revert h1
  refine fun h1=>slot_el (P:=fun t=>cSl cx t = some i→(takes env line (t :: ts)).length = (t :: ts).length→cSls cx ((takes env line (t :: ts)).map fun x=>.Name x ⟨0,0,0,0⟩) = some (i :: is')) h1 (fun x p _ h1 hl=>?_) h1
  have hle:(takes env line ts).length ≤ ts.length:=List.length_filterMap_le _ _
  cases q:(env.kindOf x == some .local && p.line == line) with
  | true =>
   have e:takes env line (.Name x p :: ts) = x :: takes env line ts:=by unfold takes;simp only [List.filterMap_cons];simp only [q];rfl
   rw [e] at hl ⊢
   show map2 List.cons (cSl cx (.Name x p)) _ = _
   simp only [h1,ih h2 (Nat.succ.inj hl)];rfl
  | false =>
   have e:takes env line (.Name x p :: ts) = takes env line ts:=by unfold takes;simp only [List.filterMap_cons];simp only [q];rfl
   rw [e] at hl
   exact absurd hle (by simp only [hl];exact Nat.not_succ_le_self _)
theorem cSls_app {ts:List Expr} {is:List Nat} (h':cSls cx ts = some is) {us:List Expr}:∀ {js:List Nat},cSls cx us = some js→cSls cx (us ++ ts) = some (js ++ is):=by
 induction us with
 | nil=>intro _ h;obtain rfl:=Option.some.inj h;exact h'
 | cons u us ih =>
  intro _ h
  refine oM2 h fun j js h1 h2=>?_
  show map2 List.cons (cSl cx u) (cSls cx (us ++ ts)) = _
  simp only [h1,ih h2];rfl
theorem cSls_rev {ts:List Expr}:∀ {is:List Nat},cSls cx ts = some is→cSls cx ts.reverse = some is.reverse:=by
 induction ts with
 | nil=>intro _ h;obtain rfl:=Option.some.inj h;rfl
 | cons t ts ih =>
  intro _ h
  refine oM2 h fun i is h1 h2=>?_
  simp only [List.reverse_cons,List.reverse_cons]
  exact cSls_app (by show map2 List.cons (cSl cx t) (some []) = _;simp only [h1];rfl) (ih h2)
theorem setAll_comm {i:Nat} {v:V} {is:List Nat}:∀ {vs:List V} {st:St},i ∉ is→setAll (st.set i v) is vs = (setAll st is vs).map fun s=>s.set i v:=by
 induction is with
 | nil=>intro vs st _;cases vs <;> rfl
 | cons j is ih =>
  intro vs st h
  cases vs with
  | nil=>rfl
  | cons w vs =>
   have e:(st.set i v).set j w = (st.set j w).set i v:=congrArg (fun l=>St.mk l st.mu) (List.set_comm _ _ fun e=>h (e ▸ .head _))
   show setAll ((st.set i v).set j w) is vs = _
   rw [e];exact ih fun hi=>h (.tail _ hi)
theorem setAll_snoc {i:Nat} {v:V} {is:List Nat}:∀ {vs:List V} {st st':St},setAll st is vs = some st'→setAll st (is ++ [i]) (vs ++ [v]) = some (st'.set i v):=by
 induction is with
 | nil=>intro vs st st' h;refine oG h fun h1 h=>?_;cases nil_of h1;obtain rfl:=Option.some.inj h;rfl
 | cons j is ih =>
  intro vs st st' h
  cases vs with
  | nil=>exact nso h
  | cons w vs=>exact ih (vs:=vs) h
theorem setAll_rev {is:List Nat}:∀ {vs:List V} {st st':St},is.Nodup→setAll st is vs = some st'→setAll st is.reverse vs.reverse = some st':=by
 induction is with
 | nil=>intro vs st st' _ h;refine oG h fun h1 h'=>?_;cases nil_of h1;exact h'
 | cons i is ih =>
  intro vs st st' hn h
  cases vs with
  | nil=>exact nso h
  | cons v vs =>
   have hn:=List.nodup_cons.mp hn
   refine (oI ((setAll_comm hn.1).symm.trans h)).elim fun s1 h3=>?_
   simp only [List.reverse_cons,List.reverse_cons,h3.2]
   exact setAll_snoc (ih hn.2 h3.1)
theorem binds_ok {xs:List Str}:∀ {is:List Nat} {vs:List V} {vals:List Value} {R:RS} {st st':St} {s:Shared} {Q:Unit→Shared→Prop},Rel W.I W.B W.os R st s→EnvOk cx env R.dt→cSls cx (xs.map fun x=>.Name x ⟨0,0,0,0⟩) = some is→VRs R.Z R.mu s.heap vs vals→setAll st is vs = some st' →
  PostU W.I W.B W.os R s st' Q→wpAny (model prog w) A (assignInOrder (xs.map fun n=>bindName env n) vals) Q E s:=by
 induction xs with
 | nil =>
  intro is vs vals R st st' s Q r eo hs hv ha h
  obtain rfl:=Option.some.inj hs
  cases hv with
  | nil=>obtain rfl:=Option.some.inj ha;exact wpAny_pure (h R s (.refl _ _) r)
  | cons=>exact nso ha
 | cons x xs ih =>
  intro is vs vals R st st' s Q r eo hs hv
  refine oM2 hs fun i is' h1 h2 ha h=>?_
  cases hv with
  | nil=>exact nso ha
  | cons r1 rs=>exact wpAny_bind (wpAny_holding (wpAny_bindName (store_ok r eo (slot_at h1) r1 fun R₁ s₁ a₁ r₁=>ih r₁ (eo.step a₁) h2 (a₁.vrs rs) ha fun R₂ s₂ a₂ r₂=>h R₂ s₂ (a₁.trans a₂) r₂)))
theorem ifs {α:Type} {a b u:α} {C1 C2 C3 C4 C5:Prop} [Decidable C1] [Decidable C2] [Decidable C3] [Decidable C4] [Decidable C5] (h2:¬ C2) (h5:C5→C4) :
  (if C1 then a else if C2 then a else if C3 then a else if C4 then a else if C5 then u else b) = a ∨ ((if C1 then a else if C2 then a else if C3 then a else if C4 then a else if C5 then u else b) = b ∧ ¬ C3):=by
 by_cases h1:C1
 ·exact .inl (if_pos h1)
 rw [if_neg h1,if_neg h2]
 by_cases h3:C3
 ·exact .inl (if_pos h3)
 rw [if_neg h3]
 by_cases h4:C4
 ·exact .inl (if_pos h4)
 rw [if_neg h4,if_neg fun h=>h4 (h5 h)]
 exact .inr ⟨rfl,h3⟩
theorem swapped_none {ts es:List Expr} {k k':Nat} {tp ep:Pos} (hc:(!(es.all (constantsAlone 8)) || es.all (foldedForSure 8)) = true) (hst:(es.any fun | .Starred ..=>true | _=>false) = false) {is:List Nat} (his:cSls cx ts = some is) :
  swappedStores [.Tuple ts k tp] (.Tuple es k' ep) env = pure none ∨ ∃ ns:List Str,swappedStores [.Tuple ts k tp] (.Tuple es k' ep) env = pure (some ns) ∧ ns.length = ts.length ∧ cSls cx (ns.map fun x=>.Name x ⟨0,0,0,0⟩) = some is:=by
 refine (ifs (fun q=>Bool.noConfusion (q.symm.trans hst)) fun h5=>by rw [h5] at hc;exact hc).imp id fun h=>?_
 have h2:=h.2
 rw [Bool.or_eq_true,not_or,bne_iff_ne,Decidable.not_not] at h2
 exact ⟨_,h.1,h2.1,names_of his h2.1⟩
theorem each_n (env:Env) (l:List Expr):(assignEach l env).length = l.length:=by
 induction l with
 | nil=>rfl
 | cons a r ih=>cases a <;> exact congrArg (· + 1) ih
theorem snd_tasg (O:W.Ok) {N n:Nat} {M:List Str} {ts es:List Expr} {k k':Nat} {tp ep p:Pos} {is:List Nat} {y:X} (his:cSls cx ts = some is) (hy:cLv W.G n cx M ts es = some y) (hd:is.Nodup) (hlen:es.length ≤ 1000)
  (hc:(!(es.all (constantsAlone 8)) || es.all (foldedForSure 8)) = true):SndS W N cx (.Assign [.Tuple ts k tp] (.Tuple es k' ep) p) (.tasg is (.tupl y)):=by
 have L:=cLv_ok O _ _ _ hy
 refine fun A E env R st st' s fl Q ga eo r hx hQ=>oST_el hx fun vs st₁ e1 hx=>hQ.map (f:=id) hx fun st₂ e2 hQ=>?_
 simp only [exec_Assign_arm]
 refine wpAny_bind (wpAny_standAt ?_)
 rw [show swapsWithSole [.Tuple ts k tp] (.Tuple es k' ep) p.line env = pure false from rfl]
 refine wpAny_bind (wpAny_pure ?_)
 rw [if_neg (by decide)]
 refine wpAny_bind ((snd_tup (k:=k') (p:=ep) L.snd hlen L.len).val ga eo r e1 fun R₁ s₁ val a₁ r₁ v₁=>?_)
 rcases swapped_none (k:=k) (k':=k') (tp:=tp) (ep:=ep) hc L.star his with e | ⟨ns,e,g2,g3⟩
 ·rw [e]
  refine wpAny_bind (wpAny_pure ?_)
  show wpAny (model prog w) A (do assignAll val ((assignEach [.Tuple ts k tp] env).map (·.2));pure .next) Q E s₁
  refine wpAny_bind ?_
  show wpAny (model prog w) A (assign (.Tuple ts k tp) env val) _ E s₁
  exact tuple_ok ga.1 r₁ (eo.step a₁) his v₁ e2 fun R₂ s₂ a₂ r₂=>wpAny_pure (hQ R₂ s₂ (a₁.trans a₂) r₂)
 ·rw [e]
  have hil:is.length = ts.length:=(each_len env his).1.symm.trans (each_n env ts)
  refine wpAny_bind (wpAny_pure ((SR.of v₁).tup_el fun a its q e4 hlen' rs=>?_))
  have hT:s₁.heap.IsTuple a its.toArray:=⟨_,e4,rfl,q,rfl⟩
  show wpAny (model prog w) A (do
   rule "assign.swapped-stores"
   let items ← unpackItems (.ref a) ns.length none
   assignInOrder (ns.reverse.map fun n=>bindName env n) items.reverse
   pure .next) Q E s₁
  refine wpAny_bind (wpAny_rule (wpAny_bind ?_))
  rw [show ns.length = its.toArray.size by simp only [g2,List.size_toArray,rs.length,← setAll_len e2,hil]]
  exact wpAny_unpackItems_tuple ga.1 hT fun h' hxb=>(r₁.keeps (h':=h') (tk:=s₁.toks) (fun b o e=>hxb b o (fun q=>by rw [q,get_size] at e;exact nso e) e)).elim fun r₂ a₂ =>
   wpAny_bind (binds_ok r₂ (eo.step (a₁.trans a₂)) (by simp only [List.map_reverse];exact cSls_rev g3) (a₂.vrs (by simpa using rs.reverse)) (setAll_rev hd e2) fun R₃ s₃ a₃ r₃=>wpAny_pure (hQ R₃ s₃ ((a₁.trans a₂).trans a₃) r₃))
noncomputable def EscOk (W:Wd prog w):Prop:=∀ x,W.G x = some .esc→∃ a o fd,W.mg x = some (.ref a) ∧ W.B a = some o ∧ o.data = .func fd ∧
 ∀ (A:Around) (E:Value→Shared→Prop) (x:T) (t:Tok) (R:RS) (st:St) (s:Shared) (Q:Value→Shared→Prop) (ts:List Expr) (k:Nat) (p:Pos),GA W.lev A→x.length ≤ 16777216→Rel W.I W.B W.os R st s →
  (∀ R' s' itv fp gs J,Step R s R' s'→Rel W.I W.B W.os R' st s'→WkG W A (.Tuple ts k p) itv (escGo 0 false x) gs J→J fp 0 R' s'→(∀ b ∈ fp,s.heap.get? b = none)→(∀ g,gs g→s.gens[g]? = none)→ApartFp W.I fp R'→Q itv s') →
  wpAny (model prog w) A (call (.ref a) [.str (strOf x) t]) (fun xv s₁=>wpAny (model prog w) A (pyIter xv) Q E s₁) E s
theorem snd_fore (O:W.Ok) (G:EscOk W) {N n:Nat} {ts:List Expr} {k:Nat} {tp gp cp p:Pos} {f:Str} {e:Expr} {y:X} {i j:Nat} {body:List Stmt} {b:S} (hG:cG W.G cx f = some .esc) (hy:cE W.G n cx e = some y) (ht:cT cx (.Tuple ts k tp) = some (.two i j))
  (hb:SndB W N cx body b):SndS W N cx (.For (.Tuple ts k tp) (.Call (.Name f gp) [e] [] cp) body [] p) (.fore i j y b):=by
 refine fun A E env R st st' s fl Q ga eo r hx hQ=>oSS_el hx fun x st₁ e1 hx=>?_
 refine (G _ (glob_kind hG eo).2.2).elim fun a k0=>k0.elim fun o k1=>k1.elim fun fd k2=>k2.elim fun hm k3=>k3.elim fun hB k4=>k4.elim fun ho hcon=>?_
 have hs:=star_cons (env:=env) (r:=[]) (cE_star hy)
 refine wpAny_For (wpAny_Call_Name_kw (glob_main O r eo hG hm (Calls.callWith_function (o:=o) (fd:=fd) (evalArgs_of (by rw [hs];rfl) (spliced_more ((cE_ok O n cx _ _ hy).val ga eo r e1 fun R₁ s₁ u a₁ r₁ v₁=>spliced_none ⟨⟨(r₁.base _ _ hB).2,ho⟩,?_⟩) hs))))) (fun _=>rfl)
 refine (SR.of v₁).str_el fun hl t=>hcon A E x _ R₁ _ s₁ _ ts k tp ga hl r₁ fun R₂ s₂ itv fp gs J a₂ r₂ K j₂ hnew hgs ap₂=>for_walkG K hb ht ga (eo.step (a₁.trans a₂)) j₂ r₂ ap₂ hx ?_
 have hnew':∀ b,(b ∈ fp ∨ s₂.heap.get? b = none)→s.heap.get? b = none:=fun b hb=>hb.elim (fun hb=>none_back a₁.alive (hnew b hb)) fun e=>none_back (a₁.trans a₂).alive e
 have hgs':∀ g,gs g→s.gens[g]? = none:=fun g hg=>by
  cases q:s.gens[g]? with
  | none=>rfl
  | some z=>have:=a₁.gens g z q;rw [hgs g hg] at this;exact nso this
 cases fl with
 | next=>exact fun R₃ s₃ a₃ r₃=>hQ R₃ s₃ ((a₁.trans a₂).thenX a₃ hnew' hgs') r₃
 | ret v=>exact fun R₃ s₃ val a₃ r₃ v₃=>hQ R₃ s₃ val ((a₁.trans a₂).thenX a₃ hnew' hgs') r₃ v₃
theorem cAs_ok (O:W.Ok) {M:List Str} {m N:Nat} {ts:List Expr} {v:Expr} {p:Pos} {x:S} (h:cAs W.G M cx m ts v = some x):SndS W N cx (.Assign ts v p) x:=by
 refine oAlt_el h (fun t ht g=>?_) fun h=>oB h fun q hq h=>oG h fun hc h=>oM3 h fun i j u h1 h2 h3=>?_
 ·cases oneOf_eq ht
  refine oAlt_el g (fun y hy h=>?_) fun h=>oAlt_el h (fun ts' hts h=>?_) fun h=>oB h fun q hq h=>oB h fun y hy h=>oM3 h fun i z u h1 h2 h3=>?_
  ·exact (nameOf_eq hy).elim fun yp e=>by subst e;exact oM2 h fun i z h1 h2=>snd_asg O h1 h2
  ·refine oB h fun es hes h=>oB h fun is his h=>oG h fun hc h=>oM h fun y hy=>?_
   obtain ⟨k,q,rfl⟩:=tupOf_eq hts
   obtain ⟨k',q',rfl⟩:=tupOf_eq hes
   exact snd_tasg O his hy (of_decide_eq_true (and_l hc)) (of_decide_eq_true (and_l (and_r hc))) (and_r (and_r hc))
  ·refine Classical.byContradiction fun hcon=>?_
   obtain ⟨sp,rfl⟩:=subOf_eq hq
   obtain ⟨yp,hy'⟩:=nameOf_eq hy
   refine hcon ?_
   rw [hy']
   exact snd_seti O h1 h2 h3
 ·obtain ⟨a,b⟩:=q
  cases twoOf_eq hq
  refine slot_el (P:=fun a=>cSl cx a = some i→SndS W N cx (.Assign [a,b] v p) (.casg i j u)) h1 (fun y yp _ h1=>?_) h1
  exact slot_el (P:=fun b=>cSl cx b = some j→SndS W N cx (.Assign [.Name y yp,b] v p) (.casg i j u)) h2 (fun z zp _ h2=>snd_casg O h1 h2 h3) h2
theorem cEx_ok (O:W.Ok) {m N:Nat} {e:Expr} {p:Pos} {x:S} (h:cEx W.G cx m e = some x):SndS W N cx (.Expr e p) x:=by
 refine oB h fun c hc h=>oB h fun q hq h=>oB h fun y hy h=>oB h fun e' he h=>oB h fun i hi h=>oB h fun z hz h=>oG h fun hl h=>(nameOf_eq hy).elim fun yp hy=>?_
 simp only [callAny_eq hc,attrOf_eq hq,hy,oneOf_eq he]
 cases ha:(q.2.1 == ("append":Str)) with
 | true=>rw [ha] at h;obtain rfl:=Option.some.inj h;rw [eq_of_beq ha];exact snd_app O hi hz hl
 | false =>
  rw [ha] at h
  refine oG h fun hb h=>?_
  obtain rfl:=Option.some.inj h;rw [eq_of_beq hb];exact snd_push O hi hz hl
theorem Tg.two?_eq {t:Tg} {q:Nat × Nat} (h:t.two? = some q):t = .two q.1 q.2:=by cases t <;> first | exact nso h | (obtain rfl:=Option.some.inj h;rfl)
theorem cFo_ok (O:W.Ok) (G:EscOk W) {M:List Str} {m N:Nat} {tg it:Expr} {a:List Stmt} {p:Pos} {t:Tg} {y x:S} (ht:cT cx tg = some t) (ha:SndB W N cx a y) (h:cFo W.G M cx m tg it t y = some x):SndS W N cx (.For tg it a [] p) x:=by
 refine oAlt_el h (fun e he h=>oB h fun q2 h2 h=>oM h fun z hz=>oB he fun q hq he=>oB he fun v hv he=>oG he fun hv' he=>?_) fun h=>oAlt_el h (fun _ _ h=>oM2 h fun i z h1 h2=>snd_frz (snd_for O (cI_ok O (cE_ok O m cx) h2).1 (cI_ok O (cE_ok O m cx) h2).2 ht ha))
  fun h=>oM h fun z h1=>snd_for O (cI_ok O (cE_ok O m cx) h1).1 (cI_ok O (cE_ok O m cx) h1).2 ht ha
 refine Classical.byContradiction fun hcon=>?_
 obtain ⟨gp,cp,rfl⟩:=callOf_eq hq
 cases GV.isEsc_eq hv'
 cases Tg.two?_eq h2
 refine hcon ?_
 rw [oneOf_eq he]
 exact cT_el (P:=fun tg t=>t = .two q2.1 q2.2→cT cx tg = some (.two q2.1 q2.2)→SndS W N cx (.For tg (.Call (.Name q.1 gp) [e] [] cp) a [] p) (.fore q2.1 q2.2 z y)) ht (fun _ _ _ _ e=>by cases e) (fun _ _ _ _ _ _ _ _ _ ht=>snd_fore O G hv hz ht ha) rfl ht
theorem cS_ok (O:W.Ok) (G:EscOk W) {M:List Str} {m N:Nat}:∀ (n:Nat) (p:Stmt) (x:S),cS W.G M cx m n p = some x→SndS W N cx p x:=by
 intro n
 induction n with
 | zero=>intro p x h;exact nso h
 | succ n ih =>
  intro p x h
  have ihB:∀ ps x,cB (cS W.G M cx m n) ps = some x→SndB W N cx ps x:=sndB_of ih
  cases p with
  | Assign ts v p=>exact cAs_ok O h
  | AugAssign t o v p =>
   refine oB h fun y hy h=>oB h fun i hi h=>oB h fun j hj h=>oG h fun hc h=>oM2 h fun q z h1 h2=>(nameOf_eq hy).elim fun yp e=>?_
   subst e
   cases eq_of_beq hc
   exact snd_aug O hi hj h1 h2
  | Expr e p=>exact cEx_ok O h
  | Delete ts p =>
   refine oB h fun t ht h=>oB h fun q hq h=>oB h fun y hy h=>oM2 h fun i z h1 h2=>(subOf_eq hq).elim fun sp e=>(nameOf_eq hy).elim fun yp hy=>?_
   simp only [oneOf_eq ht,e,hy]
   exact snd_del O h1 h2
  | If c a b p=>exact oM3 h fun z y u h1 h2 h3=>snd_if O h1 (ihB _ _ h2) (ihB _ _ h3)
  | While c a b p =>
   refine oG h fun hb g=>?_
   cases nil_of hb
   exact oM2 g fun z y h1 h2=>snd_while O h1 (ihB _ _ h2)
  | For tg it a b p =>
   refine oG h fun hb h=>oB h fun t ht h=>oB h fun y hy g=>?_
   cases nil_of hb
   exact cFo_ok O G ht (ihB _ _ hy) g
  | Return e p =>
   cases e with
   | none=>exact nso h
   | some e =>
    exact oAlt_el h (fun _ _ h=>oM2 h fun i z h1 h2=>snd_frz (snd_ret O h2)) fun h=>oM h fun z h1=>snd_ret O h1
  | Assert c e p =>
   refine oG h fun hb g=>?_
   cases Option.isNone_iff_eq_none.mp hb
   exact oM g fun z h1=>snd_assert O h1
  | _=>exact nso h
end
mutual
noncomputable def V.nomu:V→Bool
 | .mref _=>false
 | .list l=>V.nomus l
 | .tup l=>V.nomus l
 | _=>true
noncomputable def V.nomus:List V→Bool
 | []=>true
 | v :: r=>V.nomu v && V.nomus r
end
theorem VR.nomu {Z:Addr→Prop} {mu mu':List (List Addr)} {h:Heap} {v:V} {w:Value} (r:VR Z mu h v w):V.nomu v = true→VR Z mu' h v w:=by
 refine VR.rec (motive_1:=fun v w _=>V.nomu v = true→VR Z mu' h v w) (motive_2:=fun v w _=>V.nomus v = true→VRs Z mu' h v w) (fun _=>.none) (fun _=>.bool) (fun _=>.int) (fun a _=>.str a) ?_ ?_ ?_ ?_ (fun _=>.nil) ?_ r
 ·intro vs a l n z e len _ ih h;unfold V.nomu at h;exact .list z e len (ih h)
 ·intro vs a l n z e len _ ih h;unfold V.nomu at h;exact .tup z e len (ih h)
 ·intro i j k a t u v z e s1 s2 s3 p _;exact .rng z e s1 s2 s3 p
 ·intro n a f e h;delta V.nomu at h;exact fat h
 ·intro v w vs ws _ _ i1 i2 h
  unfold V.nomus at h
  rw [Bool.and_eq_true] at h
  exact .cons (i1 h.1) (i2 h.2)
noncomputable def runC (C:Con) (N:Nat) (b:S) (np size:Nat) (vs:List V):Option V :=
 if vs.length == np && V.nomus vs then match ex C N b { vars:=vs.map some ++ List.replicate (size - np) none,mu:=[] } with
  | some (.ret v,_)=>if V.nomu v then some v else none
  | _=>none
 else none
set_option tactic.hygienic true in
theorem runC_some {C:Con} {N:Nat} {b:S} {np size:Nat} {vs:List V} {v:V} (h:runC C N b np size vs = some v):vs.length = np ∧ V.nomus vs = true ∧ V.nomu v = true ∧ ∃ st',ex C N b { vars:=vs.map some ++ List.replicate (size - np) none,mu:=[] } = some (.ret v,st'):=by
 unfold runC at h
 split at h
 ·rename_i q
  rw [Bool.and_eq_true,beq_iff_eq] at q
  split at h
  ·rename_i e
   split at h
   ·rename_i q2;obtain rfl:=Option.some.inj h;exact ⟨q.1,q.2,q2,_,e⟩
   ·exact nso h
  ·exact nso h
 ·exact nso h
section
variable {kindOf:Str→Option NameKind}
theorem bindL_skip {x:Str}:∀ {l:List (Str × Value)} {m:Str→Option Value},(∀ p ∈ l,p.1 ≠ x)→bindL kindOf l m x = m x
 | [],m,_=>rfl
 | (n,v) :: r,m,h=>by
  unfold bindL
  simp only [bindL_skip fun p hp=>h p (.tail _ hp)]
  have:x ≠ n:=fun e=>h (n,v) (.head _) e.symm
  split <;> simp [this]
theorem bindC_skip {x:Str}:∀ {l:List (Str × Value)} {m:Str→Option Value},(∀ p ∈ l,p.1 ≠ x)→bindC kindOf l m x = m x
 | [],m,_=>rfl
 | (n,v) :: r,m,h=>by
  unfold bindC
  simp only [bindC_skip fun p hp=>h p (.tail _ hp)]
  have:x ≠ n:=fun e=>h (n,v) (.head _) e.symm
  split <;> simp [this]
theorem zip_ne {xs:List Str} {vals:List Value} {x:Str} (h:xs.any (· == x) = false):∀ p ∈ xs.zip vals,p.1 ≠ x:=fun p hp e=>by
 have h1:p.1 ∈ xs:=(List.of_mem_zip (show (p.1,p.2) ∈ xs.zip vals from hp)).1
 have:=List.any_eq_false.mp h p.1 h1
 rw [e] at this;simp at this
theorem bind_get:∀ {xs:List Str} {vals:List Value} {i:Nat} {x:Str} {u:Value} {m:Str→Option Value},nodup xs = true→xs[i]? = some x→vals[i]? = some u →
  (kindOf x = some .local→bindL kindOf (xs.zip vals) m x = some u) ∧ (kindOf x = some .cell→bindC kindOf (xs.zip vals) m x = some u)
 | y :: xs,u' :: vals,0,x,u,m,hn,hx,hu=>by
  simp only [List.getElem?_cons_zero,Option.some.injEq] at hx hu
  subst hx hu
  simp only [nodup,Bool.and_eq_true,Bool.not_eq_true'] at hn
  refine ⟨fun hk=>?_,fun hk=>?_⟩
  ·rw [List.zip_cons_cons];unfold bindL;rw [bindL_skip (zip_ne hn.1),if_pos hk];simp
  ·rw [List.zip_cons_cons];unfold bindC;rw [bindC_skip (zip_ne hn.1),if_neg (by rw [hk];decide)];simp
 | y :: xs,u' :: vals,i + 1,x,u,m,hn,hx,hu=>by
  simp only [nodup,Bool.and_eq_true] at hn
  rw [List.zip_cons_cons]
  refine ⟨fun hk=>?_,fun hk=>?_⟩
  ·unfold bindL;exact (bind_get hn.2 (by simpa using hx) (by simpa using hu)).1 hk
  ·unfold bindC;exact (bind_get hn.2 (by simpa using hx) (by simpa using hu)).2 hk
end
section
variable {prog:Program} {w:World} {W:Wd prog w} {A:Around} {E:Value→Shared→Prop} {R R':RS} {st st':St} {s s':Shared}
noncomputable def calleeP (R:RS) (st:St):Addr→Prop:=fun b=>R.P b ∨ (∃ (i:Nat) (l:Loc),R.dt[i]? = some l ∧ l.addr? = some b) ∨ ∃ (n:Nat) (f:List Addr) (o:Mo),st.mu[n]? = some o ∧ o.alive ∧ R.mu[n]? = some f ∧ b ∈ f
theorem calleeP.alive (r:Rel W.I W.B W.os R st s) {b:Addr} (h:calleeP R st b):∃ o,s.heap.get? b = some o :=
 h.elim (fun h=>r.zal b (.inr h)) fun h=>h.elim (fun ⟨i,l,h1,h2⟩=>l.alive (r.loc i l h1) h2) fun ⟨n,f,o,h1,h2,h3,h4⟩=>r.dead n f b h3 h4
theorem Rel.back (r:Rel W.I W.B W.os R st s) {R₁:RS} {s₁:Shared} {st₂:St} (hZ:R₁.Z = R.Z) (hm:R₁.mu = []) (hP:R₁.P = calleeP R st) (hk:∀ b o,s.heap.get? b = some o→s₁.heap.get? b = some o) (hg:∀ (g:Nat) x,s.gens[g]? = some x→s₁.gens[g]? = some x) (r₂:Rel W.I W.B W.os R' st₂ s') (a:Step R₁ s₁ R' s') :
  Rel W.I W.B W.os { R with Z:=R'.Z } st s' ∧ Step R s { R with Z:=R'.Z } s':=by
 have Zle:∀ b,R.Z b→R'.Z b:=fun b z=>a.Z b (by simp only [hZ];exact z)
 have same1:∀ {b:Addr},(∃ o,s.heap.get? b = some o)→s₁.heap.get? b = s.heap.get? b:=fun e=>same_of (hk _) e
 have keepZ:∀ b,R.Z b→s'.heap.get? b = s.heap.get? b:=fun b z=>(a.keep b (.inl (by simp only [hZ];exact z))).trans (same1 (r.zal b (.inl z)))
 have keepP:∀ b,calleeP R st b→s'.heap.get? b = s.heap.get? b:=fun b h=>(a.keep b (.inr (by simp only [hP];exact h))).trans (same1 (h.alive r))
 have own:∀ b,R'.Z b→R.Z b ∨ s.heap.get? b = none:=fun b z=>(a.own b (.inl z)).elim (fun h=>.inl (by simp only [← hZ];exact h)) fun h=>h.elim (fun ⟨n,f,h,_⟩=>by rw [hm] at h;exact nso h) fun h=>.inr (by
  cases e:s.heap.get? b with
  | none=>rfl
  | some o=>rw [hk b o e] at h;exact nso h.symm)
 have notZ:∀ b,calleeP R st b→¬ R.Z b→¬ R'.Z b:=fun b hb nz z=>(own b z).elim nz (ne_none (hb.alive r))
 have locP:∀ {i:Nat} {l:Loc} {b:Addr},R.dt[i]? = some l→l.addr? = some b→calleeP R st b:=fun {i l b} h1 h2=>.inr (.inl ⟨i,l,h1,h2⟩)
 exact ⟨⟨fun b o e=>⟨Zle b (r.base b o e).1,(r₂.base b o e).2⟩,fun b h=>h.elim (fun h=>r₂.zal b (.inl h)) fun h=>(r.zal b (.inr h)).imp fun o e=>(keepP b (.inl h)).trans e,r.len,
   fun i v e=>(r.var i v e).mono (fun l val h1 h2=>⟨h1,l.holds_of (fun b hb=>keepP b (locP h1 hb)) h2⟩) Zle (fun _ _ h=>h) keepZ,fun i l e=>l.ok_of (fun b hb=>keepP b (locP e hb)) (r.loc i l e),
   fun i l b e eb=>⟨notZ b (locP e eb) (r.locf i l b e eb).1,(r.locf i l b e eb).2⟩,r.apart,r.mulen,fun n o e=>r.muo' e Zle (fun _ _ h=>h) keepZ fun f hf al b hb=>keepP b (.inr (.inr ⟨n,f,_,e,al,hf,hb⟩)),
   fun n f b o e al ef hb=>⟨notZ b (.inr (.inr ⟨n,f,o,e,al,ef,hb⟩)) (r.fp n f b o e al ef hb).1,(r.fp n f b o e al ef hb).2⟩,r.fpa,fun n f b e hb=>(r.dead n f b e hb).elim fun o h=>a.alive b o (hk b o h),⟨r₂.tbf.1,r.tbf.2⟩,r₂.tab,r₂.bare,r₂.os⟩,
  ⟨rfl,rfl,Zle,fun _ _ h=>h,fun b h=>h.elim (fun h=>(own b h).imp_right .inr) fun h=>.inr (.inl h),fun b h=>h.elim (keepZ b) fun h=>keepP b (.inl h),fun b o e=>a.alive b o (hk b o e),fun g x e=>a.gens g x (hg g x e)⟩⟩
theorem Rel.callee (r:Rel W.I W.B W.os R st s) {h':Heap} {tk:Nat} {dt:List Loc} {vars:List (Option V)} (hk:∀ b o,s.heap.get? b = some o→h'.get? b = some o) (hlen:vars.length = dt.length)
  (hvar:∀ (i:Nat) (v:V),vars[i]? = some (some v)→∃ l val,dt[i]? = some l ∧ l.holds h' val ∧ VR R.Z [] s.heap v val) (hok:∀ (i:Nat) (l:Loc),dt[i]? = some l→l.ok h') (hnew:∀ (i:Nat) (l:Loc) (a:Addr),dt[i]? = some l→l.addr? = some a→s.heap.get? a = none)
  (hap:∀ (i j:Nat) (l l':Loc),i ≠ j→dt[i]? = some l→dt[j]? = some l'→l.apart l') :
  Rel W.I W.B W.os { dt:=dt,mu:=[],Z:=R.Z,P:=calleeP R st } { vars:=vars,mu:=[] } { s with heap:=h',toks:=tk }:=by
 have same:∀ {b:Addr},(∃ o,s.heap.get? b = some o)→h'.get? b = s.heap.get? b:=fun e=>same_of (hk _) e
 have na:∀ {i:Nat} {l:Loc} {a:Addr},dt[i]? = some l→l.addr? = some a→(∃ o,s.heap.get? a = some o)→False:=fun h1 h2 e=>ne_none e (hnew _ _ _ h1 h2)
 exact ⟨fun b o e=>⟨(r.base b o e).1,hk b o (r.base b o e).2⟩,fun b h=>(h.elim (fun z=>r.zal b (.inl z)) fun z=>z.alive r).imp fun o=>hk b o,hlen,fun i v e=>(hvar i v e).elim fun l k=>k.elim fun val k=>.mk l val k.1 k.2.1 (k.2.2.mono (fun _ z=>z) (fun _ _ e=>e) fun b z=>same (r.zal b (.inl z))),hok,
  fun i l a e ea=>⟨fun z=>na e ea (r.zal a (.inl z)),fun z=>na e ea (z.alive r),fun q=>na e ea (q ▸ W.I.talive r.tab)⟩,hap,rfl,fun n o e=>nso e,fun n f b o e=>nso e,fun n m f g b o q e=>nso e,
  fun n f b e=>nso e,⟨r.tbf.1,fun h=>h.elim r.tbf.2 fun h=>h.elim (fun ⟨i,l,h1,h2⟩=>(r.locf i l _ h1 h2).2.2 rfl) fun ⟨n,f,o,h1,h2,h3,h4⟩=>(r.fp n f _ o h1 h2 h3 h4).2.2.1 rfl⟩,W.I.tmono (fun _ h=>h) (fun b h=>h.elim (fun z=>same (r.zal b (.inl z))) fun e=>by rw [e];exact same (W.I.talive r.tab)) r.tab,r.bare,r.os⟩
structure FnOk (W:Wd prog w) (fd:FuncData) (body:List Stmt) (ps:List Str) (extra:Nat):Prop where
 globals:fd.globals = mainGlobals
 builtins:fd.builtins = builtinsNs
 closure:fd.closure = []
 body:fd.body = .stmts body
 kind:fd.scope.kind = .function
 gen:fd.scope.isGenerator = false
 cor:fd.scope.isCoroutine = false
 nodup:nodup (fd.scope.names.map (·.1)) = true
 params:(own fd.scope.names).take ps.length = ps
 bind:∀ vals:List Value,vals.length = ps.length→bindArgs fd ⟨vals,[]⟩ = pure (ps.zip vals)
 lim:∀ h:Heap,(∀ b o,W.B b = some o→h.get? b = some o)→h.NoLimit
 code:∀ h:Heap,(∀ b o,W.B b = some o→h.get? b = some o)→h.CodeRec fd.code fd.qualname
theorem nodup_pre:∀ {l r:List Str},nodup (l ++ r) = true→nodup l = true
 | [],_,_=>rfl
 | x :: l,r,h=>by
  simp only [List.cons_append,Mine.nodup,Bool.and_eq_true,List.any_append,Bool.not_or] at h ⊢
  exact ⟨h.1.1,nodup_pre h.2⟩
theorem nomus_get:∀ {l:List V} {i:Nat} {u:V},V.nomus l = true→l[i]? = some u→V.nomu u = true
 | [],_,_,_,h=>nso h
 | a :: l,0,u,h,e=>by unfold V.nomus at h;obtain rfl:=Option.some.inj e;exact and_l h
 | a :: l,i + 1,u,h,e=>by unfold V.nomus at h;exact nomus_get (and_r h) e
theorem var_at {vs:List V} {k i:Nat} {u:V} (e:(vs.map some ++ List.replicate k none)[i]? = some (some u)):vs[i]? = some u:=by
 by_cases q:i < vs.length
 ·rw [List.getElem?_append_left (by simp only [List.length_map];exact q),List.getElem?_map] at e
  exact (Option.map_eq_some_iff.mp e).elim fun u' k=>by cases k.2;exact k.1
 ·rw [List.getElem?_append_right (by rw [List.length_map];exact Nat.not_lt.mp q),List.getElem?_replicate] at e
  split at e <;> cases e
section
variable {names:List (Str × NameKind)} {L:Addr} {extra i:Nat} {x:Str} {l:Loc}
noncomputable abbrev cellsOf (names:List (Str × NameKind)) (L:Addr):List (Str × Addr):=cellsFrom (L + 1) names []
noncomputable abbrev dtOf (names:List (Str × NameKind)) (L:Addr) (extra:Nat):List Loc:=(own names).map (locOf names L (cellsOf names L)) ++ List.replicate extra Loc.no
inductive PlaceOf (names:List (Str × NameKind)) (L:Addr) (x:Str):Loc→Prop
 | ns (h:names.lookup x = some .local):PlaceOf names L x (.ns L x)
 | cell (c:Addr) (h:names.lookup x = some .cell) (hc:(cellsOf names L).lookup x = some c):PlaceOf names L x (.cell c)
theorem place_of (hn:nodup (names.map (·.1)) = true) (hx:x ∈ own names):PlaceOf names L x (locOf names L (cellsOf names L) x) :=
 (own_mem hx).elim fun k hk=>by
  have hl:=nodup_lookup hn hk.1
  unfold locOf
  simp only [hl]
  rcases hk.2 with rfl | rfl
  ·exact .ns hl
  ·refine (Option.isSome_iff_exists.mp (cellsFrom_some names (L + 1) x (cells_mem.mpr hk.1))).elim fun c hc=>?_
   simp only [hc]
   exact .cell c hl hc
inductive DtAt (names:List (Str × NameKind)) (L:Addr) (i:Nat):Loc→Prop
 | at_ (x:Str) (l:Loc) (hx:(own names)[i]? = some x) (h:PlaceOf names L x l):DtAt names L i l
 | no (h:(own names).length ≤ i):DtAt names L i .no
theorem dt_of (hx:(own names)[i]? = some x):(dtOf names L extra)[i]? = some (locOf names L (cellsOf names L) x):=by
 rw [dtOf,List.getElem?_append_left (by simp only [List.length_map];exact (List.getElem?_eq_some_iff.mp hx).1),List.getElem?_map,hx];rfl
theorem dt_at (hn:nodup (names.map (·.1)) = true) (e:(dtOf names L extra)[i]? = some l):DtAt names L i l:=by
 by_cases q:i < (own names).length
 ·have hx:=List.getElem?_eq_getElem q
  rw [dt_of hx] at e
  obtain rfl:=Option.some.inj e
  exact .at_ _ _ hx (place_of hn (List.mem_of_getElem? hx))
 ·rw [dtOf,List.getElem?_append_right (by rw [List.length_map];exact Nat.not_lt.mp q),List.getElem?_replicate] at e
  split at e
  ·obtain rfl:=Option.some.inj e;exact .no (Nat.not_lt.mp q)
  ·exact nso e
theorem callee_rel (r:Rel W.I W.B W.os R st s) (hn:nodup (names.map (·.1)) = true) {ps:List Str} (hpn:nodup ps = true) (hget:∀ (i:Nat) (x:Str),ps[i]? = some x→(own names)[i]? = some x) (hpl:ps.length ≤ (own names).length) {vs:List V} {ws:List Value} (hv:VRs R.Z R.mu s.heap vs ws) (h1:vs.length = ps.length) (h2:V.nomus vs = true)
  {h':Heap} {tk:Nat} (x:InCallC s s.heap.objs.size (bindL (fun x=>names.lookup x) (ps.zip ws) fun _=>none) (cellsOf names s.heap.objs.size) (bindC (fun x=>names.lookup x) (ps.zip ws) fun _=>none) { s with heap:=h',toks:=tk }) :
  Rel W.I W.B W.os { dt:=dtOf names s.heap.objs.size extra,mu:=[],Z:=R.Z,P:=calleeP R st } { vars:=vs.map some ++ List.replicate ((own names).length + extra - ps.length) none,mu:=[] } { s with heap:=h',toks:=tk }:=by
 refine r.callee x.toInCall.keep ?_ (fun i u e=>(hv.get i u (var_at e)).elim fun y k=>?_) (fun i l e=>?_) (fun i l c e ec=>?_) (fun i j l l' hij e e'=>?_)
 ·simp only [List.length_append,List.length_append,List.length_map,List.length_map,List.length_replicate,List.length_replicate];lia
 ·refine (⟨_,List.getElem?_eq_getElem (h1 ▸ (List.getElem?_eq_some_iff.mp (var_at e)).1:i < ps.length)⟩:∃ z,ps[i]? = some z).elim fun z hx=>?_
  have hb:=bind_get (kindOf:=fun x=>names.lookup x) (m:=fun _=>none) hpn hx k.1
  have hp:=place_of (L:=s.heap.objs.size) hn (List.mem_of_getElem? (hget i _ hx))
  refine ⟨_,y,dt_of (hget i _ hx),?_,k.2.nomu (nomus_get h2 (var_at e))⟩
  generalize locOf names s.heap.objs.size (cellsOf names s.heap.objs.size) z = l at hp
  cases hp with
  | ns h=>exact ⟨_,x.toInCall.ns,hb.1 h⟩
  | cell c h hc=>have:=x.cell _ c hc;rw [hb.2 h] at this;exact this
 ·cases dt_at hn e with
  | at_ y _ _ h=>cases h with
   | ns h=>exact ⟨_,x.toInCall.ns⟩
   | cell c h hc=>exact ⟨_,x.cell _ c hc⟩
  | no=>trivial
 ·cases dt_at hn e with
  | at_ y _ _ h=>cases h with
   | ns h=>obtain rfl:=Option.some.inj ec;exact none_at (Nat.le_refl _) rfl
   | cell c' h hc=>obtain rfl:=Option.some.inj ec;exact none_at (Nat.le_of_lt (x.above _ _ (mem_of_lookup hc))) rfl
  | no=>cases ec
 ·cases dt_at hn e with
  | no=>cases dt_at hn e' <;> trivial
  | at_ y _ hy h=>cases dt_at hn e' with
   | no=>cases h <;> trivial
   | at_ y' _ hy' h'=>cases h with
    | ns h=>cases h' with
     | ns h'=>exact fun _ q=>hij (nodup_get (own_nodup hn) hy (q ▸ hy'))
     | cell c' h' hc'=>exact fun q=>Nat.lt_irrefl _ (Nat.lt_of_lt_of_eq (x.above _ _ (mem_of_lookup hc')) q.symm)
    | cell c h hc=>cases h' with
     | ns h'=>exact fun q=>Nat.lt_irrefl _ (Nat.lt_of_lt_of_eq (x.above _ _ (mem_of_lookup hc)) q)
     | cell c' h' hc'=>exact fun q=>hij (nodup_get (own_nodup hn) hy ((name_of_addr x.apart (mem_of_lookup hc) (q ▸ mem_of_lookup hc')) ▸ hy'))
theorem callee_env {fd:FuncData} {body:List Stmt} {ps:List Str} (F:FnOk W fd body ps extra) {a:Addr}:EnvOk (Cx.fn fd.scope.names extra) (callEnvC fd L a) (dtOf fd.scope.names L extra):=by
 have hlen:(own fd.scope.names).length + extra = (dtOf fd.scope.names L extra).length:=by simp only [List.length_append,List.length_map,List.length_replicate]
 refine ⟨F.kind,rfl,F.globals,F.builtins,hlen.symm,fun y i hs hl=>?_,fun y i hs hl=>?_,fun i hi hlt=>?_,fun y i hs=>(List.getElem?_eq_some_iff.mp (idx_get hs)).1⟩
 ·rw [dt_of (idx_get hs)]
  have hl':fd.scope.names.lookup y = some .local:=hl
  unfold locOf;rw [hl'];rfl
 ·have hp:=place_of (L:=L) F.nodup (List.mem_of_getElem? (idx_get hs))
  rw [dt_of (idx_get hs)]
  generalize locOf fd.scope.names L (cellsOf fd.scope.names L) y = l at hp
  cases hp with
  | ns h =>
   have hl':fd.scope.names.lookup y = some .cell ∨ fd.scope.names.lookup y = some .free:=hl
   rw [h] at hl'
   refine Or.elim (hl') (fun q=>?_) (fun q=>?_) <;> cases q
  | cell c h hc=>exact ⟨c,hc,rfl⟩
 ·have hd:=dt_at (L:=L) (extra:=extra) F.nodup (List.getElem?_eq_getElem hlt)
  rw [List.getElem?_eq_getElem hlt]
  generalize (dtOf fd.scope.names L extra)[i] = l at hd
  cases hd with
  | at_ y _ hx _=>exact absurd hi (Nat.not_le.mpr (List.getElem?_eq_some_iff.mp hx).1)
  | no=>rfl
end
theorem call_ok (O:W.Ok) (G:EscOk W) {a:Addr} {o:Obj} {fd:FuncData} {body:List Stmt} {ps:List Str} {extra N m n:Nat} {M:List Str} {b:S} (ho:W.B a = some o) (hd:o.data = .func fd) (F:FnOk W fd body ps extra)
  (hb:cB (cS W.G M (Cx.fn fd.scope.names extra) m n) body = some b)
  {vs:List V} {ws:List Value} {v:V} {Q:Value→Shared→Prop} (ga:GA (W.lev + 1) A) (hC:runC W.C N b ps.length ((own fd.scope.names).length + extra) vs = some v) (hv:VRs R.Z R.mu s.heap vs ws) (r:Rel W.I W.B W.os R st s) (h:PostV W.I W.B W.os R s st v Q) :
  wpAny (model prog w) A (call (.ref a) ws) Q E s:=by
 refine (runC_some hC).elim fun h1 k=>k.elim fun h2 k=>k.elim fun h3 k=>k.elim fun st₂ h4=>?_
 have hbase:∀ b o,W.B b = some o→s.heap.get? b = some o:=fun b o e=>(r.base b o e).2
 have hget:∀ (i:Nat) (x:Str),ps[i]? = some x→(own fd.scope.names)[i]? = some x:=fun i x e=>by
  rw [← F.params,List.getElem?_take] at e
  split at e
  ·exact e
  ·exact nso e
 have hpl:ps.length ≤ (own fd.scope.names).length:=by
  rw [← congrArg List.length F.params,List.length_take];exact Nat.min_le_right _ _
 have hpn:nodup ps = true:=nodup_pre (r:=(own fd.scope.names).drop ps.length) (by
  have:=own_nodup F.nodup
  rw [← List.take_append_drop ps.length (own fd.scope.names),F.params] at this
  exact this)
 refine wpAny_call (codeAny_call_cells (binds:=ps.zip ws) (Nat.lt_of_le_of_lt (Nat.le_add_right _ _) ga.2.1) (r.base a o ho).2 hd (F.lim _ hbase) (F.code _ hbase) F.body (F.bind ws (hv.length.trans h1)) F.closure (fun x hx=>?_) (fun s₁ x=>?_) F.cor F.gen F.kind)
 ·refine (List.getElem?_of_mem (List.of_mem_zip (show (x.1,x.2) ∈ ps.zip ws from hx)).1).elim fun i hi=>?_
  have hp:=place_of (L:=s.heap.objs.size) F.nodup (List.mem_of_getElem? (hget i _ hi))
  generalize locOf fd.scope.names s.heap.objs.size (cellsOf fd.scope.names s.heap.objs.size) x.1 = l at hp
  cases hp with
  | ns h=>exact .inl h
  | cell c h hc=>exact .inr ⟨h,by rw [hc];rfl⟩
 ·refine x.toInCall.same.elim fun h' k=>k.elim fun tk e=>?_
  subst e
  refine sndB_of (cS_ok O G n) body b hb (N:=N) (R:={ dt:=dtOf fd.scope.names s.heap.objs.size extra,mu:=[],Z:=R.Z,P:=calleeP R st }) ga.deeper (callee_env F) (callee_rel r F.nodup hpn hget hpl hv h1 h2 x) h4 fun R₂ s₂ val a₂ r₂ v₂=>?_
  exact (Rel.back r (R₁:={ dt:=dtOf fd.scope.names s.heap.objs.size extra,mu:=[],Z:=R.Z,P:=calleeP R st }) (s₁:={ s with heap:=h',toks:=tk }) rfl rfl rfl x.toInCall.keep (fun _ _ e=>e) r₂ a₂).elim fun r₃ a₃=>h { R with Z:=R₂.Z } s₂ val a₃ r₃ (v₂.nomu h3)
end
end Mine
namespace Mine
open PySem
noncomputable def sh (P:Nat→Pos) (i:Nat):Nat→Pos:=fun j=>P (i + j)
noncomputable def initBody (P:Nat→Pos):List Stmt:=[ (PySem.Stmt.Assign (targets:=[(PySem.Expr.Attribute (PySem.Expr.Name "self" (P 2)) "lineno" (P 3))]) (value:=(PySem.Expr.Constant (PySem.Const.int 1) 0 (P 4))) (pos:=(P 5))),(PySem.Stmt.Assign (targets:=[(PySem.Expr.Attribute (PySem.Expr.Name "self" (P 6)) "instream" (P 7))]) (value:=(PySem.Expr.Name "fp" (P 8))) (pos:=(P 9))),(PySem.Stmt.Assign (targets:=[(PySem.Expr.Attribute (PySem.Expr.Name "self" (P 10)) "whitespace" (P 11))]) (value:=(PySem.Expr.Constant (PySem.Const.str "\n\t\u000d ") 0 (P 12))) (pos:=(P 13))),(PySem.Stmt.Assign (targets:=[(PySem.Expr.Attribute (PySem.Expr.Name "self" (P 14)) "pushback" (P 15))]) (value:=(PySem.Expr.List [] (P 16))) (pos:=(P 17)))]
noncomputable def initScope:Scope:={ kind:=PySem.ScopeKind.function,names:=[(PySem.Str.ofString "self",PySem.NameKind.local),(PySem.Str.ofString "fp",PySem.NameKind.local)],isGenerator:=false,isCoroutine:=false,more:=[]:PySem.Scope }
noncomputable def rdcBody (P:Nat→Pos):List Stmt:=[ (PySem.Stmt.Assign (targets:=[(PySem.Expr.Name "ch" (P 19))]) (value:=(PySem.Expr.Call (func:=(PySem.Expr.Attribute (value:=(PySem.Expr.Attribute (PySem.Expr.Name "self" (P 20)) "instream" (P 21))) (attr:="read") (pos:=(P 22)))) (args:=[(PySem.Expr.Constant (PySem.Const.int 1) 0 (P 23))]) (keywords:=[]) (pos:=(P 24)))) (pos:=(P 25))),(PySem.Stmt.If (test:=(PySem.Expr.Compare (left:=(PySem.Expr.Name "ch" (P 26))) (ops:=[PySem.CmpOp.Eq]) (comparators:=[(PySem.Expr.Constant (PySem.Const.str "\n") 0 (P 27))]) (pos:=(P 28)))) (body:=[ (PySem.Stmt.AugAssign (target:=(PySem.Expr.Attribute (PySem.Expr.Name "self" (P 29)) "lineno" (P 30))) (op:=PySem.Operator.Add) (value:=(PySem.Expr.Constant (PySem.Const.int 1) 0 (P 31))) (pos:=(P 32)))]) (orelse:=[]) (pos:=(P 33))),(PySem.Stmt.Return (some (PySem.Expr.Name "ch" (P 34))) (P 35))]
noncomputable def rdcScope:Scope:={ kind:=PySem.ScopeKind.function,names:=[(PySem.Str.ofString "self",PySem.NameKind.local),(PySem.Str.ofString "ch",PySem.NameKind.local)],isGenerator:=false,isCoroutine:=false,more:=[]:PySem.Scope }
noncomputable def gEsc (P:Nat→Pos):Stmt:=.If (.Compare (.Name "ch" (P 0)) [.Eq] [.Constant (.str "\\") 0 (P 1)] (P 2)) [.Assign [.Name "ch" (P 3)] (.Call (.Attribute (.Name "self" (P 4)) "_read_char" (P 5)) [] [] (P 6)) (P 7)] [] (P 8)
noncomputable def gAug (P:Nat→Pos):Stmt:=.AugAssign (.Name "token" (P 0)) .Add (.Name "ch" (P 1)) (P 2)
noncomputable def gRt (P:Nat→Pos):Stmt:=.Return (some (.Name "token" (P 0))) (P 1)
noncomputable def gQ1 (P:Nat→Pos):Stmt:=.If (.Compare (.Name "ch" (P 2)) [.Eq] [.Constant (.str "\"") 0 (P 3)] (P 4)) [gRt (sh P 5)] [gEsc (sh P 7)] (P 16)
noncomputable def gQ (P:Nat→Pos):Stmt:=.For (.Name "ch" (P 0)) (.Name "fiter" (P 1)) [gQ1 P,gAug (sh P 17)] [] (P 20)
noncomputable def gWs (P:Nat→Pos):Expr:=.Attribute (.Name "self" (P 0)) "whitespace" (P 1)
noncomputable def gB1 (P:Nat→Pos):Stmt:=.If (.Compare (.Name "ch" (P 2)) [.In] [gWs (sh P 3)] (P 5)) [gRt (sh P 6)] [gEsc (sh P 8)] (P 17)
noncomputable def gB (P:Nat→Pos):Stmt:=.For (.Name "ch" (P 0)) (.Name "fiter" (P 1)) [gB1 P,gAug (sh P 18)] [] (P 21)
noncomputable def gL1 (P:Nat→Pos):Stmt:=.If (.Compare (.Name "ch" (P 2)) [.In] [gWs (sh P 3)] (P 5)) [.Continue (P 6)] [] (P 7)
noncomputable def gL3 (P:Nat→Pos):List Stmt:=[gAug (sh P 41),gB (sh P 44)]
noncomputable def gL2 (P:Nat→Pos):Stmt:=.If (.Compare (.Name "ch" (P 8)) [.Eq] [.Constant (.str "\"") 0 (P 9)] (P 10)) [gQ (sh P 11)] (gEsc (sh P 32) :: gL3 P) (P 66)
noncomputable def gL (P:Nat→Pos):Stmt:=.For (.Name "ch" (P 0)) (.Name "fiter" (P 1)) [gL1 P,gL2 P] [] (P 67)
noncomputable def gS0 (P:Nat→Pos):Stmt:=.If (.Attribute (.Name "self" (P 37)) "pushback" (P 38)) [.Return (some (.Call (.Attribute (.Attribute (.Name "self" (P 39)) "pushback" (P 40)) "pop" (P 41)) [.Constant (.int 0) 0 (P 42)] [] (P 43))) (P 44)] [] (P 45)
noncomputable def gS1 (P:Nat→Pos):Stmt:=.Assign [.Name "token" (P 46)] (.Constant (.str "") 0 (P 47)) (P 48)
noncomputable def gS2 (P:Nat→Pos):Stmt:=.Assign [.Name "fiter" (P 49)] (.Call (.Name "iter" (P 50)) [.Attribute (.Name "self" (P 51)) "_read_char" (P 52),.Constant (.str "") 0 (P 53)] [] (P 54)) (P 55)
noncomputable def getBody (P:Nat→Pos):List Stmt:=[gS0 P,gS1 P,gS2 P,gL (sh P 56),gRt (sh P 124)]
noncomputable def getScope:Scope:={ kind:=PySem.ScopeKind.function,names:=[ (PySem.Str.ofString "self",PySem.NameKind.local),(PySem.Str.ofString "token",PySem.NameKind.local),(PySem.Str.ofString "fiter",PySem.NameKind.local),(PySem.Str.ofString "ch",PySem.NameKind.local),(PySem.Str.ofString "iter",PySem.NameKind.globalImplicit)],isGenerator:=false,isCoroutine:=false,more:=[]:PySem.Scope }
noncomputable def pshBody (P:Nat→Pos):List Stmt:=[ (PySem.Stmt.Expr (value:=(PySem.Expr.Call (func:=(PySem.Expr.Attribute (value:=(PySem.Expr.Attribute (PySem.Expr.Name "self" (P 128)) "pushback" (P 129))) (attr:="append") (pos:=(P 130)))) (args:=[(PySem.Expr.Name "token" (P 131))]) (keywords:=[]) (pos:=(P 132)))) (pos:=(P 133)))]
noncomputable def pshScope:Scope:={ kind:=PySem.ScopeKind.function,names:=[(PySem.Str.ofString "self",PySem.NameKind.local),(PySem.Str.ofString "token",PySem.NameKind.local)],isGenerator:=false,isCoroutine:=false,more:=[]:PySem.Scope }
noncomputable def rdArgs (P:Nat→Pos):Arguments:={ posonlyargs:=[],args:=[{ arg:="size",annotation:=none,pos:=(P 139):PySem.Arg }],vararg:=none,kwonlyargs:=[],kw_defaults:=[],kwarg:=none,defaults:=[]:PySem.Arguments }
noncomputable def rdBody (P:Nat→Pos):List Stmt:=[ (PySem.Stmt.Assign (targets:=[(PySem.Expr.Name "sign" (P 140))]) (value:=(PySem.Expr.Subscript (value:=(PySem.Expr.Subscript (value:=(PySem.Expr.Name "left" (P 141))) (slice:=(PySem.Expr.Constant (PySem.Const.int 0) 0 (P 142))) (pos:=(P 143)))) (slice:=(PySem.Expr.Slice none (some (PySem.Expr.Name "size" (P 144))) none (P 145))) (pos:=(P 146)))) (pos:=(P 147))),(PySem.Stmt.Assign (targets:=[ (PySem.Expr.Subscript (value:=(PySem.Expr.Name "left" (P 148))) (slice:=(PySem.Expr.Constant (PySem.Const.int 0) 0 (P 149))) (pos:=(P 150)))]) (value:=(PySem.Expr.Subscript (value:=(PySem.Expr.Subscript (value:=(PySem.Expr.Name "left" (P 151))) (slice:=(PySem.Expr.Constant (PySem.Const.int 0) 0 (P 152))) (pos:=(P 153)))) (slice:=(PySem.Expr.Slice (some (PySem.Expr.Name "size" (P 154))) none none (P 155))) (pos:=(P 156)))) (pos:=(P 157))),(PySem.Stmt.Return (some (PySem.Expr.Name "sign" (P 158))) (P 159))]
noncomputable def rdScope:Scope:={ kind:=PySem.ScopeKind.function,names:=[ (PySem.Str.ofString "size",PySem.NameKind.local),(PySem.Str.ofString "sign",PySem.NameKind.local),(PySem.Str.ofString "left",PySem.NameKind.free)],isGenerator:=false,isCoroutine:=false,more:=[]:PySem.Scope }
noncomputable def lexBody (P:Nat→Pos):List Stmt:=[ (PySem.Stmt.Assign (targets:=[(PySem.Expr.Name "left" (P 135))]) (value:=(PySem.Expr.List [(PySem.Expr.Name "text" (P 136))] (P 137))) (pos:=(P 138))),(PySem.Stmt.FunctionDef (name:="read") (args:=(rdArgs P)) (body:=(rdBody P)) (decorator_list:=[]) (returns:=none) (type_params:=[]) (scope:=rdScope) (tscope:=none) (bind:="read") (pos:=(P 160))),(PySem.Stmt.Assign (targets:=[(PySem.Expr.Name "stream" (P 161))]) (value:=(PySem.Expr.Lambda (args:={ posonlyargs:=[],args:=[],vararg:=none,kwonlyargs:=[],kw_defaults:=[],kwarg:=none,defaults:=[]:PySem.Arguments }) (body:=(PySem.Expr.Constant PySem.Const.none 0 (P 162))) (scope:={ kind:=PySem.ScopeKind.function,names:=[],isGenerator:=false,isCoroutine:=false,more:=[]:PySem.Scope }) (pos:=(P 163)))) (pos:=(P 164))),(PySem.Stmt.Assign (targets:=[(PySem.Expr.Attribute (PySem.Expr.Name "stream" (P 165)) "read" (P 166))]) (value:=(PySem.Expr.Name "read" (P 167))) (pos:=(P 168))),(PySem.Stmt.Return (value:=(some (PySem.Expr.Call (func:=(PySem.Expr.Name "_netrclex" (P 169))) (args:=[(PySem.Expr.Name "stream" (P 170))]) (keywords:=[]) (pos:=(P 171))))) (pos:=(P 172)))]
noncomputable def lexScope:Scope:={ kind:=PySem.ScopeKind.function,names:=[ (PySem.Str.ofString "text",PySem.NameKind.local),(PySem.Str.ofString "read",PySem.NameKind.local),(PySem.Str.ofString "stream",PySem.NameKind.local),(PySem.Str.ofString "left",PySem.NameKind.cell),(PySem.Str.ofString "_netrclex",PySem.NameKind.globalImplicit)],isGenerator:=false,isCoroutine:=false,more:=[]:PySem.Scope }
noncomputable def eS0 (P:Nat→Pos):Stmt:=.Assign [.Name "pos" (P 174)] (.Constant (.int 0) 0 (P 175)) (P 176)
noncomputable def eS1 (P:Nat→Pos):Stmt:=.Assign [.Name "escape" (P 177)] (.Constant (.bool false) 0 (P 178)) (P 179)
noncomputable def eT (P:Nat→Pos):Expr:=.Tuple [.Name "pos" (P 180),.Name "ch" (P 181)] 0 (P 182)
noncomputable def eIt (P:Nat→Pos):Expr:=.Call (.Name "enumerate" (P 183)) [.Name "addr" (P 184)] [] (P 185)
noncomputable def eE1 (P:Nat→Pos):Expr:=.Tuple [.Name "pos" (P 187),.BinOp (.Constant (.str "\\") 0 (P 188)) .Add (.Name "ch" (P 189)) (P 190)] 0 (P 191)
noncomputable def eY1 (P:Nat→Pos):Stmt:=.Expr (.Yield (some (eE1 P)) (P 192)) (P 193)
noncomputable def eA1 (P:Nat→Pos):Stmt:=.Assign [.Name "escape" (P 194)] (.Constant (.bool false) 0 (P 195)) (P 196)
noncomputable def eA2 (P:Nat→Pos):Stmt:=.Assign [.Name "escape" (P 200)] (.Constant (.bool true) 0 (P 201)) (P 202)
noncomputable def eE2 (P:Nat→Pos):Expr:=.Tuple [.Name "pos" (P 203),.Name "ch" (P 204)] 0 (P 205)
noncomputable def eY2 (P:Nat→Pos):Stmt:=.Expr (.Yield (some (eE2 P)) (P 206)) (P 207)
noncomputable def eI (P:Nat→Pos):Stmt:=.If (.Compare (.Name "ch" (P 197)) [.Eq] [.Constant (.str "\\") 0 (P 198)] (P 199)) [eA2 P] [eY2 P] (P 208)
noncomputable def eB (P:Nat→Pos):Stmt:=.If (.Name "escape" (P 186)) [eY1 P,eA1 P] [eI P] (P 209)
noncomputable def eS2 (P:Nat→Pos):Stmt:=.For (eT P) (eIt P) [eB P] [] (P 210)
noncomputable def eE3 (P:Nat→Pos):Expr:=.Tuple [.Name "pos" (P 212),.Constant (.str "\\") 0 (P 213)] 0 (P 214)
noncomputable def eY3 (P:Nat→Pos):Stmt:=.Expr (.Yield (some (eE3 P)) (P 215)) (P 216)
noncomputable def eL (P:Nat→Pos):Stmt:=.If (.Name "escape" (P 211)) [eY3 P] [] (P 217)
noncomputable def eF (P:Nat→Pos) (e:Addr) (env:Env):Code:=.forLoop (eT P) (.ref e) [eB P] [] env
noncomputable def escBody (P:Nat→Pos):List Stmt:=[eS0 P,eS1 P,eS2 P,eL P]
noncomputable def escScope:Scope:={ kind:=PySem.ScopeKind.function,names:=[ (PySem.Str.ofString "addr",PySem.NameKind.local),(PySem.Str.ofString "pos",PySem.NameKind.local),(PySem.Str.ofString "escape",PySem.NameKind.local),(PySem.Str.ofString "ch",PySem.NameKind.local),(PySem.Str.ofString "enumerate",PySem.NameKind.globalImplicit)],isGenerator:=true,isCoroutine:=false,more:=[]:PySem.Scope }
end Mine
namespace Mine
open PySem PySem.Spec PySem.Calls PyProof.Rows PySem.W
theorem fn_ga_look:typeLookup (.type "function") "__getattribute__" = pure (some (.builtin "object.__getattribute__")):=by rw [typeLookup_type,builtinLookup_eq_fast];kernel_rfl
theorem fn_gattr_look:typeLookup (.type "function") "__getattr__" = pure none:=by rw [typeLookup_type,builtinLookup_eq_fast];kernel_rfl
theorem fn_read_look:typeLookup (.type "function") "read" = pure none:=by rw [typeLookup_type,builtinLookup_eq_fast];kernel_rfl
theorem slot_fn_ga:Slot "function" "__getattribute__" "object.__getattribute__" :=
 .of (owner:="object") (n:="__getattribute__") (by rw [typeLookup_type,builtinLookup_eq_fast];kernel_rfl) (by decide +kernel) (by decide +kernel) (by decide +kernel)
  (by first | exact .inl (by decide +kernel) | exact .inr (by decide +kernel)) (by rw [isSubtype_type];kernel_rfl)
theorem slot_fn_sa:Slot "function" "__setattr__" "object.__setattr__" :=
 .of (owner:="object") (n:="__setattr__") (by rw [typeLookup_type,builtinLookup_eq_fast];kernel_rfl) (by decide +kernel) (by decide +kernel) (by decide +kernel)
  (by first | exact .inl (by decide +kernel) | exact .inr (by decide +kernel)) (by rw [isSubtype_type];kernel_rfl)
theorem entry_oga:entryFor table "object.__getattribute__" = some Builtin.«object.__getattribute__»:=entryFor_of_tree (by kernel_rfl)
theorem entry_osa:entryFor table "object.__setattr__" = some Builtin.«object.__setattr__»:=entryFor_of_tree (by kernel_rfl)
theorem args_oga (a b:Value):argsOk "object.__getattribute__" ⟨[a,b],[]⟩:=by unfold argsOk;kernel_rfl
theorem args_osa (a b c:Value):argsOk "object.__setattr__" ⟨[a,b,c],[]⟩:=by unfold argsOk;kernel_rfl
theorem slot_ci_next:Slot "callable_iterator" "__next__" "callable_iterator.__next__" :=
 .of (owner:="callable_iterator") (n:="__next__") (by rw [typeLookup_type,builtinLookup_eq_fast];kernel_rfl) (by decide +kernel) (by decide +kernel) (by decide +kernel)
  (by first | exact .inl (by decide +kernel) | exact .inr (by decide +kernel)) (by rw [isSubtype_type];kernel_rfl)
theorem slot_ci_iter:Slot "callable_iterator" "__iter__" "callable_iterator.__iter__" :=
 .of (owner:="callable_iterator") (n:="__iter__") (by rw [typeLookup_type,builtinLookup_eq_fast];kernel_rfl) (by decide +kernel) (by decide +kernel) (by decide +kernel)
  (by first | exact .inl (by decide +kernel) | exact .inr (by decide +kernel)) (by rw [isSubtype_type];kernel_rfl)
theorem entry_ci_next:entryFor table "callable_iterator.__next__" = some Builtin.«callable_iterator.__next__»:=entryFor_of_tree (by kernel_rfl)
theorem entry_ci_iter:entryFor table "callable_iterator.__iter__" = some Builtin.«dict_keyiterator.__iter__» :=
 entryFor_alias (id':="dict_keyiterator.__iter__") (by kernel_rfl) rfl (by decide +kernel) (by kernel_rfl)
theorem args_ci_next (a:Value):argsOk "callable_iterator.__next__" ⟨[a],[]⟩:=by unfold argsOk;kernel_rfl
theorem args_ci_iter (a:Value):argsOk "callable_iterator.__iter__" ⟨[a],[]⟩:=by unfold argsOk;kernel_rfl
theorem entry_iter2:entryFor table "iter" = some Builtin.«iter»:=entryFor_of_tree (by kernel_rfl)
theorem args_iter2 (a b:Value):argsOk "iter" ⟨[a,b],[]⟩:=by unfold argsOk;kernel_rfl
theorem kind_iter:builtinKind "iter" = none:=by decide +kernel
theorem plain_iter:plainId "iter" = true:=by decide +kernel
theorem meth_call_look:typeLookup (.type "method") "__call__" = pure (some (.builtin "method.__call__")):=by rw [typeLookup_type,builtinLookup_eq_fast];kernel_rfl
noncomputable abbrev ciO (f y:Value) (b:Bool):Obj:={ cls:=.type "callable_iterator",dict:=none,data:=.fields #[f,y,.bool b],slots:=#[] }
section
variable {prog:Program} {w:World} {A:Around} {E:Value→Shared→Prop} {s:Shared}
theorem call_borrowed {M:Model} {f:Value} {pos:List Value} {Q:Value→Shared→Prop} (h:codeAny M A (.call f ⟨pos,[]⟩) (fun r s'=>match r with | .ok (.ret v)=>Q v s' | .ok _=>False | .error e=>E e s') s) :
  wpAny M A (callBorrowed f pos) Q E s:=fun Γ p hΓ=>by
 unfold callBorrowed
 simp only [Sem.wp_call]
 refine wpCode_mono (fun r s' hr=>?_) (h _ p rfl (hΓ.enter _ none p (by intro x;cases x)))
 rcases r with e | (_ | _ | _ | v)
 ·show Sem.wp M Γ (Sem.raise e) _ _ p s'
  simp only [Sem.wp];exact hr
 ·exact hr.elim
 ·exact hr.elim
 ·exact hr.elim
 ·show Sem.wp M Γ (Sem.pure v) _ _ p s'
  simp only [Sem.wp_pure];exact hr
theorem pyIter_ci {it:Addr} {f y:Value} {b:Bool} {Q:Value→Shared→Prop} (hit:s.heap.get? it = some (ciO f y b)) (h:Q (.ref it) s):wpAny (model prog w) A (pyIter (.ref it)) Q E s:=by
 have hT:s.TypeIs (.ref it) "callable_iterator":=⟨_,hit,rfl⟩
 refine wpAny_pyIter_slot hT slot_ci_iter (wpAny_call_entry slot_ci_iter hT entry_ci_iter ?_ (args_ci_iter _))
 exact wpAny_pure ⟨_,rfl,"callable_iterator",_,hT,slot_ci_next.lookup,h⟩
theorem borrows_meth {M:Model} {bm f:Addr} {self:Value} {o:Obj} {fd:FuncData} {Q:Bool→Shared→Prop} (hb:s.heap.get? bm = some (methodObj (.ref f) self)) (hf:s.heap.get? f = some o) (hd:o.data = .func fd) (h:Q true s) :
  wpAny M A (borrowsExactly (.ref bm)) Q E s:=by
 unfold borrowsExactly
 refine wpAny_bind (wpAny_load hb ?_)
 refine wpAny_bind (wpAny_load hf ?_)
 rw [hd]
 exact wpAny_pure h
theorem pyNext_ci_item {it bm f:Addr} {self:Value} {o:Obj} {fd:FuncData} {y:Str} {ty:Tok} {Q:Option Value→Shared→Prop} (hit:s.heap.get? it = some (ciO (.ref bm) (.str y ty) false))
  (hb:s.heap.get? bm = some (methodObj (.ref f) self)) (hf:s.heap.get? f = some o) (hd:o.data = .func fd)
  (h:codeAny (model prog w) A.in1 (.call (.ref f) ⟨[self],[]⟩) (fun r s'=>match r with
   | .ok (.ret v)=>s'.heap.get? it = some (ciO (.ref bm) (.str y ty) false) ∧ s'.heap.get? bm = some (methodObj (.ref f) self) ∧ s'.heap.get? f = some o ∧ ∃ (x:Str) (t:Tok),v = .str x t ∧
     if x = y then ∀ h',Heap.ExtBut it s'.heap h'→h'.get? it = some (ciO .none .none true)→Q none { s' with heap:=h' } else Q (some v) s'
   | _=>False) s) (hh:A.handled = none):wpAny (model prog w) A (pyNext (.ref it)) Q E s:=by
 have hT:s.TypeIs (.ref it) "callable_iterator":=⟨_,hit,rfl⟩
 unfold pyNext
 refine wpAny_bind (wpAny_attempt (wpAny_callSpecial?_slot (name:=Str.ofString "__next__") hT slot_ci_next
  (wpAny_call_entry slot_ci_next hT entry_ci_next ?_ (args_ci_next _))))
 show wpAny _ _ (field (.ref it) 2 >>= _) _ _ s
 refine wpAny_bind (wpAny_field hit rfl (x:=.bool false) rfl ?_)
 show wpAny _ _ (if (Value.bool false == Value.bool true) = true then _ else _) _ _ s
 rw [if_neg (by decide)]
 refine wpAny_bind (wpAny_field hit rfl (x:=.ref bm) rfl ?_)
 refine wpAny_bind (wpAny_attempt ?_)
 unfold callOutOfASlot
 refine wpAny_bind (borrows_meth hb hf hd ?_)
 rw [if_pos rfl]
 refine call_borrowed (method_call hb (codeAny_mono h fun r s' hr=>?_))
 rcases r with e | (_ | _ | _ | v)
 ·exact hr.elim
 ·exact hr
 ·exact hr
 ·exact hr
 refine Classical.byContradiction fun hcon=>?_
 obtain ⟨hit',hb',hf',x,t,rfl,hr⟩:=hr
 refine hcon ?_
 show wpAny _ _ (field (.ref it) 2 >>= _) _ _ s'
 refine wpAny_bind (wpAny_field hit' rfl (x:=.bool false) rfl ?_)
 rw [if_neg (by decide)]
 refine wpAny_bind (wpAny_field hit' rfl (x:=.str y ty) rfl (wpAny_bind (wpAny_holding (eqBool_str ?_))))
 by_cases q:x = y
 ·rw [if_pos q] at hr
  subst q
  rw [if_neg (by simp)]
  refine wpAny_bind (wpAny_rule (wpAny_bind ?_))
  refine wpAny_bind (wpAny_field hit' rfl (x:=.ref bm) rfl (wpAny_bind ?_))
  unfold slotLetsGo
  refine wpAny_bind (borrows_meth hb' hf' hd ?_)
  rw [if_pos rfl]
  refine wpAny_pure (wpAny_bind (wpAny_setField hit' rfl (by simp) ?_))
  have u1:=Heap.get?_update_self (Obj.mapFields (·.setIfInBounds 0 .none)) hit' rfl
  refine wpAny_bind (wpAny_setField u1 rfl (by simp) ?_)
  have u2:=Heap.get?_update_self (Obj.mapFields (·.setIfInBounds 1 .none)) u1 rfl
  refine wpAny_setField u2 rfl (by simp) ?_
  have u3:=Heap.get?_update_self (Obj.mapFields (·.setIfInBounds 2 (.bool true))) u2 rfl
  refine ?_
  refine wpAny_bind ?_
  dsimp only [newExc,newTuple]
  refine wpAny_bind (wpAny_newObj_type ?_ (by size_fits))
  refine wpAny_bind (m:=firstArgMember _ _) (wpAny_of_eq (a:=Value.none) (by first | rfl | (dsimp only [firstArgMember];rfl)) ?_)
  refine wpAny_newObj_type ?_ (by size_fits)
  dsimp only [raiseNew]
  refine wpAny_bind (wpAny_handled ?_)
  first | rw [show A.in1.handled = none from hh] | rw [hh]
  refine wpAny_bind (wpAny_pure (wpAny_throw ?_))
  refine wpAny_bind (wpAny_isInstance (T:="StopIteration") (b:=true) ⟨_,Heap.get?_push_size _ rfl,rfl⟩ isSubtype_stop ?_)
  refine wpAny_pure (hr _ ?_ ?_)
  ·exact (((((Heap.SameBut.update ..).trans (Heap.SameBut.update ..)).trans (Heap.SameBut.update ..)).extBut.push _).push _)
  ·exact Heap.get?_push_of_some _ (Heap.get?_push_of_some _ u3)
 ·rw [if_neg q] at hr
  rw [if_pos (by simpa using fun e=>q e.symm)]
  exact wpAny_pure ⟨_,rfl,wpAny_pure hr⟩
theorem pyNext_ci_ended {it:Addr} {f y:Value} {Q:Option Value→Shared→Prop} (hit:s.heap.get? it = some (ciO f y true)) (hh:A.handled = none) (h:∀ h',(∀ b o,s.heap.get? b = some o→h'.get? b = some o)→Q none { s with heap:=h' }):wpAny (model prog w) A (pyNext (.ref it)) Q E s:=by
 have hT:s.TypeIs (.ref it) "callable_iterator":=⟨_,hit,rfl⟩
 unfold pyNext
 refine wpAny_bind (wpAny_attempt (wpAny_callSpecial?_slot (name:=Str.ofString "__next__") hT slot_ci_next
  (wpAny_call_entry slot_ci_next hT entry_ci_next ?_ (args_ci_next _))))
 show wpAny _ _ (field (.ref it) 2 >>= _) _ _ s
 refine wpAny_bind (wpAny_field hit rfl (x:=.bool true) rfl ?_)
 rw [if_pos (by decide)]
 refine wpAny_bind (wpAny_rule (wpAny_bind ?_))
 refine wpAny_bind ?_
 dsimp only [newExc,newTuple]
 refine wpAny_bind (wpAny_newObj_type ?_ (by size_fits))
 refine wpAny_bind (m:=firstArgMember _ _) (wpAny_of_eq (a:=Value.none) (by first | rfl | (dsimp only [firstArgMember];rfl)) ?_)
 refine wpAny_newObj_type ?_ (by size_fits)
 dsimp only [raiseNew]
 refine wpAny_bind (wpAny_handled ?_)
 first | rw [show A.in1.handled = none from hh] | rw [hh]
 refine wpAny_bind (wpAny_pure (wpAny_throw ?_))
 refine wpAny_bind (wpAny_isInstance (T:="StopIteration") (b:=true) ⟨_,Heap.get?_push_size _ rfl,rfl⟩ isSubtype_stop ?_)
 exact wpAny_pure (h _ fun b o e=>Heap.get?_push_of_some _ (Heap.get?_push_of_some _ e))
end
end Mine
namespace Mine
open PySem PySem.Spec PySem.Calls PyProof.Rows PySem.W Builtin Builtin.ObjectAttr
section
variable {prog:Program} {w:World} {A:Around} {E:Value→Shared→Prop} {s:Shared}
theorem iter2_ok {bm:Addr} {f self v:Value} {Q:Value→Shared→Prop} (hb:s.heap.get? bm = some (methodObj f self)) (h:Q (.ref s.heap.objs.size) { s with heap:=s.heap.push (ciO (.ref bm) v false) }) :
  wpAny (model prog w) A (call (.builtin "iter") [.ref bm,v]) Q E s:=by
 refine call_function_entry kind_iter plain_iter entry_iter2 (args_iter2 _ _) ?_
 show wpAny _ _ (specialOf (.ref bm) "__call__" >>= _) _ _ _
 refine wpAny_bind (wpAny_specialOf (T:="method") ⟨_,hb,rfl⟩ meth_call_look ?_)
 show wpAny _ _ (do rule "iter.sentinel";ret (← newFields "callable_iterator" [.ref bm,v,.bool false])) _ _ _
 refine wpAny_bind (wpAny_rule (wpAny_bind ?_))
 unfold newFields
 exact wpAny_newObj_type (wpAny_pure ⟨_,rfl,h⟩) (by size_fits)
theorem fn_method {sm sd:Addr} {fd:FuncData} {sl:Array (Option Value)} {od:Obj} {v:Value} {pl:Sem Bool} {Q:Value × List Value→Shared→Prop} (hs:s.heap.get? sm = some ⟨.type "function",some sd,.func fd,sl⟩) (hd:s.heap.get? sd = some od)
  (hl:lookIn "read" od = some (some v)) (hh:handedIn v = true) (h:Q (v,[]) { s with toks:=s.toks + 1 }):wpAny (model prog w) A (getMethod (.ref sm) "read" pl) Q E s:=by
 have hT:s.TypeIs (.ref sm) "function":=⟨_,hs,rfl⟩
 have hT':({ s with toks:=s.toks + 1 }:Shared).TypeIs (.ref sm) "function":=⟨_,hs,rfl⟩
 have hcan:=PySem.F.canon_object_ga
 delta getMethod
 refine wpAny_bind (wpAny_specialOf hT fn_ga_look ?_)
 dsimp only
 rw [hcan,if_neg (by decide)]
 refine wpAny_bind (wpAny_specialOf hT fn_gattr_look ?_)
 refine wpAny_bind (wpAny_specialOf hT fn_read_look ?_)
 dsimp only
 delta getAttr getAttrBy
 refine wpAny_bind (wpAny_bind (wpAny_mkText (wpAny_holding (wpAny_bind (wpAny_typeOf hT' (wpAny_bind (wpAny_of_eq fn_ga_look ?_)))))))
 delta getAttrByItsOwn hookBefore callGetattribute boundAndCalled
 refine wpAny_bind (wpAny_of_eq (show (if onTheHeap (.type "function") then typeLookup (.type "function") "__getattr__" else pure none) = pure none from rfl) ?_)
 refine wpAny_bind (wpAny_attempt (wpAny_holding ?_))
 refine wpAny_bind (wpAny_of_eq (slot_fn_ga.bind _) ?_)
 refine wpAny_call_entry slot_fn_ga hT' entry_oga ?_ (args_oga _ _)
 show wpAny _ _ (do
  let tp ← typeOf (.ref sm)
  match ← find (.ref sm) tp "read" with
  | .value v=>ret v
  | .bind g a=>bindTo g a (.ref sm) tp
  | .missing=>_) _ _ _
 refine wpAny_bind (wpAny_typeOf hT' (wpAny_bind ?_))
 delta find
 refine wpAny_bind (wpAny_of_eq fn_read_look (wpAny_bind (wpAny_pure (wpAny_bind (wpAny_pure ?_)))))
 delta ownThenClass inOwnDict ObjectAttr.ownDict instanceDict inDict
 refine wpAny_bind (wpAny_bind (wpAny_bind (wpAny_loadPart hs ?_)))
 refine wpAny_bind (wpAny_loadPart hs ?_)
 refine wpAny_pure (a:=some sd) ?_
 refine wpAny_bind (wpAny_loadPart hd ?_)
 rw [nsLook_of hl]
 refine wpAny_pure (wpAny_bind (wpAny_rule (wpAny_pure ?_)))
 refine wpAny_pure ⟨v,rfl,?_⟩
 show wpAny _ _ (handedOut v) _ _ _
 rw [handedOut_of hh]
 exact wpAny_pure (wpAny_pure h)
set_option tactic.hygienic true in
theorem nsSet_exact {dx:Addr} {es:List DictEntry} {n:Nat} {name:Str} {v:Value} {Q:Unit→Shared→Prop} (hd:s.heap.get? dx = some (dictOf es n)) (hl:(getL name es).isSome = true)
  (h:∀ h',h'.get? dx = some (dictOf (putL name (PyData.keyHash w.params name) (.str name s.toks) v es) (putN name es n))→Heap.SameBut dx s.heap h'→Q () { s with heap:=h',toks:=s.toks + 1 }) :
  wpAny (model prog w) A (nsSet dx name v) Q E s:=by
 unfold nsSet
 refine wpAny_bind (wpAny_bind (wpAny_askSetting (wpAny_pure (wpAny_bind (wpAny_mkText (wpAny_bind (wpAny_loadPart hd ?_)))))))
 dsimp only
 have c:(!es.toArray.any (·.key.isStr name) && es.toArray.any (·.refKey)) = false:=by
  rw [← Array.any_toList,← Array.any_toList]
  unfold getL at hl
  split at hl
  ·rename_i en he
   rw [List.any_eq_true.mpr ⟨en,List.mem_of_find?_eq_some he,List.find?_some he⟩];rfl
  ·split at hl
   ·exact fat hl
   ·rename_i z;rw [Bool.not_eq_true] at z;simp only [z,Bool.and_false]
 rw [aRefKeyMayBeTheName_at,c]
 refine wpAny_updatePart hd (h _ ?_ (Heap.SameBut.update ..))
 have:=Heap.get?_update_self (Obj.putName name (PyData.keyHash w.params name) (.str name s.toks) v) hd (by rw [putName_dict];rfl)
 rwa [putName_dict] at this
theorem put_field {K:Frag} {C x dx:Addr} {ox:Obj} {es:List DictEntry} {n:Nat} {name:Str} {v:Value} {Q:Unit→Shared→Prop} (X:K.In s.heap) (I:InstAt s.heap x ox C (some (dictOf es n))) (hd:ox.dict = some dx)
  (hs:findIn K (.ref C) "__setattr__" = some (some (.builtin "object.__setattr__"))) (hp:plainOver K C = true) (ht:takerIn K C name = some none) (hh:hasDictIn K C = true) (hl:(getL name es).isSome = true) (hz:es.length ≤ 900)
  (h:∀ h' hsh tk tk',h'.get? dx = some (dictOf (putL name hsh (.str name tk) v es) (putN name es n))→Heap.SameBut dx s.heap h'→Q () { s with heap:=h',toks:=tk' }) :
  wpAny (model prog w) A (setAttr (.ref x) name v) Q E s:=by
 refine set_plain X I hs (osa_open (s:={ s with toks:=s.toks + 1 }) X I hp ht fun b=>?_)
 refine Classical.byContradiction fun hcon=>?_
 refine (any_some hh).elim fun cd k0=>k0.elim fun hc hd'=>?_
 have D:s.heap.get? dx = some (dictOf es n):=by have:=I.dict;rw [hd] at this;exact this
 obtain ⟨hx,hcl,hn,-⟩:=I
 obtain ⟨oc,odi,oda,osl⟩:=ox
 refine hcon ?_
 dsimp only at hcl hd
 subst hcl hd
 refine wpAny_bind (wpAny_pure (wpAny_bind (wpAny_bind (wpAny_loadPart hx (wpAny_bind (looks_clsIn X hc _ _ _ _ (fun _ _ e=>e) ?_))))))
 rw [hd']
 refine wpAny_pure (a:=some dx) (wpAny_bind (wpAny_pure (wpAny_bind ?_)))
 refine nsSet_exact (s:={ s with toks:=s.toks + 1 }) D hl fun h' g sb=>?_
 have len:∀ (hsh:Int) (key v:Value) (l:List DictEntry),(putL name hsh key v l).length ≤ l.length + 1:=by
  intro hsh key v l
  induction l with
  | nil=>simp [putL]
  | cons e r ih=>unfold putL;split <;> simp <;> assumption
 refine wpAny_bind (wpAny_lookBehind g (pastItsLine_dict (by
  refine Nat.le_trans (Nat.le_of_eq List.size_toArray) (Nat.le_trans (len _ _ _ _) ?_)
  rw [sizeLine_eq];exact Nat.lt_of_le_of_lt (by assumption) (by decide))) ?_)
 exact wpAny_pure (h _ _ _ _ g sb)
theorem fn_fin:finalisedInACycleAlone "function" = false:=by decide +kernel
theorem fn_mro:mroOf (.type "function") = pure [.type "function",.type "object"]:=by kernel_rfl
theorem fn_refuse (self:Value):refuseLoop self "__setattr__" [.type "function",.type "object"] = pure ():=by kernel_rfl
theorem fn_set {sm:Addr} {fd:FuncData} {v:Value} {Q:Unit→Shared→Prop} (hs:s.heap.get? sm = some ⟨.type "function",none,.func fd,#[]⟩)
  (h:∀ h' hsh tk tk',h'.get? sm = some ⟨.type "function",some s.heap.objs.size,.func fd,#[]⟩→h'.get? s.heap.objs.size = some (dictOf [⟨hsh,.str "read" tk,v⟩] 1)→(∀ b o,b ≠ sm→s.heap.get? b = some o→h'.get? b = some o)→Q () { s with heap:=h',toks:=tk' }) :
  wpAny (model prog w) A (setAttr (.ref sm) "read" v) Q E s:=by
 have hT:s.TypeIs (.ref sm) "function":=⟨_,hs,rfl⟩
 have hT':({ s with toks:=s.toks + 1 }:Shared).TypeIs (.ref sm) "function":=⟨_,hs,rfl⟩
 delta setAttr
 refine wpAny_bind (wpAny_mkText (wpAny_bind (wpAny_callSpecial?_slot (name:=Str.ofString "__setattr__") hT' slot_fn_sa (wpAny_call_entry slot_fn_sa hT' entry_osa ?_ (args_osa _ _ _)))))
 simp only [osa_eq,refuse_eq]
 refine wpAny_bind (wpAny_bind (wpAny_typeOf hT' (wpAny_bind (wpAny_of_eq fn_mro ?_))))
 simp only [fn_refuse]
 refine wpAny_pure (wpAny_bind (wpAny_typeOf hT' (wpAny_bind (wpAny_of_eq fn_read_look (wpAny_bind (wpAny_pure ?_))))))
 delta storeInOwnDict
 refine wpAny_bind (wpAny_pure ?_)
 refine wpAny_bind ?_
 show wpAny _ _ (instanceDict sm true) _ _ _
 delta instanceDict
 refine wpAny_bind (wpAny_loadPart hs ?_)
 refine wpAny_bind (wpAny_alloc ?_)
 have p1:(s.heap.push { cls:=.type "dict",data:=.dict #[] }).get? sm = some _:=Heap.get?_push_of_some _ hs
 have p2:(s.heap.push { cls:=.type "dict",data:=.dict #[] }).get? s.heap.objs.size = some { cls:=.type "dict",data:=.dict #[] }:=Heap.get?_push_size _ rfl
 have hne:s.heap.objs.size ≠ sm:=Nat.ne_of_gt (Heap.lt_size hs)
 refine wpAny_bind (wpAny_update p1 ?_)
 have u1:=Heap.get?_update_self (fun o:Obj=>{ o with dict:=some s.heap.objs.size }) p1 rfl
 have u2:=(Heap.SameBut.update (h:=s.heap.push { cls:=.type "dict",data:=.dict #[] }) sm (fun o:Obj=>{ o with dict:=some s.heap.objs.size })).2 _ hne |>.trans p2
 delta dictMade
 dsimp only
 simp only [fn_fin]
 refine wpAny_pure (a:=some s.heap.objs.size) ?_
 delta storeInDict newKeyGuard
 refine wpAny_bind (wpAny_pure (wpAny_bind ?_))
 refine nsSet_exact (es:=[]) (n:=0) u2 rfl fun h' g sb=>?_
 refine wpAny_bind (wpAny_lookBehind g (pastItsLine_dict (by dsimp only [sizeLine_eq];exact Nat.succ_le_succ (Nat.zero_le _))) ?_)
 refine wpAny_pure ⟨_,rfl,wpAny_pure ?_⟩
 refine h _ _ _ _ ((sb.2 _ hne.symm).trans u1) g fun b o hb e=>?_
 have hb2:b ≠ s.heap.objs.size:=Nat.ne_of_lt (Heap.lt_size e)
 exact (sb.2 _ hb2).trans (((Heap.SameBut.update ..).2 _ hb).trans (Heap.get?_push_of_some _ e))
end
end Mine
namespace Mine
open PySem PySem.Spec PySem.Calls PyProof.Rows PySem.W
noncomputable abbrev Ret (Q:Value→Shared→Prop):Result→Shared→Prop:=fun r s'=>match r with | .ok (.ret v)=>Q v s' | _=>False
noncomputable abbrev fl2v:Flow→Value | .ret v=>v | _=>.none
section
variable {prog:Program} {w:World} {A:Around} {E:Value→Shared→Prop} {s:Shared} {env:Env}
theorem Ret.to {c:Code} {Q:Value→Shared→Prop} (h:codeAny (model prog w) A c (Ret Q) s):codeAny (model prog w) A c (fun r s'=>match r with | .ok (.ret v)=>Q v s' | .ok _=>False | .error e=>E e s') s :=
 codeAny_mono h fun r s' hr=>by
  rcases r with e | (_ | _ | _ | v)
  ·exact hr.elim
  all_goals exact hr
theorem call_fn {f:Addr} {o:Obj} {fd:FuncData} {body:List Stmt} {vals:List Value} {binds:List (Str × Value)} {Q:Value→Shared→Prop} (hd:A.depth < recursionLimit) (ho:s.heap.get? f = some o) (hf:o.data = .func fd)
  (hb:fd.body = .stmts body) (hcd:s.heap.CodeRec fd.code fd.qualname) (nl:s.heap.NoLimit) (hbind:bindArgs fd ⟨vals,[]⟩ = pure binds) (hnc:∀ x ∈ fd.scope.names,x.2 ≠ .cell) (hloc:∀ x ∈ binds,fd.scope.names.lookup x.1 = some .local)
  (hk:fd.scope.kind = .function) (hco:fd.scope.isCoroutine = false) (hgen:fd.scope.isGenerator = false)
  (h:∀ h' tk,h'.Ns s.heap.objs.size (fun x=>binds.reverse.lookup x)→(∀ b o,s.heap.get? b = some o→h'.get? b = some o)→s.heap.get? s.heap.objs.size = none →
   wpAny (model prog w) (A.deeper (newEnv fd.scope s.heap.objs.size fd.globals fd.closure (fd.qualname ++ ".<locals>.") (some f) fd.code none fd.builtins)) (execs body (newEnv fd.scope s.heap.objs.size fd.globals fd.closure (fd.qualname ++ ".<locals>.") (some f) fd.code none fd.builtins))
    (fun fl s'=>Q (fl2v fl) s') (fun _ _=>False) { s with heap:=h',toks:=tk }) :
  codeAny (model prog w) A (.call (.ref f) ⟨vals,[]⟩) (Ret Q) s:=by
 refine codeAny_call_function hd ho hf hco hgen hb hcd ?_
 simp only [hbind]
 refine wpAny_pure (wpAny_newFunctionEnv hnc hloc (fun h' hn sb=>⟨nl.fresh _ sb,codeAny_func ?_⟩) hk)
 refine wpAny_mono (h h' _ hn (fun b o e=>sb.extBut b o (Nat.ne_of_lt (Heap.lt_size e)) (Heap.get?_push_of_some _ e)) ?_) (fun _ _ x=>x) (fun _ _ x=>x.elim)
 cases q:s.heap.get? s.heap.objs.size with
 | none=>rfl
 | some o=>exact absurd (Heap.lt_size q) (Nat.lt_irrefl _)
theorem part_none {M:Model} {Q:Value→Shared→Prop} (h:Q .none s):wpAny M A (evalPart none env) Q E s:=wpAny_pure h
theorem part_some {M:Model} {e:Expr} {Q:Value→Shared→Prop} (h:wpAny M A (eval e env) Q E s):wpAny M A (evalPart (some e) env) Q E s:=h
theorem slc_str {x:T} {t:Tok} {ql qh:Option (Int × Tok)} {Q:Value→Shared→Prop} (hx:x.length ≤ 16777216) (h:∀ t' tk,Q (.str (strOf (cut x (ql.map (·.1)) (qh.map (·.1)))) t') { s with heap:=s.heap.push { cls:=.type "slice",data:=.fields #[partValue ql,partValue qh,.none] },toks:=tk }) :
  ItemOn (model prog w) A E (.str (strOf x) t) (.ref s.heap.objs.size) Q { s with heap:=s.heap.push { cls:=.type "slice",data:=.fields #[partValue ql,partValue qh,.none] } }:=by
 refine ⟨"str",_,F.slot_str_getitem.lookup,typeIs_str _ _ _,wpAny_getItem_str_slice (l:=ql) (u:=qh) (st:=none) ⟨_,Heap.get?_push_size _ rfl,rfl,rfl⟩ rfl ?_⟩
 have e:=slice_eq x (ql.map (·.1)) (qh.map (·.1))
 refine post_val_or_str (c:=((1:Int) == 1 && (slicePicked (strOf _) ql qh none).length == (strOf _).length) = true) (y:=strOf _) (z:=⟨((slicePicked (strOf _) ql qh none).filterMap ((strOf _).cps[·]?)).toArray⟩) ?_
 unfold slicePicked
 show (Txt.slice (strOf _) _ _).length ≤ _ ∧ ∀ t' k,Q (.str (Txt.slice (strOf _) _ _) t') _
 rw [e]
 exact ⟨by rw [strOf_length];exact limL (Nat.le_trans (cut_length_le _ _ _) hx),fun t' k=>h t' _⟩
theorem item0 {l:Addr} {v:Value} {r:List Value} {j:Nat} {t:Tok} {Q:Value→Shared→Prop} (hl:s.heap.get? l = some (listO (v :: r) j)) (h:Q v s):ItemOn (model prog w) A E (.ref l) (.int 0 t) Q s:=by
 have hL:s.heap.IsList l (v :: r).toArray:=⟨_,hl,rfl,j,rfl⟩
 exact ⟨"list",_,list_getitem_lookup,hL.typeIs,wpAny_getItem_list hL (by exact Int.natCast_nonneg _) (by exact Int.natCast_nonneg _) rfl h⟩
theorem rd_ok {P:Nat→Pos} {q:Str} {doc pm ctv:Value} {cc c ls rf:Addr} {x:T} {t ti:Tok} {j:Nat} {Q:Value→Shared→Prop} (hrf:s.heap.get? rf = some (fnMade "read" q (rdArgs P) (rdBody P) rdScope [("left",c)] doc pm cc ctv)) (hcd:s.heap.CodeRec (.ref cc) q)
  (nl:s.heap.NoLimit) (hc:s.heap.IsCell c (some (.ref ls))) (hls:s.heap.get? ls = some (listO [.str (strOf x) t] j)) (hx:x.length ≤ 16777216) (hd:A.depth < recursionLimit)
  (h:∀ h' tk t1 t2 j',h'.get? ls = some (listO [.str (strOf (x.drop 1)) t1] j')→(∀ b o,b ≠ ls→s.heap.get? b = some o→h'.get? b = some o)→Q (.str (strOf (x.take 1)) t2) { s with heap:=h',toks:=tk }) :
  codeAny (model prog w) A (.call (.ref rf) ⟨[.int 1 ti],[]⟩) (Ret Q) s:=by
 refine call_fn hd hrf rfl rfl hcd nl (binds:=[("size",.int 1 ti)]) rfl (show ∀ x ∈ rdScope.names,x.2 ≠ .cell by decide) (by intro y hy;rw [List.mem_singleton.mp hy];rfl) rfl rfl rfl fun h₁ tk₁ hn hk hL=>?_
 generalize henv:newEnv _ _ _ _ _ _ _ _ _ = env
 have kind:env.scope.kind = .function:=by rw [← henv];rfl
 have loc:env.locals = s.heap.objs.size:=by rw [← henv];rfl
 have cel:env.cells.lookup ("left":Str) = some c:=by rw [← henv];rfl
 have k1:env.kindOf "left" = some .free:=by rw [← henv];rfl
 have k2:env.kindOf "size" = some .local:=by rw [← henv];rfl
 have k3:env.kindOf "sign" = some .local:=by rw [← henv];rfl
 have hne:ls ≠ s.heap.objs.size:=fun e=>by rw [e,hL] at hls;exact nso hls
 have hnc:c ≠ s.heap.objs.size:=fun e=>by obtain ⟨o,g,_⟩:=hc;rw [e,hL] at g;cases g
 have hncl:c ≠ ls:=fun e=>by obtain ⟨o,g,d⟩:=hc;rw [e,hls] at g;cases g;cases d
 have hc₁:h₁.IsCell c (some (.ref ls)):=let ⟨o,g,d⟩:=hc;⟨o,hk _ _ g,d⟩
 have hls₁:=hk _ _ hls
 rw [← loc] at hn hne hnc
 have left0:∀ {A:Around} {E:Value→Shared→Prop} {p1 p2 p3:Pos} {s₁:Shared} {x:T} {t:Tok} {j:Nat} {Q:Value→Shared→Prop},s₁.heap.IsCell c (some (.ref ls))→s₁.heap.get? ls = some (listO [.str (strOf x) t] j)→(∀ tk,Q (.str (strOf x) t) { s₁ with toks:=tk }) →
   wpAny (model prog w) A (eval (.Subscript (.Name "left" p1) (.Constant (.int 0) 0 p2) p3) env) Q E s₁:=fun hc hl h =>
  sub_any (wpAny_Name (wpAny_loadName_free kind k1 cel hc (wpAny_Constant_int (item0 hl (h _)))))
 refine wpAny_execs_cons (wpAny_Assign_Name (sub_any (left0 hc₁ hls₁ fun tk₂=>?_)))
 refine wpAny_Slice (part_none (part_some (wpAny_Name (wpAny_loadName_local kind k2 hn rfl (part_none ?_)))))
 refine slc_str (ql:=none) (qh:=some (1,ti)) hx fun t2 tk₃=>?_
 have hn₂:=hn.push { cls:=.type "slice",data:=.fields #[partValue none,partValue (some (1,ti)),.none] }
 refine wpAny_storeName_local k3 hn₂ (fun h₃ hn₃ sb₃=>?_) (by rw [kind];rfl)
 have keep₃:∀ b o,b ≠ env.locals→h₁.get? b = some o→h₃.get? b = some o:=fun b o hb e=>(sb₃.2 b hb).trans (Heap.get?_push_of_some _ e)
 have hc₃:h₃.IsCell c (some (.ref ls)):=let ⟨o,g,d⟩:=hc₁;⟨o,keep₃ _ _ hnc g,d⟩
 have hls₃:=keep₃ _ _ hne hls₁
 refine wpAny_execs_cons (wpAny_Assign_Subscript (sub_any (left0 hc₃ hls₃ fun tk₄=>?_)) (swaps_sub _ _ _ _ _))
 refine wpAny_Slice (part_some (wpAny_Name (wpAny_loadName_local kind k2 hn₃ rfl (part_none (part_none ?_)))))
 refine slc_str (ql:=some (1,ti)) (qh:=none) hx fun t3 tk₅=>?_
 have hn₄:=hn₃.push { cls:=.type "slice",data:=.fields #[partValue (some (1,ti)),partValue none,.none] }
 have keep₄:∀ b o,h₃.get? b = some o→(h₃.push { cls:=.type "slice",data:=.fields #[partValue (some (1,ti)),partValue none,.none] }).get? b = some o:=fun b o e=>Heap.get?_push_of_some _ e
 have hc₄:(h₃.push { cls:=.type "slice",data:=.fields #[partValue (some (1,ti)),partValue none,.none] }).IsCell c (some (.ref ls)):=let ⟨o,g,d⟩:=hc₃;⟨o,keep₄ _ _ g,d⟩
 refine wpAny_Name (wpAny_loadName_free kind k1 cel hc₄ (wpAny_Constant_int ?_))
 refine setItem_exact (keep₄ _ _ hls₃) (by exact Int.natCast_nonneg _) (by exact Int.natCast_nonneg _) (by simp) fun h₅ j₅ g₅ sb₅=>?_
 have hn₅:=hn₄.sameBut sb₅ (Ne.symm hne)
 refine wpAny_execs_cons (wpAny_Return_some (wpAny_Name (wpAny_loadName_local kind k3 hn₅ rfl ?_)))
 have e1:cut x (some 1) none = x.drop 1:=cut_from x 1
 have e2:cut x none (some 1) = x.take 1:=cut_upto x 1
 show Q (.str (strOf (cut x none (some 1))) t2) _
 rw [e2]
 refine h h₅ _ t3 t2 j₅ (by rw [g₅];show _ = some (listO [Value.str (strOf (x.drop 1)) t3] j₅);rw [← e1];rfl) fun b o hb e=>?_
 have hbL:b ≠ env.locals:=fun q=>by rw [q,loc,hL] at e;exact nso e
 exact (sb₅.2 b hb).trans (keep₄ _ _ (keep₃ _ _ hbL (hk _ _ e)))
theorem mc {M:Model} {o:Expr} {name:Str} {ap pos:Pos} {ov:Value} {n:Nat} {args:List (Bool × Sem Value)} {Q:Value→Shared→Prop} (hl:(ap.endLine == pos.line) = true) (hf:methodCallForm n args [] = true)
  (h:∀ pl,wpAny M A (getMethod ov name pl) (fun fx s₂=>wpAny M A (callWith pos fx.1 fx.2 args []) Q E s₂) E s):wpAny M A (methodCall o name ap pos env ov n args []) Q E s:=by
 unfold methodCall
 rw [hf]
 refine wpAny_bind (wpAny_holding (wpAny_mono (h _) (fun fx s' h'=>?_) fun _ _ x=>x))
 refine wpAny_bind ?_
 unfold methodCallPos
 rw [hl]
 exact wpAny_pure h'
theorem mcall {o:Expr} {name:Str} {ap pos:Pos} {args:List Expr} {Q:Value→Shared→Prop} (hb:∀ whole,attributeBase o name env whole = whole) (hl:(ap.endLine == pos.line) = true) (hf:methodCallForm args.length (backTo pos (starEach args env)) [] = true)
  (h:wpAny (model prog w) A (eval o env) (fun ov s₁=>∀ pl,wpAny (model prog w) A (getMethod ov name pl) (fun fx s₂=>wpAny (model prog w) A (callWith pos fx.1 fx.2 (backTo pos (starEach args env)) []) Q E s₂) E s₁) E s) :
  wpAny (model prog w) A (eval (.Call (.Attribute o name ap) args [] pos) env) Q E s:=by
 simp only [arm_eval_Call,hb]
 exact wpAny_bind (wpAny_mono h (fun ov s₁ h₁=>wpAny_bind (wpAny_standAt (mc hl hf h₁))) fun _ _ x=>x)
theorem cw0 {f:Addr} {o:Obj} {fd:FuncData} {first:List Value} {pos:Pos} {Q:Value→Shared→Prop} (ho:s.heap.get? f = some o) (hd:o.data = .func fd) (h:wpAny (model prog w) A (call (.ref f) (first ++ [])) Q E s) :
  wpAny (model prog w) A (callWith pos (.ref f) first [] []) Q E s :=
 callWith_function (o:=o) (fd:=fd) (evalArgs_nil3 ⟨⟨ho,hd⟩,h⟩)
theorem cw1 {f:Addr} {o:Obj} {fd:FuncData} {first:List Value} {pos:Pos} {t:Sem Value} {Q:Value→Shared→Prop} (h:wpAny (model prog w) A t (fun v s₁=>(s₁.heap.get? f = some o ∧ o.data = .func fd) ∧ wpAny (model prog w) A (call (.ref f) (first ++ [v])) Q E s₁) E s) :
  wpAny (model prog w) A (callWith pos (.ref f) first [(false,t)] []) Q E s :=
 callWith_function (o:=o) (fd:=fd) (evalArgs_plain (Calls.spliced_cons (wpAny_mono h (fun v s₁ h₁=>Calls.spliced_nil h₁) fun _ _ x=>x)))
end
structure LK where
 K:Frag
 C:Addr
 fI:Addr
 fR:Addr
 fG:Addr
 fP:Addr
 P:Nat→Pos
noncomputable def FnIn (K:Frag) (f:Addr) (body:List Stmt) (scope:Scope) (xs:List Str):Prop :=
 ∃ o fd,K.lookup f = some o ∧ o.cls = .type "function" ∧ o.data = .func fd ∧ fd.globals = mainGlobals ∧ fd.builtins = builtinsNs ∧ fd.closure = [] ∧ fd.body = .stmts body ∧ fd.scope = scope ∧
  (∀ vals:List Value,vals.length = xs.length→bindArgs fd ⟨vals,[]⟩ = pure (xs.zip vals)) ∧ codeIn K fd.code fd.qualname = true
structure LK.Ok (k:LK):Prop where
 makes:makesIn k.K k.C = true
 ga:findIn k.K (.ref k.C) "__getattribute__" = some (some (.builtin "object.__getattribute__"))
 gattr:findIn k.K (.ref k.C) "__getattr__" = some none
 sa:findIn k.K (.ref k.C) "__setattr__" = some (some (.builtin "object.__setattr__"))
 plain:plainOver k.K k.C = true
 hasd:hasDictIn k.K k.C = true
 o1:findIn k.K (.ref k.C) "lineno" = some none
 o2:findIn k.K (.ref k.C) "instream" = some none
 o3:findIn k.K (.ref k.C) "whitespace" = some none
 o4:findIn k.K (.ref k.C) "pushback" = some none
 init:findIn k.K (.ref k.C) "__init__" = some (some (.ref k.fI))
 get:findIn k.K (.ref k.C) "get_token" = some (some (.ref k.fG))
 psh:findIn k.K (.ref k.C) "push_token" = some (some (.ref k.fP))
 rdc:findIn k.K (.ref k.C) "_read_char" = some (some (.ref k.fR))
 rdget:specialIn k.K (.ref k.fR) "__get__" = some (some (.builtin "function.__get__"))
 rdtake:takesIn k.K (.ref k.fR) = some false
 fi:FnIn k.K k.fI (initBody k.P) initScope ["self","fp"]
 fr:FnIn k.K k.fR (rdcBody k.P) rdcScope ["self"]
 fg:FnIn k.K k.fG (getBody k.P) getScope ["self"]
 fp:FnIn k.K k.fP (pshBody k.P) pshScope ["self","token"]
 line:∀ i ∈ [(22,24),(41,43),(79,80),(93,94),(113,114),(130,132)],((k.P i.1).endLine == (k.P i.2).line) = true
noncomputable abbrev lxD (u:Nat→Int) (uv:Nat→Tok) (tn:Tok) (n:Int) (sm p:Addr):List DictEntry :=
 [⟨u 1,.str "lineno" (uv 1),.int n tn⟩,⟨u 2,.str "instream" (uv 2),.ref sm⟩,⟨u 3,.str "whitespace" (uv 3),.str "\n\t\r " (uv 5)⟩,⟨u 4,.str "pushback" (uv 4),.ref p⟩]
inductive IsLxD (h:Heap) (d:Addr) (n:Int) (sm p:Addr):Prop
 | mk (u:Nat→Int) (uv:Nat→Tok) (tn:Tok) (j:Nat):h.get? d = some (dictOf (lxD u uv tn n sm p) j)→IsLxD h d n sm p
theorem IsLxD.of {h:Heap} {d:Addr} {n:Int} {sm p:Addr} {a1 a2 a3 a4:Int} {t1 t2 t3 t4 tn tw:Tok} {j:Nat} (hd:h.get? d = some (dictOf [⟨a1,.str "lineno" t1,.int n tn⟩,⟨a2,.str "instream" t2,.ref sm⟩,⟨a3,.str "whitespace" t3,.str "\n\t\r " tw⟩,⟨a4,.str "pushback" t4,.ref p⟩] j)):IsLxD h d n sm p :=
 ⟨fun i=>[a1,a1,a2,a3,a4].getD i 0,fun i=>[t1,t1,t2,t3,t4,tw].getD i 0,tn,j,hd⟩
noncomputable def tag (o:Obj):Nat:=match o.data with
 | .dict es _=>es.size + 10
 | .seq _ _=>1
 | .cell _=>2
 | .func _=>3
 | .fields _=>4
 | _=>5
section
variable {h h':Heap} {cr b a:Addr} {q:Str} {o o':Obj} {m:Str→Option Value}
theorem tag_ne {i j:Nat} (h1:h.get? a = some o) (h2:h.get? b = some o') (hi:tag o = i) (hj:tag o' = j) (ne:i ≠ j):a ≠ b:=fun e=>ne (hi.symm.trans ((congrArg tag (Option.some.inj (h1.symm.trans (e ▸ h2)))).trans hj))
inductive CrO (h:Heap) (cr:Addr) (q:Str):Prop
 | mk {o:Obj} {vs:Array Value} {t:Tok}:h.get? cr = some o→o.data = .fields vs→vs[1]? = some (.str q t)→CrO h cr q
theorem cr_o (x:h.CodeRec (.ref cr) q):CrO h cr q:=by
 obtain ⟨c,o,vs,t,e,g,d,v⟩:=x
 cases e;exact ⟨g,d,v⟩
theorem tag_c {c:Option Value} (e:o.data = .cell c):tag o = 2:=by unfold tag;rw [e]
theorem tag_f {c:Array Value} (e:o.data = .fields c):tag o = 4:=by unfold tag;rw [e]
theorem cr_keep (x:h.CodeRec (.ref cr) q) (hk:∀ o,h.get? cr = some o→tag o = 4→h'.get? cr = some o):h'.CodeRec (.ref cr) q:=by cases cr_o x with | mk g d v=>exact ⟨cr,_,_,_,rfl,hk _ g (tag_f d),d,v⟩
theorem cr_al (x:h.CodeRec (.ref cr) q):∃ o,h.get? cr = some o:=by cases cr_o x with | mk g d v=>exact ⟨_,g⟩
theorem cr_ne (x:h.CodeRec (.ref cr) q) (hb:h.get? b = some o) (hd:∀ vs t,o.data = .fields vs→vs[1]? = some (.str q t)→False):cr ≠ b:=by
 cases cr_o x with | mk g d v=>exact fun e=>by rw [e,hb] at g;cases g;exact hd _ _ d v
theorem ns_keep (n:h.Ns a m) (hk:∀ o,h.get? a = some o→h'.get? a = some o):h'.Ns a m:=let ⟨o,es,ep,g,r⟩:=n;⟨o,es,ep,hk _ g,r⟩
theorem ns_ne (n:h.Ns a m) (hb:h.get? b = none):b ≠ a:=by obtain ⟨o,es,ep,g,_⟩:=n;exact get_ne hb g
end
structure Fp where
 a:Addr
 d:Addr
 p:Addr
 ls:Addr
 c:Addr
 rf:Addr
 sm:Addr
 sd:Addr
 cc:Addr
structure LexC (k:LK) (h:Heap) (f:Fp) (x:T) (n:Int):Prop where
 inst:h.get? f.a = some (instObj k.C f.d)
 dict:IsLxD h f.d n f.sm f.p
 left:∃ t j,h.get? f.ls = some (listO [.str (strOf x) t] j)
 cell:h.IsCell f.c (some (.ref f.ls))
 rd:∃ q doc pm ctv,h.get? f.rf = some (fnMade "read" q (rdArgs k.P) (rdBody k.P) rdScope [("left",f.c)] doc pm f.cc ctv) ∧ h.CodeRec (.ref f.cc) q
 sm:∃ fd,h.get? f.sm = some ⟨.type "function",some f.sd,.func fd,#[]⟩
 sd:∃ hs t,h.get? f.sd = some (dictOf [⟨hs,.str "read" t,.ref f.rf⟩] 1)
noncomputable def Keep2 (f:Fp) (h h':Heap):Prop:=∀ b o,b ≠ f.d→b ≠ f.ls→h.get? b = some o→h'.get? b = some o
theorem Keep2.trans {f:Fp} {h h' h'':Heap} (a:Keep2 f h h') (b:Keep2 f h' h''):Keep2 f h h'':=fun x o h1 h2 e=>b x o h1 h2 (a x o h1 h2 e)
section
variable {k:LK} {h h':Heap} {f:Fp} {x y:T} {n m:Int}
theorem LexC.dls (L:LexC k h f x n):f.d ≠ f.ls:=by
 refine Classical.byContradiction fun hcon=>?_
 obtain ⟨u,uv,tn,j,hd⟩:=L.dict
 refine (L.left).elim fun t k0=>k0.elim fun i hl=>?_
 refine hcon ?_
 exact tag_ne hd hl (i:=14) (j:=1) rfl rfl (by decide)
theorem LexC.map (L:LexC k h f x n) (K:∀ {b:Addr} {o:Obj} (i:Nat),h.get? b = some o→tag o = i→i ≠ 14→i ≠ 1→h'.get? b = some o) (hd:IsLxD h' f.d m f.sm f.p) (hl:∃ t j,h'.get? f.ls = some (listO [.str (strOf y) t] j)):LexC k h' f y m :=
 ⟨K 5 L.inst rfl (by decide) (by decide),hd,hl,L.cell.imp fun o g=>⟨K 2 g.1 (tag_c g.2) (by decide) (by decide),g.2⟩,
  let ⟨q,doc,pm,ctv,hr,cr⟩:=L.rd
  ⟨q,doc,pm,ctv,K 3 hr rfl (by decide) (by decide),cr_keep cr fun o g e=>K 4 g e (by decide) (by decide)⟩,L.sm.imp fun _ g=>K 3 g rfl (by decide) (by decide),L.sd.imp fun _ g=>g.imp fun _ g=>K 11 g rfl (by decide) (by decide)⟩
theorem LexC.move (L:LexC k h f x n) (K2:Keep2 f h h') (hd:IsLxD h' f.d m f.sm f.p) (hl:∃ t j,h'.get? f.ls = some (listO [.str (strOf y) t] j)):LexC k h' f y m:=by
 refine Classical.byContradiction fun hcon=>?_
 obtain ⟨u,uv,tn,j,gd⟩:=L.dict
 refine (L.left).elim fun t k0=>k0.elim fun i gl=>?_
 refine hcon ?_
 exact L.map (fun _ e hi n1 n2=>K2 _ _ (tag_ne e gd hi rfl n1) (tag_ne e gl hi rfl n2) e) hd hl
theorem IsLxD.keep {d:Addr} {sm p:Addr} (a:IsLxD h d n sm p) (e:∀ o,h.get? d = some o→h'.get? d = some o):IsLxD h' d n sm p:=by
 obtain ⟨u,uv,tn,j,hd⟩:=a
 exact ⟨u,uv,tn,j,e _ hd⟩
theorem left_keep {ls:Addr} (L:∃ t j,h.get? ls = some (listO [.str (strOf x) t] j)) (e:∀ o,h.get? ls = some o→h'.get? ls = some o):∃ t j,h'.get? ls = some (listO [.str (strOf x) t] j):=L.imp fun _ g=>g.imp fun _ g=>e _ g
theorem LexC.keep (L:LexC k h f x n) (hk:∀ b o,h.get? b = some o→h'.get? b = some o):LexC k h' f x n:=L.map (fun _ e _ _ _=>hk _ _ e) (L.dict.keep (hk _)) (left_keep L.left (hk _))
end
section
variable {prog:Program} {w:World} {A:Around} {E:Value→Shared→Prop} {s:Shared} {env:Env} {k:LK} {f:Fp} {x:T} {n:Int}
theorem LexC.instAt (L:LexC k s.heap f x n) {u uv tn j} (hd:s.heap.get? f.d = some (dictOf (lxD u uv tn n f.sm f.p) j)) :
  InstAt s.heap f.a (instObj k.C f.d) k.C (some (dictOf (lxD u uv tn n f.sm f.p) j)):=⟨L.inst,rfl,rfl,hd⟩
theorem look1 {u uv tn n sm p}:getL "lineno" (lxD u uv tn n sm p) = some (some (.int n tn)):=rfl
theorem look2 {u uv tn n sm p}:getL "instream" (lxD u uv tn n sm p) = some (some (.ref sm)):=rfl
theorem look3 {u uv tn n sm p}:getL "whitespace" (lxD u uv tn n sm p) = some (some (.str "\n\t\r " (uv 5))):=rfl
theorem look4 {u uv tn n sm p}:getL "pushback" (lxD u uv tn n sm p) = some (some (.ref p)):=rfl
theorem put1 {u uv tn n sm p hsh tk v tv}:putL "lineno" hsh (.str "lineno" tk) (.int v tv) (lxD u uv tn n sm p) = lxD u uv tv v sm p:=rfl
end
section
variable {prog:Program} {w:World} {A:Around} {E:Value→Shared→Prop} {s:Shared} {env:Env} {k:LK} {f:Fp} {x:T} {n:Int}
structure EnvIs (env:Env) (L:Addr) (scope:Scope):Prop where
 scope:env.scope = scope
 loc:env.locals = L
 glob:env.globals = mainGlobals
 bui:env.builtins = builtinsNs
theorem EnvIs.kind {L:Addr} {scope:Scope} (e:EnvIs env L scope) {x:Str} {q:NameKind} (h:scope.names.lookup x = some q):env.kindOf x = some q:=by unfold Env.kindOf;rw [e.scope];exact h
theorem call_in {K:Frag} {g:Addr} {body:List Stmt} {scope:Scope} {xs:List Str} {vals:List Value} {Q:Value→Shared→Prop} (X:K.In s.heap) (nl:s.heap.NoLimit) (F:FnIn K g body scope xs) (hd:A.depth < recursionLimit) (hl:vals.length = xs.length)
  (hnc:∀ x ∈ scope.names,x.2 ≠ .cell) (hloc:∀ x ∈ xs,scope.names.lookup x = some .local) (hk:scope.kind = .function) (hco:scope.isCoroutine = false) (hgen:scope.isGenerator = false)
  (h:∀ env h' tk,EnvIs env s.heap.objs.size scope→h'.Ns s.heap.objs.size (fun x=>(xs.zip vals).reverse.lookup x)→(∀ b o,s.heap.get? b = some o→h'.get? b = some o)→s.heap.get? s.heap.objs.size = none →
   wpAny (model prog w) (A.deeper env) (execs body env) (fun fl s'=>Q (fl2v fl) s') (fun _ _=>False) { s with heap:=h',toks:=tk }) :
  codeAny (model prog w) A (.call (.ref g) ⟨vals,[]⟩) (Ret Q) s:=by
 refine Classical.byContradiction fun hcon=>?_
 obtain ⟨o,fd,hK,hcls,hdata,hg,hb,hclo,hbody,hscope,hbind,hcode⟩:=F
 subst hscope
 refine hcon ?_
 refine call_fn hd (X _ _ hK) hdata hbody (codeRec_of X hcode) nl (hbind vals hl) hnc ?_ hk hco hgen fun h' tk hn hk' hL=>?_
 ·intro y hy
  exact hloc _ (List.of_mem_zip (show (y.1,y.2) ∈ xs.zip vals from hy)).1
 ·exact h _ h' tk ⟨rfl,rfl,hg,hb⟩ hn hk' hL
theorem LexC.get {name:Str} {v:Value} {expr:Bool} {Q:Value→Shared→Prop} (O:k.Ok) (X:k.K.In s.heap) (L:LexC k s.heap f x n) {u uv tn j} (hd:s.heap.get? f.d = some (dictOf (lxD u uv tn n f.sm f.p) j))
  (ho:findIn k.K (.ref k.C) name = some none) (hl:getL name (lxD u uv tn n f.sm f.p) = some (some v)) (hv:handedIn v = true) (h:∀ tk,Q v { s with toks:=tk }) :
  wpAny (model prog w) A (getAttr (.ref f.a) name expr) Q E s :=
 get_value X (L.instAt hd) O.ga (findObj_own O.hasd ho rfl hl) hv (h _)
noncomputable def BaseIn (B:Addr→Option Obj) (h:Heap):Prop:=∀ b o,B b = some o→h.get? b = some o
structure LW (k:LK) (B:Addr→Option Obj) (mg mb:Str→Option Value):Prop where
 ok:k.Ok
 kin:∀ h,BaseIn B h→k.K.In h
 lim:∀ h,BaseIn B h→h.NoLimit
 main:∀ h,BaseIn B h→h.Ns mainGlobals mg
 bi:∀ h,BaseIn B h→h.Ns builtinsNs mb
theorem BaseIn.keep {B:Addr→Option Obj} {h h':Heap} (a:BaseIn B h) (b:∀ b o,h.get? b = some o→h'.get? b = some o):BaseIn B h':=fun x o e=>b x o (a x o e)
theorem BaseIn.keep2 {B:Addr→Option Obj} {h h':Heap} (a:BaseIn B h) (nB:B f.d = none ∧ B f.ls = none) (b:Keep2 f h h'):BaseIn B h':=fun x o e =>
 b x o (fun q=>by rw [q,nB.1] at e;cases e) (fun q=>by rw [q,nB.2] at e;cases e) (a x o e)
theorem rdc_ok {B:Addr→Option Obj} {mg mb:Str→Option Value} {Q:Value→Shared→Prop} (W:LW k B mg mb) (hB:BaseIn B s.heap) (nB:B f.d = none ∧ B f.ls = none) (L:LexC k s.heap f x n) (hx:x.length ≤ 16777216) (hd:A.depth + 1 < recursionLimit)
  (h:∀ h' tk t2,LexC k h' f (x.drop 1) (n + if x.take 1 = [10] then 1 else 0)→Keep2 f s.heap h'→Q (.str (strOf (x.take 1)) t2) { s with heap:=h',toks:=tk }) :
  codeAny (model prog w) A (.call (.ref k.fR) ⟨[.ref f.a],[]⟩) (Ret Q) s:=by
 have O:=W.ok
 refine call_in (W.kin _ hB) (W.lim _ hB) O.fr (by exact Nat.le_of_lt (by assumption)) rfl (by decide) (by decide) rfl rfl rfl fun env h₁ tk₁ ev hn hk hL=>?_
 have loc:=ev.loc
 have kind:env.scope.kind = .function:=by rw [ev.scope];rfl
 have k1:env.kindOf "self" = some .local:=ev.kind rfl
 have k2:env.kindOf "ch" = some .local:=ev.kind rfl
 have L₁:=L.keep hk
 have B₁:=hB.keep hk
 refine Classical.byContradiction fun hcon=>?_
 obtain ⟨u,uv,tn,j,hdd⟩:=L₁.dict
 obtain ⟨q,doc,pm,ctv,hrf,hcd⟩:=L₁.rd
 refine (L₁.sm).elim fun fd hsm=>?_
 refine (L₁.sd).elim fun hs k0=>k0.elim fun ts hsd=>?_
 refine (L₁.left).elim fun tl k0=>k0.elim fun jl hls=>?_
 refine hcon ?_
 rw [← loc] at hn
 have new:∀ {b:Addr} {o:Obj},s.heap.get? b = some o→b ≠ env.locals:=fun e q=>by rw [q,loc,hL] at e;exact nso e
 have nd:f.d ≠ env.locals:=by obtain ⟨u,uv,tn,j,hd⟩:=L.dict;exact new hd
 have nls:f.ls ≠ env.locals:=by obtain ⟨t,j,hl⟩:=L.left;exact new hl
 refine wpAny_execs_cons (wpAny_Assign_Name (mcall (fun _=>rfl) (O.line (22,24) (by decide)) rfl (Attribute_Name_ (wpAny_Name (wpAny_loadName_local kind k1 hn rfl ?_)) rfl) ))
 refine L₁.get (s:={ s with heap:=h₁,toks:=tk₁ }) O (W.kin _ B₁) hdd O.o2 look2 rfl fun tk₂ pl=>?_
 refine fn_method (s:={ s with heap:=h₁,toks:=tk₂ }) hsm hsd rfl rfl ?_
 refine cw1 (t:=eval (.Constant (.int 1) 0 (k.P 23)) env) (wpAny_Constant_int ⟨⟨hrf,rfl⟩,wpAny_call (Ret.to ?_)⟩)
 refine rd_ok hrf hcd (W.lim _ B₁) L₁.cell hls hx hd fun h₂ tk₃ u1 u2 j₂ g₂ keep₂=>?_
 have hn₂:h₂.Ns env.locals _:=let ⟨o,es,ep,e,r⟩:=hn;⟨o,es,ep,keep₂ _ _ nls.symm e,r⟩
 refine wpAny_storeName_local k2 hn₂ (fun h₃ hn₃ sb₃=>?_) (by simp only [kind];rfl)
 have K3:Keep2 f s.heap h₃:=fun b o e1 e2 e=>(sb₃.2 b (new e)).trans (keep₂ _ _ e2 (hk _ _ e))
 have d3:h₃.get? f.d = some _:=(sb₃.2 _ nd).trans (keep₂ _ _ L₁.dls hdd)
 have L₃:LexC k h₃ f (x.drop 1) n:=L.move K3 ⟨_,_,_,_,d3⟩ ⟨_,_,(sb₃.2 _ nls).trans g₂⟩
 have B₃:=hB.keep2 nB K3
 refine wpAny_execs_cons (wpAny_If (wpAny_isTrue_Compare1 (wpAny_Name (wpAny_loadName_local kind k2 hn₃ rfl (wpAny_Constant_str ?_)))))
 refine eq_str ?_
 refine wpAny_truthy_bool ?_
 by_cases hc:x.take 1 = [10]
 ·have e1:(strOf (x.take 1) == (Str.ofString "\n")) = true:=by simp only [hc];rfl
  simp only [e1,if_pos rfl]
  refine wpAny_execs_cons (wpAny_AugAssign_AttributeAny (wpAny_Name (wpAny_loadName_local kind k1 hn₃ rfl ?_)))
  refine L₃.get O (W.kin _ B₃) d3 O.o1 look1 rfl fun tk₄=>?_
  refine wpAny_Constant_int (iadd_int ?_)
  refine put_field (W.kin _ B₃) (L₃.instAt d3) rfl O.sa O.plain (by unfold takerIn;rw [O.o1];rfl) O.hasd rfl (show 4 ≤ 900 by decide) fun h₅ hsh tk5 tk6 g₅ sb₅=>?_
  rw [put1] at g₅
  have K5:Keep2 f s.heap h₅:=K3.trans fun b o e1 e2 e=>(sb₅.2 b e1).trans e
  refine wpAny_execs_nil ?_
  refine wpAny_execs_cons (wpAny_Return_some (wpAny_Name (wpAny_loadName_local kind k2 (hn₃.sameBut sb₅ nd.symm) rfl ?_)))
  refine h _ _ _ (L.move K5 ⟨_,_,_,_,by rw [if_pos hc];exact g₅⟩ ⟨_,_,(sb₅.2 _ L.dls.symm).trans ((sb₃.2 _ nls).trans g₂)⟩) K5
 ·have e1:(strOf (x.take 1) == (Str.ofString "\n")) = false:=by
   simp only [show Str.ofString "\n" = strOf [10] from rfl,strOf_beq];simpa using hc
  simp only [e1,if_neg Bool.false_ne_true]
  refine wpAny_execs_nil (wpAny_execs_cons (wpAny_Return_some (wpAny_Name (wpAny_loadName_local kind k2 hn₃ rfl ?_))))
  refine h _ _ _ ?_ K3
  simp only [if_neg hc,Int.add_zero]
  exact L₃
end
structure GF (f:Fp) (L it:Addr) (h₀ h:Heap) (x:T) (n:Int) (tok:T):Prop where
 keep:Keep2 f h₀ h
 dict:IsLxD h f.d n f.sm f.p
 left:∃ t j,h.get? f.ls = some (listO [.str (strOf x) t] j)
 ns:∃ m t,h.Ns L m ∧ m "self" = some (.ref f.a) ∧ m "token" = some (.str (strOf tok) t) ∧ m "fiter" = some (.ref it)
structure GI (k:LK) (f:Fp) (it bm:Addr) (ty:Tok) (h:Heap):Prop where
 itr:h.get? it = some (ciO (.ref bm) (.str (strOf []) ty) false)
 meth:h.get? bm = some (methodObj (.ref k.fR) (.ref f.a))
noncomputable def GE (it:Addr) (h:Heap):Prop:=∃ u v,h.get? it = some (ciO u v true)
structure Fresh (k:LK) (f:Fp) (L it bm:Addr) (h₀:Heap):Prop where
 fr:h₀.get? L = none
 itr:h₀.get? it = none
 meth:h₀.get? bm = none
 lex:∃ x n,LexC k h₀ f x n
 bl:bm ≠ L
 il:it ≠ L
 ib:it ≠ bm
section
variable {prog:Program} {w:World} {A:Around} {E:Value→Shared→Prop} {s:Shared} {env:Env} {k:LK} {f:Fp} {x tok:T} {n:Int} {L it bm:Addr} {ty:Tok} {h₀ h h':Heap} {B:Addr→Option Obj} {mg mb:Str→Option Value}
structure NsF (f:Fp) (L it bm:Addr):Prop where
 n1:L ≠ f.d
 n2:L ≠ f.ls
 n3:it ≠ f.d
 n4:it ≠ f.ls
 n5:bm ≠ f.d
 n6:bm ≠ f.ls
theorem Fresh.ne (F:Fresh k f L it bm h₀):NsF f L it bm:=by
 refine Classical.byContradiction fun hcon=>?_
 refine (F.lex).elim fun x k0=>k0.elim fun n C=>?_
 obtain ⟨u,uv,tn,j,hd⟩:=C.dict
 refine (C.left).elim fun t k0=>k0.elim fun j hl=>?_
 refine hcon ?_
 exact ⟨get_ne F.fr hd,get_ne F.fr hl,get_ne F.itr hd,get_ne F.itr hl,get_ne F.meth hd,get_ne F.meth hl⟩
theorem GF.lex (F:Fresh k f L it bm h₀) (G:GF f L it h₀ h x n tok):LexC k h f x n:=F.lex.elim fun _ C=>C.elim fun _ C=>C.move G.keep G.dict G.left
theorem GF.step (F:Fresh k f L it bm h₀) (G:GF f L it h₀ h x n tok) (hk:∀ b o,b ≠ L→b ≠ it→b ≠ bm→h.get? b = some o→h'.get? b = some o)
  (hn:∃ m t,h'.Ns L m ∧ m "self" = some (.ref f.a) ∧ m "token" = some (.str (strOf tok) t) ∧ m "fiter" = some (.ref it)):GF f L it h₀ h' x n tok :=
 have N:=F.ne
 ⟨fun b o e1 e2 e=>hk b o (get_ne F.fr e).symm (get_ne F.itr e).symm (get_ne F.meth e).symm (G.keep b o e1 e2 e),G.dict.keep fun o=>hk _ o N.n1.symm N.n3.symm N.n5.symm,left_keep G.left fun o=>hk _ o N.n2.symm N.n4.symm N.n6.symm,hn⟩
theorem read_ok {Q:Value→Shared→Prop} (W:LW k B mg mb) (hB:BaseIn B h₀) (nB:B f.d = none ∧ B f.ls = none) (F:Fresh k f L it bm h₀) (G:GF f L it h₀ s.heap x n tok) (I:GI k f it bm ty s.heap) (hx:x.length ≤ 16777216) (hd:A.depth + 1 < recursionLimit)
  (h1:∀ h' tk t,GF f L it h₀ h' (x.drop 1) (n + if x.take 1 = [10] then 1 else 0) tok→GI k f it bm ty h'→(∀ m,s.heap.Ns L m→h'.Ns L m)→Q (.str (strOf (x.take 1)) t) { s with heap:=h',toks:=tk }) :
  codeAny (model prog w) A (.call (.ref k.fR) ⟨[.ref f.a],[]⟩) (Ret Q) s:=by
 refine Classical.byContradiction fun hcon=>?_
 refine (G.ns).elim fun m k0=>k0.elim fun t k1=>k1.elim fun hn k2=>k2.elim fun hm1 k3=>k3.elim fun hm2 hm3=>?_
 have hit:=I.itr
 have hB':=hB.keep2 nB G.keep
 obtain ⟨n1,n2,n3,n4,n5,n6⟩:=F.ne
 refine hcon ?_
 refine rdc_ok W hB' nB (G.lex F) hx hd fun h' tk t2 L' K'=>?_
 have ki:∀ {b:Addr} {o:Obj},b ≠ f.d→b ≠ f.ls→s.heap.get? b = some o→h'.get? b = some o:=fun a b e=>K' _ _ a b e
 have hn':∀ m,s.heap.Ns L m→h'.Ns L m:=fun m ⟨o,es,ep,e,r⟩=>⟨o,es,ep,ki n1 n2 e,r⟩
 exact h1 h' tk t2 ⟨G.keep.trans K',L'.dict,L'.left,⟨m,t,hn' m hn,hm1,hm2,hm3⟩⟩ ⟨ki n3 n4 hit,ki n5 n6 I.meth⟩ hn'
theorem next_ok {Q:Option Value→Shared→Prop} (W:LW k B mg mb) (hB:BaseIn B h₀) (nB:B f.d = none ∧ B f.ls = none) (F:Fresh k f L it bm h₀) (G:GF f L it h₀ s.heap x n tok) (I:GI k f it bm ty s.heap) (hx:x.length ≤ 16777216) (hh:A.handled = none) (hd:A.depth + 1 < recursionLimit)
  (h0:x = []→∀ h' tk,GF f L it h₀ h' [] n tok→GE it h'→Q none { s with heap:=h',toks:=tk })
  (h1:∀ c r,x = c :: r→∀ h' tk t,GF f L it h₀ h' r (n + nl c) tok→GI k f it bm ty h'→Q (some (.str (strOf [c]) t)) { s with heap:=h',toks:=tk }):wpAny (model prog w) A (pyNext (.ref it)) Q E s:=by
 have hit:=I.itr
 have hB':=hB.keep2 nB G.keep
 refine Classical.byContradiction fun hcon=>?_
 obtain ⟨n1,n2,n3,n4,n5,n6⟩:=F.ne
 refine (W.ok.fr).elim fun o k0=>k0.elim fun fd k1=>k1.elim fun hK k2=>k2.elim fun hcls k3=>k3.elim fun hdata _=>?_
 refine hcon ?_
 refine pyNext_ci_item hit I.meth (W.kin _ hB' _ _ hK) hdata ?_ hh
 refine read_ok (A:=A.in1) W hB nB F G I hx hd fun h' tk t2 G' I' N'=>?_
 refine ⟨I'.itr,I'.meth,W.kin _ (hB.keep2 nB G'.keep) _ _ hK,_,_,rfl,?_⟩
 cases x with
 | nil =>
  rw [if_pos (show strOf (List.take 1 []) = strOf [] from rfl)]
  intro h'' eb g
  have k3:∀ {b:Addr} {o:Obj},b ≠ it→h'.get? b = some o→h''.get? b = some o:=fun a e=>eb _ _ a e
  refine Classical.byContradiction fun hcon=>?_
  refine (G'.ns).elim fun m k0=>k0.elim fun t k1=>k1.elim fun hn hm=>?_
  refine hcon ?_
  have hn':h''.Ns L m:=let ⟨o,es,ep,e,r⟩:=hn;⟨o,es,ep,k3 F.il.symm e,r⟩
  have G'':=G'.step F (fun b o _ e _ q=>k3 e q) ⟨m,t,hn',hm⟩
  exact h0 rfl h'' _ (by simpa using G'') ⟨_,_,g⟩
 | cons c r =>
  rw [if_neg (by simp [strOf])]
  refine h1 c r rfl h' _ t2 ?_ I'
  have:(if (c :: r).take 1 = [10] then (1:Int) else 0) = nl c:=by
   unfold nl;simp
  rw [this] at G'
  exact G'
end
noncomputable def GC (f:Fp) (L it:Addr) (h:Heap) (tok ch:T):Prop :=
 ∃ m t tc,h.Ns L m ∧ m "self" = some (.ref f.a) ∧ m "token" = some (.str (strOf tok) t) ∧ m "fiter" = some (.ref it) ∧ m "ch" = some (.str (strOf ch) tc)
section
variable {prog:Program} {w:World} {A:Around} {E:Value→Shared→Prop} {s:Shared} {env:Env} {k:LK} {f:Fp} {x tok ch:T} {n:Int} {L it bm:Addr} {ty:Tok} {h₀ h h':Heap} {B:Addr→Option Obj} {mg mb:Str→Option Value}
theorem FnIn.type {K:Frag} {g:Addr} {body:List Stmt} {scope:Scope} {xs:List Str} (F:FnIn K g body scope xs):typeIn K (.ref g) = some (.type "function"):=by
 refine Classical.byContradiction fun hcon=>?_
 refine (F).elim fun o k0=>k0.elim fun fd k1=>k1.elim fun hK k2=>k2.elim fun hcls _=>?_
 refine hcon ?_
 unfold typeIn
 dsimp only
 simp only [hK,Option.map_some,hcls]
theorem FnIn.obj {K:Frag} {g:Addr} {body:List Stmt} {scope:Scope} {xs:List Str} (F:FnIn K g body scope xs):∃ o fd,K.lookup g = some o ∧ o.data = .func fd:=by
 refine Classical.byContradiction fun hcon=>?_
 refine (F).elim fun o k0=>k0.elim fun fd k1=>k1.elim fun hK k2=>k2.elim fun hcls k3=>k3.elim fun hd _=>?_
 refine hcon ?_
 exact ⟨o,fd,hK,hd⟩
theorem GI.keep (I:GI k f it bm ty h) (hk:∀ b o,b ≠ L→h.get? b = some o→h'.get? b = some o) (F:Fresh k f L it bm h₀):GI k f it bm ty h':=⟨hk _ _ F.il I.itr,hk _ _ F.bl I.meth⟩
theorem bind_ch {v:T} {t:Tok} {Q:Unit→Shared→Prop} (ev:EnvIs env L getScope) (F:Fresh k f L it bm h₀) (G:GF f L it h₀ s.heap x n tok) (I:GI k f it bm ty s.heap)
  (h:∀ h' tk,GF f L it h₀ h' x n tok→GI k f it bm ty h'→GC f L it h' tok v→Q () { s with heap:=h',toks:=tk }):wpAny (model prog w) A (storeName env "ch" (.str (strOf v) t)) Q E s:=by
 refine Classical.byContradiction fun hcon=>?_
 refine (G.ns).elim fun m k0=>k0.elim fun t' k1=>k1.elim fun hn k2=>k2.elim fun hm1 k3=>k3.elim fun hm2 hm3=>?_
 refine hcon ?_
 rw [← ev.loc] at hn
 refine wpAny_storeName_local (ev.kind rfl) hn (fun h₃ hn₃ sb₃=>?_) (by rw [ev.scope];rfl)
 rw [ev.loc] at hn₃ sb₃
 have hk:∀ b o,b ≠ L→s.heap.get? b = some o→h₃.get? b = some o:=fun b o q e=>(sb₃.2 b q).trans e
 have a1:(fun y=>if y = Str.ofString "ch" then some (Value.str (strOf v) t) else m y) "self" = some (.ref f.a):=by dsimp only;rw [if_neg (by decide)];exact hm1
 have a2:(fun y=>if y = Str.ofString "ch" then some (Value.str (strOf v) t) else m y) "token" = some (.str (strOf tok) t'):=by dsimp only;rw [if_neg (by decide)];exact hm2
 have a3:(fun y=>if y = Str.ofString "ch" then some (Value.str (strOf v) t) else m y) "fiter" = some (.ref it):=by dsimp only;rw [if_neg (by decide)];exact hm3
 have a4:(fun y=>if y = Str.ofString "ch" then some (Value.str (strOf v) t) else m y) "ch" = some (.str (strOf v) t):=by dsimp only;rw [if_pos rfl]
 exact h h₃ _ (G.step F (fun b o q _ _ e=>hk b o q e) ⟨_,t',hn₃,a1,a2,a3⟩) (I.keep hk F) ⟨_,t',t,hn₃,a1,a2,a3,a4⟩
theorem esc_ok {P:Nat→Pos} {c:Nat} {Q:Flow→Shared→Prop} (W:LW k B mg mb) (hB:BaseIn B h₀) (nB:B f.d = none ∧ B f.ls = none) (ev:EnvIs env L getScope) (F:Fresh k f L it bm h₀) (hl:((P 5).endLine == (P 6).line) = true)
  (G:GF f L it h₀ s.heap x n tok) (I:GI k f it bm ty s.heap) (C:GC f L it s.heap tok [c]) (hx:x.length ≤ 16777216) (hd:A.depth + 1 < recursionLimit)
  (h2:c = 92→∀ h' tk,GF f L it h₀ h' (x.drop 1) (n + if x.take 1 = [10] then 1 else 0) tok→GI k f it bm ty h'→GC f L it h' tok (x.take 1)→Q .next { s with heap:=h',toks:=tk }) (h3:c ≠ 92→∀ tk,Q .next { s with toks:=tk }) :
  wpAny (model prog w) A (exec (gEsc P) env) Q E s:=by
 refine Classical.byContradiction fun hcon=>?_
 refine (C).elim fun m k0=>k0.elim fun t k1=>k1.elim fun tc k2=>k2.elim fun hn k3=>k3.elim fun hm1 k4=>k4.elim fun hm2 k5=>k5.elim fun hm3 hm4=>?_
 refine hcon ?_
 have hn':=hn
 rw [← ev.loc] at hn
 have kind:env.scope.kind = .function:=by rw [ev.scope];rfl
 refine wpAny_If (wpAny_isTrue_Compare1 (wpAny_Name (wpAny_loadName_local kind (ev.kind rfl) hn hm4 (wpAny_Constant_str ?_))))
 refine eq_str (wpAny_truthy_bool ?_)
 have e0:(strOf [c] == Str.ofString "\\") = (([c]:T) == [92]):=strOf_beq [c] [92]
 by_cases hc:c = 92
 ·rw [e0,if_pos (by rw [hc];rfl)]
  refine Classical.byContradiction fun hcon=>?_
  obtain ⟨u,uv,tn,j,hdd⟩:=G.dict
  have hB':=hB.keep2 nB G.keep
  refine (W.ok.fr.obj).elim fun o k0=>k0.elim fun fd k1=>k1.elim fun hK hdata=>?_
  refine hcon ?_
  have hf:=W.kin _ hB' _ _ hK
  refine wpAny_execs_cons (wpAny_Assign_Name (mcall (fun _=>rfl) hl rfl (wpAny_Name (wpAny_loadName_local kind (ev.kind rfl) hn hm1 fun pl=>?_))))
  refine method_fn (W.kin _ hB') ((G.lex F).instAt hdd) W.ok.ga W.ok.gattr W.ok.rdc W.ok.fr.type rfl ?_
  refine cw0 (o:=o) (fd:=fd) hf hdata (wpAny_call (Ret.to ?_))
  have G1:GF f L it h₀ ({ s with toks:=s.toks + 1 }:Shared).heap x n tok:=G
  refine read_ok (s:={ s with toks:=s.toks + 1 }) W hB nB F G1 I hx hd fun h' tk tt G' I' _=>?_
  refine bind_ch ev F G' I' fun h'' tk' G'' I'' C''=>?_
  exact wpAny_execs_nil (h2 hc h'' tk' G'' I'' C'')
 ·rw [e0,if_neg (by simpa using hc)]
  exact wpAny_execs_nil (h3 hc _)
theorem aug_ok {P:Nat→Pos} {Q:Flow→Shared→Prop} (ev:EnvIs env L getScope) (F:Fresh k f L it bm h₀) (G:GF f L it h₀ s.heap x n tok) (I:GI k f it bm ty s.heap) (C:GC f L it s.heap tok ch) (hlen:tok.length + ch.length ≤ 16777216)
  (h:∀ h' tk,GF f L it h₀ h' x n (tok ++ ch)→GI k f it bm ty h'→Q .next { s with heap:=h',toks:=tk }) :
  wpAny (model prog w) A (exec (gAug P) env) Q E s:=by
 refine Classical.byContradiction fun hcon=>?_
 refine (C).elim fun m k0=>k0.elim fun t k1=>k1.elim fun tc k2=>k2.elim fun hn k3=>k3.elim fun hm1 k4=>k4.elim fun hm2 k5=>k5.elim fun hm3 hm4=>?_
 refine hcon ?_
 rw [← ev.loc] at hn
 have kind:env.scope.kind = .function:=by rw [ev.scope];rfl
 refine wpAny_AugAssign_Name (wpAny_loadName_local kind (ev.kind rfl) hn hm2 (wpAny_Name (wpAny_loadName_local kind (ev.kind rfl) hn hm4 ?_)))
 refine SB.iadd (fun t' tk=>?_) (limL (by simp only [strOf_length,strOf_length];exact hlen))
 rw [strOf_append]
 refine wpAny_storeName_local (ev.kind rfl) hn (fun h₃ hn₃ sb₃=>?_) (by rw [kind];rfl)
 rw [ev.loc] at hn₃ sb₃
 have hk:∀ b o,b ≠ L→s.heap.get? b = some o→h₃.get? b = some o:=fun b o q e=>(sb₃.2 b q).trans e
 have a1:(fun y=>if y = Str.ofString "token" then some (Value.str (strOf (tok ++ ch)) t') else m y) "self" = some (.ref f.a):=by dsimp only;rw [if_neg (by decide)];exact hm1
 have a2:(fun y=>if y = Str.ofString "token" then some (Value.str (strOf (tok ++ ch)) t') else m y) "token" = some (.str (strOf (tok ++ ch)) t'):=by dsimp only;rw [if_pos rfl]
 have a3:(fun y=>if y = Str.ofString "token" then some (Value.str (strOf (tok ++ ch)) t') else m y) "fiter" = some (.ref it):=by dsimp only;rw [if_neg (by decide)];exact hm3
 refine h h₃ _ ⟨fun b o e1 e2 e=>hk b o ?_ (G.keep b o e1 e2 e),?_,?_,⟨_,t',hn₃,a1,a2,a3⟩⟩ (I.keep hk F)
 ·intro q;have:=F.fr;rw [← q,e] at this;cases this
 ·refine Classical.byContradiction fun hcon=>?_
  obtain ⟨u,uv,tn,j,hd⟩:=G.dict
  refine hcon ?_
  exact ⟨u,uv,tn,j,hk _ _ F.ne.n1.symm hd⟩
 ·obtain ⟨t,j,hl⟩:=G.left;exact ⟨t,j,hk _ _ F.ne.n2.symm hl⟩
end
section
variable {c:Nat} {r:T} {n:Int} {acc:T}
theorem nl_ifd (d:Nat):nl d = if ([d]:T) = [10] then 1 else 0:=by
 unfold nl
 by_cases h:d = 10
 ·subst h;rfl
 ·rw [if_neg (by simpa using h),if_neg (by simpa using h)]
theorem lexQ_end:lexQ (34 :: r) n acc = (acc,r,n):=by cases r <;> exact if_pos rfl
theorem lexQ_cons (h1:c ≠ 34) (h2:c ≠ 92):lexQ (c :: r) n acc = lexQ r (n + nl c) (acc ++ [c]):=by cases r <;> exact (if_neg h1).trans (if_neg h2)
theorem lexQ_esc:lexQ (92 :: r) n acc = lexQ (r.drop 1) (n + if r.take 1 = [10] then 1 else 0) (acc ++ r.take 1):=by
 cases r with
 | nil=>show (acc,[],n) = (acc ++ [],[],n + 0);simp only [List.append_nil,Int.add_zero]
 | cons d r=>show lexQ r (n + nl d) (acc ++ [d]) = lexQ r (n + if ([d]:T) = [10] then 1 else 0) (acc ++ [d]);simp only [nl_ifd]
theorem lexB_nil:lexB [] n acc = (acc,[],n):=rfl
theorem lexB_end (h:isWs c = true):lexB (c :: r) n acc = (acc,r,n + nl c):=by cases r <;> exact if_pos h
theorem lexB_cons' (h1:isWs c = false) (h2:c ≠ 92):lexB (c :: r) n acc = lexB r (n + nl c) (acc ++ [c]):=by
 have h:¬ isWs c = true:=by rw [h1];exact Bool.false_ne_true
 cases r <;> exact (if_neg h).trans (if_neg h2)
theorem lexB_esc:lexB (92 :: r) n acc = lexB (r.drop 1) (n + if r.take 1 = [10] then 1 else 0) (acc ++ r.take 1):=by
 cases r with
 | nil=>show (acc,[],n) = (acc ++ [],[],n + 0);simp only [List.append_nil,Int.add_zero]
 | cons d r=>show lexB r (n + nl d) (acc ++ [d]) = lexB r (n + if ([d]:T) = [10] then 1 else 0) (acc ++ [d]);simp only [nl_ifd]
theorem lex0_nil:lex0 [] n = ([],[],n):=rfl
theorem lex0_ws (h:isWs c = true):lex0 (c :: r) n = lex0 r (n + nl c):=if_pos h
theorem lex0_q:lex0 (34 :: r) n = lexQ r n []:=(if_neg (by decide)).trans (if_pos rfl)
theorem lex0_esc:lex0 (92 :: r) n = lexB (r.drop 1) (n + if r.take 1 = [10] then 1 else 0) (r.take 1):=(if_neg (by decide)).trans ((if_neg (by decide)).trans (if_pos rfl))
theorem lex0_cons (h:isWs c = false) (h1:c ≠ 34) (h2:c ≠ 92):lex0 (c :: r) n = lexB r n [c]:=(if_neg (by rw [h];exact Bool.false_ne_true)).trans ((if_neg h1).trans (if_neg h2))
end
theorem nl_ws {c:Nat} (h:isWs c = false):nl c = 0:=by
 unfold nl
 unfold isWs at h
 simp only [Bool.or_eq_false_iff] at h
 rw [h.1.1.1];rfl
theorem lexB_cons {c:Nat} {r:T} {n:Int} {acc:T} (h1:isWs c = false) (h2:c ≠ 92):lexB (c :: r) n acc = lexB r n (acc ++ [c]):=by simp only [lexB_cons' h1 h2,nl_ws h1,Int.add_zero]
structure LxF (Lx:T→Int→T→T × T × Int) (stop:Nat→Bool):Prop where
 nil:∀ n acc,Lx [] n acc = (acc,[],n)
 fin:∀ {c r n acc},stop c = true→Lx (c :: r) n acc = (acc,r,n + nl c)
 esc:∀ {r n acc},Lx (92 :: r) n acc = Lx (r.drop 1) (n + if r.take 1 = [10] then 1 else 0) (acc ++ r.take 1)
 cons:∀ {c r n acc},stop c = false→c ≠ 92→Lx (c :: r) n acc = Lx r (n + nl c) (acc ++ [c])
theorem lxQ:LxF lexQ (· == 34):=⟨fun _ _=>rfl,fun h=>by cases eq_of_beq h;simp only [lexQ_end,show nl 34 = 0 from rfl,Int.add_zero],lexQ_esc,fun h h2=>lexQ_cons (ne_of_beq_false h) h2⟩
theorem lxB:LxF lexB isWs:=⟨fun _ _=>rfl,lexB_end,lexB_esc,lexB_cons'⟩
section
variable {prog:Program} {w:World} {A:Around} {E:Value→Shared→Prop} {s:Shared} {env:Env} {k:LK} {f:Fp} {x tok ch:T} {n:Int} {L it bm:Addr} {ty:Tok} {h₀ h h':Heap} {B:Addr→Option Obj} {mg mb:Str→Option Value}
inductive LInv (k:LK) (f:Fp) (L it bm:Addr) (ty:Tok) (h₀:Heap) (Lx:T→Int→T→T × T × Int) (RES:T × T × Int) (s:Shared):Nat→Shared→Prop
 | mk {h:Heap} {tk:Nat} {x:T} {n:Int} {tok:T}:GF f L it h₀ h x n tok→GI k f it bm ty h→Lx x n tok = RES→tok.length + x.length ≤ 10000→LInv k f L it bm ty h₀ Lx RES s x.length { s with heap:=h,toks:=tk }
theorem inL {Lx:T→Int→T→T × T × Int} {stop:Nat→Bool} (H:LxF Lx stop) {test:Expr} {p0 p1 p2 p3:Pos} {Pr Pe Pa:Nat→Pos} {RES:T × T × Int} {Q:Flow→Shared→Prop} (W:LW k B mg mb) (hB:BaseIn B h₀) (nB:B f.d = none ∧ B f.ls = none) (ev:EnvIs env L getScope) (F:Fresh k f L it bm h₀) (hl:((Pe 5).endLine == (Pe 6).line) = true)
  (ht:∀ {A:Around} {E:Value→Shared→Prop} {s:Shared} {x:T} {n:Int} {tok:T} {m:Str→Option Value} {c:Nat} {t:Tok} {Q:Bool→Shared→Prop},GF f L it h₀ s.heap x n tok→s.heap.Ns env.locals m→m "self" = some (.ref f.a)→m "ch" = some (.str (strOf [c]) t)→(∀ tk,Q (stop c) { s with toks:=tk })→wpAny (model prog w) A (isTrue test env (eval test env)) Q E s)
  (G:GF f L it h₀ s.heap x n tok) (I:GI k f it bm ty s.heap) (hx:tok.length + x.length ≤ 10000) (hh:A.handled = none) (hd:A.depth + 1 < recursionLimit) (hR:Lx x n tok = RES)
  (hRet:∀ h' tk t,GF f L it h₀ h' RES.2.1 RES.2.2 RES.1→Q (.ret (.str (strOf RES.1) t)) { s with heap:=h',toks:=tk })
  (hNext:∀ h' tk,GF f L it h₀ h' RES.2.1 RES.2.2 RES.1→GE it h'→Q .next { s with heap:=h',toks:=tk }) :
  wpAny (model prog w) A (exec (.For (.Name "ch" p0) (.Name "fiter" p1) [.If test [gRt Pr] [gEsc Pe] p2,gAug Pa] [] p3) env) Q E s:=by
 have kind:env.scope.kind = .function:=by simp only [ev.scope];rfl
 have hns:∃ m t,s.heap.Ns env.locals m ∧ m "self" = some (.ref f.a) ∧ m "token" = some (.str (strOf tok) t) ∧ m "fiter" = some (.ref it):=by simp only [ev.loc];exact G.ns
 refine Classical.byContradiction fun hcon=>?_
 refine (hns).elim fun m k0=>k0.elim fun t k1=>k1.elim fun hn k2=>k2.elim fun hm1 k3=>k3.elim fun hm2 hm3=>?_
 refine hcon ?_
 refine wpAny_For (wpAny_Name (wpAny_loadName_local kind (ev.kind rfl) hn hm3 (pyIter_ci I.itr (codeAny_forLoop (LInv k f L it bm ty h₀ Lx RES s) ?_ x.length (.mk (tk:=s.toks) G I hR hx))))) (fun _=>rfl)
 clear hn hm1 hm2 hm3 G I hR hx
 intro j s' hI
 cases hI with | @mk h tk x n tok G I hR hx =>
 refine next_ok W hB nB F G I (by lia) hh hd (fun hx0 h' tk' G' ge=>?_) fun c r hc h' tk' t' G' I'=>?_
 ·subst hx0
  rw [H.nil] at hR
  exact wpAny_execs_nil (hNext h' tk' (by simp only [← hR];exact G') ge)
 subst hc
 have lens:tok.length + r.length + 1 ≤ 10000:=by rw [List.length_cons] at hx;lia
 refine wpAny_assign_Name (bind_ch (s:={ s with heap:=h',toks:=tk' }) ev F G' I' fun h2 tk2 G2 I2 C2=>?_)
 have C2':=C2
 refine Classical.byContradiction fun hcon=>?_
 obtain ⟨m,t,tc,hn,hm1,hm2,hm3,hm4⟩:=C2'
 refine hcon ?_
 rw [← ev.loc] at hn
 refine wpAny_execs_cons (wpAny_If (ht (s:={ s with heap:=h2,toks:=tk2 }) G2 hn hm1 hm4 fun tk3=>?_))
 cases hc:stop c with
 | true =>
  rw [H.fin hc] at hR
  refine wpAny_execs_cons (wpAny_Return_some (wpAny_Name (wpAny_loadName_local kind (ev.kind rfl) hn hm2 ?_)))
  have e:RES.1 = tok:=by simp only [← hR]
  simp only [← e]
  exact hRet h2 _ t (by simp only [← hR];exact G2)
 | false =>
  have fin:∀ {h':Heap} {tk:Nat} {x' ch:T} {n':Int} {QQ:Flow→Shared→Prop} {EE:Value→Shared→Prop},(∀ m s₃,m < (c :: r).length→LInv k f L it bm ty h₀ Lx RES s m s₃→QQ .next s₃)→GF f L it h₀ h' x' n' tok→GI k f it bm ty h'→GC f L it h' tok ch→Lx x' n' (tok ++ ch) = RES→tok.length + ch.length + x'.length ≤ 10000→x'.length < (c :: r).length →
    wpAny (model prog w) A (execs [gAug Pa] env) QQ EE { s with heap:=h',toks:=tk }:=fun hq G I C e hlen hlt =>
   wpAny_execs_cons (aug_ok ev F G I C (by lia) fun h'' tk' G'' I''=>wpAny_execs_nil (hq _ _ hlt (.mk G'' I'' e (by simp only [List.length_append];exact hlen))))
  refine wpAny_execs_cons (esc_ok (s:={ s with heap:=h2,toks:=_ }) W hB nB ev F hl G2 I2 C2 (by lia) hd (fun hc h3 tk3 G3 I3 C3=>?_) fun hc2 tk3=>?_)
  ·subst hc
   exact wpAny_execs_nil (fin (fun m s₃ a b=>⟨m,a,b⟩) (by have:=G3;rw [show nl 92 = 0 from rfl,Int.add_zero] at this;exact this) I3 C3 (by simp only [← hR,H.esc]) (by simp only [List.length_drop,List.length_take];exact le_min1 lens) (by simp only [List.length_drop,List.length_cons];exact Nat.lt_succ_of_le (Nat.sub_le _ _)))
  ·exact wpAny_execs_nil (fin (fun m s₃ a b=>⟨m,a,b⟩) G2 I2 C2 (by simp only [← hR,H.cons hc hc2]) (by simp only [List.length_singleton];lia) (Nat.lt_succ_self _))
theorem inQ {P:Nat→Pos} {RES:T × T × Int} {Q:Flow→Shared→Prop} (W:LW k B mg mb) (hB:BaseIn B h₀) (nB:B f.d = none ∧ B f.ls = none) (ev:EnvIs env L getScope) (F:Fresh k f L it bm h₀) (hl:((P 12).endLine == (P 13).line) = true)
  (G:GF f L it h₀ s.heap x n tok) (I:GI k f it bm ty s.heap) (hx:tok.length + x.length ≤ 10000) (hh:A.handled = none) (hd:A.depth + 1 < recursionLimit) (hR:lexQ x n tok = RES)
  (hRet:∀ h' tk t,GF f L it h₀ h' RES.2.1 RES.2.2 RES.1→Q (.ret (.str (strOf RES.1) t)) { s with heap:=h',toks:=tk })
  (hNext:∀ h' tk,GF f L it h₀ h' RES.2.1 RES.2.2 RES.1→GE it h'→Q .next { s with heap:=h',toks:=tk }) :
  wpAny (model prog w) A (exec (gQ P) env) Q E s:=by
 refine inL (Pe:=sh P 7) lxQ W hB nB ev F hl (fun {A E s x n tok m c t Q} G hn hm1 hm4 h=>wpAny_isTrue_Compare1 (wpAny_Name (wpAny_loadName_local (by rw [ev.scope];rfl) (ev.kind rfl) hn hm4 (wpAny_Constant_str ?_)))) G I hx hh hd hR hRet hNext
 refine eq_str (wpAny_truthy_bool ?_)
 simp only [show (strOf [c] == Str.ofString "\"") = (c == 34) from (strOf_beq [c] [34]).trans (by rw [Bool.eq_iff_iff,beq_iff_eq,beq_iff_eq];exact ⟨fun e=>(List.cons.inj e).1,fun e=>by rw [e]⟩)]
 exact h _
theorem has_ws (c:Nat):hasT [c] [10,9,13,32] = isWs c:=by
 delta hasT isWs
 simp only [findGo,List.isPrefixOf,Bool.and_true,List.isEmpty_cons]
 by_cases h1:c = 10
 ·subst h1;rfl
 by_cases h2:c = 9
 ·subst h2;rfl
 by_cases h3:c = 13
 ·subst h3;rfl
 by_cases h4:c = 32
 ·subst h4;rfl
 simp [h1,h2,h3,h4]
theorem ws_read {P:Nat→Pos} {m:Str→Option Value} {Q:Value→Shared→Prop} (W:LW k B mg mb) (hB:BaseIn B h₀) (nB:B f.d = none ∧ B f.ls = none) (ev:EnvIs env L getScope) (F:Fresh k f L it bm h₀) (G:GF f L it h₀ s.heap x n tok)
  (hn:s.heap.Ns env.locals m) (hm:m "self" = some (.ref f.a)) (h:∀ tk,∀ tw,Q (.str "\n\t\r " tw) { s with toks:=tk }):wpAny (model prog w) A (eval (gWs P) env) Q E s:=by
 have kind:env.scope.kind = .function:=by rw [ev.scope];rfl
 obtain ⟨u,uv,tn,j,hd⟩:=G.dict
 refine Attribute_Name_ (wpAny_Name (wpAny_loadName_local kind (ev.kind rfl) hn hm ?_)) rfl
 exact (G.lex F).get W.ok (W.kin _ (hB.keep2 nB G.keep)) hd W.ok.o3 look3 rfl fun tk=>h tk (uv 5)
theorem inB {P:Nat→Pos} {RES:T × T × Int} {Q:Flow→Shared→Prop} (W:LW k B mg mb) (hB:BaseIn B h₀) (nB:B f.d = none ∧ B f.ls = none) (ev:EnvIs env L getScope) (F:Fresh k f L it bm h₀) (hl:((P 13).endLine == (P 14).line) = true)
  (G:GF f L it h₀ s.heap x n tok) (I:GI k f it bm ty s.heap) (hx:tok.length + x.length ≤ 10000) (hh:A.handled = none) (hd:A.depth + 1 < recursionLimit) (hR:lexB x n tok = RES)
  (hRet:∀ h' tk t,GF f L it h₀ h' RES.2.1 RES.2.2 RES.1→Q (.ret (.str (strOf RES.1) t)) { s with heap:=h',toks:=tk })
  (hNext:∀ h' tk,GF f L it h₀ h' RES.2.1 RES.2.2 RES.1→GE it h'→Q .next { s with heap:=h',toks:=tk }) :
  wpAny (model prog w) A (exec (gB P) env) Q E s:=by
 refine inL (Pe:=sh P 8) lxB W hB nB ev F hl (fun {A E s x n tok m c t Q} G hn hm1 hm4 h=>wpAny_isTrue_Compare1 (wpAny_Name (wpAny_loadName_local (by rw [ev.scope];rfl) (ev.kind rfl) hn hm4 (ws_read W hB nB ev F G hn hm1 fun tk3 tw=>?_)))) G I hx hh hd hR hRet hNext
 refine in_str (wpAny_truthy_bool ?_)
 simp only [show (!(Builtin.Str.occurrences (Str.ofString "\n\t\r ") (strOf [c]) 0 (Str.ofString "\n\t\r ").length 1).isEmpty) = isWs c from (has_eq [10,9,13,32] [c]).trans (has_ws c)]
 exact h tk3
end
structure LW2 (k:LK) (B:Addr→Option Obj) (mg mb:Str→Option Value):Prop extends LW k B mg mb where
 it1:mg "iter" = none
 it2:mb "iter" = some (.builtin "iter")
section
variable {prog:Program} {w:World} {A:Around} {E:Value→Shared→Prop} {s:Shared} {env:Env} {k:LK} {f:Fp} {x tok ch:T} {n:Int} {L it bm:Addr} {ty:Tok} {h₀ h h':Heap} {B:Addr→Option Obj} {mg mb:Str→Option Value}
inductive OInv (k:LK) (f:Fp) (L it bm:Addr) (ty:Tok) (h₀:Heap) (RES:T × T × Int) (s:Shared):Nat→Shared→Prop
 | go {h:Heap} {tk:Nat} {x:T} {n:Int}:GF f L it h₀ h x n []→GI k f it bm ty h→lex0 x n = RES→x.length ≤ 10000→OInv k f L it bm ty h₀ RES s (x.length + 1) { s with heap:=h,toks:=tk }
 | fin {h:Heap} {tk:Nat}:GF f L it h₀ h RES.2.1 RES.2.2 RES.1→GE it h→OInv k f L it bm ty h₀ RES s 0 { s with heap:=h,toks:=tk }
theorem g3_ok {P:Nat→Pos} {RES:T × T × Int} {Q:Flow→Shared→Prop} (W:LW k B mg mb) (hB:BaseIn B h₀) (nB:B f.d = none ∧ B f.ls = none) (ev:EnvIs env L getScope) (F:Fresh k f L it bm h₀) (hh:A.handled = none) (hd:A.depth + 1 < recursionLimit) (hl3:((P 57).endLine == (P 58).line) = true)
  (G:GF f L it h₀ s.heap x n []) (I:GI k f it bm ty s.heap) (C:GC f L it s.heap [] ch) (e:lexB x n ch = RES) (hlen:ch.length + x.length ≤ 10000)
  (hr:∀ h' tk t,GF f L it h₀ h' RES.2.1 RES.2.2 RES.1→Q (.ret (.str (strOf RES.1) t)) { s with heap:=h',toks:=tk }) (hn:∀ h' tk,GF f L it h₀ h' RES.2.1 RES.2.2 RES.1→GE it h'→Q .next { s with heap:=h',toks:=tk }) :
  wpAny (model prog w) A (execs (gL3 P) env) Q E s :=
 wpAny_execs_cons (aug_ok ev F G I C (by simp only [List.length_nil];lia) fun h'' tk' G'' I''=>wpAny_execs_cons (inB (s:={ s with heap:=h'',toks:=tk' }) W hB nB ev F hl3 G'' I'' hlen hh hd e hr fun h3 tk3 G4 ge=>wpAny_execs_nil (hn h3 tk3 G4 ge)))
theorem get_loop {P Z:Nat→Pos} {RES:T × T × Int} {Q:Value→Shared→Prop} (W:LW k B mg mb) (hB:BaseIn B h₀) (nB:B f.d = none ∧ B f.ls = none) (ev:EnvIs env L getScope)
  (F:Fresh k f L it bm h₀) (G:GF f L it h₀ s.heap x n []) (I:GI k f it bm ty s.heap) (hx:x.length ≤ 10000) (hh:A.handled = none) (hd:A.depth + 1 < recursionLimit) (hR:lex0 x n = RES)
  (hl1:((P 23).endLine == (P 24).line) = true) (hl2:((P 37).endLine == (P 38).line) = true) (hl3:((P 57).endLine == (P 58).line) = true)
  (hQ:∀ h' tk t,LexC k h' f RES.2.1 RES.2.2→Keep2 f h₀ h'→Q (.str (strOf RES.1) t) { s with heap:=h',toks:=tk }) :
  wpAny (model prog w) A (execs [gL P,gRt Z] env) (fun fl s'=>Q (fl2v fl) s') (fun _ _=>False) s:=by
 have kind:env.scope.kind = .function:=by simp only [ev.scope];rfl
 have ret:∀ h' tk t,GF f L it h₀ h' RES.2.1 RES.2.2 RES.1→Q (.str (strOf RES.1) t) { s with heap:=h',toks:=tk }:=fun h' tk t G=>hQ h' tk t (G.lex F) G.keep
 have last:∀ {h:Heap} {tk:Nat},GF f L it h₀ h RES.2.1 RES.2.2 RES.1→wpAny (model prog w) A (execs [gRt Z] env) (fun fl s'=>Q (fl2v fl) s') (fun _ _=>False) { s with heap:=h,toks:=tk }:=by
  intro h tk G
  refine Classical.byContradiction fun hcon=>?_
  refine (G.ns).elim fun m k0=>k0.elim fun t k1=>k1.elim fun hn hm=>?_
  refine hcon ?_
  rw [← ev.loc] at hn
  exact wpAny_execs_cons (wpAny_Return_some (wpAny_Name (wpAny_loadName_local kind (ev.kind rfl) hn hm.2.1 (ret h tk t G))))
 have hns:∃ m t,s.heap.Ns env.locals m ∧ m "self" = some (.ref f.a) ∧ m "token" = some (.str (strOf []) t) ∧ m "fiter" = some (.ref it):=by simp only [ev.loc];exact G.ns
 refine Classical.byContradiction fun hcon=>?_
 refine (hns).elim fun m k0=>k0.elim fun t k1=>k1.elim fun hn k2=>k2.elim fun hm1 k3=>k3.elim fun hm2 hm3=>?_
 refine hcon ?_
 refine wpAny_execs_cons (wpAny_For (wpAny_Name (wpAny_loadName_local kind (ev.kind rfl) hn hm3 (pyIter_ci I.itr (codeAny_forLoop (OInv k f L it bm ty h₀ RES s) ?_ (x.length + 1) (.go (tk:=s.toks) G I hR hx))))) (fun _=>rfl))
 clear hn hm1 hm2 hm3 G I hR hx
 intro j s' hI
 cases hI with
 | @fin h tk G I =>
  refine Classical.byContradiction fun hcon=>?_
  refine (I).elim fun u k0=>k0.elim fun v hit=>?_
  refine hcon ?_
  refine pyNext_ci_ended (s:={ s with heap:=h,toks:=tk }) hit hh fun h' hk=>wpAny_execs_nil ?_
  refine Classical.byContradiction fun hcon=>?_
  obtain ⟨m,t,hn,hm⟩:=G.ns
  refine hcon ?_
  exact last (G.step F (fun b o _ _ _ e=>hk b o e) ⟨m,t,hn.keeps hk,hm⟩)
 | @go h tk x n G I hR hx =>
  refine next_ok W hB nB F G I (by exact Nat.le_trans (by assumption) (by decide)) hh hd (fun hx0 h' tk' G' ge=>?_) fun c r hc h' tk' t' G' I'=>?_
  ·subst hx0
   exact wpAny_execs_nil (last (by simp only [← hR];exact G'))
  subst hc
  have lens:r.length + 1 ≤ 10000:=by rw [List.length_cons] at hx;exact hx
  have drop:∀ {m s₃},m < r.length + 1→OInv k f L it bm ty h₀ RES s m s₃→∃ m,m < (c :: r).length + 1 ∧ OInv k f L it bm ty h₀ RES s m s₃:=fun h o=>⟨_,Nat.lt_succ_of_lt h,o⟩
  refine wpAny_assign_Name (bind_ch (s:={ s with heap:=h',toks:=tk' }) ev F G' I' fun h2 tk2 G2 I2 C2=>?_)
  have C2':=C2
  refine Classical.byContradiction fun hcon=>?_
  obtain ⟨m,t,tc,hn,hm1,hm2,hm3,hm4⟩:=C2'
  refine hcon ?_
  rw [← ev.loc] at hn
  refine wpAny_execs_cons (wpAny_If (wpAny_isTrue_Compare1 (wpAny_Name (wpAny_loadName_local kind (ev.kind rfl) hn hm4 (ws_read W hB nB ev F G2 hn hm1 fun tk3 tw=>?_)))))
  refine in_str (wpAny_truthy_bool ?_)
  simp only [show (!(Builtin.Str.occurrences (Str.ofString "\n\t\r ") (strOf [c]) 0 (Str.ofString "\n\t\r ").length 1).isEmpty) = isWs c from (has_eq [10,9,13,32] [c]).trans (has_ws c)]
  cases hc:isWs c with
  | true=>exact wpAny_execs_cons (wpAny_Continue ⟨_,Nat.lt_succ_self _,.go G2 I2 (by simp only [← hR,lex0_ws hc]) (Nat.le_of_succ_le lens)⟩)
  | false =>
   have G3:GF f L it h₀ h2 r n []:=by have:=G2;rw [nl_ws hc,Int.add_zero] at this;exact this
   refine wpAny_execs_nil (wpAny_execs_cons (wpAny_If (wpAny_isTrue_Compare1 (wpAny_Name (wpAny_loadName_local kind (ev.kind rfl) hn hm4 (wpAny_Constant_str ?_))))))
   refine eq_str (wpAny_truthy_bool ?_)
   simp only [show (strOf [c] == Str.ofString "\"") = (([c]:T) == [34]) from strOf_beq [c] [34]]
   by_cases hq:c = 34
   ·subst hq
    rw [lex0_q] at hR
    exact wpAny_execs_cons (inQ (s:={ s with heap:=h2,toks:=_ }) W hB nB ev F hl1 G3 I2 (by rw [List.length_nil];lia) hh hd hR ret fun h3 tk3 G4 ge=>wpAny_execs_nil (wpAny_execs_nil (drop (Nat.succ_pos _) (.fin G4 ge))))
   rw [if_neg (by simpa using hq)]
   refine wpAny_execs_cons (esc_ok (s:={ s with heap:=h2,toks:=_ }) W hB nB ev F hl2 G3 I2 C2 (by lia) hd (fun hc' h3 tk3 G4 I4 C4=>?_) fun hc2 tk3=>?_)
   ·subst hc'
    exact g3_ok (s:={ s with heap:=h3,toks:=tk3 }) W hB nB ev F hh hd hl3 G4 I4 C4 (by rw [← hR,lex0_esc]) (by rw [List.length_drop,List.length_take,min_1];exact Nat.le_of_succ_le lens) ret fun h tk a b=>wpAny_execs_nil (drop (Nat.succ_pos _) (.fin a b))
   ·exact g3_ok (s:={ s with heap:=h2,toks:=tk3 }) W hB nB ev F hh hd hl3 G3 I2 C2 (by rw [← hR,lex0_cons hc hq hc2]) (by rw [List.length_singleton];lia) ret fun h tk a b=>wpAny_execs_nil (drop (Nat.succ_pos _) (.fin a b))
theorem get_ok {RES:T × T × Int} {j:Nat} {Q:Value→Shared→Prop} (W:LW2 k B mg mb) (hB:BaseIn B s.heap) (nB:B f.d = none ∧ B f.ls = none) (L₀:LexC k s.heap f x n) (hp:s.heap.get? f.p = some (listO [] j)) (hpl:f.p ≠ f.ls) (hx:x.length ≤ 10000) (hh:A.handled = none) (hd:A.depth + 2 < recursionLimit)
  (hR:lex0 x n = RES) (hQ:∀ h' tk t,LexC k h' f RES.2.1 RES.2.2→Keep2 f s.heap h'→Q (.str (strOf RES.1) t) { s with heap:=h',toks:=tk }) :
  codeAny (model prog w) A (.call (.ref k.fG) ⟨[.ref f.a],[]⟩) (Ret Q) s:=by
 have O:=W.ok
 refine call_in (W.kin _ hB) (W.lim _ hB) O.fg (by exact Nat.lt_of_le_of_lt (Nat.le_add_right _ _) (by assumption)) rfl (by decide) (by decide) rfl rfl rfl fun env h₁ tk₁ ev hn hk hL=>?_
 have hd':(A.deeper env).depth + 1 < recursionLimit:=by simp only [Around.deeper];assumption
 have hh':(A.deeper env).handled = none:=hh
 generalize A.deeper env = A' at hd' hh'
 have loc:=ev.loc
 have kind:env.scope.kind = .function:=by rw [ev.scope];rfl
 have L₁:=L₀.keep hk
 have B₁:=hB.keep hk
 obtain ⟨u,uv,tn,jd,hdd⟩:=L₁.dict
 rw [← loc] at hn
 unfold getBody
 refine wpAny_execs_cons (wpAny_If (isTrue_plain (Attribute_Name_ (wpAny_Name (wpAny_loadName_local kind (ev.kind rfl) hn rfl (L₁.get (s:={ s with heap:=h₁,toks:=tk₁ }) O (W.kin _ B₁) hdd O.o4 look4 rfl fun tk₂=>?_))) rfl) rfl))
 refine wpAny_truthy_list (items:=#[]) ⟨_,hk _ _ hp,rfl,j,rfl⟩ (by simp) ?_
 refine wpAny_execs_nil ?_
 refine wpAny_execs_cons (wpAny_Assign_Name (wpAny_Constant_str ?_))
 refine wpAny_storeName_local (ev.kind rfl) hn (fun h₂ hn₂ sb₂=>?_) (by rw [kind];rfl)
 have new:∀ {b:Addr} {o:Obj},s.heap.get? b = some o→b ≠ env.locals:=fun e q=>by rw [q,loc,hL] at e;exact nso e
 have k₂:∀ b o,s.heap.get? b = some o→h₂.get? b = some o:=fun b o e=>(sb₂.2 b (new e)).trans (hk b o e)
 have L₂:=L₀.keep k₂
 have B₂:=hB.keep k₂
 obtain ⟨u,uv,tn,jd,hdd₂⟩:=L₂.dict
 refine wpAny_execs_cons (wpAny_Assign_Name (wpAny_Call_Name_kw (Calls.Name_function_global kind (ev.kind rfl) (Calls.loadGlobal_builtin (by rw [ev.glob];exact W.main _ B₂) W.it1 (by rw [ev.bui];exact W.bi _ B₂) W.it2 ?_) (by decide))))
 refine callWith_any (.inl ⟨_,rfl⟩) (by rfl) (spliced_more (Attribute_Name_ (wpAny_Name (wpAny_loadName_local kind (ev.kind rfl) hn₂ rfl ?_)) rfl))
 have fnm:findObj k.K k.C (some (dictOf (lxD u uv tn n f.sm f.p) jd)) "_read_char" = some (.bind (.builtin "function.__get__") (.ref k.fR)):=by
  obtain ⟨cd,hc,hd⟩:=any_some O.hasd
  delta findObj
  have ho:PySem.W.ownOf cd (some (dictOf (lxD u uv tn n f.sm f.p) jd)) "_read_char" = some none:=by unfold PySem.W.ownOf;rw [if_pos hd];rfl
  rw [hc]
  change Option.bind (findIn k.K (.ref k.C) "_read_char") _ = _
  rw [O.rdc]
  change Option.bind (specialIn k.K (.ref k.fR) "__get__") _ = _
  rw [O.rdget]
  change Option.bind (takesIn k.K (.ref k.fR)) _ = _
  rw [O.rdtake]
  change Option.bind (PySem.W.ownOf cd _ "_read_char") _ = _
  rw [ho]
  rfl
 refine get_bind (W.kin _ B₂) (L₂.instAt hdd₂) O.ga fnm O.gattr (wpAny_call ?_)
 refine fn_get (W.kin _ B₂) O.fr.type ?_
 refine handed_on rfl ?_
 refine spliced_more (wpAny_Constant_str (spliced_none ?_))
 have pb:∀ b o,h₂.get? b = some o→(h₂.push (methodObj (.ref k.fR) (.ref f.a))).get? b = some o:=fun b o e=>Heap.get?_push_of_some _ e
 have gbm:(h₂.push (methodObj (.ref k.fR) (.ref f.a))).get? h₂.objs.size = some (methodObj (.ref k.fR) (.ref f.a)):=Heap.get?_push_size _ rfl
 refine iter2_ok gbm ?_
 have pi:∀ tt b o,(h₂.push (methodObj (.ref k.fR) (.ref f.a))).get? b = some o→((h₂.push (methodObj (.ref k.fR) (.ref f.a))).push (ciO (.ref h₂.objs.size) (.str (Str.ofString "") tt) false)).get? b = some o:=fun tt b o e=>Heap.get?_push_of_some _ e
 have git:∀ tt,((h₂.push (methodObj (.ref k.fR) (.ref f.a))).push (ciO (.ref h₂.objs.size) (.str (Str.ofString "") tt) false)).get? (h₂.push (methodObj (.ref k.fR) (.ref f.a))).objs.size = some (ciO (.ref h₂.objs.size) (.str (Str.ofString "") tt) false):=fun tt=>Heap.get?_push_size _ rfl
 refine wpAny_storeName_local (ev.kind rfl) ((hn₂.push _).push _) (fun h₃ hn₃ sb₃=>?_) (by rw [kind];rfl)
 rw [loc] at hn₃ sb₃
 have nlt:∀ {b:Addr},h₂.objs.size ≤ b→s.heap.get? b = none:=fun {b} hb=>by
  cases q:s.heap.get? b with
  | none=>rfl
  | some o=>exact absurd (Heap.lt_size (k₂ _ _ q)) (Nat.not_lt.mpr hb)
 have hLlt:s.heap.objs.size < h₂.objs.size:=by rw [← loc];exact hn₂.lt
 have e1:h₂.objs.size ≠ s.heap.objs.size:=Nat.ne_of_gt hLlt
 have sz:(h₂.push (methodObj (.ref k.fR) (.ref f.a))).objs.size = h₂.objs.size + 1:=Heap.size_push ..
 have e2:(h₂.push (methodObj (.ref k.fR) (.ref f.a))).objs.size ≠ s.heap.objs.size:=by rw [sz];lia
 have F:Fresh k f s.heap.objs.size (h₂.push (methodObj (.ref k.fR) (.ref f.a))).objs.size h₂.objs.size s.heap :=
  ⟨hL,nlt (Nat.le_of_lt (by rw [sz];exact Nat.lt_succ_self _)),nlt (Nat.le_refl _),⟨x,n,L₀⟩,e1,e2,by rw [sz];exact Nat.succ_ne_self _⟩
 have k₃:∀ b o,b ≠ s.heap.objs.size→h₂.get? b = some o→h₃.get? b = some o:=fun b o q e=>(sb₃.2 b q).trans (pi _ _ _ (pb _ _ e))
 have I₃:GI k f (h₂.push (methodObj (.ref k.fR) (.ref f.a))).objs.size h₂.objs.size _ h₃:=⟨(sb₃.2 _ e2).trans (git _),(sb₃.2 _ e1).trans (pi _ _ _ gbm)⟩
 have new':∀ {b:Addr} {o:Obj},s.heap.get? b = some o→b ≠ s.heap.objs.size:=fun e q=>by rw [q,hL] at e;exact nso e
 have G₃:GF f s.heap.objs.size (h₂.push (methodObj (.ref k.fR) (.ref f.a))).objs.size s.heap h₃ x n []:=by
  refine ⟨fun b o _ _ e=>k₃ b o (new' e) (k₂ b o e),?_,?_,⟨_,_,hn₃,rfl,rfl,rfl⟩⟩
  ·exact ⟨u,uv,tn,jd,k₃ _ _ F.ne.n1.symm hdd₂⟩
  ·obtain ⟨t,j,hl⟩:=L₂.left;exact ⟨t,j,k₃ _ _ F.ne.n2.symm hl⟩
 exact get_loop (s:={ s with heap:=h₃,toks:=_ }) W.toLW hB nB ev F G₃ I₃ hx hh' hd' hR (O.line (79,80) (by decide)) (O.line (93,94) (by decide)) (O.line (113,114) (by decide)) fun h' tk t L' K'=>hQ h' tk t L' K'
end
section
variable {prog:Program} {w:World} {A:Around} {E:Value→Shared→Prop} {s:Shared} {env:Env} {k:LK} {f:Fp} {x tok ch:T} {n:Int} {L it bm:Addr} {ty:Tok} {h₀ h h':Heap} {B:Addr→Option Obj} {mg mb:Str→Option Value}
theorem pop0 {D:Addr} {v:Value} {r:List Value} {j:Nat} {t:Tok} {Q:Value→Shared→Prop} (hl:s.heap.get? D = some (listO (v :: r) j)) (hz:(v :: r).length ≤ 16777216) (h:∀ h' j',h'.get? D = some (listO r j')→Heap.SameBut D s.heap h'→Q v { s with heap:=h' }) :
  wpAny (model prog w) A (call (.builtin "list.pop") [.ref D,.int 0 t]) Q E s:=by
 refine call_meets PySem.F.slot_list_pop ⟨_,hl,rfl⟩ PySem.F.entry_list_pop (PySem.F.args_list_pop_2 _ _) (PySem.MeetsSeq.list_pop_at D (v :: r).toArray j 0 t 0 v rfl (by unfold seqIndex?;simp) rfl (by simp only [List.size_toArray,sizeLine_eq];exact hz)) ⟨hl,?_⟩
 have u:=PySem.IsL.update (show PySem.IsL s.heap D (v :: r).toArray j from hl) (fun xs=>xs.eraseIdxIfInBounds 0)
 have e:(v :: r).toArray.eraseIdxIfInBounds 0 = r.toArray:=by
  have:=kl_erase [] r v
  simpa using this
 rw [e] at u
 exact h _ _ u (Heap.SameBut.update ..)
theorem getp_ok {v:Value} {r:List Value} {j:Nat} {Q:Value→Shared→Prop} (W:LW k B mg mb) (hB:BaseIn B s.heap) (L₀:LexC k s.heap f x n) (hp:s.heap.get? f.p = some (listO (v :: r) j)) (hz:(v :: r).length ≤ 16777216) (hd:A.depth < recursionLimit)
  (hQ:∀ h' tk j',h'.get? f.p = some (listO r j')→(∀ b o,b ≠ f.p→s.heap.get? b = some o→h'.get? b = some o)→Q v { s with heap:=h',toks:=tk }) :
  codeAny (model prog w) A (.call (.ref k.fG) ⟨[.ref f.a],[]⟩) (Ret Q) s:=by
 have O:=W.ok
 refine call_in (W.kin _ hB) (W.lim _ hB) O.fg hd rfl (by decide) (by decide) rfl rfl rfl fun env h₁ tk₁ ev hn hk hL=>?_
 generalize A.deeper env = A'
 have loc:=ev.loc
 have kind:env.scope.kind = .function:=by rw [ev.scope];rfl
 have L₁:=L₀.keep hk
 have B₁:=hB.keep hk
 obtain ⟨u,uv,tn,jd,hdd⟩:=L₁.dict
 rw [← loc] at hn
 unfold getBody
 have rp:∀ {A:Around} {E:Value→Shared→Prop} {tk:Nat} {p1 p2:Pos} {Q:Value→Shared→Prop},(∀ tk,Q (.ref f.p) { s with heap:=h₁,toks:=tk })→wpAny (model prog w) A (eval (.Attribute (.Name "self" p1) "pushback" p2) env) Q E { s with heap:=h₁,toks:=tk }:=fun {A E tk p1 p2 Q} h =>
  Attribute_Name_ (wpAny_Name (wpAny_loadName_local kind (ev.kind rfl) hn rfl (L₁.get (s:={ s with heap:=h₁,toks:=tk }) O (W.kin _ B₁) hdd O.o4 look4 rfl h))) rfl
 refine wpAny_execs_cons (wpAny_If (isTrue_plain (rp fun tk₂=>?_) rfl))
 refine wpAny_truthy_list (items:=(v :: r).toArray) ⟨_,hk _ _ hp,rfl,j,rfl⟩ (by have:=hz;simp at this ⊢;lia) ?_
 refine wpAny_execs_cons (wpAny_Return_some (mcall (fun _=>rfl) (O.line (41,43) (by decide)) rfl (rp fun tk₃ pl=>?_)))
 refine getMethod_builtin ⟨_,hk _ _ hp,rfl⟩ PySem.F.plainAttrs_list PySem.F.slot_list_pop PySem.F.type_list_pop (fun a e=>by cases e;exact ⟨_,hk _ _ hp,rfl⟩) ?_
 refine callWith_any (.inl ⟨_,rfl⟩) rfl (spliced_more (wpAny_Constant_int (spliced_none ?_)))
 refine pop0 (hk _ _ hp) hz fun h' j' g sb=>?_
 exact hQ h' _ j' g fun b o q e=>(sb.2 b q).trans (hk b o e)
theorem push_ok {l:List Value} {j:Nat} {v:Value} {Q:Value→Shared→Prop} (W:LW k B mg mb) (hB:BaseIn B s.heap) (L₀:LexC k s.heap f x n) (hp:s.heap.get? f.p = some (listO l j)) (hz:l.length ≤ 1000000) (hd:A.depth < recursionLimit)
  (hQ:∀ h' tk j',h'.get? f.p = some (listO (l ++ [v]) j')→(∀ b o,b ≠ f.p→s.heap.get? b = some o→h'.get? b = some o)→Q .none { s with heap:=h',toks:=tk }) :
  codeAny (model prog w) A (.call (.ref k.fP) ⟨[.ref f.a,v],[]⟩) (Ret Q) s:=by
 have O:=W.ok
 refine call_in (W.kin _ hB) (W.lim _ hB) O.fp hd rfl (by decide) (by decide) rfl rfl rfl fun env h₁ tk₁ ev hn hk hL=>?_
 generalize A.deeper env = A'
 have loc:=ev.loc
 have kind:env.scope.kind = .function:=by rw [ev.scope];rfl
 have L₁:=L₀.keep hk
 have B₁:=hB.keep hk
 obtain ⟨u,uv,tn,jd,hdd⟩:=L₁.dict
 rw [← loc] at hn
 unfold pshBody
 refine wpAny_execs_cons (wpAny_Expr (wpAny_Call_append rfl rfl (O.line (130,132) (by decide)) rfl ?_) (by unfold interactive;rw [kind];rfl))
 refine Attribute_Name_ (wpAny_Name (wpAny_loadName_local kind (ev.kind rfl) hn rfl (L₁.get (s:={ s with heap:=h₁,toks:=tk₁ }) O (W.kin _ B₁) hdd O.o4 look4 rfl fun tk₂=>?_))) rfl
 refine ⟨f.p,l.toArray,rfl,⟨_,j,hk _ _ hp,rfl,rfl,rfl⟩,wpAny_Name (wpAny_loadName_local kind (ev.kind rfl) hn rfl ?_)⟩
 refine wpAny_list_append_plain (items:=l.toArray) ⟨j,hk _ _ hp⟩ (fun h' hp' hsb=>?_) (by simp only [List.size_toArray,sizeLine_eq];exact Nat.le_trans (by assumption) (by decide))
 refine (hp').elim fun n' hp'=>?_
 rw [show (l.toArray.push v) = (l ++ [v]).toArray by simp] at hp'
 exact wpAny_execs_nil (hQ h' _ n' hp' fun b o q e=>(hsb.2 b q).trans (hk b o e))
end
section
variable {prog:Program} {w:World} {A:Around} {E:Value→Shared→Prop} {s:Shared} {env:Env} {k:LK} {x:T} {n:Int} {h₀ h h':Heap} {B:Addr→Option Obj} {mg mb:Str→Option Value}
theorem put_new {a d:Addr} {es:List DictEntry} {j:Nat} {name:Str} {v:Value} {Q:Unit→Shared→Prop} (W:LW k B mg mb) (hB:BaseIn B s.heap) (hi:s.heap.get? a = some (instObj k.C d)) (hd:s.heap.get? d = some (dictOf es j)) (hf:findIn k.K (.ref k.C) name = some none)
  (hl:getL name es = some none) (hz:es.length ≤ 900) (h:∀ h' hsh tk tk' j',h'.get? d = some (dictOf (putL name hsh (.str name tk) v es) j')→Heap.SameBut d s.heap h'→Q () { s with heap:=h',toks:=tk' }) :
  wpAny (model prog w) A (setAttr (.ref a) name v) Q E s :=
 put_field (W.kin _ hB) ⟨hi,rfl,rfl,hd⟩ rfl W.ok.sa W.ok.plain (by unfold takerIn;rw [hf];rfl) W.ok.hasd (by rw [hl];rfl) hz fun h' hsh tk tk' g sb=>h h' hsh tk tk' _ g sb
theorem init_ok {a d sm:Addr} {Q:Value→Shared→Prop} (W:LW k B mg mb) (hB:BaseIn B s.heap) (nB:B d = none) (hi:s.heap.get? a = some (instObj k.C d)) (hdd:s.heap.get? d = some (dictOf [] 0)) (hd:A.depth < recursionLimit)
  (hQ:∀ h' tk p,s.heap.get? p = none→h'.get? p = some (listO [] 0)→IsLxD h' d 1 sm p→(∀ b o,b ≠ d→s.heap.get? b = some o→h'.get? b = some o)→Q .none { s with heap:=h',toks:=tk }) :
  codeAny (model prog w) A (.call (.ref k.fI) ⟨[.ref a,.ref sm],[]⟩) (Ret Q) s:=by
 have O:=W.ok
 have nda:d ≠ a:=fun e=>by rw [e,hi] at hdd;cases hdd
 refine call_in (W.kin _ hB) (W.lim _ hB) O.fi hd rfl (by decide) (by decide) rfl rfl rfl fun env h₁ tk₁ ev hn hk hL=>?_
 generalize A.deeper env = A'
 have loc:=ev.loc
 have kind:env.scope.kind = .function:=by rw [ev.scope];rfl
 rw [← loc] at hn
 have new:∀ {b:Addr} {o:Obj},s.heap.get? b = some o→b ≠ env.locals:=fun e q=>by rw [q,loc,hL] at e;exact nso e
 have ndl:=new hdd
 have Bn:∀ {h':Heap},(∀ b o,b ≠ d→s.heap.get? b = some o→h'.get? b = some o)→BaseIn B h':=fun hk b o e=>hk b o (fun q=>by rw [q,nB] at e;cases e) (hB b o e)
 unfold initBody
 refine wpAny_execs_cons (plainObj_wpAny_Assign_Attribute (wpAny_Constant_int (wpAny_Name (wpAny_loadName_local kind (ev.kind rfl) hn rfl ?_))) rfl)
 refine put_new W (Bn fun b o _ e=>hk b o e) (hk _ _ hi) (hk _ _ hdd) O.o1 rfl (by simp) fun h₂ hs1 t1 tk2 j₂ g₂ sb₂=>?_
 have k₂:∀ b o,b ≠ d→s.heap.get? b = some o→h₂.get? b = some o:=fun b o q e=>(sb₂.2 b q).trans (hk b o e)
 have hn₂:=hn.sameBut sb₂ ndl.symm
 refine wpAny_execs_cons (plainObj_wpAny_Assign_Attribute (wpAny_Name (wpAny_loadName_local kind (ev.kind rfl) hn₂ rfl (wpAny_Name (wpAny_loadName_local kind (ev.kind rfl) hn₂ rfl ?_)))) rfl)
 refine put_new W (Bn k₂) (k₂ _ _ nda.symm hi) g₂ O.o2 rfl (show 1 ≤ 900 by decide) fun h₃ hs2 t2 tk3 j₃ g₃ sb₃=>?_
 have k₃:∀ b o,b ≠ d→s.heap.get? b = some o→h₃.get? b = some o:=fun b o q e=>(sb₃.2 b q).trans (k₂ b o q e)
 have hn₃:=hn₂.sameBut sb₃ ndl.symm
 refine wpAny_execs_cons (plainObj_wpAny_Assign_Attribute (wpAny_Constant_str (wpAny_Name (wpAny_loadName_local kind (ev.kind rfl) hn₃ rfl ?_))) rfl)
 refine put_new W (Bn k₃) (k₃ _ _ nda.symm hi) g₃ O.o3 rfl (show 2 ≤ 900 by decide) fun h₄ hs3 t3 tk4 j₄ g₄ sb₄=>?_
 have k₄:∀ b o,b ≠ d→s.heap.get? b = some o→h₄.get? b = some o:=fun b o q e=>(sb₄.2 b q).trans (k₃ b o q e)
 have hn₄:=hn₃.sameBut sb₄ ndl.symm
 refine wpAny_execs_cons (plainObj_wpAny_Assign_Attribute (List_ (spliced_none (wpAny_newObj_type (wpAny_Name (wpAny_loadName_local kind (ev.kind rfl) (hn₄.push _) rfl ?_)) (by size_fits)))) rfl)
 have kp:∀ b o,h₄.get? b = some o→(h₄.push (listO [] 0)).get? b = some o:=fun b o e=>Heap.get?_push_of_some _ e
 have gp:(h₄.push (listO [] 0)).get? h₄.objs.size = some (listO [] 0):=Heap.get?_push_size _ rfl
 refine put_new (s:={ s with heap:=h₄.push (listO [] 0),toks:=_ }) W (Bn fun b o q e=>kp b o (k₄ b o q e)) (kp _ _ (k₄ _ _ nda.symm hi)) (kp _ _ g₄) O.o4 rfl (show 3 ≤ 900 by decide) fun h₅ hs5 t5 tk5 j₅ g₅ sb₅=>?_
 have np:h₄.objs.size ≠ d:=Nat.ne_of_gt (Heap.lt_size g₄)
 refine wpAny_execs_nil (hQ h₅ _ h₄.objs.size ?_ ((sb₅.2 _ np).trans gp) (.of g₅) fun b o q e=>(sb₅.2 b q).trans (kp _ _ (k₄ b o q e)))
 cases q:s.heap.get? h₄.objs.size with
 | none=>rfl
 | some o =>
  have:=Heap.lt_size (k₄ _ _ np q)
  exact absurd this (Nat.lt_irrefl _)
end
noncomputable abbrev tab6 (P:Nat→Pos) (cr cl:Addr):Array Value:=#[rawInt (P 160).line,rawInt (P 160).col,.ref cr,rawInt (P 163).line,rawInt (P 163).col,.ref cl]
noncomputable def rdq (lq:Str):Str:=lq ++ ".<locals>." ++ "read"
noncomputable def Tab (k:LK) (tb:Addr) (lq:Str) (h:Heap):Option (Addr × Addr)→Prop
 | none=>h.get? tb = some (tabObj #[])
 | some (cr,cl)=>h.get? tb = some (tabObj (tab6 k.P cr cl)) ∧ h.CodeRec (.ref cr) (rdq lq)
structure LW3 (k:LK) (B:Addr→Option Obj) (mg mb:Str→Option Value) (fL cL tb:Addr) (lq:Str):Prop extends LW2 k B mg mb where
 keepC:keepIn k.K (.ref k.C) = true
 lx:∃ o fd,B fL = some o ∧ o.data = .func fd ∧ fd.globals = mainGlobals ∧ fd.builtins = builtinsNs ∧ fd.closure = [] ∧ fd.body = .stmts (lexBody k.P) ∧ fd.scope = lexScope ∧ fd.qualname = lq ∧ fd.code = .ref cL ∧
  (∀ v,bindArgs fd ⟨[v],[]⟩ = pure [(Str.ofString "text",v)]) ∧ (∀ h,BaseIn B h→h.CodeRec fd.code fd.qualname)
 chd:∀ h,BaseIn B h→CodeHd h cL tb
 bm:∀ h,BaseIn B h→h.BuiltinsAt mg tb
 cls:mg "_netrclex" = some (.ref k.C)
 mtb:mainGlobals ≠ tb
 ntb:B tb = none
 p1:∀ c,codeAmong (k.P 163) [rawInt (k.P 160).line,rawInt (k.P 160).col,.ref c] = none
 p2:∀ c c',codeAmong (k.P 160) (tab6 k.P c c').toList = some (.ref c)
 p3:∀ c c',codeAmong (k.P 163) (tab6 k.P c c').toList = some (.ref c')
section
variable {prog:Program} {w:World} {A:Around} {E:Value→Shared→Prop} {s:Shared} {env:Env} {k:LK} {x:T} {n:Int} {h₀ h h':Heap} {B:Addr→Option Obj} {mg mb:Str→Option Value} {fL cL tb:Addr} {lq:Str}
theorem fresh_none {h h':Heap} {b:Addr} (hk:∀ b o,h.get? b = some o→∃ o',h'.get? b = some o') (e:h'.get? b = none):h.get? b = none:=by
 cases q:h.get? b with
 | none=>rfl
 | some o=>obtain ⟨o',e'⟩:=hk b o q;rw [e] at e';cases e'
theorem class_ok {sm:Addr} {Q:Value→Shared→Prop} (W:LW k B mg mb) (hB:BaseIn B s.heap) (hd:A.depth + 1 < recursionLimit)
  (hQ:∀ h' tk a d p,s.heap.get? a = none→s.heap.get? d = none→s.heap.get? p = none→h'.get? a = some (instObj k.C d)→h'.get? p = some (listO [] 0)→IsLxD h' d 1 sm p→(∀ b o,s.heap.get? b = some o→h'.get? b = some o)→Q (.ref a) { s with heap:=h',toks:=tk }) :
  wpAny (model prog w) A (call (.ref k.C) [.ref sm]) Q E s:=by
 have O:=W.ok
 have X:=W.kin _ hB
 obtain ⟨hp,g,d,t,os⟩:=s
 refine wpAny_call (make_core (makes_of X O.makes) (looks_findIn X O.init) (fun self=>bind_fn X self O.fi.type) (.inl rfl) ?_)
 have k1:∀ b o,hp.get? b = some o→((hp.push emptyDict).push (instObj k.C hp.objs.size)).get? b = some o:=fun b o e=>Heap.get?_push_of_some _ (Heap.get?_push_of_some _ e)
 have sz:(hp.push emptyDict).objs.size = hp.objs.size + 1:=Heap.size_push ..
 have gi:((hp.push emptyDict).push (instObj k.C hp.objs.size)).get? (hp.objs.size + 1) = some (instObj k.C hp.objs.size):=by rw [← sz];exact Heap.get?_push_size _ rfl
 have gd:((hp.push emptyDict).push (instObj k.C hp.objs.size)).get? hp.objs.size = some (dictOf [] 0):=Heap.get?_push_of_some _ (Heap.get?_push_size _ rfl)
 have none:∀ b,hp.objs.size ≤ b→hp.get? b = none:=fun b hb=>by
  cases q:hp.get? b with
  | none=>rfl
  | some o=>exact absurd (Heap.lt_size q) (Nat.not_lt.mpr hb)
 have nB:B hp.objs.size = .none:=by
  cases q:B hp.objs.size with
  | none=>rfl
  | some o=>have:=hB _ _ q;rw [none _ (Nat.le_refl _)] at this;cases this
 refine codeAny_mono (init_ok (s:=⟨(hp.push emptyDict).push (instObj k.C hp.objs.size),g,d,t,os⟩) (Q:=fun v s'=>v = .none ∧ Q (.ref (hp.objs.size + 1)) s') W (hB.keep k1) nB gi gd hd fun h' tk p np gp gl hk=>⟨rfl,?_⟩) fun r s' hr=>?_
 ·exact hQ h' tk _ _ p (none _ (Nat.le_succ _)) (none _ (Nat.le_refl _)) (fresh_none (fun b o e=>⟨o,k1 b o e⟩) np) (hk _ _ (Nat.succ_ne_self _) gi) gp gl fun b o e=>hk b o (Nat.ne_of_lt (Heap.lt_size e)) (k1 b o e)
 ·rcases r with e | (_ | _ | _ | v)
  ·exact hr.elim
  all_goals first | exact hr | exact hr.elim
theorem lexer_tail {q1 q2 q3 q4 q5 q6 q7 q8:Pos} {m:Str→Option Value} {rf sm:Addr} {fd:FuncData} {Q:Value→Shared→Prop} (W:LW3 k B mg mb fL cL tb lq) (hB:BaseIn B s.heap) (nB:B sm = none) (kind:env.scope.kind = .function) (hg:env.globals = mainGlobals)
  (kr:env.kindOf "read" = some .local) (ks:env.kindOf "stream" = some .local) (kc:env.kindOf "_netrclex" = some .globalImplicit)
  (hn:s.heap.Ns env.locals m) (h1:m "read" = some (.ref rf)) (h2:m "stream" = some (.ref sm)) (hsm:s.heap.get? sm = some ⟨.type "function",none,.func fd,#[]⟩) (hd:A.depth + 1 < recursionLimit)
  (hQ:∀ h' tk a d p sd,s.heap.get? a = none→s.heap.get? d = none→s.heap.get? p = none→s.heap.get? sd = none→sd ≠ p→h'.get? a = some (instObj k.C d)→h'.get? p = some (listO [] 0)→IsLxD h' d 1 sm p →
   h'.get? sm = some ⟨.type "function",some sd,.func fd,#[]⟩→(∃ hs t,h'.get? sd = some (dictOf [⟨hs,.str "read" t,.ref rf⟩] 1))→(∀ b o,b ≠ sm→s.heap.get? b = some o→h'.get? b = some o)→Q (.ref a) { s with heap:=h',toks:=tk }) :
  wpAny (model prog w) A (execs [.Assign [.Attribute (.Name "stream" q1) "read" q2] (.Name "read" q3) q4,.Return (some (.Call (.Name "_netrclex" q5) [.Name "stream" q6] [] q7)) q8] env) (fun fl s'=>Q (fl2v fl) s') (fun _ _=>False) s:=by
 have nsm:env.locals ≠ sm:=fun e=>by
  obtain ⟨o,es,ep,g,d,_⟩:=hn
  rw [e,hsm] at g;cases g;cases d
 refine wpAny_execs_cons (plainObj_wpAny_Assign_Attribute (wpAny_Name (wpAny_loadName_local kind kr hn h1 (wpAny_Name (wpAny_loadName_local kind ks hn h2 ?_)))) rfl)
 refine fn_set hsm fun h₂ hs tk tk' g1 g2 k2=>?_
 have hn₂:h₂.Ns env.locals m:=let ⟨o,es,ep,g,r⟩:=hn;⟨o,es,ep,k2 _ _ nsm g,r⟩
 have B₂:BaseIn B h₂:=fun b o e=>k2 b o (fun q=>by rw [q,nB] at e;cases e) (hB b o e)
 refine wpAny_execs_cons (wpAny_Return_some (wpAny_Call_Name_kw (Calls.Name_function_global kind kc (Calls.loadGlobal_global (by simp only [hg];exact W.main _ B₂) W.cls ?_) (by decide))))
 refine callWith_K (W.kin _ B₂) W.keepC (spliced_more (wpAny_Name (wpAny_loadName_local kind ks hn₂ h2 (spliced_none ⟨W.kin _ B₂,?_⟩))))
 refine class_ok (s:={ s with heap:=h₂,toks:=_ }) W.toLW B₂ hd fun h₃ tk₃ a d p na nd np ga gp gd k3=>?_
 have back:∀ b o,s.heap.get? b = some o→∃ o',h₂.get? b = some o':=fun b o e=>by
  by_cases q:b = sm
  ·rw [q];exact ⟨_,g1⟩
  ·exact ⟨o,k2 b o q e⟩
 have nsd:s.heap.get? s.heap.objs.size = none:=by
  cases q:s.heap.get? s.heap.objs.size with
  | none=>rfl
  | some o=>exact absurd (Heap.lt_size q) (Nat.lt_irrefl _)
 refine hQ h₃ tk₃ a d p s.heap.objs.size (fresh_none back na) (fresh_none back nd) (fresh_none back np) nsd (fun e=>?_) ga gp gd (k3 _ _ g1) ⟨_,_,k3 _ _ g2⟩ fun b o q e=>k3 _ _ (k2 b o q e)
 rw [← e,g2] at np;cases np
end
section
variable {prog:Program} {w:World} {A:Around} {E:Value→Shared→Prop} {s:Shared} {env:Env} {k:LK} {x:T} {n:Int} {h₀ h h':Heap} {B:Addr→Option Obj} {mg mb:Str→Option Value} {fL cL tb:Addr} {lq:Str}
noncomputable def Fp.list (f:Fp):List Addr:=[f.a,f.d,f.p,f.ls,f.c,f.rf,f.sm,f.sd]
structure NewLex (k:LK) (tb:Addr) (lq:Str) (pre:Option (Addr × Addr)) (x:T) (h h':Heap) (f:Fp):Prop where
 lex:LexC k h' f x 1
 push:h'.get? f.p = some (listO [] 0)
 ne:f.p ≠ f.ls
 new:∀ b ∈ f.list,h.get? b = none
 keep:∀ b o,b ≠ tb→h.get? b = some o→h'.get? b = some o
 tab:∃ cl,Tab k tb lq h' (some (f.cc,cl)) ∧ (pre = some (f.cc,cl) ∨ (pre = none ∧ h.get? f.cc = none ∧ h.get? cl = none ∧ (∃ o,h'.get? cl = some o) ∧ f.cc ∉ f.list ∧ cl ∉ f.list))
noncomputable def TabM (k:LK) (tb:Addr) (cr:Addr) (h:Heap):Option (Addr × Addr)→Prop
 | none=>h.get? tb = some (tabObj #[rawInt (k.P 160).line,rawInt (k.P 160).col,.ref cr])
 | some (cr',cl)=>cr = cr' ∧ h.get? tb = some (tabObj (tab6 k.P cr cl))
section
variable {h h':Heap} {cr b a:Addr} {q:Str} {o:Obj} {m:Str→Option Value}
theorem cr_ns (x:h.CodeRec (.ref cr) q) (n:h.Ns b m):cr ≠ b:=by
 refine Classical.byContradiction fun hcon=>?_
 refine (n).elim fun o k0=>k0.elim fun es k1=>k1.elim fun ep k2=>k2.elim fun g k3=>k3.elim fun d _=>?_
 refine hcon ?_
 exact cr_ne x g fun vs t e _=>by rw [d] at e;cases e
theorem new_none {tb:Addr} (hk:∀ b o,b ≠ tb→h.get? b = some o→h'.get? b = some o) (ho:∃ o,h'.get? tb = some o):h.get? h'.objs.size = none:=by
 cases q:h.get? h'.objs.size with
 | none=>rfl
 | some o =>
  by_cases e:h'.objs.size = tb
  ·exact ho.elim fun o ho=>absurd (Heap.lt_size ho) (e ▸ Nat.lt_irrefl _)
  ·exact absurd (Heap.lt_size (hk _ _ e q)) (Nat.lt_irrefl _)
theorem Fp.all {f:Fp} {P:Addr→Prop} (ha:P f.a) (hd:P f.d) (hp:P f.p) (hl:P f.ls) (hc:P f.c) (hr:P f.rf) (hm:P f.sm) (hs:P f.sd):∀ b ∈ f.list,P b:=by
 intro b hb
 simp only [Fp.list,List.mem_cons,List.not_mem_nil,or_false] at hb
 rcases hb with rfl | rfl | rfl | rfl | rfl | rfl | rfl | rfl <;> assumption
end
theorem mk_rd {pre:Option (Addr × Addr)} {c:Addr} {Q:Value→Shared→Prop} (W:LW3 k B mg mb fL cL tb lq) (hB:BaseIn B s.heap) (T:Tab k tb lq s.heap pre) (hcl:closureFor rdScope env = pure [(Str.ofString "left",c)]) (hg:env.globals = mainGlobals) (hc:env.code = .ref cL)
  (h:∀ h' tk rf cr doc pm ctv,s.heap.get? rf = none→h'.get? rf = some (fnMade "read" (rdq lq) (rdArgs k.P) (rdBody k.P) rdScope [(Str.ofString "left",c)] doc pm cr ctv)→h'.CodeRec (.ref cr) (rdq lq)→TabM k tb cr h' pre→(pre = none→s.heap.get? cr = none ∧ cr ≠ rf)→(∀ b o,b ≠ tb→s.heap.get? b = some o→h'.get? b = some o)→Q (.ref rf) { s with heap:=h',toks:=tk }) :
  wpAny (model prog w) A (makeFunction "read" (rdq lq) (rdArgs k.P) (.stmts (rdBody k.P)) rdScope env [] [] [] (k.P 160) (k.P 160).line) Q E s:=by
 rcases pre with _ | ⟨cr,cl⟩
 ·exact makeFunction_K (ps:=#[]) (mg:=mg) hcl hg (W.main _ hB) hc (W.chd _ hB) T trivial rfl W.mtb (W.bm _ hB) fun c' ctv doc h' tk hx hge hlt hrec htb =>
   h _ _ h'.objs.size c' doc _ ctv (new_none hx ⟨_,htb⟩) (Heap.get?_push_size _ rfl) (hrec.push _) (Heap.get?_push_of_some _ htb) (fun _=>⟨get_ge hge,Nat.ne_of_lt hlt⟩) fun b o q e=>Heap.get?_push_of_some _ (hx b o q e)
 ·exact makeFunction_hit (mg:=mg) hcl hg (W.main _ hB) hc (W.chd _ hB) T.1 (by trivial) (W.p2 cr cl) (W.bm _ hB) fun ctv doc h' tk hk hsz =>
   h _ _ h'.objs.size cr doc _ ctv (new_none (fun b o _ e=>hk b o e) ⟨_,hk _ _ T.1⟩) (Heap.get?_push_size _ rfl) ((T.2.keeps hk).push _) ⟨rfl,Heap.get?_push_of_some _ (hk _ _ T.1)⟩ (fun q=>nso q.symm) fun b o q e=>Heap.get?_push_of_some _ (hk _ _ e)
theorem mk_lam {pre:Option (Addr × Addr)} {cr:Addr} {q:Str} {Q:Value→Shared→Prop} (W:LW3 k B mg mb fL cL tb lq) (hB:BaseIn B s.heap) (T:TabM k tb cr s.heap pre) (hR:s.heap.CodeRec (.ref cr) (rdq lq)) (hg:env.globals = mainGlobals) (hc:env.code = .ref cL)
  (hcl:closureFor { kind:=ScopeKind.function,names:=[],isGenerator:=false,isCoroutine:=false,more:=[]:Scope } env = pure [])
  (h:∀ h' tk sm cl fd,s.heap.get? sm = none→h'.get? sm = some ⟨.type "function",none,.func fd,#[]⟩→Tab k tb lq h' (some (cr,cl))→(pre = some (cr,cl) ∨ (pre = none ∧ s.heap.get? cl = none ∧ cl ≠ sm ∧ ∃ o,h'.get? cl = some o))→(∀ b o,b ≠ tb→s.heap.get? b = some o→h'.get? b = some o)→Q (.ref sm) { s with heap:=h',toks:=tk }) :
  wpAny (model prog w) A (makeFunction "<lambda>" q { posonlyargs:=[],args:=[],vararg:=none,kwonlyargs:=[],kw_defaults:=[],kwarg:=none,defaults:=[]:Arguments } (.expr (Expr.Constant Const.none 0 (k.P 162))) { kind:=ScopeKind.function,names:=[],isGenerator:=false,isCoroutine:=false,more:=[]:Scope } env [] [] [] (k.P 163) (k.P 163).line) Q E s:=by
 rcases pre with _ | ⟨cr',cl⟩
 ·have ncr:cr ≠ tb:=cr_ne hR T fun vs t e v=>by cases e;cases v
  exact kla_makeFunction (mg:=mg) hcl hg (W.main _ hB) hc (W.chd _ hB) T trivial (W.p1 cr) W.mtb (W.bm _ hB) fun c' ctv h' tk hx hge hlt hrec htb =>
   h _ _ h'.objs.size c' _ (new_none hx ⟨_,htb⟩) (Heap.get?_push_size _ rfl) ⟨Heap.get?_push_of_some _ htb,(cr_keep hR fun o e _=>hx _ o ncr e).push _⟩ (.inr ⟨rfl,get_ge hge,Nat.ne_of_lt hlt,(cr_al hrec).imp fun o e=>Heap.get?_push_of_some _ e⟩) fun b o q e=>Heap.get?_push_of_some _ (hx b o q e)
 ·refine Classical.byContradiction fun hcon=>?_
  obtain ⟨rfl,T⟩:=T
  refine hcon ?_
  exact kla_makeFunctionHit (mg:=mg) hcl hg (W.main _ hB) hc (W.chd _ hB) T (by trivial) (W.p3 cr cl) (W.bm _ hB) fun ctv h' tk hk hsz =>
   h _ _ h'.objs.size cl _ (new_none (fun b o _ e=>hk b o e) ⟨_,hk _ _ T⟩) (Heap.get?_push_size _ rfl) ⟨Heap.get?_push_of_some _ (hk _ _ T),(hR.keeps hk).push _⟩ (.inl rfl) fun b o q e=>Heap.get?_push_of_some _ (hk _ _ e)
theorem Tab.al {pre:Option (Addr × Addr)} (T:Tab k tb lq h pre):∃ o,h.get? tb = some o:=by cases pre with | none=>exact ⟨_,T⟩ | some p=>exact ⟨_,T.1⟩
theorem Tab.kp {pre:Option (Addr × Addr)} (T:Tab k tb lq h pre) (hk:∀ b o,h.get? b = some o→h'.get? b = some o):Tab k tb lq h' pre:=by
 cases pre with
 | none=>exact hk _ _ T
 | some p=>exact ⟨hk _ _ T.1,T.2.keeps hk⟩
theorem TabM.al {pre:Option (Addr × Addr)} {cr:Addr} (T:TabM k tb cr h pre):∃ o,h.get? tb = some o:=by cases pre with | none=>exact ⟨_,T⟩ | some p=>exact ⟨_,T.2⟩
theorem TabM.kp {pre:Option (Addr × Addr)} {cr:Addr} (T:TabM k tb cr h pre) (hk:∀ o,h.get? tb = some o→h'.get? tb = some o):TabM k tb cr h' pre:=by
 cases pre with
 | none=>exact hk _ T
 | some p=>exact ⟨T.1,hk _ T.2⟩
structure LxEnv (s₀:Shared) (cL:Addr) (lq:Str) (env:Env):Prop where
 kind:env.scope.kind = .function
 loc:env.locals = s₀.heap.objs.size
 gl:env.globals = mainGlobals
 co:env.code = .ref cL
 cel:env.cells.lookup (Str.ofString "left") = some (s₀.heap.objs.size + 1)
 k1:env.kindOf "left" = some .cell
 k2:env.kindOf "text" = some .local
 k3:env.kindOf "read" = some .local
 k4:env.kindOf "stream" = some .local
 k5:env.kindOf "_netrclex" = some .globalImplicit
 cl1:closureFor rdScope env = pure [(Str.ofString "left",s₀.heap.objs.size + 1)]
 cl2:closureFor { kind:=ScopeKind.function,names:=[],isGenerator:=false,isCoroutine:=false,more:=[]:Scope } env = pure []
 qn:qualnameIn env "read" "read" = rdq lq
theorem lexer_body {pre:Option (Addr × Addr)} {t:Tok} {s₀:Shared} {h₁:Heap} {tk₁:Nat} {m:Str→Option Value} {v₀:Option Value} {Q:Value→Shared→Prop} (W:LW3 k B mg mb fL cL tb lq) (hB:BaseIn B s₀.heap) (T:Tab k tb lq s₀.heap pre) (V:LxEnv s₀ cL lq env) (hd:A.depth + 1 < recursionLimit)
  (hk:∀ b o,s₀.heap.get? b = some o→h₁.get? b = some o) (hns:h₁.Ns env.locals m) (hmt:m (Str.ofString "text") = some (.str (strOf x) t)) (hcell:h₁.IsCell (s₀.heap.objs.size + 1) v₀)
  (hQ:∀ h' tk f,NewLex k tb lq pre x s₀.heap h' f→Q (.ref f.a) { s₀ with heap:=h',toks:=tk }) :
  wpAny (model prog w) A (execs (lexBody k.P) env) (fun fl s'=>Q (fl2v fl) s') (fun _ _=>False) { s₀ with heap:=h₁,toks:=tk₁ }:=by
 have nL:s₀.heap.get? env.locals = none:=by simp only [V.loc];exact get_ge (Nat.le_refl _)
 have nC:=get_ge (Nat.le_succ s₀.heap.objs.size)
 have ntL:∀ {b},s₀.heap.get? b = none→b ≠ tb:=fun e=>T.al.elim fun o g=>get_ne e g
 have ne2:env.locals ≠ s₀.heap.objs.size + 1:=by simp only [V.loc];exact Nat.ne_of_lt (Nat.lt_succ_self _)
 unfold lexBody
 refine wpAny_execs_cons (wpAny_Assign_Name (List_ (spliced_more (wpAny_Name (wpAny_loadName_local V.kind V.k2 hns hmt (spliced_none (wpAny_newObj_type ?_ (by size_fits))))))))
 refine wpAny_storeName_cell V.kind V.k1 V.cel (hcell.keeps fun b o e=>Heap.get?_push_of_some _ e) fun h₂ hc₂ sb₂=>?_
 have nls:=get_ge (Nat.le_refl h₁.objs.size)
 have ne1:h₁.objs.size ≠ s₀.heap.objs.size + 1:=hcell.elim fun o g=>get_ne nls g.1
 have ls0:s₀.heap.get? h₁.objs.size = none:=fresh_none (fun b o e=>⟨o,hk b o e⟩) nls
 have k2':∀ b o,b ≠ s₀.heap.objs.size + 1→h₁.get? b = some o→h₂.get? b = some o:=fun b o q e=>(sb₂.2 b q).trans (Heap.get?_push_of_some _ e)
 have hls₂:h₂.get? h₁.objs.size = some (listO [.str (strOf x) t] 0):=(sb₂.2 _ ne1).trans (Heap.get?_push_size _ rfl)
 have hn₂:h₂.Ns env.locals m:=ns_keep hns fun o=>k2' _ o ne2
 have sk:∀ b o,s₀.heap.get? b = some o→h₂.get? b = some o:=fun b o e=>k2' b o (get_ne nC e).symm (hk b o e)
 refine wpAny_execs_cons (nestDef_K rfl rfl rfl ?_)
 simp only [V.qn]
 refine mk_rd (s:={ s₀ with heap:=h₂,toks:=_ }) W (hB.keep sk) (T.kp sk) V.cl1 V.gl V.co fun h₃ tk₃ rf cr doc pm ctv nrf grf hrec TM ncr k₃=>?_
 have nLt:env.locals ≠ tb:=ntL nL
 have hn₃:h₃.Ns env.locals m:=ns_keep hn₂ fun o=>k₃ _ o nLt
 refine wpAny_storeName_local V.k3 hn₃ (fun h₄ hn₄ sb₄=>?_) (by simp only [V.kind];rfl)
 have nLrf:rf ≠ env.locals:=ns_ne hn₂ nrf
 have k34:∀ b o,b ≠ env.locals→h₃.get? b = some o→h₄.get? b = some o:=fun b o q e=>(sb₄.2 b q).trans e
 have k₄:∀ b o,b ≠ tb→b ≠ env.locals→h₂.get? b = some o→h₄.get? b = some o:=fun b o q1 q2 e=>k34 b o q2 (k₃ b o q1 e)
 have sk₄:∀ b o,b ≠ tb→s₀.heap.get? b = some o→h₄.get? b = some o:=fun b o q e=>k₄ b o q (get_ne nL e).symm (sk b o e)
 have ntB:∀ {b o},B b = some o→b ≠ tb:=fun e q=>by rw [q,W.ntb] at e;exact nso e
 have crL:=cr_ns hrec hn₃
 have TM₄:=TM.kp fun o=>k34 _ o nLt.symm
 have grf₄:=k34 _ _ nLrf grf
 refine wpAny_execs_cons (wpAny_Assign_Name (kla_eval rfl (mk_lam (s:={ s₀ with heap:=h₄,toks:=_ }) W (fun b o e=>sk₄ b o (ntB e) (hB b o e)) TM₄ (cr_keep hrec fun o g _=>k34 _ o crL g) V.gl V.co V.cl2 fun h₅ tk₅ sm cl fd nsm gsm T₅ pre₅ k₅=>?_)))
 have hn₅:h₅.Ns env.locals _:=ns_keep hn₄ fun o=>k₅ _ o nLt
 refine wpAny_storeName_local V.k4 hn₅ (fun h₆ hn₆ sb₆=>?_) (by simp only [V.kind];rfl)
 have nLsm:sm ≠ env.locals:=ns_ne hn₄ nsm
 have k56:∀ b o,b ≠ env.locals→h₅.get? b = some o→h₆.get? b = some o:=fun b o q e=>(sb₆.2 b q).trans e
 have k46:∀ b o,b ≠ tb→b ≠ env.locals→h₄.get? b = some o→h₆.get? b = some o:=fun b o q q' e=>k56 b o q' (k₅ b o q e)
 have sk₆:∀ b o,b ≠ tb→s₀.heap.get? b = some o→h₆.get? b = some o:=fun b o q e=>k46 b o q (get_ne nL e).symm (sk₄ b o q e)
 have al₄:∀ b o,s₀.heap.get? b = some o→∃ o',h₄.get? b = some o':=fun b o e=>by
  by_cases q:b = tb
  ·subst q;exact TM₄.al
  ·exact ⟨o,sk₄ b o q e⟩
 have sm0:s₀.heap.get? sm = none:=fresh_none al₄ nsm
 have rf0:s₀.heap.get? rf = none:=fresh_none (fun b o e=>⟨o,sk b o e⟩) nrf
 have ntls:=ntL ls0
 have ntc:=ntL nC
 have nls':h₁.objs.size ≠ env.locals:=ns_ne hns nls
 have gsm₆:=k56 _ _ nLsm gsm
 have grf₆:=k46 _ _ (ntL rf0) nLrf grf₄
 have gls₄:=k₄ _ _ ntls nls' hls₂
 have gls₆:=k46 _ _ ntls nls' gls₄
 have hc₆:h₆.IsCell (s₀.heap.objs.size + 1) _:=hc₂.imp fun o g=>⟨k46 _ _ ntc ne2.symm (k₄ _ _ ntc ne2.symm g.1),g.2⟩
 have gtb₆:=k56 _ _ nLt.symm T₅.1
 have rec₆:h₆.CodeRec (.ref cr) (rdq lq):=cr_keep T₅.2 fun o g _=>k56 _ o (cr_ns T₅.2 hn₅) g
 have nB:B sm = none:=by
  cases q:B sm with
  | none=>rfl
  | some o=>exact nso (sm0.symm.trans (hB _ _ q))
 refine lexer_tail (s:={ s₀ with heap:=h₆,toks:=_ }) W (fun b o e=>sk₆ b o (ntB e) (hB b o e)) nB V.kind V.gl V.k3 V.k4 V.k5 hn₆ (m:=_) (rf:=rf) (sm:=sm) (fd:=fd) rfl rfl gsm₆ hd fun h₇ tk₇ a d p sd na nd np nsd nsp ga gp gd gsm₇ gsd₇ k₇=>?_
 have f6:∀ {b},h₆.get? b = none→s₀.heap.get? b = none:=fun e=>fresh_none (fun b o e=>by
  by_cases q:b = tb
  ·subst q;exact ⟨_,gtb₆⟩
  ·exact ⟨o,sk₆ b o q e⟩) e
 have ncr6:∀ {b},h₆.get? b = none→cr ≠ b:=fun e=>(cr_al rec₆).elim fun o g=>(get_ne e g).symm
 have crsm:cr ≠ sm:=cr_ne rec₆ gsm₆ fun vs t e _=>by cases e
 have rec₇:h₇.CodeRec (.ref cr) (rdq lq):=cr_keep rec₆ fun o g _=>k₇ _ o crsm g
 refine hQ h₇ tk₇ ⟨a,d,p,h₁.objs.size,s₀.heap.objs.size + 1,rf,sm,sd,cr⟩ ⟨⟨ga,gd,⟨t,0,k₇ _ _ (get_unlike' gls₆ gsm₆ fun e=>absurd (Value.type.inj e) (by decide)) gls₆⟩,hc₆.imp fun o g=>⟨k₇ _ _ (get_unlike g.1 gsm₆ (by simp only [g.2];exact nofun)) g.1,g.2⟩,⟨_,doc,pm,ctv,k₇ _ _ (get_ne nsm grf₄).symm grf₆,rec₇⟩,⟨fd,gsm₇⟩,gsd₇⟩,gp,get_ne np gls₆,
  Fp.all (f6 na) (f6 nd) (f6 np) ls0 nC rf0 sm0 (f6 nsd),fun b o q e=>k₇ b o (get_ne sm0 e).symm (sk₆ b o q e),cl,⟨k₇ _ _ (ntL sm0).symm gtb₆,rec₇⟩,pre₅.imp id fun ⟨e,ncl,clsm,gcl⟩=>⟨e,?_⟩⟩
 have e1:cl ≠ env.locals:=ns_ne hn₄ ncl
 have gcl₆:=gcl.imp fun o g=>k56 _ o e1 g
 have cln:∀ {b},h₆.get? b = none→cl ≠ b:=fun e=>gcl₆.elim fun o g=>(get_ne e g).symm
 have cls:∀ {b o},h₄.get? b = some o→cl ≠ b:=fun e=>get_ne ncl e
 have crn:=ncr e
 exact ⟨fresh_none (fun b o e=>⟨o,sk b o e⟩) crn.1,fresh_none al₄ ncl,gcl₆.imp fun o g=>k₇ _ _ clsm g,
  fun hb=>Fp.all (P:=fun b=>cr ≠ b) (ncr6 na) (ncr6 nd) (ncr6 np) (cr_ne rec₆ gls₆ fun vs t e _=>by cases e) (hc₆.elim fun o g=>cr_ne rec₆ g.1 fun vs t e _=>by rw [g.2] at e;cases e) crn.2 crsm (ncr6 nsd) _ hb rfl,
  fun hb=>Fp.all (P:=fun b=>cl ≠ b) (cln na) (cln nd) (cln np) (cls gls₄) (hc₂.elim fun o g=>cls (k₄ _ _ ntc ne2.symm g.1)) (cls grf₄) clsm (cln nsd) _ hb rfl⟩
theorem lexer_ok {pre:Option (Addr × Addr)} {t:Tok} {Q:Value→Shared→Prop} (W:LW3 k B mg mb fL cL tb lq) (hB:BaseIn B s.heap) (T:Tab k tb lq s.heap pre) (hd:A.depth + 2 < recursionLimit)
  (hQ:∀ h' tk f,NewLex k tb lq pre x s.heap h' f→Q (.ref f.a) { s with heap:=h',toks:=tk }) :
  wpAny (model prog w) A (call (.ref fL) [.str (strOf x) t]) Q E s:=by
 refine Classical.byContradiction fun hcon=>?_
 refine (W.lx).elim fun o k0=>k0.elim fun fd k1=>k1.elim fun hBo k2=>k2.elim fun hdata k3=>k3.elim fun hg k4=>k4.elim fun hb k5=>k5.elim fun hclo k6=>k6.elim fun hbody k7=>k7.elim fun hscope k8=>k8.elim fun hq k9=>k9.elim fun hcode k10=>k10.elim fun hbind hrec=>?_
 refine hcon ?_
 refine wpAny_call (Ret.to ?_)
 refine codeAny_call_cells (binds:=[(Str.ofString "text",.str (strOf x) t)]) (by exact Nat.lt_of_le_of_lt (Nat.le_add_right _ _) (by assumption)) (hB _ _ hBo) hdata (W.lim _ hB) (hrec _ hB) hbody (hbind _) hclo (fun y hy=>?_) (fun s₁ I=>?_) (by rw [hscope];rfl) (by rw [hscope];rfl) (by rw [hscope];rfl)
 ·simp only [List.mem_singleton.mp hy,hscope];exact .inl rfl
 have henv:callEnvC fd s.heap.objs.size fL = newEnv lexScope s.heap.objs.size mainGlobals [(Str.ofString "left",s.heap.objs.size + 1)] (lq ++ ".<locals>.") (some fL) (.ref cL) none builtinsNs:=by
  unfold callEnvC
  simp only [hscope,hg,hq,hcode,hb]
  rfl
 rw [henv] at I ⊢
 refine Classical.byContradiction fun hcon=>?_
 obtain ⟨h₁,tk₁,rfl⟩:=I.toInCall.same
 refine hcon ?_
 exact wpAny_mono (lexer_body W hB T (A:=A.deeper _) ⟨rfl,rfl,rfl,rfl,rfl,rfl,rfl,rfl,rfl,rfl,rfl,rfl,rfl⟩ (by simp only [Around.deeper];assumption) I.toInCall.keep I.toInCall.ns rfl (I.cell (Str.ofString "left") (s.heap.objs.size + 1) rfl) hQ) (fun _ _ z=>z) (fun _ _ z=>z.elim)
end
section
variable {k:LK} {h h':Heap} {f:Fp} {x y:T} {n m:Int}
theorem LexC.same (L:LexC k h f x n) (e:∀ b ∈ f.list,h'.get? b = h.get? b) (ec:h'.get? f.cc = h.get? f.cc):LexC k h' f x n :=
 have l1:∀ {b c:Addr} {l:List Addr},b ∈ l→b ∈ c :: l:=.tail _
 ⟨(e _ (.head _)).trans L.inst,L.dict.keep fun o=>(e _ (l1 (.head _))).trans,left_keep L.left fun o=>(e _ (l1 (l1 (l1 (.head _))))).trans,L.cell.imp fun o g=>⟨(e _ (l1 (l1 (l1 (l1 (.head _)))))).trans g.1,g.2⟩,
  let ⟨q,doc,pm,ctv,hr,cr⟩:=L.rd
  ⟨q,doc,pm,ctv,(e _ (l1 (l1 (l1 (l1 (l1 (.head _))))))).trans hr,cr_keep cr fun o g _=>ec.trans g⟩,L.sm.imp fun _ g=>(e _ (l1 (l1 (l1 (l1 (l1 (l1 (.head _)))))))).trans g,L.sd.imp fun _ g=>g.imp fun _ g=>(e _ (l1 (l1 (l1 (l1 (l1 (l1 (l1 (.head _))))))))).trans g⟩
end
structure LxR (k:LK) (Z:Addr→Prop) (mu:List (List Addr)) (h:Heap) (f:Fp) (left:T) (n:Int) (push:List V) (l:List Value) (j:Nat):Prop where
 L:LexC k h f left n
 ne:f.p ≠ f.ls
 zc:Z f.cc
 len:push.length ≤ 16777216
 g:h.get? f.p = some (listO l j)
 rs:VRs Z mu h push l
inductive lexR (k:LK) (Z:Addr→Prop) (mu:List (List Addr)) (h:Heap):List Addr→T→Int→List V→Prop
 | mk {f:Fp} {left:T} {n:Int} {push:List V} {l:List Value} {j:Nat}:LxR k Z mu h f left n push l j→lexR k Z mu h f.list left n push
noncomputable def lexTB (k:LK) (tb:Addr) (lq:Str) (Z:Addr→Prop) (h:Heap):Prop:=∃ pre,Tab k tb lq h pre ∧ ∀ c c',pre = some (c,c')→Z c ∧ Z c'
theorem Fp.mp (f:Fp):f.p ∈ f.list:=.tail _ (.tail _ (.head _))
theorem Fp.md (f:Fp):f.d ∈ f.list:=.tail _ (.head _)
theorem Fp.ml (f:Fp):f.ls ∈ f.list:=.tail _ (.tail _ (.tail _ (.head _)))
noncomputable def lexI (k:LK) (tb:Addr) (lq:Str):LexI where
 R:=lexR k
 mono:=fun hZ hmu hh r=>by
  cases r with | @mk f left n p l j X=>exact .mk ⟨X.L.same (fun b hb=>hh b (.inr hb)) (hh _ (.inl X.zc)),X.ne,hZ _ X.zc,X.len,(hh _ (.inr f.mp)).trans X.g,X.rs.mono hZ hmu fun b z=>hh b (.inl z)⟩
 alive:=fun r=>by
  cases r with | mk X =>
   obtain ⟨L,_,_,_,g,_⟩:=X
   obtain ⟨u,uv,tn,j,hd⟩:=L.dict
   obtain ⟨oc,gc,dc⟩:=L.cell
   obtain ⟨q,doc,pm,ctv,hr,_⟩:=L.rd
   obtain ⟨fd,hm⟩:=L.sm
   obtain ⟨hs,ts,hsd⟩:=L.sd
   obtain ⟨t,j,hl⟩:=L.left
   exact Fp.all (P:=fun b=>∃ o,_ = some o) ⟨_,L.inst⟩ ⟨_,hd⟩ ⟨_,g⟩ ⟨_,hl⟩ ⟨_,gc⟩ ⟨_,hr⟩ ⟨_,hm⟩ ⟨_,hsd⟩
 tb:=tb
 TB:=lexTB k tb lq
 tmono:=by
  rintro Z Z' h h' hZ hh ⟨pre,T,hz⟩
  refine ⟨pre,?_,fun c c' e=>⟨hZ _ (hz c c' e).1,hZ _ (hz c c' e).2⟩⟩
  cases pre with
  | none=>exact (hh _ (.inr rfl)).trans T
  | some p=>exact ⟨(hh _ (.inr rfl)).trans T.1,cr_keep T.2 fun o g _=>(hh _ (.inl (hz _ _ rfl).1)).trans g⟩
 talive:=fun ⟨pre,T,hz⟩=>T.al
section
variable {I:LexI} {B:Addr→Option Obj} {os:OsState} {R R':RS} {st st':St} {s s':Shared}
theorem Rel.lexput (r:Rel I B os R st s) {h':Heap} {tk:Nat} {n:Nat} {f:List Addr} {l l':T} {c c':Int} {p p':List V} (hm:st.mu[n]? = some (.lex l c p)) (hf:R.mu[n]? = some f) (hk:∀ b o,b ∉ f→s.heap.get? b = some o→h'.get? b = some o)
  (hR:I.R R.Z R.mu h' f l' c' p'):Rel I B os R { st with mu:=st.mu.set n (.lex l' c' p') } { s with heap:=h',toks:=tk } ∧ Step R s R { s with heap:=h',toks:=tk }:=r.putmo (o':=.lex l' c' p') hm trivial hf hk hR (I.alive hR)
theorem Rel.newlex (r:Rel I B os R st s) {h':Heap} {tk:Nat} {f:List Addr} {x:T} {Z':Addr→Prop} (hk:∀ b o,b ≠ I.tb→s.heap.get? b = some o→h'.get? b = some o) (hf:∀ b ∈ f,s.heap.get? b = none)
  (hZ:∀ b,R.Z b→Z' b) (hZn:∀ b,Z' b→R.Z b ∨ (s.heap.get? b = none ∧ b ∉ f)) (hZa:∀ b,Z' b→∃ o,h'.get? b = some o) (hT:I.TB Z' h') (hR:I.R Z' (R.mu ++ [f]) h' f x 1 []) :
  Rel I B os { R with mu:=R.mu ++ [f],Z:=Z' } { st with mu:=st.mu ++ [.lex x 1 []] } { s with heap:=h',toks:=tk } ∧ Step R s { R with mu:=R.mu ++ [f],Z:=Z' } { s with heap:=h',toks:=tk } ∧ (R.mu ++ [f])[st.mu.length]? = some f :=
 (r.newmo (o':=.lex x 1 []) hk hf hZ hZn hZa hT hR (I.alive hR)).elim fun a b=>⟨a,b,snoc_last _ _ r.mulen⟩
end
theorem LxF.len {Lx:T→Int→T→T × T × Int} {stop:Nat→Bool} (H:LxF Lx stop) (m:Nat):∀ (x:T) (n:Int) (acc:T),x.length ≤ m→(Lx x n acc).1.length ≤ acc.length + x.length:=by
 induction m with
 | zero =>
  intro x n acc h
  cases List.length_eq_zero_iff.mp (Nat.le_zero.mp h)
  rw [H.nil];exact Nat.le_add_right _ _
 | succ m ih =>
  intro x n acc h
  cases x with
  | nil=>rw [H.nil];exact Nat.le_add_right _ _
  | cons c r =>
   have h:r.length ≤ m:=Nat.le_of_succ_le_succ h
   cases e:stop c with
   | true=>rw [H.fin e];exact Nat.le_add_right _ _
   | false =>
    by_cases h2:c = 92
    ·subst h2;rw [H.esc]
     refine Nat.le_trans (ih _ _ _ (by simp only [List.length_drop];exact Nat.le_trans (Nat.sub_le _ _) (Nat.le_of_succ_le_succ h))) ?_
     simp only [List.length_append,List.length_take,List.length_drop,List.length_cons,Nat.add_assoc,min_1];exact Nat.add_le_add_left (Nat.le_succ _) _
    ·rw [H.cons e h2]
     refine Nat.le_trans (ih _ _ _ h) ?_
     rw [List.length_append,List.length_singleton,List.length_cons];lia
theorem lex0_len (x:T):∀ n:Int,(lex0 x n).1.length ≤ x.length:=by
 induction x with
 | nil=>intro n;exact Nat.le_refl _
 | cons c r ih =>
  intro n
  have hB:=fun x n acc=>lxB.len _ x n acc (Nat.le_refl _)
  by_cases h1:isWs c = true
  ·rw [lex0_ws h1];exact Nat.le_succ_of_le (ih _)
  by_cases h3:c = 34
  ·subst h3;rw [lex0_q];exact Nat.le_succ_of_le (Nat.le_trans (lxQ.len _ r _ _ (Nat.le_refl _)) (by simp only [List.length_nil,Nat.zero_add];exact Nat.le_refl _))
  by_cases h2:c = 92
  ·subst h2;simp only [lex0_esc]
   refine Nat.le_trans (hB _ _ _) ?_
   simp only [List.length_take,List.length_drop,List.length_cons,min_1];exact Nat.le_succ _
  ·simp only [lex0_cons (by rw [← Bool.not_eq_true];exact h1) h3 h2];exact Nat.le_trans (hB r _ _) (by rw [List.length_singleton,List.length_cons];lia)
section
variable {k:LK} {h h':Heap} {f:Fp} {x y:T} {n m:Int} {l:List Value} {j:Nat}
theorem LexC.npd (L:LexC k h f x n) (hp:h.get? f.p = some (listO l j)):f.d ≠ f.p:=by
 obtain ⟨u,uv,tn,i,gd⟩:=L.dict
 exact tag_ne gd hp (i:=14) (j:=1) rfl rfl (by decide)
theorem LexC.keepP (L:LexC k h f x n) (hp:h.get? f.p = some (listO l j)) (ne:f.p ≠ f.ls) (hk:∀ b o,b ≠ f.p→h.get? b = some o→h'.get? b = some o):LexC k h' f x n :=
 L.map (fun _ e hi _ n1=>hk _ _ (tag_ne e hp hi rfl n1) e) (L.dict.keep fun _=>hk _ _ (L.npd hp)) (left_keep L.left fun _=>hk _ _ ne.symm)
end
section
variable {prog:Program} {w:World} {A:Around} {E:Value→Shared→Prop} {env:Env} {k:LK} {B:Addr→Option Obj} {mg mb:Str→Option Value} {fL cL tb:Addr} {lq:Str} {os:OsState} {R R':RS} {st st':St} {s s':Shared}
theorem baseIn_of {I:LexI} (r:Rel I B os R st s):BaseIn B s.heap:=fun b o e=>(r.base b o e).2
theorem notB_of {I:LexI} (r:Rel I B os R st s) {b:Addr} (h:¬ R.Z b):B b = none:=by
 cases q:B b with
 | none=>rfl
 | some o=>exact (h (r.base b o q).1).elim
set_option tactic.hygienic true in
@[elab_as_elim] theorem tok_el {P:V→St→Prop} {n:Nat} {v:V} (ht:st.tok n = some (v,st')) (a:∀ {left line v l},st.mu[n]? = some (.lex left line (v :: l))→P v { st with mu:=st.mu.set n (.lex left line l) })
  (b:∀ {left line},st.mu[n]? = some (.lex left line [])→left.length ≤ 10000→P (.str (lex0 left line).1) { st with mu:=st.mu.set n (.lex (lex0 left line).2.1 (lex0 left line).2.2 []) }):P v st':=by
 unfold St.tok at ht
 split at ht
 ·rename_i h;cases ht;exact a h
 ·rename_i h
  split at ht
  ·rename_i hx;cases ht;exact b h hx
  ·exact nso ht
 ·exact nso ht
set_option tactic.hygienic true in
theorem line_el {n:Nat} {j:Int} (ht:st.line n = some j):∃ left l,st.mu[n]? = some (.lex left j l):=by
 unfold St.line at ht
 split at ht
 ·rename_i h;obtain rfl:=Option.some.inj ht;exact ⟨_,_,h⟩
 ·exact nso ht
set_option tactic.hygienic true in
@[elab_as_elim] theorem push_el {n:Nat} {v:V} {P:St→Prop} (ht:st.push n v = some st') (a:∀ {left line l},st.mu[n]? = some (.lex left line l)→l.length ≤ 1000000→P { st with mu:=st.mu.set n (.lex left line (l ++ [v])) }):P st':=by
 unfold St.push at ht
 split at ht
 ·rename_i h
  split at ht
  ·rename_i hx;obtain rfl:=Option.some.inj ht;exact a h hx
  ·exact nso ht
 ·exact nso ht
@[elab_as_elim] theorem lex_at {P:Addr→Prop} {n:Nat} {a:Addr} {f:List Addr} {left:T} {line:Int} {l:List V} (r:Rel (lexI k tb lq) B os R st s) (hf:R.mu[n]? = some (a :: f)) (hm:st.mu[n]? = some (.lex left line l))
  (c:∀ {fp:Fp} {ll:List Value} {j:Nat},R.mu[n]? = some fp.list→(∀ b ∈ fp.list,¬ R.Z b)→LxR k R.Z R.mu s.heap fp left line l ll j→P fp.a):P a:=by
 have M:lexR k R.Z R.mu s.heap (a :: f) left line l:=r.mu_at hm hf
 generalize e:a :: f = g at M
 cases M with | mk X =>
 cases e
 exact c hf (fun b hb=>(r.fp n _ b _ hm trivial hf hb).1) X
theorem LxR.put {fp:Fp} {n:Nat} {left:T} {line:Int} {l l':List V} {ll ll':List Value} {j j' tk:Nat} {h':Heap} (X:LxR k R.Z R.mu s.heap fp left line l ll j) (r:Rel (lexI k tb lq) B os R st s) (hf:R.mu[n]? = some fp.list) (hm:st.mu[n]? = some (.lex left line l)) (nz:∀ b ∈ fp.list,¬ R.Z b)
  (g':h'.get? fp.p = some (listO ll' j')) (hk:∀ b o,b ≠ fp.p→s.heap.get? b = some o→h'.get? b = some o) (len:l'.length ≤ 16777216) (rs:VRs R.Z R.mu s.heap l' ll') :
  Rel (lexI k tb lq) B os R { st with mu:=st.mu.set n (.lex left line l') } { s with heap:=h',toks:=tk } ∧ Step R s R { s with heap:=h',toks:=tk } :=
 r.lexput hm hf (fun b o q=>hk b o fun z=>q (z ▸ fp.mp)) (.mk ⟨X.L.keepP X.g X.ne hk,X.ne,X.zc,len,g',rs.mono (fun _ z=>z) (fun _ _ z=>z) fun b z=>same_of (fun o=>hk b o fun q=>nz _ fp.mp (q ▸ z)) (r.zal b (.inl z))⟩)
theorem lex_tok {lev:Nat} (hlev:3 ≤ lev) (W:LW3 k B mg mb fL cL tb lq) {x:Str} {xp ap pos:Pos} {n:Nat} {a:Addr} {f:List Addr} {v:V} {Q:Value→Shared→Prop} (ga:GA lev A) (hl:(ap.endLine == pos.line) = true)
  (r:Rel (lexI k tb lq) B os R st s) (hf:R.mu[n]? = some (a :: f)) (ht:st.tok n = some (v,st')) (h:PostV (lexI k tb lq) B os R s st' v Q) :
  wpAny (model prog w) A (methodCall (.Name x xp) "get_token" ap pos env (.ref a) 0 [] []) Q E s:=by
 have hd:=ga.2.1
 have hB:=baseIn_of r
 have main:∀ {fp:Fp} {left:T} {line:Int},LexC k s.heap fp left line→codeAny (model prog w) A (.call (.ref k.fG) ⟨[.ref fp.a],[]⟩) (Ret Q) s→wpAny (model prog w) A (methodCall (.Name x xp) "get_token" ap pos env (.ref fp.a) 0 [] []) Q E s:=fun L H=>by
  refine Classical.byContradiction fun hcon=>?_
  obtain ⟨u,uv,tn',jd,hdd⟩:=L.dict
  refine (W.ok.fg.obj).elim fun o k0=>k0.elim fun fd k1=>k1.elim fun hK hdata=>?_
  refine hcon ?_
  exact mc hl rfl fun pl=>method_fn (W.kin _ hB) (L.instAt hdd) W.ok.ga W.ok.gattr W.ok.get W.ok.fg.type rfl (cw0 (o:=o) (fd:=fd) (W.kin _ hB _ _ hK) hdata (wpAny_call (Ret.to H)))
 revert h
 refine tok_el ht (fun hm h=>lex_at r hf hm fun hf nz X=>main X.L ?_) fun hm hx h=>lex_at r hf hm fun hf nz X=>main X.L ?_
 ·refine Classical.byContradiction fun hcon=>?_
  obtain ⟨L,ne,zc,len,g,rs⟩:=id X
  refine hcon ?_
  cases rs with | cons r1 rr =>
  refine getp_ok W.toLW hB L g (by simp only [List.length_cons,rr.length];exact len) (by exact Nat.lt_of_le_of_lt (Nat.le_add_right _ _) (by assumption)) fun h' tk j' g' hk=>?_
  have K:=X.put (tk:=tk) r hf hm nz g' hk (Nat.le_of_succ_le len) rr
  exact h R _ _ K.2 K.1 (K.2.vr r1)
 ·refine Classical.byContradiction fun hcon=>?_
  obtain ⟨L,ne,zc,len,g,rs⟩:=X
  cases rs
  refine hcon ?_
  refine get_ok W.toLW2 hB ⟨notB_of r (nz _ (Fp.md _)),notB_of r (nz _ (Fp.ml _))⟩ L g ne hx ga.1 (by lia) rfl fun h' tk t L' K'=>?_
  have K:=r.lexput (tk:=tk) (p':=[]) hm hf (fun b o q=>K' b o (fun z=>q (z ▸ Fp.md _)) fun z=>q (z ▸ Fp.ml _)) (.mk ⟨L',ne,zc,Nat.zero_le _,K' _ _ (L.npd g).symm ne g,.nil⟩)
  exact h R _ _ K.2 K.1 (.str (Nat.le_trans (lex0_len _ _) (Nat.le_trans hx (by decide))))
theorem lex_line (W:LW3 k B mg mb fL cL tb lq) {n:Nat} {a:Addr} {f:List Addr} {j:Int} {Q:Value→Shared→Prop} (r:Rel (lexI k tb lq) B os R st s) (hf:R.mu[n]? = some (a :: f)) (ht:st.line n = some j) (h:PostV (lexI k tb lq) B os R s st (.int j) Q) :
  wpAny (model prog w) A (getAttr (.ref a) "lineno" true) Q E s:=by
 refine Classical.byContradiction fun hcon=>?_
 refine (line_el ht).elim fun left k0=>k0.elim fun l hm=>?_
 refine hcon ?_
 refine lex_at r hf hm fun hf nz X=>?_
 refine Classical.byContradiction fun hcon=>?_
 obtain ⟨u,uv,tn',jd,hdd⟩:=X.L.dict
 refine hcon ?_
 exact X.L.get W.ok (W.kin _ (baseIn_of r)) hdd W.ok.o1 look1 rfl fun tk=>h R _ _ r.toks.2 r.toks.1 .int
theorem lex_push {lev:Nat} (hlev:1 ≤ lev) (W:LW3 k B mg mb fL cL tb lq) {x:Str} {xp ap pos:Pos} {arg:Sem Value} {n:Nat} {a:Addr} {f:List Addr} {Q:Value→Shared→Prop} (ga:GA lev A) (hl:(ap.endLine == pos.line) = true)
  (r:Rel (lexI k tb lq) B os R st s) (hf:R.mu[n]? = some (a :: f)) (hm:∃ left line l,st.mu[n]? = some (.lex left line l))
  (h:wpAny (model prog w) A arg (fun v s₁=>∃ R₁ st₁ st₂ pv,Step R s R₁ s₁ ∧ Rel (lexI k tb lq) B os R₁ st₁ s₁ ∧ VR R₁.Z R₁.mu s₁.heap pv v ∧ st₁.push n pv = some st₂ ∧
   ∀ R' s',Step R₁ s₁ R' s'→Rel (lexI k tb lq) B os R' st₂ s'→Q .none s') E s) :
  wpAny (model prog w) A (methodCall (.Name x xp) "push_token" ap pos env (.ref a) 1 [(false,arg)] []) Q E s:=by
 refine Classical.byContradiction fun hcon=>?_
 refine (hm).elim fun left k0=>k0.elim fun line k1=>k1.elim fun l hm=>?_
 have hB:=baseIn_of r
 refine (W.ok.fp.obj).elim fun o k0=>k0.elim fun fd k1=>k1.elim fun hK hdata=>?_
 have hi:∃ fp:Fp,fp.a = a ∧ LexC k s.heap fp left line:=lex_at r hf hm fun _ _ X=>⟨_,rfl,X.L⟩
 obtain ⟨fp,rfl,L⟩:=hi
 obtain ⟨u,uv,tn',jd,hdd⟩:=L.dict
 refine hcon ?_
 refine mc hl rfl fun pl=>method_fn (W.kin _ hB) (L.instAt hdd) W.ok.ga W.ok.gattr W.ok.psh W.ok.fp.type rfl (cw1 (o:=o) (fd:=fd) (t:=arg) (wpAny_mono h (fun v s₁ hv=>?_) fun _ _ z=>z))
 refine Classical.byContradiction fun hcon=>?_
 refine (hv).elim fun R₁ k0=>k0.elim fun st₁ k1=>k1.elim fun st₂ k2=>k2.elim fun pv k3=>k3.elim fun a₁ k4=>k4.elim fun r₁ k5=>k5.elim fun v₁ k6=>k6.elim fun hp hQ=>?_
 refine hcon ?_
 have hB₁:=baseIn_of r₁
 refine ⟨⟨W.kin _ hB₁ _ _ hK,hdata⟩,wpAny_call (Ret.to ?_)⟩
 have hd:=ga.2.1
 revert hQ
 refine push_el hp fun hm' hlen hQ=>lex_at r₁ (a₁.mu _ _ hf) hm' fun {fp2 ll2 j2} hf nz X=>?_
 refine push_ok W.toLW hB₁ X.L X.g (by simp only [X.rs.length];exact hlen) (by exact Nat.lt_of_le_of_lt (Nat.le_add_right _ _) (by assumption)) fun h' tk j' g' hk=>?_
 have K:=X.put (tk:=tk) r₁ hf hm' nz g' hk (by simp only [List.length_append,List.length_singleton];exact Nat.lt_of_le_of_lt (by assumption) (by decide)) (X.rs.append (.cons v₁ .nil))
 exact hQ R₁ _ K.2 K.1
theorem lex_new {lev:Nat} (hlev:2 ≤ lev) (W:LW3 k B mg mb fL cL tb lq) {x:T} {t:Tok} {Q:Value→Shared→Prop} (ga:GA lev A) (r:Rel (lexI k tb lq) B os R st s)
  (h:PostV (lexI k tb lq) B os R s { st with mu:=st.mu ++ [.lex x 1 []] } (.mref st.mu.length) Q):wpAny (model prog w) A (call (.ref fL) [.str (strOf x) t]) Q E s:=by
 have hd:=ga.2.1
 refine Classical.byContradiction fun hcon=>?_
 refine (r.tab).elim fun pre k0=>k0.elim fun T hz=>?_
 refine hcon ?_
 refine lexer_ok W (baseIn_of r) T (by lia) fun h' tk f N=>?_
 refine Classical.byContradiction fun hcon=>?_
 refine (N.tab).elim fun cl k0=>k0.elim fun T' hpre=>?_
 refine hcon ?_
 have old:∀ {b},R.Z b→∃ o,h'.get? b = some o:=fun {b} z=>(r.zal b (.inl z)).imp fun o=>N.keep _ _ fun q=>r.tbf.1 (q ▸ z)
 have key:(∀ b,(b = f.cc ∨ b = cl)→R.Z b ∨ (s.heap.get? b = none ∧ b ∉ f.list)) ∧ ∃ o,h'.get? cl = some o:=by
  cases hpre with
  | inl e =>
   have z:=hz _ _ e
   exact ⟨fun b hb=>.inl (hb.elim (fun e=>e ▸ z.1) fun e=>e ▸ z.2),old z.2⟩
  | inr e=>exact ⟨fun b hb=>.inr (hb.elim (fun q=>q ▸ ⟨e.2.1,e.2.2.2.2.1⟩) fun q=>q ▸ ⟨e.2.2.1,e.2.2.2.2.2⟩),e.2.2.2.1⟩
 have K:=r.newlex (tk:=tk) (f:=f.list) (x:=x) (h':=h') (Z':=fun b=>R.Z b ∨ b = f.cc ∨ b = cl) N.keep N.new (fun _ z=>.inl z) (fun b z=>z.elim .inl (key.1 b))
  (fun b z=>z.elim old fun z=>z.elim (fun e=>e ▸ cr_al T'.2) fun e=>e ▸ key.2) ⟨some (f.cc,cl),T',fun c c' e=>by cases e;exact ⟨.inr (.inl rfl),.inr (.inr rfl)⟩⟩ (.mk ⟨N.lex,N.ne,.inr (.inl rfl),Nat.zero_le _,N.push,.nil⟩)
 exact h _ _ _ K.2.1 K.1 (.mref K.2.2)
end
end Mine
namespace Mine
open PySem PySem.Spec PySem.Calls PyProof.Rows
section
variable {M:Model} {A:Around} {R:GenEnd} {Y:Protocol} {n:Nat} {s₀:Shared} {c:Code} {fs:List Frame} {s:Shared} {env:Env}
 {K:Flow→Sem Fin} {H:Value→Sem Fin} {gd:Bool→Bool} {lv:List Value→List Value}
theorem seg_stmt {st:Stmt} (h:wpAny M (A.over c fs) (exec st env) (fun f s'=>Seg M A R Y n s₀ c (K f) fs s') (fun _ _=>False) s):Seg M A R Y n s₀ c ((exec st env).wrap K H gd lv) fs s :=
 seg_wrap (wpAny_mono h (fun _ _ z=>z) fun _ _ z=>z.elim)
theorem seg_If {test:Expr} {body orelse:List Stmt} {pos:Pos}
  (h:wpAny M (A.over c fs) (isTrue test env (eval test env)) (fun b s'=>if b = true then Seg M A R Y n s₀ c ((execs body env).wrap K H gd lv) fs s' else Seg M A R Y n s₀ c ((execs orelse env).wrap K H gd lv) fs s') (fun _ _=>False) s) :
  Seg M A R Y n s₀ c ((exec (.If test body orelse pos) env).wrap K H gd lv) fs s:=by
 simp only [exec_If]
 refine seg_bind_wrap (wpAny_standAt ?_)
 refine seg_bind_wrap (wpAny_mono h (fun b s' hb=>?_) fun _ _ z=>z.elim)
 cases b with
 | true=>exact hb
 | false=>exact hb
theorem seg_For {target iter:Expr} {body orelse:List Stmt} {pos:Pos}
  (h:wpAny M (A.over c fs) (eval iter env) (fun x s₁=>wpAny M (A.over c fs) (pyIter x) (fun it s₂ =>
   ∀ p k,(∀ f,k (.ok f) = K f)→Seg M A R Y n s₀ (.forLoop target it body orelse env) (M.den (.forLoop target it body orelse env)) (.ret k none (gd false) (lv []) c p [] :: fs) s₂) (fun _ _=>False) s₁) (fun _ _=>False) s)
  (hs:∀ x,foldedSetIterable iter env x = pure x:=by intro _;rfl) :
  Seg M A R Y n s₀ c ((exec (.For target iter body orelse pos) env).wrap K H gd lv) fs s:=by
 simp only [exec_For]
 refine seg_bind_wrap (wpAny_standAt ?_)
 refine seg_bind_wrap (wpAny_mono h (fun x s₁ h₁=>?_) fun _ _ z=>z.elim)
 refine seg_bind_wrap (wpAny_of_eq (hs x) ?_)
 refine seg_bind_wrap (wpAny_standAt ?_)
 refine seg_bind_wrap (wpAny_holding (wpAny_mono h₁ (fun it s₂ h₂=>?_) fun _ _ z=>z.elim))
 exact seg_call fun p=>h₂ p _ fun f=>rfl
end
section
variable {prog:Program} {w:World} {A:Around} {R:GenEnd} {Y:Protocol} {n:Nat} {s₀:Shared} {fs:List Frame} {s:Shared} {env:Env} {E:Value→Shared→Prop}
theorem seg_forTurn {tg:Expr} {it:Value} {body:List Stmt}
  (h:wpAny (model prog w) (A.over (.forLoop tg it body [] env) fs) (pyNext it) (fun r s₁=>match r with
   | none=>Seg (model prog w) A R Y n s₀ (.block [] env) (.pure (.done .next)) fs s₁
   | some v=>wpAny (model prog w) (A.over (.forLoop tg it body [] env) fs) (letOwnedTupleGo tg it v) (fun _ s₂=>wpAny (model prog w) (A.over (.forLoop tg it body [] env) fs) (assign tg env v) (fun _ s₃ =>
     ∀ H':Value→Sem Fin,Seg (model prog w) A R Y n s₀ (.forLoop tg it body [] env) ((execs body env).wrap (fun f=>match f with
      | .next | .cont=>.pure (.again (.forLoop tg it body [] env))
      | .brk=>.pure (.done .next)
      | .ret v=>.pure (.done (.ret v))) H' id id) fs s₃) (fun _ _=>False) s₂) (fun _ _=>False) s₁) (fun _ _=>False) s) :
  Seg (model prog w) A R Y n s₀ (.forLoop tg it body [] env) ((model prog w).den (.forLoop tg it body [] env)) fs s:=by
 show Seg _ A R Y n s₀ _ ((forTurn tg it body [] env).onRaise (fun x=>do noteFrame x env;theTreesLotGoes x)) fs s
 unfold forTurn
 rw [Sem.onRaise_eq_wrap]
 refine seg_bind_wrap (wpAny_standAt ?_)
 refine seg_bind_wrap (wpAny_onRaise (wpAny_mono h (fun r s₁ h₁=>?_) fun _ _ z=>z.elim))
 cases r with
 | none =>
  refine seg_again rfl ?_
  exact h₁
 | some v =>
  refine seg_bind_wrap (wpAny_mono h₁ (fun _ s₂ h₂=>?_) fun _ _ z=>z.elim)
  refine seg_bind_wrap (wpAny_mono h₂ (fun _ s₃ h₃=>?_) fun _ _ z=>z.elim)
  rw [Sem.bind_eq_wrap',Sem.wrap_wrap]
  rw [Sem.wrap_congr (execs body env) _ _ (K':=fun f=>match f with
      | .next | .cont=>.pure (.again (.forLoop tg it body [] env))
      | .brk=>.pure (.done .next)
      | .ret v=>.pure (.done (.ret v))) (fun f=>by cases f <;> rfl) (fun e=>rfl)]
  exact h₃ _
theorem pyNext_genQ {a:Addr} {g n:Nat} {gs:GenState} {P:Nat→Shared→Shared→Prop} {Y:Protocol} {Q:Option Value→Shared→Prop} (hh:A.handled = none)
  (hl:s.heap.NoLimit) (hroom:A.depth < recursionLimit) (hg:s.heap.IsGen a g) (hgs:s.gens[g]? = some gs)
  (hgo:gs.Goes (model prog w) A.in1 (fun n s₀ r s₁=>r = .ok (.ret .none) ∧ P n s₀ s₁) Y n (.send .none) (s.setGen g .running))
  (hY:∀ v s₁ gs',gs'.bare = true→Y (n - 1) (s.setGen g .running) v s₁ (fun r' s''=>match n with
    | 0=>False
    | m + 1=>gs'.Goes (model prog w) A.in1 (fun n s₀ r s₁=>r = .ok (.ret .none) ∧ P n s₀ s₁) Y m r' s'')→Q (some v) (s₁.setGen g gs'))
  (hP:∀ s₁,P n (s.setGen g .running) s₁→∀ h',(∀ b o,s₁.heap.get? b = some o→h'.get? b = some o)→Q none { s₁.setGen g .finished with heap:=h' }) :
  wpAny (model prog w) A (pyNext (.ref a)) Q E s:=by
 unfold pyNext
 refine wpAny_bind (wpAny_attempt (wpAny_callSpecial?_slot (name:=Str.ofString "__next__") hg.typeIs slot_gen_next
  (wpAny_call_entry slot_gen_next hg.typeIs entry_gen_next ?_ (args_gen_next _))))
 show wpAny _ _ (Builtin.Generator.genWake (.ref a) (.send .none)) _ _ s
 unfold Builtin.Generator.genWake
 refine wpAny_bind (wpAny_holding (wpAny_genNumber hg (wpAny_bind (wpAny_genState hgs ?_))))
 cases gs with
 | running=>exact hgo.elim
 | finished=>exact hgo.elim
 | _ =>
  refine wpAny_bind (wpAny_roomToWake hl hroom ?_)
  refine wpAny_resumeQ hgs hgo (fun x s₁ hx=>?_) (fun v s₁ gs' hb hv=>?_)
  ·obtain ⟨rfl,hp⟩:=hx
   show wpAny _ _ (newExc (.type "StopIteration") [] >>= _) _ _ _
   refine wpAny_bind ?_
   dsimp only [newExc,newTuple]
   refine wpAny_bind (wpAny_newObj_type ?_ (by size_fits))
   refine wpAny_bind (m:=firstArgMember _ _) (wpAny_of_eq (a:=Value.none) (by first | rfl | (dsimp only [firstArgMember];rfl)) ?_)
   refine wpAny_newObj_type ?_ (by size_fits)
   dsimp only [raiseNew]
   refine wpAny_bind (wpAny_bind (wpAny_handled ?_))
   rw [show A.in1.handled = none from hh]
   refine wpAny_throw ?_
   refine wpAny_bind (wpAny_isInstance (T:="StopIteration") (b:=true) ⟨_,Heap.get?_push_size _ rfl,rfl⟩ isSubtype_stop ?_)
   exact wpAny_pure (hP s₁ hp _ fun b o hb=>Heap.get?_push_of_some _ (Heap.get?_push_of_some _ hb))
  ·exact wpAny_pure ⟨v,rfl,wpAny_pure (hY v s₁ gs' hb hv)⟩
end
noncomputable def gSince (D:List Addr) (s₀ s:Shared):Prop:=∃ h' tk,s = { s₀ with heap:=h',toks:=tk } ∧ ∀ b o,b ∉ D→s₀.heap.get? b = some o→h'.get? b = some o
theorem gSince.refl (D:List Addr) (s:Shared):gSince D s s:=⟨s.heap,s.toks,rfl,fun _ _ _ e=>e⟩
theorem gSince.step {D:List Addr} {s₀ s:Shared} (x:gSince D s₀ s) {h':Heap} {tk:Nat} (hk:∀ b o,b ∉ D→s.heap.get? b = some o→h'.get? b = some o):gSince D s₀ { s with heap:=h',toks:=tk }:=by
 obtain ⟨h₁,tk₁,rfl,hk₁⟩:=x
 exact ⟨h',tk,rfl,fun b o hb e=>hk b o hb (hk₁ b o hb e)⟩
noncomputable def gP (D:List Addr) (l:List V):Protocol:=fun m s₀ v s kap =>
 (∃ T p z t1 t2,v = .ref T ∧ s.heap.get? T = some (tupO [.int p t1,.str (strOf z) t2] 0) ∧ s₀.heap.get? T = none ∧ T ∉ D ∧ z.length ≤ 2 ∧ l[l.length - 1 - m]? = some (.tup [.int p,.str z])) ∧
  gSince D s₀ s ∧ (∀ b ∈ D,∃ o,s.heap.get? b = some o) ∧ ∀ s'':Shared,(∀ b ∈ D,∀ o,s.heap.get? b = some o→s''.heap.get? b = some o)→kap (.send .none) s''
noncomputable def gR (D:List Addr):GenEnd:=fun n s₀ r s₁=>r = .ok (.ret .none) ∧ (n = 0 ∧ gSince D s₀ s₁)
structure GG (L e it:Addr) (x:T) (t:Tok) (h:Heap) (i:Nat) (esc:Bool) (p:Int):Prop where
 ns:∃ m t',h.Ns L m ∧ m "escape" = some (.bool esc) ∧ m "pos" = some (.int p t')
 en:∃ old,IsEnum h e it i old
 si:h.IsStrIter it (strIterType (strOf x)) (strOf x) t i
theorem GG.alive {L e it:Addr} {x:T} {t:Tok} {h:Heap} {i:Nat} {esc:Bool} {p:Int} (G:GG L e it x t h i esc p):∀ b ∈ [L,e,it],∃ o,h.get? b = some o:=by
 intro b hb
 refine Classical.byContradiction fun hcon=>?_
 obtain ⟨m,t',⟨o,_,_,g,_⟩,_⟩:=G.ns
 obtain ⟨old,ge⟩:=G.en
 obtain ⟨oi,gi,_⟩:=G.si
 refine hcon ?_
 simp only [List.mem_cons,List.not_mem_nil,or_false] at hb
 rcases hb with rfl | rfl | rfl
 ·exact ⟨_,g⟩
 ·exact ⟨_,ge⟩
 ·exact ⟨_,gi⟩
theorem GG.keep {L e it:Addr} {x:T} {t:Tok} {h h':Heap} {i:Nat} {esc:Bool} {p:Int} (G:GG L e it x t h i esc p) (hk:∀ b ∈ [L,e,it],∀ o,h.get? b = some o→h'.get? b = some o):GG L e it x t h' i esc p:=by
 refine Classical.byContradiction fun hcon=>?_
 obtain ⟨m,t',⟨o,es,ep,g,r⟩,hm⟩:=G.ns
 refine (G.en).elim fun old ge=>?_
 refine (G.si).elim fun oi k0=>k0.elim fun gi ri=>?_
 refine hcon ?_
 exact ⟨⟨m,t',⟨o,es,ep,hk _ (by simp) _ g,r⟩,hm⟩,⟨old,hk _ (by simp) _ ge⟩,⟨oi,hk _ (by simp) _ gi,ri⟩⟩
section
variable {prog:Program} {w:World} {A:Around} {s₀ s:Shared} {env:Env} {L e it:Addr} {x:T} {t:Tok}
theorem walk_str (hh:A.handled = none) (e it:Addr) (hne:e ≠ it) (x:T) (t:Tok):WalksT prog w A e [e,it] [e,it] x.length (fun i vals=>∃ tk y,(∃ c u,(strOf x).cps[i]? = some c ∧ y = .str ⟨#[c]⟩ u) ∧ vals = #[.int i tk,y])
  (fun i h=>(∃ old,IsEnum h e it i old) ∧ h.IsStrIter it (strIterType (strOf x)) (strOf x) t i) (fun i T h=>(∃ x,IsEnumOut h e it ((i:Int) + 1) x T) ∧ h.IsStrIter it (strIterType (strOf x)) (strOf x) t (i + 1) ∧ T ≠ e ∧ T ≠ it):=by
 have hs:(strOf x).cps.size = x.length:=by simp [strOf]
 by_cases q:(strOf x).cps.all (· < 128) = true
 ·have et:strIterType (strOf x) = "str_ascii_iterator":=by unfold strIterType;rw [if_pos q]
  rw [et,← hs]
  exact WalksT.enumerateD (Draws.strAscii (A:=A.in1) hh it (strOf x) t) e hne (by simpa using hne) (by simp)
 ·have et:strIterType (strOf x) = "str_iterator":=by unfold strIterType;rw [if_neg q]
  rw [et,← hs]
  exact WalksT.enumerateD (Draws.strWide (A:=A.in1) hh it (strOf x) t) e hne (by simpa using hne) (by simp)
theorem gg_yieldP {D:List Addr} {I:Heap→Prop} {e1:Expr} {p1 p2:Pos} {l pre rest:List V} {q:Int} {z:T} {c:Code} {fs:List Frame} {K:Flow→Sem Fin} {H:Value→Sem Fin} (ev:EnvIs env L escScope) (hfs:splitAtGen fs = none) (hfg:fs.any Frame.guarded = false)
  (hal:∀ h,I h→∀ b ∈ D,∃ o,h.get? b = some o) (hk:∀ h h',I h→(∀ b ∈ D,∀ o,h.get? b = some o→h'.get? b = some o)→I h')
  (G:I s.heap) (hl:l = pre ++ .tup [.int q,.str z] :: rest) (hz:z.length ≤ 2) (hS:gSince D s₀ s)
  (hev:∀ {A:Around} {E:Value→Shared→Prop} {Q:Value→Shared→Prop},(∀ h' tk t1 t2,(∀ b o,s.heap.get? b = some o→h'.get? b = some o)→h'.get? s.heap.objs.size = some (tupO [.int q t1,.str (strOf z) t2] 0)→Q (.ref s.heap.objs.size) { s with heap:=h',toks:=tk })→wpAny (model prog w) A (eval e1 env) Q E s)
  (h:∀ s'',I s''.heap→Seg (model prog w) A (gR D) (gP D l) rest.length s'' c (K .next) fs s'') :
  Seg (model prog w) A (gR D) (gP D l) (rest.length + 1) s₀ c ((exec (.Expr (.Yield (some e1) p1) p2) env).wrap K H id id) fs s:=by
 refine seg_Expr_Yield hfs rfl hfg (hev fun h' tk t1 t2 hkk gT kap hkap=>?_) (by rw [ev.scope];rfl) (by unfold interactive;rw [ev.scope];rfl)
 have nT:s.heap.get? s.heap.objs.size = none:=by
  cases q:s.heap.get? s.heap.objs.size with
  | none=>rfl
  | some o=>exact absurd (Heap.lt_size q) (Nat.lt_irrefl _)
 have nD:s.heap.objs.size ∉ D:=fun hb=>by
  refine (hal _ G _ hb).elim fun o g=>?_
  rw [nT] at g;cases g
 have G':I h':=hk _ _ G fun b _ o g=>hkk b o g
 refine ⟨⟨_,q,z,t1,t2,rfl,gT,?_,nD,hz,?_⟩,hS.step fun b o _ g=>hkk b o g,hal _ G',fun s'' hal'=>hkap .none s'' ?_⟩
 ·obtain ⟨h₁,tk₁,rfl,hk₁⟩:=hS
  cases q:s₀.heap.get? h₁.objs.size with
  | none=>rfl
  | some o =>
   have:=hk₁ _ o nD q
   exact absurd (Heap.lt_size this) (Nat.lt_irrefl _)
 ·rw [hl]
  have:(pre ++ V.tup [.int q,.str z] :: rest).length - 1 - rest.length = pre.length:=by simp
  show (pre ++ V.tup [.int q,.str z] :: rest)[(pre ++ V.tup [.int q,.str z] :: rest).length - 1 - rest.length]? = _
  rw [this];simp
 ·exact h s'' (hk _ _ G' hal')
noncomputable def GL (L e it:Addr) (h:Heap) (esc:Bool) (p:Int):Prop:=(∃ m t',h.Ns L m ∧ m "escape" = some (.bool esc) ∧ m "pos" = some (.int p t')) ∧ ∀ b ∈ [L,e,it],∃ o,h.get? b = some o
theorem esc_last {cF:Code} {P:Nat→Pos} {H:Value→Sem Fin} {l pre:List V} {i:Nat} {esc:Bool} {p:Int} (ev:EnvIs env L escScope) (G:GL L e it s.heap esc p) (hp:esc = true→p = i - 1) (hl:l = pre ++ escGo i esc []) (hS:gSince [L,e,it] s₀ s) :
  Seg (model prog w) A (gR [L,e,it]) (gP [L,e,it] l) (escGo i esc []).length s₀ cF ((execs [eL P] env).wrap
   (fun f=>.pure (.done (.ret (match f with | .ret v=>v | _=>.none)))) H id id) [] s:=by
 have kind:env.scope.kind = .function:=by rw [ev.scope];rfl
 refine Classical.byContradiction fun hcon=>?_
 obtain ⟨⟨m,t',hn,hm1,hm2⟩,hal⟩:=G
 refine hcon ?_
 have G:GL L e it s.heap esc p:=⟨⟨m,t',hn,hm1,hm2⟩,hal⟩
 rw [← ev.loc] at hn
 refine seg_execs_cons (seg_If (isTrue_plain (wpAny_Name (wpAny_loadName_local kind (ev.kind rfl) hn hm1 (wpAny_truthy_bool ?_))) rfl))
 cases esc with
 | false =>
  rw [if_neg Bool.false_ne_true]
  exact seg_execs_nil (seg_execs_nil (seg_end (.ok (.ret .none)) ⟨rfl,rfl,hS⟩))
 | true =>
  rw [if_pos rfl]
  have hp':=hp rfl
  refine seg_execs_cons ?_
  have e1:escGo i true [] = [.tup [.int ((i:Int) - 1),.str [92]]]:=rfl
  rw [e1] at hl ⊢
  refine gg_yieldP (I:=fun h=>GL L e it h true p) (rest:=[]) ev rfl rfl (fun _ G=>G.2) (fun h h' G hk=>?_) G hl (by simp) hS (fun {A E Q} hQ=>?_) fun s'' G''=>?_
  ·refine Classical.byContradiction fun hcon=>?_
   obtain ⟨⟨m,t',⟨o,es,ep,g,r⟩,hm⟩,hal⟩:=G
   refine hcon ?_
   exact ⟨⟨m,t',⟨o,es,ep,hk _ (by simp) _ g,r⟩,hm⟩,fun b hb=>let ⟨o,g⟩:=hal b hb;⟨o,hk b hb o g⟩⟩
  ·refine wpAny_Tuple_spliced (spliced_more (wpAny_Name (wpAny_loadName_local kind (ev.kind rfl) hn hm2 (spliced_more (wpAny_Constant_str (spliced_none ⟨by simp only [sizeLine_eq];simp,?_⟩))))))
   rw [hp']
   exact hQ _ _ _ _ (fun b o g=>Heap.get?_push_of_some _ g) (Heap.get?_push_size _ rfl)
  ·exact seg_execs_nil (seg_execs_nil (seg_end (.ok (.ret .none)) ⟨rfl,rfl,gSince.refl _ _⟩))
end
section
variable {prog:Program} {w:World} {A:Around} {s₀ s:Shared} {env:Env} {L e it:Addr} {x:T} {t:Tok}
theorem stop_tail {q:String} {o:Obj} {u v:Value} {E:Value→Shared→Prop} {Q:Fin→Shared→Prop} (hh:A.handled = none) (ho:s.heap.get? it = some o) (hd:o.data = .fields #[u,v])
  (hE:∀ h' e',Heap.ExtBut it s.heap h'→(∃ o,h'.get? it = some o)→(∃ o,h'.get? e' = some o ∧ o.cls = .type "StopIteration")→E (.ref e') { s with heap:=h' }) :
  wpAny (model prog w) A (do rule q;setField (.ref it) 0 .none;letGo [u];let e ← newExc (.type "StopIteration") [];raiseNew e) Q E s:=by
 refine wpAny_bind (wpAny_rule (wpAny_bind (wpAny_setField ho hd (by exact Nat.lt_succ_of_lt (Nat.zero_lt_one)) (wpAny_bind (wpAny_letGo ?_)))))
 have gi:=Heap.get?_update_self (Obj.mapFields (·.setIfInBounds 0 .none)) ho (Obj.isFreed_of_fields (Obj.data_mapFields hd _))
 refine wpAny_bind ?_
 dsimp only [newExc,newTuple]
 refine wpAny_bind (wpAny_newObj_type ?_ (by size_fits))
 refine wpAny_bind (m:=firstArgMember _ _) (wpAny_of_eq (a:=Value.none) (by first | rfl | (dsimp only [firstArgMember];rfl)) (wpAny_newObj_type ?_ (by size_fits)))
 dsimp only [raiseNew]
 refine wpAny_bind (wpAny_handled ?_)
 rw [hh]
 exact wpAny_bind (wpAny_pure (wpAny_throw (hE _ _ (((Heap.SameBut.update ..).extBut.push _).push _) ⟨_,Heap.get?_push_of_some _ (Heap.get?_push_of_some _ gi)⟩ ⟨_,Heap.get?_push_size _ rfl,rfl⟩)))
theorem str_end_ascii {i:Nat} {E:Value→Shared→Prop} {Q:Value→Shared→Prop} (hh:A.handled = none) (hit:s.heap.IsStrIter it "str_ascii_iterator" (strOf x) t i) (hx:(strOf x).cps[i]? = none)
  (hE:∀ h' e',Heap.ExtBut it s.heap h'→(∃ o,h'.get? it = some o)→(∃ o,h'.get? e' = some o ∧ o.cls = .type "StopIteration")→E (.ref e') { s with heap:=h' }):wpAny (model prog w) A (Builtin.SmallTypes.nextOf (.ref it)) Q E s:=by
 refine (id hit).elim fun o k0=>wpAny_bind (wpAny_callSpecial?_slot (name:=Str.ofString "__next__") hit.typeIs F.slot_str_ascii_iterator_next
  (wpAny_call_entry F.slot_str_ascii_iterator_next hit.typeIs F.entry_str_ascii_iterator_next ?_ (F.args_str_ascii_iterator_next_1 _)))
 show wpAny _ _ (field (.ref it) 0 >>= _) _ _ s
 refine wpAny_bind (wpAny_field k0.1 k0.2.2 (x:=.str (strOf x) t) rfl ?_)
 show wpAny _ _ (field (.ref it) 1 >>= _) _ _ s
 refine wpAny_bind (wpAny_field k0.1 k0.2.2 (x:=.int i 0) rfl ?_)
 simp only [Int.toNat_natCast,hx]
 exact stop_tail hh k0.1 k0.2.2 hE
theorem str_end_wide {i:Nat} {E:Value→Shared→Prop} {Q:Value→Shared→Prop} (hh:A.handled = none) (hit:s.heap.IsStrIter it "str_iterator" (strOf x) t i) (hx:(strOf x).cps[i]? = none)
  (hE:∀ h' e',Heap.ExtBut it s.heap h'→(∃ o,h'.get? it = some o)→(∃ o,h'.get? e' = some o ∧ o.cls = .type "StopIteration")→E (.ref e') { s with heap:=h' }):wpAny (model prog w) A (Builtin.SmallTypes.nextOf (.ref it)) Q E s:=by
 refine (id hit).elim fun o k0=>wpAny_bind (wpAny_callSpecial?_slot (name:=Str.ofString "__next__") hit.typeIs F.slot_str_iterator_next
  (wpAny_call_entry F.slot_str_iterator_next hit.typeIs F.entry_str_iterator_next ?_ (F.args_str_iterator_next_1 _)))
 show wpAny _ _ (field (.ref it) 0 >>= _) _ _ s
 refine wpAny_bind (wpAny_field k0.1 k0.2.2 (x:=.str (strOf x) t) rfl ?_)
 show wpAny _ _ (field (.ref it) 1 >>= _) _ _ s
 refine wpAny_bind (wpAny_field k0.1 k0.2.2 (x:=.int i 0) rfl ?_)
 simp only [Int.toNat_natCast,hx]
 exact stop_tail hh k0.1 k0.2.2 hE
theorem enum_end {i:Nat} {j:Int} {old:Value} {E:Value→Shared→Prop} {Q:Option Value→Shared→Prop} (hh:A.handled = none) (he:IsEnum s.heap e it j old) (hit:s.heap.IsStrIter it (strIterType (strOf x)) (strOf x) t i) (hx:(strOf x).cps[i]? = none)
  (hQ:∀ h',Heap.ExtBut it s.heap h'→(∃ o,h'.get? it = some o)→Q none { s with heap:=h' }):wpAny (model prog w) A (pyNext (.ref e)) Q E s:=by
 have hT:s.TypeIs (.ref e) "enumerate":=⟨_,he,rfl⟩
 unfold pyNext
 refine wpAny_bind (wpAny_attempt (wpAny_callSpecial?_slot (name:=Str.ofString "__next__") hT F.slot_enumerate_next
  (wpAny_call_entry F.slot_enumerate_next hT F.entry_enumerate_next ?_ (F.args_enumerate_next_1 _))))
 show wpAny _ _ (field (.ref e) 2 >>= _) _ _ _
 refine wpAny_bind (wpAny_field he rfl (x:=.ref it) rfl ?_)
 have fin:∀ h' e',Heap.ExtBut it s.heap h'→(∃ o,h'.get? it = some o)→(∃ o,h'.get? e' = some o ∧ o.cls = .type "StopIteration") →
   wpAny (model prog w) A (isInstance (.ref e') (.type "StopIteration") >>= fun b=>if b = true then (pure none:Sem (Option Value)) else throw (.ref e')) Q E { s with heap:=h' }:=fun h' e' h1 h2 ⟨o,ho,hc⟩ =>
  wpAny_bind (wpAny_isInstance (T:="StopIteration") (b:=true) ⟨o,ho,hc⟩ isSubtype_stop (wpAny_pure (hQ h' h1 h2)))
 by_cases q:(strOf x).cps.all (· < 128) = true
 ·have et:strIterType (strOf x) = "str_ascii_iterator":=by unfold strIterType;rw [if_pos q]
  rw [et] at hit
  exact wpAny_bind (str_end_ascii (A:=A.in1) hh hit hx fin)
 ·have et:strIterType (strOf x) = "str_iterator":=by unfold strIterType;rw [if_neg q]
  rw [et] at hit
  exact wpAny_bind (str_end_wide (A:=A.in1) hh hit hx fin)
theorem esc_draw {P:Nat→Pos} {i c:Nat} {m:Str→Option Value} {X Z:Shared→Prop} (hh:A.handled = none) (ev:EnvIs env L escScope) (hne:L ≠ e ∧ L ≠ it ∧ e ≠ it) (hlt:i < x.length) (hc:(strOf x).cps[i]? = some c)
  (hn:s.heap.Ns L m) (en:∃ old,IsEnum s.heap e it i old) (si:s.heap.IsStrIter it (strIterType (strOf x)) (strOf x) t i)
  (h:∀ h' tk u tk',h'.Ns L (fun z=>if z = "ch" then some (.str (strOf [c]) u) else if z = "pos" then some (.int i tk') else m z)→(∃ old,IsEnum h' e it ((i + 1:Nat):Int) old)→h'.IsStrIter it (strIterType (strOf x)) (strOf x) t (i + 1) →
   (∀ b o,b ∉ [L,e,it]→s.heap.get? b = some o→h'.get? b = some o)→Z { s with heap:=h',toks:=tk }) :
  wpAny (model prog w) A (pyNext (.ref e)) (fun r s₁=>match r with
   | none=>X s₁
   | some v=>wpAny (model prog w) A (letOwnedTupleGo (eT P) (.ref e) v) (fun _ s₂=>wpAny (model prog w) A (assign (eT P) env v) (fun _ s₃=>Z s₃) (fun _ _=>False) s₂) (fun _ _=>False) s₁) (fun _ _=>False) s:=by
 have kind:env.scope.kind = .function:=by rw [ev.scope];rfl
 have W:=walk_str (prog:=prog) (w:=w) (A:=A) hh e it hne.2.2 x t
 refine W.item i s _ _ hlt ⟨en,si⟩ fun T vals h₁ tk₁ hP _ hT hmid hk₁=>?_
 refine Classical.byContradiction fun hcon=>?_
 obtain ⟨tk',y,⟨c',u,hc',rfl⟩,rfl⟩:=hP
 cases hc.symm.trans hc'
 refine hcon ?_
 refine W.go _ _ _ i T { s with heap:=h₁,toks:=tk₁ } _ _ hmid fun h₂ hst₂ hk₂=>?_
 refine wpAny_assign_Tuple hh (hT.imp fun o g=>⟨hk₂ _ o (W.apart i T _ hmid) g.1,g.2⟩) rfl rfl fun h₃ hx₃=>?_
 have old₃:∀ b o,h₂.get? b = some o→h₃.get? b = some o:=fun b o g=>hx₃ b o (Nat.ne_of_lt (Heap.lt_size g)) g
 have nLe:L ∉ [e,it]:=fun hb=>(List.mem_cons.mp hb).elim hne.1 fun hb=>hne.2.1 (List.mem_singleton.mp hb)
 have hn₃:h₃.Ns env.locals m:=ev.loc.symm ▸ ns_keep hn fun o g=>old₃ _ _ (hk₂ _ _ nLe (hk₁ _ _ nLe g))
 show wpAny _ _ (do holding [.str ⟨#[c]⟩ u] (assign (.Name "pos" (P 180)) env (.int i tk'));do holding [] (assign (.Name "ch" (P 181)) env (.str ⟨#[c]⟩ u));pure ()) _ _ _
 refine wpAny_bind (wpAny_holding (wpAny_assign_Name (wpAny_storeName_local (ev.kind rfl) hn₃ (fun h₄ hn₄ hs₄=>wpAny_bind (wpAny_holding (wpAny_assign_Name (wpAny_storeName_local (ev.kind rfl) hn₄ (fun h₅ hn₅ hs₅=>wpAny_pure ?_) (by rw [kind];rfl))))) (by rw [kind];rfl))))
 rw [ev.loc] at hs₄ hn₅ hs₅
 have k₅:∀ b o,b ≠ L→h₂.get? b = some o→h₅.get? b = some o:=fun b o q g=>(hs₅.2 b q).trans ((hs₄.2 b q).trans (old₃ b o g))
 have F:=W.frame (i + 1) h₂ h₅ hst₂ fun b hb o g=>k₅ b o (fun q=>nLe (q ▸ hb)) g
 exact h h₅ _ u tk' hn₅ F.1 F.2 fun b o hb g=>k₅ b o (fun q=>hb (q ▸ .head _)) (hk₂ b o (fun q=>hb (.tail _ q)) (hk₁ b o (fun q=>hb (.tail _ q)) g))
theorem esc_set {b:Bool} {i:Nat} {p:Int} {tp:Tok} {m:Str→Option Value} {k:Nat} {p1 p2 p3:Pos} {D:List Addr} {E:Value→Shared→Prop} {Q:Flow→Shared→Prop} (ev:EnvIs env L escScope) (hne:L ≠ e ∧ L ≠ it ∧ e ≠ it) (hD:L ∈ D)
  (hn:s.heap.Ns L m) (hp:m "pos" = some (.int p tp)) (en:∃ old,IsEnum s.heap e it i old) (si:s.heap.IsStrIter it (strIterType (strOf x)) (strOf x) t i) (hS:gSince D s₀ s)
  (h:∀ h' tk,GG L e it x t h' i b p→gSince D s₀ { s with heap:=h',toks:=tk }→Q .next { s with heap:=h',toks:=tk }):wpAny (model prog w) A (exec (.Assign [.Name "escape" p1] (.Constant (.bool b) k p2) p3) env) Q E s:=by
 refine wpAny_Assign_Name (wpAny_Constant_bool (wpAny_storeName_local (ev.kind rfl) (ev.loc.symm ▸ hn) (fun h₆ hn₆ sb₆=>?_) (by rw [ev.scope];rfl)))
 rw [ev.loc] at hn₆ sb₆
 exact h h₆ _ ⟨⟨_,tp,hn₆,if_pos rfl,(if_neg (by decide)).trans hp⟩,en.imp fun _ g=>(sb₆.2 _ hne.1.symm).trans g,si.imp fun o g=>⟨(sb₆.2 _ hne.2.1.symm).trans g.1,g.2⟩⟩ (hS.step fun b o hb g=>(sb₆.2 b fun q=>hb (q ▸ hD)).trans g)
theorem esc_body {P:Nat→Pos} {C:Code} {fs:List Frame} {K:Flow→Sem Fin} {H:Value→Sem Fin} {l pre:List V} {r:T} {i c:Nat} {esc:Bool} {u tp:Tok} {m:Str→Option Value} {D:List Addr} (ev:EnvIs env L escScope) (hne:L ≠ e ∧ L ≠ it ∧ e ≠ it) (hD:D = [L,e,it]) (hfs:splitAtGen fs = none) (hfg:fs.any Frame.guarded = false)
  (hn:s.heap.Ns L m) (hm:m "escape" = some (.bool esc)) (hch:m "ch" = some (.str (strOf [c]) u)) (hpos:m "pos" = some (.int i tp)) (en:∃ old,IsEnum s.heap e it ((i + 1:Nat):Int) old) (si:s.heap.IsStrIter it (strIterType (strOf x)) (strOf x) t (i + 1))
  (hS:gSince D s₀ s) (hl:l = pre ++ escGo i esc (c :: r))
  (go:∀ {esc':Bool} {p':Int} {s₀' s':Shared},GG L e it x t s'.heap (i + 1) esc' p'→(esc' = true→p' = i)→(∃ pre,l = pre ++ escGo ((i:Int) + 1) esc' r)→gSince D s₀' s'→Seg (model prog w) A (gR D) (gP D l) (escGo ((i:Int) + 1) esc' r).length s₀' C (K .next) fs s') :
  Seg (model prog w) A (gR D) (gP D l) (escGo i esc (c :: r)).length s₀ C ((execs [eB P] env).wrap K H id id) fs s:=by
 have kind:env.scope.kind = .function:=by rw [ev.scope];rfl
 have hn':s.heap.Ns env.locals m:=ev.loc.symm ▸ hn
 have hL:L ∈ D:=hD ▸ .head _
 have G:GG L e it x t s.heap (i + 1) esc i:=⟨⟨_,tp,hn,hm,hpos⟩,en,si⟩
 have al:∀ h,GG L e it x t h (i + 1) esc i→∀ b ∈ D,∃ o,h.get? b = some o:=fun h G=>by rw [hD];exact G.alive
 have kp:∀ h h',GG L e it x t h (i + 1) esc i→(∀ b ∈ D,∀ o,h.get? b = some o→h'.get? b = some o)→GG L e it x t h' (i + 1) esc i:=fun h h' G hk=>by rw [hD] at hk;exact G.keep hk
 refine seg_execs_cons (seg_If (isTrue_plain (wpAny_Name (wpAny_loadName_local kind (ev.kind rfl) hn' hm (wpAny_truthy_bool ?_))) rfl))
 cases esc with
 | true =>
  rw [if_pos rfl]
  refine seg_execs_cons (gg_yieldP (rest:=escGo ((i:Int) + 1) false r) ev hfs hfg al kp G hl (Nat.le_refl _) hS (fun {A E Q} hQ=>?_) fun s'' G''=>?_)
  ·refine wpAny_Tuple_spliced (spliced_more (wpAny_Name (wpAny_loadName_local kind (ev.kind rfl) hn' hpos (spliced_more (wpAny_BinOp (wpAny_Constant_str (wpAny_Name (wpAny_loadName_local kind (ev.kind rfl) hn' hch ?_))))))))
   refine add_str (x:=strOf [92]) (y:=strOf [c]) (fun t2 tk2=>?_) ?_
   ·rw [strOf_append]
    exact spliced_none ⟨by simp only [sizeLine_eq];exact Nat.le_of_ble_eq_true rfl,hQ _ _ _ _ (fun b o g=>Heap.get?_push_of_some _ g) (Heap.get?_push_size _ rfl)⟩
   ·simp only [strOf_length,strOf_length,sizeLine_eq];exact Nat.le_of_ble_eq_true rfl
  ·refine Classical.byContradiction fun hcon=>?_
   refine (G''.ns).elim fun m' k0=>k0.elim fun t'' k1=>k1.elim fun hn' k2=>k2.elim fun hm1' hm2'=>?_
   refine hcon ?_
   exact seg_execs_cons (seg_stmt (esc_set ev hne hL hn' hm2' G''.en G''.si (gSince.refl _ _) fun h' tk G2 S2=>seg_execs_nil (go G2 nofun ⟨pre ++ [.tup [.int i,.str [92,c]]],by rw [hl,List.append_assoc];rfl⟩ S2)))
 | false =>
  rw [if_neg Bool.false_ne_true]
  refine seg_execs_cons (seg_If (wpAny_isTrue_Compare1 (wpAny_Name (wpAny_loadName_local kind (ev.kind rfl) hn' hch (wpAny_Constant_str (eq_str (wpAny_truthy_bool ?_)))))))
  rw [show (strOf [c] == Str.ofString "\\") = (([c]:List Nat) == [92]) from strOf_beq [c] [92]]
  by_cases hq:c = 92
  ·subst hq
   rw [if_pos (by decide)]
   exact seg_execs_cons (seg_stmt (esc_set ev hne hL hn hpos en si (hS.step (h':=s.heap) fun _ _ _ g=>g) fun h' tk G2 S2=>seg_execs_nil (seg_execs_nil (go G2 (fun _=>rfl) ⟨pre,hl⟩ S2))))
  ·have e1:escGo i false (c :: r) = .tup [.int i,.str [c]] :: escGo ((i:Int) + 1) false r:=if_neg (by simpa using hq)
   rw [if_neg (by simpa using hq)]
   rw [e1] at hl ⊢
   refine seg_execs_cons (gg_yieldP ev hfs hfg al kp G hl (Nat.le_of_ble_eq_true rfl) (hS.step (h':=s.heap) fun _ _ _ g=>g) (fun {A E Q} hQ=>?_) fun s'' G''=>seg_execs_nil (seg_execs_nil (go G'' nofun ⟨pre ++ [.tup [.int i,.str [c]]],by rw [hl,List.append_assoc];rfl⟩ (gSince.refl _ _))))
   exact wpAny_Tuple_spliced (spliced_more (wpAny_Name (wpAny_loadName_local kind (ev.kind rfl) hn' hpos (spliced_more (wpAny_Name (wpAny_loadName_local kind (ev.kind rfl) hn' hch (spliced_none ⟨by rw [sizeLine_eq];exact Nat.le_of_ble_eq_true rfl,hQ _ _ _ _ (fun b o g=>Heap.get?_push_of_some _ g) (Heap.get?_push_size _ rfl)⟩)))))))
theorem esc_loop {P:Nat→Pos} {fs:List Frame} {l:List V} {D:List Addr} (hh:∀ c,(A.over c fs).handled = none) (ev:EnvIs env L escScope) (hne:L ≠ e ∧ L ≠ it ∧ e ≠ it) (hD:D = [L,e,it]) (hfs:splitAtGen fs = none) (hfg:fs.any Frame.guarded = false)
  (fin:∀ {s₀ s:Shared} {pre:List V} {i:Nat} {esc:Bool} {p:Int},GL L e it s.heap esc p→(esc = true→p = i - 1)→l = pre ++ escGo i esc []→gSince D s₀ s→Seg (model prog w) A (gR D) (gP D l) (escGo i esc []).length s₀ (.block [] env) (.pure (.done .next)) fs s) (r:T) :
  ∀ (i:Nat) (esc:Bool) (p:Int) (s₀ s:Shared),x.drop i = r→i ≤ x.length→GG L e it x t s.heap i esc p→(esc = true→p = i - 1)→(∃ pre,l = pre ++ escGo i esc r)→gSince D s₀ s →
   Seg (model prog w) A (gR D) (gP D l) (escGo i esc r).length s₀ (eF P e env) ((model prog w).den (eF P e env)) fs s:=by
 induction r with
 | nil =>
  intro i esc p s₀ s hr hi G hp hl hS
  have hi':=Nat.le_antisymm hi (List.drop_eq_nil_iff.mp hr)
  refine Classical.byContradiction fun hcon=>?_
  refine (hl).elim fun pre hl=>?_
  refine (G.en).elim fun old hen=>?_
  refine (G.ns).elim fun m k0=>k0.elim fun t' k1=>k1.elim fun hn hm=>?_
  refine hcon ?_
  refine seg_forTurn (enum_end (hh _) hen G.si (by simp only [hi'];exact Array.getElem?_size) fun h' hx hit'=>?_)
  refine fin ⟨⟨m,t',ns_keep hn (hx _ · hne.2.1),hm⟩,fun b hb=>?_⟩ hp hl (hS.step (tk:=s.toks) fun b o hb g=>hx b o (fun q=>hb (by simp only [hD,q];exact .tail _ (.tail _ (.head _)))) g)
  by_cases q:b = it
  ·rw [q];exact hit'
  ·exact (G.alive b hb).imp fun o g=>hx _ o q g
 | cons c r ih =>
  intro i esc p s₀ s hr hi G hp hl hS
  have hlt:i < x.length:=Nat.lt_of_not_le fun q=>by rw [List.drop_eq_nil_iff.mpr q] at hr;cases hr
  have hd:=(List.drop_eq_getElem_cons hlt).symm.trans hr
  refine Classical.byContradiction fun hcon=>?_
  refine (hl).elim fun pre hl=>?_
  refine (G.ns).elim fun m k0=>k0.elim fun t' k1=>k1.elim fun hn k2=>k2.elim fun hm _=>?_
  refine hcon ?_
  refine seg_forTurn (esc_draw (hh _) ev hne hlt (c:=c) (by simp only [← (List.cons.inj hd).1];exact Array.getElem?_eq_getElem hlt) hn G.en G.si fun h' tk u tk' hn' en si hk H' =>
   esc_body ev hne hD hfs hfg hn' ((if_neg (by decide)).trans ((if_neg (by decide)).trans hm)) (if_pos rfl) ((if_neg (by decide)).trans (if_pos rfl)) en si (hS.step fun b o hb=>hk b o (hD ▸ hb)) hl fun {esc' p' s₀' s'} G' hp' hl' hS'=>seg_again rfl ?_)
  have:=ih (i + 1) esc' p' s₀' s' (List.cons.inj hd).2 hlt G' (fun q=>by simp only [hp' q];push_cast;lia) (by push_cast;exact hl') hS'
  rw [Int.natCast_add] at this
  exact this
end
section
variable {I:LexI} {B:Addr→Option Obj} {os:OsState} {R R':RS} {st st':St} {s s':Shared}
end
section
variable {prog:Program} {w:World} {A:Around} {s₀ s:Shared} {env:Env} {L:Addr} {x:T} {t:Tok} {B:Addr→Option Obj} {mg mb:Str→Option Value}
structure EscW (P:Nat→Pos) (B:Addr→Option Obj) (mg mb:Str→Option Value) (fE:Addr):Prop where
 main:∀ h,BaseIn B h→h.Ns mainGlobals mg
 bi:∀ h,BaseIn B h→h.Ns builtinsNs mb
 lim:∀ h,BaseIn B h→h.NoLimit
 e1:mg "enumerate" = none
 e2:mb "enumerate" = some (.type "enumerate")
 fn:∃ o fd,B fE = some o ∧ o.data = .func fd ∧ fd.globals = mainGlobals ∧ fd.builtins = builtinsNs ∧ fd.closure = [] ∧ fd.body = .stmts (escBody P) ∧ fd.scope = escScope ∧
  (∀ v,bindArgs fd ⟨[v],[]⟩ = pure [(Str.ofString "addr",v)]) ∧ (∀ h,BaseIn B h→h.CodeRec fd.code fd.qualname)
theorem esc_start {P:Nat→Pos} {fE:Addr} {m:Str→Option Value} (W:EscW P B mg mb fE) (hh:A.handled = none) (ev:EnvIs env L escScope) (hB:BaseIn B s.heap) (hL:B L = none) (hn:s.heap.Ns L m) (hm:m "addr" = some (.str (strOf x) t)) :
  Seg (model prog w) A (gR [L,s.heap.objs.size + 1,s.heap.objs.size]) (gP [L,s.heap.objs.size + 1,s.heap.objs.size] (escGo 0 false x)) (escGo 0 false x).length s (.func (escBody P) env) ((model prog w).den (.func (escBody P) env)) [] s:=by
 have kind:env.scope.kind = .function:=by rw [ev.scope];rfl
 have nL:L < s.heap.objs.size:=hn.lt
 refine seg_func ?_
 rw [← ev.loc] at hn
 unfold escBody
 refine seg_execs_cons (seg_stmt (wpAny_Assign_Name (wpAny_Constant_int (wpAny_storeName_local (ev.kind rfl) hn (fun h₁ hn₁ sb₁=>?_) (by rw [kind];rfl)))))
 refine seg_execs_cons (seg_stmt (wpAny_Assign_Name (wpAny_Constant_bool (wpAny_storeName_local (ev.kind rfl) hn₁ (fun h₂ hn₂ sb₂=>?_) (by rw [kind];rfl)))))
 rw [ev.loc] at sb₁ sb₂
 have k₂:∀ b o,b ≠ L→s.heap.get? b = some o→h₂.get? b = some o:=fun b o q g=>(sb₂.2 b q).trans ((sb₁.2 b q).trans g)
 have z₂:h₂.objs.size = s.heap.objs.size:=sb₂.1.trans sb₁.1
 have B₂:BaseIn B h₂:=fun b o g=>k₂ b o (fun q=>by rw [q,hL] at g;cases g) (hB b o g)
 refine seg_execs_cons (seg_For (wpAny_Call_Name_kw (Calls.Name_function_global kind (ev.kind rfl) (Calls.loadGlobal_builtin (by rw [ev.glob];exact W.main _ B₂) W.e1 (by rw [ev.bui];exact W.bi _ B₂) W.e2 ?_) (by decide))) (fun _=>rfl))
 refine callWith_any (.inr ⟨_,rfl⟩) rfl (spliced_more (wpAny_Name (wpAny_loadName_local (v:=.str (strOf x) t) kind (ev.kind rfl) hn₂ ?_ (spliced_none ?_))))
 ·show (if Str.ofString "addr" = Str.ofString "escape" then some _ else if Str.ofString "addr" = Str.ofString "pos" then some _ else m (Str.ofString "addr")) = _
  rw [if_neg (by decide),if_neg (by decide)];exact hm
 refine call_enumerate_str fun h₃ he hi hz hk=>?_
 refine wpAny_pyIter_enum he fun p k hK=>?_
 have he:IsEnum h₃ (h₂.objs.size + 1) h₂.objs.size 0 .none:=he
 have hi:h₃.IsStrIter h₂.objs.size (strIterType (strOf x)) (strOf x) t 0:=hi
 have hk:∀ b o,h₂.get? b = some o→h₃.get? b = some o:=hk
 have hn₃:=hn₂.keeps hk
 rw [ev.loc] at hn₃
 rw [z₂] at he hi
 have ne:L ≠ s.heap.objs.size + 1 ∧ L ≠ s.heap.objs.size ∧ s.heap.objs.size + 1 ≠ s.heap.objs.size:=⟨by (unfold Addr at *;omega),by (unfold Addr at *;omega),by (unfold Addr at *;omega)⟩
 have G:GG L (s.heap.objs.size + 1) s.heap.objs.size x t h₃ 0 false 0:=by
  exact ⟨⟨_,_,hn₃,rfl,rfl⟩,⟨_,he⟩,hi⟩
 simp only [z₂]
 exact esc_loop (prog:=prog) (w:=w) (A:=A) (l:=escGo 0 false x) (fun _=>by exact hh) ev ne rfl rfl rfl (fun G hp hl hS=>seg_leaf (.ok .next) (by simp only [hK];exact esc_last ev G hp hl hS)) x 0 false 0 s _ rfl (Nat.zero_le _) G nofun ⟨[],rfl⟩
  ⟨h₃,_,rfl,fun b o hb g=>hk b o (k₂ b o (fun q=>hb (by simp [q])) g)⟩
end
section
variable {prog:Program} {w:World} {A:Around} {W:Wd prog w} {s₀ s s':Shared} {env:Env} {x:T} {t:Tok} {R R':RS} {st st':St} {B:Addr→Option Obj} {mg mb:Str→Option Value}
inductive genJ (prog:Program) (w:World) (A:Around) (P:Nat→Pos) (env:Env) (a L:Addr) (g:Nat) (x:T) (t:Tok):List Addr→Nat→RS→Shared→Prop
 | new {R:RS} {s:Shared} {m:Str→Option Value}:s.heap.IsGen a g→s.gens[g]? = some (.fresh (.func (escBody P) env))→a ≠ L→s.heap.Ns L m→m "addr" = some (.str (strOf x) t)→genJ prog w A P env a L g x t [a,L] 0 R s
 | mid {R:RS} {s:Shared} {gs:GenState} {e it:Addr} {k:Nat}:s.heap.IsGen a g→s.gens[g]? = some gs→a ∉ [L,e,it]→(∀ b ∈ [L,e,it],∃ o,s.heap.get? b = some o) →
   (∀ s'':Shared,(∀ b ∈ [L,e,it],∀ o,s.heap.get? b = some o→s''.heap.get? b = some o)→gs.Goes (model prog w) A.in1 (gR [L,e,it]) (gP [L,e,it] (escGo 0 false x)) ((escGo 0 false x).length - k) (.send .none) s'') →
   genJ prog w A P env a L g x t [a,L,e,it] k R s
theorem isGen_al {h:Heap} {a:Addr} {g:Nat} (hg:h.IsGen a g):∃ o,h.get? a = some o:=let ⟨o,_,_,e,_⟩:=hg;⟨o,e⟩
theorem isGen_keep {h h':Heap} {a:Addr} {g:Nat} (hg:h.IsGen a g) (hk:∀ o,h.get? a = some o→h'.get? a = some o):h'.IsGen a g:=let ⟨o,nm,qn,e,q⟩:=hg;⟨o,nm,qn,hk o e,q⟩
theorem setGen_bare {s:Shared} {g:Nat} {gs:GenState} (h:AllBare s.gens) (hb:gs.bare = true):AllBare (s.setGen g gs).gens:=by
 intro y hy
 obtain ⟨i,hi,e⟩:=Array.mem_iff_getElem.mp hy
 have e':(s.setGen g gs).gens[i]? = some y:=by simp only [Array.getElem?_eq_getElem hi,e]
 by_cases q:i = g
 ·subst q
  have hi':i < s.gens.size:=by simp only [← (GenOnly.setGen s i gs).1];exact hi
  rw [setGen_self (Array.getElem?_eq_getElem hi')] at e'
  cases e';exact hb
 ·rw [(GenOnly.setGen s g gs).2 i q] at e'
  exact h _ (Array.mem_of_getElem? e')
theorem setGen_other {s:Shared} {g j:Nat} {gs x:GenState} (h:j ≠ g) (e:s.gens[j]? = some x):(s.setGen g gs).gens[j]? = some x:=by
 rw [(GenOnly.setGen s g gs).2 j h];exact e
theorem go_gen {a:Addr} {g:Nat} {ts:List Expr} {k:Nat} {p:Pos} {T:Addr} {Q:Unit→Shared→Prop} {E:Value→Shared→Prop} (hg:s.heap.IsGen a g) (h:Q () s):wpAny (model prog w) A (letOwnedTupleGo (.Tuple ts k p) (.ref a) (.ref T)) Q E s:=by
 refine Classical.byContradiction fun hcon=>?_
 obtain ⟨⟨oc,od,oda,osl⟩,nm,qn,ho,hc,hd,hs⟩:=hg
 refine hcon ?_
 dsimp only at hc hd
 subst hc hd
 refine wpAny_bind (wpAny_load ho ?_)
 show wpAny _ _ (if (["enumerate","zip","dict_itemiterator","dict_reverseitemiterator","odict_iterator","itertools.zip_longest","itertools.pairwise"].contains "generator" && _) = true then _ else _) _ _ s
 rw [show ["enumerate","zip","dict_itemiterator","dict_reverseitemiterator","odict_iterator","itertools.zip_longest","itertools.pairwise"].contains "generator" = false by decide +kernel]
 exact wpAny_pure h
section
variable {a:Addr} {D fp:List Addr} {g:Nat} {gs:GenState} {l:List V} {E:Value→Shared→Prop}
theorem ap_add (r:Rel W.I W.B W.os R st s) (ap:ApartFp W.I fp R) (hs:∀ b ∈ D,b ∈ fp ∨ s.heap.get? b = none) {b Z:Addr} (hb:b ∈ D) (ne:b ≠ Z) :
  ¬ (R.Z b ∨ b = Z) ∧ ¬ R.P b ∧ (∀ (n:Nat) (f:List Addr),R.mu[n]? = some f→b ∉ f) ∧ (∀ (i:Nat) (l:Loc),R.dt[i]? = some l→l.addr? ≠ some b) ∧ b ≠ W.I.tb:=by
 have h:=(hs b hb).elim (ap b) fun hn=>ApartFp.new (fp:=[b]) r (fun c hc=>List.mem_singleton.mp hc ▸ hn) b (.head _)
 exact ⟨fun z=>z.elim h.1 ne,h.2⟩
theorem gen_next {k:Nat} {ts:List Expr} {tk:Nat} {tp:Pos} {Q:Value→Shared→Prop} {v:V} (ga:GA W.lev A) (hlev:1 ≤ W.lev) (lim:s.heap.NoLimit) (r:Rel W.I W.B W.os R st s) (ap:ApartFp W.I fp R)
  (hg:s.heap.IsGen a g) (hgs:s.gens[g]? = some gs) (haf:a ∈ fp) (hna:a ∉ D) (hnew:∀ b ∈ D,b ∈ fp ∨ s.heap.get? b = none) (hl:l[k]? = some v)
  (hgo:gs.Goes (model prog w) A.in1 (gR D) (gP D l) (l.length - k) (.send .none) (s.setGen g .running))
  (hQ:∀ R' s' val gs',StepX (· ∈ fp) (· = g) R s R' s'→Rel W.I W.B W.os R' st s'→ApartFp W.I (a :: D) R'→VR R'.Z R'.mu s'.heap v val→s'.heap.IsGen a g→(∀ b ∈ D,∃ o,s'.heap.get? b = some o)→s'.gens[g]? = some gs' →
   (∀ s'':Shared,(∀ b ∈ D,∀ o,s'.heap.get? b = some o→s''.heap.get? b = some o)→gs'.Goes (model prog w) A.in1 (gR D) (gP D l) (l.length - (k + 1)) (.send .none) s'')→Q val s') :
  wpAny (model prog w) A (pyNext (.ref a)) (fun r s₁=>∃ val,r = some val ∧ wpAny (model prog w) A (letOwnedTupleGo (.Tuple ts tk tp) (.ref a) val) (fun _ s₂=>Q val s₂) E s₁) E s:=by
 have hlt:=(List.getElem?_eq_some_iff.mp hl).1
 have hm:l.length - k = l.length - (k + 1) + 1:=sub_s1 hlt
 have idx:l.length - 1 - (l.length - (k + 1)) = k:=by rw [Nat.add_comm k 1,← Nat.sub_sub];exact Nat.sub_sub_self (Nat.le_pred_of_lt hlt)
 generalize l.length - (k + 1) = m at hm idx hQ
 rw [hm] at hgo
 have hd:=ga.2.1
 refine pyNext_genQ (P:=fun n s₀ s₁=>n = 0 ∧ gSince D s₀ s₁) ga.1 lim (by exact Nat.lt_of_le_of_lt (Nat.le_add_right _ _) (by assumption)) hg hgs hgo (fun val s₁ gs' hb hv=>?_) (fun s₁ hp h' hk=>absurd hp.1 (Nat.succ_ne_zero m))
 refine Classical.byContradiction fun hcon=>?_
 obtain ⟨⟨T,p,z,t1,t2,rfl,gT,nT,nD,hz,hl'⟩,⟨h',tk',rfl,hk⟩,hal,hkap⟩:=hv
 refine hcon ?_
 replace nT:s.heap.get? T = none:=nT
 replace hk:∀ b o,b ∉ D→s.heap.get? b = some o→h'.get? b = some o:=hk
 replace hl':l[l.length - 1 - m]? = some (.tup [.int p,.str z]):=hl'
 rw [idx,hl] at hl'
 cases hl'
 have hkf:∀ b o,b ∉ fp→s.heap.get? b = some o→h'.get? b = some o:=fun b o hb q=>hk b o (fun h=>(hnew b h).elim hb fun n=>(get_ne n q) rfl) q
 have hgen':=isGen_keep hg fun o=>hk a o hna
 have K:=r.loose2 (gs:=(· = g)) ap (h':=h') (tk:=tk') (gn:=((s.setGen g .running).setGen g gs').gens) (Z':=fun b=>R.Z b ∨ b = T) hkf (fun _ z=>.inl z) (fun b (z:R.Z b ∨ b = T)=>z.imp id fun q=>by rw [q];exact nT)
  (fun b (z:R.Z b ∨ b = T)=>z.elim (fun z=>(r.zal b (.inl z)).imp fun o=>hkf b o fun q=>(ap b q).1 z) fun q=>by rw [q];exact ⟨_,gT⟩)
  (setGen_bare (s:=s.setGen g .running) (setGen_bare r.bare rfl) hb) (fun j x hj hx=>setGen_other (s:=s.setGen g .running) hj (setGen_other hj hx))
 refine ⟨_,rfl,go_gen (s:=({ s with heap:=h',toks:=tk' }:Shared).setGen g .running |>.setGen g gs') hgen' ?_⟩
 exact hQ { R with Z:=fun b=>R.Z b ∨ b = T } _ _ gs' K.2 K.1 (fun b hb=>ap_add r ap (D:=a :: D) (fun b hb=>(List.mem_cons.mp hb).elim (fun q=>.inl (q ▸ haf)) (hnew b)) hb fun q=>(List.mem_cons.mp hb).elim (fun e=>ne_none (isGen_al hg) (by rw [← e,q];exact nT)) fun h=>nD (q ▸ h))
  (.tup (.inr rfl) gT (Nat.le_of_ble_eq_true rfl) (.cons .int (.cons (.str (Nat.le_trans hz (by decide))) .nil))) hgen' hal (setGen_self (s:=s.setGen g .running) (gs:=.running) (setGen_self hgs)) hkap
theorem gen_done {Q:Shared→Prop} (ga:GA W.lev A) (hlev:1 ≤ W.lev) (lim:s.heap.NoLimit) (r:Rel W.I W.B W.os R st s) (ap:ApartFp W.I fp R)
  (hg:s.heap.IsGen a g) (hgs:s.gens[g]? = some gs) (hnew:∀ b ∈ D,b ∈ fp ∨ s.heap.get? b = none)
  (hgo:gs.Goes (model prog w) A.in1 (gR D) (gP D l) 0 (.send .none) (s.setGen g .running))
  (hQ:∀ R' s',StepX (· ∈ fp) (· = g) R s R' s'→Rel W.I W.B W.os R' st s'→Q s'):wpAny (model prog w) A (pyNext (.ref a)) (fun r s₁=>r = none ∧ Q s₁) E s:=by
 have hd:=ga.2.1
 refine pyNext_genQ (P:=fun n s₀ s₁=>n = 0 ∧ gSince D s₀ s₁) ga.1 lim (by exact Nat.lt_of_le_of_lt (Nat.le_add_right _ _) (by assumption)) hg hgs hgo (fun val s₁ gs' hb hv=>(hv.2.2.2 s₁ fun _ _ _ e=>e).elim) (fun s₁ hp h' hk=>⟨rfl,?_⟩)
 obtain ⟨_,h₁,tk₁,rfl,hk₁⟩:=hp
 replace hk₁:∀ b o,b ∉ D→s.heap.get? b = some o→h₁.get? b = some o:=hk₁
 have hkf:∀ b o,b ∉ fp→s.heap.get? b = some o→h'.get? b = some o:=fun b o hb q=>hk b o (hk₁ b o (fun h=>(hnew b h).elim hb fun n=>(get_ne n q) rfl) q)
 have K:=r.loose2 (gs:=(· = g)) ap (h':=h') (tk:=tk₁) (gn:=((s.setGen g .running).setGen g .finished).gens) (Z':=R.Z) hkf (fun _ z=>z) (fun b z=>.inl z)
  (fun b z=>(r.zal b (.inl z)).imp fun o=>hkf b o fun q=>(ap b q).1 z)
  (setGen_bare (s:=s.setGen g .running) (setGen_bare r.bare rfl) rfl) (fun j x hj hx=>setGen_other (s:=s.setGen g .running) hj (setGen_other hj hx))
 exact hQ R _ K.2 K.1
end
end
section
variable {prog:Program} {w:World} {A:Around} {W:Wd prog w} {s₀ s s':Shared} {env:Env} {x:T} {t:Tok} {R R':RS} {st st':St} {mg mb:Str→Option Value}
section
variable {P:Nat→Pos} {fE a L:Addr} {g k:Nat} {fp:List Addr}
theorem genJ.go {C:Prop} (E:EscW P W.B mg mb fE) (hh:A.handled = none) (ev:EnvIs env L escScope) (j:genJ prog w A P env a L g x t fp k R s) (r:Rel W.I W.B W.os R st s) (ap:ApartFp W.I fp R)
  (c:∀ {e it gs},s.heap.IsGen a g→s.gens[g]? = some gs→a ∈ fp→a ∉ [L,e,it]→(∀ b ∈ [L,e,it],b ∈ fp ∨ s.heap.get? b = none)→(∀ b ∈ fp,b ∈ [a,L,e,it]) →
   gs.Goes (model prog w) A.in1 (gR [L,e,it]) (gP [L,e,it] (escGo 0 false x)) ((escGo 0 false x).length - k) (.send .none) (s.setGen g .running)→C):C:=by
 cases j with
 | new hg hgs hne hn hm =>
  have nn:∀ {b},s.heap.objs.size ≤ b→s.heap.get? b = none:=get_ge
  have n1:=nn (Nat.le_succ s.heap.objs.size)
  have n0:=nn (Nat.le_refl s.heap.objs.size)
  refine (isGen_al hg).elim fun oa hoa=>?_
  refine c (e:=s.heap.objs.size + 1) (it:=s.heap.objs.size) hg hgs (.head _) (fun hb=>(List.mem_cons.mp hb).elim hne fun hb=>(List.mem_cons.mp hb).elim (get_ne n1 hoa).symm fun hb=>(get_ne n0 hoa).symm (List.mem_singleton.mp hb))
   (fun b hb=>(List.mem_cons.mp hb).elim (fun q=>.inl (q ▸ .tail _ (.head _))) fun hb=>.inr ((List.mem_cons.mp hb).elim (fun q=>q ▸ n1) fun hb=>List.mem_singleton.mp hb ▸ n0)) (fun b hb=>(List.mem_cons.mp hb).elim (fun q=>q ▸ .head _) fun q=>List.mem_singleton.mp q ▸ .tail _ (.head _)) ?_
  exact ⟨rfl,esc_start (s:=s.setGen g .running) E hh ev (show BaseIn W.B s.heap from baseIn_of r) (notB_of r (ap L (.tail _ (.head _))).1) hn hm⟩
 | mid hg hgs hna hal hgo=>exact c hg hgs (.head _) hna (fun b hb=>.inl (.tail _ hb)) (fun b hb=>hb) (hgo _ fun b hb o q=>q)
theorem genWk {ts:List Expr} {tk:Nat} {tp:Pos} (E:EscW P W.B mg mb fE) (ga:GA W.lev A) (hlev:1 ≤ W.lev) (ev:EnvIs env L escScope) :
  WkG W A (.Tuple ts tk tp) (.ref a) (escGo 0 false x) (· = g) (genJ prog w A P env a L g x t) where
 alive:=fun j b hb=>by
  cases j with
  | new hg _ _ hn _=>exact (List.mem_cons.mp hb).elim (fun q=>q ▸ isGen_al hg) fun q=>List.mem_singleton.mp q ▸ let ⟨o,_,_,e,_⟩:=hn;⟨o,e⟩
  | mid hg _ _ hal _=>exact (List.mem_cons.mp hb).elim (fun q=>q ▸ isGen_al hg) (hal b)
 frame:=fun j hZ hmu hh hgens=>by
  cases j with
  | new hg hgs hne hn hm=>exact .new (isGen_keep hg fun o=>(hh _ (.inr (.head _))).trans) (hgens _ _ hgs) hne (ns_keep hn fun o=>(hh _ (.inr (.tail _ (.head _)))).trans) hm
  | mid hg hgs hna hal hgo=>exact .mid (isGen_keep hg fun o=>(hh _ (.inr (.head _))).trans) (hgens _ _ hgs) hna (fun b hb=>(hal b hb).imp fun o=>(hh b (.inr (.tail _ hb))).trans) fun s'' hs=>hgo s'' fun b hb o q=>hs b hb o ((hh b (.inr (.tail _ hb))).trans q)
 item:=fun hl j r ap hQ=>j.go E ga.1 ev r ap fun hg hgs haf hna hnew hsub hgo=>gen_next ga hlev (E.lim _ (baseIn_of r)) r ap hg hgs haf hna hnew hl hgo fun R' s' val gs' a' r' ap' v' hg' hal' e hgo' =>
  hQ _ R' s' val hsub (fun b hb=>(List.mem_cons.mp hb).elim (fun q=>.inl (q ▸ haf)) (hnew b)) a' r' ap' v' (.mid hg' e hna hal' hgo')
 done:=fun j r ap hQ=>j.go E ga.1 ev r ap fun hg hgs haf hna hnew hsub hgo=>gen_done ga hlev (E.lim _ (baseIn_of r)) r ap hg hgs hnew (by rw [Nat.sub_self] at hgo;exact hgo) hQ
end
set_option tactic.hygienic true in
theorem esc_call {P:Nat→Pos} {fE:Addr} (Ew:EscW P W.B mg mb fE) (hlev:1 ≤ W.lev) (E:Value→Shared→Prop) (x:T) (t:Tok) {Q:Value→Shared→Prop} (ts:List Expr) (k:Nat) (p:Pos) (ga:GA W.lev A) (r:Rel W.I W.B W.os R st s)
  (h:∀ R' s' itv fp gs J,Step R s R' s'→Rel W.I W.B W.os R' st s'→WkG W A (.Tuple ts k p) itv (escGo 0 false x) gs J→J fp 0 R' s'→(∀ b ∈ fp,s.heap.get? b = none)→(∀ g,gs g→s.gens[g]? = none)→ApartFp W.I fp R'→Q itv s') :
  wpAny (model prog w) A (call (.ref fE) [.str (strOf x) t]) (fun xv s₁=>wpAny (model prog w) A (pyIter xv) Q E s₁) E s:=by
 have hd:=ga.2.1
 have hB:BaseIn W.B s.heap:=baseIn_of r
 refine Classical.byContradiction fun hcon=>?_
 obtain ⟨o,fd,hBo,hdata,hg,hb,hclo,hbody,hscope,hbind,hrec⟩:=Ew.fn
 refine hcon ?_
 refine wpAny_call (codeAny_call_generator (by exact Nat.lt_of_le_of_lt (Nat.le_add_right _ _) (by assumption)) (hB _ _ hBo) hdata (by rw [hscope];rfl) (by rw [hscope];rfl) hbody (hrec _ hB) ?_)
 rw [hbind,hscope,hg,hclo,hb]
 refine wpAny_pure (wpAny_newFunctionEnv (by decide) (by intro y hy;rw [List.mem_singleton.mp hy];rfl) (fun h' hn sb=>⟨(Ew.lim _ hB).fresh _ sb,?_⟩) rfl)
 have k1:∀ b o,s.heap.get? b = some o→h'.get? b = some o:=fun b o q=>sb.extBut b o (Nat.ne_of_lt (Heap.lt_size q)) (Heap.get?_push_of_some _ q)
 have sz:h'.objs.size = s.heap.objs.size + 1:=by rw [sb.1,Heap.size_push]
 generalize hG:({ cls:=.type "generator",data:=.fields #[.int _ 0,.str fd.name _,.str fd.qualname _] }:Obj) = G
 have hIs:(h'.push G).IsGen h'.objs.size s.gens.size:=by
  rw [← hG];exact ⟨_,_,_,Heap.get?_push_size _ rfl,rfl,rfl,rfl⟩
 have k2:∀ b o,h'.get? b = some o→(h'.push G).get? b = some o:=fun b o q=>Heap.get?_push_of_some _ q
 refine wpAny_pyIter_gen hIs ?_
 have n1:∀ b ∈ [h'.objs.size,s.heap.objs.size],s.heap.get? b = none:=fun b hb=>by
  cases q:s.heap.get? b with
  | none=>rfl
  | some o =>
   have:=Heap.lt_size q
   simp only [List.mem_cons,List.not_mem_nil,or_false] at hb
   rcases hb with rfl | rfl <;> (unfold Addr at *;omega)
 refine Classical.byContradiction fun hcon=>?_
 obtain ⟨r2,s2⟩:=r.grow (h':=h'.push G) (tk:=s.toks + 1 + 1 + 1) (gn:=s.gens.push (.fresh (.func (escBody P) (newEnv escScope s.heap.objs.size mainGlobals [] (fd.qualname ++ ".<locals>.") (some fE) fd.code none builtinsNs)))) R.Z (fun b o q=>k2 b o (k1 b o q)) (fun g y q=>by
   rw [Array.getElem?_push];split
   ·rename_i e;subst e;rw [Array.getElem?_eq_none (Nat.le_refl _)] at q;exact nso q
   ·exact q) (r.bare.push rfl) (fun _ z=>z) (fun _ z=>.inl z) (fun b z=>let ⟨o,q⟩:=r.zal b (.inl z);⟨o,k2 _ _ (k1 _ _ q)⟩)
 refine hcon ?_
 refine h R _ (.ref h'.objs.size) [h'.objs.size,s.heap.objs.size] (· = s.gens.size) (genJ prog w A P (newEnv escScope s.heap.objs.size mainGlobals [] (fd.qualname ++ ".<locals>.") (some fE) fd.code none builtinsNs) h'.objs.size s.heap.objs.size s.gens.size x t) ?_ ?_ (genWk Ew ga hlev ⟨rfl,rfl,rfl,rfl⟩) ?_ n1 (fun g q=>by subst q;exact Array.getElem?_eq_none (Nat.le_refl _)) (ApartFp.new r n1)
 ·exact s2
 ·exact r2
 ·exact .new hIs (Array.getElem?_push_size ..) (by rw [sz];exact Nat.succ_ne_self _) (hn.push _) rfl
end
end Mine
namespace Mine
open PySem PySem.Spec PySem.Calls PyProof.Rows PySem.W
noncomputable def Cn (N:Nat) (tab:Nat→Option (S × Nat × Nat)):Nat→Con
 | 0,_,_=>none
 | n + 1,k,vs=>match tab k with
  | some (b,np,size)=>runC (Cn N tab n) N b np size vs
  | none=>none
structure Base where
 k:LK
 B:Addr→Option Obj
 os:OsState
 mg:Str→Option Value
 mb:Str→Option Value
 G:Gl
 N:Nat
 tab:Nat→Option (S × Nat × Nat)
 fL:Addr
 cL:Addr
 tb:Addr
 lq:Str
 fE:Addr
 P:Nat→Pos
noncomputable def Base.wd (b:Base) (prog:Program) (w:World) (n:Nat):Wd prog w:={ I:=lexI b.k b.tb b.lq,B:=b.B,os:=b.os,C:=Cn b.N b.tab n,G:=b.G,lev:=5 + n,mg:=b.mg,mb:=b.mb }
structure FnOkB (B:Addr→Option Obj) (fd:FuncData) (body:List Stmt) (ps:List Str):Prop where
 globals:fd.globals = mainGlobals
 builtins:fd.builtins = builtinsNs
 closure:fd.closure = []
 body:fd.body = .stmts body
 kind:fd.scope.kind = .function
 gen:fd.scope.isGenerator = false
 cor:fd.scope.isCoroutine = false
 nodup:nodup (fd.scope.names.map (·.1)) = true
 params:(own fd.scope.names).take ps.length = ps
 bind:∀ vals:List Value,vals.length = ps.length→bindArgs fd ⟨vals,[]⟩ = pure (ps.zip vals)
 lim:∀ h:Heap,BaseIn B h→h.NoLimit
 code:∀ h:Heap,BaseIn B h→h.CodeRec fd.code fd.qualname
inductive EntU (b:Base) (x:Str) (k:Nat):Prop
 | mk (a:Addr) (o:Obj) (fd:FuncData) (body:List Stmt) (ps:List Str) (extra:Nat) (M:List Str) (m n:Nat) (s:S):b.tab k = some (s,ps.length,(own fd.scope.names).length + extra)→b.mg x = some (.ref a)→b.B a = some o→o.data = .func fd→FnOkB b.B fd body ps→cB (cS b.G M (Cx.fn fd.scope.names extra) m n) body = some s→EntU b x k
noncomputable def Ent (b:Base) (x:Str):GV→Prop
 | .cst v=>∃ val,b.mg x = some val ∧ ∀ Z mu h,VR Z mu h v val
 | .fn (.user k)=>EntU b x k
 | .fn f=>b.mg x = none ∧ b.mb x = some f.callee
 | .set=>b.mg x = none ∧ b.mb x = some (.type "set")
 | .enum=>b.mg x = none ∧ b.mb x = some (.type "enumerate")
 | .lexer=>b.mg x = some (.ref b.fL)
 | .esc=>b.mg x = some (.ref b.fE)
structure Base.Ok (b:Base):Prop where
 lx:LW3 b.k b.B b.mg b.mb b.fL b.cL b.tb b.lq
 ec:EscW b.P b.B b.mg b.mb b.fE
 ent:∀ x g,b.G x = some g→Ent b x g
theorem Base.escOk {prog:Program} {w:World} {b:Base} (H:b.Ok) (n:Nat):EscOk (b.wd prog w n):=by
 intro x hx
 refine Classical.byContradiction fun hcon=>?_
 refine (H.ec.fn).elim fun o k0=>k0.elim fun fd k1=>k1.elim fun h1 k2=>k2.elim fun h2 _=>?_
 refine hcon ?_
 refine ⟨b.fE,o,fd,H.ent x _ hx,h1,h2,fun A E x t R st s Q ts k p ga hl r h=>?_⟩
 exact esc_call (W:=b.wd prog w n) H.ec (show 1 ≤ 5 + n by lia) E x t ts k p ga r h
theorem fn_base {prog:Program} {w:World} {b:Base} {n:Nat} {fd:FuncData} {body:List Stmt} {ps:List Str} {extra:Nat} (F:FnOkB b.B fd body ps):FnOk (b.wd prog w n) fd body ps extra :=
 ⟨F.globals,F.builtins,F.closure,F.body,F.kind,F.gen,F.cor,F.nodup,F.params,F.bind,F.lim,F.code⟩
noncomputable def CallsOk (prog:Program) (w:World) (b:Base) (n:Nat):Prop:=∀ (x:Str) (k:Nat),b.G x = some (.fn (.user k))→∃ a o fd,b.mg x = some (.ref a) ∧ b.B a = some o ∧ o.data = .func fd ∧
  ∀ (A:Around) (E:Value→Shared→Prop) (vs:List V) (ws:List Value) (v:V) (R:RS) (st:St) (s:Shared) (Q:Value→Shared→Prop),GA (b.wd prog w n).lev A→(b.wd prog w n).C k vs = some v→VRs R.Z R.mu s.heap vs ws→Rel (b.wd prog w n).I (b.wd prog w n).B (b.wd prog w n).os R st s →
   PostV (b.wd prog w n).I (b.wd prog w n).B (b.wd prog w n).os R s st v Q→wpAny (model prog w) A (call (.ref a) ws) Q E s
theorem Base.wdOk' {prog:Program} {w:World} {b:Base} (H:b.Ok) (n:Nat) (hu:CallsOk prog w b n):(b.wd prog w n).Ok:={
  hmg:=fun h hB=>H.lx.main h hB
  hmb:=fun h hB=>H.lx.bi h hB
  gcst:=fun x v hx=>H.ent x _ hx
  gfn:=fun x f hx hu=>by
   have:=H.ent x _ hx
   cases f <;> first | exact this | exact (hu _ rfl).elim
  gset:=fun x hx=>H.ent x _ hx
  genum:=fun x hx=>H.ent x _ hx
  guser:=hu
  glexer:=fun x hx=>by
   refine Classical.byContradiction fun hcon=>?_
   refine (H.lx.lx).elim fun o k0=>k0.elim fun fd k1=>k1.elim fun h1 k2=>k2.elim fun h2 _=>?_
   refine hcon ?_
   exact ⟨b.fL,o,fd,H.ent x _ hx,h1,h2,fun A E x t R st s Q ga hl r h=>lex_new (show 2 ≤ 5 + n by lia) H.lx ga r h⟩
  tok:=fun A E env x xp ap pos R st st' s m a f v Q ga hl r hf ht h=>lex_tok (show 3 ≤ 5 + n by lia) H.lx ga hl r hf ht h
  line:=fun A E R st s m a f k Q ga r hf ht h=>lex_line H.lx r hf ht h
  push:=fun A E env x xp ap pos arg R st s m a f Q ga hl r hf hm h=>lex_push (show 1 ≤ 5 + n by lia) H.lx ga hl r hf hm h }
theorem Base.wdOk {prog:Program} {w:World} {b:Base} (H:b.Ok):∀ n,(b.wd prog w n).Ok:=by
 intro n
 induction n with
 | zero =>
  refine Base.wdOk' H 0 fun x k hx=>?_
  refine Classical.byContradiction fun hcon=>?_
  obtain ⟨a,o,fd,body,ps,extra,M,m,n',s,h1,h2,h3,h4,h5,h6⟩:EntU b x k:=H.ent x _ hx
  refine hcon ?_
  exact ⟨a,o,fd,h2,h3,h4,fun A E vs ws v R st s' Q ga hC hv r h=>by cases hC⟩
 | succ n ih =>
  refine Base.wdOk' H (n + 1) fun x k hx=>?_
  obtain ⟨a,o,fd,body,ps,extra,M,m,n',s,h1,h2,h3,h4,h5,h6⟩:EntU b x k:=H.ent x _ hx
  refine ⟨a,o,fd,h2,h3,h4,fun A E vs ws v R st s' Q ga hC hv r h=>?_⟩
  have hC':runC (Cn b.N b.tab n) b.N s ps.length ((own fd.scope.names).length + extra) vs = some v:=by
   have:Cn b.N b.tab (n + 1) k vs = some v:=hC
   unfold Cn at this
   rw [h1] at this
   exact this
  exact call_ok (W:=b.wd prog w n) ih (Base.escOk H n) h3 h4 (fn_base h5) h6 ga hC' hv r h
theorem vrs_ints {Z:Addr→Prop} {mu:List (List Addr)} {h:Heap} {l:List Value} {ns:List Int} (r:IntsAre l ns):VRs Z mu h (ns.map V.int) l:=by
 induction r with
 | nil=>exact .nil
 | cons _ _ _ ih=>exact .cons .int ih
noncomputable def startR (g:Heap):RS:={ dt:=[],mu:=[],Z:=fun a=>∃ o,g.get? a = some o,P:=fun _=>False }
theorem law_go {prog:Program} {w:World} {b:Base} {s₁:Shared} {fa:Addr} {o:Obj} {fd:FuncData} {body:List Stmt} {extra M m n} {bl:S} {l:Addr} {items:List Value} {ns:List Int} {Q E:Value→Shared→Prop}
  (H:b.Ok) (hB:b.B = fun x=>(ghostOf s₁.heap [(b.cL,b.tb)]).get? x) (hos:b.os = s₁.os) (hT:TabsAt [(b.cL,b.tb)] s₁.heap) (ho:b.B fa = some o) (hd:o.data = .func fd)
  (F:FnOkB b.B fd body ["script"]) (hb:cB (cS b.G M (Cx.fn fd.scope.names extra) m n) body = some bl)
  (hr:runC (Cn b.N b.tab 3) b.N bl 1 ((own fd.scope.names).length + extra) [.list (ns.map V.int)] = some (.bool true)) (hg:s₁.gens = #[])
  (hl:s₁.heap.get? l = some (listO items 0)) (hI:IntsAre items ns) (hlen:ns.length ≤ 63)
  (hQ:∀ s',OldK s₁.heap s'.heap→s'.os = s₁.os→AllBare s'.gens→Q (.bool true) s'):wpAny (model prog w) callerA (call (.ref fa) [.ref l]) Q E s₁:=by
 have hsub:∀ x o,(ghostOf s₁.heap [(b.cL,b.tb)]).get? x = some o→s₁.heap.get? x = some o:=fun x o e=>of_hideAll _ e
 have hne:(ghostOf s₁.heap [(b.cL,b.tb)]).get? b.tb = none:=hideAll_none _ (.head _)
 have hT0:=(hT _ (.head _)).2
 have r:Rel (b.wd prog w 3).I (b.wd prog w 3).B (b.wd prog w 3).os (startR (ghostOf s₁.heap [(b.cL,b.tb)])) { vars:=[],mu:=[] } s₁:={
  base:=fun x o e=>by
   have e:b.B x = some o:=e
   rw [hB] at e
   exact ⟨⟨_,e⟩,hsub _ _ e⟩
  zal:=fun x h=>h.elim (fun ⟨o,e⟩=>⟨o,hsub _ _ e⟩) False.elim
  len:=rfl
  var:=fun i v e=>by cases e
  loc:=fun i l e=>by cases e
  locf:=fun i l a e=>by cases e
  apart:=fun i j l l' _ e=>by cases e
  mulen:=rfl
  muo:=fun n o e=>by cases e
  fp:=fun n f x o e=>by cases e
  fpa:=fun n m f g x o _ e=>by cases e
  dead:=fun n f x e=>by cases e
  tbf:=⟨fun ⟨o,e⟩=>(nomatch (show (none:Option Obj) = some o from hne.symm.trans e)),fun e=>e⟩
  tab:=⟨none,⟨hT0,fun _ _ e=>by cases e⟩⟩
  bare:=.of_eq hg
  os:=hos.symm }
 have hln:(ghostOf s₁.heap [(b.cL,b.tb)]).get? l = some (listO items 0):=ghost_get hT hl (fun q=>by cases q)
 refine call_ok (W:=b.wd prog w 3) (R:=startR (ghostOf s₁.heap [(b.cL,b.tb)])) (st:={ vars:=[],mu:=[] }) (Base.wdOk H 3) (Base.escOk H 3) ho hd (fn_base F) hb ⟨rfl,show callerA.depth + 9 < recursionLimit by decide,show callerA.units + 100 + 10 * 9 < cLine by decide⟩ hr (.cons (.list ⟨_,hln⟩ hl (by rw [List.length_map];exact Nat.le_trans (by assumption) (by decide)) (vrs_ints hI)) .nil) r fun R' s' v st r' x=>?_
 cases x
 refine hQ s' ⟨fun c o e=>?_,fun c o e=>st.alive c o e⟩ (r'.os.trans hos) r'.bare
 by_cases q:c = b.tb
 ·subst q
  rw [hT0] at e
  cases e
  obtain ⟨pre,T,_⟩:=r'.tab
  cases pre with
  | none=>exact .inl T
  | some p =>
   obtain ⟨cr,cl⟩:=p
   exact .inr (.inl ⟨((hT _ (.head _)).1.tab hT0).isCodeTable,rfl,#[],_,rfl,by rw [Array.empty_append];exact T.1⟩)
 ·exact .inl ((st.keep c (.inl ⟨o,ghost_ne e (by simpa using q)⟩)).trans e)
noncomputable def getFd (K:Frag) (f:Addr):FuncData:=match K.lookup f with
 | some ⟨_,_,.func fd,_⟩=>fd
 | _=>default
noncomputable def stmtsOf:FuncBody→List Stmt
 | .stmts b=>b
 | _=>[]
noncomputable def getObj (K:Frag) (f:Addr):Obj:=(K.lookup f).getD { cls:=.none,data:=.fields #[] }
noncomputable def fdShape (K:Frag) (f:Addr):Option (Value × Data):=(K.lookup f).map fun o=>(o.cls,o.data)
theorem getObj_of {K:Frag} {f:Addr} {c:Value} {d:Data} (h:fdShape K f = some (c,d)):K.lookup f = some (getObj K f) ∧ (getObj K f).cls = c ∧ (getObj K f).data = d:=by
 unfold fdShape at h
 unfold getObj
 cases e:K.lookup f with
 | none=>rw [e] at h;cases h
 | some o=>rw [e] at h;cases h;exact ⟨rfl,rfl,rfl⟩
theorem fnIn_mk {K:Frag} {f:Addr} {body:List Stmt} {scope:Scope} {xs:List Str} (h1:fdShape K f = some (.type "function",.func (getFd K f)))
  (h2:((getFd K f).globals,(getFd K f).builtins,(getFd K f).closure) = (mainGlobals,builtinsNs,[])) (h3:(getFd K f).body = .stmts body) (h4:(getFd K f).scope = scope)
  (h5:∀ vals:List Value,vals.length = xs.length→bindArgs (getFd K f) ⟨vals,[]⟩ = pure (xs.zip vals)) (h6:codeIn K (getFd K f).code (getFd K f).qualname = true):FnIn K f body scope xs:=by
 refine (getObj_of h1).elim fun e1 k0=>k0.elim fun e2 e3=>?_
 simp only [Prod.mk.injEq] at h2
 exact ⟨_,_,e1,e2,e3,h2.1,h2.2.1,h2.2.2,h3,h4,h5,h6⟩
structure FnK (K:Frag) (f:Addr) (ps:List Str):Prop where
 shape:fdShape K f = some (.type "function",.func (getFd K f))
 gl:(getFd K f).globals = mainGlobals
 bu:(getFd K f).builtins = builtinsNs
 clo:(getFd K f).closure = []
 body:(getFd K f).body = .stmts (stmtsOf (getFd K f).body)
 kind:(getFd K f).scope.kind = .function
 gen:(getFd K f).scope.isGenerator = false
 cor:(getFd K f).scope.isCoroutine = false
 nod:nodup ((getFd K f).scope.names.map (·.1)) = true
 params:(own (getFd K f).scope.names).take ps.length = ps
 bind:∀ vals:List Value,vals.length = ps.length→bindArgs (getFd K f) ⟨vals,[]⟩ = pure (ps.zip vals)
 code:codeIn K (getFd K f).code (getFd K f).qualname = true
theorem FnK.okB {K:Frag} {f:Addr} {ps:List Str} {B:Addr→Option Obj} (F:FnK K f ps) (hK:∀ h,BaseIn B h→K.In h) (hl:∀ h,BaseIn B h→h.NoLimit):FnOkB B (getFd K f) (stmtsOf (getFd K f).body) ps :=
 ⟨F.gl,F.bu,F.clo,F.body,F.kind,F.gen,F.cor,F.nod,F.params,F.bind,hl,fun h hB=>codeRec_of (hK h hB) F.code⟩
theorem len_succ {P:List Value→Prop} {n:Nat} (h:∀ a t,t.length = n→P (a :: t)) (vals:List Value):vals.length = n + 1→P vals :=
 List.rec (motive:=fun v=>v.length = n + 1→P v) (fun e=>absurd e (Nat.succ_ne_zero n).symm) (fun a t _ e=>h a t (Nat.succ.inj e)) vals
theorem len_one {P:List Value→Prop} (h:∀ a,P [a]):∀ vals:List Value,vals.length = 1→P vals:=len_succ fun a _ e=>List.eq_nil_of_length_eq_zero e ▸ h a
theorem len_two {P:List Value→Prop} (h:∀ a b,P [a,b]):∀ vals:List Value,vals.length = 2→P vals:=len_succ fun a=>len_one (P:=fun t=>P (a :: t)) (h a)
theorem len_three {P:List Value→Prop} (h:∀ a b c,P [a,b,c]):∀ vals:List Value,vals.length = 3→P vals:=len_succ fun a=>len_two (P:=fun t=>P (a :: t)) (h a)
noncomputable def getV (K:Frag) (x:Str):Value:=match nsIn K mainGlobals x with
 | some (some v)=>v
 | _=>.none
noncomputable def glOf (l:List (Str × GV)):Gl:=fun x=>l.lookup x
set_option tactic.hygienic true in
theorem gl_mem {l:List (Str × GV)} {x:Str} {g:GV} (h:glOf l x = some g):(x,g) ∈ l:=by
 unfold glOf at h
 induction l with
 | nil=>first | exact nso h | exact fat h | obtain rfl:=Option.some.inj h
 | cons p r ih =>
  obtain ⟨y,z⟩:=p
  rw [List.lookup_cons] at h
  split at h
  ·rename_i q
   obtain rfl:=Option.some.inj h
   rw [beq_iff_eq] at q
   subst q
   exact .head _
  ·exact .tail _ (ih h)
theorem post_true (l:OpenLaw) (args ds:List WData):l.row.claim.post args (.bool true) ds = true:=by
 show (WShape.has [] (.bool true) .bool && WTm.holds [] (.eq .res (.lit (.bool true))) { args:=args,res:=some (.bool true),after:=ds }) = true
 have h1:WShape.has [] (.bool true) .bool = true:=by
  rfl
 have h2:WTm.holds [] (.eq .res (.lit (.bool true))) { args:=args,res:=some (.bool true),after:=ds } = true:=by
  simp [WTm.holds,WTm.value,PySem.W.same]
 simp only [h1,h2];rfl
theorem well_ints {P:Params} {h:Heap}:∀ {ns:List Int} {items:List Value},WellAll P h items (ofPys (ns.map PyData.int))→IntsAre items ns
 | [],_,r=>by cases r;exact .nil
 | n :: ns,_,r=>by cases r with | cons r1 r2=>cases r1;exact .cons _ _ (well_ints r2)
end Mine
namespace Mine
open PySem
section
variable {C:Con} {N:Nat} {st st₁ st₂ st₃:St} {u v w:V} {x y z:X}
theorem oB_eq {α β:Type} {o:Option α} {a:α} (h:o = some a) (k:α→Option β):o.bind k = k a:=h ▸ rfl
theorem ev_var {i:Nat} (h:st.get i = some v):ev C (.var i) st = some (v,st):=oMap _ h
theorem ev_cst:ev C (.cst v) st = some (v,st):=rfl
theorem ev_bin {o:Bop} (h1:ev C x st = some (u,st₁)) (h2:ev C y st₁ = some (v,st₂)) (h:bop o (st₂.see u) (st₂.see v) = some w):ev C (.bin o x y) st = some (w,st₂):=(oS_eq h1 _).trans ((oS_eq h2 _).trans (oMap _ h))
theorem ev_cmp {o:Cop} {b:Bool} (h1:ev C x st = some (u,st₁)) (h2:ev C y st₁ = some (v,st₂)) (h:cop o (st₂.see u) (st₂.see v) = some b):ev C (.cmp o x y) st = some (.bool b,st₂):=(oS_eq h1 _).trans ((oS_eq h2 _).trans (oMap _ h))
theorem small_nat {n:Nat} (h:n ≤ 1000000):small (n:Int) = true:=by unfold small;rw [decide_eq_true (by exact Int.natCast_nonneg _),decide_eq_true (by lia)];rfl
theorem fn_range1 {i:Int} (h:small i = true):fn C .range [.int i] = some (.rng 0 i 1):=if_pos h
theorem fn_range2 {i j:Int} (h:(small i && small j) = true):fn C .range [.int i,.int j] = some (.rng i j 1):=if_pos h
theorem fn_range3 {i j k:Int} (h:(small i && (small j && (decide (k ≤ 1000000) && decide (0 < k)))) = true):fn C .range [.int i,.int j,.int k] = some (.rng i j k):=if_pos h
theorem ev_nil:ev C .nil st = some (.list [],st):=rfl
theorem ev_cons {vs:List V} (h1:ev C x st = some (u,st₁)) (h2:ev C y st₁ = some (.list vs,st₂)):ev C (.cons x y) st = some (.list (u :: vs),st₂):=(oS_eq h1 _).trans (oSL_eq h2 _)
theorem ev_one (h1:ev C x st = some (u,st₁)):ev C (.cons x .nil) st = some (.list [u],st₁):=ev_cons h1 ev_nil
theorem ev_call {f:Fn} {vs:List V} (h1:ev C x st = some (.list vs,st₁)) (h:fn C f (st₁.sees f vs) = some w):ev C (.call f x) st = some (w,st₁):=(oSL_eq h1 _).trans (oMap _ h)
theorem ev_meth {m:Me} {vs:List V} (h1:ev C x st = some (u,st₁)) (h2:ev C y st₁ = some (.list vs,st₂)) (h:meth m (st₂.see u) (vs.map st₂.see) = some w):ev C (.meth m x y) st = some (w,st₂):=(oS_eq h1 _).trans ((oSL_eq h2 _).trans (oMap _ h))
theorem ev_fresh {l:List V} (h1:ev C x st = some (.list l,st₁)):ev C (.fresh x) st = some (.mref st₁.mu.length,{ st₁ with mu:=st₁.mu ++ [.list l] }):=oSL_eq h1 _
theorem ev_lst {vs:List V} (h1:ev C x st = some (.list vs,st₁)):ev C (.lst x) st = some (.list vs,st₁):=oSL_eq h1 _
theorem ev_tupl {vs:List V} (h1:ev C x st = some (.list vs,st₁)):ev C (.tupl x) st = some (.tup vs,st₁):=oSL_eq h1 _
theorem ev_neg {i:Int} (h1:ev C x st = some (.int i,st₁)):ev C (.neg x) st = some (.int (-i),st₁):=oSI_eq h1 _
theorem ev_not {b:Bool} (h:evT C x st = some (b,st₁)):ev C (.not x) st = some (.bool !b,st₁):=evT_el h fun _ h1 h2=>(oS_eq h1 _).trans (oMap _ h2)
theorem ev_idx_l {l:List V} {k:Int} (h1:ev C x st = some (u,st₁)) (h2:ev C y st₁ = some (.int k,st₂)) (hs:st₂.see u = .list l) (h:at? l k = some w):ev C (.idx x y) st = some (w,st₂):=(oS_eq h1 _).trans ((oSI_eq h2 _).trans (oMap _ (by rw [hs];exact h)))
theorem ev_idx_t {l:List V} {k:Int} (h1:ev C x st = some (u,st₁)) (h2:ev C y st₁ = some (.int k,st₂)) (hs:st₂.see u = .tup l) (h:at? l k = some w):ev C (.idx x y) st = some (w,st₂):=(oS_eq h1 _).trans ((oSI_eq h2 _).trans (oMap _ (by rw [hs];exact h)))
theorem ev_idx_s {t:T} {k:Int} {c:Nat} (h1:ev C x st = some (.str t,st₁)) (h2:ev C y st₁ = some (.int k,st₂)) (h:at? t k = some c):ev C (.idx x y) st = some (.str [c],st₂):=(oS_eq h1 _).trans ((oSI_eq h2 _).trans (oMap _ (oMap _ h)))
theorem ev_slc_s {t:T} {l k:V} {lo hi:Option Int} (h1:ev C x st = some (.str t,st₁)) (h2:ev C y st₁ = some (l,st₂)) (h3:ev C z st₂ = some (k,st₃)) (hl:bnd l = some lo) (hk:bnd k = some hi):ev C (.slc x y z) st = some (.str (cut t lo hi),st₃):=(oS_eq h1 _).trans ((oS_eq h2 _).trans ((oS_eq h3 _).trans (by simp only [hl,hk];rfl)))
theorem ev_slc_l {t:List V} {l k:V} {lo hi:Option Int} (h1:ev C x st = some (u,st₁)) (h2:ev C y st₁ = some (l,st₂)) (h3:ev C z st₂ = some (k,st₃)) (hl:bnd l = some lo) (hk:bnd k = some hi) (hs:st₃.see u = .list t):ev C (.slc x y z) st = some (.list (cut t lo hi),st₃):=(oS_eq h1 _).trans ((oS_eq h2 _).trans ((oS_eq h3 _).trans (by simp only [hl,hk,hs];rfl)))
theorem ev_ite {c a b:X} {q:Bool} (h:evT C c st = some (q,st₁)):ev C (.ite c a b) st = if q then ev C a st₁ else ev C b st₁:=evT_el h fun _ h1 h2=>(oS_eq h1 _).trans (by cases q;exact oT_f h2;exact oT_t h2)
theorem ev_ite_t {c a b:X} (h:evT C c st = some (true,st₁)):ev C (.ite c a b) st = ev C a st₁:=(ev_ite h).trans (if_pos rfl)
theorem ev_ite_e {c a b:X} (h:evT C c st = some (false,st₁)):ev C (.ite c a b) st = ev C b st₁:=(ev_ite h).trans (if_neg Bool.false_ne_true)
theorem evT_ev {b:Bool} (h:ev C x st = some (v,st₁)) (ht:truth (st₁.see v) = some b):evT C x st = some (b,st₁):=(oS_eq h _).trans (oMap _ ht)
theorem evT_and_t (h:evT C x st = some (true,st₁)):evT C (.and x y) st = evT C y st₁:=evT_el h fun _ h1 h2=>congrArg (fun o=>oS o _) ((oS_eq h1 _).trans (oT_t h2))
theorem evT_and_f (h:evT C x st = some (false,st₁)):evT C (.and x y) st = some (false,st₁):=evT_el h fun _ h1 h2=>evT_ev ((oS_eq h1 _).trans (oT_f h2)) h2
theorem evT_or_t (h:evT C x st = some (true,st₁)):evT C (.or x y) st = some (true,st₁):=evT_el h fun _ h1 h2=>evT_ev ((oS_eq h1 _).trans (oT_t h2)) h2
theorem evT_or_f (h:evT C x st = some (false,st₁)):evT C (.or x y) st = evT C y st₁:=evT_el h fun _ h1 h2=>congrArg (fun o=>oS o _) ((oS_eq h1 _).trans (oT_f h2))
theorem evT_and {p q:Bool} (h:evT C x st = some (p,st)) (h':evT C y st = some (q,st)):evT C (.and x y) st = some (p && q,st):=by
 cases p
 ·exact evT_and_f h
 ·simp only [evT_and_t h,h'];rfl
theorem evT_or {p q:Bool} (h:evT C x st = some (p,st)) (h':evT C y st = some (q,st)):evT C (.or x y) st = some (p || q,st):=by
 cases p
 ·simp only [evT_or_f h,h'];rfl
 ·exact evT_or_t h
theorem evT_cmp {o:Cop} {b:Bool} (h1:ev C x st = some (u,st₁)) (h2:ev C y st₁ = some (v,st₂)) (h:cop o (st₂.see u) (st₂.see v) = some b):evT C (.cmp o x y) st = some (b,st₂):=evT_ev (ev_cmp h1 h2 h) rfl
theorem evT_not {b:Bool} (h:evT C x st = some (b,st₁)):evT C (.not x) st = some (!b,st₁):=evT_ev (ev_not h) rfl
theorem ex_seq {a b:S} (h:ex C N a st = some (.next,st₁)):ex C N (.seq a b) st = ex C N b st₁:=oF_n h
theorem ex_seq_ret {a b:S} (h:ex C N a st = some (.ret v,st₁)):ex C N (.seq a b) st = some (.ret v,st₁):=oF_r h
theorem ex_if_f {c:X} {a:S} (h:evT C c st = some (false,st₁)):ex C N (.ite c a .skip) st = some (.next,st₁):=oE_f h
theorem ex_if_t {c:X} {a b:S} (h:evT C c st = some (true,st₁)):ex C N (.ite c a b) st = ex C N a st₁:=oE_t h
theorem ex_if_e {c:X} {a b:S} (h:evT C c st = some (false,st₁)):ex C N (.ite c a b) st = ex C N b st₁:=oE_f h
theorem ex_asg {i:Nat} (h:ev C x st = some (v,st₁)):ex C N (.asg i x) st = some (.next,st₁.set i v):=oS_eq h _
theorem ex_ret (h:ev C x st = some (v,st₁)):ex C N (.ret x) st = some (.ret v,st₁):=oS_eq h _
theorem ex_for {t:Tg} {b:S} {l:List V} (h:ev C x st = some (u,st₁)) (hi:items u = some l):ex C N (.for_ t x b) st = loop (loopF C N t b) l st₁:=(oS_eq h _).trans (by simp only [hi];rfl)
theorem ex_tasg {is:List Nat} {vs:List V} (h:ev C x st = some (.tup vs,st₁)) (hs:setAll st₁ is vs = some st₂):ex C N (.tasg is x) st = some (.next,st₂):=(oST_eq h _).trans (oMap _ hs)
theorem ex_aug {i:Nat} {o:Bop} (hg:st.get i = some u) (h:ev C x st = some (v,st₁)) (ho:aop o u (st₁.see v) = some w):ex C N (.aug i o x) st = some (.next,st₁.set i w):=(oB_eq hg _).trans ((oS_eq h _).trans (oMap _ ho))
theorem ex_app {i n:Nat} {l l':List V} (hg:st.get i = some (.mref n)) (hm:st.mu[n]? = some (.list l')) (h:ev C x st = some (v,st₁)) (hm':st₁.mu[n]? = some (.list l)) (hl:l.length ≤ 1000000):ex C N (.app i x) st = some (.next,{ st₁ with mu:=st₁.mu.set n (.list (l ++ [v])) }):=(oR_eq hg _).trans ((oMl_eq hm _).trans ((oS_eq h _).trans ((oMl_eq hm' _).trans (by rw [decide_eq_true hl];rfl))))
theorem ex_frz {i n:Nat} {l:List V} (hg:st.get i = some (.mref n)) (hm:st.mu[n]? = some (.list l)):ex C N (.frz i) st = some (.next,{ vars:=st.vars.set i (some (.list l)),mu:=st.mu.set n .dead }):=(oR_eq hg _).trans (oMl_eq hm _)
theorem ex_del {i n:Nat} {k:Int} {l:List V} (hg:st.get i = some (.mref n)) (h:ev C x st = some (.int k,st₁)) (hm:st₁.mu[n]? = some (.list l)) (hk:((k == 0 || k == -1) && !l.isEmpty) = true) :
  ex C N (.del i x) st = some (.next,{ st₁ with mu:=st₁.mu.set n (.list (if k == 0 then l.drop 1 else l.take (l.length - 1))) }):=(oR_eq hg _).trans ((oSI_eq h _).trans ((oMl_eq hm _).trans (by rw [hk];rfl)))
theorem ex_seti {i n k:Nat} {l:List V} (h:ev C x st = some (v,st₁)) (hg:st₁.get i = some (.mref n)) (hj:ev C y st₁ = some (.int k,st₂)) (hm:st₂.mu[n]? = some (.list l)) (hk:k < l.length):ex C N (.seti i y x) st = some (.next,{ st₂ with mu:=st₂.mu.set n (.list (l.set k v)) }):=(oS_eq h _).trans ((oR_eq hg _).trans ((oSI_eq hj _).trans ((oMl_eq hm _).trans (by simp only [decide_eq_true (Int.natCast_nonneg k),decide_eq_true (Int.ofNat_lt.mpr hk)];rfl))))
theorem ex_casg {i j:Nat} (h:ev C x st = some (v,st₁)):ex C N (.casg i j x) st = some (.next,(st₁.set i v).set j v):=oS_eq h _
theorem ev_or_f (h:ev C x st = some (u,st₁)) (ht:truth (st₁.see u) = some false):ev C (.or x y) st = ev C y st₁:=(oS_eq h _).trans (oT_f ht)
theorem ev_or_t (h:ev C x st = some (u,st₁)) (ht:truth (st₁.see u) = some true):ev C (.or x y) st = some (u,st₁):=(oS_eq h _).trans (oT_t ht)
theorem whl_f {c:St→Option (Bool × St)} {f:St→Option (Fl × St)} {n:Nat} (h:c st = some (false,st₁)):whl c f (n + 1) st = some (.next,st₁):=oE_f h
theorem whl_t {c:St→Option (Bool × St)} {f:St→Option (Fl × St)} {n:Nat} (h:c st = some (true,st₁)) (h':f st₁ = some (.next,st₂)):whl c f (n + 1) st = whl c f n st₂:=(oE_t h).trans (oF_n h')
theorem loop_nx {f:V→St→Option (Fl × St)} {l:List V} (h:f v st = some (.next,st₁)):loop f (v :: l) st = loop f l st₁:=oF_n h
theorem loop_step {i:Nat} {b:S} {l:List V} (h:ex C N b (st.set i v) = some (.next,st₁)):loop (loopF C N (.one i) b) (v :: l) st = loop (loopF C N (.one i) b) l st₁:=oF_n h
theorem loop_stop {i:Nat} {b:S} {l:List V} (h:ex C N b (st.set i v) = some (.ret w,st₁)):loop (loopF C N (.one i) b) (v :: l) st = some (.ret w,st₁):=oF_r h
theorem ev_emit (h:ev C x st = some (v,st₁)):ev C (.emit x) st = some (.list [v],st₁):=oS_eq h _
theorem ev_rev {l:List V} (h:ev C x st = some (u,st₁)) (hs:st₁.see u = .list l):ev C (.rev x) st = some (.list l.reverse,st₁):=(oS_eq h _).trans (by rw [hs];rfl)
theorem ev_gen_of {t:Tg} {l vs:List V} (h1:ev C x st = some (u,st₁)) (h2:items u = some l) (h3:turns (genF C t y z) l st₁ = some (vs,st₂)):ev C (.gen x t y z) st = some (.list vs,st₂):=(oS_eq h1 _).trans ((oB_eq h2 _).trans (oMap _ h3))
theorem ev_comp_of {own:List Nat} {vs:List V} (h:ev C x st = some (.list vs,st₁)) (hl:vs.length ≤ 16777216):ev C (.comp own x) st = some (.list vs,own.foldl St.clr st₁):=(oSL_eq h _).trans (by unfold okL;rw [if_pos hl];rfl)
theorem genF_t {t:Tg} {vs:List V} (h1:setTg st t v = some st₁) (h2:evT C y st₁ = some (true,st₂)) (h3:ev C z st₂ = some (.list vs,st₃)):genF C t y z v st = some (vs,st₃):=evT_el h2 fun _ e1 e2=>(oB_eq h1 _).trans ((oS_eq e1 _).trans ((oT_t e2).trans (oSL_eq h3 _)))
theorem genF_f {t:Tg} (h1:setTg st t v = some st₁) (h2:evT C y st₁ = some (false,st₂)):genF C t y z v st = some ([],st₂):=evT_el h2 fun _ e1 e2=>(oB_eq h1 _).trans ((oS_eq e1 _).trans (oT_f e2))
theorem turns_nx {f:V→St→Option (List V × St)} {l a b:List V} (h1:f v st = some (a,st₁)) (h2:turns f l st₁ = some (b,st₂)):turns f (v :: l) st = some (a ++ b,st₂):=(oB_eq h1 _).trans (oMap _ h2)
theorem ex_assert (h:evT C x st = some (true,st₁)):ex C N (.assert x) st = some (.next,st₁):=oE_t h
end
noncomputable def bSub:S:=(.seq (.ite (.cmp .eq (.var 0) (.var 1))
  (.seq (.ret (.cst (.int 0)))
  .skip)
  .skip)
 (.seq (.ite (.cmp .eq (.meth .lower (.var 0) .nil) (.meth .lower (.var 1) .nil))
  (.seq (.ret (.cst (.int 1)))
  .skip)
  .skip)
 (.seq (.ret (.cst (.int 2)))
 .skip)))
noncomputable def bCell:S:=(.seq (.asg 12 (.bin .add (.var 9) (.call (.user 0) (.cons (.var 8) (.cons (.idx (.var 0) (.var 11)) .nil)))))
   (.seq (.asg 9 (.idx (.var 5) (.var 11)))
   (.seq (.asg 13 (.bin .add (.call .min (.cons (.var 6) (.cons (.var 9) .nil))) (.cst (.int 2))))
   (.seq (.asg 6 (.call .min (.cons (.var 13) (.cons (.var 12) .nil))))
   (.seq (.seti 5 (.var 11) (.var 6))
   (.seq (.ite (.cmp .lt (.var 6) (.var 10))
    (.seq (.asg 10 (.var 6))
    .skip)
    .skip)
   .skip))))))
noncomputable def bRow:S:=(.seq (.asg 8 (.idx (.var 1) (.var 7)))
  (.seq (.casg 9 6 (.bin .mul (.var 7) (.cst (.int 2))))
  (.seq (.asg 10 (.cst (.int 9223372036854775807)))
  (.seq (.for_ (.one 11) (.call .range (.cons (.call .len (.cons (.var 0) .nil)) .nil))
   bCell)
  (.seq (.ite (.cmp .gt (.var 10) (.var 2))
   (.seq (.ret (.bin .add (.var 2) (.cst (.int 1))))
   .skip)
   .skip)
  .skip)))))
noncomputable abbrev lv (a b:T) (m:Int) (x3 x4 x5 x6 x7 x8 x9 x10 x11 x12 x13:Option V):List (Option V) :=
 [some (.str a),some (.str b),some (.int m),x3,x4,x5,x6,x7,x8,x9,x10,x11,x12,x13,none,none,none,none,none,none,none,none,none,none,none,none]
noncomputable def subc (c d:Nat):Int:=if c = d then 0 else if lowerT [c] = lowerT [d] then 1 else 2
theorem at_nat {α:Type} (l:List α) (i:Nat):at? l (i:Int) = l[i]?:=by unfold at?;rw [if_pos (by exact Int.natCast_nonneg _)];simp
noncomputable def celV (bc c:Nat) (dist res r:Int):Int:=if dist + subc bc c < (if r < res then r else res) + 2 then dist + subc bc c else (if r < res then r else res) + 2
noncomputable def minI (x y:Int):Int:=if x < y then x else y
theorem cell_ok {C:Con} (hC:∀ c d,C 0 [.str [c],.str [d]] = some (.int (subc c d))) (N:Nat) {a b:T} {m:Int} {x3 x4 x7 x12 x13:Option V} {res dist mn:Int} {bc i c:Nat} {row:List Int} {r:Int} (hc:a[i]? = some c) (hr:row[i]? = some r) :
  ex C N bCell ⟨lv a b m x3 x4 (some (.mref 0)) (some (.int res)) x7 (some (.str [bc])) (some (.int dist)) (some (.int mn)) (some (.int i)) x12 x13,[.list (row.map .int)]⟩ =
   some (.next,⟨lv a b m x3 x4 (some (.mref 0)) (some (.int (celV bc c dist res r))) x7 (some (.str [bc])) (some (.int r)) (some (.int (minI (celV bc c dist res r) mn))) (some (.int i)) (some (.int (dist + subc bc c))) (some (.int ((if r < res then r else res) + 2))),[.list ((row.set i (celV bc c dist res r)).map .int)]⟩):=by
 have hi:i < (row.map V.int).length:=by simp only [List.length_map];exact (List.getElem?_eq_some_iff.mp hr).1
 rw [List.map_set]
 unfold bCell
 refine (ex_seq (ex_asg (v:=.int (dist + subc bc c)) (ev_bin (ev_var rfl) (ev_call (f:=.user 0) (vs:=[.str [bc],.str [c]]) (ev_cons (ev_var rfl) (ev_one (ev_idx_s (ev_var rfl) (ev_var rfl) ((at_nat a i).trans hc)))) (hC bc c)) rfl))).trans
  ((ex_seq (ex_asg (v:=.int r) (ev_idx_l (ev_var rfl) (ev_var rfl) rfl (by simp only [at_nat,List.getElem?_map,hr];rfl)))).trans
  ((ex_seq (ex_asg (ev_bin (ev_call (f:=.min) (vs:=[.int res,.int r]) (ev_cons (ev_var rfl) (ev_one (ev_var rfl))) rfl) ev_cst rfl))).trans
  ((ex_seq (ex_asg (v:=.int (celV bc c dist res r)) (ev_call (f:=.min) (vs:=[.int ((if r < res then r else res) + 2),.int (dist + subc bc c)]) (ev_cons (ev_var rfl) (ev_one (ev_var rfl))) rfl))).trans
  ((ex_seq (ex_seti (n:=0) (k:=i) (l:=row.map V.int) (ev_var rfl) rfl (ev_var rfl) rfl hi)).trans ?_))))
 generalize celV bc c dist res r = z
 unfold minI
 by_cases q:z < mn
 ·rw [if_pos q]
  exact ex_seq ((ex_if_t (evT_cmp (ev_var rfl) (ev_var rfl) (by exact congrArg some (decide_eq_true q)))).trans (ex_seq (ex_asg (ev_var rfl))))
 ·rw [if_neg q]
  exact ex_seq (ex_if_f (evT_cmp (ev_var rfl) (ev_var rfl) (by exact congrArg some (decide_eq_false q))))
noncomputable def cells (bc:Nat):T→List Int→Int→Int→Int→List Int × Int × Int
 | [],_,_,res,mn=>([],res,mn)
 | c :: a,row,dist,res,mn=>match row with
  | []=>([],res,mn)
  | r :: row =>
   let q:=cells bc a row r (celV bc c dist res r) (minI (celV bc c dist res r) mn)
   (celV bc c dist res r :: q.1,q.2.1,q.2.2)
theorem cells_len (bc:Nat):∀ (a:T) (row:List Int) (d r m:Int),row.length = a.length→(cells bc a row d r m).1.length = a.length
 | [],_,_,_,_,_=>rfl
 | c :: a,[],d,r,m,h=>nomatch h
 | c :: a,x :: row,d,r,m,h=>congrArg (· + 1) (cells_len bc a row _ _ _ (Nat.succ.inj h))
theorem cells_loop {C:Con} (hC:∀ c d,C 0 [.str [c],.str [d]] = some (.int (subc c d))) (N:Nat) {a b:T} {m:Int} {x3 x4 x7:Option V} {bc:Nat} (a2:T) :
  ∀ (pre:T) (done row2:List Int) (res dist mn:Int) (x11 x12 x13:Option V),a = pre ++ a2→done.length = pre.length→row2.length = a2.length →
   ∃ d y11 y12 y13,loop (loopF C N (.one 11) bCell) ((List.range' pre.length a2.length).map fun k:Nat=>V.int k)
    ⟨lv a b m x3 x4 (some (.mref 0)) (some (.int res)) x7 (some (.str [bc])) (some (.int dist)) (some (.int mn)) x11 x12 x13,[.list ((done ++ row2).map .int)]⟩ =
    some (.next,⟨lv a b m x3 x4 (some (.mref 0)) (some (.int (cells bc a2 row2 dist res mn).2.1)) x7 (some (.str [bc])) d (some (.int (cells bc a2 row2 dist res mn).2.2)) y11 y12 y13,[.list ((done ++ (cells bc a2 row2 dist res mn).1).map .int)]⟩):=by
 induction a2 with
 | nil =>
  intro pre done row2 res dist mn x11 x12 x13 ha hd hr
  cases List.length_eq_zero_iff.mp hr
  exact ⟨_,_,_,_,rfl⟩
 | cons c a2 ih =>
  intro pre done row2 res dist mn x11 x12 x13 ha hd hr
  cases row2 with
  | nil=>first | exact nso hr | exact fat hr | cases hr
  | cons r row2 =>
   have hc:a[pre.length]? = some c:=by rw [ha];simp
   have hrr:(done ++ r :: row2)[pre.length]? = some r:=by rw [← hd];simp
   have step:=cell_ok hC N (b:=b) (m:=m) (x3:=x3) (x4:=x4) (x7:=x7) (x12:=x12) (x13:=x13) (res:=res) (dist:=dist) (mn:=mn) (bc:=bc) hc hrr
   rw [show (done ++ r :: row2).set pre.length (celV bc c dist res r) = (done ++ [celV bc c dist res r]) ++ row2 by rw [List.set_append_right _ _ (by exact Nat.le_of_eq (by assumption)),hd,Nat.sub_self];simp] at step
   refine Classical.byContradiction fun hcon=>?_
   obtain ⟨d,y11,y12,y13,e⟩:=ih (pre ++ [c]) (done ++ [celV bc c dist res r]) row2 (celV bc c dist res r) r (minI (celV bc c dist res r) mn) (some (.int pre.length)) _ _ (by rw [ha];simp) (by simp [hd]) (Nat.succ.inj hr)
   refine hcon ?_
   refine ⟨d,y11,y12,y13,?_⟩
   rw [List.length_append] at e
   refine (loop_step step).trans (e.trans ?_)
   rw [List.append_assoc];rfl
theorem rng01 (n:Nat):rngItems 0 n 1 = (List.range' 0 n).map fun k:Nat=>V.int k:=by
 unfold rngItems
 rw [← List.range_eq_range']
 have:((((n:Int) - 0 + 1 - 1) / 1).toNat) = n:=by simp
 rw [this]
 refine List.map_congr_left fun k _=>?_
 congr 1;simp
noncomputable def big:Int:=9223372036854775807
theorem row_ok {C:Con} (hC:∀ c d,C 0 [.str [c],.str [d]] = some (.int (subc c d))) (N:Nat) {a b:T} {m:Int} {x3 x4 x6 x8 x9 x10 x11 x12 x13:Option V} {k c:Nat} {row:List Int} (hb:b[k]? = some c) (hr:row.length = a.length) (ha:a.length ≤ 40) (hkk:k ≤ 16777216) :
  ∃ y8 y9 y10 y11 y12 y13,ex C N bRow ⟨lv a b m x3 x4 (some (.mref 0)) x6 (some (.int k)) x8 x9 x10 x11 x12 x13,[.list (row.map .int)]⟩ =
   if m < (cells c a row (k * 2) (k * 2) big).2.2 then some (.ret (.int (m + 1)),⟨lv a b m x3 x4 (some (.mref 0)) (some (.int (cells c a row (k * 2) (k * 2) big).2.1)) (some (.int k)) y8 y9 y10 y11 y12 y13,[.list ((cells c a row (k * 2) (k * 2) big).1.map .int)]⟩)
   else some (.next,⟨lv a b m x3 x4 (some (.mref 0)) (some (.int (cells c a row (k * 2) (k * 2) big).2.1)) (some (.int k)) y8 y9 y10 y11 y12 y13,[.list ((cells c a row (k * 2) (k * 2) big).1.map .int)]⟩):=by
 refine Classical.byContradiction fun hcon=>?_
 refine (cells_loop hC N (a:=a) (b:=b) (m:=m) (x3:=x3) (x4:=x4) (x7:=some (.int k)) (bc:=c) a [] [] row (k * 2) (k * 2) big x11 x12 x13 rfl rfl hr).elim fun d k0=>k0.elim fun y11 k1=>k1.elim fun y12 k2=>k2.elim fun y13 h=>?_
 refine hcon ?_
 refine ⟨some (.str [c]),d,some (.int (cells c a row (k * 2) (k * 2) big).2.2),y11,y12,y13,?_⟩
 have hs:small (a.length:Int) = true:=by unfold small;simp;lia
 simp only [List.length_nil,List.nil_append] at h
 rw [← rng01] at h
 have hk:k ≤ 16777216:=hkk
 unfold bRow
 refine (ex_seq (ex_asg (v:=.str [c]) (ev_idx_s (ev_var rfl) (ev_var rfl) ((at_nat b k).trans hb)))).trans ?_
 refine (ex_seq (ex_casg (v:=.int (k * 2)) (ev_bin (ev_var rfl) ev_cst (by exact if_pos (Bool.and_eq_true_iff.mpr ⟨decide_eq_true (by simp only [Int.natAbs_natCast];exact Nat.le_trans (by assumption) (by decide)),rfl⟩))))).trans ?_
 refine (ex_seq (ex_asg ev_cst)).trans ?_
 refine (ex_seq ((ex_for (u:=.rng 0 a.length 1) (ev_call (f:=.range) (ev_one (ev_call (f:=.len) (ev_one (ev_var rfl)) rfl)) (by exact if_pos hs)) rfl).trans h)).trans ?_
 by_cases q:m < (cells c a row (k * 2) (k * 2) big).2.2
 ·rw [if_pos q]
  exact ex_seq_ret ((ex_if_t (evT_cmp (ev_var rfl) (ev_var rfl) (by exact congrArg some (decide_eq_true q)))).trans (ex_seq_ret (ex_ret (ev_bin (ev_var rfl) ev_cst rfl))))
 ·rw [if_neg q]
  exact ex_seq (ex_if_f (evT_cmp (ev_var rfl) (ev_var rfl) (by exact congrArg some (decide_eq_false q))))
noncomputable def rows (m:Int) (a:T):Nat→T→List Int→Int→Int
 | _,[],_,res=>res
 | k,c :: b,row,_ =>
  let q:=cells c a row (k * 2) (k * 2) big
  if m < q.2.2 then m + 1 else rows m a (k + 1) b q.1 q.2.1
theorem rows_loop {C:Con} (hC:∀ c d,C 0 [.str [c],.str [d]] = some (.int (subc c d))) (N:Nat) {a b:T} {m:Int} {x3 x4:Option V} (ha:a.length ≤ 40) (hbl:b.length ≤ 16777216) (b2:T) :
  ∀ (pre:T) (row:List Int) (res:Int) (x7 x8 x9 x10 x11 x12 x13:Option V),b = pre ++ b2→row.length = a.length →
   ∃ st',loop (loopF C N (.one 7) bRow) ((List.range' pre.length b2.length).map fun k:Nat=>V.int k)
    ⟨lv a b m x3 x4 (some (.mref 0)) (some (.int res)) x7 x8 x9 x10 x11 x12 x13,[.list (row.map .int)]⟩ = some (.ret (.int (rows m a pre.length b2 row res)),st') ∨
    (loop (loopF C N (.one 7) bRow) ((List.range' pre.length b2.length).map fun k:Nat=>V.int k)
    ⟨lv a b m x3 x4 (some (.mref 0)) (some (.int res)) x7 x8 x9 x10 x11 x12 x13,[.list (row.map .int)]⟩ = some (.next,st') ∧ st'.get 6 = some (.int (rows m a pre.length b2 row res))):=by
 induction b2 with
 | nil=>intro pre row res x7 x8 x9 x10 x11 x12 x13 hb hr;exact ⟨_,.inr ⟨rfl,rfl⟩⟩
 | cons c b2 ih =>
  intro pre row res x7 x8 x9 x10 x11 x12 x13 hb hr
  have hc:b[pre.length]? = some c:=by rw [hb];simp
  have hk:pre.length ≤ 16777216:=Nat.le_trans (Nat.le_of_lt (List.getElem?_eq_some_iff.mp hc).1) hbl
  refine Classical.byContradiction fun hcon=>?_
  refine (row_ok hC N (a:=a) (b:=b) (m:=m) (x3:=x3) (x4:=x4) (x6:=some (.int res)) (x8:=x8) (x9:=x9) (x10:=x10) (x11:=x11) (x12:=x12) (x13:=x13) hc hr ha hk).elim fun y8 k0=>k0.elim fun y9 k1=>k1.elim fun y10 k2=>k2.elim fun y11 k3=>k3.elim fun y12 k4=>k4.elim fun y13 h=>?_
  refine hcon ?_
  rw [show rows m a pre.length (c :: b2) row res = if m < (cells c a row (pre.length * 2) (pre.length * 2) big).2.2 then m + 1 else rows m a (pre.length + 1) b2 (cells c a row (pre.length * 2) (pre.length * 2) big).1 (cells c a row (pre.length * 2) (pre.length * 2) big).2.1 from rfl]
  by_cases q:m < (cells c a row (pre.length * 2) (pre.length * 2) big).2.2
  ·rw [if_pos q] at h ⊢;exact ⟨_,.inl (loop_stop h)⟩
  ·rw [if_neg q] at h ⊢
   have e:=ih (pre ++ [c]) (cells c a row (pre.length * 2) (pre.length * 2) big).1 (cells c a row (pre.length * 2) (pre.length * 2) big).2.1 (some (.int pre.length)) y8 y9 y10 y11 y12 y13 (by rw [hb];simp) (cells_len c a row _ _ _ hr)
   rw [List.length_append] at e
   exact e.imp fun _ e=>e.imp (fun e=>(loop_step h).trans e) fun e=>⟨(loop_step h).trans e.1,e.2⟩
noncomputable def pre:T→T→Nat
 | x :: a,y :: b=>if x = y then pre a b + 1 else 0
 | _,_=>0
set_option tactic.hygienic true in
theorem pre_lt:∀ {a b:T} {j:Nat},j < pre a b→∃ c,a[j]? = some c ∧ b[j]? = some c
 | x :: a,y :: b,j,h=>by
  unfold pre at h
  split at h
  ·rename_i e
   cases j with
   | zero=>exact ⟨x,rfl,by simp [e]⟩
   | succ j=>obtain ⟨c,h1,h2⟩:=pre_lt (a:=a) (b:=b) (j:=j) (by exact Nat.le_of_succ_le_succ (by assumption));exact ⟨c,h1,h2⟩
  ·lia
 | [],_,_,h=>by simp [pre] at h
 | _ :: _,[],_,h=>by simp [pre] at h
set_option tactic.hygienic true in
theorem pre_at:∀ {a b:T} {c d:Nat},a[pre a b]? = some c→b[pre a b]? = some d→c ≠ d
 | x :: a,y :: b,c,d,h1,h2=>by
  unfold pre at h1 h2
  split at h1
  ·rename_i e
   rw [if_pos e] at h2
   exact pre_at (a:=a) (b:=b) (by simpa using h1) (by simpa using h2)
  ·rename_i e
   rw [if_neg e] at h2
   simp at h1 h2;subst h1 h2;exact e
 | [],_,_,_,h1,_=>by simp at h1
 | _ :: _,[],_,_,_,h2=>by simp at h2
theorem pre_le_l:∀ (a b:T),pre a b ≤ a.length
 | x :: a,y :: b=>by unfold pre;split;have:=pre_le_l a b;simp;assumption;simp
 | [],_=>by simp [pre]
 | _ :: _,[]=>by simp [pre]
theorem pre_le_r:∀ (a b:T),pre a b ≤ b.length
 | x :: a,y :: b=>by unfold pre;split;have:=pre_le_r a b;simp;assumption;simp
 | [],_=>by simp [pre]
 | _ :: _,[]=>by simp [pre]
theorem cut_all {α:Type} (l:List α):cut l none none = l:=by unfold cut;simp
theorem cut_neg {α:Type} (l:List α) (k:Nat) (hk:0 < k):cut l none (some (-(k:Int))) = l.take (l.length - k):=by
 show l.take (clip l.length (-(k:Int))) = _
 have:clip l.length (-(k:Int)) = l.length - k:=by delta clip clipAt;rw [if_pos (by lia)];lia
 rw [this]
noncomputable def xPre:X:=(.and (.slc (.var 0) (.var 3) (.cst .none)) (.and (.slc (.var 1) (.var 3) (.cst .none)) (.cmp .eq (.idx (.var 0) (.var 3)) (.idx (.var 1) (.var 3)))))
noncomputable def bPre:S:=(.seq (.aug 3 .add (.cst (.int 1)))
  .skip)
noncomputable def xPost:X:=(.and (.slc (.var 0) (.cst .none) (.or (.var 4) (.cst .none))) (.and (.slc (.var 1) (.cst .none) (.or (.var 4) (.cst .none))) (.cmp .eq (.idx (.var 0) (.bin .sub (.var 4) (.cst (.int 1)))) (.idx (.var 1) (.bin .sub (.var 4) (.cst (.int 1)))))))
noncomputable def bPost:S:=(.seq (.aug 4 .sub (.cst (.int 1)))
  .skip)
theorem drop_nil_iff {α:Type} (l:List α) (i:Nat):(!(l.drop i).isEmpty) = decide (i < l.length):=by
 rw [Bool.eq_iff_iff];simp [List.isEmpty_iff]
theorem xPre_ok (C:Con) {a b:T} {m:Int} {x4 x5 x6 x7 x8 x9 x10 x11 x12 x13:Option V} {mu:List Mo} (i:Nat) (hi:i ≤ pre a b) :
  evT C xPre ⟨lv a b m (some (.int i)) x4 x5 x6 x7 x8 x9 x10 x11 x12 x13,mu⟩ = some (decide (i < pre a b),⟨lv a b m (some (.int i)) x4 x5 x6 x7 x8 x9 x10 x11 x12 x13,mu⟩):=by
 unfold xPre
 by_cases h1:i < a.length
 ·by_cases h2:i < b.length
  ·have e1:=List.getElem?_eq_getElem h1
   have e2:=List.getElem?_eq_getElem h2
   have key:(a[i] = b[i]) ↔ i < pre a b:=by
    constructor
    ·intro e
     refine Nat.lt_of_le_of_ne hi fun q=>?_
     exact pre_at (a:=a) (b:=b) (c:=a[i]) (d:=b[i]) (by rw [← q];exact e1) (by rw [← q];exact e2) e
    ·intro h
     refine (pre_lt h).elim fun c k0=>k0.elim fun g1 g2=>?_
     rw [e1] at g1;rw [e2] at g2
     exact (Option.some.inj g1).trans (Option.some.inj g2).symm
   have f1:(!(a.drop i).isEmpty) = true:=by rw [drop_nil_iff];simpa using h1
   have f2:(!(b.drop i).isEmpty) = true:=by rw [drop_nil_iff];simpa using h2
   have kb:(([a[i]]:T) == [b[i]]) = decide (i < pre a b):=by rw [Bool.eq_iff_iff];simpa using key
   rw [evT_and_t (evT_ev (ev_slc_s (ev_var rfl) (ev_var rfl) ev_cst rfl rfl) (by rw [cut_from];exact congrArg some f1)),evT_and_t (evT_ev (ev_slc_s (ev_var rfl) (ev_var rfl) ev_cst rfl rfl) (by rw [cut_from];exact congrArg some f2))]
   exact evT_cmp (ev_idx_s (ev_var rfl) (ev_var rfl) ((at_nat a i).trans e1)) (ev_idx_s (ev_var rfl) (ev_var rfl) ((at_nat b i).trans e2)) (by exact congrArg some kb)
  ·have f1:(!(a.drop i).isEmpty) = true:=by rw [drop_nil_iff];exact decide_eq_true h1
   have f2:(!(b.drop i).isEmpty) = false:=by rw [drop_nil_iff];exact decide_eq_false h2
   have:¬ i < pre a b:=by have:=pre_le_r a b;lia
   rw [evT_and_t (evT_ev (ev_slc_s (ev_var rfl) (ev_var rfl) ev_cst rfl rfl) (by rw [cut_from];exact congrArg some f1)),evT_and_f (evT_ev (ev_slc_s (ev_var rfl) (ev_var rfl) ev_cst rfl rfl) (by rw [cut_from];exact congrArg some f2)),decide_eq_false this]
 ·have f1:(!(a.drop i).isEmpty) = false:=by rw [drop_nil_iff];exact decide_eq_false h1
  have:¬ i < pre a b:=by have:=pre_le_l a b;lia
  rw [evT_and_f (evT_ev (ev_slc_s (ev_var rfl) (ev_var rfl) ev_cst rfl rfl) (by rw [cut_from];exact congrArg some f1)),decide_eq_false this]
theorem pre_while (C:Con) (N:Nat) {a b:T} {m:Int} {x4 x5 x6 x7 x8 x9 x10 x11 x12 x13:Option V} {mu:List Mo}:∀ (k i n:Nat),i + k = pre a b→k < n →
  whl (evT C xPre) (ex C N bPre) n ⟨lv a b m (some (.int i)) x4 x5 x6 x7 x8 x9 x10 x11 x12 x13,mu⟩ = some (.next,⟨lv a b m (some (.int (pre a b))) x4 x5 x6 x7 x8 x9 x10 x11 x12 x13,mu⟩)
 | k,i,0,h,hn=>(Nat.not_lt_zero _ hn).elim
 | 0,i,n + 1,h,hn=>by
  rw [whl_f ((xPre_ok C i (Nat.le_of_eq h)).trans (by rw [decide_eq_false (by exact Nat.not_lt.mpr (Nat.le_of_eq (Eq.symm (by assumption))))])),show i = pre a b from h]
 | k + 1,i,n + 1,h,hn=>(whl_t ((xPre_ok C i (by lia)).trans (by rw [decide_eq_true (by lia)])) (ex_seq (ex_aug (w:=.int ((i + 1:Nat):Int)) rfl ev_cst rfl))).trans (by exact pre_while C N k (i + 1) n (by lia) (by exact Nat.le_of_succ_le_succ (by assumption)))
noncomputable def suf (a b:T):Nat:=pre a.reverse b.reverse
theorem suf_le_l (a b:T):suf a b ≤ a.length:=by have:=pre_le_l a.reverse b.reverse;simpa [suf] using this
theorem suf_le_r (a b:T):suf a b ≤ b.length:=by have:=pre_le_r a.reverse b.reverse;simpa [suf] using this
theorem take_nil_iff (a:T) (i:Nat):(!(a.take (a.length - i)).isEmpty) = decide (i < a.length):=by
 rw [Bool.eq_iff_iff]
 cases a with
 | nil=>simp
 | cons x r=>simp only [Bool.not_eq_true',decide_eq_true_eq,List.length_cons];rw [List.isEmpty_eq_false_iff];simp only [ne_eq,List.take_eq_nil_iff,reduceCtorEq,or_false];omega
theorem at_back (a:T) (i:Nat) (h:i < a.length):at? a (-(i:Int) - 1) = a.reverse[i]?:=by
 unfold at?
 rw [if_neg (by lia),if_pos (by lia),List.getElem?_reverse h]
 congr 1;lia
theorem xPost_ok (C:Con) {a b:T} {m:Int} {x3 x5 x6 x7 x8 x9 x10 x11 x12 x13:Option V} {mu:List Mo} (i:Nat) (hi:i ≤ suf a b) :
  evT C xPost ⟨lv a b m x3 (some (.int (-(i:Int)))) x5 x6 x7 x8 x9 x10 x11 x12 x13,mu⟩ = some (decide (i < suf a b),⟨lv a b m x3 (some (.int (-(i:Int)))) x5 x6 x7 x8 x9 x10 x11 x12 x13,mu⟩):=by
 unfold xPost
 have sl:∀ (v:Nat) (t:T),(v = 0 ∧ t = a ∨ v = 1 ∧ t = b)→ev C (.slc (.var v) (.cst .none) (.or (.var 4) (.cst .none))) ⟨lv a b m x3 (some (.int (-(i:Int)))) x5 x6 x7 x8 x9 x10 x11 x12 x13,mu⟩ =
   some (.str (t.take (t.length - i)),⟨lv a b m x3 (some (.int (-(i:Int)))) x5 x6 x7 x8 x9 x10 x11 x12 x13,mu⟩):=by
  intro v t h
  have hv:ev C (.var v) ⟨lv a b m x3 (some (.int (-(i:Int)))) x5 x6 x7 x8 x9 x10 x11 x12 x13,mu⟩ = some (.str t,⟨lv a b m x3 (some (.int (-(i:Int)))) x5 x6 x7 x8 x9 x10 x11 x12 x13,mu⟩):=by rcases h with ⟨rfl,rfl⟩ | ⟨rfl,rfl⟩ <;> exact ev_var rfl
  by_cases h0:i = 0
  ·subst h0
   rw [ev_slc_s (l:=.none) (k:=.none) hv ev_cst ((ev_or_f (ev_var rfl) rfl).trans ev_cst) rfl rfl,cut_all,Nat.sub_zero,List.take_length]
  ·have hb:(-(i:Int) != 0) = true:=bne_iff_ne.mpr (by lia)
   rw [ev_slc_s (l:=.none) hv ev_cst (ev_or_t (ev_var rfl) (by exact congrArg some hb)) rfl rfl,cut_neg t i (by exact Nat.pos_of_ne_zero (by assumption))]
 have ix:∀ (v:Nat) (t:T),(v = 0 ∧ t = a ∨ v = 1 ∧ t = b)→∀ c,t.reverse[i]? = some c→i < t.length→ev C (.idx (.var v) (.bin .sub (.var 4) (.cst (.int 1)))) ⟨lv a b m x3 (some (.int (-(i:Int)))) x5 x6 x7 x8 x9 x10 x11 x12 x13,mu⟩ =
   some (.str [c],⟨lv a b m x3 (some (.int (-(i:Int)))) x5 x6 x7 x8 x9 x10 x11 x12 x13,mu⟩):=fun v t h c hc hl =>
  ev_idx_s (t:=t) (by rcases h with ⟨rfl,rfl⟩ | ⟨rfl,rfl⟩ <;> exact ev_var rfl) (ev_bin (ev_var rfl) ev_cst rfl) ((at_back t i hl).trans hc)
 by_cases h1:i < a.length
 ·have f1:(!(a.take (a.length - i)).isEmpty) = true:=by rw [take_nil_iff];simpa using h1
  by_cases h2:i < b.length
  ·have f2:(!(b.take (b.length - i)).isEmpty) = true:=by rw [take_nil_iff];simpa using h2
   have h1r:i < a.reverse.length:=by simpa using h1
   have h2r:i < b.reverse.length:=by simpa using h2
   have e1:=List.getElem?_eq_getElem h1r
   have e2:=List.getElem?_eq_getElem h2r
   have key:(a.reverse[i] = b.reverse[i]) ↔ i < suf a b:=by
    constructor
    ·intro e
     refine Nat.lt_of_le_of_ne hi fun q=>?_
     exact pre_at (a:=a.reverse) (b:=b.reverse) (c:=a.reverse[i]) (d:=b.reverse[i]) (by rw [show pre a.reverse b.reverse = i from q.symm];exact e1) (by rw [show pre a.reverse b.reverse = i from q.symm];exact e2) e
    ·intro h
     refine (pre_lt (show i < pre a.reverse b.reverse from h)).elim fun c k0=>k0.elim fun g1 g2=>?_
     rw [e1] at g1;rw [e2] at g2
     exact (Option.some.inj g1).trans (Option.some.inj g2).symm
   have kb:(([a.reverse[i]]:T) == [b.reverse[i]]) = decide (i < suf a b):=by rw [Bool.eq_iff_iff];simpa using key
   rw [evT_and_t (evT_ev (sl 0 a (.inl ⟨rfl,rfl⟩)) (by exact congrArg some f1)),evT_and_t (evT_ev (sl 1 b (.inr ⟨rfl,rfl⟩)) (by exact congrArg some f2))]
   exact evT_cmp (ix 0 a (.inl ⟨rfl,rfl⟩) _ e1 h1) (ix 1 b (.inr ⟨rfl,rfl⟩) _ e2 h2) (by exact congrArg some kb)
  ·have f2:(!(b.take (b.length - i)).isEmpty) = false:=by rw [take_nil_iff];simpa using h2
   have:¬ i < suf a b:=by have:=suf_le_r a b;lia
   rw [evT_and_t (evT_ev (sl 0 a (.inl ⟨rfl,rfl⟩)) (by exact congrArg some f1)),evT_and_f (evT_ev (sl 1 b (.inr ⟨rfl,rfl⟩)) (by exact congrArg some f2)),decide_eq_false this]
 ·have f1:(!(a.take (a.length - i)).isEmpty) = false:=by rw [take_nil_iff];simpa using h1
  have:¬ i < suf a b:=by have:=suf_le_l a b;lia
  rw [evT_and_f (evT_ev (sl 0 a (.inl ⟨rfl,rfl⟩)) (by exact congrArg some f1)),decide_eq_false this]
theorem post_while (C:Con) (N:Nat) {a b:T} {m:Int} {x3 x5 x6 x7 x8 x9 x10 x11 x12 x13:Option V} {mu:List Mo}:∀ (k i n:Nat),i + k = suf a b→k < n →
  whl (evT C xPost) (ex C N bPost) n ⟨lv a b m x3 (some (.int (-(i:Int)))) x5 x6 x7 x8 x9 x10 x11 x12 x13,mu⟩ = some (.next,⟨lv a b m x3 (some (.int (-(suf a b:Int)))) x5 x6 x7 x8 x9 x10 x11 x12 x13,mu⟩)
 | k,i,0,h,hn=>(Nat.not_lt_zero _ hn).elim
 | 0,i,n + 1,h,hn=>by
  rw [whl_f ((xPost_ok C i (Nat.le_of_eq h)).trans (by rw [decide_eq_false (by exact Nat.not_lt.mpr (Nat.le_of_eq (Eq.symm (by assumption))))])),show i = suf a b from h]
 | k + 1,i,n + 1,h,hn=>(whl_t ((xPost_ok C i (by lia)).trans (by rw [decide_eq_true (by lia)])) (ex_seq (ex_aug (w:=.int (-((i + 1:Nat):Int))) rfl ev_cst (by exact congrArg (fun z=>some (V.int z)) (show -(i:Int) - 1 = -((i + 1:Nat):Int) by lia))))).trans (by exact post_while C N k (i + 1) n (by lia) (by exact Nat.le_of_succ_le_succ (by assumption)))
noncomputable def bLevE:S:=(.seq (.ite (.or (.not (.var 0)) (.not (.var 1)))
  (.seq (.ret (.bin .mul (.cst (.int 2)) (.bin .add (.call .len (.cons (.var 0) .nil)) (.call .len (.cons (.var 1) .nil)))))
  .skip)
  .skip)
 (.seq (.ite (.or (.cmp .gt (.call .len (.cons (.var 0) .nil)) (.cst (.int 40))) (.cmp .gt (.call .len (.cons (.var 1) .nil)) (.cst (.int 40))))
  (.seq (.ret (.bin .add (.var 2) (.cst (.int 1))))
  .skip)
  .skip)
 (.seq (.ite (.cmp .lt (.call .len (.cons (.var 1) .nil)) (.call .len (.cons (.var 0) .nil)))
  (.seq (.tasg [0,1] (.tupl (.cons (.var 1) (.cons (.var 0) .nil))))
  .skip)
  .skip)
 (.seq (.ite (.cmp .gt (.bin .mul (.bin .sub (.call .len (.cons (.var 1) .nil)) (.call .len (.cons (.var 0) .nil))) (.cst (.int 2))) (.var 2))
  (.seq (.ret (.bin .add (.var 2) (.cst (.int 1))))
  .skip)
  .skip)
 (.seq (.asg 5 (.fresh (.call .list (.cons (.call .range (.cons (.cst (.int 2)) (.cons (.bin .mul (.cst (.int 2)) (.bin .add (.call .len (.cons (.var 0) .nil)) (.cst (.int 1)))) (.cons (.cst (.int 2)) .nil)))) .nil))))
 (.seq (.asg 6 (.cst (.int 0)))
 (.seq (.for_ (.one 7) (.call .range (.cons (.call .len (.cons (.var 1) .nil)) .nil))
  bRow)
 (.seq (.ret (.var 6))
 .skip))))))))
noncomputable def bLev:S:=(.seq (.ite (.cmp .eq (.var 0) (.var 1))
  (.seq (.ret (.cst (.int 0)))
  .skip)
  .skip)
 (.seq (.asg 3 (.cst (.int 0)))
 (.seq (.whl xPre bPre)
 (.seq (.asg 0 (.slc (.var 0) (.var 3) (.cst .none)))
 (.seq (.asg 1 (.slc (.var 1) (.var 3) (.cst .none)))
 (.seq (.asg 4 (.cst (.int 0)))
 (.seq (.whl xPost bPost)
 (.seq (.asg 0 (.slc (.var 0) (.cst .none) (.or (.var 4) (.cst .none))))
 (.seq (.asg 1 (.slc (.var 1) (.cst .none) (.or (.var 4) (.cst .none))))
 bLevE)))))))))
noncomputable def levE2 (m:Int) (a b:T):Int:=if m < ((b.length:Int) - a.length) * 2 then m + 1 else rows m a 0 b ((List.range' 0 a.length).map fun k:Nat=>(2 + k * 2:Int)) 0
noncomputable def levE (m:Int) (a b:T):Int :=
 if a = [] ∨ b = [] then 2 * ((a.length:Int) + b.length) else
 if 40 < a.length ∨ 40 < b.length then m + 1 else
 if b.length < a.length then levE2 m b a else levE2 m a b
noncomputable def lev (m:Int) (a b:T):Int :=
 if a = b then 0 else
 let a1:=a.drop (pre a b)
 let b1:=b.drop (pre a b)
 levE m (a1.take (a1.length - suf a1 b1)) (b1.take (b1.length - suf a1 b1))
theorem rng2 (n:Nat):rngItems 2 (2 * ((n:Int) + 1)) 2 = ((List.range' 0 n).map fun k:Nat=>(2 + k * 2:Int)).map V.int:=by
 unfold rngItems
 rw [← List.range_eq_range']
 have:(((2 * ((n:Int) + 1) - 2 + 2 - 1) / 2).toNat) = n:=by lia
 simp only [this,List.map_map];rfl
section
variable {C:Con} {N:Nat} {a b:T} {m:Int} {x3 x4 x5 x6 x7 x8 x9 x10 x11 x12 x13:Option V}
theorem levE2_ok (hC:∀ c d,C 0 [.str [c],.str [d]] = some (.int (subc c d))) (ha:a.length ≤ 40) (hb:b.length ≤ 40) :
  ∃ st',ex C N (.seq (.ite (.cmp .gt (.bin .mul (.bin .sub (.call .len (.cons (.var 1) .nil)) (.call .len (.cons (.var 0) .nil))) (.cst (.int 2))) (.var 2))
  (.seq (.ret (.bin .add (.var 2) (.cst (.int 1))))
  .skip)
  .skip)
 (.seq (.asg 5 (.fresh (.call .list (.cons (.call .range (.cons (.cst (.int 2)) (.cons (.bin .mul (.cst (.int 2)) (.bin .add (.call .len (.cons (.var 0) .nil)) (.cst (.int 1)))) (.cons (.cst (.int 2)) .nil)))) .nil))))
 (.seq (.asg 6 (.cst (.int 0)))
 (.seq (.for_ (.one 7) (.call .range (.cons (.call .len (.cons (.var 1) .nil)) .nil))
  bRow)
 (.seq (.ret (.var 6))
 .skip))))) ⟨lv a b m x3 x4 x5 x6 x7 x8 x9 x10 x11 x12 x13,[]⟩ = some (.ret (.int (levE2 m a b)),st'):=by
 have l0:∀ y5 y6 y7 y8 y9 y10 y11 y12 y13 mu,ev C (.call .len (.cons (.var 0) .nil)) ⟨lv a b m x3 x4 y5 y6 y7 y8 y9 y10 y11 y12 y13,mu⟩ = some (.int a.length,⟨lv a b m x3 x4 y5 y6 y7 y8 y9 y10 y11 y12 y13,mu⟩):=fun _ _ _ _ _ _ _ _ _ _=>ev_call (ev_one (ev_var rfl)) rfl
 have l1:∀ y5 y6 y7 y8 y9 y10 y11 y12 y13 mu,ev C (.call .len (.cons (.var 1) .nil)) ⟨lv a b m x3 x4 y5 y6 y7 y8 y9 y10 y11 y12 y13,mu⟩ = some (.int b.length,⟨lv a b m x3 x4 y5 y6 y7 y8 y9 y10 y11 y12 y13,mu⟩):=fun _ _ _ _ _ _ _ _ _ _=>ev_call (ev_one (ev_var rfl)) rfl
 have hmul:∀ p q:Int,p.natAbs ≤ 1000000000000→q.natAbs ≤ 1000000000000→bop .mul (.int p) (.int q) = some (.int (p * q)):=fun p q h1 h2=>by
  show (if p.natAbs ≤ 1000000000000 && q.natAbs ≤ 1000000000000 then some (V.int (p * q)) else none) = _
  rw [if_pos (by simp [h1,h2])]
 have hcond:evT C (.cmp .gt (.bin .mul (.bin .sub (.call .len (.cons (.var 1) .nil)) (.call .len (.cons (.var 0) .nil))) (.cst (.int 2))) (.var 2)) ⟨lv a b m x3 x4 x5 x6 x7 x8 x9 x10 x11 x12 x13,[]⟩ = some (decide (m < ((b.length:Int) - a.length) * 2),⟨lv a b m x3 x4 x5 x6 x7 x8 x9 x10 x11 x12 x13,[]⟩) :=
  evT_cmp (ev_bin (ev_bin (l1 ..) (l0 ..) rfl) ev_cst (hmul _ _ (by lia) (by decide))) (ev_var rfl) rfl
 unfold levE2
 by_cases q:m < ((b.length:Int) - a.length) * 2
 ·rw [if_pos q]
  rw [decide_eq_true q] at hcond
  exact ⟨_,ex_seq_ret ((ex_if_t hcond).trans (ex_seq_ret (ex_ret (ev_bin (ev_var rfl) ev_cst rfl))))⟩
 ·rw [if_neg q]
  rw [decide_eq_false q] at hcond
  rw [ex_seq (ex_if_f hcond)]
  let row:=(List.range' 0 a.length).map fun k:Nat=>(2 + k * 2:Int)
  have hrange:fn C .range [.int 2,.int (2 * ((a.length:Int) + 1)),.int 2] = some (.rng 2 (2 * ((a.length:Int) + 1)) 2):=fn_range3 (by unfold small;simp;lia)
  have hlist:fn C .list [.rng 2 (2 * ((a.length:Int) + 1)) 2] = some (.list (row.map V.int)):=by
   show okL (rngItems 2 (2 * ((a.length:Int) + 1)) 2) = _
   rw [rng2];unfold okL;rw [if_pos (by simp;lia)]
  have h2:ev C (.bin .mul (.cst (.int 2)) (.bin .add (.call .len (.cons (.var 0) .nil)) (.cst (.int 1)))) ⟨lv a b m x3 x4 x5 x6 x7 x8 x9 x10 x11 x12 x13,[]⟩ = some (.int (2 * ((a.length:Int) + 1)),⟨lv a b m x3 x4 x5 x6 x7 x8 x9 x10 x11 x12 x13,[]⟩) :=
   ev_bin ev_cst (ev_bin (l0 ..) ev_cst rfl) (hmul _ _ (by decide) (by lia))
  have h3:ev C (.call .range (.cons (.cst (.int 2)) (.cons (.bin .mul (.cst (.int 2)) (.bin .add (.call .len (.cons (.var 0) .nil)) (.cst (.int 1)))) (.cons (.cst (.int 2)) .nil)))) ⟨lv a b m x3 x4 x5 x6 x7 x8 x9 x10 x11 x12 x13,[]⟩ =
    some (.rng 2 (2 * ((a.length:Int) + 1)) 2,⟨lv a b m x3 x4 x5 x6 x7 x8 x9 x10 x11 x12 x13,[]⟩):=ev_call (ev_cons ev_cst (ev_cons h2 (ev_one ev_cst))) hrange
  have h4:=ev_fresh (ev_call (f:=.list) (ev_one h3) hlist)
  rw [ex_seq (ex_asg h4)]
  rw [ex_seq (ex_asg ev_cst)]
  refine Classical.byContradiction fun hcon=>?_
  refine (rows_loop hC N (a:=a) (b:=b) (m:=m) (x3:=x3) (x4:=x4) ha (by lia) b [] row 0 x7 x8 x9 x10 x11 x12 x13 rfl (by simp [row])).elim fun st' h=>?_
  refine hcon ?_
  have hr1:fn C .range [.int b.length] = some (.rng 0 b.length 1):=by
   exact fn_range1 (small_nat (by lia))
  have hfor:ex C N (.for_ (.one 7) (.call .range (.cons (.call .len (.cons (.var 1) .nil)) .nil)) bRow) ⟨lv a b m x3 x4 (some (.mref 0)) (some (.int 0)) x7 x8 x9 x10 x11 x12 x13,[.list (row.map .int)]⟩ =
    loop (loopF C N (.one 7) bRow) ((List.range' 0 b.length).map fun k:Nat=>V.int k) ⟨lv a b m x3 x4 (some (.mref 0)) (some (.int 0)) x7 x8 x9 x10 x11 x12 x13,[.list (row.map .int)]⟩ :=
   ex_for (ev_call (ev_one (l1 ..)) hr1) (by simp only [items,rng01])
  rcases h with h | ⟨h,hg⟩
  ·exact ⟨st',ex_seq_ret (hfor.trans h)⟩
  ·refine ⟨st',(ex_seq (hfor.trans h)).trans (ex_seq_ret (ex_ret (ev_var hg)))⟩
theorem isEmpty_iff_nil (t:T):(!(!t.isEmpty)) = decide (t = []):=by cases t <;> simp
theorem levE_ok (hC:∀ c d,C 0 [.str [c],.str [d]] = some (.int (subc c d))) (ha:a.length ≤ 1000000) (hb:b.length ≤ 1000000) :
  ∃ st',ex C N bLevE ⟨lv a b m x3 x4 x5 x6 x7 x8 x9 x10 x11 x12 x13,[]⟩ = some (.ret (.int (levE m a b)),st'):=by
 have l0:∀ (a b:T),ev C (.call .len (.cons (.var 0) .nil)) ⟨lv a b m x3 x4 x5 x6 x7 x8 x9 x10 x11 x12 x13,[]⟩ = some (.int a.length,⟨lv a b m x3 x4 x5 x6 x7 x8 x9 x10 x11 x12 x13,[]⟩):=fun _ _=>ev_call (ev_one (ev_var rfl)) rfl
 have l1:∀ (a b:T),ev C (.call .len (.cons (.var 1) .nil)) ⟨lv a b m x3 x4 x5 x6 x7 x8 x9 x10 x11 x12 x13,[]⟩ = some (.int b.length,⟨lv a b m x3 x4 x5 x6 x7 x8 x9 x10 x11 x12 x13,[]⟩):=fun _ _=>ev_call (ev_one (ev_var rfl)) rfl
 have t0:evT C (.var 0) ⟨lv a b m x3 x4 x5 x6 x7 x8 x9 x10 x11 x12 x13,[]⟩ = some (!a.isEmpty,⟨lv a b m x3 x4 x5 x6 x7 x8 x9 x10 x11 x12 x13,[]⟩):=evT_ev (ev_var rfl) rfl
 have t1:evT C (.var 1) ⟨lv a b m x3 x4 x5 x6 x7 x8 x9 x10 x11 x12 x13,[]⟩ = some (!b.isEmpty,⟨lv a b m x3 x4 x5 x6 x7 x8 x9 x10 x11 x12 x13,[]⟩):=evT_ev (ev_var rfl) rfl
 have c1:=evT_or (evT_not t0) (evT_not t1)
 rw [isEmpty_iff_nil,isEmpty_iff_nil,← Bool.decide_or] at c1
 delta bLevE levE
 by_cases q1:a = [] ∨ b = []
 ·rw [if_pos q1]
  rw [decide_eq_true q1] at c1
  have hmul:bop .mul (.int 2) (.int ((a.length:Int) + b.length)) = some (.int (2 * ((a.length:Int) + b.length))):=by
   show (if (2:Int).natAbs ≤ 1000000000000 && ((a.length:Int) + b.length).natAbs ≤ 1000000000000 then some (V.int (2 * ((a.length:Int) + b.length))) else none) = _
   rw [if_pos (by simp;omega)]
  exact ⟨_,ex_seq_ret ((ex_if_t c1).trans (ex_seq_ret (ex_ret (ev_bin ev_cst (ev_bin (l0 a b) (l1 a b) rfl) hmul))))⟩
 ·rw [if_neg q1]
  rw [decide_eq_false q1] at c1
  rw [ex_seq (ex_if_f c1)]
  have c2:evT C (.or (.cmp .gt (.call .len (.cons (.var 0) .nil)) (.cst (.int 40))) (.cmp .gt (.call .len (.cons (.var 1) .nil)) (.cst (.int 40)))) ⟨lv a b m x3 x4 x5 x6 x7 x8 x9 x10 x11 x12 x13,[]⟩ = some (decide ((40:Int) < a.length) || decide ((40:Int) < b.length),⟨lv a b m x3 x4 x5 x6 x7 x8 x9 x10 x11 x12 x13,[]⟩) :=
   evT_or (evT_cmp (l0 a b) ev_cst rfl) (evT_cmp (l1 a b) ev_cst rfl)
  by_cases q2:40 < a.length ∨ 40 < b.length
  ·rw [if_pos q2]
   have:(decide ((40:Int) < a.length) || decide ((40:Int) < b.length)) = true:=by simp;omega
   rw [this] at c2
   exact ⟨_,ex_seq_ret ((ex_if_t c2).trans (ex_seq_ret (ex_ret (ev_bin (ev_var rfl) ev_cst rfl))))⟩
  ·rw [if_neg q2]
   have:(decide ((40:Int) < a.length) || decide ((40:Int) < b.length)) = false:=by simp;omega
   rw [this] at c2
   rw [ex_seq (ex_if_f c2)]
   have c3:evT C (.cmp .lt (.call .len (.cons (.var 1) .nil)) (.call .len (.cons (.var 0) .nil))) ⟨lv a b m x3 x4 x5 x6 x7 x8 x9 x10 x11 x12 x13,[]⟩ = some (decide ((b.length:Int) < a.length),⟨lv a b m x3 x4 x5 x6 x7 x8 x9 x10 x11 x12 x13,[]⟩):=evT_cmp (l1 a b) (l0 a b) rfl
   by_cases q3:b.length < a.length
   ·rw [if_pos q3]
    rw [decide_eq_true (by exact Int.ofNat_lt.mpr (by assumption))] at c3
    have sw:ex C N (.seq (.tasg [0,1] (.tupl (.cons (.var 1) (.cons (.var 0) .nil)))) .skip) ⟨lv a b m x3 x4 x5 x6 x7 x8 x9 x10 x11 x12 x13,[]⟩ = some (.next,⟨lv b a m x3 x4 x5 x6 x7 x8 x9 x10 x11 x12 x13,[]⟩) :=
     (ex_seq (ex_tasg (ev_tupl (ev_cons (ev_var rfl) (ev_one (ev_var rfl)))) rfl)).trans rfl
    rw [ex_seq ((ex_if_t c3).trans sw)]
    exact levE2_ok hC (by omega) (by omega)
   ·rw [if_neg q3]
    rw [decide_eq_false (by omega)] at c3
    rw [ex_seq (ex_if_f c3)]
    exact levE2_ok hC (by omega) (by omega)
theorem lev_ex (hC:∀ c d,C 0 [.str [c],.str [d]] = some (.int (subc c d))) (ha:a.length ≤ 1000000) (hb:b.length ≤ 1000000) (hN:a.length < N) :
  ∃ st',ex C N bLev ⟨lv a b m x3 x4 x5 x6 x7 x8 x9 x10 x11 x12 x13,[]⟩ = some (.ret (.int (lev m a b)),st'):=by
 have c0:evT C (.cmp .eq (.var 0) (.var 1)) ⟨lv a b m x3 x4 x5 x6 x7 x8 x9 x10 x11 x12 x13,[]⟩ = some (a == b,⟨lv a b m x3 x4 x5 x6 x7 x8 x9 x10 x11 x12 x13,[]⟩):=evT_cmp (ev_var rfl) (ev_var rfl) rfl
 delta bLev lev
 by_cases q:a = b
 ·rw [if_pos q]
  have:(a == b) = true:=by simp [q]
  rw [this] at c0
  exact ⟨_,ex_seq_ret ((ex_if_t c0).trans (ex_seq_ret (ex_ret ev_cst)))⟩
 ·rw [if_neg q]
  have:(a == b) = false:=by simp [q]
  rw [this] at c0
  have hp:=pre_le_l a b
  have w1:=pre_while C N (a:=a) (b:=b) (m:=m) (x4:=x4) (x5:=x5) (x6:=x6) (x7:=x7) (x8:=x8) (x9:=x9) (x10:=x10) (x11:=x11) (x12:=x12) (x13:=x13) (mu:=[]) (pre a b) 0 N (by exact Nat.add_comm _ _) (by exact Nat.lt_of_le_of_lt (by assumption) (by assumption))
  have e1:ex C N (.whl xPre bPre) ⟨lv a b m (some (.int (0:Nat))) x4 x5 x6 x7 x8 x9 x10 x11 x12 x13,[]⟩ = _:=w1
  have e2:ex C N (.asg 0 (.slc (.var 0) (.var 3) (.cst .none))) ⟨lv a b m (some (.int (pre a b))) x4 x5 x6 x7 x8 x9 x10 x11 x12 x13,[]⟩ = some (.next,⟨lv (a.drop (pre a b)) b m (some (.int (pre a b))) x4 x5 x6 x7 x8 x9 x10 x11 x12 x13,[]⟩):=by
   rw [ex_asg (ev_slc_s (t:=a) (ev_var rfl) (ev_var rfl) ev_cst rfl rfl),cut_from];rfl
  have e3:ex C N (.asg 1 (.slc (.var 1) (.var 3) (.cst .none))) ⟨lv (a.drop (pre a b)) b m (some (.int (pre a b))) x4 x5 x6 x7 x8 x9 x10 x11 x12 x13,[]⟩ = some (.next,⟨lv (a.drop (pre a b)) (b.drop (pre a b)) m (some (.int (pre a b))) x4 x5 x6 x7 x8 x9 x10 x11 x12 x13,[]⟩):=by
   rw [ex_asg (ev_slc_s (t:=b) (ev_var rfl) (ev_var rfl) ev_cst rfl rfl),cut_from];rfl
  rw [ex_seq (ex_if_f c0),ex_seq (st₁:=⟨lv a b m (some (.int (0:Nat))) x4 x5 x6 x7 x8 x9 x10 x11 x12 x13,[]⟩) (ex_asg ev_cst),ex_seq e1,ex_seq e2,ex_seq e3]
  generalize ha1:a.drop (pre a b) = a1
  generalize hb1:b.drop (pre a b) = b1
  have hl1:a1.length ≤ a.length:=by rw [← ha1];simp
  have hl2:b1.length ≤ b.length:=by rw [← hb1];simp
  have hs:=suf_le_l a1 b1
  have w2:=post_while C N (a:=a1) (b:=b1) (m:=m) (x3:=some (.int (pre a b))) (x5:=x5) (x6:=x6) (x7:=x7) (x8:=x8) (x9:=x9) (x10:=x10) (x11:=x11) (x12:=x12) (x13:=x13) (mu:=[]) (suf a1 b1) 0 N (by exact Nat.add_comm _ _) (by lia)
  have e4:ex C N (.whl xPost bPost) ⟨lv a1 b1 m (some (.int (pre a b))) (some (.int (-((0:Nat):Int)))) x5 x6 x7 x8 x9 x10 x11 x12 x13,[]⟩ = _:=w2
  have sl:∀ (c d:T) (v:Nat) (t:T),(⟨lv c d m (some (.int (pre a b))) (some (.int (-(suf a1 b1:Int)))) x5 x6 x7 x8 x9 x10 x11 x12 x13,[]⟩:St).get v = some (.str t)→ev C (.slc (.var v) (.cst .none) (.or (.var 4) (.cst .none))) ⟨lv c d m (some (.int (pre a b))) (some (.int (-(suf a1 b1:Int)))) x5 x6 x7 x8 x9 x10 x11 x12 x13,[]⟩ =
    some (.str (t.take (t.length - suf a1 b1)),⟨lv c d m (some (.int (pre a b))) (some (.int (-(suf a1 b1:Int)))) x5 x6 x7 x8 x9 x10 x11 x12 x13,[]⟩):=by
   intro c d v t hg
   by_cases h0:suf a1 b1 = 0
   ·have:ev C (.or (.var 4) (.cst .none)) ⟨lv c d m (some (.int (pre a b))) (some (.int (-(suf a1 b1:Int)))) x5 x6 x7 x8 x9 x10 x11 x12 x13,[]⟩ = some (.none,⟨lv c d m (some (.int (pre a b))) (some (.int (-(suf a1 b1:Int)))) x5 x6 x7 x8 x9 x10 x11 x12 x13,[]⟩):=by
     rw [h0];rfl
    rw [ev_slc_s (ev_var hg) ev_cst this rfl rfl,cut_all,h0];simp
   ·have hb:(-(suf a1 b1:Int) != 0) = true:=by simp;assumption
    have:ev C (.or (.var 4) (.cst .none)) ⟨lv c d m (some (.int (pre a b))) (some (.int (-(suf a1 b1:Int)))) x5 x6 x7 x8 x9 x10 x11 x12 x13,[]⟩ = some (.int (-(suf a1 b1:Int)),⟨lv c d m (some (.int (pre a b))) (some (.int (-(suf a1 b1:Int)))) x5 x6 x7 x8 x9 x10 x11 x12 x13,[]⟩):=ev_or_t (ev_var rfl) (by exact congrArg some hb)
    rw [ev_slc_s (ev_var hg) ev_cst this rfl rfl,cut_neg t _ (by exact Nat.pos_of_ne_zero (by assumption))]
  have e5:ex C N (.asg 0 (.slc (.var 0) (.cst .none) (.or (.var 4) (.cst .none)))) ⟨lv a1 b1 m (some (.int (pre a b))) (some (.int (-(suf a1 b1:Int)))) x5 x6 x7 x8 x9 x10 x11 x12 x13,[]⟩ = some (.next,⟨lv (a1.take (a1.length - suf a1 b1)) b1 m (some (.int (pre a b))) (some (.int (-(suf a1 b1:Int)))) x5 x6 x7 x8 x9 x10 x11 x12 x13,[]⟩):=ex_asg (sl a1 b1 0 a1 rfl)
  have e6:ex C N (.asg 1 (.slc (.var 1) (.cst .none) (.or (.var 4) (.cst .none)))) ⟨lv (a1.take (a1.length - suf a1 b1)) b1 m (some (.int (pre a b))) (some (.int (-(suf a1 b1:Int)))) x5 x6 x7 x8 x9 x10 x11 x12 x13,[]⟩ =
    some (.next,⟨lv (a1.take (a1.length - suf a1 b1)) (b1.take (b1.length - suf a1 b1)) m (some (.int (pre a b))) (some (.int (-(suf a1 b1:Int)))) x5 x6 x7 x8 x9 x10 x11 x12 x13,[]⟩):=ex_asg (sl _ b1 1 b1 rfl)
  rw [ex_seq (st₁:=⟨lv a1 b1 m (some (.int (pre a b))) (some (.int (-((0:Nat):Int)))) x5 x6 x7 x8 x9 x10 x11 x12 x13,[]⟩) (ex_asg ev_cst),ex_seq e4,ex_seq e5,ex_seq e6]
  exact levE_ok hC (by rw [List.length_take];exact le_min2 (Nat.le_trans hl1 ha)) (by rw [List.length_take];exact le_min2 (Nat.le_trans hl2 hb))
end
theorem lev_ok {C:Con} {N:Nat} {a b:T} {m:Int} (hC:∀ c d,C 0 [.str [c],.str [d]] = some (.int (subc c d))) (ha:a.length ≤ 1000000) (hb:b.length ≤ 1000000) (hN:a.length < N) :
  runC C N bLev 3 26 [.str a,.str b,.int m] = some (.int (lev m a b)):=by
 refine Classical.byContradiction fun hcon=>?_
 refine (lev_ex (C:=C) (N:=N) (a:=a) (b:=b) (m:=m) (x3:=none) (x4:=none) (x5:=none) (x6:=none) (x7:=none) (x8:=none) (x9:=none) (x10:=none) (x11:=none) (x12:=none) (x13:=none) hC ha hb hN).elim fun st' h=>?_
 refine hcon ?_
 have h':ex C N bLev { vars:=[V.str a,V.str b,V.int m].map some ++ List.replicate (26 - 3) none,mu:=[] } = some (.ret (.int (lev m a b)),st'):=h
 unfold runC
 rw [h']
 rfl
theorem sub_ok {C:Con} {N:Nat} {c d:Nat} (hc:(lowerT [c]).length ≤ 16777216) (hd:(lowerT [d]).length ≤ 16777216):runC C N bSub 2 14 [.str [c],.str [d]] = some (.int (subc c d)):=by
 have key:∃ st',ex C N bSub ⟨[some (.str [c]),some (.str [d]),none,none,none,none,none,none,none,none,none,none,none,none],[]⟩ = some (.ret (.int (subc c d)),st'):=by
  have c0:evT C (.cmp .eq (.var 0) (.var 1)) ⟨[some (.str [c]),some (.str [d]),none,none,none,none,none,none,none,none,none,none,none,none],[]⟩ = some (([c]:T) == [d],⟨[some (.str [c]),some (.str [d]),none,none,none,none,none,none,none,none,none,none,none,none],[]⟩):=evT_cmp (ev_var rfl) (ev_var rfl) rfl
  have m1:∀ t:T,(lowerT t).length ≤ 16777216→meth .lower (.str t) [] = some (.str (lowerT t)):=fun t h=>by show okS (lowerT t) = _;delta okS;rw [if_pos h]
  have c1:evT C (.cmp .eq (.meth .lower (.var 0) .nil) (.meth .lower (.var 1) .nil)) ⟨[some (.str [c]),some (.str [d]),none,none,none,none,none,none,none,none,none,none,none,none],[]⟩ = some (lowerT [c] == lowerT [d],⟨[some (.str [c]),some (.str [d]),none,none,none,none,none,none,none,none,none,none,none,none],[]⟩) :=
   evT_cmp (ev_meth (ev_var rfl) ev_nil (m1 [c] hc)) (ev_meth (ev_var rfl) ev_nil (m1 [d] hd)) rfl
  delta bSub subc
  by_cases q:c = d
  ·rw [if_pos q]
   have:(([c]:T) == [d]) = true:=by simp [q]
   rw [this] at c0
   exact ⟨_,ex_seq_ret ((ex_if_t c0).trans (ex_seq_ret (ex_ret ev_cst)))⟩
  ·rw [if_neg q]
   have:(([c]:T) == [d]) = false:=by simp [q]
   rw [this] at c0
   rw [ex_seq (ex_if_f c0)]
   by_cases q2:lowerT [c] = lowerT [d]
   ·rw [if_pos q2]
    have:(lowerT [c] == lowerT [d]) = true:=by simp [q2]
    rw [this] at c1
    exact ⟨_,ex_seq_ret ((ex_if_t c1).trans (ex_seq_ret (ex_ret ev_cst)))⟩
   ·rw [if_neg q2]
    have:(lowerT [c] == lowerT [d]) = false:=by simp [q2]
    rw [this] at c1
    rw [ex_seq (ex_if_f c1)]
    exact ⟨_,ex_seq_ret (ex_ret ev_cst)⟩
 refine (key).elim fun st' h=>?_
 have h':ex C N bSub { vars:=[V.str [c],V.str [d]].map some ++ List.replicate (14 - 2) none,mu:=[] } = some (.ret (.int (subc c d)),st'):=h
 delta runC
 rw [h']
 rfl
noncomputable def bEllLoop:S:=(.seq (.asg 3 (.meth .find (.var 1) (.cons (.var 5) (.cons (.var 3) (.cons (.var 4) .nil)))))
  (.seq (.ite (.cmp .lt (.var 3) (.cst (.int 0)))
   (.seq (.ret (.cst (.bool false)))
   .skip)
   .skip)
  (.seq (.aug 3 .add (.call .len (.cons (.var 5) .nil)))
  .skip)))
noncomputable def bEllD:S:=(.seq (.ite (.cmp .gt (.var 3) (.var 4))
  (.seq (.ret (.cst (.bool false)))
  .skip)
  .skip)
 (.seq (.seq (.frz 2)
 (.for_ (.one 5) (.var 2)
  bEllLoop))
 (.seq (.ret (.cst (.bool true)))
 .skip)))
noncomputable def bEllC:S:=(.seq (.asg 5 (.idx (.var 2) (.neg (.cst (.int 1)))))
 (.seq (.ite (.var 5)
  (.seq (.ite (.meth .endswith (.var 1) (.cons (.var 5) .nil))
   (.seq (.aug 4 .sub (.call .len (.cons (.var 5) .nil)))
   (.seq (.del 2 (.neg (.cst (.int 1))))
   .skip))
   (.seq (.ret (.cst (.bool false)))
   .skip))
  .skip)
  .skip)
 bEllD))
noncomputable def bEllB:S:=(.seq (.asg 5 (.idx (.var 2) (.cst (.int 0))))
 (.seq (.ite (.var 5)
  (.seq (.ite (.meth .startswith (.var 1) (.cons (.var 5) .nil))
   (.seq (.asg 3 (.call .len (.cons (.var 5) .nil)))
   (.seq (.del 2 (.cst (.int 0)))
   .skip))
   (.seq (.ret (.cst (.bool false)))
   .skip))
  .skip)
  .skip)
 bEllC))
noncomputable def bEll:S:=(.seq (.ite (.cmp .notin (.cst (.str [46,46,46])) (.var 0))
  (.seq (.ret (.cmp .eq (.var 0) (.var 1)))
  .skip)
  .skip)
 (.seq (.asg 2 (.fresh (.meth .split (.var 0) (.cons (.cst (.str [46,46,46])) .nil))))
 (.seq (.assert (.cmp .ge (.call .len (.cons (.var 2) .nil)) (.cst (.int 2))))
 (.seq (.tasg [3,4] (.tupl (.cons (.cst (.int 0)) (.cons (.call .len (.cons (.var 1) .nil)) .nil))))
 bEllB))))
noncomputable def dots:T:=[46,46,46]
noncomputable def ellGo (got:T) (hi:Int):List T→Int→Bool
 | [],_=>true
 | w :: r,s=>let k:=findT got w s hi;if k < 0 then false else ellGo got hi r (k + w.length)
noncomputable def ellD (got:T) (ws:List T) (s e:Int):Bool:=if e < s then false else ellGo got e ws s
noncomputable def ellC (got:T) (ws:List T) (s:Int):Bool :=
 let v:=ws.getLastD []
 if v = [] then ellD got ws s got.length else
 if v.isSuffixOf got then ellD got (ws.take (ws.length - 1)) s (got.length - v.length) else false
noncomputable def ellB (got:T) (ws:List T):Bool :=
 let w:=ws.headD []
 if w = [] then ellC got ws 0 else
 if w.isPrefixOf got then ellC got (ws.drop 1) w.length else false
noncomputable def ell (want got:T):Bool:=if hasT dots want then ellB got (splitT want dots) else want == got
noncomputable abbrev lw (want got:T) (x2 x3 x4 x5:Option V):List (Option V):=[some (.str want),some (.str got),x2,x3,x4,x5,none,none,none,none,none,none,none,none,none,none,none,none]
section
variable {C:Con} {N:Nat} {want got:T}
theorem small_of {i:Int} (h:i.natAbs ≤ 1000000000000):small i = true:=by unfold small;simp;omega
theorem findGo_le {y:T}:∀ {x:T} {k j:Nat},findGo y x k = some j→j ≤ k + x.length
 | [],k,j,h=>by unfold findGo at h;split at h <;> simp at h;simp;exact Nat.le_of_eq (Eq.symm (by assumption))
 | a :: r,k,j,h=>by
  unfold findGo at h
  split at h
  ·simp at h;simp;lia
  ·have:=findGo_le h;simp;lia
theorem findT_le (x y:T) (i j:Int):-1 ≤ findT x y i j ∧ findT x y i j ≤ 2 * x.length + i.natAbs:=by
 unfold findT
 have h0:(if i < 0 then i + (x.length:Int) else i).toNat ≤ i.natAbs + x.length:=by split <;> lia
 generalize (if i < 0 then i + (x.length:Int) else i).toNat = lo at h0
 generalize min (if j < 0 then j + (x.length:Int) else j).toNat x.length = hi
 simp only
 by_cases hle:lo ≤ hi
 ·rw [if_pos hle]
  cases h:findGo y ((x.take hi).drop lo) lo with
  | none=>simp only;lia
  | some k =>
   have:=findGo_le h
   rw [List.length_drop,List.length_take] at this
   simp only;lia
 ·rw [if_neg hle];lia
theorem ellGo_loop (hg:got.length ≤ 1000000) {x2:Option V} {e:Int} (he:e.natAbs ≤ 1000000000) {mu:List Mo}:∀ (ws:List T) (s:Int) (x5:Option V),(∀ w ∈ ws,w.length ≤ 1000000)→s.natAbs + ws.length * 4000000 ≤ 1000000000000 →
  ∃ st',loop (loopF C N (.one 5) bEllLoop) (ws.map .str) ⟨lw want got x2 (some (.int s)) (some (.int e)) x5,mu⟩ = if ellGo got e ws s then some (.next,st') else some (.ret (.bool false),st')
 | [],s,x5,hw,hs=>⟨_,rfl⟩
 | w :: ws,s,x5,hw,hs=>by
  have hb:=findT_le got w s e
  simp only [List.length_cons] at hs
  have hwl:=hw w (.head _)
  have e0:(⟨lw want got x2 (some (.int s)) (some (.int e)) x5,mu⟩:St).set 5 (.str w) = ⟨lw want got x2 (some (.int s)) (some (.int e)) (some (.str w)),mu⟩:=rfl
  have hm:meth .find (.str got) [.str w,.int s,.int e] = some (.int (findT got w s e)):=by
   show (if small s && small e then some (V.int (findT got w s e)) else none) = _
   rw [small_of (by exact Nat.le_trans (Nat.le_add_right _ _) (by assumption)),small_of (by exact Nat.le_trans (by assumption) (by decide))];rfl
  have s1:ex C N (.asg 3 (.meth .find (.var 1) (.cons (.var 5) (.cons (.var 3) (.cons (.var 4) .nil))))) ⟨lw want got x2 (some (.int s)) (some (.int e)) (some (.str w)),mu⟩ = some (.next,⟨lw want got x2 (some (.int (findT got w s e))) (some (.int e)) (some (.str w)),mu⟩) :=
   ex_asg (ev_meth (ev_var rfl) (ev_cons (ev_var rfl) (ev_cons (ev_var rfl) (ev_one (ev_var rfl)))) hm)
  have c1:evT C (.cmp .lt (.var 3) (.cst (.int 0))) ⟨lw want got x2 (some (.int (findT got w s e))) (some (.int e)) (some (.str w)),mu⟩ = some (decide (findT got w s e < 0),⟨lw want got x2 (some (.int (findT got w s e))) (some (.int e)) (some (.str w)),mu⟩):=evT_cmp (ev_var rfl) ev_cst rfl
  rw [show ellGo got e (w :: ws) s = if findT got w s e < 0 then false else ellGo got e ws (findT got w s e + w.length) from rfl]
  by_cases q:findT got w s e < 0
  ·rw [decide_eq_true q] at c1
   rw [if_pos q]
   exact ⟨_,loop_stop ((ex_seq s1).trans (ex_seq_ret ((ex_if_t c1).trans (ex_seq_ret (ex_ret ev_cst)))))⟩
  ·rw [decide_eq_false q] at c1
   have s2:ex C N (.aug 3 .add (.call .len (.cons (.var 5) .nil))) ⟨lw want got x2 (some (.int (findT got w s e))) (some (.int e)) (some (.str w)),mu⟩ = some (.next,⟨lw want got x2 (some (.int (findT got w s e + w.length))) (some (.int e)) (some (.str w)),mu⟩) :=
    ex_aug rfl (ev_call (ev_one (ev_var rfl)) rfl) rfl
   rw [if_neg q]
   have:=ellGo_loop hg (x2:=x2) he (mu:=mu) ws (findT got w s e + w.length) (some (.str w)) (fun w hw'=>hw w (.tail _ hw')) (by lia)
   exact this.imp fun _ e=>(loop_step ((ex_seq s1).trans ((ex_seq (ex_if_f c1)).trans ((ex_seq s2).trans rfl)))).trans e
theorem ellD_ok (hg:got.length ≤ 1000000) {ws:List T} {s e:Int} (hw:∀ w ∈ ws,w.length ≤ 1000000) (he:e.natAbs ≤ 1000000000) (hs:s.natAbs + ws.length * 4000000 ≤ 1000000000000) {x5:Option V} :
  ∃ st',ex C N bEllD ⟨lw want got (some (.mref 0)) (some (.int s)) (some (.int e)) x5,[.list (ws.map .str)]⟩ = some (.ret (.bool (ellD got ws s e)),st'):=by
 have c1:evT C (.cmp .gt (.var 3) (.var 4)) ⟨lw want got (some (.mref 0)) (some (.int s)) (some (.int e)) x5,[.list (ws.map .str)]⟩ = some (decide (e < s),⟨lw want got (some (.mref 0)) (some (.int s)) (some (.int e)) x5,[.list (ws.map .str)]⟩):=evT_cmp (ev_var rfl) (ev_var rfl) rfl
 delta bEllD ellD
 by_cases q:e < s
 ·rw [decide_eq_true q] at c1
  rw [if_pos q]
  exact ⟨_,ex_seq_ret ((ex_if_t c1).trans (ex_seq_ret (ex_ret ev_cst)))⟩
 ·rw [decide_eq_false q] at c1
  rw [if_neg q,ex_seq (ex_if_f c1)]
  have f1:ex C N (.frz 2) ⟨lw want got (some (.mref 0)) (some (.int s)) (some (.int e)) x5,[.list (ws.map .str)]⟩ = some (.next,⟨lw want got (some (.list (ws.map .str))) (some (.int s)) (some (.int e)) x5,[.dead]⟩):=(ex_frz (n:=0) (l:=ws.map .str) rfl rfl).trans rfl
  refine (ellGo_loop (C:=C) (N:=N) (want:=want) hg (x2:=some (.list (ws.map .str))) he (mu:=[.dead]) ws s x5 hw hs).elim fun st' h=>?_
  have hf:ex C N (.for_ (.one 5) (.var 2) bEllLoop) ⟨lw want got (some (.list (ws.map .str))) (some (.int s)) (some (.int e)) x5,[.dead]⟩ = loop (loopF C N (.one 5) bEllLoop) (ws.map .str) ⟨lw want got (some (.list (ws.map .str))) (some (.int s)) (some (.int e)) x5,[.dead]⟩:=ex_for (ev_var rfl) rfl
  rw [← hf,← ex_seq (a:=.frz 2) (b:=.for_ (.one 5) (.var 2) bEllLoop) f1] at h
  cases hq:ellGo got e ws s with
  | true =>
   rw [hq] at h
   exact ⟨_,(ex_seq h).trans (ex_seq_ret (ex_ret ev_cst))⟩
  | false =>
   rw [hq] at h
   exact ⟨_,ex_seq_ret h⟩
theorem ellC_ok (hg:got.length ≤ 1000000) {ws:List T} {s:Int} (hne:ws ≠ []) (hw:∀ w ∈ ws,w.length ≤ 1000000) (hs:s.natAbs + ws.length * 4000000 ≤ 1000000000000) {x5:Option V} :
  ∃ st',ex C N bEllC ⟨lw want got (some (.mref 0)) (some (.int s)) (some (.int got.length)) x5,[.list (ws.map .str)]⟩ = some (.ret (.bool (ellC got ws s)),st'):=by
 obtain ⟨v,hv⟩:∃ v,ws.getLast? = some v:=by cases h:ws.getLast? with | none=>exact (hne (List.getLast?_eq_none_iff.mp h)).elim | some v=>exact ⟨v,rfl⟩
 have hvd:ws.getLastD [] = v:=by rw [List.getLastD_eq_getLast?,hv];rfl
 have hvm:v ∈ ws:=List.mem_of_getLast? hv
 have hpos:0 < ws.length:=List.length_pos_iff.mpr hne
 have hvl:=hw v hvm
 have he2:((got.length:Int) - v.length).natAbs ≤ 1000000000:=by clear hv hvd hs;lia
 have hat:at? (ws.map V.str) (-1) = some (.str v):=by
  delta at?
  rw [if_neg (by decide),if_pos (by rw [List.length_map];lia),List.getElem?_map]
  rw [List.getLast?_eq_getElem?] at hv
  rw [toNat_m1,List.length_map,hv];rfl
 have s1:ex C N (.asg 5 (.idx (.var 2) (.neg (.cst (.int 1))))) ⟨lw want got (some (.mref 0)) (some (.int s)) (some (.int got.length)) x5,[.list (ws.map .str)]⟩ = some (.next,⟨lw want got (some (.mref 0)) (some (.int s)) (some (.int got.length)) (some (.str v)),[.list (ws.map .str)]⟩) :=
  ex_asg (ev_idx_l (ev_var rfl) (ev_neg ev_cst) rfl hat)
 have c1:evT C (.var 5) ⟨lw want got (some (.mref 0)) (some (.int s)) (some (.int got.length)) (some (.str v)),[.list (ws.map .str)]⟩ = some (!v.isEmpty,⟨lw want got (some (.mref 0)) (some (.int s)) (some (.int got.length)) (some (.str v)),[.list (ws.map .str)]⟩):=evT_ev (ev_var rfl) rfl
 delta bEllC ellC
 rw [ex_seq s1,hvd]
 by_cases q:v = []
 ·have:(!v.isEmpty) = false:=by simp [q]
  rw [this] at c1
  rw [if_pos q,ex_seq (ex_if_f c1)]
  exact ellD_ok hg hw (by exact Nat.le_trans (by assumption) (by decide)) hs
 ·have:(!v.isEmpty) = true:=by simp [q]
  rw [this] at c1
  rw [if_neg q]
  have c2:evT C (.meth .endswith (.var 1) (.cons (.var 5) .nil)) ⟨lw want got (some (.mref 0)) (some (.int s)) (some (.int got.length)) (some (.str v)),[.list (ws.map .str)]⟩ = some (v.isSuffixOf got,⟨lw want got (some (.mref 0)) (some (.int s)) (some (.int got.length)) (some (.str v)),[.list (ws.map .str)]⟩) :=
   evT_ev (ev_meth (ev_var rfl) (ev_one (ev_var rfl)) rfl) rfl
  cases q2:v.isSuffixOf got with
  | false =>
   rw [q2] at c2
   exact ⟨_,ex_seq_ret ((ex_if_t c1).trans (ex_seq_ret ((ex_if_e c2).trans (ex_seq_ret (ex_ret ev_cst)))))⟩
  | true =>
   rw [q2] at c2
   have a1:ex C N (.aug 4 .sub (.call .len (.cons (.var 5) .nil))) ⟨lw want got (some (.mref 0)) (some (.int s)) (some (.int got.length)) (some (.str v)),[.list (ws.map .str)]⟩ = some (.next,⟨lw want got (some (.mref 0)) (some (.int s)) (some (.int ((got.length:Int) - v.length))) (some (.str v)),[.list (ws.map .str)]⟩) :=
    ex_aug rfl (ev_call (ev_one (ev_var rfl)) rfl) rfl
   have hme:((((-1:Int) == 0) || ((-1:Int) == -1)) && !(ws.map V.str).isEmpty) = true:=by cases ws with | nil=>exact (hne rfl).elim | cons=>rfl
   have d1:ex C N (.del 2 (.neg (.cst (.int 1)))) ⟨lw want got (some (.mref 0)) (some (.int s)) (some (.int ((got.length:Int) - v.length))) (some (.str v)),[.list (ws.map .str)]⟩ = some (.next,⟨lw want got (some (.mref 0)) (some (.int s)) (some (.int ((got.length:Int) - v.length))) (some (.str v)),[.list ((ws.take (ws.length - 1)).map .str)]⟩):=by
    rw [ex_del (n:=0) (k:=-1) (l:=ws.map .str) rfl (ev_neg ev_cst) rfl hme,List.map_take]
    show _ = some (Fl.next,(⟨_,[.list ((ws.map V.str).take (ws.length - 1))]⟩:St))
    simp only [List.length_map];rfl
   have br:ex C N (.seq (.ite (.meth .endswith (.var 1) (.cons (.var 5) .nil))
     (.seq (.aug 4 .sub (.call .len (.cons (.var 5) .nil)))
     (.seq (.del 2 (.neg (.cst (.int 1))))
     .skip))
     (.seq (.ret (.cst (.bool false)))
     .skip))
    .skip) ⟨lw want got (some (.mref 0)) (some (.int s)) (some (.int got.length)) (some (.str v)),[.list (ws.map .str)]⟩ = some (.next,⟨lw want got (some (.mref 0)) (some (.int s)) (some (.int ((got.length:Int) - v.length))) (some (.str v)),[.list ((ws.take (ws.length - 1)).map .str)]⟩) :=
    (ex_seq (st₁:=⟨lw want got (some (.mref 0)) (some (.int s)) (some (.int ((got.length:Int) - v.length))) (some (.str v)),[.list ((ws.take (ws.length - 1)).map .str)]⟩) ((ex_if_t c2).trans ((ex_seq a1).trans (ex_seq d1)))).trans rfl
   rw [if_pos rfl,ex_seq ((ex_if_t c1).trans br)]
   have hl2:(ws.take (ws.length - 1)).length ≤ ws.length:=by rw [List.length_take];exact Nat.min_le_right _ _
   have hs2:s.natAbs + (ws.take (ws.length - 1)).length * 4000000 ≤ 1000000000000:=Nat.le_trans (Nat.add_le_add_left (Nat.mul_le_mul_right _ hl2) _) hs
   exact ellD_ok hg (fun w hw'=>hw w (List.mem_of_mem_take hw')) he2 hs2
theorem ellB_ok (hg:got.length ≤ 1000000) {ws:List T} (hne:2 ≤ ws.length) (hw:∀ w ∈ ws,w.length ≤ 1000000) (hs:ws.length ≤ 100000) {x5:Option V} :
  ∃ st',ex C N bEllB ⟨lw want got (some (.mref 0)) (some (.int 0)) (some (.int got.length)) x5,[.list (ws.map .str)]⟩ = some (.ret (.bool (ellB got ws)),st'):=by
 match ws,hne with
 | w :: w2 :: rest,_ =>
  have s1:ex C N (.asg 5 (.idx (.var 2) (.cst (.int 0)))) ⟨lw want got (some (.mref 0)) (some (.int 0)) (some (.int got.length)) x5,[.list ((w :: w2 :: rest).map .str)]⟩ = some (.next,⟨lw want got (some (.mref 0)) (some (.int 0)) (some (.int got.length)) (some (.str w)),[.list ((w :: w2 :: rest).map .str)]⟩) :=
   ex_asg (ev_idx_l (l:=(w :: w2 :: rest).map .str) (k:=0) (ev_var rfl) ev_cst rfl (by unfold at?;simp))
  have c1:evT C (.var 5) ⟨lw want got (some (.mref 0)) (some (.int 0)) (some (.int got.length)) (some (.str w)),[.list ((w :: w2 :: rest).map .str)]⟩ = some (!w.isEmpty,⟨lw want got (some (.mref 0)) (some (.int 0)) (some (.int got.length)) (some (.str w)),[.list ((w :: w2 :: rest).map .str)]⟩):=evT_ev (ev_var rfl) rfl
  have hB:ellB got (w :: w2 :: rest) = if w = [] then ellC got (w :: w2 :: rest) 0 else if w.isPrefixOf got then ellC got (w2 :: rest) w.length else false:=rfl
  unfold bEllB
  simp only [ex_seq s1,hB]
  by_cases q:w = []
  ·have:(!w.isEmpty) = false:=by simp [q]
   rw [this] at c1
   rw [if_pos q,ex_seq (ex_if_f c1)]
   exact ellC_ok hg (by simp) hw (by simp only [List.length_cons] at hs ⊢;lia)
  ·have:(!w.isEmpty) = true:=by simp [q]
   rw [this] at c1
   rw [if_neg q]
   have c2:evT C (.meth .startswith (.var 1) (.cons (.var 5) .nil)) ⟨lw want got (some (.mref 0)) (some (.int 0)) (some (.int got.length)) (some (.str w)),[.list ((w :: w2 :: rest).map .str)]⟩ = some (w.isPrefixOf got,⟨lw want got (some (.mref 0)) (some (.int 0)) (some (.int got.length)) (some (.str w)),[.list ((w :: w2 :: rest).map .str)]⟩) :=
    evT_ev (ev_meth (ev_var rfl) (ev_one (ev_var rfl)) rfl) rfl
   cases q2:w.isPrefixOf got with
   | false =>
    rw [q2] at c2
    exact ⟨_,ex_seq_ret ((ex_if_t c1).trans (ex_seq_ret ((ex_if_e c2).trans (ex_seq_ret (ex_ret ev_cst)))))⟩
   | true =>
    rw [q2] at c2
    have a1:ex C N (.asg 3 (.call .len (.cons (.var 5) .nil))) ⟨lw want got (some (.mref 0)) (some (.int 0)) (some (.int got.length)) (some (.str w)),[.list ((w :: w2 :: rest).map .str)]⟩ = some (.next,⟨lw want got (some (.mref 0)) (some (.int w.length)) (some (.int got.length)) (some (.str w)),[.list ((w :: w2 :: rest).map .str)]⟩) :=
     ex_asg (ev_call (ev_one (ev_var rfl)) rfl)
    have d1:ex C N (.del 2 (.cst (.int 0))) ⟨lw want got (some (.mref 0)) (some (.int w.length)) (some (.int got.length)) (some (.str w)),[.list ((w :: w2 :: rest).map .str)]⟩ = some (.next,⟨lw want got (some (.mref 0)) (some (.int w.length)) (some (.int got.length)) (some (.str w)),[.list ((w2 :: rest).map .str)]⟩) :=
     (ex_del (n:=0) (k:=0) (l:=(w :: w2 :: rest).map .str) rfl ev_cst rfl rfl).trans rfl
    have br:ex C N (.seq (.ite (.meth .startswith (.var 1) (.cons (.var 5) .nil))
      (.seq (.asg 3 (.call .len (.cons (.var 5) .nil)))
      (.seq (.del 2 (.cst (.int 0)))
      .skip))
      (.seq (.ret (.cst (.bool false)))
      .skip))
     .skip) ⟨lw want got (some (.mref 0)) (some (.int 0)) (some (.int got.length)) (some (.str w)),[.list ((w :: w2 :: rest).map .str)]⟩ = some (.next,⟨lw want got (some (.mref 0)) (some (.int w.length)) (some (.int got.length)) (some (.str w)),[.list ((w2 :: rest).map .str)]⟩) :=
     (ex_seq ((ex_if_t c2).trans ((ex_seq a1).trans ((ex_seq d1).trans rfl)))).trans rfl
    rw [if_pos rfl,ex_seq ((ex_if_t c1).trans br)]
    have hwl:=hw w (.head _)
    exact ellC_ok hg (by simp) (fun z hz=>hw z (.tail _ hz)) (by simp only [List.length_cons] at hs ⊢;lia)
theorem splitGo_pos (y:T):∀ (x:T) (k:Nat) (acc:T),1 ≤ (splitGo y x k acc).length
 | [],_,_=>by simp [splitGo]
 | _ :: r,k + 1,acc=>by simp only [splitGo];exact splitGo_pos y r k acc
 | a :: r,0,acc=>by
  simp only [splitGo]
  split
  ·simp
  ·exact splitGo_pos y r 0 _
set_option tactic.hygienic true in
theorem splitGo_two {y:T} (hy:y ≠ []):∀ {x:T} {n:Nat} {acc:T},(findGo y x n).isSome = true→2 ≤ (splitGo y x 0 acc).length
 | [],n,acc,h=>by
  unfold findGo at h
  rw [if_neg (by simpa using hy)] at h;exact fat h
 | a :: r,n,acc,h=>by
  unfold findGo at h
  simp only [splitGo]
  split
  ·have:=splitGo_pos y r (y.length - 1) []
   simp only [List.length_cons];exact Nat.succ_le_succ (by assumption)
  ·rename_i q
   rw [if_neg q] at h
   exact splitGo_two hy h
theorem splitGo_len (y:T):∀ (x:T) (k:Nat) (acc:T),(splitGo y x k acc).length ≤ x.length + 1 ∧ ∀ w ∈ splitGo y x k acc,w.length ≤ acc.length + x.length
 | [],_,acc=>by simp [splitGo]
 | _ :: r,k + 1,acc=>by
  obtain ⟨h1,h2⟩:=splitGo_len y r k acc
  simp only [splitGo,List.length_cons]
  exact ⟨by exact Nat.le_trans (by assumption) (Nat.le_add_right _ _),fun w hw=>by have:=h2 w hw;exact Nat.le_trans (by assumption) (Nat.le_succ _)⟩
 | a :: r,0,acc=>by
  simp only [splitGo]
  split
  ·obtain ⟨h1,h2⟩:=splitGo_len y r (y.length - 1) []
   refine ⟨by simp only [List.length_cons];exact Nat.succ_le_succ (by assumption),fun w hw=>?_⟩
   rcases List.mem_cons.mp hw with rfl | hw
   ·simp
   ·have:=h2 w hw;simp at this ⊢;lia
  ·obtain ⟨h1,h2⟩:=splitGo_len y r 0 (a :: acc)
   exact ⟨by simp only [List.length_cons];exact Nat.le_trans (by assumption) (Nat.le_add_right _ _),fun w hw=>by have:=h2 w hw;simp at this ⊢;lia⟩
theorem ell_ex (hwl:want.length ≤ 50000) (hg:got.length ≤ 50000) {x2 x3 x4 x5:Option V} :
  ∃ st',ex C N bEll ⟨lw want got x2 x3 x4 x5,[]⟩ = some (.ret (.bool (ell want got)),st'):=by
 have c0:evT C (.cmp .notin (.cst (.str [46,46,46])) (.var 0)) ⟨lw want got x2 x3 x4 x5,[]⟩ = some (!hasT dots want,⟨lw want got x2 x3 x4 x5,[]⟩):=evT_cmp ev_cst (ev_var rfl) rfl
 delta bEll ell
 cases q:hasT dots want with
 | false =>
  rw [q] at c0
  simp only [Bool.false_eq_true,if_false]
  exact ⟨_,ex_seq_ret ((ex_if_t c0).trans (ex_seq_ret (ex_ret (ev_cmp (ev_var rfl) (ev_var rfl) rfl))))⟩
 | true =>
  rw [q] at c0
  simp only [if_true]
  rw [ex_seq (ex_if_f c0)]
  refine (splitGo_len dots want 0 []).elim fun h1 h2=>?_
  have h3:2 ≤ (splitT want dots).length:=splitGo_two (by decide) q
  have hm:meth .split (.str want) [.str [46,46,46]] = some (.list ((splitT want dots).map .str)):=by
   show okL ((splitT want dots).map .str) = _
   delta okL
   rw [if_pos (by rw [List.length_map];show (splitGo dots want 0 []).length ≤ _;lia)]
  have hf:=ev_fresh (ev_meth (C:=C) (x:=.var 0) (y:=.cons (.cst (.str [46,46,46])) .nil) (st:=⟨lw want got x2 x3 x4 x5,[]⟩) (ev_var rfl) (ev_one ev_cst) hm)
  have s1:ex C N (.asg 2 (.fresh (.meth .split (.var 0) (.cons (.cst (.str [46,46,46])) .nil)))) ⟨lw want got x2 x3 x4 x5,[]⟩ = some (.next,⟨lw want got (some (.mref 0)) x3 x4 x5,[.list ((splitT want dots).map .str)]⟩):=(ex_asg hf).trans rfl
  have a1:ex C N (.assert (.cmp .ge (.call .len (.cons (.var 2) .nil)) (.cst (.int 2)))) ⟨lw want got (some (.mref 0)) x3 x4 x5,[.list ((splitT want dots).map .str)]⟩ = some (.next,⟨lw want got (some (.mref 0)) x3 x4 x5,[.list ((splitT want dots).map .str)]⟩):=by
   refine ex_assert (evT_cmp (u:=.int (splitT want dots).length) (ev_call (ev_one (ev_var rfl)) ?_) ev_cst ?_)
   ·show some (V.int (((splitT want dots).map V.str).length:Int)) = _
    rw [List.length_map]
   ·show some (decide ((2:Int) ≤ (splitT want dots).length)) = _
    rw [decide_eq_true (by exact Int.ofNat_lt.mpr (by assumption))]
  have t1:ex C N (.tasg [3,4] (.tupl (.cons (.cst (.int 0)) (.cons (.call .len (.cons (.var 1) .nil)) .nil)))) ⟨lw want got (some (.mref 0)) x3 x4 x5,[.list ((splitT want dots).map .str)]⟩ = some (.next,⟨lw want got (some (.mref 0)) (some (.int 0)) (some (.int got.length)) x5,[.list ((splitT want dots).map .str)]⟩) :=
   ex_tasg (ev_tupl (ev_cons ev_cst (ev_one (ev_call (ev_one (ev_var rfl)) rfl)))) rfl
  rw [ex_seq s1,ex_seq a1,ex_seq t1]
  refine ellB_ok (by exact Nat.le_trans (by assumption) (by decide)) h3 (fun w hw=>?_) (by show (splitGo dots want 0 []).length ≤ _;lia)
  have:=h2 w hw
  simp at this;exact Nat.le_trans (by assumption) (Nat.le_trans (by assumption) (by decide))
theorem ell_ok (hwl:want.length ≤ 50000) (hg:got.length ≤ 50000):runC C N bEll 2 18 [.str want,.str got] = some (.bool (ell want got)):=by
 refine Classical.byContradiction fun hcon=>?_
 refine (ell_ex (C:=C) (N:=N) (want:=want) (got:=got) (x2:=none) (x3:=none) (x4:=none) (x5:=none) hwl hg).elim fun st' h=>?_
 refine hcon ?_
 have h':ex C N bEll { vars:=[V.str want,V.str got].map some ++ List.replicate (18 - 2) none,mu:=[] } = some (.ret (.bool (ell want got)),st'):=h
 unfold runC
 rw [h']
 rfl
end
noncomputable def bStrIt:S:=(.seq (.ite (.cmp .eq (.var 5) (.cst (.str [34])))
   (.seq (.ite (.cmp .is_ (.var 2) (.cst .none))
    (.seq (.asg 2 (.var 4))
    .skip)
    (.seq (.ite (.cmp .ne (.var 1) (.var 2))
     (.seq (.app 3 (.slc (.var 0) (.var 1) (.var 2)))
     .skip)
     .skip)
    (.seq (.asg 1 (.bin .add (.var 4) (.cst (.int 1))))
    (.seq (.asg 2 (.cst .none))
    .skip))))
   .skip)
   .skip)
  .skip)
noncomputable def bStr:S:=(.seq (.ite (.cmp .notin (.cst (.str [34])) (.var 0))
  (.seq (.ret (.var 0))
  .skip)
  .skip)
 (.seq (.asg 1 (.cst (.int 0)))
 (.seq (.asg 2 (.cst .none))
 (.seq (.asg 3 (.fresh (.lst .nil)))
 (.seq (.fore 4 5 (.var 0)
  bStrIt)
 (.seq (.ite (.cmp .lt (.var 1) (.call .len (.cons (.var 0) .nil)))
  (.seq (.app 3 (.slc (.var 0) (.var 1) (.cst .none)))
  .skip)
  .skip)
 (.seq (.ret (.meth .join (.cst (.str [])) (.cons (.var 3) .nil)))
 .skip)))))))
noncomputable def escP:Int→Bool→T→List (Int × T)
 | k,e,[]=>if e then [(k - 1,[92])] else []
 | k,true,c :: r=>(k,[92,c]) :: escP (k + 1) false r
 | k,false,c :: r=>if c == 92 then escP (k + 1) true r else (k,[c]) :: escP (k + 1) false r
theorem escGo_eq:∀ (x:T) (k:Int) (e:Bool),escGo k e x = (escP k e x).map fun p=>V.tup [.int p.1,.str p.2]
 | [],k,e=>by cases e <;> simp [escGo,escP]
 | c :: r,k,true=>by simp only [escGo,escP,List.map_cons];simp only [escGo_eq r]
 | c :: r,k,false=>by simp only [escGo,escP];split;simp only [escGo_eq r];simp only [List.map_cons,escGo_eq r]
noncomputable def strGo (addr:T):List (Int × T)→Int→Option Int→List T→Int × List T
 | [],s,_,acc=>(s,acc)
 | (p,c) :: r,s,o,acc=>if c = [34] then match o with
   | none=>strGo addr r s (some p) acc
   | some q=>strGo addr r (p + 1) none (if s ≠ q then acc ++ [cut addr (some s) (some q)] else acc)
  else strGo addr r s o acc
noncomputable def strip (addr:T):T :=
 if hasT [34] addr then
  let q:=strGo addr (escP 0 false addr) 0 none []
  (if q.1 < addr.length then q.2 ++ [cut addr (some q.1) none] else q.2).flatten
 else addr
noncomputable def vO:Option Int→V
 | none=>.none
 | some i=>.int i
noncomputable abbrev sw (addr:T) (x1 x2 x3 x4 x5:Option V):List (Option V):=[some (.str addr),x1,x2,x3,x4,x5,none,none,none,none,none,none,none,none,none,none,none,none]
section
variable {C:Con} {N:Nat} {addr:T}
theorem it_ok {s p:Int} {o:Option Int} {acc:List T} {c:T} (hl:acc.length ≤ 1000000) :
  ex C N bStrIt ⟨sw addr (some (.int s)) (some (vO o)) (some (.mref 0)) (some (.int p)) (some (.str c)),[.list (acc.map .str)]⟩ = some (.next,if c = [34] then match o with
   | none=>⟨sw addr (some (.int s)) (some (.int p)) (some (.mref 0)) (some (.int p)) (some (.str c)),[.list (acc.map .str)]⟩
   | some q=>⟨sw addr (some (.int (p + 1))) (some .none) (some (.mref 0)) (some (.int p)) (some (.str c)),[.list ((if s ≠ q then acc ++ [cut addr (some s) (some q)] else acc).map .str)]⟩
   else ⟨sw addr (some (.int s)) (some (vO o)) (some (.mref 0)) (some (.int p)) (some (.str c)),[.list (acc.map .str)]⟩):=by
 have c1:evT C (.cmp .eq (.var 5) (.cst (.str [34]))) ⟨sw addr (some (.int s)) (some (vO o)) (some (.mref 0)) (some (.int p)) (some (.str c)),[.list (acc.map .str)]⟩ = some (c == [34],⟨sw addr (some (.int s)) (some (vO o)) (some (.mref 0)) (some (.int p)) (some (.str c)),[.list (acc.map .str)]⟩):=evT_cmp (ev_var rfl) ev_cst rfl
 delta bStrIt
 by_cases q:c = [34]
 ·have:(c == [34]) = true:=by simp [q]
  rw [this] at c1
  rw [if_pos q]
  cases o with
  | none =>
   have c2:evT C (.cmp .is_ (.var 2) (.cst .none)) ⟨sw addr (some (.int s)) (some (vO none)) (some (.mref 0)) (some (.int p)) (some (.str c)),[.list (acc.map .str)]⟩ = some (true,⟨sw addr (some (.int s)) (some (vO none)) (some (.mref 0)) (some (.int p)) (some (.str c)),[.list (acc.map .str)]⟩):=evT_cmp (ev_var rfl) ev_cst rfl
   exact (ex_seq ((ex_if_t c1).trans ((ex_seq ((ex_if_t c2).trans ((ex_seq (ex_asg (ev_var rfl))).trans rfl))).trans rfl))).trans rfl
  | some i =>
   have c2:evT C (.cmp .is_ (.var 2) (.cst .none)) ⟨sw addr (some (.int s)) (some (vO (some i))) (some (.mref 0)) (some (.int p)) (some (.str c)),[.list (acc.map .str)]⟩ = some (false,⟨sw addr (some (.int s)) (some (vO (some i))) (some (.mref 0)) (some (.int p)) (some (.str c)),[.list (acc.map .str)]⟩):=evT_cmp (ev_var rfl) ev_cst rfl
   have c3:evT C (.cmp .ne (.var 1) (.var 2)) ⟨sw addr (some (.int s)) (some (vO (some i))) (some (.mref 0)) (some (.int p)) (some (.str c)),[.list (acc.map .str)]⟩ = some (!(s == i),⟨sw addr (some (.int s)) (some (vO (some i))) (some (.mref 0)) (some (.int p)) (some (.str c)),[.list (acc.map .str)]⟩):=evT_cmp (ev_var rfl) (ev_var rfl) rfl
   have tail:∀ l:List V,ex C N (.seq (.asg 1 (.bin .add (.var 4) (.cst (.int 1)))) (.seq (.asg 2 (.cst .none)) .skip)) ⟨sw addr (some (.int s)) (some (vO (some i))) (some (.mref 0)) (some (.int p)) (some (.str c)),[.list l]⟩ = some (.next,⟨sw addr (some (.int (p + 1))) (some .none) (some (.mref 0)) (some (.int p)) (some (.str c)),[.list l]⟩):=fun l =>
    (ex_seq (ex_asg (ev_bin (ev_var rfl) ev_cst rfl))).trans ((ex_seq (ex_asg ev_cst)).trans rfl)
   by_cases q2:s = i
   ·have:(!(s == i)) = false:=by simp [q2]
    rw [this] at c3
    have hif:(if s ≠ i then acc ++ [cut addr (some s) (some i)] else acc) = acc:=if_neg (by simp [q2])
    simp only [hif]
    exact (ex_seq ((ex_if_t c1).trans ((ex_seq ((ex_if_e c2).trans ((ex_seq (ex_if_f c3)).trans (tail _)))).trans rfl))).trans rfl
   ·have:(!(s == i)) = true:=by simp [q2]
    rw [this] at c3
    have hif:(if s ≠ i then acc ++ [cut addr (some s) (some i)] else acc) = acc ++ [cut addr (some s) (some i)]:=if_pos q2
    simp only [hif]
    have a1:ex C N (.seq (.app 3 (.slc (.var 0) (.var 1) (.var 2))) .skip) ⟨sw addr (some (.int s)) (some (vO (some i))) (some (.mref 0)) (some (.int p)) (some (.str c)),[.list (acc.map .str)]⟩ = some (.next,⟨sw addr (some (.int s)) (some (vO (some i))) (some (.mref 0)) (some (.int p)) (some (.str c)),[.list ((acc ++ [cut addr (some s) (some i)]).map .str)]⟩):=by
     rw [List.map_append]
     exact (ex_seq (ex_app (n:=0) (l:=acc.map .str) (l':=acc.map .str) rfl rfl (ev_slc_s (ev_var rfl) (ev_var rfl) (ev_var rfl) rfl rfl) rfl (by rw [List.length_map];exact hl))).trans rfl
    exact (ex_seq ((ex_if_t c1).trans ((ex_seq ((ex_if_e c2).trans ((ex_seq ((ex_if_t c3).trans a1)).trans (tail _)))).trans rfl))).trans rfl
 ·have:(c == [34]) = false:=by simp [q]
  rw [this] at c1
  rw [if_neg q]
  exact (ex_seq (ex_if_f c1)).trans rfl
theorem strGo_loop:∀ (l:List (Int × T)) (s:Int) (o:Option Int) (acc:List T) (x4 x5:Option V),acc.length + l.length ≤ 1000000 →
  ∃ y2 y4 y5,loop (loopF C N (.two 4 5) bStrIt) (l.map fun p=>V.tup [.int p.1,.str p.2]) ⟨sw addr (some (.int s)) (some (vO o)) (some (.mref 0)) x4 x5,[.list (acc.map .str)]⟩ =
   some (.next,⟨sw addr (some (.int (strGo addr l s o acc).1)) y2 (some (.mref 0)) y4 y5,[.list ((strGo addr l s o acc).2.map .str)]⟩)
 | [],s,o,acc,x4,x5,h=>⟨_,_,_,rfl⟩
 | (p,c) :: l,s,o,acc,x4,x5,h=>by
  dsimp only [List.length_cons] at h
  have it:loopF C N (.two 4 5) bStrIt (.tup [.int p,.str c]) ⟨sw addr (some (.int s)) (some (vO o)) (some (.mref 0)) x4 x5,[.list (acc.map .str)]⟩ = _:=it_ok (by lia)
  rw [List.map_cons,loop_nx it]
  by_cases q:c = [34]
  ·rw [if_pos q]
   cases o with
   | none =>
    have hd:strGo addr ((p,c) :: l) s none acc = strGo addr l s (some p) acc:=by simp only [strGo,if_pos q]
    rw [hd]
    exact strGo_loop l s (some p) acc _ _ (by lia)
   | some i =>
    have hd:strGo addr ((p,c) :: l) s (some i) acc = strGo addr l (p + 1) none (if s ≠ i then acc ++ [cut addr (some s) (some i)] else acc):=by simp only [strGo,if_pos q]
    rw [hd]
    exact strGo_loop l (p + 1) none _ _ _ (by split <;> (try simp only [List.length_append,List.length_singleton]) <;> lia)
  ·rw [if_neg q]
   have hd:strGo addr ((p,c) :: l) s o acc = strGo addr l s o acc:=by simp only [strGo,if_neg q]
   rw [hd]
   exact strGo_loop l s o acc _ _ (by lia)
theorem escP_len:∀ (x:T) (k:Int) (e:Bool),(escP k e x).length ≤ x.length + 1
 | [],k,e=>by cases e <;> simp [escP]
 | c :: r,k,true=>by simp only [escP,List.length_cons];have:=escP_len r (k + 1) false;exact Nat.succ_le_succ (by assumption)
 | c :: r,k,false=>by
  simp only [escP]
  split
  ·have:=escP_len r (k + 1) true;simp only [List.length_cons];exact Nat.le_trans (by assumption) (Nat.le_add_right _ _)
  ·have:=escP_len r (k + 1) false;simp only [List.length_cons];exact Nat.succ_le_succ (by assumption)
theorem strGo_len (addr:T):∀ (l:List (Int × T)) (s:Int) (o:Option Int) (acc:List T),(∀ w ∈ acc,w.length ≤ addr.length)→(strGo addr l s o acc).2.length ≤ acc.length + l.length ∧ ∀ w ∈ (strGo addr l s o acc).2,w.length ≤ addr.length
 | [],s,o,acc,h=>⟨by simp [strGo],h⟩
 | (p,c) :: l,s,o,acc,h=>by
  simp only [strGo,List.length_cons]
  split
  ·cases o with
   | none=>have:=strGo_len addr l s (some p) acc h;exact ⟨by simp only;lia,this.2⟩
   | some q =>
    have h':∀ w ∈ (if s ≠ q then acc ++ [cut addr (some s) (some q)] else acc),w.length ≤ addr.length:=by
     intro w hw
     split at hw
     ·refine Or.elim (List.mem_append.mp hw) (fun hw=>?_) (fun hw=>?_)
      ·exact h w hw
      ·rw [List.mem_singleton.mp hw];exact cut_length_le _ _ _
     ·exact h w hw
    have:=strGo_len addr l (p + 1) none _ h'
    refine ⟨Nat.le_trans this.1 ?_,this.2⟩
    split <;> (try simp only [List.length_append,List.length_singleton]) <;> lia
  ·have:=strGo_len addr l s o acc h;exact ⟨by lia,this.2⟩
theorem joinT_nil:∀ l:List T,joinT [] l = l.flatten
 | []=>rfl
 | [x]=>by simp [joinT]
 | x :: y :: r=>by simp only [joinT,List.append_nil,List.flatten_cons];simp only [joinT_nil (y :: r)];rfl
theorem strsV_map:∀ l:List T,strsV (l.map V.str) = some l
 | []=>rfl
 | x :: r=>by show map2 List.cons (some x) (strsV (r.map V.str)) = _;rw [strsV_map r];rfl
theorem join_at {x:T} {l:List T} (h:(l.map fun z:T=>z.length).sum + l.length * x.length ≤ 1000000):meth .join (.str x) [.list (l.map .str)] = some (.str (joinT x l)):=by
 show ((strsV (l.map V.str)).bind fun ts:List T=>if (ts.map (·.length)).sum + ts.length * x.length ≤ 1000000 then some (V.str (joinT x ts)) else none) = _
 simp only [strsV_map];exact if_pos h
theorem join_nil {l:List T} (h:(l.map fun z:T=>z.length).sum ≤ 1000000):meth .join (.str []) [.list (l.map .str)] = some (.str l.flatten):=by simp only [join_at (x:=[]) (by exact h),joinT_nil]
theorem sum_le {m:Nat}:∀ {l:List T},(∀ w ∈ l,w.length ≤ m)→(l.map (fun z:T=>z.length)).sum ≤ l.length * m
 | [],_=>by simp
 | x :: r,h=>by
  have h1:=h x (.head _)
  have h2:=sum_le (l:=r) fun w hw=>h w (.tail _ hw)
  simp only [List.map_cons,List.sum_cons,List.length_cons,Nat.succ_mul];lia
theorem strip_ex (ha:addr.length ≤ 900) {x1 x2 x3 x4 x5:Option V}:∃ st',ex C N bStr ⟨sw addr x1 x2 x3 x4 x5,[]⟩ = some (.ret (.str (strip addr)),st'):=by
 have c0:evT C (.cmp .notin (.cst (.str [34])) (.var 0)) ⟨sw addr x1 x2 x3 x4 x5,[]⟩ = some (!hasT [34] addr,⟨sw addr x1 x2 x3 x4 x5,[]⟩):=evT_cmp ev_cst (ev_var rfl) rfl
 delta bStr strip
 cases q:hasT [34] addr with
 | false =>
  rw [q] at c0
  dsimp only [Bool.false_eq_true,if_false]
  exact ⟨_,ex_seq_ret ((ex_if_t c0).trans (ex_seq_ret (ex_ret (ev_var rfl))))⟩
 | true =>
  rw [q] at c0
  dsimp only [if_true]
  have hpl:=escP_len addr 0 false
  refine Classical.byContradiction fun hcon=>?_
  refine (strGo_loop (C:=C) (N:=N) (addr:=addr) (escP 0 false addr) 0 none [] x4 x5 (by dsimp only [List.length_nil];lia)).elim fun y2 k0=>k0.elim fun y4 k1=>k1.elim fun y5 h=>?_
  refine (strGo_len addr (escP 0 false addr) 0 none [] (by simp)).elim fun g1 g2=>?_
  refine hcon ?_
  generalize hG:strGo addr (escP 0 false addr) 0 none [] = G at h g1 g2
  refine Classical.byContradiction fun hcon=>?_
  obtain ⟨s,acc⟩:=G
  refine hcon ?_
  simp only [List.length_nil,Nat.zero_add] at g1 g2 h
  have s1:ex C N (.asg 3 (.fresh (.lst .nil))) ⟨sw addr (some (.int 0)) (some .none) x3 x4 x5,[]⟩ = some (.next,⟨sw addr (some (.int 0)) (some .none) (some (.mref 0)) x4 x5,[.list []]⟩):=(ex_asg (ev_fresh (ev_lst ev_nil))).trans rfl
  have f1:ex C N (.fore 4 5 (.var 0) bStrIt) ⟨sw addr (some (.int 0)) (some .none) (some (.mref 0)) x4 x5,[.list []]⟩ = some (.next,⟨sw addr (some (.int s)) y2 (some (.mref 0)) y4 y5,[.list (acc.map .str)]⟩):=by
   have hv:ev C (.var 0) ⟨sw addr (some (.int 0)) (some .none) (some (.mref 0)) x4 x5,[.list []]⟩ = some (.str addr,⟨sw addr (some (.int 0)) (some .none) (some (.mref 0)) x4 x5,[.list []]⟩):=ev_var rfl
   refine (oSS_eq hv _).trans ?_
   rw [escGo_eq]
   exact h
  have hlen:∀ (a b c d:Option V) (mu:List Mo),ev C (.call .len (.cons (.var 0) .nil)) ⟨sw addr a b c d y5,mu⟩ = some (.int addr.length,⟨sw addr a b c d y5,mu⟩):=fun _ _ _ _ _=>ev_call (ev_one (ev_var rfl)) rfl
  have c2:evT C (.cmp .lt (.var 1) (.call .len (.cons (.var 0) .nil))) ⟨sw addr (some (.int s)) y2 (some (.mref 0)) y4 y5,[.list (acc.map .str)]⟩ = some (decide (s < addr.length),⟨sw addr (some (.int s)) y2 (some (.mref 0)) y4 y5,[.list (acc.map .str)]⟩):=evT_cmp (ev_var rfl) (hlen ..) rfl
  have fin:∀ l:List T,l.length ≤ addr.length + 2→(∀ w ∈ l,w.length ≤ addr.length)→∃ st',ex C N (.seq (.ret (.meth .join (.cst (.str [])) (.cons (.var 3) .nil))) .skip) ⟨sw addr (some (.int s)) y2 (some (.mref 0)) y4 y5,[.list (l.map .str)]⟩ = some (.ret (.str l.flatten),st'):=fun l hl hw=>by
   have hm:meth .join (.str []) [.list (l.map .str)] = some (.str l.flatten):=by
    have h1:=sum_le hw
    have h2:l.length * addr.length ≤ 902 * 900:=Nat.mul_le_mul (by omega) ha
    exact join_nil (by exact Nat.le_trans (by assumption) (Nat.le_trans (by assumption) (by decide)))
   exact ⟨_,ex_seq_ret (ex_ret (ev_meth ev_cst (ev_one (ev_var rfl)) hm))⟩
  rw [ex_seq (ex_if_f c0),ex_seq (st₁:=⟨sw addr (some (.int 0)) x2 x3 x4 x5,[]⟩) (ex_asg ev_cst),ex_seq (st₁:=⟨sw addr (some (.int 0)) (some .none) x3 x4 x5,[]⟩) (ex_asg ev_cst),ex_seq s1,ex_seq f1]
  by_cases q2:s < addr.length
  ·rw [decide_eq_true q2] at c2
   rw [if_pos q2]
   have a1:ex C N (.seq (.app 3 (.slc (.var 0) (.var 1) (.cst .none))) .skip) ⟨sw addr (some (.int s)) y2 (some (.mref 0)) y4 y5,[.list (acc.map .str)]⟩ = some (.next,⟨sw addr (some (.int s)) y2 (some (.mref 0)) y4 y5,[.list ((acc ++ [cut addr (some s) none]).map .str)]⟩):=by
    rw [List.map_append]
    exact (ex_seq (ex_app (n:=0) (l:=acc.map .str) (l':=acc.map .str) rfl rfl (ev_slc_s (ev_var rfl) (ev_var rfl) ev_cst rfl rfl) rfl (by rw [List.length_map];lia))).trans rfl
   rw [ex_seq ((ex_if_t c2).trans a1)]
   refine fin _ (by simp only [List.length_append,List.length_singleton];lia) fun w hw=>?_
   rcases List.mem_append.mp hw with hw | hw
   ·exact g2 w hw
   ·rw [List.mem_singleton.mp hw];exact cut_length_le _ _ _
  ·rw [decide_eq_false q2] at c2
   rw [if_neg q2,ex_seq (ex_if_f c2)]
   exact fin _ (by lia) g2
theorem strip_ok (ha:addr.length ≤ 900):runC C N bStr 1 18 [.str addr] = some (.str (strip addr)):=by
 refine Classical.byContradiction fun hcon=>?_
 refine (strip_ex (C:=C) (N:=N) (addr:=addr) (x1:=none) (x2:=none) (x3:=none) (x4:=none) (x5:=none) ha).elim fun st' h=>?_
 refine hcon ?_
 have h':ex C N bStr { vars:=[V.str addr].map some ++ List.replicate (18 - 1) none,mu:=[] } = some (.ret (.str (strip addr)),st'):=h
 unfold runC
 rw [h']
 rfl
end
noncomputable def bUnit:S:=(.seq (.ret (.ite (.cmp .isin (.var 0) (.cst (.str [34,92]))) (.bin .add (.cst (.str [92])) (.var 0)) (.var 0)))
 .skip)
noncomputable def unit (c:Nat):T:=if c = 34 ∨ c = 92 then [92,c] else [c]
theorem has_two (c:Nat):hasT [c] [34,92] = decide (c = 34 ∨ c = 92):=by
 unfold hasT
 simp only [findGo,List.isPrefixOf,List.isEmpty_cons]
 by_cases h1:c = 34
 ·subst h1;rfl
 ·by_cases h2:c = 92
  ·subst h2;rfl
  ·have e1:(c == 34) = false:=by simpa using h1
   have e2:(c == 92) = false:=by simpa using h2
   simp [e1,e2,h1,h2]
theorem unit_ok {C:Con} {N:Nat} {c:Nat}:runC C N bUnit 1 13 [.str [c]] = some (.str (unit c)):=by
 have c0:evT C (.cmp .isin (.var 0) (.cst (.str [34,92]))) ⟨[some (.str [c]),none,none,none,none,none,none,none,none,none,none,none,none],[]⟩ = some (decide (c = 34 ∨ c = 92),⟨[some (.str [c]),none,none,none,none,none,none,none,none,none,none,none,none],[]⟩) :=
  evT_cmp (ev_var rfl) ev_cst (by show some (hasT [c] [34,92]) = _;rw [has_two])
 have key:∃ st',ex C N bUnit ⟨[some (.str [c]),none,none,none,none,none,none,none,none,none,none,none,none],[]⟩ = some (.ret (.str (unit c)),st'):=by
  delta bUnit unit
  by_cases q:c = 34 ∨ c = 92
  ·rw [decide_eq_true q] at c0
   rw [if_pos q]
   exact ⟨_,ex_seq_ret (ex_ret ((ev_ite_t c0).trans (ev_bin ev_cst (ev_var rfl) rfl)))⟩
  ·rw [decide_eq_false q] at c0
   rw [if_neg q]
   exact ⟨_,ex_seq_ret (ex_ret ((ev_ite_e c0).trans (ev_var rfl)))⟩
 refine (key).elim fun st' h=>?_
 have h':ex C N bUnit { vars:=[V.str [c]].map some ++ List.replicate (13 - 1) none,mu:=[] } = some (.ret (.str (unit c)),st'):=h
 delta runC
 rw [h']
 rfl
noncomputable def bDots:S:=(.seq (.ret (.bin .add (.bin .add (.cst (.str [46,46,46])) (.meth .join (.cst (.str [46,46,46])) (.cons (.var 0) .nil))) (.cst (.str [46,46,46]))))
 .skip)
noncomputable def dotted (names:List T):T:=dots ++ joinT dots names ++ dots
theorem joinT_len (y:T):∀ l:List T,(joinT y l).length ≤ (l.map (fun z:T=>z.length)).sum + l.length * y.length
 | []=>by simp [joinT]
 | [x]=>by simp [joinT]
 | x :: z :: r=>by
  have:=joinT_len y (z :: r)
  simp only [joinT,List.length_append,List.map_cons,List.sum_cons,List.length_cons,Nat.succ_mul] at this ⊢
  lia
theorem dots_ok {C:Con} {N:Nat} {names:List T} (hl:names.length ≤ 100) (hw:∀ w ∈ names,w.length ≤ 100):runC C N bDots 1 13 [.list (names.map .str)] = some (.str (dotted names)):=by
 have h1:=sum_le hw
 have h2:names.length * 100 ≤ 100 * 100:=Nat.mul_le_mul_right _ hl
 have h3:=joinT_len dots names
 have hd:dots.length = 3:=rfl
 rw [hd] at h3
 have hm:meth .join (.str dots) [.list (names.map .str)] = some (.str (joinT dots names)):=join_at (by rw [hd];lia)
 have hb:∀ a b:T,(a ++ b).length ≤ 16777216→bop .add (.str a) (.str b) = some (.str (a ++ b)):=fun a b h=>by show okS (a ++ b) = _;unfold okS;rw [if_pos h]
 have key:∃ st',ex C N bDots ⟨[some (.list (names.map .str)),none,none,none,none,none,none,none,none,none,none,none,none],[]⟩ = some (.ret (.str (dotted names)),st') :=
  ⟨_,ex_seq_ret (ex_ret (ev_bin (ev_bin ev_cst (ev_meth ev_cst (ev_one (ev_var rfl)) hm) (hb dots _ (by rw [List.length_append,hd];lia))) ev_cst (hb (dots ++ joinT dots names) dots (by rw [List.length_append,List.length_append,hd];lia))))⟩
 refine (key).elim fun st' h=>?_
 have hn:V.nomus [V.list (names.map .str)] = true:=by
  have:∀ l:List T,V.nomus (l.map V.str) = true:=by
   intro l;induction l with
   | nil=>rfl
   | cons a r ih=>unfold List.map V.nomus;rw [ih];rfl
  unfold V.nomus V.nomu
  rw [this];rfl
 have h':ex C N bDots { vars:=[V.list (names.map .str)].map some ++ List.replicate (13 - 1) none,mu:=[] } = some (.ret (.str (dotted names)),st'):=h
 unfold runC
 rw [h',hn]
 rfl
noncomputable def bNum:S:=(.seq (.asg 1 (.tupl (.cons (.cst (.int 32)) (.cons (.cst (.int 0)) (.cons (.cst (.int 6)) (.cons (.cst (.int 7)) (.cons (.cst (.int 3)) (.cons (.cst (.int 11)) (.cons (.cst (.int 2)) (.cons (.cst (.int 5)) .nil)))))))))) (.seq (.ret (.comp [2,3] (.gen (.call .range (.cons (.cst (.int 8)) .nil)) (.one 3) (.cst (.bool true)) (.emit (.bin .mod (.bin .add (.idx (.var 1) (.var 3)) (.call .sum (.cons (.slc (.var 0) (.var 3) (.bin .add (.var 3) (.cst (.int 1)))) .nil))) (.bin .pow (.cst (.int 10)) (.cst (.int 6)))))))) .skip))
noncomputable def bNam:S:=(.seq (.asg 2 (.tupl (.cons (.cst (.str [34,32,8195])) (.cons (.cst (.str [92,10,160])) (.cons (.cst (.str [9,13,35])) .nil))))) (.seq (.asg 3 (.fresh (.lst .nil))) (.seq (.for_ (.one 4) (.call .range (.cons (.var 1) .nil)) (.seq (.asg 5 (.idx (.var 0) (.bin .add (.var 4) (.cst (.int 2))))) (.seq (.app 3 (.ite (.bin .mod (.var 4) (.cst (.int 2))) (.call .chr (.cons (.bin .add (.bin .add (.cst (.int 20000)) (.bin .mul (.cst (.int 3000)) (.var 4))) (.bin .mod (.bin .fdiv (.var 5) (.cst (.int 2))) (.cst (.int 3000)))) .nil)) (.idx (.idx (.var 2) (.bin .fdiv (.var 4) (.cst (.int 2)))) (.bin .mod (.var 5) (.cst (.int 3)))))) .skip))) (.seq (.seq (.frz 3) (.ret (.var 3))) .skip))))
noncomputable def bFile:S:=(.seq (.asg 2 (.cst (.str []))) (.seq (.for_ (.two 3 4) (.enm (.var 0)) (.seq (.ite (.bin .mod (.bin .fdiv (.idx (.var 1) (.bin .add (.var 3) (.cst (.int 2)))) (.cst (.int 6))) (.cst (.int 2))) (.seq (.aug 2 .add (.bin .add (.bin .add (.cst (.str [92])) (.var 4)) (.idx (.cst (.str [32,9,10,13])) (.bin .mod (.var 3) (.cst (.int 4)))))) .skip) (.seq (.aug 2 .add (.bin .add (.bin .add (.cst (.str [34])) (.call (.user 6) (.cons (.var 4) .nil))) (.cst (.str [34])))) .skip)) .skip)) (.seq (.ret (.bin .add (.var 2) (.cst (.str [122,92,32,122,10])))) .skip)))
noncomputable def bHid:S:=(.seq (.tasg [2,3] (.tupl (.cons (.cst (.str [])) (.cons (.cst (.bool false)) .nil)))) (.seq (.for_ (.two 4 5) (.enm (.var 0)) (.seq (.ite (.cmp .ne (.cmp .isin (.var 4) (.var 1)) (.var 3)) (.seq (.tasg [2,3] (.tupl (.cons (.bin .add (.var 2) (.cst (.str [34]))) (.cons (.not (.var 3)) .nil)))) .skip) .skip) (.seq (.aug 2 .add (.var 5)) .skip))) (.seq (.ret (.ite (.var 3) (.bin .add (.var 2) (.cst (.str [34]))) (.var 2))) .skip)))
section
variable {C:Con} {N:Nat} {st st₁:St} {u:V}
theorem St.set_set (st:St) (i:Nat) (v w:V):(st.set i v).set i w = st.set i w:=by
 unfold St.set
 simp only [List.set_set]
theorem turns_map {f:V→St→Option (List V × St)} {p:V→Bool} {g:V→V} {st₁:St} {i:Nat} {l:List V}:∀ {s:St},(∀ v ∈ l,∀ s',s'.set i v = st₁.set i v→f v s' = some (if p v then [g v] else [],st₁.set i v))→(s = st₁ ∨ ∃ v,s = st₁.set i v) →
  ∃ s',turns f l s = some ((l.filter p).map g,s') ∧ (s' = st₁ ∨ ∃ v,s' = st₁.set i v):=by
 induction l with
 | nil=>intro s _ hs;exact ⟨s,rfl,hs⟩
 | cons v l ih =>
  intro s h hs
  have e:s.set i v = st₁.set i v:=by
   rcases hs with rfl | ⟨w,rfl⟩
   ·rfl
   ·exact St.set_set ..
  refine (ih (s:=st₁.set i v) (fun w hw=>h w (.tail _ hw)) (.inr ⟨v,rfl⟩)).elim fun s' k=>⟨s',(turns_nx (h v (.head _) s e) k.1).trans ?_,k.2⟩
  cases q:p v <;> simp [List.filter_cons,q]
theorem ev_comp {it ifs e:X} {i:Nat} {own:List Nat} {l:List V} (p:V→Bool) (g:V→V) (h1:ev C it st = some (u,st₁)) (h2:items u = some l)
  (h3:∀ v ∈ l,evT C ifs (st₁.set i v) = some (p v,st₁.set i v)) (h4:∀ v ∈ l,p v = true→ev C e (st₁.set i v) = some (g v,st₁.set i v))
  (hc1:own.foldl St.clr st₁ = st₁) (hc2:∀ v,own.foldl St.clr (st₁.set i v) = st₁) (hl:l.length ≤ 16777216) :
  ev C (.comp own (.gen it (.one i) ifs (.emit e))) st = some (.list ((l.filter p).map g),st₁):=by
 obtain ⟨s',e1,e2⟩:=turns_map (p:=p) (g:=g) (st₁:=st₁) (i:=i) (l:=l) (s:=st₁) (f:=genF C (.one i) ifs (.emit e)) (fun v hv s hs=>by
  have h3:=h3 v hv
  cases q:p v with
  | false=>rw [q] at h3;exact genF_f (congrArg some hs) h3
  | true=>rw [q] at h3;exact genF_t (congrArg some hs) h3 (ev_emit (h4 v hv q))) (.inl rfl)
 have hs':own.foldl St.clr s' = st₁:=by
  rcases e2 with rfl | ⟨v,rfl⟩
  ·exact hc1
  ·exact hc2 v
 have h:=ev_comp_of (own:=own) (ev_gen_of h1 h2 e1) (by rw [List.length_map];exact Nat.le_trans (List.length_filter_le ..) hl)
 rw [hs'] at h;exact h
theorem ev_comp_map {it e:X} {i:Nat} {own:List Nat} {l:List V} (g:V→V) (h1:ev C it st = some (u,st₁)) (h2:items u = some l)
  (h4:∀ v ∈ l,ev C e (st₁.set i v) = some (g v,st₁.set i v))
  (hc1:own.foldl St.clr st₁ = st₁) (hc2:∀ v,own.foldl St.clr (st₁.set i v) = st₁) (hl:l.length ≤ 16777216) :
  ev C (.comp own (.gen it (.one i) (.cst (.bool true)) (.emit e))) st = some (.list (l.map g),st₁):=by
 have:=ev_comp (C:=C) (e:=e) (fun _=>true) g h1 h2 (fun v _=>evT_ev (v:=.bool true) ev_cst rfl) (fun v hv _=>h4 v hv) hc1 hc2 hl
 rwa [List.filter_eq_self.mpr fun _ _=>rfl] at this
end
theorem rng_items (n:Nat):items (.rng 0 n 1) = some ((List.range n).map fun k:Nat=>V.int k):=by
 show some (rngItems 0 n 1) = _
 unfold rngItems
 congr 1
 simp only [show ((n:Int) - 0 + 1 - 1) / 1 = n by lia,Int.toNat_natCast]
 exact List.map_congr_left fun k _=>by congr 1;lia
theorem nomus_map {α:Type} {f:α→V} {l:List α} (h:∀ x ∈ l,V.nomu (f x) = true):V.nomus (l.map f) = true:=by
 induction l with
 | nil=>rfl
 | cons a l ih=>simp only [List.map_cons,V.nomus,h a (.head _),ih fun x hx=>h x (.tail _ hx),Bool.and_self]
theorem runC_of {C:Con} {N:Nat} {b:S} {np size:Nat} {vs:List V} {v:V} {st':St} (hl:vs.length = np) (hn:V.nomus vs = true) (hv:V.nomu v = true)
  (h:ex C N b { vars:=vs.map some ++ List.replicate (size - np) none,mu:=[] } = some (.ret v,st')):runC C N b np size vs = some v:=by
 unfold runC
 rw [h]
 simp [hl,hn,hv]
theorem loop_inv {f:V→St→Option (Fl × St)} {I:Nat→St→Prop} {l:List V}:∀ {k:Nat},(∀ i v s,l[i]? = some v→I (k + i) s→∃ s',f v s = some (.next,s') ∧ I (k + i + 1) s')→∀ s,I k s→∃ s',loop f l s = some (.next,s') ∧ I (k + l.length) s':=by
 induction l with
 | nil=>intro k _ s h;exact ⟨s,rfl,h⟩
 | cons v l ih =>
  intro k hs s h
  refine (hs 0 v s rfl h).elim fun s1 q=>(ih (k:=k + 1) (fun i w s hi hI=>?_) s1 q.2).elim fun s2 q'=>⟨s2,(loop_nx q.1).trans q'.1,?_⟩
  ·rw [show k + 1 + i = k + (i + 1) by lia] at hI ⊢
   exact hs (i + 1) w s hi hI
  ·simp only [show k + (v :: l).length = k + 1 + l.length by simp only [List.length_cons];lia];exact q'.2
theorem cut_map {α β:Type} (f:α→β) (l:List α) (a b:Option Int):cut (l.map f) a b = (cut l a b).map f:=by
 unfold cut
 rw [List.length_map,← List.map_drop,← List.map_take]
theorem sumV_map (l:List Int):sumV (l.map V.int) = some l.sum:=by
 induction l with
 | nil=>rfl
 | cons a l ih=>show map2 (fun a b=>a + b) (some a) (sumV (l.map V.int)) = _;simp only [ih,List.sum_cons];rfl
noncomputable abbrev iv (k:Nat):V:=.int (k:Int)
noncomputable def added:List Int:=[32,0,6,7,3,11,2,5]
noncomputable def num (ns:List Int) (k:Nat):Nat:=((added.getD k 0 + (cut ns (some (k:Int)) (some ((k:Int) + 1))).sum).fmod 1000000).toNat
noncomputable def nums (ns:List Int):List Nat:=(List.range 8).map (num ns)
theorem num_int (ns:List Int) (k:Nat):(added.getD k 0 + (cut ns (some (k:Int)) (some ((k:Int) + 1))).sum).fmod 1000000 = (num ns k:Int):=by
 unfold num
 rw [Int.toNat_of_nonneg]
 exact Int.fmod_nonneg_of_pos _ (by decide)
theorem num_ok {C:Con} {N:Nat} {ns:List Int}:runC C N bNum 1 14 [.list (ns.map V.int)] = some (.list ((nums ns).map iv)):=by
 have hadd:[V.int 32,.int 0,.int 6,.int 7,.int 3,.int 11,.int 2,.int 5] = added.map V.int:=rfl
 refine runC_of (st':=⟨[some (.list (ns.map V.int)),some (.tup (added.map V.int)),none,none,none,none,none,none,none,none,none,none,none,none],[]⟩) rfl ?_ ?_ ?_
 ·simp only [V.nomus,V.nomu,Bool.and_true];exact nomus_map fun _ _=>rfl
 ·simp only [V.nomu];exact nomus_map fun _ _=>rfl
 ·show ex C N bNum ⟨[some (.list (ns.map V.int)),none,none,none,none,none,none,none,none,none,none,none,none,none],[]⟩ = _
  unfold bNum
  refine (ex_seq (ex_asg (v:=.tup (added.map V.int)) rfl)).trans ?_
  refine ex_seq_ret (ex_ret ?_)
  have:=ev_comp_map (C:=C) (st:=⟨[some (.list (ns.map V.int)),some (.tup (added.map V.int)),none,none,none,none,none,none,none,none,none,none,none,none],[]⟩) (st₁:=⟨[some (.list (ns.map V.int)),some (.tup (added.map V.int)),none,none,none,none,none,none,none,none,none,none,none,none],[]⟩)
   (it:=.call .range (.cons (.cst (.int 8)) .nil)) (e:=.bin .mod (.bin .add (.idx (.var 1) (.var 3)) (.call .sum (.cons (.slc (.var 0) (.var 3) (.bin .add (.var 3) (.cst (.int 1)))) .nil))) (.bin .pow (.cst (.int 10)) (.cst (.int 6))))
   (own:=[2,3]) (i:=3) (l:=(List.range 8).map iv) (u:=.rng 0 (8:Nat) 1) (fun v=>match v with | .int k=>.int (num ns k.toNat) | v=>v) rfl (rng_items 8) (fun v hv=>?_) rfl (fun _=>rfl) (by simp)
  ·refine this.trans ?_
   rw [List.map_map]
   unfold nums
   rw [List.map_map]
   rfl
  ·obtain ⟨k,hk,rfl⟩:=List.mem_map.mp hv
   have hk:=List.mem_range.mp hk
   have hat:at? (added.map V.int) (k:Int) = some (.int (added.getD k 0)):=by
    rw [at_nat,List.getElem?_map,List.getD_eq_getElem?_getD]
    have:k < added.length:=hk
    rw [List.getElem?_eq_getElem this]
    rfl
   have hs:sumV (cut (ns.map V.int) (some (k:Int)) (some ((k:Int) + 1))) = some (cut ns (some (k:Int)) (some ((k:Int) + 1))).sum:=by rw [cut_map,sumV_map]
   refine ev_bin (u:=.int (added.getD k 0 + (cut ns (some (k:Int)) (some ((k:Int) + 1))).sum)) (v:=.int 1000000) (ev_bin (u:=.int (added.getD k 0)) (v:=.int (cut ns (some (k:Int)) (some ((k:Int) + 1))).sum) (ev_idx_t (ev_var rfl) (ev_var rfl) rfl hat)
    (ev_call (ev_one (ev_slc_l (ev_var rfl) (ev_var rfl) (ev_bin (ev_var rfl) ev_cst rfl) rfl rfl rfl)) ?_) rfl) (ev_bin ev_cst ev_cst rfl) ?_
   ·show (sumV (cut (ns.map V.int) (some (k:Int)) (some ((k:Int) + 1)))).map V.int = _
    rw [hs];rfl
   ·show (if ((1000000:Int) == 0) = true then none else some (V.int _)) = _
    rw [if_neg (by decide),num_int]
    rfl
theorem fdiv_nat (a b:Nat):(a:Int).fdiv (b:Int) = ((a / b:Nat):Int):=by
 rw [Int.fdiv_eq_ediv_of_nonneg _ (by exact Int.natCast_nonneg _)];rfl
theorem fmod_nat (a b:Nat):(a:Int).fmod (b:Int) = ((a % b:Nat):Int):=by
 rw [Int.fmod_eq_emod_of_nonneg _ (by exact Int.natCast_nonneg _)];rfl
theorem bop_fdiv (a b:Nat) (h1:0 < b) (h2:b < 1073741824):bop .fdiv (iv a) (iv b) = some (iv (a / b)):=by
 show (if ((b:Int) != 0 && decide ((b:Int).natAbs < 1073741824)) = true then some (V.int ((a:Int).fdiv b)) else none) = _
 rw [if_pos (by simp only [Bool.and_eq_true];refine ⟨?_,decide_eq_true (by simp only [Int.natAbs_natCast];exact h2)⟩;rw [bne_iff_ne];lia),fdiv_nat]
theorem bop_mod (a b:Nat) (h1:0 < b):bop .mod (iv a) (iv b) = some (iv (a % b)):=by
 show (if ((b:Int) == 0) = true then none else some (V.int ((a:Int).fmod b))) = _
 rw [if_neg (by rw [beq_iff_eq];lia),fmod_nat]
theorem bop_mul (a b:Nat) (h1:a ≤ 1000000000) (h2:b ≤ 1000000000):bop .mul (iv a) (iv b) = some (iv (a * b)):=by
 show (if (decide ((a:Int).natAbs ≤ 1000000000000) && decide ((b:Int).natAbs ≤ 1000000000000)) = true then some (V.int ((a:Int) * b)) else none) = _
 rw [if_pos (by simp only [Bool.and_eq_true];exact ⟨decide_eq_true (by simp only [Int.natAbs_natCast];exact Nat.le_trans (by assumption) (by decide)),decide_eq_true (by simp only [Int.natAbs_natCast];exact Nat.le_trans (by assumption) (by decide))⟩)]
 rfl
theorem bop_add (a b:Nat):bop .add (iv a) (iv b) = some (iv (a + b)):=rfl
theorem truth_iv (a:Nat):truth (iv a) = some (decide (a ≠ 0)):=by
 show some ((a:Int) != 0) = _
 congr 1
 rw [Bool.eq_iff_iff,bne_iff_ne,decide_eq_true_iff]
 lia
theorem at_iv {l:List Nat} {i:Nat} (h:i < l.length):at? (l.map iv) (i:Int) = some (iv (l.getD i 0)):=by
 simp only [at_nat,List.getElem?_map,List.getD_eq_getElem?_getD,List.getElem?_eq_getElem h];rfl
theorem okS_of {x:T} (h:x.length ≤ 16777216):okS x = some (.str x):=if_pos h
theorem bop_str (a b:T) (h:(a ++ b).length ≤ 16777216):bop .add (.str a) (.str b) = some (.str (a ++ b)):=okS_of h
theorem fn_chri {C:Con} {i:Int} (h:(decide (0 ≤ i) && decide (i < 50000)) = true):fn C .chr [.int i] = some (.str [i.toNat]):=if_pos h
theorem fn_chr {C:Con} {a:Nat} (h:a < 50000):fn C .chr [iv a] = some (.str [a]):=fn_chri (Bool.and_eq_true_iff.mpr ⟨decide_eq_true (Int.natCast_nonneg a),decide_eq_true (by exact Int.ofNat_lt.mpr (by assumption))⟩)
noncomputable def minded:List T:=[[34,32,8195],[92,10,160],[9,13,35]]
noncomputable def nmv (nl:List Nat) (k:Nat):Nat:=if k % 2 = 1 then 20000 + 3000 * k + nl.getD (k + 2) 0 / 2 % 3000 else (minded.getD (k / 2) []).getD (nl.getD (k + 2) 0 % 3) 0
noncomputable def nms (nl:List Nat) (sz:Nat):List Nat:=(List.range sz).map (nmv nl)
noncomputable abbrev sv (c:Nat):V:=.str [c]
theorem minded_at {i j:Nat} (hi:i < 3) (hj:j < 3):at? (minded.map V.str) (i:Int) = some (.str (minded.getD i [])) ∧ at? (minded.getD i []) (j:Int) = some ((minded.getD i []).getD j 0):=by
 simp only [at_nat,at_nat]
 match i,hi,j,hj with
 | 0,_,0,_=>exact ⟨rfl,rfl⟩
 | 0,_,1,_=>exact ⟨rfl,rfl⟩
 | 0,_,2,_=>exact ⟨rfl,rfl⟩
 | 1,_,0,_=>exact ⟨rfl,rfl⟩
 | 1,_,1,_=>exact ⟨rfl,rfl⟩
 | 1,_,2,_=>exact ⟨rfl,rfl⟩
 | 2,_,0,_=>exact ⟨rfl,rfl⟩
 | 2,_,1,_=>exact ⟨rfl,rfl⟩
 | 2,_,2,_=>exact ⟨rfl,rfl⟩
noncomputable abbrev nw (nl:List Nat) (sz:Nat) (x4 x5:Option V) (acc:List V):St :=
 ⟨[some (.list (nl.map iv)),some (iv sz),some (.tup (minded.map V.str)),some (.mref 0),x4,x5,none,none,none,none,none,none,none,none,none,none,none,none],[.list acc]⟩
noncomputable def bNamL:S:=(.seq (.asg 5 (.idx (.var 0) (.bin .add (.var 4) (.cst (.int 2))))) (.seq (.app 3 (.ite (.bin .mod (.var 4) (.cst (.int 2))) (.call .chr (.cons (.bin .add (.bin .add (.cst (.int 20000)) (.bin .mul (.cst (.int 3000)) (.var 4))) (.bin .mod (.bin .fdiv (.var 5) (.cst (.int 2))) (.cst (.int 3000)))) .nil)) (.idx (.idx (.var 2) (.bin .fdiv (.var 4) (.cst (.int 2)))) (.bin .mod (.var 5) (.cst (.int 3)))))) .skip))
theorem nam_step {C:Con} {N:Nat} {nl:List Nat} {sz k:Nat} (hn:nl.length = 8) (hk:k < 6) {x5:Option V} {acc:List V} (ha:acc.length ≤ 1000000) :
  ex C N bNamL (nw nl sz (some (iv k)) x5 acc) = some (.next,nw nl sz (some (iv k)) (some (iv (nl.getD (k + 2) 0))) (acc ++ [sv (nmv nl k)])):=by
 unfold bNamL
 refine (ex_seq (ex_asg (v:=iv (nl.getD (k + 2) 0)) (st₁:=nw nl sz (some (iv k)) x5 acc) (ev_idx_l (k:=((k + 2:Nat):Int)) (ev_var rfl) (ev_bin (ev_var rfl) ev_cst rfl) rfl (at_iv (by lia))))).trans ?_
 refine (ex_seq (ex_app (n:=0) (l:=acc) (l':=acc) (v:=sv (nmv nl k)) (st₁:=nw nl sz (some (iv k)) (some (iv (nl.getD (k + 2) 0))) acc) rfl rfl ?_ rfl ha)).trans rfl
 have hc:ev C (.bin .mod (.var 4) (.cst (.int 2))) (nw nl sz (some (iv k)) (some (iv (nl.getD (k + 2) 0))) acc) = some (iv (k % 2),nw nl sz (some (iv k)) (some (iv (nl.getD (k + 2) 0))) acc) :=
  ev_bin (ev_var rfl) ev_cst (bop_mod k 2 (by decide))
 have hc':evT C (.bin .mod (.var 4) (.cst (.int 2))) (nw nl sz (some (iv k)) (some (iv (nl.getD (k + 2) 0))) acc) = some (decide (k % 2 ≠ 0),nw nl sz (some (iv k)) (some (iv (nl.getD (k + 2) 0))) acc):=evT_ev hc (truth_iv _)
 unfold nmv
 by_cases q:k % 2 = 1
 ·rw [if_pos q]
  rw [decide_eq_true (by lia)] at hc'
  refine (ev_ite_t hc').trans ?_
  refine ev_call (ev_one (ev_bin (ev_bin ev_cst (ev_bin ev_cst (ev_var rfl) (bop_mul 3000 k (by decide) (by lia))) (bop_add 20000 (3000 * k))) (ev_bin (ev_bin (ev_var rfl) ev_cst (bop_fdiv _ 2 (by decide) (by decide))) ev_cst (bop_mod _ 3000 (by decide))) (bop_add _ _))) ?_
  exact fn_chr (by lia)
 ·rw [if_neg q]
  rw [decide_eq_false (by lia)] at hc'
  refine (ev_ite_e hc').trans ?_
  have hm:=minded_at (i:=k / 2) (j:=nl.getD (k + 2) 0 % 3) (by lia) (by exact Nat.mod_lt _ (by decide))
  exact ev_idx_s (ev_idx_t (ev_var rfl) (ev_bin (ev_var rfl) ev_cst (bop_fdiv k 2 (by decide) (by decide))) rfl hm.1) (ev_bin (ev_var rfl) ev_cst (bop_mod _ 3 (by decide))) hm.2
theorem nam_ok {C:Con} {N:Nat} {nl:List Nat} {sz:Nat} (hn:nl.length = 8) (hs:sz ≤ 6):runC C N bNam 2 18 [.list (nl.map iv),iv sz] = some (.list ((nms nl sz).map sv)):=by
 refine Classical.byContradiction fun hcon=>?_
 obtain ⟨s',h1,x4,x5,rfl⟩:=loop_inv (f:=loopF C N (.one 4) bNamL) (I:=fun k s=>∃ x4 x5,s = nw nl sz x4 x5 ((List.range k).map fun k=>sv (nmv nl k))) (l:=(List.range sz).map iv) (k:=0) (fun i v s hv hI=>by
  obtain ⟨x4,x5,rfl⟩:=hI
  rw [List.getElem?_map] at hv
  obtain ⟨j,hj,rfl⟩:=Option.map_eq_some_iff.mp hv
  have hi:i < sz:=by simpa using (List.getElem?_eq_some_iff.mp hj).1
  rw [List.getElem?_range hi] at hj
  obtain rfl:=Option.some.inj hj
  refine ⟨_,nam_step hn (by exact Nat.lt_of_lt_of_le (by assumption) (by assumption)) (by simp;exact Nat.le_trans (Nat.le_of_lt (by assumption)) (Nat.le_trans (by assumption) (by decide))),some (iv i),some (iv (nl.getD (i + 2) 0)),?_⟩
  rw [Nat.zero_add,List.range_succ,List.map_append];rfl) (nw nl sz none none []) ⟨_,_,rfl⟩
 refine hcon ?_
 rw [Nat.zero_add,List.length_map,List.length_range] at h1
 refine runC_of (st':=⟨[some (.list (nl.map iv)),some (iv sz),some (.tup (minded.map V.str)),some (.list ((nms nl sz).map sv)),x4,x5,none,none,none,none,none,none,none,none,none,none,none,none],[.dead]⟩) rfl ?_ ?_ ?_
 ·simp only [V.nomus,V.nomu,Bool.and_true];exact nomus_map fun _ _=>rfl
 ·simp only [V.nomu];exact nomus_map fun _ _=>rfl
 ·show ex C N bNam ⟨[some (.list (nl.map iv)),some (iv sz),none,none,none,none,none,none,none,none,none,none,none,none,none,none,none,none],[]⟩ = _
  unfold bNam
  refine (ex_seq (ex_asg (v:=.tup (minded.map V.str)) rfl)).trans ?_
  refine (ex_seq (ex_asg (ev_fresh (l:=[]) rfl))).trans ?_
  refine (ex_seq ((ex_for (t:=.one 4) (b:=bNamL) (u:=.rng 0 sz 1) (st₁:=nw nl sz none none []) (ev_call (ev_one (ev_var rfl)) ?_) (rng_items sz)).trans h1)).trans ?_
  ·exact fn_range1 (small_nat (by exact Nat.le_trans (by assumption) (by decide)))
  ·unfold nms
   rw [List.map_map]
   exact ex_seq_ret ((ex_seq (ex_frz rfl rfl)).trans (ex_ret (ev_var rfl)))
theorem enum_at:∀ {l:List V} {k:Int} {i:Nat},(enum k l)[i]? = (l[i]?).map fun v=>V.tup [.int (k + i),v]
 | [],k,i=>by simp [enum]
 | v :: l,k,0=>by simp [enum]
 | v :: l,k,i + 1=>by
  simp only [enum,List.getElem?_cons_succ,enum_at (l:=l)]
  congr 1;funext w
  rw [show k + 1 + (i:Int) = k + ((i + 1:Nat):Int) by lia]
theorem enum_lth:∀ {l:List V} {k:Int},(enum k l).length = l.length
 | [],_=>rfl
 | v :: l,k=>by simp only [enum,List.length_cons,enum_lth (l:=l)]
theorem memb_iv (k:Nat) (l:List Nat):memb (iv k) (l.map iv) = some (l.contains k):=by
 unfold memb
 have h1:V.plain 4 (iv k) = true:=rfl
 have h2:V.plain 4 (.list (l.map iv)) = true:=by
  show (l.map iv).all (V.plain 3) = true
  rw [List.all_eq_true]
  intro x hx
  obtain ⟨y,_,rfl⟩:=List.mem_map.mp hx
  rfl
 simp only [h1,h2]
 simp only [Bool.and_self,if_true]
 congr 1
 rw [Bool.eq_iff_iff,List.any_eq_true,List.contains_iff_mem]
 constructor
 ·rintro ⟨x,hx,hq⟩
  obtain ⟨y,hy,rfl⟩:=List.mem_map.mp hx
  have:((y:Int) == (k:Int)) = true:=hq
  rw [beq_iff_eq] at this
  have:y = k:=by lia
  exact this ▸ hy
 ·intro h
  exact ⟨iv k,List.mem_map.mpr ⟨k,h,rfl⟩,by show ((k:Int) == (k:Int)) = true;exact beq_self_eq_true _⟩
noncomputable def ewh (k:Nat):Nat:=[32,9,10,13].getD (k % 4) 0
noncomputable def enc (nl:List Nat) (k c:Nat):T:=if nl.getD (k + 2) 0 / 6 % 2 = 1 then [92,c] ++ [ewh k] else [34] ++ unit c ++ [34]
noncomputable def fil (nl names:List Nat) (k:Nat):T:=((List.range k).map fun i=>enc nl i (names.getD i 0)).flatten
noncomputable def tailT:T:=[122,92,32,122,10]
theorem unit_len (c:Nat):(unit c).length ≤ 2:=by unfold unit;split <;> simp
theorem enc_len (nl:List Nat) (k c:Nat):(enc nl k c).length ≤ 4:=by
 unfold enc
 have:=unit_len c
 split <;> simp;assumption
theorem fil_succ (nl names:List Nat) (k:Nat):fil nl names (k + 1) = fil nl names k ++ enc nl k (names.getD k 0):=by
 unfold fil;simp only [List.range_succ,List.map_append,List.flatten_append];simp
theorem fil_len (nl names:List Nat):∀ k,(fil nl names k).length ≤ 4 * k
 | 0=>by simp [fil]
 | k + 1=>by
  have:=fil_len nl names k
  have:=enc_len nl k (names.getD k 0)
  simp only [fil_succ,List.length_append];lia
noncomputable def bFileL:S:=(.seq (.ite (.bin .mod (.bin .fdiv (.idx (.var 1) (.bin .add (.var 3) (.cst (.int 2)))) (.cst (.int 6))) (.cst (.int 2))) (.seq (.aug 2 .add (.bin .add (.bin .add (.cst (.str [92])) (.var 4)) (.idx (.cst (.str [32,9,10,13])) (.bin .mod (.var 3) (.cst (.int 4)))))) .skip) (.seq (.aug 2 .add (.bin .add (.bin .add (.cst (.str [34])) (.call (.user 6) (.cons (.var 4) .nil))) (.cst (.str [34])))) .skip)) .skip)
noncomputable abbrev fw (names nl:List Nat) (acc:T) (x3 x4:Option V):St:=⟨[some (.list (names.map sv)),some (.list (nl.map iv)),some (.str acc),x3,x4,none,none,none,none,none,none,none,none,none,none,none,none],[]⟩
theorem fil_step {C:Con} {N:Nat} {names nl:List Nat} {k c:Nat} {acc:T} (hU:∀ c,C 6 [.str [c]] = some (.str (unit c))) (hn:nl.length = 8) (hk:k < 6) (ha:acc.length ≤ 1000) :
  ex C N bFileL (fw names nl acc (some (iv k)) (some (sv c))) = some (.next,fw names nl (acc ++ enc nl k c) (some (iv k)) (some (sv c))):=by
 have hl:=enc_len nl k c
 have c0:evT C (.bin .mod (.bin .fdiv (.idx (.var 1) (.bin .add (.var 3) (.cst (.int 2)))) (.cst (.int 6))) (.cst (.int 2))) (fw names nl acc (some (iv k)) (some (sv c))) = some (decide (nl.getD (k + 2) 0 / 6 % 2 ≠ 0),fw names nl acc (some (iv k)) (some (sv c))) :=
  evT_ev (ev_bin (ev_bin (ev_idx_l (k:=((k + 2:Nat):Int)) (ev_var rfl) (ev_bin (ev_var rfl) ev_cst rfl) rfl (at_iv (by lia))) ev_cst (bop_fdiv _ 6 (by decide) (by decide))) ev_cst (bop_mod _ 2 (by decide))) (truth_iv _)
 have hw:at? ([32,9,10,13]:T) ((k % 4:Nat):Int) = some (ewh k):=by
  unfold ewh
  simp only [at_nat,List.getD_eq_getElem?_getD,List.getElem?_eq_getElem (show k % 4 < [32,9,10,13].length from Nat.mod_lt _ (by decide))];rfl
 have hout:∀ t:T,t = enc nl k c→aop .add (.str acc) (.str t) = some (.str (acc ++ enc nl k c)):=fun t e=>by
  subst e
  exact okS_of (by simp only [List.length_append];lia)
 unfold bFileL
 unfold enc at hout ⊢
 by_cases q:nl.getD (k + 2) 0 / 6 % 2 = 1
 ·rw [decide_eq_true (by lia)] at c0
  rw [if_pos q] at hout ⊢
  exact (ex_seq ((ex_if_t c0).trans ((ex_seq (ex_aug (u:=.str acc) (v:=.str ([92,c] ++ [ewh k])) rfl (ev_bin (ev_bin ev_cst (ev_var rfl) rfl) (ev_idx_s ev_cst (ev_bin (ev_var rfl) ev_cst (bop_mod k 4 (by decide))) hw) rfl) (hout _ rfl))).trans rfl))).trans rfl
 ·rw [decide_eq_false (by lia)] at c0
  rw [if_neg q] at hout ⊢
  have hu:=unit_len c
  exact (ex_seq ((ex_if_e c0).trans ((ex_seq (ex_aug (u:=.str acc) (v:=.str ([34] ++ unit c ++ [34])) rfl (ev_bin (ev_bin ev_cst (ev_call (C:=C) (f:=.user 6) (vs:=[sv c]) (st₁:=fw names nl acc (some (iv k)) (some (sv c))) (ev_one (ev_var rfl)) (hU c)) (bop_str _ _ (by simp;exact Nat.le_trans (by assumption) (by decide)))) ev_cst (bop_str _ _ (by simp;exact Nat.le_trans (by assumption) (by decide)))) (hout _ rfl))).trans rfl))).trans rfl
theorem file_ok {C:Con} {N:Nat} {names nl:List Nat} (hU:∀ c,C 6 [.str [c]] = some (.str (unit c))) (hn:nl.length = 8) (hs:names.length ≤ 6) :
  runC C N bFile 2 17 [.list (names.map sv),.list (nl.map iv)] = some (.str (fil nl names names.length ++ tailT)):=by
 refine Classical.byContradiction fun hcon=>?_
 obtain ⟨s',h1,x3,x4,rfl⟩:=loop_inv (f:=loopF C N (.two 3 4) bFileL) (I:=fun k s=>∃ x3 x4,s = fw names nl (fil nl names k) x3 x4) (l:=enum 0 (names.map sv)) (k:=0) (fun i v s hv hI=>by
  obtain ⟨x3,x4,rfl⟩:=hI
  rw [enum_at,List.getElem?_map,Option.map_map] at hv
  obtain ⟨c,hc,rfl⟩:=Option.map_eq_some_iff.mp hv
  have hi:i < names.length:=(List.getElem?_eq_some_iff.mp hc).1
  have hl:=fil_len nl names i
  have hg:names.getD i 0 = c:=by simp only [List.getD_eq_getElem?_getD,hc];rfl
  refine ⟨_,(?_:_ = some (Fl.next,fw names nl (fil nl names i ++ enc nl i c) (some (iv i)) (some (sv c)))),some (iv i),some (sv c),by simp only [Nat.zero_add,fil_succ,hg]⟩
  rw [Nat.zero_add]
  have:=fil_step (C:=C) (N:=N) (names:=names) (k:=i) (c:=c) (acc:=fil nl names i) hU hn (by exact Nat.lt_of_lt_of_le (by assumption) (by assumption)) (by lia)
  refine Eq.trans ?_ this
  rw [Int.zero_add]
  rfl) (fw names nl [] none none) ⟨_,_,rfl⟩
 refine hcon ?_
 rw [Nat.zero_add,enum_lth,List.length_map] at h1
 have hl:=fil_len nl names names.length
 refine runC_of (st':=fw names nl (fil nl names names.length) x3 x4) rfl ?_ rfl ?_
 ·simp only [V.nomus,V.nomu,Bool.and_true,Bool.and_eq_true];exact ⟨nomus_map fun _ _=>rfl,nomus_map fun _ _=>rfl⟩
 ·show ex C N bFile ⟨[some (.list (names.map sv)),some (.list (nl.map iv)),none,none,none,none,none,none,none,none,none,none,none,none,none,none,none],[]⟩ = _
  unfold bFile
  refine (ex_seq (ex_asg (v:=.str []) rfl)).trans ?_
  have he:ev C (.enm (.var 0)) (fw names nl [] none none) = some (.list (enum 0 (names.map sv)),fw names nl [] none none):=rfl
  refine (ex_seq ((ex_for (t:=.two 3 4) (b:=bFileL) he rfl).trans h1)).trans ?_
  exact ex_seq_ret (ex_ret (ev_bin (ev_var rfl) ev_cst (bop_str _ tailT (by simp only [List.length_append];simp [tailT];lia))))
theorem aop_str (a b:T) (h:(a ++ b).length ≤ 16777216):aop .add (.str a) (.str b) = some (.str (a ++ b)):=okS_of h
noncomputable def hidGo (inn:Nat→Bool):Nat→List T→Bool→T
 | _,[],b=>if b then [34] else []
 | k,u :: r,b=>(if inn k = b then [] else [34]) ++ u ++ hidGo inn (k + 1) r (inn k)
noncomputable def hid (inn:Nat→Bool) (units:List T):T:=hidGo inn 0 units false
theorem hid_len {inn:Nat→Bool}:∀ {k:Nat} {l:List T} {b:Bool},(∀ u ∈ l,u.length ≤ 2)→(hidGo inn k l b).length ≤ 3 * l.length + 1
 | k,[],b,_=>by unfold hidGo;split <;> simp
 | k,u :: r,b,h=>by
  have h1:=hid_len (inn:=inn) (k:=k + 1) (l:=r) (b:=inn k) fun w hw=>h w (.tail _ hw)
  have h2:=h u (.head _)
  unfold hidGo
  dsimp only [List.length_append,List.length_cons]
  split <;> simp <;> lia
noncomputable def bHidL:S:=(.seq (.ite (.cmp .ne (.cmp .isin (.var 4) (.var 1)) (.var 3)) (.seq (.tasg [2,3] (.tupl (.cons (.bin .add (.var 2) (.cst (.str [34]))) (.cons (.not (.var 3)) .nil)))) .skip) .skip) (.seq (.aug 2 .add (.var 5)) .skip))
noncomputable abbrev hw (units:List T) (front:List Nat) (acc:T) (b:Bool) (x4 x5:Option V):St:=⟨[some (.list (units.map .str)),some (.list (front.map iv)),some (.str acc),some (.bool b),x4,x5,none,none,none,none,none,none,none,none,none,none,none,none],[]⟩
theorem hid_step {C:Con} {N:Nat} {units:List T} {front:List Nat} {k:Nat} {u acc:T} {b:Bool} (ha:acc.length + 1 + u.length ≤ 16777216) :
  ex C N bHidL (hw units front acc b (some (iv k)) (some (.str u))) = some (.next,hw units front (acc ++ ((if front.contains k = b then [] else [34]) ++ u)) (front.contains k) (some (iv k)) (some (.str u))):=by
 have c0:evT C (.cmp .ne (.cmp .isin (.var 4) (.var 1)) (.var 3)) (hw units front acc b (some (iv k)) (some (.str u))) = some (!(front.contains k == b),hw units front acc b (some (iv k)) (some (.str u))) :=
  evT_cmp (ev_cmp (ev_var rfl) (ev_var rfl) (memb_iv k front)) (ev_var rfl) rfl
 unfold bHidL
 by_cases q:front.contains k = b
 ·rw [if_pos q]
  rw [q,beq_self_eq_true] at c0
  refine (ex_seq (ex_if_f c0)).trans ((ex_seq (ex_aug (u:=.str acc) (v:=.str u) rfl (ev_var rfl) (aop_str acc u (by simp only [List.length_append];lia)))).trans ?_)
  rw [q]
  rfl
 ·rw [if_neg q]
  have q':front.contains k = !b:=by cases h:front.contains k <;> cases b <;> simp_all
  rw [q',show ((!b) == b) = false by cases b <;> rfl] at c0
  refine (ex_seq ((ex_if_t c0).trans ((ex_seq (ex_tasg (vs:=[.str (acc ++ [34]),.bool !b]) (ev_tupl (ev_cons (ev_bin (ev_var rfl) ev_cst (bop_str acc [34] (by simp;lia))) (ev_one (ev_not (evT_ev (ev_var rfl) rfl))))) rfl)).trans rfl))).trans ?_
  refine (ex_seq (ex_aug (u:=.str (acc ++ [34])) (v:=.str u) rfl (ev_var rfl) (aop_str (acc ++ [34]) u (by simp;lia)))).trans ?_
  rw [q',List.append_assoc]
  rfl
theorem hid_ok {C:Con} {N:Nat} {units:List T} {front:List Nat} (hu:∀ u ∈ units,u.length ≤ 2) (hs:units.length ≤ 6) :
  runC C N bHid 2 18 [.list (units.map .str),.list (front.map iv)] = some (.str (hid (fun k=>front.contains k) units)):=by
 have hlen:=hid_len (inn:=fun k=>front.contains k) (k:=0) (b:=false) hu
 refine Classical.byContradiction fun hcon=>?_
 obtain ⟨s',h1,acc,b,x4,x5,rfl,h2⟩:=loop_inv (f:=loopF C N (.two 4 5) bHidL) (I:=fun k s=>∃ acc b x4 x5,s = hw units front acc b x4 x5 ∧ acc ++ hidGo (fun k=>front.contains k) k (units.drop k) b = hid (fun k=>front.contains k) units) (l:=enum 0 (units.map .str)) (k:=0) (fun i v s hv hI=>by
  obtain ⟨acc,b,x4,x5,rfl,hacc⟩:=hI
  rw [Nat.zero_add] at hacc ⊢
  rw [enum_at,List.getElem?_map,Option.map_map] at hv
  obtain ⟨u,hc,rfl⟩:=Option.map_eq_some_iff.mp hv
  have hi:i < units.length:=(List.getElem?_eq_some_iff.mp hc).1
  have hd:units.drop i = u :: units.drop (i + 1):=by
   rw [List.drop_eq_getElem_cons hi]
   rw [List.getElem?_eq_getElem hi] at hc
   obtain rfl:=Option.some.inj hc;rfl
  rw [hd] at hacc
  have hl:acc.length + 1 + u.length ≤ 16777216:=by
   have:=congrArg List.length hacc
   have h2:=hu u (List.mem_of_getElem? hc)
   unfold hid at this
   rw [List.length_append] at this
   lia
  refine ⟨_,(?_:_ = some (Fl.next,hw units front (acc ++ ((if front.contains i = b then [] else [34]) ++ u)) (front.contains i) (some (iv i)) (some (.str u)))),_,_,_,_,rfl,?_⟩
  ·have:=hid_step (C:=C) (N:=N) (units:=units) (front:=front) (k:=i) (u:=u) (acc:=acc) (b:=b) hl
   refine Eq.trans ?_ this
   rw [Int.zero_add]
   rfl
  ·rw [← hacc]
   conv=>rhs;unfold hidGo
   simp only [List.append_assoc]) (hw units front [] false none none) ⟨_,_,_,_,rfl,rfl⟩
 refine hcon ?_
 rw [Nat.zero_add,enum_lth,List.length_map,List.drop_length] at h2
 refine runC_of (st':=hw units front acc b x4 x5) rfl ?_ rfl ?_
 ·simp only [V.nomus,V.nomu,Bool.and_true,Bool.and_eq_true];exact ⟨nomus_map fun _ _=>rfl,nomus_map fun _ _=>rfl⟩
 ·show ex C N bHid ⟨[some (.list (units.map .str)),some (.list (front.map iv)),none,none,none,none,none,none,none,none,none,none,none,none,none,none,none,none],[]⟩ = _
  delta bHid
  refine (ex_seq (ex_tasg (vs:=[.str [],.bool false]) rfl rfl)).trans ?_
  have he:ev C (.enm (.var 0)) (hw units front [] false none none) = some (.list (enum 0 (units.map .str)),hw units front [] false none none):=rfl
  refine (ex_seq ((ex_for (t:=.two 4 5) (b:=bHidL) he rfl).trans h1)).trans ?_
  refine ex_seq_ret (ex_ret ?_)
  rw [← h2]
  cases b with
  | false =>
   refine (ev_ite_e (evT_ev (ev_var rfl) rfl)).trans ((ev_var (v:=.str acc) rfl).trans ?_)
   simp [hidGo]
  | true =>
   refine (ev_ite_t (evT_ev (ev_var rfl) rfl)).trans (ev_bin (u:=.str acc) (v:=.str [34]) (ev_var rfl) ev_cst (bop_str acc [34] ?_))
   have h3:acc ++ [34] = hidGo (fun k=>front.contains k) 0 units false:=by
    refine Eq.trans ?_ h2
    delta hidGo
    rfl
   rw [h3]
   lia
noncomputable def bS0:S:=(.asg 1 (.call (.user 4) (.cons (.var 0) .nil)))
noncomputable def bS1:S:=(.asg 2 (.bin .add (.cst (.int 5)) (.cmp .gt (.call .len (.cons (.var 0) .nil)) (.cst (.int 4)))))
noncomputable def bS2:S:=(.asg 3 (.call (.user 5) (.cons (.var 1) (.cons (.var 2) .nil))))
noncomputable def bS3:S:=(.asg 4 (.call (.user 7) (.cons (.var 3) (.cons (.var 1) .nil))))
noncomputable def bS4:S:=(.tasg [5,6] (.tupl (.cons (.newlex (.var 4)) (.cons (.newlex (.cst (.str [9,122]))) .nil))))
noncomputable def bS5:S:=(.tasg [7,8] (.tupl (.cons (.bin .mod (.idx (.var 1) (.cst (.int 0))) (.bin .add (.var 2) (.cst (.int 1)))) (.cons (.bin .fdiv (.idx (.var 1) (.cst (.int 0))) (.bin .add (.var 2) (.cst (.int 1)))) .nil))))
noncomputable def bS6:S:=(.asg 9 (.bin .sub (.var 7) (.cst (.int 1))))
noncomputable def bS7:S:=(.for_ (.one 10) (.rev (.comp [35,36] (.gen (.call .range (.cons (.var 7) .nil)) (.one 36) (.cst (.bool true)) (.emit (.tok 5))))) (.seq (.push 6 (.var 10)) .skip))
noncomputable def bS8:S:=(.asg 11 (.fresh (.lst .nil)))
noncomputable def bS9:S:=(.whl (.or (.cmp .ge (.var 9) (.cst (.int 0))) (.cmp .lt (.var 7) (.var 2))) (.seq (.ite (.or (.cmp .eq (.var 7) (.var 2)) (.and (.cmp .ge (.var 9) (.cst (.int 0))) (.cmp .eq (.bin .mod (.var 8) (.cst (.int 2))) (.cst (.int 1))))) (.seq (.tasg [12,13] (.tupl (.cons (.var 9) (.cons (.tok 6) .nil)))) (.seq (.aug 9 .sub (.cst (.int 1))) .skip)) (.seq (.tasg [12,13] (.tupl (.cons (.var 7) (.cons (.tok 5) .nil)))) (.seq (.aug 7 .add (.cst (.int 1))) .skip))) (.seq (.ite (.cmp .ne (.var 13) (.idx (.var 3) (.var 12))) (.seq (.ret (.cst (.bool false))) .skip) .skip) (.seq (.app 11 (.var 12)) (.seq (.aug 8 .fdiv (.cst (.int 2))) .skip)))))
noncomputable def bS10:S:=(.asg 14 (.lst (.cons (.tok 5) (.cons (.tok 5) (.cons (.tok 6) (.cons (.tok 6) .nil))))))
noncomputable def bS11:S:=(.ite (.or (.cmp .ne (.var 14) (.lst (.cons (.cst (.str [122,32,122])) (.cons (.cst (.str [])) (.cons (.cst (.str [122])) (.cons (.cst (.str [])) .nil)))))) (.cmp .ne (.line 5) (.bin .add (.cst (.int 1)) (.meth .count (.var 4) (.cons (.cst (.str [10])) .nil))))) (.seq (.ret (.cst (.bool false))) .skip) .skip)
noncomputable def bS12:S:=(.asg 15 (.idx (.var 1) (.cst (.int 1))))
noncomputable def bS13:S:=(.for_ (.one 16) (.call .range (.cons (.cst (.int 2)) .nil)) (.seq (.tasg [17,18] (.tupl (.cons (.bin .mod (.var 15) (.var 2)) (.cons (.bin .mod (.bin .fdiv (.var 15) (.var 2)) (.var 2)) .nil)))) (.seq (.asg 11 (.comp [35,36] (.gen (.call .range (.cons (.var 2) .nil)) (.one 36) (.cst (.bool true)) (.emit (.ite (.cmp .isin (.var 36) (.tupl (.cons (.var 17) (.cons (.var 18) .nil)))) (.idx (.var 11) (.bin .sub (.bin .add (.var 17) (.var 18)) (.var 36))) (.idx (.var 11) (.var 36))))))) (.seq (.aug 15 .fdiv (.bin .mul (.var 2) (.var 2))) .skip))))
noncomputable def bS14:S:=(.asg 19 (.comp [35,36] (.gen (.var 3) (.one 36) (.cst (.bool true)) (.emit (.call (.user 6) (.cons (.var 36) .nil))))))
noncomputable def bS15:S:=(.asg 20 (.meth .join (.cst (.str [])) (.cons (.var 19) .nil)))
noncomputable def bS16:S:=(.asg 21 (.meth .join (.cst (.str [])) (.cons (.comp [35,36] (.gen (.var 11) (.one 36) (.cst (.bool true)) (.emit (.idx (.var 3) (.var 36))))) .nil)))
noncomputable def bS17:S:=(.ite (.cmp .ne (.comp [35,36] (.gen (.tupl (.cons (.cst (.int 9)) (.cons (.cst (.int 3)) .nil))) (.one 36) (.cst (.bool true)) (.emit (.call (.user 1) (.cons (.bin .add (.var 20) (.cst (.str [97,97,66]))) (.cons (.bin .add (.var 20) (.cst (.str [122,122,98]))) (.cons (.var 36) .nil))))))) (.lst (.cons (.cst (.int 5)) (.cons (.cst (.int 4)) .nil)))) (.seq (.ret (.cst (.bool false))) .skip) .skip)
noncomputable def bS18:S:=(.asg 22 (.var 20))
noncomputable def bS19:S:=(.for_ (.one 23) (.call .range (.cons (.cst (.int 1)) (.cons (.var 2) .nil))) (.seq (.asg 24 (.slc (.var 11) (.cst .none) (.var 23))) (.seq (.asg 25 (.call (.user 8) (.cons (.var 19) (.cons (.var 24) .nil)))) (.seq (.asg 26 (.call (.user 1) (.cons (.var 20) (.cons (.var 25) (.cons (.cst (.int 4)) .nil))))) (.seq (.ite (.cmp .ne (.var 26) (.call .min (.cons (.bin .mul (.cst (.int 4)) (.call .len (.cons (.comp [35,36] (.gen (.var 24) (.one 36) (.cmp .notin (.bin .sub (.var 36) (.cst (.int 1))) (.var 24)) (.emit (.var 36)))) .nil))) (.cons (.cst (.int 5)) .nil)))) (.seq (.ret (.cst (.bool false))) .skip) .skip) (.seq (.ite (.cmp .ne (.call (.user 1) (.cons (.var 22) (.cons (.var 25) (.cons (.cst (.int 9)) .nil)))) (.cst (.int 4))) (.seq (.ret (.cst (.bool false))) .skip) .skip) (.seq (.ite (.cmp .ne (.call (.user 3) (.cons (.var 25) .nil)) (.meth .join (.cst (.str [])) (.cons (.comp [35,36] (.gen (.call .range (.cons (.var 2) .nil)) (.one 36) (.cmp .notin (.var 36) (.var 24)) (.emit (.idx (.var 19) (.var 36))))) .nil))) (.seq (.ret (.cst (.bool false))) .skip) .skip) (.seq (.tasg [27,28] (.tupl (.cons (.slc (.var 21) (.cst .none) (.var 23)) (.cons (.slc (.var 21) (.var 23) (.cst .none)) .nil)))) (.seq (.asg 29 (.lst (.cons (.bin .add (.bin .add (.var 27) (.cst (.str [46,46,46]))) (.var 28)) (.cons (.bin .add (.bin .add (.var 27) (.cst (.str [46,46,46]))) (.slc (.var 21) (.bin .sub (.var 23) (.cst (.int 1))) (.cst .none))) (.cons (.bin .add (.cst (.str [46,46,46])) (.var 27)) (.cons (.bin .add (.var 28) (.cst (.str [46,46,46]))) .nil)))))) (.seq (.ite (.cmp .ne (.comp [35,36] (.gen (.var 29) (.one 36) (.cst (.bool true)) (.emit (.call (.user 2) (.cons (.var 36) (.cons (.var 21) .nil)))))) (.lst (.cons (.cst (.bool true)) (.cons (.cst (.bool false)) (.cons (.cst (.bool false)) (.cons (.cst (.bool false)) .nil)))))) (.seq (.ret (.cst (.bool false))) .skip) .skip) (.seq (.asg 22 (.var 25)) .skip)))))))))))
noncomputable def bS20:S:=(.asg 30 (.call .all (.cons (.comp [35,36,37] (.gen (.call .range (.cons (.cst (.int 2)) (.cons (.var 2) .nil))) (.one 36) (.cst (.bool true)) (.gen (.call .range (.cons (.cst (.int 0)) (.cons (.bin .add (.bin .sub (.var 2) (.var 36)) (.cst (.int 1))) (.cons (.var 36) .nil)))) (.one 37) (.cst (.bool true)) (.emit (.cmp .eq (.call .lenset (.cons (.comp [38,39] (.gen (.slc (.var 11) (.var 37) (.bin .add (.var 37) (.var 36))) (.one 39) (.cst (.bool true)) (.emit (.bin .mod (.var 39) (.var 36))))) .nil)) (.var 36)))))) .nil)))
noncomputable def bS21:S:=(.asg 31 (.fresh (.lst .nil)))
noncomputable def bS22:S:=(.for_ (.one 32) (.call .range (.cons (.bin .add (.var 2) (.cst (.int 1))) .nil)) (.seq (.asg 33 (.call (.user 2) (.cons (.call (.user 9) (.cons (.rev (.slc (.var 3) (.cst .none) (.var 32))) .nil)) (.cons (.var 21) .nil)))) (.seq (.asg 34 (.call (.user 2) (.cons (.call (.user 9) (.cons (.slc (.var 3) (.var 32) (.cst .none)) .nil)) (.cons (.var 21) .nil)))) (.seq (.ite (.and (.var 33) (.var 34)) (.seq (.app 31 (.var 32)) .skip) .skip) .skip))))
noncomputable def bS23:S:=(.ret (.cmp .eq (.var 31) (.ite (.var 30) (.lst (.cons (.idx (.var 11) (.cst (.int 0))) (.cons (.bin .add (.idx (.var 11) (.cst (.int 0))) (.cst (.int 1))) .nil))) (.lst .nil))))
noncomputable def bT23:S:=.seq bS23 .skip
noncomputable def bT22:S:=.seq bS22 bT23
noncomputable def bT21:S:=.seq bS21 bT22
noncomputable def bT20:S:=.seq bS20 bT21
noncomputable def bT19:S:=.seq bS19 bT20
noncomputable def bT18:S:=.seq bS18 bT19
noncomputable def bT17:S:=.seq bS17 bT18
noncomputable def bT16:S:=.seq bS16 bT17
noncomputable def bT15:S:=.seq bS15 bT16
noncomputable def bT14:S:=.seq bS14 bT15
noncomputable def bT13:S:=.seq bS13 bT14
noncomputable def bT12:S:=.seq bS12 bT13
noncomputable def bT11:S:=.seq bS11 bT12
noncomputable def bT10:S:=.seq bS10 bT11
noncomputable def bT9:S:=.seq bS9 bT10
noncomputable def bT8:S:=.seq bS8 bT9
noncomputable def bT7:S:=.seq bS7 bT8
noncomputable def bT6:S:=.seq bS6 bT7
noncomputable def bT5:S:=.seq bS5 bT6
noncomputable def bT4:S:=.seq bS4 bT5
noncomputable def bT3:S:=.seq bS3 bT4
noncomputable def bT2:S:=.seq bS2 bT3
noncomputable def bT1:S:=.seq bS1 bT2
noncomputable def bT0:S:=.seq bS0 bT1
noncomputable def bLaw:S:=bT0
theorem bT_law:bLaw = bT0:=rfl
theorem lowerT_eq (c:Nat):lowerT [c] = Unicode.lowerOf c:=by
 have h1:Unicode.endsWord #[c] 0 = false:=rfl
 have h2:Unicode.lowerAt #[c] 0 = Unicode.lowerOf c:=by
  show (if (c == 0x3A3 && Unicode.endsWord #[c] 0) = true then [0x3C2] else Unicode.lowerOf c) = _
  simp only [h1,Bool.and_false,if_neg Bool.false_ne_true]
 have h3:lowerT [c] = Unicode.lowerAt #[c] 0 ++ []:=by
  delta lowerT Txt.lower
  show (placed ⟨#[c]⟩ _).toList = _
  simp [placed]
  rfl
 simp only [h3,h2,List.append_nil]
theorem lookup_len:∀ {l:List (Nat × T)} {c:Nat} {x:T},(∀ p ∈ l,p.2.length ≤ 2)→l.lookup c = some x→x.length ≤ 2
 | [],_,_,_,h=>by cases h
 | (a,y) :: l,c,x,hl,h=>by
  rw [List.lookup_cons] at h
  split at h
  ·obtain rfl:=Option.some.inj h;exact hl _ (.head _)
  ·exact lookup_len (fun p hp=>hl p (.tail _ hp)) h
set_option tactic.hygienic true in
theorem lowerT_len (c:Nat):(lowerT [c]).length ≤ 2:=by
 rw [lowerT_eq]
 delta Unicode.lowerOf Unicode.image
 split
 ·rename_i x h
  exact lookup_len (by decide) h
 ·simp
theorem shifted_none {lo hi:Nat}:∀ {l:List (Nat × Nat × Nat)} {c:Nat},(l.all fun r=>decide (r.2.1 < lo) || decide (hi ≤ r.1)) = true→lo ≤ c→c < hi→Unicode.shifted l c = none
 | [],_,_,_,_=>rfl
 | (a,b,t) :: l,c,h,h1,h2=>by
  rw [List.all_cons,Bool.and_eq_true,Bool.or_eq_true,decide_eq_true_iff,decide_eq_true_iff] at h
  obtain ⟨h3,h4⟩:=h
  dsimp only at h3
  unfold Unicode.shifted
  split
  ·rfl
  ·rw [if_neg (by lia)]
   exact shifted_none h4 h1 h2
theorem lower_big {c:Nat} (h1:23000 ≤ c) (h2:c < 39000):lowerT [c] = [c]:=by
 simp only [lowerT_eq]
 delta Unicode.lowerOf Unicode.image
 have e1:UnicodeData.severalLower.lookup c = none:=by
  show List.lookup c [(0x130,[0x69,0x307])] = none
  simp only [List.lookup_cons]
  rw [show (c == 0x130) = false by simpa using (by lia:c ≠ 0x130)]
  rfl
 rw [e1,shifted_none (lo:=23000) (hi:=39000) (by decide +kernel) h1 h2]
 rfl
theorem lower_small:∀ c ∈ [34,32,8195,92,10,160,9,13,35],lowerT [c] = [c]:=by
 intro c hc
 rw [lowerT_eq]
 revert c
 decide +kernel
theorem isWs_ewh (k:Nat):isWs (ewh k) = true:=by
 have h:∀ j < 4,isWs ([32,9,10,13].getD j 0) = true:=by decide
 exact h _ (Nat.mod_lt _ (by decide))
theorem nl_if (c:Nat):(if ([c]:T) = [10] then (1:Int) else 0) = (([c]:T).count 10:Nat):=by
 by_cases h:c = 10
 ·subst h;rfl
 ·rw [if_neg (by simpa using h),List.count_singleton,if_neg (by simpa using h)];rfl
theorem nl_nl (c:Nat):nl c = (([c]:T).count 10:Nat):=by
 unfold nl
 by_cases h:c = 10
 ·subst h;rfl
 ·rw [if_neg (by simpa using h),List.count_singleton,if_neg (by simpa using h)];rfl
set_option tactic.hygienic true in
theorem lex_enc (nls:List Nat) (k c:Nat) (rest:T) (n:Int):lex0 (enc nls k c ++ rest) n = ([c],rest,n + ((enc nls k c).count 10:Nat)):=by
 unfold enc
 split
 ·show lex0 (92 :: c :: ewh k :: rest) n = _
  rw [lex0_esc]
  show lexB (ewh k :: rest) (n + if [c] = [10] then 1 else 0) [c] = _
  rw [lexB_end (isWs_ewh k),nl_if,nl_nl]
  congr 2
  rw [List.count_append,Int.natCast_add,show (List.count 10 [92,c]) = List.count 10 [c] by rw [List.count_cons];simp]
  try lia
 ·show lex0 (34 :: (unit c ++ [34] ++ rest)) n = _
  rw [lex0_q]
  unfold unit
  split
  ·rename_i h
   show lexQ (92 :: c :: 34 :: rest) n [] = _
   rw [lexQ_esc]
   show lexQ (34 :: rest) (n + if [c] = [10] then 1 else 0) ([] ++ [c]) = _
   rw [lexQ_end,nl_if]
   try (congr 2;done)
   try simp [List.count_cons]
  ·rename_i h
   show lexQ (c :: 34 :: rest) n [] = _
   rw [lexQ_cons (by lia) (by lia),lexQ_end,nl_nl]
   try (congr 2;done)
   try simp [List.count_cons]
theorem lex_tail (n:Int):lex0 tailT n = ([122,32,122],[],n + 1):=by
 unfold tailT
 rw [lex0_cons (by rfl) (by decide) (by decide),lexB_esc]
 show lexB [122,10] (n + 0) [122,32] = _
 rw [lexB_cons (by rfl) (by decide),lexB_end (by rfl)]
 show ([122,32,122],([]:T),n + 0 + 1) = _
 rw [Int.add_zero]
structure Con1 (C:Con):Prop where
 num:∀ ns:List Int,C 4 [.list (ns.map V.int)] = some (.list ((nums ns).map iv))
 nam:∀ (nl:List Nat) (sz:Nat),nl.length = 8→sz ≤ 6→C 5 [.list (nl.map iv),iv sz] = some (.list ((nms nl sz).map sv))
 unit:∀ c:Nat,C 6 [.str [c]] = some (.str (unit c))
 file:∀ nl names:List Nat,nl.length = 8→names.length ≤ 6→C 7 [.list (names.map sv),.list (nl.map iv)] = some (.str (fil nl names names.length ++ tailT))
 hid:∀ (units:List T) (front:List Nat),(∀ u ∈ units,u.length ≤ 2)→units.length ≤ 6→C 8 [.list (units.map .str),.list (front.map iv)] = some (.str (hid (fun k=>front.contains k) units))
 dots:∀ names:List T,names.length ≤ 100→(∀ w ∈ names,w.length ≤ 100)→C 9 [.list (names.map .str)] = some (.str (dotted names))
 lev:∀ (a b:T) (m:Int),a.length ≤ 100→b.length ≤ 100→C 1 [.str a,.str b,.int m] = some (.int (lev m a b))
 ell:∀ want got:T,want.length ≤ 50000→got.length ≤ 50000→C 2 [.str want,.str got] = some (.bool (ell want got))
 strip:∀ a:T,a.length ≤ 900→C 3 [.str a] = some (.str (strip a))
noncomputable abbrev wD (x0:Option V) (nl:List Nat) (sz:Nat) (nm:List Nat) (tx:T) (x7 x8 x9 x10 x11 x12 x13 x14 x36:Option V) (mu:List Mo):St :=
 ⟨[x0,some (.list (nl.map iv)),some (iv sz),some (.list (nm.map sv)),some (.str tx),some (.mref 0),some (.mref 1),x7,x8,x9,x10,x11,x12,x13,x14,none,none,none,none,none,
  none,none,none,none,none,none,none,none,none,none,none,none,none,none,none,none,x36,none,none,none,none,none,none,none,none,none,none],mu⟩
noncomputable def szOf (ns:List Int):Nat:=if 4 < ns.length then 6 else 5
theorem szOf_le (ns:List Int):szOf ns ≤ 6:=by unfold szOf;split <;> lia
theorem nums_len (ns:List Int):(nums ns).length = 8:=by simp [nums]
theorem nms_len (nl:List Nat) (sz:Nat):(nms nl sz).length = sz:=by simp [nms]
section
variable {C:Con} {N:Nat}
theorem law_A (H:Con1 C) (ns:List Int) (hlen:ns.length ≤ 63) {nl:List Nat} {sz:Nat} {nm:List Nat} {tx:T} (h1:nl = nums ns) (h2:sz = szOf ns) (h3:nm = nms nl sz) (h4:tx = fil nl nm sz ++ tailT) :
  ex C N bT0 ⟨some (.list (ns.map V.int)) :: List.replicate 46 none,[]⟩ =
   ex C N bT7 (wD (some (.list (ns.map V.int))) nl sz nm tx (some (iv (nl.getD 0 0 % (sz + 1)))) (some (iv (nl.getD 0 0 / (sz + 1)))) (some (.int ((nl.getD 0 0 % (sz + 1):Nat) - 1))) none none none none none none [.lex tx 1 [],.lex [9,122] 1 []]):=by
 have hn:nl.length = 8:=by rw [h1,nums_len]
 have hs:sz ≤ 6:=by rw [h2];exact szOf_le ns
 have hm:nm.length = sz:=by rw [h3,nms_len]
 unfold bT0
 refine (ex_seq (ex_asg (v:=.list (nl.map iv)) (ev_call (f:=.user 4) (vs:=[.list (ns.map V.int)]) (ev_one (ev_var rfl)) (by rw [h1];exact H.num ns)))).trans ?_
 unfold bT1
 have hcmp:ev C (.cmp .gt (.call .len (.cons (.var 0) .nil)) (.cst (.int 4))) (St.set ⟨some (.list (ns.map V.int)) :: List.replicate 46 none,[]⟩ 1 (.list (nl.map iv))) = some (.bool (decide ((4:Int) < (ns.length:Int))),St.set ⟨some (.list (ns.map V.int)) :: List.replicate 46 none,[]⟩ 1 (.list (nl.map iv))) :=
  ev_cmp (ev_call (w:=.int ns.length) (ev_one (ev_var rfl)) (by show some (V.int ((ns.map V.int).length:Int)) = _;rw [List.length_map])) ev_cst rfl
 refine (ex_seq (ex_asg (v:=iv sz) (ev_bin ev_cst hcmp ?_))).trans ?_
 ·show some (V.int (5 + if decide ((4:Int) < (ns.length:Int)) = true then 1 else 0)) = _
  rw [h2];unfold szOf
  by_cases q:4 < ns.length
  ·rw [if_pos q,if_pos (decide_eq_true (by exact Int.ofNat_lt.mpr (by assumption)))];rfl
  ·rw [if_neg q,if_neg (by rw [decide_eq_true_iff];lia)];rfl
 unfold bT2
 refine (ex_seq (ex_asg (v:=.list (nm.map sv)) (ev_call (f:=.user 5) (vs:=[.list (nl.map iv),iv sz]) (ev_cons (ev_var rfl) (ev_one (ev_var rfl))) (by rw [h3];exact H.nam nl sz hn hs)))).trans ?_
 unfold bT3
 refine (ex_seq (ex_asg (v:=.str tx) (ev_call (f:=.user 7) (vs:=[.list (nm.map sv),.list (nl.map iv)]) (ev_cons (ev_var rfl) (ev_one (ev_var rfl))) (by rw [h4,← hm];exact H.file nl nm hn (by exact Nat.le_trans (Nat.le_of_eq (by assumption)) (by assumption)))))).trans ?_
 unfold bT4
 refine (ex_seq (st₁:=wD (some (.list (ns.map V.int))) nl sz nm tx none none none none none none none none none [.lex tx 1 [],.lex [9,122] 1 []]) rfl).trans ?_
 unfold bT5
 have h0:at? (nl.map iv) (0:Int) = some (iv (nl.getD 0 0)):=at_iv (i:=0) (by lia)
 refine (ex_seq (ex_tasg (vs:=[iv (nl.getD 0 0 % (sz + 1)),iv (nl.getD 0 0 / (sz + 1))]) (ev_tupl (ev_cons (ev_bin (ev_idx_l (ev_var rfl) ev_cst rfl h0) (ev_bin (ev_var rfl) ev_cst (bop_add sz 1)) (bop_mod _ (sz + 1) (by exact Nat.succ_pos _)))
  (ev_one (ev_bin (ev_idx_l (ev_var rfl) ev_cst rfl h0) (ev_bin (ev_var rfl) ev_cst (bop_add sz 1)) (bop_fdiv _ (sz + 1) (by exact Nat.succ_pos _) (by lia)))))) rfl)).trans ?_
 unfold bT6
 exact ex_seq (ex_asg (ev_bin (ev_var rfl) ev_cst rfl))
noncomputable def lft (nl nm:List Nat) (k:Nat):T:=((List.range' k (nm.length - k)).map fun i=>enc nl i (nm.getD i 0)).flatten ++ tailT
noncomputable def lin (nl nm:List Nat) (k:Nat):Int:=1 + ((fil nl nm k).count 10:Nat)
theorem lft_step {nl nm:List Nat} {k:Nat} (hk:k < nm.length):lft nl nm k = enc nl k (nm.getD k 0) ++ lft nl nm (k + 1):=by
 unfold lft
 simp only [sub_s1 hk,List.range'_succ,List.map_cons,List.flatten_cons,List.append_assoc]
theorem lft_end {nl nm:List Nat}:lft nl nm nm.length = tailT:=by unfold lft;rw [Nat.sub_self];rfl
theorem lft_zero {nl nm:List Nat}:lft nl nm 0 = fil nl nm nm.length ++ tailT:=by delta lft fil;rw [List.range_eq_range'];rfl
theorem lin_step {nl nm:List Nat} {k:Nat}:lin nl nm (k + 1) = lin nl nm k + ((enc nl k (nm.getD k 0)).count 10:Nat):=by
 unfold lin;simp only [fil_succ,List.count_append];lia
theorem lft_len {nl nm:List Nat} (k:Nat) (h:nm.length ≤ 6):(lft nl nm k).length ≤ 10000:=by
 have:∀ l:List Nat,((l.map fun i=>enc nl i (nm.getD i 0)).flatten).length ≤ 4 * l.length:=by
  intro l
  induction l with
  | nil=>simp
  | cons a l ih =>
   have:=enc_len nl a (nm.getD a 0)
   simp only [List.map_cons,List.flatten_cons,List.length_append,List.length_cons];lia
 have h2:=this (List.range' k (nm.length - k))
 unfold lft
 simp only [List.length_append]
 rw [List.length_range'] at h2
 have:tailT.length = 5:=rfl
 lia
theorem tok_deck {nl nm:List Nat} {vars:List (Option V)} {r:List Mo} {k:Nat} (hs:nm.length ≤ 6) (hk:k < nm.length) :
  St.tok ⟨vars,.lex (lft nl nm k) (lin nl nm k) [] :: r⟩ 0 = some (sv (nm.getD k 0),⟨vars,.lex (lft nl nm (k + 1)) (lin nl nm (k + 1)) [] :: r⟩):=by
 show (if (lft nl nm k).length ≤ 10000 then some (V.str (lex0 (lft nl nm k) (lin nl nm k)).1,St.mk vars (Mo.lex (lex0 (lft nl nm k) (lin nl nm k)).2.1 (lex0 (lft nl nm k) (lin nl nm k)).2.2 [] :: r)) else none) = _
 rw [if_pos (lft_len k hs),lft_step hk,lex_enc,lin_step]
theorem tok_turns {x0:Option V} {nl:List Nat} {sz:Nat} {nm:List Nat} {tx:T} {x7 x8 x9:Option V} {r:List Mo} {F:V→St→Option (List V × St)} (hs:nm.length ≤ 6)
  (hF:∀ {v w s s'},ev C (.tok 5) (s.set 36 v) = some (w,s')→F v s = some ([w],s')):∀ (m k j:Nat) (x36:Option V),k + m ≤ nm.length →
  ∃ y36,turns F ((List.range' j m).map iv) (wD x0 nl sz nm tx x7 x8 x9 none none none none none x36 (.lex (lft nl nm k) (lin nl nm k) [] :: r)) =
   some ((List.range' k m).map fun i=>sv (nm.getD i 0),wD x0 nl sz nm tx x7 x8 x9 none none none none none y36 (.lex (lft nl nm (k + m)) (lin nl nm (k + m)) [] :: r))
 | 0,k,j,x36,_=>⟨x36,rfl⟩
 | m + 1,k,j,x36,h=>by
  obtain ⟨y36,e⟩:=tok_turns (r:=r) hs hF m (k + 1) (j + 1) (some (iv j)) (by omega)
  refine ⟨y36,?_⟩
  rw [show k + (m + 1) = k + 1 + m by lia]
  have h1:ev C (.tok 5) ((wD x0 nl sz nm tx x7 x8 x9 none none none none none x36 (.lex (lft nl nm k) (lin nl nm k) [] :: r)).set 36 (iv j)) =
    some (sv (nm.getD k 0),wD x0 nl sz nm tx x7 x8 x9 none none none none none (some (iv j)) (.lex (lft nl nm (k + 1)) (lin nl nm (k + 1)) [] :: r)):=(oR_eq (n:=0) rfl _).trans (tok_deck hs (by exact Nat.lt_of_le_of_lt (Nat.le_add_right _ _) (by assumption)))
  exact turns_nx (hF h1) e
end
section
variable {C:Con} {N:Nat} {x0:Option V} {nl:List Nat} {sz:Nat} {nm:List Nat} {tx:T}
theorem ex_push {i n:Nat} {x:X} {st st₁ st₂:St} {v:V} {a:T} {b:Int} {c:List V} (hg:st.get i = some (.mref n)) (hm:st.mu[n]? = some (.lex a b c)) (h:ev C x st = some (v,st₁)) (hp:st₁.push n v = some st₂) :
  ex C N (.push i x) st = some (.next,st₂):=(oR_eq hg _).trans ((oB_eq hm _).trans ((oS_eq h fun v st=>(st.push n v).map fun st=>(Fl.next,st)).trans (oMap _ hp)))
theorem ex_whl {c:X} {b:S} {st:St}:ex C N (.whl c b) st = whl (evT C c) (ex C N b) N st:=rfl
theorem tok_comp {x8 x9:Option V} {r:List Mo} {a:Nat} (hs:nm.length ≤ 6) (ha:a ≤ nm.length) :
  ev C (.comp [35,36] (.gen (.call .range (.cons (.var 7) .nil)) (.one 36) (.cst (.bool true)) (.emit (.tok 5)))) (wD x0 nl sz nm tx (some (iv a)) x8 x9 none none none none none none (.lex (lft nl nm 0) (lin nl nm 0) [] :: r)) =
   some (.list ((List.range a).map fun i=>sv (nm.getD i 0)),wD x0 nl sz nm tx (some (iv a)) x8 x9 none none none none none none (.lex (lft nl nm a) (lin nl nm a) [] :: r)):=by
 refine Classical.byContradiction fun hcon=>?_
 obtain ⟨y36,e⟩:=tok_turns (C:=C) (x0:=x0) (sz:=sz) (tx:=tx) (x7:=some (iv a)) (x8:=x8) (x9:=x9) (r:=r) (F:=genF C (.one 36) (.cst (.bool true)) (.emit (.tok 5))) hs (fun h=>genF_t rfl (evT_ev (v:=.bool true) ev_cst rfl) (ev_emit h)) a 0 0 none (by lia)
 refine hcon ?_
 rw [Nat.zero_add] at e
 have hr:ev C (.call .range (.cons (.var 7) .nil)) (wD x0 nl sz nm tx (some (iv a)) x8 x9 none none none none none none (.lex (lft nl nm 0) (lin nl nm 0) [] :: r)) = some (.rng 0 a 1,wD x0 nl sz nm tx (some (iv a)) x8 x9 none none none none none none (.lex (lft nl nm 0) (lin nl nm 0) [] :: r)):=by
  refine ev_call (ev_one (ev_var rfl)) ?_
  exact fn_range1 (small_nat (by exact Nat.le_trans (by assumption) (Nat.le_trans (by assumption) (by decide))))
 rw [← List.range_eq_range'] at e
 have hl:((List.range a).map fun i=>sv (nm.getD i 0)).length ≤ 16777216:=by simp;exact Nat.le_trans (by assumption) (Nat.le_trans (by assumption) (by decide))
 exact (ev_comp_of (ev_gen_of hr (rng_items a) e) hl).trans rfl
theorem law_L1 {x8 x9:Option V} {a:Nat} (hs:nm.length ≤ 6) (ha:a ≤ nm.length) :
  ∃ x10,ex C N bT7 (wD x0 nl sz nm tx (some (iv a)) x8 x9 none none none none none none [.lex (lft nl nm 0) (lin nl nm 0) [],.lex [9,122] 1 []]) =
   ex C N bT8 (wD x0 nl sz nm tx (some (iv a)) x8 x9 x10 none none none none none [.lex (lft nl nm a) (lin nl nm a) [],.lex [9,122] 1 ((List.range a).reverse.map fun i=>sv (nm.getD i 0))]):=by
 refine Classical.byContradiction fun hcon=>?_
 obtain ⟨s',h1,x10,rfl⟩:=loop_inv (f:=loopF C N (.one 10) (.seq (.push 6 (.var 10)) .skip)) (I:=fun k s=>∃ x10,s = wD x0 nl sz nm tx (some (iv a)) x8 x9 x10 none none none none none [.lex (lft nl nm a) (lin nl nm a) [],.lex [9,122] 1 ((((List.range a).map fun i=>sv (nm.getD i 0)).reverse).take k)])
  (l:=((List.range a).map fun i=>sv (nm.getD i 0)).reverse) (k:=0) (fun i v s hv hI=>by
  obtain ⟨x10,rfl⟩:=hI
  rw [Nat.zero_add]
  refine ⟨_,(?_:_ = some (Fl.next,wD x0 nl sz nm tx (some (iv a)) x8 x9 (some v) none none none none none [.lex (lft nl nm a) (lin nl nm a) [],.lex [9,122] 1 ((((List.range a).map fun i=>sv (nm.getD i 0)).reverse).take i ++ [v])])),some v,by rw [List.take_succ,hv];rfl⟩
  show ex C N (.seq (.push 6 (.var 10)) .skip) (wD x0 nl sz nm tx (some (iv a)) x8 x9 (some v) none none none none none [.lex (lft nl nm a) (lin nl nm a) [],.lex [9,122] 1 ((((List.range a).map fun i=>sv (nm.getD i 0)).reverse).take i)]) = _
  refine (ex_seq (ex_push (n:=1) rfl rfl (ev_var rfl) ?_)).trans rfl
  show (if ((((List.range a).map fun i=>sv (nm.getD i 0)).reverse).take i).length ≤ 1000000 then _ else none) = _
  rw [if_pos (by rw [List.length_take];simp;lia)]
  rfl) (wD x0 nl sz nm tx (some (iv a)) x8 x9 none none none none none none [.lex (lft nl nm a) (lin nl nm a) [],.lex [9,122] 1 []]) ⟨_,rfl⟩
 refine hcon ?_
 refine ⟨x10,?_⟩
 unfold bT7
 rw [Nat.zero_add,List.take_length,← List.map_reverse] at h1
 refine (ex_seq ((ex_for (ev_rev (tok_comp (r:=[.lex [9,122] 1 []]) hs ha) rfl) rfl).trans ?_)).trans rfl
 rw [← List.map_reverse]
 exact h1
theorem range_rev (m:Nat):(List.range (m + 1)).reverse = m :: (List.range m).reverse:=by simp only [List.range_succ,List.reverse_append];rfl
theorem tok_pile {vars:List (Option V)} {d:Mo} {m:Nat} {r:List Mo} {f:Nat→V}:St.tok ⟨vars,d :: .lex [9,122] 1 ((List.range (m + 1)).reverse.map f) :: r⟩ 1 = some (f m,⟨vars,d :: .lex [9,122] 1 ((List.range m).reverse.map f) :: r⟩):=by
 rw [range_rev];rfl
noncomputable def bDealC:X:=(.or (.cmp .ge (.var 9) (.cst (.int 0))) (.cmp .lt (.var 7) (.var 2)))
noncomputable def xDealI:X:=(.or (.cmp .eq (.var 7) (.var 2)) (.and (.cmp .ge (.var 9) (.cst (.int 0))) (.cmp .eq (.bin .mod (.var 8) (.cst (.int 2))) (.cst (.int 1)))))
noncomputable def bDealI:S:=(.ite xDealI (.seq (.tasg [12,13] (.tupl (.cons (.var 9) (.cons (.tok 6) .nil)))) (.seq (.aug 9 .sub (.cst (.int 1))) .skip)) (.seq (.tasg [12,13] (.tupl (.cons (.var 7) (.cons (.tok 5) .nil)))) (.seq (.aug 7 .add (.cst (.int 1))) .skip)))
noncomputable def bDealR:S:=(.seq (.ite (.cmp .ne (.var 13) (.idx (.var 3) (.var 12))) (.seq (.ret (.cst (.bool false))) .skip) .skip) (.seq (.app 11 (.var 12)) (.seq (.aug 8 .fdiv (.cst (.int 2))) .skip)))
noncomputable def bDealL:S:=.seq bDealI bDealR
noncomputable abbrev wDL (x0:Option V) (nl:List Nat) (sz:Nat) (nm:List Nat) (tx:T) (x10:Option V) (a m bits:Nat) (ord:List Nat) (x12 x13:Option V):St :=
 wD x0 nl sz nm tx (some (iv a)) (some (iv bits)) (some (.int ((m:Int) - 1))) x10 (some (.mref 2)) x12 x13 none none [.lex (lft nl nm a) (lin nl nm a) [],.lex [9,122] 1 ((List.range m).reverse.map fun i=>sv (nm.getD i 0)),.list (ord.map iv)]
theorem sv_at {i:Nat} (h:i < nm.length):at? (nm.map sv) (i:Int) = some (sv (nm.getD i 0)):=by
 simp only [at_nat,List.getElem?_map,List.getD_eq_getElem?_getD,List.getElem?_eq_getElem h];rfl
theorem V_eq_str (a:T):cop .ne (.str a) (.str a) = some false:=by
 show (some (a == a)).map (fun b:Bool=>!b) = _
 rw [beq_self_eq_true];rfl
theorem aop_fdiv (a b:Nat) (h1:0 < b) (h2:b < 1073741824):aop .fdiv (iv a) (iv b) = some (iv (a / b)):=bop_fdiv a b h1 h2
theorem deal_rest {x10 x7 x9:Option V} {bits c:Nat} {ord:List Nat} {mu1 mu2:Mo} (hc:c < nm.length) (ho:ord.length ≤ 1000) :
  ex C N bDealR (wD x0 nl sz nm tx x7 (some (iv bits)) x9 x10 (some (.mref 2)) (some (iv c)) (some (sv (nm.getD c 0))) none none [mu1,mu2,.list (ord.map iv)]) =
   some (.next,wD x0 nl sz nm tx x7 (some (iv (bits / 2))) x9 x10 (some (.mref 2)) (some (iv c)) (some (sv (nm.getD c 0))) none none [mu1,mu2,.list ((ord ++ [c]).map iv)]):=by
 unfold bDealR
 refine (ex_seq (ex_if_f (evT_cmp (ev_var rfl) (ev_idx_l (ev_var rfl) (ev_var rfl) rfl (sv_at hc)) (V_eq_str _)))).trans ?_
 refine (ex_seq (ex_app (n:=2) (l:=ord.map iv) rfl rfl (ev_var rfl) rfl (by rw [List.length_map];exact Nat.le_trans (by assumption) (by decide)))).trans ?_
 refine (ex_seq (ex_aug (w:=iv (bits / 2)) rfl ev_cst (aop_fdiv bits 2 (by decide) (by decide)))).trans ?_
 rw [List.map_append]
 rfl
theorem perm_snoc {l r:List Nat} {c:Nat} (h:l.Perm r):(l ++ [c]).Perm (r ++ [c]):=h.append_right _
theorem cop_lt (a b:Nat):cop .lt (iv a) (iv b) = some (decide (a < b)):=congrArg some (decide_eq_decide.mpr Int.ofNat_lt)
theorem cop_eqv (a b:Nat):cop .eq (iv a) (iv b) = some (decide (a = b)):=congrArg some (by rw [Bool.eq_iff_iff,beq_iff_eq,decide_eq_true_iff];exact Int.ofNat_inj)
theorem cop_ge (m:Nat):cop .ge (.int ((m:Int) - 1)) (.int 0) = some (decide (0 < m)):=congrArg some (decide_eq_decide.mpr (by omega))
section
variable {x10 x12 x13:Option V} {a m bits:Nat} {ord:List Nat}
theorem deal_c:evT C bDealC (wDL x0 nl sz nm tx x10 a m bits ord x12 x13) = some (decide (0 < m) || decide (a < sz),wDL x0 nl sz nm tx x10 a m bits ord x12 x13) :=
 evT_or (evT_cmp (ev_var rfl) ev_cst (cop_ge m)) (evT_cmp (ev_var rfl) (ev_var rfl) (cop_lt a sz))
theorem deal_i {q:Bool} (hq:(decide (a = sz) || (decide (0 < m) && decide (bits % 2 = 1))) = q):evT C xDealI (wDL x0 nl sz nm tx x10 a m bits ord x12 x13) = some (q,wDL x0 nl sz nm tx x10 a m bits ord x12 x13):=by
 simp only [← hq]
 exact evT_or (evT_cmp (ev_var rfl) (ev_var rfl) (cop_eqv a sz)) (evT_and (evT_cmp (ev_var rfl) ev_cst (cop_ge m)) (evT_cmp (ev_bin (ev_var rfl) ev_cst (bop_mod bits 2 (by decide))) ev_cst (cop_eqv (bits % 2) 1)))
theorem deal_pile (hm:m < nm.length) (hol:ord.length ≤ 1000) (hq:(decide (a = sz) || (decide (0 < m + 1) && decide (bits % 2 = 1))) = true) :
  ex C N bDealL (wDL x0 nl sz nm tx x10 a (m + 1) bits ord x12 x13) = some (.next,wDL x0 nl sz nm tx x10 a m (bits / 2) (ord ++ [m]) (some (iv m)) (some (sv (nm.getD m 0)))):=by
 have e1:((m + 1:Nat):Int) - 1 = (m:Int):=by lia
 have h6:ev C (.tok 6) (wDL x0 nl sz nm tx x10 a (m + 1) bits ord x12 x13) = some (sv (nm.getD m 0),wD x0 nl sz nm tx (some (iv a)) (some (iv bits)) (some (.int (((m + 1:Nat):Int) - 1))) x10 (some (.mref 2)) x12 x13 none none [.lex (lft nl nm a) (lin nl nm a) [],.lex [9,122] 1 ((List.range m).reverse.map fun i=>sv (nm.getD i 0)),.list (ord.map iv)]):=(oR_eq (n:=1) rfl _).trans tok_pile
 have s1:ex C N bDealI (wDL x0 nl sz nm tx x10 a (m + 1) bits ord x12 x13) = some (.next,wD x0 nl sz nm tx (some (iv a)) (some (iv bits)) (some (.int ((m:Int) - 1))) x10 (some (.mref 2)) (some (iv m)) (some (sv (nm.getD m 0))) none none [.lex (lft nl nm a) (lin nl nm a) [],.lex [9,122] 1 ((List.range m).reverse.map fun i=>sv (nm.getD i 0)),.list (ord.map iv)]):=by
  unfold bDealI
  refine (ex_if_t (deal_i hq)).trans ((ex_seq (ex_tasg (vs:=[.int (((m + 1:Nat):Int) - 1),sv (nm.getD m 0)]) (ev_tupl (ev_cons (ev_var rfl) (ev_one h6))) rfl)).trans ((ex_seq (ex_aug (w:=.int ((m:Int) - 1)) rfl ev_cst ?_)).trans ?_))
  ·show some (V.int (((m + 1:Nat):Int) - 1 - 1)) = _
   rw [e1]
  ·rw [e1];rfl
 exact (ex_seq s1).trans (deal_rest hm hol)
theorem deal_deck (hs:nm.length ≤ 6) (ha:a < nm.length) (hol:ord.length ≤ 1000) (hq:(decide (a = sz) || (decide (0 < m) && decide (bits % 2 = 1))) = false) :
  ex C N bDealL (wDL x0 nl sz nm tx x10 a m bits ord x12 x13) = some (.next,wDL x0 nl sz nm tx x10 (a + 1) m (bits / 2) (ord ++ [a]) (some (iv a)) (some (sv (nm.getD a 0)))):=by
 have h5:ev C (.tok 5) (wDL x0 nl sz nm tx x10 a m bits ord x12 x13) = some (sv (nm.getD a 0),wD x0 nl sz nm tx (some (iv a)) (some (iv bits)) (some (.int ((m:Int) - 1))) x10 (some (.mref 2)) x12 x13 none none [.lex (lft nl nm (a + 1)) (lin nl nm (a + 1)) [],.lex [9,122] 1 ((List.range m).reverse.map fun i=>sv (nm.getD i 0)),.list (ord.map iv)]):=(oR_eq (n:=0) rfl _).trans (tok_deck hs ha)
 have s1:ex C N bDealI (wDL x0 nl sz nm tx x10 a m bits ord x12 x13) = some (.next,wD x0 nl sz nm tx (some (iv (a + 1))) (some (iv bits)) (some (.int ((m:Int) - 1))) x10 (some (.mref 2)) (some (iv a)) (some (sv (nm.getD a 0))) none none [.lex (lft nl nm (a + 1)) (lin nl nm (a + 1)) [],.lex [9,122] 1 ((List.range m).reverse.map fun i=>sv (nm.getD i 0)),.list (ord.map iv)]) :=
  (ex_if_e (deal_i hq)).trans ((ex_seq (ex_tasg (vs:=[iv a,sv (nm.getD a 0)]) (ev_tupl (ev_cons (ev_var rfl) (ev_one h5))) rfl)).trans ((ex_seq (ex_aug (w:=iv (a + 1)) rfl ev_cst rfl)).trans rfl))
 exact (ex_seq s1).trans (deal_rest ha hol)
end
theorem deal_loop (hs:nm.length ≤ 6) (hz:nm.length = sz) {x10:Option V} (n:Nat):∀ (a m bits:Nat) (ord:List Nat) (x12 x13:Option V),m ≤ a→a ≤ sz→m + (sz - a) < n→ord.Perm (List.range' m (a - m)) →
  ∃ bits' ord' y12 y13,whl (evT C bDealC) (ex C N bDealL) n (wDL x0 nl sz nm tx x10 a m bits ord x12 x13) = some (.next,wDL x0 nl sz nm tx x10 sz 0 bits' ord' y12 y13) ∧ ord'.Perm (List.range sz):=by
 induction n with
 | zero=>intro a m _ _ _ _ _ _ hn;exact (Nat.not_lt_zero _ hn).elim
 | succ n ih =>
  intro a m bits ord x12 x13 hma ha hn hp
  have hol:ord.length ≤ 1000:=by simp only [hp.length_eq,List.length_range'];exact Nat.le_trans (Nat.sub_le _ _) (Nat.le_trans ha (by simp only [← hz];exact Nat.le_trans hs (by decide)))
  by_cases hd:(decide (0 < m) || decide (a < sz)) = true
  ·have hc:evT C bDealC (wDL x0 nl sz nm tx x10 a m bits ord x12 x13) = some (true,wDL x0 nl sz nm tx x10 a m bits ord x12 x13):=deal_c.trans (by simp only [hd])
   rw [Bool.or_eq_true,decide_eq_true_iff,decide_eq_true_iff] at hd
   cases hq:(decide (a = sz) || (decide (0 < m) && decide (bits % 2 = 1))) with
   | true =>
    cases m with
    | zero =>
     rw [Bool.or_eq_true,Bool.and_eq_true,decide_eq_true_iff,decide_eq_true_iff] at hq
     exact hd.elim (fun h=>absurd h (Nat.lt_irrefl 0)) fun h=>hq.elim (fun e=>absurd h (e ▸ Nat.lt_irrefl _)) fun q=>absurd q.1 (Nat.lt_irrefl 0)
    | succ m =>
     refine Classical.byContradiction fun hcon=>?_
     obtain ⟨bits',ord',y12,y13,h1,h2⟩:=ih a m (bits / 2) (ord ++ [m]) (some (iv m)) (some (sv (nm.getD m 0))) (Nat.le_of_succ_le hma) ha (Nat.lt_of_succ_lt_succ (Nat.succ_add m _ ▸ hn)) (by
      simp only [show a - m = (a - (m + 1)) + 1 from (Nat.sub_add_cancel (Nat.sub_pos_of_lt hma)).symm,List.range'_succ]
      exact (perm_snoc hp).trans (List.perm_append_singleton ..))
     refine hcon ?_
     exact ⟨bits',ord',y12,y13,(whl_t hc (deal_pile (by simp only [hz];exact Nat.le_trans hma ha) hol hq)).trans h1,h2⟩
   | false =>
    have hne:a ≠ sz:=fun e=>by rw [decide_eq_true e] at hq;exact Bool.noConfusion hq
    have hlt:=Nat.lt_of_le_of_ne ha hne
    rw [show sz - a = sz - (a + 1) + 1 from (Nat.sub_add_cancel (Nat.sub_pos_of_lt hlt)).symm] at hn
    refine Classical.byContradiction fun hcon=>?_
    obtain ⟨bits',ord',y12,y13,h1,h2⟩:=ih (a + 1) m (bits / 2) (ord ++ [a]) (some (iv a)) (some (sv (nm.getD a 0))) (Nat.le_succ_of_le hma) hlt (Nat.lt_of_succ_lt_succ hn) (by
     simp only [Nat.succ_sub hma,List.range'_concat,Nat.one_mul,Nat.add_sub_cancel' hma]
     exact perm_snoc hp)
    refine hcon ?_
    exact ⟨bits',ord',y12,y13,(whl_t hc (deal_deck hs (by simp only [hz];exact hlt) hol hq)).trans h1,h2⟩
  ·have hc:evT C bDealC (wDL x0 nl sz nm tx x10 a m bits ord x12 x13) = some (false,wDL x0 nl sz nm tx x10 a m bits ord x12 x13):=deal_c.trans (by simp only [Bool.eq_false_iff.mpr hd])
   rw [Bool.or_eq_true,decide_eq_true_iff,decide_eq_true_iff] at hd
   have h0:m = 0:=Nat.eq_zero_of_not_pos fun h=>hd (.inl h)
   have h1:a = sz:=Nat.le_antisymm ha (Nat.not_lt.mp fun h=>hd (.inr h))
   subst h0 h1
   rw [Nat.sub_zero,← List.range_eq_range'] at hp
   exact ⟨bits,ord,x12,x13,whl_f hc,hp⟩
end
section
variable {C:Con} {N:Nat} {x0:Option V} {nl:List Nat} {sz:Nat} {nm:List Nat} {tx:T}
noncomputable abbrev wE (x0:Option V) (nl:List Nat) (sz:Nat) (nm:List Nat) (tx:T) (x7 x8 x9 x10 x11 x12 x13 x14 x15 x16 x17 x18 x36:Option V) (mu:List Mo):St :=
 ⟨[x0,some (.list (nl.map iv)),some (iv sz),some (.list (nm.map sv)),some (.str tx),some (.mref 0),some (.mref 1),x7,x8,x9,x10,x11,x12,x13,x14,x15,x16,x17,x18,none,
  none,none,none,none,none,none,none,none,none,none,none,none,none,none,none,none,x36,none,none,none,none,none,none,none,none,none,none],mu⟩
theorem law_L2 (hs:nm.length ≤ 6) (hz:nm.length = sz) (hN:100 ≤ N) {x10:Option V} {a bits:Nat} (ha:a ≤ sz) :
  ∃ x8 x12 x13,∃ ord:List Nat,ex C N bT8 (wD x0 nl sz nm tx (some (iv a)) (some (iv bits)) (some (.int ((a:Int) - 1))) x10 none none none none none [.lex (lft nl nm a) (lin nl nm a) [],.lex [9,122] 1 ((List.range a).reverse.map fun i=>sv (nm.getD i 0))]) =
   ex C N bT10 (wD x0 nl sz nm tx (some (iv sz)) x8 (some (.int (-1))) x10 (some (.mref 2)) x12 x13 none none [.lex tailT (lin nl nm sz) [],.lex [9,122] 1 [],.list (ord.map iv)]) ∧ ord.Perm (List.range sz):=by
 refine Classical.byContradiction fun hcon=>?_
 refine (deal_loop (C:=C) (N:=N) (x0:=x0) (nl:=nl) (tx:=tx) hs hz (x10:=x10) N a a bits [] none none (Nat.le_refl a) ha (by omega) (by rw [Nat.sub_self];exact .nil)).elim fun bits' k0=>k0.elim fun ord' k1=>k1.elim fun y12 k2=>k2.elim fun y13 k3=>k3.elim fun h1 h2=>?_
 refine hcon ?_
 refine ⟨some (iv bits'),y12,y13,ord',?_,h2⟩
 unfold bT8
 refine (ex_seq (ex_asg (ev_fresh (l:=[]) rfl))).trans ?_
 unfold bT9
 refine (ex_seq (ex_whl.trans h1)).trans ?_
 rw [← hz,← lft_end (nl:=nl) (nm:=nm)]
 rfl
theorem cop_ne_ends:cop .ne (.list [.str [122,32,122],.str [],.str [122],.str []]) (.list [.str [122,32,122],.str [],.str [122],.str []]) = some false:=by rfl
theorem lex_pile:lex0 [9,122] 1 = ([122],[],1):=by
 rw [lex0_ws (by rfl),lex0_cons (by rfl) (by decide) (by decide),lexB_nil];rfl
theorem law_ends {x7 x8 x9 x10 x11 x12 x13:Option V} {L:List V} (htx:tx = fil nl nm sz ++ tailT) :
  ex C N bT10 (wD x0 nl sz nm tx x7 x8 x9 x10 x11 x12 x13 none none [.lex tailT (lin nl nm sz) [],.lex [9,122] 1 [],.list L]) =
   ex C N bT12 (wD x0 nl sz nm tx x7 x8 x9 x10 x11 x12 x13 (some (.list [.str [122,32,122],.str [],.str [122],.str []])) none [.lex [] (lin nl nm sz + 1) [],.lex [] 1 [],.list L]):=by
 have t1:ev C (.tok 5) (wD x0 nl sz nm tx x7 x8 x9 x10 x11 x12 x13 none none [.lex tailT (lin nl nm sz) [],.lex [9,122] 1 [],.list L]) = some (.str [122,32,122],wD x0 nl sz nm tx x7 x8 x9 x10 x11 x12 x13 none none [.lex [] (lin nl nm sz + 1) [],.lex [9,122] 1 [],.list L]):=by
  show (if tailT.length ≤ 10000 then some (V.str (lex0 tailT (lin nl nm sz)).1,wD x0 nl sz nm tx x7 x8 x9 x10 x11 x12 x13 none none [.lex (lex0 tailT (lin nl nm sz)).2.1 (lex0 tailT (lin nl nm sz)).2.2 [],.lex [9,122] 1 [],.list L]) else none) = _
  rw [if_pos (by decide),lex_tail]
 have t2:ev C (.tok 5) (wD x0 nl sz nm tx x7 x8 x9 x10 x11 x12 x13 none none [.lex [] (lin nl nm sz + 1) [],.lex [9,122] 1 [],.list L]) = some (.str [],wD x0 nl sz nm tx x7 x8 x9 x10 x11 x12 x13 none none [.lex [] (lin nl nm sz + 1) [],.lex [9,122] 1 [],.list L]):=by
  show (if ([]:T).length ≤ 10000 then some (V.str (lex0 [] (lin nl nm sz + 1)).1,wD x0 nl sz nm tx x7 x8 x9 x10 x11 x12 x13 none none [.lex (lex0 [] (lin nl nm sz + 1)).2.1 (lex0 [] (lin nl nm sz + 1)).2.2 [],.lex [9,122] 1 [],.list L]) else none) = _
  rw [if_pos (by decide),lex0_nil]
 have t3:ev C (.tok 6) (wD x0 nl sz nm tx x7 x8 x9 x10 x11 x12 x13 none none [.lex [] (lin nl nm sz + 1) [],.lex [9,122] 1 [],.list L]) = some (.str [122],wD x0 nl sz nm tx x7 x8 x9 x10 x11 x12 x13 none none [.lex [] (lin nl nm sz + 1) [],.lex [] 1 [],.list L]):=by
  show (if ([9,122]:T).length ≤ 10000 then some (V.str (lex0 [9,122] 1).1,wD x0 nl sz nm tx x7 x8 x9 x10 x11 x12 x13 none none [.lex [] (lin nl nm sz + 1) [],.lex (lex0 [9,122] 1).2.1 (lex0 [9,122] 1).2.2 [],.list L]) else none) = _
  rw [if_pos (by decide),lex_pile]
 have t4:ev C (.tok 6) (wD x0 nl sz nm tx x7 x8 x9 x10 x11 x12 x13 none none [.lex [] (lin nl nm sz + 1) [],.lex [] 1 [],.list L]) = some (.str [],wD x0 nl sz nm tx x7 x8 x9 x10 x11 x12 x13 none none [.lex [] (lin nl nm sz + 1) [],.lex [] 1 [],.list L]):=by
  show (if ([]:T).length ≤ 10000 then some (V.str (lex0 [] 1).1,wD x0 nl sz nm tx x7 x8 x9 x10 x11 x12 x13 none none [.lex [] (lin nl nm sz + 1) [],.lex (lex0 [] 1).2.1 (lex0 [] 1).2.2 [],.list L]) else none) = _
  rw [if_pos (by decide),lex0_nil]
 unfold bT10
 refine (ex_seq (ex_asg (ev_lst (ev_cons t1 (ev_cons t2 (ev_cons t3 (ev_one t4))))))).trans ?_
 unfold bT11
 have c1:evT C (.cmp .ne (.var 14) (.lst (.cons (.cst (.str [122,32,122])) (.cons (.cst (.str [])) (.cons (.cst (.str [122])) (.cons (.cst (.str [])) .nil))))))
   (wD x0 nl sz nm tx x7 x8 x9 x10 x11 x12 x13 (some (.list [.str [122,32,122],.str [],.str [122],.str []])) none [.lex [] (lin nl nm sz + 1) [],.lex [] 1 [],.list L]) = some (false,_) :=
  evT_cmp (ev_var rfl) (ev_lst (ev_cons ev_cst (ev_cons ev_cst (ev_cons ev_cst (ev_one ev_cst))))) cop_ne_ends
 have hc:(tx.count 10:Int) = ((fil nl nm sz).count 10:Nat) + 1:=by
  rw [htx,List.count_append];rfl
 have c2:evT C (.cmp .ne (.line 5) (.bin .add (.cst (.int 1)) (.meth .count (.var 4) (.cons (.cst (.str [10])) .nil))))
   (wD x0 nl sz nm tx x7 x8 x9 x10 x11 x12 x13 (some (.list [.str [122,32,122],.str [],.str [122],.str []])) none [.lex [] (lin nl nm sz + 1) [],.lex [] 1 [],.list L]) = some (false,_) :=
  evT_cmp (u:=.int (lin nl nm sz + 1)) rfl (ev_bin ev_cst (ev_meth (w:=.int (tx.count 10)) (ev_var rfl) (ev_one ev_cst) rfl) rfl) (by
   show (some ((lin nl nm sz + 1:Int) == 1 + (tx.count 10:Int))).map (fun b:Bool=>!b) = _
   rw [hc,show lin nl nm sz + 1 = 1 + (((fil nl nm sz).count 10:Nat) + 1:Int) by unfold lin;rfl,beq_self_eq_true];rfl)
 exact (ex_seq (ex_if_f (evT_or c1 c2)))
noncomputable def swp (p q k:Nat):Nat:=if [p,q].contains k then p + q - k else k
noncomputable def swap (p q sz:Nat) (ord:List Nat):List Nat:=(List.range sz).map fun k=>ord.getD (swp p q k) 0
theorem swp_perm5:∀ p < 5,∀ q < 5,((List.range 5).map (swp p q)).isPerm (List.range 5) = true:=by decide
theorem swp_perm6:∀ p < 6,∀ q < 6,((List.range 6).map (swp p q)).isPerm (List.range 6) = true:=by decide
theorem swap_perm {p q sz:Nat} {ord:List Nat} (hz:sz = 5 ∨ sz = 6) (hp:p < sz) (hq:q < sz) (ho:ord.Perm (List.range sz)):(swap p q sz ord).Perm (List.range sz):=by
 have h1:((List.range sz).map (swp p q)).Perm (List.range sz):=by
  rcases hz with rfl | rfl
  ·exact List.isPerm_iff.mp (swp_perm5 p hp q hq)
  ·exact List.isPerm_iff.mp (swp_perm6 p hp q hq)
 have hl:ord.length = sz:=by simp only [ho.length_eq,List.length_range]
 have h2:ord = (List.range sz).map fun k=>ord.getD k 0:=by
  apply List.ext_getElem
  ·simp only [List.length_map,List.length_range,hl]
  ·intro i h1 h2
   rw [List.getElem_map,List.getElem_range,List.getD_eq_getElem?_getD,List.getElem?_eq_getElem h1];rfl
 have h3:=h1.map fun k=>ord.getD k 0
 rw [List.map_map,← h2] at h3
 exact List.Perm.trans h3 ho
set_option tactic.hygienic true in
theorem swp_lt {p q k sz:Nat} (hp:p < sz) (hq:q < sz) (hk:k < sz):swp p q k < sz:=by
 unfold swp
 split
 ·rename_i h
  rw [List.contains_iff_mem] at h
  simp at h
  omega
 ·exact hk
noncomputable def bTurnL:S:=(.seq (.tasg [17,18] (.tupl (.cons (.bin .mod (.var 15) (.var 2)) (.cons (.bin .mod (.bin .fdiv (.var 15) (.var 2)) (.var 2)) .nil)))) (.seq (.asg 11 (.comp [35,36] (.gen (.call .range (.cons (.var 2) .nil)) (.one 36) (.cst (.bool true)) (.emit (.ite (.cmp .isin (.var 36) (.tupl (.cons (.var 17) (.cons (.var 18) .nil)))) (.idx (.var 11) (.bin .sub (.bin .add (.var 17) (.var 18)) (.var 36))) (.idx (.var 11) (.var 36))))))) (.seq (.aug 15 .fdiv (.bin .mul (.var 2) (.var 2))) .skip)))
theorem turn_ok {x7 x8 x9 x10 x12 x13 x14 x16 x17 x18:Option V} {o:V} {mu:List Mo} {d:Nat} {ord:List Nat} (hz:sz = 5 ∨ sz = 6) (ho:ord.length = sz)
  (hsee:∀ vars,St.see ⟨vars,mu⟩ o = .list (ord.map iv)) :
  ex C N bTurnL (wE x0 nl sz nm tx x7 x8 x9 x10 (some o) x12 x13 x14 (some (iv d)) x16 x17 x18 none mu) =
   some (.next,wE x0 nl sz nm tx x7 x8 x9 x10 (some (.list ((swap (d % sz) (d / sz % sz) sz ord).map iv))) x12 x13 x14 (some (iv (d / (sz * sz)))) x16 (some (iv (d % sz))) (some (iv (d / sz % sz))) none mu):=by
 have hp:d % sz < sz:=Nat.mod_lt _ (by lia)
 have hq:d / sz % sz < sz:=Nat.mod_lt _ (by exact Nat.le_trans (Nat.le_add_left _ _) (by assumption))
 unfold bTurnL
 refine (ex_seq (ex_tasg (vs:=[iv (d % sz),iv (d / sz % sz)]) (ev_tupl (ev_cons (ev_bin (ev_var rfl) (ev_var rfl) (bop_mod d sz (by exact Nat.le_trans (Nat.le_add_left _ _) (by assumption)))) (ev_one (ev_bin (ev_bin (ev_var rfl) (ev_var rfl) (bop_fdiv d sz (by exact Nat.le_trans (Nat.le_add_left _ _) (by assumption)) (by lia))) (ev_var rfl) (bop_mod _ sz (by exact Nat.le_trans (Nat.le_add_left _ _) (by assumption))))))) rfl)).trans ?_
 have hcomp:=ev_comp_map (C:=C) (st:=wE x0 nl sz nm tx x7 x8 x9 x10 (some o) x12 x13 x14 (some (iv d)) x16 (some (iv (d % sz))) (some (iv (d / sz % sz))) none mu) (st₁:=wE x0 nl sz nm tx x7 x8 x9 x10 (some o) x12 x13 x14 (some (iv d)) x16 (some (iv (d % sz))) (some (iv (d / sz % sz))) none mu)
  (it:=.call .range (.cons (.var 2) .nil)) (e:=.ite (.cmp .isin (.var 36) (.tupl (.cons (.var 17) (.cons (.var 18) .nil)))) (.idx (.var 11) (.bin .sub (.bin .add (.var 17) (.var 18)) (.var 36))) (.idx (.var 11) (.var 36)))
  (own:=[35,36]) (i:=36) (l:=(List.range sz).map iv) (u:=.rng 0 sz 1) (fun v=>match v with | .int k=>iv (ord.getD (swp (d % sz) (d / sz % sz) k.toNat) 0) | v=>v) (by
   refine ev_call (ev_one (ev_var rfl)) ?_
   exact fn_range1 (small_nat (by lia))) (rng_items sz) (fun v hv=>by
   obtain ⟨k,hk,rfl⟩:=List.mem_map.mp hv
   have hk:=List.mem_range.mp hk
   have hb:=swp_lt (p:=d % sz) (q:=d / sz % sz) (k:=k) hp hq hk
   have c:evT C (.cmp .isin (.var 36) (.tupl (.cons (.var 17) (.cons (.var 18) .nil)))) (wE x0 nl sz nm tx x7 x8 x9 x10 (some o) x12 x13 x14 (some (iv d)) x16 (some (iv (d % sz))) (some (iv (d / sz % sz))) (some (iv k)) mu) = some ([d % sz,d / sz % sz].contains k,wE x0 nl sz nm tx x7 x8 x9 x10 (some o) x12 x13 x14 (some (iv d)) x16 (some (iv (d % sz))) (some (iv (d / sz % sz))) (some (iv k)) mu) :=
    evT_cmp (ev_var rfl) (ev_tupl (ev_cons (ev_var rfl) (ev_one (ev_var rfl)))) (memb_iv k [d % sz,d / sz % sz])
   show ev C (.ite _ _ _) (wE x0 nl sz nm tx x7 x8 x9 x10 (some o) x12 x13 x14 (some (iv d)) x16 (some (iv (d % sz))) (some (iv (d / sz % sz))) (some (iv k)) mu) = some (iv (ord.getD (swp (d % sz) (d / sz % sz) k) 0),_)
   unfold swp at hb ⊢
   by_cases q:[d % sz,d / sz % sz].contains k = true
   ·rw [q] at c
    rw [if_pos q] at hb ⊢
    have hle:k ≤ d % sz + d / sz % sz:=by
     rw [List.contains_iff_mem] at q
     simp at q
     lia
    refine (ev_ite_t c).trans (ev_idx_l (k:=((d % sz + d / sz % sz - k:Nat):Int)) (ev_var rfl) ?_ (hsee _) (at_iv (by exact Nat.lt_of_lt_of_eq (by assumption) (Eq.symm (by assumption)))))
    refine ev_bin (ev_bin (ev_var rfl) (ev_var rfl) (bop_add _ _)) (ev_var rfl) ?_
    show some (V.int (((d % sz + d / sz % sz:Nat):Int) - (k:Int))) = some (V.int ((d % sz + d / sz % sz - k:Nat):Int))
    rw [show ((d % sz + d / sz % sz:Nat):Int) - (k:Int) = ((d % sz + d / sz % sz - k:Nat):Int) by lia]
   ·rw [Bool.not_eq_true] at q
    rw [q] at c
    rw [if_neg (by rw [q];exact Bool.false_ne_true)] at hb ⊢
    exact (ev_ite_e c).trans (ev_idx_l (ev_var rfl) (ev_var rfl) (hsee _) (at_iv (by exact Nat.lt_of_lt_of_eq (by assumption) (Eq.symm (by assumption)))))) rfl (fun _=>rfl) (by simp;lia)
 rw [show ((List.range sz).map iv).map (fun v=>match v with | .int k=>iv (ord.getD (swp (d % sz) (d / sz % sz) k.toNat) 0) | v=>v) = (swap (d % sz) (d / sz % sz) sz ord).map iv by
  unfold swap;rw [List.map_map,List.map_map];rfl] at hcomp
 refine (ex_seq (ex_asg hcomp)).trans ?_
 ·refine (ex_seq (ex_aug (w:=iv (d / (sz * sz))) rfl (ev_bin (ev_var rfl) (ev_var rfl) (bop_mul sz sz (by lia) (by lia))) (aop_fdiv d (sz * sz) ?_ ?_))).trans rfl
  ·rcases hz with rfl | rfl <;> decide
  ·rcases hz with rfl | rfl <;> decide
theorem law_L3 {x7 x8 x9 x10 x12 x13 x14:Option V} {m1 m2:Mo} {ord:List Nat} (hz:sz = 5 ∨ sz = 6) (ho:ord.Perm (List.range sz)) (hn:nl.length = 8) :
  ∃ x15 x17 x18,∃ ord':List Nat,ex C N bT12 (wD x0 nl sz nm tx x7 x8 x9 x10 (some (.mref 2)) x12 x13 x14 none [m1,m2,.list (ord.map iv)]) =
   ex C N bT14 (wE x0 nl sz nm tx x7 x8 x9 x10 (some (.list (ord'.map iv))) x12 x13 x14 x15 (some (iv 1)) x17 x18 none [m1,m2,.list (ord.map iv)]) ∧ ord'.Perm (List.range sz):=by
 have hl:∀ {l:List Nat},l.Perm (List.range sz)→l.length = sz:=fun h=>by simp only [h.length_eq,List.length_range]
 have hp:∀ d:Nat,d % sz < sz ∧ d / sz % sz < sz:=fun d=>⟨Nat.mod_lt _ (by lia),Nat.mod_lt _ (by lia)⟩
 have ho1:=swap_perm hz (hp (nl.getD 1 0)).1 (hp (nl.getD 1 0)).2 ho
 have ho2:=swap_perm hz (hp (nl.getD 1 0 / (sz * sz))).1 (hp (nl.getD 1 0 / (sz * sz))).2 ho1
 refine ⟨some (iv (nl.getD 1 0 / (sz * sz) / (sz * sz))),some (iv (nl.getD 1 0 / (sz * sz) % sz)),some (iv (nl.getD 1 0 / (sz * sz) / sz % sz)),_,?_,ho2⟩
 delta bT12
 refine (ex_seq (ex_asg (v:=iv (nl.getD 1 0)) (ev_idx_l (ev_var rfl) ev_cst rfl (at_iv (i:=1) (by lia))))).trans ?_
 delta bT13
 have t1:=turn_ok (C:=C) (N:=N) (x0:=x0) (nl:=nl) (nm:=nm) (tx:=tx) (x7:=x7) (x8:=x8) (x9:=x9) (x10:=x10) (x12:=x12) (x13:=x13) (x14:=x14) (x16:=some (iv 0)) (x17:=none) (x18:=none) (o:=.mref 2) (mu:=[m1,m2,.list (ord.map iv)]) (d:=nl.getD 1 0) hz (hl ho) (fun _=>rfl)
 have t2:=turn_ok (C:=C) (N:=N) (x0:=x0) (nl:=nl) (nm:=nm) (tx:=tx) (x7:=x7) (x8:=x8) (x9:=x9) (x10:=x10) (x12:=x12) (x13:=x13) (x14:=x14) (x16:=some (iv 1)) (x17:=some (iv (nl.getD 1 0 % sz))) (x18:=some (iv (nl.getD 1 0 / sz % sz))) (o:=.list ((swap (nl.getD 1 0 % sz) (nl.getD 1 0 / sz % sz) sz ord).map iv)) (mu:=[m1,m2,.list (ord.map iv)]) (d:=nl.getD 1 0 / (sz * sz)) hz (hl ho1) (fun _=>rfl)
 refine (ex_seq ((ex_for (t:=.one 16) (b:=bTurnL) (u:=.rng 0 2 1) (l:=[iv 0,iv 1]) (ev_call (ev_one ev_cst) rfl) (rng_items 2)).trans ?_)).trans rfl
 exact (loop_step t1).trans ((loop_step t2).trans rfl)
end
noncomputable def subN (c d:Nat):Nat:=if c = d then 0 else 2
noncomputable def celN (bc:Nat):T→List Nat→Nat→Nat→Nat→List Nat × Nat × Nat
 | c :: a,r :: row,dist,res,mn =>
  let sub:=dist + subN bc c
  let ins:=(if r < res then r else res) + 2
  let res':=if sub < ins then sub else ins
  let q:=celN bc a row r res' (if res' < mn then res' else mn)
  (res' :: q.1,q.2.1,q.2.2)
 | _,_,_,res,mn=>([],res,mn)
noncomputable def bigN:Nat:=9223372036854775807
noncomputable def rowsN (m:Nat) (a:T):Nat→T→List Nat→Nat→Nat
 | _,[],_,res=>res
 | k,c :: b,row,_ =>
  let q:=celN c a row (k * 2) (k * 2) bigN
  if m < q.2.2 then m + 1 else rowsN m a (k + 1) b q.1 q.2.1
noncomputable def levEN2 (m:Nat) (a b:T):Nat:=if m < (b.length - a.length) * 2 then m + 1 else rowsN m a 0 b ((List.range' 0 a.length).map fun k:Nat=>2 + k * 2) 0
noncomputable def levEN (m:Nat) (a b:T):Nat :=
 if a = [] ∨ b = [] then 2 * (a.length + b.length) else
 if 40 < a.length ∨ 40 < b.length then m + 1 else
 if b.length < a.length then levEN2 m b a else levEN2 m a b
noncomputable def levN (m:Nat) (a b:T):Nat :=
 if a = b then 0 else
 let a1:=a.drop (pre a b)
 let b1:=b.drop (pre a b)
 levEN m (a1.take (a1.length - suf a1 b1)) (b1.take (b1.length - suf a1 b1))
section
variable {f:Nat→Nat} {A:List Nat}
structure Keep (f:Nat→Nat) (A:List Nat):Prop where
 inj:∀ c ∈ A,∀ d ∈ A,f c = f d→c = d
 low:∀ c ∈ A,lowerT [c] = [c]
theorem Keep.sub (H:Keep f A) {c d:Nat} (hc:c ∈ A) (hd:d ∈ A):subc c d = (subN (f c) (f d):Int):=by
 delta subc subN
 by_cases q:c = d
 ·rw [if_pos q,if_pos (congrArg f q)];rfl
 ·rw [if_neg q,if_neg fun e=>q (H.inj c hc d hd e),if_neg]
  ·rfl
  ·simp only [H.low c hc,H.low d hd];simpa using q
theorem ite_cast {a b x y:Nat}:(if (a:Int) < (b:Int) then (x:Int) else (y:Int)) = ((if a < b then x else y:Nat):Int):=by
 by_cases q:a < b
 ·rw [if_pos q,if_pos (by exact Int.ofNat_lt.mpr (by assumption))]
 ·rw [if_neg q,if_neg (by lia)]
theorem cells_N (H:Keep f A) {bc:Nat} (hb:bc ∈ A):∀ (a:T) (row:List Nat) (dist res mn:Nat),(∀ c ∈ a,c ∈ A) →
  cells bc a (row.map fun k:Nat=>(k:Int)) dist res mn = (((celN (f bc) (a.map f) row dist res mn).1.map fun k:Nat=>(k:Int)),((celN (f bc) (a.map f) row dist res mn).2.1:Int),((celN (f bc) (a.map f) row dist res mn).2.2:Int))
 | [],row,dist,res,mn,_=>by simp only [List.map_nil];rfl
 | c :: a,[],dist,res,mn,_=>by simp only [List.map_nil,List.map_cons];rfl
 | c :: a,r :: row,dist,res,mn,h=>by
  simp only [List.map_cons,cells,celN]
  delta celV minI
  rw [H.sub hb (h c (.head _))]
  have e1:(if (r:Int) < (res:Int) then (r:Int) else (res:Int)) + 2 = (((if r < res then r else res) + 2:Nat):Int):=by rw [ite_cast];rfl
  have e2:(dist:Int) + (subN (f bc) (f c):Nat) = ((dist + subN (f bc) (f c):Nat):Int):=by rfl
  rw [e1,e2,ite_cast,ite_cast]
  rw [cells_N H hb a row _ _ _ fun d hd=>h d (.tail _ hd)]
theorem rows_N (H:Keep f A) {m:Nat} {a:T} (ha:∀ c ∈ a,c ∈ A):∀ (b:T) (k:Nat) (row:List Nat) (res:Nat),(∀ c ∈ b,c ∈ A) →
  rows m a k b (row.map fun k:Nat=>(k:Int)) res = (rowsN m (a.map f) k (b.map f) row res:Int)
 | [],k,row,res,_=>rfl
 | c :: b,k,row,res,hb=>by
  simp only [List.map_cons,rows,rowsN]
  have e:((k:Int) * 2) = ((k * 2:Nat):Int):=by rfl
  have eb:big = ((bigN:Nat):Int):=rfl
  rw [e,eb,cells_N H (hb c (.head _)) a row _ _ _ ha]
  dsimp only
  rw [rows_N H ha b (k + 1) _ _ fun d hd=>hb d (.tail _ hd)]
  by_cases q:m < (celN (f c) (a.map f) row (k * 2) (k * 2) bigN).2.2
  ·rw [if_pos q,if_pos (by exact Int.ofNat_lt.mpr (by assumption))];rfl
  ·rw [if_neg q,if_neg (by omega)]
theorem levE2_N (H:Keep f A) {m:Nat} {a b:T} (ha:∀ c ∈ a,c ∈ A) (hb:∀ c ∈ b,c ∈ A) (hl:a.length ≤ b.length):levE2 m a b = (levEN2 m (a.map f) (b.map f):Int):=by
 delta levE2 levEN2
 rw [List.length_map,List.length_map]
 have e:((List.range' 0 a.length).map fun k:Nat=>(2 + k * 2:Int)) = ((List.range' 0 a.length).map fun k:Nat=>2 + k * 2).map fun k:Nat=>(k:Int):=by
  simp only [List.map_map]
  apply List.map_congr_left
  intro k _
  rfl
 simp only [e,show (0:Int) = ((0:Nat):Int) from rfl,rows_N H ha b 0 _ 0 hb]
 by_cases q:m < (b.length - a.length) * 2
 ·rw [if_pos q,if_pos (by lia)];rfl
 ·rw [if_neg q,if_neg (by lia)]
theorem levE_N (H:Keep f A) {m:Nat} {a b:T} (ha:∀ c ∈ a,c ∈ A) (hb:∀ c ∈ b,c ∈ A):levE m a b = (levEN m (a.map f) (b.map f):Int):=by
 delta levE levEN
 rw [List.length_map,List.length_map]
 by_cases q1:a = [] ∨ b = []
 ·rw [if_pos q1,if_pos (by simpa using q1)];rfl
 ·have q1':¬ (a.map f = [] ∨ b.map f = []):=by simpa using q1
  rw [if_neg q1,if_neg q1']
  by_cases q2:40 < a.length ∨ 40 < b.length
  ·rw [if_pos q2,if_pos q2];rfl
  ·rw [if_neg q2,if_neg q2]
   by_cases q3:b.length < a.length
   ·rw [if_pos q3,if_pos q3];exact levE2_N H hb ha (by exact Nat.le_of_lt (by assumption))
   ·rw [if_neg q3,if_neg q3];exact levE2_N H ha hb (by exact Nat.not_lt.mp (by assumption))
theorem pre_N (H:Keep f A):∀ {a b:T},(∀ c ∈ a,c ∈ A)→(∀ c ∈ b,c ∈ A)→pre (a.map f) (b.map f) = pre a b
 | x :: a,y :: b,ha,hb=>by
  simp only [List.map_cons,pre]
  rw [pre_N H (fun c hc=>ha c (.tail _ hc)) fun c hc=>hb c (.tail _ hc)]
  by_cases q:x = y
  ·rw [if_pos q,if_pos (congrArg f q)]
  ·rw [if_neg q,if_neg fun e=>q (H.inj x (ha x (.head _)) y (hb y (.head _)) e)]
 | [],_,_,_=>by simp [pre]
 | _ :: _,[],_,_=>by simp [pre]
theorem suf_N (H:Keep f A) {a b:T} (ha:∀ c ∈ a,c ∈ A) (hb:∀ c ∈ b,c ∈ A):suf (a.map f) (b.map f) = suf a b:=by
 unfold suf
 rw [← List.map_reverse,← List.map_reverse]
 exact pre_N H (fun c hc=>ha c (List.mem_reverse.mp hc)) fun c hc=>hb c (List.mem_reverse.mp hc)
theorem map_inj (H:Keep f A):∀ {a b:T},(∀ c ∈ a,c ∈ A)→(∀ c ∈ b,c ∈ A)→a.map f = b.map f→a = b
 | [],[],_,_,_=>rfl
 | [],y :: b,_,_,h=>by simp at h
 | x :: a,[],_,_,h=>by simp at h
 | x :: a,y :: b,ha,hb,h=>by
  simp only [List.map_cons,List.cons.injEq] at h
  simp only [H.inj x (ha x (.head _)) y (hb y (.head _)) h.1,map_inj H (fun c hc=>ha c (.tail _ hc)) (fun c hc=>hb c (.tail _ hc)) h.2]
theorem lev_N (H:Keep f A) {m:Nat} {a b:T} (ha:∀ c ∈ a,c ∈ A) (hb:∀ c ∈ b,c ∈ A):lev m a b = (levN m (a.map f) (b.map f):Int):=by
 delta lev levN
 by_cases q:a = b
 ·rw [if_pos q,if_pos (congrArg _ q)];rfl
 ·rw [if_neg q,if_neg fun e=>q (map_inj H ha hb e)]
  dsimp only
  have ha1:∀ n,∀ c ∈ a.drop n,c ∈ A:=fun n c hc=>ha c (List.mem_of_mem_drop hc)
  have hb1:∀ n,∀ c ∈ b.drop n,c ∈ A:=fun n c hc=>hb c (List.mem_of_mem_drop hc)
  simp only [pre_N H ha hb,← List.map_drop,← List.map_drop,suf_N H (ha1 _) (hb1 _),List.length_map,List.length_map,← List.map_take,← List.map_take]
  exact levE_N H (fun c hc=>ha1 _ c (List.mem_of_mem_take hc)) fun c hc=>hb1 _ c (List.mem_of_mem_take hc)
end
theorem pre_app (w x y:T):pre (w ++ x) (w ++ y) = w.length + pre x y:=by
 induction w with
 | nil=>simp
 | cons a w ih=>simp only [List.cons_append,pre,if_true,ih,List.length_cons];lia
theorem lev_app {m:Int} {w x y:T}:lev m (w ++ x) (w ++ y) = lev m x y:=by
 unfold lev
 by_cases q:x = y
 ·rw [if_pos q,if_pos (congrArg _ q)]
 ·rw [if_neg q,if_neg fun e=>q (List.append_cancel_left e)]
  dsimp only
  have h:∀ z:T,(w ++ z).drop (w.length + pre x y) = z.drop (pre x y):=fun z=>by rw [List.drop_append,List.drop_eq_nil_of_le (by exact Nat.le_add_right _ _),List.nil_append];congr 1;lia
  simp only [pre_app,h,h]
theorem findGo_app (y:T):∀ (x z:T) (k:Nat),(findGo y (x ++ y ++ z) k).isSome = true
 | [],z,k=>by
  cases y with
  | nil=>cases z with
   | nil=>rfl
   | cons a z=>simp [findGo]
  | cons a y =>
   have:((a :: y).isPrefixOf (a :: (y ++ z))) = true:=List.isPrefixOf_iff_prefix.mpr (List.prefix_append (a :: y) z)
   show (findGo (a :: y) (a :: (y ++ z)) k).isSome = true
   unfold findGo
   rw [if_pos this];rfl
 | a :: x,z,k=>by
  show (findGo y (a :: (x ++ y ++ z)) k).isSome = true
  unfold findGo
  split
  ·rfl
  ·exact findGo_app y x z (k + 1)
theorem hasT_app (x y z:T):hasT y (x ++ y ++ z) = true:=findGo_app y x z 0
theorem split_dots (r acc:T):splitGo dots (dots ++ r) 0 acc = acc.reverse :: splitGo dots r 0 []:=by
 show (if dots.isPrefixOf (46 :: 46 :: 46 :: r) = true then acc.reverse :: splitGo dots (46 :: 46 :: r) 2 [] else _) = _
 rw [if_pos (by rfl)]
 rfl
theorem split_plain:∀ (w r acc:T),(∀ c ∈ w,c ≠ 46)→splitGo dots (w ++ r) 0 acc = splitGo dots r 0 (w.reverse ++ acc)
 | [],_,_,_=>rfl
 | c :: w,r,acc,h=>by
  have hc:(dots.isPrefixOf (c :: (w ++ r))) = false:=by
   show ((46 == c) && _) = false
   rw [show (46 == c) = false by simpa using fun e=>h c (.head _) e.symm,Bool.false_and]
  show (if dots.isPrefixOf (c :: (w ++ r)) = true then _ else splitGo dots (w ++ r) 0 (c :: acc)) = _
  rw [hc,if_neg Bool.false_ne_true,split_plain w r (c :: acc) fun d hd=>h d (.tail _ hd)]
  simp
theorem split_end (w acc:T) (h:∀ c ∈ w,c ≠ 46):splitGo dots w 0 acc = [acc.reverse ++ w]:=by
 have:=split_plain w [] acc h
 rw [List.append_nil] at this
 simp only [this]
 show [(w.reverse ++ acc).reverse] = _
 simp
theorem split_two {a b:T} (ha:∀ c ∈ a,c ≠ 46) (hb:∀ c ∈ b,c ≠ 46):splitT (a ++ dots ++ b) dots = [a,b]:=by
 unfold splitT
 simp only [List.append_assoc,split_plain a _ [] ha,split_dots,split_end b [] hb]
 simp
theorem ell_two {a b got:T} (ha:∀ c ∈ a,c ≠ 46) (hb:∀ c ∈ b,c ≠ 46):ell (a ++ dots ++ b) got = ellB got [a,b]:=by
 unfold ell
 rw [if_pos (hasT_app a dots b),split_two ha hb]
theorem nodup_ne {w:T} (hn:w.Nodup) {i j:Nat} (hi:i < w.length) (hj:j < w.length) (h:i ≠ j):w[i] ≠ w[j]:=by
 refine Or.elim (Nat.lt_or_gt_of_ne h) (fun q=>?_) (fun q=>?_)
 ·exact List.pairwise_iff_getElem.mp hn i j hi hj q
 ·exact (List.pairwise_iff_getElem.mp hn j i hj hi q).symm
section
variable {w:T} {j:Nat}
theorem ell_1 (h46:∀ c ∈ w,c ≠ 46) (h1:0 < j) (h2:j < w.length):ell (w.take j ++ dots ++ w.drop j) w = true:=by
 rw [ell_two (fun c hc=>h46 c (List.mem_of_mem_take hc)) fun c hc=>h46 c (List.mem_of_mem_drop hc)]
 have n1:w.take j ≠ []:=by intro e;have:=congrArg List.length e;rw [List.length_take,List.length_nil] at this;lia
 have n2:w.drop j ≠ []:=by intro e;have:=congrArg List.length e;rw [List.length_drop,List.length_nil] at this;lia
 show (if w.take j = [] then _ else if (w.take j).isPrefixOf w = true then (if w.drop j = [] then _ else if (w.drop j).isSuffixOf w = true then (if ((w.length:Int) - ((w.drop j).length:Int)) < ((w.take j).length:Int) then false else true) else false) else false) = true
 rw [if_neg n1,if_pos (List.isPrefixOf_iff_prefix.mpr (List.take_prefix j w)),if_neg n2,if_pos (List.isSuffixOf_iff_suffix.mpr (List.drop_suffix j w)),List.length_take,List.length_drop,if_neg (by lia)]
theorem ell_2 (h46:∀ c ∈ w,c ≠ 46) (h1:0 < j) (h2:j < w.length):ell (w.take j ++ dots ++ w.drop (j - 1)) w = false:=by
 rw [ell_two (fun c hc=>h46 c (List.mem_of_mem_take hc)) fun c hc=>h46 c (List.mem_of_mem_drop hc)]
 have n1:w.take j ≠ []:=by intro e;have:=congrArg List.length e;rw [List.length_take,List.length_nil] at this;omega
 have n2:w.drop (j - 1) ≠ []:=by intro e;have:=congrArg List.length e;rw [List.length_drop,List.length_nil] at this;omega
 show (if w.take j = [] then _ else if (w.take j).isPrefixOf w = true then (if w.drop (j - 1) = [] then _ else if (w.drop (j - 1)).isSuffixOf w = true then (if ((w.length:Int) - ((w.drop (j - 1)).length:Int)) < ((w.take j).length:Int) then false else true) else false) else false) = false
 rw [if_neg n1,if_pos (List.isPrefixOf_iff_prefix.mpr (List.take_prefix j w)),if_neg n2,if_pos (List.isSuffixOf_iff_suffix.mpr (List.drop_suffix (j - 1) w)),List.length_take,List.length_drop,if_pos (by omega)]
theorem ell_3 (h46:∀ c ∈ w,c ≠ 46) (hn:w.Nodup) (h1:0 < j) (h2:j < w.length):ell (dots ++ w.take j) w = false:=by
 have:=ell_two (a:=[]) (b:=w.take j) (got:=w) (fun c hc=>nomatch hc) fun c hc=>h46 c (List.mem_of_mem_take hc)
 rw [List.nil_append] at this
 rw [this]
 have n1:w.take j ≠ []:=by intro e;have:=congrArg List.length e;rw [List.length_take,List.length_nil] at this;omega
 show (if w.take j = [] then _ else if (w.take j).isSuffixOf w = true then _ else false) = false
 rw [if_neg n1,if_neg]
 intro hs
 rw [List.isSuffixOf_iff_suffix,List.suffix_iff_eq_drop] at hs
 rw [List.length_take,Nat.min_eq_left (by exact Nat.le_of_lt (by assumption))] at hs
 have e0:(w.take j)[0]? = (w.drop (w.length - j))[0]?:=congrArg (·[0]?) hs
 rw [List.getElem?_take,if_pos (by assumption),List.getElem?_drop,List.getElem?_eq_getElem (by exact Nat.le_trans (Nat.le_add_left _ _) (by assumption)),List.getElem?_eq_getElem (by omega)] at e0
 exact nodup_ne hn (i:=0) (j:=w.length - j + 0) (by exact Nat.le_trans (Nat.le_add_left _ _) (by assumption)) (by omega) (by omega) (Option.some.inj e0)
theorem ell_4 (h46:∀ c ∈ w,c ≠ 46) (hn:w.Nodup) (h1:0 < j) (h2:j < w.length):ell (w.drop j ++ dots) w = false:=by
 have:=ell_two (a:=w.drop j) (b:=[]) (got:=w) (fun c hc=>h46 c (List.mem_of_mem_drop hc)) fun c hc=>nomatch hc
 rw [List.append_nil] at this
 simp only [this]
 have n1:w.drop j ≠ []:=by intro e;have:=congrArg List.length e;rw [List.length_drop,List.length_nil] at this;lia
 show (if w.drop j = [] then _ else if (w.drop j).isPrefixOf w = true then _ else false) = false
 rw [if_neg n1,if_neg]
 intro hs
 rw [List.isPrefixOf_iff_prefix,List.prefix_iff_eq_take] at hs
 have e0:(w.drop j)[0]? = (w.take (w.drop j).length)[0]?:=congrArg (·[0]?) hs
 rw [List.getElem?_take,if_pos (by rw [List.length_drop];exact Nat.sub_pos_of_lt (by assumption)),List.getElem?_drop,List.getElem?_eq_getElem (by assumption),List.getElem?_eq_getElem (by exact Nat.le_trans (Nat.le_add_left _ _) (by assumption))] at e0
 exact nodup_ne hn (i:=j + 0) (j:=0) (by assumption) (by exact Nat.le_trans (Nat.le_add_left _ _) (by assumption)) (by lia) (Option.some.inj e0)
end
noncomputable def isSub:List Nat→List Nat→Bool
 | [],_=>true
 | _ :: _,[]=>false
 | c :: l,d :: g=>if c = d then isSub l g else isSub (c :: l) g
theorem isSub_cons (c d:Nat) (l g:List Nat):isSub (c :: l) (d :: g) = if c = d then isSub l g else isSub (c :: l) g:=by dsimp only [isSub]
theorem isSub_nil (g:List Nat):isSub [] g = true:=by cases g <;> dsimp only [isSub]
theorem findGo_one (c:Nat):∀ (x:T) (k:Nat),match findGo [c] x k with
  | some i=>∃ n,i = k + n ∧ n < x.length ∧ ∀ l,isSub (c :: l) x = isSub l (x.drop (n + 1))
  | none=>∀ l,isSub (c :: l) x = false
 | [],k=>by
  have h0:findGo [c] [] k = none:=rfl
  simp only [h0]
  intro l;rfl
 | d :: x,k=>by
  have ih:=findGo_one c x (k + 1)
  have hp:([c].isPrefixOf (d :: x)) = (c == d):=by simp [List.isPrefixOf]
  unfold findGo
  rw [hp]
  by_cases q:c = d
  ·rw [if_pos (by simpa using q)]
   refine ⟨0,rfl,by simp,fun l=>?_⟩
   rw [isSub_cons,if_pos q];rfl
  ·rw [if_neg (by simpa using q)]
   have hs:∀ l,isSub (c :: l) (d :: x) = isSub (c :: l) x:=fun l=>by rw [isSub_cons,if_neg q]
   cases e:findGo [c] x (k + 1) with
   | none=>rw [e] at ih;intro l;simp only [hs];exact ih l
   | some i =>
    rw [e] at ih
    refine Classical.byContradiction fun hcon=>?_
    refine (ih).elim fun n k0=>k0.elim fun h1 k1=>k1.elim fun h2 h3=>?_
    refine hcon ?_
    exact ⟨n + 1,by lia,by simp;assumption,fun l=>by simp only [hs,h3];rfl⟩
theorem findT_nat (got w:T) (s:Nat) (hs:s ≤ got.length):findT got w (s:Int) (got.length:Int) = match findGo w (got.drop s) s with | some k=>(k:Int) | none=>-1:=by
 unfold findT
 have h1:(if (s:Int) < 0 then (s:Int) + got.length else (s:Int)).toNat = s:=by rw [if_neg (by lia)];rfl
 have h2:min (if (got.length:Int) < 0 then (got.length:Int) + got.length else (got.length:Int)).toNat got.length = got.length:=by rw [if_neg (by lia)];lia
 simp only [h1,h2,List.take_length,if_pos hs] <;> (cases findGo w (got.drop s) s <;> rfl)
theorem ellGo_sub (got:T):∀ (l:List Nat) (s:Nat),s ≤ got.length→ellGo got got.length (l.map (fun c=>[c]) ++ [[]]) (s:Int) = isSub l (got.drop s)
 | [],s,hs=>by
  rw [isSub_nil]
  show (let k:=findT got [] (s:Int) (got.length:Int);if k < 0 then false else true) = true
  dsimp only
  rw [findT_nat got [] s hs]
  have:findGo [] (got.drop s) s = some s:=by
   cases got.drop s with
   | nil=>rfl
   | cons a r=>unfold findGo;rw [if_pos (by rfl)]
  rw [this]
  exact if_neg (show ¬ ((s:Nat):Int) < 0 by lia)
 | c :: l,s,hs=>by
  show (let k:=findT got [c] (s:Int) (got.length:Int);if k < 0 then false else ellGo got got.length (l.map (fun c=>[c]) ++ [[]]) (k + (([c]:T).length:Int))) = _
  dsimp only
  rw [findT_nat got [c] s hs]
  have hf:=findGo_one c (got.drop s) s
  cases e:findGo [c] (got.drop s) s with
  | none =>
   rw [e] at hf
   rw [hf l]
   exact if_pos (by decide)
  | some i =>
   rw [e] at hf
   obtain ⟨n,h1,h2,h3⟩:=hf
   rw [List.length_drop] at h2
   rw [h3 l]
   dsimp only
   rw [if_neg (by lia),show (i:Int) + (([c]:T).length:Int) = ((s + n + 1:Nat):Int) by rw [h1];simp <;> lia,ellGo_sub got l (s + n + 1) (by lia),List.drop_drop]
   congr 2
theorem split_join:∀ (l:List Nat) (acc:T),l ≠ []→(∀ c ∈ l,c ≠ 46)→splitGo dots (joinT dots (l.map fun c=>[c]) ++ dots) 0 acc =
  match l with | []=>[] | c :: r=>(acc.reverse ++ [c]) :: (r.map fun c=>[c]) ++ [[]]
 | [],acc,h,_=>(h rfl).elim
 | [c],acc,_,h=>by
  show splitGo dots ([c] ++ dots) 0 acc = _
  simp only [split_plain [c] dots acc (fun d hd=>h d (hd))]
  have:=split_dots [] ([c].reverse ++ acc)
  rw [List.append_nil] at this
  simp only [this]
  show ([c].reverse ++ acc).reverse :: [[]] = _
  simp
 | c :: d :: r,acc,_,h=>by
  have ih:=split_join (d :: r) [] (by simp) fun e he=>h e (.tail _ he)
  show splitGo dots (([c] ++ dots ++ joinT dots ((d :: r).map fun c=>[c])) ++ dots) 0 acc = _
  simp only [List.append_assoc,List.append_assoc,split_plain [c] _ acc (fun e he=>h e (by simp at he;subst he;exact .head _)),split_dots,ih]
  simp
theorem ell_sub {l got:T} (h:∀ c ∈ l,c ≠ 46):ell (dotted (l.map fun c=>[c])) got = isSub l got:=by
 unfold ell
 have hh:hasT dots (dotted (l.map fun c=>[c])) = true:=by
  have:=hasT_app [] dots (joinT dots (l.map fun c=>[c]) ++ dots)
  unfold dotted
  rw [List.append_assoc]
  exact this
 rw [if_pos hh]
 have hsp:splitT (dotted (l.map fun c=>[c])) dots = if l = [] then [[],[],[]] else [] :: ((l.map fun c=>[c]) ++ [[]]):=by
  unfold splitT dotted
  rw [List.append_assoc,split_dots]
  cases l with
  | nil=>rfl
  | cons c r=>rw [split_join (c :: r) [] (by simp) h,if_neg (by simp)];simp
 rw [hsp]
 have hg:=ellGo_sub got l 0 (by exact Nat.zero_le _)
 rw [List.drop_zero] at hg
 have h0:findT got [] ((0:Nat):Int) (got.length:Int) = 0:=by
  rw [findT_nat got [] 0 (by exact Nat.zero_le _),List.drop_zero]
  cases got with
  | nil=>rfl
  | cons a r=>unfold findGo;rw [if_pos (by rfl)];rfl
 have h1:∀ ws:List T,ellGo got got.length ([] :: ws) 0 = ellGo got got.length ws 0:=fun ws=>by
  show (let k:=findT got [] (0:Int) (got.length:Int);if k < 0 then false else ellGo got got.length ws (k + (([]:T).length:Int))) = _
  dsimp only
  rw [show findT got [] (0:Int) (got.length:Int) = 0 from h0]
  rfl
 have h2:∀ ws:List T,ws ≠ []→ellB got ([] :: (ws ++ [[]])) = ellGo got got.length (ws ++ [[]]) 0:=fun ws _=>by
  show ellC got ([] :: (ws ++ [[]])) 0 = _
  unfold ellC
  have hlast:(([]:T) :: (ws ++ [[]])).getLastD [] = []:=by
   rw [← List.cons_append,List.getLastD_eq_getLast?,List.getLast?_append];rfl
  dsimp only
  rw [if_pos hlast]
  show (if (got.length:Int) < 0 then false else ellGo got got.length ([] :: (ws ++ [[]])) 0) = _
  rw [if_neg (by lia),h1]
 by_cases q:l = []
 ·rw [if_pos q]
  subst q
  have:=h2 [[]] (by simp)
  refine this.trans ?_
  show ellGo got got.length ([] :: [[]]) 0 = _
  rw [h1]
  exact hg
 ·rw [if_neg q,h2 _ (by simpa using q)]
  exact hg
noncomputable def ins (x:Nat):List Nat→List (List Nat)
 | []=>[[x]]
 | y :: r=>(x :: y :: r) :: (ins x r).map (y :: ·)
noncomputable def perms:List Nat→List (List Nat)
 | []=>[[]]
 | x :: r=>(perms r).flatMap (ins x)
theorem ins_mem (x:Nat):∀ (s t:List Nat),s ++ x :: t ∈ ins x (s ++ t)
 | [],[]=>.head _
 | [],_ :: _=>.head _
 | a :: s,t=>.tail _ (List.mem_map.mpr ⟨_,ins_mem x s t,rfl⟩)
theorem mem_perms:∀ {r l:List Nat},l.Perm r→l ∈ perms r
 | [],l,h=>by simp only [List.perm_nil.mp h];exact .head _
 | x :: r,l,h=>by
  obtain ⟨s,t,rfl⟩:=List.append_of_mem (h.symm.subset (.head _):x ∈ l)
  have h2:(s ++ t).Perm r:=List.Perm.cons_inv (List.perm_middle.symm.trans h)
  exact List.mem_flatMap.mpr ⟨_,mem_perms h2,ins_mem x s t⟩
noncomputable def prevIn (front:List Nat):Nat→Bool
 | 0=>false
 | k + 1=>front.contains k
noncomputable def bitsOf (sz:Nat) (front:List Nat):List Bool:=(List.range sz).map fun k=>front.contains k
noncomputable def runsB:Bool→List Bool→Nat
 | _,[]=>0
 | p,b :: r=>(if b && !p then 1 else 0) + runsB b r
noncomputable def blkL (sz:Nat) (ord:List Nat):List Bool:=(List.range' 2 (sz - 2)).flatMap fun j=>(List.range (sz / j)).map fun i=>distinct (((ord.drop (i * j)).take j).map fun k=>((k % j:Nat):Int)) == (j:Int)
noncomputable def cutsOf (sz:Nat) (ord:List Nat):List Nat:=(List.range (sz + 1)).filter fun c=>isSub (List.range c).reverse ord && isSub (List.range' c (sz - c)) ord
noncomputable def ordOk (sz:Nat):Bool:=(perms (List.range sz)).all fun ord =>
 ((List.range sz).all fun j=>((ord.take j).filter fun k=>!prevIn (ord.take j) k).length == runsB false (bitsOf sz (ord.take j))) &&
 cutsOf sz ord == (if (blkL sz ord).all id then [ord.getD 0 0,ord.getD 0 0 + 1] else [])
theorem ord5:ordOk 5 = true:=by decide +kernel
theorem ord6:ordOk 6 = true:=by decide +kernel
noncomputable def cl (x:Nat):Nat :=
 if x < 20000 then (if x = 34 ∨ x = 32 ∨ x = 8195 then 0 else if x = 92 ∨ x = 10 ∨ x = 160 then 2 else 4) else if x < 26000 then 1 else if x < 32000 then 3 else 5
noncomputable def kd (x:Nat):Nat:=if x = 34 then 34 else if x = 92 then 92 else [32,23000,10,29000,9,35000].getD (cl x) 0
noncomputable def okN (k x:Nat):Prop:=match k with
 | 0=>x = 34 ∨ x = 32 ∨ x = 8195
 | 1=>23000 ≤ x ∧ x < 26000
 | 2=>x = 92 ∨ x = 10 ∨ x = 160
 | 3=>29000 ≤ x ∧ x < 32000
 | 4=>x = 9 ∨ x = 13 ∨ x = 35
 | 5=>35000 ≤ x ∧ x < 38000
 | _=>False
theorem or3 {a b c:Nat} {k:Nat}:[a,b,c].getD (k % 3) 0 = a ∨ [a,b,c].getD (k % 3) 0 = b ∨ [a,b,c].getD (k % 3) 0 = c:=by
 have h:k % 3 < 3:=Nat.mod_lt _ (by decide)
 generalize k % 3 = j at h
 cases j with
 | zero=>exact .inl rfl
 | succ j=>cases j with
  | zero=>exact .inr (.inl rfl)
  | succ j=>cases j with
   | zero=>exact .inr (.inr rfl)
   | succ j=>exact absurd h (Nat.not_lt.mpr (Nat.le_add_left 3 j))
theorem in3 {a b k:Nat} (h:b = a + 3000):a ≤ a + k % 3000 ∧ a + k % 3000 < b:=⟨Nat.le_add_right _ _,h ▸ Nat.add_lt_add_left (Nat.mod_lt _ (by decide)) a⟩
theorem okN_nmv (nl:List Nat) (k:Nat) (hk:k < 6):okN k (nmv nl k):=by
 cases k with
 | zero=>exact or3
 | succ k =>
  cases k with
  | zero=>exact in3 rfl
  | succ k =>
   cases k with
   | zero=>exact or3
   | succ k =>
    cases k with
    | zero=>exact in3 rfl
    | succ k =>
     cases k with
     | zero=>exact or3
     | succ k =>
      cases k with
      | zero=>exact in3 rfl
      | succ k =>
       exact absurd hk (Nat.not_lt.mpr (Nat.le_add_left 6 k))
structure Nms (sz:Nat) (nm:List Nat):Prop where
 len:nm.length = sz
 two:sz = 5 ∨ sz = 6
 ok:∀ k < sz,okN k (nm.getD k 0)
theorem nms_ok {sz:Nat} (hz:sz = 5 ∨ sz = 6) (nl:List Nat):Nms sz (nms nl sz):=⟨nms_len nl sz,hz,fun k hk=>by
 unfold nms
 simp only [List.getD_eq_getElem?_getD,List.getElem?_map,List.getElem?_range hk]
 exact okN_nmv nl k (by lia)⟩
theorem cl_ok:∀ {k x:Nat},okN k x→cl x = k
 | 0,x,h=>by rcases h with rfl | rfl | rfl <;> rfl
 | 1,x,h=>by unfold cl;rw [if_neg (Nat.not_lt.mpr (Nat.le_trans (by decide) h.1)),if_pos h.2]
 | 2,x,h=>by rcases h with rfl | rfl | rfl <;> rfl
 | 3,x,h=>by unfold cl;rw [if_neg (Nat.not_lt.mpr (Nat.le_trans (by decide) h.1)),if_neg (Nat.not_lt.mpr (Nat.le_trans (by decide) h.1)),if_pos h.2]
 | 4,x,h=>by rcases h with rfl | rfl | rfl <;> rfl
 | 5,x,h=>by unfold cl;rw [if_neg (Nat.not_lt.mpr (Nat.le_trans (by decide) h.1)),if_neg (Nat.not_lt.mpr (Nat.le_trans (by decide) h.1)),if_neg (Nat.not_lt.mpr (Nat.le_trans (by decide) h.1))]
 | _ + 6,_,h=>h.elim
theorem big_ne {x:Nat} (h:23000 ≤ x) (n:Nat) (hn:n < 23000):x ≠ n:=fun e=>absurd h (Nat.not_le.mpr (e ▸ hn))
theorem ok_ne:∀ {k x:Nat},okN k x→x ≠ 46 ∧ (x = 34→k = 0) ∧ (x = 92→k = 2) ∧ k < 6
 | 0,x,h=>by rcases h with rfl | rfl | rfl <;> decide
 | 1,x,h=>⟨big_ne h.1 46 (by decide),fun e=>(big_ne h.1 34 (by decide) e).elim,fun e=>(big_ne h.1 92 (by decide) e).elim,by decide⟩
 | 2,x,h=>by rcases h with rfl | rfl | rfl <;> decide
 | 3,x,h=>⟨big_ne (Nat.le_trans (by decide) h.1) 46 (by decide),fun e=>(big_ne (Nat.le_trans (by decide) h.1) 34 (by decide) e).elim,fun e=>(big_ne (Nat.le_trans (by decide) h.1) 92 (by decide) e).elim,by decide⟩
 | 4,x,h=>by rcases h with rfl | rfl | rfl <;> decide
 | 5,x,h=>⟨big_ne (Nat.le_trans (by decide) h.1) 46 (by decide),fun e=>(big_ne (Nat.le_trans (by decide) h.1) 34 (by decide) e).elim,fun e=>(big_ne (Nat.le_trans (by decide) h.1) 92 (by decide) e).elim,by decide⟩
 | _ + 6,_,h=>h.elim
theorem ok_low:∀ {k x:Nat},okN k x→lowerT [x] = [x]
 | 0,x,h=>lower_small x (by rcases h with rfl | rfl | rfl <;> decide)
 | 1,x,h=>lower_big h.1 (Nat.lt_of_lt_of_le h.2 (by decide))
 | 2,x,h=>lower_small x (by rcases h with rfl | rfl | rfl <;> decide)
 | 3,x,h=>lower_big (Nat.le_trans (by decide) h.1) (Nat.lt_of_lt_of_le h.2 (by decide))
 | 4,x,h=>lower_small x (by rcases h with rfl | rfl | rfl <;> decide)
 | 5,x,h=>lower_big (Nat.le_trans (by decide) h.1) (Nat.lt_of_lt_of_le h.2 (by decide))
 | _ + 6,_,h=>h.elim
theorem kd_else {x:Nat} (h1:x ≠ 34) (h2:x ≠ 92):kd x = [32,23000,10,29000,9,35000].getD (cl x) 0:=by unfold kd;rw [if_neg h1,if_neg h2]
theorem can_ne:∀ k < 6,[32,23000,10,29000,9,35000].getD k 0 ≠ 34 ∧ [32,23000,10,29000,9,35000].getD k 0 ≠ 92:=by decide
theorem can_inj:∀ i < 6,∀ j < 6,[32,23000,10,29000,9,35000].getD i 0 = [32,23000,10,29000,9,35000].getD j 0→i = j:=by decide
theorem kd_ok {k x:Nat} (h:okN k x):(kd x = 34 ↔ x = 34) ∧ (kd x = 92 ↔ x = 92):=by
 have hk:=(ok_ne h).2.2.2
 by_cases h1:x = 34
 ·subst h1;exact ⟨⟨fun _=>rfl,fun _=>rfl⟩,⟨fun e=>(by cases e),fun e=>(by cases e)⟩⟩
 ·by_cases h2:x = 92
  ·subst h2;exact ⟨⟨fun e=>(by cases e),fun e=>(by cases e)⟩,⟨fun _=>rfl,fun _=>rfl⟩⟩
  ·rw [kd_else h1 h2,cl_ok h]
   have:=can_ne k hk
   exact ⟨⟨fun e=>(this.1 e).elim,fun e=>(h1 e).elim⟩,⟨fun e=>(this.2 e).elim,fun e=>(h2 e).elim⟩⟩
section
variable {sz:Nat} {nm:List Nat}
theorem Nms.mem (H:Nms sz nm) {c:Nat} (hc:c ∈ nm):∃ k < sz,nm.getD k 0 = c ∧ okN k c:=by
 obtain ⟨k,hk,rfl⟩:=List.getElem_of_mem hc
 have e:nm.getD k 0 = nm[k]:=by rw [List.getD_eq_getElem?_getD,List.getElem?_eq_getElem hk];rfl
 exact ⟨k,by simp only [← H.len];exact hk,e,e ▸ H.ok k (by simp only [← H.len];exact hk)⟩
theorem Nms.inj (H:Nms sz nm) {i j:Nat} (hi:i < sz) (hj:j < sz) (h:nm.getD i 0 = nm.getD j 0):i = j:=by
 rw [← cl_ok (H.ok i hi),← cl_ok (H.ok j hj),h]
theorem Nms.keep (H:Nms sz nm):Keep kd (34 :: 92 :: nm) where
 inj:=by
  have key:∀ c ∈ nm,∀ d ∈ nm,kd c = kd d→c = d:=by
   intro c hc d hd e
   refine (H.mem hc).elim fun i k0=>k0.elim fun hi k1=>k1.elim fun ei oi=>?_
   refine (H.mem hd).elim fun j k0=>k0.elim fun hj k1=>k1.elim fun ej oj=>?_
   have ki:=kd_ok oi
   have kj:=kd_ok oj
   by_cases h1:c = 34
   ·simp only [h1];exact (kj.1.mp (e ▸ ki.1.mpr h1)).symm
   ·by_cases h2:c = 92
    ·simp only [h2];exact (kj.2.mp (e ▸ ki.2.mpr h2)).symm
    ·have h3:d ≠ 34:=fun q=>h1 (ki.1.mp (e ▸ kj.1.mpr q))
     have h4:d ≠ 92:=fun q=>h2 (ki.2.mp (e ▸ kj.2.mpr q))
     rw [kd_else h1 h2,kd_else h3 h4,cl_ok oi,cl_ok oj] at e
     have hij:=can_inj i (ok_ne oi).2.2.2 j (ok_ne oj).2.2.2 e
     simp only [← ei,← ej,hij]
  intro c hc d hd e
  rcases List.mem_cons.mp hc with rfl | hc
  ·rcases List.mem_cons.mp hd with rfl | hd
   ·rfl
   ·rcases List.mem_cons.mp hd with rfl | hd
    ·cases e
    ·refine (H.mem hd).elim fun j k0=>k0.elim fun hj k1=>k1.elim fun ej oj=>?_
     exact ((kd_ok oj).1.mp e.symm).symm
  ·rcases List.mem_cons.mp hc with rfl | hc
   ·rcases List.mem_cons.mp hd with rfl | hd
    ·cases e
    ·rcases List.mem_cons.mp hd with rfl | hd
     ·rfl
     ·refine Classical.byContradiction fun hcon=>?_
      refine (H.mem hd).elim fun j k0=>k0.elim fun hj k1=>k1.elim fun ej oj=>?_
      refine hcon ?_
      exact ((kd_ok oj).2.mp e.symm).symm
   ·refine Classical.byContradiction fun hcon=>?_
    refine (H.mem hc).elim fun i k0=>k0.elim fun hi k1=>k1.elim fun ei oi=>?_
    refine hcon ?_
    rcases List.mem_cons.mp hd with rfl | hd
    ·exact (kd_ok oi).1.mp e
    ·rcases List.mem_cons.mp hd with rfl | hd
     ·exact (kd_ok oi).2.mp e
     ·exact key c hc d hd e
 low:=by
  intro c hc
  rcases List.mem_cons.mp hc with rfl | hc
  ·exact lower_small 34 (by decide)
  ·rcases List.mem_cons.mp hc with rfl | hc
   ·exact lower_small 92 (by decide)
   ·refine Classical.byContradiction fun hcon=>?_
    refine (H.mem hc).elim fun k k0=>k0.elim fun _ k1=>k1.elim fun _ ok=>?_
    refine hcon ?_
    exact ok_low ok
noncomputable def cans (sz:Nat):List T:=[[32,23000,10,29000,9,35000],[34,23000,10,29000,9,35000],[32,23000,92,29000,9,35000],[34,23000,92,29000,9,35000]].map (·.take sz)
theorem kd_0 {x:Nat} (h:okN 0 x):kd x = 32 ∨ kd x = 34:=by
 have h:x = 34 ∨ x = 32 ∨ x = 8195:=h
 rcases h with rfl | rfl | rfl
 ·exact .inr rfl
 ·exact .inl rfl
 ·exact .inl rfl
theorem kd_2 {x:Nat} (h:okN 2 x):kd x = 10 ∨ kd x = 92:=by
 have h:x = 92 ∨ x = 10 ∨ x = 160:=h
 rcases h with rfl | rfl | rfl
 ·exact .inr rfl
 ·exact .inl rfl
 ·exact .inl rfl
theorem kd_n {k x:Nat} (h:okN k x) (h0:k ≠ 0) (h2:k ≠ 2):kd x = [32,23000,10,29000,9,35000].getD k 0:=by
 have:=ok_ne h
 simp only [kd_else (fun e=>h0 (this.2.1 e)) (fun e=>h2 (this.2.2.1 e)),cl_ok h]
theorem nm_map (H:Nms sz nm):nm = (List.range sz).map fun k=>nm.getD k 0:=by
 apply List.ext_getElem
 ·simp only [List.length_map,List.length_range,H.len]
 ·intro i h1 h2
  rw [List.getElem_map,List.getElem_range,List.getD_eq_getElem?_getD,List.getElem?_eq_getElem h1];rfl
theorem Nms.can (H:Nms sz nm):nm.map kd ∈ cans sz:=by
 have h4:4 < sz:=H.two.elim (fun e=>e ▸ by decide) fun e=>e ▸ by decide
 have h0:=kd_0 (H.ok 0 (Nat.lt_trans (by decide) h4))
 have h1:=kd_n (H.ok 1 (Nat.lt_trans (by decide) h4)) (by decide) (by decide)
 have h2:=kd_2 (H.ok 2 (Nat.lt_trans (by decide) h4))
 have h3:=kd_n (H.ok 3 (Nat.lt_trans (by decide) h4)) (by decide) (by decide)
 have h5:=kd_n (H.ok 4 h4) (by decide) (by decide)
 have mem:∀ a c:Nat,(a = 32 ∨ a = 34)→(c = 10 ∨ c = 92)→[a,23000,c,29000,9] ∈ cans 5 ∧ [a,23000,c,29000,9,35000] ∈ cans 6:=fun a c ha hc =>
  ha.elim (fun e=>e ▸ hc.elim (fun e=>e ▸ by decide) fun e=>e ▸ by decide) fun e=>e ▸ hc.elim (fun e=>e ▸ by decide) fun e=>e ▸ by decide
 have E:nm.map kd = (List.range sz).map fun k=>kd (nm.getD k 0):=by
  conv=>lhs;rw [nm_map H]
  simp only [List.map_map];rfl
 have M:=mem _ _ h0 h2
 simp only [E]
 cases H.two with
 | inl e =>
  subst e
  show [kd (nm.getD 0 0),kd (nm.getD 1 0),kd (nm.getD 2 0),kd (nm.getD 3 0),kd (nm.getD 4 0)] ∈ _
  simp only [h1,h3,h5];exact M.1
 | inr e =>
  subst e
  show [kd (nm.getD 0 0),kd (nm.getD 1 0),kd (nm.getD 2 0),kd (nm.getD 3 0),kd (nm.getD 4 0),kd (nm.getD 5 0)] ∈ _
  simp only [h1,h3,h5,kd_n (H.ok 5 (by decide)) (by decide) (by decide)];exact M.2
end
theorem hidGo_map (g:Nat→Nat) (h:g 34 = 34) (inn:Nat→Bool):∀ (us:List T) (k:Nat) (b:Bool),(hidGo inn k us b).map g = hidGo inn k (us.map (List.map g)) b
 | [],k,b=>by unfold hidGo;cases b <;> simp [hidGo,h]
 | u :: us,k,b=>by
  simp only [hidGo,List.map_cons,List.map_append]
  rw [hidGo_map g h inn us (k + 1)]
  split <;> simp [h]
theorem hidGo_congr {inn inn':Nat→Bool}:∀ {us:List T} {k:Nat} {b:Bool},(∀ i < us.length,inn (k + i) = inn' (k + i))→hidGo inn k us b = hidGo inn' k us b
 | [],_,_,_=>rfl
 | u :: us,k,b,h=>by
  have h0:=h 0 (by simp)
  rw [Nat.add_zero] at h0
  have ih:=hidGo_congr (inn:=inn) (inn':=inn') (us:=us) (k:=k + 1) (b:=inn' k) fun i hi=>by have:=h (i + 1) (Nat.succ_lt_succ hi);rwa [show k + (i + 1) = k + 1 + i by lia] at this
  simp only [hidGo]
  rw [h0,ih]
theorem hidGo_mem {inn:Nat→Bool}:∀ {us:List T} {k:Nat} {b:Bool} {c:Nat},c ∈ hidGo inn k us b→c = 34 ∨ ∃ u ∈ us,c ∈ u
 | [],k,b,c,h=>by unfold hidGo at h;split at h <;> simp at h;exact .inl h
 | u :: us,k,b,c,h=>by
  unfold hidGo at h
  rw [List.mem_append,List.mem_append] at h
  rcases h with (h | h) | h
  ·split at h <;> simp at h;exact .inl h
  ·exact .inr ⟨u,.head _,h⟩
  ·rcases hidGo_mem h with e | ⟨w,hw,hc⟩
   ·exact .inl e
   ·exact .inr ⟨w,.tail _ hw,hc⟩
theorem hidGo_none:∀ {us:List T} {k:Nat},hidGo (fun _=>false) k us false = us.flatten
 | [],_=>rfl
 | u :: us,k=>by simp only [hidGo,List.flatten_cons,if_true,List.nil_append];rw [hidGo_none]
theorem unit_map {k x:Nat} (h:okN k x):(unit x).map kd = unit (kd x):=by
 have hk:=kd_ok h
 unfold unit
 by_cases q:x = 34 ∨ x = 92
 ·rw [if_pos q,if_pos (q.imp hk.1.mpr hk.2.mpr)];rfl
 ·rw [if_neg q,if_neg fun e=>q (e.imp hk.1.mp hk.2.mp)];rfl
noncomputable def hidB (units:List T) (l:List Bool):T:=hid (fun k=>l.getD k false) units
theorem bits_get {sz k:Nat} {front:List Nat} (hk:k < sz):(bitsOf sz front).getD k false = front.contains k:=by
 unfold bitsOf
 simp only [List.getD_eq_getElem?_getD,List.getElem?_map,List.getElem?_range hk];rfl
theorem hid_bits {units:List T} {sz:Nat} {front:List Nat} (h:units.length = sz):hid (fun k=>front.contains k) units = hidB units (bitsOf sz front) :=
 hidGo_congr fun i hi=>by rw [Nat.zero_add,bits_get (by exact Nat.lt_of_lt_of_eq (by assumption) (by assumption))]
section
variable {sz:Nat} {nm:List Nat}
theorem Nms.units_map (H:Nms sz nm):(nm.map unit).map (List.map kd) = (nm.map kd).map unit:=by
 simp only [List.map_map,List.map_map]
 apply List.map_congr_left
 intro c hc
 refine (H.mem hc).elim fun k k0=>k0.elim fun _ k1=>k1.elim fun _ ok=>?_
 exact unit_map ok
theorem Nms.hid_map (H:Nms sz nm) (l:List Bool):(hidB (nm.map unit) l).map kd = hidB ((nm.map kd).map unit) l:=by
 delta hidB hid
 rw [hidGo_map kd rfl,H.units_map]
theorem unit_mem {c x:Nat} (h:x ∈ unit c):x = 92 ∨ x = c:=by
 unfold unit at h
 split at h <;> simp at h
 ·exact h
 ·exact .inr h
theorem hid_letters (l:List Bool):∀ c ∈ hidB (nm.map unit) l,c ∈ 34 :: 92 :: nm:=by
 intro c hc
 rcases hidGo_mem hc with rfl | ⟨u,hu,hc⟩
 ·exact .head _
 ·obtain ⟨x,hx,rfl⟩:=List.mem_map.mp hu
  rcases unit_mem hc with rfl | rfl
  ·exact .tail _ (.head _)
  ·exact .tail _ (.tail _ hx)
theorem Nms.flat_map (H:Nms sz nm):((nm.map unit).flatten).map kd = ((nm.map kd).map unit).flatten:=by
 simp only [List.map_flatten,H.units_map]
theorem flat_letters:∀ c ∈ (nm.map unit).flatten,c ∈ 34 :: 92 :: nm:=by
 intro c hc
 obtain ⟨u,hu,hc⟩:=List.mem_flatten.mp hc
 obtain ⟨x,hx,rfl⟩:=List.mem_map.mp hu
 rcases unit_mem hc with rfl | rfl
 ·exact .tail _ (.head _)
 ·exact .tail _ (.tail _ hx)
end
noncomputable def allB:Nat→List (List Bool)
 | 0=>[[]]
 | n + 1=>(allB n).flatMap fun l=>[false :: l,true :: l]
theorem mem_allB:∀ {n:Nat} {l:List Bool},l.length = n→l ∈ allB n
 | 0,l,h=>by simp only [List.length_eq_zero_iff.mp h];exact .head _
 | n + 1,b :: l,h=>by
  refine List.mem_flatMap.mpr ⟨l,mem_allB (by simpa using h),?_⟩
  cases b <;> simp
theorem bits_len {sz:Nat} {front:List Nat}:(bitsOf sz front).length = sz:=by simp [bitsOf]
noncomputable def toldOk (sz:Nat):Bool:=(cans sz).all fun can=>(allB sz).all fun l=>levN 4 (can.map unit).flatten (hidB (can.map unit) l) == min (4 * runsB false l) 5
noncomputable def stepOk (sz:Nat):Bool:=(cans sz).all fun can=>(allB sz).all fun l=>(List.range sz).all fun k=>l.getD k false || levN 9 (hidB (can.map unit) l) (hidB (can.map unit) (l.set k true)) == 4
noncomputable def restB (units:List T) (sz:Nat) (l:List Bool):T:=(((List.range sz).filter fun k=>!l.getD k false).map fun k=>units.getD k []).flatten
noncomputable def stripOk (sz:Nat):Bool:=(cans sz).all fun can=>(allB sz).all fun l=>strip (hidB (can.map unit) l) == restB (can.map unit) sz l
theorem told5:toldOk 5 = true:=by decide +kernel
theorem told6:toldOk 6 = true:=by decide +kernel
theorem step5:stepOk 5 = true:=by decide +kernel
theorem step6:stepOk 6 = true:=by decide +kernel
theorem strip5:stripOk 5 = true:=by decide +kernel
theorem strip6:stripOk 6 = true:=by decide +kernel
section
variable {sz:Nat} {nm:List Nat}
theorem Nms.told (H:Nms sz nm) {l:List Bool} (hl:l.length = sz):lev 4 (nm.map unit).flatten (hidB (nm.map unit) l) = ((min (4 * runsB false l) 5:Nat):Int):=by
 have e:toldOk sz = true:=by rcases H.two with rfl | rfl;exact told5;exact told6
 have:=lev_N (m:=4) H.keep flat_letters (hid_letters l)
 rw [H.flat_map,H.hid_map] at this
 refine this.trans (congrArg _ ?_)
 exact beq_iff_eq.mp (List.all_eq_true.mp (List.all_eq_true.mp e _ H.can) l (mem_allB hl))
theorem Nms.step (H:Nms sz nm) {l:List Bool} {k:Nat} (hl:l.length = sz) (hk:k < sz) (h0:l.getD k false = false):lev 9 (hidB (nm.map unit) l) (hidB (nm.map unit) (l.set k true)) = 4:=by
 have e:stepOk sz = true:=by rcases H.two with rfl | rfl;exact step5;exact step6
 have:=lev_N (m:=9) H.keep (hid_letters (nm:=nm) l) (hid_letters (nm:=nm) (l.set k true))
 rw [H.hid_map,H.hid_map] at this
 refine this.trans ?_
 have h:=List.all_eq_true.mp (List.all_eq_true.mp (List.all_eq_true.mp e _ H.can) l (mem_allB hl)) k (List.mem_range.mpr hk)
 rw [h0,Bool.false_or] at h
 rw [beq_iff_eq.mp h];rfl
theorem cut_mem {α:Type} {l:List α} {a b:Option Int} {c:α} (h:c ∈ cut l a b):c ∈ l:=List.mem_of_mem_drop (List.mem_of_mem_take h)
theorem strGo_mem {addr:T}:∀ {es:List (Int × T)} {s:Int} {o:Option Int} {acc:List T},(∀ w ∈ acc,∀ c ∈ w,c ∈ addr)→∀ w ∈ (strGo addr es s o acc).2,∀ c ∈ w,c ∈ addr
 | [],s,o,acc,h=>h
 | (p,c) :: r,s,o,acc,h=>by
  unfold strGo
  split
  ·cases o with
   | none=>exact strGo_mem (es:=r) h
   | some q =>
    refine strGo_mem (es:=r) ?_
    split
    ·intro w hw
     refine Or.elim (List.mem_append.mp hw) (fun hw=>?_) (fun hw=>?_)
     ·exact h w hw
     ·simp at hw;subst hw;exact fun c hc=>cut_mem hc
    ·exact h
  ·exact strGo_mem (es:=r) h
theorem strip_mem {addr:T}:∀ c ∈ strip addr,c ∈ addr:=by
 intro c hc
 unfold strip at hc
 split at hc
 ·dsimp only at hc
  obtain ⟨w,hw,hc⟩:=List.mem_flatten.mp hc
  have hm:=strGo_mem (addr:=addr) (es:=escP 0 false addr) (s:=0) (o:=none) (acc:=[]) (fun w hw=>nomatch hw)
  split at hw
  ·refine Or.elim (List.mem_append.mp hw) (fun hw=>?_) (fun hw=>?_)
   ·exact hm w hw c hc
   ·simp at hw;subst hw;exact cut_mem hc
  ·exact hm w hw c hc
 ·exact hc
section
variable {f:Nat→Nat}
theorem has_map {a:T} (h:∀ c ∈ a,(f c = 34 ↔ c = 34)):hasT [34] (a.map f) = hasT [34] a:=by
 have key:∀ (a:T) (k:Nat),(∀ c ∈ a,(f c = 34 ↔ c = 34))→findGo [34] (a.map f) k = findGo [34] a k:=by
  intro a
  induction a with
  | nil=>intro k _;rfl
  | cons c r ih =>
   intro k h
   have hc:=h c (.head _)
   have e:([34].isPrefixOf (f c :: r.map f)) = ([34].isPrefixOf (c :: r)):=by
    simp only [List.isPrefixOf,Bool.and_true]
    rw [Bool.eq_iff_iff,beq_iff_eq,beq_iff_eq]
    exact ⟨fun e=>(hc.mp e.symm).symm,fun e=>(hc.mpr e.symm).symm⟩
   simp only [List.map_cons,findGo]
   simp only [e,ih (k + 1) fun d hd=>h d (.tail _ hd)]
 unfold hasT
 simp only [key a 0 h]
theorem escP_map (h92:f 92 = 92):∀ {a:T} {k:Int} {e:Bool},(∀ c ∈ a,(f c = 92 ↔ c = 92))→escP k e (a.map f) = (escP k e a).map fun p=>(p.1,p.2.map f)
 | [],k,e,_=>by cases e <;> simp [escP,h92]
 | c :: r,k,true,h=>by
  simp only [List.map_cons,escP]
  simp only [escP_map h92 fun d hd=>h d (.tail _ hd)]
  simp [h92]
 | c :: r,k,false,h=>by
  have hc:=h c (.head _)
  simp only [List.map_cons,escP]
  have e:(f c == 92) = (c == 92):=by rw [Bool.eq_iff_iff,beq_iff_eq,beq_iff_eq];exact hc
  rw [e]
  split
  ·exact escP_map h92 fun d hd=>h d (.tail _ hd)
  ·simp only [escP_map h92 fun d hd=>h d (.tail _ hd)];simp
theorem escP_form:∀ {a:T} {k:Int} {e:Bool} {p:Int × T},p ∈ escP k e a→(∃ x ∈ a,p.2 = [x]) ∨ p.2 = [92] ∨ ∃ x,p.2 = [92,x]
 | [],k,e,p,h=>by cases e <;> simp [escP] at h;subst h;exact .inr (.inl rfl)
 | c :: r,k,true,p,h=>by
  simp only [escP,List.mem_cons] at h
  rcases h with rfl | h
  ·exact .inr (.inr ⟨c,rfl⟩)
  ·exact (escP_form h).imp (fun ⟨x,hx,e⟩=>⟨x,.tail _ hx,e⟩) id
 | c :: r,k,false,p,h=>by
  simp only [escP] at h
  split at h
  ·exact (escP_form h).imp (fun ⟨x,hx,e⟩=>⟨x,.tail _ hx,e⟩) id
  ·rcases List.mem_cons.mp h with rfl | h
   ·exact .inl ⟨c,.head _,rfl⟩
   ·exact (escP_form h).imp (fun ⟨x,hx,e⟩=>⟨x,.tail _ hx,e⟩) id
theorem strGo_map {a:T}:∀ {es:List (Int × T)} {s:Int} {o:Option Int} {acc:List T},(∀ p ∈ es,(p.2.map f = [34] ↔ p.2 = [34])) →
  strGo (a.map f) (es.map fun p=>(p.1,p.2.map f)) s o (acc.map (List.map f)) = ((strGo a es s o acc).1,(strGo a es s o acc).2.map (List.map f))
 | [],s,o,acc,_=>rfl
 | (p,c) :: r,s,o,acc,h=>by
  have hc:=h (p,c) (.head _)
  dsimp only at hc
  have hr:=fun q hq=>h q (.tail _ hq)
  simp only [List.map_cons,strGo]
  by_cases q:c = [34]
  ·rw [if_pos q,if_pos (hc.mpr q)]
   cases o with
   | none=>exact strGo_map hr
   | some w =>
    dsimp only
    simp only [← strGo_map hr]
    congr 1
    split
    ·simp only [List.map_append,cut_map];rfl
    ·rfl
  ·rw [if_neg q,if_neg fun e=>q (hc.mp e)]
   exact strGo_map hr
theorem strip_map {a:T} (h92:f 92 = 92) (h:∀ c ∈ a,(f c = 34 ↔ c = 34) ∧ (f c = 92 ↔ c = 92)):strip (a.map f) = (strip a).map f:=by
 unfold strip
 rw [has_map fun c hc=>(h c hc).1]
 split
 ·dsimp only
  rw [escP_map h92 fun c hc=>(h c hc).2]
  have:=strGo_map (f:=f) (a:=a) (es:=escP 0 false a) (s:=0) (o:=none) (acc:=[]) (fun p hp=>by
   rcases escP_form hp with ⟨x,hx,e⟩ | e | ⟨x,e⟩ <;> rw [e]
   ·simpa using (h x hx).1
   ·simp [h92]
   ·simp)
  rw [List.map_nil] at this
  rw [this]
  dsimp only
  rw [List.length_map]
  split
  ·simp only [List.map_flatten,List.map_append,cut_map];rfl
  ·simp only [List.map_flatten]
 ·rfl
end
theorem restB_map (g:Nat→Nat) (us:List T) (l:List Bool):(restB us sz l).map g = restB (us.map (List.map g)) sz l:=by
 unfold restB
 simp only [List.map_flatten,List.map_map]
 congr 1
 apply List.map_congr_left
 intro k _
 show (us.getD k []).map g = (us.map (List.map g)).getD k []
 simp only [List.getD_eq_getElem?_getD,List.getD_eq_getElem?_getD,List.getElem?_map]
 cases us[k]? <;> rfl
theorem restB_mem {us:List T} {l:List Bool} {c:Nat} (h:c ∈ restB us sz l):∃ u ∈ us,c ∈ u:=by
 unfold restB at h
 obtain ⟨u,hu,hc⟩:=List.mem_flatten.mp h
 obtain ⟨k,_,rfl⟩:=List.mem_map.mp hu
 rw [List.getD_eq_getElem?_getD] at hc
 cases e:us[k]? with
 | none=>rw [e] at hc;cases hc
 | some u=>rw [e] at hc;exact ⟨u,List.mem_of_getElem? e,hc⟩
theorem Nms.strip (H:Nms sz nm) {l:List Bool} (hl:l.length = sz):strip (hidB (nm.map unit) l) = restB (nm.map unit) sz l:=by
 have e:stripOk sz = true:=by rcases H.two with rfl | rfl;exact strip5;exact strip6
 have h:=beq_iff_eq.mp (List.all_eq_true.mp (List.all_eq_true.mp e _ H.can) l (mem_allB hl))
 rw [← H.hid_map,← H.units_map,← restB_map,strip_map rfl] at h
 ·refine map_inj H.keep (fun c hc=>hid_letters l c (strip_mem c hc)) (fun c hc=>?_) h
  refine Classical.byContradiction fun hcon=>?_
  refine (restB_mem hc).elim fun u k0=>k0.elim fun hu hc=>?_
  refine hcon ?_
  exact flat_letters c (List.mem_flatten.mpr ⟨u,hu,hc⟩)
 ·intro c hc
  rcases List.mem_cons.mp (hid_letters l c hc) with rfl | hc
  ·exact ⟨⟨fun _=>rfl,fun _=>rfl⟩,⟨fun e=>(by cases e),fun e=>(by cases e)⟩⟩
  ·rcases List.mem_cons.mp hc with rfl | hc
   ·exact ⟨⟨fun e=>(by cases e),fun e=>(by cases e)⟩,⟨fun _=>rfl,fun _=>rfl⟩⟩
   ·refine Classical.byContradiction fun hcon=>?_
    refine (H.mem hc).elim fun k k0=>k0.elim fun _ k1=>k1.elim fun _ ok=>?_
    refine hcon ?_
    exact kd_ok ok
end
noncomputable def bJ0:S:=(.asg 24 (.slc (.var 11) (.cst .none) (.var 23)))
noncomputable def bJ1:S:=(.asg 25 (.call (.user 8) (.cons (.var 19) (.cons (.var 24) .nil))))
noncomputable def bJ2:S:=(.asg 26 (.call (.user 1) (.cons (.var 20) (.cons (.var 25) (.cons (.cst (.int 4)) .nil)))))
noncomputable def bJ3:S:=(.ite (.cmp .ne (.var 26) (.call .min (.cons (.bin .mul (.cst (.int 4)) (.call .len (.cons (.comp [35,36] (.gen (.var 24) (.one 36) (.cmp .notin (.bin .sub (.var 36) (.cst (.int 1))) (.var 24)) (.emit (.var 36)))) .nil))) (.cons (.cst (.int 5)) .nil)))) (.seq (.ret (.cst (.bool false))) .skip) .skip)
noncomputable def bJ4:S:=(.ite (.cmp .ne (.call (.user 1) (.cons (.var 22) (.cons (.var 25) (.cons (.cst (.int 9)) .nil)))) (.cst (.int 4))) (.seq (.ret (.cst (.bool false))) .skip) .skip)
noncomputable def bJ5:S:=(.ite (.cmp .ne (.call (.user 3) (.cons (.var 25) .nil)) (.meth .join (.cst (.str [])) (.cons (.comp [35,36] (.gen (.call .range (.cons (.var 2) .nil)) (.one 36) (.cmp .notin (.var 36) (.var 24)) (.emit (.idx (.var 19) (.var 36))))) .nil))) (.seq (.ret (.cst (.bool false))) .skip) .skip)
noncomputable def bJ6:S:=(.tasg [27,28] (.tupl (.cons (.slc (.var 21) (.cst .none) (.var 23)) (.cons (.slc (.var 21) (.var 23) (.cst .none)) .nil))))
noncomputable def bJ7:S:=(.asg 29 (.lst (.cons (.bin .add (.bin .add (.var 27) (.cst (.str [46,46,46]))) (.var 28)) (.cons (.bin .add (.bin .add (.var 27) (.cst (.str [46,46,46]))) (.slc (.var 21) (.bin .sub (.var 23) (.cst (.int 1))) (.cst .none))) (.cons (.bin .add (.cst (.str [46,46,46])) (.var 27)) (.cons (.bin .add (.var 28) (.cst (.str [46,46,46]))) .nil))))))
noncomputable def bJ8:S:=(.ite (.cmp .ne (.comp [35,36] (.gen (.var 29) (.one 36) (.cst (.bool true)) (.emit (.call (.user 2) (.cons (.var 36) (.cons (.var 21) .nil)))))) (.lst (.cons (.cst (.bool true)) (.cons (.cst (.bool false)) (.cons (.cst (.bool false)) (.cons (.cst (.bool false)) .nil)))))) (.seq (.ret (.cst (.bool false))) .skip) .skip)
noncomputable def bJ9:S:=(.asg 22 (.var 25))
noncomputable def bJT9:S:=.seq bJ9 .skip
noncomputable def bJT8:S:=.seq bJ8 bJT9
noncomputable def bJT7:S:=.seq bJ7 bJT8
noncomputable def bJT6:S:=.seq bJ6 bJT7
noncomputable def bJT5:S:=.seq bJ5 bJT6
noncomputable def bJT4:S:=.seq bJ4 bJT5
noncomputable def bJT3:S:=.seq bJ3 bJT4
noncomputable def bJT2:S:=.seq bJ2 bJT3
noncomputable def bJT1:S:=.seq bJ1 bJT2
noncomputable def bJT0:S:=.seq bJ0 bJT1
noncomputable def wordOf (nm ord:List Nat):T:=ord.map fun k=>nm.getD k 0
noncomputable abbrev wF (y:Nat→Option V) (sz:Nat) (nm ord:List Nat) (x19 x20 x21 x22 x23 x24 x25 x26 x27 x28 x29 x30 x31 x32 x33 x34 x36 x37 x39:Option V) (mu:List Mo):St :=
 ⟨[y 0,y 1,some (iv sz),some (.list (nm.map sv)),y 4,y 5,y 6,y 7,y 8,y 9,y 10,some (.list (ord.map iv)),y 12,y 13,y 14,y 15,y 16,y 17,y 18,x19,x20,x21,x22,x23,x24,x25,x26,x27,x28,x29,x30,x31,x32,x33,x34,none,x36,x37,none,x39,none,none,none,none,none,none,none],mu⟩
noncomputable abbrev wJ (y:Nat→Option V) (sz:Nat) (nm ord:List Nat) (x22 x23 x24 x25 x26 x27 x28 x29:Option V) (mu:List Mo):St :=
 wF y sz nm ord (some (.list ((nm.map unit).map .str))) (some (.str (nm.map unit).flatten)) (some (.str (wordOf nm ord))) x22 x23 x24 x25 x26 x27 x28 x29 none none none none none none none none mu
noncomputable abbrev nowV (sz:Nat) (nm ord:List Nat) (j:Nat):Option V:=some (.str (hidB (nm.map unit) (bitsOf sz (ord.take j))))
noncomputable abbrev tdV (sz:Nat) (ord:List Nat) (j:Nat):Option V:=some (.int (min (4 * runsB false (bitsOf sz (ord.take j))) 5:Nat))
noncomputable abbrev tkV (nm ord:List Nat) (j:Nat):Option V:=some (.str ((wordOf nm ord).take j))
noncomputable abbrev dpV (nm ord:List Nat) (j:Nat):Option V:=some (.str ((wordOf nm ord).drop j))
noncomputable abbrev wantsV (nm ord:List Nat) (j:Nat):List V:=[.str ((wordOf nm ord).take j ++ dots ++ (wordOf nm ord).drop j),.str ((wordOf nm ord).take j ++ dots ++ (wordOf nm ord).drop (j - 1)),.str (dots ++ (wordOf nm ord).take j),.str ((wordOf nm ord).drop j ++ dots)]
structure Ord (sz:Nat) (ord:List Nat):Prop where
 two:sz = 5 ∨ sz = 6
 perm:ord.Perm (List.range sz)
section
variable {sz:Nat} {nm ord:List Nat}
theorem Ord.len (O:Ord sz ord):ord.length = sz:=by simp only [O.perm.length_eq,List.length_range]
theorem Ord.nodup (O:Ord sz ord):ord.Nodup:=O.perm.nodup_iff.mpr List.nodup_range
theorem Ord.lt (O:Ord sz ord) {k:Nat} (h:k ∈ ord):k < sz:=List.mem_range.mp (O.perm.subset h)
theorem Ord.ok (O:Ord sz ord):(((List.range sz).all fun j=>((ord.take j).filter fun k=>!prevIn (ord.take j) k).length == runsB false (bitsOf sz (ord.take j))) &&
 cutsOf sz ord == (if (blkL sz ord).all id then [ord.getD 0 0,ord.getD 0 0 + 1] else [])) = true:=by
 have e:ordOk sz = true:=by rcases O.two with rfl | rfl;exact ord5;exact ord6
 exact List.all_eq_true.mp e ord (mem_perms O.perm)
theorem Ord.runs (O:Ord sz ord) {j:Nat} (hj:j < sz):((ord.take j).filter fun k=>!prevIn (ord.take j) k).length = runsB false (bitsOf sz (ord.take j)) :=
 beq_iff_eq.mp (List.all_eq_true.mp (Bool.and_eq_true_iff.mp O.ok).1 j (List.mem_range.mpr hj))
theorem Ord.cuts (O:Ord sz ord):cutsOf sz ord = if (blkL sz ord).all id then [ord.getD 0 0,ord.getD 0 0 + 1] else []:=beq_iff_eq.mp (Bool.and_eq_true_iff.mp O.ok).2
theorem Ord.next (O:Ord sz ord) {i:Nat} (hi:i < sz):ord.getD i 0 < sz ∧ (bitsOf sz (ord.take i)).getD (ord.getD i 0) false = false ∧ bitsOf sz (ord.take (i + 1)) = (bitsOf sz (ord.take i)).set (ord.getD i 0) true:=by
 have hil:i < ord.length:=by simp only [O.len];exact hi
 have hg:ord.getD i 0 = ord[i]:=by simp only [List.getD_eq_getElem?_getD,List.getElem?_eq_getElem hil];rfl
 have hlt:ord.getD i 0 < sz:=O.lt (by simp only [hg];exact List.getElem_mem hil)
 have htake:ord.take (i + 1) = ord.take i ++ [ord.getD i 0]:=by simp only [List.take_succ,List.getElem?_eq_getElem hil,hg];rfl
 refine ⟨hlt,?_,?_⟩
 ·rw [bits_get hlt,Bool.eq_false_iff,Ne,List.contains_iff_mem,hg]
  intro hm
  have hn:=O.nodup
  rw [← List.take_append_drop i ord,List.nodup_append] at hn
  exact hn.2.2 _ hm _ (by simp only [List.drop_eq_getElem_cons hil];exact .head _) rfl
 ·apply List.ext_getElem
  ·simp only [List.length_set,bits_len,bits_len]
  ·intro k h1 h2
   rw [List.getElem_set]
   simp only [bitsOf,List.getElem_map,List.getElem_range]
   rw [htake,Bool.eq_iff_iff]
   by_cases q:ord.getD i 0 = k
   ·rw [if_pos q,List.contains_iff_mem]
    exact ⟨fun _=>rfl,fun _=>List.mem_append.mpr (.inr (by rw [q];exact .head _))⟩
   ·rw [if_neg q,List.contains_iff_mem,List.contains_iff_mem,List.mem_append]
    refine ⟨fun h=>h.elim id fun h=>(q (by rw [List.mem_singleton] at h;exact h.symm)).elim,.inl⟩
theorem word_len (O:Ord sz ord):(wordOf nm ord).length = sz:=by unfold wordOf;simp only [List.length_map,O.len]
theorem word_46 (H:Nms sz nm) (O:Ord sz ord):∀ c ∈ wordOf nm ord,c ≠ 46:=by
 intro c hc
 obtain ⟨k,hk,rfl⟩:=List.mem_map.mp hc
 exact (ok_ne (H.ok k (O.lt hk))).1
theorem word_nodup (H:Nms sz nm) (O:Ord sz ord):(wordOf nm ord).Nodup:=by
 unfold wordOf
 rw [List.Nodup,List.pairwise_map]
 exact List.Pairwise.imp_of_mem (fun ha hb h e=>h (H.inj (O.lt ha) (O.lt hb) e)) O.nodup
theorem memb_int (i:Int) (l:List Nat):memb (.int i) (l.map iv) = some (l.any fun y=>(y:Int) == i):=by
 unfold memb
 have h1:V.plain 4 (.int i) = true:=rfl
 have h2:V.plain 4 (.list (l.map iv)) = true:=by
  show (l.map iv).all (V.plain 3) = true
  rw [List.all_eq_true]
  intro x hx
  obtain ⟨y,_,rfl⟩:=List.mem_map.mp hx
  rfl
 simp only [h1,h2]
 simp only [Bool.and_self,if_true]
 simp only [List.any_map]
 rfl
theorem memb_prev (k:Nat) (l:List Nat):memb (.int ((k:Int) - 1)) (l.map iv) = some (prevIn l k):=by
 rw [memb_int]
 congr 1
 rw [Bool.eq_iff_iff,List.any_eq_true]
 cases k with
 | zero =>
  constructor
  ·rintro ⟨x,_,h⟩
   rw [beq_iff_eq] at h
   lia
  ·intro h;cases h
 | succ k =>
  show _ ↔ l.contains k = true
  simp only [List.contains_iff_mem]
  constructor
  ·rintro ⟨x,hx,h⟩
   rw [beq_iff_eq] at h
   have:x = k:=by lia
   exact this ▸ hx
  ·intro h
   exact ⟨k,h,by simp only [beq_iff_eq];lia⟩
theorem filter_iv (l:List Nat) (p:V→Bool) (q:Nat→Bool) (h:∀ k,p (iv k) = q k):(l.map iv).filter p = (l.filter q).map iv:=by
 rw [List.filter_map]
 congr 1
 exact List.filter_congr fun k _=>h k
theorem join_ok {l:List T} (hl:l.length ≤ 100) (hw:∀ w ∈ l,w.length ≤ 100):meth .join (.str []) [.list (l.map .str)] = some (.str l.flatten):=by
 have h1:=sum_le hw
 have h2:l.length * 100 ≤ 100 * 100:=Nat.mul_le_mul_right _ hl
 exact join_nil (by exact Nat.le_trans (by assumption) (Nat.le_trans (by assumption) (by decide)))
theorem hidB_len (l:List Bool) (h:nm.length ≤ 6):(hidB (nm.map unit) l).length ≤ 19:=by
 have:=hid_len (inn:=fun k=>l.getD k false) (k:=0) (b:=false) (l:=nm.map unit) fun u hu=>by
  obtain ⟨c,_,rfl⟩:=List.mem_map.mp hu;exact unit_len c
 rw [List.length_map] at this
 delta hidB hid
 lia
theorem flat_len (h:nm.length ≤ 6):((nm.map unit).flatten).length ≤ 12:=by
 have:∀ l:List Nat,((l.map unit).flatten).length ≤ 2 * l.length:=by
  intro l
  induction l with
  | nil=>simp
  | cons a l ih =>
   have:=unit_len a
   simp only [List.map_cons,List.flatten_cons,List.length_append,List.length_cons];lia
 have:=this nm
 lia
theorem cop_ne_int (a:Int):cop .ne (.int a) (.int a) = some false:=by
 show (some (a == a)).map (fun b:Bool=>!b) = _
 rw [beq_self_eq_true];rfl
end
section
variable {C:Con} {N:Nat} {y:Nat→Option V} {sz:Nat} {nm ord:List Nat} {mu:List Mo} {x24 x25 x26 x27 x28 x29:Option V} {j:Nat}
theorem j_told (H:Nms sz nm) (O:Ord sz ord) (h1:1 ≤ j) (h2:j < sz) :
  ex C N bJT3 (wJ y sz nm ord (nowV sz nm ord (j - 1)) (some (iv j)) (some (.list ((ord.take j).map iv))) (nowV sz nm ord j) (tdV sz ord j) x27 x28 x29 mu) = ex C N bJT4 (wJ y sz nm ord (nowV sz nm ord (j - 1)) (some (iv j)) (some (.list ((ord.take j).map iv))) (nowV sz nm ord j) (tdV sz ord j) x27 x28 x29 mu):=by
 unfold bJT3
 refine ex_seq (ex_if_f ?_)
 have hl:(ord.take j).length ≤ 6:=by simp only [List.length_take,O.len];have:=O.two;exact le_min2 (by lia)
 have hc:=ev_comp (C:=C) (st:=(wJ y sz nm ord (nowV sz nm ord (j - 1)) (some (iv j)) (some (.list ((ord.take j).map iv))) (nowV sz nm ord j) (tdV sz ord j) x27 x28 x29 mu)) (st₁:=(wJ y sz nm ord (nowV sz nm ord (j - 1)) (some (iv j)) (some (.list ((ord.take j).map iv))) (nowV sz nm ord j) (tdV sz ord j) x27 x28 x29 mu))
  (it:=.var 24) (ifs:=.cmp .notin (.bin .sub (.var 36) (.cst (.int 1))) (.var 24)) (e:=.var 36) (i:=36) (own:=[35,36]) (l:=(ord.take j).map iv) (u:=.list ((ord.take j).map iv))
  (fun v=>match v with | .int k=>!prevIn (ord.take j) k.toNat | _=>true) id (ev_var rfl) rfl (fun v hv=>by
   obtain ⟨k,_,rfl⟩:=List.mem_map.mp hv
   refine evT_cmp (ev_bin (ev_var rfl) ev_cst rfl) (ev_var rfl) ?_
   show (memb (.int ((k:Int) - 1)) ((ord.take j).map iv)).map (fun b:Bool=>!b) = _
   rw [memb_prev];rfl) (fun v hv _=>ev_var rfl) rfl (fun _=>rfl) (by rw [List.length_map];exact Nat.le_trans (by assumption) (by decide))
 rw [List.map_id,filter_iv (ord.take j) _ (fun k=>!prevIn (ord.take j) k) (fun _=>rfl)] at hc
 have hlen:fn C .len [.list (((ord.take j).filter fun k=>!prevIn (ord.take j) k).map iv)] = some (iv (runsB false (bitsOf sz (ord.take j)))):=by
  show some (V.int (((((ord.take j).filter fun k=>!prevIn (ord.take j) k).map iv).length:Nat):Int)) = _
  rw [List.length_map,O.runs h2]
 have hr:runsB false (bitsOf sz (ord.take j)) ≤ 6:=by
  rw [← O.runs h2];exact Nat.le_trans (List.length_filter_le ..) hl
 refine evT_cmp (ev_var rfl) (ev_call (ev_cons (ev_bin ev_cst (ev_call (ev_one hc) hlen) (bop_mul 4 _ (by decide) (by exact Nat.le_trans (by assumption) (by decide)))) (ev_one ev_cst)) (w:=.int (min (4 * runsB false (bitsOf sz (ord.take j))) 5:Nat)) ?_) (cop_ne_int _)
 show some (V.int (if (5:Int) < ((4 * runsB false (bitsOf sz (ord.take j)):Nat):Int) then 5 else ((4 * runsB false (bitsOf sz (ord.take j)):Nat):Int))) = _
 congr 2
 by_cases q:5 < 4 * runsB false (bitsOf sz (ord.take j))
 ·rw [if_pos (by exact Int.ofNat_lt.mpr (by assumption)),Nat.min_eq_right (by exact Nat.le_of_lt (by assumption))];rfl
 ·rw [if_neg (by lia),Nat.min_eq_left (by exact Nat.not_lt.mp (by assumption))]
theorem j_0 (H:Nms sz nm) (O:Ord sz ord) (K:Con1 C) (h1:1 ≤ j) (h2:j < sz) :
  ex C N bJT0 (wJ y sz nm ord (nowV sz nm ord (j - 1)) (some (iv j)) x24 x25 x26 x27 x28 x29 mu) = ex C N bJT3 (wJ y sz nm ord (nowV sz nm ord (j - 1)) (some (iv j)) (some (.list ((ord.take j).map iv))) (nowV sz nm ord j) (tdV sz ord j) x27 x28 x29 mu):=by
 have hs:nm.length ≤ 6:=by rw [H.len];have:=H.two;lia
 have c0:cut (ord.map iv) none (some (j:Int)) = (ord.take j).map iv:=by simp only [cut_upto,List.map_take]
 have s0:ev C (.slc (.var 11) (.cst .none) (.var 23)) (wJ y sz nm ord (nowV sz nm ord (j - 1)) (some (iv j)) x24 x25 x26 x27 x28 x29 mu) = some (.list ((ord.take j).map iv),(wJ y sz nm ord (nowV sz nm ord (j - 1)) (some (iv j)) x24 x25 x26 x27 x28 x29 mu)):=by
  rw [← c0];exact ev_slc_l (ev_var rfl) ev_cst (ev_var rfl) rfl rfl rfl
 unfold bJT0
 refine (ex_seq (ex_asg s0)).trans ?_
 ·unfold bJT1
  have hh:=K.hid (nm.map unit) (ord.take j) (fun u hu=>by obtain ⟨c,_,rfl⟩:=List.mem_map.mp hu;exact unit_len c) (by rw [List.length_map];exact hs)
  rw [hid_bits (by rw [List.length_map,H.len])] at hh
  refine (ex_seq (ex_asg (v:=.str (hidB (nm.map unit) (bitsOf sz (ord.take j)))) (ev_call (f:=.user 8) (vs:=[.list ((nm.map unit).map .str),.list ((ord.take j).map iv)]) (ev_cons (ev_var rfl) (ev_one (ev_var rfl))) hh))).trans ?_
  unfold bJT2
  have hl:=K.lev (nm.map unit).flatten (hidB (nm.map unit) (bitsOf sz (ord.take j))) 4 (by have:=flat_len hs;exact Nat.le_trans (by assumption) (by decide)) (by have:=hidB_len (nm:=nm) (bitsOf sz (ord.take j)) hs;exact Nat.le_trans (by assumption) (by decide))
  rw [H.told bits_len] at hl
  exact ex_seq (ex_asg (ev_call (f:=.user 1) (vs:=[.str (nm.map unit).flatten,.str (hidB (nm.map unit) (bitsOf sz (ord.take j))),.int 4]) (ev_cons (ev_var rfl) (ev_cons (ev_var rfl) (ev_one ev_cst))) hl))
theorem j_step (H:Nms sz nm) (O:Ord sz ord) (K:Con1 C) (h1:1 ≤ j) (h2:j < sz) :
  ex C N bJT4 (wJ y sz nm ord (nowV sz nm ord (j - 1)) (some (iv j)) (some (.list ((ord.take j).map iv))) (nowV sz nm ord j) x26 x27 x28 x29 mu) = ex C N bJT6 (wJ y sz nm ord (nowV sz nm ord (j - 1)) (some (iv j)) (some (.list ((ord.take j).map iv))) (nowV sz nm ord j) x26 x27 x28 x29 mu):=by
 have hs:nm.length ≤ 6:=by simp only [H.len];have:=H.two;lia
 refine Classical.byContradiction fun hcon=>?_
 refine (O.next (i:=j - 1) (by exact Nat.lt_of_le_of_lt (Nat.sub_le _ _) (by assumption))).elim fun n1 k0=>k0.elim fun n2 n3=>?_
 refine hcon ?_
 rw [show j - 1 + 1 = j by lia] at n3
 have hl:=K.lev (hidB (nm.map unit) (bitsOf sz (ord.take (j - 1)))) (hidB (nm.map unit) (bitsOf sz (ord.take j))) 9 (by have:=hidB_len (nm:=nm) (bitsOf sz (ord.take (j - 1))) hs;exact Nat.le_trans (by assumption) (by decide)) (by have:=hidB_len (nm:=nm) (bitsOf sz (ord.take j)) hs;exact Nat.le_trans (by assumption) (by decide))
 rw [show lev 9 (hidB (nm.map unit) (bitsOf sz (ord.take (j - 1)))) (hidB (nm.map unit) (bitsOf sz (ord.take j))) = 4 by simp only [n3];exact H.step bits_len n1 n2] at hl
 unfold bJT4
 refine (ex_seq (ex_if_f (evT_cmp (ev_call (f:=.user 1) (vs:=[.str (hidB (nm.map unit) (bitsOf sz (ord.take (j - 1)))),.str (hidB (nm.map unit) (bitsOf sz (ord.take j))),.int 9]) (ev_cons (ev_var rfl) (ev_cons (ev_var rfl) (ev_one ev_cst))) hl) ev_cst (cop_ne_int 4)))).trans ?_
 unfold bJT5
 have hst:=K.strip (hidB (nm.map unit) (bitsOf sz (ord.take j))) (by have:=hidB_len (nm:=nm) (bitsOf sz (ord.take j)) hs;exact Nat.le_trans (by assumption) (by decide))
 rw [H.strip bits_len] at hst
 have hc:=ev_comp (C:=C) (st:=(wJ y sz nm ord (nowV sz nm ord (j - 1)) (some (iv j)) (some (.list ((ord.take j).map iv))) (nowV sz nm ord j) x26 x27 x28 x29 mu)) (st₁:=(wJ y sz nm ord (nowV sz nm ord (j - 1)) (some (iv j)) (some (.list ((ord.take j).map iv))) (nowV sz nm ord j) x26 x27 x28 x29 mu))
  (it:=.call .range (.cons (.var 2) .nil)) (ifs:=.cmp .notin (.var 36) (.var 24)) (e:=.idx (.var 19) (.var 36)) (i:=36) (own:=[35,36]) (l:=(List.range sz).map iv) (u:=.rng 0 sz 1)
  (fun v=>match v with | .int k=>!(ord.take j).contains k.toNat | _=>true) (fun v=>match v with | .int k=>.str ((nm.map unit).getD k.toNat []) | _=>.none) (by
   refine ev_call (ev_one (ev_var rfl)) ?_
   exact fn_range1 (small_nat (by have:=H.two;lia))) (rng_items sz) (fun v hv=>by
   refine Classical.byContradiction fun hcon=>?_
   obtain ⟨k,_,rfl⟩:=List.mem_map.mp hv
   refine hcon ?_
   refine evT_cmp (ev_var rfl) (ev_var rfl) ?_
   show (memb (iv k) ((ord.take j).map iv)).map (fun b:Bool=>!b) = _
   simp only [memb_iv];rfl) (fun v hv _=>by
   obtain ⟨k,hk,rfl⟩:=List.mem_map.mp hv
   have hk:=List.mem_range.mp hk
   refine ev_idx_l (ev_var rfl) (ev_var rfl) rfl ?_
   show at? ((nm.map unit).map V.str) (k:Int) = some (.str ((nm.map unit).getD k []))
   have hkl:k < (nm.map unit).length:=by simp only [List.length_map,H.len];exact hk
   simp only [at_nat,List.getElem?_map,List.getD_eq_getElem?_getD,List.getElem?_eq_getElem hkl];rfl) rfl (fun _=>rfl) (by have:=H.two;simp;lia)
 have hG:(((List.range sz).filter fun k=>!(ord.take j).contains k).map iv).map (fun v=>match v with | .int k=>V.str ((nm.map unit).getD k.toNat []) | _=>V.none) = (((List.range sz).filter fun k=>!(ord.take j).contains k).map fun k=>(nm.map unit).getD k []).map V.str:=by
  simp only [List.map_map,List.map_map];rfl
 rw [filter_iv (List.range sz) _ (fun k=>!(ord.take j).contains k) (fun _=>rfl),hG] at hc
 have hrest:(((List.range sz).filter fun k=>!(ord.take j).contains k).map fun k=>(nm.map unit).getD k []).flatten = restB (nm.map unit) sz (bitsOf sz (ord.take j)):=by
  unfold restB
  congr 2
  exact List.filter_congr fun k hk=>by simp only [bits_get (List.mem_range.mp hk)]
 have hjoin:=join_ok (l:=((List.range sz).filter fun k=>!(ord.take j).contains k).map fun k=>(nm.map unit).getD k []) (by
   simp only [List.length_map]
   have:=List.length_filter_le (fun k=>!(ord.take j).contains k) (List.range sz)
   rw [List.length_range] at this
   have:=H.two;lia) (fun w hw=>by
   obtain ⟨k,_,rfl⟩:=List.mem_map.mp hw
   simp only [List.getD_eq_getElem?_getD,List.getElem?_map]
   cases nm[k]? with
   | none=>simp
   | some c=>have:=unit_len c;simp;exact Nat.le_trans (by assumption) (by decide))
 rw [hrest] at hjoin
 refine (ex_seq (ex_if_f (evT_cmp (ev_call (f:=.user 3) (vs:=[.str (hidB (nm.map unit) (bitsOf sz (ord.take j)))]) (ev_one (ev_var rfl)) hst) (ev_meth ev_cst (ev_one hc) hjoin) (V_eq_str _))))
theorem j_wants (H:Nms sz nm) (O:Ord sz ord) (K:Con1 C) (h1:1 ≤ j) (h2:j < sz) :
  ∃ y27 y28 y29,ex C N bJT6 (wJ y sz nm ord (nowV sz nm ord (j - 1)) (some (iv j)) (some (.list ((ord.take j).map iv))) (nowV sz nm ord j) x26 x27 x28 x29 mu) = some (.next,(wJ y sz nm ord (nowV sz nm ord j) (some (iv j)) (some (.list ((ord.take j).map iv))) (nowV sz nm ord j) x26 y27 y28 y29 mu)):=by
 have hw:=word_len (nm:=nm) O
 have h6:=word_46 H O
 have hn:=word_nodup H O
 have hz:=H.two
 refine ⟨some (.str ((wordOf nm ord).take j)),some (.str ((wordOf nm ord).drop j)),some (.list (wantsV nm ord j)),?_⟩
 have h7:(wordOf nm ord).length ≤ 6:=by rw [hw];lia
 have l1:((wordOf nm ord).take j).length ≤ 6:=by rw [List.length_take];exact le_min2 h7
 have l2:((wordOf nm ord).drop j).length ≤ 6:=by rw [List.length_drop];exact Nat.le_trans (Nat.sub_le _ _) h7
 have l3:((wordOf nm ord).drop (j - 1)).length ≤ 6:=by rw [List.length_drop];exact Nat.le_trans (Nat.sub_le _ _) h7
 have ld:dots.length = 3:=rfl
 have c1:cut (wordOf nm ord) none (some (j:Int)) = (wordOf nm ord).take j:=cut_upto _ _
 have c2:cut (wordOf nm ord) (some (j:Int)) none = (wordOf nm ord).drop j:=cut_from _ _
 have c3:cut (wordOf nm ord) (some ((j:Int) - 1)) none = (wordOf nm ord).drop (j - 1):=by rw [show (j:Int) - 1 = ((j - 1:Nat):Int) by lia];exact cut_from _ _
 delta bJT6
 have s1:ev C (.slc (.var 21) (.cst .none) (.var 23)) (wJ y sz nm ord (nowV sz nm ord (j - 1)) (some (iv j)) (some (.list ((ord.take j).map iv))) (nowV sz nm ord j) x26 x27 x28 x29 mu) = some (.str ((wordOf nm ord).take j),(wJ y sz nm ord (nowV sz nm ord (j - 1)) (some (iv j)) (some (.list ((ord.take j).map iv))) (nowV sz nm ord j) x26 x27 x28 x29 mu)):=by
  rw [← c1];exact ev_slc_s (ev_var rfl) ev_cst (ev_var rfl) rfl rfl
 have s2:ev C (.slc (.var 21) (.var 23) (.cst .none)) (wJ y sz nm ord (nowV sz nm ord (j - 1)) (some (iv j)) (some (.list ((ord.take j).map iv))) (nowV sz nm ord j) x26 x27 x28 x29 mu) = some (.str ((wordOf nm ord).drop j),(wJ y sz nm ord (nowV sz nm ord (j - 1)) (some (iv j)) (some (.list ((ord.take j).map iv))) (nowV sz nm ord j) x26 x27 x28 x29 mu)):=by
  rw [← c2];exact ev_slc_s (ev_var rfl) (ev_var rfl) ev_cst rfl rfl
 refine (ex_seq (ex_tasg (vs:=[.str ((wordOf nm ord).take j),.str ((wordOf nm ord).drop j)]) (ev_tupl (ev_cons s1 (ev_one s2))) rfl)).trans ?_
 delta bJT7
 have s3:ev C (.slc (.var 21) (.bin .sub (.var 23) (.cst (.int 1))) (.cst .none)) (wJ y sz nm ord (nowV sz nm ord (j - 1)) (some (iv j)) (some (.list ((ord.take j).map iv))) (nowV sz nm ord j) x26 (tkV nm ord j) (dpV nm ord j) x29 mu) = some (.str ((wordOf nm ord).drop (j - 1)),(wJ y sz nm ord (nowV sz nm ord (j - 1)) (some (iv j)) (some (.list ((ord.take j).map iv))) (nowV sz nm ord j) x26 (tkV nm ord j) (dpV nm ord j) x29 mu)):=by
  rw [← c3];exact ev_slc_s (ev_var rfl) (ev_bin (ev_var rfl) ev_cst rfl) ev_cst rfl rfl
 have e1:ev C (.bin .add (.bin .add (.var 27) (.cst (.str [46,46,46]))) (.var 28)) (wJ y sz nm ord (nowV sz nm ord (j - 1)) (some (iv j)) (some (.list ((ord.take j).map iv))) (nowV sz nm ord j) x26 (tkV nm ord j) (dpV nm ord j) x29 mu) = some (.str ((wordOf nm ord).take j ++ dots ++ (wordOf nm ord).drop j),(wJ y sz nm ord (nowV sz nm ord (j - 1)) (some (iv j)) (some (.list ((ord.take j).map iv))) (nowV sz nm ord j) x26 (tkV nm ord j) (dpV nm ord j) x29 mu)) :=
  ev_bin (ev_bin (ev_var rfl) ev_cst (bop_str ((wordOf nm ord).take j) dots (by simp only [List.length_append];lia))) (ev_var rfl) (bop_str ((wordOf nm ord).take j ++ dots) ((wordOf nm ord).drop j) (by simp only [List.length_append];lia))
 have e2:ev C (.bin .add (.bin .add (.var 27) (.cst (.str [46,46,46]))) (.slc (.var 21) (.bin .sub (.var 23) (.cst (.int 1))) (.cst .none))) (wJ y sz nm ord (nowV sz nm ord (j - 1)) (some (iv j)) (some (.list ((ord.take j).map iv))) (nowV sz nm ord j) x26 (tkV nm ord j) (dpV nm ord j) x29 mu) = some (.str ((wordOf nm ord).take j ++ dots ++ (wordOf nm ord).drop (j - 1)),(wJ y sz nm ord (nowV sz nm ord (j - 1)) (some (iv j)) (some (.list ((ord.take j).map iv))) (nowV sz nm ord j) x26 (tkV nm ord j) (dpV nm ord j) x29 mu)) :=
  ev_bin (ev_bin (ev_var rfl) ev_cst (bop_str ((wordOf nm ord).take j) dots (by simp only [List.length_append];lia))) s3 (bop_str ((wordOf nm ord).take j ++ dots) ((wordOf nm ord).drop (j - 1)) (by simp only [List.length_append];lia))
 have e3:ev C (.bin .add (.cst (.str [46,46,46])) (.var 27)) (wJ y sz nm ord (nowV sz nm ord (j - 1)) (some (iv j)) (some (.list ((ord.take j).map iv))) (nowV sz nm ord j) x26 (tkV nm ord j) (dpV nm ord j) x29 mu) = some (.str (dots ++ (wordOf nm ord).take j),(wJ y sz nm ord (nowV sz nm ord (j - 1)) (some (iv j)) (some (.list ((ord.take j).map iv))) (nowV sz nm ord j) x26 (tkV nm ord j) (dpV nm ord j) x29 mu)) :=
  ev_bin ev_cst (ev_var rfl) (bop_str dots ((wordOf nm ord).take j) (by simp only [List.length_append];lia))
 have e4:ev C (.bin .add (.var 28) (.cst (.str [46,46,46]))) (wJ y sz nm ord (nowV sz nm ord (j - 1)) (some (iv j)) (some (.list ((ord.take j).map iv))) (nowV sz nm ord j) x26 (tkV nm ord j) (dpV nm ord j) x29 mu) = some (.str ((wordOf nm ord).drop j ++ dots),(wJ y sz nm ord (nowV sz nm ord (j - 1)) (some (iv j)) (some (.list ((ord.take j).map iv))) (nowV sz nm ord j) x26 (tkV nm ord j) (dpV nm ord j) x29 mu)) :=
  ev_bin (ev_var rfl) ev_cst (bop_str ((wordOf nm ord).drop j) dots (by simp only [List.length_append];lia))
 refine (ex_seq (ex_asg (ev_lst (ev_cons e1 (ev_cons e2 (ev_cons e3 (ev_one e4))))))).trans ?_
 delta bJT8
 have hc:=ev_comp_map (C:=C) (st:=(wJ y sz nm ord (nowV sz nm ord (j - 1)) (some (iv j)) (some (.list ((ord.take j).map iv))) (nowV sz nm ord j) x26 (tkV nm ord j) (dpV nm ord j) (some (.list (wantsV nm ord j))) mu))
  (st₁:=(wJ y sz nm ord (nowV sz nm ord (j - 1)) (some (iv j)) (some (.list ((ord.take j).map iv))) (nowV sz nm ord j) x26 (tkV nm ord j) (dpV nm ord j) (some (.list (wantsV nm ord j))) mu))
  (it:=.var 29) (e:=.call (.user 2) (.cons (.var 36) (.cons (.var 21) .nil))) (own:=[35,36]) (i:=36) (l:=(wantsV nm ord j))
  (fun v=>match v with | .str w=>.bool (ell w (wordOf nm ord)) | _=>.none) (ev_var rfl) rfl (fun v hv=>by
   have:∃ w:T,v = .str w ∧ w.length ≤ 50000:=by
    simp only [wantsV,List.mem_cons,List.not_mem_nil,or_false] at hv
    rcases hv with rfl | rfl | rfl | rfl
    ·exact ⟨_,rfl,by simp only [List.length_append];lia⟩
    ·exact ⟨_,rfl,by simp only [List.length_append];lia⟩
    ·exact ⟨_,rfl,by simp only [List.length_append];lia⟩
    ·exact ⟨_,rfl,by simp only [List.length_append];lia⟩
   refine Classical.byContradiction fun hcon=>?_
   obtain ⟨w,rfl,hwl⟩:=this
   refine hcon ?_
   exact ev_call (f:=.user 2) (vs:=[.str w,.str (wordOf nm ord)]) (ev_cons (ev_var rfl) (ev_one (ev_var rfl))) (K.ell w (wordOf nm ord) hwl (by exact Nat.le_trans (by assumption) (by decide)))) rfl (fun _=>rfl) (by simp)
 simp only [wantsV,List.map_cons,List.map_nil] at hc
 rw [ell_1 h6 (by assumption) (by exact Nat.lt_of_lt_of_eq (by assumption) (Eq.symm (by assumption))),ell_2 h6 (by assumption) (by exact Nat.lt_of_lt_of_eq (by assumption) (Eq.symm (by assumption))),ell_3 h6 hn (by assumption) (by exact Nat.lt_of_lt_of_eq (by assumption) (Eq.symm (by assumption))),ell_4 h6 hn (by assumption) (by exact Nat.lt_of_lt_of_eq (by assumption) (Eq.symm (by assumption)))] at hc
 refine (ex_seq (ex_if_f (evT_cmp hc (ev_lst (ev_cons ev_cst (ev_cons ev_cst (ev_cons ev_cst (ev_one ev_cst))))) (by rfl)))).trans ?_
 delta bJT9
 exact (ex_seq (ex_asg (ev_var rfl))).trans rfl
theorem j_body (H:Nms sz nm) (O:Ord sz ord) (K:Con1 C) (h1:1 ≤ j) (h2:j < sz) :
  ∃ y24 y25 y26 y27 y28 y29,ex C N bJT0 (wJ y sz nm ord (nowV sz nm ord (j - 1)) (some (iv j)) x24 x25 x26 x27 x28 x29 mu) = some (.next,(wJ y sz nm ord (nowV sz nm ord j) (some (iv j)) y24 y25 y26 y27 y28 y29 mu)):=by
 refine Classical.byContradiction fun hcon=>?_
 refine (j_wants (N:=N) (y:=y) (mu:=mu) (x26:=tdV sz ord j) (x27:=x27) (x28:=x28) (x29:=x29) H O K h1 h2).elim fun y27 k0=>k0.elim fun y28 k1=>k1.elim fun y29 e=>?_
 refine hcon ?_
 exact ⟨_,_,_,y27,y28,y29,(j_0 H O K h1 h2).trans ((j_told H O h1 h2).trans ((j_step H O K h1 h2).trans e))⟩
end
section
variable {C:Con} {N:Nat} {y:Nat→Option V} {sz:Nat} {nm ord:List Nat} {mu:List Mo}
theorem lev_aab:lev 9 [97,97,66] [122,122,98] = 5 ∧ lev 3 [97,97,66] [122,122,98] = 4:=by decide +kernel
theorem flat_one (l:List Nat):(l.map fun c=>([c]:T)).flatten = l:=by
 induction l with
 | nil=>rfl
 | cons a l ih=>simp only [List.map_cons,List.flatten_cons,ih];rfl
theorem law_M (H:Nms sz nm) (O:Ord sz ord) (K:Con1 C) :
  ex C N bT14 (wF y sz nm ord none none none none none none none none none none none none none none none none none none none mu) = ex C N bT19 (wF y sz nm ord (some (.list ((nm.map unit).map .str))) (some (.str (nm.map unit).flatten)) (some (.str (wordOf nm ord))) (some (.str (nm.map unit).flatten)) none none none none none none none none none none none none none none none mu):=by
 have hz:=H.two
 have hs:nm.length ≤ 6:=by rw [H.len];lia
 have hu:ev C (.comp [35,36] (.gen (.var 3) (.one 36) (.cst (.bool true)) (.emit (.call (.user 6) (.cons (.var 36) .nil))))) (wF y sz nm ord none none none none none none none none none none none none none none none none none none none mu) = some (.list ((nm.map unit).map .str),(wF y sz nm ord none none none none none none none none none none none none none none none none none none none mu)):=by
  have:=ev_comp_map (C:=C) (st:=(wF y sz nm ord none none none none none none none none none none none none none none none none none none none mu)) (st₁:=(wF y sz nm ord none none none none none none none none none none none none none none none none none none none mu)) (it:=.var 3) (e:=.call (.user 6) (.cons (.var 36) .nil)) (own:=[35,36]) (i:=36) (l:=nm.map sv) (fun v=>match v with | .str [c]=>.str (unit c) | _=>.none) (ev_var rfl) rfl (fun v hv=>by
   refine Classical.byContradiction fun hcon=>?_
   obtain ⟨c,_,rfl⟩:=List.mem_map.mp hv
   refine hcon ?_
   exact ev_call (f:=.user 6) (vs:=[.str [c]]) (ev_one (ev_var rfl)) (K.unit c)) rfl (fun _=>rfl) (by rw [List.length_map];exact Nat.le_trans (by assumption) (by decide))
  exact this.trans (congrArg (fun l=>some (V.list l,(wF y sz nm ord none none none none none none none none none none none none none none none none none none none mu))) (by rw [List.map_map,List.map_map];rfl))
 unfold bT14
 refine (ex_seq (ex_asg hu)).trans ?_
 unfold bT15
 have hj:=join_ok (l:=nm.map unit) (by rw [List.length_map];exact Nat.le_trans (by assumption) (by decide)) (fun w hw=>by obtain ⟨c,_,rfl⟩:=List.mem_map.mp hw;have:=unit_len c;exact Nat.le_trans (by assumption) (by decide))
 refine (ex_seq (ex_asg (ev_meth ev_cst (ev_one (ev_var rfl)) hj))).trans ?_
 unfold bT16
 have hw:ev C (.comp [35,36] (.gen (.var 11) (.one 36) (.cst (.bool true)) (.emit (.idx (.var 3) (.var 36))))) (wF y sz nm ord (some (.list ((nm.map unit).map .str))) (some (.str (nm.map unit).flatten)) none none none none none none none none none none none none none none none none none mu) = some (.list ((ord.map fun k=>[nm.getD k 0]).map .str),(wF y sz nm ord (some (.list ((nm.map unit).map .str))) (some (.str (nm.map unit).flatten)) none none none none none none none none none none none none none none none none none mu)):=by
  have:=ev_comp_map (C:=C) (st:=(wF y sz nm ord (some (.list ((nm.map unit).map .str))) (some (.str (nm.map unit).flatten)) none none none none none none none none none none none none none none none none none mu)) (st₁:=(wF y sz nm ord (some (.list ((nm.map unit).map .str))) (some (.str (nm.map unit).flatten)) none none none none none none none none none none none none none none none none none mu)) (it:=.var 11) (e:=.idx (.var 3) (.var 36)) (own:=[35,36]) (i:=36) (l:=ord.map iv) (fun v=>match v with | .int k=>sv (nm.getD k.toNat 0) | _=>.none) (ev_var rfl) rfl (fun v hv=>by
   refine Classical.byContradiction fun hcon=>?_
   obtain ⟨k,hk,rfl⟩:=List.mem_map.mp hv
   refine hcon ?_
   exact ev_idx_l (ev_var rfl) (ev_var rfl) rfl (sv_at (by simp only [H.len];exact O.lt hk))) rfl (fun _=>rfl) (by simp only [List.length_map,O.len];lia)
  exact this.trans (congrArg (fun l=>some (V.list l,(wF y sz nm ord (some (.list ((nm.map unit).map .str))) (some (.str (nm.map unit).flatten)) none none none none none none none none none none none none none none none none none mu))) (by simp only [List.map_map,List.map_map];rfl))
 have hjw:=join_ok (l:=ord.map fun k=>[nm.getD k 0]) (by simp only [List.length_map,O.len];lia) (fun w hw=>by obtain ⟨c,_,rfl⟩:=List.mem_map.mp hw;simp)
 rw [show (ord.map fun k=>([nm.getD k 0]:T)).flatten = wordOf nm ord by
  have:=flat_one (wordOf nm ord)
  unfold wordOf at this ⊢
  rw [List.map_map] at this
  exact this] at hjw
 refine (ex_seq (ex_asg (ev_meth ev_cst (ev_one hw) hjw))).trans ?_
 unfold bT17
 have hfl:=flat_len hs
 have hb:∀ st:St,st.get 20 = (some (.str (nm.map unit).flatten))→∀ x:T,x.length = 3→ev C (.bin .add (.var 20) (.cst (.str x))) st = some (.str ((nm.map unit).flatten ++ x),st):=fun st h x hx=>ev_bin (ev_var h) ev_cst (bop_str _ x (by simp only [List.length_append];lia))
 have hc:=ev_comp_map (C:=C) (st:=(wF y sz nm ord (some (.list ((nm.map unit).map .str))) (some (.str (nm.map unit).flatten)) (some (.str (wordOf nm ord))) none none none none none none none none none none none none none none none none mu)) (st₁:=(wF y sz nm ord (some (.list ((nm.map unit).map .str))) (some (.str (nm.map unit).flatten)) (some (.str (wordOf nm ord))) none none none none none none none none none none none none none none none none mu)) (it:=.tupl (.cons (.cst (.int 9)) (.cons (.cst (.int 3)) .nil)))
  (e:=.call (.user 1) (.cons (.bin .add (.var 20) (.cst (.str [97,97,66]))) (.cons (.bin .add (.var 20) (.cst (.str [122,122,98]))) (.cons (.var 36) .nil)))) (own:=[35,36]) (i:=36) (l:=[.int 9,.int 3])
  (fun v=>match v with | .int m=>.int (lev m ((nm.map unit).flatten ++ [97,97,66]) ((nm.map unit).flatten ++ [122,122,98])) | _=>.none) (ev_tupl (ev_cons ev_cst (ev_one ev_cst))) rfl (fun v hv=>by
   have:∃ m:Int,v = .int m:=by
    simp only [List.mem_cons,List.not_mem_nil,or_false] at hv
    refine Or.elim (hv) (fun rfl=>?_) (fun rfl=>?_)
    ·exact ⟨_,rfl⟩
    ·exact ⟨_,rfl⟩
   refine Classical.byContradiction fun hcon=>?_
   obtain ⟨m,rfl⟩:=this
   refine hcon ?_
   exact ev_call (f:=.user 1) (vs:=[.str ((nm.map unit).flatten ++ [97,97,66]),.str ((nm.map unit).flatten ++ [122,122,98]),.int m]) (ev_cons (hb _ rfl _ rfl) (ev_cons (hb _ rfl _ rfl) (ev_one (ev_var rfl)))) (K.lev _ _ m (by simp only [List.length_append,List.length_cons,List.length_nil];lia) (by simp only [List.length_append,List.length_cons,List.length_nil];lia))) rfl (fun _=>rfl) (by simp)
 simp only [List.map_cons,List.map_nil] at hc
 rw [lev_app,lev_app,lev_aab.1,lev_aab.2] at hc
 refine (ex_seq (ex_if_f (evT_cmp hc (ev_lst (ev_cons ev_cst (ev_one ev_cst))) (by rfl)))).trans ?_
 unfold bT18
 exact ex_seq (ex_asg (ev_var rfl))
theorem rng1_items {n:Nat}:items (.rng 1 (n + 1:Nat) 1) = some ((List.range' 1 n).map iv):=by
 show some (rngItems 1 ((n + 1:Nat):Int) 1) = _
 unfold rngItems
 simp only [show (((n + 1:Nat):Int) - 1 + 1 - 1) / 1 = (n:Int) by lia,Int.toNat_natCast,List.range'_eq_map_range,List.map_map]
 congr 1
 exact List.map_congr_left fun k _=>by show V.int (1 + (k:Int) * 1) = V.int ((1 + k:Nat):Int);congr 1;lia
theorem whole_now (H:Nms sz nm):(nm.map unit).flatten = hidB (nm.map unit) (bitsOf sz (ord.take 0)):=by
 rw [← hid_bits (by simp only [List.length_map,H.len])]
 exact (hidGo_none (us:=nm.map unit) (k:=0)).symm
theorem loopF_one {i:Nat} {b:S} {v:V} {st:St} {r:Option (Fl × St)} (h:ex C N b (st.set i v) = r):loopF C N (.one i) b v st = r:=h
theorem law_L4 (H:Nms sz nm) (O:Ord sz ord) (K:Con1 C) :
  ∃ y22 y23 y24 y25 y26 y27 y28 y29,ex C N bT19 (wF y sz nm ord (some (.list ((nm.map unit).map .str))) (some (.str (nm.map unit).flatten)) (some (.str (wordOf nm ord))) (some (.str (nm.map unit).flatten)) none none none none none none none none none none none none none none none mu) = ex C N bT20 (wF y sz nm ord (some (.list ((nm.map unit).map .str))) (some (.str (nm.map unit).flatten)) (some (.str (wordOf nm ord))) y22 y23 y24 y25 y26 y27 y28 y29 none none none none none none none none mu):=by
 have hz:=H.two
 refine Classical.byContradiction fun hcon=>?_
 obtain ⟨n,rfl⟩:∃ n,sz = n + 1:=⟨sz - 1,by lia⟩
 obtain ⟨s',h1,y23,y24,y25,y26,y27,y28,y29,rfl⟩:=loop_inv (f:=loopF C N (.one 23) bJT0) (I:=fun i s=>∃ y23 y24 y25 y26 y27 y28 y29,s = (wF y (n + 1) nm ord (some (.list ((nm.map unit).map .str))) (some (.str (nm.map unit).flatten)) (some (.str (wordOf nm ord))) (some (.str (hidB (nm.map unit) (bitsOf (n + 1) (ord.take i))))) y23 y24 y25 y26 y27 y28 y29 none none none none none none none none mu))
  (l:=(List.range' 1 n).map iv) (k:=0) (fun i v s hv hI=>by
  obtain ⟨y23,y24,y25,y26,y27,y28,y29,rfl⟩:=hI
  rw [Nat.zero_add]
  rw [List.getElem?_map] at hv
  obtain ⟨j,hj,rfl⟩:=Option.map_eq_some_iff.mp hv
  have hi:i < n:=by simpa using (List.getElem?_eq_some_iff.mp hj).1
  rw [List.getElem?_range' hi] at hj
  obtain rfl:=Option.some.inj hj
  rw [show 1 + 1 * i = i + 1 by lia]
  obtain ⟨z24,z25,z26,z27,z28,z29,e⟩:=j_body (N:=N) (y:=y) (mu:=mu) (j:=i + 1) (x24:=y24) (x25:=y25) (x26:=y26) (x27:=y27) (x28:=y28) (x29:=y29) H O K (by exact Nat.succ_pos _) (by exact Nat.succ_le_succ (by assumption))
  rw [Nat.add_sub_cancel] at e
  exact ⟨_,loopF_one e,some (iv (i + 1)),z24,z25,z26,z27,z28,z29,rfl⟩) (wF y (n + 1) nm ord (some (.list ((nm.map unit).map .str))) (some (.str (nm.map unit).flatten)) (some (.str (wordOf nm ord))) (some (.str (hidB (nm.map unit) (bitsOf (n + 1) (ord.take 0))))) none none none none none none none none none none none none none none none mu) ⟨_,_,_,_,_,_,_,rfl⟩
 refine hcon ?_
 refine ⟨some (.str (hidB (nm.map unit) (bitsOf (n + 1) (ord.take (0 + ((List.range' 1 n).map iv).length))))),y23,y24,y25,y26,y27,y28,y29,?_⟩
 unfold bT19
 have hr:ev C (.call .range (.cons (.cst (.int 1)) (.cons (.var 2) .nil))) (wF y (n + 1) nm ord (some (.list ((nm.map unit).map .str))) (some (.str (nm.map unit).flatten)) (some (.str (wordOf nm ord))) (some (.str (nm.map unit).flatten)) none none none none none none none none none none none none none none none mu) = some (.rng 1 (n + 1:Nat) 1,(wF y (n + 1) nm ord (some (.list ((nm.map unit).map .str))) (some (.str (nm.map unit).flatten)) (some (.str (wordOf nm ord))) (some (.str (nm.map unit).flatten)) none none none none none none none none none none none none none none none mu)):=by
  refine ev_call (ev_cons ev_cst (ev_one (ev_var rfl))) ?_
  exact fn_range2 (Bool.and_eq_true_iff.mpr ⟨rfl,small_nat (by have:=H.two;lia)⟩)
 refine (ex_seq ((ex_for (t:=.one 23) (b:=bJT0) hr rng1_items).trans ?_)).trans rfl
 have hwn:=whole_now (ord:=ord) H
 rw [← hwn] at h1
 exact h1
end
theorem turns_inv {f:V→St→Option (List V × St)} {P:St→Prop} {G:V→List V} {l:List V}:(∀ v ∈ l,∀ s,P s→∃ s',f v s = some (G v,s') ∧ P s')→∀ s,P s→∃ s',turns f l s = some (l.flatMap G,s') ∧ P s':=by
 induction l with
 | nil=>intro _ s h;exact ⟨s,rfl,h⟩
 | cons v l ih =>
  intro hf s h
  exact (hf v (.head _) s h).elim fun s1 k=>(ih (fun w hw=>hf w (.tail _ hw)) s1 k.2).elim fun s2 k'=>⟨s2,turns_nx k.1 k'.1,k'.2⟩
theorem ev_genr {C:Con} {it rest:X} {i:Nat} {l:List V} {u:V} {st st₁:St} {P:St→Prop} {G:V→List V} (h1:ev C it st = some (u,st₁)) (h2:items u = some l) (hP:P st₁)
  (hf:∀ v ∈ l,∀ s,P s→∃ s',ev C rest (s.set i v) = some (.list (G v),s') ∧ P s'):∃ s',ev C (.gen it (.one i) (.cst (.bool true)) rest) st = some (.list (l.flatMap G),s') ∧ P s' :=
 (turns_inv (f:=genF C (.one i) (.cst (.bool true)) rest) (P:=P) (G:=G) (l:=l) (fun v hv s hs=>(hf v hv s hs).elim fun s' k=>⟨s',genF_t rfl (evT_ev (v:=.bool true) ev_cst rfl) k.1,k.2⟩) st₁ hP).elim fun s' k=>⟨s',ev_gen_of h1 h2 k.1,k.2⟩
theorem cut_mid {α:Type} {l:List α} {i j:Nat} (h:i + j ≤ l.length):cut l (some (i:Int)) (some ((i:Int) + (j:Int))) = (l.drop i).take j:=by
 have c1:clip l.length (i:Int) = i:=by simp only [clip_nat];exact Nat.min_eq_left (by exact Nat.le_trans (Nat.le_add_right _ _) (by assumption))
 have c2:clip l.length ((i:Int) + (j:Int)) = i + j:=(clip_nat l.length (i + j)).trans (Nat.min_eq_left h)
 show (l.drop (clip l.length (i:Int))).take (clip l.length ((i:Int) + (j:Int)) - clip l.length (i:Int)) = _
 simp only [c1,c2,show i + j - i = j by lia]
theorem intsV_map:∀ l:List Int,intsV (l.map V.int) = some l
 | []=>rfl
 | a :: l=>by show map2 List.cons (some _) (intsV (l.map V.int)) = _;rw [intsV_map l];rfl
theorem allV_map:∀ l:List Bool,allV (l.map V.bool) = some (l.all id)
 | []=>rfl
 | a :: l=>by show map2 (fun a b=>a && b) (some _) (allV (l.map V.bool)) = _;rw [allV_map l];rfl
theorem eqvs_iv:∀ l:List Nat,V.eqvs (l.map iv) (l.map iv) = true
 | []=>by simp [V.eqvs]
 | a :: l=>by
  simp only [List.map_cons,V.eqvs,eqvs_iv l,Bool.and_true]
  delta V.eqv
  exact beq_self_eq_true _
theorem plain_iv (l:List Nat):V.plain 4 (.list (l.map iv)) = true:=by
 show (l.map iv).all (V.plain 3) = true
 rw [List.all_eq_true]
 intro x hx
 obtain ⟨y,_,rfl⟩:=List.mem_map.mp hx
 rfl
theorem cop_eq_iv (l:List Nat):cop .eq (.list (l.map iv)) (.list (l.map iv)) = some true:=by
 show (if (V.plain 4 (.list (l.map iv)) && V.plain 4 (.list (l.map iv))) = true then some (V.eqvs (l.map iv) (l.map iv)) else none) = _
 rw [plain_iv,eqvs_iv];rfl
theorem isSub_map {g:Nat→Nat}:∀ {w l:List Nat},(∀ a ∈ l,∀ b ∈ w,g a = g b→a = b)→isSub (l.map g) (w.map g) = isSub l w
 | w,[],_=>by simp only [List.map_nil,isSub_nil,isSub_nil]
 | [],c :: l,_=>rfl
 | d :: w,c :: l,h=>by
  simp only [List.map_cons,List.map_cons,isSub_cons,isSub_cons]
  by_cases q:c = d
  ·rw [if_pos q,if_pos (congrArg g q)]
   exact isSub_map fun a ha b hb=>h a (.tail _ ha) b (.tail _ hb)
  ·rw [if_neg q,if_neg fun e=>q (h c (.head _) d (.head _) e),← List.map_cons]
   exact isSub_map fun a ha b hb=>h a ha b (.tail _ hb)
section
variable {C:Con} {N:Nat} {y:Nat→Option V} {sz:Nat} {nm ord:List Nat} {mu:List Mo} {x19 x20 x22 x23 x24 x25 x26 x27 x28 x29 x30 x31 x32 x33 x34 x36 x37:Option V}
theorem blk_cell {i j:Nat} (hl:ord.length = sz) (hz:sz ≤ 6) (hj:0 < j) (h:i + j ≤ sz) :
  ev C (.cmp .eq (.call .lenset (.cons (.comp [38,39] (.gen (.slc (.var 11) (.var 37) (.bin .add (.var 37) (.var 36))) (.one 39) (.cst (.bool true)) (.emit (.bin .mod (.var 39) (.var 36))))) .nil)) (.var 36)) (wF y sz nm ord x19 x20 (some (.str (wordOf nm ord))) x22 x23 x24 x25 x26 x27 x28 x29 none none none none none (some (iv j)) (some (iv i)) none mu) =
   some (.bool (distinct (((ord.drop i).take j).map fun k=>((k % j:Nat):Int)) == (j:Int)),(wF y sz nm ord x19 x20 (some (.str (wordOf nm ord))) x22 x23 x24 x25 x26 x27 x28 x29 none none none none none (some (iv j)) (some (iv i)) none mu)):=by
 have c0:cut (ord.map iv) (some (i:Int)) (some ((i:Int) + (j:Int))) = ((ord.drop i).take j).map iv:=by rw [cut_mid (by simp only [List.length_map];exact Nat.le_trans (by assumption) (Nat.le_of_eq (Eq.symm (by assumption)))),List.map_take,List.map_drop]
 have s0:ev C (.slc (.var 11) (.var 37) (.bin .add (.var 37) (.var 36))) (wF y sz nm ord x19 x20 (some (.str (wordOf nm ord))) x22 x23 x24 x25 x26 x27 x28 x29 none none none none none (some (iv j)) (some (iv i)) none mu) = some (.list (((ord.drop i).take j).map iv),(wF y sz nm ord x19 x20 (some (.str (wordOf nm ord))) x22 x23 x24 x25 x26 x27 x28 x29 none none none none none (some (iv j)) (some (iv i)) none mu)):=by
  simp only [← c0];exact ev_slc_l (ev_var rfl) (ev_var rfl) (ev_bin (ev_var rfl) (ev_var rfl) rfl) rfl rfl rfl
 have hlen:((ord.drop i).take j).length ≤ 6:=by rw [List.length_take];exact Nat.le_trans (Nat.min_le_left _ _) (by lia)
 have hc:=ev_comp_map (C:=C) (st:=(wF y sz nm ord x19 x20 (some (.str (wordOf nm ord))) x22 x23 x24 x25 x26 x27 x28 x29 none none none none none (some (iv j)) (some (iv i)) none mu)) (st₁:=(wF y sz nm ord x19 x20 (some (.str (wordOf nm ord))) x22 x23 x24 x25 x26 x27 x28 x29 none none none none none (some (iv j)) (some (iv i)) none mu)) (e:=.bin .mod (.var 39) (.var 36)) (own:=[38,39]) (i:=39)
  (fun v=>match v with | .int k=>.int ((k.toNat % j:Nat):Int) | _=>.none) s0 rfl (fun v hv=>by
   refine Classical.byContradiction fun hcon=>?_
   obtain ⟨k,_,rfl⟩:=List.mem_map.mp hv
   refine hcon ?_
   exact ev_bin (ev_var rfl) (ev_var rfl) (bop_mod k j hj)) rfl (fun _=>rfl) (by rw [List.length_map];exact Nat.le_trans (by assumption) (by decide))
 have hm:(((ord.drop i).take j).map iv).map (fun v:V=>(match v with | .int k=>V.int ((k.toNat % j:Nat):Int) | _=>V.none:V)) = (((ord.drop i).take j).map fun k=>((k % j:Nat):Int)).map V.int:=by
  rw [List.map_map,List.map_map];rfl
 have hc2:=hc.trans (congrArg (fun l=>some (V.list l,(wF y sz nm ord x19 x20 (some (.str (wordOf nm ord))) x22 x23 x24 x25 x26 x27 x28 x29 none none none none none (some (iv j)) (some (iv i)) none mu))) hm)
 refine ev_cmp (ev_call (w:=.int (distinct (((ord.drop i).take j).map fun k=>((k % j:Nat):Int)))) (ev_one hc2) ?_) (ev_var rfl) rfl
 show (if ((((ord.drop i).take j).map fun k=>((k % j:Nat):Int)).map V.int).length ≤ 1000 then (intsV ((((ord.drop i).take j).map fun k=>((k % j:Nat):Int)).map V.int)).map fun ns=>V.int (distinct ns) else none) = _
 rw [if_pos (by rw [List.length_map,List.length_map];exact Nat.le_trans (by assumption) (by decide)),intsV_map];rfl
theorem blk_rng {j:Nat} (hz:sz = 5 ∨ sz = 6) (hj:2 ≤ j) (hjs:j < sz):items (.rng 0 ((sz:Int) - (j:Int) + 1) (j:Int)) = some (((List.range (sz / j)).map fun k=>k * j).map iv):=by
 show some (rngItems 0 ((sz:Int) - (j:Int) + 1) (j:Int)) = _
 unfold rngItems
 have e:(((sz:Int) - (j:Int) + 1 - 0 + (j:Int) - 1) / (j:Int)).toNat = sz / j:=by
  simp only [show (sz:Int) - (j:Int) + 1 - 0 + (j:Int) - 1 = (sz:Int) by lia]
  rfl
 simp only [e,List.map_map]
 congr 1
 exact List.map_congr_left fun k _=>by show V.int (0 + (k:Int) * (j:Int)) = V.int ((k * j:Nat):Int);congr 1;simp only [Int.natCast_mul];exact Int.add_comm _ _
theorem rng2_items {n:Nat}:items (.rng 2 (n + 2:Nat) 1) = some ((List.range' 2 n).map iv):=by
 show some (rngItems 2 ((n + 2:Nat):Int) 1) = _
 unfold rngItems
 simp only [show (((n + 2:Nat):Int) - 2 + 1 - 1) / 1 = (n:Int) by lia,Int.toNat_natCast,List.range'_eq_map_range,List.map_map]
 congr 1
 exact List.map_congr_left fun k _=>by show V.int (2 + (k:Int) * 1) = V.int ((2 + k:Nat):Int);congr 1;lia
noncomputable def blkRow (sz:Nat) (ord:List Nat) (j:Nat):List Bool:=(List.range (sz / j)).map fun i=>distinct (((ord.drop (i * j)).take j).map fun k=>((k % j:Nat):Int)) == (j:Int)
theorem law_blk (O:Ord sz ord):ex C N bT20 (wF y sz nm ord x19 x20 (some (.str (wordOf nm ord))) x22 x23 x24 x25 x26 x27 x28 x29 none none none none none none none none mu) = ex C N bT21 (wF y sz nm ord x19 x20 (some (.str (wordOf nm ord))) x22 x23 x24 x25 x26 x27 x28 x29 (some (.bool ((blkL sz ord).all id))) none none none none none none none mu):=by
 have hz:=O.two
 have hl:=O.len
 have hin:∀ j,2 ≤ j→j < sz→∀ x36 x37:Option V,∃ z37,ev C (.gen (.call .range (.cons (.cst (.int 0)) (.cons (.bin .add (.bin .sub (.var 2) (.var 36)) (.cst (.int 1))) (.cons (.var 36) .nil)))) (.one 37) (.cst (.bool true)) (.emit (.cmp .eq (.call .lenset (.cons (.comp [38,39] (.gen (.slc (.var 11) (.var 37) (.bin .add (.var 37) (.var 36))) (.one 39) (.cst (.bool true)) (.emit (.bin .mod (.var 39) (.var 36))))) .nil)) (.var 36)))) (wF y sz nm ord x19 x20 (some (.str (wordOf nm ord))) x22 x23 x24 x25 x26 x27 x28 x29 none none none none none (some (iv j)) x37 none mu) =
   some (.list ((blkRow sz ord j).map .bool),(wF y sz nm ord x19 x20 (some (.str (wordOf nm ord))) x22 x23 x24 x25 x26 x27 x28 x29 none none none none none (some (iv j)) z37 none mu)):=by
  intro j h2 hjs x36 x37
  have hr:ev C (.call .range (.cons (.cst (.int 0)) (.cons (.bin .add (.bin .sub (.var 2) (.var 36)) (.cst (.int 1))) (.cons (.var 36) .nil)))) (wF y sz nm ord x19 x20 (some (.str (wordOf nm ord))) x22 x23 x24 x25 x26 x27 x28 x29 none none none none none (some (iv j)) x37 none mu) = some (.rng 0 ((sz:Int) - (j:Int) + 1) (j:Int),(wF y sz nm ord x19 x20 (some (.str (wordOf nm ord))) x22 x23 x24 x25 x26 x27 x28 x29 none none none none none (some (iv j)) x37 none mu)):=by
   refine ev_call (ev_cons ev_cst (ev_cons (ev_bin (ev_bin (ev_var rfl) (ev_var rfl) rfl) ev_cst rfl) (ev_one (ev_var rfl)))) ?_
   exact fn_range3 (by unfold small;simp only [Bool.and_eq_true,decide_eq_true_eq];lia)
  refine Classical.byContradiction fun hcon=>?_
  obtain ⟨s',e,z37,rfl⟩:=ev_genr (C:=C) (i:=37) (rest:=.emit (.cmp .eq (.call .lenset (.cons (.comp [38,39] (.gen (.slc (.var 11) (.var 37) (.bin .add (.var 37) (.var 36))) (.one 39) (.cst (.bool true)) (.emit (.bin .mod (.var 39) (.var 36))))) .nil)) (.var 36)))
   (P:=fun s=>∃ x37,s = (wF y sz nm ord x19 x20 (some (.str (wordOf nm ord))) x22 x23 x24 x25 x26 x27 x28 x29 none none none none none (some (iv j)) x37 none mu)) (G:=fun v=>match v with | .int i=>[.bool (distinct (((ord.drop i.toNat).take j).map fun k=>((k % j:Nat):Int)) == (j:Int))] | _=>[]) hr (blk_rng hz h2 hjs) ⟨_,rfl⟩ (fun v hv s hs=>by
    obtain ⟨x37,rfl⟩:=hs
    obtain ⟨i,hi,rfl⟩:=List.mem_map.mp hv
    obtain ⟨k,hk,rfl⟩:=List.mem_map.mp hi
    have hk:=List.mem_range.mp hk
    have hb:k * j + j ≤ sz:=by
     have h3:(k + 1) * j ≤ sz / j * j:=Nat.mul_le_mul_right j hk
     have h4:sz / j * j ≤ sz:=Nat.div_mul_le_self sz j
     rw [Nat.succ_mul] at h3
     exact Nat.le_trans (by assumption) (by assumption)
    refine ⟨_,?_,some (iv (k * j)),rfl⟩
    have hcell:=blk_cell (C:=C) (y:=y) (nm:=nm) (mu:=mu) (x19:=x19) (x20:=x20) (x22:=x22) (x23:=x23) (x24:=x24) (x25:=x25) (x26:=x26) (x27:=x27) (x28:=x28) (x29:=x29) (i:=k * j) (j:=j) hl (by lia) (by exact Nat.le_of_lt (by assumption)) hb
    exact ev_emit hcell)
  refine hcon ?_
  refine ⟨z37,e.trans (congrArg (fun l=>some (V.list l,(wF y sz nm ord x19 x20 (some (.str (wordOf nm ord))) x22 x23 x24 x25 x26 x27 x28 x29 none none none none none (some (iv j)) z37 none mu))) ?_)⟩
  unfold blkRow
  rw [List.map_map,List.map_map,List.flatMap_map]
  show ((List.range (sz / j)).flatMap fun k=>[_]) = _
  rw [← List.map_eq_flatMap]
  rfl
 refine Classical.byContradiction fun hcon=>?_
 obtain ⟨n,hn⟩:∃ n,sz = n + 2:=⟨sz - 2,by lia⟩
 have hr:ev C (.call .range (.cons (.cst (.int 2)) (.cons (.var 2) .nil))) (wF y sz nm ord x19 x20 (some (.str (wordOf nm ord))) x22 x23 x24 x25 x26 x27 x28 x29 none none none none none none none none mu) = some (.rng 2 sz 1,(wF y sz nm ord x19 x20 (some (.str (wordOf nm ord))) x22 x23 x24 x25 x26 x27 x28 x29 none none none none none none none none mu)):=by
  refine ev_call (ev_cons ev_cst (ev_one (ev_var rfl))) ?_
  exact fn_range2 (Bool.and_eq_true_iff.mpr ⟨rfl,small_nat (by lia)⟩)
 obtain ⟨s',e,z36,z37,rfl⟩:=ev_genr (C:=C) (i:=36) (l:=(List.range' 2 (sz - 2)).map iv) (rest:=.gen (.call .range (.cons (.cst (.int 0)) (.cons (.bin .add (.bin .sub (.var 2) (.var 36)) (.cst (.int 1))) (.cons (.var 36) .nil)))) (.one 37) (.cst (.bool true)) (.emit (.cmp .eq (.call .lenset (.cons (.comp [38,39] (.gen (.slc (.var 11) (.var 37) (.bin .add (.var 37) (.var 36))) (.one 39) (.cst (.bool true)) (.emit (.bin .mod (.var 39) (.var 36))))) .nil)) (.var 36))))
  (P:=fun s=>∃ x36 x37,s = (wF y sz nm ord x19 x20 (some (.str (wordOf nm ord))) x22 x23 x24 x25 x26 x27 x28 x29 none none none none none x36 x37 none mu)) (G:=fun v=>match v with | .int j=>(blkRow sz ord j.toNat).map V.bool | _=>[]) hr (by rw [show ((sz:Nat):Int) = ((n + 2:Nat):Int) by rw [hn],show sz - 2 = n by lia];exact rng2_items) ⟨_,_,rfl⟩ (fun v hv s hs=>by
   obtain ⟨x36,x37,rfl⟩:=hs
   obtain ⟨j,hj,rfl⟩:=List.mem_map.mp hv
   have hj:=List.mem_range'_1.mp hj
   obtain ⟨z37,e⟩:=hin j hj.1 (by lia) x36 x37
   exact ⟨_,e,_,_,rfl⟩)
 refine hcon ?_
 have hfm:((List.range' 2 (sz - 2)).map iv).flatMap (fun v:V=>(match v with | .int j=>(blkRow sz ord j.toNat).map V.bool | _=>[]:List V)) = (blkL sz ord).map V.bool:=by
  unfold blkL
  rw [List.flatMap_map,List.map_flatMap]
  rfl
 have e2:=e.trans (congrArg (fun l=>some (V.list l,(wF y sz nm ord x19 x20 (some (.str (wordOf nm ord))) x22 x23 x24 x25 x26 x27 x28 x29 none none none none none z36 z37 none mu))) hfm)
 have hbl:(blkL sz ord).length ≤ 16777216:=by
  unfold blkL
  rcases hz with rfl | rfl <;> simp [List.length_flatMap] <;> decide
 have hcomp:ev C (.comp [35,36,37] (.gen (.call .range (.cons (.cst (.int 2)) (.cons (.var 2) .nil))) (.one 36) (.cst (.bool true)) (.gen (.call .range (.cons (.cst (.int 0)) (.cons (.bin .add (.bin .sub (.var 2) (.var 36)) (.cst (.int 1))) (.cons (.var 36) .nil)))) (.one 37) (.cst (.bool true)) (.emit (.cmp .eq (.call .lenset (.cons (.comp [38,39] (.gen (.slc (.var 11) (.var 37) (.bin .add (.var 37) (.var 36))) (.one 39) (.cst (.bool true)) (.emit (.bin .mod (.var 39) (.var 36))))) .nil)) (.var 36)))))) (wF y sz nm ord x19 x20 (some (.str (wordOf nm ord))) x22 x23 x24 x25 x26 x27 x28 x29 none none none none none none none none mu) =
   some (.list ((blkL sz ord).map V.bool),(wF y sz nm ord x19 x20 (some (.str (wordOf nm ord))) x22 x23 x24 x25 x26 x27 x28 x29 none none none none none none none none mu)) :=
  (ev_comp_of e2 (by rw [List.length_map];exact hbl)).trans rfl
 unfold bT20
 refine ex_seq (ex_asg (ev_call (ev_one hcomp) ?_))
 show (allV ((blkL sz ord).map V.bool)).map V.bool = _
 rw [allV_map];rfl
end
section
variable {C:Con} {N:Nat} {y:Nat→Option V} {sz:Nat} {nm ord:List Nat} {m1 m2 m3:Mo} {x19 x20 x22 x23 x24 x25 x26 x27 x28 x29 x31 x32 x33 x34:Option V}
noncomputable def bCutL:S:=(.seq (.asg 33 (.call (.user 2) (.cons (.call (.user 9) (.cons (.rev (.slc (.var 3) (.cst .none) (.var 32))) .nil)) (.cons (.var 21) .nil)))) (.seq (.asg 34 (.call (.user 2) (.cons (.call (.user 9) (.cons (.slc (.var 3) (.var 32) (.cst .none)) .nil)) (.cons (.var 21) .nil)))) (.seq (.ite (.and (.var 33) (.var 34)) (.seq (.app 31 (.var 32)) .skip) .skip) .skip)))
noncomputable def cutOk (sz:Nat) (ord:List Nat) (c:Nat):Bool:=isSub (List.range c).reverse ord && isSub (List.range' c (sz - c)) ord
theorem sub_names (H:Nms sz nm) (O:Ord sz ord) {l:List Nat} (hl:∀ k ∈ l,k < sz):ell (dotted ((l.map fun k=>nm.getD k 0).map fun c=>[c])) (wordOf nm ord) = isSub l ord:=by
 rw [ell_sub]
 ·unfold wordOf
  exact isSub_map fun a ha b hb e=>H.inj (hl a ha) (O.lt hb) e
 ·intro c hc
  obtain ⟨k,hk,rfl⟩:=List.mem_map.mp hc
  exact (ok_ne (H.ok k (hl k hk))).1
theorem call_cut (H:Nms sz nm) (O:Ord sz ord) (K:Con1 C) {l:List Nat} {x:X} {st:St} (hx:ev C x st = some (.list ((l.map fun k=>nm.getD k 0).map sv),st)) (hw:st.get 21 = some (.str (wordOf nm ord))) (hl:∀ k ∈ l,k < sz) (hn:l.length ≤ 6) :
  ev C (.call (.user 2) (.cons (.call (.user 9) (.cons x .nil)) (.cons (.var 21) .nil))) st = some (.bool (isSub l ord),st):=by
 have hz:=O.two
 have hd:=K.dots ((l.map fun k=>nm.getD k 0).map fun c=>[c]) (by simp only [List.length_map,List.length_map];exact Nat.le_trans (by assumption) (by decide)) (fun w hw=>by obtain ⟨c,_,rfl⟩:=List.mem_map.mp hw;simp)
 rw [show ((l.map fun k=>nm.getD k 0).map fun c=>([c]:T)).map V.str = (l.map fun k=>nm.getD k 0).map sv by rw [List.map_map];rfl] at hd
 have hdl:(dotted ((l.map fun k=>nm.getD k 0).map fun c=>[c])).length ≤ 50000:=by
  have h1:=joinT_len dots ((l.map fun k=>nm.getD k 0).map fun c=>[c])
  have h2:(((l.map fun k=>nm.getD k 0).map fun c=>([c]:T)).map fun z:T=>z.length).sum ≤ ((l.map fun k=>nm.getD k 0).map fun c=>([c]:T)).length * 1:=sum_le fun w hw=>by obtain ⟨c,_,rfl⟩:=List.mem_map.mp hw;simp
  rw [List.length_map,List.length_map] at h1 h2
  have hd3:dots.length = 3:=rfl
  rw [hd3] at h1
  unfold dotted
  simp only [List.length_append,List.length_append,hd3]
  lia
 rw [← sub_names H O hl]
 exact ev_call (f:=.user 2) (vs:=[.str (dotted ((l.map fun k=>nm.getD k 0).map fun c=>[c])),.str (wordOf nm ord)]) (ev_cons (ev_call (f:=.user 9) (vs:=[.list ((l.map fun k=>nm.getD k 0).map sv)]) (ev_one hx) hd) (ev_one (ev_var hw))) (K.ell _ _ hdl (by rw [word_len O];lia))
theorem cut_step (H:Nms sz nm) (O:Ord sz ord) (K:Con1 C) {c:Nat} (hc:c ≤ sz) {l:List Nat} (hl:l.length ≤ 1000) :
  ∃ z33 z34,ex C N bCutL (wF y sz nm ord x19 x20 (some (.str (wordOf nm ord))) x22 x23 x24 x25 x26 x27 x28 x29 (some (.bool ((blkL sz ord).all id))) (some (.mref 3)) (some (iv c)) x33 x34 none none none [m1,m2,m3,.list (l.map iv)]) = some (.next,(wF y sz nm ord x19 x20 (some (.str (wordOf nm ord))) x22 x23 x24 x25 x26 x27 x28 x29 (some (.bool ((blkL sz ord).all id))) (some (.mref 3)) (some (iv c)) z33 z34 none none none [m1,m2,m3,.list ((l ++ if cutOk sz ord c then [c] else []).map iv)])):=by
 have hz:=O.two
 have hnm:=nm_map H
 have e1:cut (nm.map sv) none (some (c:Int)) = ((List.range c).map fun k=>nm.getD k 0).map sv:=by
  rw [cut_upto,← List.map_take]
  congr 1
  conv=>lhs;rw [hnm]
  rw [← List.map_take,List.take_range,Nat.min_eq_left hc]
 have e2:cut (nm.map sv) (some (c:Int)) none = ((List.range' c (sz - c)).map fun k=>nm.getD k 0).map sv:=by
  rw [cut_from,← List.map_drop]
  congr 1
  conv=>lhs;rw [hnm]
  rw [← List.map_drop,List.range_eq_range',List.drop_range']
  simp
 have s1:ev C (.rev (.slc (.var 3) (.cst .none) (.var 32))) (wF y sz nm ord x19 x20 (some (.str (wordOf nm ord))) x22 x23 x24 x25 x26 x27 x28 x29 (some (.bool ((blkL sz ord).all id))) (some (.mref 3)) (some (iv c)) x33 x34 none none none [m1,m2,m3,.list (l.map iv)]) = some (.list (((List.range c).reverse.map fun k=>nm.getD k 0).map sv),(wF y sz nm ord x19 x20 (some (.str (wordOf nm ord))) x22 x23 x24 x25 x26 x27 x28 x29 (some (.bool ((blkL sz ord).all id))) (some (.mref 3)) (some (iv c)) x33 x34 none none none [m1,m2,m3,.list (l.map iv)])):=by
  simp only [List.map_reverse,List.map_reverse,← e1]
  exact ev_rev (ev_slc_l (ev_var rfl) ev_cst (ev_var rfl) rfl rfl rfl) rfl
 have c1:=call_cut H O K s1 rfl (fun k hk=>by have:=List.mem_range.mp (List.mem_reverse.mp hk);exact Nat.lt_of_lt_of_le (by assumption) (by assumption)) (by simp only [List.length_reverse,List.length_range];lia)
 have s2:ev C (.slc (.var 3) (.var 32) (.cst .none)) (wF y sz nm ord x19 x20 (some (.str (wordOf nm ord))) x22 x23 x24 x25 x26 x27 x28 x29 (some (.bool ((blkL sz ord).all id))) (some (.mref 3)) (some (iv c)) (some (.bool (isSub (List.range c).reverse ord))) x34 none none none [m1,m2,m3,.list (l.map iv)]) = some (.list (((List.range' c (sz - c)).map fun k=>nm.getD k 0).map sv),(wF y sz nm ord x19 x20 (some (.str (wordOf nm ord))) x22 x23 x24 x25 x26 x27 x28 x29 (some (.bool ((blkL sz ord).all id))) (some (.mref 3)) (some (iv c)) (some (.bool (isSub (List.range c).reverse ord))) x34 none none none [m1,m2,m3,.list (l.map iv)])):=by
  simp only [← e2]
  exact ev_slc_l (ev_var rfl) (ev_var rfl) ev_cst rfl rfl rfl
 have c2:=call_cut H O K s2 rfl (fun k hk=>by have:=List.mem_range'_1.mp hk;lia) (by rw [List.length_range'];lia)
 refine ⟨some (.bool (isSub (List.range c).reverse ord)),some (.bool (isSub (List.range' c (sz - c)) ord)),?_⟩
 unfold bCutL
 refine (ex_seq (ex_asg c1)).trans ?_
 refine (ex_seq (ex_asg c2)).trans ?_
 have ca:=evT_and (C:=C) (st:=(wF y sz nm ord x19 x20 (some (.str (wordOf nm ord))) x22 x23 x24 x25 x26 x27 x28 x29 (some (.bool ((blkL sz ord).all id))) (some (.mref 3)) (some (iv c)) (some (.bool (isSub (List.range c).reverse ord))) (some (.bool (isSub (List.range' c (sz - c)) ord))) none none none [m1,m2,m3,.list (l.map iv)])) (x:=.var 33) (y:=.var 34) (evT_ev (ev_var rfl) rfl) (evT_ev (ev_var rfl) rfl)
 unfold cutOk
 cases q:(isSub (List.range c).reverse ord && isSub (List.range' c (sz - c)) ord) with
 | false =>
  rw [q] at ca
  refine (ex_seq (ex_if_f ca)).trans ?_
  rw [if_neg Bool.false_ne_true,List.append_nil]
  rfl
 | true =>
  rw [q] at ca
  refine (ex_seq ((ex_if_t ca).trans ((ex_seq (ex_app (n:=3) (l:=l.map iv) rfl rfl (ev_var rfl) rfl (by rw [List.length_map];exact Nat.le_trans (by assumption) (by decide)))).trans rfl))).trans ?_
  rw [if_pos rfl,List.map_append]
  rfl
theorem filter_snoc (p:Nat→Bool) (k:Nat):(List.range (k + 1)).filter p = (List.range k).filter p ++ if p k then [k] else []:=by
 simp only [List.range_succ,List.filter_append]
 congr 1
 cases h:p k <;> simp [h]
theorem law_end (H:Nms sz nm) (O:Ord sz ord) (K:Con1 C) :
  ∃ st',ex C N bT21 (wF y sz nm ord x19 x20 (some (.str (wordOf nm ord))) x22 x23 x24 x25 x26 x27 x28 x29 (some (.bool ((blkL sz ord).all id))) none none none none none none none [m1,m2,m3]) = some (.ret (.bool true),st'):=by
 have hz:=O.two
 refine Classical.byContradiction fun hcon=>?_
 obtain ⟨s',h1,z32,z33,z34,rfl⟩:=loop_inv (f:=loopF C N (.one 32) bCutL) (I:=fun k s=>∃ z32 z33 z34,s = (wF y sz nm ord x19 x20 (some (.str (wordOf nm ord))) x22 x23 x24 x25 x26 x27 x28 x29 (some (.bool ((blkL sz ord).all id))) (some (.mref 3)) z32 z33 z34 none none none [m1,m2,m3,.list (((List.range k).filter (cutOk sz ord)).map iv)])) (l:=(List.range (sz + 1)).map iv) (k:=0) (fun i v s hv hI=>by
  obtain ⟨z32,z33,z34,rfl⟩:=hI
  rw [Nat.zero_add]
  rw [List.getElem?_map] at hv
  obtain ⟨j,hj,rfl⟩:=Option.map_eq_some_iff.mp hv
  have hi:i < sz + 1:=by simpa using (List.getElem?_eq_some_iff.mp hj).1
  rw [List.getElem?_range hi] at hj
  obtain rfl:=Option.some.inj hj
  have hl:((List.range i).filter (cutOk sz ord)).length ≤ 1000:=by
   have:=List.length_filter_le (cutOk sz ord) (List.range i)
   rw [List.length_range] at this
   lia
  refine (cut_step (N:=N) (y:=y) (m1:=m1) (m2:=m2) (m3:=m3) (x19:=x19) (x20:=x20) (x22:=x22) (x23:=x23) (x24:=x24) (x25:=x25) (x26:=x26) (x27:=x27) (x28:=x28) (x29:=x29) (x33:=z33) (x34:=z34) H O K (c:=i) (by exact Nat.le_of_succ_le_succ (by assumption)) hl).elim fun w33 k0=>k0.elim fun w34 e=>?_
  rw [← filter_snoc] at e
  exact ⟨_,e,some (iv i),w33,w34,rfl⟩) (wF y sz nm ord x19 x20 (some (.str (wordOf nm ord))) x22 x23 x24 x25 x26 x27 x28 x29 (some (.bool ((blkL sz ord).all id))) (some (.mref 3)) none none none none none none [m1,m2,m3,.list ([])]) ⟨_,_,_,rfl⟩
 refine hcon ?_
 rw [Nat.zero_add,List.length_map,List.length_range] at h1
 have hcuts:(List.range (sz + 1)).filter (cutOk sz ord) = if (blkL sz ord).all id then [ord.getD 0 0,ord.getD 0 0 + 1] else []:=O.cuts
 unfold bT21
 refine ⟨(wF y sz nm ord x19 x20 (some (.str (wordOf nm ord))) x22 x23 x24 x25 x26 x27 x28 x29 (some (.bool ((blkL sz ord).all id))) (some (.mref 3)) z32 z33 z34 none none none [m1,m2,m3,.list (((List.range (sz + 1)).filter (cutOk sz ord)).map iv)]),?_⟩
 refine (ex_seq (ex_asg (ev_fresh (l:=[]) rfl))).trans ?_
 ·unfold bT22
  have hr:ev C (.call .range (.cons (.bin .add (.var 2) (.cst (.int 1))) .nil)) (wF y sz nm ord x19 x20 (some (.str (wordOf nm ord))) x22 x23 x24 x25 x26 x27 x28 x29 (some (.bool ((blkL sz ord).all id))) (some (.mref 3)) none none none none none none [m1,m2,m3,.list ([])]) = some (.rng 0 (sz + 1:Nat) 1,(wF y sz nm ord x19 x20 (some (.str (wordOf nm ord))) x22 x23 x24 x25 x26 x27 x28 x29 (some (.bool ((blkL sz ord).all id))) (some (.mref 3)) none none none none none none [m1,m2,m3,.list ([])])):=by
   refine ev_call (ev_one (ev_bin (ev_var rfl) ev_cst (bop_add sz 1))) ?_
   exact fn_range1 (small_nat (by lia))
  refine (ex_seq ((ex_for (t:=.one 32) (b:=bCutL) hr (rng_items (sz + 1))).trans h1)).trans ?_
  unfold bT23
  rw [hcuts]
  refine ex_seq_ret (ex_ret ?_)
  have h0:at? (ord.map iv) (0:Int) = some (iv (ord.getD 0 0)):=at_iv (i:=0) (by simp only [O.len];lia)
  cases q:(blkL sz ord).all id with
  | true =>
   rw [if_pos rfl]
   refine ev_cmp (ev_var rfl) ((ev_ite_t (evT_ev (ev_var rfl) rfl)).trans (ev_lst (ev_cons (ev_idx_l (ev_var rfl) ev_cst rfl h0) (ev_one (ev_bin (ev_idx_l (ev_var rfl) ev_cst rfl h0) ev_cst (bop_add _ 1)))))) ?_
   exact cop_eq_iv [ord.getD 0 0,ord.getD 0 0 + 1]
  | false =>
   rw [if_neg Bool.false_ne_true]
   refine ev_cmp (ev_var rfl) ((ev_ite_e (evT_ev (ev_var rfl) rfl)).trans (ev_lst ev_nil)) ?_
   exact cop_eq_iv []
end
theorem law1_run {C:Con} (K:Con1 C) {ns:List Int} (hlen:ns.length ≤ 63):runC C 1000 bLaw 1 47 [.list (ns.map V.int)] = some (.bool true):=by
 have hz:szOf ns = 5 ∨ szOf ns = 6:=by unfold szOf;split <;> simp
 have H:Nms (szOf ns) (nms (nums ns) (szOf ns)):=nms_ok hz (nums ns)
 have hn:=nums_len ns
 have hs:(nms (nums ns) (szOf ns)).length ≤ 6:=by simp only [H.len];lia
 have ha:(nums ns).getD 0 0 % (szOf ns + 1) ≤ szOf ns:=by have:=Nat.mod_lt ((nums ns).getD 0 0) (show 0 < szOf ns + 1 by exact Nat.succ_pos _);exact Nat.le_of_succ_le_succ (by assumption)
 have hA:=law_A (N:=1000) K ns hlen rfl rfl rfl rfl
 refine Classical.byContradiction fun hcon=>?_
 refine (law_L1 (C:=C) (N:=1000) (x0:=some (.list (ns.map V.int))) (nl:=nums ns) (sz:=szOf ns) (nm:=nms (nums ns) (szOf ns)) (tx:=fil (nums ns) (nms (nums ns) (szOf ns)) (szOf ns) ++ tailT) (x8:=some (iv ((nums ns).getD 0 0 / (szOf ns + 1)))) (x9:=some (.int (((nums ns).getD 0 0 % (szOf ns + 1):Nat) - 1))) (a:=(nums ns).getD 0 0 % (szOf ns + 1)) hs (by simp only [H.len];exact ha)).elim fun x10 hB=>?_
 have e0:lft (nums ns) (nms (nums ns) (szOf ns)) 0 = fil (nums ns) (nms (nums ns) (szOf ns)) (szOf ns) ++ tailT:=by simp only [lft_zero,H.len]
 have e1:lin (nums ns) (nms (nums ns) (szOf ns)) 0 = 1:=rfl
 rw [e0,e1] at hB
 refine (law_L2 (C:=C) (N:=1000) (x0:=some (.list (ns.map V.int))) (nl:=nums ns) (sz:=szOf ns) (nm:=nms (nums ns) (szOf ns)) (tx:=fil (nums ns) (nms (nums ns) (szOf ns)) (szOf ns) ++ tailT) hs H.len (by decide) (x10:=x10) (bits:=(nums ns).getD 0 0 / (szOf ns + 1)) ha).elim fun x8 k0=>k0.elim fun x12 k1=>k1.elim fun x13 k2=>k2.elim fun ord k3=>k3.elim fun hD hperm=>?_
 have hE:=law_ends (C:=C) (N:=1000) (x0:=some (.list (ns.map V.int))) (nl:=nums ns) (sz:=szOf ns) (nm:=nms (nums ns) (szOf ns)) (tx:=fil (nums ns) (nms (nums ns) (szOf ns)) (szOf ns) ++ tailT) (x7:=some (iv (szOf ns))) (x8:=x8) (x9:=some (.int (-1))) (x10:=x10) (x11:=some (.mref 2)) (x12:=x12) (x13:=x13) (L:=ord.map iv) rfl
 refine (law_L3 (C:=C) (N:=1000) (x0:=some (.list (ns.map V.int))) (nl:=nums ns) (sz:=szOf ns) (nm:=nms (nums ns) (szOf ns)) (tx:=fil (nums ns) (nms (nums ns) (szOf ns)) (szOf ns) ++ tailT) (x7:=some (iv (szOf ns))) (x8:=x8) (x9:=some (.int (-1))) (x10:=x10) (x12:=x12) (x13:=x13) (x14:=some (.list [.str [122,32,122],.str [],.str [122],.str []])) (m1:=.lex [] (lin (nums ns) (nms (nums ns) (szOf ns)) (szOf ns) + 1) []) (m2:=.lex [] 1 []) hz hperm hn).elim fun x15 k0=>k0.elim fun x17 k1=>k1.elim fun x18 k2=>k2.elim fun ord2 k3=>k3.elim fun hF hperm2=>?_
 have O:Ord (szOf ns) ord2:=⟨hz,hperm2⟩
 obtain ⟨y,hy⟩:∃ y:Nat→Option V,y = fun i=>[some (.list (ns.map V.int)),some (.list ((nums ns).map iv)),none,none,some (.str (fil (nums ns) (nms (nums ns) (szOf ns)) (szOf ns) ++ tailT)),some (.mref 0),some (.mref 1),some (iv (szOf ns)),x8,some (.int (-1)),x10,none,x12,x13,some (.list [.str [122,32,122],.str [],.str [122],.str []]),x15,some (iv 1),x17,x18].getD i none:=⟨_,rfl⟩
 have hM:=law_M (N:=1000) (y:=y) (mu:=[.lex [] (lin (nums ns) (nms (nums ns) (szOf ns)) (szOf ns) + 1) [],.lex [] 1 [],.list (ord.map iv)]) H O K
 obtain ⟨y22,y23,y24,y25,y26,y27,y28,y29,hJ⟩:=law_L4 (N:=1000) (y:=y) (mu:=[.lex [] (lin (nums ns) (nms (nums ns) (szOf ns)) (szOf ns) + 1) [],.lex [] 1 [],.list (ord.map iv)]) H O K
 have hBk:=law_blk (C:=C) (N:=1000) (y:=y) (nm:=nms (nums ns) (szOf ns)) (mu:=[.lex [] (lin (nums ns) (nms (nums ns) (szOf ns)) (szOf ns) + 1) [],.lex [] 1 [],.list (ord.map iv)]) (x19:=some (.list (((nms (nums ns) (szOf ns)).map unit).map .str))) (x20:=some (.str ((nms (nums ns) (szOf ns)).map unit).flatten)) (x22:=y22) (x23:=y23) (x24:=y24) (x25:=y25) (x26:=y26) (x27:=y27) (x28:=y28) (x29:=y29) O
 refine (law_end (C:=C) (N:=1000) (y:=y) (m1:=.lex [] (lin (nums ns) (nms (nums ns) (szOf ns)) (szOf ns) + 1) []) (m2:=.lex [] 1 []) (m3:=.list (ord.map iv)) (x19:=some (.list (((nms (nums ns) (szOf ns)).map unit).map .str))) (x20:=some (.str ((nms (nums ns) (szOf ns)).map unit).flatten)) (x22:=y22) (x23:=y23) (x24:=y24) (x25:=y25) (x26:=y26) (x27:=y27) (x28:=y28) (x29:=y29) H O K).elim fun st' hZ=>?_
 have h2:=hM.trans (hJ.trans (hBk.trans hZ))
 subst hy
 refine hcon ?_
 have h1:=hA.trans (hB.trans (hD.trans (hE.trans hF)))
 refine runC_of (st':=st') rfl ?_ rfl ?_
 ·simp only [V.nomus,V.nomu,Bool.and_true];exact nomus_map fun _ _=>rfl
 ·simp only [bT_law]
  exact h1.trans h2
end Mine
namespace Mine
open PySem PySem.Spec PySem.Calls PyProof.Rows PySem.W
noncomputable def K1 (P:Params):Frag:=hd.heap_1 P
noncomputable def P1L:List Pos:=[⟨114,17,114,21⟩,⟨114,23,114,25⟩,⟨115,8,115,12⟩,⟨115,8,115,19⟩,⟨115,22,115,23⟩,⟨115,8,115,23⟩,⟨116,8,116,12⟩,⟨116,8,116,21⟩,⟨116,24,116,26⟩,⟨116,8,116,26⟩,⟨117,8,117,12⟩,⟨117,8,117,23⟩,⟨117,26,117,35⟩,⟨117,8,117,35⟩,⟨118,8,118,12⟩,⟨118,8,118,21⟩,⟨118,24,118,26⟩,⟨118,8,118,26⟩,⟨120,19,120,23⟩,⟨121,8,121,10⟩,⟨121,13,121,17⟩,⟨121,13,121,26⟩,⟨121,13,121,31⟩,⟨121,32,121,33⟩,⟨121,13,121,34⟩,⟨121,8,121,34⟩,⟨122,11,122,13⟩,⟨122,17,122,21⟩,⟨122,11,122,21⟩,⟨123,12,123,16⟩,⟨123,12,123,23⟩,⟨123,27,123,28⟩,⟨123,12,123,28⟩,⟨122,8,123,28⟩,⟨124,15,124,17⟩,⟨124,8,124,17⟩,⟨126,18,126,22⟩,⟨127,11,127,15⟩,⟨127,11,127,24⟩,⟨128,19,128,23⟩,⟨128,19,128,32⟩,⟨128,19,128,36⟩,⟨128,37,128,38⟩,⟨128,19,128,39⟩,⟨128,12,128,39⟩,⟨127,8,128,39⟩,⟨129,8,129,13⟩,⟨129,16,129,18⟩,⟨129,8,129,18⟩,⟨130,8,130,13⟩,⟨130,16,130,20⟩,⟨130,21,130,25⟩,⟨130,21,130,36⟩,⟨130,38,130,40⟩,⟨130,16,130,41⟩,⟨130,8,130,41⟩,⟨131,12,131,14⟩,⟨131,18,131,23⟩,⟨132,15,132,17⟩,⟨132,21,132,25⟩,⟨132,21,132,36⟩,⟨132,15,132,36⟩,⟨133,16,133,24⟩,⟨132,12,133,24⟩,⟨134,15,134,17⟩,⟨134,21,134,24⟩,⟨134,15,134,24⟩,⟨135,20,135,22⟩,⟨135,26,135,31⟩,⟨136,23,136,25⟩,⟨136,29,136,32⟩,⟨136,23,136,32⟩,⟨137,31,137,36⟩,⟨137,24,137,36⟩,⟨138,25,138,27⟩,⟨138,31,138,35⟩,⟨138,25,138,35⟩,⟨139,24,139,26⟩,⟨139,29,139,33⟩,⟨139,29,139,44⟩,⟨139,29,139,46⟩,⟨139,24,139,46⟩,⟨138,20,139,46⟩,⟨136,20,139,46⟩,⟨140,20,140,25⟩,⟨140,29,140,31⟩,⟨140,20,140,31⟩,⟨135,16,140,31⟩,⟨142,19,142,21⟩,⟨142,25,142,29⟩,⟨142,19,142,29⟩,⟨143,20,143,22⟩,⟨143,25,143,29⟩,⟨143,25,143,40⟩,⟨143,25,143,42⟩,⟨143,20,143,42⟩,⟨142,16,143,42⟩,⟨144,16,144,21⟩,⟨144,25,144,27⟩,⟨144,16,144,27⟩,⟨145,20,145,22⟩,⟨145,26,145,31⟩,⟨146,23,146,25⟩,⟨146,29,146,33⟩,⟨146,29,146,44⟩,⟨146,23,146,44⟩,⟨147,31,147,36⟩,⟨147,24,147,36⟩,⟨148,25,148,27⟩,⟨148,31,148,35⟩,⟨148,25,148,35⟩,⟨149,24,149,26⟩,⟨149,29,149,33⟩,⟨149,29,149,44⟩,⟨149,29,149,46⟩,⟨149,24,149,46⟩,⟨148,20,149,46⟩,⟨146,20,149,46⟩,⟨150,20,150,25⟩,⟨150,29,150,31⟩,⟨150,20,150,31⟩,⟨145,16,150,31⟩,⟨134,12,150,31⟩,⟨131,8,150,31⟩,⟨151,15,151,20⟩,⟨151,8,151,20⟩,⟨153,19,153,23⟩,⟨153,25,153,30⟩,⟨154,8,154,12⟩,⟨154,8,154,21⟩,⟨154,8,154,28⟩,⟨154,29,154,34⟩,⟨154,8,154,35⟩,⟨154,8,154,35⟩,⟨156,15,156,19⟩,⟨157,4,157,8⟩,⟨157,12,157,16⟩,⟨157,11,157,17⟩,⟨157,4,157,17⟩,⟨159,13,159,17⟩,⟨160,8,160,12⟩,⟨160,15,160,19⟩,⟨160,20,160,21⟩,⟨160,15,160,22⟩,⟨160,24,160,28⟩,⟨160,23,160,28⟩,⟨160,15,160,29⟩,⟨160,8,160,29⟩,⟨161,8,161,12⟩,⟨161,13,161,14⟩,⟨161,8,161,15⟩,⟨161,18,161,22⟩,⟨161,23,161,24⟩,⟨161,18,161,25⟩,⟨161,26,161,30⟩,⟨161,26,161,31⟩,⟨161,18,161,32⟩,⟨161,8,161,32⟩,⟨162,15,162,19⟩,⟨162,8,162,19⟩,⟨159,4,162,19⟩,⟨163,4,163,10⟩,⟨163,21,163,25⟩,⟨163,13,163,25⟩,⟨163,4,163,25⟩,⟨164,4,164,10⟩,⟨164,4,164,15⟩,⟨164,18,164,22⟩,⟨164,4,164,22⟩,⟨165,11,165,20⟩,⟨165,21,165,27⟩,⟨165,11,165,28⟩,⟨165,4,165,28⟩,⟨80,24,80,28⟩,⟨81,4,81,7⟩,⟨81,10,81,11⟩,⟨81,4,81,11⟩,⟨82,4,82,10⟩,⟨82,13,82,18⟩,⟨82,4,82,18⟩,⟨83,8,83,11⟩,⟨83,13,83,15⟩,⟨83,8,83,15⟩,⟨83,19,83,28⟩,⟨83,29,83,33⟩,⟨83,19,83,34⟩,⟨84,11,84,17⟩,⟨85,19,85,22⟩,⟨85,24,85,28⟩,⟨85,31,85,33⟩,⟨85,24,85,33⟩,⟨85,18,85,34⟩,⟨85,12,85,34⟩,⟨85,12,85,34⟩,⟨86,12,86,18⟩,⟨86,21,86,26⟩,⟨86,12,86,26⟩,⟨87,13,87,15⟩,⟨87,19,87,23⟩,⟨87,13,87,23⟩,⟨88,12,88,18⟩,⟨88,21,88,25⟩,⟨88,12,88,25⟩,⟨90,19,90,22⟩,⟨90,24,90,26⟩,⟨90,18,90,27⟩,⟨90,12,90,27⟩,⟨90,12,90,27⟩,⟨87,8,90,27⟩,⟨84,8,90,27⟩,⟨83,4,90,27⟩,⟨91,7,91,13⟩,⟨92,15,92,18⟩,⟨92,20,92,24⟩,⟨92,14,92,25⟩,⟨92,8,92,25⟩,⟨92,8,92,25⟩,⟨91,4,92,25⟩]
noncomputable def P1 (i:Nat):Pos:=P1L.getD i default
noncomputable def k1 (P:Params):LK:={ K:=K1 P,C:=87,fI:=63,fR:=70,fG:=77,fP:=84,P:=P1 }
theorem k1_fi (P:Params):FnIn (K1 P) 63 (initBody P1) initScope ["self","fp"]:=fnIn_mk (by kernel_rfl) (by kernel_rfl) (by kernel_rfl) (by kernel_rfl) (len_two fun a b=>by kernel_rfl) (by kernel_rfl)
theorem k1_fr (P:Params):FnIn (K1 P) 70 (rdcBody P1) rdcScope ["self"]:=fnIn_mk (by kernel_rfl) (by kernel_rfl) (by kernel_rfl) (by kernel_rfl) (len_one fun a=>by kernel_rfl) (by kernel_rfl)
theorem k1_fg (P:Params):FnIn (K1 P) 77 (getBody P1) getScope ["self"]:=fnIn_mk (by kernel_rfl) (by kernel_rfl) (by kernel_rfl) (by kernel_rfl) (len_one fun a=>by kernel_rfl) (by kernel_rfl)
theorem k1_fp (P:Params):FnIn (K1 P) 84 (pshBody P1) pshScope ["self","token"]:=fnIn_mk (by kernel_rfl) (by kernel_rfl) (by kernel_rfl) (by kernel_rfl) (len_two fun a b=>by kernel_rfl) (by kernel_rfl)
theorem k1_ok (P:Params):(k1 P).Ok where
 makes:=by kernel_rfl
 ga:=by kernel_rfl
 gattr:=by kernel_rfl
 sa:=by kernel_rfl
 plain:=by kernel_rfl
 hasd:=by kernel_rfl
 o1:=by kernel_rfl
 o2:=by kernel_rfl
 o3:=by kernel_rfl
 o4:=by kernel_rfl
 init:=by kernel_rfl
 get:=by kernel_rfl
 psh:=by kernel_rfl
 rdc:=by kernel_rfl
 rdget:=by kernel_rfl
 rdtake:=by kernel_rfl
 fi:=k1_fi P
 fr:=k1_fr P
 fg:=k1_fg P
 fp:=k1_fp P
 line:=show ∀ i ∈ [(22,24),(41,43),(79,80),(93,94),(113,114),(130,132)],((P1 i.1).endLine == (P1 i.2).line) = true by decide
noncomputable def tokOf:Value→Tok
 | .int _ t=>t
 | .str _ t=>t
 | _=>0
noncomputable def gl1L:List (Str × GV):=[("len",.fn .len),("min",.fn .min),("sum",.fn .sum),("chr",.fn .chr),("all",.fn .all),("list",.fn .list),("range",.fn .range),("set",.set),("enumerate",.enum),("_MAX_STRING_SIZE",.cst (.int 40)),("_MOVE_COST",.cst (.int 2)),("_CASE_COST",.cst (.int 1)),("ELLIPSIS_MARKER",.cst (.str [46,46,46])),("_law_lexer",.lexer),("_iter_escaped_chars",.esc),("_substitution_cost",.fn (.user 0)),("_levenshtein_distance",.fn (.user 1)),("_ellipsis_match",.fn (.user 2)),("_strip_quoted_realnames",.fn (.user 3)),("_law_numbers",.fn (.user 4)),("_law_names",.fn (.user 5)),("_law_unit",.fn (.user 6)),("_law_file",.fn (.user 7)),("_law_hidden",.fn (.user 8)),("_law_dots",.fn (.user 9))]
noncomputable def gl1:Gl:=glOf gl1L
noncomputable def tab1:Nat→Option (S × Nat × Nat)
 | 0=>some (bSub,2,14)
 | 1=>some (bLev,3,26)
 | 2=>some (bEll,2,18)
 | 3=>some (bStr,1,18)
 | 4=>some (bNum,1,14)
 | 5=>some (bNam,2,18)
 | 6=>some (bUnit,1,13)
 | 7=>some (bFile,2,17)
 | 8=>some (bHid,2,18)
 | 9=>some (bDots,1,13)
 | _=>none
theorem q1_21 (P:Params):FnK (K1 P) 21 ["ch_a","ch_b"]:=⟨by kernel_rfl,by kernel_rfl,by kernel_rfl,by kernel_rfl,by kernel_rfl,by kernel_rfl,by kernel_rfl,by kernel_rfl,by kernel_rfl,by kernel_rfl,len_two fun a b=>by kernel_rfl,by kernel_rfl⟩
theorem q1_28 (P:Params):FnK (K1 P) 28 ["a","b","max_cost"]:=⟨by kernel_rfl,by kernel_rfl,by kernel_rfl,by kernel_rfl,by kernel_rfl,by kernel_rfl,by kernel_rfl,by kernel_rfl,by kernel_rfl,by kernel_rfl,len_three fun a b c=>by kernel_rfl,by kernel_rfl⟩
theorem q1_35 (P:Params):FnK (K1 P) 35 ["want","got"]:=⟨by kernel_rfl,by kernel_rfl,by kernel_rfl,by kernel_rfl,by kernel_rfl,by kernel_rfl,by kernel_rfl,by kernel_rfl,by kernel_rfl,by kernel_rfl,len_two fun a b=>by kernel_rfl,by kernel_rfl⟩
theorem q1_49 (P:Params):FnK (K1 P) 49 ["addr"]:=⟨by kernel_rfl,by kernel_rfl,by kernel_rfl,by kernel_rfl,by kernel_rfl,by kernel_rfl,by kernel_rfl,by kernel_rfl,by kernel_rfl,by kernel_rfl,len_one fun a=>by kernel_rfl,by kernel_rfl⟩
theorem q1_103 (P:Params):FnK (K1 P) 103 ["script"]:=⟨by kernel_rfl,by kernel_rfl,by kernel_rfl,by kernel_rfl,by kernel_rfl,by kernel_rfl,by kernel_rfl,by kernel_rfl,by kernel_rfl,by kernel_rfl,len_one fun a=>by kernel_rfl,by kernel_rfl⟩
theorem q1_110 (P:Params):FnK (K1 P) 110 ["numbers","size"]:=⟨by kernel_rfl,by kernel_rfl,by kernel_rfl,by kernel_rfl,by kernel_rfl,by kernel_rfl,by kernel_rfl,by kernel_rfl,by kernel_rfl,by kernel_rfl,len_two fun a b=>by kernel_rfl,by kernel_rfl⟩
theorem q1_117 (P:Params):FnK (K1 P) 117 ["name"]:=⟨by kernel_rfl,by kernel_rfl,by kernel_rfl,by kernel_rfl,by kernel_rfl,by kernel_rfl,by kernel_rfl,by kernel_rfl,by kernel_rfl,by kernel_rfl,len_one fun a=>by kernel_rfl,by kernel_rfl⟩
theorem q1_124 (P:Params):FnK (K1 P) 124 ["names","numbers"]:=⟨by kernel_rfl,by kernel_rfl,by kernel_rfl,by kernel_rfl,by kernel_rfl,by kernel_rfl,by kernel_rfl,by kernel_rfl,by kernel_rfl,by kernel_rfl,len_two fun a b=>by kernel_rfl,by kernel_rfl⟩
theorem q1_131 (P:Params):FnK (K1 P) 131 ["units","front"]:=⟨by kernel_rfl,by kernel_rfl,by kernel_rfl,by kernel_rfl,by kernel_rfl,by kernel_rfl,by kernel_rfl,by kernel_rfl,by kernel_rfl,by kernel_rfl,len_two fun a b=>by kernel_rfl,by kernel_rfl⟩
theorem q1_138 (P:Params):FnK (K1 P) 138 ["names"]:=⟨by kernel_rfl,by kernel_rfl,by kernel_rfl,by kernel_rfl,by kernel_rfl,by kernel_rfl,by kernel_rfl,by kernel_rfl,by kernel_rfl,by kernel_rfl,len_one fun a=>by kernel_rfl,by kernel_rfl⟩
theorem q1_143 (P:Params):FnK (K1 P) 143 ["script"]:=⟨by kernel_rfl,by kernel_rfl,by kernel_rfl,by kernel_rfl,by kernel_rfl,by kernel_rfl,by kernel_rfl,by kernel_rfl,by kernel_rfl,by kernel_rfl,len_one fun a=>by kernel_rfl,by kernel_rfl⟩
theorem c1_21 (P:Params):cB (cS gl1 [] (Cx.fn (getFd (K1 P) 21).scope.names 12) 100 100) (stmtsOf (getFd (K1 P) 21).body) = some bSub:=by kernel_rfl
theorem z1_21 (P:Params):(own (getFd (K1 P) 21).scope.names).length + 12 = 14:=by kernel_rfl
theorem c1_28 (P:Params):cB (cS gl1 ["row"] (Cx.fn (getFd (K1 P) 28).scope.names 12) 100 100) (stmtsOf (getFd (K1 P) 28).body) = some bLev:=by kernel_rfl
theorem z1_28 (P:Params):(own (getFd (K1 P) 28).scope.names).length + 12 = 26:=by kernel_rfl
theorem c1_35 (P:Params):cB (cS gl1 ["ws"] (Cx.fn (getFd (K1 P) 35).scope.names 12) 100 100) (stmtsOf (getFd (K1 P) 35).body) = some bEll:=by kernel_rfl
theorem z1_35 (P:Params):(own (getFd (K1 P) 35).scope.names).length + 12 = 18:=by kernel_rfl
theorem c1_49 (P:Params):cB (cS gl1 ["result"] (Cx.fn (getFd (K1 P) 49).scope.names 12) 100 100) (stmtsOf (getFd (K1 P) 49).body) = some bStr:=by kernel_rfl
theorem z1_49 (P:Params):(own (getFd (K1 P) 49).scope.names).length + 12 = 18:=by kernel_rfl
theorem c1_103 (P:Params):cB (cS gl1 [] (Cx.fn (getFd (K1 P) 103).scope.names 12) 100 100) (stmtsOf (getFd (K1 P) 103).body) = some bNum:=by kernel_rfl
theorem z1_103 (P:Params):(own (getFd (K1 P) 103).scope.names).length + 12 = 14:=by kernel_rfl
theorem c1_110 (P:Params):cB (cS gl1 ["names"] (Cx.fn (getFd (K1 P) 110).scope.names 12) 100 100) (stmtsOf (getFd (K1 P) 110).body) = some bNam:=by kernel_rfl
theorem z1_110 (P:Params):(own (getFd (K1 P) 110).scope.names).length + 12 = 18:=by kernel_rfl
theorem c1_117 (P:Params):cB (cS gl1 [] (Cx.fn (getFd (K1 P) 117).scope.names 12) 100 100) (stmtsOf (getFd (K1 P) 117).body) = some bUnit:=by kernel_rfl
theorem z1_117 (P:Params):(own (getFd (K1 P) 117).scope.names).length + 12 = 13:=by kernel_rfl
theorem c1_124 (P:Params):cB (cS gl1 [] (Cx.fn (getFd (K1 P) 124).scope.names 12) 100 100) (stmtsOf (getFd (K1 P) 124).body) = some bFile:=by kernel_rfl
theorem z1_124 (P:Params):(own (getFd (K1 P) 124).scope.names).length + 12 = 17:=by kernel_rfl
theorem c1_131 (P:Params):cB (cS gl1 [] (Cx.fn (getFd (K1 P) 131).scope.names 12) 100 100) (stmtsOf (getFd (K1 P) 131).body) = some bHid:=by kernel_rfl
theorem z1_131 (P:Params):(own (getFd (K1 P) 131).scope.names).length + 12 = 18:=by kernel_rfl
theorem c1_138 (P:Params):cB (cS gl1 [] (Cx.fn (getFd (K1 P) 138).scope.names 12) 100 100) (stmtsOf (getFd (K1 P) 138).body) = some bDots:=by kernel_rfl
theorem z1_138 (P:Params):(own (getFd (K1 P) 138).scope.names).length + 12 = 13:=by kernel_rfl
theorem c1_law (P:Params):cB (cS gl1 ["order","cuts"] (Cx.fn (getFd (K1 P) 143).scope.names 12) 100 100) (stmtsOf (getFd (K1 P) 143).body) = some bLaw:=by kernel_rfl
theorem z1_law (P:Params):(own (getFd (K1 P) 143).scope.names).length + 12 = 47:=by kernel_rfl
noncomputable def base1 (P:Params) (g:Heap) (os:OsState) (mg mb:Str→Option Value):Base :=
 { k:=k1 P,B:=fun x=>g.get? x,os:=os,mg:=mg,mb:=mb,G:=gl1,N:=1000,tab:=tab1,fL:=98,cL:=97,tb:=93,lq:="_law_lexer",fE:=42,P:=P1 }
theorem k1_lx (P:Params):fdShape (K1 P) 98 = some (.type "function",.func (getFd (K1 P) 98)) ∧ (getFd (K1 P) 98).globals = mainGlobals ∧ (getFd (K1 P) 98).builtins = builtinsNs ∧ (getFd (K1 P) 98).closure = [] ∧ (getFd (K1 P) 98).body = .stmts (lexBody P1) ∧ (getFd (K1 P) 98).scope = lexScope ∧ (getFd (K1 P) 98).qualname = "_law_lexer" ∧ (getFd (K1 P) 98).code = .ref 97 ∧
  (∀ v,bindArgs (getFd (K1 P) 98) ⟨[v],[]⟩ = pure [(Str.ofString "text",v)]) ∧ codeIn (K1 P) (getFd (K1 P) 98).code (getFd (K1 P) 98).qualname = true :=
 ⟨by kernel_rfl,by kernel_rfl,by kernel_rfl,by kernel_rfl,by kernel_rfl,by kernel_rfl,by kernel_rfl,by kernel_rfl,fun v=>by kernel_rfl,by kernel_rfl⟩
theorem k1_ec (P:Params):fdShape (K1 P) 42 = some (.type "function",.func (getFd (K1 P) 42)) ∧ (getFd (K1 P) 42).globals = mainGlobals ∧ (getFd (K1 P) 42).builtins = builtinsNs ∧ (getFd (K1 P) 42).closure = [] ∧ (getFd (K1 P) 42).body = .stmts (escBody P1) ∧ (getFd (K1 P) 42).scope = escScope ∧
  (∀ v,bindArgs (getFd (K1 P) 42) ⟨[v],[]⟩ = pure [(Str.ofString "addr",v)]) ∧ codeIn (K1 P) (getFd (K1 P) 42).code (getFd (K1 P) 42).qualname = true :=
 ⟨by kernel_rfl,by kernel_rfl,by kernel_rfl,by kernel_rfl,by kernel_rfl,by kernel_rfl,fun v=>by kernel_rfl,by kernel_rfl⟩
theorem k1_p2 (c c':Addr):codeAmong (P1 160) (tab6 P1 c c').toList = some (.ref c):=by kernel_rfl
theorem k1_p3 (c c':Addr):codeAmong (P1 163) (tab6 P1 c c').toList = some (.ref c'):=by kernel_rfl
theorem k1_p1 (c:Addr):codeAmong (P1 163) [rawInt (P1 160).line,rawInt (P1 160).col,.ref c] = none:=by kernel_rfl
theorem base1_ok {p:Program} {loose:List Str} {mean:ExcName→Option Value} {P:Params} {h₁:Heap} {os:OsState} {mg mb:Str→Option Value} (X:(K1 P).In h₁) (T:Top p loose mean mg mb h₁) (hT:TabsAt [(97,93)] h₁) :
  (base1 P (ghostOf h₁ [(97,93)]) os mg mb).Ok:=by
 have Xg:(K1 P).In (ghostOf h₁ [(97,93)]):=ghost_K hT X (by kernel_rfl)
 have Tg:=ghost_top hT T
 have hK:∀ h,BaseIn (fun x=>(ghostOf h₁ [(97,93)]).get? x) h→(K1 P).In h:=fun h hB=>Xg.keeps hB
 have hl:∀ h,BaseIn (fun x=>(ghostOf h₁ [(97,93)]).get? x) h→h.NoLimit:=fun h hB=>Tg.nolimit.keeps hB
 have hmain:∀ h,BaseIn (fun x=>(ghostOf h₁ [(97,93)]).get? x) h→h.Ns mainGlobals mg:=fun h hB=>Tg.g.keeps hB
 have hbi:∀ h,BaseIn (fun x=>(ghostOf h₁ [(97,93)]).get? x) h→h.Ns builtinsNs mb:=fun h hB=>Tg.b.keeps hB
 have hBk:∀ a o,(K1 P).lookup a = some o→(ghostOf h₁ [(97,93)]).get? a = some o:=fun a o e=>Xg a o e
 have mgN:∀ x:Str,nsIn (K1 P) mainGlobals x = some none→mg x = none:=fun x e=>mg_none_of X T.g e
 have mgV:∀ (x:Str) {v:Value},nsIn (K1 P) mainGlobals x = some (some v)→mg x = some v:=fun x v e=>mg_of X T.g e
 have mbB:∀ (x:Str) {v:Value},x ≠ "__name__"→bootBuiltins x = some v→mb x = some v:=fun x v hn e=>(T.builtins x hn).trans e
 have L:=k1_lx P
 have C:=k1_ec P
 refine ⟨?_,?_,?_⟩
 ·exact {
   ok:=k1_ok P
   kin:=hK
   lim:=hl
   main:=hmain
   bi:=hbi
   it1:=mgN "iter" (by kernel_rfl)
   it2:=mbB "iter" (by decide) (by kernel_rfl)
   keepC:=by kernel_rfl
   lx:=⟨_,_,hBk _ _ (getObj_of L.1).1,(getObj_of L.1).2.2,L.2.1,L.2.2.1,L.2.2.2.1,L.2.2.2.2.1,L.2.2.2.2.2.1,L.2.2.2.2.2.2.1,L.2.2.2.2.2.2.2.1,L.2.2.2.2.2.2.2.2.1,fun h hB=>codeRec_of (hK h hB) L.2.2.2.2.2.2.2.2.2⟩
   chd:=fun h hB=>(ghost_code hT).1.keeps hB
   bm:=fun h hB=>by
    refine Classical.byContradiction fun hcon=>?_
    obtain ⟨bm,ob,a1,a2,a3,a4,a5,a6⟩:=Tg.bmain
    refine hcon ?_
    refine ⟨bm,ob,a1,a2,fun q=>?_,fun q=>?_,hB _ _ a3,a4,a5,a6⟩
    ·subst q
     obtain ⟨o,es,ep,e,hd,_⟩:=Tg.g
     rw [e] at a3;cases a3;rw [hd] at a6;cases a6
    ·subst q
     exact nomatch (show (none:Option Obj) = some ob from (hideAll_none [93] (.head _)).symm.trans a3)
   cls:=mgV "_netrclex" (by kernel_rfl)
   mtb:=show mainGlobals ≠ 93 by decide
   ntb:=hideAll_none _ (.head _)
   p1:=k1_p1
   p2:=k1_p2
   p3:=k1_p3 }
 ·exact ⟨hmain,hbi,hl,mgN "enumerate" (by kernel_rfl),mbB "enumerate" (by decide) (by kernel_rfl),_,_,hBk _ _ (getObj_of C.1).1,(getObj_of C.1).2.2,C.2.1,C.2.2.1,C.2.2.2.1,C.2.2.2.2.1,C.2.2.2.2.2.1,C.2.2.2.2.2.2.1,fun h hB=>codeRec_of (hK h hB) C.2.2.2.2.2.2.2⟩
 ·intro x g hx
  have U:∀ {x:Str} {k i z:Nat} {ps M:List Str} {s:S},FnK (K1 P) i ps→tab1 k = some (s,ps.length,z)→(own (getFd (K1 P) i).scope.names).length + 12 = z→mg x = some (.ref i)→cB (cS gl1 M (Cx.fn (getFd (K1 P) i).scope.names 12) 100 100) (stmtsOf (getFd (K1 P) i).body) = some s→EntU (base1 P (ghostOf h₁ [(97,93)]) os mg mb) x k :=
   fun {x k i z ps M s} F ht hz hm hc=>⟨i,_,getFd (K1 P) i,_,ps,12,M,100,100,s,by rw [hz];exact ht,hm,hBk _ _ (getObj_of F.shape).1,(getObj_of F.shape).2.2,F.okB hK hl,hc⟩
  have key:∀ q ∈ gl1L,Ent (base1 P (ghostOf h₁ [(97,93)]) os mg mb) q.1 q.2:=by
   unfold gl1L
   refine fc ⟨mgN "len" (by kernel_rfl),mbB "len" (by decide) (by kernel_rfl)⟩ ?_
   refine fc ⟨mgN "min" (by kernel_rfl),mbB "min" (by decide) (by kernel_rfl)⟩ ?_
   refine fc ⟨mgN "sum" (by kernel_rfl),mbB "sum" (by decide) (by kernel_rfl)⟩ ?_
   refine fc ⟨mgN "chr" (by kernel_rfl),mbB "chr" (by decide) (by kernel_rfl)⟩ ?_
   refine fc ⟨mgN "all" (by kernel_rfl),mbB "all" (by decide) (by kernel_rfl)⟩ ?_
   refine fc ⟨mgN "list" (by kernel_rfl),mbB "list" (by decide) (by kernel_rfl)⟩ ?_
   refine fc ⟨mgN "range" (by kernel_rfl),mbB "range" (by decide) (by kernel_rfl)⟩ ?_
   refine fc ⟨mgN "set" (by kernel_rfl),mbB "set" (by decide) (by kernel_rfl)⟩ ?_
   refine fc ⟨mgN "enumerate" (by kernel_rfl),mbB "enumerate" (by decide) (by kernel_rfl)⟩ ?_
   refine fc ⟨_,mgV "_MAX_STRING_SIZE" (v:=.int 40 (tokOf (getV (K1 P) "_MAX_STRING_SIZE"))) (by kernel_rfl),fun _ _ _=>.int⟩ ?_
   refine fc ⟨_,mgV "_MOVE_COST" (v:=.int 2 (tokOf (getV (K1 P) "_MOVE_COST"))) (by kernel_rfl),fun _ _ _=>.int⟩ ?_
   refine fc ⟨_,mgV "_CASE_COST" (v:=.int 1 (tokOf (getV (K1 P) "_CASE_COST"))) (by kernel_rfl),fun _ _ _=>.int⟩ ?_
   refine fc ⟨_,mgV "ELLIPSIS_MARKER" (v:=.str (strOf [46,46,46]) (tokOf (getV (K1 P) "ELLIPSIS_MARKER"))) (by kernel_rfl),fun _ _ _=>.str (by decide)⟩ ?_
   refine fc (mgV "_law_lexer" (by kernel_rfl)) ?_
   refine fc (mgV "_iter_escaped_chars" (by kernel_rfl)) ?_
   refine fc (U (q1_21 P) rfl (z1_21 P) (mgV "_substitution_cost" (by kernel_rfl)) (c1_21 P)) ?_
   refine fc (U (q1_28 P) rfl (z1_28 P) (mgV "_levenshtein_distance" (by kernel_rfl)) (c1_28 P)) ?_
   refine fc (U (q1_35 P) rfl (z1_35 P) (mgV "_ellipsis_match" (by kernel_rfl)) (c1_35 P)) ?_
   refine fc (U (q1_49 P) rfl (z1_49 P) (mgV "_strip_quoted_realnames" (by kernel_rfl)) (c1_49 P)) ?_
   refine fc (U (q1_103 P) rfl (z1_103 P) (mgV "_law_numbers" (by kernel_rfl)) (c1_103 P)) ?_
   refine fc (U (q1_110 P) rfl (z1_110 P) (mgV "_law_names" (by kernel_rfl)) (c1_110 P)) ?_
   refine fc (U (q1_117 P) rfl (z1_117 P) (mgV "_law_unit" (by kernel_rfl)) (c1_117 P)) ?_
   refine fc (U (q1_124 P) rfl (z1_124 P) (mgV "_law_file" (by kernel_rfl)) (c1_124 P)) ?_
   refine fc (U (q1_131 P) rfl (z1_131 P) (mgV "_law_hidden" (by kernel_rfl)) (c1_131 P)) ?_
   refine fc (U (q1_138 P) rfl (z1_138 P) (mgV "_law_dots" (by kernel_rfl)) (c1_138 P)) ?_
   exact fun _ h=>nomatch h
  exact key _ (gl_mem hx)
set_option tactic.hygienic true in
theorem law1_walk (H:∀ ns:List Int,ns.length ≤ 63→runC (Cn 1000 tab1 3) 1000 bLaw 1 47 [.list (ns.map V.int)] = some (.bool true)):PySem.Challenge.rw_uc0016_01.Holds:=hd (by
 k_fill
 intro w s₀ s₁ mg mb G Y fa o pm cd doc dV kV ho hd hcd hD hmg hg args vals as hpre hlay hrd hwl hlo
 have KX:=km_in_of Y
 km_tabs Y
 have X:=(Ground.X G).1
 have V:=(Ground.X G).2
 refine Ground.open G ?_
 intro T B D TE TW
 try (refine guard_noD D (by decide +kernel) ?_;clear D)
 km_lay T hmg ho hd cd
 have hfa:=(mg_of KX T.g (show nsIn (K1 w.params) mainGlobals "law" = some (some (.ref 143)) by kernel_rfl)).symm.trans hmg
 clear hmg
 wrow_args hpre hlay hrd hwl hlo
 cases hfa
 rename_i ns _ _ _ _ _ _ _ l _ _ _ _ w1 _ hI _ hc _
 cases w1
 rename_i items hl hW
 have L:=getObj_of (q1_143 w.params).shape
 have BO:=base1_ok (os:=s₁.os) KX T hT9
 refine law_go (b:=base1 w.params (ghostOf s₁.heap [(97,93)]) s₁.os mg mb) BO rfl rfl hT9 (ghost_K hT9 KX (by kernel_rfl) _ _ L.1) L.2.2 ((q1_143 w.params).okB (fun h hB=>BO.lx.kin h hB) (fun h hB=>BO.lx.lim h hB)) (c1_law w.params) ?_ (by assumption) hl (well_ints hW) (by omega) fun s' h1 h2 h3=>⟨.inl ⟨.bool true,.bool true,[],rfl,fun _=>rfl,.bool true,post_true _ _ _,fun _=>⟨.nil,fun _ h=>nomatch h⟩⟩,h1,h2,h3⟩
 rw [z1_law]
 exact H ns (by omega))
end Mine
namespace Mine
open PySem
theorem con1_ok:Con1 (Cn 1000 tab1 3) where
 num:=fun ns=>num_ok (C:=Cn 1000 tab1 2) (N:=1000) (ns:=ns)
 nam:=fun _ _ h1 h2=>nam_ok (C:=Cn 1000 tab1 2) (N:=1000) h1 h2
 unit:=fun c=>unit_ok (C:=Cn 1000 tab1 2) (N:=1000) (c:=c)
 file:=fun _ _ h1 h2=>file_ok (C:=Cn 1000 tab1 2) (N:=1000) (fun c=>unit_ok (C:=Cn 1000 tab1 1) (N:=1000) (c:=c)) h1 h2
 hid:=fun _ _ h1 h2=>hid_ok (C:=Cn 1000 tab1 2) (N:=1000) h1 h2
 dots:=fun _ h1 h2=>dots_ok (C:=Cn 1000 tab1 2) (N:=1000) h1 h2
 lev:=fun a b m h1 h2=>lev_ok (C:=Cn 1000 tab1 2) (N:=1000) (fun c d=>sub_ok (C:=Cn 1000 tab1 1) (N:=1000) (Nat.le_trans (lowerT_len c) (by decide)) (Nat.le_trans (lowerT_len d) (by decide))) (by omega) (by omega) (by omega)
 ell:=fun _ _ h1 h2=>ell_ok (C:=Cn 1000 tab1 2) (N:=1000) h1 h2
 strip:=fun _ h=>strip_ok (C:=Cn 1000 tab1 2) (N:=1000) h
theorem law1_holds:PySem.Challenge.rw_uc0016_01.Holds:=law1_walk fun _ h=>law1_run con1_ok h
end Mine
theorem PySem.Challenge.cw_uc0016_01_holds : PySem.Challenge.rw_uc0016_01.Holds := by
 exact Mine.law1_holds
