import PyProof.Rows.All
import Wide.All
import OpenK.AllK
import Wide.FinOn
import KE.KAnyBase
import ObjForm.ListNI
import PyProof.DelItemList
import PyProof.RulesDelMore
import PyProof.DictWalks
import PyProof.DictItemsLoops
import PyProof.Rows.DictUnroll
import PyProof.DictCompW
import PyProof.IsiH_list
import PyProof.AttrMissHeap
import PyProof.StationsW
import PyProof.EnumIter
import KE.KDictIter
import KE.KBoundM
import KE.KSuperObj
import KE.KStar
import KE.KNestM
import KE.KLam
import PyProof.Conv_bool
import Wide.Txt2
import PyProof.Rows.EqMixed
import KE.KDictList
import KE.KEqDict
import PyProof.Rows.SetFrom
import PyProof.Rows.GenRows
import PyProof.Rows.StrWeight2
import PyProof.ConsumeS
import OpenK.KOwn
import PySem.Challenge.RW_in0223_01
open PySem PyProof.Rows
set_option Elab.async false
set_option maxHeartbeats 8000000
set_option maxRecDepth 100000
set_option tactic.hygienic false
set_option linter.all false
set_option bootstrap.genMatcherCode false
set_option genSizeOf false
set_option compiler.extract_closed false
namespace Internal
namespace Mp
universe u
@[elab_as_elim] theorem rwl {α:Sort u} {a b:α} {motive:α→Prop} (h:a = b) (m:motive b):motive a:=h ▸ m
@[elab_as_elim] theorem rwr {α:Sort u} {a b:α} {motive:α→Prop} (h:a = b) (m:motive a):motive b:=h ▸ m
theorem itep {c:Prop} [Decidable c] {A B:Prop} (h:c) (a:A):if c then A else B:=Eq.mpr (if_pos h) a
theorem iten {c:Prop} [Decidable c] {A B:Prop} (h:¬c) (a:B):if c then A else B:=Eq.mpr (if_neg h) a
def aDK:Lean.Syntax:=Lean.Unhygienic.run `(tactic| decide +kernel)
def aR:Lean.Syntax:=Lean.Unhygienic.run `(tactic| rfl)
def aIR:Lean.Syntax:=Lean.Unhygienic.run `(tactic| intros; rfl)
def aU:Lean.Syntax:=Lean.Unhygienic.run `(tactic| with_unfolding_all rfl)
def aIU:Lean.Syntax:=Lean.Unhygienic.run `(tactic| (intros; with_unfolding_all rfl))
end Mp
local macro_rules
  | `(tactic| rw [$e:term])=>`(tactic| ((first | refine Mp.rwl $e ?_ | refine Mp.rwl ($e ..) ?_ | rewrite [$e:term]); try with_reducible rfl))
  | `(tactic| rw [← $e:term])=>`(tactic| ((first | refine Mp.rwr $e ?_ | refine Mp.rwr ($e ..) ?_ | rewrite [← $e:term]); try with_reducible rfl))
  | `(tactic| rw [$e:rwRule,$es:rwRule,*])=>`(tactic| (rw [$e:rwRule]; rw [$es,*]))
local macro_rules
  | `(tactic| rw [if_pos $h:term])=>`(tactic| first | refine Mp.itep $h ?_ | rw [(if_pos $h)])
  | `(tactic| rw [if_neg $h:term])=>`(tactic| first | refine Mp.iten $h ?_ | rw [(if_neg $h)])
local macro_rules | `(tactic| rfl')=>`(tactic| kernel_rfl)
local macro_rules | `(tactic| apply $e:term)=>`(tactic| refine $e)
noncomputable section
open Array (eq_empty_of_size_eq_zero ext' getD getElem?_toList length_toList size_extract toList_append toList_extract toList_inj toList_push)
open Bool (and_eq_true and_eq_true_iff eq_false_iff not_eq_true' or_eq_true)
open Classical (byContradiction)
open Int (natCast_nonneg not_lt not_ofNat_neg ofNat_le ofNat_lt toNat_lt toNat_natCast toNat_of_nonneg)
open List (all_eq_true any_cons any_eq_true any_map append_assoc append_nil cons_append drop_append_of_le_length drop_drop drop_left drop_zero ext_getElem? filter filter_append filter_congr filter_cons filter_eq_self find?_cons flatMap_append flatMap_cons foldl_append foldl_cons forIn_cons forIn_nil getD_eq_getElem?_getD getElem?_append_right getElem?_eq_getElem getElem?_eq_none getElem?_map getElem?_of_mem getElem?_range getElem?_set getElem?_zipIdx getElem_eq_iff getElem_mem length_append length_cons length_drop length_filter_le length_map length_nil length_range length_reverse length_take map_append map_congr_left map_cons map_id map_map mem_append mem_cons mem_cons_of_mem mem_cons_self mem_filter mem_map mem_of_getElem? mem_range mem_singleton nodup_append nodup_cons nodup_nil replicate replicate_succ reverse_cons size_toArray take_add_one take_length take_of_length_le)
open Nat (add_le_add_left add_le_add_right add_sub_self_left ble le_add_left le_add_right le_of_ble_eq_true le_of_eq le_of_lt le_of_not_lt le_of_succ_le le_refl le_succ_of_le le_trans lt_add_one lt_irrefl lt_of_add_right_lt lt_of_le_of_lt lt_of_lt_of_le lt_of_not_le lt_of_sub_eq_succ lt_of_succ_le lt_succ_of_lt lt_succ_self lt_trans min_le_left mul_le_mul_left ne_of_lt not_lt_zero sub_le succ_le_of_lt succ_le_succ zero_add zero_le)
open Option (isSome_iff_exists map_eq_some_iff map_none map_some some_ne_none)
open PySem.Around (under_plainId)
open PySem.Builtin.Range (rangeFitsLong rangeSize)
open PySem.Builtin.Re (reDrive)
open PySem.Builtin.Str (strSliceIndices subAt)
open PySem.Calls (evalArgs_plain)
open PySem.Challenge (pw_in0223_01)
open PySem.F (slot_dict_get)
open PySem.Heap (Ns SameBut get? get?_push_of_some get?_push_size get?_update_other get?_update_self lt_size size_push)
open PySem.Keeper (machine)
open PySem.Obj (data_mapFields mapFields mapSeq)
open PySem.Str (empty ofString)
open PySem.StrLaws (glued_eq_join)
open PySem.Txt (join mul)
open PySem.Value (isInt_shape)
open PySem.W (CodeHd Looks StarOf cellsFrom_some codeHdIn codeHd_of_K codeIn codeRec_of emptyDict eq_sortI fnOf get_bind handed_on instObj kas_sub kba_turn ks_call set_plain sortI)
open PySem.W.Fast (te10274390034422433532 te14082659384304107361 te14289696077712309145 te14364793385576792824 te4187177175401517315 te5923862056798008813 te8920871248978507458)
namespace Mp
theorem zl{a n m:Nat}(h:a<=n)(d:ble n m=true):a<=m:=le_trans h (le_of_ble_eq_true d)
theorem zt{a n m:Nat}(h:a<=n)(d:ble (n+1) m=true):a<m:=lt_of_le_of_lt h (le_of_ble_eq_true d)
theorem zg{a n m:Nat}(h:n<=a)(d:ble m n=true):m<=a:=le_trans (le_of_ble_eq_true d) h
theorem zs{n s k:Nat}(h:n - s=k+1):n - (s+1)=k:=congrArg Nat.pred h
theorem zp{n s k:Nat}(h:n - s<=k+1):n - (s+1)<=k:=Nat.pred_le_pred h
theorem z0{n s:Nat}(h:n - s=0):¬ s<n:=Nat.not_lt_of_le (Nat.le_of_sub_eq_zero h)
theorem zn{z c:Int}{k:Nat}(h0:0<=z)(h:z<c)(hc:(k:Int)=c):z.toNat<k:=(toNat_lt h0).mpr (hc▸h)
theorem zc{l p:Nat}(h:p<=l):((l:Int) - p)=((l - p:Nat):Int):=(Int.ofNat_sub h).symm
theorem zd{n k:Nat}(h:k<n):(n:Int) - 1=((n - 1:Nat):Int):=(Int.ofNat_sub (lt_of_le_of_lt (zero_le k) h)).symm
theorem Ng{n:Nat}(h:1<=n):(n:Int) - 1=((n - 1:Nat):Int):=(Int.ofNat_sub h).symm
theorem ze{a n j:Nat}(h:j<n+1 - a):a+j<=n:=Nat.le_of_lt_succ (Nat.add_lt_of_lt_sub' h)
theorem zf{a b:Nat}(h:¬ (a:Int)<b):(0:Int)=((b - a:Nat):Int):=congrArg Int.ofNat (Nat.sub_eq_zero_of_le (ofNat_le.mp (not_lt.mp h))).symm
theorem Nh{b:Nat}(h:¬ (1:Int)<(b:Int)):(0:Int)=((b - 1:Nat):Int):=zf h
theorem Ni{i k:Nat}(h:0<k):i % k<min k (i+1):=Nat.lt_min.mpr ⟨Nat.mod_lt _ h,Nat.lt_succ_of_le (Nat.mod_le _ _)⟩
theorem Ka{a n m:Nat}(d:ble a m=true):min a n<=m:=le_trans (min_le_left ..) (le_of_ble_eq_true d)
theorem JE{a n m c:Nat}(d:ble (c+a) m=true):c+min a n<=m:=le_trans (add_le_add_left (min_le_left ..) c) (le_of_ble_eq_true d)
theorem zq{n c p m:Nat}(h:n<=c)(d:ble (c+1) m=true):n+1 - p<=m:=le_trans (sub_le ..) (le_trans (succ_le_succ h) (le_of_ble_eq_true d))
theorem zr{n c m k:Nat}(h:n<=c)(d:ble (c+k) m=true):n+k<=m:=le_trans (add_le_add_right h k) (le_of_ble_eq_true d)
theorem Hp{n c m k:Nat}(h:n<=c)(d:ble (k+c) m=true):k+n<=m:=le_trans (add_le_add_left h k) (le_of_ble_eq_true d)
theorem Hq{n c m k e:Nat}(h:n<=c)(q:k<=e)(d:ble (c+e) m=true):n+k<=m:=le_trans (Nat.add_le_add h q) (le_of_ble_eq_true d)
theorem zu{p q n j:Nat}(h:p<=q)(h2:q<=n)(hj:j<n - q+1):q - p+j<n - p+1 :=
 Nat.lt_succ_of_le (le_trans (add_le_add_left (Nat.le_of_lt_succ hj) _) (le_of_eq (by rw [Nat.add_comm,Nat.sub_add_sub_cancel h2 h])))
theorem zx{i a b:Nat}:i+b+1 - (i+a)=b+1 - a:=Nat.add_sub_add_left i (b+1) a
theorem zy{a b:Nat}(h:a<b):b - a=b - (a+1)+1:=(Nat.succ_pred_eq_of_pos (Nat.sub_pos_of_lt h)).symm
theorem zA{a b:Nat}(h:a<=b)(h2:¬ a<b):a=b:=Nat.le_antisymm h (le_of_not_lt h2)
theorem zB{s p:Nat}(h:s<p)(h2:¬ s+1<p){n:Nat}:min p n - (s+1)=0:=Nat.sub_eq_zero_of_le (le_trans (min_le_left ..) (le_of_not_lt h2))
theorem zC{a b i n:Nat}(h:a=b - 1)(hb:3<=b)(hl:i+b<=n):i+a<n:=lt_of_lt_of_le (Nat.add_lt_add_left (h▸Nat.sub_lt (lt_of_lt_of_le (by decide) hb) (by decide)) i) hl
theorem zE{i n:Nat}(h:i<n):(0:Int)<=(i:Int)/\(i:Int)<(n:Int):=⟨natCast_nonneg i,ofNat_lt.mpr h⟩
theorem zG{a n:Nat}(h:a<n):n=n - 1+1:=(Nat.succ_pred_eq_of_pos (lt_of_le_of_lt (zero_le a) h)).symm
theorem cK{α:Type}{a b:α}(h:some a=some b):a=b:=Option.some.inj h
theorem dc{α:Type}{a:α}{P:Prop}(h:some a=none):P:=(some_ne_none a h).elim
theorem bf{α:Type}{a:α}{P:Prop}(h:none=some a):P:=(some_ne_none a h.symm).elim
section
variable {A B C D E F G H I J:Type}{r:Prop}
theorem bJ{p:A->Prop}(x:A)(a:p x):∃ x,p x:=⟨x,a⟩
theorem kG{p:A->B->Prop}(x:A)(y:B)(a:p x y):∃ x y,p x y:=⟨x,y,a⟩
theorem iDPP{p q:A->Prop}(x:A)(a:p x)(b:q x):∃ x,p x/\q x:=⟨x,a,b⟩
theorem iPDP{p:Prop}{q:A->Prop}(a:p)(x:A)(b:q x):p/\∃ x,q x:=⟨a,x,b⟩
theorem xi{p:A->B->C->Prop}(x:A)(y:B)(z:C)(a:p x y z):∃ x y z,p x y z:=⟨x,y,z,a⟩
theorem ez{p q:A->B->Prop}(x:A)(y:B)(a:p x y)(b:q x y):∃ x y,p x y/\q x y:=⟨x,y,a,b⟩
theorem aV{p q m:A->Prop}(x:A)(a:p x)(b:q x)(c:m x):∃ x,p x/\q x/\m x:=⟨x,a,b,c⟩
theorem t8{p:Prop}{q:A->B->Prop}(a:p)(x:A)(y:B)(b:q x y):p/\∃ x y,q x y:=⟨a,x,y,b⟩
theorem m7{p:Prop}{q m:A->Prop}(a:p)(x:A)(b:q x)(c:m x):p/\∃ x,q x/\m x:=⟨a,x,b,c⟩
theorem aX{p q m n:Prop}(a:p)(b:q)(c:m)(d:n):p/\q/\m/\n:=⟨a,b,c,d⟩
theorem l9{p:A->B->C->D->Prop}(x:A)(y:B)(z:C)(u:D)(a:p x y z u):∃ x y z u,p x y z u:=⟨x,y,z,u,a⟩
theorem dw{p q:A->B->C->Prop}(x:A)(y:B)(z:C)(a:p x y z)(b:q x y z):∃ x y z,p x y z/\q x y z:=⟨x,y,z,a,b⟩
theorem aH{p q m:A->B->Prop}(x:A)(y:B)(a:p x y)(b:q x y)(c:m x y):∃ x y,p x y/\q x y/\m x y:=⟨x,y,a,b,c⟩
theorem bh{p q:A->Prop}{m:A->B->Prop}(x:A)(a:p x)(b:q x)(y:B)(c:m x y):∃ x,p x/\q x/\∃ y,m x y:=⟨x,a,b,y,c⟩
theorem gO{p q m n:A->Prop}(x:A)(a:p x)(b:q x)(c:m x)(d:n x):∃ x,p x/\q x/\m x/\n x:=⟨x,a,b,c,d⟩
theorem oM{p:Prop}{q m:A->B->Prop}(a:p)(x:A)(y:B)(b:q x y)(c:m x y):p/\∃ x y,q x y/\m x y:=⟨a,x,y,b,c⟩
theorem ja{p q m n l:Prop}(a:p)(b:q)(c:m)(d:n)(k:l):p/\q/\m/\n/\l:=⟨a,b,c,d,k⟩
theorem iDDDPPP{p q m:A->B->C->Prop}(x:A)(y:B)(z:C)(a:p x y z)(b:q x y z)(c:m x y z):∃ x y z,p x y z/\q x y z/\m x y z:=⟨x,y,z,a,b,c⟩
theorem d9{p q m n:A->B->Prop}(x:A)(y:B)(a:p x y)(b:q x y)(c:m x y)(d:n x y):∃ x y,p x y/\q x y/\m x y/\n x y:=⟨x,y,a,b,c,d⟩
theorem sq{p q m n l:A->Prop}(x:A)(a:p x)(b:q x)(c:m x)(d:n x)(k:l x):∃ x,p x/\q x/\m x/\n x/\l x:=⟨x,a,b,c,d,k⟩
theorem xj{p:Prop}{q m:A->B->C->Prop}(a:p)(x:A)(y:B)(z:C)(b:q x y z)(c:m x y z):p/\∃ x y z,q x y z/\m x y z:=⟨a,x,y,z,b,c⟩
theorem sr{p q:Prop}{m n:A->B->Prop}(a:p)(b:q)(x:A)(y:B)(c:m x y)(d:n x y):p/\q/\∃ x y,m x y/\n x y:=⟨a,b,x,y,c,d⟩
theorem oy{p q m n l e:Prop}(a:p)(b:q)(c:m)(d:n)(k:l)(h:e):p/\q/\m/\n/\l/\e:=⟨a,b,c,d,k,h⟩
theorem oN{p q m n:A->B->C->Prop}(x:A)(y:B)(z:C)(a:p x y z)(b:q x y z)(c:m x y z)(d:n x y z):∃ x y z,p x y z/\q x y z/\m x y z/\n x y z:=⟨x,y,z,a,b,c,d⟩
theorem dS{p q m n l:A->B->Prop}(x:A)(y:B)(a:p x y)(b:q x y)(c:m x y)(d:n x y)(k:l x y):∃ x y,p x y/\q x y/\m x y/\n x y/\l x y:=⟨x,y,a,b,c,d,k⟩
theorem Ao{p:Prop}{q m n:A->B->C->Prop}(a:p)(x:A)(y:B)(z:C)(b:q x y z)(c:m x y z)(d:n x y z):p/\∃ x y z,q x y z/\m x y z/\n x y z:=⟨a,x,y,z,b,c,d⟩
theorem jG{p q m n:A->B->C->D->Prop}(x:A)(y:B)(z:C)(u:D)(a:p x y z u)(b:q x y z u)(c:m x y z u)(d:n x y z u):∃ x y z u,p x y z u/\q x y z u/\m x y z u/\n x y z u:=⟨x,y,z,u,a,b,c,d⟩
theorem ma{p q m n l:A->B->C->Prop}(x:A)(y:B)(z:C)(a:p x y z)(b:q x y z)(c:m x y z)(d:n x y z)(k:l x y z):∃ x y z,p x y z/\q x y z/\m x y z/\n x y z/\l x y z:=⟨x,y,z,a,b,c,d,k⟩
theorem fQ{p q m n l e:A->B->Prop}(x:A)(y:B)(a:p x y)(b:q x y)(c:m x y)(d:n x y)(k:l x y)(h:e x y):∃ x y,p x y/\q x y/\m x y/\n x y/\l x y/\e x y:=⟨x,y,a,b,c,d,k,h⟩
theorem md{p:A->Prop}{q m n:A->B->C->D->Prop}(x:A)(a:p x)(y:B)(z:C)(u:D)(b:q x y z u)(c:m x y z u)(d:n x y z u):∃ x,p x/\∃ y z u,q x y z u/\m x y z u/\n x y z u:=⟨x,a,y,z,u,b,c,d⟩
theorem eS{p q m n l e f g:Prop}(a:p)(b:q)(c:m)(d:n)(k:l)(h:e)(r:f)(a7:g):p/\q/\m/\n/\l/\e/\f/\g:=⟨a,b,c,d,k,h,r,a7⟩
theorem kh{p q m n l e f g o:Prop}(a:p)(b:q)(c:m)(d:n)(k:l)(h:e)(r:f)(a7:g)(a8:o):p/\q/\m/\n/\l/\e/\f/\g/\o:=⟨a,b,c,d,k,h,r,a7,a8⟩
theorem m8{p q m:A->B->C->D->E->F->G->Prop}(x:A)(y:B)(z:C)(u:D)(v:E)(w:F)(s:G)(a:p x y z u v w s)(b:q x y z u v w s)(c:m x y z u v w s):∃ x y z u v w s,p x y z u v w s/\q x y z u v w s/\m x y z u v w s:=⟨x,y,z,u,v,w,s,a,b,c⟩
theorem jb{p q m n l e:A->B->C->D->Prop}(x:A)(y:B)(z:C)(u:D)(a:p x y z u)(b:q x y z u)(c:m x y z u)(d:n x y z u)(k:l x y z u)(h:e x y z u):∃ x y z u,p x y z u/\q x y z u/\m x y z u/\n x y z u/\l x y z u/\e x y z u:=⟨x,y,z,u,a,b,c,d,k,h⟩
theorem m9{p:A->Prop}{q m n l:A->B->C->D->E->Prop}(x:A)(a:p x)(y:B)(z:C)(u:D)(v:E)(b:q x y z u v)(c:m x y z u v)(d:n x y z u v)(k:l x y z u v):∃ x,p x/\∃ y z u v,q x y z u v/\m x y z u v/\n x y z u v/\l x y z u v:=⟨x,a,y,z,u,v,b,c,d,k⟩
theorem df{p q m n:A->B->C->Prop}{l:A->B->C->D->E->F->G->Prop}(x:A)(y:B)(z:C)(a:p x y z)(b:q x y z)(c:m x y z)(d:n x y z)(u:D)(v:E)(w:F)(s:G)(k:l x y z u v w s):∃ x y z,p x y z/\q x y z/\m x y z/\n x y z/\∃ u v w s,l x y z u v w s:=⟨x,y,z,a,b,c,d,u,v,w,s,k⟩
theorem oO{p q m n l:A->B->C->D->E->F->G->H->Prop}(x:A)(y:B)(z:C)(u:D)(v:E)(w:F)(s:G)(t:H)(a:p x y z u v w s t)(b:q x y z u v w s t)(c:m x y z u v w s t)(d:n x y z u v w s t)(k:l x y z u v w s t):∃ x y z u v w s t,p x y z u v w s t/\q x y z u v w s t/\m x y z u v w s t/\n x y z u v w s t/\l x y z u v w s t:=⟨x,y,z,u,v,w,s,t,a,b,c,d,k⟩
theorem oQ{p q m n l e:A->B->C->D->E->F->G->Prop}(x:A)(y:B)(z:C)(u:D)(v:E)(w:F)(s:G)(a:p x y z u v w s)(b:q x y z u v w s)(c:m x y z u v w s)(d:n x y z u v w s)(k:l x y z u v w s)(h:e x y z u v w s):∃ x y z u v w s,p x y z u v w s/\q x y z u v w s/\m x y z u v w s/\n x y z u v w s/\l x y z u v w s/\e x y z u v w s:=⟨x,y,z,u,v,w,s,a,b,c,d,k,h⟩
theorem nW{p:A->Prop}{q m n l e f g o:A->B->C->D->E->Prop}(x:A)(a:p x)(y:B)(z:C)(u:D)(v:E)(b:q x y z u v)(c:m x y z u v)(d:n x y z u v)(k:l x y z u v)(h:e x y z u v)(r:f x y z u v)(a7:g x y z u v)(a8:o x y z u v):∃ x,p x/\∃ y z u v,q x y z u v/\m x y z u v/\n x y z u v/\l x y z u v/\e x y z u v/\f x y z u v/\g x y z u v/\o x y z u v:=⟨x,a,y,z,u,v,b,c,d,k,h,r,a7,a8⟩
theorem gr{p q m n l e f g:A->B->C->D->E->F->G->H->Prop}(x:A)(y:B)(z:C)(u:D)(v:E)(w:F)(s:G)(t:H)(a:p x y z u v w s t)(b:q x y z u v w s t)(c:m x y z u v w s t)(d:n x y z u v w s t)(k:l x y z u v w s t)(h:e x y z u v w s t)(r:f x y z u v w s t)(a7:g x y z u v w s t):∃ x y z u v w s t,p x y z u v w s t/\q x y z u v w s t/\m x y z u v w s t/\n x y z u v w s t/\l x y z u v w s t/\e x y z u v w s t/\f x y z u v w s t/\g x y z u v w s t:=⟨x,y,z,u,v,w,s,t,a,b,c,d,k,h,r,a7⟩
theorem bw{p:A->Prop}(h:∃ x,p x)(k:∀ x,p x->r):r:=h.elim λx h=>k x h
theorem aC{p q:Prop}(h:p/\q)(k:p->q->r):r:=k h.1 h.2
theorem ij{p:A->B->Prop}(h:∃ x y,p x y)(k:∀ x y,p x y->r):r:=h.elim λx h=>h.elim λy h=>k x y h
theorem aj{p q:A->Prop}(h:∃ x,p x/\q x)(k:∀ x,p x->q x->r):r:=h.elim λx h=>k x h.1 h.2
theorem Dc{p:Prop}{q:A->Prop}(h:p/\∃ x,q x)(k:p->∀ x,q x->r):r:=h.2.elim λx h1=>k h.1 x h1
theorem bq{p q m:Prop}(h:p/\q/\m)(k:p->q->m->r):r:=k h.1 h.2.1 h.2.2
theorem jW{p:A->B->C->Prop}(h:∃ x y z,p x y z)(k:∀ x y z,p x y z->r):r:=h.elim λx h=>h.elim λy h=>h.elim λz h=>k x y z h
theorem bW{p q:A->B->Prop}(h:∃ x y,p x y/\q x y)(k:∀ x y,p x y->q x y->r):r:=h.elim λx h=>h.elim λy h=>k x y h.1 h.2
theorem bM{p q m:A->Prop}(h:∃ x,p x/\q x/\m x)(k:∀ x,p x->q x->m x->r):r:=h.elim λx h=>k x h.1 h.2.1 h.2.2
theorem jX{p:Prop}{q m:A->Prop}(h:p/\∃ x,q x/\m x)(k:p->∀ x,q x->m x->r):r:=h.2.elim λx h1=>k h.1 x h1.1 h1.2
theorem dj{p q m n:Prop}(h:p/\q/\m/\n)(k:p->q->m->n->r):r:=k h.1 h.2.1 h.2.2.1 h.2.2.2
theorem eT{p:A->B->C->D->Prop}(h:∃ x y z u,p x y z u)(k:∀ x y z u,p x y z u->r):r:=h.elim λx h=>h.elim λy h=>h.elim λz h=>h.elim λu h=>k x y z u h
theorem cw{p q:A->B->C->Prop}(h:∃ x y z,p x y z/\q x y z)(k:∀ x y z,p x y z->q x y z->r):r:=h.elim λx h=>h.elim λy h=>h.elim λz h=>k x y z h.1 h.2
theorem ay{p q m:A->B->Prop}(h:∃ x y,p x y/\q x y/\m x y)(k:∀ x y,p x y->q x y->m x y->r):r:=h.elim λx h=>h.elim λy h=>k x y h.1 h.2.1 h.2.2
theorem Ap{p q:A->Prop}{m:A->B->Prop}(h:∃ x,p x/\q x/\∃ y,m x y)(k:∀ x,p x->q x->∀ y,m x y->r):r:=h.elim λx h=>h.2.2.elim λy h2=>k x h.1 h.2.1 y h2
theorem sv{p q m n:A->Prop}(h:∃ x,p x/\q x/\m x/\n x)(k:∀ x,p x->q x->m x->n x->r):r:=h.elim λx h=>k x h.1 h.2.1 h.2.2.1 h.2.2.2
theorem dQ{p:Prop}{q m:A->B->Prop}(h:p/\∃ x y,q x y/\m x y)(k:p->∀ x y,q x y->m x y->r):r:=h.2.elim λx h1=>h1.elim λy h2=>k h.1 x y h2.1 h2.2
theorem dx{p:Prop}{q m n:A->Prop}(h:p/\∃ x,q x/\m x/\n x)(k:p->∀ x,q x->m x->n x->r):r:=h.2.elim λx h1=>k h.1 x h1.1 h1.2.1 h1.2.2
theorem Aq{p q m:Prop}{n:A->Prop}(h:p/\q/\m/\∃ x,n x)(k:p->q->m->∀ x,n x->r):r:=h.2.2.2.elim λx h1=>k h.1 h.2.1 h.2.2.1 x h1
theorem sx{p q m n l:Prop}(h:p/\q/\m/\n/\l)(k:p->q->m->n->l->r):r:=k h.1 h.2.1 h.2.2.1 h.2.2.2.1 h.2.2.2.2
theorem jH{p:A->B->C->D->E->Prop}(h:∃ x y z u v,p x y z u v)(k:∀ x y z u v,p x y z u v->r):r:=h.elim λx h=>h.elim λy h=>h.elim λz h=>h.elim λu h=>h.elim λv h=>k x y z u v h
theorem jI{p q:A->B->C->D->Prop}(h:∃ x y z u,p x y z u/\q x y z u)(k:∀ x y z u,p x y z u->q x y z u->r):r:=h.elim λx h=>h.elim λy h=>h.elim λz h=>h.elim λu h=>k x y z u h.1 h.2
theorem eg{p q m:A->B->C->Prop}(h:∃ x y z,p x y z/\q x y z/\m x y z)(k:∀ x y z,p x y z->q x y z->m x y z->r):r:=h.elim λx h=>h.elim λy h=>h.elim λz h=>k x y z h.1 h.2.1 h.2.2
theorem cJ{p q m n:A->B->Prop}(h:∃ x y,p x y/\q x y/\m x y/\n x y)(k:∀ x y,p x y->q x y->m x y->n x y->r):r:=h.elim λx h=>h.elim λy h=>k x y h.1 h.2.1 h.2.2.1 h.2.2.2
theorem gu{p q m n l:A->Prop}(h:∃ x,p x/\q x/\m x/\n x/\l x)(k:∀ x,p x->q x->m x->n x->l x->r):r:=h.elim λx h=>k x h.1 h.2.1 h.2.2.1 h.2.2.2.1 h.2.2.2.2
theorem sy{p:Prop}{q m:A->B->C->Prop}(h:p/\∃ x y z,q x y z/\m x y z)(k:p->∀ x y z,q x y z->m x y z->r):r:=h.2.elim λx h1=>h1.elim λy h2=>h2.elim λz h3=>k h.1 x y z h3.1 h3.2
theorem kH{p q m n l e:Prop}(h:p/\q/\m/\n/\l/\e)(k:p->q->m->n->l->e->r):r:=k h.1 h.2.1 h.2.2.1 h.2.2.2.1 h.2.2.2.2.1 h.2.2.2.2.2
theorem kI{p q m:A->B->C->D->Prop}(h:∃ x y z u,p x y z u/\q x y z u/\m x y z u)(k:∀ x y z u,p x y z u->q x y z u->m x y z u->r):r:=h.elim λx h=>h.elim λy h=>h.elim λz h=>h.elim λu h=>k x y z u h.1 h.2.1 h.2.2
theorem eD{p q m n:A->B->C->Prop}(h:∃ x y z,p x y z/\q x y z/\m x y z/\n x y z)(k:∀ x y z,p x y z->q x y z->m x y z->n x y z->r):r:=h.elim λx h=>h.elim λy h=>h.elim λz h=>k x y z h.1 h.2.1 h.2.2.1 h.2.2.2
theorem Ar{p q m n l:A->B->Prop}(h:∃ x y,p x y/\q x y/\m x y/\n x y/\l x y)(k:∀ x y,p x y->q x y->m x y->n x y->l x y->r):r:=h.elim λx h=>h.elim λy h=>k x y h.1 h.2.1 h.2.2.1 h.2.2.2.1 h.2.2.2.2
theorem As{p:A->Prop}{q m n l:A->B->Prop}(h:∃ x,p x/\∃ y,q x y/\m x y/\n x y/\l x y)(k:∀ x,p x->∀ y,q x y->m x y->n x y->l x y->r):r:=h.elim λx h=>h.2.elim λy h2=>k x h.1 y h2.1 h2.2.1 h2.2.2.1 h2.2.2.2
theorem t9{p:Prop}{q m n:A->B->C->Prop}(h:p/\∃ x y z,q x y z/\m x y z/\n x y z)(k:p->∀ x y z,q x y z->m x y z->n x y z->r):r:=h.2.elim λx h1=>h1.elim λy h2=>h2.elim λz h3=>k h.1 x y z h3.1 h3.2.1 h3.2.2
theorem q7{p q:A->B->C->D->E->F->Prop}(h:∃ x y z u v w,p x y z u v w/\q x y z u v w)(k:∀ x y z u v w,p x y z u v w->q x y z u v w->r):r:=h.elim λx h=>h.elim λy h=>h.elim λz h=>h.elim λu h=>h.elim λv h=>h.elim λw h=>k x y z u v w h.1 h.2
theorem yu{p q m n:A->B->C->D->Prop}(h:∃ x y z u,p x y z u/\q x y z u/\m x y z u/\n x y z u)(k:∀ x y z u,p x y z u->q x y z u->m x y z u->n x y z u->r):r:=h.elim λx h=>h.elim λy h=>h.elim λz h=>h.elim λu h=>k x y z u h.1 h.2.1 h.2.2.1 h.2.2.2
theorem q8{p q m n l:A->B->C->Prop}(h:∃ x y z,p x y z/\q x y z/\m x y z/\n x y z/\l x y z)(k:∀ x y z,p x y z->q x y z->m x y z->n x y z->l x y z->r):r:=h.elim λx h=>h.elim λy h=>h.elim λz h=>k x y z h.1 h.2.1 h.2.2.1 h.2.2.2.1 h.2.2.2.2
theorem jJ{p q m n l e:A->B->Prop}(h:∃ x y,p x y/\q x y/\m x y/\n x y/\l x y/\e x y)(k:∀ x y,p x y->q x y->m x y->n x y->l x y->e x y->r):r:=h.elim λx h=>h.elim λy h=>k x y h.1 h.2.1 h.2.2.1 h.2.2.2.1 h.2.2.2.2.1 h.2.2.2.2.2
theorem yw{p:Prop}{q m n l e:A->B->Prop}(h:p/\∃ x y,q x y/\m x y/\n x y/\l x y/\e x y)(k:p->∀ x y,q x y->m x y->n x y->l x y->e x y->r):r:=h.2.elim λx h1=>h1.elim λy h2=>k h.1 x y h2.1 h2.2.1 h2.2.2.1 h2.2.2.2.1 h2.2.2.2.2
theorem oR{p q:A->B->C->D->E->F->G->Prop}(h:∃ x y z u v w s,p x y z u v w s/\q x y z u v w s)(k:∀ x y z u v w s,p x y z u v w s->q x y z u v w s->r):r:=h.elim λx h=>h.elim λy h=>h.elim λz h=>h.elim λu h=>h.elim λv h=>h.elim λw h=>h.elim λs h=>k x y z u v w s h.1 h.2
theorem aA{p q m n:A->B->C->D->E->Prop}(h:∃ x y z u v,p x y z u v/\q x y z u v/\m x y z u v/\n x y z u v)(k:∀ x y z u v,p x y z u v->q x y z u v->m x y z u v->n x y z u v->r):r:=h.elim λx h=>h.elim λy h=>h.elim λz h=>h.elim λu h=>h.elim λv h=>k x y z u v h.1 h.2.1 h.2.2.1 h.2.2.2
theorem oU{p q m n l e f:A->B->Prop}(h:∃ x y,p x y/\q x y/\m x y/\n x y/\l x y/\e x y/\f x y)(k:∀ x y,p x y->q x y->m x y->n x y->l x y->e x y->f x y->r):r:=h.elim λx h=>h.elim λy h=>k x y h.1 h.2.1 h.2.2.1 h.2.2.2.1 h.2.2.2.2.1 h.2.2.2.2.2.1 h.2.2.2.2.2.2
theorem vG{p:Prop}{q m n l e:A->B->C->Prop}(h:p/\∃ x y z,q x y z/\m x y z/\n x y z/\l x y z/\e x y z)(k:p->∀ x y z,q x y z->m x y z->n x y z->l x y z->e x y z->r):r:=h.2.elim λx h1=>h1.elim λy h2=>h2.elim λz h3=>k h.1 x y z h3.1 h3.2.1 h3.2.2.1 h3.2.2.2.1 h3.2.2.2.2
theorem vH{p:Prop}{q m n l e f:A->B->Prop}(h:p/\∃ x y,q x y/\m x y/\n x y/\l x y/\e x y/\f x y)(k:p->∀ x y,q x y->m x y->n x y->l x y->e x y->f x y->r):r:=h.2.elim λx h1=>h1.elim λy h2=>k h.1 x y h2.1 h2.2.1 h2.2.2.1 h2.2.2.2.1 h2.2.2.2.2.1 h2.2.2.2.2.2
theorem ng{p q m:A->B->C->D->E->F->G->Prop}(h:∃ x y z u v w s,p x y z u v w s/\q x y z u v w s/\m x y z u v w s)(k:∀ x y z u v w s,p x y z u v w s->q x y z u v w s->m x y z u v w s->r):r:=h.elim λx h=>h.elim λy h=>h.elim λz h=>h.elim λu h=>h.elim λv h=>h.elim λw h=>h.elim λs h=>k x y z u v w s h.1 h.2.1 h.2.2
theorem gv{p q m n l e:A->B->C->D->Prop}(h:∃ x y z u,p x y z u/\q x y z u/\m x y z u/\n x y z u/\l x y z u/\e x y z u)(k:∀ x y z u,p x y z u->q x y z u->m x y z u->n x y z u->l x y z u->e x y z u->r):r:=h.elim λx h=>h.elim λy h=>h.elim λz h=>h.elim λu h=>k x y z u h.1 h.2.1 h.2.2.1 h.2.2.2.1 h.2.2.2.2.1 h.2.2.2.2.2
theorem nh{p q m n l e f:A->B->C->Prop}(h:∃ x y z,p x y z/\q x y z/\m x y z/\n x y z/\l x y z/\e x y z/\f x y z)(k:∀ x y z,p x y z->q x y z->m x y z->n x y z->l x y z->e x y z->f x y z->r):r:=h.elim λx h=>h.elim λy h=>h.elim λz h=>k x y z h.1 h.2.1 h.2.2.1 h.2.2.2.1 h.2.2.2.2.1 h.2.2.2.2.2.1 h.2.2.2.2.2.2
theorem fD{p q m n l e f:A->B->C->D->Prop}(h:∃ x y z u,p x y z u/\q x y z u/\m x y z u/\n x y z u/\l x y z u/\e x y z u/\f x y z u)(k:∀ x y z u,p x y z u->q x y z u->m x y z u->n x y z u->l x y z u->e x y z u->f x y z u->r):r:=h.elim λx h=>h.elim λy h=>h.elim λz h=>h.elim λu h=>k x y z u h.1 h.2.1 h.2.2.1 h.2.2.2.1 h.2.2.2.2.1 h.2.2.2.2.2.1 h.2.2.2.2.2.2
theorem qE{p q m:A->B->C->D->Prop}{n l e f:A->B->C->D->E->Prop}(h:∃ x y z u,p x y z u/\q x y z u/\m x y z u/\∃ v,n x y z u v/\l x y z u v/\e x y z u v/\f x y z u v)(k:∀ x y z u,p x y z u->q x y z u->m x y z u->∀ v,n x y z u v->l x y z u v->e x y z u v->f x y z u v->r):r:=h.elim λx h=>h.elim λy h=>h.elim λz h=>h.elim λu h=>h.2.2.2.elim λv h5=>k x y z u h.1 h.2.1 h.2.2.1 v h5.1 h5.2.1 h5.2.2.1 h5.2.2.2
theorem qF{p q m n l e f g:A->B->C->D->Prop}(h:∃ x y z u,p x y z u/\q x y z u/\m x y z u/\n x y z u/\l x y z u/\e x y z u/\f x y z u/\g x y z u)(k:∀ x y z u,p x y z u->q x y z u->m x y z u->n x y z u->l x y z u->e x y z u->f x y z u->g x y z u->r):r:=h.elim λx h=>h.elim λy h=>h.elim λz h=>h.elim λu h=>k x y z u h.1 h.2.1 h.2.2.1 h.2.2.2.1 h.2.2.2.2.1 h.2.2.2.2.2.1 h.2.2.2.2.2.2.1 h.2.2.2.2.2.2.2
theorem jY{p q m n:A->B->C->Prop}{l:A->B->C->D->E->F->G->Prop}(h:∃ x y z,p x y z/\q x y z/\m x y z/\n x y z/\∃ u v w s,l x y z u v w s)(k:∀ x y z,p x y z->q x y z->m x y z->n x y z->∀ u v w s,l x y z u v w s->r):r:=h.elim λx h=>h.elim λy h=>h.elim λz h=>h.2.2.2.2.elim λu h4=>h4.elim λv h5=>h5.elim λw h6=>h6.elim λs h7=>k x y z h.1 h.2.1 h.2.2.1 h.2.2.2.1 u v w s h7
theorem jc{p q m n l e:A->B->C->D->E->F->G->Prop}(h:∃ x y z u v w s,p x y z u v w s/\q x y z u v w s/\m x y z u v w s/\n x y z u v w s/\l x y z u v w s/\e x y z u v w s)(k:∀ x y z u v w s,p x y z u v w s->q x y z u v w s->m x y z u v w s->n x y z u v w s->l x y z u v w s->e x y z u v w s->r):r:=h.elim λx h=>h.elim λy h=>h.elim λz h=>h.elim λu h=>h.elim λv h=>h.elim λw h=>h.elim λs h=>k x y z u v w s h.1 h.2.1 h.2.2.1 h.2.2.2.1 h.2.2.2.2.1 h.2.2.2.2.2
theorem jd{p q m n l e f:A->B->C->D->E->F->Prop}(h:∃ x y z u v w,p x y z u v w/\q x y z u v w/\m x y z u v w/\n x y z u v w/\l x y z u v w/\e x y z u v w/\f x y z u v w)(k:∀ x y z u v w,p x y z u v w->q x y z u v w->m x y z u v w->n x y z u v w->l x y z u v w->e x y z u v w->f x y z u v w->r):r:=h.elim λx h=>h.elim λy h=>h.elim λz h=>h.elim λu h=>h.elim λv h=>h.elim λw h=>k x y z u v w h.1 h.2.1 h.2.2.1 h.2.2.2.1 h.2.2.2.2.1 h.2.2.2.2.2.1 h.2.2.2.2.2.2
theorem oV{p q m n l e f g:A->B->C->D->E->Prop}(h:∃ x y z u v,p x y z u v/\q x y z u v/\m x y z u v/\n x y z u v/\l x y z u v/\e x y z u v/\f x y z u v/\g x y z u v)(k:∀ x y z u v,p x y z u v->q x y z u v->m x y z u v->n x y z u v->l x y z u v->e x y z u v->f x y z u v->g x y z u v->r):r:=h.elim λx h=>h.elim λy h=>h.elim λz h=>h.elim λu h=>h.elim λv h=>k x y z u v h.1 h.2.1 h.2.2.1 h.2.2.2.1 h.2.2.2.2.1 h.2.2.2.2.2.1 h.2.2.2.2.2.2.1 h.2.2.2.2.2.2.2
theorem iS{p q m n l e f:A->B->C->D->E->F->G->Prop}(h:∃ x y z u v w s,p x y z u v w s/\q x y z u v w s/\m x y z u v w s/\n x y z u v w s/\l x y z u v w s/\e x y z u v w s/\f x y z u v w s)(k:∀ x y z u v w s,p x y z u v w s->q x y z u v w s->m x y z u v w s->n x y z u v w s->l x y z u v w s->e x y z u v w s->f x y z u v w s->r):r:=h.elim λx h=>h.elim λy h=>h.elim λz h=>h.elim λu h=>h.elim λv h=>h.elim λw h=>h.elim λs h=>k x y z u v w s h.1 h.2.1 h.2.2.1 h.2.2.2.1 h.2.2.2.2.1 h.2.2.2.2.2.1 h.2.2.2.2.2.2
theorem nX{p q m:A->B->C->D->Prop}{n l e f g:A->B->C->D->E->F->Prop}(h:∃ x y z u,p x y z u/\q x y z u/\m x y z u/\∃ v w,n x y z u v w/\l x y z u v w/\e x y z u v w/\f x y z u v w/\g x y z u v w)(k:∀ x y z u,p x y z u->q x y z u->m x y z u->∀ v w,n x y z u v w->l x y z u v w->e x y z u v w->f x y z u v w->g x y z u v w->r):r:=h.elim λx h=>h.elim λy h=>h.elim λz h=>h.elim λu h=>h.2.2.2.elim λv h5=>h5.elim λw h6=>k x y z u h.1 h.2.1 h.2.2.1 v w h6.1 h6.2.1 h6.2.2.1 h6.2.2.2.1 h6.2.2.2.2
theorem iT{p q m n l:A->B->C->D->Prop}{e f g o:A->B->C->D->E->Prop}(h:∃ x y z u,p x y z u/\q x y z u/\m x y z u/\n x y z u/\l x y z u/\∃ v,e x y z u v/\f x y z u v/\g x y z u v/\o x y z u v)(k:∀ x y z u,p x y z u->q x y z u->m x y z u->n x y z u->l x y z u->∀ v,e x y z u v->f x y z u v->g x y z u v->o x y z u v->r):r:=h.elim λx h=>h.elim λy h=>h.elim λz h=>h.elim λu h=>h.2.2.2.2.2.elim λv h5=>k x y z u h.1 h.2.1 h.2.2.1 h.2.2.2.1 h.2.2.2.2.1 v h5.1 h5.2.1 h5.2.2.1 h5.2.2.2
theorem kJ{p q m n l e f g:A->B->C->D->E->F->G->H->Prop}(h:∃ x y z u v w s t,p x y z u v w s t/\q x y z u v w s t/\m x y z u v w s t/\n x y z u v w s t/\l x y z u v w s t/\e x y z u v w s t/\f x y z u v w s t/\g x y z u v w s t)(k:∀ x y z u v w s t,p x y z u v w s t->q x y z u v w s t->m x y z u v w s t->n x y z u v w s t->l x y z u v w s t->e x y z u v w s t->f x y z u v w s t->g x y z u v w s t->r):r:=h.elim λx h=>h.elim λy h=>h.elim λz h=>h.elim λu h=>h.elim λv h=>h.elim λw h=>h.elim λs h=>h.elim λt h=>k x y z u v w s t h.1 h.2.1 h.2.2.1 h.2.2.2.1 h.2.2.2.2.1 h.2.2.2.2.2.1 h.2.2.2.2.2.2.1 h.2.2.2.2.2.2.2
theorem gw{p q m n l e f g o:A->B->C->D->E->F->G->Prop}(h:∃ x y z u v w s,p x y z u v w s/\q x y z u v w s/\m x y z u v w s/\n x y z u v w s/\l x y z u v w s/\e x y z u v w s/\f x y z u v w s/\g x y z u v w s/\o x y z u v w s)(k:∀ x y z u v w s,p x y z u v w s->q x y z u v w s->m x y z u v w s->n x y z u v w s->l x y z u v w s->e x y z u v w s->f x y z u v w s->g x y z u v w s->o x y z u v w s->r):r:=h.elim λx h=>h.elim λy h=>h.elim λz h=>h.elim λu h=>h.elim λv h=>h.elim λw h=>h.elim λs h=>k x y z u v w s h.1 h.2.1 h.2.2.1 h.2.2.2.1 h.2.2.2.2.1 h.2.2.2.2.2.1 h.2.2.2.2.2.2.1 h.2.2.2.2.2.2.2.1 h.2.2.2.2.2.2.2.2
end
end Mp
section
open PySem
namespace Mp
inductive V where
 | none
 | bool (b:Bool)
 | int (i:Int)
 | str (s:Str)
 | list (xs:List V)
 | tuple (xs:List V)
 | ref (a:Addr)
 | bi (id:String)
 | ty (n:String)
 | q9 (a b c:Int)
 deriving Inhabited
theorem FA{P:Addr->Prop}:∀ b∈([]:List Addr),P b:=λZ h=>nomatch h
theorem ik{P:Addr->Prop}{a:Addr}{l:List Addr}(p:P a)(q:∀ b∈l,P b):∀ b∈a::l,P b:=λb h=>(mem_cons.mp h).elim (λe=>e▸p) (q b)
theorem sz{P:Addr->Prop}{a:Addr}(p:P a):∀ b∈[a],P b:=ik p FA
theorem Nj{a:Addr}{l:List Addr}:a∈a::l:=.head _
theorem in1{a b:Addr}{l:List Addr}:a∈b::a::l:=.tail _ (.head _)
noncomputable abbrev Own:=Addr->Option Addr
inductive RV(own:Own)(h:Heap):Value->V->Prop where
 | xk:RV own h .none .none
 | bool (b:Bool):RV own h (.bool b) (.bool b)
 | int (i:Int) (t:Tok):RV own h (.int i t) (.int i)
 | str (s:Str) (t:Tok):RV own h (.str s t) (.str s)
 | ref (a:Addr):RV own h (.ref a) (.ref a)
 | bi (id:String):RV own h (.builtin id) (.bi id)
 | ty (n:String):RV own h (.type n) (.ty n)
 | list {a:Addr} {d:Option Addr} {vs:Array Value} {n:Nat} {sl:Array (Option Value)} {xs:List V} (ho:h.get? a=some ⟨.type "list",d,.seq vs n,sl⟩) (hn:own a=none)
   (hz:vs.size=xs.length) (hi:∀ (i:Nat) (v:Value) (x:V),vs[i]?=some v->xs[i]?=some x->RV own h v x):RV own h (.ref a) (.list xs)
 | tuple {a:Addr} {d:Option Addr} {vs:Array Value} {n:Nat} {sl:Array (Option Value)} {xs:List V} (ho:h.get? a=some ⟨.type "tuple",d,.seq vs n,sl⟩) (hn:own a=none)
   (hz:vs.size=xs.length) (hi:∀ (i:Nat) (v:Value) (x:V),vs[i]?=some v->xs[i]?=some x->RV own h v x):RV own h (.ref a) (.tuple xs)
 | q9 {r:Addr} {a b c:Int} {t u v:Tok} (ho:IsRange h r a b c t u v) (hn:own r=none):RV own h (.ref r) (.q9 a b c)
theorem cons_of{vs:List Value}{n:Nat}(h:vs.length=n+1):∃ v us,vs=v::us/\us.length=n:=by
 cases vs with
 | nil=>cases h
 | cons v us=>exact (ez v us rfl (Nat.succ.inj h))
theorem sA{α:Type}{a:α}{vs:List Value}(h:vs.length=[a].length):∃ v,vs=[v]:=List.length_eq_one_iff.mp h
theorem kK{α:Type}{a b:α}{vs:List Value}(h:vs.length=[a,b].length):∃ v u,vs=[v,u] :=
 bW (cons_of h) λv us e h=>bw (sA (a:=b) h) λu e2=>kG v u (e.trans (congrArg _ e2))
theorem xl{α:Type}{a b c:α}{vs:List Value}(h:vs.length=[a,b,c].length):∃ v u w,vs=[v,u,w] :=
 bW (cons_of h) λv us e h=>ij (kK (a:=b) (b:=c) h) λu w e2=>xi v u w (e.trans (congrArg _ e2))
theorem xm{α:Type}{a b c d:α}{vs:List Value}(h:vs.length=[a,b,c,d].length):∃ v u w x,vs=[v,u,w,x] :=
 bW (cons_of h) λv us e h=>jW (xl (a:=b) (b:=c) (c:=d) h) λu w x e2=>l9 v u w x (e.trans (congrArg _ e2))
theorem l1{α:Type}{a:α}{M:List Value->Prop}(k:∀ v,M [v])(vs:List Value)(h:vs.length=[a].length):M vs:=bw (sA h) λv e=>e.symm▸k v
theorem l2{α:Type}{a b:α}{M:List Value->Prop}(k:∀ v u,M [v,u])(vs:List Value)(h:vs.length=[a,b].length):M vs:=ij (kK h) λv u e=>e.symm▸k v u
theorem l3{α:Type}{a b c:α}{M:List Value->Prop}(k:∀ v u w,M [v,u,w])(vs:List Value)(h:vs.length=[a,b,c].length):M vs:=jW (xl h) λv u w e=>e.symm▸k v u w
theorem l4{α:Type}{a b c d:α}{M:List Value->Prop}(k:∀ v u w x,M [v,u,w,x])(vs:List Value)(h:vs.length=[a,b,c,d].length):M vs:=eT (xm h) λv u w x e=>e.symm▸k v u w x
theorem xn{α:Type}{a b:α}{vs:Array Value}(h:vs.size=[a,b].length):∃ v u,vs=#[v,u]:=by
 rcases vs with ⟨l⟩
 exact ij (kK (a:=a) (b:=b) h) λv u e=>kG v u (congrArg _ e)
noncomputable def Nk (v:Value):V->Prop
 | .int i=>∃ t,v=.int i t
 | .str x=>∃ t,v=.str x t
 | _=>∀ P:Prop,P->P
noncomputable def Nl (v:Value):V->Prop
 | .none=>v=.none
 | .bool b=>v=.bool b
 | .ref a=>v=.ref a
 | .bi i=>v=.builtin i
 | .ty n=>v=.type n
 | _=>∀ P:Prop,P->P
theorem RV.a1{own:Own}{h:Heap}{v:Value}{x:V}(r:RV own h v x):Nk v x:=by
 cases r <;> first | exact (bJ _ rfl) | exact λZ p=>p
theorem RV.a0{own:Own}{h:Heap}{v:Value}{x:V}(r:RV own h v x):Nl v x:=by
 cases r <;> first | exact rfl | exact λZ p=>p
section
variable {own:Own}{h:Heap}{v:Value}{M:Value->Prop}
@[elab_as_elim] theorem RV.ua{xs:List V}(r:RV own h v (.list xs))(k:∀ a d vs n sl,h.get? a=some ⟨.type "list",d,.seq vs n,sl⟩->own a=none->vs.size=xs.length->(∀ (i:Nat) (v:Value) (x:V),vs[i]?=some v->xs[i]?=some x->RV own h v x)->M (.ref a)):M v:=by
 cases r with
 | list ho hn hz hi=>exact k _ _ _ _ _ ho hn hz hi
@[elab_as_elim] theorem RV.yx{xs:List V}(r:RV own h v (.tuple xs))(k:∀ a d vs n sl,h.get? a=some ⟨.type "tuple",d,.seq vs n,sl⟩->own a=none->vs.size=xs.length->(∀ (i:Nat) (v:Value) (x:V),vs[i]?=some v->xs[i]?=some x->RV own h v x)->M (.ref a)):M v:=by
 cases r with
 | tuple ho hn hz hi=>exact k _ _ _ _ _ ho hn hz hi
@[elab_as_elim] theorem RV.Dd{a b c:Int}(r:RV own h v (.q9 a b c))(k:∀ r t u w,IsRange h r a b c t u w->own r=none->M (.ref r)):M v:=by
 cases r with
 | q9 ho hn=>exact k _ _ _ _ ho hn
@[elab_as_elim] theorem RV.Nm{n:String}(r:RV own h v (.ty n))(k:M (.type n)):M v:=(RV.a0 r:v=.type n).symm▸k
noncomputable def V0:V->Value
 | .bool b=>.bool b
 | .ref a=>.ref a
 | .bi i=>.builtin i
 | .ty n=>.type n
 | _=>.none
noncomputable def Nn:V->Bool
 | .none=>true
 | .bool _=>true
 | .ref _=>true
 | .bi _=>true
 | .ty _=>true
 | _=>false
@[elab_as_elim] theorem RV.e0{x:V}(r:RV own h v x)(hx:Nn x=true)(k:M (V0 x)):M v:=by
 have e:v=V0 x:=by
  cases x with
  | none=>exact RV.a0 r
  | bool b=>exact RV.a0 r
  | ref b=>exact RV.a0 r
  | bi b=>exact RV.a0 r
  | ty b=>exact RV.a0 r
  | _=>exact Bool.noConfusion (hx:false=true)
 exact e▸k
noncomputable def V1 (t:Tok):V->Value
 | .int i=>.int i t
 | .str x=>.str x t
 | _=>.none
noncomputable def Np:V->Bool
 | .int _=>true
 | .str _=>true
 | _=>false
@[elab_as_elim] theorem RV.e1{x:V}(r:RV own h v x)(hx:Np x=true)(k:∀ t,M (V1 t x)):M v:=by
 have e:∃ t,v=V1 t x:=by
  cases x with
  | int b=>exact RV.a1 r
  | str b=>exact RV.a1 r
  | _=>exact Bool.noConfusion (hx:false=true)
 exact bw e λt e=>e▸k t
end
def qG(o:Obj):Prop:=((o.cls=.type "list"\/o.cls=.type "tuple")/\∃ vs n,o.data=.seq vs n)\/(o.cls=.type "range"/\∃ vs,o.data=.fields vs)
theorem qG.cls{o:Obj}(f:qG o):o.cls≠.type "frame"/\o.cls≠.none:=by
 rcases f with ⟨f | f,_⟩ | ⟨f,_⟩ <;> (rw [f];decide)
theorem fE{o:Obj}{es:Array DictEntry}{n:Nat}(e:o.data=.dict es n):¬ qG o:=by
 rintro (⟨_,vs,n,q⟩ | ⟨_,vs,q⟩) <;> (rw [e] at q;cases q)
theorem qG.nodict{o:Obj}(f:qG o):∀ es n,o.data≠.dict es n:=λes n e=>fE e f
theorem kL{o:Obj}{v:Option Value}(e:o.data=.cell v):¬ qG o:=by
 rintro (⟨_,vs,n,q⟩ | ⟨_,vs,q⟩) <;> (rw [e] at q;cases q)
def bV(own:Own)(h:Heap)(vs:List Value)(xs:List V):Prop:=vs.length=xs.length/\∀ (i:Nat) (v:Value) (x:V),vs[i]?=some v->xs[i]?=some x->RV own h v x
inductive Cell where
 | list (xs:List V)
 | dict (es:List (Int×V))
 | bF (es:List (Int×V))
 | set (S:Int->Bool) (n:Nat)
 | inst (c:Addr) (fs:List (Str×V))
 | slots (c:Addr) (fs:List (Option V))
 | iter (xs:V) (i:Nat)
 | De (id:String) (l:Addr)
 | tab
 | oW (T:String)
noncomputable abbrev Cells:=Addr->Option Cell
noncomputable abbrev Loc:=List (Str×V)
noncomputable def upd (cells:Cells) (a:Addr) (c:Option Cell):Cells:=λb=>if b=a then c else cells b
noncomputable def b9 (prog:Program) (w:World) (own:Own) (h:Heap) (a:Addr):Cell->Prop
 | .list xs=>∃ vs n,h.get? a=some ⟨.type "list",none,.seq vs n,#[]⟩/\bV own h vs.toList xs
 | .dict es=>∃ bI,h.DictOf (intKind prog w) a bI/\bI.map (·.1)=es.map (·.1)/\bV own h (bI.map (·.2)) (es.map (·.2))
 | .bF es=>∃ bI,h.DictOf (intKind prog w) a bI/\bI.map (·.1)=es.map (·.1)/\bV own h (bI.map (·.2)) (es.map (·.2))
 | .set S n=>h.SetOf (intKind prog w) a S n
 | .inst c fs=>∃ d m sl,h.get? a=some ⟨.ref c,some d,.plain,sl⟩/\own d=some a/\d≠a/\h.Ns1 d m/\∀ x,(fs.lookup x=none->m x=none)/\(∀ mv,fs.lookup x=some mv->∃ v,m x=some v/\RV own h v mv)
 | .slots c fs=>∃ d sl,h.get? a=some ⟨.ref c,some d,.plain,sl⟩/\own d=some a/\d≠a/\h.Ns d (λZ=>none)/\sl.size=fs.length/\∀ (i:Nat) (v:Option Value) (x:Option V),sl[i]?=some v->fs[i]?=some x->(v=none/\x=none)\/∃ u y,v=some u/\x=some y/\RV own h u y
 | .iter xs i=>∃ it l,h.get? a=some ⟨.type "method-wrapper",none,.fields #[.builtin "list_iterator.__next__",.ref it],#[]⟩/\own it=some a/\it≠a/\h.IsListIter it l i/\RV own h (.ref l) xs
 | .De id l=>h.get? a=some ⟨.type "builtin_function_or_method",none,.fields #[.builtin id,.ref l],#[]⟩
 | .tab=>∃ ps,h.get? a=some (PySem.W.tabObj ps)/\TriplesOk ps.toList
 | .oW T=>∃ o,h.get? a=some o/\o.cls=.type T
set_option genInjectivity false in
structure Cx where
 prog:Program
 w:World
 h₀:Heap
 os:OsState
 mg:Str->Option Value
 mb:Str->Option Value
 glob:List (Str×V)
 hg:h₀.Ns mainGlobals mg
 hb:h₀.Ns builtinsNs mb
 Df:h₀.NoLimit
 K:PySem.W.Frag
 hK:K.In h₀
 HA:∀ a o,K.lookup a=some o->o.cls≠.none
 HB:∃ o,h₀.get? sysModules=some o
 gx:List Addr
 xo:∀ x mv,glob.lookup x=some mv->∃ v,(mg x=some v\/(mg x=none/\mb x=some v))/\RV (λZ=>none) {} v mv
noncomputable abbrev Cx.push (X:Cx) (L:Addr):Cx:={ X with gx:=L::X.gx}
def vI(h₀:Heap)(own:Own)(h:Heap)(L:Addr):Prop:=own L=none/\∃ o es n,h.get? L=some o/\o.data=.dict es n/\h₀.get? L=none
theorem vI.mono{h₀:Heap}{own own':Own}{h h':Heap}{L:Addr}(f:vI h₀ own h L)(hk:∀ o,h.get? L=some o->h'.get? L=some o)(ho:∀ o,h.get? L=some o->own L=none->own' L=none):vI h₀ own' h' L:=sy f λn o es k e d=>xj (ho o e n) o es k (hk o e) d
structure HC(env:Env):Prop where
 kind:env.scope.kind=.function
 glob:env.globals=mainGlobals
 blt:env.builtins=builtinsNs
def Fa(env:Env)(b:Addr):Prop:=b=env.locals\/∃ x,env.kindOf x=some .cell/\env.cells.lookup x=some b
def qH(_:Addr):Prop:=False
def bj(k:Option NameKind):Prop:=k=some .cell\/k=some .free
def Tab(o:Obj):Prop:=o.cls=.none/\∃ vs,o.data=.fields vs
def kM(env:Env)(h:Heap)(x:Str)(P:Value->Prop):Prop :=
 (env.kindOf x=some .local/\∃ m v,h.Ns env.locals m/\m x=some v/\P v)\/(bj (env.kindOf x)/\∃ c v,env.cells.lookup x=some c/\h.IsCell c (some v)/\P v)
structure aN(h₀:Heap)(env:Env)(own:Own)(h:Heap)(loc:Loc):Prop where
 ns:∃ m,h.Ns env.locals m
 dy:own env.locals=none
 eO:h₀.get? env.locals=none
 i6:∀ x,bj (env.kindOf x)->∃ c v₀,env.cells.lookup x=some c/\h.IsCell c v₀/\own c=none/\h₀.get? c=none
 inj:∀ x y c,bj (env.kindOf x)->bj (env.kindOf y)->env.cells.lookup x=some c->env.cells.lookup y=some c->x=y
 var:∀ x mv,loc.lookup x=some mv->kM env h x λv=>RV own h v mv
structure Base(X:Cx)(own:Own)(cells:Cells)(s:Shared):Prop where
 old:OldK X.h₀ s.heap
 hg:s.heap.Ns mainGlobals X.mg
 hb:s.heap.Ns builtinsNs X.mb
 nolimit:s.heap.NoLimit
 gens:AllBare s.gens
 os:s.os=X.os
 new:∀ b a,own b=some a->X.h₀.get? b=none
 lt:∀ b a,own b=some a->∃ o,s.heap.get? b=some o
 cell:∀ a c,cells a=some c->own a=some a/\b9 X.prog X.w own s.heap a c
 gx:∀ L∈X.gx,vI X.h₀ own s.heap L
structure Inv(X:Cx)(env:Env)(own:Own)(loc:Loc)(cells:Cells)(s:Shared):Prop where
 base:Base X own cells s
 ok:HC env
 fr:aN X.h₀ env own s.heap loc
def qI(o o':Obj):Prop:=o'.cls=o.cls/\o'.data=o.data/\((∀ es n,o.data≠.dict es n)->o'=o)
def Still(cells:Cells)(a:Addr):Prop:=cells a=none\/∃ es,cells a=some (.bF es)
theorem Still.of{c c':Cells}{a:Addr}(h:Still c a)(e:c' a=c a):Still c' a:=h.elim (λq=>.inl (e.trans q)) λeC=>bw eC λes q=>.inr (bJ es (e.trans q))
structure Ext(F:Addr->Prop)(own:Own)(cells:Cells)(h:Heap)(own':Own)(cells':Cells)(h':Heap):Prop where
 keep:∀ b o,h.get? b=some o->own b=none->¬ F b->¬ Tab o->∃ o',h'.get? b=some o'/\qI o o'
 de:∀ b o,h.get? b=some o->own b=none->own' b=none
 there:∀ b o,h.get? b=some o->∃ o',h'.get? b=some o'
 gP:∀ b a o,h.get? b=some o->own b=some a->Still cells a/\a=b->h'.get? b=some o/\own' b=some a/\(cells' a=cells a/\a=b)
theorem qI.refl(o:Obj):qI o o:=⟨rfl,rfl,λZ=>rfl⟩
theorem qI.trans{a b c:Obj}(x:qI a b)(y:qI b c):qI a c:=⟨y.1.trans x.1,y.2.1.trans x.2.1,λh=>(y.2.2 (by rw [x.2.1];exact h)).trans (x.2.2 h)⟩
theorem qI.tab{a b:Obj}(x:qI a b)(n:¬ Tab a):¬ Tab b:=λfR=>Dc fR λp vs q=>n (iPDP (x.1▸p) vs (x.2.1▸q))
theorem Ext.refl{F:Addr->Prop}{own:Own}{cells:Cells}{h:Heap}:Ext F own cells h own cells h:=⟨λZ o e Z Z Z=>⟨o,e,.refl o⟩,λZ Z Z e=>e,λZ o e=>⟨o,e⟩,λb a o e q n=>(aX e q rfl n.2)⟩
theorem Ext.trans{F:Addr->Prop}{o1 o2 o3:Own}{c1 c2 c3:Cells}{h1 h2 h3:Heap}(a:Ext F o1 c1 h1 o2 c2 h2)(b:Ext F o2 c2 h2 o3 c3 h3):Ext F o1 c1 h1 o3 c3 h3 :=
 ⟨λc o e n f k=>aj (a.keep c o e n f k) λo' e' l=>aj (b.keep c o' e' (a.de c o e n) f (l.tab k)) λo2 e2 l2=>iDPP o2 e2 (l.trans l2),λc o e n=>bw (a.there c o e) λo' e'=>b.de c o' e' (a.de c o e n),λc o e=>bw (a.there c o e) λo' e'=>b.there c o' e',
 λd x o e q n=>dj (a.gP d x o e q n) λp1 p2 p3 p4=>dj (b.gP d x o p1 p2 ⟨n.1.of p3,p4⟩) λq1 q2 q3 q4=>aX q1 q2 (q3.trans p3) q4⟩
theorem Ext.weak{F G:Addr->Prop}{o1 o2:Own}{c1 c2:Cells}{h1 h2:Heap}(hf:∀ b,F b->G b)(a:Ext F o1 c1 h1 o2 c2 h2):Ext G o1 c1 h1 o2 c2 h2:=⟨λc o e n f k=>a.keep c o e n (λq=>f (hf c q)) k,a.de,a.there,a.gP⟩
theorem Ext.fF{F:Addr->Prop}{o1 o2:Own}{c1 c2:Cells}{h1 h2:Heap}(a:Ext qH o1 c1 h1 o2 c2 h2):Ext F o1 c1 h1 o2 c2 h2:=a.weak λZ f=>f.elim
theorem Ext.of_keeps{F:Addr->Prop}{own:Own}{cells:Cells}{h h':Heap}(hk:∀ b o,h.get? b=some o->h'.get? b=some o):Ext F own cells h own cells h':=⟨λb o e Z Z Z=>⟨o,hk b o e,.refl o⟩,λZ Z Z e=>e,λb o e=>⟨o,hk b o e⟩,λb a o e q n=>(aX (hk b o e) q rfl n.2)⟩
section
variable {X:Cx}{env:Env}{own own':Own}{loc:Loc}{cells cells':Cells}{s:Shared}{h h':Heap}{v:Value}{x:V}
theorem RV.mono(hk:∀ b o,h.get? b=some o->own b=none->qG o->h'.get? b=some o)(ho:∀ b o,h.get? b=some o->own b=none->own' b=none)(r:RV own h v x):RV own' h' v x:=by
 induction r with
 | xk=>exact .xk
 | bool b=>exact .bool b
 | int i t=>exact .int i t
 | str s t=>exact .str s t
 | ref a=>exact .ref a
 | bi i=>exact .bi i
 | ty n=>exact .ty n
 | list e hn hz _ ih=>exact .list (hk _ _ e hn (.inl (t8 (.inl rfl) _ _ rfl))) (ho _ _ e hn) hz ih
 | tuple e hn hz _ ih=>exact .tuple (hk _ _ e hn (.inl (t8 (.inr rfl) _ _ rfl))) (ho _ _ e hn) hz ih
 | q9 e hn=>exact .q9 (hk _ _ e hn (.inr (iPDP rfl _ rfl))) (ho _ _ e hn)
theorem RV.keeps(hk:∀ b o,h.get? b=some o->h'.get? b=some o)(r:RV own h v x):RV own h' v x:=r.mono (λb o e Z Z=>hk b o e) λZ Z Z e=>e
theorem bV.mono{vs:List Value}{xs:List V}(hk:∀ v x,RV own h v x->RV own' h' v x)(r:bV own h vs xs):bV own' h' vs xs:=⟨r.1,λi v x a b=>hk v x (r.2 i v x a b)⟩
theorem bV.nil:bV own h [] []:=⟨rfl,λi v x e=>by simp at e⟩
theorem bV.cons{vs:List Value}{xs:List V}(r:RV own h v x)(rs:bV own h vs xs):bV own h (v::vs) (x::xs):=by
 apply ⟨by simp [rs.1],λi a b p q=>?_⟩
 cases i with
 | zero=>simp at p q;subst p q;exact r
 | succ i=>simp at p q;exact rs.2 i a b p q
theorem bV.cW{vs:List Value}{xs:List V}(r:bV own h vs (x::xs)):∃ v je,vs=v::je/\RV own h v x/\bV own h je xs:=by
 cases vs with
 | nil=>exact absurd r.1 (by simp)
 | cons v je=>exact (aH v je rfl (r.2 0 v x rfl rfl) (⟨by simpa using r.1,λi a b p q=>r.2 (i+1) a b (by simpa using p) (by simpa using q)⟩))
theorem bV.rh{vs:List Value}(r:bV own h vs []):vs=[]:=List.length_eq_zero_iff.mp r.1
theorem bV.one{h:Heap}{vs:List Value}{x:V}(r:bV own h vs [x]):∃ v,vs=[v]/\RV own h v x:=by
 (apply ay r.cW ?_;intro v je aM;subst aM;intro a b)
 exact (iDPP v (by rw [b.rh]) a)
theorem bV.two{h:Heap}{vs:List Value}{x y:V}(r:bV own h vs [x,y]):∃ v u,vs=[v,u]/\RV own h v x/\RV own h u y:=by
 (apply ay r.cW ?_;intro v je bk;subst bk;intro a b)
 (apply aj b.one ?_;intro u bN;subst bN;intro c)
 exact (aH v u rfl a c)
@[elab_as_elim] theorem bV.e1{vs:List Value}{x:V}{M:List Value->Prop}(r:bV own h vs [x])(k:∀ v,RV own h v x->M [v]):M vs:=aj r.one λv e a=>e.symm▸k v a
theorem bV.append{vs ws:List Value}{xs ys:List V}(r:bV own h vs xs)(q:bV own h ws ys):bV own h (vs++ws) (xs++ys):=by
 induction xs generalizing vs with
 | nil=>rw [r.rh];exact q
 | cons x xs ih=>(apply ay r.cW ?_;intro v je aM;subst aM;intro a b);exact .cons a (ih b)
theorem bV.get{vs:List Value}{xs:List V}(r:bV own h vs xs){i:Nat}{x:V}(e:xs[i]?=some x):∃ v,vs[i]?=some v/\RV own h v x:=by
 have hl:i<vs.length:=by rw [r.1];exact (List.getElem?_eq_some_iff.mp e).1
 exact (iDPP (vs[i]) (getElem?_eq_getElem hl) (r.2 i _ _ (getElem?_eq_getElem hl) e))
theorem EN{o:Obj}{vs:Array Value}{n:Nat}(e:o.data=.seq vs n):¬ Tab o:=λ⟨_,_,q⟩=>by rw [e] at q;cases q
theorem fG{o:Obj}{es:Array DictEntry}{n:Nat}(e:o.data=.dict es n):¬ Tab o:=λ⟨_,_,q⟩=>by rw [e] at q;cases q
theorem kN{o:Obj}{v:Option Value}(e:o.data=.cell v):¬ Tab o:=λ⟨_,_,q⟩=>by rw [e] at q;cases q
theorem jf{o:Obj}(e:o.cls≠.none):¬ Tab o:=λq=>e q.1
theorem kM.conv{x:Str}{P Q:Value->Prop}(EO:∀ m v,h.Ns env.locals m->m x=some v->P v->∃ m' v',h'.Ns env.locals m'/\m' x=some v'/\Q v')(hc:∀ c v,bj (env.kindOf x)->env.cells.lookup x=some c->h.IsCell c (some v)->P v->∃ v',h'.IsCell c (some v')/\Q v')(r:kM env h x P):kM env h' x Q :=
 r.imp (.imp_right λq=>ay q EO) λq=>⟨q.1,ay q.2 λc v a b d=>aj (hc c v q.1 a b d) λv' b' d'=>aH c v' a b' d'⟩
theorem kM.Mb{x:Str}{P:Value->Prop}(hk:env.kindOf x=some .cell)(r:kM env h x P):∃ c v,env.cells.lookup x=some c/\h.IsCell c (some v)/\P v:=r.elim (λq=>nomatch hk.symm.trans q.1) And.right
theorem kM.mono{x:Str}{P Q:Value->Prop}(EO:∀ m,h.Ns env.locals m->h'.Ns env.locals m)(hc:∀ c v,bj (env.kindOf x)->env.cells.lookup x=some c->h.IsCell c v->h'.IsCell c v)(hp:∀ v,P v->Q v)(r:kM env h x P):kM env h' x Q:=r.conv (λm v a b c=>aH m v (EO m a) b (hp v c)) λc v k a b d=>iDPP v (hc c _ k a b) (hp v d)
theorem aN.ip{h₀:Heap}(F:aN h₀ env own h loc){b:Addr}{o:Obj}(f:Fa env b)(e:h.get? b=some o)(hd:qG o):False:=by
 rcases f with rfl | ⟨x,hx,hl⟩
 ·apply kI F.ns λm o' es ep e' nY Z=>?_
  rw [e] at e';cases e';exact fE nY hd
 ·(apply ay (F.i6 x (.inl hx)) ?_;intro c v₀ iU bk Z;apply aj bk ?_;clear bk;intro o' e' nY)
  rw [hl] at iU;cases iU
  rw [e] at e';cases e';exact kL nY hd
theorem RV.HD{F:Addr->Prop}(hF:∀ b o,F b->h.get? b=some o->qG o->False)(x:Ext F own cells h own' cells' h'){v:Value}{y:V}(r:RV own h v y):RV own' h' v y :=
 r.mono (λb o e n d=>aj (x.keep b o e n (λf=>hF b o f e d) (jf d.cls.2)) λo' e' l=>l.2.2 d.nodict▸e') x.de
theorem RV.ub(x:Ext qH own cells h own' cells' h'){v:Value}{y:V}(r:RV own h v y):RV own' h' v y:=r.HD (λZ Z f=>f.elim) x
theorem bV.ub(x:Ext qH own cells h own' cells' h'){vs:List Value}{ys:List V}(r:bV own h vs ys):bV own' h' vs ys:=r.mono λZ Z q=>q.ub x
theorem RV.ext(I:Inv X env own loc cells s)(x:Ext (Fa env) own cells s.heap own' cells' h'){v:Value}{y:V}(r:RV own s.heap v y):RV own' h' v y :=
 r.HD (λZ Z f e d=>I.fr.ip f e d) x
theorem bV.ext(I:Inv X env own loc cells s)(x:Ext (Fa env) own cells s.heap own' cells' h'){vs:List Value}{ys:List V}(r:bV own s.heap vs ys):bV own' h' vs ys:=r.mono λZ Z q=>q.ext I x
theorem jg{h:Heap}{a:Addr}{m:Str->Option Value}(p:h.Ns a m):∃ o,h.get? a=some o:=cw p λo Z Z e Z=>bJ o e
theorem iq{h:Heap}{a:Addr}{v:Option Value}(p:h.IsCell a v):∃ o,h.get? a=some o:=aj p λo e Z=>bJ o e
theorem kO{h h':Heap}{a:Addr}{m:Str->Option Value}(hk:∀ o,h.get? a=some o->h'.get? a=some o)(p:h.Ns a m):h'.Ns a m:=cw p λo es ep e r=>dw o es ep (hk o e) r
theorem rj{h h':Heap}{a:Addr}{v:Option Value}(hk:∀ o,h.get? a=some o->h'.get? a=some o)(p:h.IsCell a v):h'.IsCell a v:=aj p λo e d=>iDPP o (hk o e) d
theorem aN.ext{h₀:Heap}(F:aN h₀ env own h loc)(x:Ext qH own cells h own' cells' h'):aN h₀ env own' h' loc :=
 have ns:∀ m,h.Ns env.locals m->h'.Ns env.locals m:=λm q=>eg q λo es ep e d r=>aj (x.keep _ _ e F.dy id (fG d)) λo' e' l=>iDDDPPP o' es ep e' (l.2.1.trans d) r
 have ic:∀ {y c v},bj (env.kindOf y)->env.cells.lookup y=some c->h.IsCell c v->h'.IsCell c v:=fun {y c v} k l q=>aj q λo e d=>cJ (F.i6 y k) λc' v₀ l' Z n Z =>
  aj (x.keep _ _ e ((congrArg own (cK (l.symm.trans l'))).trans n) id (kN d)) λo' e' z=>iDPP o' e' (z.2.1.trans d)
 {ns:=bw F.ns λm a=>⟨m,ns m a⟩
  dy:=bw F.ns λm a=>bw (jg a) λo e=>x.de _ o e F.dy
  eO:=F.eO
  i6:=λy k=>cJ (F.i6 y k) λc v₀ l i n z=>d9 c v₀ l (ic k l i) (bw (iq i) λo e=>x.de _ o e n) z
  inj:=F.inj
  var:=λy mv e=>(F.var y mv e).mono ns (λc v k l=>ic k l) λZ r=>r.ub x}
theorem b9.mono{prog:Program}{w:World}{a:Addr}{c:Cell}(h1:∀ b o,own b=some a->h.get? b=some o->h'.get? b=some o/\own' b=some a)(h2:∀ v x,RV own h v x->RV own' h' v x)(ha:own a=some a)(r:b9 prog w own h a c):b9 prog w own' h' a c:=by
 have ns:∀ {d m},own d=some a->h.Ns d m->h'.Ns d m:=λq kP=>cw kP λo es ep e r=>(dw o es ep ((h1 _ _ q e).1) r)
 have Nq:∀ {d m},own d=some a->h.Ns1 d m->h'.Ns1 d m:=λq uc=>cw uc λo es ep e r=>(dw o es ep ((h1 _ _ q e).1) r)
 cases c with
 | list xs=>apply bW r λvs n e r=>?_;exact (ez vs n ((h1 _ _ ha e).1) (r.mono h2))
 | dict es=>(apply bM r λbI bN z q=>?_;apply cw bN λo Kb ep e r=>?_);exact (aV bI ((dw o Kb ep ((h1 _ _ ha e).1) r)) z (q.mono h2))
 | bF es=>(apply bM r λbI cI z q=>?_;apply cw cI λo Kb ep e r=>?_);exact (aV bI ((dw o Kb ep ((h1 _ _ ha e).1) r)) z (q.mono h2))
 | set S n=>apply jI r λo es ep t e r=>?_;exact ⟨o,es,ep,t,((h1 _ _ ha e).1),r⟩
 | inst c fs =>
  apply q8 r λd m sl e od ne hn r=>?_
  have hd:own' d=some a:=by apply cw hn λo es ep e' Z=>?_;exact (h1 _ _ od e').2
  exact (ma d m sl ((h1 _ _ ha e).1) hd ne (Nq od hn) (λx=>⟨(r x).1,λmv q=>aj ((r x).2 mv q) λv p1 p2=>iDPP v p1 (h2 _ _ p2)⟩))
 | slots c fs =>
  apply jJ r λd sl e od ne hn hz r=>?_
  have hd:own' d=some a:=by apply cw hn λo es ep e' Z=>?_;exact (h1 _ _ od e').2
  exact (fQ d sl ((h1 _ _ ha e).1) hd ne (ns od hn) hz (λi v x p q=>(r i v x p q).imp id λsC=>ay sC λu y p1 p2 p3=>(aH u y p1 p2 (h2 _ _ p3))))
 | iter xs i =>
  (apply Ar r λit l e oi ne dH q=>?_;apply aj dH λo e' r=>?_)
  exact (dS it l ((h1 _ _ ha e).1) ((h1 _ _ oi e').2) ne ((iDPP o ((h1 _ _ oi e').1) r)) (h2 _ _ q))
 | De id l=>exact (h1 _ _ ha r).1
 | tab=>apply aj r λps e t=>?_;exact (iDPP ps ((h1 _ _ ha e).1) t)
 | oW T=>apply aj r λo e t=>?_;exact (iDPP o ((h1 _ _ ha e).1) t)
theorem b9.keeps{prog:Program}{w:World}{a:Addr}{c:Cell}(ha:own a=some a)(hk:∀ b o,h.get? b=some o->h'.get? b=some o)(r:b9 prog w own h a c):b9 prog w own h' a c :=
 r.mono (λb o q e=>⟨hk b o e,q⟩) (λZ Z q=>q.keeps hk) ha
theorem Base.keeps{t:Nat}(I:Base X own cells s)(hk:∀ b o,s.heap.get? b=some o->h'.get? b=some o):Base X own cells {s with heap:=h',toks:=t} where
 old:=I.old.step_keeps hk
 hg:=I.hg.keeps hk
 hb:=I.hb.keeps hk
 nolimit:=I.nolimit.keeps hk
 gens:=I.gens
 os:=I.os
 new:=I.new
 lt:=λb a e=>bw (I.lt b a e) λo q=>bJ o (hk b o q)
 cell:=λa c e=>⟨(I.cell a c e).1,(I.cell a c e).2.keeps (I.cell a c e).1 hk⟩
 gx:=λL hL=>(I.gx L hL).mono (λo e=>hk L o e) λZ Z n=>n
theorem Base.toks{t:Nat}(I:Base X own cells s):Base X own cells {s with toks:=t}:=I.keeps (h':=s.heap) λZ Z e=>e
def gy(_:Value)(_:Shared):Prop:=False
theorem Base.K(I:Base X own cells s):X.K.In s.heap:=λa o e=>I.old.get_of_cls (X.hK a o e) (X.HA a o e)
theorem Base.fresh(I:Base X own cells s){b:Addr}(h:s.heap.get? b=none):own b=none/\X.h₀.get? b=none:=by
 constructor
 ·cases q:own b with
  | none=>rfl
  | some a=>apply bw (I.lt b a q) λo e=>?_;rw [h] at e;cases e
 ·cases q:X.h₀.get? b with
  | none=>rfl
  | some o=>apply bw (I.old.there b o q) λo' e=>?_;rw [h] at e;cases e
theorem OldK.Au{h₀ h h':Heap}{P:Addr->Prop}(K:OldK h₀ h)(ha:∀ b,P b->h₀.get? b=none)(hs:∀ b o,¬ P b->h.get? b=some o->h'.get? b=some o):OldK h₀ h':=by
 have ne:∀ b o,h₀.get? b=some o->¬ P b:=λb o e p=>by rw [ha b p] at e;cases e
 apply ⟨λb o e=>?_,λb o e=>bw (K.there b o e) λo' me=>bJ o' (hs b o' (ne b o e) me)⟩
 rcases K.old b o e with x | ⟨t,hc,vs,more,hv,x⟩ | ⟨rfl,hc,⟨o',es,n,me,r⟩,z⟩
 ·exact .inl (hs _ _ (ne b o e) x)
 ·exact .inr (.inl (sr t hc vs more hv (hs _ _ (ne b o e) x)))
 ·exact .inr (.inr (aX rfl hc (⟨o',es,n,hs _ _ (ne _ o e) me,r⟩) (λkey=>by rw [PySem.OldK.staticOf_congr ((hs _ _ (ne _ o e) me).trans me.symm) key];exact z key)))
theorem Base.step{P:Addr->Prop}{t:Nat}(I:Base X own cells s)(hP:∀ b,P b->X.h₀.get? b=none)(hs:∀ b o,¬ P b->s.heap.get? b=some o->h'.get? b=some o)(hn:∀ b a,own' b=some a->X.h₀.get? b=none/\∃ o,h'.get? b=some o)(hc:∀ a c,cells' a=some c->own' a=some a/\b9 X.prog X.w own' h' a c)(hf:∀ L∈X.gx,vI X.h₀ own' h' L):Base X own' cells' {s with heap:=h',toks:=t}:=by
 have ns:∀ {d m m'},X.h₀.Ns d m'->s.heap.Ns d m->h'.Ns d m:=λz=>kO λo=>hs _ o λp=>bw (jg z) λq hq=>bf ((hP _ p).symm.trans hq)
 exact ⟨OldK.Au I.old hP hs,ns X.hg I.hg,ns X.hb I.hb,aj X.Df λZ z Z=>aj I.nolimit λmc q r=>⟨mc,ns z q,r⟩,I.gens,I.os,λb a e=>(hn b a e).1,λb a e=>(hn b a e).2,hc,hf⟩
inductive rm{α β:Type}(X:Cx)(R:Own->Heap->α->β->Prop)(own:Own)(cells:Cells)(h:Heap)(Ψ:β->Cells->Prop)(v:α)(s':Shared):Prop
 | mk (own':Own) (cells':Cells) (b:β) (I:Base X own' cells' s') (r:R own' s'.heap v b) (x:Ext qH own cells h own' cells' s'.heap) (p:Ψ b cells')
inductive jh{α β:Type}(X:Cx)(env:Env)(R:Own->Heap->α->β->Prop)(own:Own)(cells:Cells)(h:Heap)(Ψ:β->Loc->Cells->Prop)(v:α)(s':Shared):Prop
 | mk (own':Own) (gq:Loc) (cells':Cells) (b:β) (I:Inv X env own' gq cells' s') (r:R own' s'.heap v b) (x:Ext (Fa env) own cells h own' cells' s'.heap) (p:Ψ b gq cells')
def mb{α β:Type}(X:Cx)(A:Around)(R:Own->Heap->α->β->Prop)(Pre:Own->Heap->Prop)(t:Sem α)(Ψ:β->Cells->Prop)(cells:Cells):Prop :=
 ∀ own s,Base X own cells s->Pre own s.heap->wpAny (model X.prog X.w) A t (rm X R own cells s.heap Ψ) gy s
def cL{α β:Type}(X:Cx)(A:Around)(env:Env)(R:Own->Heap->α->β->Prop)(t:Sem α)(Ψ:β->Loc->Cells->Prop)(loc:Loc)(cells:Cells):Prop :=
 ∀ own s,Inv X env own loc cells s->wpAny (model X.prog X.w) A t (jh X env R own cells s.heap Ψ) gy s
inductive MF where
 | next | brk | cont
 | ret (v:V)
inductive RF(own:Own)(h:Heap):Flow->MF->Prop where
 | next:RF own h .next .next
 | brk:RF own h .brk .brk
 | cont:RF own h .cont .cont
 | ret {v:Value} {x:V}:RV own h v x->RF own h (.ret v) (.ret x)
abbrev RB(_:Own)(_:Heap)(a b:Bool):Prop:=a=b
abbrev RU(_:Own)(_:Heap)(_ _:Unit):Prop:=True
section
variable {α β:Type}{A:Around}{R:Own->Heap->α->β->Prop}{t:Sem α}
theorem cL.use{Ψ:β->Loc->Cells->Prop}(H:cL X A env R t Ψ loc cells)(I:Inv X env own loc cells s){Q:α->Shared->Prop}(h:∀ own' gq cells' b v s',Inv X env own' gq cells' s'->R own' s'.heap v b->Ext (Fa env) own cells s.heap own' cells' s'.heap->Ψ b gq cells'->Q v s') :
  wpAny (model X.prog X.w) A t Q gy s :=
 wpAny_mono (H own s I) (λv s' ⟨own',gq,cells',b,a1,a2,a3,a5⟩=>h own' gq cells' b v s' a1 a2 a3 a5) λZ Z e=>e
theorem cL.mono{Ψ Ψ':β->Loc->Cells->Prop}(H:cL X A env R t Ψ loc cells)(h:∀ b l c,Ψ b l c->Ψ' b l c):cL X A env R t Ψ' loc cells:=λown s I =>
 H.use I λown' gq cells' b v s' a1 a2 a3 a5=>⟨own',gq,cells',b,a1,a2,a3,h b gq cells' a5⟩
theorem mb.use{Pre:Own->Heap->Prop}{Ψ:β->Cells->Prop}(H:mb X A R Pre t Ψ cells)(I:Base X own cells s)(hp:Pre own s.heap){Q:α->Shared->Prop}(h:∀ own' cells' b v s',Base X own' cells' s'->R own' s'.heap v b->Ext qH own cells s.heap own' cells' s'.heap->Ψ b cells'->Q v s'):wpAny (model X.prog X.w) A t Q gy s :=
 wpAny_mono (H own s I hp) (λv s' ⟨own',cells',b,a1,a2,a3,a4⟩=>h own' cells' b v s' a1 a2 a3 a4) λZ Z e=>e
theorem mb.lY{Pre:Own->Heap->Prop}{Ψ:β->Cells->Prop}(H:mb X A R Pre t Ψ cells)(I:Inv X env own loc cells s)(hp:Pre own s.heap){Q:α->Shared->Prop}(h:∀ own' cells' b v s',Inv X env own' loc cells' s'->R own' s'.heap v b->Ext (Fa env) own cells s.heap own' cells' s'.heap->Ψ b cells'->Q v s'):wpAny (model X.prog X.w) A t Q gy s :=
 H.use I.base hp λown' cells' b v s' a1 a2 a3 a4=>h own' cells' b v s' ⟨a1,I.ok,I.fr.ext a3⟩ a2 a3.fF a4
end
end
end Mp
end
section
variable {X:Mp.Cx}{A:Around}{env:Env}{loc:Mp.Loc}{cells:Mp.Cells}{own:Mp.Own}{s:Shared}{Ψ:Mp.V->Mp.Cells->Prop}
namespace Mp
section
noncomputable abbrev mE (X:Cx) (A:Around) (env:Env):=cL X A env RV
noncomputable abbrev mT (X:Cx) (A:Around) (env:Env):=cL X A env RB
noncomputable abbrev mS (X:Cx) (A:Around) (env:Env):=cL X A env RF
noncomputable abbrev yy (X:Cx) (A:Around) (env:Env):=cL X A env bV
noncomputable abbrev mU (X:Cx) (A:Around) (env:Env):=cL X A env RU
def HE(X:Cx)(A:Around)(f:Value->Sem Value)(a:V)(Ψ:V->Cells->Prop)(cells:Cells):Prop:=∀ v,mb X A RV (λown h=>RV own h v a) (f v) Ψ cells
def cR(X:Cx)(A:Around)(f:Value->Value->Sem Value)(a b:V)(Ψ:V->Cells->Prop)(cells:Cells):Prop:=∀ v u,mb X A RV (λown h=>RV own h v a/\RV own h u b) (f v u) Ψ cells
def oX(X:Cx)(A:Around)(a:V)(Ψ:Bool->Cells->Prop)(cells:Cells):Prop:=∀ v,mb X A RB (λown h=>RV own h v a) (truthy v) Ψ cells
def aD(X:Cx)(A:Around)(f:V)(args:List V)(Ψ:V->Cells->Prop)(cells:Cells):Prop:=∀ fv vs,mb X A RV (λown h=>RV own h fv f/\bV own h vs args) (call fv vs) Ψ cells
theorem mb_end{α β:Type}{R:Own->Heap->α->β->Prop}{Ψ:β->Cells->Prop}{own:Own}{s s':Shared}{h':Heap}{t:Nat}{v:α}{b:β}(I:Base X own cells s)(e:s'={s with heap:=h',toks:=t})(hk:∀ b o,s.heap.get? b=some o->h'.get? b=some o)(r:R own h' v b)(p:Ψ b cells) :
  rm X R own cells s.heap Ψ v s':=by
 subst e;exact ⟨own,cells,b,I.keeps hk,r,.of_keeps hk,p⟩
theorem aw{α β:Type}{R:Own->Heap->α->β->Prop}{Ψ:β->Cells->Prop}{own:Own}{s:Shared}{t:Nat}{v:α}{b:β}(I:Base X own cells s)(r:R own s.heap v b)(p:Ψ b cells) :
  rm X R own cells s.heap Ψ v {s with toks:=t}:=⟨own,cells,b,I.toks,r,.refl,p⟩
theorem inv_end{α β:Type}{R:Own->Heap->α->β->Prop}{Ψ:β->Loc->Cells->Prop}{own:Own}{s:Shared}{v:α}{b:β}(I:Inv X env own loc cells s)(r:R own s.heap v b)(p:Ψ b loc cells) :
  jh X env R own cells s.heap Ψ v s:=⟨own,loc,cells,b,I,r,.refl,p⟩
theorem Inv.toks{own:Own}{s:Shared}{t:Nat}(I:Inv X env own loc cells s):Inv X env own loc cells {s with toks:=t}:=⟨I.base.toks,I.ok,I.fr⟩
theorem m_var{x:Str}{p:Pos}{mv:V}{Ψ:V->Loc->Cells->Prop}(hl:loc.lookup x=some mv)(h:Ψ mv loc cells)(hd:autoParam ((x == ("__debug__":Str))=false) aDK)(hc:autoParam ((x == ("__classdict__":Str))=false) aDK) :
  mE X A env (eval (.Name x p) env) Ψ loc cells:=by
 intro own s I
 apply wpAny_Name ?_ hd
 have hv:=I.fr.var x mv hl
 exact hv.elim (λq=>aC q λhk q=>ay q λm v a b c=>wpAny_loadName_local I.ok.kind hk a b (inv_end I c h)) λq=>aC q λhk q=>ay q λc v a b d =>
  hk.elim (λhk=>wpAny_loadName_cell I.ok.kind hk a b (inv_end I d h)) λhk=>wpAny_loadName_free I.ok.kind hk a b (inv_end I d h) hc
theorem RV.base{own:Own}{h:Heap}{v:Value}{x:V}(r:RV (λZ=>none) {} v x):RV own h v x:=by
 cases r with
 | xk=>exact .xk
 | bool b=>exact .bool b
 | int i t=>exact .int i t
 | str s t=>exact .str s t
 | ref a=>exact .ref a
 | bi i=>exact .bi i
 | ty n=>exact .ty n
 | list e=>simp [get?] at e
 | tuple e=>simp [get?] at e
 | q9 e=>have e2:get? {} _=some _:=e;simp [get?] at e2
theorem Av{x:Str}{p:Pos}{mv:V}{Q:Value->Shared->Prop}{own:Own}{s:Shared}(I:Inv X env own loc cells s)(hk:env.kindOf x=some .globalImplicit)(hl:X.glob.lookup x=some mv)(h:∀ v,RV own s.heap v mv->Q v s)(hd:(x == ("__debug__":Str))=false) :
  wpAny (model X.prog X.w) A (eval (.Name x p) env) Q gy s :=
 aj (X.xo x mv hl) λv e r=>Calls.Name_function_global I.ok.kind hk (e.elim (λe=>Calls.loadGlobal_global (I.ok.glob.symm▸I.base.hg) e (h v r.base)) λe=>Calls.loadGlobal_builtin (I.ok.glob.symm▸I.base.hg) e.1 (I.ok.blt.symm▸I.base.hb) e.2 (h v r.base)) hd
theorem eU{x:Str}{p:Pos}{mv:V}{Ψ:V->Loc->Cells->Prop}(hk:env.kindOf x=some .globalImplicit)(hl:X.glob.lookup x=some mv)(h:Ψ mv loc cells)(hd:autoParam ((x == ("__debug__":Str))=false) aDK) :
  mE X A env (eval (.Name x p) env) Ψ loc cells:=λown s I=>Av I hk hl (λv r=>inv_end I r h) hd
theorem m_int{i:Int}{k:Nat}{p:Pos}{Ψ:V->Loc->Cells->Prop}(h:Ψ (.int i) loc cells):mE X A env (eval (.Constant (.int i) k p) env) Ψ loc cells :=
 λown s I=>wpAny_Constant_int ⟨own,loc,cells,.int i,I.toks,.int _ _,.refl,h⟩
theorem aK{x:Str}{k:Nat}{p:Pos}{Ψ:V->Loc->Cells->Prop}(h:Ψ (.str x) loc cells):mE X A env (eval (.Constant (.str x) k p) env) Ψ loc cells :=
 λown s I=>wpAny_Constant_str ⟨own,loc,cells,.str x,I.toks,.str _ _,.refl,h⟩
theorem cx{k:Nat}{p:Pos}{Ψ:V->Loc->Cells->Prop}(h:Ψ .none loc cells):mE X A env (eval (.Constant .none k p) env) Ψ loc cells :=
 λown s I=>wpAny_Constant_none (inv_end I .xk h)
theorem fu{b:Bool}{k:Nat}{p:Pos}{Ψ:V->Loc->Cells->Prop}(h:Ψ (.bool b) loc cells):mE X A env (eval (.Constant (.bool b) k p) env) Ψ loc cells :=
 λown s I=>wpAny_Constant_bool (inv_end I (.bool b) h)
abbrev K1{β:Type}(f:V->V->(β->Cells->Prop)->Cells->Prop)(Ψ:β->Loc->Cells->Prop)(a b:V)(l:Loc)(c:Cells):Prop:=f a b (λv c3=>Ψ v l c3) c
abbrev K2{β:Type}(X:Cx)(A:Around)(env:Env)(r:Expr)(f:V->V->(β->Cells->Prop)->Cells->Prop)(Ψ:β->Loc->Cells->Prop)(a:V)(l:Loc)(c:Cells):Prop:=mE X A env (eval r env) (K1 f Ψ a) l c
abbrev Kc(X:Cx)(A:Around)(op:CmpOp)(a b:V)(Φ:Bool->Cells->Prop)(c:Cells):Prop:=cR X A (compareOp op) a b (λv c3=>oX X A v Φ c3) c
abbrev KS(x:Str)(Ψ:MF->Loc->Cells->Prop)(v:V)(l:Loc)(c:Cells):Prop:=Ψ .next ((x,v)::l) c
abbrev Nr(X:Cx)(A:Around)(env:Env)(b o:List Stmt)(Ψ:MF->Loc->Cells->Prop)(t:Bool)(l:Loc)(c:Cells):Prop:=if t then mS X A env (execs b env) Ψ l c else mS X A env (execs o env) Ψ l c
theorem aY{l r:Expr}{op:Operator}{p:Pos}{Ψ:V->Loc->Cells->Prop}(h:mE X A env (eval l env) (K2 X A env r (cR X A (binaryOp op)) Ψ) loc cells):mE X A env (eval (.BinOp l op r p) env) Ψ loc cells :=
 λown s I=>wpAny_BinOp (h.use I λown1 dz bg a v1 s1 I1 r1 x1 h1=>h1.use I1 λaG bG bO b v2 s2 I2 r2 x2 h2 =>
  (h2 v1 v2).lY I2 ⟨r1.ext I1 x2,r2⟩ λbX fw c v3 s3 I3 r3 x3 h3=>⟨bX,bG,fw,c,I3,r3,x1.trans (x2.trans x3),h3⟩)
theorem m_un{e:Expr}{op:UnaryOp}{p:Pos}{Ψ:V->Loc->Cells->Prop}(h:mE X A env (eval e env) (λa l1 c1=>HE X A (unaryOp op) a (λv c3=>Ψ v l1 c3) c1) loc cells):mE X A env (eval (.UnaryOp op e p) env) Ψ loc cells :=
 λown s I=>wpAny_UnaryOp (h.use I λown1 dz bg a v1 s1 I1 r1 x1 h1 =>
  (h1 v1).lY I1 r1 λbX fw c v3 s3 I3 r3 x3 h3=>⟨bX,dz,fw,c,I3,r3,x1.trans x3,h3⟩)
theorem gz{l r:Expr}{op:CmpOp}{p:Pos}{Ψ:V->Loc->Cells->Prop}(h:mE X A env (eval l env) (K2 X A env r (cR X A (compareOp op)) Ψ) loc cells)(hm:autoParam (behindInMarks op r=false) aU):mE X A env (eval (.Compare l [op] [r] p) env) Ψ loc cells :=
 λown s I=>wpAny_Compare1 (h.use I λown1 dz bg a v1 s1 I1 r1 x1 h1=>h1.use I1 λaG bG bO b v2 s2 I2 r2 x2 h2 =>
  (h2 v1 v2).lY I2 ⟨r1.ext I1 x2,r2⟩ λbX fw c v3 s3 I3 r3 x3 h3=>⟨bX,bG,fw,c,I3,r3,x1.trans (x2.trans x3),h3⟩) hm
theorem jK{t b o:Expr}{p:Pos}{Ψ:V->Loc->Cells->Prop}(h:mT X A env (isTrue t env (eval t env)) (λc l1 c1=>if c then mE X A env (eval b env) Ψ l1 c1 else mE X A env (eval o env) Ψ l1 c1) loc cells):mE X A env (eval (.IfExp t b o p) env) Ψ loc cells :=
 λown s I=>wpAny_IfExp (h.use I λown1 dz bg c v1 s1 I1 r1 x1 h1=>by
  have:v1=c:=r1
  subst this
  cases v1
  ·exact h1.use I1 λaG bG bO b v2 s2 I2 r2 x2 h2=>⟨aG,bG,bO,b,I2,r2,x1.trans x2,h2⟩
  ·exact h1.use I1 λaG bG bO b v2 s2 I2 r2 x2 h2=>⟨aG,bG,bO,b,I2,r2,x1.trans x2,h2⟩)
theorem aE{l r:Expr}{op:CmpOp}{p:Pos}{whole:Sem Value}{Ψ:Bool->Loc->Cells->Prop}(h:mE X A env (eval l env) (K2 X A env r (Kc X A op) Ψ) loc cells)(hm:autoParam (behindInMarks op r=false) aU):mT X A env (isTrue (.Compare l [op] [r] p) env whole) Ψ loc cells :=
 λown s I=>wpAny_isTrue_Compare1 (h.use I λown1 dz bg a v1 s1 I1 r1 x1 h1=>h1.use I1 λaG bG bO b v2 s2 I2 r2 x2 h2 =>
  (h2 v1 v2).lY I2 ⟨r1.ext I1 x2,r2⟩ λbX fw c v3 s3 I3 r3 x3 h3=>(h3 v3).lY I3 r3 λeh vJ t v4 s4 I4 r4 x4 h4=>⟨eh,bG,vJ,t,I4,r4,x1.trans (x2.trans (x3.trans x4)),h4⟩) hm
theorem dU{e:Expr}{whole:Sem Value}{Ψ:Bool->Loc->Cells->Prop}(h:mE X A env whole (λa l1 c1=>oX X A a (λt c2=>Ψ t l1 c2) c1) loc cells)(he:autoParam (isTrue e env whole=(do let v <- whole;standAt e.pos;holding [v] (truthy v))) aR):mT X A env (isTrue e env whole) Ψ loc cells :=
 λown s I=>wpAny_isTrue_value (h.use I λown1 dz bg a v1 s1 I1 r1 x1 h1=>(h1 v1).lY I1 r1 λeh vJ t v4 s4 I4 r4 x4 h4=>⟨eh,dz,vJ,t,I4,r4,x1.trans x4,h4⟩) he
theorem oY{e:Expr}{p:Pos}{whole:Sem Value}{Ψ:Bool->Loc->Cells->Prop}(h:mT X A env (isTrue e env (eval e env)) (λt l1 c1=>Ψ (!t) l1 c1) loc cells):mT X A env (isTrue (.UnaryOp .Not e p) env whole) Ψ loc cells :=
 λown s I=>wpAny_isTrue_Not (h.use I λown1 dz bg t v1 s1 I1 r1 x1 h1=>⟨own1,dz,bg,!t,I1,congrArg _ r1,x1,h1⟩)
theorem dA{op:BoolOp}{vs:List Expr}{p:Pos}{whole:Sem Value}{Ψ:Bool->Loc->Cells->Prop}(h:mT X A env (allTrue op vs env) Ψ loc cells):mT X A env (isTrue (.BoolOp op vs p) env whole) Ψ loc cells :=
 λown s I=>wpAny_isTrue_BoolOp (h own s I)
theorem yz{Ψ:Bool->Loc->Cells->Prop}(h:Ψ true loc cells):mT X A env (allTrue .And [] env) Ψ loc cells:=λown s I=>wpAny_allTrue_And_nil (inv_end I rfl h)
theorem Aw{Ψ:Bool->Loc->Cells->Prop}(h:Ψ false loc cells):mT X A env (allTrue .Or [] env) Ψ loc cells:=λown s I=>wpAny_allTrue_Or_nil (inv_end I rfl h)
theorem cX{e:Expr}{rest:List Expr}{Ψ:Bool->Loc->Cells->Prop}(h:mT X A env (isTrue e env (eval e env)) (λt l1 c1=>if t then mT X A env (allTrue .And rest env) Ψ l1 c1 else Ψ false l1 c1) loc cells) :
  mT X A env (allTrue .And (e::rest) env) Ψ loc cells:=λown s I=>wpAny_allTrue_And_cons (h.use I λown1 dz bg t v1 s1 I1 r1 x1 h1=>by
   have:v1=t:=r1
   subst this
   cases v1
   ·exact ⟨own1,dz,bg,false,I1,rfl,x1,h1⟩
   ·exact h1.use I1 λaG bG bO b v2 s2 I2 r2 x2 h2=>⟨aG,bG,bO,b,I2,r2,x1.trans x2,h2⟩)
theorem jL{e:Expr}{rest:List Expr}{Ψ:Bool->Loc->Cells->Prop}(h:mT X A env (isTrue e env (eval e env)) (λt l1 c1=>if t then Ψ true l1 c1 else mT X A env (allTrue .Or rest env) Ψ l1 c1) loc cells) :
  mT X A env (allTrue .Or (e::rest) env) Ψ loc cells:=λown s I=>wpAny_allTrue_Or_cons (h.use I λown1 dz bg t v1 s1 I1 r1 x1 h1=>by
   have:v1=t:=r1
   subst this
   cases v1
   ·exact h1.use I1 λaG bG bO b v2 s2 I2 r2 x2 h2=>⟨aG,bG,bO,b,I2,r2,x1.trans x2,h2⟩
   ·exact ⟨own1,dz,bg,true,I1,rfl,x1,h1⟩)
theorem au{Ψ:MF->Loc->Cells->Prop}(h:Ψ .next loc cells):mS X A env (execs [] env) Ψ loc cells:=λown s I=>wpAny_execs_nil (inv_end I .next h)
abbrev yA(X:Cx)(A:Around)(env:Env)(rest:List Stmt)(Ψ:MF->Loc->Cells->Prop)(f:MF)(l:Loc)(c:Cells):Prop:=match f with | .next=>mS X A env (execs rest env) Ψ l c | f=>Ψ f l c
theorem aa{st:Stmt}{rest:List Stmt}{Ψ:MF->Loc->Cells->Prop}(h:mS X A env (exec st env) (yA X A env rest Ψ) loc cells) :
  mS X A env (execs (st::rest) env) Ψ loc cells:=λown s I=>wpAny_execs_cons (h.use I λown1 dz bg f v1 s1 I1 r1 x1 h1=>by
   cases r1 with
   | next=>exact cL.use h1 I1 λaG bG bO b v2 s2 I2 r2 x2 h2=>⟨aG,bG,bO,b,I2,r2,x1.trans x2,h2⟩
   | brk=>exact ⟨own1,dz,bg,.brk,I1,.brk,x1,h1⟩
   | cont=>exact ⟨own1,dz,bg,.cont,I1,.cont,x1,h1⟩
   | ret q=>exact ⟨own1,dz,bg,.ret _,I1,.ret q,x1,h1⟩)
theorem bt{t:Expr}{b o:List Stmt}{p:Pos}{Ψ:MF->Loc->Cells->Prop}(h:mT X A env (isTrue t env (eval t env)) (Nr X A env b o Ψ) loc cells):mS X A env (exec (.If t b o p) env) Ψ loc cells :=
 λown s I=>wpAny_If (h.use I λown1 dz bg c v1 s1 I1 r1 x1 h1=>by
  have:v1=c:=r1
  subst this
  cases v1
  ·exact h1.use I1 λaG bG bO b v2 s2 I2 r2 x2 h2=>⟨aG,bG,bO,b,I2,r2,x1.trans x2,h2⟩
  ·exact h1.use I1 λaG bG bO b v2 s2 I2 r2 x2 h2=>⟨aG,bG,bO,b,I2,r2,x1.trans x2,h2⟩)
theorem aL{e:Expr}{p:Pos}{Ψ:MF->Loc->Cells->Prop}(h:mE X A env (eval e env) (λv l c=>Ψ (.ret v) l c) loc cells):mS X A env (exec (.Return (some e) p) env) Ψ loc cells :=
 λown s I=>wpAny_Return_some (h.use I λown1 dz bg c v1 s1 I1 r1 x1 h1=>⟨own1,dz,bg,.ret c,I1,.ret r1,x1,h1⟩)
theorem cy{e:Expr}{p:Pos}{Ψ:MF->Loc->Cells->Prop}(h:mE X A env (eval e env) (λv l c=>Ψ .next l c) loc cells)(hi:autoParam (interactive env=false) aR)(hs:autoParam (swapsWith e none p.line env=pure false) aR) :
  mS X A env (exec (.Expr e p) env) Ψ loc cells :=
 λown s I=>wpAny_Expr_any (h.use I λown1 dz bg c v1 s1 I1 r1 x1 h1=>⟨own1,dz,bg,.next,I1,.next,x1,h1⟩) hi hs
theorem xp{p:Pos}{Ψ:MF->Loc->Cells->Prop}(h:Ψ .brk loc cells):mS X A env (exec (.Break p) env) Ψ loc cells:=λown s I=>wpAny_Break (inv_end I .brk h)
theorem vK{p:Pos}{Ψ:MF->Loc->Cells->Prop}(h:Ψ .cont loc cells):mS X A env (exec (.Continue p) env) Ψ loc cells:=λown s I=>wpAny_Continue (inv_end I .cont h)
theorem Ax{t:Expr}{m:Option Expr}{p:Pos}{Ψ:MF->Loc->Cells->Prop}(h:mT X A env (isTrue t env (eval t env)) (λc l1 c1=>c=true/\Ψ .next l1 c1) loc cells):mS X A env (exec (.Assert t m p) env) Ψ loc cells :=
 λown s I=>wpAny_Assert_holds (h.use I λown1 dz bg c v1 s1 I1 r1 x1 h1=>⟨Eq.trans r1 h1.1,own1,dz,bg,.next,I1,.next,x1,h1.2⟩)
end
section
variable {own:Own}{loc:Loc}{cells:Cells}{s:Shared}{h':Heap}
theorem sD{L:Addr}(hs:∀ b o,b≠L->s.heap.get? b=some o->h'.get? b=some o)(hd:∀ o,s.heap.get? L=some o->¬ qG o){v:Value}{x:V}(r:RV own s.heap v x):RV own h' v x :=
 r.mono (λb o e Z d=>hs b o (λq=>by subst q;exact hd o e d) e) λZ Z Z e=>e
theorem Base.but{P:Addr->Prop}{t:Nat}(I:Base X own cells s)(hP:∀ b,P b->own b=none/\X.h₀.get? b=none/\∀ o,s.heap.get? b=some o->¬ qG o)(hs:∀ b o,¬ P b->s.heap.get? b=some o->h'.get? b=some o)(hf:∀ b∈X.gx,P b->∃ o es n,h'.get? b=some o/\o.data=.dict es n):Base X own cells {s with heap:=h',toks:=t}:=by
 exact I.step (λb p=>(hP b p).2.1) hs (λb a e=>⟨I.new b a e,bw (I.lt b a e) λo q=>bJ o (hs b o (λp=>bf ((hP b p).1.symm.trans e)) q)⟩)
  (λa c e=>⟨(I.cell a c e).1,(I.cell a c e).2.mono (λb o q e'=>⟨hs b o (λp=>bf ((hP b p).1.symm.trans q)) e',q⟩) (λv x r=>r.mono (λb o e' Z d=>hs b o (λp=>(hP b p).2.2 o e' d) e') λZ Z Z e=>e) (I.cell a c e).1⟩)
  λL hL=>sy (I.gx L hL) λn o es k e d=>by
   by_cases p:P L
   ·exact cw (hf L hL p) λo' HF k' e' d'=>Ao n o' HF k' e' d' d.2
   ·exact xj n o es k (hs L o p e) d
theorem Base.sameBut{L:Addr}{t:Nat}(I:Base X own cells s)(hL:own L=none)(hn:X.h₀.get? L=none)(hs:SameBut L s.heap h')(hd:∀ o,s.heap.get? L=some o->¬ qG o)(hf:L∈X.gx->∃ o es n,h'.get? L=some o/\o.data=.dict es n) :
  Base X own cells {s with heap:=h',toks:=t}:=I.but (P:=λb=>b=L) (λb p=>p▸⟨hL,hn,hd⟩) (λb o p e=>(hs.2 b p).trans e) λb hb p=>by subst p;exact hf hb
theorem nj{F:Addr->Prop}{L:Addr}(hL:F L)(hs:SameBut L s.heap h')(h:∃ o,s.heap.get? L=some o)(h2:∃ o,h'.get? L=some o)(hn:own L=none):Ext F own cells s.heap own cells h' where
 gP:=λb a o e q n=>⟨(hs.2 b (λz=>by rw [z,hn] at q;exact bf q)).trans e,q,rfl,n.2⟩
 keep:=λb o e Z f Z=>⟨o,(hs.2 b (λz=>f (z▸hL))).trans e,.refl o⟩
 de:=λZ Z Z e=>e
 there:=λb o e=>by
  by_cases hb:b=L
  ·rw [hb];exact h2
  ·exact (bJ o ((hs.2 b hb).trans e))
theorem lookup_cons{x y:Str}{v:V}{l:Loc}:List.lookup y ((x,v)::l)=if y == x then some v else List.lookup y l:=by
 rw [List.lookup_cons];cases y == x <;> rfl
theorem oZ{x:Str}{mv:V}{loc:Loc}{P:Str->V->Prop}(hx:P x mv)(ho:∀ y my,y≠x->loc.lookup y=some my->P y my)(y:Str)(my:V)(e:List.lookup y ((x,mv)::loc)=some my):P y my:=by
 rw [lookup_cons] at e
 by_cases hy:(y == x)=true
 ·rw [if_pos hy] at e;cases e;cases eq_of_beq hy;exact hx
 ·rw [if_neg hy] at e;exact ho y my (λz=>hy (beq_iff_eq.mpr z)) e
theorem Dg{h:Heap}{a:Addr}{m m':Str->Option Value}(p:h.Ns a m)(q:h.Ns a m'):m=m' :=
 eD p λo1 Nt Nu e1 d1 Z f1=>eD q λo2 PB PC e2 d2 Z f2=>by
  cases cK (e1.symm.trans e2);cases d1.symm.trans d2
  funext z;exact (f1 z).symm.trans (f2 z)
theorem xq{h:Heap}{a:Addr}{m:Str->Option Value}{v:Option Value}(p:h.Ns a m)(q:h.IsCell a v):False :=
 eg p λo1 Nt Nu e1 d1 Z=>aj q λo2 e2 d2=>by
  cases cK (e1.symm.trans e2);exact nomatch d1.symm.trans d2
theorem aN.Ay{h₀ h:Heap}{x:Str}{v:Value}{mv:V}{m m':Str->Option Value}(F:aN h₀ env own h loc)(hk:env.kindOf x=some .local)(hm:h.Ns env.locals m)(hn:h'.Ns env.locals m')(hx:m' x=some v)(ho:∀ y,y≠x->m' y=m y)(hs:∀ b o,b≠env.locals->h.get? b=some o->h'.get? b=some o)(rv:∀ {v y},RV own h v y->RV own h' v y)(r:RV own h v mv):aN h₀ env own h' ((x,mv)::loc) :=
 have ic:∀ {c v},h.IsCell c v->h'.IsCell c v:=λi=>aj i λo e d=>iDPP o (hs _ o (λz=>xq hm (z▸i)) e) d
 {ns:=⟨_,hn⟩
  dy:=F.dy
  eO:=F.eO
  i6:=λy k=>ay (F.i6 y k) λc v₀ l i n=>aH c v₀ l (ic i) n
  inj:=F.inj
  var:=oZ (.inl ⟨hk,aH _ v hn hx (rv r)⟩) λy my ne e=>(F.var y my e).conv (λm2 u a b c=>aH _ u hn ((ho y ne).trans (Dg hm a▸b)) (rv c)) λc u Z Z i q=>iDPP u (ic i) (rv q)}
theorem aN.setCell{h₀ h:Heap}{x:Str}{c:Addr}{v:Value}{mv:V}(F:aN h₀ env own h loc)(hk:env.kindOf x=some .cell)(hl:env.cells.lookup x=some c)(nL:env.locals≠c)(hn:h'.IsCell c (some v))(hs:∀ b o,b≠c->h.get? b=some o->h'.get? b=some o)(rv:∀ {v y},RV own h v y->RV own h' v y)(r:RV own h v mv):aN h₀ env own h' ((x,mv)::loc) :=
 have ns:∀ {m},h.Ns env.locals m->h'.Ns env.locals m:=λq=>cw q λo es ep e r=>dw o es ep (hs _ o nL e) r
 have ic:∀ {d v},d≠c->h.IsCell d v->h'.IsCell d v:=λn i=>aj i λo e d=>iDPP o (hs _ o n e) d
 {ns:=bw F.ns λm q=>⟨m,ns q⟩
  dy:=F.dy
  eO:=F.eO
  i6:=λy k=>ay (F.i6 y k) λd v₀ l i n=>by
   by_cases q:d=c
   ·exact aH d (some v) l (q▸hn) n
   ·exact aH d v₀ l (ic q i) n
  inj:=F.inj
  var:=oZ (.inr ⟨.inl hk,aH c v hl hn (rv r)⟩) λy my ne e=>(F.var y my e).conv (λm2 u a b q=>aH m2 u (ns a) b (rv q)) λd u k l i q=>iDPP u (ic (λz=>ne (F.inj y x c k (.inl hk) (z▸l) hl)) i) (rv q)}
theorem bu{x:Str}{v:Value}{mv:V}{Q:Unit->Shared->Prop}{E:Value->Shared->Prop}(I:Inv X env own loc cells s)(r:RV own s.heap v mv)(hk:env.kindOf x=some .local\/env.kindOf x=some .cell)(h:∀ s',Inv X env own ((x,mv)::loc) cells s'->Ext (Fa env) own cells s.heap own cells s'.heap->Q () s'):wpAny (model X.prog X.w) A (storeName env x v) Q E s:=by
 apply bw I.fr.ns ?_;intro m hm
 rcases hk with hk | hk
 ·apply wpAny_storeName_local hk hm (λh' hn hs=>?_) (by rw [I.ok.kind];rfl)
  have hd:∀ o,s.heap.get? env.locals=some o->¬ qG o:=λo e d=>I.fr.ip (.inl rfl) e d
  have kp:∀ b o,b≠env.locals->s.heap.get? b=some o->h'.get? b=some o:=λb o n e=>(hs.2 b n).trans e
  exact h _ ⟨I.base.sameBut (t:=s.toks+1) I.fr.dy I.fr.eO hs hd (λZ=>eg hn λo es n e d Z=>dw o es n e d),I.ok,I.fr.Ay hk hm hn (if_pos rfl) (λy n=>if_neg n) kp (λq=>sD kp hd q) r⟩ (nj (.inl rfl) hs (jg hm) (jg hn) I.fr.dy)
 ·apply cJ (I.fr.i6 x (.inl hk)) ?_;intro c v₀ hl hc oc nc
  apply wpAny_storeName_cell I.ok.kind hk hl hc λh' hn hs=>?_
  have hd:∀ o,s.heap.get? c=some o->¬ qG o:=λo e d=>I.fr.ip (.inr (iDPP x hk hl)) e d
  have kp:∀ b o,b≠c->s.heap.get? b=some o->h'.get? b=some o:=λb o n e=>(hs.2 b n).trans e
  have hL:env.locals≠c:=λz=>xq hm (z▸hc)
  exact h _ ⟨I.base.sameBut (t:=s.toks) oc nc hs hd (λq=>sy (I.base.gx c q) λZ o es k e d=>aj hc λo' e' d'=>by
   cases cK (e.symm.trans e');exact (nomatch d.1.symm.trans d')),I.ok,I.fr.setCell hk hl hL hn kp (λq=>sD kp hd q) r⟩ (nj (.inr (iDPP x hk hl)) hs (iq hc) (iq hn) oc)
theorem Inv.sub{gq:Loc}(I:Inv X env own loc cells s)(h:∀ x v,gq.lookup x=some v->loc.lookup x=some v):Inv X env own gq cells s :=
 ⟨I.base,I.ok,⟨I.fr.ns,I.fr.dy,I.fr.eO,I.fr.i6,I.fr.inj,λx mv e=>I.fr.var x mv (h x mv e)⟩⟩
noncomputable def subs:Loc->Loc->Prop
 | [],_=>True
 | (x,v)::r,l=>l.lookup x=some v/\subs r l
theorem nq:∀ {l' l:Loc},subs l' l->∀ x v,l'.lookup x=some v->l.lookup x=some v
 | [],_,_,x,v,e=>by simp at e
 | (y,u)::r,l,h,x,v,e=>by
  rw [lookup_cons] at e
  by_cases hy:(x == y)=true
  ·rw [if_pos hy] at e;cases e;rw [eq_of_beq hy];exact h.1
  ·rw [if_neg hy] at e;exact nq h.2 x v e
theorem ao{x:Str}{p' p:Pos}{e:Expr}{Ψ:MF->Loc->Cells->Prop}(hk:env.kindOf x=some .local\/env.kindOf x=some .cell)(h:mE X A env (eval e env) (KS x Ψ) loc cells)(hs:autoParam (swapsWith e (some (.Name x p')) p.line env=pure false) aR) :
  mS X A env (exec (.Assign [.Name x p'] e p) env) Ψ loc cells :=
 λown s I=>wpAny_Assign_Name (h.use I λown1 dz bg b v s1 I1 r1 x1 h1=>bu I1 r1 hk λs2 I2 x2=>⟨own1,_,bg,.next,I2,.next,x1.trans x2,h1⟩) hs
theorem ud{x:Str}{p' p:Pos}{e:Expr}{Ψ:V->Loc->Cells->Prop}(hk:env.kindOf x=some .local\/env.kindOf x=some .cell)(h:mE X A env (eval e env) (λv l c=>Ψ v ((x,v)::l) c) loc cells):mE X A env (eval (.NamedExpr (.Name x p') e p) env) Ψ loc cells :=
 λown s I=>wpAny_NamedExpr (h.use I λown1 dz bg b v s1 I1 r1 x1 h1=>by
  show wpAny _ _ (do standAt p';bindName env x v) _ _ _
  apply wpAny_bind (wpAny_standAt ?_)
  exact wpAny_bindName (bu I1 r1 hk λs2 I2 x2=>⟨own1,_,bg,b,I2,r1.ext I1 x2,x1.trans x2,h1⟩))
theorem eA{x:Str}{p' p:Pos}{op:Operator}{e:Expr}{mv:V}{Ψ:MF->Loc->Cells->Prop}(hk:env.kindOf x=some .local)(hl:loc.lookup x=some mv)(h:mE X A env (eval e env) (λv l c=>cR X A (inplaceOp op) mv v (λr c2=>Ψ .next ((x,r)::l) c2) c) loc cells) :
  mS X A env (exec (.AugAssign (.Name x p') op e p) env) Ψ loc cells :=
 λown s I=>wpAny_AugAssign_Name (by
  apply ay ((I.fr.var x mv hl).elim And.right λq=>(q.1.elim (λz=>nomatch hk.symm.trans z) λz=>nomatch hk.symm.trans z)) λm u a b c=>?_
  apply wpAny_loadName_local I.ok.kind hk a b ?_
  apply h.use I λown1 dz bg b v s1 I1 r1 x1 h1=>?_
  exact (h1 u v).lY I1 ⟨c.ext I x1,r1⟩ λbX fw d v3 s3 I3 r3 x3 h3=>bu I3 r3 (.inl hk) λs2 I2 x2=>⟨bX,_,fw,.next,I2,.next,x1.trans (x3.trans x2),h3⟩)
end
structure Rm(X:Cx)(A:Around)(k:Nat):Prop where
 hh:A.handled=none
 dep:A.depth+k<recursionLimit
 un:A.units+10 * k<cLine
 fr:∃ envs,A.frames=some envs/\∀ env∈envs,env.scope.kind≠.module/\∃ L∈X.gx,env.frame=some L
theorem Rm.deeper{X:Cx}{A:Around}{k:Nat}{L:Addr}(h:Rm X A (k+1))(env:Env)(hk:env.scope.kind≠.module)(hf:env.frame=some L):Rm (X.push L) (A.deeper env) k :=
 ⟨h.hh,by have:=h.dep;show A.depth+1+k<_;lia,by have:=h.un;show A.units+3+10 * k<_;lia,let ⟨e,p,q⟩:=h.fr;(iDPP (env::e) (by show A.frames.map (env::·)=_;rw [p];rfl)  (λbU h'=>by
  rcases mem_cons.mp h' with rfl | h'
  ·exact (m7 hk L mem_cons_self hf)
  ·apply jX (q bU h') λq1 L' q2 q3=>?_
   exact (m7 q1 L' (mem_cons_of_mem _ q2) q3)))⟩
theorem Rm.le{X:Cx}{A:Around}{k l:Nat}(h:Rm X A k)(hl:l<=k):Rm X A l:=⟨h.hh,by have:=h.dep;lia,by have:=h.un;lia,h.fr⟩
section
theorem a_nil{p:Pos}{Ψ:List V->Loc->Cells->Prop}(h:Ψ [] loc cells):yy X A env (spliced (backTo p (starEach [] env))) Ψ loc cells:=λown s I=>spliced_none (inv_end I .nil h)
abbrev Nv(Ψ:List V->Loc->Cells->Prop)(a:V)(as:List V)(l:Loc)(c:Cells):Prop:=Ψ (a::as) l c
abbrev KA(X:Cx)(A:Around)(env:Env)(p:Pos)(rest:List Expr)(Ψ:List V->Loc->Cells->Prop)(a:V)(l:Loc)(c:Cells):Prop:=yy X A env (spliced (backTo p (starEach rest env))) (Nv Ψ a) l c
theorem af{e:Expr}{rest:List Expr}{p:Pos}{Ψ:List V->Loc->Cells->Prop}(h:mE X A env (eval e env) (KA X A env p rest Ψ) loc cells)(he:autoParam (starEach (e::rest) env=(false,eval e env)::starEach rest env) aR):yy X A env (spliced (backTo p (starEach (e::rest) env))) Ψ loc cells :=
 λown s I=>spliced_more (h.use I λown1 dz bg b v s1 I1 r1 x1 h1=>h1.use I1 λaG bG bO bs vs s2 I2 r2 x2 h2=>⟨aG,bG,bO,b::bs,I2,.cons (r1.ext I1 x2) r2,x1.trans x2,h2⟩) he
def Keeps(X:Cx)(f:V):Prop:=match f with
 | .bi _=>True
 | .ty _=>True
 | .ref a=>PySem.W.keepIn X.K (.ref a)=true
 | _=>False
theorem eE{own:Own}{s:Shared}{f:V}{fv:Value}{pos:Pos}{e:Expr}{rest:List Expr}{Q:Value->Shared->Prop}{E:Value->Shared->Prop}(hk:Keeps X f)(r:RV own s.heap fv f)(h:wpAny (model X.prog X.w) A (spliced (backTo pos (starEach (e::rest) env))) (λvs s₁=>X.K.In s₁.heap/\wpAny (model X.prog X.w) A (call fv vs) Q E s₁) E s)(he:starEach (e::rest) env=(false,eval e env)::starEach rest env)(dR:(backTo pos (starEach rest env)).any (·.1)=false) :
  wpAny (model X.prog X.w) A (callWith pos fv [] (backTo pos (starEach (e::rest) env)) []) Q E s:=by
 have h':wpAny (model X.prog X.w) A (spliced (backTo pos (starEach (e::rest) env))) (λvs s₁=>wpAny (model X.prog X.w) A (call fv vs) Q E s₁) E s:=wpAny_mono h (λZ Z q=>q.2) λZ Z q=>q
 cases r with
 | bi id =>
  rw [he] at h' ⊢
  exact Calls.callWith_builtin (by show (false||(backTo pos (starEach rest env)).any (·.1))=false;rw [dR];rfl) (evalArgs_plain h')
 | ty n=>exact PyProof.Rows.callWith_type1 h' he dR
 | ref a=>exact PySem.W.callWith_K X.hK hk h he dR
 | xk=>exact hk.elim
 | bool b=>exact hk.elim
 | int i t=>exact hk.elim
 | str x t=>exact hk.elim
 | list _ _ _ _=>exact hk.elim
 | tuple _ _ _ _=>exact hk.elim
 | q9 _ _=>exact hk.elim
abbrev KC(X:Cx)(A:Around)(f:V)(Ψ:V->Loc->Cells->Prop)(as:List V)(l:Loc)(c:Cells):Prop:=aD X A f as (λr c'=>Ψ r l c') c
theorem az{f:Str}{np pos:Pos}{e:Expr}{rest:List Expr}{fv:V}{Ψ:V->Loc->Cells->Prop}(hk:env.kindOf f=some .globalImplicit)(hl:X.glob.lookup f=some fv)(HG:Keeps X fv)(h:yy X A env (spliced (backTo pos (starEach (e::rest) env))) (KC X A fv Ψ) loc cells)(he:autoParam (starEach (e::rest) env=(false,eval e env)::starEach rest env) aR)(dR:autoParam ((backTo pos (starEach rest env)).any (·.1)=false) aR)(hd:autoParam ((f == ("__debug__":Str))=false) aDK) :
  mE X A env (eval (.Call (.Name f np) (e::rest) [] pos) env) Ψ loc cells:=λown s I=>by
 apply wpAny_Call_NameR ?_
 apply (eU (Ψ:=λv l c=>v=fv/\l=loc/\c=cells) hk hl ⟨rfl,rfl,rfl⟩ hd).use I λown1 dz bg b v1 s1 I1 r1 x1 h1=>?_
 (apply bq h1 ?_;try clear h1;intro aM;subst aM;intro bk;subst bk;intro bN;subst bN)
 apply eE HG r1 ?_ he dR
 apply h.use I1 λaG bG bO as vs s2 I2 r2 x2 h2=>⟨I2.base.K,?_⟩
 exact (h2 v1 vs).lY I2 ⟨r1.ext I1 x2,r2⟩ λbX fw c v3 s3 I3 r3 x3 h3=>⟨bX,bG,fw,c,I3,r3,x1.trans (x2.trans x3),h3⟩
noncomputable abbrev bY (qual:Str) (scope:Scope) (L a:Addr) (cd:Value):Env:=envOfC qual scope L a cd
theorem kQ{kindOf:Str->Option NameKind}{x:Str}{v:Value}:∀ {binds:List (Str×Value)} {m:Str->Option Value},(binds.map (·.1)).Nodup->binds.lookup x=some v->kindOf x=some .local->bindL kindOf binds m x=some v
 | [],m,_,e,_=>by simp at e
 | (n,u)::r,m,hn,e,hk=>by
  rw [map_cons,nodup_cons] at hn
  rw [List.lookup_cons] at e
  unfold bindL
  by_cases hx:(x == n)=true
  ·rw [hx] at e
   cases e
   have:x=n:=eq_of_beq hx
   subst this
   have:∀ (r:List (Str×Value)) (m:Str->Option Value),x ∉ r.map (·.1)->bindL kindOf r m x=m x:=by
    intro r
    induction r with
    | nil=>intro m Z;rfl
    | cons y r ih =>
     intro m hm
     obtain ⟨n',u'⟩:=y
     simp only [map_cons,mem_cons,not_or] at hm
     unfold bindL
     rw [ih _ hm.2]
     split <;> simp [hm.1]
   rw [this r _ hn.1,if_pos hk];exact if_pos rfl
  ·have tY:(x == n)=false:=by exact Eq.symm ((fun {a b}=>Bool.not_not_eq.mp) λa=>hx (id (Eq.symm a)))
   rw [tY] at e
   exact kQ hn.2 e hk
theorem kR{kindOf:Str->Option NameKind}{x:Str}{v:Value}:∀ {binds:List (Str×Value)} {m:Str->Option Value},(binds.map (·.1)).Nodup->binds.lookup x=some v->kindOf x=some .cell->bindC kindOf binds m x=some v
 | [],m,_,e,_=>by simp at e
 | (n,u)::r,m,hn,e,hk=>by
  rw [map_cons,nodup_cons] at hn
  rw [List.lookup_cons] at e
  unfold bindC
  by_cases hx:(x == n)=true
  ·rw [hx] at e
   cases e
   have:x=n:=eq_of_beq hx
   subst this
   have:∀ (r:List (Str×Value)) (m:Str->Option Value),x ∉ r.map (·.1)->bindC kindOf r m x=m x:=by
    intro r
    induction r with
    | nil=>intro m Z;rfl
    | cons y r ih =>
     intro m hm
     obtain ⟨n',u'⟩:=y
     simp only [map_cons,mem_cons,not_or] at hm
     unfold bindC
     rw [ih _ hm.2]
     split <;> simp [hm.1]
   rw [this r _ hn.1,if_neg (by rw [hk];exact not_eq_of_beq_eq_false rfl)];exact if_pos rfl
  ·have tY:(x == n)=false:=by exact Eq.symm ((fun {a b}=>Bool.not_not_eq.mp) λa=>hx (id (Eq.symm a)))
   rw [tY] at e
   exact kR hn.2 e hk
theorem bV.lookup{own:Own}{h:Heap}{x:Str}{mv:V}:∀ {names:List Str} {vs:List Value} {as:List V},bV own h vs as->(names.zip as).lookup x=some mv->∃ v,(names.zip vs).lookup x=some v/\RV own h v mv
 | [],vs,as,_,e=>by simp at e
 | n::ns,vs,[],_,e=>by simp at e
 | n::ns,vs,a::as,r,e=>by
  (apply ay r.cW ?_;intro v je cI;rw [cI];intro r1 r2)
  rw [List.zip_cons_cons,List.lookup_cons] at e ⊢
  cases hx:x == n with
  | true=>rw [hx] at e;obtain rfl:=cK e;exact (iDPP v rfl r1)
  | false=>rw [hx] at e;exact bV.lookup r2 e
theorem mem_of_lookup{c:Addr}{x:Str}:∀ {l:List (Str×Addr)},l.lookup x=some c->(x,c)∈l
 | [],e=>by simp at e
 | (y,d)::r,e=>by
  rw [List.lookup_cons] at e
  cases hy:x == y with
  | true=>rw [hy] at e;cases e;rw [eq_of_beq hy];exact .head _
  | false=>rw [hy] at e;exact .tail _ (mem_of_lookup e)
theorem sE{l:List (Str×Addr)}(hp:l.Pairwise λx y=>x.2≠y.2){x y:Str}{c:Addr}(hx:(x,c)∈l)(hy:(y,c)∈l):x=y:=by
 induction hp with
 | nil=>cases hx
 | cons h _ ih =>
  cases hx with
  | head=>cases hy with
   | head=>rfl
   | tail _ hy=>exact absurd rfl (h (y,c) hy)
  | tail _ hx=>cases hy with
   | head=>exact absurd rfl (h (x,c) hx)
   | tail _ hy=>exact ih hx hy
def Back(Az:V->Cells->Prop)(f:MF)(_:Loc)(c:Cells):Prop:=match f with
 | .ret mv=>Az mv c
 | .next=>Az .none c
 | _=>False
theorem Base.pop{own:Own}{s:Shared}{L:Addr}(I:Base (X.push L) own cells s):Base X own cells s:=⟨I.old,I.hg,I.hb,I.nolimit,I.gens,I.os,I.new,I.lt,I.cell,λL' h=>I.gx L' (mem_cons_of_mem _ h)⟩
theorem Base.push{own:Own}{s:Shared}{L:Addr}(I:Base X own cells s)(f:vI X.h₀ own s.heap L):Base (X.push L) own cells s:=⟨I.old,I.hg,I.hb,I.nolimit,I.gens,I.os,I.new,I.lt,I.cell,λL' h=>by
 rcases mem_cons.mp h with rfl | h
 ·exact f
 ·exact I.gx L' h⟩
theorem rn{k:Nat}{own:Own}{s:Shared}{qual:Str}{scope:Scope}{a:Addr}{cd:Value}{body:List Stmt}{names:List Str}{vs:List Value}{as:List V}{R:Result->Shared->Prop}{E:Value->Shared->Prop}(hA:Rm X A (k+1))(I:Base X own cells s)(rs:bV own s.heap vs as)(cq:scope.kind=.function)(ji:names.Nodup)(fh:scope.names.all (λx=>x.2 != .free)=true)(jj:names.all (λx=>scope.names.lookup x == some .local||scope.names.lookup x == some .cell)=true)(h:∀ L s₂,Inv (X.push L) (bY qual scope L a cd) own (names.zip as) cells s₂->(∀ own' c' h',Ext (Fa (bY qual scope L a cd)) own cells s₂.heap own' c' h'->Ext qH own cells s.heap own' c' h')->codeAny (model X.prog X.w) A (.func body (bY qual scope L a cd)) R s₂) :
  wpAny (model X.prog X.w) A.in1 (newFunctionEnv scope mainGlobals [] (names.zip vs) (qual++".<locals>.") (some a) cd none builtinsNs) (λenv s₂=>s₂.heap.NoLimit/\codeAny (model X.prog X.w) A (.func body env) R s₂) E s:=by
 have Mc:∀ x∈names,scope.names.lookup x=some .local\/scope.names.lookup x=some .cell:=λx hx=>by
  have:=all_eq_true.mp jj x hx
  simpa using this
 apply wpAny_newFunctionEnv_cells cq (λx hx=>?_) (λenv he s₁ C=>?_)
 ·obtain ⟨n,u⟩:=x
  have hn:n∈names:=(List.of_mem_zip hx).1
  rcases Mc n hn with q | q
  ·exact .inl q
  ·exact .inr ⟨q,cellsFrom_some _ _ _ (.inl q)⟩
 ·have Kd:env=bY qual scope s.heap.objs.size a cd:=by rw [he];rfl
  subst Kd
  (apply ij C.toInCall.same ?_;intro hh tk dH;subst dH)
  have I1:Base X own cells {s with heap:=hh,toks:=tk}:=I.keeps C.toInCall.keep
  have none_of:∀ b,s.heap.objs.size<=b->own b=none/\X.h₀.get? b=none:=λb hb=>I.fresh (by
   cases q:s.heap.get? b with
   | none=>rfl
   | some o=>exact absurd (lt_size q) (Nat.not_lt.mpr hb))
  have kindOf:∀ x,(bY qual scope s.heap.objs.size a cd).kindOf x=scope.names.lookup x:=λZ=>rfl
  have above:∀ x c,(bY qual scope s.heap.objs.size a cd).cells.lookup x=some c->s.heap.objs.size<c:=λx c l=>C.above x c (mem_of_lookup l)
  have Nw:vI X.h₀ own hh s.heap.objs.size:=⟨(none_of _ (le_refl _)).1,eg C.toInCall.ns λo es n e d Z=>(iDDDPPP o es n e d ((none_of _ (le_refl _)).2))⟩
  have I2:Inv (X.push s.heap.objs.size) (bY qual scope s.heap.objs.size a cd) own (names.zip as) cells {s with heap:=hh,toks:=tk}:=by
   apply ⟨I1.push Nw,⟨cq,rfl,rfl⟩,?_⟩
   exact {
    ns:=⟨_,C.toInCall.ns⟩
    dy:=(none_of _ (le_refl _)).1
    eO:=(none_of _ (le_refl _)).2
    i6:=λx kx=>by
     rcases kx with kx | kx
     ·rw [kindOf] at kx
      (apply bw (isSome_iff_exists.mp (cellsFrom_some scope.names (s.heap.objs.size+1) [] (.inl kx))) ?_;intro c hc)
      exact (d9 c _ hc (C.cell x c hc) ((none_of _ (le_of_lt (above x c hc))).1) ((none_of _ (le_of_lt (above x c hc))).2))
     ·rw [kindOf] at kx
      have:=all_eq_true.mp fh (x,.free) (by
       have:∀ l:List (Str×NameKind),l.lookup x=some .free->(x,NameKind.free)∈l:=by
        intro l
        induction l with
        | nil=>intro e;simp at e
        | cons y r ih =>
         intro e
         obtain ⟨n,q⟩:=y
         rw [List.lookup_cons] at e
         cases hy:x == n with
         | true=>rw [hy] at e;cases e;rw [eq_of_beq hy];exact .head _
         | false=>rw [hy] at e;exact .tail _ (ih e)
       exact this _ kx)
      simp at this
    inj:=λx y c Z Z hx hy=>sE C.apart (mem_of_lookup hx) (mem_of_lookup hy)
    var:=λx mv e=>by
     apply aj (rs.lookup e) λv e' r=>?_
     have hx:x∈names:=by
      have:∀ (ns:List Str) (vs:List Value),(ns.zip vs).lookup x=some v->x∈ns:=by
       intro ns
       induction ns with
       | nil=>intro vs e;simp at e
       | cons n ns ih =>
        intro vs e
        cases vs with
        | nil=>simp at e
        | cons u us =>
         rw [List.zip_cons_cons,List.lookup_cons] at e
         cases hy:x == n with
         | true=>rw [eq_of_beq hy];exact .head _
         | false=>rw [hy] at e;exact .tail _ (ih us e)
      exact this _ _ e'
     have yB:((names.zip vs).map (·.1)).Nodup:=by
      have:∀ (ns:List Str) (vs:List Value),ns.Nodup->((ns.zip vs).map (·.1)).Nodup:=by
       intro ns
       induction ns with
       | nil=>intro vs Z;exact W.kwDistinct_nodup rfl
       | cons n ns ih =>
        intro vs hn
        cases vs with
        | nil=>exact W.kwDistinct_nodup rfl
        | cons u us =>
         rw [nodup_cons] at hn
         rw [List.zip_cons_cons,map_cons,nodup_cons]
         apply ⟨λq=>hn.1 ?_,ih us hn.2⟩
         apply aj (mem_map.mp q) λp hp e=>?_
         have e2:p.1=n:=e
         rw [<- e2];exact (List.of_mem_zip (a:=p.1) (b:=p.2) hp).1
      exact this _ _ ji
     rcases Mc x hx with q | q
     ·exact .inl ⟨q,aH _ v C.toInCall.ns (kQ yB e' q) (r.keeps C.toInCall.keep)⟩
     ·(apply bw (isSome_iff_exists.mp (cellsFrom_some scope.names (s.heap.objs.size+1) [] (.inl q))) ?_;intro c hc)
      apply .inr ⟨.inl q,aH c v hc ?_ (r.keeps C.toInCall.keep)⟩
      have:=C.cell x c hc
      rw [kR yB e' q] at this
      exact this}
  apply ⟨I1.nolimit,h _ _ I2 λown' c' h' x=>⟨λb o e n Z t=>?_,λb o e n=>x.de b o (C.toInCall.keep b o e) n,λb o e=>x.there b o (C.toInCall.keep b o e),λb a o e q n=>x.gP b a o (C.toInCall.keep b o e) q n⟩⟩
  apply x.keep b o (C.toInCall.keep b o e) n (λf=>?_) t
  have hb:b<s.heap.objs.size:=lt_size e
  rcases f with rfl | ⟨y,_,hl⟩
  ·exact absurd hb (lt_irrefl _)
  ·exact absurd hb (Nat.not_lt.mpr (le_of_lt (above y b hl)))
theorem g0{k:Nat}{own:Own}{s:Shared}{qual:Str}{scope:Scope}{a:Addr}{cd:Value}{body:List Stmt}{names:List Str}{vs:List Value}{as:List V}{R:Result->Shared->Prop}{E:Value->Shared->Prop}{Az:V->Cells->Prop}(hA:Rm X A (k+1))(I:Base X own cells s)(rs:bV own s.heap vs as)(cq:scope.kind=.function)(ji:names.Nodup)(fh:scope.names.all (λx=>x.2 != .free)=true)(jj:names.all (λx=>scope.names.lookup x == some .local||scope.names.lookup x == some .cell)=true)(h:∀ L,mS (X.push L) (A.deeper (bY qual scope L a cd)) (bY qual scope L a cd) (execs body (bY qual scope L a cd)) (Back Az) (names.zip as) cells)(hR:∀ own' c s' mv v,Az mv c->RV own' s'.heap v mv->Base X own' c s'->Ext qH own cells s.heap own' c s'.heap->R (.ok (.ret v)) s') :
  wpAny (model X.prog X.w) A.in1 (newFunctionEnv scope mainGlobals [] (names.zip vs) (qual++".<locals>.") (some a) cd none builtinsNs) (λenv s₂=>s₂.heap.NoLimit/\codeAny (model X.prog X.w) A (.func body env) R s₂) E s :=
 rn hA I rs cq ji fh jj λL s₂ I2 hx=>by
  apply codeAny_func (wpAny_mono (Q:=λf s'=>R (.ok (.ret (match f with | .ret v=>v | _=>.none))) s') ((h L).use I2 ?_) (λZ Z q=>q) (λZ Z q=>q.elim))
  intro own' gq cells' b v s' I' r x p
  cases r with
  | ret q=>exact hR own' cells' s' _ _ p q I'.base.pop (hx _ _ _ x)
  | next=>exact hR own' cells' s' _ _ p .xk I'.base.pop (hx _ _ _ x)
  | brk=>exact p.elim
  | cont=>exact p.elim
structure FnAt(K:PySem.W.Frag)(a:Addr)(name qual:Str)(params:Arguments)(body:List Stmt)(scope:Scope)(dV kV doc pm:Value)(an:Option Addr)(cdv ct:Value):Prop where
 at_:∃ oc od FC,K.lookup a=some ⟨oc,od,.func (fnOf name qual params body scope dV kV doc pm an cdv ct),FC⟩
 code:codeIn K cdv qual=true
 keep:PySem.W.keepIn K (.ref a)=true
theorem g4{k:Nat}{a:Addr}{name qual:Str}{params:Arguments}{body:List Stmt}{scope:Scope}{dV kV doc pm:Value}{an:Option Addr}{cdv ct:Value}{names:List Str}{as:List V}{Ψ:V->Cells->Prop}(F:FnAt X.K a name qual params body scope dV kV doc pm an cdv ct)(hA:Rm X A (k+1))(hb:∀ vs:List Value,vs.length=as.length->bindArgs (fnOf name qual params body scope dV kV doc pm an cdv ct) ⟨vs,[]⟩=pure (names.zip vs))(h:∀ L,mS (X.push L) (A.deeper (bY qual scope L a cdv)) (bY qual scope L a cdv) (execs body (bY qual scope L a cdv)) (Back Ψ) (names.zip as) cells)(cq:autoParam (scope.kind=.function) aR)(qJ:autoParam (scope.isCoroutine=false) aR)(mf:autoParam (scope.isGenerator=false) aR)(ji:autoParam (names.Nodup) aDK)(fh:autoParam (scope.names.all (λx=>x.2 != .free)=true) aDK)(jj:autoParam (names.all (λx=>scope.names.lookup x == some .local||scope.names.lookup x == some .cell)=true) aDK) :
  aD X A (.ref a) as Ψ cells:=by
 intro fv vs own s I ⟨rf,rs⟩
 apply RV.e0 rf rfl ?_
 apply wpAny_call ?_
 apply jW F.at_ λoc od FC ho=>?_
 apply codeAny_call_function (fd:=fnOf name qual params body scope dV kV doc pm an cdv ct) (by have:=hA.dep;exact lt_of_add_right_lt this) (I.K _ _ ho) rfl qJ mf rfl (codeRec_of I.K F.code) ?_
 rw [hb vs rs.1]
 apply wpAny_pure ?_
 exact g0 hA I rs cq ji fh jj h λown' c s' mv v p r b x=>⟨own',c,mv,b,r,x,p⟩
theorem bZ{α:Type}{M:Model}{s:Shared}{t:Sem α}{Q:α->Shared->Prop}{E:Value->Shared->Prop}(h:wpAny M A t Q gy s):wpAny M A t Q E s:=wpAny_mono h (λZ Z q=>q) λZ Z q=>q.elim
theorem aJ{α:Type}{M:Model}{s:Shared}{t:Sem α}{Q Q':α->Shared->Prop}{E:Value->Shared->Prop}(h:wpAny M A t Q gy s)(k:∀ v s,Q v s->Q' v s):wpAny M A t Q' E s:=wpAny_mono h k λZ Z q=>q.elim
theorem ak(h:Heap):h.get? h.objs.size=none:=by
 cases q:h.get? h.objs.size with
 | none=>rfl
 | some o=>exact absurd (lt_size q) (lt_irrefl _)
end
section
theorem gQ:∀ (names:List (Str×NameKind)) (n:Nat) (acc:List (Str×Addr)),(∀ x y c,(x,c)∈acc->(y,c)∈acc->x=y)->(∀ x c,(x,c)∈acc->c<n) ->
  ∀ x y c,(x,c)∈cellsFrom n names acc->(y,c)∈cellsFrom n names acc->x=y
 | [],n,acc,hi,_=>hi
 | (z,k)::r,n,acc,hi,hb=>by
  unfold cellsFrom
  split
  ·apply gQ r (n+1) _ (λx y c hx hy=>?_) λx c hx=>?_
   ·rcases mem_cons.mp hx with e | hx <;> rcases mem_cons.mp hy with e' | hy
    ·cases e;cases e';rfl
    ·cases e;exact absurd (hb _ _ hy) (lt_irrefl _)
    ·cases e';exact absurd (hb _ _ hx) (lt_irrefl _)
    ·exact hi x y c hx hy
   ·rcases mem_cons.mp hx with e | hx
    ·cases e;exact lt_succ_self _
    ·exact lt_succ_of_lt (hb _ _ hx)
  ·exact gQ r n acc hi hb
set_option tactic.hygienic true in
theorem gR:∀ (names:List (Str×NameKind)) (n:Nat) (acc:List (Str×Addr)) (x:Str),(∀ k,(x,k)∈names->k≠.cell)->(cellsFrom n names acc).lookup x=acc.lookup x
 | [],n,acc,x,h=>rfl
 | (y,k)::r,n,acc,x,h=>by
  unfold cellsFrom
  split
  ·rename_i hk
   have Nx:(x == y)=false:=by
    cases q:x == y with
    | false=>rfl
    | true=>exact absurd (eq_of_beq hk) (h k (by rw [eq_of_beq q];exact .head _))
   rw [gR r (n+1) _ x (λk hk=>h k (.tail _ hk)),List.lookup_cons,Nx]
  ·exact gR r n acc x λk hk=>h k (.tail _ hk)
set_option tactic.hygienic true in
theorem gS:∀ (names:List (Str×NameKind)) (h:Heap) (acc:List (Str×Addr)) (x:Str) (c:Addr),(x,c)∈cellsFrom h.objs.size names acc->(x,c)∈acc\/(h.objs.size<=c/\(pushCells h names).IsCell c none)
 | [],h,acc,x,c,q=>.inl q
 | (y,k)::r,h,acc,x,c,q=>by
  unfold cellsFrom at q
  unfold pushCells
  split
  ·rename_i hk
   rw [if_pos hk] at q
   have:=gS r (h.push { cls:=.type "cell",data:=.cell none}) ((y,h.objs.size)::acc) x c (by rw [size_push];exact q)
   rcases this with z | ⟨z,w⟩
   ·rcases mem_cons.mp z with e | z
    ·cases e;exact .inr ⟨le_refl _,(iDPP _ (pushCells_keeps r _ _ _ (get?_push_size _ rfl)) rfl)⟩
    ·exact .inl z
   ·rw [size_push] at z
    exact .inr ⟨by exact le_of_succ_le z,w⟩
  ·rename_i hk
   rw [if_neg hk] at q
   exact gS r h acc x c q
theorem lookup_mem{α:Type}{x:Str}:∀ {l:List (Str×α)} {k:α},l.lookup x=some k->(x,k)∈l
 | [],_,e=>by simp at e
 | (y,q)::r,k,e=>by
  rw [List.lookup_cons] at e
  cases hy:x == y with
  | true=>rw [hy] at e;cases e;rw [eq_of_beq hy];exact .head _
  | false=>rw [hy] at e;exact .tail _ (lookup_mem e)
theorem mem_lookup{α:Type}{x:Str}{k:α}:∀ {l:List (Str×α)},(x,k)∈l->(∀ q,(x,q)∈l->q=k)->l.lookup x=some k
 | (y,q)::r,h,u=>by
  rw [List.lookup_cons]
  cases hy:x == y with
  | true=>have:x=y:=eq_of_beq hy;subst this;rw [u q (.head _)]
  | false =>
   rcases mem_cons.mp h with e | h
   ·cases e;simp at hy
   ·exact mem_lookup h λq hq=>u q (.tail _ hq)
theorem jZ{scope:Scope}(hf:∀ x,(x,NameKind.free)∈scope.names->∃ c,env.cells.lookup x=some c) :
  ∃ cl,closureFor scope env=pure cl/\∀ x c,(x,c)∈cl↔((x,NameKind.free)∈scope.names/\env.cells.lookup x=some c):=by
 have key:∀ (names:List (Str×NameKind)) (acc:List (Str×Addr)),(∀ x,(x,NameKind.free)∈names->∃ c,env.cells.lookup x=some c) ->
   ∃ cl,(forIn names acc λ(nk:Str×NameKind) cs=>(match nk with | (name,kind)=>if (kind == .free)=true then (do let c <- cellOf env name;pure (ForInStep.yield ((name,c)::cs))) else pure (ForInStep.yield cs):Sem (ForInStep (List (Str×Addr)))))=pure cl /\
    ∀ x c,(x,c)∈cl↔((x,c)∈acc\/((x,NameKind.free)∈names/\env.cells.lookup x=some c)):=by
  intro names
  induction names with
  | nil=>intro acc Z;exact (iDPP acc rfl (λx c=>by simp))
  | cons y r ih =>
   intro acc h
   obtain ⟨n,k⟩:=y
   rw [forIn_cons]
   by_cases hk:(k == NameKind.free)=true
   ·have Hr:k=.free:=eq_of_beq hk
    subst Hr
    apply bw (h n (.head _)) λc hc=>?_
    (apply aj (ih ((n,c)::acc) λx hx=>h x (.tail _ hx)) ?_;intro cl e m)
    apply (iDPP cl ?_ (λx d=>?_))
    ·have qJ:cellOf env n=pure c:=by unfold cellOf;rw [hc]
     simp only [beq_self_eq_true,if_true,qJ]
     exact e
    ·rw [m x d]
     constructor
     ·rintro (q | ⟨q,z⟩)
      ·rcases mem_cons.mp q with e | q
       ·cases e;exact .inr ⟨.head _,hc⟩
       ·exact .inl q
      ·exact .inr ⟨.tail _ q,z⟩
     ·rintro (q | ⟨q,z⟩)
      ·exact .inl (.tail _ q)
      ·rcases mem_cons.mp q with e | q
       ·cases e;rw [hc] at z;cases z;exact .inl (.head _)
       ·exact .inr ⟨q,z⟩
   ·apply aj (ih acc λx hx=>h x (.tail _ hx)) λcl e m=>?_
    apply (iDPP cl ?_ (λx d=>?_))
    ·simp only [if_neg hk]
     exact e
    ·rw [m x d]
     apply or_congr Iff.rfl (and_congr_left λZ=>⟨.tail _,λq=>?_⟩)
     rcases mem_cons.mp q with e | q
     ·cases e;simp at hk
     ·exact q
 apply aj (key scope.names [] hf) λcl e m=>?_
 apply (iDPP cl ?_ (λx c=>by rw [m x c];simp))
 have e2:closureFor scope env=((pure cl:Sem (List (Str×Addr))) >>= λr=>pure r):=congrArg (λt=>t >>= λr=>pure r) e
 exact e2
noncomputable def fi (scope:Scope) (loc:Loc):Loc:=loc.filter λp=>scope.names.lookup p.1 == some .free
set_option tactic.hygienic true in
theorem gA{scope:Scope}{x:Str}:∀ {loc:Loc},(fi scope loc).lookup x=if scope.names.lookup x == some .free then loc.lookup x else none
 | []=>by exact left_eq_ite_iff.mpr (congrFun rfl)
 | (y,v)::r=>by
  have ih:=gA (scope:=scope) (x:=x) (loc:=r)
  unfold fi at ih ⊢
  rw [filter_cons]
  by_cases hx:x=y
  ·subst hx
   split
   ·rename_i h;rw [List.lookup_cons];simp
   ·rename_i h;rw [ih,if_neg h]
  ·have hb:(x == y)=false:=by exact beq_false_of_ne hx
   split
   ·rw [List.lookup_cons,List.lookup_cons,hb];exact ih
   ·rw [List.lookup_cons,hb];exact ih
noncomputable abbrev compEnv (scope:Scope) (env:Env) (L:Addr) (cs:List (Str×Addr)):Env :=
 {scope:=relabel scope env,locals:=L,globals:=env.globals,cells:=cs,qual:=env.qual,func:=none,code:=env.code,frame:=env.frame,builtins:=env.builtins}
theorem fH{scope:Scope}{L:Addr}{cs:List (Str×Addr)}{x:Str}(he:env.scope.kind=.function) :
  (compEnv scope env L cs).kindOf x=match scope.names.lookup x with | some .free=>(if env.kindOf x=some .cell then some .cell else some .free) | k=>k:=by
 show (scope.names.map _).lookup x=_
 have:∀ names:List (Str×NameKind),(names.map λ(n,k)=>if (k == .free&&env.scope.kind == .function&&env.kindOf n == some .cell) then (n,NameKind.cell) else (n,k)).lookup x=match names.lookup x with | some .free=>(if env.kindOf x=some .cell then some .cell else some .free) | k=>k:=by
  intro names
  induction names with
  | nil=>rfl
  | cons y r ih =>
   obtain ⟨n,k⟩:=y
   rw [map_cons]
   by_cases hx:x=n
   ·subst hx
    cases k <;> simp [he]
    by_cases hk:env.kindOf x=some .cell <;> simp [hk]
   ·have hb:(x == n)=false:=by exact beq_false_of_ne hx
    rw [List.lookup_cons (k:=n),hb]
    dsimp only
    split
    ·rw [List.lookup_cons,hb];exact ih
    ·rw [List.lookup_cons,hb];exact ih
 exact this scope.names
structure cC(scope:Scope)(env:Env):Prop where
 kind:scope.kind=.function
 nodup:(scope.names.map (·.1)).Nodup
 free:scope.names.all (λp=>p.2 != .free||(env.kindOf p.1 == some .cell||env.kindOf p.1 == some .free))=true
theorem cC.isFree{scope:Scope}(C:cC scope env){x:Str}(h:(x,NameKind.free)∈scope.names):bj (env.kindOf x):=by
 have:=all_eq_true.mp C.free _ h
 simpa [bj] using this
theorem cC.uniq{scope:Scope}(C:cC scope env){x:Str}{k k':NameKind}(h:(x,k)∈scope.names)(h':(x,k')∈scope.names):k=k':=by
 have:∀ names:List (Str×NameKind),(names.map (·.1)).Nodup->(x,k)∈names->(x,k')∈names->k=k':=by
  intro names
  induction names with
  | nil=>intro Z h;cases h
  | cons y r ih =>
   intro hn h h'
   rw [map_cons,nodup_cons] at hn
   rcases mem_cons.mp h with e | h <;> rcases mem_cons.mp h' with e' | h'
   ·rw [<- e] at e';exact (Prod.mk.inj e').2.symm
   ·rw [<- e] at hn;exact absurd (mem_map.mpr (iDPP _ h' rfl)) hn.1
   ·rw [<- e'] at hn;exact absurd (mem_map.mpr (iDPP _ h rfl)) hn.1
   ·exact ih hn.2 h h'
 exact this _ C.nodup h h'
theorem cC.lookup{scope:Scope}(C:cC scope env){x:Str}{k:NameKind}:scope.names.lookup x=some k↔(x,k)∈scope.names :=
 ⟨lookup_mem,λh=>mem_lookup h λq hq=>C.uniq hq h⟩
theorem fJ{h:Heap}{b:Addr}(hb:h.objs.size<=b):h.get? b=none:=by
 cases q:h.get? b with
 | none=>rfl
 | some o=>exact absurd (lt_size q) (Nat.not_lt.mpr hb)
theorem o5{scope:Scope}{cl:List (Str×Addr)}(C:cC scope env)(I:Inv X env own loc cells s)(nZ:∀ x c,(x,c)∈cl↔((x,NameKind.free)∈scope.names/\env.cells.lookup x=some c)){h1:Heap}(hs:s.heap.objs.size<=h1.objs.size) :
  (∀ x,(x,NameKind.cell)∈scope.names->∃ c,(cellsFrom h1.objs.size scope.names cl).lookup x=some c/\h1.objs.size<=c/\(pushCells h1 scope.names).IsCell c none) /\
  (∀ x,(x,NameKind.free)∈scope.names->∃ c,(cellsFrom h1.objs.size scope.names cl).lookup x=some c/\env.cells.lookup x=some c) /\
  (∀ x y c,(x,c)∈cellsFrom h1.objs.size scope.names cl->(y,c)∈cellsFrom h1.objs.size scope.names cl->x=y):=by
 have lt:∀ x c,(x,c)∈cl->c<h1.objs.size:=λx c h=>by
  apply aC ((nZ x c).mp h) λhf hl=>?_
  apply ay (I.fr.i6 x (C.isFree hf)) λc' v0 iU hc Z=>?_
  rw [hl] at iU;obtain rfl:=cK iU
  exact lt_of_lt_of_le hc.lt hs
 apply ⟨λx hx=>?_,λx hx=>?_,gQ _ _ _ (λx y c hx hy=>?_) lt⟩
 ·(apply bw (isSome_iff_exists.mp (cellsFrom_some scope.names h1.objs.size cl (.inl (C.lookup.mpr hx)))) ?_;intro c hc)
  rcases gS _ _ _ _ _ (lookup_mem hc) with q | ⟨q,z⟩
  ·exact absurd (C.uniq hx ((nZ x c).mp q).1) (by decide)
  ·exact (aV c hc q z)
 ·apply bW (I.fr.i6 x (C.isFree hx)) λc v0 hl Z=>?_
  apply (iDPP c ?_ hl)
  rw [gR _ _ _ _ λk hk z=>absurd (C.uniq hx (z▸hk)) (by decide)]
  exact mem_lookup ((nZ x c).mpr ⟨hx,hl⟩) λd hd=>by
   have:=((nZ x d).mp hd).2
   rw [hl] at this;exact (cK this).symm
 ·apply aC ((nZ x c).mp hx) λfx lx=>?_
  apply aC ((nZ y c).mp hy) λfy ly=>?_
  exact I.fr.inj x y c (C.isFree fx) (C.isFree fy) lx ly
theorem o6{scope:Scope}{L:Addr}{cs:List (Str×Addr)}{x:Str}(ek:env.scope.kind=.function)(hk:bj ((compEnv scope env L cs).kindOf x)):(x,NameKind.cell)∈scope.names\/(x,NameKind.free)∈scope.names:=by
 rw [fH (env:=env) ek] at hk
 cases hl:scope.names.lookup x with
 | none=>rw [hl] at hk;rcases hk with hk | hk <;> exact bf hk
 | some k =>
  rw [hl] at hk
  cases k with
  | cell=>exact .inl (lookup_mem hl)
  | free=>exact .inr (lookup_mem hl)
  | «local»=>rcases hk with hk | hk <;> cases hk
  | globalImplicit=>rcases hk with hk | hk <;> cases hk
  | globalExplicit=>rcases hk with hk | hk <;> cases hk
set_option tactic.hygienic true in
theorem AA{scope:Scope}{cl:List (Str×Addr)}{t:Nat}(C:cC scope env)(I:Inv X env own loc cells s)(nZ:∀ x c,(x,c)∈cl↔((x,NameKind.free)∈scope.names/\env.cells.lookup x=some c)) :
  Inv X (compEnv scope env s.heap.objs.size (cellsFrom (s.heap.objs.size+1) scope.names cl)) own (fi scope loc) cells
   {s with heap:=pushCells (s.heap.push { cls:=.type "dict",data:=.dict #[]}) scope.names,toks:=t}:=by
 have keep:∀ b o,s.heap.get? b=some o->(pushCells (s.heap.push { cls:=.type "dict",data:=.dict #[]}) scope.names).get? b=some o:=λb o e=>pushCells_keeps _ _ _ _ (get?_push_of_some _ e)
 apply bq (o5 (h1:=s.heap.push { cls:=.type "dict",data:=.dict #[]}) C I nZ (by rw [size_push];exact le_add_right s.heap.objs.size 1)) λc1 c2 c3=>?_
 rw [size_push] at c1 c2 c3
 have kd:=λx=>fH (env:=env) (scope:=scope) (L:=s.heap.objs.size) (cs:=cellsFrom (s.heap.objs.size+1) scope.names cl) (x:=x) I.ok.kind
 apply ⟨I.base.keeps keep,⟨C.kind,I.ok.glob,I.ok.blt⟩,?_⟩
 exact {
  ns:=⟨_,(Ns.new s.heap (.type "dict")).keeps λb o e=>pushCells_keeps _ _ _ _ e⟩
  dy:=(I.base.fresh (ak _)).1
  eO:=(I.base.fresh (ak _)).2
  i6:=λx hk=>by
   rcases o6 I.ok.kind hk with q | q
   ·apply bM (c1 x q) λc l z e=>?_
    exact (d9 c none l e ((I.base.fresh (fJ (le_of_succ_le z))).1) ((I.base.fresh (fJ (le_of_succ_le z))).2))
   ·apply aj (c2 x q) λc l l'=>?_
    apply cJ (I.fr.i6 x (C.isFree q)) λc' v0 l2 ic on nn=>?_
    rw [l'] at l2;obtain rfl:=cK l2
    exact ⟨c,v0,l,ic.keeps keep,on,nn⟩
  inj:=λx y c Z Z hx hy=>c3 x y c (lookup_mem hx) (lookup_mem hy)
  var:=λx mv e=>by
   rw [gA] at e
   split at e
   ·rename_i hf
    have Ke:scope.names.lookup x=some .free:=by simpa using hf
    apply aj (c2 x (lookup_mem Ke)) λc l l'=>?_
    have hv:=I.fr.var x mv e
    have hk:∃ v,s.heap.IsCell c (some v)/\RV own s.heap v mv:=by
     rcases hv with q | q
     ·have:=C.isFree (lookup_mem Ke);rw [q.1] at this;rcases this with q | q <;> cases q
     ·apply ay q.2 λc' v a b d=>?_;rw [l'] at a;obtain rfl:=cK a;exact (iDPP v b d)
    apply aj hk λv ic r=>?_
    apply .inr ⟨?_,aH c v l (ic.keeps keep) (r.keeps keep)⟩
    rw [kd x,Ke]
    dsimp only
    by_cases q:env.kindOf x=some .cell
    ·exact .inl (if_pos q)
    ·exact .inr (if_neg q)
   ·cases e}
end
section
noncomputable def fz (X:Cx) (A:Around) (env:Env):List Expr->(Bool->Loc->Cells->Prop)->Loc->Cells->Prop
 | [],Ψ,l,c=>Ψ true l c
 | e::r,Ψ,l,c=>mT X A env (isTrue e env (eval e env)) (λok l c=>if ok then fz X A env r Ψ l c else Ψ false l c) l c
noncomputable abbrev fS (env:Env) (ifs:List Expr) (b:Bool):Sem Bool:=forIn ifs b λc r=>if r=true then do let ok <- isTrue c env (eval c env);pure (ForInStep.yield ok) else pure (ForInStep.yield r)
theorem iV(env:Env):∀ ifs:List Expr,fS env ifs false=pure false
 | []=>rfl
 | c::r=>by
  show forIn (c::r) false _=_
  rw [forIn_cons]
  exact iV env r
theorem jk:∀ (ifs:List Expr) {Ψ:Bool->Loc->Cells->Prop} {loc:Loc} {cells:Cells},fz X A env ifs Ψ loc cells->mT X A env (fS env ifs true) Ψ loc cells
 | [],Ψ,loc,cells,h=>λown s I=>wpAny_pure (inv_end I rfl h)
 | e::r,Ψ,loc,cells,h=>λown s I=>by
  show wpAny _ _ (forIn (e::r) true _) _ _ _
  rw [forIn_cons]
  apply wpAny_bind (wpAny_bind (cL.use h I λown1 dz bg b v s1 I1 r1 x1 h1=>?_))
  have:v=b:=r1
  subst this
  apply wpAny_pure ?_
  cases v with
  | true =>
   show wpAny _ _ (fS env r true) _ _ _
   exact (jk r h1).use I1 λaG bG bO b v s2 I2 r2 x2 h2=>⟨aG,bG,bO,b,I2,r2,x1.trans x2,h2⟩
  | false =>
   show wpAny _ _ (fS env r false) _ _ _
   rw [iV]
   exact wpAny_pure ⟨own1,dz,bg,false,I1,rfl,x1,h1⟩
noncomputable def cM (own:Own) (a:Addr):Own:=λb=>if b=a then some a else own b
noncomputable def disown (own:Own) (a:Addr):Own:=λb=>if b=a then none else own b
theorem xr{a:Addr}{h h':Heap}{v:Value}{x:V}(hn:h.get? a=none)(hk:∀ b o,h.get? b=some o->h'.get? b=some o)(r:RV own h v x):RV (cM own a) h' v x :=
 r.mono (λb o e Z Z=>hk b o e) λb o e q=>by unfold cM;rw [if_neg (λz=>by rw [z,hn] at e;exact bf e)];exact q
theorem o7{a:Addr}{h:Heap}(hn:h.get? a=none){b:Addr}{o:Obj}(e:h.get? b=some o):cM own a b=own b:=if_neg λz=>bf (((congrArg h.get? z).trans hn).symm.trans e)
theorem Base.cM{a:Addr}{h':Heap}{t:Nat}(I:Base X own cells s)(hn:s.heap.get? a=none)(hc:cells a=none)(hk:∀ b o,s.heap.get? b=some o->h'.get? b=some o){o:Obj}(e:h'.get? a=some o) :
  Base X (cM own a) cells {s with heap:=h',toks:=t} :=
 I.step (P:=λZ=>False) (λZ f=>f.elim) (λb o Z=>hk b o) (λb d q=>by
  by_cases z:b=a
  ·exact z▸⟨(I.fresh hn).2,bJ o e⟩
  ·have q:own b=some d:=(if_neg z).symm.trans q
   exact ⟨I.new b d q,bw (I.lt b d q) λo' e'=>bJ o' (hk b o' e')⟩)
  (λd c q=>bw (I.lt d d (I.cell d c q).1) λod ed=>⟨(o7 hn ed).trans (I.cell d c q).1,(I.cell d c q).2.mono (λb o q' e'=>⟨hk b o e',(o7 hn e').trans q'⟩) (λv x r=>xr hn hk r) (I.cell d c q).1⟩)
  λL hL=>(I.gx L hL).mono (λo e=>hk L o e) λo e n=>(o7 hn e).trans n
theorem nr{a b:Addr}(e:own b=none):disown own a b=none:=by unfold disown;split;rfl;exact e
theorem Base.disown{a:Addr}(I:Base X own cells s)(ha:own a=some a)(hc:cells a=none)(hr:∀ v x,RV own s.heap v x->RV (disown own a) s.heap v x):Base X (disown own a) cells s :=
 I.step (P:=λZ=>False) (t:=s.toks) (λZ f=>f.elim) (λb o Z e=>e) (λb d q=>by
  by_cases z:b=a
  ·exact dc (q.symm.trans (if_pos z))
  ·have q:own b=some d:=(if_neg z).symm.trans q
   exact ⟨I.new b d q,I.lt b d q⟩)
  (λd c q =>
   have nd:∀ {b},own b=some d->b≠a:=λe z=>bf (((congrArg cells (cK (((congrArg own z).trans ha).symm.trans e))).symm.trans hc).symm.trans q)
   ⟨(if_neg (nd (I.cell d c q).1)).trans (I.cell d c q).1,(I.cell d c q).2.mono (λb o q' e'=>⟨e',(if_neg (nd q')).trans q'⟩) hr (I.cell d c q).1⟩)
  λL hL=>(I.gx L hL).mono (λo e=>e) λo e n=>nr n
theorem yC{a:Addr}{h:Heap}{v:Value}{x:V}(r:RV own h v x):RV (disown own a) h v x:=r.mono (λZ Z e Z Z=>e) λb o e q=>nr q
end
section
variable {h':Heap}
structure ue(X:Cx)(A:Around)(target:Expr)(it:Value)(fp wr:List Addr)(n:Nat)(St:Nat->Heap->Prop)(P:Nat->Heap->Heap->Value->Prop):Prop where
 sub:∀ b∈wr,b∈fp
 frame:∀ i h h',St i h->(∀ b∈fp,∀ o,h.get? b=some o->h'.get? b=some o)->St i h'
 item:∀ i (s:Shared) (Q:Value->Shared->Prop),i<n->St i s.heap->(∀ v h' tk,P i s.heap h' v->St (i+1) h'->(∀ b o,b ∉ wr->s.heap.get? b=some o->h'.get? b=some o)->Q v {s with heap:=h',toks:=tk}) ->
  wpAny (model X.prog X.w) A (pyNext it) (λr s1=>∃ v,r=some v/\wpAny (model X.prog X.w) A (letOwnedTupleGo target it v) (λZ s2=>Q v s2) gy s1) gy s
 done:∀ (s:Shared) (Q:Shared->Prop),St n s.heap->(∀ h' tk,(∀ b o,b ∉ wr->s.heap.get? b=some o->h'.get? b=some o)->Q {s with heap:=h',toks:=tk})->wpAny (model X.prog X.w) A (pyNext it) (λr s1=>r=none/\Q s1) gy s
 self:∀ i (s:Shared) (Q:Value->Shared->Prop),St i s.heap->Q it s->wpAny (model X.prog X.w) A (pyIter it) Q gy s
def i7(own:Own)(cells:Cells)(h:Heap)(b:Addr):Prop:=∃ o,h.get? b=some o/\((own b=none/\qG o)\/(own b=some b/\Still cells b))
theorem i7.ext{F:Addr->Prop}{own':Own}{cells':Cells}{h:Heap}{b:Addr}(hF:∀ b o,F b->h.get? b=some o->qG o->False)(x:Ext F own cells h own' cells' h')(f:i7 own cells h b) :
  i7 own' cells' h' b/\∃ o,h.get? b=some o/\h'.get? b=some o:=by
 obtain ⟨o,e,⟨n,z⟩ | ⟨n,z⟩⟩:=f
 ·apply aj (x.keep b o e n (λq=>hF b o q e z) (jf z.cls.2)) λo2 e2 lk=>?_
  have e3:h'.get? b=some o:=by rw [e2,lk.2.2 z.nodict]
  exact (m7 ((iDPP o e3 (.inl ⟨x.de b o e n,z⟩))) o e e3)
 ·apply bq (x.gP b b o e n ⟨z,rfl⟩) λp1 p2 p3=>?_
  exact (m7 ((iDPP o p1 (.inr ⟨p2,z.of p3.1⟩))) o e p1)
theorem i7.keep{h h':Heap}{b:Addr}(hk:∀ o,h.get? b=some o->h'.get? b=some o)(f:i7 own cells h b):i7 own cells h' b:=let ⟨o,e,z⟩:=f;(iDPP o (hk o e) z)
theorem i7.AB{own':Own}{h:Heap}{b:Addr}(ho:own' b=own b)(f:i7 own cells h b):i7 own' cells h b:=let ⟨o,e,z⟩:=f;(iDPP o e (by rw [ho];exact z))
structure SrcAt(X:Cx)(A:Around)(target:Expr)(own:Own)(cells:Cells)(h₀ h:Heap)(it:Value)(items:List V)(fp wr:List Addr)(St:Nat->Heap->Prop)(P:Nat->Heap->Heap->Value->Prop):Prop where
 d:ue X A target it fp wr items.length St P
 st:St 0 h
 w:∀ b∈wr,h₀.get? b=none/\own b=some b/\cells b=none
 ex:∀ i h',St i h'->∀ b∈fp,∃ o,h'.get? b=some o
 f:∀ b∈fp,b ∉ wr->i7 own cells h b
 p:∀ i own' hp h' v x,P i hp h' v->items[i]?=some x->(∀ u y,RV own h u y->RV own' h' u y)->(∀ b,hp.get? b=none->own' b=none)->RV own' h' v x
def Src(X:Cx)(A:Around)(target:Expr)(own:Own)(cells:Cells)(h₀ h:Heap)(it:Value)(items:List V):Prop:=∃ fp wr St P,SrcAt X A target own cells h₀ h it items fp wr St P
def iW(X:Cx)(A:Around)(env:Env)(target iter:Expr)(Φ:List V->Loc->Cells->Prop)(loc:Loc)(cells:Cells):Prop :=
 ∀ own s,Inv X env own loc cells s->wpAny (model X.prog X.w) A (eval iter env) (λxv s1=>wpAny (model X.prog X.w) A (pyIter xv) (λit s2 =>
  ∃ own' gq cells' items,Inv X env own' gq cells' s2/\Ext (Fa env) own cells s.heap own' cells' s2.heap/\Src X A target own' cells' s.heap s2.heap it items/\Φ items gq cells') gy s1) gy s
def sF(X:Cx)(A:Around)(env:Env)(target:Expr)(v:V)(bind:Loc->Loc):Prop :=
 ∀ own loc cells s u (K:Shared->Prop),Inv X env own loc cells s->RV own s.heap u v->(∀ s',Inv X env own (bind loc) cells s'->Ext (Fa env) own cells s.heap own cells s'.heap->K s')->wpAny (model X.prog X.w) A (assign target env u) (λZ s'=>K s') gy s
theorem dW{x:Str}{p:Pos}{v:V}(hk:env.kindOf x=some .local\/env.kindOf x=some .cell):sF X A env (.Name x p) v (λl=>(x,v)::l):=by
 intro own loc cells s u K I r h
 show wpAny _ _ (do standAt p;bindName env x u) _ _ _
 exact wpAny_bind (wpAny_standAt (wpAny_bindName (bu I r hk h)))
theorem o8{x y:Str}{p q pos:Pos}{k:Nat}{v w:V}(hh:A.handled=none)(hx:env.kindOf x=some .local\/env.kindOf x=some .cell)(hy:env.kindOf y=some .local\/env.kindOf y=some .cell) :
  sF X A env (.Tuple [.Name x p,.Name y q] k pos) (.tuple [v,w]) (λl=>(y,w)::(x,v)::l):=by
 intro own loc cells s u K I r h
 apply RV.yx r λa d vs n sl ho hn hz hi=>?_
 obtain ⟨a1,a2,rfl⟩:=xn hz
 have r1:=hi 0 a1 v rfl rfl
 have r2:=hi 1 a2 w rfl rfl
 apply wpAny_assign_Tuple (items:=#[a1,a2]) hh ⟨_,ho,rfl,n,rfl⟩ rfl rfl λh' tY=>?_
 have keep:∀ b o,s.heap.get? b=some o->h'.get? b=some o:=λb o e=>tY b o (λz=>by rw [z,ak] at e;exact bf e) e
 have I1:Inv X env own loc cells {s with heap:=h'}:=⟨I.base.keeps keep,I.ok,I.fr.ext (cells:=cells) (cells':=cells) (.of_keeps keep)⟩
 show wpAny _ _ (do holding [a2] (do standAt p;bindName env x a1);(do holding [] (do standAt q;bindName env y a2);pure ())) _ _ _
 apply wpAny_bind (wpAny_holding (wpAny_bind (wpAny_standAt (wpAny_bindName (bu I1 (r1.keeps keep) hx λs2 I2 x2=>?_)))))
 apply wpAny_bind (wpAny_holding (wpAny_bind (wpAny_standAt (wpAny_bindName (bu I2 ((r2.keeps keep).ext I1 x2) hy λs3 I3 x3=>?_)))))
 exact wpAny_pure (h s3 I3 (Ext.trans (.of_keeps keep) (x2.trans x3)))
noncomputable def sG (own:Own) (wr:List Addr):Own:=λb=>if b∈wr then some b else own b
noncomputable def yD (own:Own) (wr:List Addr):Own:=λb=>if b∈wr then none else own b
theorem Base.Dh{wr:List Addr}{t:Nat}(I:Base X own cells s)(hw:∀ b∈wr,own b=some b/\cells b=none)(hs:∀ b o,b ∉ wr->s.heap.get? b=some o->h'.get? b=some o)(h2:∀ b∈wr,∃ o,h'.get? b=some o) :
  Base X own cells {s with heap:=h',toks:=t} :=
 I.step (P:=λb=>b∈wr) (λb p=>I.new b b (hw b p).1) hs (λb d e=>⟨I.new b d e,by
   by_cases hb:b∈wr
   ·exact h2 b hb
   ·exact bw (I.lt b d e) λo q=>bJ o (hs b o hb q)⟩)
  (λd c e=>⟨(I.cell d c e).1,(I.cell d c e).2.mono (λb o q e'=>⟨hs b o (λz=>bf (((congrArg cells (cK ((hw b z).1.symm.trans q))).symm.trans (hw b z).2).symm.trans e)) e',q⟩)
   (λv x r=>r.mono (λb o e q Z=>hs b o (λz=>dc ((hw b z).1.symm.trans q)) e) λZ Z Z e=>e) (I.cell d c e).1⟩)
  λL hL=>(I.gx L hL).mono (λo e=>hs L o (λz=>dc ((hw L z).1.symm.trans (I.gx L hL).1)) e) λZ Z n=>n
theorem jM{wr:List Addr}{b:Addr}(e:own b=none):yD own wr b=none:=by unfold yD;split;rfl;exact e
theorem oz{wr:List Addr}{b:Addr}(n:b ∉ wr):yD own wr b=own b:=if_neg n
theorem Base.Kf{wr:List Addr}{t:Nat}(I:Base X own cells s)(hw:∀ b∈wr,own b=some b/\cells b=none)(hs:∀ b o,b ∉ wr->s.heap.get? b=some o->h'.get? b=some o):Base X (yD own wr) cells {s with heap:=h',toks:=t} :=
 I.step (P:=λb=>b∈wr) (λb p=>I.new b b (hw b p).1) hs (λb d e=>by
   by_cases z:b∈wr
   ·exact dc (e.symm.trans (if_pos z))
   ·have q:=(oz z).symm.trans e
    exact ⟨I.new b d q,bw (I.lt b d q) λo e'=>bJ o (hs b o z e')⟩)
  (λd c e =>
   have nd:∀ {b},own b=some d->b ∉ wr:=λq z=>bf (((congrArg cells (cK ((hw _ z).1.symm.trans q))).symm.trans (hw _ z).2).symm.trans e)
   have hd:=(I.cell d c e).1
   ⟨(oz (nd hd)).trans hd,(I.cell d c e).2.mono (λb o q e'=>⟨hs b o (nd q) e',(oz (nd q)).trans q⟩)
    (λv x r=>r.mono (λb o e q Z=>hs b o (λz=>dc ((hw b z).1.symm.trans q)) e) λb o e q=>jM q) hd⟩)
  λL hL=>(I.gx L hL).mono (λo e=>hs L o (λz=>dc ((hw L z).1.symm.trans (I.gx L hL).1)) e) λZ Z n=>jM n
theorem aN.owned{P:Addr->Prop}{h₀ h:Heap}(F:aN h₀ env own h loc)(hP:∀ b,P b->own b≠none)(hs:∀ b o,¬ P b->h.get? b=some o->h'.get? b=some o):aN h₀ env own h' loc :=
 have ic:∀ {y c v},bj (env.kindOf y)->env.cells.lookup y=some c->h.IsCell c v->h'.IsCell c v:=fun {y c v} k l=>cJ (F.i6 y k) λc' v0 l' Z on Z=>rj λo=>hs c o λz=>hP c z ((congrArg own (cK (l'.symm.trans l))).symm.trans on)
 {ns:=bw F.ns λm q=>⟨m,kO (λo=>hs _ o λz=>hP _ z F.dy) q⟩
  dy:=F.dy
  eO:=F.eO
  i6:=λy k=>ay (F.i6 y k) λc v₀ l i n=>aH c v₀ l (ic k l i) n
  inj:=F.inj
  var:=λy mv e=>(F.var y mv e).mono (λm=>kO λo=>hs _ o λz=>hP _ z F.dy) (λc v k l=>ic k l) λZ r=>r.mono (λb o e q Z=>hs b o (λz=>hP _ z q) e) λZ Z Z e=>e}
theorem aN.AB{own':Own}{h₀ h:Heap}(F:aN h₀ env own h loc)(hn:∀ b,own b=none->(∃ o,h.get? b=some o)->own' b=none):aN h₀ env own' h loc where
 ns:=F.ns
 dy:=hn _ F.dy (bw F.ns λm q=>jg q)
 eO:=F.eO
 i6:=λy k=>cJ (F.i6 y k) λc v₀ l i n z=>d9 c v₀ l i (hn _ n (iq i)) z
 inj:=F.inj
 var:=λy mv e=>(F.var y mv e).mono (λZ q=>q) (λZ Z Z Z q=>q) λZ r=>r.mono (λZ Z e Z Z=>e) λb o e q=>hn b q (bJ o e)
end
section
variable {h h':Heap}{F:Addr->Prop}{aO:Own}{aP:Cells}{h₀:Heap}{wr:List Addr}
theorem Ext.drawn(x:Ext F aO aP h₀ own cells h)(hw:∀ b o,h₀.get? b=some o->b ∉ wr)(keep:∀ b o,b ∉ wr->h.get? b=some o->h'.get? b=some o):Ext F aO aP h₀ own cells h' where
 keep:=λb o e n f t=>aj (x.keep b o e n f t) λo' e' lk=>iDPP o' (keep b o' (hw b o e) e') lk
 de:=x.de
 there:=λb o e=>bw (x.there b o e) λo' e'=>bJ o' (keep b o' (hw b o e) e')
 gP:=λb q o e z w=>aC (x.gP b q o e z w) λp r=>⟨keep b o (hw b o e) p,r⟩
theorem Ext.Ny(x:Ext F aO aP h₀ own cells h)(hw:∀ b o,h₀.get? b=some o->b ∉ wr):Ext F aO aP h₀ (yD own wr) cells h where
 keep:=x.keep
 de:=λb o e n=>jM (x.de b o e n)
 there:=x.there
 gP:=λb q o e z w=>bq (x.gP b q o e z w) λp1 p2 p3=>⟨p1,(oz (hw b o e)).trans p2,p3⟩
theorem yE{fp:List Addr}(x:Ext F own cells h aO aP h₀)(hF:∀ b o,F b->h.get? b=some o->qG o->False)(hx:∀ b∈wr,∃ o,h.get? b=some o)(AD:∀ b∈wr,own b=some b/\cells b=none)(hf:∀ b∈fp,b ∉ wr->i7 own cells h b) :
  (∀ b∈wr,aO b=some b/\aP b=none)/\(∀ b∈fp,b ∉ wr->i7 aO aP h₀ b)/\∀ b∈fp,∀ o,h.get? b=some o->h₀.get? b=some o :=
 And.intro (λb hb=>bw (hx b hb) λo e=>bq (x.gP b b o e (AD b hb).1 ⟨.inl (AD b hb).2,rfl⟩) λZ p2 p3=>⟨p2,p3.1.trans (AD b hb).2⟩)
  (And.intro (λb hb hw=>((hf b hb hw).ext hF x).1)
  λb hb o e=>by
   by_cases hw:b∈wr
   ·exact (x.gP b b o e (AD b hw).1 ⟨.inl (AD b hw).2,rfl⟩).1
   ·exact jX ((hf b hb hw).ext hF x) λZ o' e' e2=>cK (e'.symm.trans e)▸e2)
noncomputable def sH (Fin:Shared->Prop) (Q:Value->Shared->Prop):Option Value->Shared->Prop
 | none=>Fin
 | some v=>Q v
theorem sH.FD{Fin:Shared->Prop}{Q:Value->Shared->Prop}{r:Option Value}(h:∃ v,r=some v/\Q v s):sH Fin Q r s:=aj h λv e q=>e▸q
theorem sH.FE{Fin:Shared->Prop}{Q:Value->Shared->Prop}{r:Option Value}(h:r=none/\Fin s):sH Fin Q r s:=aC h λe q=>e▸q
@[elab_as_elim] theorem sH.elim{Fin:Shared->Prop}{Q:Value->Shared->Prop}{r:Option Value}{M:Option Value->Prop}(h:sH Fin Q r s)(a:Fin s->M none)(b:∀ v,Q v s->M (some v)):M r:=by
 cases r with
 | none=>exact a h
 | some v=>exact b v h
def HH(X:Cx)(A:Around)(target:Expr)(env:Env)(it:Value)(Em:(Shared->Prop)->Shared->Prop)(Fin:Shared->Prop)(T:Nat->Shared->Prop):Prop :=
 ∀ k s,T k s->wpAny (model X.prog X.w) A (pyNext it) (sH Fin λv s1=>wpAny (model X.prog X.w) A (letOwnedTupleGo target it v) (λZ s2=>wpAny (model X.prog X.w) A (assign target env v) (λZ s3=>Em (λs6=>∃ m,m<k/\T m s6) s3) gy s2) gy s1) gy s
def HI(X:Cx)(A:Around)(target:Expr)(env:Env)(it:Value)(Em:(Shared->Prop)->Shared->Prop)(Fin G:Shared->Prop):Prop:=∀ T:Nat->Shared->Prop,HH X A target env it Em Fin T->∀ k s,T k s->G s
theorem vL{k i n:Nat}(h:k+1+i=n):i<n/\k+(i+1)=n:=by lia
theorem uf{target:Expr}{it:Value}{items:List V}{bind:V->Loc->Loc}{aG:Own}{c2:Cells}{l2:Loc}{s2:Shared}{Em:(Shared->Prop)->Shared->Prop}{Fin G:Shared->Prop}{J:Nat->Loc->Cells->Prop}(I2:Inv X env aG l2 c2 s2)(x2:Ext (Fa env) aO aP h₀ aG c2 s2.heap)(src:Src X A target aG c2 h₀ s2.heap it items)(j0:J 0 l2 c2)(AE:∀ v∈items,sF X A env target v (bind v))(turn:∀ i v l c own s (Q:Shared->Prop),items[i]?=some v->J i l c->Inv X env own (bind v l) c s->Ext (Fa env) aO aP h₀ own c s.heap ->
   (∀ own' l' c' s',Inv X env own' l' c' s'->Ext (Fa env) own c s.heap own' c' s'.heap->J (i+1) l' c'->Q s')->Em Q s)(done:∀ own' l' c' s',Inv X env own' l' c' s'->Ext (Fa env) aO aP h₀ own' c' s'.heap->J items.length l' c'->Fin s')(Kg:HI X A target env it Em Fin G) :
  G s2/\wpAny (model X.prog X.w) A (pyIter it) (λHJ s'=>HJ=it/\G s') gy s2:=by
 apply eT src ?_;clear src;intro fp wr St P S
 have hw:∀ b o,h₀.get? b=some o->b ∉ wr:=λb o e q=>dc (e.symm.trans (S.w b q).1)
 apply (λg=>⟨g,S.d.self 0 _ _ S.st ⟨rfl,g⟩⟩:G s2->_) (Kg (λk s=>∃ i own l c,k+i=items.length/\Inv X env own l c s/\Ext (Fa env) aO aP h₀ own c s.heap/\St i s.heap/\(∀ b∈wr,own b=some b/\c b=none) /\
  (∀ b∈fp,b ∉ wr->i7 own c s.heap b)/\(∀ v x,RV aG s2.heap v x->RV own s.heap v x)/\J i l c) (λk s Hr=>?_) items.length s2 ⟨0,aG,l2,c2,(Nat.add_zero _),I2,x2,S.st,(λb hb=>(S.w b hb).2),S.f,(λZ Z r=>r),j0⟩)
 apply qF Hr ?_;clear Hr;intro i own l c yF Iv xv st AD hf NA j
 have fo:∀ {h'},(∀ b o,b ∉ wr->s.heap.get? b=some o->h'.get? b=some o)->aN X.h₀ env own h' l:=λkeep=>Iv.fr.owned (P:=λb=>b∈wr) (λb hb e=>bf (e.symm.trans (AD b hb).1)) keep
 cases k with
 | succ k =>
  apply aC (vL yF) ?_;intro hi yF
  apply aJ (S.d.item i s _ hi st λv h' tk pv mh keep=>?_) λr s1 hr=>sH.FD hr
  have hx:∀ b∈fp,∃ o,h'.get? b=some o:=S.ex (i+1) h' mh
  have I1:Inv X env own l c {s with heap:=h',toks:=tk}:=⟨Iv.base.Dh AD keep λb hb=>hx b (S.d.sub b hb),Iv.ok,fo keep⟩
  have x1:=xv.drawn hw keep
  have Md:∀ v x,RV aG s2.heap v x->RV own h' v x:=λv x r=>(NA v x r).mono (λb o e q Z=>keep b o (λz=>bf (q.symm.trans (AD b z).1)) e) λZ Z Z e=>e
  apply AE items[i] (getElem_mem hi) own l c _ v _ I1 (S.p i own s.heap h' v _ pv (getElem?_eq_getElem hi) Md λb hb=>(Iv.base.fresh hb).1) λs3 I3 x3=>?_
  apply turn i _ l c own s3 _ (getElem?_eq_getElem hi) j I3 (x1.trans x3) λeh l4 c4 s4 I4 x4 j4=>?_
  have Kh:=x3.trans x4
  apply bq (yE Kh (λb o q e z=>I1.fr.ip q e z) (λb hb=>hx b (S.d.sub b hb)) AD λb hb hw=>(hf b hb hw).keep λo e=>keep b o hw e) ?_;intro w4 f4 k4
  exact nW k (lt_succ_self k) (i+1) eh l4 c4 yF I4 (x1.trans Kh) (S.d.frame (i+1) h' s4.heap mh k4) w4 f4 (λv x r=>(Md v x r).ext I1 Kh) j4
 | zero =>
  have yF:=(zero_add i).symm.trans yF
  exact aJ (S.d.done s _ (yF▸st) λh' tk keep=>done (yD own wr) l c _ ⟨Iv.base.Kf AD keep,Iv.ok,(fo keep).AB λb n Z=>jM n⟩ ((xv.drawn hw keep).Ny hw) (yF▸j)) λr s1 hr=>sH.FE hr
end
section
variable {h':Heap}
def mi(J:Loc->Cells->Prop)(Ψ:MF->Loc->Cells->Prop)(f:MF)(l:Loc)(c:Cells):Prop:=match f with
 | .next=>J l c
 | .cont=>J l c
 | .brk=>Ψ .next l c
 | .ret v=>Ψ (.ret v) l c
noncomputable def sI (Res:Flow->Shared->Prop) (Q:Shared->Prop):Flow->Shared->Prop
 | .next=>Q
 | .cont=>Q
 | .brk=>Res .next
 | .ret v=>Res (.ret v)
@[elab_as_elim] theorem sI.elim{Res:Flow->Shared->Prop}{Q:Shared->Prop}{f:Flow}{M:Flow->Prop}(h:sI Res Q f s)(hn:Q s->M .next)(hc:Q s->M .cont)(hb:Res .next s->M .brk)(hr:∀ v,Res (.ret v) s->M (.ret v)):M f:=by
 cases f with
 | next=>exact hn h
 | brk=>exact hb h
 | cont=>exact hc h
 | ret v=>exact hr v h
theorem RF.elim{own:Own}{h:Heap}{fv:Flow}{f:MF}{M:Flow->MF->Prop}(r:RF own h fv f)(hn:M .next .next)(hb:M .brk .brk)(hc:M .cont .cont)(hr:∀ q x,RV own h q x->M (.ret q) (.ret x)):M fv f:=by
 cases r with
 | next=>exact hn
 | brk=>exact hb
 | cont=>exact hc
 | ret q=>exact hr _ _ q
theorem HK{target:Expr}{p:Pos}{iter:Expr}{body:List Stmt}{bind:V->Loc->Loc}{Ψ:MF->Loc->Cells->Prop}(h:iW X A env target iter (λitems l c=>∃ J:Nat->Loc->Cells->Prop,J 0 l c/\(∀ v∈items,sF X A env target v (bind v)) /\
   (∀ i v l c,items[i]?=some v->J i l c->mS X A env (execs body env) (mi (J (i+1)) Ψ) (bind v l) c)/\∀ l c,J items.length l c->Ψ .next l c) loc cells)(hs:autoParam (∀ x,foldedSetIterable iter env x=pure x) aIR):mS X A env (exec (.For target iter body [] p) env) Ψ loc cells:=by
 intro aO s₀ I₀
 apply wpAny_For (aJ (h aO s₀ I₀) λxv s1 h1=>aJ h1 λit s2 h2=>?_) hs
 apply qE h2 ?_;clear h2;intro aG bG bO items I2 x2 src J j0 AE turn done
 apply (uf (Em:=λQ s=>wpAny (model X.prog X.w) A (execs body env) (sI (jh X env RF aO cells s₀.heap Ψ) Q) gy s) (Fin:=jh X env RF aO cells s₀.heap Ψ .next) I2 x2 src j0 AE
  (λi v l c own s Q hi j I x k=>(turn i v l c hi j).use I λeh l4 c4 f fv s4 I4 r4 x4=>r4.elim (M:=λfv f=>mi (J (i+1)) Ψ f l4 c4->sI (jh X env RF aO cells s₀.heap Ψ) Q fv s4) (k eh l4 c4 s4 I4 x4) (λp=>⟨eh,l4,c4,.next,I4,.next,x.trans x4,p⟩) (k eh l4 c4 s4 I4 x4)
   λq x' r p=>⟨eh,l4,c4,.ret _,I4,.ret r,x.trans x4,p⟩) (λown' l' c' s' I x j=>⟨own',l',c',.next,I,.next,x,done l' c' j⟩) λT ht k s=>codeAny_forLoop_any (I:=T) (λk s hk=>aJ (ht k s hk) λr s1 hr=>hr.elim (λq=>wpAny_execs_nil q)
   λv hv=>aJ hv λZ PD NB=>aJ NB λZ PE NC=>aJ NC λf s3 hf=>hf.elim id id id λZ q=>q) k).1
end
section
variable {own own':Own}{s:Shared}{h h':Heap}
theorem RV.grow(hk:∀ b o,h.get? b=some o->h'.get? b=some o)(ho:∀ b o,h.get? b=some o->own' b=own b){v:Value}{x:V}(r:RV own h v x):RV own' h' v x :=
 r.mono (λb o e Z Z=>hk b o e) λb o e n=>by rw [ho b o e];exact n
theorem aN.grow{h₀:Heap}(F:aN h₀ env own h loc)(hk:∀ b o,h.get? b=some o->h'.get? b=some o)(ho:∀ b o,h.get? b=some o->own' b=own b):aN h₀ env own' h' loc where
 ns:=let ⟨m,a⟩:=F.ns;⟨m,a.keeps hk⟩
 dy:=by obtain ⟨m,o,_,_,e,_⟩:=F.ns;rw [ho _ o e];exact F.dy
 eO:=F.eO
 i6:=λy k=>by apply cJ (F.i6 y k) λc v₀ l i n z=>?_;exact ⟨c,v₀,l,i.keeps hk,by apply aj i λo e Z=>?_;rw [ho _ o e];exact n,z⟩
 inj:=F.inj
 var:=λy mv e=>(F.var y mv e).mono (λZ q=>q.keeps hk) (λZ Z Z Z q=>q.keeps hk) λZ r=>r.grow hk ho
theorem Ext.grow{F:Addr->Prop}(hk:∀ b o,h.get? b=some o->h'.get? b=some o)(ho:∀ b o,h.get? b=some o->own' b=own b):Ext F own cells h own' cells h' :=
 ⟨λb o e Z Z Z=>⟨o,hk b o e,.refl o⟩,λb o e n=>by rw [ho b o e];exact n,λb o e=>⟨o,hk b o e⟩,λb a o e q n=>(aX (hk b o e) (by rw [ho b o e];exact q) rfl n.2)⟩
theorem cY{a:Addr}(hn:h.get? a=none):∀ b o,h.get? b=some o->cM own a b=own b:=λb o e=>by unfold cM;rw [if_neg (λz=>by rw [z,hn] at e;exact bf e)]
theorem Base.gB(I:Base X own cells s){a:Addr}(hn:s.heap.get? a=none):cells a=none:=by
 cases q:cells a with
 | none=>rfl
 | some c=>have:=(I.cell a c q).1;rw [(I.fresh hn).1] at this;exact bf this
def rq(X:Cx)(A:Around)(target:Expr)(src:V)(items:List V)(cells:Cells):Prop :=
 ∀ own s v,Base X own cells s->RV own s.heap v src->wpAny (model X.prog X.w) A (pyIter v) (λit s2=>∃ own' h' t,s2={s with heap:=h',toks:=t}/\(∀ b o,s.heap.get? b=some o->h'.get? b=some o)/\Base X own' cells s2 /\
  (∀ b o,s.heap.get? b=some o->own' b=own b)/\Src X A target own' cells s.heap h' it items) gy s
theorem SrcAt.start{h₁ h₀ h:Heap}{target:Expr}{it:Value}{items:List V}{fp wr:List Addr}{St:Nat->Heap->Prop}{P:Nat->Heap->Heap->Value->Prop}(no:∀ b,h₁.get? b=none->h₀.get? b=none)(S:SrcAt X A target own cells h₁ h it items fp wr St P) :
  SrcAt X A target own cells h₀ h it items fp wr St P:=⟨S.d,S.st,λb hb=>⟨no b (S.w b hb).1,(S.w b hb).2⟩,S.ex,S.f,S.p⟩
abbrev KI(X:Cx)(A:Around)(target:Expr)(Φ:List V->Loc->Cells->Prop)(src:V)(l:Loc)(c:Cells):Prop:=∃ items,rq X A target src items c/\Φ items l c
theorem dk{target iter:Expr}{Φ:List V->Loc->Cells->Prop}(h:mE X A env (eval iter env) (KI X A target Φ) loc cells):iW X A env target iter Φ loc cells:=by
 intro own s I
 apply h.use I λown1 dz bg src v s1 I1 r1 x1 jU=>aj jU λitems hi hΦ=>?_
 apply wpAny_mono (hi own1 s1 v I1.base r1) (λit s2 kS=>jY kS λown' h' t e keep B ho fp wr St P S=>?_) λZ Z q=>q
 subst e
 have no:∀ b,s1.heap.get? b=none->s.heap.get? b=none:=λb hb=>by
  cases q:s.heap.get? b with
  | none=>rfl
  | some o=>apply bw (x1.there b o q) λo' e=>?_;rw [hb] at e;exact bf e
 exact (jG own' dz bg items (⟨B,I1.ok,I1.fr.grow keep ho⟩) (x1.trans (.grow keep ho)) ((l9 fp wr St P (S.start no))) hΦ)
theorem ue.ofWalks{target:Expr}{I:Addr}{fp wr:List Addr}{n:Nat}{P:Nat->Value->Prop}{St:Nat->Heap->Prop}(W:Walks X.prog X.w A I fp wr n P St)(ht:∀ v,letOwnedTupleGo target (.ref I) v=pure ()) :
  ue X A target (.ref I) fp wr n St (λi Z Z v=>P i v) where
 sub:=W.sub
 frame:=W.frame
 item:=λi s Q hi st k=>W.item i s _ _ hi st λv h' tk pv mh keep=>⟨v,rfl,by rw [ht v];exact wpAny_pure (k v h' tk pv mh keep)⟩
 done:=λs Q st k=>W.done s _ _ st λh' tk keep=>⟨rfl,k h' tk keep⟩
 self:=λi s Q st q=>W.self i s _ _ st q
theorem ue.ug{elts:List Expr}{k:Nat}{pos:Pos}{I:Addr}{fp wr:List Addr}{n:Nat}{Pt:Nat->Array Value->Prop}{St:Nat->Heap->Prop}{qK:Nat->Addr->Heap->Prop}(W:WalksT X.prog X.w A I fp wr n Pt St qK) :
  ue X A (.Tuple elts k pos) (.ref I) fp wr n St (λi hp h v=>∃ T vals,v=.ref T/\Pt i vals/\h.IsTuple T vals/\hp.get? T=none) where
 sub:=W.sub
 frame:=W.frame
 item:=λi s Q hi st q=>W.item i s _ _ hi st λT vals h1 tk pt hT tup mid keep=>⟨.ref T,rfl,W.go elts k pos i T _ _ _ mid λh2 ND EP=>by
  apply q (.ref T) h2 tk ⟨T,vals,rfl,pt,?_,?_⟩ ND λb o hb e=>EP b o hb (keep b o hb e)
  ·apply aj tup λo e r=>?_
   exact (iDPP o (EP T o (W.apart i T h1 mid) e) r)
  ·cases q:s.heap.get? T with
   | none=>rfl
   | some o=>exact absurd (lt_size q) (Nat.not_lt.mpr hT)⟩
 done:=λs Q st k=>W.done s _ _ st λh' tk keep=>⟨rfl,k h' tk keep⟩
 self:=λi s Q st q=>W.self i s _ _ st q
theorem dI{x:Str}{p:Pos}{xs:List V}(hh:A.handled=none):rq X A (.Name x p) (.list xs) xs cells:=by
 intro own s v I r
 apply RV.ua r λa d vs n sl ho hn hz hi=>?_
 have hl:s.heap.IsList a vs:=(bh _ ho rfl n rfl)
 have fK:a≠s.heap.objs.size:=λz=>by rw [z,ak] at ho;exact bf ho
 have keep:∀ b o,s.heap.get? b=some o->(s.heap.push { cls:=.type "list_iterator",data:=.fields #[.ref a,.int 0 0]}).get? b=some o:=λb o e=>get?_push_of_some _ e
 apply wpAny_pyIter_list hl (df (cM own s.heap.objs.size) _ s.toks rfl keep (I.cM (ak _) (I.gB (ak _)) keep (get?_push_size _ rfl)) (cY (ak _)) ([s.heap.objs.size,a]) ([s.heap.objs.size]) _ _
  ({ d:=hz▸ue.ofWalks (Walks.list hh s.heap.objs.size a fK vs) (λZ=>rfl),st:=⟨(aV _ (get?_push_size _ rfl) rfl rfl),hl.push _⟩,w:=?_,ex:=?_,f:=?_,p:=?_}))
 ·intro b hb
  rw [mem_singleton.mp hb]
  exact ⟨ak _,by simp [cM],I.gB (ak _)⟩
 ·(intro i h' aM;apply aC aM ?_;clear aM;intro bk bN;apply aj bk ?_;clear bk;intro o1 e1 Z;apply aj bN ?_;clear bN;intro o2 e2 Z;intro b hb)
  rcases mem_cons.mp hb with rfl | hb
  ·exact (bJ o1 e1)
  ·rw [mem_singleton.mp hb];exact (bJ o2 e2)
 ·intro b hb hw
  rcases mem_cons.mp hb with rfl | hb
  ·exact absurd (mem_singleton.mpr rfl) hw
  ·rw [mem_singleton.mp hb]
   exact (iDPP _ (keep _ _ ho) (.inl ⟨by rw [cY (ak _) _ _ ho];exact hn,.inl (t8 (.inl rfl) _ _ rfl)⟩))
 ·exact λi own' hp h' v x e1 e2 hr Z=>hr _ _ ((hi i v x e1 e2).grow keep (cY (ak _)))
theorem o9{x:Str}{p:Pos}{xs:List V}(hh:A.handled=none):rq X A (.Name x p) (.tuple xs) xs cells:=by
 intro own s v I r
 apply RV.yx r λa d vs n sl ho hn hz hi=>?_
 have hl:s.heap.IsTuple a vs:=(bh _ ho rfl n rfl)
 have fK:a≠s.heap.objs.size:=λz=>by rw [z,ak] at ho;exact bf ho
 have keep:∀ b o,s.heap.get? b=some o->(s.heap.push { cls:=.type "tuple_iterator",data:=.fields #[.ref a,.int 0 0]}).get? b=some o:=λb o e=>get?_push_of_some _ e
 apply wpAny_pyIter_tuple hl (df (cM own s.heap.objs.size) _ s.toks rfl keep (I.cM (ak _) (I.gB (ak _)) keep (get?_push_size _ rfl)) (cY (ak _)) ([s.heap.objs.size,a]) ([s.heap.objs.size]) _ _
  ({ d:=hz▸ue.ofWalks (Walks.tuple hh s.heap.objs.size a fK vs) (λZ=>rfl),st:=⟨⟨_,get?_push_size _ rfl,rfl,rfl⟩,⟨_,keep _ _ ho,rfl,n,rfl⟩⟩,w:=?_,ex:=?_,f:=?_,p:=?_}))
 ·intro b hb
  rw [mem_singleton.mp hb]
  exact ⟨ak _,by simp [cM],I.gB (ak _)⟩
 ·(intro i h' cI;apply aC cI ?_;clear cI;intro dH eC;apply aj dH ?_;clear dH;intro o1 e1 Z;apply aj eC ?_;clear eC;intro o2 e2 Z;intro b hb)
  rcases mem_cons.mp hb with rfl | hb
  ·exact (bJ o1 e1)
  ·rw [mem_singleton.mp hb];exact (bJ o2 e2)
 ·intro b hb hw
  rcases mem_cons.mp hb with rfl | hb
  ·exact absurd (mem_singleton.mpr rfl) hw
  ·rw [mem_singleton.mp hb]
   exact (iDPP _ (keep _ _ ho) (.inl ⟨by rw [cY (ak _) _ _ ho];exact hn,.inl (t8 (.inr rfl) _ _ rfl)⟩))
 ·exact λi own' hp h' v x e1 e2 hr Z=>hr _ _ ((hi i v x e1 e2).grow keep (cY (ak _)))
noncomputable def aQ (a c:Int) (n:Nat):List V:=(List.range n).map λ(i:Nat)=>V.int (a+i * c)
theorem pb{x:Str}{p:Pos}{a b c:Int}(hh:A.handled=none)(xu:Builtin.Range.small a b c=true)(PF:0<=rangeSize a b c) :
  rq X A (.Name x p) (.q9 a b c) (aQ a c (rangeSize a b c).toNat) cells:=by
 intro own s v I r
 apply RV.Dd r λr t u w ho hn=>?_
 have keep:∀ b' o,s.heap.get? b'=some o->(s.heap.push { cls:=.type "range_iterator",data:=.fields #[rawInt a,rawInt (rangeSize a b c),rawInt c]}).get? b'=some o:=λb' o e=>get?_push_of_some _ e
 have W:=Walks.range (prog:=X.prog) (w:=X.w) hh s.heap.objs.size a c (rangeSize a b c).toNat
 have len:(aQ a c (rangeSize a b c).toNat).length=(rangeSize a b c).toNat:=by simp [aQ]
 apply wpAny_pyIter_range ho xu (df (cM own s.heap.objs.size) _ s.toks rfl keep (I.cM (ak _) (I.gB (ak _)) keep (get?_push_size _ rfl)) (cY (ak _)) ([s.heap.objs.size]) ([s.heap.objs.size]) _ _
  ({ d:=len.symm▸ue.ofWalks W (λZ=>rfl),st:=?_,w:=?_,ex:=?_,f:=?_,p:=?_}))
 ·show IsRangeIter _ _ _ _ _
  have:((rangeSize a b c).toNat:Int) - ((0:Nat):Int)=rangeSize a b c:=by lia
  rw [len,this]
  have e2:a+((0:Nat):Int) * c=a:=by simp
  rw [e2]
  exact get?_push_size _ rfl
 ·intro b hb
  rw [mem_singleton.mp hb]
  exact ⟨ak _,by simp [cM],I.gB (ak _)⟩
 ·rintro i h' e1 b hb
  rw [mem_singleton.mp hb]
  exact (bJ _ e1)
 ·intro b hb hw
  exact absurd hb hw
 ·(intro i own' hp h' v x fR;apply bw fR ?_;clear fR;intro t rz;subst rz;intro e2 Z Z)
  simp only [aQ,getElem?_map,map_eq_some_iff] at e2
  (apply aj e2 ?_;try clear e2;intro j hj rA;subst rA)
  have:j=i:=by
   have:=List.getElem?_eq_some_iff.mp hj
   obtain ⟨_,q⟩:=this
   simpa using q.symm
  subst this
  exact .int _ _
end
section
variable {own own':Own}{s:Shared}{h h':Heap}
theorem Base.grow{t:Nat}(I:Base X own cells s)(hk:∀ b o,s.heap.get? b=some o->h'.get? b=some o)(ho:∀ b o,s.heap.get? b=some o->own' b=own b)(hn:∀ b a,own' b=some a->∃ o,h'.get? b=some o) :
  Base X own' cells {s with heap:=h',toks:=t} :=
 have ex:∀ {b a},own b=some a->own' b=some a:=λq=>bw (I.lt _ _ q) λo e'=>(ho _ o e').trans q
 I.step (P:=λZ=>False) (λZ f=>f.elim) (λb o Z=>hk b o) (λb a e=>⟨by
   cases q:s.heap.get? b with
   | none=>exact (I.fresh q).2
   | some o=>exact I.new b a ((ho b o q).symm.trans e),hn b a e⟩)
  (λa c e=>⟨ex (I.cell a c e).1,(I.cell a c e).2.mono (λb o q e'=>⟨hk b o e',ex q⟩) (λv x r=>r.grow hk ho) (I.cell a c e).1⟩)
  λL hL=>(I.gx L hL).mono (λo e=>hk L o e) λo e n=>(ho L o e).trans n
theorem oA{wr:List Addr}(hw:∀ b∈wr,h.get? b=none):∀ b o,h.get? b=some o->sG own wr b=own b:=λb o e=>by unfold sG;rw [if_neg (λz=>by rw [hw b z] at e;exact bf e)]
theorem Di{wr:List Addr}(I:Base X own cells s)(hk:∀ b o,s.heap.get? b=some o->h'.get? b=some o)(h2:∀ b∈wr,∃ o,h'.get? b=some o):∀ b a,sG own wr b=some a->∃ o,h'.get? b=some o:=λb a e=>by
 unfold sG at e
 split at e
 ·rename_i q;exact h2 b q
 ·apply bw (I.lt b a e) λo q=>?_;exact (bJ o (hk b o q))
noncomputable def enumItems (xs:List V):List V:=xs.zipIdx.map λ(x,i)=>V.tuple [.int i,x]
noncomputable def zipItems (xs ys:List V):List V:=List.zipWith (λx y=>V.tuple [x,y]) xs ys
theorem enumItems_get{xs:List V}{i:Nat}{x:V}(h:(enumItems xs)[i]?=some x):∃ y,xs[i]?=some y/\x=.tuple [.int i,y]:=by
 unfold enumItems at h
 rw [getElem?_map,getElem?_zipIdx,Option.map_map] at h
 exact aj (map_eq_some_iff.mp h) λy e q=>iDPP y e (q.symm.trans (congrArg (λn:Nat=>V.tuple [.int n,y]) (zero_add i)))
theorem bV.pair{u v:Value}{x y:V}(hu:RV own h u x)(hv:RV own h v y):bV own h [u,v] [x,y]:=.cons hu (.cons hv .nil)
theorem xw{T:Addr}{u v:Value}{x y:V}(ht:h.IsTuple T #[u,v])(hn:own T=none)(hu:RV own h u x)(hv:RV own h v y):RV own h (.ref T) (.tuple [x,y]):=by
 obtain ⟨⟨c,d,dt,sl⟩,e,hc,n,hd⟩:=ht
 subst hc;subst hd
 exact .tuple e hn rfl λi a b p q=>(bV.pair hu hv).2 i a b (List.getElem?_toArray.symm.trans p) q
theorem qL{aO:Own}{F:Addr->Prop}{c c':Cells}{h₀:Heap}(x:Ext F aO c h₀ own c' h){b:Addr}(hb:h.get? b=none):h₀.get? b=none:=by
 cases q:h₀.get? b with
 | none=>rfl
 | some o=>exact bw (x.there b o q) λo' e=>bf (hb.symm.trans e)
theorem ue.len{target:Expr}{it:Value}{fp wr:List Addr}{n m:Nat}{St:Nat->Heap->Prop}{P:Nat->Heap->Heap->Value->Prop}(e:n=m)(d:ue X A target it fp wr n St P):ue X A target it fp wr m St P:=e▸d
theorem SrcAt.new{target:Expr}{it:Value}{items:List V}{fp wr:List Addr}{St:Nat->Heap->Prop}{P:Nat->Heap->Heap->Value->Prop}{aO:Own}{F:Addr->Prop}{c:Cells}{h₀:Heap}(B:Base X own cells s)(x:Ext F aO c h₀ own cells s.heap)(hw:∀ b∈wr,s.heap.get? b=none)(d:ue X A target it fp wr items.length St P)(st:St 0 h')(ex:∀ i h',St i h'->∀ b∈fp,∃ o,h'.get? b=some o)(f:∀ b∈fp,b ∉ wr->i7 (sG own wr) cells h' b)(p:∀ i own' hp h2 v x,P i hp h2 v->items[i]?=some x->(∀ u y,RV (sG own wr) h' u y->RV own' h2 u y)->(∀ b,hp.get? b=none->own' b=none)->RV own' h2 v x):SrcAt X A target (sG own wr) cells h₀ h' it items fp wr St P :=
 ⟨d,st,λb hb=>⟨qL x (hw b hb),if_pos hb,B.gB (hw b hb)⟩,ex,f,p⟩
theorem AF{a:Addr}{T:String}{d:Option Addr}{vs:Array Value}{n:Nat}{sl:Array (Option Value)}{wr:List Addr}(e:h'.get? a=some ⟨.type T,d,.seq vs n,sl⟩)(hT:T="list"\/T="tuple")(hn:own a=none)(hw:a ∉ wr):i7 (sG own wr) cells h' a :=
 iDPP _ e (.inl ⟨(if_neg hw).trans hn,.inl (t8 (hT.imp (λq=>congrArg _ q) λq=>congrArg _ q) _ _ rfl)⟩)
theorem FF{e:Expr}{np pos tp:Pos}{f:Str}{elts:List Expr}{k:Nat}{Φ:List V->Loc->Cells->Prop}(hh:A.handled=none)(hk:env.kindOf f=some .globalImplicit)(hl:X.glob.lookup f=some (.ty "enumerate"))(h:mE X A env (eval e env) (λv l c=>∃ xs,v=.list xs/\Φ (enumItems xs) l c) loc cells)(he:autoParam (starEach [e] env=[(false,eval e env)]) aR)(hd:autoParam ((f == ("__debug__":Str))=false) aDK):iW X A env (.Tuple elts k tp) (.Call (.Name f np) [e] [] pos) Φ loc cells:=by
 intro own s I
 apply wpAny_Call_NameR (Av I hk hl (λv1 r1=>r1.Nm ?_) hd)
 apply PyProof.Rows.callWith_type1 (rest:=[]) ?_ he rfl
 apply (af (rest:=[]) (Ψ:=λas l c=>∃ xs,as=[V.list xs]/\Φ (enumItems xs) l c) (h.mono λa l c z=>aj z λxs q1 q2=>a_nil (iDPP xs (congrArg (λz=>[z]) q1) q2)) he).use I λaG bG bO as vs s2 I2 r2 x2 h2=>?_
 apply aj h2 ?_;intro xs ea hΦ;subst ea
 apply r2.e1 λv rv=>rv.ua λa d items n sl ho hn hz hi=>?_
 have hL:s2.heap.IsList a items:=(bh _ ho rfl n rfl)
 have lt:a<s2.heap.objs.size:=lt_size ho
 apply call_enumerate_list hL λh3 e1 e2 HL keep=>?_
 apply wpAny_pyIter_enum e1 ?_
 have hw:∀ b∈[s2.heap.objs.size+1,s2.heap.objs.size],s2.heap.get? b=none:=ik (fJ (Nat.le_succ _)) (sz (ak _))
 have hx:∀ b∈[s2.heap.objs.size+1,s2.heap.objs.size],∃ o,h3.get? b=some o:=ik (bJ _ e1) (sz (aj e2 λo q Z=>bJ o q))
 have n1:(s2.heap.objs.size+1:Nat)≠s2.heap.objs.size:=Nat.succ_ne_self _
 have n2:(a:Nat)≠s2.heap.objs.size+1:=ne_of_lt (lt_succ_of_lt lt)
 have n3:(a:Nat)≠s2.heap.objs.size:=ne_of_lt lt
 have len:items.size=(enumItems xs).length:=by unfold enumItems;rw [length_map,List.length_zipIdx];exact hz
 have na:a ∉ [s2.heap.objs.size+1,s2.heap.objs.size]:=λq=>bf ((hw a q).symm.trans ho)
 apply jG (sG aG [s2.heap.objs.size+1,s2.heap.objs.size]) bG bO (enumItems xs) (⟨I2.base.grow keep (oA hw) (Di I2.base keep hx),I2.ok,I2.fr.grow keep (oA hw)⟩) (x2.trans (.grow keep (oA hw))) (l9 _ _ _ _
  (.new I2.base x2 hw (ue.len len (ue.ug (WalksT.enumerate (prog:=X.prog) (w:=X.w) hh (s2.heap.objs.size+1) s2.heap.objs.size a n1 n2 n3 items))) ⟨bJ _ e1,e2,hL.extBut (b:=s2.heap.objs.size) (λb o Z q=>keep b o q) n3⟩
   (λi h' q=>bq q λq1 q2 q3=>ik (bw q1 λZ e=>bJ _ e) (ik (aj q2 λo e Z=>bJ o e) (sz (aj q3 λo e Z=>bJ o e))))
   (ik (λn=>(n Nj).elim) (ik (λn=>(n in1).elim) (sz λn=>AF (keep _ _ ho) (.inl rfl) hn na)))
   λi own' hp h' v x q Ki hr C4=>?_)) hΦ
 apply cJ q ?_;intro T vals ev q tup fr
 apply bW q ?_;intro t y p1 ex
 rw [ev];subst ex
 exact aj (enumItems_get Ki) λz q1 q2=>q2▸xw tup (C4 T fr) (.int _ _) (hr _ _ ((hi i y z p1 q1).grow keep (oA hw)))
end
section
variable {cells c:Cells}{own own':Own}{s:Shared}{h h':Heap}
theorem ah(cells:Cells)(a:Addr)(c:Option Cell):upd cells a c a=c:=by simp [upd]
theorem ae{cells:Cells}{a b:Addr}(c:Option Cell)(h:b≠a):upd cells a c b=cells b:=by simp [upd,h]
theorem Base.cellSet{a:Addr}{c':Cell}{t:Nat}(I:Base X own cells s)(vM:∀ b o,s.heap.get? b=some o->own' b=own b)(Kj:∀ b d,own' b=some d->own b≠some d->X.h₀.get? b=none/\∃ o,h'.get? b=some o)(hs:∀ b o,own b≠some a->s.heap.get? b=some o->h'.get? b=some o)(hth:∀ b o,s.heap.get? b=some o->∃ o',h'.get? b=some o')(ha:own' a=some a)(hc:b9 X.prog X.w own' h' a c') :
  Base X own' (upd cells a (some c')) {s with heap:=h',toks:=t}:=by
 have rv:∀ v x,RV own s.heap v x->RV own' h' v x:=λv x r=>r.mono (λb o e q Z=>hs b o (λz=>bf (q.symm.trans z)) e) λb o e q=>(vM b o e).trans q
 apply I.step (P:=λb=>own b=some a) (λb p=>I.new b a p) hs (λb d e=>?_) (λd c e=>?_) λL hL=>(I.gx L hL).mono (λo e=>hs L o (λz=>dc (z.symm.trans (I.gx L hL).1)) e) λo e n=>(vM L o e).trans n
 ·by_cases q:own b=some d
  ·exact ⟨I.new b d q,bw (I.lt b d q) λo q=>hth b o q⟩
  ·exact Kj b d e q
 ·by_cases q:d=a
  ·subst q;rw [ah] at e;cases e;exact ⟨ha,hc⟩
  ·rw [ae _ q] at e
   exact aC (I.cell d c e) λq1 q2=>bw (I.lt d d q1) λo eo=>⟨(vM d o eo).trans q1,q2.mono (λb o p e'=>⟨hs b o (λz=>q (cK (p.symm.trans z))) e',(vM b o e').trans p⟩) rv q1⟩
noncomputable def Cell.live:Cell->Bool
 | .bF _=>false
 | _=>true
theorem Cell.eV{a:Addr}{c:Cell}(h:cells a=some c)(hl:c.live=true):¬ Still cells a:=by
 rintro (q | ⟨es,q⟩)
 ·rw [h] at q;exact dc q
 ·rw [h] at q;obtain rfl:=cK q;exact Bool.noConfusion hl
theorem cS{F:Addr->Prop}{a:Addr}{c':Cell}(vM:∀ b o,s.heap.get? b=some o->own' b=own b)(hs:∀ b o,own b≠some a->s.heap.get? b=some o->h'.get? b=some o)(hth:∀ b o,s.heap.get? b=some o->∃ o',h'.get? b=some o')(Dj:¬ Still cells a\/s.heap.get? a=none) :
  Ext F own cells s.heap own' (upd cells a (some c')) h' where
 keep:=λb o e q Z Z=>⟨o,hs b o (by rw [q];exact Ne.symm (some_ne_none a)) e,.refl o⟩
 de:=λb o e q=>by rw [vM b o e];exact q
 there:=hth
 gP:=λb d o e q fR=>aC fR λw z=>by
  subst z
  have:d≠a:=by
   rintro rfl
   rcases Dj with n | n
   ·exact n w
   ·rw [n] at e;exact bf e
  exact (aX (hs d o (by rw [q];simpa using this) e) (by rw [vM d o e];exact q) (ae _ this) rfl)
theorem Base.iX{a:Addr}{c c':Cell}{t:Nat}(I:Base X own cells s)(Dj:cells a=some c)(hs:∀ b o,b≠a->s.heap.get? b=some o->h'.get? b=some o)(hth:∃ o,h'.get? a=some o)(hc:b9 X.prog X.w own h' a c')(NF:autoParam (c.live=true) aR) :
  Base X own (upd cells a (some c')) {s with heap:=h',toks:=t}/\Ext qH own cells s.heap own (upd cells a (some c')) h':=by
 have oa:=(I.cell a c Dj).1
 have k:∀ b o,own b≠some a->s.heap.get? b=some o->h'.get? b=some o:=λb o n e=>hs b o (λz=>n (z▸oa)) e
 have th:∀ b o,s.heap.get? b=some o->∃ o',h'.get? b=some o':=λb o e=>by
  by_cases q:b=a
  ·exact q▸hth
  ·exact (bJ o (hs b o q e))
 exact ⟨I.cellSet (λZ Z Z=>rfl) (λb d e n=>(n e).elim) k th oa hc,cS (λZ Z Z=>rfl) k th (.inl (Cell.eV Dj NF))⟩
theorem fV{a:Addr}{c:Cell}(I:Base X own cells s)(Dj:cells a=some c)(hs:∀ b o,b≠a->s.heap.get? b=some o->h'.get? b=some o){v:Value}{x:V}(r:RV own s.heap v x):RV own h' v x :=
 r.mono (λb o e q Z=>hs b o (λz=>by rw [z,(I.cell a c Dj).1] at q;exact dc q) e) λZ Z Z e=>e
theorem Base.jN{c':Cell}{ob:Obj}{t:Nat}(I:Base X own cells s)(hf:ob.isFreed=false)(hc:b9 X.prog X.w (Mp.cM own s.heap.objs.size) (s.heap.push ob) s.heap.objs.size c') :
  Base X (Mp.cM own s.heap.objs.size) (upd cells s.heap.objs.size (some c')) {s with heap:=s.heap.push ob,toks:=t}/\Ext qH own cells s.heap (Mp.cM own s.heap.objs.size) (upd cells s.heap.objs.size (some c')) (s.heap.push ob)/\cells s.heap.objs.size=none:=by
 have e0:=ak s.heap
 have nn:∀ b o,s.heap.get? b=some o->Mp.cM own s.heap.objs.size b=own b:=λb o e=>by unfold Mp.cM;rw [if_neg (λz=>by rw [z,e0] at e;exact bf e)]
 have k:∀ b o,own b≠some s.heap.objs.size->s.heap.get? b=some o->(s.heap.push ob).get? b=some o:=λb o Z e=>get?_push_of_some _ e
 have th:∀ b o,s.heap.get? b=some o->∃ o',(s.heap.push ob).get? b=some o':=λb o e=>(bJ o (get?_push_of_some _ e))
 apply ⟨I.cellSet nn (λb d e n=>?_) k th (by simp [Mp.cM]) hc,cS nn k th (.inr e0),?_⟩
 ·unfold Mp.cM at e
  split at e
  ·rename_i q;exact (iPDP ((I.fresh (q▸e0)).2) _ (q▸get?_push_size _ hf))
  ·exact (n e).elim
 ·cases q:cells s.heap.objs.size with
  | none=>rfl
  | some c=>have:=(I.cell _ c q).1;rw [(I.fresh e0).1] at this;exact bf this
theorem cg(cells:Cells)(a:Addr)(x y:Option Cell):upd (upd cells a x) a y=upd cells a y:=by
 funext b;unfold upd;split <;> rfl
theorem g5{cells:Cells}{a:Addr}(h:cells a=none):upd cells a none=cells:=by
 funext b;unfold upd;split
 ·rename_i q;rw [q,h]
 ·rfl
theorem uh{a:Addr}{k:Cell}(h:c a=some k):upd (upd c a none) a (some k)=c:=by
 funext b;unfold upd;split
 ·rename_i q;rw [q,h]
 ·rfl
theorem Base.gT{a:Addr}{o:Option Cell}(I:Base X own c s)(h:∀ x,o=some x->own a=some a/\b9 X.prog X.w own s.heap a x):Base X own (upd c a o) s :=
 ⟨I.old,I.hg,I.hb,I.nolimit,I.gens,I.os,I.new,I.lt,λd x e=>by
  by_cases q:d=a
  ·subst q;rw [ah] at e;exact h x e
  ·rw [ae _ q] at e;exact I.cell d x e,I.gx⟩
theorem ir{F:Addr->Prop}{a:Addr}{x:Cell}{o:Option Cell}(hc:c a=some x)(hl:x.live=true):Ext F own c h own (upd c a o) h :=
 ⟨λb o e Z Z Z=>⟨o,e,.refl o⟩,λZ Z Z e=>e,λb o e=>⟨o,e⟩,λb d o e q yG=>aC yG λw z=>(aX e q (ae _ (by rw [<- z];rintro rfl;exact Cell.eV hc hl w)) z)⟩
theorem RV.mj{h:Heap}{a d vs n sl}{xs:List V}(ho:h.get? a=some ⟨.type "list",d,.seq vs n,sl⟩)(hn:own a=none)(r:bV own h vs.toList xs):RV own h (.ref a) (.list xs) :=
 .list ho hn (by simpa using r.1) λi v x p q=>r.2 i v x (by simpa using p) q
theorem Base.freeze{a:Addr}{xs:List V}(I:Base X own c s)(hc:c a=some (.list xs)):∃ own',Base X own' (upd c a none) s/\RV own' s.heap (.ref a) (.list xs)/\Ext qH own c s.heap own' (upd c a none) s.heap/\(∀ v x,RV own s.heap v x->RV own' s.heap v x)/\∀ b,b≠a->own' b=own b:=by
 apply dQ (I.cell a _ hc) λoa vs n e rs=>?_
 have Kk:∀ v x,RV own s.heap v x->RV (Mp.disown own a) s.heap v x:=λv x r=>yC r
 apply (sq (Mp.disown own a) ((I.gT (o:=none) λx e=>(bf e)).disown oa (ah _ _ _) λv x r=>Kk v x r) ?_ (⟨λb o e Z Z Z=>⟨o,e,.refl o⟩,λb o Z q=>by unfold Mp.disown;split <;> simp_all,λb o e=>⟨o,e⟩,λb d o e q yH=>aC yH λw z=>?_⟩) Kk (λb hb=>by simp [Mp.disown,hb]))
 ·exact .mj e (by simp [Mp.disown]) (rs.mono Kk)
 ·subst z
  have:d≠a:=by rintro rfl;exact Cell.eV hc rfl w
  exact (aX e (by unfold Mp.disown;rw [if_neg this];exact q) (ae _ this) rfl)
theorem Inv.freeze{a:Addr}{xs:List V}(I:Inv X env own loc c s)(hc:c a=some (.list xs)):∃ own',Inv X env own' loc (upd c a none) s/\RV own' s.heap (.ref a) (.list xs)/\Ext (Fa env) own c s.heap own' (upd c a none) s.heap/\∀ v x,RV own s.heap v x->RV own' s.heap v x :=
 gu (I.base.freeze hc) λown' B r x rv Z=>gO own' ⟨B,I.ok,I.fr.ext x⟩ r x.fF rv
theorem cL.freeze{α β:Type}{R:Own->Heap->α->β->Prop}{t:Sem α}{Ψ:β->Loc->Cells->Prop}{x:Str}{a:Addr}{xs:List V}(hl:loc.lookup x=some (.ref a))(hc:cells a=some (.list xs))(H:cL X A env R t Ψ ((x,.list xs)::loc) (upd cells a none)) :
  cL X A env R t Ψ loc cells:=λown s I=>by
 apply sv (I.freeze hc) λown' I' r e rv=>?_
 have F:aN X.h₀ env own' s.heap ((x,.list xs)::loc):=⟨I'.fr.ns,I'.fr.dy,I'.fr.eO,I'.fr.i6,I'.fr.inj,λy mv q=>by
  rw [lookup_cons] at q
  by_cases z:(y == x)=true
  ·rw [if_pos z] at q;cases q
   have:y=x:=eq_of_beq z
   subst this
   exact (I.fr.var y _ hl).mono (λZ q=>q) (λZ Z Z Z q=>q) λv q=>by cases q;exact r
  ·rw [if_neg z] at q
   exact I'.fr.var y mv q⟩
 exact cL.use H ⟨I'.base,I'.ok,F⟩ λaG l2 c2 b v s2 I2 r2 x2 h2=>⟨aG,l2,c2,b,I2,r2,e.trans x2,h2⟩
theorem yI{own:Own}{s:Shared}{v:Value}{a:Addr}{xs:List V}{loc:Loc}{cells:Cells}{Ψ:V->Loc->Cells->Prop}(I:Inv X env own loc cells s)(r:RV own s.heap v (.ref a))(hc:cells a=some (.list xs))(h:Ψ (.list xs) loc (upd cells a none)) :
  jh X env RV own cells s.heap Ψ v s:=by
 apply sv (I.freeze hc) λown' I' r' e rv=>?_
 apply RV.e0 r rfl ?_
 exact ⟨own',loc,_,_,I',r',e,h⟩
theorem kT{t:Sem Value}{Ψ:V->Loc->Cells->Prop}{a:Addr}{xs:List V}(H:mE X A env t (λv l c=>v=.ref a/\c a=some (.list xs)/\Ψ (.list xs) l (upd c a none)) loc cells):mE X A env t Ψ loc cells:=λown s I =>
 H.use I λown1 l1 c1 b v s1 I1 r1 x1 ⟨e,hc,h⟩=>by
  subst e
  obtain ⟨aG,l2,c2,b2,I2,r2,x2,h2⟩:=yI I1 r1 hc h
  exact ⟨aG,l2,c2,b2,I2,r2,x1.trans x2,h2⟩
end
section
theorem sJ{scope:Scope}{cl:List (Str×Addr)}{Q:Env->Shared->Prop}{E:Value->Shared->Prop}(h:Q { (compEnv scope env s.heap.objs.size (cellsFrom (s.heap.objs.size+1) scope.names cl)) with scope:=scope} {s with heap:=pushCells (s.heap.push { cls:=.type "dict",data:=.dict #[]}) scope.names}) :
  wpAny (model X.prog X.w) A (newFunctionEnv scope env.globals cl [] env.qual none .none (some env)) Q E s:=by
 simp only [newFunctionEnv,Option.isSome_some,if_true]
 apply wpAny_bind (wpAny_alloc ?_)
 apply wpAny_bind (wpAny_layCells _ (λname kind cells=>by cases PG:kind == NameKind.cell <;> rfl) _ _ _ _ ?_)
 rw [show ({s with heap:=s.heap.push { cls:=.type "dict",data:=.dict #[]}}:Shared).heap.objs.size=s.heap.objs.size+1 from size_push ..]
 simp only [forIn_nil]
 exact wpAny_bind (wpAny_pure (wpAny_pure h))
theorem sL{prog:Program}{w:World}{A:Around}{E:Value->Shared->Prop}{s:Shared}{l:Addr}{its:Array Value}{n:Nat}{x:Value}{Q:Value->Shared->Prop}(ho:s.heap.get? l=some ⟨.type "list",none,.seq its n,#[]⟩)(hQ:∀ h',h'.get? l=some ⟨.type "list",none,.seq (its.push x) (n+1),#[]⟩->SameBut l s.heap h'->Q .none {s with heap:=h'})(ml:its.size<=sizeLine) :
  wpAny (model prog w) A (call (.builtin "list.append") [.ref l,x]) Q E s:=by
 have me:s.heap.get? l=some (seqObj "list" its n):=ho
 apply wpAny_call_entry slot_list_append (iDPP _ ho rfl) entry_list_append ?_ (args_list_append _ _)
 show wpAny _ _ (updateSeq l (·.push x) >>= λZ=>ret .none) _ _ s
 apply wpAny_bind ?_
 apply wpAny_updateSeq ho rfl (wpAny_pure (iDPP .none rfl (hQ _ ?_ (SameBut.update ..))))
 rw [get?_update_seq me (·.push x)]
 have:((its.push x).size == its.size)=false:=by simp
 rw [this];rfl
theorem nt{α:Type}{M:Model}{v:α}{Q:α->Shared->Prop}{β:Type}{t:Sem β}{P:β->Shared->Prop}{E:Value->Shared->Prop}(h:wpAny M A (pure v) Q E s)(k:Q v s->wpAny M A t P E s):wpAny M A t P E s :=
 fun Γ p hΓ=>k (h Γ p hΓ) Γ p hΓ
structure pd(scope:Scope)(env:Env)(L:Addr)(cs:List (Str×Addr))(h:Heap):Prop where
 fresh:h.get? L=none
 i6:∀ y b,bj ((compEnv scope env L cs).kindOf y)->cs.lookup y=some b->h.get? b=none\/((y,NameKind.free)∈scope.names/\env.cells.lookup y=some b)
theorem vN{scope:Scope}{cl:List (Str×Addr)}{P:Env->Shared->Prop}(C:cC scope env)(I:Inv X env own loc cells s)(nZ:∀ x c,(x,c)∈cl↔((x,NameKind.free)∈scope.names/\env.cells.lookup x=some c))(h:∀ L cs h4,(∀ b o,s.heap.get? b=some o->h4.get? b=some o)->pd scope env L cs s.heap->Inv X (compEnv scope env L cs) own (fi scope loc) cells {s with heap:=h4}->P (compEnv scope env L cs) {s with heap:=h4}) :
  wpAny (model X.prog X.w) A (newFunctionEnv scope env.globals cl [] env.qual none .none (some env)) (λgU s4=>P { gU with scope:=relabel scope env} s4) gy s:=by
 apply sJ (h _ _ _ (λb o e=>pushCells_keeps _ _ _ _ (get?_push_of_some _ e)) ⟨ak _,λy b hk hl=>?_⟩ (AA (t:=s.toks) C I nZ))
 apply bq (o5 (h1:=s.heap.push { cls:=.type "dict",data:=.dict #[]}) C I nZ (by rw [size_push];exact le_add_right s.heap.objs.size 1)) ?_;intro Me Mf PI
 rw [size_push] at Me Mf
 rcases o6 I.ok.kind hk with q | q
 ·exact bM (Me y q) λc l z Z=>.inl (cK (l.symm.trans hl)▸fJ (le_of_succ_le z))
 ·exact aj (Mf y q) λc l l'=>.inr ⟨q,cK (l.symm.trans hl)▸l'⟩
section
variable {scope:Scope}{L:Addr}{cs:List (Str×Addr)}{own' aO:Own}{c' aP:Cells}{l':Loc}{s':Shared}{h₀ hx:Heap}
theorem pd.fa(cf:pd scope env L cs s.heap)(C:cC scope env)(ek:env.scope.kind=.function){b:Addr}{o:Obj}(e:s.heap.get? b=some o)(f:Fa (compEnv scope env L cs) b) :
  ∃ y,(compEnv scope env L cs).kindOf y=some .cell/\cs.lookup y=some b/\(y,NameKind.free)∈scope.names/\env.cells.lookup y=some b/\env.kindOf y=some .cell:=by
 rcases f with rfl | ⟨y,hk,hl⟩
 ·exact bf (cf.fresh.symm.trans e)
 ·rcases cf.i6 y b (.inl hk) hl with z | ⟨z,l⟩
  ·exact bf (z.symm.trans e)
  ·apply sq y hk hl z l ?_
   by_cases q:env.kindOf y=some .cell
   ·exact q
   ·have k2:=fH (env:=env) (scope:=scope) (L:=L) (cs:=cs) (x:=y) ek
    rw [hk,C.lookup.mpr z] at k2
    exact nomatch k2.trans (if_neg q)
theorem AG(C:cC scope env)(ek:env.scope.kind=.function)(cf:pd scope env L cs s.heap)(x₀:Ext (Fa env) aO aP h₀ own cells s.heap)(hw:∀ b o o',h₀.get? b=some o->s.heap.get? b=some o'->hx.get? b=some o')(x:Ext (Fa (compEnv scope env L cs)) own cells hx own' c' s'.heap):Ext (Fa env) aO aP h₀ own' c' s'.heap where
 keep:=λb o e n f t=>aj (x₀.keep b o e n f t) λo1 e1 k1=>aj (x.keep b o1 (hw b o o1 e e1) (x₀.de b o e n) (λg=>gu (cf.fa C ek e1 g) λy Z Z Z l q=>f (.inr (iDPP y q l))) (k1.tab t)) λo2 e2 k2=>iDPP o2 e2 (k1.trans k2)
 de:=λb o e n=>bw (x₀.there b o e) λo1 e1=>x.de b o1 (hw b o o1 e e1) (x₀.de b o e n)
 there:=λb o e=>bw (x₀.there b o e) λo1 e1=>x.there b o1 (hw b o o1 e e1)
 gP:=λb q o e z w=>dj (x₀.gP b q o e z w) λp1 p2 p3 p4=>dj (x.gP b q o (hw b o o e p1) p2 ⟨w.1.of p3,p4⟩) λq1 q2 q3 q4=>aX q1 q2 (q3.trans p3) q4
theorem vO(C:cC scope env)(I:Inv X env own loc cells s)(cf:pd scope env L cs s.heap)(hw:∀ b o,s.heap.get? b=some o->own b=none->hx.get? b=some o)(I':Inv X (compEnv scope env L cs) own' l' c' s')(hs:∀ y mv,(fi scope loc).lookup y=some mv->l'.lookup y=some mv)(x:Ext (Fa (compEnv scope env L cs)) own cells hx own' c' s'.heap):Inv X env own' loc c' s':=by
 have kp:∀ b o,s.heap.get? b=some o->own b=none->¬ Fa (compEnv scope env L cs) b->¬ Tab o->∃ o',s'.heap.get? b=some o'/\qI o o':=λb o e n=>x.keep b o (hw b o e n) n
 have Mg:∀ y b o,(y,NameKind.free)∈scope.names->env.cells.lookup y=some b->s.heap.get? b=some o->∃ v,o.data=.cell v:=λy b o z l e=>ay (I.fr.i6 y (C.isFree z)) λc v l' zq Z=>aj zq λo' e' d=>by
  cases cK (l'.symm.trans l);cases cK (e'.symm.trans e);exact bJ v d
 have NG:∀ b o,Fa (compEnv scope env L cs) b->s.heap.get? b=some o->qG o->False:=λb o f e z=>gu (cf.fa C I.ok.kind e f) λy Z Z z' l Z=>bw (Mg y b o z' l e) λv d=>kL d z
 have rv:∀ {v y},RV own s.heap v y->RV own' s'.heap v y:=λr=>r.mono (λb o e n z=>aj (kp b o e n (λf=>NG b o f e z) (jf z.cls.2)) λo' e' lk=>lk.2.2 z.nodict▸e') λb o e n=>x.de b o (hw b o e n) n
 have Mh:∀ m,s.heap.Ns env.locals m->s'.heap.Ns env.locals m:=λm zq=>eg zq λo es ep e d r =>
  aj (kp _ o e I.fr.dy (λf=>gu (cf.fa C I.ok.kind e f) λy Z Z z l Z=>bw (Mg y _ o z l e) λv d'=>nomatch d.symm.trans d') (fG d)) λo' e' lk=>iDDDPPP o' es ep e' (lk.2.1.trans d) r
 have cell:∀ y b v P,bj (env.kindOf y)->env.cells.lookup y=some b->s.heap.IsCell b v->own b=none->(¬ Fa (compEnv scope env L cs) b->s'.heap.IsCell b v->P)->((compEnv scope env L cs).kindOf y=some .cell->(y,NameKind.free)∈scope.names->cs.lookup y=some b->P)->P:=λy b v P k l zq n h1 h2=>aj zq λo e d=>by
  by_cases f:Fa (compEnv scope env L cs) b
  ·exact gu (cf.fa C I.ok.kind e f) λy' hk hl z l' Z=>by cases I.fr.inj y' y b (C.isFree z) k l' l;exact h2 hk z hl
  ·exact aj (kp b o e n f (kN d)) λo' e' lk=>h1 f (iDPP o' e' (lk.2.1.trans d))
 have Mi:∀ b o,s.heap.get? b=some o->own b=none->own' b=none:=λb o e n=>x.de b o (hw b o e n) n
 exact ⟨I'.base,I.ok,{
  ns:=bw I.fr.ns λm q=>bJ m (Mh m q)
  dy:=jI I.fr.ns λm o Z Z e Z=>Mi _ o e I.fr.dy
  eO:=I.fr.eO
  i6:=λy k=>cJ (I.fr.i6 y k) λb v0 l ic on nn=>cell y b v0 _ k l ic on (λZ Kl=>d9 b v0 l Kl (aj ic λo e Z=>Mi b o e on) nn)
   λhk Z hl=>cJ (I'.fr.i6 y (.inl hk)) λb' v1 l1 Km NH Z=>by cases cK (l1.symm.trans hl);exact d9 b v1 l Km NH nn
  inj:=I.fr.inj
  var:=λy mv e=>(I.fr.var y mv e).conv (λm v q1 q2 q3=>aH m v (Mh m q1) q2 (rv q3)) λb v k l ic r=>cJ (I.fr.i6 y k) λb' v0 l' Z on Z=>by
   cases cK (l'.symm.trans l)
   apply cell y b (some v) _ k l ic on (λZ Kl=>iDPP v Kl (rv r)) λhk z hl=>?_
   have hv:=I'.fr.var y mv (hs y mv (by rw [gA,C.lookup.mpr z];exact e))
   exact ay (hv.Mb hk) λc u l1 Km ru=>by cases cK (hl.symm.trans l1);exact iDPP u Km ru}⟩
end
structure fM(X:Cx)(env:Env)(loc:Loc)(aO:Own)(aP:Cells)(h₀:Heap)(acc:Value)(r:V)(L:Addr)(own:Own)(c:Cells)(s:Shared):Prop where
 inv:Inv X env own loc c s
 rv:RV own s.heap acc r
 ext:Ext (Fa env) aO aP h₀ own c s.heap
 ns:∃ m,s.heap.Ns L m
 dy:own L=none
 eO:X.h₀.get? L=none
 ki:h₀.get? L=none
 AH:L ∉ X.gx
 FG:L≠env.locals
 FH:∀ y c,bj (env.kindOf y)->env.cells.lookup y=some c->c≠L
theorem i7.gT{b:Addr}{c':Cells}{h:Heap}(hc:c' b=cells b)(f:i7 own cells h b):i7 own c' h b:=let ⟨o,e,z⟩:=f;iDPP o e (z.imp id λq=>⟨q.1,q.2.of hc⟩)
theorem SrcAt.keep{target:Expr}{it:Value}{items:List V}{own':Own}{c':Cells}{h₀ h₁ h h':Heap}{fp wr:List Addr}{St:Nat->Heap->Prop}{P:Nat->Heap->Heap->Value->Prop}(S:SrcAt X A target own cells h₀ h it items fp wr St P)(kp:∀ b o,h.get? b=some o->h'.get? b=some o)(ho:∀ b o,h.get? b=some o->own' b=own b)(hc:∀ b o,h.get? b=some o->c' b=cells b)(hw:∀ b∈wr,h₁.get? b=none):SrcAt X A target own' c' h₁ h' it items fp wr St P where
 d:=S.d
 st:=S.d.frame 0 h h' S.st λb Z o e=>kp b o e
 w:=λb hb=>bw (S.ex 0 h S.st b (S.d.sub b hb)) λo e=>⟨hw b hb,(ho b o e).trans (S.w b hb).2.1,(hc b o e).trans (S.w b hb).2.2⟩
 ex:=S.ex
 f:=λb hb hw=>bw (S.ex 0 h S.st b hb) λo e=>(((S.f b hb hw).keep λo e=>kp b o e).AB (ho b o e)).gT (hc b o e)
 p:=λi own' hp h' v x p e r n=>S.p i own' hp h' v x p e (λu y q=>r u y (q.mono (λb o e Z Z=>kp b o e) λb o e n=>(ho b o e).trans n)) n
theorem rB{β:Type}{K:β->Cell}{b0:β}{ob:Obj}{mk:Sem Value}{Em:Env->Addr->(Shared->Prop)->Shared->Prop}{target e:Expr}{bind:V->Loc->Loc}{scope:Scope}{it:Value}{items:List V}{aO aG:Own}{aP c2:Cells}{bG:Loc}{h₀:Heap}{s2:Shared}{cl:List (Str×Addr)}{R:Value->Addr->Result->Shared->Prop}(C:cC scope env)(I2:Inv X env aG bG c2 s2)(x2:Ext (Fa env) aO aP h₀ aG c2 s2.heap)(src:Src X A target aG c2 h₀ s2.heap it items)(nZ:∀ x c,(x,c)∈cl↔((x,NameKind.free)∈scope.names/\env.cells.lookup x=some c))(NI:∀ Q:Value->Shared->Prop,Q (.ref s2.heap.objs.size) { s2 with heap:=s2.heap.push ob}->wpAny (model X.prog X.w) A mk Q gy s2)(hf:ob.isFreed=false)(Kn:∀ own h a,h.get? a=some ob->b9 X.prog X.w own h a (K b0))(J:Nat->β->Cells->Prop)(j0:J 0 b0 c2)(AE:∀ L cs v,v∈items->sF X A (compEnv scope env L cs) target v (bind v))(turn:∀ L cs i v acc c a own s (Q:Shared->Prop),items[i]?=some v->c a=some (K acc)->J i acc (upd c a none)->Inv X (compEnv scope env L cs) own (bind v (fi scope bG)) c s ->
   (∀ own' l' c' ys s',Inv X (compEnv scope env L cs) own' l' c' s'->Ext (Fa (compEnv scope env L cs)) own c s.heap own' c' s'.heap->(∀ y mv,(fi scope bG).lookup y=some mv->l'.lookup y=some mv)->c' a=some (K ys)->J (i+1) ys (upd c' a none)->Q s')->Em (compEnv scope env L cs) a Q s)(Kg:∀ L cs a,HI X A target (compEnv scope env L cs) it (Em (compEnv scope env L cs) a) (R (.ref a) L (.ok .next)) (codeAny (model X.prog X.w) A (.compLoop e 0 it (.ref a) (compEnv scope env L cs)) (R (.ref a) L)))(rC:∀ L cs a (R:Result->Shared->Prop) s,codeAny (model X.prog X.w) A (.compLoop e 0 it a (compEnv scope env L cs)) R s->wpAny (model X.prog X.w) A (pyIter it) (λHJ s'=>HJ=it/\codeAny (model X.prog X.w) A (.compLoop e 0 it a (compEnv scope env L cs)) R s') gy s->codeAny (model X.prog X.w) A (.compStart e 0 it a (compEnv scope env L cs)) R s)(hR:∀ a L own' c' s' xs,J items.length xs (upd c' a none)->c' a=some (K xs)->fM X env bG aO aP h₀ (.ref a) (.ref a) L own' c' s'->R (.ref a) L (.ok .next) s') :
  wpAny (model X.prog X.w) A mk (λacc s3=>wpAny (model X.prog X.w) A (newFunctionEnv scope env.globals cl [] env.qual none .none (some env)) (λgU s4 =>
   codeAny (model X.prog X.w) A (.compStart e 0 it acc { gU with scope:=relabel scope env}) (R acc gU.locals) s4) gy s3) gy s2:=by
 apply NI _ ?_
 apply bq (I2.base.jN (t:=s2.toks) hf (c':=K b0) (Kn _ _ _ (get?_push_size _ hf))) ?_;intro B3 x3 n3
 have a2:=ak s2.heap
 have k3:∀ b o,s2.heap.get? b=some o->(s2.heap.push ob).get? b=some o:=λb o e=>get?_push_of_some _ e
 generalize s2.heap.push ob=h3 at B3 x3 k3 ⊢
 generalize s2.heap.objs.size=a at B3 x3 n3 a2 ⊢
 have na:∀ b o,s2.heap.get? b=some o->b≠a:=λb o e z=>bf ((a2.symm.trans (congrArg s2.heap.get? z.symm)).trans e)
 have I3:Inv X env (cM aG a) bG (upd c2 a (some (K b0))) { s2 with heap:=h3}:=⟨B3,I2.ok,I2.fr.ext x3⟩
 apply vN (P:=λce s=>codeAny (model X.prog X.w) A (.compStart e 0 it (.ref a) ce) (R (.ref a) ce.locals) s) C I3 nZ λL cs h4 k4 cf I4=>?_
 apply eT src ?_;intro fp wr St P S
 have S4:=S.keep (own':=cM aG a) (c':=upd c2 a (some (K b0))) (h₁:=PySem.W.hideAll h4 wr) (λb o e=>k4 b o (k3 b o e)) (λb o e=>if_neg (na b o e)) (λb o e=>if_neg (na b o e)) λb hb=>PySem.W.hideAll_none wr hb
 have Mj:=x2.trans x3.fF
 apply aC (uf (G:=codeAny (model X.prog X.w) A (.compLoop e 0 it (.ref a) (compEnv scope env L cs)) (R (.ref a) L)) (J:=λi l c=>l=fi scope bG/\∃ acc,c a=some (K acc)/\J i acc (upd c a none)) I4 (.of_keeps λb o e=>PySem.W.of_hideAll wr e) (l9 fp wr St P S4)
  ⟨rfl,iDPP b0 (ah _ _ _) (by rw [cg,g5 n3];exact j0)⟩ (AE L cs) (λi v l c own s Q hi hj I Z k=>?_) (λown' l' c' s' I' x' hj=>?_) (Kg L cs a)) λg1 g2=>rC L cs (.ref a) _ _ g1 g2
 ·apply jX hj ?_;intro el acc ca j
  subst el
  exact turn L cs i v acc c a own s Q hi ca j I λown' l' c' ys s' I' x' hs HM j'=>k own' _ c' s' (I'.sub hs) x' ⟨rfl,iDPP ys HM j'⟩
 ·apply jX hj ?_;intro el xs ca j
  subst el
  have fr:∀ b o,h₀.get? b=some o->b ∉ wr:=λb o e q=>dc (e.symm.trans (S.w b q).1)
  have fL:s2.heap.get? L=none:=by
   cases q:s2.heap.get? L with
   | none=>rfl
   | some o=>exact bf (cf.fresh.symm.trans (k3 L o q))
  exact hR a L own' c' s' xs j ca {
   inv:=vO C I3 cf (λb o e n=>PySem.W.hideAll_get wr (k4 b o e) λhb=>bf (n.symm.trans (S4.w b hb).2.1)) I' (λZ Z e=>e) x'
   rv:=.ref a
   ext:=AG C I3.ok.kind cf Mj (λb o o' e e'=>PySem.W.hideAll_get wr (k4 b o' e') (fr b o e)) x'
   ns:=I'.fr.ns
   dy:=I'.fr.dy
   eO:=I'.fr.eO
   ki:=by
    cases q:h₀.get? L with
    | none=>rfl
    | some o=>exact bw (Mj.there L o q) λo' e'=>bf (cf.fresh.symm.trans e')
   AH:=λq=>t9 (I2.base.gx L q) λZ o Z Z e Z Z=>bf (fL.symm.trans e)
   FG:=λz=>jI I2.fr.ns λm o Z Z e Z=>bf ((fL.symm.trans (congrArg s2.heap.get? z)).trans e)
   FH:=λy b k l z=>ay (I2.fr.i6 y k) λc' v0 l' ic Z=>aj ic λo e Z=>bf ((fL.symm.trans (congrArg s2.heap.get? (z.symm.trans (cK (l.symm.trans l'))))).trans e)}
theorem c_append{a:Addr}{xs:List V}{x:V}{Ψ:V->Cells->Prop}(hc:cells a=some (.list xs))(hz:xs.length<=sizeLine)(h:Ψ .none (upd cells a (some (.list (xs++[x]))))):aD X A (.bi "list.append") [.ref a,x] Ψ cells:=λfv vs own s I rz=>aC rz λrf r=>by
 apply RV.e0 rf rfl ?_
 (apply ay r.two ?_;intro v u bk;rw [bk];intro r1 r2)
 apply RV.e0 r1 rfl ?_
 apply dQ (I.cell a _ hc) λoa vs n e rs=>?_
 have z:vs.size=xs.length:=by simpa using rs.1
 apply sL (l:=a) (its:=vs) e (λh7 e7 FI=>?_) (by lia)
 have kp:∀ b o,b≠a->s.heap.get? b=some o->h7.get? b=some o:=λb o hb e=>(FI.2 b hb).trans e
 have rv:∀ v x,RV own s.heap v x->RV own h7 v x:=λv x r=>fV I hc kp r
 (apply aC (I.iX (t:=s.toks) hc kp (bJ _ e7) (c':=.list (xs++[x])) (ez _ (n+1) e7 (by rw [toList_push];exact (rs.mono rv).append (.cons (rv _ _ r2) .nil)))) ?_;intro B x)
 exact ⟨own,_,.none,B,.xk,x,h⟩
theorem Base.adopt{a:Addr}{c0:Cell}(I:Base X own cells s)(oa:own a=some a)(ca:cells a=none)(h:b9 X.prog X.w own s.heap a c0):Base X own (upd cells a (some c0)) s:=I.gT λx e=>cK e▸⟨oa,h⟩
def JF(X:Cx)(A:Around)(ifs:List Expr)(elt:Expr)(gU:Env)(a:Addr)(Q:Shared->Prop)(s:Shared):Prop :=
 wpAny (model X.prog X.w) A (fS gU ifs true) (λok s4=>if ok=true then wpAny (model X.prog X.w) A (eval elt gU) (λx s5=>wpAny (model X.prog X.w) A (call (.builtin "list.append") [.ref a,x]) (λZ s6=>Q s6) gy s5) gy s4 else Q s4) gy s
theorem Dk{x:Str}{px:Pos}{elt iter:Expr}{ifs:List Expr}{scope:Scope}{pos:Pos}{gU:Env}{it:Value}{a:Addr}{R:Result->Shared->Prop} :
  HI X A (.Name x px) gU it (JF X A ifs elt gU a) (R (.ok .next)) (codeAny (model X.prog X.w) A (.compLoop (.ListComp elt [⟨.Name x px,iter,ifs,0⟩] scope pos) 0 it (.ref a) gU) R):=λT turn k s h =>
 codeAny_compLoop_tests (I:=T) (λk s hT=>aJ (turn k s hT) λr s1 hr=>hr.elim (λq=>q) λv hv =>
  bZ (nt (v:=()) hv λq=>aJ q λZ s3 h3=>aJ h3 λok s4 h4=>by
   cases ok with
   | true=>exact aJ h4 λZ s5 h5=>bZ h5
   | false=>exact h4)) k h
theorem Ext.live{F:Addr->Prop}{own':Own}{c c':Cells}{a:Addr}{k:Cell}{o:Option Cell}{h h':Heap}(x:Ext F own (upd c a none) h own' c' h')(hc:c a=some k)(hl:k.live=true):Ext F own c h own' (upd c' a o) h' where
 keep:=x.keep
 de:=x.de
 there:=x.there
 gP:=λb q ob e z w=>by
  have n:q≠a:=λy=>Cell.eV hc hl (y▸w.1)
  exact dj (x.gP b q ob e z ⟨w.1.of (ae _ n),w.2⟩) λp1 p2 p3 p4=>aX p1 p2 ((ae _ n).trans (p3.trans (ae _ n))) p4
theorem Dl{ifs:List Expr}{elt:Expr}{a:Addr}{acc:List V}{P:Loc->List V->Cells->Prop}{Q:Shared->Prop}(H:fz X A env ifs (λok l c=>if ok then mE X A env (eval elt env) (λr l' c'=>P l' (acc++[r]) c') l c else P l acc c) loc (upd cells a none))(ca:cells a=some (.list acc))(hz:acc.length<=sizeLine)(I:Inv X env own loc cells s)(k:∀ own' l' c' ys s',Inv X env own' l' c' s'->Ext (Fa env) own cells s.heap own' c' s'.heap->c' a=some (.list ys)->P l' ys (upd c' a none)->Q s'):JF X A ifs elt env a Q s:=by
 have I':Inv X env own loc (upd cells a none) s:=⟨I.base.gT λx e=>(bf e),I.ok,I.fr⟩
 apply dQ (I.base.cell a _ ca) ?_;intro oa vs n e ra
 have back:∀ {own' l' c' s'},Inv X env own' l' c' s'->Ext (Fa env) own (upd cells a none) s.heap own' c' s'.heap->Inv X env own' l' (upd c' a (some (.list acc))) s'/\c' a=none:=λI4 x=>dj (x.gP a a _ e oa ⟨.inl (ah _ _ _),rfl⟩) λp1 p2 p3 Z =>
  have n4:=p3.trans (ah _ _ _)
  ⟨⟨I4.base.adopt p2 n4 (ez vs n p1 (ra.ext I' x)),I4.ok,I4.fr⟩,n4⟩
 apply (jk ifs H).use I' λeh l4 c4 ok okv s4 I4 r4 x4 p4=>?_
 cases (r4:okv=ok)
 cases ok with
 | false=>exact aC (back I4 x4) λI5 n5=>k eh l4 _ acc s4 I5 (x4.live ca rfl) (ah _ _ _) (by rw [cg,g5 n5];exact p4)
 | true =>
  apply cL.use p4 I4 λvP l5 c5 r rv s5 I5 r5 x5 p5=>aC (back I5 (x4.trans x5)) λI6 n6=>?_
  exact (c_append (Ψ:=λZ c=>c=upd (upd c5 a (some (.list acc))) a (some (.list (acc++[r])))) (ah _ _ _) hz rfl (.builtin "list.append") [.ref a,rv]).lY I6 ⟨.bi _,.cons (.ref a) (.cons r5 .nil)⟩ λFJ c7 b v s7 I7 r7 x7 h7=>by
   rw [cg] at h7
   subst h7
   exact k FJ l5 _ _ s7 I7 (((x4.trans x5).live ca rfl).trans x7) (ah _ _ _) (by rw [cg,g5 n6];exact p5)
end
section
variable {h':Heap}
theorem aN.but{h₀ h:Heap}{P:Addr->Prop}(F:aN h₀ env own h loc)(hL:¬ P env.locals)(hC:∀ x c,bj (env.kindOf x)->env.cells.lookup x=some c->¬ P c)(hd:∀ b,P b->∀ o,h.get? b=some o->¬ qG o)(hs:∀ b o,¬ P b->h.get? b=some o->h'.get? b=some o):aN h₀ env own h' loc:=by
 have ic:∀ {y c v},bj (env.kindOf y)->env.cells.lookup y=some c->h.IsCell c v->h'.IsCell c v:=fun {y c v} k l=>rj λo=>hs c o (hC y c k l)
 exact {
  ns:=bw F.ns λm q=>⟨m,kO (λo=>hs _ o hL) q⟩
  dy:=F.dy
  eO:=F.eO
  i6:=λy k=>ay (F.i6 y k) λc v₀ l i n=>aH c v₀ l (ic k l i) n
  inj:=F.inj
  var:=λy mv e=>(F.var y mv e).mono (λm=>kO λo=>hs _ o hL) (λc v k l=>ic k l) λZ r=>r.mono (λb o e' Z d=>hs b o (λp=>hd b p o e' d) e') λZ Z Z e=>e}
theorem fM.freeze{aO:Own}{aP c:Cells}{h₀:Heap}{acc:Value}{a:Addr}{xs:List V}{L:Addr}(E:fM X env loc aO aP h₀ acc (.ref a) L own c s)(hc:c a=some (.list xs)):∃ own',fM X env loc aO aP h₀ acc (.list xs) L own' (upd c a none) s :=
 sv (E.inv.freeze hc) λown' I' r x Z=>bJ own' ⟨I',RV.a0 E.rv▸r,E.ext.trans x,E.ns,jI E.ns λm o Z Z e Z=>x.de L o e E.dy,E.eO,E.ki,E.AH,E.FG,E.FH⟩
theorem fM.letGo{aO:Own}{aP c:Cells}{h₀:Heap}{acc:Value}{r:V}{L:Addr}(E:fM X env loc aO aP h₀ acc r L own c s){h':Heap}(hs:SameBut L s.heap h') :
  Inv X env own loc c {s with heap:=h'}/\RV own h' acc r/\Ext (Fa env) aO aP h₀ own c h':=by
 apply kI E.ns λm oL es ep eL dL rL=>?_
 have hd:∀ o,s.heap.get? L=some o->¬ qG o:=λo e=>by rw [eL] at e;cases e;exact fE dL
 have kp:∀ b o,b≠L->s.heap.get? b=some o->h'.get? b=some o:=λb o hb e=>(hs.2 b hb).trans e
 have rv:∀ v x,RV own s.heap v x->RV own h' v x:=λv x r=>sD kp hd r
 apply ⟨⟨E.inv.base.sameBut (t:=s.toks) E.dy E.eO hs hd (λq=>(E.AH q).elim),E.inv.ok,E.inv.fr.but (P:=λb=>b=L) (λz=>E.FG z.symm) (λy b k l=>E.FH y b k l) (λb p=>p▸hd) λb o p e=>kp b o p e⟩,rv _ _ E.rv,⟨λb o e n f t=>?_,E.ext.de,λb o e=>?_,λb q o e z w=>?_⟩⟩
 ·apply aj (E.ext.keep b o e n f t) λo' e' lk=>?_
  exact (iDPP o' (kp b o' (λz=>by rw [z,E.ki] at e;exact bf e) e') lk)
 ·apply bw (E.ext.there b o e) λo' e'=>?_
  exact (bJ o' (kp b o' (λz=>by rw [z,E.ki] at e;exact bf e) e'))
 ·apply bq (E.ext.gP b q o e z w) λp1 p2 p3=>?_
  exact ⟨kp b o (λz=>by rw [z,E.ki] at e;exact bf e) p1,p2,p3⟩
def g6(X:Cx)(A:Around)(env:Env)(bind:V->Loc->Loc)(ifs:List Expr)(elt:Expr)(scope:Scope)(items:List V)(bG:Loc)(c2:Cells)(Ψ:V->Cells->Prop):Prop :=
 items.length<=sizeLine/\∃ J:Nat->List V->Cells->Prop,J 0 [] c2/\(∀ i acc c,J i acc c->acc.length<=i) /\
  (∀ L cs i v acc c,items[i]?=some v->J i acc c->fz X A (compEnv scope env L cs) ifs (λok l c=>if ok then
    mE X A (compEnv scope env L cs) (eval elt (compEnv scope env L cs)) (λr l' c'=>l'=bind v (fi scope bG)/\J (i+1) (acc++[r]) c') l c
   else l=bind v (fi scope bG)/\J (i+1) acc c) (bind v (fi scope bG)) c)/\∀ xs c,J items.length xs c->Ψ (.list xs) c
structure n8(X:Cx)(A:Around)(env:Env)(scope:Scope)(target:Expr)(ifs:List Expr)(elt e:Expr)(bind:V->Loc->Loc)(ok:V->Prop):Prop where
 asg:∀ L cs v,ok v->sF X A (compEnv scope env L cs) target v (bind v)
 sub:∀ v,ok v->∀ loc y mv,(fi scope loc).lookup y=some mv->(bind v (fi scope loc)).lookup y=some mv
 lp:∀ L cs it a R,HI X A target (compEnv scope env L cs) it (JF X A ifs elt (compEnv scope env L cs) a) (R (.ok .next)) (codeAny (model X.prog X.w) A (.compLoop e 0 it (.ref a) (compEnv scope env L cs)) R)
theorem yJ{scope:Scope}{L:Addr}{cs:List (Str×Addr)}{x:Str}(C:cC scope env)(ek:env.scope.kind=.function)(hx:scope.names.lookup x=some .local\/scope.names.lookup x=some .cell) :
  (compEnv scope env L cs).kindOf x=some .local\/(compEnv scope env L cs).kindOf x=some .cell:=by
 rw [fH (env:=env) (scope:=scope) (L:=L) (cs:=cs) (x:=x) ek]
 rcases hx with q | q <;> rw [q]
 ·exact .inl rfl
 ·exact .inr rfl
theorem AI{scope:Scope}{x:Str}(hx:scope.names.lookup x=some .local\/scope.names.lookup x=some .cell)(loc:Loc):(fi scope loc).lookup x=none:=by
 rw [gA]
 rcases hx with q | q <;> rw [q] <;> rfl
theorem n8.name{scope:Scope}{x:Str}{px:Pos}{ifs:List Expr}{elt iter:Expr}{pos:Pos}(C:cC scope env)(ek:env.scope.kind=.function)(hx:scope.names.lookup x=some .local\/scope.names.lookup x=some .cell) :
  n8 X A env scope (.Name x px) ifs elt (.ListComp elt [⟨.Name x px,iter,ifs,0⟩] scope pos) (λv l=>(x,v)::l) (λZ=>True) where
 asg:=λL cs v Z=>dW (yJ C ek hx)
 sub:=λv Z loc y mv e=>by
  rw [lookup_cons]
  by_cases hy:(y == x)=true
  ·have:y=x:=eq_of_beq hy
   subst this
   rw [AI hx] at e;exact bf e
  ·rw [if_neg hy];exact e
 lp:=λL cs it a R=>Dk
noncomputable def nu (x y:Str) (v:V) (l:Loc):Loc:=match v with
 | .tuple [a,b]=>(y,b)::(x,a)::l
 | _=>l
def IsPair(v:V):Prop:=∃ a b,v=.tuple [a,b]
theorem sM{target elt iter e:Expr}{bind:V->Loc->Loc}{okv:V->Prop}{ifs:List Expr}{scope:Scope}{p2:Pos}{use:Option (Value->Sem Unit)}{Q:Value->Shared->Prop}{Φ:V->Loc->Cells->Prop}(he:∃ pos,e=.ListComp elt [⟨target,iter,ifs,0⟩] scope pos)(C:cC scope env)(G:n8 X A env scope target ifs elt e bind okv)(hh:A.handled=none)(h:iW X A env target iter (λitems l2 c2=>(∀ v∈items,okv v)/\g6 X A env bind ifs elt scope items l2 c2 (λr c=>Φ r l2 c)) loc cells)(hs:∀ x,foldedSetIterable iter env x=pure x)(I₀:Inv X env own loc cells s)(hR:∀ a L own' c' s' xs l2,Φ (.list xs) l2 (upd c' a none)->c' a=some (.list xs)->fM X env l2 own cells s.heap (.ref a) (.ref a) L own' c' s'->compPost (model X.prog X.w) A gy use Q (.ref a) L (.ok .next) s') :
  wpAny (model X.prog X.w) A (comprehension e scope env p2 (newList []) false (eval iter env) use) Q gy s:=by
 apply bw he ?_;clear he;intro pos dH;subst dH
 apply aj (jZ (env:=env) (scope:=scope) (λy hy=>bW (I₀.fr.i6 y (C.isFree hy)) λc Z l Z=>bJ c l)) ?_;intro cl nZ Ko
 apply wpAny_comprehension_free (g:=⟨target,iter,ifs,0⟩) (gs:=[]) rfl hs nZ C.kind (λy hy hk=>C.lookup.mpr (by obtain ⟨a,b⟩:=y;dsimp only at hk;rw [hk] at hy;exact hy)) ?_
 apply aJ (h own s I₀) λxv s1 h1=>aJ h1 λit s2 eC=>?_
 apply iT eC ?_;clear eC;intro aG bG c2 items I2 x2 src AJ hlen J j0 hJ turn done
 apply rB (K:=.list) (b0:=[]) (Em:=λce a=>JF X A ifs elt ce a) (R:=λacc L=>compPost (model X.prog X.w) A gy use Q acc L) C I2 x2 src Ko (λQ q=>wpAny_newList q (by decide)) rfl (λown h a e=>ez #[] 0 e .nil) J j0 (λL cs v hv=>G.asg L cs v (AJ v hv)) ?_ (λL cs a=>G.lp L cs it a _) ?_
  λa L own' c' s' xs j ca e=>hR a L own' c' s' xs bG (done xs _ j) ca e
 ·intro L cs i v acc c a own s Q hi ca j I k
  exact Dl (P:=λl ys c=>l=bind v (fi scope bG)/\J (i+1) ys c) (turn L cs i v acc _ hi j) ca (le_trans (hJ i acc _ j) (le_trans (le_of_lt (List.getElem?_eq_some_iff.mp hi).1) hlen)) I
   λown' l' c' ys s' I' x' HM p=>k own' l' c' ys s' I' x' (λy mv e=>p.1▸G.sub v (AJ v (mem_of_getElem? hi)) bG y mv e) HM p.2
 ·intro L cs a R s3 h1 h2
  exact codeAny_compStart_list h1 (aJ h2 λHJ s' q=>by cases q.1;exact q.2)
theorem cD{target elt iter:Expr}{bind:V->Loc->Loc}{okv:V->Prop}{ifs:List Expr}{scope:Scope}{pos:Pos}{Ψ:V->Loc->Cells->Prop}(C:cC scope env)(G:n8 X A env scope target ifs elt (.ListComp elt [⟨target,iter,ifs,0⟩] scope pos) bind okv)(hh:A.handled=none)(h:iW X A env target iter (λitems l2 c2=>(∀ v∈items,okv v)/\g6 X A env bind ifs elt scope items l2 c2 (λr c=>Ψ r l2 c)) loc cells)(hs:autoParam (∀ x,foldedSetIterable iter env x=pure x) aIR) :
  mE X A env (eval (.ListComp elt [⟨target,iter,ifs,0⟩] scope pos) env) Ψ loc cells:=λown s I=>by
 rw [eval_ListComp]
 exact sM ⟨pos,rfl⟩ C G hh h hs I λa L own'' c' s' xs l2 hΦ ca e₀=>bw (e₀.freeze ca) λown' e=>bw e.ns λm hm =>
  iDPP m hm λh' Ak=>bq (e.letGo Ak) λq1 q2 q3=>⟨own',l2,_,.list xs,q1,q2,q3,hΦ⟩
theorem n9{target elt iter:Expr}{bind:V->Loc->Loc}{okv:V->Prop}{ifs:List Expr}{scope:Scope}{pos:Pos}{Ψ:V->Loc->Cells->Prop}(C:cC scope env)(G:n8 X A env scope target ifs elt (.ListComp elt [⟨target,iter,ifs,0⟩] scope pos) bind okv)(hh:A.handled=none)(h:iW X A env target iter (λitems l2 c2=>(∀ v∈items,okv v)/\g6 X A env bind ifs elt scope items l2 c2 (λr c=>∃ xs,r=.list xs/\∀ a,c a=none->Ψ (.ref a) l2 (upd c a (some (.list xs))))) loc cells)(hs:autoParam (∀ x,foldedSetIterable iter env x=pure x) aIR) :
  mE X A env (eval (.ListComp elt [⟨target,iter,ifs,0⟩] scope pos) env) Ψ loc cells:=λown s I=>by
 rw [eval_ListComp]
 apply sM (Φ:=λr l2 c=>∃ xs,r=.list xs/\∀ a,c a=none->Ψ (.ref a) l2 (upd c a (some (.list xs)))) ⟨pos,rfl⟩ C G hh h hs I λa L own' c' s' xs l2 hΦ ca e=>bw e.ns λm hm =>
  iDPP m hm λh' Ak=>bq (e.letGo Ak) λq1 q2 q3=>⟨_,l2,_,.ref a,q1,q2,q3,?_⟩
 apply aj hΦ ?_;intro PJ e' hΦ
 cases e'
 have:=hΦ a (ah _ _ _)
 rw [uh ca] at this
 exact this
theorem fb{target elt iter:Expr}{bind:V->Loc->Loc}{okv:V->Prop}{y:Str}{py:Pos}{ifs:List Expr}{scope:Scope}{pos p:Pos}{Ψ:MF->Loc->Cells->Prop}(C:cC scope env)(G:n8 X A env scope target ifs elt (.ListComp elt [⟨target,iter,ifs,0⟩] scope pos) bind okv)(hy:env.kindOf y=some .local)(hh:A.handled=none)(HN:swapsWith (.ListComp elt [⟨target,iter,ifs,0⟩] scope pos) (some (.Name y py)) p.line env=pure true)(h:iW X A env target iter (λitems l2 c2=>(∀ v∈items,okv v)/\g6 X A env bind ifs elt scope items l2 c2 (λr c=>Ψ .next ((y,r)::l2) c)) loc cells)(hs:autoParam (∀ x,foldedSetIterable iter env x=pure x) aIR) :
  mS X A env (exec (.Assign [.Name y py] (.ListComp elt [⟨target,iter,ifs,0⟩] scope pos) p) env) Ψ loc cells:=λown s I=>by
 rw [exec_Assign_Name_used _ _ _ _ HN]
 apply wpAny_bind (wpAny_standAt (wpAny_bind ?_))
 show wpAny _ A (do let _ <- comprehension (.ListComp elt [⟨target,iter,ifs,0⟩] scope pos) scope env _ (newList []) false (eval iter env) (some (assign (.Name y py) env))) _ _ s
 apply wpAny_bind (wpAny_mono (Q:=λZ s'=>jh X env RF own cells s.heap Ψ .next s') ?_ (λZ s' hq=>wpAny_pure (wpAny_pure hq)) λZ Z e=>e)
 apply sM (Φ:=λr l2 c=>Ψ .next ((y,r)::l2) c) ⟨pos,rfl⟩ C G hh h hs I λacc L own'' c' s' xs l2 hΦ ca e₀=>?_
 apply bw (e₀.freeze ca) ?_;intro own' e
 show wpAny _ _ (assign (.Name y py) env (.ref acc)) _ _ _
 apply wpAny_assign_Name ?_
 apply (bu e.inv e.rv (.inl hy) λs2 I2 x2=>?_)
 have nF:¬ Fa env L:=λf=>by
  rcases f with q | ⟨z,k,l⟩
  ·exact e.FG q
  ·exact e.FH z L (.inl k) l rfl
 have E2:fM X env ((y,.list xs)::l2) own cells s.heap (.ref acc) (.list xs) L own' (upd c' acc none) s2:=by
  apply kI e.ns λm o es ep eo d r=>?_
  apply aj (x2.keep L o eo e.dy nF (fG d)) λo' e' lk=>?_
  exact ⟨I2,e.rv.ext e.inv x2,e.ext.trans x2,⟨m,o',es,ep,e',(lk.2.1.trans d),r⟩,e.dy,e.eO,e.ki,e.AH,e.FG,e.FH⟩
 apply bw E2.ns λm hm=>?_
 apply (iDPP m hm (λh' Ak=>?_))
 apply bq (E2.letGo Ak) λq1 q2 q3=>?_
 exact ⟨own',_,_,.next,q1,.next,q3,hΦ⟩
end
section
variable {Φ:Bool->Cells->Prop}
theorem RV.cN{h:Heap}{v:Value}{xs:List V}(r:RV own h v (.list xs)):∃ a d vs n sl,v=.ref a/\h.get? a=some ⟨.type "list",d,.seq vs n,sl⟩/\own a=none/\bV own h vs.toList xs:=by
 apply RV.ua r λa d vs n sl ho hn hs hi=>?_
 exact ⟨_,_,_,_,_,rfl,ho,hn,(by simpa using hs),(λi v x p q=>hi i v x (by simpa using p) q)⟩
theorem RV.gC{h:Heap}{v:Value}{xs:List V}(r:RV own h v (.tuple xs)):∃ a d vs n sl,v=.ref a/\h.get? a=some ⟨.type "tuple",d,.seq vs n,sl⟩/\own a=none/\bV own h vs.toList xs:=by
 apply RV.yx r λa d vs n sl ho hn hs hi=>?_
 exact ⟨_,_,_,_,_,rfl,ho,hn,(by simpa using hs),(λi v x p q=>hi i v x (by simpa using p) q)⟩
theorem RV.xy{h:Heap}{a d vs n sl}{xs:List V}(ho:h.get? a=some ⟨.type "tuple",d,.seq vs n,sl⟩)(hn:own a=none)(r:bV own h vs.toList xs):RV own h (.ref a) (.tuple xs) :=
 .tuple ho hn (by simpa using r.1) λi v x p q=>r.2 i v x (by simpa using p) q
theorem kU{vs:Array Value}{xs:List V}(I:Base X own cells s)(r:bV own s.heap vs.toList xs)(h:Ψ (.list xs) cells){t:Nat} :
  rm X RV own cells s.heap Ψ (.ref s.heap.objs.size) {s with heap:=s.heap.push { cls:=.type "list",data:=.seq vs},toks:=t} :=
 have kp:∀ b o,s.heap.get? b=some o->(s.heap.push { cls:=.type "list",data:=.seq vs}).get? b=some o:=λb o e=>get?_push_of_some _ e
 mb_end (b:=.list xs) I rfl kp (.mj (get?_push_size _ rfl) (I.fresh (ak _)).1 (r.mono λZ Z q=>q.keeps kp)) h
theorem rD{vs:Array Value}{xs:List V}(I:Base X own cells s)(r:bV own s.heap vs.toList xs)(h:Ψ (.tuple xs) cells){t:Nat} :
  rm X RV own cells s.heap Ψ (.ref s.heap.objs.size) {s with heap:=s.heap.push { cls:=.type "tuple",data:=.seq vs},toks:=t} :=
 have kp:∀ b o,s.heap.get? b=some o->(s.heap.push { cls:=.type "tuple",data:=.seq vs}).get? b=some o:=λb o e=>get?_push_of_some _ e
 mb_end (b:=.tuple xs) I rfl kp (.xy (get?_push_size _ rfl) (I.fresh (ak _)).1 (r.mono λZ Z q=>q.keeps kp)) h
theorem dX{a b:Int}(h:Ψ (.int (a+b)) cells):cR X A (binaryOp .Add) (.int a) (.int b) Ψ cells:=λv u own s I ⟨r1,r2⟩=>by
 apply RV.e1 r1 rfl λZ=>?_;apply RV.e1 r2 rfl λZ=>?_;exact add_int (aw I (.int _ _) h)
theorem kW{a b:Int}(h:Ψ (.int (a - b)) cells):cR X A (binaryOp .Sub) (.int a) (.int b) Ψ cells:=λv u own s I ⟨r1,r2⟩=>by
 apply RV.e1 r1 rfl λZ=>?_;apply RV.e1 r2 rfl λZ=>?_;exact sub_int (aw I (.int _ _) h)
theorem pg{a b:Int}(hb:b≠0)(h:Ψ (.int (a.fmod b)) cells):cR X A (binaryOp .Mod) (.int a) (.int b) Ψ cells:=λv u own s I ⟨r1,r2⟩=>by
 apply RV.e1 r1 rfl λZ=>?_;apply RV.e1 r2 rfl λZ=>?_;exact mod_int' hb (aw I (.int _ _) h)
theorem AK{a b:Int}(hb:b≠0)(hp:Builtin.divisionGoesByPylong a b=false)(h:Ψ (.int (a.fdiv b)) cells):cR X A (binaryOp .FloorDiv) (.int a) (.int b) Ψ cells:=λv u own s I ⟨r1,r2⟩=>by
 apply RV.e1 r1 rfl λZ=>?_;apply RV.e1 r2 rfl λZ=>?_;exact floordiv_int hb (aw I (.int _ _) h) (.inl hp)
theorem ER{a n:Int}(hn:0<=n)(yB:n<=1000000)(ha:a.natAbs<2 ^ 64)(h:Ψ (.int (a ^ n.toNat)) cells):cR X A (binaryOp .Pow) (.int a) (.int n) Ψ cells:=λv u own s I ⟨r1,r2⟩=>by
 apply RV.e1 r1 rfl λZ=>?_;apply RV.e1 r2 rfl λZ=>?_;exact pow_int_small hn yB ha (aw I (.int _ _) h)
theorem o_neg{a:Int}(h:Ψ (.int (-a)) cells):HE X A (unaryOp .USub) (.int a) Ψ cells:=λv own s I r1=>by
 apply RV.e1 r1 rfl λZ=>?_;exact neg_int (aw I (.int _ _) h)
theorem mn{a b:Int}(h:Ψ (.int (a+b)) cells):cR X A (inplaceOp .Add) (.int a) (.int b) Ψ cells:=λv u own s I ⟨r1,r2⟩=>by
 apply RV.e1 r1 rfl λZ=>?_;apply RV.e1 r2 rfl λZ=>?_;exact iadd_int (aw I (.int _ _) h)
theorem FK{a b:Int}(h:Ψ (.int (a - b)) cells):cR X A (inplaceOp .Sub) (.int a) (.int b) Ψ cells:=λv u own s I ⟨r1,r2⟩=>by
 apply RV.e1 r1 rfl λZ=>?_;apply RV.e1 r2 rfl λZ=>?_;exact isub_int (aw I (.int _ _) h)
theorem ph{a b:Int}(h:Ψ (.bool (decide (a<b))) cells):cR X A (compareOp .Lt) (.int a) (.int b) Ψ cells:=λv u own s I ⟨r1,r2⟩=>by
 apply RV.e1 r1 rfl λZ=>?_;apply RV.e1 r2 rfl λZ=>?_;exact lt_int (aw (t:=s.toks) I (.bool _) h)
theorem Kq{a b:Int}(h:Ψ (.bool (decide (b<a))) cells):cR X A (compareOp .Gt) (.int a) (.int b) Ψ cells:=λv u own s I ⟨r1,r2⟩=>by
 apply RV.e1 r1 rfl λZ=>?_;apply RV.e1 r2 rfl λZ=>?_;exact gt_int (aw (t:=s.toks) I (.bool _) h)
theorem Kr{a b:Int}(h:Ψ (.bool (decide (b<=a))) cells):cR X A (compareOp .GtE) (.int a) (.int b) Ψ cells:=λv u own s I ⟨r1,r2⟩=>by
 apply RV.e1 r1 rfl λZ=>?_;apply RV.e1 r2 rfl λZ=>?_;exact ge_int (aw (t:=s.toks) I (.bool _) h)
theorem vQ{a b:Int}(h:Ψ (.bool (a == b)) cells):cR X A (compareOp .Eq) (.int a) (.int b) Ψ cells:=λv u own s I ⟨r1,r2⟩=>by
 apply RV.e1 r1 rfl λZ=>?_;apply RV.e1 r2 rfl λZ=>?_;exact eq_int (aw (t:=s.toks) I (.bool _) h)
theorem FN{a b:Int}(h:Ψ (.bool (a != b)) cells):cR X A (compareOp .NotEq) (.int a) (.int b) Ψ cells:=λv u own s I ⟨r1,r2⟩=>by
 apply RV.e1 r1 rfl λZ=>?_;apply RV.e1 r2 rfl λZ=>?_;exact ne_int (aw (t:=s.toks) I (.bool _) h)
theorem dB{a b:Str}(h:Ψ (.bool (a == b)) cells):cR X A (compareOp .Eq) (.str a) (.str b) Ψ cells:=λv u own s I ⟨r1,r2⟩=>by
 apply RV.e1 r1 rfl λZ=>?_;apply RV.e1 r2 rfl λZ=>?_;exact eq_str (aw (t:=s.toks) I (.bool _) h)
theorem xA{a b:Str}(h:Ψ (.bool (a != b)) cells):cR X A (compareOp .NotEq) (.str a) (.str b) Ψ cells:=λv u own s I ⟨r1,r2⟩=>by
 apply RV.e1 r1 rfl λZ=>?_;apply RV.e1 r2 rfl λZ=>?_;exact ne_str (aw (t:=s.toks) I (.bool _) h)
theorem ar{b:Bool}(h:Φ b cells):oX X A (.bool b) Φ cells:=λv own s I r=>by apply RV.e0 r rfl ?_;exact wpAny_truthy_bool (aw (t:=s.toks) I rfl h)
theorem ES{a:Int}(h:Φ (a != 0) cells):oX X A (.int a) Φ cells:=λv own s I r=>by apply RV.e1 r rfl λZ=>?_;exact truthy_int (aw (t:=s.toks) I rfl h)
theorem mq{xs:List V}(hz:xs.length<=sizeLine)(h:Φ (!xs.isEmpty) cells):oX X A (.list xs) Φ cells:=λv own s I r=>by
 apply RV.ua r λa d vs n sl ho hn hs hi=>?_
 apply wpAny_truthy_list (items:=vs) (bh _ ho rfl n rfl) (by unfold sizeLine at hz;lia) ?_
 apply aw I ?_ h
 show _=_
 cases xs with
 | nil=>simp [eq_empty_of_size_eq_zero hs]
 | cons x r =>
  have:vs≠#[]:=by rintro rfl;simp at hs
  simp [this]
theorem FO(h:Φ false cells):oX X A .none Φ cells:=λv own s I r=>by apply RV.e0 r rfl ?_;exact truthy_none (aw (t:=s.toks) I rfl h)
theorem ET{x:Str}(hz:x.length<=sizeLine)(h:Φ ((x.length:Int) != 0) cells):oX X A (.str x) Φ cells:=λv own s I r=>by
 apply RV.e1 r rfl λZ=>?_;exact PySem.P.truthy_str (by unfold sizeLine at hz;lia) (aw I rfl h)
def jO(v:V):Prop:=match v with | .none=>False | .bi _=>False | .ty _=>False | _=>True
theorem nn{a:V}{v:Value}{own:Own}{h:Heap}(ha:jO a)(r:RV own h v a):plainIs v .none=true/\v≠.none:=by
 cases r <;> first | exact ha.elim | exact ⟨rfl,λq=>by cases q⟩
theorem dJ{a:V}(ha:jO a)(h:Ψ (.bool false) cells):cR X A (compareOp .Is) a .none Ψ cells:=λv u own s I Kt=>aC Kt λr1 r2=>by
 apply RV.e0 r2 rfl ?_
 exact wpAny_is_other (nn ha r1).1 (nn ha r1).2 (aw (t:=s.toks) I (.bool _) h)
theorem iw{a:V}(ha:jO a)(h:Ψ (.bool true) cells):cR X A (compareOp .IsNot) a .none Ψ cells:=λv u own s I Ku=>aC Ku λr1 r2=>by
 apply RV.e0 r2 rfl ?_
 exact wpAny_isNot_other (nn ha r1).1 (nn ha r1).2 (aw (t:=s.toks) I (.bool _) h)
theorem g7(h:Ψ (.bool true) cells):cR X A (compareOp .Is) .none .none Ψ cells:=λv u own s I Kv=>aC Kv λr1 r2=>by
 apply RV.e0 r1 rfl ?_;apply RV.e0 r2 rfl ?_
 exact wpAny_is_self rfl (aw (t:=s.toks) I (.bool _) h)
theorem ix(h:Ψ (.bool false) cells):cR X A (compareOp .IsNot) .none .none Ψ cells:=λv u own s I Kw=>aC Kw λr1 r2=>by
 apply RV.e0 r1 rfl ?_;apply RV.e0 r2 rfl ?_
 exact wpAny_isNot_self rfl (aw (t:=s.toks) I (.bool _) h)
theorem mr{a b:Str}(hz:a.length+b.length<=sizeLine)(h:Ψ (.str (a++b)) cells):cR X A (binaryOp .Add) (.str a) (.str b) Ψ cells:=λv u own s I ⟨r1,r2⟩=>by
 apply RV.e1 r1 rfl λZ=>?_;apply RV.e1 r2 rfl λZ=>?_;exact SB.add (λt k=>aw I (.str _ _) h) hz
theorem FP{a:Str}{n:Int}(AJ:MulOk a n)(h:Ψ (.str (mul a n)) cells):cR X A (binaryOp .Mult) (.str a) (.int n) Ψ cells:=λv u own s I ⟨r1,r2⟩=>by
 apply RV.e1 r1 rfl λZ=>?_;apply RV.e1 r2 rfl λZ=>?_;exact SB.mul AJ (λt k=>aw I (.str _ _) h)
theorem EU{a b:Str}(h:Ψ (.bool (Txt.contains a b)) cells):cR X A (compareOp .In) (.str b) (.str a) Ψ cells:=λv u own s I ⟨r1,r2⟩=>by
 apply RV.e1 r1 rfl λZ=>?_;apply RV.e1 r2 rfl λZ=>?_;exact SB.contains (aw (t:=s.toks) I (.bool _) h)
theorem ui{a b:Str}(h:Ψ (.bool (!Txt.contains a b)) cells):cR X A (compareOp .NotIn) (.str b) (.str a) Ψ cells:=λv u own s I ⟨r1,r2⟩=>by
 apply RV.e1 r1 rfl λZ=>?_;apply RV.e1 r2 rfl λZ=>?_;exact SB.notContains (aw (t:=s.toks) I (.bool _) h)
theorem FQ{xs ys:List V}(hz:xs.length+ys.length<=sizeLine)(h:Ψ (.list (xs++ys)) cells):cR X A (binaryOp .Add) (.list xs) (.list ys) Ψ cells:=λv u own s I Ky=>aC Ky λr1 r2=>by
 (apply aA r1.cN ?_;intro a d vs n sl AL;rw [AL];intro ho hn rs)
 (apply aA r2.cN ?_;intro a2 d2 tZ n2 HO Kz;rw [Kz];intro vR yB og)
 have z1:vs.size=xs.length:=by simpa using rs.1
 have z2:tZ.size=ys.length:=by simpa using og.1
 apply concat_meets (iDPP _ ho rfl) (iDPP _ vR rfl) noFill_list_add seq_list_add PySem.F.slot_list_add PySem.F.entry_list_add (PySem.F.args_list_add_2 _ _) (list_addW a a2 vs tZ n n2 d d2 sl HO (by lia)) ⟨ho,vR,?_⟩
 exact kU I (by rw [toList_append];exact rs.append og) h
end
section
variable {Φ:Bool->Cells->Prop}
def Done(X:Cx)(own:Own)(cells:Cells)(h:Heap)(Ψ:V->Cells->Prop)(v:Value)(s':Shared):Prop:=rm X RV own cells h Ψ v s'
def iY(X:Cx)(A:Around)(a i:V)(Ψ:V->Cells->Prop)(cells:Cells):Prop:=∀ o iv own s,Base X own cells s->RV own s.heap o a->RV own s.heap iv i->ItemOn (model X.prog X.w) A gy o iv (Done X own cells s.heap Ψ) s
theorem m_item{value slice:Expr}{p:Pos}{Ψ:V->Loc->Cells->Prop}(h:mE X A env (eval value env) (K2 X A env slice (iY X A) Ψ) loc cells)(hs:autoParam (∀ o i,subscripted slice false o i=operate [o,i] (getItem o i)) aIU) :
  mE X A env (eval (.Subscript value slice p) env) Ψ loc cells:=λown s I=>by
 apply Subscript_ (h.use I λown1 l1 c1 a o s1 I1 r1 x1 h1=>h1.use I1 λaG l2 c2 i iv s2 I2 r2 x2 h2=>?_)
 apply kba_turn (value':=.Name default default) (λr=>rfl) (tail_of_ItemOn ?_ (hs o iv) (λr=>rfl))
 apply ay (h2 o iv aG s2 I2.base (r1.ext I1 x2) r2) λT id q1 q2 q3=>?_
 exact (aH T id q1 q2 (wpAny_mono q3 (λv s3 ⟨bX,c3,b,B3,r3,x3,p3⟩=>⟨bX,l2,c3,b,⟨B3,I2.ok,I2.fr.ext x3⟩,r3,x1.trans (x2.trans x3.fF),p3⟩) λZ Z e=>e))
set_option tactic.hygienic true in
theorem AM{xs:List V}{k:Int}{j:Nat}{x:V}(FU:-(2 ^ 63)<=k)(FV:k<2 ^ 63)(hj:seqIndex? k xs.length=some j)(hx:xs[j]?=some x)(h:Ψ x cells):iY X A (.list xs) (.int k) Ψ cells:=λo iv own s I ro ri=>by
 apply RV.e1 ri rfl λZ=>?_
 apply RV.ua ro λa d vs n sl ho hn hz hi=>?_
 have uj:j<xs.length:=(List.getElem?_eq_some_iff.mp hx).1
 have hv:vs[j]?=some vs[j]:=Array.getElem?_eq_getElem (Nat.lt_of_lt_of_eq uj (id (Eq.symm hz)))
 have r:=hi j _ x hv hx
 have fin:Done X own cells s.heap Ψ vs[j] s:=⟨own,cells,x,I,r,.refl,h⟩
 have hl:s.heap.IsList a vs:=(bh _ ho rfl n rfl)
 apply (aH ("list") _ slot_list_getitem.lookup hl.typeIs ?_)
 unfold seqIndex? at hj
 by_cases h0:k<0
 ·simp only [h0,if_true] at hj
  split at hj
  ·rename_i q
   obtain ⟨q1,q2⟩:0<=k+↑xs.length/\k+↑xs.length<xs.length:=by simpa using q
   have:=cK hj
   apply wpAny_getItem_list_neg hl h0 (by omega) FU (x:=vs[j]) ?_ fin
   rw [show (k+(vs.size:Int)).toNat=j by lia];exact hv
  ·exact bf hj
 ·simp only [h0,if_false] at hj
  split at hj
  ·have:=cK hj
   exact wpAny_getItem_list hl (not_lt.mp h0) FV (by rw [this];exact hv) fin
  ·exact bf hj
theorem iy{xs:List V}{k:Int}{j:Nat}{x:V}(FU:-(2 ^ 63)<=k)(FV:k<2 ^ 63)(hj:seqIndex? k xs.length=some j)(hx:xs[j]?=some x)(h:Ψ x cells):iY X A (.tuple xs) (.int k) Ψ cells:=λo iv own s I ro ri=>by
 apply RV.e1 ri rfl λZ=>?_
 apply RV.yx ro λa d vs n sl ho hn hz hi=>?_
 have uj:j<xs.length:=(List.getElem?_eq_some_iff.mp hx).1
 have hv:vs[j]?=some vs[j]:=Array.getElem?_eq_getElem (Nat.lt_of_lt_of_eq uj (id (Eq.symm hz)))
 have r:=hi j _ x hv hx
 have hl:IsTup s.heap a vs:=(bh _ ho rfl n rfl)
 exact (aH ("tuple") _ slot_tuple_getitem.lookup hl.typeIs (getItem_tuple hl FU FV (by rw [hz];exact hj) hv ⟨own,cells,x,I,r,.refl,h⟩))
theorem EV{x:Str}{k:Int}{c:Nat}(FU:-(2 ^ 63)<=k)(FV:k<2 ^ 63)(hc:(seqIndex? k x.length).bind (x.cps[·]?)=some c)(h:Ψ (.str ⟨#[c]⟩) cells):iY X A (.str x) (.int k) Ψ cells:=λo iv own s I ro ri=>by
 apply RV.e1 ri rfl λZ=>?_;apply RV.e1 ro rfl λZ=>?_
 exact (aH ("str") _ F.slot_str_getitem.lookup (typeIs_str _ _ _) (getItem_str (by simp;exact And.symm ⟨FV,FU⟩) hc ⟨own,cells,.str ⟨#[c]⟩,I.toks,.str _ _,.refl,h⟩))
def sN(X:Cx)(A:Around)(a:V)(lo hi st:Option Int)(Ψ:V->Cells->Prop)(cells:Cells):Prop:=∀ o vl vu vs own s,Base X own cells s->RV own s.heap o a->IsPart vl lo->IsPart vu hi->IsPart vs st ->
 ItemOn (model X.prog X.w) A gy o (.ref s.heap.objs.size) (Done X own cells s.heap Ψ) {s with heap:=s.heap.push { cls:=.type "slice",data:=.fields #[vl,vu,vs]}}
def RP(_:Own)(_:Heap)(v:Value)(k:Option Int):Prop:=IsPart v k
theorem bB{Ψ:Option Int->Loc->Cells->Prop}(h:Ψ none loc cells):cL X A env RP (evalPart none env) Ψ loc cells:=λown s I=>wpAny_evalPart_none ⟨own,loc,cells,none,I,.none,.refl,h⟩
def HP(Ψ:Option Int->Loc->Cells->Prop)(v:V)(l:Loc)(c:Cells):Prop:=match v with
 | .none=>Ψ none l c
 | .int i=>Ψ (some i) l c
 | _=>False
theorem bC{e:Expr}{Ψ:Option Int->Loc->Cells->Prop}(h:mE X A env (eval e env) (HP Ψ) loc cells):cL X A env RP (evalPart (some e) env) Ψ loc cells:=λown s I=>by
 apply wpAny_evalPart_some (h.use I λown1 l1 c1 a v s1 I1 r1 x1 h1=>?_)
 cases r1 with
 | xk=>exact ⟨own1,l1,c1,none,I1,.none,x1,h1⟩
 | int i t=>exact ⟨own1,l1,c1,some i,I1,.int i t,x1,h1⟩
 | _=>exact h1.elim
abbrev NJ(X:Cx)(A:Around)(env:Env)(step:Option Expr)(Ψ:V->Loc->Cells->Prop)(a:V)(lo hi:Option Int)(l:Loc)(c:Cells):Prop:=cL X A env RP (evalPart step env) (λst l4 c4=>sN X A a lo hi st (λr c=>Ψ r l4 c) c4) l c
abbrev NK(X:Cx)(A:Around)(env:Env)(upper step:Option Expr)(Ψ:V->Loc->Cells->Prop)(a:V)(lo:Option Int)(l:Loc)(c:Cells):Prop:=cL X A env RP (evalPart upper env) (NJ X A env step Ψ a lo) l c
abbrev NL(X:Cx)(A:Around)(env:Env)(lower upper step:Option Expr)(Ψ:V->Loc->Cells->Prop)(a:V)(l:Loc)(c:Cells):Prop:=cL X A env RP (evalPart lower env) (NK X A env upper step Ψ a) l c
theorem cj{value:Expr}{lower upper step:Option Expr}{q p:Pos}{Ψ:V->Loc->Cells->Prop}(h:mE X A env (eval value env) (NL X A env lower upper step Ψ) loc cells) :
  mE X A env (eval (.Subscript value (.Slice lower upper step q) p) env) Ψ loc cells:=λown s I=>by
 have hs:∃ ops:Value->Value->List Value,∀ o i,subscripted (.Slice lower upper step q) false o i=operate (ops o i) (getItem o i):=by
  cases step with
  | none=>exact ⟨λo i=>[i,o],λZ Z=>rfl⟩
  | some e=>exact ⟨λo i=>[o,i],λZ Z=>rfl⟩
 apply Subscript_ (h.use I λown1 l1 c1 a o s1 I1 r1 x1 h1=>wpAny_Slice (h1.use I1 λaG l2 c2 lo vl s2 I2 r2 x2 h2=>h2.use I2 λbX l3 c3 hi vu s3 I3 r3 x3 h3=>h3.use I3 λeh l4 c4 st vs s4 I4 r4 x4 h4=>?_))
 apply kba_turn (value':=.Name default default) (λr=>rfl) (tail_of_ItemOn ?_ (hs.choose_spec o (.ref s4.heap.objs.size)) (λr=>rfl))
 (apply ay (h4 o vl vu vs eh s4 I4.base (((r1.ext I1 x2).ext I2 x3).ext I3 x4) r2 r3 r4) ?_;intro T id q1 q2 q3)
 exact (aH T id q1 q2 (wpAny_mono q3 (λv s5 ⟨vP,c5,b,B5,r5,x5,p5⟩=>⟨vP,l4,c5,b,⟨B5,I4.ok,I4.fr.ext x5⟩,r5,x1.trans (x2.trans (x3.trans (x4.trans x5.fF))),p5⟩) λZ Z e=>e))
noncomputable def iZ (xs:List V) (lo hi st:Option Int):List V:=(sliceRange (sliceBounds lo hi st xs.length).1 (sliceBounds lo hi st xs.length).2.1 (sliceBounds lo hi st xs.length).2.2).filterMap (xs[·]?)
theorem uk{vs:Array Value}{xs:List V}{lo hi st:Option Int}(r:bV own s.heap vs.toList xs):bV own s.heap (slicePick vs lo hi st).toList (iZ xs lo hi st):=by
 have z:vs.size=xs.length:=by simpa using r.1
 unfold slicePick iZ
 rw [z]
 generalize sliceRange _ _ _=L
 show bV own s.heap (L.filterMap (vs[·]?)) _
 induction L with
 | nil=>exact .nil
 | cons j L ih =>
  rw [List.filterMap_cons,List.filterMap_cons]
  by_cases hj:j<xs.length
  ·have e1:vs[j]?=some vs[j]:=Array.getElem?_eq_getElem (Nat.lt_of_lt_of_eq hj (id (Eq.symm z)))
   have e2:xs[j]?=some xs[j]:=getElem?_eq_getElem hj
   rw [e1,e2]
   exact .cons (r.2 j _ _ (by simpa using e1) e2) ih
  ·rw [Array.getElem?_eq_none (by lia),getElem?_eq_none (le_of_not_lt hj)]
   exact ih
theorem sO{xs:List V}{lo hi st:Option Int}(h0:st≠some 0)(hz:xs.length<=sizeLine)(h:Ψ (.list (iZ xs lo hi st)) cells):sN X A (.list xs) lo hi st Ψ cells:=λo vl vu vk own s I r p1 p2 p3=>by
 (apply aA r.cN ?_;intro a d vs n sl dH;subst dH;intro ho hn rs)
 have hl:(s.heap.push { cls:=.type "slice",data:=.fields #[vl,vu,vk]}).IsList a vs:=(bh _ (get?_push_of_some _ ho) rfl n rfl)
 apply (aH ("list") _ slot_list_getitem.lookup hl.typeIs (wpAny_getItem_list_slice hl (Heap.IsSliceOf.new _ _ _ _) p1 p2 p3 h0 ?_ (by have:=rs.1;simp at this;lia)))
 have kp:∀ b o,s.heap.get? b=some o->(s.heap.push { cls:=.type "slice",data:=.fields #[vl,vu,vk]}).get? b=some o:=λb o e=>get?_push_of_some _ e
 have I2:Base X own cells {s with heap:=s.heap.push { cls:=.type "slice",data:=.fields #[vl,vu,vk]}}:=I.keeps kp
 obtain ⟨own',c',b,B,rr,xx,pp⟩:=kU (Ψ:=Ψ) (t:=s.toks) (vs:=slicePick vs lo hi st) (xs:=iZ xs lo hi st) I2 ((uk rs).mono λZ Z q=>q.keeps kp) h
 exact ⟨own',c',b,B,rr,Ext.trans (.of_keeps kp) xx,pp⟩
theorem eF{x:Str}{lo hi:Option Int}(hz:x.length<=sizeLine)(h:Ψ (.str (Txt.slice x lo hi)) cells):sN X A (.str x) lo hi none Ψ cells:=λo vl vu vk own s I r p1 p2 p3=>by
 apply RV.e1 r rfl λZ=>?_
 cases p3
 have kk:KeptH (λh=>∀ b o,s.heap.get? b=some o->h.get? b=some o):=λh ob k b o e=>get?_push_of_some _ (k b o e)
 have fin:∀ y h' t k,(∀ b o,s.heap.get? b=some o->h'.get? b=some o)->Ψ (.str y) cells->Done X own cells s.heap Ψ (.str y t) {s with heap:=h',toks:=k}:=λy h' t k kp q=>mb_end (b:=.str y) I rfl kp (.str _ _) q
 cases p1 <;> cases p2
 ·exact SBH.sliceItem_nn kk (λZ Z e=>e) (λh' t' k kp=>fin _ h' t' k kp h) hz
 ·exact SBH.sliceItem_ns kk (λZ Z e=>e) (λh' t' k kp=>fin _ h' t' k kp h) hz
 ·exact SBH.sliceItem_sn kk (λZ Z e=>e) (λh' t' k kp=>fin _ h' t' k kp h) hz
 ·exact SBH.sliceItem_ss kk (λZ Z e=>e) (λh' t' k kp=>fin _ h' t' k kp h) hz
theorem mu{elts:List Expr}{p:Pos}{Ψ:V->Loc->Cells->Prop}(h:yy X A env (spliced (backTo p (starEach elts env))) (λvs l c=>vs.length<=sizeLine/\Ψ (.list vs) l c) loc cells):mE X A env (eval (.List elts p) env) Ψ loc cells:=λown s I =>
 wpAny_List (h.use I λown1 l1 c1 xs vs s1 I1 r1 x1 h1=>⟨by rw [r1.1];exact h1.1,by
  obtain ⟨own',c',b,B,rr,xx,pp⟩:=kU (Ψ:=λr c=>Ψ r l1 c) (t:=s1.toks) (vs:=vs.toArray) (xs:=xs) I1.base (by simpa using r1) h1.2
  exact ⟨own',l1,c',b,⟨B,I1.ok,I1.fr.ext xx⟩,rr,x1.trans xx.fF,pp⟩⟩)
theorem cZ{elts:List Expr}{k:Nat}{p:Pos}{Ψ:V->Loc->Cells->Prop}(h:yy X A env (spliced (backTo p (starEach elts env))) (λvs l c=>vs.length<=sizeLine/\Ψ (.tuple vs) l c) loc cells):mE X A env (eval (.Tuple elts k p) env) Ψ loc cells:=λown s I =>
 wpAny_Tuple (h.use I λown1 l1 c1 xs vs s1 I1 r1 x1 h1=>⟨by rw [r1.1];exact h1.1,by
  obtain ⟨own',c',b,B,rr,xx,pp⟩:=rD (Ψ:=λr c=>Ψ r l1 c) (t:=s1.toks) (vs:=vs.toArray) (xs:=xs) I1.base (by simpa using r1) h1.2
  exact ⟨own',l1,c',b,⟨B,I1.ok,I1.fr.ext xx⟩,rr,x1.trans xx.fF,pp⟩⟩)
end
section
variable {Φ:Bool->Cells->Prop}
noncomputable def Iz (ns:List Int):List V:=ns.map V.int
theorem fW{h:Heap}:∀ {ns:List Int} {vs:List Value},bV own h vs (Iz ns)->IntsAre vs ns
 | [],vs,r=>by rw [r.rh];exact .nil
 | n::ns,vs,r=>by
  (apply ay (bV.cW r) ?_;intro v je cI;rw [cI];intro a b)
  cases a
  exact .cons _ _ (fW b)
theorem um{h:Heap}{vs:List Value}{ns:List Int}(hi:IntsAre vs ns):bV own h vs (Iz ns):=by
 induction hi with
 | nil=>exact .nil
 | cons n t _ ih=>exact .cons (.int n t) ih
theorem vS{h:Heap}{vs:Array Value}{ns:List Int}(r:bV own h vs.toList (Iz ns)):∃ xs:Array (Int×Tok),vs=intItems xs/\xs.toList.map (·.1)=ns:=by
 have hi:=fW r
 apply bw hi.allInts.items λxs e=>?_
 have e':vs=intItems xs:=by rw [<- e]
 apply (iDPP xs e' ?_)
 rw [<- nums_intItems,<- e'];exact hi.numsOf
theorem c8{xs:List V}(hz:xs.length<=sizeLine)(h:Ψ (.int xs.length) cells):aD X A (.bi "len") [.list xs] Ψ cells:=λfv vs own s I KD=>aC KD λrf r=>by
 apply RV.e0 rf rfl ?_
 (apply aj r.one ?_;intro v dH;rw [dH];intro r1)
 (apply aA r1.cN ?_;intro a d vs n sl eC;rw [eC];intro ho hn rs)
 have z:vs.size=xs.length:=by simpa using rs.1
 apply Calls.call_len_list (items:=vs) (bh _ ho rfl n rfl) (by unfold sizeLine at hz;lia) ?_
 rw [z]
 exact aw I (.int _ _) h
theorem nv{xs:List V}(hz:xs.length<=sizeLine)(h:Ψ (.int xs.length) cells):aD X A (.bi "len") [.tuple xs] Ψ cells:=λfv vs own s I KG=>aC KG λrf r=>by
 apply RV.e0 rf rfl ?_
 (apply aj r.one ?_;intro v fR;rw [fR];intro r1)
 (apply aA r1.gC ?_;intro a d vs n sl rz;rw [rz];intro ho hn rs)
 have z:vs.size=xs.length:=by simpa using rs.1
 apply PyProof.Rows.len_tuple (items:=vs) (bh _ ho rfl n rfl) (by unfold sizeLine at hz;lia) ?_
 rw [z]
 exact aw I (.int _ _) h
theorem g8{x:Str}(hz:x.length<=sizeLine)(h:Ψ (.int x.length) cells):aD X A (.bi "len") [.str x] Ψ cells:=λfv vs own s I ⟨rf,r⟩=>by
 apply RV.e0 rf rfl ?_
 (apply aj r.one ?_;intro v rA;rw [rA];intro r1)
 apply RV.e1 r1 rfl λZ=>?_
 exact PyProof.Rows.len_str (by unfold sizeLine at hz;lia) (aw I (.int _ _) h)
theorem EW{ns:List Int}(hh:A.handled=none)(h:Ψ (.int ns.sum) cells):aD X A (.bi "sum") [.list (Iz ns)] Ψ cells:=λfv vs own s I KH=>aC KH λrf r=>by
 apply RV.e0 rf rfl ?_
 (apply aj r.one ?_;intro v kS;rw [kS];intro r1)
 (apply aA r1.cN ?_;intro a d vs n sl sP;rw [sP];intro ho hn rs)
 (apply aj (vS rs) ?_;intro xs kP;subst kP;intro e)
 apply sum_intListG hh ⟨_,ho,rfl,n,rfl⟩ λh' tk t' kp=>?_
 rw [preSum_eq,take_of_length_le (by simp),e]
 exact mb_end I rfl kp (.int _ _) h
theorem FW{a b:Int}(hh:A.handled=none)(h:Ψ (.int (if b<a then b else a)) cells):aD X A (.bi "min") [.int a,.int b] Ψ cells:=λfv vs own s I ⟨rf,r⟩=>by
 apply RV.e0 rf rfl ?_
 (apply ay r.two ?_;intro v u yG;rw [yG];intro r1 r2)
 apply RV.e1 r1 rfl λZ=>?_;apply RV.e1 r2 rfl λZ=>?_
 apply min_two_ints hh λh' tk kp=>?_
 split
 ·rename_i q;rw [if_pos q] at h;exact mb_end I rfl kp (.int _ _) h
 ·rename_i q;rw [if_neg q] at h;exact mb_end I rfl kp (.int _ _) h
theorem vT{a b c:Int}{n:Nat}(hh:A.handled=none)(xu:Builtin.Range.small a b c=true)(hn:rangeSize a b c=n)(hlen:n<=2 ^ 24)(h:Ψ (.list (aQ a c n)) cells):aD X A (.ty "list") [.q9 a b c] Ψ cells:=λfv vs own s I KJ=>aC KJ λrf r=>by
 apply RV.e0 rf rfl ?_
 (apply aj r.one ?_;intro v KN;rw [KN];intro r1)
 apply RV.Dd r1 λr0 t0 u0 w0 ho KO=>?_
 apply call_list_range hh ho xu hn hlen λh' tk acc c' kp e it=>?_
 apply mb_end (b:=.list (aQ a c n)) I rfl kp ?_ h
 apply .list e (I.fresh (ak _)).1 ?_ ?_
 ·rw [it.1];simp [aQ]
 ·intro i v x p q
  (apply bw (it.2 i v p) ?_;intro t KP;rw [KP])
  have:i<n:=by have:=(Array.getElem?_eq_some_iff.mp p).1;rw [it.1] at this;exact this
  simp only [aQ,getElem?_map,getElem?_range this,map_some,Option.some.injEq] at q
  rw [<- q]
  exact .int _ _
end
section
variable {own own':Own}{s:Shared}{h':Heap}{Ψ:V->Cells->Prop}{Φ:Bool->Cells->Prop}
theorem cz{elts:List Expr}{p:Pos}{Ψ:V->Loc->Cells->Prop}(h:yy X A env (spliced (backTo p (starEach elts env))) (λvs l c=>vs.length<=sizeLine/\∀ a,c a=none->Ψ (.ref a) l (upd c a (some (.list vs)))) loc cells) :
  mE X A env (eval (.List elts p) env) Ψ loc cells:=λown s I =>
 wpAny_List (h.use I λown1 l1 c1 xs vs s1 I1 r1 x1 h1=>⟨by rw [r1.1];exact h1.1,by
  have e0:=ak s1.heap
  have kp:∀ b o,s1.heap.get? b=some o->(s1.heap.push { cls:=.type "list",data:=.seq vs.toArray}).get? b=some o:=λb o e=>get?_push_of_some _ e
  (apply bq (I1.base.jN (t:=s1.toks) (ob:={ cls:=.type "list",data:=.seq vs.toArray}) (c':=.list xs) rfl (ez vs.toArray 0 (get?_push_size _ rfl) (by simpa using r1.mono λv x r=>xr e0 kp r))) ?_;intro B x n)
  exact ⟨_,l1,_,.ref _,⟨B,I1.ok,I1.fr.ext x⟩,.ref _,x1.trans x.fF,h1.2 _ n⟩⟩)
def RM(own:Own)(h:Heap)(p:Value×List Value)(q:V×List V):Prop:=RV own h p.1 q.1/\bV own h p.2 q.2
def jl(X:Cx)(A:Around)(a:V)(name:Str)(Θ:V->List V->Cells->Prop)(cells:Cells):Prop:=∀ v pl,mb X A RM (λown h=>RV own h v a) (getMethod v name pl) (λq c=>Θ q.1 q.2 c) cells
theorem vU{own:Own}{h₀:Heap}{f:V}{fv:Value}(hk:Keeps X f)(r:RV own h₀ fv f)(h:Heap)(Y:X.K.In h):∃ k,(k=Keeper.frame\/k=machine\/k=Keeper.boundFrame)/\Looks (model X.prog X.w) h (keeperOf fv) k:=by
 cases r with
 | bi id=>exact (iDPP _ (.inr (.inl rfl)) Looks.now)
 | ty n=>exact (iDPP _ (.inr (.inl rfl)) Looks.now)
 | ref a=>exact PySem.W.keeps_K hk h Y
 | _=>exact hk.elim
theorem eW{own:Own}{s:Shared}{f:V}{fv:Value}{first:List Value}{pos:Pos}{args:List (Bool×Sem Value)}{Q:Value->Shared->Prop}{E:Value->Shared->Prop}(hk:Keeps X f)(r:RV own s.heap fv f)(h:wpAny (model X.prog X.w) A (spliced args) (λvs s₁=>X.K.In s₁.heap/\wpAny (model X.prog X.w) A (call fv (first++vs)) Q E s₁) E s)(dR:args.any (·.1)=false) :
  wpAny (model X.prog X.w) A (callWith pos fv first args []) Q E s:=by
 apply PySem.W.callWith_of (P:=X.K.In) (by rw [dR];rfl) (λh Y=>vU hk r h Y) ?_
 cases args with
 | nil =>
  have h':wpAny (model X.prog X.w) A (pure []:Sem (List Value)) (λvs s₁=>X.K.In s₁.heap/\wpAny (model X.prog X.w) A (call fv (first++vs)) Q E s₁) E s:=h
  exact nt h' λq=>PyProof.Rows.evalArgs_nil3 q
 | cons x rest =>
  obtain ⟨b,x⟩:=x
  cases b with
  | true=>simp at dR
  | false=>exact evalArgs_plain h
abbrev NM(X:Cx)(A:Around)(f:V)(first:List V)(Ψ:V->Loc->Cells->Prop)(as:List V)(l:Loc)(c:Cells):Prop:=aD X A f (first++as) (λr c3=>Ψ r l c3) c
abbrev NN(X:Cx)(A:Around)(env:Env)(pos:Pos)(args:List Expr)(Ψ:V->Loc->Cells->Prop)(l:Loc)(f:V)(first:List V)(c:Cells):Prop:=Keeps X f/\yy X A env (spliced (backTo pos (starEach args env))) (NM X A f first Ψ) l c
abbrev KM(X:Cx)(A:Around)(env:Env)(name:Str)(pos:Pos)(args:List Expr)(Ψ:V->Loc->Cells->Prop)(ov:V)(l:Loc)(c:Cells):Prop:=jl X A ov name (NN X A env pos args Ψ l) c
theorem aI{o:Expr}{name:Str}{apos pos:Pos}{args:List Expr}{pl:Sem Bool}{Ψ:V->Loc->Cells->Prop}(h:mE X A env (eval o env) (KM X A env name pos args Ψ) loc cells)(dR:autoParam ((backTo pos (starEach args env)).any (·.1)=false) aR)(he:autoParam (eval (.Call (.Attribute o name apos) args [] pos) env=(do let ov <- eval o env;standAt apos.atName;let (f,first) <- holding [ov] (getMethod ov name pl);callWith pos f first (backTo pos (starEach args env)) [])) aR) :
  mE X A env (eval (.Call (.Attribute o name apos) args [] pos) env) Ψ loc cells:=λown s I=>by
 apply MethodCall_ (pl:=pl) (h.use I λown1 l1 c1 ov v1 s1 I1 r1 x1 h1=>?_) he
 apply (h1 v1 pl).lY I1 r1 λaG c2 q fx s2 I2 r2 x2 kS=>aC kS λhk h2=>?_
 obtain ⟨f,first⟩:=q
 obtain ⟨fv,fs⟩:=fx
 apply aC r2 λra rb=>?_
 apply eW hk ra (h2.use I2 λbX l3 c3 as vs s3 I3 r3 x3 h3=>⟨I3.base.K,?_⟩) dR
 apply (h3 fv (fs++vs)).lY I3 ⟨ra.ext I2 x3,(rb.ext I2 x3).append r3⟩ λeh c4 b v4 s4 I4 r4 x4 h4=>⟨eh,l3,c4,b,I4,r4,x1.trans (x2.trans (x3.trans x4)),h4⟩
theorem fT{a:V}{T:String}{name:Str}{id:String}{Θ:V->List V->Cells->Prop}(pa:PlainAttrs T)(slot:Slot T name id)(AN:typeOf (.builtin id)=pure (.type "method_descriptor"))(hT:∀ own s v,Base X own cells s->RV own s.heap v a->s.TypeIs v T/\∀ a,v=.ref a->∃ o,s.heap.get? a=some o/\o.dict=none)(h:Θ (.bi id) [a] cells):jl X A a name Θ cells:=λv pl own s I r =>
 getMethod_builtin (hT own s v I r).1 pa slot AN (hT own s v I r).2 ⟨own,cells,(.bi id,[a]),I,⟨.bi id,.cons r .nil⟩,.refl,h⟩
theorem eG{a:Addr}{xs:List V}{name:Str}{id:String}{Θ:V->List V->Cells->Prop}(hc:cells a=some (.list xs))(slot:Slot "list" name id)(AN:typeOf (.builtin id)=pure (.type "method_descriptor"))(h:Θ (.bi id) [.ref a] cells):jl X A (.ref a) name Θ cells :=
 fT (T:="list") PySem.F.plainAttrs_list slot AN (λown s v I r=>by
  apply RV.e0 r rfl ?_
  obtain ⟨oa,vs,n,e,rs⟩:=I.cell a _ hc
  exact ⟨⟨_,e,rfl⟩,λb q=>by cases q;exact (iDPP _ e rfl)⟩) h
theorem pj{x:Str}{name:Str}{id:String}{Θ:V->List V->Cells->Prop}(slot:Slot "str" name id)(AN:typeOf (.builtin id)=pure (.type "method_descriptor"))(h:Θ (.bi id) [.str x] cells):jl X A (.str x) name Θ cells :=
 fT (T:="str") PySem.F.plainAttrs_str slot AN (λown s v I r=>by
  apply RV.e1 r rfl λZ=>?_
  exact ⟨typeIs_str _ _ _,λb q=>by cases q⟩) h
end
noncomputable def HQ:Stmt->List Stmt×List Stmt×Arguments×Scope×Str
 | .FunctionDef n a b _ _ _ s ..=>(b,[],a,s,n)
 | .ClassDef _ _ _ b ..=>(b,[],default,default,default)
 | .For _ _ b ..=>(b,[],default,default,default)
 | .While _ b ..=>(b,[],default,default,default)
 | .If _ b o _=>(b,o,default,default,default)
 | _=>([],[],default,default,default)
noncomputable def aF (s:Stmt):List Stmt:=(HQ s).1
noncomputable def rF (s:Stmt):List Stmt:=(HQ s).2.1
noncomputable def bz (s:Stmt):Arguments:=(HQ s).2.2.1
noncomputable def ai (s:Stmt):Scope:=(HQ s).2.2.2.1
noncomputable def fnName (s:Stmt):Str:=(HQ s).2.2.2.2
def eR(K:PySem.W.Frag)(a:Addr)(qual:Str)(s:Stmt):Prop:=∃ doc pm an cdv ct,FnAt K a (fnName s) qual (bz s) (aF s) (ai s) .none .none doc pm an cdv ct
abbrev Fn(X:Cx)(a:Addr)(qual:Str)(s:Stmt):Prop:=eR X.K a qual s
def Sub(l0 l:Loc):Prop:=∀ x v,l0.lookup x=some v->l.lookup x=some v
theorem Sub.rfl{l:Loc}:Sub l l:=λZ Z e=>e
theorem Sub.cons{l0 l:Loc}{x:Str}{v:V}(h:Sub l0 l):Sub ((x,v)::l0) ((x,v)::l):=λy u e=>by
 rw [lookup_cons] at e ⊢
 split at e
 ·rename_i q;rw [if_pos q];exact e
 ·rename_i q;rw [if_neg q];exact h y u e
theorem Sub.nil{l:Loc}:Sub [] l:=λZ Z e=>by simp at e
theorem Sub.of{l0 l:Loc}(h:subs l0 l):Sub l0 l:=nq h
theorem Sub.put{l0 l:Loc}{x:Str}{v:V}(hx:l.lookup x=some v)(h:Sub l0 l):Sub ((x,v)::l0) l:=λy u e=>by
 rw [lookup_cons] at e
 split at e
 ·rename_i q;have:=eq_of_beq q;rw [this];cases e;exact hx
 ·exact h y u e
section
variable {Ψ:V->Cells->Prop}
theorem cL.le{α β:Type}{R:Own->Heap->α->β->Prop}{t:Sem α}{Ψ:β->Loc->Cells->Prop}{l0:Loc}(h:Sub l0 loc)(H:cL X A env R t Ψ l0 cells):cL X A env R t Ψ loc cells :=
 λown s I=>H own s (I.sub h)
theorem Sub.nu{x y:Str}{v:V}(hv:IsPair v){l l':Loc}(h:Sub l l'):Sub (nu x y v l) (nu x y v l'):=by
 (apply ij hv ?_;try clear hv;intro a b aM;rw [aM])
 exact Sub.cons (Sub.cons h)
theorem mw{a b c:Int}{t u v:Tok}{own:Own}{s:Shared}{k:Nat}(I:Base X own cells s)(h:Ψ (.q9 a b c) cells) :
  Done X own cells s.heap Ψ (.ref s.heap.objs.size) {s with heap:=s.heap.push { cls:=.type "range",data:=.fields #[.int a t,.int b u,.int c v]},toks:=k} :=
 mb_end (b:=.q9 a b c) I rfl (λb o e=>get?_push_of_some _ e) (.q9 (get?_push_size _ rfl) (I.fresh (ak _)).1) h
theorem fX{n:Int}(h:Ψ (.q9 0 n 1) cells):aD X A (.ty "range") [.int n] Ψ cells:=λfv vs own s I ⟨rf,r⟩=>by
 apply RV.e0 rf rfl ?_
 (apply aj r.one ?_;intro v bk;rw [bk];intro r1)
 apply RV.e1 r1 rfl λZ=>?_
 exact call_range_1 (mw I h)
theorem pk{a b:Int}(h:Ψ (.q9 a b 1) cells):aD X A (.ty "range") [.int a,.int b] Ψ cells:=λfv vs own s I ⟨rf,r⟩=>by
 apply RV.e0 rf rfl ?_
 (apply ay r.two ?_;intro v u cI;rw [cI];intro r1 r2)
 apply RV.e1 r1 rfl λZ=>?_;apply RV.e1 r2 rfl λZ=>?_
 exact call_range_2 (mw I h)
theorem AO{a b c:Int}(hc:c≠0)(hp:Builtin.divisionGoesByPylong (b - a) c=false)(h:Ψ (.q9 a b c) cells):aD X A (.ty "range") [.int a,.int b,.int c] Ψ cells:=λfv vs own s I ⟨rf,r⟩=>by
 apply RV.e0 rf rfl ?_
 (apply ay r.cW ?_;intro v je fR;rw [fR];intro r1 r)
 (apply ay r.two ?_;intro u w rz;rw [rz];intro r2 r3)
 apply RV.e1 r1 rfl λZ=>?_;apply RV.e1 r2 rfl λZ=>?_;apply RV.e1 r3 rfl λZ=>?_
 exact call_range_3 hc (mw I h) (.inl hp)
theorem nx:∀ {ifs:List Expr} {Ψ Ψ':Bool->Loc->Cells->Prop} {loc:Loc} {cells:Cells},(∀ b l c,Ψ b l c->Ψ' b l c)->fz X A env ifs Ψ loc cells->fz X A env ifs Ψ' loc cells
 | [],_,_,_,_,h,H=>h _ _ _ H
 | e::r,_,_,_,_,h,H=>cL.mono H λok l c q=>by
  by_cases hk:ok=true
  ·rw [if_pos hk] at q ⊢;exact nx h q
  ·rw [if_neg hk] at q ⊢;exact h _ _ _ q
theorem bD{bind:V->Loc->Loc}{ifs:List Expr}{elt:Expr}{scope:Scope}{items:List V}{bG lc:Loc}{c2:Cells}{Ψ:V->Cells->Prop}(p:V->Bool)(f:V->V)(hlen:items.length<=sizeLine)(hl:fi scope bG=lc)(turn:∀ L cs (i:Nat) v,items[i]?=some v->fz X A (compEnv scope env L cs) ifs (λok l c=>l=bind v lc/\c=c2/\ok=p v/\(ok=true->mE X A (compEnv scope env L cs) (eval elt (compEnv scope env L cs)) (λr l' c'=>r=f v/\l'=bind v lc/\c'=c2) (bind v lc) c2)) (bind v lc) c2)(h:Ψ (.list ((items.filter p).map f)) c2):g6 X A env bind ifs elt scope items bG c2 Ψ:=by
 apply ⟨hlen,(λi acc c=>i<=items.length/\acc=((items.take i).filter p).map f/\c=c2),(⟨zero_le _,by simp,rfl⟩),(λi acc c yH=>bq yH λq1 q2 Z=>?_),(λL cs i v acc c hv Dm=>bq Dm λq1 q2 q3=>?_),(λxs c yK=>bq yK λZ q2 q3=>?_)⟩
 ·rw [q2,length_map]
  exact le_trans (length_filter_le _ _) (by simp;exact min_le_left i items.length)
 ·subst q2 q3 hl
  have hi:i<items.length:=(List.getElem?_eq_some_iff.mp hv).1
  have e:items.take (i+1)=items.take i++[v]:=by rw [take_add_one,hv];rfl
  apply nx ?_ (turn L cs i v hv)
  (intro ok l c sP;apply dj sP ?_;clear sP;intro kP;rw [kP];intro uc;rw [uc];intro sC;rw [sC];intro h)
  by_cases hp:p v=true
  ·rw [if_pos hp]
   apply (h hp).mono λr l' c' yL=>bq yL λr1 r2 r3=>(aX r2 (succ_le_of_lt hi) ?_ r3)
   rw [e,filter_append,map_append,r1]
   simp [hp]
  ·rw [if_neg hp]
   apply (aX rfl (succ_le_of_lt hi) ?_ rfl)
   rw [e,filter_append,map_append]
   simp [hp]
 ·subst q2 q3
  rw [take_length];exact h
abbrev HR(X:Cx)(A:Around)(env:Env)(target:Expr)(body:List Stmt)(bind:V->Loc->Loc)(Ψ:MF->Loc->Cells->Prop)(items:List V)(l:Loc)(c:Cells):Prop :=
 ∃ (Li:Nat->Loc) (Ci:Nat->Cells->Prop),(Sub (Li 0) l/\Ci 0 c)/\(∀ v∈items,sF X A env target v (bind v))/\(∀ v∈items,∀ l l',Sub l l'->Sub (bind v l) (bind v l')) /\
   (∀ i v c,items[i]?=some v->Ci i c->mS X A env (execs body env) (mi (λl c=>Sub (Li (i+1)) l/\Ci (i+1) c) Ψ) (bind v (Li i)) c)/\∀ l c,Sub (Li items.length) l->Ci items.length c->Ψ .next l c
theorem dC{target:Expr}{p:Pos}{iter:Expr}{body:List Stmt}{bind:V->Loc->Loc}{Ψ:MF->Loc->Cells->Prop}(h:iW X A env target iter (HR X A env target body bind Ψ) loc cells)(hs:autoParam (∀ x,foldedSetIterable iter env x=pure x) aIR):mS X A env (exec (.For target iter body [] p) env) Ψ loc cells:=by
 apply HK (bind:=bind) ?_ hs
 intro own s I
 apply wpAny_mono (h own s I) (λxv s1 h1=>wpAny_mono h1 (λit s2 yM=>nX yM λown' gq cells' items I' x' S Li Ci j0 ha hb turn done =>
  ⟨own',gq,cells',items,I',x',S,(λi l c=>Sub (Li i) l/\Ci i c),j0,ha,(λi v l c hv Dn=>aC Dn λhl hc=>cL.le (hb v (mem_of_getElem? hv) _ _ hl) (turn i v c hv hc)),(λl c Dp=>aC Dp λhl hc=>done l c hl hc)⟩) λZ Z e=>e) λZ Z e=>e
theorem dm{k:Nat}{a:Addr}{qual:Str}{st:Stmt}{names:List Str}{as:List V}{Ψ:V->Cells->Prop}(F:Fn X a qual st)(hA:Rm X A (k+1))(hb:∀ doc pm an cdv ct,∀ vs:List Value,vs.length=as.length->bindArgs (fnOf (fnName st) qual (bz st) (aF st) (ai st) .none .none doc pm an cdv ct) ⟨vs,[]⟩=pure (names.zip vs))(h:∀ L cdv A',Rm (X.push L) A' k->mS (X.push L) A' (bY qual (ai st) L a cdv) (execs (aF st) (bY qual (ai st) L a cdv)) (Back Ψ) (names.zip as) cells)(cq:autoParam ((ai st).kind=.function) aR)(qJ:autoParam ((ai st).isCoroutine=false) aR)(mf:autoParam ((ai st).isGenerator=false) aR)(ji:autoParam (names.Nodup) aDK)(fh:autoParam ((ai st).names.all (λx=>x.2 != .free)=true) aDK)(jj:autoParam (names.all (λx=>(ai st).names.lookup x == some .local||(ai st).names.lookup x == some .cell)=true) aDK) :
  aD X A (.ref a) as Ψ cells:=by
 obtain ⟨doc,pm,an,cdv,ct,F⟩:=F
 exact g4 F hA (hb doc pm an cdv ct) (λL=>h L cdv _ (hA.deeper _ (by show (ai st).kind≠_;rw [cq];decide) rfl)) cq qJ mf ji fh jj
noncomputable def nats (n:Nat):List V:=(List.range n).map λ(j:Nat)=>V.int j
theorem uo{x:Str}{p:Pos}{n:Nat}(hh:A.handled=none)(hn:n<=1000000):rq X A (.Name x p) (.q9 0 n 1) (nats n) cells:=by
 have e:rangeSize 0 n 1=n:=by rw [rangeSize_one];split <;> lia
 have h:=pb (X:=X) (A:=A) (cells:=cells) (x:=x) (p:=p) (a:=0) (b:=n) (c:=1) hh (by unfold Builtin.Range.small;rw [e];simp [rangeFitsLong];lia) (by rw [e];exact natCast_nonneg n)
 rw [e] at h
 have e2:aQ 0 1 (n:Int).toNat=nats n:=by simp [aQ,nats]
 rwa [e2] at h
noncomputable def downs (n:Nat):List V:=(List.range n).map λ(j:Nat)=>V.int ((n:Int) - 1 - j)
theorem cT(n:Nat):(nats n).length=n:=by simp [nats]
theorem fY{n i:Nat}{v:V}(h:(nats n)[i]?=some v):i<n/\v=.int i:=by
 unfold nats at h
 rw [getElem?_map,map_eq_some_iff] at h
 apply aj h λj h1 h2=>?_
 obtain ⟨h3,h4⟩:=List.getElem?_eq_some_iff.mp h1
 simp at h3 h4
 subst h4
 exact ⟨h3,h2.symm⟩
theorem iz{ns:List Int}{i:Nat}{v:V}(h:(Iz ns)[i]?=some v):∃ m,ns[i]?=some m/\v=.int m:=by
 unfold Iz at h
 rw [getElem?_map,map_eq_some_iff] at h
 apply aj h λm h1 h2=>?_
 exact (iDPP m h1 h2.symm)
theorem ax(ns:List Int):(Iz ns).length=ns.length:=by exact Eq.symm (len_of_map_eq rfl)
theorem kj{e:Expr}{Ψ:Bool->Loc->Cells->Prop}(h:mT X A env (isTrue e env (eval e env)) Ψ loc cells):fz X A env [e] Ψ loc cells:=h.mono λok l c q=>by
 cases ok <;> simpa [fz] using q
theorem iA{Ψ:Bool->Loc->Cells->Prop}(h:Ψ true loc cells):fz X A env [] Ψ loc cells:=h
theorem kX{j n:Nat}(h:j<n):seqIndex? (j:Int) n=some j:=by
 unfold seqIndex?
 rw [if_neg (not_lt.mpr (natCast_nonneg j))]
 show (if (decide (0<=(j:Int))&&decide ((j:Int)<(n:Int)))=true then some j else none)=some j
 rw [decide_eq_true (natCast_nonneg j),decide_eq_true (ofNat_lt.mpr h)]
 rfl
theorem pn{n:Nat}:seqIndex? (-1) (n+1)=some n:=by
 unfold seqIndex?
 simp
 lia
theorem dN{xs:List V}{j:Nat}{x:V}(hx:xs[j]?=some x)(hz:xs.length<=1000000)(h:Ψ x cells):iY X A (.list xs) (.int j) Ψ cells:=by
 have hj:j<xs.length:=(List.getElem?_eq_some_iff.mp hx).1
 apply AM (Int.neg_ofNat_le_natCast (2 ^ 63) j) (by lia) (j:=j) (kX hj) hx h
theorem pq{α:Type}(xs:List α)(a:Nat):∀ k,(List.range k).filterMap (λj=>xs[a+j]?)=(xs.drop a).take k
 | 0=>by exact List.toList_toArray
 | k+1=>by
  rw [List.range_succ,List.filterMap_append,pq xs a k,take_add_one,List.getElem?_drop]
  rw [List.filterMap_cons,List.filterMap_nil]
  cases xs[a+k]? <;> rfl
theorem j3{α:Type}(xs:List α)(a b:Nat):(sliceRange a b 1).filterMap (xs[·]?)=(xs.drop a).take (b - a):=by
 have:sliceRange a b 1=(List.range (b - a)).map (λj=>a+j):=by
  unfold sliceRange
  have e:(if (1:Int) > 0 then (if (a:Int)<b then ((b:Int) - a+1 - 1) / 1 else 0) else (if (a:Int) > b then ((a:Int) - b - 1 - 1) / (-1) else 0)).toNat=b - a:=by
   rw [if_pos (by decide)]
   split
   ·next hn=>rw [Int.ediv_one,Int.add_sub_cancel];exact (congrArg Int.toNat (zc (le_of_lt (ofNat_lt.mp hn)))).trans (toNat_natCast _)
   ·next hn=>exact (Nat.sub_eq_zero_of_le (ofNat_le.mp (not_lt.mp hn))).symm
  dsimp only
  rw [e]
  apply map_congr_left λj Z=>?_
  show ((a:Int)+1 * (j:Int)).toNat=a+j
  rw [Int.one_mul];rfl
 rw [this,List.filterMap_map]
 exact pq xs a _
theorem kl(xs:List V)(a:Nat)(h:a<=xs.length):iZ xs (some a) none none=xs.drop a:=by
 have e1:(sliceBounds (some (a:Int)) none none xs.length).1=(a:Int):=by unfold sliceBounds;simp;split <;> lia
 have e2:(sliceBounds (some (a:Int)) none none xs.length).2.1=(xs.length:Int):=by exact Int.mem_toNat?.mp rfl
 have e3:(sliceBounds (some (a:Int)) none none xs.length).2.2=1:=by rfl
 unfold iZ
 rw [e1,e2,e3,j3,take_of_length_le (by simp)]
theorem xB{t:Sem Value}{Ψ:V->Loc->Cells->Prop}{v:V}(h:mE X A env t (λr l c=>r=v/\l=loc/\c=cells) loc cells)(k:Ψ v loc cells):mE X A env t Ψ loc cells :=
 h.mono λr l c ⟨e1,e2,e3⟩=>by rw [e1,e2,e3];exact k
theorem AP{a:Addr}{xs:List V}{k:Int}{j:Nat}{x:V}(hc:cells a=some (.list xs))(FU:-(2 ^ 63)<=k)(FV:k<2 ^ 63)(hj:seqIndex? k xs.length=some j)(hx:xs[j]?=some x)(h:Ψ x cells):iY X A (.ref a) (.int k) Ψ cells:=λo iv own s I ro ri=>by
 apply RV.e1 ri rfl λZ=>?_;apply RV.e0 ro rfl ?_
 obtain ⟨oa,vs,n,ho,rs⟩:=I.cell a _ hc
 have hz:vs.size=xs.length:=by simpa using rs.1
 have uj:j<xs.length:=(List.getElem?_eq_some_iff.mp hx).1
 have hv:vs[j]?=some vs[j]:=Array.getElem?_eq_getElem (Nat.lt_of_lt_of_eq uj (id (Eq.symm hz)))
 have r:=rs.2 j vs[j] x (by simp [uj,hz]) hx
 have fin:Done X own cells s.heap Ψ vs[j] s:=⟨own,cells,x,I,r,.refl,h⟩
 have hl:s.heap.IsList a vs:=(bh _ ho rfl n rfl)
 apply (aH ("list") _ slot_list_getitem.lookup hl.typeIs ?_)
 unfold seqIndex? at hj
 by_cases h0:k<0
 ·simp only [h0,if_true] at hj
  split at hj
  ·rename_i q
   obtain ⟨q1,q2⟩:0<=k+↑xs.length/\k+↑xs.length<xs.length:=by simpa using q
   have:=cK hj
   apply wpAny_getItem_list_neg hl h0 (by omega) FU (x:=vs[j]) ?_ fin
   rw [show (k+(vs.size:Int)).toNat=j by lia];exact hv
  ·exact bf hj
 ·simp only [h0,if_false] at hj
  split at hj
  ·have:=cK hj
   exact wpAny_getItem_list hl (not_lt.mp h0) FV (by rw [this];exact hv) fin
  ·exact bf hj
theorem mx{a:Addr}{xs:List V}{j:Nat}{x:V}(hc:cells a=some (.list xs))(hx:xs[j]?=some x)(hz:xs.length<=1000000)(h:Ψ x cells):iY X A (.ref a) (.int j) Ψ cells:=by
 have hj:j<xs.length:=(List.getElem?_eq_some_iff.mp hx).1
 apply AP hc (Int.neg_ofNat_le_natCast (2 ^ 63) j) (by lia) (j:=j) (kX hj) hx h
theorem g_clast{a:Addr}{xs:List V}{x:V}(hc:cells a=some (.list (xs++[x])))(h:Ψ x cells):iY X A (.ref a) (.int (-1)) Ψ cells:=by
 apply AP hc (Int.le.intro_sub (Nat.succ 9223372036854775807 - Nat.succ 0) rfl) (Rat.intCast_lt_intCast.mp rfl) (j:=xs.length) (by rw [length_append];exact pn) (List.getElem?_concat_length) h
end
end Mp
section
open PySem.SeqAt
namespace Mp
inductive pw:Nat->V->V->Bool->Prop
 | int {n:Nat} (a b:Int):pw n (.int a) (.int b) (a == b)
 | str {n:Nat} (a b:Str):pw n (.str a) (.str b) (a == b)
 | list {n:Nat} {xs ys:List V} {b:Bool} (e:Nat->Bool) (h:∀ (j:Nat) (x y:V),xs[j]?=some x->ys[j]?=some y->pw n x y (e j)) (hb:b=(xs.length == ys.length&&(List.range (min xs.length ys.length)).all e)):pw (n+1) (.list xs) (.list ys) b
 | tuple {n:Nat} {xs ys:List V} {b:Bool} (e:Nat->Bool) (h:∀ (j:Nat) (x y:V),xs[j]?=some x->ys[j]?=some y->pw n x y (e j)) (hb:b=(xs.length == ys.length&&(List.range (min xs.length ys.length)).all e)):pw (n+1) (.tuple xs) (.tuple ys) b
section
theorem pw.same{h:Heap}{n:Nat}{x y:V}{b:Bool}(q:pw n x y b):∀ {v:Value},RV own h v x->RV own h v y->b=true:=by
 induction q with
 | int a b=>intro v r1 r2;obtain ⟨_,⟨⟩⟩:=RV.a1 r1;obtain ⟨_,⟨⟩⟩:=RV.a1 r2;exact beq_int_true rfl
 | str a b=>intro v r1 r2;obtain ⟨_,⟨⟩⟩:=RV.a1 r1;obtain ⟨_,⟨⟩⟩:=RV.a1 r2;exact str_beq_self a
 | list e _ hb ih =>
  intro v r1 r2
  (apply aA r1.cN ?_;intro a d vs n sl aM;subst aM;intro ho hn rs)
  apply aA r2.cN λa2 d2 tZ n2 HO q vR yB og=>?_
  cases q
  rw [ho] at vR;cases vR
  subst hb
  have hl:=rs.1.symm.trans og.1
  simp only [hl,beq_self_eq_true,Bool.true_and,all_eq_true,mem_range,Nat.min_self]
  intro j hj
  have h1:j<vs.toList.length:=by rw [og.1];exact hj
  exact ih j _ _ (getElem?_eq_getElem (by rw [hl];exact hj)) (getElem?_eq_getElem hj) (rs.2 j _ _ (getElem?_eq_getElem h1) (getElem?_eq_getElem (by rw [hl];exact hj))) (og.2 j _ _ (getElem?_eq_getElem h1) (getElem?_eq_getElem hj))
 | tuple e _ hb ih =>
  intro v r1 r2
  (apply aA r1.gC ?_;intro a d vs n sl bk;subst bk;intro ho hn rs)
  apply aA r2.gC λa2 d2 tZ n2 HO q vR yB og=>?_
  cases q
  rw [ho] at vR;cases vR
  subst hb
  have hl:=rs.1.symm.trans og.1
  simp only [hl,beq_self_eq_true,Bool.true_and,all_eq_true,mem_range,Nat.min_self]
  intro j hj
  have h1:j<vs.toList.length:=by rw [og.1];exact hj
  exact ih j _ _ (getElem?_eq_getElem (by rw [hl];exact hj)) (getElem?_eq_getElem hj) (rs.2 j _ _ (getElem?_eq_getElem h1) (getElem?_eq_getElem (by rw [hl];exact hj))) (og.2 j _ _ (getElem?_eq_getElem h1) (getElem?_eq_getElem hj))
theorem pw.at{n:Nat}{x y:V}{b:Bool}(q:pw n x y b):∀ {A:Around} {v u:Value},RV own s.heap v x->RV own s.heap u y->A.units+n<cLine->RcAt A s v u b/\EqAt A s v u b/\RcNeAt A s v u (!b):=by
 induction q with
 | int a b=>intro A v u r1 r2 hu;obtain ⟨_,⟨⟩⟩:=RV.a1 r1;obtain ⟨_,⟨⟩⟩:=RV.a1 r2;exact ⟨RcAt.int_int _ _ _ _,EqAt.int_int _ _ _ _,RcNeAt.int_int _ _ _ _⟩
 | str a b=>intro A v u r1 r2 hu;obtain ⟨_,⟨⟩⟩:=RV.a1 r1;obtain ⟨_,⟨⟩⟩:=RV.a1 r2;exact ⟨RcAt.str_str _ _ _ _,EqAt.str_str _ _ _ _,RcNeAt.str_str _ _ _ _⟩
 | @list n xs ys b e he hb ih =>
  intro A v u r1 r2 hu
  have sm:v=u->b=true:=λz=>by subst z;exact (pw.list e he hb).same r1 r2
  (apply aA r1.cN ?_;intro a d vs m sl bN;subst bN;intro ho hn rs)
  (apply aA r2.cN ?_;intro a2 d2 tZ m2 HO cI;subst cI;intro vR yB og)
  have z1:vs.size=xs.length:=by simpa using rs.1
  have z2:tZ.size=ys.length:=by simpa using og.1
  have hl:s.heap.IsList a vs:=(bh _ ho rfl m rfl)
  have t4:s.heap.IsList a2 tZ:=(bh _ vR rfl m2 rfl)
  have core:RcAt A s (.ref a) (.ref a2) b/\RcNeAt A s (.ref a) (.ref a2) (!b):=by
   by_cases hz:xs.length=ys.length
   ·have FX:vs.size=tZ.size:=by lia
    have ee:∀ j (h1:j<vs.size) (h2:j<tZ.size),EqAt A.in1 s vs[j] tZ[j] (e j):=λj h1 h2 =>
     (ih j _ _ (getElem?_eq_getElem (Nat.lt_of_lt_of_eq h1 z1:j<xs.length)) (getElem?_eq_getElem (Nat.lt_of_lt_of_eq h2 z2:j<ys.length)) (A:=A.in1) (rs.2 j _ _ ((getElem_eq_iff h1).mp rfl) (getElem?_eq_getElem (Nat.lt_of_lt_of_eq h1 z1))) (og.2 j _ _ ((getElem_eq_iff h2).mp rfl) (getElem?_eq_getElem (Nat.lt_of_lt_of_eq h2 z2))) (by show A.units+1+n<_;lia)).2.1
    have eb:b=(List.range vs.size).all e:=by rw [hb,hz,z1,hz];simp
    rw [eb]
    exact ⟨RcAt.lists hl t4 FX (lt_of_add_right_lt hu) ee,RcNeAt.lists hl t4 FX (lt_of_add_right_lt hu) ee⟩
   ·have FX:(vs.size != tZ.size)=true:=by simp;lia
    have eb:b=false:=by rw [hb];simp [hz]
    subst eb
    exact ⟨RcAt.lists_lengths hl t4 FX (lt_of_add_right_lt hu),RcNeAt.lists_lengths hl t4 FX (lt_of_add_right_lt hu)⟩
  apply ⟨core.1,?_,core.2⟩
  by_cases hz:a=a2
  ·subst hz
   rw [sm rfl];exact EqAt.same _
  ·exact EqAt.of_refs hz core.1
 | @tuple n xs ys b e he hb ih =>
  intro A v u r1 r2 hu
  have sm:v=u->b=true:=λz=>by subst z;exact (pw.tuple e he hb).same r1 r2
  (apply aA r1.gC ?_;intro a d vs m sl dH;subst dH;intro ho hn rs)
  (apply aA r2.gC ?_;intro a2 d2 tZ m2 HO eC;subst eC;intro vR yB og)
  have z1:vs.size=xs.length:=by simpa using rs.1
  have z2:tZ.size=ys.length:=by simpa using og.1
  have hl:s.heap.IsTuple a vs:=(bh _ ho rfl m rfl)
  have t4:s.heap.IsTuple a2 tZ:=(bh _ vR rfl m2 rfl)
  have ee:∀ j (h1:j<vs.size) (h2:j<tZ.size),EqAt A.in1 s vs[j] tZ[j] (e j):=λj h1 h2 =>
   (ih j _ _ (getElem?_eq_getElem (Nat.lt_of_lt_of_eq h1 z1:j<xs.length)) (getElem?_eq_getElem (Nat.lt_of_lt_of_eq h2 z2:j<ys.length)) (A:=A.in1) (rs.2 j _ _ ((getElem_eq_iff h1).mp rfl) (getElem?_eq_getElem (Nat.lt_of_lt_of_eq h1 z1))) (og.2 j _ _ ((getElem_eq_iff h2).mp rfl) (getElem?_eq_getElem (Nat.lt_of_lt_of_eq h2 z2))) (by show A.units+1+n<_;lia)).2.1
  have eb:b=((List.range (min vs.size tZ.size)).all e&&vs.size == tZ.size):=by rw [hb,z1,z2,Bool.and_comm]
  have core:RcAt A s (.ref a) (.ref a2) b/\RcNeAt A s (.ref a) (.ref a2) (!b):=by
   rw [eb]
   exact ⟨RcAt.tuples hl t4 (lt_of_add_right_lt hu) ee,RcNeAt.tuples hl t4 (lt_of_add_right_lt hu) ee⟩
  apply ⟨core.1,?_,core.2⟩
  by_cases hz:a=a2
  ·subst hz
   rw [sm rfl];exact EqAt.same _
  ·exact EqAt.of_refs hz core.1
theorem HS{n:Nat}{x y:V}{b:Bool}(q:pw n x y b)(hu:A.units+n<cLine)(h:Ψ (.bool b) cells):cR X A (compareOp .Eq) x y Ψ cells:=λv u own s I kS=>aC kS λr1 r2 =>
 (q.at r1 r2 hu).1 _ _ _ _ (aw (t:=s.toks) I (.bool _) h)
theorem sQ{α:Type}[DecidableEq α]:∀ (xs ys:List α),(xs == ys)=(xs.length == ys.length&&(List.range (min xs.length ys.length)).all λj=>decide (xs[j]?=ys[j]?)):=by
 intro xs ys
 by_cases h:xs=ys
 ·subst h;simp
 ·have:(xs == ys)=false:=by exact beq_false_of_ne h
  rw [this]
  symm
  rw [Bool.and_eq_false_iff]
  by_cases hl:xs.length=ys.length
  ·right
   rw [List.all_eq_false]
   apply byContradiction λq=>h ?_
   apply ext_getElem? λj=>?_
   by_cases hj:j<xs.length
   ·apply byContradiction λz=>q (iDPP j (by simp;lia) (by simpa using z))
   ·rw [getElem?_eq_none (le_of_not_lt hj),getElem?_eq_none (by lia)]
  ·left;exact beq_false_of_ne hl
theorem pw.map{α:Type}[DecidableEq α]{n:Nat}{f:α->V}(hf:∀ a b,pw n (f a) (f b) (a == b))(xs ys:List α):pw (n+1) (.list (xs.map f)) (.list (ys.map f)) (xs == ys):=by
 apply .list (λj=>decide (xs[j]?=ys[j]?)) (λj x y h1 h2=>?_) (by rw [sQ];simp)
 rw [getElem?_map,map_eq_some_iff] at h1 h2
 (apply aj h1 ?_;try clear h1;intro a e1 fR;subst fR)
 (apply aj h2 ?_;try clear h2;intro b e2 rz;subst rz)
 rw [e1,e2]
 have:=hf a b
 by_cases z:a=b
 ·subst z;simpa using this
 ·have e0:(a == b)=false:=by exact beq_false_of_ne z
  rw [e0] at this
  simpa [z] using this
theorem pw.ints(n:Nat)(xs ys:List Int):pw (n+1) (.list (Iz xs)) (.list (Iz ys)) (xs == ys):=pw.map (λa b=>.int a b) xs ys
end
end Mp
end
section
open PySem.SeqAt
namespace Mp
section
theorem EX{a b:Bool}(h:Ψ (.bool (!(a == b))) cells):cR X A (compareOp .NotEq) (.bool a) (.bool b) Ψ cells:=λv u own s I cI=>aC cI λr1 r2=>by
 apply RV.e0 r1 rfl ?_;apply RV.e0 r2 rfl ?_;exact RcNeAt.bool_bool a b _ _ _ _ (aw (t:=s.toks) I (.bool _) h)
noncomputable def HT (x:Int) (v:Value):Bool:=match v with | .int a _=>a == x | _=>false
theorem xC{vs:List Value}{ns:List Int}{x:Int}(hi:IntsAre vs ns):vs.any (HT x)=ns.any (· == x):=by
 induction hi with
 | nil=>rfl
 | cons n t _ ih=>rw [any_cons,any_cons,ih];rfl
theorem rG{x:Int}{ns:List Int}(h:Ψ (.bool (ns.any (· == x))) cells):cR X A (compareOp .In) (.int x) (.list (Iz ns)) Ψ cells:=λv u own s I ⟨r1,r2⟩=>by
 apply RV.e1 r1 rfl λZ=>?_
 (apply aA r2.cN ?_;intro a d vs n sl bk;rw [bk];intro ho hn rs)
 have hi:=fW rs
 apply in_listAt (items:=vs) (HT x) (bh _ ho rfl n rfl) (λy hy=>?_) ?_
 ·(apply ij (hi.allInts y (by simpa using hy)) ?_;intro b t bN;rw [bN])
  exact EqAt.int_int _ _ _ _
 ·have:vs.any (HT x)=ns.any (· == x):=by rw [<- xC hi];exact Eq.symm Array.any_toList
  rw [this]
  exact aw (t:=s.toks) I (.bool _) h
noncomputable def cm (x:Str) (j:Nat):Str:=⟨#[x.cps.getD j 0]⟩
theorem dh{x:Str}{j:Nat}(hj:j<x.length)(hz:x.length<=1000000)(h:Ψ (.str (cm x j)) cells):iY X A (.str x) (.int j) Ψ cells:=by
 apply EV (Int.neg_ofNat_le_natCast (2 ^ 63) j) (by lia) (c:=x.cps.getD j 0) ?_ h
 have e:seqIndex? (j:Int) x.length=some j:=kX hj
 rw [e]
 show x.cps[j]?=_
 have:j<x.cps.size:=hj
 simp [getD,this]
theorem xD{x:Str}(hj:0<x.length)(hz:x.length<=1000000)(h:Ψ (.str (cm x (x.length - 1))) cells):iY X A (.str x) (.int (-1)) Ψ cells:=by
 apply EV (Int.le.intro_sub (Nat.succ 9223372036854775807 - Nat.succ 0) rfl) (Rat.intCast_lt_intCast.mp rfl) (c:=x.cps.getD (x.length - 1) 0) ?_ h
 have e:seqIndex? (-1) x.length=some (x.length - 1):=by rw [<- Nat.sub_add_cancel hj];exact pn
 rw [e]
 show x.cps[x.length - 1]?=_
 have:x.length - 1<x.cps.size:=by show x.length - 1<x.length;exact Nat.sub_one_lt_of_lt hj
 simp [getD,this]
theorem jm{e:Expr}{Ψ:Bool->Loc->Cells->Prop}(h:mT X A env (isTrue e env (eval e env)) Ψ loc cells):mT X A env (allTrue .And [e] env) Ψ loc cells :=
 cX (h.mono λt l c q=>by
  cases t
  ·exact q
  ·exact yz q)
theorem EY{e:Expr}{Ψ:Bool->Loc->Cells->Prop}(h:mT X A env (isTrue e env (eval e env)) Ψ loc cells):mT X A env (allTrue .Or [e] env) Ψ loc cells :=
 jL (h.mono λt l c q=>by
  cases t
  ·exact Aw q
  ·exact q)
end
end Mp
end
namespace Mp
section
open PySem.Sre PySem.Sre.M
noncomputable def iter:Nat->M->M
 | 0,m=>m
 | n+1,m=>iter n m.step
theorem jo:∀ (a b:Nat) (m:M),iter (a+b) m=iter b (iter a m)
 | 0,b,m=>by rw [zero_add];rfl
 | a+1,b,m=>by rw [Nat.add_right_comm];exact jo a b m.step
theorem rH{m:M}(h:m.outcome.isSome=true):m.step=m:=by unfold M.step;rw [if_pos h]
theorem g9:∀ (n:Nat) {m:M},m.outcome.isSome=true->iter n m=m
 | 0,m,_=>rfl
 | n+1,m,h=>by show iter n m.step=m;rw [rH h];exact g9 n h
theorem ny:∀ (n:Nat) (m:M),m.runFor n=iter n m
 | 0,m=>rfl
 | n+1,m=>by
  show (if m.outcome.isSome then m else M.runFor n m.step)=iter n m.step
  by_cases h:m.outcome.isSome=true
  ·rw [if_pos h,rH h,g9 n h]
  ·rw [if_neg h];exact ny n _
section
variable {M':Model}{A:Around}{E:Value->Shared->Prop}{s:Shared}
theorem j5{Q:M->Shared->Prop}:∀ (turns N:Nat) (m:M),N<=4 * turns->0<turns->(iter N m).outcome.isSome=true->Q (iter N m) s->wpAny M' A (reDrive turns m) Q E s
 | 0,N,m,h,h0,ho,q=>absurd h0 (lt_irrefl _)
 | turns+1,N,m,h,_,ho,q=>by
  show wpAny M' A (if (m.runFor 4).outcome.isSome then pure (m.runFor 4) else do rule "sre.turn";reDrive turns (m.runFor 4)) Q E s
  rw [ny]
  by_cases h4:(iter 4 m).outcome.isSome=true
  ·rw [if_pos h4]
   have:iter N m=iter 4 m:=by
    by_cases hn:N<=4
    ·have e:iter 4 m=iter (4 - N) (iter N m):=by rw [<- jo];congr 1;exact Eq.symm (Nat.add_sub_of_le hn)
     rw [e,g9 _ ho]
    ·have e:iter N m=iter (N - 4) (iter 4 m):=by rw [<- jo];congr 1;lia
     rw [e,g9 _ h4]
   rw [<- this]
   exact wpAny_pure q
  ·rw [if_neg h4]
   have hn:4<N:=by
    apply byContradiction λhn=>h4 ?_
    have e:iter 4 m=iter (4 - N) (iter N m):=by rw [<- jo];congr 1;lia
    rw [e,g9 _ ho];exact ho
   have e:iter N m=iter (N - 4) (iter 4 m):=by rw [<- jo];congr 1;lia
   rw [e] at ho q
   exact wpAny_bind (wpAny_rule (j5 turns (N - 4) _ (Nat.sub_le_of_le_add h) (by lia) ho q))
end
end
section
open PySem.Sre PySem.Sre.M
noncomputable def ft (C text:Array Nat) (start pos pc handed:Nat) (outer:Bool) (frames:List Sre.Frame) (weight:Nat) (answer:Option Bool) (seen:Sre.Seen):M :=
 {code:=C,text,lim:=text.size,start,lastStart:=text.size,pc,pos,handed,outermost:=outer,marks:=#[],frames,weight,answer,seen}
section
variable {C text:Array Nat}{start pos pc handed w:Nat}{outer:Bool}{fr:List Sre.Frame}{seen:Sre.Seen}
theorem km(hc:pc<C.size)(qM:ops[C.getD pc 0]?=some .LITERAL):(ft C text start pos pc handed outer fr w none seen).step =
  if pos >= text.size then ft C text start pos pc handed outer fr w (some false) (seen.add (C.getD pc 0)) else
  if (text.getD pos 0 == C.getD (pc+1) 0)=true then ft C text start (pos+1) (pc+2) handed outer fr w none (seen.add (C.getD pc 0)) else ft C text start pos pc handed outer fr w (some false) (seen.add (C.getD pc 0)):=by
 have e1:(ft C text start pos pc handed outer fr w none seen).step=(ft C text start pos pc handed outer fr w none seen).exec:=by
  show (if pc<C.size then _ else _)=_
  rw [if_pos hc]
 rw [e1]
 unfold M.exec
 have e2:ops[(ft C text start pos pc handed outer fr w none seen).word 0]?=some .LITERAL:=qM
 rw [e2]
 show (if pos >= text.size then _ else _)=_
 by_cases hp:pos >= text.size
 ·rw [if_pos hp,if_pos hp];rfl
 ·rw [if_neg hp,if_neg hp]
  have e3:accepts C pc (text.getD pos 0) (seen.add (C.getD pc 0))=.ok (text.getD pos 0 == C.getD (pc+1) 0,seen.add (C.getD pc 0)):=by
   unfold accepts
   rw [qM]
  have e4:itemWidth C pc=2:=by unfold itemWidth;rw [qM]
  show (match accepts C pc (text.getD pos 0) (seen.add (C.getD pc 0)) with | .error why=>_ | .ok (false,seen)=>_ | .ok (true,seen)=>_)=_
  rw [e3]
  by_cases hq:(text.getD pos 0 == C.getD (pc+1) 0)=true
  ·rw [if_pos hq,hq]
   show M.mk ..=M.mk ..
   rw [show (ft C text start pos pc handed outer fr w none seen).pc+itemWidth (ft C text start pos pc handed outer fr w none seen).code (ft C text start pos pc handed outer fr w none seen).pc=pc+2 from congrArg (pc+·) e4]
   rfl
  ·rw [if_neg hq,eq_false_iff.mpr hq];rfl
theorem kY{op:Op}(hc:pc<C.size)(qM:ops[C.getD pc 0]?=some op){m':M}(h:(match (some op:Option Op) with | none=>(ft C text start pos pc handed outer fr w none seen).stick "code:unknown-word" | some op=>(ft C text start pos pc handed outer fr w none seen).exec)=m'):(ft C text start pos pc handed outer fr w none seen).step=m':=by
 have e1:(ft C text start pos pc handed outer fr w none seen).step=(ft C text start pos pc handed outer fr w none seen).exec:=by
  show (if pc<C.size then _ else _)=_
  rw [if_pos hc]
 rw [e1];exact h
theorem sR(hc:pc<C.size)(qM:ops[C.getD pc 0]?=some .JUMP):(ft C text start pos pc handed outer fr w none seen).step=ft C text start pos (pc+1+C.getD (pc+1) 0) handed outer fr w none (seen.add (C.getD pc 0)):=by
 apply kY hc qM ?_
 show M.exec _=_
 unfold M.exec
 have e2:ops[(ft C text start pos pc handed outer fr w none seen).word 0]?=some .JUMP:=qM
 rw [e2]
 rfl
theorem iB(hc:pc<C.size)(qM:ops[C.getD pc 0]?=some .SUCCESS):(ft C text start pos pc handed outer fr w none seen).step=ft C text start pos pc pos outer fr w (some true) (seen.add (C.getD pc 0)):=by
 apply kY hc qM ?_
 show M.exec _=_
 unfold M.exec
 have e2:ops[(ft C text start pos pc handed outer fr w none seen).word 0]?=some .SUCCESS:=qM
 rw [e2]
 show (if (outer&&((false&&_)||(false&&_)))=true then _ else _)=_
 rw [if_neg (by cases outer <;> exact ne_true_of_eq_false rfl)]
 rfl
theorem HU(hc:pc<C.size)(qM:ops[C.getD pc 0]?=some .AT)(h1:C.getD (pc+1) 0=1):(ft C text start pos pc handed outer fr w none seen).step =
  if (pos == 0||text.getD (pos - 1) 0 == 10)=true then ft C text start pos (pc+2) handed outer fr w none ((seen.add (C.getD pc 0)).add 44) else ft C text start pos pc handed outer fr w (some false) ((seen.add (C.getD pc 0)).add 44):=by
 apply kY hc qM ?_
 show M.exec _=_
 unfold M.exec
 have e2:ops[(ft C text start pos pc handed outer fr w none seen).word 0]?=some .AT:=qM
 rw [e2]
 show (match M.isAt _ (C.getD (pc+1) 0) with | .error why=>_ | .ok yes=>_)=_
 rw [h1]
 show (if (pos == 0||text.getD (pos - 1) 0 == 10)=true then _ else _)=_
 by_cases hq:(pos == 0||text.getD (pos - 1) 0 == 10)=true
 ·rw [if_pos hq,if_pos hq]
  show M.mk ..=M.mk ..
  congr 1
  show (seen.add (C.getD pc 0)).add (43+C.getD (pc+1) 0)=_
  rw [h1]
 ·rw [if_neg hq,if_neg hq]
  show M.mk ..=M.mk ..
  congr 1
  show (seen.add (C.getD pc 0)).add (43+C.getD (pc+1) 0)=_
  rw [h1]
noncomputable def j6:Sre.Kept:={ lastmark:=-1,lastindex:=-1,whole:=false,marks:=#[]}
theorem yN(hc:pc<C.size)(qM:ops[C.getD pc 0]?=some .BRANCH)(ha:C.getD (pc+1) 0≠0)(hw:w<1000):(ft C text start pos pc handed outer fr w none seen).step =
  ft C text start pos (pc+2) pos outer ({ wait:=.nextBranch,pc:=pc+1,pos,outermost:=outer,kept:=j6}::fr) (w+1) none (seen.add (C.getD pc 0)):=by
 apply kY hc qM ?_
 show M.exec _=_
 unfold M.exec
 have e2:ops[(ft C text start pos pc handed outer fr w none seen).word 0]?=some .BRANCH:=qM
 rw [e2]
 show (if (C.getD (pc+1) 0 == 0)=true then _ else _)=_
 rw [if_neg (by simpa using ha)]
 show (if w+1+0 > 16777216 then _ else _)=_
 rw [if_neg (by lia)]
 rfl
theorem FY(hc:pc<C.size)(qM:ops[C.getD pc 0]?=some .ASSERT_NOT)(h2:C.getD (pc+2) 0=0)(hw:w<1000):(ft C text start pos pc handed outer fr w none seen).step =
  ft C text start pos (pc+3) pos false ({ wait:=.lookNot,pc,pos,outermost:=outer,kept:=j6}::fr) (w+1) none (seen.add (C.getD pc 0)):=by
 apply kY hc qM ?_
 show M.exec _=_
 unfold M.exec
 have e2:ops[(ft C text start pos pc handed outer fr w none seen).word 0]?=some .ASSERT_NOT:=qM
 rw [e2]
 show (if pos<C.getD (pc+2) 0 then _ else _)=_
 rw [if_neg (by omega)]
 show (if w+1+0 > 16777216 then _ else _)=_
 rw [if_neg (by lia)]
 show ft C text start (pos - C.getD (pc+2) 0) (pc+3) (pos - C.getD (pc+2) 0) false ({ wait:=.lookNot,pc,pos,outermost:=outer,kept:=j6}::fr) (w+1+0) none (seen.add (C.getD pc 0))=_
 rw [h2]
 rfl
variable {k:Sre.Kept}{f:Sre.Frame}{q1 q2:Nat}
theorem gV:(ft C text start pos pc handed outer ({ wait:=.nextBranch,pc:=q1,pos:=q2,outermost:=outer,kept:=j6}::fr) (w+1) (some true) seen).step=ft C text start q2 q1 handed outer fr w (some true) seen:=by
 rfl
theorem iC(ha:C.getD (q1+C.getD q1 0) 0≠0)(hw:w<1000):(ft C text start pos pc handed outer ({ wait:=.nextBranch,pc:=q1,pos:=q2,outermost:=outer,kept:=j6}::fr) (w+1) (some false) seen).step =
  ft C text start q2 (q1+C.getD q1 0+1) q2 outer ({ wait:=.nextBranch,pc:=q1+C.getD q1 0,pos:=q2,outermost:=outer,kept:=j6}::fr) (w+1) none seen:=by
 show (if (C.getD (q1+C.getD q1 0) 0 == 0)=true then _ else _)=_
 rw [if_neg (by simpa using ha)]
 show (if w+1 - 1+1+0 > 16777216 then _ else _)=_
 rw [if_neg (by lia)]
 rfl
theorem sS:(ft C text start pos pc handed outer [{ wait:=.nextStart,pc:=q1,pos:=q2,outermost:=outer}] 1 (some true) seen).step=ft C text start q2 q1 handed outer [] 0 (some true) seen:=by
 rfl
theorem yO:(ft C text start pos pc handed false ({ wait:=.lookNot,pc:=q1,pos:=q2,outermost:=outer,kept:=j6}::fr) (w+1) (some false) seen).step=ft C text start q2 (q1+1+C.getD (q1+1) 0) handed outer fr w none seen:=by
 rfl
end
noncomputable def CD:Array Nat:=#[14,4,0,1,1,6,1,16,46,1]
noncomputable def CN:Array Nat:=#[14,9,4,1,2,16,10,16,13,0,7,7,16,13,16,10,15,18,5,16,10,15,13,11,16,13,5,5,0,16,10,1,15,2,0,1]
def Run(B:Nat)(m:M)(P:M->Prop):Prop:=∃ N,N<=B/\P (iter N m)
theorem Run.step{B:Nat}{m m':M}{P:M->Prop}(h:m.step=m')(k:Run B m' P):Run (B+1) m P:=by
 apply aj k λN h1 h2=>?_
 apply (iDPP (N+1) (by exact add_le_add_right h1 1) ?_)
 show P (iter N m.step)
 rw [h];exact h2
theorem Run.done{B:Nat}{m:M}{P:M->Prop}(h:P m):Run B m P:=(iDPP 0 (zero_le _) h)
theorem Run.le{B B':Nat}{m:M}{P:M->Prop}(hb:B<=B')(k:Run B m P):Run B' m P:=let ⟨N,h1,h2⟩:=k;(iDPP N (by exact le_trans h1 hb) h2)
theorem Run.neg{B:Nat}{c:Prop}[Decidable c]{a b:M}{P:M->Prop}(h:¬ c)(k:Run B b P):Run B (if c then a else b) P:=by rw [if_neg h];exact k
theorem Run.pos{B:Nat}{c:Prop}[Decidable c]{a b:M}{P:M->Prop}(h:c)(k:Run B a P):Run B (if c then a else b) P:=by rw [if_pos h];exact k
theorem Run.mono{B:Nat}{m:M}{P Q:M->Prop}(k:Run B m P)(h:∀ m,P m->Q m):Run B m Q:=let ⟨N,h1,h2⟩:=k;(iDPP N h1 (h _ h2))
section
variable {text:Array Nat}{start pos pc handed w:Nat}{outer:Bool}{seen:Sre.Seen}
theorem AQ(C:Array Nat)(b:Bool):(ft C text start pos pc handed outer [] w (some b) seen).step={ ft C text start pos pc handed outer [] w (some b) seen with outcome:=some (if b then .matched else .failed)}:=by
 cases b <;> rfl
noncomputable def iD (text:Array Nat) (p:Nat):Nat:=if text.getD p 0=13/\p+1<text.size/\text.getD (p+1) 0=10 then p+2 else p+1
def Met(p e:Nat)(m:M):Prop:=m.outcome.isSome=true/\m.outcome=some .matched/\m.start=p/\m.handed=e
theorem oB{C:Array Nat}{B:Nat}{q1:Nat}:Run (B+2) (ft C text start pos pc handed outer [{ wait:=.nextStart,pc:=q1,pos:=start,outermost:=outer}] 1 (some true) seen) (Met start handed) :=
 .step sS (.step (AQ _ _) (.done (aX rfl rfl rfl rfl)))
theorem FZ(hp:start<text.size)(hc:text.getD start 0=13\/text.getD start 0=10)(seen:Sre.Seen) :
  Run 100 (ft CN text start start 10 start outer [{ wait:=.nextStart,pc:=10,pos:=start,outermost:=outer}] 1 none seen) (Met start (iD text start)):=by
 apply .step (yN (by decide) rfl (by decide) (by exact Nat.one_lt_succ_succ 998)) ?_
 apply .step (km (by decide) rfl) ?_
 rw [if_neg (by exact Nat.not_le_of_lt hp)]
 rcases hc with hc | hc
 ·rw [hc,if_pos rfl]
  apply .step (km (by decide) rfl) ?_
  have HV:∀ (pos':Nat) (seen:Sre.Seen),iD text start=start+1->(¬ (start+1<text.size/\text.getD (start+1) 0=10))->Run 97 (ft CN text start pos' 14 start outer [{ wait:=.nextBranch,pc:=11,pos:=start,outermost:=outer,kept:=j6},{ wait:=.nextStart,pc:=10,pos:=start,outermost:=outer}] 2 (some false) seen) (Met start (iD text start)):=by
   intro pos' seen he F3
   apply .step (iC (by decide) (by exact Nat.one_lt_succ_succ 998)) ?_
   apply .step (km (by decide) rfl) ?_
   rw [if_neg (by exact Nat.not_le_of_lt hp),hc,if_neg (by decide)]
   apply .step (iC (by decide) (by exact Nat.one_lt_succ_succ 998)) ?_
   apply .step (km (by decide) rfl) ?_
   rw [if_neg (by exact Nat.not_le_of_lt hp),hc,if_pos rfl]
   apply .step (FY (by decide) rfl rfl (by exact lt_of_sub_eq_succ rfl)) ?_
   apply .step (km (by decide) rfl) ?_
   have cont:∀ (pos':Nat) (seen:Sre.Seen),Run 80 (ft CN text start pos' 29 (start+1) false [{ wait:=.lookNot,pc:=26,pos:=start+1,outermost:=outer,kept:=j6},{ wait:=.nextBranch,pc:=23,pos:=start,outermost:=outer,kept:=j6},{ wait:=.nextStart,pc:=10,pos:=start,outermost:=outer}] 3 (some false) seen) (Met start (iD text start)):=by
    intro pos' seen
    apply .step yO ?_
    apply .step (sR (by decide) rfl) ?_
    apply .step (iB (by decide) rfl) ?_
    apply .step gV ?_
    rw [he]
    exact oB
   by_cases hl:start+1 >= text.size
   ·rw [if_pos hl];exact .le (by exact le_of_ble_eq_true rfl) (cont _ _)
   ·rw [if_neg hl];exact .neg (λq=>F3 ⟨by exact lt_of_not_le hl,eq_of_beq (show (text.getD (start+1) 0 == 10)=true from q)⟩) (.le (by exact le_of_ble_eq_true rfl) (cont _ _))
  by_cases hl:start+1 >= text.size
  ·rw [if_pos hl]
   exact HV _ _ (by unfold iD;rw [if_neg (by omega)]) (by omega)
  ·rw [if_neg hl]
   by_cases hd:text.getD (start+1) 0=10
   ·apply .pos (by rw [hd];decide) ?_
    apply .step (sR (by decide) rfl) ?_
    apply .step (iB (by decide) rfl) ?_
    apply .step gV ?_
    rw [show iD text start=start+1+1 by unfold iD;rw [if_pos ⟨hc,by exact lt_of_not_le hl,hd⟩]]
    exact .le (by exact le_of_ble_eq_true rfl) (oB (B:=0))
   ·apply .neg (λq=>hd (eq_of_beq (show (text.getD (start+1) 0 == 10)=true from q))) ?_
    exact HV _ _ (by unfold iD;rw [if_neg (λq=>hd q.2.2)]) (λq=>hd q.2)
 ·rw [hc,if_neg (by decide)]
  apply .step (iC (by decide) (by exact Nat.one_lt_succ_succ 998)) ?_
  apply .step (km (by decide) rfl) ?_
  rw [if_neg (by exact Nat.not_le_of_lt hp),hc,if_pos rfl]
  apply .step (sR (by decide) rfl) ?_
  apply .step (iB (by decide) rfl) ?_
  apply .step gV ?_
  rw [show iD text start=start+1 by unfold iD;rw [if_neg (by rw [hc];exact of_decide_eq_false rfl)]]
  exact .le (by exact le_of_ble_eq_true rfl) (oB (B:=0))
end
end
section
open PySem.Sre PySem.Sre.M
section
variable {text:Array Nat}{start:Nat}
noncomputable def ck (p:Nat->Bool) (n s:Nat):Option Nat:=if h:s<n then (if p s then some s else ck p n (s+1)) else none
termination_by n - s
decreasing_by exact Nat.sub_lt_sub_left h (lt_succ_self s)
theorem fj{p:Nat->Bool}{n s:Nat}(h:s<n)(hp:p s=true):ck p n s=some s:=by rw [ck,dif_pos h,if_pos hp]
theorem eH{p:Nat->Bool}{n s:Nat}(h:s<n)(hp:p s=false):ck p n s=ck p n (s+1):=by
 rw [ck,dif_pos h,if_neg (ne_true_of_eq_false hp)]
theorem cU{p:Nat->Bool}{n s:Nat}(h:¬ s<n):ck p n s=none:=by rw [ck,dif_neg h]
theorem iE{p:Nat->Bool}{n s q:Nat}(h:ck p n s=some q):q<n/\p q=true:=by
 induction hk:n - s generalizing s with
 | zero=>rw [cU (z0 hk)] at h;exact bf h
 | succ k ih =>
  by_cases hp:p s=true
  ·rw [fj (lt_of_sub_eq_succ hk) hp] at h;obtain rfl:=cK h;exact ⟨by exact lt_of_sub_eq_succ hk,hp⟩
  ·rw [eH (lt_of_sub_eq_succ hk) (eq_false_of_ne_true hp)] at h
   exact ih h (zs hk)
noncomputable def i0 (text:Array Nat) (i:Nat):Bool:=text.getD i 0 == 10||text.getD i 0 == 13
def sT(o:Option (Nat×Nat))(m:M):Prop:=m.outcome.isSome=true/\match o with
 | some (p,e)=>m.outcome=some .matched/\m.start=p/\m.handed=e
 | none=>m.outcome=some .failed
noncomputable def nz (text:Array Nat) (s:Nat):Option (Nat×Nat):=(ck (i0 text) text.size s).map λp=>(p,iD text p)
theorem Dq(c:Nat)(seen:Sre.Seen):∃ cF,inSet CN c CN.size 5 true seen=.ok (c == 10||c == 13,cF):=by
 show ∃ cF,(if (c == 10)=true then Except.ok (true,_) else (if (c == 13)=true then Except.ok (true,_) else Except.ok (!true,_)))=_
 by_cases h1:(c == 10)=true
 ·rw [if_pos h1,h1];exact (bJ _ rfl)
 ·rw [if_neg h1]
  by_cases h2:(c == 13)=true
  ·rw [if_pos h2,h2,Bool.or_true];exact (bJ _ rfl)
  ·rw [if_neg h2,eq_false_iff.mpr h1,eq_false_iff.mpr h2];exact (bJ _ rfl)
theorem pA(m:M)(hm:m.code=CN)(ht:m.text=text)(hl:m.lim=text.size):∀ (fuel s:Nat) (seen:Sre.Seen),text.size<fuel+s->∃ cF,admitted m fuel s seen=.ok (ck (i0 text) text.size s,cF)
 | 0,s,sn,h=>by rw [cU (by lia)];exact (bJ _ rfl)
 | fuel+1,s,sn,h=>by
  rw [admitted,hm,ht,hl]
  by_cases hs:s >= text.size
  ·rw [if_pos hs,cU (Nat.not_lt.mpr hs)];exact (bJ _ rfl)
  ·rw [if_neg hs]
   apply bw (Dq (text.getD s 0) sn) λcF e=>?_
   rw [e]
   cases hc:(text.getD s 0 == 10||text.getD s 0 == 13) with
   | true=>rw [fj (lt_of_not_le hs) hc];exact (bJ _ rfl)
   | false =>
    rw [eH (lt_of_not_le hs) hc]
    exact pA m hm ht hl fuel (s+1) cF (by lia)
noncomputable def m0 (C text:Array Nat) (start body:Nat):M:={ ft C text start start body start true [] 0 none (({}:Sre.Seen).add 14) with lastStart:=0}
theorem uq:forSearch CN text 0 start text.size false=if (decide (start > text.size)||decide (text.size - start<1))=true then (m0 CN text start 10).say false else { m0 CN text start 10 with lastStart:=text.size}.attemptFrom start true:=rfl
theorem AR(hs:start<=text.size):Run 200 (forSearch CN text 0 start text.size false) (sT (nz text start)):=by
 rw [uq]
 by_cases h:text.size - start<1
 ·apply .pos (by simp [h]) ?_
  have e:nz text start=none:=by unfold nz;rw [cU (by lia)];rfl
  rw [e]
  exact .step rfl (.done ⟨rfl,rfl⟩)
 ·apply .neg (by simp;lia) ?_
  (apply bw (pA (text:=text) { m0 CN text start 10 with lastStart:=text.size} rfl rfl rfl (text.size+1 - start) start (({}:Sre.Seen).add 14) (by omega)) ?_;intro cF e)
  have e':admitted { m0 CN text start 10 with lastStart:=text.size} (text.size+1 - start) start { m0 CN text start 10 with lastStart:=text.size}.seen=.ok (ck (i0 text) text.size start,cF):=e
  have hf:(!M.hasFirstSet { m0 CN text start 10 with lastStart:=text.size})=false:=rfl
  unfold M.attemptFrom
  rw [hf]
  have e2:admitted { m0 CN text start 10 with lastStart:=text.size} ({ m0 CN text start 10 with lastStart:=text.size}.lim+1 - start) start { m0 CN text start 10 with lastStart:=text.size}.seen=.ok (ck (i0 text) text.size start,cF):=e
  rw [if_neg (by decide),e2]
  have hk:∀ p,ck (i0 text) text.size start=some p->p<text.size/\i0 text p=true:=λp=>iE
  unfold nz
  cases hq:ck (i0 text) text.size start with
  | none=>exact .step rfl (.done ⟨rfl,rfl⟩)
  | some p =>
   apply aC (hk p hq) λk1 k2=>?_
   have hc:text.getD p 0=13\/text.getD p 0=10:=by
    unfold i0 at k2
    rcases Bool.or_eq_true_iff.mp k2 with q | q
    ·exact .inr (eq_of_beq q)
    ·exact .inl (eq_of_beq q)
   apply .le (le_of_ble_eq_true rfl:100<=200) ((FZ (outer:=true) k1 hc cF).mono λm aM=>dj aM λa1 a2 a3 a4=>(aX a1 a2 a3 a4))
noncomputable def kZ (text:Array Nat) (i:Nat):Bool:=(i == 0||text.getD (i - 1) 0 == 10)&&text.getD i 0 == 46
noncomputable def fA (text:Array Nat) (s:Nat):Option (Nat×Nat):=(ck (kZ text) text.size s).map λp=>(p,p+1)
theorem F4{pos pc handed:Nat}{outer:Bool}{sn:Sre.Seen}:(ft CD text start pos pc handed outer [{ wait:=.nextStart,pc:=5,pos:=start,outermost:=outer}] 1 (some false) sn).step =
  if start<text.size then ft CD text (start+1) (start+1) 5 (start+1) false [{ wait:=.nextStart,pc:=5,pos:=start+1,outermost:=false}] 1 none sn else ft CD text start start 5 handed outer [] 0 (some false) sn:=rfl
theorem EZ:∀ (n s:Nat) (outer:Bool) (sn:Sre.Seen),s+n=text.size->Run (10 * n+20) (ft CD text s s 5 s outer [{ wait:=.nextStart,pc:=5,pos:=s,outermost:=outer}] 1 none sn) (sT (fA text s))
 | n,s,outer,sn,h=>by
  have no:∀ pc sn,(s<text.size->kZ text s=false)->Run (10 * n+16) (ft CD text s s pc s outer [{ wait:=.nextStart,pc:=5,pos:=s,outermost:=outer}] 1 (some false) sn) (sT (fA text s)):=by
   intro pc sn hd
   apply .le (le_refl (10 * n+15+1):(10 * n+15)+1<=_) (.step F4 ?_)
   cases n with
   | zero =>
    apply .neg (by lia) ?_
    have e:fA text s=none:=by unfold fA;rw [cU (by lia)];rfl
    rw [e]
    exact .le (le_add_left (0+1) 14:0+1<=_) (.step (AQ _ _) (.done ⟨rfl,rfl⟩))
   | succ n =>
    apply .pos (by lia) ?_
    have e:fA text s=fA text (s+1):=by unfold fA;rw [eH (by lia) (hd (by lia))]
    rw [e]
    exact .le (by lia) (EZ n (s+1) false sn (by lia))
  apply .le (le_refl (10 * n+19+1):(10 * n+19)+1<=_) (.step (HU (by decide) rfl rfl) ?_)
  by_cases hb:(s == 0||text.getD (s - 1) 0 == 10)=true
  ·apply .pos hb ?_
   apply .le (le_refl (10 * n+18+1):(10 * n+18)+1<=_) (.step (km (by decide) rfl) ?_)
   by_cases hl:s >= text.size
   ·apply .pos hl (.le (by lia) (no _ _ (by lia)))
   ·apply .neg hl ?_
    by_cases hd:text.getD s 0=46
    ·apply .pos (show (text.getD s 0 == 46)=true by rw [hd];rfl) ?_
     have e:fA text s=some (s,s+1):=by
      unfold fA
      rw [fj (lt_of_not_le hl) (by unfold kZ;rw [hb,hd];rfl)];rfl
     rw [e]
     apply .le (le_add_left (0+2+1) (10 * n+15):(0+2)+1<=_) (.step (iB (by decide) rfl) ?_)
     exact oB.mono λm bk=>dj bk λa1 a2 a3 a4=>(aX a1 a2 a3 a4)
    ·apply .neg (λq=>hd (eq_of_beq (show (text.getD s 0 == 46)=true from q))) (.le (by lia) (no _ _ λZ=>?_))
     unfold kZ
     rw [show (text.getD s 0 == 46)=false by simpa using hd,Bool.and_false]
  ·apply .neg hb (.le (by lia) (no _ _ λZ=>?_))
   unfold kZ
   rw [eq_false_iff.mpr hb,Bool.false_and]
theorem ur:forSearch CD text 0 start text.size false=if (decide (start > text.size)||decide (text.size - start<1))=true then (m0 CD text start 5).say false else { m0 CD text start 5 with lastStart:=text.size}.attemptFrom start true:=rfl
theorem AS(hs:start<=text.size):Run (10 * text.size+30) (forSearch CD text 0 start text.size false) (sT (fA text start)):=by
 rw [ur]
 by_cases h:text.size - start<1
 ·apply .pos (by simp [h]) ?_
  have e:fA text start=none:=by unfold fA;rw [cU (by lia)];rfl
  rw [e]
  exact .step rfl (.done ⟨rfl,rfl⟩)
 ·apply .neg (by simp;lia) ?_
  have hn:start+(text.size - start)=text.size:=by exact Nat.add_sub_of_le hs
  exact .le (by lia) (EZ (text:=text) (text.size - start) start true (({}:Sre.Seen).add 14) hn)
end
end
theorem jq:PlainAttrs "re.Pattern" :=
 ⟨(iDPP ("object.__getattribute__") (by rw [typeLookup_type,builtinLookup_eq_fast];rfl') (by decide +kernel)),by rw [typeLookup_type,builtinLookup_eq_fast];rfl'⟩
theorem fN:Slot "re.Pattern" "sub" "re.Pattern.sub" :=
 .of (owner:="re.Pattern") (n:="sub") (by rw [typeLookup_type,builtinLookup_eq_fast];rfl') (by decide +kernel) (by decide +kernel) (by decide +kernel)
  (by first | exact .inl (by decide +kernel) | exact .inr (by decide +kernel)) (by rw [isSubtype_type];rfl')
theorem k7:typeOf (.builtin "re.Pattern.sub")=pure (.type "method_descriptor"):=by show builtinType _=_;rw [builtinType_eq_fast];rfl'
theorem j7:entryFor table "re.Pattern.sub"=some Builtin.«re.Pattern.sub»:=entryFor_of_tree rfl
theorem fZ:entryFor table "re.Pattern.sub.loop"=some Builtin.«re.Pattern.sub.loop»:=entryFor_of_tree rfl
theorem yP:Manifest.owners.lookup (String.ofList ['n','r','e','t','t','a','P','.','e','r'].reverse)=some Manifest.sig_re_Pattern:=by rfl'
theorem k8(a b c:Value):argsOk "re.Pattern.sub" ⟨[a,b,c],[]⟩:=by
 unfold argsOk;rw [signature?_of (id:="re.Pattern.sub") (n:=['b','u','s']) (o:=['n','r','e','t','t','a','P','.','e','r']) rfl yP];rfl'
theorem cO:plainId "re.Pattern.sub.loop"=true:=by decide +kernel
theorem uu:typeLookup (.type "str") "__call__"=pure none:=by rw [typeLookup_type,builtinLookup_eq_fast];rfl'
theorem hD{prog:Program}{w:World}{A:Around}{E:Value->Shared->Prop}{s:Shared}{T:String}{name:Str}{id:String}{b:Builtin}{self:Value}{rest:List Value}{Q:Value->Shared->Prop}(h:Slot T name id)(hT:s.TypeIs self T)(hb:entryFor table id=some b)(hc:wpAny (model prog w) A.in1 (b ⟨self::rest,[]⟩) (λfin s'=>match fin with | .done f=>(match (Except.ok f:Result) with | .ok (.ret v)=>Q v s' | .ok _=>False | .error e=>E e s') | .again c'=>c'.quiet=true/\codeAny (model prog w) A c' (λr s'=>match r with | .ok (.ret v)=>Q v s' | .ok _=>False | .error e=>E e s') s') E s)(ha:argsOk id ⟨self::rest,[]⟩):wpAny (model prog w) A (call (.builtin id) (self::rest)) Q E s:=by
 apply wpAny_call (codeAny_call_builtin h.plain hb (h.check _ _ _ _ _ _ _ _ hT ha (wpAny_mono hc (λfin s' h'=>?_) λZ Z h'=>h')))
 cases fin with
 | done f=>exact h'
 | again c=>exact h'
open PySem.Builtin.Re in
structure sU(h:Heap)(p:Addr)(C:Array Nat)(l:Addr):Prop where
 ex:∃ fs d sl cl oc items n,h.get? p=some ⟨.type "re.Pattern",d,.fields fs,sl⟩/\fs.getD 5 .none=.ref cl/\reRawNat (fs.getD 6 .none)=0/\reRawNat (fs.getD 2 .none)=0/\h.get? cl=some oc/\oc.data=.seq items n/\(items.map reRawOf).map (·.toNat)=C/\p≠l/\cl≠l
theorem sU.keeps{h h':Heap}{p:Addr}{C:Array Nat}{l:Addr}(P:sU h p C l)(hk:∀ b o,b≠l->h.get? b=some o->h'.get? b=some o):sU h' p C l:=by
 apply gw P.ex λfs d sl cl oc items n h1 h2 h3 h4 h5 h6 h7 h8 h9=>?_
 exact ⟨fs,d,sl,cl,oc,items,n,hk _ _ h8 h1,h2,h3,h4,hk _ _ h9 h5,h6,h7,h8,h9⟩
theorem sU.typeIs{s:Shared}{p:Addr}{C:Array Nat}{l:Addr}(P:sU s.heap p C l):s.TypeIs (.ref p) "re.Pattern":=by
 apply oR P.ex λfs d sl cl oc items n h1 Z=>?_
 exact (iDPP _ h1 rfl)
section
open PySem.Builtin.Re
variable {prog:Program}{w:World}{A:Around}{E:Value->Shared->Prop}{s:Shared}{p:Addr}{C:Array Nat}{x:Str}{t:Tok}
noncomputable def Mk (p:Addr) (C:Array Nat) (x:Str) (t:Tok):ReTarget:={ pattern:=.ref p,string:=.str x t,code:=C,text:=x.cps,kind:=0,groups:=0,pos:=0,lim:=x.cps.size}
theorem jr{l:Addr}{Q:ReTarget->Shared->Prop}(P:sU s.heap p C l)(h:Q (Mk p C x t) s):wpAny (model prog w) A (reWholeTarget (.ref p) (.str x t)) Q E s:=by
 apply gw P.ex λfs d sl cl oc items n h1 h2 h3 h4 h5 h6 h7 Z Z=>?_
 unfold reWholeTarget
 apply wpAny_bind (wpAny_fieldsOf h1 rfl ?_)
 show wpAny _ _ (do
  let (text,kind) <- (pure (x.cps,0):Sem (Array Nat×Nat))
  _) _ _ _
 apply wpAny_bind (wpAny_pure ?_)
 dsimp only
 rw [h3]
 apply wpAny_bind (wpAny_pure ?_)
 rw [h2]
 unfold reRawItems
 apply wpAny_bind (wpAny_bind (wpAny_seqItems h5 h6 (wpAny_pure ?_)))
 apply wpAny_pure ?_
 show Q { pattern:=.ref p,string:=.str x t,code:=(items.map reRawOf).map (·.toNat),text:=x.cps,kind:=0,groups:=reRawNat (fs.getD 2 .none),pos:=0,lim:=x.cps.size} s
 rw [h4,h7]
 exact h
theorem k9{m:Sre.M}{o:Option (Nat×Nat)}{B:Nat}{Q:Option Sre.M->Shared->Prop}(R:Run B m (sT o))(hB:B<=2 ^ 60)(h:∀ m',sT o m'->Q (match o with | some _=>some m' | none=>none) s):wpAny (model prog w) A (reRunToEnd m) Q E s:=by
 apply aj R λN hN hs=>?_
 unfold reRunToEnd
 apply wpAny_bind (j5 (2 ^ 64) N m (by lia) (Nat.two_pow_pos 64) hs.1 ?_)
 have loop:wpAny (model prog w) A (forIn (List.range Sre.names.size) PUnit.unit λi r=>if (iter N m).seen.has i=true then do { rule (Sre.names.getD i "");pure (ForInStep.yield PUnit.unit)} else pure (ForInStep.yield PUnit.unit)) (λZ s'=>s'=s) E s:=by
  apply wpAny_forIn_list _ (λZ Z s'=>s'=s) (λZ s'=>s'=s) (λi rest b s₁ hI=>?_) (λb s₁ hI=>hI) _ _ rfl
  rw [hI]
  by_cases hh:(iter N m).seen.has i=true
  ·rw [if_pos hh];exact wpAny_bind (wpAny_rule (wpAny_pure rfl))
  ·rw [if_neg hh];exact wpAny_pure rfl
 apply wpAny_bind (wpAny_mono loop (λb s₁ hI=>?_) λZ Z e=>e)
 rw [hI]
 have q:=h _ hs
 cases o with
 | none=>rw [hs.2];exact wpAny_pure q
 | some pe=>rw [hs.2.1];exact wpAny_pure q
def AU(C:Array Nat)(next:Array Nat->Nat->Option (Nat×Nat)):Prop:=∀ text start,start<=text.size->text.size<=2 ^ 40->∃ B,B<=2 ^ 60/\Run B (Sre.forSearch C text 0 start text.size false) (sT (next text start))
theorem F5:AU CN nz:=λtext start h Z=>(iDPP 200 (le_of_ble_eq_true rfl) (AR h))
theorem F6:AU CD fA:=λtext start h hz=>(iDPP (10 * text.size+30) (by lia) (AS h))
inductive Pcs(next:Array Nat->Nat->Option (Nat×Nat))(text:Array Nat)(repl:Str):Nat->List Str->Prop
 | stop {d:Nat} (h:next text d=none):Pcs next text repl d (if d<text.size then [⟨text.extract d text.size⟩] else [])
 | more {d p e:Nat} {ps:List Str} (h:next text d=some (p,e)) (h1:d<=p) (h2:p<e) (h3:e<=text.size) (k:Pcs next text repl e ps):Pcs next text repl d ((if d<p then [⟨text.extract d p⟩] else [])++repl::ps)
theorem js{text:Array Nat}{b e:Nat}{Q:Value->Shared->Prop}(hz:text.size<=sizeLine)(h:∀ t k,Q (.str ⟨text.extract b e⟩ t) {s with toks:=k}):wpAny (model prog w) A (reSlice text 0 b e) Q E s:=by
 show wpAny _ _ (mkStr ⟨text.extract b e⟩) _ _ _
 apply wpAny_mkStr (h _ _) ?_
 show (text.extract b e).size<=sizeLine
 rw [size_extract];exact le_trans (sub_le ..) (le_trans (Nat.min_le_right ..) (by assumption))
noncomputable def sumLen (ss:List Str):Nat:=(ss.map (·.length)).sum
noncomputable def lg (p:Addr) (x:Str) (t:Tok) (r:Str) (rt:Tok) (n d:Nat) (l:Addr):Args:=⟨[.ref p,.str x t,.str r rt,rawInt 0,rawInt 0,rawInt n,rawInt d,rawInt d,.bool false,.ref l,.bool false],[]⟩
theorem iF{l:Addr}{vs:Array Value}{v:Value}{Q:Unit->Shared->Prop}(hl:PlainL s.heap l vs)(hz:vs.size<=16777216)(h:∀ h',PlainL h' l (vs.push v)->(∀ b o,b≠l->s.heap.get? b=some o->h'.get? b=some o)->Q () {s with heap:=h'}) :
  wpAny (model prog w) A (updateSeq l λx=>x.push v) Q E s:=by
 apply cJ (id hl) λo n ho hc hdn hd=>?_
 apply bw (Obj.data_mapSeq hd (·.push v)) λn' nY=>?_
 apply wpAny_updateSeq ho hd (h _ ?_ λb o' hb e=>((SameBut.update ..).2 b hb).trans e) (by unfold sizeLine;omega) (by rw [Array.size_push];unfold sizeLine;exact add_le_add_right hz 1)
 apply ⟨_,n',get?_update_self _ ho (Obj.isFreed_of_seq nY),(Obj.cls_mapSeq ..).trans hc,?_,nY⟩
 obtain ⟨c,d,dt,sl⟩:=o
 subst hd
 exact hdn
theorem strs_snoc{vs:Array Value}{ss:List Str}{x:Str}{t:Tok}(h:StrsAre vs.toList ss):StrsAre (vs.push (.str x t)).toList (ss++[x]):=by
 rw [toList_push]
 have:∀ {l:List Value} {ss:List Str},StrsAre l ss->StrsAre (l++[.str x t]) (ss++[x]):=by
  intro l ss h
  induction h with
  | nil=>exact .cons x t .nil
  | cons y u _ ih=>exact .cons y u ih
 exact this h
theorem AV{l:List Value}{ss:List Str}(h:StrsAre l ss):l.length=ss.length:=by
 induction h with
 | nil=>rfl
 | cons y u _ ih=>simp [ih]
theorem lh{l:Addr}{next:Array Nat->Nat->Option (Nat×Nat)}{d:Nat}{Q:Option Sre.M->Shared->Prop}(hS:AU C next)(hz:x.length<=1000000)(hd:d<=x.cps.size)(h:∀ m',sT (next x.cps d) m'->Q (match next x.cps d with | some _=>some m' | none=>none) s) :
  wpAny (model prog w) A (reNextFound (Mk p C x t) d false) Q E s:=by
 (apply aj (hS x.cps d hd (le_trans hz (le_of_ble_eq_true rfl))) ?_;intro B hB hr)
 exact k9 hr hB h
noncomputable def rI (x:Str) (l:Addr) (n:Nat):Sem Fin:=do
 let AW <- reSlice x.cps 0 0 0
 let it <- seqItems? (.ref l)
 if (it.getD #[]).isEmpty=true then do
  let text <- pure AW
  if false=true then do
   let v <- holding [text] (do let k <- mkInt n;newTuple [text,k])
   ret v
  else ret text
 else do
  let text <- call (.builtin (if (0 == 0)=true then "str.join" else "bytes.join")) [AW,.ref l]
  if false=true then do
   let v <- holding [text] (do let k <- mkInt n;newTuple [text,k])
   ret v
  else ret text
theorem oC{l:Addr}{n:Nat}{Φ:Fin->Shared->Prop}{acc:List Str}{vs:Array Value}(hl:PlainL s.heap l vs)(ha:StrsAre vs.toList acc)(hs:sumLen acc<=16777216)(hc:acc.length<=16777216)(hR:∀ k t',Φ (.done (.ret (.str (join (ofString "") acc) t'))) {s with toks:=k}) :
  wpAny (model prog w) A (rI x l n) Φ E s:=by
 unfold rI
 apply wpAny_bind ?_
 show wpAny _ _ (mkStr ⟨x.cps.extract 0 0⟩) _ _ _
 apply wpAny_mkStr ?_ (by show (x.cps.extract 0 0).size<=_;simp)
 apply cJ (id hl) λo m ho nZ hdn hd=>?_
 apply wpAny_bind (wpAny_seqItems (s:={s with toks:=s.toks+1}) ho hd ?_)
 have e0:(⟨x.cps.extract 0 0⟩:Str)=ofString "":=by
  have:x.cps.extract 0 0=#[]:=by exact Array.extract_zero
  rw [this];rfl
 rw [e0]
 by_cases he:vs=#[]
 ·subst he
  cases ha
  rw [if_pos (show (((some #[]:Option (Array Value)).getD #[]).isEmpty=true) from rfl)]
  apply wpAny_bind (wpAny_pure ?_)
  rw [if_neg (by decide)]
  exact wpAny_pure (hR _ _)
 ·rw [if_neg (by simpa using he)]
  apply wpAny_bind (wpAny_mono (Q:=λv s'=>∃ t' k,v=.str (join (ofString "") acc) t'/\s'={s with toks:=k}) (join_list (s:={s with toks:=s.toks+1}) (items:=vs) (bh o ho nZ m hd) ha ?_ λt' k=>(ez t' k rfl rfl)) (λv s' aM=>bW aM λt' k e1 e2=>?_) λZ Z e=>e)
  ·show sumLen acc+acc.length * 0<=_
   omega
  ·subst e1 e2
   rw [if_neg (by decide)]
   exact wpAny_pure (hR _ _)
theorem Dr{next:Array Nat->Nat->Option (Nat×Nat)}{r:Str}{rt:Tok}{l:Addr}{R:Result->Shared->Prop}(hS:AU C next)(hz:x.length<=1000000){d:Nat}{ps:List Str}(K:Pcs next x.cps r d ps) :
  ∀ (s:Shared) (n:Nat) (acc:List Str) (vs:Array Value),sU s.heap p C l->PlainL s.heap l vs->StrsAre vs.toList acc->sumLen (acc++ps)<=16777216->acc.length+ps.length<=16777216->d<=x.cps.size ->
   (∀ h' k t',(∀ b o,b≠l->s.heap.get? b=some o->h'.get? b=some o)->R (.ok (.ret (.str (join (ofString "") (acc++ps)) t'))) {s with heap:=h',toks:=k}) ->
   codeAny (model prog w) A (.builtin "re.Pattern.sub.loop" (lg p x t r rt n d l)) R s:=by
 induction K with
 | @stop d hn =>
  intro s n acc vs P hl ha qN oh hd hR
  apply codeAny_builtin fZ ?_
  rw [under_plainId cO _]
  unfold Builtin.«re.Pattern.sub.loop»
  dsimp only [lg,rawInt]
  apply wpAny_bind (jr P ?_)
  apply wpAny_bind (wpAny_bind (wpAny_pure ?_))
  rw [if_neg (ne_true_of_eq_false rfl)]
  apply wpAny_pure ?_
  rw [show ((d:Int)).toNat=d from rfl,if_neg (ne_true_of_eq_false rfl)]
  apply wpAny_bind (lh (l:=l) hS hz hd λm' hm=>?_)
  rw [hn]
  dsimp only
  show wpAny _ _ (if d<x.cps.size then (do let v <- reSlice x.cps 0 d x.cps.size;updateSeq l (λx=>x.push v);rI x l n) else rI x l n) _ _ _
  obtain ⟨KQ⟩:Nonempty (vs.size=acc.length):=⟨by simpa using AV ha⟩
  by_cases i4:d<x.cps.size
  ·rw [if_pos i4] at qN oh hR ⊢
   apply wpAny_bind (js (le_trans hz (by unfold sizeLine;lia)) λu k=>?_)
   apply wpAny_bind (iF hl (by rw [KQ];exact le_of_succ_le oh) λh' iU kp=>?_)
   exact oC (s:={s with heap:=h',toks:=k}) iU (strs_snoc ha) qN (by simpa using oh) λk' t'=>hR h' k' t' kp
  ·rw [if_neg i4] at qN oh hR ⊢
   rw [append_nil] at qN hR
   exact oC hl ha qN (Nat.le_of_add_right_le oh) λk' t'=>hR s.heap k' t' λZ Z Z e=>e
 | @more d p0 e ps hn h1 h2 h3 k ih =>
  intro s n acc vs P hl ha qN oh hd hR
  apply codeAny_builtin fZ ?_
  rw [under_plainId cO _]
  unfold Builtin.«re.Pattern.sub.loop»
  dsimp only [lg,rawInt]
  apply wpAny_bind (jr P ?_)
  apply wpAny_bind (wpAny_bind (wpAny_pure ?_))
  rw [if_neg (ne_true_of_eq_false rfl)]
  apply wpAny_pure ?_
  rw [show ((d:Int)).toNat=d from rfl,if_neg (ne_true_of_eq_false rfl)]
  apply wpAny_bind (lh (l:=l) hS hz hd λm' hm=>?_)
  rw [hn] at hm ⊢
  dsimp only
  obtain ⟨-,-,NO,NP⟩:=hm
  rw [NO,NP,show (e == p0)=false by simp;exact Nat.ne_of_lt' h2]
  have KQ:vs.size=acc.length:=by exact strsAre_size ha
  have rest:∀ (s1:Shared) (vV:List Str) (je:Array Value),sU s1.heap p C l->PlainL s1.heap l je->StrsAre je.toList vV->sumLen ((vV++[r])++ps)<=16777216->(vV++[r]).length+ps.length<=16777216 ->
    (∀ h' k t',(∀ b o,b≠l->s1.heap.get? b=some o->h'.get? b=some o)->R (.ok (.ret (.str (join (ofString "") ((vV++[r])++ps)) t'))) { s1 with heap:=h',toks:=k}) ->
    wpAny (model prog w) A.in1 (do
     updateSeq l λx=>x.push (.str r rt)
     again (.builtin "re.Pattern.sub.loop" (lg p x t r rt (n+1) e l))) (λfin s'=>match fin with | .done f=>R (.ok f) s' | .again c'=>c'.quiet=true/\codeAny (model prog w) A c' R s') (λe s'=>R (.error e) s') s1:=by
   intro s1 vV je P' iU Ml Ak F7 NQ
   have KR:je.size=vV.length:=by exact strsAre_size Ml
   apply wpAny_bind (iF iU (by rw [KR];simp at F7;lia) λh' t4 kp=>?_)
   apply wpAny_pure ⟨plainId_quiet cO _,?_⟩
   exact ih { s1 with heap:=h'} (n+1) (vV++[r]) _ (P'.keeps kp) t4 (strs_snoc Ml) Ak F7 h3 λHW k t' E0=>NQ HW k t' λb o hb q=>E0 b o hb (kp b o hb q)
  by_cases i4:d<p0
  ·rw [if_pos i4] at qN oh hR ⊢
   apply wpAny_bind (js (le_trans hz (by unfold sizeLine;lia)) λu k'=>?_)
   apply wpAny_bind (iF hl (by rw [KQ];simp at oh;exact Nat.le_of_add_right_le oh) λh' iU kp=>?_)
   rw [if_pos (show ((0:Int) == 0)=true from rfl)]
   apply wpAny_bind (wpAny_pure ?_)
   rw [if_pos (show (Value.str r rt != Value.none)=true from rfl)]
   apply rest {s with heap:=h',toks:=k'} (acc++[⟨x.cps.extract d p0⟩]) _ (P.keeps kp) iU (strs_snoc ha) (by simpa using qN) (by simp at oh ⊢;lia) λHW k2 t' E0=>?_
   have:=hR HW k2 t' λb o hb q=>E0 b o hb (kp b o hb q)
   simpa using this
  ·rw [if_neg i4] at qN oh hR ⊢
   rw [if_pos (show ((0:Int) == 0)=true from rfl)]
   apply wpAny_bind (wpAny_pure ?_)
   rw [if_pos (show (Value.str r rt != Value.none)=true from rfl)]
   apply rest s acc vs P hl ha (by simpa using qN) (by simp at oh ⊢;lia) λHW k2 t' E0=>?_
   have:=hR HW k2 t' E0
   simpa using this
end
open PySem.Builtin.Re in
def uv(K:PySem.W.Frag)(p:Addr)(C:Array Nat):Prop:=∃ fs sl cl oc items n,K.lookup p=some ⟨.type "re.Pattern",none,.fields fs,sl⟩/\fs.getD 5 .none=.ref cl/\reRawNat (fs.getD 6 .none)=0/\reRawNat (fs.getD 2 .none)=0/\K.lookup cl=some oc/\oc.data=.seq items n/\(items.map reRawOf).map (·.toNat)=C
section
open PySem.Builtin.Re
variable {p:Addr}{C:Array Nat}
theorem uv.here(P:uv X.K p C)(K:X.K.In s.heap){l:Addr}(hl:s.heap.get? l=none):sU s.heap p C l:=by
 apply jd P λfs sl cl oc items n h1 h2 h3 h4 h5 h6 h7=>?_
 constructor
 exact ⟨fs,none,sl,cl,oc,items,n,(K _ _ h1),h2,h3,h4,(K _ _ h5),h6,h7,(λz=>absurd (K _ _ h1) (by rw [z,hl];simp)),(λz=>absurd (K _ _ h5) (by rw [z,hl];simp))⟩
theorem uv.Ds(P:uv X.K p C){Θ:V->List V->Cells->Prop}(h:Θ (.bi "re.Pattern.sub") [.ref p] cells):jl X A (.ref p) "sub" Θ cells :=
 fT (T:="re.Pattern") jq fN k7 (λown s v I r=>by
  apply RV.e0 r rfl ?_
  apply q7 P λfs sl cl oc items n h1 Z=>?_
  exact ⟨⟨_,I.K _ _ h1,rfl⟩,λa q=>by cases q;exact (iDPP _ (I.K _ _ h1) rfl)⟩) h
theorem AX(a b:Value):reNamed "re.Pattern.sub" "sub" ["repl","string","count"] 2 [a,b] []=pure [some a,some b,none]:=by rfl
theorem E1{next:Array Nat->Nat->Option (Nat×Nat)}{r x:Str}{ps:List Str}(P:uv X.K p C)(hS:AU C next)(hr:r.cps.contains 92=false)(K:Pcs next x.cps r 0 ps)(hz:x.length<=1000000)(hs:sumLen ps<=16777216)(hc:ps.length<=16777216)(h:Ψ (.str (join (ofString "") ps)) cells):aD X A (.bi "re.Pattern.sub") [.ref p,.str r,.str x] Ψ cells:=λfv vs own s I ⟨rf,rs⟩=>by
 apply RV.e0 rf rfl ?_
 (apply ay rs.cW ?_;intro v1 je aM;rw [aM];intro r1 rs)
 (apply ay rs.two ?_;intro v2 v3 bk;rw [bk];intro r2 r3)
 apply RV.e0 r1 rfl ?_;apply RV.e1 r2 rfl λZ=>?_;apply RV.e1 r3 rfl λZ=>?_
 rename_i t2 t3
 have PH:=P.here I.K (ak s.heap)
 apply hD fN PH.typeIs j7 ?_ (k8 _ _ _)
 unfold Builtin.«re.Pattern.sub» reSubstitute
 dsimp only
 rw [AX]
 apply wpAny_bind (wpAny_pure ?_)
 dsimp only
 apply wpAny_bind (wpAny_pure ?_)
 apply wpAny_bind (wpAny_specialOf (typeIs_str _ _ _) uu ?_)
 rw [if_neg (show ¬ ((none:Option Value).isSome=true) by decide)]
 apply wpAny_bind (wpAny_pure ?_)
 dsimp only
 apply wpAny_bind (wpAny_pure ?_)
 rw [if_neg (show ¬ ((none:Option Value).isSome=true) by decide),hr]
 rw [if_pos (show ((!false)=true) from rfl)]
 apply wpAny_bind (wpAny_pure ?_)
 dsimp only
 apply wpAny_bind (wpAny_holding (jr PH ?_))
 rw [if_neg (show ¬ (((0:Int) == 1)=true) by decide)]
 apply wpAny_bind (wpAny_newList ?_ (by decide))
 apply wpAny_pure ⟨plainId_quiet cO _,?_⟩
 have HX:∀ b o,s.heap.get? b=some o->(s.heap.push { cls:=.type "list",data:=.seq ([]:List Value).toArray}).get? b=some o:=λb o e=>get?_push_of_some _ e
 apply Dr (l:=s.heap.objs.size) (n:=0) (acc:=[]) (vs:=#[]) hS hz K {s with heap:=s.heap.push { cls:=.type "list",data:=.seq ([]:List Value).toArray}} ?_ ?_ .nil hs (by simpa using hc) (zero_le _) λh' k t' kp=>?_
 ·exact PH.keeps λb o Z e=>HX b o e
 ·exact (d9 _ _ (get?_push_size _ rfl) rfl rfl rfl)
 ·apply mb_end (b:=.str _) I rfl (λb o e=>kp b o (λz=>?_) (HX b o e)) (.str _ _) h
  rw [z,ak] at e;exact bf e
end
section
open PySem.W (findIn findObj plainGet hasDictIn noGet typeIn InstAt lookIn clsIn plainOver takerIn slotIn isClsIn specialIn takesIn)
section
theorem mz{o:Obj}{es:Array DictEntry}{ep:Nat}{m:Str->Option Value}{name:Str}(hd:o.data=.dict es ep)(hk:StrKeys es)(hf:∀ name,nsFind es name=m name):lookIn name o=some (m name):=by
 unfold PySem.W.lookIn
 rw [hd]
 dsimp only
 have:=hf name
 unfold nsFind findBy at this
 rw [<- Array.find?_toList] at this
 cases q:es.toList.find? (λe=>e.key.isStr name) with
 | some e=>rw [q] at this;rw [<- this];rfl
 | none =>
  rw [q] at this
  have hr:¬ (es.toList.any (·.refKey)=true):=by
   rw [any_eq_true]
   (intro aM;apply aj aM ?_;clear aM;intro e he hr)
   apply ij (hk e (by exact Array.mem_def.mpr he)) λn t Hr=>?_
   unfold DictEntry.refKey at hr
   rw [Hr] at hr;exact Bool.noConfusion hr
  dsimp only
  rw [if_neg hr,<- this];rfl
structure lj(K:PySem.W.Frag)(C:Addr):Prop where
 get:findIn K (.ref C) "__getattribute__"=some (some (.builtin "object.__getattribute__"))
 noAttr:findIn K (.ref C) "__getattr__"=some none
 set:findIn K (.ref C) "__setattr__"=some (some (.builtin "object.__setattr__"))
 over:plainOver K C=true
 cls:isClsIn K C=true
def HY(X:Cx)(C:Addr)(name:Str):Prop:=hasDictIn X.K C=true/\findIn X.K (.ref C) name=some none/\takerIn X.K C name=some none
def xE(v:V):Prop:=match v with | .bi _=>False | _=>True
theorem rJ{h:Heap}{v:Value}{x:V}(r:RV own h v x)(n:xE x):PySem.W.handedIn v=true:=by
 cases r <;> first | rfl | exact n.elim
def xF(X:Cx)(A:Around)(a:V)(name:Str)(Ψ:V->Cells->Prop)(cells:Cells):Prop:=∀ v,mb X A RV (λown h=>RV own h v a) (getAttr v name true) Ψ cells
abbrev KT(X:Cx)(A:Around)(attr:Str)(Ψ:V->Loc->Cells->Prop)(a:V)(l:Loc)(c:Cells):Prop:=xF X A a attr (λr c'=>Ψ r l c') c
theorem m_attr{value:Expr}{attr:Str}{pos:Pos}{Ψ:V->Loc->Cells->Prop}(h:mE X A env (eval value env) (KT X A attr Ψ) loc cells)(he:autoParam (eval (.Attribute value attr pos) env=(do let o <- eval value env;standAt pos.atName;let r <- holding [o] (getAttr o attr true);letTemporaryGo value o r;pure r)) aR):mE X A env (eval (.Attribute value attr pos) env) Ψ loc cells:=λown s I =>
 Attribute_any_ (h.use I λown1 l1 c1 a v s1 I1 r1 x1 h1=>(h1 v).lY I1 r1 λaG c2 b v2 s2 I2 r2 x2 h2=>⟨aG,l1,c2,b,I2,r2,x1.trans x2,h2⟩) he
theorem oD{a C:Addr}{fs:List (Str×V)}(I:Base X own cells s)(hc:cells a=some (.inst C fs)):∃ d m sl od,InstAt s.heap a ⟨.ref C,some d,.plain,sl⟩ C (some od)/\own a=some a/\own d=some a/\d≠a/\s.heap.Ns1 d m/\(∀ x,lookIn x od=some (m x)) /\
  (∀ x,(fs.lookup x=none->m x=none)/\(∀ mv,fs.lookup x=some mv->∃ v,m x=some v/\RV own s.heap v mv)):=by
 apply vG (I.cell a _ hc) λoa d m sl e od ne hn r=>?_
 apply q8 (id hn) λo es ep eo hd hk Z hf=>?_
 exact ⟨d,m,sl,o,(⟨e,rfl,rfl,eo⟩),oa,od,ne,hn,(λx=>mz hd hk hf),r⟩
theorem bP{a C:Addr}{fs:List (Str×V)}{name:Str}{mv:V}(hc:cells a=some (.inst C fs))(hl:fs.lookup name=some mv)(hn:xE mv)(K:lj X.K C)(O:HY X C name)(h:Ψ mv cells):xF X A (.ref a) name Ψ cells:=λv own s I r=>by
 apply RV.e0 r rfl ?_
 apply fD (oD I hc) λd m sl od IA oa odd ne ns lk vals=>?_
 apply aj ((vals name).2 mv hl) λv hv rv=>?_
 apply PySem.W.get_value I.K IA K.get (PySem.W.findObj_own (attr:=none) O.1 O.2.1 rfl (by rw [lk,hv])) (rJ rv hn) ?_
 exact aw I rv h
theorem kn{a C f:Addr}{fs:List (Str×V)}{name:Str}{Θ:V->List V->Cells->Prop}(hc:cells a=some (.inst C fs))(hl:fs.lookup name=none)(K:lj X.K C)(hf:findIn X.K (.ref C) name=some (some (.ref f)))(ht:typeIn X.K (.ref f)=some (.type "function"))(h:Θ (.ref f) [.ref a] cells) :
  jl X A (.ref a) name Θ cells:=λv pl own s I r=>by
 apply RV.e0 r rfl ?_
 apply fD (oD I hc) λd m sl od IA oa odd ne ns lk vals=>?_
 apply PySem.W.method_fn I.K IA K.get K.noAttr hf ht ?_ ⟨own,cells,(.ref f,[.ref a]),I,⟨.ref f,.cons (.ref a) .nil⟩,.refl,h⟩
 show (lookIn name od).map (·.isSome)=some false
 rw [lk,(vals name).1 hl];rfl
noncomputable def sV:List (Str×V)->Str->V->List (Str×V)
 | [],n,v=>[(n,v)]
 | (m,u)::r,n,v=>if m == n then (n,v)::r else (m,u)::sV r n v
theorem nA{n:Str}{v:V}{x:Str}:∀ {fs:List (Str×V)},(sV fs n v).lookup x=if x == n then some v else fs.lookup x
 | []=>by rw [sV,lookup_cons]
 | (m,u)::r=>by
  rw [sV]
  by_cases h:(m == n)=true
  ·have:m=n:=eq_of_beq h
   subst this
   rw [if_pos h,lookup_cons,lookup_cons]
   by_cases hx:(x == m)=true
   ·rw [if_pos hx,if_pos hx]
   ·rw [if_neg hx,if_neg hx,if_neg hx]
  ·rw [if_neg h,lookup_cons,lookup_cons,nA (fs:=r)]
   by_cases hx:(x == m)=true
   ·rw [if_pos hx,if_pos hx]
    have:¬ ((x == n)=true):=λq=>h (by rw [<- eq_of_beq hx];exact q)
    rw [if_neg this]
   ·rw [if_neg hx,if_neg hx]
def Dt(X:Cx)(A:Around)(a:V)(name:Str)(mv:V)(Ψ:Cells->Prop)(cells:Cells):Prop:=∀ v u,mb X A RU (λown h=>RV own h v a/\RV own h u mv) (setAttr v name u) (λZ c=>Ψ c) cells
theorem iG{a C:Addr}{fs:List (Str×V)}{name:Str}{mv:V}{Ψ:Cells->Prop}(hc:cells a=some (.inst C fs))(K:lj X.K C)(O:HY X C name)(hz:fs.length<=1000)(h:Ψ (upd cells a (some (.inst C (sV fs name mv))))):Dt X A (.ref a) name mv Ψ cells:=λv u own s I ⟨r,ru⟩=>by
 apply RV.e0 r rfl ?_
 apply fD (oD I hc) λd m sl od IA oa odd ne ns lk vals=>?_
 (apply aj (PySem.W.any_some (show (clsIn X.K C).any (·.hasDict)=true from O.1)) ?_;intro cd F8 HZ)
 apply set_plain I.K IA K.set ?_
 apply PySem.W.osa_open (s:={s with toks:=s.toks+1}) I.K IA K.over O.2.2 λb=>?_
 obtain ⟨hx,nZ,hn,hd⟩:=id IA
 apply wpAny_bind (wpAny_pure (wpAny_bind (wpAny_bind (wpAny_loadPart hx (wpAny_bind ((PySem.W.looks_clsIn (M:=model X.prog X.w) (show X.K.In ({s with toks:=s.toks+1}:Shared).heap from I.K) F8).here ?_))))))
 rw [HZ]
 apply wpAny_pure (a:=some d) (wpAny_bind (wpAny_pure (wpAny_bind ?_)))
 apply wpAny_nsSet1 (s:={s with toks:=s.toks+1}) ns λh' F9 vD=>?_
 have wi:Within m (fs.map (·.1)):=λy hy=>by
  cases q:fs.lookup y with
  | none=>exact absurd ((vals y).1 q) hy
  | some KU =>
   obtain ⟨l1,l2,e,-⟩:=List.lookup_eq_some_iff.mp q
   rw [e];simp
 apply eg (F9.count (wi.cons name u)) λo' HF PK e' nY FX=>?_
 apply wpAny_bind (wpAny_lookBehind (s:=⟨h',_,_,_,_⟩) e' (by rw [nY];exact pastItsLine_dict (by simp at FX;unfold sizeLine;lia)) (wpAny_pure ?_))
 have kp:∀ b o,own b≠some a->s.heap.get? b=some o->h'.get? b=some o:=λb o n e=>(vD.2 b (λz=>n (z▸odd))).trans e
 have th:∀ b o,s.heap.get? b=some o->∃ o',h'.get? b=some o':=λb o e=>by
  by_cases z:b=d
  ·obtain ⟨o',_,_,e',_⟩:=F9;exact (bJ o' (z▸e'))
  ·exact (bJ o ((vD.2 b z).trans e))
 have rv:∀ v x,RV own s.heap v x->RV own h' v x:=λv x r=>r.mono (λb o e q Z=>kp b o (by rw [q];exact Ne.symm (some_ne_none a)) e) λZ Z Z e=>e
 have cell:b9 X.prog X.w own h' a (.inst C (sV fs name mv)):=by
  apply (ma d _ sl ((vD.2 a (λz=>ne z.symm)).trans hx) odd ne F9 (λx=>?_))
  rw [nA]
  by_cases JG:(x == name)=true
  ·have:x=name:=eq_of_beq JG
   subst this
   rw [if_pos JG]
   exact ⟨λq=>(by exact dc q),λKU q=>(iDPP u (if_pos rfl) (by cases q;exact rv _ _ ru))⟩
  ·rw [if_neg JG]
   have fK:x≠name:=λz=>JG (by rw [z];exact beq_self_eq_true _)
   rw [if_neg fK]
   exact ⟨(vals x).1,λKU q=>let ⟨v,a1,a2⟩:=(vals x).2 KU q;(iDPP v a1 (rv _ _ a2))⟩
 exact ⟨own,_,(),I.cellSet (λZ Z Z=>rfl) (λb d e n=>(n e).elim) kp th oa cell,trivial,cS (λZ Z Z=>rfl) kp th (.inl (Cell.eV hc rfl)),h⟩
end
end
section
open PySem.W (findIn findObj plainGet hasDictIn noGet typeIn InstAt lookIn clsIn plainOver takerIn slotIn isClsIn specialIn takesIn)
section
structure jt(K:PySem.W.Frag)(C:Addr)(name:Str)(p i:Nat):Prop where
 at_:findIn K (.ref C) name=some (some (.ref p))
 get:specialIn K (.ref p) "__get__"=some (some (.builtin "member_descriptor.__get__"))
 takes:takesIn K (.ref p)=some true
 slot:slotIn K p C=some i
 H0:takerIn K C name=some (some (.ref p))
 typ:typeIn K (.ref p)=some (.type "member_descriptor")
 small:i<1000
theorem xG{a C:Addr}{fs:List (Option V)}(I:Base X own cells s)(hc:cells a=some (.slots C fs)):∃ d sl od,InstAt s.heap a ⟨.ref C,some d,.plain,sl⟩ C (some od)/\own a=some a/\own d=some a/\d≠a/\s.heap.Ns d (λZ=>none)/\sl.size=fs.length /\
  (∀ (i:Nat) (v:Option Value) (x:Option V),sl[i]?=some v->fs[i]?=some x->(v=none/\x=none)\/∃ u y,v=some u/\x=some y/\RV own s.heap u y):=by
 apply vH (I.cell a _ hc) λoa d sl e od ne hn hz r=>?_
 apply eD (id hn) λo es ep eo hd hk hf=>?_
 exact ⟨d,sl,o,(⟨e,rfl,rfl,eo⟩),oa,od,ne,hn,hz,r⟩
theorem at_slots{a C:Addr}{fs:List (Option V)}{name:Str}{p i:Nat}{mv:V}(hc:cells a=some (.slots C fs))(hl:fs[i]?=some (some mv))(hn:xE mv)(K:lj X.K C)(S:jt X.K C name p i)(h:Ψ mv cells):xF X A (.ref a) name Ψ cells:=λv own s I r=>by
 apply RV.e0 r rfl ?_
 apply nh (xG I hc) λd sl od IA oa odd ne ns hz vals=>?_
 have hi:i<sl.size:=by rw [hz];exact (List.getElem?_eq_some_iff.mp hl).1
 obtain ⟨u,hu,ru⟩:∃ u,sl[i]?=some (some u)/\RV own s.heap u mv:=by
  rcases vals i sl[i] (some mv) (Array.getElem?_eq_getElem hi) hl with ⟨-,q⟩ | ⟨u,y,q1,q2,q3⟩
  ·exact dc q
  ·obtain rfl:=cK q2;exact (iDPP u (by rw [Array.getElem?_eq_getElem hi,q1]) q3)
 exact get_bind I.K IA K.get (PySem.W.findObj_data K.cls S.at_ S.get S.takes) K.noAttr (wpAny_call (PySem.W.slot_get (s:={s with toks:=s.toks+1}) I.K IA S.slot (by rw [hu];rfl) (handed_on (rJ ru hn) (aw I ru h))))
noncomputable def bQ (fs:List (Option V)) (i:Nat) (mv:V):List (Option V):=(fs++replicate (i+1 - fs.length) none).set i (some mv)
noncomputable def vW (h:Heap) (a d:Addr):List (Addr×Obj):=(List.range h.objs.size).filterMap λb=>if b=a\/b=d then none else (h.get? b).map λo=>(b,o)
theorem ko{h:Heap}{a d b:Addr}{o:Obj}:(b,o)∈vW h a d↔b≠a/\b≠d/\h.get? b=some o:=by
 unfold vW
 rw [List.mem_filterMap]
 constructor
 ·rintro ⟨c,-,hc⟩
  split at hc
  ·exact bf hc
  ·rename_i q
   rw [map_eq_some_iff] at hc
   (apply aj hc ?_;try clear hc;intro o' e e2)
   cases e2
   exact ⟨λz=>q (.inl z),λz=>q (.inr z),e⟩
 ·(intro aM;apply bq aM ?_;clear aM;intro h1 h2 e)
  apply (iDPP b (mem_range.mpr (lt_size e)) ?_)
  rw [if_neg (λq=>q.elim h1 h2),e];rfl
theorem lq{α:Type}{c:Prop}[Decidable c]{a b:α}(h:(if c then some a else none)=some b):a=b:=by
 by_cases q:c
 ·rw [if_pos q] at h;exact cK h
 ·rw [if_neg q] at h;exact bf h
theorem yQ{sl:Array (Option Value)}{fs:List (Option V)}{i:Nat}{u:Value}{y:V}(hz:sl.size=fs.length):((sl++Array.replicate (i+1 - sl.size) none).setIfInBounds i (some u)).size=(bQ fs i y).length:=by
 unfold bQ;simp [hz]
theorem yR{R:Option Value->Option V->Prop}{sl:Array (Option Value)}{fs:List (Option V)}{i:Nat}{u:Value}{y:V}(hz:sl.size=fs.length)(vals:∀ (j:Nat) v x,sl[j]?=some v->fs[j]?=some x->R v x)(h0:R none none)(h1:R (some u) (some y))(j:Nat)(v:Option Value)(x:Option V)(hv:((sl++Array.replicate (i+1 - sl.size) none).setIfInBounds i (some u))[j]?=some v)(hx:(bQ fs i y)[j]?=some x):R v x:=by
 rw [Array.getElem?_setIfInBounds] at hv
 rw [bQ,getElem?_set] at hx
 by_cases hj:i=j
 ·rw [if_pos hj] at hv hx
  exact lq hv▸lq hx▸h1
 ·rw [if_neg hj] at hv hx
  by_cases i4:j<sl.size
  ·rw [Array.getElem?_append_left i4] at hv
   rw [List.getElem?_append_left (Nat.lt_of_lt_of_eq i4 hz)] at hx
   exact vals j v x hv hx
  ·rw [Array.getElem?_append_right (le_of_not_lt i4),Array.getElem?_replicate] at hv
   rw [getElem?_append_right (le_of_not_lt (hz▸i4)),List.getElem?_replicate] at hx
   exact lq hv▸lq hx▸h0
theorem gb{a C:Addr}{fs:List (Option V)}{name:Str}{p i:Nat}{mv:V}{Ψ:Cells->Prop}(hc:cells a=some (.slots C fs))(K:lj X.K C)(S:jt X.K C name p i)(h:Ψ (upd cells a (some (.slots C (bQ fs i mv))))):Dt X A (.ref a) name mv Ψ cells:=λv u own s I bk=>aC bk λr ru=>by
 apply RV.e0 r rfl ?_
 apply nh (xG I hc) λd sl od IA oa odd ne ns hz vals=>?_
 have hx:=IA.at_
 have N:News {} d s.heap ([]++(a,(⟨.ref C,some d,.plain,sl⟩:Obj))::vW s.heap a d):=λq hq=>by
  rcases mem_cons.mp hq with rfl | hq
  ·exact ⟨hx,λz=>ne z.symm,rfl⟩
  ·obtain ⟨b,o⟩:=q
   apply bq (ko.mp hq) λh1 h2 e=>?_
   exact ⟨e,h2,rfl⟩
 have F:Fr {} d s.heap (λZ=>none):=⟨ns,λb o e=>absurd e (by simp [get?]),zero_le _⟩
 apply set_plain I.K IA K.set (PySem.W.osa_descr (s:={s with toks:=s.toks+1}) PySem.W.KF.slot_mset I.K IA K.over S.H0 S.typ (PySem.W.slot_set (s:={s with toks:=s.toks+1}) F N I.K IA S.slot S.small (λZ h=>(nomatch h)) (λq hq=>(ko.mp hq).1) rfl rfl λh' F' N'=>?_))
 have kp:∀ b o,b≠a->b≠d->s.heap.get? b=some o->h'.get? b=some o:=λb o h1 h2 e=>(N' (b,o) (mem_cons_of_mem _ (ko.mpr ⟨h1,h2,e⟩))).1
 have ha:=(N' (a,_) (mem_cons_self)).1
 have H2:∀ b o,own b≠some a->s.heap.get? b=some o->h'.get? b=some o:=λb o n e=>kp b o (λz=>n (z▸oa)) (λz=>n (z▸odd)) e
 have th:∀ b o,s.heap.get? b=some o->∃ o',h'.get? b=some o':=λb o e=>by
  by_cases z:b=a
  ·exact (bJ _ (z▸ha))
  ·by_cases z2:b=d
   ·obtain ⟨o',_,_,e',_⟩:=F'.ns;exact (bJ o' (z2▸e'))
   ·exact (bJ o (kp b o z z2 e))
 have rv:∀ v x,RV own s.heap v x->RV own h' v x:=λv x r=>r.mono (λb o e q Z=>H2 b o (by rw [q];simp) e) λZ Z Z e=>e
 have cell:b9 X.prog X.w own h' a (.slots C (bQ fs i mv)):=fQ d _ ha odd ne F'.ns (yQ hz) λj v x hv hx =>
  yR (R:=λv x=>(v=none/\x=none)\/∃ u y,v=some u/\x=some y/\RV own h' u y) hz (λj v x p q=>(vals j v x p q).imp id λz=>ay z λu y a b c=>aH u y a b (rv _ _ c)) (.inl ⟨rfl,rfl⟩) (.inr (aH u mv rfl rfl (rv _ _ ru))) j v x hv hx
 exact ⟨own,_,(),I.cellSet (λZ Z Z=>rfl) (λb d e n=>(n e).elim) H2 th oa cell,trivial,cS (λZ Z Z=>rfl) H2 th (.inl (Cell.eV hc rfl)),h⟩
end
end
section
open PySem.W (findIn typeIn makesIn)
section
def gc(X:Cx)(A:Around)(f:V)(args:List V)(Ψ:V->Cells->Prop)(cells:Cells):Prop:=∀ own s fv vs,Base X own cells s->RV own s.heap fv f->bV own s.heap vs args->∀ R:Result->Shared->Prop,
 (∀ own' cells' b v s',Base X own' cells' s'->RV own' s'.heap v b->Ext qH own cells s.heap own' cells' s'.heap->Ψ b cells'->R (.ok (.ret v)) s')->codeAny (model X.prog X.w) A (.call fv ⟨vs,[]⟩) R s
theorem gc.call{f:V}{args:List V}(h:gc X A f args Ψ cells):aD X A f args Ψ cells:=λfv vs own s I aM=>aC aM λrf rs =>
 wpAny_call (h own s fv vs I rf rs _ λown' c' b v s' B r x p=>⟨own',c',b,B,r,x,p⟩)
theorem Du{k:Nat}{a:Addr}{qual:Str}{st:Stmt}{names:List Str}{as:List V}{Ψ:V->Cells->Prop}(F:Fn X a qual st)(hA:Rm X A (k+1))(hb:∀ doc pm an cdv ct,∀ vs:List Value,vs.length=as.length->bindArgs (fnOf (fnName st) qual (bz st) (aF st) (ai st) .none .none doc pm an cdv ct) ⟨vs,[]⟩=pure (names.zip vs))(h:∀ L cdv A',Rm (X.push L) A' k->mS (X.push L) A' (bY qual (ai st) L a cdv) (execs (aF st) (bY qual (ai st) L a cdv)) (Back Ψ) (names.zip as) cells)(cq:autoParam ((ai st).kind=.function) aR)(qJ:autoParam ((ai st).isCoroutine=false) aR)(mf:autoParam ((ai st).isGenerator=false) aR)(ji:autoParam (names.Nodup) aDK)(fh:autoParam ((ai st).names.all (λx=>x.2 != .free)=true) aDK)(jj:autoParam (names.all (λx=>(ai st).names.lookup x == some .local||(ai st).names.lookup x == some .cell)=true) aDK) :
  gc X A (.ref a) as Ψ cells:=by
 apply jH F λdoc pm an cdv ct F=>?_
 intro own s fv vs I rf rs R hR
 apply RV.e0 rf rfl ?_
 apply jW F.at_ λoc od FC ho=>?_
 apply codeAny_call_function (fd:=fnOf (fnName st) qual (bz st) (aF st) (ai st) .none .none doc pm an cdv ct) (by have:=hA.dep;exact lt_of_add_right_lt this) (I.K _ _ ho) rfl qJ mf rfl (codeRec_of I.K F.code) ?_
 rw [hb doc pm an cdv ct vs rs.1]
 apply wpAny_pure ?_
 exact g0 hA I rs cq ji fh jj (λL=>h L cdv _ (hA.deeper _ (by show (ai st).kind≠_;rw [cq];decide) rfl)) λown' c' s' mv v p r b x=>hR own' c' mv v s' b r x p
structure pB(K:PySem.W.Frag)(C fI:Addr):Prop where
 makes:makesIn K C=true
 init:findIn K (.ref C) "__init__"=some (some (.ref fI))
 fn:typeIn K (.ref fI)=some (.type "function")
theorem Rm.under{k:Nat}{C:Addr}{vs:List Value}(h:Rm X A (k+1)):Rm X (A.under (.builtin "type.__call__" ⟨.ref C::vs,[]⟩)) k :=
 ⟨h.hh,by have:=h.dep;show A.depth+1+k<_;lia,by have:=h.un;show A.units+1+10 * k<_;lia,h.fr⟩
theorem E3{k:Nat}{C fI:Addr}{args:List V}{c0:Cell}(M:pB X.K C fI)(hA:Rm X A (k+1))(h0:c0=.inst C []\/c0=.slots C [])(h:∀ a A',cells a=none->Rm X A' k->gc X A' (.ref fI) (.ref a::args) (λr c=>r=.none/\Ψ (.ref a) c) (upd cells a (some c0))):aD X A (.ref C) args Ψ cells:=λfv vs own s I bk=>aC bk λrf rs=>by
 apply RV.e0 rf rfl ?_
 apply wpAny_call ?_
 obtain ⟨hh,g,dr,t,os⟩:=s
 apply PySem.W.make_core (PySem.W.makes_of I.K M.makes) (PySem.W.looks_findIn I.K M.init) (λself=>PySem.W.bind_fn I.K self M.fn) (.inl rfl) ?_
 have z1:(hh.push emptyDict).objs.size=hh.objs.size+1:=size_push ..
 have kp:∀ b o,hh.get? b=some o->((hh.push emptyDict).push (instObj C hh.objs.size)).get? b=some o:=λb o e=>get?_push_of_some _ (get?_push_of_some _ e)
 have ed:((hh.push emptyDict).push (instObj C hh.objs.size)).get? hh.objs.size=some emptyDict:=get?_push_of_some _ (get?_push_size _ rfl)
 have ea:((hh.push emptyDict).push (instObj C hh.objs.size)).get? (hh.objs.size+1)=some (instObj C hh.objs.size):=by rw [<- z1];exact get?_push_size _ rfl
 generalize (hh.push emptyDict).push (instObj C hh.objs.size)=h2 at kp ed ea ⊢
 have n0:hh.get? hh.objs.size=none:=ak hh
 have n1:hh.get? (hh.objs.size+1)=none:=fJ (le_add_right hh.objs.size 1)
 have f0:=I.fresh (b:=hh.objs.size) n0
 have f1:=I.fresh (b:=hh.objs.size+1) n1
 obtain ⟨own',ho⟩:∃ own':Own,own'=λb=>if b=hh.objs.size\/b=hh.objs.size+1 then some (hh.objs.size+1) else own b:=(bJ _ rfl)
 have oe:∀ b o,hh.get? b=some o->own' b=own b:=λb o e=>by
  rw [ho];dsimp only
  rw [if_neg (λq=>q.elim (λz=>by rw [z,n0] at e;exact bf e) (λz=>by rw [z,n1] at e;exact bf e))]
 have od:own' hh.objs.size=some (hh.objs.size+1):=by rw [ho];simp
 have oa:own' (hh.objs.size+1)=some (hh.objs.size+1):=by rw [ho];simp
 have EO:h2.Ns1 hh.objs.size (λZ=>none):=Heap.Ns1.of_empty (oN _ (#[]) 0 ed rfl (λe he=>by simp at he) (λZ=>rfl))
 have cell:b9 X.prog X.w own' h2 (hh.objs.size+1) c0:=by
  rcases h0 with rfl | rfl
  ·exact (ma hh.objs.size _ (#[]) ea od (ne_of_lt (lt_succ_self _)) EO (λx=>⟨λZ=>rfl,λmv q=>by simp at q⟩))
  ·exact (fQ hh.objs.size (#[]) ea od (ne_of_lt (lt_succ_self _)) EO.ns rfl (λi v x q=>by simp at q))
 have cn:cells (hh.objs.size+1)=none:=by
  cases q:cells (hh.objs.size+1) with
  | none=>rfl
  | some c=>have:=(I.cell _ c q).1;rw [f1.1] at this;exact bf this
 have th:∀ b o,hh.get? b=some o->∃ o',h2.get? b=some o':=λb o e=>(bJ o (kp b o e))
 have B:Base X own' (upd cells (hh.objs.size+1) (some c0)) ⟨h2,g,dr,t,os⟩:=I.cellSet (h':=h2) (t:=t) oe (λb d e n=>by
  rw [ho] at e;dsimp only at e
  split at e
  ·rename_i q
   rcases q with rfl | rfl
   ·exact (iPDP f0.2 _ ed)
   ·exact (iPDP f1.2 _ ea)
  ·exact (n e).elim) (λb o Z e=>kp b o e) th oa cell
 have x0:Ext qH own cells hh own' (upd cells (hh.objs.size+1) (some c0)) h2:=cS (s:=⟨hh,g,dr,t,os⟩) oe (λb o Z e=>kp b o e) th (.inr n1)
 apply h (hh.objs.size+1) _ cn hA.under own' ⟨h2,g,dr,t,os⟩ (.ref _) (.ref _::vs) B (.ref _) (.cons (.ref _) (rs.ub x0)) _ λaG c2 b v s2 B2 r2 x2 bN=>aC bN λe2 p2=>?_
 subst e2
 apply RV.e0 r2 rfl ?_
 exact ⟨rfl,aG,c2,.ref _,B2,.ref _,x0.trans x2,p2⟩
end
end
section
abbrev NR(X:Cx)(A:Around)(attr:Str)(v:V)(Ψ:MF->Loc->Cells->Prop)(ov:V)(l:Loc)(c:Cells):Prop:=Dt X A ov attr v (λc3=>Ψ .next l c3) c
abbrev NS(X:Cx)(A:Around)(env:Env)(o:Expr)(attr:Str)(Ψ:MF->Loc->Cells->Prop)(v:V)(l:Loc)(c:Cells):Prop:=mE X A env (eval o env) (NR X A attr v Ψ) l c
theorem br{o e:Expr}{attr:Str}{p' p:Pos}{Ψ:MF->Loc->Cells->Prop}(h:mE X A env (eval e env) (NS X A env o attr Ψ) loc cells)(hs:autoParam (swapsWith e (some (.Attribute o attr p')) p.line env=pure false) aR) :
  mS X A env (exec (.Assign [.Attribute o attr p'] e p) env) Ψ loc cells:=λown s I=>by
 rw [plainObj_exec_Assign_Attribute _ _ _ _ _ hs]
 apply wpAny_bind (wpAny_standAt (wpAny_bind (h.use I λown1 l1 c1 b v s1 I1 r1 x1 h1=>wpAny_bind ?_)))
 apply PySem.W.kas_attr (h1.use I1 λaG l2 c2 ov v2 s2 I2 r2 x2 h2=>?_)
 exact (h2 v2 v).lY I2 ⟨r2,r1.ext I1 x2⟩ λbX c3 Z Z s3 I3 Z x3 h3=>wpAny_pure ⟨bX,l2,c3,.next,I3,.next,x1.trans (x2.trans x3),h3⟩
def pC(X:Cx)(A:Around)(a i mv:V)(Ψ:Cells->Prop)(cells:Cells):Prop:=∀ v iv u,mb X A RU (λown h=>RV own h v a/\RV own h iv i/\RV own h u mv) (setItem v iv u) (λZ c=>Ψ c) cells
abbrev JH(X:Cx)(A:Around)(v:V)(Ψ:Loc->Cells->Prop)(ov iv:V)(l:Loc)(c:Cells):Prop:=pC X A ov iv v (λc4=>Ψ l c4) c
abbrev Mm(X:Cx)(A:Around)(env:Env)(i:Expr)(v:V)(Ψ:Loc->Cells->Prop)(ov:V)(l:Loc)(c:Cells):Prop:=mE X A env (eval i env) (JH X A v Ψ ov) l c
abbrev NT(X:Cx)(A:Around)(env:Env)(o i:Expr)(Ψ:MF->Loc->Cells->Prop)(v:V)(l:Loc)(c:Cells):Prop:=mE X A env (eval o env) (Mm X A env i v (Ψ .next)) l c
theorem j8{o i e:Expr}{p' p:Pos}{Ψ:MF->Loc->Cells->Prop}(h:mE X A env (eval e env) (NT X A env o i Ψ) loc cells)(hs:autoParam (swapsWith e (some (.Subscript o i p')) p.line env=pure false) aR) :
  mS X A env (exec (.Assign [.Subscript o i p'] e p) env) Ψ loc cells:=λown s I=>by
 rw [exec_Assign_Subscript _ _ _ _ _ hs]
 apply wpAny_bind (wpAny_standAt (wpAny_bind (h.use I λown1 l1 c1 b v s1 I1 r1 x1 h1=>wpAny_bind ?_)))
 apply kas_sub (h1.use I1 λaG l2 c2 ov v2 s2 I2 r2 x2 h2=>h2.use I2 λbX l3 c3 iv v3 s3 I3 r3 x3 h3=>?_)
 exact (h3 v2 v3 v).lY I3 ⟨r2.ext I2 x3,r3,(r1.ext I1 x2).ext I2 x3⟩ λeh c4 Z Z s4 I4 Z x4 h4=>wpAny_pure ⟨eh,l3,c4,.next,I4,.next,x1.trans (x2.trans (x3.trans x4)),h4⟩
noncomputable def eQ (es:List (Int×V)) (k:Int):Option V:=(es.find? λkv=>kv.1=k).map (·.2)
noncomputable def dput (es:List (Int×V)) (k:Int) (v:V):List (Int×V):=if es.any (λkv=>kv.1=k) then es.map (λkv=>if kv.1=k then (kv.1,v) else kv) else es++[(k,v)]
theorem gD(I:Base X own cells s){a:Addr}{c:Cell}(hc:cells a=some c):(a == sysModules)=false:=by
 apply beq_eq_false_iff_ne.mpr λz=>?_
 apply bw X.HB λo e=>?_
 have:=I.new a a (I.cell a c hc).1
 rw [z,e] at this;exact dc this
theorem nB{p:Pos}{Ψ:V->Loc->Cells->Prop}(h:∀ a,cells a=none->Ψ (.ref a) loc (upd cells a (some (.dict [])))):mE X A env (eval (.Dict [] [] p) env) Ψ loc cells:=λown s I =>
 wpAny_Dict_empty (by
  (apply bq (I.base.jN (t:=s.toks) (ob:={ cls:=.type "dict",data:=.dict #[]}) (c':=.dict []) rfl (aV ([]) (⟨_,(#[]),0,(get?_push_size _ rfl),(⟨rfl,rfl,rfl⟩),rfl,(λe he=>by simp at he),.nil,.nil⟩) rfl .nil)) ?_;intro B x n)
  exact ⟨_,loc,_,.ref _,⟨B,I.ok,I.fr.ext x⟩,.ref _,x.fF,h _ n⟩)
theorem eI{h:Heap}:∀ {bI:List (Int×Value)} {es:List (Int×V)},bI.map (·.1)=es.map (·.1)->bV own h (bI.map (·.2)) (es.map (·.2))->∀ k,(valueAt bI k=none/\eQ es k=none)\/∃ v x,valueAt bI k=some v/\eQ es k=some x/\RV own h v x
 | [],[],_,_,k=>.inl ⟨rfl,rfl⟩
 | [],_::_,e,_,_=>by simp at e
 | _::_,[],e,_,_=>by simp at e
 | (k1,v1)::bI,(k2,x2)::es,e,r,k=>by
  apply aC (List.cons.inj e) λe1 e2=>?_
  dsimp only at e1
  rw [<- e1]
  apply ay (bV.cW r) λv je q1 q2 q3=>?_
  obtain ⟨q4,q5⟩:=List.cons.inj q1
  subst q5
  dsimp only at q4
  subst q4
  unfold valueAt eQ
  rw [find?_cons,find?_cons]
  by_cases hk:k1=k
  ·subst hk
   simp only [decide_true]
   exact .inr (aH v1 x2 rfl rfl q2)
  ·simp only [hk,decide_false]
   exact eI e2 q3 k
theorem Ga{a:Addr}{es:List (Int×V)}{k:Int}{x:V}(hc:cells a=some (.dict es))(hx:eQ es k=some x)(h:Ψ x cells):iY X A (.ref a) (.int k) Ψ cells:=λo iv own s I ro ri=>by
 apply RV.e1 ri rfl λZ=>?_;apply RV.e0 ro rfl ?_
 apply dx (I.cell a _ hc) λoa bI hd e rs=>?_
 rcases eI e rs k with ⟨-,q⟩ | ⟨v,y,q1,q2,q3⟩
 ·rw [hx] at q;exact dc q
 ·rw [hx] at q2;obtain rfl:=cK q2
  exact (aH ("dict") _ slot_dict_getitem.lookup hd.typeIs (wpAny_getItem_of (k:=k) (intKind_is _ _ _ _) hd.mapOf q1 (aw I q3 h)))
theorem yS{a:Addr}{es:List (Int×V)}{k:Int}(hc:cells a=some (.dict es))(h:Ψ (.bool (eQ es k).isSome) cells):cR X A (compareOp .In) (.int k) (.ref a) Ψ cells:=λv u own s I ⟨r1,r2⟩=>by
 apply RV.e1 r1 rfl λZ=>?_;apply RV.e0 r2 rfl ?_
 apply dx (I.cell a _ hc) λoa bI hd e rs=>?_
 apply wpAny_in_of (k:=k) (intKind_is _ _ _ _) (gD I hc) hd.mapOf ?_
 have:(valueAt bI k).isSome=(eQ es k).isSome:=by
  rcases eI e rs k with ⟨q1,q2⟩ | ⟨v,y,q1,q2,q3⟩ <;> rw [q1,q2] <;> rfl
 rw [this]
 exact aw I (.bool _) h
theorem pD{own':Own}{h h':Heap}{k:Int}{u:Value}{mv:V}{bI:List (Int×Value)}{es:List (Int×V)}(e:bI.map (·.1)=es.map (·.1))(rs:bV own h (bI.map (·.2)) (es.map (·.2)))(rv:∀ v x,RV own h v x->RV own' h' v x)(ru:RV own h u mv) :
  (stored bI k u).map (·.1)=(dput es k mv).map (·.1)/\bV own' h' ((stored bI k u).map (·.2)) ((dput es k mv).map (·.2)):=by
 have any_eq:∀ {bI:List (Int×Value)} {es:List (Int×V)},bI.map (·.1)=es.map (·.1)->bI.any (λkv=>decide (kv.1=k))=es.any (λkv=>decide (kv.1=k)):=by
  intro bI es e
  have h1:bI.any (λkv=>decide (kv.1=k))=(bI.map (·.1)).any (λx=>decide (x=k)):=by rw [any_map];rfl
  have h2:es.any (λkv=>decide (kv.1=k))=(es.map (·.1)).any (λx=>decide (x=k)):=by rw [any_map];rfl
  rw [h1,h2,e]
 have map_eq:∀ {bI:List (Int×Value)} {es:List (Int×V)},bI.map (·.1)=es.map (·.1)->bV own h (bI.map (·.2)) (es.map (·.2))->(bI.map (λkv=>if kv.1=k then (kv.1,u) else kv)).map (·.1)=(es.map (λkv=>if kv.1=k then (kv.1,mv) else kv)).map (·.1) /\
   bV own' h' ((bI.map (λkv=>if kv.1=k then (kv.1,u) else kv)).map (·.2)) ((es.map (λkv=>if kv.1=k then (kv.1,mv) else kv)).map (·.2)):=by
  intro bI
  induction bI with
  | nil =>
   intro es e r
   cases es with
   | nil=>exact ⟨rfl,.nil⟩
   | cons _ _=>simp at e
  | cons p bI ih =>
   intro es e r
   cases es with
   | nil=>simp at e
   | cons q es =>
    obtain ⟨k1,v1⟩:=p
    obtain ⟨k2,x2⟩:=q
    apply aC (List.cons.inj e) λe1 e2=>?_
    dsimp only at e1
    rw [<- e1]
    apply ay (bV.cW r) λv je q1 q2 q3=>?_
    apply aC (List.cons.inj q1) λq4 q5=>?_
    subst q5
    dsimp only at q4
    subst q4
    apply aC (ih e2 q3) λi1 i2=>?_
    simp only [map_cons]
    by_cases hk:k1=k
    ·simp only [hk,if_true]
     exact ⟨congrArg _ i1,.cons (rv _ _ ru) i2⟩
    ·simp only [hk,if_false]
     exact ⟨congrArg _ i1,.cons (rv _ _ q2) i2⟩
 unfold stored dput
 rw [any_eq e]
 by_cases Dv:es.any (λkv=>decide (kv.1=k))=true
 ·rw [if_pos Dv,if_pos Dv];exact map_eq e rs
 ·rw [if_neg Dv,if_neg Dv]
  apply ⟨by simp [e],?_⟩
  rw [map_append,map_append]
  exact (rs.mono rv).append (.cons (rv _ _ ru) .nil)
theorem xH{a:Addr}{es:List (Int×V)}{k:Int}{mv:V}{Ψ:Cells->Prop}(hc:cells a=some (.dict es))(hz:es.length<=1000000)(h:Ψ (upd cells a (some (.dict (dput es k mv))))):pC X A (.ref a) (.int k) mv Ψ cells:=λv iv u own s I ⟨r,ri,ru⟩=>by
 apply RV.e0 r rfl ?_;apply RV.e1 ri rfl λZ=>?_
 apply dx (I.cell a _ hc) λoa bI hd e rs=>?_
 have hl:bI.length=es.length:=by have:=congrArg List.length e;simpa using this
 apply wpAny_setItem_pairs (k:=k) (intKind_is _ _ _ _) hd (λh' nY vD=>?_) (by rw [hl];unfold sizeLine;lia)
 have kp:∀ b o,b≠a->s.heap.get? b=some o->h'.get? b=some o:=λb o hb e=>(vD.2 b hb).trans e
 have rv:∀ v x,RV own s.heap v x->RV own h' v x:=λv x r=>fV I hc kp r
 have ha:∃ o,h'.get? a=some o:=cw nY λo Z Z e Z=>bJ o e
 have key:=pD (k:=k) e rs rv ru
 (apply aC (I.iX (t:=s.toks+1) hc kp ha (c':=.dict (dput es k mv)) (aV _ nY key.1 key.2)) ?_;intro B x)
 exact ⟨own,_,(),B,trivial,x,h⟩
end
section
theorem Gb{a:Addr}{es:List (Int×V)}{name:Str}{id:String}{Θ:V->List V->Cells->Prop}(hc:cells a=some (.dict es))(slot:Slot "dict" name id)(AN:typeOf (.builtin id)=pure (.type "method_descriptor"))(h:Θ (.bi id) [.ref a] cells):jl X A (.ref a) name Θ cells :=
 fT (T:="dict") PySem.F.plainAttrs_dict slot AN (λown s v I r=>by
  apply RV.e0 r rfl ?_
  apply dx (I.cell a _ hc) λoa bI hd e rs=>?_
  apply ⟨hd.typeIs,λb q=>?_⟩
  cases q
  apply eg hd λo es ep e x Z=>?_
  exact (iDPP o e x.2.1)) h
theorem Gd{a:Addr}{es:List (Int×V)}{k:Int}(hc:cells a=some (.dict es))(h:Ψ ((eQ es k).getD .none) cells):aD X A (.bi "dict.get") [.ref a,.int k] Ψ cells:=λfv vs own s I ⟨rf,r⟩=>by
 apply RV.e0 rf rfl ?_
 (apply ay r.two ?_;intro v u aM;rw [aM];intro r1 r2)
 apply RV.e0 r1 rfl ?_;apply RV.e1 r2 rfl λZ=>?_
 apply dx (I.cell a _ hc) λoa bI hd e rs=>?_
 apply call_meetsIn slot_dict_get hd.typeIs PySem.F.entry_dict_get (PySem.F.args_dict_get_2 _ _) (meets_dict_get (intKind X.prog X.w) a (intKind_is _ _ k _) (gD I hc)) (iDPP _ hd.mapOf ?_)
 rcases eI e rs k with ⟨q1,q2⟩ | ⟨v,y,q1,q2,q3⟩
 ·rw [q1];rw [q2] at h;exact aw I .xk h
 ·rw [q1];rw [q2] at h;exact aw I q3 h
theorem Ge(h:∀ a,cells a=none->Ψ (.ref a) (upd cells a (some (.set (λZ=>false) 0)))):aD X A (.ty "set") [] Ψ cells:=λfv vs own s I fR=>aC fR λrf r=>by
 apply RV.e0 rf rfl ?_
 rw [r.rh]
 apply call_set_0 λled=>?_
 (apply bq (I.jN (t:=s.toks) (ob:={ cls:=.type "set",dict:=none,data:=.set #[] 0 (.fresh 0 0 led)}) (c':=.set (λZ=>false) 0) rfl ⟨_,(#[]),0,(.fresh 0 0 led),(get?_push_size _ rfl),(⟨rfl,rfl,rfl⟩),rfl,(by intro e he;simp at he),(by intro k;simp),(by decide),rfl,rfl⟩) ?_;intro B x n)
 exact ⟨_,_,.ref _,B,.ref _,x,h _ n⟩
theorem uw{a:Addr}{S:Int->Bool}{n:Nat}{k:Int}(hc:cells a=some (.set S n))(h:Ψ (.bool (S k)) cells):cR X A (compareOp .In) (.int k) (.ref a) Ψ cells:=λv u own s I ⟨r1,r2⟩=>by
 apply RV.e1 r1 rfl λZ=>?_;apply RV.e0 r2 rfl ?_
 apply aC (I.cell a _ hc) λoa hS=>?_
 exact wpAny_inSet_of (k:=k) (intKind_is _ _ _ _) rfl hS (aw I (.bool _) h)
theorem yT{a:Addr}{S:Int->Bool}{n:Nat}{Θ:V->List V->Cells->Prop}(hc:cells a=some (.set S n))(h:Θ (.bi "set.add") [.ref a] cells):jl X A (.ref a) "add" Θ cells:=λv pl own s I r=>by
 apply RV.e0 r rfl ?_
 apply aC (I.cell a _ hc) λoa hS=>?_
 exact getMethod_set_add hS ⟨own,cells,(.bi "set.add",[.ref a]),I,⟨.bi _,.cons (.ref a) .nil⟩,.refl,h⟩
theorem yU{a:Addr}{S:Int->Bool}{n:Nat}{k:Int}(hc:cells a=some (.set S n))(hz:n<=4000)(h:Ψ .none (upd cells a (some (.set (λk'=>S k'||decide (k'=k)) (if S k then n else n+1))))):aD X A (.bi "set.add") [.ref a,.int k] Ψ cells:=λfv vs own s I ⟨rf,r⟩=>by
 apply RV.e0 rf rfl ?_
 (apply ay r.two ?_;intro v u cI;rw [cI];intro r1 r2)
 apply RV.e0 r1 rfl ?_;apply RV.e1 r2 rfl λZ=>?_
 apply aC (I.cell a _ hc) λoa hS=>?_
 apply call_set_add (k:=k) (intKind_is _ _ _ _) rfl hS (by unfold scanBound;lia) λh' vD Mn=>?_
 have kp:∀ b o,b≠a->s.heap.get? b=some o->h'.get? b=some o:=λb o hb e=>(vD.2 b hb).trans e
 (apply aC (I.iX (t:=s.toks+1) hc kp (jI Mn λo Z Z Z e Z=>bJ o e) (c':=.set _ _) Mn) ?_;intro B x)
 exact ⟨own,_,.none,B,.xk,x,h⟩
end
section
abbrev NU(X:Cx)(A:Around)(op:Operator)(attr:Str)(ov old:V)(Ψ:MF->Loc->Cells->Prop)(v:V)(l:Loc)(c:Cells):Prop:=cR X A (inplaceOp op) old v (λnew c4=>Dt X A ov attr new (λc5=>Ψ .next l c5) c4) c
abbrev NV(X:Cx)(A:Around)(env:Env)(value:Expr)(op:Operator)(attr:Str)(Ψ:MF->Loc->Cells->Prop)(ov:V)(l:Loc)(c:Cells):Prop:=xF X A ov attr (λold c2=>mE X A env (eval value env) (NU X A op attr ov old Ψ) l c2) c
theorem iH{o value:Expr}{attr:Str}{tp p:Pos}{op:Operator}{Ψ:MF->Loc->Cells->Prop}(h:mE X A env (eval o env) (NV X A env value op attr Ψ) loc cells) :
  mS X A env (exec (.AugAssign (.Attribute o attr tp) op value p) env) Ψ loc cells:=λown s I =>
 wpAny_AugAssign_AttributeAny (h.use I λown1 l1 c1 ov v1 s1 I1 r1 x1 h1=>(h1 v1).lY I1 r1 λaG c2 old v2 s2 I2 r2 x2 h2=>h2.use I2 λbX l3 c3 v v3 s3 I3 r3 x3 h3 =>
  (h3 v2 v3).lY I3 ⟨r2.ext I2 x3,r3⟩ λeh c4 new v4 s4 I4 r4 x4 h4=>(h4 v1 v4).lY I4 ⟨((r1.ext I1 x2).ext I2 x3).ext I3 x4,r4⟩ λvP c5 Z Z s5 I5 Z x5 h5 =>
   ⟨vP,l3,c5,.next,I5,.next,x1.trans (x2.trans (x3.trans (x4.trans x5))),h5⟩)
def Dw(X:Cx)(A:Around)(env:Env)(t:Expr)(mv:V)(Ψ:Loc->Cells->Prop)(loc:Loc)(cells:Cells):Prop :=
 ∀ u own s,Inv X env own loc cells s->RV own s.heap u mv->wpAny (model X.prog X.w) A (assign t env u) (λZ s'=>∃ own' gq cells',Inv X env own' gq cells' s'/\RV own' s'.heap u mv/\Ext (Fa env) own cells s.heap own' cells' s'.heap/\Ψ gq cells') gy s
theorem AY{x:Str}{p:Pos}{mv:V}{Ψ:Loc->Cells->Prop}(hk:env.kindOf x=some .local\/env.kindOf x=some .cell)(h:Ψ ((x,mv)::loc) cells):Dw X A env (.Name x p) mv Ψ loc cells:=λu own s I r=>by
 show wpAny _ _ (do standAt p;bindName env x u) _ _ _
 exact wpAny_bind (wpAny_standAt (wpAny_bindName (bu I r hk λs' I' x'=>(oN own _ cells I' (r.ext I x') x' h))))
theorem AZ{o i:Expr}{p:Pos}{mv:V}{Ψ:Loc->Cells->Prop}(h:mE X A env (eval o env) (Mm X A env i mv Ψ) loc cells):Dw X A env (.Subscript o i p) mv Ψ loc cells:=λu own s I r =>
 kas_sub (h.use I λaG l2 c2 ov v2 s2 I2 r2 x2 h2=>h2.use I2 λbX l3 c3 iv v3 s3 I3 r3 x3 h3 =>
  (h3 v2 v3 u).lY I3 ⟨r2.ext I2 x3,r3,(r.ext I x2).ext I2 x3⟩ λeh c4 Z Z s4 I4 Z x4 h4=>(oN eh l3 c4 I4 (((r.ext I x2).ext I2 x3).ext I3 x4) (x2.trans (x3.trans x4)) h4))
theorem yV{t1 t2 e:Expr}{p:Pos}{Ψ:MF->Loc->Cells->Prop}(h:mE X A env (eval e env) (λv l c=>Dw X A env t1 v (λl2 c2=>Dw X A env t2 v (λl3 c3=>Ψ .next l3 c3) l2 c2) l c) loc cells)(he:autoParam ((assignEach [t1,t2] env).map (·.2)=[assign t1 env,assign t2 env]) aR)(hw:autoParam (swappedStores [t1,t2] e env=pure none) aR) :
  mS X A env (exec (.Assign [t1,t2] e p) env) Ψ loc cells:=λown s I =>
 wpAny_Assign_two (h.use I λown1 l1 c1 b v s1 I1 r1 x1 h1=>wpAny_mono (h1 v own1 s1 I1 r1) (λZ s2 aM=>eD aM λaG l2 c2 I2 r2 x2 h2=>wpAny_mono (h2 v aG s2 I2 r2) (λZ s3 bk=>eD bk λbX l3 c3 I3 r3 x3 h3 =>
  ⟨bX,l3,c3,.next,I3,.next,x1.trans (x2.trans x3),h3⟩) λZ Z e=>e) λZ Z e=>e) he hw
end
section
theorem gE{test:Expr}{body orelse:List Stmt}{p:Pos}{Ψ:MF->Loc->Cells->Prop}(J:Nat->Loc->Cells->Prop)(n:Nat)(h0:J n loc cells)(turn:∀ n l c,J n l c->mT X A env (isTrue test env (eval test env)) (λb l c=>if b then mS X A env (execs body env) (mi (λl c=>∃ m,m<n/\J m l c) (λf l c=>match f with | .brk=>Ψ .next l c | f=>Ψ f l c)) l c else mS X A env (execs orelse env) Ψ l c) l c)
 :mS X A env (exec (.While test body orelse p) env) Ψ loc cells:=λaO s₀ I₀=>by
 let Res:Flow->Shared->Prop:=λf s'=>jh X env RF aO cells s₀.heap Ψ f s'
 apply wpAny_While (codeAny_whileLoop (I:=λk s=>∃ own l c,Inv X env own l c s/\Ext (Fa env) aO cells s₀.heap own c s.heap/\J k l c) (λk s aM=>eg aM λown l c I x j=>?_) n (iDDDPPP aO loc cells I₀ .refl h0))
 apply bZ ((turn k l c j).use I λown1 l1 c1 b v s1 I1 r1 x1 h1=>?_)
 have:v=b:=r1
 subst this
 cases v with
 | true =>
  rw [if_pos rfl] at h1 ⊢
  apply bZ (cL.use h1 I1 λaG l2 c2 f v2 s2 I2 r2 x2 h2=>?_)
  cases r2 with
  | next=>apply aj h2 λm hm j=>?_;exact (md m hm aG l2 c2 I2 (x.trans (x1.trans x2)) j)
  | cont=>apply aj h2 λm hm j=>?_;exact (md m hm aG l2 c2 I2 (x.trans (x1.trans x2)) j)
  | brk=>exact ⟨aG,l2,c2,.next,I2,.next,x.trans (x1.trans x2),h2⟩
  | ret q=>exact ⟨aG,l2,c2,.ret _,I2,.ret q,x.trans (x1.trans x2),h2⟩
 | false =>
  rw [if_neg (by decide)] at h1 ⊢
  exact bZ (cL.use h1 I1 λaG l2 c2 f v2 s2 I2 r2 x2 h2=>⟨aG,l2,c2,f,I2,r2,x.trans (x1.trans x2),h2⟩)
end
section
theorem bV.split{h:Heap}:∀ {xs:List V} {vs:List Value} {ys:List V},bV own h vs (xs++ys)->∃ v1 v2,vs=v1++v2/\bV own h v1 xs/\bV own h v2 ys
 | [],vs,ys,r=>(aH ([]) vs rfl .nil r)
 | x::xs,vs,ys,r=>by
  (apply ay (bV.cW r) ?_;intro v je aM;rw [aM];intro a b)
  obtain ⟨v1,v2,rfl,c,d⟩:=bV.split b
  exact (aH (v::v1) v2 rfl (.cons a c) d)
theorem ux{k:Nat}{a:Addr}{qual:Str}{st:Stmt}{names:List Str}{fixed rest:List V}{Ψ:V->Cells->Prop}(F:Fn X a qual st)(hA:Rm X A (k+1))(hz:rest.length<=sizeLine)(hb:∀ doc pm an cdv ct,∀ vs us:List Value,vs.length=fixed.length->bindArgs (fnOf (fnName st) qual (bz st) (aF st) (ai st) .none .none doc pm an cdv ct) ⟨vs++us,[]⟩=(do let t <- newTuple us;pure (names.zip (vs++[t]))))(h:∀ L cdv A',Rm (X.push L) A' k->mS (X.push L) A' (bY qual (ai st) L a cdv) (execs (aF st) (bY qual (ai st) L a cdv)) (Back Ψ) (names.zip (fixed++[.tuple rest])) cells)(cq:autoParam ((ai st).kind=.function) aR)(qJ:autoParam ((ai st).isCoroutine=false) aR)(mf:autoParam ((ai st).isGenerator=false) aR)(ji:autoParam (names.Nodup) aDK)(fh:autoParam ((ai st).names.all (λx=>x.2 != .free)=true) aDK)(jj:autoParam (names.all (λx=>(ai st).names.lookup x == some .local||(ai st).names.lookup x == some .cell)=true) aDK) :
  gc X A (.ref a) (fixed++rest) Ψ cells:=by
 (apply jH F ?_;try clear F;intro doc pm an cdv ct F)
 intro own s fv vs I rf rs R hR
 apply RV.e0 rf rfl ?_
 (apply ay rs.split ?_;intro v1 v2 bN;rw [bN];intro r1 r2)
 apply jW F.at_ λoc od FC ho=>?_
 apply codeAny_call_function (fd:=fnOf (fnName st) qual (bz st) (aF st) (ai st) .none .none doc pm an cdv ct) (by have:=hA.dep;exact lt_of_add_right_lt this) (I.K _ _ ho) rfl qJ mf rfl (codeRec_of I.K F.code) ?_
 rw [hb doc pm an cdv ct v1 v2 r1.1]
 apply wpAny_bind (wpAny_newTuple ?_ (by rw [r2.1];exact hz))
 apply wpAny_pure ?_
 obtain ⟨own1,c1,b,B,rt,xt,e⟩:=rD (Ψ:=λr c=>r=.tuple rest/\c=cells) (t:=s.toks) (vs:=v2.toArray) (xs:=rest) I (by simpa using r2) ⟨rfl,rfl⟩
 (apply aC e ?_;try clear e;intro e1 e2)
 subst e1 e2
 apply g0 hA B (bV.append (r1.ub xt) (.cons rt .nil)) cq ji fh jj (λL=>h L cdv _ (hA.deeper _ (by show (ai st).kind≠_;rw [cq];decide) rfl)) λown' c' s' mv v p r b x=>hR own' c' mv v s' b r (xt.trans x) p
theorem xI{E:Value->Shared->Prop}{v:Value}{a:V}{xs:List V}{Q:List Value->Shared->Prop}(I:Base X own cells s)(r:RV own s.heap v a)(ha:a=.list xs\/a=.tuple xs)(hz:xs.length<=sizeLine)(h:∀ h' vs,(∀ b o,s.heap.get? b=some o->h'.get? b=some o)->bV own s.heap vs xs->Q vs {s with heap:=h'}):StarOf (model X.prog X.w) A E v Q s:=by
 have fin:∀ (l:Addr) d (T:String) (vs:Array Value) n sl,(T="list"\/T="tuple")->s.heap.get? l=some ⟨.type T,d,.seq vs n,sl⟩->bV own s.heap vs.toList xs->StarOf (model X.prog X.w) A E (.ref l) Q s:=by
  intro l d T vs n sl hT ho rs
  have z:vs.size=xs.length:=by simpa using rs.1
  have Mo:s.TypeIs (.ref l) T:=(iDPP _ ho rfl)
  have c:wpAny (model X.prog X.w) A (collect (.ref l)) Q E s:=wpAny_collect_seq l hT ho rfl rfl (λh' hk=>h h' _ hk rs) (by lia)
  unfold StarOf notIterableAtAll
  rcases hT with rfl | rfl
  ·exact wpAny_bind (wpAny_specialOf Mo PySem.F.slot_list_iter.lookup (wpAny_pure ⟨rfl,c⟩))
  ·exact wpAny_bind (wpAny_specialOf Mo PySem.F.slot_tuple_iter.lookup (wpAny_pure ⟨rfl,c⟩))
 rcases ha with rfl | rfl
 ·(apply aA r.cN ?_;intro l d vs n sl cI;rw [cI];intro ho hn rs)
  exact fin l d _ vs n sl (.inl rfl) ho rs
 ·(apply aA r.gC ?_;intro l d vs n sl dH;rw [dH];intro ho hn rs)
  exact fin l d _ vs n sl (.inr rfl) ho rs
theorem Gf{e:Expr}{rest:List Expr}{p pos:Pos}{Ψ:List V->Loc->Cells->Prop}(h:mE X A env (eval e env) (λv l c=>∃ xs,(v=.list xs\/v=.tuple xs)/\xs.length<=sizeLine/\yy X A env (spliced (backTo pos (starEach rest env))) (λas l' c'=>Ψ (xs++as) l' c') l c) loc cells)(he:autoParam (starEach (.Starred e p::rest) env=(true,eval e env)::starEach rest env) aR):yy X A env (spliced (backTo pos (starEach (.Starred e p::rest) env))) Ψ loc cells:=λown s I=>by
 apply PySem.W.items_star (h.use I λown1 l1 c1 a v s1 I1 r1 x1 rA=>bM rA λxs ha hz h1=>xI I1.base r1 ha hz λh' vs kp rs=>?_) he
 have I2:Inv X env own1 l1 c1 { s1 with heap:=h'}:=⟨I1.base.keeps kp,I1.ok,I1.fr.ext (cells:=c1) (cells':=c1) (.of_keeps kp)⟩
 exact cL.use h1 I2 λbX l3 c3 as us s3 I3 r3 x3 h3=>⟨bX,l3,c3,xs++as,I3,bV.append ((rs.mono λZ Z q=>q.keeps kp).ext I2 x3) r3,x1.trans (Ext.trans (.of_keeps kp) x3),h3⟩
theorem A3{a:Addr}{xs:List V}{Φ:Bool->Cells->Prop}(hc:cells a=some (.list xs))(hz:xs.length<=sizeLine)(h:Φ (!xs.isEmpty) cells):oX X A (.ref a) Φ cells:=λv own s I r=>by
 apply RV.e0 r rfl ?_
 apply dQ (I.cell a _ hc) λoa vs n ho rs=>?_
 have hs:vs.size=xs.length:=by simpa using rs.1
 apply wpAny_truthy_list (items:=vs) (bh _ ho rfl n rfl) (by unfold sizeLine at hz;lia) ?_
 apply aw I ?_ h
 show _=_
 cases xs with
 | nil=>simp [eq_empty_of_size_eq_zero hs]
 | cons x r =>
  have:vs≠#[]:=by rintro rfl;simp at hs
  simp [this]
theorem pE{a:Addr}{xs:List V}(hc:cells a=some (.list xs))(hz:xs.length<=sizeLine)(h:Ψ (.int xs.length) cells):aD X A (.bi "len") [.ref a] Ψ cells:=λfv vs own s I kP=>aC kP λrf r=>by
 apply RV.e0 rf rfl ?_
 (apply aj r.one ?_;intro v fR;rw [fR];intro r1)
 apply RV.e0 r1 rfl ?_
 apply dQ (I.cell a _ hc) λoa vs n ho rs=>?_
 have z:vs.size=xs.length:=by simpa using rs.1
 apply Calls.call_len_list (items:=vs) (bh _ ho rfl n rfl) (by unfold sizeLine at hz;lia) ?_
 rw [z]
 exact aw I (.int _ _) h
theorem sW{a:Addr}{xs:List V}(hc:cells a=some (.list xs))(hz:xs.length<=sizeLine)(h:Ψ (.tuple xs) cells):aD X A (.ty "tuple") [.ref a] Ψ cells:=λfv vs own s I uc=>aC uc λrf r=>by
 apply RV.e0 rf rfl ?_
 (apply aj r.one ?_;intro v rz;rw [rz];intro r1)
 apply RV.e0 r1 rfl ?_
 apply dQ (I.cell a _ hc) λoa vs n ho rs=>?_
 have z:vs.size=xs.length:=by simpa using rs.1
 apply call_tuple_list (items:=vs) (bh _ ho rfl n rfl) (λh' kp=>?_) (by lia)
 have E0:∀ b o,s.heap.get? b=some o->(h'.push { cls:=.type "tuple",data:=.seq vs}).get? b=some o:=λb o e=>get?_push_of_some _ (kp b o e)
 apply mb_end (b:=.tuple xs) I (t:=s.toks) rfl E0 ?_ h
 apply .xy (get?_push_size _ rfl) ?_ (rs.mono λZ Z q=>q.keeps E0)
 apply (I.fresh ?_).1
 cases q:s.heap.get? h'.objs.size with
 | none=>rfl
 | some o=>exact absurd (lt_size (kp _ _ q)) (lt_irrefl _)
end
section
theorem bV.last{h:Heap}{vs:List Value}{xs:List V}{x:V}(r:bV own h vs (xs++[x])):∃ us u,vs=us++[u]/\bV own h us xs/\RV own h u x:=by
 induction xs generalizing vs with
 | nil =>
  (apply ay (bV.cW r) ?_;intro v je aM;rw [aM];intro r1 r2)
  have:=bV.rh r2
  rw [this]
  exact (aH ([]) v rfl .nil r1)
 | cons y ys ih =>
  (apply ay (bV.cW r) ?_;intro v je bk;rw [bk];intro r1 r2)
  apply ay (ih r2) λus u e q1 q2=>?_
  exact (aH (v::us) u (by rw [e];rfl) (.cons r1 q1) q2)
theorem E4{a:Addr}{xs:List V}{x:V}(hc:cells a=some (.list (xs++[x])))(hz:xs.length<1000)(h:Ψ x (upd cells a (some (.list xs)))):aD X A (.bi "list.pop") [.ref a] Ψ cells:=λfv vs own s I dH=>aC dH λrf r=>by
 apply RV.e0 rf rfl ?_
 (apply aj r.one ?_;intro v0 bN;rw [bN];intro r1)
 apply RV.e0 r1 rfl ?_
 apply dQ (I.cell a _ hc) λoa vs n e rs=>?_
 apply ay rs.last λus u e2 q1 q2=>?_
 have hv:vs=us.toArray.push u:=by
  apply toList_inj.mp
  rw [e2];simp
 subst hv
 apply Copied.pop_at (y:=u) e (last_push us.toArray u) (λh7 FI e7=>?_) (by have:=q1.1;simp [sizeLine] at *;lia)
 have kp:∀ b o,b≠a->s.heap.get? b=some o->h7.get? b=some o:=λb o hb e=>(FI.2 b hb).trans e
 have rv:∀ v x,RV own s.heap v x->RV own h7 v x:=λv x r=>fV I hc kp r
 (apply aC (I.iX (t:=s.toks) hc kp (bJ _ e7) (c':=.list xs) (ez _ (n+1) e7 (by simpa using q1.mono rv))) ?_;intro B xt)
 exact ⟨own,_,_,B,rv _ _ q2,xt,h⟩
theorem Dx{a:Addr}{xs:List V}(hc:cells a=some (.list xs))(hz:xs.length<1000)(h:Ψ .none (upd cells a (some (.list [])))):aD X A (.bi "list.clear") [.ref a] Ψ cells:=λfv vs own s I eC=>aC eC λrf r=>by
 apply RV.e0 rf rfl ?_
 (apply aj r.one ?_;intro v0 cI;rw [cI];intro r1)
 apply RV.e0 r1 rfl ?_
 apply dQ (I.cell a _ hc) λoa vs n e rs=>?_
 apply call_meets PySem.F.slot_list_clear (iDPP _ e rfl) PySem.F.entry_list_clear (PySem.F.args_list_clear_1 _) (PySem.AutoSeq1.list_clear_list_0 a vs n (by have:=rs.1;simp [sizeLine] at *;lia)) ⟨e,?_⟩
 have sb:SameBut a s.heap (s.heap.update a (mapSeq λZ=>#[])):=SameBut.update ..
 have kp:∀ b o,b≠a->s.heap.get? b=some o->(s.heap.update a (mapSeq λZ=>#[])).get? b=some o:=λb o hb e=>(sb.2 b hb).trans e
 have e7:=get?_update_seq (show s.heap.get? a=some (seqObj "list" vs n) from e) (λZ=>#[])
 (apply aC (I.iX (t:=s.toks) hc kp (bJ _ e7) (c':=.list []) (ez _ _ e7 bV.nil)) ?_;intro B xt)
 exact ⟨own,_,_,B,.xk,xt,h⟩
end
section
theorem qO{x y:Str}{p q tp pos:Pos}{k:Nat}{e:Expr}{Ψ:MF->Loc->Cells->Prop}(hh:A.handled=none)(hx:env.kindOf x=some .local\/env.kindOf x=some .cell)(hy:env.kindOf y=some .local\/env.kindOf y=some .cell)(h:mE X A env (eval e env) (λv l c=>∃ a b,v=.tuple [a,b]/\Ψ .next ((y,b)::(x,a)::l) c) loc cells)(hs:autoParam (swapsWithSole [.Tuple [.Name x p,.Name y q] k tp] e pos.line env=pure false) aR)(hw:autoParam (swappedStores [.Tuple [.Name x p,.Name y q] k tp] e env=pure none) aR) :
  mS X A env (exec (.Assign [.Tuple [.Name x p,.Name y q] k tp] e pos) env) Ψ loc cells:=λown s I =>
 Assign_Tuple (h.use I λown1 l1 c1 mv u1 s1 I1 r1 x1 aM=>bW aM λa b e1 h1=>by
  subst e1
  exact o8 hh hx hy own1 l1 c1 s1 u1 _ I1 r1 λs' I' x'=>⟨own1,_,c1,.next,I',.next,x1.trans x',h1⟩) hs hw
end
section
noncomputable def uy (es:List (Int×V)) (k:Int):List (Int×V):=es.filter λkv=>decide (kv.1≠k)
theorem A4{h h':Heap}{k:Int}{bI:List (Int×Value)}{es:List (Int×V)}(e:bI.map (·.1)=es.map (·.1))(r:bV own h (bI.map (·.2)) (es.map (·.2)))(rv:∀ v x,RV own h v x->RV own h' v x) :
  (without bI k).map (·.1)=(uy es k).map (·.1)/\bV own h' ((without bI k).map (·.2)) ((uy es k).map (·.2)):=by
 unfold without uy
 induction bI generalizing es with
 | nil =>
  cases es with
  | nil=>exact ⟨rfl,.nil⟩
  | cons _ _=>simp at e
 | cons p ps ih =>
  cases es with
  | nil=>simp at e
  | cons q qs =>
   simp only [map_cons,List.cons.injEq] at e
   apply ay (bV.cW r) λv je e1 r1 r2=>?_
   simp only [map_cons,List.cons.injEq] at e1
   apply aC e1 λea eb=>?_
   apply aC (ih e.2 (eb▸r2)) λi1 i2=>?_
   rw [filter_cons,filter_cons,<- e.1]
   by_cases z:p.1=k
   ·simp only [z,ne_eq,not_true_eq_false,decide_false,Bool.false_eq_true,if_false]
    exact ⟨by simpa using i1,by simpa using i2⟩
   ·simp only [z,ne_eq,not_false_eq_true,decide_true,if_true,map_cons]
    exact ⟨by rw [e.1];exact congrArg _ (by simpa using i1),.cons (rv _ _ (ea▸r1)) (by simpa using i2)⟩
def pF(X:Cx)(A:Around)(a i:V)(Ψ:Cells->Prop)(cells:Cells):Prop:=∀ v iv,mb X A RU (λown h=>RV own h v a/\RV own h iv i) (delItem v iv) (λZ c=>Ψ c) cells
theorem A5{a:Addr}{es:List (Int×V)}{k:Int}{x:V}{Ψ:Cells->Prop}(hc:cells a=some (.dict es))(hz:es.length<=4000)(hx:eQ es k=some x)(h:Ψ (upd cells a (some (.dict (uy es k))))):pF X A (.ref a) (.int k) Ψ cells:=λv iv own s I ⟨r,ri⟩=>by
 apply RV.e0 r rfl ?_;apply RV.e1 ri rfl λZ=>?_
 apply dx (I.cell a _ hc) λoa bI hd e rs=>?_
 have hl:bI.length=es.length:=by have:=congrArg List.length e;simpa using this
 have hv:(valueAt bI k).isSome=true:=by
  rcases eI e rs k with ⟨q1,q2⟩ | ⟨v,y,q1,q2,q3⟩
  ·rw [hx] at q2;exact dc q2
  ·rw [q1];rfl
 apply wpAny_delItem_slot hd.typeIs rfl PySem.F.slot_dict_delitem (call_meetsIn PySem.F.slot_dict_delitem hd.typeIs PySem.F.entry_dict_delitem (PySem.F.args_dict_delitem_2 _ _) (meets_dict_delitem_pairs (intKind X.prog X.w) a (k:=k) (intKind_is _ _ _ _)) (gO bI hd (by rw [hl];unfold sizeLine;lia) hv (λh' nY vD=>?_)))
 have kp:∀ b o,b≠a->s.heap.get? b=some o->h'.get? b=some o:=λb o hb e=>(vD.2 b hb).trans e
 have rv:∀ v x,RV own s.heap v x->RV own h' v x:=λv x r=>fV I hc kp r
 have ha:∃ o,h'.get? a=some o:=cw nY λo Z Z e Z=>bJ o e
 have key:=A4 (k:=k) e rs rv
 (apply aC (I.iX (t:=s.toks+1) hc kp ha (c':=.dict (uy es k)) (aV _ nY key.1 key.2)) ?_;intro B x)
 exact ⟨own,_,(),B,trivial,x,h⟩
theorem pG{o i:Expr}{p p':Pos}{Ψ:MF->Loc->Cells->Prop}(h:mE X A env (eval o env) (λov l2 c2=>mE X A env (eval i env) (λiv l3 c3=>pF X A ov iv (λc4=>Ψ .next l3 c4) c3) l2 c2) loc cells) :
  mS X A env (exec (.Delete [.Subscript o i p] p') env) Ψ loc cells:=λown s I =>
 wpAny_Delete (wpAny_deleteEach_cons (wpAny_delete_Subscript (h.use I λaG l2 c2 ov v2 s2 I2 r2 x2 h2=>h2.use I2 λbX l3 c3 iv v3 s3 I3 r3 x3 h3 =>
  (h3 v2 v3).lY I3 ⟨r2.ext I2 x3,r3⟩ λeh c4 Z Z s4 I4 Z x4 h4=>wpAny_deleteEach_nil ⟨eh,l3,c4,.next,I4,.next,x2.trans (x3.trans x4),h4⟩)))
end
def A6(K:PySem.W.Frag)(a:Addr)(qual:Str)(s:Stmt)(dv kv:Value):Prop:=∃ doc pm an cdv ct,FnAt K a (fnName s) qual (bz s) (aF s) (ai s) dv kv doc pm an cdv ct
abbrev Mr(X:Cx)(a:Addr)(qual:Str)(s:Stmt)(dv kv:Value):Prop:=A6 X.K a qual s dv kv
section
end
section
variable {cells c c' KV:Cells}{own own':Own}{s:Shared}{h h':Heap}{Ψ:V->Cells->Prop}
def Gh(X:Cx)(c c':Cells):Prop:=∀ own s,Base X own c s->∃ own',Base X own' c' s/\Ext qH own c s.heap own' c' s.heap
theorem Gh.refl:Gh X c c:=λown s B=>(iDPP own B .refl)
theorem Gh.trans(a:Gh X c c')(b:Gh X c' KV):Gh X c KV:=λown s B=>by
 apply aj (a own s B) λo1 B1 x1=>?_
 apply aj (b o1 s B1) λo2 B2 x2=>?_
 exact (iDPP o2 B2 (x1.trans x2))
theorem cL.gh{α β:Type}{R:Own->Heap->α->β->Prop}{t:Sem α}{Ψ:β->Loc->Cells->Prop}(g:Gh X cells c')(H:cL X A env R t Ψ loc c'):cL X A env R t Ψ loc cells:=λown s I=>by
 apply aj (g own s I.base) λown' B x=>?_
 exact cL.use H ⟨B,I.ok,I.fr.ext x⟩ λaG l2 c2 b v s2 I2 r2 x2 h2=>⟨aG,l2,c2,b,I2,r2,x.fF.trans x2,h2⟩
theorem aD.gh{f:V}{args:List V}(g:Gh X cells c')(H:aD X A f args Ψ c'):aD X A f args Ψ cells:=λfv vs own s I Dy=>aC Dy λrf rs=>by
 apply aj (g own s I) λown' B x=>?_
 exact (H fv vs).use B ⟨rf.ub x,rs.ub x⟩ λaG c2 b v s2 I2 r2 x2 h2=>⟨aG,c2,b,I2,r2,x.trans x2,h2⟩
theorem aD.H3{f:V}{args:List V}(H:aD X A f args (λv c=>∃ c',Gh X c c'/\Ψ v c') cells):aD X A f args Ψ cells:=λfv vs own s I hp =>
 (H fv vs).use I hp λaG c2 b v s2 I2 r2 x2 Dz=>aj Dz λc3 g h2=>by
  apply aj (g aG s2 I2) λbX B x=>?_
  exact ⟨bX,c3,b,B,r2.ub x,x2.trans x,h2⟩
theorem Gh.stop{a:Addr}{es:List (Int×V)}(hc:c a=some (.dict es)):Gh X c (upd c a (some (.bF es))):=λown s B =>
 (iDPP own (B.gT λx e=>by cases e;exact ⟨(B.cell a _ hc).1,(B.cell a _ hc).2⟩) (ir hc rfl))
theorem Gh.vX{a b C:Addr}{i:Nat}{xs:List V}{fs:List (Option V)}(hc:c a=some (.list xs))(hb:c b=some (.slots C fs))(hi:fs[i]?=some (some (.ref a))) :
  Gh X c (upd (upd c a none) b (some (.slots C (fs.set i (some (.list xs)))))):=λown s B=>by
 have H4:b≠a:=by rintro rfl;rw [hc] at hb;cases hb
 apply gu (B.freeze hc) λown' B' r x rv ho=>?_
 have H5:(upd c a none) b=some (.slots C fs):=by rw [ae _ H4];exact hb
 obtain ⟨ob,d,sl,e,od,ne,hn,hz,rr⟩:=B'.cell b _ H5
 apply (iDPP own' (B'.gT λy q=>?_) (x.trans (ir H5 rfl)))
 cases q
 apply ⟨ob,d,sl,e,od,ne,hn,(by simp [hz]),(λj v y hv hy=>?_)⟩
 rw [getElem?_set] at hy
 by_cases hj:i=j
 ·subst hj
  rw [if_pos rfl] at hy
  split at hy
  ·cases hy
   rcases rr i v _ hv hi with ⟨-,q⟩ | ⟨u,y,q1,q2,q3⟩
   ·exact dc q
   ·obtain rfl:=cK q2;cases q3;exact .inr (aH _ _ q1 rfl r)
  ·exact bf hy
 ·rw [if_neg hj] at hy
  exact rr j v y hv hy
theorem g_fdict{a:Addr}{es:List (Int×V)}{k:Int}{x:V}(hc:cells a=some (.bF es))(hx:eQ es k=some x)(h:Ψ x cells):iY X A (.ref a) (.int k) Ψ cells:=λo iv own s I ro ri=>by
 apply RV.e1 ri rfl λZ=>?_;apply RV.e0 ro rfl ?_
 apply dx (I.cell a _ hc) λoa bI hd e rs=>?_
 rcases eI e rs k with ⟨-,q⟩ | ⟨v,y,q1,q2,q3⟩
 ·rw [hx] at q;exact dc q
 ·rw [hx] at q2;obtain rfl:=cK q2
  exact (aH ("dict") _ slot_dict_getitem.lookup hd.typeIs (wpAny_getItem_of (k:=k) (intKind_is _ _ _ _) hd.mapOf q1 (aw I q3 h)))
theorem xJ{a:Addr}{es:List (Int×V)}{name:Str}{id:String}{Θ:V->List V->Cells->Prop}(hc:cells a=some (.bF es))(slot:Slot "dict" name id)(AN:typeOf (.builtin id)=pure (.type "method_descriptor"))(h:Θ (.bi id) [.ref a] cells):jl X A (.ref a) name Θ cells :=
 fT (T:="dict") PySem.F.plainAttrs_dict slot AN (λown s v I r=>by
  apply RV.e0 r rfl ?_
  apply dx (I.cell a _ hc) λoa bI hd e rs=>?_
  apply ⟨hd.typeIs,λb q=>?_⟩
  cases q
  (apply eg hd ?_;try clear hd;intro o es ep e x Z)
  exact (iDPP o e x.2.1)) h
theorem Gg{a:Addr}{es:List (Int×V)}{k:Int}(hc:cells a=some (.bF es))(h:Ψ ((eQ es k).getD .none) cells):aD X A (.bi "dict.get") [.ref a,.int k] Ψ cells:=λfv vs own s I ⟨rf,r⟩=>by
 apply RV.e0 rf rfl ?_
 (apply ay r.two ?_;intro v u dH;rw [dH];intro r1 r2)
 apply RV.e0 r1 rfl ?_;apply RV.e1 r2 rfl λZ=>?_
 apply dx (I.cell a _ hc) λoa bI hd e rs=>?_
 apply call_meetsIn slot_dict_get hd.typeIs PySem.F.entry_dict_get (PySem.F.args_dict_get_2 _ _) (meets_dict_get (intKind X.prog X.w) a (intKind_is _ _ k _) (gD I hc)) (iDPP _ hd.mapOf ?_)
 rcases eI e rs k with ⟨q1,q2⟩ | ⟨v,y,q1,q2,q3⟩
 ·rw [q1];rw [q2] at h;exact aw I .xk h
 ·rw [q1];rw [q2] at h;exact aw I q3 h
theorem A7{K:Type}{h:Heap}{bI:List (Int×Value)}{es:List (Int×V)}(e:bI.map (·.1)=es.map (·.1))(r:bV own h (bI.map (·.2)) (es.map (·.2))){i:Nat}{k:Int}{v:Value}(hx:bI[i]?=some (k,v)):∃ x,es[i]?=some (k,x)/\RV own h v x:=by
 have hl:bI.length=es.length:=by have:=congrArg List.length e;simpa using this
 have hi:i<es.length:=by rw [<- hl];exact (List.getElem?_eq_some_iff.mp hx).1
 have h1:(es.map (·.1))[i]?=some k:=by rw [<- e,getElem?_map,hx];rfl
 rw [getElem?_map,getElem?_eq_getElem hi] at h1
 have h2:=cK h1
 apply (iDPP (es[i].2) ?_ (r.2 i v _ (by rw [getElem?_map,hx];rfl) (by rw [getElem?_map,getElem?_eq_getElem hi];rfl)))
 rw [getElem?_eq_getElem hi,<- h2]
theorem DA{x:Str}{p:Pos}{a:Addr}{es:List (Int×V)}(hh:A.handled=none)(hc:cells a=some (.bF es)):rq X A (.Name x p) (.ref a) (es.map λkv=>.int kv.1) cells:=by
 intro own s v I r
 apply RV.e0 r rfl ?_
 apply dx (I.cell a _ hc) λoa bI hd e rs=>?_
 apply bw hd.dictAt λep oE=>?_
 have fK:a≠s.heap.objs.size:=ne_of_lt oE.lt_size
 have hl:bI.length=es.length:=by have:=congrArg List.length e;simpa using this
 have len:(es.map λkv=>V.int kv.1).length=bI.length:=by rw [hl];simp
 have keep:∀ b o,s.heap.get? b=some o->(s.heap.push { cls:=.type "dict_keyiterator",data:=.fields #[.ref a,.int 0 0,.int bI.length 0,.int ep 0]}).get? b=some o:=λb o e=>get?_push_of_some _ e
 apply wpAny_pyIter_dict (gD I hc) oE (df (cM own s.heap.objs.size) _ s.toks rfl keep (I.cM (ak _) (I.gB (ak _)) keep (get?_push_size _ rfl)) (cY (ak _)) ([s.heap.objs.size,a]) ([s.heap.objs.size]) _ _
  ({ d:=.len len.symm <| ue.ofWalks (Walks.dictKeys (knd:=intKind X.prog X.w) hh s.heap.objs.size a fK bI ep) (λZ=>rfl),st:=⟨(aV _ (get?_push_size _ rfl) rfl rfl),oE.push _⟩,w:=?_,ex:=?_,f:=?_,p:=?_}))
 ·intro b hb
  rw [mem_singleton.mp hb]
  exact ⟨ak _,by simp [cM],I.gB (ak _)⟩
 ·rintro i h' ⟨⟨o1,e1,_⟩,⟨o2,_,e2,_⟩⟩ b hb
  rcases mem_cons.mp hb with rfl | hb
  ·exact (bJ o1 e1)
  ·rw [mem_singleton.mp hb];exact (bJ o2 e2)
 ·intro b hb hw
  rcases mem_cons.mp hb with rfl | hb
  ·exact absurd (mem_singleton.mpr rfl) hw
  ·rw [mem_singleton.mp hb]
   obtain ⟨o2,_,e2,_⟩:=oE
   exact (iDPP _ (keep _ _ e2) (.inr ⟨by rw [cY (ak _) _ _ e2];exact oa,.inr (bJ es hc)⟩))
 ·(intro i own' hp h' v x jU;apply bW jU ?_;clear jU;intro k xv q1 q2;intro e2 hr Z)
  (apply bw (isInt_shape q2) ?_;intro t kS;rw [kS])
  apply aj (A7 (K:=Int) e rs q1) λy q3 Z=>?_
  rw [getElem?_map,q3] at e2
  cases e2
  exact .int _ _
theorem xK{o:Expr}{name:Str}{id T:String}{apos pos:Pos}{target:Expr}{items:List (Int×V)->List V}{pl:Sem Bool}{Φ:List V->Loc->Cells->Prop}(slot:Slot "dict" name id)(AN:typeOf (.builtin id)=pure (.type "method_descriptor"))(A8:∀ (A:Around) (s:Shared) (d:Addr) (bI:List (Int×Value)) (Q:Value->Shared->Prop),(d == sysModules)=false->s.heap.DictOf (intKind X.prog X.w) d bI->Q (.ref s.heap.objs.size) {s with heap:=s.heap.push { cls:=.type T,data:=.fields #[.ref d]}}->wpAny (model X.prog X.w) A (call (.builtin id) [.ref d]) Q gy s)(hit:∀ (own:Own) (c:Cells) (s:Shared) (vw a:Addr) (es:List (Int×V)),Base X own c s->c a=some (.bF es)->s.heap.get? vw=some { cls:=.type T,data:=.fields #[.ref a]} ->
   wpAny (model X.prog X.w) A (pyIter (.ref vw)) (λit s2=>∃ own' h' t,s2={s with heap:=h',toks:=t}/\(∀ b o,s.heap.get? b=some o->h'.get? b=some o)/\Base X own' c s2 /\
    (∀ b o,s.heap.get? b=some o->own' b=own b)/\Src X A target own' c s.heap h' it (items es)) gy s)(h:mE X A env (eval o env) (λov l c=>∃ a es,ov=.ref a/\c a=some (.bF es)/\Φ (items es) l c) loc cells)(he:autoParam (eval (.Call (.Attribute o name apos) [] [] pos) env=(do let ov <- eval o env;standAt apos.atName;let (f,first) <- holding [ov] (getMethod ov name pl);callWith pos f first (backTo pos (starEach [] env)) [])) aR) :
  iW X A env target (.Call (.Attribute o name apos) [] [] pos) Φ loc cells:=λown s I=>by
 apply MethodCall_ (pl:=pl) (h.use I λown1 l1 c1 ov v1 s1 I1 r1 x1 yK=>ay yK λa es ea hc hΦ=>?_) he
 subst ea
 apply (xJ (Θ:=λf first c=>f=.bi id/\first=[.ref a]/\c=c1) hc slot AN ⟨rfl,rfl,rfl⟩ v1 pl).lY I1 r1 λaG c2 q fx s2 I2 r2 x2 yL=>bq yL λe1 e2 e3=>?_
 obtain ⟨f,first⟩:=q
 obtain ⟨fv,fs⟩:=fx
 (apply aC r2 ?_;try clear r2;intro ra rb)
 dsimp only at e1 e2 e3 ra rb
 subst e1 e2 e3
 apply RV.e0 ra rfl ?_
 apply aj rb.one λu e4 ru=>?_
 rw [e4]
 apply RV.e0 ru rfl ?_
 apply eW (own:=aG) (f:=.bi id) trivial (.bi _) (spliced_none ⟨I2.base.K,?_⟩) rfl
 apply dx (I2.base.cell a _ hc) λoa bI hd e rs=>?_
 apply A8 A s2 a bI _ (gD I2.base hc) hd ?_
 have kp:∀ b o,s2.heap.get? b=some o->(s2.heap.push { cls:=.type T,data:=.fields #[.ref a]}).get? b=some o:=λb o e=>get?_push_of_some _ e
 have B3:Base X aG c2 { s2 with heap:=s2.heap.push { cls:=.type T,data:=.fields #[.ref a]}}:=I2.base.keeps kp
 apply wpAny_mono (hit aG c2 _ s2.heap.objs.size a es B3 hc (get?_push_size _ rfl)) (λit s4 yM=>jY yM λown' h' t e keep B ho fp wr St P S=>?_) λZ Z q=>q
 subst e
 have x3:Ext (Fa env) own1 c2 s1.heap aG c2 (s2.heap.push { cls:=.type T,data:=.fields #[.ref a]}):=x2.trans (.of_keeps kp)
 have no:∀ b,(s2.heap.push { cls:=.type T,data:=.fields #[.ref a]}).get? b=none->s.heap.get? b=none:=λb hb=>by
  cases q:s.heap.get? b with
  | none=>rfl
  | some o=>apply bw ((x1.trans x3).there b o q) λo' e=>?_;rw [hb] at e;exact bf e
 exact (jG own' l1 c2 (items es) (⟨B,I2.ok,(I2.fr.ext (cells:=c2) (cells':=c2) (.of_keeps kp)).grow keep ho⟩) (x1.trans (x3.trans (.grow keep ho))) ((l9 fp wr St P (S.start no))) hΦ)
theorem A9{o:Expr}{apos pos:Pos}{x:Str}{px:Pos}{pl:Sem Bool}{Φ:List V->Loc->Cells->Prop}(hh:A.handled=none)(h:mE X A env (eval o env) (λov l c=>∃ a es,ov=.ref a/\c a=some (.bF es)/\Φ (es.map (·.2)) l c) loc cells)(he:autoParam (eval (.Call (.Attribute o "values" apos) [] [] pos) env=(do let ov <- eval o env;standAt apos.atName;let (f,first) <- holding [ov] (getMethod ov "values" pl);callWith pos f first (backTo pos (starEach [] env)) [])) aR) :
  iW X A env (.Name x px) (.Call (.Attribute o "values" apos) [] [] pos) Φ loc cells:=by
 apply xK (T:="dict_values") (items:=λes=>es.map (·.2)) PySem.F.slot_dict_values PySem.F.type_dict_values (λA s d bI Q hS hd hQ=>?_) (λown c s vw a es I hc hv=>?_) h he
 ·exact call_meetsIn PySem.F.slot_dict_values hd.typeIs PySem.F.entry_dict_values (PySem.F.args_dict_values_1 _) (meets_dict_values (intKind X.prog X.w) d hS) ⟨(bJ bI hd),hQ⟩
 ·apply dx (I.cell a _ hc) λoa bI hd e rs=>?_
  apply bw hd.dictAt λep oE=>?_
  have fK:a≠s.heap.objs.size:=ne_of_lt oE.lt_size
  have hl:bI.length=es.length:=by have:=congrArg List.length e;simpa using this
  have len:(es.map (·.2)).length=bI.length:=by rw [hl];simp
  have keep:∀ b o,s.heap.get? b=some o->(s.heap.push { cls:=.type "dict_valueiterator",data:=.fields #[.ref a,.int 0 0,.int bI.length 0,.int ep 0]}).get? b=some o:=λb o e=>get?_push_of_some _ e
  apply wpAny_pyIter_values (knd:=intKind X.prog X.w) (aV _ hv rfl rfl) oE (df (cM own s.heap.objs.size) _ s.toks rfl keep (I.cM (ak _) (I.gB (ak _)) keep (get?_push_size _ rfl)) (cY (ak _)) ([s.heap.objs.size,a]) ([s.heap.objs.size]) _ _
   ({ d:=.len len.symm <| ue.ofWalks (Walks.dictValues (knd:=intKind X.prog X.w) hh s.heap.objs.size a fK bI ep) (λZ=>rfl),st:=⟨(aV _ (get?_push_size _ rfl) rfl rfl),oE.push _⟩,w:=?_,ex:=?_,f:=?_,p:=?_}))
  ·intro b hb
   rw [mem_singleton.mp hb]
   exact ⟨ak _,by simp [cM],I.gB (ak _)⟩
  ·rintro i h' ⟨⟨o1,e1,_⟩,⟨o2,_,e2,_⟩⟩ b hb
   rcases mem_cons.mp hb with rfl | hb
   ·exact (bJ o1 e1)
   ·rw [mem_singleton.mp hb];exact (bJ o2 e2)
  ·intro b hb hw
   rcases mem_cons.mp hb with rfl | hb
   ·exact absurd (mem_singleton.mpr rfl) hw
   ·rw [mem_singleton.mp hb]
    obtain ⟨o2,_,e2,_⟩:=oE
    exact (iDPP _ (keep _ _ e2) (.inr ⟨by rw [cY (ak _) _ _ e2];exact oa,.inr (bJ es hc)⟩))
  ·(intro i own' hp h' v x sC;apply bw sC ?_;clear sC;intro k q1;intro e2 hr Z)
   apply aj (A7 (K:=Int) e rs q1) λy q3 q4=>?_
   rw [getElem?_map,q3] at e2
   cases e2
   exact hr _ _ (q4.grow keep (cY (ak _)))
end
section
variable {cells c c' KV:Cells}{own own':Own}{s:Shared}{h h':Heap}{Ψ:V->Cells->Prop}
theorem uz{prog:Program}{w:World}{A:Around}(hh:A.handled=none)(I d:Addr)(fK:d≠I)(bI:List (Int×Value))(ep:Nat) :
  WalksT prog w A I [I,d] [I] bI.length (λi vals=>∃ k t v,bI[i]?=some (k,v)/\vals=#[.int k t,v]) (λi h=>(∃ ok ov,IsItemIter h I d i bI.length ep ok ov)/\h.DictAt (intKind prog w) d bI ep)
   (λi T h=>(∃ ok ov,IsItemIterOut h I d (i+1) bI.length ep ok ov T)/\h.DictAt (intKind prog w) d bI ep/\T≠I) where
 sub:=λb hb=>by simp at hb;simp [hb]
 frame:=λi h h' st hk=>⟨let ⟨ok,ov,e⟩:=st.1;(kG ok ov (hk I mem_cons_self _ e)),st.2.at' λo e=>hk d (List.mem_of_getLast? rfl) o e⟩
 item:=λi s Q E hi st hQ=>by
  (apply aC st λaM hm=>?_;apply ij aM λok ov hit=>?_)
  obtain ⟨⟨k,x⟩,hx⟩:∃ p,bI[i]?=some p:=(bJ (bI[i]) (getElem?_eq_getElem hi))
  apply wpAny_pyNext_items_item hit hm hx λkey h' KW vY KX hz keep=>?_
  (apply bw (isInt_shape KW) ?_;intro t bk;subst bk)
  have Ms:I<s.heap.objs.size:=lt_size hit
  exact hQ s.heap.objs.size _ h' s.toks (dw k t x hx rfl) (le_refl _) (bh _ KX rfl 0 rfl) ⟨(kG _ _ vY),hm.at' λo e=>keep d o fK e,λz=>by rw [z] at Ms;exact absurd Ms (lt_irrefl _)⟩ λb o hb e=>keep b o (λz=>hb (mem_singleton.mpr z)) e
 go:=λelts k pos i T s Q E hm hQ=>by
  (apply bq hm λbN hm hT=>?_;apply ij bN λok ov hit=>?_)
  apply wpAny_letOwnedTupleGo_items hit λh' vY hs=>?_
  exact hQ h' ⟨(kG ok ov vY),hm.at' λo e=>(hs.2 d fK).trans e⟩ λb o hb e=>(hs.2 b (λz=>hb (mem_singleton.mpr z))).trans e
 apart:=λi T h hm=>by simpa using hm.2.2
 done:=λs Q E st hQ=>by
  (apply aC st λcI hm=>?_;apply ij cI λok ov hit=>?_)
  exact wpAny_pyNext_items_end hh hit hm (by simp) λh' Kd=>hQ h' s.toks λb o hb e=>Kd b o (λh=>hb (mem_singleton.mpr h)) e
 self:=λi s Q E st hQ=>by
  (apply aC st λdH hm=>?_;apply ij dH λok ov hit=>?_)
  apply wpAny_pyIter_slot (show s.TypeIs (.ref I) "dict_itemiterator" from (iDPP _ hit rfl)) F.slot_dict_itemiterator_iter (wpAny_call_entry F.slot_dict_itemiterator_iter (iDPP _ hit rfl) (entryFor_alias (id':="dict_keyiterator.__iter__") (by rfl') rfl (by decide +kernel) (by rfl'):entryFor table "dict_itemiterator.__iter__"=some Builtin.«dict_keyiterator.__iter__») ?_ (F.args_dict_itemiterator_iter_1 _))
  show wpAny _ _ (ret (.ref I)) _ _ s
  exact wpAny_pure ⟨_,rfl,("dict_itemiterator"),_,(iDPP _ hit rfl),F.slot_dict_itemiterator_next.lookup,hQ⟩
noncomputable def iJ (es:List (Int×V)):List V:=es.map λkv=>.tuple [.int kv.1,kv.2]
theorem DB{o:Expr}{apos pos:Pos}{elts:List Expr}{k:Nat}{tp:Pos}{pl:Sem Bool}{Φ:List V->Loc->Cells->Prop}(hh:A.handled=none)(h:mE X A env (eval o env) (λov l c=>∃ a es,ov=.ref a/\c a=some (.bF es)/\Φ (iJ es) l c) loc cells)(he:autoParam (eval (.Call (.Attribute o "items" apos) [] [] pos) env=(do let ov <- eval o env;standAt apos.atName;let (f,first) <- holding [ov] (getMethod ov "items" pl);callWith pos f first (backTo pos (starEach [] env)) [])) aR) :
  iW X A env (.Tuple elts k tp) (.Call (.Attribute o "items" apos) [] [] pos) Φ loc cells:=by
 apply xK (T:="dict_items") (items:=iJ) PySem.F.slot_dict_items PySem.F.type_dict_items (λA s d bI Q hS hd hQ=>?_) (λown c s vw a es I hc hv=>?_) h he
 ·exact call_meetsIn PySem.F.slot_dict_items hd.typeIs PySem.F.entry_dict_items (PySem.F.args_dict_items_1 _) (meets_dict_items (intKind X.prog X.w) d hS) ⟨(bJ bI hd),hQ⟩
 ·apply dx (I.cell a _ hc) λoa bI hd e rs=>?_
  apply bw hd.dictAt λep oE=>?_
  have fK:a≠s.heap.objs.size:=ne_of_lt oE.lt_size
  have hl:bI.length=es.length:=by have:=congrArg List.length e;simpa using this
  have len:(iJ es).length=bI.length:=by rw [hl];simp [iJ]
  have keep:∀ b o,s.heap.get? b=some o->(s.heap.push { cls:=.type "dict_itemiterator",data:=.fields #[.none,.bool false,.ref a,.int 0 0,.int bI.length 0,.int ep 0,.none,.none]}).get? b=some o:=λb o e=>get?_push_of_some _ e
  apply wpAny_pyIter_items (knd:=intKind X.prog X.w) (aV _ hv rfl rfl) oE (df (cM own s.heap.objs.size) _ s.toks rfl keep (I.cM (ak _) (I.gB (ak _)) keep (get?_push_size _ rfl)) (cY (ak _)) ([s.heap.objs.size,a]) ([s.heap.objs.size]) _ _
   ({ d:=.len len.symm <| ue.ug (uz hh s.heap.objs.size a fK bI ep),st:=⟨(kG .none .none (get?_push_size _ rfl)),oE.push _⟩,w:=?_,ex:=?_,f:=?_,p:=?_}))
  ·intro b hb
   rw [mem_singleton.mp hb]
   exact ⟨ak _,by simp [cM],I.gB (ak _)⟩
  ·rintro i h' ⟨⟨_,_,e1⟩,⟨o2,_,e2,_⟩⟩ b hb
   rcases mem_cons.mp hb with rfl | hb
   ·exact (bJ _ e1)
   ·rw [mem_singleton.mp hb];exact (bJ o2 e2)
  ·intro b hb hw
   rcases mem_cons.mp hb with rfl | hb
   ·exact absurd (mem_singleton.mpr rfl) hw
   ·rw [mem_singleton.mp hb]
    obtain ⟨o2,_,e2,_⟩:=oE
    exact (iDPP _ (keep _ _ e2) (.inr ⟨by rw [cY (ak _) _ _ e2];exact oa,.inr (bJ es hc)⟩))
  ·rintro i own' hp h' v x ⟨T,vals,rfl,⟨k,t,v,q1,rfl⟩,tup,fr⟩ e2 hr C4
   apply aj (A7 (K:=Int) e rs q1) λy q3 q4=>?_
   unfold iJ at e2
   rw [getElem?_map,q3] at e2
   cases e2
   exact xw tup (C4 T fr) (.int _ _) (hr _ _ (q4.grow keep (cY (ak _))))
end
section
def mA(X:Cx)(own:Own)(h:Heap)(a:Addr)(es:List (Int×V)):Prop:=∃ bI,h.DictOf (intKind X.prog X.w) a bI/\bI.map (·.1)=es.map (·.1)/\bV own h (bI.map (·.2)) (es.map (·.2))
theorem mA.here{h:Heap}{a:Addr}{es:List (Int×V)}(d:mA X own h a es):∃ o,h.get? a=some o:=bM d λZ q Z Z=>cw q λo Z Z e Z=>bJ o e
theorem mA.mono{own':Own}{h h':Heap}{a:Addr}{es:List (Int×V)}(d:mA X own h a es)(hk:∀ o,h.get? a=some o->h'.get? a=some o)(rv:∀ v x,RV own h v x->RV own' h' v x):mA X own' h' a es :=
 bM d λbI q q1 q2=>cw q λo HF ep e r=>(aV bI ((dw o HF ep (hk o e) r)) q1 (q2.mono rv))
theorem mA.new{h:Heap}{a:Addr}(e:h.get? a=some { cls:=.type "dict",data:=.dict #[]}):mA X own h a []:=(aV ([]) (⟨_,(#[]),0,e,(⟨rfl,rfl,rfl⟩),rfl,(λe he=>by simp at he),.nil,.nil⟩) rfl .nil)
theorem mA.put{a:Addr}{es:List (Int×V)}{k:Int}{mv:V}{kv u:Value}{Q:Unit->Shared->Prop}(d:mA X own s.heap a es)(rk:RV own s.heap kv (.int k))(hz:es.length<=sizeLine)(ru:RV own s.heap u mv)(h:∀ h7,mA X own h7 a (dput es k mv)->SameBut a s.heap h7->Q () {s with heap:=h7,toks:=s.toks+1}):wpAny (model X.prog X.w) A (dictSet a kv u) Q gy s:=by
 apply bM d λbI hd e rs=>?_
 apply RV.e1 rk rfl λZ=>?_
 have hl:bI.length=es.length:=by have:=congrArg List.length e;simpa using this
 apply wpAny_dictSet_pairs (k:=k) (intKind_is _ _ _ _) hd (λh' nY vD=>h h' ?_ vD) (by rw [hl];exact hz)
 have nf:∀ o,s.heap.get? a=some o->¬ qG o:=λo eo=>by
  apply eD hd λo' HF ep e' c' d' Z=>?_
  rw [eo] at e';obtain rfl:=cK e'
  exact fE d'
 (apply aC (pD (k:=k) e rs (λv x r=>sD (λb o hb e=>(vD.2 b hb).trans e) nf r) ru) ?_;intro k1 k2)
 exact (aV _ nY k1 k2)
def KY(X:Cx)(A:Around)(ifs:List Expr)(kx vx:Expr)(gU:Env)(a:Addr)(Q:Shared->Prop)(s:Shared):Prop :=
 wpAny (model X.prog X.w) A (fS gU ifs true) (λok s4=>if ok=true then
   wpAny (model X.prog X.w) A (eval kx gU) (λkv s5=>wpAny (model X.prog X.w) A (eval vx gU) (λvv s5=>wpAny (model X.prog X.w) A (dictSet a kv vv) (λZ s6=>Q s6) gy s5) gy s5) gy s4 else Q s4) gy s
theorem DC{target kx vx iter:Expr}{ifs:List Expr}{scope:Scope}{pos:Pos}{gU:Env}{it:Value}{a:Addr}{R:Result->Shared->Prop} :
  HI X A target gU it (KY X A ifs kx vx gU a) (R (.ok .next)) (codeAny (model X.prog X.w) A (.compLoop (.DictComp kx vx [⟨target,iter,ifs,0⟩] scope pos) 0 it (.ref a) gU) R):=by
 intro T turn k s h
 apply codeAny_loop rfl T (λk s hT=>?_) k h
 show wpAny _ A ((compTurn (.DictComp kx vx [⟨target,iter,ifs,0⟩] scope pos) 0 it (.ref a) gU).onRaise (λx=>do noteFrame x gU;theTreesLotGoes x)) _ _ s
 apply wpAny_noted ?_
 rw [compTurn_dict]
 apply wpAny_bind (wpAny_standAt (wpAny_bind (aJ (turn k s hT) λr s1 hr=>hr.elim (λq=>wpAny_pure q) λv hv=>?_)))
 apply wpAny_bind (aJ hv λZ s2 h2=>wpAny_bind (aJ h2 λZ s3 h3=>wpAny_bind (aJ h3 λok s4 h4=>?_)))
 cases ok with
 | false=>exact wpAny_pure ⟨rfl,h4⟩
 | true=>exact wpAny_bind (wpAny_bind (aJ h4 λkv s5 h5=>wpAny_bind (wpAny_holding (aJ h5 λvv s6 h6=>wpAny_bind (wpAny_standAt (wpAny_holding (aJ h6 λZ s7 h7=>wpAny_pure ⟨rfl,h7⟩)))))))
theorem pH{Q:Value->Shared->Prop}{E:Value->Shared->Prop}(h:Q (.ref s.heap.objs.size) {s with heap:=s.heap.push { cls:=.type "dict",data:=.dict #[]}}):wpAny (model X.prog X.w) A newDict Q E s:=wpAny_newObj_type h
theorem DD{ifs:List Expr}{kx vx:Expr}{a:Addr}{acc:List (Int×V)}{P:Loc->List (Int×V)->Cells->Prop}{Q:Shared->Prop}(H:fz X A env ifs (λok l c=>if ok then mE X A env (eval kx env) (λrk l1 c1=>∃ k,rk=.int k/\mE X A env (eval vx env) (λr l' c'=>P l' (dput acc k r) c') l1 c1) l c else P l acc c) loc (upd cells a none))(ca:cells a=some (.dict acc))(hz:acc.length<=sizeLine)(I:Inv X env own loc cells s)(k:∀ own' l' c' ys s',Inv X env own' l' c' s'->Ext (Fa env) own cells s.heap own' c' s'.heap->c' a=some (.dict ys)->P l' ys (upd c' a none)->Q s'):KY X A ifs kx vx env a Q s:=by
 have I':Inv X env own loc (upd cells a none) s:=⟨I.base.gT λx e=>(bf e),I.ok,I.fr⟩
 apply aC (I.base.cell a _ ca) ?_;intro oa ra
 apply bw (I.base.lt a a oa) ?_;intro o e
 have back:∀ {own' l' c' s'},Inv X env own' l' c' s'->Ext (Fa env) own (upd cells a none) s.heap own' c' s'.heap->Inv X env own' l' (upd c' a (some (.dict acc))) s'/\c' a=none:=λI4 x=>dj (x.gP a a _ e oa ⟨.inl (ah _ _ _),rfl⟩) λp1 p2 p3 Z =>
  have n4:=p3.trans (ah _ _ _)
  ⟨⟨I4.base.adopt p2 n4 (mA.mono (X:=X) ra (λo' e'=>cK (e.symm.trans e')▸p1) λv y r=>r.ext I' x),I4.ok,I4.fr⟩,n4⟩
 apply (jk ifs H).use I' λeh l4 c4 ok okv s4 I4 r4 x4 p4=>?_
 cases (r4:okv=ok)
 cases ok with
 | false=>exact aC (back I4 x4) λI5 n5=>k eh l4 _ acc s4 I5 (x4.live ca rfl) (ah _ _ _) (by rw [cg,g5 n5];exact p4)
 | true =>
  apply cL.use p4 I4 λvP l5 c5 r rv s5 I5 r5 x5 p0=>aj p0 λky er p5=>?_
  subst er
  apply cL.use p5 I5 λKZ l6 c6 r rv s6 I6 r6 x6 p6=>?_
  have Mt:=x4.trans (x5.trans x6)
  apply aC (back I6 Mt) ?_;intro I7 n7
  apply mA.put (X:=X) (I7.base.cell a _ (ah _ _ _)).2 (r5.ext I5 x6) hz r6 λh7 d7 FI=>?_
  apply aC (I7.base.iX (t:=s6.toks+1) (ah _ _ _) (λb o hb e=>(FI.2 b hb).trans e) d7.here (c':=.dict (dput acc ky r)) d7) ?_;intro B8 x8
  rw [cg] at B8 x8
  exact k KZ l6 _ _ _ ⟨B8,I6.ok,I7.fr.ext x8⟩ ((Mt.live ca rfl).trans x8.fF) (ah _ _ _) (by rw [cg,g5 n7];exact p6)
def vZ(X:Cx)(A:Around)(env:Env)(bind:V->Loc->Loc)(ifs:List Expr)(kx vx:Expr)(scope:Scope)(items:List V)(bG:Loc)(c2:Cells)(Ψ:V->Cells->Prop):Prop :=
 items.length<=sizeLine/\∃ J:Nat->List (Int×V)->Cells->Prop,J 0 [] c2/\(∀ i acc c,J i acc c->acc.length<=i) /\
  (∀ L cs i v acc c,items[i]?=some v->J i acc c->fz X A (compEnv scope env L cs) ifs (λok l c=>if ok then
    mE X A (compEnv scope env L cs) (eval kx (compEnv scope env L cs)) (λrk l1 c1=>∃ k,rk=.int k/\mE X A (compEnv scope env L cs) (eval vx (compEnv scope env L cs)) (λr l' c'=>l'=bind v (fi scope bG)/\J (i+1) (dput acc k r) c') l1 c1) l c
   else l=bind v (fi scope bG)/\J (i+1) acc c) (bind v (fi scope bG)) c)/\∀ xs c,J items.length xs c->∀ a,c a=none->Ψ (.ref a) (upd c a (some (.dict xs)))
structure H6(X:Cx)(A:Around)(env:Env)(scope:Scope)(target:Expr)(bind:V->Loc->Loc)(ok:V->Prop):Prop where
 asg:∀ L cs v,ok v->sF X A (compEnv scope env L cs) target v (bind v)
 sub:∀ v,ok v->∀ loc y mv,(fi scope loc).lookup y=some mv->(bind v (fi scope loc)).lookup y=some mv
theorem n8.toD{scope:Scope}{target:Expr}{ifs:List Expr}{elt e:Expr}{bind:V->Loc->Loc}{ok:V->Prop}(G:n8 X A env scope target ifs elt e bind ok):H6 X A env scope target bind ok:=⟨G.asg,G.sub⟩
end
theorem ju:Slot "method_descriptor" "__get__" "method_descriptor.__get__" :=
 .of (owner:="method_descriptor") (n:="__get__") (by rw [typeLookup_type,builtinLookup_eq_fast];rfl') (by decide +kernel) (by decide +kernel) (by decide +kernel)
  (by first | exact .inl (by decide +kernel) | exact .inr (by decide +kernel)) (by rw [isSubtype_type];rfl')
theorem yW:typeLookup (.type "method_descriptor") "__set__"=pure none:=by rw [typeLookup_type,builtinLookup_eq_fast];rfl'
theorem yX:typeLookup (.type "method_descriptor") "__delete__"=pure none:=by rw [typeLookup_type,builtinLookup_eq_fast];rfl'
theorem sX:entryFor table "method_descriptor.__get__"=some Builtin.«method_descriptor.__get__»:=entryFor_of_tree rfl
theorem uA(a b c:Value):argsOk "method_descriptor.__get__" ⟨[a,b,c],[]⟩:=by unfold argsOk;rfl'
theorem slot_wd_get:Slot "wrapper_descriptor" "__get__" "wrapper_descriptor.__get__" :=
 .of (owner:="wrapper_descriptor") (n:="__get__") (by rw [typeLookup_type,builtinLookup_eq_fast];rfl') (by decide +kernel) (by decide +kernel) (by decide +kernel)
  (by first | exact .inl (by decide +kernel) | exact .inr (by decide +kernel)) (by rw [isSubtype_type];rfl')
theorem yY:typeLookup (.type "wrapper_descriptor") "__set__"=pure none:=by rw [typeLookup_type,builtinLookup_eq_fast];rfl'
theorem yZ:typeLookup (.type "wrapper_descriptor") "__delete__"=pure none:=by rw [typeLookup_type,builtinLookup_eq_fast];rfl'
theorem entry_wd_get:entryFor table "wrapper_descriptor.__get__"=some Builtin.«wrapper_descriptor.__get__»:=entryFor_of_tree rfl
theorem args_wd_get(a b c:Value):argsOk "wrapper_descriptor.__get__" ⟨[a,b,c],[]⟩:=by unfold argsOk;rfl'
theorem pI:typeLookup (.type "list") "append"=pure (some (.builtin "list.append")):=by rw [typeLookup_type,builtinLookup_eq_fast];rfl'
theorem jv:typeOf (.builtin "list.append")=pure (.type "method_descriptor"):=by rfl'
theorem lr:(".".intercalate ("list.append".cutAt '.').dropLast)="list":=by
 have e0:"list.append".cutAt '.'=["list","append"]:=by first | rfl | decide +kernel
 rw [e0];decide +kernel
theorem oj:isSubtype (.type "list") (.type (".".intercalate ("list.append".cutAt '.').dropLast))=pure true:=by
 rw [lr,isSubtype_type];rfl'
section
variable {prog:Program}{w:World}{A:Around}{E:Value->Shared->Prop}{h:Heap}{g:Array GenState}{d:Drawn}{t:Nat}{os:OsState}{a:Addr}{tk:Tok}{vs:Array Value}{n:Nat}{sl:Array (Option Value)}
theorem lu{Q:Fin->Shared->Prop}(hx:h.get? a=some ⟨.type "list",none,.seq vs n,sl⟩)(hq:Q (.done (.ret (.ref h.objs.size))) ⟨h.push { cls:=.type "builtin_function_or_method",data:=.fields #[.builtin "list.append",.ref a]},g,d,t,os⟩) :
  wpAny (model prog w) A (Builtin.«object.__getattribute__» ⟨[.ref a,.str "append" tk],[]⟩) Q E ⟨h,g,d,t,os⟩:=by
 have hT:(⟨h,g,d,t,os⟩:Shared).TypeIs (.ref a) "list":=⟨_,hx,rfl⟩
 have f4:=pI
 have f5:=jv
 have f6:=ju.lookup
 have f7:=yW
 have f8:=yX
 have f9:=oj
 repeat (any_goals (first | assumption | wp_step))
 have hT5:(⟨h,g,d,t,os⟩:Shared).TypeIs (.builtin "list.append") "method_descriptor":=jv
 apply codeAny_call_builtin ju.plain sX (ju.check _ _ _ _ _ _ _ _ hT5 (uA _ _ _) ?_)
 repeat (any_goals (first | assumption | wp_step))
theorem mB{R:Result->Shared->Prop}(hx:h.get? a=some ⟨.type "list",none,.seq vs n,sl⟩)(hq:R (.ok (.ret (.ref h.objs.size))) ⟨h.push { cls:=.type "builtin_function_or_method",data:=.fields #[.builtin "list.append",.ref a]},g,d,t,os⟩) :
  codeAny (model prog w) A (.call (.builtin "list.__getattribute__") ⟨[.ref a,.str "append" tk],[]⟩) R ⟨h,g,d,t,os⟩ :=
 codeAny_call_builtin F.slot_list_getattribute.plain F.entry_list_ga (F.slot_list_getattribute.check _ _ _ _ _ _ _ _ (show (⟨h,g,d,t,os⟩:Shared).TypeIs (.ref a) "list" from ⟨_,hx,rfl⟩) (F.args_list_getattribute_2 _ _) (lu hx hq))
theorem mC{Q:Value->Shared->Prop}(hx:h.get? a=some ⟨.type "list",none,.seq vs n,sl⟩)(hq:Q (.ref h.objs.size) ⟨h.push { cls:=.type "builtin_function_or_method",data:=.fields #[.builtin "list.append",.ref a]},g,d,t+1,os⟩) :
  wpAny (model prog w) A (getAttr (.ref a) "append" true) Q E ⟨h,g,d,t,os⟩:=by
 have hT:∀ K7,(⟨h,g,d,K7,os⟩:Shared).TypeIs (.ref a) "list":=λZ=>⟨_,hx,rfl⟩
 have f3:=F.slot_list_getattribute.lookup
 have f4:=F.slot_list_getattribute.bind (.ref a)
 unfold getAttr getAttrBy
 repeat (any_goals (first | assumption | exact hT _ | wp_step))
 apply mB hx ?_
 repeat (any_goals (first | assumption | wp_step))
end
theorem v8:typeLookup (.type "list_iterator") "__next__"=pure (some (.builtin "list_iterator.__next__")):=by rw [typeLookup_type,builtinLookup_eq_fast];rfl'
theorem ty_li_next:typeOf (.builtin "list_iterator.__next__")=pure (.type "wrapper_descriptor"):=by rfl'
theorem qP:(".".intercalate ("list_iterator.__next__".cutAt '.').dropLast)="list_iterator":=by
 have e0:"list_iterator.__next__".cutAt '.'=["list_iterator","__next__"]:=by first | rfl | decide +kernel
 rw [e0];decide +kernel
theorem uB:isSubtype (.type "list_iterator") (.type (".".intercalate ("list_iterator.__next__".cutAt '.').dropLast))=pure true:=by
 rw [qP,isSubtype_type];rfl'
theorem slot_li_ga:Slot "list_iterator" "__getattribute__" "object.__getattribute__" :=
 .of (owner:="object") (n:="__getattribute__") (by rw [typeLookup_type,builtinLookup_eq_fast];rfl') (by decide +kernel) (by decide +kernel) (by decide +kernel)
  (by first | exact .inl (by decide +kernel) | exact .inr (by decide +kernel)) (by rw [isSubtype_type];rfl')
section
variable {prog:Program}{w:World}{A:Around}{E:Value->Shared->Prop}{h:Heap}{g:Array GenState}{d:Drawn}{t:Nat}{os:OsState}{a:Addr}{tk:Tok}{vs:Array Value}{sl:Array (Option Value)}
theorem qQ{Q:Fin->Shared->Prop}(hx:h.get? a=some ⟨.type "list_iterator",none,.fields vs,sl⟩)(hq:Q (.done (.ret (.ref h.objs.size))) ⟨h.push { cls:=.type "method-wrapper",data:=.fields #[.builtin "list_iterator.__next__",.ref a]},g,d,t,os⟩) :
  wpAny (model prog w) A (Builtin.«object.__getattribute__» ⟨[.ref a,.str "__next__" tk],[]⟩) Q E ⟨h,g,d,t,os⟩:=by
 have hT:(⟨h,g,d,t,os⟩:Shared).TypeIs (.ref a) "list_iterator":=⟨_,hx,rfl⟩
 have f4:=v8
 have f5:=ty_li_next
 have f6:=slot_wd_get.lookup
 have f7:=yY
 have f8:=yZ
 have f9:=uB
 repeat (any_goals (first | assumption | wp_step))
 have hT5:(⟨h,g,d,t,os⟩:Shared).TypeIs (.builtin "list_iterator.__next__") "wrapper_descriptor":=ty_li_next
 apply codeAny_call_builtin slot_wd_get.plain entry_wd_get (slot_wd_get.check _ _ _ _ _ _ _ _ hT5 (args_wd_get _ _ _) ?_)
 repeat (any_goals (first | assumption | wp_step))
theorem sY{R:Result->Shared->Prop}(hx:h.get? a=some ⟨.type "list_iterator",none,.fields vs,sl⟩)(hq:R (.ok (.ret (.ref h.objs.size))) ⟨h.push { cls:=.type "method-wrapper",data:=.fields #[.builtin "list_iterator.__next__",.ref a]},g,d,t,os⟩) :
  codeAny (model prog w) A (.call (.builtin "object.__getattribute__") ⟨[.ref a,.str "__next__" tk],[]⟩) R ⟨h,g,d,t,os⟩ :=
 codeAny_call_builtin slot_li_ga.plain F.entry_object_getattribute (slot_li_ga.check _ _ _ _ _ _ _ _ (show (⟨h,g,d,t,os⟩:Shared).TypeIs (.ref a) "list_iterator" from ⟨_,hx,rfl⟩) (F.args_object_getattribute_2 _ _) (qQ hx hq))
theorem sZ{Q:Value->Shared->Prop}(hx:h.get? a=some ⟨.type "list_iterator",none,.fields vs,sl⟩)(hq:Q (.ref h.objs.size) ⟨h.push { cls:=.type "method-wrapper",data:=.fields #[.builtin "list_iterator.__next__",.ref a]},g,d,t+1,os⟩) :
  wpAny (model prog w) A (getAttr (.ref a) "__next__" true) Q E ⟨h,g,d,t,os⟩:=by
 have hT:∀ K7,(⟨h,g,d,K7,os⟩:Shared).TypeIs (.ref a) "list_iterator":=λZ=>⟨_,hx,rfl⟩
 have f3:=slot_li_ga.lookup
 have f4:=slot_li_ga.bind (.ref a)
 unfold getAttr getAttrBy
 repeat (any_goals (first | assumption | exact hT _ | wp_step))
 apply sY hx ?_
 repeat (any_goals (first | assumption | wp_step))
end
section
variable {prog:Program}{w:World}{A:Around}{E:Value->Shared->Prop}{s:Shared}{a m:Addr}
theorem gW{B id:String}{b:Builtin}{sl:Array (Option Value)}{self:Value}{rest:List Value}{R:Result->Shared->Prop}(hB:B="builtin_function_or_method"\/B="method-wrapper")(ho:s.heap.get? m=some ⟨.type B,none,.fields #[.builtin id,self],sl⟩)(hq:plainId id=true)(hb:entryFor table id=some b)(h:wpAny (model prog w) A.in1 (checkBoundCall id ⟨self::rest,[]⟩) (λZ s₁=>wpAny (model prog w) A.in1 (b ⟨self::rest,[]⟩)
   (λfin s'=>match fin with | .done f=>R (.ok f) s' | .again c'=>c'.quiet=true/\codeAny (model prog w) A c' R s') (λe s'=>R (.error e) s') s₁)
   (λe s'=>R (.error e) s') s):codeAny (model prog w) A (.call (.ref m) ⟨rest,[]⟩) R s:=by
 apply codeAny_of_tree ?_
 show wpAny _ A.in1 (callAny (.ref m) ⟨rest,[]⟩) _ _ _
 unfold callAny
 apply wpAny_bind (wpAny_load ho ?_)
 have e1:(Value.type B == Value.type "method"||Value.type B == Value.type "builtin_function_or_method"||Value.type B == Value.type "method-wrapper")=true:=by rcases hB with rfl | rfl <;> decide
 have e2:(Value.type B != Value.type "method")=true:=by rcases hB with rfl | rfl <;> decide
 show wpAny _ _ (if (Value.type B == Value.type "method"||Value.type B == Value.type "builtin_function_or_method"||Value.type B == Value.type "method-wrapper")=true then _ else _) _ _ _
 rw [if_pos e1]
 show wpAny _ _ (if (Value.type B != Value.type "method")=true then _ else _) _ _ _
 rw [if_pos e2]
 apply wpAny_bind (wpAny_mono h (λZ s₁ h₁=>wpAny_pure ⟨plainId_quiet hq _,codeAny_builtin hb ?_⟩) λZ Z h'=>h')
 rw [under_plainId hq];exact h₁
theorem oo:isSubtype (.type "list") (.type "module")=pure false:=by rw [isSubtype_type];rfl'
theorem qR:isSubtype (.type "list") (.type "type")=pure false:=by rw [isSubtype_type];rfl'
theorem s8{vs:Array Value}{n:Nat}{sl:Array (Option Value)}{x:Value}{Q:Unit->Shared->Prop}(hx:s.heap.get? a=some ⟨.type "list",none,.seq vs n,sl⟩)(h:Q () s):wpAny (model prog w) A (checkBoundCall "list.append" ⟨[.ref a,x],[]⟩) Q E s:=by
 obtain ⟨hh,g,d,t,os⟩:=s
 have hT:(⟨hh,g,d,t,os⟩:Shared).TypeIs (.ref a) "list":=⟨_,hx,rfl⟩
 have f1:=oo
 have f2:=qR
 unfold checkBoundCall
 repeat (any_goals (first | assumption | wp_step))
end
def uC(fs:List Addr)(P:Addr->Prop)(h h':Heap):Prop:=∀ b o,h.get? b=some o->(¬ P b->(b ∉ fs->h'.get? b=some o)/\∃ sl,h'.get? b=some { o with slots:=sl})/\∃ o',h'.get? b=some o'
section
variable {cells c:Cells}{own:Own}{s:Shared}{h h':Heap}
theorem Base.xM{fs:List Addr}{P:Addr->Prop}{t:Nat}(I:Base X own c s)(hf:∀ b∈fs,b∈X.gx)(hP:∀ b,P b->∃ m,own b=some m/\m≠b/\c m=none)(hs:uC fs P s.heap h') :
  Base X own c {s with heap:=h',toks:=t}/\Ext qH own c s.heap own c h':=by
 have h0:∀ b,b∈fs\/P b->X.h₀.get? b=none:=λb q=>by
  rcases q with q | q
  ·obtain ⟨_,_,_,_,_,_,z⟩:=I.gx b (hf b q);exact z
  ·apply aj (hP b q) λm e Z=>?_;exact I.new b m e
 have k0:∀ b o,¬ (b∈fs\/P b)->s.heap.get? b=some o->h'.get? b=some o:=λb o n e=>((hs b o e).1 λq=>n (.inr q)).1 λq=>n (.inl q)
 have nf:∀ b o,s.heap.get? b=some o->own b=none->(∀ es n,o.data≠.dict es n)->h'.get? b=some o:=λb o e n z=>k0 b o (λq=>by
  rcases q with q | q
  ·obtain ⟨_,o',es,k,e',d,_⟩:=I.gx b (hf b q)
   rw [e] at e';obtain rfl:=cK e';exact z _ _ d
  ·apply aj (hP b q) λm e' Z=>?_;rw [n] at e';exact bf e') e
 have rv:∀ v x,RV own s.heap v x->RV own h' v x:=λv x r=>r.mono (λb o e q z=>nf b o e q z.nodict) λZ Z Z e=>e
 have owned:∀ b o a,s.heap.get? b=some o->own b=some a->(c a≠none\/a=b)->h'.get? b=some o:=λb o a e q z=>k0 b o (λp=>by
  rcases p with p | p
  ·have:=(I.gx b (hf b p)).1;rw [q] at this;exact dc this
  ·apply bM (hP b p) λm e' n1 n2=>?_
   rw [q] at e';obtain rfl:=cK e'
   rcases z with z | z
   ·exact z n2
   ·exact n1 z) e
 apply ⟨I.step (P:=λb=>b∈fs\/P b) (λb p=>h0 b p) k0 (λb d e=>⟨I.new b d e,bw (I.lt b d e) λo q=>(hs b o q).2⟩)
  (λd x e=>⟨(I.cell d x e).1,(I.cell d x e).2.mono (λb o q e'=>⟨owned b o d e' q (.inl (by rw [e];simp)),q⟩) rv (I.cell d x e).1⟩)
  (λL hL=>by
   apply t9 (I.gx L hL) λn o es k e d z=>?_
   (apply bw (((hs L o e).1 λq=>by apply aj (hP L q) λm e' Z=>?_;rw [n] at e';exact bf e').2) ?_;intro sl e')
   exact ⟨n,_,es,k,e',d,z⟩),⟨λb o e n Z Z=>?_,λZ Z Z e=>e,λb o e=>(hs b o e).2,λb a o e q z=>⟨owned b o a e q (.inr z.2),q,rfl,z.2⟩⟩⟩
 obtain ⟨sl,e'⟩:=((hs b o e).1 λq=>by obtain ⟨m,e',_⟩:=hP b q;rw [n] at e';exact bf e').2
 exact (gO _ e' rfl rfl (λz=>by rw [nf b o e n z] at e';exact (cK e').symm))
theorem kq(I:Base X own c s):∀ {envs:List Env},(∀ env∈envs,env.scope.kind≠.module/\∃ L∈X.gx,env.frame=some L)->s.heap.FunFrames {} envs
 | [],_=>trivial
 | env::r,h=>by
  apply jX (h env mem_cons_self) λh1 L h2 h3=>?_
  obtain ⟨_,o,es,k,e,d,_⟩:=I.gx L h2
  exact ⟨h1,⟨L,o,h3,rfl,e,λvs q=>by rw [d] at q;cases q⟩,kq I λe he=>h e (mem_cons_of_mem _ he)⟩
theorem y0{envs:List Env}(h:∀ env∈envs,env.scope.kind≠.module/\∃ L∈X.gx,env.frame=some L):∀ b∈envs.filterMap (·.frame),b∈X.gx:=λb hb=>by
 apply aj (List.mem_filterMap.mp hb) λe he hf=>?_
 obtain ⟨_,L,h2,h3⟩:=h e he
 rw [h3] at hf;obtain rfl:=cK hf;exact h2
end
section
variable {M:Model}{A:Around}{E:Value->Shared->Prop}{s:Shared}
theorem y1{env:Env}{outer:List Env}{L e:Addr}{oe:Obj}{vs:Array Value}{Q:Unit->Shared->Prop}(t5:A.frames=some (env::outer))(hl:s.heap.FunFrames {} (env::outer))(hf:env.frame=some L)(he:s.heap.get? e=some oe)(hd:oe.data=.fields vs)(h1:vs[1]?=some .none)(h:∀ h' T oT ts,h'.get? e=some (oe.mapFields (·.setIfInBounds 1 (.ref T)))->s.heap.get? T=none->h'.get? T=some oT->oT.data=.fields ts->3<ts.size ->
   (∀ b o,b≠e->s.heap.get? b=some o->(b ∉ (env::outer).filterMap (·.frame)->h'.get? b=some o)/\∃ sl,h'.get? b=some { o with slots:=sl})->Q () {s with heap:=h'}) :
  wpAny M A (noteFrame (.ref e) env) Q E s:=by
 have K8:e ∉ (env::outer).filterMap (·.frame):=λhm=>by
  obtain ⟨_,o,ho,K9⟩:=hl.mem hm
  rw [he] at ho;injection ho with ho;subst ho;exact K9 vs hd
 unfold noteFrame
 simp only [hf]
 apply wpAny_bind (wpAny_field he hd h1 ?_)
 rw [if_neg (by decide)]
 apply wpAny_bind (wpAny_frameOf_fun t5 hl hf λh₁ xN=>?_)
 apply wpAny_bind (wpAny_entryPlaceOf λpl vE=>?_)
 unfold EntryCells.newEntry newFields
 apply wpAny_bind (wpAny_newObj_type ?_ (vE.sizeOk5 _ _ _ _ _))
 have E5:h₁.get? e=some oe:=(xN.2.1 e K8).trans he
 have E6:=get?_push_of_some (h:=h₁) { cls:=.type "traceback",dict:=none,data:=.fields ([Value.none,.ref L,.none,rawInt L,.none]++(if pl.isEmpty then replicate 6 Value.none else pl)).toArray} E5
 have ml:1<vs.size:=(Array.getElem?_eq_some_iff.mp h1).1
 apply wpAny_setField E6 hd ml ?_
 have JI:h₁.objs.size≠e:=Nat.ne_of_gt (lt_size E5)
 have H7:=data_mapFields hd (·.setIfInBounds 1 (Value.ref h₁.objs.size))
 have H8:=get?_update_self (mapFields (·.setIfInBounds 1 (Value.ref h₁.objs.size))) E6 (Obj.isFreed_of_fields H7)
 have H9:=(get?_update_other (h₁.push { cls:=.type "traceback",dict:=none,data:=.fields ([Value.none,.ref L,.none,rawInt L,.none]++(if pl.isEmpty then replicate 6 Value.none else pl)).toArray})
  (mapFields (·.setIfInBounds 1 (Value.ref h₁.objs.size))) (Ne.symm JI)).trans (get?_push_size h₁ rfl)
 have keep:∀ b o,b≠e->h₁.get? b=some o->((h₁.push { cls:=.type "traceback",dict:=none,data:=.fields ([Value.none,.ref L,.none,rawInt L,.none]++(if pl.isEmpty then replicate 6 Value.none else pl)).toArray}).update e (mapFields (·.setIfInBounds 1 (Value.ref h₁.objs.size)))).get? b=some o:=λb o DE hb=>by
  rw [get?_update_other _ _ (Ne.symm DE)]
  exact get?_push_of_some _ hb
 have hz:h₁.objs.size=s.heap.objs.size:=xN.1
 apply h _ h₁.objs.size _ _ H8 (by rw [hz];exact ak _) H9 rfl ?_ λb o DE hb=>⟨λhn=>keep b o DE ((xN.2.1 b hn).trans hb),let ⟨sl,q⟩:=xN.2.2 b o hb;(bJ sl (keep b _ DE q))⟩
 simp only [size_toArray,length_append,length_cons,length_nil]
 lia
end
section
variable {prog:Program}{w:World}{A:Around}{E:Value->Shared->Prop}{s:Shared}
theorem Ba{env:Env}{outer:List Env}{L e:Addr}{oe:Obj}{vs:Array Value}{Q:Unit->Shared->Prop}(t5:A.frames=some (env::outer))(hl:s.heap.FunFrames {} (env::outer))(hf:env.frame=some L)(he:s.heap.get? e=some oe)(hd:oe.data=.fields vs)(h1:vs[1]?=some .none)(h:∀ h' T Ia oT je ts,h'.get? e=some Ia->Ia.cls=oe.cls->Ia.data=.fields je->je[1]?=some (.ref T)->T≠e->s.heap.get? T=none->h'.get? T=some oT->oT.data=.fields ts->3<ts.size ->
   (∀ b o,b≠e->s.heap.get? b=some o->(b ∉ (env::outer).filterMap (·.frame)->h'.get? b=some o)/\∃ sl,h'.get? b=some { o with slots:=sl})->Q () {s with heap:=h'}) :
  wpAny (model prog w) A (noteFrame (.ref e) env) (λZ s₂=>wpAny (model prog w) A (setFlight (.ref e) none) Q E s₂) E s:=by
 apply y1 t5 hl hf he hd h1 λh' T oT ts e1 e2 e3 e4 e5 k=>?_
 have JI:T≠e:=λz=>by rw [z,he] at e2;exact dc e2
 have nY:=data_mapFields hd (·.setIfInBounds 1 (Value.ref T))
 have ml:1<vs.size:=(Array.getElem?_eq_some_iff.mp h1).1
 have Mu:(vs.setIfInBounds 1 (Value.ref T))[1]?=some (.ref T):=by exact Array.getElem?_setIfInBounds_self_of_lt ml
 apply wpAny_setFlight_none e1 nY Mu e3 e4 e5 ?_
 have dT:=data_mapFields e4 (·.setIfInBounds 3 Value.none)
 apply h _ T _ _ _ _ ((get?_update_other _ _ JI).trans e1) (Obj.cls_mapFields _ _) nY Mu JI e2 (get?_update_self _ e3 (Obj.isFreed_of_fields dT)) dT (by simpa using e5) λb o DE hb=>?_
 have JJ:T≠b:=λz=>by rw [<- z,e2] at hb;exact bf hb
 apply Dc (k b o DE hb) λq1 sl q2=>?_
 exact (iPDP (λhn=>(get?_update_other _ _ JJ).trans (q1 hn)) sl ((get?_update_other _ _ JJ).trans q2))
end
section
variable {prog:Program}{w:World}{A:Around}{E:Value->Shared->Prop}{s:Shared}{m it l:Addr}{i:Nat}{sl:Array (Option Value)}{items:Array Value}
theorem bound_next{Q:Unit->Shared->Prop}(h:Q () s):wpAny (model prog w) A (checkBoundCall "list_iterator.__next__" ⟨[.ref it],[]⟩) Q E s:=by
 unfold checkBoundCall
 repeat (any_goals (first | assumption | wp_step))
theorem pJ{x:Value}{Q:Value->Shared->Prop}(ho:s.heap.get? m=some ⟨.type "method-wrapper",none,.fields #[.builtin "list_iterator.__next__",.ref it],sl⟩)(hit:s.heap.IsListIter it l i)(hl:s.heap.IsList l items)(hx:items[i]?=some x)(hQ:∀ h',h'.IsListIter it l (i+1)->SameBut it s.heap h'->Q x {s with heap:=h'}):wpAny (model prog w) A (call (.ref m) []) Q E s:=by
 apply bM (id hit) λo me hc hd=>?_
 apply Ap hl λol La Z nl DF=>?_
 apply wpAny_call (gW (.inr rfl) ho slot_listiter_next.plain entry_listiter_next (bound_next ?_))
 show wpAny _ _ (field (.ref it) 0 >>= _) _ _ s
 apply wpAny_bind (wpAny_field me hd (x:=.ref l) rfl ?_)
 show wpAny _ _ (if (Value.ref l == Value.none)=true then _ else _) _ _ s
 rw [if_neg (show ¬ ((Value.ref l == Value.none)=true) from Bool.false_ne_true)]
 show wpAny _ _ (field (.ref it) 1 >>= _) _ _ s
 apply wpAny_bind (wpAny_field me hd (x:=.int i 0) rfl ?_)
 show wpAny _ _ (seqItems? (.ref l) >>= _) _ _ s
 apply wpAny_bind (wpAny_seqItems La DF ?_)
 simp only [toNat_natCast,hx]
 apply wpAny_bind (wpAny_setField me hd (Nat.one_lt_succ_succ [].length) (wpAny_pure (hQ _ ?_ (SameBut.update ..))))
 exact (aV _ (get?_update_self _ me (Obj.isFreed_of_fields (data_mapFields hd _))) ((Obj.cls_mapFields ..).trans hc)  (by
  rw [data_mapFields hd];simp [rawInt]))
theorem qS{Q:Value->Shared->Prop}(hh:A.handled=none)(ho:s.heap.get? m=some ⟨.type "method-wrapper",none,.fields #[.builtin "list_iterator.__next__",.ref it],sl⟩)(hit:s.heap.IsListIter it l i)(hl:s.heap.IsList l items)(hx:items[i]?=none)(hE:∀ h' e t,s.heap.get? e=none->h'.get? e=some { cls:=.type "StopIteration",data:=.fields #[.ref t,.none,.none,.none,.bool false,.none]}->(∀ b o,b≠it->s.heap.get? b=some o->h'.get? b=some o)->(∃ o,h'.get? it=some o)->E (.ref e) {s with heap:=h'}):wpAny (model prog w) A (call (.ref m) []) Q E s:=by
 apply bM (id hit) λo me hc hd=>?_
 apply Ap hl λol La Z nl DF=>?_
 apply wpAny_call (gW (.inr rfl) ho slot_listiter_next.plain entry_listiter_next (bound_next ?_))
 show wpAny _ _ (field (.ref it) 0 >>= _) _ _ s
 apply wpAny_bind (wpAny_field me hd (x:=.ref l) rfl ?_)
 show wpAny _ _ (if (Value.ref l == Value.none)=true then _ else _) _ _ s
 rw [if_neg (show ¬ ((Value.ref l == Value.none)=true) from Bool.false_ne_true)]
 show wpAny _ _ (field (.ref it) 1 >>= _) _ _ s
 apply wpAny_bind (wpAny_field me hd (x:=.int i 0) rfl ?_)
 show wpAny _ _ (seqItems? (.ref l) >>= _) _ _ s
 apply wpAny_bind (wpAny_seqItems La DF ?_)
 simp only [toNat_natCast,hx]
 apply wpAny_bind (wpAny_rule (wpAny_bind (wpAny_setField me hd (size_pos_of_not_empty rfl) ?_)))
 show wpAny _ _ (newExc (.type "StopIteration") [] >>= _) _ _ _
 apply wpAny_bind ?_
 simp only [newExc,newTuple]
 apply wpAny_bind (wpAny_newObj_type ?_ (by size_fits))
 apply wpAny_bind (m:=firstArgMember _ _) (wpAny_of_eq (a:=Value.none) (by first | rfl | (simp only [firstArgMember];rfl)) ?_)
 apply wpAny_newObj_type ?_ (by size_fits)
 unfold raiseNew
 apply wpAny_bind (wpAny_handled ?_)
 rw [show A.in1.handled=none from hh]
 apply wpAny_bind (wpAny_pure (wpAny_throw ?_))
 apply hE _ _ _ ?_ (get?_push_size _ rfl) (λb o hb e=>get?_push_of_some _ (get?_push_of_some _ ((get?_update_other _ _ (Ne.symm hb)).trans e))) (bJ _ (get?_push_of_some _ (get?_push_of_some _ (get?_update_self _ me (Obj.isFreed_of_fields (data_mapFields hd _))))))
 apply fJ ?_
 simp
end
section
variable {M:Model}{A:Around}{E:Value->Shared->Prop}{s:Shared}
theorem lA{B:String}{pos:Pos}{u:Addr}{vs:Array Value}{sl:Array (Option Value)}{first:List Value}{args:List (Bool×Sem Value)}{Q:Value->Shared->Prop}(hB:B="builtin_function_or_method"\/B="method-wrapper")(dR:args.any (·.1)=false)(h:wpAny M A (evalArgs (.ref u) true args []) (λx s₁=>s₁.heap.get? u=some ⟨.type B,none,.fields vs,sl⟩/\wpAny M A (call (.ref u) (first++x.pos) x.kw) Q E s₁) E s):wpAny M A (callWith pos (.ref u) first args []) Q E s:=by
 unfold callWith
 apply wpAny_bind (wpAny_holding (wpAny_mono h (λx s₁ h₁=>wpAny_bind (wpAny_standAt ?_)) λZ Z x=>x))
 (apply aC h₁ ?_;try clear h₁;intro ho A8)
 rewrite [dR]
 apply wpAny_bind (m:=keeperOf (.ref u)) ?_
 unfold keeperOf
 apply wpAny_bind (wpAny_load ho ?_)
 have e1:(Value.type B != Value.type "method")=true:=by rcases hB with rfl | rfl <;> decide
 have e2:(Value.type B == Value.type "builtin_function_or_method"||Value.type B == Value.type "method-wrapper")=true:=by rcases hB with rfl | rfl <;> decide
 rewrite [e1]
 show wpAny M A (Sem.pure (if (Value.type B == Value.type "builtin_function_or_method"||Value.type B == Value.type "method-wrapper")=true then machine else Keeper.caller)) _ _ _
 rewrite [e2]
 apply wpAny_pure ?_
 show wpAny M A (call (.ref u) (first++x.pos) x.kw >>= λr=>holding [r] point >>= λZ=>pure r) _ _ _
 exact wpAny_bind (wpAny_mono A8 (λr s₂ hr=>wpAny_bind (wpAny_holding (wpAny_point (wpAny_pure hr)))) λZ Z x=>x)
end
section
theorem y2:isSubtype (.type "StopIteration") (.type "BaseException")=pure true:=by rw [isSubtype_type];rfl'
theorem y3:isSubtype (.type ((Manifest.find? "StopIteration").elim "type" λx=>x.metatype)) (.type "tuple")=pure false:=by rw [isSubtype_type];rfl'
theorem mD{own:Own}{s:Shared}{x:Str}{p:Pos}{mv:V}{Q:Value->Shared->Prop}{E:Value->Shared->Prop}(I:Inv X env own loc cells s)(hk:env.kindOf x=some .globalImplicit)(hl:X.glob.lookup x=some mv)(h:∀ v,RV own s.heap v mv->Q v s)(hd:autoParam ((x == ("__debug__":Str))=false) aDK) :
  wpAny (model X.prog X.w) A (eval (.Name x p) env) Q E s:=by
 apply aj (X.xo x mv hl) λv e r=>?_
 have hg:=I.base.hg
 have hb:=I.base.hb
 rw [<- I.ok.glob] at hg
 rw [<- I.ok.blt] at hb
 rcases e with e | ⟨e1,e2⟩
 ·exact Calls.Name_function_global I.ok.kind hk (Calls.loadGlobal_global hg e (h v r.base)) hd
 ·exact Calls.Name_function_global I.ok.kind hk (Calls.loadGlobal_builtin hg e1 hb e2 (h v r.base)) hd
theorem v9{k:Nat}{x:Str}{px p2 p3 p4 p5 p6 np:Pos}{fe:Expr}{b0:Stmt}{suite:List Stmt}{Ψ:MF->Loc->Cells->Prop}(hA:Rm X A k)(htop:∃ outer,A.frames=some (env::outer))(hx:env.kindOf x=some .local\/env.kindOf x=some .cell)(hS:X.glob.lookup ("StopIteration":Str)=some (.ty "StopIteration"))(NW:env.kindOf "StopIteration"=some .globalImplicit)(h:mE X A env (eval fe env) (λf l c=>∃ m xs i,f=.ref m/\c m=some (.iter (.list xs) i)/\match xs[i]? with
   | some v=>Ψ .brk ((x,v)::l) (upd c m (some (.iter (.list xs) (i+1))))
   | none=>∀ e,mS X (A.mark (some (.ref e))) env (execs (b0::suite) env) Ψ l (upd c m none)) loc cells)(he:autoParam (eval (.Call fe [] [] p2) env=(do let f <- eval fe env;callWith p2 f [] [] [])) aR)(hs:autoParam (swapsWith (.Call fe [] [] p2) (some (.Name x px)) p3.line env=pure false) aR) :
  mS X A env (exec (.Try [.Assign [.Name x px] (.Call fe [] [] p2) p3,.Break p4] [.ExceptHandler (some (.Name "StopIteration" np)) none (b0::suite) p5] [] [] p6) env) Ψ loc cells:=λown s I=>by
 apply wpAny_Try_except (wpAny_execs_cons (wpAny_Assign_Name ?_ hs))
 rw [he]
 apply wpAny_bind (bZ (h.use I λown1 l1 c1 f v1 s1 I1 r1 x1 aM=>eg aM λm xs i ef hc h1=>?_))
 subst ef
 apply RV.e0 r1 rfl ?_
 apply yw (I1.base.cell m _ hc) λom it l em oi ne hit rx=>?_
 apply aA rx.cN λl' d vs n sl el ho hn rs=>?_
 cases el
 have hl:s1.heap.IsList l vs:=(bh _ ho rfl n rfl)
 apply lA (.inr rfl) rfl (PyProof.Rows.evalArgs_none ⟨em,?_⟩)
 have hz:vs.size=xs.length:=by simpa using rs.1
 cases tY:xs[i]? with
 | some v =>
  rw [tY] at h1
  dsimp only at h1
  have i4:i<xs.length:=(List.getElem?_eq_some_iff.mp tY).1
  apply pJ (x:=vs[i]) em hit hl (Array.getElem?_eq_getElem (Nat.lt_of_lt_of_eq i4 (id (Eq.symm hz)))) λh' vY vD=>?_
  have rv:RV own1 s1.heap vs[i] v:=rs.2 i _ _ (by simp [hz,i4]) tY
  have kp:∀ b o,own1 b≠some m->s1.heap.get? b=some o->h'.get? b=some o:=λb o q e=>(vD.2 b (λz=>q (z▸oi))).trans e
  have th:∀ b o,s1.heap.get? b=some o->∃ o',h'.get? b=some o':=λb o e=>by
   by_cases z:b=it
   ·(apply aj vY ?_;try clear vY;intro o' e' Z);exact (bJ o' (z▸e'))
   ·exact (bJ o ((vD.2 b z).trans e))
  have Mv:∀ v x,RV own1 s1.heap v x->RV own1 h' v x:=λv x r=>r.mono (λb o e q Z=>kp b o (by rw [q];simp) e) λZ Z Z e=>e
  have B:=I1.base.cellSet (own':=own1) (h':=h') (t:=s1.toks) (c':=.iter (.list xs) (i+1)) (λZ Z Z=>rfl) (λb d e n=>(n e).elim) kp th om (dS it l ((vD.2 m (λz=>ne z.symm)).trans em) oi ne vY (Mv _ _ rx))
  have xt:Ext qH own1 c1 s1.heap own1 (upd c1 m (some (.iter (.list xs) (i+1)))) h':=cS (s:=s1) (λZ Z Z=>rfl) kp th (.inl (Cell.eV hc rfl))
  have I2:Inv X env own1 l1 (upd c1 m (some (.iter (.list xs) (i+1)))) { s1 with heap:=h',toks:=s1.toks}:=⟨B,I1.ok,I1.fr.ext xt⟩
  apply bu I2 (Mv _ _ rv) hx λs3 I3 x3=>?_
  exact wpAny_execs_cons (wpAny_Break ⟨own1,_,_,.brk,I3,.brk,x1.trans (xt.fF.trans x3),h1⟩)
 | none =>
  rw [tY] at h1
  dsimp only at h1
  have E7:xs.length<=i:=by
   rcases Nat.lt_or_ge i xs.length with q | q
   ·rw [getElem?_eq_getElem q] at tY;exact dc tY
   ·exact q
  apply qS hA.hh em hit hl (Array.getElem?_eq_none_iff.mpr (le_of_eq_of_le hz E7)) λh2 e t en ee kp NX=>?_
  apply aj hA.fr λenvs t5 E8=>?_
  (apply bw htop ?_;try clear htop;intro outer vR)
  rw [t5] at vR
  obtain rfl:=cK vR
  obtain ⟨_,L,hL,hf⟩:=E8 env mem_cons_self
  have B0:Base X own1 (upd c1 m none) s1:=I1.base.gT λx q=>(bf q)
  have x0:Ext qH own1 c1 s1.heap own1 (upd c1 m none) s1.heap:=ir hc rfl
  have ite:s1.heap.get? it=none->False:=λq=>by (apply aj hit ?_;try clear hit;intro o e' Z);rw [q] at e';exact bf e'
  have hP:∀ b,b=it->∃ m',own1 b=some m'/\m'≠b/\(upd c1 m none) m'=none:=λb q=>⟨m,q▸oi,λz=>ne (by rw [z,q]),ah _ _ _⟩
  have wa:=y0 E8
  have Lb:uC [] (λb=>b=it) s1.heap h2:=λb o eo=>⟨λnb=>(iPDP (λZ=>kp b o nb eo) o.slots (kp b o nb eo)),by
   by_cases z:b=it
   ·exact z▸NX
   ·exact (bJ o (kp b o z eo))⟩
  apply aC (B0.xM (t:=s1.toks) (by simp) hP Lb) λB2 x2=>?_
  apply Ba t5 (kq B2 E8) hf ee rfl rfl λh3 T Ia oT je ts e1 e2 e3 e4 e5 e6 e7 e8 e9 k3=>?_
  dsimp only at e6 k3
  have nT:s1.heap.get? T=none:=by
   cases q:s1.heap.get? T with
   | none=>rfl
   | some o =>
    apply bw ((Lb T o q).2) λo' q'=>?_
    rw [e6] at q';exact bf q'
  apply wpAny_handleBy_builtin (X:="StopIteration") (T:="StopIteration") (b:=true) y2 y3 isSubtype_stop ?_
  have gl:X.glob.lookup ("StopIteration":Str)=some (.ty "StopIteration"):=hS
  have Mw:uC ((env::outer).filterMap (·.frame)) (λb=>b=it) s1.heap h3:=λb o eo=>by
   have DE:b≠e:=λz=>by rw [z,en] at eo;exact bf eo
   have mk:∃ o2,h2.get? b=some o2:=(Lb b o eo).2
   apply ⟨λnb=>?_,let ⟨o2,q2⟩:=mk;let ⟨_,q⟩:=(k3 b o2 DE q2).2;⟨_,q⟩⟩
   have q2:=kp b o nb eo
   exact k3 b o DE q2
  apply aC (B0.xM (t:=s1.toks) wa hP Mw) λB3 x3=>?_
  have I3:Inv X env own1 l1 (upd c1 m none) { s1 with heap:=h3,toks:=s1.toks}:=⟨B3,I1.ok,(I1.fr.ext x0).ext x3⟩
  apply mD (A:=A.mark (some (.ref e))) I3 NW gl λv r4=>?_
  apply RV.e0 r4 rfl ?_
  apply ⟨rfl,(iDPP Ia e1 e2),?_⟩
  rw [if_pos rfl]
  apply wpAny_setFlight_none e1 e3 e4 e7 e8 e9 ?_
  have NY:uC ((env::outer).filterMap (·.frame)) (λb=>b=it) s1.heap (h3.update T (mapFields (·.setIfInBounds 3 .none))):=λb o eo=>by
   have JJ:T≠b:=λz=>by rw [<- z,nT] at eo;exact bf eo
   have Lc:∀ o,h3.get? b=some o->(h3.update T (mapFields (·.setIfInBounds 3 .none))).get? b=some o:=λo e=>(get?_update_other _ _ JJ).trans e
   apply Dc (Mw b o eo) λq1 o2 q2=>?_
   exact (iPDP (λnb=>⟨λnf=>Lc _ ((q1 nb).1 nf),let ⟨sl,q⟩:=(q1 nb).2;(bJ sl (Lc _ q))⟩) o2 (Lc _ q2))
  apply aC (B0.xM (t:=s1.toks) wa hP NY) λB4 x4=>?_
  have I4:Inv X env own1 l1 (upd c1 m none) { s1 with heap:=h3.update T (mapFields (·.setIfInBounds 3 .none)),toks:=s1.toks}:=⟨B4,I1.ok,(I1.fr.ext x0).ext x4⟩
  apply bZ (cL.use (h1 e) I4 λvP l5 c5 b v5 s5 I5 r5 x5 h5=>?_)
  exact ⟨vP,l5,c5,b,I5,r5,x1.trans (x0.fF.trans (x4.fF.trans x5)),h5⟩
end
section
theorem uD{e:Expr}{np cp ap:Pos}{Ψ:V->Loc->Cells->Prop}(hk:env.kindOf "iter"=some .globalImplicit)(hl:X.glob.lookup ("iter":Str)=some (.bi "iter"))(h:mE X A env (eval e env) (λv l c=>∃ xs,v=.list xs/\∀ m,c m=none->Ψ (.ref m) l (upd c m (some (.iter (.list xs) 0)))) loc cells)(rK:autoParam (starEach [e] env=[(false,eval e env)]) aR)(he:autoParam (eval (.Attribute (.Call (.Name "iter" np) [e] [] cp) "__next__" ap) env=(do let o <- eval (.Call (.Name "iter" np) [e] [] cp) env;standAt ap.atName;let r <- holding [o] (getAttr o "__next__" true);letTemporaryGo (.Call (.Name "iter" np) [e] [] cp) o r;pure r)) aR) :
  mE X A env (eval (.Attribute (.Call (.Name "iter" np) [e] [] cp) "__next__" ap) env) Ψ loc cells:=λown s I=>by
 apply Attribute_any_ (wpAny_Call_NameR ?_) he
 apply (eU (Ψ:=λv l c=>v=.bi "iter"/\l=loc/\c=cells) hk hl ⟨rfl,rfl,rfl⟩).use I λown1 l1 c1 b v1 s1 I1 r1 x1 h1=>?_
 (apply bq h1 ?_;try clear h1;intro aM;subst aM;intro bk;subst bk;intro bN;subst bN)
 apply eE (own:=own1) (f:=.bi "iter") (rest:=[]) trivial r1 ?_ rK rfl
 apply RV.e0 r1 rfl ?_
 apply (af (rest:=[]) (Ψ:=λas l c=>∃ xs,as=[V.list xs]/\∀ m,c m=none->Ψ (.ref m) l (upd c m (some (.iter (.list xs) 0)))) (h.mono λa l c eC=>aj eC λxs q1 q2=>a_nil (iDPP xs (by rw [q1]) q2)) rK).use I1 λaG l2 c2 as vs s2 I2 r2 x2 fR=>aj fR λxs ea hΨ=>⟨I2.base.K,?_⟩
 subst ea
 (apply aj r2.one ?_;intro v cI;rw [cI];intro rv)
 (apply aA rv.cN ?_;intro l d ws n sl dH;rw [dH];intro ho hn rs)
 apply Calls.call_function_entry (by decide +kernel) (by decide +kernel) PySem.W.kdk_entry_iter (PySem.W.kdk_args_iter _) ?_
 unfold Builtin.«iter»
 apply wpAny_bind (m:=someArgs "iter" 1 2 _) (wpAny_of_eq (a:=[Value.ref l]) (by first | rfl | rfl') ?_)
 show wpAny _ _ (pyIter (.ref l) >>= _) _ _ _
 apply wpAny_bind (wpAny_pyIter_list (bh _ ho rfl n rfl) (wpAny_pure (iDPP _ rfl ?_)))
 apply sZ (get?_push_size _ rfl) ?_
 have z1:(s2.heap.push { cls:=.type "list_iterator",data:=.fields #[.ref l,.int 0 0]}).objs.size=s2.heap.objs.size+1:=size_push ..
 rw [z1]
 have kp:∀ b o,s2.heap.get? b=some o->((s2.heap.push { cls:=.type "list_iterator",data:=.fields #[.ref l,.int 0 0]}).push { cls:=.type "method-wrapper",data:=.fields #[.builtin "list_iterator.__next__",.ref s2.heap.objs.size]}).get? b=some o:=λb o e=>get?_push_of_some _ (get?_push_of_some _ e)
 have ei:((s2.heap.push { cls:=.type "list_iterator",data:=.fields #[.ref l,.int 0 0]}).push { cls:=.type "method-wrapper",data:=.fields #[.builtin "list_iterator.__next__",.ref s2.heap.objs.size]}).get? s2.heap.objs.size=some { cls:=.type "list_iterator",data:=.fields #[.ref l,.int 0 0]}:=get?_push_of_some _ (get?_push_size _ rfl)
 have em:((s2.heap.push { cls:=.type "list_iterator",data:=.fields #[.ref l,.int 0 0]}).push { cls:=.type "method-wrapper",data:=.fields #[.builtin "list_iterator.__next__",.ref s2.heap.objs.size]}).get? (s2.heap.objs.size+1)=some { cls:=.type "method-wrapper",data:=.fields #[.builtin "list_iterator.__next__",.ref s2.heap.objs.size]}:=by rw [<- z1];exact get?_push_size _ rfl
 generalize (s2.heap.push { cls:=.type "list_iterator",data:=.fields #[.ref l,.int 0 0]}).push { cls:=.type "method-wrapper",data:=.fields #[.builtin "list_iterator.__next__",.ref s2.heap.objs.size]}=h4 at kp ei em ⊢
 have n0:s2.heap.get? s2.heap.objs.size=none:=ak _
 have n1:s2.heap.get? (s2.heap.objs.size+1)=none:=fJ (le_add_right s2.heap.objs.size 1)
 have f0:=I2.base.fresh n0
 have f1:=I2.base.fresh n1
 obtain ⟨own',me⟩:∃ own':Own,own'=λb=>if b=s2.heap.objs.size\/b=s2.heap.objs.size+1 then some (s2.heap.objs.size+1) else aG b:=(bJ _ rfl)
 have oe:∀ b o,s2.heap.get? b=some o->own' b=aG b:=λb o e=>by
  rw [me];dsimp only
  rw [if_neg (λq=>q.elim (λz=>by rw [z,n0] at e;exact bf e) (λz=>by rw [z,n1] at e;exact bf e))]
 have oi:own' s2.heap.objs.size=some (s2.heap.objs.size+1):=by rw [me];simp
 have om:own' (s2.heap.objs.size+1)=some (s2.heap.objs.size+1):=by rw [me];simp
 have th:∀ b o,s2.heap.get? b=some o->∃ o',h4.get? b=some o':=λb o e=>(bJ o (kp b o e))
 have NZ:RV own' h4 (.ref l) (.list xs):=(RV.mj ho hn rs).mono (λb o e Z Z=>kp b o e) λb o e q=>by rw [oe b o e];exact q
 have B:=I2.base.cellSet (own':=own') (h':=h4) (t:=s2.toks+1) (c':=.iter (.list xs) 0) oe (λb d e n=>by
  rw [me] at e;dsimp only at e
  split at e
  ·rename_i q
   rcases q with rfl | rfl
   ·exact (iPDP f0.2 _ ei)
   ·exact (iPDP f1.2 _ em)
  ·exact (n e).elim) (λb o Z e=>kp b o e) th om (dS s2.heap.objs.size l em oi (ne_of_lt (lt_succ_self _)) (aV _ ei rfl rfl) NZ)
 have xt:Ext qH aG c2 s2.heap own' (upd c2 (s2.heap.objs.size+1) (some (.iter (.list xs) 0))) h4:=cS (s:=s2) oe (λb o Z e=>kp b o e) th (.inr n1)
 exact ⟨own',l2,_,.ref _,⟨B,I2.ok,I2.fr.ext xt⟩,.ref _,x1.trans (x2.trans xt.fF),hΨ _ (I2.base.gB n1)⟩
end
section
theorem DG{f:Str}{np pos:Pos}{fv:V}{Ψ:V->Loc->Cells->Prop}(hk:env.kindOf f=some .globalImplicit)(hl:X.glob.lookup f=some fv)(HG:Keeps X fv)(h:aD X A fv [] (λr c'=>Ψ r loc c') cells)(hd:autoParam ((f == ("__debug__":Str))=false) aDK) :
  mE X A env (eval (.Call (.Name f np) [] [] pos) env) Ψ loc cells:=λown s I=>by
 apply wpAny_Call_NameR ?_
 apply (eU (Ψ:=λv l c=>v=fv/\l=loc/\c=cells) hk hl ⟨rfl,rfl,rfl⟩ hd).use I λown1 dz bg b v1 s1 I1 r1 x1 h1=>?_
 (apply bq h1 ?_;try clear h1;intro aM;subst aM;intro bk;subst bk;intro bN;subst bN)
 apply eW (first:=[]) HG r1 (spliced_none ⟨I1.base.K,?_⟩) rfl
 exact (h v1 []).lY I1 ⟨r1,.nil⟩ λbX fw c v3 s3 I3 r3 x3 h3=>⟨bX,dz,fw,c,I3,r3,x1.trans x3,h3⟩
theorem uE{k:Nat}{dv kv:Value}{a:Addr}{qual:Str}{st:Stmt}{names:List Str}{as:List V}{Ψ:V->Cells->Prop}(F:Mr X a qual st dv kv)(hA:Rm X A (k+1))(hb:∀ doc pm an cdv ct,∀ vs:List Value,vs.length=as.length->bindArgs (fnOf (fnName st) qual (bz st) (aF st) (ai st) dv kv doc pm an cdv ct) ⟨vs,[]⟩=pure (names.zip vs))(h:∀ L cdv A',Rm (X.push L) A' k->(∃ outer,A'.frames=some (bY qual (ai st) L a cdv::outer))->mS (X.push L) A' (bY qual (ai st) L a cdv) (execs (aF st) (bY qual (ai st) L a cdv)) (Back Ψ) (names.zip as) cells)(cq:autoParam ((ai st).kind=.function) aR)(qJ:autoParam ((ai st).isCoroutine=false) aR)(mf:autoParam ((ai st).isGenerator=false) aR)(ji:autoParam (names.Nodup) aDK)(fh:autoParam ((ai st).names.all (λx=>x.2 != .free)=true) aDK)(jj:autoParam (names.all (λx=>(ai st).names.lookup x == some .local||(ai st).names.lookup x == some .cell)=true) aDK) :
  gc X A (.ref a) as Ψ cells:=by
 apply jH F λdoc pm an cdv ct F=>?_
 intro own s fv vs I rf rs R hR
 apply RV.e0 rf rfl ?_
 apply jW F.at_ λoc od FC ho=>?_
 apply codeAny_call_function (fd:=fnOf (fnName st) qual (bz st) (aF st) (ai st) dv kv doc pm an cdv ct) (by have:=hA.dep;exact lt_of_add_right_lt this) (I.K _ _ ho) rfl qJ mf rfl (codeRec_of I.K F.code) ?_
 rw [hb doc pm an cdv ct vs rs.1]
 apply wpAny_pure ?_
 apply g0 hA I rs cq ji fh jj (λL=>h L cdv _ (hA.deeper _ (by show (ai st).kind≠_;rw [cq];decide) rfl) ?_) λown' c s' mv v p r b x=>hR own' c mv v s' b r x p
 apply aj hA.fr λenvs e Z=>?_
 exact ⟨envs,by show A.frames.map _=_;rw [e];rfl⟩
end
section
theorem y4{k:Nat}{dv kv:Value}{a:Addr}{qual:Str}{st:Stmt}{names:List Str}{as:List V}{Ψ:V->Cells->Prop}(F:Mr X a qual st dv kv)(hA:Rm X A (k+1))(hb:∀ doc pm an cdv ct,∀ (vs:List Value) (A:Around) (s:Shared) (Q:List (Str×Value)->Shared->Prop) (E:Value->Shared->Prop),vs.length=as.length->X.K.In s.heap->Q (names.zip vs) s->wpAny (model X.prog X.w) A (bindArgs (fnOf (fnName st) qual (bz st) (aF st) (ai st) dv kv doc pm an cdv ct) ⟨vs,[]⟩) Q E s)(h:∀ L cdv A',Rm (X.push L) A' k->mS (X.push L) A' (bY qual (ai st) L a cdv) (execs (aF st) (bY qual (ai st) L a cdv)) (Back Ψ) (names.zip as) cells)(cq:autoParam ((ai st).kind=.function) aR)(qJ:autoParam ((ai st).isCoroutine=false) aR)(mf:autoParam ((ai st).isGenerator=false) aR)(ji:autoParam (names.Nodup) aDK)(fh:autoParam ((ai st).names.all (λx=>x.2 != .free)=true) aDK)(jj:autoParam (names.all (λx=>(ai st).names.lookup x == some .local||(ai st).names.lookup x == some .cell)=true) aDK) :
  gc X A (.ref a) as Ψ cells:=by
 apply jH F λdoc pm an cdv ct F=>?_
 intro own s fv vs I rf rs R hR
 apply RV.e0 rf rfl ?_
 apply jW F.at_ λoc od FC ho=>?_
 apply codeAny_call_function (fd:=fnOf (fnName st) qual (bz st) (aF st) (ai st) dv kv doc pm an cdv ct) (by have:=hA.dep;exact lt_of_add_right_lt this) (I.K _ _ ho) rfl qJ mf rfl (codeRec_of I.K F.code) ?_
 apply hb doc pm an cdv ct vs _ s _ _ rs.1 I.K ?_
 exact g0 hA I rs cq ji fh jj (λL=>h L cdv _ (hA.deeper _ (by show (ai st).kind≠_;rw [cq];decide) rfl)) λown' c s' mv v p r b x=>hR own' c mv v s' b r x p
end
section
open PySem.W (findIn findObj typeIn keepIn hasDictIn specialIn takesIn)
structure gX(K:PySem.W.Frag)(C:Addr)(name:Str)(f:Addr):Prop where
 hd:hasDictIn K C=true
 at_:findIn K (.ref C) name=some (some (.ref f))
 get:specialIn K (.ref f) "__get__"=some (some (.builtin "function.__get__"))
 takes:takesIn K (.ref f)=some false
 Gi:PySem.W.copiedNames.contains name=false
 typ:typeIn K (.ref f)=some (.type "function")
 func:∃ oc od fd sl,K.lookup f=some ⟨oc,od,.func fd,sl⟩
section
noncomputable abbrev j9 (f a:Addr):Obj:={ cls:=.type "method",data:=.fields #[.ref f,.ref a]}
theorem xO{a C f:Addr}{fs:List (Str×V)}{name:Str}{Q:Value->Shared->Prop}{E:Value->Shared->Prop}(I:Base X own cells s)(hc:cells a=some (.inst C fs))(hl:fs.lookup name=none)(K:lj X.K C)(B:gX X.K C name f)(h:Q (.ref s.heap.objs.size) {s with heap:=s.heap.push (j9 f a),toks:=s.toks+1}):wpAny (model X.prog X.w) A (getAttr (.ref a) name true) Q E s:=by
 apply fD (oD I hc) λd m sl od IA oa odd ne ns lk vals=>?_
 exact get_bind I.K IA K.get (PySem.W.findObj_fn B.hd B.at_ B.get B.takes B.Gi (by rw [lk,(vals name).1 hl])) K.noAttr
  (wpAny_call (PySem.W.fn_get (s:={s with toks:=s.toks+1}) I.K B.typ (handed_on rfl h)))
theorem uF{M:Model}{h:Heap}{q f a:Addr}{oc od fd sl}(hq:h.get? q=some (j9 f a))(hf:h.get? f=some ⟨oc,od,.func fd,sl⟩):Looks M h (keeperOf (.ref q)) .boundFrame:=by
 intro A Q E s kp hk
 unfold keeperOf
 apply wpAny_bind (wpAny_load (kp _ _ hq) ?_)
 dsimp only
 rw [if_neg (by decide)]
 show wpAny _ _ (load f >>= _) _ _ _
 exact wpAny_bind (wpAny_load (kp _ _ hf) (wpAny_pure hk))
theorem xP{own':Own}{cells':Cells}{s':Shared}{q:Addr}{o:Obj}(I:Inv X env own loc cells s)(hn:s.heap.get? q=none){h1:Heap}(e:h1.get? q=some o)(hd:∀ es n,o.data≠.dict es n)(hc:o.cls≠.none)(x:Ext (Fa env) own cells h1 own' cells' s'.heap):s'.heap.get? q=some o:=by
 have nF:¬ Fa env q:=λf=>by
  rcases f with z | ⟨y,hk,hl⟩
  ·obtain ⟨m,o',_,_,e',_⟩:=I.fr.ns
   rw [<- z,hn] at e';exact bf e'
  ·(apply ay (I.fr.i6 y (.inl hk)) ?_;intro c v0 l aM Z;apply aj aM ?_;clear aM;intro o' e' Z)
   rw [hl] at l;obtain rfl:=cK l
   rw [hn] at e';exact bf e'
 apply aj (x.keep q o e (I.base.fresh hn).1 nF (λt=>hc t.1)) λo' e' lk=>?_
 rw [e',lk.2.2 hd]
theorem y5{o:Expr}{name:Str}{apos pos:Pos}{e:Expr}{args:List Expr}{Ψ:V->Loc->Cells->Prop}(h:mE X A env (eval o env) (λov l c=>∃ a C fs f,ov=.ref a/\c a=some (.inst C fs)/\fs.lookup name=none/\lj X.K C/\gX X.K C name f /\
   yy X A env (spliced (backTo pos (starEach (e::args) env))) (λas l' c'=>gc X A (.ref f) (.ref a::as) (λr c2=>Ψ r l' c2) c') l c) loc cells)(rC:autoParam ((backTo pos (starEach args env)).any (·.1)=true) aR)(hs:autoParam (backTo pos (starEach (e::args) env)=(false,eval e env)::backTo pos (starEach args env)) aR)(he:autoParam (eval (.Call (.Attribute o name apos) (e::args) [] pos) env=(do let ov <- eval o env;standAt apos.atName;let (f,first) <- holding [ov] (do pure (<- getAttr ov name true,[]));callWith pos f first (backTo pos (starEach (e::args) env)) [])) aR) :
  mE X A env (eval (.Call (.Attribute o name apos) (e::args) [] pos) env) Ψ loc cells:=λown s I=>by
 rw [he]
 apply wpAny_bind (h.use I λown1 l1 c1 ov v1 s1 I1 r1 x1 bk=>gv bk λa C fs f ea hc hl K B h1=>wpAny_bind (wpAny_standAt (wpAny_bind (wpAny_holding (wpAny_bind ?_)))))
 subst ea
 apply RV.e0 r1 rfl ?_
 apply xO I1.base hc hl K B (wpAny_pure ?_)
 have hn:=ak s1.heap
 have kp:∀ b o,s1.heap.get? b=some o->(s1.heap.push (j9 f a)).get? b=some o:=λb o e=>get?_push_of_some _ e
 have I2:Inv X env own1 l1 c1 { s1 with heap:=s1.heap.push (j9 f a),toks:=s1.toks+1}:=⟨I1.base.keeps kp,I1.ok,I1.fr.ext (cells:=c1) (cells':=c1) (.of_keeps kp)⟩
 apply eT B.func λoc od fd sl hf=>?_
 dsimp only
 rw [hs] at h1 ⊢
 apply ks_call (P:=λh=>X.K.In h/\h.get? s1.heap.objs.size=some (j9 f a)) (by show (false||_)=true;rw [rC];rfl) (λh Y=>(iDPP _ (.inr (.inr rfl)) (uF Y.2 (Y.1 _ _ hf)))) (evalArgs_plain ?_)
 apply cL.use h1 I2 λbX l3 c3 as vs s3 I3 r3 x3 h3=>?_
 have hq:=xP (o:=j9 f a) I1 hn (get?_push_size _ rfl) (λes n=>by simp) (λz=>nomatch z) x3
 apply ⟨⟨I3.base.K,hq⟩,wpAny_call (PySem.ks_codeAny_call_bound hq ?_)⟩
 apply h3 bX s3 (.ref f) (.ref a::vs) I3.base (.ref f) (.cons (.ref a) r3) _ λeh c4 b v4 s4 B4 r4 x4 p4=>?_
 exact ⟨eh,l3,c4,b,⟨B4,I3.ok,I3.fr.ext x4⟩,r4,x1.trans ((Ext.of_keeps kp).trans (x3.trans x4.fF)),p4⟩
theorem wb{o:Expr}{name:Str}{apos pos:Pos}{e:Expr}{q:Pos}{Ψ:V->Loc->Cells->Prop}(h:mE X A env (eval o env) (λov l c=>∃ a C fs f,ov=.ref a/\c a=some (.inst C fs)/\fs.lookup name=none/\lj X.K C/\gX X.K C name f /\
   mE X A env (eval e env) (λv l' c'=>∃ xs,(v=.list xs\/v=.tuple xs)/\xs.length<=sizeLine/\gc X A (.ref f) (.ref a::xs) (λr c2=>Ψ r l' c2) c') l c) loc cells)(hs:autoParam (backTo pos (starEach [.Starred e q] env)=[(true,(do let v <- eval e env;standAt pos;pure v))]) aR)(he:autoParam (eval (.Call (.Attribute o name apos) [.Starred e q] [] pos) env=(do let ov <- eval o env;standAt apos.atName;let (f,first) <- holding [ov] (do pure (<- getAttr ov name true,[]));callWith pos f first (backTo pos (starEach [.Starred e q] env)) [])) aR) :
  mE X A env (eval (.Call (.Attribute o name apos) [.Starred e q] [] pos) env) Ψ loc cells:=λown s I=>by
 rw [he]
 apply wpAny_bind (h.use I λown1 l1 c1 ov v1 s1 I1 r1 x1 bN=>gv bN λa C fs f ea hc hl K B h1=>wpAny_bind (wpAny_standAt (wpAny_bind (wpAny_holding (wpAny_bind ?_)))))
 subst ea
 apply RV.e0 r1 rfl ?_
 apply xO I1.base hc hl K B (wpAny_pure ?_)
 have hn:=ak s1.heap
 have kp:∀ b o,s1.heap.get? b=some o->(s1.heap.push (j9 f a)).get? b=some o:=λb o e=>get?_push_of_some _ e
 have I2:Inv X env own1 l1 c1 { s1 with heap:=s1.heap.push (j9 f a),toks:=s1.toks+1}:=⟨I1.base.keeps kp,I1.ok,I1.fr.ext (cells:=c1) (cells':=c1) (.of_keeps kp)⟩
 apply eT B.func λoc od fd sl hf=>?_
 dsimp only
 rw [hs]
 apply ks_call (P:=λh=>X.K.In h/\h.get? s1.heap.objs.size=some (j9 f a)) rfl (λh Y=>(iDPP _ (.inr (.inr rfl)) (uF Y.2 (Y.1 _ _ hf)))) (PySem.W.ks_lone ?_)
 apply cL.use h1 I2 λbX l3 c3 av v s3 I3 r3 x3 cI=>bM cI λxs ha hz h3=>xI I3.base r3 ha hz λh' vs Ib rs=>?_
 have N0:=xP (o:=j9 f a) I1 hn (get?_push_size _ rfl) (λes n=>by simp) (λz=>nomatch z) x3
 have hq:=Ib _ _ N0
 have I4:Inv X env bX l3 c3 { s3 with heap:=h'}:=⟨I3.base.keeps Ib,I3.ok,I3.fr.ext (cells:=c3) (cells':=c3) (.of_keeps Ib)⟩
 apply ⟨⟨I4.base.K,hq⟩,wpAny_call (PySem.ks_codeAny_call_bound hq ?_)⟩
 apply h3 bX { s3 with heap:=h'} (.ref f) (.ref a::vs) I4.base (.ref f) (.cons (.ref a) (rs.mono λZ Z q=>q.keeps Ib)) _ λeh c4 b v4 s4 B4 r4 x4 p4=>?_
 exact ⟨eh,l3,c4,b,⟨B4,I4.ok,I4.fr.ext x4⟩,r4,x1.trans ((Ext.of_keeps kp).trans (x3.trans ((Ext.of_keeps Ib).trans x4.fF))),p4⟩
end
end
namespace L1
noncomputable abbrev st (k:Nat):Stmt:=pw_in0223_01.main.body.getD k default
noncomputable def Hs:=st 5
noncomputable def trans:=st 7
noncomputable def quot:=st 12
noncomputable def rows:=st 20
noncomputable def text:=st 21
noncomputable def read:=st 22
noncomputable def takes:=st 23
noncomputable def told:=st 24
noncomputable def nC:=st 25
noncomputable def s9:=st 26
noncomputable def Bb:=st 27
noncomputable def kr:=st 28
noncomputable def JK:=st 29
abbrev dn(glob:List (Str×V))(n:Str)(v:V):Prop:=glob.lookup n=some v
structure Ld(glob:List (Str×V))(K:PySem.W.Frag):Prop where
 enumerate:dn glob "enumerate" (.ty "enumerate")
 range:dn glob "range" (.ty "range")
 list:dn glob "list" (.ty "list")
 bool:dn glob "bool" (.ty "bool")
 set:dn glob "set" (.ty "set")
 len:dn glob "len" (.bi "len")
 min:dn glob "min" (.bi "min")
 sum:dn glob "sum" (.bi "sum")
 all:dn glob "all" (.bi "all")
 ord:dn glob "ord" (.bi "ord")
 chr:dn glob "chr" (.bi "chr")
 sorted:dn glob "sorted" (.bi "sorted")
 Gj:dn glob "_law_rows" (.ref 206)
 Gk:dn glob "_law_text" (.ref 213)
 Gl:dn glob "_law_read" (.ref 220)
 ta:dn glob "_law_takes" (.ref 225)
 tc:dn glob "_law_told" (.ref 232)
 Bc:dn glob "_law_sorted" (.ref 237)
 Bd:dn glob "_law_peeled" (.ref 242)
 Gm:dn glob "_law_ring" (.ref 249)
 uG:dn glob "_law_agrees" (.ref 254)
 Gn:dn glob "quotedata" (.ref 79)
 DH:dn glob "_translate" (.ref 62)
 Ic:dn glob "twin_re_1_smtplib" (.ref 67)
 Ie:dn glob "_twin_re_2" (.ref 72)
 Gp:dn glob "CRLF" (.str "\r\n")
 E9:uv K 67 CD
 Fb:uv K 72 CN
 rows:eR K 206 "_law_rows" rows
 text:eR K 213 "_law_text" text
 takes:eR K 225 "_law_takes" takes
 told:eR K 232 "_law_told" told
 nC:eR K 237 "_law_sorted" nC
 s9:eR K 242 "_law_peeled" s9
 kr:eR K 254 "_law_agrees" kr
 quot:eR K 79 "quotedata" quot
theorem eR.keeps{K:PySem.W.Frag}{a:Addr}{q:Str}{s:Stmt}(F:eR K a q s):PySem.W.keepIn K (.ref a)=true:=jH F λZ Z Z Z Z F=>F.keep
abbrev G1(X:Cx):Prop:=Ld X.glob X.K
noncomputable def vF (xs:List (List Int)):List V:=xs.map λx=>.list (Iz x)
theorem uH(xs:List (List Int))(x:List Int):vF (xs++[x])=vF xs++[.list (Iz x)]:=by simp [vF]
theorem pK(xs:List (List Int)):(vF xs).length=xs.length:=by exact Eq.symm (len_of_map_eq rfl)
theorem Ig{xs:List Int}{i:Nat}{m:Int}(h:xs[i]?=some m):(Iz xs)[i]?=some (.int m):=by
 unfold Iz;rw [getElem?_map,h];rfl
theorem jP(xs:List Int)(x:Int):Iz (xs++[x])=Iz xs++[.int x]:=by simp [Iz]
theorem ag{n:Nat}(h:n<=1000000):n<=sizeLine:=by unfold sizeLine;lia
theorem dD{n k:Int}(hk:0<k):0<=n.fmod k/\n.fmod k<k:=⟨Int.fmod_nonneg_of_pos n hk,Int.fmod_lt_of_pos n hk⟩
end L1
namespace L1
noncomputable def subF (next:Array Nat->Nat->Option (Nat×Nat)) (text:Array Nat) (repl:Str):Nat->Nat->List Str
 | 0,d=>[]
 | f+1,d=>match next text d with
  | none=>if d<text.size then [⟨text.extract d text.size⟩] else []
  | some (p,e)=>(if d<p then [⟨text.extract d p⟩] else [])++repl::subF next text repl f e
def Good(next:Array Nat->Nat->Option (Nat×Nat)):Prop:=∀ text d p e,next text d=some (p,e)->d<=p/\p<e/\e<=text.size
theorem pL{next:Array Nat->Nat->Option (Nat×Nat)}{text:Array Nat}{repl:Str}(hg:Good next):∀ (f d:Nat),d<=text.size->text.size<f+d->Pcs next text repl d (subF next text repl f d)
 | 0,d,h1,h2=>by lia
 | f+1,d,h1,h2=>by
  unfold subF
  cases hn:next text d with
  | none=>exact .stop hn
  | some pe =>
   obtain ⟨p,e⟩:=pe
   apply bq (hg _ _ _ _ hn) λg1 g2 g3=>?_
   exact .more hn g1 g2 g3 (pL hg f e g3 (by lia))
theorem xQ{text:Array Nat}{d p:Nat}(h:d<=p):(text.extract d p).size+d<=p:=by
 rw [size_extract];exact le_trans (add_le_add_right (Nat.sub_le_sub_right (min_le_left p _) d) d) (le_of_eq (Nat.sub_add_cancel h))
theorem pM{next:Array Nat->Nat->Option (Nat×Nat)}{text:Array Nat}{repl:Str}(hr:repl.length<=2)(hg:Good next):∀ (f d:Nat),d<=text.size->sumLen (subF next text repl f d)+3 * d<=3 * text.size/\(subF next text repl f d).length+2 * d<=2 * text.size+1
 | 0,d,h1=>⟨by show 0+3 * d<=_;lia,by show 0+2 * d<=_;lia⟩
 | f+1,d,h1=>by
  unfold subF
  cases hn:next text d with
  | none =>
   try dsimp only
   split
   ·have q:=xQ (text:=text) h1
    exact ⟨by show (text.extract d text.size).size+0+3 * d<=_;lia,by show 1+2 * d<=_;lia⟩
   ·exact ⟨by show 0+3 * d<=_;lia,by show 0+2 * d<=_;lia⟩
  | some pe =>
   obtain ⟨p,e⟩:=pe
   apply bq (hg _ _ _ _ hn) λg1 g2 g3=>?_
   apply aC (pM hr hg f e g3) λi1 i2=>?_
   try dsimp only
   have q:=xQ (text:=text) g1
   split
   ·exact ⟨by show (text.extract d p).size+(repl.length+sumLen (subF next text repl f e))+3 * d<=_;lia,by show (subF next text repl f e).length+1+1+2 * d<=_;lia⟩
   ·exact ⟨by show repl.length+sumLen (subF next text repl f e)+3 * d<=_;lia,by show (subF next text repl f e).length+1+2 * d<=_;lia⟩
theorem ku{p:Nat->Bool}{n s q:Nat}(h:ck p n s=some q):s<=q:=by
 induction hk:n - s generalizing s with
 | zero=>rw [cU (z0 hk)] at h;exact bf h
 | succ k ih =>
  by_cases hp:p s=true
  ·rw [fj (lt_of_sub_eq_succ hk) hp] at h;cases h;exact le_refl _
  ·rw [eH (lt_of_sub_eq_succ hk) (eq_false_of_ne_true hp)] at h
   have:=ih h (zs hk);exact le_of_succ_le this
theorem wc(text:Array Nat)(p:Nat):iD text p=p+1\/(iD text p=p+2/\p+1<text.size):=by
 unfold iD
 by_cases h:text.getD p 0=13/\p+1<text.size/\text.getD (p+1) 0=10
 ·rw [if_pos h];exact .inr ⟨rfl,h.2.1⟩
 ·rw [if_neg h];exact .inl rfl
theorem Be:Good nz:=λtext d p e h=>by
 unfold nz at h
 rw [map_eq_some_iff] at h
 (apply aj h ?_;try clear h;intro q h1 h2)
 cases h2
 have k1:=ku h1
 have k2:=(iE h1).1
 rcases wc text p with q | ⟨q,q2⟩ <;> (rw [q];lia)
theorem Bf:Good fA:=λtext d p e h=>by
 unfold fA at h
 rw [map_eq_some_iff] at h
 (apply aj h ?_;try clear h;intro q h1 h2)
 cases h2
 have:=ku h1
 have:=(iE h1).1
 lia
noncomputable def ends (x:Str):Str:=join (ofString "") (subF nz x.cps (ofString "\r\n") (x.length+1) 0)
noncomputable def stuff (x:Str):Str:=join (ofString "") (subF fA x.cps (ofString "..") (x.length+1) 0)
noncomputable def quote (x:Str):Str:=stuff (ends x)
theorem Bg(ss:List Str):(join (ofString "") ss).length<=sumLen ss:=by
 have h:=StrLaws.join_length_le (ofString "") ss
 have e:join (ofString "") ss=Str.join (ofString "") ss:=glued_eq_join _ _
 rw [e]
 have e0:(ofString "").length=0:=by decide +kernel
 rw [e0] at h
 exact h
theorem DI{X:Cx}{A:Around}{k:Nat}{cells:Cells}{x:Str}{Ψ:V->Cells->Prop}(G:G1 X)(hA:Rm X A (k+1))(hx:x.length<=100000)(h:Ψ (.str (quote x)) cells):aD X A (.ref 79) [.str x] Ψ cells:=by
 apply dm (names:=["data"]) G.quot hA (λZ Z Z Z Z=>l1 λZ=>rfl) λL cdv A' bp=>?_
 have G':G1 (X.push L):=G
 generalize X.push L=Y at bp G' ⊢
 apply aC (pM (text:=x.cps) (repl:=ofString "\r\n") (by decide +kernel) Be (x.length+1) 0 (zero_le _)) λl1 l2=>?_
 have hy:(ends x).length<=300000:=le_trans (Bg _) (le_trans l1 (le_trans (mul_le_mul_left 3 hx) (le_of_ble_eq_true rfl)))
 (apply aC (pM (text:=(ends x).cps) (repl:=ofString "..") (by decide +kernel) Bf ((ends x).length+1) 0 (zero_le _)) ?_;intro m1 m2)
 apply aa (aL (aI (eU rfl G'.Ic (G'.E9.Ds ⟨trivial,af (aK (af (aI (eU rfl G'.Ie (G'.Fb.Ds ⟨trivial,af (eU rfl G'.Gp (af (m_var rfl (a_nil ?_))))⟩)))))⟩))))
 apply E1 G'.Fb F5 (by decide +kernel) (pL Be (x.length+1) 0 (zero_le _) (by show x.length<_;exact lt_add_one x.length)) (zl (by assumption) rfl) (le_trans l1 (le_trans (mul_le_mul_left 3 hx) (le_of_ble_eq_true rfl))) (le_trans l2 (le_trans (succ_le_succ (mul_le_mul_left 2 hx)) (le_of_ble_eq_true rfl))) (a_nil ?_)
 exact E1 G'.E9 F6 (by decide +kernel) (pL Bf ((ends x).length+1) 0 (zero_le _) (by show (ends x).length<_;exact lt_add_one (ends x).length)) (le_trans hy (le_of_ble_eq_true rfl)) (le_trans m1 (le_trans (mul_le_mul_left 3 hy) (le_of_ble_eq_true rfl))) (le_trans m2 (le_trans (succ_le_succ (mul_le_mul_left 2 hy)) (le_of_ble_eq_true rfl))) h
end L1
namespace L1
open PySem.W (findIn typeIn keepIn)
noncomputable abbrev JL:Stmt:=(aF (st 16)).getD 1 default
noncomputable abbrev i8 (k:Nat):Stmt:=(aF (st 18)).getD k default
structure eJ(K:PySem.W.Frag)(C:Addr)(n:Str)(f:Addr):Prop where
 at_:findIn K (.ref C) n=some (some (.ref f))
 typ:typeIn K (.ref f)=some (.type "function")
 keep:keepIn K (.ref f)=true
set_option genInjectivity false in
structure SA where
 ni:Addr
 ts:Addr
 C5:Addr
 kc:Addr
 qT:Addr
 mF:Addr
 hH:Addr
 gY:Addr
 fact:Addr
 hO:Addr
 jw:Addr
 dflt:Addr
 p0:Nat
 p1:Nat
 p2:Nat
def cG(D:SA)(glob:List (Str×V))(K:PySem.W.Frag):Prop :=
 (dn glob "len" (.bi "len")) /\
 (dn glob "set" (.ty "set")) /\
 (dn glob "iter" (.bi "iter")) /\
 (dn glob "tuple" (.ty "tuple")) /\
 (dn glob "bool" (.ty "bool")) /\
 (dn glob "StopIteration" (.ty "StopIteration")) /\
 (dn glob "_NODE_OUT" (.int (-1))) /\
 (dn glob "_NODE_DONE" (.int (-2))) /\
 (dn glob "_NodeInfo" (.ref D.ni)) /\
 (dn glob "TopologicalSorter" (.ref D.ts)) /\
 (keepIn K (.ref D.ni)=true) /\
 (keepIn K (.ref D.ts)=true) /\
 (lj K D.ni) /\
 (lj K D.ts) /\
 (jt K D.ni "node" D.p0 0) /\
 (jt K D.ni "npredecessors" D.p1 1) /\
 (jt K D.ni "successors" D.p2 2) /\
 (PySem.W.hasDictIn K D.ts=true/\findIn K (.ref D.ts) "_node2info"=some none/\PySem.W.takerIn K D.ts "_node2info"=some none) /\
 (PySem.W.hasDictIn K D.ts=true/\findIn K (.ref D.ts) "_ready_nodes"=some none/\PySem.W.takerIn K D.ts "_ready_nodes"=some none) /\
 (PySem.W.hasDictIn K D.ts=true/\findIn K (.ref D.ts) "_npassedout"=some none/\PySem.W.takerIn K D.ts "_npassedout"=some none) /\
 (PySem.W.hasDictIn K D.ts=true/\findIn K (.ref D.ts) "_nfinished"=some none/\PySem.W.takerIn K D.ts "_nfinished"=some none) /\
 (pB K D.ni D.C5) /\
 (pB K D.ts D.kc) /\
 (K.lookup D.dflt=some ⟨.type "tuple",none,.seq #[.none] 0,#[]⟩) /\
 (eR K D.C5 "_NodeInfo.__init__" JL) /\
 (A6 K D.kc "TopologicalSorter.__init__" (i8 0) (.ref D.dflt) .none) /\
 (eJ K D.ts "_get_nodeinfo" D.qT) /\
 (eJ K D.ts "add" D.mF) /\
 (eJ K D.ts "prepare" D.hH) /\
 (eJ K D.ts "get_ready" D.gY) /\
 (eJ K D.ts "is_active" D.fact) /\
 (eJ K D.ts "done" D.hO) /\
 (eJ K D.ts "_find_cycle" D.jw) /\
 (gX K D.ts "add" D.mF) /\
 (gX K D.ts "done" D.hO) /\
 (eR K D.qT "TopologicalSorter._get_nodeinfo" (i8 1)) /\
 (eR K D.mF "TopologicalSorter.add" (i8 2)) /\
 (eR K D.hH "TopologicalSorter.prepare" (i8 3)) /\
 (eR K D.gY "TopologicalSorter.get_ready" (i8 4)) /\
 (eR K D.fact "TopologicalSorter.is_active" (i8 5)) /\
 (eR K D.hO "TopologicalSorter.done" (i8 7)) /\
 (eR K D.jw "TopologicalSorter._find_cycle" (i8 8))
theorem cG.of{D:SA}{glob:List (Str×V)}{K:PySem.W.Frag}(h:(dn glob "len" (.bi "len")) /\
 (dn glob "set" (.ty "set")) /\
 (dn glob "iter" (.bi "iter")) /\
 (dn glob "tuple" (.ty "tuple")) /\
 (dn glob "bool" (.ty "bool")) /\
 (dn glob "StopIteration" (.ty "StopIteration")) /\
 (dn glob "_NODE_OUT" (.int (-1))) /\
 (dn glob "_NODE_DONE" (.int (-2))) /\
 (dn glob "_NodeInfo" (.ref D.ni)) /\
 (dn glob "TopologicalSorter" (.ref D.ts)) /\
 (keepIn K (.ref D.ni)=true) /\
 (keepIn K (.ref D.ts)=true) /\
 (lj K D.ni) /\
 (lj K D.ts) /\
 (jt K D.ni "node" D.p0 0) /\
 (jt K D.ni "npredecessors" D.p1 1) /\
 (jt K D.ni "successors" D.p2 2) /\
 (PySem.W.hasDictIn K D.ts=true/\findIn K (.ref D.ts) "_node2info"=some none/\PySem.W.takerIn K D.ts "_node2info"=some none) /\
 (PySem.W.hasDictIn K D.ts=true/\findIn K (.ref D.ts) "_ready_nodes"=some none/\PySem.W.takerIn K D.ts "_ready_nodes"=some none) /\
 (PySem.W.hasDictIn K D.ts=true/\findIn K (.ref D.ts) "_npassedout"=some none/\PySem.W.takerIn K D.ts "_npassedout"=some none) /\
 (PySem.W.hasDictIn K D.ts=true/\findIn K (.ref D.ts) "_nfinished"=some none/\PySem.W.takerIn K D.ts "_nfinished"=some none) /\
 (pB K D.ni D.C5) /\
 (pB K D.ts D.kc) /\
 (K.lookup D.dflt=some ⟨.type "tuple",none,.seq #[.none] 0,#[]⟩) /\
 (eR K D.C5 "_NodeInfo.__init__" JL) /\
 (A6 K D.kc "TopologicalSorter.__init__" (i8 0) (.ref D.dflt) .none) /\
 (eJ K D.ts "_get_nodeinfo" D.qT) /\
 (eJ K D.ts "add" D.mF) /\
 (eJ K D.ts "prepare" D.hH) /\
 (eJ K D.ts "get_ready" D.gY) /\
 (eJ K D.ts "is_active" D.fact) /\
 (eJ K D.ts "done" D.hO) /\
 (eJ K D.ts "_find_cycle" D.jw) /\
 (gX K D.ts "add" D.mF) /\
 (gX K D.ts "done" D.hO) /\
 (eR K D.qT "TopologicalSorter._get_nodeinfo" (i8 1)) /\
 (eR K D.mF "TopologicalSorter.add" (i8 2)) /\
 (eR K D.hH "TopologicalSorter.prepare" (i8 3)) /\
 (eR K D.gY "TopologicalSorter.get_ready" (i8 4)) /\
 (eR K D.fact "TopologicalSorter.is_active" (i8 5)) /\
 (eR K D.hO "TopologicalSorter.done" (i8 7)) /\
 (eR K D.jw "TopologicalSorter._find_cycle" (i8 8))):cG D glob K:=h
theorem cG.len{D:SA}{glob:List (Str×V)}{K:PySem.W.Frag}(S:cG D glob K):dn glob "len" (.bi "len"):=S.1
theorem cG.set{D:SA}{glob:List (Str×V)}{K:PySem.W.Frag}(S:cG D glob K):dn glob "set" (.ty "set"):=S.2.1
theorem cG.iter{D:SA}{glob:List (Str×V)}{K:PySem.W.Frag}(S:cG D glob K):dn glob "iter" (.bi "iter"):=S.2.2.1
theorem cG.tuple{D:SA}{glob:List (Str×V)}{K:PySem.W.Frag}(S:cG D glob K):dn glob "tuple" (.ty "tuple"):=S.2.2.2.1
theorem cG.bool{D:SA}{glob:List (Str×V)}{K:PySem.W.Frag}(S:cG D glob K):dn glob "bool" (.ty "bool"):=S.2.2.2.2.1
theorem cG.stop{D:SA}{glob:List (Str×V)}{K:PySem.W.Frag}(S:cG D glob K):dn glob "StopIteration" (.ty "StopIteration"):=S.2.2.2.2.2.1
theorem cG.out{D:SA}{glob:List (Str×V)}{K:PySem.W.Frag}(S:cG D glob K):dn glob "_NODE_OUT" (.int (-1)):=S.2.2.2.2.2.2.1
theorem cG.done{D:SA}{glob:List (Str×V)}{K:PySem.W.Frag}(S:cG D glob K):dn glob "_NODE_DONE" (.int (-2)):=S.2.2.2.2.2.2.2.1
theorem cG.Le{D:SA}{glob:List (Str×V)}{K:PySem.W.Frag}(S:cG D glob K):dn glob "_NodeInfo" (.ref D.ni):=S.2.2.2.2.2.2.2.2.1
theorem cG.Lf{D:SA}{glob:List (Str×V)}{K:PySem.W.Frag}(S:cG D glob K):dn glob "TopologicalSorter" (.ref D.ts):=S.2.2.2.2.2.2.2.2.2.1
theorem cG.Lg{D:SA}{glob:List (Str×V)}{K:PySem.W.Frag}(S:cG D glob K):keepIn K (.ref D.ni)=true:=S.2.2.2.2.2.2.2.2.2.2.1
theorem cG.Lh{D:SA}{glob:List (Str×V)}{K:PySem.W.Frag}(S:cG D glob K):keepIn K (.ref D.ts)=true:=S.2.2.2.2.2.2.2.2.2.2.2.1
theorem cG.cni{D:SA}{glob:List (Str×V)}{K:PySem.W.Frag}(S:cG D glob K):lj K D.ni:=S.2.2.2.2.2.2.2.2.2.2.2.2.1
theorem cG.jx{D:SA}{glob:List (Str×V)}{K:PySem.W.Frag}(S:cG D glob K):lj K D.ts:=S.2.2.2.2.2.2.2.2.2.2.2.2.2.1
theorem cG.s0{D:SA}{glob:List (Str×V)}{K:PySem.W.Frag}(S:cG D glob K):jt K D.ni "node" D.p0 0:=S.2.2.2.2.2.2.2.2.2.2.2.2.2.2.1
theorem cG.s1{D:SA}{glob:List (Str×V)}{K:PySem.W.Frag}(S:cG D glob K):jt K D.ni "npredecessors" D.p1 1:=S.2.2.2.2.2.2.2.2.2.2.2.2.2.2.2.1
theorem cG.s2{D:SA}{glob:List (Str×V)}{K:PySem.W.Frag}(S:cG D glob K):jt K D.ni "successors" D.p2 2:=S.2.2.2.2.2.2.2.2.2.2.2.2.2.2.2.2.1
theorem cG.o1{D:SA}{glob:List (Str×V)}{K:PySem.W.Frag}(S:cG D glob K):PySem.W.hasDictIn K D.ts=true/\findIn K (.ref D.ts) "_node2info"=some none/\PySem.W.takerIn K D.ts "_node2info"=some none:=S.2.2.2.2.2.2.2.2.2.2.2.2.2.2.2.2.2.1
theorem cG.o2{D:SA}{glob:List (Str×V)}{K:PySem.W.Frag}(S:cG D glob K):PySem.W.hasDictIn K D.ts=true/\findIn K (.ref D.ts) "_ready_nodes"=some none/\PySem.W.takerIn K D.ts "_ready_nodes"=some none:=S.2.2.2.2.2.2.2.2.2.2.2.2.2.2.2.2.2.2.1
theorem cG.o3{D:SA}{glob:List (Str×V)}{K:PySem.W.Frag}(S:cG D glob K):PySem.W.hasDictIn K D.ts=true/\findIn K (.ref D.ts) "_npassedout"=some none/\PySem.W.takerIn K D.ts "_npassedout"=some none:=S.2.2.2.2.2.2.2.2.2.2.2.2.2.2.2.2.2.2.2.1
theorem cG.o4{D:SA}{glob:List (Str×V)}{K:PySem.W.Frag}(S:cG D glob K):PySem.W.hasDictIn K D.ts=true/\findIn K (.ref D.ts) "_nfinished"=some none/\PySem.W.takerIn K D.ts "_nfinished"=some none:=S.2.2.2.2.2.2.2.2.2.2.2.2.2.2.2.2.2.2.2.2.1
theorem cG.Lj{D:SA}{glob:List (Str×V)}{K:PySem.W.Frag}(S:cG D glob K):pB K D.ni D.C5:=S.2.2.2.2.2.2.2.2.2.2.2.2.2.2.2.2.2.2.2.2.2.1
theorem cG.Lk{D:SA}{glob:List (Str×V)}{K:PySem.W.Frag}(S:cG D glob K):pB K D.ts D.kc:=S.2.2.2.2.2.2.2.2.2.2.2.2.2.2.2.2.2.2.2.2.2.2.1
theorem cG.N1{D:SA}{glob:List (Str×V)}{K:PySem.W.Frag}(S:cG D glob K):K.lookup D.dflt=some ⟨.type "tuple",none,.seq #[.none] 0,#[]⟩:=S.2.2.2.2.2.2.2.2.2.2.2.2.2.2.2.2.2.2.2.2.2.2.2.1
theorem cG.C5{D:SA}{glob:List (Str×V)}{K:PySem.W.Frag}(S:cG D glob K):eR K D.C5 "_NodeInfo.__init__" JL:=S.2.2.2.2.2.2.2.2.2.2.2.2.2.2.2.2.2.2.2.2.2.2.2.2.1
theorem cG.kc{D:SA}{glob:List (Str×V)}{K:PySem.W.Frag}(S:cG D glob K):A6 K D.kc "TopologicalSorter.__init__" (i8 0) (.ref D.dflt) .none:=S.2.2.2.2.2.2.2.2.2.2.2.2.2.2.2.2.2.2.2.2.2.2.2.2.2.1
theorem cG.get{D:SA}{glob:List (Str×V)}{K:PySem.W.Frag}(S:cG D glob K):eJ K D.ts "_get_nodeinfo" D.qT:=S.2.2.2.2.2.2.2.2.2.2.2.2.2.2.2.2.2.2.2.2.2.2.2.2.2.2.1
theorem cG.DJ{D:SA}{glob:List (Str×V)}{K:PySem.W.Frag}(S:cG D glob K):eJ K D.ts "prepare" D.hH:=S.2.2.2.2.2.2.2.2.2.2.2.2.2.2.2.2.2.2.2.2.2.2.2.2.2.2.2.2.1
theorem cG.ready{D:SA}{glob:List (Str×V)}{K:PySem.W.Frag}(S:cG D glob K):eJ K D.ts "get_ready" D.gY:=S.2.2.2.2.2.2.2.2.2.2.2.2.2.2.2.2.2.2.2.2.2.2.2.2.2.2.2.2.2.1
theorem cG.act{D:SA}{glob:List (Str×V)}{K:PySem.W.Frag}(S:cG D glob K):eJ K D.ts "is_active" D.fact:=S.2.2.2.2.2.2.2.2.2.2.2.2.2.2.2.2.2.2.2.2.2.2.2.2.2.2.2.2.2.2.1
theorem cG.find{D:SA}{glob:List (Str×V)}{K:PySem.W.Frag}(S:cG D glob K):eJ K D.ts "_find_cycle" D.jw:=S.2.2.2.2.2.2.2.2.2.2.2.2.2.2.2.2.2.2.2.2.2.2.2.2.2.2.2.2.2.2.2.2.1
theorem cG.Ll{D:SA}{glob:List (Str×V)}{K:PySem.W.Frag}(S:cG D glob K):gX K D.ts "add" D.mF:=S.2.2.2.2.2.2.2.2.2.2.2.2.2.2.2.2.2.2.2.2.2.2.2.2.2.2.2.2.2.2.2.2.2.1
theorem cG.Lm{D:SA}{glob:List (Str×V)}{K:PySem.W.Frag}(S:cG D glob K):gX K D.ts "done" D.hO:=S.2.2.2.2.2.2.2.2.2.2.2.2.2.2.2.2.2.2.2.2.2.2.2.2.2.2.2.2.2.2.2.2.2.2.1
theorem cG.qT{D:SA}{glob:List (Str×V)}{K:PySem.W.Frag}(S:cG D glob K):eR K D.qT "TopologicalSorter._get_nodeinfo" (i8 1):=S.2.2.2.2.2.2.2.2.2.2.2.2.2.2.2.2.2.2.2.2.2.2.2.2.2.2.2.2.2.2.2.2.2.2.2.1
theorem cG.mF{D:SA}{glob:List (Str×V)}{K:PySem.W.Frag}(S:cG D glob K):eR K D.mF "TopologicalSorter.add" (i8 2):=S.2.2.2.2.2.2.2.2.2.2.2.2.2.2.2.2.2.2.2.2.2.2.2.2.2.2.2.2.2.2.2.2.2.2.2.2.1
theorem cG.hH{D:SA}{glob:List (Str×V)}{K:PySem.W.Frag}(S:cG D glob K):eR K D.hH "TopologicalSorter.prepare" (i8 3):=S.2.2.2.2.2.2.2.2.2.2.2.2.2.2.2.2.2.2.2.2.2.2.2.2.2.2.2.2.2.2.2.2.2.2.2.2.2.1
theorem cG.gY{D:SA}{glob:List (Str×V)}{K:PySem.W.Frag}(S:cG D glob K):eR K D.gY "TopologicalSorter.get_ready" (i8 4):=S.2.2.2.2.2.2.2.2.2.2.2.2.2.2.2.2.2.2.2.2.2.2.2.2.2.2.2.2.2.2.2.2.2.2.2.2.2.2.1
theorem cG.fact{D:SA}{glob:List (Str×V)}{K:PySem.W.Frag}(S:cG D glob K):eR K D.fact "TopologicalSorter.is_active" (i8 5):=S.2.2.2.2.2.2.2.2.2.2.2.2.2.2.2.2.2.2.2.2.2.2.2.2.2.2.2.2.2.2.2.2.2.2.2.2.2.2.2.1
theorem cG.hO{D:SA}{glob:List (Str×V)}{K:PySem.W.Frag}(S:cG D glob K):eR K D.hO "TopologicalSorter.done" (i8 7):=S.2.2.2.2.2.2.2.2.2.2.2.2.2.2.2.2.2.2.2.2.2.2.2.2.2.2.2.2.2.2.2.2.2.2.2.2.2.2.2.2.1
theorem cG.jw{D:SA}{glob:List (Str×V)}{K:PySem.W.Frag}(S:cG D glob K):eR K D.jw "TopologicalSorter._find_cycle" (i8 8):=S.2.2.2.2.2.2.2.2.2.2.2.2.2.2.2.2.2.2.2.2.2.2.2.2.2.2.2.2.2.2.2.2.2.2.2.2.2.2.2.2.2
abbrev S2(D:SA)(X:Cx):Prop:=cG D X.glob X.K
structure TS where
 nodes:List Int
 np:Int->Int
 su:Int->List Int
noncomputable def TS.get (σ:TS) (k:Int):TS:={ σ with nodes:=if k∈σ.nodes then σ.nodes else σ.nodes++[k]}
noncomputable def i9 {α:Type} (f:Int->α) (k:Int) (v:α):Int->α:=λj=>if j=k then v else f j
theorem ba{α:Type}(f:Int->α)(k:Int)(v:α):i9 f k v k=v:=by simp [i9]
theorem bx{α:Type}(f:Int->α){k j:Int}(v:α)(h:j≠k):i9 f k v j=f j:=by simp [i9,h]
structure eX(D:SA)(c:Cells)(a d:Addr)(ia la:Int->Addr)(σ:TS):Prop where
 inst:c a=some (.inst D.ts [("_node2info",.ref d),("_ready_nodes",.none),("_npassedout",.int 0),("_nfinished",.int 0)])
 dict:c d=some (.dict (σ.nodes.map λk=>(k,.ref (ia k))))
 info:∀ k∈σ.nodes,c (ia k)=some (.slots D.ni [some (.int k),some (.int (σ.np k)),some (.ref (la k))])
 succ:∀ k∈σ.nodes,c (la k)=some (.list (Iz (σ.su k)))
 kz:∀ k∈σ.nodes,∀ j∈σ.nodes,ia k=ia j->k=j
 Bh:∀ k∈σ.nodes,∀ j∈σ.nodes,la k=la j->k=j
 nodup:σ.nodes.Nodup
 zero:∀ k,k ∉ σ.nodes->σ.np k=0/\σ.su k=[]
noncomputable def Ih:Cell->Bool
 | .bF _=>true
 | .tab=>true
 | _=>false
def cP(c c':Cells):Prop:=∀ b (y:Cell),Ih y=true->c b=some y->c' b=some y
theorem cP.refl{c:Cells}:cP c c:=λZ Z Z h=>h
theorem cP.trans{a b c:Cells}(h:cP a b)(k:cP b c):cP a c:=λx y l e=>k x y l (h x y l e)
theorem cP.upd{c:Cells}{a:Addr}{x:Option Cell}(h:∀ y,Ih y=true->c a=some y->False):cP c (upd c a x):=λb y l e=>by
 have hb:b≠a:=λz=>by subst z;exact h y l e
 rw [ae _ hb];exact e
theorem dget_map{k:Int}{f:Int->V}:∀ {ns:List Int},eQ (ns.map λk=>(k,f k)) k=if k∈ns then some (f k) else none
 | []=>rfl
 | n::r=>by
  have ih:=dget_map (k:=k) (f:=f) (ns:=r)
  unfold eQ at ih ⊢
  rw [map_cons,find?_cons]
  by_cases h:n=k
  ·rw [h];simp
  ·simp only [h,decide_false]
   rw [ih]
   have:(k∈n::r)↔k∈r:=by rw [mem_cons];exact ⟨λq=>q.resolve_left λz=>h z.symm,.inr⟩
   simp only [this]
theorem Bi{k:Int}{v:V}{f:Int->V}{ns:List Int}(h:k ∉ ns):dput (ns.map λk=>(k,f k)) k v=(ns.map λk=>(k,f k))++[(k,v)]:=by
 unfold dput
 rw [if_neg]
 rw [any_eq_true]
 (intro aM;apply aj aM ?_;clear aM;intro x hx e)
 (apply aj (mem_map.mp hx) ?_;intro j hj bk;subst bk)
 exact h (by simpa using (of_decide_eq_true e)▸hj)
theorem DK{X:Cx}{A:Around}{k:Nat}{cells:Cells}{D:SA}{a:Addr}{v:V}{Ψ:V->Cells->Prop}(S:S2 D X)(hA:Rm X A (k+1))(hc:cells a=some (.slots D.ni []))(hv:xE v)(h:∀ l,cells l=none->Ψ .none (upd (upd cells l (some (.list []))) a (some (.slots D.ni [some v,some (.int 0),some (.ref l)])))):gc X A (.ref D.C5) [.ref a,v] Ψ cells:=by
 apply Du (names:=["self","node"]) S.C5 hA (λZ Z Z Z Z=>l2 λZ Z=>rfl) λL cdv A' bp=>?_
 have S':S2 D (X.push L):=S
 generalize X.push L=Y at bp S' ⊢
 apply aa (br (m_var rfl (m_var rfl (gb hc S'.cni S'.s0 ?_))))
 apply aa (br (m_int (m_var rfl (gb (ah _ _ _) S'.cni S'.s1 ?_))))
 apply aa (br (cz (a_nil ⟨zero_le _,λl hl=>?_⟩)))
 have Gq:l≠a:=λz=>by rw [z,ah] at hl;exact dc hl
 have JM:cells l=none:=by rw [ae _ Gq,ae _ Gq] at hl;exact hl
 apply m_var rfl (gb (by rw [ae _ (λz=>Gq z.symm),ah]) S'.cni S'.s2 (au ?_))
 show Ψ _ _
 have e:upd (upd (upd (upd cells a (some (.slots D.ni (bQ [] 0 v)))) a (some (.slots D.ni (bQ (bQ [] 0 v) 1 (.int 0))))) l (some (.list []))) a (some (.slots D.ni (bQ (bQ (bQ [] 0 v) 1 (.int 0)) 2 (.ref l)))) =
   upd (upd cells l (some (.list []))) a (some (.slots D.ni [some v,some (.int 0),some (.ref l)])):=by
  funext b
  unfold upd
  by_cases q:b=a
  ·simp [q,bQ]
  ·simp [q]
 rw [e]
 exact h l JM
end L1
end Mp
section
open PySem PySem.W PyProof.Rows
namespace Mp
namespace L1
noncomputable def kv (P:Params) (x:Str) (t:Tok) (v:Value):DictEntry:={ hash:=PyData.keyHash P x,key:=.str x t,val:=v}
noncomputable def ke (k:Int) (t:Tok) (x:Str) (u:Tok):DictEntry:={ hash:=k,key:=.int k t,val:=.str x u}
noncomputable def oF (c:Value) (vs:Array Value):Obj:={ cls:=c,data:=.fields vs}
noncomputable def oS (c:Value) (vs:Array Value):Obj:={ cls:=c,data:=.seq vs}
noncomputable def fO (s:Stmt) (q:Str) (dv:Value) (code:Addr) (t:Tok) (m:Str):Obj:={ cls:=.type "function",data:=.func { name:=fnName s,qualname:=q,params:=bz s,body:=.stmts (aF s),scope:=ai s,globals:=3,closure:=[],defaults:=dv,kwdefaults:=.none,pyModule:=.str m t,code:=.ref code}}
noncomputable def KL (P:Params):Frag:=[
 (3,{ cls:=.type "dict",data:=.dict #[kv P "__name__" 165 (.str "law_in0223_01" 754),kv P "__doc__" 166 (.none),kv P "__package__" 167 (.none),kv P "__loader__" 168 (.builtin "__main__.__loader__#opaque"),kv P "__spec__" 169 (.none),kv P "__annotations__" 170 (.ref 6),kv P "__builtins__" 171 (.ref 4),kv P "__file__" 173 (.str "/claim/cut.py" 172),kv P "__cached__" 174 (.none),kv P "_sre" 275 (.ref 12),kv P "_wall" 288 (.ref 38),kv P "twin_re_1_fnmatch" 326 (.ref 43),kv P "_special_chars_map" 474 (.ref 45),kv P "escape" 481 (.ref 55),kv P "_translate" 502 (.ref 62),kv P "twin_re_1_smtplib" 520 (.ref 67),kv P "_twin_re_2" 562 (.ref 72),kv P "CRLF" 564 (.str "\x0d\n" 563),kv P "quotedata" 571 (.ref 79),kv P "_NODE_OUT" 576 (.int (-1) 575),kv P "_NODE_DONE" 579 (.int (-2) 578),kv P "_NodeInfo" 616 (.ref 98),kv P "CycleError" 634 (.ref 113),kv P "TopologicalSorter" 753 (.ref 195),kv P "_law_rows" 768 (.ref 206),kv P "_law_text" 779 (.ref 213),kv P "_law_read" 791 (.ref 220),kv P "_law_takes" 797 (.ref 225),kv P "_law_told" 806 (.ref 232),kv P "_law_sorted" 812 (.ref 237),kv P "_law_peeled" 818 (.ref 242),kv P "_law_ring" 828 (.ref 249),kv P "_law_agrees" 834 (.ref 254),kv P "law" 840 (.ref 259)] 34}),
 (42,oS (.type "tuple") #[.int 14 0,.int 14 0,.int 4 0,.int 1 0,.int 1 0,.int 9 0,.int 0 0,.int 64 0,.int 0 0,.int 1342177280 0,.int 0 0,.int 0 0,.int 0 0,.int 0 0,.int 0 0,.int 17 0,.int 0 0,.int 13 0,.int 11 0,.int 9 0,.int 0 0,.int 64 0,.int 0 0,.int 1342177280 0,.int 0 0,.int 0 0,.int 0 0,.int 0 0,.int 0 0,.int 17 0,.int 1 0,.int 1 0]),
 (43,oF (.type "re.Pattern") #[.str "([&~|])" 290,.int 32 325,.int 1 0,.none,.none,.ref 42,.int 0 0]),
 (45,{ cls:=.type "dict",data:=.dict #[ke 40 330 "\\(" 334,ke 41 336 "\\)" 340,ke 91 342 "\\[" 346,ke 93 348 "\\]" 352,ke 123 354 "\\{" 358,ke 125 360 "\\}" 364,ke 63 366 "\\?" 370,ke 42 372 "\\*" 376,ke 43 378 "\\+" 382,ke 45 384 "\\-" 388,ke 124 390 "\\|" 394,ke 94 396 "\\^" 400,ke 36 402 "\\$" 406,ke 92 408 "\\\\" 412,ke 46 414 "\\." 418,ke 38 420 "\\&" 424,ke 126 426 "\\~" 430,ke 35 432 "\\#" 436,ke 32 438 "\\ " 442,ke 9 444 "\\\t" 448,ke 10 450 "\\\n" 454,ke 13 456 "\\\x0d" 460,ke 11 462 "\\\x0b" 466,ke 12 468 "\\\x0c" 472] 24}),
 (54,oF (.type "code") #[.str "escape" 475,.str "escape" 476,.str "/claim/cut.py" 477,.int 8 0,.int 1 0,.int 0 0,.int 0 0,.int 3 0,.ref 49,.bool true,.int 276 0,.ref 50,.none,.ref 51,.ref 52,.ref 53,.int 479 0,.int 8 0,.str "/claim/cut.py" 480]),
 (55,fO (st 5) "escape" .none 54 327 "re"),
 (61,oF (.type "code") #[.str "_translate" 484,.str "_translate" 485,.str "/claim/cut.py" 486,.int 15 0,.int 3 0,.int 0 0,.int 0 0,.int 3 0,.ref 56,.bool true,.int 276 0,.ref 57,.none,.ref 58,.ref 59,.ref 60,.int 500 0,.int 15 0,.str "/claim/cut.py" 501]),
 (62,fO (st 7) "_translate" .none 61 482 "cpy313.fnmatch"),
 (66,oS (.type "tuple") #[.int 14 0,.int 4 0,.int 0 0,.int 1 0,.int 1 0,.int 6 0,.int 1 0,.int 16 0,.int 46 0,.int 1 0]),
 (67,oF (.type "re.Pattern") #[.str "(?m)^\\." 506,.int 40 519,.int 0 0,.none,.none,.ref 66,.int 0 0]),
 (71,oS (.type "tuple") #[.int 14 0,.int 9 0,.int 4 0,.int 1 0,.int 2 0,.int 16 0,.int 10 0,.int 16 0,.int 13 0,.int 0 0,.int 7 0,.int 7 0,.int 16 0,.int 13 0,.int 16 0,.int 10 0,.int 15 0,.int 18 0,.int 5 0,.int 16 0,.int 10 0,.int 15 0,.int 13 0,.int 11 0,.int 16 0,.int 13 0,.int 5 0,.int 5 0,.int 0 0,.int 16 0,.int 10 0,.int 1 0,.int 15 0,.int 2 0,.int 0 0,.int 1 0]),
 (72,oF (.type "re.Pattern") #[.str "(?:\\r\\n|\\n|\\r(?!\\n))" 522,.int 32 561,.int 0 0,.none,.none,.ref 71,.int 0 0]),
 (78,oF (.type "code") #[.str "quotedata" 565,.str "quotedata" 566,.str "/claim/cut.py" 567,.int 81 0,.int 1 0,.int 0 0,.int 0 0,.int 3 0,.ref 73,.bool true,.int 276 0,.ref 74,.none,.ref 75,.ref 76,.ref 77,.int 569 0,.int 81 0,.str "/claim/cut.py" 570]),
 (79,fO (st 12) "quotedata" .none 78 503 "cpy313.smtplib"),
 (93,oF (.type "code") #[.str "__init__" 596,.str "_NodeInfo.__init__" 597,.str "/claim/cut.py" 598,.int 89 0,.int 2 0,.int 0 0,.int 0 0,.int 3 0,.ref 88,.bool true,.int 276 0,.ref 89,.none,.ref 90,.ref 91,.ref 92,.int 601 0,.int 89 0,.str "/claim/cut.py" 602]),
 (94,fO JL "_NodeInfo.__init__" .none 93 572 "cpy313.graphlib"),
 (97,{ cls:=.type "dict",data:=.dict #[kv P "__module__" 587 (.str "cpy313.graphlib" 572),kv P "__firstlineno__" 591 (.int 86 590),kv P "__slots__" 595 (.ref 87),kv P "__init__" 603 (.ref 94),kv P "__static_attributes__" 607 (.ref 95),kv P "node" 609 (.ref 99),kv P "npredecessors" 611 (.ref 100),kv P "successors" 613 (.ref 101),kv P "__doc__" 614 (.none)] 5}),
 (98,{ cls:=.type "type",data:=.cls { name:="_NodeInfo",bases:=[.type "object"],mro:=[.ref 98,.type "object"],ns:=97,qualname:="_NodeInfo",hasDict:=false,slotNames:=["node","npredecessors","successors"]},slots:=#[none,none,some (.str "_NodeInfo" 580),some (.str "_NodeInfo" 588),some (.builtin "object.__new__"),some (.bool false)]}),
 (99,oF (.type "member_descriptor") #[.str "node" 608,.ref 98,.builtin "proto.slot",.builtin "proto.slot#set",.int 2 0]),
 (100,oF (.type "member_descriptor") #[.str "npredecessors" 610,.ref 98,.builtin "proto.slot",.builtin "proto.slot#set",.int 1 0]),
 (101,oF (.type "member_descriptor") #[.str "successors" 612,.ref 98,.builtin "proto.slot",.builtin "proto.slot#set",.int 0 0]),
 (112,{ cls:=.type "dict",data:=.dict #[kv P "__module__" 624 (.str "cpy313.graphlib" 572),kv P "__firstlineno__" 628 (.int 93 627),kv P "__static_attributes__" 629 (.ref 111),kv P "__weakref__" 631 (.ref 114),kv P "__doc__" 632 (.none)] 3}),
 (113,{ cls:=.type "type",data:=.cls { name:="CycleError",bases:=[.type "ValueError"],mro:=[.ref 113,.type "ValueError",.type "Exception",.type "BaseException",.type "object"],ns:=112,qualname:="CycleError"},slots:=#[some (.ref 104),none,some (.str "CycleError" 617),some (.str "CycleError" 625),some (.builtin "ValueError.__new__"),some (.bool true)]}),
 (124,oS (.type "tuple") #[.none]),
 (130,oF (.type "code") #[.str "__init__" 647,.str "TopologicalSorter.__init__" 648,.str "/claim/cut.py" 649,.int 97 0,.int 2 0,.int 0 0,.int 0 0,.int 3 0,.ref 125,.bool true,.int 276 0,.ref 126,.none,.ref 127,.ref 128,.ref 129,.int 654 0,.int 97 0,.str "/claim/cut.py" 655]),
 (131,fO (i8 0) "TopologicalSorter.__init__" (.ref 124) 130 572 "cpy313.graphlib"),
 (137,oF (.type "code") #[.str "_get_nodeinfo" 657,.str "TopologicalSorter._get_nodeinfo" 658,.str "/claim/cut.py" 659,.int 106 0,.int 2 0,.int 0 0,.int 0 0,.int 3 0,.ref 132,.bool true,.int 276 0,.ref 133,.none,.ref 134,.ref 135,.ref 136,.int 663 0,.int 106 0,.str "/claim/cut.py" 664]),
 (138,fO (i8 1) "TopologicalSorter._get_nodeinfo" .none 137 572 "cpy313.graphlib"),
 (144,oF (.type "code") #[.str "add" 666,.str "TopologicalSorter.add" 667,.str "/claim/cut.py" 668,.int 111 0,.int 2 0,.int 0 0,.int 0 0,.int 7 0,.ref 139,.bool true,.int 276 0,.ref 140,.none,.ref 141,.ref 142,.ref 143,.int 675 0,.int 111 0,.str "/claim/cut.py" 676]),
 (145,fO (i8 2) "TopologicalSorter.add" .none 144 572 "cpy313.graphlib"),
 (149,oF (.type "code") #[.str "prepare" 678,.str "TopologicalSorter.prepare" 679,.str "/claim/cut.py" 680,.int 120 0,.int 1 0,.int 0 0,.int 0 0,.int 3 0,.ref 146,.bool true,.int 276 0,.ref 147,.none,.none,.none,.ref 148,.int 681 0,.int 120 0,.str "/claim/cut.py" 682]),
 (150,fO (i8 3) "TopologicalSorter.prepare" .none 149 572 "cpy313.graphlib"),
 (156,oF (.type "code") #[.str "get_ready" 684,.str "TopologicalSorter.get_ready" 685,.str "/claim/cut.py" 686,.int 128 0,.int 1 0,.int 0 0,.int 0 0,.int 3 0,.ref 151,.bool true,.int 276 0,.ref 152,.none,.ref 153,.ref 154,.ref 155,.int 691 0,.int 128 0,.str "/claim/cut.py" 692]),
 (157,fO (i8 4) "TopologicalSorter.get_ready" .none 156 572 "cpy313.graphlib"),
 (163,oF (.type "code") #[.str "is_active" 694,.str "TopologicalSorter.is_active" 695,.str "/claim/cut.py" 696,.int 139 0,.int 1 0,.int 0 0,.int 0 0,.int 3 0,.ref 158,.bool true,.int 276 0,.ref 159,.none,.ref 160,.ref 161,.ref 162,.int 698 0,.int 139 0,.str "/claim/cut.py" 699]),
 (164,fO (i8 5) "TopologicalSorter.is_active" .none 163 572 "cpy313.graphlib"),
 (177,oF (.type "code") #[.str "done" 708,.str "TopologicalSorter.done" 709,.str "/claim/cut.py" 710,.int 147 0,.int 1 0,.int 0 0,.int 0 0,.int 7 0,.ref 172,.bool true,.int 276 0,.ref 173,.none,.ref 174,.ref 175,.ref 176,.int 719 0,.int 147 0,.str "/claim/cut.py" 720]),
 (178,fO (i8 7) "TopologicalSorter.done" .none 177 572 "cpy313.graphlib"),
 (184,oF (.type "code") #[.str "_find_cycle" 722,.str "TopologicalSorter._find_cycle" 723,.str "/claim/cut.py" 724,.int 170 0,.int 1 0,.int 0 0,.int 0 0,.int 3 0,.ref 179,.bool true,.int 276 0,.ref 180,.none,.ref 181,.ref 182,.ref 183,.int 732 0,.int 170 0,.str "/claim/cut.py" 733]),
 (185,fO (i8 8) "TopologicalSorter._find_cycle" .none 184 572 "cpy313.graphlib"),
 (194,{ cls:=.type "dict",data:=.dict #[kv P "__module__" 642 (.str "cpy313.graphlib" 572),kv P "__firstlineno__" 646 (.int 95 645),kv P "__init__" 656 (.ref 131),kv P "_get_nodeinfo" 665 (.ref 138),kv P "add" 677 (.ref 145),kv P "prepare" 683 (.ref 150),kv P "get_ready" 693 (.ref 157),kv P "is_active" 700 (.ref 164),kv P "__bool__" 707 (.ref 171),kv P "done" 721 (.ref 178),kv P "_find_cycle" 734 (.ref 185),kv P "static_order" 741 (.ref 192),kv P "__static_attributes__" 746 (.ref 193),kv P "__dict__" 748 (.ref 196),kv P "__weakref__" 750 (.ref 197),kv P "__doc__" 751 (.none)] 4}),
 (195,{ cls:=.type "type",data:=.cls { name:="TopologicalSorter",bases:=[.type "object"],mro:=[.ref 195,.type "object"],ns:=194,qualname:="TopologicalSorter"},slots:=#[none,none,some (.str "TopologicalSorter" 635),some (.str "TopologicalSorter" 643),some (.builtin "object.__new__"),some (.bool true)]}),
 (205,oF (.type "code") #[.str "_law_rows" 756,.str "_law_rows" 757,.str "/claim/cut.py" 758,.int 202 0,.int 1 0,.int 0 0,.int 0 0,.int 3 0,.ref 200,.bool true,.int 276 0,.ref 201,.none,.ref 202,.ref 203,.ref 204,.int 766 0,.int 202 0,.str "/claim/cut.py" 767]),
 (206,fO (st 20) "_law_rows" .none 205 754 "law_in0223_01"),
 (212,oF (.type "code") #[.str "_law_text" 769,.str "_law_text" 770,.str "/claim/cut.py" 771,.int 215 0,.int 2 0,.int 0 0,.int 0 0,.int 3 0,.ref 207,.bool true,.int 276 0,.ref 208,.none,.ref 209,.ref 210,.ref 211,.int 777 0,.int 215 0,.str "/claim/cut.py" 778]),
 (213,fO (st 21) "_law_text" .none 212 754 "law_in0223_01"),
 (219,oF (.type "code") #[.str "_law_read" 780,.str "_law_read" 781,.str "/claim/cut.py" 782,.int 223 0,.int 1 0,.int 0 0,.int 0 0,.int 3 0,.ref 214,.bool true,.int 276 0,.ref 215,.none,.ref 216,.ref 217,.ref 218,.int 789 0,.int 223 0,.str "/claim/cut.py" 790]),
 (220,fO (st 22) "_law_read" .none 219 754 "law_in0223_01"),
 (224,oF (.type "code") #[.str "_law_takes" 792,.str "_law_takes" 793,.str "/claim/cut.py" 794,.int 247 0,.int 2 0,.int 0 0,.int 0 0,.int 3 0,.ref 221,.bool true,.int 276 0,.ref 222,.none,.none,.none,.ref 223,.int 795 0,.int 247 0,.str "/claim/cut.py" 796]),
 (225,fO (st 23) "_law_takes" .none 224 754 "law_in0223_01"),
 (231,oF (.type "code") #[.str "_law_told" 798,.str "_law_told" 799,.str "/claim/cut.py" 800,.int 255 0,.int 3 0,.int 0 0,.int 0 0,.int 3 0,.ref 226,.bool true,.int 276 0,.ref 227,.none,.ref 228,.ref 229,.ref 230,.int 804 0,.int 255 0,.str "/claim/cut.py" 805]),
 (232,fO (st 24) "_law_told" .none 231 754 "law_in0223_01"),
 (236,oF (.type "code") #[.str "_law_sorted" 807,.str "_law_sorted" 808,.str "/claim/cut.py" 809,.int 263 0,.int 1 0,.int 0 0,.int 0 0,.int 3 0,.ref 233,.bool true,.int 276 0,.ref 234,.none,.none,.none,.ref 235,.int 810 0,.int 263 0,.str "/claim/cut.py" 811]),
 (237,fO (st 25) "_law_sorted" .none 236 754 "law_in0223_01"),
 (241,oF (.type "code") #[.str "_law_peeled" 813,.str "_law_peeled" 814,.str "/claim/cut.py" 815,.int 278 0,.int 1 0,.int 0 0,.int 0 0,.int 3 0,.ref 238,.bool true,.int 276 0,.ref 239,.none,.none,.none,.ref 240,.int 816 0,.int 278 0,.str "/claim/cut.py" 817]),
 (242,fO (st 26) "_law_peeled" .none 241 754 "law_in0223_01"),
 (248,oF (.type "code") #[.str "_law_ring" 819,.str "_law_ring" 820,.str "/claim/cut.py" 821,.int 287 0,.int 2 0,.int 0 0,.int 0 0,.int 3 0,.ref 243,.bool true,.int 276 0,.ref 244,.none,.ref 245,.ref 246,.ref 247,.int 826 0,.int 287 0,.str "/claim/cut.py" 827]),
 (249,fO (st 27) "_law_ring" .none 248 754 "law_in0223_01"),
 (253,oF (.type "code") #[.str "_law_agrees" 829,.str "_law_agrees" 830,.str "/claim/cut.py" 831,.int 289 0,.int 4 0,.int 0 0,.int 0 0,.int 3 0,.ref 250,.bool true,.int 276 0,.ref 251,.none,.none,.none,.ref 252,.int 832 0,.int 289 0,.str "/claim/cut.py" 833]),
 (254,fO (st 28) "_law_agrees" .none 253 754 "law_in0223_01"),
 (258,oF (.type "code") #[.str "law" 835,.str "law" 836,.str "/claim/cut.py" 837,.int 294 0,.int 1 0,.int 0 0,.int 0 0,.int 3 0,.ref 255,.bool true,.int 276 0,.ref 256,.none,.none,.none,.ref 257,.int 838 0,.int 294 0,.str "/claim/cut.py" 839]),
 (259,fO (st 29) "law" .none 258 754 "law_in0223_01")]
noncomputable abbrev Ht:Program:=pw_in0223_01
noncomputable def nD:Program:={ Ht with main:={ Ht.main with body:=[0,1,3,5,6,7,8,11,12,13,14,15,17,18,19,20,21,22,23,24,25,26,27,28,29].filterMap λi=>Ht.main.body[i]?}}
noncomputable def td:List Str:=["twin_re_1_fnmatch","_special_chars_map","twin_re_1_smtplib","_twin_re_2","_NodeInfo"]
noncomputable abbrev Mx:List Addr:=[3,42,43,45,54,55,61,62,66,67,71,72,78,79,93,94,97,98,99,100,101,112,113,124,130,131,137,138,144,145,149,150,156,157,163,164,177,178,184,185,194,195,205,206,212,213,219,220,224,225,231,232,236,237,241,242,248,249,253,254,258,259]
theorem Gr(P:Params):Mx=(KL P).map (·.1):=by rfl'
noncomputable abbrev lB:Hook:=kmHook KL Mx Gr [57,215,244]
def Bj(w:World):Prop:=(openEnds treeTable Ht w 6042).map (λs=>(openSeen nD td (importedModules Ht.main.body) (λs=>xlAt nD [] s&&recOk (RowW.records Challenge.rw_in0223_01.row.toRowW) s) true s,Hook.obs lB s))=some (openGood nD td,Hook.val lB w)
theorem Gs:∀ w:World,Bj ((w.withFollow "comprehension-iter-twice" false).withFollow "special-get-raises" false):=λw=>by
 unfold Bj openEnds fencedOpening topFrom
 rw [te10274390034422433532,te14289696077712309145,te14082659384304107361,te14364793385576792824,te4187177175401517315,te5923862056798008813,te8920871248978507458]
 rfl'
theorem Gu:∀ w:World,Bj ((w.withFollow "comprehension-iter-twice" false).withFollow "special-get-raises" true):=λw=>by
 unfold Bj openEnds fencedOpening topFrom
 rw [te10274390034422433532,te14289696077712309145,te14082659384304107361,te14364793385576792824,te4187177175401517315,te5923862056798008813,te8920871248978507458]
 rfl'
theorem Gv:∀ w:World,Bj ((w.withFollow "comprehension-iter-twice" true).withFollow "special-get-raises" false):=λw=>by
 unfold Bj openEnds fencedOpening topFrom
 rw [te10274390034422433532,te14289696077712309145,te14082659384304107361,te14364793385576792824,te4187177175401517315,te5923862056798008813,te8920871248978507458]
 rfl'
theorem Gw:∀ w:World,Bj ((w.withFollow "comprehension-iter-twice" true).withFollow "special-get-raises" true):=λw=>by
 unfold Bj openEnds fencedOpening topFrom
 rw [te10274390034422433532,te14289696077712309145,te14082659384304107361,te14364793385576792824,te4187177175401517315,te5923862056798008813,te8920871248978507458]
 rfl'
theorem Ii:LeftO Ht nD td (λs=>xlAt nD [] s&&recOk (RowW.records Challenge.rw_in0223_01.row.toRowW) s) (Hook.obs lB) (Hook.val lB) 6042 :=
 byRow2 (P:=Bj) "special-get-raises" (byRow2 (P:=λw=>Bj (w.withFollow "special-get-raises" false)) "comprehension-iter-twice" Gs Gv) (byRow2 (P:=λw=>Bj (w.withFollow "special-get-raises" true)) "comprehension-iter-twice" Gu Gw)
end L1
end Mp
end
namespace Mp
section
variable {prog:Program}{w:World}{A:Around}{E:Value->Shared->Prop}{s:Shared}{l m:Addr}
theorem oq{its:Array Value}{n:Nat}{sl:Array (Option Value)}{x:Value}{Q:Value->Shared->Prop}(hm:s.heap.get? m=some ⟨.type "builtin_function_or_method",none,.fields #[.builtin "list.append",.ref l],sl⟩)(ho:s.heap.get? l=some ⟨.type "list",none,.seq its n,#[]⟩)(hQ:∀ h',h'.get? l=some ⟨.type "list",none,.seq (its.push x) (n+1),#[]⟩->SameBut l s.heap h'->Q .none {s with heap:=h'})(ml:its.size<=sizeLine) :
  wpAny (model prog w) A (call (.ref m) [x]) Q E s:=by
 have me:s.heap.get? l=some (seqObj "list" its n):=ho
 apply wpAny_call (gW (.inl rfl) hm slot_list_append.plain entry_list_append (s8 ho ?_))
 show wpAny _ _ (updateSeq l (·.push x) >>= λZ=>ret .none) _ _ s
 apply wpAny_bind ?_
 apply wpAny_updateSeq ho rfl (wpAny_pure (hQ _ ?_ (SameBut.update ..)))
 rw [get?_update_seq me (·.push x)]
 have:((its.push x).size == its.size)=false:=by simp
 rw [this];rfl
end
theorem qU{M:Model}{A:Around}{E:Value->Shared->Prop}{s:Shared}{B:String}{env:Env}{e:Expr}{pos:Pos}{u:Addr}{vs:Array Value}{sl:Array (Option Value)}{Q:Value->Shared->Prop}(hB:B="builtin_function_or_method"\/B="method-wrapper")(rK:starEach [e] env=[(false,eval e env)])(h:wpAny M A (spliced (backTo pos (starEach [e] env))) (λas s₁=>s₁.heap.get? u=some ⟨.type B,none,.fields vs,sl⟩/\wpAny M A (call (.ref u) as) Q E s₁) E s):wpAny M A (callWith pos (.ref u) [] (backTo pos (starEach [e] env)) []) Q E s:=by
 rw [rK] at h ⊢
 exact lA hB rfl (evalArgs_plain h)
section
theorem pN{o:Expr}{p:Pos}{Ψ:V->Loc->Cells->Prop}(h:mE X A env (eval o env) (λov l c=>∃ a xs,ov=.ref a/\c a=some (.list xs)/\∀ u,c u=none->Ψ (.ref u) l (upd c u (some (.De "list.append" a)))) loc cells)(he:autoParam (eval (.Attribute o "append" p) env=(do let v <- eval o env;standAt p.atName;let r <- holding [v] (getAttr v "append" true);letTemporaryGo o v r;pure r)) aR):mE X A env (eval (.Attribute o "append" p) env) Ψ loc cells:=λown s I=>by
 apply Attribute_any_ (h.use I λown1 l1 c1 ov v1 s1 I1 r1 x1 dH=>ay dH λa xs ea hc h1=>?_) he
 subst ea
 apply RV.e0 r1 rfl ?_
 apply dQ (I1.base.cell a _ hc) λoa vs n e rs=>?_
 obtain ⟨hh,g,d,t,os⟩:=s1
 apply mC e ?_
 apply bq (I1.base.jN (t:=t+1) (ob:={ cls:=.type "builtin_function_or_method",data:=.fields #[.builtin "list.append",.ref a]}) (c':=.De "list.append" a) rfl (get?_push_size _ rfl)) λB x nn=>?_
 exact ⟨_,l1,_,.ref _,⟨B,I1.ok,I1.fr.ext x⟩,.ref _,x1.trans x.fF,h1 _ nn⟩
theorem dg{f:Str}{np pos:Pos}{e:Expr}{u a:Addr}{Ψ:V->Loc->Cells->Prop}(hl:loc.lookup f=some (.ref u))(h:mE X A env (eval e env) (λx l c=>∃ xs,c u=some (.De "list.append" a)/\c a=some (.list xs)/\xs.length<=sizeLine/\Ψ .none l (upd c a (some (.list (xs++[x]))))) loc cells)(rK:autoParam (starEach [e] env=[(false,eval e env)]) aR)(hd:autoParam ((f == ("__debug__":Str))=false) aDK)(F8:autoParam ((f == ("__classdict__":Str))=false) aDK):mE X A env (eval (.Call (.Name f np) [e] [] pos) env) Ψ loc cells:=λown s I=>by
 apply wpAny_Call_NameR ?_
 apply (m_var (Ψ:=λv l c=>v=.ref u/\l=loc/\c=cells) hl ⟨rfl,rfl,rfl⟩ hd F8).use I λown1 l1 c1 b v1 s1 I1 r1 x1 h1=>?_
 (apply bq h1 ?_;try clear h1;intro aM;subst aM;intro bk;subst bk;intro bN;subst bN)
 apply RV.e0 r1 rfl ?_
 apply qU (sl:=#[]) (vs:=#[.builtin "list.append",.ref a]) (.inl rfl) rK ?_
 apply (af (rest:=[]) (p:=pos) (Ψ:=λas l c=>∃ x,as=[x]/\∃ xs,c u=some (.De "list.append" a)/\c a=some (.list xs)/\xs.length<=sizeLine/\Ψ .none l (upd c a (some (.list (xs++[x]))))) (h.mono λx l c q=>a_nil (iDPP x rfl q)) rK).use I1 λaG l2 c2 as vs s2 I2 r2 x2 eC=>As eC λx ea xs hu hc hz hΨ=>?_
 subst ea
 (apply aj r2.one ?_;intro v cI;rw [cI];intro rv)
 apply dQ (I2.base.cell a _ hc) λoa its n e rs=>?_
 have hm:s2.heap.get? u=some ⟨.type "builtin_function_or_method",none,.fields #[.builtin "list.append",.ref a],#[]⟩:=(I2.base.cell u _ hu).2
 have z:its.size=xs.length:=by simpa using rs.1
 apply ⟨hm,oq (l:=a) hm e (λh7 e7 FI=>?_) (by lia)⟩
 have kp:∀ b o,b≠a->s2.heap.get? b=some o->h7.get? b=some o:=λb o hb e=>(FI.2 b hb).trans e
 have My:∀ v x,RV aG s2.heap v x->RV aG h7 v x:=λv x r=>fV I2.base hc kp r
 (apply aC (I2.base.iX (t:=s2.toks) hc kp (bJ _ e7) (c':=.list (xs++[x])) (ez _ (n+1) e7 (by rw [toList_push];exact (rs.mono My).append (.cons (My _ _ rv) .nil)))) ?_;intro B y)
 exact ⟨aG,l2,_,.none,⟨B,I2.ok,I2.fr.ext y⟩,.xk,x1.trans (x2.trans y.fF),hΨ⟩
end
section
open PySem.Sre PySem.Sre.M
noncomputable def CF:Array Nat:=#[14,14,4,1,1,9,0,64,0,1342177280,0,0,0,0,0,17,0,13,11,9,0,64,0,1342177280,0,0,0,0,0,17,1,1]
noncomputable def amp (c:Nat):Bool:=c == 38||c == 124||c == 126
theorem y6:∀ c,c<256->(CF.getD (6+c / 32) 0).testBit (c % 32)=amp c:=by decide +kernel
theorem DL{c:Nat}(h:¬ c<256):amp c=false:=by
 unfold amp
 rw [show (c == 38)=false by simp;omega,show (c == 124)=false by simp;omega,show (c == 126)=false by simp;omega];rfl
theorem DM(c:Nat)(seen:Sre.Seen):∃ cF,inSet CF c CF.size 5 true seen=.ok (amp c,cF):=by
 have e:inSet CF c CF.size 5 true seen=(if (decide (c<256)&&(CF.getD (5+(1+c / 32)) 0).testBit (c % 32))=true then .ok (true,seen.add (CF.getD (5+0) 0)) else inSet CF c (CF.size - 1) (5+9) true (seen.add (CF.getD (5+0) 0))):=rfl
 rw [e,show 5+(1+c / 32)=6+c / 32 by lia]
 by_cases h:c<256
 ·rw [y6 c h]
  cases ha:amp c with
  | true=>rw [if_pos (by simp [h])];exact (bJ _ rfl)
  | false=>rw [if_neg (by simp)];exact (bJ _ rfl)
 ·rw [if_neg (by simp [h]),DL h];exact (bJ _ rfl)
theorem pO{text:Array Nat}(m:M)(hm:m.code=CF)(ht:m.text=text)(hl:m.lim=text.size)(hn:∀ i,i<text.size->amp (text.getD i 0)=false):∀ (fuel s:Nat) (seen:Sre.Seen),∃ cF,admitted m fuel s seen=.ok (none,cF)
 | 0,s,sn=>(bJ _ rfl)
 | fuel+1,s,sn=>by
  rw [admitted,hm,ht,hl]
  by_cases hs:s >= text.size
  ·rw [if_pos hs];exact (bJ _ rfl)
  ·rw [if_neg hs]
   apply bw (DM (text.getD s 0) sn) λcF e=>?_
   rw [e,hn s (lt_of_not_le hs)]
   exact pO m hm ht hl hn fuel (s+1) cF
noncomputable def m1 (text:Array Nat) (start:Nat):M:={ forSearch CF text 1 start text.size false with}
theorem Bk{text:Array Nat}(hn:∀ i,i<text.size->amp (text.getD i 0)=false):Run 5 (forSearch CF text 1 0 text.size false) (sT none):=by
 have e:forSearch CF text 1 0 text.size false=if (decide (0 > text.size)||decide (text.size - 0<1))=true then
   ({ code:=CF,text,lim:=text.size,start:=0,pc:=15,pos:=0,handed:=0,marks:=Array.replicate 2 none,mustAdvance:=false,seen:=({}:Sre.Seen).add 14}:M).say false else
   ({ code:=CF,text,lim:=text.size,start:=0,pc:=15,pos:=0,handed:=0,marks:=Array.replicate 2 none,mustAdvance:=false,seen:=({}:Sre.Seen).add 14,lastStart:=text.size}:M).attemptFrom 0 true:=rfl
 rw [e]
 by_cases h:text.size - 0<1
 ·apply .pos (by rw [or_eq_true];exact .inr (decide_eq_true h)) ?_
  exact .step rfl (.done ⟨rfl,rfl⟩)
 ·apply .neg (λq=>(or_eq_true _ _▸q).elim (λq=>absurd (of_decide_eq_true q) (not_lt_zero text.size)) λq=>h (of_decide_eq_true q)) ?_
  (apply bw (pO ({ code:=CF,text,lim:=text.size,start:=0,pc:=15,pos:=0,handed:=0,marks:=Array.replicate 2 none,mustAdvance:=false,seen:=({}:Sre.Seen).add 14,lastStart:=text.size}:M) rfl rfl rfl hn (text.size+1 - 0) 0 (({}:Sre.Seen).add 14)) ?_;intro cF e)
  have hf:(!M.hasFirstSet ({ code:=CF,text,lim:=text.size,start:=0,pc:=15,pos:=0,handed:=0,marks:=Array.replicate 2 none,mustAdvance:=false,seen:=({}:Sre.Seen).add 14,lastStart:=text.size}:M))=false:=rfl
  unfold M.attemptFrom
  rw [hf,if_neg (by decide)]
  rw [show admitted ({ code:=CF,text,lim:=text.size,start:=0,pc:=15,pos:=0,handed:=0,marks:=Array.replicate 2 none,mustAdvance:=false,seen:=({}:Sre.Seen).add 14,lastStart:=text.size}:M) (({ code:=CF,text,lim:=text.size,start:=0,pc:=15,pos:=0,handed:=0,marks:=Array.replicate 2 none,mustAdvance:=false,seen:=({}:Sre.Seen).add 14,lastStart:=text.size}:M).lim+1 - 0) 0 ({ code:=CF,text,lim:=text.size,start:=0,pc:=15,pos:=0,handed:=0,marks:=Array.replicate 2 none,mustAdvance:=false,seen:=({}:Sre.Seen).add 14,lastStart:=text.size}:M).seen=_ from e]
  exact .step rfl (.done ⟨rfl,rfl⟩)
open PySem.Builtin.Re in
def te(K:PySem.W.Frag)(p:Addr):Prop:=∃ fs sl cl oc items n,K.lookup p=some ⟨.type "re.Pattern",none,.fields fs,sl⟩/\fs.getD 5 .none=.ref cl/\reRawNat (fs.getD 6 .none)=0/\reRawNat (fs.getD 2 .none)=1/\K.lookup cl=some oc/\oc.data=.seq items n/\(items.map reRawOf).map (·.toNat)=CF
section
open PySem.Builtin.Re
variable {prog:Program}{w:World}{A:Around}{E:Value->Shared->Prop}{s:Shared}{p:Addr}{x:Str}{t:Tok}
structure nE(h:Heap)(p:Addr):Prop where
 ex:∃ fs d sl cl oc items n,h.get? p=some ⟨.type "re.Pattern",d,.fields fs,sl⟩/\fs.getD 5 .none=.ref cl/\reRawNat (fs.getD 6 .none)=0/\reRawNat (fs.getD 2 .none)=1/\h.get? cl=some oc/\oc.data=.seq items n/\(items.map reRawOf).map (·.toNat)=CF
theorem nE.keeps{h h':Heap}{p:Addr}(P:nE h p)(hk:∀ b o,h.get? b=some o->h'.get? b=some o):nE h' p:=by
 apply iS P.ex λfs d sl cl oc items n h1 h2 h3 h4 h5 h6 h7=>?_
 exact ⟨fs,d,sl,cl,oc,items,n,hk _ _ h1,h2,h3,h4,hk _ _ h5,h6,h7⟩
theorem nE.typeIs{s:Shared}{p:Addr}(P:nE s.heap p):s.TypeIs (.ref p) "re.Pattern":=by
 apply oR P.ex λfs d sl cl oc items n h1 Z=>?_
 exact (iDPP _ h1 rfl)
noncomputable def Ij (p:Addr) (x:Str) (t:Tok):ReTarget:={ pattern:=.ref p,string:=.str x t,code:=CF,text:=x.cps,kind:=0,groups:=1,pos:=0,lim:=x.cps.size}
theorem lC{Q:ReTarget->Shared->Prop}(P:nE s.heap p)(h:Q (Ij p x t) s):wpAny (model prog w) A (reWholeTarget (.ref p) (.str x t)) Q E s:=by
 apply iS P.ex λfs d sl cl oc items n h1 h2 h3 h4 h5 h6 h7=>?_
 unfold reWholeTarget
 apply wpAny_bind (wpAny_fieldsOf h1 rfl ?_)
 show wpAny _ _ (do
  let (text,kind) <- (pure (x.cps,0):Sem (Array Nat×Nat))
  _) _ _ _
 apply wpAny_bind (wpAny_pure ?_)
 dsimp only
 rw [h3]
 apply wpAny_bind (wpAny_pure ?_)
 rw [h2]
 unfold reRawItems
 apply wpAny_bind (wpAny_bind (wpAny_seqItems h5 h6 (wpAny_pure ?_)))
 apply wpAny_pure ?_
 show Q { pattern:=.ref p,string:=.str x t,code:=(items.map reRawOf).map (·.toNat),text:=x.cps,kind:=0,groups:=reRawNat (fs.getD 2 .none),pos:=0,lim:=x.cps.size} s
 rw [h4,h7]
 exact h
theorem DN:∃ v,typeLookup (.type "function") "__call__"=pure (some v):=(bJ (.builtin "function.__call__") (by rw [typeLookup_type,builtinLookup_eq_fast];rfl'))
theorem Bl{Q:Option Sre.M->Shared->Prop}(hn:∀ i,i<x.cps.size->amp (x.cps.getD i 0)=false)(h:Q none s):wpAny (model prog w) A (reNextFound (Ij p x t) 0 false) Q E s :=
 k9 (Bk hn) (le_of_ble_eq_true rfl) λm' hm=>h
noncomputable def Fc (p:Addr) (x:Str) (t:Tok) (f l:Addr):Args:=⟨[.ref p,.str x t,.ref f,rawInt 1,rawInt 0,rawInt 0,rawInt 0,rawInt 0,.bool false,.ref l,.bool false],[]⟩
theorem Bm{f l:Addr}{R:Result->Shared->Prop}(hn:∀ i,i<x.cps.size->amp (x.cps.getD i 0)=false)(hz:x.length<=1000000)(P:nE s.heap p)(vE:∀ b o,b≠l->s.heap.get? b=some o->True)(hl:PlainL s.heap l #[])(hR:∀ h' k t',(∀ b o,b≠l->s.heap.get? b=some o->h'.get? b=some o)->R (.ok (.ret (.str x t'))) {s with heap:=h',toks:=k}) :
  codeAny (model prog w) A (.builtin "re.Pattern.sub.loop" (Fc p x t f l)) R s:=by
 have key:∀ d ps,(d=0/\ps=(if 0<x.cps.size then [(⟨x.cps.extract 0 x.cps.size⟩:Str)] else []))->join (ofString "") ([]++ps)=x:=by
  rintro d ps ⟨-,rfl⟩
  obtain ⟨cs⟩:=x
  by_cases h:0<cs.size
  ·rw [if_pos h]
   show (⟨cs.extract 0 cs.size⟩:Str)=⟨cs⟩
   rw [Array.extract_size]
  ·rw [if_neg h]
   have:cs=#[]:=eq_empty_of_size_eq_zero (Nat.eq_zero_of_not_pos h)
   rw [this];rfl
 apply codeAny_builtin fZ ?_
 rw [under_plainId cO _]
 unfold Builtin.«re.Pattern.sub.loop»
 dsimp only [Fc,rawInt]
 apply wpAny_bind (lC P ?_)
 apply wpAny_bind (Bl hn ?_)
 dsimp only
 show wpAny _ _ (if 0<x.cps.size then (do let v <- reSlice x.cps 0 0 x.cps.size;updateSeq l (λx=>x.push v);rI x l 0) else rI x l 0) _ _ _
 by_cases i4:0<x.cps.size
 ·rw [if_pos i4]
  apply wpAny_bind (js (le_trans hz (by unfold sizeLine;lia)) λu k=>?_)
  apply wpAny_bind (iF hl (Array.none_eq_getElem?_iff.mp rfl) λh' iU kp=>?_)
  apply oC (s:={s with heap:=h',toks:=k}) (acc:=[⟨x.cps.extract 0 x.cps.size⟩]) iU (strs_snoc (ss:=[]) .nil) ?_ (List.getElem?_eq_none_iff.mp rfl) λk' t'=>?_
  ·show (x.cps.extract 0 x.cps.size).size+0<=_
   rw [Array.extract_size]
   have:x.cps.size<=1000000:=hz
   exact zl (by assumption) rfl
  ·have:=key 0 [⟨x.cps.extract 0 x.cps.size⟩] ⟨rfl,by rw [if_pos i4]⟩
   rw [List.nil_append] at this
   rw [this];exact hR h' k' t' kp
 ·rw [if_neg i4]
  apply oC (acc:=[]) hl .nil (le_of_ble_eq_true rfl) (List.getElem?_eq_none_iff.mp rfl) λk' t'=>?_
  have:=key 0 [] ⟨rfl,by rw [if_neg i4]⟩
  rw [List.nil_append] at this
  rw [this];exact hR s.heap k' t' λZ Z Z e=>e
theorem we{id:String}{Q:Unit->Shared->Prop}(h:Q () s):wpAny (model prog w) A (reNotHeld id (.str x t)) Q E s:=by
 have f1:isSubtype (.type "str") (.type "bytearray")=pure false:=by rw [isSubtype_type];rfl'
 unfold reNotHeld
 repeat (any_goals (first | assumption | wp_step))
end
section
open PySem.Builtin.Re
variable {p:Addr}
theorem te.here(P:te X.K p)(K:X.K.In s.heap):nE s.heap p:=by
 apply jd P λfs sl cl oc items n h1 h2 h3 h4 h5 h6 h7=>?_
 exact ⟨⟨fs,none,sl,cl,oc,items,n,(K _ _ h1),h2,h3,h4,(K _ _ h5),h6,h7⟩⟩
theorem te.Ds(P:te X.K p){Θ:V->List V->Cells->Prop}(h:Θ (.bi "re.Pattern.sub") [.ref p] cells):jl X A (.ref p) "sub" Θ cells :=
 fT (T:="re.Pattern") jq fN k7 (λown s v I r=>by
  apply RV.e0 r rfl ?_
  apply q7 P λfs sl cl oc items n h1 Z=>?_
  exact ⟨⟨_,I.K _ _ h1,rfl⟩,λa q=>by cases q;exact (iDPP _ (I.K _ _ h1) rfl)⟩) h
theorem Gx{f:Addr}{x:Str}(P:te X.K p)(hf:cells f=some (.oW "function"))(hn:∀ i,i<x.cps.size->amp (x.cps.getD i 0)=false)(hz:x.length<=1000000)(h:Ψ (.str x) cells):aD X A (.bi "re.Pattern.sub") [.ref p,.ref f,.str x] Ψ cells:=λfv vs own s I ⟨rf,rs⟩=>by
 apply RV.e0 rf rfl ?_
 (apply ay rs.cW ?_;intro v1 je aM;rw [aM];intro r1 rs)
 (apply ay rs.two ?_;intro v2 v3 bk;rw [bk];intro r2 r3)
 apply RV.e0 r1 rfl ?_;apply RV.e0 r2 rfl ?_;apply RV.e1 r3 rfl λZ=>?_
 rename_i t3
 apply jX (I.cell f _ hf) λof o ho nZ=>?_
 have PH:=P.here I.K
 obtain ⟨cv,N2⟩:=DN
 apply hD fN PH.typeIs j7 ?_ (k8 _ _ _)
 unfold Builtin.«re.Pattern.sub» reSubstitute
 dsimp only
 rw [AX]
 apply wpAny_bind (wpAny_pure ?_)
 dsimp only
 apply wpAny_bind (wpAny_pure ?_)
 apply wpAny_bind (wpAny_specialOf (T:="function") (iDPP o ho nZ) N2 ?_)
 rw [if_pos (show ((some cv:Option Value).isSome=true) from rfl)]
 apply wpAny_bind (wpAny_pure ?_)
 rw [if_pos (show ((some cv:Option Value).isSome=true) from rfl)]
 apply wpAny_bind (wpAny_pure ?_)
 dsimp only
 apply wpAny_bind (wpAny_holding (lC PH ?_))
 rw [if_pos (show (((1:Int) == 1)=true) from rfl)]
 apply wpAny_bind (we ?_)
 apply wpAny_bind (wpAny_newList ?_ (by decide))
 apply wpAny_pure ⟨plainId_quiet cO _,?_⟩
 have HX:∀ b o,s.heap.get? b=some o->(s.heap.push { cls:=.type "list",data:=.seq ([]:List Value).toArray}).get? b=some o:=λb o e=>get?_push_of_some _ e
 apply Bm (l:=s.heap.objs.size) (s:={s with heap:=s.heap.push { cls:=.type "list",data:=.seq ([]:List Value).toArray}}) hn hz (PH.keeps HX) (λZ Z Z Z=>trivial) ⟨_,_,get?_push_size _ rfl,rfl,rfl,rfl⟩ λh' k t' kp=>?_
 apply mb_end (b:=.str _) I rfl (λb o e=>kp b o (λz=>?_) (HX b o e)) (.str _ _) h
 rw [z,ak] at e;exact bf e
end
end
def qV(X:Cx):Prop:=∃ bm o,X.mg "__builtins__"=some (.ref bm)/\bm≠builtinsNs/\bm≠mainGlobals/\X.h₀.get? bm=some o/\o.cls=.type "module"/\o.dict=some builtinsNs/\o.data=.plain
section
theorem rM{cells:Cells}{a:Addr}{c:Option Cell}(h:cells a=c):upd cells a c=cells:=by
 funext b
 unfold upd
 split
 ·rename_i q;rw [q,h]
 ·rfl
theorem Bn{params:Arguments}{body:Expr}{scope:Scope}{pos:Pos}{c P:Addr}{Ln:List (Str×Addr)}{Ψ:V->Loc->Cells->Prop}(lD:env.code=.ref c)(hC:codeHdIn X.K c P=true)(hP:cells P=some .tab)(hB:qV X)(h:∀ f,cells f=none->Ψ (.ref f) loc (upd cells f (some (.oW "function"))))(nZ:autoParam (closureFor scope env=pure Ln) aR)(Lo:autoParam (defaultsOf params env=([],[])) aR):mE X A env (eval (.Lambda params body scope pos) env) Ψ loc cells:=λown s I=>by
 apply jX (I.base.cell P _ hP) λoP ps eP tP=>?_
 have CH:=codeHd_of_K I.base.K hC
 apply oU hB λbm o b1 b2 b3 b4 b5 b6 b7=>?_
 have nP:X.h₀.get? P=none:=I.base.new P P oP
 have Lp:mainGlobals≠P:=λq=>by
  apply cw X.hg λo es ep e Z=>?_
  rw [q,nP] at e;exact bf e
 have hb:s.heap.BuiltinsAt X.mg P:=⟨bm,o,b1,b2,b3,(λq=>by rw [q,nP] at b4;(exact bf b4)),(I.base.old.get_of_cls b4 (by rw [b5];simp)),b5,b6,b7⟩
 have fin:∀ (h':Heap) (ob:Obj) (tk:Tok),ob.isFreed=false->ob.cls=.type "function"->(∀ b o,b≠P->s.heap.get? b=some o->h'.get? b=some o)->(∃ C6,h'.get? P=some (PySem.W.tabObj C6)/\TriplesOk C6.toList) ->
   jh X env RV own cells s.heap Ψ (.ref h'.objs.size) {s with heap:=h'.push ob,toks:=tk}:=λh' ob tk hf hc hk aM=>aj aM λC6 e' t'=>by
  apply aC (I.base.iX (t:=tk) hP hk (bJ _ e') (c':=.tab) (iDPP C6 e' t')) λB1 x1=>?_
  rw [rM hP] at B1 x1
  (apply bq (B1.jN (t:=tk) (ob:=ob) (c':=.oW "function") hf (iDPP _ (get?_push_size _ hf) hc)) ?_;intro B2 x2 n2)
  exact ⟨_,loc,_,.ref _,⟨B2,I.ok,(I.fr.ext x1).ext x2⟩,.ref _,x1.fF.trans x2.fF,h _ n2⟩
 apply PySem.W.kla_eval Lo ?_
 cases hf:codeAmong pos ps.toList with
 | none =>
  apply PySem.W.kla_makeFunction nZ I.ok.glob I.base.hg lD CH eP tP hf Lp hb λc' N3 h' tk hx E7 i4 N4 N5=>?_
  apply fin h' _ tk rfl rfl (λb o hb e=>hx b o hb e) (iDPP _ N5 ?_)
  rw [toList_append]
  exact TriplesOk_snoc _ _ _ _ tP
 | some cv =>
  apply PySem.W.kla_makeFunctionHit nZ I.ok.glob I.base.hg lD CH eP tP hf hb λN3 h' tk hk ml=>?_
  exact fin h' _ tk rfl rfl (λb o Z e=>hk b o e) (iDPP ps (hk _ _ eP) tP)
end
noncomputable def DO (e:DictEntry):Bool:=match e.key,e.val with
 | .int k _,.str t _=>decide (0<=k)&&e.hash == hashInt k&&t.cps == #[92,k.toNat]
 | _,_=>false
noncomputable def uI (e:DictEntry):Nat:=match e.key with | .int k _=>k.toNat | _=>0
noncomputable def wg (K:PySem.W.Frag) (d:Addr) (ks:List Nat):Bool:=match K.lookup d with
 | some o=>o.cls == .type "dict"&&o.dict == none&&o.slots.size == 0&&match o.data with | .dict es _=>es.toList.all DO&&es.toList.map uI == ks | _=>false
 | none=>false
set_option tactic.hygienic true in
theorem xR{e:DictEntry}(h:DO e=true):∃ (k:Nat) (u t:Tok),e.key=.int k u/\e.hash=hashInt k/\e.val=.str ⟨#[92,k]⟩ t/\uI e=k:=by
 obtain ⟨hs,key,val⟩:=e
 unfold DO at h
 split at h
 ·rename_i k u t v e1 e2
  subst e1;subst e2
  rw [and_eq_true,and_eq_true] at h
  (apply aC h ?_;try clear h;intro aM h3;apply aC aM ?_;clear aM;intro h1 h2)
  have h1:=of_decide_eq_true h1
  obtain ⟨n,rfl⟩:∃ n:Nat,k=n:=(bJ k.toNat (Int.eq_natCast_toNat.mpr h1))
  apply ⟨n,u,v,rfl,eq_of_beq h2,?_,rfl⟩
  obtain ⟨cs⟩:=t
  have:cs=#[92,n]:=eq_of_beq h3
  rw [this]
 ·exact Bool.noConfusion h
theorem xS{prog:Program}{w:World}:∀ (es:List DictEntry),es.all DO=true->∀ c:Nat,
  (c∈es.map uI->∃ t,(es.find? λe=>(intKind prog w).is (c:Int) e.key).map (·.val)=some (.str ⟨#[92,c]⟩ t))/\(c ∉ es.map uI->(es.find? λe=>(intKind prog w).is (c:Int) e.key).map (·.val)=none)
 | [],_,c=>⟨λh=>by simp at h,λZ=>rfl⟩
 | e::es,h,c=>by
  rw [List.all_cons,and_eq_true] at h
  apply eD (xR h.1) λk u t e1 e2 e3 e4=>?_
  apply aC (xS (prog:=prog) (w:=w) es h.2 c) λi1 i2=>?_
  have hk:(intKind prog w).is (c:Int) e.key=decide (c=k):=by
   rw [e1]
   have:(intKind prog w).is (k:Int) (.int k u)=true:=intKind_is _ _ _ _
   rw [KeyKind.is_eq_decide this]
   by_cases q:c=k
   ·simp [q]
   ·simp only [q,decide_false,decide_eq_false_iff_not];exact Nat.ToInt.of_diseq rfl rfl q
  rw [find?_cons,hk,map_cons,e4]
  by_cases q:c=k
  ·rw [q]
   simp only [decide_true]
   exact ⟨λZ=>⟨t,by simp [e3]⟩,λn=>(n (.head _)).elim⟩
  ·simp only [q,decide_false]
   apply ⟨λm=>i1 ?_,λn=>i2 λm=>n (.tail _ m)⟩
   rcases mem_cons.mp m with z | z
   ·exact (q z).elim
   ·exact z
set_option tactic.hygienic true in
theorem uJ{prog:Program}{w:World}{K:PySem.W.Frag}{d:Addr}{ks:List Nat}{h:Heap}(e:wg K d ks=true)(Y:K.In h) :
  ∃ f,h.MapOf (intKind prog w) d f/\∀ c:Nat,(c∈ks->∃ t,f c=some (.str ⟨#[92,c]⟩ t))/\(c ∉ ks->f c=none):=by
 unfold wg at e
 split at e
 ·rename_i o ho
  rw [and_eq_true,and_eq_true,and_eq_true] at e
  (apply aC e ?_;try clear e;intro bk e4;apply aC bk ?_;clear bk;intro bN e3;apply aC bN ?_;clear bN;intro e1 e2)
  split at e4
  ·rename_i es ep hd
   rw [and_eq_true] at e4
   have hk:es.toList.map uI=ks:=eq_of_beq e4.2
   apply (iDPP (λk=>findBy (intKind prog w).is es k) (⟨o,es,ep,Y _ _ ho,⟨eq_of_beq e1,eq_of_beq e2,eq_empty_of_size_eq_zero (eq_of_beq e3)⟩,hd,λx hx=>?_,λk=>rfl⟩) (λc=>?_))
   ·(apply eD (xR (all_eq_true.mp e4.1 x hx.val)) ?_;intro k u t a1 a2 a3 a4)
    exact (iDPP k (by rw [a1];exact intKind_is _ _ _ _) a2)
   ·have:=xS (prog:=prog) (w:=w) es.toList e4.1 c
    rw [hk] at this
    unfold findBy
    simp only [<- Array.find?_toList]
    exact this
  ·exact Bool.noConfusion e4
 ·exact Bool.noConfusion e
section
open PySem.Builtin.Str
variable {prog:Program}{w:World}{A:Around}{E:Value->Shared->Prop}{s:Shared}{d:Addr}{c:Nat}{f:Int->Option Value}
theorem i5{x:Str}{t:Tok}{Q:Mapped->Shared->Prop}(M:s.heap.MapOf (intKind prog w) d f)(hf:f c=some (.str x t))(h:∀ k,Q (.text x) {s with toks:=k}):wpAny (model prog w) A (tableLookup (.ref d) c) Q E s:=by
 unfold tableLookup
 apply wpAny_bind (wpAny_attempt (wpAny_bind (wpAny_mkInt (wpAny_getItem_of (s:={s with toks:=s.toks+1}) (k:=(c:Int)) (intKind_is _ _ _ _) M hf ?_))))
 dsimp only
 apply wpAny_bind (m:=asInt? (.str x t)) (wpAny_pure ?_)
 dsimp only
 apply wpAny_bind (m:=asStr? (.str x t)) (wpAny_pure ?_)
 exact wpAny_pure (h _)
theorem qW:isSubtype (.type "KeyError") (.type "LookupError")=pure true:=by rw [isSubtype_type];rfl'
theorem hV{Q:Mapped->Shared->Prop}(hh:A.handled=none)(hd:(d == sysModules)=false)(M:s.heap.MapOf (intKind prog w) d f)(hf:f c=none)(h:∀ h' k,(∀ b o,s.heap.get? b=some o->h'.get? b=some o)->Q .keep {s with heap:=h',toks:=k}):wpAny (model prog w) A (tableLookup (.ref d) c) Q E s:=by
 unfold tableLookup
 apply wpAny_bind (wpAny_attempt (wpAny_bind (wpAny_mkInt (wpAny_getItem_missing_of (s:={s with toks:=s.toks+1}) (k:=(c:Int)) (intKind_is _ _ _ _) hd hh M hf λh' e N=>?_))))
 dsimp only
 apply wpAny_bind (wpAny_isInstance (T:="KeyError") ?_ qW ?_)
 ·apply ay N.there λob t e1 e2 Z=>?_
  exact (iDPP ob e1 e2)
 ·rw [if_pos rfl]
  exact wpAny_bind (wpAny_rule (wpAny_pure (h _ _ N.keeps)))
end
noncomputable def ot (ks:List Nat) (c:Nat):Str:=if c∈ks then ⟨#[92,c]⟩ else ⟨#[c]⟩
section
open PySem.Builtin.Str
variable {Ψ:V->Cells->Prop}{d:Addr}{c:Nat}{ks:List Nat}
set_option tactic.hygienic true in
theorem uK(hh:A.handled=none)(hd:(d == sysModules)=false)(hK:wg X.K d ks=true)(hc:c<128)(h:Ψ (.str (ot ks c)) cells):aD X A (.bi "str.translate") [.str ⟨#[c]⟩,.ref d] Ψ cells:=λfv vs own s I ⟨rf,rs⟩=>by
 apply RV.e0 rf rfl ?_
 (apply ay rs.two ?_;intro v1 v2 cI;subst cI;intro r1 r2)
 obtain ⟨_,rfl⟩:=RV.a1 r1;apply RV.e0 r2 rfl ?_
 rename_i t _
 apply aj (uJ (prog:=X.prog) (w:=X.w) hK I.K) λf M hf=>?_
 apply aC (hf c) λh1 h2=>?_
 apply wpAny_call_entry F.slot_str_translate (typeIs_str _ _ _) F.entry_str_translate ?_ (F.args_str_translate_2 _ _)
 unfold Builtin.«str.translate»
 apply wpAny_bind (m:=strOneArg _ _) (wpAny_of_eq (a:=(Value.str ⟨#[c]⟩ t,⟨#[c]⟩,Value.ref d)) rfl ?_)
 dsimp only
 rw [if_neg (show ¬ (((⟨#[c]⟩:Str).length == 0)=true) from Bool.false_ne_true)]
 have Gy:(#[c]:Array Nat).all (λx=>decide (x<128))=true:=by simp [hc]
 rw [Gy]
 rw [<- Array.forIn_toList]
 rw [forIn_cons]
 dsimp only
 rw [if_neg (show ¬ (tooLong 0=true) by decide)]
 rw [if_pos rfl,show List.lookup c ([]:List (Nat×Option Nat))=none from rfl]
 dsimp only
 by_cases hm:c∈ks
 ·apply bw (h1 hm) λu hu=>?_
  apply wpAny_bind (wpAny_bind (wpAny_bind (i5 M hu λk=>?_)))
  apply wpAny_bind (m:=(pure none:Sem (Option (Option Nat)))) (wpAny_pure ?_)
  dsimp only
  apply wpAny_bind (wpAny_rule ?_)
  rw [if_neg (show ¬ ((false:Bool)=true) from Bool.false_ne_true)]
  apply wpAny_bind (i5 (s:={s with toks:=k}) M hu λk2=>?_)
  dsimp only
  apply wpAny_pure ?_
  dsimp only
  rw [forIn_nil]
  apply wpAny_pure ?_
  dsimp only
  rw [if_neg (show ¬ (tooLong (0+(⟨#[92,c]⟩:Str).length)=true) by show ¬ (tooLong 2=true);decide)]
  apply wpAny_bind (m:=mkStr _) (wpAny_mkStr (wpAny_pure (iDPP _ rfl ?_)) ?_)
  ·have e:ot ks c=⟨#[92,c]⟩:=by unfold ot;rw [if_pos hm]
   rw [e] at h
   exact mb_end I rfl (λZ Z e=>e) (.str _ _) h
  ·show (2:Nat)<=sizeLine;decide
 ·apply wpAny_bind (wpAny_bind (wpAny_bind (hV hh hd M (h2 hm) λh' k kp=>?_)))
  apply wpAny_bind (m:=(pure (some (some c)):Sem (Option (Option Nat)))) (wpAny_pure ?_)
  dsimp only
  apply wpAny_pure ?_
  dsimp only
  rw [forIn_nil]
  apply wpAny_pure ?_
  dsimp only
  rw [if_neg (show ¬ (tooLong (0+1)=true) by decide)]
  apply wpAny_bind (m:=mkStr _) (wpAny_mkStr (wpAny_pure (iDPP _ rfl ?_)) ?_)
  ·have e:ot ks c=⟨#[c]⟩:=by unfold ot;rw [if_neg hm]
   rw [e] at h
   exact mb_end I rfl kp (.str _ _) h
  ·show (1:Nat)<=sizeLine;decide
end
section
theorem rN{a b:Expr}{env:Env}:evalEach [a,b] env=[eval a env,eval b env]:=by rfl
theorem Fd{a b:Expr}{pos:Pos}{Ψ:V->Loc->Cells->Prop}(h:mE X A env (eval a env) (λv l c=>oX X A v (λt c'=>if t then Ψ v l c' else mE X A env (eval b env) Ψ l c') c) loc cells):mE X A env (eval (.BoolOp .Or [a,b] pos) env) Ψ loc cells:=λown s I=>by
 rw [arm_eval_BoolOp,rN]
 apply wpAny_bind (h.use I λown1 l1 c1 x v s1 I1 r1 x1 h1=>wpAny_bind (wpAny_standAt (wpAny_bind (wpAny_holding ?_))))
 apply (h1 v).lY I1 r1 λaG c2 t tv s2 I2 r2 x2 h2=>?_
 have:tv=t:=r2
 subst this
 cases tv with
 | true=>exact wpAny_pure ⟨aG,l1,c2,x,I2,r1.ext I1 x2,x1.trans x2,h2⟩
 | false=>exact cL.use h2 I2 λbX l3 c3 y u s3 I3 r3 x3 h3=>⟨bX,l3,c3,y,I3,r3,x1.trans (x2.trans x3),h3⟩
theorem Gz{a b:Expr}{pos:Pos}{Ψ:V->Loc->Cells->Prop}(h:mE X A env (eval a env) (λv l c=>oX X A v (λt c'=>if t then mE X A env (eval b env) Ψ l c' else Ψ v l c') c) loc cells):mE X A env (eval (.BoolOp .And [a,b] pos) env) Ψ loc cells:=λown s I=>by
 rw [arm_eval_BoolOp,rN]
 apply wpAny_bind (h.use I λown1 l1 c1 x v s1 I1 r1 x1 h1=>wpAny_bind (wpAny_standAt (wpAny_bind (wpAny_holding ?_))))
 apply (h1 v).lY I1 r1 λaG c2 t tv s2 I2 r2 x2 h2=>?_
 have:tv=t:=r2
 subst this
 cases tv with
 | false=>exact wpAny_pure ⟨aG,l1,c2,x,I2,r1.ext I1 x2,x1.trans x2,h2⟩
 | true=>exact cL.use h2 I2 λbX l3 c3 y u s3 I3 r3 x3 h3=>⟨bX,l3,c3,y,I3,r3,x1.trans (x2.trans x3),h3⟩
theorem fB(a:Addr)(vs:Array Value)(hz:vs.size<2 ^ 62):Meets (Builtin.«bool.__new__» ⟨[.type "bool",.ref a],[]⟩) (λZ R s=>s.heap.IsList a vs/\R (.ok (.ret (.bool (!vs.isEmpty)))) {s with toks:=s.toks+1+1}) :=
 Meets.of_wp λprog w A R s hs=>by
  obtain ⟨hp,g,d,tk,os⟩:=s
  apply aC hs λhl hs=>?_
  have f1:=F.conv_sub_bool
  repeat (any_goals (first | assumption | (with_reducible apply wpAny_truthy_list hl (by lia) ?_) | wp_step))
  all_goals first | exact (iDPP _ rfl hs) | exact hs | skip
theorem uL{a:Addr}{xs:List V}{Ψ:V->Cells->Prop}(hc:cells a=some (.list xs))(hz:xs.length<=sizeLine)(h:Ψ (.bool (!xs.isEmpty)) cells):aD X A (.ty "bool") [.ref a] Ψ cells:=λfv vs own s I bN=>aC bN λrf r=>by
 apply RV.e0 rf rfl ?_
 (apply aj r.one ?_;intro v aM;rw [aM];intro r1)
 apply RV.e0 r1 rfl ?_
 apply dQ (I.cell a _ hc) λoa vs n ho rs=>?_
 have hs:vs.size=xs.length:=by simpa using rs.1
 apply call_bool_1 (fB a vs (by unfold sizeLine at hz;lia)) ⟨(bh _ ho rfl n rfl),⟨rfl,?_⟩⟩
 have e:(!vs.isEmpty)=!xs.isEmpty:=by
  cases xs with
  | nil=>simp [eq_empty_of_size_eq_zero hs]
  | cons x r =>
   have:vs≠#[]:=by rintro rfl;simp at hs
   simp [this]
 rw [e]
 exact aw I (.bool _) h
end
section
theorem DP{a:Addr}{xs:List V}{lo hi st:Option Int}(hc:cells a=some (.list xs))(h0:st≠some 0)(hz:xs.length<=sizeLine)(h:Ψ (.list (iZ xs lo hi st)) cells):sN X A (.ref a) lo hi st Ψ cells:=λo vl vu vk own s I r p1 p2 p3=>by
 apply RV.e0 r rfl ?_
 apply dQ (I.cell a _ hc) λoa vs n ho rs=>?_
 have hl:(s.heap.push { cls:=.type "slice",data:=.fields #[vl,vu,vk]}).IsList a vs:=(bh _ (get?_push_of_some _ ho) rfl n rfl)
 apply (aH ("list") _ slot_list_getitem.lookup hl.typeIs (wpAny_getItem_list_slice hl (Heap.IsSliceOf.new _ _ _ _) p1 p2 p3 h0 ?_ (by have:=rs.1;simp at this;lia)))
 have kp:∀ b o,s.heap.get? b=some o->(s.heap.push { cls:=.type "slice",data:=.fields #[vl,vu,vk]}).get? b=some o:=λb o e=>get?_push_of_some _ e
 have I2:Base X own cells {s with heap:=s.heap.push { cls:=.type "slice",data:=.fields #[vl,vu,vk]}}:=I.keeps kp
 obtain ⟨own',c',b,B,rr,xx,pp⟩:=kU (Ψ:=Ψ) (t:=s.toks) (vs:=slicePick vs lo hi st) (xs:=iZ xs lo hi st) I2 ((uk rs).mono λZ Z q=>q.keeps kp) h
 exact ⟨own',c',b,B,rr,Ext.trans (.of_keeps kp) xx,pp⟩
end
section
open PySem.Builtin.Str
variable {Ψ:V->Cells->Prop}
theorem pP{x y z:Str}(ho:(occurrences x y 0 x.length (x.length+1)).isEmpty=true)(h:Ψ (.str x) cells):aD X A (.bi "str.replace") [.str x,.str y,.str z] Ψ cells:=λfv vs own s I ⟨rf,rs⟩=>by
 apply RV.e0 rf rfl ?_
 (apply ay rs.cW ?_;intro v1 je aM;rw [aM];intro r1 rs)
 (apply ay rs.two ?_;intro v2 v3 bk;rw [bk];intro r2 r3)
 apply RV.e1 r1 rfl λZ=>?_;apply RV.e1 r2 rfl λZ=>?_;apply RV.e1 r3 rfl λZ=>?_
 apply call_gives F.slot_str_replace (typeIs_str _ _ _) F.entry_str_replace (F.args_str_replace_3 _ _ _) (gives_str_replace _ _ _ _ _ _ (by rw [ho];intro q;exact Bool.noConfusion q)) ?_
 rw [ho,Bool.true_or,if_pos rfl]
 exact aw (t:=s.toks) I (.str _ _) h
theorem mG{x:Str}(h:Ψ (.bool true) cells):aD X A (.bi "isinstance") [.str x,.ty "str"] Ψ cells:=λfv vs own s I ⟨rf,rs⟩=>by
 apply RV.e0 rf rfl ?_
 (apply ay rs.two ?_;intro v1 v2 eC;rw [eC];intro r1 r2)
 apply RV.e1 r1 rfl λZ=>?_;apply RV.e0 r2 rfl ?_
 apply call_isinstance_yes (typeIs_str _ _ _) rfl (by rw [isSubtype_type];rfl') ?_
 exact aw (t:=s.toks) I (.bool _) h
theorem DQ{a b:Str}{k1 k2:Nat}{p1 p2 p3 pos:Pos}{e:Expr}{Ψ:V->Loc->Cells->Prop}(h:mE X A env (eval e env) (λv l c=>∃ x,v=.str x/\a.length+x.length+b.length<=1000000/\Ψ (.str (a++x++b)) l c) loc cells)(hn:autoParam (a.length<=1000) aDK):mE X A env (eval (.JoinedStr [.Constant (.str a) k1 p1,.FormattedValue e (-1) none p2,.Constant (.str b) k2 p3] pos) env) Ψ loc cells:=λown s I=>by
 have lz:∀ {n:Nat},n<=1000000->n<=sizeLine:=λh=>le_trans h (by decide)
 have e0:∀ y:Str,empty++y=y:=λy=>by obtain ⟨c⟩:=y;show (⟨#[]++c⟩:Str)=_;rw [Array.empty_append]
 apply wpAny_JoinedStr (Joins_cons (wpAny_Constant_str (aH _ _ rfl ?_ (Joins_cons (wpAny_FormattedValue_plain ((h.mono λv l c q=>q).use I.toks λown1 l1 c1 v v1 s1 I1 r1 x1 kP=>bM kP λx ev hz hΨ=>?_))))))
 ·rw [e0];exact le_trans hn (by decide)
 ·subst ev
  apply RV.e1 r1 rfl λZ=>?_
  have len:∀ p q:Str,(p++q).length=p.length+q.length:=λp q=>strLen_append p q
  have fin:∀ (t:Tok) (s2:Shared),(∃ k,s2={ s1 with toks:=k})->∃ y t',Value.str x t=.str y t'/\(empty++a++y).length<=sizeLine/\Joins (model X.prog X.w) A gy (evalEach [.Constant (.str b) k2 p3] env) (empty++a++y) (λout s₁=>out.length<=sizeLine/\jh X env RV own cells s.heap Ψ (.str out s₁.toks) { s₁ with toks:=s₁.toks+1}) s2:=by
   (intro t s2 rA;apply bw rA ?_;clear rA;intro k jU;rw [jU])
   apply (aH x t rfl ?_ (Joins_cons (wpAny_Constant_str (aH _ _ rfl ?_ (Joins_nil ⟨?_,?_⟩)))))
   ·rw [e0,len];exact lz (Nat.le_of_add_right_le hz)
   ·rw [e0,len,len];exact lz (by omega)
   ·rw [e0,len,len];exact lz (by omega)
   ·rw [e0]
    exact ⟨own1,l1,c1,.str _,I1.toks,.str _ _,x1,hΨ⟩
  apply wpAny_formatField_str (fin _ _ (bJ s1.toks rfl)) (fin _ _ (bJ _ rfl)) (lz (by lia))
end
namespace L1
noncomputable abbrev Test:=Option (Bool×Str)
noncomputable def gF:Test->V
 | none=>.none
 | some t=>.tuple [.bool t.1,.str t.2]
noncomputable def bH (ts:List Test):List V:=ts.map gF
theorem y7{ts:List Test}{i:Nat}{v:V}(h:(bH ts)[i]?=some v):∃ m,ts[i]?=some m/\v=gF m:=by
 unfold bH at h
 rw [getElem?_map,map_eq_some_iff] at h
 exact aj h λm h1 h2=>iDPP m h1 h2.symm
noncomputable def Nz (ps:List Nat):List V:=ps.map λ(p:Nat)=>V.int p
theorem GA{ps:List Nat}{i:Nat}{v:V}(h:(Nz ps)[i]?=some v):∃ m,ps[i]?=some m/\v=.int m:=by
 unfold Nz at h
 rw [getElem?_map,map_eq_some_iff] at h
 exact aj h λm h1 h2=>iDPP m h1 h2.symm
theorem mH(ps:List Nat):(Nz ps).length=ps.length:=by simp [Nz]
theorem Ik(ps:List Nat):Nz ps=Iz (ps.map λ(p:Nat)=>(p:Int)):=by simp [Nz,Iz]
noncomputable def iK (name:Str) (t:Bool×Str) (p:Nat):Bool:=decide (p<name.length)&&!(Txt.contains t.2 (cm name p) == t.1)
noncomputable def aS (name:Str) (ps:List Nat):Test->List Nat
 | none=>match ps with
  | []=>[]
  | p::_=>(List.range (name.length+1 - p)).map (p+·)
 | some q=>(ps.filter (iK name q)).map (·+1)
noncomputable def cA (ts:List Test) (name:Str):Bool:=(ts.foldl (aS name) [0]).any (· == name.length)
theorem tj(name:Str)(ps:List Nat)(q:Bool×Str):V.list (Nz (aS name ps (some q)))=.list (((Nz ps).filter λv=>match v with | .int p=>iK name q p.toNat | _=>false).map λv=>match v with | .int p=>.int (p+1) | _=>.none):=by
 unfold aS Nz
 rw [List.filter_map]
 simp [Function.comp_def]
theorem uM{name:Str}{ps:List Nat}{pc:Test}(h:∀ p∈ps,p<=name.length):∀ p∈aS name ps pc,p<=name.length:=by
 cases pc with
 | none =>
  cases ps with
  | nil=>intro p hp;cases hp
  | cons a r =>
   intro p hp
   simp only [aS,mem_map,mem_range] at hp
   (apply aj hp ?_;try clear hp;intro j hj aM;rw [<- aM])
   exact ze hj
 | some q =>
  intro p hp
  simp only [aS,mem_map,mem_filter] at hp
  (apply aj hp ?_;try clear hp;intro j bk bN;rw [<- bN];apply aC bk ?_;clear bk;intro hj hq)
  unfold iK at hq
  have:=(and_eq_true_iff.mp hq).1
  simp at this;exact succ_le_of_lt this
theorem tm{name:Str}{ps:List Nat}{pc:Test}(h:ps.length<=2000)(hn:name.length<=1000):(aS name ps pc).length<=2000:=by
 cases pc with
 | none =>
  cases ps with
  | nil=>simp [aS]
  | cons a r=>simp [aS];lia
 | some q =>
  simp only [aS,length_map]
  exact le_trans (length_filter_le _ _) h
theorem y8{ts:List Test}{name:Str}(hn:name.length<=1000)(j:Nat):(∀ p∈(ts.take j).foldl (aS name) [0],p<=name.length)/\((ts.take j).foldl (aS name) [0]).length<=2000:=by
 induction j with
 | zero=>exact ⟨λp hp=>by simp at hp;lia,by simp⟩
 | succ j ih =>
  by_cases hj:j<ts.length
  ·rw [take_add_one,foldl_append,getElem?_eq_getElem hj]
   exact ⟨uM ih.1,tm ih.2 hn⟩
  ·rw [take_of_length_le (Nat.le_of_not_ge hj)];rw [take_of_length_le (le_of_not_lt hj)] at ih;exact ih
theorem tn(ts:List Test)(name:Str):cA ts name=((ts.foldl (aS name) [0]).map λ(p:Nat)=>(p:Int)).any (· == (name.length:Int)):=by
 unfold cA
 rw [any_map]
 congr 1
 funext x
 rw [Bool.eq_iff_iff];simp;exact Iff.symm Int.ofNat_inj
theorem pQ{X:Cx}{A:Around}{k:Nat}{cells:Cells}{ts:List Test}{name:Str}{Ψ:V->Cells->Prop}(G:G1 X)(hA:Rm X A (k+2))(h:Ψ (.bool (cA ts name)) cells)(hn:name.length<=1000):aD X A (.ref 225) [.list (bH ts),.str name] Ψ cells:=by
 apply dm (names:=["tests","name"]) G.takes hA (λZ Z Z Z Z=>l2 λZ Z=>rfl) λL cdv A' bp=>?_
 apply aa (ao (.inl rfl) (mu (af (m_int (a_nil ⟨ag (by decide),?_⟩)))))
 try dsimp only
 apply aa (dC (bind:=λv l=>("test",v)::l) (dk (m_var rfl (iDPP _ (dI bp.hh) ?_))))
 apply (dS (λi=>[("places",.list (Nz ((ts.take i).foldl (aS name) [0]))),("tests",.list (bH ts)),("name",.str name)]) (λi c=>c=cells) (⟨Sub.rfl,rfl⟩) (λv hv=>dW (.inr rfl)) (λv hv l l' hs=>Sub.cons hs) (λi v c hv hc=>?_) (λl c hl hc=>?_))
 ·rw [hc]
  (apply aj (y7 hv) ?_;intro pc N6 dH;rw [dH])
  have e1:(ts.take (i+1)).foldl (aS name) [0]=aS name ((ts.take i).foldl (aS name) [0]) pc:=by
   rw [take_add_one,foldl_append,N6];rfl
  apply aC (y8 (ts:=ts) hn i) λIl vE=>?_
  try dsimp only
  rw [e1]
  generalize (ts.take i).foldl (aS name) [0]=ps at Il vE ⊢
  cases pc with
  | none =>
   apply aa (bt (aE (m_var rfl (cx (g7 (ar ?_))))))
   rw [if_pos rfl]
   apply aa (ao (.inl rfl) (xB (v:=.list (Nz (aS name ps none))) (jK (dU (m_var rfl (mq (by rw [mH];exact ag (zl (by assumption) rfl)) ?_)))) ?_))
   ·cases ps with
    | nil=>exact m_var rfl ⟨rfl,rfl,rfl⟩
    | cons p r =>
     have PL:p<=name.length:=Il p mem_cons_self
     apply az rfl G.list trivial (af (az rfl G.range trivial (af (m_item (m_var rfl (m_int (dN (j:=0) (x:=.int p) rfl (by rw [mH];exact zl (by assumption) rfl) (af (aY (az rfl G.len trivial (af (m_var rfl (a_nil (g8 (ag (zl (by assumption) rfl)) (m_int (dX (a_nil (pk (a_nil ?_)))))))))))))))))))
     have e:rangeSize (p:Int) ((name.length:Int)+1) 1=((name.length+1 - p:Nat):Int):=by rw [rangeSize_one];split <;> lia
     apply vT (n:=name.length+1 - p) bp.hh (by unfold Builtin.Range.small;rw [e];simp [rangeFitsLong];omega) e (zq hn rfl) ⟨?_,rfl,rfl⟩
     unfold aQ aS Nz
     simp
   ·exact au (au ⟨Sub.put rfl (Sub.put rfl (Sub.put rfl Sub.nil)),rfl⟩)
  | some q =>
   apply aa (bt (aE (m_var rfl (cx (dJ trivial (ar ?_))))))
   rw [if_neg (by decide)]
   apply aa (fb ⟨by rfl,by decide +kernel,by rfl'⟩ (n8.name ⟨by rfl,by decide +kernel,by rfl'⟩ rfl (.inl (by decide +kernel))) rfl bp.hh rfl ?_)
   apply dk (m_var rfl (aV _ (dI bp.hh) (λZ Z=>trivial) ?_))
   apply bD (λv=>match v with | .int p=>iK name q p.toNat | _=>false) (λv=>match v with | .int p=>.int (p+1) | _=>.none) (by rw [mH];exact ag (zl (by assumption) rfl)) (lc:=[("test",gF (some q)),("name",.str name)]) rfl (λL' cs j v hj=>?_) ?_
   ·(apply aj (GA hj) ?_;intro p Mz eC;rw [eC])
    apply kj (dA (cX (aE (m_var rfl (az rfl G.len trivial (af (m_var rfl (a_nil (g8 (ag (zl (by assumption) rfl)) (ph (ar ?_)))))))))))
    by_cases i4:p<name.length
    ·rw [if_pos (by simpa using i4)]
     apply jm (aE (gz (m_item (m_var rfl (m_var rfl (dh i4 (zl (by assumption) rfl) (m_item (m_var rfl (m_int (iy (j:=1) (by decide) (by decide) rfl rfl (EU (m_item (m_var rfl (m_int (iy (j:=0) (by decide) (by decide) rfl rfl (EX (ar ?_)))))))))))))))))
     apply (aX rfl rfl ?_ (λZ=>aY (m_var rfl (m_int (dX ⟨rfl,rfl,rfl⟩)))))
     simp [iK,i4]
    ·rw [if_neg (by simpa using i4)]
     apply (aX rfl rfl ?_ (λZ=>aY (m_var rfl (m_int (dX ⟨rfl,rfl,rfl⟩)))))
     simp [iK,i4]
   ·rw [<- tj]
    exact au (au ⟨Sub.put rfl (Sub.put rfl (Sub.put rfl Sub.nil)),rfl⟩)
 ·rw [hc]
  apply aa (aL (gz (az rfl G.len trivial (af (m_var (mv:=.str name) (hl _ _ rfl) (a_nil (g8 (ag (zl (by assumption) rfl)) (m_var (mv:=.list (Nz (ts.foldl (aS name) [0]))) (hl _ _ ?_) ?_))))))))
  ·dsimp only
   rw [show (bH ts).length=ts.length by simp [bH],take_length]
   rfl'
  ·rw [Ik]
   apply rG ?_
   show Ψ _ _
   rw [<- tn];exact h
end L1
section
variable {c:Cells}{own:Own}{s:Shared}{Ψ:V->Cells->Prop}
end
section
variable {prog:Program}{w:World}{A:Around}{E:Value->Shared->Prop}{s:Shared}
theorem y9{l:Addr}{o:Obj}{vs:List Value}{n:Nat}{R:Result->Shared->Prop}(ho:s.heap.get? l=some o)(hc:o.cls=.type "tuple")(hd:o.data=.seq vs.toArray n)(ml:vs.length<=sizeLine)(hR:R (.ok (.ret (.ref s.heap.objs.size))) {s with heap:=(s.heap.push (seqObj "list" #[] 0)).update s.heap.objs.size (mapSeq (·++vs.toArray))}) :
  codeAny (model prog w) A (.builtin "list.__iadd__" ⟨[.ref s.heap.objs.size,.ref l],[]⟩) R {s with heap:=s.heap.push (seqObj "list" #[] 0)}:=by
 apply codeAny_builtin entry_list_iadd' ?_
 rw [under_plainId (show plainId "list.__iadd__"=true by decide +kernel)]
 exact wpAny_extend_seq (A:=A) (R:=R) (s:={s with heap:=s.heap.push (seqObj "list" #[] 0)}) s.heap.objs.size l _ 0 (.inr rfl) (get?_push_size _ rfl) (get?_push_of_some _ ho) hc hd hR (W.kdl_size ml)
theorem uN{l:Addr}{o:Obj}{vs:List Value}{n:Nat}{Q:List Value->Shared->Prop}(ho:s.heap.get? l=some o)(hc:o.cls=.type "tuple")(hd:o.data=.seq vs.toArray n)(h:Q vs {s with heap:=(s.heap.push (seqObj "list" #[] 0)).update s.heap.objs.size (mapSeq (·++vs.toArray))})(ml:vs.length<=sizeLine):wpAny (model prog w) A (collect (.ref l)) Q E s:=by
 unfold collect
 apply wpAny_bind (wpAny_runValue (codeAny_builtin entry_proto_collect' ?_))
 show wpAny _ _ (do again (.builtin "list.__iadd__" ⟨[<- newList [],.ref l],[]⟩)) _ _ s
 apply wpAny_bind (wpAny_newList (wpAny_pure ⟨Code.quiet_builtin _ (by decide +kernel),y9 ho hc hd ml ?_⟩))
 show wpAny (model prog w) A (do
   let o <- load s.heap.objs.size
   match o.data with
   | .seq xs _=>pure xs.toList
   | _=>unsupported "internal:collect") Q E {s with heap:=(s.heap.push (seqObj "list" #[] 0)).update s.heap.objs.size (mapSeq (·++vs.toArray))}
 apply wpAny_bind (wpAny_load (get?_update_seq (get?_push_size _ rfl) _) ?_)
 show wpAny _ _ (pure ((#[]:Array Value)++vs.toArray).toList) Q E _
 rw [show ((#[]:Array Value)++vs.toArray).toList=vs by simp]
 exact wpAny_pure h
theorem wh{l:Addr}{o:Obj}{vs:List Value}{ns:List Int}{n:Nat}{Q:Value->Shared->Prop}(ho:s.heap.get? l=some o)(hc:o.cls=.type "tuple")(hd:o.data=.seq vs.toArray n)(hI:IntsAre vs ns)(N7:vs.length<64)(h:∀ (out:Array Value) (GB:List Int),IntsAre out.toList GB->GB.Perm ns->GB.Pairwise (·<=·)->Q (.ref (s.heap.objs.size+1)) {s with heap:=sortedAll s.heap vs out}) :
  wpAny (model prog w) A (call (.builtin "sorted") [.ref l]) Q E s:=by
 apply Calls.call_function_entry kind_sorted plain_sorted entry_sorted (args_sorted1 _) ?_
 unfold Builtin.«sorted»
 apply wpAny_bind (m:=checkCount "sorted" 1 1 _) (wpAny_pure ?_)
 apply wpAny_bind (uN ho hc hd ?_ (by unfold sizeLine;lia))
 apply wpAny_bind (wpAny_newList ?_ (by unfold sizeLine;lia))
 have ml:((s.heap.push (seqObj "list" #[] 0)).update s.heap.objs.size (mapSeq (·++vs.toArray))).objs.size=s.heap.objs.size+1:=by
  rw [Heap.size_update];exact size_push ..
 have Im:(((s.heap.push (seqObj "list" #[] 0)).update s.heap.objs.size (mapSeq (·++vs.toArray))).push (seqObj "list" vs.toArray 0)).get? (s.heap.objs.size+1)=some (seqObj "list" vs.toArray 0):=by
  rw [<- ml];exact get?_push_size _ rfl
 show wpAny _ _ _ _ _ {s with heap:=((s.heap.push (seqObj "list" #[] 0)).update s.heap.objs.size (mapSeq (·++vs.toArray))).push (seqObj "list" vs.toArray 0)}
 rw [ml]
 apply wpAny_bind (wpAny_holding (wpAny_call_entry slot_list_sort (iDPP _ Im rfl) entry_list_sort (list_sort_tree Im hI N7 λout GB a1 a2 a3=>(iDPP _ rfl ?_)) (args_list_sort _)))
 exact wpAny_pure (iDPP _ rfl (h out GB a1 a2 a3))
theorem ou{h:Heap}{vs:List Value}{out:Array Value}:(∀ b o,h.get? b=some o->(sortedAll h vs out).get? b=some o)/\∃ n,(sortedAll h vs out).get? (h.objs.size+1)=some (seqObj "list" out n):=by
 have z0:h.get? h.objs.size=none:=ak h
 have z1:h.get? (h.objs.size+1)=none:=fJ (le_add_right h.objs.size 1)
 have N8:((h.push (seqObj "list" #[] 0)).update h.objs.size (mapSeq (·++vs.toArray))).objs.size=h.objs.size+1:=by rw [Heap.size_update];exact size_push ..
 have kp:∀ b o,h.get? b=some o->(((h.push (seqObj "list" #[] 0)).update h.objs.size (mapSeq (·++vs.toArray))).push (seqObj "list" vs.toArray 0)).get? b=some o:=λb o e =>
  get?_push_of_some _ ((get?_update_other _ _ (λz=>by rw [<- z,z0] at e;exact bf e)).trans (get?_push_of_some _ e))
 have Im:(((h.push (seqObj "list" #[] 0)).update h.objs.size (mapSeq (·++vs.toArray))).push (seqObj "list" vs.toArray 0)).get? (h.objs.size+1)=some (seqObj "list" vs.toArray 0):=by
  rw [<- N8];exact get?_push_size _ rfl
 unfold sortedAll
 generalize ((h.push (seqObj "list" #[] 0)).update h.objs.size (mapSeq (·++vs.toArray))).push (seqObj "list" vs.toArray 0)=g at kp Im
 unfold sortedHeap
 have e1:=get?_update_seq Im (λZ=>#[])
 have k2:∀ b o,(g.update (h.objs.size+1) (mapSeq λZ=>#[])).get? b=some o->(((g.update (h.objs.size+1) (mapSeq λZ=>#[])).push (seqObj "tuple" vs.toArray 0)).push (seqObj "list" #[] 0)).get? b=some o:=λb o e=>get?_push_of_some _ (get?_push_of_some _ e)
 apply ⟨λb o e=>?_,(bJ _ (get?_update_seq (k2 _ _ e1) (λZ=>out)))⟩
 have hb:h.objs.size+1≠b:=λz=>by rw [<- z,z1] at e;exact bf e
 exact (get?_update_other _ _ hb).trans (k2 _ _ ((get?_update_other _ _ hb).trans (kp b o e)))
end
section
variable {Ψ:V->Cells->Prop}
theorem pR{ns:List Int}(hz:ns.length<64)(h:Ψ (.list (Iz (sortI ns))) cells):aD X A (.bi "sorted") [.tuple (Iz ns)] Ψ cells:=λfv vs own s I bN=>aC bN λrf r=>by
 apply RV.e0 rf rfl ?_
 (apply aj r.one ?_;intro v aM;rw [aM];intro r1)
 (apply aA r1.gC ?_;intro a d vs n sl bk;rw [bk];intro ho hn rs)
 have hi:=fW rs
 have hl:vs.toList.length=ns.length:=by rw [rs.1,Iz,length_map]
 apply wh (vs:=vs.toList) ho rfl (n:=n) (by simp) hi (lt_of_eq_of_lt hl hz) λout GB a1 a2 a3=>?_
 have e:GB=sortI ns:=eq_sortI a2 a3
 subst e
 apply Dc (ou (h:=s.heap) (vs:=vs.toList) (out:=out)) λk1 m k2=>?_
 apply mb_end I (t:=s.toks) rfl k1 (RV.mj (d:=none) (sl:=#[]) k2 ?_ (um a1)) h
 exact (I.fresh (fJ (le_add_right s.heap.objs.size 1))).1
end
noncomputable def fc (ss:List Str):List V:=ss.map V.str
theorem pS{own:Own}{h:Heap}:∀ {ss:List Str} {vs:List Value},bV own h vs (fc ss)->StrsAre vs ss
 | [],vs,r=>by rw [r.rh];exact .nil
 | x::ss,vs,r=>by
  (apply ay (bV.cW (xs:=fc ss) r) ?_;intro v je aM;rw [aM];intro a b)
  cases a
  exact .cons _ _ (pS b)
theorem Bo{own:Own}{h:Heap}{vs:List Value}{ss:List Str}(hi:StrsAre vs ss):bV own h vs (fc ss):=by
 induction hi with
 | nil=>exact .nil
 | cons x t _ ih=>exact .cons (.str _ _) ih
theorem lE:∀ (k:Nat) (ss:List Str),StrsAre (strsFrom k ss) ss
 | _,[]=>.nil
 | k,x::r=>.cons x k (lE (k+1) r)
section
open PySem.Builtin.Str
variable {Ψ:V->Cells->Prop}
theorem Bp{x:Str}{ss:List Str}(hz:(ss.map (·.length)).sum+ss.length * x.length<=16777216)(h:Ψ (.str (join x ss)) cells):aD X A (.bi "str.join") [.str x,.list (fc ss)] Ψ cells:=λfv vs own s I ⟨rf,r⟩=>by
 apply RV.e0 rf rfl ?_
 (apply ay r.two ?_;intro v u bk;rw [bk];intro r1 r2)
 apply RV.e1 r1 rfl λZ=>?_
 (apply aA r2.cN ?_;intro a d vs n sl cI;rw [cI];intro ho hn rs)
 exact join_list (bh _ ho rfl n rfl) (pS rs) hz λt' k=>aw (t:=k) I (.str _ _) h
theorem DR{x y:Str}{ps:List Str}(h1:(decide (x.length<y.length)||decide (strKind x<strKind y))=false)(hy:(y.length == 0)=false)(hf:(occurrences x y 0 x.length (x.length+1)).isEmpty=false)(hx:x.length<=sizeLine)(Il:partsBetween x (occurrences x y 0 x.length (x.length+1)) y.length=ps)(hn:ps.length<=sizeLine)(h:Ψ (.list (fc ps)) cells):aD X A (.bi "str.split") [.str x,.str y] Ψ cells:=λfv vs own s I ⟨rf,r⟩=>by
 apply RV.e0 rf rfl ?_
 (apply ay r.two ?_;intro v u dH;rw [dH];intro r1 r2)
 apply RV.e1 r1 rfl λZ=>?_;apply RV.e1 r2 rfl λZ=>?_
 apply call_meets F.slot_str_split (typeIs_str _ _ _) F.entry_str_split (F.args_str_split_2 _ _) (meets_str_split_sep x y _ _ h1 hy hf hx (by rw [Il];exact hn)) ?_
 rw [Il]
 have k:∀ b o,s.heap.get? b=some o->(s.heap.push { cls:=.type "list",data:=.seq (strsFrom s.toks ps).toArray}).get? b=some o:=λb o e=>get?_push_of_some _ e
 exact mb_end I rfl k (RV.mj (d:=none) (sl:=#[]) (get?_push_size _ rfl) (I.fresh (ak _)).1 (by simpa using Bo (lE _ _))) h
end
section
variable {Ψ:V->Cells->Prop}
theorem tq{a b:Str}(hz:a.length+b.length<=sizeLine)(h:Ψ (.str (a++b)) cells):cR X A (inplaceOp .Add) (.str a) (.str b) Ψ cells:=λv u own s I zq=>aC zq λr1 r2=>by
 apply RV.e1 r1 rfl λZ=>?_;apply RV.e1 r2 rfl λZ=>?_;exact SB.iadd (λt k=>aw I (.str _ _) h) hz
theorem tu{x:Int}{ns:List Int}(h:Ψ (.bool (!ns.any (· == x))) cells):cR X A (compareOp .NotIn) (.int x) (.list (Iz ns)) Ψ cells:=λv u own s I zq=>aC zq λr1 r2=>by
 apply RV.e1 r1 rfl λZ=>?_
 (apply aA r2.cN ?_;intro a d vs n sl bk;rw [bk];intro ho hn rs)
 have hi:=fW rs
 apply PyProof.Rows.notin_list_ints (vs:=vs.toList) (bh _ ho rfl n rfl) hi ?_
 exact aw (t:=s.toks) I (.bool _) h
theorem pT{op:BoolOp}{vs:List Expr}{pos:Pos}{Ψ:V->Loc->Cells->Prop}(h:mE X A env (boolOp pos op (evalEach vs env)) Ψ loc cells):mE X A env (eval (.BoolOp op vs pos) env) Ψ loc cells:=λown s I=>by
 rw [arm_eval_BoolOp]
 exact h own s I
theorem Bq{op:BoolOp}{e:Expr}{pos:Pos}{Ψ:V->Loc->Cells->Prop}(h:mE X A env (eval e env) Ψ loc cells):mE X A env (boolOp pos op (evalEach [e] env)) Ψ loc cells:=h
theorem jy{e e2:Expr}{rest:List Expr}{pos:Pos}{Ψ:V->Loc->Cells->Prop}(h:mE X A env (eval e env) (λv l c=>oX X A v (λt c'=>if t then mE X A env (boolOp pos .And (evalEach (e2::rest) env)) Ψ l c' else Ψ v l c') c) loc cells):mE X A env (boolOp pos .And (evalEach (e::e2::rest) env)) Ψ loc cells:=λown s I=>by
 show wpAny _ _ (boolOp pos .And (eval e env::evalEach (e2::rest) env)) _ _ _
 apply wpAny_bind (h.use I λown1 l1 c1 x v s1 I1 r1 x1 h1=>wpAny_bind (wpAny_standAt (wpAny_bind (wpAny_holding ?_))))
 apply (h1 v).lY I1 r1 λaG c2 t tv s2 I2 r2 x2 h2=>?_
 have:tv=t:=r2
 subst this
 cases tv with
 | false=>exact wpAny_pure ⟨aG,l1,c2,x,I2,r1.ext I1 x2,x1.trans x2,h2⟩
 | true=>exact cL.use h2 I2 λbX l3 c3 y u s3 I3 r3 x3 h3=>⟨bX,l3,c3,y,I3,r3,x1.trans (x2.trans x3),h3⟩
theorem DS{a:Str}{b:Int}(h:Ψ (.bool false) cells):cR X A (compareOp .Eq) (.str a) (.int b) Ψ cells:=λv u own s I zq=>aC zq λr1 r2=>by
 apply RV.e1 r1 rfl λZ=>?_;apply RV.e1 r2 rfl λZ=>?_;exact PySem.EqMixed.eq_str_int (aw (t:=s.toks) I (.bool _) h)
end
section
theorem za{a:Addr}{es:List (Int×V)}(hh:A.handled=none)(hc:cells a=some (.bF es))(hn:es.length<=sizeLine)(h:Ψ (.list (es.map λkv=>.int kv.1)) cells):aD X A (.ty "list") [.ref a] Ψ cells:=λfv vs own s I zq=>aC zq λrf r=>by
 apply RV.e0 rf rfl ?_
 (apply aj r.one ?_;intro v aM;rw [aM];intro r1)
 apply RV.e0 r1 rfl ?_
 apply dx (I.cell a _ hc) λoa bI hd e rs=>?_
 apply bw hd.dictAt λep oE=>?_
 have hl:bI.length=es.length:=by have:=congrArg List.length e;simpa using this
 apply PySem.W.kdl_call (PySem.W.kdl_dict (gD I hc)) hh oE (by rw [hl];exact hn) λh' tk acc c' kp ho it=>?_
 apply mb_end (b:=.list (es.map λkv=>.int kv.1)) I rfl kp ?_ h
 apply .list ho (I.fresh (ak _)).1 ?_ ?_
 ·rw [it.1,hl];simp
 ·intro i v x p q
  apply bW (it.2 i v p) λk y hk hi=>?_
  (apply bw (isInt_shape hi) ?_;intro t aM;rw [aM])
  have e1:(bI.map (·.1))[i]?=some k:=by rw [getElem?_map,hk];rfl
  rw [e,getElem?_map,map_eq_some_iff] at e1
  (apply aj e1 ?_;try clear e1;intro kv h1 bk;rw [<- bk])
  rw [getElem?_map,h1] at q
  cases q
  exact .int _ _
theorem Base.zb{c':Cell}{h':Heap}{t:Nat}(I:Base X own cells s)(kp:∀ b o,s.heap.get? b=some o->h'.get? b=some o)(hth:∃ o,h'.get? s.heap.objs.size=some o)(hc:b9 X.prog X.w (Mp.cM own s.heap.objs.size) h' s.heap.objs.size c') :
  Base X (Mp.cM own s.heap.objs.size) (upd cells s.heap.objs.size (some c')) {s with heap:=h',toks:=t}/\Ext qH own cells s.heap (Mp.cM own s.heap.objs.size) (upd cells s.heap.objs.size (some c')) h'/\cells s.heap.objs.size=none:=by
 have e0:=ak s.heap
 have nn:∀ b o,s.heap.get? b=some o->Mp.cM own s.heap.objs.size b=own b:=λb o e=>by unfold Mp.cM;rw [if_neg (λz=>by rw [z,e0] at e;exact bf e)]
 have k:∀ b o,own b≠some s.heap.objs.size->s.heap.get? b=some o->h'.get? b=some o:=λb o Z e=>kp b o e
 have th:∀ b o,s.heap.get? b=some o->∃ o',h'.get? b=some o':=λb o e=>bJ o (kp b o e)
 apply ⟨I.cellSet nn (λb d e n=>?_) k th (by simp [Mp.cM]) hc,cS nn k th (.inr e0),?_⟩
 ·unfold Mp.cM at e
  split at e
  ·rename_i q;exact ⟨(I.fresh (q▸e0)).2,q▸hth⟩
  ·exact (n e).elim
 ·cases q:cells s.heap.objs.size with
  | none=>rfl
  | some c=>have:=(I.cell _ c q).1;rw [(I.fresh e0).1] at this;exact bf this
noncomputable def iM (ns:List Int):Nat:=(firstMet (λi=>ns.getD i 0) ns.length).length
theorem wj{ns:List Int}(hh:A.handled=none)(hn:ns.length<=1000)(h:∀ a,cells a=none->∀ S,Ψ (.ref a) (upd cells a (some (.set S (iM ns))))):aD X A (.ty "set") [.list (Iz ns)] Ψ cells:=λfv vs own s I zq=>aC zq λrf r=>by
 apply RV.e0 rf rfl ?_
 (apply aj r.one ?_;intro v aM;rw [aM];intro r1)
 (apply aA r1.cN ?_;intro a d vs n sl AL;rw [AL];intro ho KO rs)
 have hi:=fW rs
 have hz:vs.size=ns.length:=by have:=hi.length;simpa using this
 apply call_set_list hh (bh _ ho rfl n rfl) hi (by rw [hz];have:scanBound=4096:=rfl;lia) λh' tk hS kp=>?_
 rw [hz] at hS
 have H2:∀ b o,s.heap.get? b=some o->h'.get? b=some o:=λb o e=>kp b o (lt_size e) e
 have hth:∃ o,h'.get? s.heap.objs.size=some o:=by obtain ⟨o,_,_,_,e,_⟩:=hS;exact (bJ o e)
 (apply bq (I.zb (t:=tk) (c':=.set _ (iM ns)) H2 hth hS) ?_;intro B x n)
 exact ⟨_,_,.ref _,B,.ref _,x,h _ n _⟩
theorem zh{a:Addr}{S:Int->Bool}{n:Nat}(hc:cells a=some (.set S n))(h:Ψ (.int n) cells):aD X A (.bi "len") [.ref a] Ψ cells:=λfv vs own s I kP=>aC kP λrf r=>by
 apply RV.e0 rf rfl ?_
 (apply aj r.one ?_;intro v fR;rw [fR];intro r1)
 apply RV.e0 r1 rfl ?_
 apply aC (I.cell a _ hc) λoa hS=>?_
 obtain ⟨o,es,ep,t,ho,hex,hd,-,-,hb,hf,hz⟩:=hS
 apply call_len_set ho hex hd hf (by have:scanBound=4096:=rfl;lia) ?_
 rw [hz]
 exact aw I (.int _ _) h
theorem lF{k:Int}{f:Int->V}:∀ {ns:List Int},eQ (ns.map λk=>(k,f k)) k=if k∈ns then some (f k) else none
 | []=>rfl
 | n::r=>by
  have ih:=lF (k:=k) (f:=f) (ns:=r)
  unfold eQ at ih ⊢
  rw [map_cons,find?_cons]
  by_cases h:n=k
  ·rw [h];simp
  ·simp only [h,decide_false]
   rw [ih]
   have:(k∈n::r)↔k∈r:=by rw [mem_cons];exact ⟨λq=>q.resolve_left λz=>h z.symm,.inr⟩
   simp only [this]
theorem DT{a b:Addr}{ks:List Int}{f g:Int->List Int}(Dj:cells a=some (.bF (ks.map λk=>(k,.list (Iz (f k))))))(MA:cells b=some (.bF (ks.map λk=>(k,.list (Iz (g k))))))(hu:A.units+10<cLine)(h:Ψ (.bool (ks.all λk=>f k == g k)) cells):cR X A (compareOp .Eq) (.ref a) (.ref b) Ψ cells:=λv u own s I zq=>aC zq λr1 r2=>by
 apply RV.e0 r1 rfl ?_;apply RV.e0 r2 rfl ?_
 apply dx (I.cell a _ Dj) λoa ka da ea ra=>?_
 apply dx (I.cell b _ MA) λob kb db eb rb=>?_
 have la:ka.length=ks.length:=by have:=congrArg List.length ea;simpa using this
 have lb:kb.length=ks.length:=by have:=congrArg List.length eb;simpa using this
 have key:∀ (ts:List Int) (kt:List (Int×Value)),(∀ k∈ts,k∈ks)->kt.map (·.1)=ts->bV own s.heap (kt.map (·.2)) (ts.map λk=>.list (Iz (f k)))->PySem.W.KeqHits A.in1 s kb kt (ts.all λk=>f k == g k):=by
  intro ts
  induction ts with
  | nil =>
   intro kt Z e Z
   rw [List.map_eq_nil_iff] at e
   rw [e]
   exact .nil
  | cons k ts ih =>
   intro kt hm e r
   cases kt with
   | nil=>cases e
   | cons kv kt =>
    obtain ⟨k',v⟩:=kv
    simp only [map_cons,List.cons.injEq] at e
    (apply aC e ?_;try clear e;intro bN;subst bN;intro e)
    rw [map_cons,map_cons] at r
    apply ay r.cW λv' je ev rv rr=>?_
    cases ev
    rw [List.all_cons]
    have hk:=hm k' mem_cons_self
    rcases eI eb rb k' with ⟨-,q⟩ | ⟨y,yv,q1,q2,q3⟩
    ·have e1:eQ (ks.map λk=>(k,V.list (Iz (g k)))) k'=some (.list (Iz (g k'))):=by rw [lF (f:=λk=>.list (Iz (g k))),if_pos hk]
     rw [e1] at q;exact dc q
    ·have e1:eQ (ks.map λk=>(k,V.list (Iz (g k)))) k'=some (.list (Iz (g k'))):=by rw [lF (f:=λk=>.list (Iz (g k))),if_pos hk]
     rw [e1] at q2;obtain rfl:=cK q2
     exact .hit q1 ((pw.ints 0 (f k') (g k')).at rv q3 (by show A.units+1+_<_;lia)).2.1 (ih kt (λx hx=>hm x (mem_cons_of_mem _ hx)) e rr)
 apply PySem.W.keq_eq (gD I Dj) (gD I MA) da db (lt_of_add_right_lt hu) (λZ=>key ks ka (λZ h=>h) (ea.trans (by rw [map_map];exact map_id ks)) (by rw [map_map] at ra;exact ra)) ?_
 rw [la,lb,beq_self_eq_true,Bool.true_and]
 exact aw (t:=s.toks) I (.bool _) h
end
namespace L1
noncomputable def Br (left:List Int) (x:Int):Bool:=left.any (· == x)
noncomputable def pU (f:Int->List Int) (left:List Int) (p:Int):List Int:=(f p).filter (Br left)
noncomputable def bl (f:Int->List Int) (left:List Int):List Int:=left.filter λp=>(pU f left p).isEmpty
noncomputable def cB (f:Int->List Int) (left:List Int):List Int:=left.filter λp=>!Br (bl f left) p
noncomputable def ej (f:Int->List Int):Nat->List Int->List (List Int)×List Int
 | 0,left=>([],left)
 | n+1,left=>if (bl f left).isEmpty then ([],left) else (bl f left::(ej f n (cB f left)).1,(ej f n (cB f left)).2)
theorem tw{f:Int->List Int}{left:List Int}(h:(bl f left).isEmpty=false):(cB f left).length<left.length:=by
 cases e:bl f left with
 | nil=>rw [e] at h;exact Bool.noConfusion h
 | cons a r =>
  have ha:a∈left:=(mem_filter.mp (show a∈bl f left by rw [e];exact mem_cons_self)).1
  apply List.length_filter_lt_length_iff_exists.mpr (iDPP a ha ?_)
  rw [e];simp [Br]
theorem rO{f:Int->List Int}:∀ (n m:Nat) (left:List Int),left.length<n->left.length<m->ej f n left=ej f m left
 | 0,_,_,h,_=>(not_lt_zero _ h).elim
 | _,0,_,_,h=>(not_lt_zero _ h).elim
 | n+1,m+1,left,h1,h2=>by
  unfold ej
  cases e:(bl f left).isEmpty with
  | true=>rfl
  | false =>
   have:=tw e
   rw [rO n m (cB f left) (by lia) (by lia)]
noncomputable def di (f:Int->List Int) (ks:List Int):List (List Int)×List Int:=ej f (ks.length+1) ks
theorem mI(p:Int->Bool)(ns:List Int):((Iz ns).filter λv=>match v with | .int k=>p k | _=>false).map id=Iz (ns.filter p):=by
 unfold Iz
 rw [List.filter_map,map_id]
 rfl
theorem zi{X:Cx}{A:Around}{k:Nat}{c:Cells}{d:Addr}{ks:List Int}{f:Int->List Int}{Ψ:V->Cells->Prop}(G:G1 X)(hA:Rm X A (k+2))(hc:c d=some (.bF (ks.map λk=>(k,.list (Iz (f k))))))(hz:ks.length<=100)(hf:∀ k∈ks,(f k).length<=100)(h:Ψ (.tuple [.list (vF (di f ks).1),.list (Iz (di f ks).2)]) c):aD X A (.ref 242) [.ref d] Ψ c:=by
 apply dm (names:=["needs"]) G.s9 hA (λZ Z Z Z Z=>l1 λZ=>rfl) λL cdv A' bp=>?_
 have G':G1 (X.push L):=G
 generalize X.push L=Y at bp G' ⊢
 apply aa (ao (.inr rfl) (az rfl G'.list trivial (af (m_var (mv:=.ref d) rfl (a_nil (za bp.hh hc (ag (by rw [length_map];exact zl (by assumption) rfl)) ?_))))))
 rw [map_map]
 apply aa (ao (.inl rfl) (cz (a_nil ⟨zero_le _,λr hr=>?_⟩)))
 have N9:d≠r:=λz=>by rw [z,hr] at hc;exact bf hc
 apply aa (gE (λn l c'=>∃ R left,n=left.length/\Sub [("left",.list (Iz left)),("rounds",.ref r),("needs",.ref d)] l/\c'=upd c r (some (.list (vF R)))/\(∀ p∈left,p∈ks)/\R.length+left.length<=100 /\
   di f ks=(R++(ej f (left.length+1) left).1,(ej f (left.length+1) left).2)) ks.length (fQ ([]) ks rfl (Sub.put rfl (Sub.put rfl (Sub.put rfl Sub.nil))) rfl (λZ h=>h) (by simpa using hz) rfl) ?_)
 (intro n l c' aM;apply jJ aM ?_;clear aM;intro R left bk;rw [bk];intro hl bN;rw [bN];intro hm hR hp)
 apply cL.le hl ?_
 apply dU (fu (ar ?_))
 rw [if_pos rfl]
 have F8:(upd c r (some (.list (vF R)))) d=some (.bF (ks.map λk=>(k,.list (Iz (f k))))):=by rw [ae _ N9];exact hc
 apply aa (ao (.inr rfl) (cD ⟨by rfl,by decide +kernel,by rfl'⟩ (n8.name ⟨by rfl,by decide +kernel,by rfl'⟩ rfl (.inl (by decide +kernel))) bp.hh ?_))
 apply dk (m_var (mv:=.list (Iz left)) rfl (aV _ (dI bp.hh) (λZ Z=>trivial) ?_))
 apply bD (λv=>match v with | .int k=>(pU f left k).isEmpty | _=>false) id (by rw [ax];exact ag (by lia)) (lc:=[("left",.list (Iz left)),("needs",.ref d)]) rfl (λL' cs j v hj=>?_) ?_
 ·(apply aj (iz hj) ?_;intro p Mz eC;rw [eC])
  have Lq:p∈ks:=hm p (mem_of_getElem? Mz)
  have wk:eQ (ks.map λk=>(k,V.list (Iz (f k)))) p=some (.list (Iz (f p))):=by rw [lF (f:=λk=>.list (Iz (f k))),if_pos Lq]
  apply kj (oY (dU (cD ⟨by rfl,by decide +kernel,by rfl'⟩ (n8.name ⟨by rfl,by decide +kernel,by rfl'⟩ rfl (.inl (by decide +kernel))) bp.hh ?_)))
  apply dk (m_item (m_var (mv:=.ref d) rfl (m_var (mv:=.int p) rfl (g_fdict F8 wk (aV _ (dI bp.hh) (λZ Z=>trivial) ?_)))))
  apply bD (λv=>match v with | .int k=>Br left k | _=>false) id (by rw [ax];exact ag (by have:=hf p Lq;exact zl (by assumption) rfl)) (lc:=[("left",.list (Iz left))]) rfl (λIo Ip i v hi=>?_) ?_
  ·(apply aj (iz hi) ?_;intro q MB fR;rw [fR])
   exact kj (aE (m_var (mv:=.int q) rfl (m_var (mv:=.list (Iz left)) rfl (rG (ar (aX rfl rfl rfl (λZ=>m_var (mv:=.int q) rfl ⟨rfl,rfl,rfl⟩)))))))
  ·rw [mI]
   apply mq (by rw [ax];exact ag (le_trans (length_filter_le _ _) (by have:=hf p Lq;exact zl (by assumption) rfl))) ?_
   apply (aX rfl rfl ?_ (λZ=>m_var (mv:=.int p) rfl ⟨rfl,rfl,rfl⟩))
   show (!(!(Iz (pU f left p)).isEmpty))=(pU f left p).isEmpty
   rw [Bool.not_not]
   cases pU f left p <;> rfl
 rw [mI]
 have GC:(bl f left).length<=left.length:=length_filter_le _ _
 have Oa:(Iz (bl f left)).isEmpty=(bl f left).isEmpty:=by cases bl f left <;> rfl
 apply aa (bt (oY (dU (m_var (mv:=.list (Iz (bl f left))) rfl (mq (by rw [ax];exact ag (by lia)) ?_)))))
 rw [Bool.not_not,Oa]
 have GD:ej f (left.length+1) left=if (bl f left).isEmpty then ([],left) else (bl f left::(ej f left.length (cB f left)).1,(ej f left.length (cB f left)).2):=rfl
 cases e:(bl f left).isEmpty with
 | true =>
  rw [if_pos rfl]
  rw [GD,e,if_pos rfl] at hp
  apply aa (aL (cZ (af (kT (m_var (mv:=.ref r) rfl ⟨rfl,ah _ _ _,af (m_var (mv:=.list (Iz left)) rfl (a_nil ⟨ag (by show 2<=_;decide),?_⟩))⟩)))))
  rw [cg,g5 hr]
  rw [hp,append_nil] at h
  exact h
 | false =>
  rw [if_neg (by decide)]
  rw [GD,e,if_neg (by decide)] at hp
  have i4:=tw e
  apply au (aa (cy (aI (m_var (mv:=.ref r) rfl (eG (ah _ _ _) PySem.F.slot_list_append rfl ⟨trivial,af (m_var (mv:=.list (Iz (bl f left))) rfl (a_nil (c_append (ah _ _ _) (by rw [pK];exact ag (by lia)) ?_)))⟩)))))
  rw [cg,<- uH]
  apply aa (ao (.inr rfl) (cD ⟨by rfl,by decide +kernel,by rfl'⟩ (n8.name ⟨by rfl,by decide +kernel,by rfl'⟩ rfl (.inl (by decide +kernel))) bp.hh ?_))
  apply dk (m_var (mv:=.list (Iz left)) rfl (aV _ (dI bp.hh) (λZ Z=>trivial) ?_))
  apply bD (λv=>match v with | .int k=>!Br (bl f left) k | _=>false) id (by rw [ax];exact ag (by lia)) (lc:=[("free",.list (Iz (bl f left)))]) rfl (λL' cs j v hj=>?_) ?_
  ·(apply aj (iz hj) ?_;intro q MB fR;rw [fR])
   exact kj (aE (m_var (mv:=.int q) rfl (m_var (mv:=.list (Iz (bl f left))) rfl (tu (ar (aX rfl rfl rfl (λZ=>m_var (mv:=.int q) rfl ⟨rfl,rfl,rfl⟩)))))))
  ·rw [mI]
   apply au ⟨((cB f left).length),i4,(R++[bl f left]),(cB f left),rfl,(Sub.put rfl (Sub.put rfl (Sub.put rfl Sub.nil))),rfl,(λp hp=>hm p (mem_filter.mp hp).1),(by rw [length_append];simp;lia),?_⟩
   rw [hp,append_assoc,rO ((cB f left).length+1) left.length (cB f left) (lt_succ_self _) i4]
   rfl
end L1
theorem ow{M:Model}{A:Around}{E:Value->Shared->Prop}{s:Shared}{env:Env}{c P:Addr}{ps:Array Value}{pos:Pos}{qualname:Str}{scope:Scope}{Q:Value->Shared->Prop}{cv:Value}(hc:env.code=.ref c)(AJ:s.heap.IsCode c P ps)(hf:codeAmong pos ps.toList=some cv)(h:Q cv s):wpAny M A (genexprCode env pos qualname scope) Q E s:=by
 obtain ⟨o,vs,file,tf,flags,tg,lY,text,tt,op,ho,hd,Ob,h2,h7,h9,PM,qM,Oc,PN,fK⟩:=id AJ
 unfold genexprCode codeAt
 rw [hc,if_neg (show ¬ ((Value.ref c == Value.none)=true) from Bool.false_ne_true)]
 apply wpAny_bind (wpAny_fieldsOf ho hd ?_)
 rw [Ob]
 apply wpAny_bind (wpAny_fieldsOf qM Oc ?_)
 rw [hf]
 exact wpAny_pure h
section
theorem Base.GF{s':Shared}(I:Base X own cells s)(hk:∀ b o,s.heap.get? b=some o->s'.heap.get? b=some o)(hg:AllBare s'.gens)(ho:s'.os=s.os):Base X own cells s' where
 old:=I.old.step_keeps hk
 hg:=I.hg.keeps hk
 hb:=I.hb.keeps hk
 nolimit:=I.nolimit.keeps hk
 gens:=hg
 os:=ho.trans I.os
 new:=I.new
 lt:=λb a e=>let ⟨o,q⟩:=I.lt b a e;⟨o,hk b o q⟩
 cell:=λa c e=>⟨(I.cell a c e).1,(I.cell a c e).2.keeps (I.cell a c e).1 hk⟩
 gx:=λL hL=>(I.gx L hL).mono (λo e=>hk L o e) λZ Z n=>n
def rP(X:Cx)(A:Around)(src:V)(items:List V):Prop:=∀ own cells s v (Q:Value->Shared->Prop) E,Base X own cells s->RV own s.heap v src ->
 (∀ I h' t fp wr P St,(∀ A':Around,A'.handled=none->Walks X.prog X.w A' I fp wr items.length P St)->St 0 h'->(∀ b∈fp,b∈wr\/own b=none)->(∀ b∈fp,b<h'.objs.size)->(∀ b∈wr,s.heap.get? b=none)->(∀ b o,s.heap.get? b=some o->h'.get? b=some o) ->
  (∀ (i:Nat) v x,P i v->items[i]?=some x->RV own s.heap v x)->Q (.ref I) {s with heap:=h',toks:=t})->wpAny (model X.prog X.w) A (pyIter v) Q E s
theorem DU{xs:List V}:rP X A (.list xs) xs:=λown cells s v Q E I r k=>by
 (apply aA r.cN ?_;intro a d vs n sl aM;rw [aM];intro ho hn rs)
 have hl:s.heap.IsList a vs:=(bh _ ho rfl n rfl)
 have fK:a≠s.heap.objs.size:=λz=>by rw [z,ak] at ho;exact bf ho
 have hz:vs.size=xs.length:=by simpa using rs.1
 apply wpAny_pyIter_list hl (k s.heap.objs.size _ s.toks [s.heap.objs.size,a] [s.heap.objs.size] _ _ (λA' hA=>hz▸Walks.list hA s.heap.objs.size a fK vs) ⟨(aV _ (get?_push_size _ rfl) rfl rfl),hl.push _⟩ (λb hb=>?_) (λb hb=>?_) (λb hb=>?_) (λb o e=>get?_push_of_some _ e) λi v x e1 e2=>?_)
 ·rcases mem_cons.mp hb with rfl | hb
  ·exact .inl (.head _)
  ·rw [mem_singleton.mp hb];exact .inr hn
 ·rw [size_push]
  rcases mem_cons.mp hb with rfl | hb
  ·exact lt_succ_self _
  ·rw [mem_singleton.mp hb];exact lt_succ_of_lt (lt_size ho)
 ·rw [mem_singleton.mp hb];exact ak _
 ·exact rs.2 i v x (by simpa using e1) e2
theorem Iq{n:Nat}(hn:n<=1000000):rP X A (.q9 0 n 1) (nats n):=λown cells s v Q E I r k=>by
 apply RV.Dd r λr0 t0 u0 w0 ho KO=>?_
 have e:rangeSize 0 n 1=n:=by rw [rangeSize_one];split <;> omega
 have xu:Builtin.Range.small 0 n 1=true:=by unfold Builtin.Range.small;rw [e];simp [rangeFitsLong];lia
 have W:∀ A':Around,A'.handled=none->_:=λA' hA=>Walks.range (prog:=X.prog) (w:=X.w) (A:=A') hA s.heap.objs.size 0 1 n
 rw [<- cT n] at W
 apply wpAny_pyIter_range ho xu (k s.heap.objs.size _ s.toks [s.heap.objs.size] [s.heap.objs.size] _ _ W ?_ (λb hb=>.inl hb) (λb hb=>?_) (λb hb=>?_) (λb o e=>get?_push_of_some _ e) λi v x e1 e2=>?_)
 ·show IsRangeIter _ _ _ _ _
  have e3:((nats n).length:Int) - ((0:Nat):Int)=rangeSize 0 n 1:=by rw [cT,e];simp
  rw [e3]
  exact get?_push_size _ rfl
 ·rw [mem_singleton.mp hb,size_push];exact lt_succ_self _
 ·rw [mem_singleton.mp hb];exact ak _
 ·(apply bw e1 ?_;try clear e1;intro t bk;rw [bk])
  (apply aC (fY e2) ?_;intro Z bN;rw [bN])
  have:(0:Int)+(i:Int) * 1=i:=by lia
  rw [this];exact .int _ _
def Lr(X:Cx)(A:Around)(env:Env)(own:Own)(loc:Loc)(cells:Cells)(h:Heap)(n:Nat)(F:Nat->Value->Prop)(a:Addr)(s:Shared):Prop :=
 ∃ fp wr g St,WalksS X.prog X.w A.in4 a fp wr (GenOnlyQ g) n F St/\St 0 s/\(∀ i s',St i s'->s'.TypeIs (.ref a) "generator")/\a∈fp/\(∀ b∈fp,b<s.heap.objs.size) /\
  ∀ s',Moved wr (GenOnlyQ g) s s'->Inv X env own loc cells s'/\Ext (Fa env) own cells h own cells s'.heap
def GG(X:Cx)(A:Around)(env:Env)(x:Str)(elt:Expr)(scope:Scope)(cl:List (Str×Addr))(P:Addr)(items:List V)(F:Nat->Value->Prop)(l:Loc)(c:Cells):Prop :=
 ∀ own1 s1,Inv X env own1 l c s1->∀ (A':Around) E' (i:Nat) y v (s2:Shared) C m2 code,A'.handled=none->A'.depth<=A.depth+1->A'.units<=A.units+8->items[i]?=some y->RV own1 s1.heap v y->s2.heap.Ns C m2->m2 x=some v->(∀ b o,b≠P->s1.heap.get? b=some o->s2.heap.get? b=some o) ->
  wpAny (model X.prog X.w) A' (eval elt (genEnv scope cl C code builtinsNs env)) (λu s3=>F i u/\PySem.Keeps s2 s3) E' s2
theorem uO{elt iter:Expr}{x:Str}{px:Pos}{scope:Scope}{pos:Pos}{cl:List (Str×Addr)}{c P:Addr}{Q:Value->Shared->Prop}{E:Value->Shared->Prop}(I:Inv X env own loc cells s)(hh:A.handled=none)(Ir:A.depth<recursionLimit)(lD:env.code=.ref c)(hC:codeHdIn X.K c P=true)(hB:qV X)(h:mE X A env (eval iter env) (λsrc l1 c1=>∃ items F,c1 P=some .tab/\rP X A src items /\
   GG X A env x elt scope cl P items F l1 c1 /\
   (∀ own1 s1 a sg,Inv X env own1 l1 c1 s1->Ext (Fa env) own cells s.heap own1 c1 s1.heap->Lr X A env own1 l1 c1 s1.heap items.length F a sg->Q (.ref a) sg)) loc cells)(qJ:autoParam (scope.isCoroutine=false) aR)(uP:autoParam (closureFor scope env=pure cl) aR)(uQ:autoParam (∀ y∈scope.names,y.2≠.cell) aDK)(h0:autoParam (scope.names.lookup (".0":Str)=some NameKind.local) aDK)(hx:autoParam (scope.names.lookup x=some .local) aDK)(cq:autoParam (scope.kind=.function) aR)(hs:autoParam (∀ x,genFold iter env x=pure x) aIR) :
  wpAny (model X.prog X.w) A (eval (.GeneratorExp elt [⟨.Name x px,iter,[],0⟩] scope pos) env) Q E s:=by
 apply wpAny_GeneratorExp_walksQD hh qJ uP uQ h0 hx cq Ir (bZ (h.use I λown1 l1 c1 src xv s1 I1 r1 x1 eC=>cJ eC λitems F hP hw Ls hQ=>?_)) hs
 apply hw own1 c1 s1 xv _ _ I1.base r1 λJ h' t fp wr Pi St W st Od Oe JN keep Of=>?_
 apply jX (I1.base.cell P _ hP) λoP ps eP tP=>?_
 apply oU hB λbm ob b1 b2 b3 b4 b5 b6 b7=>?_
 have nP:X.h₀.get? P=none:=I1.base.new P P oP
 have Lp:mainGlobals≠P:=λq=>by
  apply cw X.hg λo es ep e Z=>?_
  rw [q,nP] at e;exact bf e
 have Og:bm≠P:=λq=>by rw [q,nP] at b4;exact bf b4
 have Df:h'.NoLimit:=I1.base.nolimit.keeps keep
 have Oh:P<h'.objs.size:=lt_size (keep _ _ eP)
 have MC:P ∉ wr:=λhm=>by have:=JN P hm;rw [eP] at this;exact dc this
 have W:∀ A':Around,A'.handled=none->Walks X.prog X.w A' J fp wr items.length (λi v=>∃ y,items[i]?=some y/\RV own1 s1.heap v y) St:=λA' hA =>
  ⟨(W A' hA).sub,(W A' hA).frame,λi s Q E hi st k=>(W A' hA).item i s Q E hi st λv h' tk pv mh kp=>k v h' tk (iDPP (items[i]) (getElem?_eq_getElem hi) (Of i v _ pv (getElem?_eq_getElem hi))) mh kp,(W A' hA).done,(W A' hA).self⟩
 have Oi:P ∉ fp:=λhm=>by
  rcases Od P hm with q | q
  ·exact MC q
  ·rw [oP] at q;exact dc q
 apply ⟨Df,?_⟩
 have fin:∀ code h3 tk,(∀ b o,b≠P->h'.get? b=some o->h3.get? b=some o)->h'.objs.size<=h3.objs.size->(∃ C6,h3.get? P=some (PySem.W.tabObj C6)/\TriplesOk C6.toList) ->
   wpAny (model X.prog X.w) A (builtinsFor env.globals env.builtins) (λbi s₄=>∃ I fp wr n₀ P Fe pz F,(Value.ref J)=.ref I/\(∀ A':Around,A'.handled=none->Walks X.prog X.w A' I fp wr n₀ P Fe)/\Fe 0 s₄.heap/\(∀ b∈fp,b<s₄.heap.objs.size)/\s₄.heap.NoLimit/\cStatics ∉ wr /\
     (∀ GH:Heap,(∀ b o,s₄.heap.get? b=some o->GH.get? b=some o) ->
      QuietGenD X.prog X.w (genEnv scope cl s₄.heap.objs.size code bi env) x [] elt (List.range s₄.heap.objs.size) wr P pz F GH (A.depth+1) (A.units+8)) /\
     (∀ a h₅ tk gs,gs.bare=true->s₄.heap.objs.size<a->h₅.objs.size=a+1->(∀ b o,s₄.heap.get? b=some o->h₅.get? b=some o) ->
      WalksS X.prog X.w A.in4 a (a::s₄.heap.objs.size::List.range s₄.heap.objs.size) (s₄.heap.objs.size::wr) (GenOnlyQ s₄.gens.size) (passing pz n₀ 0).length
       (λj y=>∃ i,(passing pz n₀ 0)[j]?=some i/\F i y) (GenAt X.prog X.w A.in4 a s₄.gens.size s₄.heap.objs.size (List.range s₄.heap.objs.size) wr pz n₀ F) ->
      GenAt X.prog X.w A.in4 a s₄.gens.size s₄.heap.objs.size (List.range s₄.heap.objs.size) wr pz n₀ F 0 { s₄ with gens:=s₄.gens.push gs,toks:=tk,heap:=h₅} ->
      Q (.ref a) { s₄ with gens:=s₄.gens.push gs,toks:=tk,heap:=h₅})) E { s1 with heap:=h3,toks:=tk}:=λcode h3 tk MD HL fR=>aj fR λC6 ME Oj=>by
  have It:∀ b o,b≠P->s1.heap.get? b=some o->h3.get? b=some o:=λb o hb e=>MD b o hb (keep b o e)
  have MG:∀ {d m},d≠P->s1.heap.Ns d m->h3.Ns d m:=λhd ⟨o,es,ep,e,r⟩=>(dw o es ep (It _ _ hd e) r)
  have Lu:cStatics≠P:=λe=>by
   obtain ⟨_,⟨o,es,ep,ho,hd,_⟩,_⟩:=I1.base.nolimit
   rw [e,eP] at ho;obtain rfl:=cK ho;cases hd
  have Ol:h3.NoLimit:=by
   obtain ⟨mc,q,r⟩:=I1.base.nolimit
   exact (iDPP mc (MG Lu q) r)
  have Om:cStatics ∉ wr:=λhm=>by
   obtain ⟨_,⟨o,es,ep,ho,hd,_⟩,_⟩:=I1.base.nolimit
   rw [JN _ hm] at ho;exact bf ho
  rw [I1.ok.glob]
  apply wpAny_builtinsFor (MG Lp I1.base.hg) b1 b2 (It _ _ Og (I1.base.old.get_of_cls b4 (by rw [b5];simp))) b5 b6 b7 ?_
  have pz:passing (λZ=>true) items.length 0=List.range items.length:=by simp [passing]
  have Oo:∀ b o,s1.heap.get? b=some o->b<h3.objs.size:=λb o e=>lt_of_lt_of_le (lt_size (keep b o e)) HL
  have atEnd:∀ s':Shared,(∀ b o,b≠P->s1.heap.get? b=some o->s'.heap.get? b=some o)->s'.heap.get? P=some (PySem.W.tabObj C6)->AllBare s'.gens->s'.os=s1.os->Inv X env own1 l1 c1 s'/\Ext (Fa env) own1 c1 s1.heap own1 c1 s'.heap:=λs' k1 k2 k3 k4=>by
   apply aC (I1.base.iX (t:=s'.toks) hP k1 (bJ _ k2) (c':=.tab) (iDPP C6 k2 Oj)) λB1 x1=>?_
   rw [rM hP] at B1 x1
   exact ⟨⟨B1.GF (λZ Z e=>e) k3 k4,I1.ok,I1.fr.ext x1⟩,x1.fF⟩
  apply (gr J fp wr items.length _ St (λZ=>true) (λi u=>F i u) rfl W ((W A hh).frame _ _ _ st (λb hb o e=>MD b o (λq=>Oi (q▸hb)) e)) (λb hb=>lt_of_lt_of_le (Oe b hb) HL) Ol Om (λGH Iu=>⟨?_,?_⟩) (λa h5 PO gs Oq MH Lv MI W5 oE=>?_))
  ·intro A' E' i v s₂ m₂ Z Z Z Z Z Z Z
   exact wpAny_pure (oM rfl s₂.heap s₂.toks rfl (λZ Z e=>e))
  ·intro A' E' i v s₂ m₂ bp hd hu ⟨y,hy,ry⟩ _ EO hm JO
   exact Ls own1 s1 I1 A' E' i y v s₂ _ m₂ code bp hd hu hy ry EO hm λb o hb e=>JO b (mem_range.mpr (Oo b o e)) (λhw=>by rw [JN b hw] at e;exact bf e) o (Iu b o (It b o hb e))
  ·rw [pz] at W5
   have W6:WalksS X.prog X.w A.in4 a (a::h3.objs.size::List.range h3.objs.size) (h3.objs.size::wr) (GenOnlyQ s1.gens.size) items.length F (GenAt X.prog X.w A.in4 a s1.gens.size h3.objs.size (List.range h3.objs.size) wr (λZ=>true) items.length F):=by
    rw [length_range] at W5
    exact ⟨W5.sub,W5.grefl,W5.gtrans,W5.frame,λi s Q E hi st k=>W5.item i s Q E hi st λv s' rA mh mv=>aj rA λi' e hF=>k v s' (by
     rw [getElem?_range hi] at e;obtain rfl:=cK e;exact hF) mh mv,W5.done,W5.self⟩
   apply hQ own1 s1 a _ I1 x1 (jb _ _ _ _ W6 oE (λi s' st=>st.1.typeIs) (.head _) (λb hb=>?_) (λs' hm=>?_))
   ·show b<h5.objs.size
    rw [Lv]
    rcases mem_cons.mp hb with rfl | hb
    ·exact lt_succ_self _
    ·rcases mem_cons.mp hb with rfl | hb
     ·exact lt_succ_of_lt MH
     ·exact lt_succ_of_lt (lt_trans (mem_range.mp hb) MH)
   ·have nw:∀ b o,h3.get? b=some o->b ∉ wr->b ∉ h3.objs.size::wr:=λb o e hw hm=>by
     rcases mem_cons.mp hm with rfl | hm
     ·exact absurd (lt_size e) (lt_irrefl _)
     ·exact hw hm
    apply atEnd s' (λb o hb e=>hm.heap b o (nw b o (It b o hb e) λhw=>by rw [JN b hw] at e;exact bf e) (MI b o (It b o hb e))) (hm.heap P _ (nw P _ ME MC) (MI P _ ME)) ((I1.base.gens.push Oq).movedS hm) hm.os
 have CH:=(codeHd_of_K I1.base.K hC).keeps keep
 cases hf:codeAmong pos ps.toList with
 | none =>
  apply wpAny_genexprCodeX lD (CH.code (keep _ _ eP) tP) (CH.tab (keep _ _ eP)) hf λc' h3 tk hx E7 i4 Z Z Lw Z=>fin _ h3 tk (λb o hb e=>hx b o hb e) (le_trans E7 (le_of_lt i4)) (iDPP _ Lw.2 ?_)
  rw [toList_append]
  exact TriplesOk_snoc _ _ _ _ tP
 | some cv=>exact ow lD (CH.code (keep _ _ eP) tP) hf (fin cv h' t (λb o Z e=>e) (le_refl _) (iDPP ps (keep _ _ eP) tP))
end
section
theorem Ff{k:Nat}(hA:Rm X A k):A.depth<recursionLimit:=by have:=hA.dep;exact lt_of_add_right_lt this
theorem Moved.same{wr:List Addr}{G:Array GenState->Array GenState->Prop}(hG:∀ a,G a a)(s:Shared):Moved wr G s s:=⟨λZ Z Z e=>e,hG _,rfl,rfl,le_refl _⟩
theorem pV{k:Nat}{o elt iter:Expr}{sep:Str}{x:Str}{px apos tx pos:Pos}{pl:Sem Bool}{scope:Scope}{cl:List (Str×Addr)}{c P:Addr}{Ψ:V->Loc->Cells->Prop}(hA:Rm X A k)(lD:env.code=.ref c)(hC:codeHdIn X.K c P=true)(hB:qV X)(h:mE X A env (eval o env) (λov l c=>ov=.str sep/\mE X A env (eval iter env) (λsrc l1 c1=>∃ items,∃ f:V->Str,c1 P=some .tab/\rP X A src items/\items.length<=1000000 /\
   GG X A env x elt scope cl P items (λi u=>∃ y t,items[i]?=some y/\u=.str (f y) t) l1 c1/\JoinOk sep (items.map f)=true/\Ψ (.str (join sep (items.map f))) l1 c1) l c) loc cells)(he:autoParam (eval (.Call (.Attribute o "join" apos) [.GeneratorExp elt [⟨.Name x px,iter,[],0⟩] scope tx] [] pos) env=(do let ov <- eval o env;standAt apos.atName;let (f,first) <- holding [ov] (getMethod ov "join" pl);callWith pos f first (backTo pos (starEach [.GeneratorExp elt [⟨.Name x px,iter,[],0⟩] scope tx] env)) [])) aR)(rK:autoParam (starEach [.GeneratorExp elt [⟨.Name x px,iter,[],0⟩] scope tx] env=(false,eval (.GeneratorExp elt [⟨.Name x px,iter,[],0⟩] scope tx) env)::starEach [] env) aR)(qJ:autoParam (scope.isCoroutine=false) aR)(uP:autoParam (closureFor scope env=pure cl) aR)(uQ:autoParam (∀ y∈scope.names,y.2≠.cell) aDK)(h0:autoParam (scope.names.lookup (".0":Str)=some NameKind.local) aDK)(hx:autoParam (scope.names.lookup x=some .local) aDK)(cq:autoParam (scope.kind=.function) aR)(hs:autoParam (∀ x,genFold iter env x=pure x) aIR) :
  mE X A env (eval (.Call (.Attribute o "join" apos) [.GeneratorExp elt [⟨.Name x px,iter,[],0⟩] scope tx] [] pos) env) Ψ loc cells:=λown s I=>by
 apply MethodCall_ (pl:=pl) (h.use I λown1 l1 c1 ov v1 s1 I1 r1 x1 dH=>aC dH λeo h1=>?_) he
 subst eo
 apply RV.e1 r1 rfl λZ=>?_
 apply ((pj (X:=X) (A:=A) (cells:=c1) (name:="join") (Θ:=λf first c=>f=.bi "str.join"/\first=[.str sep]/\c=c1) F.slot_str_join F.type_str_join ⟨rfl,rfl,rfl⟩) _ pl).lY I1 (.str sep _) λaG c2 q fx s2 I2 r2 x2 eC=>bq eC λe1 e2 e3=>?_
 obtain ⟨f,first⟩:=q
 obtain ⟨fv,fs⟩:=fx
 (apply aC r2 ?_;try clear r2;intro ra rb)
 dsimp only at e1 e2 e3
 subst e1 e2 e3
 apply RV.e0 ra rfl ?_
 apply bV.e1 rb λv rv=>?_
 apply RV.e1 rv rfl λZ=>?_
 apply eW (own:=aG) (f:=.bi "str.join") trivial (.bi _) ?_ (by rw [rK];rfl)
 apply spliced_more (uO I2 hA.hh (Ff hA) lD hC hB (h1.mono λsrc l2 c3 fR=>jJ fR λitems f hP hw hz ge hj hΨ=>(d9 items _ hP hw ge (λbX s3 a sg I3 x3 rz=>gv rz λfp wr g St W rC hT ha JO Bs=>spliced_none ⟨?_,?_⟩))) qJ uP uQ h0 hx cq hs) rK
 ·exact (Bs sg (Moved.same W.grefl sg)).1.base.K
 ·apply SC.joinGen W.in4_2 hT rC JO ha (λj v rA=>bW rA λy t Z e=>(kG _ _ e)) (λs' lt hm Iw=>?_) (le_trans hz (by decide))
  have hl:lt.map (·.1)=items.map f:=by
   apply ext_getElem?
   intro j
   have ml:lt.length=items.length:=by simpa [strValues] using Iw.1
   by_cases hj:j<items.length
   ·have MJ:j<lt.length:=ml▸hj
    apply bW (Iw.2 j (.str lt[j].1 lt[j].2) (by simp [strValues,getElem?_eq_getElem MJ])) λy u hy hv=>?_
    injection hv with h1 _
    rw [getElem?_map,getElem?_map,hy,getElem?_eq_getElem MJ]
    simp [h1]
   ·rw [getElem?_eq_none (by simpa [ml] using le_of_not_lt hj),getElem?_eq_none (by simpa using le_of_not_lt hj)]
  rw [hl]
  apply aC (Bs s' hm) λI4 x4=>?_
  exact ⟨hj,λt' k=>⟨bX,l2,c3,.str (join sep (items.map f)),I4.toks,.str _ _,x1.trans (x2.trans (x3.trans x4)),hΨ⟩⟩
theorem zj{k:Nat}{elt iter:Expr}{x:Str}{np px tx pos:Pos}{scope:Scope}{cl:List (Str×Addr)}{c P:Addr}{Ψ:V->Loc->Cells->Prop}(hA:Rm X A k)(lD:env.code=.ref c)(hC:codeHdIn X.K c P=true)(hB:qV X)(hk:env.kindOf "all"=some .globalImplicit)(hl:X.glob.lookup ("all":Str)=some (.bi "all"))(h:mE X A env (eval iter env) (λsrc l1 c1=>∃ items,∃ q:V->Bool,c1 P=some .tab/\rP X A src items /\
   GG X A env x elt scope cl P items (λi u=>∃ y,items[i]?=some y/\u=.bool (q y)) l1 c1/\Ψ (.bool (items.all q)) l1 c1) loc cells)(rK:autoParam (starEach [.GeneratorExp elt [⟨.Name x px,iter,[],0⟩] scope tx] env=(false,eval (.GeneratorExp elt [⟨.Name x px,iter,[],0⟩] scope tx) env)::starEach [] env) aR)(qJ:autoParam (scope.isCoroutine=false) aR)(uP:autoParam (closureFor scope env=pure cl) aR)(uQ:autoParam (∀ y∈scope.names,y.2≠.cell) aDK)(h0:autoParam (scope.names.lookup (".0":Str)=some NameKind.local) aDK)(hx:autoParam (scope.names.lookup x=some .local) aDK)(cq:autoParam (scope.kind=.function) aR)(hs:autoParam (∀ x,genFold iter env x=pure x) aIR) :
  mE X A env (eval (.Call (.Name "all" np) [.GeneratorExp elt [⟨.Name x px,iter,[],0⟩] scope tx] [] pos) env) Ψ loc cells:=λown s I=>by
 apply wpAny_Call_NameR ?_
 apply (eU (Ψ:=λv l c=>v=.bi "all"/\l=loc/\c=cells) hk hl ⟨rfl,rfl,rfl⟩).use I λown1 l1 c1 b v1 s1 I1 r1 x1 h1=>?_
 (apply bq h1 ?_;try clear h1;intro bk;subst bk;intro bN;subst bN;intro cI;subst cI)
 apply RV.e0 r1 rfl ?_
 apply eE (own:=own1) (fv:=.builtin "all") (f:=.bi "all") trivial (.bi _) ?_ rK rfl
 apply spliced_more (uO I1 hA.hh (Ff hA) lD hC hB (h.mono λsrc l2 c3 jU=>cJ jU λitems q hP hw ge hΨ=>(d9 items _ hP hw ge (λbX s3 a sg I3 x3 kS=>gv kS λfp wr g St W rC hT ha JO Bs=>spliced_none ⟨?_,?_⟩))) qJ uP uQ h0 hx cq hs) rK
 ·exact (Bs sg (Moved.same W.grefl sg)).1.base.K
 ·apply call_all_walkS (W.in4_1.self 0 _ _ _ rC (oO a _ _ _ _ _ _ (λi=>match items[i]? with | some y=>q y | none=>true) rfl W.in4_1 rC (λj v s' Q E sP hq=>aj sP λy e1 e2=>?_) (λs' hm=>?_)))
  ·rw [e2]
   dsimp only at hq
   rw [e1] at hq
   exact wpAny_truthy_bool hq
  ·have e:((List.range items.length).all λi=>match items[i]? with | some y=>q y | none=>true)=items.all q:=by
    rw [Bool.eq_iff_iff,all_eq_true,all_eq_true]
    constructor
    ·intro h y hy
     apply bw (getElem?_of_mem hy) λi hi=>?_
     have:=h i (mem_range.mpr (List.getElem?_eq_some_iff.mp hi).1)
     rw [hi] at this;exact this
    ·intro h i hi
     rw [getElem?_eq_getElem (mem_range.mp hi)]
     exact h _ (getElem_mem _)
   rw [e]
   apply aC (Bs s' hm) λI4 x4=>?_
   exact ⟨bX,l2,c3,.bool (items.all q),I4,.bool _,x1.trans (x3.trans x4),hΨ⟩
end
end Mp
section
open PySem.SeqAt
namespace Mp
section
variable {env bU:Env}{own1:Own}{l:Loc}{c:Cells}{s1 s2:Shared}{P C:Addr}{m2:Str->Option Value}
structure GS(own1:Own)(s1:Shared)(P C:Addr)(m2:Str->Option Value)(s2:Shared):Prop where
 ns:s2.heap.Ns C m2
 kp:∀ b o,b≠P->s1.heap.get? b=some o->s2.heap.get? b=some o
def DV(own1:Own)(s2:Shared)(Ψ:V->Prop)(Q:Value->Shared->Prop):Prop:=∀ u y s3,RV own1 s3.heap u y->Ψ y->PySem.Keeps s2 s3->Q u s3
def rE(X:Cx)(A:Around)(own1:Own)(s1:Shared)(P C:Addr)(m2:Str->Option Value)(t:Sem Value)(Ψ:V->Prop):Prop:=∀ s2 (Q:Value->Shared->Prop) E,GS own1 s1 P C m2 s2->DV own1 s2 Ψ Q->wpAny (model X.prog X.w) A t Q E s2
theorem GS.go{s3:Shared}(G:GS own1 s1 P C m2 s2)(k:PySem.Keeps s2 s3):GS own1 s1 P C m2 s3:=by
 (apply bW k ?_;try clear k;intro h' tk aM;rw [aM];intro kp)
 exact ⟨G.ns.keeps kp,λb o n e=>kp b o (G.kp b o n e)⟩
theorem jQ(s:Shared):PySem.Keeps s s:=(ez s.heap s.toks rfl (λZ Z h=>h))
theorem jR(s:Shared)(t:Nat):PySem.Keeps s {s with toks:=t}:=(ez s.heap t rfl (λZ Z h=>h))
theorem dY{a b d:Shared}(x:PySem.Keeps a b)(y:PySem.Keeps b d):PySem.Keeps a d:=by
 (apply bW x ?_;try clear x;intro h1 t1 bk;subst bk;intro k1)
 (apply bW y ?_;try clear y;intro h2 t2 bN;subst bN;intro k2)
 exact (ez h2 t2 rfl (λb o e=>k2 b o (k1 b o e)))
theorem Bt{s3:Shared}{v:Value}{y:V}(k:PySem.Keeps s2 s3)(r:RV own1 s2.heap v y):RV own1 s3.heap v y:=by
 (apply bW k ?_;try clear k;intro h' tk cI;rw [cI];intro kp)
 exact r.keeps kp
theorem GS.rv{v:Value}{y:V}(G:GS own1 s1 P C m2 s2)(hP:own1 P=some P)(r:RV own1 s1.heap v y):RV own1 s2.heap v y:=r.mono (λb o e q Z=>G.kp b o (λz=>dc ((z▸hP).symm.trans q)) e) λZ Z Z e=>e
theorem Bu{x:Str}{p:Pos}{v:Value}{y:V}{Ψ:V->Prop}(hk:bU.kindOf x=some .local)(hs:bU.scope.kind=.function)(hC:bU.locals=C)(hm:m2 x=some v)(hP:own1 P=some P)(r:RV own1 s1.heap v y)(h:Ψ y)(hd:autoParam ((x == ("__debug__":Str))=false) aDK) :
  rE X A own1 s1 P C m2 (eval (.Name x p) bU) Ψ:=λs2 Q E G k =>
 wpAny_Name (wpAny_loadName_local hs hk (hC▸G.ns) hm (k v y s2 (G.rv hP r) h (jQ s2))) hd
theorem wm{x:Str}{p:Pos}{y:V}{Ψ:V->Prop}(I:Inv X env own1 l c s1)(hP:own1 P=some P)(hk:bU.kindOf x=some .free)(hs:bU.scope.kind=.function)(hc:bU.cells.lookup x=env.cells.lookup x)(MK:env.kindOf x=some .cell)(hl:l.lookup x=some y)(h:Ψ y)(hd:autoParam ((x == ("__debug__":Str))=false) aDK)(F8:autoParam ((x == ("__classdict__":Str))=false) aDK):rE X A own1 s1 P C m2 (eval (.Name x p) bU) Ψ:=λs2 Q E G k=>by
 have hv:=I.fr.var x y hl
 apply ay (hv.Mb MK) λca v a b r=>?_
 obtain ⟨cb,v0,a',b',on,-⟩:=I.fr.i6 x (.inl MK)
 rw [a] at a';obtain rfl:=cK a'
 have fK:ca≠P:=λz=>by rw [z,hP] at on;exact dc on
 obtain ⟨o,e,q⟩:=b
 exact wpAny_Name (wpAny_loadName_free hs hk (hc.trans a) (iDPP o (G.kp ca o fK e) q) (k v y s2 (G.rv hP r) h (jQ s2)) F8) hd
theorem GI{x:Str}{p:Pos}{y:V}{Ψ:V->Prop}(I:Base X own1 c s1)(hP:own1 P=some P)(hs:bU.scope.kind=.function)(hg:bU.globals=mainGlobals)(hb:bU.builtins=builtinsNs)(hk:bU.kindOf x=some .globalImplicit)(hl:X.glob.lookup x=some y)(h:Ψ y)(hd:autoParam ((x == ("__debug__":Str))=false) aDK):rE X A own1 s1 P C m2 (eval (.Name x p) bU) Ψ:=λs2 Q E G k=>by
 have np:∀ {a:Addr} {m:Str->Option Value},X.h₀.Ns a m->a≠P:=λhn z=>by
  obtain ⟨o,_,_,e,_⟩:=hn
  rw [z,I.new P P hP] at e;exact bf e
 have n1:s2.heap.Ns mainGlobals X.mg:=by
  have fK:=np X.hg
  apply cw I.hg λo es ep e r=>?_
  exact (dw o es ep (G.kp _ o fK e) r)
 have n2:s2.heap.Ns builtinsNs X.mb:=by
  have fK:=np X.hb
  apply cw I.hb λo es ep e r=>?_
  exact (dw o es ep (G.kp _ o fK e) r)
 apply aj (X.xo x y hl) λv e r=>?_
 have fin:=k v y s2 r.base h (jQ s2)
 exact Calls.Name_function_global hs hk (e.elim (λe=>Calls.loadGlobal_global (hg.symm▸n1) e fin) λe=>Calls.loadGlobal_builtin (hg.symm▸n1) e.1 (hb.symm▸n2) e.2 fin) hd
theorem Iy{i:Int}{k:Nat}{p:Pos}{Ψ:V->Prop}(h:Ψ (.int i)):rE X A own1 s1 P C m2 (eval (.Constant (.int i) k p) bU) Ψ:=λs2 Q E G q=>wpAny_Constant_int (q _ _ _ (.int _ _) h (jR _ _))
def JP(X:Cx)(A:Around)(own1:Own)(s1:Shared)(P C:Addr)(m2:Str->Option Value)(f:Value->Value->Sem Value)(a b:V)(Ψ:V->Prop):Prop:=∀ v u s2 (Q:Value->Shared->Prop) E,GS own1 s1 P C m2 s2->RV own1 s2.heap v a->RV own1 s2.heap u b->DV own1 s2 Ψ Q->wpAny (model X.prog X.w) A (f v u) Q E s2
theorem IB{e1 e2:Expr}{op:Operator}{p:Pos}{Ψ:V->Prop}(h:rE X A own1 s1 P C m2 (eval e1 bU) (λa=>rE X A own1 s1 P C m2 (eval e2 bU) (λb=>JP X A own1 s1 P C m2 (binaryOp op) a b Ψ))):rE X A own1 s1 P C m2 (eval (.BinOp e1 op e2 p) bU) Ψ:=λs2 Q E G k =>
 wpAny_BinOp (h s2 _ E G λu a s3 r ha kp=>ha s3 _ E (G.go kp) λw b s4 r4 hb k4=>hb u w s4 Q E ((G.go kp).go k4) (Bt k4 r) r4 λz y s5 r5 p5 k5=>k z y s5 r5 p5 (dY kp (dY k4 k5)))
theorem IC{a b:Int}{Ψ:V->Prop}(h:Ψ (.int (a+b))):JP X A own1 s1 P C m2 (binaryOp .Add) (.int a) (.int b) Ψ:=λv u s2 Q E G r1 r2 k=>by
 apply RV.e1 r1 rfl λZ=>?_;apply RV.e1 r2 rfl λZ=>?_;exact add_int (k _ _ _ (.int _ _) h (jR _ _))
theorem ID{e1 e2:Expr}{op:CmpOp}{p:Pos}{Ψ:V->Prop}(h:rE X A own1 s1 P C m2 (eval e1 bU) (λa=>rE X A own1 s1 P C m2 (eval e2 bU) (λb=>JP X A own1 s1 P C m2 (compareOp op) a b Ψ)))(hm:autoParam (behindInMarks op e2=false) aU):rE X A own1 s1 P C m2 (eval (.Compare e1 [op] [e2] p) bU) Ψ:=λs2 Q E G k =>
 wpAny_Compare1 (h s2 _ E G λu a s3 r ha kp=>ha s3 _ E (G.go kp) λw b s4 r4 hb k4=>hb u w s4 Q E ((G.go kp).go k4) (Bt k4 r) r4 λz y s5 r5 p5 k5=>k z y s5 r5 p5 (dY kp (dY k4 k5))) hm
theorem zk{x:Int}{ns:List Int}{Ψ:V->Prop}(h:Ψ (.bool (ns.any (· == x)))):JP X A own1 s1 P C m2 (compareOp .In) (.int x) (.list (Iz ns)) Ψ:=λv u s2 Q E G r1 r2 k=>by
 apply RV.e1 r1 rfl λZ=>?_
 (apply aA r2.cN ?_;intro a d vs n sl bk;rw [bk];intro ho hn rs)
 have hi:=fW rs
 apply in_listAt (items:=vs) (HT x) (bh _ ho rfl n rfl) (λy hy=>?_) ?_
 ·(apply ij (hi.allInts y (by simpa using hy)) ?_;intro b t bN;rw [bN])
  exact EqAt.int_int _ _ _ _
 ·have:vs.any (HT x)=ns.any (· == x):=by rw [<- xC hi];simp
  rw [this]
  exact k _ _ _ (.bool _) h (jQ s2)
def Bv(X:Cx)(A:Around)(own1:Own)(s1:Shared)(P C:Addr)(m2:Str->Option Value)(a i:V)(Ψ:V->Prop):Prop:=∀ o iv s2 (Q:Value->Shared->Prop) E,GS own1 s1 P C m2 s2->RV own1 s2.heap o a->RV own1 s2.heap iv i->DV own1 s2 Ψ Q->ItemOn (model X.prog X.w) A E o iv Q s2
theorem wo{e1 e2:Expr}{p:Pos}{Ψ:V->Prop}(h:rE X A own1 s1 P C m2 (eval e1 bU) (λa=>rE X A own1 s1 P C m2 (eval e2 bU) (λb=>Bv X A own1 s1 P C m2 a b Ψ)))(hs:autoParam (∀ o i,subscripted e2 false o i=operate [o,i] (getItem o i)) aIU):rE X A own1 s1 P C m2 (eval (.Subscript e1 e2 p) bU) Ψ:=λs2 Q E G k=>by
 apply Subscript_ (h s2 _ E G λu a s3 r ha kp=>ha s3 _ E (G.go kp) λw b s4 r4 hb k4=>?_)
 apply kba_turn (value':=.Name default default) (λr=>rfl) (tail_of_ItemOn ?_ (hs u w) (λr=>rfl))
 exact hb u w s4 Q E ((G.go kp).go k4) (Bt k4 r) r4 λz y s5 r5 p5 k5=>k z y s5 r5 p5 (dY kp (dY k4 k5))
theorem Fg{xs:List V}{j:Nat}{x:V}{Ψ:V->Prop}(hx:xs[j]?=some x)(hz:xs.length<=1000000)(h:Ψ x):Bv X A own1 s1 P C m2 (.list xs) (.int j) Ψ:=λo iv s2 Q E G ro ri k=>by
 apply RV.e1 ri rfl λt=>?_
 (apply aA ro.cN ?_;intro a d vs n sl bk;rw [bk];intro ho hn rs)
 apply aj (rs.get hx) λv hv rv=>?_
 have hl:s2.heap.IsList a vs:=⟨_,ho,rfl,n,rfl⟩
 have hj:=(List.getElem?_eq_some_iff.mp hx).1
 exact (aH ("list") _ slot_list_getitem.lookup hl.typeIs (wpAny_getItem_list hl (natCast_nonneg j) (by lia) (by rw [toNat_natCast,<- getElem?_toList];exact hv) (k v x s2 rv h (jQ s2))))
theorem DW{a:Addr}{es:List (Int×V)}{i:Int}{x:V}{Ψ:V->Prop}(I:Base X own1 c s1)(hP:own1 P=some P)(Lu:c P=some .tab)(hc:c a=some (.bF es))(hx:eQ es i=some x)(h:Ψ x):Bv X A own1 s1 P C m2 (.ref a) (.int i) Ψ:=λo iv s2 Q E G ro ri k=>by
 apply RV.e1 ri rfl λt=>?_;apply RV.e0 ro rfl ?_
 apply dx (I.cell a _ hc) λoa bI hd e rs=>?_
 have fK:a≠P:=λz=>by rw [z,Lu] at hc;cases hc
 have hd2:s2.heap.DictOf (intKind X.prog X.w) a bI:=hd.at λo e=>G.kp a o fK e
 rcases eI e rs i with ⟨-,q⟩ | ⟨v,y,q1,q2,q3⟩
 ·rw [hx] at q;exact dc q
 ·rw [hx] at q2;obtain rfl:=cK q2
  exact (aH ("dict") _ slot_dict_getitem.lookup hd2.typeIs (wpAny_getItem_of (k:=i) (intKind_is _ _ _ _) hd2.mapOf q1 (k v x _ (G.rv hP q3) h (jR s2 _))))
theorem GS.K(G:GS own1 s1 P C m2 s2)(I:Base X own1 c s1)(hP:own1 P=some P):X.K.In s2.heap:=λb o e=>G.kp b o (λz=>by have:=X.hK b o e;rw [z,I.new P P hP] at this;exact bf this) (I.K b o e)
def Fh(X:Cx)(A:Around)(own1:Own)(s1:Shared)(P C:Addr)(m2:Str->Option Value)(id:String)(a:V)(Ψ:V->Prop):Prop:=∀ v s2 (Q:Value->Shared->Prop) E,GS own1 s1 P C m2 s2->RV own1 s2.heap v a->DV own1 s2 Ψ Q->wpAny (model X.prog X.w) A (call (.builtin id) [v]) Q E s2
theorem DX{f:Str}{np pos:Pos}{e:Expr}{id:String}{Ψ:V->Prop}(I:Base X own1 c s1)(hP:own1 P=some P)(hf:rE X A own1 s1 P C m2 (eval (.Name f np) bU) (λy=>y=.bi id))(h:rE X A own1 s1 P C m2 (eval e bU) (λa=>Fh X A own1 s1 P C m2 id a Ψ))(he:autoParam (starEach [e] bU=(false,eval e bU)::starEach [] bU) aR)(dR:autoParam ((backTo pos (starEach [] bU)).any (·.1)=false) aR) :
  rE X A own1 s1 P C m2 (eval (.Call (.Name f np) [e] [] pos) bU) Ψ:=λs2 Q E G k=>by
 apply wpAny_Call_NameR (hf s2 _ E G λu y s3 r hy kp=>?_)
 subst hy
 apply RV.e0 r rfl ?_
 apply eE (own:=own1) (f:=.bi id) trivial (.bi _) ?_ he dR
 apply spliced_more (h s3 _ E (G.go kp) λw a s4 r4 ha k4=>spliced_none ⟨((G.go kp).go k4).K I hP,?_⟩) he
 exact ha w s4 Q E ((G.go kp).go k4) r4 λz y s5 r5 p5 k5=>k z y s5 r5 p5 (dY kp (dY k4 k5))
theorem IE{i:Int}{Ψ:V->Prop}(hi:(decide (i<0)||decide (i > 1114111))=false)(h:Ψ (.str ⟨#[i.toNat]⟩)):Fh X A own1 s1 P C m2 "chr" (.int i) Ψ:=λv s2 Q E G r k=>by
 apply RV.e1 r rfl λZ=>?_;exact PySem.P.chr_of_int hi (k _ _ _ (.str _ _) h (jR _ _))
theorem GJ{a b:Int}{n:Nat}(hn:n<=1000000)(ha:-1000000<=a/\a<=2000000)(e:rangeSize a b 1=n)(hb:b<=4000000/\-4000000<=b):rP X A (.q9 a b 1) (aQ a 1 n):=λown cells s v Q E I r k=>by
 apply RV.Dd r λr0 t0 u0 w0 ho KO=>?_
 have xu:Builtin.Range.small a b 1=true:=by unfold Builtin.Range.small;rw [e];simp [rangeFitsLong];omega
 have hl:(aQ a 1 n).length=n:=by simp [aQ]
 have W:∀ A':Around,A'.handled=none->_:=λA' hA=>Walks.range (prog:=X.prog) (w:=X.w) (A:=A') hA s.heap.objs.size a 1 n
 rw [<- hl] at W
 apply wpAny_pyIter_range ho xu (k s.heap.objs.size _ s.toks [s.heap.objs.size] [s.heap.objs.size] _ _ W ?_ (λb hb=>.inl hb) (λb hb=>?_) (λb hb=>?_) (λb o e=>get?_push_of_some _ e) λi v x e1 e2=>?_)
 ·show IsRangeIter _ _ _ _ _
  have e3:((aQ a 1 n).length:Int) - ((0:Nat):Int)=rangeSize a b 1:=by rw [hl,e];simp
  rw [e3]
  have e4:a+((0:Nat):Int) * 1=a:=by lia
  rw [e4]
  exact get?_push_size _ rfl
 ·rw [mem_singleton.mp hb,size_push];exact lt_succ_self _
 ·rw [mem_singleton.mp hb];exact ak _
 ·(apply bw e1 ?_;try clear e1;intro t dH;rw [dH])
  unfold aQ at e2
  rw [getElem?_map,map_eq_some_iff] at e2
  (apply aj e2 ?_;try clear e2;intro j hj eC;rw [<- eC])
  obtain ⟨h1,h2⟩:=List.getElem?_eq_some_iff.mp hj
  simp at h2
  subst h2
  exact .int _ _
theorem Fi{x:Nat}{cells:Cells}{Ψ:V->Cells->Prop}(h:Ψ (.int x) cells):aD X A (.bi "ord") [.str ⟨#[x]⟩] Ψ cells:=λfv vs own s I zq=>aC zq λrf r=>by
 apply RV.e0 rf rfl ?_
 (apply aj r.one ?_;intro v aM;rw [aM];intro r1)
 apply RV.e1 r1 rfl λt=>?_
 exact PySem.P.ord_of_char (aw I (.int _ _) h)
theorem rE.gen{t:Sem Value}{Ψ:V->Prop}{F:Value->Prop}{E:Value->Shared->Prop}(G:GS own1 s1 P C m2 s2)(hF:∀ u y (s3:Shared),RV own1 s3.heap u y->Ψ y->F u)(h:rE X A own1 s1 P C m2 t Ψ):wpAny (model X.prog X.w) A t (λu s3=>F u/\PySem.Keeps s2 s3) E s2:=h s2 _ E G λu y s3 r p k=>⟨hF u y s3 r p,k⟩
end
end Mp
end
namespace Mp
namespace L1
def pW(K:PySem.W.Frag)(a:Addr)(qual:Str)(s:Stmt)(c:Addr):Prop:=∃ doc pm an ct,FnAt K a (fnName s) qual (bz s) (aF s) (ai s) .none .none doc pm an (.ref c) ct
def Lx(K:PySem.W.Frag):Prop:=pW K 249 "_law_ring" Bb 248/\codeHdIn K 248 244=true
structure tA(q ks:List Int)(f:Int->List Int):Prop where
 len:2<q.length/\q.length<=100
 ends:q.getD 0 0=q.getD (q.length - 1) 0
 set:iM q=q.length - 1
 Ly:∀ j,j+1<q.length->q.getD (j+1) 0∈ks/\(f (q.getD (j+1) 0)).any (· == q.getD j 0)=true
noncomputable abbrev tB (L:Addr):Env:=bY "_law_ring" (ai Bb) L 249 (.ref 248)
theorem oG{q:List Int}{j:Nat}(h:j<q.length):(Iz q)[j]?=some (.int (q.getD j 0)):=Ig (by rw [getD_eq_getElem?_getD,getElem?_eq_getElem h];rfl)
theorem DY{X:Cx}{A:Around}{k:Nat}{c0:Cells}{d:Addr}{q ks:List Int}{f:Int->List Int}{Ψ:V->Cells->Prop}(G:G1 X)(R:Lx X.K)(B:qV X)(hA:Rm X A (k+2))(hP:c0 244=some .tab)(hc:c0 d=some (.bF (ks.map λk=>(k,.list (Iz (f k))))))(O:tA q ks f)(h:∀ c',(∀ b x,c0 b=some x->c' b=some x)->Ψ (.bool true) c'):aD X A (.ref 249) [.list (Iz q),.ref d] Ψ c0:=by
 (apply aC R λaM hC=>?_;apply eT aM λdoc pm an ct FT=>?_)
 apply g4 (names:=["ring","needs"]) FT hA (l2 λZ Z=>rfl) (λL=>?_) rfl rfl rfl
 have bp:Rm (X.push L) (A.deeper (tB L)) (k+1):=hA.deeper (tB L) (by show (ai Bb).kind≠_;decide) rfl
 have G':G1 (X.push L):=G
 have B':qV (X.push L):=B
 have GK:codeHdIn (X.push L).K 248 244=true:=hC
 generalize A.deeper (tB L)=A' at bp ⊢
 generalize X.push L=Y at bp G' B' GK ⊢
 have hl:=O.len
 have hz:(Iz q).length=q.length:=ax q
 apply aa (aL (pT ?_))
 apply jy (gz (m_var rfl (cx (iw trivial (ar ?_)))))
 rw [if_pos rfl]
 apply jy (gz (az rfl G'.len trivial (af (m_var rfl (a_nil (c8 (by rw [hz];exact ag (by lia)) (m_int (Kq (ar ?_)))))))))
 rw [hz,if_pos (decide_eq_true (by lia))]
 apply jy (gz (m_item (m_var rfl (m_int (dN (j:=0) (oG (by lia)) (by lia) (m_item (m_var rfl (m_un (m_int (o_neg (AM (j:=q.length - 1) (by decide) (by decide) ?_ (oG (by lia)) (vQ (ar ?_)))))))))))))
 ·obtain ⟨n,e⟩:∃ n,q.length=n+1:=(bJ (q.length - 1) (by lia))
  rw [hz,e];exact pn
 rw [if_pos (beq_iff_eq.mpr O.ends)]
 apply jy (gz (az rfl G'.len trivial (af (az rfl G'.set trivial (af (m_var rfl (a_nil (wj bp.hh (by lia) λa ha S=>a_nil (zh (ah _ _ _) (aY (az rfl G'.len trivial (af (m_var rfl (a_nil (c8 (by rw [hz];exact ag (by lia)) (m_int (kW (vQ (ar ?_)))))))))))))))))))
 rw [hz,if_pos (beq_iff_eq.mpr (by rw [O.set];lia))]
 have Ot:a≠244:=λz=>by rw [z,hP] at ha;exact dc ha
 have JQ:a≠d:=λz=>by rw [z,hc] at ha;exact dc ha
 have JR:(upd c0 a (some (.set S (iM q)))) 244=some .tab:=by rw [ae _ (Ne.symm Ot)];exact hP
 have Al:(upd c0 a (some (.set S (iM q)))) d=some (.bF (ks.map λk=>(k,.list (Iz (f k))))):=by rw [ae _ (Ne.symm JQ)];exact hc
 have IF:∀ b x,c0 b=some x->(upd c0 a (some (.set S (iM q)))) b=some x:=λb x e=>by rw [ae _ (λz=>by rw [z,ha] at e;exact bf e)];exact e
 generalize upd c0 a (some (.set S (iM q)))=c2 at JR Al IF ⊢
 apply Bq (zj (P:=244) (c:=248) bp rfl GK B' rfl G'.all ?_)
 apply az rfl G'.range trivial (af (aY (az rfl G'.len trivial (af (m_var rfl (a_nil (c8 (by rw [hz];exact ag (by lia)) (m_int (kW (a_nil (fX ?_)))))))))))
 have e1:((Iz q).length:Int) - 1=((q.length - 1:Nat):Int):=by rw [hz];exact zd O.len.1
 rw [e1]
 apply (d9 (nats (q.length - 1)) (λZ=>true) JR (Iq (by lia)) ?_ ?_)
 ·intro own1 s1 I A2 E2 i y v s2 C m2 code hh Z Z hi rv hN hm kp
  (apply aC (fY hi) ?_;intro C7 bk;subst bk)
  have xT:=(I.base.cell 244 .tab JR).1
  have hj:i+1<q.length:=by exact Nat.add_lt_of_lt_sub C7
  apply aC (O.Ly i hj) λe2 e3=>?_
  have wk:eQ (ks.map λk=>(k,V.list (Iz (f k)))) (q.getD (i+1) 0)=some (.list (Iz (f (q.getD (i+1) 0)))):=by rw [lF (f:=λk=>.list (Iz (f k))),if_pos e2]
  have e4:((i:Int)+1)=((i+1:Nat):Int):=by exact Int.ofNat_add_one_out i
  apply rE.gen (own1:=own1) (Ψ:=λy=>y=.bool true) ⟨hN,kp⟩ (λu y s3 r e=>(iDPP _ hi (by subst e;exact RV.e0 r rfl rfl))) ?_
  apply ID (wo (wm (y:=.list (Iz q)) I xT rfl rfl rfl rfl rfl (Bu rfl rfl rfl hm xT rv (Fg (oG (Nat.lt_of_succ_lt hj)) (by lia) ?_))))
  apply wo (wm (y:=.ref d) I xT rfl rfl rfl rfl rfl (wo (wm (y:=.list (Iz q)) I xT rfl rfl rfl rfl rfl (IB (Bu rfl rfl rfl hm xT rv (Iy (IC ?_)))))))
  rw [e4]
  apply Fg (oG hj) (by lia) (DW I.base xT JR Al wk (zk ?_))
  rw [e3]
 ·rw [all_eq_true.mpr (λZ Z=>rfl)]
  exact h c2 IF
end L1
section
open PySem.Builtin.Str
variable {Ψ:V->Cells->Prop}{d:Addr}{c:Nat}{ks:List Nat}
set_option tactic.hygienic true in
theorem tC(hh:A.handled=none)(hd:(d == sysModules)=false)(hK:wg X.K d ks=true)(hc:128<=c)(hm:c ∉ ks)(h:Ψ (.str (ot ks c)) cells):aD X A (.bi "str.translate") [.str ⟨#[c]⟩,.ref d] Ψ cells:=λfv vs own s I ⟨rf,rs⟩=>by
 apply RV.e0 rf rfl ?_
 (apply ay rs.two ?_;intro v1 v2 cI;subst cI;intro r1 r2)
 obtain ⟨_,rfl⟩:=RV.a1 r1;apply RV.e0 r2 rfl ?_
 rename_i t _
 apply aj (uJ (prog:=X.prog) (w:=X.w) hK I.K) λf M hf=>?_
 apply aC (hf c) λh1 h2=>?_
 apply wpAny_call_entry F.slot_str_translate (typeIs_str _ _ _) F.entry_str_translate ?_ (F.args_str_translate_2 _ _)
 unfold Builtin.«str.translate»
 apply wpAny_bind (m:=strOneArg _ _) (wpAny_of_eq (a:=(Value.str ⟨#[c]⟩ t,⟨#[c]⟩,Value.ref d)) rfl ?_)
 dsimp only
 rw [if_neg (show ¬ (((⟨#[c]⟩:Str).length == 0)=true) from Bool.false_ne_true)]
 have Gy:(#[c]:Array Nat).all (λx=>decide (x<128))=false:=by simp;omega
 rw [Gy]
 rw [<- Array.forIn_toList]
 rw [forIn_cons]
 dsimp only
 rw [if_neg (show ¬ (tooLong 0=true) by decide)]
 rw [if_neg (show ¬ (false=true) by decide)]
 rw [if_neg (show ¬ (false=true) by decide)]
 apply wpAny_bind (wpAny_bind (wpAny_bind (hV hh hd M (h2 hm) λh' k kp=>?_)))
 dsimp only
 apply wpAny_pure ?_
 dsimp only
 rw [forIn_nil]
 apply wpAny_pure ?_
 dsimp only
 rw [if_neg (show ¬ (tooLong (0+1)=true) by decide)]
 apply wpAny_bind (m:=mkStr _) (wpAny_mkStr (wpAny_pure (iDPP _ rfl ?_)) ?_)
 ·have e:ot ks c=⟨#[c]⟩:=by unfold ot;rw [if_neg hm]
  rw [e] at h
  exact mb_end I rfl kp (.str _ _) h
 ·show (1:Nat)<=sizeLine;decide
end
namespace L1
noncomputable def specs:List Nat:=[40,41,91,93,123,125,63,42,43,45,124,94,36,92,46,38,126,35,32,9,10,13,11,12]
noncomputable abbrev uR:Addr:=57
noncomputable abbrev lG:Addr:=61
noncomputable abbrev zm:Addr:=45
noncomputable abbrev zo:Addr:=43
noncomputable abbrev wq:Addr:=55
noncomputable abbrev IG:Addr:=62
def lZ(glob:List (Str×V))(K:PySem.W.Frag):Prop :=
 (dn glob "len" (.bi "len")) /\
 (dn glob "isinstance" (.bi "isinstance")) /\
 (dn glob "str" (.ty "str")) /\
 (dn glob "escape" (.ref wq)) /\
 (dn glob "_special_chars_map" (.ref zm)) /\
 (dn glob "twin_re_1_fnmatch" (.ref zo)) /\
 (te K zo) /\
 (wg K zm specs=true) /\
 (eR K wq "escape" Hs) /\
 (pW K IG "_translate" trans lG) /\
 (codeHdIn K lG uR=true)
theorem lZ.of{glob:List (Str×V)}{K:PySem.W.Frag}(h:(dn glob "len" (.bi "len")) /\
 (dn glob "isinstance" (.bi "isinstance")) /\
 (dn glob "str" (.ty "str")) /\
 (dn glob "escape" (.ref wq)) /\
 (dn glob "_special_chars_map" (.ref zm)) /\
 (dn glob "twin_re_1_fnmatch" (.ref zo)) /\
 (te K zo) /\
 (wg K zm specs=true) /\
 (eR K wq "escape" Hs) /\
 (pW K IG "_translate" trans lG) /\
 (codeHdIn K lG uR=true)):lZ glob K:=h
theorem lZ.len{glob:List (Str×V)}{K:PySem.W.Frag}(S:lZ glob K):dn glob "len" (.bi "len"):=S.1
theorem lZ.Ou{glob:List (Str×V)}{K:PySem.W.Frag}(S:lZ glob K):dn glob "isinstance" (.bi "isinstance"):=S.2.1
theorem lZ.str{glob:List (Str×V)}{K:PySem.W.Frag}(S:lZ glob K):dn glob "str" (.ty "str"):=S.2.2.1
theorem lZ.IH{glob:List (Str×V)}{K:PySem.W.Frag}(S:lZ glob K):dn glob "escape" (.ref wq):=S.2.2.2.1
theorem lZ.II{glob:List (Str×V)}{K:PySem.W.Frag}(S:lZ glob K):dn glob "_special_chars_map" (.ref zm):=S.2.2.2.2.1
theorem lZ.Lz{glob:List (Str×V)}{K:PySem.W.Frag}(S:lZ glob K):dn glob "twin_re_1_fnmatch" (.ref zo):=S.2.2.2.2.2.1
theorem lZ.IJ{glob:List (Str×V)}{K:PySem.W.Frag}(S:lZ glob K):te K zo:=S.2.2.2.2.2.2.1
theorem lZ.tr{glob:List (Str×V)}{K:PySem.W.Frag}(S:lZ glob K):wg K zm specs=true:=S.2.2.2.2.2.2.2.1
theorem lZ.Hs{glob:List (Str×V)}{K:PySem.W.Frag}(S:lZ glob K):eR K wq "escape" Hs:=S.2.2.2.2.2.2.2.2.1
theorem lZ.trans{glob:List (Str×V)}{K:PySem.W.Frag}(S:lZ glob K):pW K IG "_translate" trans lG:=S.2.2.2.2.2.2.2.2.2.1
theorem lZ.code{glob:List (Str×V)}{K:PySem.W.Frag}(S:lZ glob K):codeHdIn K lG uR=true:=S.2.2.2.2.2.2.2.2.2.2
abbrev T1(X:Cx):Prop:=lZ X.glob X.K/\qV X
theorem GL{X:Cx}{A:Around}{k:Nat}{cells:Cells}{c:Nat}{Ψ:V->Cells->Prop}(T:T1 X)(hA:Rm X A (k+1))(hc:c<128\/(128<=c/\c ∉ specs))(h:Ψ (.str (ot specs c)) cells):aD X A (.ref wq) [.str ⟨#[c]⟩] Ψ cells:=by
 apply dm (names:=["pattern"]) T.1.Hs hA (λZ Z Z Z Z=>l1 λZ=>rfl) λL cdv A' bp=>?_
 have T':T1 (X.push L):=T
 generalize X.push L=Y at bp T' ⊢
 apply aa (bt (dU (az rfl T'.1.Ou trivial (af (m_var rfl (af (eU rfl T'.1.str (a_nil (mG (ar ?_))))))))))
 rw [if_pos rfl]
 apply aa (aL (aI (m_var rfl (pj F.slot_str_translate F.type_str_translate ⟨trivial,af (eU rfl T'.1.II (a_nil ?_))⟩))))
 exact hc.elim (λhc=>uK bp.hh rfl T'.1.tr hc h) λhc=>tC bp.hh rfl T'.1.tr hc.1 hc.2 h
noncomputable def aZ (p:Str) (a u:Addr) (i:Nat):Loc:=[("i",.int i),("n",.int p.length),("add",.ref u),("res",.ref a),("pat",.str p),("STAR",.none),("QUESTION_MARK",.int 0)]
structure oH(c0 c:Cells)(a u:Addr)(ps:List V):Prop where
 res:c a=some (.list ps)
 add:c u=some (.De "list.append" a)
 tab:c uR=some .tab
 old:∀ b x,c0 b=some x->c b=some x
 na:c0 a=none
theorem oH.push{c0 c:Cells}{a u:Addr}{ps:List V}(T:oH c0 c a u ps)(x:V):oH c0 (upd c a (some (.list (ps++[x])))) a u (ps++[x]) where
 res:=ah _ _ _
 add:=by rw [ae _ (by rintro rfl;have:=T.res;rw [T.add] at this;cases this)];exact T.add
 tab:=by rw [ae _ (by intro q;have:=T.res;rw [<- q,T.tab] at this;cases this)];exact T.tab
 old:=λb y e=>by rw [ae _ (by rintro rfl;rw [T.na] at e;exact bf e)];exact T.old b y e
 na:=T.na
theorem oH.new{c0 c:Cells}{a u f:Addr}{ps:List V}{o:Option Cell}(T:oH c0 c a u ps)(hf:c f=none):oH c0 (upd c f o) a u ps where
 res:=by rw [ae _ (by rintro rfl;rw [T.res] at hf;exact dc hf)];exact T.res
 add:=by rw [ae _ (by rintro rfl;rw [T.add] at hf;exact dc hf)];exact T.add
 tab:=by rw [ae _ (by rintro q;rw [<- q,T.tab] at hf;exact dc hf)];exact T.tab
 old:=λb y e=>by rw [ae _ (by rintro rfl;rw [T.old _ _ e] at hf;exact dc hf)];exact T.old b y e
 na:=T.na
noncomputable def GN:Stmt:=(aF trans).getD 3 default
noncomputable def trBody:List Stmt:=aF GN
noncomputable abbrev trEnv (L:Addr):Env:=bY "_translate" (ai trans) L IG (.ref lG)
theorem dO{b:Bool}{P Q:Prop}(h:b=false)(q:Q):if b=true then P else Q:=by rw [if_neg (by rw [h];exact Bool.false_ne_true)];exact q
theorem bR{b:Bool}{P Q:Prop}(h:b=true)(q:P):if b=true then P else Q:=by rw [if_pos h];exact q
theorem rQ{a b:Nat}(h:a≠b){x:Str}(hx:x=⟨#[b]⟩):((⟨#[a]⟩:Str) == x)=false:=by
 subst hx
 apply beq_eq_false_iff_ne.mpr λq=>h ?_
 cases q;rfl
theorem Bw{a b:Nat}(h:a=b){x:Str}(hx:x=⟨#[b]⟩):((⟨#[a]⟩:Str) == x)=true:=by
 subst hx h;exact beq_self_eq_true _
section
variable {Y:Cx}{A:Around}{k:Nat}{c0 c:Cells}{p:Str}{a u L:Addr}{i ch:Nat}{ps:List V}{l:Loc}{Φ:MF->Loc->Cells->Prop}
theorem Bx(T:T1 Y)(hA:Rm Y A (k+1))(C:oH c0 c a u ps)(hl:Sub (aZ p a u i) l)(hi:i<p.length)(hz:p.length<=1000)(hp:ps.length<=1000)(hc:cm p i=⟨#[ch]⟩)(h1:ch<128\/(128<=ch/\ch ∉ specs))(h2:ch≠42/\ch≠63/\ch≠91)(h:∀ l' c',Sub (aZ p a u (i+1)) l'->oH c0 c' a u (ps++[.str (ot specs ch)])->Φ .next l' c'):mS Y A (trEnv L) (execs trBody (trEnv L)) Φ l c:=by
 apply cL.le hl ?_
 apply aa (ao (.inl rfl) (m_item (m_var rfl (m_var rfl (dh hi (zl (by assumption) rfl) ?_)))))
 rw [hc]
 apply aa (ao (.inl rfl) (aY (m_var rfl (m_int (dX ?_)))))
 apply aa (bt (aE (m_var rfl (aK (dB (ar (dO (rQ h2.1 rfl) ?_)))))))
 apply aa (bt (aE (m_var rfl (aK (dB (ar (dO (rQ h2.2.1 rfl) ?_)))))))
 apply aa (bt (aE (m_var rfl (aK (dB (ar (dO (rQ h2.2.2 rfl) ?_)))))))
 apply aa (cy (dg (a:=a) rfl (az rfl T.1.IH (eR.keeps T.1.Hs) (af (m_var rfl (a_nil (GL T hA h1 (gO ps C.add C.res (ag (zl (by assumption) rfl)) ?_))))))))
 exact au (au (au (au (h _ _ (Sub.of (eS rfl rfl rfl rfl rfl rfl rfl trivial)) (C.push _)))))
end
end L1
namespace L1
theorem zv{X:Cx}{A:Around}{cells:Cells}{Ψ:V->Cells->Prop}{x:Str}{ys:List Str}(h:Ψ (.bool (ys.any (· == x))) cells):cR X A (compareOp .In) (.str x) (.tuple (fc ys)) Ψ cells:=λv u own s I zq=>aC zq λr1 r2=>by
 apply RV.e1 r1 rfl λZ=>?_
 (apply aA r2.gC ?_;intro a d vs n sl bk;rw [bk];intro ho hn rs)
 exact PyProof.Rows.in_tuple_strs (bh _ ho rfl n rfl) (pS rs) (aw (t:=s.toks) I (.bool _) h)
theorem dZ{Y:Cx}{A:Around}{env:Env}{b:List Stmt}{Φ:MF->Loc->Cells->Prop}{l:Loc}{c:Cells}(H:mS Y A env (execs b env) Φ l c):mS Y A env (execs b env) (yA Y A env [] Φ) l c:=cL.mono H λf l c h=>by
 cases f with
 | next=>exact au h
 | _=>exact h
noncomputable def gf (ps:List V):List V:=match ps.getLast? with
 | some .none=>ps
 | _=>ps++[.none]
noncomputable def wt:List Stmt:=aF ((rF ((rF (trBody.getD 2 default)).getD 0 default)).getD 0 default)
noncomputable def big:List Stmt:=rF (wt.getD 4 default)
noncomputable def pieceOf (s:Str):Str :=
 if s.length=0 then ofString "(?!)" else if (s == ofString "!")=true then ofString "."
 else if (cm s 0 == ofString "!")=true then ofString "["++(ofString "^"++Txt.slice s (some 1) none)++ofString "]"
 else if ([ofString "^",ofString "["].any (· == cm s 0))=true then ofString "["++(ofString "\\"++s)++ofString "]"
 else ofString "["++s++ofString "]"
noncomputable abbrev DZ (p:Str) (a u:Addr) (J:Nat) (s:Str):Loc:=[("stuff",.str s),("j",.int J),("n",.int p.length),("add",.ref u),("res",.ref a),("pat",.str p),("STAR",.none),("QUESTION_MARK",.int 0)]
section
variable {Y:Cx}{A:Around}{k:Nat}{c0 c:Cells}{p:Str}{a u L:Addr}{i:Nat}{ps:List V}{l:Loc}{Φ:MF->Loc->Cells->Prop}
theorem zz(T:T1 Y)(hA:Rm Y A (k+1))(C:oH c0 c a u ps)(hl:Sub (aZ p a u i) l)(hi:i<p.length)(hz:p.length<=1000)(hp:ps.length<=1000)(hc:cm p i=⟨#[42]⟩)(hn:∀ x∈ps,x=.none\/jO x)(h:∀ l' c',Sub (aZ p a u (i+1)) l'->oH c0 c' a u (gf ps)->Φ .next l' c'):mS Y A (trEnv L) (execs trBody (trEnv L)) Φ l c:=by
 apply cL.le hl ?_
 apply aa (ao (.inl rfl) (m_item (m_var rfl (m_var rfl (dh hi (zl (by assumption) rfl) ?_)))))
 rw [hc]
 apply aa (ao (.inl rfl) (aY (m_var rfl (m_int (dX ?_)))))
 apply aa (bt (aE (m_var rfl (aK (dB (ar (bR (Bw rfl rfl) ?_)))))))
 have push:gf ps=ps++[.none]->mS Y A (trEnv L) (execs (aF ((aF (trBody.getD 2 default)).getD 0 default)) (trEnv L)) Φ (aZ p a u (i+1)) c:=λe=>by
  apply aa (cy (dg (a:=a) rfl (m_var rfl (gO ps C.add C.res (ag (zl (by assumption) rfl)) ?_))))
  have C2:=C.push V.none
  rw [<- e] at C2 ⊢
  exact au (h _ _ (Sub.of (eS rfl rfl rfl rfl rfl rfl rfl trivial)) C2)
 apply cL.le (l0:=aZ p a u (i+1)) (Sub.of (eS rfl rfl rfl rfl rfl rfl rfl trivial)) ?_
 apply dZ ?_
 apply aa (bt (dA (jL (oY (dU (m_var rfl (A3 C.res (ag (zl (by assumption) rfl)) ?_)))))))
 rcases List.eq_nil_or_concat ps with e | ⟨pre,x,e⟩
 ·apply bR (by rw [e];rfl) ?_
  apply bR rfl ?_
  exact dZ (push (by rw [e];rfl))
 ·have hx:x=.none\/jO x:=hn x (by rw [e];simp)
  apply dO (by rw [e];simp) ?_
  apply EY (aE (m_item (m_var rfl (m_un (m_int (o_neg (g_clast (xs:=pre) (x:=x) (by rw [C.res,e];simp) (m_var rfl ?_))))))))
  rcases hx with rfl | hx
  ·apply ix (ar (dO rfl ?_))
   have e2:gf ps=ps:=by unfold gf;rw [e];simp
   apply au (au (h _ _ Sub.rfl ?_))
   rw [e2];exact C
  ·apply iw hx (ar (bR rfl (dZ (push ?_))))
   unfold gf
   rw [e]
   simp
   split
   ·rename_i q;cases q;exact hx.elim
   ·rfl
theorem By(T:T1 Y)(hA:Rm Y A (k+1))(C:oH c0 c a u ps)(hl:Sub (aZ p a u i) l)(hi:i<p.length)(hz:p.length<=1000)(hp:ps.length<=1000)(hc:cm p i=⟨#[63]⟩)(h:∀ l' c',Sub (aZ p a u (i+1)) l'->oH c0 c' a u (ps++[.int 0])->Φ .next l' c'):mS Y A (trEnv L) (execs trBody (trEnv L)) Φ l c:=by
 apply cL.le hl ?_
 apply aa (ao (.inl rfl) (m_item (m_var rfl (m_var rfl (dh hi (zl (by assumption) rfl) ?_)))))
 rw [hc]
 apply aa (ao (.inl rfl) (aY (m_var rfl (m_int (dX ?_)))))
 apply aa (bt (aE (m_var rfl (aK (dB (ar (dO (rQ (b:=42) (by decide) rfl) ?_)))))))
 apply aa (bt (aE (m_var rfl (aK (dB (ar (bR (Bw rfl rfl) ?_)))))))
 apply aa (cy (dg (a:=a) rfl (m_var rfl (gO ps C.add C.res (ag (zl (by assumption) rfl)) ?_))))
 exact au (au (au (h _ _ (Sub.of (eS rfl rfl rfl rfl rfl rfl rfl trivial)) (C.push _))))
structure D0(p:Str)(i J:Nat):Prop where
 op:cm p i=⟨#[91]⟩
 lt:i+1<J
 len:J<p.length
 cl:(cm p J == ofString "]")=true
noncomputable def eK (p:Str) (i:Nat):Nat:=if (cm p (i+1) == ofString "!")=true then i+2 else i+1
noncomputable def cE (p:Str) (i:Nat):Nat:=if (cm p (eK p i) == ofString "]")=true then eK p i+1 else eK p i
theorem rR(T:T1 Y)(hA:Rm Y A (k+1))(hl:Sub (aZ p a u i) l)(hz:p.length<=1000){J:Nat}(B:D0 p i J)(hJ:cE p i<=J)(F3:∀ t,cE p i<=t->t<J->(cm p t == ofString "]")=false)
  (h:mS Y A (trEnv L) (execs big (trEnv L)) Φ (("j",.int J)::aZ p a u (i+1)) c):mS Y A (trEnv L) (execs trBody (trEnv L)) Φ l c:=by
 obtain ⟨b1,b2,b3,b4⟩:=B
 apply cL.le hl ?_
 apply aa (ao (.inl rfl) (m_item (m_var rfl (m_var rfl (dh (by lia) (zl (by assumption) rfl) ?_)))))
 rw [b1]
 apply aa (ao (.inl rfl) (aY (m_var rfl (m_int (dX ?_)))))
 apply aa (bt (aE (m_var rfl (aK (dB (ar (dO (rQ (b:=42) (by decide) rfl) (dZ ?_))))))))
 apply aa (bt (aE (m_var rfl (aK (dB (ar (dO (rQ (b:=63) (by decide) rfl) (dZ ?_))))))))
 apply aa (bt (aE (m_var rfl (aK (dB (ar (bR (Bw rfl rfl) (dZ ?_))))))))
 apply cL.le (l0:=aZ p a u (i+1)) (Sub.of (eS rfl rfl rfl rfl rfl rfl rfl trivial)) ?_
 have names:∀ (t:Nat) {l:Loc},l.lookup ("j":Str)=some (.int t)->l.lookup ("i":Str)=some (.int (i+1:Nat))->l.lookup ("n":Str)=some (.int p.length)->l.lookup ("add":Str)=some (.ref u)->l.lookup ("res":Str)=some (.ref a)->l.lookup ("pat":Str)=some (.str p)->l.lookup ("STAR":Str)=some .none->l.lookup ("QUESTION_MARK":Str)=some (.int 0)->Sub (("j",.int t)::aZ p a u (i+1)) l :=
  λt l e1 e2 e3 e4 e5 e6 e7 e8=>Sub.of (kh e1 e2 e3 e4 e5 e6 e7 e8 trivial)
 apply aa (ao (.inl rfl) (m_var rfl ?_))
 have Fj:∀ t:Nat,t=cE p i->mS Y A (trEnv L) (execs (wt.drop 3) (trEnv L)) Φ (("j",.int t)::aZ p a u (i+1)) c:=λt0 et=>by
  rw [et]
  apply aa (gE (λn l c'=>∃ t,n=J - t/\cE p i<=t/\t<=J/\c'=c/\Sub (("j",.int (t:Int))::aZ p a u (i+1)) l) (J - cE p i) (sq (cE p i) rfl (le_refl _) hJ rfl Sub.rfl) ?_)
  (intro n l c' aM;apply gu aM ?_;clear aM;intro t bk;rw [bk];intro t1 t2 bN;rw [bN];intro iU)
  apply cL.le iU ?_
  apply dA (cX (aE (m_var rfl (m_var rfl (ph (ar (bR (decide_eq_true (by lia)) ?_)))))))
  apply jm (aE (m_item (m_var rfl (m_var rfl (dh (lt_of_le_of_lt t2 b3) (zl (by assumption) rfl) (aK (xA (ar ?_))))))))
  by_cases LA:t<J
  ·apply bR (by rw [bne,F3 t t1 LA];rfl) ?_
   apply aa (ao (.inl rfl) (aY (m_var rfl (m_int (dX (au ?_))))))
   exact ⟨(J - (t+1)),(Nat.sub_succ_lt_self J t LA),(t+1),rfl,(Nat.le_add_right_of_le t1),(succ_le_of_lt LA),rfl,(names (t+1) rfl rfl rfl rfl rfl rfl rfl rfl)⟩
  have et:t=J:=by lia
  rw [et]
  apply dO (by rw [bne,b4];rfl) ?_
  apply au ?_
  apply aa (bt (aE (m_var rfl (m_var rfl (Kr (ar (dO (decide_eq_false (by lia)) (dZ ?_))))))))
  exact cL.le Sub.rfl h
 have Fl:∀ t:Nat,t=eK p i->mS Y A (trEnv L) (execs (wt.drop 2) (trEnv L)) Φ (("j",.int t)::aZ p a u (i+1)) c:=λt0 et=>by
  rw [et]
  have hb:eK p i<p.length:=by
   have:eK p i<=cE p i:=by unfold cE;split <;> omega
   lia
  apply aa (bt (dA (cX (aE (m_var rfl (m_var rfl (ph (ar (bR (decide_eq_true (ofNat_lt.mpr hb)) ?_)))))))))
  apply jm (aE (m_item (m_var rfl (m_var rfl (dh hb (zl (by assumption) rfl) (aK (dB (ar ?_))))))))
  by_cases q:(cm p (eK p i) == ofString "]")=true
  ·apply bR q ?_
   apply aa (ao (.inl rfl) (aY (m_var rfl (m_int (dX (au ?_))))))
   exact cL.le (names (eK p i+1) rfl rfl rfl rfl rfl rfl rfl rfl) (Fj (eK p i+1) (by unfold cE;rw [if_pos q]))
  ·apply dO (eq_false_iff.mpr q) ?_
   exact au (cL.le Sub.rfl (Fj (eK p i) (by unfold cE;rw [if_neg q])))
 apply aa (bt (dA (cX (aE (m_var rfl (m_var rfl (ph (ar (bR (decide_eq_true (by lia)) ?_)))))))))
 apply jm (aE (m_item (m_var rfl (m_var rfl (dh (lt_trans b2 b3) (zl (by assumption) rfl) (aK (dB (ar ?_))))))))
 by_cases q:(cm p (i+1) == ofString "!")=true
 ·apply bR q ?_
  apply aa (ao (.inl rfl) (aY (m_var rfl (m_int (dX (au ?_))))))
  exact cL.le (names (i+2) rfl rfl rfl rfl rfl rfl rfl rfl) (Fl (i+2) (by unfold eK;rw [if_pos q]))
 ·apply dO (eq_false_iff.mpr q) ?_
  exact au (cL.le (names (i+1) rfl rfl rfl rfl rfl rfl rfl rfl) (Fl (i+1) (by unfold eK;rw [if_neg q])))
end
end L1
namespace L1
section
variable {Y:Cx}{A:Around}{k:Nat}{c0 c:Cells}{p:Str}{a u L:Addr}{i:Nat}{ps:List V}{l:Loc}{Φ:MF->Loc->Cells->Prop}
theorem LB:(ofString "^").length=1/\(ofString "[").length=1/\(ofString "]").length=1/\(ofString "\\").length=1:=by decide +kernel
theorem pX(T:T1 Y)(hA:Rm Y A (k+1))(C:oH c0 c a u ps){J:Nat}{s:Str}(hl:Sub (DZ p a u J s) l)(hp:ps.length<=1000)(hs:s.length<=200)(s3:∀ i,i<s.cps.size->amp (s.cps.getD i 0)=false)(s5:(Txt.slice s (some 1) none).length<=200)(h:∀ l' c',Sub (aZ p a u (J+1)) l'->oH c0 c' a u (ps++[.str (pieceOf s)])->Φ .next l' c'):mS Y A (trEnv L) (execs (big.drop 2) (trEnv L)) Φ l c:=by
 apply cL.le hl ?_
 apply aa (ao (.inl rfl) (aI (eU rfl T.1.Lz (T.1.IJ.Ds ⟨trivial,af (Bn (c:=lG) (P:=uR) rfl T.1.code C.tab T.2 λf hf=>af (m_var rfl (a_nil (Gx T.1.IJ (ah _ _ _) s3 (by exact zl (by assumption) rfl) ?_))))⟩))))
 have C2:oH c0 (upd c f (some (.oW "function"))) a u ps:=C.new hf
 generalize upd c f (some (.oW "function"))=c2 at C2 ⊢
 apply aa (ao (.inl rfl) (aY (m_var rfl (m_int (dX ?_)))))
 have names:∀ {l:Loc},l.lookup ("i":Str)=some (.int (J+1:Nat))->l.lookup ("n":Str)=some (.int p.length)->l.lookup ("add":Str)=some (.ref u)->l.lookup ("res":Str)=some (.ref a)->l.lookup ("pat":Str)=some (.str p)->l.lookup ("STAR":Str)=some .none->l.lookup ("QUESTION_MARK":Str)=some (.int 0)->Sub (aZ p a u (J+1)) l :=
  λe2 e3 e4 e5 e6 e7 e8=>Sub.of (eS e2 e3 e4 e5 e6 e7 e8 trivial)
 apply dj LB λe1 e2 e3 e4=>?_
 apply aa (bt (oY (dU (m_var rfl (ET (ag (by exact zl (by assumption) rfl)) ?_)))))
 by_cases h0:s.length=0
 ·apply bR (by rw [h0];rfl) ?_
  have ep:pieceOf s=ofString "(?!)":=by unfold pieceOf;rw [if_pos h0]
  rw [ep] at h
  apply aa (cy (dg (a:=a) rfl (aK (gO ps C2.add C2.res (ag (by exact zl (by assumption) rfl)) ?_))))
  exact au (au (h _ _ (names rfl rfl rfl rfl rfl rfl rfl) (C2.push _)))
 apply dO (by simp;omega) (dZ ?_)
 apply aa (bt (aE (m_var rfl (aK (dB (ar ?_))))))
 by_cases h1:(s == ofString "!")=true
 ·apply bR h1 (dZ ?_)
  have ep:pieceOf s=ofString ".":=by unfold pieceOf;rw [if_neg h0,if_pos h1]
  rw [ep] at h
  apply aa (cy (dg (a:=a) rfl (aK (gO ps C2.add C2.res (ag (by exact zl (by assumption) rfl)) ?_))))
  exact au (h _ _ (names rfl rfl rfl rfl rfl rfl rfl) (C2.push _))
 apply dO (eq_false_iff.mpr h1) (dZ ?_)
 have fin:∀ (w:Str) {l:Loc},l.lookup ("stuff":Str)=some (.str w)->w.length<=400->pieceOf s=ofString "["++w++ofString "]"->l.lookup ("add":Str)=some (.ref u)->Sub (aZ p a u (J+1)) l->mS Y A (trEnv L) (execs ((rF ((rF ((big.drop 2).getD 2 default)).getD 0 default)).drop 1) (trEnv L)) Φ l c2:=λw l Ov hw ep Ki iU=>by
  rw [ep] at h
  apply aa (cy (dg (a:=a) Ki (DQ (m_var (mv:=.str w) Ov (aV _ rfl (by lia) (gO ps C2.add C2.res (ag (by exact zl (by assumption) rfl)) ?_))))))
  exact au (h _ _ iU (C2.push _))
 apply aa (bt (aE (m_item (m_var rfl (m_int (dh (j:=0) (Nat.zero_lt_of_ne_zero h0) (by exact zl (by assumption) rfl) (aK (dB (ar ?_)))))))))
 by_cases h2:(cm s 0 == ofString "!")=true
 ·apply bR h2 ?_
  apply aa (ao (.inl rfl) (aY (aK (cj (m_var rfl (bC (m_int (bB (bB (eF (ag (by exact zl (by assumption) rfl)) (mr (ag (by exact Hp s5 rfl)) (au ?_))))))))))))
  exact cL.le Sub.rfl (fin (ofString "^"++Txt.slice s (some 1) none) rfl (by rw [strLen_append];exact Hp s5 rfl) (by unfold pieceOf;rw [if_neg h0,if_neg h1,if_pos h2]) rfl (names rfl rfl rfl rfl rfl rfl rfl))
 apply dO (eq_false_iff.mpr h2) ?_
 apply aa (bt (aE (m_item (m_var rfl (m_int (dh (j:=0) (by exact Nat.zero_lt_of_ne_zero h0) (by exact zl (by assumption) rfl) (cZ (af (aK (af (aK (a_nil ⟨ag (by show 2<=_;decide),zv (ys:=[ofString "^",ofString "["]) (ar ?_)⟩))))))))))))
 by_cases h3:([ofString "^",ofString "["].any (· == cm s 0))=true
 ·apply bR h3 ?_
  apply aa (ao (.inl rfl) (aY (aK (m_var rfl (mr (ag (by exact Hp hs rfl)) (au (au ?_)))))))
  exact cL.le Sub.rfl (fin (ofString "\\"++s) rfl (by rw [strLen_append];exact Hp hs rfl) (by unfold pieceOf;rw [if_neg h0,if_neg h1,if_neg h2,if_pos h3]) rfl (names rfl rfl rfl rfl rfl rfl rfl))
 apply dO (eq_false_iff.mpr h3) (au (au ?_))
 exact cL.le Sub.rfl (fin s rfl (by exact zl hs rfl) (by unfold pieceOf;rw [if_neg h0,if_neg h1,if_neg h2,if_neg h3]) rfl (names rfl rfl rfl rfl rfl rfl rfl))
theorem wu(T:T1 Y)(hA:Rm Y A (k+1))(C:oH c0 c a u ps)(hl:Sub (aZ p a u i) l)(hz:p.length<=1000)(hp:ps.length<=1000){J:Nat}{stuff:Str}(B:D0 p i J)(hJ:cE p i<=J)(F3:∀ t,cE p i<=t->t<J->(cm p t == ofString "]")=false)
  (hs:stuff=Txt.slice p (some ((i+1:Nat):Int)) (some (J:Int))) (s1:Txt.contains stuff (ofString "-")=false) (s2:(Builtin.Str.occurrences stuff (ofString "\\") 0 stuff.length (stuff.length+1)).isEmpty=true) (s3:∀ i,i<stuff.cps.size->amp (stuff.cps.getD i 0)=false) (s4:stuff.length<=200) (s5:(Txt.slice stuff (some 1) none).length<=200)
  (h:∀ l' c',Sub (aZ p a u (J+1)) l'->oH c0 c' a u (ps++[.str (pieceOf stuff)])->Φ .next l' c'):mS Y A (trEnv L) (execs trBody (trEnv L)) Φ l c:=by
 have b3:=B.len
 apply rR T hA hl hz B hJ F3 ?_
 apply aa (ao (.inl rfl) (cj (m_var rfl (bC (m_var rfl (bC (m_var rfl (bB (eF (ag (by exact zl (by assumption) rfl)) ?_)))))))))
 rw [<- hs]
 apply aa (bt (aE (aK (m_var rfl (ui (ar (bR (by rw [s1];rfl) ?_)))))))
 apply aa (ao (.inl rfl) (aI (m_var rfl (pj F.slot_str_replace F.type_str_replace ⟨trivial,af (aK (af (aK (a_nil (pP s2 (au ?_))))))⟩))))
 exact cL.le Sub.rfl (pX T hA C (J:=J) (s:=stuff) (Sub.of (kh rfl rfl rfl rfl rfl rfl rfl rfl trivial)) hp s4 s3 s5 h)
end
end L1
section
open PySem.Builtin.Str
theorem IK{a b:Str}{Ψ:V->Cells->Prop}(h:Ψ (.bool (decide (b.cps.toList<a.cps.toList))) cells):cR X A (compareOp .Gt) (.str a) (.str b) Ψ cells:=λv u own s I zq=>aC zq λr1 r2=>by
 apply RV.e1 r1 rfl λZ=>?_;apply RV.e1 r2 rfl λZ=>?_;exact PySem.P.gt_str (aw (t:=s.toks) I (.bool _) h)
noncomputable def dp (x y:Str) (i j:Nat):Int:=match occurrences x y i (min j x.length) 1 with | k::_=>(k:Int) | []=>-1
theorem uS(x y:Str)(i j:Nat)(t u v w:Tok):Gives (Builtin.«str.find» ⟨[.str x t,.str y u,.int i v,.int j w],[]⟩) (.int (dp x y i j)):=by
 unfold dp
 have e1:(max (0:Int) (if (i:Int)<0 then (i:Int)+x.length else i)).toNat=i:=by rw [if_neg (not_ofNat_neg i)];exact Nat.add_zero i
 have e2:(max (0:Int) (if (j:Int)<0 then (j:Int)+x.length else j)).toNat=j:=by rw [if_neg (not_ofNat_neg j)];exact Nat.add_zero j
 show Gives (match occurrences x y (max (0:Int) (if (i:Int)<0 then (i:Int)+x.length else i)).toNat (min (max (0:Int) (if (j:Int)<0 then (j:Int)+x.length else j)).toNat x.length) 1 with | k::_=>retInt k | []=>(do rule "str.find.not-found";retInt (-1))) _
 rw [e1,e2]
 cases occurrences x y i (min j x.length) 1 with
 | nil=>exact .rule (.of_eq rfl)
 | cons k _=>exact .of_eq rfl
theorem D1{x y:Str}{i j:Nat}{Ψ:V->Cells->Prop}(h:Ψ (.int (dp x y i j)) cells):aD X A (.bi "str.find") [.str x,.str y,.int i,.int j] Ψ cells:=λfv vs own s I zq=>aC zq λrf rs=>by
 apply RV.e0 rf rfl ?_
 (apply ay rs.cW ?_;intro v1 je aM;rw [aM];intro r1 rs)
 (apply ay rs.cW ?_;intro v2 je aM;rw [aM];intro r2 rs)
 (apply ay rs.two ?_;intro v3 v4 bk;rw [bk];intro r3 r4)
 apply RV.e1 r1 rfl λZ=>?_;apply RV.e1 r2 rfl λZ=>?_;apply RV.e1 r3 rfl λZ=>?_;apply RV.e1 r4 rfl λZ=>?_
 exact call_gives F.slot_str_find (typeIs_str _ _ _) F.entry_str_find (F.args_str_find_4 _ _ _ _) (uS _ _ _ _ _ _ _ _) (aw I (.int _ _) h)
theorem D2{prog:Program}{w:World}{A:Around}{E:Value->Shared->Prop}{s:Shared}{l:Addr}{items:Array Value}{n:Nat}{k:Int}{t:Tok}{v:Value}{Q:Unit->Shared->Prop}(ho:s.heap.get? l=some ⟨.type "list",none,.seq items n,#[]⟩)(h0:0<=k)(LC:k<2 ^ 63)(hn:k<items.size)(hQ:Q () {s with heap:=s.heap.update l (mapSeq (·.setIfInBounds k.toNat v))}):wpAny (model prog w) A (setItem (.ref l) (.int k t) v) Q E s:=by
 have hl:s.heap.IsList l items:=(bh _ ho rfl n rfl)
 unfold setItem
 apply wpAny_holding ?_
 apply wpAny_bind (wpAny_sequenceKey hl.typeIs rfl ?_)
 apply wpAny_bind (wpAny_callSpecial?_slot (name:=ofString "__setitem__") hl.typeIs slot_list_setitem (wpAny_call_entry slot_list_setitem hl.typeIs entry_list_setitem ?_ (args_list_setitem _ _ _)))
 show wpAny _ _ (Builtin.List.listSubscript? (.int k t) >>= _) _ _ s
 apply wpAny_bind (wpAny_listSubscript_int (fitsIndex_of h0 LC) ?_)
 obtain ⟨j,rfl⟩:=Int.eq_ofNat_of_zero_le h0
 have hj:j<items.size:=by lia
 have tY:items[j]?=some items[j]:=Array.getElem?_eq_getElem hj
 show wpAny _ _ ((seqItemAt l j >>= λr=>pure (r.map (j,·))) >>= _) _ _ s
 apply wpAny_bind (wpAny_bind (wpAny_seqItemAt ho rfl (wpAny_pure ?_)))
 rw [tY]
 show wpAny _ _ (setSeqItemAt l j v >>= _) _ _ s
 apply wpAny_bind (wpAny_setSeqItemAt ho rfl ?_)
 first
  | exact wpAny_bind (wpAny_pure (wpAny_pure (iDPP .none rfl (wpAny_pure hQ))))
  | exact wpAny_pure ⟨.none,rfl,wpAny_pure hQ⟩
theorem D3{a:Addr}{xs:List V}{k:Nat}{mv:V}{Ψ:Cells->Prop}(hc:cells a=some (.list xs))(hk:k<xs.length)(hz:xs.length<=1000)(h:Ψ (upd cells a (some (.list (xs.set k mv))))):pC X A (.ref a) (.int k) mv Ψ cells:=λv iv u own s I zq=>bq zq λr ri ru=>by
 apply RV.e0 r rfl ?_;apply RV.e1 ri rfl λt=>?_
 apply dQ (I.cell a _ hc) λoa vs n ho rs=>?_
 have z:vs.size=xs.length:=by simpa using rs.1
 have hl:s.heap.IsList a vs:=(bh _ ho rfl n rfl)
 have hj:k<vs.size:=by exact Nat.lt_of_lt_of_eq hk (id (Eq.symm z))
 have hg:=get?_update_self (mapSeq (·.setIfInBounds k u)) ho rfl
 have kp:∀ b o,b≠a->s.heap.get? b=some o->(s.heap.update a (mapSeq (·.setIfInBounds k u))).get? b=some o:=λb o hb e=>(get?_update_other _ _ (Ne.symm hb)).trans e
 have rv:∀ v x,RV own s.heap v x->RV own (s.heap.update a (mapSeq (·.setIfInBounds k u))) v x:=λv x r=>fV I hc kp r
 have Hu:bV own (s.heap.update a (mapSeq (·.setIfInBounds k u))) (vs.setIfInBounds k u).toList (xs.set k mv):=by
  apply ⟨by simp [z],λi w y e1 e2=>?_⟩
  rw [Array.toList_setIfInBounds,getElem?_set] at e1
  rw [getElem?_set] at e2
  by_cases q:k=i
  ·rw [if_pos q] at e1 e2
   split at e1
   ·cases e1
    split at e2
    ·cases e2;exact rv _ _ ru
    ·rename_i q1 q2;exact (q2 hk).elim
   ·exact bf e1
  ·rw [if_neg q] at e1 e2
   exact rv _ _ (rs.2 i w y e1 e2)
 (apply aC (I.iX (t:=s.toks) hc kp (bJ _ hg) (c':=.list (xs.set k mv)) (ez _ _ hg Hu)) ?_;intro B xt)
 exact D2 ho (natCast_nonneg k) (by lia) (ofNat_lt.mpr hj) (by rw [toNat_natCast];exact ⟨own,_,(),B,trivial,xt,h⟩)
theorem Bz{a:Addr}{xs:List V}{k:Nat}{Ψ:Cells->Prop}(hc:cells a=some (.list xs))(hk:k<xs.length)(hz:xs.length<=1000)(h:Ψ (upd cells a (some (.list (xs.eraseIdx k))))):pF X A (.ref a) (.int k) Ψ cells:=λv iv own s I zq=>aC zq λr ri=>by
 apply RV.e0 r rfl ?_;apply RV.e1 ri rfl λt=>?_
 apply dQ (I.cell a _ hc) λoa vs n ho rs=>?_
 have z:vs.size=xs.length:=by simpa using rs.1
 apply PySem.P.delItem_list (k:=k) ho (fitsIndex_of (natCast_nonneg k) (by lia)) (kX (Nat.lt_of_lt_of_eq hk (id (Eq.symm z)))) ?_ (by rw [z];unfold sizeLine;exact zl (by assumption) rfl)
 have hg:=get?_update_self (mapSeq (·.eraseIdxIfInBounds k)) ho rfl
 have kp:∀ b o,b≠a->s.heap.get? b=some o->(s.heap.update a (mapSeq (·.eraseIdxIfInBounds k))).get? b=some o:=λb o hb e=>(get?_update_other _ _ (Ne.symm hb)).trans e
 have rv:∀ v x,RV own s.heap v x->RV own (s.heap.update a (mapSeq (·.eraseIdxIfInBounds k))) v x:=λv x r=>fV I hc kp r
 have Hu:bV own (s.heap.update a (mapSeq (·.eraseIdxIfInBounds k))) (vs.eraseIdxIfInBounds k).toList (xs.eraseIdx k):=by
  have e:(vs.eraseIdxIfInBounds k).toList=vs.toList.eraseIdx k:=by
   rw [Array.eraseIdxIfInBounds]
   split
   ·exact Array.toList_eraseIdx
   ·rename_i q;exact (q (Nat.lt_of_lt_of_eq hk (id (Eq.symm z)))).elim
  rw [e]
  have hl:vs.toList.length=xs.length:=rs.1
  apply ⟨by rw [List.length_eraseIdx,List.length_eraseIdx,hl],λi w y e1 e2=>?_⟩
  rw [List.getElem?_eraseIdx] at e1 e2
  by_cases q:i<k
  ·rw [if_pos q] at e1 e2;exact rv _ _ (rs.2 i w y e1 e2)
  ·rw [if_neg q] at e1 e2;exact rv _ _ (rs.2 (i+1) w y e1 e2)
 (apply aC (I.iX (t:=s.toks) hc kp (bJ _ hg) (c':=.list (xs.eraseIdx k)) (ez _ _ hg Hu)) ?_;intro B xt)
 exact ⟨own,_,(),B,trivial,xt,h⟩
end
section
open PySem.Builtin.Str
variable {env bU:Env}{own1:Own}{l:Loc}{c:Cells}{s1 s2:Shared}{P C:Addr}{m2:Str->Option Value}
def rS(X:Cx)(A:Around)(own1:Own)(s1:Shared)(P C:Addr)(m2:Str->Option Value)(t:Sem Value)(x:Str)(n:Nat):Prop:=∀ s2 (Q:Value->Shared->Prop) E,GS own1 s1 P C m2 s2->(∀ tk s3,PySem.Keeps s2 s3->n<=s3.toks->Q (.str x tk) s3)->wpAny (model X.prog X.w) A t Q E s2
noncomputable def Am (x y:Str):List Nat:=occurrences x y 0 x.length (x.length+1)
noncomputable def gG (x y z:Str):Str:=if ((Am x y).isEmpty||(y.length == 0&&z.length == 0))=true then x else glued z (partsBetween x (Am x y) y.length)
theorem GO{x:Str}{p:Pos}{v:Value}{y:Str}(hk:bU.kindOf x=some .local)(hs:bU.scope.kind=.function)(hC:bU.locals=C)(hm:m2 x=some v)(hP:own1 P=some P)(r:RV own1 s1.heap v (.str y))(hd:autoParam ((x == ("__debug__":Str))=false) aDK) :
  rS X A own1 s1 P C m2 (eval (.Name x p) bU) y 0:=λs2 Q E G k=>by
 apply wpAny_Name (wpAny_loadName_local hs hk (hC▸G.ns) hm ?_) hd
 apply RV.e1 r rfl λt=>?_
 exact k t s2 (jQ s2) (zero_le _)
theorem rS.gen{t:Sem Value}{x:Str}{n:Nat}{F:Value->Prop}{E:Value->Shared->Prop}(G:GS own1 s1 P C m2 s2)(hF:∀ tk,F (.str x tk))(h:rS X A own1 s1 P C m2 t x n):wpAny (model X.prog X.w) A t (λu s3=>F u/\PySem.Keeps s2 s3) E s2:=h s2 _ E G λtk s3 kp Z=>⟨hF tk,kp⟩
theorem xU{o:Expr}{y z:Str}{k1 k2:Nat}{p1 p2 apos pos:Pos}{pl:Sem Bool}{x:Str}{n:Nat}(I:Base X own1 c s1)(hP:own1 P=some P)(h:rS X A own1 s1 P C m2 (eval o bU) x n)(hz:(gG x y z).length<=1000)(hf:(Am x y).isEmpty=false->1<=n/\(y == z)=false/\tooLong (x.length+(Am x y).length * z.length)=false)(he:eval (.Call (.Attribute o "replace" apos) [.Constant (.str y) k1 p1,.Constant (.str z) k2 p2] [] pos) bU=(do let ov <- eval o bU;standAt apos.atName;let (f,first) <- holding [ov] (getMethod ov "replace" pl);callWith pos f first (backTo pos (starEach [.Constant (.str y) k1 p1,.Constant (.str z) k2 p2] bU)) []))(h1:starEach [.Constant (.str y) k1 p1,.Constant (.str z) k2 p2] bU=(false,eval (.Constant (.str y) k1 p1) bU)::starEach [.Constant (.str z) k2 p2] bU)(h2:starEach [.Constant (.str z) k2 p2] bU=(false,eval (.Constant (.str z) k2 p2) bU)::starEach [] bU) :
  rS X A own1 s1 P C m2 (eval (.Call (.Attribute o "replace" apos) [.Constant (.str y) k1 p1,.Constant (.str z) k2 p2] [] pos) bU) (gG x y z) (n+2):=λs2 Q E G k=>by
 apply MethodCall_ (pl:=pl) (h s2 _ E G λtk s3 kp hn=>?_) he
 apply getMethod_builtin (typeIs_str s3 x tk) PySem.F.plainAttrs_str F.slot_str_replace F.type_str_replace (λa q=>by cases q) ?_
 apply eW (X:=X) (own:=own1) (f:=.bi "str.replace") trivial (.bi _) ?_ (by rw [h1,h2];rfl)
 apply spliced_more (wpAny_Constant_str ?_) h1
 apply spliced_more (wpAny_Constant_str ?_) h2
 apply spliced_none ⟨(G.go kp).K I hP,?_⟩
 apply call_gives F.slot_str_replace (typeIs_str _ _ _) F.entry_str_replace (F.args_str_replace_3 _ _ _) (gives_str_replace _ _ _ _ _ _ λq=>?_) ?_
 ·have q':(Am x y).isEmpty=false:=(Bool.or_eq_false_iff.mp q).1
  obtain ⟨a1,a2,a3⟩:=hf q'
  apply (aX ?_ ?_ a2 a3)
  ·exact Bool.or_eq_false_iff.mpr ⟨beq_eq_false_iff_ne.mpr (show s3.toks≠0 by omega),beq_eq_false_iff_ne.mpr (Nat.succ_ne_zero _)⟩
  ·exact beq_eq_false_iff_ne.mpr (ne_of_lt (lt_succ_self _))
 ·unfold gG at k hz
  by_cases q:((Am x y).isEmpty||(y.length == 0&&z.length == 0))=true
  ·rw [if_pos q] at k
   have q':((occurrences x y 0 x.length (x.length+1)).isEmpty||(y.length == 0&&z.length == 0))=true:=q
   rw [if_pos q']
   exact k tk _ (dY kp (jR s3 _)) (by show n+2<=s3.toks+1+1;exact add_le_add_right hn 2)
  ·rw [if_neg q] at k hz
   have q':¬ ((occurrences x y 0 x.length (x.length+1)).isEmpty||(y.length == 0&&z.length == 0))=true:=q
   rw [if_neg q']
   exact ⟨le_trans hz (by decide),k _ _ (dY kp (jR s3 _)) (by show n+2<=s3.toks+1+1+1;lia)⟩
end
namespace L1
noncomputable def IL:List Stmt:=rF (big.getD 1 default)
noncomputable def b8 (x y:Str):List Str:=if decide ((cm y 0).cps.toList<(cm x (x.length - 1)).cps.toList)=true then [Txt.slice x none (some (-1))++Txt.slice y (some 1) none] else [x,y]
noncomputable def gH (x:Str):Str:=gG (gG x (ofString "\\") (ofString "\\\\")) (ofString "-") (ofString "\\-")
noncomputable def hW (p:Str) (i:Nat):Nat:=if (cm p (i+1) == ofString "!")=true then i+3 else i+2
noncomputable def wx (x:Str):Bool:=(Am x (ofString "\\")).isEmpty&&decide (x.length<=400)&&decide ((gH x).length<=400)&&!Builtin.Str.tooLong (x.length+(Am x (ofString "-")).length * 2)
structure BA(p:Str)(i D J:Nat)(x y:Str):Prop where
 hx:x=Txt.slice p (some ((i+1:Nat):Int)) (some (D:Int))
 hy:y=Txt.slice p (some ((D+1:Nat):Int)) (some (J:Int))
 f1:dp p (ofString "-") (hW p i) J=D
 f2:dp p (ofString "-") (D+3) J=-1
 lx:1<=x.length/\x.length<=200
 ly:1<=y.length/\y.length<=200
 le:D<=1000/\J<=1000
 lm:∀ z∈b8 x y,wx z=true
 lz:(Txt.slice x none (some (-1))).length<=200/\(Txt.slice y (some 1) none).length<=200
section
variable {Y:Cx}{A:Around}{k:Nat}{c0 c:Cells}{p:Str}{a u L:Addr}{i:Nat}{ps:List V}{l:Loc}{Φ:MF->Loc->Cells->Prop}
theorem wy:rangeSize 1 0 (-1)=1:=by decide +kernel
theorem zD(G:G1 Y)(T:T1 Y)(hA:Rm Y A (k+1))(C:oH c0 c a u ps)(hl:Sub (aZ p a u i) l)(hz:p.length<=1000)(hp:ps.length<=1000){D J:Nat}{x y stuff:Str}(B:D0 p i J)(hJ:cE p i<=J)(F3:∀ t,cE p i<=t->t<J->(cm p t == ofString "]")=false)
  (hs:Txt.contains (Txt.slice p (some ((i+1:Nat):Int)) (some (J:Int))) (ofString "-")=true) (Da:BA p i D J x y) (he:stuff=join (ofString "-") ((b8 x y).map gH)) (hj:JoinOk (ofString "-") ((b8 x y).map gH)=true)
  (s3:∀ i,i<stuff.cps.size->amp (stuff.cps.getD i 0)=false) (s4:stuff.length<=200) (s5:(Txt.slice stuff (some 1) none).length<=200)
  (h:∀ l' c',Sub (aZ p a u (J+1)) l'->oH c0 c' a u (ps++[.str (pieceOf stuff)])->Φ .next l' c'):mS Y A (trEnv L) (execs trBody (trEnv L)) Φ l c:=by
 have b3:=B.len
 have b2:=B.lt
 obtain ⟨hx,hy,f1,f2,lx,ly,le,lm,lz⟩:=Da
 apply rR T hA hl hz B hJ F3 ?_
 apply aa (ao (.inl rfl) (cj (m_var rfl (bC (m_var rfl (bC (m_var rfl (bB (eF (ag (by lia)) ?_)))))))))
 apply aa (bt (aE (aK (m_var rfl (ui (ar (dO (by rw [hs];rfl) ?_)))))))
 apply aa (ao (.inl rfl) (cz (a_nil ⟨zero_le _,λhc hh=>?_⟩)))
 apply aa (ao (.inl rfl) (xB (v:=.int (hW p i:Int)) (jK (aE (m_item (m_var rfl (m_var rfl (dh (lt_trans b2 b3) (by lia) (aK (dB (ar ?_))))))))) ?_))
 ·by_cases q:(cm p (i+1) == ofString "!")=true
  ·apply bR q (aY (m_var rfl (m_int (dX ⟨?_,rfl,rfl⟩))))
   unfold hW;rw [if_pos q];exact congrArg V.int (Int.mem_toNat?.mp rfl)
  ·apply dO (eq_false_iff.mpr q) (aY (m_var rfl (m_int (dX ⟨?_,rfl,rfl⟩))))
   unfold hW;rw [if_neg q];exact congrArg V.int (Int.ofNat_add_one_out (i+1))
 have cell:∀ xs,(upd c hc (some (.list xs))) hc=some (.list xs):=λxs=>ah _ _ _
 have names:∀ (i1 k1:Nat) {l:Loc},l.lookup ("i":Str)=some (.int i1)->l.lookup ("k":Str)=some (.int k1)->l.lookup ("chunks":Str)=some (.ref hc)->l.lookup ("j":Str)=some (.int J)->l.lookup ("n":Str)=some (.int p.length)->l.lookup ("add":Str)=some (.ref u)->l.lookup ("res":Str)=some (.ref a)->l.lookup ("pat":Str)=some (.str p)->l.lookup ("STAR":Str)=some .none->l.lookup ("QUESTION_MARK":Str)=some (.int 0)->Sub (("k",.int k1)::("chunks",.ref hc)::("j",.int J)::aZ p a u i1) l :=
  λi1 k1 l e1 e2 e3 e4 e5 e6 e7 e8 e9 Ow=>Sub.of ⟨e2,e3,e4,e1,e5,e6,e7,e8,e9,Ow,trivial⟩
 apply aa (gE (λn l c'=>∃ xs i1 k1,c'=upd c hc (some (.list xs))/\Sub (("k",.int (k1:Nat))::("chunks",.ref hc)::("j",.int J)::aZ p a u i1) l/\((n=1/\xs=[]/\i1=i+1/\k1=hW p i)\/(n=0/\xs=[V.str x]/\i1=D+1/\k1=D+3))) 1
  (iDDDPPP ([]) (i+1) (hW p i) rfl (names _ _ rfl rfl rfl rfl rfl rfl rfl rfl rfl rfl) (.inl (aX rfl rfl rfl rfl))) ?_)
 (intro n l c' aM;apply eg aM ?_;clear aM;intro xs i1 k1 bk;subst bk;intro iU IM)
 apply cL.le iU ?_
 apply dU (fu (ar (bR rfl ?_)))
 apply aa (ao (.inl rfl) (aI (m_var rfl (pj F.slot_str_find F.type_str_find ⟨trivial,af (aK (af (m_var rfl (af (m_var rfl (a_nil (D1 ?_)))))))⟩))))
 rcases IM with ⟨rfl,rfl,rfl,rfl⟩ | ⟨rfl,rfl,rfl,rfl⟩
 ·rw [f1]
  apply aa (bt (aE (m_var rfl (m_int (ph (ar (dO (decide_eq_false (not_ofNat_neg D)) (au ?_))))))))
  apply aa (cy (aI (m_var rfl (eG (cell _) PySem.F.slot_list_append rfl ⟨trivial,af (cj (m_var rfl (bC (m_var rfl (bC (m_var rfl (bB (eF (ag (by lia)) (a_nil (c_append (cell _) (zero_le _) ?_))))))))))⟩))))
  rw [<- hx,cg]
  apply aa (ao (.inl rfl) (aY (m_var rfl (m_int (dX ?_)))))
  apply aa (ao (.inl rfl) (aY (m_var rfl (m_int (dX (au ?_))))))
  exact (md 0 Nat.one_pos ([V.str x]) (D+1) (D+3) rfl (names _ _ rfl rfl rfl rfl rfl rfl rfl rfl rfl rfl) (.inr (aX rfl rfl rfl rfl)))
 rw [f2]
 apply aa (bt (aE (m_var rfl (m_int (ph (ar (bR rfl (aa (xp ?_)))))))))
 apply aa (ao (.inl rfl) (cj (m_var rfl (bC (m_var rfl (bC (m_var rfl (bB (eF (ag (by lia)) ?_)))))))))
 rw [<- hy]
 apply aa (bt (dU (m_var rfl (ET (ag (by lia)) (bR (by simp;lia) ?_)))))
 apply aa (cy (aI (m_var rfl (eG (cell _) PySem.F.slot_list_append rfl ⟨trivial,af (m_var rfl (a_nil (c_append (cell _) (ag (by show 1<=_;decide)) ?_)))⟩))))
 rw [cg]
 apply au ?_
 apply aa (dC (bind:=λv l=>("k",v)::l) (dk (az rfl G.range trivial (af (aY (az rfl T.1.len trivial (af (m_var rfl (a_nil (pE (cell _) (ag (by show 2<=_;decide)) (m_int (kW ?_))))))))))))
 apply af (m_int (af (m_un (m_int (o_neg (a_nil (AO (by decide) (PyProof.noPylong_small (by decide)) ?_)))))))
 rw [show ((([V.str x]++[V.str y]:List V).length:Nat):Int) - 1=1 from rfl]
 apply (iDPP _ (pb hA.hh (by decide +kernel) (by decide +kernel)) ?_)
 have wa:∀ l2,Sub (("chunks",.ref hc)::("j",.int J)::aZ p a u (D+1)) l2->mS Y A (trEnv L) (execs (IL.drop 6) (trEnv L)) (yA Y A (trEnv L) (big.drop 2) Φ) l2 (upd c hc (some (.list (fc (b8 x y))))):=λl2 t4=>by
  apply cL.le t4 ?_
  apply cL.freeze (x:="chunks") rfl (cell _) ?_
  rw [cg]
  have C2:oH c0 (upd c hc none) a u ps:=C.new hh
  generalize upd c hc none=c2 at C2 ⊢
  apply aa (ao (.inl rfl) (pV (P:=uR) (c:=lG) hA rfl T.1.code T.2 (aK ⟨rfl,m_var rfl (fQ (fc (b8 x y)) (λv=>match v with | .str z=>gH z | _=>default) C2.tab DU ?_ ?_ ?_ ?_)⟩)))
  ·have:(b8 x y).length<=2:=by unfold b8;split <;> simp
   simp [fc];omega
  ·intro own1 s1 I A2 E2 i y' v s2 C' m2 code PQ Z Z hi rv hN hm kp
   have xT:=(I.base.cell uR .tab C2.tab).1
   have JS:=hi
   unfold fc at JS
   rw [getElem?_map,map_eq_some_iff] at JS
   (apply aj JS ?_;try clear JS;intro z Hv bN;subst bN)
   have ok:=lm z (mem_of_getElem? Hv)
   unfold wx at ok
   simp only [and_eq_true,decide_eq_true_eq,not_eq_true'] at ok
   (apply aC ok ?_;try clear ok;intro cI o4;apply aC cI ?_;clear cI;intro dH o3;apply aC dH ?_;clear dH;intro o1 o2)
   have e1:gG z (ofString "\\") (ofString "\\\\")=z:=by unfold gG;rw [o1,Bool.true_or,if_pos rfl]
   have er:gG z (ofString "-") (ofString "\\-")=gH z:=by unfold gH;rw [e1]
   apply rS.gen (own1:=own1) (x:=gH z) (n:=0+2+2) ⟨hN,kp⟩ (λtk=>(ez _ tk hi rfl)) ?_
   have q1:(gG z (ofString "\\") (ofString "\\\\")).length<=1000:=by rw [e1];omega
   have q2:(gG (gG z (ofString "\\") (ofString "\\\\")) (ofString "-") (ofString "\\-")).length<=1000:=by rw [e1,er];omega
   have q3:(Am z (ofString "\\")).isEmpty=false->1<=0/\(ofString "\\" == ofString "\\\\")=false/\Builtin.Str.tooLong (z.length+(Am z (ofString "\\")).length * (ofString "\\\\").length)=false:=λq=>by rw [o1] at q;exact Bool.noConfusion q
   have q4:(Am (gG z (ofString "\\") (ofString "\\\\")) (ofString "-")).isEmpty=false->1<=0+2/\(ofString "-" == ofString "\\-")=false/\Builtin.Str.tooLong ((gG z (ofString "\\") (ofString "\\\\")).length+(Am (gG z (ofString "\\") (ofString "\\\\")) (ofString "-")).length * (ofString "\\-").length)=false:=λZ=>by
    rw [e1]
    exact ⟨by omega,by decide +kernel,by rw [show (ofString "\\-").length=2 by decide +kernel];exact o4⟩
   exact xU I.base xT (xU I.base xT (GO rfl rfl rfl hm xT rv) q1 q3 rfl rfl rfl) q2 q4 rfl rfl rfl
  ·have e:(fc (b8 x y)).map (λv=>match v with | .str z=>gH z | _=>default)=(b8 x y).map gH:=by
    unfold fc;rw [map_map];rfl
   rw [e];exact hj
  ·have e:(fc (b8 x y)).map (λv=>match v with | .str z=>gH z | _=>default)=(b8 x y).map gH:=by
    unfold fc;rw [map_map];rfl
   rw [e,<- he]
   apply au ?_
   exact cL.le Sub.rfl (pX T hA C2 (J:=J) (s:=stuff) (Sub.of (kh rfl rfl rfl rfl rfl rfl rfl rfl trivial)) hp s4 s3 s5 h)
 have ei:aQ 1 (-1) (rangeSize 1 0 (-1)).toNat=[V.int 1]:=by rw [wy];rfl
 rw [ei]
 have GP:(1:Int) - 1=((0:Nat):Int):=rfl
 have zx:1<=x.length:=lx.1
 have zy:1<=y.length:=ly.1
 have lst:∀ xs:List V,xs.length<=10->xs.length<=1000000:=λxs h=>by omega
 apply (dS (λZ=>("chunks",.ref hc)::("j",.int J)::aZ p a u (D+1)) (λi c'=>c'=upd c hc (some (.list (if i=0 then [V.str x,V.str y] else fc (b8 x y))))) (⟨Sub.of ⟨by rfl',by rfl',by rfl',by rfl',by rfl',by rfl',by rfl',by rfl',by rfl',trivial⟩,rfl⟩) (λv hv=>dW (.inl rfl)) (λv hv l l' hs=>Sub.cons hs) (λi v c' hv F7=>?_) (λl2 c' t4 F7=>?_))
 ·have ML:i=0/\v=.int 1:=by
   have:=List.getElem?_eq_some_iff.mp hv
   obtain ⟨h1,h2⟩:=this
   simp at h1
   subst h1
   exact ⟨rfl,h2.symm⟩
  (apply aC ML ?_;try clear ML;intro eC;subst eC;intro fR;subst fR)
  rw [if_pos rfl] at F7
  subst F7
  rw [show (if (0+1=0) then [V.str x,V.str y] else fc (b8 x y))=fc (b8 x y) from rfl]
  apply aa (bt (aE (m_item (m_item (m_var rfl (aY (m_var rfl (m_int (kW ?_)))))))))
  rw [GP]
  apply mx (j:=0) (cell _) rfl (lst _ (by show 2<=10;decide)) (m_un (m_int (o_neg (xD zx (by omega) ?_))))
  apply m_item (m_item (m_var rfl (m_var rfl (mx (j:=1) (x:=.str y) (cell _) rfl (lst _ (by show 2<=10;decide)) (m_int (dh (j:=0) zy (by omega) (IK (ar ?_))))))))
  by_cases q:decide ((cm y 0).cps.toList<(cm x (x.length - 1)).cps.toList)=true
  ·apply bR q ?_
   have em:b8 x y=[Txt.slice x none (some (-1))++Txt.slice y (some 1) none]:=by unfold b8;rw [if_pos q]
   rw [em]
   apply aa (j8 (aY (cj (m_item (m_var rfl (aY (m_var rfl (m_int (kW ?_)))))))))
   rw [GP]
   apply mx (j:=0) (x:=.str x) (cell _) rfl (lst _ (by show 2<=10;decide)) (bB (bC (m_un (m_int (o_neg (bB (eF (ag (by omega)) ?_)))))))
   apply cj (m_item (m_var rfl (m_var rfl (mx (j:=1) (x:=.str y) (cell _) rfl (lst _ (by show 2<=10;decide)) (bC (m_int (bB (bB (eF (ag (by omega)) (mr ?_ ?_))))))))))
   ·exact ag (by omega)
   apply m_var rfl (aY (m_var rfl (m_int (kW ?_))))
   rw [GP]
   apply D3 (k:=0) (cell _) (by show 0<2;decide) (by show 2<=1000;decide) ?_
   rw [cg]
   apply aa (pG (m_var rfl (m_var rfl (Bz (k:=1) (cell _) (by show 1<2;decide) (by show 2<=1000;decide) ?_))))
   rw [cg]
   exact au (au ⟨Sub.of ⟨rfl,rfl,rfl,rfl,rfl,rfl,rfl,rfl,rfl,trivial⟩,rfl⟩)
  ·apply dO (eq_false_iff.mpr q) ?_
   have em:b8 x y=[x,y]:=by unfold b8;rw [if_neg q]
   rw [em]
   exact au (au ⟨Sub.of ⟨rfl,rfl,rfl,rfl,rfl,rfl,rfl,rfl,rfl,trivial⟩,rfl⟩)
 ·have Al:c'=upd c hc (some (.list (fc (b8 x y)))):=F7
  subst Al
  exact wa l2 t4
end
end L1
section
variable {c:Cells}
theorem Gh.wz{a b:Addr}{i:Nat}{xs ys:List V}(hc:c a=some (.list ys))(hb:c b=some (.list xs))(H4:b≠a)(hi:xs[i]?=some (.ref a)) :
  Gh X c (upd (upd c a none) b (some (.list (xs.set i (.list ys))))):=λown s B=>by
 apply gu (B.freeze hc) λown' B' r x rv ho=>?_
 have H5:(upd c a none) b=some (.list xs):=by rw [ae _ H4];exact hb
 apply dQ (B'.cell b _ H5) λob vs n e rs=>?_
 apply (iDPP own' (B'.gT λy q=>?_) (x.trans (ir H5 rfl)))
 cases q
 apply ⟨ob,vs,n,e,(by rw [rs.1,List.length_set]),(λj v y hv hy=>?_)⟩
 rw [getElem?_set] at hy
 by_cases hj:i=j
 ·subst hj
  rw [if_pos rfl] at hy
  split at hy
  ·cases hy
   have:=rs.2 i v _ hv hi
   cases this
   exact r
  ·exact bf hy
 ·rw [if_neg hj] at hy
  exact rs.2 j v y hv hy
end
namespace L1
noncomputable abbrev Item:=Str×Test
noncomputable def fk (p:Item):V:=.tuple [.str p.1,gF p.2]
noncomputable def kA (r:List Item):V:=.list (r.map fk)
noncomputable def it (s:String) (b:Bool) (m:String):Item:=(ofString s,some (b,ofString m))
noncomputable def ff:List Item:=[(ofString "*",none),it "." false ".",it "a" false "a",it "?" true "",it "[.a]" false ".a",it "[!.]" true ".",it "[b-a]" false "",it "[!b-a]" true "",it "[--/]" false "-./",it "[!a-b]" true "ab",it "[*]" false "*",it "[[]" false "[",it "[]a]" false "]a"]
noncomputable def tD:Str:=ofString "-]!^&~|\\# \t\u0085\u2028é"
noncomputable def signOf (n:Int):Str:=cm tD ((n.fdiv 15).fmod 14).toNat
noncomputable def jz (x:Str):Item:=(x,some (false,x))
noncomputable def gI:List (List Item):=[[it "." false ".",it "a" false "a"],[it "?" true "",it "a" false "a"],[(ofString "*",none),it "." false ".",it "." false ".",it "a" false "a"]]
noncomputable def lH (xss:List (List Item)) (j:Nat) (x:Item):List (List Item):=xss.set j (xss.getD j []++[x])
noncomputable def eM (n:Int):Option Item:=if n.fmod 15<13 then some (ff.getD (n.fmod 15).toNat default) else if n.fmod 15=13 then some (jz (signOf n)) else none
noncomputable def c9 (xss:List (List Item)) (i:Nat) (n:Int):List (List Item) :=
 match eM n with
 | some x=>lH (if i<3 then xss++[[]] else xss) (i % 3) x
 | none=>if i<3 then xss++[[]] else xss
noncomputable def bb (ns:List Int):Nat->List (List Item)
 | 0=>[]
 | i+1=>c9 (bb ns i) i (ns.getD i 0)
noncomputable def rowsOf (ns:List Int):List (List Item):=gI++bb ns ns.length
theorem rT(xss:List (List Item))(j:Nat)(x:Item):(lH xss j x).length=xss.length:=List.length_set
theorem uT{xss:List (List Item)}{i:Nat}{n:Int}(h:xss.length=min 3 i):(c9 xss i n).length=min 3 (i+1):=by
 have e:(if i<3 then xss++[[]] else xss).length=min 3 (i+1):=by
  split
  ·rw [length_append,h];simp;lia
  ·rw [h];lia
 unfold c9
 split
 ·rw [rT];exact e
 ·exact e
theorem jA(ns:List Int):∀ i,(bb ns i).length=min 3 i
 | 0=>rfl
 | i+1=>uT (jA ns i)
def RowC(c0 c:Cells)(R:Addr)(rs:List Addr)(xss:List (List Item)):Prop :=
 (c R=some (.list (gI.map kA++rs.map .ref))) /\
 (rs.length=xss.length) /\
 (∀ (j:Nat) a,rs[j]?=some a->c a=some (.list ((xss.getD j []).map fk))) /\
 (rs.Nodup) /\
 (R ∉ rs) /\
 (∀ b y,c0 b=some y->c b=some y) /\
 (c0 R=none/\∀ a∈rs,c0 a=none)
theorem RowC.rows{c0 c:Cells}{R:Addr}{rs:List Addr}{xss:List (List Item)}(S:RowC c0 c R rs xss):c R=some (.list (gI.map kA++rs.map .ref)):=S.1
theorem RowC.len{c0 c:Cells}{R:Addr}{rs:List Addr}{xss:List (List Item)}(S:RowC c0 c R rs xss):rs.length=xss.length:=S.2.1
theorem RowC.row{c0 c:Cells}{R:Addr}{rs:List Addr}{xss:List (List Item)}(S:RowC c0 c R rs xss):∀ (j:Nat) a,rs[j]?=some a->c a=some (.list ((xss.getD j []).map fk)):=S.2.2.1
theorem RowC.nd{c0 c:Cells}{R:Addr}{rs:List Addr}{xss:List (List Item)}(S:RowC c0 c R rs xss):rs.Nodup:=S.2.2.2.1
theorem RowC.nR{c0 c:Cells}{R:Addr}{rs:List Addr}{xss:List (List Item)}(S:RowC c0 c R rs xss):R ∉ rs:=S.2.2.2.2.1
theorem RowC.old{c0 c:Cells}{R:Addr}{rs:List Addr}{xss:List (List Item)}(S:RowC c0 c R rs xss):∀ b y,c0 b=some y->c b=some y:=S.2.2.2.2.2.1
theorem RowC.na{c0 c:Cells}{R:Addr}{rs:List Addr}{xss:List (List Item)}(S:RowC c0 c R rs xss):c0 R=none/\∀ a∈rs,c0 a=none:=S.2.2.2.2.2.2
theorem RowC.push{c0 c:Cells}{R a:Addr}{rs:List Addr}{xss:List (List Item)}(C:RowC c0 c R rs xss)(ha:c a=none):RowC c0 (upd (upd c a (some (.list []))) R (some (.list (gI.map kA++(rs++[a]).map .ref)))) R (rs++[a]) (xss++[[]]):=by
 have hR:R≠a:=λz=>by rw [<- z,C.rows] at ha;exact dc ha
 have hm:a ∉ rs:=λh=>by
  apply bw (getElem?_of_mem h) λj hj=>?_
  rw [C.row j a hj] at ha;exact dc ha
 apply ⟨ah _ _ _,by rw [length_append,length_append,C.len];rfl,λj b hj=>?_,nodup_append.mpr ⟨C.nd,by simp,λx hx y hy=>by rw [mem_singleton.mp hy];exact λz=>hm (z▸hx)⟩,λh=>(mem_append.mp h).elim C.nR λh=>hR (mem_singleton.mp h),λb y e=>?_,C.na.1,λb hb=>(mem_append.mp hb).elim (C.na.2 b) λh=>?_⟩
 ·have Ox:b≠R:=λz=>by
   have:=mem_of_getElem? hj
   rw [z] at this
   exact (mem_append.mp this).elim C.nR λh=>hR (mem_singleton.mp h)
  rw [ae _ Ox]
  by_cases q:j<rs.length
  ·rw [List.getElem?_append_left q] at hj
   have LD:b≠a:=λz=>hm (z▸mem_of_getElem? hj)
   rw [ae _ LD,C.row j b hj,getD_eq_getElem?_getD,getD_eq_getElem?_getD,List.getElem?_append_left (by rw [<- C.len];exact q)]
  ·have e:j=rs.length:=by
    have:=(List.getElem?_eq_some_iff.mp hj).1
    rw [length_append] at this
    simp at this;exact Nat.eq_of_lt_succ_of_not_lt this q
   subst e
   rw [getElem?_append_right (le_refl _)] at hj
   simp at hj
   rw [hj]
   rw [ah,getD_eq_getElem?_getD,C.len,getElem?_append_right (le_refl _)]
   simp
 ·have h1:=C.old b y e
  rw [ae _ (λz=>by rw [z,C.na.1] at e;exact bf e),ae _ (λz=>by rw [z,ha] at h1;exact bf h1)]
  exact h1
 ·rw [mem_singleton.mp h]
  cases q:c0 a with
  | none=>rfl
  | some y=>rw [C.old a y q] at ha;exact dc ha
theorem RowC.add{c0 c:Cells}{R a:Addr}{rs:List Addr}{xss:List (List Item)}{j:Nat}{x:Item}(C:RowC c0 c R rs xss)(hj:rs[j]?=some a):RowC c0 (upd c a (some (.list ((xss.getD j []).map fk++[fk x])))) R rs (lH xss j x):=by
 have hR:R≠a:=λz=>C.nR (z▸mem_of_getElem? hj)
 have uj:=(List.getElem?_eq_some_iff.mp hj).1
 apply ⟨by rw [ae _ hR];exact C.rows,by rw [rT];exact C.len,λi b hi=>?_,C.nd,C.nR,λb y e=>?_,C.na⟩
 ·unfold lH
  by_cases q:j=i
  ·subst q
   rw [hj] at hi;cases hi
   rw [ah,getD_eq_getElem?_getD (l:=xss.set _ _),getElem?_set,if_pos rfl,if_pos (by rw [<- C.len];exact uj)]
   simp
  ·have LD:b≠a:=λz=>by
    subst z
    exact q ((List.getElem?_inj uj C.nd).mp (hj.trans hi.symm))
   rw [ae _ LD,C.row i b hi,getD_eq_getElem?_getD (l:=xss.set _ _),getElem?_set,if_neg q,<- getD_eq_getElem?_getD]
 ·rw [ae _ (λz=>by rw [z,C.na.2 a (mem_of_getElem? hj)] at e;exact bf e)]
  exact C.old b y e
theorem xV{X:Cx}{R:Addr}:∀ (rs:List Addr) (IP:List (List V)) (pre:List V) (c:Cells),c R=some (.list (pre++rs.map .ref))->rs.length=IP.length->(∀ (j:Nat) a ys,rs[j]?=some a->IP[j]?=some ys->c a=some (.list ys))->rs.Nodup->R ∉ rs ->
  ∃ c',Gh X c c'/\c' R=some (.list (pre++IP.map .list))/\∀ b y,b≠R->b ∉ rs->c b=some y->c' b=some y
 | [],[],pre,c,h,_,_,_,_=>(aV c .refl h (λZ Z Z Z e=>e))
 | [],_::_,_,_,_,h,_,_,_=>by cases h
 | _::_,[],_,_,_,h,_,_,_=>by cases h
 | a::rs,ys::IP,pre,c,h,hl,hr,hn,hR=>by
  have ha:=hr 0 a ys rfl rfl
  have LF:R≠a:=λz=>hR (z▸mem_cons_self)
  rw [nodup_cons] at hn
  have g:=Gh.wz (X:=X) (i:=pre.length) ha h LF (by simp)
  have e:(pre++(a::rs).map V.ref).set pre.length (.list ys)=(pre++[.list ys])++rs.map V.ref:=by
   rw [List.set_append_right _ _ (le_refl _)];simp
  rw [e] at g
  obtain ⟨c',g',h1,h2⟩:=xV (X:=X) (R:=R) rs IP (pre++[.list ys]) (upd (upd c a none) R (some (.list ((pre++[.list ys])++rs.map .ref)))) (ah _ _ _) (Nat.succ.inj hl) (λj b zs h1 h2=>by
   have hb:=mem_of_getElem? h1
   have n1:b≠R:=λz=>hR (by rw [<- z];exact mem_cons_of_mem _ hb)
   have n2:b≠a:=λz=>hn.1 (by rw [<- z];exact hb)
   rw [ae _ n1,ae _ n2]
   exact hr (j+1) b zs h1 h2) hn.2 (λz=>hR (mem_cons_of_mem _ z))
  apply (aV c' (g.trans g') (by rw [h1,append_assoc];rfl) (λb y b1 b2 e=>h2 b y b1 (λz=>b2 (mem_cons_of_mem _ z)) ?_))
  have n2:b≠a:=λz=>b2 (by rw [z];exact mem_cons_self)
  rw [ae _ b1,ae _ n2]
  exact e
theorem RowC.stop{X:Cx}{c0 c:Cells}{R:Addr}{rs:List Addr}{xss:List (List Item)}(C:RowC c0 c R rs xss):∃ c',Gh X c c'/\c' R=some (.list ((gI++xss).map kA))/\∀ b y,c0 b=some y->c' b=some y:=by
 obtain ⟨c',g,h1,h2⟩:=xV (X:=X) rs (xss.map λr=>r.map fk) _ c C.rows (by rw [C.len,length_map]) (λj a ys h1 h2=>by
  rw [C.row j a h1]
  rw [getElem?_map,map_eq_some_iff] at h2
  (apply aj h2 ?_;try clear h2;intro r h2 aM;rw [<- aM])
  rw [getD_eq_getElem?_getD,h2];rfl) C.nd C.nR
 apply (aV c' g ?_ (λb y e=>h2 b y (λz=>by rw [z,C.na.1] at e;exact bf e) (λz=>by rw [C.na.2 b z] at e;exact bf e) (C.old b y e)))
 rw [h1,map_append,map_map]
 rfl
theorem BB{α:Type}(l:List (List α))(i j:Nat)(x:List α):(l.set i x).getD j []=if i=j/\i<l.length then x else l.getD j []:=by
 rw [getD_eq_getElem?_getD,getElem?_set,getD_eq_getElem?_getD]
 by_cases q:i=j
 ·rw [<- q]
  by_cases r:i<l.length
  ·rw [if_pos rfl,if_pos r,if_pos ⟨rfl,r⟩];rfl
  ·rw [if_pos rfl,if_neg r,if_neg (λz=>r z.2),getElem?_eq_none (le_of_not_lt r)]
 ·rw [if_neg q,if_neg (λz=>q z.1)]
theorem pY{l:List (List Item)}{n:Nat}(h:∀ j,(l.getD j []).length<=n)(i j:Nat):((if i<3 then l++[[]] else l).getD j []).length<=n:=by
 split
 ·rw [getD_eq_getElem?_getD]
  by_cases q:j<l.length
  ·rw [List.getElem?_append_left q,<- getD_eq_getElem?_getD];exact h j
  ·rw [getElem?_append_right (le_of_not_lt q)]
   cases e:([[]]:List (List Item))[j - l.length]? with
   | none=>exact zero_le _
   | some x=>have:=mem_of_getElem? e;rw [mem_singleton.mp this];exact zero_le _
 ·exact h j
theorem kB(ns:List Int):∀ i j,((bb ns i).getD j []).length<=i
 | 0,j=>by show (([]:List (List Item)).getD j []).length<=0;rw [List.getD_nil];exact zero_le _
 | i+1,j=>by
  have ih:=pY (kB ns i) i
  show ((c9 (bb ns i) i (ns.getD i 0)).getD j []).length<=i+1
  unfold c9
  generalize (if i<3 then bb ns i++[[]] else bb ns i)=l2 at ih ⊢
  split
  ·unfold lH
   rw [BB]
   split
   ·have:=ih (i % 3);rw [length_append];show _+1<=i+1;exact add_le_add_right (ih (i % 3)) 1
   ·exact le_succ_of_le (ih j)
  ·exact le_succ_of_le (ih j)
theorem qX{ns:List Int}{i:Nat}(hz:ns.length<=100)(hi:i<ns.length)(j:Nat):((if i<3 then bb ns i++[[]] else bb ns i).getD j []).length<=200:=le_trans (pY (kB ns i) i j) (by lia)
theorem zF{X:Cx}{A:Around}{env:Env}{loc:Loc}{cells:Cells}{x:Str}{p' p:Pos}{e:Expr}{Ψ:MF->Loc->Cells->Prop}(hk:env.kindOf x=some .local\/env.kindOf x=some .cell)(hs:swapsWith e (some (.Name x p')) p.line env=pure false)(h:mE X A env (eval e env) (KS x Ψ) loc cells):mS X A env (exec (.Assign [.Name x p'] e p) env) Ψ loc cells:=ao hk h hs
theorem xW{X:Cx}{A:Around}{env:Env}{loc:Loc}{cells:Cells}{e:Expr}{rest:List Expr}{p:Pos}{Ψ:List V->Loc->Cells->Prop}(he:starEach (e::rest) env=(false,eval e env)::starEach rest env)(h:mE X A env (eval e env) (KA X A env p rest Ψ) loc cells):yy X A env (spliced (backTo p (starEach (e::rest) env))) Ψ loc cells:=af h he
theorem table_at{j:Nat}(h:j<13):(ff.map fk)[j]?=some (fk (ff.getD j default)):=by
 rw [getElem?_map,getD_eq_getElem?_getD,getElem?_eq_getElem h];rfl
theorem BC(i k:Nat):((i:Int).fmod (k:Int))=((i % k:Nat):Int):=by
 rw [Int.fmod_eq_emod_of_nonneg _ (natCast_nonneg k)];rfl
noncomputable abbrev mJ (R:Addr) (ns:List Int):Loc:=[("rows",.ref R),("table",.list (ff.map fk)),("numbers",.list (Iz ns))]
theorem D4{X:Cx}{A:Around}{k:Nat}{c0:Cells}{ns:List Int}{Ψ:V->Cells->Prop}(G:G1 X)(hA:Rm X A (k+1))(hz:ns.length<=100)(h:∀ c',(∀ b x,c0 b=some x->c' b=some x)->Ψ (.list ((rowsOf ns).map kA)) c'):aD X A (.ref 206) [.list (Iz ns)] Ψ c0:=by
 apply dm (names:=["numbers"]) G.rows hA (λZ Z Z Z Z=>l1 λZ=>rfl) λL cdv A' bp=>?_
 have G':G1 (X.push L):=G
 generalize X.push L=Y at bp G' ⊢
 have two:2<=sizeLine:=ag (by decide)
 have four:4<=sizeLine:=ag (by decide)
 apply aa ?_
 have Oy:=λe p' p hs h=>@zF Y A' (bY "_law_rows" (ai rows) L 206 cdv) [("numbers",.list (Iz ns))] c0 "table" p' p e (yA Y A' (bY "_law_rows" (ai rows) L 206 cdv) ((aF rows).drop 1) (Back Ψ)) (.inl rfl) hs h
 apply Oy _ _ _ ?_ ?_
 ·rfl'
 apply mu ?_
 apply xW ?_ ?_
 ·rfl'
 apply cZ (af (aK (af (cx (a_nil ⟨ag (by show 2<=_;decide),?_⟩)))))
 iterate 12 (apply xW ?_ ?_;rfl';apply cZ (af (aK (af (cZ (af (fu (af (aK (a_nil ⟨ag (by show 2<=_;decide),a_nil ⟨ag (by show 2<=_;decide),?_⟩⟩))))))))))
 apply a_nil ⟨ag (by show 13<=_;decide),?_⟩
 apply cL.le (l0:=[("table",.list (ff.map fk)),("numbers",.list (Iz ns))]) (Sub.of ⟨by rfl',by rfl',trivial⟩) ?_
 have D5:(ff.map fk).length<=1000000:=by decide
 apply aa (ao (.inl rfl) (cz (af (mu (af (m_item (m_var rfl (m_int (dN (j:=1) (table_at (by decide)) D5 (af (m_item (m_var rfl (m_int (dN (j:=2) (table_at (by decide)) D5 (a_nil ⟨ag (by show 2<=_;decide),?_⟩)))))))))))))))
 apply af (mu (af (m_item (m_var rfl (m_int (dN (j:=3) (table_at (by decide)) D5 (af (m_item (m_var rfl (m_int (dN (j:=2) (table_at (by decide)) D5 (a_nil ⟨ag (by show 2<=_;decide),?_⟩))))))))))))
 apply af (mu (af (m_item (m_var rfl (m_int (dN (j:=0) (table_at (by decide)) D5 (af (m_item (m_var rfl (m_int (dN (j:=1) (table_at (by decide)) D5 ?_)))))))))))
 apply af (m_item (m_var rfl (m_int (dN (j:=1) (table_at (by decide)) D5 (af (m_item (m_var rfl (m_int (dN (j:=2) (table_at (by decide)) D5 (a_nil ⟨ag (by show 4<=_;decide),a_nil ⟨ag (by show 3<=_;decide),λR hR=>?_⟩⟩))))))))))
 have C0:RowC c0 (upd c0 R (some (.list (gI.map kA)))) R [] []:=⟨by rw [ah];rfl,rfl,λj a h=>by simp at h,nodup_nil,by simp,λb y e=>by rw [ae _ (λz=>by rw [z,hR] at e;exact bf e)];exact e,hR,by simp⟩
 apply aa (dC (bind:=nu "place" "number") (FF bp.hh rfl G'.enumerate (m_var rfl (iDPP _ rfl ?_))))
 apply ⟨λZ=>mJ R ns,λi c'=>∃ rs,RowC c0 c' R rs (bb ns i),⟨Sub.put rfl (Sub.put rfl (Sub.put rfl Sub.nil)),[],C0⟩,λv hv=>?_,λv hv l l' hs=>Sub.nu ?_ hs,λi v c' hv eC=>bw eC λrs C=>?_,λl c' hl fR=>bw fR λrs C=>?_⟩
 ·apply bw (getElem?_of_mem hv) λi hi=>?_
  (apply aj (enumItems_get hi) ?_;intro y hy bk;rw [bk])
  exact o8 bp.hh (.inl rfl) (.inl rfl)
 ·apply bw (getElem?_of_mem hv) λi hi=>?_
  (apply aj (enumItems_get hi) ?_;intro y hy bN;rw [bN])
  exact (kG _ _ rfl)
 ·(apply aj (enumItems_get hv) ?_;intro y hy cI;rw [cI])
  (apply aj (iz hy) ?_;intro n hn dH;rw [dH])
  have IQ:i<ns.length:=(List.getElem?_eq_some_iff.mp hn).1
  have en:ns.getD i 0=n:=by rw [getD_eq_getElem?_getD,hn];rfl
  have GC:=jA ns i
  have IS:=C.len
  have xX:bb ns (i+1)=c9 (bb ns i) i n:=by show c9 _ _ (ns.getD i 0)=_;rw [en]
  have ml:∀ j,((if i<3 then bb ns i++[[]] else bb ns i).getD j []).length<=200:=λj=>qX hz IQ j
  generalize bb ns i=xss at C GC IS ml xX ⊢
  try dsimp only
  have tail:∀ (c2:Cells) (og:List Addr) (uU:List (List Item)),RowC c0 c2 R og uU->(if i<3 then xss++[[]] else xss)=uU->mS Y A' (bY "_law_rows" (ai rows) L 206 cdv) (execs ((aF ((aF rows).getD 2 default)).drop 1) (bY "_law_rows" (ai rows) L 206 cdv)) (mi (λl c'=>Sub (mJ R ns) l/\∃ rs,RowC c0 c' R rs (bb ns (i+1))) (yA Y A' (bY "_law_rows" (ai rows) L 206 cdv) ((aF rows).drop 3) (Back Ψ))) (nu "place" "number" (.tuple [.int i,.int n]) (mJ R ns)) c2:=by
   intro c2 og uU C2 e2
   have t4:uU.length=min 3 (i+1):=by
    rw [<- e2]
    split
    ·rw [length_append,GC];simp;lia
    ·rw [GC];lia
   have Oz:i % 3<og.length:=by rw [C2.len,t4];exact Ni (by decide)
   have JT:og[i % 3]?=some og[i % 3]:=getElem?_eq_getElem Oz
   have oE:(gI.map kA++og.map V.ref)[3+i % 3]?=some (.ref og[i % 3]):=by
    rw [getElem?_append_right (by show 3<=_;exact le_add_right 3 (i % 3)),show 3+i % 3 - (gI.map kA).length=i % 3 by show 3+i % 3 - 3=_;exact add_sub_self_left 3 (i % 3),getElem?_map,JT];rfl
   have MM:(gI.map kA++og.map V.ref).length<=1000000:=by rw [length_append,length_map,length_map,C2.len,t4];show 3+_<=_;exact JE rfl
   have D6:=C2.row _ _ JT
   have e3:(3:Int)+(i:Int).fmod 3=((3+i % 3:Nat):Int):=by have h':(i:Int).fmod 3=((i % 3:Nat):Int):=BC i 3;exact Eq.symm (Nat.ToInt.add_congr rfl (id (Eq.symm h')))
   have hlen:((uU.getD (i % 3) []).map fk).length+1<=sizeLine:=by
    rw [length_map];have:=ml (i % 3);rw [<- e2];exact ag (zt (by assumption) rfl)
   apply aC (dD (n:=n) (k:=15) (by decide)) λk1 k2=>?_
   apply aa (ao (.inl rfl) (aY (m_var rfl (m_int (pg (by decide) ?_)))))
   apply aa (bt (aE (m_var rfl (m_int (ph (ar ?_))))))
   by_cases GQ:n.fmod 15<13
   ·rw [if_pos (decide_eq_true GQ)]
    have yF:eM n=some (ff.getD (n.fmod 15).toNat default):=by unfold eM;rw [if_pos GQ]
    have rC:c9 xss i n=lH uU (i % 3) (ff.getD (n.fmod 15).toNat default):=by unfold c9;rw [yF,<- e2]
    rw [xX.trans rC]
    apply aa (cy (aI (m_item (m_var rfl (aY (m_int (aY (m_var rfl (m_int (pg (by decide) (dX ?_)))))))))))
    rw [e3]
    apply mx C2.rows oE MM (eG D6 PySem.F.slot_list_append rfl ⟨trivial,af (m_item (m_var rfl (m_var rfl ?_)))⟩)
    rw [<- toNat_of_nonneg k1]
    apply dN (table_at (zn (by assumption) (by assumption) rfl)) D5 (a_nil (c_append D6 (le_of_succ_le hlen) ?_))
    exact au (au (iPDP (Sub.put rfl (Sub.put rfl (Sub.put rfl Sub.nil))) _ (C2.add JT)))
   ·rw [if_neg (by simpa using GQ)]
    apply aa (bt (aE (m_var rfl (m_int (vQ (ar ?_))))))
    by_cases GR:n.fmod 15=13
    ·rw [if_pos (beq_iff_eq.mpr GR)]
     have yF:eM n=some (jz (signOf n)):=by unfold eM;rw [if_neg GQ,if_pos GR]
     have rC:c9 xss i n=lH uU (i % 3) (jz (signOf n)):=by unfold c9;rw [yF,<- e2]
     rw [xX.trans rC]
     apply aC (dD (n:=n.fdiv 15) (k:=14) (by decide)) λk3 k4=>?_
     apply aa (ao (.inl rfl) (m_item (aK (aY (aY (m_var rfl (m_int (AK (by decide) rfl (m_int (pg (by decide) ?_))))))))))
     rw [<- toNat_of_nonneg k3]
     apply dh (x:=tD) (by have:tD.length=14:=(by decide +kernel);exact zn (by assumption) (by assumption) rfl) (by decide +kernel) ?_
     apply aa (cy (aI (m_item (m_var rfl (aY (m_int (aY (m_var rfl (m_int (pg (by decide) (dX ?_)))))))))))
     rw [e3]
     apply mx C2.rows oE MM (eG D6 PySem.F.slot_list_append rfl ⟨trivial,af (cZ (af (m_var rfl (af (cZ (af (fu (af (m_var rfl (a_nil ⟨ag (by show 2<=_;decide),a_nil ⟨ag (by show 2<=_;decide),a_nil (c_append D6 (le_of_succ_le hlen) ?_)⟩⟩))))))))))⟩)
     exact au (au (au (iPDP (Sub.put rfl (Sub.put rfl (Sub.put rfl Sub.nil))) _ (C2.add (x:=jz (signOf n)) JT))))
    ·rw [if_neg (by simpa using GR)]
     have yF:eM n=none:=by unfold eM;rw [if_neg GQ,if_neg GR]
     have rC:c9 xss i n=uU:=by unfold c9;rw [yF];exact e2
     rw [xX.trans rC]
     exact au (au (au (iPDP (Sub.put rfl (Sub.put rfl (Sub.put rfl Sub.nil))) _ C2)))
  apply aa (bt (aE (m_var rfl (m_int (ph (ar ?_))))))
  by_cases h3:i<3
  ·rw [if_pos (decide_eq_true (Int.lt_toNat.mp h3))]
   apply aa (cy (aI (m_var rfl (eG C.rows PySem.F.slot_list_append rfl ⟨trivial,af (cz (a_nil ⟨zero_le _,λa ha=>a_nil ?_⟩))⟩))))
   have LF:R≠a:=λz=>by rw [<- z,C.rows] at ha;exact dc ha
   apply c_append (xs:=gI.map kA++rs.map V.ref) (by rw [ae _ LF];exact C.rows) (by rw [length_append,length_map,length_map,C.len,GC];exact ag (by show 3+_<=_;exact JE rfl)) ?_
   have e:(gI.map kA++rs.map V.ref)++[V.ref a]=gI.map kA++(rs++[a]).map V.ref:=by rw [map_append,append_assoc]
   rw [e]
   exact au (cL.le Sub.rfl (tail _ _ _ (C.push ha) (if_pos h3)))
  ·rw [if_neg (by simp;lia)]
   exact au (cL.le Sub.rfl (tail _ _ _ C (if_neg h3)))
 ·have OA:(enumItems (Iz ns)).length=ns.length:=by simp [enumItems,Iz]
  rw [OA] at C
  apply bM (C.stop (X:=Y)) λc3 g h1 h2=>?_
  apply cL.gh g (aa (aL (kT (m_var (mv:=.ref R) (hl _ _ rfl) ⟨rfl,h1,?_⟩))))
  apply h _ λb x e=>?_
  rw [ae _ (λz=>by rw [z,C.na.1] at e;exact bf e)]
  exact h2 b x e
end L1
theorem tE{a n:Nat}(h:a<=n):max (0:Int) (min (a:Int) (n:Int))=a:=by
 rw [Int.min_eq_left (ofNat_le.mpr h)];exact Int.max_eq_right (natCast_nonneg a)
theorem GU:∀ n:Nat,max (0:Int) (min (1:Int) (n:Int))=((min 1 n:Nat):Int)
 | 0=>rfl
 | n+1=>by rw [Nat.min_eq_left (succ_le_succ (zero_le n))];exact tE (a:=1) (succ_le_succ (zero_le n))
theorem GV:∀ n:Nat,max (0:Int) (min ((-1:Int)+(n:Int)) (n:Int))=((n - 1:Nat):Int)
 | 0=>rfl
 | n+1=>by rw [show (-1:Int)+((n+1:Nat):Int)=(n:Int) from (Int.add_comm _ _).trans (Int.add_neg_cancel_right (n:Int) 1)];exact tE (Nat.le_succ n)
theorem pZ(x:Str){l u:Option Int}{a b:Nat}(e:strSliceIndices l u 1 x.length=sliceRange a b 1)(h1:a<=b)(h2:b<=x.length):(Txt.slice x l u).cps.toList=(x.cps.toList.drop a).take (b - a):=by
 unfold Txt.slice
 rw [e]
 have e2:=j3 x.cps.toList a b
 split
 ·rename_i q
  have q2:(sliceRange (a:Int) (b:Int) 1).length=x.length:=by simpa using q
  have q3:(sliceRange (a:Int) (b:Int) 1).length=b - a:=by
   unfold sliceRange
   dsimp only
   rw [if_pos (by decide),length_map,length_range]
   split
   ·rw [Int.ediv_one,Int.add_sub_cancel];exact (congrArg Int.toNat (zc h1)).trans (toNat_natCast _)
   ·next hn=>exact (Nat.sub_eq_zero_of_le (ofNat_le.mp (not_lt.mp hn))).symm
  have ha:a=0:=by omega
  have hb:b=x.length:=by lia
  subst ha hb
  rw [drop_zero,Nat.sub_zero,take_of_length_le (by rw [length_toList];exact le_refl _)]
 ·rw [List.toList_toArray,<- e2];simp only [getElem?_toList]
theorem rU(x:Str){a b:Nat}(h1:a<=b)(h2:b<=x.length):(Txt.slice x (some (a:Int)) (some (b:Int))).cps.toList=(x.cps.toList.drop a).take (b - a):=by
 apply pZ x ?_ h1 h2
 unfold strSliceIndices
 dsimp only
 have e0:∀ (A B:Int),(if (1:Int) > 0 then A else B)=A:=λA B=>if_pos (by decide)
 have e1:max (0:Int) (min (if (a:Int)<0 then (a:Int)+x.length else a) x.length)=a:=by rw [if_neg (not_ofNat_neg a)];exact tE (le_trans h1 h2)
 have e2:max (0:Int) (min (if (b:Int)<0 then (b:Int)+x.length else b) x.length)=b:=by rw [if_neg (not_ofNat_neg b)];exact tE h2
 rewrite [e0,e0,e1,e2]
 rfl
theorem zH(x:Str):(Txt.slice x none (some 1)).cps.toList=x.cps.toList.take 1:=by
 have h:=pZ x (l:=none) (u:=some 1) (a:=0) (b:=min 1 x.length) ?_ (zero_le _) (Nat.min_le_right _ _)
 ·rw [h,drop_zero,Nat.sub_zero]
  have:x.cps.toList.length=x.length:=length_toList
  rw [<- this,<- List.take_eq_take_min]
 ·unfold strSliceIndices
  dsimp only
  have e0:∀ (A B:Int),(if (1:Int) > 0 then A else B)=A:=λA B=>if_pos (by decide)
  have e2:max (0:Int) (min (if (1:Int)<0 then (1:Int)+x.length else 1) x.length)=((min 1 x.length:Nat):Int):=by rw [if_neg (by decide)];exact GU _
  rewrite [e0,e0,e2]
  rfl
theorem wA(x:Str):(Txt.slice x (some (-1)) none).cps.toList=x.cps.toList.drop (x.length - 1):=by
 have h:=pZ x (l:=some (-1)) (u:=none) (a:=x.length - 1) (b:=x.length) ?_ (sub_le _ _) (le_refl _)
 ·rw [h,take_of_length_le]
  rw [length_drop,length_toList];exact le_refl _
 ·unfold strSliceIndices
  dsimp only
  have e0:∀ (A B:Int),(if (1:Int) > 0 then A else B)=A:=λA B=>if_pos (by decide)
  have e2:max (0:Int) (min (if (-1:Int)<0 then (-1:Int)+x.length else -1) x.length)=((x.length - 1:Nat):Int):=by rw [if_pos (by decide)];exact GV _
  rewrite [e0,e0,e2]
  rfl
def qK(p x:Str)(i:Nat):Prop:=∃ pre post:List Nat,p.cps.toList=pre++(x.cps.toList++post)/\pre.length=i
theorem qK.len{p x:Str}{i:Nat}(h:qK p x i):i+x.length<=p.length:=by
 (apply bW h ?_;try clear h;intro pre post e aM;subst aM)
 have:=congrArg List.length e
 simp at this
 show _+x.cps.size<=p.cps.size
 lia
theorem qK.get{p x:Str}{i j:Nat}(h:qK p x i)(hj:j<x.length):p.cps.getD (i+j) 0=x.cps.getD j 0:=by
 (apply bW h ?_;try clear h;intro pre post e bk;subst bk)
 have e1:p.cps.toList[pre.length+j]?=x.cps.toList[j]?:=by
  rw [e,getElem?_append_right (le_add_right pre.length j),show pre.length+j - pre.length=j by exact add_sub_self_left pre.length j,List.getElem?_append_left (by rw [length_toList];exact hj)]
 rw [Array.getD_eq_getD_getElem?,Array.getD_eq_getD_getElem?,<- getElem?_toList,<- getElem?_toList,e1]
theorem qK.chr{p x:Str}{i j:Nat}(h:qK p x i)(hj:j<x.length):cm p (i+j)=cm x j:=by unfold cm;rw [h.get hj]
theorem qK.slice{p x:Str}{i a b:Nat}(h:qK p x i)(h1:a<=b)(h2:b<=x.length):Txt.slice p (some ((i+a:Nat):Int)) (some ((i+b:Nat):Int))=Txt.slice x (some (a:Int)) (some (b:Int)):=by
 have hl:=h.len
 (apply bW h ?_;try clear h;intro pre post e bN;subst bN)
 have q:(Txt.slice p (some ((pre.length+a:Nat):Int)) (some ((pre.length+b:Nat):Int))).cps.toList=(Txt.slice x (some (a:Int)) (some (b:Int))).cps.toList:=by
  rw [rU p (Nat.add_le_add_iff_left.mpr h1) (by lia),rU x h1 h2,e,show pre.length+b - (pre.length+a)=b - a by exact Nat.add_sub_add_left pre.length b a]
  rw [<- drop_drop,drop_left,drop_append_of_le_length (by rw [length_toList];show a<=x.length;exact le_trans h1 h2),List.take_append_of_le_length (by rw [length_drop,length_toList];show b - a<=x.length - a;exact Nat.sub_le_sub_right h2 a)]
 have q2:(Txt.slice p (some ((pre.length+a:Nat):Int)) (some ((pre.length+b:Nat):Int))).cps=(Txt.slice x (some (a:Int)) (some (b:Int))).cps:=toList_inj.mp q
 cases hA:Txt.slice p (some ((pre.length+a:Nat):Int)) (some ((pre.length+b:Nat):Int))
 cases hB:Txt.slice x (some (a:Int)) (some (b:Int))
 rw [hA,hB] at q2
 exact congrArg Str.mk q2
theorem qK.sub{p x y:Str}{i t:Nat}(h:qK p x i)(ht:t+y.length<=x.length):subAt p y (i+t)=subAt x y t:=by
 have hl:=h.len
 (apply bW h ?_;try clear h;intro pre post e cI;subst cI)
 have q:p.cps.extract (pre.length+t) (pre.length+t+y.length)=x.cps.extract t (t+y.length):=by
  apply toList_inj.mp
  rw [toList_extract,toList_extract,List.extract_eq_take_drop,List.extract_eq_take_drop,e]
  rw [<- drop_drop,drop_left,show pre.length+t+y.length - (pre.length+t)=y.length by exact add_sub_self_left (pre.length+t) y.length,show t+y.length - t=y.length by exact add_sub_self_left t y.length]
  rw [drop_append_of_le_length (by rw [length_toList];show t<=x.length;exact Nat.le_of_add_right_le ht),List.take_append_of_le_length (by rw [length_drop,length_toList];show y.length<=x.length - t;exact Nat.le_sub_of_add_le' ht)]
 unfold subAt
 rw [q]
open PySem.StrLaws Builtin.Str in
theorem mK{p x y:Str}{i b:Nat}(h:qK p x i)(hb:b<=x.length):∀ (n a:Nat) (st mh:Array Nat×Nat),mh.1.toList=st.1.toList.map (i+·)->mh.2=i+st.2 ->
  (forIn (List.range' (i+a) n) mh (occBody p y (i+b) 1)).run.fst.toList=(forIn (List.range' a n) st (occBody x y b 1)).run.fst.toList.map (i+·)
 | 0,a,st,mh,h1,h2=>h1
 | n+1,a,st,mh,h1,h2=>by
  rw [List.range'_succ,List.range'_succ,forIn_cons,forIn_cons]
  have hs:mh.1.size=st.1.size:=by have:=congrArg List.length h1;simpa using this
  by_cases q:((st.fst.size<1/\st.snd<=a)/\a+y.length<=b)/\subAt x y a=true
  ·have q':((mh.fst.size<1/\mh.snd<=i+a)/\i+a+y.length<=i+b)/\subAt p y (i+a)=true:=⟨⟨⟨by rw [hs];exact q.1.1.1,by rw [h2];have:=q.1.1.2;exact Nat.add_le_add_iff_left.mpr this⟩,by have:=q.1.2;lia⟩,by rw [h.sub (by have:=q.1.2;exact le_trans this hb)];exact q.2⟩
   have e1:occBody x y b 1 a st=pure (ForInStep.yield (st.fst.push a,a+y.length)):=by unfold occBody;rw [if_pos q]
   have e2:occBody p y (i+b) 1 (i+a) mh=pure (ForInStep.yield (mh.fst.push (i+a),i+a+y.length)):=by unfold occBody;rw [if_pos q']
   rw [e1,e2]
   exact mK h hb n (a+1) (st.fst.push a,a+y.length) (mh.fst.push (i+a),i+a+y.length) (by simp [h1]) (by show i+a+y.length=i+(a+y.length);exact Nat.add_assoc i a y.length)
  ·have q':¬ (((mh.fst.size<1/\mh.snd<=i+a)/\i+a+y.length<=i+b)/\subAt p y (i+a)=true):=λz=>q ⟨⟨⟨by rw [<- hs];exact z.1.1.1,by have:=z.1.1.2;rw [h2] at this;exact Nat.add_le_add_iff_left.mp this⟩,by have:=z.1.2;lia⟩,by rw [<- h.sub (by have:=z.1.2;lia)];exact z.2⟩
   have e1:occBody x y b 1 a st=pure (ForInStep.yield (st.fst,st.snd)):=by unfold occBody;rw [if_neg q]
   have e2:occBody p y (i+b) 1 (i+a) mh=pure (ForInStep.yield (mh.fst,mh.snd)):=by unfold occBody;rw [if_neg q']
   rw [e1,e2]
   exact mK h hb n (a+1) (st.fst,st.snd) (mh.fst,mh.snd) h1 h2
open PySem.StrLaws Builtin.Str in
theorem qK.find{p x y:Str}{i a b:Nat}(h:qK p x i)(hb:b<=x.length):dp p y (i+a) (i+b)=if dp x y a b=-1 then -1 else i+dp x y a b:=by
 have hl:=h.len
 have e:Builtin.Str.occurrences p y (i+a) (min (i+b) p.length) 1=(Builtin.Str.occurrences x y a (min b x.length) 1).map (i+·):=by
  rw [Nat.min_eq_left (by lia),Nat.min_eq_left hb,occ_eq,occ_eq,show i+b+1 - (i+a)=b+1 - a by exact zx]
  exact mK h hb _ a (#[],a) (#[],i+a) rfl rfl
 unfold dp
 rw [e]
 cases Builtin.Str.occurrences x y a (min b x.length) 1 with
 | nil=>rfl
 | cons k r=>rfl
namespace L1
noncomputable def dq (x:Str) (j:Nat):Nat:=x.cps.getD j 0
noncomputable def BD (lo hi:Nat):List Str:=(List.range (hi+1 - lo)).map λi=>⟨#[lo+i]⟩
noncomputable def gg (x:Str) (p:Nat):Nat:=if (cm x p == ofString "\\")=true then p+1 else p
noncomputable def BE (x:Str) (p:Nat):Bool:=Txt.slice x (some ((p:Nat):Int)) (some ((p+1:Nat):Int)) == ofString "-"
noncomputable def p7 (x:Str) (p:Nat):List Str:=BD (dq x p) (dq x (p+2))
noncomputable def wB (x:Str) (p:Nat):Bool:=decide (p+2<x.length)&&decide (dq x p<=1000)&&decide (dq x (p+2)<=1000)&&JoinOk (ofString "") (p7 x p)
noncomputable def wC (x:Str) (p0:Nat) (m:Str):Option (Nat×Str) :=
 if gg x p0<x.length/\m.length<=1000 then
  if BE x (gg x p0+1) then (if wB x (gg x p0)/\(join (ofString "") (p7 x (gg x p0))).length<=2000 then some (gg x p0+3,m++join (ofString "") (p7 x (gg x p0))) else none)
  else some (gg x p0+1,m++cm x (gg x p0))
 else none
noncomputable def uV (x:Str):Nat->Nat->Str->Option Str
 | 0,p,m=>if p<x.length then none else some m
 | n+1,p,m=>if p<x.length then (wC x p m).bind λq=>uV x n q.1 q.2 else some m
noncomputable def lI (q:Str):Bool:=cm q 1 == ofString "^"
noncomputable def jB (q:Str):Str:=if lI q then Txt.slice q (some 2) (some (-1)) else Txt.slice q (some 1) (some (-1))
noncomputable def readOf (q:Str):Option (Bool×Str) :=
 if (q == ofString ".")=true then some (true,ofString "") else if (q == ofString "(?!)")=true then some (false,ofString "")
 else if q.length<1\/100<q.length then none
 else if (cm q 0 == ofString "[")=true then (if 2<=q.length/\(jB q).length<=100 then (uV (jB q) (jB q).length 0 (ofString "")).map λm=>(lI q,m) else none)
 else some (false,cm q (q.length - 1))
def Hw(K:PySem.W.Frag):Prop:=pW K 220 "_law_read" read 219/\codeHdIn K 219 215=true
noncomputable abbrev fP (L:Addr):Env:=bY "_law_read" (ai read) L 220 (.ref 219)
noncomputable def GW:Stmt:=(aF read).getD 8 default
noncomputable def BF:List Stmt:=aF GW
theorem xY(lo hi:Nat):(aQ (lo:Int) 1 (hi+1 - lo)).map (λv=>match v with | .int i=>(⟨#[i.toNat]⟩:Str) | _=>default)=BD lo hi:=by
 unfold aQ BD
 rw [map_map]
 apply map_congr_left λi Z=>?_
 show (⟨#[((lo:Int)+(i:Int) * 1).toNat]⟩:Str)=_
 rw [show ((lo:Int)+(i:Int) * 1).toNat=lo+i by lia]
theorem zI{Y:Cx}{A':Around}{k:Nat}{c:Cells}{L:Addr}{x m:Str}{p:Nat}{p2:Nat}{m2:Str}{l:Loc}{b:Bool}{Φ:MF->Loc->Cells->Prop}(G':G1 Y)(B':qV Y)(GK:codeHdIn Y.K 219 215=true)(bp:Rm Y A' (k+1))(hP:c 215=some .tab)(hx:x.length<=100)(hp:p<x.length)(hs:wC x p m=some (p2,m2))(hl:Sub [("place",.int (p:Int)),("members",.str m),("inside",.str x),("barred",.bool b)] l)(h:∀ l',Sub [("place",.int (p2:Int)),("members",.str m2),("inside",.str x),("barred",.bool b)] l'->Φ .next l' c) :
  mS Y A' (fP L) (execs BF (fP L)) Φ l c:=by
 unfold wC at hs
 have h1:gg x p<x.length/\m.length<=1000:=Decidable.byContradiction λh1=>by rw [if_neg h1] at hs;exact bf hs
 rw [if_pos h1] at hs
 (apply aC h1 ?_;try clear h1;intro h1 hm)
 apply cL.le hl ?_
 have rest:mS Y A' (fP L) (execs (BF.drop 1) (fP L)) Φ [("place",.int (gg x p:Int)),("members",.str m),("inside",.str x),("barred",.bool b)] c:=by
  generalize hq:gg x p=q at h1 hs ⊢
  apply aa (ao (.inl rfl) (m_item (m_var rfl (m_var rfl (dh h1 (by exact zl (by assumption) rfl) ?_)))))
  apply aa (eA rfl (mv:=.int (q:Int)) rfl (m_int (mn ?_)))
  have e1:(q:Int)+1=((q+1:Nat):Int):=by exact Int.ofNat_add_one_out q
  have e2:((q+1:Nat):Int)+1=((q+1+1:Nat):Int):=by exact Int.ofNat_add_one_out (q+1)
  have e3:((q+1:Nat):Int)+2=((q+3:Nat):Int):=by exact Int.mem_toNat?.mp rfl
  rw [e1]
  apply aa (bt (aE (cj (m_var rfl (bC (m_var rfl (bC (aY (m_var rfl (m_int (dX (bB (eF (ag (by exact zl (by assumption) rfl)) (aK (dB (ar ?_))))))))))))))))
  rw [e2]
  by_cases hd:BE x (q+1)=true
  ·rw [if_pos hd] at hs
   have nY:(Txt.slice x (some ((q+1:Nat):Int)) (some ((q+1+1:Nat):Int)) == ofString "-")=true:=hd
   rw [if_pos nY]
   have ho:wB x q=true/\(join (ofString "") (p7 x q)).length<=2000:=Decidable.byContradiction λho=>by rw [if_neg ho] at hs;exact bf hs
   rw [if_pos ho] at hs
   (apply aC ho ?_;try clear ho;intro ho hj)
   cases hs
   unfold wB at ho
   simp only [and_eq_true,decide_eq_true_eq] at ho
   (apply aC ho ?_;try clear ho;intro aM o4;apply aC aM ?_;clear aM;intro bk o3;apply aC bk ?_;clear bk;intro o1 o2)
   apply aa (eA rfl (mv:=.str m) rfl (pV (P:=215) (c:=219) bp rfl GK B' (aK ⟨rfl,?_⟩)))
   apply az rfl G'.range trivial (af (az rfl G'.ord trivial (af (m_var rfl (a_nil (Fi (af (aY (az rfl G'.ord trivial (af (m_item (m_var rfl (aY (m_var rfl (m_int (dX ?_))))))))))))))))
   rw [e2]
   apply dh o1 (by exact zl (by assumption) rfl) (a_nil (Fi (m_int (dX (a_nil (pk ?_))))))
   have er:rangeSize (dq x q) ((dq x (q+2):Nat)+1:Int) 1=((dq x (q+2)+1 - dq x q:Nat):Int):=by rw [rangeSize_one];split <;> omega
   rw [show x.cps.getD q 0=dq x q from rfl,show x.cps.getD (q+1+1) 0=dq x (q+2) from rfl]
   apply (fQ (aQ (dq x q) 1 (dq x (q+2)+1 - dq x q)) ((λv=>match v with | .int i=>(⟨#[i.toNat]⟩:Str) | _=>default)) hP (GJ (by exact zq o3 rfl) (by lia) er (by lia)) (by simp [aQ];lia) ?_ ?_ ?_)
   ·intro own1 s1 I A2 E2 i y v s2 C m2 code hh Z Z hi rv hN hm' kp
    have xT:=(I.base.cell 215 .tab hP).1
    have JU:=hi
    unfold aQ at JU
    rw [getElem?_map,map_eq_some_iff] at JU
    (apply aj JU ?_;try clear JU;intro j hj bN;subst bN)
    have MN:=mem_of_getElem? hj
    rw [mem_range] at MN
    apply rE.gen (own1:=own1) (Ψ:=λy=>y=.str ⟨#[((dq x q:Int)+(j:Int) * 1).toNat]⟩) ⟨hN,kp⟩ (λu y s3 r e=>by subst e;apply RV.e1 r rfl λt=>(ez _ t hi rfl)) ?_
    apply DX I.base xT (GI I.base xT rfl rfl rfl rfl G'.chr rfl) (Bu rfl rfl rfl hm' xT rv (IE ?_ rfl))
    simp;lia
   ·rw [xY];exact o4
   ·rw [xY]
    apply tq (ag (by show m.length+(join (ofString "") (p7 x q)).length<=_;exact Hq hm hj rfl)) ?_
    apply aa (eA rfl (mv:=.int ((q+1:Nat):Int)) rfl (m_int (mn ?_)))
    rw [e3]
    exact au (au (h _ (Sub.put rfl (Sub.put rfl (Sub.put rfl (Sub.put rfl Sub.nil))))))
  ·rw [if_neg hd] at hs
   have nY:¬ (Txt.slice x (some ((q+1:Nat):Int)) (some ((q+1+1:Nat):Int)) == ofString "-")=true:=hd
   rw [if_neg nY]
   cases hs
   apply aa (eA rfl (mv:=.str m) rfl (m_var rfl (tq (ag (by show m.length+1<=_;exact zt (by assumption) rfl)) ?_)))
   exact au (au (h _ (Sub.put rfl (Sub.put rfl (Sub.put rfl (Sub.put rfl Sub.nil))))))
 apply aa (bt (aE (m_item (m_var rfl (m_var rfl (dh hp (by exact zl (by assumption) rfl) (aK (dB (ar ?_)))))))))
 by_cases hb:(cm x p == ofString "\\")=true
 ·rw [if_pos hb]
  apply aa (eA rfl (mv:=.int (p:Int)) rfl (m_int (mn (au ?_))))
  apply cL.le (Sub.of ?_) rest
  have e:gg x p=p+1:=by unfold gg;rw [if_pos hb]
  rw [e]
  exact (ja rfl rfl rfl rfl trivial)
 ·rw [if_neg hb]
  have e:gg x p=p:=by unfold gg;rw [if_neg hb]
  rw [e] at rest
  exact au rest
theorem BG{X:Cx}{A:Around}{k:Nat}{c:Cells}{q:Str}{t:Bool×Str}{Ψ:V->Cells->Prop}(G:G1 X)(R:Hw X.K)(B:qV X)(hA:Rm X A (k+2))(hP:c 215=some .tab)(hq:readOf q=some t)(h:Ψ (gF (some t)) c):aD X A (.ref 220) [.str q] Ψ c:=by
 (apply aC R ?_;try clear R;intro cI hC;apply eT cI ?_;clear cI;intro doc pm an ct FT)
 apply g4 (names:=["piece"]) FT hA (l1 λZ=>rfl) (λL=>?_) rfl rfl rfl
 have bp:Rm (X.push L) (A.deeper (fP L)) (k+1):=hA.deeper (fP L) (by show (ai read).kind≠_;decide) rfl
 have G':G1 (X.push L):=G
 have B':qV (X.push L):=B
 have GK:codeHdIn (X.push L).K 219 215=true:=hC
 generalize A.deeper (fP L)=A' at bp ⊢
 generalize X.push L=Y at bp G' B' GK ⊢
 apply aa (bt (aE (m_var (mv:=.str q) rfl (cx (dJ trivial (ar ?_))))))
 rw [if_neg (by decide)]
 apply au (aa (bt (dA (jL (aE (m_var (mv:=.str q) rfl (m_int (DS (ar ?_)))))))))
 rw [if_neg (by decide)]
 apply EY (aE (m_var (mv:=.str q) rfl (aK (dB (ar ?_)))))
 unfold readOf at hq
 by_cases h1:(q == ofString ".")=true
 ·rw [if_pos h1]
  rw [if_pos h1] at hq
  have h:=(cK hq).symm▸h
  exact aa (aL (cZ (af (fu (af (aK (a_nil ⟨ag (by show 2<=_;decide),h⟩)))))))
 rw [if_neg h1]
 rw [if_neg h1] at hq
 apply au (aa (bt (aE (m_var (mv:=.str q) rfl (aK (dB (ar ?_)))))))
 by_cases h2:(q == ofString "(?!)")=true
 ·rw [if_pos h2]
  rw [if_pos h2] at hq
  have h:=(cK hq).symm▸h
  exact aa (aL (cZ (af (fu (af (aK (a_nil ⟨ag (by show 2<=_;decide),h⟩)))))))
 rw [if_neg h2]
 rw [if_neg h2] at hq
 have h3:¬ (q.length<1\/100<q.length):=λh3=>by rw [if_pos h3] at hq;exact bf hq
 rw [if_neg h3] at hq
 have MB:1<=q.length/\q.length<=100:=by lia
 apply au (aa (bt (aE (m_item (m_var (mv:=.str q) rfl (m_int (dh (j:=0) (by omega) (by lia) (aK (xA (ar ?_))))))))))
 by_cases h4:(cm q 0 == ofString "[")=true
 ·rw [if_pos h4] at hq
  have h5:2<=q.length/\(jB q).length<=100:=Decidable.byContradiction λh5=>by rw [if_neg h5] at hq;exact bf hq
  rw [if_pos h5] at hq
  (apply aC h5 ?_;try clear h5;intro h5 h6)
  rw [map_eq_some_iff] at hq
  (apply aj hq ?_;try clear hq;intro m hm dH;subst dH)
  rw [if_neg (by rw [bne,h4];decide)]
  apply au (aa (ao (.inl rfl) (gz (m_item (m_var (mv:=.str q) rfl (m_int (dh (j:=1) (lt_of_succ_le h5) (by lia) (aK (dB ?_)))))))))
  apply aa (ao (.inl rfl) (xB (v:=.str (jB q)) (jK (dU (m_var (mv:=.bool (lI q)) rfl (ar ?_)))) ?_))
  ·cases MO:lI q with
   | true =>
    apply cj (m_var (mv:=.str q) rfl (bC (m_int (bC (m_un (m_int (o_neg (bB (eF (ag (by lia)) ⟨?_,rfl,rfl⟩)))))))))
    unfold jB;rw [MO];rfl
   | false =>
    apply cj (m_var (mv:=.str q) rfl (bC (m_int (bC (m_un (m_int (o_neg (bB (eF (ag (by lia)) ⟨?_,rfl,rfl⟩)))))))))
    unfold jB;rw [MO];rfl
  apply aa (ao (.inl rfl) (aK ?_))
  apply aa (ao (.inl rfl) (m_int ?_))
  generalize jB q=x at h6 hm ⊢
  generalize lI q=b at h ⊢
  apply aa (gE (λn l c'=>c'=c/\∃ p w,uV x n p w=some m/\Sub [("place",.int (p:Int)),("members",.str w),("inside",.str x),("barred",.bool b)] l) x.length (oM rfl 0 (ofString "") hm (Sub.put rfl (Sub.put rfl (Sub.put rfl (Sub.put (by rfl') Sub.nil))))) ?_)
  (intro n l c' eC;apply dQ eC ?_;clear eC;intro fR;subst fR;intro p w hr hl)
  apply aE (m_var (mv:=.int (p:Int)) (hl _ _ rfl) (az rfl G'.len trivial (af (m_var (mv:=.str x) (hl _ _ rfl) (a_nil (g8 (ag (by exact zl (by assumption) rfl)) (ph (ar ?_))))))))
  have fin:∀ l',w=m->Sub [("place",.int (p:Int)),("members",.str w),("inside",.str x),("barred",.bool b)] l'->mS Y A' (fP L) (execs ((aF read).drop 9) (fP L)) (Back Ψ) l' c':=λl' e iU=>by
   subst e
   exact aa (aL (cZ (af (m_var (mv:=.bool b) (iU _ _ rfl) (af (m_var (mv:=.str w) (iU _ _ rfl) (a_nil ⟨ag (by show 2<=_;decide),h⟩)))))))
  cases n with
  | zero =>
   unfold uV at hr
   have hp:¬ p<x.length:=λz=>by rw [if_pos z] at hr;exact bf hr
   rw [if_neg hp] at hr
   rw [if_neg (by simpa using hp)]
   exact au (fin l (cK hr) hl)
  | succ n =>
   unfold uV at hr
   by_cases hp:p<x.length
   ·rw [if_pos hp] at hr
    rw [if_pos (by simpa using hp)]
    rw [Option.bind_eq_some_iff] at hr
    obtain ⟨⟨p2,w2⟩,hs,hr⟩:=hr
    apply zI (x:=x) (m:=w) (k:=k) G' B' GK bp hP h6 hp hs hl λl' iU=>?_
    exact ⟨n,(lt_succ_self _),rfl,p2,w2,hr,iU⟩
   ·rw [if_neg hp] at hr
    rw [if_neg (by simpa using hp)]
    exact au (fin l (cK hr) hl)
 ·rw [if_neg h4] at hq
  have h:=(cK hq).symm▸h
  rw [if_pos (by rw [bne,eq_false_iff.mpr h4];rfl)]
  exact aa (aL (cZ (af (fu (af (m_item (m_var rfl (m_un (m_int (o_neg (xD (by omega) (by lia) (a_nil ⟨ag (by show 2<=_;decide),h⟩))))))))))))
theorem zJ{X:Cx}{A:Around}{k:Nat}{c:Cells}{Ψ:V->Cells->Prop}(R:Hw X.K)(hA:Rm X A (k+2))(h:Ψ .none c):aD X A (.ref 220) [.none] Ψ c:=by
 (apply aC R ?_;try clear R;intro rA hC;apply eT rA ?_;clear rA;intro doc pm an ct FT)
 apply g4 (names:=["piece"]) FT hA (l1 λZ=>rfl) (λL=>?_) rfl rfl rfl
 apply aa (bt (aE (m_var rfl (cx (g7 (ar ?_))))))
 rw [if_pos rfl]
 exact aa (aL (cx h))
theorem BH{X:Cx}{A:Around}{k:Nat}{c:Cells}{Ψ:V->Cells->Prop}(R:Hw X.K)(hA:Rm X A (k+2))(h:Ψ (gF (some (true,ofString ""))) c):aD X A (.ref 220) [.int 0] Ψ c:=by
 (apply aC R ?_;try clear R;intro jU hC;apply eT jU ?_;clear jU;intro doc pm an ct FT)
 apply g4 (names:=["piece"]) FT hA (l1 λZ=>rfl) (λL=>?_) rfl rfl rfl
 apply aa (bt (aE (m_var rfl (cx (dJ trivial (ar ?_))))))
 rw [if_neg (by decide)]
 apply au (aa (bt (dA (jL (aE (m_var rfl (m_int (vQ (ar ?_)))))))))
 rw [if_pos rfl]
 rw [if_pos rfl]
 exact aa (aL (cZ (af (fu (af (aK (a_nil ⟨ag (by show 2<=_;decide),h⟩)))))))
end L1
namespace L1
noncomputable def bc:List Item:=ff++(List.range 14).map λj=>jz (cm tD j)
noncomputable def bS (t:Str):Nat:=t.length - 1
noncomputable def rawOf (t:Str):Str:=Txt.slice t (some ((1:Nat):Int)) (some (bS t:Int))
noncomputable def eu (t:Str):Nat:=(dp t (ofString "-") (hW t 0) (bS t)).toNat
noncomputable def Fm (t:Str):Str:=Txt.slice t (some ((1:Nat):Int)) (some (eu t:Int))
noncomputable def Fo (t:Str):Str:=Txt.slice t (some ((eu t+1:Nat):Int)) (some (bS t:Int))
noncomputable def tF (t:Str):Bool:=Txt.contains (rawOf t) (ofString "-")
noncomputable def iN (t:Str):Str:=if tF t then join (ofString "-") ((b8 (Fm t) (Fo t)).map gH) else rawOf t
noncomputable def bE (x:Item):Option (Option Str):=if x.1=⟨#[42]⟩ then none else if x.1=⟨#[63]⟩ then some none else some (some (if x.1.length=1 then ot specs (dq x.1 0) else pieceOf (iN x.1)))
noncomputable def dE:Option (Option Str)->V
 | none=>.none
 | some none=>.int 0
 | some (some s)=>.str s
noncomputable def fm (ps:List (Option (Option Str))) (d:Option (Option Str)):List (Option (Option Str)):=match d with
 | none=>(match ps.getLast? with | some none=>ps | _=>ps++[none])
 | some s=>ps++[some s]
noncomputable def litOk (t:Str):Bool:=t.length == 1&&dq t 0 != 42&&dq t 0 != 63&&dq t 0 != 91&&(decide (dq t 0<128)||!specs.contains (dq t 0))
noncomputable def Fp (s:Str):Bool:=(List.range s.cps.size).all λi=>!amp (s.cps.getD i 0)
noncomputable def D7 (t:Str):Bool:=decide (3<=t.length)&&decide (t.length<=10)&&(cm t 0 == ⟨#[91]⟩)&&(cm t (bS t) == ofString "]")&&decide (cE t 0<=bS t)&&((List.range (bS t)).all λj=>decide (j<cE t 0)||!(cm t j == ofString "]"))
noncomputable def D8 (s:Str):Bool:=Fp s&&decide (s.length<=200)&&decide ((Txt.slice s (some 1) none).length<=200)
noncomputable def xZ (t:Str):Bool:=D7 t&&!tF t&&(Builtin.Str.occurrences (rawOf t) (ofString "\\") 0 (rawOf t).length ((rawOf t).length+1)).isEmpty&&D8 (rawOf t)
noncomputable def BI (t:Str):Bool:=D7 t&&tF t&&(dp t (ofString "-") (hW t 0) (bS t) == (eu t:Int))&&decide (hW t 0<=bS t)&&decide (eu t<bS t)&&decide (1<=eu t)&&(dp t (ofString "-") (eu t+3) (bS t) == -1)&&decide (1<=(Fm t).length)&&decide (1<=(Fo t).length)&&decide ((Fm t).length<=200)&&decide ((Fo t).length<=200)&&((b8 (Fm t) (Fo t)).all wx)&&decide ((Txt.slice (Fm t) none (some (-1))).length<=200)&&decide ((Txt.slice (Fo t) (some 1) none).length<=200)&&JoinOk (ofString "-") ((b8 (Fm t) (Fo t)).map gH)&&D8 (iN t)
noncomputable def BJ (x:Item):Bool:=(decide (x.1=⟨#[42]⟩)&&x.2 == none)||(decide (x.1=⟨#[63]⟩))||(litOk x.1&&decide (x.1.length=1))||(xZ x.1)||(BI x.1)
theorem wD:bc.all BJ=true:=by decide +kernel
theorem rV:bc.all (λx=>decide (1<=x.1.length)&&decide (x.1.length<=6))=true:=by decide +kernel
noncomputable def tG (x:Item):Bool:=match bE x with
 | none=>x.2 == none
 | some none=>x.2 == some (true,ofString "")
 | some (some s)=>readOf s == x.2&&x.2.isSome
theorem p8:bc.all tG=true:=by decide +kernel
theorem uW{p t:Str}{i:Nat}(M:qK p t i)(hl:3<=t.length):eK p i=i+eK t 0:=by
 unfold eK
 rw [M.chr (j:=1) (Nat.lt_of_add_left_lt hl)]
 split <;> rfl
theorem BK(t:Str):eK t 0<=2/\1<=eK t 0:=by unfold eK;split <;> lia
theorem lJ{p t:Str}{i:Nat}(M:qK p t i)(hl:3<=t.length):cE p i=i+cE t 0:=by
 unfold cE
 have hb:=BK t
 rw [uW M hl,M.chr (j:=eK t 0) (by lia)]
 split <;> omega
theorem uX{p t:Str}{i:Nat}(M:qK p t i)(hl:3<=t.length):hW p i=i+hW t 0:=by
 unfold hW
 rw [M.chr (j:=1) (Nat.lt_of_add_left_lt hl)]
 split <;> exact Nat.add_left_inj.mpr rfl
theorem uY{s:Str}(h:Fp s=true):∀ i,i<s.cps.size->amp (s.cps.getD i 0)=false:=λi hi=>by
 have:=all_eq_true.mp h i (mem_range.mpr hi)
 exact Eq.symm ((fun {x y}=>Bool.not_inj_iff.mp) (id (Eq.symm this)))
theorem Fq{p t:Str}{i:Nat}(M:qK p t i)(h:D7 t=true):D0 p i (i+bS t)/\cE p i<=i+bS t/\(∀ j,cE p i<=j->j<i+bS t->(cm p j == ofString "]")=false)/\3<=t.length/\i+bS t+1=i+t.length:=by
 unfold D7 at h
 simp only [and_eq_true,decide_eq_true_eq] at h
 (apply aC h ?_;try clear h;intro aM h6;apply aC aM ?_;clear aM;intro bk h5;apply aC bk ?_;clear bk;intro bN h4;apply aC bN ?_;clear bN;intro cI h3;apply aC cI ?_;clear cI;intro h1 h2)
 have hl:=M.len
 have Gq:bS t=t.length - 1:=rfl
 have e0:cm p i=cm t 0:=M.chr (j:=0) (Nat.zero_lt_of_lt h1)
 apply (ja (⟨e0.trans (eq_of_beq h3),by lia,by exact zC Gq h1 hl,by rw [M.chr (j:=bS t) (by lia)];exact h4⟩) (by rw [lJ M h1];exact Nat.add_le_add_iff_left.mpr h5) (λj j1 j2=>?_) h1 (by lia))
 rw [lJ M h1] at j1
 obtain ⟨n,rfl⟩:∃ n,j=i+n:=(bJ (j - i) (by lia))
 rw [M.chr (j:=n) (by lia)]
 have:=all_eq_true.mp h6 n (mem_range.mpr (Nat.lt_of_add_lt_add_left j2))
 simp only [or_eq_true,decide_eq_true_eq,not_eq_true'] at this
 exact this.resolve_left (by lia)
section
variable {Y:Cx}{A:Around}{k:Nat}{c0 c:Cells}{p:Str}{a u L:Addr}{i:Nat}{ds:List (Option (Option Str))}{l:Loc}{Φ:MF->Loc->Cells->Prop}
theorem zK(d:Option (Option Str)):dE d=.none\/jO (dE d):=by
 match d with
 | none=>exact .inl rfl
 | some none=>exact .inr trivial
 | some (some s)=>exact .inr trivial
theorem tH(ds:List (Option (Option Str))):gf (ds.map dE)=(fm ds none).map dE:=by
 unfold gf fm
 rw [List.getLast?_map]
 cases ds.getLast? with
 | none=>simp [dE]
 | some d =>
  match d with
  | none=>rfl
  | some none=>simp [dE]
  | some (some s)=>simp [dE]
theorem zL{x:Item}(hx:x∈bc)(M:qK p x.1 i)(G:G1 Y)(T:T1 Y)(hA:Rm Y A (k+1))(C:oH c0 c a u (ds.map dE))(hl:Sub (aZ p a u i) l)(hz:p.length<=1000)(hp:ds.length<=1000)(h:∀ l' c',Sub (aZ p a u (i+x.1.length)) l'->oH c0 c' a u ((fm ds (bE x)).map dE)->Φ .next l' c'):mS Y A (trEnv L) (execs trBody (trEnv L)) Φ l c:=by
 have K:=all_eq_true.mp wD x hx
 have IT:(ds.map dE).length<=1000:=by rw [length_map];exact hp
 have hle:=M.len
 have push:∀ d,(ds.map dE)++[dE (some d)]=(fm ds (some d)).map dE:=λd=>by unfold fm;rw [map_append];rfl
 unfold BJ at K
 simp only [or_eq_true,and_eq_true,decide_eq_true_eq] at K
 rcases K with (((⟨k1,k2⟩ | k1) | ⟨k1,k2⟩) | k1) | k1
 ·have e1:bE x=none:=by unfold bE;rw [if_pos k1]
  have l1:x.1.length=1:=by rw [k1];rfl
  rw [e1,l1] at h
  have ec:cm p i=⟨#[42]⟩:=(M.chr (j:=0) (lt_of_sub_eq_succ l1)).trans (by rw [k1];rfl)
  apply zz T hA C hl (by lia) hz IT ec (λv hv=>?_) λl' c' iU C'=>h l' c' iU ?_
  ·(apply aj (mem_map.mp hv) ?_;intro d Z dH;rw [<- dH])
   exact zK d
  ·rw [<- tH];exact C'
 ·have e1:bE x=some none:=by unfold bE;rw [if_neg (by rw [k1];decide),if_pos k1]
  have l1:x.1.length=1:=by rw [k1];rfl
  rw [e1,l1] at h
  have ec:cm p i=⟨#[63]⟩:=(M.chr (j:=0) (lt_of_sub_eq_succ l1)).trans (by rw [k1];rfl)
  apply By T hA C hl (by lia) hz IT ec λl' c' iU C'=>h l' c' iU ?_
  rw [<- push];exact C'
 ·unfold litOk at k1
  simp only [and_eq_true,or_eq_true,decide_eq_true_eq,bne_iff_ne,ne_eq,not_eq_true',beq_iff_eq] at k1
  (apply aC k1 ?_;try clear k1;intro eC q4;apply aC eC ?_;clear eC;intro fR q3;apply aC fR ?_;clear fR;intro rz q2;apply aC rz ?_;clear rz;intro q0 q1)
  have hc:cm x.1 0=⟨#[dq x.1 0]⟩:=rfl
  have fK:∀ n,dq x.1 0≠n->x.1≠⟨#[n]⟩:=λn hn z=>hn (by rw [z];rfl)
  have e1:bE x=some (some (ot specs (dq x.1 0))):=by unfold bE;rw [if_neg (fK 42 q1),if_neg (fK 63 q2),if_pos k2]
  rw [e1,k2] at h
  apply Bx T hA C hl (by lia) hz IT ((M.chr (j:=0) (lt_of_sub_eq_succ k2)).trans hc) (q4.elim .inl λq=>?_) ⟨q1,q2,q3⟩ λl' c' iU C'=>h l' c' iU ?_
  ·by_cases w:dq x.1 0<128
   ·exact .inl w
   ·exact .inr ⟨by exact le_of_not_lt w,λz=>by rw [List.contains_iff_mem.mpr z] at q;cases q⟩
  ·rw [<- push];exact C'
 ·unfold xZ D8 at k1
  simp only [and_eq_true,decide_eq_true_eq,not_eq_true'] at k1
  (apply bq k1 ?_;try clear k1;intro rA jU q5;apply aC rA ?_;clear rA;intro kS q2;apply aC kS ?_;clear kS;intro q0 q1;apply aC jU ?_;clear jU;intro q3 q4)
  apply sx (Fq M q0) λB b1 b2 b3 b4=>?_
  have l3:¬ x.1.length=1:=λz=>absurd b3 (by rw [z];decide)
  have fK:∀ n,x.1≠⟨#[n]⟩:=λn z=>l3 (by rw [z];rfl)
  have e1:bE x=some (some (pieceOf (rawOf x.1))):=by unfold bE iN;rw [if_neg (fK 42),if_neg (fK 63),if_neg l3,q1];rfl
  rw [e1,<- b4] at h
  apply wu T hA C hl hz IT (stuff:=rawOf x.1) B b1 b2 (M.slice (a:=1) (b:=bS x.1) (Nat.le_sub_of_add_le (zg b3 rfl)) (sub_le ..)).symm q1 q2 (uY q3) q4 q5 λl' c' iU C'=>h l' c' iU ?_
  rw [<- push];exact C'
 ·unfold BI D8 at k1
  simp only [and_eq_true,decide_eq_true_eq,beq_iff_eq] at k1
  (apply bq k1 ?_;try clear k1;intro sP kP OB;apply aC sP ?_;clear sP;intro uc OC;apply aC uc ?_;clear uc;intro sC OD;apply aC sC ?_;clear sC;intro Dy OE;apply aC Dy ?_;clear Dy;intro Dz OF;apply aC Dz ?_;clear Dz;intro IU OG;apply aC IU ?_;clear IU;intro yG OH;apply aC yG ?_;clear yG;intro yH a9;apply aC yH ?_;clear yH;intro Dm a8;apply aC Dm ?_;clear Dm;intro yK a7;apply aC yK ?_;clear yK;intro yL a6;apply aC yL ?_;clear yL;intro yM a5;apply aC yM ?_;clear yM;intro Dn a4;apply aC Dn ?_;clear Dn;intro Dp a3;apply aC Dp ?_;clear Dp;intro a1 a2;apply aC kP ?_;clear kP;intro OI OJ)
  apply sx (Fq M a1) λB b1 b2 b3 b4=>?_
  have l3:¬ x.1.length=1:=λz=>absurd b3 (by rw [z];decide)
  have hL:bS x.1<=x.1.length:=sub_le ..
  have hd:eu x.1<bS x.1:=by assumption
  have fK:∀ n,x.1≠⟨#[n]⟩:=λn z=>l3 (by rw [z];rfl)
  have e1:bE x=some (some (pieceOf (iN x.1))):=by unfold bE;rw [if_neg (fK 42),if_neg (fK 63),if_neg l3]
  have es:iN x.1=join (ofString "-") ((b8 (Fm x.1) (Fo x.1)).map gH):=by unfold iN;rw [if_pos a2]
  rw [e1,<- b4] at h
  have s1:=M.slice (a:=1) (b:=bS x.1) (Nat.le_sub_of_add_le (zg b3 rfl)) hL
  have f1:dp p (ofString "-") (hW p i) (i+bS x.1)=((i+eu x.1:Nat):Int):=by
   rw [uX M b3,M.find hL,a3,if_neg (λz=>absurd (natCast_nonneg (eu x.1)) (by rw [z];decide))];rfl
  have f2:dp p (ofString "-") (i+eu x.1+3) (i+bS x.1)=-1:=by
   rw [show i+eu x.1+3=i+(eu x.1+3) from rfl,M.find hL,a7,if_pos rfl]
  have Da:BA p i (i+eu x.1) (i+bS x.1) (Fm x.1) (Fo x.1):=⟨(M.slice (a:=1) (b:=eu x.1) a6 (le_trans (le_of_lt hd) hL)).symm,(M.slice (a:=eu x.1+1) (b:=bS x.1) hd hL).symm,f1,f2,⟨a8,OH⟩,⟨a9,OG⟩,⟨le_trans (add_le_add_left (le_trans (le_of_lt hd) hL) i) (le_trans M.len hz),le_trans (add_le_add_left hL i) (le_trans M.len hz)⟩,λz hz=>all_eq_true.mp OF z hz,OE,OD⟩
  apply zD G T hA C hl hz IT (stuff:=iN x.1) B b1 b2 ?_ Da es OC (uY OI) OJ OB λl' c' iU C'=>h l' c' iU ?_
  ·exact (congrArg (λw=>Txt.contains w (ofString "-")) s1).trans a2
  ·rw [<- push];exact C'
noncomputable def p9 (xs:List Item):List (Option (Option Str)):=xs.foldl (λps x=>fm ps (bE x)) []
noncomputable def aB (xs:List Item):Str:=⟨(xs.flatMap λx=>x.1.cps.toList).toArray⟩
end
end L1
section
theorem qY{x y:Str}{p q tp pos:Pos}{k:Nat}{e:Expr}{Ψ:MF->Loc->Cells->Prop}(hh:A.handled=none)(hx:env.kindOf x=some .local\/env.kindOf x=some .cell)(hy:env.kindOf y=some .local\/env.kindOf y=some .cell)(h:mE X A env (eval e env) (λv l c=>∃ a b,v=.tuple [a,b]/\Ψ .next ((x,a)::(y,b)::l) c) loc cells)(hs:autoParam (swapsWithSole [.Tuple [.Name x p,.Name y q] k tp] e pos.line env=pure false) aR)(hw:autoParam (swappedStores [.Tuple [.Name x p,.Name y q] k tp] e env=pure (some [x,y])) aR) :
  mS X A env (exec (.Assign [.Tuple [.Name x p,.Name y q] k tp] e pos) env) Ψ loc cells:=λown s I =>
 Assign_Tuple_swapped (names:=[x,y]) (h.use I λown1 l1 c1 mv u1 s1 I1 r1 x1 aM=>bW aM λv w e1 h1=>by
  subst e1
  apply RV.yx r1 λa d vs n sl ho hn hz hi=>?_
  obtain ⟨a1,a2,rfl⟩:=xn hz
  have r1:=hi 0 a1 v rfl rfl
  have r2:=hi 1 a2 w rfl rfl
  apply unpackItems_tuple (items:=#[a1,a2]) hh ⟨_,ho,rfl,n,rfl⟩ λh' tY=>?_
  have keep:∀ b o,s1.heap.get? b=some o->h'.get? b=some o:=λb o e=>tY b o (λz=>by rw [z,ak] at e;exact bf e) e
  have I2:Inv X env own1 l1 c1 { s1 with heap:=h'}:=⟨I1.base.keeps keep,I1.ok,I1.fr.ext (cells:=c1) (cells':=c1) (.of_keeps keep)⟩
  show wpAny _ _ (do holding [a1] (bindName env y a2);(do holding [] (bindName env x a1);pure ())) _ _ _
  apply wpAny_bind (wpAny_holding (wpAny_bindName (bu I2 (r2.keeps keep) hy λs2 I3 x2=>?_)))
  apply wpAny_bind (wpAny_holding (wpAny_bindName (bu I3 ((r1.keeps keep).ext I2 x2) hx λs3 I4 x3=>?_)))
  exact wpAny_pure ⟨own1,_,c1,.next,I4,.next,x1.trans (Ext.trans (.of_keeps keep) (x2.trans x3)),h1⟩) hs hw
end
namespace L1
theorem zM(xs:List Item)(k:Nat){x:Item}(h:xs[k]?=some x):qK (aB xs) x.1 (aB (xs.take k)).length:=by
 apply (ez ((xs.take k).flatMap λx=>x.1.cps.toList) ((xs.drop (k+1)).flatMap λx=>x.1.cps.toList) ?_ ?_)
 ·show ((xs.flatMap λx=>x.1.cps.toList).toArray).toList=_
  rw [List.toList_toArray]
  obtain ⟨hk,rfl⟩:=List.getElem?_eq_some_iff.mp h
  have e:xs=xs.take k++(xs[k]::xs.drop (k+1)):=by rw [<- List.drop_eq_getElem_cons hk,List.take_append_drop]
  exact (congrArg (List.flatMap λx=>x.1.cps.toList) e).trans (by rw [flatMap_append,flatMap_cons])
 ·show _=(((xs.take k).flatMap λx=>x.1.cps.toList).toArray).size
  rw [size_toArray]
theorem qa(xs:List Item)(k:Nat){x:Item}(h:xs[k]?=some x):(aB (xs.take (k+1))).length=(aB (xs.take k)).length+x.1.length:=by
 show (((xs.take (k+1)).flatMap λx=>x.1.cps.toList).toArray).size=(((xs.take k).flatMap λx=>x.1.cps.toList).toArray).size+x.1.cps.size
 rw [size_toArray,size_toArray,take_add_one,h,flatMap_append,length_append]
 simp
theorem zN(ps:List (Option (Option Str)))(d:Option (Option Str)):(fm ps d).length<=ps.length+1:=by
 unfold fm
 split
 ·split
  ·exact le_add_right ps.length 1
  ·rw [length_append];simp
 ·rw [length_append];simp
theorem zO(xs:List Item)(k:Nat){x:Item}(h:xs[k]?=some x):p9 (xs.take (k+1))=fm (p9 (xs.take k)) (bE x):=by
 unfold p9
 rw [take_add_one,h,foldl_append];rfl
theorem uZ(xs:List Item):(p9 xs).length<=xs.length:=by
 have:∀ (ys:List Item) (ps:List (Option (Option Str))),(ys.foldl (λps x=>fm ps (bE x)) ps).length<=ps.length+ys.length:=by
  intro ys
  induction ys with
  | nil=>intro ps;exact le_refl _
  | cons y ys ih=>intro ps;have:=ih (fm ps (bE y));have:=zN ps (bE y);rw [foldl_cons,length_cons];lia
 have:=this xs []
 simpa [p9] using this
theorem BL{X:Cx}{A:Around}{k:Nat}{c0:Cells}{xs:List Item}{Ψ:V->Cells->Prop}(G:G1 X)(T:T1 X)(hA:Rm X A (k+2))(hx:∀ x∈xs,x∈bc)(hn:xs.length<=100)(hz:(aB xs).length<=1000)(hP:c0 uR=some .tab)(h:∀ c',(∀ b x,c0 b=some x->c' b=some x)->Ψ (.list ((p9 xs).map dE)) c') :
  aD X A (.ref IG) [.str (aB xs),.none,.int 0] Ψ c0:=by
 apply eT T.1.trans λdoc pm an ct FT=>?_
 apply g4 (names:=["pat","STAR","QUESTION_MARK"]) FT hA (l3 λZ Z Z=>rfl) (λL=>?_) rfl rfl rfl
 have bp:Rm (X.push L) (A.deeper (trEnv L)) (k+1):=hA.deeper (trEnv L) (by show (ai trans).kind≠_;decide) rfl
 have T':T1 (X.push L):=T
 have G':G1 (X.push L):=G
 generalize A.deeper (trEnv L)=A' at bp ⊢
 generalize X.push L=Y at bp T' G' ⊢
 apply aa (ao (.inl rfl) (cz (a_nil ⟨ag (by decide),λa ha=>?_⟩)))
 apply aa (ao (.inl rfl) (pN (m_var rfl (aH a ([]) rfl (ah _ _ _) (λu hu=>?_)))))
 have MP:u≠a:=by rintro rfl;rw [ah] at hu;exact dc hu
 have C0:oH c0 (upd (upd c0 a (some (.list []))) u (some (.De "list.append" a))) a u []:=by
  have JV:c0 u=none:=by rw [ae _ MP] at hu;exact hu
  apply ⟨by rw [ae _ (Ne.symm MP),ah],ah _ _ _,?_,λb x e=>?_,ha⟩
  ·rw [ae _ (by rintro q;rw [<- q,hP] at JV;exact dc JV),ae _ (by rintro q;rw [<- q,hP] at ha;exact dc ha)];exact hP
  ·rw [ae _ (by rintro rfl;rw [e] at JV;exact dc JV),ae _ (by rintro rfl;rw [e] at ha;exact dc ha)];exact e
 generalize upd (upd c0 a (some (.list []))) u (some (.De "list.append" a))=c1 at C0 ⊢
 apply aa (qY bp.hh (.inl rfl) (.inl rfl) (cZ (af (m_int (af (az rfl T'.1.len trivial (af (m_var rfl (a_nil (g8 (ag (by exact zl (by assumption) rfl)) (a_nil (oM (ag (by show 2<=_;decide)) _ _ rfl ?_))))))))))))
 apply aa (gE (λn l c=>∃ j,n=xs.length - j/\j<=xs.length/\Sub (aZ (aB xs) a u (aB (xs.take j)).length) l/\oH c0 c a u ((p9 (xs.take j)).map dE)) xs.length (gO 0 rfl (zero_le _) (Sub.of (eS rfl rfl rfl rfl rfl rfl rfl trivial)) C0) ?_)
 (intro n l c dH;apply sv dH ?_;clear dH;intro j eC;rw [eC];intro hj hl C)
 apply aE (m_var (mv:=.int (aB (xs.take j)).length) (hl _ _ rfl) (m_var (mv:=.int (aB xs).length) (hl _ _ rfl) (ph (ar ?_))))
 by_cases uj:j<xs.length
 ·have JW:xs[j]?=some xs[j]:=getElem?_eq_getElem uj
  have M:=zM xs j JW
  have tI:xs[j]∈bc:=hx _ (mem_of_getElem? JW)
  have hlen:=all_eq_true.mp rV _ tI
  simp only [and_eq_true,decide_eq_true_eq] at hlen
  have JX:=M.len
  have DF:=uZ (xs.take j)
  rw [length_take] at DF
  apply bR (decide_eq_true (by lia)) ?_
  apply zL tI M G' T' bp C hl hz (by lia) λl' c' iU C'=>?_
  apply ⟨(xs.length - (j+1)),(Nat.sub_succ_lt_self xs.length j uj),(j+1),rfl,uj,?_,?_⟩
  ·rw [qa xs j JW];exact iU
  ·rw [zO xs j JW];exact C'
 ·have e:j=xs.length:=by exact zA hj uj
  subst e
  rw [take_length] at hl C ⊢
  apply dO (decide_eq_false (Int.lt_irrefl ↑(aB xs).length)) (au ?_)
  apply aa (Ax (aE (m_var (mv:=.int (aB xs).length) (hl _ _ rfl) (m_var (mv:=.int (aB xs).length) (hl _ _ rfl) (vQ (ar ⟨beq_self_eq_true _,?_⟩))))))
  apply aa (aL (kT (m_var (mv:=.ref a) (hl _ _ rfl) ⟨rfl,C.res,?_⟩)))
  apply h _ λb x e=>?_
  rw [ae _ (by rintro rfl;rw [C.na] at e;exact bf e)];exact C.old b x e
end L1
namespace L1
open PySem.W (findIn typeIn keepIn)
theorem eX.new{D:SA}{c:Cells}{a d:Addr}{ia la:Int->Addr}{σ:TS}{n:Int}{b l:Addr}{s0:Option Cell}(B:eX D c a d ia la σ)(hn:n ∉ σ.nodes)(hb:c b=none)(hl:c l=none)(JY:l≠b) :
  eX D (upd (upd (upd (upd c b s0) l (some (.list []))) b (some (.slots D.ni [some (.int n),some (.int 0),some (.ref l)]))) d (some (.dict (dput (σ.nodes.map λk=>(k,.ref (ia k))) n (.ref b))))) a d (i9 ia n b) (i9 la n l) (σ.get n) /\
  cP c (upd (upd (upd (upd c b s0) l (some (.list []))) b (some (.slots D.ni [some (.int n),some (.int 0),some (.ref l)]))) d (some (.dict (dput (σ.nodes.map λk=>(k,.ref (ia k))) n (.ref b))))):=by
 have db:b≠d:=λz=>by rw [z,B.dict] at hb;exact dc hb
 have dl:l≠d:=λz=>by rw [z,B.dict] at hl;exact dc hl
 have old:∀ x y,c x=some y->x≠d->(upd (upd (upd (upd c b s0) l (some (.list []))) b (some (.slots D.ni [some (.int n),some (.int 0),some (.ref l)]))) d (some (.dict (dput (σ.nodes.map λk=>(k,.ref (ia k))) n (.ref b))))) x=some y:=λx y e hx=>by
  have h1:x≠b:=λz=>by rw [z,hb] at e;exact bf e
  have h2:x≠l:=λz=>by rw [z,hl] at e;exact bf e
  rw [ae _ hx,ae _ h1,ae _ h2,ae _ h1];exact e
 have e1:(σ.get n).nodes=σ.nodes++[n]:=by simp [TS.get,hn]
 have ne:∀ k∈σ.nodes,k≠n:=λk hk z=>hn (z▸hk)
 have ib:∀ k∈σ.nodes,ia k≠b:=λk hk z=>by have:=B.info k hk;rw [z,hb] at this;exact bf this
 have ll:∀ k∈σ.nodes,la k≠l:=λk hk z=>by have:=B.succ k hk;rw [z,hl] at this;exact bf this
 apply ⟨⟨old _ _ B.inst (λz=>by have:=B.inst;rw [z,B.dict] at this;cases this),?_,λk hk=>?_,λk hk=>?_,λk hk j hj e=>?_,λk hk j hj e=>?_,?_,λk hk=>?_⟩,λx y l e=>old x y e (λz=>by rw [z,B.dict] at e;obtain rfl:=cK e;cases l)⟩
 ·rw [ah,e1,Bi hn,map_append]
  congr 3
  ·exact map_congr_left λk hk=>by rw [bx _ _ (ne k hk)]
  ·simp [ba]
 ·rw [e1] at hk
  rcases mem_append.mp hk with q | q
  ·rw [bx _ _ (ne k q),bx _ _ (ne k q)]
   exact old _ _ (B.info k q) (λz=>by have:=B.info k q;rw [z,B.dict] at this;cases this)
  ·rw [mem_singleton.mp q,ba,ba,ae _ db,ah,show (σ.get n).np n=0 from (B.zero n hn).1]
 ·rw [e1] at hk
  rcases mem_append.mp hk with q | q
  ·rw [bx _ _ (ne k q)]
   exact old _ _ (B.succ k q) (λz=>by have:=B.succ k q;rw [z,B.dict] at this;cases this)
  ·rw [mem_singleton.mp q,ba,ae _ dl,ae _ JY,ah,show (σ.get n).su n=[] from (B.zero n hn).2];rfl
 ·rw [e1] at hk hj
  rcases mem_append.mp hk with q | q <;> rcases mem_append.mp hj with r | r
  ·rw [bx _ _ (ne k q),bx _ _ (ne j r)] at e;exact B.kz k q j r e
  ·rw [mem_singleton.mp r,ba,bx _ _ (ne k q)] at e;exact (ib k q e).elim
  ·rw [mem_singleton.mp q,ba,bx _ _ (ne j r)] at e;exact (ib j r e.symm).elim
  ·rw [mem_singleton.mp q,mem_singleton.mp r]
 ·rw [e1] at hk hj
  rcases mem_append.mp hk with q | q <;> rcases mem_append.mp hj with r | r
  ·rw [bx _ _ (ne k q),bx _ _ (ne j r)] at e;exact B.Bh k q j r e
  ·rw [mem_singleton.mp r,ba,bx _ _ (ne k q)] at e;exact (ll k q e).elim
  ·rw [mem_singleton.mp q,ba,bx _ _ (ne j r)] at e;exact (ll j r e.symm).elim
  ·rw [mem_singleton.mp q,mem_singleton.mp r]
 ·rw [e1]
  exact nodup_append.mpr ⟨B.nodup,by simp,λx hx y hy z=>hn (by rw [mem_singleton] at hy;rw [<- hy];exact z▸hx)⟩
 ·rw [e1,mem_append] at hk
  exact B.zero k λq=>hk (.inl q)
theorem TS.GX{σ:TS}{n:Int}(h:n∈σ.nodes):σ.get n=σ:=by simp [TS.get,h]
theorem BM{X:Cx}{A:Around}{k:Nat}{c:Cells}{D:SA}{a d:Addr}{ia la:Int->Addr}{σ:TS}{n:Int}{Ψ:V->Cells->Prop}(S:S2 D X)(hA:Rm X A (k+3))(B:eX D c a d ia la σ)(hz:σ.nodes.length<=1000)(h:∀ c' x9 zP,eX D c' a d x9 zP (σ.get n)->cP c c'->Ψ (.ref (x9 n)) c'):aD X A (.ref D.qT) [.ref a,.int n] Ψ c:=by
 apply dm (names:=["self","node"]) S.qT hA (λZ Z Z Z Z=>l2 λZ Z=>rfl) λL cdv A' bp=>?_
 have S':S2 D (X.push L):=S
 generalize X.push L=Y at bp S' ⊢
 have hd:eQ (σ.nodes.map λk=>(k,V.ref (ia k))) n=if n∈σ.nodes then some (.ref (ia n)) else none:=dget_map (f:=λk=>.ref (ia k))
 apply aa (bt (aE (ud (.inl rfl) (aI (m_attr (m_var rfl (bP (mv:=.ref d) B.inst rfl trivial S'.jx S'.o1 (Gb B.dict slot_dict_get PySem.F.type_dict_get ⟨trivial,af (m_var rfl (a_nil (Gd B.dict ?_)))⟩))))))))
 rw [hd]
 by_cases hn:n∈σ.nodes
 ·rw [if_pos hn]
  apply cx (dJ trivial (ar ?_))
  rw [if_neg (by decide)]
  apply au (aa (aL (m_var rfl ?_)))
  exact h c ia la (by rw [TS.GX hn];exact B) .refl
 ·rw [if_neg hn]
  apply cx (g7 (ar ?_))
  rw [if_pos rfl]
  apply aa (yV (az rfl S'.Le S'.Lg (af (m_var rfl (a_nil (E3 S'.Lj bp (.inr rfl) λb PR hb LG=>?_))))))
  apply DK S' LG (ah _ _ _) trivial λl hl=>⟨rfl,?_⟩
  have JY:l≠b:=λz=>by rw [z,ah] at hl;exact dc hl
  have JM:c l=none:=by rw [ae _ JY] at hl;exact hl
  have Fs:∀ x y,c x=some y->(upd (upd (upd c b (some (Cell.slots D.ni []))) l (some (.list []))) b (some (.slots D.ni [some (.int n),some (.int 0),some (.ref l)]))) x=some y:=λx y e=>by
   have h1:x≠b:=λz=>by rw [z,hb] at e;exact bf e
   have h2:x≠l:=λz=>by rw [z,JM] at e;exact bf e
   rw [ae _ h1,ae _ h2,ae _ h1];exact e
  apply AZ (m_attr (m_var rfl (bP (mv:=.ref d) (Fs _ _ B.inst) rfl trivial S'.jx S'.o1 (m_var rfl (xH (Fs _ _ B.dict) (by simp;exact zl (by assumption) rfl) (AY (.inl rfl) (au (aa (aL (m_var rfl ?_))))))))))
  (apply aC (B.new (s0:=some (Cell.slots D.ni [])) hn hb JM JY) ?_;intro B1 K1)
  have:=h _ _ _ B1 K1
  rw [ba] at this
  exact this
end L1
namespace L1
open PySem.W (findIn typeIn keepIn)
noncomputable def TS.more (σ:TS) (n:Int) (v:Int):TS:={ σ with np:=i9 σ.np n v}
noncomputable def TS.push (σ:TS) (p n:Int):TS:={ σ with su:=i9 σ.su p (σ.su p++[n])}
noncomputable def TS.behind (n:Int) (σ:TS) (p:Int):TS:=(σ.get p).push p n
noncomputable def TS.add (σ:TS) (n:Int) (ps:List Int):TS:=ps.foldl (TS.behind n) ((σ.get n).more n ((σ.get n).np n+ps.length))
def TS.Sz(σ:TS)(u:Nat):Prop:=σ.nodes.length<=u/\∀ k,(σ.su k).length<=u
theorem TS.Sz.le{σ:TS}{u v:Nat}(h:σ.Sz u)(q:u<=v):σ.Sz v:=⟨le_trans h.1 q,λk=>le_trans (h.2 k) q⟩
theorem TS.Sz.get{σ:TS}{u:Nat}{n:Int}(h:σ.Sz u):(σ.get n).Sz (u+1):=by
 apply ⟨?_,λk=>le_succ_of_le (h.2 k)⟩
 unfold TS.get
 try dsimp only
 split
 ·exact le_succ_of_le h.1
 ·simpa using h.1
theorem TS.Sz.more{σ:TS}{u:Nat}{n v:Int}(h:σ.Sz u):(σ.more n v).Sz u:=h
theorem TS.Sz.push{σ:TS}{u:Nat}{p n:Int}(h:σ.Sz u):(σ.push p n).Sz (u+1):=by
 apply ⟨le_succ_of_le h.1,λk=>?_⟩
 unfold TS.push i9
 try dsimp only
 split
 ·subst_vars;simpa using h.2 _
 ·exact le_succ_of_le (h.2 k)
theorem TS.ya{σ:TS}{n:Int}:n∈(σ.get n).nodes:=by
 unfold TS.get
 try dsimp only
 split
 ·assumption
 ·exact List.mem_concat_self
theorem TS.Sz.behind{σ:TS}{u:Nat}{p n:Int}(h:σ.Sz u):(TS.behind n σ p).Sz (u+2):=h.get.push
theorem TS.Sz.fold{n:Int}:∀ {ps:List Int} {σ:TS} {u:Nat},σ.Sz u->(ps.foldl (TS.behind n) σ).Sz (u+2 * ps.length)
 | [],σ,u,h=>h
 | p::r,σ,u,h=>by
  rw [foldl_cons,length_cons]
  exact (TS.Sz.fold h.behind).le (by lia)
section
variable {D:SA}{c:Cells}{a d:Addr}{ia la:Int->Addr}{σ:TS}
theorem eX.IV(B:eX D c a d ia la σ){k:Int}(hk:k∈σ.nodes):a≠ia k/\d≠ia k/\∀ j∈σ.nodes,la j≠ia k:=by
 have e:=B.info k hk
 apply ⟨λz=>?_,λz=>?_,λj hj z=>?_⟩
 ·have:=B.inst;rw [z,e] at this;cases this
 ·have:=B.dict;rw [z,e] at this;cases this
 ·have:=B.succ j hj;rw [z,e] at this;cases this
theorem eX.IW(B:eX D c a d ia la σ){k:Int}(hk:k∈σ.nodes):a≠la k/\d≠la k/\∀ j∈σ.nodes,ia j≠la k:=by
 have e:=B.succ k hk
 apply ⟨λz=>?_,λz=>?_,λj hj z=>?_⟩
 ·have:=B.inst;rw [z,e] at this;cases this
 ·have:=B.dict;rw [z,e] at this;cases this
 ·have:=B.info j hj;rw [z,e] at this;cases this
theorem eX.more(B:eX D c a d ia la σ){n v:Int}(hn:n∈σ.nodes):eX D (upd c (ia n) (some (.slots D.ni [some (.int n),some (.int v),some (.ref (la n))]))) a d ia la (σ.more n v):=by
 apply bq (B.IV hn) λh1 h2 h3=>?_
 apply ⟨by rw [ae _ h1];exact B.inst,by rw [ae _ h2];exact B.dict,λk hk=>?_,λk hk=>by rw [ae _ (h3 k hk)];exact B.succ k hk,B.kz,B.Bh,B.nodup,λk hk=>?_⟩
 ·show _=some (Cell.slots D.ni [some (.int k),some (.int (i9 σ.np n v k)),some (.ref (la k))])
  by_cases z:k=n
  ·rw [z];rw [ah,ba]
  ·rw [ae _ (λq=>z (B.kz k hk n hn q)),bx _ _ z];exact B.info k hk
 ·show i9 σ.np n v k=0/\σ.su k=[]
  rw [bx _ _ (λz=>hk (by rw [z];exact hn))];exact B.zero k hk
theorem eX.push(B:eX D c a d ia la σ){p n:Int}(hp:p∈σ.nodes):eX D (upd c (la p) (some (.list (Iz (σ.su p)++[.int n])))) a d ia la (σ.push p n):=by
 apply bq (B.IW hp) λh1 h2 h3=>?_
 apply ⟨by rw [ae _ h1];exact B.inst,by rw [ae _ h2];exact B.dict,λk hk=>by rw [ae _ (h3 k hk)];exact B.info k hk,λk hk=>?_,B.kz,B.Bh,B.nodup,λk hk=>?_⟩
 ·show _=some (Cell.list (Iz (i9 σ.su p (σ.su p++[n]) k)))
  by_cases z:k=p
  ·rw [z];rw [ah,ba,jP]
  ·rw [ae _ (λq=>z (B.Bh k hk p hp q)),bx _ _ z];exact B.succ k hk
 ·show σ.np k=0/\i9 σ.su p (σ.su p++[n]) k=[]
  rw [bx _ _ (λz=>hk (by rw [z];exact hp))];exact B.zero k hk
theorem eX.u2(B:eX D c a d ia la σ){n:Int}{x:Option Cell}(hn:n∈σ.nodes):cP c (upd c (ia n) x):=cP.upd λy l e=>by rw [B.info n hn] at e;obtain rfl:=cK e;exact Bool.noConfusion l
theorem eX.yb(B:eX D c a d ia la σ){n:Int}{x:Option Cell}(hn:n∈σ.nodes):cP c (upd c (la n) x):=cP.upd λy l e=>by rw [B.succ n hn] at e;obtain rfl:=cK e;exact Bool.noConfusion l
end
theorem GY{X:Cx}{A:Around}{k:Nat}{c:Cells}{D:SA}{a d:Addr}{ia la:Int->Addr}{σ:TS}{n:Int}{ps:List Int}{u:Nat}{Ψ:V->Cells->Prop}(S:S2 D X)(hA:Rm X A (k+4))(B:eX D c a d ia la σ)(hz:σ.Sz u)(hu:u+2 * ps.length+1<=1000)(h:∀ c' x9 zP,eX D c' a d x9 zP (σ.add n ps)->cP c c'->Ψ .none c'):gc X A (.ref D.mF) (.ref a::.int n::Iz ps) Ψ c:=by
 apply ux (names:=["self","node","predecessors"]) (fixed:=[.ref a,.int n]) (rest:=Iz ps) S.mF hA (by rw [ax];exact ag (by lia)) (λZ Z Z Z Z vs us hv=>?_) λL cdv A' bp=>?_
 ·(apply ij (kK hv) ?_;intro v w aM;rw [aM])
  cases us <;> rfl
 have S':S2 D (X.push L):=S
 generalize X.push L=Y at bp S' ⊢
 apply aa (bt (aE (m_attr (m_var rfl (bP (mv:=.none) B.inst rfl trivial S'.jx S'.o2 (cx (ix (ar ?_))))))))
 rw [if_neg (by decide)]
 apply au (aa (ao (.inl rfl) (aI (m_var rfl (kn B.inst rfl S'.jx S'.get.at_ S'.get.typ ⟨S'.get.keep,af (m_var rfl (a_nil (BM S' bp B (by have:=hz.1;lia) λc1 LH JZ B1 K1=>?_)))⟩)))))
 have GZ:n∈(σ.get n).nodes:=TS.ya
 have Hv:=hz.get (n:=n)
 apply aa (iH (m_var rfl (at_slots (mv:=.int ((σ.get n).np n)) (B1.info n GZ) rfl trivial S'.cni S'.s1 (az rfl S'.len trivial (af (m_var rfl (a_nil (nv (by rw [ax];exact ag (by lia)) (mn (gb (B1.info n GZ) S'.cni S'.s1 ?_))))))))))
 rw [ax]
 have B2:=B1.more (v:=(σ.get n).np n+ps.length) GZ
 have K2:cP c1 _:=B1.u2 (x:=some (Cell.slots D.ni [some (.int n),some (.int ((σ.get n).np n+ps.length)),some (.ref (JZ n))])) GZ
 apply aa (dC (bind:=λv l=>("pred",v)::l) (dk (m_var rfl (iDPP _ (o9 bp.hh) ?_))))
 apply ⟨λZ=>[("self",.ref a),("node",.int n)],λi c'=>∃ x9 zP,eX D c' a d x9 zP ((ps.take i).foldl (TS.behind n) ((σ.get n).more n ((σ.get n).np n+ps.length)))/\cP c c',⟨Sub.put rfl (Sub.put rfl Sub.nil),LH,JZ,B2,K1.trans K2⟩,λv hv=>dW (.inl rfl),λv hv l l' hs=>Sub.cons hs,λi v c' hv bk=>bW bk λx9 zP B' K'=>?_,λl c' hl bN=>bW bN λx9 zP B' K'=>?_⟩
 ·(apply aj (iz hv) ?_;intro p hp aM;rw [aM])
  have hi:i<ps.length:=(List.getElem?_eq_some_iff.mp hp).1
  have ml:((ps.take i).foldl (TS.behind n) ((σ.get n).more n ((σ.get n).np n+ps.length))).Sz (u+1+2 * i):=(TS.Sz.fold (Hv.more)).le (by rw [length_take];lia)
  have e:(ps.take (i+1)).foldl (TS.behind n) ((σ.get n).more n ((σ.get n).np n+ps.length))=TS.behind n ((ps.take i).foldl (TS.behind n) ((σ.get n).more n ((σ.get n).np n+ps.length))) p:=by
   rw [take_add_one,foldl_append,hp];rfl
  try dsimp only
  rw [e]
  generalize (ps.take i).foldl (TS.behind n) ((σ.get n).more n ((σ.get n).np n+ps.length))=τ at B' ml ⊢
  apply aa (ao (.inl rfl) (aI (m_var rfl (kn B'.inst rfl S'.jx S'.get.at_ S'.get.typ ⟨S'.get.keep,af (m_var rfl (a_nil (BM S' bp B' (by have:=ml.1;lia) λc3 OK MQ B3 K3=>?_)))⟩))))
  have IX:p∈(τ.get p).nodes:=TS.ya
  have HL:=ml.get (n:=p)
  apply aa (cy (aI (m_attr (m_var rfl (at_slots (mv:=.ref (MQ p)) (B3.info p IX) rfl trivial S'.cni S'.s2 (eG (B3.succ p IX) PySem.F.slot_list_append rfl ⟨trivial,af (m_var rfl (a_nil (c_append (B3.succ p IX) (by rw [ax];have:=HL.2 p;exact ag (by lia)) (au ?_))))⟩))))))
  exact (oM (Sub.put rfl (Sub.put rfl Sub.nil)) OK MQ (B3.push IX) (K'.trans (K3.trans (B3.yb IX))))
 ·rw [ax,take_length] at B'
  exact au (h c' x9 zP B' K')
end L1
namespace L1
open PySem.W (findIn typeIn keepIn)
noncomputable def TS.none:TS:=⟨[],λZ=>0,λZ=>[]⟩
noncomputable def TS.adds (σ:TS) (g:List (Int×List Int)):TS:=g.foldl (λτ kv=>τ.add kv.1 kv.2) σ
noncomputable def gdict (g:List (Int×List Int)):List (Int×V):=g.map λkv=>(kv.1,.list (Iz kv.2))
theorem mL{g:List (Int×List Int)}{i:Nat}{v:V}(h:(iJ (gdict g))[i]?=some v):∃ k ps,g[i]?=some (k,ps)/\v=.tuple [.int k,.list (Iz ps)]:=by
 unfold iJ gdict at h
 rw [map_map,getElem?_map,map_eq_some_iff] at h
 obtain ⟨⟨k,ps⟩,h1,h2⟩:=h
 exact (ez k ps h1 h2.symm)
noncomputable def gi:List (Int×List Int)->Nat
 | []=>0
 | kv::r=>2 * kv.2.length+1+gi r
theorem TS.Sz.add{σ:TS}{u:Nat}{n:Int}{ps:List Int}(h:σ.Sz u):(σ.add n ps).Sz (u+(2 * ps.length+1)):=(TS.Sz.fold (h.get.more)).le (by lia)
theorem TS.Sz.adds:∀ {g:List (Int×List Int)} {σ:TS} {u:Nat},σ.Sz u->(σ.adds g).Sz (u+gi g)
 | [],σ,u,h=>h
 | kv::r,σ,u,h=>by
  show (TS.adds (σ.add kv.1 kv.2) r).Sz _
  exact (TS.Sz.adds h.add).le (by rw [gi];lia)
theorem qb:∀ (g:List (Int×List Int)) (i:Nat) {kv:Int×List Int},g[i]?=some kv->gi (g.take i)+(2 * kv.2.length+1)<=gi g
 | [],i,kv,h=>by simp at h
 | x::r,0,kv,h=>by simp at h;rw [h];simp [gi]
 | x::r,i+1,kv,h=>by
  have:=qb r i (kv:=kv) (Option.mem_def.mp h)
  simp only [List.take_succ_cons,gi]
  lia
theorem iO{n:Str}{v:V}:∀ {fs:List (Str×V)} {m:Nat},fs.length<=m->(sV fs n v).length<=m+1
 | [],m,h=>by simp [sV]
 | (x,u)::r,m,h=>by
  rw [sV]
  split
  ·exact Nat.le_add_right_of_le h
  ·cases m with
   | zero=>simp at h
   | succ m=>have:=iO (n:=n) (v:=v) (fs:=r) (m:=m) (Nat.le_of_lt_succ h);simpa using this
theorem D9{X:Cx}{A:Around}{k:Nat}{c:Cells}{D:SA}{a gd:Addr}{g:List (Int×List Int)}{Ψ:V->Cells->Prop}(S:S2 D X)(hA:Rm X A (k+5))(ha:c a=some (.inst D.ts []))(hg:c gd=some (.bF (gdict g)))(hu:gi g<=900)(h:∀ c' d ia la,eX D c' a d ia la (TS.none.adds g)->cP c c'->Ψ .none c'):gc X A (.ref D.kc) [.ref a,.ref gd] Ψ c:=by
 apply y4 (names:=["self","graph"]) S.kc hA (λZ Z Z Z Z vs A s Q E hv hK hQ=>?_) λL cdv A' bp=>?_
 ·(apply ij (kK hv) ?_;intro v w bk;subst bk)
  ·apply wpAny_bind (m:=seqItems? (.ref D.dflt)) (wpAny_seqItems (hK _ _ S.N1) rfl ?_)
   exact wpAny_of_eq (by rfl) hQ
 have S':S2 D (X.push L):=S
 generalize X.push L=Y at bp S' ⊢
 apply aa (br (nB λd hd=>m_var (mv:=.ref a) (by rfl) (iG (by rw [ae _ (λz=>by rw [<- z,ha] at hd;exact dc hd)];exact ha) S'.jx S'.o1 (by decide) ?_)))
 have JQ:a≠d:=λz=>by rw [<- z,ha] at hd;exact dc hd
 have LI:gd≠d:=λz=>by rw [<- z,hg] at hd;exact dc hd
 have J0:gd≠a:=λz=>by rw [z,ha] at hg;cases hg
 apply aa (br (cx (m_var (mv:=.ref a) (by rfl) (iG (ah _ _ _) S'.jx S'.o2 (le_trans (iO (zero_le 0)) (by decide)) ?_))))
 apply aa (br (m_int (m_var (mv:=.ref a) (by rfl) (iG (ah _ _ _) S'.jx S'.o3 (le_trans (iO (iO (zero_le 0))) (by decide)) ?_))))
 apply aa (br (m_int (m_var (mv:=.ref a) (by rfl) (iG (ah _ _ _) S'.jx S'.o4 (le_trans (iO (iO (iO (zero_le 0)))) (by decide)) ?_))))
 rw [cg,cg,cg]
 have B0:eX D (upd (upd c d (some (.dict []))) a (some (.inst D.ts [("_node2info",.ref d),("_ready_nodes",.none),("_npassedout",.int 0),("_nfinished",.int 0)]))) a d (λZ=>0) (λZ=>0) TS.none :=
  ⟨ah _ _ _,by rw [ae _ (λz=>JQ z.symm),ah];rfl,λk hk=>by simp [TS.none] at hk,λk hk=>by simp [TS.none] at hk,λk hk=>by simp [TS.none] at hk,λk hk=>by simp [TS.none] at hk,by simp [TS.none],λk Z=>⟨rfl,rfl⟩⟩
 have G0:(upd (upd c d (some (.dict []))) a (some (.inst D.ts [("_node2info",.ref d),("_ready_nodes",.none),("_npassedout",.int 0),("_nfinished",.int 0)]))) gd=some (.bF (gdict g)):=by rw [ae _ J0,ae _ LI];exact hg
 have K0:cP c (upd (upd c d (some (.dict []))) a (some (.inst D.ts [("_node2info",.ref d),("_ready_nodes",.none),("_npassedout",.int 0),("_nfinished",.int 0)]))):=(cP.upd (λy l z=>by rw [hd] at z;exact bf z)).trans (cP.upd (λy l z=>by rw [ae _ JQ,ha] at z;obtain rfl:=cK z;exact Bool.noConfusion l))
 show mS Y A' _ _ _ _ (upd (upd c d (some (.dict []))) a (some (.inst D.ts [("_node2info",.ref d),("_ready_nodes",.none),("_npassedout",.int 0),("_nfinished",.int 0)])))
 generalize upd (upd c d (some (.dict []))) a (some (.inst D.ts [("_node2info",.ref d),("_ready_nodes",.none),("_npassedout",.int 0),("_nfinished",.int 0)]))=c0 at B0 G0 K0 ⊢
 apply aa (bt (aE (m_var (mv:=.ref gd) (by rfl) (cx (iw trivial (ar ?_))))))
 rw [if_pos rfl]
 apply aa (dC (bind:=nu "node" "predecessors") (DB bp.hh (m_var (mv:=.ref gd) (by rfl) (aH gd (gdict g) rfl G0 ?_))))
 apply ⟨λZ=>[("self",.ref a)],λi c'=>∃ x9 zP,eX D c' a d x9 zP (TS.none.adds (g.take i))/\cP c0 c',⟨Sub.put (by rfl) Sub.nil,_,_,B0,.refl⟩,λv hv=>?_,λv hv l l' hs=>Sub.nu ?_ hs,λi v c' hv dH=>bW dH λx9 zP B' K'=>?_,λl c' hl eC=>bW eC λx9 zP B' K'=>?_⟩
 ·apply bw (getElem?_of_mem hv) λi hi=>?_
  (apply bW (mL hi) ?_;intro k ps Z bk;rw [bk])
  exact o8 bp.hh (.inl (by rfl)) (.inl (by rfl))
 ·apply bw (getElem?_of_mem hv) λi hi=>?_
  (apply bW (mL hi) ?_;intro k ps Z bN;rw [bN])
  exact (kG _ _ rfl)
 ·(apply bW (mL hv) ?_;intro n ps hp cI;rw [cI])
  have hz:(TS.none.adds (g.take i)).Sz (0+gi (g.take i)):=TS.Sz.adds ⟨zero_le _,λZ=>zero_le _⟩
  have hs:=qb g i hp
  dsimp only at hs
  have e:TS.none.adds (g.take (i+1))=(TS.none.adds (g.take i)).add n ps:=by
   unfold TS.adds
   rw [take_add_one,foldl_append,hp];rfl
  try dsimp only
  rw [e]
  apply aa (cy (y5 (m_var (mv:=.ref a) (by rfl) (jb a D.ts _ D.mF rfl B'.inst (by rfl) S'.jx S'.Ll (af (m_var (mv:=.int n) (by rfl) (Gf (m_var (mv:=.list (Iz ps)) (by rfl) (aV _ (.inl rfl) (by rw [ax];exact ag (by lia)) (a_nil ?_))))))))))
  rw [append_nil]
  apply GY S' bp B' hz (by lia) λc1 LH JZ B1 K1=>au (oM (Sub.put (by rfl) Sub.nil) LH JZ B1 (K'.trans K1))
 ·have hl:(iJ (gdict g)).length=g.length:=by simp [iJ,gdict]
  rw [hl,take_length] at B'
  exact au (au (h c' d x9 zP B' (K0.trans K')))
end L1
namespace L1
open PySem.W (findIn typeIn keepIn)
noncomputable def cV (D:SA) (σ:TS) (k:Int):Cell:=.slots D.ni [some (.int k),some (.int (σ.np k)),some (.list (Iz (σ.su k)))]
structure mM(D:SA)(c:Cells)(a d:Addr)(ia:Int->Addr)(σ:TS)(rv:V)(p f:Int):Prop where
 inst:c a=some (.inst D.ts [("_node2info",.ref d),("_ready_nodes",rv),("_npassedout",.int p),("_nfinished",.int f)])
 dict:c d=some (.bF (σ.nodes.map λk=>(k,.ref (ia k))))
 info:∀ k∈σ.nodes,c (ia k)=some (cV D σ k)
 kz:∀ k∈σ.nodes,∀ j∈σ.nodes,ia k=ia j->k=j
 nodup:σ.nodes.Nodup
structure zQ(D:SA)(c:Cells)(a d:Addr)(ia la:Int->Addr)(σ:TS)(todo:List Int):Prop where
 inst:c a=some (.inst D.ts [("_node2info",.ref d),("_ready_nodes",.none),("_npassedout",.int 0),("_nfinished",.int 0)])
 dict:c d=some (.dict (σ.nodes.map λk=>(k,.ref (ia k))))
 fin:∀ k∈σ.nodes,k ∉ todo->c (ia k)=some (cV D σ k)
 info:∀ k∈todo,k∈σ.nodes/\c (ia k)=some (.slots D.ni [some (.int k),some (.int (σ.np k)),some (.ref (la k))])
 succ:∀ k∈todo,c (la k)=some (.list (Iz (σ.su k)))
theorem zQ.go{X:Cx}{D:SA}{a d:Addr}{ia la:Int->Addr}{σ:TS}(iI:∀ k∈σ.nodes,∀ j∈σ.nodes,ia k=ia j->k=j)(iL:∀ k∈σ.nodes,∀ j∈σ.nodes,la k=la j->k=j) :
  ∀ (todo:List Int) (c:Cells),todo.Nodup->zQ D c a d ia la σ todo->∃ c',(Gh X c c'/\cP c c')/\zQ D c' a d ia la σ []
 | [],c,_,F=>(iDPP c ⟨.refl,.refl⟩ F)
 | k::r,c,hn,F=>by
  rw [nodup_cons] at hn
  apply aC (F.info k mem_cons_self) λhk ek=>?_
  have sk:=F.succ k mem_cons_self
  have g:=Gh.vX (X:=X) (i:=2) sk ek rfl
  have na:∀ x y,c x=some y->(∀ xs,y≠.list xs)->x≠la k:=λx y e n z=>by rw [z,sk] at e;obtain rfl:=cK e;exact n _ rfl
  have ni:∀ x y,c x=some y->(∀ C fs,y≠.slots C fs)->x≠ia k:=λx y e n z=>by rw [z,ek] at e;obtain rfl:=cK e;exact n _ _ rfl
  have F':zQ D (upd (upd c (la k) none) (ia k) (some (.slots D.ni ([some (.int k),some (.int (σ.np k)),some (.ref (la k))].set 2 (some (.list (Iz (σ.su k)))))))) a d ia la σ r:=by
   apply ⟨?_,?_,λj hj hr=>?_,λj hj=>?_,λj hj=>?_⟩
   ·rw [ae _ (ni _ _ F.inst (by intros;simp)),ae _ (na _ _ F.inst (by intros;simp))];exact F.inst
   ·rw [ae _ (ni _ _ F.dict (by intros;simp)),ae _ (na _ _ F.dict (by intros;simp))];exact F.dict
   ·by_cases z:j=k
    ·rw [z];rw [ah];rfl
    ·have e:=F.fin j hj (by rw [mem_cons];exact λq=>q.elim z hr)
     rw [ae _ (λq=>z (iI j hj k hk q)),ae _ (na _ _ e (by intros;simp [cV]))];exact e
   ·apply aC (F.info j (mem_cons_of_mem _ hj)) λh1 e=>?_
    have z:j≠k:=λq=>hn.1 (q▸hj)
    exact ⟨h1,by rw [ae _ (λq=>z (iI j h1 k hk q)),ae _ (na _ _ e (by intros;simp))];exact e⟩
   ·have e:=F.succ j (mem_cons_of_mem _ hj)
    have h1:=(F.info j (mem_cons_of_mem _ hj)).1
    have z:j≠k:=λq=>hn.1 (q▸hj)
    rw [ae _ (ni _ _ e (by intros;simp)),ae _ (λq=>z (iL j h1 k hk q))];exact e
  obtain ⟨c',g',OL⟩:=zQ.go iI iL r _ hn.2 F'
  exact (iDPP c' ⟨g.trans g'.1,((cP.upd (λy l z=>by rw [sk] at z;obtain rfl:=cK z;exact Bool.noConfusion l)).trans (cP.upd (λy l z=>na _ _ ek (by intros;simp) (by by_cases q:ia k=la k;exact q;rw [ae _ q,ek] at z;obtain rfl:=cK z;exact Bool.noConfusion l)))).trans g'.2⟩ OL)
theorem eX.stop{X:Cx}{D:SA}{c:Cells}{a d:Addr}{ia la:Int->Addr}{σ:TS}(B:eX D c a d ia la σ):∃ c',(Gh X c c'/\cP c c')/\mM D c' a d ia σ .none 0 0:=by
 apply aj (zQ.go (X:=X) (D:=D) (a:=a) (d:=d) B.kz B.Bh σ.nodes c B.nodup ⟨B.inst,B.dict,λk hk n=>(n hk).elim,λk hk=>⟨hk,B.info k hk⟩,B.succ⟩) λc' g F=>?_
 apply ⟨_,⟨g.1.trans (Gh.stop F.dict),g.2.trans (cP.upd (λy l z=>by rw [F.dict] at z;obtain rfl:=cK z;exact Bool.noConfusion l))⟩,?_,ah _ _ _,λk hk=>?_,B.kz,B.nodup⟩
 ·rw [ae _ (λz=>by have:=F.inst;rw [z,F.dict] at this;cases this)];exact F.inst
 ·have e:=F.fin k hk List.not_mem_nil
  rw [ae _ (λz=>by rw [z,F.dict] at e;simp [cV] at e)];exact e
theorem G2{X:Cx}{A:Around}{k:Nat}{c:Cells}{D:SA}{gd:Addr}{g:List (Int×List Int)}{Ψ:V->Cells->Prop}(S:S2 D X)(hA:Rm X A (k+6))(hg:c gd=some (.dict (gdict g)))(hu:gi g<=900)(h:∀ c' a d ia,mM D c' a d ia (TS.none.adds g) .none 0 0->c' gd=some (.bF (gdict g))->(∀ b,c b=some .tab->c' b=some .tab)->Ψ (.ref a) c'):aD X A (.ref D.ts) [.ref gd] Ψ c:=by
 apply aD.gh (Gh.stop hg) (aD.H3 (E3 S.Lk hA (.inl rfl) λa A' ha bp=>?_))
 have J0:gd≠a:=λz=>by rw [<- z,ah] at ha;exact dc ha
 apply D9 S bp (ah _ _ _) (by rw [ae _ J0,ah]) hu λc' d ia la B KF=>⟨rfl,?_⟩
 apply aj (B.stop (X:=X)) λc2 g2 R=>?_
 exact (iDPP c2 g2.1 (h c2 a d ia R (g2.2 _ _ rfl (KF _ _ rfl (by rw [ae _ J0,ah]))) λb hb=>g2.2 _ _ rfl (KF _ _ rfl (by
  have n1:b≠gd:=λz=>by rw [z,hg] at hb;cases hb
  have n2:b≠a:=λz=>by rw [<- z,ae _ n1,hb] at ha;exact dc ha
  rw [ae _ n2,ae _ n1];exact hb))))
end L1
namespace L1
open PySem.W (findIn typeIn keepIn)
structure kC(D:SA)(c:Cells)(a d r:Addr)(ia:Int->Addr)(σ:TS)(rd:List Int)(p f:Int):Prop where
 rep:mM D c a d ia σ (.ref r) p f
 wF:c r=some (.list (Iz rd))
noncomputable def IY:Cell->Bool
 | .list _=>true
 | .bF _=>true
 | .tab=>true
 | _=>false
def dP(r:Addr)(c c':Cells):Prop:=∀ b y,c b=some y->IY y=true->b≠r->c' b=some y
theorem dP.refl{r:Addr}{c:Cells}:dP r c c:=λZ Z h Z Z=>h
theorem dP.trans{r:Addr}{a b c:Cells}(h:dP r a b)(k:dP r b c):dP r a c:=λx y e l n=>k x y (h x y e l n) l n
theorem dP.upd{r:Addr}{c:Cells}{a:Addr}{x:Option Cell}(h:a=r\/∀ y,c a=some y->IY y=false):dP r c (upd c a x):=λb xs e lf n=>by
 have hb:b≠a:=λz=>by
  subst z
  exact h.elim (λq=>n q) λq=>absurd lf (by rw [q xs e];decide)
 rw [ae _ hb];exact e
section
variable {D:SA}{c:Cells}{a d r:Addr}{ia:Int->Addr}{σ:TS}{rv:V}{p f:Int}{rd:List Int}
theorem mM.more(B:mM D c a d ia σ rv p f){n v:Int}(hn:n∈σ.nodes):mM D (upd c (ia n) (some (cV D (σ.more n v) n))) a d ia (σ.more n v) rv p f:=by
 have e:=B.info n hn
 apply ⟨?_,?_,λk hk=>?_,B.kz,B.nodup⟩
 ·rw [ae _ (λz=>by have:=B.inst;rw [z,e] at this;simp [cV] at this)];exact B.inst
 ·rw [ae _ (λz=>by have:=B.dict;rw [z,e] at this;simp [cV] at this)];exact B.dict
 ·by_cases z:k=n
  ·rw [z];rw [ah]
  ·rw [ae _ (λq=>z (B.kz k hk n hn q)),B.info k hk]
   show some (cV D σ k)=some (cV D (σ.more n v) k)
   unfold cV TS.more
   try dsimp only
   rw [bx _ _ z]
theorem kC.more(B:kC D c a d r ia σ rd p f){n v:Int}(hn:n∈σ.nodes):kC D (upd c (ia n) (some (cV D (σ.more n v) n))) a d r ia (σ.more n v) rd p f :=
 ⟨B.rep.more hn,by rw [ae _ (λz=>by have:=B.rep.info n hn;rw [<- z,B.wF] at this;simp [cV] at this)];exact B.wF⟩
theorem kC.list(B:kC D c a d r ia σ rd p f){rd':List Int}:kC D (upd c r (some (.list (Iz rd')))) a d r ia σ rd' p f:=by
 have e:=B.wF
 apply ⟨⟨?_,?_,λk hk=>?_,B.rep.kz,B.rep.nodup⟩,ah _ _ _⟩
 ·rw [ae _ (λz=>by have:=B.rep.inst;rw [z,e] at this;cases this)];exact B.rep.inst
 ·rw [ae _ (λz=>by have:=B.rep.dict;rw [z,e] at this;cases this)];exact B.rep.dict
 ·rw [ae _ (λz=>by have:=B.rep.info k hk;rw [z,e] at this;simp [cV] at this)];exact B.rep.info k hk
theorem kC.inst(B:kC D c a d r ia σ rd p f){p' f':Int}:kC D (upd c a (some (.inst D.ts [("_node2info",.ref d),("_ready_nodes",.ref r),("_npassedout",.int p'),("_nfinished",.int f')]))) a d r ia σ rd p' f':=by
 have e:=B.rep.inst
 apply ⟨⟨ah _ _ _,?_,λk hk=>?_,B.rep.kz,B.rep.nodup⟩,?_⟩
 ·rw [ae _ (λz=>by have:=B.rep.dict;rw [z,e] at this;cases this)];exact B.rep.dict
 ·rw [ae _ (λz=>by have:=B.rep.info k hk;rw [z,e] at this;simp [cV] at this)];exact B.rep.info k hk
 ·rw [ae _ (λz=>by have:=B.wF;rw [z,e] at this;cases this)];exact B.wF
theorem kC.u2(B:kC D c a d r ia σ rd p f){n:Int}{x:Option Cell}(hn:n∈σ.nodes):dP r c (upd c (ia n) x):=dP.upd (.inr λy e=>by rw [B.rep.info n hn] at e;cases e;rfl)
theorem kC.Ft(B:kC D c a d r ia σ rd p f){x:Option Cell}:dP r c (upd c a x):=dP.upd (.inr λy e=>by rw [B.rep.inst] at e;cases e;rfl)
theorem tJ(B:mM D c a d ia σ rv p f){k:Int}(hk:k∈σ.nodes):eQ (σ.nodes.map λk=>(k,V.ref (ia k))) k=some (.ref (ia k)):=by rw [dget_map (f:=λk=>.ref (ia k)),if_pos hk]
end
theorem zR{X:Cx}{A:Around}{k:Nat}{c:Cells}{D:SA}{a d r:Addr}{ia:Int->Addr}{σ:TS}{rd:List Int}{p f:Int}{Ψ:V->Cells->Prop}(S:S2 D X)(hA:Rm X A (k+1))(B:kC D c a d r ia σ rd p f)(hz:rd.length<=1000000)(h:Ψ (.bool (decide (f<p)||!rd.isEmpty)) c):aD X A (.ref D.fact) [.ref a] Ψ c:=by
 apply dm (names:=["self"]) S.fact hA (λZ Z Z Z Z=>l1 λZ=>rfl) λL cdv A' bp=>?_
 have S':S2 D (X.push L):=S
 generalize X.push L=Y at bp S' ⊢
 apply aa (bt (aE (m_attr (m_var rfl (bP (mv:=.ref r) B.rep.inst rfl trivial S'.jx S'.o2 (cx (dJ trivial (ar ?_))))))))
 rw [if_neg (by decide)]
 apply au (aa (aL (Fd (gz (m_attr (m_var rfl (bP (mv:=.int f) B.rep.inst rfl trivial S'.jx S'.o4 (m_attr (m_var rfl (bP (mv:=.int p) B.rep.inst rfl trivial S'.jx S'.o3 (ph (ar ?_))))))))))))
 by_cases q:f<p
 ·rw [if_pos (decide_eq_true q)]
  simpa [q,Back] using h
 ·rw [if_neg (by simpa using q)]
  apply az rfl S'.bool trivial (af (m_attr (m_var rfl (bP (mv:=.ref r) B.rep.inst rfl trivial S'.jx S'.o2 (a_nil (uL B.wF (by rw [ax];exact ag hz) ?_))))))
  have e:(Iz rd).isEmpty=rd.isEmpty:=by cases rd <;> rfl
  rw [e]
  simpa [q,Back] using h
noncomputable def TS.outs (σ:TS) (ns:List Int):TS:=ns.foldl (λτ k=>τ.more k (-1)) σ
theorem TS.kD(σ:TS):∀ (ns:List Int),(σ.outs ns).nodes=σ.nodes/\(σ.outs ns).su=σ.su:=by
 intro ns
 induction ns generalizing σ with
 | nil=>exact ⟨rfl,rfl⟩
 | cons n r ih=>exact ih (σ.more n (-1))
theorem BN{X:Cx}{A:Around}{k:Nat}{c:Cells}{D:SA}{a d r:Addr}{ia:Int->Addr}{σ:TS}{rd:List Int}{p f:Int}{Ψ:V->Cells->Prop}(S:S2 D X)(hA:Rm X A (k+1))(B:kC D c a d r ia σ rd p f)(hz:rd.length<1000)(hr:∀ k∈rd,k∈σ.nodes)(h:∀ c',kC D c' a d r ia (σ.outs rd) [] (p+rd.length) f->dP r c c'->Ψ (.tuple (Iz rd)) c'):aD X A (.ref D.gY) [.ref a] Ψ c:=by
 apply dm (names:=["self"]) S.gY hA (λZ Z Z Z Z=>l1 λZ=>rfl) λL cdv A' bp=>?_
 have S':S2 D (X.push L):=S
 generalize X.push L=Y at bp S' ⊢
 apply aa (bt (aE (m_attr (m_var rfl (bP (mv:=.ref r) B.rep.inst rfl trivial S'.jx S'.o2 (cx (dJ trivial (ar ?_))))))))
 rw [if_neg (by decide)]
 apply au (aa (ao (.inl rfl) (az rfl S'.tuple trivial (af (m_attr (m_var rfl (bP (mv:=.ref r) B.rep.inst rfl trivial S'.jx S'.o2 (a_nil (sW B.wF (by rw [ax];exact ag (by lia)) ?_)))))))))
 apply aa (ao (.inl rfl) (m_attr (m_var rfl (bP (mv:=.ref d) B.rep.inst rfl trivial S'.jx S'.o1 ?_))))
 apply aa (dC (bind:=λv l=>("node",v)::l) (dk (m_var rfl (iDPP _ (o9 bp.hh) ?_))))
 apply (dS (λZ=>[("n2i",.ref d),("result",.tuple (Iz rd)),("self",.ref a)]) (λi c'=>kC D c' a d r ia (σ.outs (rd.take i)) rd p f/\dP r c c') (⟨Sub.put rfl (Sub.put rfl (Sub.put rfl Sub.nil)),B,.refl⟩) (λv hv=>dW (.inl rfl)) (λv hv l l' hs=>Sub.cons hs) (λi v c' hv cI=>aC cI λB' K'=>?_) (λl c' hl dH=>aC dH λB' K'=>?_))
 ·(apply aj (iz hv) ?_;intro n hp bN;rw [bN])
  have hn:n∈(σ.outs (rd.take i)).nodes:=by rw [(TS.kD σ _).1];exact hr n (mem_of_getElem? hp)
  have e:σ.outs (rd.take (i+1))=(σ.outs (rd.take i)).more n (-1):=by
   unfold TS.outs
   rw [take_add_one,foldl_append,hp];rfl
  try dsimp only
  rw [e]
  apply aa (br (eU rfl S'.out (m_item (m_var rfl (m_var rfl (g_fdict B'.rep.dict (tJ B'.rep hn) (gb (B'.rep.info n hn) S'.cni S'.s1 (au ?_))))))))
  have B2:=B'.more (v:=-1) hn
  have e2:cV D ((σ.outs (rd.take i)).more n (-1)) n=.slots D.ni (bQ [some (.int n),some (.int ((σ.outs (rd.take i)).np n)),some (.list (Iz ((σ.outs (rd.take i)).su n)))] 1 (.int (-1))):=by
   unfold cV TS.more bQ
   try dsimp only
   rw [ba];rfl
  rw [e2] at B2
  exact ⟨Sub.put rfl (Sub.put rfl (Sub.put rfl Sub.nil)),B2,K'.trans (B'.u2 hn)⟩
 ·rw [ax,take_length] at B'
  apply aa (cy (aI (m_attr (m_var (mv:=.ref a) (hl _ _ rfl) (bP (mv:=.ref r) B'.rep.inst rfl trivial S'.jx S'.o2 (eG B'.wF PySem.F.slot_list_clear rfl ⟨trivial,a_nil (Dx B'.wF (by rw [ax];exact hz) ?_)⟩))))))
  have B3:=B'.list (rd':=[])
  apply aa (iH (m_var (mv:=.ref a) (hl _ _ rfl) (bP (mv:=.int p) B3.rep.inst rfl trivial S'.jx S'.o3 (az rfl S'.len trivial (af (m_var (mv:=.tuple (Iz rd)) (hl _ _ rfl) (a_nil (nv (by rw [ax];exact ag (by lia)) (mn (iG B3.rep.inst S'.jx S'.o3 (by show 4<=1000;decide) ?_))))))))))
  rw [ax]
  apply aa (aL (m_var (mv:=.tuple (Iz rd)) (hl _ _ rfl) ?_))
  exact h _ (B3.inst (p':=p+rd.length) (f':=f)) ((K'.trans (dP.upd (.inl rfl))).trans B3.Ft)
end L1
namespace L1
open PySem.W (findIn typeIn keepIn)
noncomputable def TS.dec (st:TS×List Int) (s:Int):TS×List Int:=(st.1.more s (st.1.np s - 1),if st.1.np s - 1=0 then st.2++[s] else st.2)
noncomputable def TS.hY (st:TS×List Int) (k:Int):TS×List Int:=(st.1.su k).foldl TS.dec (st.1.more k (-2),st.2)
noncomputable def TS.cH (st:TS×List Int) (ns:List Int):TS×List Int:=ns.foldl TS.hY st
theorem TS.u3(st:TS×List Int):∀ (ss:List Int),(ss.foldl TS.dec st).1.nodes=st.1.nodes/\(ss.foldl TS.dec st).1.su=st.1.su/\(ss.foldl TS.dec st).2.length<=st.2.length+ss.length:=by
 intro ss
 induction ss generalizing st with
 | nil=>exact ⟨rfl,rfl,le_refl _⟩
 | cons s r ih =>
  apply bq (ih (TS.dec st s)) λh1 h2 h3=>?_
  apply ⟨h1,h2,?_⟩
  rw [foldl_cons,length_cons]
  apply le_trans h3 ?_
  unfold TS.dec
  try dsimp only
  split <;> simp <;> lia
theorem TS.qc(N:Nat):∀ (ns:List Int) (st:TS×List Int),(∀ k,(st.1.su k).length<=N)->(TS.cH st ns).1.nodes=st.1.nodes/\(TS.cH st ns).1.su=st.1.su/\(TS.cH st ns).2.length<=st.2.length+ns.length * N:=by
 intro ns
 induction ns with
 | nil=>intro st Z;exact ⟨rfl,rfl,by simp [TS.cH]⟩
 | cons n r ih =>
  intro st hN
  (apply bq (TS.u3 (st.1.more n (-2),st.2) (st.1.su n)) ?_;intro h1 h2 h3)
  have e2:(TS.hY st n).1.su=st.1.su:=h2
  apply bq (ih (TS.hY st n) (λk=>by rw [e2];exact hN k)) λi1 i2 i3=>?_
  apply ⟨i1.trans h1,i2.trans e2,?_⟩
  show (TS.cH (TS.hY st n) r).2.length<=_
  apply le_trans i3 ?_
  have h4:(TS.hY st n).2.length<=st.2.length+(st.1.su n).length:=h3
  have:=hN n
  rw [length_cons,Nat.add_mul]
  lia
theorem Ea{X:Cx}{A:Around}{k:Nat}{c:Cells}{D:SA}{a d r:Addr}{ia:Int->Addr}{σ:TS}{rd ns:List Int}{p f:Int}{Ψ:V->Cells->Prop}(S:S2 D X)(hA:Rm X A (k+1))(B:kC D c a d r ia σ rd p f)(hz:rd.length<=1000)(hs:∀ k,(σ.su k).length<=100)(hn:ns.length<=100)(hm:∀ k∈σ.nodes,∀ s∈σ.su k,s∈σ.nodes)(AJ:∀ (i:Nat) k,ns[i]?=some k->k∈σ.nodes/\(TS.cH (σ,rd) (ns.take i)).1.np k=-1)(h:∀ c',kC D c' a d r ia (TS.cH (σ,rd) ns).1 (TS.cH (σ,rd) ns).2 p (f+ns.length)->dP r c c'->Ψ .none c'):gc X A (.ref D.hO) (.ref a::Iz ns) Ψ c:=by
 apply ux (names:=["self","nodes"]) (fixed:=[.ref a]) (rest:=Iz ns) S.hO hA (by rw [ax];exact ag (by exact zl (by assumption) rfl)) (λZ Z Z Z Z vs us hv=>?_) λL cdv A' bp=>?_
 ·(apply bw (sA hv) ?_;intro v aM;rw [aM])
  cases us <;> rfl
 have S':S2 D (X.push L):=S
 generalize X.push L=Y at bp S' ⊢
 apply aa (bt (aE (m_attr (m_var rfl (bP (mv:=.ref r) B.rep.inst rfl trivial S'.jx S'.o2 (cx (dJ trivial (ar ?_))))))))
 rw [if_neg (by decide)]
 apply au (aa (ao (.inl rfl) (m_attr (m_var rfl (bP (mv:=.ref d) B.rep.inst rfl trivial S'.jx S'.o1 ?_)))))
 apply aa (dC (bind:=λv l=>("node",v)::l) (dk (m_var rfl (iDPP _ (o9 bp.hh) ?_))))
 apply (dS (λZ=>[("n2i",.ref d),("self",.ref a)]) (λi c'=>kC D c' a d r ia (TS.cH (σ,rd) (ns.take i)).1 (TS.cH (σ,rd) (ns.take i)).2 p (f+i)/\dP r c c') (⟨Sub.put rfl (Sub.put rfl Sub.nil),by simpa [TS.cH] using B,.refl⟩) (λv hv=>dW (.inl rfl)) (λv hv l l' hs=>Sub.cons hs) (λi v c' hv bN=>aC bN λB' K'=>?_) (λl c' hl cI=>aC cI λB' K'=>?_))
 ·(apply aj (iz hv) ?_;intro n hp aM;rw [aM])
  have hi:i<ns.length:=(List.getElem?_eq_some_iff.mp hp).1
  apply bq (TS.qc 100 (ns.take i) (σ,rd) hs) λs1 s2 s3=>?_
  apply aC (AJ i n hp) λGZ yB=>?_
  have e:TS.cH (σ,rd) (ns.take (i+1))=TS.hY (TS.cH (σ,rd) (ns.take i)) n:=by
   unfold TS.cH
   rw [take_add_one,foldl_append,hp];rfl
  try dsimp only
  rw [e]
  generalize TS.cH (σ,rd) (ns.take i)=st at B' s1 s2 s3 yB ⊢
  obtain ⟨τ,G3⟩:=st
  dsimp only at B' s1 s2 s3 yB
  have OM:G3.length<=11000:=by rw [length_take] at s3;have:min i ns.length * 100<=100 * 100:=Nat.mul_le_mul_right _ (by lia);lia
  have C4:n∈τ.nodes:=by rw [s1];exact GZ
  have cu:(τ.su n).length<=100:=by rw [s2];exact hs n
  apply aa (bt (aE (ud (.inl rfl) (aI (m_var rfl (xJ B'.rep.dict slot_dict_get PySem.F.type_dict_get ⟨trivial,af (m_var rfl (a_nil (Gg B'.rep.dict ?_)))⟩))))))
  rw [tJ B'.rep C4]
  apply cx (dJ trivial (ar ?_))
  rw [if_neg (by decide)]
  apply au (aa (ao (.inl rfl) (m_attr (m_var rfl (at_slots (mv:=.int (τ.np n)) (B'.rep.info n C4) rfl trivial S'.cni S'.s1 ?_)))))
  apply aa (bt (aE (m_var rfl (eU rfl S'.out (FN (ar ?_))))))
  rw [yB]
  rw [if_neg (by decide)]
  apply au (aa (br (eU rfl S'.done (m_var rfl (gb (B'.rep.info n C4) S'.cni S'.s1 ?_)))))
  have B2:=B'.more (v:=-2) C4
  have e2:cV D (τ.more n (-2)) n=.slots D.ni (bQ [some (.int n),some (.int (τ.np n)),some (.list (Iz (τ.su n)))] 1 (.int (-2))):=by
   unfold cV TS.more bQ
   try dsimp only
   rw [ba];rfl
  have K2:dP r c' (upd c' (ia n) (some (cV D (τ.more n (-2)) n))):=B'.u2 C4
  rw [<- e2]
  apply aa (dC (bind:=λv l=>("successor",v)::l) (dk (m_attr (m_var rfl (at_slots (mv:=.list (Iz (τ.su n))) (B2.rep.info n C4) rfl trivial S'.cni S'.s2 (iDPP _ (dI bp.hh) ?_))))))
  generalize upd c' (ia n) (some (cV D (τ.more n (-2)) n))=c2 at B2 K2 ⊢
  apply (dS (λZ=>[("n2i",.ref d),("self",.ref a)]) (λj c3=>kC D c3 a d r ia (((τ.su n).take j).foldl TS.dec (τ.more n (-2),G3)).1 (((τ.su n).take j).foldl TS.dec (τ.more n (-2),G3)).2 p (f+i)/\dP r c2 c3) (⟨Sub.put rfl (Sub.put rfl Sub.nil),B2,.refl⟩) (λv hv=>dW (.inl rfl)) (λv hv l l' hs=>Sub.cons hs) (λj v c3 hv dH=>aC dH λB3 K3=>?_) (λl c3 hl eC=>aC eC λB3 K3=>?_))
  ·(apply aj (iz hv) ?_;intro m hq bk;rw [bk])
   (apply bq (TS.u3 (τ.more n (-2),G3) ((τ.su n).take j)) ?_;intro t1 t2 t3)
   have e3:((τ.su n).take (j+1)).foldl TS.dec (τ.more n (-2),G3)=TS.dec (((τ.su n).take j).foldl TS.dec (τ.more n (-2),G3)) m:=by
    rw [take_add_one,foldl_append,hq];rfl
   try dsimp only
   rw [e3]
   generalize ((τ.su n).take j).foldl TS.dec (τ.more n (-2),G3)=st at B3 t1 t2 t3 ⊢
   obtain ⟨υ,MR⟩:=st
   dsimp only at B3 t1 t2 t3
   have PS:MR.length<=12000:=by rw [length_take] at t3;exact le_trans t3 (le_trans (Nat.add_le_add OM (le_trans (Nat.min_le_right ..) (by assumption))) (le_of_ble_eq_true rfl))
   have Hx:m∈υ.nodes:=by
    rw [t1]
    show m∈τ.nodes
    rw [s1]
    exact hm n GZ m (by rw [<- s2];exact mem_of_getElem? hq)
   apply aa (ao (.inl rfl) (m_item (m_var rfl (m_var rfl (g_fdict B3.rep.dict (tJ B3.rep Hx) ?_)))))
   apply aa (iH (m_var rfl (at_slots (mv:=.int (υ.np m)) (B3.rep.info m Hx) rfl trivial S'.cni S'.s1 (m_int (FK (gb (B3.rep.info m Hx) S'.cni S'.s1 ?_))))))
   have B4:=B3.more (v:=υ.np m - 1) Hx
   have K4:dP r c3 (upd c3 (ia m) (some (cV D (υ.more m (υ.np m - 1)) m))):=B3.u2 Hx
   have e4:cV D (υ.more m (υ.np m - 1)) m=.slots D.ni (bQ [some (.int m),some (.int (υ.np m)),some (.list (Iz (υ.su m)))] 1 (.int (υ.np m - 1))):=by
    unfold cV TS.more bQ
    try dsimp only
    rw [ba];rfl
   rw [<- e4]
   have ON:(υ.more m (υ.np m - 1)).np m=υ.np m - 1:=ba _ _ _
   apply aa (bt (aE (m_attr (m_var rfl (at_slots (mv:=.int ((υ.more m (υ.np m - 1)).np m)) (B4.rep.info m Hx) rfl trivial S'.cni S'.s1 (m_int (vQ (ar ?_))))))))
   rw [ON]
   unfold TS.dec
   try dsimp only
   by_cases hw:υ.np m - 1=0
   ·rw [if_pos (by rw [hw];rfl),if_pos hw]
    apply aa (cy (aI (m_attr (m_var rfl (bP (mv:=.ref r) B4.rep.inst rfl trivial S'.jx S'.o2 (eG B4.wF PySem.F.slot_list_append rfl ⟨trivial,af (m_var rfl (a_nil (c_append B4.wF (by rw [ax];exact ag (by exact zl (by assumption) rfl)) (au (au ?_)))))⟩))))))
    have B5:=B4.list (rd':=MR++[m])
    rw [jP] at B5
    exact ⟨Sub.put rfl (Sub.put rfl Sub.nil),B5,(K3.trans K4).trans (dP.upd (.inl rfl))⟩
   ·rw [if_neg (by simpa using hw),if_neg hw]
    exact au (au ⟨Sub.put rfl (Sub.put rfl Sub.nil),B4,K3.trans K4⟩)
  ·rw [ax,take_length] at B3
   apply aa (iH (m_var (mv:=.ref a) (hl _ _ rfl) (bP (mv:=.int (f+i)) B3.rep.inst rfl trivial S'.jx S'.o4 (m_int (mn (iG B3.rep.inst S'.jx S'.o4 (by show 4<=1000;decide) (au ?_)))))))
   have B6:=B3.inst (p':=p) (f':=f+i+1)
   apply ⟨Sub.put (hl _ _ rfl) (Sub.put (hl _ _ rfl) Sub.nil),?_,((K'.trans K2).trans K3).trans B3.Ft⟩
   have e7:f+i+1=f+((i+1:Nat):Int):=by lia
   rw [<- e7]
   exact B6
 ·rw [ax,take_length] at B'
  exact au (h c' B' K')
end L1
inductive zS where
 | cyc (l:List Int)
 | fin (seen:List Int)
noncomputable def popR (su:Int->List Int):List (Int×Nat)->Option (Int×List (Int×Nat))
 | []=>none
 | (v,i)::r=>match (su v)[i]? with
  | some w=>some (w,(v,i+1)::r)
  | none=>popR su r
noncomputable def posOf:List Int->Int->Nat
 | [],_=>0
 | w::r,v=>if w=v then r.length else posOf r v
noncomputable def nG (vs:List Int) (v:Int):List Int:=vs.reverse.drop (posOf vs v)++[v]
noncomputable def Runs (su:Int->List Int):Nat->List Int->List (Int×Nat)->Int->zS->Prop
 | 0,_,_,_,_=>False
 | n+1,seen,qs,v,r=>(v∈seen->(v∈qs.map (·.1)->r=.cyc (nG (qs.map (·.1)) v))/\(v ∉ qs.map (·.1)->(popR su qs=none->r=.fin seen)/\∀ w jS,popR su qs=some (w,jS)->Runs su n seen jS w r)) /\
  (v ∉ seen->(popR su ((v,0)::qs)=none->r=.fin (v::seen))/\∀ w jS,popR su ((v,0)::qs)=some (w,jS)->Runs su n (v::seen) jS w r)
section
variable {su:Int->List Int}{n:Nat}{seen:List Int}{qs jS:List (Int×Nat)}{v w:Int}{r:zS}
theorem Runs.pos(R:Runs su n seen qs v r):∃ m,n=m+1:=by
 cases n with
 | zero=>exact False.elim R
 | succ m=>exact ⟨m,rfl⟩
theorem Runs.IZ(R:Runs su n seen qs v r)(hs:v∈seen)(hq:v∈qs.map (·.1)):r=.cyc (nG (qs.map (·.1)) v):=bw R.pos λm e=>by
 subst e;exact (R.1 hs).1 hq
theorem Runs.LJ(R:Runs su n seen qs v r)(hs:v∈seen)(hq:v ∉ qs.map (·.1))(p:popR su qs=some (w,jS)):∃ m,m<n/\Runs su m seen jS w r:=bw R.pos λm e=>by
 subst e;exact iDPP m (lt_succ_self m) (((R.1 hs).2 hq).2 w jS p)
theorem Runs.LK(R:Runs su n seen qs v r)(hs:v∈seen)(hq:v ∉ qs.map (·.1))(p:popR su qs=none):r=.fin seen:=bw R.pos λm e=>by
 subst e;exact ((R.1 hs).2 hq).1 p
theorem Runs.LL(R:Runs su n seen qs v r)(hs:v ∉ seen)(p:popR su ((v,0)::qs)=some (w,jS)):∃ m,m<n/\Runs su m (v::seen) jS w r:=bw R.pos λm e=>by
 subst e;exact iDPP m (lt_succ_self m) ((R.2 hs).2 w jS p)
theorem Runs.LM(R:Runs su n seen qs v r)(hs:v ∉ seen)(p:popR su ((v,0)::qs)=none):r=.fin (v::seen):=bw R.pos λm e=>by
 subst e;exact (R.2 hs).1 p
theorem Runs.LN(hs:v∈seen)(hq:v ∉ qs.map (·.1))(p:popR su qs=none):Runs su (n+1) seen qs v (.fin seen) :=
 ⟨λZ=>⟨λz=>(hq z).elim,λZ=>⟨λZ=>rfl,λZ Z z=>bf (p.symm.trans z)⟩⟩,λz=>(z hs).elim⟩
theorem Runs.old(hs:v∈seen)(hq:v ∉ qs.map (·.1))(p:popR su qs=some (w,jS))(R:Runs su n seen jS w r):Runs su (n+1) seen qs v r :=
 ⟨λZ=>⟨λz=>(hq z).elim,λZ=>⟨λz=>(dc (p.symm.trans z)),λZ Z z=>by cases p.symm.trans z;exact R⟩⟩,λz=>(z hs).elim⟩
theorem Runs.LO(hs:v ∉ seen)(p:popR su ((v,0)::qs)=none):Runs su (n+1) seen qs v (.fin (v::seen)) :=
 ⟨λz=>(hs z).elim,λZ=>⟨λZ=>rfl,λZ Z z=>bf (p.symm.trans z)⟩⟩
theorem Runs.new(hs:v ∉ seen)(p:popR su ((v,0)::qs)=some (w,jS))(R:Runs su n (v::seen) jS w r):Runs su (n+1) seen qs v r :=
 ⟨λz=>(hs z).elim,λZ=>⟨λz=>(dc (p.symm.trans z)),λZ Z z=>by cases p.symm.trans z;exact R⟩⟩
end
def zS.then(fr:zS)(x:Option (List Int))(P:List Int->Prop):Prop:=match fr with
 | .cyc l=>x=some l
 | .fin cF=>P cF
noncomputable def fC (su:Int->List Int):List Int->List Int->Option (List Int)->Prop
 | [],_,x=>x=none
 | v::r,seen,x=>(v∈seen->fC su r seen x)/\(v ∉ seen->∃ n fr,Runs su n seen [] v fr/\fr.then x λs=>fC su r s x)
theorem fC.skip{su:Int->List Int}{v:Int}{r seen:List Int}{x:Option (List Int)}(h:v∈seen)(o:fC su r seen x):fC su (v::r) seen x:=⟨λZ=>o,λz=>(z h).elim⟩
theorem fC.go{su:Int->List Int}{n:Nat}{v:Int}{r seen cF:List Int}{x:Option (List Int)}(h:v ∉ seen)(R:Runs su n seen [] v (.fin cF))(o:fC su r cF x):fC su (v::r) seen x:=⟨λz=>(h z).elim,λZ=>⟨n,.fin cF,R,o⟩⟩
namespace L1
open PySem.W (findIn typeIn keepIn)
theorem mO:∀ {l m:List Int},l.Nodup->(∀ x∈l,x∈m)->l.length<=m.length
 | [],m,_,_=>zero_le _
 | x::r,m,hn,h=>by
  rw [nodup_cons] at hn
  have hx:=h x mem_cons_self
  have:=mO (m:=m.erase x) hn.2 λy hy=>(List.mem_erase_of_ne (λz=>hn.1 (by rw [<- z];exact hy))).mpr (h y (mem_cons_of_mem _ hy))
  rw [List.length_erase_of_mem hx] at this
  have hp:0<m.length:=List.length_pos_of_mem hx
  rw [length_cons];exact Nat.add_le_of_le_sub hp this
noncomputable def tK:List Int->List (Int×V)
 | []=>[]
 | v::r=>tK r++[(v,.int r.length)]
theorem qd:∀ (vs:List Int),(tK vs).map (·.1)=vs.reverse
 | []=>rfl
 | v::r=>by rw [tK,map_append,qd r,reverse_cons];rfl
theorem qe(vs:List Int):(tK vs).length=vs.length:=by
 have:=congrArg List.length (qd vs)
 simpa using this
theorem yc{vs:List Int}{kv:Int×V}(h:kv∈tK vs):kv.1∈vs:=by
 have:kv.1∈(tK vs).map (·.1):=List.mem_map_of_mem h
 rw [qd] at this
 simpa using this
theorem BO{a b:List (Int×V)}{k:Int}:eQ (a++b) k=(eQ a k).or (eQ b k):=by
 unfold eQ
 rw [List.find?_append]
 cases a.find? _ <;> rfl
theorem lK:∀ {vs:List Int} {v:Int},vs.Nodup->eQ (tK vs) v=if v∈vs then some (.int (posOf vs v)) else none
 | [],v,_=>rfl
 | w::r,v,h=>by
  rw [nodup_cons] at h
  rw [tK,BO,lK h.2]
  by_cases hv:v∈r
  ·rw [if_pos hv,if_pos (mem_cons_of_mem _ hv)]
   have:w≠v:=λz=>h.1 (z▸hv)
   simp [posOf,this]
  ·rw [if_neg hv]
   by_cases hw:w=v
   ·rw [hw]
    rw [if_pos mem_cons_self]
    simp [eQ,posOf]
   ·rw [if_neg (by rw [mem_cons];exact λq=>q.elim (λz=>hw z.symm) hv)]
    simp [eQ,hw]
theorem BP{vs:List Int}{v:Int}(h:v ∉ vs):dput (tK vs) v (.int vs.length)=tK (v::vs):=by
 unfold dput
 rw [if_neg,tK]
 rw [any_eq_true]
 (intro aM;apply aj aM ?_;clear aM;intro x hx e)
 exact h ((of_decide_eq_true e)▸yc hx)
theorem BQ{vs:List Int}{v:Int}(h:v ∉ vs):uy (tK (v::vs)) v=tK vs:=by
 unfold uy
 rw [tK,filter_append,filter_eq_self.mpr (λx hx=>by
  have:x.1≠v:=λz=>h (z▸yc hx)
  exact decide_eq_true this)]
 simp
inductive jC(c:Cells)(su:Int->List Int):List Addr->List (Int×Nat)->Prop
 | nil:jC c su [] []
 | cons {m:Addr} {v:Int} {i:Nat} {ms:List Addr} {qs:List (Int×Nat)}:c m=some (.iter (.list (Iz (su v))) i)->jC c su ms qs->jC c su (m::ms) ((v,i)::qs)
theorem jC.mono{c c':Cells}{su:Int->List Int}{ms:List Addr}{qs:List (Int×Nat)}(h:jC c su ms qs)(k:∀ m∈ms,c' m=c m):jC c' su ms qs:=by
 induction h with
 | nil=>exact .nil
 | cons e _ ih=>exact .cons ((k _ mem_cons_self).trans e) (ih λm hm=>k m (mem_cons_of_mem _ hm))
theorem jC.at{c:Cells}{su:Int->List Int}{ms:List Addr}{qs:List (Int×Nat)}(h:jC c su ms qs):∀ m∈ms,∃ xs i,c m=some (.iter xs i):=by
 induction h with
 | nil=>intro m hm;cases hm
 | cons e _ ih =>
  intro m hm
  rcases mem_cons.mp hm with rfl | hm
  ·exact (kG _ _ e)
  ·exact ih m hm
theorem jC.length{c:Cells}{su:Int->List Int}{ms:List Addr}{qs:List (Int×Nat)}(h:jC c su ms qs):ms.length=qs.length:=by
 induction h with
 | nil=>rfl
 | cons _ _ ih=>exact Nat.succ_inj.mpr ih
structure FR(c0 c:Cells)(nodes:List Int)(su:Int->List Int)(st it se nd:Addr)(ms:List Addr)(qs:List (Int×Nat))(seen:List Int):Prop where
 stack:c st=some (.list (Iz (qs.map (·.1)).reverse))
 its:c it=some (.list ((ms.map V.ref).reverse))
 kf:jC c su ms qs
 J1:ms.Nodup
 sset:c se=some (.set (λk=>decide (k∈seen)) seen.length)
 Fu:c nd=some (.dict (tK (qs.map (·.1))))
 vn:(qs.map (·.1)).Nodup
 I0:∀ v∈qs.map (·.1),v∈nodes
 sn:seen.Nodup
 sin:∀ v∈seen,v∈nodes
 J2:∀ v∈qs.map (·.1),v∈seen
 keep:∀ b x,c0 b=some x->c b=some x
 new:c0 st=none/\c0 it=none/\c0 se=none/\c0 nd=none/\st≠it
 BR:∀ m∈ms,c0 m=none
section
variable {c0 c:Cells}{nodes:List Int}{su:Int->List Int}{st it se nd:Addr}{ms:List Addr}{qs:List (Int×Nat)}{seen:List Int}
theorem FR.BS(F:FR c0 c nodes su st it se nd ms qs seen):qs.length<=nodes.length:=by simpa using mO F.vn F.I0
theorem FR.LP(F:FR c0 c nodes su st it se nd ms qs seen):seen.length<=nodes.length:=mO F.sn F.sin
theorem FR.I8(F:FR c0 c nodes su st it se nd ms qs seen):ms.length<=nodes.length:=by rw [F.kf.length];exact F.BS
theorem FR.ne(F:FR c0 c nodes su st it se nd ms qs seen):st≠se/\st≠nd/\it≠se/\it≠nd/\se≠nd/\∀ m∈ms,m≠st/\m≠it/\m≠se/\m≠nd:=by
 have h1:=F.stack
 have h2:=F.its
 have h3:=F.sset
 have h4:=F.Fu
 apply (oy ?_ ?_ ?_ ?_ ?_ (λm hm=>?_))
 ·rintro rfl;rw [h1] at h3;cases h3
 ·rintro rfl;rw [h1] at h4;cases h4
 ·rintro rfl;rw [h2] at h3;cases h3
 ·rintro rfl;rw [h2] at h4;cases h4
 ·rintro rfl;rw [h3] at h4;cases h4
 ·apply ij (F.kf.at m hm) λxs i e=>?_
  apply (aX ?_ ?_ ?_ ?_)
  ·rintro rfl;rw [h1] at e;cases e
  ·rintro rfl;rw [h2] at e;cases e
  ·rintro rfl;rw [h3] at e;cases e
  ·rintro rfl;rw [h4] at e;cases e
theorem FR.push(F:FR c0 c nodes su st it se nd ms qs seen){v:Int}{m:Addr}(hv:v ∉ seen)(hq:v ∉ qs.map (·.1))(hn:v∈nodes)(hm:c m=none){S:Int->Bool}{n:Nat}(hS:S=λk=>decide (k∈v::seen))(hl:n=seen.length+1) :
  FR c0 (upd (upd (upd (upd (upd c se (some (.set S n))) m (some (.iter (.list (Iz (su v))) 0))) it (some (.list ((ms.map V.ref).reverse++[.ref m])))) nd (some (.dict (dput (tK (qs.map (·.1))) v (.int qs.length))))) st (some (.list (Iz (qs.map (·.1)).reverse++[.int v])))) nodes su st it se nd (m::ms) ((v,0)::qs) (v::seen):=by
 apply kH F.ne λh1 h2 h3 h4 h5 h6=>?_
 have m1:m≠st:=λz=>by rw [z,F.stack] at hm;exact dc hm
 have m2:m≠it:=λz=>by rw [z,F.its] at hm;exact dc hm
 have m3:m≠se:=λz=>by rw [z,F.sset] at hm;exact dc hm
 have m4:m≠nd:=λz=>by rw [z,F.Fu] at hm;exact dc hm
 have h7:st≠it:=F.new.2.2.2.2
 apply ⟨?_,?_,.cons ?_ (F.kf.mono λx hx=>?_),?_,?_,?_,?_,?_,?_,?_,λw hw=>?_,λb x e=>?_,F.new,λx hx=>?_⟩
 ·rw [ah,map_cons,reverse_cons,jP]
 ·rw [ae _ (Ne.symm h7),ae _ h4,ah];simp
 ·rw [ae _ m1,ae _ m4,ae _ m2,ah]
 ·apply dj (h6 x hx) λq1 q2 q3 q4=>?_
  have q5:x≠m:=λz=>by apply ij (F.kf.at x hx) λxs i e=>?_;rw [z,hm] at e;exact bf e
  rw [ae _ q1,ae _ q4,ae _ q2,ae _ q5,ae _ q3]
 ·rw [nodup_cons]
  apply ⟨λq=>?_,F.J1⟩
  apply ij (F.kf.at m q) λxs i e=>?_
  rw [hm] at e;exact bf e
 ·rw [ae _ (Ne.symm h1),ae _ h5,ae _ (Ne.symm h3),ae _ (Ne.symm m3),ah,hS,hl];rfl
 ·rw [ae _ (Ne.symm h2),ah,map_cons,<- BP hq];simp
 ·rw [map_cons,nodup_cons];exact ⟨hq,F.vn⟩
 ·intro w hw
  rcases mem_cons.mp hw with rfl | hw
  ·exact hn
  ·exact F.I0 w hw
 ·rw [nodup_cons];exact ⟨hv,F.sn⟩
 ·intro w hw
  rcases mem_cons.mp hw with rfl | hw
  ·exact hn
  ·exact F.sin w hw
 ·rcases mem_cons.mp hw with rfl | hw
  ·exact mem_cons_self
  ·exact mem_cons_of_mem _ (F.J2 w hw)
 ·have g:=F.keep b x e
  have b1:b≠st:=λz=>by rw [z,F.new.1] at e;exact bf e
  have b2:b≠it:=λz=>by rw [z,F.new.2.1] at e;exact bf e
  have b3:b≠se:=λz=>by rw [z,F.new.2.2.1] at e;exact bf e
  have b4:b≠nd:=λz=>by rw [z,F.new.2.2.2.1] at e;exact bf e
  have b5:b≠m:=λz=>by rw [z,hm] at g;exact bf g
  rw [ae _ b1,ae _ b4,ae _ b2,ae _ b5,ae _ b3];exact g
 ·rcases mem_cons.mp hx with rfl | hx
  ·cases q:c0 x with
   | none=>rfl
   | some y=>have:=F.keep x y q;rw [hm] at this;exact bf this
  ·exact F.BR x hx
theorem FR.step{v:Int}{i:Nat}{m:Addr}(F:FR c0 c nodes su st it se nd (m::ms) ((v,i)::qs) seen):FR c0 (upd c m (some (.iter (.list (Iz (su v))) (i+1)))) nodes su st it se nd (m::ms) ((v,i+1)::qs) seen:=by
 apply kH F.ne λh1 h2 h3 h4 h5 h6=>?_
 apply dj (h6 m mem_cons_self) λq1 q2 q3 q4=>?_
 have hn:=F.J1
 rw [nodup_cons] at hn
 have hi:=F.kf
 cases hi with
 | cons e hi =>
  apply ⟨by rw [ae _ (Ne.symm q1)];exact F.stack,by rw [ae _ (Ne.symm q2)];exact F.its,.cons (ah _ _ _) (hi.mono λx hx=>ae _ (λz=>hn.1 (by rw [<- z];exact hx))),F.J1,by rw [ae _ (Ne.symm q3)];exact F.sset,by rw [ae _ (Ne.symm q4)];exact F.Fu,F.vn,F.I0,F.sn,F.sin,F.J2,λb x eb=>?_,F.new,F.BR⟩
  rw [ae _ (λz=>by rw [z,F.BR m mem_cons_self] at eb;exact bf eb)];exact F.keep b x eb
theorem FR.pop{v:Int}{i:Nat}{m:Addr}(F:FR c0 c nodes su st it se nd (m::ms) ((v,i)::qs) seen) :
  FR c0 (upd (upd (upd (upd c m none) st (some (.list (Iz (qs.map (·.1)).reverse)))) nd (some (.dict (uy (tK (v::qs.map (·.1))) v)))) it (some (.list ((ms.map V.ref).reverse)))) nodes su st it se nd ms qs seen:=by
 apply kH F.ne λh1 h2 h3 h4 h5 h6=>?_
 apply dj (h6 m mem_cons_self) λq1 q2 q3 q4=>?_
 have h7:st≠it:=F.new.2.2.2.2
 have hn:=F.J1
 rw [nodup_cons] at hn
 have I9:=F.vn
 rw [map_cons,nodup_cons] at I9
 have hi:=F.kf
 cases hi with
 | cons e hi =>
  apply ⟨by rw [ae _ h7,ae _ h2,ah],by rw [ah],hi.mono λx hx=>?_,hn.2,?_,?_,I9.2,λw hw=>F.I0 w (by rw [map_cons];exact mem_cons_of_mem _ hw),F.sn,F.sin,λw hw=>F.J2 w (by rw [map_cons];exact mem_cons_of_mem _ hw),λb x eb=>?_,F.new,λx hx=>F.BR x (mem_cons_of_mem _ hx)⟩
  ·apply dj (h6 x (mem_cons_of_mem _ hx)) λr1 r2 r3 r4=>?_
   rw [ae _ r2,ae _ r4,ae _ r1,ae _ (λz=>hn.1 (by rw [<- z];exact hx))]
  ·rw [ae _ (Ne.symm h3),ae _ h5,ae _ (Ne.symm h1),ae _ (Ne.symm q3)];exact F.sset
  ·rw [ae _ (Ne.symm h4),ah,BQ I9.1]
  ·have g:=F.keep b x eb
   have b1:b≠st:=λz=>by rw [z,F.new.1] at eb;exact bf eb
   have b2:b≠it:=λz=>by rw [z,F.new.2.1] at eb;exact bf eb
   have b4:b≠nd:=λz=>by rw [z,F.new.2.2.2.1] at eb;exact bf eb
   have b5:b≠m:=λz=>by rw [z,F.BR m mem_cons_self] at eb;exact bf eb
   rw [ae _ b2,ae _ b4,ae _ b1,ae _ b5];exact g
end
end L1
namespace L1
open PySem.W (findIn typeIn keepIn)
noncomputable abbrev fenvF (D:SA) (L:Addr) (cdv:Value):Env:=bY "TopologicalSorter._find_cycle" (ai (i8 8)) L D.jw cdv
noncomputable abbrev Ja:Stmt:=(aF (i8 8)).getD 5 default
noncomputable abbrev sOutF:Stmt:=(aF Ja).getD 1 default
noncomputable abbrev sInF:Stmt:=(aF sOutF).getD 1 default
noncomputable abbrev namesF (d st it se nd:Addr):Loc:=[("n2i",.ref d),("stack",.ref st),("itstack",.ref it),("seen",.ref se),("node2stacki",.ref nd)]
theorem u7{Y:Cx}{A:Around}{k:Nat}{D:SA}{L:Addr}{cdv:Value}{c0:Cells}{nodes:List Int}{su:Int->List Int}{d st it se nd:Addr}{seen:List Int}{Φ:MF->Loc->Cells->Prop}(S:S2 D Y)(hA:Rm Y A k)(htop:∃ outer,A.frames=some (fenvF D L cdv::outer))(BU:nodes.length<900)(hm:∀ k∈nodes,∀ s∈su k,s∈nodes){qs0:List (Int×Nat)}{MS:List Addr}{l0:Loc}{c:Cells}(h0:Sub (namesF d st it se nd) l0)(F0:FR c0 c nodes su st it se nd MS qs0 seen)(OO:∀ w Hy Jb c2 l2,popR su qs0=some (w,Hy)->Sub (("node",.int w)::namesF d st it se nd) l2->FR c0 c2 nodes su st it se nd Jb Hy seen->w∈nodes->Φ .next l2 c2)(hbrk:∀ c2 l2,popR su qs0=none->Sub (namesF d st it se nd) l2->FR c0 c2 nodes su st it se nd [] [] seen->Φ .brk l2 c2):mS Y A (fenvF D L cdv) (exec sInF (fenvF D L cdv)) Φ l0 c:=by
 apply gE (λn l c=>∃ qs ms,n=qs.length/\Sub (namesF d st it se nd) l/\FR c0 c nodes su st it se nd ms qs seen/\popR su qs=popR su qs0) qs0.length (d9 qs0 MS rfl h0 F0 rfl) ?_
 (intro n l c aM;apply cJ aM ?_;clear aM;intro qs ms hn hl F hp)
 have MT:=F.BS
 apply dU (m_var (mv:=.ref st) (hl _ _ rfl) (A3 F.stack (by rw [ax,length_reverse,length_map];exact ag (by lia)) ?_))
 cases qs with
 | nil =>
  apply aa (xp ?_)
  have hi:=F.kf
  cases hi
  exact hbrk c l (by rw [<- hp];rfl) hl F
 | cons q r =>
  obtain ⟨v,i⟩:=q
  have e:(!(Iz (((v,i)::r).map (·.1)).reverse).isEmpty)=true:=by
   rw [map_cons,reverse_cons,jP];simp
  rw [e,if_pos rfl]
  have hv:v∈nodes:=F.I0 v (List.mem_of_mem_head? rfl)
  obtain ⟨m,Fv,rfl⟩:∃ m Fv,ms=m::Fv:=by
   have:=F.kf.length
   cases ms with
   | nil=>exact List.exists_cons_of_length_eq_add_one this
   | cons m Fv=>exact (kG m Fv rfl)
  have hit:c m=some (.iter (.list (Iz (su v))) i):=by
   have hi:=F.kf
   cases hi with
   | cons e _=>exact e
  have hits:c it=some (.list ((Fv.map V.ref).reverse++[.ref m])):=by have:=F.its;simpa using this
  apply aa (v9 hA htop (.inl rfl) S.stop rfl (m_item (m_var (mv:=.ref it) (hl _ _ rfl) (m_un (m_int (o_neg (g_clast hits (iDDDPPP m (Iz (su v)) i rfl hit ?_))))))))
  have ei:(Iz (su v))[i]?=((su v)[i]?).map V.int:=by unfold Iz;rw [getElem?_map]
  rw [ei]
  cases hw:(su v)[i]? with
  | some w =>
   dsimp only [map_some]
   apply OO w ((v,i+1)::r) (m::Fv) _ _ ?_ (Sub.cons hl) F.step (hm v hv w (mem_of_getElem? hw))
   rw [<- hp]
   simp [popR,hw]
  | none =>
   dsimp only [map_none]
   intro e
   have OP:popR su r=popR su qs0:=by rw [<- hp];simp [popR,hw]
   have rC:c st=some (.list (Iz ((r.map (·.1)).reverse)++[.int v])):=by have:=F.stack;rw [map_cons,reverse_cons,jP] at this;exact this
   have F':=F.pop
   apply kH F.ne λh1 h2 h3 h4 h5 h6=>?_
   apply dj (h6 m mem_cons_self) λq1 q2 q3 q4=>?_
   have h7:st≠it:=F.new.2.2.2.2
   have ji:c nd=some (.dict (tK (v::r.map (·.1)))):=F.Fu
   have I9:(v::r.map (·.1)).Nodup:=F.vn
   have IS:r.length<=900:=by rw [length_cons] at MT;lia
   have JX:Fv.length<1000:=by have:=F.I8;rw [length_cons] at this;lia
   apply aa (pG (m_var (mv:=.ref nd) (hl _ _ rfl) (aI (m_var (mv:=.ref st) (hl _ _ rfl) (eG (by rw [ae _ (Ne.symm q1)];exact rC) PySem.F.slot_list_pop rfl ⟨trivial,a_nil (E4 (by rw [ae _ (Ne.symm q1)];exact rC) (by rw [ax,length_reverse,length_map];exact zt IS rfl) ?_)⟩)))))
   apply A5 (x:=.int (posOf (v::r.map (·.1)) v)) (by rw [ae _ (Ne.symm h2),ae _ (Ne.symm q4)];exact ji) (by rw [qe,length_cons,length_map];exact zt (by assumption) rfl) (by rw [lK I9,if_pos mem_cons_self]) ?_
   apply aa (cy (aI (m_var (mv:=.ref it) (hl _ _ rfl) (eG (by rw [ae _ h4,ae _ (Ne.symm h7),ae _ (Ne.symm q2)];exact hits) PySem.F.slot_list_pop rfl ⟨trivial,a_nil (E4 (by rw [ae _ h4,ae _ (Ne.symm h7),ae _ (Ne.symm q2)];exact hits) (by simpa using JX) (au (au ?_)))⟩))))
   exact ⟨r.length,(by rw [hn,length_cons];exact lt_add_one r.length),r,Fv,rfl,hl,F',OP⟩
end L1
namespace L1
open PySem.W (findIn typeIn keepIn)
theorem Eb{X:Cx}{A:Around}{env:Env}{loc:Loc}{cells:Cells}{k:Nat}{p:Pos}{whole:Sem Value}{Ψ:Bool->Loc->Cells->Prop}(h:Ψ true loc cells)(hw:autoParam (whole=eval (.Constant (.bool true) k p) env) aR):mT X A env (isTrue (.Constant (.bool true) k p) env whole) Ψ loc cells:=by
 rw [hw]
 exact dU (fu (ar h))
theorem zT(vs:List Int)(v:Int)(h:posOf vs v<=vs.length):iZ (Iz vs.reverse) (some (posOf vs v)) none none++[V.int v]=Iz (nG vs v):=by
 rw [kl _ _ (by rw [ax,length_reverse];exact h)]
 unfold nG Iz
 rw [map_append,List.map_drop]
 rfl
theorem u9:∀ (vs:List Int) (v:Int),posOf vs v<=vs.length
 | [],v=>le_refl _
 | w::r,v=>by
  unfold posOf
  split
  ·exact Nat.le_succ _
  ·exact le_succ_of_le (u9 r v)
theorem BV{Y:Cx}{A:Around}{k:Nat}{D:SA}{L:Addr}{cdv:Value}{c0:Cells}{ns nodes:List Int}{su:Int->List Int}{ia:Int->Addr}{np:Int->Int}{d st it se nd:Addr}{fr:zS}{Φ:MF->Loc->Cells->Prop}(S:S2 D Y)(hA:Rm Y A k)(htop:∃ outer,A.frames=some (fenvF D L cdv::outer))(BU:nodes.length<900)(hm:∀ k∈nodes,∀ s∈su k,s∈nodes)(hd:c0 d=some (.bF (nodes.map λk=>(k,.ref (ia k)))))(hi:∀ k∈nodes,c0 (ia k)=some (.slots D.ni [some (.int k),some (.int (np k)),some (.list (Iz (su k)))])){n0:Nat}{BW:List Int}{v0:Int}{l0:Loc}{c:Cells}(h0:Sub (("node",.int v0)::namesF d st it se nd) l0)(F0:FR c0 c nodes su st it se nd [] [] BW)(OQ:v0∈nodes)(R0:Runs su n0 BW [] v0 fr)(wa:∀ l c' cF,fr=.fin cF->Sub (namesF d st it se nd) l->FR c0 c' nodes su st it se nd [] [] cF->Φ .next l c')(hcyc:∀ l c' x,fr=.cyc x->(∀ b y,c0 b=some y->c' b=some y)->Φ (.ret (.list (Iz x))) l c'):mS Y A (fenvF D L cdv) (exec sOutF (fenvF D L cdv)) Φ l0 c:=by
 apply gE (λn l c=>∃ seen qs ms v,Sub (("node",.int v)::namesF d st it se nd) l/\FR c0 c nodes su st it se nd ms qs seen/\v∈nodes/\Runs su n seen qs v fr) n0 (jG BW ([]) ([]) v0 h0 F0 OQ R0) ?_
 (intro n l c fR;apply yu fR ?_;clear fR;intro seen qs ms v hl F hv R)
 apply Eb ?_
 rw [if_pos rfl]
 apply cL.le hl ?_
 have PT:=F.LP
 have MT:=F.BS
 have Jc:(qs.map (·.1)).length=qs.length:=length_map ..
 apply aa (bt (aE (m_var rfl (m_var rfl (uw F.sset (ar ?_))))))
 by_cases hs:v∈seen
 ·rw [if_pos (decide_eq_true hs)]
  apply aa (bt (aE (m_var rfl (m_var rfl (yS F.Fu (ar ?_))))))
  rw [lK F.vn]
  by_cases hq:v∈qs.map (·.1)
  ·rw [if_pos hq,Option.isSome_some,if_pos rfl]
   have OR:=R.IZ hs hq
   apply aa (aL (aY (cj (m_var rfl (bC (m_item (m_var rfl (m_var rfl (Ga (x:=.int (posOf (qs.map (·.1)) v)) F.Fu (by rw [lK F.vn,if_pos hq]) (bB (bB (DP F.stack (by decide) (by rw [ax,length_reverse,Jc];exact ag (by lia)) (mu (af (m_var rfl (a_nil ⟨by show 1<=sizeLine;exact ag (by decide),?_⟩))))))))))))))))
   have hle:=u9 (qs.map (·.1)) v
   apply FQ ?_ ?_
   ·rw [kl _ _ (by rw [ax,length_reverse];exact hle),length_drop,ax,length_reverse]
    exact ag (by simp;lia)
   ·rw [zT _ _ hle]
    exact hcyc _ _ _ OR F.keep
  ·rw [if_neg hq,Option.isSome_none,if_neg (by decide)]
   apply au (au (aa (u7 (d:=d) S hA htop BU hm (Sub.put rfl (Sub.put rfl (Sub.put rfl (Sub.put rfl (Sub.put rfl Sub.nil))))) F (λw Hy Jb c2 l2 hp h2 F2 hw=>?_) λc2 l2 hp h2 F2=>?_)))
   ·exact au (aj (R.LJ hs hq hp) λm hm R'=>m9 m hm seen Hy Jb w h2 F2 hw R')
   ·exact wa l2 c2 seen (R.LK hs hq hp) h2 F2
 ·rw [if_neg (by simpa using hs)]
  have hq:v ∉ qs.map (·.1):=λq=>hs (F.J2 v q)
  apply aa (cy (aI (m_var rfl (yT F.sset ⟨trivial,af (m_var rfl (a_nil (yU F.sset (by lia) ?_)))⟩))))
  apply kH F.ne λh1 h2 h3 h4 h5 h6=>?_
  have h7:st≠it:=F.new.2.2.2.2
  have ce:∀ b y,c0 b=some y->b≠se:=λb y e z=>by rw [z,F.new.2.2.1] at e;exact bf e
  have hdn:(upd c se (some (Cell.set (λk'=>decide (k'∈seen)||decide (k'=v)) (if decide (v∈seen)=true then seen.length else seen.length+1)))) d=some (.bF (nodes.map λk=>(k,.ref (ia k)))):=by rw [ae _ (ce _ _ hd)];exact F.keep _ _ hd
  have hin:(upd c se (some (Cell.set (λk'=>decide (k'∈seen)||decide (k'=v)) (if decide (v∈seen)=true then seen.length else seen.length+1)))) (ia v)=some (.slots D.ni [some (.int v),some (.int (np v)),some (.list (Iz (su v)))]):=by rw [ae _ (ce _ _ (hi v hv))];exact F.keep _ _ (hi v hv)
  apply aa (cy (aI (m_var rfl (eG ((ae _ h3).trans F.its) PySem.F.slot_list_append rfl ⟨trivial,af (uD rfl S.iter (m_attr (m_item (m_var rfl (m_var rfl (g_fdict (x:=.ref (ia v)) hdn (by rw [dget_map (f:=λk=>.ref (ia k)),if_pos hv]) (at_slots (mv:=.list (Iz (su v))) hin rfl trivial S.cni S.s2 (iDPP _ rfl (λm hm'=>a_nil (c_append (xs:=(ms.map V.ref).reverse) ?_ ?_ ?_))))))))))⟩))))
  ·have m3:m≠se:=λz=>by rw [z,ah] at hm';exact dc hm'
   have C8:c m=none:=by rw [ae _ m3] at hm';exact hm'
   have m2:it≠m:=λz=>by rw [<- z,F.its] at C8;exact dc C8
   rw [ae _ m2,ae _ h3];exact F.its
  ·rw [length_reverse,length_map];have:=F.I8;exact ag (by lia)
  have m3:m≠se:=λz=>by rw [z,ah] at hm';exact dc hm'
  have C8:c m=none:=by rw [ae _ m3] at hm';exact hm'
  have m2:m≠it:=λz=>by rw [z,F.its] at C8;exact dc C8
  have m1:m≠st:=λz=>by rw [z,F.stack] at C8;exact dc C8
  have m4:m≠nd:=λz=>by rw [z,F.Fu] at C8;exact dc C8
  have F1:=F.push (m:=m) hs hq hv C8 (S:=λk'=>decide (k'∈seen)||decide (k'=v)) (n:=if decide (v∈seen)=true then seen.length else seen.length+1) (by
   funext k'
   rw [Bool.eq_iff_iff]
   simp [or_comm]) (by rw [if_neg (by simpa using hs)])
  apply aa (j8 (az rfl S.len trivial (af (m_var rfl (a_nil (pE (xs:=Iz (qs.map (·.1)).reverse) ((ae _ h7).trans ((ae _ (Ne.symm m1)).trans ((ae _ h1).trans F.stack))) (by rw [ax,length_reverse,Jc];exact ag (by lia)) ?_))))))
  rw [ax,length_reverse,Jc]
  apply m_var rfl (m_var rfl (xH (es:=tK (qs.map (·.1))) ((ae _ (Ne.symm h4)).trans ((ae _ (Ne.symm m4)).trans ((ae _ (Ne.symm h5)).trans F.Fu))) (by rw [qe,Jc];lia) ?_))
  apply aa (cy (aI (m_var rfl (eG (xs:=Iz (qs.map (·.1)).reverse) ((ae _ h2).trans ((ae _ h7).trans ((ae _ (Ne.symm m1)).trans ((ae _ h1).trans F.stack)))) PySem.F.slot_list_append rfl ⟨trivial,af (m_var rfl (a_nil (c_append (xs:=Iz (qs.map (·.1)).reverse) ((ae _ h2).trans ((ae _ h7).trans ((ae _ (Ne.symm m1)).trans ((ae _ h1).trans F.stack)))) (by rw [ax,length_reverse,Jc];exact ag (by lia)) (au ?_))))⟩))))
  apply aa (u7 (d:=d) S hA htop BU hm (Sub.put rfl (Sub.put rfl (Sub.put rfl (Sub.put rfl (Sub.put rfl Sub.nil))))) F1 (λw Hy Jb c2 l2 hp h2 F2 hw=>?_) λc2 l2 hp h2 F2=>?_)
  ·exact au (aj (R.LL hs hp) λm hm R'=>m9 m hm (v::seen) Hy Jb w h2 F2 hw R')
  ·exact wa l2 c2 (v::seen) (R.LM hs hp) h2 F2
end L1
namespace L1
open PySem.W (findIn typeIn keepIn)
noncomputable def yd:Option (List Int)->V
 | none=>.none
 | some l=>.list (Iz l)
theorem ye{X:Cx}{A:Around}{k:Nat}{c:Cells}{D:SA}{a d:Addr}{ia:Int->Addr}{σ:TS}{rv:V}{p f:Int}{res:Option (List Int)}{Ψ:V->Cells->Prop}(S:S2 D X)(hA:Rm X A (k+1))(B:mM D c a d ia σ rv p f)(BU:σ.nodes.length<900)(hm:∀ k∈σ.nodes,∀ s∈σ.su k,s∈σ.nodes)(O:fC σ.su σ.nodes [] res)(h:∀ c',(∀ b y,c b=some y->c' b=some y)->Ψ (yd res) c'):aD X A (.ref D.jw) [.ref a] Ψ c:=by
 apply gc.call (uE (names:=["self"]) S.jw hA (λZ Z Z Z Z=>l1 λZ=>rfl) λL cdv A' bp htop=>?_)
 have S':S2 D (X.push L):=S
 generalize X.push L=Y at bp S' ⊢
 apply aa (ao (.inl rfl) (m_attr (m_var rfl (bP (mv:=.ref d) B.inst rfl trivial S'.jx S'.o1 ?_))))
 apply aa (ao (.inl rfl) (cz (a_nil ⟨zero_le _,λst rC=>?_⟩)))
 apply aa (ao (.inl rfl) (cz (a_nil ⟨zero_le _,λit hit=>?_⟩)))
 apply aa (ao (.inl rfl) (DG rfl S'.set trivial (Ge λse rK=>?_)))
 apply aa (ao (.inl rfl) (nB λnd ji=>?_))
 have e1:it≠st:=λz=>by rw [z,ah] at hit;exact dc hit
 have e2:se≠it:=λz=>by rw [z,ah] at rK;exact dc rK
 have e3:se≠st:=λz=>by rw [z,ae _ (Ne.symm e1),ah] at rK;exact dc rK
 have e4:nd≠se:=λz=>by rw [z,ah] at ji;exact dc ji
 have e5:nd≠it:=λz=>by rw [z,ae _ (Ne.symm e2),ah] at ji;exact dc ji
 have e6:nd≠st:=λz=>by rw [z,ae _ (Ne.symm e3),ae _ (Ne.symm e1),ah] at ji;exact dc ji
 have n2:c it=none:=by rw [ae _ e1] at hit;exact hit
 have n3:c se=none:=by rw [ae _ e2,ae _ e3] at rK;exact rK
 have n4:c nd=none:=by rw [ae _ e4,ae _ e5,ae _ e6] at ji;exact ji
 have F0:FR c (upd (upd (upd (upd c st (some (.list []))) it (some (.list []))) se (some (.set (λZ=>false) 0))) nd (some (.dict []))) σ.nodes σ.su st it se nd [] [] []:=by
  apply ⟨?_,?_,.nil,nodup_nil,?_,ah _ _ _,nodup_nil,(λv hv=>nomatch hv),nodup_nil,(λv hv=>nomatch hv),(λv hv=>nomatch hv),λb x e=>?_,(ja rC n2 n3 n4 (Ne.symm e1)),(λv hv=>nomatch hv)⟩
  ·rw [ae _ (Ne.symm e6),ae _ (Ne.symm e3),ae _ (Ne.symm e1),ah];rfl
  ·rw [ae _ (Ne.symm e5),ae _ (Ne.symm e2),ah];rfl
  ·rw [ae _ (Ne.symm e4),ah];simp
  ·rw [ae _ (λz=>by rw [z,n4] at e;exact bf e),ae _ (λz=>by rw [z,n3] at e;exact bf e),ae _ (λz=>by rw [z,n2] at e;exact bf e),ae _ (λz=>by rw [z,rC] at e;exact bf e)];exact e
 have hd:=F0.keep d _ B.dict
 show mS Y A' _ _ _ _ (upd (upd (upd (upd c st (some (.list []))) it (some (.list []))) se (some (.set (λZ=>false) 0))) nd (some (.dict [])))
 generalize upd (upd (upd (upd c st (some (.list []))) it (some (.list []))) se (some (.set (λZ=>false) 0))) nd (some (.dict []))=c1 at F0 hd ⊢
 apply aa (dC (bind:=λv l=>("node",v)::l) (dk (m_var rfl (iDPP _ (DA bp.hh hd) ?_))))
 have il:((σ.nodes.map λk=>(k,V.ref (ia k))).map λkv=>V.int kv.1)=Iz σ.nodes:=by rw [map_map];rfl
 rw [il]
 apply ⟨λZ=>namesF d st it se nd,λi c'=>∃ seen,FR c c' σ.nodes σ.su st it se nd [] [] seen/\fC σ.su (σ.nodes.drop i) seen res,⟨Sub.put rfl (Sub.put rfl (Sub.put rfl (Sub.put rfl (Sub.put rfl Sub.nil)))),[],F0,O⟩,λv hv=>dW (.inl rfl),λv hv l l' hs=>Sub.cons hs,λi v c' hv bN=>aj bN λseen F O'=>?_,λl c' hl cI=>aj cI λseen F O'=>?_⟩
 ·(apply aj (iz hv) ?_;intro n hp bk;rw [bk])
  have hn:n∈σ.nodes:=mem_of_getElem? hp
  have hi:i<σ.nodes.length:=(List.getElem?_eq_some_iff.mp hp).1
  have ed:σ.nodes.drop i=n::σ.nodes.drop (i+1):=by
   rw [List.drop_eq_getElem_cons hi]
   rw [getElem?_eq_getElem hi] at hp
   rw [cK hp]
  rw [ed] at O'
  apply aa (bt (aE (m_var rfl (m_var rfl (uw F.sset (ar ?_))))))
  by_cases hs:n∈seen
  ·rw [if_pos (decide_eq_true hs)]
   apply aa (vK (m7 (Sub.put rfl (Sub.put rfl (Sub.put rfl (Sub.put rfl (Sub.put rfl Sub.nil))))) seen F (O'.1 hs)))
  ·rw [if_neg (by simpa using hs)]
   apply bW (O'.2 hs) ?_;intro m fr R t5
   apply au (aa (BV (ns:=[]) S' bp htop BU hm B.dict B.info Sub.rfl F hn R (λl c2 cF e hl F2=>?_) λl c2 x e kp=>?_))
   ·subst e
    exact au (m7 hl cF F2 t5)
   ·subst e
    cases (t5:res=some x)
    exact h c2 kp
 ·rw [ax,List.drop_length] at O'
  cases (O':res=none)
  exact aa (aL (cx (h c' F.keep)))
end L1
section
open PySem.W (hideAll hideAll_get hideAll_none of_hideAll nsOkIn nsIn)
noncomputable def Jd (K:PySem.W.Frag) (C:Addr):Obj:=(K.lookup C).getD { cls:=.none,data:=.plain}
noncomputable def ox (K:PySem.W.Frag) (C:Addr):ClassData:=match (Jd K C).data with | .cls cd=>cd | _=>default
noncomputable abbrev C9 (K:PySem.W.Frag) (C:Addr) (i:Nat):Option Value:=(Jd K C).slots.getD i none
noncomputable abbrev Je (K:PySem.W.Frag) (C:Addr) (bm:List Value) (newId:String):Obj:=excClassObj (ox K C).name (ox K C).qualname C (ox K C).ns (ox K C).bases bm (ox K C).hasDict (ox K C).slotNames (ox K C).subclasses (ox K C).abstract (ox K C).collection (Jd K C).dict (C9 K C 0) (C9 K C 1) (C9 K C 2) (C9 K C 3) (C9 K C 5) newId
def qf(K:PySem.W.Frag)(C:Addr)(bm:List Value)(newId:String):Prop:=K.lookup C=some (Je K C bm newId)/\nsOkIn K (ox K C).ns=true/\nsIn K (ox K C).ns "__init__"=some none/\K.lookup (ox K C).ns=some (Jd K (ox K C).ns)
noncomputable abbrev va:List Value:=[.type "ValueError",.type "Exception",.type "BaseException",.type "object"]
section
def tL(X:Cx)(A:Around)(env:Env)(ss tail:List Stmt)(Θ:Loc->Cells->Prop)(loc:Loc)(cells:Cells):Prop:=∀ own s Q E,Inv X env own loc cells s ->
 (∀ own' l' c' s1,Inv X env own' l' c' s1->Ext (Fa env) own cells s.heap own' c' s1.heap->Θ l' c'->wpAny (model X.prog X.w) A (execs tail env) Q E s1)->wpAny (model X.prog X.w) A (execs ss env) Q E s
theorem Ec{tail:List Stmt}{Θ:Loc->Cells->Prop}(h:Θ loc cells):tL X A env tail tail Θ loc cells:=λown s Q E I k=>k own loc cells s I .refl h
theorem qg{st:Stmt}{rest tail:List Stmt}{Θ:Loc->Cells->Prop}(h:mS X A env (exec st env) (λf l c=>f=.next/\tL X A env rest tail Θ l c) loc cells):tL X A env (st::rest) tail Θ loc cells:=λown s Q E I k=>by
 apply wpAny_execs_cons (bZ (h.use I λown1 l1 c1 f v1 s1 I1 r1 x1 aM=>aC aM λe h1=>?_))
 subst e
 cases r1
 exact h1 own1 s1 Q E I1 λaG l2 c2 s2 I2 x2 h2=>k aG l2 c2 s2 I2 (x1.trans x2) h2
theorem tL.run{ss tail:List Stmt}{Θ:Loc->Cells->Prop}{Φ:MF->Loc->Cells->Prop}(H:tL X A env ss tail Θ loc cells)(h:∀ l c,Θ l c->mS X A env (execs tail env) Φ l c):mS X A env (execs ss env) Φ loc cells:=λown s I =>
 H own s _ _ I λown1 l1 c1 s1 I1 x1 h1=>(h l1 c1 h1).use I1 λaG l2 c2 b v2 s2 I2 r2 x2 h2=>⟨aG,l2,c2,b,I2,r2,x1.trans x2,h2⟩
def jD(X:Cx)(A:Around)(env:Env)(t:Sem Flow)(C:Addr)(Θ:Cells->Prop)(loc:Loc)(cells:Cells):Prop:=∀ own s,Inv X env own loc cells s ->
 wpAny (model X.prog X.w) A t (λZ Z=>False) (λv s'=>∃ own' l' c' s1 h' e vs,Inv X env own' l' c' s1/\Ext (Fa env) own cells s.heap own' c' s1.heap/\v=.ref e/\s'={ s1 with heap:=h'}/\Heap.MadeExcOf s1.heap h' e (.ref C) vs/\Θ c') s
theorem tL.raise{ss tail:List Stmt}{C:Addr}{Θ:Loc->Cells->Prop}{Φ:Cells->Prop}(H:tL X A env ss tail Θ loc cells)(h:∀ l c,Θ l c->jD X A env (execs tail env) C Φ l c):jD X A env (execs ss env) C Φ loc cells:=λown s I =>
 H own s _ _ I λown1 l1 c1 s1 I1 x1 h1=>wpAny_mono (h l1 c1 h1 own1 s1 I1) (λZ Z q=>q) λv s' bk=>ng bk λaG l2 c2 s2 h' e vs a1 a2 a3=>(m8 aG l2 c2 s2 h' e vs a1 (x1.trans a2) a3)
theorem nH{st:Stmt}{rest:List Stmt}{C:Addr}{Φ:Cells->Prop}(h:jD X A env (exec st env) C Φ loc cells):jD X A env (execs (st::rest) env) C Φ loc cells:=λown s I =>
 wpAny_execs_cons (wpAny_mono (h own s I) (λZ Z q=>q.elim) λZ Z q=>q)
theorem BX{t:Expr}{b o:List Stmt}{p:Pos}{C:Addr}{Φ:Cells->Prop}(h:mT X A env (isTrue t env (eval t env)) (λc l1 c1=>c=true/\jD X A env (execs b env) C Φ l1 c1) loc cells):jD X A env (exec (.If t b o p) env) C Φ loc cells:=λown s I =>
 wpAny_If (bZ (h.use I λown1 l1 c1 c v1 s1 I1 r1 x1 bN=>aC bN λe h1=>by
  have:v1=c:=r1
  subst this e
  exact wpAny_mono (h1 own1 s1 I1) (λZ Z q=>q) λv s' cI=>ng cI λaG l2 c2 s2 h' e vs a1 a2 a3=>(m8 aG l2 c2 s2 h' e vs a1 (x1.trans a2) a3)))
theorem zU{C:Addr}{x:Str}{np Ed pos:Pos}{e:Expr}{rest:List Expr}{Φ:Cells->Prop}(hh:A.handled=none)(hk:env.kindOf x=some .globalImplicit)(hl:X.glob.lookup x=some (.ref C))(q:qf X.K C va "ValueError.__new__")(h:yy X A env (spliced (backTo Ed (starEach (e::rest) env))) (λas l c=>as.length<=1000/\Φ c) loc cells)(he:autoParam (starEach (e::rest) env=(false,eval e env)::starEach rest env) aR)(dR:autoParam ((backTo Ed (starEach rest env)).any (·.1)=false) aR)(hd:autoParam ((x == ("__debug__":Str))=false) aDK) :
  jD X A env (exec (.Raise (some (.Call (.Name x np) (e::rest) [] Ed)) none pos) env) C Φ loc cells:=λown s I=>by
 have hC:=X.hK _ _ q.1
 have hN:=Ns.of_isNs (PySem.W.isNs_of_in X.hK q.2.1)
 apply wpAny_Raise_call_sub (mN:=X.h₀.nsMap (ox X.K C).ns) (nm:=(ox X.K C).name) (q:=(ox X.K C).qualname) (C:=C) (N:=(ox X.K C).ns) (bs:=(ox X.K C).bases) (hdct:=(ox X.K C).hasDict) (sn:=(ox X.K C).slotNames) (sub:=(ox X.K C).subclasses) (ab:=(ox X.K C).abstract) (col:=(ox X.K C).collection) (dd:=(Jd X.K C).dict) (k0:=C9 X.K C 0) (k1:=C9 X.K C 1) (k2:=C9 X.K C 2) (k3:=C9 X.K C 3) (k5:=C9 X.K C 5) PySem.F.excBase_ValueError hh (by rw [he];show (false||(backTo Ed (starEach rest env)).any (·.1))=false;rw [dR];rfl) (PySem.W.nsMap_none_of_in X.hK q.2.1 q.2.2.1) (mD I hk hl (λv r=>?_) hd)
 apply RV.e0 r rfl ?_
 apply ⟨rfl,?_⟩
 rw [he]
 have h':=h
 rw [he] at h'
 apply evalArgs_plain (bZ (h'.use I λown1 l1 c1 as vs s1 I1 r1 x1 dH=>aC dH λhz hΦ=>?_))
 have ns:s1.heap.Ns (ox X.K C).ns (X.h₀.nsMap (ox X.K C).ns):=by
  apply cw hN λo es ep e' r=>?_
  have:=X.hK _ _ q.2.2.2
  rw [e'] at this;obtain rfl:=cK this
  exact (dw _ es ep (I1.base.K _ _ q.2.2.2) r)
 apply (ja rfl (by rw [show _=as.length from r1.1];exact le_trans hz (by decide)) (I1.base.old.get_of_cls hC (by rintro ⟨⟩)) ns (λh' ex hm=>?_))
 exact (oQ own1 l1 c1 s1 h' ex _ I1 x1 rfl rfl hm hΦ)
def Jf(X:Cx)(A:Around)(own:Own)(cells:Cells)(h:Heap)(C:Addr)(Φ:Cells->Prop)(v:Value)(s':Shared):Prop:=∃ L e t own' c' s1 outer h',A.frames=some outer/\v=.ref e/\Base (X.push L) own' c' s1/\Ext qH own cells h own' c' s1.heap /\
 s'={ s1 with heap:=h'}/\Heap.FlyingW (hideAll s1.heap (L::X.gx)) outer e (.ref C) (.ref t) h'/\s1.heap.UpToSlots h'/\Φ c'
def mcallX(X:Cx)(A:Around)(f:V)(args:List V)(C:Addr)(Φ:Cells->Prop)(cells:Cells):Prop:=∀ fv vs own s,Base X own cells s->RV own s.heap fv f->bV own s.heap vs args->wpAny (model X.prog X.w) A (call fv vs) (λZ Z=>False) (Jf X A own cells s.heap C Φ) s
theorem BY{k:Nat}{a:Addr}{qual:Str}{st:Stmt}{names:List Str}{as:List V}{C:Addr}{Φ:Cells->Prop}(F:Fn X a qual st)(hA:Rm X A (k+1))(hb:∀ doc pm an cdv ct (vs:List Value),vs.length=as.length->bindArgs (fnOf (fnName st) qual (bz st) (aF st) (ai st) .none .none doc pm an cdv ct) ⟨vs,[]⟩=pure (names.zip vs))(h:∀ L cdv A',Rm (X.push L) A' k->jD (X.push L) A' (bY qual (ai st) L a cdv) (execs (aF st) (bY qual (ai st) L a cdv)) C Φ (names.zip as) cells)(cq:autoParam ((ai st).kind=.function) aR)(qJ:autoParam ((ai st).isCoroutine=false) aR)(mf:autoParam ((ai st).isGenerator=false) aR)(ji:autoParam (names.Nodup) aDK)(fh:autoParam ((ai st).names.all (λx=>x.2 != .free)=true) aDK)(jj:autoParam (names.all (λx=>(ai st).names.lookup x == some .local||(ai st).names.lookup x == some .cell)=true) aDK) :
  mcallX X A (.ref a) as C Φ cells:=λfv vs own s I rf rs=>by
 apply RV.e0 rf rfl ?_
 apply jH F λdoc pm an cdv ct F=>?_
 apply wpAny_call ?_
 apply jW F.at_ λoc od FC ho=>?_
 apply codeAny_call_function (fd:=fnOf (fnName st) qual (bz st) (aF st) (ai st) .none .none doc pm an cdv ct) (by have:=hA.dep;exact lt_of_add_right_lt this) (I.K _ _ ho) rfl qJ mf rfl (codeRec_of I.K F.code) ?_
 rw [hb _ _ _ _ _ vs rs.1]
 apply wpAny_pure ?_
 apply rn hA I rs cq ji fh jj λL s₂ I2 hx=>codeAny_func ?_
 have MU:=hA.deeper (L:=L) (bY qual (ai st) L a cdv) (by rw [show (bY qual (ai st) L a cdv).scope.kind=(ai st).kind from rfl,cq];decide) rfl
 apply wpAny_mono (h L cdv _ MU own s₂ I2) (λZ Z q=>q.elim) λv s' eC=>jc eC λown1 l1 c1 s1 h' e je I1 x1 ev es hm hΦ=>?_
 subst ev es
 obtain ⟨envs,t5,E8⟩:=MU.fr
 obtain ⟨outer,me,-⟩:=hA.fr
 have Jg:(A.deeper (bY qual (ai st) L a cdv)).frames=some (bY qual (ai st) L a cdv::outer):=by
  show A.frames.map (_::·)=_;rw [me];rfl
 rw [Jg] at t5;obtain rfl:=cK t5
 have hin:∀ env∈bY qual (ai st) L a cdv::outer,∀ b,env.frame=some b->b∈L::X.gx:=λenv he b hb=>by
  obtain ⟨_,L',q2,q3⟩:=E8 env he
  rw [hb] at q3;obtain rfl:=cK q3;exact q2
 apply wpAny_leaves_madeW Jg rfl (λb o q=>of_hideAll _ q) (PySem.W.funFrames_hide (kq I1.base E8) hin) hm λh2 t x2 x3 x4 x5=>?_
 exact (gr L e t own1 c1 s1 outer h2 me rfl I1.base (hx _ _ _ x1) rfl x2 ((Heap.UpToSlots.of_keeps hm.keeps).trans x5) hΦ)
theorem vb{h':Heap}{fs:List Addr}{own:Own}{c:Cells}{s:Shared}(I:Base X own c s)(hf:∀ b∈fs,b∈X.gx)(k:(hideAll s.heap fs).StaysIn h')(u:s.heap.UpToSlots h'):uC fs (λZ=>False) s.heap h':=λb o e=>by
 by_cases hb:b∈fs
 ·obtain ⟨_,o',es,n,e',d,_⟩:=I.gx b (hf b hb)
  rw [e] at e';obtain rfl:=cK e'
  apply bw (u b o e λvs z=>by rw [d] at z;cases z) λsl q=>?_
  exact (iPDP (λZ=>(iPDP (λn=>absurd hb n) sl q)) _ q)
 ·have q:=k b o (hideAll_get _ e hb)
  exact (iPDP (λZ=>(iPDP (λZ=>q) o.slots q)) _ q)
theorem zV{k:Nat}{o:Expr}{name x:Str}{apos pos p3 p5 p6 np:Pos}{pl:Sem Bool}{b0:Stmt}{suite:List Stmt}{C:Addr}{Ψ:MF->Loc->Cells->Prop}(hA:Rm X A k)(htop:∃ outer,A.frames=some (env::outer))(hk:env.kindOf x=some .globalImplicit)(hl:X.glob.lookup x=some (.ref C))(q:qf X.K C va "ValueError.__new__")(h:mE X A env (eval o env) (λov l c=>jl X A ov name (λf first c1=>Keeps X f/\(aD X A f first (λr c3=>Ψ .next l c3) c1\/mcallX X A f first C (λc3=>∀ e,mS X (A.mark (some (.ref e))) env (execs (b0::suite) env) Ψ l c3) c1)) c) loc cells)(he:autoParam (eval (.Call (.Attribute o name apos) [] [] pos) env=(do let ov <- eval o env;standAt apos.atName;let (f,first) <- holding [ov] (getMethod ov name pl);callWith pos f first (backTo pos (starEach [] env)) [])) aR)(hi:autoParam (interactive env=false) aR)(hs:autoParam (swapsWith (.Call (.Attribute o name apos) [] [] pos) none p3.line env=pure false) aR)(hd:autoParam ((x == ("__debug__":Str))=false) aDK) :
  mS X A env (exec (.Try [.Expr (.Call (.Attribute o name apos) [] [] pos) p3] [.ExceptHandler (some (.Name x np)) none (b0::suite) p5] [] [] p6) env) Ψ loc cells:=λown s I=>by
 apply wpAny_Try_except (wpAny_execs_cons (wpAny_Expr_any (MethodCall_ (pl:=pl) ?_ he) hi hs))
 apply bZ (h.use I λown1 l1 c1 ov v1 s1 I1 r1 x1 h1=>?_)
 apply bZ ((h1 v1 pl).lY I1 r1 λaG c2 q2 fx s2 I2 r2 x2 fR=>aC fR λHG h2=>?_)
 obtain ⟨f,first⟩:=q2
 obtain ⟨fv,fs⟩:=fx
 apply aC r2 λra rb=>?_
 apply eW HG ra (spliced_none ⟨I2.base.K,?_⟩) rfl
 rw [append_nil]
 rcases h2 with h3 | h3
 ·apply bZ ((h3 fv fs).lY I2 ⟨ra,rb⟩ λeh c4 b v4 s4 I4 r4 x4 h4=>?_)
  exact wpAny_execs_nil (wpAny_execs_nil ⟨eh,l1,c4,.next,I4,.next,x1.trans (x2.trans x4),h4⟩)
 ·apply wpAny_mono (h3 fv fs aG s2 I2.base ra rb) (λZ Z q=>q.elim) λv s' fq=>kJ fq λL e t bX c3 s3 outer h' t5 ev I3 x3 es GC hu hΦ=>?_
  subst ev es
  apply bw htop λLQ ho=>?_
  rw [ho] at t5;obtain rfl:=cK t5
  apply aj hA.fr λenvs t5 E8=>?_
  rw [ho] at t5;obtain rfl:=cK t5
  obtain ⟨_,L',hL,hf⟩:=E8 env mem_cons_self
  have OS:=I2.fr.ext x3
  have inv:∀ h5,(hideAll s3.heap (L::X.gx)).StaysIn h5->s3.heap.UpToSlots h5->Inv X env bX l1 c3 { s3 with heap:=h5,toks:=s3.toks}/\Ext qH bX c3 s3.heap bX c3 h5:=λh5 k5 u5=>by
   (apply aC (I3.xM (t:=s3.toks) (λZ h=>h) (λZ h=>h.elim) (vb I3 (λZ h=>h) k5 u5)) ?_;intro B xs)
   exact ⟨⟨B.pop,I2.ok,OS.ext xs⟩,xs⟩
  apply wpAny_looks_onW ho hf GC λh4 G4 u4=>?_
  apply wpAny_landsW G4 λh5 BZ u5=>?_
  have MV:=hu.trans (u4.trans u5)
  obtain ⟨I5,-⟩:=inv h5 BZ.1 MV
  apply aj BZ.there λob Kn LR=>?_
  apply wpAny_handleBy_cons (codeAny_handlers_test (mD (A:=A.mark (some (.ref e))) I5 hk hl (λv r=>?_) hd)) (by intro q;cases q)
  apply RV.e0 r rfl ?_
  apply wpAny_excMatches_sub_self (I5.base.K _ _ q.1) Kn LR rfl (codeAny_handlers_suite ?_)
  apply lands_againW BZ λh6 LS u6=>?_
  apply aC (inv h6 LS.1 (MV.trans u6)) λI6 x6=>?_
  apply bZ (cL.use (hΦ e) I6 λFJ l7 c7 b v7 s7 I7 r7 x7 h7=>?_)
  exact ⟨FJ,l7,c7,b,I7,r7,x1.trans (x2.trans (x3.fF.trans (x6.fF.trans x7))),h7⟩
end
end
namespace L1
open PySem.W (findIn typeIn keepIn)
noncomputable def TS.free (σ:TS) (ns:List Int):List Int:=ns.filter λk=>σ.np k == 0
theorem vc{Y:Cx}{A':Around}{k:Nat}{c:Cells}{D:SA}{L a d:Addr}{cdv:Value}{ia:Int->Addr}{σ:TS}{p f:Int}{res:Option (List Int)}(S':S2 D Y)(bp:Rm Y A' (k+1))(B:mM D c a d ia σ .none p f)(BU:σ.nodes.length<900)(hm:∀ k∈σ.nodes,∀ s∈σ.su k,s∈σ.nodes)(O:fC σ.su σ.nodes [] res) :
  tL Y A' (bY "TopologicalSorter.prepare" (ai (i8 3)) L D.hH cdv) (aF (i8 3)) [(aF (i8 3)).getD 3 default] (λl c'=>l.lookup ("cycle":Str)=some (yd res)/\∃ r,kC D c' a d r ia σ (σ.free σ.nodes) p f/\(∀ b y,c b=some y->b≠a->c' b=some y)) [("self",.ref a)] c:=by
 apply qg (bt (aE (m_attr (m_var rfl (bP (mv:=.none) B.inst rfl trivial S'.jx S'.o2 (cx (ix (ar ?_))))))))
 rw [if_neg (by decide)]
 apply au ⟨rfl,qg (br (n9 ⟨by rfl,by decide +kernel,by rfl'⟩ (n8.name ⟨by rfl,by decide +kernel,by rfl'⟩ rfl (.inl (by decide +kernel))) bp.hh ?_))⟩
 apply A9 bp.hh (m_attr (m_var rfl (bP (mv:=.ref d) B.inst rfl trivial S'.jx S'.o1 (d9 d _ rfl B.dict (λZ Z=>trivial) ?_))))
 have il:((σ.nodes.map λk=>(k,V.ref (ia k))).map (·.2))=σ.nodes.map λk=>V.ref (ia k):=by rw [map_map];rfl
 rw [il]
 apply ⟨(by rw [length_map];exact ag (by lia)),(λi acc c'=>acc=Iz (σ.free (σ.nodes.take i))/\c'=c/\i<=σ.nodes.length),(⟨rfl,rfl,zero_le _⟩),(λi acc c' bk=>bq bk λq Z qi=>?_),(λL' cs i v acc c' hv bN=>bq bN λq1 q2 q3=>?_),(λxs c' cI=>bq cI λq1 q2 Z=>?_)⟩
 ·rw [q,ax]
  exact le_trans (length_filter_le _ _) (by rw [length_take];exact min_le_left i σ.nodes.length)
 ·rw [q2]
  rw [getElem?_map,map_eq_some_iff] at hv
  (apply aj hv ?_;try clear hv;intro n hp aM;rw [<- aM])
  have hn:n∈σ.nodes:=mem_of_getElem? hp
  have hi:i<σ.nodes.length:=(List.getElem?_eq_some_iff.mp hp).1
  have e:σ.free (σ.nodes.take (i+1))=σ.free (σ.nodes.take i)++(if σ.np n=0 then [n] else []):=by
   unfold TS.free
   rw [take_add_one,hp,filter_append]
   congr 1
   by_cases z:σ.np n=0 <;> simp [z]
  apply kj (aE (m_attr (m_var rfl (at_slots (mv:=.int (σ.np n)) (B.info n hn) rfl trivial S'.cni S'.s1 (m_int (vQ (ar ?_)))))))
  by_cases z:σ.np n=0
  ·rw [if_pos (by rw [z];rfl)]
   apply m_attr (m_var rfl (at_slots (mv:=.int n) (B.info n hn) rfl trivial S'.cni S'.s0 (aX rfl ?_ rfl hi)))
   rw [e,if_pos z,q1,jP]
  ·rw [if_neg (by simpa using z)]
   apply (aX rfl ?_ rfl hi)
   rw [e,if_neg z,q1,append_nil]
 ·subst q1 q2
  apply (iDPP _ rfl (λr hr=>?_))
  rw [length_map,take_length]
  have MW:r≠a:=λz=>by rw [z,B.inst] at hr;exact dc hr
  apply m_var rfl (iG (by rw [ae _ (Ne.symm MW)];exact B.inst) S'.jx S'.o2 (by show 4<=1000;decide) ?_)
  have kp:∀ b y,c' b=some y->b≠a->(upd (upd c' r (some (.list (Iz (σ.free σ.nodes))))) a (some (.inst D.ts [("_node2info",.ref d),("_ready_nodes",.ref r),("_npassedout",.int p),("_nfinished",.int f)]))) b=some y:=λb y e hb=>by
   rw [ae _ hb,ae _ (λz=>by rw [z,hr] at e;exact bf e)];exact e
  have B1:mM D (upd (upd c' r (some (.list (Iz (σ.free σ.nodes))))) a (some (.inst D.ts [("_node2info",.ref d),("_ready_nodes",.ref r),("_npassedout",.int p),("_nfinished",.int f)]))) a d ia σ (.ref r) p f :=
   ⟨ah _ _ _,kp _ _ B.dict (λz=>by have:=B.inst;rw [<- z,B.dict] at this;cases this),λk hk=>kp _ _ (B.info k hk) (λz=>by have:=B.inst;rw [<- z,B.info k hk] at this;simp [cV] at this),B.kz,B.nodup⟩
  have r1:(upd (upd c' r (some (.list (Iz (σ.free σ.nodes))))) a (some (.inst D.ts [("_node2info",.ref d),("_ready_nodes",.ref r),("_npassedout",.int p),("_nfinished",.int f)]))) r=some (.list (Iz (σ.free σ.nodes))):=by rw [ae _ MW,ah]
  apply ⟨rfl,?_⟩
  show tL Y A' _ _ _ _ _ (upd (upd c' r (some (.list (Iz (σ.free σ.nodes))))) a (some (.inst D.ts [("_node2info",.ref d),("_ready_nodes",.ref r),("_npassedout",.int p),("_nfinished",.int f)])))
  generalize upd (upd c' r (some (.list (Iz (σ.free σ.nodes))))) a (some (.inst D.ts [("_node2info",.ref d),("_ready_nodes",.ref r),("_npassedout",.int p),("_nfinished",.int f)]))=c1 at B1 r1 kp ⊢
  apply qg (ao (.inl rfl) (aI (m_var rfl (kn B1.inst rfl S'.jx S'.find.at_ S'.find.typ ⟨S'.find.keep,a_nil (ye S' bp B1 BU hm O λc2 k2=>⟨rfl,Ec (m7 rfl r ?_ ?_)⟩)⟩))))
  ·exact ⟨⟨k2 _ _ B1.inst,k2 _ _ B1.dict,λk hk=>k2 _ _ (B1.info k hk),B1.kz,B1.nodup⟩,k2 _ _ r1⟩
  ·exact λb y e hb=>k2 _ _ (kp b y e hb)
theorem Ee{X:Cx}{A:Around}{k:Nat}{c:Cells}{D:SA}{a d:Addr}{ia:Int->Addr}{σ:TS}{p f:Int}{Ψ:V->Cells->Prop}(S:S2 D X)(hA:Rm X A (k+2))(B:mM D c a d ia σ .none p f)(BU:σ.nodes.length<900)(hm:∀ k∈σ.nodes,∀ s∈σ.su k,s∈σ.nodes)(O:fC σ.su σ.nodes [] none)(h:∀ c' r,kC D c' a d r ia σ (σ.free σ.nodes) p f->(∀ b y,c b=some y->b≠a->c' b=some y)->Ψ .none c'):aD X A (.ref D.hH) [.ref a] Ψ c:=by
 apply dm (names:=["self"]) S.hH hA (λZ Z Z Z Z=>l1 λZ=>rfl) λL cdv A' bp=>?_
 have S':S2 D (X.push L):=S
 apply (vc S' bp B BU hm O).run λl c' dH=>jX dH λhl r R kp=>?_
 apply aa (bt (dU (m_var (mv:=.none) hl (FO ?_))))
 rw [if_neg (by decide)]
 exact au (au (h c' r R kp))
theorem Ef{X:Cx}{A:Around}{env:Env}{loc:Loc}{cells:Cells}{v:Expr}{pos:Pos}{Ψ:V->Loc->Cells->Prop}(h:mE X A env (eval v env) Ψ loc cells):mE X A env (eval (.JoinedStr [v] pos) env) Ψ loc cells:=λown s I=>wpAny_JoinedStr_one (h own s I)
theorem wG{X:Cx}{A:Around}{k:Nat}{c:Cells}{D:SA}{C a d:Addr}{ia:Int->Addr}{σ:TS}{p f:Int}{q:Int}{qs:List Int}{Φ:Cells->Prop}(S:S2 D X)(hC:X.glob.lookup ("CycleError":Str)=some (.ref C))(hX:qf X.K C va "ValueError.__new__")(hA:Rm X A (k+2))(B:mM D c a d ia σ .none p f)(BU:σ.nodes.length<900)(hz:qs.length<1000)(hm:∀ k∈σ.nodes,∀ s∈σ.su k,s∈σ.nodes)(O:fC σ.su σ.nodes [] (some (q::qs)))(h:∀ c' r,kC D c' a d r ia σ (σ.free σ.nodes) p f->(∀ b y,c b=some y->b≠a->c' b=some y)->Φ c'):mcallX X A (.ref D.hH) [.ref a] C Φ c:=by
 apply BY (names:=["self"]) S.hH hA (λZ Z Z Z Z=>l1 λZ=>rfl) λL cdv A' bp=>?_
 have S':S2 D (X.push L):=S
 apply (vc S' bp B BU hm O).raise λl c' eC=>jX eC λhl r R kp=>?_
 apply nH (BX (dU (m_var (mv:=.list (Iz (q::qs))) hl (mq (by rw [ax];exact ag (by rw [length_cons];exact zl (by assumption) rfl)) ⟨rfl,?_⟩))))
 apply nH (zU bp.hh rfl hC hX (af (Ef (aK (af (m_var (mv:=.list (Iz (q::qs))) hl (a_nil ⟨by show 2<=1000;decide,h c' r R kp⟩)))))))
end L1
namespace L1
noncomputable def yf (t:Bool×Str):Bool:=!(Txt.contains t.2 (ofString ".") == t.1)
noncomputable def d6 (name:Str):List Test->Nat->Bool
 | []=>λm=>match m with
  | 0=>cA [] name
  | _+1=>false
 | none::r=>λm=>Nat.rec (cA (none::r) name) (λm ih=>ih||d6 name r (m+1)) m
 | some t::r=>λm=>match m with
  | 0=>cA (some t::r) name
  | m+1=>yf t&&d6 name r m
theorem mP(name:Str)(ts:List Test):d6 name ts 0=cA ts name:=by
 cases ts with
 | nil=>rfl
 | cons t r=>cases t <;> rfl
theorem qh(ts:List Test)(t:Test):iZ (bH (t::ts)) (some 1) none none=bH ts:=by
 rw [show (some (1:Int))=some ((1:Nat):Int) from rfl,kl _ 1 (by exact le_of_ble_eq_true rfl)];rfl
theorem Eg(n:Nat):∀ {X:Cx} {A:Around} {cells:Cells} {ts:List Test} {name:Str} {m:Nat} {Ψ:V->Cells->Prop} (G:G1 X) (hA:Rm X A (n+3)) (hz:ts.length+m<=n) (hl:ts.length<=1000)
  (h:Ψ (.bool (d6 name ts m)) cells) (hn:name.length<=1000),aD X A (.ref 232) [.list (bH ts),.str name,.int m] Ψ cells:=by
 induction n with
 | zero =>
  intro X A cells ts name m Ψ G hA hz hl h hn
  apply dm (names:=["tests","name","more"]) G.told hA (λZ Z Z Z Z=>l3 λZ Z Z=>rfl) λL cdv A' bp=>?_
  have G':G1 (X.push L):=G
  generalize X.push L=Y at bp G' ⊢
  have hm:m=0:=by lia
  subst hm
  apply aa (bt (oY (dU (m_var rfl (ES ?_)))))
  rw [if_pos rfl]
  rw [mP] at h
  exact aa (aL (az rfl G'.ta (eR.keeps G'.takes) (af (m_var rfl (af (m_var rfl (a_nil (pQ (k:=0) G' bp h hn))))))))
 | succ n ih =>
  intro X A cells ts name m Ψ G hA hz hl h hn
  apply dm (names:=["tests","name","more"]) G.told hA (λZ Z Z Z Z=>l3 λZ Z Z=>rfl) λL cdv A' bp=>?_
  have G':G1 (X.push L):=G
  generalize X.push L=Y at bp G' ⊢
  apply aa (bt (oY (dU (m_var rfl (ES ?_)))))
  cases m with
  | zero =>
   rw [if_pos rfl]
   rw [mP] at h
   exact aa (aL (az rfl G'.ta (eR.keeps G'.takes) (af (m_var rfl (af (m_var rfl (a_nil (pQ (k:=n+1) G' bp h hn))))))))
  | succ m =>
   rw [if_neg (by simp;exact bi_ine.mp rfl)]
   apply au (aa (bt (oY (dU (m_var rfl (mq (by rw [show (bH ts).length=ts.length by simp [bH]];exact ag (zl (by assumption) rfl)) ?_))))))
   cases ts with
   | nil =>
    rw [if_pos rfl]
    exact aa (aL (fu h))
   | cons t r =>
    rw [if_neg (by simp [bH])]
    have e1:((m+1:Nat):Int) - 1=(m:Nat):=by exact Int.sub_eq_iff_eq_add.mpr rfl
    have Eh:(bH (t::r)).length<=1000000:=by simp [bH] at hl ⊢;exact zl (by assumption) rfl
    simp only [length_cons] at hl hz
    apply au (aa (bt (aE (m_item (m_var rfl (m_int (dN (j:=0) (x:=gF t) rfl Eh (cx ?_))))))))
    cases t with
    | none =>
     apply g7 (ar ?_)
     rw [if_pos rfl]
     apply aa (aL (Fd (az rfl G'.tc (eR.keeps G'.told) (af (m_var rfl (af (m_var rfl (af (aY (m_var rfl (m_int (kW (a_nil ?_)))))))))))))
     rw [e1]
     apply ih G' bp (by simp only [length_cons];exact Nat.le_of_lt_succ hz) (by simp only [length_cons];omega) (ar ?_) hn
     have e2:d6 name (none::r) (m+1)=(d6 name (none::r) m||d6 name r (m+1)):=rfl
     rw [e2] at h
     by_cases hb:d6 name (none::r) m=true
     ·rw [hb]
      rw [hb,Bool.true_or] at h
      rw [if_pos rfl];exact h
     ·rw [if_neg hb]
      rw [eq_false_iff.mpr hb,Bool.false_or] at h
      apply az rfl G'.tc (eR.keeps G'.told) (af (cj (m_var rfl (bC (m_int (bB (bB (sO (by decide) (ag Eh) ?_))))))))
      rw [qh]
      exact af (m_var rfl (af (m_var rfl (a_nil (ih G' bp (by lia) (le_of_succ_le hl) h hn)))))
    | some q =>
     apply dJ trivial (ar ?_)
     rw [if_neg (by decide)]
     apply au (aa (aL (Gz (gz (gz (aK (m_item (m_item (m_var rfl (m_int (dN (j:=0) (x:=gF (some q)) rfl Eh (m_int (iy (j:=1) (by decide) (by decide) rfl rfl (EU (m_item (m_item (m_var rfl (m_int (dN (j:=0) (x:=gF (some q)) rfl Eh (m_int (iy (j:=0) (by decide) (by decide) rfl rfl (EX (ar ?_)))))))))))))))))))))))
     have e2:d6 name (some q::r) (m+1)=(yf q&&d6 name r m):=rfl
     rw [e2] at h
     by_cases hb:yf q=true
     ·rw [hb,Bool.true_and] at h
      rw [if_pos hb]
      apply az rfl G'.tc (eR.keeps G'.told) (af (cj (m_var rfl (bC (m_int (bB (bB (sO (by decide) (ag Eh) ?_))))))))
      rw [qh]
      apply af (m_var rfl (af (aY (m_var rfl (m_int (kW (a_nil ?_)))))))
      rw [e1]
      exact ih G' bp (by lia) (le_of_succ_le hl) h hn
     ·rw [if_neg hb]
      rw [eq_false_iff.mpr hb,Bool.false_and] at h
      have e3:(!(Txt.contains q.2 (ofString ".") == q.1))=false:=eq_false_iff.mpr hb
      rw [show (!(Txt.contains q.2 (".") == q.1))=false from e3]
      exact h
end L1
section
theorem qj{target kx vx iter:Expr}{bind:V->Loc->Loc}{okv:V->Prop}{y:Str}{py:Pos}{ifs:List Expr}{scope:Scope}{pos p:Pos}{Ψ:MF->Loc->Cells->Prop}(C:cC scope env)(G:H6 X A env scope target bind okv)(hy:env.kindOf y=some .local)(hh:A.handled=none)(HN:swapsWith (.DictComp kx vx [⟨target,iter,ifs,0⟩] scope pos) (some (.Name y py)) p.line env=pure true)(h:iW X A env target iter (λitems l2 c2=>(∀ v∈items,okv v)/\vZ X A env bind ifs kx vx scope items l2 c2 (λr c=>Ψ .next ((y,r)::l2) c)) loc cells)(hs:∀ x,foldedSetIterable iter env x=pure x) :
  mS X A env (exec (.Assign [.Name y py] (.DictComp kx vx [⟨target,iter,ifs,0⟩] scope pos) p) env) Ψ loc cells:=λown s I₀=>by
 rw [exec_Assign_Name_used _ _ _ _ HN]
 apply wpAny_bind (wpAny_standAt (wpAny_bind ?_))
 show wpAny _ A (do let _ <- comprehension (.DictComp kx vx [⟨target,iter,ifs,0⟩] scope pos) scope env _ newDict false (eval iter env) (some (assign (.Name y py) env))) _ _ s
 apply wpAny_bind (wpAny_mono (Q:=λZ s'=>jh X env RF own cells s.heap Ψ .next s') ?_ (λZ s' hq=>wpAny_pure (wpAny_pure hq)) λZ Z e=>e)
 (apply aj (jZ (env:=env) (scope:=scope) (λy hy=>bW (I₀.fr.i6 y (C.isFree hy)) λc Z l Z=>bJ c l)) ?_;intro cl nZ Ko)
 apply wpAny_comprehension_free (g:=⟨target,iter,ifs,0⟩) (gs:=[]) rfl hs nZ C.kind (λy hy hk=>C.lookup.mpr (by obtain ⟨a,b⟩:=y;dsimp only at hk;rw [hk] at hy;exact hy)) ?_
 apply aJ (h own s I₀) λxv s1 h1=>aJ h1 λit s2 h2=>?_
 apply iT h2 ?_;clear h2;intro aG bG c2 items I2 x2 src AJ hlen J j0 hJ turn done
 apply rB (K:=.dict) (b0:=[]) (bind:=bind) (Em:=λce a=>KY X A ifs kx vx ce a) C I2 x2 src Ko (λQ q=>pH q) rfl (λown h a e=>mA.new (X:=X) e) J j0 (λL cs v hv=>G.asg L cs v (AJ v hv)) ?_ (λL cs a=>DC) (λL cs a R s3 h1 h2=>codeAny_compStart_dict h1 (aJ h2 λHJ s' q=>by cases q.1;exact q.2))
  λa L own' c' s' xs j ca e=>?_
 ·intro L cs i v acc c a own s Q hi ca j I k
  exact DD (P:=λl ys c=>l=bind v (fi scope bG)/\J (i+1) ys c) (turn L cs i v acc _ hi j) ca (le_trans (hJ i acc _ j) (le_trans (le_of_lt (List.getElem?_eq_some_iff.mp hi).1) hlen)) I
   λown' l' c' ys s' I' x' HM p=>k own' l' c' ys s' I' x' (λy mv e=>p.1▸G.sub v (AJ v (mem_of_getElem? hi)) bG y mv e) HM p.2
 ·show wpAny _ _ (assign (.Name y py) env (.ref a)) _ _ _
  apply wpAny_assign_Name ?_
  apply (bu e.inv e.rv (.inl hy) λs2 I2 x2=>?_)
  have nF:¬ Fa env L:=λf=>by
   rcases f with q | ⟨z,k,l⟩
   ·exact e.FG q
   ·exact e.FH z L (.inl k) l rfl
  have E2:fM X env ((y,.ref a)::bG) own cells s.heap (.ref a) (.ref a) L own' c' s2:=by
   apply kI e.ns λm o es ep eo d r=>?_
   apply aj (x2.keep L o eo e.dy nF (fG d)) λo' e' lk=>?_
   exact ⟨I2,e.rv.ext e.inv x2,e.ext.trans x2,⟨m,o',es,ep,e',(lk.2.1.trans d),r⟩,e.dy,e.eO,e.ki,e.AH,e.FG,e.FH⟩
  apply bw E2.ns λm hm=>?_
  apply (iDPP m hm (λh' Ak=>?_))
  apply bq (E2.letGo Ak) λq1 q2 q3=>?_
  exact ⟨own',_,_,.next,q1,.next,q3,uh ca▸done xs _ j a (ah _ _ _)⟩
end
namespace L1
noncomputable def aT (n:Nat):List Int:=(List.range n).map λ(j:Nat)=>(j:Int)
noncomputable def gN (n:Nat) (f:Int->List Int):List (Int×List Int):=(aT n).map λp=>(p,f p)
theorem jT(n:Nat)(f:Int->List Int):gdict (gN n f)=(aT n).map λk=>(k,V.list (Iz (f k))):=by
 unfold gdict gN
 rw [map_map];rfl
theorem G5(n:Nat)(f:Int->List Int):dput (gdict (gN n f)) n (.list (Iz (f n)))=gdict (gN (n+1) f):=by
 unfold dput
 rw [if_neg]
 ·rw [jT,jT]
  unfold aT
  rw [List.range_succ,map_append,map_append];rfl
 ·rw [any_eq_true]
  (intro aM;apply aj aM ?_;clear aM;intro kv MX e)
  rw [jT] at MX
  (apply aj (mem_map.mp MX) ?_;intro k hk bk;subst bk)
  (apply aj (mem_map.mp hk) ?_;intro j hj bN;subst bN)
  rw [mem_range] at hj
  have e':(j:Int)=(n:Int):=of_decide_eq_true e
  lia
theorem B7{X:Cx}{A:Around}{env:Env}{loc:Loc}{c:Cells}{n:Nat}{f:Int->List Int}{kx vx iter:Expr}{x y:Str}{px py pos p:Pos}{scope:Scope}{Ψ:MF->Loc->Cells->Prop}(C:cC scope env)(hy:env.kindOf y=some .local)(HN:swapsWith (.DictComp kx vx [⟨.Name x px,iter,[],0⟩] scope pos) (some (.Name y py)) p.line env=pure true)(hh:A.handled=none)(ek:env.scope.kind=.function)(hx:scope.names.lookup x=some .local\/scope.names.lookup x=some .cell)(hn:n<=1000)(hi:mE X A env (eval iter env) (λv l c'=>v=.q9 0 n 1/\l=loc/\c'=c) loc c)(OT:∀ L cs (p:Nat),mE X A (compEnv scope env L cs) (eval kx (compEnv scope env L cs)) (λr l' c'=>r=.int p/\l'=(x,.int (p:Int))::fi scope loc/\c'=c) ((x,.int (p:Int))::fi scope loc) c)(OU:∀ L cs (p:Nat),p<n->mE X A (compEnv scope env L cs) (eval vx (compEnv scope env L cs)) (λr l' c'=>r=.list (Iz (f p))/\l'=(x,.int (p:Int))::fi scope loc/\c'=c) ((x,.int (p:Int))::fi scope loc) c)(hs:∀ x,foldedSetIterable iter env x=pure x)(h:∀ a,c a=none->Ψ .next ((y,.ref a)::loc) (upd c a (some (.dict (gdict (gN n f)))))) :
  mS X A env (exec (.Assign [.Name y py] (.DictComp kx vx [⟨.Name x px,iter,[],0⟩] scope pos) p) env) Ψ loc c:=by
 apply qj C (bind:=λv l=>(x,v)::l) (okv:=λZ=>True) (n8.toD (elt:=kx) (ifs:=[]) (e:=.ListComp kx [⟨.Name x px,iter,[],0⟩] scope pos) (n8.name C ek hx)) hy hh HN ?_ hs
 apply dk (hi.mono λv l c' dH=>bq dH λq1 q2 q3=>?_)
 subst q1 q2 q3
 apply ⟨_,(uo hh (by lia)),(λZ Z=>trivial),(by rw [cT];exact ag (by lia)),(λi acc c2=>acc=gdict (gN i f)/\c2=c'/\i<=n),(⟨rfl,rfl,zero_le _⟩),(λi acc c2 eC=>bq eC λq Z qi=>?_),(λL' cs i v acc c2 hv fR=>bq fR λq1 q2 q3=>?_),(λxs c2 rz a ha=>bq rz λq1 q2 Z=>?_)⟩
 ·rw [q,jT];simp [aT]
 ·rw [q2]
  (apply aC (fY hv) ?_;intro C7 cI;rw [cI])
  apply iA ?_
  rw [if_pos rfl]
  apply (OT L' cs i).mono λr l' c' rA=>bq rA λr1 r2 r3=>(iDPP i r1 ?_)
  rw [r2,r3]
  apply (OU L' cs i C7).mono λr l' c' jU=>bq jU λr1 r2 r3=>(aX r2 ?_ r3 C7)
  rw [q1,r1,G5]
 ·subst q1 q2
  rw [cT]
  exact h a ha
end L1
namespace L1
open PySem.W (findIn typeIn keepIn)
theorem kC.other{D:SA}{c:Cells}{a d r b:Addr}{ia:Int->Addr}{σ:TS}{rd:List Int}{p f:Int}{xs:List V}(B:kC D c a d r ia σ rd p f)(hb:c b=none\/(∃ ys,c b=some (.list ys))/\b≠r):kC D (upd c b (some (.list xs))) a d r ia σ rd p f:=by
 have ne:∀ x y,c x=some y->(∀ zs,y≠.list zs)->x≠b:=λx y e n z=>by
  subst z
  rcases hb with q | ⟨⟨ys,q⟩,_⟩
  ·rw [e] at q;exact dc q
  ·rw [e] at q;obtain rfl:=cK q;exact n _ rfl
 apply ⟨⟨?_,?_,λk hk=>?_,B.rep.kz,B.rep.nodup⟩,?_⟩
 ·rw [ae _ (ne _ _ B.rep.inst (by intros;simp))];exact B.rep.inst
 ·rw [ae _ (ne _ _ B.rep.dict (by intros;simp))];exact B.rep.dict
 ·rw [ae _ (ne _ _ (B.rep.info k hk) (by intros;simp [cV]))];exact B.rep.info k hk
 ·rw [ae _ (λz=>by
   rcases hb with q | ⟨_,q⟩
   ·rw [<- z,B.wF] at q;exact dc q
   ·exact q z.symm)];exact B.wF
def TS.Good(σ:TS)(rd:List Int):Prop:=rd.length<=100/\(∀ k∈rd,k∈σ.nodes)/\∀ (i:Nat) k,rd[i]?=some k->(TS.cH (σ.outs rd,[]) (rd.take i)).1.np k=-1
inductive wH:Nat->TS->List Int->List (List Int)->Prop
 | stop {n:Nat} {σ:TS}:wH n σ [] []
 | turn {n:Nat} {σ:TS} {rd:List Int} {rest:List (List Int)}:rd≠[]->σ.Good rd->wH n (TS.cH (σ.outs rd,[]) rd).1 (TS.cH (σ.outs rd,[]) rd).2 rest->wH (n+1) σ rd (rd::rest)
structure J3(g:List (Int×List Int)):Prop where
 size:gi g<=800
 mem:∀ k∈(TS.none.adds g).nodes,∀ s∈(TS.none.adds g).su k,s∈(TS.none.adds g).nodes
 small:∀ k,((TS.none.adds g).su k).length<=100
theorem J3.nodes{g:List (Int×List Int)}(h:J3 g):(TS.none.adds g).nodes.length<900:=by
 have:(TS.none.adds g).Sz (0+gi g):=TS.Sz.adds ⟨zero_le _,λZ=>zero_le _⟩
 have:=this.1
 have:=h.size
 lia
end L1
namespace L1
theorem pW.keeps{K:PySem.W.Frag}{a c:Addr}{q:Str}{s:Stmt}(F:pW K a q s c):PySem.W.keepIn K (.ref a)=true:=eT F λZ Z Z Z F=>F.keep
noncomputable def kg:Option (Option Str)->Test
 | none=>none
 | some none=>some (true,ofString "")
 | some (some s)=>readOf s
noncomputable def B9:V->V
 | .int _=>gF (some (true,ofString ""))
 | .str s=>gF (readOf s)
 | _=>.none
theorem Ca(d:Option (Option Str)):B9 (dE d)=gF (kg d):=by
 match d with
 | none=>rfl
 | some none=>rfl
 | some (some s)=>rfl
noncomputable def eY (xs:List Item):List Test:=(p9 xs).map kg
noncomputable def gJ (xss:List (List Item)) (p:Int):List Int:=(aT xss.length).filter λo=>!(o == p)&&cA (eY (xss.getD p.toNat [])) (aB (xss.getD o.toNat []))
theorem Cb{xs:List Item}{d:Option (Option Str)}(h:d∈p9 xs):∃ x∈xs,d=bE x:=by
 have key:∀ (ys:List Item) (ps:List (Option (Option Str))),(∀ d∈ps,∃ x∈xs,d=bE x)->(∀ y∈ys,y∈xs)->∀ d∈ys.foldl (λps x=>fm ps (bE x)) ps,∃ x∈xs,d=bE x:=by
  intro ys
  induction ys with
  | nil=>intro ps h Z d hd;exact h d hd
  | cons y ys ih =>
   intro ps h hy
   apply ih (fm ps (bE y)) (λd hd=>?_) λz hz=>hy z (mem_cons_of_mem _ hz)
   have MY:=hy y mem_cons_self
   unfold fm at hd
   split at hd
   ·rename_i e
    split at hd
    ·exact h d hd
    ·rcases mem_append.mp hd with q | q
     ·exact h d q
     ·exact (iDPP y MY (by rw [mem_singleton.mp q,e]))
   ·rename_i e
    rcases mem_append.mp hd with q | q
    ·exact h d q
    ·exact (iDPP y MY (by rw [mem_singleton.mp q,e]))
 exact key xs [] (λd hd=>by cases hd) (λy hy=>hy) d h
structure An(xss:List (List Item)):Prop where
 item:∀ xs∈xss,∀ x∈xs,x∈bc
 short:∀ xs∈xss,xs.length<=50/\(aB xs).length<=100
 l8:xss.length<=10
theorem wI{xs:List Item}(hx:∀ x∈xs,x∈bc){s:Str}(h:some (some s)∈p9 xs):∃ t,readOf s=some t:=by
 apply aj (Cb h) λx OV e=>?_
 have:=all_eq_true.mp p8 x (hx x OV)
 unfold tG at this
 rw [<- e] at this
 simp only [and_eq_true,beq_iff_eq] at this
 rw [this.1]
 exact isSome_iff_exists.mp this.2
noncomputable abbrev mQ (L:Addr) (cdv:Value):Env:=bY "_law_sorted" (ai nC) L 237 cdv
noncomputable def gj (xss:List (List Item)):V:=.list (fc (xss.map aB))
noncomputable def oI (xss:List (List Item)):V:=.list (xss.map λxs=>.list (bH (eY xs)))
section
variable {Y:Cx}{A:Around}{k:Nat}{c:Cells}{L:Addr}{cdv:Value}{xss:List (List Item)}{Φ:MF->Loc->Cells->Prop}
theorem tM(G:G1 Y)(T:T1 Y)(R:Hw Y.K)(hA:Rm Y A (k+4))(O:An xss)(hP:c 57=some .tab)(LU:c 215=some .tab)(h:∀ c',(∀ b x,c b=some x->c' b=some x)->Φ .next [("tests",oI xss),("texts",gj xss)] c'):mS Y A (mQ L cdv) (exec ((aF nC).getD 0 default) (mQ L cdv)) Φ [("texts",gj xss)] c:=by
 have hl:(fc (xss.map aB)).length=xss.length:=by simp [fc]
 apply ao (.inr rfl) (cD ⟨by rfl,by decide +kernel,by rfl'⟩ (n8.name ⟨by rfl,by decide +kernel,by rfl'⟩ rfl (.inl (by decide +kernel))) hA.hh ?_)
 apply dk (m_var rfl (aV _ (dI hA.hh) (λZ Z=>trivial) ?_))
 apply ⟨by rw [hl];exact ag (by have:=O.l8;exact zl (by assumption) rfl),λi acc c'=>acc=(xss.take i).map (λxs=>V.list (bH (eY xs)))/\∀ b x,c b=some x->c' b=some x,⟨rfl,λZ Z e=>e⟩,λi acc c' bN=>aC bN λq Z=>by rw [q,length_map,length_take];exact min_le_left i xss.length,λL' cs i v acc c' hv cI=>aC cI λq1 q2=>?_,λys c' dH=>aC dH λq1 q2=>?_⟩
 ·have G6:=hv
  unfold fc at G6
  rw [map_map,getElem?_map,map_eq_some_iff] at G6
  (apply aj G6 ?_;try clear G6;intro xs MZ aM;subst aM)
  have hm:=mem_of_getElem? MZ
  apply aC (O.short xs hm) λs1 s2=>?_
  apply iA ?_
  rw [if_pos rfl]
  apply cD ⟨by rfl,by decide +kernel,by rfl'⟩ (n8.name ⟨by rfl,by decide +kernel,by rfl'⟩ rfl (.inl (by decide +kernel))) hA.hh ?_
  apply dk (az rfl G.DH (pW.keeps T.1.trans) (af (m_var rfl (af (cx (af (m_int (a_nil (BL (k:=k+2) G T hA (O.item xs hm) (zl s1 rfl) (zl s2 rfl) (q2 _ _ hP) λc2 Al=>?_)))))))))
  apply ⟨_,dI hA.hh,λZ Z=>trivial,?_⟩
  have vE:=uZ xs
  apply bD (λZ=>true) B9 (by rw [length_map];exact ag (by lia)) (lc:=[]) rfl (λIo Ip j v hj=>?_) ?_
  ·rw [getElem?_map,map_eq_some_iff] at hj
   (apply aj hj ?_;try clear hj;intro d hd bk;subst bk)
   have LV:=mem_of_getElem? hd
   apply iA (aX rfl rfl rfl (λZ=>?_))
   apply az rfl G.Gl (pW.keeps R.1) (af (m_var rfl (a_nil ?_)))
   match d,LV with
   | none,_=>exact zJ (k:=k+2) R hA ⟨rfl,rfl,rfl⟩
   | some none,_=>exact BH (k:=k+2) R hA ⟨rfl,rfl,rfl⟩
   | some (some s),LV =>
    apply bw (wI (O.item xs hm) LV) λt ht=>?_
    apply BG (k:=k+2) G R T.2 hA (Al _ _ (q2 _ _ LU)) ht ⟨?_,rfl,rfl⟩
    show _=gF (readOf s)
    rw [ht]
  ·apply ⟨rfl,?_,λb x e=>Al b x (q2 b x e)⟩
   rw [q1,take_add_one,MZ,map_append,filter_eq_self.mpr (λZ Z=>rfl),map_map]
   have e:List.map (B9 ∘ dE) (p9 xs)=bH (eY xs):=by
    unfold bH eY
    rw [map_map]
    exact map_congr_left λd Z=>Ca d
   rw [e];rfl
 ·rw [hl,take_length] at q1
  rw [q1]
  exact h c' q2
end
end L1
namespace L1
theorem yg(p:V->Bool)(q:Int->Bool)(h:∀ k,p (.int k)=q k)(ns:List Int):((Iz ns).filter p).map id=Iz (ns.filter q):=by
 unfold Iz
 rw [List.filter_map,map_id]
 congr 2
 funext k
 exact h k
theorem yh(n:Nat):nats n=Iz (aT n):=by
 unfold nats aT Iz
 rw [map_map];rfl
theorem Cd{n j:Nat}(h:j<n):(aT n)[j]?=some (j:Int):=by
 unfold aT
 rw [getElem?_map,getElem?_range h];rfl
section
variable {Y:Cx}{A:Around}{k:Nat}{c:Cells}{L:Addr}{cdv:Value}{xss:List (List Item)}{Φ:MF->Loc->Cells->Prop}
theorem tN(G:G1 Y)(hA:Rm Y A (k+4))(O:An xss)(h:∀ a,c a=none->Φ .next [("needs",.ref a),("tests",oI xss),("texts",gj xss)] (upd c a (some (.dict (gdict (gN xss.length (gJ xss))))))):mS Y A (mQ L cdv) (exec ((aF nC).getD 1 default) (mQ L cdv)) Φ [("tests",oI xss),("texts",gj xss)] c:=by
 have l8:=O.l8
 have hl:(fc (xss.map aB)).length=xss.length:=by simp [fc]
 apply B7 (n:=xss.length) (f:=gJ xss) ⟨by rfl,by decide +kernel,by rfl'⟩ rfl rfl hA.hh rfl (.inr (by decide +kernel)) (zl l8 rfl) ?_ (λL' cs p=>?_) (λL' cs p hp=>?_) (λZ=>rfl) h
 ·apply az rfl G.range trivial (af (az rfl G.len trivial (af (m_var rfl (a_nil (c8 (by rw [hl];exact ag (zl (by assumption) rfl)) (a_nil (fX ⟨?_,rfl,rfl⟩))))))))
  rw [hl]
 ·exact m_var rfl ⟨rfl,rfl,rfl⟩
 ·apply cD ⟨by rfl,by decide +kernel,by rfl'⟩ (n8.name ⟨by rfl,by decide +kernel,by rfl'⟩ rfl (.inl (by decide +kernel))) hA.hh ?_
  apply dk (az rfl G.range trivial (af (az rfl G.len trivial (af (m_var rfl (a_nil (c8 (by rw [hl];exact ag (zl (by assumption) rfl)) (a_nil (fX ?_)))))))))
  rw [hl]
  apply (aV _ (uo hA.hh (zl (by assumption) rfl)) (λZ Z=>trivial) ?_)
  have tk:∀ {Z:Cx} {B:Around} {ee:Env},True:=trivial
  apply bD (λv=>match v with | .int o=>!(o == (p:Int))&&cA (eY (xss.getD p [])) (aB (xss.getD o.toNat [])) | _=>false) id (by rw [cT];exact ag (zl (by assumption) rfl)) (lc:=[("place",.int (p:Int)),("tests",oI xss),("texts",gj xss)]) rfl (λIo Ip i v hi=>?_) ?_
  ·(apply aC (fY hi) ?_;intro C7 aM;rw [aM])
   apply kj (dA (cX (aE (m_var rfl (m_var rfl (FN (ar ?_)))))))
   have ht:(xss.map λxs=>V.list (bH (eY xs)))[p]?=some (.list (bH (eY (xss.getD p [])))):=by
    rw [getElem?_map,getD_eq_getElem?_getD,getElem?_eq_getElem hp];rfl
   have hx:(fc (xss.map aB))[i]?=some (.str (aB (xss.getD i []))):=by
    unfold fc
    rw [map_map,getElem?_map,getD_eq_getElem?_getD,getElem?_eq_getElem C7];rfl
   have OW:xss.getD i []∈xss:=by rw [getD_eq_getElem?_getD,getElem?_eq_getElem C7];exact getElem_mem C7
   have ml:=(O.short _ OW).2
   by_cases q:((i:Int) != (p:Int))=true
   ·rw [if_pos q]
    apply jm (dU (az rfl G.ta (eR.keeps G.takes) (af (m_item (m_var rfl (m_var rfl (dN ht (by rw [length_map];exact zl (by assumption) rfl) ?_)))))))
    apply af (m_item (m_var rfl (m_var rfl (dN hx (by rw [hl];exact zl (by assumption) rfl) (a_nil (pQ (k:=k+2) G hA (ar (aX rfl rfl ?_ (λZ=>m_var rfl ⟨rfl,rfl,rfl⟩))) (zl ml rfl)))))))
    show cA _ _=(!((i:Int) == (p:Int))&&cA _ (aB (xss.getD ((i:Int)).toNat [])))
    rw [show (!((i:Int) == (p:Int)))=true from q,Bool.true_and,toNat_natCast]
   ·rw [if_neg q]
    apply (aX rfl rfl ?_ (λZ=>m_var rfl ⟨rfl,rfl,rfl⟩))
    show false=(!((i:Int) == (p:Int))&&_)
    rw [show (!((i:Int) == (p:Int)))=false from eq_false_iff.mpr q,Bool.false_and]
  ·apply ⟨?_,rfl,rfl⟩
   rw [yh,yg _ (λo=>!(o == (p:Int))&&cA (eY (xss.getD p [])) (aB (xss.getD o.toNat []))) (λZ=>rfl)]
   rfl
end
end L1
namespace L1
structure mR(c:Cells):Prop where
 t:c 57=some .tab
 r:c 215=some .tab
 q:c 244=some .tab
theorem mR.mono{c c':Cells}(T:mR c)(h:∀ b x,c b=some x->c' b=some x):mR c':=⟨h _ _ T.t,h _ _ T.r,h _ _ T.q⟩
noncomputable abbrev Jh (xss:List (List Item)):List (Int×List Int):=gN xss.length (gJ xss)
noncomputable abbrev t6 (xss:List (List Item)):TS:=TS.none.adds (Jh xss)
structure G7(xss:List (List Item))(n:Nat)(res:Option (List Int))(rs:List (List Int)):Prop where
 ok:An xss
 g:J3 (Jh xss)
 out:fC (t6 xss).su (t6 xss).nodes [] res
 Fw:wH n (t6 xss) ((t6 xss).free (t6 xss).nodes) rs
 l8:rs.length<=1000
 small:∀ r∈rs,r.length<64
 ring:∀ q,res=some q->q≠[]/\q.length<=1000
structure wJ(X:Cx)(D:SA)(Cy:Addr):Prop where
 g:G1 X
 t:T1 X
 r:Hw X.K
 s:S2 D X
 hc:X.glob.lookup ("CycleError":Str)=some (.ref Cy)
 hx:qf X.K Cy va "ValueError.__new__"
theorem wJ.push{X:Cx}{D:SA}{Cy L:Addr}(K:wJ X D Cy):wJ (X.push L) D Cy:=⟨K.g,K.t,K.r,K.s,K.hc,K.hx⟩
theorem tO{D:SA}{c:Cells}{a d r b:Addr}{ia:Int->Addr}{σ:TS}{rd:List Int}{p f:Int}(B:kC D c a d r ia σ rd p f){y:Cell}(h:c b=some y)(hy:∀ xs,y≠.list xs):b≠r:=λz=>by
 rw [z,B.wF] at h;obtain rfl:=cK h;exact hy _ rfl
section
variable {Y:Cx}{A:Around}{k:Nat}{c:Cells}{L:Addr}{cdv:Value}{Φ:MF->Loc->Cells->Prop}{D:SA}{Cy:Addr}
structure gK(xss:List (List Item))(gd:Addr)(c:Cells):Prop where
 tabs:mR c
 dict:c gd=some (.bF (gdict (Jh xss)))
theorem gK.yb{xss:List (List Item)}{gd a d r:Addr}{ia:Int->Addr}{σ:TS}{rd:List Int}{p f:Int}{c c':Cells}(S:gK xss gd c)(B:kC D c a d r ia σ rd p f)(K4:dP r c c'):gK xss gd c' :=
 ⟨⟨K4 _ _ S.tabs.t rfl (tO B S.tabs.t (by intros;simp)),K4 _ _ S.tabs.r rfl (tO B S.tabs.r (by intros;simp)),K4 _ _ S.tabs.q rfl (tO B S.tabs.q (by intros;simp))⟩,K4 _ _ S.dict rfl (tO B S.dict (by intros;simp))⟩
theorem gK.upd{xss:List (List Item)}{gd b:Addr}{c:Cells}{x:Option Cell}(S:gK xss gd c)(h:∀ y,c b=some y->∃ xs,y=.list xs):gK xss gd (upd c b x):=by
 have ne:∀ z y,c z=some y->(∀ xs,y≠.list xs)->z≠b:=λz y e n q=>by
  rw [q] at e
  apply bw (h y e) λxs w=>?_
  exact n xs w
 exact ⟨⟨by rw [ae _ (ne _ _ S.tabs.t (by intros;simp))];exact S.tabs.t,by rw [ae _ (ne _ _ S.tabs.r (by intros;simp))];exact S.tabs.r,by rw [ae _ (ne _ _ S.tabs.q (by intros;simp))];exact S.tabs.q⟩,by rw [ae _ (ne _ _ S.dict (by intros;simp))];exact S.dict⟩
theorem gK.all{xss:List (List Item)}{gd a:Addr}{c c':Cells}(S:gK xss gd c)(ha:∃ C fs,c a=some (.inst C fs))(kp:∀ b y,c b=some y->b≠a->c' b=some y):gK xss gd c':=by
 apply ij ha λC fs ha=>?_
 have ne:∀ z y,c z=some y->(∀ C fs,y≠.inst C fs)->z≠a:=λz y e n q=>by
  rw [q,ha] at e;obtain rfl:=cK e;exact n _ _ rfl
 exact ⟨⟨kp _ _ S.tabs.t (ne _ _ S.tabs.t (by intros;simp)),kp _ _ S.tabs.r (ne _ _ S.tabs.r (by intros;simp)),kp _ _ S.tabs.q (ne _ _ S.tabs.q (by intros;simp))⟩,kp _ _ S.dict (ne _ _ S.dict (by intros;simp))⟩
noncomputable abbrev yi (gd a:Addr) (b:Bool):Loc:=[("refused",.bool b),("sorter",.ref a),("needs",.ref gd)]
theorem nI{xss:List (List Item)}{n:Nat}{res:Option (List Int)}{rs:List (List Int)}{gd a d r:Addr}{ia:Int->Addr}{l0:Loc}{Ψ:V->Cells->Prop}(K:wJ Y D Cy)(hA:Rm Y A (k+6))(F:G7 xss n res rs)(B2:kC D c a d r ia (t6 xss) ((t6 xss).free (t6 xss).nodes) 0 0)(Kp:gK xss gd c)(hl:Sub (yi gd a res.isSome) l0)(h:∀ c',gK xss gd c'->Ψ (.tuple [.ref gd,.bool res.isSome,.list (vF (rs.map sortI)),yd res]) c'):mS Y A (mQ L cdv) (execs ((aF nC).drop 5) (mQ L cdv)) (Back Ψ) l0 c:=by
 have iP:(t6 xss).nodes.length<900:=F.g.nodes
 have tI:∀ k∈(t6 xss).nodes,∀ s∈(t6 xss).su k,s∈(t6 xss).nodes:=F.g.mem
 have xu:∀ k,((t6 xss).su k).length<=100:=F.g.small
 have O:=F.out
 have R:=F.Fw
 have Hu:=F.l8
 have S':=K.s
 have ml:=F.small
 apply cL.le hl ?_
 generalize t6 xss=σ at iP tI xu O R B2
 apply aa (ao (.inl rfl) (cz (a_nil ⟨zero_le _,λrr J4=>?_⟩)))
 have B3:=B2.other (xs:=[]) (.inl J4)
 have fK:rr≠r:=λz=>by rw [z,B2.wF] at J4;exact dc J4
 have K3:=Kp.upd (x:=some (.list [])) (b:=rr) (λy e=>by rw [J4] at e;exact bf e)
 apply aa (gE (λn l c=>∃ τ rd done rest p,Sub (("rounds",.ref rr)::yi gd a res.isSome) l/\kC D c a d r ia τ rd p p/\c rr=some (.list (vF (done.map sortI)))/\wH n τ rd rest/\done++rest=rs/\τ.nodes=σ.nodes/\τ.su=σ.su/\gK xss gd c) n ⟨σ,_,([]),rs,0,(Sub.of (ja rfl rfl rfl rfl trivial)),B3,(ah _ _ _),R,rfl,rfl,rfl,K3⟩ ?_)
 (intro m l c3 aM;apply oV aM ?_;clear aM;intro τ rd done rest p iU B hc R hd e1 e2 Ks)
 have DF:done.length<=1000:=by rw [<- hd,length_append] at Hu;exact Nat.le_of_add_right_le Hu
 have IS:rd.length<=100:=by
  cases R with
  | stop=>simp
  | turn _ g _=>exact g.1
 apply cL.le iU ?_
 apply dU (aI (m_var rfl (kn B.rep.inst rfl S'.jx S'.act.at_ S'.act.typ ⟨S'.act.keep,a_nil (zR (k:=k+5) S' hA B (zl (by assumption) rfl) (ar ?_))⟩)))
 have ep:decide (p<p)=false:=by simp
 rw [ep]
 cases R with
 | stop =>
  rw [append_nil] at hd
  subst hd
  show mS Y A _ (execs [] _) _ _ _
  apply au (aa (aL (cZ (af (m_var rfl (af (m_var rfl (af (kT (m_var rfl ⟨rfl,hc,?_⟩))))))))))
  have K5:=Ks.upd (x:=none) (b:=rr) (λy e=>(bJ _ (by rw [hc] at e;exact (cK e).symm)))
  have B4:mM D (upd c3 rr none) a d ia τ (.ref r) p p:=by
   have ne:∀ x y,c3 x=some y->(∀ zs,y≠.list zs)->x≠rr:=λx y e n z=>by subst z;rw [e] at hc;obtain rfl:=cK hc;exact n _ rfl
   apply ⟨?_,?_,λk hk=>?_,B.rep.kz,B.rep.nodup⟩
   ·rw [ae _ (ne _ _ B.rep.inst (by intros;simp))];exact B.rep.inst
   ·rw [ae _ (ne _ _ B.rep.dict (by intros;simp))];exact B.rep.dict
   ·rw [ae _ (ne _ _ (B.rep.info k hk) (by intros;simp [cV]))];exact B.rep.info k hk
  apply af (aI (m_var rfl (kn B4.inst rfl S'.jx S'.find.at_ S'.find.typ ⟨S'.find.keep,a_nil (ye (res:=res) (k:=k+5) S' hA B4 (by rw [e1];exact iP) (by rw [e1,e2];exact tI) (by rw [e1,e2];exact O) λc4 k4=>a_nil ⟨ag (by show 4<=_;decide),?_⟩)⟩)))
  exact h c4 (K5.all ⟨_,_,B4.inst⟩ λb y e Z=>k4 b y e)
 | turn OX g R' =>
  have et:(!rd.isEmpty)=true:=by cases rd with
   | nil=>exact (OX rfl).elim
   | cons _ _=>rfl
  rw [et]
  show mS Y A _ (execs (_::_) _) _ _ _
  apply bq g λg1 g2 g3=>?_
  apply aa (ao (.inl rfl) (aI (m_var rfl (kn B.rep.inst rfl S'.jx S'.ready.at_ S'.ready.typ ⟨S'.ready.keep,a_nil (BN (k:=k+5) S' hA B (zt IS rfl) g2 λc4 B4 K4=>?_)⟩))))
  have J5:c4 rr=some (.list (vF (done.map sortI))):=K4 _ _ hc rfl fK
  have OY:=Ks.yb B K4
  have Ji:rd.length<64:=ml rd (by rw [<- hd];simp)
  apply aa (cy (aI (m_var rfl (eG J5 PySem.F.slot_list_append rfl ⟨trivial,af (az rfl K.g.sorted trivial (af (m_var rfl (a_nil (pR Ji (a_nil (c_append J5 (by rw [pK,length_map];exact ag (zl (by assumption) rfl)) ?_)))))))⟩))))
  have B5:=B4.other (xs:=vF (done.map sortI)++[.list (Iz (sortI rd))]) (.inr ⟨(bJ _ J5),fK⟩)
  have OZ:=OY.upd (x:=some (.list (vF (done.map sortI)++[.list (Iz (sortI rd))]))) (b:=rr) (λy e=>(bJ _ (by rw [J5] at e;exact (cK e).symm)))
  apply aC (TS.kD τ rd) λo1 o2=>?_
  apply bq (TS.qc 100 rd (τ.outs rd,[]) (by rw [o2,e2];exact xu)) λt1 t2 t3=>?_
  apply aa (cy (wb (m_var rfl (jb a D.ts _ D.hO rfl B5.rep.inst rfl S'.jx S'.Lm (m_var rfl (aV (Iz rd) (.inr rfl) (by rw [ax];exact ag (zl (by assumption) rfl)) (Ea (k:=k+5) S' hA B5 (by simp) (by rw [o2,e2];exact xu) g1 (by rw [o1,o2,e1,e2];exact tI) (λi k hi=>⟨by rw [o1];exact g2 k (mem_of_getElem? hi),g3 i k hi⟩) λc6 B6 K6=>au ?_)))))))
  have O0:(upd c4 rr (some (.list (vF (done.map sortI)++[.list (Iz (sortI rd))])))) rr=some (.list (vF ((done++[rd]).map sortI))):=by rw [ah,map_append,map_cons,List.map_nil,uH]
  apply ⟨_,(lt_succ_self _),_,_,(done++[rd]),_,(p+rd.length),(Sub.of (ja rfl rfl rfl rfl trivial)),B6,(K6 _ _ O0 rfl fK),R',(by rw [<- hd];simp),?_,?_,(OZ.yb B5 K6)⟩
  ·rw [t1,o1,e1]
  ·rw [t2,o2,e2]
end
theorem zW{X:Cx}{A:Around}{k:Nat}{c:Cells}{D:SA}{Cy:Addr}{xss:List (List Item)}{n:Nat}{res:Option (List Int)}{rs:List (List Int)}{Ψ:V->Cells->Prop}(K:wJ X D Cy)(hA:Rm X A (k+9))(Tb:mR c)(F:G7 xss n res rs)(h:∀ c' gd,gK xss gd c'->Ψ (.tuple [.ref gd,.bool res.isSome,.list (vF (rs.map sortI)),yd res]) c'):aD X A (.ref 237) [gj xss] Ψ c:=by
 apply gc.call (uE (names:=["texts"]) (dv:=.none) (kv:=.none) K.g.nC hA (λZ Z Z Z Z=>l1 λZ=>rfl) λL cdv A' bp htop=>?_)
 have K':wJ (X.push L) D Cy:=K.push
 generalize X.push L=Y at bp K' ⊢
 have S':=K'.s
 apply aa (tM K'.g K'.t K'.r bp F.ok Tb.t Tb.r λc1 O1=>?_)
 have Jj:=Tb.mono O1
 apply aa (tN K'.g bp F.ok λgd LI=>?_)
 have wK:∀ b,c1 b=some .tab->(upd c1 gd (some (.dict (gdict (Jh xss))))) b=some .tab:=λb e=>by rw [ae _ (λz=>by rw [z,LI] at e;exact bf e)];exact e
 have O2:gi (Jh xss)<=900:=le_trans F.g.size (by decide)
 apply aa (ao (.inl rfl) (az rfl S'.Lf S'.Lh (af (m_var rfl (a_nil (G2 (k:=k+2) S' bp (ah _ _ _) O2 λc2 a d ia R1 O3 LW=>?_))))))
 have Kp:gK xss gd c2:=⟨⟨LW _ (wK _ Jj.t),LW _ (wK _ Jj.r),LW _ (wK _ Jj.q)⟩,O3⟩
 apply aa (ao (.inl rfl) (fu ?_))
 have iP:(t6 xss).nodes.length<900:=F.g.nodes
 have tI:∀ k∈(t6 xss).nodes,∀ s∈(t6 xss).su k,s∈(t6 xss).nodes:=F.g.mem
 apply aa (zV bp htop rfl K'.hc K'.hx (m_var rfl (kn R1.inst rfl S'.jx S'.DJ.at_ S'.DJ.typ ?_)))
 have wL:=F.out
 have vd:=F.ring
 cases jV:res with
 | none =>
  rw [jV] at wL
  apply ⟨S'.DJ.keep,.inl (Ee (k:=k+6) S' bp R1 iP tI wL λc3 r B2 kp=>?_)⟩
  exact cL.le Sub.rfl (nI (k:=k+2) K' bp F B2 (Kp.all (kG _ _ R1.inst) kp) (by rw [jV];exact Sub.of (aX rfl rfl rfl trivial)) (λc' s=>by rw [<- jV] at *;exact h c' gd s))
 | some q =>
  apply aC (vd q jV) λh1 h2=>?_
  rw [jV] at wL
  cases q with
  | nil=>exact (h1 rfl).elim
  | cons x qs =>
   rw [length_cons] at h2
   apply ⟨S'.DJ.keep,.inr (wG (k:=k+6) S' K'.hc K'.hx bp R1 iP (lt_of_succ_le h2) tI wL λc3 r B2 kp e=>?_)⟩
   apply aa (ao (.inl rfl) (fu (au ?_)))
   exact cL.le Sub.rfl (nI (k:=k+2) K' bp F B2 (Kp.all (kG _ _ R1.inst) kp) (by rw [jV];exact Sub.of (aX rfl rfl rfl trivial)) (λc' s=>by rw [<- jV] at *;exact h c' gd s))
end L1
section
theorem Jk{vs:Array Value}{a b c d:V}(h:vs.size=[a,b,c,d].length):∃ v1 v2 v3 v4,vs=#[v1,v2,v3,v4]:=by
 rcases vs with ⟨l⟩
 exact eT (xm (a:=a) (b:=b) (c:=c) (d:=d) h) λv1 v2 v3 v4 e=>l9 v1 v2 v3 v4 (congrArg _ e)
theorem Ce{x1 x2 x3 x4:Str}{p1 p2 p3 p4 pos:Pos}{k:Nat}{w1 w2 w3 w4:V}(hh:A.handled=none)(h1:env.kindOf x1=some .local\/env.kindOf x1=some .cell)(h2:env.kindOf x2=some .local\/env.kindOf x2=some .cell)(h3:env.kindOf x3=some .local\/env.kindOf x3=some .cell)(h4:env.kindOf x4=some .local\/env.kindOf x4=some .cell) :
  sF X A env (.Tuple [.Name x1 p1,.Name x2 p2,.Name x3 p3,.Name x4 p4] k pos) (.tuple [w1,w2,w3,w4]) (λl=>(x4,w4)::(x3,w3)::(x2,w2)::(x1,w1)::l):=by
 intro own loc cells s u K I r h
 apply RV.yx r λa d vs n sl ho hn hz hi=>?_
 (apply eT (Jk hz) ?_;intro a1 a2 a3 a4 aM;subst aM)
 have r1:=hi 0 a1 w1 rfl rfl
 have r2:=hi 1 a2 w2 rfl rfl
 have r3:=hi 2 a3 w3 rfl rfl
 have r4:=hi 3 a4 w4 rfl rfl
 apply wpAny_assign_Tuple (items:=#[a1,a2,a3,a4]) hh ⟨_,ho,rfl,n,rfl⟩ rfl rfl λh' tY=>?_
 have keep:∀ b o,s.heap.get? b=some o->h'.get? b=some o:=λb o e=>tY b o (λz=>by rw [z,ak] at e;exact bf e) e
 have I1:Inv X env own loc cells {s with heap:=h'}:=⟨I.base.keeps keep,I.ok,I.fr.ext (cells:=cells) (cells':=cells) (.of_keeps keep)⟩
 show wpAny _ _ (do holding [a2,a3,a4] (do standAt p1;bindName env x1 a1);(do holding [a3,a4] (do standAt p2;bindName env x2 a2);(do holding [a4] (do standAt p3;bindName env x3 a3);(do holding [] (do standAt p4;bindName env x4 a4);pure ())))) _ _ _
 apply wpAny_bind (wpAny_holding (wpAny_bind (wpAny_standAt (wpAny_bindName (bu I1 (r1.keeps keep) h1 λs2 I2 x2=>?_)))))
 apply wpAny_bind (wpAny_holding (wpAny_bind (wpAny_standAt (wpAny_bindName (bu I2 ((r2.keeps keep).ext I1 x2) h2 λs3 I3 x3=>?_)))))
 apply wpAny_bind (wpAny_holding (wpAny_bind (wpAny_standAt (wpAny_bindName (bu I3 (((r3.keeps keep).ext I1 x2).ext I2 x3) h3 λs4 I4 x4=>?_)))))
 apply wpAny_bind (wpAny_holding (wpAny_bind (wpAny_standAt (wpAny_bindName (bu I4 ((((r4.keeps keep).ext I1 x2).ext I2 x3).ext I3 x4) h4 λs5 I5 x5=>?_)))))
 exact wpAny_pure (h s5 I5 (Ext.trans (.of_keeps keep) (x2.trans (x3.trans (x4.trans x5)))))
theorem qZ{x1 x2 x3 x4:Str}{p1 p2 p3 p4 tp pos:Pos}{k:Nat}{e:Expr}{Ψ:MF->Loc->Cells->Prop}(hh:A.handled=none)(h1:env.kindOf x1=some .local\/env.kindOf x1=some .cell)(h2:env.kindOf x2=some .local\/env.kindOf x2=some .cell)(h3:env.kindOf x3=some .local\/env.kindOf x3=some .cell)(h4:env.kindOf x4=some .local\/env.kindOf x4=some .cell)(h:mE X A env (eval e env) (λv l c=>∃ w1 w2 w3 w4,v=.tuple [w1,w2,w3,w4]/\Ψ .next ((x4,w4)::(x3,w3)::(x2,w2)::(x1,w1)::l) c) loc cells)(hs:autoParam (swapsWithSole [.Tuple [.Name x1 p1,.Name x2 p2,.Name x3 p3,.Name x4 p4] k tp] e pos.line env=pure false) aR)(hw:autoParam (swappedStores [.Tuple [.Name x1 p1,.Name x2 p2,.Name x3 p3,.Name x4 p4] k tp] e env=pure none) aR) :
  mS X A env (exec (.Assign [.Tuple [.Name x1 p1,.Name x2 p2,.Name x3 p3,.Name x4 p4] k tp] e pos) env) Ψ loc cells:=λown s I =>
 Assign_Tuple (h.use I λown1 l1 c1 mv u1 s1 I1 r1 x1 bk=>jI bk λw1 w2 w3 w4 e1 h'=>by
  subst e1
  exact Ce hh h1 h2 h3 h4 own1 l1 c1 s1 u1 _ I1 r1 λs' I' x'=>⟨own1,_,c1,.next,I',.next,x1.trans x',h'⟩) hs hw
end
namespace L1
theorem ve{X:Cx}{A:Around}{cells:Cells}{xs:List V}{Ψ:V->Cells->Prop}(hz:xs.length<=sizeLine)(h:Ψ (.bool (!xs.isEmpty)) cells):aD X A (.ty "bool") [.list xs] Ψ cells:=λfv vs own s I bN=>aC bN λrf r=>by
 apply RV.e0 rf rfl ?_
 (apply aj r.one ?_;intro v aM;rw [aM];intro r1)
 (apply aA r1.cN ?_;intro a d vs n sl AL;rw [AL];intro ho hn rs)
 have hs:vs.size=xs.length:=by simpa using rs.1
 apply call_bool_1 (fB a vs (by unfold sizeLine at hz;lia)) ⟨(bh _ ho rfl n rfl),⟨rfl,?_⟩⟩
 have e:(!vs.isEmpty)=!xs.isEmpty:=by
  cases xs with
  | nil=>simp [eq_empty_of_size_eq_zero hs]
  | cons x r =>
   have:vs≠#[]:=by rintro rfl;simp at hs
   simp [this]
 rw [e]
 exact aw I (.bool _) h
theorem Jl{X:Cx}{A:Around}{cells:Cells}{Ψ:V->Cells->Prop}{a b:Bool}(h:Ψ (.bool (a == b)) cells):cR X A (compareOp .Eq) (.bool a) (.bool b) Ψ cells:=λv u own s I zq=>aC zq λr1 r2=>by
 apply RV.e0 r1 rfl ?_;apply RV.e0 r2 rfl ?_;exact PyProof.Rows.eq_bool (aw (t:=s.toks) I (.bool _) h)
noncomputable def gZ (s:Str):Bool:=Txt.slice s none (some 1) == ofString "."
noncomputable def nJ (rows:List (List Item)) (m:Nat) (o p:Nat):Nat:=if gZ (aB (rows.getD o []))&&Txt.slice (aB (rows.getD p [])) none (some 1) != ofString "." then m else 0
noncomputable def eN (rows:List (List Item)) (m:Nat) (p:Int):List Int:=(aT rows.length).filter λo=>!(o == p)&&d6 (aB (rows.getD o.toNat [])) ((rows.getD p.toNat []).map (·.2)) (nJ rows m o.toNat p.toNat)
noncomputable def hZ (rows:List (List Item)):V:=.list (rows.map λr=>.list (bH (r.map (·.2))))
noncomputable abbrev Cf (L:Addr) (cdv:Value):Env:=bY "_law_agrees" (ai kr) L 254 cdv
noncomputable abbrev G8 (xss rows:List (List Item)) (m:Nat):Loc:=[("arrived",gj xss),("names",gj rows),("tests",hZ rows),("more",.int m)]
section
variable {Y:Cx}{A:Around}{k:Nat}{c:Cells}{L:Addr}{cdv:Value}{rows:List (List Item)}{m:Nat}{Φ:MF->Loc->Cells->Prop}{l:Loc}
noncomputable abbrev Cg (xss rows:List (List Item)) (m:Nat) (gd:Addr) (b:Bool) (rs:List (List Int)) (rg:V):Loc:=("ring",rg)::("rounds",.list (vF rs))::("refused",.bool b)::("needs",.ref gd)::G8 xss rows m
theorem Cj{xss:List (List Item)}{gd:Addr}{b:Bool}{rs:List (List Int)}{rg:V}(G:G1 Y)(hA:Rm Y A (k+80))(O:An rows)(hm:m<=10)(h:∀ a,c a=none->Φ .next (("wanted",.ref a)::Cg xss rows m gd b rs rg) (upd c a (some (.dict (gdict (gN rows.length (eN rows m))))))):mS Y A (Cf L cdv) (exec ((aF kr).getD 1 default) (Cf L cdv)) Φ (Cg xss rows m gd b rs rg) c:=by
 have l8:=O.l8
 have hl:(fc (rows.map aB)).length=rows.length:=by simp [fc]
 apply B7 (n:=rows.length) (f:=eN rows m) ⟨by rfl,by decide +kernel,by rfl'⟩ rfl rfl hA.hh rfl (.inr (by decide +kernel)) (by exact zl l8 rfl) ?_ (λL' cs p=>?_) (λL' cs p hp=>?_) (λZ=>rfl) h
 ·apply az rfl G.range trivial (af (az rfl G.len trivial (af (m_var rfl (a_nil (c8 (by rw [hl];exact ag (by exact zl (by assumption) rfl)) (a_nil (fX ⟨?_,rfl,rfl⟩))))))))
  rw [hl]
 ·exact m_var rfl ⟨rfl,rfl,rfl⟩
 ·apply cD ⟨by rfl,by decide +kernel,by rfl'⟩ (n8.name ⟨by rfl,by decide +kernel,by rfl'⟩ rfl (.inl (by decide +kernel))) hA.hh ?_
  apply dk (az rfl G.range trivial (af (az rfl G.len trivial (af (m_var rfl (a_nil (c8 (by rw [hl];exact ag (by exact zl (by assumption) rfl)) (a_nil (fX ?_)))))))))
  rw [hl]
  apply (aV _ (uo hA.hh (by exact zl (by assumption) rfl)) (λZ Z=>trivial) ?_)
  have txt:∀ i,i<rows.length->(fc (rows.map aB))[i]?=some (.str (aB (rows.getD i [])))/\(rows.getD i []).length<=50/\(aB (rows.getD i [])).length<=100:=λi hi=>by
   apply ⟨?_,?_⟩
   ·unfold fc
    rw [map_map,getElem?_map,getD_eq_getElem?_getD,getElem?_eq_getElem hi];rfl
   ·apply O.short _ ?_
    rw [getD_eq_getElem?_getD,getElem?_eq_getElem hi];exact getElem_mem hi
  have ht:(rows.map λr=>V.list (bH (r.map (·.2))))[p]?=some (.list (bH ((rows.getD p []).map (·.2)))):=by
   rw [getElem?_map,getD_eq_getElem?_getD,getElem?_eq_getElem hp];rfl
  apply bq (txt p hp) λtp M0 PU=>?_
  apply bD (λv=>match v with | .int o=>!(o == (p:Int))&&d6 (aB (rows.getD o.toNat [])) ((rows.getD p []).map (·.2)) (nJ rows m o.toNat p) | _=>false) id (by rw [cT];exact ag (by exact zl (by assumption) rfl)) (lc:=[("place",.int (p:Int)),("names",gj rows),("tests",hZ rows),("more",.int m)]) rfl (λIo Ip i v hi=>?_) ?_
  ·(apply aC (fY hi) ?_;intro C7 bk;rw [bk])
   apply kj (dA (cX (aE (m_var rfl (m_var rfl (FN (ar ?_)))))))
   apply bq (txt i C7) λti PV O4=>?_
   by_cases q:((i:Int) != (p:Int))=true
   ·rw [if_pos q]
    apply jm (dU (az rfl G.tc (eR.keeps G.told) (af (m_item (m_var rfl (m_var rfl (dN ht (by rw [length_map];exact zl (by assumption) rfl) ?_)))))))
    apply af (m_item (m_var rfl (m_var rfl (dN ti (by rw [hl];exact zl (by assumption) rfl) ?_))))
    have mt:nJ rows m i p=if gZ (aB (rows.getD i []))&&Txt.slice (aB (rows.getD p [])) none (some 1) != ofString "." then m else 0:=rfl
    apply af (xB (v:=.int (nJ rows m i p)) (jK ?_) ?_)
    ·apply dA (cX (aE (cj (m_item (m_var rfl (m_var rfl (dN ti (by rw [hl];exact zl (by assumption) rfl) (bB (bC (m_int (bB (eF (ag (by exact zl (by assumption) rfl)) (aK (dB (ar ?_)))))))))))))))
     by_cases q1:(Txt.slice (aB (rows.getD i [])) none (some 1) == ofString ".")=true
     ·rw [if_pos q1]
      apply jm (aE (cj (m_item (m_var rfl (m_var rfl (dN tp (by rw [hl];exact zl (by assumption) rfl) (bB (bC (m_int (bB (eF (ag (by exact zl (by assumption) rfl)) (aK (xA (ar ?_))))))))))))))
      by_cases q2:(Txt.slice (aB (rows.getD p [])) none (some 1) != ofString ".")=true
      ·rw [if_pos q2]
       apply m_var rfl ⟨?_,rfl,rfl⟩
       rw [mt,if_pos (by unfold gZ;rw [q1,q2];rfl)]
      ·rw [if_neg q2]
       apply m_int ⟨?_,rfl,rfl⟩
       rw [mt,if_neg (by rw [eq_false_iff.mpr q2,Bool.and_false];decide)];rfl
     ·rw [if_neg q1,if_neg (by decide)]
      apply m_int ⟨?_,rfl,rfl⟩
      rw [mt,if_neg (by unfold gZ;rw [eq_false_iff.mpr q1,Bool.false_and];decide)];rfl
    ·have JX:nJ rows m i p<=10:=by rw [mt];split <;> omega
     apply a_nil (Eg 70 G (hA.le (le_add_left (70+3) (k+7))) (by rw [length_map];exact Hq M0 JX rfl) (by rw [length_map];exact zl M0 rfl) (ar (aX rfl rfl ?_ (λZ=>m_var rfl ⟨rfl,rfl,rfl⟩))) (by exact zl O4 rfl))
     show d6 _ _ _=(!((i:Int) == (p:Int))&&d6 (aB (rows.getD ((i:Int)).toNat [])) _ (nJ rows m ((i:Int)).toNat p))
     rw [show (!((i:Int) == (p:Int)))=true from q,Bool.true_and,toNat_natCast]
   ·rw [if_neg q]
    apply (aX rfl rfl ?_ (λZ=>m_var rfl ⟨rfl,rfl,rfl⟩))
    show false=(!((i:Int) == (p:Int))&&_)
    rw [show (!((i:Int) == (p:Int)))=false from eq_false_iff.mpr q,Bool.false_and]
  ·apply ⟨?_,rfl,rfl⟩
   rw [yh,yg _ (λo=>!(o == (p:Int))&&d6 (aB (rows.getD o.toNat [])) ((rows.getD p []).map (·.2)) (nJ rows m o.toNat p)) (λZ=>rfl)]
   rfl
end
end L1
namespace L1
structure zX(xss rows:List (List Item))(m n:Nat)(res:Option (List Int))(rs:List (List Int)):Prop where
 O5:G7 xss n res rs
 row:An rows
 more:m<=10
 len:rows.length=xss.length
 aq:∀ p∈aT rows.length,gJ xss p=eN rows m p
 G9:res.isSome=!(di (eN rows m) (aT rows.length)).2.isEmpty
 Fw:rs.map sortI=(di (eN rows m) (aT rows.length)).1
 ring:∀ q,res=some q->tA q (aT rows.length) (eN rows m)
structure tQ(X:Cx)(D:SA)(Cy:Addr):Prop where
 k:wJ X D Cy
 r:Lx X.K
theorem tQ.push{X:Cx}{D:SA}{Cy L:Addr}(K:tQ X D Cy):tQ (X.push L) D Cy:=⟨K.k.push,K.r⟩
theorem jE(n:Nat):(aT n).length=n:=by simp [aT]
theorem zY(rows:List (List Item))(m:Nat)(p:Int):(eN rows m p).length<=rows.length:=le_trans (length_filter_le _ _) (by rw [jE];exact le_refl _)
theorem Ck(a b:List Int):pw 1 (.list (Iz a)) (.list (Iz b)) (@BEq.beq (List Int) instBEqOfDecidableEq a b):=by
 have e:(@BEq.beq (List Int) instBEqOfDecidableEq a b)=(@BEq.beq (List Int) List.instBEq a b):=by rw [Bool.eq_iff_iff];simp
 rw [e]
 exact pw.ints 0 a b
theorem vf(f:Int->List Int):∀ (n:Nat) (left:List Int),(ej f n left).2.length<=left.length
 | 0,left=>le_refl _
 | n+1,left=>by
  unfold ej
  split
  ·exact le_refl _
  ·exact le_trans (vf f n (cB f left)) (length_filter_le _ _)
theorem rW{X:Cx}{A:Around}{k:Nat}{c:Cells}{D:SA}{Cy:Addr}{xss rows:List (List Item)}{m n:Nat}{res:Option (List Int)}{rs:List (List Int)}{Ψ:V->Cells->Prop}(K:tQ X D Cy)(hA:Rm X A (k+100))(Tb:mR c)(F:zX xss rows m n res rs)(h:∀ c',mR c'->Ψ (.bool true) c'):aD X A (.ref 254) [gj xss,gj rows,hZ rows,.int m] Ψ c:=by
 apply dm (names:=["arrived","names","tests","more"]) K.k.g.kr hA (λZ Z Z Z Z=>l4 λZ Z Z Z=>rfl) λL cdv A' bp=>?_
 have K':tQ (X.push L) D Cy:=K.push
 generalize X.push L=Y at bp K' ⊢
 have G':=K'.k.g
 have l8:=F.row.l8
 apply aa (qZ bp.hh (.inl rfl) (.inl rfl) (.inl rfl) (.inl rfl) (az rfl G'.Bc (eR.keeps G'.nC) (af (m_var rfl (a_nil (zW (k:=k+90) K'.k bp Tb F.O5 λc1 gd S1=>⟨_,_,_,_,rfl,?_⟩))))))
 apply aa (Cj (k:=k+19) (xss:=xss) G' bp F.row F.more λwd LX=>?_)
 have fK:gd≠wd:=λz=>by rw [<- z,S1.dict] at LX;exact dc LX
 have wK:∀ b,c1 b=some .tab->b≠wd:=λb e z=>by rw [z,LX] at e;exact bf e
 apply cL.gh (Gh.stop (ah _ _ _)) ?_
 rw [cg,jT]
 have hw:(upd c1 wd (some (.bF ((aT rows.length).map λk=>(k,V.list (Iz (eN rows m k))))))) wd=some (.bF ((aT rows.length).map λk=>(k,V.list (Iz (eN rows m k))))):=ah _ _ _
 have hg:(upd c1 wd (some (.bF ((aT rows.length).map λk=>(k,V.list (Iz (eN rows m k))))))) gd=some (.bF ((aT rows.length).map λk=>(k,V.list (Iz (gJ xss k))))):=by
  rw [ae _ fK,S1.dict,jT,F.len]
 have J6:mR (upd c1 wd (some (.bF ((aT rows.length).map λk=>(k,V.list (Iz (eN rows m k))))))):=⟨by rw [ae _ (wK _ S1.tabs.t)];exact S1.tabs.t,by rw [ae _ (wK _ S1.tabs.r)];exact S1.tabs.r,by rw [ae _ (wK _ S1.tabs.q)];exact S1.tabs.q⟩
 generalize upd c1 wd (some (.bF ((aT rows.length).map λk=>(k,V.list (Iz (eN rows m k))))))=c2 at hw hg J6 ⊢
 have Jm:=jE rows.length
 apply aa (qO bp.hh (.inl rfl) (.inl rfl) (az rfl G'.Bd (eR.keeps G'.s9) (af (m_var rfl (a_nil (zi (k:=k+97) G' bp hw (by lia) (λp Z=>le_trans (zY rows m p) (zl l8 rfl)) (ez _ _ rfl ?_)))))))
 have rX:=F.G9
 have Jn:=F.Fw
 have vd:=F.ring
 generalize GD:di (eN rows m) (aT rows.length)=pe at rX Jn ⊢
 have vE:pe.2.length<=10:=by rw [<- GD];exact le_trans (vf _ _ _) (le_of_eq_of_le Jm l8)
 apply aa (aL (pT ?_))
 apply jy (gz (m_var rfl (m_var rfl (DT hg hw (by have:=bp.un;lia) (ar ?_)))))
 rw [if_pos (all_eq_true.mpr λp hp=>beq_iff_eq.mpr (F.aq p hp))]
 have M1:(Iz pe.2).isEmpty=pe.2.isEmpty:=by cases pe.2 <;> rfl
 apply jy (gz (m_var rfl (az rfl G'.bool trivial (af (m_var rfl (a_nil (ve (by rw [ax];exact ag (zl (by assumption) rfl)) (Jl (ar ?_)))))))))
 rw [M1,if_pos (beq_iff_eq.mpr rX)]
 apply jy (gz (m_var rfl (m_var rfl (HS (n:=2) (pw.map Ck (rs.map sortI) pe.1) (by have:=bp.un;lia) (ar ?_)))))
 apply bR (by rw [Jn];exact @beq_self_eq_true _ (@List.instBEq (List Int) instBEqOfDecidableEq) (@List.instReflBEq _ instBEqOfDecidableEq _) _) ?_
 apply Bq (jK (dU (m_var rfl (mq (by rw [ax];exact ag (zl (by assumption) rfl)) ?_))))
 rw [M1]
 cases jV:res with
 | none =>
  rw [jV] at rX
  rw [<- rX]
  rw [if_neg (by decide)]
  apply gz (m_var (mv:=.none) (by rw [jV];rfl') (cx (g7 ?_)))
  exact h _ J6
 | some q =>
  rw [jV] at rX
  rw [<- rX]
  rw [if_pos rfl]
  apply az rfl G'.Gm (pW.keeps K'.r.1) (af (m_var (mv:=.list (Iz q)) (by rw [jV];rfl') (af (m_var rfl (a_nil (DY (k:=k+97) G' K'.r K'.k.t.2 bp J6.q hw (vd q jV) λc' hk=>h c' (J6.mono hk)))))))
end L1
namespace L1
noncomputable def tl (x:Str):List Nat:=x.cps.toList
noncomputable def hit (t:Bool×Str) (c:Nat):Bool:=!(Txt.contains t.2 ⟨#[c]⟩ == t.1)
noncomputable def tk:List Test->List Nat->Bool
 | [],s=>s.isEmpty
 | none::ts,s=>(List.range (s.length+1)).any λj=>tk ts (s.drop j)
 | some _::_,[]=>false
 | some t::ts,c::s=>hit t c&&tk ts s
theorem ey(x:Str):(tl x).length=x.length:=by unfold tl;rw [length_toList];rfl
theorem Ei{x:Str}{p:Nat}(h:p<x.length):(tl x).drop p=x.cps.getD p 0::(tl x).drop (p+1):=by
 unfold tl
 rw [List.drop_eq_getElem_cons (by rw [length_toList];exact h)]
 congr 1
 have h':p<x.cps.size:=h
 simp [getD,h']
theorem Ej{α:Type}{p:α->Bool}{a:α}{r:List α}(h:∀ q∈r,p q=true->p a=true):(a::r).any p=p a:=by
 rw [Bool.eq_iff_iff,any_eq_true]
 constructor
 ·(intro aM;apply aj aM ?_;clear aM;intro x hx hp)
  rcases mem_cons.mp hx with rfl | hx
  ·exact hp
  ·exact h x hx hp
 ·exact λhp=>(iDPP a mem_cons_self hp)
theorem tR{ts:List Test}{s:List Nat}{p q:Nat}(h:p<=q)(hk:tk (none::ts) (s.drop q)=true)(hq:q<=s.length):tk (none::ts) (s.drop p)=true:=by
 unfold tk at hk ⊢
 rw [any_eq_true] at hk ⊢
 (apply aj hk ?_;try clear hk;intro j hj hk)
 rw [mem_range,length_drop] at hj
 apply (iDPP (q - p+j) ?_ ?_)
 ·rw [mem_range,length_drop];exact zu h hq hj
 ·rw [drop_drop] at hk ⊢
  rw [show p+(q - p+j)=q+j by lia];exact hk
theorem oJ(name:Str):∀ (ts:List Test) (ps:List Nat),ps.Pairwise (·<·)->(∀ p∈ps,p<=name.length)->(ts.foldl (aS name) ps).any (· == name.length)=ps.any λp=>tk ts ((tl name).drop p)
 | [],ps,_,hl=>by
  show ps.any _=_
  rw [Bool.eq_iff_iff,any_eq_true,any_eq_true]
  apply exists_congr λp=>and_congr_right λhp=>?_
  have:=hl p hp
  unfold tk
  rw [beq_iff_eq,List.isEmpty_iff,List.drop_eq_nil_iff,ey];lia
 | none::ts,[],_,_=>by
  show (ts.foldl (aS name) []).any _=_
  rw [oJ name ts [] .nil (λp hp=>by cases hp)];rfl
 | none::ts,p::r,hs,hl=>by
  have hp:=hl p mem_cons_self
  rw [List.pairwise_cons] at hs
  rw [Ej (a:=p) (r:=r) (p:=λp=>tk (none::ts) ((tl name).drop p)) (λq hq hk=>tR (le_of_lt (hs.1 q hq)) hk (by rw [ey];exact hl q (mem_cons_of_mem _ hq)))]
  show (ts.foldl (aS name) ((List.range (name.length+1 - p)).map (p+·))).any _=_
  rw [oJ name ts _ (by rw [List.pairwise_map];exact List.pairwise_lt_range.imp λh=>by exact Nat.add_lt_add_left h p) (λq hq=>by
   (apply aj (mem_map.mp hq) ?_;intro j hj bk;rw [<- bk])
   rw [mem_range] at hj;exact ze hj),any_map]
  conv=>rhs;unfold tk
  rw [length_drop,ey,show name.length - p+1=name.length+1 - p by exact Eq.symm (Nat.sub_add_comm hp)]
  congr 1
  funext j
  show tk ts ((tl name).drop (p+j))=_
  rw [drop_drop]
 | some t::ts,ps,hs,hl=>by
  show (ts.foldl (aS name) ((ps.filter (iK name t)).map (·+1))).any _=_
  rw [oJ name ts _ (by rw [List.pairwise_map];exact (hs.filter _).imp λh=>by exact Nat.add_lt_add_right h 1) (λq hq=>by
   (apply aj (mem_map.mp hq) ?_;intro j hj bN;rw [<- bN])
   have:=(mem_filter.mp hj).2
   unfold iK at this
   rw [and_eq_true] at this
   have:=of_decide_eq_true this.1
   exact succ_le_of_lt this),any_map,List.any_filter]
  rw [Bool.eq_iff_iff,any_eq_true,any_eq_true]
  apply exists_congr λp=>and_congr_right λhp=>?_
  unfold iK
  by_cases q:p<name.length
  ·rw [Ei q,decide_eq_true q,Bool.true_and];rfl
  ·rw [decide_eq_false q,Bool.false_and,Bool.false_and]
   have e:(tl name).drop p=[]:=by rw [List.drop_eq_nil_iff,ey];exact le_of_not_lt q
   rw [e];rfl
theorem vg(ts:List Test)(name:Str):cA ts name=tk ts (tl name):=by
 unfold cA
 rw [oJ name ts [0] (List.pairwise_singleton _ _) (λp hp=>by rw [mem_singleton.mp hp];exact zero_le _)]
 show (_||false)=_
 rw [Bool.or_false];rfl
theorem iQ(ts:List Test)(c:Nat)(s:List Nat):tk (none::ts) (c::s)=(tk (none::ts) s||tk ts (c::s)):=by
 rw [Bool.or_comm]
 conv=>lhs;unfold tk
 rw [length_cons,List.range_succ_eq_map,any_cons,any_map]
 rfl
theorem tS(ts:List Test)(s:List Nat):tk (none::none::ts) s=tk (none::ts) s:=by
 induction s with
 | nil =>
  conv=>lhs;unfold tk
  rw [length_nil,show List.range (0+1)=[0] from rfl,any_cons,List.any_nil,Bool.or_false];rfl
 | cons c s ih=>rw [iQ,ih,iQ,<- Bool.or_assoc,Bool.or_self]
theorem qk{A B:List Test}(h:∀ s,tk A s=tk B s):∀ (P:List Test) (s:List Nat),tk (P++A) s=tk (P++B) s
 | [],s=>h s
 | none::P,s=>by
  show tk (none::(P++A)) s=tk (none::(P++B)) s
  unfold tk
  congr 1
  funext j
  exact qk h P _
 | some t::P,[]=>rfl
 | some t::P,c::s=>by
  show (_&&tk (P++A) s)=(_&&tk (P++B) s)
  rw [qk h P s]
theorem Ek(ps:List (Option (Option Str)))(d:Option (Option Str))(B:List Test)(s:List Nat):tk ((fm ps d).map kg++B) s=tk (ps.map kg++(kg d::B)) s:=by
 unfold fm
 split
 ·split
  ·rename_i h
   obtain ⟨ys,rfl⟩:∃ ys,ps=ys++[none]:=by
    rw [List.getLast?_eq_some_iff] at h
    exact h
   rw [map_append,append_assoc,append_assoc]
   exact qk (λs=>(tS B s).symm) _ s
  ·rw [map_append,append_assoc];rfl
 ·rw [map_append,append_assoc];rfl
theorem Ha(xs:List Item)(s:List Nat):tk (eY xs) s=tk (xs.map λx=>kg (bE x)) s:=by
 have key:∀ (ys:List Item) (ps:List (Option (Option Str))),tk ((ys.foldl (λps x=>fm ps (bE x)) ps).map kg) s=tk (ps.map kg++ys.map λx=>kg (bE x)) s:=by
  intro ys
  induction ys with
  | nil=>intro ps;rw [List.map_nil,append_nil];rfl
  | cons y ys ih =>
   intro ps
   rw [foldl_cons,ih,Ek];rfl
 exact key xs []
theorem zZ{x:Item}(h:x∈bc):kg (bE x)=x.2:=by
 have:=all_eq_true.mp p8 x h
 unfold tG at this
 cases e:bE x with
 | none=>rw [e] at this;exact (eq_of_beq this).symm
 | some o =>
  rw [e] at this
  cases o with
  | none=>exact (eq_of_beq this).symm
  | some s=>exact eq_of_beq (and_eq_true _ _ |>.mp this).1
theorem nK{xs:List Item}(h:∀ x∈xs,x∈bc)(name:Str):cA (eY xs) name=tk (xs.map (·.2)) (tl name):=by
 rw [vg,Ha]
 congr 1
 exact map_congr_left λx hx=>zZ (h x hx)
theorem lL(name:Str):∀ (ts:List Test) (m:Nat),d6 name ts m=tk ts (replicate m 46++tl name)
 | ts,0=>by rw [mP,vg];rfl
 | [],m+1=>rfl
 | none::ts,m+1=>by
  show (d6 name (none::ts) m||d6 name ts (m+1))=_
  rw [lL name (none::ts) m,lL name ts (m+1),replicate_succ,cons_append,iQ]
 | some t::ts,m+1=>by
  show (yf t&&d6 name ts m)=_
  rw [lL name ts m,replicate_succ,cons_append]
  rfl
end L1
namespace L1
theorem ql(x y:Str):tl (x++y)=tl x++tl y:=by
 show (x.cps++y.cps).toList=_
 rw [toList_append];rfl
theorem mV{x y:Str}(h:tl x=tl y):x=y:=PySem.Str.ext' (toList_inj.mp h)
noncomputable def jn (s:List Nat):List (List Nat)->List Nat
 | []=>[]
 | [x]=>x
 | x::y::r=>x++s++jn s (y::r)
theorem fg(s x:List Nat)(r:List (List Nat)):jn s (x::r)=x++r.flatMap (s++·):=by
 induction r generalizing x with
 | nil=>simp [jn]
 | cons y r ih=>rw [jn,ih,flatMap_cons];simp
theorem tT(s:Str)(ss:List Str):tl (join s ss)=jn (tl s) (ss.map tl):=by
 have e:join s ss=Str.join s ss:=glued_eq_join _ _
 rw [e]
 clear e
 induction ss with
 | nil=>rfl
 | cons x r ih =>
  cases r with
  | nil=>rfl
  | cons y r =>
   show tl (x++s++Str.join s (y::r))=_
   rw [ql,ql,ih];rfl
noncomputable def fl (ss:List Str):List Nat:=ss.flatMap tl
theorem vh(ss:List Str):tl (join (ofString "") ss)=fl ss:=by
 rw [tT]
 have e:tl (ofString "")=[]:=by decide +kernel
 rw [e]
 unfold fl
 cases ss with
 | nil=>rfl
 | cons x r=>rw [map_cons,fg,flatMap_cons,List.flatMap_map];rfl
section
variable {P:Array Nat->Nat->Bool}{e:Array Nat->Nat->Nat}{text:Array Nat}{repl:Str}
noncomputable def gk (P:Array Nat->Nat->Bool) (e:Array Nat->Nat->Nat) (text:Array Nat) (s:Nat):Option (Nat×Nat):=(ck (P text) text.size s).map λp=>(p,e text p)
theorem Cm{f d:Nat}(h:¬ d<text.size):fl (subF (gk P e) text repl f d)=[]:=by
 cases f with
 | zero=>rfl
 | succ f =>
  unfold subF gk
  rw [cU h]
  dsimp only [map_none]
  rw [if_neg h];rfl
theorem Cn{f d:Nat}(h:d<text.size)(hp:P text d=true):fl (subF (gk P e) text repl (f+1) d)=tl repl++fl (subF (gk P e) text repl f (e text d)):=by
 conv=>lhs;unfold subF
 have q:gk P e text d=some (d,e text d):=by unfold gk;rw [fj h hp];rfl
 rw [q]
 dsimp only
 rw [if_neg (lt_irrefl d)]
 rfl
theorem ext_cons{i j:Nat}(h:i<j)(h2:i<text.size):(text.extract i j).toList=text.getD i 0::(text.extract (i+1) j).toList:=by
 rw [toList_extract,toList_extract,List.extract_eq_take_drop,List.extract_eq_take_drop]
 rw [List.drop_eq_getElem_cons (by rw [length_toList];exact h2)]
 have:j - i=(j - (i+1))+1:=by exact zy h
 rw [this,List.take_succ_cons]
 simp [getD,h2]
theorem yj{f d:Nat}(h:d<text.size)(hp:P text d=false):fl (subF (gk P e) text repl (f+1) d)=text.getD d 0::fl (subF (gk P e) text repl (f+1) (d+1)):=by
 unfold subF
 have q:gk P e text d=gk P e text (d+1):=by unfold gk;rw [eH h hp]
 rw [q]
 cases hn:gk P e text (d+1) with
 | none =>
  dsimp only
  rw [if_pos h]
  have e1:fl [(⟨text.extract d text.size⟩:Str)]=(text.extract d text.size).toList:=by simp [fl,tl]
  rw [e1,ext_cons h h]
  by_cases h2:d+1<text.size
  ·rw [if_pos h2];simp [fl,tl]
  ·rw [if_neg h2]
   have:text.extract (d+1) text.size=#[]:=by
    apply eq_empty_of_size_eq_zero;rw [size_extract];exact zB h h2
   rw [this];rfl
 | some pe =>
  obtain ⟨p,e'⟩:=pe
  dsimp only
  have qD:d+1<=p:=by
   unfold gk at hn
   rw [map_eq_some_iff] at hn
   (apply aj hn ?_;try clear hn;intro q h1 h2)
   cases h2
   exact ku h1
  rw [if_pos (lt_of_succ_le qD:d<p)]
  have e1:∀ (i:Nat) (r:List Str),fl ([(⟨text.extract i p⟩:Str)]++r)=(text.extract i p).toList++fl r:=λi r=>by rfl
  rw [e1,ext_cons (lt_of_succ_le qD) h]
  by_cases h2:d+1<p
  ·rw [if_pos h2,e1];rfl
  ·rw [if_neg h2]
   have:text.extract (d+1) p=#[]:=by
    apply eq_empty_of_size_eq_zero;rw [size_extract];exact zB qD h2
   rw [this];rfl
end
theorem lM{text:Array Nat}{d:Nat}(h:d<text.size):text.toList.drop d=text.getD d 0::text.toList.drop (d+1):=by
 rw [List.drop_eq_getElem_cons (by rw [length_toList];exact h)]
 simp [getD,h]
noncomputable def bo:List Nat->List Nat
 | []=>[]
 | 13::10::r=>13::10::bo r
 | c::r=>if c=10\/c=13 then 13::10::bo r else c::bo r
theorem gm(r:List Nat):bo (13::10::r)=13::10::bo r:=by rw [bo]
theorem eZ{c:Nat}{r:List Nat}(h:c=10\/c=13)(h2:c=13->∀ r',r≠10::r'):bo (c::r)=13::10::bo r:=by
 rw [bo,if_pos h]
 intro r' e e2
 exact h2 e r' e2
theorem eB{c:Nat}{r:List Nat}(h:¬ (c=10\/c=13)):bo (c::r)=c::bo r:=by
 rw [bo,if_neg h]
 intro r' e
 exact absurd (.inr e) h
theorem lN:tl (ofString "\r\n")=[13,10]:=by decide +kernel
theorem lO(text:Array Nat):∀ (n f d:Nat),text.size - d<=n->text.size<f+d->fl (subF (gk i0 iD) text (ofString "\r\n") f d)=bo (text.toList.drop d)
 | n,f,d,hn,hf=>by
  by_cases h:d<text.size
  ·obtain ⟨f,rfl⟩:∃ g,f=g+1:=⟨f - 1,by lia⟩
   obtain ⟨n,rfl⟩:∃ g,n=g+1:=⟨n - 1,by lia⟩
   rw [lM h]
   cases hp:i0 text d with
   | true =>
    rw [Cn h hp,lN]
    have qD:text.getD d 0=10\/text.getD d 0=13:=by
     unfold i0 at hp
     rcases Bool.or_eq_true_iff.mp hp with q | q
     ·exact .inl (eq_of_beq q)
     ·exact .inr (eq_of_beq q)
    by_cases c:text.getD d 0=13/\d+1<text.size/\text.getD (d+1) 0=10
    ·have e:iD text d=d+2:=by unfold iD;rw [if_pos c]
     rw [e,lO text n f (d+2) (le_trans (Nat.pred_le _) (zp hn)) (by lia),c.1,lM c.2.1,c.2.2,gm];rfl
    ·have e:iD text d=d+1:=by unfold iD;rw [if_neg c]
     rw [e,lO text n f (d+1) (zp hn) (by lia),eZ qD];rfl
     intro GQ r' er
     apply c ⟨GQ,?_⟩
     by_cases h2:d+1<text.size
     ·rw [lM h2] at er
      exact ⟨h2,(List.cons.inj er).1⟩
     ·rw [List.drop_eq_nil_of_le (by rw [length_toList];exact le_of_not_lt h2)] at er;cases er
   | false =>
    rw [yj h hp,lO text n (f+1) (d+1) (zp hn) (lt_succ_of_lt hf),eB]
    intro q
    unfold i0 at hp
    rcases q with q | q <;> rw [q] at hp <;> simp at hp
  ·rw [Cm h,List.drop_eq_nil_of_le (by rw [length_toList];exact le_of_not_lt h)];rfl
theorem El(x:Str):tl (ends x)=bo (tl x):=by
 unfold ends
 rw [vh]
 have:=lO x.cps x.cps.size (x.length+1) 0 (sub_le x.cps.size 0) (by show x.length<_;exact lt_add_one x.length)
 rw [drop_zero] at this
 exact this
noncomputable def oK:Bool->List Nat->List Nat
 | _,[]=>[]
 | b,c::r=>if b=true/\c=46 then 46::46::oK false r else c::oK (c == 10) r
noncomputable def bol (text:Array Nat) (d:Nat):Bool:=d == 0||text.getD (d - 1) 0 == 10
theorem En:tl (ofString "..")=[46,46]:=by decide +kernel
theorem mW(text:Array Nat):∀ (n f d:Nat),text.size - d<=n->text.size<f+d->fl (subF (gk kZ λZ p=>p+1) text (ofString "..") f d)=oK (bol text d) (text.toList.drop d)
 | n,f,d,hn,hf=>by
  by_cases h:d<text.size
  ·obtain ⟨f,rfl⟩:∃ g,f=g+1:=⟨f - 1,by lia⟩
   obtain ⟨n,rfl⟩:∃ g,n=g+1:=⟨n - 1,by lia⟩
   rw [lM h]
   have hb:bol text (d+1)=(text.getD d 0 == 10):=by
    unfold bol
    rw [show (d+1 == 0)=false from by simp,Bool.false_or,Nat.add_sub_cancel]
   cases hp:kZ text d with
   | true =>
    rw [Cn h hp,En]
    have qD:bol text d=true/\text.getD d 0=46:=by
     unfold kZ at hp
     exact ⟨(and_eq_true_iff.mp hp).1,eq_of_beq (and_eq_true_iff.mp hp).2⟩
    rw [mW text n f (d+1) (zp hn) (by lia),hb,qD.2,oK,if_pos ⟨qD.1,rfl⟩]
    rfl
   | false =>
    rw [yj h hp,mW text n (f+1) (d+1) (zp hn) (lt_succ_of_lt hf),hb,oK,if_neg]
    intro q
    unfold kZ at hp
    unfold bol at q
    rw [q.1,q.2] at hp;simp at hp
  ·rw [Cm h,List.drop_eq_nil_of_le (by rw [length_toList];exact le_of_not_lt h)];rfl
theorem Co(x:Str):tl (stuff x)=oK true (tl x):=by
 unfold stuff
 rw [vh]
 have:=mW x.cps x.cps.size (x.length+1) 0 (sub_le x.cps.size 0) (by show x.length<_;exact lt_add_one x.length)
 rw [drop_zero] at this
 exact this
theorem vi(x:Str):tl (quote x)=oK true (bo (tl x)):=by
 unfold quote;rw [Co,El]
def Plain(r:List Nat):Prop:=∀ c∈r,c≠10/\c≠13
theorem gL{r:List Nat}(h:Plain r)(t:List Nat):bo (r++t)=r++bo t:=by
 induction r with
 | nil=>rfl
 | cons c r ih =>
  have hc:=h c (.head _)
  rw [cons_append,eB (not_or.mpr hc),ih λx hx=>h x (.tail _ hx)];rfl
theorem rY{r:List Nat}(h:Plain r)(t:List Nat):oK false (r++t)=r++oK false t:=by
 induction r with
 | nil=>rfl
 | cons c r ih =>
  have hc:=h c (.head _)
  rw [cons_append,oK,if_neg (of_decide_eq_false rfl),show (c == 10)=false from by simpa using hc.1,ih λx hx=>h x (.tail _ hx)];rfl
noncomputable def dd:List Nat->List Nat
 | 46::r=>46::46::r
 | r=>r
theorem wM(r:List Nat):dd (46::r)=46::46::r:=by rw [dd]
theorem vj{c:Nat}{r:List Nat}(h:c≠46):dd (c::r)=c::r:=by
 rw [dd]
 intro r' e
 exact h (List.cons.inj e).1
theorem Cp{t:List Nat}(h:∀ c r,t=c::r->c≠46):oK true t=oK false t:=by
 cases t with
 | nil=>rfl
 | cons c r =>
  rw [oK,oK,if_neg (λz=>h c r rfl z.2),if_neg (λz=>(nomatch z.1))]
theorem yk{r:List Nat}(h:Plain r){t:List Nat}(ht:∀ c r,t=c::r->c≠46):oK true (r++t)=dd r++oK false t:=by
 cases r with
 | nil=>exact Cp ht
 | cons c r =>
  have hc:=h c (.head _)
  have hr:Plain r:=λx hx=>h x (.tail _ hx)
  rw [cons_append,oK]
  by_cases q:c=46
  ·rw [if_pos ⟨rfl,q⟩,rY hr,q,wM];rfl
  ·rw [if_neg (λz=>q z.2),vj q,show (c == 10)=false from by simpa using hc.1,rY hr];rfl
theorem Cq(t:List Nat):oK false (13::10::t)=13::10::oK true t:=by
 rw [oK,if_neg (of_decide_eq_false rfl),oK]
 rw [if_neg (of_decide_eq_false rfl)];rfl
theorem mX:∀ (w t:List Nat),(w.getLast?=some 13->∀ r,t≠10::r)->bo (w++t)=bo w++bo t
 | [],t,_=>rfl
 | [c],t,h=>by
  by_cases q:c=10\/c=13
  ·have e:bo ([c]++t)=13::10::bo t:=eZ q λz=>by subst z;exact h rfl
   rw [e,eZ (r:=[]) q (λZ=>by exact λr'=>Ne.symm (List.cons_ne_nil 10 r'))];rfl
  ·have e:bo ([c]++t)=c::bo t:=eB q
   rw [e,eB q];rfl
 | c::d::w,t,h=>by
  have h1:(d::w).getLast?=some 13->∀ r,t≠10::r:=λz=>h (by rw [List.getLast?_cons_cons];exact z)
  by_cases q:c=13/\d=10
  ·obtain ⟨rfl,rfl⟩:=q
   have h2:w.getLast?=some 13->∀ r,t≠10::r:=λz=>h1 (by
    cases w with
    | nil=>exact bf z
    | cons x w=>rw [List.getLast?_cons_cons];exact z)
   show bo (13::10::(w++t))=bo (13::10::w)++bo t
   rw [gm,gm,mX w t h2];rfl
  ·have ih:=mX (d::w) t h1
   by_cases q2:c=10\/c=13
   ·have hd:∀ x:List Nat,c=13->∀ r',d::x≠10::r':=λx z r' e=>q ⟨z,(List.cons.inj e).1⟩
    show bo (c::(d::(w++t)))=_
    rw [eZ q2 (hd _),eZ q2 (hd _)]
    show 13::10::bo ((d::w)++t)=_
    rw [ih];rfl
   ·show bo (c::(d::(w++t)))=_
    rw [eB q2,eB q2]
    show c::bo ((d::w)++t)=_
    rw [ih];rfl
theorem rZ{rs:List (List Nat)}:∀ c r,rs.flatMap ([13,10]++·)=c::r->c≠46:=by
 intro c r e
 cases rs with
 | nil=>cases e
 | cons x rs=>rw [flatMap_cons] at e;rw [<- (List.cons.inj e).1];decide
theorem qm:∀ {rs:List (List Nat)} (_:∀ r∈rs,Plain r),bo (rs.flatMap ([13,10]++·))=rs.flatMap ([13,10]++·)
 | [],_=>rfl
 | r::rs,h=>by
  rw [flatMap_cons,append_assoc]
  show bo (13::10::(r++_))=_
  rw [gm,gL (h r (.head _)),qm λx hx=>h x (.tail _ hx)];rfl
theorem Cr{rs:List (List Nat)}(hr:∀ r∈rs,Plain r):bo (jn [13,10] rs)=jn [13,10] rs:=by
 cases rs with
 | nil=>rfl
 | cons r rs=>rw [fg,gL (hr r (.head _)),qm λx hx=>hr x (.tail _ hx)]
theorem vm:∀ (rs:List (List Nat)),(∀ r∈rs,Plain r)->oK false (rs.flatMap ([13,10]++·))=(rs.map dd).flatMap ([13,10]++·)
 | [],_=>rfl
 | r::rs,h=>by
  rw [flatMap_cons,map_cons,flatMap_cons,append_assoc]
  show oK false (13::10::(r++_))=_
  rw [Cq,yk (h r (.head _)) rZ,vm rs λx hx=>h x (.tail _ hx)];rfl
theorem Cs{rs:List (List Nat)}(h:∀ r∈rs,Plain r):oK true (jn [13,10] rs)=jn [13,10] (rs.map dd):=by
 cases rs with
 | nil=>rfl
 | cons r rs =>
  rw [fg,map_cons,fg,yk (h r (.head _)) rZ,vm rs λx hx=>h x (.tail _ hx)]
theorem Eo(s r:List Nat){rs:List (List Nat)}(hn:rs≠[]):jn s (rs++[r])=jn s rs++(s++r):=by
 cases rs with
 | nil=>exact absurd rfl hn
 | cons x rs=>rw [cons_append,fg,fg,flatMap_append,append_assoc];simp
end L1
namespace L1
theorem Hb{B:Nat}:∀ (rs:List (List Nat)),(∀ r∈rs,r.length<=B)->(jn [13,10] rs).length<=rs.length * (B+2)
 | [],_=>zero_le _
 | r::rs,h=>by
  rw [fg,length_append]
  have:∀ (q:List (List Nat)),(∀ r∈q,r.length<=B)->(q.flatMap ([13,10]++·)).length<=q.length * (B+2):=by
   intro q
   induction q with
   | nil=>intro Z;simp
   | cons x q ih =>
    intro h
    rewrite [flatMap_cons,length_append,length_cons,Nat.succ_mul]
    have:=h x (.head _)
    have:=ih λy hy=>h y (.tail _ hy)
    have:([13,10]++x).length=x.length+2:=by exact Eq.symm (Nat.add_succ x.length 1)
    lia
  have h1:=this rs λy hy=>h y (.tail _ hy)
  have h2:=h r (.head _)
  rw [length_cons,Nat.succ_mul];lia
theorem Ct{B:Nat}:∀ (xs:List Nat),(∀ x∈xs,x<=B)->xs.sum<=xs.length * B
 | [],_=>by exact le_of_ble_eq_true rfl
 | x::xs,h=>by
  have:=Ct xs λy hy=>h y (.tail _ hy)
  have:=h x (.head _)
  rw [List.sum_cons,length_cons,Nat.succ_mul];lia
open PySem.StrLaws Builtin.Str in
theorem wN(x:Str)(k:Nat):At x (ofString "\r\n") x.length k↔∃ t,(tl x).drop k=13::10::t:=by
 have e2:(ofString "\r\n").length=2:=by decide +kernel
 have e3:(ofString "\r\n").cps.toList=[13,10]:=lN
 have el:(tl x).length=x.length:=ey x
 unfold At
 rw [subAt_eq,e2,e3]
 show _/\((tl x).drop k).take 2 == [13,10]↔_
 have hl:((tl x).drop k).length=x.length - k:=by rw [length_drop,el]
 constructor
 ·(intro dH;apply aC dH ?_;clear dH;intro h1 h2)
  have h2:=eq_of_beq h2
  revert h2
  rcases (tl x).drop k with _ | ⟨a,_ | ⟨b,t⟩⟩ <;> intro h2 <;> simp at h2
  exact (bJ t (by rw [h2.1,h2.2]))
 ·(intro eC;apply bw eC ?_;clear eC;intro t ht)
  rw [ht] at hl ⊢
  simp at hl
  exact ⟨by lia,by simp⟩
open PySem.StrLaws Builtin.Str in
theorem qn(x:Str):∀ (rs:List (List Nat)) (r:List Nat) (a:Nat) (Cu:List Nat) (f:Nat),ChainG x (ofString "\r\n") x.length a Cu f->(∀ k,f<=k->¬ At x (ofString "\r\n") x.length k)->(∀ q∈r::rs,Plain q)->(tl x).drop a=jn [13,10] (r::rs)->(partsFrom x 2 a Cu).map tl=r::rs
 | rs,r,a,Cu,f,hc,hf,hp,hd=>by
  have e2:(ofString "\r\n").length=2:=by decide +kernel
  have el:(tl x).length=x.length:=ey x
  have sub:∀ i j,tl (strSub x i j)=((tl x).drop i).take (j - i):=λi j=>strSub_toList x i j
  have later:∀ c,a<=c->(tl x).drop c=((tl x).drop a).drop (c - a):=λc h=>by rw [drop_drop];congr 1;exact Eq.symm (Nat.add_sub_of_le h)
  rw [fg] at hd
  have inside:∀ c,a<=c->c<a+r.length->¬ At x (ofString "\r\n") x.length c:=λc h1 h2 hA=>by
   apply bw ((wN x c).mp hA) λt ht=>?_
   rw [later c h1,hd,drop_append_of_le_length (by lia)] at ht
   have h3:r.drop (c - a)≠[]:=by intro e;have:=congrArg List.length e;simp at this;lia
   cases hq:r.drop (c - a) with
   | nil=>exact h3 hq
   | cons y q =>
    rw [hq] at ht
    have hy:y=13:=(List.cons.inj ht).1
    have:y∈r:=List.mem_of_mem_drop (by rw [hq];exact .head _)
    exact (hp r (.head _) y this).2 hy
  cases rs with
  | nil =>
   rw [List.flatMap_nil,append_nil] at hd
   have Gq:x.length - a=r.length:=by rw [<- el,<- length_drop,hd]
   have no:∀ c,a<=c->¬ At x (ofString "\r\n") x.length c:=λc h1 hA=>by
    by_cases h:c<a+r.length
    ·exact inside c h1 h hA
    ·apply bw ((wN x c).mp hA) λt ht=>?_
     rw [later c h1,hd,List.drop_eq_nil_of_le (by lia)] at ht
     cases ht
   cases Cu with
   | nil =>
    show [tl (strSub x a x.length)]=[r]
    rw [sub,hd,Gq,take_length]
   | cons c q=>exact absurd hc.2.1 (no c hc.1)
  | cons r2 rs =>
   have hA:At x (ofString "\r\n") x.length (a+r.length):=(wN x _).mpr (bJ (r2++rs.flatMap ([13,10]++·))  (by
    rw [later _ (le_add_right a r.length),hd,flatMap_cons,show a+r.length - a=r.length by exact add_sub_self_left a r.length,drop_append_of_le_length (le_refl _),List.drop_length];exact List.nil_append ([13,10]++r2++List.flatMap (λx=>[13,10]++x) rs)))
   cases Cu with
   | nil =>
    have e:f=a:=hc
    exact absurd hA (hf _ (Nat.le.intro (congrFun (congrArg HAdd.hAdd hc) r.length)))
   | cons c q =>
    apply dj hc λc1 c2 c3 c4=>?_
    have ec:c=a+r.length:=by
     rcases Nat.lt_trichotomy c (a+r.length) with z | z | z
     ·exact absurd c2 (inside c c1 z)
     ·exact z
     ·exact absurd hA (c3 _ (le_add_right a r.length) z)
    rw [e2] at c4
    have hd2:(tl x).drop (c+2)=jn [13,10] (r2::rs):=by
     rw [later _ (Nat.le_add_right_of_le c1),hd,ec,show a+r.length+2 - a=r.length+2 by exact Eq.symm (Nat.eq_sub_of_add_eq' rfl),<- drop_drop,drop_append_of_le_length (le_refl _),List.drop_length,fg,flatMap_cons];rfl
    have ih:=qn x rs r2 (c+2) q f c4 hf (λy hy=>hp y (.tail _ hy)) hd2
    show tl (strSub x a c)::(partsFrom x 2 (c+2) q).map tl=_
    rw [ih,sub,hd,ec,show a+r.length - a=r.length by exact add_sub_self_left a r.length,List.take_append_of_le_length (le_refl _),take_length]
theorem qo:∀ {xs ys:List Str},xs.map tl=ys.map tl->xs=ys
 | [],[],_=>rfl
 | [],y::ys,h=>by simp at h
 | x::xs,[],h=>by simp at h
 | x::xs,y::ys,h=>by
  rw [map_cons,map_cons] at h
  rw [mV (List.cons.inj h).1,qo (List.cons.inj h).2]
open PySem.StrLaws Builtin.Str in
theorem wO{x:Str}{rows:List Str}(hr:∀ r∈rows.map tl,Plain r)(hn:rows≠[])(h:tl x=jn [13,10] (rows.map tl)) :
  partsBetween x (occurrences x (ofString "\r\n") 0 x.length (x.length+1)) (ofString "\r\n").length=rows:=by
 have e2:(ofString "\r\n").length=2:=by decide +kernel
 apply aj (occ_tight x (ofString "\r\n") (by rw [e2];exact le_of_ble_eq_true rfl)) λf h1 h2=>?_
 rw [partsBetween_eq,e2]
 apply qo
 cases rows with
 | nil=>exact absurd rfl hn
 | cons r rs=>exact qn x (rs.map tl) (tl r) 0 _ f h1 h2 hr (by rw [drop_zero];exact h)
end L1
namespace L1
noncomputable def qp:List Str:=[ofString "\r\n",ofString "\n",ofString "\r"]
noncomputable def endAt (total:Int) (j:Nat):Str:=qp.getD ((total.fdiv (3 ^ j)).fmod 3).toNat default
noncomputable def ie (total:Int) (j:Nat) (whole:Str):Str:=if (endAt total j == ofString "\n"&&Txt.slice whole (some (-1)) none == ofString "\r")=true then ofString "\r\n" else endAt total j
noncomputable def bK (total:Int) (texts:List Str):Nat->Str
 | 0=>texts.getD 0 default
 | j+1=>bK total texts j++(ie total j (bK total texts j)++texts.getD (j+1) default)
theorem Ep{n k:Int}{xs:List V}(hk:0<k)(hn:(xs.length:Int)=k)(hs:xs.length<=1000):seqIndex? (n.fmod k) xs.length=some (n.fmod k).toNat:=by
 apply aC (dD (n:=n) hk) λh1 h2=>?_
 have e:=kX (j:=(n.fmod k).toNat) (n:=xs.length) (zn h1 h2 hn)
 rwa [toNat_of_nonneg h1] at e
theorem z3:∀ j,j<3->(qp.getD j default).length<=2:=by decide +kernel
theorem mY(total:Int)(j:Nat):(endAt total j).length<=2:=z3 _ (zn (dD (by decide)).1 (dD (by decide)).2 rfl)
theorem z4(total:Int)(j:Nat)(w:Str):(ie total j w).length<=2:=by
 unfold ie;split
 ·decide +kernel
 ·exact mY total j
theorem qq{texts:List Str}(hs:∀ t∈texts,t.length<=100)(i:Nat):(texts.getD i default).length<=100:=by
 rw [getD_eq_getElem?_getD]
 cases e:texts[i]? with
 | none=>exact zero_le _
 | some t=>exact hs t (mem_of_getElem? e)
theorem qr{total:Int}{texts:List Str}(hs:∀ t∈texts,t.length<=100)(j:Nat):(bK total texts j).length<=102 * (j+1):=by
 induction j with
 | zero=>exact le_trans (qq hs 0) (by decide)
 | succ j ih =>
  have a:=z4 total j (bK total texts j)
  have b:=qq hs (j+1)
  have e:(bK total texts (j+1)).length=(bK total texts j).length+((ie total j (bK total texts j)).length+(texts.getD (j+1) default).length):=by
   show (_++(_++_):Str).length=_
   rw [strLen_append,strLen_append]
  lia
theorem wQ:∀ j,j<18->((3:Int) ^ j).natAbs<1073741824/\(3:Int) ^ j≠0:=by decide +kernel
theorem Cv{texts:List Str}{i:Nat}(h:i<texts.length):(fc texts)[i]?=some (.str (texts.getD i default)):=by
 unfold fc
 rw [getElem?_map,getD_eq_getElem?_getD,getElem?_eq_getElem h];rfl
theorem Er{X:Cx}{A:Around}{k:Nat}{cells:Cells}{texts:List Str}{total:Int}{Ψ:V->Cells->Prop}(G:G1 X)(hA:Rm X A (k+1))(h0:1<=texts.length)(hz:texts.length<=10)(hs:∀ t∈texts,t.length<=100)(h:Ψ (.str (bK total texts (texts.length - 1))) cells):aD X A (.ref 213) [.list (fc texts),.int total] Ψ cells:=by
 apply dm (names:=["texts","total"]) G.text hA (λZ Z Z Z Z=>l2 λZ Z=>rfl) λL cdv A' bp=>?_
 have G':G1 (X.push L):=G
 generalize X.push L=Y at bp G' ⊢
 have Eh:(fc texts).length<=1000000:=by simp [fc];exact zl (by assumption) rfl
 apply aa (ao (.inl rfl) (m_item (m_var rfl (m_int (dN (j:=0) (Cv h0) Eh ?_)))))
 have er:rangeSize 1 texts.length 1=((texts.length - 1:Nat):Int):=by rw [rangeSize_one];split <;> first | exact Ng (by assumption) | exact Nh (by assumption)
 apply aa (dC (bind:=λv l=>("place",v)::l) (dk (az rfl G'.range trivial (af (m_int (af (az rfl G'.len trivial (af (m_var rfl (a_nil (c8 (ag Eh) (a_nil (pk ?_)))))))))))))
 rw [show (fc texts).length=texts.length by simp [fc]]
 apply (iDPP _ (pb bp.hh (by unfold Builtin.Range.small;rw [er];simp [rangeFitsLong];lia) (by rw [er];exact natCast_nonneg (texts.length - 1))) ?_)
 rw [er,toNat_natCast]
 apply (dS (λi=>[("whole",.str (bK total texts i)),("texts",.list (fc texts)),("total",.int total)]) (λi c=>c=cells) (⟨Sub.rfl,rfl⟩) (λv hv=>dW (.inl rfl)) (λv hv l l' hs=>Sub.cons hs) (λi v c hv hc=>?_) (λl c hl hc=>?_))
 ·rw [<- hc]
  have G6:i<texts.length - 1/\v=.int ((i+1:Nat):Int):=by
   unfold aQ at hv
   rw [getElem?_map,map_eq_some_iff] at hv
   (apply aj hv ?_;try clear hv;intro j hj aM;subst aM)
   have:=List.getElem?_eq_some_iff.mp hj
   obtain ⟨h1,h2⟩:=this
   simp at h1 h2
   subst h2
   exact ⟨h1,by congr 1;lia⟩
  (apply aC G6 ?_;try clear G6;intro hi bk;subst bk)
  have hp:=wQ i (by omega)
  have e1:((i+1:Nat):Int) - 1=(i:Nat):=by exact Int.sub_eq_iff_eq_add.mpr rfl
  apply aa (ao (.inl rfl) (m_item (cZ (af (aK (af (aK (af (aK (a_nil ⟨ag (by show 3<=_;decide),?_⟩))))))))))
  apply aY (aY (m_var rfl (aY (m_int (aY (m_var rfl (m_int (kW ?_))))))))
  rw [e1]
  apply ER (natCast_nonneg i) (by lia) (by decide) (AK ?_ ?_ (m_int (pg (by decide) ?_)))
  ·rw [toNat_natCast];exact hp.2
  ·rw [toNat_natCast];exact PyProof.noPylong_small hp.1
  rw [toNat_natCast]
  (apply aC (dD (n:=total.fdiv (3 ^ i)) (k:=3) (by decide)) ?_;intro h1 h2)
  apply iy (by omega) (by omega) (Ep (k:=3) (by decide) rfl (by show 3<=1000;decide)) (x:=.str (endAt total i)) ?_ ?_
  ·have hx:∀ j,j<3->([V.str (ofString "\r\n"),.str (ofString "\n"),.str (ofString "\r")]:List V)[j]?=some (.str (qp.getD j default)):=by
    intro j hj
    apply (congrArg (λl:List V=>l[j]?) (a₂:=qp.map V.str) rfl).trans ?_
    rw [getElem?_map,getD_eq_getElem?_getD,getElem?_eq_getElem hj];rfl
   exact hx _ ((toNat_lt h1).mpr h2)
  have M3:=qr (total:=total) hs i
  have last:∀ (e:Str),e.length<=2->bK total texts (i+1)=bK total texts i++(e++texts.getD (i+1) default)->mS Y A' (bY "_law_text" (ai text) L 213 cdv) (execs ((aF ((aF text).getD 1 default)).drop 2) (bY "_law_text" (ai text) L 213 cdv)) (mi (λl c'=>Sub [("whole",.str (bK total texts (i+1))),("texts",.list (fc texts)),("total",.int total)] l/\c'=c) (yA Y A' (bY "_law_text" (ai text) L 213 cdv) ((aF text).drop 2) (Back Ψ))) [("end",.str e),("whole",.str (bK total texts i)),("texts",.list (fc texts)),("total",.int total),("place",.int ((i+1:Nat):Int))] c:=by
   intro e he ew
   have hb:=qq hs (i+1)
   apply aa (eA rfl (mv:=.str (bK total texts i)) rfl (aY (m_var rfl (m_item (m_var rfl (m_var rfl (dN (Cv (Nat.add_lt_of_lt_sub hi)) Eh (mr (ag (Hq he hb rfl)) (tq (ag (by rw [strLen_append];lia)) ?_)))))))))
   rw [<- ew]
   exact au ⟨Sub.put rfl (Sub.put rfl (Sub.put rfl Sub.nil)),rfl⟩
  have LY:bK total texts (i+1)=bK total texts i++(ie total i (bK total texts i)++texts.getD (i+1) default):=rfl
  apply aa (bt (dA (cX (aE (m_var rfl (aK (dB (ar ?_))))))))
  by_cases hb:(endAt total i == ofString "\n")=true
  ·rw [if_pos hb]
   apply jm (aE (cj (m_var rfl (bC (m_un (m_int (o_neg (bB (bB (eF (ag (by lia)) (aK (dB (ar ?_)))))))))))))
   by_cases Al:(Txt.slice (bK total texts i) (some (-1)) none == ofString "\r")=true
   ·rw [if_pos Al]
    apply aa (ao (.inl rfl) (aK (au ?_)))
    apply cL.le (Sub.of ?_) (last (ofString "\r\n") (by decide +kernel) ?_)
    ·exact (oy rfl rfl rfl rfl rfl trivial)
    ·rw [LY];unfold ie;rw [if_pos (by rw [hb,Al];rfl)]
   ·rw [if_neg Al]
    apply au (cL.le (Sub.of ?_) (last (endAt total i) (mY _ _) ?_))
    ·exact (oy rfl rfl rfl rfl rfl trivial)
    ·rw [LY];unfold ie;rw [if_neg (by rw [eq_false_iff.mpr Al,Bool.and_false];decide)]
  ·rw [if_neg hb]
   apply au (cL.le (Sub.of ?_) (last (endAt total i) (mY _ _) ?_))
   ·exact (oy rfl rfl rfl rfl rfl trivial)
   ·rw [LY];unfold ie;rw [if_neg (by rw [eq_false_iff.mpr hb,Bool.false_and];decide)]
 ·rw [hc]
  apply aa (aL (m_var (mv:=.str (bK total texts (texts.length - 1))) (hl _ _ ?_) h))
  dsimp only
  rw [show (aQ 1 1 (texts.length - 1)).length=texts.length - 1 by simp [aQ]]
  rfl'
end L1
namespace L1
noncomputable def iR:Nat->Str->Str
 | 0,x=>x
 | n+1,x=>quote (iR n x)
noncomputable def Cw (xs:List Int) (lo hi st:Option Int):List Int:=(sliceRange (sliceBounds lo hi st xs.length).1 (sliceBounds lo hi st xs.length).2.1 (sliceBounds lo hi st xs.length).2.2).filterMap (xs[·]?)
theorem wR(xs:List Int)(lo hi st:Option Int):iZ (Iz xs) lo hi st=Iz (Cw xs lo hi st):=by
 unfold iZ Cw Iz
 rw [length_map,List.map_filterMap]
 congr 1
 funext i
 rw [getElem?_map]
noncomputable def numAt (aW:List Int) (p:Nat):Int:=((Cw aW (some p) (some 45) (some 9)).sum).fmod (10 ^ 6)
noncomputable def numsOf (aW:List Int):List Int:=(List.range (min 9 aW.length)).map (numAt aW)
theorem z5(aW:List Int):(((nats (min 9 aW.length)).filter λZ=>true).map λv=>match v with | .int p=>V.int (numAt aW p.toNat) | _=>.none)=Iz (numsOf aW):=by
 unfold nats numsOf Iz
 rw [filter_eq_self.mpr (λZ Z=>rfl),map_map,map_map];rfl
noncomputable def bA (ns:List Int):Nat:=1+((ns.sum.fdiv 5).fmod 3).toNat
noncomputable def dK:Item:=it "." false "."
noncomputable def bT (m:Nat) (s:Str):Str:=(if gZ s then mul (ofString ".") (m:Int) else ofString "")++s
noncomputable def du (m:Nat) (rows:List (List Item)):List (List Item):=rows.map λr=>if gZ (aB r) then replicate m dK++r else r
noncomputable def namesOf (ns:List Int):List Str:=(rowsOf ns).map aB
noncomputable def lP (ns:List Int):Str:=bK ns.sum (namesOf ns) ((namesOf ns).length - 1)
noncomputable def cQ (ns:List Int):Str:=join (ofString "\r\n") ((namesOf ns).map (bT (bA ns)))
def dM(ns:List Int):Prop :=
 (An (rowsOf ns)) /\
 (1<=(rowsOf ns).length) /\
 (∀ j,j<=bA ns->(iR j (lP ns)).length<=100000) /\
 (iR (bA ns) (lP ns)=cQ ns) /\
 ((cQ ns).length<=100000) /\
 ((decide ((cQ ns).length<(ofString "\r\n").length)||decide (Builtin.Str.strKind (cQ ns)<Builtin.Str.strKind (ofString "\r\n")))=false) /\
 ((Builtin.Str.occurrences (cQ ns) (ofString "\r\n") 0 (cQ ns).length ((cQ ns).length+1)).isEmpty=false) /\
 (Builtin.Str.partsBetween (cQ ns) (Builtin.Str.occurrences (cQ ns) (ofString "\r\n") 0 (cQ ns).length ((cQ ns).length+1)) (ofString "\r\n").length=(du (bA ns) (rowsOf ns)).map aB) /\
 ((((namesOf ns).map (bT (bA ns))).map (·.length)).sum<=100000) /\
 (∃ n res rs,zX (rowsOf ns) (rowsOf ns) 0 n res rs) /\
 (∃ n res rs,zX (du (bA ns) (rowsOf ns)) (rowsOf ns) (bA ns) n res rs)
theorem dM.ok{ns:List Int}(S:dM ns):An (rowsOf ns):=S.1
theorem dM.pos{ns:List Int}(S:dM ns):1<=(rowsOf ns).length:=S.2.1
theorem dM.BS{ns:List Int}(S:dM ns):∀ j,j<=bA ns->(iR j (lP ns)).length<=100000:=S.2.2.1
theorem dM.Hc{ns:List Int}(S:dM ns):iR (bA ns) (lP ns)=cQ ns:=S.2.2.2.1
theorem dM.zw{ns:List Int}(S:dM ns):(cQ ns).length<=100000:=S.2.2.2.2.1
theorem dM.O6{ns:List Int}(S:dM ns):(decide ((cQ ns).length<(ofString "\r\n").length)||decide (Builtin.Str.strKind (cQ ns)<Builtin.Str.strKind (ofString "\r\n")))=false:=S.2.2.2.2.2.1
theorem dM.O7{ns:List Int}(S:dM ns):(Builtin.Str.occurrences (cQ ns) (ofString "\r\n") 0 (cQ ns).length ((cQ ns).length+1)).isEmpty=false:=S.2.2.2.2.2.2.1
theorem dM.O8{ns:List Int}(S:dM ns):Builtin.Str.partsBetween (cQ ns) (Builtin.Str.occurrences (cQ ns) (ofString "\r\n") 0 (cQ ns).length ((cQ ns).length+1)) (ofString "\r\n").length=(du (bA ns) (rowsOf ns)).map aB:=S.2.2.2.2.2.2.2.1
theorem dM.sums{ns:List Int}(S:dM ns):(((namesOf ns).map (bT (bA ns))).map (·.length)).sum<=100000:=S.2.2.2.2.2.2.2.2.1
theorem dM.O9{ns:List Int}(S:dM ns):∃ n res rs,zX (rowsOf ns) (rowsOf ns) 0 n res rs:=S.2.2.2.2.2.2.2.2.2.1
theorem dM.Pa{ns:List Int}(S:dM ns):∃ n res rs,zX (du (bA ns) (rowsOf ns)) (rowsOf ns) (bA ns) n res rs:=S.2.2.2.2.2.2.2.2.2.2
noncomputable abbrev lEnv (L:Addr) (cdv:Value):Env:=bY "law" (ai JK) L 259 cdv
noncomputable abbrev lSt (k:Nat):Stmt:=(aF JK).getD k default
noncomputable def Jo (ns:List Int):V:=.list ((rowsOf ns).map kA)
noncomputable abbrev dNames (ns:List Int):Loc:=[("drawn",Jo ns),("total",.int ns.sum),("numbers",.list (Iz ns))]
noncomputable abbrev tNames (ns:List Int):Loc:=("more",.int (bA ns))::("tests",hZ (rowsOf ns))::("names",.list (fc (namesOf ns)))::dNames ns
section
variable {Y:Cx}{A:Around}{k:Nat}{c:Cells}{L:Addr}{cdv:Value}{Φ:MF->Loc->Cells->Prop}
theorem vo{aW:List Int}(G:G1 Y)(hA:Rm Y A (k+1))(hz:aW.length<=1000)(h:Φ .next [("numbers",.list (Iz (numsOf aW))),("script",.list (Iz aW))] c):mS Y A (lEnv L cdv) (exec (lSt 0) (lEnv L cdv)) Φ [("script",.list (Iz aW))] c:=by
 apply fb ⟨by rfl,by decide +kernel,by rfl'⟩ (n8.name ⟨by rfl,by decide +kernel,by rfl'⟩ rfl (.inl (by decide +kernel))) rfl hA.hh rfl ?_
 have e8:(if (aW.length:Int)<9 then (aW.length:Int) else 9)=((min 9 aW.length:Nat):Int):=by split <;> lia
 apply dk (az rfl G.range trivial (af (az rfl G.min trivial (af (m_int (af (az rfl G.len trivial (af (m_var rfl (a_nil (c8 (by rw [ax];exact ag (zl (by assumption) rfl)) (a_nil (FW hA.hh (a_nil (fX ?_)))))))))))))))
 rw [ax,e8]
 apply ⟨_,uo (n:=min 9 aW.length) hA.hh (Ka rfl),?_⟩
 apply ⟨λZ Z=>trivial,bD (λZ=>true) (λv=>match v with | .int p=>V.int (numAt aW p.toNat) | _=>.none) (by rw [cT];exact ag (Ka rfl)) (lc:=[("script",.list (Iz aW))]) rfl (λL' cs j v hj=>?_) ?_⟩
 ·(apply aC (fY hj) ?_;intro MN bk;rw [bk])
  apply iA (aX rfl rfl rfl (λZ=>?_))
  apply aY (az rfl G.sum trivial (af (cj (m_var rfl (bC (m_var rfl (bC (m_int (bC (m_int (sO (by decide) (by rw [ax];exact ag (zl (by assumption) rfl)) (a_nil ?_))))))))))))
  rw [wR]
  apply EW hA.hh (aY (m_int (m_int (ER (by decide) (by decide) (by decide) (pg (by decide) ⟨rfl,rfl,rfl⟩)))))
 ·show Φ _ _ _
  rw [z5]
  exact h
theorem z6{ns:List Int}(G:G1 Y)(hA:Rm Y A (k+3))(h:Φ .next [("total",.int ns.sum),("numbers",.list (Iz ns))] c):mS Y A (lEnv L cdv) (exec (lSt 1) (lEnv L cdv)) Φ [("numbers",.list (Iz ns))] c :=
 ao (.inl rfl) (az rfl G.sum trivial (af (m_var rfl (a_nil (EW hA.hh h)))))
theorem z7{ns:List Int}(G:G1 Y)(hA:Rm Y A (k+3))(hz:ns.length<=100)(h:∀ c',(∀ b x,c b=some x->c' b=some x)->Φ .next (dNames ns) c'):mS Y A (lEnv L cdv) (exec (lSt 2) (lEnv L cdv)) Φ [("total",.int ns.sum),("numbers",.list (Iz ns))] c :=
 ao (.inl rfl) (az rfl G.Gj (eR.keeps G.rows) (af (m_var rfl (a_nil (D4 (k:=k+2) G hA hz λc' hk=>h c' hk)))))
end
end L1
namespace L1
theorem Cz:(ofString "").cps.toList=[]:=by decide +kernel
theorem CA:∀ ss:List Str,(Str.join (ofString "") ss).cps.toList=ss.flatMap (·.cps.toList)
 | []=>Cz
 | [x]=>by show x.cps.toList=_;simp
 | x::y::r=>by
  have e:Str.join (ofString "") (x::y::r)=x++ofString ""++Str.join (ofString "") (y::r):=rfl
  have e2:∀ a b:Str,(a++b).cps.toList=a.cps.toList++b.cps.toList:=λa b=>by
   show (a.cps++b.cps).toList=_
   rw [toList_append]
  rw [e,e2,e2,CA (y::r),Cz,append_nil,flatMap_cons (x:=x)]
theorem wU(r:List Item):join (ofString "") (r.map (·.1))=aB r:=by
 have e:join (ofString "") (r.map (·.1))=Str.join (ofString "") (r.map (·.1)):=glued_eq_join _ _
 apply e.trans (PySem.Str.ext' (toList_inj.mp ?_))
 rw [CA,List.flatMap_map];rfl
theorem r8:∀ r:List Item,((r.map (·.1)).map (·.length)).sum=(aB r).length
 | []=>rfl
 | x::r=>by
  have:=r8 r
  have e:(aB (x::r)).length=x.1.length+(aB r).length:=by
   show (((x::r).flatMap λx=>x.1.cps.toList).toArray).size=_
   rw [flatMap_cons]
   show (x.1.cps.toList++r.flatMap λx=>x.1.cps.toList).toArray.size=x.1.cps.size+((r.flatMap λx=>x.1.cps.toList).toArray).size
   simp
  rw [e,<- this];rfl
theorem CB{r:List Item}{j:Nat}{v:V}(h:(r.map fk)[j]?=some v):∃ x∈r,v=fk x:=by
 rw [getElem?_map,map_eq_some_iff] at h
 apply aj h λx h1 h2=>?_
 exact (iDPP x (mem_of_getElem? h1) h2.symm)
noncomputable def Jp:V->V | .tuple [a,_]=>a | _=>.none
noncomputable def Es:V->V | .tuple [_,b]=>b | _=>.none
theorem Et(r:List Item):(((r.map fk).filter λZ=>true).map Jp)=fc (r.map (·.1)):=by
 unfold fc
 rw [filter_eq_self.mpr (λZ Z=>rfl),map_map,map_map];rfl
theorem Eu(r:List Item):(((r.map fk).filter λZ=>true).map Es)=bH (r.map (·.2)):=by
 unfold bH
 rw [filter_eq_self.mpr (λZ Z=>rfl),map_map,map_map];rfl
section
variable {Y:Cx}{A:Around}{k:Nat}{c:Cells}{L:Addr}{cdv:Value}{Φ:MF->Loc->Cells->Prop}{ns:List Int}
theorem z8(G:G1 Y)(hA:Rm Y A (k+3))(F:dM ns)(h:Φ .next (("names",.list (fc (namesOf ns)))::dNames ns) c):mS Y A (lEnv L cdv) (exec (lSt 3) (lEnv L cdv)) Φ (dNames ns) c:=by
 have l8:=F.ok.l8
 apply fb ⟨by rfl,by decide +kernel,by rfl'⟩ (n8.name ⟨by rfl,by decide +kernel,by rfl'⟩ rfl (.inl (by decide +kernel))) rfl hA.hh rfl ?_
 apply dk (m_var rfl (aV _ (dI hA.hh) (λZ Z=>trivial) ?_))
 have fin:((((rowsOf ns).map kA).filter λZ=>true).map λv=>match v with | .list xs=>.str (join (ofString "") (xs.map λv=>match v with | .tuple [.str s,_]=>s | _=>default)) | _=>V.none)=fc (namesOf ns):=by
  unfold fc namesOf
  rw [filter_eq_self.mpr (λZ Z=>rfl),map_map,map_map]
  apply map_congr_left λr Z=>?_
  show V.str _=V.str (aB r)
  rw [<- wU,map_map];rfl
 apply bD (λZ=>true) (λv=>match v with | .list xs=>.str (join (ofString "") (xs.map λv=>match v with | .tuple [.str s,_]=>s | _=>default)) | _=>.none) (by rw [length_map];exact ag (zl (by assumption) rfl)) (lc:=[]) rfl (λL' cs j v hj=>?_) ?_
 ·rw [getElem?_map,map_eq_some_iff] at hj
  (apply aj hj ?_;try clear hj;intro r hj aM;rw [<- aM])
  apply aC (F.ok.short r (mem_of_getElem? hj)) λs1 s2=>?_
  apply iA (aX rfl rfl rfl (λZ=>?_))
  apply aI (aK (pj PySem.F.slot_str_join PySem.F.type_str_join ⟨trivial,af (cD ⟨by rfl,by decide +kernel,by rfl'⟩ (n8.name ⟨by rfl,by decide +kernel,by rfl'⟩ rfl (.inl (by decide +kernel))) hA.hh ?_)⟩))
  apply dk (m_var rfl (aV _ (dI hA.hh) (λZ Z=>trivial) ?_))
  apply bD (λZ=>true) Jp (by rw [length_map];exact ag (zl (by assumption) rfl)) (lc:=[]) rfl (λIo Ip i v hi=>?_) ?_
  ·(apply aj (CB hi) ?_;intro x hx bk;rw [bk])
   apply iA (aX rfl rfl rfl (λZ=>?_))
   exact m_item (m_var rfl (m_int (iy (j:=0) (by decide) (by decide) rfl (x:=.str x.1) rfl ⟨rfl,rfl,rfl⟩)))
  ·rw [Et]
   apply a_nil (Bp ?_ ⟨?_,rfl,rfl⟩)
   ·have e0:(ofString "").length=0:=by decide +kernel
    rw [r8,e0];exact zr s2 Z
   ·show V.str _=V.str (join (ofString "") ((r.map fk).map _))
    rw [map_map];rfl
 ·show Φ _ _ _
  rw [fin]
  exact h
theorem z9(G:G1 Y)(hA:Rm Y A (k+3))(F:dM ns)(h:Φ .next (("tests",hZ (rowsOf ns))::("names",.list (fc (namesOf ns)))::dNames ns) c):mS Y A (lEnv L cdv) (exec (lSt 4) (lEnv L cdv)) Φ (("names",.list (fc (namesOf ns)))::dNames ns) c:=by
 have l8:=F.ok.l8
 apply fb ⟨by rfl,by decide +kernel,by rfl'⟩ (n8.name ⟨by rfl,by decide +kernel,by rfl'⟩ rfl (.inl (by decide +kernel))) rfl hA.hh rfl ?_
 apply dk (m_var rfl (aV _ (dI hA.hh) (λZ Z=>trivial) ?_))
 apply bD (λZ=>true) (λv=>match v with | .list xs=>.list ((xs.filter λZ=>true).map Es) | _=>.none) (by rw [length_map];exact ag (zl (by assumption) rfl)) (lc:=[]) rfl (λL' cs j v hj=>?_) ?_
 ·rw [getElem?_map,map_eq_some_iff] at hj
  (apply aj hj ?_;try clear hj;intro r hj bN;rw [<- bN])
  apply aC (F.ok.short r (mem_of_getElem? hj)) λs1 s2=>?_
  apply iA (aX rfl rfl rfl (λZ=>?_))
  apply cD ⟨by rfl,by decide +kernel,by rfl'⟩ (n8.name ⟨by rfl,by decide +kernel,by rfl'⟩ rfl (.inl (by decide +kernel))) hA.hh ?_
  apply dk (m_var rfl (aV _ (dI hA.hh) (λZ Z=>trivial) ?_))
  apply bD (λZ=>true) Es (by rw [length_map];exact ag (zl (by assumption) rfl)) (lc:=[]) rfl (λIo Ip i v hi=>?_) ⟨rfl,rfl,rfl⟩
  (apply aj (CB hi) ?_;intro x hx cI;rw [cI])
  apply iA (aX rfl rfl rfl (λZ=>?_))
  exact m_item (m_var rfl (m_int (iy (j:=1) (by decide) (by decide) rfl (x:=gF x.2) rfl ⟨rfl,rfl,rfl⟩)))
 ·have fin:((((rowsOf ns).map kA).filter λZ=>true).map λv=>match v with | .list xs=>.list ((xs.filter λZ=>true).map Es) | _=>V.none)=(rowsOf ns).map λ(r:List Item)=>V.list (bH (r.map (·.2))):=by
   rw [filter_eq_self.mpr (λZ Z=>rfl),map_map]
   apply map_congr_left λr Z=>?_
   show V.list _=_
   rw [Eu]
  show Φ _ (_::_) _
  rw [fin]
  exact h
theorem CC(G:G1 Y)(hA:Rm Y A (k+3))(h:Φ .next (tNames ns) c):mS Y A (lEnv L cdv) (exec (lSt 5) (lEnv L cdv)) Φ (("tests",hZ (rowsOf ns))::("names",.list (fc (namesOf ns)))::dNames ns) c:=by
 apply ao (.inr rfl) (aY (m_int (aY (aY (m_var rfl (m_int (AK (by decide) rfl (m_int (pg (by decide) (dX ?_))))))))))
 have:=dD (n:=ns.sum.fdiv 5) (k:=3) (by decide)
 have e:(1:Int)+(ns.sum.fdiv 5).fmod 3=(bA ns:Nat):=by unfold bA;rw [Int.natCast_add,toNat_of_nonneg this.1];rfl
 show Φ _ (("more",V.int ((1:Int)+(ns.sum.fdiv 5).fmod 3))::_) _
 rw [e]
 exact h
end
end L1
namespace L1
theorem foldl_rep(x:Array Nat):∀ (n:Nat) (acc:Array Nat),(replicate n x).foldl (·++·) acc=acc++(replicate n x.toList).flatten.toArray
 | 0,acc=>by simp
 | n+1,acc=>by
  rw [replicate_succ,foldl_cons,foldl_rep x n,replicate_succ,List.flatten_cons]
  apply ext'
  simp
noncomputable def wV (m:Int):Str:=⟨(replicate m.toNat 46).toArray⟩
theorem vp(m:Int):mul (ofString ".") m=wV m:=by
 have e:ofString "."=⟨#[46]⟩:=by decide +kernel
 rw [e]
 unfold mul wV
 split
 ·rw [show m.toNat=0 by lia];rfl
 ·split
  ·rename_i q
   have:m=1:=by
    rcases Bool.or_eq_true_iff.mp q with q | q
    ·simpa using q
    ·exact absurd q (by decide)
   rw [this];rfl
  ·rw [foldl_rep]
   congr 1
   apply ext'
   simp
theorem q6(m:Int):(wV m).length=m.toNat:=by
 show (replicate m.toNat 46).toArray.size=_
 simp
theorem tU(m:Nat):(mul (ofString ".") (m:Int)).length=m:=by
 rw [vp,q6];exact toNat_natCast m
theorem more_le(ns:List Int):1<=bA ns/\bA ns<=3:=by
 have:=dD (n:=ns.sum.fdiv 5) (k:=3) (by decide)
 unfold bA;omega
section
variable {Y:Cx}{A:Around}{k:Nat}{c:Cells}{L:Addr}{cdv:Value}{Φ:MF->Loc->Cells->Prop}{ns:List Int}
theorem r9(ns:List Int):(namesOf ns).length=(rowsOf ns).length:=length_map _
theorem nM(F:dM ns):∀ t∈namesOf ns,t.length<=100:=λt ht=>by
 (apply aj (mem_map.mp ht) ?_;intro r hr aM;rw [<- aM])
 exact (F.ok.short r hr).2
theorem Ew(G:G1 Y)(hA:Rm Y A (k+3))(F:dM ns)(h:Φ .next (("arrived",.str (lP ns))::tNames ns) c):mS Y A (lEnv L cdv) (exec (lSt 6) (lEnv L cdv)) Φ (tNames ns) c:=by
 have l8:=F.ok.l8
 have hl:=r9 ns
 exact ao (.inl rfl) (az rfl G.Gk (eR.keeps G.text) (af (m_var rfl (af (m_var rfl (a_nil (Er (k:=k+2) G hA (by rw [hl];exact F.pos) (le_of_eq_of_le hl l8) (nM F) h)))))))
theorem CE(G:G1 Y)(hA:Rm Y A (k+3))(F:dM ns)(h:∀ l',Sub (("arrived",.str (cQ ns))::tNames ns) l'->Φ .next l' c):mS Y A (lEnv L cdv) (exec (lSt 7) (lEnv L cdv)) Φ (("arrived",.str (lP ns))::tNames ns) c:=by
 apply aC (more_le ns) λm1 m2=>?_
 apply dC (bind:=λv l=>("turn",v)::l) (dk (az rfl G.range trivial (af (m_var rfl (a_nil (fX ?_))))))
 apply (iDPP _ (uo (n:=bA ns) hA.hh (by exact zl (by assumption) rfl)) ?_)
 apply (dS (λi=>("arrived",.str (iR i (lP ns)))::tNames ns) (λi c'=>c'=c) (⟨Sub.rfl,rfl⟩) (λv hv=>dW (.inl rfl)) (λv hv l l' hs=>Sub.cons hs) (λi v c' hv hc=>?_) (λl c' hl hc=>?_))
 ·rw [hc]
  (apply aC (fY hv) ?_;intro hi cI;rw [cI])
  apply aa (ao (.inl rfl) (az rfl G.Gn (eR.keeps G.quot) (af (m_var rfl (a_nil (DI (k:=k+2) G hA (F.BS i (le_of_succ_le hi)) (au ⟨?_,rfl⟩)))))))
  exact Sub.put rfl (Sub.put rfl (Sub.put rfl (Sub.put rfl (Sub.put rfl (Sub.put rfl (Sub.put rfl Sub.nil))))))
 ·rw [hc]
  rw [cT] at hl
  apply h l ?_
  rw [<- F.Hc]
  exact hl
noncomputable def Jq (m:Nat):V->V | .str s=>.str (bT m s) | _=>.none
theorem CG(G:G1 Y)(hA:Rm Y A (k+3))(F:dM ns)(h:Φ .next (("arrived",.str (cQ ns))::tNames ns) c):mS Y A (lEnv L cdv) (exec (lSt 8) (lEnv L cdv)) Φ (("arrived",.str (cQ ns))::tNames ns) c:=by
 have e2:(ofString "\r\n").length=2:=by decide +kernel
 have l8:=F.ok.l8
 have hl:=r9 ns
 apply aC (more_le ns) λm1 m2=>?_
 apply bt (aE (m_var rfl (aI (aK (pj PySem.F.slot_str_join PySem.F.type_str_join ⟨trivial,af (cD ⟨by rfl,by decide +kernel,by rfl'⟩ (n8.name ⟨by rfl,by decide +kernel,by rfl'⟩ rfl (.inl (by decide +kernel))) hA.hh ?_)⟩)))))
 apply dk (m_var rfl (aV _ (dI hA.hh) (λZ Z=>trivial) ?_))
 apply bD (λZ=>true) (Jq (bA ns)) (by rw [show (fc (namesOf ns)).length=(namesOf ns).length from length_map _];exact ag (by lia)) (lc:=[("more",.int (bA ns))]) rfl (λL' cs j v hj=>?_) ?_
 ·unfold fc at hj
  rw [getElem?_map,map_eq_some_iff] at hj
  (apply aj hj ?_;try clear hj;intro t hj bk;rw [<- bk])
  have ht:=nM F t (mem_of_getElem? hj)
  apply iA (aX rfl rfl rfl (λZ=>?_))
  have Ex:(ofString "").length=0:=by decide +kernel
  apply aY (jK (aE (cj (m_var rfl (bB (bC (m_int (bB (eF (ag (by exact zl (by assumption) rfl)) (aK (dB (ar ?_))))))))))))
  by_cases q:(Txt.slice t none (some 1) == ofString ".")=true
  ·rw [if_pos q]
   apply aY (aK (m_var rfl (FP (mulOk_of 1 1000 (by decide) (by lia) (Int.neg_ofNat_le_natCast (2 ^ 63) (bA ns)) (by decide) (by decide)) ?_)))
   apply m_var rfl (mr (ag (by rw [tU];exact Hq m2 ht Z)) ⟨?_,rfl,rfl⟩)
   show V.str _=V.str (bT (bA ns) t)
   unfold bT gZ
   rw [if_pos q]
  ·rw [if_neg q]
   apply aK (m_var rfl (mr (ag (by rw [Ex];exact Hp ht Z)) ⟨?_,rfl,rfl⟩))
   show V.str _=V.str (bT (bA ns) t)
   unfold bT gZ
   rw [if_neg q]
 ·have e:((fc (namesOf ns)).filter λZ=>true).map (Jq (bA ns))=fc ((namesOf ns).map (bT (bA ns))):=by
   unfold fc
   rw [filter_eq_self.mpr (λZ Z=>rfl)]
   generalize namesOf ns=xs
   rw [map_map,map_map];rfl
  rw [e]
  apply a_nil (Bp ?_ (xA (ar (dO ?_ (au h)))))
  ·rw [e2,length_map,hl];have:=F.sums;lia
  ·show (cQ ns != cQ ns)=false
   simp
theorem Ey(ns:List Int):((du (bA ns) (rowsOf ns)).map aB).length=(rowsOf ns).length:=by simp [du]
theorem Ez{D:SA}{Cy:Addr}(K:tQ Y D Cy)(hA:Rm Y A (k+101))(Tb:mR c)(F:dM ns)(h:∀ l c',mR c'->Φ (.ret (.bool true)) l c'):mS Y A (lEnv L cdv) (exec (lSt 9) (lEnv L cdv)) Φ (("arrived",.str (cQ ns))::tNames ns) c:=by
 have G:=K.k.g
 have l8:=F.ok.l8
 apply jW F.O9 λn0 Pb PW A0=>?_
 apply jW F.Pa λn1 Pc PX A1=>?_
 apply aL (pT (jy (az rfl G.uG (eR.keeps G.kr) (af (m_var rfl (af (m_var rfl (af (m_var rfl (af (m_int (a_nil (rW (k:=k+1) K hA Tb A0 λc1 Jj=>ar ?_)))))))))))))
 rw [if_pos rfl]
 apply Bq (az rfl G.uG (eR.keeps G.kr) (af (aI (m_var rfl (pj PySem.F.slot_str_split PySem.F.type_str_split ⟨trivial,af (aK (a_nil (DR F.O6 (by decide +kernel) F.O7 (ag (by have:=F.zw;exact zl (by assumption) rfl)) F.O8 (by rw [Ey];exact ag (by exact zl (by assumption) rfl)) ?_)))⟩)))))
 exact af (m_var rfl (af (m_var rfl (af (m_var rfl (a_nil (rW (k:=k+1) K hA Jj A1 λc2 t2=>h _ c2 t2)))))))
theorem Hd{X:Cx}{D:SA}{Cy:Addr}{aW:List Int}{Ψ:V->Cells->Prop}(FL:eR X.K 259 "law" JK)(K:tQ X D Cy)(hA:Rm X A (k+102))(hP:mR c)(hz:aW.length<=1000)(F:dM (numsOf aW))(h:∀ c',mR c'->Ψ (.bool true) c'):aD X A (.ref 259) [.list (Iz aW)] Ψ c:=by
 apply dm (names:=["script"]) FL hA (λZ Z Z Z Z=>l1 λZ=>rfl) λL cdv A' bp=>?_
 have K':tQ (X.push L) D Cy:=K.push
 generalize X.push L=Y at bp K' ⊢
 have G':=K'.k.g
 have hn:(numsOf aW).length<=100:=by unfold numsOf;rw [length_map,length_range];exact Ka rfl
 apply aa (vo (k:=k+100) G' bp hz ?_)
 apply cL.le (l0:=[("numbers",.list (Iz (numsOf aW)))]) (Sub.of ⟨by rfl',trivial⟩) ?_
 apply aa (z6 (k:=k+98) G' bp ?_)
 apply aa (z7 (k:=k+98) G' bp hn λc1 k1=>?_)
 apply aa (z8 (k:=k+98) G' bp F ?_)
 apply aa (z9 (k:=k+98) G' bp F ?_)
 apply aa (CC (k:=k+98) G' bp ?_)
 apply aa (Ew (k:=k+98) G' bp F ?_)
 apply aa (CE (k:=k+98) G' bp F λl' hs=>?_)
 apply cL.le hs ?_
 apply aa (CG (k:=k+98) G' bp F ?_)
 exact aa (Ez (k:=k) K' bp (hP.mono k1) F λZ c'=>h c')
end
end L1
namespace L1
theorem jF{s:Str}:gZ s=true↔∃ r,tl s=46::r:=by
 unfold gZ
 rw [beq_iff_eq]
 have e:tl (Txt.slice s none (some 1))=(tl s).take 1:=zH s
 have e1:tl (ofString ".")=[46]:=by decide +kernel
 constructor
 ·intro h
  rw [h,e1] at e
  cases q:tl s with
  | nil=>rw [q] at e;cases e
  | cons c r=>rw [q] at e;exact ⟨r,by rw [(List.cons.inj e).1]⟩
 ·(intro aM;apply bw aM ?_;clear aM;intro r h)
  apply mV ?_
  rw [e,h,e1];rfl
theorem fU(m:Nat)(s:Str):tl (bT m s)=(if gZ s=true then replicate m 46 else [])++tl s:=by
 unfold bT
 rw [ql]
 congr 1
 split
 ·rw [vp]
  show (replicate (m:Int).toNat 46).toArray.toList=_
  rw [toNat_natCast]
 ·show tl (ofString "")=[]
  decide +kernel
theorem sa(m:Nat)(s:Str):dd (tl (bT m s))=tl (bT (m+1) s):=by
 rw [fU,fU]
 by_cases h:gZ s=true
 ·rw [if_pos h,if_pos h,replicate_succ]
  cases m with
  | zero =>
   apply bw (jF.mp h) λr e=>?_
   rw [e]
   exact wM r
  | succ m =>
   rw [replicate_succ]
   exact wM _
 ·rw [if_neg h,if_neg h]
  cases q:tl s with
  | nil=>rfl
  | cons c r=>exact vj λz=>h (jF.mpr ⟨r,by rw [q,z]⟩)
theorem lQ{m:Nat}{s:Str}(h:Plain (tl s)):Plain (tl (bT m s)):=by
 rw [fU]
 intro c hc
 rcases mem_append.mp hc with q | q
 ·split at q
  ·rw [List.eq_of_mem_replicate q];decide
  ·cases q
 ·exact h c q
theorem CI(total:Int)(j:Nat):tl (endAt total j)=[13,10]\/tl (endAt total j)=[10]\/tl (endAt total j)=[13]:=by
 have:=dD (n:=total.fdiv (3 ^ j)) (k:=3) (by decide)
 have h:∀ i,i<3->tl (qp.getD i default)=[13,10]\/tl (qp.getD i default)=[10]\/tl (qp.getD i default)=[13]:=by decide +kernel
 exact h _ (by omega)
theorem Jr:tl (ofString "\n")=[10]:=by decide +kernel
theorem Js:tl (ofString "\r")=[13]:=by decide +kernel
theorem Aa(total:Int)(j:Nat)(w:Str):tl (ie total j w)=[13,10]\/(tl (ie total j w)=[10]/\(tl w).getLast?≠some 13)\/tl (ie total j w)=[13]:=by
 unfold ie
 split
 ·exact .inl lN
 ·rename_i h
  rcases CI total j with q | q | q
  ·exact .inl q
  ·apply .inr (.inl ⟨q,λz=>h ?_⟩)
   rw [and_eq_true,beq_iff_eq,beq_iff_eq]
   apply ⟨mV (by rw [q,Jr]),mV ?_⟩
   have e:tl (Txt.slice w (some (-1)) none)=(tl w).drop (w.length - 1):=wA w
   apply bw (List.getLast?_eq_some_iff.mp z) λys hy=>?_
   have hl:w.length=ys.length+1:=by rw [<- ey,hy];simp
   rw [e,hl,hy,Nat.add_sub_cancel,drop_left,Js]
  ·exact .inr (.inr q)
theorem CJ{e r:List Nat}(he:e=[13,10]\/e=[10]\/e=[13])(hr:Plain r):bo (e++r)=[13,10]++r:=by
 have h0:bo r=r:=by have:=gL hr [];rw [append_nil] at this;rw [this];exact append_nil _
 have h1:∀ r',r≠10::r':=λr' z=>(hr 10 (by rw [z];exact .head _)).1 rfl
 rcases he with rfl | rfl | rfl
 ·show bo (13::10::r)=_
  rw [gm,h0];rfl
 ·show bo (10::r)=_
  rw [eZ (.inl rfl) (by exact λa r'=>Ne.intro (h1 r')),h0];rfl
 ·show bo (13::r)=_
  rw [eZ (.inr rfl) (λZ=>h1),h0];rfl
theorem sd{total:Int}{texts:List Str}(hp:∀ t∈texts,Plain (tl t)):∀ j,j<texts.length->bo (tl (bK total texts j))=jn [13,10] ((texts.take (j+1)).map tl)
 | 0,h=>by
  have e:texts.getD 0 default=texts[0]:=by rw [getD_eq_getElem?_getD,getElem?_eq_getElem h];rfl
  have e2:texts.take (0+1)=[texts[0]]:=by rw [take_add_one,getElem?_eq_getElem h];rfl
  show bo (tl (texts.getD 0 default))=_
  rw [e,e2]
  have:=gL (hp _ (getElem_mem h)) []
  rw [append_nil] at this
  rw [this]
  show _++[]=_
  rw [append_nil];rfl
 | j+1,h=>by
  have ih:=sd (total:=total) hp j (Nat.lt_of_succ_lt h)
  have e:texts.getD (j+1) default=texts[j+1]:=by rw [getD_eq_getElem?_getD,getElem?_eq_getElem h];rfl
  have hr:=hp _ (getElem_mem h)
  show bo (tl (bK total texts j++(ie total j (bK total texts j)++texts.getD (j+1) default)))=_
  rw [e,ql,ql]
  have sc:=Aa total j (bK total texts j)
  generalize bK total texts j=w at ih sc ⊢
  rw [mX,ih,CJ (sc.imp id (.imp And.left id)) hr]
  ·rw [take_add_one (i:=j+1),getElem?_eq_getElem h,map_append]
   apply (Eo [13,10] _ ?_).symm
   have:texts≠[]:=by intro z;rw [z] at h;cases h
   intro z
   have:=congrArg List.length z
   rw [length_map,length_take,length_nil] at this
   lia
  ·intro z r e
   rcases sc with q | ⟨q,q2⟩ | q
   ·rw [q] at e;cases e
   ·exact q2 z
   ·rw [q] at e;cases e
section
variable {ns:List Int}
theorem kE(hp:∀ t∈namesOf ns,Plain (tl t))(hn:1<=(namesOf ns).length):∀ j,tl (iR (j+1) (lP ns))=jn [13,10] ((namesOf ns).map λt=>tl (bT (j+1) t))
 | 0=>by
  show tl (quote (lP ns))=_
  rw [vi]
  unfold lP
  rw [sd hp _ (Nat.sub_one_lt_of_lt hn),show (namesOf ns).length - 1+1=(namesOf ns).length by exact Nat.sub_add_cancel hn,take_length,Cs (λr hr=>by
   (apply aj (mem_map.mp hr) ?_;intro t ht bk;rw [<- bk]);exact hp t ht),map_map]
  congr 1
  apply map_congr_left λt Z=>?_
  show dd (tl t)=_
  rw [<- sa,fU 0]
  congr 1
  split <;> rfl
 | j+1=>by
  have ih:=kE hp hn j
  show tl (quote (iR (j+1) (lP ns)))=_
  have qD:∀ r∈(namesOf ns).map λt=>tl (bT (j+1) t),Plain r:=λr hr=>by
   (apply aj (mem_map.mp hr) ?_;intro t ht bN;rw [<- bN]);exact lQ (hp t ht)
  rw [vi,ih,Cr qD,Cs qD,map_map]
  congr 1
  exact map_congr_left λt Z=>sa (j+1) t
theorem tV(ns:List Int):tl (cQ ns)=jn [13,10] ((namesOf ns).map λt=>tl (bT (bA ns) t)):=by
 unfold cQ
 rw [tT,lN,map_map];rfl
theorem EA(hp:∀ t∈namesOf ns,Plain (tl t))(hn:1<=(namesOf ns).length):iR (bA ns) (lP ns)=cQ ns:=by
 obtain ⟨m,e⟩:∃ m,bA ns=m+1:=⟨bA ns - 1,by have:=more_le ns;lia⟩
 apply mV ?_
 rw [tV,e]
 exact kE hp hn m
end
end L1
namespace L1
noncomputable def gn (aq:List (List Int)):List (Int×List Int):=aq.zipIdx.map λ(x,i)=>((i:Int),x)
theorem Ab{aq:List (List Int)}{i:Nat}{x:List Int}(h:aq[i]?=some x):(gn aq)[i]?=some ((i:Int),x):=by
 unfold gn
 rw [getElem?_map,getElem?_zipIdx,h]
 simp
theorem qt(aq:List (List Int))(i:Nat):gn (aq.take i)=(gn aq).take i:=by
 apply ext_getElem? λj=>?_
 unfold gn
 rw [getElem?_map,getElem?_zipIdx,List.getElem?_take,List.getElem?_take,getElem?_map,getElem?_zipIdx]
 split <;> rfl
noncomputable abbrev sig (aq:List (List Int)):TS:=TS.none.adds (gn aq)
noncomputable abbrev freeOf (aq:List (List Int)):List Int:=(sig aq).free (sig aq).nodes
noncomputable def gp (aq:List (List Int)) (m:Nat) (k:Int):List Int:=(List.range m).flatMap λi=>((aq.getD i []).filter (· == k)).map λZ=>(i:Int)
theorem sf(n:Int):∀ (ps:List Int) (σ:TS),(ps.foldl (TS.behind n) σ).np=σ.np
 | [],σ=>rfl
 | p::ps,σ=>by rw [foldl_cons,sf n ps];rfl
theorem sh(n:Int):∀ (ps:List Int) (σ:TS) (k:Int),(ps.foldl (TS.behind n) σ).su k=σ.su k++(ps.filter (· == k)).map λZ=>n
 | [],σ,k=>by simp
 | p::ps,σ,k=>by
  rw [foldl_cons,sh n ps]
  show i9 σ.su p (σ.su p++[n]) k++_=_
  by_cases h:k=p
  ·rw [h]
   rw [ba,filter_cons,if_pos (beq_int_true rfl)]
   simp
  ·rw [bx _ _ h,filter_cons,if_neg (by simpa using λz=>h z.symm)]
theorem get_mem{σ:TS}{k j:Int}:j∈(σ.get k).nodes↔j∈σ.nodes\/j=k:=by
 unfold TS.get
 dsimp only
 split
 ·rename_i h
  constructor
  ·exact .inl
  ·rintro (q | rfl)
   ·exact q
   ·exact h
 ·simp
theorem si{σ:TS}{k:Int}(h:σ.nodes.Nodup):(σ.get k).nodes.Nodup:=by
 unfold TS.get
 dsimp only
 split
 ·exact h
 ·rename_i hk
  rw [nodup_append]
  apply ⟨h,by simp,λa ha b hb=>?_⟩
  rw [mem_singleton] at hb
  rw [hb]
  rintro rfl
  exact hk ha
theorem lR(n:Int):∀ (ps:List Int) (σ:TS),σ.nodes.Nodup->(ps.foldl (TS.behind n) σ).nodes.Nodup/\∀ j,j∈(ps.foldl (TS.behind n) σ).nodes↔j∈σ.nodes\/j∈ps
 | [],σ,h=>⟨h,λj=>by simp⟩
 | p::ps,σ,h=>by
  rw [foldl_cons]
  apply aC (lR n ps (TS.behind n σ p) (si h)) λh1 h2=>?_
  apply ⟨h1,λj=>?_⟩
  rw [h2]
  show j∈(σ.get p).nodes\/_↔_
  rw [get_mem,mem_cons,or_assoc]
theorem He(σ:TS)(n:Int)(ps:List Int)(k:Int):(σ.add n ps).su k=σ.su k++(ps.filter (· == k)).map λZ=>n:=by
 unfold TS.add;rw [sh];rfl
theorem Hf(σ:TS)(n:Int)(ps:List Int)(k:Int):(σ.add n ps).np k=if k=n then σ.np n+ps.length else σ.np k:=by
 unfold TS.add
 rw [sf]
 show i9 σ.np n _ k=_
 by_cases h:k=n
 ·rw [h];rw [ba,if_pos rfl];rfl
 ·rw [bx _ _ h,if_neg h]
theorem Ac{σ:TS}{n:Int}{ps:List Int}(h:σ.nodes.Nodup):(σ.add n ps).nodes.Nodup/\∀ j,j∈(σ.add n ps).nodes↔j∈σ.nodes\/j=n\/j∈ps:=by
 unfold TS.add
 (apply aC (lR n ps ((σ.get n).more n ((σ.get n).np n+ps.length)) (si h)) ?_;intro h1 h2)
 apply ⟨h1,λj=>?_⟩
 rw [h2]
 show j∈(σ.get n).nodes\/_↔_
 rw [get_mem,or_assoc]
theorem wW(aq:List (List Int))(m:Nat)(hm:m<aq.length):gn (aq.take (m+1))=gn (aq.take m)++[((m:Int),aq.getD m [])]:=by
 have hx:aq[m]?=some (aq.getD m []):=by rw [getD_eq_getElem?_getD,getElem?_eq_getElem hm];rfl
 rw [qt aq (m+1),take_add_one,Ab hx,<- qt];rfl
theorem Ad(σ:TS)(g:List (Int×List Int))(q:Int×List Int):σ.adds (g++[q])=(σ.adds g).add q.1 q.2:=by
 unfold TS.adds;rw [foldl_append];rfl
theorem lS(aq:List (List Int)):∀ m,m<=aq.length->(∀ k,(TS.none.adds (gn (aq.take m))).su k=gp aq m k) /\
  (∀ k:Int,(TS.none.adds (gn (aq.take m))).np k=if 0<=k/\k<m then ((aq.getD k.toNat []).length:Int) else 0) /\
  (TS.none.adds (gn (aq.take m))).nodes.Nodup/\∀ j,j∈(TS.none.adds (gn (aq.take m))).nodes↔(0<=j/\j<m)\/∃ i,i<m/\j∈aq.getD i []
 | 0,_=>by
  apply (aX (λk=>rfl) (λk=>?_) nodup_nil (λj=>?_))
  ·rw [if_neg (by lia)];rfl
  ·constructor
   ·intro h;cases h
   ·rintro (h | ⟨i,h,_⟩) <;> lia
 | m+1,hm=>by
  apply dj (lS aq m (by exact le_of_succ_le hm)) λh1 h2 h3 h4=>?_
  rw [wW aq m (lt_of_succ_le hm),Ad]
  generalize TS.none.adds (gn (aq.take m))=σ at h1 h2 h3 h4
  (apply aC (Ac (n:=(m:Int)) (ps:=aq.getD m []) h3) ?_;intro n1 n2)
  apply (aX (λk=>?_) (λk=>?_) n1 (λj=>?_))
  ·rw [He,h1]
   unfold gp
   rw [List.range_succ,flatMap_append]
   simp
  ·rw [Hf]
   by_cases hk:k=m
   ·rw [hk]
    rw [if_pos rfl,h2,if_neg (by lia),if_pos (by lia)]
    exact Int.zero_add ↑(↑m,aq.getD m []).snd.length
   ·rw [if_neg hk,h2]
    by_cases hr:0<=k/\k<m
    ·rw [if_pos hr,if_pos (by lia)]
    ·rw [if_neg hr,if_neg (by lia)]
  ·rw [n2,h4]
   constructor
   ·rintro ((h | ⟨i,h,q⟩) | rfl | h)
    ·exact .inl (by lia)
    ·exact .inr (iDPP i (Nat.lt_add_right 1 h) q)
    ·exact .inl (by lia)
    ·exact .inr (iDPP m (lt_add_one m) h)
   ·rintro (h | ⟨i,h,q⟩)
    ·by_cases hj:j=m
     ·exact .inr (.inl hj)
     ·exact .inl (.inl (by lia))
    ·by_cases hi:i=m
     ·rw [<- hi];exact .inr (.inr q)
     ·exact .inl (.inr (iDPP i (by lia) q))
def wX(aq:List (List Int)):Prop:=∀ i p,p∈aq.getD i []->0<=p/\p<aq.length
theorem CK(aq:List (List Int))(k:Int):(sig aq).su k=gp aq aq.length k:=by
 have:=(lS aq aq.length (le_refl _)).1 k
 rwa [take_of_length_le (le_refl _)] at this
theorem wY(aq:List (List Int))(k:Int):(sig aq).np k=if 0<=k/\k<aq.length then ((aq.getD k.toNat []).length:Int) else 0:=by
 have:=(lS aq aq.length (le_refl _)).2.1 k
 rwa [take_of_length_le (le_refl _)] at this
theorem mZ{aq:List (List Int)}(h:wX aq):(sig aq).nodes.Nodup/\∀ j,j∈(sig aq).nodes↔0<=j/\j<aq.length:=by
 apply dj (lS aq aq.length (le_refl _)) λZ Z h3 h4=>?_
 rw [take_of_length_le (le_refl _)] at h3 h4
 apply ⟨h3,λj=>(h4 j).trans ⟨?_,.inl⟩⟩
 rintro (q | ⟨i,_,q⟩)
 ·exact q
 ·exact h i j q
theorem EB{aq:List (List Int)}{m:Nat}{k i:Int}:i∈gp aq m k↔0<=i/\i<m/\k∈aq.getD i.toNat []:=by
 unfold gp
 rw [List.mem_flatMap]
 constructor
 ·(intro bk;apply aj bk ?_;clear bk;intro j hj q)
  rw [mem_range] at hj
  (apply aj (mem_map.mp q) ?_;intro x hx bN;rw [<- bN])
  rw [mem_filter] at hx
  have:x=k:=by simpa using hx.2
  subst this
  exact ⟨by exact natCast_nonneg j,by exact ofNat_lt.mpr hj,by simpa using hx.1⟩
 ·(intro cI;apply bq cI ?_;clear cI;intro h1 h2 h3)
  apply (iDPP i.toNat (mem_range.mpr ((toNat_lt h1).mpr h2)) (mem_map.mpr (iDPP k (mem_filter.mpr ⟨h3,by simp⟩) (toNat_of_nonneg h1))))
end L1
namespace L1
theorem yl:∀ (ss:List Int) (τ:TS) (out:List Int),ss.Nodup->(ss.foldl TS.dec (τ,out)).1.nodes=τ.nodes/\(ss.foldl TS.dec (τ,out)).1.su=τ.su /\
  (∀ k,(ss.foldl TS.dec (τ,out)).1.np k=if k∈ss then τ.np k - 1 else τ.np k)/\(ss.foldl TS.dec (τ,out)).2=out++ss.filter λk=>τ.np k - 1 == 0
 | [],τ,out,_=>(aX rfl rfl (λk=>by rfl) (by simp))
 | s::ss,τ,out,h=>by
  rw [nodup_cons] at h
  rw [foldl_cons]
  have e:TS.dec (τ,out) s=(τ.more s (τ.np s - 1),if τ.np s - 1=0 then out++[s] else out):=rfl
  rw [e]
  (apply dj (yl ss (τ.more s (τ.np s - 1)) (if τ.np s - 1=0 then out++[s] else out) h.2) ?_;intro h1 h2 h3 h4)
  have np:∀ k,(τ.more s (τ.np s - 1)).np k=if k=s then τ.np s - 1 else τ.np k:=λk=>by
   show i9 τ.np s _ k=_
   by_cases q:k=s
   ·rw [q];rw [ba,if_pos rfl]
   ·rw [bx _ _ q,if_neg q]
  apply (aX h1 h2 (λk=>?_) ?_)
  ·rw [h3,np]
   by_cases q:k=s
   ·rw [q]
    rw [if_neg h.1,if_pos rfl,if_pos mem_cons_self]
   ·rw [if_neg q]
    by_cases m:k∈ss
    ·rw [if_pos m,if_pos (mem_cons_of_mem s m)]
    ·rw [if_neg m,if_neg (List.not_mem_cons_of_ne_of_not_mem q m)]
  ·rw [h4,filter_cons]
   have e2:(ss.filter λk=>(τ.more s (τ.np s - 1)).np k - 1 == 0)=ss.filter λk=>τ.np k - 1 == 0:=by
    apply filter_congr λk hk=>?_
    rw [np,if_neg (λ(q:k=s)=>h.1 (q▸hk))]
   rw [e2]
   by_cases z:τ.np s - 1=0
   ·rw [if_pos z,if_pos (beq_int_true z)];exact Eq.symm (List.append_cons out s (filter (λk=>τ.np k - 1 == 0) ss))
   ·rw [if_neg z,if_neg (by simpa using z)]
theorem CL(τ:TS)(out:List Int)(v:Int)(hs:(τ.su v).Nodup)(hv:v ∉ τ.su v):(TS.hY (τ,out) v).1.nodes=τ.nodes/\(TS.hY (τ,out) v).1.su=τ.su /\
  (∀ k,(TS.hY (τ,out) v).1.np k=if k=v then -2 else if k∈τ.su v then τ.np k - 1 else τ.np k)/\(TS.hY (τ,out) v).2=out++(τ.su v).filter λk=>τ.np k - 1 == 0:=by
 have e:TS.hY (τ,out) v=(τ.su v).foldl TS.dec (τ.more v (-2),out):=rfl
 rw [e]
 (apply dj (yl (τ.su v) (τ.more v (-2)) out hs) ?_;intro h1 h2 h3 h4)
 have np:∀ k,(τ.more v (-2)).np k=if k=v then -2 else τ.np k:=λk=>by
  show i9 τ.np v _ k=_
  by_cases q:k=v
  ·rw [q];rw [ba,if_pos rfl]
  ·rw [bx _ _ q,if_neg q]
 apply (aX h1 h2 (λk=>?_) ?_)
 ·rw [h3,np]
  by_cases q:k=v
  ·rw [q];rw [if_pos rfl,if_pos rfl,if_neg hv]
  ·rw [if_neg q,if_neg q]
 ·rw [h4]
  congr 1
  apply filter_congr λk hk=>?_
  rw [np,if_neg (λ(q:k=v)=>hv (q▸hk))]
noncomputable def cnt (su:Int->List Int) (ws:List Int) (k:Int):Nat:=(ws.filter λw=>decide (k∈su w)).length
theorem cnt_cons(su:Int->List Int)(w:Int)(ws:List Int)(k:Int):cnt su (w::ws) k=(if k∈su w then 1 else 0)+cnt su ws k:=by
 unfold cnt
 rw [filter_cons]
 by_cases h:k∈su w
 ·rw [if_pos (decide_eq_true h),if_pos h,length_cons];exact Nat.add_comm (filter (λw=>decide (k∈su w)) ws).length 1
 ·rw [if_neg (by simpa using h),if_neg h];exact Eq.symm (zero_add (filter (λw=>decide (k∈su w)) ws).length)
theorem vq{su:Int->List Int}{ws:List Int}{k:Int}(h:∀ w∈ws,k ∉ su w):cnt su ws k=0:=by
 unfold cnt
 rw [List.length_eq_zero_iff,List.filter_eq_nil_iff]
 intro w hw
 simpa using h w hw
theorem qu:∀ (ws:List Int) (τ:TS) (out:List Int),ws.Nodup->(∀ v,(τ.su v).Nodup)->(∀ w∈ws,∀ w'∈ws,w' ∉ τ.su w)->(∀ w∈ws,τ.np w<=0)->out.Nodup->(∀ k∈out,τ.np k<=0) ->
  (TS.cH (τ,out) ws).1.nodes=τ.nodes/\(TS.cH (τ,out) ws).1.su=τ.su/\(∀ k,(TS.cH (τ,out) ws).1.np k=if k∈ws then -2 else τ.np k - cnt τ.su ws k) /\
  (TS.cH (τ,out) ws).2.Nodup/\∀ k,k∈(TS.cH (τ,out) ws).2↔k∈out\/(1<=τ.np k/\τ.np k<=cnt τ.su ws k)
 | [],τ,out,_,_,_,_,ho,_=>(ja rfl rfl (λk=>by simp [cnt,TS.cH]) ho  (λk=>by
  constructor
  ·exact .inl
  ·rintro (q | ⟨q1,q2⟩)
   ·exact q
   ·have:cnt τ.su [] k=0:=rfl
    lia))
 | w::ws,τ,out,hn,hs,hi,hz,ho,M4=>by
  rw [nodup_cons] at hn
  have e:TS.cH (τ,out) (w::ws)=TS.cH (TS.hY (τ,out) w) ws:=rfl
  rw [e]
  apply dj (CL τ out w (hs w) (hi w mem_cons_self w mem_cons_self)) λa1 a2 a3 a4=>?_
  generalize TS.hY (τ,out) w=st at a1 a2 a3 a4 ⊢
  obtain ⟨τ1,Pd⟩:=st
  simp only at a1 a2 a3 a4
  rw [a4]
  have Hv:∀ k,τ.np k<=0->τ1.np k<=0:=λk hk=>by
   rw [a3]
   split
   ·exact Int.neg_ofNat_le_ofNat 2 0
   ·split <;> lia
  obtain ⟨b1,b2,b3,b4,b5⟩:=qu ws τ1 (out++(τ.su w).filter λk=>τ.np k - 1 == 0) hn.2 (by rw [a2];exact hs) (by rw [a2];exact λx hx y hy=>hi x (mem_cons_of_mem _ hx) y (mem_cons_of_mem _ hy)) (λx hx=>Hv x (hz x (mem_cons_of_mem _ hx)))
   (by
    rw [nodup_append]
    apply ⟨ho,(hs w).filter _,λa ha b hb=>?_⟩
    rintro rfl
    have q:=(mem_filter.mp hb).2
    have:=M4 a ha
    simp at q;lia)
   (λk hk=>by
    rcases mem_append.mp hk with q | q
    ·exact Hv k (M4 k q)
    ·apply aC (mem_filter.mp q) λq1 q2=>?_
     have q2:τ.np k - 1=0:=by exact bi_ieq.mp q2
     rw [a3]
     split
     ·exact Int.neg_ofNat_le_ofNat 2 0
     ·first | exact Int.le_of_eq q2 | (rw [if_pos q1];omega))
  apply (ja (b1.trans a1) (b2.trans a2) (λk=>?_) b4 (λk=>?_))
  ·rw [b3,a3,a2,cnt_cons]
   by_cases hk:k∈ws
   ·rw [if_pos hk,if_pos (mem_cons_of_mem _ hk)]
   ·rw [if_neg hk]
    by_cases hw:k=w
    ·subst hw
     rw [if_pos rfl,if_pos mem_cons_self,vq (λx hx=>hi x (mem_cons_of_mem _ hx) k mem_cons_self)]
     exact Int.sub_eq_iff_eq_add'.mpr rfl
    ·rw [if_neg hw,if_neg (show ¬ k∈w::ws by exact List.not_mem_cons_of_ne_of_not_mem hw hk)]
     split <;> lia
  ·rw [b5,mem_append,mem_filter,a3,a2,cnt_cons]
   by_cases hw:k=w
   ·subst hw
    have h0:=hz k mem_cons_self
    have h1:=hi k mem_cons_self k mem_cons_self
    rw [if_pos rfl,if_neg h1]
    constructor
    ·rintro ((q | ⟨q,_⟩) | q)
     ·exact .inl q
     ·exact (h1 q).elim
     ·omega
    ·rintro (q | q)
     ·exact .inl (.inl q)
     ·omega
   ·rw [if_neg hw]
    by_cases hm:k∈τ.su w
    ·rw [if_pos hm,if_pos hm]
     constructor
     ·rintro ((q | ⟨_,q⟩) | q)
      ·exact .inl q
      ·have:τ.np k - 1=0:=by exact bi_ieq.mp q
       right;omega
      ·right;lia
     ·rintro (q | q)
      ·exact .inl (.inl q)
      ·by_cases h1:τ.np k - 1=0
       ·exact .inl (.inr ⟨hm,by simpa using h1⟩)
       ·right;omega
    ·rw [if_neg hm,if_neg hm]
     constructor
     ·rintro ((q | ⟨q,_⟩) | q)
      ·exact .inl q
      ·exact (hm q).elim
      ·right;lia
     ·rintro (q | q)
      ·exact .inl (.inl q)
      ·right;lia
theorem ym:∀ (ks:List Int) (σ:TS) (k:Int),(σ.outs ks).np k=if k∈ks then -1 else σ.np k
 | [],σ,k=>by rfl
 | x::ks,σ,k=>by
  have e:σ.outs (x::ks)=(σ.more x (-1)).outs ks:=rfl
  rw [e,ym ks]
  by_cases h:k∈ks
  ·rw [if_pos h,if_pos (mem_cons_of_mem _ h)]
  ·rw [if_neg h]
   show i9 σ.np x (-1) k=_
   by_cases q:k=x
   ·rw [q];rw [ba,if_pos mem_cons_self]
   ·rw [bx _ _ q,if_neg (List.not_mem_cons_of_ne_of_not_mem q h)]
end L1
namespace L1
noncomputable def bL (aq:List (List Int)) (k:Int):List Int:=aq.getD k.toNat []
structure qv(aq:List (List Int))(ρ:Int->Nat)(T:Nat):Prop where
 cl:wX aq
 nd:∀ i,(aq.getD i []).Nodup
 lt:∀ k p:Int,0<=k->k<(aq.length:Int)->ρ k<T->p∈bL aq k->ρ p<ρ k
 step:∀ (k:Int) (t:Nat),0<=k->k<(aq.length:Int)->ρ k<T->ρ k=t+1->∃ p∈bL aq k,ρ p=t
 stuck:∀ k:Int,0<=k->k<(aq.length:Int)->ρ k=T->∃ p∈bL aq k,ρ p=T
 Hz:∀ k:Int,0<=k->k<(aq.length:Int)->ρ k<=T
 len:aq.length<=100
def inR(aq:List (List Int))(k:Int):Prop:=0<=k/\k<(aq.length:Int)
theorem Ae{aq:List (List Int)}(nd:∀ i,(aq.getD i []).Nodup)(m:Nat)(k:Int):(gp aq m k).Pairwise (·<·):=by
 unfold gp
 rw [List.pairwise_flatMap]
 apply ⟨λi Z=>?_,?_⟩
 ·have h:((aq.getD i []).filter (· == k)).length<=1:=by
   rw [<- List.countP_eq_length_filter]
   exact List.nodup_iff_count.mp (nd i) k
  generalize (aq.getD i []).filter (· == k)=l at h
  rcases l with _ | ⟨x,_ | ⟨y,t⟩⟩
  ·exact .nil
  ·simp
  ·simp at h
 ·apply List.Pairwise.imp (fun {a b} H4 x hx y hy=>?_) List.pairwise_lt_range
  obtain ⟨_,_,rfl⟩:=mem_map.mp hx
  obtain ⟨_,_,rfl⟩:=mem_map.mp hy
  exact ofNat_lt.mpr H4
theorem tW{aq:List (List Int)}{v k:Int}:k∈(sig aq).su v↔inR aq k/\v∈bL aq k:=by
 rw [CK,EB]
 unfold inR bL
 exact and_assoc.symm
theorem qw{aq:List (List Int)}(nd:∀ i,(aq.getD i []).Nodup)(v:Int):((sig aq).su v).Nodup:=by
 rw [CK]
 exact (Ae nd _ v).imp λh=>by exact Int.ne_of_lt h
theorem ig{l:List Int}{n:Nat}(h:l.Nodup)(hm:∀ x∈l,0<=x/\x<n):l.length<=n:=by
 have:=h.length_le_of_subset (l₂:=(List.range n).map λ(i:Nat)=>(i:Int)) (λx hx=>by
  apply aC (hm x hx) λh1 h2=>?_
  exact mem_map.mpr (iDPP x.toNat (mem_range.mpr ((toNat_lt h1).mpr h2)) (toNat_of_nonneg h1)))
 simpa using this
structure RS(aq:List (List Int))(ρ:Int->Nat)(T t:Nat)(τ:TS)(rd:List Int):Prop where
 no:τ.nodes=(sig aq).nodes
 su:τ.su=(sig aq).su
 np:∀ k,inR aq k->t<=ρ k->τ.np k=(((bL aq k).filter λp=>decide (t<=ρ p)).length:Int)
 nd:rd.Nodup
 mem:∀ k,k∈rd↔inR aq k/\ρ k=t/\t<T
variable {aq:List (List Int)}{ρ:Int->Nat}{T:Nat}
theorem wZ(R:qv aq ρ T){t:Nat}{rd:List Int}(ht:t<T)(nd:rd.Nodup)(mem:∀ k,k∈rd↔inR aq k/\ρ k=t/\t<T){k:Int}(hk:inR aq k) :
  cnt (sig aq).su rd k=((bL aq k).filter λp=>decide (ρ p=t)).length:=by
 unfold cnt
 apply List.Perm.length_eq ((List.perm_ext_iff_of_nodup (nd.filter _) ((R.nd _).filter _)).mpr λw=>?_)
 rw [mem_filter,mem_filter,mem,decide_eq_true_iff,decide_eq_true_iff,tW]
 exact ⟨λq=>⟨q.2.2,q.1.2.1⟩,λeC=>aC eC λh1 h2=>⟨⟨R.cl _ _ h1,h2,ht⟩,hk,h1⟩⟩
theorem tX(l:List Int)(ρ:Int->Nat)(t:Nat):(l.filter λp=>decide (t<=ρ p)).length=(l.filter λp=>decide (ρ p=t)).length+(l.filter λp=>decide (t+1<=ρ p)).length:=by
 induction l with
 | nil=>rfl
 | cons x l ih =>
  rw [filter_cons,filter_cons,filter_cons]
  by_cases h1:ρ x=t
  ·rw [if_pos (by simp;exact le_of_eq (id (Eq.symm h1))),if_pos (by simpa using h1),if_neg (by simp;lia)]
   simp only [length_cons];lia
  ·by_cases h2:t+1<=ρ x
   ·rw [if_pos (by simp;exact le_of_succ_le h2),if_neg (by simpa using h1),if_pos (decide_eq_true h2)]
    simp only [length_cons];exact Nat.add_left_inj.mpr ih
   ·rw [if_neg (by simp;lia),if_neg (by simpa using h1),if_neg (by simpa using h2)]
    exact ih
theorem EC(R:qv aq ρ T){t:Nat}{τ:TS}{rd:List Int}(Jt:t<T)(S:RS aq ρ T t τ rd):RS aq ρ T (t+1) (TS.cH (τ.outs rd,[]) rd).1 (TS.cH (τ.outs rd,[]) rd).2/\τ.Good rd:=by
 apply aC (TS.kD τ rd) λo1 o2=>?_
 have J7:=ym rd τ
 have rk:∀ w∈rd,ρ w=t:=λw hw=>((S.mem w).mp hw).2.1
 have indep:∀ w∈rd,∀ w'∈rd,w' ∉ (sig aq).su w:=λw hw w' J8 h=>by
  apply aC (tW.mp h) λh1 h2=>?_
  have:=R.lt w' w h1.1 h1.2 (by rw [rk w' J8];exact Jt) h2
  rw [rk w hw,rk w' J8] at this
  lia
 have w5:(τ.outs rd).su=(sig aq).su:=o2.trans S.su
 apply sx (qu rd (τ.outs rd) [] S.nd (by rw [w5];exact qw R.nd) (by rw [w5];exact indep) (λw hw=>by rw [J7,if_pos hw];exact Int.neg_ofNat_le_ofNat 1 0) nodup_nil (λk hk=>by cases hk)) λd1 d2 d3 d4 d5=>?_
 rw [w5] at d2 d3 d5
 have LZ:∀ k,inR aq k->t+1<=ρ k->(τ.outs rd).np k=(((bL aq k).filter λp=>decide (ρ p=t)).length:Int)+((bL aq k).filter λp=>decide (t+1<=ρ p)).length:=λk hk ht=>by
  rw [J7,if_neg (λq=>by have:=rk k q;lia),S.np k hk (le_of_succ_le ht),tX];exact Int.natCast_add (filter (λp=>decide (ρ p=t)) (bL aq k)).length (filter (λp=>decide (t+1<=ρ p)) (bL aq k)).length
 apply (aX (⟨d1.trans (o1.trans S.no),d2,λk hk ht=>?_,d4,λk=>?_⟩) ?_ (λk hk=>?_) (λi k hi=>?_))
 ·rw [d3,if_neg (λq=>by have:=rk k q;lia),LZ k hk ht,wZ R Jt S.nd S.mem hk]
  exact Int.sub_eq_iff_eq_add'.mpr rfl
 ·rw [d5]
  constructor
  ·rintro (q | ⟨q1,q2⟩)
   ·cases q
   ·have hc:1<=cnt (sig aq).su rd k:=by lia
    obtain ⟨w,hw⟩:∃ w,w∈rd.filter λw=>decide (k∈(sig aq).su w):=List.exists_mem_of_length_pos (by unfold cnt at hc;exact Nat.zero_lt_of_lt hc)
    rw [mem_filter,decide_eq_true_iff] at hw
    apply aC (tW.mp hw.2) λhk Pe=>?_
    have h2:=rk w hw.1
    have Hg:=R.Hz k hk.1 hk.2
    have E7:t+1<=ρ k:=by
     by_cases z:ρ k<T
     ·have h1:=R.lt k w hk.1 hk.2 z Pe;exact le_of_eq_of_le (congrFun (congrArg HAdd.hAdd (id (Eq.symm h2))) 1) h1
     ·lia
    rw [LZ k hk E7,wZ R Jt S.nd S.mem hk] at q2
    have none:∀ p∈bL aq k,¬ t+1<=ρ p:=λp hp z=>by
     have:0<((bL aq k).filter λp=>decide (t+1<=ρ p)).length:=List.length_pos_of_mem (mem_filter.mpr ⟨hp,decide_eq_true z⟩)
     lia
    have i4:ρ k<T:=by
     apply byContradiction λz=>?_
     apply aj (R.stuck k hk.1 hk.2 (by exact zA Hg z)) λp hp qD=>?_
     exact none p hp (le_of_le_of_eq Jt (id (Eq.symm qD)))
    have he:ρ k=t+1:=by
     apply byContradiction λfK=>?_
     apply aj (R.step k (ρ k - 1) hk.1 hk.2 i4 (by exact zG E7)) λp hp qD=>?_
     exact none p hp (by lia)
    exact ⟨hk,he,by exact lt_of_le_of_lt E7 i4⟩
  ·(intro bN;apply bq bN ?_;clear bN;intro hk ht hT)
   apply .inr ?_
   have Hh:((bL aq k).filter λp=>decide (t+1<=ρ p)).length=0:=by
    rw [List.length_eq_zero_iff,List.filter_eq_nil_iff]
    intro p hp
    have:=R.lt k p hk.1 hk.2 (lt_of_eq_of_lt ht hT) hp
    simp;exact Nat.lt_of_lt_of_eq this ht
   rw [LZ k hk (le_of_eq (id (Eq.symm ht))),Hh,wZ R Jt S.nd S.mem hk]
   apply aj (R.step k t hk.1 hk.2 (by exact lt_of_eq_of_lt ht hT) ht) λp hp qD=>?_
   have:0<((bL aq k).filter λp=>decide (ρ p=t)).length:=List.length_pos_of_mem (mem_filter.mpr ⟨hp,by simpa using qD⟩)
   lia
 ·exact le_trans (ig S.nd λx hx=>((S.mem x).mp hx).1) R.len
 ·rw [S.no]
  exact ((mZ R.cl).2 k).mpr ((S.mem k).mp hk).1
 ·have ht:∀ x∈rd.take i,x∈rd:=λx hx=>List.mem_of_mem_take hx
  (apply sx (qu (rd.take i) (τ.outs rd) [] (S.nd.sublist (List.take_sublist _ _)) (by rw [w5];exact qw R.nd) (by rw [w5];exact λw hw w' J8=>indep w (ht w hw) w' (ht w' J8)) (λw hw=>by rw [J7,if_pos (ht w hw)];exact Int.neg_ofNat_le_ofNat 1 0) nodup_nil (λk hk=>by cases hk)) ?_;intro Z Z e3 Z Z)
  have M5:k∈rd:=mem_of_getElem? hi
  have L0:k ∉ rd.take i:=λq=>by
   apply bw (getElem?_of_mem q) λj hj=>?_
   rw [List.getElem?_take] at hj
   split at hj
   ·rename_i hji
    have hl:=(List.getElem?_eq_some_iff.mp hi).1
    have:=(List.getElem?_inj (List.getElem?_eq_some_iff.mp hj).1 S.nd).mp (hj.trans hi.symm)
    lia
   ·exact bf hj
  rw [e3,if_neg L0,J7,if_pos M5,w5,vq λw hw=>indep w (ht w hw) k M5];rfl
theorem ED(R:qv aq ρ T):RS aq ρ T 0 (sig aq) (freeOf aq):=by
 apply aC (mZ R.cl) λn1 n2=>?_
 apply ⟨rfl,rfl,λk hk Z=>?_,n1.filter _,λk=>?_⟩
 ·rw [wY,if_pos (show 0<=k/\k<(aq.length:Int) from hk)]
  have:(bL aq k).filter (λp=>decide (0<=ρ p))=bL aq k:=filter_eq_self.mpr λZ Z=>by rfl
  rw [this];rfl
 ·unfold freeOf TS.free
  rw [mem_filter,n2]
  constructor
  ·(intro cI;apply aC cI ?_;clear cI;intro h1 h2)
   rw [wY,if_pos h1] at h2
   have h3:(bL aq k).length=0:=by
    have:(((aq.getD k.toNat []).length:Nat):Int)=0:=eq_of_beq h2
    unfold bL;exact Int.ofNat_eq_zero.mp this
   have none:∀ p,p ∉ bL aq k:=λp hp=>by have:=List.length_pos_of_mem hp;lia
   have Hg:=R.Hz k h1.1 h1.2
   have i4:ρ k<T:=by
    apply byContradiction λz=>?_
    apply aj (R.stuck k h1.1 h1.2 (by exact zA Hg z)) λp hp Z=>?_
    exact none p hp
   apply ⟨h1,byContradiction λfK=>?_,by exact Nat.zero_lt_of_lt i4⟩
   (apply aj (R.step k (ρ k - 1) h1.1 h1.2 i4 (Eq.symm (Nat.succ_pred_eq_of_ne_zero fK))) ?_;intro p hp Z)
   exact none p hp
  ·(intro dH;apply bq dH ?_;clear dH;intro h1 h2 h3)
   apply ⟨h1,?_⟩
   rw [wY,if_pos (show 0<=k/\k<(aq.length:Int) from h1)]
   have:bL aq k=[]:=by
    cases hq:bL aq k with
    | nil=>rfl
    | cons p r=>have:=R.lt k p h1.1 h1.2 (lt_of_eq_of_lt h2 h3) (by rw [hq];exact mem_cons_self);lia
   unfold bL at this
   rw [this];rfl
theorem qx(R:qv aq ρ T)(hx:∀ t,t<T->∃ k,inR aq k/\ρ k=t) :
  ∀ (j t:Nat) (τ:TS) (rd:List Int),t+j=T->RS aq ρ T t τ rd->∃ rs,wH j τ rd rs/\rs.length=j/\∀ i r,rs[i]?=some r->r.Nodup/\(∀ k,k∈r↔inR aq k/\ρ k=t+i)
 | 0,t,τ,rd,h,S=>by
  have:rd=[]:=by
   cases rd with
   | nil=>rfl
   | cons k r=>have:=((S.mem k).mp mem_cons_self).2.2;lia
  subst this
  exact (aV ([]) .stop rfl (λi r e=>by simp at e))
 | j+1,t,τ,rd,h,S=>by
  apply aC (EC R (by lia) S) λS2 g=>?_
  apply bM (qx R hx j (t+1) _ _ (by lia) S2) λrs h1 h2 h3=>?_
  have fK:rd≠[]:=by
   apply aj (hx t (by lia)) λk k1 k2=>?_
   intro e
   have:=(S.mem k).mpr ⟨k1,k2,by lia⟩
   rw [e] at this;cases this
  apply (aV (rd::rs) (.turn fK g h1) (congrArg Nat.succ h2) (λi r e=>?_))
  cases i with
  | zero =>
   cases e
   exact ⟨S.nd,λk=>⟨λq=>have z:=(S.mem k).mp q;⟨z.1,z.2.1⟩,λq=>(S.mem k).mpr ⟨q.1,q.2,by lia⟩⟩⟩
  | succ i =>
   rw [show t+(i+1)=t+1+i by exact Eq.symm (Nat.succ_add_eq_add_succ t i)]
   exact h3 i r e
end L1
namespace L1
noncomputable def kF (su:Int->List Int):List Int->Prop
 | []=>True
 | v::r=>(∀ k∈su v,k∈r)/\kF su r
noncomputable def t7 (su:Int->List Int) (ord:List Int):List (Int×Nat)->Int->Prop
 | [],_=>True
 | (w,i)::r,v=>(∃ i',i=i'+1/\(su w)[i']?=some v/\∀ j,j<i'->∀ k,(su w)[j]?=some k->k∈ord)/\t7 su ord r w
noncomputable def Pre (su:Int->List Int) (ord:List Int):List (Int×Nat)->Prop
 | []=>True
 | (w,i)::r=>(∀ j,j<i->∀ k,(su w)[j]?=some k->k∈ord)/\t7 su ord r w
noncomputable def w6 (su:Int->List Int):List Int->Prop
 | []=>True
 | [_]=>True
 | x::y::r=>y∈su x/\w6 su (y::r)
section
variable {su:Int->List Int}{nodes:List Int}
theorem t7.mono{o o':List Int}(h:∀ x∈o,x∈o'):∀ {qs:List (Int×Nat)} {v:Int},t7 su o qs v->t7 su o' qs v
 | [],_,_=>trivial
 | (w,i)::r,v,q=>⟨bM q.1 λi' e h1 h2=>(aV i' e h1 (λj hj k hk=>h _ (h2 j hj k hk))),t7.mono h q.2⟩
theorem t7.pre{o:List Int}{qs:List (Int×Nat)}{v:Int}(S:t7 su o qs v)(hv:v∈o):Pre su o qs:=by
 cases qs with
 | nil=>exact trivial
 | cons q r =>
  apply bM S.1 λi' e h1 h2=>⟨λj hj k hk=>?_,S.2⟩
  by_cases q:j=i'
  ·subst q;rw [h1] at hk;cases hk;exact hv
  ·exact h2 j (by lia) k hk
theorem t7.new{o:List Int}{qs:List (Int×Nat)}{v:Int}(S:t7 su o qs v):Pre su o ((v,0)::qs):=⟨λj hj=>absurd hj (not_lt_zero _),S⟩
noncomputable def lT (su:Int->List Int) (qs:List (Int×Nat)):Nat:=(qs.map λq=>(su q.1).length - q.2).sum
theorem w7:∀ (qs:List (Int×Nat)) (o:List Int),kF su o->Pre su o qs ->
  (popR su qs=none->∃ o',kF su o'/\∀ x,x∈o'↔x∈o\/x∈qs.map (·.1)) /\
  (∀ w jS,popR su qs=some (w,jS)->(∃ o',kF su o'/\t7 su o' jS w/\∀ x,x∈o'\/x∈jS.map (·.1)↔x∈o\/x∈qs.map (·.1))/\(jS.map (·.1)).Sublist (qs.map (·.1))/\lT su jS<lT su qs/\∃ u,w∈su u)
 | [],o,T,P=>by
  apply ⟨λZ=>⟨o,T,λx=>by simp⟩,λw jS e=>?_⟩
  exact bf e
 | (v,i)::r,o,T,P=>by
  apply aC P λp1 p2=>?_
  cases e:(su v)[i]? with
  | some x =>
   have ep:popR su ((v,i)::r)=some (x,(v,i+1)::r):=by unfold popR;rw [e]
   rw [ep]
   apply ⟨λh=>(dc h),λw jS h=>?_⟩
   cases h
   have hi:i<(su v).length:=(List.getElem?_eq_some_iff.mp e).1
   apply ⟨((aV o T (⟨⟨i,rfl,e,p1⟩,p2⟩) (λx=>Iff.rfl))),(List.Sublist.refl _),?_,v,(mem_of_getElem? e)⟩
   unfold lT
   simp only [map_cons,List.sum_cons]
   lia
  | none =>
   have ep:popR su ((v,i)::r)=popR su r:=by conv=>lhs;unfold popR;rw [e]
   rw [ep]
   have hl:(su v).length<=i:=List.getElem?_eq_none_iff.mp e
   have T2:kF su (v::o):=⟨λk hk=>by
    apply bw (getElem?_of_mem hk) λj hj=>?_
    have:=(List.getElem?_eq_some_iff.mp hj).1
    exact p1 j (lt_of_lt_of_le this hl) k hj,T⟩
   have P2:Pre su (v::o) r:=(p2.mono λx hx=>mem_cons_of_mem _ hx).pre mem_cons_self
   apply aC (w7 r (v::o) T2 P2) λa b=>?_
   have hm:∀ x,(x∈v::o\/x∈r.map (·.1))↔x∈o\/x∈((v,i)::r).map (·.1):=λx=>by
    simp only [mem_cons,map_cons]
    constructor
    ·rintro ((h | h) | h)
     ·exact .inr (.inl h)
     ·exact .inl h
     ·exact .inr (.inr h)
    ·rintro (h | h | h)
     ·exact .inl (.inr h)
     ·exact .inl (.inl h)
     ·exact .inr h
   apply ⟨λh=>?_,λw jS h=>?_⟩
   ·apply aj (a h) λo' t m=>?_
    exact (iDPP o' t (λx=>(m x).trans (hm x)))
   ·(apply dj (b w jS h) ?_;intro aM h2 h3 h4;apply bM aM ?_;clear aM;intro o' t s m)
    apply (aX ((aV o' t s (λx=>(m x).trans (hm x)))) (h2.trans (List.sublist_cons_self _ _)) ?_ h4)
    have:lT su ((v,i)::r)=((su v).length - i)+lT su r:=by unfold lT;rfl
    lia
theorem w6.snoc:∀ {l:List Int} {x y:Int},w6 su (l++[x])->y∈su x->w6 su (l++[x]++[y])
 | [],x,y,_,h=>⟨h,trivial⟩
 | [a],x,y,c,h=>⟨c.1,h,trivial⟩
 | a::b::l,x,y,c,h=>⟨c.1,w6.snoc (l:=b::l) c.2 h⟩
theorem t7.M6{o:List Int}{u:Int}{b:List (Int×Nat)}{iu:Nat}:∀ (a:List (Int×Nat)) (v:Int),t7 su o (a++(u,iu)::b) v->w6 su ((u::(a.map (·.1)).reverse)++[v])
 | [],v,h=>bM h.1 λi' e h1 Z=>⟨mem_of_getElem? h1,trivial⟩
 | (w,i)::a,v,h=>bM h.1 λi' e h1 Z=>by
  have ih:=t7.M6 a w h.2
  have:=w6.snoc (l:=u::(a.map (·.1)).reverse) ih (mem_of_getElem? h1)
  rw [map_cons,reverse_cons]
  exact this
theorem CM:∀ (a:List Int) (v:Int) (b:List Int),v ∉ a->posOf (a++v::b) v=b.length
 | [],v,b,_=>by show (if v=v then _ else _)=_;rw [if_pos rfl]
 | w::a,v,b,h=>by
  show (if w=v then _ else _)=_
  rw [if_neg (λz=>h (by rw [z];exact mem_cons_self))]
  exact CM a v b λz=>h (mem_cons_of_mem _ z)
theorem Hi{a b:List Int}{v:Int}(h:v ∉ a):nG (a++v::b) v=(v::a.reverse)++[v]:=by
 unfold nG
 rw [CM a v b h,List.reverse_append,reverse_cons,append_assoc]
 rw [drop_append_of_le_length (by rw [length_reverse];exact le_refl _)]
 rw [List.drop_of_length_le (by rw [length_reverse];exact le_refl _)];rfl
theorem vr{v:Int}:∀ {qs:List (Int×Nat)},v∈qs.map (·.1)->∃ a iu b,qs=a++(v,iu)::b/\v ∉ a.map (·.1)
 | [],h=>by cases h
 | (w,i)::r,h=>by
  by_cases q:w=v
  ·rw [q];exact (dw ([]) i r rfl (by simp))
  ·rcases mem_cons.mp h with h | h
   ·exact (q h.symm).elim
   ·apply cw (vr h) λa iu b e n=>?_
    exact (dw ((w,i)::a) iu b (by rw [e];rfl) (λz=>(mem_cons.mp z).elim (λz=>q z.symm) n))
def w8(su:Int->List Int)(q:List Int):Prop:=∃ v a,q=(v::a)++[v]/\(v::a).Nodup/\w6 su q
theorem EE{o:List Int}{qs:List (Int×Nat)}{v:Int}(S:t7 su o qs v)(nd:(qs.map (·.1)).Nodup)(hv:v∈qs.map (·.1)):w8 su (nG (qs.map (·.1)) v):=by
 (apply cw (vr hv) ?_;intro a iu b bk;subst bk;intro hn)
 rw [map_append,map_cons] at nd ⊢
 rw [Hi hn]
 apply (aH v ((a.map (·.1)).reverse) rfl ?_ (t7.M6 a v S))
 rw [nodup_cons,List.mem_reverse]
 exact ⟨hn,(List.reverse_perm _).nodup_iff.mpr (nd.sublist (List.sublist_append_left _ _))⟩
noncomputable def m5 (nodes seen:List Int):Nat:=(nodes.filter λv=>decide (v ∉ seen)).length
theorem vt{seen:List Int}{v:Int}(hv:v∈nodes)(hs:v ∉ seen):m5 nodes (v::seen)<m5 nodes seen:=by
 unfold m5
 have e:(nodes.filter λx=>decide (x ∉ v::seen))=(nodes.filter λx=>decide (x ∉ seen)).filter λx=>decide (x≠v):=by
  rw [List.filter_filter]
  apply filter_congr λx Z=>?_
  simp [mem_cons,not_or]
 rw [e]
 exact List.length_filter_lt_length_iff_exists.mpr (iDPP v (mem_filter.mpr ⟨hv,by simpa using hs⟩) (by simp))
noncomputable def Ju (su:Int->List Int):zS->Prop
 | .cyc q=>w8 su q
 | .fin s=>∃ o,kF su o/\∀ x,x∈o↔x∈s
theorem CO(hm:∀ v k,k∈su v->k∈nodes):∀ (U M:Nat) (seen:List Int) (qs:List (Int×Nat)) (v:Int) (o:List Int),m5 nodes seen<=U->lT su qs<=M->v∈nodes->kF su o->t7 su o qs v->(qs.map (·.1)).Nodup->(∀ x,x∈seen↔x∈o\/x∈qs.map (·.1)) ->
  ∃ n fr,Runs su n seen qs v fr/\Ju su fr/\∀ s,fr=.fin s->∀ x∈v::seen,x∈s:=by
 intro U
 induction U using Nat.strongRecOn with
 | ind U Pf =>
  intro M
  induction M using Nat.strongRecOn with
  | ind M Pg =>
   intro seen qs v o hU hM hn hT hS hN hx
   by_cases hs:v∈seen
   ·by_cases hq:v∈qs.map (·.1)
    ·apply (aH 1 (.cyc (nG (qs.map λ(x:Int×Nat)=>x.1) v)) (⟨λZ=>⟨λZ=>rfl,λz=>(z hq).elim⟩,λz=>(z hs).elim⟩) (EE hS hN hq) (λs e=>?_))
     cases e
    ·have Ph:v∈o:=((hx v).mp hs).elim id λz=>(hq z).elim
     apply aC (w7 qs o hT (hS.pre Ph)) λp1 p2=>?_
     cases e:popR su qs with
     | none =>
      apply aj (p1 e) λo' t m=>?_
      apply (aH 1 (.fin seen) (.LN hs hq e) (⟨o',t,λx=>(m x).trans (hx x).symm⟩) (λs e x hx=>?_))
      cases e
      exact (mem_cons.mp hx).elim (λz=>by rw [z];exact hs) id
     | some y =>
      obtain ⟨w,jS⟩:=y
      (apply Aq (p2 w jS e) ?_;intro bN h2 h3 u hu;apply bM bN ?_;clear bN;intro o' t s m)
      apply ay (Pg (lT su jS) (by exact lt_of_lt_of_le h3 hM) seen jS w o' hU (le_refl _) (hm u w hu) t s (hN.sublist h2) λx=>(hx x).trans (m x).symm) λn fr R E E2=>?_
      exact (aH (n+1) fr (.old hs hq e R) E (λs e x hx=>E2 s e x (mem_cons_of_mem _ ((mem_cons.mp hx).elim (λz=>by rw [z];exact hs) id))))
   ·have Pj:v ∉ qs.map (·.1):=λz=>hs ((hx v).mpr (.inr z))
    have M7:∀ x,x∈v::seen↔x∈o\/x∈((v,0)::qs).map (·.1):=λx=>by
     simp only [mem_cons,map_cons,hx x]
     constructor
     ·rintro (h | h | h)
      ·exact .inr (.inl h)
      ·exact .inl h
      ·exact .inr (.inr h)
     ·rintro (h | h | h)
      ·exact .inr (.inl h)
      ·exact .inl h
      ·exact .inr (.inr h)
    (apply aC (w7 ((v,0)::qs) o hT hS.new) ?_;intro p1 p2)
    cases e:popR su ((v,0)::qs) with
    | none =>
     apply aj (p1 e) λo' t m=>?_
     apply (aH 1 (.fin (v::seen)) (.LO hs e) (⟨o',t,λx=>(m x).trans (M7 x).symm⟩) (λs e x hx=>?_))
     cases e
     exact hx
    | some y =>
     obtain ⟨w,jS⟩:=y
     (apply Aq (p2 w jS e) ?_;intro cI h2 h3 u hu;apply bM cI ?_;clear cI;intro o' t s m)
     have i4:=vt hn hs
     (apply ay (Pf (m5 nodes (v::seen)) (lt_of_lt_of_le i4 hU) (lT su jS) (v::seen) jS w o' (le_refl _) (le_refl _) (hm u w hu) t s ((nodup_cons.mpr ⟨Pj,hN⟩:(((v,0)::qs).map (·.1)).Nodup).sublist h2) λx=>(M7 x).trans (m x).symm) ?_;intro n fr R E E2)
     exact (aH (n+1) fr (.new hs e R) E (λs e x hx=>E2 s e x (mem_cons_of_mem _ hx)))
theorem m6(hm:∀ v k,k∈su v->k∈nodes):∀ (l seen o:List Int),(∀ v∈l,v∈nodes)->kF su o->(∀ x,x∈o↔x∈seen) ->
  ∃ res,fC su l seen res/\(res=none->∃ o',kF su o'/\(∀ x∈seen,x∈o')/\∀ x∈l,x∈o')/\∀ q,res=some q->w8 su q
 | [],seen,o,_,hT,hx=>(aV none rfl (λZ=>⟨o,hT,λx h=>(hx x).mpr h,λx h=>by cases h⟩) (λq h=>by exact bf h))
 | v::l,seen,o,h,hT,hx=>by
  by_cases hs:v∈seen
  ·(apply bM (m6 hm l seen o (λx hx=>h x (mem_cons_of_mem _ hx)) hT hx) ?_;intro res O a b)
   apply (aV res (.skip hs O) (λe=>?_) b)
   apply bM (a e) λo' t m1 m2=>?_
   exact (aV o' t m1 (λx hx=>(mem_cons.mp hx).elim (λz=>by rw [z];exact m1 v hs) (m2 x)))
  ·have Pk:t7 su o [] v:=trivial
   apply ay (CO hm (m5 nodes seen) 0 seen [] v o (le_refl _) (le_refl _) (h v mem_cons_self) hT Pk .nil λx=>by rw [<- hx x];simp) λn fr R E E2=>?_
   cases fr with
   | cyc q =>
    apply (aV (some q) (⟨λz=>(hs z).elim,λZ=>⟨n,.cyc q,R,rfl⟩⟩) (λe=>?_) (λq' e=>?_))
    ·exact dc e
    ·cases e;exact E
   | fin s =>
    apply aj E λo1 t1 m1=>?_
    (apply bM (m6 hm l s o1 (λx hx=>h x (mem_cons_of_mem _ hx)) t1 m1) ?_;intro res O a b)
    have ss:∀ x∈v::seen,x∈s:=E2 s rfl
    apply (aV res (.go hs R O) (λe=>?_) b)
    apply bM (a e) λo' t k1 k2=>?_
    exact (aV o' t (λx hx=>k1 x (ss x (mem_cons_of_mem _ hx))) (λx hx=>(mem_cons.mp hx).elim (λz=>by rw [z];exact k1 v (ss v mem_cons_self)) (k2 x)))
end
end L1
namespace L1
noncomputable def rk (f:Int->List Int):Nat->List Int->Int->Nat
 | 0,_,_=>0
 | n+1,left,k=>if (bl f left).isEmpty then 0 else if Br (bl f left) k then 0 else rk f n (cB f left) k+1
theorem gM{l:List Int}{k:Int}:Br l k=true↔k∈l:=by
 unfold Br
 rw [any_eq_true]
 exact ⟨λaM=>aj aM λx hx e=>by rw [<- eq_of_beq e];exact hx,λh=>(iDPP k h (beq_self_eq_true _))⟩
theorem lU{f:Int->List Int}{left:List Int}{k:Int}:k∈bl f left↔k∈left/\∀ p∈f k,p ∉ left:=by
 unfold bl pU
 rw [mem_filter,List.isEmpty_iff,List.filter_eq_nil_iff]
 apply and_congr_right λZ=>forall_congr' λp=>imp_congr_right λZ=>?_
 rw [gM]
theorem qy{f:Int->List Int}{left:List Int}{k:Int}:k∈cB f left↔k∈left/\k ∉ bl f left:=by
 unfold cB
 rw [mem_filter,not_eq_true',<- Bool.not_eq_true,gM]
structure Jv(f:Int->List Int)(left:List Int)(ρ:Int->Nat)(pe:List (List Int)×List Int):Prop where
 Hz:∀ k∈left,ρ k<=pe.1.length
 lt:∀ k∈left,ρ k<pe.1.length->∀ p∈f k,p∈left->ρ p<ρ k
 step:∀ k∈left,ρ k<pe.1.length->∀ t,ρ k=t+1->∃ p∈f k,p∈left/\ρ p=t
 stuck:∀ k∈left,ρ k=pe.1.length->∃ p∈f k,p∈left/\ρ p=pe.1.length
 all:∀ t,t<pe.1.length->∃ k∈left,ρ k=t
 Fw:pe.1=(List.range pe.1.length).map λi=>left.filter λk=>ρ k == i
 rest:pe.2=left.filter λk=>ρ k == pe.1.length
theorem qz(f:Int->List Int):∀ (n:Nat) (left:List Int),left.length<n->Jv f left (rk f n left) (ej f n left)
 | 0,left,h=>absurd h (not_lt_zero _)
 | n+1,left,h=>by
  cases e:(bl f left).isEmpty with
  | true =>
   have hr:rk f (n+1) left=λZ=>0:=by funext k;unfold rk;rw [if_pos e]
   have hp:ej f (n+1) left=([],left):=by unfold ej;rw [if_pos e]
   rw [hr,hp]
   rw [List.isEmpty_iff] at e
   apply ⟨λk Z=>le_refl _,λk Z z=>absurd z (lt_irrefl _),λk Z z=>absurd z (lt_irrefl _),λk hk Z=>?_,λt z=>absurd z (not_lt_zero _),rfl,?_⟩
   ·apply byContradiction λz=>?_
    have:k∈bl f left:=lU.mpr ⟨hk,λp hp hl=>z (aV p hp hl rfl)⟩
    rw [e] at this;cases this
   ·exact (filter_eq_self.mpr λZ Z=>rfl).symm
  | false =>
   have R:=qz f n (cB f left) (by have:=tw e;lia)
   have hp:ej f (n+1) left=(bl f left::(ej f n (cB f left)).1,(ej f n (cB f left)).2):=by conv=>lhs;unfold ej;rw [if_neg (by rw [e];decide)]
   have h0:∀ k,k∈bl f left->rk f (n+1) left k=0:=λk hk=>by unfold rk;rw [if_neg (by rw [e];decide),if_pos (gM.mpr hk)]
   have h1:∀ k,k ∉ bl f left->rk f (n+1) left k=rk f n (cB f left) k+1:=λk hk=>by conv=>lhs;unfold rk;rw [if_neg (by rw [e];decide),if_neg (λz=>hk (gM.mp z))]
   have hl:(ej f (n+1) left).1.length=(ej f n (cB f left)).1.length+1:=by rw [hp];rfl
   generalize rk f (n+1) left=ρ at h0 h1
   generalize rk f n (cB f left)=ρ' at R h1
   have hb:∀ k,k∈left->k∈bl f left\/k∈cB f left:=λk hk=>by
    by_cases q:k∈bl f left
    ·exact .inl q
    ·exact .inr (qy.mpr ⟨hk,q⟩)
   have nb:∀ k,k∈cB f left->k ∉ bl f left:=λk hk=>(qy.mp hk).2
   have rl:∀ k,k∈cB f left->k∈left:=λk hk=>(qy.mp hk).1
   apply ⟨λk hk=>?_,λk hk z p qD vE=>?_,λk hk z t ht=>?_,λk hk z=>?_,λt z=>?_,?_,?_⟩
   ·rw [hl]
    rcases hb k hk with q | q
    ·rw [h0 k q];exact le_add_left 0 ((ej f n (cB f left)).fst.length+1)
    ·rw [h1 k (nb k q)];have:=R.Hz k q;exact add_le_add_right this 1
   ·rcases hb k hk with q | q
    ·exact absurd vE ((lU.mp q).2 p qD)
    ·rw [h1 k (nb k q)] at z ⊢
     rcases hb p vE with r | r
     ·rw [h0 p r];exact Nat.zero_lt_succ (ρ' k)
     ·rw [h1 p (nb p r)]
      have:=R.lt k q (by lia) p qD r
      exact Nat.add_lt_add_right this 1
   ·rcases hb k hk with q | q
    ·rw [h0 k q] at ht;lia
    ·rw [h1 k (nb k q)] at z ht
     cases t with
     | zero =>
      have K9:=nb k q
      apply byContradiction λw=>K9 (lU.mpr ⟨hk,λp qD vE=>w (aV p qD vE ?_)⟩)
      rcases hb p vE with r | r
      ·exact h0 p r
      ·have:=R.lt k q (by lia) p qD r;lia
     | succ t =>
      (apply bM (R.step k q (by lia) t (Eq.symm (Nat.add_right_cancel (id (Eq.symm ht))))) ?_;intro p p1 p2 p3)
      exact (aV p p1 (rl p p2) (by rw [h1 p (nb p p2),p3]))
   ·rw [hl] at z ⊢
    rcases hb k hk with q | q
    ·rw [h0 k q] at z;lia
    ·rw [h1 k (nb k q)] at z
     apply bM (R.stuck k q (by exact Nat.add_right_cancel z)) λp p1 p2 p3=>?_
     exact (aV p p1 (rl p p2) (by rw [h1 p (nb p p2),p3]))
   ·cases t with
    | zero =>
     cases q:bl f left with
     | nil=>rw [q] at e;exact Bool.noConfusion e
     | cons a r =>
      have ha:a∈bl f left:=by rw [q];exact mem_cons_self
      exact (iDPP a ((lU.mp ha).1) (h0 a ha))
    | succ t =>
     apply aj (R.all t (by lia)) λk k1 k2=>?_
     exact (iDPP k (rl k k1) (by rw [h1 k (nb k k1),k2]))
   ·rw [hl,List.range_succ_eq_map,map_cons,map_map,hp]
    show bl f left::(ej f n (cB f left)).1=_
    congr 1
    ·unfold bl at h0 h1 hb ⊢
     apply filter_congr λk hk=>?_
     rcases hb k hk with q | q
     ·rw [h0 k q,(mem_filter.mp q).2];rfl
     ·have hn:=nb k q
      unfold bl at hn
      rw [h1 k hn]
      rw [show (pU f left k).isEmpty=false from eq_false_iff.mpr λz=>hn (mem_filter.mpr ⟨hk,z⟩)]
      rfl
    ·rw [R.Fw]
     rw [length_map,length_range]
     apply map_congr_left λi Z=>?_
     conv=>lhs;unfold cB
     rw [List.filter_filter]
     apply filter_congr λk hk=>?_
     by_cases q:k∈bl f left
     ·rw [gM.mpr q,h0 k q]
      show (_&&false)=(0 == i+1)
      rw [Bool.and_false];rfl
     ·rw [show Br (bl f left) k=false from eq_false_iff.mpr λz=>q (gM.mp z),h1 k q]
      show (_&&true)=(ρ' k+1 == i+1)
      rw [Bool.and_true,Bool.eq_iff_iff,beq_iff_eq,beq_iff_eq];exact Iff.symm Nat.add_left_inj
   ·rw [hl,hp]
    show (ej f n (cB f left)).2=_
    rw [R.rest]
    conv=>lhs;unfold cB
    rw [List.filter_filter]
    apply filter_congr λk hk=>?_
    by_cases q:k∈bl f left
    ·rw [show Br (bl f left) k=true from gM.mpr q,h0 k q]
     show (_&&false)=(0 == _+1)
     rw [Bool.and_false];rfl
    ·rw [show Br (bl f left) k=false from eq_false_iff.mpr λz=>q (gM.mp z),h1 k q]
     show (_&&true)=(ρ' k+1 == _+1)
     rw [Bool.and_true,Bool.eq_iff_iff,beq_iff_eq,beq_iff_eq]
     show ρ' k=(ej f n (cB f left)).1.length↔_
     exact Iff.symm Nat.add_left_inj
end L1
namespace L1
theorem dF{n:Nat}{p:Int}:p∈aT n↔0<=p/\p<n:=by
 unfold aT
 rw [mem_map]
 constructor
 ·(intro aM;apply aj aM ?_;clear aM;intro j hj bk;rw [<- bk])
  rw [mem_range] at hj;exact zE hj
 ·(intro bN;apply aC bN ?_;clear bN;intro h1 h2)
  exact (iDPP p.toNat (mem_range.mpr ((toNat_lt h1).mpr h2)) (toNat_of_nonneg h1))
theorem nN(n:Nat):(aT n).Pairwise (·<·):=by
 unfold aT
 rw [List.pairwise_map]
 exact List.pairwise_lt_range.imp λh=>by exact ofNat_lt.mpr h
theorem lV(n:Nat)(f:Int->List Int):gn ((aT n).map f)=gN n f:=by
 apply ext_getElem? λi=>?_
 unfold gn gN aT
 rw [map_map,map_map,getElem?_map,getElem?_zipIdx,getElem?_map,getElem?_map]
 by_cases h:i<n
 ·rw [getElem?_range h];simp
 ·rw [getElem?_eq_none (by simp;exact le_of_not_lt h)];rfl
theorem w6.at{su:Int->List Int}:∀ {q:List Int} (_:w6 su q) (j:Nat),j+1<q.length->q.getD (j+1) 0∈su (q.getD j 0)
 | [],_,j,h=>by simp at h
 | [_],_,j,h=>by simp at h
 | x::y::r,c,0,_=>c.1
 | x::y::r,c,j+1,h=>w6.at c.2 j (by simp at h ⊢;omega)
theorem w6.lt{su:Int->List Int}{ρ:Int->Nat}(hr:∀ v k,k∈su v->ρ v<ρ k):∀ {l:List Int} {x y:Int},w6 su (x::l++[y])->ρ x<ρ y
 | [],x,y,c=>hr _ _ c.1
 | z::l,x,y,c=>lt_trans (hr _ _ c.1) (w6.lt hr (l:=l) c.2)
theorem kF.sub{su:Int->List Int}:∀ {o:List Int} (_:kF su o) {p:Int},p∈o->∀ k∈su p,k∈o
 | v::r,T,p,h=>by
  rcases mem_cons.mp h with rfl | h
  ·exact λk hk=>mem_cons_of_mem _ (T.1 k hk)
  ·exact λk hk=>mem_cons_of_mem _ (T.2.sub h k hk)
theorem kF.no{su:Int->List Int}{L:Int->Prop}(hL:∀ k,L k->∃ p,L p/\k∈su p){x:Int}(hx:L x):∀ {o:List Int},kF su o->(∀ k,L k->k∈o)->False
 | [],_,h=>by cases h x hx
 | v::r,T,h=>kF.no hL hx T.2 λk hk=>by
  rcases mem_cons.mp (h k hk) with e | h'
  ·rw [<- e]
   apply aj (hL k hk) λp hp IF=>?_
   rcases mem_cons.mp (h p hp) with e | h'
   ·subst e;exact T.1 _ IF
   ·exact T.2.sub h' k IF
  ·exact h'
theorem nO:∀ (l acc:List Int),(acc++l).Nodup->l.foldl step_dedup acc=acc++l
 | [],acc,_=>(append_nil _).symm
 | x::l,acc,h=>by
  have hx:x ∉ acc:=λz=>(nodup_append.mp h).2.2 x z x mem_cons_self rfl
  have e:step_dedup acc x=acc++[x]:=by
   unfold step_dedup
   rw [if_neg]
   rw [any_eq_true]
   (intro cI;apply aj cI ?_;clear cI;intro y hy e)
   exact hx (eq_of_beq e▸hy)
  rw [foldl_cons,e,nO l (acc++[x]) (by rw [append_assoc];exact h),append_assoc];rfl
theorem vy{v:Int}{a:List Int}(h:(v::a).Nodup):iM ((v::a)++[v])=((v::a)++[v]).length - 1:=by
 have e:(List.range ((v::a)++[v]).length).map (λi=>((v::a)++[v]).getD i 0)=(v::a)++[v]:=by
  apply ext_getElem? λi=>?_
  rw [getElem?_map]
  by_cases hi:i<((v::a)++[v]).length
  ·rw [getElem?_range hi,getElem?_eq_getElem hi]
   show some (((v::a)++[v]).getD i 0)=_
   rw [getD_eq_getElem?_getD,getElem?_eq_getElem hi];rfl
  ·rw [getElem?_eq_none (by rw [length_range];exact le_of_not_lt hi),getElem?_eq_none (le_of_not_lt hi)];rfl
 unfold iM firstMet
 rw [e,foldl_append,nO (v::a) [] h]
 show (step_dedup (v::a) v).length=_
 unfold step_dedup
 rw [if_pos (by rw [any_cons,beq_self_eq_true];rfl),length_append];rfl
theorem nQ(f:Int->List Int):∀ (n:Nat) (left:List Int),(ej f n left).1.length<=n
 | 0,left=>le_refl _
 | n+1,left=>by
  unfold ej
  split
  ·exact zero_le _
  ·exact succ_le_succ (nQ f n _)
structure EF(n nn:Nat)(f:Int->List Int)(res:Option (List Int))(rs:List (List Int)):Prop where
 g:J3 (gN n f)
 out:fC (TS.none.adds (gN n f)).su (TS.none.adds (gN n f)).nodes [] res
 Fw:wH nn (TS.none.adds (gN n f)) ((TS.none.adds (gN n f)).free (TS.none.adds (gN n f)).nodes) rs
 l8:rs.length<=1000
 small:∀ r∈rs,r.length<64
 ring:∀ q,res=some q->q≠[]/\q.length<=1000/\tA q (aT n) f
 G9:res.isSome=!(di f (aT n)).2.isEmpty
 ej:rs.map sortI=(di f (aT n)).1
theorem vz:∀ (g:List (Int×List Int)) (b:Nat),(∀ q∈g,q.2.length<=b)->gi g<=(2 * b+1) * g.length
 | [],b,_=>zero_le _
 | q::g,b,h=>by
  have h1:=h q mem_cons_self
  have h2:=vz g b λx hx=>h x (mem_cons_of_mem _ hx)
  rw [gi,length_cons,Nat.mul_succ]
  lia
theorem CP{n:Nat}{f:Int->List Int}(hn:n<=10)(hc:∀ p∈aT n,∀ o∈f p,o∈aT n/\o≠p)(nd:∀ p∈aT n,(f p).Nodup):∃ nn res rs,EF n nn f res rs:=by
 have hlen:((aT n).map f).length=n:=by rw [length_map,jE]
 have wk:∀ i,i<n->((aT n).map f).getD i []=f i:=λi hi=>by
  rw [getD_eq_getElem?_getD,getElem?_map,Cd hi];rfl
 have wL:∀ i,¬ i<n->((aT n).map f).getD i []=[]:=λi hi=>by
  rw [getD_eq_getElem?_getD,getElem?_eq_none (by rw [hlen];exact le_of_not_lt hi)];rfl
 have yn:∀ k,k∈aT n->bL ((aT n).map f) k=f k:=λk hk=>by
  apply aC (dF.mp hk) λh1 h2=>?_
  unfold bL
  rw [wk _ ((toNat_lt h1).mpr h2)]
  congr 1;exact toNat_of_nonneg h1
 have hR:∀ k,inR ((aT n).map f) k↔k∈aT n:=λk=>by
  unfold inR;rw [hlen,dF]
 have cl:wX ((aT n).map f):=λi p hp=>by
  rw [hlen]
  by_cases hi:i<n
  ·rw [wk i hi] at hp
   exact dF.mp (hc i (dF.mpr (zE hi)) p hp).1
  ·rw [wL i hi] at hp;cases hp
 have P:=qz f ((aT n).length+1) (aT n) (lt_succ_self _)
 have GD:di f (aT n)=ej f ((aT n).length+1) (aT n):=rfl
 rw [<- GD] at P
 generalize rk f ((aT n).length+1) (aT n)=ρ at P
 have ib:∀ {k:Int},0<=k->k<(((aT n).map f).length:Int)->k∈aT n:=λh1 h2=>dF.mpr ⟨h1,by rw [hlen] at h2;exact h2⟩
 have R:qv ((aT n).map f) ρ (di f (aT n)).1.length:=⟨cl,λi=>by
   by_cases hi:i<n
   ·rw [wk i hi];exact nd i (dF.mpr (zE hi))
   ·rw [wL i hi];exact .nil,
  λk p h1 h2 h3 h4=>by
   rw [yn k (ib h1 h2)] at h4
   exact P.lt k (ib h1 h2) h3 p h4 (hc k (ib h1 h2) p h4).1,
  λk t h1 h2 h3 h4=>by
   apply bM (P.step k (ib h1 h2) h3 t h4) λp p1 p2 p3=>?_
   exact ⟨p,by rw [yn k (ib h1 h2)];exact p1,p3⟩,
  λk h1 h2 h3=>by
   apply bM (P.stuck k (ib h1 h2) h3) λp p1 p2 p3=>?_
   exact ⟨p,by rw [yn k (ib h1 h2)];exact p1,p3⟩,
  λk h1 h2=>P.Hz k (ib h1 h2),by rw [hlen];exact zl hn rfl⟩
 have w5:∀ {v k:Int},k∈(sig ((aT n).map f)).su v↔k∈aT n/\v∈f k:=fun {v k}=>by
  rw [tW,hR]
  exact and_congr_right λhk=>by rw [yn k hk]
 have iP:∀ k,k∈(sig ((aT n).map f)).nodes↔k∈aT n:=λk=>by
  rw [(mZ cl).2 k,hlen,dF]
 obtain ⟨rs,r1,r2,r3⟩:=qx R (λt ht=>by
  apply aj (P.all t ht) λk k1 k2=>?_
  exact (iDPP k ((hR k).mpr k1) k2)) _ 0 _ _ (zero_add _) (ED R)
 (apply bM (m6 (su:=(sig ((aT n).map f)).su) (nodes:=(sig ((aT n).map f)).nodes) (λv k hk=>(iP k).mpr (w5.mp hk).1) (sig ((aT n).map f)).nodes [] [] (λv h=>h) trivial (λx=>Iff.rfl)) ?_;intro res O o1 o2)
 have vd:∀ q,res=some q->q≠[]/\q.length<=1000/\tA q (aT n) f:=λq hq=>by
  (apply ay (o2 q hq) ?_;intro v a dH;subst dH;intro ji J9)
  have oE:=J9.at
  have Pl:∀ x∈a++[v],x∈aT n:=λx hx=>by
   apply bw (getElem?_of_mem hx) λj hj=>?_
   have hl:=(List.getElem?_eq_some_iff.mp hj).1
   have h1:=oE j (by rw [length_append,length_cons] at *;simp at hl ⊢;omega)
   have e:((v::a)++[v]).getD (j+1) 0=x:=by
    rw [getD_eq_getElem?_getD,cons_append,List.getElem?_cons_succ,hj];rfl
   rw [e] at h1
   exact (w5.mp h1).1
  have hle:(v::a).length<=n:=ig ji λx hx=>by
   apply dF.mp (Pl x ?_)
   rcases mem_cons.mp hx with e | h
   ·rw [e];exact mem_append.mpr (.inr (mem_singleton.mpr rfl))
   ·exact mem_append.mpr (.inl h)
  have t4:((v::a)++[v]).length=a.length+2:=by simp
  rw [length_cons] at hle
  have Pm:a.length≠0:=λz=>by
   have:=List.length_eq_zero_iff.mp z
   subst this
   have h1:=w5.mp J9.1
   exact (hc v h1.1 v h1.2).2 rfl
  apply ⟨by simp,by lia,⟨by lia,by lia⟩,?_,vy ji,λj hj=>?_⟩
  ·rw [t4,show a.length+2 - 1=a.length+1 by exact Nat.add_succ_sub_one a.length 1,getD_eq_getElem?_getD,getD_eq_getElem?_getD,cons_append,List.getElem?_cons_succ,getElem?_append_right (le_refl _),Nat.sub_self];rfl
  ·have h1:=w5.mp (oE j hj)
   exact ⟨h1.1,any_eq_true.mpr (iDPP _ h1.2 (beq_self_eq_true _))⟩
 apply ⟨(di f (aT n)).1.length,res,rs,⟨?_,?_,?_⟩,?_,?_,?_,λr hr=>?_,vd,?_,?_⟩
 ·have hg:=vz (gN n f) 10 λq hq=>by
   unfold gN at hq
   (apply aj (mem_map.mp hq) ?_;intro p hp eC;rw [<- eC])
   exact le_trans (ig (n:=n) (nd p hp) λx hx=>dF.mp (hc p hp x hx).1) hn
  have:(gN n f).length=n:=by unfold gN;rw [length_map,jE]
  rw [this] at hg
  lia
 ·rw [<- lV]
  exact λk Z s hs=>(iP s).mpr (w5.mp hs).1
 ·rw [<- lV]
  intro k
  exact le_trans (ig (n:=n) (qw R.nd k) λx hx=>dF.mp (w5.mp hx).1) (zl hn rfl)
 ·rw [<- lV];exact O
 ·rw [<- lV];exact r1
 ·rw [r2]
  have:=nQ f ((aT n).length+1) (aT n)
  rw [<- GD,jE] at this
  lia
 ·apply bw (getElem?_of_mem hr) λi hi=>?_
  apply aC (r3 i r hi) λh1 h2=>?_
  have:=ig (n:=n) h1 λx hx=>dF.mp ((hR x).mp ((h2 x).mp hx).1)
  lia
 ·have yo:∀ k,k∈(di f (aT n)).2↔k∈aT n/\ρ k=(di f (aT n)).1.length:=λk=>by
   conv=>lhs;rw [P.rest]
   rw [mem_filter,beq_iff_eq]
  cases jV:res with
  | none =>
   apply bM (o1 jV) λo' t Z m2=>?_
   cases he:(di f (aT n)).2 with
   | nil=>rfl
   | cons x r =>
    apply (kF.no (L:=λk=>k∈(di f (aT n)).2) (λk hk=>?_) (x:=x) (by show x∈(di f (aT n)).2;rw [he];exact mem_cons_self) t λk hk=>m2 k ((iP k).mpr ((yo k).mp hk).1)).elim
    apply aC ((yo k).mp hk) λk1 k2=>?_
    apply bM (P.stuck k k1 k2) λp p1 p2 p3=>?_
    exact (iDPP p ((yo p).mpr ⟨p2,p3⟩) (w5.mpr ⟨k1,p1⟩))
  | some q =>
   cases he:(di f (aT n)).2 with
   | cons x r=>rfl
   | nil =>
    (apply ay (o2 q jV) ?_;intro v a fR;rw [fR];intro ji J9)
    have:=w6.lt (ρ:=ρ) (su:=(sig ((aT n).map f)).su) (λv k hk=>by
     apply aC (w5.mp hk) λh1 h2=>?_
     apply P.lt k h1 ?_ v h2 (hc k h1 v h2).1
     have:=P.Hz k h1
     apply Nat.lt_of_le_of_ne this λz=>?_
     have:=(yo k).mpr ⟨h1,z⟩
     rw [he] at this;cases this) J9
    exact absurd this (lt_irrefl _)
 ·conv=>rhs;rw [P.Fw]
  apply ext_getElem? λi=>?_
  rw [getElem?_map,getElem?_map]
  by_cases hi:i<(di f (aT n)).1.length
  ·rw [getElem?_range hi,getElem?_eq_getElem (by rw [r2];exact hi)]
   (apply aC (r3 i _ (getElem?_eq_getElem (by rw [r2];exact hi))) ?_;intro h1 h2)
   show some _=some _
   congr 1
   have hs:((aT n).filter λk=>ρ k == i).Pairwise (·<·):=(nN n).filter _
   apply (eq_sortI ?_ (hs.imp λh=>Int.le_of_lt h)).symm
   apply (List.perm_ext_iff_of_nodup (hs.imp λh=>Int.ne_of_lt h) h1).mpr λk=>?_
   rw [mem_filter,h2,hR,beq_iff_eq,zero_add]
  ·rw [getElem?_eq_none (by rw [r2];exact le_of_not_lt hi),getElem?_eq_none (by rw [length_range];exact le_of_not_lt hi)];rfl
end L1
namespace L1
noncomputable def Hj (x:Item):Bool:=x.1.cps.toList.all λc=>c != 10&&c != 13
noncomputable def Fx (x:Item):Bool:=match x.1.cps.toList with
 | []=>false
 | c::_=>if c=46 then x == dK else true
theorem nS:bc.all (λx=>Hj x&&Fx x)=true:=by decide +kernel
theorem Hk:dK∈bc:=by decide +kernel
theorem Hl:tl dK.1=[46]:=by decide +kernel
theorem yp(c:Nat):hit (false,ofString ".") c=decide (c=46):=by
 unfold hit
 have e:Txt.contains (ofString ".") (⟨#[c]⟩:Str)=decide (c∈(ofString ".").cps.toList):=PySem.StrLaws.found_one _ c
 have e1:(ofString ".").cps.toList=[46]:=by decide +kernel
 show (!(Txt.contains (ofString ".") (⟨#[c]⟩:Str) == false))=_
 rw [e,e1]
 by_cases h:c=46
 ·rw [h];rfl
 ·rw [decide_eq_false h,decide_eq_false (by exact notIn_one h)];rfl
theorem lW(r:List Item):tl (aB r)=r.flatMap λx=>tl x.1:=rfl
theorem w9{r:List Item}(h:∀ x∈r,x∈bc):Plain (tl (aB r)):=λc hc=>by
 rw [lW,List.mem_flatMap] at hc
 apply aj hc λx hx hc=>?_
 have:=all_eq_true.mp nS x (h x hx)
 have:=all_eq_true.mp (and_eq_true _ _ |>.mp this).1 c hc
 simpa using this
theorem CQ{r:List Item}(h:∀ x∈r,x∈bc)(hd:gZ (aB r)=true):∃ r',r=dK::r':=by
 apply bw (jF.mp hd) λt e=>?_
 cases r with
 | nil=>cases e
 | cons x r =>
  have:=(and_eq_true _ _ |>.mp (all_eq_true.mp nS x (h x mem_cons_self))).2
  rw [lW,flatMap_cons] at e
  unfold Fx at this
  unfold tl at e
  cases q:x.1.cps.toList with
  | nil=>rw [q] at this;exact Bool.noConfusion this
  | cons c s =>
   rw [q] at this e
   have hc:c=46:=(List.cons.inj e).1
   dsimp only at this
   rw [if_pos hc] at this
   rw [eq_of_beq this]
   exact ⟨r,rfl⟩
theorem text_len{r:List Item}(h:∀ x∈r,x∈bc):(aB r).length<=6 * r.length:=by
 rw [<- ey,lW]
 induction r with
 | nil=>exact le_refl _
 | cons x r ih =>
  have:=all_eq_true.mp rV x (h x mem_cons_self)
  have k6:=of_decide_eq_true (and_eq_true _ _ |>.mp this).2
  have e:(tl x.1).length=x.1.length:=ey _
  have i2:=ih λy hy=>h y (mem_cons_of_mem _ hy)
  rw [flatMap_cons,length_append,length_cons]
  exact le_trans (Nat.add_le_add (le_trans (le_of_eq e) k6) i2) (le_of_eq (Nat.add_comm _ _))
theorem EG:gI.all (λr=>r.all λx=>bc.contains x)=true:=by decide +kernel
theorem CR(j:Nat)(h:j<13):ff.getD j default∈bc:=by
 unfold bc
 apply mem_append.mpr (.inl ?_)
 rw [getD_eq_getElem?_getD,getElem?_eq_getElem h]
 exact getElem_mem _
theorem EH{n:Int}{x:Item}(h:eM n=some x):x∈bc:=by
 unfold eM at h
 have Pn:=dD (n:=n) (k:=15) (by decide)
 have GR:=dD (n:=n.fdiv 15) (k:=14) (by decide)
 split at h
 ·cases h
  exact CR _ (zn Pn.1 (by assumption) rfl)
 ·split at h
  ·cases h
   unfold bc signOf
   exact mem_append.mpr (.inr (mem_map.mpr ⟨_,mem_range.mpr (zn GR.1 GR.2 rfl),rfl⟩))
  ·exact bf h
def AllIn(xss:List (List Item)):Prop:=∀ xs∈xss,∀ x∈xs,x∈bc
theorem AllIn.push{xss:List (List Item)}(h:AllIn xss):AllIn (xss++[[]]):=λxs hx x hm=>by
 rcases mem_append.mp hx with q | q
 ·exact h xs q x hm
 ·rw [mem_singleton.mp q] at hm;cases hm
theorem AllIn.add{xss:List (List Item)}{j:Nat}{y:Item}(h:AllIn xss)(hy:y∈bc):AllIn (lH xss j y):=λxs hx x hm=>by
 unfold lH at hx
 rcases List.mem_or_eq_of_mem_set hx with q | q
 ·exact h xs q x hm
 ·subst q
  rcases mem_append.mp hm with q | q
  ·rw [getD_eq_getElem?_getD] at q
   cases e:xss[j]? with
   | none=>rw [e] at q;cases q
   | some ys=>rw [e] at q;exact h ys (mem_of_getElem? e) x q
  ·rw [mem_singleton.mp q];exact hy
set_option tactic.hygienic true in
theorem qA(ns:List Int):∀ i,AllIn (bb ns i)
 | 0=>λxs hx=>by cases hx
 | i+1=>by
  have ih:=qA ns i
  show AllIn (c9 (bb ns i) i (ns.getD i 0))
  have h2:AllIn (if i<3 then bb ns i++[[]] else bb ns i):=by
   split
   ·exact ih.push
   ·exact ih
  unfold c9
  split
  ·rename_i x e
   exact h2.add (EH e)
  ·exact h2
theorem EI(ns:List Int):AllIn (rowsOf ns):=λxs hx x hm=>by
 rcases mem_append.mp hx with q | q
 ·have:=all_eq_true.mp (all_eq_true.mp EG xs q) x hm
  exact List.contains_iff_mem.mp this
 ·exact qA ns _ xs q x hm
theorem CS{ns:List Int}:(rowsOf ns).length=3+min 3 ns.length:=by
 unfold rowsOf
 rw [length_append,jA];rfl
theorem xa{ns:List Int}(h:ns.length<=9):∀ xs∈rowsOf ns,xs.length<=9:=λxs hx=>by
 rcases mem_append.mp hx with q | q
 ·have:gI.all (λr=>decide (r.length<=9))=true:=by decide +kernel
  exact of_decide_eq_true (all_eq_true.mp this xs q)
 ·apply bw (getElem?_of_mem q) λj hj=>?_
  have:=kB ns ns.length j
  rw [getD_eq_getElem?_getD,hj] at this
  exact le_trans this h
theorem CT{xss:List (List Item)}(h:AllIn xss)(hs:∀ xs∈xss,xs.length<=12)(hf:xss.length<=10):An xss :=
 ⟨h,λxs hx=>⟨le_trans (hs xs hx) (by decide),le_trans (text_len (h xs hx)) (le_trans (mul_le_mul_left 6 (hs xs hx)) (by decide))⟩,hf⟩
noncomputable def dG (m:Nat) (r:List Item):List Item:=if gZ (aB r) then replicate m dK++r else r
theorem lX(m:Nat)(rows:List (List Item)):du m rows=rows.map (dG m):=rfl
theorem CU{m:Nat}{r:List Item}(h:∀ x∈r,x∈bc):∀ x∈dG m r,x∈bc:=λx hx=>by
 unfold dG at hx
 split at hx
 ·rcases mem_append.mp hx with q | q
  ·rw [List.eq_of_mem_replicate q];exact Hk
  ·exact h x q
 ·exact h x hx
theorem Af(m:Nat):(replicate m dK).flatMap (λx=>tl x.1)=replicate m 46:=by
 induction m with
 | zero=>rfl
 | succ m ih=>rw [replicate_succ,flatMap_cons,ih,Hl];rfl
theorem sj(m:Nat)(r:List Item):tl (aB (dG m r))=(if gZ (aB r)=true then replicate m 46 else [])++tl (aB r):=by
 unfold dG
 split
 ·rw [lW,flatMap_append,Af];rfl
 ·rfl
theorem vA(m:Nat)(r:List Item):aB (dG m r)=bT m (aB r):=mV (by rw [sj,fU])
theorem yq(ts:List Test):∀ (m:Nat) (s:List Nat),tk (replicate m dK.2++ts) (replicate m 46++s)=tk ts s
 | 0,s=>rfl
 | m+1,s=>by
  rw [replicate_succ,replicate_succ,cons_append,cons_append]
  show (hit (false,ofString ".") 46&&tk (replicate m dK.2++ts) (replicate m 46++s))=_
  rw [yp,decide_eq_true rfl,Bool.true_and,yq ts m s]
theorem vB{ts:List Test}{s:List Nat}(h:∀ r,s≠46::r):tk (dK.2::ts) s=false:=by
 cases s with
 | nil=>rfl
 | cons c s =>
  show (hit (false,ofString ".") c&&_)=_
  rw [yp,decide_eq_false (λz=>h s (by rw [z])),Bool.false_and]
theorem CV(m:Nat){ro rp:List Item}(ho:∀ x∈ro,x∈bc)(hp:∀ x∈rp,x∈bc) :
  cA (eY (dG m rp)) (aB (dG m ro))=d6 (aB ro) (rp.map (·.2)) (if gZ (aB ro)&&Txt.slice (aB rp) none (some 1) != ofString "." then m else 0):=by
 rw [nK (CU hp),lL,sj]
 have hb:(Txt.slice (aB rp) none (some 1) != ofString ".")=!gZ (aB rp):=rfl
 rw [hb]
 by_cases q:gZ (aB rp)=true
 ·rw [q,Bool.not_true,Bool.and_false,show (if false=true then m else 0)=0 from rfl]
  have e:(dG m rp).map (·.2)=replicate m dK.2++rp.map (·.2):=by
   unfold dG
   rw [if_pos q,map_append,List.map_replicate]
  rw [e]
  by_cases r:gZ (aB ro)=true
  ·rw [if_pos r,yq];rfl
  ·rw [if_neg r]
   have ji:∀ t,tl (aB ro)≠46::t:=λt z=>r (jF.mpr ⟨t,z⟩)
   (apply bw (CQ hp q) ?_;intro Po aM;rw [aM])
   rw [map_cons]
   have h2:tk (dK.2::Po.map (·.2)) (tl (aB ro))=false:=vB ji
   show tk _ (tl (aB ro))=tk (dK.2::_) (tl (aB ro))
   rw [h2]
   cases m with
   | zero=>exact h2
   | succ m=>exact vB ji
 ·have q':gZ (aB rp)=false:=eq_false_iff.mpr q
  rw [q',Bool.not_false,Bool.and_true]
  have e:dG m rp=rp:=by unfold dG;rw [if_neg q]
  rw [e]
  by_cases r:gZ (aB ro)=true
  ·rw [if_pos r,if_pos r]
  ·rw [if_neg r,if_neg r];rfl
theorem Ag{ro rp:List Item}(hp:∀ x∈rp,x∈bc):cA (eY rp) (aB ro)=d6 (aB ro) (rp.map (·.2)) 0:=by
 rw [nK hp,lL];rfl
theorem getD_in{xss:List (List Item)}(h:AllIn xss)(i:Nat):∀ x∈xss.getD i [],x∈bc:=λx hx=>by
 rw [getD_eq_getElem?_getD] at hx
 cases e:xss[i]? with
 | none=>rw [e] at hx;cases hx
 | some xs=>rw [e] at hx;exact h xs (mem_of_getElem? e) x hx
theorem vC(m:Nat)(rows:List (List Item))(i:Nat):(du m rows).getD i []=dG m (rows.getD i []):=by
 rw [lX,getD_eq_getElem?_getD,getElem?_map,getD_eq_getElem?_getD]
 cases rows[i]? with
 | some r=>rfl
 | none =>
  show []=dG m []
  unfold dG
  rw [if_neg]
  intro z
  apply bw (jF.mp z) λr e=>?_
  cases e
theorem Ah{m:Nat}{rows:List (List Item)}(h:AllIn rows)(p:Int):gJ (du m rows) p=eN rows m p:=by
 unfold gJ eN
 rw [show (du m rows).length=rows.length from length_map _]
 apply filter_congr λo Z=>?_
 rw [vC,vC,CV m (getD_in h _) (getD_in h _)];rfl
theorem xb{rows:List (List Item)}(h:AllIn rows)(p:Int):gJ rows p=eN rows 0 p:=by
 unfold gJ eN
 apply filter_congr λo Z=>?_
 rw [Ag (getD_in h _)]
 unfold nJ
 rw [ite_self]
theorem CW{xss rows:List (List Item)}{m:Nat}(hx:An xss)(hr:An rows)(hm:m<=10)(hl:rows.length=xss.length)(hn:∀ p,gJ xss p=eN rows m p):∃ n res rs,zX xss rows m n res rs:=by
 have l8:=hx.l8
 have hf:gJ xss=eN rows m:=funext hn
 obtain ⟨nn,res,rs,G⟩:=CP (n:=xss.length) (f:=gJ xss) (by omega) (λp Z o ho=>by
  unfold gJ at ho
  apply aC (mem_filter.mp ho) λh1 h2=>?_
  rw [and_eq_true] at h2
  exact ⟨h1,λz=>by rw [z,beq_self_eq_true] at h2;cases h2.1⟩) (λp Z=>by
  unfold gJ
  exact ((nN _).imp λh=>Int.ne_of_lt h).filter _)
 apply ⟨nn,res,rs,⟨hx,G.g,G.out,G.Fw,G.l8,G.small,λq hq=>⟨(G.ring q hq).1,(G.ring q hq).2.1⟩⟩,hr,hm,hl,λp Z=>hn p,?_,?_,λq hq=>?_⟩
 ·rw [hl,<- hf];exact G.G9
 ·rw [hl,<- hf];exact G.ej
 ·rw [hl,<- hf];exact (G.ring q hq).2.2
end L1
namespace L1
theorem CX(aW:List Int):(numsOf aW).length<=9:=by
 unfold numsOf
 rw [length_map,length_range];exact min_le_left _ _
theorem xc{m:Nat}{r:List Item}(h:r.length<=9)(hm:m<=3):(dG m r).length<=12:=by
 unfold dG
 split
 ·rw [length_append,List.length_replicate];exact Hq hm h rfl
 ·exact zl h rfl
theorem Ai(m:Nat)(ns:List Int):(du m (rowsOf ns)).map aB=(namesOf ns).map (bT m):=by
 rw [lX,map_map]
 unfold namesOf
 rw [map_map]
 exact map_congr_left λr Z=>vA m r
theorem Jw{ns:List Int}(h:ns.length<=9):dM ns:=by
 have hin:=EI ns
 have M8:=xa h
 have hl:=CS (ns:=ns)
 apply aC (more_le ns) λm1 m2=>?_
 have ok:An (rowsOf ns):=CT hin (λxs hx=>le_trans (M8 xs hx) (by decide)) (hl▸JE rfl)
 have L2:AllIn (du (bA ns) (rowsOf ns)):=λxs hx=>by
  rw [lX] at hx
  (apply aj (mem_map.mp hx) ?_;intro r hr aM;rw [<- aM])
  exact CU (hin r hr)
 have M9:(du (bA ns) (rowsOf ns)).length=(rowsOf ns).length:=length_map _
 have Pp:An (du (bA ns) (rowsOf ns)):=CT L2 (λxs hx=>by
  rw [lX] at hx
  (apply aj (mem_map.mp hx) ?_;intro r hr bk;rw [<- bk])
  exact xc (M8 r hr) m2) (M9▸hl▸JE rfl)
 have Jm:(namesOf ns).length=(rowsOf ns).length:=length_map _
 have h3:3<=(namesOf ns).length:=by rw [Jm,hl];exact le_add_right ..
 have h6:(namesOf ns).length<=6:=by rw [Jm,hl];exact add_le_add_left (min_le_left ..) 3
 have vE:∀ t∈namesOf ns,Plain (tl t):=λt ht=>by
  (apply aj (mem_map.mp ht) ?_;intro r hr bN;rw [<- bN])
  exact w9 (hin r hr)
 have xu:∀ t∈namesOf ns,t.length<=100:=λt ht=>by
  (apply aj (mem_map.mp ht) ?_;intro r hr cI;rw [<- cI])
  exact (ok.short r hr).2
 have DF:∀ m,m<=3->∀ t∈namesOf ns,(bT m t).length<=110:=λm hm t ht=>by
  have:=xu t ht
  rw [<- ey,fU,length_append,ey]
  split
  ·rw [List.length_replicate];exact Hq (by assumption) (by assumption) rfl
  ·rw [length_nil];exact Hp (by assumption) rfl
 have uj:∀ m,m<=3->(jn [13,10] ((namesOf ns).map λt=>tl (bT m t))).length<=2000:=λm hm=>by
  have:=Hb (B:=110) ((namesOf ns).map λt=>tl (bT m t)) λr hr=>by
   (apply aj (mem_map.mp hr) ?_;intro t ht dH;rw [<- dH])
   rw [ey];exact DF m hm t ht
  rw [length_map] at this
  exact le_trans this (le_trans (Nat.mul_le_mul_right 112 h6) (le_of_ble_eq_true rfl))
 have M3:(cQ ns).length<=2000:=by
  rw [<- ey,tV];exact uj _ m2
 have e2:(ofString "\r\n").length=2:=by decide +kernel
 have Na:=wO (x:=cQ ns) (rows:=(namesOf ns).map (bT (bA ns))) (λr hr=>by
  rw [map_map] at hr
  (apply aj (mem_map.mp hr) ?_;intro t ht eC;rw [<- eC])
  exact lQ (vE t ht)) (by intro z;have:=congrArg List.length z;rw [length_map,length_nil] at this;lia) (by unfold cQ;rw [tT,lN])
 apply ⟨ok,Jm▸zg h3 rfl,λj hj=>?_,EA vE (zg h3 rfl),zl M3 rfl,?_,?_,?_,?_,CW ok ok (by decide) rfl (xb hin),CW Pp ok (zl m2 rfl) M9.symm (Ah hin)⟩
 ·cases j with
  | zero =>
   show (lP ns).length<=_
   have:=qr (total:=ns.sum) xu ((namesOf ns).length - 1)
   unfold lP
   exact le_trans this (le_trans (mul_le_mul_left 102 (le_trans (le_of_eq (Nat.sub_add_cancel (zg h3 rfl))) h6)) (le_of_ble_eq_true rfl))
  | succ j =>
   rw [<- ey,kE vE (zg h3 rfl)]
   exact le_trans (uj (j+1) (le_trans hj m2)) (by decide)
 ·have k1:Builtin.Str.strKind (ofString "\r\n")=1:=by decide +kernel
  have k2:1<=Builtin.Str.strKind (cQ ns):=by unfold Builtin.Str.strKind;split <;> (try split) <;> decide
  have l2:2<=(cQ ns).length:=by
   rw [<- ey,tV]
   have EJ:2<=(namesOf ns).length:=zg h3 rfl
   revert EJ
   rcases namesOf ns with _ | ⟨a,_ | ⟨b,r⟩⟩ <;> intro EJ
   ·exact absurd EJ (by decide)
   ·exact absurd EJ (by exact Nat.not_succ_le_self 1)
   ·rw [map_cons,map_cons,fg,flatMap_cons,length_append,length_append,length_append]
    show 2<=_+(2+_+_)
    exact le_trans (le_trans (le_add_right ..) (le_add_right ..)) (le_add_left ..)
  rw [k1,e2,decide_eq_false (Nat.not_lt.mpr l2),decide_eq_false (Nat.not_lt.mpr k2)];rfl
 ·have h:=congrArg List.length Na
  rw [length_map] at h
  cases q:Builtin.Str.occurrences (cQ ns) (ofString "\r\n") 0 (cQ ns).length ((cQ ns).length+1) with
  | nil =>
   rw [q] at h
   have:(Builtin.Str.partsBetween (cQ ns) [] (ofString "\r\n").length).length=1:=by exact length_partsBetween (cQ ns) [] (ofString "\x0d\n").length
   lia
  | cons a r=>rfl
 ·rw [Ai];exact Na
 ·have:=Ct (B:=110) (((namesOf ns).map (bT (bA ns))).map (·.length)) λx hx=>by
   (apply aj (mem_map.mp hx) ?_;intro y hy fR;rw [<- fR])
   (apply aj (mem_map.mp hy) ?_;intro t ht rz;subst rz)
   exact DF _ m2 t ht
  rw [length_map,length_map] at this
  exact le_trans this (le_trans (Nat.mul_le_mul_right 110 h6) (le_of_ble_eq_true rfl))
theorem pf(aW:List Int):dM (numsOf aW):=Jw (CX aW)
end L1
end Mp
section
open PySem.W (hideAll hideAll_get hideAll_none of_hideAll tabObj)
namespace Mp
theorem xd{h h':Heap}{Ps:List Addr}(hP:∀ P∈Ps,h.get? P=some (tabObj #[]))(C:∀ P∈Ps,∃ c,CodeHd h c P)(fK:∀ P∈Ps,P≠cStatics)(K:OldK (hideAll h Ps) h')(e:∀ P∈Ps,∃ ps,h'.get? P=some (tabObj ps)):OldK h h':=by
 have Fy:∀ b o,b ∉ Ps->h.get? b=some o->(hideAll h Ps).get? b=some o:=λb o hb q=>hideAll_get Ps q hb
 have st:(hideAll h Ps).get? cStatics=h.get? cStatics:=by
  cases q:h.get? cStatics with
  | some o=>exact Fy _ _ (λz=>fK _ z rfl) q
  | none =>
   cases q2:(hideAll h Ps).get? cStatics with
   | none=>rfl
   | some o=>rw [of_hideAll Ps q2] at q;exact dc q
 apply ⟨λb o q=>?_,λb o q=>?_⟩
 ·by_cases hb:b∈Ps
  ·have Nb:=hP b hb
   rw [Nb] at q;cases q
   exact bw (C b hb) λc Cc=>bw (e b hb) λps eb=>.inr (.inl (sr ((Cc.tab Nb).isCodeTable) rfl (#[]) ps rfl (by rw [eb];simp)))
  ·rcases K.old b o (Fy b o hb q) with x | ⟨t,hc,vs,more,hv,x⟩ | ⟨rfl,hc,x,z⟩
   ·exact .inl x
   ·obtain ⟨c',o',je,a1,a2⟩:=t
    exact .inr (.inl (sr ((dw c' o' je (of_hideAll Ps a1) a2)) hc vs more hv x))
   ·apply .inr (.inr (aX rfl hc x ?_))
    intro key
    rw [<- OldK.staticOf_congr st key]
    exact z key
 ·by_cases hb:b∈Ps
  ·exact bw (e b hb) λps eb=>bJ _ eb
  ·exact K.there b o (Fy b o hb q)
section
open PySem.W (lookIn Frag)
noncomputable def isInt (j:Int):Value->Bool | .int i _=>i == j | _=>false
noncomputable def isStr (x:Str):Value->Bool | .str y _=>y == x | _=>false
noncomputable def isRef (a:Addr):Value->Bool | .ref b=>b == a | _=>false
noncomputable def L3 (n:String):Value->Bool | .builtin m=>m == n | _=>false
noncomputable def L4 (n:String):Value->Bool | .type m=>m == n | _=>false
noncomputable def xe (v:Value):V->Bool
 | .int j=>isInt j v
 | .str x=>isStr x v
 | .ref a=>isRef a v
 | .bi n=>L3 n v
 | .ty n=>L4 n v
 | _=>false
theorem so{own:Own}{h:Heap}{v:Value}{mv:V}(e:xe v mv=true):RV own h v mv:=by
 cases mv with
 | int j=>cases v with
  | int i t=>exact eq_of_beq e▸.int i t
  | _=>exact Bool.noConfusion (e:false=true)
 | str j=>cases v with
  | str i t=>exact eq_of_beq e▸.str i t
  | _=>exact Bool.noConfusion (e:false=true)
 | ref j=>cases v with
  | ref i=>exact eq_of_beq e▸.ref i
  | _=>exact Bool.noConfusion (e:false=true)
 | bi j=>cases v with
  | builtin i=>exact eq_of_beq e▸.bi i
  | _=>exact Bool.noConfusion (e:false=true)
 | ty j=>cases v with
  | type i=>exact eq_of_beq e▸.ty i
  | _=>exact Bool.noConfusion (e:false=true)
 | _=>exact Bool.noConfusion (e:false=true)
noncomputable def xf (o3:Obj) (q:Str×V):Bool:=match lookIn q.1 o3 with
 | some (some v)=>xe v q.2
 | some none=>q.1 != ("__name__":Str)&&(match bootBuiltins q.1 with | some v=>xe v q.2 | none=>false)
 | none=>false
theorem nU{x:Str}{mv:V}:∀ {l:List (Str×V)},l.lookup x=some mv->(x,mv)∈l
 | [],e=>by simp at e
 | (y,u)::r,e=>by
  rw [List.lookup_cons] at e
  cases q:x == y with
  | true=>rw [q] at e;cases e;rw [eq_of_beq q];exact .head _
  | false=>rw [q] at e;exact .tail _ (nU e)
theorem xg{mg mb:Str->Option Value}{h:Heap}{o3:Obj}{glob:List (Str×V)}(ho:h.get? mainGlobals=some o3)(hg:h.Ns mainGlobals mg)(Pq:∀ x:Str,x≠"__name__"->mb x=bootBuiltins x)(e:glob.all (xf o3)=true) :
  ∀ x mv,glob.lookup x=some mv->∃ v,(mg x=some v\/(mg x=none/\mb x=some v))/\RV (λZ=>none) {} v mv:=by
 intro x mv hl
 have q:=all_eq_true.mp e _ (nU hl)
 obtain ⟨o,es,ep,e1,hd,hk,hf⟩:=id hg
 rw [ho] at e1;obtain rfl:=cK e1
 have lk:lookIn x o3=some (mg x):=mz hd hk hf
 unfold xf at q
 dsimp only at q
 rw [lk] at q
 cases hm:mg x with
 | some v=>rw [hm] at q;exact (iDPP v (.inl rfl) (so q))
 | none =>
  rw [hm] at q
  dsimp only at q
  rw [and_eq_true] at q
  have hb:=Pq x (bne_iff_ne.mp q.1)
  cases L5:bootBuiltins x with
  | some v=>have q2:=q.2;rw [L5] at q2;exact (iDPP v (.inr ⟨rfl,by rw [hb,L5]⟩) (so q2))
  | none=>have q2:=q.2;rw [L5] at q2;exact Bool.noConfusion q2
namespace L1
noncomputable def Jx:Loc:=[("enumerate",.ty "enumerate"),("range",.ty "range"),("list",.ty "list"),("bool",.ty "bool"),("set",.ty "set"),("len",.bi "len"),("min",.bi "min"),("sum",.bi "sum"),("all",.bi "all"),("ord",.bi "ord"),("chr",.bi "chr"),("sorted",.bi "sorted")]
noncomputable def Jy:Loc:=[("_law_rows",.ref 206),("_law_text",.ref 213),("_law_read",.ref 220),("_law_takes",.ref 225),("_law_told",.ref 232),("_law_sorted",.ref 237),("_law_peeled",.ref 242),("_law_ring",.ref 249),("_law_agrees",.ref 254)]
noncomputable def Jz:Loc:=[("quotedata",.ref 79),("_translate",.ref 62),("twin_re_1_smtplib",.ref 67),("_twin_re_2",.ref 72),("CRLF",.str "\r\n"),("tuple",.ty "tuple"),("iter",.bi "iter"),("StopIteration",.ty "StopIteration")]
noncomputable def JA:Loc:=[("_NODE_OUT",.int (-1)),("_NODE_DONE",.int (-2)),("_NodeInfo",.ref 98),("TopologicalSorter",.ref 195),("isinstance",.bi "isinstance"),("str",.ty "str"),("escape",.ref 55),("_special_chars_map",.ref 45),("twin_re_1_fnmatch",.ref 43),("CycleError",.ref 113)]
noncomputable def nV:Loc:=Jx++(Jy++(Jz++JA))
noncomputable def L6:SA:={ ni:=98,ts:=195,C5:=94,kc:=131,qT:=138,mF:=145,hH:=150,gY:=157,fact:=164,hO:=178,jw:=185,dflt:=124,p0:=99,p1:=100,p2:=101}
noncomputable def objOf (K:Frag) (a:Addr):Obj:=(K.lookup a).getD { cls:=.none,data:=.plain}
noncomputable def fieldsOf (K:Frag) (a:Addr):Array Value:=match (objOf K a).data with | .fields vs=>vs | _=>#[]
noncomputable def yr (K:Frag) (a:Addr):Array Value:=match (objOf K a).data with | .seq vs _=>vs | _=>#[]
noncomputable def JB (K:Frag) (a:Addr):Nat:=match (objOf K a).data with | .seq _ n=>n | _=>0
noncomputable def refOf:Value->Addr | .ref a=>a | _=>0
noncomputable def EK:FuncData:=fnOf default default default [] default .none .none .none .none none .none .none
noncomputable def fdOf (K:Frag) (a:Addr):FuncData:=match (objOf K a).data with | .func fd=>fd | _=>EK
theorem qB{K:Frag}{a:Addr}{q:Str}{s:Stmt}(e:K.lookup a=some ⟨(objOf K a).cls,(objOf K a).dict,.func (fnOf (fnName s) q (bz s) (aF s) (ai s) .none .none (fdOf K a).doc (fdOf K a).pyModule (fdOf K a).annotations (fdOf K a).code (fdOf K a).closureTuple),(objOf K a).slots⟩)(c:codeIn K (fdOf K a).code q=true)(k:PySem.W.keepIn K (.ref a)=true):eR K a q s:=⟨_,_,_,_,_,(xi _ _ _ e),c,k⟩
theorem JC{K:Frag}{a:Addr}{q:Str}{s:Stmt}{dv kv:Value}(e:K.lookup a=some ⟨(objOf K a).cls,(objOf K a).dict,.func (fnOf (fnName s) q (bz s) (aF s) (ai s) dv kv (fdOf K a).doc (fdOf K a).pyModule (fdOf K a).annotations (fdOf K a).code (fdOf K a).closureTuple),(objOf K a).slots⟩)(c:codeIn K (fdOf K a).code q=true)(k:PySem.W.keepIn K (.ref a)=true):A6 K a q s dv kv:=⟨_,_,_,_,_,(xi _ _ _ e),c,k⟩
theorem CY{K:Frag}{a cc:Addr}{q:Str}{s:Stmt}(e:K.lookup a=some ⟨(objOf K a).cls,(objOf K a).dict,.func (fnOf (fnName s) q (bz s) (aF s) (ai s) .none .none (fdOf K a).doc (fdOf K a).pyModule (fdOf K a).annotations (.ref cc) (fdOf K a).closureTuple),(objOf K a).slots⟩)(c:codeIn K (.ref cc) q=true)(k:PySem.W.keepIn K (.ref a)=true):pW K a q s cc:=⟨_,_,_,_,(xi _ _ _ e),c,k⟩
theorem yt{K:Frag}{C f:Addr}{n:Str}(h1:PySem.W.hasDictIn K C=true)(h2:PySem.W.findIn K (.ref C) n=some (some (.ref f)))(h3:PySem.W.specialIn K (.ref f) "__get__"=some (some (.builtin "function.__get__")))(h4:PySem.W.takesIn K (.ref f)=some false)(h5:PySem.W.copiedNames.contains n=false)(h6:PySem.W.typeIn K (.ref f)=some (.type "function"))(h7:K.lookup f=some ⟨(objOf K f).cls,(objOf K f).dict,.func (fdOf K f),(objOf K f).slots⟩):gX K C n f:=⟨h1,h2,h3,h4,h5,h6,_,_,_,_,h7⟩
open PySem.Builtin.Re in
theorem JD{K:Frag}{p:Addr}{C:Array Nat}(h1:K.lookup p=some ⟨.type "re.Pattern",none,.fields (fieldsOf K p),(objOf K p).slots⟩)(h2:(fieldsOf K p).getD 5 .none=.ref (refOf ((fieldsOf K p).getD 5 .none)))(h3:reRawNat ((fieldsOf K p).getD 6 .none)=0)(h4:reRawNat ((fieldsOf K p).getD 2 .none)=0)(h5:K.lookup (refOf ((fieldsOf K p).getD 5 .none))=some (objOf K (refOf ((fieldsOf K p).getD 5 .none))))(h6:(objOf K (refOf ((fieldsOf K p).getD 5 .none))).data=.seq (yr K (refOf ((fieldsOf K p).getD 5 .none))) (JB K (refOf ((fieldsOf K p).getD 5 .none))))(h7:((yr K (refOf ((fieldsOf K p).getD 5 .none))).map reRawOf).map (·.toNat)=C):uv K p C:=⟨_,_,_,_,_,_,h1,h2,h3,h4,h5,h6,h7⟩
open PySem.Builtin.Re in
theorem Hm{K:Frag}{p:Addr}(h1:K.lookup p=some ⟨.type "re.Pattern",none,.fields (fieldsOf K p),(objOf K p).slots⟩)(h2:(fieldsOf K p).getD 5 .none=.ref (refOf ((fieldsOf K p).getD 5 .none)))(h3:reRawNat ((fieldsOf K p).getD 6 .none)=0)(h4:reRawNat ((fieldsOf K p).getD 2 .none)=1)(h5:K.lookup (refOf ((fieldsOf K p).getD 5 .none))=some (objOf K (refOf ((fieldsOf K p).getD 5 .none))))(h6:(objOf K (refOf ((fieldsOf K p).getD 5 .none))).data=.seq (yr K (refOf ((fieldsOf K p).getD 5 .none))) (JB K (refOf ((fieldsOf K p).getD 5 .none))))(h7:((yr K (refOf ((fieldsOf K p).getD 5 .none))).map reRawOf).map (·.toNat)=CF):te K p:=⟨_,_,_,_,_,_,h1,h2,h3,h4,h5,h6,h7⟩
structure Nc(K:Frag):Prop where
 m1:K.lookup mainGlobals=some (objOf K mainGlobals)
 m2:nV.all (xf (objOf K mainGlobals))=true
 g:Ld nV K
 s:cG L6 nV K
 t:lZ nV K
 r:Hw K
 q:Lx K
 x:qf K 113 va "ValueError.__new__"
 l:eR K 259 "law" JK
 c:K.all (λq=>q.2.cls != .none)=true
noncomputable abbrev d8:List Addr:=[57,215,244]
theorem qC{b:Addr}(h:b∈d8):b=57\/b=215\/b=244:=by simpa using h
theorem L7{K:Frag}{prog:Program}{w:World}{s₁:Shared}{mg mb:Str->Option Value}{p:Program}{loose:List Str}{L8:ExcName->Option Value}(O:Nc K)(T:Top p loose L8 mg mb s₁.heap)(hi:importsNone p=true)(KI:K.In s₁.heap)(hT:∀ P∈d8,s₁.heap.get? P=some (tabObj #[]))(CZ:s₁.gens=#[]){a:Addr}{d:Option Addr}{vs:Array Value}{n:Nat}{sl:Array (Option Value)}{aW:List Int}(hv:s₁.heap.get? a=some ⟨.type "list",d,.seq vs n,sl⟩)(hI:IntsAre vs.toList aW)(hz:aW.length<=1000)(F:dM (numsOf aW)) :
  wpAny (model prog w) callerA (call (.ref 259) [.ref a]) (λr s'=>r=.bool true/\OldK s₁.heap s'.heap/\s'.os=s₁.os/\AllBare s'.gens) gy s₁:=by
 have Fy:∀ b o,b ∉ d8->s₁.heap.get? b=some o->(hideAll s₁.heap d8).get? b=some o:=λb o hb q=>hideAll_get d8 q hb
 have ns:∀ {b m},b ∉ d8->s₁.heap.Ns b m->(hideAll s₁.heap d8).Ns b m:=λhb aM=>cw aM λo es ep e r=>(dw o es ep (Fy _ _ hb e) r)
 have HA:∀ b o,K.lookup b=some o->o.cls≠.none:=λb o e=>by
  have:∀ (l:Frag),l.lookup b=some o->(b,o)∈l:=by
   intro l
   induction l with
   | nil=>intro e;simp at e
   | cons q r ih =>
    intro e
    obtain ⟨c,oc⟩:=q
    rw [List.lookup_cons] at e
    cases hq:b == c with
    | true=>rw [hq] at e;cases e;rw [eq_of_beq hq];exact .head _
    | false=>rw [hq] at e;exact .tail _ (ih e)
  have q:=all_eq_true.mp O.c _ (this K e)
  exact bne_iff_ne.mp q
 have L9:∀ b o,K.lookup b=some o->b ∉ d8:=λb o e z=>by
  have:=KI b o e
  rw [hT b z] at this;obtain rfl:=cK this
  exact HA b _ e rfl
 have fK:∀ P∈d8,P≠cStatics:=by decide
 let X:Cx:={
  prog:=prog,w:=w,h₀:=hideAll s₁.heap d8,os:=s₁.os,mg:=mg,mb:=mb,glob:=nV
  hg:=ns (by decide) T.g
  hb:=ns (by decide) T.b
  Df:=let ⟨mc,q,r⟩:=T.nolimit;⟨mc,ns (by decide) q,r⟩
  K:=K
  hK:=λb o e=>Fy b o (L9 b o e) (KI b o e)
  HA:=HA
  HB:=let ⟨mm,⟨o,es,ep,e,_⟩,_⟩:=(T.seer hi).mods;⟨o,Fy _ _ (by decide) e⟩
  gx:=[]
  xo:=xg (KI _ _ O.m1) T.g T.builtins O.m2}
 have B:T1 X:=⟨O.t,by
  apply jJ T.bmain λbm ob b1 b2 b3 b4 b5 b6=>?_
  apply ⟨bm,ob,b1,b2,(λq=>?_),(Fy _ _ (λq=>?_) b3),b4,b5,b6⟩
  ·apply eg T.g λo es ep e hd Z=>?_
   rw [q,e] at b3;obtain rfl:=cK b3;rw [hd] at b6;cases b6
  ·rw [hT _ q] at b3;obtain rfl:=cK b3;cases b4⟩
 have Kx:tQ X L6 113:=⟨⟨O.g,B,O.r,O.s,by rfl',O.x⟩,O.q⟩
 have hA:Rm X callerA (30+102):=⟨rfl,by decide +kernel,by decide +kernel,[],rfl,λenv h=>by cases h⟩
 let own:Own:=λb=>if b∈d8 then some b else none
 let cells:Cells:=λb=>if b∈d8 then some .tab else none
 have hP:∀ b∈d8,cells b=some .tab:=λb hb=>if_pos hb
 have hin:∀ {b c},own b=some c->b∈d8/\c=b:=fun {b c} e=>by
  by_cases q:b∈d8
  ·rw [show own b=some b from if_pos q] at e;cases e;exact ⟨q,rfl⟩
  ·rw [show own b=none from if_neg q] at e;exact bf e
 have I:Base X own cells s₁:={
  old:=OldK.of_keep λb o e=>of_hideAll d8 e
  hg:=T.g
  hb:=T.b
  nolimit:=T.nolimit
  gens:=.of_eq CZ
  os:=rfl
  new:=λb c e=>hideAll_none d8 (hin e).1
  lt:=λb c e=>⟨_,hT b (hin e).1⟩
  cell:=λb c e=>by
   by_cases q:b∈d8
   ·rw [hP b q] at e;cases e
    exact (m7 (if_pos q) (#[]) (hT b q) trivial)
   ·rw [show cells b=none from if_neg q] at e;exact bf e
  gx:=λL h=>by cases h}
 have Pr:own a=none:=if_neg λq=>by rw [hT a q] at hv;cases hv
 have rv:RV own s₁.heap (.ref a) (.list (Iz aW)):=RV.mj hv Pr (um hI)
 have H:=Hd (X:=X) (A:=callerA) (k:=30) (c:=cells) (Ψ:=λv c=>v=.bool true/\mR c) O.l Kx hA ⟨hP _ (by simp),hP _ (by simp),hP _ (by simp)⟩ hz F λc' h=>⟨rfl,h⟩
 apply wpAny_mono (H (.ref 259) [.ref a] own s₁ I ⟨.ref 259,.cons rv .nil⟩) (λv s' ⟨own',c',b,I',r',x',e,ht⟩=>?_) λZ Z q=>q
 subst e
 apply RV.e0 r' rfl ?_
 have tb:∀ P∈d8,∃ ps,s'.heap.get? P=some (tabObj ps):=λP hp=>by
  have:c' P=some .tab:=by
   rcases qC hp with rfl | rfl | rfl
   ·exact ht.t
   ·exact ht.r
   ·exact ht.q
  obtain ⟨_,ps,eP,_⟩:=I'.cell P _ this
  exact (bJ ps eP)
 have C:∀ P∈d8,∃ c,CodeHd s₁.heap c P:=λP hp=>by
  rcases qC hp with rfl | rfl | rfl
  ·exact (bJ _ (codeHd_of_K KI O.t.code))
  ·exact (bJ _ (codeHd_of_K KI O.r.2))
  ·exact (bJ _ (codeHd_of_K KI O.q.2))
 exact (aX rfl (xd hT C fK I'.old tb) I'.os I'.gens)
end L1
end
namespace L1
open PySem.W (WData WShape WRecords ReadsAllW ReadsW)
theorem Hn{R:WRecords}{cl:Str->Option Addr}{h:Heap}{x:WData}{v:Value}{as:List Addr}(hs:WShape.has R x .int=true)(r:ReadsW R cl h v x as):∃ i t,v=.int i t:=by
 obtain ⟨i,rfl⟩:∃ i,x=.int i:=by
  cases x with
  | int i=>exact ⟨i,rfl⟩
  | _=>exact Bool.noConfusion (hs:false=true)
 cases r
 exact kG _ _ rfl
theorem EL{R:WRecords}{cl:Str->Option Addr}{h:Heap}{xs:List WData}(hs:WShape.hasItems R xs .int=true){vs:List Value}{as:List Addr}(r:ReadsAllW R cl h vs xs as):∃ ns,IntsAre vs ns/\ns.length=xs.length:=by
 induction xs generalizing vs as with
 | nil=>cases r;exact (iDPP ([]) .nil rfl)
 | cons x xs ih =>
  have Ak:WShape.has R x .int=true/\WShape.hasItems R xs .int=true:=and_eq_true_iff.mp hs
  cases r with
  | cons r1 r2=>exact aj (ih Ak.2 r2) λns i1 i2=>ij (Hn Ak.1 r1) λi t e=>iDPP (i::ns) (e▸.cons i t i1) (congrArg Nat.succ i2)
end L1
section
open PySem.W (lookIn)
theorem mg_of{mg:Str->Option Value}{h:Heap}{o3:Obj}{x:Str}{v:Option Value}(ho:h.get? mainGlobals=some o3)(hg:h.Ns mainGlobals mg)(e:lookIn x o3=some v):mg x=v:=by
 apply eD (id hg) λo es ep e1 hd hk hf=>?_
 rw [ho] at e1;obtain rfl:=cK e1
 have lk:lookIn x o3=some (mg x):=mz hd hk hf
 rw [e] at lk
 exact (cK lk).symm
end
section
open PySem.W
theorem C1{l:OpenLaw}{args Fz:List WData}:l.row.toRowW.claim.post args (.bool true) Fz=true:=by
 show (WShape.has [] (.bool true) .bool&&WTm.holds [] (.eq .res (.lit (.bool true))) ⟨args,some (.bool true),Fz,[]⟩)=true
 rfl'
theorem C3{xs:List WData}(R:WRecords)(h:WTm.holds R (.and (.not (.lt (.lit (.int 63)) (.len (.arg 0)))) (.lit (.bool true))) { args:=[.list xs]}=true):xs.length<=63:=by
 have e:WTm.value R (.lt (.lit (.int 63)) (.len (.arg 0))) { args:=[.list xs]}=some (.bool (decide ((63:Int)<xs.length))):=by rfl
 have e2:WTm.holds R (.and (.not (.lt (.lit (.int 63)) (.len (.arg 0)))) (.lit (.bool true))) { args:=[.list xs]}=(λz:Option WData=>match (match (match z with | some (WData.bool b)=>some (WData.bool (!b)) | _=>none) with | some (WData.bool false)=>some (WData.bool false) | some (WData.bool true)=>(match WTm.value R (.lit (WData.bool true)) { args:=[.list xs]} with | some (WData.bool x)=>some (WData.bool x) | _=>none) | _=>none) with | some (WData.bool true)=>true | _=>false) (WTm.value R (.lt (.lit (.int 63)) (.len (.arg 0))) { args:=[.list xs]}):=by rfl
 rw [e2,e] at h
 by_cases q:(63:Int)<xs.length
 ·rw [decide_eq_true q] at h;exact Bool.noConfusion (h:false=true)
 ·exact ofNat_le.mp (not_lt.mp q)
theorem EM{l:OpenLaw}(hm:l.most=some 63)(hb:l.bound=none){xs:List WData}(h:l.row.pre.holds l.row.records { args:=[.list xs]}=true):xs.length<=63:=by
 have e:l.row.pre=.and (.not (.lt (.lit (.int 63)) (.len (.arg 0)))) (.lit (.bool true)):=by
  show WTm.and (match l.most with | some n=>.not (.lt (.lit (.int n)) (.len (.arg 0))) | none=>.lit (.bool true))
   (match l.bound with
    | some n=>.all (.lit (.int 0)) (.len (.arg 0)) (.and (.not (.lt (.item (.arg 0) (.var 0)) (.lit (.int (-(n:Int)))))) (.not (.lt (.lit (.int n)) (.item (.arg 0) (.var 0)))))
    | none=>.lit (.bool true))=_
  rw [hm,hb];rfl
 rw [e] at h
 exact C3 _ h
end
end Mp
end
namespace Mq
open PySem PySem.W PyProof.Rows Mp Mp.L1
noncomputable abbrev K1 (P:Params):Frag:=KL P
theorem tg(P:Params):Ld nV (K1 P):=by
 constructor <;> first | rfl' | exact qB (by rfl') (by rfl') (by rfl') | exact JD (by rfl') (by rfl') (by rfl') (by rfl') (by rfl') (by rfl') (by rfl')
theorem tt(P:Params):lZ nV (K1 P):=by
 apply lZ.of ?_
 repeat' first | rfl' | exact qB (by rfl') (by rfl') (by rfl') | exact CY (by rfl') (by rfl') (by rfl') | exact Hm (by rfl') (by rfl') (by rfl') (by rfl') (by rfl') (by rfl') (by rfl') | apply And.intro
theorem ts(P:Params):cG L6 nV (K1 P):=cG.of
 ⟨by rfl',
 by rfl',
 by rfl',
 by rfl',
 by rfl',
 by rfl',
 by rfl',
 by rfl',
 by rfl',
 by rfl',
 by rfl',
 by rfl',
 ⟨by rfl',by rfl',by rfl',by rfl',by rfl'⟩,
 ⟨by rfl',by rfl',by rfl',by rfl',by rfl'⟩,
 ⟨by rfl',by rfl',by rfl',by rfl',by rfl',by rfl',by decide⟩,
 ⟨by rfl',by rfl',by rfl',by rfl',by rfl',by rfl',by decide⟩,
 ⟨by rfl',by rfl',by rfl',by rfl',by rfl',by rfl',by decide⟩,
 ⟨by rfl',by rfl',by rfl'⟩,
 ⟨by rfl',by rfl',by rfl'⟩,
 ⟨by rfl',by rfl',by rfl'⟩,
 ⟨by rfl',by rfl',by rfl'⟩,
 ⟨by rfl',by rfl',by rfl'⟩,
 ⟨by rfl',by rfl',by rfl'⟩,
 by rfl',
 qB (by rfl') (by rfl') (by rfl'),
 JC (by rfl') (by rfl') (by rfl'),
 ⟨by rfl',by rfl',by rfl'⟩,
 ⟨by rfl',by rfl',by rfl'⟩,
 ⟨by rfl',by rfl',by rfl'⟩,
 ⟨by rfl',by rfl',by rfl'⟩,
 ⟨by rfl',by rfl',by rfl'⟩,
 ⟨by rfl',by rfl',by rfl'⟩,
 ⟨by rfl',by rfl',by rfl'⟩,
 yt (by rfl') (by rfl') (by rfl') (by rfl') (by rfl') (by rfl') (by rfl'),
 yt (by rfl') (by rfl') (by rfl') (by rfl') (by rfl') (by rfl') (by rfl'),
 qB (by rfl') (by rfl') (by rfl'),
 qB (by rfl') (by rfl') (by rfl'),
 qB (by rfl') (by rfl') (by rfl'),
 qB (by rfl') (by rfl') (by rfl'),
 qB (by rfl') (by rfl') (by rfl'),
 qB (by rfl') (by rfl') (by rfl'),
 qB (by rfl') (by rfl') (by rfl')⟩
theorem Pu(P:Params):Nc (K1 P) where
 m1:=by rfl'
 m2:=by rfl'
 g:=tg P
 s:=ts P
 t:=tt P
 r:=⟨CY (by rfl') (by rfl') (by rfl'),by rfl'⟩
 q:=⟨CY (by rfl') (by rfl') (by rfl'),by rfl'⟩
 x:=⟨by rfl',by rfl',by rfl',by rfl'⟩
 l:=qB (by rfl') (by rfl') (by rfl')
 c:=by rfl'
set_option tactic.hygienic true in
theorem Aj{cl:Str->Option Addr}{h:Heap}{vals:List Value}{args:List WData}{as:List Addr}(Ho:PySem.Challenge.rw_in0223_01.row.claim.pre args=true)(xh:ReadsAllW PySem.Challenge.rw_in0223_01.row.records cl h vals args as) :
  ∃ xs a d vs n sl ns,args=[.list xs]/\vals=[.ref a]/\h.get? a=some ⟨.type "list",d,.seq vs n,sl⟩/\IntsAre vs.toList ns/\ns.length<=1000/\True:=by
 obtain ⟨h1,h2⟩:=pre_splitW Ho
 obtain ⟨d,r,rfl,h3,h4⟩:=hasAllW_cons h1
 obtain rfl:=hasAllW_nil h4
 obtain ⟨xs,rfl,h5⟩:=hasW_list h3
 cases xh with
 | cons r1 r2 =>
  cases r2
  cases r1 with
  | list e1 e2 e3 e4 =>
   obtain ⟨ns,i1,i2⟩:=EL h5 e4
   have hlen:ns.length<=63:=by
    rw [i2]
    exact EM (l:=PySem.Challenge.rw_in0223_01) rfl rfl h2
   rename_i oa vs n _
   obtain ⟨c0,d0,dt,sl⟩:=oa
   subst e2;subst e3
   exact ⟨xs,_,_,_,_,_,ns,rfl,rfl,e1,i1,zl hlen rfl,trivial⟩
theorem fin1(pf:∀ aW:List Int,dM (numsOf aW)):PySem.Challenge.rw_in0223_01.Holds:=by
 apply holds_law (by rfl') λMa=>?_
 apply holds_open (q:=nD) (loose:=td) (Xt:=λs=>xlAt nD [] s&&recOk (RowW.records Challenge.rw_in0223_01.row.toRowW) s) (XP:=XL nD []) (Yf:=Hook.obs lB) (Ya:=Hook.val lB) (YP:=Hook.says lB) (N:=6042) Ii (Hook.of lB) (Hook.keeps lB) (λs e=>xl_of s (and_eq_true_iff.mp e).1) XL.keeps (by rfl) (by rfl) (by rfl) (λs e=>recFacts_of (and_eq_true_iff.mp e).2) (by rfl) Ma (by decide +kernel) ⟨rfl,rfl,rfl,rfl,rfl,by decide +kernel⟩ ⟨[WData.list []],by decide +kernel,by decide +kernel⟩ ?_
 intro w s₀ s₁ mg mb G Y a o pm cd doc dV kV ha nY Pw Px Nd CZ args vals as Ho Py xh Nf Pz
 have KI:=km_in_of Y
 have hT:∀ P∈d8,s₁.heap.get? P=some (PySem.W.tabObj #[]):=λP hp=>km_tabs_of Y P hp
 have JH:(K1 w.params).In s₁.heap:=KI
 have O:=Pu w.params
 have T:=G.T
 clear Y KI nY Pw Px
 have ea:a=259:=by
  have q:=mg_of (JH _ _ O.m1) T.g (x:="law") (v:=some (.ref 259)) (by rfl')
  have q2:mg "law"=some (.ref a):=Nd
  rw [q] at q2
  exact (Value.ref.inj (cK q2)).symm
 clear Nd
 rw [ea]
 (apply jc (Aj Ho xh) ?_;intro xs av d0 vs n sl ns PA ev e1 i1 hlen Z)
 rw [PA,ev]
 apply wpAny_mono (L7 (K:=K1 w.params) O T (by rfl') JH hT CZ e1 i1 hlen (pf ns)) (λv s' hq=>?_) λZ Z q=>q.elim
 apply dj hq λev q1 q2 q3=>?_
 rw [ev]
 apply ⟨.inl ⟨_,.bool true,[],rfl,λZ=>rfl,.bool true,?_,λZ=>⟨.nil,λa h=>nomatch h⟩⟩,q1,q2,q3⟩
 exact C1 (l:=PySem.Challenge.rw_in0223_01)
end Mq
end
end
end Internal
set_option maxRecDepth 100000 in
set_option maxHeartbeats 8000000 in
theorem PySem.Challenge.cw_in0223_01_holds : PySem.Challenge.rw_in0223_01.Holds :=
 Internal.Mq.fin1 Internal.Mp.L1.pf
