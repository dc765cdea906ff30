import PyProof.Rows.All
import Wide.All
import OpenK.AllK
import Wide.FinOn
import KE.KAnyBase
import ObjForm.ListNI
import PyProof.DelItemList
import PyProof.RulesDelMore
import PyProof.DictWalks
import PyProof.DictItemsLoops
import PyProof.Rows.DictUnroll
import PyProof.DictCompW
import PyProof.IsiH_list
import PyProof.AttrMissHeap
import PyProof.StationsW
import PyProof.EnumIter
import KE.KDictIter
import KE.KBoundM
import KE.KSuperObj
import KE.KStar
import KE.KNestM
import KE.KLam
import PyProof.Conv_bool
import Wide.Txt2
import PySem.Challenge.RW_in0223_02
open PySem PyProof.Rows
set_option Elab.async false
set_option linter.unusedVariables false
set_option linter.unusedSimpArgs false
set_option maxHeartbeats 8000000
set_option maxRecDepth 100000
set_option linter.all false
namespace Internal
namespace Mp
universe u
@[elab_as_elim] theorem rwl {α:Sort u} {a b:α} {motive:α→Prop} (h:a = b) (m:motive b):motive a:=h ▸ m
@[elab_as_elim] theorem rwr {α:Sort u} {a b:α} {motive:α→Prop} (h:a = b) (m:motive a):motive b:=h ▸ m
theorem itep {c:Prop} [Decidable c] {A B:Prop} (h:c) (a:A):if c then A else B:=Eq.mpr (if_pos h) a
theorem iten {c:Prop} [Decidable c] {A B:Prop} (h:¬c) (a:B):if c then A else B:=Eq.mpr (if_neg h) a
def aDK:Lean.Syntax:=Lean.Unhygienic.run `(tactic| decide +kernel)
def aR:Lean.Syntax:=Lean.Unhygienic.run `(tactic| rfl)
def aIR:Lean.Syntax:=Lean.Unhygienic.run `(tactic| intros; rfl)
def aU:Lean.Syntax:=Lean.Unhygienic.run `(tactic| with_unfolding_all rfl)
def aIU:Lean.Syntax:=Lean.Unhygienic.run `(tactic| (intros; with_unfolding_all rfl))
end Mp
local macro_rules
  | `(tactic| rw [$e:term])=>`(tactic| ((first | refine Mp.rwl $e ?_ | refine Mp.rwl ($e ..) ?_ | rewrite [$e:term]); try (with_reducible rfl)))
  | `(tactic| rw [← $e:term])=>`(tactic| ((first | refine Mp.rwr $e ?_ | refine Mp.rwr ($e ..) ?_ | rewrite [← $e:term]); try (with_reducible rfl)))
  | `(tactic| rw [$e:rwRule,$es:rwRule,*])=>`(tactic| (rw [$e:rwRule]; rw [$es,*]))
local macro_rules
  | `(tactic| rw [if_pos $h:term])=>`(tactic| first | refine Mp.itep $h ?_ | ((first | refine Mp.rwl (if_pos $h) ?_ | rewrite [if_pos $h:term]); try (with_reducible rfl)))
  | `(tactic| rw [if_neg $h:term])=>`(tactic| first | refine Mp.iten $h ?_ | ((first | refine Mp.rwl (if_neg $h) ?_ | rewrite [if_neg $h:term]); try (with_reducible rfl)))
set_option bootstrap.genMatcherCode false
set_option genSizeOf false
set_option compiler.extract_closed false
noncomputable section
namespace Mp
section
variable {A B C D E F G H:Type}{r:Prop}
theorem bA{p0:A→Prop}(x:A)(h0:p0 x):∃ x,p0 x:=⟨x,h0⟩
theorem fV{p0:A→B→Prop}(x:A)(y:B)(h0:p0 x y):∃ x y,p0 x y:=⟨x,y,h0⟩
theorem iDPP{p0 p1:A→Prop}(x:A)(h0:p0 x)(h1:p1 x):∃ x,p0 x∧p1 x:=⟨x,h0,h1⟩
theorem iPDP{p0:Prop}{p1:A→Prop}(h0:p0)(x:A)(h1:p1 x):p0∧∃ x,p1 x:=⟨h0,x,h1⟩
theorem vF{p0:A→B→C→Prop}(x:A)(y:B)(z:C)(h0:p0 x y z):∃ x y z,p0 x y z:=⟨x,y,z,h0⟩
theorem eB{p0 p1:A→B→Prop}(x:A)(y:B)(h0:p0 x y)(h1:p1 x y):∃ x y,p0 x y∧p1 x y:=⟨x,y,h0,h1⟩
theorem bq{p0 p1 p2:A→Prop}(x:A)(h0:p0 x)(h1:p1 x)(h2:p2 x):∃ x,p0 x∧p1 x∧p2 x:=⟨x,h0,h1,h2⟩
theorem qe{p0:Prop}{p1:A→B→Prop}(h0:p0)(x:A)(y:B)(h1:p1 x y):p0∧∃ x y,p1 x y:=⟨h0,x,y,h1⟩
theorem ma{p0:Prop}{p1 p2:A→Prop}(h0:p0)(x:A)(h1:p1 x)(h2:p2 x):p0∧∃ x,p1 x∧p2 x:=⟨h0,x,h1,h2⟩
theorem aO{p0 p1 p2 p3:Prop}(h0:p0)(h1:p1)(h2:p2)(h3:p3):p0∧p1∧p2∧p3:=⟨h0,h1,h2,h3⟩
theorem nJ{p0:A→B→C→D→Prop}(x:A)(y:B)(z:C)(u:D)(h0:p0 x y z u):∃ x y z u,p0 x y z u:=⟨x,y,z,u,h0⟩
theorem fh{p0 p1:A→B→C→Prop}(x:A)(y:B)(z:C)(h0:p0 x y z)(h1:p1 x y z):∃ x y z,p0 x y z∧p1 x y z:=⟨x,y,z,h0,h1⟩
theorem iDDPPP{p0 p1 p2:A→B→Prop}(x:A)(y:B)(h0:p0 x y)(h1:p1 x y)(h2:p2 x y):∃ x y,p0 x y∧p1 x y∧p2 x y:=⟨x,y,h0,h1,h2⟩
theorem Cu{p0:A→Prop}{p1 p2:A→B→Prop}(x:A)(h0:p0 x)(y:B)(h1:p1 x y)(h2:p2 x y):∃ x,p0 x∧∃ y,p1 x y∧p2 x y:=⟨x,h0,y,h1,h2⟩
theorem bt{p0 p1:A→Prop}{p2:A→B→Prop}(x:A)(h0:p0 x)(h1:p1 x)(y:B)(h2:p2 x y):∃ x,p0 x∧p1 x∧∃ y,p2 x y:=⟨x,h0,h1,y,h2⟩
theorem iG{p0 p1 p2 p3:A→Prop}(x:A)(h0:p0 x)(h1:p1 x)(h2:p2 x)(h3:p3 x):∃ x,p0 x∧p1 x∧p2 x∧p3 x:=⟨x,h0,h1,h2,h3⟩
theorem uh{p0:Prop}{p1 p2:A→B→Prop}(h0:p0)(x:A)(y:B)(h1:p1 x y)(h2:p2 x y):p0∧∃ x y,p1 x y∧p2 x y:=⟨h0,x,y,h1,h2⟩
theorem yp{p0:Prop}{p1 p2 p3:A→Prop}(h0:p0)(x:A)(h1:p1 x)(h2:p2 x)(h3:p3 x):p0∧∃ x,p1 x∧p2 x∧p3 x:=⟨h0,x,h1,h2,h3⟩
theorem ui{p0 p1 p2 p3 p4:Prop}(h0:p0)(h1:p1)(h2:p2)(h3:p3)(h4:p4):p0∧p1∧p2∧p3∧p4:=⟨h0,h1,h2,h3,h4⟩
theorem Az{p0 p1:A→B→C→D→Prop}(x:A)(y:B)(z:C)(u:D)(h0:p0 x y z u)(h1:p1 x y z u):∃ x y z u,p0 x y z u∧p1 x y z u:=⟨x,y,z,u,h0,h1⟩
theorem iDDDPPP{p0 p1 p2:A→B→C→Prop}(x:A)(y:B)(z:C)(h0:p0 x y z)(h1:p1 x y z)(h2:p2 x y z):∃ x y z,p0 x y z∧p1 x y z∧p2 x y z:=⟨x,y,z,h0,h1,h2⟩
theorem cS{p0 p1 p2 p3:A→B→Prop}(x:A)(y:B)(h0:p0 x y)(h1:p1 x y)(h2:p2 x y)(h3:p3 x y):∃ x y,p0 x y∧p1 x y∧p2 x y∧p3 x y:=⟨x,y,h0,h1,h2,h3⟩
theorem qL{p0 p1 p2 p3 p4:A→Prop}(x:A)(h0:p0 x)(h1:p1 x)(h2:p2 x)(h3:p3 x)(h4:p4 x):∃ x,p0 x∧p1 x∧p2 x∧p3 x∧p4 x:=⟨x,h0,h1,h2,h3,h4⟩
theorem vG{p0:Prop}{p1 p2:A→B→C→Prop}(h0:p0)(x:A)(y:B)(z:C)(h1:p1 x y z)(h2:p2 x y z):p0∧∃ x y z,p1 x y z∧p2 x y z:=⟨h0,x,y,z,h1,h2⟩
theorem nu{p0:Prop}{p1 p2 p3 p4:A→Prop}(h0:p0)(x:A)(h1:p1 x)(h2:p2 x)(h3:p3 x)(h4:p4 x):p0∧∃ x,p1 x∧p2 x∧p3 x∧p4 x:=⟨h0,x,h1,h2,h3,h4⟩
theorem qM{p0 p1:Prop}{p2 p3:A→B→Prop}(h0:p0)(h1:p1)(x:A)(y:B)(h2:p2 x y)(h3:p3 x y):p0∧p1∧∃ x y,p2 x y∧p3 x y:=⟨h0,h1,x,y,h2,h3⟩
theorem AA{p0 p1 p2 p3 p4 p5:Prop}(h0:p0)(h1:p1)(h2:p2)(h3:p3)(h4:p4)(h5:p5):p0∧p1∧p2∧p3∧p4∧p5:=⟨h0,h1,h2,h3,h4,h5⟩
theorem yq{p0 p1 p2:A→B→C→D→Prop}(x:A)(y:B)(z:C)(u:D)(h0:p0 x y z u)(h1:p1 x y z u)(h2:p2 x y z u):∃ x y z u,p0 x y z u∧p1 x y z u∧p2 x y z u:=⟨x,y,z,u,h0,h1,h2⟩
theorem nK{p0 p1 p2 p3:A→B→C→Prop}(x:A)(y:B)(z:C)(h0:p0 x y z)(h1:p1 x y z)(h2:p2 x y z)(h3:p3 x y z):∃ x y z,p0 x y z∧p1 x y z∧p2 x y z∧p3 x y z:=⟨x,y,z,h0,h1,h2,h3⟩
theorem cF{p0 p1 p2 p3 p4:A→B→Prop}(x:A)(y:B)(h0:p0 x y)(h1:p1 x y)(h2:p2 x y)(h3:p3 x y)(h4:p4 x y):∃ x y,p0 x y∧p1 x y∧p2 x y∧p3 x y∧p4 x y:=⟨x,y,h0,h1,h2,h3,h4⟩
theorem yr{p0:A→Prop}{p1 p2 p3:A→B→C→Prop}(x:A)(h0:p0 x)(y:B)(z:C)(h1:p1 x y z)(h2:p2 x y z)(h3:p3 x y z):∃ x,p0 x∧∃ y z,p1 x y z∧p2 x y z∧p3 x y z:=⟨x,h0,y,z,h1,h2,h3⟩
theorem sz{p0:Prop}{p1 p2 p3:A→B→C→Prop}(h0:p0)(x:A)(y:B)(z:C)(h1:p1 x y z)(h2:p2 x y z)(h3:p3 x y z):p0∧∃ x y z,p1 x y z∧p2 x y z∧p3 x y z:=⟨h0,x,y,z,h1,h2,h3⟩
theorem eW{p0 p1 p2 p3:A→B→C→D→Prop}(x:A)(y:B)(z:C)(u:D)(h0:p0 x y z u)(h1:p1 x y z u)(h2:p2 x y z u)(h3:p3 x y z u):∃ x y z u,p0 x y z u∧p1 x y z u∧p2 x y z u∧p3 x y z u:=⟨x,y,z,u,h0,h1,h2,h3⟩
theorem lE{p0 p1 p2 p3 p4:A→B→C→Prop}(x:A)(y:B)(z:C)(h0:p0 x y z)(h1:p1 x y z)(h2:p2 x y z)(h3:p3 x y z)(h4:p4 x y z):∃ x y z,p0 x y z∧p1 x y z∧p2 x y z∧p3 x y z∧p4 x y z:=⟨x,y,z,h0,h1,h2,h3,h4⟩
theorem lF{p0 p1 p2 p3 p4 p5:A→B→Prop}(x:A)(y:B)(h0:p0 x y)(h1:p1 x y)(h2:p2 x y)(h3:p3 x y)(h4:p4 x y)(h5:p5 x y):∃ x y,p0 x y∧p1 x y∧p2 x y∧p3 x y∧p4 x y∧p5 x y:=⟨x,y,h0,h1,h2,h3,h4,h5⟩
theorem qf{p0:A→Prop}{p1 p2 p3:A→B→C→D→Prop}(x:A)(h0:p0 x)(y:B)(z:C)(u:D)(h1:p1 x y z u)(h2:p2 x y z u)(h3:p3 x y z u):∃ x,p0 x∧∃ y z u,p1 x y z u∧p2 x y z u∧p3 x y z u:=⟨x,h0,y,z,u,h1,h2,h3⟩
theorem jd{p0:A→Prop}{p1 p2 p3 p4:A→B→C→Prop}(x:A)(h0:p0 x)(y:B)(z:C)(h1:p1 x y z)(h2:p2 x y z)(h3:p3 x y z)(h4:p4 x y z):∃ x,p0 x∧∃ y z,p1 x y z∧p2 x y z∧p3 x y z∧p4 x y z:=⟨x,h0,y,z,h1,h2,h3,h4⟩
theorem wN{p0:A→Prop}{p1 p2 p3 p4 p5:A→B→Prop}(x:A)(h0:p0 x)(y:B)(h1:p1 x y)(h2:p2 x y)(h3:p3 x y)(h4:p4 x y)(h5:p5 x y):∃ x,p0 x∧∃ y,p1 x y∧p2 x y∧p3 x y∧p4 x y∧p5 x y:=⟨x,h0,y,h1,h2,h3,h4,h5⟩
theorem gH{p0 p1 p2 p3 p4 p5 p6 p7:Prop}(h0:p0)(h1:p1)(h2:p2)(h3:p3)(h4:p4)(h5:p5)(h6:p6)(h7:p7):p0∧p1∧p2∧p3∧p4∧p5∧p6∧p7:=⟨h0,h1,h2,h3,h4,h5,h6,h7⟩
theorem nM{p0 p1 p2 p3 p4 p5:A→B→C→Prop}(x:A)(y:B)(z:C)(h0:p0 x y z)(h1:p1 x y z)(h2:p2 x y z)(h3:p3 x y z)(h4:p4 x y z)(h5:p5 x y z):∃ x y z,p0 x y z∧p1 x y z∧p2 x y z∧p3 x y z∧p4 x y z∧p5 x y z:=⟨x,y,z,h0,h1,h2,h3,h4,h5⟩
theorem uj{p0 p1 p2 p3 p4 p5 p6:A→B→Prop}(x:A)(y:B)(h0:p0 x y)(h1:p1 x y)(h2:p2 x y)(h3:p3 x y)(h4:p4 x y)(h5:p5 x y)(h6:p6 x y):∃ x y,p0 x y∧p1 x y∧p2 x y∧p3 x y∧p4 x y∧p5 x y∧p6 x y:=⟨x,y,h0,h1,h2,h3,h4,h5,h6⟩
theorem uk{p0:Prop}{p1 p2 p3 p4 p5 p6:A→B→Prop}(h0:p0)(x:A)(y:B)(h1:p1 x y)(h2:p2 x y)(h3:p3 x y)(h4:p4 x y)(h5:p5 x y)(h6:p6 x y):p0∧∃ x y,p1 x y∧p2 x y∧p3 x y∧p4 x y∧p5 x y∧p6 x y:=⟨h0,x,y,h1,h2,h3,h4,h5,h6⟩
theorem nO{p0 p1 p2 p3 p4 p5 p6 p7 p8:Prop}(h0:p0)(h1:p1)(h2:p2)(h3:p3)(h4:p4)(h5:p5)(h6:p6)(h7:p7)(h8:p8):p0∧p1∧p2∧p3∧p4∧p5∧p6∧p7∧p8:=⟨h0,h1,h2,h3,h4,h5,h6,h7,h8⟩
theorem md{p0 p1 p2 p3 p4:A→B→C→D→E→Prop}(x:A)(y:B)(z:C)(u:D)(v:E)(h0:p0 x y z u v)(h1:p1 x y z u v)(h2:p2 x y z u v)(h3:p3 x y z u v)(h4:p4 x y z u v):∃ x y z u v,p0 x y z u v∧p1 x y z u v∧p2 x y z u v∧p3 x y z u v∧p4 x y z u v:=⟨x,y,z,u,v,h0,h1,h2,h3,h4⟩
theorem me{p0 p1 p2 p3 p4 p5:A→B→C→D→Prop}(x:A)(y:B)(z:C)(u:D)(h0:p0 x y z u)(h1:p1 x y z u)(h2:p2 x y z u)(h3:p3 x y z u)(h4:p4 x y z u)(h5:p5 x y z u):∃ x y z u,p0 x y z u∧p1 x y z u∧p2 x y z u∧p3 x y z u∧p4 x y z u∧p5 x y z u:=⟨x,y,z,u,h0,h1,h2,h3,h4,h5⟩
theorem sA{p0 p1 p2 p3 p4 p5 p6:A→B→C→Prop}(x:A)(y:B)(z:C)(h0:p0 x y z)(h1:p1 x y z)(h2:p2 x y z)(h3:p3 x y z)(h4:p4 x y z)(h5:p5 x y z)(h6:p6 x y z):∃ x y z,p0 x y z∧p1 x y z∧p2 x y z∧p3 x y z∧p4 x y z∧p5 x y z∧p6 x y z:=⟨x,y,z,h0,h1,h2,h3,h4,h5,h6⟩
theorem sC{p0 p1 p2 p3 p4 p5 p6 p7:A→B→Prop}(x:A)(y:B)(h0:p0 x y)(h1:p1 x y)(h2:p2 x y)(h3:p3 x y)(h4:p4 x y)(h5:p5 x y)(h6:p6 x y)(h7:p7 x y):∃ x y,p0 x y∧p1 x y∧p2 x y∧p3 x y∧p4 x y∧p5 x y∧p6 x y∧p7 x y:=⟨x,y,h0,h1,h2,h3,h4,h5,h6,h7⟩
theorem mf{p0:A→Prop}{p1 p2 p3 p4:A→B→C→D→E→Prop}(x:A)(h0:p0 x)(y:B)(z:C)(u:D)(v:E)(h1:p1 x y z u v)(h2:p2 x y z u v)(h3:p3 x y z u v)(h4:p4 x y z u v):∃ x,p0 x∧∃ y z u v,p1 x y z u v∧p2 x y z u v∧p3 x y z u v∧p4 x y z u v:=⟨x,h0,y,z,u,v,h1,h2,h3,h4⟩
theorem qN{p0 p1 p2 p3 p4 p5 p6:A→B→C→D→Prop}(x:A)(y:B)(z:C)(u:D)(h0:p0 x y z u)(h1:p1 x y z u)(h2:p2 x y z u)(h3:p3 x y z u)(h4:p4 x y z u)(h5:p5 x y z u)(h6:p6 x y z u):∃ x y z u,p0 x y z u∧p1 x y z u∧p2 x y z u∧p3 x y z u∧p4 x y z u∧p5 x y z u∧p6 x y z u:=⟨x,y,z,u,h0,h1,h2,h3,h4,h5,h6⟩
theorem pD{p0 p1 p2 p3 p4 p5 p6:A→B→C→D→E→Prop}(x:A)(y:B)(z:C)(u:D)(v:E)(h0:p0 x y z u v)(h1:p1 x y z u v)(h2:p2 x y z u v)(h3:p3 x y z u v)(h4:p4 x y z u v)(h5:p5 x y z u v)(h6:p6 x y z u v):∃ x y z u v,p0 x y z u v∧p1 x y z u v∧p2 x y z u v∧p3 x y z u v∧p4 x y z u v∧p5 x y z u v∧p6 x y z u v:=⟨x,y,z,u,v,h0,h1,h2,h3,h4,h5,h6⟩
theorem pE{p0 p1 p2:A→B→C→D→Prop}{p3 p4 p5 p6:A→B→C→D→E→Prop}(x:A)(y:B)(z:C)(u:D)(h0:p0 x y z u)(h1:p1 x y z u)(h2:p2 x y z u)(v:E)(h3:p3 x y z u v)(h4:p4 x y z u v)(h5:p5 x y z u v)(h6:p6 x y z u v):∃ x y z u,p0 x y z u∧p1 x y z u∧p2 x y z u∧∃ v,p3 x y z u v∧p4 x y z u v∧p5 x y z u v∧p6 x y z u v:=⟨x,y,z,u,h0,h1,h2,v,h3,h4,h5,h6⟩
theorem jx{p0 p1 p2 p3 p4 p5 p6 p7:A→B→C→D→Prop}(x:A)(y:B)(z:C)(u:D)(h0:p0 x y z u)(h1:p1 x y z u)(h2:p2 x y z u)(h3:p3 x y z u)(h4:p4 x y z u)(h5:p5 x y z u)(h6:p6 x y z u)(h7:p7 x y z u):∃ x y z u,p0 x y z u∧p1 x y z u∧p2 x y z u∧p3 x y z u∧p4 x y z u∧p5 x y z u∧p6 x y z u∧p7 x y z u:=⟨x,y,z,u,h0,h1,h2,h3,h4,h5,h6,h7⟩
theorem cI{p0 p1 p2 p3:A→B→C→Prop}{p4:A→B→C→D→E→F→G→Prop}(x:A)(y:B)(z:C)(h0:p0 x y z)(h1:p1 x y z)(h2:p2 x y z)(h3:p3 x y z)(u:D)(v:E)(w:F)(s:G)(h4:p4 x y z u v w s):∃ x y z,p0 x y z∧p1 x y z∧p2 x y z∧p3 x y z∧∃ u v w s,p4 x y z u v w s:=⟨x,y,z,h0,h1,h2,h3,u,v,w,s,h4⟩
theorem fi{p0 p1 p2 p3 p4 p5 p6:A→B→C→D→E→F→Prop}(x:A)(y:B)(z:C)(u:D)(v:E)(w:F)(h0:p0 x y z u v w)(h1:p1 x y z u v w)(h2:p2 x y z u v w)(h3:p3 x y z u v w)(h4:p4 x y z u v w)(h5:p5 x y z u v w)(h6:p6 x y z u v w):∃ x y z u v w,p0 x y z u v w∧p1 x y z u v w∧p2 x y z u v w∧p3 x y z u v w∧p4 x y z u v w∧p5 x y z u v w∧p6 x y z u v w:=⟨x,y,z,u,v,w,h0,h1,h2,h3,h4,h5,h6⟩
theorem mY{p0 p1 p2 p3 p4 p5 p6:A→B→C→D→E→F→G→Prop}(x:A)(y:B)(z:C)(u:D)(v:E)(w:F)(s:G)(h0:p0 x y z u v w s)(h1:p1 x y z u v w s)(h2:p2 x y z u v w s)(h3:p3 x y z u v w s)(h4:p4 x y z u v w s)(h5:p5 x y z u v w s)(h6:p6 x y z u v w s):∃ x y z u v w s,p0 x y z u v w s∧p1 x y z u v w s∧p2 x y z u v w s∧p3 x y z u v w s∧p4 x y z u v w s∧p5 x y z u v w s∧p6 x y z u v w s:=⟨x,y,z,u,v,w,s,h0,h1,h2,h3,h4,h5,h6⟩
theorem mZ{p0:A→Prop}{p1 p2 p3 p4 p5 p6 p7:A→B→C→D→E→F→Prop}(x:A)(h0:p0 x)(y:B)(z:C)(u:D)(v:E)(w:F)(h1:p1 x y z u v w)(h2:p2 x y z u v w)(h3:p3 x y z u v w)(h4:p4 x y z u v w)(h5:p5 x y z u v w)(h6:p6 x y z u v w)(h7:p7 x y z u v w):∃ x,p0 x∧∃ y z u v w,p1 x y z u v w∧p2 x y z u v w∧p3 x y z u v w∧p4 x y z u v w∧p5 x y z u v w∧p6 x y z u v w∧p7 x y z u v w:=⟨x,h0,y,z,u,v,w,h1,h2,h3,h4,h5,h6,h7⟩
theorem m5{p0:A→Prop}{p1 p2 p3 p4 p5 p6 p7 p8:A→B→C→D→E→Prop}(x:A)(h0:p0 x)(y:B)(z:C)(u:D)(v:E)(h1:p1 x y z u v)(h2:p2 x y z u v)(h3:p3 x y z u v)(h4:p4 x y z u v)(h5:p5 x y z u v)(h6:p6 x y z u v)(h7:p7 x y z u v)(h8:p8 x y z u v):∃ x,p0 x∧∃ y z u v,p1 x y z u v∧p2 x y z u v∧p3 x y z u v∧p4 x y z u v∧p5 x y z u v∧p6 x y z u v∧p7 x y z u v∧p8 x y z u v:=⟨x,h0,y,z,u,v,h1,h2,h3,h4,h5,h6,h7,h8⟩
theorem lG{p0:A→Prop}{p1 p2 p3 p4 p5 p6 p7:A→B→C→D→E→F→G→Prop}(x:A)(h0:p0 x)(y:B)(z:C)(u:D)(v:E)(w:F)(s:G)(h1:p1 x y z u v w s)(h2:p2 x y z u v w s)(h3:p3 x y z u v w s)(h4:p4 x y z u v w s)(h5:p5 x y z u v w s)(h6:p6 x y z u v w s)(h7:p7 x y z u v w s):∃ x,p0 x∧∃ y z u v w s,p1 x y z u v w s∧p2 x y z u v w s∧p3 x y z u v w s∧p4 x y z u v w s∧p5 x y z u v w s∧p6 x y z u v w s∧p7 x y z u v w s:=⟨x,h0,y,z,u,v,w,s,h1,h2,h3,h4,h5,h6,h7⟩
theorem ki{p0 p1 p2 p3 p4 p5 p6 p7 p8:A→B→C→D→E→F→G→Prop}(x:A)(y:B)(z:C)(u:D)(v:E)(w:F)(s:G)(h0:p0 x y z u v w s)(h1:p1 x y z u v w s)(h2:p2 x y z u v w s)(h3:p3 x y z u v w s)(h4:p4 x y z u v w s)(h5:p5 x y z u v w s)(h6:p6 x y z u v w s)(h7:p7 x y z u v w s)(h8:p8 x y z u v w s):∃ x y z u v w s,p0 x y z u v w s∧p1 x y z u v w s∧p2 x y z u v w s∧p3 x y z u v w s∧p4 x y z u v w s∧p5 x y z u v w s∧p6 x y z u v w s∧p7 x y z u v w s∧p8 x y z u v w s:=⟨x,y,z,u,v,w,s,h0,h1,h2,h3,h4,h5,h6,h7,h8⟩
theorem ba{p0:A→Prop}(h:∃ x,p0 x)(k:∀ x,p0 x→r):r:=h.elim fun x h=>k x h
theorem aK{p0 p1:Prop}(h:p0∧p1)(k:p0→p1→r):r:=k h.1 h.2
theorem eG{p0:A→B→Prop}(h:∃ x y,p0 x y)(k:∀ x y,p0 x y→r):r:=h.elim fun x h=>h.elim fun y h=>k x y h
theorem xDPP{p0 p1:A→Prop}(h:∃ x,p0 x∧p1 x)(k:∀ x,p0 x→p1 x→r):r:=h.elim fun x h=>k x h.1 h.2
theorem AB{p0:Prop}{p1:A→Prop}(h:p0∧∃ x,p1 x)(k:p0→∀ x,p1 x→r):r:=h.2.elim fun x h1=>k h.1 x h1
theorem aP{p0 p1 p2:Prop}(h:p0∧p1∧p2)(k:p0→p1→p2→r):r:=k h.1 h.2.1 h.2.2
theorem qg{p0:A→B→C→Prop}(h:∃ x y z,p0 x y z)(k:∀ x y z,p0 x y z→r):r:=h.elim fun x h=>h.elim fun y h=>h.elim fun z h=>k x y z h
theorem dx{p0 p1:A→B→Prop}(h:∃ x y,p0 x y∧p1 x y)(k:∀ x y,p0 x y→p1 x y→r):r:=h.elim fun x h=>h.elim fun y h=>k x y h.1 h.2
theorem fj{p0 p1 p2:A→Prop}(h:∃ x,p0 x∧p1 x∧p2 x)(k:∀ x,p0 x→p1 x→p2 x→r):r:=h.elim fun x h=>k x h.1 h.2.1 h.2.2
theorem jy{p0:Prop}{p1 p2:A→Prop}(h:p0∧∃ x,p1 x∧p2 x)(k:p0→∀ x,p1 x→p2 x→r):r:=h.2.elim fun x h1=>k h.1 x h1.1 h1.2
theorem bM{p0 p1 p2 p3:Prop}(h:p0∧p1∧p2∧p3)(k:p0→p1→p2→p3→r):r:=k h.1 h.2.1 h.2.2.1 h.2.2.2
theorem nQ{p0:A→B→C→D→Prop}(h:∃ x y z u,p0 x y z u)(k:∀ x y z u,p0 x y z u→r):r:=h.elim fun x h=>h.elim fun y h=>h.elim fun z h=>h.elim fun u h=>k x y z u h
theorem ej{p0 p1:A→B→C→Prop}(h:∃ x y z,p0 x y z∧p1 x y z)(k:∀ x y z,p0 x y z→p1 x y z→r):r:=h.elim fun x h=>h.elim fun y h=>h.elim fun z h=>k x y z h.1 h.2
theorem xDDPPP{p0 p1 p2:A→B→Prop}(h:∃ x y,p0 x y∧p1 x y∧p2 x y)(k:∀ x y,p0 x y→p1 x y→p2 x y→r):r:=h.elim fun x h=>h.elim fun y h=>k x y h.1 h.2.1 h.2.2
theorem yt{p0 p1:A→Prop}{p2:A→B→Prop}(h:∃ x,p0 x∧p1 x∧∃ y,p2 x y)(k:∀ x,p0 x→p1 x→∀ y,p2 x y→r):r:=h.elim fun x h=>h.2.2.elim fun y h2=>k x h.1 h.2.1 y h2
theorem um{p0 p1 p2 p3:A→Prop}(h:∃ x,p0 x∧p1 x∧p2 x∧p3 x)(k:∀ x,p0 x→p1 x→p2 x→p3 x→r):r:=h.elim fun x h=>k x h.1 h.2.1 h.2.2.1 h.2.2.2
theorem eu{p0:Prop}{p1 p2:A→B→Prop}(h:p0∧∃ x y,p1 x y∧p2 x y)(k:p0→∀ x y,p1 x y→p2 x y→r):r:=h.2.elim fun x h1=>h1.elim fun y h2=>k h.1 x y h2.1 h2.2
theorem dJ{p0:Prop}{p1 p2 p3:A→Prop}(h:p0∧∃ x,p1 x∧p2 x∧p3 x)(k:p0→∀ x,p1 x→p2 x→p3 x→r):r:=h.2.elim fun x h1=>k h.1 x h1.1 h1.2.1 h1.2.2
theorem uo{p0 p1 p2 p3 p4:Prop}(h:p0∧p1∧p2∧p3∧p4)(k:p0→p1→p2→p3→p4→r):r:=k h.1 h.2.1 h.2.2.1 h.2.2.2.1 h.2.2.2.2
theorem nv{p0:A→B→C→D→E→Prop}(h:∃ x y z u v,p0 x y z u v)(k:∀ x y z u v,p0 x y z u v→r):r:=h.elim fun x h=>h.elim fun y h=>h.elim fun z h=>h.elim fun u h=>h.elim fun v h=>k x y z u v h
theorem nx{p0 p1:A→B→C→D→Prop}(h:∃ x y z u,p0 x y z u∧p1 x y z u)(k:∀ x y z u,p0 x y z u→p1 x y z u→r):r:=h.elim fun x h=>h.elim fun y h=>h.elim fun z h=>h.elim fun u h=>k x y z u h.1 h.2
theorem dS{p0 p1 p2:A→B→C→Prop}(h:∃ x y z,p0 x y z∧p1 x y z∧p2 x y z)(k:∀ x y z,p0 x y z→p1 x y z→p2 x y z→r):r:=h.elim fun x h=>h.elim fun y h=>h.elim fun z h=>k x y z h.1 h.2.1 h.2.2
theorem bQ{p0 p1 p2 p3:A→B→Prop}(h:∃ x y,p0 x y∧p1 x y∧p2 x y∧p3 x y)(k:∀ x y,p0 x y→p1 x y→p2 x y→p3 x y→r):r:=h.elim fun x h=>h.elim fun y h=>k x y h.1 h.2.1 h.2.2.1 h.2.2.2
theorem gT{p0 p1 p2 p3 p4:A→Prop}(h:∃ x,p0 x∧p1 x∧p2 x∧p3 x∧p4 x)(k:∀ x,p0 x→p1 x→p2 x→p3 x→p4 x→r):r:=h.elim fun x h=>k x h.1 h.2.1 h.2.2.1 h.2.2.2.1 h.2.2.2.2
theorem qO{p0:Prop}{p1 p2:A→B→C→Prop}(h:p0∧∃ x y z,p1 x y z∧p2 x y z)(k:p0→∀ x y z,p1 x y z→p2 x y z→r):r:=h.2.elim fun x h1=>h1.elim fun y h2=>h2.elim fun z h3=>k h.1 x y z h3.1 h3.2
theorem vH{p0:Prop}{p1 p2 p3 p4:A→Prop}(h:p0∧∃ x,p1 x∧p2 x∧p3 x∧p4 x)(k:p0→∀ x,p1 x→p2 x→p3 x→p4 x→r):r:=h.2.elim fun x h1=>k h.1 x h1.1 h1.2.1 h1.2.2.1 h1.2.2.2
theorem kj{p0 p1 p2 p3 p4 p5:Prop}(h:p0∧p1∧p2∧p3∧p4∧p5)(k:p0→p1→p2→p3→p4→p5→r):r:=k h.1 h.2.1 h.2.2.1 h.2.2.2.1 h.2.2.2.2.1 h.2.2.2.2.2
theorem nR{p0 p1 p2:A→B→C→D→Prop}(h:∃ x y z u,p0 x y z u∧p1 x y z u∧p2 x y z u)(k:∀ x y z u,p0 x y z u→p1 x y z u→p2 x y z u→r):r:=h.elim fun x h=>h.elim fun y h=>h.elim fun z h=>h.elim fun u h=>k x y z u h.1 h.2.1 h.2.2
theorem dy{p0 p1 p2 p3:A→B→C→Prop}(h:∃ x y z,p0 x y z∧p1 x y z∧p2 x y z∧p3 x y z)(k:∀ x y z,p0 x y z→p1 x y z→p2 x y z→p3 x y z→r):r:=h.elim fun x h=>h.elim fun y h=>h.elim fun z h=>k x y z h.1 h.2.1 h.2.2.1 h.2.2.2
theorem fk{p0 p1 p2 p3 p4:A→B→Prop}(h:∃ x y,p0 x y∧p1 x y∧p2 x y∧p3 x y∧p4 x y)(k:∀ x y,p0 x y→p1 x y→p2 x y→p3 x y→p4 x y→r):r:=h.elim fun x h=>h.elim fun y h=>k x y h.1 h.2.1 h.2.2.1 h.2.2.2.1 h.2.2.2.2
theorem yu{p0:A→Prop}{p1 p2 p3 p4:A→B→Prop}(h:∃ x,p0 x∧∃ y,p1 x y∧p2 x y∧p3 x y∧p4 x y)(k:∀ x,p0 x→∀ y,p1 x y→p2 x y→p3 x y→p4 x y→r):r:=h.elim fun x h=>h.2.elim fun y h2=>k x h.1 y h2.1 h2.2.1 h2.2.2.1 h2.2.2.2
theorem sD{p0:Prop}{p1 p2 p3:A→B→C→Prop}(h:p0∧∃ x y z,p1 x y z∧p2 x y z∧p3 x y z)(k:p0→∀ x y z,p1 x y z→p2 x y z→p3 x y z→r):r:=h.2.elim fun x h1=>h1.elim fun y h2=>h2.elim fun z h3=>k h.1 x y z h3.1 h3.2.1 h3.2.2
theorem qh{p0 p1:A→B→C→D→E→F→Prop}(h:∃ x y z u v w,p0 x y z u v w∧p1 x y z u v w)(k:∀ x y z u v w,p0 x y z u v w→p1 x y z u v w→r):r:=h.elim fun x h=>h.elim fun y h=>h.elim fun z h=>h.elim fun u h=>h.elim fun v h=>h.elim fun w h=>k x y z u v w h.1 h.2
theorem wO{p0 p1 p2 p3:A→B→C→D→Prop}(h:∃ x y z u,p0 x y z u∧p1 x y z u∧p2 x y z u∧p3 x y z u)(k:∀ x y z u,p0 x y z u→p1 x y z u→p2 x y z u→p3 x y z u→r):r:=h.elim fun x h=>h.elim fun y h=>h.elim fun z h=>h.elim fun u h=>k x y z u h.1 h.2.1 h.2.2.1 h.2.2.2
theorem qj{p0 p1 p2 p3 p4:A→B→C→Prop}(h:∃ x y z,p0 x y z∧p1 x y z∧p2 x y z∧p3 x y z∧p4 x y z)(k:∀ x y z,p0 x y z→p1 x y z→p2 x y z→p3 x y z→p4 x y z→r):r:=h.elim fun x h=>h.elim fun y h=>h.elim fun z h=>k x y z h.1 h.2.1 h.2.2.1 h.2.2.2.1 h.2.2.2.2
theorem je{p0 p1 p2 p3 p4 p5:A→B→Prop}(h:∃ x y,p0 x y∧p1 x y∧p2 x y∧p3 x y∧p4 x y∧p5 x y)(k:∀ x y,p0 x y→p1 x y→p2 x y→p3 x y→p4 x y→p5 x y→r):r:=h.elim fun x h=>h.elim fun y h=>k x y h.1 h.2.1 h.2.2.1 h.2.2.2.1 h.2.2.2.2.1 h.2.2.2.2.2
theorem wQ{p0:Prop}{p1 p2 p3 p4 p5:A→B→Prop}(h:p0∧∃ x y,p1 x y∧p2 x y∧p3 x y∧p4 x y∧p5 x y)(k:p0→∀ x y,p1 x y→p2 x y→p3 x y→p4 x y→p5 x y→r):r:=h.2.elim fun x h1=>h1.elim fun y h2=>k h.1 x y h2.1 h2.2.1 h2.2.2.1 h2.2.2.2.1 h2.2.2.2.2
theorem nS{p0 p1:A→B→C→D→E→F→G→Prop}(h:∃ x y z u v w s,p0 x y z u v w s∧p1 x y z u v w s)(k:∀ x y z u v w s,p0 x y z u v w s→p1 x y z u v w s→r):r:=h.elim fun x h=>h.elim fun y h=>h.elim fun z h=>h.elim fun u h=>h.elim fun v h=>h.elim fun w h=>h.elim fun s h=>k x y z u v w s h.1 h.2
theorem aG{p0 p1 p2 p3:A→B→C→D→E→Prop}(h:∃ x y z u v,p0 x y z u v∧p1 x y z u v∧p2 x y z u v∧p3 x y z u v)(k:∀ x y z u v,p0 x y z u v→p1 x y z u v→p2 x y z u v→p3 x y z u v→r):r:=h.elim fun x h=>h.elim fun y h=>h.elim fun z h=>h.elim fun u h=>h.elim fun v h=>k x y z u v h.1 h.2.1 h.2.2.1 h.2.2.2
theorem jO{p0 p1 p2 p3 p4 p5 p6:A→B→Prop}(h:∃ x y,p0 x y∧p1 x y∧p2 x y∧p3 x y∧p4 x y∧p5 x y∧p6 x y)(k:∀ x y,p0 x y→p1 x y→p2 x y→p3 x y→p4 x y→p5 x y→p6 x y→r):r:=h.elim fun x h=>h.elim fun y h=>k x y h.1 h.2.1 h.2.2.1 h.2.2.2.1 h.2.2.2.2.1 h.2.2.2.2.2.1 h.2.2.2.2.2.2
theorem uq{p0:Prop}{p1 p2 p3 p4 p5:A→B→C→Prop}(h:p0∧∃ x y z,p1 x y z∧p2 x y z∧p3 x y z∧p4 x y z∧p5 x y z)(k:p0→∀ x y z,p1 x y z→p2 x y z→p3 x y z→p4 x y z→p5 x y z→r):r:=h.2.elim fun x h1=>h1.elim fun y h2=>h2.elim fun z h3=>k h.1 x y z h3.1 h3.2.1 h3.2.2.1 h3.2.2.2.1 h3.2.2.2.2
theorem ur{p0:Prop}{p1 p2 p3 p4 p5 p6:A→B→Prop}(h:p0∧∃ x y,p1 x y∧p2 x y∧p3 x y∧p4 x y∧p5 x y∧p6 x y)(k:p0→∀ x y,p1 x y→p2 x y→p3 x y→p4 x y→p5 x y→p6 x y→r):r:=h.2.elim fun x h1=>h1.elim fun y h2=>k h.1 x y h2.1 h2.2.1 h2.2.2.1 h2.2.2.2.1 h2.2.2.2.2.1 h2.2.2.2.2.2
theorem sE{p0 p1 p2:A→B→C→D→Prop}{p3 p4:A→B→C→D→E→Prop}(h:∃ x y z u,p0 x y z u∧p1 x y z u∧p2 x y z u∧∃ v,p3 x y z u v∧p4 x y z u v)(k:∀ x y z u,p0 x y z u→p1 x y z u→p2 x y z u→∀ v,p3 x y z u v→p4 x y z u v→r):r:=h.elim fun x h=>h.elim fun y h=>h.elim fun z h=>h.elim fun u h=>h.2.2.2.elim fun v h5=>k x y z u h.1 h.2.1 h.2.2.1 v h5.1 h5.2
theorem mh{p0 p1 p2 p3 p4 p5:A→B→C→D→Prop}(h:∃ x y z u,p0 x y z u∧p1 x y z u∧p2 x y z u∧p3 x y z u∧p4 x y z u∧p5 x y z u)(k:∀ x y z u,p0 x y z u→p1 x y z u→p2 x y z u→p3 x y z u→p4 x y z u→p5 x y z u→r):r:=h.elim fun x h=>h.elim fun y h=>h.elim fun z h=>h.elim fun u h=>k x y z u h.1 h.2.1 h.2.2.1 h.2.2.2.1 h.2.2.2.2.1 h.2.2.2.2.2
theorem mi{p0 p1 p2 p3 p4 p5 p6:A→B→C→Prop}(h:∃ x y z,p0 x y z∧p1 x y z∧p2 x y z∧p3 x y z∧p4 x y z∧p5 x y z∧p6 x y z)(k:∀ x y z,p0 x y z→p1 x y z→p2 x y z→p3 x y z→p4 x y z→p5 x y z→p6 x y z→r):r:=h.elim fun x h=>h.elim fun y h=>h.elim fun z h=>k x y z h.1 h.2.1 h.2.2.1 h.2.2.2.1 h.2.2.2.2.1 h.2.2.2.2.2.1 h.2.2.2.2.2.2
theorem qP{p0 p1 p2:A→B→C→D→Prop}{p3 p4 p5:A→B→C→D→E→Prop}(h:∃ x y z u,p0 x y z u∧p1 x y z u∧p2 x y z u∧∃ v,p3 x y z u v∧p4 x y z u v∧p5 x y z u v)(k:∀ x y z u,p0 x y z u→p1 x y z u→p2 x y z u→∀ v,p3 x y z u v→p4 x y z u v→p5 x y z u v→r):r:=h.elim fun x h=>h.elim fun y h=>h.elim fun z h=>h.elim fun u h=>h.2.2.2.elim fun v h5=>k x y z u h.1 h.2.1 h.2.2.1 v h5.1 h5.2.1 h5.2.2
theorem eH{p0 p1 p2 p3 p4 p5 p6:A→B→C→D→Prop}(h:∃ x y z u,p0 x y z u∧p1 x y z u∧p2 x y z u∧p3 x y z u∧p4 x y z u∧p5 x y z u∧p6 x y z u)(k:∀ x y z u,p0 x y z u→p1 x y z u→p2 x y z u→p3 x y z u→p4 x y z u→p5 x y z u→p6 x y z u→r):r:=h.elim fun x h=>h.elim fun y h=>h.elim fun z h=>h.elim fun u h=>k x y z u h.1 h.2.1 h.2.2.1 h.2.2.2.1 h.2.2.2.2.1 h.2.2.2.2.2.1 h.2.2.2.2.2.2
theorem pF{p0 p1 p2 p3 p4 p5 p6:A→B→C→D→E→Prop}(h:∃ x y z u v,p0 x y z u v∧p1 x y z u v∧p2 x y z u v∧p3 x y z u v∧p4 x y z u v∧p5 x y z u v∧p6 x y z u v)(k:∀ x y z u v,p0 x y z u v→p1 x y z u v→p2 x y z u v→p3 x y z u v→p4 x y z u v→p5 x y z u v→p6 x y z u v→r):r:=h.elim fun x h=>h.elim fun y h=>h.elim fun z h=>h.elim fun u h=>h.elim fun v h=>k x y z u v h.1 h.2.1 h.2.2.1 h.2.2.2.1 h.2.2.2.2.1 h.2.2.2.2.2.1 h.2.2.2.2.2.2
theorem jz{p0 p1 p2:A→B→C→D→Prop}{p3 p4 p5 p6:A→B→C→D→E→Prop}(h:∃ x y z u,p0 x y z u∧p1 x y z u∧p2 x y z u∧∃ v,p3 x y z u v∧p4 x y z u v∧p5 x y z u v∧p6 x y z u v)(k:∀ x y z u,p0 x y z u→p1 x y z u→p2 x y z u→∀ v,p3 x y z u v→p4 x y z u v→p5 x y z u v→p6 x y z u v→r):r:=h.elim fun x h=>h.elim fun y h=>h.elim fun z h=>h.elim fun u h=>h.2.2.2.elim fun v h5=>k x y z u h.1 h.2.1 h.2.2.1 v h5.1 h5.2.1 h5.2.2.1 h5.2.2.2
theorem pG{p0 p1 p2 p3 p4 p5 p6 p7:A→B→C→D→Prop}(h:∃ x y z u,p0 x y z u∧p1 x y z u∧p2 x y z u∧p3 x y z u∧p4 x y z u∧p5 x y z u∧p6 x y z u∧p7 x y z u)(k:∀ x y z u,p0 x y z u→p1 x y z u→p2 x y z u→p3 x y z u→p4 x y z u→p5 x y z u→p6 x y z u→p7 x y z u→r):r:=h.elim fun x h=>h.elim fun y h=>h.elim fun z h=>h.elim fun u h=>k x y z u h.1 h.2.1 h.2.2.1 h.2.2.2.1 h.2.2.2.2.1 h.2.2.2.2.2.1 h.2.2.2.2.2.2.1 h.2.2.2.2.2.2.2
theorem jA{p0 p1 p2 p3:A→B→C→Prop}{p4:A→B→C→D→E→F→G→Prop}(h:∃ x y z,p0 x y z∧p1 x y z∧p2 x y z∧p3 x y z∧∃ u v w s,p4 x y z u v w s)(k:∀ x y z,p0 x y z→p1 x y z→p2 x y z→p3 x y z→∀ u v w s,p4 x y z u v w s→r):r:=h.elim fun x h=>h.elim fun y h=>h.elim fun z h=>h.2.2.2.2.elim fun u h4=>h4.elim fun v h5=>h5.elim fun w h6=>h6.elim fun s h7=>k x y z h.1 h.2.1 h.2.2.1 h.2.2.2.1 u v w s h7
theorem fq{p0 p1 p2 p3 p4 p5 p6:A→B→C→D→E→F→Prop}(h:∃ x y z u v w,p0 x y z u v w∧p1 x y z u v w∧p2 x y z u v w∧p3 x y z u v w∧p4 x y z u v w∧p5 x y z u v w∧p6 x y z u v w)(k:∀ x y z u v w,p0 x y z u v w→p1 x y z u v w→p2 x y z u v w→p3 x y z u v w→p4 x y z u v w→p5 x y z u v w→p6 x y z u v w→r):r:=h.elim fun x h=>h.elim fun y h=>h.elim fun z h=>h.elim fun u h=>h.elim fun v h=>h.elim fun w h=>k x y z u v w h.1 h.2.1 h.2.2.1 h.2.2.2.1 h.2.2.2.2.1 h.2.2.2.2.2.1 h.2.2.2.2.2.2
theorem iq{p0 p1 p2 p3 p4 p5 p6:A→B→C→D→E→F→G→Prop}(h:∃ x y z u v w s,p0 x y z u v w s∧p1 x y z u v w s∧p2 x y z u v w s∧p3 x y z u v w s∧p4 x y z u v w s∧p5 x y z u v w s∧p6 x y z u v w s)(k:∀ x y z u v w s,p0 x y z u v w s→p1 x y z u v w s→p2 x y z u v w s→p3 x y z u v w s→p4 x y z u v w s→p5 x y z u v w s→p6 x y z u v w s→r):r:=h.elim fun x h=>h.elim fun y h=>h.elim fun z h=>h.elim fun u h=>h.elim fun v h=>h.elim fun w h=>h.elim fun s h=>k x y z u v w s h.1 h.2.1 h.2.2.1 h.2.2.2.1 h.2.2.2.2.1 h.2.2.2.2.2.1 h.2.2.2.2.2.2
theorem m6{p0 p1 p2:A→B→C→D→Prop}{p3 p4 p5 p6 p7:A→B→C→D→E→F→Prop}(h:∃ x y z u,p0 x y z u∧p1 x y z u∧p2 x y z u∧∃ v w,p3 x y z u v w∧p4 x y z u v w∧p5 x y z u v w∧p6 x y z u v w∧p7 x y z u v w)(k:∀ x y z u,p0 x y z u→p1 x y z u→p2 x y z u→∀ v w,p3 x y z u v w→p4 x y z u v w→p5 x y z u v w→p6 x y z u v w→p7 x y z u v w→r):r:=h.elim fun x h=>h.elim fun y h=>h.elim fun z h=>h.elim fun u h=>h.2.2.2.elim fun v h5=>h5.elim fun w h6=>k x y z u h.1 h.2.1 h.2.2.1 v w h6.1 h6.2.1 h6.2.2.1 h6.2.2.2.1 h6.2.2.2.2
theorem ir{p0 p1 p2 p3 p4:A→B→C→D→Prop}{p5 p6 p7 p8:A→B→C→D→E→Prop}(h:∃ x y z u,p0 x y z u∧p1 x y z u∧p2 x y z u∧p3 x y z u∧p4 x y z u∧∃ v,p5 x y z u v∧p6 x y z u v∧p7 x y z u v∧p8 x y z u v)(k:∀ x y z u,p0 x y z u→p1 x y z u→p2 x y z u→p3 x y z u→p4 x y z u→∀ v,p5 x y z u v→p6 x y z u v→p7 x y z u v→p8 x y z u v→r):r:=h.elim fun x h=>h.elim fun y h=>h.elim fun z h=>h.elim fun u h=>h.2.2.2.2.2.elim fun v h5=>k x y z u h.1 h.2.1 h.2.2.1 h.2.2.2.1 h.2.2.2.2.1 v h5.1 h5.2.1 h5.2.2.1 h5.2.2.2
theorem fW{p0 p1 p2 p3 p4 p5 p6 p7 p8:A→B→C→D→E→F→G→Prop}(h:∃ x y z u v w s,p0 x y z u v w s∧p1 x y z u v w s∧p2 x y z u v w s∧p3 x y z u v w s∧p4 x y z u v w s∧p5 x y z u v w s∧p6 x y z u v w s∧p7 x y z u v w s∧p8 x y z u v w s)(k:∀ x y z u v w s,p0 x y z u v w s→p1 x y z u v w s→p2 x y z u v w s→p3 x y z u v w s→p4 x y z u v w s→p5 x y z u v w s→p6 x y z u v w s→p7 x y z u v w s→p8 x y z u v w s→r):r:=h.elim fun x h=>h.elim fun y h=>h.elim fun z h=>h.elim fun u h=>h.elim fun v h=>h.elim fun w h=>h.elim fun s h=>k x y z u v w s h.1 h.2.1 h.2.2.1 h.2.2.2.1 h.2.2.2.2.1 h.2.2.2.2.2.1 h.2.2.2.2.2.2.1 h.2.2.2.2.2.2.2.1 h.2.2.2.2.2.2.2.2
end
end Mp
section
open PySem
namespace Mp
inductive V where
 | none
 | bool (b:Bool)
 | int (i:Int)
 | str (s:Str)
 | list (xs:List V)
 | tuple (xs:List V)
 | ref (a:Addr)
 | bi (id:String)
 | ty (n:String)
 | sv (a b c:Int)
 deriving Inhabited
theorem Cv{P:Addr→Prop}:∀ b∈([]:List Addr),P b:=fun Z h=>nomatch h
theorem bb{P:Addr→Prop}{a:Addr}{l:List Addr}(p:P a)(q:∀ b∈l,P b):∀ b∈a::l,P b:=fun b h=>(List.mem_cons.mp h).elim (fun e=>e▸p) (q b)
theorem iH{P:Addr→Prop}{a:Addr}(p:P a):∀ b∈[a],P b:=bb p Cv
theorem HP{a:Addr}{l:List Addr}:a∈a::l:=.head _
theorem in1{a b:Addr}{l:List Addr}:a∈b::a::l:=.tail _ (.head _)
theorem I8{a b c:Addr}{l:List Addr}:a∈b::c::a::l:=.tail _ (.tail _ (.head _))
theorem I9{a b c d:Addr}{l:List Addr}:a∈b::c::d::a::l:=.tail _ (.tail _ (.tail _ (.head _)))
noncomputable abbrev Own:=Addr→Option Addr
inductive RV(own:Own)(h:Heap):Value→V→Prop where
 | vI:RV own h .none .none
 | bool (b:Bool):RV own h (.bool b) (.bool b)
 | int (i:Int) (t:Tok):RV own h (.int i t) (.int i)
 | str (s:Str) (t:Tok):RV own h (.str s t) (.str s)
 | ref (a:Addr):RV own h (.ref a) (.ref a)
 | bi (id:String):RV own h (.builtin id) (.bi id)
 | ty (n:String):RV own h (.type n) (.ty n)
 | list {a:Addr} {d:Option Addr} {vs:Array Value} {n:Nat} {sl:Array (Option Value)} {xs:List V} (ho:h.get? a=some ⟨.type "list",d,.seq vs n,sl⟩) (hn:own a=none)
   (hz:vs.size=xs.length) (hi:∀ (i:Nat) (v:Value) (x:V),vs[i]?=some v→xs[i]?=some x→RV own h v x):RV own h (.ref a) (.list xs)
 | tuple {a:Addr} {d:Option Addr} {vs:Array Value} {n:Nat} {sl:Array (Option Value)} {xs:List V} (ho:h.get? a=some ⟨.type "tuple",d,.seq vs n,sl⟩) (hn:own a=none)
   (hz:vs.size=xs.length) (hi:∀ (i:Nat) (v:Value) (x:V),vs[i]?=some v→xs[i]?=some x→RV own h v x):RV own h (.ref a) (.tuple xs)
 | sv {r:Addr} {a b c:Int} {t u v:Tok} (ho:IsRange h r a b c t u v) (hn:own r=none):RV own h (.ref r) (.sv a b c)
theorem cons_of{vs:List Value}{n:Nat}(h:vs.length=n+1):∃ v us,vs=v::us∧us.length=n:=by
 cases vs with
 | nil=>cases h
 | cons v us=>exact (eB v us rfl (Nat.succ.inj h))
theorem bY{α:Type}{a:α}{vs:List Value}(h:vs.length=[a].length):∃ v,vs=[v]:=List.length_eq_one_iff.mp h
theorem fX{α:Type}{a b:α}{vs:List Value}(h:vs.length=[a,b].length):∃ v u,vs=[v,u] :=
 dx (cons_of h) fun v us e h=>ba (bY (a:=b) h) fun u e2=>fV v u (e.trans (congrArg _ e2))
theorem AD{α:Type}{a b c:α}{vs:List Value}(h:vs.length=[a,b,c].length):∃ v u w,vs=[v,u,w] :=
 dx (cons_of h) fun v us e h=>eG (fX (a:=b) (b:=c) h) fun u w e2=>vF v u w (e.trans (congrArg _ e2))
theorem vJ{α:Type}{a b:α}{vs:Array Value}(h:vs.size=[a,b].length):∃ v u,vs=#[v,u]:=by
 rcases vs with ⟨l⟩
 exact eG (fX (a:=a) (b:=b) h) fun v u e=>fV v u (congrArg _ e)
noncomputable def Ja (v:Value):V→Prop
 | .int i=>∃ t,v=.int i t
 | .str x=>∃ t,v=.str x t
 | _=>∀ P:Prop,P→P
noncomputable def Jb (v:Value):V→Prop
 | .none=>v=.none
 | .bool b=>v=.bool b
 | .ref a=>v=.ref a
 | .bi i=>v=.builtin i
 | .ty n=>v=.type n
 | _=>∀ P:Prop,P→P
theorem RV.a1{own:Own}{h:Heap}{v:Value}{x:V}(r:RV own h v x):Ja v x:=by
 cases r <;> first | exact (bA _ rfl) | exact fun Z p=>p
theorem RV.a0{own:Own}{h:Heap}{v:Value}{x:V}(r:RV own h v x):Jb v x:=by
 cases r <;> first | exact rfl | exact fun Z p=>p
section
variable {own:Own}{h:Heap}{v:Value}{M:Value→Prop}
@[elab_as_elim] theorem RV.yv{xs:List V}(r:RV own h v (.list xs))(k:∀ a d vs n sl,h.get? a=some ⟨.type "list",d,.seq vs n,sl⟩→own a=none→vs.size=xs.length→(∀ (i:Nat) (v:Value) (x:V),vs[i]?=some v→xs[i]?=some x→RV own h v x)→M (.ref a)):M v:=by
 cases r with
 | list ho hn hz hi=>exact k _ _ _ _ _ ho hn hz hi
@[elab_as_elim] theorem RV.HQ{n:String}(r:RV own h v (.ty n))(k:M (.type n)):M v:=(RV.a0 r:v=.type n).symm▸k
noncomputable def V0:V→Value
 | .bool b=>.bool b
 | .ref a=>.ref a
 | .bi i=>.builtin i
 | .ty n=>.type n
 | _=>.none
noncomputable def Jc:V→Bool
 | .none=>true
 | .bool _=>true
 | .ref _=>true
 | .bi _=>true
 | .ty _=>true
 | _=>false
@[elab_as_elim] theorem RV.e0{x:V}(r:RV own h v x)(hx:Jc x=true)(k:M (V0 x)):M v:=by
 have e:v=V0 x:=by
  cases x with
  | none=>exact RV.a0 r
  | bool b=>exact RV.a0 r
  | ref b=>exact RV.a0 r
  | bi b=>exact RV.a0 r
  | ty b=>exact RV.a0 r
  | _=>exact Bool.noConfusion (hx:false=true)
 exact e▸k
noncomputable def V1 (t:Tok):V→Value
 | .int i=>.int i t
 | .str x=>.str x t
 | _=>.none
noncomputable def Jd:V→Bool
 | .int _=>true
 | .str _=>true
 | _=>false
@[elab_as_elim] theorem RV.e1{x:V}(r:RV own h v x)(hx:Jd x=true)(k:∀ t,M (V1 t x)):M v:=by
 have e:∃ t,v=V1 t x:=by
  cases x with
  | int b=>exact RV.a1 r
  | str b=>exact RV.a1 r
  | _=>exact Bool.noConfusion (hx:false=true)
 exact ba e fun t e=>e▸k t
end
noncomputable def pH (o:Obj):Prop:=((o.cls=.type "list"∨o.cls=.type "tuple")∧∃ vs n,o.data=.seq vs n)∨(o.cls=.type "range"∧∃ vs,o.data=.fields vs)
theorem pH.cls{o:Obj}(f:pH o):o.cls≠.type "frame"∧o.cls≠.none:=by
 rcases f with ⟨f | f,_⟩ | ⟨f,_⟩ <;> (rw [f];decide)
theorem eI{o:Obj}{es:Array DictEntry}{n:Nat}(e:o.data=.dict es n):¬ pH o:=by
 rintro (⟨_,vs,n,q⟩ | ⟨_,vs,q⟩) <;> (rw [e] at q;cases q)
theorem pH.nodict{o:Obj}(f:pH o):∀ es n,o.data≠.dict es n:=fun es n e=>eI e f
theorem kl{o:Obj}{v:Option Value}(e:o.data=.cell v):¬ pH o:=by
 rintro (⟨_,vs,n,q⟩ | ⟨_,vs,q⟩) <;> (rw [e] at q;cases q)
noncomputable def bP (own:Own) (h:Heap) (vs:List Value) (xs:List V):Prop:=vs.length=xs.length∧∀ (i:Nat) (v:Value) (x:V),vs[i]?=some v→xs[i]?=some x→RV own h v x
inductive Cell where
 | list (xs:List V)
 | dict (es:List (Int×V))
 | c9 (es:List (Int×V))
 | set (S:Int→Bool) (n:Nat)
 | inst (c:Addr) (fs:List (Str×V))
 | slots (c:Addr) (fs:List (Option V))
 | iter (xs:V) (i:Nat)
 | qQ (id:String) (l:Addr)
 | tab
 | nU (T:String)
noncomputable abbrev Cells:=Addr→Option Cell
noncomputable abbrev Loc:=List (Str×V)
noncomputable def upd (cells:Cells) (a:Addr) (c:Option Cell):Cells:=fun b=>if b=a then c else cells b
noncomputable def bT (prog:Program) (w:World) (own:Own) (h:Heap) (a:Addr):Cell→Prop
 | .list xs=>∃ vs n,h.get? a=some ⟨.type "list",none,.seq vs n,#[]⟩∧bP own h vs.toList xs
 | .dict es=>∃ bp,h.DictOf (intKind prog w) a bp∧bp.map (·.1)=es.map (·.1)∧bP own h (bp.map (·.2)) (es.map (·.2))
 | .c9 es=>∃ bp,h.DictOf (intKind prog w) a bp∧bp.map (·.1)=es.map (·.1)∧bP own h (bp.map (·.2)) (es.map (·.2))
 | .set S n=>h.SetOf (intKind prog w) a S n
 | .inst c fs=>∃ d m sl,h.get? a=some ⟨.ref c,some d,.plain,sl⟩∧own d=some a∧d≠a∧h.Ns1 d m∧∀ x,(fs.lookup x=none→m x=none)∧(∀ mv,fs.lookup x=some mv→∃ v,m x=some v∧RV own h v mv)
 | .slots c fs=>∃ d sl,h.get? a=some ⟨.ref c,some d,.plain,sl⟩∧own d=some a∧d≠a∧h.Ns d (fun Z=>none)∧sl.size=fs.length∧∀ (i:Nat) (v:Option Value) (x:Option V),sl[i]?=some v→fs[i]?=some x→(v=none∧x=none)∨∃ u y,v=some u∧x=some y∧RV own h u y
 | .iter xs i=>∃ it l,h.get? a=some ⟨.type "method-wrapper",none,.fields #[.builtin "list_iterator.__next__",.ref it],#[]⟩∧own it=some a∧it≠a∧h.IsListIter it l i∧RV own h (.ref l) xs
 | .qQ id l=>h.get? a=some ⟨.type "builtin_function_or_method",none,.fields #[.builtin id,.ref l],#[]⟩
 | .tab=>∃ ps,h.get? a=some (PySem.W.tabObj ps)∧TriplesOk ps.toList
 | .nU T=>∃ o,h.get? a=some o∧o.cls=.type T
set_option genInjectivity false in
structure Cx where
 prog:Program
 w:World
 h₀:Heap
 os:OsState
 mg:Str→Option Value
 mb:Str→Option Value
 glob:List (Str×V)
 hg:h₀.Ns mainGlobals mg
 hb:h₀.Ns builtinsNs mb
 D4:h₀.NoLimit
 K:PySem.W.Frag
 hK:K.In h₀
 D5:∀ a o,K.lookup a=some o→o.cls≠.none
 D6:∃ o,h₀.get? sysModules=some o
 iz:List Addr
 yw:∀ x mv,glob.lookup x=some mv→∃ v,(mg x=some v∨(mg x=none∧mb x=some v))∧RV (fun Z=>none) {} v mv
noncomputable abbrev Cx.push (X:Cx) (L:Addr):Cx:={ X with iz:=L::X.iz}
noncomputable def uu (h₀:Heap) (own:Own) (h:Heap) (L:Addr):Prop:=own L=none∧∃ o es n,h.get? L=some o∧o.data=.dict es n∧h₀.get? L=none
theorem uu.mono{h₀:Heap}{own own':Own}{h h':Heap}{L:Addr}(f:uu h₀ own h L)(hk:∀ o,h.get? L=some o→h'.get? L=some o)(ho:∀ o,h.get? L=some o→own L=none→own' L=none):uu h₀ own' h' L:=qO f fun n o es k e d=>vG (ho o e n) o es k (hk o e) d
structure D7(env:Env):Prop where
 kind:env.scope.kind=.function
 glob:env.globals=mainGlobals
 blt:env.builtins=builtinsNs
noncomputable def Fa (env:Env) (b:Addr):Prop:=b=env.locals∨∃ x,env.kindOf x=some .cell∧env.cells.lookup x=some b
noncomputable def qR (_:Addr):Prop:=False
noncomputable def bg (k:Option NameKind):Prop:=k=some .cell∨k=some .free
noncomputable def Tab (o:Obj):Prop:=o.cls=.none∧∃ vs,o.data=.fields vs
noncomputable def ft (env:Env) (h:Heap) (x:Str) (P:Value→Prop):Prop :=
 match env.kindOf x with
 | some .local=>∃ m v,h.Ns env.locals m∧m x=some v∧P v
 | some .cell=>∃ c v,env.cells.lookup x=some c∧h.IsCell c (some v)∧P v
 | some .free=>∃ c v,env.cells.lookup x=some c∧h.IsCell c (some v)∧P v
 | _=>False
structure aQ(h₀:Heap)(env:Env)(own:Own)(h:Heap)(loc:Loc):Prop where
 ns:∃ m,h.Ns env.locals m
 cX:own env.locals=none
 dK:h₀.get? env.locals=none
 iA:∀ x,bg (env.kindOf x)→∃ c v₀,env.cells.lookup x=some c∧h.IsCell c v₀∧own c=none∧h₀.get? c=none
 inj:∀ x y c,bg (env.kindOf x)→bg (env.kindOf y)→env.cells.lookup x=some c→env.cells.lookup y=some c→x=y
 var:∀ x mv,loc.lookup x=some mv→ft env h x fun v=>RV own h v mv
structure Base(X:Cx)(own:Own)(cells:Cells)(s:Shared):Prop where
 old:OldK X.h₀ s.heap
 hg:s.heap.Ns mainGlobals X.mg
 hb:s.heap.Ns builtinsNs X.mb
 nolimit:s.heap.NoLimit
 gens:AllBare s.gens
 os:s.os=X.os
 new:∀ b a,own b=some a→X.h₀.get? b=none
 lt:∀ b a,own b=some a→∃ o,s.heap.get? b=some o
 cell:∀ a c,cells a=some c→own a=some a∧bT X.prog X.w own s.heap a c
 iz:∀ L∈X.iz,uu X.h₀ own s.heap L
structure Inv(X:Cx)(env:Env)(own:Own)(loc:Loc)(cells:Cells)(s:Shared):Prop where
 base:Base X own cells s
 ok:D7 env
 fr:aQ X.h₀ env own s.heap loc
noncomputable def pI (o o':Obj):Prop:=o'.cls=o.cls∧o'.data=o.data∧((∀ es n,o.data≠.dict es n)→o'=o)
noncomputable def Still (cells:Cells) (a:Addr):Prop:=cells a=none∨∃ es,cells a=some (.c9 es)
theorem Still.of{c c':Cells}{a:Addr}(h:Still c a)(e:c' a=c a):Still c' a:=h.elim (fun q=>.inl (e.trans q)) fun fu=>ba fu fun es q=>.inr (bA es (e.trans q))
structure Ext(F:Addr→Prop)(own:Own)(cells:Cells)(h:Heap)(own':Own)(cells':Cells)(h':Heap):Prop where
 keep:∀ b o,h.get? b=some o→own b=none→¬ F b→¬ Tab o→∃ o',h'.get? b=some o'∧pI o o'
 cx:∀ b o,h.get? b=some o→own b=none→own' b=none
 there:∀ b o,h.get? b=some o→∃ o',h'.get? b=some o'
 fw:∀ b a o,h.get? b=some o→own b=some a→Still cells a∧a=b→h'.get? b=some o∧own' b=some a∧(cells' a=cells a∧a=b)
theorem pI.refl(o:Obj):pI o o:=⟨rfl,rfl,fun Z=>rfl⟩
theorem pI.trans{a b c:Obj}(x:pI a b)(y:pI b c):pI a c:=⟨y.1.trans x.1,y.2.1.trans x.2.1,fun h=>(y.2.2 (by rw [x.2.1];exact h)).trans (x.2.2 h)⟩
theorem pI.tab{a b:Obj}(x:pI a b)(n:¬ Tab a):¬ Tab b:=fun gp=>AB gp fun p vs q=>n (iPDP (x.1▸p) vs (x.2.1▸q))
theorem Ext.refl{F:Addr→Prop}{own:Own}{cells:Cells}{h:Heap}:Ext F own cells h own cells h:=⟨fun Z o e Z Z Z=>⟨o,e,.refl o⟩,fun Z Z Z e=>e,fun Z o e=>⟨o,e⟩,fun b a o e q n=>(aO e q rfl n.2)⟩
theorem Ext.trans{F:Addr→Prop}{o1 o2 o3:Own}{c1 c2 c3:Cells}{h1 h2 h3:Heap}(a:Ext F o1 c1 h1 o2 c2 h2)(b:Ext F o2 c2 h2 o3 c3 h3):Ext F o1 c1 h1 o3 c3 h3 :=
 ⟨fun c o e n f k=>xDPP (a.keep c o e n f k) fun o' e' l=>xDPP (b.keep c o' e' (a.cx c o e n) f (l.tab k)) fun o2 e2 l2=>iDPP o2 e2 (l.trans l2),fun c o e n=>ba (a.there c o e) fun o' e'=>b.cx c o' e' (a.cx c o e n),fun c o e=>ba (a.there c o e) fun o' e'=>b.there c o' e',
 fun d x o e q n=>bM (a.fw d x o e q n) fun p1 p2 p3 p4=>bM (b.fw d x o p1 p2 ⟨n.1.of p3,p4⟩) fun q1 q2 q3 q4=>aO q1 q2 (q3.trans p3) q4⟩
theorem Ext.weak{F G:Addr→Prop}{o1 o2:Own}{c1 c2:Cells}{h1 h2:Heap}(hf:∀ b,F b→G b)(a:Ext F o1 c1 h1 o2 c2 h2):Ext G o1 c1 h1 o2 c2 h2:=⟨fun c o e n f k=>a.keep c o e n (fun q=>f (hf c q)) k,a.cx,a.there,a.fw⟩
theorem Ext.gI{F:Addr→Prop}{o1 o2:Own}{c1 c2:Cells}{h1 h2:Heap}(a:Ext qR o1 c1 h1 o2 c2 h2):Ext F o1 c1 h1 o2 c2 h2:=a.weak fun Z f=>f.elim
theorem Ext.of_keeps{F:Addr→Prop}{own:Own}{cells:Cells}{h h':Heap}(hk:∀ b o,h.get? b=some o→h'.get? b=some o):Ext F own cells h own cells h':=⟨fun b o e Z Z Z=>⟨o,hk b o e,.refl o⟩,fun Z Z Z e=>e,fun b o e=>⟨o,hk b o e⟩,fun b a o e q n=>(aO (hk b o e) q rfl n.2)⟩
section
variable {X:Cx}{env:Env}{own own':Own}{loc:Loc}{cells cells':Cells}{s:Shared}{h h':Heap}{v:Value}{x:V}
theorem RV.mono(hk:∀ b o,h.get? b=some o→own b=none→pH o→h'.get? b=some o)(ho:∀ b o,h.get? b=some o→own b=none→own' b=none)(r:RV own h v x):RV own' h' v x:=by
 induction r with
 | vI=>exact .vI
 | bool b=>exact .bool b
 | int i t=>exact .int i t
 | str s t=>exact .str s t
 | ref a=>exact .ref a
 | bi i=>exact .bi i
 | ty n=>exact .ty n
 | list e hn hz _ ih=>exact .list (hk _ _ e hn (.inl (qe (.inl rfl) _ _ rfl))) (ho _ _ e hn) hz ih
 | tuple e hn hz _ ih=>exact .tuple (hk _ _ e hn (.inl (qe (.inr rfl) _ _ rfl))) (ho _ _ e hn) hz ih
 | sv e hn=>exact .sv (hk _ _ e hn (.inr (iPDP rfl _ rfl))) (ho _ _ e hn)
theorem RV.keeps(hk:∀ b o,h.get? b=some o→h'.get? b=some o)(r:RV own h v x):RV own h' v x:=r.mono (fun b o e Z Z=>hk b o e) fun Z Z Z e=>e
theorem bP.mono{vs:List Value}{xs:List V}(hk:∀ v x,RV own h v x→RV own' h' v x)(r:bP own h vs xs):bP own' h' vs xs:=⟨r.1,fun i v x a b=>hk v x (r.2 i v x a b)⟩
theorem bP.nil:bP own h [] []:=⟨rfl,fun i v x e=>by simp at e⟩
theorem bP.cons{vs:List Value}{xs:List V}(r:RV own h v x)(rs:bP own h vs xs):bP own h (v::vs) (x::xs):=by
 refine ⟨by simp [rs.1],fun i a b p q=>?_⟩
 cases i with
 | zero=>simp at p q;subst p q;exact r
 | succ i=>simp at p q;exact rs.2 i a b p q
theorem bP.cK{vs:List Value}{xs:List V}(r:bP own h vs (x::xs)):∃ v jB,vs=v::jB∧RV own h v x∧bP own h jB xs:=by
 cases vs with
 | nil=>exact absurd r.1 (by simp)
 | cons v jB=>exact (iDDPPP v jB rfl (r.2 0 v x rfl rfl) (⟨by simpa using r.1,fun i a b p q=>r.2 (i+1) a b (by simpa using p) (by simpa using q)⟩))
theorem bP.qk{vs:List Value}(r:bP own h vs []):vs=[]:=List.length_eq_zero_iff.mp r.1
theorem bP.one{h:Heap}{vs:List Value}{x:V}(r:bP own h vs [x]):∃ v,vs=[v]∧RV own h v x:=by
 (refine xDDPPP r.cK ?_;intro v jB aV;subst aV;intro a b)
 exact (iDPP v (by rw [b.qk]) a)
theorem bP.two{h:Heap}{vs:List Value}{x y:V}(r:bP own h vs [x,y]):∃ v u,vs=[v,u]∧RV own h v x∧RV own h u y:=by
 (refine xDDPPP r.cK ?_;intro v jB bj;subst bj;intro a b)
 (refine xDPP b.one ?_;intro u bH;subst bH;intro c)
 exact (iDDPPP v u rfl a c)
@[elab_as_elim] theorem bP.e1{vs:List Value}{x:V}{M:List Value→Prop}(r:bP own h vs [x])(k:∀ v,RV own h v x→M [v]):M vs:=xDPP r.one fun v e a=>e.symm▸k v a
@[elab_as_elim] theorem bP.e2{vs:List Value}{x y:V}{M:List Value→Prop}(r:bP own h vs [x,y])(k:∀ v u,RV own h v x→RV own h u y→M [v,u]):M vs:=xDDPPP r.two fun v u e a b=>e.symm▸k v u a b
theorem bP.append{vs ws:List Value}{xs ys:List V}(r:bP own h vs xs)(q:bP own h ws ys):bP own h (vs++ws) (xs++ys):=by
 induction xs generalizing vs with
 | nil=>rw [r.qk];exact q
 | cons x xs ih=>(refine xDDPPP r.cK ?_;intro v jB aV;subst aV;intro a b);exact .cons a (ih b)
theorem BK{o:Obj}{vs:Array Value}{n:Nat}(e:o.data=.seq vs n):¬ Tab o:=fun ⟨_,_,q⟩=>by rw [e] at q;cases q
theorem gU{o:Obj}{es:Array DictEntry}{n:Nat}(e:o.data=.dict es n):¬ Tab o:=fun ⟨_,_,q⟩=>by rw [e] at q;cases q
theorem km{o:Obj}{v:Option Value}(e:o.data=.cell v):¬ Tab o:=fun ⟨_,_,q⟩=>by rw [e] at q;cases q
theorem iJ{o:Obj}(e:o.cls≠.none):¬ Tab o:=fun q=>e q.1
theorem ft.conv{x:Str}{P Q:Value→Prop}(DP:∀ m v,h.Ns env.locals m→m x=some v→P v→∃ m' v',h'.Ns env.locals m'∧m' x=some v'∧Q v')(hc:∀ c v,bg (env.kindOf x)→env.cells.lookup x=some c→h.IsCell c (some v)→P v→∃ v',h'.IsCell c (some v')∧Q v')(r:ft env h x P):ft env h' x Q:=by
 unfold ft at r ⊢
 split at r
 ·exact xDDPPP r fun m v a b c=>DP m v a b c
 ·rename_i hk;exact xDDPPP r fun c v a b d=>xDPP (hc c v (.inl hk) a b d) fun v' b' d'=>iDDPPP c v' a b' d'
 ·rename_i hk;exact xDDPPP r fun c v a b d=>xDPP (hc c v (.inr hk) a b d) fun v' b' d'=>iDDPPP c v' a b' d'
 ·exact r
theorem ft.mono{x:Str}{P Q:Value→Prop}(DP:∀ m,h.Ns env.locals m→h'.Ns env.locals m)(hc:∀ c v,bg (env.kindOf x)→env.cells.lookup x=some c→h.IsCell c v→h'.IsCell c v)(hp:∀ v,P v→Q v)(r:ft env h x P):ft env h' x Q:=r.conv (fun m v a b c=>iDDPPP m v (DP m a) b (hp v c)) fun c v k a b d=>iDPP v (hc c _ k a b) (hp v d)
theorem aQ.gV{h₀:Heap}(F:aQ h₀ env own h loc){b:Addr}{o:Obj}(f:Fa env b)(e:h.get? b=some o)(hd:pH o):False:=by
 rcases f with rfl | ⟨x,hx,hl⟩
 ·(refine nR F.ns ?_;intro m o' es ep e' pJ Z)
  rw [e] at e';cases e';exact eI pJ hd
 ·(refine xDDPPP (F.iA x (.inl hx)) ?_;intro c v₀ jP bj Z;refine xDPP bj ?_;clear bj;intro o' e' pJ)
  rw [hl] at jP;cases jP
  rw [e] at e';cases e';exact kl pJ hd
theorem RV.D8{F:Addr→Prop}(hF:∀ b o,F b→h.get? b=some o→pH o→False)(x:Ext F own cells h own' cells' h'){v:Value}{y:V}(r:RV own h v y):RV own' h' v y :=
 r.mono (fun b o e n d=>xDPP (x.keep b o e n (fun f=>hF b o f e d) (iJ d.cls.2)) fun o' e' l=>l.2.2 d.nodict▸e') x.cx
theorem RV.pK(x:Ext qR own cells h own' cells' h'){v:Value}{y:V}(r:RV own h v y):RV own' h' v y:=r.D8 (fun Z Z f=>f.elim) x
theorem bP.pK(x:Ext qR own cells h own' cells' h'){vs:List Value}{ys:List V}(r:bP own h vs ys):bP own' h' vs ys:=r.mono fun Z Z q=>q.pK x
theorem RV.ext(I:Inv X env own loc cells s)(x:Ext (Fa env) own cells s.heap own' cells' h'){v:Value}{y:V}(r:RV own s.heap v y):RV own' h' v y :=
 r.D8 (fun Z Z f e d=>I.fr.gV f e d) x
theorem bP.ext(I:Inv X env own loc cells s)(x:Ext (Fa env) own cells s.heap own' cells' h'){vs:List Value}{ys:List V}(r:bP own s.heap vs ys):bP own' h' vs ys:=r.mono fun Z Z q=>q.ext I x
theorem iK{h:Heap}{a:Addr}{m:Str→Option Value}(p:h.Ns a m):∃ o,h.get? a=some o:=ej p fun o Z Z e Z=>bA o e
theorem gW{h:Heap}{a:Addr}{v:Option Value}(p:h.IsCell a v):∃ o,h.get? a=some o:=xDPP p fun o e Z=>bA o e
theorem kn{h h':Heap}{a:Addr}{m:Str→Option Value}(hk:∀ o,h.get? a=some o→h'.get? a=some o)(p:h.Ns a m):h'.Ns a m:=ej p fun o es ep e r=>fh o es ep (hk o e) r
theorem ql{h h':Heap}{a:Addr}{v:Option Value}(hk:∀ o,h.get? a=some o→h'.get? a=some o)(p:h.IsCell a v):h'.IsCell a v:=xDPP p fun o e d=>iDPP o (hk o e) d
theorem aQ.ext{h₀:Heap}(F:aQ h₀ env own h loc)(x:Ext qR own cells h own' cells' h'):aQ h₀ env own' h' loc :=
 have ns:∀ m,h.Ns env.locals m→h'.Ns env.locals m:=fun m q=>dS q fun o es ep e d r=>xDPP (x.keep _ _ e F.cX id (gU d)) fun o' e' l=>iDDDPPP o' es ep e' (l.2.1.trans d) r
 have ic:∀ {y c v},bg (env.kindOf y)→env.cells.lookup y=some c→h.IsCell c v→h'.IsCell c v:=fun {y c v} k l q=>xDPP q fun o e d=>bQ (F.iA y k) fun c' v₀ l' Z n Z =>
  xDPP (x.keep _ _ e ((congrArg own (Option.some.inj (l.symm.trans l'))).trans n) id (km d)) fun o' e' z=>iDPP o' e' (z.2.1.trans d)
 {ns:=ba F.ns fun m a=>⟨m,ns m a⟩
  cX:=ba F.ns fun m a=>ba (iK a) fun o e=>x.cx _ o e F.cX
  dK:=F.dK
  iA:=fun y k=>bQ (F.iA y k) fun c v₀ l i n z=>cS c v₀ l (ic k l i) (ba (gW i) fun o e=>x.cx _ o e n) z
  inj:=F.inj
  var:=fun y mv e=>(F.var y mv e).mono ns (fun c v k l=>ic k l) fun Z r=>r.pK x}
theorem bT.mono{prog:Program}{w:World}{a:Addr}{c:Cell}(h1:∀ b o,own b=some a→h.get? b=some o→h'.get? b=some o∧own' b=some a)(h2:∀ v x,RV own h v x→RV own' h' v x)(ha:own a=some a)(r:bT prog w own h a c):bT prog w own' h' a c:=by
 have ns:∀ {d m},own d=some a→h.Ns d m→h'.Ns d m:=fun q lH=>ej lH fun o es ep e r=>(fh o es ep ((h1 _ _ q e).1) r)
 have Je:∀ {d m},own d=some a→h.Ns1 d m→h'.Ns1 d m:=fun q pL=>ej pL fun o es ep e r=>(fh o es ep ((h1 _ _ q e).1) r)
 cases c with
 | list xs=>(refine dx r ?_;try clear r;intro vs n e r);exact (eB vs n ((h1 _ _ ha e).1) (r.mono h2))
 | dict es=>(refine fj r ?_;try clear r;intro bp bH z q;refine ej bH ?_;clear bH;intro o FZ ep e r);exact (bq bp ((fh o FZ ep ((h1 _ _ ha e).1) r)) z (q.mono h2))
 | c9 es=>(refine fj r ?_;try clear r;intro bp cw z q;refine ej cw ?_;clear cw;intro o FZ ep e r);exact (bq bp ((fh o FZ ep ((h1 _ _ ha e).1) r)) z (q.mono h2))
 | set S n=>(refine nx r ?_;try clear r;intro o es ep t e r);exact (Az o es ep t ((h1 _ _ ha e).1) r)
 | inst c fs =>
  (refine qj r ?_;try clear r;intro d m sl e od ne hn r)
  have hd:own' d=some a:=by (refine ej hn ?_;try clear hn;intro o es ep e' Z);exact (h1 _ _ od e').2
  exact (lE d m sl ((h1 _ _ ha e).1) hd ne (Je od hn) (fun x=>⟨(r x).1,fun mv q=>xDPP ((r x).2 mv q) fun v p1 p2=>iDPP v p1 (h2 _ _ p2)⟩))
 | slots c fs =>
  (refine je r ?_;try clear r;intro d sl e od ne hn hz r)
  have hd:own' d=some a:=by (refine ej hn ?_;try clear hn;intro o es ep e' Z);exact (h1 _ _ od e').2
  exact (lF d sl ((h1 _ _ ha e).1) hd ne (ns od hn) hz (fun i v x p q=>(r i v x p q).imp id fun nV=>xDDPPP nV fun u y p1 p2 p3=>(iDDPPP u y p1 p2 (h2 _ _ p3))))
 | iter xs i =>
  (refine fk r ?_;try clear r;intro it l e oi ne cR q;refine xDPP cR ?_;clear cR;intro o e' r)
  exact (cF it l ((h1 _ _ ha e).1) ((h1 _ _ oi e').2) ne ((iDPP o ((h1 _ _ oi e').1) r)) (h2 _ _ q))
 | qQ id l=>exact (h1 _ _ ha r).1
 | tab=>(refine xDPP r ?_;try clear r;intro ps e t);exact (iDPP ps ((h1 _ _ ha e).1) t)
 | nU T=>(refine xDPP r ?_;try clear r;intro o e t);exact (iDPP o ((h1 _ _ ha e).1) t)
theorem bT.keeps{prog:Program}{w:World}{a:Addr}{c:Cell}(ha:own a=some a)(hk:∀ b o,h.get? b=some o→h'.get? b=some o)(r:bT prog w own h a c):bT prog w own h' a c :=
 r.mono (fun b o q e=>⟨hk b o e,q⟩) (fun Z Z q=>q.keeps hk) ha
theorem Base.keeps{t:Nat}(I:Base X own cells s)(hk:∀ b o,s.heap.get? b=some o→h'.get? b=some o):Base X own cells {s with heap:=h',toks:=t} where
 old:=I.old.step_keeps hk
 hg:=I.hg.keeps hk
 hb:=I.hb.keeps hk
 nolimit:=I.nolimit.keeps hk
 gens:=I.gens
 os:=I.os
 new:=I.new
 lt:=fun b a e=>ba (I.lt b a e) fun o q=>bA o (hk b o q)
 cell:=fun a c e=>⟨(I.cell a c e).1,(I.cell a c e).2.keeps (I.cell a c e).1 hk⟩
 iz:=fun L hL=>(I.iz L hL).mono (fun o e=>hk L o e) fun Z Z n=>n
theorem Base.toks{t:Nat}(I:Base X own cells s):Base X own cells {s with toks:=t}:=I.keeps (h':=s.heap) fun Z Z e=>e
noncomputable def dh (_:Value) (_:Shared):Prop:=False
theorem Base.K(I:Base X own cells s):X.K.In s.heap:=fun a o e=>I.old.get_of_cls (X.hK a o e) (X.D5 a o e)
theorem Base.fresh(I:Base X own cells s){b:Addr}(h:s.heap.get? b=none):own b=none∧X.h₀.get? b=none:=by
 constructor
 ·cases q:own b with
  | none=>rfl
  | some a=>(refine ba (I.lt b a q) ?_;intro o e);rw [h] at e;cases e
 ·cases q:X.h₀.get? b with
  | none=>rfl
  | some o=>(refine ba (I.old.there b o q) ?_;intro o' e);rw [h] at e;cases e
theorem OldK.yx{h₀ h h':Heap}{P:Addr→Prop}(K:OldK h₀ h)(ha:∀ b,P b→h₀.get? b=none)(hs:∀ b o,¬ P b→h.get? b=some o→h'.get? b=some o):OldK h₀ h':=by
 have ne:∀ b o,h₀.get? b=some o→¬ P b:=fun b o e p=>by rw [ha b p] at e;cases e
 refine ⟨fun b o e=>?_,fun b o e=>ba (K.there b o e) fun o' ko=>bA o' (hs b o' (ne b o e) ko)⟩
 rcases K.old b o e with x | ⟨t,hc,vs,more,hv,x⟩ | ⟨rfl,hc,⟨o',es,n,ko,r⟩,z⟩
 ·exact .inl (hs _ _ (ne b o e) x)
 ·exact .inr (.inl (qM t hc vs more hv (hs _ _ (ne b o e) x)))
 ·exact .inr (.inr (aO rfl hc (⟨o',es,n,hs _ _ (ne _ o e) ko,r⟩) (fun key=>by rw [PySem.OldK.staticOf_congr ((hs _ _ (ne _ o e) ko).trans ko.symm) key];exact z key)))
theorem Base.step{P:Addr→Prop}{t:Nat}(I:Base X own cells s)(hP:∀ b,P b→X.h₀.get? b=none)(hs:∀ b o,¬ P b→s.heap.get? b=some o→h'.get? b=some o)(hn:∀ b a,own' b=some a→X.h₀.get? b=none∧∃ o,h'.get? b=some o)(hc:∀ a c,cells' a=some c→own' a=some a∧bT X.prog X.w own' h' a c)(hf:∀ L∈X.iz,uu X.h₀ own' h' L):Base X own' cells' {s with heap:=h',toks:=t}:=by
 have ns:∀ {d m m'},X.h₀.Ns d m'→s.heap.Ns d m→h'.Ns d m:=fun z=>kn fun o=>hs _ o fun p=>ba (iK z) fun q hq=>nomatch (hP _ p).symm.trans hq
 exact ⟨OldK.yx I.old hP hs,ns X.hg I.hg,ns X.hb I.hb,xDPP X.D4 fun Z z Z=>xDPP I.nolimit fun mc q r=>⟨mc,ns z q,r⟩,I.gens,I.os,fun b a e=>(hn b a e).1,fun b a e=>(hn b a e).2,hc,hf⟩
inductive qm{α β:Type}(X:Cx)(R:Own→Heap→α→β→Prop)(own:Own)(cells:Cells)(h:Heap)(Ψ:β→Cells→Prop)(v:α)(s':Shared):Prop
 | mk (own':Own) (cells':Cells) (b:β) (I:Base X own' cells' s') (r:R own' s'.heap v b) (x:Ext qR own cells h own' cells' s'.heap) (p:Ψ b cells')
inductive gJ{α β:Type}(X:Cx)(env:Env)(R:Own→Heap→α→β→Prop)(own:Own)(cells:Cells)(h:Heap)(Ψ:β→Loc→Cells→Prop)(v:α)(s':Shared):Prop
 | mk (own':Own) (eJ:Loc) (cells':Cells) (b:β) (I:Inv X env own' eJ cells' s') (r:R own' s'.heap v b) (x:Ext (Fa env) own cells h own' cells' s'.heap) (p:Ψ b eJ cells')
noncomputable def mb {α β:Type} (X:Cx) (A:Around) (R:Own→Heap→α→β→Prop) (Pre:Own→Heap→Prop) (t:Sem α) (Ψ:β→Cells→Prop) (cells:Cells):Prop :=
 ∀ own s,Base X own cells s→Pre own s.heap→wpAny (model X.prog X.w) A t (qm X R own cells s.heap Ψ) dh s
noncomputable def eg {α β:Type} (X:Cx) (A:Around) (env:Env) (R:Own→Heap→α→β→Prop) (t:Sem α) (Ψ:β→Loc→Cells→Prop) (loc:Loc) (cells:Cells):Prop :=
 ∀ own s,Inv X env own loc cells s→wpAny (model X.prog X.w) A t (gJ X env R own cells s.heap Ψ) dh s
inductive MF where
 | next | brk | cont
 | ret (v:V)
inductive RF(own:Own)(h:Heap):Flow→MF→Prop where
 | next:RF own h .next .next
 | brk:RF own h .brk .brk
 | cont:RF own h .cont .cont
 | ret {v:Value} {x:V}:RV own h v x→RF own h (.ret v) (.ret x)
noncomputable abbrev RB (_:Own) (_:Heap) (a b:Bool):Prop:=a=b
noncomputable abbrev RU (_:Own) (_:Heap) (_ _:Unit):Prop:=True
section
variable {α β:Type}{A:Around}{R:Own→Heap→α→β→Prop}{t:Sem α}
theorem eg.use{Ψ:β→Loc→Cells→Prop}(H:eg X A env R t Ψ loc cells)(I:Inv X env own loc cells s){Q:α→Shared→Prop}(h:∀ own' eJ cells' b v s',Inv X env own' eJ cells' s'→R own' s'.heap v b→Ext (Fa env) own cells s.heap own' cells' s'.heap→Ψ b eJ cells'→Q v s') :
  wpAny (model X.prog X.w) A t Q dh s :=
 wpAny_mono (H own s I) (fun v s' ⟨own',eJ,cells',b,a1,a2,a3,a5⟩=>h own' eJ cells' b v s' a1 a2 a3 a5) fun Z Z e=>e
theorem eg.mono{Ψ Ψ':β→Loc→Cells→Prop}(H:eg X A env R t Ψ loc cells)(h:∀ b l c,Ψ b l c→Ψ' b l c):eg X A env R t Ψ' loc cells:=fun own s I =>
 H.use I fun own' eJ cells' b v s' a1 a2 a3 a5=>⟨own',eJ,cells',b,a1,a2,a3,h b eJ cells' a5⟩
theorem mb.use{Pre:Own→Heap→Prop}{Ψ:β→Cells→Prop}(H:mb X A R Pre t Ψ cells)(I:Base X own cells s)(hp:Pre own s.heap){Q:α→Shared→Prop}(h:∀ own' cells' b v s',Base X own' cells' s'→R own' s'.heap v b→Ext qR own cells s.heap own' cells' s'.heap→Ψ b cells'→Q v s'):wpAny (model X.prog X.w) A t Q dh s :=
 wpAny_mono (H own s I hp) (fun v s' ⟨own',cells',b,a1,a2,a3,a4⟩=>h own' cells' b v s' a1 a2 a3 a4) fun Z Z e=>e
theorem mb.pC{Pre:Own→Heap→Prop}{Ψ:β→Cells→Prop}(H:mb X A R Pre t Ψ cells)(I:Inv X env own loc cells s)(hp:Pre own s.heap){Q:α→Shared→Prop}(h:∀ own' cells' b v s',Inv X env own' loc cells' s'→R own' s'.heap v b→Ext (Fa env) own cells s.heap own' cells' s'.heap→Ψ b cells'→Q v s'):wpAny (model X.prog X.w) A t Q dh s :=
 H.use I.base hp fun own' cells' b v s' a1 a2 a3 a4=>h own' cells' b v s' ⟨a1,I.ok,I.fr.ext a3⟩ a2 a3.gI a4
end
end
end Mp
end
namespace Mp
section
variable {X:Cx}{A:Around}{env:Env}{loc:Loc}{cells:Cells}
noncomputable abbrev mE (X:Cx) (A:Around) (env:Env):=eg X A env RV
noncomputable abbrev mT (X:Cx) (A:Around) (env:Env):=eg X A env RB
noncomputable abbrev mS (X:Cx) (A:Around) (env:Env):=eg X A env RF
noncomputable abbrev yy (X:Cx) (A:Around) (env:Env):=eg X A env bP
noncomputable abbrev mU (X:Cx) (A:Around) (env:Env):=eg X A env RU
noncomputable def D9 (X:Cx) (A:Around) (f:Value→Sem Value) (a:V) (Ψ:V→Cells→Prop) (cells:Cells):Prop:=∀ v,mb X A RV (fun own h=>RV own h v a) (f v) Ψ cells
noncomputable def da (X:Cx) (A:Around) (f:Value→Value→Sem Value) (a b:V) (Ψ:V→Cells→Prop) (cells:Cells):Prop:=∀ v u,mb X A RV (fun own h=>RV own h v a∧RV own h u b) (f v u) Ψ cells
noncomputable def qS (X:Cx) (A:Around) (a:V) (Ψ:Bool→Cells→Prop) (cells:Cells):Prop:=∀ v,mb X A RB (fun own h=>RV own h v a) (truthy v) Ψ cells
noncomputable def aE (X:Cx) (A:Around) (f:V) (args:List V) (Ψ:V→Cells→Prop) (cells:Cells):Prop:=∀ fv vs,mb X A RV (fun own h=>RV own h fv f∧bP own h vs args) (call fv vs) Ψ cells
theorem mb_end{α β:Type}{R:Own→Heap→α→β→Prop}{Ψ:β→Cells→Prop}{own:Own}{s s':Shared}{h':Heap}{t:Nat}{v:α}{b:β}(I:Base X own cells s)(e:s'={s with heap:=h',toks:=t})(hk:∀ b o,s.heap.get? b=some o→h'.get? b=some o)(r:R own h' v b)(p:Ψ b cells) :
  qm X R own cells s.heap Ψ v s':=by
 subst e;exact ⟨own,cells,b,I.keeps hk,r,.of_keeps hk,p⟩
theorem az{α β:Type}{R:Own→Heap→α→β→Prop}{Ψ:β→Cells→Prop}{own:Own}{s:Shared}{t:Nat}{v:α}{b:β}(I:Base X own cells s)(r:R own s.heap v b)(p:Ψ b cells) :
  qm X R own cells s.heap Ψ v {s with toks:=t}:=⟨own,cells,b,I.toks,r,.refl,p⟩
theorem inv_end{α β:Type}{R:Own→Heap→α→β→Prop}{Ψ:β→Loc→Cells→Prop}{own:Own}{s:Shared}{v:α}{b:β}(I:Inv X env own loc cells s)(r:R own s.heap v b)(p:Ψ b loc cells) :
  gJ X env R own cells s.heap Ψ v s:=⟨own,loc,cells,b,I,r,.refl,p⟩
theorem Inv.toks{own:Own}{s:Shared}{t:Nat}(I:Inv X env own loc cells s):Inv X env own loc cells {s with toks:=t}:=⟨I.base.toks,I.ok,I.fr⟩
theorem m_var{x:Str}{p:Pos}{mv:V}{Ψ:V→Loc→Cells→Prop}(hl:loc.lookup x=some mv)(h:Ψ mv loc cells)(hd:autoParam ((x == ("__debug__":Str))=false) aDK)(hc:autoParam ((x == ("__classdict__":Str))=false) aDK) :
  mE X A env (eval (.Name x p) env) Ψ loc cells:=by
 intro own s I
 refine wpAny_Name ?_ hd
 have hv:=I.fr.var x mv hl
 unfold ft at hv
 split at hv
 ·rename_i hk;(refine xDDPPP hv ?_;try clear hv;intro m v a b c)
  exact wpAny_loadName_local I.ok.kind hk a b (inv_end I c h)
 ·rename_i hk;(refine xDDPPP hv ?_;try clear hv;intro c v a b d)
  exact wpAny_loadName_cell I.ok.kind hk a b (inv_end I d h)
 ·rename_i hk;(refine xDDPPP hv ?_;try clear hv;intro c v a b d)
  exact wpAny_loadName_free I.ok.kind hk a b (inv_end I d h) hc
 ·exact hv.elim
theorem RV.base{own:Own}{h:Heap}{v:Value}{x:V}(r:RV (fun Z=>none) {} v x):RV own h v x:=by
 cases r with
 | vI=>exact .vI
 | bool b=>exact .bool b
 | int i t=>exact .int i t
 | str s t=>exact .str s t
 | ref a=>exact .ref a
 | bi i=>exact .bi i
 | ty n=>exact .ty n
 | list e=>simp [Heap.get?] at e
 | tuple e=>simp [Heap.get?] at e
 | sv e=>have e2:Heap.get? {} _=some _:=e;simp [Heap.get?] at e2
theorem uv{x:Str}{p:Pos}{mv:V}{Q:Value→Shared→Prop}{own:Own}{s:Shared}(I:Inv X env own loc cells s)(hk:env.kindOf x=some .globalImplicit)(hl:X.glob.lookup x=some mv)(h:∀ v,RV own s.heap v mv→Q v s)(hd:(x == ("__debug__":Str))=false) :
  wpAny (model X.prog X.w) A (eval (.Name x p) env) Q dh s :=
 xDPP (X.yw x mv hl) fun v e r=>Calls.Name_function_global I.ok.kind hk (e.elim (fun e=>Calls.loadGlobal_global (I.ok.glob.symm▸I.base.hg) e (h v r.base)) fun e=>Calls.loadGlobal_builtin (I.ok.glob.symm▸I.base.hg) e.1 (I.ok.blt.symm▸I.base.hb) e.2 (h v r.base)) hd
theorem ey{x:Str}{p:Pos}{mv:V}{Ψ:V→Loc→Cells→Prop}(hk:env.kindOf x=some .globalImplicit)(hl:X.glob.lookup x=some mv)(h:Ψ mv loc cells)(hd:autoParam ((x == ("__debug__":Str))=false) aDK) :
  mE X A env (eval (.Name x p) env) Ψ loc cells:=fun own s I=>uv I hk hl (fun v r=>inv_end I r h) hd
theorem m_int{i:Int}{k:Nat}{p:Pos}{Ψ:V→Loc→Cells→Prop}(h:Ψ (.int i) loc cells):mE X A env (eval (.Constant (.int i) k p) env) Ψ loc cells :=
 fun own s I=>wpAny_Constant_int ⟨own,loc,cells,.int i,I.toks,.int _ _,.refl,h⟩
theorem bf{x:Str}{k:Nat}{p:Pos}{Ψ:V→Loc→Cells→Prop}(h:Ψ (.str x) loc cells):mE X A env (eval (.Constant (.str x) k p) env) Ψ loc cells :=
 fun own s I=>wpAny_Constant_str ⟨own,loc,cells,.str x,I.toks,.str _ _,.refl,h⟩
theorem cY{k:Nat}{p:Pos}{Ψ:V→Loc→Cells→Prop}(h:Ψ .none loc cells):mE X A env (eval (.Constant .none k p) env) Ψ loc cells :=
 fun own s I=>wpAny_Constant_none (inv_end I .vI h)
theorem yz{b:Bool}{k:Nat}{p:Pos}{Ψ:V→Loc→Cells→Prop}(h:Ψ (.bool b) loc cells):mE X A env (eval (.Constant (.bool b) k p) env) Ψ loc cells :=
 fun own s I=>wpAny_Constant_bool (inv_end I (.bool b) h)
noncomputable abbrev K1 {β:Type} (f:V→V→(β→Cells→Prop)→Cells→Prop) (Ψ:β→Loc→Cells→Prop) (a b:V) (l:Loc) (c:Cells):Prop:=f a b (fun v c3=>Ψ v l c3) c
noncomputable abbrev K2 {β:Type} (X:Cx) (A:Around) (env:Env) (r:Expr) (f:V→V→(β→Cells→Prop)→Cells→Prop) (Ψ:β→Loc→Cells→Prop) (a:V) (l:Loc) (c:Cells):Prop:=mE X A env (eval r env) (K1 f Ψ a) l c
noncomputable abbrev F3 (X:Cx) (A:Around) (op:CmpOp) (a b:V) (Φ:Bool→Cells→Prop) (c:Cells):Prop:=da X A (compareOp op) a b (fun v c3=>qS X A v Φ c3) c
noncomputable abbrev KS (x:Str) (Ψ:MF→Loc→Cells→Prop) (v:V) (l:Loc) (c:Cells):Prop:=Ψ .next ((x,v)::l) c
noncomputable abbrev Jf (X:Cx) (A:Around) (env:Env) (b o:List Stmt) (Ψ:MF→Loc→Cells→Prop) (t:Bool) (l:Loc) (c:Cells):Prop:=if t then mS X A env (execs b env) Ψ l c else mS X A env (execs o env) Ψ l c
theorem bh{l r:Expr}{op:Operator}{p:Pos}{Ψ:V→Loc→Cells→Prop}(h:mE X A env (eval l env) (K2 X A env r (da X A (binaryOp op)) Ψ) loc cells):mE X A env (eval (.BinOp l op r p) env) Ψ loc cells :=
 fun own s I=>wpAny_BinOp (h.use I fun aL cT a8 a v1 s1 I1 r1 x1 h1=>h1.use I1 fun aI bc bx b v2 s2 I2 r2 x2 h2 =>
  (h2 v1 v2).pC I2 ⟨r1.ext I1 x2,r2⟩ fun cZ gq c v3 s3 I3 r3 x3 h3=>⟨cZ,bc,gq,c,I3,r3,x1.trans (x2.trans x3),h3⟩)
theorem m_un{e:Expr}{op:UnaryOp}{p:Pos}{Ψ:V→Loc→Cells→Prop}(h:mE X A env (eval e env) (fun a l1 c1=>D9 X A (unaryOp op) a (fun v c3=>Ψ v l1 c3) c1) loc cells):mE X A env (eval (.UnaryOp op e p) env) Ψ loc cells :=
 fun own s I=>wpAny_UnaryOp (h.use I fun aL cT a8 a v1 s1 I1 r1 x1 h1 =>
  (h1 v1).pC I1 r1 fun cZ gq c v3 s3 I3 r3 x3 h3=>⟨cZ,cT,gq,c,I3,r3,x1.trans x3,h3⟩)
theorem vK{l r:Expr}{op:CmpOp}{p:Pos}{Ψ:V→Loc→Cells→Prop}(h:mE X A env (eval l env) (K2 X A env r (da X A (compareOp op)) Ψ) loc cells)(hm:autoParam (behindInMarks op r=false) aU):mE X A env (eval (.Compare l [op] [r] p) env) Ψ loc cells :=
 fun own s I=>wpAny_Compare1 (h.use I fun aL cT a8 a v1 s1 I1 r1 x1 h1=>h1.use I1 fun aI bc bx b v2 s2 I2 r2 x2 h2 =>
  (h2 v1 v2).pC I2 ⟨r1.ext I1 x2,r2⟩ fun cZ gq c v3 s3 I3 r3 x3 h3=>⟨cZ,bc,gq,c,I3,r3,x1.trans (x2.trans x3),h3⟩) hm
theorem ny{t b o:Expr}{p:Pos}{Ψ:V→Loc→Cells→Prop}(h:mT X A env (isTrue t env (eval t env)) (fun c l1 c1=>if c then mE X A env (eval b env) Ψ l1 c1 else mE X A env (eval o env) Ψ l1 c1) loc cells):mE X A env (eval (.IfExp t b o p) env) Ψ loc cells :=
 fun own s I=>wpAny_IfExp (h.use I fun aL cT a8 c v1 s1 I1 r1 x1 h1=>by
  have:v1=c:=r1
  subst this
  cases v1
  ·exact h1.use I1 fun aI bc bx b v2 s2 I2 r2 x2 h2=>⟨aI,bc,bx,b,I2,r2,x1.trans x2,h2⟩
  ·exact h1.use I1 fun aI bc bx b v2 s2 I2 r2 x2 h2=>⟨aI,bc,bx,b,I2,r2,x1.trans x2,h2⟩)
theorem aT{l r:Expr}{op:CmpOp}{p:Pos}{whole:Sem Value}{Ψ:Bool→Loc→Cells→Prop}(h:mE X A env (eval l env) (K2 X A env r (F3 X A op) Ψ) loc cells)(hm:autoParam (behindInMarks op r=false) aU):mT X A env (isTrue (.Compare l [op] [r] p) env whole) Ψ loc cells :=
 fun own s I=>wpAny_isTrue_Compare1 (h.use I fun aL cT a8 a v1 s1 I1 r1 x1 h1=>h1.use I1 fun aI bc bx b v2 s2 I2 r2 x2 h2 =>
  (h2 v1 v2).pC I2 ⟨r1.ext I1 x2,r2⟩ fun cZ gq c v3 s3 I3 r3 x3 h3=>(h3 v3).pC I3 r3 fun dw uw t v4 s4 I4 r4 x4 h4=>⟨dw,bc,uw,t,I4,r4,x1.trans (x2.trans (x3.trans x4)),h4⟩) hm
theorem gK{e:Expr}{whole:Sem Value}{Ψ:Bool→Loc→Cells→Prop}(h:mE X A env whole (fun a l1 c1=>qS X A a (fun t c2=>Ψ t l1 c2) c1) loc cells)(he:autoParam (isTrue e env whole=(do let v ← whole;standAt e.pos;holding [v] (truthy v))) aR):mT X A env (isTrue e env whole) Ψ loc cells :=
 fun own s I=>wpAny_isTrue_value (h.use I fun aL cT a8 a v1 s1 I1 r1 x1 h1=>(h1 v1).pC I1 r1 fun dw uw t v4 s4 I4 r4 x4 h4=>⟨dw,cT,uw,t,I4,r4,x1.trans x4,h4⟩) he
theorem BL{e:Expr}{p:Pos}{whole:Sem Value}{Ψ:Bool→Loc→Cells→Prop}(h:mT X A env (isTrue e env (eval e env)) (fun t l1 c1=>Ψ (!t) l1 c1) loc cells):mT X A env (isTrue (.UnaryOp .Not e p) env whole) Ψ loc cells :=
 fun own s I=>wpAny_isTrue_Not (h.use I fun aL cT a8 t v1 s1 I1 r1 x1 h1=>⟨aL,cT,a8,!t,I1,congrArg _ r1,x1,h1⟩)
theorem dY{op:BoolOp}{vs:List Expr}{p:Pos}{whole:Sem Value}{Ψ:Bool→Loc→Cells→Prop}(h:mT X A env (allTrue op vs env) Ψ loc cells):mT X A env (isTrue (.BoolOp op vs p) env whole) Ψ loc cells :=
 fun own s I=>wpAny_isTrue_BoolOp (h own s I)
theorem wR{Ψ:Bool→Loc→Cells→Prop}(h:Ψ true loc cells):mT X A env (allTrue .And [] env) Ψ loc cells:=fun own s I=>wpAny_allTrue_And_nil (inv_end I rfl h)
theorem yA{Ψ:Bool→Loc→Cells→Prop}(h:Ψ false loc cells):mT X A env (allTrue .Or [] env) Ψ loc cells:=fun own s I=>wpAny_allTrue_Or_nil (inv_end I rfl h)
theorem dM{e:Expr}{rest:List Expr}{Ψ:Bool→Loc→Cells→Prop}(h:mT X A env (isTrue e env (eval e env)) (fun t l1 c1=>if t then mT X A env (allTrue .And rest env) Ψ l1 c1 else Ψ false l1 c1) loc cells) :
  mT X A env (allTrue .And (e::rest) env) Ψ loc cells:=fun own s I=>wpAny_allTrue_And_cons (h.use I fun aL cT a8 t v1 s1 I1 r1 x1 h1=>by
   have:v1=t:=r1
   subst this
   cases v1
   ·exact ⟨aL,cT,a8,false,I1,rfl,x1,h1⟩
   ·exact h1.use I1 fun aI bc bx b v2 s2 I2 r2 x2 h2=>⟨aI,bc,bx,b,I2,r2,x1.trans x2,h2⟩)
theorem jf{e:Expr}{rest:List Expr}{Ψ:Bool→Loc→Cells→Prop}(h:mT X A env (isTrue e env (eval e env)) (fun t l1 c1=>if t then Ψ true l1 c1 else mT X A env (allTrue .Or rest env) Ψ l1 c1) loc cells) :
  mT X A env (allTrue .Or (e::rest) env) Ψ loc cells:=fun own s I=>wpAny_allTrue_Or_cons (h.use I fun aL cT a8 t v1 s1 I1 r1 x1 h1=>by
   have:v1=t:=r1
   subst this
   cases v1
   ·exact h1.use I1 fun aI bc bx b v2 s2 I2 r2 x2 h2=>⟨aI,bc,bx,b,I2,r2,x1.trans x2,h2⟩
   ·exact ⟨aL,cT,a8,true,I1,rfl,x1,h1⟩)
theorem aD{Ψ:MF→Loc→Cells→Prop}(h:Ψ .next loc cells):mS X A env (execs [] env) Ψ loc cells:=fun own s I=>wpAny_execs_nil (inv_end I .next h)
noncomputable abbrev F4 (X:Cx) (A:Around) (env:Env) (rest:List Stmt) (Ψ:MF→Loc→Cells→Prop) (f:MF) (l:Loc) (c:Cells):Prop:=match f with | .next=>mS X A env (execs rest env) Ψ l c | f=>Ψ f l c
theorem aa{st:Stmt}{rest:List Stmt}{Ψ:MF→Loc→Cells→Prop}(h:mS X A env (exec st env) (F4 X A env rest Ψ) loc cells) :
  mS X A env (execs (st::rest) env) Ψ loc cells:=fun own s I=>wpAny_execs_cons (h.use I fun aL cT a8 f v1 s1 I1 r1 x1 h1=>by
   cases r1 with
   | next=>exact eg.use h1 I1 fun aI bc bx b v2 s2 I2 r2 x2 h2=>⟨aI,bc,bx,b,I2,r2,x1.trans x2,h2⟩
   | brk=>exact ⟨aL,cT,a8,.brk,I1,.brk,x1,h1⟩
   | cont=>exact ⟨aL,cT,a8,.cont,I1,.cont,x1,h1⟩
   | ret q=>exact ⟨aL,cT,a8,.ret _,I1,.ret q,x1,h1⟩)
theorem cG{t:Expr}{b o:List Stmt}{p:Pos}{Ψ:MF→Loc→Cells→Prop}(h:mT X A env (isTrue t env (eval t env)) (Jf X A env b o Ψ) loc cells):mS X A env (exec (.If t b o p) env) Ψ loc cells :=
 fun own s I=>wpAny_If (h.use I fun aL cT a8 c v1 s1 I1 r1 x1 h1=>by
  have:v1=c:=r1
  subst this
  cases v1
  ·exact h1.use I1 fun aI bc bx b v2 s2 I2 r2 x2 h2=>⟨aI,bc,bx,b,I2,r2,x1.trans x2,h2⟩
  ·exact h1.use I1 fun aI bc bx b v2 s2 I2 r2 x2 h2=>⟨aI,bc,bx,b,I2,r2,x1.trans x2,h2⟩)
theorem bo{e:Expr}{p:Pos}{Ψ:MF→Loc→Cells→Prop}(h:mE X A env (eval e env) (fun v l c=>Ψ (.ret v) l c) loc cells):mS X A env (exec (.Return (some e) p) env) Ψ loc cells :=
 fun own s I=>wpAny_Return_some (h.use I fun aL cT a8 c v1 s1 I1 r1 x1 h1=>⟨aL,cT,a8,.ret c,I1,.ret r1,x1,h1⟩)
theorem cB{e:Expr}{p:Pos}{Ψ:MF→Loc→Cells→Prop}(h:mE X A env (eval e env) (fun v l c=>Ψ .next l c) loc cells)(hi:autoParam (interactive env=false) aR)(hs:autoParam (swapsWith e none p.line env=pure false) aR) :
  mS X A env (exec (.Expr e p) env) Ψ loc cells :=
 fun own s I=>wpAny_Expr_any (h.use I fun aL cT a8 c v1 s1 I1 r1 x1 h1=>⟨aL,cT,a8,.next,I1,.next,x1,h1⟩) hi hs
theorem AE{p:Pos}{Ψ:MF→Loc→Cells→Prop}(h:Ψ .brk loc cells):mS X A env (exec (.Break p) env) Ψ loc cells:=fun own s I=>wpAny_Break (inv_end I .brk h)
theorem ux{p:Pos}{Ψ:MF→Loc→Cells→Prop}(h:Ψ .cont loc cells):mS X A env (exec (.Continue p) env) Ψ loc cells:=fun own s I=>wpAny_Continue (inv_end I .cont h)
theorem yB{t:Expr}{m:Option Expr}{p:Pos}{Ψ:MF→Loc→Cells→Prop}(h:mT X A env (isTrue t env (eval t env)) (fun c l1 c1=>c=true∧Ψ .next l1 c1) loc cells):mS X A env (exec (.Assert t m p) env) Ψ loc cells :=
 fun own s I=>wpAny_Assert_holds (h.use I fun aL cT a8 c v1 s1 I1 r1 x1 h1=>⟨Eq.trans r1 h1.1,aL,cT,a8,.next,I1,.next,x1,h1.2⟩)
end
section
variable {X:Cx}{A:Around}{env:Env}{own:Own}{loc:Loc}{cells:Cells}{s:Shared}{h':Heap}
theorem qT{L:Addr}(hs:∀ b o,b≠L→s.heap.get? b=some o→h'.get? b=some o)(hd:∀ o,s.heap.get? L=some o→¬ pH o){v:Value}{x:V}(r:RV own s.heap v x):RV own h' v x :=
 r.mono (fun b o e Z d=>hs b o (fun q=>by subst q;exact hd o e d) e) fun Z Z Z e=>e
theorem Base.but{P:Addr→Prop}{t:Nat}(I:Base X own cells s)(hP:∀ b,P b→own b=none∧X.h₀.get? b=none∧∀ o,s.heap.get? b=some o→¬ pH o)(hs:∀ b o,¬ P b→s.heap.get? b=some o→h'.get? b=some o)(hf:∀ b∈X.iz,P b→∃ o es n,h'.get? b=some o∧o.data=.dict es n):Base X own cells {s with heap:=h',toks:=t}:=by
 exact I.step (fun b p=>(hP b p).2.1) hs (fun b a e=>⟨I.new b a e,ba (I.lt b a e) fun o q=>bA o (hs b o (fun p=>nomatch (hP b p).1.symm.trans e) q)⟩)
  (fun a c e=>⟨(I.cell a c e).1,(I.cell a c e).2.mono (fun b o q e'=>⟨hs b o (fun p=>nomatch (hP b p).1.symm.trans q) e',q⟩) (fun v x r=>r.mono (fun b o e' Z d=>hs b o (fun p=>(hP b p).2.2 o e' d) e') fun Z Z Z e=>e) (I.cell a c e).1⟩)
  fun L hL=>qO (I.iz L hL) fun n o es k e d=>by
   by_cases p:P L
   ·exact ej (hf L hL p) fun o' Ea k' e' d'=>sz n o' Ea k' e' d' d.2
   ·exact vG n o es k (hs L o p e) d
theorem Base.sameBut{L:Addr}{t:Nat}(I:Base X own cells s)(hL:own L=none)(hn:X.h₀.get? L=none)(hs:Heap.SameBut L s.heap h')(hd:∀ o,s.heap.get? L=some o→¬ pH o)(hf:L∈X.iz→∃ o es n,h'.get? L=some o∧o.data=.dict es n) :
  Base X own cells {s with heap:=h',toks:=t}:=I.but (P:=fun b=>b=L) (fun b p=>p▸⟨hL,hn,hd⟩) (fun b o p e=>(hs.2 b p).trans e) fun b hb p=>by subst p;exact hf hb
theorem mj{F:Addr→Prop}{L:Addr}(hL:F L)(hs:Heap.SameBut L s.heap h')(h:∃ o,s.heap.get? L=some o)(h2:∃ o,h'.get? L=some o)(hn:own L=none):Ext F own cells s.heap own cells h' where
 fw:=fun b a o e q n=>⟨(hs.2 b (fun z=>by rw [z,hn] at q;cases q)).trans e,q,rfl,n.2⟩
 keep:=fun b o e Z f Z=>⟨o,(hs.2 b (fun z=>f (z▸hL))).trans e,.refl o⟩
 cx:=fun Z Z Z e=>e
 there:=fun b o e=>by
  by_cases hb:b=L
  ·rw [hb];exact h2
  ·exact (bA o ((hs.2 b hb).trans e))
theorem lookup_cons{x y:Str}{v:V}{l:Loc}:List.lookup y ((x,v)::l)=if y == x then some v else List.lookup y l:=by
 rw [List.lookup_cons];cases y == x <;> rfl
theorem nW{x:Str}{mv:V}{loc:Loc}{P:Str→V→Prop}(hx:P x mv)(ho:∀ y my,y≠x→loc.lookup y=some my→P y my)(y:Str)(my:V)(e:List.lookup y ((x,mv)::loc)=some my):P y my:=by
 rw [lookup_cons] at e
 by_cases hy:(y == x)=true
 ·rw [if_pos hy] at e;cases e;cases eq_of_beq hy;exact hx
 ·rw [if_neg hy] at e;exact ho y my (fun z=>hy (beq_iff_eq.mpr z)) e
theorem AF{h:Heap}{a:Addr}{m m':Str→Option Value}(p:h.Ns a m)(q:h.Ns a m'):m=m' :=
 dy p fun o1 Jg Jh e1 d1 Z f1=>dy q fun o2 K0 K5 e2 d2 Z f2=>by
  cases Option.some.inj (e1.symm.trans e2);cases d1.symm.trans d2
  funext z;exact (f1 z).symm.trans (f2 z)
theorem vL{h:Heap}{a:Addr}{m:Str→Option Value}{v:Option Value}(p:h.Ns a m)(q:h.IsCell a v):False :=
 dS p fun o1 Jg Jh e1 d1 Z=>xDPP q fun o2 e2 d2=>by
  cases Option.some.inj (e1.symm.trans e2);exact nomatch d1.symm.trans d2
theorem aQ.yC{h₀ h:Heap}{x:Str}{v:Value}{mv:V}{m m':Str→Option Value}(F:aQ h₀ env own h loc)(hk:env.kindOf x=some .local)(hm:h.Ns env.locals m)(hn:h'.Ns env.locals m')(hx:m' x=some v)(ho:∀ y,y≠x→m' y=m y)(hs:∀ b o,b≠env.locals→h.get? b=some o→h'.get? b=some o)(rv:∀ {v y},RV own h v y→RV own h' v y)(r:RV own h v mv):aQ h₀ env own h' ((x,mv)::loc) :=
 have ic:∀ {c v},h.IsCell c v→h'.IsCell c v:=fun i=>xDPP i fun o e d=>iDPP o (hs _ o (fun z=>vL hm (z▸i)) e) d
 {ns:=⟨_,hn⟩
  cX:=F.cX
  dK:=F.dK
  iA:=fun y k=>xDDPPP (F.iA y k) fun c v₀ l i n=>iDDPPP c v₀ l (ic i) n
  inj:=F.inj
  var:=nW (by unfold ft;rw [hk];exact iDDPPP _ v hn hx (rv r)) fun y my ne e=>(F.var y my e).conv (fun m2 u a b c=>iDDPPP _ u hn ((ho y ne).trans (AF hm a▸b)) (rv c)) fun c u Z Z i q=>iDPP u (ic i) (rv q)}
theorem aQ.setCell{h₀ h:Heap}{x:Str}{c:Addr}{v:Value}{mv:V}(F:aQ h₀ env own h loc)(hk:env.kindOf x=some .cell)(hl:env.cells.lookup x=some c)(nL:env.locals≠c)(hn:h'.IsCell c (some v))(hs:∀ b o,b≠c→h.get? b=some o→h'.get? b=some o)(rv:∀ {v y},RV own h v y→RV own h' v y)(r:RV own h v mv):aQ h₀ env own h' ((x,mv)::loc) :=
 have ns:∀ {m},h.Ns env.locals m→h'.Ns env.locals m:=fun q=>ej q fun o es ep e r=>fh o es ep (hs _ o nL e) r
 have ic:∀ {d v},d≠c→h.IsCell d v→h'.IsCell d v:=fun n i=>xDPP i fun o e d=>iDPP o (hs _ o n e) d
 {ns:=ba F.ns fun m q=>⟨m,ns q⟩
  cX:=F.cX
  dK:=F.dK
  iA:=fun y k=>xDDPPP (F.iA y k) fun d v₀ l i n=>by
   by_cases q:d=c
   ·exact iDDPPP d (some v) l (q▸hn) n
   ·exact iDDPPP d v₀ l (ic q i) n
  inj:=F.inj
  var:=nW (by unfold ft;rw [hk];exact iDDPPP c v hl hn (rv r)) fun y my ne e=>(F.var y my e).conv (fun m2 u a b q=>iDDPPP m2 u (ns a) b (rv q)) fun d u k l i q=>iDPP u (ic (fun z=>ne (F.inj y x c k (.inl hk) (z▸l) hl)) i) (rv q)}
theorem cJ{x:Str}{v:Value}{mv:V}{Q:Unit→Shared→Prop}{E:Value→Shared→Prop}(I:Inv X env own loc cells s)(r:RV own s.heap v mv)(hk:env.kindOf x=some .local∨env.kindOf x=some .cell)(h:∀ s',Inv X env own ((x,mv)::loc) cells s'→Ext (Fa env) own cells s.heap own cells s'.heap→Q () s'):wpAny (model X.prog X.w) A (storeName env x v) Q E s:=by
 refine ba I.fr.ns ?_;intro m hm
 rcases hk with hk | hk
 ·refine wpAny_storeName_local hk hm (fun h' hn hs=>?_) (by rw [I.ok.kind];rfl)
  have hd:∀ o,s.heap.get? env.locals=some o→¬ pH o:=fun o e d=>I.fr.gV (.inl rfl) e d
  have kp:∀ b o,b≠env.locals→s.heap.get? b=some o→h'.get? b=some o:=fun b o n e=>(hs.2 b n).trans e
  exact h _ ⟨I.base.sameBut (t:=s.toks+1) I.fr.cX I.fr.dK hs hd (fun Z=>dS hn fun o es n e d Z=>fh o es n e d),I.ok,I.fr.yC hk hm hn (if_pos rfl) (fun y n=>if_neg n) kp (fun q=>qT kp hd q) r⟩ (mj (.inl rfl) hs (iK hm) (iK hn) I.fr.cX)
 ·refine bQ (I.fr.iA x (.inl hk)) ?_;intro c v₀ hl hc oc nc
  refine wpAny_storeName_cell I.ok.kind hk hl hc fun h' hn hs=>?_
  have hd:∀ o,s.heap.get? c=some o→¬ pH o:=fun o e d=>I.fr.gV (.inr (iDPP x hk hl)) e d
  have kp:∀ b o,b≠c→s.heap.get? b=some o→h'.get? b=some o:=fun b o n e=>(hs.2 b n).trans e
  have hL:env.locals≠c:=fun z=>vL hm (z▸hc)
  exact h _ ⟨I.base.sameBut (t:=s.toks) oc nc hs hd (fun q=>qO (I.base.iz c q) fun Z o es k e d=>xDPP hc fun o' e' d'=>by
   cases Option.some.inj (e.symm.trans e');exact (nomatch d.1.symm.trans d')),I.ok,I.fr.setCell hk hl hL hn kp (fun q=>qT kp hd q) r⟩ (mj (.inr (iDPP x hk hl)) hs (gW hc) (gW hn) oc)
theorem Inv.sub{eJ:Loc}(I:Inv X env own loc cells s)(h:∀ x v,eJ.lookup x=some v→loc.lookup x=some v):Inv X env own eJ cells s :=
 ⟨I.base,I.ok,⟨I.fr.ns,I.fr.cX,I.fr.dK,I.fr.iA,I.fr.inj,fun x mv e=>I.fr.var x mv (h x mv e)⟩⟩
noncomputable def subs:Loc→Loc→Prop
 | [],_=>True
 | (x,v)::r,l=>l.lookup x=some v∧subs r l
theorem ml:∀ {l' l:Loc},subs l' l→∀ x v,l'.lookup x=some v→l.lookup x=some v
 | [],_,_,x,v,e=>by simp at e
 | (y,u)::r,l,h,x,v,e=>by
  rw [lookup_cons] at e
  by_cases hy:(x == y)=true
  ·rw [if_pos hy] at e;cases e;rw [eq_of_beq hy];exact h.1
  ·rw [if_neg hy] at e;exact ml h.2 x v e
theorem aq{x:Str}{p' p:Pos}{e:Expr}{Ψ:MF→Loc→Cells→Prop}(hk:env.kindOf x=some .local∨env.kindOf x=some .cell)(h:mE X A env (eval e env) (KS x Ψ) loc cells)(hs:autoParam (swapsWith e (some (.Name x p')) p.line env=pure false) aR) :
  mS X A env (exec (.Assign [.Name x p'] e p) env) Ψ loc cells :=
 fun own s I=>wpAny_Assign_Name (h.use I fun aL cT a8 b v s1 I1 r1 x1 h1=>cJ I1 r1 hk fun s2 I2 x2=>⟨aL,_,a8,.next,I2,.next,x1.trans x2,h1⟩) hs
theorem sF{x:Str}{p' p:Pos}{e:Expr}{Ψ:V→Loc→Cells→Prop}(hk:env.kindOf x=some .local∨env.kindOf x=some .cell)(h:mE X A env (eval e env) (fun v l c=>Ψ v ((x,v)::l) c) loc cells):mE X A env (eval (.NamedExpr (.Name x p') e p) env) Ψ loc cells :=
 fun own s I=>wpAny_NamedExpr (h.use I fun aL cT a8 b v s1 I1 r1 x1 h1=>by
  show wpAny _ _ (do standAt p';bindName env x v) _ _ _
  refine wpAny_bind (wpAny_standAt ?_)
  exact wpAny_bindName (cJ I1 r1 hk fun s2 I2 x2=>⟨aL,_,a8,b,I2,r1.ext I1 x2,x1.trans x2,h1⟩))
end
structure Rm(X:Cx)(A:Around)(k:Nat):Prop where
 hh:A.handled=none
 dep:A.depth+k<recursionLimit
 un:A.units+10 * k<cLine
 fr:∃ envs,A.frames=some envs∧∀ env∈envs,env.scope.kind≠.module∧∃ L∈X.iz,env.frame=some L
theorem Rm.deeper{X:Cx}{A:Around}{k:Nat}{L:Addr}(h:Rm X A (k+1))(env:Env)(hk:env.scope.kind≠.module)(hf:env.frame=some L):Rm (X.push L) (A.deeper env) k :=
 ⟨h.hh,by have:=h.dep;show A.depth+1+k<_;lia,by have:=h.un;show A.units+3+10 * k<_;lia,let ⟨e,p,q⟩:=h.fr;(iDPP (env::e) (by show A.frames.map (env::·)=_;rw [p];rfl)  (fun F5 h'=>by
  rcases List.mem_cons.mp h' with rfl | h'
  ·exact (ma hk L List.mem_cons_self hf)
  ·(refine jy (q F5 h') ?_;intro q1 L' q2 q3)
   exact (ma q1 L' (List.mem_cons_of_mem _ q2) q3)))⟩
section
variable {X:Cx}{A:Around}{env:Env}{loc:Loc}{cells:Cells}
theorem a_nil{p:Pos}{Ψ:List V→Loc→Cells→Prop}(h:Ψ [] loc cells):yy X A env (spliced (backTo p (starEach [] env))) Ψ loc cells:=fun own s I=>spliced_none (inv_end I .nil h)
noncomputable abbrev Ji (Ψ:List V→Loc→Cells→Prop) (a:V) (as:List V) (l:Loc) (c:Cells):Prop:=Ψ (a::as) l c
noncomputable abbrev KA (X:Cx) (A:Around) (env:Env) (p:Pos) (rest:List Expr) (Ψ:List V→Loc→Cells→Prop) (a:V) (l:Loc) (c:Cells):Prop:=yy X A env (spliced (backTo p (starEach rest env))) (Ji Ψ a) l c
theorem af{e:Expr}{rest:List Expr}{p:Pos}{Ψ:List V→Loc→Cells→Prop}(h:mE X A env (eval e env) (KA X A env p rest Ψ) loc cells)(he:autoParam (starEach (e::rest) env=(false,eval e env)::starEach rest env) aR):yy X A env (spliced (backTo p (starEach (e::rest) env))) Ψ loc cells :=
 fun own s I=>spliced_more (h.use I fun aL cT a8 b v s1 I1 r1 x1 h1=>h1.use I1 fun aI bc bx bs vs s2 I2 r2 x2 h2=>⟨aI,bc,bx,b::bs,I2,.cons (r1.ext I1 x2) r2,x1.trans x2,h2⟩) he
noncomputable def Keeps (X:Cx) (f:V):Prop:=match f with
 | .bi _=>True
 | .ty _=>True
 | .ref a=>PySem.W.keepIn X.K (.ref a)=true
 | _=>False
theorem iM{own:Own}{s:Shared}{f:V}{fv:Value}{pos:Pos}{e:Expr}{rest:List Expr}{Q:Value→Shared→Prop}{E:Value→Shared→Prop}(hk:Keeps X f)(r:RV own s.heap fv f)(h:wpAny (model X.prog X.w) A (spliced (backTo pos (starEach (e::rest) env))) (fun vs s₁=>X.K.In s₁.heap∧wpAny (model X.prog X.w) A (call fv vs) Q E s₁) E s)(he:starEach (e::rest) env=(false,eval e env)::starEach rest env)(ez:(backTo pos (starEach rest env)).any (·.1)=false) :
  wpAny (model X.prog X.w) A (callWith pos fv [] (backTo pos (starEach (e::rest) env)) []) Q E s:=by
 have h':wpAny (model X.prog X.w) A (spliced (backTo pos (starEach (e::rest) env))) (fun vs s₁=>wpAny (model X.prog X.w) A (call fv vs) Q E s₁) E s:=wpAny_mono h (fun Z Z q=>q.2) fun Z Z q=>q
 cases r with
 | bi id =>
  rw [he] at h' ⊢
  exact Calls.callWith_builtin (by show (false||(backTo pos (starEach rest env)).any (·.1))=false;rw [ez];rfl) (Calls.evalArgs_plain h')
 | ty n=>exact PyProof.Rows.callWith_type1 h' he ez
 | ref a=>exact PySem.W.callWith_K X.hK hk h he ez
 | vI=>exact hk.elim
 | bool b=>exact hk.elim
 | int i t=>exact hk.elim
 | str x t=>exact hk.elim
 | list _ _ _ _=>exact hk.elim
 | tuple _ _ _ _=>exact hk.elim
 | sv _ _=>exact hk.elim
noncomputable abbrev KC (X:Cx) (A:Around) (f:V) (Ψ:V→Loc→Cells→Prop) (as:List V) (l:Loc) (c:Cells):Prop:=aE X A f as (fun r c'=>Ψ r l c') c
theorem aA{f:Str}{np pos:Pos}{e:Expr}{rest:List Expr}{fv:V}{Ψ:V→Loc→Cells→Prop}(hk:env.kindOf f=some .globalImplicit)(hl:X.glob.lookup f=some fv)(F6:Keeps X fv)(h:yy X A env (spliced (backTo pos (starEach (e::rest) env))) (KC X A fv Ψ) loc cells)(he:autoParam (starEach (e::rest) env=(false,eval e env)::starEach rest env) aR)(ez:autoParam ((backTo pos (starEach rest env)).any (·.1)=false) aR)(hd:autoParam ((f == ("__debug__":Str))=false) aDK) :
  mE X A env (eval (.Call (.Name f np) (e::rest) [] pos) env) Ψ loc cells:=fun own s I=>by
 refine wpAny_Call_NameR ?_
 refine (ey (Ψ:=fun v l c=>v=fv∧l=loc∧c=cells) hk hl ⟨rfl,rfl,rfl⟩ hd).use I fun aL cT a8 b v1 s1 I1 r1 x1 h1=>?_
 (refine aP h1 ?_;try clear h1;intro aV;subst aV;intro bj;subst bj;intro bH;subst bH)
 refine iM F6 r1 ?_ he ez
 refine h.use I1 fun aI bc bx as vs s2 I2 r2 x2 h2=>⟨I2.base.K,?_⟩
 exact (h2 v1 vs).pC I2 ⟨r1.ext I1 x2,r2⟩ fun cZ gq c v3 s3 I3 r3 x3 h3=>⟨cZ,bc,gq,c,I3,r3,x1.trans (x2.trans x3),h3⟩
noncomputable abbrev dF (qual:Str) (scope:Scope) (L a:Addr) (cd:Value):Env:=envOfC qual scope L a cd
theorem kq{kindOf:Str→Option NameKind}{x:Str}{v:Value}:∀ {binds:List (Str×Value)} {m:Str→Option Value},(binds.map (·.1)).Nodup→binds.lookup x=some v→kindOf x=some .local→bindL kindOf binds m x=some v
 | [],m,_,e,_=>by simp at e
 | (n,u)::r,m,hn,e,hk=>by
  rw [List.map_cons,List.nodup_cons] at hn
  rw [List.lookup_cons] at e
  unfold bindL
  by_cases hx:(x == n)=true
  ·rw [hx] at e
   cases e
   have:x=n:=eq_of_beq hx
   subst this
   have:∀ (r:List (Str×Value)) (m:Str→Option Value),x ∉ r.map (·.1)→bindL kindOf r m x=m x:=by
    intro r
    induction r with
    | nil=>intro m Z;rfl
    | cons y r ih =>
     intro m hm
     obtain ⟨n',u'⟩:=y
     simp only [List.map_cons,List.mem_cons,not_or] at hm
     unfold bindL
     rw [ih _ hm.2]
     split <;> simp [hm.1]
   rw [this r _ hn.1,if_pos hk];simp
  ·have sG:(x == n)=false:=by simpa using hx
   rw [sG] at e
   exact kq hn.2 e hk
theorem kr{kindOf:Str→Option NameKind}{x:Str}{v:Value}:∀ {binds:List (Str×Value)} {m:Str→Option Value},(binds.map (·.1)).Nodup→binds.lookup x=some v→kindOf x=some .cell→bindC kindOf binds m x=some v
 | [],m,_,e,_=>by simp at e
 | (n,u)::r,m,hn,e,hk=>by
  rw [List.map_cons,List.nodup_cons] at hn
  rw [List.lookup_cons] at e
  unfold bindC
  by_cases hx:(x == n)=true
  ·rw [hx] at e
   cases e
   have:x=n:=eq_of_beq hx
   subst this
   have:∀ (r:List (Str×Value)) (m:Str→Option Value),x ∉ r.map (·.1)→bindC kindOf r m x=m x:=by
    intro r
    induction r with
    | nil=>intro m Z;rfl
    | cons y r ih =>
     intro m hm
     obtain ⟨n',u'⟩:=y
     simp only [List.map_cons,List.mem_cons,not_or] at hm
     unfold bindC
     rw [ih _ hm.2]
     split <;> simp [hm.1]
   rw [this r _ hn.1,if_neg (by rw [hk];simp)];simp
  ·have sG:(x == n)=false:=by simpa using hx
   rw [sG] at e
   exact kr hn.2 e hk
theorem bP.lookup{own:Own}{h:Heap}{x:Str}{mv:V}:∀ {names:List Str} {vs:List Value} {as:List V},bP own h vs as→(names.zip as).lookup x=some mv→∃ v,(names.zip vs).lookup x=some v∧RV own h v mv
 | [],vs,as,_,e=>by simp at e
 | n::ns,vs,[],_,e=>by simp at e
 | n::ns,vs,a::as,r,e=>by
  (refine xDDPPP r.cK ?_;intro v jB cw;subst cw;intro r1 r2)
  rw [List.zip_cons_cons,List.lookup_cons] at e ⊢
  cases hx:x == n with
  | true=>rw [hx] at e;cases e;exact (iDPP v rfl r1)
  | false=>rw [hx] at e;exact bP.lookup r2 e
theorem mem_of_lookup{c:Addr}{x:Str}:∀ {l:List (Str×Addr)},l.lookup x=some c→(x,c)∈l
 | [],e=>by simp at e
 | (y,d)::r,e=>by
  rw [List.lookup_cons] at e
  cases hy:x == y with
  | true=>rw [hy] at e;cases e;rw [eq_of_beq hy];exact .head _
  | false=>rw [hy] at e;exact .tail _ (mem_of_lookup e)
theorem qU{l:List (Str×Addr)}(hp:l.Pairwise fun x y=>x.2≠y.2){x y:Str}{c:Addr}(hx:(x,c)∈l)(hy:(y,c)∈l):x=y:=by
 induction hp with
 | nil=>cases hx
 | cons h _ ih =>
  cases hx with
  | head=>cases hy with
   | head=>rfl
   | tail _ hy=>exact absurd rfl (h (y,c) hy)
  | tail _ hx=>cases hy with
   | head=>exact absurd rfl (h (x,c) hx)
   | tail _ hy=>exact ih hx hy
noncomputable def Back (yD:V→Cells→Prop) (f:MF) (_:Loc) (c:Cells):Prop:=match f with
 | .ret mv=>yD mv c
 | .next=>yD .none c
 | _=>False
theorem Base.pop{own:Own}{s:Shared}{L:Addr}(I:Base (X.push L) own cells s):Base X own cells s:=⟨I.old,I.hg,I.hb,I.nolimit,I.gens,I.os,I.new,I.lt,I.cell,fun L' h=>I.iz L' (List.mem_cons_of_mem _ h)⟩
theorem Base.push{own:Own}{s:Shared}{L:Addr}(I:Base X own cells s)(f:uu X.h₀ own s.heap L):Base (X.push L) own cells s:=⟨I.old,I.hg,I.hb,I.nolimit,I.gens,I.os,I.new,I.lt,I.cell,fun L' h=>by
 rcases List.mem_cons.mp h with rfl | h
 ·exact f
 ·exact I.iz L' h⟩
theorem wU{k:Nat}{own:Own}{s:Shared}{qual:Str}{scope:Scope}{a:Addr}{cd:Value}{body:List Stmt}{names:List Str}{vs:List Value}{as:List V}{R:Result→Shared→Prop}{E:Value→Shared→Prop}(hA:Rm X A (k+1))(I:Base X own cells s)(rs:bP own s.heap vs as)(dc:scope.kind=.function)(mq:names.Nodup)(fz:scope.names.all (fun x=>x.2 != .free)=true)(jQ:names.all (fun x=>scope.names.lookup x == some .local||scope.names.lookup x == some .cell)=true)(h:∀ L s₂,Inv (X.push L) (dF qual scope L a cd) own (names.zip as) cells s₂→(∀ own' c' h',Ext (Fa (dF qual scope L a cd)) own cells s₂.heap own' c' h'→Ext qR own cells s.heap own' c' h')→codeAny (model X.prog X.w) A (.func body (dF qual scope L a cd)) R s₂) :
  wpAny (model X.prog X.w) A.in1 (newFunctionEnv scope mainGlobals [] (names.zip vs) (qual++".<locals>.") (some a) cd none builtinsNs) (fun env s₂=>s₂.heap.NoLimit∧codeAny (model X.prog X.w) A (.func body env) R s₂) E s:=by
 have HR:∀ x∈names,scope.names.lookup x=some .local∨scope.names.lookup x=some .cell:=fun x hx=>by
  have:=List.all_eq_true.mp jQ x hx
  simpa using this
 refine wpAny_newFunctionEnv_cells dc (fun x hx=>?_) (fun env he s₁ C=>?_)
 ·obtain ⟨n,u⟩:=x
  have hn:n∈names:=(List.of_mem_zip hx).1
  rcases HR n hn with q | q
  ·exact .inl q
  ·exact .inr ⟨q,PySem.W.cellsFrom_some _ _ _ (.inl q)⟩
 ·have F7:env=dF qual scope s.heap.objs.size a cd:=by rw [he];rfl
  subst F7
  (refine eG C.toInCall.same ?_;intro hh tk cR;subst cR)
  have I1:Base X own cells {s with heap:=hh,toks:=tk}:=I.keeps C.toInCall.keep
  have none_of:∀ b,s.heap.objs.size≤b→own b=none∧X.h₀.get? b=none:=fun b hb=>I.fresh (by
   cases q:s.heap.get? b with
   | none=>rfl
   | some o=>exact absurd (Heap.lt_size q) (Nat.not_lt.mpr hb))
  have kindOf:∀ x,(dF qual scope s.heap.objs.size a cd).kindOf x=scope.names.lookup x:=fun Z=>rfl
  have above:∀ x c,(dF qual scope s.heap.objs.size a cd).cells.lookup x=some c→s.heap.objs.size<c:=fun x c l=>C.above x c (mem_of_lookup l)
  have Jj:uu X.h₀ own hh s.heap.objs.size:=⟨(none_of _ (Nat.le_refl _)).1,let ⟨o,es,n,e,d,_⟩:=C.toInCall.ns;(iDDDPPP o es n e d ((none_of _ (Nat.le_refl _)).2))⟩
  have I2:Inv (X.push s.heap.objs.size) (dF qual scope s.heap.objs.size a cd) own (names.zip as) cells {s with heap:=hh,toks:=tk}:=by
   refine ⟨I1.push Jj,⟨dc,rfl,rfl⟩,?_⟩
   exact {
    ns:=⟨_,C.toInCall.ns⟩
    cX:=(none_of _ (Nat.le_refl _)).1
    dK:=(none_of _ (Nat.le_refl _)).2
    iA:=fun x kx=>by
     rcases kx with kx | kx
     ·rw [kindOf] at kx
      (refine ba (Option.isSome_iff_exists.mp (PySem.W.cellsFrom_some scope.names (s.heap.objs.size+1) [] (.inl kx))) ?_;intro c hc)
      exact (cS c _ hc (C.cell x c hc) ((none_of _ (Nat.le_of_lt (above x c hc))).1) ((none_of _ (Nat.le_of_lt (above x c hc))).2))
     ·rw [kindOf] at kx
      have:=List.all_eq_true.mp fz (x,.free) (by
       have:∀ l:List (Str×NameKind),l.lookup x=some .free→(x,NameKind.free)∈l:=by
        intro l
        induction l with
        | nil=>intro e;simp at e
        | cons y r ih =>
         intro e
         obtain ⟨n,q⟩:=y
         rw [List.lookup_cons] at e
         cases hy:x == n with
         | true=>rw [hy] at e;cases e;rw [eq_of_beq hy];exact .head _
         | false=>rw [hy] at e;exact .tail _ (ih e)
       exact this _ kx)
      simp at this
    inj:=fun x y c Z Z hx hy=>qU C.apart (mem_of_lookup hx) (mem_of_lookup hy)
    var:=fun x mv e=>by
     (refine xDPP (rs.lookup e) ?_;intro v e' r)
     have hx:x∈names:=by
      have:∀ (ns:List Str) (vs:List Value),(ns.zip vs).lookup x=some v→x∈ns:=by
       intro ns
       induction ns with
       | nil=>intro vs e;simp at e
       | cons n ns ih =>
        intro vs e
        cases vs with
        | nil=>simp at e
        | cons u us =>
         rw [List.zip_cons_cons,List.lookup_cons] at e
         cases hy:x == n with
         | true=>rw [eq_of_beq hy];exact .head _
         | false=>rw [hy] at e;exact .tail _ (ih us e)
      exact this _ _ e'
     have wV:((names.zip vs).map (·.1)).Nodup:=by
      have:∀ (ns:List Str) (vs:List Value),ns.Nodup→((ns.zip vs).map (·.1)).Nodup:=by
       intro ns
       induction ns with
       | nil=>intro vs Z;simp
       | cons n ns ih =>
        intro vs hn
        cases vs with
        | nil=>exact W.kwDistinct_nodup rfl
        | cons u us =>
         rw [List.nodup_cons] at hn
         rw [List.zip_cons_cons,List.map_cons,List.nodup_cons]
         refine ⟨fun q=>hn.1 ?_,ih us hn.2⟩
         (refine xDPP (List.mem_map.mp q) ?_;intro p hp e)
         have e2:p.1=n:=e
         rw [← e2];exact (List.of_mem_zip (a:=p.1) (b:=p.2) hp).1
      exact this _ _ mq
     unfold ft
     rcases HR x hx with q | q
     ·rw [kindOf,q]
      exact (iDDPPP _ v C.toInCall.ns (kq wV e' (by rw [kindOf];exact q)) (r.keeps C.toInCall.keep))
     ·rw [kindOf,q]
      (refine ba (Option.isSome_iff_exists.mp (PySem.W.cellsFrom_some scope.names (s.heap.objs.size+1) [] (.inl q))) ?_;intro c hc)
      refine ⟨c,v,hc,?_,r.keeps C.toInCall.keep⟩
      have:=C.cell x c hc
      rw [kr wV e' (by rw [kindOf];exact q)] at this
      exact this}
  refine ⟨I1.nolimit,h _ _ I2 fun own' c' h' x=>⟨fun b o e n Z t=>?_,fun b o e n=>x.cx b o (C.toInCall.keep b o e) n,fun b o e=>x.there b o (C.toInCall.keep b o e),fun b a o e q n=>x.fw b a o (C.toInCall.keep b o e) q n⟩⟩
  refine x.keep b o (C.toInCall.keep b o e) n (fun f=>?_) t
  have hb:b<s.heap.objs.size:=Heap.lt_size e
  rcases f with rfl | ⟨y,_,hl⟩
  ·exact absurd hb (Nat.lt_irrefl _)
  ·exact absurd hb (Nat.not_lt.mpr (Nat.le_of_lt (above y b hl)))
theorem gM{k:Nat}{own:Own}{s:Shared}{qual:Str}{scope:Scope}{a:Addr}{cd:Value}{body:List Stmt}{names:List Str}{vs:List Value}{as:List V}{R:Result→Shared→Prop}{E:Value→Shared→Prop}{yD:V→Cells→Prop}(hA:Rm X A (k+1))(I:Base X own cells s)(rs:bP own s.heap vs as)(dc:scope.kind=.function)(mq:names.Nodup)(fz:scope.names.all (fun x=>x.2 != .free)=true)(jQ:names.all (fun x=>scope.names.lookup x == some .local||scope.names.lookup x == some .cell)=true)(h:∀ L,mS (X.push L) (A.deeper (dF qual scope L a cd)) (dF qual scope L a cd) (execs body (dF qual scope L a cd)) (Back yD) (names.zip as) cells)(hR:∀ own' c s' mv v,yD mv c→RV own' s'.heap v mv→Base X own' c s'→Ext qR own cells s.heap own' c s'.heap→R (.ok (.ret v)) s') :
  wpAny (model X.prog X.w) A.in1 (newFunctionEnv scope mainGlobals [] (names.zip vs) (qual++".<locals>.") (some a) cd none builtinsNs) (fun env s₂=>s₂.heap.NoLimit∧codeAny (model X.prog X.w) A (.func body env) R s₂) E s :=
 wU hA I rs dc mq fz jQ fun L s₂ I2 hx=>by
  refine codeAny_func (wpAny_mono (Q:=fun f s'=>R (.ok (.ret (match f with | .ret v=>v | _=>.none))) s') ((h L).use I2 ?_) (fun Z Z q=>q) (fun Z Z q=>q.elim))
  intro own' eJ cells' b v s' I' r x p
  cases r with
  | ret q=>exact hR own' cells' s' _ _ p q I'.base.pop (hx _ _ _ x)
  | next=>exact hR own' cells' s' _ _ p .vI I'.base.pop (hx _ _ _ x)
  | brk=>exact p.elim
  | cont=>exact p.elim
structure FnAt(K:PySem.W.Frag)(a:Addr)(name qual:Str)(params:Arguments)(body:List Stmt)(scope:Scope)(dV kV doc pm:Value)(an:Option Addr)(cdv ct:Value):Prop where
 at_:∃ oc od DQ,K.lookup a=some ⟨oc,od,.func (PySem.W.fnOf name qual params body scope dV kV doc pm an cdv ct),DQ⟩
 code:PySem.W.codeIn K cdv qual=true
 keep:PySem.W.keepIn K (.ref a)=true
theorem sH{k:Nat}{a:Addr}{name qual:Str}{params:Arguments}{body:List Stmt}{scope:Scope}{dV kV doc pm:Value}{an:Option Addr}{cdv ct:Value}{names:List Str}{as:List V}{Ψ:V→Cells→Prop}(F:FnAt X.K a name qual params body scope dV kV doc pm an cdv ct)(hA:Rm X A (k+1))(hb:∀ vs:List Value,vs.length=as.length→bindArgs (PySem.W.fnOf name qual params body scope dV kV doc pm an cdv ct) ⟨vs,[]⟩=pure (names.zip vs))(h:∀ L,mS (X.push L) (A.deeper (dF qual scope L a cdv)) (dF qual scope L a cdv) (execs body (dF qual scope L a cdv)) (Back Ψ) (names.zip as) cells)(dc:autoParam (scope.kind=.function) aR)(wW:autoParam (scope.isCoroutine=false) aR)(nX:autoParam (scope.isGenerator=false) aR)(mq:autoParam (names.Nodup) aDK)(fz:autoParam (scope.names.all (fun x=>x.2 != .free)=true) aDK)(jQ:autoParam (names.all (fun x=>scope.names.lookup x == some .local||scope.names.lookup x == some .cell)=true) aDK) :
  aE X A (.ref a) as Ψ cells:=by
 intro fv vs own s I ⟨rf,rs⟩
 refine RV.e0 rf rfl ?_
 refine wpAny_call ?_
 (refine qg F.at_ ?_;intro oc od DQ ho)
 refine codeAny_call_function (fd:=PySem.W.fnOf name qual params body scope dV kV doc pm an cdv ct) (by have:=hA.dep;exact Nat.lt_of_add_right_lt this) (I.K _ _ ho) rfl wW nX rfl (PySem.W.codeRec_of I.K F.code) ?_
 rw [hb vs rs.1]
 refine wpAny_pure ?_
 exact gM hA I rs dc mq fz jQ h fun own' c s' mv v p r b x=>⟨own',c,mv,b,r,x,p⟩
theorem a9{α:Type}{M:Model}{s:Shared}{t:Sem α}{Q:α→Shared→Prop}{E:Value→Shared→Prop}(h:wpAny M A t Q dh s):wpAny M A t Q E s:=wpAny_mono h (fun Z Z q=>q) fun Z Z q=>q.elim
theorem aB{α:Type}{M:Model}{s:Shared}{t:Sem α}{Q Q':α→Shared→Prop}{E:Value→Shared→Prop}(h:wpAny M A t Q dh s)(k:∀ v s,Q v s→Q' v s):wpAny M A t Q' E s:=wpAny_mono h k fun Z Z q=>q.elim
theorem ao(h:Heap):h.get? h.objs.size=none:=by
 cases q:h.get? h.objs.size with
 | none=>rfl
 | some o=>exact absurd (Heap.lt_size q) (Nat.lt_irrefl _)
end
section
variable {X:Cx}{A:Around}{env:Env}{loc:Loc}{cells:Cells}{own:Own}{s:Shared}
theorem gr:∀ (names:List (Str×NameKind)) (n:Nat) (acc:List (Str×Addr)),(∀ x y c,(x,c)∈acc→(y,c)∈acc→x=y)→(∀ x c,(x,c)∈acc→c<n) →
  ∀ x y c,(x,c)∈cellsFrom n names acc→(y,c)∈cellsFrom n names acc→x=y
 | [],n,acc,hi,_=>hi
 | (z,k)::r,n,acc,hi,hb=>by
  unfold cellsFrom
  split
  ·refine gr r (n+1) _ (fun x y c hx hy=>?_) fun x c hx=>?_
   ·rcases List.mem_cons.mp hx with e | hx <;> rcases List.mem_cons.mp hy with e' | hy
    ·cases e;cases e';rfl
    ·cases e;exact absurd (hb _ _ hy) (Nat.lt_irrefl _)
    ·cases e';exact absurd (hb _ _ hx) (Nat.lt_irrefl _)
    ·exact hi x y c hx hy
   ·rcases List.mem_cons.mp hx with e | hx
    ·cases e;exact Nat.lt_succ_self _
    ·exact Nat.lt_succ_of_lt (hb _ _ hx)
  ·exact gr r n acc hi hb
theorem gu:∀ (names:List (Str×NameKind)) (n:Nat) (acc:List (Str×Addr)) (x:Str),(∀ k,(x,k)∈names→k≠.cell)→(cellsFrom n names acc).lookup x=acc.lookup x
 | [],n,acc,x,h=>rfl
 | (y,k)::r,n,acc,x,h=>by
  unfold cellsFrom
  split
  ·rename_i hk
   have Jk:(x == y)=false:=by
    cases q:x == y with
    | false=>rfl
    | true=>exact absurd (eq_of_beq hk) (h k (by rw [eq_of_beq q];exact .head _))
   rw [gu r (n+1) _ x (fun k hk=>h k (.tail _ hk)),List.lookup_cons,Jk]
  ·exact gu r n acc x fun k hk=>h k (.tail _ hk)
theorem gv:∀ (names:List (Str×NameKind)) (h:Heap) (acc:List (Str×Addr)) (x:Str) (c:Addr),(x,c)∈cellsFrom h.objs.size names acc→(x,c)∈acc∨(h.objs.size≤c∧(pushCells h names).IsCell c none)
 | [],h,acc,x,c,q=>.inl q
 | (y,k)::r,h,acc,x,c,q=>by
  unfold cellsFrom at q
  unfold pushCells
  split
  ·rename_i hk
   rw [if_pos hk] at q
   have:=gv r (h.push { cls:=.type "cell",data:=.cell none}) ((y,h.objs.size)::acc) x c (by rw [Heap.size_push];exact q)
   rcases this with z | ⟨z,w⟩
   ·rcases List.mem_cons.mp z with e | z
    ·cases e;exact .inr ⟨Nat.le_refl _,(iDPP _ (pushCells_keeps r _ _ _ (Heap.get?_push_size _ rfl)) rfl)⟩
    ·exact .inl z
   ·rw [Heap.size_push] at z
    exact .inr ⟨by exact Nat.le_of_succ_le z,w⟩
  ·rename_i hk
   rw [if_neg hk] at q
   exact gv r h acc x c q
theorem lookup_mem{α:Type}{x:Str}:∀ {l:List (Str×α)} {k:α},l.lookup x=some k→(x,k)∈l
 | [],_,e=>by simp at e
 | (y,q)::r,k,e=>by
  rw [List.lookup_cons] at e
  cases hy:x == y with
  | true=>rw [hy] at e;cases e;rw [eq_of_beq hy];exact .head _
  | false=>rw [hy] at e;exact .tail _ (lookup_mem e)
theorem mem_lookup{α:Type}{x:Str}{k:α}:∀ {l:List (Str×α)},(x,k)∈l→(∀ q,(x,q)∈l→q=k)→l.lookup x=some k
 | (y,q)::r,h,u=>by
  rw [List.lookup_cons]
  cases hy:x == y with
  | true=>have:x=y:=eq_of_beq hy;subst this;rw [u q (.head _)]
  | false =>
   rcases List.mem_cons.mp h with e | h
   ·cases e;simp at hy
   ·exact mem_lookup h fun q hq=>u q (.tail _ hq)
theorem gw{scope:Scope}(hf:∀ x,(x,NameKind.free)∈scope.names→∃ c,env.cells.lookup x=some c) :
  ∃ cl,closureFor scope env=pure cl∧∀ x c,(x,c)∈cl↔((x,NameKind.free)∈scope.names∧env.cells.lookup x=some c):=by
 have key:∀ (names:List (Str×NameKind)) (acc:List (Str×Addr)),(∀ x,(x,NameKind.free)∈names→∃ c,env.cells.lookup x=some c) →
   ∃ cl,(forIn names acc fun (nk:Str×NameKind) cs=>(match nk with | (name,kind)=>if (kind == .free)=true then (do let c ← cellOf env name;pure (ForInStep.yield ((name,c)::cs))) else pure (ForInStep.yield cs):Sem (ForInStep (List (Str×Addr)))))=pure cl ∧
    ∀ x c,(x,c)∈cl↔((x,c)∈acc∨((x,NameKind.free)∈names∧env.cells.lookup x=some c)):=by
  intro names
  induction names with
  | nil=>intro acc Z;exact (iDPP acc rfl (fun x c=>by simp))
  | cons y r ih =>
   intro acc h
   obtain ⟨n,k⟩:=y
   rw [List.forIn_cons]
   by_cases hk:(k == NameKind.free)=true
   ·have DR:k=.free:=eq_of_beq hk
    subst DR
    (refine ba (h n (.head _)) ?_;intro c hc)
    (refine xDPP (ih ((n,c)::acc) fun x hx=>h x (.tail _ hx)) ?_;intro cl e m)
    refine (iDPP cl ?_ (fun x d=>?_))
    ·have wW:cellOf env n=pure c:=by unfold cellOf;rw [hc]
     simp only [beq_self_eq_true,if_true,wW]
     exact e
    ·rw [m x d]
     constructor
     ·rintro (q | ⟨q,z⟩)
      ·rcases List.mem_cons.mp q with e | q
       ·cases e;exact .inr ⟨.head _,hc⟩
       ·exact .inl q
      ·exact .inr ⟨.tail _ q,z⟩
     ·rintro (q | ⟨q,z⟩)
      ·exact .inl (.tail _ q)
      ·rcases List.mem_cons.mp q with e | q
       ·cases e;rw [hc] at z;cases z;exact .inl (.head _)
       ·exact .inr ⟨q,z⟩
   ·(refine xDPP (ih acc fun x hx=>h x (.tail _ hx)) ?_;intro cl e m)
    refine (iDPP cl ?_ (fun x d=>?_))
    ·simp only [if_neg hk]
     exact e
    ·rw [m x d]
     refine or_congr Iff.rfl (and_congr_left fun Z=>⟨.tail _,fun q=>?_⟩)
     rcases List.mem_cons.mp q with e | q
     ·cases e;simp at hk
     ·exact q
 (refine xDPP (key scope.names [] hf) ?_;intro cl e m)
 refine (iDPP cl ?_ (fun x c=>by rw [m x c];simp))
 have e2:closureFor scope env=((pure cl:Sem (List (Str×Addr))) >>= fun r=>pure r):=congrArg (fun t=>t >>= fun r=>pure r) e
 exact e2
noncomputable def c8 (scope:Scope) (loc:Loc):Loc:=loc.filter fun p=>scope.names.lookup p.1 == some .free
theorem fY{scope:Scope}{x:Str}:∀ {loc:Loc},(c8 scope loc).lookup x=if scope.names.lookup x == some .free then loc.lookup x else none
 | []=>by simp [c8]
 | (y,v)::r=>by
  have ih:=fY (scope:=scope) (x:=x) (loc:=r)
  unfold c8 at ih ⊢
  rw [List.filter_cons]
  by_cases hx:x=y
  ·subst hx
   split
   ·rename_i h;rw [List.lookup_cons];simp
   ·rename_i h;rw [ih,if_neg h]
  ·have hb:(x == y)=false:=by exact beq_false_of_ne hx
   split
   ·rw [List.lookup_cons,List.lookup_cons,hb];exact ih
   ·rw [List.lookup_cons,hb];exact ih
noncomputable abbrev compEnv (scope:Scope) (env:Env) (L:Addr) (cs:List (Str×Addr)):Env :=
 {scope:=relabel scope env,locals:=L,globals:=env.globals,cells:=cs,qual:=env.qual,func:=none,code:=env.code,frame:=env.frame,builtins:=env.builtins}
theorem eK{scope:Scope}{L:Addr}{cs:List (Str×Addr)}{x:Str}(he:env.scope.kind=.function) :
  (compEnv scope env L cs).kindOf x=match scope.names.lookup x with | some .free=>(if env.kindOf x=some .cell then some .cell else some .free) | k=>k:=by
 show (scope.names.map _).lookup x=_
 have:∀ names:List (Str×NameKind),(names.map fun (n,k)=>if (k == .free&&env.scope.kind == .function&&env.kindOf n == some .cell) then (n,NameKind.cell) else (n,k)).lookup x=match names.lookup x with | some .free=>(if env.kindOf x=some .cell then some .cell else some .free) | k=>k:=by
  intro names
  induction names with
  | nil=>rfl
  | cons y r ih =>
   obtain ⟨n,k⟩:=y
   rw [List.map_cons]
   by_cases hx:x=n
   ·subst hx
    cases k <;> simp [he]
    by_cases hk:env.kindOf x=some .cell <;> simp [hk]
   ·have hb:(x == n)=false:=by exact beq_false_of_ne hx
    rw [List.lookup_cons (k:=n),hb]
    dsimp only
    split
    ·rw [List.lookup_cons,hb];exact ih
    ·rw [List.lookup_cons,hb];exact ih
 exact this scope.names
structure bB(scope:Scope)(env:Env):Prop where
 kind:scope.kind=.function
 nodup:(scope.names.map (·.1)).Nodup
 free:scope.names.all (fun p=>p.2 != .free||(env.kindOf p.1 == some .cell||env.kindOf p.1 == some .free))=true
theorem bB.isFree{scope:Scope}(C:bB scope env){x:Str}(h:(x,NameKind.free)∈scope.names):bg (env.kindOf x):=by
 have:=List.all_eq_true.mp C.free _ h
 simpa [bg] using this
theorem bB.uniq{scope:Scope}(C:bB scope env){x:Str}{k k':NameKind}(h:(x,k)∈scope.names)(h':(x,k')∈scope.names):k=k':=by
 have:∀ names:List (Str×NameKind),(names.map (·.1)).Nodup→(x,k)∈names→(x,k')∈names→k=k':=by
  intro names
  induction names with
  | nil=>intro Z h;cases h
  | cons y r ih =>
   intro hn h h'
   rw [List.map_cons,List.nodup_cons] at hn
   rcases List.mem_cons.mp h with e | h <;> rcases List.mem_cons.mp h' with e' | h'
   ·rw [← e] at e';exact (Prod.mk.inj e').2.symm
   ·rw [← e] at hn;exact absurd (List.mem_map.mpr (iDPP _ h' rfl)) hn.1
   ·rw [← e'] at hn;exact absurd (List.mem_map.mpr (iDPP _ h rfl)) hn.1
   ·exact ih hn.2 h h'
 exact this _ C.nodup h h'
theorem bB.lookup{scope:Scope}(C:bB scope env){x:Str}{k:NameKind}:scope.names.lookup x=some k↔(x,k)∈scope.names :=
 ⟨lookup_mem,fun h=>mem_lookup h fun q hq=>C.uniq hq h⟩
theorem dU{h:Heap}{b:Addr}(hb:h.objs.size≤b):h.get? b=none:=by
 cases q:h.get? b with
 | none=>rfl
 | some o=>exact absurd (Heap.lt_size q) (Nat.not_lt.mpr hb)
theorem nY{scope:Scope}{cl:List (Str×Addr)}(C:bB scope env)(I:Inv X env own loc cells s)(ku:∀ x c,(x,c)∈cl↔((x,NameKind.free)∈scope.names∧env.cells.lookup x=some c)){h1:Heap}(hs:s.heap.objs.size≤h1.objs.size) :
  (∀ x,(x,NameKind.cell)∈scope.names→∃ c,(cellsFrom h1.objs.size scope.names cl).lookup x=some c∧h1.objs.size≤c∧(pushCells h1 scope.names).IsCell c none) ∧
  (∀ x,(x,NameKind.free)∈scope.names→∃ c,(cellsFrom h1.objs.size scope.names cl).lookup x=some c∧env.cells.lookup x=some c) ∧
  (∀ x y c,(x,c)∈cellsFrom h1.objs.size scope.names cl→(y,c)∈cellsFrom h1.objs.size scope.names cl→x=y):=by
 have lt:∀ x c,(x,c)∈cl→c<h1.objs.size:=fun x c h=>by
  (refine aK ((ku x c).mp h) ?_;intro hf hl)
  (refine xDDPPP (I.fr.iA x (C.isFree hf)) ?_;intro c' v0 jP hc Z)
  rw [hl] at jP;cases jP
  exact Nat.lt_of_lt_of_le hc.lt hs
 refine ⟨fun x hx=>?_,fun x hx=>?_,gr _ _ _ (fun x y c hx hy=>?_) lt⟩
 ·(refine ba (Option.isSome_iff_exists.mp (PySem.W.cellsFrom_some scope.names h1.objs.size cl (.inl (C.lookup.mpr hx)))) ?_;intro c hc)
  rcases gv _ _ _ _ _ (lookup_mem hc) with q | ⟨q,z⟩
  ·exact absurd (C.uniq hx ((ku x c).mp q).1) (by decide)
  ·exact (bq c hc q z)
 ·(refine dx (I.fr.iA x (C.isFree hx)) ?_;intro c v0 hl Z)
  refine (iDPP c ?_ hl)
  rw [gu _ _ _ _ fun k hk z=>absurd (C.uniq hx (z▸hk)) (by decide)]
  exact mem_lookup ((ku x c).mpr ⟨hx,hl⟩) fun d hd=>by
   have:=((ku x d).mp hd).2
   rw [hl] at this;exact (Option.some.inj this).symm
 ·(refine aK ((ku x c).mp hx) ?_;intro fx lx)
  (refine aK ((ku y c).mp hy) ?_;intro fy ly)
  exact I.fr.inj x y c (C.isFree fx) (C.isFree fy) lx ly
theorem nZ{scope:Scope}{L:Addr}{cs:List (Str×Addr)}{x:Str}(ek:env.scope.kind=.function)(hk:bg ((compEnv scope env L cs).kindOf x)):(x,NameKind.cell)∈scope.names∨(x,NameKind.free)∈scope.names:=by
 rw [eK (env:=env) ek] at hk
 cases hl:scope.names.lookup x with
 | none=>rw [hl] at hk;rcases hk with hk | hk <;> cases hk
 | some k =>
  rw [hl] at hk
  cases k with
  | cell=>exact .inl (lookup_mem hl)
  | free=>exact .inr (lookup_mem hl)
  | «local»=>rcases hk with hk | hk <;> cases hk
  | globalImplicit=>rcases hk with hk | hk <;> cases hk
  | globalExplicit=>rcases hk with hk | hk <;> cases hk
theorem yE{scope:Scope}{cl:List (Str×Addr)}{t:Nat}(C:bB scope env)(I:Inv X env own loc cells s)(ku:∀ x c,(x,c)∈cl↔((x,NameKind.free)∈scope.names∧env.cells.lookup x=some c)) :
  Inv X (compEnv scope env s.heap.objs.size (cellsFrom (s.heap.objs.size+1) scope.names cl)) own (c8 scope loc) cells
   {s with heap:=pushCells (s.heap.push { cls:=.type "dict",data:=.dict #[]}) scope.names,toks:=t}:=by
 have keep:∀ b o,s.heap.get? b=some o→(pushCells (s.heap.push { cls:=.type "dict",data:=.dict #[]}) scope.names).get? b=some o:=fun b o e=>pushCells_keeps _ _ _ _ (Heap.get?_push_of_some _ e)
 (refine aP (nY (h1:=s.heap.push { cls:=.type "dict",data:=.dict #[]}) C I ku (by rw [Heap.size_push];exact Nat.le_add_right s.heap.objs.size 1)) ?_;intro c1 c2 c3)
 rw [Heap.size_push] at c1 c2 c3
 have kd:=fun x=>eK (env:=env) (scope:=scope) (L:=s.heap.objs.size) (cs:=cellsFrom (s.heap.objs.size+1) scope.names cl) (x:=x) I.ok.kind
 refine ⟨I.base.keeps keep,⟨C.kind,I.ok.glob,I.ok.blt⟩,?_⟩
 exact {
  ns:=⟨_,(Heap.Ns.new s.heap (.type "dict")).keeps fun b o e=>pushCells_keeps _ _ _ _ e⟩
  cX:=(I.base.fresh (ao _)).1
  dK:=(I.base.fresh (ao _)).2
  iA:=fun x hk=>by
   rcases nZ I.ok.kind hk with q | q
   ·(refine fj (c1 x q) ?_;intro c l z e)
    exact (cS c none l e ((I.base.fresh (dU (by exact Nat.le_of_succ_le z))).1) ((I.base.fresh (dU (by exact Nat.le_of_succ_le z))).2))
   ·(refine xDPP (c2 x q) ?_;intro c l l')
    (refine bQ (I.fr.iA x (C.isFree q)) ?_;intro c' v0 l2 ic on nn)
    rw [l'] at l2;cases l2
    exact ⟨c,v0,l,ic.keeps keep,on,nn⟩
  inj:=fun x y c Z Z hx hy=>c3 x y c (lookup_mem hx) (lookup_mem hy)
  var:=fun x mv e=>by
   rw [fY] at e
   split at e
   ·rename_i hf
    have hf':scope.names.lookup x=some .free:=by simpa using hf
    (refine xDPP (c2 x (lookup_mem hf')) ?_;intro c l l')
    have hv:=I.fr.var x mv e
    have hk:∃ v,s.heap.IsCell c (some v)∧RV own s.heap v mv:=by
     unfold ft at hv
     split at hv
     ·rename_i k;have:=C.isFree (lookup_mem hf');rw [k] at this;rcases this with q | q <;> cases q
     ·(refine xDDPPP hv ?_;try clear hv;intro c' v a b d);rw [l'] at a;cases a;exact (iDPP v b d)
     ·(refine xDDPPP hv ?_;try clear hv;intro c' v a b d);rw [l'] at a;cases a;exact (iDPP v b d)
     ·exact hv.elim
    (refine xDPP hk ?_;try clear hk;intro v ic r)
    unfold ft
    rw [kd x,hf']
    dsimp only
    split
    ·rename_i q;split at q <;> cases q
    ·exact (iDDPPP c v l (ic.keeps keep) (r.keeps keep))
    ·exact (iDDPPP c v l (ic.keeps keep) (r.keeps keep))
    ·rename_i q1 q2 q3
     by_cases q:env.kindOf x=some .cell
     ·exact absurd (if_pos q) q2
     ·exact absurd (if_neg q) q3
   ·cases e}
end
section
variable {X:Cx}{A:Around}{env:Env}{loc:Loc}{cells:Cells}{own:Own}{s:Shared}
noncomputable def eA (X:Cx) (A:Around) (env:Env):List Expr→(Bool→Loc→Cells→Prop)→Loc→Cells→Prop
 | [],Ψ,l,c=>Ψ true l c
 | e::r,Ψ,l,c=>mT X A env (isTrue e env (eval e env)) (fun ok l c=>if ok then eA X A env r Ψ l c else Ψ false l c) l c
noncomputable abbrev eX (env:Env) (ifs:List Expr) (b:Bool):Sem Bool:=forIn ifs b fun c r=>if r=true then do let ok ← isTrue c env (eval c env);pure (ForInStep.yield ok) else pure (ForInStep.yield r)
theorem iu(env:Env):∀ ifs:List Expr,eX env ifs false=pure false
 | []=>rfl
 | c::r=>by
  show forIn (c::r) false _=_
  rw [List.forIn_cons]
  exact iu env r
theorem iN:∀ (ifs:List Expr) {Ψ:Bool→Loc→Cells→Prop} {loc:Loc} {cells:Cells},eA X A env ifs Ψ loc cells→mT X A env (eX env ifs true) Ψ loc cells
 | [],Ψ,loc,cells,h=>fun own s I=>wpAny_pure (inv_end I rfl h)
 | e::r,Ψ,loc,cells,h=>fun own s I=>by
  show wpAny _ _ (forIn (e::r) true _) _ _ _
  rw [List.forIn_cons]
  refine wpAny_bind (wpAny_bind (eg.use h I fun aL cT a8 b v s1 I1 r1 x1 h1=>?_))
  have:v=b:=r1
  subst this
  refine wpAny_pure ?_
  cases v with
  | true =>
   show wpAny _ _ (eX env r true) _ _ _
   exact (iN r h1).use I1 fun aI bc bx b v s2 I2 r2 x2 h2=>⟨aI,bc,bx,b,I2,r2,x1.trans x2,h2⟩
  | false =>
   show wpAny _ _ (eX env r false) _ _ _
   rw [iu]
   exact wpAny_pure ⟨aL,cT,a8,false,I1,rfl,x1,h1⟩
noncomputable def cU (own:Own) (a:Addr):Own:=fun b=>if b=a then some a else own b
noncomputable def disown (own:Own) (a:Addr):Own:=fun b=>if b=a then none else own b
theorem vM{a:Addr}{h h':Heap}{v:Value}{x:V}(hn:h.get? a=none)(hk:∀ b o,h.get? b=some o→h'.get? b=some o)(r:RV own h v x):RV (cU own a) h' v x :=
 r.mono (fun b o e Z Z=>hk b o e) fun b o e q=>by unfold cU;rw [if_neg (fun z=>by rw [z,hn] at e;cases e)];exact q
theorem n8{a:Addr}{h:Heap}(hn:h.get? a=none){b:Addr}{o:Obj}(e:h.get? b=some o):cU own a b=own b:=if_neg fun z=>nomatch ((congrArg h.get? z).trans hn).symm.trans e
theorem Base.cU{a:Addr}{h':Heap}{t:Nat}(I:Base X own cells s)(hn:s.heap.get? a=none)(hc:cells a=none)(hk:∀ b o,s.heap.get? b=some o→h'.get? b=some o){o:Obj}(e:h'.get? a=some o) :
  Base X (cU own a) cells {s with heap:=h',toks:=t} :=
 I.step (P:=fun Z=>False) (fun Z f=>f.elim) (fun b o Z=>hk b o) (fun b d q=>by
  by_cases z:b=a
  ·exact z▸⟨(I.fresh hn).2,bA o e⟩
  ·have q:own b=some d:=(if_neg z).symm.trans q
   exact ⟨I.new b d q,ba (I.lt b d q) fun o' e'=>bA o' (hk b o' e')⟩)
  (fun d c q=>ba (I.lt d d (I.cell d c q).1) fun od ed=>⟨(n8 hn ed).trans (I.cell d c q).1,(I.cell d c q).2.mono (fun b o q' e'=>⟨hk b o e',(n8 hn e').trans q'⟩) (fun v x r=>vM hn hk r) (I.cell d c q).1⟩)
  fun L hL=>(I.iz L hL).mono (fun o e=>hk L o e) fun o e n=>(n8 hn e).trans n
theorem mu{a b:Addr}(e:own b=none):disown own a b=none:=by unfold disown;split;rfl;exact e
theorem Base.disown{a:Addr}(I:Base X own cells s)(ha:own a=some a)(hc:cells a=none)(hr:∀ v x,RV own s.heap v x→RV (disown own a) s.heap v x):Base X (disown own a) cells s :=
 I.step (P:=fun Z=>False) (t:=s.toks) (fun Z f=>f.elim) (fun b o Z e=>e) (fun b d q=>by
  by_cases z:b=a
  ·exact nomatch q.symm.trans (if_pos z)
  ·have q:own b=some d:=(if_neg z).symm.trans q
   exact ⟨I.new b d q,I.lt b d q⟩)
  (fun d c q =>
   have nd:∀ {b},own b=some d→b≠a:=fun e z=>nomatch ((congrArg cells (Option.some.inj (((congrArg own z).trans ha).symm.trans e))).symm.trans hc).symm.trans q
   ⟨(if_neg (nd (I.cell d c q).1)).trans (I.cell d c q).1,(I.cell d c q).2.mono (fun b o q' e'=>⟨e',(if_neg (nd q')).trans q'⟩) hr (I.cell d c q).1⟩)
  fun L hL=>(I.iz L hL).mono (fun o e=>e) fun o e n=>mu n
theorem wX{a:Addr}{h:Heap}{v:Value}{x:V}(r:RV own h v x):RV (disown own a) h v x:=r.mono (fun Z Z e Z Z=>e) fun b o e q=>mu q
end
section
variable {X:Cx}{A:Around}{env:Env}{loc:Loc}{cells:Cells}{own:Own}{s:Shared}{h':Heap}
structure qV(X:Cx)(A:Around)(target:Expr)(it:Value)(fp wr:List Addr)(n:Nat)(St:Nat→Heap→Prop)(P:Nat→Heap→Heap→Value→Prop):Prop where
 sub:∀ b∈wr,b∈fp
 frame:∀ i h h',St i h→(∀ b∈fp,∀ o,h.get? b=some o→h'.get? b=some o)→St i h'
 item:∀ i (s:Shared) (Q:Value→Shared→Prop),i<n→St i s.heap→(∀ v h' tk,P i s.heap h' v→St (i+1) h'→(∀ b o,b ∉ wr→s.heap.get? b=some o→h'.get? b=some o)→Q v {s with heap:=h',toks:=tk}) →
  wpAny (model X.prog X.w) A (pyNext it) (fun r s1=>∃ v,r=some v∧wpAny (model X.prog X.w) A (letOwnedTupleGo target it v) (fun Z s2=>Q v s2) dh s1) dh s
 done:∀ (s:Shared) (Q:Shared→Prop),St n s.heap→(∀ h' tk,(∀ b o,b ∉ wr→s.heap.get? b=some o→h'.get? b=some o)→Q {s with heap:=h',toks:=tk})→wpAny (model X.prog X.w) A (pyNext it) (fun r s1=>r=none∧Q s1) dh s
 self:∀ i (s:Shared) (Q:Value→Shared→Prop),St i s.heap→Q it s→wpAny (model X.prog X.w) A (pyIter it) Q dh s
noncomputable def iB (own:Own) (cells:Cells) (h:Heap) (b:Addr):Prop:=∃ o,h.get? b=some o∧((own b=none∧pH o)∨(own b=some b∧Still cells b))
theorem iB.ext{F:Addr→Prop}{own':Own}{cells':Cells}{h:Heap}{b:Addr}(hF:∀ b o,F b→h.get? b=some o→pH o→False)(x:Ext F own cells h own' cells' h')(f:iB own cells h b) :
  iB own' cells' h' b∧∃ o,h.get? b=some o∧h'.get? b=some o:=by
 obtain ⟨o,e,⟨n,z⟩ | ⟨n,z⟩⟩:=f
 ·(refine xDPP (x.keep b o e n (fun q=>hF b o q e z) (iJ z.cls.2)) ?_;intro o2 e2 lk)
  have e3:h'.get? b=some o:=by rw [e2,lk.2.2 z.nodict]
  exact (ma ((iDPP o e3 (.inl ⟨x.cx b o e n,z⟩))) o e e3)
 ·(refine aP (x.fw b b o e n ⟨z,rfl⟩) ?_;intro p1 p2 p3)
  exact (ma ((iDPP o p1 (.inr ⟨p2,z.of p3.1⟩))) o e p1)
theorem iB.keep{h h':Heap}{b:Addr}(hk:∀ o,h.get? b=some o→h'.get? b=some o)(f:iB own cells h b):iB own cells h' b:=let ⟨o,e,z⟩:=f;(iDPP o (hk o e) z)
theorem iB.yF{own':Own}{h:Heap}{b:Addr}(ho:own' b=own b)(f:iB own cells h b):iB own' cells h b:=let ⟨o,e,z⟩:=f;(iDPP o e (by rw [ho];exact z))
structure SrcAt(X:Cx)(A:Around)(target:Expr)(own:Own)(cells:Cells)(h₀ h:Heap)(it:Value)(items:List V)(fp wr:List Addr)(St:Nat→Heap→Prop)(P:Nat→Heap→Heap→Value→Prop):Prop where
 d:qV X A target it fp wr items.length St P
 st:St 0 h
 w:∀ b∈wr,h₀.get? b=none∧own b=some b∧cells b=none
 ex:∀ i h',St i h'→∀ b∈fp,∃ o,h'.get? b=some o
 f:∀ b∈fp,b ∉ wr→iB own cells h b
 p:∀ i own' hp h' v x,P i hp h' v→items[i]?=some x→(∀ u y,RV own h u y→RV own' h' u y)→(∀ b,hp.get? b=none→own' b=none)→RV own' h' v x
noncomputable def Src (X:Cx) (A:Around) (target:Expr) (own:Own) (cells:Cells) (h₀ h:Heap) (it:Value) (items:List V):Prop:=∃ fp wr St P,SrcAt X A target own cells h₀ h it items fp wr St P
noncomputable def eC (X:Cx) (A:Around) (env:Env) (target iter:Expr) (Φ:List V→Loc→Cells→Prop) (loc:Loc) (cells:Cells):Prop :=
 ∀ own s,Inv X env own loc cells s→wpAny (model X.prog X.w) A (eval iter env) (fun xv s1=>wpAny (model X.prog X.w) A (pyIter xv) (fun it s2 =>
  ∃ own' eJ cells' items,Inv X env own' eJ cells' s2∧Ext (Fa env) own cells s.heap own' cells' s2.heap∧Src X A target own' cells' s.heap s2.heap it items∧Φ items eJ cells') dh s1) dh s
noncomputable def pM (X:Cx) (A:Around) (env:Env) (target:Expr) (v:V) (bind:Loc→Loc):Prop :=
 ∀ own loc cells s u (K:Shared→Prop),Inv X env own loc cells s→RV own s.heap u v→(∀ s',Inv X env own (bind loc) cells s'→Ext (Fa env) own cells s.heap own cells s'.heap→K s')→wpAny (model X.prog X.w) A (assign target env u) (fun Z s'=>K s') dh s
theorem cj{x:Str}{p:Pos}{v:V}(hk:env.kindOf x=some .local∨env.kindOf x=some .cell):pM X A env (.Name x p) v (fun l=>(x,v)::l):=by
 intro own loc cells s u K I r h
 show wpAny _ _ (do standAt p;bindName env x u) _ _ _
 exact wpAny_bind (wpAny_standAt (wpAny_bindName (cJ I r hk h)))
theorem kz{x y:Str}{p q pos:Pos}{k:Nat}{v w:V}(hh:A.handled=none)(hx:env.kindOf x=some .local∨env.kindOf x=some .cell)(hy:env.kindOf y=some .local∨env.kindOf y=some .cell) :
  pM X A env (.Tuple [.Name x p,.Name y q] k pos) (.tuple [v,w]) (fun l=>(y,w)::(x,v)::l):=by
 intro own loc cells s u K I r h
 cases r with
 | tuple ho hn hz hi =>
  rename_i a d vs n sl
  obtain ⟨a1,a2,rfl⟩:=vJ hz
  have r1:=hi 0 a1 v rfl rfl
  have r2:=hi 1 a2 w rfl rfl
  refine wpAny_assign_Tuple (items:=#[a1,a2]) hh ⟨_,ho,rfl,n,rfl⟩ rfl rfl fun h' sG=>?_
  have keep:∀ b o,s.heap.get? b=some o→h'.get? b=some o:=fun b o e=>sG b o (fun z=>by rw [z,ao] at e;cases e) e
  have I1:Inv X env own loc cells {s with heap:=h'}:=⟨I.base.keeps keep,I.ok,I.fr.ext (cells:=cells) (cells':=cells) (.of_keeps keep)⟩
  show wpAny _ _ (do holding [a2] (do standAt p;bindName env x a1);(do holding [] (do standAt q;bindName env y a2);pure ())) _ _ _
  refine wpAny_bind (wpAny_holding (wpAny_bind (wpAny_standAt (wpAny_bindName (cJ I1 (r1.keeps keep) hx fun s2 I2 x2=>?_)))))
  refine wpAny_bind (wpAny_holding (wpAny_bind (wpAny_standAt (wpAny_bindName (cJ I2 ((r2.keeps keep).ext I1 x2) hy fun s3 I3 x3=>?_)))))
  exact wpAny_pure (h s3 I3 (Ext.trans (.of_keeps keep) (x2.trans x3)))
noncomputable def pN (own:Own) (wr:List Addr):Own:=fun b=>if b∈wr then some b else own b
noncomputable def wY (own:Own) (wr:List Addr):Own:=fun b=>if b∈wr then none else own b
theorem Base.AG{wr:List Addr}{t:Nat}(I:Base X own cells s)(hw:∀ b∈wr,own b=some b∧cells b=none)(hs:∀ b o,b ∉ wr→s.heap.get? b=some o→h'.get? b=some o)(h2:∀ b∈wr,∃ o,h'.get? b=some o) :
  Base X own cells {s with heap:=h',toks:=t} :=
 I.step (P:=fun b=>b∈wr) (fun b p=>I.new b b (hw b p).1) hs (fun b d e=>⟨I.new b d e,by
   by_cases hb:b∈wr
   ·exact h2 b hb
   ·exact ba (I.lt b d e) fun o q=>bA o (hs b o hb q)⟩)
  (fun d c e=>⟨(I.cell d c e).1,(I.cell d c e).2.mono (fun b o q e'=>⟨hs b o (fun z=>nomatch ((congrArg cells (Option.some.inj ((hw b z).1.symm.trans q))).symm.trans (hw b z).2).symm.trans e) e',q⟩)
   (fun v x r=>r.mono (fun b o e q Z=>hs b o (fun z=>nomatch (hw b z).1.symm.trans q) e) fun Z Z Z e=>e) (I.cell d c e).1⟩)
  fun L hL=>(I.iz L hL).mono (fun o e=>hs L o (fun z=>nomatch (hw L z).1.symm.trans (I.iz L hL).1) e) fun Z Z n=>n
theorem jg{wr:List Addr}{b:Addr}(e:own b=none):wY own wr b=none:=by unfold wY;split;rfl;exact e
theorem nz{wr:List Addr}{b:Addr}(n:b ∉ wr):wY own wr b=own b:=if_neg n
theorem Base.F8{wr:List Addr}{t:Nat}(I:Base X own cells s)(hw:∀ b∈wr,own b=some b∧cells b=none)(hs:∀ b o,b ∉ wr→s.heap.get? b=some o→h'.get? b=some o):Base X (wY own wr) cells {s with heap:=h',toks:=t} :=
 I.step (P:=fun b=>b∈wr) (fun b p=>I.new b b (hw b p).1) hs (fun b d e=>by
   by_cases z:b∈wr
   ·exact nomatch e.symm.trans (if_pos z)
   ·have q:=(nz z).symm.trans e
    exact ⟨I.new b d q,ba (I.lt b d q) fun o e'=>bA o (hs b o z e')⟩)
  (fun d c e =>
   have nd:∀ {b},own b=some d→b ∉ wr:=fun q z=>nomatch ((congrArg cells (Option.some.inj ((hw _ z).1.symm.trans q))).symm.trans (hw _ z).2).symm.trans e
   have hd:=(I.cell d c e).1
   ⟨(nz (nd hd)).trans hd,(I.cell d c e).2.mono (fun b o q e'=>⟨hs b o (nd q) e',(nz (nd q)).trans q⟩)
    (fun v x r=>r.mono (fun b o e q Z=>hs b o (fun z=>nomatch (hw b z).1.symm.trans q) e) fun b o e q=>jg q) hd⟩)
  fun L hL=>(I.iz L hL).mono (fun o e=>hs L o (fun z=>nomatch (hw L z).1.symm.trans (I.iz L hL).1) e) fun Z Z n=>jg n
theorem aQ.owned{P:Addr→Prop}{h₀ h:Heap}(F:aQ h₀ env own h loc)(hP:∀ b,P b→own b≠none)(hs:∀ b o,¬ P b→h.get? b=some o→h'.get? b=some o):aQ h₀ env own h' loc :=
 have ic:∀ {y c v},bg (env.kindOf y)→env.cells.lookup y=some c→h.IsCell c v→h'.IsCell c v:=fun {y c v} k l=>bQ (F.iA y k) fun c' v0 l' Z on Z=>ql fun o=>hs c o fun z=>hP c z ((congrArg own (Option.some.inj (l'.symm.trans l))).symm.trans on)
 {ns:=ba F.ns fun m q=>⟨m,kn (fun o=>hs _ o fun z=>hP _ z F.cX) q⟩
  cX:=F.cX
  dK:=F.dK
  iA:=fun y k=>xDDPPP (F.iA y k) fun c v₀ l i n=>iDDPPP c v₀ l (ic k l i) n
  inj:=F.inj
  var:=fun y mv e=>(F.var y mv e).mono (fun m=>kn fun o=>hs _ o fun z=>hP _ z F.cX) (fun c v k l=>ic k l) fun Z r=>r.mono (fun b o e q Z=>hs b o (fun z=>hP _ z q) e) fun Z Z Z e=>e}
theorem aQ.yF{own':Own}{h₀ h:Heap}(F:aQ h₀ env own h loc)(hn:∀ b,own b=none→(∃ o,h.get? b=some o)→own' b=none):aQ h₀ env own' h loc where
 ns:=F.ns
 cX:=hn _ F.cX (ba F.ns fun m q=>iK q)
 dK:=F.dK
 iA:=fun y k=>bQ (F.iA y k) fun c v₀ l i n z=>cS c v₀ l i (hn _ n (gW i)) z
 inj:=F.inj
 var:=fun y mv e=>(F.var y mv e).mono (fun Z q=>q) (fun Z Z Z Z q=>q) fun Z r=>r.mono (fun Z Z e Z Z=>e) fun b o e q=>hn b q (bA o e)
end
section
variable {X:Cx}{A:Around}{env:Env}{loc:Loc}{cells:Cells}{own:Own}{s:Shared}{h h':Heap}{F:Addr→Prop}{aJ:Own}{aN:Cells}{h₀:Heap}{wr:List Addr}
theorem Ext.drawn(x:Ext F aJ aN h₀ own cells h)(hw:∀ b o,h₀.get? b=some o→b ∉ wr)(keep:∀ b o,b ∉ wr→h.get? b=some o→h'.get? b=some o):Ext F aJ aN h₀ own cells h' where
 keep:=fun b o e n f t=>xDPP (x.keep b o e n f t) fun o' e' lk=>iDPP o' (keep b o' (hw b o e) e') lk
 cx:=x.cx
 there:=fun b o e=>ba (x.there b o e) fun o' e'=>bA o' (keep b o' (hw b o e) e')
 fw:=fun b q o e z w=>aK (x.fw b q o e z w) fun p r=>⟨keep b o (hw b o e) p,r⟩
theorem Ext.Jl(x:Ext F aJ aN h₀ own cells h)(hw:∀ b o,h₀.get? b=some o→b ∉ wr):Ext F aJ aN h₀ (wY own wr) cells h where
 keep:=x.keep
 cx:=fun b o e n=>jg (x.cx b o e n)
 there:=x.there
 fw:=fun b q o e z w=>aP (x.fw b q o e z w) fun p1 p2 p3=>⟨p1,(nz (hw b o e)).trans p2,p3⟩
theorem wZ{fp:List Addr}(x:Ext F own cells h aJ aN h₀)(hF:∀ b o,F b→h.get? b=some o→pH o→False)(hx:∀ b∈wr,∃ o,h.get? b=some o)(yG:∀ b∈wr,own b=some b∧cells b=none)(hf:∀ b∈fp,b ∉ wr→iB own cells h b) :
  (∀ b∈wr,aJ b=some b∧aN b=none)∧(∀ b∈fp,b ∉ wr→iB aJ aN h₀ b)∧∀ b∈fp,∀ o,h.get? b=some o→h₀.get? b=some o :=
 And.intro (fun b hb=>ba (hx b hb) fun o e=>aP (x.fw b b o e (yG b hb).1 ⟨.inl (yG b hb).2,rfl⟩) fun Z p2 p3=>⟨p2,p3.1.trans (yG b hb).2⟩)
  (And.intro (fun b hb hw=>((hf b hb hw).ext hF x).1)
  fun b hb o e=>by
   by_cases hw:b∈wr
   ·exact (x.fw b b o e (yG b hw).1 ⟨.inl (yG b hw).2,rfl⟩).1
   ·exact jy ((hf b hb hw).ext hF x) fun Z o' e' e2=>Option.some.inj (e'.symm.trans e)▸e2)
noncomputable def qW (Fin:Shared→Prop) (Q:Value→Shared→Prop):Option Value→Shared→Prop
 | none=>Fin
 | some v=>Q v
theorem qW.Cw{Fin:Shared→Prop}{Q:Value→Shared→Prop}{r:Option Value}(h:∃ v,r=some v∧Q v s):qW Fin Q r s:=xDPP h fun v e q=>e▸q
theorem qW.Cy{Fin:Shared→Prop}{Q:Value→Shared→Prop}{r:Option Value}(h:r=none∧Fin s):qW Fin Q r s:=aK h fun e q=>e▸q
@[elab_as_elim] theorem qW.elim{Fin:Shared→Prop}{Q:Value→Shared→Prop}{r:Option Value}{M:Option Value→Prop}(h:qW Fin Q r s)(a:Fin s→M none)(b:∀ v,Q v s→M (some v)):M r:=by
 cases r with
 | none=>exact a h
 | some v=>exact b v h
noncomputable def Eb (X:Cx) (A:Around) (target:Expr) (env:Env) (it:Value) (Em:(Shared→Prop)→Shared→Prop) (Fin:Shared→Prop) (T:Nat→Shared→Prop):Prop :=
 ∀ k s,T k s→wpAny (model X.prog X.w) A (pyNext it) (qW Fin fun v s1=>wpAny (model X.prog X.w) A (letOwnedTupleGo target it v) (fun Z s2=>wpAny (model X.prog X.w) A (assign target env v) (fun Z s3=>Em (fun s6=>∃ m,m<k∧T m s6) s3) dh s2) dh s1) dh s
noncomputable def DS (X:Cx) (A:Around) (target:Expr) (env:Env) (it:Value) (Em:(Shared→Prop)→Shared→Prop) (Fin G:Shared→Prop):Prop:=∀ T:Nat→Shared→Prop,Eb X A target env it Em Fin T→∀ k s,T k s→G s
theorem uy{k i n:Nat}(h:k+1+i=n):i<n∧k+(i+1)=n:=by lia
theorem n9{target:Expr}{it:Value}{items:List V}{bind:V→Loc→Loc}{aI:Own}{c2:Cells}{l2:Loc}{s2:Shared}{Em:(Shared→Prop)→Shared→Prop}{Fin G:Shared→Prop}{J:Nat→Loc→Cells→Prop}(I2:Inv X env aI l2 c2 s2)(x2:Ext (Fa env) aJ aN h₀ aI c2 s2.heap)(src:Src X A target aI c2 h₀ s2.heap it items)(j0:J 0 l2 c2)(qX:∀ v∈items,pM X A env target v (bind v))(turn:∀ i v l c own s (Q:Shared→Prop),items[i]?=some v→J i l c→Inv X env own (bind v l) c s→Ext (Fa env) aJ aN h₀ own c s.heap →
   (∀ own' l' c' s',Inv X env own' l' c' s'→Ext (Fa env) own c s.heap own' c' s'.heap→J (i+1) l' c'→Q s')→Em Q s)(done:∀ own' l' c' s',Inv X env own' l' c' s'→Ext (Fa env) aJ aN h₀ own' c' s'.heap→J items.length l' c'→Fin s')(F9:DS X A target env it Em Fin G) :
  G s2∧wpAny (model X.prog X.w) A (pyIter it) (fun AH s'=>AH=it∧G s') dh s2:=by
 refine nQ src ?_;clear src;intro fp wr St P S
 have hw:∀ b o,h₀.get? b=some o→b ∉ wr:=fun b o e q=>nomatch e.symm.trans (S.w b q).1
 refine (fun g=>⟨g,S.d.self 0 _ _ S.st ⟨rfl,g⟩⟩:G s2→_) (F9 (fun k s=>∃ i own l c,k+i=items.length∧Inv X env own l c s∧Ext (Fa env) aJ aN h₀ own c s.heap∧St i s.heap∧(∀ b∈wr,own b=some b∧c b=none) ∧
  (∀ b∈fp,b ∉ wr→iB own c s.heap b)∧(∀ v x,RV aI s2.heap v x→RV own s.heap v x)∧J i l c) (fun k s DR=>?_) items.length s2 (jx 0 aI l2 c2 (Nat.add_zero _) I2 x2 S.st (fun b hb=>(S.w b hb).2) S.f (fun Z Z r=>r) j0))
 refine pG DR ?_;clear DR;intro i own l c Cz Iv xv st yG hf Jm j
 have fo:∀ {h'},(∀ b o,b ∉ wr→s.heap.get? b=some o→h'.get? b=some o)→aQ X.h₀ env own h' l:=fun keep=>Iv.fr.owned (P:=fun b=>b∈wr) (fun b hb e=>nomatch e.symm.trans (yG b hb).1) keep
 cases k with
 | succ k =>
  refine aK (uy Cz) ?_;intro hi Cz
  refine aB (S.d.item i s _ hi st fun v h' tk pv FA keep=>?_) fun r s1 hr=>qW.Cw hr
  have hx:∀ b∈fp,∃ o,h'.get? b=some o:=S.ex (i+1) h' FA
  have I1:Inv X env own l c {s with heap:=h',toks:=tk}:=⟨Iv.base.AG yG keep fun b hb=>hx b (S.d.sub b hb),Iv.ok,fo keep⟩
  have x1:=xv.drawn hw keep
  have HT:∀ v x,RV aI s2.heap v x→RV own h' v x:=fun v x r=>(Jm v x r).mono (fun b o e q Z=>keep b o (fun z=>nomatch q.symm.trans (yG b z).1) e) fun Z Z Z e=>e
  refine qX items[i] (List.getElem_mem hi) own l c _ v _ I1 (S.p i own s.heap h' v _ pv (List.getElem?_eq_getElem hi) HT fun b hb=>(Iv.base.fresh hb).1) fun s3 I3 x3=>?_
  refine turn i _ l c own s3 _ (List.getElem?_eq_getElem hi) j I3 (x1.trans x3) fun dw l4 c4 s4 I4 x4 j4=>?_
  have Ga:=x3.trans x4
  refine aP (wZ Ga (fun b o q e z=>I1.fr.gV q e z) (fun b hb=>hx b (S.d.sub b hb)) yG fun b hb hw=>(hf b hb hw).keep fun o e=>keep b o hw e) ?_;intro w4 f4 k4
  exact m5 k (Nat.lt_succ_self k) (i+1) dw l4 c4 Cz I4 (x1.trans Ga) (S.d.frame (i+1) h' s4.heap FA k4) w4 f4 (fun v x r=>(HT v x r).ext I1 Ga) j4
 | zero =>
  have Cz:=(Nat.zero_add i).symm.trans Cz
  exact aB (S.d.done s _ (Cz▸st) fun h' tk keep=>done (wY own wr) l c _ ⟨Iv.base.F8 yG keep,Iv.ok,(fo keep).yF fun b n Z=>jg n⟩ ((xv.drawn hw keep).Jl hw) (Cz▸j)) fun r s1 hr=>qW.Cy hr
end
section
variable {X:Cx}{A:Around}{env:Env}{loc:Loc}{cells:Cells}{own:Own}{s:Shared}{h':Heap}
noncomputable def qY (J:Loc→Cells→Prop) (Ψ:MF→Loc→Cells→Prop) (f:MF) (l:Loc) (c:Cells):Prop:=match f with
 | .next=>J l c
 | .cont=>J l c
 | .brk=>Ψ .next l c
 | .ret v=>Ψ (.ret v) l c
noncomputable def qZ (Res:Flow→Shared→Prop) (Q:Shared→Prop):Flow→Shared→Prop
 | .next=>Q
 | .cont=>Q
 | .brk=>Res .next
 | .ret v=>Res (.ret v)
@[elab_as_elim] theorem qZ.elim{Res:Flow→Shared→Prop}{Q:Shared→Prop}{f:Flow}{M:Flow→Prop}(h:qZ Res Q f s)(hn:Q s→M .next)(hc:Q s→M .cont)(hb:Res .next s→M .brk)(hr:∀ v,Res (.ret v) s→M (.ret v)):M f:=by
 cases f with
 | next=>exact hn h
 | brk=>exact hb h
 | cont=>exact hc h
 | ret v=>exact hr v h
theorem RF.elim{own:Own}{h:Heap}{fv:Flow}{f:MF}{M:Flow→MF→Prop}(r:RF own h fv f)(hn:M .next .next)(hb:M .brk .brk)(hc:M .cont .cont)(hr:∀ q x,RV own h q x→M (.ret q) (.ret x)):M fv f:=by
 cases r with
 | next=>exact hn
 | brk=>exact hb
 | cont=>exact hc
 | ret q=>exact hr _ _ q
theorem Ec{target:Expr}{p:Pos}{iter:Expr}{body:List Stmt}{bind:V→Loc→Loc}{Ψ:MF→Loc→Cells→Prop}(h:eC X A env target iter (fun items l c=>∃ J:Nat→Loc→Cells→Prop,J 0 l c∧(∀ v∈items,pM X A env target v (bind v)) ∧
   (∀ i v l c,items[i]?=some v→J i l c→mS X A env (execs body env) (qY (J (i+1)) Ψ) (bind v l) c)∧∀ l c,J items.length l c→Ψ .next l c) loc cells)(hs:autoParam (∀ x,foldedSetIterable iter env x=pure x) aIR):mS X A env (exec (.For target iter body [] p) env) Ψ loc cells:=by
 intro aJ s₀ I₀
 refine wpAny_For (aB (h aJ s₀ I₀) fun xv s1 h1=>aB h1 fun it s2 h2=>?_) hs
 refine jz h2 ?_;clear h2;intro aI bc bx items I2 x2 src J j0 qX turn done
 refine (n9 (Em:=fun Q s=>wpAny (model X.prog X.w) A (execs body env) (qZ (gJ X env RF aJ cells s₀.heap Ψ) Q) dh s) (Fin:=gJ X env RF aJ cells s₀.heap Ψ .next) I2 x2 src j0 qX
  (fun i v l c own s Q hi j I x k=>(turn i v l c hi j).use I fun dw l4 c4 f fv s4 I4 r4 x4=>r4.elim (M:=fun fv f=>qY (J (i+1)) Ψ f l4 c4→qZ (gJ X env RF aJ cells s₀.heap Ψ) Q fv s4) (k dw l4 c4 s4 I4 x4) (fun p=>⟨dw,l4,c4,.next,I4,.next,x.trans x4,p⟩) (k dw l4 c4 s4 I4 x4)
   fun q x' r p=>⟨dw,l4,c4,.ret _,I4,.ret r,x.trans x4,p⟩) (fun own' l' c' s' I x j=>⟨own',l',c',.next,I,.next,x,done l' c' j⟩) fun T ht k s=>codeAny_forLoop_any (I:=T) (fun k s hk=>aB (ht k s hk) fun r s1 hr=>hr.elim (fun q=>wpAny_execs_nil q)
   fun v hv=>aB hv fun Z K8 Jn=>aB Jn fun Z K9 Jo=>aB Jo fun f s3 hf=>hf.elim id id id fun Z q=>q) k).1
end
section
variable {X:Cx}{A:Around}{env:Env}{loc:Loc}{cells:Cells}{own own':Own}{s:Shared}{h h':Heap}
theorem RV.grow(hk:∀ b o,h.get? b=some o→h'.get? b=some o)(ho:∀ b o,h.get? b=some o→own' b=own b){v:Value}{x:V}(r:RV own h v x):RV own' h' v x :=
 r.mono (fun b o e Z Z=>hk b o e) fun b o e n=>by rw [ho b o e];exact n
theorem aQ.grow{h₀:Heap}(F:aQ h₀ env own h loc)(hk:∀ b o,h.get? b=some o→h'.get? b=some o)(ho:∀ b o,h.get? b=some o→own' b=own b):aQ h₀ env own' h' loc where
 ns:=let ⟨m,a⟩:=F.ns;⟨m,a.keeps hk⟩
 cX:=by obtain ⟨m,o,_,_,e,_⟩:=F.ns;rw [ho _ o e];exact F.cX
 dK:=F.dK
 iA:=fun y k=>by (refine bQ (F.iA y k) ?_;intro c v₀ l i n z);exact ⟨c,v₀,l,i.keeps hk,by (refine xDPP i ?_;try clear i;intro o e Z);rw [ho _ o e];exact n,z⟩
 inj:=F.inj
 var:=fun y mv e=>(F.var y mv e).mono (fun Z q=>q.keeps hk) (fun Z Z Z Z q=>q.keeps hk) fun Z r=>r.grow hk ho
theorem Ext.grow{F:Addr→Prop}(hk:∀ b o,h.get? b=some o→h'.get? b=some o)(ho:∀ b o,h.get? b=some o→own' b=own b):Ext F own cells h own' cells h' :=
 ⟨fun b o e Z Z Z=>⟨o,hk b o e,.refl o⟩,fun b o e n=>by rw [ho b o e];exact n,fun b o e=>⟨o,hk b o e⟩,fun b a o e q n=>(aO (hk b o e) (by rw [ho b o e];exact q) rfl n.2)⟩
theorem cC{a:Addr}(hn:h.get? a=none):∀ b o,h.get? b=some o→cU own a b=own b:=fun b o e=>by unfold cU;rw [if_neg (fun z=>by rw [z,hn] at e;cases e)]
theorem Base.fZ(I:Base X own cells s){a:Addr}(hn:s.heap.get? a=none):cells a=none:=by
 cases q:cells a with
 | none=>rfl
 | some c=>have:=(I.cell a c q).1;rw [(I.fresh hn).1] at this;cases this
noncomputable def og (X:Cx) (A:Around) (target:Expr) (src:V) (items:List V) (cells:Cells):Prop :=
 ∀ own s v,Base X own cells s→RV own s.heap v src→wpAny (model X.prog X.w) A (pyIter v) (fun it s2=>∃ own' h' t,s2={s with heap:=h',toks:=t}∧(∀ b o,s.heap.get? b=some o→h'.get? b=some o)∧Base X own' cells s2 ∧
  (∀ b o,s.heap.get? b=some o→own' b=own b)∧Src X A target own' cells s.heap h' it items) dh s
theorem SrcAt.start{h₁ h₀ h:Heap}{target:Expr}{it:Value}{items:List V}{fp wr:List Addr}{St:Nat→Heap→Prop}{P:Nat→Heap→Heap→Value→Prop}(no:∀ b,h₁.get? b=none→h₀.get? b=none)(S:SrcAt X A target own cells h₁ h it items fp wr St P) :
  SrcAt X A target own cells h₀ h it items fp wr St P:=⟨S.d,S.st,fun b hb=>⟨no b (S.w b hb).1,(S.w b hb).2⟩,S.ex,S.f,S.p⟩
noncomputable abbrev KI (X:Cx) (A:Around) (target:Expr) (Φ:List V→Loc→Cells→Prop) (src:V) (l:Loc) (c:Cells):Prop:=∃ items,og X A target src items c∧Φ items l c
theorem bN{target iter:Expr}{Φ:List V→Loc→Cells→Prop}(h:mE X A env (eval iter env) (KI X A target Φ) loc cells):eC X A env target iter Φ loc cells:=by
 intro own s I
 refine h.use I fun aL cT a8 src v s1 I1 r1 x1 iC=>xDPP iC fun items hi hΦ=>?_
 refine wpAny_mono (hi aL s1 v I1.base r1) (fun it s2 gX=>jA gX fun own' h' t e keep B ho fp wr St P S=>?_) fun Z Z q=>q
 subst e
 have no:∀ b,s1.heap.get? b=none→s.heap.get? b=none:=fun b hb=>by
  cases q:s.heap.get? b with
  | none=>rfl
  | some o=>(refine ba (x1.there b o q) ?_;intro o' e);rw [hb] at e;cases e
 exact (eW own' cT a8 items (⟨B,I1.ok,I1.fr.grow keep ho⟩) (x1.trans (.grow keep ho)) ((nJ fp wr St P (S.start no))) hΦ)
theorem qV.ofWalks{target:Expr}{I:Addr}{fp wr:List Addr}{n:Nat}{P:Nat→Value→Prop}{St:Nat→Heap→Prop}(W:Walks X.prog X.w A I fp wr n P St)(ht:∀ v,letOwnedTupleGo target (.ref I) v=pure ()) :
  qV X A target (.ref I) fp wr n St (fun i Z Z v=>P i v) where
 sub:=W.sub
 frame:=W.frame
 item:=fun i s Q hi st k=>W.item i s _ _ hi st fun v h' tk pv FA keep=>⟨v,rfl,by rw [ht v];exact wpAny_pure (k v h' tk pv FA keep)⟩
 done:=fun s Q st k=>W.done s _ _ st fun h' tk keep=>⟨rfl,k h' tk keep⟩
 self:=fun i s Q st q=>W.self i s _ _ st q
theorem qV.oh{elts:List Expr}{k:Nat}{pos:Pos}{I:Addr}{fp wr:List Addr}{n:Nat}{Pt:Nat→Array Value→Prop}{St:Nat→Heap→Prop}{Jp:Nat→Addr→Heap→Prop}(W:WalksT X.prog X.w A I fp wr n Pt St Jp) :
  qV X A (.Tuple elts k pos) (.ref I) fp wr n St (fun i hp h v=>∃ T vals,v=.ref T∧Pt i vals∧h.IsTuple T vals∧hp.get? T=none) where
 sub:=W.sub
 frame:=W.frame
 item:=fun i s Q hi st q=>W.item i s _ _ hi st fun T vals h1 tk pt hT tup mid keep=>⟨.ref T,rfl,W.go elts k pos i T _ _ _ mid fun h2 Jq BM=>by
  refine q (.ref T) h2 tk ⟨T,vals,rfl,pt,?_,?_⟩ Jq fun b o hb e=>BM b o hb (keep b o hb e)
  ·(refine xDPP tup ?_;try clear tup;intro o e r)
   exact (iDPP o (BM T o (W.apart i T h1 mid) e) r)
  ·cases q:s.heap.get? T with
   | none=>rfl
   | some o=>exact absurd (Heap.lt_size q) (Nat.not_lt.mpr hT)⟩
 done:=fun s Q st k=>W.done s _ _ st fun h' tk keep=>⟨rfl,k h' tk keep⟩
 self:=fun i s Q st q=>W.self i s _ _ st q
theorem bZ{x:Str}{p:Pos}{xs:List V}(hh:A.handled=none):og X A (.Name x p) (.list xs) xs cells:=by
 intro own s v I r
 cases r with
 | list ho hn hz hi =>
  rename_i a d vs n sl
  have hl:s.heap.IsList a vs:=(bt _ ho rfl n rfl)
  have iD:a≠s.heap.objs.size:=fun z=>by rw [z,ao] at ho;cases ho
  have keep:∀ b o,s.heap.get? b=some o→(s.heap.push { cls:=.type "list_iterator",data:=.fields #[.ref a,.int 0 0]}).get? b=some o:=fun b o e=>Heap.get?_push_of_some _ e
  refine wpAny_pyIter_list hl (cI (cU own s.heap.objs.size) _ s.toks rfl keep (I.cU (ao _) (I.fZ (ao _)) keep (Heap.get?_push_size _ rfl)) (cC (ao _)) ([s.heap.objs.size,a]) ([s.heap.objs.size]) _ _
   ({ d:=hz▸qV.ofWalks (Walks.list hh s.heap.objs.size a iD vs) (fun Z=>rfl),st:=⟨(bq _ (Heap.get?_push_size _ rfl) rfl rfl),hl.push _⟩,w:=?_,ex:=?_,f:=?_,p:=?_}))
  ·intro b hb
   rw [List.mem_singleton.mp hb]
   exact ⟨ao _,by simp [cU],I.fZ (ao _)⟩
  ·(intro i h' aV;refine aK aV ?_;clear aV;intro bj bH;refine xDPP bj ?_;clear bj;intro o1 e1 Z;refine xDPP bH ?_;clear bH;intro o2 e2 Z;intro b hb)
   rcases List.mem_cons.mp hb with rfl | hb
   ·exact (bA o1 e1)
   ·rw [List.mem_singleton.mp hb];exact (bA o2 e2)
  ·intro b hb hw
   rcases List.mem_cons.mp hb with rfl | hb
   ·exact absurd (List.mem_singleton.mpr rfl) hw
   ·rw [List.mem_singleton.mp hb]
    exact (iDPP _ (keep _ _ ho) (.inl ⟨by rw [cC (ao _) _ _ ho];exact hn,.inl (qe (.inl rfl) _ _ rfl)⟩))
  ·exact fun i own' hp h' v x e1 e2 hr Z=>hr _ _ ((hi i v x e1 e2).grow keep (cC (ao _)))
theorem iO{x:Str}{p:Pos}{xs:List V}(hh:A.handled=none):og X A (.Name x p) (.tuple xs) xs cells:=by
 intro own s v I r
 cases r with
 | tuple ho hn hz hi =>
  rename_i a d vs n sl
  have hl:s.heap.IsTuple a vs:=(bt _ ho rfl n rfl)
  have iD:a≠s.heap.objs.size:=fun z=>by rw [z,ao] at ho;cases ho
  have keep:∀ b o,s.heap.get? b=some o→(s.heap.push { cls:=.type "tuple_iterator",data:=.fields #[.ref a,.int 0 0]}).get? b=some o:=fun b o e=>Heap.get?_push_of_some _ e
  refine wpAny_pyIter_tuple hl (cI (cU own s.heap.objs.size) _ s.toks rfl keep (I.cU (ao _) (I.fZ (ao _)) keep (Heap.get?_push_size _ rfl)) (cC (ao _)) ([s.heap.objs.size,a]) ([s.heap.objs.size]) _ _
   ({ d:=hz▸qV.ofWalks (Walks.tuple hh s.heap.objs.size a iD vs) (fun Z=>rfl),st:=⟨⟨_,Heap.get?_push_size _ rfl,rfl,rfl⟩,⟨_,keep _ _ ho,rfl,n,rfl⟩⟩,w:=?_,ex:=?_,f:=?_,p:=?_}))
  ·intro b hb
   rw [List.mem_singleton.mp hb]
   exact ⟨ao _,by simp [cU],I.fZ (ao _)⟩
  ·(intro i h' cw;refine aK cw ?_;clear cw;intro cR fu;refine xDPP cR ?_;clear cR;intro o1 e1 Z;refine xDPP fu ?_;clear fu;intro o2 e2 Z;intro b hb)
   rcases List.mem_cons.mp hb with rfl | hb
   ·exact (bA o1 e1)
   ·rw [List.mem_singleton.mp hb];exact (bA o2 e2)
  ·intro b hb hw
   rcases List.mem_cons.mp hb with rfl | hb
   ·exact absurd (List.mem_singleton.mpr rfl) hw
   ·rw [List.mem_singleton.mp hb]
    exact (iDPP _ (keep _ _ ho) (.inl ⟨by rw [cC (ao _) _ _ ho];exact hn,.inl (qe (.inr rfl) _ _ rfl)⟩))
  ·exact fun i own' hp h' v x e1 e2 hr Z=>hr _ _ ((hi i v x e1 e2).grow keep (cC (ao _)))
noncomputable def ck (a c:Int) (n:Nat):List V:=(List.range n).map fun (i:Nat)=>V.int (a+i * c)
theorem sI{x:Str}{p:Pos}{a b c:Int}(hh:A.handled=none)(yH:Builtin.Range.small a b c=true)(La:0≤Builtin.Range.rangeSize a b c) :
  og X A (.Name x p) (.sv a b c) (ck a c (Builtin.Range.rangeSize a b c).toNat) cells:=by
 intro own s v I r
 cases r with
 | sv ho hn =>
  rename_i r t u w
  have keep:∀ b' o,s.heap.get? b'=some o→(s.heap.push { cls:=.type "range_iterator",data:=.fields #[rawInt a,rawInt (Builtin.Range.rangeSize a b c),rawInt c]}).get? b'=some o:=fun b' o e=>Heap.get?_push_of_some _ e
  have W:=Walks.range (prog:=X.prog) (w:=X.w) hh s.heap.objs.size a c (Builtin.Range.rangeSize a b c).toNat
  have len:(ck a c (Builtin.Range.rangeSize a b c).toNat).length=(Builtin.Range.rangeSize a b c).toNat:=by simp [ck]
  refine wpAny_pyIter_range ho yH (cI (cU own s.heap.objs.size) _ s.toks rfl keep (I.cU (ao _) (I.fZ (ao _)) keep (Heap.get?_push_size _ rfl)) (cC (ao _)) ([s.heap.objs.size]) ([s.heap.objs.size]) _ _
   ({ d:=len.symm▸qV.ofWalks W (fun Z=>rfl),st:=?_,w:=?_,ex:=?_,f:=?_,p:=?_}))
  ·show IsRangeIter _ _ _ _ _
   have:((Builtin.Range.rangeSize a b c).toNat:Int) - ((0:Nat):Int)=Builtin.Range.rangeSize a b c:=by lia
   rw [len,this]
   have e2:a+((0:Nat):Int) * c=a:=by simp
   rw [e2]
   exact Heap.get?_push_size _ rfl
  ·intro b hb
   rw [List.mem_singleton.mp hb]
   exact ⟨ao _,by simp [cU],I.fZ (ao _)⟩
  ·rintro i h' e1 b hb
   rw [List.mem_singleton.mp hb]
   exact (bA _ e1)
  ·intro b hb hw
   exact absurd hb hw
  ·(intro i own' hp h' v x gp;refine ba gp ?_;clear gp;intro t nA;subst nA;intro e2 Z Z)
   simp only [ck,List.getElem?_map,Option.map_eq_some_iff] at e2
   (refine xDPP e2 ?_;try clear e2;intro j hj qo;subst qo)
   have:j=i:=by
    have:=List.getElem?_eq_some_iff.mp hj
    obtain ⟨_,q⟩:=this
    simpa using q.symm
   subst this
   exact .int _ _
end
section
variable {X:Cx}{A:Around}{env:Env}{loc:Loc}{cells:Cells}{own own':Own}{s:Shared}{h h':Heap}
theorem Base.grow{t:Nat}(I:Base X own cells s)(hk:∀ b o,s.heap.get? b=some o→h'.get? b=some o)(ho:∀ b o,s.heap.get? b=some o→own' b=own b)(hn:∀ b a,own' b=some a→∃ o,h'.get? b=some o) :
  Base X own' cells {s with heap:=h',toks:=t} :=
 have ex:∀ {b a},own b=some a→own' b=some a:=fun q=>ba (I.lt _ _ q) fun o e'=>(ho _ o e').trans q
 I.step (P:=fun Z=>False) (fun Z f=>f.elim) (fun b o Z=>hk b o) (fun b a e=>⟨by
   cases q:s.heap.get? b with
   | none=>exact (I.fresh q).2
   | some o=>exact I.new b a ((ho b o q).symm.trans e),hn b a e⟩)
  (fun a c e=>⟨ex (I.cell a c e).1,(I.cell a c e).2.mono (fun b o q e'=>⟨hk b o e',ex q⟩) (fun v x r=>r.grow hk ho) (I.cell a c e).1⟩)
  fun L hL=>(I.iz L hL).mono (fun o e=>hk L o e) fun o e n=>(ho L o e).trans n
theorem eM{wr:List Addr}(hw:∀ b∈wr,h.get? b=none):∀ b o,h.get? b=some o→pN own wr b=own b:=fun b o e=>by unfold pN;rw [if_neg (fun z=>by rw [hw b z] at e;cases e)]
theorem vN{wr:List Addr}(I:Base X own cells s)(hk:∀ b o,s.heap.get? b=some o→h'.get? b=some o)(h2:∀ b∈wr,∃ o,h'.get? b=some o):∀ b a,pN own wr b=some a→∃ o,h'.get? b=some o:=fun b a e=>by
 unfold pN at e
 split at e
 ·rename_i q;exact h2 b q
 ·(refine ba (I.lt b a e) ?_;intro o q);exact (bA o (hk b o q))
noncomputable def enumItems (xs:List V):List V:=xs.zipIdx.map fun (x,i)=>V.tuple [.int i,x]
noncomputable def zipItems (xs ys:List V):List V:=List.zipWith (fun x y=>V.tuple [x,y]) xs ys
theorem enumItems_get{xs:List V}{i:Nat}{x:V}(h:(enumItems xs)[i]?=some x):∃ y,xs[i]?=some y∧x=.tuple [.int i,y]:=by
 unfold enumItems at h
 rw [List.getElem?_map,List.getElem?_zipIdx,Option.map_map] at h
 exact xDPP (Option.map_eq_some_iff.mp h) fun y e q=>iDPP y e (q.symm.trans (congrArg (fun n:Nat=>V.tuple [.int n,y]) (Nat.zero_add i)))
theorem zipItems_get{xs ys:List V}{i:Nat}{x:V}(h:(zipItems xs ys)[i]?=some x):∃ y z,xs[i]?=some y∧ys[i]?=some z∧x=.tuple [y,z] :=
 xDDPPP (List.getElem?_zipWith_eq_some.mp h) fun y z a b c=>iDDPPP y z a b c.symm
theorem bP.pair{u v:Value}{x y:V}(hu:RV own h u x)(hv:RV own h v y):bP own h [u,v] [x,y]:=.cons hu (.cons hv .nil)
theorem q0{T:Addr}{u v:Value}{x y:V}(ht:h.IsTuple T #[u,v])(hn:own T=none)(hu:RV own h u x)(hv:RV own h v y):RV own h (.ref T) (.tuple [x,y]):=by
 obtain ⟨⟨c,d,dt,sl⟩,e,hc,n,hd⟩:=ht
 cases hc;cases hd
 exact .tuple e hn rfl fun i a b p q=>(bP.pair hu hv).2 i a b (List.getElem?_toArray.symm.trans p) q
theorem pO{aJ:Own}{F:Addr→Prop}{c c':Cells}{h₀:Heap}(x:Ext F aJ c h₀ own c' h){b:Addr}(hb:h.get? b=none):h₀.get? b=none:=by
 cases q:h₀.get? b with
 | none=>rfl
 | some o=>exact ba (x.there b o q) fun o' e=>nomatch hb.symm.trans e
theorem qV.len{target:Expr}{it:Value}{fp wr:List Addr}{n m:Nat}{St:Nat→Heap→Prop}{P:Nat→Heap→Heap→Value→Prop}(e:n=m)(d:qV X A target it fp wr n St P):qV X A target it fp wr m St P:=e▸d
theorem SrcAt.new{target:Expr}{it:Value}{items:List V}{fp wr:List Addr}{St:Nat→Heap→Prop}{P:Nat→Heap→Heap→Value→Prop}{aJ:Own}{F:Addr→Prop}{c:Cells}{h₀:Heap}(B:Base X own cells s)(x:Ext F aJ c h₀ own cells s.heap)(hw:∀ b∈wr,s.heap.get? b=none)(d:qV X A target it fp wr items.length St P)(st:St 0 h')(ex:∀ i h',St i h'→∀ b∈fp,∃ o,h'.get? b=some o)(f:∀ b∈fp,b ∉ wr→iB (pN own wr) cells h' b)(p:∀ i own' hp h2 v x,P i hp h2 v→items[i]?=some x→(∀ u y,RV (pN own wr) h' u y→RV own' h2 u y)→(∀ b,hp.get? b=none→own' b=none)→RV own' h2 v x):SrcAt X A target (pN own wr) cells h₀ h' it items fp wr St P :=
 ⟨d,st,fun b hb=>⟨pO x (hw b hb),if_pos hb,B.fZ (hw b hb)⟩,ex,f,p⟩
theorem oj{a:Addr}{T:String}{d:Option Addr}{vs:Array Value}{n:Nat}{sl:Array (Option Value)}{wr:List Addr}(e:h'.get? a=some ⟨.type T,d,.seq vs n,sl⟩)(hT:T="list"∨T="tuple")(hn:own a=none)(hw:a ∉ wr):iB (pN own wr) cells h' a :=
 iDPP _ e (.inl ⟨(if_neg hw).trans hn,.inl (qe (hT.imp (fun q=>congrArg _ q) fun q=>congrArg _ q) _ _ rfl)⟩)
theorem yI{e:Expr}{np pos tp:Pos}{f:Str}{elts:List Expr}{k:Nat}{Φ:List V→Loc→Cells→Prop}(hh:A.handled=none)(hk:env.kindOf f=some .globalImplicit)(hl:X.glob.lookup f=some (.ty "enumerate"))(h:mE X A env (eval e env) (fun v l c=>∃ xs,v=.list xs∧Φ (enumItems xs) l c) loc cells)(he:autoParam (starEach [e] env=[(false,eval e env)]) aR)(hd:autoParam ((f == ("__debug__":Str))=false) aDK):eC X A env (.Tuple elts k tp) (.Call (.Name f np) [e] [] pos) Φ loc cells:=by
 intro own s I
 refine wpAny_Call_NameR (uv I hk hl (fun v1 r1=>r1.HQ ?_) hd)
 refine PyProof.Rows.callWith_type1 (rest:=[]) ?_ he rfl
 refine (af (rest:=[]) (Ψ:=fun as l c=>∃ xs,as=[V.list xs]∧Φ (enumItems xs) l c) (h.mono fun a l c z=>xDPP z fun xs q1 q2=>a_nil (iDPP xs (congrArg (fun z=>[z]) q1) q2)) he).use I fun aI bc bx as vs s2 I2 r2 x2 h2=>?_
 refine xDPP h2 ?_;intro xs ea hΦ;cases ea
 refine r2.e1 fun v rv=>rv.yv fun a d items n sl ho hn hz hi=>?_
 have hL:s2.heap.IsList a items:=(bt _ ho rfl n rfl)
 have lt:a<s2.heap.objs.size:=Heap.lt_size ho
 refine call_enumerate_list hL fun h3 e1 e2 Gb keep=>?_
 refine wpAny_pyIter_enum e1 ?_
 have hw:∀ b∈[s2.heap.objs.size+1,s2.heap.objs.size],s2.heap.get? b=none:=bb (dU (Nat.le_succ _)) (iH (ao _))
 have hx:∀ b∈[s2.heap.objs.size+1,s2.heap.objs.size],∃ o,h3.get? b=some o:=bb (bA _ e1) (iH (xDPP e2 fun o q Z=>bA o q))
 have n1:(s2.heap.objs.size+1:Nat)≠s2.heap.objs.size:=Nat.succ_ne_self _
 have n2:(a:Nat)≠s2.heap.objs.size+1:=Nat.ne_of_lt (Nat.lt_succ_of_lt lt)
 have n3:(a:Nat)≠s2.heap.objs.size:=Nat.ne_of_lt lt
 have len:items.size=(enumItems xs).length:=by unfold enumItems;rw [List.length_map,List.length_zipIdx];exact hz
 have na:a ∉ [s2.heap.objs.size+1,s2.heap.objs.size]:=fun q=>nomatch (hw a q).symm.trans ho
 refine eW (pN aI [s2.heap.objs.size+1,s2.heap.objs.size]) bc bx (enumItems xs) (⟨I2.base.grow keep (eM hw) (vN I2.base keep hx),I2.ok,I2.fr.grow keep (eM hw)⟩) (x2.trans (.grow keep (eM hw))) (nJ _ _ _ _
  (.new I2.base x2 hw (qV.len len (qV.oh (WalksT.enumerate (prog:=X.prog) (w:=X.w) hh (s2.heap.objs.size+1) s2.heap.objs.size a n1 n2 n3 items))) ⟨bA _ e1,e2,hL.extBut (b:=s2.heap.objs.size) (fun b o Z q=>keep b o q) n3⟩
   (fun i h' q=>aP q fun q1 q2 q3=>bb (ba q1 fun Z e=>bA _ e) (bb (xDPP q2 fun o e Z=>bA o e) (iH (xDPP q3 fun o e Z=>bA o e))))
   (bb (fun n=>(n HP).elim) (bb (fun n=>(n in1).elim) (iH fun n=>oj (keep _ _ ho) (.inl rfl) hn na)))
   fun i own' hp h' v x q Gd hr yn=>?_)) hΦ
 refine bQ q ?_;intro T vals ev q tup fr
 refine dx q ?_;intro t y p1 ex
 cases ev;cases ex
 exact xDPP (enumItems_get Gd) fun z q1 q2=>q2▸q0 tup (yn T fr) (.int _ _) (hr _ _ ((hi i y z p1 q1).grow keep (eM hw)))
theorem w3{N a b:Nat}(ha:a<N)(hb:b<N):ZipApart (N+4) (N+2) (N+3) N (N+1) a b :=
 have l:∀ {c k:Nat},c<N→c≠N+k:=fun h e=>Nat.not_lt.mpr (Nat.le_add_right _ _) (e▸h)
 have n:∀ {j k:Nat},j≠k→N+j≠N+k:=fun h e=>h (Nat.add_left_cancel e)
 ⟨n (j:=2) (k:=4) (by decide),n (j:=3) (k:=4) (by decide),n (j:=0) (k:=4) (by decide),n (j:=1) (k:=4) (by decide),n (j:=2) (k:=3) (by decide),n (j:=2) (k:=0) (by decide),n (j:=2) (k:=1) (by decide),n (j:=3) (k:=0) (by decide),n (j:=3) (k:=1) (by decide),n (j:=0) (k:=1) (by decide),
  l (k:=4) ha,l (k:=3) ha,l (k:=0) ha,l (k:=1) ha,l (k:=4) hb,l (k:=3) hb,l (k:=0) hb,l (k:=1) hb⟩
theorem BN{e e2:Expr}{np pos tp:Pos}{f:Str}{elts:List Expr}{k:Nat}{Φ:List V→Loc→Cells→Prop}(hh:A.handled=none)(hk:env.kindOf f=some .globalImplicit)(hl:X.glob.lookup f=some (.ty "zip"))(h:mE X A env (eval e env) (fun v l c=>∃ xs,v=.list xs∧mE X A env (eval e2 env) (fun v l c=>∃ ys,v=.list ys∧Φ (zipItems xs ys) l c) l c) loc cells)(he:autoParam (starEach [e,e2] env=(false,eval e env)::starEach [e2] env) aR)(HU:autoParam (starEach [e2] env=[(false,eval e2 env)]) aR)(hd:autoParam ((f == ("__debug__":Str))=false) aDK) :
  eC X A env (.Tuple elts k tp) (.Call (.Name f np) [e,e2] [] pos) Φ loc cells:=by
 intro own s I
 refine wpAny_Call_NameR (uv I hk hl (fun v1 r1=>r1.HQ ?_) hd)
 refine PyProof.Rows.callWith_type1 (rest:=[e2]) ?_ he (by rw [HU];rfl)
 refine (af (rest:=[e2]) (Ψ:=fun as l c=>∃ xs ys,as=[V.list xs,V.list ys]∧Φ (zipItems xs ys) l c) (h.mono fun a l c z=>xDPP z fun xs q1 q2=>af (rest:=[]) (q2.mono fun b l c z=>xDPP z fun ys q3 q4=>a_nil (eB xs ys (by rw [q1,q3]) q4)) HU) he).use I fun aI bc bx as vs s2 I2 r2 x2 h2=>?_
 refine dx h2 ?_;intro xs ys ea hΦ;cases ea
 refine r2.e2 fun v u rv ru=>rv.yv fun a d items n sl ho hn hz hi=>ru.yv fun a' d' uz n' Lb ko HV AI Ge=>?_
 have hL:s2.heap.IsList a items:=(bt _ ho rfl n rfl)
 have HW:s2.heap.IsList a' uz:=(bt _ ko rfl n' rfl)
 have lt:a<s2.heap.objs.size:=Heap.lt_size ho
 have lt':a'<s2.heap.objs.size:=Heap.lt_size ko
 refine call_zip_2 hL HW fun h3 e1 e2 e3 e4 e5 Gb keep=>?_
 refine wpAny_pyIter_zip e1 ?_
 have fr:∀ b,s2.heap.objs.size≤b→s2.heap.get? b=none:=fun b hb=>dU hb
 generalize s2.heap.objs.size=N at e1 e2 e3 e4 e5 lt lt' fr ⊢
 have hw:∀ b∈[N+4,N+3,N,N+1],s2.heap.get? b=none:=bb (fr _ (Nat.le_add_right _ _)) (bb (fr _ (Nat.le_add_right _ _)) (bb (fr _ (Nat.le_refl _)) (iH (fr _ (Nat.le_add_right _ _)))))
 have hx:∀ b∈[N+4,N+3,N,N+1],∃ o,h3.get? b=some o:=bb (bA _ e1) (bb (bA _ e3) (bb (xDPP e4 fun o q Z=>bA o q) (iH (xDPP e5 fun o q Z=>bA o q))))
 have len:min items.size uz.size=(zipItems xs ys).length:=by unfold zipItems;rw [List.length_zipWith,hz,AI]
 have na:a ∉ [N+4,N+3,N,N+1]:=fun q=>nomatch (hw a q).symm.trans ho
 have Jr:a' ∉ [N+4,N+3,N,N+1]:=fun q=>nomatch (hw a' q).symm.trans ko
 have nN:N+2 ∉ [N+4,N+3,N,N+1]:=fun q=>by simp at q
 refine eW (pN aI [N+4,N+3,N,N+1]) bc bx (zipItems xs ys) (⟨I2.base.grow keep (eM hw) (vN I2.base keep hx),I2.ok,I2.fr.grow keep (eM hw)⟩) (x2.trans (.grow keep (eM hw))) (nJ _ _ _ _
  (.new I2.base x2 hw (qV.len len (qV.oh (WalksT.zip2 (prog:=X.prog) (w:=X.w) hh (N+4) (N+2) (N+3) N (N+1) a a' (w3 lt lt') items uz)))
   ⟨e1,e2,fV _ _ e3,e4,e5,hL.extBut (b:=N) (fun b o Z q=>keep b o q) (Nat.ne_of_lt lt),HW.extBut (b:=N) (fun b o Z q=>keep b o q) (Nat.ne_of_lt lt')⟩
   (fun i h' q=>?_) (bb (fun n=>(n HP).elim) (bb (fun Z=>iDPP _ e2 (.inl ⟨(if_neg nN).trans (I2.base.fresh (fr _ (Nat.le_add_right _ _))).1,.inl (qe (.inr rfl) _ _ rfl)⟩)) (bb (fun n=>(n in1).elim) (bb (fun n=>(n I8).elim) (bb (fun n=>(n I9).elim)
    (bb (fun n=>oj (keep _ _ ho) (.inl rfl) hn na) (iH fun n=>oj (keep _ _ ko) (.inl rfl) HV Jr)))))))
   fun i own' hp h' v x q Gd hr yn=>?_)) hΦ
 ·obtain ⟨q1,q2,⟨_,_,q3⟩,⟨o4,q4,_⟩,⟨o5,q5,_⟩,⟨o6,q6,_⟩,⟨o7,q7,_⟩⟩:=q
  exact bb (bA _ q1) (bb (bA _ q2) (bb (bA _ q3) (bb (bA _ q4) (bb (bA _ q5) (bb (bA _ q6) (iH (bA _ q7)))))))
 ·refine bQ q ?_;intro T vals ev q tup Js
  refine xDDPPP q ?_;intro y z p1 p2 ex
  cases ev;cases ex
  exact xDDPPP (zipItems_get Gd) fun y' z' q1 q2 q3=>q3▸q0 tup (yn T Js) (hr _ _ ((hi i y y' p1 q1).grow keep (eM hw))) (hr _ _ ((Ge i z z' p2 q2).grow keep (eM hw)))
end
section
variable {X:Cx}{A:Around}{env:Env}{loc:Loc}{cells c:Cells}{own own':Own}{s:Shared}{h h':Heap}
theorem ag(cells:Cells)(a:Addr)(c:Option Cell):upd cells a c a=c:=by simp [upd]
theorem ae{cells:Cells}{a b:Addr}(c:Option Cell)(h:b≠a):upd cells a c b=cells b:=by simp [upd,h]
theorem Base.cellSet{a:Addr}{c':Cell}{t:Nat}(I:Base X own cells s)(uA:∀ b o,s.heap.get? b=some o→own' b=own b)(Gf:∀ b d,own' b=some d→own b≠some d→X.h₀.get? b=none∧∃ o,h'.get? b=some o)(hs:∀ b o,own b≠some a→s.heap.get? b=some o→h'.get? b=some o)(Ed:∀ b o,s.heap.get? b=some o→∃ o',h'.get? b=some o')(ha:own' a=some a)(hc:bT X.prog X.w own' h' a c') :
  Base X own' (upd cells a (some c')) {s with heap:=h',toks:=t}:=by
 have rv:∀ v x,RV own s.heap v x→RV own' h' v x:=fun v x r=>r.mono (fun b o e q Z=>hs b o (fun z=>nomatch q.symm.trans z) e) fun b o e q=>(uA b o e).trans q
 refine I.step (P:=fun b=>own b=some a) (fun b p=>I.new b a p) hs (fun b d e=>?_) (fun d c e=>?_) fun L hL=>(I.iz L hL).mono (fun o e=>hs L o (fun z=>nomatch z.symm.trans (I.iz L hL).1) e) fun o e n=>(uA L o e).trans n
 ·by_cases q:own b=some d
  ·exact ⟨I.new b d q,ba (I.lt b d q) fun o q=>Ed b o q⟩
  ·exact Gf b d e q
 ·by_cases q:d=a
  ·subst q;rw [ag] at e;cases e;exact ⟨ha,hc⟩
  ·rw [ae _ q] at e
   exact aK (I.cell d c e) fun q1 q2=>ba (I.lt d d q1) fun o eo=>⟨(uA d o eo).trans q1,q2.mono (fun b o p e'=>⟨hs b o (fun z=>q (Option.some.inj (p.symm.trans z))) e',(uA b o e').trans p⟩) rv q1⟩
noncomputable def Cell.live:Cell→Bool
 | .c9 _=>false
 | _=>true
theorem Cell.dn{a:Addr}{c:Cell}(h:cells a=some c)(hl:c.live=true):¬ Still cells a:=by
 rintro (q | ⟨es,q⟩)
 ·rw [h] at q;cases q
 ·rw [h] at q;cases q;cases hl
theorem cL{F:Addr→Prop}{a:Addr}{c':Cell}(uA:∀ b o,s.heap.get? b=some o→own' b=own b)(hs:∀ b o,own b≠some a→s.heap.get? b=some o→h'.get? b=some o)(Ed:∀ b o,s.heap.get? b=some o→∃ o',h'.get? b=some o')(BO:¬ Still cells a∨s.heap.get? a=none) :
  Ext F own cells s.heap own' (upd cells a (some c')) h' where
 keep:=fun b o e q Z Z=>⟨o,hs b o (by rw [q];simp) e,.refl o⟩
 cx:=fun b o e q=>by rw [uA b o e];exact q
 there:=Ed
 fw:=fun b d o e q gp=>aK gp fun w z=>by
  subst z
  have:d≠a:=by
   rintro rfl
   rcases BO with n | n
   ·exact n w
   ·rw [n] at e;cases e
  exact (aO (hs d o (by rw [q];simpa using this) e) (by rw [uA d o e];exact q) (ae _ this) rfl)
theorem Base.kA{a:Addr}{c c':Cell}{t:Nat}(I:Base X own cells s)(BO:cells a=some c)(hs:∀ b o,b≠a→s.heap.get? b=some o→h'.get? b=some o)(Ed:∃ o,h'.get? a=some o)(hc:bT X.prog X.w own h' a c')(Jt:autoParam (c.live=true) aR) :
  Base X own (upd cells a (some c')) {s with heap:=h',toks:=t}∧Ext qR own cells s.heap own (upd cells a (some c')) h':=by
 have oa:=(I.cell a c BO).1
 have k:∀ b o,own b≠some a→s.heap.get? b=some o→h'.get? b=some o:=fun b o n e=>hs b o (fun z=>n (z▸oa)) e
 have th:∀ b o,s.heap.get? b=some o→∃ o',h'.get? b=some o':=fun b o e=>by
  by_cases q:b=a
  ·exact q▸Ed
  ·exact (bA o (hs b o q e))
 exact ⟨I.cellSet (fun Z Z Z=>rfl) (fun b d e n=>(n e).elim) k th oa hc,cL (fun Z Z Z=>rfl) k th (.inl (Cell.dn BO Jt))⟩
theorem iP{a:Addr}{c:Cell}(I:Base X own cells s)(BO:cells a=some c)(hs:∀ b o,b≠a→s.heap.get? b=some o→h'.get? b=some o){v:Value}{x:V}(r:RV own s.heap v x):RV own h' v x :=
 r.mono (fun b o e q Z=>hs b o (fun z=>by rw [z,(I.cell a c BO).1] at q;cases q) e) fun Z Z Z e=>e
theorem Base.jh{c':Cell}{ob:Obj}{t:Nat}(I:Base X own cells s)(hf:ob.isFreed=false)(hc:bT X.prog X.w (Mp.cU own s.heap.objs.size) (s.heap.push ob) s.heap.objs.size c') :
  Base X (Mp.cU own s.heap.objs.size) (upd cells s.heap.objs.size (some c')) {s with heap:=s.heap.push ob,toks:=t}∧Ext qR own cells s.heap (Mp.cU own s.heap.objs.size) (upd cells s.heap.objs.size (some c')) (s.heap.push ob)∧cells s.heap.objs.size=none:=by
 have e0:=ao s.heap
 have nn:∀ b o,s.heap.get? b=some o→Mp.cU own s.heap.objs.size b=own b:=fun b o e=>by unfold Mp.cU;rw [if_neg (fun z=>by rw [z,e0] at e;cases e)]
 have k:∀ b o,own b≠some s.heap.objs.size→s.heap.get? b=some o→(s.heap.push ob).get? b=some o:=fun b o Z e=>Heap.get?_push_of_some _ e
 have th:∀ b o,s.heap.get? b=some o→∃ o',(s.heap.push ob).get? b=some o':=fun b o e=>(bA o (Heap.get?_push_of_some _ e))
 refine ⟨I.cellSet nn (fun b d e n=>?_) k th (by simp [Mp.cU]) hc,cL nn k th (.inr e0),?_⟩
 ·unfold Mp.cU at e
  split at e
  ·rename_i q;exact (iPDP ((I.fresh (q▸e0)).2) _ (q▸Heap.get?_push_size _ hf))
  ·exact (n e).elim
 ·cases q:cells s.heap.objs.size with
  | none=>rfl
  | some c=>have:=(I.cell _ c q).1;rw [(I.fresh e0).1] at this;cases this
theorem b8(cells:Cells)(a:Addr)(x y:Option Cell):upd (upd cells a x) a y=upd cells a y:=by
 funext b;unfold upd;split <;> rfl
theorem dZ{cells:Cells}{a:Addr}(h:cells a=none):upd cells a none=cells:=by
 funext b;unfold upd;split
 ·rename_i q;rw [q,h]
 ·rfl
theorem kB{a:Addr}{k:Cell}(h:c a=some k):upd (upd c a none) a (some k)=c:=by
 funext b;unfold upd;split
 ·rename_i q;rw [q,h]
 ·rfl
theorem Base.fA{a:Addr}{o:Option Cell}(I:Base X own c s)(h:∀ x,o=some x→own a=some a∧bT X.prog X.w own s.heap a x):Base X own (upd c a o) s :=
 ⟨I.old,I.hg,I.hb,I.nolimit,I.gens,I.os,I.new,I.lt,fun d x e=>by
  by_cases q:d=a
  ·subst q;rw [ag] at e;exact h x e
  ·rw [ae _ q] at e;exact I.cell d x e,I.iz⟩
theorem gY{F:Addr→Prop}{a:Addr}{x:Cell}{o:Option Cell}(hc:c a=some x)(hl:x.live=true):Ext F own c h own (upd c a o) h :=
 ⟨fun b o e Z Z Z=>⟨o,e,.refl o⟩,fun Z Z Z e=>e,fun b o e=>⟨o,e⟩,fun b d o e q CA=>aK CA fun w z=>(aO e q (ae _ (by subst z;rintro rfl;exact Cell.dn hc hl w)) z)⟩
theorem RV.jR{h:Heap}{a d vs n sl}{xs:List V}(ho:h.get? a=some ⟨.type "list",d,.seq vs n,sl⟩)(hn:own a=none)(r:bP own h vs.toList xs):RV own h (.ref a) (.list xs) :=
 .list ho hn (by simpa using r.1) fun i v x p q=>r.2 i v x (by simpa using p) q
theorem Base.freeze{a:Addr}{xs:List V}(I:Base X own c s)(hc:c a=some (.list xs)):∃ own',Base X own' (upd c a none) s∧RV own' s.heap (.ref a) (.list xs)∧Ext qR own c s.heap own' (upd c a none) s.heap∧(∀ v x,RV own s.heap v x→RV own' s.heap v x)∧∀ b,b≠a→own' b=own b:=by
 (refine eu (I.cell a _ hc) ?_;intro oa vs n e rs)
 have Gg:∀ v x,RV own s.heap v x→RV (Mp.disown own a) s.heap v x:=fun v x r=>wX r
 refine (qL (Mp.disown own a) ((I.fA (o:=none) fun x e=>(nomatch e)).disown oa (ag _ _ _) fun v x r=>Gg v x r) ?_ (⟨fun b o e Z Z Z=>⟨o,e,.refl o⟩,fun b o Z q=>by unfold Mp.disown;split <;> simp_all,fun b o e=>⟨o,e⟩,fun b d o e q CB=>aK CB fun w z=>?_⟩) Gg (fun b hb=>by simp [Mp.disown,hb]))
 ·exact .jR e (by simp [Mp.disown]) (rs.mono Gg)
 ·subst z
  have:d≠a:=by rintro rfl;exact Cell.dn hc rfl w
  exact (aO e (by unfold Mp.disown;rw [if_neg this];exact q) (ae _ this) rfl)
theorem Inv.freeze{a:Addr}{xs:List V}(I:Inv X env own loc c s)(hc:c a=some (.list xs)):∃ own',Inv X env own' loc (upd c a none) s∧RV own' s.heap (.ref a) (.list xs)∧Ext (Fa env) own c s.heap own' (upd c a none) s.heap∧∀ v x,RV own s.heap v x→RV own' s.heap v x :=
 gT (I.base.freeze hc) fun own' B r x rv Z=>iG own' ⟨B,I.ok,I.fr.ext x⟩ r x.gI rv
theorem eg.freeze{α β:Type}{R:Own→Heap→α→β→Prop}{t:Sem α}{Ψ:β→Loc→Cells→Prop}{x:Str}{a:Addr}{xs:List V}(hl:loc.lookup x=some (.ref a))(hc:cells a=some (.list xs))(H:eg X A env R t Ψ ((x,.list xs)::loc) (upd cells a none)) :
  eg X A env R t Ψ loc cells:=fun own s I=>by
 (refine um (I.freeze hc) ?_;intro own' I' r e rv)
 have F:aQ X.h₀ env own' s.heap ((x,.list xs)::loc):=⟨I'.fr.ns,I'.fr.cX,I'.fr.dK,I'.fr.iA,I'.fr.inj,fun y mv q=>by
  rw [lookup_cons] at q
  by_cases z:(y == x)=true
  ·rw [if_pos z] at q;cases q
   have:y=x:=eq_of_beq z
   subst this
   exact (I.fr.var y _ hl).mono (fun Z q=>q) (fun Z Z Z Z q=>q) fun v q=>by cases q;exact r
  ·rw [if_neg z] at q
   exact I'.fr.var y mv q⟩
 exact eg.use H ⟨I'.base,I'.ok,F⟩ fun aI l2 c2 b v s2 I2 r2 x2 h2=>⟨aI,l2,c2,b,I2,r2,e.trans x2,h2⟩
theorem w5{own:Own}{s:Shared}{v:Value}{a:Addr}{xs:List V}{loc:Loc}{cells:Cells}{Ψ:V→Loc→Cells→Prop}(I:Inv X env own loc cells s)(r:RV own s.heap v (.ref a))(hc:cells a=some (.list xs))(h:Ψ (.list xs) loc (upd cells a none)) :
  gJ X env RV own cells s.heap Ψ v s:=by
 (refine um (I.freeze hc) ?_;intro own' I' r' e rv)
 refine RV.e0 r rfl ?_
 exact ⟨own',loc,_,_,I',r',e,h⟩
theorem kC{t:Sem Value}{Ψ:V→Loc→Cells→Prop}{a:Addr}{xs:List V}(H:mE X A env t (fun v l c=>v=.ref a∧c a=some (.list xs)∧Ψ (.list xs) l (upd c a none)) loc cells):mE X A env t Ψ loc cells:=fun own s I =>
 H.use I fun aL l1 c1 b v s1 I1 r1 x1 ⟨e,hc,h⟩=>by
  subst e
  obtain ⟨aI,l2,c2,b2,I2,r2,x2,h2⟩:=w5 I1 r1 hc h
  exact ⟨aI,l2,c2,b2,I2,r2,x1.trans x2,h2⟩
end
section
variable {X:Cx}{A:Around}{env:Env}{loc:Loc}{cells:Cells}{own:Own}{s:Shared}
theorem q8{scope:Scope}{cl:List (Str×Addr)}{Q:Env→Shared→Prop}{E:Value→Shared→Prop}(h:Q { (compEnv scope env s.heap.objs.size (cellsFrom (s.heap.objs.size+1) scope.names cl)) with scope:=scope} {s with heap:=pushCells (s.heap.push { cls:=.type "dict",data:=.dict #[]}) scope.names}) :
  wpAny (model X.prog X.w) A (newFunctionEnv scope env.globals cl [] env.qual none .none (some env)) Q E s:=by
 simp only [newFunctionEnv,Option.isSome_some,if_true]
 refine wpAny_bind (wpAny_alloc ?_)
 refine wpAny_bind (wpAny_layCells _ (fun name kind cells=>by cases Ju:kind == NameKind.cell <;> simp [Ju]) _ _ _ _ ?_)
 rw [show ({s with heap:=s.heap.push { cls:=.type "dict",data:=.dict #[]}}:Shared).heap.objs.size=s.heap.objs.size+1 from Heap.size_push ..]
 simp only [List.forIn_nil]
 exact wpAny_bind (wpAny_pure (wpAny_pure h))
theorem q9{prog:Program}{w:World}{A:Around}{E:Value→Shared→Prop}{s:Shared}{l:Addr}{its:Array Value}{n:Nat}{x:Value}{Q:Value→Shared→Prop}(ho:s.heap.get? l=some ⟨.type "list",none,.seq its n,#[]⟩)(hQ:∀ h',h'.get? l=some ⟨.type "list",none,.seq (its.push x) (n+1),#[]⟩→Heap.SameBut l s.heap h'→Q .none {s with heap:=h'})(sJ:its.size≤sizeLine) :
  wpAny (model prog w) A (call (.builtin "list.append") [.ref l,x]) Q E s:=by
 have ko:s.heap.get? l=some (seqObj "list" its n):=ho
 refine wpAny_call_entry slot_list_append (iDPP _ ho rfl) entry_list_append ?_ (args_list_append _ _)
 show wpAny _ _ (updateSeq l (·.push x) >>= fun Z=>ret .none) _ _ s
 refine wpAny_bind ?_
 refine wpAny_updateSeq ho rfl (wpAny_pure (iDPP .none rfl (hQ _ ?_ (Heap.SameBut.update ..))))
 rw [get?_update_seq ko (·.push x)]
 have:((its.push x).size == its.size)=false:=by simp
 rw [this];rfl
theorem iQ{α:Type}{M:Model}{v:α}{Q:α→Shared→Prop}{β:Type}{t:Sem β}{P:β→Shared→Prop}{E:Value→Shared→Prop}(h:wpAny M A (pure v) Q E s)(k:Q v s→wpAny M A t P E s):wpAny M A t P E s :=
 fun Γ p hΓ=>k (h Γ p hΓ) Γ p hΓ
structure oo(scope:Scope)(env:Env)(L:Addr)(cs:List (Str×Addr))(h:Heap):Prop where
 fresh:h.get? L=none
 iA:∀ y b,bg ((compEnv scope env L cs).kindOf y)→cs.lookup y=some b→h.get? b=none∨((y,NameKind.free)∈scope.names∧env.cells.lookup y=some b)
theorem uB{scope:Scope}{cl:List (Str×Addr)}{P:Env→Shared→Prop}(C:bB scope env)(I:Inv X env own loc cells s)(ku:∀ x c,(x,c)∈cl↔((x,NameKind.free)∈scope.names∧env.cells.lookup x=some c))(h:∀ L cs h4,(∀ b o,s.heap.get? b=some o→h4.get? b=some o)→oo scope env L cs s.heap→Inv X (compEnv scope env L cs) own (c8 scope loc) cells {s with heap:=h4}→P (compEnv scope env L cs) {s with heap:=h4}) :
  wpAny (model X.prog X.w) A (newFunctionEnv scope env.globals cl [] env.qual none .none (some env)) (fun dG s4=>P { dG with scope:=relabel scope env} s4) dh s:=by
 refine q8 (h _ _ _ (fun b o e=>pushCells_keeps _ _ _ _ (Heap.get?_push_of_some _ e)) ⟨ao _,fun y b hk hl=>?_⟩ (yE (t:=s.toks) C I ku))
 refine aP (nY (h1:=s.heap.push { cls:=.type "dict",data:=.dict #[]}) C I ku (by rw [Heap.size_push];exact Nat.le_add_right s.heap.objs.size 1)) ?_;intro HX HY Lc
 rw [Heap.size_push] at HX HY
 rcases nZ I.ok.kind hk with q | q
 ·exact fj (HX y q) fun c l z Z=>.inl (Option.some.inj (l.symm.trans hl)▸dU (Nat.le_of_succ_le z))
 ·exact xDPP (HY y q) fun c l l'=>.inr ⟨q,Option.some.inj (l.symm.trans hl)▸l'⟩
section
variable {scope:Scope}{L:Addr}{cs:List (Str×Addr)}{own' aJ:Own}{c' aN:Cells}{l':Loc}{s':Shared}{h₀ hx:Heap}
theorem oo.fa(cf:oo scope env L cs s.heap)(C:bB scope env)(ek:env.scope.kind=.function){b:Addr}{o:Obj}(e:s.heap.get? b=some o)(f:Fa (compEnv scope env L cs) b) :
  ∃ y,(compEnv scope env L cs).kindOf y=some .cell∧cs.lookup y=some b∧(y,NameKind.free)∈scope.names∧env.cells.lookup y=some b∧env.kindOf y=some .cell:=by
 rcases f with rfl | ⟨y,hk,hl⟩
 ·exact nomatch cf.fresh.symm.trans e
 ·rcases cf.iA y b (.inl hk) hl with z | ⟨z,l⟩
  ·exact nomatch z.symm.trans e
  ·refine qL y hk hl z l ?_
   by_cases q:env.kindOf y=some .cell
   ·exact q
   ·have k2:=eK (env:=env) (scope:=scope) (L:=L) (cs:=cs) (x:=y) ek
    rw [hk,C.lookup.mpr z] at k2
    exact nomatch k2.trans (if_neg q)
theorem yJ(C:bB scope env)(ek:env.scope.kind=.function)(cf:oo scope env L cs s.heap)(x₀:Ext (Fa env) aJ aN h₀ own cells s.heap)(hw:∀ b o o',h₀.get? b=some o→s.heap.get? b=some o'→hx.get? b=some o')(x:Ext (Fa (compEnv scope env L cs)) own cells hx own' c' s'.heap):Ext (Fa env) aJ aN h₀ own' c' s'.heap where
 keep:=fun b o e n f t=>xDPP (x₀.keep b o e n f t) fun o1 e1 k1=>xDPP (x.keep b o1 (hw b o o1 e e1) (x₀.cx b o e n) (fun g=>gT (cf.fa C ek e1 g) fun y Z Z Z l q=>f (.inr (iDPP y q l))) (k1.tab t)) fun o2 e2 k2=>iDPP o2 e2 (k1.trans k2)
 cx:=fun b o e n=>ba (x₀.there b o e) fun o1 e1=>x.cx b o1 (hw b o o1 e e1) (x₀.cx b o e n)
 there:=fun b o e=>ba (x₀.there b o e) fun o1 e1=>x.there b o1 (hw b o o1 e e1)
 fw:=fun b q o e z w=>bM (x₀.fw b q o e z w) fun p1 p2 p3 p4=>bM (x.fw b q o (hw b o o e p1) p2 ⟨w.1.of p3,p4⟩) fun q1 q2 q3 q4=>aO q1 q2 (q3.trans p3) q4
theorem uC(C:bB scope env)(I:Inv X env own loc cells s)(cf:oo scope env L cs s.heap)(hw:∀ b o,s.heap.get? b=some o→own b=none→hx.get? b=some o)(I':Inv X (compEnv scope env L cs) own' l' c' s')(hs:∀ y mv,(c8 scope loc).lookup y=some mv→l'.lookup y=some mv)(x:Ext (Fa (compEnv scope env L cs)) own cells hx own' c' s'.heap):Inv X env own' loc c' s':=by
 have kp:∀ b o,s.heap.get? b=some o→own b=none→¬ Fa (compEnv scope env L cs) b→¬ Tab o→∃ o',s'.heap.get? b=some o'∧pI o o':=fun b o e n=>x.keep b o (hw b o e n) n
 have HZ:∀ y b o,(y,NameKind.free)∈scope.names→env.cells.lookup y=some b→s.heap.get? b=some o→∃ v,o.data=.cell v:=fun y b o z l e=>xDDPPP (I.fr.iA y (C.isFree z)) fun c v l' zq Z=>xDPP zq fun o' e' d=>by
  cases Option.some.inj (l'.symm.trans l);cases Option.some.inj (e'.symm.trans e);exact bA v d
 have Jv:∀ b o,Fa (compEnv scope env L cs) b→s.heap.get? b=some o→pH o→False:=fun b o f e z=>gT (cf.fa C I.ok.kind e f) fun y Z Z z' l Z=>ba (HZ y b o z' l e) fun v d=>kl d z
 have rv:∀ {v y},RV own s.heap v y→RV own' s'.heap v y:=fun r=>r.mono (fun b o e n z=>xDPP (kp b o e n (fun f=>Jv b o f e z) (iJ z.cls.2)) fun o' e' lk=>lk.2.2 z.nodict▸e') fun b o e n=>x.cx b o (hw b o e n) n
 have H0:∀ m,s.heap.Ns env.locals m→s'.heap.Ns env.locals m:=fun m zq=>dS zq fun o es ep e d r =>
  xDPP (kp _ o e I.fr.cX (fun f=>gT (cf.fa C I.ok.kind e f) fun y Z Z z l Z=>ba (HZ y _ o z l e) fun v d'=>nomatch d.symm.trans d') (gU d)) fun o' e' lk=>iDDDPPP o' es ep e' (lk.2.1.trans d) r
 have cell:∀ y b v P,bg (env.kindOf y)→env.cells.lookup y=some b→s.heap.IsCell b v→own b=none→(¬ Fa (compEnv scope env L cs) b→s'.heap.IsCell b v→P)→((compEnv scope env L cs).kindOf y=some .cell→(y,NameKind.free)∈scope.names→cs.lookup y=some b→P)→P:=fun y b v P k l zq n h1 h2=>xDPP zq fun o e d=>by
  by_cases f:Fa (compEnv scope env L cs) b
  ·exact gT (cf.fa C I.ok.kind e f) fun y' hk hl z l' Z=>by cases I.fr.inj y' y b (C.isFree z) k l' l;exact h2 hk z hl
  ·exact xDPP (kp b o e n f (km d)) fun o' e' lk=>h1 f (iDPP o' e' (lk.2.1.trans d))
 have H3:∀ b o,s.heap.get? b=some o→own b=none→own' b=none:=fun b o e n=>x.cx b o (hw b o e n) n
 exact ⟨I'.base,I.ok,{
  ns:=ba I.fr.ns fun m q=>bA m (H0 m q)
  cX:=nx I.fr.ns fun m o Z Z e Z=>H3 _ o e I.fr.cX
  dK:=I.fr.dK
  iA:=fun y k=>bQ (I.fr.iA y k) fun b v0 l ic on nn=>cell y b v0 _ k l ic on (fun Z Gi=>cS b v0 l Gi (xDPP ic fun o e Z=>H3 b o e on) nn)
   fun hk Z hl=>bQ (I'.fr.iA y (.inl hk)) fun b' v1 l1 Gj Jw Z=>by cases Option.some.inj (l1.symm.trans hl);exact cS b v1 l Gj Jw nn
  inj:=I.fr.inj
  var:=fun y mv e=>(I.fr.var y mv e).conv (fun m v q1 q2 q3=>iDDPPP m v (H0 m q1) q2 (rv q3)) fun b v k l ic r=>bQ (I.fr.iA y k) fun b' v0 l' Z on Z=>by
   cases Option.some.inj (l'.symm.trans l)
   refine cell y b (some v) _ k l ic on (fun Z Gi=>iDPP v Gi (rv r)) fun hk z hl=>?_
   have hv:=I'.fr.var y mv (hs y mv (by rw [fY,C.lookup.mpr z];exact e))
   unfold ft at hv
   rw [hk] at hv
   exact xDDPPP hv fun c u l1 Gj ru=>by cases Option.some.inj (hl.symm.trans l1);exact iDPP u Gj ru}⟩
end
structure eN(X:Cx)(env:Env)(loc:Loc)(aJ:Own)(aN:Cells)(h₀:Heap)(acc:Value)(r:V)(L:Addr)(own:Own)(c:Cells)(s:Shared):Prop where
 inv:Inv X env own loc c s
 rv:RV own s.heap acc r
 ext:Ext (Fa env) aJ aN h₀ own c s.heap
 ns:∃ m,s.heap.Ns L m
 cX:own L=none
 dK:X.h₀.get? L=none
 lI:h₀.get? L=none
 AJ:L ∉ X.iz
 Ee:L≠env.locals
 Ef:∀ y c,bg (env.kindOf y)→env.cells.lookup y=some c→c≠L
theorem iB.fA{b:Addr}{c':Cells}{h:Heap}(hc:c' b=cells b)(f:iB own cells h b):iB own c' h b:=let ⟨o,e,z⟩:=f;iDPP o e (z.imp id fun q=>⟨q.1,q.2.of hc⟩)
theorem SrcAt.keep{target:Expr}{it:Value}{items:List V}{own':Own}{c':Cells}{h₀ h₁ h h':Heap}{fp wr:List Addr}{St:Nat→Heap→Prop}{P:Nat→Heap→Heap→Value→Prop}(S:SrcAt X A target own cells h₀ h it items fp wr St P)(kp:∀ b o,h.get? b=some o→h'.get? b=some o)(ho:∀ b o,h.get? b=some o→own' b=own b)(hc:∀ b o,h.get? b=some o→c' b=cells b)(hw:∀ b∈wr,h₁.get? b=none):SrcAt X A target own' c' h₁ h' it items fp wr St P where
 d:=S.d
 st:=S.d.frame 0 h h' S.st fun b Z o e=>kp b o e
 w:=fun b hb=>ba (S.ex 0 h S.st b (S.d.sub b hb)) fun o e=>⟨hw b hb,(ho b o e).trans (S.w b hb).2.1,(hc b o e).trans (S.w b hb).2.2⟩
 ex:=S.ex
 f:=fun b hb hw=>ba (S.ex 0 h S.st b hb) fun o e=>(((S.f b hb hw).keep fun o e=>kp b o e).yF (ho b o e)).fA (hc b o e)
 p:=fun i own' hp h' v x p e r n=>S.p i own' hp h' v x p e (fun u y q=>r u y (q.mono (fun b o e Z Z=>kp b o e) fun b o e n=>(ho b o e).trans n)) n
theorem lJ{β:Type}{K:β→Cell}{b0:β}{ob:Obj}{mk:Sem Value}{Em:Env→Addr→(Shared→Prop)→Shared→Prop}{target e:Expr}{bind:V→Loc→Loc}{scope:Scope}{it:Value}{items:List V}{aJ aI:Own}{aN c2:Cells}{bc:Loc}{h₀:Heap}{s2:Shared}{cl:List (Str×Addr)}{R:Value→Addr→Result→Shared→Prop}(C:bB scope env)(I2:Inv X env aI bc c2 s2)(x2:Ext (Fa env) aJ aN h₀ aI c2 s2.heap)(src:Src X A target aI c2 h₀ s2.heap it items)(ku:∀ x c,(x,c)∈cl↔((x,NameKind.free)∈scope.names∧env.cells.lookup x=some c))(Jx:∀ Q:Value→Shared→Prop,Q (.ref s2.heap.objs.size) { s2 with heap:=s2.heap.push ob}→wpAny (model X.prog X.w) A mk Q dh s2)(hf:ob.isFreed=false)(Jy:∀ own h a,h.get? a=some ob→bT X.prog X.w own h a (K b0))(J:Nat→β→Cells→Prop)(j0:J 0 b0 c2)(qX:∀ L cs v,v∈items→pM X A (compEnv scope env L cs) target v (bind v))(turn:∀ L cs i v acc c a own s (Q:Shared→Prop),items[i]?=some v→c a=some (K acc)→J i acc (upd c a none)→Inv X (compEnv scope env L cs) own (bind v (c8 scope bc)) c s →
   (∀ own' l' c' ys s',Inv X (compEnv scope env L cs) own' l' c' s'→Ext (Fa (compEnv scope env L cs)) own c s.heap own' c' s'.heap→(∀ y mv,(c8 scope bc).lookup y=some mv→l'.lookup y=some mv)→c' a=some (K ys)→J (i+1) ys (upd c' a none)→Q s')→Em (compEnv scope env L cs) a Q s)(F9:∀ L cs a,DS X A target (compEnv scope env L cs) it (Em (compEnv scope env L cs) a) (R (.ref a) L (.ok .next)) (codeAny (model X.prog X.w) A (.compLoop e 0 it (.ref a) (compEnv scope env L cs)) (R (.ref a) L)))(AK:∀ L cs a (R:Result→Shared→Prop) s,codeAny (model X.prog X.w) A (.compLoop e 0 it a (compEnv scope env L cs)) R s→wpAny (model X.prog X.w) A (pyIter it) (fun AH s'=>AH=it∧codeAny (model X.prog X.w) A (.compLoop e 0 it a (compEnv scope env L cs)) R s') dh s→codeAny (model X.prog X.w) A (.compStart e 0 it a (compEnv scope env L cs)) R s)(hR:∀ a L own' c' s' xs,J items.length xs (upd c' a none)→c' a=some (K xs)→eN X env bc aJ aN h₀ (.ref a) (.ref a) L own' c' s'→R (.ref a) L (.ok .next) s') :
  wpAny (model X.prog X.w) A mk (fun acc s3=>wpAny (model X.prog X.w) A (newFunctionEnv scope env.globals cl [] env.qual none .none (some env)) (fun dG s4 =>
   codeAny (model X.prog X.w) A (.compStart e 0 it acc { dG with scope:=relabel scope env}) (R acc dG.locals) s4) dh s3) dh s2:=by
 refine Jx _ ?_
 refine aP (I2.base.jh (t:=s2.toks) hf (c':=K b0) (Jy _ _ _ (Heap.get?_push_size _ hf))) ?_;intro B3 x3 n3
 have a2:=ao s2.heap
 have k3:∀ b o,s2.heap.get? b=some o→(s2.heap.push ob).get? b=some o:=fun b o e=>Heap.get?_push_of_some _ e
 generalize s2.heap.push ob=h3 at B3 x3 k3 ⊢
 generalize s2.heap.objs.size=a at B3 x3 n3 a2 ⊢
 have na:∀ b o,s2.heap.get? b=some o→b≠a:=fun b o e z=>nomatch (a2.symm.trans (congrArg s2.heap.get? z.symm)).trans e
 have I3:Inv X env (cU aI a) bc (upd c2 a (some (K b0))) { s2 with heap:=h3}:=⟨B3,I2.ok,I2.fr.ext x3⟩
 refine uB (P:=fun ce s=>codeAny (model X.prog X.w) A (.compStart e 0 it (.ref a) ce) (R (.ref a) ce.locals) s) C I3 ku fun L cs h4 k4 cf I4=>?_
 refine nQ src ?_;intro fp wr St P S
 have S4:=S.keep (own':=cU aI a) (c':=upd c2 a (some (K b0))) (h₁:=PySem.W.hideAll h4 wr) (fun b o e=>k4 b o (k3 b o e)) (fun b o e=>if_neg (na b o e)) (fun b o e=>if_neg (na b o e)) fun b hb=>PySem.W.hideAll_none wr hb
 have H4:=x2.trans x3.gI
 refine aK (n9 (G:=codeAny (model X.prog X.w) A (.compLoop e 0 it (.ref a) (compEnv scope env L cs)) (R (.ref a) L)) (J:=fun i l c=>l=c8 scope bc∧∃ acc,c a=some (K acc)∧J i acc (upd c a none)) I4 (.of_keeps fun b o e=>PySem.W.of_hideAll wr e) (nJ fp wr St P S4)
  ⟨rfl,iDPP b0 (ag _ _ _) (by rw [b8,dZ n3];exact j0)⟩ (qX L cs) (fun i v l c own s Q hi hj I Z k=>?_) (fun own' l' c' s' I' x' hj=>?_) (F9 L cs a)) fun g1 g2=>AK L cs (.ref a) _ _ g1 g2
 ·refine jy hj ?_;intro el acc ca j
  cases el
  exact turn L cs i v acc c a own s Q hi ca j I fun own' l' c' ys s' I' x' hs CC j'=>k own' _ c' s' (I'.sub hs) x' ⟨rfl,iDPP ys CC j'⟩
 ·refine jy hj ?_;intro el xs ca j
  cases el
  have fr:∀ b o,h₀.get? b=some o→b ∉ wr:=fun b o e q=>nomatch e.symm.trans (S.w b q).1
  have fL:s2.heap.get? L=none:=by
   cases q:s2.heap.get? L with
   | none=>rfl
   | some o=>exact nomatch cf.fresh.symm.trans (k3 L o q)
  exact hR a L own' c' s' xs j ca {
   inv:=uC C I3 cf (fun b o e n=>PySem.W.hideAll_get wr (k4 b o e) fun hb=>nomatch n.symm.trans (S4.w b hb).2.1) I' (fun Z Z e=>e) x'
   rv:=.ref a
   ext:=yJ C I3.ok.kind cf H4 (fun b o o' e e'=>PySem.W.hideAll_get wr (k4 b o' e') (fr b o e)) x'
   ns:=I'.fr.ns
   cX:=I'.fr.cX
   dK:=I'.fr.dK
   lI:=by
    cases q:h₀.get? L with
    | none=>rfl
    | some o=>exact ba (H4.there L o q) fun o' e'=>nomatch cf.fresh.symm.trans e'
   AJ:=fun q=>sD (I2.base.iz L q) fun Z o Z Z e Z Z=>nomatch fL.symm.trans e
   Ee:=fun z=>nx I2.fr.ns fun m o Z Z e Z=>nomatch (fL.symm.trans (congrArg s2.heap.get? z)).trans e
   Ef:=fun y b k l z=>xDDPPP (I2.fr.iA y k) fun c' v0 l' ic Z=>xDPP ic fun o e Z=>nomatch (fL.symm.trans (congrArg s2.heap.get? (z.symm.trans (Option.some.inj (l.symm.trans l'))))).trans e}
theorem c_append{a:Addr}{xs:List V}{x:V}{Ψ:V→Cells→Prop}(hc:cells a=some (.list xs))(hz:xs.length≤sizeLine)(h:Ψ .none (upd cells a (some (.list (xs++[x]))))):aE X A (.bi "list.append") [.ref a,x] Ψ cells:=fun fv vs own s I nA=>aK nA fun rf r=>by
 refine RV.e0 rf rfl ?_
 (refine xDDPPP r.two ?_;intro v u bj;subst bj;intro r1 r2)
 refine RV.e0 r1 rfl ?_
 (refine eu (I.cell a _ hc) ?_;intro oa vs n e rs)
 have z:vs.size=xs.length:=by simpa using rs.1
 refine q9 (l:=a) (its:=vs) e (fun h7 e7 CE=>?_) (by lia)
 have kp:∀ b o,b≠a→s.heap.get? b=some o→h7.get? b=some o:=fun b o hb e=>(CE.2 b hb).trans e
 have rv:∀ v x,RV own s.heap v x→RV own h7 v x:=fun v x r=>iP I hc kp r
 (refine aK (I.kA (t:=s.toks) hc kp (bA _ e7) (c':=.list (xs++[x])) (eB _ (n+1) e7 (by rw [Array.toList_push];exact (rs.mono rv).append (.cons (rv _ _ r2) .nil)))) ?_;intro B x)
 exact ⟨own,_,.none,B,.vI,x,h⟩
theorem Base.adopt{a:Addr}{c0:Cell}(I:Base X own cells s)(oa:own a=some a)(ca:cells a=none)(h:bT X.prog X.w own s.heap a c0):Base X own (upd cells a (some c0)) s:=I.fA fun x e=>Option.some.inj e▸⟨oa,h⟩
noncomputable def Eg (X:Cx) (A:Around) (ifs:List Expr) (elt:Expr) (dG:Env) (a:Addr) (Q:Shared→Prop) (s:Shared):Prop :=
 wpAny (model X.prog X.w) A (eX dG ifs true) (fun ok s4=>if ok=true then wpAny (model X.prog X.w) A (eval elt dG) (fun x s5=>wpAny (model X.prog X.w) A (call (.builtin "list.append") [.ref a,x]) (fun Z s6=>Q s6) dh s5) dh s4 else Q s4) dh s
theorem AL{x:Str}{px:Pos}{elt iter:Expr}{ifs:List Expr}{scope:Scope}{pos:Pos}{dG:Env}{it:Value}{a:Addr}{R:Result→Shared→Prop} :
  DS X A (.Name x px) dG it (Eg X A ifs elt dG a) (R (.ok .next)) (codeAny (model X.prog X.w) A (.compLoop (.ListComp elt [⟨.Name x px,iter,ifs,0⟩] scope pos) 0 it (.ref a) dG) R):=fun T turn k s h =>
 codeAny_compLoop_tests (I:=T) (fun k s hT=>aB (turn k s hT) fun r s1 hr=>hr.elim (fun q=>q) fun v hv =>
  a9 (iQ (v:=()) hv fun q=>aB q fun Z s3 h3=>aB h3 fun ok s4 h4=>by
   cases ok with
   | true=>exact aB h4 fun Z s5 h5=>a9 h5
   | false=>exact h4)) k h
theorem AM{elts:List Expr}{kk:Nat}{tp:Pos}{elt iter:Expr}{scope:Scope}{pos:Pos}{dG:Env}{it:Value}{a:Addr}{R:Result→Shared→Prop} :
  DS X A (.Tuple elts kk tp) dG it (Eg X A [] elt dG a) (R (.ok .next)) (codeAny (model X.prog X.w) A (.compLoop (.ListComp elt [⟨.Tuple elts kk tp,iter,[],0⟩] scope pos) 0 it (.ref a) dG) R):=fun T turn k s h =>
 LCp.codeAny_compLoop_pair (I:=T) (fun k s hT=>aB (turn k s hT) fun r s1 hr=>hr.elim (fun q=>q) fun v hv =>
  aB hv fun Z s2 h2=>aB h2 fun Z s3 h3=>a9 (iQ (v:=true) h3 fun q=>aB q fun Z s5 h5=>a9 h5)) k h
theorem Ext.live{F:Addr→Prop}{own':Own}{c c':Cells}{a:Addr}{k:Cell}{o:Option Cell}{h h':Heap}(x:Ext F own (upd c a none) h own' c' h')(hc:c a=some k)(hl:k.live=true):Ext F own c h own' (upd c' a o) h' where
 keep:=x.keep
 cx:=x.cx
 there:=x.there
 fw:=fun b q ob e z w=>by
  have n:q≠a:=fun y=>Cell.dn hc hl (y▸w.1)
  exact bM (x.fw b q ob e z ⟨w.1.of (ae _ n),w.2⟩) fun p1 p2 p3 p4=>aO p1 p2 ((ae _ n).trans (p3.trans (ae _ n))) p4
theorem AN{ifs:List Expr}{elt:Expr}{a:Addr}{acc:List V}{P:Loc→List V→Cells→Prop}{Q:Shared→Prop}(H:eA X A env ifs (fun ok l c=>if ok then mE X A env (eval elt env) (fun r l' c'=>P l' (acc++[r]) c') l c else P l acc c) loc (upd cells a none))(ca:cells a=some (.list acc))(hz:acc.length≤sizeLine)(I:Inv X env own loc cells s)(k:∀ own' l' c' ys s',Inv X env own' l' c' s'→Ext (Fa env) own cells s.heap own' c' s'.heap→c' a=some (.list ys)→P l' ys (upd c' a none)→Q s'):Eg X A ifs elt env a Q s:=by
 have I':Inv X env own loc (upd cells a none) s:=⟨I.base.fA fun x e=>(nomatch e),I.ok,I.fr⟩
 refine eu (I.base.cell a _ ca) ?_;intro oa vs n e ra
 have back:∀ {own' l' c' s'},Inv X env own' l' c' s'→Ext (Fa env) own (upd cells a none) s.heap own' c' s'.heap→Inv X env own' l' (upd c' a (some (.list acc))) s'∧c' a=none:=fun I4 x=>bM (x.fw a a _ e oa ⟨.inl (ag _ _ _),rfl⟩) fun p1 p2 p3 Z =>
  have n4:=p3.trans (ag _ _ _)
  ⟨⟨I4.base.adopt p2 n4 (eB vs n p1 (ra.ext I' x)),I4.ok,I4.fr⟩,n4⟩
 refine (iN ifs H).use I' fun dw l4 c4 ok okv s4 I4 r4 x4 p4=>?_
 cases (r4:okv=ok)
 cases ok with
 | false=>exact aK (back I4 x4) fun I5 n5=>k dw l4 _ acc s4 I5 (x4.live ca rfl) (ag _ _ _) (by rw [b8,dZ n5];exact p4)
 | true =>
  refine eg.use p4 I4 fun uD l5 c5 r rv s5 I5 r5 x5 p5=>aK (back I5 (x4.trans x5)) fun I6 n6=>?_
  exact (c_append (Ψ:=fun Z c=>c=upd (upd c5 a (some (.list acc))) a (some (.list (acc++[r])))) (ag _ _ _) hz rfl (.builtin "list.append") [.ref a,rv]).pC I6 ⟨.bi _,.cons (.ref a) (.cons r5 .nil)⟩ fun CG c7 b v s7 I7 r7 x7 h7=>by
   rw [b8] at h7
   cases h7
   exact k CG l5 _ _ s7 I7 (((x4.trans x5).live ca rfl).trans x7) (ag _ _ _) (by rw [b8,dZ n6];exact p5)
end
section
variable {X:Cx}{A:Around}{env:Env}{loc:Loc}{cells:Cells}{own:Own}{s:Shared}{h':Heap}
theorem aQ.but{h₀ h:Heap}{P:Addr→Prop}(F:aQ h₀ env own h loc)(hL:¬ P env.locals)(hC:∀ x c,bg (env.kindOf x)→env.cells.lookup x=some c→¬ P c)(hd:∀ b,P b→∀ o,h.get? b=some o→¬ pH o)(hs:∀ b o,¬ P b→h.get? b=some o→h'.get? b=some o):aQ h₀ env own h' loc:=by
 have ic:∀ {y c v},bg (env.kindOf y)→env.cells.lookup y=some c→h.IsCell c v→h'.IsCell c v:=fun {y c v} k l=>ql fun o=>hs c o (hC y c k l)
 exact {
  ns:=ba F.ns fun m q=>⟨m,kn (fun o=>hs _ o hL) q⟩
  cX:=F.cX
  dK:=F.dK
  iA:=fun y k=>xDDPPP (F.iA y k) fun c v₀ l i n=>iDDPPP c v₀ l (ic k l i) n
  inj:=F.inj
  var:=fun y mv e=>(F.var y mv e).mono (fun m=>kn fun o=>hs _ o hL) (fun c v k l=>ic k l) fun Z r=>r.mono (fun b o e' Z d=>hs b o (fun p=>hd b p o e' d) e') fun Z Z Z e=>e}
theorem eN.freeze{aJ:Own}{aN c:Cells}{h₀:Heap}{acc:Value}{a:Addr}{xs:List V}{L:Addr}(E:eN X env loc aJ aN h₀ acc (.ref a) L own c s)(hc:c a=some (.list xs)):∃ own',eN X env loc aJ aN h₀ acc (.list xs) L own' (upd c a none) s :=
 um (E.inv.freeze hc) fun own' I' r x Z=>bA own' ⟨I',RV.a0 E.rv▸r,E.ext.trans x,E.ns,nx E.ns fun m o Z Z e Z=>x.cx L o e E.cX,E.dK,E.lI,E.AJ,E.Ee,E.Ef⟩
theorem eN.letGo{aJ:Own}{aN c:Cells}{h₀:Heap}{acc:Value}{r:V}{L:Addr}(E:eN X env loc aJ aN h₀ acc r L own c s){h':Heap}(hs:Heap.SameBut L s.heap h') :
  Inv X env own loc c {s with heap:=h'}∧RV own h' acc r∧Ext (Fa env) aJ aN h₀ own c h':=by
 (refine nR E.ns ?_;intro m oL es ep eL dL rL)
 have hd:∀ o,s.heap.get? L=some o→¬ pH o:=fun o e=>by rw [eL] at e;cases e;exact eI dL
 have kp:∀ b o,b≠L→s.heap.get? b=some o→h'.get? b=some o:=fun b o hb e=>(hs.2 b hb).trans e
 have rv:∀ v x,RV own s.heap v x→RV own h' v x:=fun v x r=>qT kp hd r
 refine ⟨⟨E.inv.base.sameBut (t:=s.toks) E.cX E.dK hs hd (fun q=>(E.AJ q).elim),E.inv.ok,E.inv.fr.but (P:=fun b=>b=L) (fun z=>E.Ee z.symm) (fun y b k l=>E.Ef y b k l) (fun b p=>p▸hd) fun b o p e=>kp b o p e⟩,rv _ _ E.rv,⟨fun b o e n f t=>?_,E.ext.cx,fun b o e=>?_,fun b q o e z w=>?_⟩⟩
 ·(refine xDPP (E.ext.keep b o e n f t) ?_;intro o' e' lk)
  exact (iDPP o' (kp b o' (fun z=>by rw [z,E.lI] at e;cases e) e') lk)
 ·(refine ba (E.ext.there b o e) ?_;intro o' e')
  exact (bA o' (kp b o' (fun z=>by rw [z,E.lI] at e;cases e) e'))
 ·(refine aP (E.ext.fw b q o e z w) ?_;intro p1 p2 p3)
  exact ⟨kp b o (fun z=>by rw [z,E.lI] at e;cases e) p1,p2,p3⟩
noncomputable def gN (X:Cx) (A:Around) (env:Env) (bind:V→Loc→Loc) (ifs:List Expr) (elt:Expr) (scope:Scope) (items:List V) (bc:Loc) (c2:Cells) (Ψ:V→Cells→Prop):Prop :=
 items.length≤sizeLine∧∃ J:Nat→List V→Cells→Prop,J 0 [] c2∧(∀ i acc c,J i acc c→acc.length≤i) ∧
  (∀ L cs i v acc c,items[i]?=some v→J i acc c→eA X A (compEnv scope env L cs) ifs (fun ok l c=>if ok then
    mE X A (compEnv scope env L cs) (eval elt (compEnv scope env L cs)) (fun r l' c'=>l'=bind v (c8 scope bc)∧J (i+1) (acc++[r]) c') l c
   else l=bind v (c8 scope bc)∧J (i+1) acc c) (bind v (c8 scope bc)) c)∧∀ xs c,J items.length xs c→Ψ (.list xs) c
structure iR(X:Cx)(A:Around)(env:Env)(scope:Scope)(target:Expr)(ifs:List Expr)(elt e:Expr)(bind:V→Loc→Loc)(ok:V→Prop):Prop where
 asg:∀ L cs v,ok v→pM X A (compEnv scope env L cs) target v (bind v)
 sub:∀ v,ok v→∀ loc y mv,(c8 scope loc).lookup y=some mv→(bind v (c8 scope loc)).lookup y=some mv
 lp:∀ L cs it a R,DS X A target (compEnv scope env L cs) it (Eg X A ifs elt (compEnv scope env L cs) a) (R (.ok .next)) (codeAny (model X.prog X.w) A (.compLoop e 0 it (.ref a) (compEnv scope env L cs)) R)
theorem ji{scope:Scope}{L:Addr}{cs:List (Str×Addr)}{x:Str}(C:bB scope env)(ek:env.scope.kind=.function)(hx:scope.names.lookup x=some .local∨scope.names.lookup x=some .cell) :
  (compEnv scope env L cs).kindOf x=some .local∨(compEnv scope env L cs).kindOf x=some .cell:=by
 rw [eK (env:=env) (scope:=scope) (L:=L) (cs:=cs) (x:=x) ek]
 rcases hx with q | q <;> rw [q]
 ·exact .inl rfl
 ·exact .inr rfl
theorem oq{scope:Scope}{x:Str}(hx:scope.names.lookup x=some .local∨scope.names.lookup x=some .cell)(loc:Loc):(c8 scope loc).lookup x=none:=by
 rw [fY]
 rcases hx with q | q <;> rw [q] <;> rfl
theorem iR.name{scope:Scope}{x:Str}{px:Pos}{ifs:List Expr}{elt iter:Expr}{pos:Pos}(C:bB scope env)(ek:env.scope.kind=.function)(hx:scope.names.lookup x=some .local∨scope.names.lookup x=some .cell) :
  iR X A env scope (.Name x px) ifs elt (.ListComp elt [⟨.Name x px,iter,ifs,0⟩] scope pos) (fun v l=>(x,v)::l) (fun Z=>True) where
 asg:=fun L cs v Z=>cj (ji C ek hx)
 sub:=fun v Z loc y mv e=>by
  rw [lookup_cons]
  by_cases hy:(y == x)=true
  ·have:y=x:=eq_of_beq hy
   subst this
   rw [oq hx] at e;cases e
  ·rw [if_neg hy];exact e
 lp:=fun L cs it a R=>AL
noncomputable def gO (x y:Str) (v:V) (l:Loc):Loc:=match v with
 | .tuple [a,b]=>(y,b)::(x,a)::l
 | _=>l
noncomputable def IsPair (v:V):Prop:=∃ a b,v=.tuple [a,b]
theorem iR.pair{scope:Scope}{x y:Str}{px py tp:Pos}{k:Nat}{elt iter:Expr}{pos:Pos}(hh:A.handled=none)(C:bB scope env)(ek:env.scope.kind=.function)(hx:scope.names.lookup x=some .local∨scope.names.lookup x=some .cell)(hy:scope.names.lookup y=some .local∨scope.names.lookup y=some .cell) :
  iR X A env scope (.Tuple [.Name x px,.Name y py] k tp) [] elt (.ListComp elt [⟨.Tuple [.Name x px,.Name y py] k tp,iter,[],0⟩] scope pos) (gO x y) IsPair where
 asg:=fun L cs v iC=>eG iC fun a b e=>by subst e;exact kz hh (ji C ek hx) (ji C ek hy)
 sub:=fun v gX loc z mv q=>eG gX fun a b e=>by
  subst e
  show List.lookup z ((y,b)::(x,a)::c8 scope loc)=some mv
  rw [lookup_cons,lookup_cons]
  by_cases h1:(z == y)=true
  ·have:z=y:=eq_of_beq h1
   subst this
   rw [oq hy] at q;cases q
  ·rw [if_neg h1]
   by_cases h2:(z == x)=true
   ·have:z=x:=eq_of_beq h2
    subst this
    rw [oq hx] at q;cases q
   ·rw [if_neg h2];exact q
 lp:=fun L cs it a R=>AM
theorem rg{target elt iter e:Expr}{bind:V→Loc→Loc}{okv:V→Prop}{ifs:List Expr}{scope:Scope}{p2:Pos}{use:Option (Value→Sem Unit)}{Q:Value→Shared→Prop}{Φ:V→Loc→Cells→Prop}(he:∃ pos,e=.ListComp elt [⟨target,iter,ifs,0⟩] scope pos)(C:bB scope env)(G:iR X A env scope target ifs elt e bind okv)(hh:A.handled=none)(h:eC X A env target iter (fun items l2 c2=>(∀ v∈items,okv v)∧gN X A env bind ifs elt scope items l2 c2 (fun r c=>Φ r l2 c)) loc cells)(hs:∀ x,foldedSetIterable iter env x=pure x)(I₀:Inv X env own loc cells s)(hR:∀ a L own' c' s' xs l2,Φ (.list xs) l2 (upd c' a none)→c' a=some (.list xs)→eN X env l2 own cells s.heap (.ref a) (.ref a) L own' c' s'→compPost (model X.prog X.w) A dh use Q (.ref a) L (.ok .next) s') :
  wpAny (model X.prog X.w) A (comprehension e scope env p2 (newList []) false (eval iter env) use) Q dh s:=by
 refine ba he ?_;clear he;intro pos cR;subst cR
 refine xDPP (gw (env:=env) (scope:=scope) (fun y hy=>let ⟨c,_,l,_⟩:=I₀.fr.iA y (C.isFree hy);(bA c l))) ?_;intro cl ku Eh
 refine wpAny_comprehension_free (g:=⟨target,iter,ifs,0⟩) (gs:=[]) rfl hs ku C.kind (fun y hy hk=>C.lookup.mpr (by obtain ⟨a,b⟩:=y;dsimp only at hk;rw [hk] at hy;exact hy)) ?_
 refine aB (h own s I₀) fun xv s1 h1=>aB h1 fun it s2 fu=>?_
 refine ir fu ?_;clear fu;intro aI bc c2 items I2 x2 src AO hlen J j0 hJ turn done
 refine lJ (K:=.list) (b0:=[]) (Em:=fun ce a=>Eg X A ifs elt ce a) (R:=fun acc L=>compPost (model X.prog X.w) A dh use Q acc L) C I2 x2 src Eh (fun Q q=>wpAny_newList q (by decide)) rfl (fun own h a e=>eB #[] 0 e .nil) J j0 (fun L cs v hv=>G.asg L cs v (AO v hv)) ?_ (fun L cs a=>G.lp L cs it a _) ?_
  fun a L own' c' s' xs j ca e=>hR a L own' c' s' xs bc (done xs _ j) ca e
 ·intro L cs i v acc c a own s Q hi ca j I k
  exact AN (P:=fun l ys c=>l=bind v (c8 scope bc)∧J (i+1) ys c) (turn L cs i v acc _ hi j) ca (Nat.le_trans (hJ i acc _ j) (Nat.le_trans (Nat.le_of_lt (List.getElem?_eq_some_iff.mp hi).1) hlen)) I
   fun own' l' c' ys s' I' x' CC p=>k own' l' c' ys s' I' x' (fun y mv e=>p.1▸G.sub v (AO v (List.mem_of_getElem? hi)) bc y mv e) CC p.2
 ·intro L cs a R s3 h1 h2
  exact codeAny_compStart_list h1 (aB h2 fun AH s' q=>by cases q.1;exact q.2)
theorem aZ{target elt iter:Expr}{bind:V→Loc→Loc}{okv:V→Prop}{ifs:List Expr}{scope:Scope}{pos:Pos}{Ψ:V→Loc→Cells→Prop}(C:bB scope env)(G:iR X A env scope target ifs elt (.ListComp elt [⟨target,iter,ifs,0⟩] scope pos) bind okv)(hh:A.handled=none)(h:eC X A env target iter (fun items l2 c2=>(∀ v∈items,okv v)∧gN X A env bind ifs elt scope items l2 c2 (fun r c=>Ψ r l2 c)) loc cells)(hs:autoParam (∀ x,foldedSetIterable iter env x=pure x) aIR) :
  mE X A env (eval (.ListComp elt [⟨target,iter,ifs,0⟩] scope pos) env) Ψ loc cells:=fun own s I=>by
 rw [eval_ListComp]
 exact rg ⟨pos,rfl⟩ C G hh h hs I fun a L own'' c' s' xs l2 hΦ ca e₀=>ba (e₀.freeze ca) fun own' e=>ba e.ns fun m hm =>
  iDPP m hm fun h' vO=>aP (e.letGo vO) fun q1 q2 q3=>⟨own',l2,_,.list xs,q1,q2,q3,hΦ⟩
theorem m7{target elt iter:Expr}{bind:V→Loc→Loc}{okv:V→Prop}{ifs:List Expr}{scope:Scope}{pos:Pos}{Ψ:V→Loc→Cells→Prop}(C:bB scope env)(G:iR X A env scope target ifs elt (.ListComp elt [⟨target,iter,ifs,0⟩] scope pos) bind okv)(hh:A.handled=none)(h:eC X A env target iter (fun items l2 c2=>(∀ v∈items,okv v)∧gN X A env bind ifs elt scope items l2 c2 (fun r c=>∃ xs,r=.list xs∧∀ a,c a=none→Ψ (.ref a) l2 (upd c a (some (.list xs))))) loc cells)(hs:autoParam (∀ x,foldedSetIterable iter env x=pure x) aIR) :
  mE X A env (eval (.ListComp elt [⟨target,iter,ifs,0⟩] scope pos) env) Ψ loc cells:=fun own s I=>by
 rw [eval_ListComp]
 refine rg (Φ:=fun r l2 c=>∃ xs,r=.list xs∧∀ a,c a=none→Ψ (.ref a) l2 (upd c a (some (.list xs)))) ⟨pos,rfl⟩ C G hh h hs I fun a L own' c' s' xs l2 hΦ ca e=>ba e.ns fun m hm =>
  iDPP m hm fun h' vO=>aP (e.letGo vO) fun q1 q2 q3=>⟨_,l2,_,.ref a,q1,q2,q3,?_⟩
 refine xDPP hΦ ?_;intro Ld e' hΦ
 cases e'
 have:=hΦ a (ag _ _ _)
 rw [kB ca] at this
 exact this
theorem de{target elt iter:Expr}{bind:V→Loc→Loc}{okv:V→Prop}{y:Str}{py:Pos}{ifs:List Expr}{scope:Scope}{pos p:Pos}{Ψ:MF→Loc→Cells→Prop}(C:bB scope env)(G:iR X A env scope target ifs elt (.ListComp elt [⟨target,iter,ifs,0⟩] scope pos) bind okv)(hy:env.kindOf y=some .local)(hh:A.handled=none)(Jz:swapsWith (.ListComp elt [⟨target,iter,ifs,0⟩] scope pos) (some (.Name y py)) p.line env=pure true)(h:eC X A env target iter (fun items l2 c2=>(∀ v∈items,okv v)∧gN X A env bind ifs elt scope items l2 c2 (fun r c=>Ψ .next ((y,r)::l2) c)) loc cells)(hs:autoParam (∀ x,foldedSetIterable iter env x=pure x) aIR) :
  mS X A env (exec (.Assign [.Name y py] (.ListComp elt [⟨target,iter,ifs,0⟩] scope pos) p) env) Ψ loc cells:=fun own s I=>by
 rw [exec_Assign_Name_used _ _ _ _ Jz]
 refine wpAny_bind (wpAny_standAt (wpAny_bind ?_))
 show wpAny _ A (do let _ ← comprehension (.ListComp elt [⟨target,iter,ifs,0⟩] scope pos) scope env _ (newList []) false (eval iter env) (some (assign (.Name y py) env))) _ _ s
 refine wpAny_bind (wpAny_mono (Q:=fun Z s'=>gJ X env RF own cells s.heap Ψ .next s') ?_ (fun Z s' hq=>wpAny_pure (wpAny_pure hq)) fun Z Z e=>e)
 refine rg (Φ:=fun r l2 c=>Ψ .next ((y,r)::l2) c) ⟨pos,rfl⟩ C G hh h hs I fun acc L own'' c' s' xs l2 hΦ ca e₀=>?_
 refine ba (e₀.freeze ca) ?_;intro own' e
 show wpAny _ _ (assign (.Name y py) env (.ref acc)) _ _ _
 refine wpAny_assign_Name ?_
 refine (cJ e.inv e.rv (.inl hy) fun s2 I2 x2=>?_)
 have nF:¬ Fa env L:=fun f=>by
  rcases f with q | ⟨z,k,l⟩
  ·exact e.Ee q
  ·exact e.Ef z L (.inl k) l rfl
 have E2:eN X env ((y,.list xs)::l2) own cells s.heap (.ref acc) (.list xs) L own' (upd c' acc none) s2:=by
  (refine nR e.ns ?_;intro m o es ep eo d r)
  (refine xDPP (x2.keep L o eo e.cX nF (gU d)) ?_;intro o' e' lk)
  exact ⟨I2,e.rv.ext e.inv x2,e.ext.trans x2,(yq m o' es ep e' (lk.2.1.trans d) r),e.cX,e.dK,e.lI,e.AJ,e.Ee,e.Ef⟩
 (refine ba E2.ns ?_;intro m hm)
 refine (iDPP m hm (fun h' vO=>?_))
 (refine aP (E2.letGo vO) ?_;intro q1 q2 q3)
 exact ⟨own',_,_,.next,q1,.next,q3,hΦ⟩
end
section
variable {X:Cx}{A:Around}{env:Env}{loc:Loc}{cells:Cells}{own:Own}{s:Shared}{Ψ:V→Cells→Prop}{Φ:Bool→Cells→Prop}
theorem RV.cM{h:Heap}{v:Value}{xs:List V}(r:RV own h v (.list xs)):∃ a d vs n sl,v=.ref a∧h.get? a=some ⟨.type "list",d,.seq vs n,sl⟩∧own a=none∧bP own h vs.toList xs:=by
 cases r with
 | list ho hn hs hi=>exact (md _ _ _ _ _ rfl ho hn (by simpa using hs) (fun i v x p q=>hi i v x (by simpa using p) q))
theorem RV.gc{h:Heap}{v:Value}{xs:List V}(r:RV own h v (.tuple xs)):∃ a d vs n sl,v=.ref a∧h.get? a=some ⟨.type "tuple",d,.seq vs n,sl⟩∧own a=none∧bP own h vs.toList xs:=by
 cases r with
 | tuple ho hn hs hi=>exact (md _ _ _ _ _ rfl ho hn (by simpa using hs) (fun i v x p q=>hi i v x (by simpa using p) q))
theorem RV.rh{h:Heap}{a d vs n sl}{xs:List V}(ho:h.get? a=some ⟨.type "tuple",d,.seq vs n,sl⟩)(hn:own a=none)(r:bP own h vs.toList xs):RV own h (.ref a) (.tuple xs) :=
 .tuple ho hn (by simpa using r.1) fun i v x p q=>r.2 i v x (by simpa using p) q
theorem kD{vs:Array Value}{xs:List V}(I:Base X own cells s)(r:bP own s.heap vs.toList xs)(h:Ψ (.list xs) cells){t:Nat} :
  qm X RV own cells s.heap Ψ (.ref s.heap.objs.size) {s with heap:=s.heap.push { cls:=.type "list",data:=.seq vs},toks:=t} :=
 have kp:∀ b o,s.heap.get? b=some o→(s.heap.push { cls:=.type "list",data:=.seq vs}).get? b=some o:=fun b o e=>Heap.get?_push_of_some _ e
 mb_end (b:=.list xs) I rfl kp (.jR (Heap.get?_push_size _ rfl) (I.fresh (ao _)).1 (r.mono fun Z Z q=>q.keeps kp)) h
theorem qp{vs:Array Value}{xs:List V}(I:Base X own cells s)(r:bP own s.heap vs.toList xs)(h:Ψ (.tuple xs) cells){t:Nat} :
  qm X RV own cells s.heap Ψ (.ref s.heap.objs.size) {s with heap:=s.heap.push { cls:=.type "tuple",data:=.seq vs},toks:=t} :=
 have kp:∀ b o,s.heap.get? b=some o→(s.heap.push { cls:=.type "tuple",data:=.seq vs}).get? b=some o:=fun b o e=>Heap.get?_push_of_some _ e
 mb_end (b:=.tuple xs) I rfl kp (.rh (Heap.get?_push_size _ rfl) (I.fresh (ao _)).1 (r.mono fun Z Z q=>q.keeps kp)) h
theorem eD{a b:Int}(h:Ψ (.int (a+b)) cells):da X A (binaryOp .Add) (.int a) (.int b) Ψ cells:=fun v u own s I ⟨r1,r2⟩=>by
 refine RV.e1 r1 rfl fun Z=>?_;refine RV.e1 r2 rfl fun Z=>?_;exact add_int (az I (.int _ _) h)
theorem yK{a b:Int}(h:Ψ (.int (a - b)) cells):da X A (binaryOp .Sub) (.int a) (.int b) Ψ cells:=fun v u own s I ⟨r1,r2⟩=>by
 refine RV.e1 r1 rfl fun Z=>?_;refine RV.e1 r2 rfl fun Z=>?_;exact sub_int (az I (.int _ _) h)
theorem sL{a b:Int}(hb:b≠0)(h:Ψ (.int (a.fmod b)) cells):da X A (binaryOp .Mod) (.int a) (.int b) Ψ cells:=fun v u own s I ⟨r1,r2⟩=>by
 refine RV.e1 r1 rfl fun Z=>?_;refine RV.e1 r2 rfl fun Z=>?_;exact mod_int' hb (az I (.int _ _) h)
theorem BP{a b:Int}(hb:b≠0)(hp:Builtin.divisionGoesByPylong a b=false)(h:Ψ (.int (a.fdiv b)) cells):da X A (binaryOp .FloorDiv) (.int a) (.int b) Ψ cells:=fun v u own s I ⟨r1,r2⟩=>by
 refine RV.e1 r1 rfl fun Z=>?_;refine RV.e1 r2 rfl fun Z=>?_;exact floordiv_int hb (az I (.int _ _) h) (.inl hp)
theorem Ei{a n:Int}(hn:0≤n)(wV:n≤1000000)(ha:a.natAbs<2 ^ 64)(h:Ψ (.int (a ^ n.toNat)) cells):da X A (binaryOp .Pow) (.int a) (.int n) Ψ cells:=fun v u own s I ⟨r1,r2⟩=>by
 refine RV.e1 r1 rfl fun Z=>?_;refine RV.e1 r2 rfl fun Z=>?_;exact pow_int_small hn wV ha (az I (.int _ _) h)
theorem o_neg{a:Int}(h:Ψ (.int (-a)) cells):D9 X A (unaryOp .USub) (.int a) Ψ cells:=fun v own s I r1=>by
 refine RV.e1 r1 rfl fun Z=>?_;exact neg_int (az I (.int _ _) h)
theorem uE{a b:Int}(h:Ψ (.int (a+b)) cells):da X A (inplaceOp .Add) (.int a) (.int b) Ψ cells:=fun v u own s I ⟨r1,r2⟩=>by
 refine RV.e1 r1 rfl fun Z=>?_;refine RV.e1 r2 rfl fun Z=>?_;exact iadd_int (az I (.int _ _) h)
theorem CI{a b:Int}(h:Ψ (.int (a - b)) cells):da X A (inplaceOp .Sub) (.int a) (.int b) Ψ cells:=fun v u own s I ⟨r1,r2⟩=>by
 refine RV.e1 r1 rfl fun Z=>?_;refine RV.e1 r2 rfl fun Z=>?_;exact isub_int (az I (.int _ _) h)
theorem sM{a b:Int}(h:Ψ (.bool (decide (a<b))) cells):da X A (compareOp .Lt) (.int a) (.int b) Ψ cells:=fun v u own s I ⟨r1,r2⟩=>by
 refine RV.e1 r1 rfl fun Z=>?_;refine RV.e1 r2 rfl fun Z=>?_;exact lt_int (az (t:=s.toks) I (.bool _) h)
theorem Gk{a b:Int}(h:Ψ (.bool (decide (b≤a))) cells):da X A (compareOp .GtE) (.int a) (.int b) Ψ cells:=fun v u own s I ⟨r1,r2⟩=>by
 refine RV.e1 r1 rfl fun Z=>?_;refine RV.e1 r2 rfl fun Z=>?_;exact ge_int (az (t:=s.toks) I (.bool _) h)
theorem AP{a b:Int}(h:Ψ (.bool (a == b)) cells):da X A (compareOp .Eq) (.int a) (.int b) Ψ cells:=fun v u own s I ⟨r1,r2⟩=>by
 refine RV.e1 r1 rfl fun Z=>?_;refine RV.e1 r2 rfl fun Z=>?_;exact eq_int (az (t:=s.toks) I (.bool _) h)
theorem Gl{a b:Int}(h:Ψ (.bool (a != b)) cells):da X A (compareOp .NotEq) (.int a) (.int b) Ψ cells:=fun v u own s I ⟨r1,r2⟩=>by
 refine RV.e1 r1 rfl fun Z=>?_;refine RV.e1 r2 rfl fun Z=>?_;exact ne_int (az (t:=s.toks) I (.bool _) h)
theorem gf{a b:Str}(h:Ψ (.bool (a == b)) cells):da X A (compareOp .Eq) (.str a) (.str b) Ψ cells:=fun v u own s I ⟨r1,r2⟩=>by
 refine RV.e1 r1 rfl fun Z=>?_;refine RV.e1 r2 rfl fun Z=>?_;exact eq_str (az (t:=s.toks) I (.bool _) h)
theorem BQ{a b:Str}(h:Ψ (.bool (a != b)) cells):da X A (compareOp .NotEq) (.str a) (.str b) Ψ cells:=fun v u own s I ⟨r1,r2⟩=>by
 refine RV.e1 r1 rfl fun Z=>?_;refine RV.e1 r2 rfl fun Z=>?_;exact ne_str (az (t:=s.toks) I (.bool _) h)
theorem aC{b:Bool}(h:Φ b cells):qS X A (.bool b) Φ cells:=fun v own s I r=>by refine RV.e0 r rfl ?_;exact wpAny_truthy_bool (az (t:=s.toks) I rfl h)
theorem Ej{a:Int}(h:Φ (a != 0) cells):qS X A (.int a) Φ cells:=fun v own s I r=>by refine RV.e1 r rfl fun Z=>?_;exact truthy_int (az (t:=s.toks) I rfl h)
theorem uF{xs:List V}(hz:xs.length≤sizeLine)(h:Φ (!xs.isEmpty) cells):qS X A (.list xs) Φ cells:=fun v own s I r=>by
 cases r with
 | list ho hn hs hi =>
  rename_i a d vs n sl
  refine wpAny_truthy_list (items:=vs) (bt _ ho rfl n rfl) (by unfold sizeLine at hz;lia) ?_
  refine az I ?_ h
  show _=_
  cases xs with
  | nil=>simp [Array.eq_empty_of_size_eq_zero hs]
  | cons x r =>
   have:vs≠#[]:=by rintro rfl;simp at hs
   simp [this]
theorem CJ(h:Φ false cells):qS X A .none Φ cells:=fun v own s I r=>by refine RV.e0 r rfl ?_;exact truthy_none (az (t:=s.toks) I rfl h)
theorem Ek{x:Str}(hz:x.length≤sizeLine)(h:Φ ((x.length:Int) != 0) cells):qS X A (.str x) Φ cells:=fun v own s I r=>by
 refine RV.e1 r rfl fun Z=>?_;exact PySem.P.truthy_str (by unfold sizeLine at hz;lia) (az I rfl h)
noncomputable def rj (v:V):Prop:=match v with | .none=>False | .bi _=>False | .ty _=>False | _=>True
theorem eY{a:V}(ha:rj a)(h:Ψ (.bool false) cells):da X A (compareOp .Is) a .none Ψ cells:=fun v u own s I Gm=>aK Gm fun r1 r2=>by
 refine RV.e0 r2 rfl ?_
 refine wpAny_is_other ?_ ?_ (az (t:=s.toks) I (.bool _) h)
 ·cases r1 <;> first | exact ha.elim | rfl
 ·cases r1 <;> first | exact ha.elim | exact fun q=>by cases q
theorem kE{a:V}(ha:rj a)(h:Ψ (.bool true) cells):da X A (compareOp .IsNot) a .none Ψ cells:=fun v u own s I Gn=>aK Gn fun r1 r2=>by
 refine RV.e0 r2 rfl ?_
 refine wpAny_isNot_other ?_ ?_ (az (t:=s.toks) I (.bool _) h)
 ·cases r1 <;> first | exact ha.elim | rfl
 ·cases r1 <;> first | exact ha.elim | exact fun q=>by cases q
theorem qq(h:Ψ (.bool true) cells):da X A (compareOp .Is) .none .none Ψ cells:=fun v u own s I Gp=>aK Gp fun r1 r2=>by
 refine RV.e0 r1 rfl ?_;refine RV.e0 r2 rfl ?_
 exact wpAny_is_self rfl (az (t:=s.toks) I (.bool _) h)
theorem eO(h:Ψ (.bool false) cells):da X A (compareOp .IsNot) .none .none Ψ cells:=fun v u own s I Gq=>aK Gq fun r1 r2=>by
 refine RV.e0 r1 rfl ?_;refine RV.e0 r2 rfl ?_
 exact wpAny_isNot_self rfl (az (t:=s.toks) I (.bool _) h)
theorem rl{a b:Str}(hz:a.length+b.length≤sizeLine)(h:Ψ (.str (a++b)) cells):da X A (binaryOp .Add) (.str a) (.str b) Ψ cells:=fun v u own s I ⟨r1,r2⟩=>by
 refine RV.e1 r1 rfl fun Z=>?_;refine RV.e1 r2 rfl fun Z=>?_;exact SB.add (fun t k=>az I (.str _ _) h) hz
theorem yL{a:Str}{n:Int}(AO:MulOk a n)(h:Ψ (.str (Txt.mul a n)) cells):da X A (binaryOp .Mult) (.str a) (.int n) Ψ cells:=fun v u own s I ⟨r1,r2⟩=>by
 refine RV.e1 r1 rfl fun Z=>?_;refine RV.e1 r2 rfl fun Z=>?_;exact SB.mul AO (fun t k=>az I (.str _ _) h)
theorem El{a b:Str}(h:Ψ (.bool (Txt.contains a b)) cells):da X A (compareOp .In) (.str b) (.str a) Ψ cells:=fun v u own s I ⟨r1,r2⟩=>by
 refine RV.e1 r1 rfl fun Z=>?_;refine RV.e1 r2 rfl fun Z=>?_;exact SB.contains (az (t:=s.toks) I (.bool _) h)
theorem yM{a b:Str}(h:Ψ (.bool (!Txt.contains a b)) cells):da X A (compareOp .NotIn) (.str b) (.str a) Ψ cells:=fun v u own s I ⟨r1,r2⟩=>by
 refine RV.e1 r1 rfl fun Z=>?_;refine RV.e1 r2 rfl fun Z=>?_;exact SB.notContains (az (t:=s.toks) I (.bool _) h)
theorem jS{xs ys:List V}(hz:xs.length+ys.length≤sizeLine)(h:Ψ (.list (xs++ys)) cells):da X A (binaryOp .Add) (.list xs) (.list ys) Ψ cells:=fun v u own s I Gr=>aK Gr fun r1 r2=>by
 (refine aG r1.cM ?_;intro a d vs n sl Gs;subst Gs;intro ho hn rs)
 (refine aG r2.cM ?_;intro a2 d2 sx n2 En Gu;subst Gu;intro uG wV ue)
 have z1:vs.size=xs.length:=by simpa using rs.1
 have z2:sx.size=ys.length:=by simpa using ue.1
 refine concat_meets (iDPP _ ho rfl) (iDPP _ uG rfl) noFill_list_add seq_list_add PySem.F.slot_list_add PySem.F.entry_list_add (PySem.F.args_list_add_2 _ _) (list_addW a a2 vs sx n n2 d d2 sl En (by lia)) ⟨ho,uG,?_⟩
 exact kD I (by rw [Array.toList_append];exact rs.append ue) h
end
section
variable {X:Cx}{A:Around}{env:Env}{loc:Loc}{cells:Cells}{own:Own}{s:Shared}{Ψ:V→Cells→Prop}{Φ:Bool→Cells→Prop}
noncomputable def Done (X:Cx) (own:Own) (cells:Cells) (h:Heap) (Ψ:V→Cells→Prop) (v:Value) (s':Shared):Prop:=qm X RV own cells h Ψ v s'
noncomputable def iw (X:Cx) (A:Around) (a i:V) (Ψ:V→Cells→Prop) (cells:Cells):Prop:=∀ o iv own s,Base X own cells s→RV own s.heap o a→RV own s.heap iv i→ItemOn (model X.prog X.w) A dh o iv (Done X own cells s.heap Ψ) s
theorem m_item{value slice:Expr}{p:Pos}{Ψ:V→Loc→Cells→Prop}(h:mE X A env (eval value env) (K2 X A env slice (iw X A) Ψ) loc cells)(hs:autoParam (∀ o i,subscripted slice false o i=operate [o,i] (getItem o i)) aIU) :
  mE X A env (eval (.Subscript value slice p) env) Ψ loc cells:=fun own s I=>by
 refine Subscript_ (h.use I fun aL l1 c1 a o s1 I1 r1 x1 h1=>h1.use I1 fun aI l2 c2 i iv s2 I2 r2 x2 h2=>?_)
 refine PySem.W.kba_turn (value':=.Name default default) (fun r=>rfl) (tail_of_ItemOn ?_ (hs o iv) (fun r=>rfl))
 (refine xDDPPP (h2 o iv aI s2 I2.base (r1.ext I1 x2) r2) ?_;intro T id q1 q2 q3)
 exact (iDDPPP T id q1 q2 (wpAny_mono q3 (fun v s3 ⟨cZ,c3,b,B3,r3,x3,p3⟩=>⟨cZ,l2,c3,b,⟨B3,I2.ok,I2.fr.ext x3⟩,r3,x1.trans (x2.trans x3.gI),p3⟩) fun Z Z e=>e))
theorem CK{xs:List V}{k:Int}{j:Nat}{x:V}(CL:-(2 ^ 63)≤k)(CM:k<2 ^ 63)(hj:seqIndex? k xs.length=some j)(hx:xs[j]?=some x)(h:Ψ x cells):iw X A (.list xs) (.int k) Ψ cells:=fun o iv own s I ro ri=>by
 obtain ⟨_,rfl⟩:=RV.a1 ri;cases ro with
 | list ho hn hz hi =>
  rename_i t a d vs n sl
  have DT:j<xs.length:=(List.getElem?_eq_some_iff.mp hx).1
  have hv:vs[j]?=some vs[j]:=Array.getElem?_eq_getElem (by exact Nat.lt_of_lt_of_eq DT (id (Eq.symm hz)))
  have r:=hi j _ x hv hx
  have fin:Done X own cells s.heap Ψ vs[j] s:=⟨own,cells,x,I,r,.refl,h⟩
  have hl:s.heap.IsList a vs:=(bt _ ho rfl n rfl)
  refine (iDDPPP ("list") _ slot_list_getitem.lookup hl.typeIs ?_)
  unfold seqIndex? at hj
  by_cases h0:k<0
  ·simp only [h0,if_true] at hj
   split at hj
   ·rename_i q
    obtain ⟨q1,q2⟩:0≤k+↑xs.length∧k+↑xs.length<xs.length:=by simpa using q
    have:=Option.some.inj hj
    refine wpAny_getItem_list_neg hl h0 (by lia) CL (x:=vs[j]) ?_ fin
    rw [show (k+(vs.size:Int)).toNat=j by lia];exact hv
   ·cases hj
  ·simp only [h0,if_false] at hj
   split at hj
   ·have:=Option.some.inj hj
    exact wpAny_getItem_list hl (by exact Int.not_lt.mp h0) CM (by rw [this];exact hv) fin
   ·cases hj
theorem vP{xs:List V}{k:Int}{j:Nat}{x:V}(CL:-(2 ^ 63)≤k)(CM:k<2 ^ 63)(hj:seqIndex? k xs.length=some j)(hx:xs[j]?=some x)(h:Ψ x cells):iw X A (.tuple xs) (.int k) Ψ cells:=fun o iv own s I ro ri=>by
 obtain ⟨_,rfl⟩:=RV.a1 ri;cases ro with
 | tuple ho hn hz hi =>
  rename_i t a d vs n sl
  have DT:j<xs.length:=(List.getElem?_eq_some_iff.mp hx).1
  have hv:vs[j]?=some vs[j]:=Array.getElem?_eq_getElem (by exact Nat.lt_of_lt_of_eq DT (id (Eq.symm hz)))
  have r:=hi j _ x hv hx
  have hl:IsTup s.heap a vs:=(bt _ ho rfl n rfl)
  exact (iDDPPP ("tuple") _ slot_tuple_getitem.lookup hl.typeIs (getItem_tuple hl CL CM (by rw [hz];exact hj) hv ⟨own,cells,x,I,r,.refl,h⟩))
theorem BR{x:Str}{k:Int}{c:Nat}(CL:-(2 ^ 63)≤k)(CM:k<2 ^ 63)(hc:(seqIndex? k x.length).bind (x.cps[·]?)=some c)(h:Ψ (.str ⟨#[c]⟩) cells):iw X A (.str x) (.int k) Ψ cells:=fun o iv own s I ro ri=>by
 refine RV.e1 ri rfl fun Z=>?_;refine RV.e1 ro rfl fun Z=>?_
 exact (iDDPPP ("str") _ F.slot_str_getitem.lookup (typeIs_str _ _ _) (getItem_str (by simp;exact And.symm ⟨CM,CL⟩) hc ⟨own,cells,.str ⟨#[c]⟩,I.toks,.str _ _,.refl,h⟩))
noncomputable def rm (X:Cx) (A:Around) (a:V) (lo hi st:Option Int) (Ψ:V→Cells→Prop) (cells:Cells):Prop:=∀ o vl vu vs own s,Base X own cells s→RV own s.heap o a→IsPart vl lo→IsPart vu hi→IsPart vs st →
 ItemOn (model X.prog X.w) A dh o (.ref s.heap.objs.size) (Done X own cells s.heap Ψ) {s with heap:=s.heap.push { cls:=.type "slice",data:=.fields #[vl,vu,vs]}}
noncomputable def RP (_:Own) (_:Heap) (v:Value) (k:Option Int):Prop:=IsPart v k
theorem fB{Ψ:Option Int→Loc→Cells→Prop}(h:Ψ none loc cells):eg X A env RP (evalPart none env) Ψ loc cells:=fun own s I=>wpAny_evalPart_none ⟨own,loc,cells,none,I,.none,.refl,h⟩
noncomputable def Eo (Ψ:Option Int→Loc→Cells→Prop) (v:V) (l:Loc) (c:Cells):Prop:=match v with
 | .none=>Ψ none l c
 | .int i=>Ψ (some i) l c
 | _=>False
theorem dN{e:Expr}{Ψ:Option Int→Loc→Cells→Prop}(h:mE X A env (eval e env) (Eo Ψ) loc cells):eg X A env RP (evalPart (some e) env) Ψ loc cells:=fun own s I=>by
 refine wpAny_evalPart_some (h.use I fun aL l1 c1 a v s1 I1 r1 x1 h1=>?_)
 cases r1 with
 | vI=>exact ⟨aL,l1,c1,none,I1,.none,x1,h1⟩
 | int i t=>exact ⟨aL,l1,c1,some i,I1,.int i t,x1,h1⟩
 | _=>exact h1.elim
noncomputable abbrev JA (X:Cx) (A:Around) (env:Env) (step:Option Expr) (Ψ:V→Loc→Cells→Prop) (a:V) (lo hi:Option Int) (l:Loc) (c:Cells):Prop:=eg X A env RP (evalPart step env) (fun st l4 c4=>rm X A a lo hi st (fun r c=>Ψ r l4 c) c4) l c
noncomputable abbrev JB (X:Cx) (A:Around) (env:Env) (upper step:Option Expr) (Ψ:V→Loc→Cells→Prop) (a:V) (lo:Option Int) (l:Loc) (c:Cells):Prop:=eg X A env RP (evalPart upper env) (JA X A env step Ψ a lo) l c
noncomputable abbrev JC (X:Cx) (A:Around) (env:Env) (lower upper step:Option Expr) (Ψ:V→Loc→Cells→Prop) (a:V) (l:Loc) (c:Cells):Prop:=eg X A env RP (evalPart lower env) (JB X A env upper step Ψ a) l c
theorem gg{value:Expr}{lower upper step:Option Expr}{q p:Pos}{Ψ:V→Loc→Cells→Prop}(h:mE X A env (eval value env) (JC X A env lower upper step Ψ) loc cells) :
  mE X A env (eval (.Subscript value (.Slice lower upper step q) p) env) Ψ loc cells:=fun own s I=>by
 have hs:∃ ops:Value→Value→List Value,∀ o i,subscripted (.Slice lower upper step q) false o i=operate (ops o i) (getItem o i):=by
  cases step with
  | none=>exact ⟨fun o i=>[i,o],fun Z Z=>rfl⟩
  | some e=>exact ⟨fun o i=>[o,i],fun Z Z=>rfl⟩
 refine Subscript_ (h.use I fun aL l1 c1 a o s1 I1 r1 x1 h1=>wpAny_Slice (h1.use I1 fun aI l2 c2 lo vl s2 I2 r2 x2 h2=>h2.use I2 fun cZ l3 c3 hi vu s3 I3 r3 x3 h3=>h3.use I3 fun dw l4 c4 st vs s4 I4 r4 x4 h4=>?_))
 refine PySem.W.kba_turn (value':=.Name default default) (fun r=>rfl) (tail_of_ItemOn ?_ (hs.choose_spec o (.ref s4.heap.objs.size)) (fun r=>rfl))
 (refine xDDPPP (h4 o vl vu vs dw s4 I4.base (((r1.ext I1 x2).ext I2 x3).ext I3 x4) r2 r3 r4) ?_;intro T id q1 q2 q3)
 exact (iDDPPP T id q1 q2 (wpAny_mono q3 (fun v s5 ⟨uD,c5,b,B5,r5,x5,p5⟩=>⟨uD,l4,c5,b,⟨B5,I4.ok,I4.fr.ext x5⟩,r5,x1.trans (x2.trans (x3.trans (x4.trans x5.gI))),p5⟩) fun Z Z e=>e))
noncomputable def gi (xs:List V) (lo hi st:Option Int):List V:=(sliceRange (sliceBounds lo hi st xs.length).1 (sliceBounds lo hi st xs.length).2.1 (sliceBounds lo hi st xs.length).2.2).filterMap (xs[·]?)
theorem sN{vs:Array Value}{xs:List V}{lo hi st:Option Int}(r:bP own s.heap vs.toList xs):bP own s.heap (slicePick vs lo hi st).toList (gi xs lo hi st):=by
 have z:vs.size=xs.length:=by simpa using r.1
 unfold slicePick gi
 rw [z]
 generalize sliceRange _ _ _=L
 show bP own s.heap (L.filterMap (vs[·]?)) _
 induction L with
 | nil=>exact .nil
 | cons j L ih =>
  rw [List.filterMap_cons,List.filterMap_cons]
  by_cases hj:j<xs.length
  ·have e1:vs[j]?=some vs[j]:=Array.getElem?_eq_getElem (by exact Nat.lt_of_lt_of_eq hj (id (Eq.symm z)))
   have e2:xs[j]?=some xs[j]:=List.getElem?_eq_getElem hj
   rw [e1,e2]
   exact .cons (r.2 j _ _ (by simpa using e1) e2) ih
  ·rw [Array.getElem?_eq_none (by lia),List.getElem?_eq_none (by exact Nat.le_of_not_lt hj)]
   exact ih
theorem rn{xs:List V}{lo hi st:Option Int}(h0:st≠some 0)(hz:xs.length≤sizeLine)(h:Ψ (.list (gi xs lo hi st)) cells):rm X A (.list xs) lo hi st Ψ cells:=fun o vl vu vk own s I r p1 p2 p3=>by
 (refine aG r.cM ?_;intro a d vs n sl cR;subst cR;intro ho hn rs)
 have hl:(s.heap.push { cls:=.type "slice",data:=.fields #[vl,vu,vk]}).IsList a vs:=(bt _ (Heap.get?_push_of_some _ ho) rfl n rfl)
 refine (iDDPPP ("list") _ slot_list_getitem.lookup hl.typeIs (wpAny_getItem_list_slice hl (Heap.IsSliceOf.new _ _ _ _) p1 p2 p3 h0 ?_ (by have:=rs.1;simp at this;lia)))
 have kp:∀ b o,s.heap.get? b=some o→(s.heap.push { cls:=.type "slice",data:=.fields #[vl,vu,vk]}).get? b=some o:=fun b o e=>Heap.get?_push_of_some _ e
 have I2:Base X own cells {s with heap:=s.heap.push { cls:=.type "slice",data:=.fields #[vl,vu,vk]}}:=I.keeps kp
 obtain ⟨own',c',b,B,rr,xx,pp⟩:=kD (Ψ:=Ψ) (t:=s.toks) (vs:=slicePick vs lo hi st) (xs:=gi xs lo hi st) I2 ((sN rs).mono fun Z Z q=>q.keeps kp) h
 exact ⟨own',c',b,B,rr,Ext.trans (.of_keeps kp) xx,pp⟩
theorem rp{x:Str}{lo hi:Option Int}(hz:x.length≤sizeLine)(h:Ψ (.str (Txt.slice x lo hi)) cells):rm X A (.str x) lo hi none Ψ cells:=fun o vl vu vk own s I r p1 p2 p3=>by
 refine RV.e1 r rfl fun Z=>?_
 cases p3
 have kk:KeptH (fun h=>∀ b o,s.heap.get? b=some o→h.get? b=some o):=fun h ob k b o e=>Heap.get?_push_of_some _ (k b o e)
 have fin:∀ y h' t k,(∀ b o,s.heap.get? b=some o→h'.get? b=some o)→Ψ (.str y) cells→Done X own cells s.heap Ψ (.str y t) {s with heap:=h',toks:=k}:=fun y h' t k kp q=>mb_end (b:=.str y) I rfl kp (.str _ _) q
 cases p1 <;> cases p2
 ·exact SBH.sliceItem_nn kk (fun Z Z e=>e) (fun h' t' k kp=>fin _ h' t' k kp h) hz
 ·exact SBH.sliceItem_ns kk (fun Z Z e=>e) (fun h' t' k kp=>fin _ h' t' k kp h) hz
 ·exact SBH.sliceItem_sn kk (fun Z Z e=>e) (fun h' t' k kp=>fin _ h' t' k kp h) hz
 ·exact SBH.sliceItem_ss kk (fun Z Z e=>e) (fun h' t' k kp=>fin _ h' t' k kp h) hz
theorem gx{elts:List Expr}{p:Pos}{Ψ:V→Loc→Cells→Prop}(h:yy X A env (spliced (backTo p (starEach elts env))) (fun vs l c=>vs.length≤sizeLine∧Ψ (.list vs) l c) loc cells):mE X A env (eval (.List elts p) env) Ψ loc cells:=fun own s I =>
 wpAny_List (h.use I fun aL l1 c1 xs vs s1 I1 r1 x1 h1=>⟨by rw [r1.1];exact h1.1,by
  obtain ⟨own',c',b,B,rr,xx,pp⟩:=kD (Ψ:=fun r c=>Ψ r l1 c) (t:=s1.toks) (vs:=vs.toArray) (xs:=xs) I1.base (by simpa using r1) h1.2
  exact ⟨own',l1,c',b,⟨B,I1.ok,I1.fr.ext xx⟩,rr,x1.trans xx.gI,pp⟩⟩)
theorem gZ{elts:List Expr}{k:Nat}{p:Pos}{Ψ:V→Loc→Cells→Prop}(h:yy X A env (spliced (backTo p (starEach elts env))) (fun vs l c=>vs.length≤sizeLine∧Ψ (.tuple vs) l c) loc cells):mE X A env (eval (.Tuple elts k p) env) Ψ loc cells:=fun own s I =>
 wpAny_Tuple (h.use I fun aL l1 c1 xs vs s1 I1 r1 x1 h1=>⟨by rw [r1.1];exact h1.1,by
  obtain ⟨own',c',b,B,rr,xx,pp⟩:=qp (Ψ:=fun r c=>Ψ r l1 c) (t:=s1.toks) (vs:=vs.toArray) (xs:=xs) I1.base (by simpa using r1) h1.2
  exact ⟨own',l1,c',b,⟨B,I1.ok,I1.fr.ext xx⟩,rr,x1.trans xx.gI,pp⟩⟩)
end
section
variable {X:Cx}{A:Around}{env:Env}{loc:Loc}{cells:Cells}{own:Own}{s:Shared}{Ψ:V→Cells→Prop}{Φ:Bool→Cells→Prop}
noncomputable def Iz (ns:List Int):List V:=ns.map V.int
theorem kF{h:Heap}:∀ {ns:List Int} {vs:List Value},bP own h vs (Iz ns)→IntsAre vs ns
 | [],vs,r=>by rw [r.qk];exact .nil
 | n::ns,vs,r=>by
  (refine xDDPPP (bP.cK r) ?_;intro v jB cw;subst cw;intro a b)
  cases a
  exact .cons _ _ (kF b)
theorem sO{h:Heap}{vs:List Value}{ns:List Int}(hi:IntsAre vs ns):bP own h vs (Iz ns):=by
 induction hi with
 | nil=>exact .nil
 | cons n t _ ih=>exact .cons (.int n t) ih
theorem ot{h:Heap}{vs:Array Value}{ns:List Int}(r:bP own h vs.toList (Iz ns)):∃ xs:Array (Int×Tok),vs=intItems xs∧xs.toList.map (·.1)=ns:=by
 have hi:=kF r
 (refine ba hi.allInts.items ?_;intro xs e)
 have e':vs=intItems xs:=by rw [← e]
 refine (iDPP xs e' ?_)
 rw [← nums_intItems,← e'];exact hi.numsOf
theorem fC{xs:List V}(hz:xs.length≤sizeLine)(h:Ψ (.int xs.length) cells):aE X A (.bi "len") [.list xs] Ψ cells:=fun fv vs own s I Gv=>aK Gv fun rf r=>by
 refine RV.e0 rf rfl ?_
 (refine xDPP r.one ?_;intro v cR;subst cR;intro r1)
 (refine aG r1.cM ?_;intro a d vs n sl fu;subst fu;intro ho hn rs)
 have z:vs.size=xs.length:=by simpa using rs.1
 refine Calls.call_len_list (items:=vs) (bt _ ho rfl n rfl) (by unfold sizeLine at hz;lia) ?_
 rw [z]
 exact az I (.int _ _) h
theorem mw{xs:List V}(hz:xs.length≤sizeLine)(h:Ψ (.int xs.length) cells):aE X A (.bi "len") [.tuple xs] Ψ cells:=fun fv vs own s I Gw=>aK Gw fun rf r=>by
 refine RV.e0 rf rfl ?_
 (refine xDPP r.one ?_;intro v gp;subst gp;intro r1)
 (refine aG r1.gc ?_;intro a d vs n sl nA;subst nA;intro ho hn rs)
 have z:vs.size=xs.length:=by simpa using rs.1
 refine PyProof.Rows.len_tuple (items:=vs) (bt _ ho rfl n rfl) (by unfold sizeLine at hz;lia) ?_
 rw [z]
 exact az I (.int _ _) h
theorem gP{x:Str}(hz:x.length≤sizeLine)(h:Ψ (.int x.length) cells):aE X A (.bi "len") [.str x] Ψ cells:=fun fv vs own s I ⟨rf,r⟩=>by
 refine RV.e0 rf rfl ?_
 (refine xDPP r.one ?_;intro v qo;subst qo;intro r1)
 refine RV.e1 r1 rfl fun Z=>?_
 exact PyProof.Rows.len_str (by unfold sizeLine at hz;lia) (az I (.int _ _) h)
theorem BS{ns:List Int}(hh:A.handled=none)(h:Ψ (.int ns.sum) cells):aE X A (.bi "sum") [.list (Iz ns)] Ψ cells:=fun fv vs own s I Gx=>aK Gx fun rf r=>by
 refine RV.e0 rf rfl ?_
 (refine xDPP r.one ?_;intro v gX;subst gX;intro r1)
 (refine aG r1.cM ?_;intro a d vs n sl m8;subst m8;intro ho hn rs)
 (refine xDPP (ot rs) ?_;intro xs lH;subst lH;intro e)
 refine sum_intListG hh ⟨_,ho,rfl,n,rfl⟩ fun h' tk t' kp=>?_
 rw [preSum_eq,List.take_of_length_le (by simp),e]
 exact mb_end I rfl kp (.int _ _) h
theorem BU{ns:List Int}{M:Int}(hh:A.handled=none)(hM:M∈ns)(hm:∀ a∈ns,a≤M)(h:Ψ (.int M) cells):aE X A (.bi "max") [.list (Iz ns)] Ψ cells:=fun fv vs own s I Gy=>aK Gy fun rf r=>by
 refine RV.e0 rf rfl ?_
 (refine xDPP r.one ?_;intro v pL;subst pL;intro r1)
 (refine aG r1.cM ?_;intro a d vs n sl nV;subst nV;intro ho hn rs)
 (refine xDPP (ot rs) ?_;intro xs w6;subst w6;intro e)
 have CO:0<xs.size:=by
  have:0<(xs.toList.map (·.1)).length:=by rw [e];exact List.length_pos_of_mem hM
  simpa using this
 refine max_intList hh ⟨_,ho,rfl,n,rfl⟩ CO fun v h' tk hv kp=>?_
 (refine ba (intItems_at hv) ?_;intro t CP;subst CP)
 (refine aK (argBest_gt (numAt xs) (xs.size - 1)) ?_;intro q1 q2)
 have pP:∀ i,i<xs.size→numAt xs i∈ns:=fun i hi=>by
  rw [← e];unfold numAt;rw [Array.getElem?_eq_getElem hi];exact List.mem_map.mpr ⟨xs[i],Array.getElem_mem_toList hi,rfl⟩
 have le:=hm _ (pP _ (by exact Nat.lt_of_le_pred CO q1:argBest (fun i j=>decide (numAt xs i > numAt xs j)) (xs.size - 1)<xs.size))
 have ge:M≤numAt xs (argBest (fun i j=>decide (numAt xs i > numAt xs j)) (xs.size - 1)):=by
  rw [← e] at hM
  (refine xDPP (List.mem_map.mp hM) ?_;intro p hp Gz;subst Gz)
  obtain ⟨i,hi,JD⟩:=List.getElem_of_mem hp
  have Ge:i<xs.size:=by simpa using hi
  have:=q2 i (by exact (Nat.le_sub_one_iff_lt CO).mpr hi)
  unfold numAt at this ⊢
  rw [Array.getElem?_eq_getElem Ge] at this
  simpa [← JD] using this
 rw [show numAt xs (argBest (fun i j=>decide (numAt xs i > numAt xs j)) (xs.size - 1))=M by exact Int.le_antisymm le ge]
 exact mb_end I rfl kp (.int _ _) h
theorem CQ{a b:Int}(hh:A.handled=none)(h:Ψ (.int (if b<a then b else a)) cells):aE X A (.bi "min") [.int a,.int b] Ψ cells:=fun fv vs own s I ⟨rf,r⟩=>by
 refine RV.e0 rf rfl ?_
 (refine xDDPPP r.two ?_;intro v u CA;subst CA;intro r1 r2)
 refine RV.e1 r1 rfl fun Z=>?_;refine RV.e1 r2 rfl fun Z=>?_
 refine min_two_ints hh fun h' tk kp=>?_
 split
 ·rename_i q;rw [if_pos q] at h;exact mb_end I rfl kp (.int _ _) h
 ·rename_i q;rw [if_neg q] at h;exact mb_end I rfl kp (.int _ _) h
theorem lK{xs:List V}{a:V}(ha:a=.list xs∨a=.tuple xs)(hz:xs.length≤sizeLine)(h:Ψ (.list xs) cells):aE X A (.ty "list") [a] Ψ cells:=fun fv vs own s I GA=>aK GA fun rf r=>by
 refine RV.e0 rf rfl ?_
 (refine xDPP r.one ?_;intro v yN;subst yN;intro r1)
 have fin:∀ (a:Addr) d (T:String) vs n sl,(T="list"∨T="tuple")→s.heap.get? a=some ⟨.type T,d,.seq vs n,sl⟩→bP own s.heap vs.toList xs→wpAny (model X.prog X.w) A (call (.type "list") [.ref a]) (Done X own cells s.heap Ψ) dh s:=by
  intro a d T vs n sl hT ho rs
  have z:vs.size=xs.length:=by simpa using rs.1
  refine call_list_seq a hT ho rfl rfl (fun h' c' kp e=>?_) (by lia)
  refine mb_end (b:=.list xs) I (t:=s.toks) rfl kp ?_ h
  exact .jR e (I.fresh (ao _)).1 (rs.mono fun Z Z q=>q.keeps kp)
 rcases ha with rfl | rfl
 ·(refine aG r1.cM ?_;intro a d vs n sl yO;subst yO;intro ho hn rs)
  exact fin a d _ vs n sl (.inl rfl) ho rs
 ·(refine aG r1.gc ?_;intro a d vs n sl yP;subst yP;intro ho hn rs)
  exact fin a d _ vs n sl (.inr rfl) ho rs
theorem uH{xs:List V}(hz:xs.length≤sizeLine)(h:Ψ (.tuple xs) cells):aE X A (.ty "tuple") [.list xs] Ψ cells:=fun fv vs own s I GB=>aK GB fun rf r=>by
 refine RV.e0 rf rfl ?_
 (refine xDPP r.one ?_;intro v CR;subst CR;intro r1)
 (refine aG r1.cM ?_;intro a d vs n sl CS;subst CS;intro ho hn rs)
 have z:vs.size=xs.length:=by simpa using rs.1
 refine call_tuple_list (items:=vs) (bt _ ho rfl n rfl) (fun h' kp=>?_) (by lia)
 have yQ:∀ b o,s.heap.get? b=some o→(h'.push { cls:=.type "tuple",data:=.seq vs}).get? b=some o:=fun b o e=>Heap.get?_push_of_some _ (kp b o e)
 refine mb_end (b:=.tuple xs) I (t:=s.toks) rfl yQ ?_ h
 refine .rh (Heap.get?_push_size _ rfl) ?_ (rs.mono fun Z Z q=>q.keeps yQ)
 refine (I.fresh ?_).1
 cases q:s.heap.get? h'.objs.size with
 | none=>rfl
 | some o=>exact absurd (Heap.lt_size (kp _ _ q)) (Nat.lt_irrefl _)
theorem uI{a b c:Int}{n:Nat}(hh:A.handled=none)(yH:Builtin.Range.small a b c=true)(hn:Builtin.Range.rangeSize a b c=n)(hlen:n≤2 ^ 24)(h:Ψ (.list (ck a c n)) cells):aE X A (.ty "list") [.sv a b c] Ψ cells:=fun fv vs own s I GC=>aK GC fun rf r=>by
 refine RV.e0 rf rfl ?_
 (refine xDPP r.one ?_;intro v GD;subst GD;intro r1)
 cases r1 with
 | sv ho HV =>
  refine call_list_range hh ho yH hn hlen fun h' tk acc c' kp e it=>?_
  refine mb_end (b:=.list (ck a c n)) I rfl kp ?_ h
  refine .list e (I.fresh (ao _)).1 ?_ ?_
  ·rw [it.1];simp [ck]
  ·intro i v x p q
   (refine ba (it.2 i v p) ?_;intro t GF;subst GF)
   have:i<n:=by have:=(Array.getElem?_eq_some_iff.mp p).1;rw [it.1] at this;exact this
   simp only [ck,List.getElem?_map,List.getElem?_range this,Option.map_some,Option.some.injEq] at q
   rw [← q]
   exact .int _ _
end
section
variable {X:Cx}{A:Around}{env:Env}{loc:Loc}{cells:Cells}{own own':Own}{s:Shared}{h':Heap}{Ψ:V→Cells→Prop}{Φ:Bool→Cells→Prop}
theorem cy{elts:List Expr}{p:Pos}{Ψ:V→Loc→Cells→Prop}(h:yy X A env (spliced (backTo p (starEach elts env))) (fun vs l c=>vs.length≤sizeLine∧∀ a,c a=none→Ψ (.ref a) l (upd c a (some (.list vs)))) loc cells) :
  mE X A env (eval (.List elts p) env) Ψ loc cells:=fun own s I =>
 wpAny_List (h.use I fun aL l1 c1 xs vs s1 I1 r1 x1 h1=>⟨by rw [r1.1];exact h1.1,by
  have e0:=ao s1.heap
  have kp:∀ b o,s1.heap.get? b=some o→(s1.heap.push { cls:=.type "list",data:=.seq vs.toArray}).get? b=some o:=fun b o e=>Heap.get?_push_of_some _ e
  (refine aP (I1.base.jh (t:=s1.toks) (ob:={ cls:=.type "list",data:=.seq vs.toArray}) (c':=.list xs) rfl (eB vs.toArray 0 (Heap.get?_push_size _ rfl) (by simpa using r1.mono fun v x r=>vM e0 kp r))) ?_;intro B x n)
  exact ⟨_,l1,_,.ref _,⟨B,I1.ok,I1.fr.ext x⟩,.ref _,x1.trans x.gI,h1.2 _ n⟩⟩)
noncomputable def RM (own:Own) (h:Heap) (p:Value×List Value) (q:V×List V):Prop:=RV own h p.1 q.1∧bP own h p.2 q.2
noncomputable def jC (X:Cx) (A:Around) (a:V) (name:Str) (Θ:V→List V→Cells→Prop) (cells:Cells):Prop:=∀ v pl,mb X A RM (fun own h=>RV own h v a) (getMethod v name pl) (fun q c=>Θ q.1 q.2 c) cells
theorem uJ{own:Own}{h₀:Heap}{f:V}{fv:Value}(hk:Keeps X f)(r:RV own h₀ fv f)(h:Heap)(Y:X.K.In h):∃ k,(k=Keeper.frame∨k=Keeper.machine∨k=Keeper.boundFrame)∧PySem.W.Looks (model X.prog X.w) h (keeperOf fv) k:=by
 cases r with
 | bi id=>exact (iDPP _ (.inr (.inl rfl)) PySem.W.Looks.now)
 | ty n=>exact (iDPP _ (.inr (.inl rfl)) PySem.W.Looks.now)
 | ref a=>exact PySem.W.keeps_K hk h Y
 | _=>exact hk.elim
theorem jT{own:Own}{s:Shared}{f:V}{fv:Value}{first:List Value}{pos:Pos}{args:List (Bool×Sem Value)}{Q:Value→Shared→Prop}{E:Value→Shared→Prop}(hk:Keeps X f)(r:RV own s.heap fv f)(h:wpAny (model X.prog X.w) A (spliced args) (fun vs s₁=>X.K.In s₁.heap∧wpAny (model X.prog X.w) A (call fv (first++vs)) Q E s₁) E s)(ez:args.any (·.1)=false) :
  wpAny (model X.prog X.w) A (callWith pos fv first args []) Q E s:=by
 refine PySem.W.callWith_of (P:=X.K.In) (by rw [ez];rfl) (fun h Y=>uJ hk r h Y) ?_
 cases args with
 | nil =>
  have h':wpAny (model X.prog X.w) A (pure []:Sem (List Value)) (fun vs s₁=>X.K.In s₁.heap∧wpAny (model X.prog X.w) A (call fv (first++vs)) Q E s₁) E s:=h
  exact iQ h' fun q=>PyProof.Rows.evalArgs_nil3 q
 | cons x rest =>
  obtain ⟨b,x⟩:=x
  cases b with
  | true=>simp at ez
  | false=>exact Calls.evalArgs_plain h
noncomputable abbrev JE (X:Cx) (A:Around) (f:V) (first:List V) (Ψ:V→Loc→Cells→Prop) (as:List V) (l:Loc) (c:Cells):Prop:=aE X A f (first++as) (fun r c3=>Ψ r l c3) c
noncomputable abbrev JF (X:Cx) (A:Around) (env:Env) (pos:Pos) (args:List Expr) (Ψ:V→Loc→Cells→Prop) (l:Loc) (f:V) (first:List V) (c:Cells):Prop:=Keeps X f∧yy X A env (spliced (backTo pos (starEach args env))) (JE X A f first Ψ) l c
noncomputable abbrev KM (X:Cx) (A:Around) (env:Env) (name:Str) (pos:Pos) (args:List Expr) (Ψ:V→Loc→Cells→Prop) (ov:V) (l:Loc) (c:Cells):Prop:=jC X A ov name (JF X A env pos args Ψ l) c
theorem aH{o:Expr}{name:Str}{apos pos:Pos}{args:List Expr}{pl:Sem Bool}{Ψ:V→Loc→Cells→Prop}(h:mE X A env (eval o env) (KM X A env name pos args Ψ) loc cells)(ez:autoParam ((backTo pos (starEach args env)).any (·.1)=false) aR)(he:autoParam (eval (.Call (.Attribute o name apos) args [] pos) env=(do let ov ← eval o env;standAt apos.atName;let (f,first) ← holding [ov] (getMethod ov name pl);callWith pos f first (backTo pos (starEach args env)) [])) aR) :
  mE X A env (eval (.Call (.Attribute o name apos) args [] pos) env) Ψ loc cells:=fun own s I=>by
 refine MethodCall_ (pl:=pl) (h.use I fun aL l1 c1 ov v1 s1 I1 r1 x1 h1=>?_) he
 refine (h1 v1 pl).pC I1 r1 fun aI c2 q fx s2 I2 r2 x2 gX=>aK gX fun hk h2=>?_
 obtain ⟨f,first⟩:=q
 obtain ⟨fv,fs⟩:=fx
 (refine aK r2 ?_;try clear r2;intro ra rb)
 refine jT hk ra (h2.use I2 fun cZ l3 c3 as vs s3 I3 r3 x3 h3=>⟨I3.base.K,?_⟩) ez
 refine (h3 fv (fs++vs)).pC I3 ⟨ra.ext I2 x3,(rb.ext I2 x3).append r3⟩ fun dw c4 b v4 s4 I4 r4 x4 h4=>⟨dw,l3,c4,b,I4,r4,x1.trans (x2.trans (x3.trans x4)),h4⟩
theorem eZ{a:V}{T:String}{name:Str}{id:String}{Θ:V→List V→Cells→Prop}(pa:PlainAttrs T)(slot:Slot T name id)(yR:typeOf (.builtin id)=pure (.type "method_descriptor"))(hT:∀ own s v,Base X own cells s→RV own s.heap v a→s.TypeIs v T∧∀ a,v=.ref a→∃ o,s.heap.get? a=some o∧o.dict=none)(h:Θ (.bi id) [a] cells):jC X A a name Θ cells:=fun v pl own s I r =>
 getMethod_builtin (hT own s v I r).1 pa slot yR (hT own s v I r).2 ⟨own,cells,(.bi id,[a]),I,⟨.bi id,.cons r .nil⟩,.refl,h⟩
theorem fD{a:Addr}{xs:List V}{name:Str}{id:String}{Θ:V→List V→Cells→Prop}(hc:cells a=some (.list xs))(slot:Slot "list" name id)(yR:typeOf (.builtin id)=pure (.type "method_descriptor"))(h:Θ (.bi id) [.ref a] cells):jC X A (.ref a) name Θ cells :=
 eZ (T:="list") PySem.F.plainAttrs_list slot yR (fun own s v I r=>by
  refine RV.e0 r rfl ?_
  obtain ⟨oa,vs,n,e,rs⟩:=I.cell a _ hc
  exact ⟨⟨_,e,rfl⟩,fun b q=>by cases q;exact (iDPP _ e rfl)⟩) h
theorem sP{x:Str}{name:Str}{id:String}{Θ:V→List V→Cells→Prop}(slot:Slot "str" name id)(yR:typeOf (.builtin id)=pure (.type "method_descriptor"))(h:Θ (.bi id) [.str x] cells):jC X A (.str x) name Θ cells :=
 eZ (T:="str") PySem.F.plainAttrs_str slot yR (fun own s v I r=>by
  refine RV.e1 r rfl fun Z=>?_
  exact ⟨typeIs_str _ _ _,fun b q=>by cases q⟩) h
end
noncomputable def bI:Stmt→List Stmt
 | .FunctionDef _ _ b ..=>b
 | _=>[]
noncomputable def bG:Stmt→Arguments
 | .FunctionDef _ a ..=>a
 | _=>default
noncomputable def au:Stmt→Scope
 | .FunctionDef _ _ _ _ _ _ s ..=>s
 | _=>default
noncomputable def fnName:Stmt→Str
 | .FunctionDef n ..=>n
 | _=>default
noncomputable def vQ:Stmt→List Stmt
 | .ClassDef _ _ _ b ..=>b
 | _=>[]
noncomputable def b9 (K:PySem.W.Frag) (a:Addr) (qual:Str) (s:Stmt):Prop:=∃ doc pm an cdv ct,FnAt K a (fnName s) qual (bG s) (bI s) (au s) .none .none doc pm an cdv ct
noncomputable abbrev Fn (X:Cx) (a:Addr) (qual:Str) (s:Stmt):Prop:=b9 X.K a qual s
noncomputable def Sub (l0 l:Loc):Prop:=∀ x v,l0.lookup x=some v→l.lookup x=some v
theorem Sub.rfl{l:Loc}:Sub l l:=fun Z Z e=>e
theorem Sub.cons{l0 l:Loc}{x:Str}{v:V}(h:Sub l0 l):Sub ((x,v)::l0) ((x,v)::l):=fun y u e=>by
 rw [lookup_cons] at e ⊢
 split at e
 ·rename_i q;rw [if_pos q];exact e
 ·rename_i q;rw [if_neg q];exact h y u e
theorem Sub.nil{l:Loc}:Sub [] l:=fun Z Z e=>by simp at e
theorem Sub.of{l0 l:Loc}(h:subs l0 l):Sub l0 l:=ml h
theorem Sub.put{l0 l:Loc}{x:Str}{v:V}(hx:l.lookup x=some v)(h:Sub l0 l):Sub ((x,v)::l0) l:=fun y u e=>by
 rw [lookup_cons] at e
 split at e
 ·rename_i q;have:=eq_of_beq q;subst this;cases e;exact hx
 ·exact h y u e
section
variable {X:Cx}{A:Around}{env:Env}{loc:Loc}{cells:Cells}{Ψ:V→Cells→Prop}
theorem eg.le{α β:Type}{R:Own→Heap→α→β→Prop}{t:Sem α}{Ψ:β→Loc→Cells→Prop}{l0:Loc}(h:Sub l0 loc)(H:eg X A env R t Ψ l0 cells):eg X A env R t Ψ loc cells :=
 fun own s I=>H own s (I.sub h)
theorem Sub.gO{x y:Str}{v:V}(hv:IsPair v){l l':Loc}(h:Sub l l'):Sub (gO x y v l) (gO x y v l'):=by
 (refine eG hv ?_;try clear hv;intro a b aV;subst aV)
 exact Sub.cons (Sub.cons h)
theorem lL{a b c:Int}{t u v:Tok}{own:Own}{s:Shared}{k:Nat}(I:Base X own cells s)(h:Ψ (.sv a b c) cells) :
  Done X own cells s.heap Ψ (.ref s.heap.objs.size) {s with heap:=s.heap.push { cls:=.type "range",data:=.fields #[.int a t,.int b u,.int c v]},toks:=k} :=
 mb_end (b:=.sv a b c) I rfl (fun b o e=>Heap.get?_push_of_some _ e) (.sv (Heap.get?_push_size _ rfl) (I.fresh (ao _)).1) h
theorem dz{n:Int}(h:Ψ (.sv 0 n 1) cells):aE X A (.ty "range") [.int n] Ψ cells:=fun fv vs own s I ⟨rf,r⟩=>by
 refine RV.e0 rf rfl ?_
 (refine xDPP r.one ?_;intro v bj;subst bj;intro r1)
 refine RV.e1 r1 rfl fun Z=>?_
 exact call_range_1 (lL I h)
theorem yS{a b:Int}(h:Ψ (.sv a b 1) cells):aE X A (.ty "range") [.int a,.int b] Ψ cells:=fun fv vs own s I ⟨rf,r⟩=>by
 refine RV.e0 rf rfl ?_
 (refine xDDPPP r.two ?_;intro v u cw;subst cw;intro r1 r2)
 refine RV.e1 r1 rfl fun Z=>?_;refine RV.e1 r2 rfl fun Z=>?_
 exact call_range_2 (lL I h)
theorem yT{a b c:Int}(hc:c≠0)(hp:Builtin.divisionGoesByPylong (b - a) c=false)(h:Ψ (.sv a b c) cells):aE X A (.ty "range") [.int a,.int b,.int c] Ψ cells:=fun fv vs own s I ⟨rf,r⟩=>by
 refine RV.e0 rf rfl ?_
 (refine xDDPPP r.cK ?_;intro v jB gp;subst gp;intro r1 r)
 (refine xDDPPP r.two ?_;intro u w nA;subst nA;intro r2 r3)
 refine RV.e1 r1 rfl fun Z=>?_;refine RV.e1 r2 rfl fun Z=>?_;refine RV.e1 r3 rfl fun Z=>?_
 exact call_range_3 hc (lL I h) (.inl hp)
theorem mz:∀ {ifs:List Expr} {Ψ Ψ':Bool→Loc→Cells→Prop} {loc:Loc} {cells:Cells},(∀ b l c,Ψ b l c→Ψ' b l c)→eA X A env ifs Ψ loc cells→eA X A env ifs Ψ' loc cells
 | [],_,_,_,_,h,H=>h _ _ _ H
 | e::r,_,_,_,_,h,H=>eg.mono H fun ok l c q=>by
  by_cases hk:ok=true
  ·rw [if_pos hk] at q ⊢;exact mz h q
  ·rw [if_neg hk] at q ⊢;exact h _ _ _ q
theorem aM{bind:V→Loc→Loc}{ifs:List Expr}{elt:Expr}{scope:Scope}{items:List V}{bc lc:Loc}{c2:Cells}{Ψ:V→Cells→Prop}(p:V→Bool)(f:V→V)(hlen:items.length≤sizeLine)(hl:c8 scope bc=lc)(turn:∀ L cs (i:Nat) v,items[i]?=some v→eA X A (compEnv scope env L cs) ifs (fun ok l c=>l=bind v lc∧c=c2∧ok=p v∧(ok=true→mE X A (compEnv scope env L cs) (eval elt (compEnv scope env L cs)) (fun r l' c'=>r=f v∧l'=bind v lc∧c'=c2) (bind v lc) c2)) (bind v lc) c2)(h:Ψ (.list ((items.filter p).map f)) c2):gN X A env bind ifs elt scope items bc c2 Ψ:=by
 refine (nu hlen (fun i acc c=>i≤items.length∧acc=((items.take i).filter p).map f∧c=c2) (⟨Nat.zero_le _,by simp,rfl⟩) (fun i acc c CB=>aP CB fun q1 q2 Z=>?_) (fun L cs i v acc c hv GG=>aP GG fun q1 q2 q3=>?_) (fun xs c yN=>aP yN fun Z q2 q3=>?_))
 ·rw [q2,List.length_map]
  exact Nat.le_trans (List.length_filter_le _ _) (by simp;exact Nat.min_le_left i items.length)
 ·subst q2 q3 hl
  have hi:i<items.length:=(List.getElem?_eq_some_iff.mp hv).1
  have e:items.take (i+1)=items.take i++[v]:=by rw [List.take_add_one,hv];rfl
  refine mz ?_ (turn L cs i v hv)
  (intro ok l c m8;refine bM m8 ?_;clear m8;intro lH;subst lH;intro pL;subst pL;intro nV;subst nV;intro h)
  by_cases hp:p v=true
  ·rw [if_pos hp]
   refine (h hp).mono fun r l' c' yO=>aP yO fun r1 r2 r3=>(aO r2 (by exact Nat.succ_le_of_lt hi) ?_ r3)
   rw [e,List.filter_append,List.map_append,r1]
   simp [hp]
  ·rw [if_neg hp]
   refine (aO rfl (by exact Nat.succ_le_of_lt hi) ?_ rfl)
   rw [e,List.filter_append,List.map_append]
   simp [hp]
 ·subst q2 q3
  rw [List.take_length];exact h
noncomputable abbrev Ep (X:Cx) (A:Around) (env:Env) (target:Expr) (body:List Stmt) (bind:V→Loc→Loc) (Ψ:MF→Loc→Cells→Prop) (items:List V) (l:Loc) (c:Cells):Prop :=
 ∃ (Li:Nat→Loc) (Ci:Nat→Cells→Prop),(Sub (Li 0) l∧Ci 0 c)∧(∀ v∈items,pM X A env target v (bind v))∧(∀ v∈items,∀ l l',Sub l l'→Sub (bind v l) (bind v l')) ∧
   (∀ i v c,items[i]?=some v→Ci i c→mS X A env (execs body env) (qY (fun l c=>Sub (Li (i+1)) l∧Ci (i+1) c) Ψ) (bind v (Li i)) c)∧∀ l c,Sub (Li items.length) l→Ci items.length c→Ψ .next l c
theorem cH{target:Expr}{p:Pos}{iter:Expr}{body:List Stmt}{bind:V→Loc→Loc}{Ψ:MF→Loc→Cells→Prop}(h:eC X A env target iter (Ep X A env target body bind Ψ) loc cells)(hs:autoParam (∀ x,foldedSetIterable iter env x=pure x) aIR):mS X A env (exec (.For target iter body [] p) env) Ψ loc cells:=by
 refine Ec (bind:=bind) ?_ hs
 intro own s I
 refine wpAny_mono (h own s I) (fun xv s1 h1=>wpAny_mono h1 (fun it s2 yP=>m6 yP fun own' eJ cells' items I' x' S Li Ci j0 ha hb turn done =>
  (pE own' eJ cells' items I' x' S (fun i l c=>Sub (Li i) l∧Ci i c) j0 ha (fun i v l c hv CR=>aK CR fun hl hc=>eg.le (hb v (List.mem_of_getElem? hv) _ _ hl) (turn i v c hv hc)) (fun l c CS=>aK CS fun hl hc=>done l c hl hc))) fun Z Z e=>e) fun Z Z e=>e
theorem cb{k:Nat}{a:Addr}{qual:Str}{st:Stmt}{names:List Str}{as:List V}{Ψ:V→Cells→Prop}(F:Fn X a qual st)(hA:Rm X A (k+1))(hb:∀ doc pm an cdv ct,∀ vs:List Value,vs.length=as.length→bindArgs (PySem.W.fnOf (fnName st) qual (bG st) (bI st) (au st) .none .none doc pm an cdv ct) ⟨vs,[]⟩=pure (names.zip vs))(h:∀ L cdv A',Rm (X.push L) A' k→mS (X.push L) A' (dF qual (au st) L a cdv) (execs (bI st) (dF qual (au st) L a cdv)) (Back Ψ) (names.zip as) cells)(dc:autoParam ((au st).kind=.function) aR)(wW:autoParam ((au st).isCoroutine=false) aR)(nX:autoParam ((au st).isGenerator=false) aR)(mq:autoParam (names.Nodup) aDK)(fz:autoParam ((au st).names.all (fun x=>x.2 != .free)=true) aDK)(jQ:autoParam (names.all (fun x=>(au st).names.lookup x == some .local||(au st).names.lookup x == some .cell)=true) aDK) :
  aE X A (.ref a) as Ψ cells:=by
 obtain ⟨doc,pm,an,cdv,ct,F⟩:=F
 exact sH F hA (hb doc pm an cdv ct) (fun L=>h L cdv _ (hA.deeper _ (by show (au st).kind≠_;rw [dc];decide) rfl)) dc wW nX mq fz jQ
noncomputable def nats (n:Nat):List V:=(List.range n).map fun (j:Nat)=>V.int j
theorem kG{x:Str}{p:Pos}{n:Nat}(hh:A.handled=none)(hn:n≤1000000):og X A (.Name x p) (.sv 0 n 1) (nats n) cells:=by
 have e:Builtin.Range.rangeSize 0 n 1=n:=by rw [rangeSize_one];split <;> lia
 have h:=sI (X:=X) (A:=A) (cells:=cells) (x:=x) (p:=p) (a:=0) (b:=n) (c:=1) hh (by unfold Builtin.Range.small;rw [e];simp [Builtin.Range.rangeFitsLong];lia) (by rw [e];exact Int.natCast_nonneg n)
 rw [e] at h
 have e2:ck 0 1 (n:Int).toNat=nats n:=by simp [ck,nats]
 rwa [e2] at h
noncomputable def downs (n:Nat):List V:=(List.range n).map fun (j:Nat)=>V.int ((n:Int) - 1 - j)
theorem AQ{x:Str}{p:Pos}{n:Nat}(hh:A.handled=none)(hn:n≤1000000):og X A (.Name x p) (.sv ((n:Int) - 1) (-1) (-1)) (downs n) cells:=by
 have e:Builtin.Range.rangeSize ((n:Int) - 1) (-1) (-1)=n:=by simp [Builtin.Range.rangeSize];lia
 have h:=sI (X:=X) (A:=A) (cells:=cells) (x:=x) (p:=p) (a:=(n:Int) - 1) (b:=-1) (c:=-1) hh (by unfold Builtin.Range.small;rw [e];simp [Builtin.Range.rangeFitsLong];lia) (by rw [e];exact Int.natCast_nonneg n)
 rw [e] at h
 have e2:ck ((n:Int) - 1) (-1) (n:Int).toNat=downs n:=by simp [ck,downs];intros;exact Int.add_neg_eq_sub
 rwa [e2] at h
theorem bC(n:Nat):(nats n).length=n:=by simp [nats]
theorem dA{n i:Nat}{v:V}(h:(nats n)[i]?=some v):i<n∧v=.int i:=by
 unfold nats at h
 rw [List.getElem?_map,Option.map_eq_some_iff] at h
 (refine xDPP h ?_;try clear h;intro j h1 h2)
 obtain ⟨h3,h4⟩:=List.getElem?_eq_some_iff.mp h1
 simp at h3 h4
 subst h4
 exact ⟨h3,h2.symm⟩
theorem dO{ns:List Int}{i:Nat}{v:V}(h:(Iz ns)[i]?=some v):∃ m,ns[i]?=some m∧v=.int m:=by
 unfold Iz at h
 rw [List.getElem?_map,Option.map_eq_some_iff] at h
 (refine xDPP h ?_;try clear h;intro m h1 h2)
 exact (iDPP m h1 h2.symm)
theorem ai(ns:List Int):(Iz ns).length=ns.length:=by exact Eq.symm (len_of_map_eq rfl)
theorem jU{e:Expr}{Ψ:Bool→Loc→Cells→Prop}(h:mT X A env (isTrue e env (eval e env)) Ψ loc cells):eA X A env [e] Ψ loc cells:=h.mono fun ok l c q=>by
 cases ok <;> simpa [eA] using q
theorem cN{Ψ:Bool→Loc→Cells→Prop}(h:Ψ true loc cells):eA X A env [] Ψ loc cells:=h
theorem nB{j n:Nat}(h:j<n):seqIndex? (j:Int) n=some j:=by
 unfold seqIndex?
 rw [if_neg (Int.not_lt.mpr (Int.natCast_nonneg j))]
 show (if (decide (0≤(j:Int))&&decide ((j:Int)<(n:Int)))=true then some j else none)=some j
 rw [decide_eq_true (Int.natCast_nonneg j),decide_eq_true (Int.ofNat_lt.mpr h)]
 rfl
theorem sQ{n:Nat}:seqIndex? (-1) (n+1)=some n:=by
 unfold seqIndex?
 simp
 lia
theorem iS{xs:List V}{j:Nat}{x:V}(hx:xs[j]?=some x)(hz:xs.length≤1000000)(h:Ψ x cells):iw X A (.list xs) (.int j) Ψ cells:=by
 have hj:j<xs.length:=(List.getElem?_eq_some_iff.mp hx).1
 refine CK (by exact Int.neg_ofNat_le_natCast (2 ^ 63) j) (by lia) (j:=j) (nB hj) hx h
theorem ou{α:Type}(xs:List α)(a:Nat):∀ k,(List.range k).filterMap (fun j=>xs[a+j]?)=(xs.drop a).take k
 | 0=>by simp
 | k+1=>by
  rw [List.range_succ,List.filterMap_append,ou xs a k,List.take_add_one,List.getElem?_drop]
  rw [List.filterMap_cons,List.filterMap_nil]
  cases xs[a+k]? <;> rfl
theorem jD{α:Type}(xs:List α)(a b:Nat):(sliceRange a b 1).filterMap (xs[·]?)=(xs.drop a).take (b - a):=by
 have:sliceRange a b 1=(List.range (b - a)).map (fun j=>a+j):=by
  unfold sliceRange
  have e:(if (1:Int) > 0 then (if (a:Int)<b then ((b:Int) - a+1 - 1) / 1 else 0) else (if (a:Int) > b then ((a:Int) - b - 1 - 1) / (-1) else 0)).toNat=b - a:=by
   rw [if_pos (by decide)]
   split
   ·rw [Int.ediv_one];lia
   ·lia
  dsimp only
  rw [e]
  refine List.map_congr_left fun j Z=>?_
  lia
 rw [this,List.filterMap_map]
 exact ou xs a _
theorem uK(xs:List V):gi xs (some (-1)) none none=xs.getLast?.toList:=by
 have e1:(sliceBounds (some (-1)) none none xs.length).1=((xs.length - 1:Nat):Int):=by unfold sliceBounds;simp;lia
 have e2:(sliceBounds (some (-1)) none none xs.length).2.1=(xs.length:Int):=by exact Int.mem_toNat?.mp rfl
 have e3:(sliceBounds (some (-1)) none none xs.length).2.2=1:=by rfl
 unfold gi
 rw [e1,e2,e3,jD,List.take_of_length_le (by simp)]
 cases xs with
 | nil=>rfl
 | cons x r =>
  rw [List.drop_eq_getElem_cons (by exact Nat.lt_add_one ((x::r).length - 1)),List.drop_of_length_le (by exact Nat.le_refl (x::r).length),List.getLast?_eq_some_getLast (by exact List.cons_ne_nil x r),List.getLast_eq_getElem]
  rfl
theorem jV(xs:List V)(a:Nat)(h:a≤xs.length):gi xs (some a) none none=xs.drop a:=by
 have e1:(sliceBounds (some (a:Int)) none none xs.length).1=(a:Int):=by unfold sliceBounds;simp;split <;> lia
 have e2:(sliceBounds (some (a:Int)) none none xs.length).2.1=(xs.length:Int):=by exact Int.mem_toNat?.mp rfl
 have e3:(sliceBounds (some (a:Int)) none none xs.length).2.2=1:=by rfl
 unfold gi
 rw [e1,e2,e3,jD,List.take_of_length_le (by simp)]
theorem yU{t:Sem Value}{Ψ:V→Loc→Cells→Prop}{v:V}(h:mE X A env t (fun r l c=>r=v∧l=loc∧c=cells) loc cells)(k:Ψ v loc cells):mE X A env t Ψ loc cells :=
 h.mono fun r l c ⟨e1,e2,e3⟩=>by rw [e1,e2,e3];exact k
theorem yV{a:Addr}{xs:List V}{k:Int}{j:Nat}{x:V}(hc:cells a=some (.list xs))(CL:-(2 ^ 63)≤k)(CM:k<2 ^ 63)(hj:seqIndex? k xs.length=some j)(hx:xs[j]?=some x)(h:Ψ x cells):iw X A (.ref a) (.int k) Ψ cells:=fun o iv own s I ro ri=>by
 refine RV.e1 ri rfl fun Z=>?_;refine RV.e0 ro rfl ?_
 obtain ⟨oa,vs,n,ho,rs⟩:=I.cell a _ hc
 have hz:vs.size=xs.length:=by simpa using rs.1
 have DT:j<xs.length:=(List.getElem?_eq_some_iff.mp hx).1
 have hv:vs[j]?=some vs[j]:=Array.getElem?_eq_getElem (by exact Nat.lt_of_lt_of_eq DT (id (Eq.symm hz)))
 have r:=rs.2 j vs[j] x (by simp [DT,hz]) hx
 have fin:Done X own cells s.heap Ψ vs[j] s:=⟨own,cells,x,I,r,.refl,h⟩
 have hl:s.heap.IsList a vs:=(bt _ ho rfl n rfl)
 refine (iDDPPP ("list") _ slot_list_getitem.lookup hl.typeIs ?_)
 unfold seqIndex? at hj
 by_cases h0:k<0
 ·simp only [h0,if_true] at hj
  split at hj
  ·rename_i q
   obtain ⟨q1,q2⟩:0≤k+↑xs.length∧k+↑xs.length<xs.length:=by simpa using q
   have:=Option.some.inj hj
   refine wpAny_getItem_list_neg hl h0 (by lia) CL (x:=vs[j]) ?_ fin
   rw [show (k+(vs.size:Int)).toNat=j by lia];exact hv
  ·cases hj
 ·simp only [h0,if_false] at hj
  split at hj
  ·have:=Option.some.inj hj
   exact wpAny_getItem_list hl (by exact Int.not_lt.mp h0) CM (by rw [this];exact hv) fin
  ·cases hj
theorem CT{a:Addr}{xs:List V}{j:Nat}{x:V}(hc:cells a=some (.list xs))(hx:xs[j]?=some x)(hz:xs.length≤1000000)(h:Ψ x cells):iw X A (.ref a) (.int j) Ψ cells:=by
 have hj:j<xs.length:=(List.getElem?_eq_some_iff.mp hx).1
 refine yV hc (by exact Int.neg_ofNat_le_natCast (2 ^ 63) j) (by lia) (j:=j) (nB hj) hx h
theorem g_clast{a:Addr}{xs:List V}{x:V}(hc:cells a=some (.list (xs++[x])))(h:Ψ x cells):iw X A (.ref a) (.int (-1)) Ψ cells:=by
 refine yV hc (by exact Int.le.intro_sub (Nat.succ 9223372036854775807 - Nat.succ 0) rfl) (by exact Rat.intCast_lt_intCast.mp rfl) (j:=xs.length) (by rw [List.length_append];exact sQ) (by exact List.getElem?_concat_length) h
theorem rq(n:Nat):(downs n).length=n:=by simp [downs]
theorem w7{n i:Nat}{v:V}(h:(downs n)[i]?=some v):i<n∧v=.int ((n - 1 - i:Nat):Int):=by
 unfold downs at h
 rw [List.getElem?_map,Option.map_eq_some_iff] at h
 (refine xDPP h ?_;try clear h;intro j h1 h2)
 obtain ⟨h3,h4⟩:=List.getElem?_eq_some_iff.mp h1
 simp at h3 h4
 subst h4
 refine ⟨h3,?_⟩
 rw [← h2]
 congr 1
 lia
end
end Mp
section
open PySem.SeqAt
namespace Mp
inductive gy:Nat→V→V→Bool→Prop
 | int {n:Nat} (a b:Int):gy n (.int a) (.int b) (a == b)
 | str {n:Nat} (a b:Str):gy n (.str a) (.str b) (a == b)
 | list {n:Nat} {xs ys:List V} {b:Bool} (e:Nat→Bool) (h:∀ (j:Nat) (x y:V),xs[j]?=some x→ys[j]?=some y→gy n x y (e j)) (hb:b=(xs.length == ys.length&&(List.range (min xs.length ys.length)).all e)):gy (n+1) (.list xs) (.list ys) b
 | tuple {n:Nat} {xs ys:List V} {b:Bool} (e:Nat→Bool) (h:∀ (j:Nat) (x y:V),xs[j]?=some x→ys[j]?=some y→gy n x y (e j)) (hb:b=(xs.length == ys.length&&(List.range (min xs.length ys.length)).all e)):gy (n+1) (.tuple xs) (.tuple ys) b
section
variable {X:Cx}{A:Around}{env:Env}{loc:Loc}{cells:Cells}{own:Own}{s:Shared}{Ψ:V→Cells→Prop}
theorem gy.same{h:Heap}{n:Nat}{x y:V}{b:Bool}(q:gy n x y b):∀ {v:Value},RV own h v x→RV own h v y→b=true:=by
 induction q with
 | int a b=>intro v r1 r2;obtain ⟨_,⟨⟩⟩:=RV.a1 r1;obtain ⟨_,⟨⟩⟩:=RV.a1 r2;simp
 | str a b=>intro v r1 r2;obtain ⟨_,⟨⟩⟩:=RV.a1 r1;obtain ⟨_,⟨⟩⟩:=RV.a1 r2;simp
 | list e _ hb ih =>
  intro v r1 r2
  (refine aG r1.cM ?_;intro a d vs n sl aV;subst aV;intro ho hn rs)
  (refine aG r2.cM ?_;intro a2 d2 sx n2 En q uG wV ue)
  cases q
  rw [ho] at uG;cases uG
  subst hb
  have hl:=rs.1.symm.trans ue.1
  simp only [hl,beq_self_eq_true,Bool.true_and,List.all_eq_true,List.mem_range,Nat.min_self]
  intro j hj
  have h1:j<vs.toList.length:=by rw [ue.1];exact hj
  exact ih j _ _ (List.getElem?_eq_getElem (by rw [hl];exact hj)) (List.getElem?_eq_getElem hj) (rs.2 j _ _ (List.getElem?_eq_getElem h1) (List.getElem?_eq_getElem (by rw [hl];exact hj))) (ue.2 j _ _ (List.getElem?_eq_getElem h1) (List.getElem?_eq_getElem hj))
 | tuple e _ hb ih =>
  intro v r1 r2
  (refine aG r1.gc ?_;intro a d vs n sl bj;subst bj;intro ho hn rs)
  (refine aG r2.gc ?_;intro a2 d2 sx n2 En q uG wV ue)
  cases q
  rw [ho] at uG;cases uG
  subst hb
  have hl:=rs.1.symm.trans ue.1
  simp only [hl,beq_self_eq_true,Bool.true_and,List.all_eq_true,List.mem_range,Nat.min_self]
  intro j hj
  have h1:j<vs.toList.length:=by rw [ue.1];exact hj
  exact ih j _ _ (List.getElem?_eq_getElem (by rw [hl];exact hj)) (List.getElem?_eq_getElem hj) (rs.2 j _ _ (List.getElem?_eq_getElem h1) (List.getElem?_eq_getElem (by rw [hl];exact hj))) (ue.2 j _ _ (List.getElem?_eq_getElem h1) (List.getElem?_eq_getElem hj))
theorem gy.at{n:Nat}{x y:V}{b:Bool}(q:gy n x y b):∀ {A:Around} {v u:Value},RV own s.heap v x→RV own s.heap u y→A.units+n<cLine→RcAt A s v u b∧EqAt A s v u b∧RcNeAt A s v u (!b):=by
 induction q with
 | int a b=>intro A v u r1 r2 hu;obtain ⟨_,⟨⟩⟩:=RV.a1 r1;obtain ⟨_,⟨⟩⟩:=RV.a1 r2;exact ⟨RcAt.int_int _ _ _ _,EqAt.int_int _ _ _ _,RcNeAt.int_int _ _ _ _⟩
 | str a b=>intro A v u r1 r2 hu;obtain ⟨_,⟨⟩⟩:=RV.a1 r1;obtain ⟨_,⟨⟩⟩:=RV.a1 r2;exact ⟨RcAt.str_str _ _ _ _,EqAt.str_str _ _ _ _,RcNeAt.str_str _ _ _ _⟩
 | @list n xs ys b e he hb ih =>
  intro A v u r1 r2 hu
  have sm:v=u→b=true:=fun z=>by subst z;exact (gy.list e he hb).same r1 r2
  (refine aG r1.cM ?_;intro a d vs m sl bH;subst bH;intro ho hn rs)
  (refine aG r2.cM ?_;intro a2 d2 sx m2 En cw;subst cw;intro uG wV ue)
  have z1:vs.size=xs.length:=by simpa using rs.1
  have z2:sx.size=ys.length:=by simpa using ue.1
  have hl:s.heap.IsList a vs:=(bt _ ho rfl m rfl)
  have AR:s.heap.IsList a2 sx:=(bt _ uG rfl m2 rfl)
  have core:RcAt A s (.ref a) (.ref a2) b∧RcNeAt A s (.ref a) (.ref a2) (!b):=by
   by_cases hz:xs.length=ys.length
   ·have AI:vs.size=sx.size:=by lia
    have ee:∀ j (h1:j<vs.size) (h2:j<sx.size),EqAt A.in1 s vs[j] sx[j] (e j):=fun j h1 h2 =>
     (ih j _ _ (List.getElem?_eq_getElem (by exact Nat.lt_of_lt_of_eq h1 z1:j<xs.length)) (List.getElem?_eq_getElem (by exact Nat.lt_of_lt_of_eq h2 z2:j<ys.length)) (A:=A.in1) (rs.2 j _ _ (by exact (List.getElem_eq_iff h1).mp rfl) (List.getElem?_eq_getElem (by exact Nat.lt_of_lt_of_eq h1 z1))) (ue.2 j _ _ (by exact (List.getElem_eq_iff h2).mp rfl) (List.getElem?_eq_getElem (by exact Nat.lt_of_lt_of_eq h2 z2))) (by show A.units+1+n<_;lia)).2.1
    have eb:b=(List.range vs.size).all e:=by rw [hb,hz,z1,hz];simp
    rw [eb]
    exact ⟨RcAt.lists hl AR AI (by exact Nat.lt_of_add_right_lt hu) ee,RcNeAt.lists hl AR AI (by exact Nat.lt_of_add_right_lt hu) ee⟩
   ·have AI:(vs.size != sx.size)=true:=by simp;lia
    have eb:b=false:=by rw [hb];simp [hz]
    subst eb
    exact ⟨RcAt.lists_lengths hl AR AI (by exact Nat.lt_of_add_right_lt hu),RcNeAt.lists_lengths hl AR AI (by exact Nat.lt_of_add_right_lt hu)⟩
  refine ⟨core.1,?_,core.2⟩
  by_cases hz:a=a2
  ·subst hz
   rw [sm rfl];exact EqAt.same _
  ·exact EqAt.of_refs hz core.1
 | @tuple n xs ys b e he hb ih =>
  intro A v u r1 r2 hu
  have sm:v=u→b=true:=fun z=>by subst z;exact (gy.tuple e he hb).same r1 r2
  (refine aG r1.gc ?_;intro a d vs m sl cR;subst cR;intro ho hn rs)
  (refine aG r2.gc ?_;intro a2 d2 sx m2 En fu;subst fu;intro uG wV ue)
  have z1:vs.size=xs.length:=by simpa using rs.1
  have z2:sx.size=ys.length:=by simpa using ue.1
  have hl:s.heap.IsTuple a vs:=(bt _ ho rfl m rfl)
  have AR:s.heap.IsTuple a2 sx:=(bt _ uG rfl m2 rfl)
  have ee:∀ j (h1:j<vs.size) (h2:j<sx.size),EqAt A.in1 s vs[j] sx[j] (e j):=fun j h1 h2 =>
   (ih j _ _ (List.getElem?_eq_getElem (by exact Nat.lt_of_lt_of_eq h1 z1:j<xs.length)) (List.getElem?_eq_getElem (by exact Nat.lt_of_lt_of_eq h2 z2:j<ys.length)) (A:=A.in1) (rs.2 j _ _ (by exact (List.getElem_eq_iff h1).mp rfl) (List.getElem?_eq_getElem (by exact Nat.lt_of_lt_of_eq h1 z1))) (ue.2 j _ _ (by exact (List.getElem_eq_iff h2).mp rfl) (List.getElem?_eq_getElem (by exact Nat.lt_of_lt_of_eq h2 z2))) (by show A.units+1+n<_;lia)).2.1
  have eb:b=((List.range (min vs.size sx.size)).all e&&vs.size == sx.size):=by rw [hb,z1,z2,Bool.and_comm]
  have core:RcAt A s (.ref a) (.ref a2) b∧RcNeAt A s (.ref a) (.ref a2) (!b):=by
   rw [eb]
   exact ⟨RcAt.tuples hl AR (by exact Nat.lt_of_add_right_lt hu) ee,RcNeAt.tuples hl AR (by exact Nat.lt_of_add_right_lt hu) ee⟩
  refine ⟨core.1,?_,core.2⟩
  by_cases hz:a=a2
  ·subst hz
   rw [sm rfl];exact EqAt.same _
  ·exact EqAt.of_refs hz core.1
theorem Er{n:Nat}{x y:V}{b:Bool}(q:gy n x y b)(hu:A.units+n<cLine)(h:Ψ (.bool b) cells):da X A (compareOp .Eq) x y Ψ cells:=fun v u own s I gX=>aK gX fun r1 r2 =>
 (q.at r1 r2 hu).1 _ _ _ _ (az (t:=s.toks) I (.bool _) h)
theorem vR{n:Nat}{x y:V}{b:Bool}(q:gy n x y b)(hu:A.units+n<cLine)(h:Ψ (.bool (!b)) cells):da X A (compareOp .NotEq) x y Ψ cells:=fun v u own s I m8=>aK m8 fun r1 r2 =>
 (q.at r1 r2 hu).2.2 _ _ _ _ (az (t:=s.toks) I (.bool _) h)
theorem kH{α:Type}[DecidableEq α]:∀ (xs ys:List α),(xs == ys)=(xs.length == ys.length&&(List.range (min xs.length ys.length)).all fun j=>decide (xs[j]?=ys[j]?)):=by
 intro xs ys
 by_cases h:xs=ys
 ·subst h;simp
 ·have:(xs == ys)=false:=by exact beq_false_of_ne h
  rw [this]
  symm
  rw [Bool.and_eq_false_iff]
  by_cases hl:xs.length=ys.length
  ·right
   rw [List.all_eq_false]
   refine Classical.byContradiction fun q=>h ?_
   refine List.ext_getElem? fun j=>?_
   by_cases hj:j<xs.length
   ·refine Classical.byContradiction fun z=>q (iDPP j (by simp;lia) (by simpa using z))
   ·rw [List.getElem?_eq_none (by exact Nat.le_of_not_lt hj),List.getElem?_eq_none (by lia)]
  ·left;simpa using hl
theorem gy.map{α:Type}[DecidableEq α]{n:Nat}{f:α→V}(hf:∀ a b,gy n (f a) (f b) (a == b))(xs ys:List α):gy (n+1) (.list (xs.map f)) (.list (ys.map f)) (xs == ys):=by
 refine .list (fun j=>decide (xs[j]?=ys[j]?)) (fun j x y h1 h2=>?_) (by rw [kH];simp)
 rw [List.getElem?_map,Option.map_eq_some_iff] at h1 h2
 (refine xDPP h1 ?_;try clear h1;intro a e1 gp;subst gp)
 (refine xDPP h2 ?_;try clear h2;intro b e2 nA;subst nA)
 rw [e1,e2]
 have:=hf a b
 by_cases z:a=b
 ·subst z;simpa using this
 ·have e0:(a == b)=false:=by exact beq_false_of_ne z
  rw [e0] at this
  simpa [z] using this
theorem gy.GH{α:Type}[DecidableEq α]{n:Nat}{f:α→V}(hf:∀ a b,gy n (f a) (f b) (a == b))(xs ys:List α):gy (n+1) (.tuple (xs.map f)) (.tuple (ys.map f)) (xs == ys):=by
 refine .tuple (fun j=>decide (xs[j]?=ys[j]?)) (fun j x y h1 h2=>?_) (by rw [kH];simp)
 rw [List.getElem?_map,Option.map_eq_some_iff] at h1 h2
 (refine xDPP h1 ?_;try clear h1;intro a e1 qo;subst qo)
 (refine xDPP h2 ?_;try clear h2;intro b e2 iC;subst iC)
 rw [e1,e2]
 have:=hf a b
 by_cases z:a=b
 ·subst z;simpa using this
 ·have e0:(a == b)=false:=by exact beq_false_of_ne z
  rw [e0] at this
  simpa [z] using this
theorem gy.pair{α β:Type}[DecidableEq α][DecidableEq β]{n:Nat}{f:α→V}{g:β→V}(hf:∀ a b,gy n (f a) (f b) (a == b))(hg:∀ a b,gy n (g a) (g b) (a == b))(p q:α×β):gy (n+1) (.tuple [f p.1,g p.2]) (.tuple [f q.1,g q.2]) (p == q):=by
 refine .tuple (fun j=>if j=0 then p.1 == q.1 else p.2 == q.2) (fun j x y h1 h2=>?_) ?_
 ·rcases j with _ | _ | j
  ·simp at h1 h2;subst h1 h2;exact hf _ _
  ·simp at h1 h2;subst h1 h2;exact hg _ _
  ·simp at h1
 ·show (p == q)=_
  obtain ⟨a,b⟩:=p
  obtain ⟨c,d⟩:=q
  simp [List.range,List.range.loop]
  rfl
theorem gy.ints(n:Nat)(xs ys:List Int):gy (n+1) (.list (Iz xs)) (.list (Iz ys)) (xs == ys):=gy.map (fun a b=>.int a b) xs ys
end
end Mp
end
section
open PySem.SeqAt
namespace Mp
section
variable {X:Cx}{A:Around}{env:Env}{loc:Loc}{cells:Cells}{own:Own}{s:Shared}{Ψ:V→Cells→Prop}
theorem Es{a b:Bool}(h:Ψ (.bool (!(a == b))) cells):da X A (compareOp .NotEq) (.bool a) (.bool b) Ψ cells:=fun v u own s I cw=>aK cw fun r1 r2=>by
 refine RV.e0 r1 rfl ?_;refine RV.e0 r2 rfl ?_;exact RcNeAt.bool_bool a b _ _ _ _ (az (t:=s.toks) I (.bool _) h)
noncomputable def GI (x:Int) (v:Value):Bool:=match v with | .int a _=>a == x | _=>false
theorem AS{vs:List Value}{ns:List Int}{x:Int}(hi:IntsAre vs ns):vs.any (GI x)=ns.any (· == x):=by
 induction hi with
 | nil=>rfl
 | cons n t _ ih=>rw [List.any_cons,List.any_cons,ih];rfl
theorem w8{x:Int}{ns:List Int}(h:Ψ (.bool (ns.any (· == x))) cells):da X A (compareOp .In) (.int x) (.list (Iz ns)) Ψ cells:=fun v u own s I ⟨r1,r2⟩=>by
 refine RV.e1 r1 rfl fun Z=>?_
 (refine aG r2.cM ?_;intro a d vs n sl bj;subst bj;intro ho hn rs)
 have hi:=kF rs
 refine in_listAt (items:=vs) (GI x) (bt _ ho rfl n rfl) (fun y hy=>?_) ?_
 ·(refine eG (hi.allInts y (by simpa using hy)) ?_;intro b t bH;subst bH)
  exact EqAt.int_int _ _ _ _
 ·have:vs.any (GI x)=ns.any (· == x):=by rw [← AS hi];simp
  rw [this]
  exact az (t:=s.toks) I (.bool _) h
noncomputable def di (x:Str) (j:Nat):Str:=⟨#[x.cps.getD j 0]⟩
theorem fE{x:Str}{j:Nat}(hj:j<x.length)(hz:x.length≤1000000)(h:Ψ (.str (di x j)) cells):iw X A (.str x) (.int j) Ψ cells:=by
 refine BR (by exact Int.neg_ofNat_le_natCast (2 ^ 63) j) (by lia) (c:=x.cps.getD j 0) ?_ h
 have e:seqIndex? (j:Int) x.length=some j:=nB hj
 rw [e]
 show x.cps[j]?=_
 have:j<x.cps.size:=hj
 simp [Array.getD,this]
theorem AU{x:Str}(hj:0<x.length)(hz:x.length≤1000000)(h:Ψ (.str (di x (x.length - 1))) cells):iw X A (.str x) (.int (-1)) Ψ cells:=by
 refine BR (by exact Int.le.intro_sub (Nat.succ 9223372036854775807 - Nat.succ 0) rfl) (by exact Rat.intCast_lt_intCast.mp rfl) (c:=x.cps.getD (x.length - 1) 0) ?_ h
 have e:seqIndex? (-1) x.length=some (x.length - 1):=by rw [← Nat.sub_add_cancel hj];exact sQ
 rw [e]
 show x.cps[x.length - 1]?=_
 have:x.length - 1<x.cps.size:=by show x.length - 1<x.length;exact Nat.sub_one_lt_of_lt hj
 simp [Array.getD,this]
theorem ow{e:Expr}{Ψ:Bool→Loc→Cells→Prop}(h:mT X A env (isTrue e env (eval e env)) Ψ loc cells):mT X A env (allTrue .And [e] env) Ψ loc cells :=
 dM (h.mono fun t l c q=>by
  cases t
  ·exact q
  ·exact wR q)
theorem yW{e:Expr}{Ψ:Bool→Loc→Cells→Prop}(h:mT X A env (isTrue e env (eval e env)) Ψ loc cells):mT X A env (allTrue .Or [e] env) Ψ loc cells :=
 jf (h.mono fun t l c q=>by
  cases t
  ·exact yA q
  ·exact q)
end
end Mp
end
namespace Mp
section
open PySem.Sre PySem.Sre.M
noncomputable def iter:Nat→M→M
 | 0,m=>m
 | n+1,m=>iter n m.step
theorem iT:∀ (a b:Nat) (m:M),iter (a+b) m=iter b (iter a m)
 | 0,b,m=>by rw [Nat.zero_add];rfl
 | a+1,b,m=>by rw [Nat.add_right_comm];exact iT a b m.step
theorem qr{m:M}(h:m.outcome.isSome=true):m.step=m:=by unfold M.step;rw [if_pos h]
theorem gQ:∀ (n:Nat) {m:M},m.outcome.isSome=true→iter n m=m
 | 0,m,_=>rfl
 | n+1,m,h=>by show iter n m.step=m;rw [qr h];exact gQ n h
theorem mA:∀ (n:Nat) (m:M),m.runFor n=iter n m
 | 0,m=>rfl
 | n+1,m=>by
  show (if m.outcome.isSome then m else M.runFor n m.step)=iter n m.step
  by_cases h:m.outcome.isSome=true
  ·rw [if_pos h,qr h,gQ n h]
  ·rw [if_neg h];exact mA n _
section
variable {M':Model}{A:Around}{E:Value→Shared→Prop}{s:Shared}
theorem jE{Q:M→Shared→Prop}:∀ (turns N:Nat) (m:M),N≤4 * turns→0<turns→(iter N m).outcome.isSome=true→Q (iter N m) s→wpAny M' A (Builtin.Re.reDrive turns m) Q E s
 | 0,N,m,h,h0,ho,q=>absurd h0 (Nat.lt_irrefl _)
 | turns+1,N,m,h,_,ho,q=>by
  show wpAny M' A (if (m.runFor 4).outcome.isSome then pure (m.runFor 4) else do rule "sre.turn";Builtin.Re.reDrive turns (m.runFor 4)) Q E s
  rw [mA]
  by_cases h4:(iter 4 m).outcome.isSome=true
  ·rw [if_pos h4]
   have:iter N m=iter 4 m:=by
    by_cases hn:N≤4
    ·have e:iter 4 m=iter (4 - N) (iter N m):=by rw [← iT];congr 1;exact Eq.symm (Nat.add_sub_of_le hn)
     rw [e,gQ _ ho]
    ·have e:iter N m=iter (N - 4) (iter 4 m):=by rw [← iT];congr 1;lia
     rw [e,gQ _ h4]
   rw [← this]
   exact wpAny_pure q
  ·rw [if_neg h4]
   have hn:4<N:=by
    refine Classical.byContradiction fun hn=>h4 ?_
    have e:iter 4 m=iter (4 - N) (iter N m):=by rw [← iT];congr 1;lia
    rw [e,gQ _ ho];exact ho
   have e:iter N m=iter (N - 4) (iter 4 m):=by rw [← iT];congr 1;lia
   rw [e] at ho q
   exact wpAny_bind (wpAny_rule (jE turns (N - 4) _ (by exact Nat.sub_le_of_le_add h) (by lia) ho q))
end
end
section
open PySem.Sre PySem.Sre.M
noncomputable def eh (C text:Array Nat) (start pos pc handed:Nat) (outer:Bool) (frames:List Sre.Frame) (weight:Nat) (answer:Option Bool) (seen:Sre.Seen):M :=
 {code:=C,text,lim:=text.size,start,lastStart:=text.size,pc,pos,handed,outermost:=outer,marks:=#[],frames,weight,answer,seen}
section
variable {C text:Array Nat}{start pos pc handed w:Nat}{outer:Bool}{fr:List Sre.Frame}{seen:Sre.Seen}
theorem jW(hc:pc<C.size)(ry:ops[C.getD pc 0]?=some .LITERAL):(eh C text start pos pc handed outer fr w none seen).step =
  if pos ≥ text.size then eh C text start pos pc handed outer fr w (some false) (seen.add (C.getD pc 0)) else
  if (text.getD pos 0 == C.getD (pc+1) 0)=true then eh C text start (pos+1) (pc+2) handed outer fr w none (seen.add (C.getD pc 0)) else eh C text start pos pc handed outer fr w (some false) (seen.add (C.getD pc 0)):=by
 have e1:(eh C text start pos pc handed outer fr w none seen).step=(eh C text start pos pc handed outer fr w none seen).exec:=by
  show (if pc<C.size then _ else _)=_
  rw [if_pos hc]
 rw [e1]
 unfold M.exec
 have e2:ops[(eh C text start pos pc handed outer fr w none seen).word 0]?=some .LITERAL:=ry
 rw [e2]
 show (if pos ≥ text.size then _ else _)=_
 by_cases hp:pos ≥ text.size
 ·rw [if_pos hp,if_pos hp];rfl
 ·rw [if_neg hp,if_neg hp]
  have e3:accepts C pc (text.getD pos 0) (seen.add (C.getD pc 0))=.ok (text.getD pos 0 == C.getD (pc+1) 0,seen.add (C.getD pc 0)):=by
   unfold accepts
   rw [ry]
  have e4:itemWidth C pc=2:=by unfold itemWidth;rw [ry]
  show (match accepts C pc (text.getD pos 0) (seen.add (C.getD pc 0)) with | .error why=>_ | .ok (false,seen)=>_ | .ok (true,seen)=>_)=_
  rw [e3]
  by_cases hq:(text.getD pos 0 == C.getD (pc+1) 0)=true
  ·rw [if_pos hq,hq]
   show M.mk ..=M.mk ..
   rw [show (eh C text start pos pc handed outer fr w none seen).pc+itemWidth (eh C text start pos pc handed outer fr w none seen).code (eh C text start pos pc handed outer fr w none seen).pc=pc+2 from congrArg (pc+·) e4]
   rfl
  ·rw [if_neg hq,Bool.eq_false_iff.mpr hq];rfl
theorem kI{op:Op}(hc:pc<C.size)(ry:ops[C.getD pc 0]?=some op){m':M}(h:(match (some op:Option Op) with | none=>(eh C text start pos pc handed outer fr w none seen).stick "code:unknown-word" | some op=>(eh C text start pos pc handed outer fr w none seen).exec)=m'):(eh C text start pos pc handed outer fr w none seen).step=m':=by
 have e1:(eh C text start pos pc handed outer fr w none seen).step=(eh C text start pos pc handed outer fr w none seen).exec:=by
  show (if pc<C.size then _ else _)=_
  rw [if_pos hc]
 rw [e1];exact h
theorem rz(hc:pc<C.size)(ry:ops[C.getD pc 0]?=some .JUMP):(eh C text start pos pc handed outer fr w none seen).step=eh C text start pos (pc+1+C.getD (pc+1) 0) handed outer fr w none (seen.add (C.getD pc 0)):=by
 refine kI hc ry ?_
 show M.exec _=_
 unfold M.exec
 have e2:ops[(eh C text start pos pc handed outer fr w none seen).word 0]?=some .JUMP:=ry
 rw [e2]
 rfl
theorem g5(hc:pc<C.size)(ry:ops[C.getD pc 0]?=some .SUCCESS):(eh C text start pos pc handed outer fr w none seen).step=eh C text start pos pc pos outer fr w (some true) (seen.add (C.getD pc 0)):=by
 refine kI hc ry ?_
 show M.exec _=_
 unfold M.exec
 have e2:ops[(eh C text start pos pc handed outer fr w none seen).word 0]?=some .SUCCESS:=ry
 rw [e2]
 show (if (outer&&((false&&_)||(false&&_)))=true then _ else _)=_
 rw [if_neg (by cases outer <;> simp)]
 rfl
theorem Et(hc:pc<C.size)(ry:ops[C.getD pc 0]?=some .AT)(h1:C.getD (pc+1) 0=1):(eh C text start pos pc handed outer fr w none seen).step =
  if (pos == 0||text.getD (pos - 1) 0 == 10)=true then eh C text start pos (pc+2) handed outer fr w none ((seen.add (C.getD pc 0)).add 44) else eh C text start pos pc handed outer fr w (some false) ((seen.add (C.getD pc 0)).add 44):=by
 refine kI hc ry ?_
 show M.exec _=_
 unfold M.exec
 have e2:ops[(eh C text start pos pc handed outer fr w none seen).word 0]?=some .AT:=ry
 rw [e2]
 show (match M.isAt _ (C.getD (pc+1) 0) with | .error why=>_ | .ok yes=>_)=_
 rw [h1]
 show (if (pos == 0||text.getD (pos - 1) 0 == 10)=true then _ else _)=_
 by_cases hq:(pos == 0||text.getD (pos - 1) 0 == 10)=true
 ·rw [if_pos hq,if_pos hq]
  show M.mk ..=M.mk ..
  congr 1
  show (seen.add (C.getD pc 0)).add (43+C.getD (pc+1) 0)=_
  rw [h1]
 ·rw [if_neg hq,if_neg hq]
  show M.mk ..=M.mk ..
  congr 1
  show (seen.add (C.getD pc 0)).add (43+C.getD (pc+1) 0)=_
  rw [h1]
noncomputable def jF:Sre.Kept:={ lastmark:=-1,lastindex:=-1,whole:=false,marks:=#[]}
theorem w9(hc:pc<C.size)(ry:ops[C.getD pc 0]?=some .BRANCH)(ha:C.getD (pc+1) 0≠0)(hw:w<1000):(eh C text start pos pc handed outer fr w none seen).step =
  eh C text start pos (pc+2) pos outer ({ wait:=.nextBranch,pc:=pc+1,pos,outermost:=outer,kept:=jF}::fr) (w+1) none (seen.add (C.getD pc 0)):=by
 refine kI hc ry ?_
 show M.exec _=_
 unfold M.exec
 have e2:ops[(eh C text start pos pc handed outer fr w none seen).word 0]?=some .BRANCH:=ry
 rw [e2]
 show (if (C.getD (pc+1) 0 == 0)=true then _ else _)=_
 rw [if_neg (by simpa using ha)]
 show (if w+1+0 > 16777216 then _ else _)=_
 rw [if_neg (by lia)]
 rfl
theorem CU(hc:pc<C.size)(ry:ops[C.getD pc 0]?=some .ASSERT_NOT)(h2:C.getD (pc+2) 0=0)(hw:w<1000):(eh C text start pos pc handed outer fr w none seen).step =
  eh C text start pos (pc+3) pos false ({ wait:=.lookNot,pc,pos,outermost:=outer,kept:=jF}::fr) (w+1) none (seen.add (C.getD pc 0)):=by
 refine kI hc ry ?_
 show M.exec _=_
 unfold M.exec
 have e2:ops[(eh C text start pos pc handed outer fr w none seen).word 0]?=some .ASSERT_NOT:=ry
 rw [e2]
 show (if pos<C.getD (pc+2) 0 then _ else _)=_
 rw [if_neg (by lia)]
 show (if w+1+0 > 16777216 then _ else _)=_
 rw [if_neg (by lia)]
 show eh C text start (pos - C.getD (pc+2) 0) (pc+3) (pos - C.getD (pc+2) 0) false ({ wait:=.lookNot,pc,pos,outermost:=outer,kept:=jF}::fr) (w+1+0) none (seen.add (C.getD pc 0))=_
 rw [h2]
 rfl
variable {k:Sre.Kept}{f:Sre.Frame}{q1 q2:Nat}
theorem gz:(eh C text start pos pc handed outer ({ wait:=.nextBranch,pc:=q1,pos:=q2,outermost:=outer,kept:=jF}::fr) (w+1) (some true) seen).step=eh C text start q2 q1 handed outer fr w (some true) seen:=by
 rfl
theorem g6(ha:C.getD (q1+C.getD q1 0) 0≠0)(hw:w<1000):(eh C text start pos pc handed outer ({ wait:=.nextBranch,pc:=q1,pos:=q2,outermost:=outer,kept:=jF}::fr) (w+1) (some false) seen).step =
  eh C text start q2 (q1+C.getD q1 0+1) q2 outer ({ wait:=.nextBranch,pc:=q1+C.getD q1 0,pos:=q2,outermost:=outer,kept:=jF}::fr) (w+1) none seen:=by
 show (if (C.getD (q1+C.getD q1 0) 0 == 0)=true then _ else _)=_
 rw [if_neg (by simpa using ha)]
 show (if w+1 - 1+1+0 > 16777216 then _ else _)=_
 rw [if_neg (by lia)]
 rfl
theorem rA:(eh C text start pos pc handed outer [{ wait:=.nextStart,pc:=q1,pos:=q2,outermost:=outer}] 1 (some true) seen).step=eh C text start q2 q1 handed outer [] 0 (some true) seen:=by
 rfl
theorem xa:(eh C text start pos pc handed false ({ wait:=.lookNot,pc:=q1,pos:=q2,outermost:=outer,kept:=jF}::fr) (w+1) (some false) seen).step=eh C text start q2 (q1+1+C.getD (q1+1) 0) handed outer fr w none seen:=by
 rfl
end
noncomputable def CD:Array Nat:=#[14,4,0,1,1,6,1,16,46,1]
noncomputable def CN:Array Nat:=#[14,9,4,1,2,16,10,16,13,0,7,7,16,13,16,10,15,18,5,16,10,15,13,11,16,13,5,5,0,16,10,1,15,2,0,1]
noncomputable def Run (B:Nat) (m:M) (P:M→Prop):Prop:=∃ N,N≤B∧P (iter N m)
theorem Run.step{B:Nat}{m m':M}{P:M→Prop}(h:m.step=m')(k:Run B m' P):Run (B+1) m P:=by
 (refine xDPP k ?_;try clear k;intro N h1 h2)
 refine (iDPP (N+1) (by exact Nat.add_le_add_right h1 1) ?_)
 show P (iter N m.step)
 rw [h];exact h2
theorem Run.done{B:Nat}{m:M}{P:M→Prop}(h:P m):Run B m P:=(iDPP 0 (Nat.zero_le _) h)
theorem Run.le{B B':Nat}{m:M}{P:M→Prop}(hb:B≤B')(k:Run B m P):Run B' m P:=let ⟨N,h1,h2⟩:=k;(iDPP N (by exact Nat.le_trans h1 hb) h2)
theorem Run.neg{B:Nat}{c:Prop}[Decidable c]{a b:M}{P:M→Prop}(h:¬ c)(k:Run B b P):Run B (if c then a else b) P:=by rw [if_neg h];exact k
theorem Run.pos{B:Nat}{c:Prop}[Decidable c]{a b:M}{P:M→Prop}(h:c)(k:Run B a P):Run B (if c then a else b) P:=by rw [if_pos h];exact k
theorem Run.mono{B:Nat}{m:M}{P Q:M→Prop}(k:Run B m P)(h:∀ m,P m→Q m):Run B m Q:=let ⟨N,h1,h2⟩:=k;(iDPP N h1 (h _ h2))
section
variable {text:Array Nat}{start pos pc handed w:Nat}{outer:Bool}{seen:Sre.Seen}
theorem yX(C:Array Nat)(b:Bool):(eh C text start pos pc handed outer [] w (some b) seen).step={ eh C text start pos pc handed outer [] w (some b) seen with outcome:=some (if b then .matched else .failed)}:=by
 cases b <;> rfl
noncomputable def g7 (text:Array Nat) (p:Nat):Nat:=if text.getD p 0=13∧p+1<text.size∧text.getD (p+1) 0=10 then p+2 else p+1
noncomputable def Met (p e:Nat) (m:M):Prop:=m.outcome.isSome=true∧m.outcome=some .matched∧m.start=p∧m.handed=e
theorem nC{C:Array Nat}{B:Nat}{q1:Nat}:Run (B+2) (eh C text start pos pc handed outer [{ wait:=.nextStart,pc:=q1,pos:=start,outermost:=outer}] 1 (some true) seen) (Met start handed) :=
 .step rA (.step (yX _ _) (.done (aO rfl rfl rfl rfl)))
theorem CV(hp:start<text.size)(hc:text.getD start 0=13∨text.getD start 0=10)(seen:Sre.Seen) :
  Run 100 (eh CN text start start 10 start outer [{ wait:=.nextStart,pc:=10,pos:=start,outermost:=outer}] 1 none seen) (Met start (g7 text start)):=by
 refine .step (w9 (by decide) rfl (by decide) (by exact Nat.one_lt_succ_succ 998)) ?_
 refine .step (jW (by decide) rfl) ?_
 rw [if_neg (by exact Nat.not_le_of_lt hp)]
 rcases hc with hc | hc
 ·rw [hc,if_pos (by decide)]
  refine .step (jW (by decide) rfl) ?_
  have Eu:∀ (pos':Nat) (seen:Sre.Seen),g7 text start=start+1→(¬ (start+1<text.size∧text.getD (start+1) 0=10))→Run 97 (eh CN text start pos' 14 start outer [{ wait:=.nextBranch,pc:=11,pos:=start,outermost:=outer,kept:=jF},{ wait:=.nextStart,pc:=10,pos:=start,outermost:=outer}] 2 (some false) seen) (Met start (g7 text start)):=by
   intro pos' seen he GJ
   refine .step (g6 (by decide) (by exact Nat.one_lt_succ_succ 998)) ?_
   refine .step (jW (by decide) rfl) ?_
   rw [if_neg (by exact Nat.not_le_of_lt hp),hc,if_neg (by decide)]
   refine .step (g6 (by decide) (by exact Nat.one_lt_succ_succ 998)) ?_
   refine .step (jW (by decide) rfl) ?_
   rw [if_neg (by exact Nat.not_le_of_lt hp),hc,if_pos (by decide)]
   refine .step (CU (by decide) rfl rfl (by exact Nat.lt_of_sub_eq_succ rfl)) ?_
   refine .step (jW (by decide) rfl) ?_
   have cont:∀ (pos':Nat) (seen:Sre.Seen),Run 80 (eh CN text start pos' 29 (start+1) false [{ wait:=.lookNot,pc:=26,pos:=start+1,outermost:=outer,kept:=jF},{ wait:=.nextBranch,pc:=23,pos:=start,outermost:=outer,kept:=jF},{ wait:=.nextStart,pc:=10,pos:=start,outermost:=outer}] 3 (some false) seen) (Met start (g7 text start)):=by
    intro pos' seen
    refine .step xa ?_
    refine .step (rz (by decide) rfl) ?_
    refine .step (g5 (by decide) rfl) ?_
    refine .step gz ?_
    rw [he]
    exact nC
   by_cases hl:start+1 ≥ text.size
   ·rw [if_pos hl];exact .le (by exact Nat.le_of_ble_eq_true rfl) (cont _ _)
   ·rw [if_neg hl];exact .neg (fun q=>GJ ⟨by exact Nat.lt_of_not_le hl,eq_of_beq (show (text.getD (start+1) 0 == 10)=true from q)⟩) (.le (by exact Nat.le_of_ble_eq_true rfl) (cont _ _))
  by_cases hl:start+1 ≥ text.size
  ·rw [if_pos hl]
   exact Eu _ _ (by unfold g7;rw [if_neg (by lia)]) (by lia)
  ·rw [if_neg hl]
   by_cases hd:text.getD (start+1) 0=10
   ·refine .pos (by rw [hd];decide) ?_
    refine .step (rz (by decide) rfl) ?_
    refine .step (g5 (by decide) rfl) ?_
    refine .step gz ?_
    rw [show g7 text start=start+1+1 by unfold g7;rw [if_pos ⟨hc,by exact Nat.lt_of_not_le hl,hd⟩]]
    exact .le (by exact Nat.le_of_ble_eq_true rfl) (nC (B:=0))
   ·refine .neg (fun q=>hd (eq_of_beq (show (text.getD (start+1) 0 == 10)=true from q))) ?_
    exact Eu _ _ (by unfold g7;rw [if_neg (fun q=>hd q.2.2)]) (fun q=>hd q.2)
 ·rw [hc,if_neg (by decide)]
  refine .step (g6 (by decide) (by exact Nat.one_lt_succ_succ 998)) ?_
  refine .step (jW (by decide) rfl) ?_
  rw [if_neg (by exact Nat.not_le_of_lt hp),hc,if_pos (by decide)]
  refine .step (rz (by decide) rfl) ?_
  refine .step (g5 (by decide) rfl) ?_
  refine .step gz ?_
  rw [show g7 text start=start+1 by unfold g7;rw [if_neg (by rw [hc];exact of_decide_eq_false rfl)]]
  exact .le (by exact Nat.le_of_ble_eq_true rfl) (nC (B:=0))
end
end
section
open PySem.Sre PySem.Sre.M
section
variable {text:Array Nat}{start:Nat}
noncomputable def bR (p:Nat→Bool) (n s:Nat):Option Nat:=if h:s<n then (if p s then some s else bR p n (s+1)) else none
termination_by n - s
theorem d6{p:Nat→Bool}{n s:Nat}(h:s<n)(hp:p s=true):bR p n s=some s:=by rw [bR,dif_pos h,if_pos hp]
theorem dB{p:Nat→Bool}{n s:Nat}(h:s<n)(hp:p s=false):bR p n s=bR p n (s+1):=by
 rw [bR,dif_pos h,if_neg (by exact ne_true_of_eq_false hp)]
theorem cz{p:Nat→Bool}{n s:Nat}(h:¬ s<n):bR p n s=none:=by rw [bR,dif_neg h]
theorem g8{p:Nat→Bool}{n s q:Nat}(h:bR p n s=some q):q<n∧p q=true:=by
 induction hk:n - s generalizing s with
 | zero=>rw [cz (by lia)] at h;cases h
 | succ k ih =>
  by_cases hp:p s=true
  ·rw [d6 (by exact Nat.lt_of_sub_eq_succ hk) hp] at h;cases h;exact ⟨by exact Nat.lt_of_sub_eq_succ hk,hp⟩
  ·rw [dB (by exact Nat.lt_of_sub_eq_succ hk) (by exact eq_false_of_ne_true hp)] at h
   exact ih h (by lia)
noncomputable def ix (text:Array Nat) (i:Nat):Bool:=text.getD i 0 == 10||text.getD i 0 == 13
noncomputable def rB (o:Option (Nat×Nat)) (m:M):Prop:=m.outcome.isSome=true∧match o with
 | some (p,e)=>m.outcome=some .matched∧m.start=p∧m.handed=e
 | none=>m.outcome=some .failed
noncomputable def mB (text:Array Nat) (s:Nat):Option (Nat×Nat):=(bR (ix text) text.size s).map fun p=>(p,g7 text p)
theorem AV(c:Nat)(seen:Sre.Seen):∃ br,inSet CN c CN.size 5 true seen=.ok (c == 10||c == 13,br):=by
 show ∃ br,(if (c == 10)=true then Except.ok (true,_) else (if (c == 13)=true then Except.ok (true,_) else Except.ok (!true,_)))=_
 by_cases h1:(c == 10)=true
 ·rw [if_pos h1,h1];exact (bA _ rfl)
 ·rw [if_neg h1]
  by_cases h2:(c == 13)=true
  ·rw [if_pos h2,h2,Bool.or_true];exact (bA _ rfl)
  ·rw [if_neg h2,Bool.eq_false_iff.mpr h1,Bool.eq_false_iff.mpr h2];exact (bA _ rfl)
theorem ox(m:M)(hm:m.code=CN)(ht:m.text=text)(hl:m.lim=text.size):∀ (fuel s:Nat) (seen:Sre.Seen),text.size<fuel+s→∃ br,admitted m fuel s seen=.ok (bR (ix text) text.size s,br)
 | 0,s,sn,h=>by rw [cz (by lia)];exact (bA _ rfl)
 | fuel+1,s,sn,h=>by
  rw [admitted,hm,ht,hl]
  by_cases hs:s ≥ text.size
  ·rw [if_pos hs,cz (by exact Nat.not_lt.mpr hs)];exact (bA _ rfl)
  ·rw [if_neg hs]
   (refine ba (AV (text.getD s 0) sn) ?_;intro br e)
   rw [e]
   cases hc:(text.getD s 0 == 10||text.getD s 0 == 13) with
   | true=>rw [d6 (by exact Nat.lt_of_not_le hs) hc];exact (bA _ rfl)
   | false =>
    rw [dB (by exact Nat.lt_of_not_le hs) hc]
    exact ox m hm ht hl fuel (s+1) br (by lia)
noncomputable def m0 (C text:Array Nat) (start body:Nat):M:={ eh C text start start body start true [] 0 none (({}:Sre.Seen).add 14) with lastStart:=0}
theorem sR:forSearch CN text 0 start text.size false=if (decide (start > text.size)||decide (text.size - start<1))=true then (m0 CN text start 10).say false else { m0 CN text start 10 with lastStart:=text.size}.attemptFrom start true:=rfl
theorem yY(hs:start≤text.size):Run 200 (forSearch CN text 0 start text.size false) (rB (mB text start)):=by
 rw [sR]
 by_cases h:text.size - start<1
 ·refine .pos (by simp [h]) ?_
  have e:mB text start=none:=by unfold mB;rw [cz (by lia)];rfl
  rw [e]
  exact .step rfl (.done ⟨rfl,rfl⟩)
 ·refine .neg (by simp;lia) ?_
  (refine ba (ox (text:=text) { m0 CN text start 10 with lastStart:=text.size} rfl rfl rfl (text.size+1 - start) start (({}:Sre.Seen).add 14) (by lia)) ?_;intro br e)
  have e':admitted { m0 CN text start 10 with lastStart:=text.size} (text.size+1 - start) start { m0 CN text start 10 with lastStart:=text.size}.seen=.ok (bR (ix text) text.size start,br):=e
  have hf:(!M.hasFirstSet { m0 CN text start 10 with lastStart:=text.size})=false:=rfl
  unfold M.attemptFrom
  rw [hf]
  have e2:admitted { m0 CN text start 10 with lastStart:=text.size} ({ m0 CN text start 10 with lastStart:=text.size}.lim+1 - start) start { m0 CN text start 10 with lastStart:=text.size}.seen=.ok (bR (ix text) text.size start,br):=e
  rw [if_neg (by decide),e2]
  have hk:∀ p,bR (ix text) text.size start=some p→p<text.size∧ix text p=true:=fun p=>g8
  unfold mB
  cases hq:bR (ix text) text.size start with
  | none=>exact .step rfl (.done ⟨rfl,rfl⟩)
  | some p =>
   (refine aK (hk p hq) ?_;intro k1 k2)
   have hc:text.getD p 0=13∨text.getD p 0=10:=by
    unfold ix at k2
    rcases Bool.or_eq_true_iff.mp k2 with q | q
    ·exact .inr (eq_of_beq q)
    ·exact .inl (eq_of_beq q)
   refine .le (by exact Nat.le_of_ble_eq_true rfl:100≤200) ((CV (outer:=true) k1 hc br).mono fun m aV=>bM aV fun a1 a2 a3 a4=>(aO a1 a2 a3 a4))
noncomputable def kJ (text:Array Nat) (i:Nat):Bool:=(i == 0||text.getD (i - 1) 0 == 10)&&text.getD i 0 == 46
noncomputable def eE (text:Array Nat) (s:Nat):Option (Nat×Nat):=(bR (kJ text) text.size s).map fun p=>(p,p+1)
theorem CW{pos pc handed:Nat}{outer:Bool}{sn:Sre.Seen}:(eh CD text start pos pc handed outer [{ wait:=.nextStart,pc:=5,pos:=start,outermost:=outer}] 1 (some false) sn).step =
  if start<text.size then eh CD text (start+1) (start+1) 5 (start+1) false [{ wait:=.nextStart,pc:=5,pos:=start+1,outermost:=false}] 1 none sn else eh CD text start start 5 handed outer [] 0 (some false) sn:=rfl
theorem BV:∀ (n s:Nat) (outer:Bool) (sn:Sre.Seen),s+n=text.size→Run (10 * n+20) (eh CD text s s 5 s outer [{ wait:=.nextStart,pc:=5,pos:=s,outermost:=outer}] 1 none sn) (rB (eE text s))
 | n,s,outer,sn,h=>by
  have no:∀ pc sn,(s<text.size→kJ text s=false)→Run (10 * n+16) (eh CD text s s pc s outer [{ wait:=.nextStart,pc:=5,pos:=s,outermost:=outer}] 1 (some false) sn) (rB (eE text s)):=by
   intro pc sn hd
   refine .le (by exact Nat.le_refl (10 * n+15+1):(10 * n+15)+1≤_) (.step CW ?_)
   cases n with
   | zero =>
    refine .neg (by lia) ?_
    have e:eE text s=none:=by unfold eE;rw [cz (by lia)];rfl
    rw [e]
    exact .le (by exact Nat.le_add_left (0+1) 14:0+1≤_) (.step (yX _ _) (.done ⟨rfl,rfl⟩))
   | succ n =>
    refine .pos (by lia) ?_
    have e:eE text s=eE text (s+1):=by unfold eE;rw [dB (by lia) (hd (by lia))]
    rw [e]
    exact .le (by lia) (BV n (s+1) false sn (by lia))
  refine .le (by exact Nat.le_refl (10 * n+19+1):(10 * n+19)+1≤_) (.step (Et (by decide) rfl rfl) ?_)
  by_cases hb:(s == 0||text.getD (s - 1) 0 == 10)=true
  ·refine .pos hb ?_
   refine .le (by exact Nat.le_refl (10 * n+18+1):(10 * n+18)+1≤_) (.step (jW (by decide) rfl) ?_)
   by_cases hl:s ≥ text.size
   ·refine .pos hl (.le (by lia) (no _ _ (by lia)))
   ·refine .neg hl ?_
    by_cases hd:text.getD s 0=46
    ·refine .pos (show (text.getD s 0 == 46)=true by rw [hd];rfl) ?_
     have e:eE text s=some (s,s+1):=by
      unfold eE
      rw [d6 (by exact Nat.lt_of_not_le hl) (by unfold kJ;rw [hb,hd];rfl)];rfl
     rw [e]
     refine .le (by exact Nat.le_add_left (0+2+1) (10 * n+15):(0+2)+1≤_) (.step (g5 (by decide) rfl) ?_)
     exact nC.mono fun m bj=>bM bj fun a1 a2 a3 a4=>(aO a1 a2 a3 a4)
    ·refine .neg (fun q=>hd (eq_of_beq (show (text.getD s 0 == 46)=true from q))) (.le (by lia) (no _ _ fun Z=>?_))
     unfold kJ
     rw [show (text.getD s 0 == 46)=false by simpa using hd,Bool.and_false]
  ·refine .neg hb (.le (by lia) (no _ _ fun Z=>?_))
   unfold kJ
   rw [Bool.eq_false_iff.mpr hb,Bool.false_and]
theorem sS:forSearch CD text 0 start text.size false=if (decide (start > text.size)||decide (text.size - start<1))=true then (m0 CD text start 5).say false else { m0 CD text start 5 with lastStart:=text.size}.attemptFrom start true:=rfl
theorem yZ(hs:start≤text.size):Run (10 * text.size+30) (forSearch CD text 0 start text.size false) (rB (eE text start)):=by
 rw [sS]
 by_cases h:text.size - start<1
 ·refine .pos (by simp [h]) ?_
  have e:eE text start=none:=by unfold eE;rw [cz (by lia)];rfl
  rw [e]
  exact .step rfl (.done ⟨rfl,rfl⟩)
 ·refine .neg (by simp;lia) ?_
  have hn:start+(text.size - start)=text.size:=by exact Nat.add_sub_of_le hs
  exact .le (by lia) (BV (text:=text) (text.size - start) start true (({}:Sre.Seen).add 14) hn)
end
end
theorem iU:PlainAttrs "re.Pattern" :=
 ⟨(iDPP ("object.__getattribute__") (by rw [typeLookup_type,builtinLookup_eq_fast];kernel_rfl) (by decide +kernel)),by rw [typeLookup_type,builtinLookup_eq_fast];kernel_rfl⟩
theorem eQ:Slot "re.Pattern" "sub" "re.Pattern.sub" :=
 .of (owner:="re.Pattern") (n:="sub") (by rw [typeLookup_type,builtinLookup_eq_fast];kernel_rfl) (by decide +kernel) (by decide +kernel) (by decide +kernel)
  (by first | exact .inl (by decide +kernel) | exact .inr (by decide +kernel)) (by rw [isSubtype_type];kernel_rfl)
theorem kK:typeOf (.builtin "re.Pattern.sub")=pure (.type "method_descriptor"):=by show builtinType _=_;rw [builtinType_eq_fast];kernel_rfl
theorem jG:entryFor table "re.Pattern.sub"=some Builtin.«re.Pattern.sub»:=entryFor_of_tree (by kernel_rfl)
theorem fF:entryFor table "re.Pattern.sub.loop"=some Builtin.«re.Pattern.sub.loop»:=entryFor_of_tree (by kernel_rfl)
theorem xb:Manifest.owners.lookup (String.ofList ['n','r','e','t','t','a','P','.','e','r'].reverse)=some Manifest.sig_re_Pattern:=by kernel_rfl
theorem kL(a b c:Value):argsOk "re.Pattern.sub" ⟨[a,b,c],[]⟩:=by
 unfold argsOk;rw [signature?_of (id:="re.Pattern.sub") (n:=['b','u','s']) (o:=['n','r','e','t','t','a','P','.','e','r']) (by kernel_rfl) xb];kernel_rfl
theorem cm:plainId "re.Pattern.sub.loop"=true:=by decide +kernel
theorem sT:typeLookup (.type "str") "__call__"=pure none:=by rw [typeLookup_type,builtinLookup_eq_fast];kernel_rfl
theorem gR{prog:Program}{w:World}{A:Around}{E:Value→Shared→Prop}{s:Shared}{T:String}{name:Str}{id:String}{b:Builtin}{self:Value}{rest:List Value}{Q:Value→Shared→Prop}(h:Slot T name id)(hT:s.TypeIs self T)(hb:entryFor table id=some b)(hc:wpAny (model prog w) A.in1 (b ⟨self::rest,[]⟩) (fun fin s'=>match fin with | .done f=>(match (Except.ok f:Result) with | .ok (.ret v)=>Q v s' | .ok _=>False | .error e=>E e s') | .again c'=>c'.quiet=true∧codeAny (model prog w) A c' (fun r s'=>match r with | .ok (.ret v)=>Q v s' | .ok _=>False | .error e=>E e s') s') E s)(ha:argsOk id ⟨self::rest,[]⟩):wpAny (model prog w) A (call (.builtin id) (self::rest)) Q E s:=by
 refine wpAny_call (codeAny_call_builtin h.plain hb (h.check _ _ _ _ _ _ _ _ hT ha (wpAny_mono hc (fun fin s' h'=>?_) fun Z Z h'=>h')))
 cases fin with
 | done f=>exact h'
 | again c=>exact h'
open PySem.Builtin.Re in
structure rC(h:Heap)(p:Addr)(C:Array Nat)(l:Addr):Prop where
 ex:∃ fs d sl cl oc items n,h.get? p=some ⟨.type "re.Pattern",d,.fields fs,sl⟩∧fs.getD 5 .none=.ref cl∧reRawNat (fs.getD 6 .none)=0∧reRawNat (fs.getD 2 .none)=0∧h.get? cl=some oc∧oc.data=.seq items n∧(items.map reRawOf).map (·.toNat)=C∧p≠l∧cl≠l
theorem rC.keeps{h h':Heap}{p:Addr}{C:Array Nat}{l:Addr}(P:rC h p C l)(hk:∀ b o,b≠l→h.get? b=some o→h'.get? b=some o):rC h' p C l:=by
 (refine fW P.ex ?_;intro fs d sl cl oc items n h1 h2 h3 h4 h5 h6 h7 h8 h9)
 exact ⟨fs,d,sl,cl,oc,items,n,hk _ _ h8 h1,h2,h3,h4,hk _ _ h9 h5,h6,h7,h8,h9⟩
theorem rC.typeIs{s:Shared}{p:Addr}{C:Array Nat}{l:Addr}(P:rC s.heap p C l):s.TypeIs (.ref p) "re.Pattern":=by
 (refine nS P.ex ?_;intro fs d sl cl oc items n h1 Z)
 exact (iDPP _ h1 rfl)
section
open PySem.Builtin.Re
variable {prog:Program}{w:World}{A:Around}{E:Value→Shared→Prop}{s:Shared}{p:Addr}{C:Array Nat}{x:Str}{t:Tok}
noncomputable def H5 (p:Addr) (C:Array Nat) (x:Str) (t:Tok):ReTarget:={ pattern:=.ref p,string:=.str x t,code:=C,text:=x.cps,kind:=0,groups:=0,pos:=0,lim:=x.cps.size}
theorem iV{l:Addr}{Q:ReTarget→Shared→Prop}(P:rC s.heap p C l)(h:Q (H5 p C x t) s):wpAny (model prog w) A (reWholeTarget (.ref p) (.str x t)) Q E s:=by
 (refine fW P.ex ?_;intro fs d sl cl oc items n h1 h2 h3 h4 h5 h6 h7 Z Z)
 unfold reWholeTarget
 refine wpAny_bind (wpAny_fieldsOf h1 rfl ?_)
 show wpAny _ _ (do
  let (text,kind) ← (pure (x.cps,0):Sem (Array Nat×Nat))
  _) _ _ _
 refine wpAny_bind (wpAny_pure ?_)
 dsimp only
 rw [h3]
 refine wpAny_bind (wpAny_pure ?_)
 rw [h2]
 unfold reRawItems
 refine wpAny_bind (wpAny_bind (wpAny_seqItems h5 h6 (wpAny_pure ?_)))
 refine wpAny_pure ?_
 show Q { pattern:=.ref p,string:=.str x t,code:=(items.map reRawOf).map (·.toNat),text:=x.cps,kind:=0,groups:=reRawNat (fs.getD 2 .none),pos:=0,lim:=x.cps.size} s
 rw [h4,h7]
 exact h
theorem kM{m:Sre.M}{o:Option (Nat×Nat)}{B:Nat}{Q:Option Sre.M→Shared→Prop}(R:Run B m (rB o))(hB:B≤2 ^ 60)(h:∀ m',rB o m'→Q (match o with | some _=>some m' | none=>none) s):wpAny (model prog w) A (reRunToEnd m) Q E s:=by
 (refine xDPP R ?_;try clear R;intro N hN hs)
 unfold reRunToEnd
 refine wpAny_bind (jE (2 ^ 64) N m (by lia) (by exact Nat.two_pow_pos 64) hs.1 ?_)
 have loop:wpAny (model prog w) A (forIn (List.range Sre.names.size) PUnit.unit fun i r=>if (iter N m).seen.has i=true then do { rule (Sre.names.getD i "");pure (ForInStep.yield PUnit.unit)} else pure (ForInStep.yield PUnit.unit)) (fun Z s'=>s'=s) E s:=by
  refine wpAny_forIn_list _ (fun Z Z s'=>s'=s) (fun Z s'=>s'=s) (fun i rest b s₁ hI=>?_) (fun b s₁ hI=>hI) _ _ rfl
  subst hI
  by_cases hh:(iter N m).seen.has i=true
  ·rw [if_pos hh];exact wpAny_bind (wpAny_rule (wpAny_pure rfl))
  ·rw [if_neg hh];exact wpAny_pure rfl
 refine wpAny_bind (wpAny_mono loop (fun b s₁ hI=>?_) fun Z Z e=>e)
 subst hI
 have q:=h _ hs
 cases o with
 | none=>rw [hs.2];exact wpAny_pure q
 | some pe=>rw [hs.2.1];exact wpAny_pure q
noncomputable def y0 (C:Array Nat) (next:Array Nat→Nat→Option (Nat×Nat)):Prop:=∀ text start,start≤text.size→text.size≤2 ^ 40→∃ B,B≤2 ^ 60∧Run B (Sre.forSearch C text 0 start text.size false) (rB (next text start))
theorem CX:y0 CN mB:=fun text start h Z=>(iDPP 200 (by exact Nat.le_of_ble_eq_true rfl) (yY h))
theorem CY:y0 CD eE:=fun text start h hz=>(iDPP (10 * text.size+30) (by lia) (yZ h))
inductive Pcs(next:Array Nat→Nat→Option (Nat×Nat))(text:Array Nat)(repl:Str):Nat→List Str→Prop
 | stop {d:Nat} (h:next text d=none):Pcs next text repl d (if d<text.size then [⟨text.extract d text.size⟩] else [])
 | more {d p e:Nat} {ps:List Str} (h:next text d=some (p,e)) (h1:d≤p) (h2:p<e) (h3:e≤text.size) (k:Pcs next text repl e ps):Pcs next text repl d ((if d<p then [⟨text.extract d p⟩] else [])++repl::ps)
theorem iW{text:Array Nat}{b e:Nat}{Q:Value→Shared→Prop}(hz:text.size≤sizeLine)(h:∀ t k,Q (.str ⟨text.extract b e⟩ t) {s with toks:=k}):wpAny (model prog w) A (reSlice text 0 b e) Q E s:=by
 show wpAny _ _ (mkStr ⟨text.extract b e⟩) _ _ _
 refine wpAny_mkStr (h _ _) ?_
 show (text.extract b e).size≤sizeLine
 rw [Array.size_extract];lia
noncomputable def sumLen (ss:List Str):Nat:=(ss.map (·.length)).sum
noncomputable def kN (p:Addr) (x:Str) (t:Tok) (r:Str) (rt:Tok) (n d:Nat) (l:Addr):Args:=⟨[.ref p,.str x t,.str r rt,rawInt 0,rawInt 0,rawInt n,rawInt d,rawInt d,.bool false,.ref l,.bool false],[]⟩
theorem g9{l:Addr}{vs:Array Value}{v:Value}{Q:Unit→Shared→Prop}(hl:PlainL s.heap l vs)(hz:vs.size≤16777216)(h:∀ h',PlainL h' l (vs.push v)→(∀ b o,b≠l→s.heap.get? b=some o→h'.get? b=some o)→Q () {s with heap:=h'}) :
  wpAny (model prog w) A (updateSeq l fun x=>x.push v) Q E s:=by
 (refine bQ (id hl) ?_;intro o n ho hc hdn hd)
 (refine ba (Obj.data_mapSeq hd (·.push v)) ?_;intro n' pJ)
 refine wpAny_updateSeq ho hd (h _ ?_ fun b o' hb e=>((Heap.SameBut.update ..).2 b hb).trans e) (by unfold sizeLine;lia) (by rw [Array.size_push];unfold sizeLine;exact Nat.add_le_add_right hz 1)
 refine ⟨_,n',Heap.get?_update_self _ ho (Obj.isFreed_of_seq pJ),(Obj.cls_mapSeq ..).trans hc,?_,pJ⟩
 obtain ⟨c,d,dt,sl⟩:=o
 subst hd
 exact hdn
theorem strs_snoc{vs:Array Value}{ss:List Str}{x:Str}{t:Tok}(h:StrsAre vs.toList ss):StrsAre (vs.push (.str x t)).toList (ss++[x]):=by
 rw [Array.toList_push]
 have:∀ {l:List Value} {ss:List Str},StrsAre l ss→StrsAre (l++[.str x t]) (ss++[x]):=by
  intro l ss h
  induction h with
  | nil=>exact .cons x t .nil
  | cons y u _ ih=>exact .cons y u ih
 exact this h
theorem y1{l:List Value}{ss:List Str}(h:StrsAre l ss):l.length=ss.length:=by
 induction h with
 | nil=>rfl
 | cons y u _ ih=>simp [ih]
theorem kO{l:Addr}{next:Array Nat→Nat→Option (Nat×Nat)}{d:Nat}{Q:Option Sre.M→Shared→Prop}(hS:y0 C next)(hz:x.length≤1000000)(hd:d≤x.cps.size)(h:∀ m',rB (next x.cps d) m'→Q (match next x.cps d with | some _=>some m' | none=>none) s) :
  wpAny (model prog w) A (reNextFound (H5 p C x t) d false) Q E s:=by
 (refine xDPP (hS x.cps d hd (Nat.le_trans hz (by exact Nat.le_of_ble_eq_true rfl))) ?_;intro B hB hr)
 exact kM hr hB h
noncomputable def qt (x:Str) (l:Addr) (n:Nat):Sem Fin:=do
 let y2 ← reSlice x.cps 0 0 0
 let it ← seqItems? (.ref l)
 if (it.getD #[]).isEmpty=true then do
  let text ← pure y2
  if false=true then do
   let v ← holding [text] (do let k ← mkInt n;newTuple [text,k])
   ret v
  else ret text
 else do
  let text ← call (.builtin (if (0 == 0)=true then "str.join" else "bytes.join")) [y2,.ref l]
  if false=true then do
   let v ← holding [text] (do let k ← mkInt n;newTuple [text,k])
   ret v
  else ret text
theorem nD{l:Addr}{n:Nat}{Φ:Fin→Shared→Prop}{acc:List Str}{vs:Array Value}(hl:PlainL s.heap l vs)(ha:StrsAre vs.toList acc)(hs:sumLen acc≤16777216)(hc:acc.length≤16777216)(hR:∀ k t',Φ (.done (.ret (.str (Txt.join (Str.ofString "") acc) t'))) {s with toks:=k}) :
  wpAny (model prog w) A (qt x l n) Φ E s:=by
 unfold qt
 refine wpAny_bind ?_
 show wpAny _ _ (mkStr ⟨x.cps.extract 0 0⟩) _ _ _
 refine wpAny_mkStr ?_ (by show (x.cps.extract 0 0).size≤_;simp)
 (refine bQ (id hl) ?_;intro o m ho ku hdn hd)
 refine wpAny_bind (wpAny_seqItems (s:={s with toks:=s.toks+1}) ho hd ?_)
 have e0:(⟨x.cps.extract 0 0⟩:Str)=Str.ofString "":=by
  have:x.cps.extract 0 0=#[]:=by exact Array.extract_zero
  rw [this];rfl
 rw [e0]
 by_cases he:vs=#[]
 ·subst he
  cases ha
  rw [if_pos (show (((some #[]:Option (Array Value)).getD #[]).isEmpty=true) from rfl)]
  refine wpAny_bind (wpAny_pure ?_)
  rw [if_neg (by decide)]
  exact wpAny_pure (hR _ _)
 ·rw [if_neg (by simpa using he)]
  refine wpAny_bind (wpAny_mono (Q:=fun v s'=>∃ t' k,v=.str (Txt.join (Str.ofString "") acc) t'∧s'={s with toks:=k}) (join_list (s:={s with toks:=s.toks+1}) (items:=vs) (bt o ho ku m hd) ha ?_ fun t' k=>(eB t' k rfl rfl)) (fun v s' aV=>dx aV fun t' k e1 e2=>?_) fun Z Z e=>e)
  ·show sumLen acc+acc.length * 0≤_
   lia
  ·subst e1 e2
   rw [if_neg (by decide)]
   exact wpAny_pure (hR _ _)
theorem rD{next:Array Nat→Nat→Option (Nat×Nat)}{r:Str}{rt:Tok}{l:Addr}{R:Result→Shared→Prop}(hS:y0 C next)(hz:x.length≤1000000){d:Nat}{ps:List Str}(K:Pcs next x.cps r d ps) :
  ∀ (s:Shared) (n:Nat) (acc:List Str) (vs:Array Value),rC s.heap p C l→PlainL s.heap l vs→StrsAre vs.toList acc→sumLen (acc++ps)≤16777216→acc.length+ps.length≤16777216→d≤x.cps.size →
   (∀ h' k t',(∀ b o,b≠l→s.heap.get? b=some o→h'.get? b=some o)→R (.ok (.ret (.str (Txt.join (Str.ofString "") (acc++ps)) t'))) {s with heap:=h',toks:=k}) →
   codeAny (model prog w) A (.builtin "re.Pattern.sub.loop" (kN p x t r rt n d l)) R s:=by
 induction K with
 | @stop d hn =>
  intro s n acc vs P hl ha pQ m9 hd hR
  refine codeAny_builtin fF ?_
  rw [Around.under_plainId cm _]
  unfold Builtin.«re.Pattern.sub.loop»
  dsimp only [kN,rawInt]
  refine wpAny_bind (iV P ?_)
  refine wpAny_bind (wpAny_bind (wpAny_pure ?_))
  rw [if_neg (by exact ne_true_of_eq_false rfl)]
  refine wpAny_pure ?_
  rw [show ((d:Int)).toNat=d from rfl,if_neg (by exact ne_true_of_eq_false rfl)]
  refine wpAny_bind (kO (l:=l) hS hz hd fun m' hm=>?_)
  rw [hn]
  dsimp only
  show wpAny _ _ (if d<x.cps.size then (do let v ← reSlice x.cps 0 d x.cps.size;updateSeq l (fun x=>x.push v);qt x l n) else qt x l n) _ _ _
  obtain ⟨GK⟩:Nonempty (vs.size=acc.length):=⟨by simpa using y1 ha⟩
  by_cases iE:d<x.cps.size
  ·rw [if_pos iE] at pQ m9 hR ⊢
   refine wpAny_bind (iW (Nat.le_trans hz (by unfold sizeLine;lia)) fun u k=>?_)
   refine wpAny_bind (g9 hl (by rw [GK];exact Nat.le_of_succ_le m9) fun h' jP kp=>?_)
   exact nD (s:={s with heap:=h',toks:=k}) jP (strs_snoc ha) pQ (by simpa using m9) fun k' t'=>hR h' k' t' kp
  ·rw [if_neg iE] at pQ m9 hR ⊢
   rw [List.append_nil] at pQ hR
   exact nD hl ha pQ (by exact Nat.le_of_add_right_le m9) fun k' t'=>hR s.heap k' t' fun Z Z Z e=>e
 | @more d p0 e ps hn h1 h2 h3 k ih =>
  intro s n acc vs P hl ha pQ m9 hd hR
  refine codeAny_builtin fF ?_
  rw [Around.under_plainId cm _]
  unfold Builtin.«re.Pattern.sub.loop»
  dsimp only [kN,rawInt]
  refine wpAny_bind (iV P ?_)
  refine wpAny_bind (wpAny_bind (wpAny_pure ?_))
  rw [if_neg (by exact ne_true_of_eq_false rfl)]
  refine wpAny_pure ?_
  rw [show ((d:Int)).toNat=d from rfl,if_neg (by exact ne_true_of_eq_false rfl)]
  refine wpAny_bind (kO (l:=l) hS hz hd fun m' hm=>?_)
  rw [hn] at hm ⊢
  dsimp only
  obtain ⟨-,-,JG,JH⟩:=hm
  rw [JG,JH,show (e == p0)=false by simp;exact Nat.ne_of_lt' h2]
  have GK:vs.size=acc.length:=by exact strsAre_size ha
  have rest:∀ (s1:Shared) (uL:List Str) (jB:Array Value),rC s1.heap p C l→PlainL s1.heap l jB→StrsAre jB.toList uL→sumLen ((uL++[r])++ps)≤16777216→(uL++[r]).length+ps.length≤16777216 →
    (∀ h' k t',(∀ b o,b≠l→s1.heap.get? b=some o→h'.get? b=some o)→R (.ok (.ret (.str (Txt.join (Str.ofString "") ((uL++[r])++ps)) t'))) { s1 with heap:=h',toks:=k}) →
    wpAny (model prog w) A.in1 (do
     updateSeq l fun x=>x.push (.str r rt)
     again (.builtin "re.Pattern.sub.loop" (kN p x t r rt (n+1) e l))) (fun fin s'=>match fin with | .done f=>R (.ok f) s' | .again c'=>c'.quiet=true∧codeAny (model prog w) A c' R s') (fun e s'=>R (.error e) s') s1:=by
   intro s1 uL jB P' jP H6 vO H7 JI
   have GL:jB.size=uL.length:=by exact strsAre_size H6
   refine wpAny_bind (g9 jP (by rw [GL];simp at H7;lia) fun h' AR kp=>?_)
   refine wpAny_pure ⟨plainId_quiet cm _,?_⟩
   exact ih { s1 with heap:=h'} (n+1) (uL++[r]) _ (P'.keeps kp) AR (strs_snoc H6) vO H7 h3 fun Ew k t' yQ=>JI Ew k t' fun b o hb q=>yQ b o hb (kp b o hb q)
  by_cases iE:d<p0
  ·rw [if_pos iE] at pQ m9 hR ⊢
   refine wpAny_bind (iW (Nat.le_trans hz (by unfold sizeLine;lia)) fun u k'=>?_)
   refine wpAny_bind (g9 hl (by rw [GK];simp at m9;exact Nat.le_of_add_right_le m9) fun h' jP kp=>?_)
   rw [if_pos (show ((0:Int) == 0)=true from rfl)]
   refine wpAny_bind (wpAny_pure ?_)
   rw [if_pos (show (Value.str r rt != Value.none)=true from rfl)]
   refine rest {s with heap:=h',toks:=k'} (acc++[⟨x.cps.extract d p0⟩]) _ (P.keeps kp) jP (strs_snoc ha) (by simpa using pQ) (by simp at m9 ⊢;lia) fun Ew k2 t' yQ=>?_
   have:=hR Ew k2 t' fun b o hb q=>yQ b o hb (kp b o hb q)
   simpa using this
  ·rw [if_neg iE] at pQ m9 hR ⊢
   rw [if_pos (show ((0:Int) == 0)=true from rfl)]
   refine wpAny_bind (wpAny_pure ?_)
   rw [if_pos (show (Value.str r rt != Value.none)=true from rfl)]
   refine rest s acc vs P hl ha (by simpa using pQ) (by simp at m9 ⊢;lia) fun Ew k2 t' yQ=>?_
   have:=hR Ew k2 t' yQ
   simpa using this
end
open PySem.Builtin.Re in
noncomputable def ng (K:PySem.W.Frag) (p:Addr) (C:Array Nat):Prop:=∃ fs sl cl oc items n,K.lookup p=some ⟨.type "re.Pattern",none,.fields fs,sl⟩∧fs.getD 5 .none=.ref cl∧reRawNat (fs.getD 6 .none)=0∧reRawNat (fs.getD 2 .none)=0∧K.lookup cl=some oc∧oc.data=.seq items n∧(items.map reRawOf).map (·.toNat)=C
section
open PySem.Builtin.Re
variable {X:Cx}{A:Around}{env:Env}{loc:Loc}{cells:Cells}{own:Own}{s:Shared}{Ψ:V→Cells→Prop}{p:Addr}{C:Array Nat}
theorem ng.here(P:ng X.K p C)(K:X.K.In s.heap){l:Addr}(hl:s.heap.get? l=none):rC s.heap p C l:=by
 (refine fq P ?_;try clear P;intro fs sl cl oc items n h1 h2 h3 h4 h5 h6 h7)
 constructor
 exact (ki fs none sl cl oc items n (K _ _ h1) h2 h3 h4 (K _ _ h5) h6 h7 (fun z=>absurd (K _ _ h1) (by rw [z,hl];simp)) (fun z=>absurd (K _ _ h5) (by rw [z,hl];simp)))
theorem ng.AW(P:ng X.K p C){Θ:V→List V→Cells→Prop}(h:Θ (.bi "re.Pattern.sub") [.ref p] cells):jC X A (.ref p) "sub" Θ cells :=
 eZ (T:="re.Pattern") iU eQ kK (fun own s v I r=>by
  refine RV.e0 r rfl ?_
  (refine qh P ?_;try clear P;intro fs sl cl oc items n h1 Z)
  exact ⟨⟨_,I.K _ _ h1,rfl⟩,fun a q=>by cases q;exact (iDPP _ (I.K _ _ h1) rfl)⟩) h
theorem y3(a b:Value):reNamed "re.Pattern.sub" "sub" ["repl","string","count"] 2 [a,b] []=pure [some a,some b,none]:=by rfl
theorem BW{next:Array Nat→Nat→Option (Nat×Nat)}{r x:Str}{ps:List Str}(P:ng X.K p C)(hS:y0 C next)(hr:r.cps.contains 92=false)(K:Pcs next x.cps r 0 ps)(hz:x.length≤1000000)(hs:sumLen ps≤16777216)(hc:ps.length≤16777216)(h:Ψ (.str (Txt.join (Str.ofString "") ps)) cells):aE X A (.bi "re.Pattern.sub") [.ref p,.str r,.str x] Ψ cells:=fun fv vs own s I ⟨rf,rs⟩=>by
 refine RV.e0 rf rfl ?_
 (refine xDDPPP rs.cK ?_;intro v1 jB aV;subst aV;intro r1 rs)
 (refine xDDPPP rs.two ?_;intro v2 v3 bj;subst bj;intro r2 r3)
 refine RV.e0 r1 rfl ?_;refine RV.e1 r2 rfl fun Z=>?_;refine RV.e1 r3 rfl fun Z=>?_
 rename_i t2 t3
 have PH:=P.here I.K (ao s.heap)
 refine gR eQ PH.typeIs jG ?_ (kL _ _ _)
 unfold Builtin.«re.Pattern.sub» reSubstitute
 dsimp only
 rw [y3]
 refine wpAny_bind (wpAny_pure ?_)
 dsimp only
 refine wpAny_bind (wpAny_pure ?_)
 refine wpAny_bind (wpAny_specialOf (typeIs_str _ _ _) sT ?_)
 rw [if_neg (show ¬ ((none:Option Value).isSome=true) by decide)]
 refine wpAny_bind (wpAny_pure ?_)
 dsimp only
 refine wpAny_bind (wpAny_pure ?_)
 rw [if_neg (show ¬ ((none:Option Value).isSome=true) by decide),hr]
 rw [if_pos (show ((!false)=true) from rfl)]
 refine wpAny_bind (wpAny_pure ?_)
 dsimp only
 refine wpAny_bind (wpAny_holding (iV PH ?_))
 rw [if_neg (show ¬ (((0:Int) == 1)=true) by decide)]
 refine wpAny_bind (wpAny_newList ?_ (by decide))
 refine wpAny_pure ⟨plainId_quiet cm _,?_⟩
 have Ex:∀ b o,s.heap.get? b=some o→(s.heap.push { cls:=.type "list",data:=.seq ([]:List Value).toArray}).get? b=some o:=fun b o e=>Heap.get?_push_of_some _ e
 refine rD (l:=s.heap.objs.size) (n:=0) (acc:=[]) (vs:=#[]) hS hz K {s with heap:=s.heap.push { cls:=.type "list",data:=.seq ([]:List Value).toArray}} ?_ ?_ .nil hs (by simpa using hc) (Nat.zero_le _) fun h' k t' kp=>?_
 ·exact PH.keeps fun b o Z e=>Ex b o e
 ·exact (cS _ _ (Heap.get?_push_size _ rfl) rfl rfl rfl)
 ·refine mb_end (b:=.str _) I rfl (fun b o e=>kp b o (fun z=>?_) (Ex b o e)) (.str _ _) h
  rw [z,ao] at e;cases e
end
section
open PySem.W (findIn findObj plainGet hasDictIn noGet typeIn InstAt lookIn clsIn plainOver takerIn slotIn isClsIn specialIn takesIn)
section
variable {X:Cx}{A:Around}{env:Env}{loc:Loc}{cells:Cells}{own:Own}{s:Shared}{Ψ:V→Cells→Prop}
theorem lN{o:Obj}{es:Array DictEntry}{ep:Nat}{m:Str→Option Value}{name:Str}(hd:o.data=.dict es ep)(hk:StrKeys es)(hf:∀ name,nsFind es name=m name):lookIn name o=some (m name):=by
 unfold PySem.W.lookIn
 rw [hd]
 dsimp only
 have:=hf name
 unfold nsFind findBy at this
 rw [← Array.find?_toList] at this
 cases q:es.toList.find? (fun e=>e.key.isStr name) with
 | some e=>rw [q] at this;rw [← this];rfl
 | none =>
  rw [q] at this
  have hr:¬ (es.toList.any (·.refKey)=true):=by
   rw [List.any_eq_true]
   (intro aV;refine xDPP aV ?_;clear aV;intro e he hr)
   (refine eG (hk e (by exact Array.mem_def.mpr he)) ?_;intro n t DR)
   unfold DictEntry.refKey at hr
   rw [DR] at hr;cases hr
  dsimp only
  rw [if_neg hr,← this];rfl
structure kP(K:PySem.W.Frag)(C:Addr):Prop where
 get:findIn K (.ref C) "__getattribute__"=some (some (.builtin "object.__getattribute__"))
 noAttr:findIn K (.ref C) "__getattr__"=some none
 set:findIn K (.ref C) "__setattr__"=some (some (.builtin "object.__setattr__"))
 over:plainOver K C=true
 cls:isClsIn K C=true
noncomputable def Ey (X:Cx) (C:Addr) (name:Str):Prop:=hasDictIn X.K C=true∧findIn X.K (.ref C) name=some none∧takerIn X.K C name=some none
noncomputable def vS (v:V):Prop:=match v with | .bi _=>False | _=>True
theorem jj{h:Heap}{v:Value}{x:V}(r:RV own h v x)(n:vS x):PySem.W.handedIn v=true:=by
 cases r <;> first | rfl | exact n.elim
noncomputable def vT (X:Cx) (A:Around) (a:V) (name:Str) (Ψ:V→Cells→Prop) (cells:Cells):Prop:=∀ v,mb X A RV (fun own h=>RV own h v a) (getAttr v name true) Ψ cells
noncomputable abbrev KT (X:Cx) (A:Around) (attr:Str) (Ψ:V→Loc→Cells→Prop) (a:V) (l:Loc) (c:Cells):Prop:=vT X A a attr (fun r c'=>Ψ r l c') c
theorem m_attr{value:Expr}{attr:Str}{pos:Pos}{Ψ:V→Loc→Cells→Prop}(h:mE X A env (eval value env) (KT X A attr Ψ) loc cells)(he:autoParam (eval (.Attribute value attr pos) env=(do let o ← eval value env;standAt pos.atName;let r ← holding [o] (getAttr o attr true);letTemporaryGo value o r;pure r)) aR):mE X A env (eval (.Attribute value attr pos) env) Ψ loc cells:=fun own s I =>
 Attribute_any_ (h.use I fun aL l1 c1 a v s1 I1 r1 x1 h1=>(h1 v).pC I1 r1 fun aI c2 b v2 s2 I2 r2 x2 h2=>⟨aI,l1,c2,b,I2,r2,x1.trans x2,h2⟩) he
theorem nE{a C:Addr}{fs:List (Str×V)}(I:Base X own cells s)(hc:cells a=some (.inst C fs)):∃ d m sl od,InstAt s.heap a ⟨.ref C,some d,.plain,sl⟩ C (some od)∧own a=some a∧own d=some a∧d≠a∧s.heap.Ns1 d m∧(∀ x,lookIn x od=some (m x)) ∧
  (∀ x,(fs.lookup x=none→m x=none)∧(∀ mv,fs.lookup x=some mv→∃ v,m x=some v∧RV own s.heap v mv)):=by
 (refine uq (I.cell a _ hc) ?_;intro oa d m sl e od ne hn r)
 (refine qj (id hn) ?_;intro o es ep eo hd hk Z hf)
 exact (qN d m sl o (⟨e,rfl,rfl,eo⟩) oa od ne hn (fun x=>lN hd hk hf) r)
theorem bJ{a C:Addr}{fs:List (Str×V)}{name:Str}{mv:V}(hc:cells a=some (.inst C fs))(hl:fs.lookup name=some mv)(hn:vS mv)(K:kP X.K C)(O:Ey X C name)(h:Ψ mv cells):vT X A (.ref a) name Ψ cells:=fun v own s I r=>by
 refine RV.e0 r rfl ?_
 (refine eH (nE I hc) ?_;intro d m sl od IA oa odd ne ns lk vals)
 (refine xDPP ((vals name).2 mv hl) ?_;intro v hv rv)
 refine PySem.W.get_value I.K IA K.get (PySem.W.findObj_own (attr:=none) O.1 O.2.1 rfl (by rw [lk,hv])) (jj rv hn) ?_
 exact az I rv h
theorem fG{a C f:Addr}{fs:List (Str×V)}{name:Str}{Θ:V→List V→Cells→Prop}(hc:cells a=some (.inst C fs))(hl:fs.lookup name=none)(K:kP X.K C)(hf:findIn X.K (.ref C) name=some (some (.ref f)))(ht:typeIn X.K (.ref f)=some (.type "function"))(h:Θ (.ref f) [.ref a] cells) :
  jC X A (.ref a) name Θ cells:=fun v pl own s I r=>by
 refine RV.e0 r rfl ?_
 (refine eH (nE I hc) ?_;intro d m sl od IA oa odd ne ns lk vals)
 refine PySem.W.method_fn I.K IA K.get K.noAttr hf ht ?_ ⟨own,cells,(.ref f,[.ref a]),I,⟨.ref f,.cons (.ref a) .nil⟩,.refl,h⟩
 show (lookIn name od).map (·.isSome)=some false
 rw [lk,(vals name).1 hl];rfl
noncomputable def rE:List (Str×V)→Str→V→List (Str×V)
 | [],n,v=>[(n,v)]
 | (m,u)::r,n,v=>if m == n then (n,v)::r else (m,u)::rE r n v
theorem mC{n:Str}{v:V}{x:Str}:∀ {fs:List (Str×V)},(rE fs n v).lookup x=if x == n then some v else fs.lookup x
 | []=>by rw [rE,lookup_cons]
 | (m,u)::r=>by
  rw [rE]
  by_cases h:(m == n)=true
  ·have:m=n:=eq_of_beq h
   subst this
   rw [if_pos h,lookup_cons,lookup_cons]
   by_cases hx:(x == m)=true
   ·rw [if_pos hx,if_pos hx]
   ·rw [if_neg hx,if_neg hx,if_neg hx]
  ·rw [if_neg h,lookup_cons,lookup_cons,mC (fs:=r)]
   by_cases hx:(x == m)=true
   ·rw [if_pos hx,if_pos hx]
    have:¬ ((x == n)=true):=fun q=>h (by rw [← eq_of_beq hx];exact q)
    rw [if_neg this]
   ·rw [if_neg hx,if_neg hx]
noncomputable def AX (X:Cx) (A:Around) (a:V) (name:Str) (mv:V) (Ψ:Cells→Prop) (cells:Cells):Prop:=∀ v u,mb X A RU (fun own h=>RV own h v a∧RV own h u mv) (setAttr v name u) (fun Z c=>Ψ c) cells
theorem hD{a C:Addr}{fs:List (Str×V)}{name:Str}{mv:V}{Ψ:Cells→Prop}(hc:cells a=some (.inst C fs))(K:kP X.K C)(O:Ey X C name)(hz:fs.length≤1000)(h:Ψ (upd cells a (some (.inst C (rE fs name mv))))):AX X A (.ref a) name mv Ψ cells:=fun v u own s I ⟨r,ru⟩=>by
 refine RV.e0 r rfl ?_
 (refine eH (nE I hc) ?_;intro d m sl od IA oa odd ne ns lk vals)
 (refine xDPP (PySem.W.any_some (show (clsIn X.K C).any (·.hasDict)=true from O.1)) ?_;intro cd GN Ez)
 refine PySem.W.set_plain I.K IA K.set ?_
 refine PySem.W.osa_open (s:={s with toks:=s.toks+1}) I.K IA K.over O.2.2 fun b=>?_
 obtain ⟨hx,ku,hn,hd⟩:=id IA
 refine wpAny_bind (wpAny_pure (wpAny_bind (wpAny_bind (wpAny_loadPart hx (wpAny_bind ((PySem.W.looks_clsIn (M:=model X.prog X.w) (show X.K.In ({s with toks:=s.toks+1}:Shared).heap from I.K) GN).here ?_))))))
 rw [Ez]
 refine wpAny_pure (a:=some d) (wpAny_bind (wpAny_pure (wpAny_bind ?_)))
 refine wpAny_nsSet1 (s:={s with toks:=s.toks+1}) ns fun h' CZ uf=>?_
 have wi:Within m (fs.map (·.1)):=fun y hy=>by
  cases q:fs.lookup y with
  | none=>exact absurd ((vals y).1 q) hy
  | some GO =>
   obtain ⟨l1,l2,e,-⟩:=List.lookup_eq_some_iff.mp q
   rw [e];simp
 (refine dS (CZ.count (wi.cons name u)) ?_;intro o' Ea Le e' pJ AI)
 refine wpAny_bind (wpAny_lookBehind (s:=⟨h',_,_,_,_⟩) e' (by rw [pJ];exact pastItsLine_dict (by simp at AI;unfold sizeLine;lia)) (wpAny_pure ?_))
 have kp:∀ b o,own b≠some a→s.heap.get? b=some o→h'.get? b=some o:=fun b o n e=>(uf.2 b (fun z=>n (z▸odd))).trans e
 have th:∀ b o,s.heap.get? b=some o→∃ o',h'.get? b=some o':=fun b o e=>by
  by_cases z:b=d
  ·obtain ⟨o',_,_,e',_⟩:=CZ;exact (bA o' (z▸e'))
  ·exact (bA o ((uf.2 b z).trans e))
 have rv:∀ v x,RV own s.heap v x→RV own h' v x:=fun v x r=>r.mono (fun b o e q Z=>kp b o (by rw [q];simp) e) fun Z Z Z e=>e
 have cell:bT X.prog X.w own h' a (.inst C (rE fs name mv)):=by
  refine (lE d _ sl ((uf.2 a (fun z=>ne z.symm)).trans hx) odd ne CZ (fun x=>?_))
  rw [mC]
  by_cases FC:(x == name)=true
  ·have:x=name:=eq_of_beq FC
   subst this
   rw [if_pos FC]
   exact ⟨fun q=>(by cases q),fun GO q=>(iDPP u (by exact if_pos rfl) (by cases q;exact rv _ _ ru))⟩
  ·rw [if_neg FC]
   have iD:x≠name:=fun z=>FC (by rw [z];exact beq_self_eq_true _)
   rw [if_neg iD]
   exact ⟨(vals x).1,fun GO q=>let ⟨v,a1,a2⟩:=(vals x).2 GO q;(iDPP v a1 (rv _ _ a2))⟩
 exact ⟨own,_,(),I.cellSet (fun Z Z Z=>rfl) (fun b d e n=>(n e).elim) kp th oa cell,trivial,cL (fun Z Z Z=>rfl) kp th (.inl (Cell.dn hc rfl)),h⟩
end
end
section
open PySem.W (findIn findObj plainGet hasDictIn noGet typeIn InstAt lookIn clsIn plainOver takerIn slotIn isClsIn specialIn takesIn)
section
variable {X:Cx}{A:Around}{env:Env}{loc:Loc}{cells:Cells}{own:Own}{s:Shared}{Ψ:V→Cells→Prop}
structure iX(K:PySem.W.Frag)(C:Addr)(name:Str)(p i:Nat):Prop where
 at_:findIn K (.ref C) name=some (some (.ref p))
 get:specialIn K (.ref p) "__get__"=some (some (.builtin "member_descriptor.__get__"))
 takes:takesIn K (.ref p)=some true
 slot:slotIn K p C=some i
 EA:takerIn K C name=some (some (.ref p))
 typ:typeIn K (.ref p)=some (.type "member_descriptor")
 small:i<1000
theorem vU{a C:Addr}{fs:List (Option V)}(I:Base X own cells s)(hc:cells a=some (.slots C fs)):∃ d sl od,InstAt s.heap a ⟨.ref C,some d,.plain,sl⟩ C (some od)∧own a=some a∧own d=some a∧d≠a∧s.heap.Ns d (fun Z=>none)∧sl.size=fs.length ∧
  (∀ (i:Nat) (v:Option Value) (x:Option V),sl[i]?=some v→fs[i]?=some x→(v=none∧x=none)∨∃ u y,v=some u∧x=some y∧RV own s.heap u y):=by
 (refine ur (I.cell a _ hc) ?_;intro oa d sl e od ne hn hz r)
 (refine dy (id hn) ?_;intro o es ep eo hd hk hf)
 exact (sA d sl o (⟨e,rfl,rfl,eo⟩) oa od ne hn hz r)
theorem at_slots{a C:Addr}{fs:List (Option V)}{name:Str}{p i:Nat}{mv:V}(hc:cells a=some (.slots C fs))(hl:fs[i]?=some (some mv))(hn:vS mv)(K:kP X.K C)(S:iX X.K C name p i)(h:Ψ mv cells):vT X A (.ref a) name Ψ cells:=fun v own s I r=>by
 refine RV.e0 r rfl ?_
 (refine mi (vU I hc) ?_;intro d sl od IA oa odd ne ns hz vals)
 have hi:i<sl.size:=by rw [hz];exact (List.getElem?_eq_some_iff.mp hl).1
 obtain ⟨u,hu,ru⟩:∃ u,sl[i]?=some (some u)∧RV own s.heap u mv:=by
  rcases vals i sl[i] (some mv) (Array.getElem?_eq_getElem hi) hl with ⟨-,q⟩ | ⟨u,y,q1,q2,q3⟩
  ·cases q
  ·cases q2;exact (iDPP u (by rw [Array.getElem?_eq_getElem hi,q1]) q3)
 exact PySem.W.get_bind I.K IA K.get (PySem.W.findObj_data K.cls S.at_ S.get S.takes) K.noAttr (wpAny_call (PySem.W.slot_get (s:={s with toks:=s.toks+1}) I.K IA S.slot (by rw [hu];rfl) (PySem.W.handed_on (jj ru hn) (az I ru h))))
noncomputable def bK (fs:List (Option V)) (i:Nat) (mv:V):List (Option V):=(fs++List.replicate (i+1 - fs.length) none).set i (some mv)
noncomputable def uM (h:Heap) (a d:Addr):List (Addr×Obj):=(List.range h.objs.size).filterMap fun b=>if b=a∨b=d then none else (h.get? b).map fun o=>(b,o)
theorem jX{h:Heap}{a d b:Addr}{o:Obj}:(b,o)∈uM h a d↔b≠a∧b≠d∧h.get? b=some o:=by
 unfold uM
 rw [List.mem_filterMap]
 constructor
 ·rintro ⟨c,-,hc⟩
  split at hc
  ·cases hc
  ·rename_i q
   rw [Option.map_eq_some_iff] at hc
   (refine xDPP hc ?_;try clear hc;intro o' e e2)
   cases e2
   exact ⟨fun z=>q (.inl z),fun z=>q (.inr z),e⟩
 ·(intro aV;refine aP aV ?_;clear aV;intro h1 h2 e)
  refine (iDPP b (List.mem_range.mpr (Heap.lt_size e)) ?_)
  rw [if_neg (fun q=>q.elim h1 h2),e];rfl
theorem kQ{α:Type}{c:Prop}[Decidable c]{a b:α}(h:(if c then some a else none)=some b):a=b:=by
 by_cases q:c
 ·rw [if_pos q] at h;exact Option.some.inj h
 ·rw [if_neg q] at h;exact nomatch h
theorem xc{sl:Array (Option Value)}{fs:List (Option V)}{i:Nat}{u:Value}{y:V}(hz:sl.size=fs.length):((sl++Array.replicate (i+1 - sl.size) none).setIfInBounds i (some u)).size=(bK fs i y).length:=by
 unfold bK;simp [hz]
theorem xd{R:Option Value→Option V→Prop}{sl:Array (Option Value)}{fs:List (Option V)}{i:Nat}{u:Value}{y:V}(hz:sl.size=fs.length)(vals:∀ (j:Nat) v x,sl[j]?=some v→fs[j]?=some x→R v x)(h0:R none none)(h1:R (some u) (some y))(j:Nat)(v:Option Value)(x:Option V)(hv:((sl++Array.replicate (i+1 - sl.size) none).setIfInBounds i (some u))[j]?=some v)(hx:(bK fs i y)[j]?=some x):R v x:=by
 rw [Array.getElem?_setIfInBounds] at hv
 rw [bK,List.getElem?_set] at hx
 by_cases hj:i=j
 ·rw [if_pos hj] at hv hx
  exact kQ hv▸kQ hx▸h1
 ·rw [if_neg hj] at hv hx
  by_cases iE:j<sl.size
  ·rw [Array.getElem?_append_left iE] at hv
   rw [List.getElem?_append_left (Nat.lt_of_lt_of_eq iE hz)] at hx
   exact vals j v x hv hx
  ·rw [Array.getElem?_append_right (Nat.le_of_not_lt iE),Array.getElem?_replicate] at hv
   rw [List.getElem?_append_right (Nat.le_of_not_lt (hz▸iE)),List.getElem?_replicate] at hx
   exact kQ hv▸kQ hx▸h0
theorem fJ{a C:Addr}{fs:List (Option V)}{name:Str}{p i:Nat}{mv:V}{Ψ:Cells→Prop}(hc:cells a=some (.slots C fs))(K:kP X.K C)(S:iX X.K C name p i)(h:Ψ (upd cells a (some (.slots C (bK fs i mv))))):AX X A (.ref a) name mv Ψ cells:=fun v u own s I bj=>aK bj fun r ru=>by
 refine RV.e0 r rfl ?_
 (refine mi (vU I hc) ?_;intro d sl od IA oa odd ne ns hz vals)
 have hx:=IA.at_
 have N:News {} d s.heap ([]++(a,(⟨.ref C,some d,.plain,sl⟩:Obj))::uM s.heap a d):=fun q hq=>by
  rcases List.mem_cons.mp hq with rfl | hq
  ·exact ⟨hx,fun z=>ne z.symm,rfl⟩
  ·obtain ⟨b,o⟩:=q
   (refine aP (jX.mp hq) ?_;intro h1 h2 e)
   exact ⟨e,h2,rfl⟩
 have F:Fr {} d s.heap (fun Z=>none):=⟨ns,fun b o e=>absurd e (by simp [Heap.get?]),Nat.zero_le _⟩
 refine PySem.W.set_plain I.K IA K.set (PySem.W.osa_descr (s:={s with toks:=s.toks+1}) PySem.W.KF.slot_mset I.K IA K.over S.EA S.typ (PySem.W.slot_set (s:={s with toks:=s.toks+1}) F N I.K IA S.slot S.small (fun Z h=>(nomatch h)) (fun q hq=>(jX.mp hq).1) rfl rfl fun h' F' N'=>?_))
 have kp:∀ b o,b≠a→b≠d→s.heap.get? b=some o→h'.get? b=some o:=fun b o h1 h2 e=>(N' (b,o) (List.mem_cons_of_mem _ (jX.mpr ⟨h1,h2,e⟩))).1
 have ha:=(N' (a,_) (List.mem_cons_self)).1
 have GP:∀ b o,own b≠some a→s.heap.get? b=some o→h'.get? b=some o:=fun b o n e=>kp b o (fun z=>n (z▸oa)) (fun z=>n (z▸odd)) e
 have th:∀ b o,s.heap.get? b=some o→∃ o',h'.get? b=some o':=fun b o e=>by
  by_cases z:b=a
  ·exact (bA _ (z▸ha))
  ·by_cases z2:b=d
   ·obtain ⟨o',_,_,e',_⟩:=F'.ns;exact (bA o' (z2▸e'))
   ·exact (bA o (kp b o z z2 e))
 have rv:∀ v x,RV own s.heap v x→RV own h' v x:=fun v x r=>r.mono (fun b o e q Z=>GP b o (by rw [q];simp) e) fun Z Z Z e=>e
 have cell:bT X.prog X.w own h' a (.slots C (bK fs i mv)):=lF d _ ha odd ne F'.ns (xc hz) fun j v x hv hx =>
  xd (R:=fun v x=>(v=none∧x=none)∨∃ u y,v=some u∧x=some y∧RV own h' u y) hz (fun j v x p q=>(vals j v x p q).imp id fun z=>xDDPPP z fun u y a b c=>iDDPPP u y a b (rv _ _ c)) (.inl ⟨rfl,rfl⟩) (.inr (iDDPPP u mv rfl rfl (rv _ _ ru))) j v x hv hx
 exact ⟨own,_,(),I.cellSet (fun Z Z Z=>rfl) (fun b d e n=>(n e).elim) GP th oa cell,trivial,cL (fun Z Z Z=>rfl) GP th (.inl (Cell.dn hc rfl)),h⟩
end
end
section
open PySem.W (findIn typeIn makesIn)
section
variable {X:Cx}{A:Around}{env:Env}{loc:Loc}{cells:Cells}{own:Own}{s:Shared}{Ψ:V→Cells→Prop}
noncomputable def fK (X:Cx) (A:Around) (f:V) (args:List V) (Ψ:V→Cells→Prop) (cells:Cells):Prop:=∀ own s fv vs,Base X own cells s→RV own s.heap fv f→bP own s.heap vs args→∀ R:Result→Shared→Prop,
 (∀ own' cells' b v s',Base X own' cells' s'→RV own' s'.heap v b→Ext qR own cells s.heap own' cells' s'.heap→Ψ b cells'→R (.ok (.ret v)) s')→codeAny (model X.prog X.w) A (.call fv ⟨vs,[]⟩) R s
theorem fK.call{f:V}{args:List V}(h:fK X A f args Ψ cells):aE X A f args Ψ cells:=fun fv vs own s I aV=>aK aV fun rf rs =>
 wpAny_call (h own s fv vs I rf rs _ fun own' c' b v s' B r x p=>⟨own',c',b,B,r,x,p⟩)
theorem AY{k:Nat}{a:Addr}{qual:Str}{st:Stmt}{names:List Str}{as:List V}{Ψ:V→Cells→Prop}(F:Fn X a qual st)(hA:Rm X A (k+1))(hb:∀ doc pm an cdv ct,∀ vs:List Value,vs.length=as.length→bindArgs (PySem.W.fnOf (fnName st) qual (bG st) (bI st) (au st) .none .none doc pm an cdv ct) ⟨vs,[]⟩=pure (names.zip vs))(h:∀ L cdv A',Rm (X.push L) A' k→mS (X.push L) A' (dF qual (au st) L a cdv) (execs (bI st) (dF qual (au st) L a cdv)) (Back Ψ) (names.zip as) cells)(dc:autoParam ((au st).kind=.function) aR)(wW:autoParam ((au st).isCoroutine=false) aR)(nX:autoParam ((au st).isGenerator=false) aR)(mq:autoParam (names.Nodup) aDK)(fz:autoParam ((au st).names.all (fun x=>x.2 != .free)=true) aDK)(jQ:autoParam (names.all (fun x=>(au st).names.lookup x == some .local||(au st).names.lookup x == some .cell)=true) aDK) :
  fK X A (.ref a) as Ψ cells:=by
 (refine nv F ?_;try clear F;intro doc pm an cdv ct F)
 intro own s fv vs I rf rs R hR
 refine RV.e0 rf rfl ?_
 (refine qg F.at_ ?_;intro oc od DQ ho)
 refine codeAny_call_function (fd:=PySem.W.fnOf (fnName st) qual (bG st) (bI st) (au st) .none .none doc pm an cdv ct) (by have:=hA.dep;exact Nat.lt_of_add_right_lt this) (I.K _ _ ho) rfl wW nX rfl (PySem.W.codeRec_of I.K F.code) ?_
 rw [hb doc pm an cdv ct vs rs.1]
 refine wpAny_pure ?_
 exact gM hA I rs dc mq fz jQ (fun L=>h L cdv _ (hA.deeper _ (by show (au st).kind≠_;rw [dc];decide) rfl)) fun own' c' s' mv v p r b x=>hR own' c' mv v s' b r x p
structure oy(K:PySem.W.Frag)(C fI:Addr):Prop where
 makes:makesIn K C=true
 init:findIn K (.ref C) "__init__"=some (some (.ref fI))
 fn:typeIn K (.ref fI)=some (.type "function")
theorem Rm.under{k:Nat}{C:Addr}{vs:List Value}(h:Rm X A (k+1)):Rm X (A.under (.builtin "type.__call__" ⟨.ref C::vs,[]⟩)) k :=
 ⟨h.hh,by have:=h.dep;show A.depth+1+k<_;lia,by have:=h.un;show A.units+1+10 * k<_;lia,h.fr⟩
theorem BX{k:Nat}{C fI:Addr}{args:List V}{c0:Cell}(M:oy X.K C fI)(hA:Rm X A (k+1))(h0:c0=.inst C []∨c0=.slots C [])(h:∀ a A',cells a=none→Rm X A' k→fK X A' (.ref fI) (.ref a::args) (fun r c=>r=.none∧Ψ (.ref a) c) (upd cells a (some c0))):aE X A (.ref C) args Ψ cells:=fun fv vs own s I bj=>aK bj fun rf rs=>by
 refine RV.e0 rf rfl ?_
 refine wpAny_call ?_
 obtain ⟨hh,g,dr,t,os⟩:=s
 refine PySem.W.make_core (PySem.W.makes_of I.K M.makes) (PySem.W.looks_findIn I.K M.init) (fun self=>PySem.W.bind_fn I.K self M.fn) (.inl rfl) ?_
 have z1:(hh.push PySem.W.emptyDict).objs.size=hh.objs.size+1:=Heap.size_push ..
 have kp:∀ b o,hh.get? b=some o→((hh.push PySem.W.emptyDict).push (PySem.W.instObj C hh.objs.size)).get? b=some o:=fun b o e=>Heap.get?_push_of_some _ (Heap.get?_push_of_some _ e)
 have ed:((hh.push PySem.W.emptyDict).push (PySem.W.instObj C hh.objs.size)).get? hh.objs.size=some PySem.W.emptyDict:=Heap.get?_push_of_some _ (Heap.get?_push_size _ rfl)
 have ea:((hh.push PySem.W.emptyDict).push (PySem.W.instObj C hh.objs.size)).get? (hh.objs.size+1)=some (PySem.W.instObj C hh.objs.size):=by rw [← z1];exact Heap.get?_push_size _ rfl
 generalize (hh.push PySem.W.emptyDict).push (PySem.W.instObj C hh.objs.size)=h2 at kp ed ea ⊢
 have n0:hh.get? hh.objs.size=none:=ao hh
 have n1:hh.get? (hh.objs.size+1)=none:=dU (by exact Nat.le_add_right hh.objs.size 1)
 have f0:=I.fresh (b:=hh.objs.size) n0
 have f1:=I.fresh (b:=hh.objs.size+1) n1
 obtain ⟨own',ho⟩:∃ own':Own,own'=fun b=>if b=hh.objs.size∨b=hh.objs.size+1 then some (hh.objs.size+1) else own b:=(bA _ rfl)
 have oe:∀ b o,hh.get? b=some o→own' b=own b:=fun b o e=>by
  rw [ho];dsimp only
  rw [if_neg (fun q=>q.elim (fun z=>by rw [z,n0] at e;cases e) (fun z=>by rw [z,n1] at e;cases e))]
 have od:own' hh.objs.size=some (hh.objs.size+1):=by rw [ho];simp
 have oa:own' (hh.objs.size+1)=some (hh.objs.size+1):=by rw [ho];simp
 have DP:h2.Ns1 hh.objs.size (fun Z=>none):=Heap.Ns1.of_empty (nK _ (#[]) 0 ed rfl (fun e he=>by simp at he) (fun Z=>rfl))
 have cell:bT X.prog X.w own' h2 (hh.objs.size+1) c0:=by
  rcases h0 with rfl | rfl
  ·exact (lE hh.objs.size _ (#[]) ea od (Nat.ne_of_lt (Nat.lt_succ_self _)) DP (fun x=>⟨fun Z=>rfl,fun mv q=>by simp at q⟩))
  ·exact (lF hh.objs.size (#[]) ea od (Nat.ne_of_lt (Nat.lt_succ_self _)) DP.ns rfl (fun i v x q=>by simp at q))
 have cn:cells (hh.objs.size+1)=none:=by
  cases q:cells (hh.objs.size+1) with
  | none=>rfl
  | some c=>have:=(I.cell _ c q).1;rw [f1.1] at this;cases this
 have th:∀ b o,hh.get? b=some o→∃ o',h2.get? b=some o':=fun b o e=>(bA o (kp b o e))
 have B:Base X own' (upd cells (hh.objs.size+1) (some c0)) ⟨h2,g,dr,t,os⟩:=I.cellSet (h':=h2) (t:=t) oe (fun b d e n=>by
  rw [ho] at e;dsimp only at e
  split at e
  ·rename_i q
   rcases q with rfl | rfl
   ·exact (iPDP f0.2 _ ed)
   ·exact (iPDP f1.2 _ ea)
  ·exact (n e).elim) (fun b o Z e=>kp b o e) th oa cell
 have x0:Ext qR own cells hh own' (upd cells (hh.objs.size+1) (some c0)) h2:=cL (s:=⟨hh,g,dr,t,os⟩) oe (fun b o Z e=>kp b o e) th (.inr n1)
 refine h (hh.objs.size+1) _ cn hA.under own' ⟨h2,g,dr,t,os⟩ (.ref _) (.ref _::vs) B (.ref _) (.cons (.ref _) (rs.pK x0)) _ fun aI c2 b v s2 B2 r2 x2 bH=>aK bH fun e2 p2=>?_
 subst e2
 refine RV.e0 r2 rfl ?_
 exact ⟨rfl,aI,c2,.ref _,B2,.ref _,x0.trans x2,p2⟩
end
end
section
variable {X:Cx}{A:Around}{env:Env}{loc:Loc}{cells:Cells}{own:Own}{s:Shared}{Ψ:V→Cells→Prop}
noncomputable abbrev JJ (X:Cx) (A:Around) (attr:Str) (v:V) (Ψ:MF→Loc→Cells→Prop) (ov:V) (l:Loc) (c:Cells):Prop:=AX X A ov attr v (fun c3=>Ψ .next l c3) c
noncomputable abbrev JK (X:Cx) (A:Around) (env:Env) (o:Expr) (attr:Str) (Ψ:MF→Loc→Cells→Prop) (v:V) (l:Loc) (c:Cells):Prop:=mE X A env (eval o env) (JJ X A attr v Ψ) l c
theorem bk{o e:Expr}{attr:Str}{p' p:Pos}{Ψ:MF→Loc→Cells→Prop}(h:mE X A env (eval e env) (JK X A env o attr Ψ) loc cells)(hs:autoParam (swapsWith e (some (.Attribute o attr p')) p.line env=pure false) aR) :
  mS X A env (exec (.Assign [.Attribute o attr p'] e p) env) Ψ loc cells:=fun own s I=>by
 rw [plainObj_exec_Assign_Attribute _ _ _ _ _ hs]
 refine wpAny_bind (wpAny_standAt (wpAny_bind (h.use I fun aL l1 c1 b v s1 I1 r1 x1 h1=>wpAny_bind ?_)))
 refine PySem.W.kas_attr (h1.use I1 fun aI l2 c2 ov v2 s2 I2 r2 x2 h2=>?_)
 exact (h2 v2 v).pC I2 ⟨r2,r1.ext I1 x2⟩ fun cZ c3 Z Z s3 I3 Z x3 h3=>wpAny_pure ⟨cZ,l2,c3,.next,I3,.next,x1.trans (x2.trans x3),h3⟩
noncomputable def sU (X:Cx) (A:Around) (a i mv:V) (Ψ:Cells→Prop) (cells:Cells):Prop:=∀ v iv u,mb X A RU (fun own h=>RV own h v a∧RV own h iv i∧RV own h u mv) (setItem v iv u) (fun Z c=>Ψ c) cells
noncomputable abbrev FD (X:Cx) (A:Around) (v:V) (Ψ:Loc→Cells→Prop) (ov iv:V) (l:Loc) (c:Cells):Prop:=sU X A ov iv v (fun c4=>Ψ l c4) c
noncomputable abbrev H8 (X:Cx) (A:Around) (env:Env) (i:Expr) (v:V) (Ψ:Loc→Cells→Prop) (ov:V) (l:Loc) (c:Cells):Prop:=mE X A env (eval i env) (FD X A v Ψ ov) l c
noncomputable abbrev JL (X:Cx) (A:Around) (env:Env) (o i:Expr) (Ψ:MF→Loc→Cells→Prop) (v:V) (l:Loc) (c:Cells):Prop:=mE X A env (eval o env) (H8 X A env i v (Ψ .next)) l c
theorem pR{o i e:Expr}{p' p:Pos}{Ψ:MF→Loc→Cells→Prop}(h:mE X A env (eval e env) (JL X A env o i Ψ) loc cells)(hs:autoParam (swapsWith e (some (.Subscript o i p')) p.line env=pure false) aR) :
  mS X A env (exec (.Assign [.Subscript o i p'] e p) env) Ψ loc cells:=fun own s I=>by
 rw [exec_Assign_Subscript _ _ _ _ _ hs]
 refine wpAny_bind (wpAny_standAt (wpAny_bind (h.use I fun aL l1 c1 b v s1 I1 r1 x1 h1=>wpAny_bind ?_)))
 refine PySem.W.kas_sub (h1.use I1 fun aI l2 c2 ov v2 s2 I2 r2 x2 h2=>h2.use I2 fun cZ l3 c3 iv v3 s3 I3 r3 x3 h3=>?_)
 exact (h3 v2 v3 v).pC I3 ⟨r2.ext I2 x3,r3,(r1.ext I1 x2).ext I2 x3⟩ fun dw c4 Z Z s4 I4 Z x4 h4=>wpAny_pure ⟨dw,l3,c4,.next,I4,.next,x1.trans (x2.trans (x3.trans x4)),h4⟩
noncomputable def gA (es:List (Int×V)) (k:Int):Option V:=(es.find? fun kv=>kv.1=k).map (·.2)
noncomputable def dput (es:List (Int×V)) (k:Int) (v:V):List (Int×V):=if es.any (fun kv=>kv.1=k) then es.map (fun kv=>if kv.1=k then (kv.1,v) else kv) else es++[(k,v)]
theorem kR(I:Base X own cells s){a:Addr}{c:Cell}(hc:cells a=some c):(a == sysModules)=false:=by
 refine beq_eq_false_iff_ne.mpr fun z=>?_
 (refine ba X.D6 ?_;intro o e)
 have:=I.new a a (I.cell a c hc).1
 rw [z,e] at this;cases this
theorem mD{p:Pos}{Ψ:V→Loc→Cells→Prop}(h:∀ a,cells a=none→Ψ (.ref a) loc (upd cells a (some (.dict [])))):mE X A env (eval (.Dict [] [] p) env) Ψ loc cells:=fun own s I =>
 wpAny_Dict_empty (by
  (refine aP (I.base.jh (t:=s.toks) (ob:={ cls:=.type "dict",data:=.dict #[]}) (c':=.dict []) rfl (bq ([]) ((nM _ (#[]) 0 (Heap.get?_push_size _ rfl) (⟨rfl,rfl,rfl⟩) rfl (fun e he=>by simp at he) .nil .nil)) rfl .nil)) ?_;intro B x n)
  exact ⟨_,loc,_,.ref _,⟨B,I.ok,I.fr.ext x⟩,.ref _,x.gI,h _ n⟩)
theorem fM{h:Heap}:∀ {bp:List (Int×Value)} {es:List (Int×V)},bp.map (·.1)=es.map (·.1)→bP own h (bp.map (·.2)) (es.map (·.2))→∀ k,(valueAt bp k=none∧gA es k=none)∨∃ v x,valueAt bp k=some v∧gA es k=some x∧RV own h v x
 | [],[],_,_,k=>.inl ⟨rfl,rfl⟩
 | [],_::_,e,_,_=>by simp at e
 | _::_,[],e,_,_=>by simp at e
 | (k1,v1)::bp,(k2,x2)::es,e,r,k=>by
  (refine aK (List.cons.inj e) ?_;intro e1 e2)
  dsimp only at e1
  subst e1
  (refine xDDPPP (bP.cK r) ?_;intro v jB q1 q2 q3)
  obtain ⟨q4,q5⟩:=List.cons.inj q1
  subst q5
  dsimp only at q4
  subst q4
  unfold valueAt gA
  rw [List.find?_cons,List.find?_cons]
  by_cases hk:k1=k
  ·subst hk
   simp only [decide_true]
   exact .inr (iDDPPP v1 x2 rfl rfl q2)
  ·simp only [hk,decide_false]
   exact fM e2 q3 k
theorem C1{a:Addr}{es:List (Int×V)}{k:Int}{x:V}(hc:cells a=some (.dict es))(hx:gA es k=some x)(h:Ψ x cells):iw X A (.ref a) (.int k) Ψ cells:=fun o iv own s I ro ri=>by
 refine RV.e1 ri rfl fun Z=>?_;refine RV.e0 ro rfl ?_
 (refine dJ (I.cell a _ hc) ?_;intro oa bp hd e rs)
 rcases fM e rs k with ⟨-,q⟩ | ⟨v,y,q1,q2,q3⟩
 ·rw [hx] at q;cases q
 ·rw [hx] at q2;cases q2
  exact (iDDPPP ("dict") _ slot_dict_getitem.lookup hd.typeIs (wpAny_getItem_of (k:=k) (intKind_is _ _ _ _) hd.mapOf q1 (az I q3 h)))
theorem xe{a:Addr}{es:List (Int×V)}{k:Int}(hc:cells a=some (.dict es))(h:Ψ (.bool (gA es k).isSome) cells):da X A (compareOp .In) (.int k) (.ref a) Ψ cells:=fun v u own s I ⟨r1,r2⟩=>by
 refine RV.e1 r1 rfl fun Z=>?_;refine RV.e0 r2 rfl ?_
 (refine dJ (I.cell a _ hc) ?_;intro oa bp hd e rs)
 refine wpAny_in_of (k:=k) (intKind_is _ _ _ _) (kR I hc) hd.mapOf ?_
 have:(valueAt bp k).isSome=(gA es k).isSome:=by
  rcases fM e rs k with ⟨q1,q2⟩ | ⟨v,y,q1,q2,q3⟩ <;> rw [q1,q2] <;> rfl
 rw [this]
 exact az I (.bool _) h
theorem vV{a:Addr}{es:List (Int×V)}{k:Int}{mv:V}{Ψ:Cells→Prop}(hc:cells a=some (.dict es))(hz:es.length≤1000000)(h:Ψ (upd cells a (some (.dict (dput es k mv))))):sU X A (.ref a) (.int k) mv Ψ cells:=fun v iv u own s I ⟨r,ri,ru⟩=>by
 refine RV.e0 r rfl ?_;refine RV.e1 ri rfl fun Z=>?_
 (refine dJ (I.cell a _ hc) ?_;intro oa bp hd e rs)
 have hl:bp.length=es.length:=by have:=congrArg List.length e;simpa using this
 refine wpAny_setItem_pairs (k:=k) (intKind_is _ _ _ _) hd (fun h' pJ uf=>?_) (by rw [hl];unfold sizeLine;lia)
 have kp:∀ b o,b≠a→s.heap.get? b=some o→h'.get? b=some o:=fun b o hb e=>(uf.2 b hb).trans e
 have rv:∀ v x,RV own s.heap v x→RV own h' v x:=fun v x r=>iP I hc kp r
 have ha:∃ o,h'.get? a=some o:=let ⟨o,_,_,e,_⟩:=pJ;(bA o e)
 have key:(stored bp k u).map (·.1)=(dput es k mv).map (·.1)∧bP own h' ((stored bp k u).map (·.2)) ((dput es k mv).map (·.2)):=by
  have any_eq:∀ {bp:List (Int×Value)} {es:List (Int×V)},bp.map (·.1)=es.map (·.1)→bp.any (fun kv=>decide (kv.1=k))=es.any (fun kv=>decide (kv.1=k)):=by
   intro bp es e
   have h1:bp.any (fun kv=>decide (kv.1=k))=(bp.map (·.1)).any (fun x=>decide (x=k)):=by rw [List.any_map];rfl
   have h2:es.any (fun kv=>decide (kv.1=k))=(es.map (·.1)).any (fun x=>decide (x=k)):=by rw [List.any_map];rfl
   rw [h1,h2,e]
  have map_eq:∀ {bp:List (Int×Value)} {es:List (Int×V)},bp.map (·.1)=es.map (·.1)→bP own s.heap (bp.map (·.2)) (es.map (·.2))→(bp.map (fun kv=>if kv.1=k then (kv.1,u) else kv)).map (·.1)=(es.map (fun kv=>if kv.1=k then (kv.1,mv) else kv)).map (·.1) ∧
    bP own h' ((bp.map (fun kv=>if kv.1=k then (kv.1,u) else kv)).map (·.2)) ((es.map (fun kv=>if kv.1=k then (kv.1,mv) else kv)).map (·.2)):=by
   intro bp
   induction bp with
   | nil =>
    intro es e r
    cases es with
    | nil=>exact ⟨rfl,.nil⟩
    | cons _ _=>simp at e
   | cons p bp ih =>
    intro es e r
    cases es with
    | nil=>simp at e
    | cons q es =>
     obtain ⟨k1,v1⟩:=p
     obtain ⟨k2,x2⟩:=q
     (refine aK (List.cons.inj e) ?_;intro e1 e2)
     dsimp only at e1
     subst e1
     (refine xDDPPP (bP.cK r) ?_;intro v jB q1 q2 q3)
     (refine aK (List.cons.inj q1) ?_;intro q4 q5)
     subst q5
     dsimp only at q4
     subst q4
     (refine aK (ih e2 q3) ?_;intro i1 i2)
     simp only [List.map_cons]
     by_cases hk:k1=k
     ·simp only [hk,if_true]
      exact ⟨congrArg _ i1,.cons (rv _ _ ru) i2⟩
     ·simp only [hk,if_false]
      exact ⟨congrArg _ i1,.cons (rv _ _ q2) i2⟩
  unfold stored dput
  rw [any_eq e]
  by_cases rF:es.any (fun kv=>decide (kv.1=k))=true
  ·rw [if_pos rF,if_pos rF];exact map_eq e rs
  ·rw [if_neg rF,if_neg rF]
   refine ⟨by simp [e],?_⟩
   rw [List.map_append,List.map_append]
   exact (rs.mono rv).append (.cons (rv _ _ ru) .nil)
 (refine aK (I.kA (t:=s.toks+1) hc kp ha (c':=.dict (dput es k mv)) (bq _ pJ key.1 key.2)) ?_;intro B x)
 exact ⟨own,_,(),B,trivial,x,h⟩
end
section
variable {X:Cx}{A:Around}{env:Env}{loc:Loc}{cells:Cells}{own:Own}{s:Shared}{Ψ:V→Cells→Prop}
theorem C3{a:Addr}{es:List (Int×V)}{name:Str}{id:String}{Θ:V→List V→Cells→Prop}(hc:cells a=some (.dict es))(slot:Slot "dict" name id)(yR:typeOf (.builtin id)=pure (.type "method_descriptor"))(h:Θ (.bi id) [.ref a] cells):jC X A (.ref a) name Θ cells :=
 eZ (T:="dict") PySem.F.plainAttrs_dict slot yR (fun own s v I r=>by
  refine RV.e0 r rfl ?_
  (refine dJ (I.cell a _ hc) ?_;intro oa bp hd e rs)
  refine ⟨hd.typeIs,fun b q=>?_⟩
  cases q
  (refine dS hd ?_;try clear hd;intro o es ep e x Z)
  exact (iDPP o e x.2.1)) h
theorem C4{a:Addr}{es:List (Int×V)}{k:Int}(hc:cells a=some (.dict es))(h:Ψ ((gA es k).getD .none) cells):aE X A (.bi "dict.get") [.ref a,.int k] Ψ cells:=fun fv vs own s I ⟨rf,r⟩=>by
 refine RV.e0 rf rfl ?_
 (refine xDDPPP r.two ?_;intro v u aV;subst aV;intro r1 r2)
 refine RV.e0 r1 rfl ?_;refine RV.e1 r2 rfl fun Z=>?_
 (refine dJ (I.cell a _ hc) ?_;intro oa bp hd e rs)
 refine call_meetsIn PySem.F.slot_dict_get hd.typeIs PySem.F.entry_dict_get (PySem.F.args_dict_get_2 _ _) (meets_dict_get (intKind X.prog X.w) a (intKind_is _ _ k _) (kR I hc)) (iDPP _ hd.mapOf ?_)
 rcases fM e rs k with ⟨q1,q2⟩ | ⟨v,y,q1,q2,q3⟩
 ·rw [q1];rw [q2] at h;exact az I .vI h
 ·rw [q1];rw [q2] at h;exact az I q3 h
theorem C5(h:∀ a,cells a=none→Ψ (.ref a) (upd cells a (some (.set (fun Z=>false) 0)))):aE X A (.ty "set") [] Ψ cells:=fun fv vs own s I gp=>aK gp fun rf r=>by
 refine RV.e0 rf rfl ?_
 rw [r.qk]
 refine call_set_0 fun led=>?_
 (refine aP (I.jh (t:=s.toks) (ob:={ cls:=.type "set",dict:=none,data:=.set #[] 0 (.fresh 0 0 led)}) (c':=.set (fun Z=>false) 0) rfl (jx _ (#[]) 0 (.fresh 0 0 led) (Heap.get?_push_size _ rfl) (⟨rfl,rfl,rfl⟩) rfl (by intro e he;simp at he) (by intro k;simp) (by decide) (by rfl) rfl)) ?_;intro B x n)
 exact ⟨_,_,.ref _,B,.ref _,x,h _ n⟩
theorem sV{a:Addr}{S:Int→Bool}{n:Nat}{k:Int}(hc:cells a=some (.set S n))(h:Ψ (.bool (S k)) cells):da X A (compareOp .In) (.int k) (.ref a) Ψ cells:=fun v u own s I ⟨r1,r2⟩=>by
 refine RV.e1 r1 rfl fun Z=>?_;refine RV.e0 r2 rfl ?_
 (refine aK (I.cell a _ hc) ?_;intro oa hS)
 exact wpAny_inSet_of (k:=k) (intKind_is _ _ _ _) rfl hS (az I (.bool _) h)
theorem xf{a:Addr}{S:Int→Bool}{n:Nat}{Θ:V→List V→Cells→Prop}(hc:cells a=some (.set S n))(h:Θ (.bi "set.add") [.ref a] cells):jC X A (.ref a) "add" Θ cells:=fun v pl own s I r=>by
 refine RV.e0 r rfl ?_
 (refine aK (I.cell a _ hc) ?_;intro oa hS)
 exact getMethod_set_add hS ⟨own,cells,(.bi "set.add",[.ref a]),I,⟨.bi _,.cons (.ref a) .nil⟩,.refl,h⟩
theorem xg{a:Addr}{S:Int→Bool}{n:Nat}{k:Int}(hc:cells a=some (.set S n))(hz:n≤4000)(h:Ψ .none (upd cells a (some (.set (fun k'=>S k'||decide (k'=k)) (if S k then n else n+1))))):aE X A (.bi "set.add") [.ref a,.int k] Ψ cells:=fun fv vs own s I ⟨rf,r⟩=>by
 refine RV.e0 rf rfl ?_
 (refine xDDPPP r.two ?_;intro v u cw;subst cw;intro r1 r2)
 refine RV.e0 r1 rfl ?_;refine RV.e1 r2 rfl fun Z=>?_
 (refine aK (I.cell a _ hc) ?_;intro oa hS)
 refine call_set_add (k:=k) (intKind_is _ _ _ _) rfl hS (by unfold scanBound;lia) fun h' uf H9=>?_
 have kp:∀ b o,b≠a→s.heap.get? b=some o→h'.get? b=some o:=fun b o hb e=>(uf.2 b hb).trans e
 (refine aK (I.kA (t:=s.toks+1) hc kp (let ⟨o,_,_,_,e,_⟩:=H9;(bA o e)) (c':=.set _ _) H9) ?_;intro B x)
 exact ⟨own,_,.none,B,.vI,x,h⟩
end
section
variable {X:Cx}{A:Around}{env:Env}{loc:Loc}{cells:Cells}{own:Own}{s:Shared}{Ψ:V→Cells→Prop}
noncomputable abbrev JM (X:Cx) (A:Around) (op:Operator) (attr:Str) (ov old:V) (Ψ:MF→Loc→Cells→Prop) (v:V) (l:Loc) (c:Cells):Prop:=da X A (inplaceOp op) old v (fun new c4=>AX X A ov attr new (fun c5=>Ψ .next l c5) c4) c
noncomputable abbrev JN (X:Cx) (A:Around) (env:Env) (value:Expr) (op:Operator) (attr:Str) (Ψ:MF→Loc→Cells→Prop) (ov:V) (l:Loc) (c:Cells):Prop:=vT X A ov attr (fun old c2=>mE X A env (eval value env) (JM X A op attr ov old Ψ) l c2) c
theorem hG{o value:Expr}{attr:Str}{tp p:Pos}{op:Operator}{Ψ:MF→Loc→Cells→Prop}(h:mE X A env (eval o env) (JN X A env value op attr Ψ) loc cells) :
  mS X A env (exec (.AugAssign (.Attribute o attr tp) op value p) env) Ψ loc cells:=fun own s I =>
 wpAny_AugAssign_AttributeAny (h.use I fun aL l1 c1 ov v1 s1 I1 r1 x1 h1=>(h1 v1).pC I1 r1 fun aI c2 old v2 s2 I2 r2 x2 h2=>h2.use I2 fun cZ l3 c3 v v3 s3 I3 r3 x3 h3 =>
  (h3 v2 v3).pC I3 ⟨r2.ext I2 x3,r3⟩ fun dw c4 new v4 s4 I4 r4 x4 h4=>(h4 v1 v4).pC I4 ⟨((r1.ext I1 x2).ext I2 x3).ext I3 x4,r4⟩ fun uD c5 Z Z s5 I5 Z x5 h5 =>
   ⟨uD,l3,c5,.next,I5,.next,x1.trans (x2.trans (x3.trans (x4.trans x5))),h5⟩)
noncomputable def AZ (X:Cx) (A:Around) (env:Env) (t:Expr) (mv:V) (Ψ:Loc→Cells→Prop) (loc:Loc) (cells:Cells):Prop :=
 ∀ u own s,Inv X env own loc cells s→RV own s.heap u mv→wpAny (model X.prog X.w) A (assign t env u) (fun Z s'=>∃ own' eJ cells',Inv X env own' eJ cells' s'∧RV own' s'.heap u mv∧Ext (Fa env) own cells s.heap own' cells' s'.heap∧Ψ eJ cells') dh s
theorem y4{x:Str}{p:Pos}{mv:V}{Ψ:Loc→Cells→Prop}(hk:env.kindOf x=some .local∨env.kindOf x=some .cell)(h:Ψ ((x,mv)::loc) cells):AZ X A env (.Name x p) mv Ψ loc cells:=fun u own s I r=>by
 show wpAny _ _ (do standAt p;bindName env x u) _ _ _
 exact wpAny_bind (wpAny_standAt (wpAny_bindName (cJ I r hk fun s' I' x'=>(nK own _ cells I' (r.ext I x') x' h))))
theorem y5{o i:Expr}{p:Pos}{mv:V}{Ψ:Loc→Cells→Prop}(h:mE X A env (eval o env) (H8 X A env i mv Ψ) loc cells):AZ X A env (.Subscript o i p) mv Ψ loc cells:=fun u own s I r =>
 PySem.W.kas_sub (h.use I fun aI l2 c2 ov v2 s2 I2 r2 x2 h2=>h2.use I2 fun cZ l3 c3 iv v3 s3 I3 r3 x3 h3 =>
  (h3 v2 v3 u).pC I3 ⟨r2.ext I2 x3,r3,(r.ext I x2).ext I2 x3⟩ fun dw c4 Z Z s4 I4 Z x4 h4=>(nK dw l3 c4 I4 (((r.ext I x2).ext I2 x3).ext I3 x4) (x2.trans (x3.trans x4)) h4))
theorem xh{t1 t2 e:Expr}{p:Pos}{Ψ:MF→Loc→Cells→Prop}(h:mE X A env (eval e env) (fun v l c=>AZ X A env t1 v (fun l2 c2=>AZ X A env t2 v (fun l3 c3=>Ψ .next l3 c3) l2 c2) l c) loc cells)(he:autoParam ((assignEach [t1,t2] env).map (·.2)=[assign t1 env,assign t2 env]) aR)(hw:autoParam (swappedStores [t1,t2] e env=pure none) aR) :
  mS X A env (exec (.Assign [t1,t2] e p) env) Ψ loc cells:=fun own s I =>
 wpAny_Assign_two (h.use I fun aL l1 c1 b v s1 I1 r1 x1 h1=>wpAny_mono (h1 v aL s1 I1 r1) (fun Z s2 aV=>dy aV fun aI l2 c2 I2 r2 x2 h2=>wpAny_mono (h2 v aI s2 I2 r2) (fun Z s3 bj=>dy bj fun cZ l3 c3 I3 r3 x3 h3 =>
  ⟨cZ,l3,c3,.next,I3,.next,x1.trans (x2.trans x3),h3⟩) fun Z Z e=>e) fun Z Z e=>e) he hw
end
section
variable {X:Cx}{A:Around}{env:Env}{loc:Loc}{cells:Cells}
theorem jk{test:Expr}{body orelse:List Stmt}{p:Pos}{Ψ:MF→Loc→Cells→Prop}(J:Nat→Loc→Cells→Prop)(n:Nat)(h0:J n loc cells)(turn:∀ n l c,J n l c→mT X A env (isTrue test env (eval test env)) (fun b l c=>if b then mS X A env (execs body env) (qY (fun l c=>∃ m,m<n∧J m l c) (fun f l c=>match f with | .brk=>Ψ .next l c | f=>Ψ f l c)) l c else mS X A env (execs orelse env) Ψ l c) l c)
 :mS X A env (exec (.While test body orelse p) env) Ψ loc cells:=fun aJ s₀ I₀=>by
 let Res:Flow→Shared→Prop:=fun f s'=>gJ X env RF aJ cells s₀.heap Ψ f s'
 refine wpAny_While (codeAny_whileLoop (I:=fun k s=>∃ own l c,Inv X env own l c s∧Ext (Fa env) aJ cells s₀.heap own c s.heap∧J k l c) (fun k s aV=>dS aV fun own l c I x j=>?_) n (iDDDPPP aJ loc cells I₀ .refl h0))
 refine a9 ((turn k l c j).use I fun aL l1 c1 b v s1 I1 r1 x1 h1=>?_)
 have:v=b:=r1
 subst this
 cases v with
 | true =>
  rw [if_pos rfl] at h1 ⊢
  refine a9 (eg.use h1 I1 fun aI l2 c2 f v2 s2 I2 r2 x2 h2=>?_)
  cases r2 with
  | next=>(refine xDPP h2 ?_;try clear h2;intro m hm j);exact (qf m hm aI l2 c2 I2 (x.trans (x1.trans x2)) j)
  | cont=>(refine xDPP h2 ?_;try clear h2;intro m hm j);exact (qf m hm aI l2 c2 I2 (x.trans (x1.trans x2)) j)
  | brk=>exact ⟨aI,l2,c2,.next,I2,.next,x.trans (x1.trans x2),h2⟩
  | ret q=>exact ⟨aI,l2,c2,.ret _,I2,.ret q,x.trans (x1.trans x2),h2⟩
 | false =>
  rw [if_neg (by decide)] at h1 ⊢
  exact a9 (eg.use h1 I1 fun aI l2 c2 f v2 s2 I2 r2 x2 h2=>⟨aI,l2,c2,f,I2,r2,x.trans (x1.trans x2),h2⟩)
end
section
variable {X:Cx}{A:Around}{env:Env}{loc:Loc}{cells:Cells}{own:Own}{s:Shared}{Ψ:V→Cells→Prop}
theorem bP.split{h:Heap}:∀ {xs:List V} {vs:List Value} {ys:List V},bP own h vs (xs++ys)→∃ v1 v2,vs=v1++v2∧bP own h v1 xs∧bP own h v2 ys
 | [],vs,ys,r=>(iDDPPP ([]) vs rfl .nil r)
 | x::xs,vs,ys,r=>by
  (refine xDDPPP (bP.cK r) ?_;intro v jB aV;subst aV;intro a b)
  obtain ⟨v1,v2,rfl,c,d⟩:=bP.split b
  exact (iDDPPP (v::v1) v2 rfl (.cons a c) d)
theorem sW{k:Nat}{a:Addr}{qual:Str}{st:Stmt}{names:List Str}{fixed rest:List V}{Ψ:V→Cells→Prop}(F:Fn X a qual st)(hA:Rm X A (k+1))(hz:rest.length≤sizeLine)(hb:∀ doc pm an cdv ct,∀ vs us:List Value,vs.length=fixed.length→bindArgs (PySem.W.fnOf (fnName st) qual (bG st) (bI st) (au st) .none .none doc pm an cdv ct) ⟨vs++us,[]⟩=(do let t ← newTuple us;pure (names.zip (vs++[t]))))(h:∀ L cdv A',Rm (X.push L) A' k→mS (X.push L) A' (dF qual (au st) L a cdv) (execs (bI st) (dF qual (au st) L a cdv)) (Back Ψ) (names.zip (fixed++[.tuple rest])) cells)(dc:autoParam ((au st).kind=.function) aR)(wW:autoParam ((au st).isCoroutine=false) aR)(nX:autoParam ((au st).isGenerator=false) aR)(mq:autoParam (names.Nodup) aDK)(fz:autoParam ((au st).names.all (fun x=>x.2 != .free)=true) aDK)(jQ:autoParam (names.all (fun x=>(au st).names.lookup x == some .local||(au st).names.lookup x == some .cell)=true) aDK) :
  fK X A (.ref a) (fixed++rest) Ψ cells:=by
 (refine nv F ?_;try clear F;intro doc pm an cdv ct F)
 intro own s fv vs I rf rs R hR
 refine RV.e0 rf rfl ?_
 (refine xDDPPP rs.split ?_;intro v1 v2 bH;subst bH;intro r1 r2)
 (refine qg F.at_ ?_;intro oc od DQ ho)
 refine codeAny_call_function (fd:=PySem.W.fnOf (fnName st) qual (bG st) (bI st) (au st) .none .none doc pm an cdv ct) (by have:=hA.dep;exact Nat.lt_of_add_right_lt this) (I.K _ _ ho) rfl wW nX rfl (PySem.W.codeRec_of I.K F.code) ?_
 rw [hb doc pm an cdv ct v1 v2 r1.1]
 refine wpAny_bind (wpAny_newTuple ?_ (by rw [r2.1];exact hz))
 refine wpAny_pure ?_
 obtain ⟨aL,c1,b,B,rt,xt,e⟩:=qp (Ψ:=fun r c=>r=.tuple rest∧c=cells) (t:=s.toks) (vs:=v2.toArray) (xs:=rest) I (by simpa using r2) ⟨rfl,rfl⟩
 (refine aK e ?_;try clear e;intro e1 e2)
 subst e1 e2
 refine gM hA B (bP.append (r1.pK xt) (.cons rt .nil)) dc mq fz jQ (fun L=>h L cdv _ (hA.deeper _ (by show (au st).kind≠_;rw [dc];decide) rfl)) fun own' c' s' mv v p r b x=>hR own' c' mv v s' b r (xt.trans x) p
theorem vW{E:Value→Shared→Prop}{v:Value}{a:V}{xs:List V}{Q:List Value→Shared→Prop}(I:Base X own cells s)(r:RV own s.heap v a)(ha:a=.list xs∨a=.tuple xs)(hz:xs.length≤sizeLine)(h:∀ h' vs,(∀ b o,s.heap.get? b=some o→h'.get? b=some o)→bP own s.heap vs xs→Q vs {s with heap:=h'}):PySem.W.StarOf (model X.prog X.w) A E v Q s:=by
 have fin:∀ (l:Addr) d (T:String) (vs:Array Value) n sl,(T="list"∨T="tuple")→s.heap.get? l=some ⟨.type T,d,.seq vs n,sl⟩→bP own s.heap vs.toList xs→PySem.W.StarOf (model X.prog X.w) A E (.ref l) Q s:=by
  intro l d T vs n sl hT ho rs
  have z:vs.size=xs.length:=by simpa using rs.1
  have Ia:s.TypeIs (.ref l) T:=(iDPP _ ho rfl)
  have c:wpAny (model X.prog X.w) A (collect (.ref l)) Q E s:=wpAny_collect_seq l hT ho rfl rfl (fun h' hk=>h h' _ hk rs) (by lia)
  unfold PySem.W.StarOf notIterableAtAll
  rcases hT with rfl | rfl
  ·exact wpAny_bind (wpAny_specialOf Ia PySem.F.slot_list_iter.lookup (wpAny_pure ⟨rfl,c⟩))
  ·exact wpAny_bind (wpAny_specialOf Ia PySem.F.slot_tuple_iter.lookup (wpAny_pure ⟨rfl,c⟩))
 rcases ha with rfl | rfl
 ·(refine aG r.cM ?_;intro l d vs n sl cw;subst cw;intro ho hn rs)
  exact fin l d _ vs n sl (.inl rfl) ho rs
 ·(refine aG r.gc ?_;intro l d vs n sl cR;subst cR;intro ho hn rs)
  exact fin l d _ vs n sl (.inr rfl) ho rs
theorem C6{e:Expr}{rest:List Expr}{p pos:Pos}{Ψ:List V→Loc→Cells→Prop}(h:mE X A env (eval e env) (fun v l c=>∃ xs,(v=.list xs∨v=.tuple xs)∧xs.length≤sizeLine∧yy X A env (spliced (backTo pos (starEach rest env))) (fun as l' c'=>Ψ (xs++as) l' c') l c) loc cells)(he:autoParam (starEach (.Starred e p::rest) env=(true,eval e env)::starEach rest env) aR):yy X A env (spliced (backTo pos (starEach (.Starred e p::rest) env))) Ψ loc cells:=fun own s I=>by
 refine PySem.W.items_star (h.use I fun aL l1 c1 a v s1 I1 r1 x1 qo=>fj qo fun xs ha hz h1=>vW I1.base r1 ha hz fun h' vs kp rs=>?_) he
 have I2:Inv X env aL l1 c1 { s1 with heap:=h'}:=⟨I1.base.keeps kp,I1.ok,I1.fr.ext (cells:=c1) (cells':=c1) (.of_keeps kp)⟩
 exact eg.use h1 I2 fun cZ l3 c3 as us s3 I3 r3 x3 h3=>⟨cZ,l3,c3,xs++as,I3,bP.append ((rs.mono fun Z Z q=>q.keeps kp).ext I2 x3) r3,x1.trans (Ext.trans (.of_keeps kp) x3),h3⟩
theorem y6{a:Addr}{xs:List V}{Φ:Bool→Cells→Prop}(hc:cells a=some (.list xs))(hz:xs.length≤sizeLine)(h:Φ (!xs.isEmpty) cells):qS X A (.ref a) Φ cells:=fun v own s I r=>by
 refine RV.e0 r rfl ?_
 (refine eu (I.cell a _ hc) ?_;intro oa vs n ho rs)
 have hs:vs.size=xs.length:=by simpa using rs.1
 refine wpAny_truthy_list (items:=vs) (bt _ ho rfl n rfl) (by unfold sizeLine at hz;lia) ?_
 refine az I ?_ h
 show _=_
 cases xs with
 | nil=>simp [Array.eq_empty_of_size_eq_zero hs]
 | cons x r =>
  have:vs≠#[]:=by rintro rfl;simp at hs
  simp [this]
theorem uN{a:Addr}{xs:List V}(hc:cells a=some (.list xs))(hz:xs.length≤sizeLine)(h:Ψ (.int xs.length) cells):aE X A (.bi "len") [.ref a] Ψ cells:=fun fv vs own s I lH=>aK lH fun rf r=>by
 refine RV.e0 rf rfl ?_
 (refine xDPP r.one ?_;intro v gp;subst gp;intro r1)
 refine RV.e0 r1 rfl ?_
 (refine eu (I.cell a _ hc) ?_;intro oa vs n ho rs)
 have z:vs.size=xs.length:=by simpa using rs.1
 refine Calls.call_len_list (items:=vs) (bt _ ho rfl n rfl) (by unfold sizeLine at hz;lia) ?_
 rw [z]
 exact az I (.int _ _) h
theorem rG{a:Addr}{xs:List V}(hc:cells a=some (.list xs))(hz:xs.length≤sizeLine)(h:Ψ (.tuple xs) cells):aE X A (.ty "tuple") [.ref a] Ψ cells:=fun fv vs own s I pL=>aK pL fun rf r=>by
 refine RV.e0 rf rfl ?_
 (refine xDPP r.one ?_;intro v nA;subst nA;intro r1)
 refine RV.e0 r1 rfl ?_
 (refine eu (I.cell a _ hc) ?_;intro oa vs n ho rs)
 have z:vs.size=xs.length:=by simpa using rs.1
 refine call_tuple_list (items:=vs) (bt _ ho rfl n rfl) (fun h' kp=>?_) (by lia)
 have yQ:∀ b o,s.heap.get? b=some o→(h'.push { cls:=.type "tuple",data:=.seq vs}).get? b=some o:=fun b o e=>Heap.get?_push_of_some _ (kp b o e)
 refine mb_end (b:=.tuple xs) I (t:=s.toks) rfl yQ ?_ h
 refine .rh (Heap.get?_push_size _ rfl) ?_ (rs.mono fun Z Z q=>q.keeps yQ)
 refine (I.fresh ?_).1
 cases q:s.heap.get? h'.objs.size with
 | none=>rfl
 | some o=>exact absurd (Heap.lt_size (kp _ _ q)) (Nat.lt_irrefl _)
end
section
variable {X:Cx}{A:Around}{env:Env}{loc:Loc}{cells:Cells}{own:Own}{s:Shared}{Ψ:V→Cells→Prop}
theorem bP.last{h:Heap}{vs:List Value}{xs:List V}{x:V}(r:bP own h vs (xs++[x])):∃ us u,vs=us++[u]∧bP own h us xs∧RV own h u x:=by
 induction xs generalizing vs with
 | nil =>
  (refine xDDPPP (bP.cK r) ?_;intro v jB aV;subst aV;intro r1 r2)
  have:=bP.qk r2
  subst this
  exact (iDDPPP ([]) v rfl .nil r1)
 | cons y ys ih =>
  (refine xDDPPP (bP.cK r) ?_;intro v jB bj;subst bj;intro r1 r2)
  (refine xDDPPP (ih r2) ?_;intro us u e q1 q2)
  exact (iDDPPP (v::us) u (by rw [e];rfl) (.cons r1 q1) q2)
theorem BY{a:Addr}{xs:List V}{x:V}(hc:cells a=some (.list (xs++[x])))(hz:xs.length<1000)(h:Ψ x (upd cells a (some (.list xs)))):aE X A (.bi "list.pop") [.ref a] Ψ cells:=fun fv vs own s I cR=>aK cR fun rf r=>by
 refine RV.e0 rf rfl ?_
 (refine xDPP r.one ?_;intro v0 bH;subst bH;intro r1)
 refine RV.e0 r1 rfl ?_
 (refine eu (I.cell a _ hc) ?_;intro oa vs n e rs)
 (refine xDDPPP rs.last ?_;intro us u e2 q1 q2)
 have hv:vs=us.toArray.push u:=by
  apply Array.toList_inj.mp
  rw [e2];simp
 subst hv
 refine Copied.pop_at (y:=u) e (by exact last_push us.toArray u) (fun h7 CE e7=>?_) (by have:=q1.1;simp [sizeLine] at *;lia)
 have kp:∀ b o,b≠a→s.heap.get? b=some o→h7.get? b=some o:=fun b o hb e=>(CE.2 b hb).trans e
 have rv:∀ v x,RV own s.heap v x→RV own h7 v x:=fun v x r=>iP I hc kp r
 (refine aK (I.kA (t:=s.toks) hc kp (bA _ e7) (c':=.list xs) (eB _ (n+1) e7 (by simpa using q1.mono rv))) ?_;intro B xt)
 exact ⟨own,_,_,B,rv _ _ q2,xt,h⟩
theorem A0{a:Addr}{xs:List V}(hc:cells a=some (.list xs))(hz:xs.length<1000)(h:Ψ .none (upd cells a (some (.list [])))):aE X A (.bi "list.clear") [.ref a] Ψ cells:=fun fv vs own s I fu=>aK fu fun rf r=>by
 refine RV.e0 rf rfl ?_
 (refine xDPP r.one ?_;intro v0 cw;subst cw;intro r1)
 refine RV.e0 r1 rfl ?_
 (refine eu (I.cell a _ hc) ?_;intro oa vs n e rs)
 refine call_meets PySem.F.slot_list_clear (iDPP _ e rfl) PySem.F.entry_list_clear (PySem.F.args_list_clear_1 _) (PySem.AutoSeq1.list_clear_list_0 a vs n (by have:=rs.1;simp [sizeLine] at *;lia)) ⟨e,?_⟩
 have sb:Heap.SameBut a s.heap (s.heap.update a (Obj.mapSeq fun Z=>#[])):=Heap.SameBut.update ..
 have kp:∀ b o,b≠a→s.heap.get? b=some o→(s.heap.update a (Obj.mapSeq fun Z=>#[])).get? b=some o:=fun b o hb e=>(sb.2 b hb).trans e
 have e7:=get?_update_seq (show s.heap.get? a=some (seqObj "list" vs n) from e) (fun Z=>#[])
 (refine aK (I.kA (t:=s.toks) hc kp (bA _ e7) (c':=.list []) (eB _ _ e7 (by exact bP.nil))) ?_;intro B xt)
 exact ⟨own,_,_,B,.vI,xt,h⟩
end
section
variable {X:Cx}{A:Around}{env:Env}{loc:Loc}{cells:Cells}{own:Own}{s:Shared}
theorem jH{x y:Str}{p q tp pos:Pos}{k:Nat}{e:Expr}{Ψ:MF→Loc→Cells→Prop}(hh:A.handled=none)(hx:env.kindOf x=some .local∨env.kindOf x=some .cell)(hy:env.kindOf y=some .local∨env.kindOf y=some .cell)(h:mE X A env (eval e env) (fun v l c=>∃ a b,v=.tuple [a,b]∧Ψ .next ((y,b)::(x,a)::l) c) loc cells)(hs:autoParam (swapsWithSole [.Tuple [.Name x p,.Name y q] k tp] e pos.line env=pure false) aR)(hw:autoParam (swappedStores [.Tuple [.Name x p,.Name y q] k tp] e env=pure none) aR) :
  mS X A env (exec (.Assign [.Tuple [.Name x p,.Name y q] k tp] e pos) env) Ψ loc cells:=fun own s I =>
 Assign_Tuple (h.use I fun aL l1 c1 mv u1 s1 I1 r1 x1 aV=>dx aV fun a b e1 h1=>by
  subst e1
  exact kz hh hx hy aL l1 c1 s1 u1 _ I1 r1 fun s' I' x'=>⟨aL,_,c1,.next,I',.next,x1.trans x',h1⟩) hs hw
end
section
variable {X:Cx}{A:Around}{env:Env}{loc:Loc}{cells:Cells}{own:Own}{s:Shared}
noncomputable def sX (es:List (Int×V)) (k:Int):List (Int×V):=es.filter fun kv=>decide (kv.1≠k)
theorem y7{h h':Heap}{k:Int}{bp:List (Int×Value)}{es:List (Int×V)}(e:bp.map (·.1)=es.map (·.1))(r:bP own h (bp.map (·.2)) (es.map (·.2)))(rv:∀ v x,RV own h v x→RV own h' v x) :
  (without bp k).map (·.1)=(sX es k).map (·.1)∧bP own h' ((without bp k).map (·.2)) ((sX es k).map (·.2)):=by
 unfold without sX
 induction bp generalizing es with
 | nil =>
  cases es with
  | nil=>exact ⟨rfl,.nil⟩
  | cons _ _=>simp at e
 | cons p ps ih =>
  cases es with
  | nil=>simp at e
  | cons q qs =>
   simp only [List.map_cons,List.cons.injEq] at e
   (refine xDDPPP (bP.cK r) ?_;intro v jB e1 r1 r2)
   simp only [List.map_cons,List.cons.injEq] at e1
   (refine aK e1 ?_;try clear e1;intro ea eb)
   (refine aK (ih e.2 (eb▸r2)) ?_;intro i1 i2)
   rw [List.filter_cons,List.filter_cons,← e.1]
   by_cases z:p.1=k
   ·simp only [z,ne_eq,not_true_eq_false,decide_false,Bool.false_eq_true,if_false]
    exact ⟨by simpa using i1,by simpa using i2⟩
   ·simp only [z,ne_eq,not_false_eq_true,decide_true,if_true,List.map_cons]
    exact ⟨by rw [e.1];exact congrArg _ (by simpa using i1),.cons (rv _ _ (ea▸r1)) (by simpa using i2)⟩
noncomputable def sY (X:Cx) (A:Around) (a i:V) (Ψ:Cells→Prop) (cells:Cells):Prop:=∀ v iv,mb X A RU (fun own h=>RV own h v a∧RV own h iv i) (delItem v iv) (fun Z c=>Ψ c) cells
theorem y8{a:Addr}{es:List (Int×V)}{k:Int}{x:V}{Ψ:Cells→Prop}(hc:cells a=some (.dict es))(hz:es.length≤4000)(hx:gA es k=some x)(h:Ψ (upd cells a (some (.dict (sX es k))))):sY X A (.ref a) (.int k) Ψ cells:=fun v iv own s I ⟨r,ri⟩=>by
 refine RV.e0 r rfl ?_;refine RV.e1 ri rfl fun Z=>?_
 (refine dJ (I.cell a _ hc) ?_;intro oa bp hd e rs)
 have hl:bp.length=es.length:=by have:=congrArg List.length e;simpa using this
 have hv:(valueAt bp k).isSome=true:=by
  rcases fM e rs k with ⟨q1,q2⟩ | ⟨v,y,q1,q2,q3⟩
  ·rw [hx] at q2;cases q2
  ·rw [q1];rfl
 refine wpAny_delItem_slot hd.typeIs (by decide) PySem.F.slot_dict_delitem (call_meetsIn PySem.F.slot_dict_delitem hd.typeIs PySem.F.entry_dict_delitem (PySem.F.args_dict_delitem_2 _ _) (meets_dict_delitem_pairs (intKind X.prog X.w) a (k:=k) (intKind_is _ _ _ _)) (iG bp hd (by rw [hl];unfold sizeLine;lia) hv (fun h' pJ uf=>?_)))
 have kp:∀ b o,b≠a→s.heap.get? b=some o→h'.get? b=some o:=fun b o hb e=>(uf.2 b hb).trans e
 have rv:∀ v x,RV own s.heap v x→RV own h' v x:=fun v x r=>iP I hc kp r
 have ha:∃ o,h'.get? a=some o:=let ⟨o,_,_,e,_⟩:=pJ;⟨o,e⟩
 have key:=y7 (k:=k) e rs rv
 (refine aK (I.kA (t:=s.toks+1) hc kp ha (c':=.dict (sX es k)) (bq _ pJ key.1 key.2)) ?_;intro B x)
 exact ⟨own,_,(),B,trivial,x,h⟩
theorem uO{o i:Expr}{p p':Pos}{Ψ:MF→Loc→Cells→Prop}(h:mE X A env (eval o env) (fun ov l2 c2=>mE X A env (eval i env) (fun iv l3 c3=>sY X A ov iv (fun c4=>Ψ .next l3 c4) c3) l2 c2) loc cells) :
  mS X A env (exec (.Delete [.Subscript o i p] p') env) Ψ loc cells:=fun own s I =>
 wpAny_Delete (wpAny_deleteEach_cons (wpAny_delete_Subscript (h.use I fun aI l2 c2 ov v2 s2 I2 r2 x2 h2=>h2.use I2 fun cZ l3 c3 iv v3 s3 I3 r3 x3 h3 =>
  (h3 v2 v3).pC I3 ⟨r2.ext I2 x3,r3⟩ fun dw c4 Z Z s4 I4 Z x4 h4=>wpAny_deleteEach_nil ⟨dw,l3,c4,.next,I4,.next,x2.trans (x3.trans x4),h4⟩)))
end
noncomputable def y9 (K:PySem.W.Frag) (a:Addr) (qual:Str) (s:Stmt) (dv kv:Value):Prop:=∃ doc pm an cdv ct,FnAt K a (fnName s) qual (bG s) (bI s) (au s) dv kv doc pm an cdv ct
noncomputable abbrev Ib (X:Cx) (a:Addr) (qual:Str) (s:Stmt) (dv kv:Value):Prop:=y9 X.K a qual s dv kv
section
variable {X:Cx}{A:Around}{env:Env}{loc:Loc}{cells:Cells}{own:Own}{s:Shared}
end
section
variable {X:Cx}{A:Around}{env:Env}{loc:Loc}{cells c c' GQ:Cells}{own own':Own}{s:Shared}{h h':Heap}{Ψ:V→Cells→Prop}
noncomputable def Gh (X:Cx) (c c':Cells):Prop:=∀ own s,Base X own c s→∃ own',Base X own' c' s∧Ext qR own c s.heap own' c' s.heap
theorem Gh.refl:Gh X c c:=fun own s B=>(iDPP own B .refl)
theorem Gh.trans(a:Gh X c c')(b:Gh X c' GQ):Gh X c GQ:=fun own s B=>by
 (refine xDPP (a own s B) ?_;intro o1 B1 x1)
 (refine xDPP (b o1 s B1) ?_;intro o2 B2 x2)
 exact (iDPP o2 B2 (x1.trans x2))
theorem aE.gh{f:V}{args:List V}(g:Gh X cells c')(H:aE X A f args Ψ c'):aE X A f args Ψ cells:=fun fv vs own s I w6=>aK w6 fun rf rs=>by
 (refine xDPP (g own s I) ?_;intro own' B x)
 exact (H fv vs).use B ⟨rf.pK x,rs.pK x⟩ fun aI c2 b v s2 I2 r2 x2 h2=>⟨aI,c2,b,I2,r2,x.trans x2,h2⟩
theorem aE.EB{f:V}{args:List V}(H:aE X A f args (fun v c=>∃ c',Gh X c c'∧Ψ v c') cells):aE X A f args Ψ cells:=fun fv vs own s I hp =>
 (H fv vs).use I hp fun aI c2 b v s2 I2 r2 x2 CP=>xDPP CP fun c3 g h2=>by
  (refine xDPP (g aI s2 I2) ?_;intro cZ B x)
  exact ⟨cZ,c3,b,B,r2.pK x,x2.trans x,h2⟩
theorem Gh.stop{a:Addr}{es:List (Int×V)}(hc:c a=some (.dict es)):Gh X c (upd c a (some (.c9 es))):=fun own s B =>
 (iDPP own (B.fA fun x e=>by cases e;exact ⟨(B.cell a _ hc).1,(B.cell a _ hc).2⟩) (gY hc rfl))
theorem Gh.uP{a b C:Addr}{i:Nat}{xs:List V}{fs:List (Option V)}(hc:c a=some (.list xs))(hb:c b=some (.slots C fs))(hi:fs[i]?=some (some (.ref a))) :
  Gh X c (upd (upd c a none) b (some (.slots C (fs.set i (some (.list xs)))))):=fun own s B=>by
 have vX:b≠a:=by rintro rfl;rw [hc] at hb;cases hb
 (refine gT (B.freeze hc) ?_;intro own' B' r x rv ho)
 have Ic:(upd c a none) b=some (.slots C fs):=by rw [ae _ vX];exact hb
 obtain ⟨ob,d,sl,e,od,ne,hn,hz,rr⟩:=B'.cell b _ Ic
 refine (iDPP own' (B'.fA fun y q=>?_) (x.trans (gY Ic rfl)))
 cases q
 refine (uk ob d sl e od ne hn (by simp [hz]) (fun j v y hv hy=>?_))
 rw [List.getElem?_set] at hy
 by_cases hj:i=j
 ·subst hj
  rw [if_pos rfl] at hy
  split at hy
  ·cases hy
   rcases rr i v _ hv hi with ⟨-,q⟩ | ⟨u,y,q1,q2,q3⟩
   ·cases q
   ·cases q2;cases q3;exact .inr (iDDPPP _ _ q1 rfl r)
  ·cases hy
 ·rw [if_neg hj] at hy
  exact rr j v y hv hy
theorem g_fdict{a:Addr}{es:List (Int×V)}{k:Int}{x:V}(hc:cells a=some (.c9 es))(hx:gA es k=some x)(h:Ψ x cells):iw X A (.ref a) (.int k) Ψ cells:=fun o iv own s I ro ri=>by
 refine RV.e1 ri rfl fun Z=>?_;refine RV.e0 ro rfl ?_
 (refine dJ (I.cell a _ hc) ?_;intro oa bp hd e rs)
 rcases fM e rs k with ⟨-,q⟩ | ⟨v,y,q1,q2,q3⟩
 ·rw [hx] at q;cases q
 ·rw [hx] at q2;cases q2
  exact (iDDPPP ("dict") _ slot_dict_getitem.lookup hd.typeIs (wpAny_getItem_of (k:=k) (intKind_is _ _ _ _) hd.mapOf q1 (az I q3 h)))
theorem vY{a:Addr}{es:List (Int×V)}{name:Str}{id:String}{Θ:V→List V→Cells→Prop}(hc:cells a=some (.c9 es))(slot:Slot "dict" name id)(yR:typeOf (.builtin id)=pure (.type "method_descriptor"))(h:Θ (.bi id) [.ref a] cells):jC X A (.ref a) name Θ cells :=
 eZ (T:="dict") PySem.F.plainAttrs_dict slot yR (fun own s v I r=>by
  refine RV.e0 r rfl ?_
  (refine dJ (I.cell a _ hc) ?_;intro oa bp hd e rs)
  refine ⟨hd.typeIs,fun b q=>?_⟩
  cases q
  (refine dS hd ?_;try clear hd;intro o es ep e x Z)
  exact (iDPP o e x.2.1)) h
theorem C7{a:Addr}{es:List (Int×V)}{k:Int}(hc:cells a=some (.c9 es))(h:Ψ ((gA es k).getD .none) cells):aE X A (.bi "dict.get") [.ref a,.int k] Ψ cells:=fun fv vs own s I ⟨rf,r⟩=>by
 refine RV.e0 rf rfl ?_
 (refine xDDPPP r.two ?_;intro v u cR;subst cR;intro r1 r2)
 refine RV.e0 r1 rfl ?_;refine RV.e1 r2 rfl fun Z=>?_
 (refine dJ (I.cell a _ hc) ?_;intro oa bp hd e rs)
 refine call_meetsIn PySem.F.slot_dict_get hd.typeIs PySem.F.entry_dict_get (PySem.F.args_dict_get_2 _ _) (meets_dict_get (intKind X.prog X.w) a (intKind_is _ _ k _) (kR I hc)) (iDPP _ hd.mapOf ?_)
 rcases fM e rs k with ⟨q1,q2⟩ | ⟨v,y,q1,q2,q3⟩
 ·rw [q1];rw [q2] at h;exact az I .vI h
 ·rw [q1];rw [q2] at h;exact az I q3 h
theorem za{K:Type}{h:Heap}{bp:List (Int×Value)}{es:List (Int×V)}(e:bp.map (·.1)=es.map (·.1))(r:bP own h (bp.map (·.2)) (es.map (·.2))){i:Nat}{k:Int}{v:Value}(hx:bp[i]?=some (k,v)):∃ x,es[i]?=some (k,x)∧RV own h v x:=by
 have hl:bp.length=es.length:=by have:=congrArg List.length e;simpa using this
 have hi:i<es.length:=by rw [← hl];exact (List.getElem?_eq_some_iff.mp hx).1
 have h1:(es.map (·.1))[i]?=some k:=by rw [← e,List.getElem?_map,hx];rfl
 rw [List.getElem?_map,List.getElem?_eq_getElem hi] at h1
 have h2:=Option.some.inj h1
 refine (iDPP (es[i].2) ?_ (r.2 i v _ (by rw [List.getElem?_map,hx];rfl) (by rw [List.getElem?_map,List.getElem?_eq_getElem hi];rfl)))
 rw [List.getElem?_eq_getElem hi,← h2]
theorem A1{x:Str}{p:Pos}{a:Addr}{es:List (Int×V)}(hh:A.handled=none)(hc:cells a=some (.c9 es)):og X A (.Name x p) (.ref a) (es.map fun kv=>.int kv.1) cells:=by
 intro own s v I r
 refine RV.e0 r rfl ?_
 (refine dJ (I.cell a _ hc) ?_;intro oa bp hd e rs)
 (refine ba hd.dictAt ?_;intro ep vZ)
 have iD:a≠s.heap.objs.size:=Nat.ne_of_lt vZ.lt_size
 have hl:bp.length=es.length:=by have:=congrArg List.length e;simpa using this
 have len:(es.map fun kv=>V.int kv.1).length=bp.length:=by rw [hl];simp
 have keep:∀ b o,s.heap.get? b=some o→(s.heap.push { cls:=.type "dict_keyiterator",data:=.fields #[.ref a,.int 0 0,.int bp.length 0,.int ep 0]}).get? b=some o:=fun b o e=>Heap.get?_push_of_some _ e
 refine wpAny_pyIter_dict (kR I hc) vZ (cI (cU own s.heap.objs.size) _ s.toks rfl keep (I.cU (ao _) (I.fZ (ao _)) keep (Heap.get?_push_size _ rfl)) (cC (ao _)) ([s.heap.objs.size,a]) ([s.heap.objs.size]) _ _
  ({ d:=.len len.symm <| qV.ofWalks (Walks.dictKeys (knd:=intKind X.prog X.w) hh s.heap.objs.size a iD bp ep) (fun Z=>rfl),st:=⟨(bq _ (Heap.get?_push_size _ rfl) rfl rfl),vZ.push _⟩,w:=?_,ex:=?_,f:=?_,p:=?_}))
 ·intro b hb
  rw [List.mem_singleton.mp hb]
  exact ⟨ao _,by simp [cU],I.fZ (ao _)⟩
 ·rintro i h' ⟨⟨o1,e1,_⟩,⟨o2,_,e2,_⟩⟩ b hb
  rcases List.mem_cons.mp hb with rfl | hb
  ·exact (bA o1 e1)
  ·rw [List.mem_singleton.mp hb];exact (bA o2 e2)
 ·intro b hb hw
  rcases List.mem_cons.mp hb with rfl | hb
  ·exact absurd (List.mem_singleton.mpr rfl) hw
  ·rw [List.mem_singleton.mp hb]
   obtain ⟨o2,_,e2,_⟩:=vZ
   exact (iDPP _ (keep _ _ e2) (.inr ⟨by rw [cC (ao _) _ _ e2];exact oa,.inr (bA es hc)⟩))
 ·(intro i own' hp h' v x iC;refine dx iC ?_;clear iC;intro k xv q1 q2;intro e2 hr Z)
  (refine ba (Value.isInt_shape q2) ?_;intro t gX;subst gX)
  (refine xDPP (za (K:=Int) e rs q1) ?_;intro y q3 Z)
  rw [List.getElem?_map,q3] at e2
  cases e2
  exact .int _ _
theorem v7{o:Expr}{name:Str}{id T:String}{apos pos:Pos}{target:Expr}{items:List (Int×V)→List V}{pl:Sem Bool}{Φ:List V→Loc→Cells→Prop}(slot:Slot "dict" name id)(yR:typeOf (.builtin id)=pure (.type "method_descriptor"))(zb:∀ (A:Around) (s:Shared) (d:Addr) (bp:List (Int×Value)) (Q:Value→Shared→Prop),(d == sysModules)=false→s.heap.DictOf (intKind X.prog X.w) d bp→Q (.ref s.heap.objs.size) {s with heap:=s.heap.push { cls:=.type T,data:=.fields #[.ref d]}}→wpAny (model X.prog X.w) A (call (.builtin id) [.ref d]) Q dh s)(hit:∀ (own:Own) (c:Cells) (s:Shared) (vw a:Addr) (es:List (Int×V)),Base X own c s→c a=some (.c9 es)→s.heap.get? vw=some { cls:=.type T,data:=.fields #[.ref a]} →
   wpAny (model X.prog X.w) A (pyIter (.ref vw)) (fun it s2=>∃ own' h' t,s2={s with heap:=h',toks:=t}∧(∀ b o,s.heap.get? b=some o→h'.get? b=some o)∧Base X own' c s2 ∧
    (∀ b o,s.heap.get? b=some o→own' b=own b)∧Src X A target own' c s.heap h' it (items es)) dh s)(h:mE X A env (eval o env) (fun ov l c=>∃ a es,ov=.ref a∧c a=some (.c9 es)∧Φ (items es) l c) loc cells)(he:autoParam (eval (.Call (.Attribute o name apos) [] [] pos) env=(do let ov ← eval o env;standAt apos.atName;let (f,first) ← holding [ov] (getMethod ov name pl);callWith pos f first (backTo pos (starEach [] env)) [])) aR) :
  eC X A env target (.Call (.Attribute o name apos) [] [] pos) Φ loc cells:=fun own s I=>by
 refine MethodCall_ (pl:=pl) (h.use I fun aL l1 c1 ov v1 s1 I1 r1 x1 yN=>xDDPPP yN fun a es ea hc hΦ=>?_) he
 subst ea
 refine (vY (Θ:=fun f first c=>f=.bi id∧first=[.ref a]∧c=c1) hc slot yR ⟨rfl,rfl,rfl⟩ v1 pl).pC I1 r1 fun aI c2 q fx s2 I2 r2 x2 yO=>aP yO fun e1 e2 e3=>?_
 obtain ⟨f,first⟩:=q
 obtain ⟨fv,fs⟩:=fx
 (refine aK r2 ?_;try clear r2;intro ra rb)
 dsimp only at e1 e2 e3 ra rb
 subst e1 e2 e3
 refine RV.e0 ra rfl ?_
 (refine xDPP rb.one ?_;intro u e4 ru)
 subst e4
 refine RV.e0 ru rfl ?_
 refine jT (own:=aI) (f:=.bi id) trivial (.bi _) (spliced_none ⟨I2.base.K,?_⟩) rfl
 (refine dJ (I2.base.cell a _ hc) ?_;intro oa bp hd e rs)
 refine zb A s2 a bp _ (kR I2.base hc) hd ?_
 have kp:∀ b o,s2.heap.get? b=some o→(s2.heap.push { cls:=.type T,data:=.fields #[.ref a]}).get? b=some o:=fun b o e=>Heap.get?_push_of_some _ e
 have B3:Base X aI c2 { s2 with heap:=s2.heap.push { cls:=.type T,data:=.fields #[.ref a]}}:=I2.base.keeps kp
 refine wpAny_mono (hit aI c2 _ s2.heap.objs.size a es B3 hc (Heap.get?_push_size _ rfl)) (fun it s4 yP=>jA yP fun own' h' t e keep B ho fp wr St P S=>?_) fun Z Z q=>q
 subst e
 have x3:Ext (Fa env) aL c2 s1.heap aI c2 (s2.heap.push { cls:=.type T,data:=.fields #[.ref a]}):=x2.trans (.of_keeps kp)
 have no:∀ b,(s2.heap.push { cls:=.type T,data:=.fields #[.ref a]}).get? b=none→s.heap.get? b=none:=fun b hb=>by
  cases q:s.heap.get? b with
  | none=>rfl
  | some o=>(refine ba ((x1.trans x3).there b o q) ?_;intro o' e);rw [hb] at e;cases e
 exact (eW own' l1 c2 (items es) (⟨B,I2.ok,(I2.fr.ext (cells:=c2) (cells':=c2) (.of_keeps kp)).grow keep ho⟩) (x1.trans (x3.trans (.grow keep ho))) ((nJ fp wr St P (S.start no))) hΦ)
theorem zc{o:Expr}{apos pos:Pos}{x:Str}{px:Pos}{pl:Sem Bool}{Φ:List V→Loc→Cells→Prop}(hh:A.handled=none)(h:mE X A env (eval o env) (fun ov l c=>∃ a es,ov=.ref a∧c a=some (.c9 es)∧Φ (es.map (·.2)) l c) loc cells)(he:autoParam (eval (.Call (.Attribute o "values" apos) [] [] pos) env=(do let ov ← eval o env;standAt apos.atName;let (f,first) ← holding [ov] (getMethod ov "values" pl);callWith pos f first (backTo pos (starEach [] env)) [])) aR) :
  eC X A env (.Name x px) (.Call (.Attribute o "values" apos) [] [] pos) Φ loc cells:=by
 refine v7 (T:="dict_values") (items:=fun es=>es.map (·.2)) PySem.F.slot_dict_values PySem.F.type_dict_values (fun A s d bp Q hS hd hQ=>?_) (fun own c s vw a es I hc hv=>?_) h he
 ·exact call_meetsIn PySem.F.slot_dict_values hd.typeIs PySem.F.entry_dict_values (PySem.F.args_dict_values_1 _) (meets_dict_values (intKind X.prog X.w) d hS) ⟨(bA bp hd),hQ⟩
 ·(refine dJ (I.cell a _ hc) ?_;intro oa bp hd e rs)
  (refine ba hd.dictAt ?_;intro ep vZ)
  have iD:a≠s.heap.objs.size:=Nat.ne_of_lt vZ.lt_size
  have hl:bp.length=es.length:=by have:=congrArg List.length e;simpa using this
  have len:(es.map (·.2)).length=bp.length:=by rw [hl];simp
  have keep:∀ b o,s.heap.get? b=some o→(s.heap.push { cls:=.type "dict_valueiterator",data:=.fields #[.ref a,.int 0 0,.int bp.length 0,.int ep 0]}).get? b=some o:=fun b o e=>Heap.get?_push_of_some _ e
  refine wpAny_pyIter_values (knd:=intKind X.prog X.w) (bq _ hv rfl rfl) vZ (cI (cU own s.heap.objs.size) _ s.toks rfl keep (I.cU (ao _) (I.fZ (ao _)) keep (Heap.get?_push_size _ rfl)) (cC (ao _)) ([s.heap.objs.size,a]) ([s.heap.objs.size]) _ _
   ({ d:=.len len.symm <| qV.ofWalks (Walks.dictValues (knd:=intKind X.prog X.w) hh s.heap.objs.size a iD bp ep) (fun Z=>rfl),st:=⟨(bq _ (Heap.get?_push_size _ rfl) rfl rfl),vZ.push _⟩,w:=?_,ex:=?_,f:=?_,p:=?_}))
  ·intro b hb
   rw [List.mem_singleton.mp hb]
   exact ⟨ao _,by simp [cU],I.fZ (ao _)⟩
  ·rintro i h' ⟨⟨o1,e1,_⟩,⟨o2,_,e2,_⟩⟩ b hb
   rcases List.mem_cons.mp hb with rfl | hb
   ·exact (bA o1 e1)
   ·rw [List.mem_singleton.mp hb];exact (bA o2 e2)
  ·intro b hb hw
   rcases List.mem_cons.mp hb with rfl | hb
   ·exact absurd (List.mem_singleton.mpr rfl) hw
   ·rw [List.mem_singleton.mp hb]
    obtain ⟨o2,_,e2,_⟩:=vZ
    exact (iDPP _ (keep _ _ e2) (.inr ⟨by rw [cC (ao _) _ _ e2];exact oa,.inr (bA es hc)⟩))
  ·(intro i own' hp h' v x nV;refine ba nV ?_;clear nV;intro k q1;intro e2 hr Z)
   (refine xDPP (za (K:=Int) e rs q1) ?_;intro y q3 q4)
   rw [List.getElem?_map,q3] at e2
   cases e2
   exact hr _ _ (q4.grow keep (cC (ao _)))
end
section
variable {X:Cx}{A:Around}{env:Env}{loc:Loc}{cells c c' GQ:Cells}{own own':Own}{s:Shared}{h h':Heap}{Ψ:V→Cells→Prop}
theorem sZ{prog:Program}{w:World}{A:Around}(hh:A.handled=none)(I d:Addr)(iD:d≠I)(bp:List (Int×Value))(ep:Nat) :
  WalksT prog w A I [I,d] [I] bp.length (fun i vals=>∃ k t v,bp[i]?=some (k,v)∧vals=#[.int k t,v]) (fun i h=>(∃ ok ov,IsItemIter h I d i bp.length ep ok ov)∧h.DictAt (intKind prog w) d bp ep)
   (fun i T h=>(∃ ok ov,IsItemIterOut h I d (i+1) bp.length ep ok ov T)∧h.DictAt (intKind prog w) d bp ep∧T≠I) where
 sub:=fun b hb=>by simp at hb;simp [hb]
 frame:=fun i h h' st hk=>⟨let ⟨ok,ov,e⟩:=st.1;(fV ok ov (hk I (by exact List.mem_cons_self) _ e)),st.2.at' fun o e=>hk d (by exact List.mem_of_getLast? rfl) o e⟩
 item:=fun i s Q E hi st hQ=>by
  (refine aK st ?_;try clear st;intro aV hm;refine eG aV ?_;clear aV;intro ok ov hit)
  obtain ⟨⟨k,x⟩,hx⟩:∃ p,bp[i]?=some p:=(bA (bp[i]) (by exact List.getElem?_eq_getElem hi))
  refine wpAny_pyNext_items_item hit hm hx fun key h' GR uQ GS hz keep=>?_
  (refine ba (Value.isInt_shape GR) ?_;intro t bj;subst bj)
  have Ie:I<s.heap.objs.size:=Heap.lt_size hit
  exact hQ s.heap.objs.size _ h' s.toks (fh k t x hx rfl) (Nat.le_refl _) (bt _ GS rfl 0 rfl) ⟨(fV _ _ uQ),hm.at' fun o e=>keep d o iD e,fun z=>by rw [z] at Ie;exact absurd Ie (Nat.lt_irrefl _)⟩ fun b o hb e=>keep b o (fun z=>hb (by exact List.mem_singleton.mpr z)) e
 go:=fun elts k pos i T s Q E hm hQ=>by
  (refine aP hm ?_;try clear hm;intro bH hm hT;refine eG bH ?_;clear bH;intro ok ov hit)
  refine wpAny_letOwnedTupleGo_items hit fun h' uQ hs=>?_
  exact hQ h' ⟨(fV ok ov uQ),hm.at' fun o e=>(hs.2 d iD).trans e⟩ fun b o hb e=>(hs.2 b (fun z=>hb (by exact List.mem_singleton.mpr z))).trans e
 apart:=fun i T h hm=>by simpa using hm.2.2
 done:=fun s Q E st hQ=>by
  (refine aK st ?_;try clear st;intro cw hm;refine eG cw ?_;clear cw;intro ok ov hit)
  exact wpAny_pyNext_items_end hh hit hm (by simp) fun h' F7=>hQ h' s.toks fun b o hb e=>F7 b o (fun h=>hb (by exact List.mem_singleton.mpr h)) e
 self:=fun i s Q E st hQ=>by
  (refine aK st ?_;try clear st;intro cR hm;refine eG cR ?_;clear cR;intro ok ov hit)
  refine wpAny_pyIter_slot (show s.TypeIs (.ref I) "dict_itemiterator" from (iDPP _ hit rfl)) F.slot_dict_itemiterator_iter (wpAny_call_entry F.slot_dict_itemiterator_iter (iDPP _ hit rfl) (entryFor_alias (id':="dict_keyiterator.__iter__") (by kernel_rfl) rfl (by decide +kernel) (by kernel_rfl):entryFor table "dict_itemiterator.__iter__"=some Builtin.«dict_keyiterator.__iter__») ?_ (F.args_dict_itemiterator_iter_1 _))
  show wpAny _ _ (ret (.ref I)) _ _ s
  exact wpAny_pure (yr _ rfl ("dict_itemiterator") _ (iDPP _ hit rfl) F.slot_dict_itemiterator_next.lookup hQ)
noncomputable def hH (es:List (Int×V)):List V:=es.map fun kv=>.tuple [.int kv.1,kv.2]
theorem A2{o:Expr}{apos pos:Pos}{elts:List Expr}{k:Nat}{tp:Pos}{pl:Sem Bool}{Φ:List V→Loc→Cells→Prop}(hh:A.handled=none)(h:mE X A env (eval o env) (fun ov l c=>∃ a es,ov=.ref a∧c a=some (.c9 es)∧Φ (hH es) l c) loc cells)(he:autoParam (eval (.Call (.Attribute o "items" apos) [] [] pos) env=(do let ov ← eval o env;standAt apos.atName;let (f,first) ← holding [ov] (getMethod ov "items" pl);callWith pos f first (backTo pos (starEach [] env)) [])) aR) :
  eC X A env (.Tuple elts k tp) (.Call (.Attribute o "items" apos) [] [] pos) Φ loc cells:=by
 refine v7 (T:="dict_items") (items:=hH) PySem.F.slot_dict_items PySem.F.type_dict_items (fun A s d bp Q hS hd hQ=>?_) (fun own c s vw a es I hc hv=>?_) h he
 ·exact call_meetsIn PySem.F.slot_dict_items hd.typeIs PySem.F.entry_dict_items (PySem.F.args_dict_items_1 _) (meets_dict_items (intKind X.prog X.w) d hS) ⟨(bA bp hd),hQ⟩
 ·(refine dJ (I.cell a _ hc) ?_;intro oa bp hd e rs)
  (refine ba hd.dictAt ?_;intro ep vZ)
  have iD:a≠s.heap.objs.size:=Nat.ne_of_lt vZ.lt_size
  have hl:bp.length=es.length:=by have:=congrArg List.length e;simpa using this
  have len:(hH es).length=bp.length:=by rw [hl];simp [hH]
  have keep:∀ b o,s.heap.get? b=some o→(s.heap.push { cls:=.type "dict_itemiterator",data:=.fields #[.none,.bool false,.ref a,.int 0 0,.int bp.length 0,.int ep 0,.none,.none]}).get? b=some o:=fun b o e=>Heap.get?_push_of_some _ e
  refine wpAny_pyIter_items (knd:=intKind X.prog X.w) (bq _ hv rfl rfl) vZ (cI (cU own s.heap.objs.size) _ s.toks rfl keep (I.cU (ao _) (I.fZ (ao _)) keep (Heap.get?_push_size _ rfl)) (cC (ao _)) ([s.heap.objs.size,a]) ([s.heap.objs.size]) _ _
   ({ d:=.len len.symm <| qV.oh (sZ hh s.heap.objs.size a iD bp ep),st:=⟨(fV .none .none (Heap.get?_push_size _ rfl)),vZ.push _⟩,w:=?_,ex:=?_,f:=?_,p:=?_}))
  ·intro b hb
   rw [List.mem_singleton.mp hb]
   exact ⟨ao _,by simp [cU],I.fZ (ao _)⟩
  ·rintro i h' ⟨⟨_,_,e1⟩,⟨o2,_,e2,_⟩⟩ b hb
   rcases List.mem_cons.mp hb with rfl | hb
   ·exact (bA _ e1)
   ·rw [List.mem_singleton.mp hb];exact (bA o2 e2)
  ·intro b hb hw
   rcases List.mem_cons.mp hb with rfl | hb
   ·exact absurd (List.mem_singleton.mpr rfl) hw
   ·rw [List.mem_singleton.mp hb]
    obtain ⟨o2,_,e2,_⟩:=vZ
    exact (iDPP _ (keep _ _ e2) (.inr ⟨by rw [cC (ao _) _ _ e2];exact oa,.inr (bA es hc)⟩))
  ·rintro i own' hp h' v x ⟨T,vals,rfl,⟨k,t,v,q1,rfl⟩,tup,fr⟩ e2 hr yn
   (refine xDPP (za (K:=Int) e rs q1) ?_;intro y q3 q4)
   unfold hH at e2
   rw [List.getElem?_map,q3] at e2
   cases e2
   exact q0 tup (yn T fr) (.int _ _) (hr _ _ (q4.grow keep (cC (ao _))))
end
section
variable {X:Cx}{A:Around}{env:Env}{loc:Loc}{cells:Cells}{own:Own}{s:Shared}
noncomputable def lO (X:Cx) (own:Own) (h:Heap) (a:Addr) (es:List (Int×V)):Prop:=∃ bp,h.DictOf (intKind X.prog X.w) a bp∧bp.map (·.1)=es.map (·.1)∧bP own h (bp.map (·.2)) (es.map (·.2))
theorem lO.here{h:Heap}{a:Addr}{es:List (Int×V)}(d:lO X own h a es):∃ o,h.get? a=some o:=let ⟨_,⟨o,_,_,e,_⟩,_⟩:=d;(bA o e)
theorem lO.mono{own':Own}{h h':Heap}{a:Addr}{es:List (Int×V)}(d:lO X own h a es)(hk:∀ o,h.get? a=some o→h'.get? a=some o)(rv:∀ v x,RV own h v x→RV own' h' v x):lO X own' h' a es :=
 let ⟨bp,⟨o,Ea,ep,e,r⟩,q1,q2⟩:=d;(bq bp ((fh o Ea ep (hk o e) r)) q1 (q2.mono rv))
theorem lO.new{h:Heap}{a:Addr}(e:h.get? a=some { cls:=.type "dict",data:=.dict #[]}):lO X own h a []:=(bq ([]) ((nM _ (#[]) 0 e (⟨rfl,rfl,rfl⟩) rfl (fun e he=>by simp at he) .nil .nil)) rfl .nil)
theorem uR{own':Own}{h h':Heap}{k:Int}{u:Value}{mv:V}{bp:List (Int×Value)}{es:List (Int×V)}(e:bp.map (·.1)=es.map (·.1))(rs:bP own h (bp.map (·.2)) (es.map (·.2)))(rv:∀ v x,RV own h v x→RV own' h' v x)(ru:RV own h u mv) :
  (stored bp k u).map (·.1)=(dput es k mv).map (·.1)∧bP own' h' ((stored bp k u).map (·.2)) ((dput es k mv).map (·.2)):=by
 have any_eq:∀ {bp:List (Int×Value)} {es:List (Int×V)},bp.map (·.1)=es.map (·.1)→bp.any (fun kv=>decide (kv.1=k))=es.any (fun kv=>decide (kv.1=k)):=by
  intro bp es e
  have h1:bp.any (fun kv=>decide (kv.1=k))=(bp.map (·.1)).any (fun x=>decide (x=k)):=by rw [List.any_map];rfl
  have h2:es.any (fun kv=>decide (kv.1=k))=(es.map (·.1)).any (fun x=>decide (x=k)):=by rw [List.any_map];rfl
  rw [h1,h2,e]
 have map_eq:∀ {bp:List (Int×Value)} {es:List (Int×V)},bp.map (·.1)=es.map (·.1)→bP own h (bp.map (·.2)) (es.map (·.2))→(bp.map (fun kv=>if kv.1=k then (kv.1,u) else kv)).map (·.1)=(es.map (fun kv=>if kv.1=k then (kv.1,mv) else kv)).map (·.1) ∧
   bP own' h' ((bp.map (fun kv=>if kv.1=k then (kv.1,u) else kv)).map (·.2)) ((es.map (fun kv=>if kv.1=k then (kv.1,mv) else kv)).map (·.2)):=by
  intro bp
  induction bp with
  | nil =>
   intro es e r
   cases es with
   | nil=>exact ⟨rfl,.nil⟩
   | cons _ _=>simp at e
  | cons p bp ih =>
   intro es e r
   cases es with
   | nil=>simp at e
   | cons q es =>
    obtain ⟨k1,v1⟩:=p
    obtain ⟨k2,x2⟩:=q
    (refine aK (List.cons.inj e) ?_;intro e1 e2)
    dsimp only at e1
    subst e1
    (refine xDDPPP (bP.cK r) ?_;intro v jB q1 q2 q3)
    (refine aK (List.cons.inj q1) ?_;intro q4 q5)
    subst q5
    dsimp only at q4
    subst q4
    obtain ⟨i1,i2⟩:=ih e2 q3
    simp only [List.map_cons]
    by_cases hk:k1=k
    ·simp only [hk,if_true]
     exact ⟨congrArg _ i1,.cons (rv _ _ ru) i2⟩
    ·simp only [hk,if_false]
     exact ⟨congrArg _ i1,.cons (rv _ _ q2) i2⟩
 unfold stored dput
 rw [any_eq e]
 by_cases rF:es.any (fun kv=>decide (kv.1=k))=true
 ·rw [if_pos rF,if_pos rF];exact map_eq e rs
 ·rw [if_neg rF,if_neg rF]
  refine ⟨by simp [e],?_⟩
  rw [List.map_append,List.map_append]
  exact (rs.mono rv).append (.cons (rv _ _ ru) .nil)
theorem lO.put{a:Addr}{es:List (Int×V)}{k:Int}{mv:V}{kv u:Value}{Q:Unit→Shared→Prop}(d:lO X own s.heap a es)(rk:RV own s.heap kv (.int k))(hz:es.length≤sizeLine)(ru:RV own s.heap u mv)(h:∀ h7,lO X own h7 a (dput es k mv)→Heap.SameBut a s.heap h7→Q () {s with heap:=h7,toks:=s.toks+1}):wpAny (model X.prog X.w) A (dictSet a kv u) Q dh s:=by
 (refine fj d ?_;try clear d;intro bp hd e rs)
 refine RV.e1 rk rfl fun Z=>?_
 have hl:bp.length=es.length:=by have:=congrArg List.length e;simpa using this
 refine wpAny_dictSet_pairs (k:=k) (intKind_is _ _ _ _) hd (fun h' pJ uf=>h h' ?_ uf) (by rw [hl];exact hz)
 have nf:∀ o,s.heap.get? a=some o→¬ pH o:=fun o eo=>by
  (refine dy hd ?_;try clear hd;intro o' Ea ep e' c' d' Z)
  rw [eo] at e';cases e'
  exact eI d'
 (refine aK (uR (k:=k) e rs (fun v x r=>qT (fun b o hb e=>(uf.2 b hb).trans e) nf r) ru) ?_;intro k1 k2)
 exact (bq _ pJ k1 k2)
noncomputable def GU (X:Cx) (A:Around) (ifs:List Expr) (kx vx:Expr) (dG:Env) (a:Addr) (Q:Shared→Prop) (s:Shared):Prop :=
 wpAny (model X.prog X.w) A (eX dG ifs true) (fun ok s4=>if ok=true then
   wpAny (model X.prog X.w) A (eval kx dG) (fun kv s5=>wpAny (model X.prog X.w) A (eval vx dG) (fun vv s5=>wpAny (model X.prog X.w) A (dictSet a kv vv) (fun Z s6=>Q s6) dh s5) dh s5) dh s4 else Q s4) dh s
theorem A3{target kx vx iter:Expr}{ifs:List Expr}{scope:Scope}{pos:Pos}{dG:Env}{it:Value}{a:Addr}{R:Result→Shared→Prop} :
  DS X A target dG it (GU X A ifs kx vx dG a) (R (.ok .next)) (codeAny (model X.prog X.w) A (.compLoop (.DictComp kx vx [⟨target,iter,ifs,0⟩] scope pos) 0 it (.ref a) dG) R):=by
 intro T turn k s h
 refine codeAny_loop rfl T (fun k s hT=>?_) k h
 show wpAny _ A ((compTurn (.DictComp kx vx [⟨target,iter,ifs,0⟩] scope pos) 0 it (.ref a) dG).onRaise (fun x=>do noteFrame x dG;theTreesLotGoes x)) _ _ s
 refine wpAny_noted ?_
 rw [compTurn_dict]
 refine wpAny_bind (wpAny_standAt (wpAny_bind (aB (turn k s hT) fun r s1 hr=>hr.elim (fun q=>wpAny_pure q) fun v hv=>?_)))
 refine wpAny_bind (aB hv fun Z s2 h2=>wpAny_bind (aB h2 fun Z s3 h3=>wpAny_bind (aB h3 fun ok s4 h4=>?_)))
 cases ok with
 | false=>exact wpAny_pure ⟨rfl,h4⟩
 | true=>exact wpAny_bind (wpAny_bind (aB h4 fun kv s5 h5=>wpAny_bind (wpAny_holding (aB h5 fun vv s6 h6=>wpAny_bind (wpAny_standAt (wpAny_holding (aB h6 fun Z s7 h7=>wpAny_pure ⟨rfl,h7⟩)))))))
theorem oz{Q:Value→Shared→Prop}{E:Value→Shared→Prop}(h:Q (.ref s.heap.objs.size) {s with heap:=s.heap.push { cls:=.type "dict",data:=.dict #[]}}):wpAny (model X.prog X.w) A newDict Q E s:=wpAny_newObj_type h
theorem A4{ifs:List Expr}{kx vx:Expr}{a:Addr}{acc:List (Int×V)}{P:Loc→List (Int×V)→Cells→Prop}{Q:Shared→Prop}(H:eA X A env ifs (fun ok l c=>if ok then mE X A env (eval kx env) (fun rk l1 c1=>∃ k,rk=.int k∧mE X A env (eval vx env) (fun r l' c'=>P l' (dput acc k r) c') l1 c1) l c else P l acc c) loc (upd cells a none))(ca:cells a=some (.dict acc))(hz:acc.length≤sizeLine)(I:Inv X env own loc cells s)(k:∀ own' l' c' ys s',Inv X env own' l' c' s'→Ext (Fa env) own cells s.heap own' c' s'.heap→c' a=some (.dict ys)→P l' ys (upd c' a none)→Q s'):GU X A ifs kx vx env a Q s:=by
 have I':Inv X env own loc (upd cells a none) s:=⟨I.base.fA fun x e=>(nomatch e),I.ok,I.fr⟩
 refine aK (I.base.cell a _ ca) ?_;intro oa ra
 refine ba (I.base.lt a a oa) ?_;intro o e
 have back:∀ {own' l' c' s'},Inv X env own' l' c' s'→Ext (Fa env) own (upd cells a none) s.heap own' c' s'.heap→Inv X env own' l' (upd c' a (some (.dict acc))) s'∧c' a=none:=fun I4 x=>bM (x.fw a a _ e oa ⟨.inl (ag _ _ _),rfl⟩) fun p1 p2 p3 Z =>
  have n4:=p3.trans (ag _ _ _)
  ⟨⟨I4.base.adopt p2 n4 (lO.mono (X:=X) ra (fun o' e'=>Option.some.inj (e.symm.trans e')▸p1) fun v y r=>r.ext I' x),I4.ok,I4.fr⟩,n4⟩
 refine (iN ifs H).use I' fun dw l4 c4 ok okv s4 I4 r4 x4 p4=>?_
 cases (r4:okv=ok)
 cases ok with
 | false=>exact aK (back I4 x4) fun I5 n5=>k dw l4 _ acc s4 I5 (x4.live ca rfl) (ag _ _ _) (by rw [b8,dZ n5];exact p4)
 | true =>
  refine eg.use p4 I4 fun uD l5 c5 r rv s5 I5 r5 x5 p0=>xDPP p0 fun ky er p5=>?_
  cases er
  refine eg.use p5 I5 fun GV l6 c6 r rv s6 I6 r6 x6 p6=>?_
  have Ig:=x4.trans (x5.trans x6)
  refine aK (back I6 Ig) ?_;intro I7 n7
  refine lO.put (X:=X) (I7.base.cell a _ (ag _ _ _)).2 (r5.ext I5 x6) hz r6 fun h7 d7 CE=>?_
  refine aK (I7.base.kA (t:=s6.toks+1) (ag _ _ _) (fun b o hb e=>(CE.2 b hb).trans e) d7.here (c':=.dict (dput acc ky r)) d7) ?_;intro B8 x8
  rw [b8] at B8 x8
  exact k GV l6 _ _ _ ⟨B8,I6.ok,I7.fr.ext x8⟩ ((Ig.live ca rfl).trans x8.gI) (ag _ _ _) (by rw [b8,dZ n7];exact p6)
noncomputable def uS (X:Cx) (A:Around) (env:Env) (bind:V→Loc→Loc) (ifs:List Expr) (kx vx:Expr) (scope:Scope) (items:List V) (bc:Loc) (c2:Cells) (Ψ:V→Cells→Prop):Prop :=
 items.length≤sizeLine∧∃ J:Nat→List (Int×V)→Cells→Prop,J 0 [] c2∧(∀ i acc c,J i acc c→acc.length≤i) ∧
  (∀ L cs i v acc c,items[i]?=some v→J i acc c→eA X A (compEnv scope env L cs) ifs (fun ok l c=>if ok then
    mE X A (compEnv scope env L cs) (eval kx (compEnv scope env L cs)) (fun rk l1 c1=>∃ k,rk=.int k∧mE X A (compEnv scope env L cs) (eval vx (compEnv scope env L cs)) (fun r l' c'=>l'=bind v (c8 scope bc)∧J (i+1) (dput acc k r) c') l1 c1) l c
   else l=bind v (c8 scope bc)∧J (i+1) acc c) (bind v (c8 scope bc)) c)∧∀ xs c,J items.length xs c→∀ a,c a=none→Ψ (.ref a) (upd c a (some (.dict xs)))
structure EC(X:Cx)(A:Around)(env:Env)(scope:Scope)(target:Expr)(bind:V→Loc→Loc)(ok:V→Prop):Prop where
 asg:∀ L cs v,ok v→pM X A (compEnv scope env L cs) target v (bind v)
 sub:∀ v,ok v→∀ loc y mv,(c8 scope loc).lookup y=some mv→(bind v (c8 scope loc)).lookup y=some mv
theorem iR.toD{scope:Scope}{target:Expr}{ifs:List Expr}{elt e:Expr}{bind:V→Loc→Loc}{ok:V→Prop}(G:iR X A env scope target ifs elt e bind ok):EC X A env scope target bind ok:=⟨G.asg,G.sub⟩
theorem uT{target kx vx iter:Expr}{bind:V→Loc→Loc}{okv:V→Prop}{ifs:List Expr}{scope:Scope}{pos:Pos}{Ψ:V→Loc→Cells→Prop}(C:bB scope env)(G:EC X A env scope target bind okv)(hh:A.handled=none)(h:eC X A env target iter (fun items l2 c2=>(∀ v∈items,okv v)∧uS X A env bind ifs kx vx scope items l2 c2 (fun r c=>Ψ r l2 c)) loc cells)(hs:autoParam (∀ x,foldedSetIterable iter env x=pure x) aIR) :
  mE X A env (eval (.DictComp kx vx [⟨target,iter,ifs,0⟩] scope pos) env) Ψ loc cells:=fun own s I₀=>by
 rw [arm_eval_DictComp]
 (refine xDPP (gw (env:=env) (scope:=scope) (fun y hy=>let ⟨c,_,l,_⟩:=I₀.fr.iA y (C.isFree hy);(bA c l))) ?_;intro cl ku Eh)
 refine wpAny_comprehension_free (g:=⟨target,iter,ifs,0⟩) (gs:=[]) rfl hs ku C.kind (fun y hy hk=>C.lookup.mpr (by obtain ⟨a,b⟩:=y;dsimp only at hk;rw [hk] at hy;exact hy)) ?_
 refine aB (h own s I₀) fun xv s1 h1=>aB h1 fun it s2 h2=>?_
 refine ir h2 ?_;clear h2;intro aI bc c2 items I2 x2 src AO hlen J j0 hJ turn done
 refine lJ (K:=.dict) (b0:=[]) (bind:=bind) (Em:=fun ce a=>GU X A ifs kx vx ce a) C I2 x2 src Eh (fun Q q=>oz q) rfl (fun own h a e=>lO.new (X:=X) e) J j0 (fun L cs v hv=>G.asg L cs v (AO v hv)) ?_ (fun L cs a=>A3) (fun L cs a R s3 h1 h2=>codeAny_compStart_dict h1 (aB h2 fun AH s' q=>by cases q.1;exact q.2))
  fun a L own' c' s' xs j ca e=>ba e.ns fun m hm=>iDPP m hm fun h' vO=>aP (e.letGo vO) fun q1 q2 q3=>⟨_,bc,_,.ref a,q1,q2,q3,kB ca▸done xs _ j a (ag _ _ _)⟩
 intro L cs i v acc c a own s Q hi ca j I k
 exact A4 (P:=fun l ys c=>l=bind v (c8 scope bc)∧J (i+1) ys c) (turn L cs i v acc _ hi j) ca (Nat.le_trans (hJ i acc _ j) (Nat.le_trans (Nat.le_of_lt (List.getElem?_eq_some_iff.mp hi).1) hlen)) I
  fun own' l' c' ys s' I' x' CC p=>k own' l' c' ys s' I' x' (fun y mv e=>p.1▸G.sub v (AO v (List.mem_of_getElem? hi)) bc y mv e) CC p.2
end
theorem iY:Slot "method_descriptor" "__get__" "method_descriptor.__get__" :=
 .of (owner:="method_descriptor") (n:="__get__") (by rw [typeLookup_type,builtinLookup_eq_fast];kernel_rfl) (by decide +kernel) (by decide +kernel) (by decide +kernel)
  (by first | exact .inl (by decide +kernel) | exact .inr (by decide +kernel)) (by rw [isSubtype_type];kernel_rfl)
theorem xi:typeLookup (.type "method_descriptor") "__set__"=pure none:=by rw [typeLookup_type,builtinLookup_eq_fast];kernel_rfl
theorem xj:typeLookup (.type "method_descriptor") "__delete__"=pure none:=by rw [typeLookup_type,builtinLookup_eq_fast];kernel_rfl
theorem rH:entryFor table "method_descriptor.__get__"=some Builtin.«method_descriptor.__get__»:=entryFor_of_tree (by kernel_rfl)
theorem s8(a b c:Value):argsOk "method_descriptor.__get__" ⟨[a,b,c],[]⟩:=by unfold argsOk;kernel_rfl
theorem slot_wd_get:Slot "wrapper_descriptor" "__get__" "wrapper_descriptor.__get__" :=
 .of (owner:="wrapper_descriptor") (n:="__get__") (by rw [typeLookup_type,builtinLookup_eq_fast];kernel_rfl) (by decide +kernel) (by decide +kernel) (by decide +kernel)
  (by first | exact .inl (by decide +kernel) | exact .inr (by decide +kernel)) (by rw [isSubtype_type];kernel_rfl)
theorem xl:typeLookup (.type "wrapper_descriptor") "__set__"=pure none:=by rw [typeLookup_type,builtinLookup_eq_fast];kernel_rfl
theorem xm:typeLookup (.type "wrapper_descriptor") "__delete__"=pure none:=by rw [typeLookup_type,builtinLookup_eq_fast];kernel_rfl
theorem entry_wd_get:entryFor table "wrapper_descriptor.__get__"=some Builtin.«wrapper_descriptor.__get__»:=entryFor_of_tree (by kernel_rfl)
theorem args_wd_get(a b c:Value):argsOk "wrapper_descriptor.__get__" ⟨[a,b,c],[]⟩:=by unfold argsOk;kernel_rfl
theorem oA:typeLookup (.type "list") "append"=pure (some (.builtin "list.append")):=by rw [typeLookup_type,builtinLookup_eq_fast];kernel_rfl
theorem iZ:typeOf (.builtin "list.append")=pure (.type "method_descriptor"):=by kernel_rfl
theorem kS:(".".intercalate ("list.append".cutAt '.').dropLast)="list":=by
 have e0:"list.append".cutAt '.'=["list","append"]:=by first | rfl | decide +kernel
 rw [e0];decide +kernel
theorem nh:isSubtype (.type "list") (.type (".".intercalate ("list.append".cutAt '.').dropLast))=pure true:=by
 rw [kS,isSubtype_type];kernel_rfl
section
variable {prog:Program}{w:World}{A:Around}{E:Value→Shared→Prop}{h:Heap}{g:Array GenState}{d:Drawn}{t:Nat}{os:OsState}{a:Addr}{tk:Tok}{vs:Array Value}{n:Nat}{sl:Array (Option Value)}
theorem kT{Q:Fin→Shared→Prop}(hx:h.get? a=some ⟨.type "list",none,.seq vs n,sl⟩)(hq:Q (.done (.ret (.ref h.objs.size))) ⟨h.push { cls:=.type "builtin_function_or_method",data:=.fields #[.builtin "list.append",.ref a]},g,d,t,os⟩) :
  wpAny (model prog w) A (Builtin.«object.__getattribute__» ⟨[.ref a,.str "append" tk],[]⟩) Q E ⟨h,g,d,t,os⟩:=by
 have hT:(⟨h,g,d,t,os⟩:Shared).TypeIs (.ref a) "list":=⟨_,hx,rfl⟩
 have f4:=oA
 have f5:=iZ
 have f6:=iY.lookup
 have f7:=xi
 have f8:=xj
 have f9:=nh
 repeat (any_goals (first | assumption | wp_step))
 have hT5:(⟨h,g,d,t,os⟩:Shared).TypeIs (.builtin "list.append") "method_descriptor":=iZ
 refine codeAny_call_builtin iY.plain rH (iY.check _ _ _ _ _ _ _ _ hT5 (s8 _ _ _) ?_)
 repeat (any_goals (first | assumption | wp_step))
theorem lP{R:Result→Shared→Prop}(hx:h.get? a=some ⟨.type "list",none,.seq vs n,sl⟩)(hq:R (.ok (.ret (.ref h.objs.size))) ⟨h.push { cls:=.type "builtin_function_or_method",data:=.fields #[.builtin "list.append",.ref a]},g,d,t,os⟩) :
  codeAny (model prog w) A (.call (.builtin "list.__getattribute__") ⟨[.ref a,.str "append" tk],[]⟩) R ⟨h,g,d,t,os⟩ :=
 codeAny_call_builtin F.slot_list_getattribute.plain F.entry_list_ga (F.slot_list_getattribute.check _ _ _ _ _ _ _ _ (show (⟨h,g,d,t,os⟩:Shared).TypeIs (.ref a) "list" from ⟨_,hx,rfl⟩) (F.args_list_getattribute_2 _ _) (kT hx hq))
theorem lQ{Q:Value→Shared→Prop}(hx:h.get? a=some ⟨.type "list",none,.seq vs n,sl⟩)(hq:Q (.ref h.objs.size) ⟨h.push { cls:=.type "builtin_function_or_method",data:=.fields #[.builtin "list.append",.ref a]},g,d,t+1,os⟩) :
  wpAny (model prog w) A (getAttr (.ref a) "append" true) Q E ⟨h,g,d,t,os⟩:=by
 have hT:∀ GW,(⟨h,g,d,GW,os⟩:Shared).TypeIs (.ref a) "list":=fun Z=>⟨_,hx,rfl⟩
 have f3:=F.slot_list_getattribute.lookup
 have f4:=F.slot_list_getattribute.bind (.ref a)
 unfold getAttr getAttrBy
 repeat (any_goals (first | assumption | exact hT _ | wp_step))
 refine lP hx ?_
 repeat (any_goals (first | assumption | wp_step))
end
theorem uU:typeLookup (.type "list_iterator") "__next__"=pure (some (.builtin "list_iterator.__next__")):=by rw [typeLookup_type,builtinLookup_eq_fast];kernel_rfl
theorem ty_li_next:typeOf (.builtin "list_iterator.__next__")=pure (.type "wrapper_descriptor"):=by kernel_rfl
theorem pS:(".".intercalate ("list_iterator.__next__".cutAt '.').dropLast)="list_iterator":=by
 have e0:"list_iterator.__next__".cutAt '.'=["list_iterator","__next__"]:=by first | rfl | decide +kernel
 rw [e0];decide +kernel
theorem s9:isSubtype (.type "list_iterator") (.type (".".intercalate ("list_iterator.__next__".cutAt '.').dropLast))=pure true:=by
 rw [pS,isSubtype_type];kernel_rfl
theorem slot_li_ga:Slot "list_iterator" "__getattribute__" "object.__getattribute__" :=
 .of (owner:="object") (n:="__getattribute__") (by rw [typeLookup_type,builtinLookup_eq_fast];kernel_rfl) (by decide +kernel) (by decide +kernel) (by decide +kernel)
  (by first | exact .inl (by decide +kernel) | exact .inr (by decide +kernel)) (by rw [isSubtype_type];kernel_rfl)
section
variable {prog:Program}{w:World}{A:Around}{E:Value→Shared→Prop}{h:Heap}{g:Array GenState}{d:Drawn}{t:Nat}{os:OsState}{a:Addr}{tk:Tok}{vs:Array Value}{sl:Array (Option Value)}
theorem pT{Q:Fin→Shared→Prop}(hx:h.get? a=some ⟨.type "list_iterator",none,.fields vs,sl⟩)(hq:Q (.done (.ret (.ref h.objs.size))) ⟨h.push { cls:=.type "method-wrapper",data:=.fields #[.builtin "list_iterator.__next__",.ref a]},g,d,t,os⟩) :
  wpAny (model prog w) A (Builtin.«object.__getattribute__» ⟨[.ref a,.str "__next__" tk],[]⟩) Q E ⟨h,g,d,t,os⟩:=by
 have hT:(⟨h,g,d,t,os⟩:Shared).TypeIs (.ref a) "list_iterator":=⟨_,hx,rfl⟩
 have f4:=uU
 have f5:=ty_li_next
 have f6:=slot_wd_get.lookup
 have f7:=xl
 have f8:=xm
 have f9:=s9
 repeat (any_goals (first | assumption | wp_step))
 have hT5:(⟨h,g,d,t,os⟩:Shared).TypeIs (.builtin "list_iterator.__next__") "wrapper_descriptor":=ty_li_next
 refine codeAny_call_builtin slot_wd_get.plain entry_wd_get (slot_wd_get.check _ _ _ _ _ _ _ _ hT5 (args_wd_get _ _ _) ?_)
 repeat (any_goals (first | assumption | wp_step))
theorem rI{R:Result→Shared→Prop}(hx:h.get? a=some ⟨.type "list_iterator",none,.fields vs,sl⟩)(hq:R (.ok (.ret (.ref h.objs.size))) ⟨h.push { cls:=.type "method-wrapper",data:=.fields #[.builtin "list_iterator.__next__",.ref a]},g,d,t,os⟩) :
  codeAny (model prog w) A (.call (.builtin "object.__getattribute__") ⟨[.ref a,.str "__next__" tk],[]⟩) R ⟨h,g,d,t,os⟩ :=
 codeAny_call_builtin slot_li_ga.plain F.entry_object_getattribute (slot_li_ga.check _ _ _ _ _ _ _ _ (show (⟨h,g,d,t,os⟩:Shared).TypeIs (.ref a) "list_iterator" from ⟨_,hx,rfl⟩) (F.args_object_getattribute_2 _ _) (pT hx hq))
theorem rJ{Q:Value→Shared→Prop}(hx:h.get? a=some ⟨.type "list_iterator",none,.fields vs,sl⟩)(hq:Q (.ref h.objs.size) ⟨h.push { cls:=.type "method-wrapper",data:=.fields #[.builtin "list_iterator.__next__",.ref a]},g,d,t+1,os⟩) :
  wpAny (model prog w) A (getAttr (.ref a) "__next__" true) Q E ⟨h,g,d,t,os⟩:=by
 have hT:∀ GW,(⟨h,g,d,GW,os⟩:Shared).TypeIs (.ref a) "list_iterator":=fun Z=>⟨_,hx,rfl⟩
 have f3:=slot_li_ga.lookup
 have f4:=slot_li_ga.bind (.ref a)
 unfold getAttr getAttrBy
 repeat (any_goals (first | assumption | exact hT _ | wp_step))
 refine rI hx ?_
 repeat (any_goals (first | assumption | wp_step))
end
section
variable {prog:Program}{w:World}{A:Around}{E:Value→Shared→Prop}{s:Shared}{a m:Addr}
theorem gB{B id:String}{b:Builtin}{sl:Array (Option Value)}{self:Value}{rest:List Value}{R:Result→Shared→Prop}(hB:B="builtin_function_or_method"∨B="method-wrapper")(ho:s.heap.get? m=some ⟨.type B,none,.fields #[.builtin id,self],sl⟩)(hq:plainId id=true)(hb:entryFor table id=some b)(h:wpAny (model prog w) A.in1 (checkBoundCall id ⟨self::rest,[]⟩) (fun Z s₁=>wpAny (model prog w) A.in1 (b ⟨self::rest,[]⟩)
   (fun fin s'=>match fin with | .done f=>R (.ok f) s' | .again c'=>c'.quiet=true∧codeAny (model prog w) A c' R s') (fun e s'=>R (.error e) s') s₁)
   (fun e s'=>R (.error e) s') s):codeAny (model prog w) A (.call (.ref m) ⟨rest,[]⟩) R s:=by
 refine codeAny_of_tree ?_
 show wpAny _ A.in1 (callAny (.ref m) ⟨rest,[]⟩) _ _ _
 unfold callAny
 refine wpAny_bind (wpAny_load ho ?_)
 have e1:(Value.type B == Value.type "method"||Value.type B == Value.type "builtin_function_or_method"||Value.type B == Value.type "method-wrapper")=true:=by rcases hB with rfl | rfl <;> decide
 have e2:(Value.type B != Value.type "method")=true:=by rcases hB with rfl | rfl <;> decide
 show wpAny _ _ (if (Value.type B == Value.type "method"||Value.type B == Value.type "builtin_function_or_method"||Value.type B == Value.type "method-wrapper")=true then _ else _) _ _ _
 rw [if_pos e1]
 show wpAny _ _ (if (Value.type B != Value.type "method")=true then _ else _) _ _ _
 rw [if_pos e2]
 refine wpAny_bind (wpAny_mono h (fun Z s₁ h₁=>wpAny_pure ⟨plainId_quiet hq _,codeAny_builtin hb ?_⟩) fun Z Z h'=>h')
 rw [Around.under_plainId hq];exact h₁
theorem nj:isSubtype (.type "list") (.type "module")=pure false:=by rw [isSubtype_type];kernel_rfl
theorem pU:isSubtype (.type "list") (.type "type")=pure false:=by rw [isSubtype_type];kernel_rfl
theorem rK{vs:Array Value}{n:Nat}{sl:Array (Option Value)}{x:Value}{Q:Unit→Shared→Prop}(hx:s.heap.get? a=some ⟨.type "list",none,.seq vs n,sl⟩)(h:Q () s):wpAny (model prog w) A (checkBoundCall "list.append" ⟨[.ref a,x],[]⟩) Q E s:=by
 obtain ⟨hh,g,d,t,os⟩:=s
 have hT:(⟨hh,g,d,t,os⟩:Shared).TypeIs (.ref a) "list":=⟨_,hx,rfl⟩
 have f1:=nj
 have f2:=pU
 unfold checkBoundCall
 repeat (any_goals (first | assumption | wp_step))
end
noncomputable def v8 (fs:List Addr) (P:Addr→Prop) (h h':Heap):Prop:=∀ b o,h.get? b=some o→(¬ P b→(b ∉ fs→h'.get? b=some o)∧∃ sl,h'.get? b=some { o with slots:=sl})∧∃ o',h'.get? b=some o'
section
variable {X:Cx}{A:Around}{env:Env}{loc:Loc}{cells c:Cells}{own:Own}{s:Shared}{h h':Heap}
theorem Base.zd{fs:List Addr}{P:Addr→Prop}{t:Nat}(I:Base X own c s)(hf:∀ b∈fs,b∈X.iz)(hP:∀ b,P b→∃ m,own b=some m∧m≠b∧c m=none)(hs:v8 fs P s.heap h') :
  Base X own c {s with heap:=h',toks:=t}∧Ext qR own c s.heap own c h':=by
 have h0:∀ b,b∈fs∨P b→X.h₀.get? b=none:=fun b q=>by
  rcases q with q | q
  ·obtain ⟨_,_,_,_,_,_,z⟩:=I.iz b (hf b q);exact z
  ·(refine xDPP (hP b q) ?_;intro m e Z);exact I.new b m e
 have k0:∀ b o,¬ (b∈fs∨P b)→s.heap.get? b=some o→h'.get? b=some o:=fun b o n e=>((hs b o e).1 fun q=>n (.inr q)).1 fun q=>n (.inl q)
 have nf:∀ b o,s.heap.get? b=some o→own b=none→(∀ es n,o.data≠.dict es n)→h'.get? b=some o:=fun b o e n z=>k0 b o (fun q=>by
  rcases q with q | q
  ·obtain ⟨_,o',es,k,e',d,_⟩:=I.iz b (hf b q)
   rw [e] at e';cases e';exact z _ _ d
  ·(refine xDPP (hP b q) ?_;intro m e' Z);rw [n] at e';cases e') e
 have rv:∀ v x,RV own s.heap v x→RV own h' v x:=fun v x r=>r.mono (fun b o e q z=>nf b o e q z.nodict) fun Z Z Z e=>e
 have owned:∀ b o a,s.heap.get? b=some o→own b=some a→(c a≠none∨a=b)→h'.get? b=some o:=fun b o a e q z=>k0 b o (fun p=>by
  rcases p with p | p
  ·have:=(I.iz b (hf b p)).1;rw [q] at this;cases this
  ·(refine fj (hP b p) ?_;intro m e' n1 n2)
   rw [q] at e';cases e'
   rcases z with z | z
   ·exact z n2
   ·exact n1 z) e
 refine ⟨I.step (P:=fun b=>b∈fs∨P b) (fun b p=>h0 b p) k0 (fun b d e=>⟨I.new b d e,ba (I.lt b d e) fun o q=>(hs b o q).2⟩)
  (fun d x e=>⟨(I.cell d x e).1,(I.cell d x e).2.mono (fun b o q e'=>⟨owned b o d e' q (.inl (by rw [e];simp)),q⟩) rv (I.cell d x e).1⟩)
  (fun L hL=>by
   (refine sD (I.iz L hL) ?_;intro n o es k e d z)
   (refine ba (((hs L o e).1 fun q=>by (refine xDPP (hP L q) ?_;intro m e' Z);rw [n] at e';cases e').2) ?_;intro sl e')
   exact (sz n _ es k e' d z)),⟨fun b o e n Z Z=>?_,fun Z Z Z e=>e,fun b o e=>(hs b o e).2,fun b a o e q z=>⟨owned b o a e q (.inr z.2),q,rfl,z.2⟩⟩⟩
 obtain ⟨sl,e'⟩:=((hs b o e).1 fun q=>by obtain ⟨m,e',_⟩:=hP b q;rw [n] at e';cases e').2
 exact (iG _ e' rfl rfl (fun z=>by rw [nf b o e n z] at e';exact (Option.some.inj e').symm))
theorem oB(I:Base X own c s):∀ {envs:List Env},(∀ env∈envs,env.scope.kind≠.module∧∃ L∈X.iz,env.frame=some L)→s.heap.FunFrames {} envs
 | [],_=>trivial
 | env::r,h=>by
  (refine jy (h env List.mem_cons_self) ?_;intro h1 L h2 h3)
  obtain ⟨_,o,es,k,e,d,_⟩:=I.iz L h2
  exact ⟨h1,⟨L,o,h3,rfl,e,fun vs q=>by rw [d] at q;cases q⟩,oB I fun e he=>h e (List.mem_cons_of_mem _ he)⟩
theorem xn{envs:List Env}(h:∀ env∈envs,env.scope.kind≠.module∧∃ L∈X.iz,env.frame=some L):∀ b∈envs.filterMap (·.frame),b∈X.iz:=fun b hb=>by
 (refine xDPP (List.mem_filterMap.mp hb) ?_;intro e he hf)
 obtain ⟨_,L,h2,h3⟩:=h e he
 rw [h3] at hf;cases hf;exact h2
end
section
variable {M:Model}{A:Around}{E:Value→Shared→Prop}{s:Shared}
theorem xo{env:Env}{outer:List Env}{L e:Addr}{oe:Obj}{vs:Array Value}{Q:Unit→Shared→Prop}(A5:A.frames=some (env::outer))(hl:s.heap.FunFrames {} (env::outer))(hf:env.frame=some L)(he:s.heap.get? e=some oe)(hd:oe.data=.fields vs)(h1:vs[1]?=some .none)(h:∀ h' T oT ts,h'.get? e=some (oe.mapFields (·.setIfInBounds 1 (.ref T)))→s.heap.get? T=none→h'.get? T=some oT→oT.data=.fields ts→3<ts.size →
   (∀ b o,b≠e→s.heap.get? b=some o→(b ∉ (env::outer).filterMap (·.frame)→h'.get? b=some o)∧∃ sl,h'.get? b=some { o with slots:=sl})→Q () {s with heap:=h'}) :
  wpAny M A (noteFrame (.ref e) env) Q E s:=by
 have GX:e ∉ (env::outer).filterMap (·.frame):=fun hm=>by
  obtain ⟨_,o,ho,JO⟩:=hl.mem hm
  rw [he] at ho;injection ho with ho;subst ho;exact JO vs hd
 unfold noteFrame
 simp only [hf]
 refine wpAny_bind (wpAny_field he hd h1 ?_)
 rw [if_neg (by decide)]
 refine wpAny_bind (wpAny_frameOf_fun A5 hl hf fun h₁ v9=>?_)
 refine wpAny_bind (wpAny_entryPlaceOf fun pl DU=>?_)
 unfold EntryCells.newEntry newFields
 refine wpAny_bind (wpAny_newObj_type ?_ (DU.sizeOk5 _ _ _ _ _))
 have BZ:h₁.get? e=some oe:=(v9.2.1 e GX).trans he
 have B9:=Heap.get?_push_of_some (h:=h₁) { cls:=.type "traceback",dict:=none,data:=.fields ([Value.none,.ref L,.none,rawInt L,.none]++(if pl.isEmpty then List.replicate 6 Value.none else pl)).toArray} BZ
 have sJ:1<vs.size:=(Array.getElem?_eq_some_iff.mp h1).1
 refine wpAny_setField B9 hd sJ ?_
 have FE:h₁.objs.size≠e:=Nat.ne_of_gt (Heap.lt_size BZ)
 have ED:=Obj.data_mapFields hd (·.setIfInBounds 1 (Value.ref h₁.objs.size))
 have EE:=Heap.get?_update_self (Obj.mapFields (·.setIfInBounds 1 (Value.ref h₁.objs.size))) B9 (Obj.isFreed_of_fields ED)
 have EF:=(Heap.get?_update_other (h₁.push { cls:=.type "traceback",dict:=none,data:=.fields ([Value.none,.ref L,.none,rawInt L,.none]++(if pl.isEmpty then List.replicate 6 Value.none else pl)).toArray})
  (Obj.mapFields (·.setIfInBounds 1 (Value.ref h₁.objs.size))) (Ne.symm FE)).trans (Heap.get?_push_size h₁ rfl)
 have keep:∀ b o,b≠e→h₁.get? b=some o→((h₁.push { cls:=.type "traceback",dict:=none,data:=.fields ([Value.none,.ref L,.none,rawInt L,.none]++(if pl.isEmpty then List.replicate 6 Value.none else pl)).toArray}).update e (Obj.mapFields (·.setIfInBounds 1 (Value.ref h₁.objs.size)))).get? b=some o:=fun b o A6 hb=>by
  rw [Heap.get?_update_other _ _ (Ne.symm A6)]
  exact Heap.get?_push_of_some _ hb
 have hz:h₁.objs.size=s.heap.objs.size:=v9.1
 refine h _ h₁.objs.size _ _ EE (by rw [hz];exact ao _) EF rfl ?_ fun b o A6 hb=>⟨fun hn=>keep b o A6 ((v9.2.1 b hn).trans hb),let ⟨sl,q⟩:=v9.2.2 b o hb;(bA sl (keep b _ A6 q))⟩
 simp only [List.size_toArray,List.length_append,List.length_cons,List.length_nil]
 lia
end
section
variable {prog:Program}{w:World}{A:Around}{E:Value→Shared→Prop}{s:Shared}
theorem ze{env:Env}{outer:List Env}{L e:Addr}{oe:Obj}{vs:Array Value}{Q:Unit→Shared→Prop}(A5:A.frames=some (env::outer))(hl:s.heap.FunFrames {} (env::outer))(hf:env.frame=some L)(he:s.heap.get? e=some oe)(hd:oe.data=.fields vs)(h1:vs[1]?=some .none)(h:∀ h' T EG oT jB ts,h'.get? e=some EG→EG.cls=oe.cls→EG.data=.fields jB→jB[1]?=some (.ref T)→T≠e→s.heap.get? T=none→h'.get? T=some oT→oT.data=.fields ts→3<ts.size →
   (∀ b o,b≠e→s.heap.get? b=some o→(b ∉ (env::outer).filterMap (·.frame)→h'.get? b=some o)∧∃ sl,h'.get? b=some { o with slots:=sl})→Q () {s with heap:=h'}) :
  wpAny (model prog w) A (noteFrame (.ref e) env) (fun Z s₂=>wpAny (model prog w) A (setFlight (.ref e) none) Q E s₂) E s:=by
 refine xo A5 hl hf he hd h1 fun h' T oT ts e1 e2 e3 e4 e5 k=>?_
 have FE:T≠e:=fun z=>by rw [z,he] at e2;cases e2
 have pJ:=Obj.data_mapFields hd (·.setIfInBounds 1 (Value.ref T))
 have sJ:1<vs.size:=(Array.getElem?_eq_some_iff.mp h1).1
 have Ih:(vs.setIfInBounds 1 (Value.ref T))[1]?=some (.ref T):=by exact Array.getElem?_setIfInBounds_self_of_lt sJ
 refine wpAny_setFlight_none e1 pJ Ih e3 e4 e5 ?_
 have dT:=Obj.data_mapFields e4 (·.setIfInBounds 3 Value.none)
 refine h _ T _ _ _ _ ((Heap.get?_update_other _ _ FE).trans e1) (Obj.cls_mapFields _ _) pJ Ih FE e2 (Heap.get?_update_self _ e3 (Obj.isFreed_of_fields dT)) dT (by simpa using e5) fun b o A6 hb=>?_
 have FG:T≠b:=fun z=>by rw [← z,e2] at hb;cases hb
 (refine AB (k b o A6 hb) ?_;intro q1 sl q2)
 exact (iPDP (fun hn=>(Heap.get?_update_other _ _ FG).trans (q1 hn)) sl ((Heap.get?_update_other _ _ FG).trans q2))
end
section
variable {prog:Program}{w:World}{A:Around}{E:Value→Shared→Prop}{s:Shared}{m it l:Addr}{i:Nat}{sl:Array (Option Value)}{items:Array Value}
theorem bound_next{Q:Unit→Shared→Prop}(h:Q () s):wpAny (model prog w) A (checkBoundCall "list_iterator.__next__" ⟨[.ref it],[]⟩) Q E s:=by
 unfold checkBoundCall
 repeat (any_goals (first | assumption | wp_step))
theorem oC{x:Value}{Q:Value→Shared→Prop}(ho:s.heap.get? m=some ⟨.type "method-wrapper",none,.fields #[.builtin "list_iterator.__next__",.ref it],sl⟩)(hit:s.heap.IsListIter it l i)(hl:s.heap.IsList l items)(hx:items[i]?=some x)(hQ:∀ h',h'.IsListIter it l (i+1)→Heap.SameBut it s.heap h'→Q x {s with heap:=h'}):wpAny (model prog w) A (call (.ref m) []) Q E s:=by
 (refine fj (id hit) ?_;intro o ko hc hd)
 (refine yt hl ?_;try clear hl;intro ol GY Z nl sy)
 refine wpAny_call (gB (.inr rfl) ho slot_listiter_next.plain entry_listiter_next (bound_next ?_))
 show wpAny _ _ (field (.ref it) 0 >>= _) _ _ s
 refine wpAny_bind (wpAny_field ko hd (x:=.ref l) rfl ?_)
 show wpAny _ _ (if (Value.ref l == Value.none)=true then _ else _) _ _ s
 rw [if_neg (show ¬ ((Value.ref l == Value.none)=true) from Bool.false_ne_true)]
 show wpAny _ _ (field (.ref it) 1 >>= _) _ _ s
 refine wpAny_bind (wpAny_field ko hd (x:=.int i 0) rfl ?_)
 show wpAny _ _ (seqItems? (.ref l) >>= _) _ _ s
 refine wpAny_bind (wpAny_seqItems GY sy ?_)
 simp only [Int.toNat_natCast,hx]
 refine wpAny_bind (wpAny_setField ko hd (by exact Nat.one_lt_succ_succ [].length) (wpAny_pure (hQ _ ?_ (Heap.SameBut.update ..))))
 exact (bq _ (Heap.get?_update_self _ ko (Obj.isFreed_of_fields (Obj.data_mapFields hd _))) ((Obj.cls_mapFields ..).trans hc)  (by
  rw [Obj.data_mapFields hd];simp [rawInt]))
theorem pV{Q:Value→Shared→Prop}(hh:A.handled=none)(ho:s.heap.get? m=some ⟨.type "method-wrapper",none,.fields #[.builtin "list_iterator.__next__",.ref it],sl⟩)(hit:s.heap.IsListIter it l i)(hl:s.heap.IsList l items)(hx:items[i]?=none)(hE:∀ h' e t,s.heap.get? e=none→h'.get? e=some { cls:=.type "StopIteration",data:=.fields #[.ref t,.none,.none,.none,.bool false,.none]}→(∀ b o,b≠it→s.heap.get? b=some o→h'.get? b=some o)→(∃ o,h'.get? it=some o)→E (.ref e) {s with heap:=h'}):wpAny (model prog w) A (call (.ref m) []) Q E s:=by
 (refine fj (id hit) ?_;intro o ko hc hd)
 (refine yt hl ?_;try clear hl;intro ol GY Z nl sy)
 refine wpAny_call (gB (.inr rfl) ho slot_listiter_next.plain entry_listiter_next (bound_next ?_))
 show wpAny _ _ (field (.ref it) 0 >>= _) _ _ s
 refine wpAny_bind (wpAny_field ko hd (x:=.ref l) rfl ?_)
 show wpAny _ _ (if (Value.ref l == Value.none)=true then _ else _) _ _ s
 rw [if_neg (show ¬ ((Value.ref l == Value.none)=true) from Bool.false_ne_true)]
 show wpAny _ _ (field (.ref it) 1 >>= _) _ _ s
 refine wpAny_bind (wpAny_field ko hd (x:=.int i 0) rfl ?_)
 show wpAny _ _ (seqItems? (.ref l) >>= _) _ _ s
 refine wpAny_bind (wpAny_seqItems GY sy ?_)
 simp only [Int.toNat_natCast,hx]
 refine wpAny_bind (wpAny_rule (wpAny_bind (wpAny_setField ko hd (by exact size_pos_of_not_empty rfl) ?_)))
 show wpAny _ _ (newExc (.type "StopIteration") [] >>= _) _ _ _
 refine wpAny_bind ?_
 simp only [newExc,newTuple]
 refine wpAny_bind (wpAny_newObj_type ?_ (by size_fits))
 refine wpAny_bind (m:=firstArgMember _ _) (wpAny_of_eq (a:=Value.none) (by first | rfl | (simp only [firstArgMember];rfl)) ?_)
 refine wpAny_newObj_type ?_ (by size_fits)
 unfold raiseNew
 refine wpAny_bind (wpAny_handled ?_)
 rw [show A.in1.handled=none from hh]
 refine wpAny_bind (wpAny_pure (wpAny_throw ?_))
 refine hE _ _ _ ?_ (Heap.get?_push_size _ rfl) (fun b o hb e=>Heap.get?_push_of_some _ (Heap.get?_push_of_some _ ((Heap.get?_update_other _ _ (Ne.symm hb)).trans e))) (bA _ (Heap.get?_push_of_some _ (Heap.get?_push_of_some _ (Heap.get?_update_self _ ko (Obj.isFreed_of_fields (Obj.data_mapFields hd _))))))
 refine dU ?_
 simp
end
section
variable {M:Model}{A:Around}{E:Value→Shared→Prop}{s:Shared}
theorem kU{B:String}{pos:Pos}{u:Addr}{vs:Array Value}{sl:Array (Option Value)}{first:List Value}{args:List (Bool×Sem Value)}{Q:Value→Shared→Prop}(hB:B="builtin_function_or_method"∨B="method-wrapper")(ez:args.any (·.1)=false)(h:wpAny M A (evalArgs (.ref u) true args []) (fun x s₁=>s₁.heap.get? u=some ⟨.type B,none,.fields vs,sl⟩∧wpAny M A (call (.ref u) (first++x.pos) x.kw) Q E s₁) E s):wpAny M A (callWith pos (.ref u) first args []) Q E s:=by
 unfold callWith
 refine wpAny_bind (wpAny_holding (wpAny_mono h (fun x s₁ h₁=>wpAny_bind (wpAny_standAt ?_)) fun Z Z x=>x))
 (refine aK h₁ ?_;try clear h₁;intro ho zb)
 rewrite [ez]
 refine wpAny_bind (m:=keeperOf (.ref u)) ?_
 unfold keeperOf
 refine wpAny_bind (wpAny_load ho ?_)
 have e1:(Value.type B != Value.type "method")=true:=by rcases hB with rfl | rfl <;> decide
 have e2:(Value.type B == Value.type "builtin_function_or_method"||Value.type B == Value.type "method-wrapper")=true:=by rcases hB with rfl | rfl <;> decide
 rewrite [e1]
 show wpAny M A (Sem.pure (if (Value.type B == Value.type "builtin_function_or_method"||Value.type B == Value.type "method-wrapper")=true then Keeper.machine else Keeper.caller)) _ _ _
 rewrite [e2]
 refine wpAny_pure ?_
 show wpAny M A (call (.ref u) (first++x.pos) x.kw >>= fun r=>holding [r] point >>= fun _=>pure r) _ _ _
 exact wpAny_bind (wpAny_mono zb (fun r s₂ hr=>wpAny_bind (wpAny_holding (wpAny_point (wpAny_pure hr)))) fun Z Z x=>x)
end
section
variable {X:Cx}{A:Around}{env:Env}{loc:Loc}{cells:Cells}
theorem xp:isSubtype (.type "StopIteration") (.type "BaseException")=pure true:=by rw [isSubtype_type];kernel_rfl
theorem xq:isSubtype (.type ((Manifest.find? "StopIteration").elim "type" fun x=>x.metatype)) (.type "tuple")=pure false:=by rw [isSubtype_type];kernel_rfl
theorem xr{own:Own}{s:Shared}{x:Str}{p:Pos}{mv:V}{Q:Value→Shared→Prop}{E:Value→Shared→Prop}(I:Inv X env own loc cells s)(hk:env.kindOf x=some .globalImplicit)(hl:X.glob.lookup x=some mv)(h:∀ v,RV own s.heap v mv→Q v s)(hd:autoParam ((x == ("__debug__":Str))=false) aDK) :
  wpAny (model X.prog X.w) A (eval (.Name x p) env) Q E s:=by
 (refine xDPP (X.yw x mv hl) ?_;intro v e r)
 have hg:=I.base.hg
 have hb:=I.base.hb
 rw [← I.ok.glob] at hg
 rw [← I.ok.blt] at hb
 rcases e with e | ⟨e1,e2⟩
 ·exact Calls.Name_function_global I.ok.kind hk (Calls.loadGlobal_global hg e (h v r.base)) hd
 ·exact Calls.Name_function_global I.ok.kind hk (Calls.loadGlobal_builtin hg e1 hb e2 (h v r.base)) hd
theorem uV{k:Nat}{x:Str}{px p2 p3 p4 p5 p6 np:Pos}{fe:Expr}{b0:Stmt}{Ca:List Stmt}{Ψ:MF→Loc→Cells→Prop}(hA:Rm X A k)(htop:∃ outer,A.frames=some (env::outer))(hx:env.kindOf x=some .local∨env.kindOf x=some .cell)(hS:X.glob.lookup ("StopIteration":Str)=some (.ty "StopIteration"))(JP:env.kindOf "StopIteration"=some .globalImplicit)(h:mE X A env (eval fe env) (fun f l c=>∃ m xs i,f=.ref m∧c m=some (.iter (.list xs) i)∧match xs[i]? with
   | some v=>Ψ .brk ((x,v)::l) (upd c m (some (.iter (.list xs) (i+1))))
   | none=>∀ e,mS X (A.mark (some (.ref e))) env (execs (b0::Ca) env) Ψ l (upd c m none)) loc cells)(he:autoParam (eval (.Call fe [] [] p2) env=(do let f ← eval fe env;callWith p2 f [] [] [])) aR)(hs:autoParam (swapsWith (.Call fe [] [] p2) (some (.Name x px)) p3.line env=pure false) aR) :
  mS X A env (exec (.Try [.Assign [.Name x px] (.Call fe [] [] p2) p3,.Break p4] [.ExceptHandler (some (.Name "StopIteration" np)) none (b0::Ca) p5] [] [] p6) env) Ψ loc cells:=fun own s I=>by
 refine wpAny_Try_except (wpAny_execs_cons (wpAny_Assign_Name ?_ hs))
 rw [he]
 refine wpAny_bind (a9 (h.use I fun aL l1 c1 f v1 s1 I1 r1 x1 aV=>dS aV fun m xs i ef hc h1=>?_))
 subst ef
 refine RV.e0 r1 rfl ?_
 (refine wQ (I1.base.cell m _ hc) ?_;intro om it l em oi ne hit rx)
 (refine aG rx.cM ?_;intro l' d vs n sl el ho hn rs)
 cases el
 have hl:s1.heap.IsList l vs:=(bt _ ho rfl n rfl)
 refine kU (.inr rfl) rfl (PyProof.Rows.evalArgs_none ⟨em,?_⟩)
 have hz:vs.size=xs.length:=by simpa using rs.1
 cases sG:xs[i]? with
 | some v =>
  rw [sG] at h1
  dsimp only at h1
  have iE:i<xs.length:=(List.getElem?_eq_some_iff.mp sG).1
  refine oC (x:=vs[i]) em hit hl (Array.getElem?_eq_getElem (by exact Nat.lt_of_lt_of_eq iE (id (Eq.symm hz)))) fun h' uQ uf=>?_
  have rv:RV aL s1.heap vs[i] v:=rs.2 i _ _ (by simp [hz,iE]) sG
  have kp:∀ b o,aL b≠some m→s1.heap.get? b=some o→h'.get? b=some o:=fun b o q e=>(uf.2 b (fun z=>q (z▸oi))).trans e
  have th:∀ b o,s1.heap.get? b=some o→∃ o',h'.get? b=some o':=fun b o e=>by
   by_cases z:b=it
   ·(refine xDPP uQ ?_;try clear uQ;intro o' e' Z);exact (bA o' (z▸e'))
   ·exact (bA o ((uf.2 b z).trans e))
  have Ii:∀ v x,RV aL s1.heap v x→RV aL h' v x:=fun v x r=>r.mono (fun b o e q Z=>kp b o (by rw [q];simp) e) fun Z Z Z e=>e
  have B:=I1.base.cellSet (own':=aL) (h':=h') (t:=s1.toks) (c':=.iter (.list xs) (i+1)) (fun Z Z Z=>rfl) (fun b d e n=>(n e).elim) kp th om (cF it l ((uf.2 m (fun z=>ne z.symm)).trans em) oi ne uQ (Ii _ _ rx))
  have xt:Ext qR aL c1 s1.heap aL (upd c1 m (some (.iter (.list xs) (i+1)))) h':=cL (s:=s1) (fun Z Z Z=>rfl) kp th (.inl (Cell.dn hc rfl))
  have I2:Inv X env aL l1 (upd c1 m (some (.iter (.list xs) (i+1)))) { s1 with heap:=h',toks:=s1.toks}:=⟨B,I1.ok,I1.fr.ext xt⟩
  refine cJ I2 (Ii _ _ rv) hx fun s3 I3 x3=>?_
  exact wpAny_execs_cons (wpAny_Break ⟨aL,_,_,.brk,I3,.brk,x1.trans (xt.gI.trans x3),h1⟩)
 | none =>
  rw [sG] at h1
  dsimp only at h1
  have Ij:xs.length≤i:=by
   rcases Nat.lt_or_ge i xs.length with q | q
   ·rw [List.getElem?_eq_getElem q] at sG;cases sG
   ·exact q
  refine pV hA.hh em hit hl (Array.getElem?_eq_none_iff.mpr (by exact le_of_eq_of_le hz Ij)) fun h2 e t en ee kp JQ=>?_
  (refine xDPP hA.fr ?_;intro envs A5 GZ)
  (refine ba htop ?_;try clear htop;intro outer uG)
  rw [A5] at uG
  cases uG
  obtain ⟨_,L,hL,hf⟩:=GZ env List.mem_cons_self
  have B0:Base X aL (upd c1 m none) s1:=I1.base.fA fun x q=>(nomatch q)
  have x0:Ext qR aL c1 s1.heap aL (upd c1 m none) s1.heap:=gY hc rfl
  have ite:s1.heap.get? it=none→False:=fun q=>by (refine xDPP hit ?_;try clear hit;intro o e' Z);rw [q] at e';cases e'
  have hP:∀ b,b=it→∃ m',aL b=some m'∧m'≠b∧(upd c1 m none) m'=none:=fun b q=>⟨m,q▸oi,fun z=>ne (by rw [z,q]),ag _ _ _⟩
  have zf:=xn GZ
  have G1:v8 [] (fun b=>b=it) s1.heap h2:=fun b o eo=>⟨fun nb=>(iPDP (fun Z=>kp b o nb eo) o.slots (kp b o nb eo)),by
   by_cases z:b=it
   ·exact z▸JQ
   ·exact (bA o (kp b o z eo))⟩
  (refine aK (B0.zd (t:=s1.toks) (by simp) hP G1) ?_;intro B2 x2)
  refine ze A5 (oB B2 GZ) hf ee rfl rfl fun h3 T EG oT jB ts e1 e2 e3 e4 e5 e6 e7 e8 e9 k3=>?_
  dsimp only at e6 k3
  have nT:s1.heap.get? T=none:=by
   cases q:s1.heap.get? T with
   | none=>rfl
   | some o =>
    (refine ba ((G1 T o q).2) ?_;intro o' q')
    rw [e6] at q';cases q'
  refine wpAny_handleBy_builtin (X:="StopIteration") (T:="StopIteration") (b:=true) xp xq isSubtype_stop ?_
  have gl:X.glob.lookup ("StopIteration":Str)=some (.ty "StopIteration"):=hS
  have Ik:v8 ((env::outer).filterMap (·.frame)) (fun b=>b=it) s1.heap h3:=fun b o eo=>by
   have A6:b≠e:=fun z=>by rw [z,en] at eo;cases eo
   have mk:∃ o2,h2.get? b=some o2:=(G1 b o eo).2
   refine ⟨fun nb=>?_,let ⟨o2,q2⟩:=mk;let ⟨_,q⟩:=(k3 b o2 A6 q2).2;⟨_,q⟩⟩
   have q2:=kp b o nb eo
   exact k3 b o A6 q2
  (refine aK (B0.zd (t:=s1.toks) zf hP Ik) ?_;intro B3 x3)
  have I3:Inv X env aL l1 (upd c1 m none) { s1 with heap:=h3,toks:=s1.toks}:=⟨B3,I1.ok,(I1.fr.ext x0).ext x3⟩
  refine xr (A:=A.mark (some (.ref e))) I3 JP gl fun v r4=>?_
  refine RV.e0 r4 rfl ?_
  refine ⟨rfl,(iDPP EG e1 e2),?_⟩
  rw [if_pos rfl]
  refine wpAny_setFlight_none e1 e3 e4 e7 e8 e9 ?_
  have JR:v8 ((env::outer).filterMap (·.frame)) (fun b=>b=it) s1.heap (h3.update T (Obj.mapFields (·.setIfInBounds 3 .none))):=fun b o eo=>by
   have FG:T≠b:=fun z=>by rw [← z,nT] at eo;cases eo
   have G3:∀ o,h3.get? b=some o→(h3.update T (Obj.mapFields (·.setIfInBounds 3 .none))).get? b=some o:=fun o e=>(Heap.get?_update_other _ _ FG).trans e
   (refine AB (Ik b o eo) ?_;intro q1 o2 q2)
   exact (iPDP (fun nb=>⟨fun nf=>G3 _ ((q1 nb).1 nf),let ⟨sl,q⟩:=(q1 nb).2;(bA sl (G3 _ q))⟩) o2 (G3 _ q2))
  (refine aK (B0.zd (t:=s1.toks) zf hP JR) ?_;intro B4 x4)
  have I4:Inv X env aL l1 (upd c1 m none) { s1 with heap:=h3.update T (Obj.mapFields (·.setIfInBounds 3 .none)),toks:=s1.toks}:=⟨B4,I1.ok,(I1.fr.ext x0).ext x4⟩
  refine a9 (eg.use (h1 e) I4 fun uD l5 c5 b v5 s5 I5 r5 x5 h5=>?_)
  exact ⟨uD,l5,c5,b,I5,r5,x1.trans (x0.gI.trans (x4.gI.trans x5)),h5⟩
end
section
variable {X:Cx}{A:Around}{env:Env}{loc:Loc}{cells:Cells}
theorem ta{e:Expr}{np cp ap:Pos}{Ψ:V→Loc→Cells→Prop}(hk:env.kindOf "iter"=some .globalImplicit)(hl:X.glob.lookup ("iter":Str)=some (.bi "iter"))(h:mE X A env (eval e env) (fun v l c=>∃ xs,v=.list xs∧∀ m,c m=none→Ψ (.ref m) l (upd c m (some (.iter (.list xs) 0)))) loc cells)(ug:autoParam (starEach [e] env=[(false,eval e env)]) aR)(he:autoParam (eval (.Attribute (.Call (.Name "iter" np) [e] [] cp) "__next__" ap) env=(do let o ← eval (.Call (.Name "iter" np) [e] [] cp) env;standAt ap.atName;let r ← holding [o] (getAttr o "__next__" true);letTemporaryGo (.Call (.Name "iter" np) [e] [] cp) o r;pure r)) aR) :
  mE X A env (eval (.Attribute (.Call (.Name "iter" np) [e] [] cp) "__next__" ap) env) Ψ loc cells:=fun own s I=>by
 refine Attribute_any_ (wpAny_Call_NameR ?_) he
 refine (ey (Ψ:=fun v l c=>v=.bi "iter"∧l=loc∧c=cells) hk hl ⟨rfl,rfl,rfl⟩).use I fun aL l1 c1 b v1 s1 I1 r1 x1 h1=>?_
 (refine aP h1 ?_;try clear h1;intro aV;subst aV;intro bj;subst bj;intro bH;subst bH)
 refine iM (own:=aL) (f:=.bi "iter") (rest:=[]) trivial r1 ?_ ug rfl
 refine RV.e0 r1 rfl ?_
 refine (af (rest:=[]) (Ψ:=fun as l c=>∃ xs,as=[V.list xs]∧∀ m,c m=none→Ψ (.ref m) l (upd c m (some (.iter (.list xs) 0)))) (h.mono fun a l c fu=>xDPP fu fun xs q1 q2=>a_nil (iDPP xs (by rw [q1]) q2)) ug).use I1 fun aI l2 c2 as vs s2 I2 r2 x2 gp=>xDPP gp fun xs ea hΨ=>⟨I2.base.K,?_⟩
 subst ea
 (refine xDPP r2.one ?_;intro v cw;subst cw;intro rv)
 (refine aG rv.cM ?_;intro l d ws n sl cR;subst cR;intro ho hn rs)
 refine Calls.call_function_entry (by decide +kernel) (by decide +kernel) PySem.W.kdk_entry_iter (PySem.W.kdk_args_iter _) ?_
 unfold Builtin.«iter»
 refine wpAny_bind (m:=someArgs "iter" 1 2 _) (wpAny_of_eq (a:=[Value.ref l]) (by first | rfl | kernel_rfl) ?_)
 show wpAny _ _ (pyIter (.ref l) >>= _) _ _ _
 refine wpAny_bind (wpAny_pyIter_list (bt _ ho rfl n rfl) (wpAny_pure (iDPP _ rfl ?_)))
 refine rJ (Heap.get?_push_size _ rfl) ?_
 have z1:(s2.heap.push { cls:=.type "list_iterator",data:=.fields #[.ref l,.int 0 0]}).objs.size=s2.heap.objs.size+1:=Heap.size_push ..
 rw [z1]
 have kp:∀ b o,s2.heap.get? b=some o→((s2.heap.push { cls:=.type "list_iterator",data:=.fields #[.ref l,.int 0 0]}).push { cls:=.type "method-wrapper",data:=.fields #[.builtin "list_iterator.__next__",.ref s2.heap.objs.size]}).get? b=some o:=fun b o e=>Heap.get?_push_of_some _ (Heap.get?_push_of_some _ e)
 have ei:((s2.heap.push { cls:=.type "list_iterator",data:=.fields #[.ref l,.int 0 0]}).push { cls:=.type "method-wrapper",data:=.fields #[.builtin "list_iterator.__next__",.ref s2.heap.objs.size]}).get? s2.heap.objs.size=some { cls:=.type "list_iterator",data:=.fields #[.ref l,.int 0 0]}:=Heap.get?_push_of_some _ (Heap.get?_push_size _ rfl)
 have em:((s2.heap.push { cls:=.type "list_iterator",data:=.fields #[.ref l,.int 0 0]}).push { cls:=.type "method-wrapper",data:=.fields #[.builtin "list_iterator.__next__",.ref s2.heap.objs.size]}).get? (s2.heap.objs.size+1)=some { cls:=.type "method-wrapper",data:=.fields #[.builtin "list_iterator.__next__",.ref s2.heap.objs.size]}:=by rw [← z1];exact Heap.get?_push_size _ rfl
 generalize (s2.heap.push { cls:=.type "list_iterator",data:=.fields #[.ref l,.int 0 0]}).push { cls:=.type "method-wrapper",data:=.fields #[.builtin "list_iterator.__next__",.ref s2.heap.objs.size]}=h4 at kp ei em ⊢
 have n0:s2.heap.get? s2.heap.objs.size=none:=ao _
 have n1:s2.heap.get? (s2.heap.objs.size+1)=none:=dU (by exact Nat.le_add_right s2.heap.objs.size 1)
 have f0:=I2.base.fresh n0
 have f1:=I2.base.fresh n1
 obtain ⟨own',ko⟩:∃ own':Own,own'=fun b=>if b=s2.heap.objs.size∨b=s2.heap.objs.size+1 then some (s2.heap.objs.size+1) else aI b:=(bA _ rfl)
 have oe:∀ b o,s2.heap.get? b=some o→own' b=aI b:=fun b o e=>by
  rw [ko];dsimp only
  rw [if_neg (fun q=>q.elim (fun z=>by rw [z,n0] at e;cases e) (fun z=>by rw [z,n1] at e;cases e))]
 have oi:own' s2.heap.objs.size=some (s2.heap.objs.size+1):=by rw [ko];simp
 have om:own' (s2.heap.objs.size+1)=some (s2.heap.objs.size+1):=by rw [ko];simp
 have th:∀ b o,s2.heap.get? b=some o→∃ o',h4.get? b=some o':=fun b o e=>(bA o (kp b o e))
 have JS:RV own' h4 (.ref l) (.list xs):=(RV.jR ho hn rs).mono (fun b o e Z Z=>kp b o e) fun b o e q=>by rw [oe b o e];exact q
 have B:=I2.base.cellSet (own':=own') (h':=h4) (t:=s2.toks+1) (c':=.iter (.list xs) 0) oe (fun b d e n=>by
  rw [ko] at e;dsimp only at e
  split at e
  ·rename_i q
   rcases q with rfl | rfl
   ·exact (iPDP f0.2 _ ei)
   ·exact (iPDP f1.2 _ em)
  ·exact (n e).elim) (fun b o Z e=>kp b o e) th om (cF s2.heap.objs.size l em oi (Nat.ne_of_lt (Nat.lt_succ_self _)) (bq _ ei rfl rfl) JS)
 have xt:Ext qR aI c2 s2.heap own' (upd c2 (s2.heap.objs.size+1) (some (.iter (.list xs) 0))) h4:=cL (s:=s2) oe (fun b o Z e=>kp b o e) th (.inr n1)
 exact ⟨own',l2,_,.ref _,⟨B,I2.ok,I2.fr.ext xt⟩,.ref _,x1.trans (x2.trans xt.gI),hΨ _ (I2.base.fZ n1)⟩
end
section
variable {X:Cx}{A:Around}{env:Env}{loc:Loc}{cells:Cells}{own:Own}{s:Shared}
theorem A7{f:Str}{np pos:Pos}{fv:V}{Ψ:V→Loc→Cells→Prop}(hk:env.kindOf f=some .globalImplicit)(hl:X.glob.lookup f=some fv)(F6:Keeps X fv)(h:aE X A fv [] (fun r c'=>Ψ r loc c') cells)(hd:autoParam ((f == ("__debug__":Str))=false) aDK) :
  mE X A env (eval (.Call (.Name f np) [] [] pos) env) Ψ loc cells:=fun own s I=>by
 refine wpAny_Call_NameR ?_
 refine (ey (Ψ:=fun v l c=>v=fv∧l=loc∧c=cells) hk hl ⟨rfl,rfl,rfl⟩ hd).use I fun aL cT a8 b v1 s1 I1 r1 x1 h1=>?_
 (refine aP h1 ?_;try clear h1;intro aV;subst aV;intro bj;subst bj;intro bH;subst bH)
 refine jT (first:=[]) F6 r1 (spliced_none ⟨I1.base.K,?_⟩) rfl
 exact (h v1 []).pC I1 ⟨r1,.nil⟩ fun cZ gq c v3 s3 I3 r3 x3 h3=>⟨cZ,cT,gq,c,I3,r3,x1.trans x3,h3⟩
theorem zg{k:Nat}{dv kv:Value}{a:Addr}{qual:Str}{st:Stmt}{names:List Str}{as:List V}{Ψ:V→Cells→Prop}(F:Ib X a qual st dv kv)(hA:Rm X A (k+1))(hb:∀ doc pm an cdv ct,∀ vs:List Value,vs.length=as.length→bindArgs (PySem.W.fnOf (fnName st) qual (bG st) (bI st) (au st) dv kv doc pm an cdv ct) ⟨vs,[]⟩=pure (names.zip vs))(h:∀ L cdv A',Rm (X.push L) A' k→(∃ outer,A'.frames=some (dF qual (au st) L a cdv::outer))→mS (X.push L) A' (dF qual (au st) L a cdv) (execs (bI st) (dF qual (au st) L a cdv)) (Back Ψ) (names.zip as) cells)(dc:autoParam ((au st).kind=.function) aR)(wW:autoParam ((au st).isCoroutine=false) aR)(nX:autoParam ((au st).isGenerator=false) aR)(mq:autoParam (names.Nodup) aDK)(fz:autoParam ((au st).names.all (fun x=>x.2 != .free)=true) aDK)(jQ:autoParam (names.all (fun x=>(au st).names.lookup x == some .local||(au st).names.lookup x == some .cell)=true) aDK) :
  fK X A (.ref a) as Ψ cells:=by
 (refine nv F ?_;try clear F;intro doc pm an cdv ct F)
 intro own s fv vs I rf rs R hR
 refine RV.e0 rf rfl ?_
 (refine qg F.at_ ?_;intro oc od DQ ho)
 refine codeAny_call_function (fd:=PySem.W.fnOf (fnName st) qual (bG st) (bI st) (au st) dv kv doc pm an cdv ct) (by have:=hA.dep;exact Nat.lt_of_add_right_lt this) (I.K _ _ ho) rfl wW nX rfl (PySem.W.codeRec_of I.K F.code) ?_
 rw [hb doc pm an cdv ct vs rs.1]
 refine wpAny_pure ?_
 refine gM hA I rs dc mq fz jQ (fun L=>h L cdv _ (hA.deeper _ (by show (au st).kind≠_;rw [dc];decide) rfl) ?_) fun own' c s' mv v p r b x=>hR own' c mv v s' b r x p
 (refine xDPP hA.fr ?_;intro envs e Z)
 exact ⟨envs,by show A.frames.map _=_;rw [e];rfl⟩
end
section
variable {X:Cx}{A:Around}{env:Env}{loc:Loc}{cells:Cells}{own:Own}{s:Shared}
theorem xu{k:Nat}{dv kv:Value}{a:Addr}{qual:Str}{st:Stmt}{names:List Str}{as:List V}{Ψ:V→Cells→Prop}(F:Ib X a qual st dv kv)(hA:Rm X A (k+1))(hb:∀ doc pm an cdv ct,∀ (vs:List Value) (A:Around) (s:Shared) (Q:List (Str×Value)→Shared→Prop) (E:Value→Shared→Prop),vs.length=as.length→X.K.In s.heap→Q (names.zip vs) s→wpAny (model X.prog X.w) A (bindArgs (PySem.W.fnOf (fnName st) qual (bG st) (bI st) (au st) dv kv doc pm an cdv ct) ⟨vs,[]⟩) Q E s)(h:∀ L cdv A',Rm (X.push L) A' k→mS (X.push L) A' (dF qual (au st) L a cdv) (execs (bI st) (dF qual (au st) L a cdv)) (Back Ψ) (names.zip as) cells)(dc:autoParam ((au st).kind=.function) aR)(wW:autoParam ((au st).isCoroutine=false) aR)(nX:autoParam ((au st).isGenerator=false) aR)(mq:autoParam (names.Nodup) aDK)(fz:autoParam ((au st).names.all (fun x=>x.2 != .free)=true) aDK)(jQ:autoParam (names.all (fun x=>(au st).names.lookup x == some .local||(au st).names.lookup x == some .cell)=true) aDK) :
  fK X A (.ref a) as Ψ cells:=by
 (refine nv F ?_;try clear F;intro doc pm an cdv ct F)
 intro own s fv vs I rf rs R hR
 refine RV.e0 rf rfl ?_
 (refine qg F.at_ ?_;intro oc od DQ ho)
 refine codeAny_call_function (fd:=PySem.W.fnOf (fnName st) qual (bG st) (bI st) (au st) dv kv doc pm an cdv ct) (by have:=hA.dep;exact Nat.lt_of_add_right_lt this) (I.K _ _ ho) rfl wW nX rfl (PySem.W.codeRec_of I.K F.code) ?_
 refine hb doc pm an cdv ct vs _ s _ _ rs.1 I.K ?_
 exact gM hA I rs dc mq fz jQ (fun L=>h L cdv _ (hA.deeper _ (by show (au st).kind≠_;rw [dc];decide) rfl)) fun own' c s' mv v p r b x=>hR own' c mv v s' b r x p
end
section
open PySem.W (findIn findObj typeIn keepIn hasDictIn specialIn takesIn)
structure gC(K:PySem.W.Frag)(C:Addr)(name:Str)(f:Addr):Prop where
 hd:hasDictIn K C=true
 at_:findIn K (.ref C) name=some (some (.ref f))
 get:specialIn K (.ref f) "__get__"=some (some (.builtin "function.__get__"))
 takes:takesIn K (.ref f)=some false
 C8:PySem.W.copiedNames.contains name=false
 typ:typeIn K (.ref f)=some (.type "function")
 func:∃ oc od fd sl,K.lookup f=some ⟨oc,od,.func fd,sl⟩
section
variable {X:Cx}{A:Around}{env:Env}{loc:Loc}{cells:Cells}{own:Own}{s:Shared}{Ψ:V→Cells→Prop}
noncomputable abbrev jI (f a:Addr):Obj:={ cls:=.type "method",data:=.fields #[.ref f,.ref a]}
theorem wa{a C f:Addr}{fs:List (Str×V)}{name:Str}{Q:Value→Shared→Prop}{E:Value→Shared→Prop}(I:Base X own cells s)(hc:cells a=some (.inst C fs))(hl:fs.lookup name=none)(K:kP X.K C)(B:gC X.K C name f)(h:Q (.ref s.heap.objs.size) {s with heap:=s.heap.push (jI f a),toks:=s.toks+1}):wpAny (model X.prog X.w) A (getAttr (.ref a) name true) Q E s:=by
 (refine eH (nE I hc) ?_;intro d m sl od IA oa odd ne ns lk vals)
 exact PySem.W.get_bind I.K IA K.get (PySem.W.findObj_fn B.hd B.at_ B.get B.takes B.C8 (by rw [lk,(vals name).1 hl])) K.noAttr
  (wpAny_call (PySem.W.fn_get (s:={s with toks:=s.toks+1}) I.K B.typ (PySem.W.handed_on rfl h)))
theorem tb{M:Model}{h:Heap}{q f a:Addr}{oc od fd sl}(hq:h.get? q=some (jI f a))(hf:h.get? f=some ⟨oc,od,.func fd,sl⟩):PySem.W.Looks M h (keeperOf (.ref q)) .boundFrame:=by
 intro A Q E s kp hk
 unfold keeperOf
 refine wpAny_bind (wpAny_load (kp _ _ hq) ?_)
 dsimp only
 rw [if_neg (by decide)]
 show wpAny _ _ (load f >>= _) _ _ _
 exact wpAny_bind (wpAny_load (kp _ _ hf) (wpAny_pure hk))
theorem wb{own':Own}{cells':Cells}{s':Shared}{q:Addr}{o:Obj}(I:Inv X env own loc cells s)(hn:s.heap.get? q=none){h1:Heap}(e:h1.get? q=some o)(hd:∀ es n,o.data≠.dict es n)(hc:o.cls≠.none)(x:Ext (Fa env) own cells h1 own' cells' s'.heap):s'.heap.get? q=some o:=by
 have nF:¬ Fa env q:=fun f=>by
  rcases f with z | ⟨y,hk,hl⟩
  ·obtain ⟨m,o',_,_,e',_⟩:=I.fr.ns
   rw [← z,hn] at e';cases e'
  ·(refine xDDPPP (I.fr.iA y (.inl hk)) ?_;intro c v0 l aV Z;refine xDPP aV ?_;clear aV;intro o' e' Z)
   rw [hl] at l;cases l
   rw [hn] at e';cases e'
 (refine xDPP (x.keep q o e (I.base.fresh hn).1 nF (fun t=>hc t.1)) ?_;intro o' e' lk)
 rw [e',lk.2.2 hd]
theorem xw{o:Expr}{name:Str}{apos pos:Pos}{e:Expr}{args:List Expr}{Ψ:V→Loc→Cells→Prop}(h:mE X A env (eval o env) (fun ov l c=>∃ a C fs f,ov=.ref a∧c a=some (.inst C fs)∧fs.lookup name=none∧kP X.K C∧gC X.K C name f ∧
   yy X A env (spliced (backTo pos (starEach (e::args) env))) (fun as l' c'=>fK X A (.ref f) (.ref a::as) (fun r c2=>Ψ r l' c2) c') l c) loc cells)(AK:autoParam ((backTo pos (starEach args env)).any (·.1)=true) aR)(hs:autoParam (backTo pos (starEach (e::args) env)=(false,eval e env)::backTo pos (starEach args env)) aR)(he:autoParam (eval (.Call (.Attribute o name apos) (e::args) [] pos) env=(do let ov ← eval o env;standAt apos.atName;let (f,first) ← holding [ov] (do pure (← getAttr ov name true,[]));callWith pos f first (backTo pos (starEach (e::args) env)) [])) aR) :
  mE X A env (eval (.Call (.Attribute o name apos) (e::args) [] pos) env) Ψ loc cells:=fun own s I=>by
 rw [he]
 refine wpAny_bind (h.use I fun aL l1 c1 ov v1 s1 I1 r1 x1 bj=>mh bj fun a C fs f ea hc hl K B h1=>wpAny_bind (wpAny_standAt (wpAny_bind (wpAny_holding (wpAny_bind ?_)))))
 subst ea
 refine RV.e0 r1 rfl ?_
 refine wa I1.base hc hl K B (wpAny_pure ?_)
 have hn:=ao s1.heap
 have kp:∀ b o,s1.heap.get? b=some o→(s1.heap.push (jI f a)).get? b=some o:=fun b o e=>Heap.get?_push_of_some _ e
 have I2:Inv X env aL l1 c1 { s1 with heap:=s1.heap.push (jI f a),toks:=s1.toks+1}:=⟨I1.base.keeps kp,I1.ok,I1.fr.ext (cells:=c1) (cells':=c1) (.of_keeps kp)⟩
 (refine nQ B.func ?_;intro oc od fd sl hf)
 dsimp only
 rw [hs] at h1 ⊢
 refine PySem.W.ks_call (P:=fun h=>X.K.In h∧h.get? s1.heap.objs.size=some (jI f a)) (by show (false||_)=true;rw [AK];rfl) (fun h Y=>(iDPP _ (.inr (.inr rfl)) (tb Y.2 (Y.1 _ _ hf)))) (Calls.evalArgs_plain ?_)
 refine eg.use h1 I2 fun cZ l3 c3 as vs s3 I3 r3 x3 h3=>?_
 have hq:=wb (o:=jI f a) I1 hn (Heap.get?_push_size _ rfl) (fun es n=>by simp) (fun z=>nomatch z) x3
 refine ⟨⟨I3.base.K,hq⟩,wpAny_call (PySem.ks_codeAny_call_bound hq ?_)⟩
 refine h3 cZ s3 (.ref f) (.ref a::vs) I3.base (.ref f) (.cons (.ref a) r3) _ fun dw c4 b v4 s4 B4 r4 x4 p4=>?_
 exact ⟨dw,l3,c4,b,⟨B4,I3.ok,I3.fr.ext x4⟩,r4,x1.trans ((Ext.of_keeps kp).trans (x3.trans x4.gI)),p4⟩
theorem uW{o:Expr}{name:Str}{apos pos:Pos}{e:Expr}{q:Pos}{Ψ:V→Loc→Cells→Prop}(h:mE X A env (eval o env) (fun ov l c=>∃ a C fs f,ov=.ref a∧c a=some (.inst C fs)∧fs.lookup name=none∧kP X.K C∧gC X.K C name f ∧
   mE X A env (eval e env) (fun v l' c'=>∃ xs,(v=.list xs∨v=.tuple xs)∧xs.length≤sizeLine∧fK X A (.ref f) (.ref a::xs) (fun r c2=>Ψ r l' c2) c') l c) loc cells)(hs:autoParam (backTo pos (starEach [.Starred e q] env)=[(true,(do let v ← eval e env;standAt pos;pure v))]) aR)(he:autoParam (eval (.Call (.Attribute o name apos) [.Starred e q] [] pos) env=(do let ov ← eval o env;standAt apos.atName;let (f,first) ← holding [ov] (do pure (← getAttr ov name true,[]));callWith pos f first (backTo pos (starEach [.Starred e q] env)) [])) aR) :
  mE X A env (eval (.Call (.Attribute o name apos) [.Starred e q] [] pos) env) Ψ loc cells:=fun own s I=>by
 rw [he]
 refine wpAny_bind (h.use I fun aL l1 c1 ov v1 s1 I1 r1 x1 bH=>mh bH fun a C fs f ea hc hl K B h1=>wpAny_bind (wpAny_standAt (wpAny_bind (wpAny_holding (wpAny_bind ?_)))))
 subst ea
 refine RV.e0 r1 rfl ?_
 refine wa I1.base hc hl K B (wpAny_pure ?_)
 have hn:=ao s1.heap
 have kp:∀ b o,s1.heap.get? b=some o→(s1.heap.push (jI f a)).get? b=some o:=fun b o e=>Heap.get?_push_of_some _ e
 have I2:Inv X env aL l1 c1 { s1 with heap:=s1.heap.push (jI f a),toks:=s1.toks+1}:=⟨I1.base.keeps kp,I1.ok,I1.fr.ext (cells:=c1) (cells':=c1) (.of_keeps kp)⟩
 (refine nQ B.func ?_;intro oc od fd sl hf)
 dsimp only
 rw [hs]
 refine PySem.W.ks_call (P:=fun h=>X.K.In h∧h.get? s1.heap.objs.size=some (jI f a)) rfl (fun h Y=>(iDPP _ (.inr (.inr rfl)) (tb Y.2 (Y.1 _ _ hf)))) (PySem.W.ks_lone ?_)
 refine eg.use h1 I2 fun cZ l3 c3 av v s3 I3 r3 x3 cw=>fj cw fun xs ha hz h3=>vW I3.base r3 ha hz fun h' vs EH rs=>?_
 have JT:=wb (o:=jI f a) I1 hn (Heap.get?_push_size _ rfl) (fun es n=>by simp) (fun z=>nomatch z) x3
 have hq:=EH _ _ JT
 have I4:Inv X env cZ l3 c3 { s3 with heap:=h'}:=⟨I3.base.keeps EH,I3.ok,I3.fr.ext (cells:=c3) (cells':=c3) (.of_keeps EH)⟩
 refine ⟨⟨I4.base.K,hq⟩,wpAny_call (PySem.ks_codeAny_call_bound hq ?_)⟩
 refine h3 cZ { s3 with heap:=h'} (.ref f) (.ref a::vs) I4.base (.ref f) (.cons (.ref a) (rs.mono fun Z Z q=>q.keeps EH)) _ fun dw c4 b v4 s4 B4 r4 x4 p4=>?_
 exact ⟨dw,l3,c4,b,⟨B4,I4.ok,I4.fr.ext x4⟩,r4,x1.trans ((Ext.of_keeps kp).trans (x3.trans ((Ext.of_keeps EH).trans x4.gI))),p4⟩
end
end
namespace L2
noncomputable abbrev st (k:Nat):Stmt:=Challenge.pw_in0223_02.main.body.getD k default
noncomputable def takes:=st 20
noncomputable def over:=st 21
noncomputable def under:=st 22
noncomputable def levels:=st 23
noncomputable def jm:=st 24
noncomputable def rounds:=st 25
noncomputable def handed:=st 26
noncomputable def grouped:=st 27
noncomputable def jY:=st 28
noncomputable def FH:=st 29
noncomputable def quot:=st 12
noncomputable def DV:=st 16
noncomputable def trans:=st 18
noncomputable abbrev bl (glob:List (Str×V)) (n:Str) (v:V):Prop:=glob.lookup n=some v
noncomputable def cE (glob:List (Str×V)) (K:PySem.W.Frag):Prop :=
 (bl glob "enumerate" (.ty "enumerate")) ∧
 (bl glob "range" (.ty "range")) ∧
 (bl glob "zip" (.ty "zip")) ∧
 (bl glob "list" (.ty "list")) ∧
 (bl glob "tuple" (.ty "tuple")) ∧
 (bl glob "len" (.bi "len")) ∧
 (bl glob "max" (.bi "max")) ∧
 (bl glob "min" (.bi "min")) ∧
 (bl glob "sum" (.bi "sum")) ∧
 (bl glob "sorted" (.bi "sorted")) ∧
 (bl glob "_law_over" (.ref 209)) ∧
 (bl glob "_law_under" (.ref 214)) ∧
 (bl glob "_law_levels" (.ref 221)) ∧
 (bl glob "_law_heights" (.ref 226)) ∧
 (bl glob "_law_rounds" (.ref 231)) ∧
 (bl glob "_law_handed" (.ref 236)) ∧
 (bl glob "_law_grouped" (.ref 241)) ∧
 (bl glob "_law_dotted" (.ref 246)) ∧
 (bl glob "_law_takes" (.ref 204)) ∧
 (bl glob "quotedata" (.ref 175)) ∧
 (bl glob "_translate" (.ref 199)) ∧
 (bl glob "twin_re_1_smtplib" (.ref 163)) ∧
 (bl glob "_twin_re_2" (.ref 168)) ∧
 (bl glob "CRLF" (.str "\r\n")) ∧
 (ng K 163 CD) ∧
 (ng K 168 CN) ∧
 (b9 K 209 "_law_over" over) ∧
 (b9 K 214 "_law_under" under) ∧
 (b9 K 221 "_law_levels" levels) ∧
 (b9 K 226 "_law_heights" jm) ∧
 (b9 K 231 "_law_rounds" rounds) ∧
 (b9 K 236 "_law_handed" handed) ∧
 (b9 K 241 "_law_grouped" grouped) ∧
 (b9 K 246 "_law_dotted" jY) ∧
 (b9 K 204 "_law_takes" takes) ∧
 (b9 K 175 "quotedata" quot) ∧
 (b9 K 199 "_translate" trans)
theorem cE.of{glob:List (Str×V)}{K:PySem.W.Frag}(h:(bl glob "enumerate" (.ty "enumerate")) ∧
 (bl glob "range" (.ty "range")) ∧
 (bl glob "zip" (.ty "zip")) ∧
 (bl glob "list" (.ty "list")) ∧
 (bl glob "tuple" (.ty "tuple")) ∧
 (bl glob "len" (.bi "len")) ∧
 (bl glob "max" (.bi "max")) ∧
 (bl glob "min" (.bi "min")) ∧
 (bl glob "sum" (.bi "sum")) ∧
 (bl glob "sorted" (.bi "sorted")) ∧
 (bl glob "_law_over" (.ref 209)) ∧
 (bl glob "_law_under" (.ref 214)) ∧
 (bl glob "_law_levels" (.ref 221)) ∧
 (bl glob "_law_heights" (.ref 226)) ∧
 (bl glob "_law_rounds" (.ref 231)) ∧
 (bl glob "_law_handed" (.ref 236)) ∧
 (bl glob "_law_grouped" (.ref 241)) ∧
 (bl glob "_law_dotted" (.ref 246)) ∧
 (bl glob "_law_takes" (.ref 204)) ∧
 (bl glob "quotedata" (.ref 175)) ∧
 (bl glob "_translate" (.ref 199)) ∧
 (bl glob "twin_re_1_smtplib" (.ref 163)) ∧
 (bl glob "_twin_re_2" (.ref 168)) ∧
 (bl glob "CRLF" (.str "\r\n")) ∧
 (ng K 163 CD) ∧
 (ng K 168 CN) ∧
 (b9 K 209 "_law_over" over) ∧
 (b9 K 214 "_law_under" under) ∧
 (b9 K 221 "_law_levels" levels) ∧
 (b9 K 226 "_law_heights" jm) ∧
 (b9 K 231 "_law_rounds" rounds) ∧
 (b9 K 236 "_law_handed" handed) ∧
 (b9 K 241 "_law_grouped" grouped) ∧
 (b9 K 246 "_law_dotted" jY) ∧
 (b9 K 204 "_law_takes" takes) ∧
 (b9 K 175 "quotedata" quot) ∧
 (b9 K 199 "_translate" trans)):cE glob K:=h
theorem cE.enumerate{glob:List (Str×V)}{K:PySem.W.Frag}(S:cE glob K):bl glob "enumerate" (.ty "enumerate"):=S.1
theorem cE.range{glob:List (Str×V)}{K:PySem.W.Frag}(S:cE glob K):bl glob "range" (.ty "range"):=S.2.1
theorem cE.zip{glob:List (Str×V)}{K:PySem.W.Frag}(S:cE glob K):bl glob "zip" (.ty "zip"):=S.2.2.1
theorem cE.list{glob:List (Str×V)}{K:PySem.W.Frag}(S:cE glob K):bl glob "list" (.ty "list"):=S.2.2.2.1
theorem cE.tuple{glob:List (Str×V)}{K:PySem.W.Frag}(S:cE glob K):bl glob "tuple" (.ty "tuple"):=S.2.2.2.2.1
theorem cE.len{glob:List (Str×V)}{K:PySem.W.Frag}(S:cE glob K):bl glob "len" (.bi "len"):=S.2.2.2.2.2.1
theorem cE.max{glob:List (Str×V)}{K:PySem.W.Frag}(S:cE glob K):bl glob "max" (.bi "max"):=S.2.2.2.2.2.2.1
theorem cE.min{glob:List (Str×V)}{K:PySem.W.Frag}(S:cE glob K):bl glob "min" (.bi "min"):=S.2.2.2.2.2.2.2.1
theorem cE.sum{glob:List (Str×V)}{K:PySem.W.Frag}(S:cE glob K):bl glob "sum" (.bi "sum"):=S.2.2.2.2.2.2.2.2.1
theorem cE.sorted{glob:List (Str×V)}{K:PySem.W.Frag}(S:cE glob K):bl glob "sorted" (.bi "sorted"):=S.2.2.2.2.2.2.2.2.2.1
theorem cE.rM{glob:List (Str×V)}{K:PySem.W.Frag}(S:cE glob K):bl glob "_law_over" (.ref 209):=S.2.2.2.2.2.2.2.2.2.2.1
theorem cE.wc{glob:List (Str×V)}{K:PySem.W.Frag}(S:cE glob K):bl glob "_law_under" (.ref 214):=S.2.2.2.2.2.2.2.2.2.2.2.1
theorem cE.tc{glob:List (Str×V)}{K:PySem.W.Frag}(S:cE glob K):bl glob "_law_levels" (.ref 221):=S.2.2.2.2.2.2.2.2.2.2.2.2.1
theorem cE.xy{glob:List (Str×V)}{K:PySem.W.Frag}(S:cE glob K):bl glob "_law_heights" (.ref 226):=S.2.2.2.2.2.2.2.2.2.2.2.2.2.1
theorem cE.td{glob:List (Str×V)}{K:PySem.W.Frag}(S:cE glob K):bl glob "_law_rounds" (.ref 231):=S.2.2.2.2.2.2.2.2.2.2.2.2.2.2.1
theorem cE.zh{glob:List (Str×V)}{K:PySem.W.Frag}(S:cE glob K):bl glob "_law_handed" (.ref 236):=S.2.2.2.2.2.2.2.2.2.2.2.2.2.2.2.1
theorem cE.qu{glob:List (Str×V)}{K:PySem.W.Frag}(S:cE glob K):bl glob "_law_grouped" (.ref 241):=S.2.2.2.2.2.2.2.2.2.2.2.2.2.2.2.2.1
theorem cE.te{glob:List (Str×V)}{K:PySem.W.Frag}(S:cE glob K):bl glob "_law_dotted" (.ref 246):=S.2.2.2.2.2.2.2.2.2.2.2.2.2.2.2.2.2.1
theorem cE.A8{glob:List (Str×V)}{K:PySem.W.Frag}(S:cE glob K):bl glob "_law_takes" (.ref 204):=S.2.2.2.2.2.2.2.2.2.2.2.2.2.2.2.2.2.2.1
theorem cE.C9{glob:List (Str×V)}{K:PySem.W.Frag}(S:cE glob K):bl glob "quotedata" (.ref 175):=S.2.2.2.2.2.2.2.2.2.2.2.2.2.2.2.2.2.2.2.1
theorem cE.A9{glob:List (Str×V)}{K:PySem.W.Frag}(S:cE glob K):bl glob "_translate" (.ref 199):=S.2.2.2.2.2.2.2.2.2.2.2.2.2.2.2.2.2.2.2.2.1
theorem cE.EI{glob:List (Str×V)}{K:PySem.W.Frag}(S:cE glob K):bl glob "twin_re_1_smtplib" (.ref 163):=S.2.2.2.2.2.2.2.2.2.2.2.2.2.2.2.2.2.2.2.2.2.1
theorem cE.EJ{glob:List (Str×V)}{K:PySem.W.Frag}(S:cE glob K):bl glob "_twin_re_2" (.ref 168):=S.2.2.2.2.2.2.2.2.2.2.2.2.2.2.2.2.2.2.2.2.2.2.1
theorem cE.Dc{glob:List (Str×V)}{K:PySem.W.Frag}(S:cE glob K):bl glob "CRLF" (.str "\r\n"):=S.2.2.2.2.2.2.2.2.2.2.2.2.2.2.2.2.2.2.2.2.2.2.2.1
theorem cE.Cb{glob:List (Str×V)}{K:PySem.W.Frag}(S:cE glob K):ng K 163 CD:=S.2.2.2.2.2.2.2.2.2.2.2.2.2.2.2.2.2.2.2.2.2.2.2.2.1
theorem cE.Cc{glob:List (Str×V)}{K:PySem.W.Frag}(S:cE glob K):ng K 168 CN:=S.2.2.2.2.2.2.2.2.2.2.2.2.2.2.2.2.2.2.2.2.2.2.2.2.2.1
theorem cE.over{glob:List (Str×V)}{K:PySem.W.Frag}(S:cE glob K):b9 K 209 "_law_over" over:=S.2.2.2.2.2.2.2.2.2.2.2.2.2.2.2.2.2.2.2.2.2.2.2.2.2.2.1
theorem cE.under{glob:List (Str×V)}{K:PySem.W.Frag}(S:cE glob K):b9 K 214 "_law_under" under:=S.2.2.2.2.2.2.2.2.2.2.2.2.2.2.2.2.2.2.2.2.2.2.2.2.2.2.2.1
theorem cE.levels{glob:List (Str×V)}{K:PySem.W.Frag}(S:cE glob K):b9 K 221 "_law_levels" levels:=S.2.2.2.2.2.2.2.2.2.2.2.2.2.2.2.2.2.2.2.2.2.2.2.2.2.2.2.2.1
theorem cE.jm{glob:List (Str×V)}{K:PySem.W.Frag}(S:cE glob K):b9 K 226 "_law_heights" jm:=S.2.2.2.2.2.2.2.2.2.2.2.2.2.2.2.2.2.2.2.2.2.2.2.2.2.2.2.2.2.1
theorem cE.rounds{glob:List (Str×V)}{K:PySem.W.Frag}(S:cE glob K):b9 K 231 "_law_rounds" rounds:=S.2.2.2.2.2.2.2.2.2.2.2.2.2.2.2.2.2.2.2.2.2.2.2.2.2.2.2.2.2.2.1
theorem cE.handed{glob:List (Str×V)}{K:PySem.W.Frag}(S:cE glob K):b9 K 236 "_law_handed" handed:=S.2.2.2.2.2.2.2.2.2.2.2.2.2.2.2.2.2.2.2.2.2.2.2.2.2.2.2.2.2.2.2.1
theorem cE.grouped{glob:List (Str×V)}{K:PySem.W.Frag}(S:cE glob K):b9 K 241 "_law_grouped" grouped:=S.2.2.2.2.2.2.2.2.2.2.2.2.2.2.2.2.2.2.2.2.2.2.2.2.2.2.2.2.2.2.2.2.1
theorem cE.jY{glob:List (Str×V)}{K:PySem.W.Frag}(S:cE glob K):b9 K 246 "_law_dotted" jY:=S.2.2.2.2.2.2.2.2.2.2.2.2.2.2.2.2.2.2.2.2.2.2.2.2.2.2.2.2.2.2.2.2.2.1
theorem cE.takes{glob:List (Str×V)}{K:PySem.W.Frag}(S:cE glob K):b9 K 204 "_law_takes" takes:=S.2.2.2.2.2.2.2.2.2.2.2.2.2.2.2.2.2.2.2.2.2.2.2.2.2.2.2.2.2.2.2.2.2.2.1
theorem cE.quot{glob:List (Str×V)}{K:PySem.W.Frag}(S:cE glob K):b9 K 175 "quotedata" quot:=S.2.2.2.2.2.2.2.2.2.2.2.2.2.2.2.2.2.2.2.2.2.2.2.2.2.2.2.2.2.2.2.2.2.2.2.1
noncomputable abbrev G2 (X:Cx):Prop:=cE X.glob X.K
noncomputable def dE (xs:List (List Int)):List V:=xs.map fun x=>.list (Iz x)
theorem zi(xs:List (List Int))(x:List Int):dE (xs++[x])=dE xs++[.list (Iz x)]:=by simp [dE]
theorem bF(xs:List (List Int)):(dE xs).length=xs.length:=by exact Eq.symm (len_of_map_eq rfl)
theorem rN{xs:List (List Int)}{i:Nat}{v:V}(h:(dE xs)[i]?=some v):∃ m,xs[i]?=some m∧v=.list (Iz m):=by
 unfold dE at h
 rw [List.getElem?_map,Option.map_eq_some_iff] at h
 (refine xDPP h ?_;try clear h;intro m h1 h2)
 exact (iDPP m h1 h2.symm)
theorem uX{xs:List (List Int)}{i:Nat}{m:List Int}(h:xs[i]?=some m):(dE xs)[i]?=some (.list (Iz m)):=by
 unfold dE;rw [List.getElem?_map,h];rfl
theorem zj{xs:List Int}{i:Nat}{m:Int}(h:xs[i]?=some m):(Iz xs)[i]?=some (.int m):=by
 unfold Iz;rw [List.getElem?_map,h];rfl
theorem hO(xs:List Int)(x:Int):Iz (xs++[x])=Iz xs++[.int x]:=by simp [Iz]
theorem ah{n:Nat}(h:n≤1000000):n≤sizeLine:=by unfold sizeLine;lia
end L2
namespace L2
noncomputable def jZ (ds:List Int) (i:Nat) (m:Int):List Int:=((((List.range i).filter fun j=>ds.getD j 0<m).map fun (j:Nat)=>(j:Int)).getLast?).toList
noncomputable def overOf (ds:List Int):List (List Int):=ds.zipIdx.map fun (m,i)=>jZ ds i m
theorem tf{ds:List Int}{i:Nat}{m:Int}(h:ds[i]?=some m):(overOf ds).take (i+1)=(overOf ds).take i++[jZ ds i m]:=by
 rw [List.take_add_one]
 congr 1
 unfold overOf
 rw [List.getElem?_map,List.getElem?_zipIdx,h]
 simp
theorem xA(ds:List Int)(i:Nat)(m:Int):Iz (jZ ds i m)=((nats i).filter fun v=>match v with | .int j=>decide (ds.getD j.toNat 0<m) | _=>false).getLast?.toList:=by
 unfold jZ nats Iz
 rw [List.filter_map,List.getLast?_map,List.getLast?_map]
 simp only [Function.comp_def,Int.toNat_natCast]
 cases ((List.range i).filter fun j=>decide (ds.getD j 0<m)).getLast? <;> rfl
theorem nG{X:Cx}{A:Around}{k:Nat}{cells:Cells}{ds:List Int}{Ψ:V→Cells→Prop}(G:G2 X)(hA:Rm X A (k+1))(h:Ψ (.list (dE (overOf ds))) cells)(hz:ds.length≤1000):aE X A (.ref 209) [.list (Iz ds)] Ψ cells:=by
 refine cb (names:=["dots"]) G.over hA (fun Z Z Z Z Z vs hv=>?_) fun L cdv A' bz=>?_
 ·(refine ba (bY hv) ?_;intro v aV;subst aV)
  rfl
 refine aa (aq (.inl (by kernel_rfl)) (cy (a_nil ⟨Nat.zero_le _,fun a ha=>?_⟩)))
 try dsimp only
 refine aa (cH (bind:=gO "place" "many") (yI bz.hh (by kernel_rfl) G.enumerate (m_var (mv:=.list (Iz ds)) (by kernel_rfl) (iDPP _ rfl ?_))))
 refine (cF (fun Z=>[("over",.ref a),("dots",.list (Iz ds))]) (fun i c=>c=upd cells a (some (.list (dE ((overOf ds).take i))))) (⟨Sub.rfl,rfl⟩) (fun v hv=>?_) (fun v hv l l' hs=>?_) (fun i v c hv hc=>?_) (fun l c hl hc=>?_))
 ·(refine ba (List.getElem?_of_mem hv) ?_;intro i hi)
  obtain ⟨y,-,rfl⟩:=enumItems_get hi
  exact kz bz.hh (.inl (by kernel_rfl)) (.inr (by kernel_rfl))
 ·(refine ba (List.getElem?_of_mem hv) ?_;intro i hi)
  obtain ⟨y,-,rfl⟩:=enumItems_get hi
  exact Sub.gO (fV _ _ rfl) hs
 ·subst hc
  (refine xDPP (enumItems_get hv) ?_;intro y hy bj;subst bj)
  obtain ⟨m,hm,rfl⟩:∃ m,ds[i]?=some m∧y=.int m:=by
   unfold Iz at hy
   rw [List.getElem?_map,Option.map_eq_some_iff] at hy
   (refine xDPP hy ?_;try clear hy;intro m h1 h2)
   exact (iDPP m h1 h2.symm)
  have hi:i<ds.length:=(List.getElem?_eq_some_iff.mp hm).1
  have C:bB { kind:=.function,names:=[(".0",.local),("other",.local),("dots",.free),("many",.free)],isGenerator:=false,isCoroutine:=false} (dF "_law_over" (au over) L 209 cdv):=⟨rfl,by decide +kernel,by kernel_rfl⟩
  refine aa (cB (aH (m_var (mv:=.ref a) (by kernel_rfl) (fD (ag _ _ _) PySem.F.slot_list_append (by rfl) ⟨trivial,af (gg (aZ C (iR.name C rfl (.inl (by decide +kernel))) bz.hh ?_)) ⟩))))
  refine bN (aA (by kernel_rfl) G.range trivial (af (m_var (mv:=.int i) (by kernel_rfl) (a_nil (dz (iDPP _ (kG bz.hh (by omega)) ?_))))))
  refine ⟨fun Z Z=>trivial,aM (fun v=>match v with | .int j=>decide (ds.getD j.toNat 0<m) | _=>false) id ?_ (lc:=[("many",.int m),("dots",.list (Iz ds))]) (by kernel_rfl) (fun L' cs j v hj=>?_) ?_⟩
  ·rw [bC];unfold sizeLine;omega
  ·(refine aK (dA hj) ?_;intro FI bH;subst bH)
   have JU:(Iz ds)[j]?=some (.int (ds.getD j 0)):=by
    unfold Iz;rw [List.getElem?_map,List.getD_eq_getElem?_getD]
    rw [List.getElem?_eq_getElem (by exact Nat.lt_trans FI hi:j<ds.length)];rfl
   refine jU (aT (m_item (m_var (mv:=.list (Iz ds)) (by kernel_rfl) (m_var (mv:=.int j) (by kernel_rfl) (iS JU (by rw [ai];omega) (m_var (mv:=.int m) (by kernel_rfl) (sM (aC ?_))))))))
   exact (aO rfl rfl rfl (fun Z=>m_var (mv:=.int j) (by kernel_rfl) ⟨rfl,rfl,rfl⟩))
  ·refine dN (m_un (m_int (o_neg ?_)))
   refine fB (fB (rn (by decide) ?_ (a_nil ?_)))
   ·refine Nat.le_trans (by rw [List.length_map];exact List.length_filter_le _ _) ?_
    rw [bC];unfold sizeLine;omega
   ·refine c_append (ag _ _ _) ?_ ?_
    ·simp [dE];unfold sizeLine;omega
    ·refine aD ⟨Sub.put (by kernel_rfl) (Sub.put (by kernel_rfl) Sub.nil),?_⟩
     show _=_
     rw [b8,uK,tf hm,zi,List.map_id,xA]
 ·subst hc
  refine aa (bo (kC (m_var (mv:=.ref a) (hl _ _ (by kernel_rfl)) ⟨rfl,ag _ _ _,?_⟩)))
  show Ψ _ _
  rw [b8,dZ ha,List.take_of_length_le (by simp [enumItems,overOf,Iz])]
  exact h
end L2
namespace L2
noncomputable def dW (ov:List (List Int)) (p:Nat):List Int:=((List.range ov.length).filter fun j=>ov.getD j [] == [(p:Int)]).map fun (j:Nat)=>(j:Int)
noncomputable def aj (ov:List (List Int)):List (List Int):=(List.range ov.length).map (dW ov)
theorem uY(ov:List (List Int))(p:Nat):.list (Iz (dW ov p))=V.list (((nats ov.length).filter fun v=>match v with | .int j=>ov.getD j.toNat [] == [(p:Int)] | _=>false).map id):=by
 unfold dW nats Iz
 rw [List.filter_map,List.map_id]
 first | rfl | (rw [List.map_map];rfl) | (simp only [List.map_map];rfl)
theorem uZ(ov:List (List Int)):V.list (dE (aj ov))=.list (((nats ov.length).filter fun Z=>true).map fun v=>match v with | .int p=>.list (Iz (dW ov p.toNat)) | _=>.none):=by
 unfold aj nats dE
 rw [List.filter_eq_self.mpr (fun Z Z=>rfl)]
 first | rfl | (rw [List.map_map];rfl) | (simp only [List.map_map];rfl)
theorem ti{X:Cx}{A:Around}{k:Nat}{cells:Cells}{ov:List (List Int)}{Ψ:V→Cells→Prop}(G:G2 X)(hA:Rm X A (k+2))(h:Ψ (.list (dE (aj ov))) cells)(hz:ov.length≤1000):aE X A (.ref 214) [.list (dE ov)] Ψ cells:=by
 refine cb (names:=["over"]) G.under hA (fun Z Z Z Z Z vs hv=>?_) fun L cdv A' bz=>?_
 ·(refine ba (bY hv) ?_;intro v aV;subst aV)
  rfl
 refine aa (bo (aZ ⟨by rfl,by decide +kernel,by kernel_rfl⟩ (iR.name ⟨by rfl,by decide +kernel,by kernel_rfl⟩ rfl (.inr (by decide +kernel))) bz.hh ?_))
 refine bN (aA (by kernel_rfl) G.range trivial (af (aA (by kernel_rfl) G.len trivial (af (m_var (mv:=.list (dE ov)) (by kernel_rfl) (a_nil (fC (by rw [bF];exact ah (by lia)) (a_nil (dz (iDPP _ (kG bz.hh (by rw [bF];lia)) ?_))))))))))
 rw [bF]
 refine ⟨fun Z Z=>trivial,aM (fun Z=>true) (fun v=>match v with | .int p=>.list (Iz (dW ov p.toNat)) | _=>.none) (by rw [bC];exact ah (by lia)) (lc:=[("over",.list (dE ov))]) (by kernel_rfl) (fun L' cs j v hj=>?_) ?_⟩
 ·(refine aK (dA hj) ?_;intro FI bj;subst bj)
  refine cN (aO rfl rfl rfl (fun Z=>?_))
  refine aZ ⟨by rfl,by decide +kernel,by kernel_rfl⟩ (iR.name ⟨by rfl,by decide +kernel,by kernel_rfl⟩ rfl (.inl (by decide +kernel))) bz.hh ?_
  refine bN (aA (by kernel_rfl) G.range trivial (af (aA (by kernel_rfl) G.len trivial (af (m_var (mv:=.list (dE ov)) (by kernel_rfl) (a_nil (fC (by rw [bF];exact ah (by lia)) (a_nil (dz (iDPP _ (kG bz.hh (by rw [bF];lia)) ?_))))))))))
  rw [bF]
  refine ⟨fun Z Z=>trivial,aM (fun v=>match v with | .int i=>ov.getD i.toNat [] == [(j:Int)] | _=>false) id (by rw [bC];exact ah (by lia)) (lc:=[("place",.int j),("over",.list (dE ov))]) (by kernel_rfl) (fun Il Im i v hi=>?_) ?_⟩
  ·(refine aK (dA hi) ?_;intro G4 bH;subst bH)
   have hx:(dE ov)[i]?=some (.list (Iz (ov.getD i []))):=uX (by rw [List.getD_eq_getElem?_getD,List.getElem?_eq_getElem G4];rfl)
   refine jU (aT (m_item (m_var (mv:=.list (dE ov)) (by kernel_rfl) (m_var (mv:=.int i) (by kernel_rfl) (iS hx (by rw [bF];lia) ?_)))))
   refine gx (af (m_var (mv:=.int j) (by kernel_rfl) (a_nil ⟨by show 1≤sizeLine;exact ah (by decide),?_⟩)))
   refine Er (gy.ints 0 (ov.getD i []) [(j:Int)]) (by have:=bz.un;lia) (aC ?_)
   exact (aO rfl rfl (by simp) (fun Z=>m_var (mv:=.int i) (by kernel_rfl) ⟨rfl,rfl,rfl⟩))
  ·exact ⟨(uY ov j).symm,rfl,rfl⟩
 ·show Ψ _ _
  rw [← uZ]
  exact h
noncomputable def dp (ls:List Int) (ab:List Int):List Int:=ls++[match ab with | []=>0 | a::_=>ls.getD a.toNat 0+1]
noncomputable def ak (ov:List (List Int)):List Int:=ov.foldl dp []
theorem a7(ov:List (List Int)):(ak ov).length=ov.length:=by
 have:∀ (ov:List (List Int)) (ls:List Int),(ov.foldl dp ls).length=ls.length+ov.length:=by
  intro ov
  induction ov with
  | nil=>intro ls;rfl
  | cons a r ih=>intro ls;rw [List.foldl_cons,ih];simp [dp];exact Nat.succ_add_eq_add_succ ls.length r.length
 have:=this ov []
 simpa [ak] using this
theorem tj{ov:List (List Int)}{i:Nat}{ab:List Int}(h:ov[i]?=some ab):ak (ov.take (i+1))=dp (ak (ov.take i)) ab:=by
 unfold ak
 rw [List.take_add_one,List.foldl_append,h];rfl
theorem qv{X:Cx}{A:Around}{k:Nat}{cells:Cells}{ov:List (List Int)}{Ψ:V→Cells→Prop}(G:G2 X)(hA:Rm X A (k+1))(hp:∀ (i:Nat) a r,ov[i]?=some (a::r)→0≤a∧a<i)(hq:∀ ab∈ov,ab.length≤1000)(h:Ψ (.list (Iz (ak ov))) cells)(hz:ov.length≤1000):aE X A (.ref 221) [.list (dE ov)] Ψ cells:=by
 refine cb (names:=["over"]) G.levels hA (fun Z Z Z Z Z vs hv=>?_) fun L cdv A' bz=>?_
 ·(refine ba (bY hv) ?_;intro v cw;subst cw)
  rfl
 refine aa (aq (.inl (by kernel_rfl)) (cy (a_nil ⟨Nat.zero_le _,fun a ha=>?_⟩)))
 try dsimp only
 refine aa (cH (bind:=fun v l=>("above",v)::l) (bN (m_var (mv:=.list (dE ov)) (by kernel_rfl) (iDPP _ (bZ bz.hh) ?_))))
 refine (cF (fun Z=>[("levels",.ref a),("over",.list (dE ov))]) (fun i c=>c=upd cells a (some (.list (Iz (ak (ov.take i)))))) (⟨Sub.rfl,rfl⟩) (fun v hv=>cj (.inl (by kernel_rfl))) (fun v hv l l' hs=>Sub.cons hs) (fun i v c hv hc=>?_) (fun l c hl hc=>?_))
 ·subst hc
  (refine xDPP (rN hv) ?_;intro ab vX cR;subst cR)
  have hi:i<ov.length:=(List.getElem?_eq_some_iff.mp vX).1
  have hlen:(ak (ov.take i)).length=i:=by rw [a7,List.length_take];lia
  have JV:ab.length≤1000:=hq ab (List.mem_of_getElem? vX)
  refine aa (cB (aH (m_var (mv:=.ref a) (by kernel_rfl) (fD (ag _ _ _) PySem.F.slot_list_append (by rfl) ⟨trivial,af (yU (v:=.int (match ab with | []=>(0:Int) | a::_=>(ak (ov.take i)).getD a.toNat 0+1)) ?_ (a_nil ?_)) ⟩))))
  ·refine ny (gK (m_var (mv:=.list (Iz ab)) (by kernel_rfl) (uF (by rw [ai];exact ah (by lia)) ?_)))
   cases ab with
   | nil=>exact m_int ⟨rfl,rfl,rfl⟩
   | cons p r =>
    (refine aK (hp i p r vX) ?_;intro p0 p1)
    (refine ba (Int.eq_ofNat_of_zero_le p0) ?_;intro q fu;subst fu)
    have hx:(Iz (ak (ov.take i)))[q]?=some (.int ((ak (ov.take i)).getD q 0)):=zj (by rw [List.getD_eq_getElem?_getD,List.getElem?_eq_getElem (by lia:q<(ak (ov.take i)).length)];rfl)
    refine bh (m_item (m_var (mv:=.ref a) (by kernel_rfl) (m_item (m_var (mv:=.list (Iz ((q:Int)::r))) (by kernel_rfl) (m_int (iS (j:=0) (x:=.int q) rfl (by rw [ai];lia) ?_))))))
    refine CT (ag _ _ _) hx (by rw [ai];lia) (m_int (eD ⟨?_,rfl,rfl⟩))
    simp
  ·refine c_append (ag _ _ _) (by rw [ai,hlen];exact ah (by lia)) (aD ⟨Sub.put (by kernel_rfl) (Sub.put (by kernel_rfl) Sub.nil),?_⟩)
   show _=_
   rw [b8,tj vX]
   unfold dp
   rw [hO]
   cases ab <;> rfl
 ·subst hc
  refine aa (bo (kC (m_var (mv:=.ref a) (hl _ _ (by kernel_rfl)) ⟨rfl,ag _ _ _,?_⟩)))
  show Ψ _ _
  rw [b8,dZ ha,List.take_of_length_le (by simp [dE])]
  exact h
noncomputable def mx (l:List Int):Int:=l.foldl max 0
theorem rO:∀ (l:List Int) (z:Int),(l.foldl max z=z∨l.foldl max z∈l)∧z≤l.foldl max z∧∀ a∈l,a≤l.foldl max z
 | [],z=>by simp
 | x::r,z=>by
  (refine aP (rO r (max z x)) ?_;intro h1 h2 h3)
  rw [List.foldl_cons]
  refine ⟨?_,by lia,fun a ha=>?_⟩
  ·rcases h1 with h1 | h1
   ·rw [h1]
    by_cases q:x≤z
    ·left;exact Int.max_eq_left q
    ·right;rw [show max z x=x by exact Std.LawfulOrderLeftLeaningMax.max_eq_right z x q];exact List.mem_cons_self
   ·right;exact List.mem_cons_of_mem _ h1
  ·rcases List.mem_cons.mp ha with rfl | ha
   ·lia
   ·exact h3 a ha
theorem rP(l:List Int):mx l∈0::l:=by
 rcases (rO l 0).1 with h | h
 ·unfold mx;rw [h];exact List.mem_cons_self
 ·exact List.mem_cons_of_mem _ h
theorem qw(l:List Int):∀ a∈(0::l),a≤mx l:=by
 intro a ha
 rcases List.mem_cons.mp ha with rfl | ha
 ·exact (rO l 0).2.1
 ·exact (rO l 0).2.2 a ha
noncomputable def mF (un:List (List Int)):Nat→List Int
 | 0=>[]
 | i+1=>mx ((un.getD (un.length - 1 - i) []).map fun o=>(mF un i).getD (o - ((un.length - 1 - i:Nat):Int) - 1).toNat 0+1)::mF un i
theorem j6(un:List (List Int)):∀ i,(mF un i).length=i
 | 0=>rfl
 | i+1=>by rw [mF,List.length_cons,j6 un i]
noncomputable def aF (un:List (List Int)):List Int:=mF un un.length
theorem u0{X:Cx}{A:Around}{k:Nat}{cells:Cells}{un:List (List Int)}{Ψ:V→Cells→Prop}(G:G2 X)(hA:Rm X A (k+1))(hp:∀ (i:Nat) us,un[i]?=some us→us.length≤1000∧∀ o∈us,(i:Int)<o∧o<un.length)(h:Ψ (.list (Iz (aF un))) cells)(hz:un.length≤1000):aE X A (.ref 226) [.list (dE un)] Ψ cells:=by
 refine cb (names:=["under"]) G.jm hA (fun Z Z Z Z Z vs hv=>?_) fun L cdv A' bz=>?_
 ·(refine ba (bY hv) ?_;intro v gp;subst gp)
  rfl
 refine aa (aq (.inr (by kernel_rfl)) (gx (a_nil ⟨Nat.zero_le _,?_⟩)))
 try dsimp only
 refine aa (cH (bind:=fun v l=>("place",v)::l) (bN (aA (by kernel_rfl) G.range trivial (af (bh (aA (by kernel_rfl) G.len trivial (af (m_var (mv:=.list (dE un)) (by kernel_rfl) (a_nil (fC (by rw [bF];exact ah (by lia)) (m_int (yK ?_))))))))))))
 refine af (m_un (m_int (o_neg (af (m_un (m_int (o_neg (a_nil (yT (by decide) (PyProof.noPylong_small (by decide)) (iDPP (downs un.length) ?_ ?_))))))))))
 ·rw [bF];exact AQ bz.hh (by lia)
 refine (cF (fun i=>[("heights",.list (Iz (mF un i))),("under",.list (dE un))]) (fun i c=>c=cells) (⟨Sub.rfl,rfl⟩) (fun v hv=>cj (.inr (by kernel_rfl))) (fun v hv l l' hs=>Sub.cons hs) (fun i v c hv hc=>?_) (fun l c hl hc=>?_))
 ·subst hc
  (refine aK (w7 hv) ?_;intro hi nA;subst nA)
  generalize DU:un.length - 1 - i=pl
  have JW:pl<un.length:=by lia
  obtain ⟨us,G5⟩:∃ us,un[pl]?=some us:=(bA _ (List.getElem?_eq_getElem JW))
  (refine aK (hp pl us G5) ?_;intro Lf JX)
  have hlen:=j6 un i
  refine aa (aq (.inr (by kernel_rfl)) (bh (gx (af (aA (by kernel_rfl) G.max trivial (af (bh (gx (af (m_int (a_nil ⟨ah (by decide),?_⟩)))))))))))
  refine aZ ⟨by rfl,by decide +kernel,by kernel_rfl⟩ (iR.name ⟨by rfl,by decide +kernel,by kernel_rfl⟩ rfl (.inl (by decide +kernel))) bz.hh ?_
  refine bN (m_item (m_var (mv:=.list (dE un)) (by kernel_rfl) (m_var (mv:=.int pl) (by kernel_rfl) (iS (uX G5) (by rw [bF];lia) (bq _ (bZ bz.hh) (fun Z Z=>trivial) ?_)))))
  refine aM (fun Z=>true) (fun v=>match v with | .int o=>.int ((mF un i).getD (o - pl - 1).toNat 0+1) | _=>.none) (by rw [ai];exact ah (by lia)) (lc:=[("place",.int pl),("heights",.list (Iz (mF un i)))]) (by kernel_rfl) (fun L' cs j v hj=>?_) ?_
  ·(refine xDPP (dO hj) ?_;intro o ho qo;subst qo)
   (refine aK (JX o (List.mem_of_getElem? ho)) ?_;intro o1 o2)
   refine cN (aO rfl rfl rfl (fun Z=>?_))
   obtain ⟨q,hq⟩:∃ q:Nat,o - pl - 1=q:=(bA ((o - pl - 1).toNat) (by lia))
   have hx:(Iz (mF un i))[q]?=some (.int ((mF un i).getD q 0)):=zj (by rw [List.getD_eq_getElem?_getD,List.getElem?_eq_getElem (by lia:q<(mF un i).length)];rfl)
   refine bh (m_item (m_var (mv:=.list (Iz (mF un i))) (by kernel_rfl) (bh (bh (m_var (mv:=.int o) (by kernel_rfl) (m_var (mv:=.int pl) (by kernel_rfl) (yK (m_int (yK ?_)))))))))
   rw [hq]
   refine iS hx (by rw [ai];lia) (m_int (eD ⟨?_,rfl,rfl⟩))
   simp [hq]
  ·have e:V.list (((Iz us).filter fun Z=>true).map fun v=>match v with | .int o=>.int ((mF un i).getD (o - pl - 1).toNat 0+1) | _=>.none)=.list (Iz (us.map fun o=>(mF un i).getD (o - (pl:Int) - 1).toNat 0+1)):=by
    rw [List.filter_eq_self.mpr (fun Z Z=>rfl)]
    unfold Iz;rw [List.map_map,List.map_map];rfl
   rw [e]
   refine jS (by rw [ai,List.length_map];exact ah (by simp;lia)) (a_nil ?_)
   refine BU (ns:=0::us.map fun o=>(mF un i).getD (o - (pl:Int) - 1).toNat 0+1) bz.hh (rP _) (qw _) (a_nil ⟨ah (by simp),?_⟩)
   refine m_var (mv:=.list (Iz (mF un i))) (by kernel_rfl) (jS (by rw [ai];exact ah (by simp;lia)) (aD ⟨?_,rfl⟩))
   have e2:mF un (i+1)=mx (us.map fun o=>(mF un i).getD (o - (pl:Int) - 1).toNat 0+1)::mF un i:=by
    rw [mF,DU,List.getD_eq_getElem?_getD,G5];rfl
   try dsimp only
   rw [e2]
   exact Sub.put (by kernel_rfl) (Sub.put (by kernel_rfl) Sub.nil)
 ·subst hc
  refine aa (bo (m_var (mv:=.list (Iz (aF un))) (hl _ _ ?_) h))
  rw [rq]
  kernel_rfl
end L2
namespace L2
noncomputable def cg (fs:List Int) (t:Nat):List Int:=((List.range fs.length).filter fun j=>fs.getD j 0 == (t:Int)).map fun (j:Nat)=>(j:Int)
noncomputable def aw (fs:List Int) (M:Int):List (List Int):=(List.range (1+M).toNat).map (cg fs)
noncomputable def lR (xs:List (List Int)):List V:=xs.map fun x=>.tuple (Iz x)
theorem u2(fs:List Int)(t:Nat):.list (Iz (cg fs t))=V.list (((nats fs.length).filter fun v=>match v with | .int j=>fs.getD j.toNat 0 == (t:Int) | _=>false).map id):=by
 unfold cg nats Iz
 rw [List.filter_map,List.map_id]
 first | rfl | (rw [List.map_map];rfl) | (simp only [List.map_map];rfl)
theorem rQ(fs:List Int)(n:Nat):V.list (lR ((List.range n).map (cg fs)))=.list (((nats n).filter fun Z=>true).map fun v=>match v with | .int p=>.tuple (Iz (cg fs p.toNat)) | _=>.none):=by
 unfold nats lR
 rw [List.filter_eq_self.mpr (fun Z Z=>rfl)]
 first | rfl | (rw [List.map_map];rfl) | (simp only [List.map_map];rfl)
theorem oD{X:Cx}{A:Around}{k:Nat}{cells:Cells}{fs:List Int}{M:Int}{Ψ:V→Cells→Prop}(G:G2 X)(hA:Rm X A (k+2))(hM:M∈fs)(hm:∀ a∈fs,a≤M)(Lg:0≤M)(Lj:M≤1000)(h:Ψ (.list (lR (aw fs M))) cells)(hz:fs.length≤1000):aE X A (.ref 241) [.list (Iz fs)] Ψ cells:=by
 refine cb (names:=["figures"]) G.grouped hA (fun Z Z Z Z Z vs hv=>?_) fun L cdv A' bz=>?_
 ·(refine ba (bY hv) ?_;intro v aV;subst aV)
  rfl
 obtain ⟨n,hn⟩:∃ n:Nat,1+M=n:=(bA ((1+M).toNat) (by lia))
 refine aa (bo (aZ ⟨by rfl,by decide +kernel,by kernel_rfl⟩ (iR.name ⟨by rfl,by decide +kernel,by kernel_rfl⟩ rfl (.inr (by decide +kernel))) bz.hh ?_))
 refine bN (aA (by kernel_rfl) G.range trivial (af (bh (m_int (aA (by kernel_rfl) G.max trivial (af (m_var (mv:=.list (Iz fs)) (by kernel_rfl) (a_nil (BU bz.hh hM hm (eD ?_))))))))))
 rw [hn]
 refine a_nil (dz (bq _ (kG bz.hh (by lia)) (fun Z Z=>trivial) ?_))
 refine aM (fun Z=>true) (fun v=>match v with | .int p=>.tuple (Iz (cg fs p.toNat)) | _=>.none) (by rw [bC];exact ah (by lia)) (lc:=[("figures",.list (Iz fs))]) (by kernel_rfl) (fun L' cs j v hj=>?_) ?_
 ·(refine aK (dA hj) ?_;intro FI bj;subst bj)
  refine cN (aO rfl rfl rfl (fun Z=>?_))
  refine aA (by kernel_rfl) G.tuple trivial (af (aZ ⟨by rfl,by decide +kernel,by kernel_rfl⟩ (iR.name ⟨by rfl,by decide +kernel,by kernel_rfl⟩ rfl (.inl (by decide +kernel))) bz.hh ?_))
  refine bN (aA (by kernel_rfl) G.range trivial (af (aA (by kernel_rfl) G.len trivial (af (m_var (mv:=.list (Iz fs)) (by kernel_rfl) (a_nil (fC (by rw [ai];exact ah (by lia)) (a_nil (dz (iDPP _ (kG bz.hh (by rw [ai];lia)) ?_))))))))))
  rw [ai]
  refine ⟨fun Z Z=>trivial,aM (fun v=>match v with | .int i=>fs.getD i.toNat 0 == (j:Int) | _=>false) id (by rw [bC];exact ah (by lia)) (lc:=[("turn",.int j),("figures",.list (Iz fs))]) (by kernel_rfl) (fun Il Im i v hi=>?_) ?_⟩
  ·(refine aK (dA hi) ?_;intro G4 bH;subst bH)
   have hx:(Iz fs)[i]?=some (.int (fs.getD i 0)):=zj (by rw [List.getD_eq_getElem?_getD,List.getElem?_eq_getElem G4];rfl)
   refine jU (aT (m_item (m_var (mv:=.list (Iz fs)) (by kernel_rfl) (m_var (mv:=.int i) (by kernel_rfl) (iS hx (by rw [ai];lia) (m_var (mv:=.int j) (by kernel_rfl) (AP (aC ?_))))))))
   exact (aO rfl rfl (by simp) (fun Z=>m_var (mv:=.int i) (by kernel_rfl) ⟨rfl,rfl,rfl⟩))
  ·rw [← u2]
   refine a_nil (uH ?_ ⟨rfl,rfl,rfl⟩)
   rw [ai]
   unfold cg
   rw [List.length_map]
   refine Nat.le_trans (List.length_filter_le _ _) ?_
   rw [List.length_range];exact ah (by lia)
 ·rw [← rQ]
  unfold aw at h
  rw [hn] at h
  exact h
theorem foldl_rep(x:Array Nat):∀ (n:Nat) (acc:Array Nat),(List.replicate n x).foldl (·++·) acc=acc++(List.replicate n x.toList).flatten.toArray
 | 0,acc=>by simp
 | n+1,acc=>by
  rw [List.replicate_succ,List.foldl_cons,foldl_rep x n,List.replicate_succ,List.flatten_cons]
  apply Array.ext'
  simp
noncomputable def oE (m:Int):Str:=⟨(List.replicate m.toNat 46).toArray⟩
theorem oG(m:Int):Txt.mul (Str.ofString ".") m=oE m:=by
 have e:Str.ofString "."=⟨#[46]⟩:=by decide +kernel
 rw [e]
 unfold Txt.mul oE
 split
 ·rw [show m.toNat=0 by lia];rfl
 ·split
  ·rename_i q
   have:m=1:=by
    rcases Bool.or_eq_true_iff.mp q with q | q
    ·simpa using q
    ·exact absurd q (by decide)
   subst this;rfl
  ·rw [foldl_rep]
   congr 1
   apply Array.ext'
   simp
theorem gD(m:Int):(oE m).length=m.toNat:=by
 show (List.replicate m.toNat 46).toArray.size=_
 simp
noncomputable def bu (m:Int) (l:Str):Str:=oE m++l
noncomputable def Sz (ss:List Str):List V:=ss.map V.str
theorem rR{ss:List Str}{i:Nat}{v:V}(h:(Sz ss)[i]?=some v):∃ m,ss[i]?=some m∧v=.str m:=by
 unfold Sz at h
 rw [List.getElem?_map,Option.map_eq_some_iff] at h
 (refine xDPP h ?_;try clear h;intro m h1 h2)
 exact (iDPP m h1 h2.symm)
noncomputable def ar (ds:List Int) (ls:List Str):List Str:=List.zipWith bu ds ls
theorem zipItems_get{xs ys:List V}{i:Nat}{v:V}(h:(zipItems xs ys)[i]?=some v):∃ x y,xs[i]?=some x∧ys[i]?=some y∧v=.tuple [x,y]:=by
 unfold zipItems at h
 rw [List.getElem?_zipWith] at h
 cases hx:xs[i]? with
 | none=>rw [hx] at h;simp at h
 | some x =>
  cases hy:ys[i]? with
  | none=>rw [hx,hy] at h;simp at h
  | some y=>rw [hx,hy] at h;simp at h;exact (iDDPPP x y rfl rfl h.symm)
theorem tm(ds:List Int)(ls:List Str):V.list (Sz (ar ds ls))=.list (((zipItems (Iz ds) (Sz ls)).filter fun Z=>true).map fun v=>match v with | .tuple [.int m,.str l]=>.str (bu m l) | _=>.none):=by
 unfold zipItems ar Sz Iz
 rw [List.filter_eq_self.mpr (fun Z Z=>rfl)]
 rw [List.map_zipWith];rw [List.map_zipWith];rw [List.zipWith_map]
theorem qx{X:Cx}{A:Around}{k:Nat}{cells:Cells}{ds:List Int}{ls:List Str}{Ψ:V→Cells→Prop}(G:G2 X)(hA:Rm X A (k+1))(hd:∀ m∈ds,0≤m∧m≤100)(hl:∀ l∈ls,l.length≤100)(h:Ψ (.list (Sz (ar ds ls))) cells)(hz:ds.length≤1000):aE X A (.ref 246) [.list (Iz ds),.list (Sz ls)] Ψ cells:=by
 refine cb (names:=["dots","labels"]) G.jY hA (fun Z Z Z Z Z vs hv=>?_) fun L cdv A' bz=>?_
 ·(refine eG (fX hv) ?_;intro v u cw;subst cw)
  rfl
 refine aa (bo (aZ ⟨by rfl,by decide +kernel,by kernel_rfl⟩ (iR.pair bz.hh ⟨by rfl,by decide +kernel,by kernel_rfl⟩ rfl (.inl (by decide +kernel)) (.inl (by decide +kernel))) bz.hh ?_))
 refine BN bz.hh (by kernel_rfl) G.zip (m_var (mv:=.list (Iz ds)) (by kernel_rfl) (iDPP _ rfl (m_var (mv:=.list (Sz ls)) (by kernel_rfl) (iDPP _ rfl ?_))))
 refine ⟨fun v hv=>?_,aM (fun Z=>true) (fun v=>match v with | .tuple [.int m,.str l]=>.str (bu m l) | _=>.none) ?_ (lc:=[]) (by kernel_rfl) (fun L' cs j v hj=>?_) ?_⟩
 ·(refine ba (List.getElem?_of_mem hv) ?_;intro i hi)
  obtain ⟨x,y,-,-,rfl⟩:=zipItems_get hi
  exact (fV _ _ rfl)
 ·unfold zipItems;rw [List.length_zipWith,ai];exact ah (by lia)
 ·(refine xDDPPP (zipItems_get hj) ?_;intro x y hx hy cR;subst cR)
  (refine xDPP (dO hx) ?_;intro m hm fu;subst fu)
  (refine xDPP (rR hy) ?_;intro l jP gp;subst gp)
  (refine aK (hd m (List.mem_of_getElem? hm)) ?_;intro m0 m1)
  have l1:=hl l (List.mem_of_getElem? jP)
  refine cN (aO rfl rfl rfl (fun Z=>?_))
  refine bh (bh (bf (m_var (mv:=.int m) (by kernel_rfl) (yL ?_ (m_var (mv:=.str l) (by kernel_rfl) (rl ?_ ⟨?_,rfl,rfl⟩))))))
  ·exact mulOk_of 1 1000 (by decide) (by lia) (by lia) (by decide) (by decide)
  ·rw [oG,gD];exact ah (by lia)
  ·rw [oG];rfl
 ·rw [← tm];exact h
end L2
namespace L2
noncomputable def Nz (ps:List Nat):List V:=ps.map fun (p:Nat)=>V.int p
theorem zk{ps:List Nat}{i:Nat}{v:V}(h:(Nz ps)[i]?=some v):∃ m,ps[i]?=some m∧v=.int m:=by
 unfold Nz at h
 rw [List.getElem?_map,Option.map_eq_some_iff] at h
 (refine xDPP h ?_;try clear h;intro m h1 h2)
 exact (iDPP m h1 h2.symm)
theorem jo(ps:List Nat):(Nz ps).length=ps.length:=by simp [Nz]
theorem EK(ps:List Nat):Nz ps=Iz (ps.map fun (p:Nat)=>(p:Int)):=by simp [Nz,Iz]
noncomputable def j7 (q:Str):Bool:=di q 1 == Str.ofString "^"
noncomputable def membersOf (q:Str):Str:=if j7 q then Txt.slice q (some 2) (some (-1)) else Txt.slice q (some 1) (some (-1))
noncomputable def dj (name q:Str) (p:Nat):Bool:=decide (p<name.length)&&(if di q 0 == Str.ofString "[" then !(Txt.contains (membersOf q) (di name p) == j7 q) else di name p == di q (q.length - 1))
noncomputable def a6 (name:Str) (ps:List Nat):Option Str→List Nat
 | none=>match ps with
  | []=>[]
  | p::_=>(List.range (name.length+1 - p)).map (p+·)
 | some q=>(ps.filter (dj name q)).map (·+1)
noncomputable def zl:Option Str→V
 | none=>.none
 | some q=>.str q
noncomputable def cV (nH:List (Option Str)) (name:Str):Bool:=(nH.foldl (a6 name) [0]).any (· == name.length)
theorem kW(name:Str)(ps:List Nat)(q:Str):V.list (Nz (a6 name ps (some q)))=.list (((Nz ps).filter fun v=>match v with | .int p=>dj name q p.toNat | _=>false).map fun v=>match v with | .int p=>.int (p+1) | _=>.none):=by
 unfold a6 Nz
 rw [List.filter_map]
 first | rfl | (rw [List.map_map];rfl) | (simp only [List.map_map];rfl)
theorem tn{name:Str}{ps:List Nat}{pc:Option Str}(h:∀ p∈ps,p≤name.length):∀ p∈a6 name ps pc,p≤name.length:=by
 cases pc with
 | none =>
  cases ps with
  | nil=>intro p hp;cases hp
  | cons a r =>
   intro p hp
   simp only [a6,List.mem_map,List.mem_range] at hp
   (refine xDPP hp ?_;try clear hp;intro j hj aV;subst aV)
   lia
 | some q =>
  intro p hp
  simp only [a6,List.mem_map,List.mem_filter] at hp
  (refine xDPP hp ?_;try clear hp;intro j bj bH;subst bH;refine aK bj ?_;clear bj;intro hj hq)
  unfold dj at hq
  have:=(Bool.and_eq_true_iff.mp hq).1
  simp at this;exact Nat.succ_le_of_lt this
theorem rS{name:Str}{ps:List Nat}{pc:Option Str}(h:ps.length≤2000)(hn:name.length≤1000):(a6 name ps pc).length≤2000:=by
 cases pc with
 | none =>
  cases ps with
  | nil=>simp [a6]
  | cons a r=>simp [a6];lia
 | some q =>
  simp only [a6,List.length_map]
  exact Nat.le_trans (List.length_filter_le _ _) h
noncomputable def jJ (nH:List (Option Str)):List V:=nH.map zl
theorem Ba{nH:List (Option Str)}{i:Nat}{v:V}(h:(jJ nH)[i]?=some v):∃ m,nH[i]?=some m∧v=zl m:=by
 unfold jJ at h
 rw [List.getElem?_map,Option.map_eq_some_iff] at h
 (refine xDPP h ?_;try clear h;intro m h1 h2)
 exact (iDPP m h1 h2.symm)
theorem zm{X:Cx}{A:Around}{k:Nat}{cells:Cells}{nH:List (Option Str)}{name:Str}{Ψ:V→Cells→Prop}(G:G2 X)(hA:Rm X A (k+2))(hp:∀ q,some q∈nH→1≤q.length∧q.length≤1000∧(di q 0=Str.ofString "["→2≤q.length))
  (h:Ψ (.bool (cV nH name)) cells) (hn:name.length≤1000):aE X A (.ref 204) [.list (jJ nH),.str name] Ψ cells:=by
 refine cb (names:=["pieces","name"]) G.takes hA (fun Z Z Z Z Z vs hv=>?_) fun L cdv A' bz=>?_
 ·(refine eG (fX hv) ?_;intro v u cw;subst cw)
  rfl
 refine aa (aq (.inl (by kernel_rfl)) (gx (af (m_int (a_nil ⟨ah (by decide),?_⟩)))))
 try dsimp only
 refine aa (cH (bind:=fun v l=>("piece",v)::l) (bN (m_var (mv:=.list (jJ nH)) (by kernel_rfl) (iDPP _ (bZ bz.hh) ?_))))
 refine (cF (fun i=>[("places",.list (Nz ((nH.take i).foldl (a6 name) [0]))),("pieces",.list (jJ nH)),("name",.str name)]) (fun i c=>c=cells) (⟨Sub.rfl,rfl⟩) (fun v hv=>cj (.inr (by kernel_rfl))) (fun v hv l l' hs=>Sub.cons hs) (fun i v c hv hc=>?_) (fun l c hl hc=>?_))
 ·subst hc
  (refine xDPP (Ba hv) ?_;intro pc Io cR;subst cR)
  have e1:(nH.take (i+1)).foldl (a6 name) [0]=a6 name ((nH.take i).foldl (a6 name) [0]) pc:=by
   rw [List.take_add_one,List.foldl_append,Io];rfl
  have inv:∀ j,(∀ p∈(nH.take j).foldl (a6 name) [0],p≤name.length)∧((nH.take j).foldl (a6 name) [0]).length≤2000:=by
   intro j
   induction j with
   | zero=>exact ⟨fun p hp=>by simp at hp;lia,by simp⟩
   | succ j ih =>
    by_cases hj:j<nH.length
    ·rw [List.take_add_one,List.foldl_append,List.getElem?_eq_getElem hj]
     exact ⟨tn ih.1,rS ih.2 hn⟩
    ·rw [List.take_of_length_le (by exact Nat.le_of_not_ge hj)];rw [List.take_of_length_le (by exact Nat.le_of_not_lt hj)] at ih;exact ih
  (refine aK (inv i) ?_;intro Cd DU)
  try dsimp only
  rw [e1]
  generalize (nH.take i).foldl (a6 name) [0]=ps at Cd DU ⊢
  cases pc with
  | none =>
   refine aa (cG (aT (m_var (mv:=.none) (by kernel_rfl) (cY (qq (aC ?_))))))
   rw [if_pos rfl]
   refine aa (aq (.inl (by kernel_rfl)) (yU (v:=.list (Nz (a6 name ps none))) (ny (gK (m_var (mv:=.list (Nz ps)) (by kernel_rfl) (uF (by rw [jo];exact ah (by lia)) ?_)))) ?_))
   ·cases ps with
    | nil=>exact m_var (mv:=.list (Nz [])) (by kernel_rfl) ⟨rfl,rfl,rfl⟩
    | cons p r =>
     have Lk:p≤name.length:=Cd p List.mem_cons_self
     refine aA (by kernel_rfl) G.list trivial (af (aA (by kernel_rfl) G.range trivial (af (m_item (m_var (mv:=.list (Nz (p::r))) (by kernel_rfl) (m_int (iS (j:=0) (x:=.int p) rfl (by rw [jo];lia) (af (bh (aA (by kernel_rfl) G.len trivial (af (m_var (mv:=.str name) (by kernel_rfl) (a_nil (gP (ah (by lia)) (m_int (eD (a_nil (yS (a_nil ?_)))))))))))))))))))
     have e:Builtin.Range.rangeSize (p:Int) ((name.length:Int)+1) 1=((name.length+1 - p:Nat):Int):=by rw [rangeSize_one];split <;> lia
     refine uI (n:=name.length+1 - p) bz.hh (by unfold Builtin.Range.small;rw [e];simp [Builtin.Range.rangeFitsLong];lia) e (by lia) ⟨?_,rfl,rfl⟩
     unfold ck a6 Nz
     simp
   ·exact aD (aD ⟨Sub.put (by kernel_rfl) (Sub.put (by kernel_rfl) (Sub.put (by kernel_rfl) Sub.nil)),rfl⟩)
  | some q =>
   (refine aP (hp q (List.mem_of_getElem? Io)) ?_;intro q1 q2 q3)
   refine aa (cG (aT (m_var (mv:=.str q) (by kernel_rfl) (cY (eY trivial (aC ?_))))))
   rw [if_neg (by decide)]
   refine aa (cG (aT (m_item (m_var (mv:=.str q) (by kernel_rfl) (m_int (fE (j:=0) (by exact Nat.zero_lt_of_lt q1) (by lia) (bf (gf (aC ?_)))))))))
   by_cases hb:(di q 0 == Str.ofString "[")=true
   ·rw [if_pos hb]
    refine aa (aq (.inr (by kernel_rfl)) (vK (m_item (m_var (mv:=.str q) (by kernel_rfl) (m_int (fE (j:=1) (q3 (eq_of_beq hb)) (by lia) (bf (gf ?_))))))))
    refine aa (aq (.inr (by kernel_rfl)) (yU (v:=.str (membersOf q)) (ny (gK (m_var (mv:=.bool (j7 q)) (by kernel_rfl) (aC ?_)))) ?_))
    ·cases Ip:j7 q with
     | true =>
      refine gg (m_var (mv:=.str q) (by kernel_rfl) (dN (m_int (dN (m_un (m_int (o_neg (fB (rp (ah (by lia)) ⟨?_,rfl,rfl⟩)))))))))
      unfold membersOf;rw [Ip];rfl
     | false =>
      refine gg (m_var (mv:=.str q) (by kernel_rfl) (dN (m_int (dN (m_un (m_int (o_neg (fB (rp (ah (by lia)) ⟨?_,rfl,rfl⟩)))))))))
      unfold membersOf;rw [Ip];rfl
    ·refine aa (de ⟨by rfl,by decide +kernel,by kernel_rfl⟩ (iR.name ⟨by rfl,by decide +kernel,by kernel_rfl⟩ rfl (.inl (by decide +kernel))) (by kernel_rfl) bz.hh (by rfl) ?_)
     refine bN (m_var (mv:=.list (Nz ps)) (by kernel_rfl) (bq _ (bZ bz.hh) (fun Z Z=>trivial) ?_))
     refine aM (fun v=>match v with | .int p=>dj name q p.toNat | _=>false) (fun v=>match v with | .int p=>.int (p+1) | _=>.none) (by rw [jo];exact ah (by lia)) (lc:=[("members",.str (membersOf q)),("barred",.bool (j7 q)),("name",.str name)]) (by kernel_rfl) (fun L' cs j v hj=>?_) ?_
     ·(refine xDPP (zk hj) ?_;intro p JY fu;subst fu)
      refine jU (dY (dM (aT (m_var (mv:=.int p) (by kernel_rfl) (aA (by kernel_rfl) G.len trivial (af (m_var (mv:=.str name) (by kernel_rfl) (a_nil (gP (ah (by lia)) (sM (aC ?_)))))))))))
      by_cases iE:p<name.length
      ·rw [if_pos (by simpa using iE)]
       refine ow (aT (vK (m_item (m_var (mv:=.str name) (by kernel_rfl) (m_var (mv:=.int p) (by kernel_rfl) (fE iE (by lia) (m_var (mv:=.str (membersOf q)) (by kernel_rfl) (El (m_var (mv:=.bool (j7 q)) (by kernel_rfl) (Es (aC ?_)))))))))))
       refine (aO rfl rfl ?_ (fun Z=>bh (m_var (mv:=.int p) (by kernel_rfl) (m_int (eD ⟨rfl,rfl,rfl⟩)))))
       simp [dj,iE,hb]
      ·rw [if_neg (by simpa using iE)]
       refine (aO rfl rfl ?_ (fun Z=>bh (m_var (mv:=.int p) (by kernel_rfl) (m_int (eD ⟨rfl,rfl,rfl⟩)))))
       simp [dj,iE]
     ·rw [← kW]
      exact aD (aD (aD ⟨Sub.put (by kernel_rfl) (Sub.put (by kernel_rfl) (Sub.put (by kernel_rfl) Sub.nil)),rfl⟩))
   ·rw [if_neg hb]
    refine aa (de ⟨by rfl,by decide +kernel,by kernel_rfl⟩ (iR.name ⟨by rfl,by decide +kernel,by kernel_rfl⟩ rfl (.inl (by decide +kernel))) (by kernel_rfl) bz.hh (by rfl) ?_)
    refine bN (m_var (mv:=.list (Nz ps)) (by kernel_rfl) (bq _ (bZ bz.hh) (fun Z Z=>trivial) ?_))
    refine aM (fun v=>match v with | .int p=>dj name q p.toNat | _=>false) (fun v=>match v with | .int p=>.int (p+1) | _=>.none) (by rw [jo];exact ah (by lia)) (lc:=[("piece",.str q),("name",.str name)]) (by kernel_rfl) (fun L' cs j v hj=>?_) ?_
    ·(refine xDPP (zk hj) ?_;intro p JY gp;subst gp)
     refine jU (dY (dM (aT (m_var (mv:=.int p) (by kernel_rfl) (aA (by kernel_rfl) G.len trivial (af (m_var (mv:=.str name) (by kernel_rfl) (a_nil (gP (ah (by lia)) (sM (aC ?_)))))))))))
     by_cases iE:p<name.length
     ·rw [if_pos (by simpa using iE)]
      refine ow (aT (m_item (m_var (mv:=.str name) (by kernel_rfl) (m_var (mv:=.int p) (by kernel_rfl) (fE iE (by lia) (m_item (m_var (mv:=.str q) (by kernel_rfl) (m_un (m_int (o_neg (AU (by exact Nat.zero_lt_of_lt q1) (by lia) (gf (aC ?_)))))))))))))
      refine (aO rfl rfl ?_ (fun Z=>bh (m_var (mv:=.int p) (by kernel_rfl) (m_int (eD ⟨rfl,rfl,rfl⟩)))))
      simp [dj,iE,hb]
     ·rw [if_neg (by simpa using iE)]
      refine (aO rfl rfl ?_ (fun Z=>bh (m_var (mv:=.int p) (by kernel_rfl) (m_int (eD ⟨rfl,rfl,rfl⟩)))))
      simp [dj,iE]
    ·rw [← kW]
     exact aD (aD (aD ⟨Sub.put (by kernel_rfl) (Sub.put (by kernel_rfl) (Sub.put (by kernel_rfl) Sub.nil)),rfl⟩))
 ·subst hc
  refine aa (bo (vK (aA (by kernel_rfl) G.len trivial (af (m_var (mv:=.str name) (hl _ _ (by kernel_rfl)) (a_nil (gP (ah (by lia)) (m_var (mv:=.list (Nz (nH.foldl (a6 name) [0]))) (hl _ _ ?_) ?_))))))))
  ·dsimp only
   rw [show (jJ nH).length=nH.length by simp [jJ],List.take_length]
   kernel_rfl
  ·rw [EK]
   refine w8 ?_
   show Ψ _ _
   have e:cV nH name=((nH.foldl (a6 name) [0]).map fun (p:Nat)=>(p:Int)).any (· == (name.length:Int)):=by
    unfold cV
    rw [List.any_map]
    congr 1
    funext x
    rw [Bool.eq_iff_iff];simp;exact Iff.symm Int.ofNat_inj
   rw [← e];exact h
end L2
namespace L2
noncomputable def subF (next:Array Nat→Nat→Option (Nat×Nat)) (text:Array Nat) (repl:Str):Nat→Nat→List Str
 | 0,d=>[]
 | f+1,d=>match next text d with
  | none=>if d<text.size then [⟨text.extract d text.size⟩] else []
  | some (p,e)=>(if d<p then [⟨text.extract d p⟩] else [])++repl::subF next text repl f e
noncomputable def Good (next:Array Nat→Nat→Option (Nat×Nat)):Prop:=∀ text d p e,next text d=some (p,e)→d≤p∧p<e∧e≤text.size
theorem oH {next:Array Nat→Nat→Option (Nat×Nat)} {text:Array Nat} {repl:Str} (hg:Good next):∀ (f d:Nat),d≤text.size→text.size<f+d→Pcs next text repl d (subF next text repl f d)
 | 0,d,h1,h2=>by lia
 | f+1,d,h1,h2=>by
  unfold subF
  cases hn:next text d with
  | none=>exact .stop hn
  | some pe =>
   obtain ⟨p,e⟩:=pe
   (refine aP (hg _ _ _ _ hn) ?_;intro g1 g2 g3)
   exact .more hn g1 g2 g3 (oH hg f e g3 (by lia))
theorem oI {next:Array Nat→Nat→Option (Nat×Nat)} {text:Array Nat} {repl:Str} (hr:repl.length≤2) (hg:Good next):∀ (f d:Nat),d≤text.size→sumLen (subF next text repl f d)≤3 * (text.size - d)∧(subF next text repl f d).length≤2 * (text.size - d)+1
 | 0,d,h1=>by simp [subF,sumLen]
 | f+1,d,h1=>by
  unfold subF
  cases hn:next text d with
  | none =>
   try dsimp only
   split
   ·refine ⟨?_,by simp⟩
    show (text.extract d text.size).size+0≤_
    rw [Array.size_extract];lia
   ·simp [sumLen]
  | some pe =>
   obtain ⟨p,e⟩:=pe
   (refine aP (hg _ _ _ _ hn) ?_;intro g1 g2 g3)
   (refine aK (oI hr hg f e g3) ?_;intro i1 i2)
   try dsimp only
   split
   ·have e1:sumLen ([⟨text.extract d p⟩]++repl::subF next text repl f e)=(text.extract d p).size+(repl.length+sumLen (subF next text repl f e)):=by
     show (text.extract d p).size+(repl.length+sumLen (subF next text repl f e))=_;rfl
    rw [e1,Array.size_extract]
    refine ⟨by lia,?_⟩
    simp only [List.length_append,List.length_cons,List.length_nil];lia
   ·have e1:sumLen ([]++repl::subF next text repl f e)=repl.length+sumLen (subF next text repl f e):=rfl
    rw [e1]
    refine ⟨by lia,?_⟩
    simp only [List.length_append,List.length_cons,List.length_nil];lia
theorem j8 {p:Nat→Bool} {n s q:Nat} (h:bR p n s=some q):s≤q:=by
 induction hk:n - s generalizing s with
 | zero=>rw [cz (by lia)] at h;cases h
 | succ k ih =>
  by_cases hp:p s=true
  ·rw [d6 (by exact Nat.lt_of_sub_eq_succ hk) hp] at h;cases h;exact Nat.le_refl _
  ·rw [dB (by exact Nat.lt_of_sub_eq_succ hk) (by exact eq_false_of_ne_true hp)] at h
   have:=ih h (by lia);exact Nat.le_of_succ_le this
theorem u3 (text:Array Nat) (p:Nat):g7 text p=p+1∨(g7 text p=p+2∧p+1<text.size):=by
 unfold g7
 by_cases h:text.getD p 0=13∧p+1<text.size∧text.getD (p+1) 0=10
 ·rw [if_pos h];exact .inr ⟨rfl,h.2.1⟩
 ·rw [if_neg h];exact .inl rfl
theorem zo:Good mB:=fun text d p e h=>by
 unfold mB at h
 rw [Option.map_eq_some_iff] at h
 (refine xDPP h ?_;try clear h;intro q h1 h2)
 cases h2
 have k1:=j8 h1
 have k2:=(g8 h1).1
 rcases u3 text p with q | ⟨q,q2⟩ <;> (rw [q];lia)
theorem zp:Good eE:=fun text d p e h=>by
 unfold eE at h
 rw [Option.map_eq_some_iff] at h
 (refine xDPP h ?_;try clear h;intro q h1 h2)
 cases h2
 have:=j8 h1
 have:=(g8 h1).1
 lia
noncomputable def ends (x:Str):Str:=Txt.join (Str.ofString "") (subF mB x.cps (Str.ofString "\r\n") (x.length+1) 0)
noncomputable def stuff (x:Str):Str:=Txt.join (Str.ofString "") (subF eE x.cps (Str.ofString "..") (x.length+1) 0)
noncomputable def quote (x:Str):Str:=stuff (ends x)
theorem tq (ss:List Str):(Txt.join (Str.ofString "") ss).length≤sumLen ss:=by
 have h:=StrLaws.join_length_le (Str.ofString "") ss
 have e:Txt.join (Str.ofString "") ss=Str.join (Str.ofString "") ss:=PySem.StrLaws.glued_eq_join _ _
 rw [e]
 have e0:(Str.ofString "").length=0:=by decide +kernel
 rw [e0] at h
 exact h
theorem Bb {X:Cx} {A:Around} {k:Nat} {cells:Cells} {x:Str} {Ψ:V→Cells→Prop} (G:G2 X) (hA:Rm X A (k+1)) (hx:x.length≤100000) (h:Ψ (.str (quote x)) cells):aE X A (.ref 175) [.str x] Ψ cells:=by
 refine cb (names:=["data"]) G.quot hA (fun Z Z Z Z Z vs hv=>?_) fun L cdv A' bz=>?_
 ·(refine ba (bY hv) ?_;intro v aV;subst aV)
  rfl
 have G':G2 (X.push L):=G
 generalize X.push L=Y at bz G' ⊢
 (refine aK (oI (text:=x.cps) (repl:=Str.ofString "\r\n") (by decide +kernel) zo (x.length+1) 0 (Nat.zero_le _)) ?_;intro l1 l2)
 have hy:(ends x).length≤300000:=Nat.le_trans (tq _) (Nat.le_trans l1 (by show 3 * (x.length - 0)≤_;lia))
 (refine aK (oI (text:=(ends x).cps) (repl:=Str.ofString "..") (by decide +kernel) zp ((ends x).length+1) 0 (Nat.zero_le _)) ?_;intro m1 m2)
 refine aa (bo (aH (ey (by kernel_rfl) G'.EI (G'.Cb.AW ⟨trivial,af (bf (af (aH (ey (by kernel_rfl) G'.EJ (G'.Cc.AW ⟨trivial,af (ey (by kernel_rfl) G'.Dc (af (m_var (mv:=.str x) (by kernel_rfl) (a_nil ?_))))⟩)))))⟩))))
 refine BW G'.Cc CX (by decide +kernel) (oH zo (x.length+1) 0 (Nat.zero_le _) (by show x.length<_;exact Nat.lt_add_one x.length)) (by lia) (Nat.le_trans l1 (by show 3 * (x.length - 0)≤_;lia)) (Nat.le_trans l2 (by show 2 * (x.length - 0)+1≤_;lia)) (a_nil ?_)
 exact BW G'.Cb CY (by decide +kernel) (oH zp ((ends x).length+1) 0 (Nat.zero_le _) (by show (ends x).length<_;exact Nat.lt_add_one (ends x).length)) (Nat.le_trans hy (by exact Nat.le_of_ble_eq_true rfl)) (Nat.le_trans m1 (by show 3 * ((ends x).length - 0)≤_;lia)) (Nat.le_trans m2 (by show 2 * ((ends x).length - 0)+1≤_;lia)) h
end L2
namespace L2
open PySem.W (findIn typeIn keepIn)
noncomputable abbrev FJ:Stmt:=(vQ (st 5)).getD 1 default
noncomputable abbrev jq (k:Nat):Stmt:=(vQ (st 7)).getD k default
structure dq (K:PySem.W.Frag) (C:Addr) (n:Str) (f:Addr):Prop where
 at_:findIn K (.ref C) n=some (some (.ref f))
 typ:typeIn K (.ref f)=some (.type "function")
 keep:keepIn K (.ref f)=true
set_option genInjectivity false in
structure SA where
 ni:Addr
 ts:Addr
 Ax:Addr
 jK:Addr
 pW:Addr
 lS:Addr
 jL:Addr
 gE:Addr
 fact:Addr
 gj:Addr
 i6:Addr
 dflt:Addr
 p0:Nat
 p1:Nat
 p2:Nat
noncomputable def bU (D:SA) (glob:List (Str×V)) (K:PySem.W.Frag):Prop :=
 (bl glob "len" (.bi "len")) ∧
 (bl glob "set" (.ty "set")) ∧
 (bl glob "iter" (.bi "iter")) ∧
 (bl glob "tuple" (.ty "tuple")) ∧
 (bl glob "bool" (.ty "bool")) ∧
 (bl glob "StopIteration" (.ty "StopIteration")) ∧
 (bl glob "_NODE_OUT" (.int (-1))) ∧
 (bl glob "_NODE_DONE" (.int (-2))) ∧
 (bl glob "_NodeInfo" (.ref D.ni)) ∧
 (bl glob "TopologicalSorter" (.ref D.ts)) ∧
 (keepIn K (.ref D.ni)=true) ∧
 (keepIn K (.ref D.ts)=true) ∧
 (kP K D.ni) ∧
 (kP K D.ts) ∧
 (iX K D.ni "node" D.p0 0) ∧
 (iX K D.ni "npredecessors" D.p1 1) ∧
 (iX K D.ni "successors" D.p2 2) ∧
 (PySem.W.hasDictIn K D.ts=true∧findIn K (.ref D.ts) "_node2info"=some none∧PySem.W.takerIn K D.ts "_node2info"=some none) ∧
 (PySem.W.hasDictIn K D.ts=true∧findIn K (.ref D.ts) "_ready_nodes"=some none∧PySem.W.takerIn K D.ts "_ready_nodes"=some none) ∧
 (PySem.W.hasDictIn K D.ts=true∧findIn K (.ref D.ts) "_npassedout"=some none∧PySem.W.takerIn K D.ts "_npassedout"=some none) ∧
 (PySem.W.hasDictIn K D.ts=true∧findIn K (.ref D.ts) "_nfinished"=some none∧PySem.W.takerIn K D.ts "_nfinished"=some none) ∧
 (oy K D.ni D.Ax) ∧
 (oy K D.ts D.jK) ∧
 (K.lookup D.dflt=some ⟨.type "tuple",none,.seq #[.none] 0,#[]⟩) ∧
 (b9 K D.Ax "_NodeInfo.__init__" FJ) ∧
 (y9 K D.jK "TopologicalSorter.__init__" (jq 0) (.ref D.dflt) .none) ∧
 (dq K D.ts "_get_nodeinfo" D.pW) ∧
 (dq K D.ts "add" D.lS) ∧
 (dq K D.ts "prepare" D.jL) ∧
 (dq K D.ts "get_ready" D.gE) ∧
 (dq K D.ts "is_active" D.fact) ∧
 (dq K D.ts "done" D.gj) ∧
 (dq K D.ts "_find_cycle" D.i6) ∧
 (gC K D.ts "add" D.lS) ∧
 (gC K D.ts "done" D.gj) ∧
 (b9 K D.pW "TopologicalSorter._get_nodeinfo" (jq 1)) ∧
 (b9 K D.lS "TopologicalSorter.add" (jq 2)) ∧
 (b9 K D.jL "TopologicalSorter.prepare" (jq 3)) ∧
 (b9 K D.gE "TopologicalSorter.get_ready" (jq 4)) ∧
 (b9 K D.fact "TopologicalSorter.is_active" (jq 5)) ∧
 (b9 K D.gj "TopologicalSorter.done" (jq 7)) ∧
 (b9 K D.i6 "TopologicalSorter._find_cycle" (jq 8))
theorem bU.of {D:SA} {glob:List (Str×V)} {K:PySem.W.Frag} (h:(bl glob "len" (.bi "len")) ∧
 (bl glob "set" (.ty "set")) ∧
 (bl glob "iter" (.bi "iter")) ∧
 (bl glob "tuple" (.ty "tuple")) ∧
 (bl glob "bool" (.ty "bool")) ∧
 (bl glob "StopIteration" (.ty "StopIteration")) ∧
 (bl glob "_NODE_OUT" (.int (-1))) ∧
 (bl glob "_NODE_DONE" (.int (-2))) ∧
 (bl glob "_NodeInfo" (.ref D.ni)) ∧
 (bl glob "TopologicalSorter" (.ref D.ts)) ∧
 (keepIn K (.ref D.ni)=true) ∧
 (keepIn K (.ref D.ts)=true) ∧
 (kP K D.ni) ∧
 (kP K D.ts) ∧
 (iX K D.ni "node" D.p0 0) ∧
 (iX K D.ni "npredecessors" D.p1 1) ∧
 (iX K D.ni "successors" D.p2 2) ∧
 (PySem.W.hasDictIn K D.ts=true∧findIn K (.ref D.ts) "_node2info"=some none∧PySem.W.takerIn K D.ts "_node2info"=some none) ∧
 (PySem.W.hasDictIn K D.ts=true∧findIn K (.ref D.ts) "_ready_nodes"=some none∧PySem.W.takerIn K D.ts "_ready_nodes"=some none) ∧
 (PySem.W.hasDictIn K D.ts=true∧findIn K (.ref D.ts) "_npassedout"=some none∧PySem.W.takerIn K D.ts "_npassedout"=some none) ∧
 (PySem.W.hasDictIn K D.ts=true∧findIn K (.ref D.ts) "_nfinished"=some none∧PySem.W.takerIn K D.ts "_nfinished"=some none) ∧
 (oy K D.ni D.Ax) ∧
 (oy K D.ts D.jK) ∧
 (K.lookup D.dflt=some ⟨.type "tuple",none,.seq #[.none] 0,#[]⟩) ∧
 (b9 K D.Ax "_NodeInfo.__init__" FJ) ∧
 (y9 K D.jK "TopologicalSorter.__init__" (jq 0) (.ref D.dflt) .none) ∧
 (dq K D.ts "_get_nodeinfo" D.pW) ∧
 (dq K D.ts "add" D.lS) ∧
 (dq K D.ts "prepare" D.jL) ∧
 (dq K D.ts "get_ready" D.gE) ∧
 (dq K D.ts "is_active" D.fact) ∧
 (dq K D.ts "done" D.gj) ∧
 (dq K D.ts "_find_cycle" D.i6) ∧
 (gC K D.ts "add" D.lS) ∧
 (gC K D.ts "done" D.gj) ∧
 (b9 K D.pW "TopologicalSorter._get_nodeinfo" (jq 1)) ∧
 (b9 K D.lS "TopologicalSorter.add" (jq 2)) ∧
 (b9 K D.jL "TopologicalSorter.prepare" (jq 3)) ∧
 (b9 K D.gE "TopologicalSorter.get_ready" (jq 4)) ∧
 (b9 K D.fact "TopologicalSorter.is_active" (jq 5)) ∧
 (b9 K D.gj "TopologicalSorter.done" (jq 7)) ∧
 (b9 K D.i6 "TopologicalSorter._find_cycle" (jq 8))):bU D glob K:=h
theorem bU.len {D:SA} {glob:List (Str×V)} {K:PySem.W.Frag} (S:bU D glob K):bl glob "len" (.bi "len"):=S.1
theorem bU.set {D:SA} {glob:List (Str×V)} {K:PySem.W.Frag} (S:bU D glob K):bl glob "set" (.ty "set"):=S.2.1
theorem bU.iter {D:SA} {glob:List (Str×V)} {K:PySem.W.Frag} (S:bU D glob K):bl glob "iter" (.bi "iter"):=S.2.2.1
theorem bU.tuple {D:SA} {glob:List (Str×V)} {K:PySem.W.Frag} (S:bU D glob K):bl glob "tuple" (.ty "tuple"):=S.2.2.2.1
theorem bU.bool {D:SA} {glob:List (Str×V)} {K:PySem.W.Frag} (S:bU D glob K):bl glob "bool" (.ty "bool"):=S.2.2.2.2.1
theorem bU.stop {D:SA} {glob:List (Str×V)} {K:PySem.W.Frag} (S:bU D glob K):bl glob "StopIteration" (.ty "StopIteration"):=S.2.2.2.2.2.1
theorem bU.out {D:SA} {glob:List (Str×V)} {K:PySem.W.Frag} (S:bU D glob K):bl glob "_NODE_OUT" (.int (-1)):=S.2.2.2.2.2.2.1
theorem bU.done {D:SA} {glob:List (Str×V)} {K:PySem.W.Frag} (S:bU D glob K):bl glob "_NODE_DONE" (.int (-2)):=S.2.2.2.2.2.2.2.1
theorem bU.G6 {D:SA} {glob:List (Str×V)} {K:PySem.W.Frag} (S:bU D glob K):bl glob "_NodeInfo" (.ref D.ni):=S.2.2.2.2.2.2.2.2.1
theorem bU.EL {D:SA} {glob:List (Str×V)} {K:PySem.W.Frag} (S:bU D glob K):bl glob "TopologicalSorter" (.ref D.ts):=S.2.2.2.2.2.2.2.2.2.1
theorem bU.G7 {D:SA} {glob:List (Str×V)} {K:PySem.W.Frag} (S:bU D glob K):keepIn K (.ref D.ni)=true:=S.2.2.2.2.2.2.2.2.2.2.1
theorem bU.EM {D:SA} {glob:List (Str×V)} {K:PySem.W.Frag} (S:bU D glob K):keepIn K (.ref D.ts)=true:=S.2.2.2.2.2.2.2.2.2.2.2.1
theorem bU.cni {D:SA} {glob:List (Str×V)} {K:PySem.W.Frag} (S:bU D glob K):kP K D.ni:=S.2.2.2.2.2.2.2.2.2.2.2.2.1
theorem bU.hV {D:SA} {glob:List (Str×V)} {K:PySem.W.Frag} (S:bU D glob K):kP K D.ts:=S.2.2.2.2.2.2.2.2.2.2.2.2.2.1
theorem bU.s0 {D:SA} {glob:List (Str×V)} {K:PySem.W.Frag} (S:bU D glob K):iX K D.ni "node" D.p0 0:=S.2.2.2.2.2.2.2.2.2.2.2.2.2.2.1
theorem bU.s1 {D:SA} {glob:List (Str×V)} {K:PySem.W.Frag} (S:bU D glob K):iX K D.ni "npredecessors" D.p1 1:=S.2.2.2.2.2.2.2.2.2.2.2.2.2.2.2.1
theorem bU.s2 {D:SA} {glob:List (Str×V)} {K:PySem.W.Frag} (S:bU D glob K):iX K D.ni "successors" D.p2 2:=S.2.2.2.2.2.2.2.2.2.2.2.2.2.2.2.2.1
theorem bU.o1 {D:SA} {glob:List (Str×V)} {K:PySem.W.Frag} (S:bU D glob K):PySem.W.hasDictIn K D.ts=true∧findIn K (.ref D.ts) "_node2info"=some none∧PySem.W.takerIn K D.ts "_node2info"=some none:=S.2.2.2.2.2.2.2.2.2.2.2.2.2.2.2.2.2.1
theorem bU.o2 {D:SA} {glob:List (Str×V)} {K:PySem.W.Frag} (S:bU D glob K):PySem.W.hasDictIn K D.ts=true∧findIn K (.ref D.ts) "_ready_nodes"=some none∧PySem.W.takerIn K D.ts "_ready_nodes"=some none:=S.2.2.2.2.2.2.2.2.2.2.2.2.2.2.2.2.2.2.1
theorem bU.o3 {D:SA} {glob:List (Str×V)} {K:PySem.W.Frag} (S:bU D glob K):PySem.W.hasDictIn K D.ts=true∧findIn K (.ref D.ts) "_npassedout"=some none∧PySem.W.takerIn K D.ts "_npassedout"=some none:=S.2.2.2.2.2.2.2.2.2.2.2.2.2.2.2.2.2.2.2.1
theorem bU.o4 {D:SA} {glob:List (Str×V)} {K:PySem.W.Frag} (S:bU D glob K):PySem.W.hasDictIn K D.ts=true∧findIn K (.ref D.ts) "_nfinished"=some none∧PySem.W.takerIn K D.ts "_nfinished"=some none:=S.2.2.2.2.2.2.2.2.2.2.2.2.2.2.2.2.2.2.2.2.1
theorem bU.G8 {D:SA} {glob:List (Str×V)} {K:PySem.W.Frag} (S:bU D glob K):oy K D.ni D.Ax:=S.2.2.2.2.2.2.2.2.2.2.2.2.2.2.2.2.2.2.2.2.2.1
theorem bU.G9 {D:SA} {glob:List (Str×V)} {K:PySem.W.Frag} (S:bU D glob K):oy K D.ts D.jK:=S.2.2.2.2.2.2.2.2.2.2.2.2.2.2.2.2.2.2.2.2.2.2.1
theorem bU.JZ {D:SA} {glob:List (Str×V)} {K:PySem.W.Frag} (S:bU D glob K):K.lookup D.dflt=some ⟨.type "tuple",none,.seq #[.none] 0,#[]⟩:=S.2.2.2.2.2.2.2.2.2.2.2.2.2.2.2.2.2.2.2.2.2.2.2.1
theorem bU.Ax {D:SA} {glob:List (Str×V)} {K:PySem.W.Frag} (S:bU D glob K):b9 K D.Ax "_NodeInfo.__init__" FJ:=S.2.2.2.2.2.2.2.2.2.2.2.2.2.2.2.2.2.2.2.2.2.2.2.2.1
theorem bU.jK {D:SA} {glob:List (Str×V)} {K:PySem.W.Frag} (S:bU D glob K):y9 K D.jK "TopologicalSorter.__init__" (jq 0) (.ref D.dflt) .none:=S.2.2.2.2.2.2.2.2.2.2.2.2.2.2.2.2.2.2.2.2.2.2.2.2.2.1
theorem bU.get {D:SA} {glob:List (Str×V)} {K:PySem.W.Frag} (S:bU D glob K):dq K D.ts "_get_nodeinfo" D.pW:=S.2.2.2.2.2.2.2.2.2.2.2.2.2.2.2.2.2.2.2.2.2.2.2.2.2.2.1
theorem bU.xB {D:SA} {glob:List (Str×V)} {K:PySem.W.Frag} (S:bU D glob K):dq K D.ts "prepare" D.jL:=S.2.2.2.2.2.2.2.2.2.2.2.2.2.2.2.2.2.2.2.2.2.2.2.2.2.2.2.2.1
theorem bU.ready {D:SA} {glob:List (Str×V)} {K:PySem.W.Frag} (S:bU D glob K):dq K D.ts "get_ready" D.gE:=S.2.2.2.2.2.2.2.2.2.2.2.2.2.2.2.2.2.2.2.2.2.2.2.2.2.2.2.2.2.1
theorem bU.act {D:SA} {glob:List (Str×V)} {K:PySem.W.Frag} (S:bU D glob K):dq K D.ts "is_active" D.fact:=S.2.2.2.2.2.2.2.2.2.2.2.2.2.2.2.2.2.2.2.2.2.2.2.2.2.2.2.2.2.2.1
theorem bU.fin {D:SA} {glob:List (Str×V)} {K:PySem.W.Frag} (S:bU D glob K):dq K D.ts "done" D.gj:=S.2.2.2.2.2.2.2.2.2.2.2.2.2.2.2.2.2.2.2.2.2.2.2.2.2.2.2.2.2.2.2.1
theorem bU.find {D:SA} {glob:List (Str×V)} {K:PySem.W.Frag} (S:bU D glob K):dq K D.ts "_find_cycle" D.i6:=S.2.2.2.2.2.2.2.2.2.2.2.2.2.2.2.2.2.2.2.2.2.2.2.2.2.2.2.2.2.2.2.2.1
theorem bU.Ha {D:SA} {glob:List (Str×V)} {K:PySem.W.Frag} (S:bU D glob K):gC K D.ts "add" D.lS:=S.2.2.2.2.2.2.2.2.2.2.2.2.2.2.2.2.2.2.2.2.2.2.2.2.2.2.2.2.2.2.2.2.2.1
theorem bU.Hb {D:SA} {glob:List (Str×V)} {K:PySem.W.Frag} (S:bU D glob K):gC K D.ts "done" D.gj:=S.2.2.2.2.2.2.2.2.2.2.2.2.2.2.2.2.2.2.2.2.2.2.2.2.2.2.2.2.2.2.2.2.2.2.1
theorem bU.pW {D:SA} {glob:List (Str×V)} {K:PySem.W.Frag} (S:bU D glob K):b9 K D.pW "TopologicalSorter._get_nodeinfo" (jq 1):=S.2.2.2.2.2.2.2.2.2.2.2.2.2.2.2.2.2.2.2.2.2.2.2.2.2.2.2.2.2.2.2.2.2.2.2.1
theorem bU.lS {D:SA} {glob:List (Str×V)} {K:PySem.W.Frag} (S:bU D glob K):b9 K D.lS "TopologicalSorter.add" (jq 2):=S.2.2.2.2.2.2.2.2.2.2.2.2.2.2.2.2.2.2.2.2.2.2.2.2.2.2.2.2.2.2.2.2.2.2.2.2.1
theorem bU.jL {D:SA} {glob:List (Str×V)} {K:PySem.W.Frag} (S:bU D glob K):b9 K D.jL "TopologicalSorter.prepare" (jq 3):=S.2.2.2.2.2.2.2.2.2.2.2.2.2.2.2.2.2.2.2.2.2.2.2.2.2.2.2.2.2.2.2.2.2.2.2.2.2.1
theorem bU.gE {D:SA} {glob:List (Str×V)} {K:PySem.W.Frag} (S:bU D glob K):b9 K D.gE "TopologicalSorter.get_ready" (jq 4):=S.2.2.2.2.2.2.2.2.2.2.2.2.2.2.2.2.2.2.2.2.2.2.2.2.2.2.2.2.2.2.2.2.2.2.2.2.2.2.1
theorem bU.fact {D:SA} {glob:List (Str×V)} {K:PySem.W.Frag} (S:bU D glob K):b9 K D.fact "TopologicalSorter.is_active" (jq 5):=S.2.2.2.2.2.2.2.2.2.2.2.2.2.2.2.2.2.2.2.2.2.2.2.2.2.2.2.2.2.2.2.2.2.2.2.2.2.2.2.1
theorem bU.gj {D:SA} {glob:List (Str×V)} {K:PySem.W.Frag} (S:bU D glob K):b9 K D.gj "TopologicalSorter.done" (jq 7):=S.2.2.2.2.2.2.2.2.2.2.2.2.2.2.2.2.2.2.2.2.2.2.2.2.2.2.2.2.2.2.2.2.2.2.2.2.2.2.2.2.1
theorem bU.i6 {D:SA} {glob:List (Str×V)} {K:PySem.W.Frag} (S:bU D glob K):b9 K D.i6 "TopologicalSorter._find_cycle" (jq 8):=S.2.2.2.2.2.2.2.2.2.2.2.2.2.2.2.2.2.2.2.2.2.2.2.2.2.2.2.2.2.2.2.2.2.2.2.2.2.2.2.2.2
noncomputable abbrev S2 (D:SA) (X:Cx):Prop:=bU D X.glob X.K
structure TS where
 nodes:List Int
 np:Int→Int
 su:Int→List Int
noncomputable def TS.get (σ:TS) (k:Int):TS:={ σ with nodes:=if k∈σ.nodes then σ.nodes else σ.nodes++[k]}
noncomputable def iF {α:Type} (f:Int→α) (k:Int) (v:α):Int→α:=fun j=>if j=k then v else f j
theorem aW {α:Type} (f:Int→α) (k:Int) (v:α):iF f k v k=v:=by simp [iF]
theorem bw {α:Type} (f:Int→α) {k j:Int} (v:α) (h:j≠k):iF f k v j=f j:=by simp [iF,h]
structure dP (D:SA) (c:Cells) (a d:Addr) (ia la:Int→Addr) (σ:TS):Prop where
 inst:c a=some (.inst D.ts [("_node2info",.ref d),("_ready_nodes",.none),("_npassedout",.int 0),("_nfinished",.int 0)])
 dict:c d=some (.dict (σ.nodes.map fun k=>(k,.ref (ia k))))
 info:∀ k∈σ.nodes,c (ia k)=some (.slots D.ni [some (.int k),some (.int (σ.np k)),some (.ref (la k))])
 succ:∀ k∈σ.nodes,c (la k)=some (.list (Iz (σ.su k)))
 j9:∀ k∈σ.nodes,∀ j∈σ.nodes,ia k=ia j→k=j
 zr:∀ k∈σ.nodes,∀ j∈σ.nodes,la k=la j→k=j
 nodup:σ.nodes.Nodup
 zero:∀ k,k ∉ σ.nodes→σ.np k=0∧σ.su k=[]
noncomputable def dH (c c':Cells):Prop:=∀ b es,c b=some (.c9 es)→c' b=some (.c9 es)
theorem dH.refl {c:Cells}:dH c c:=fun Z Z h=>h
theorem dH.trans {a b c:Cells} (h:dH a b) (k:dH b c):dH a c:=fun x es e=>k x es (h x es e)
theorem dH.upd {c:Cells} {a:Addr} {x:Option Cell} (h:∀ es,c a≠some (.c9 es)):dH c (upd c a x):=fun b es e=>by
 have hb:b≠a:=fun z=>by subst z;exact h es e
 rw [ae _ hb];exact e
theorem dget_map {k:Int} {f:Int→V}:∀ {ns:List Int},gA (ns.map fun k=>(k,f k)) k=if k∈ns then some (f k) else none
 | []=>rfl
 | n::r=>by
  have ih:=dget_map (k:=k) (f:=f) (ns:=r)
  unfold gA at ih ⊢
  rw [List.map_cons,List.find?_cons]
  by_cases h:n=k
  ·subst h;simp
  ·simp only [h,decide_false]
   rw [ih]
   have:(k∈n::r)↔k∈r:=by rw [List.mem_cons];exact ⟨fun q=>q.resolve_left fun z=>h z.symm,.inr⟩
   simp only [this]
theorem zt {k:Int} {v:V} {f:Int→V} {ns:List Int} (h:k ∉ ns):dput (ns.map fun k=>(k,f k)) k v=(ns.map fun k=>(k,f k))++[(k,v)]:=by
 unfold dput
 rw [if_neg]
 rw [List.any_eq_true]
 (intro aV;refine xDPP aV ?_;clear aV;intro x hx e)
 (refine xDPP (List.mem_map.mp hx) ?_;intro j hj bj;subst bj)
 exact h (by simpa using (of_decide_eq_true e)▸hj)
theorem Bc {X:Cx} {A:Around} {k:Nat} {cells:Cells} {D:SA} {a:Addr} {v:V} {Ψ:V→Cells→Prop} (S:S2 D X) (hA:Rm X A (k+1)) (hc:cells a=some (.slots D.ni [])) (hv:vS v)
  (h:∀ l,cells l=none→Ψ .none (upd (upd cells l (some (.list []))) a (some (.slots D.ni [some v,some (.int 0),some (.ref l)])))):fK X A (.ref D.Ax) [.ref a,v] Ψ cells:=by
 refine AY (names:=["self","node"]) S.Ax hA (fun Z Z Z Z Z vs hv=>?_) fun L cdv A' bz=>?_
 ·(refine eG (fX hv) ?_;intro v u bH;subst bH)
  rfl
 have S':S2 D (X.push L):=S
 generalize X.push L=Y at bz S' ⊢
 refine aa (bk (m_var (mv:=v) (by kernel_rfl) (m_var (mv:=.ref a) (by kernel_rfl) (fJ hc S'.cni S'.s0 ?_))))
 refine aa (bk (m_int (m_var (mv:=.ref a) (by kernel_rfl) (fJ (ag _ _ _) S'.cni S'.s1 ?_))))
 refine aa (bk (cy (a_nil ⟨Nat.zero_le _,fun l hl=>?_⟩)))
 have EN:l≠a:=fun z=>by rw [z,ag] at hl;cases hl
 have FK:cells l=none:=by rw [ae _ EN,ae _ EN] at hl;exact hl
 refine m_var (mv:=.ref a) (by kernel_rfl) (fJ (by rw [ae _ (fun z=>EN z.symm),ag]) S'.cni S'.s2 (aD ?_))
 show Ψ _ _
 have e:upd (upd (upd (upd cells a (some (.slots D.ni (bK [] 0 v)))) a (some (.slots D.ni (bK (bK [] 0 v) 1 (.int 0))))) l (some (.list []))) a (some (.slots D.ni (bK (bK (bK [] 0 v) 1 (.int 0)) 2 (.ref l)))) =
   upd (upd cells l (some (.list []))) a (some (.slots D.ni [some v,some (.int 0),some (.ref l)])):=by
  funext b
  unfold upd
  by_cases q:b=a
  ·simp [q,bK]
  ·simp [q]
 rw [e]
 exact h l FK
end L2
end Mp
section
open PySem PySem.W PyProof.Rows
namespace Mp
namespace L2
noncomputable def kv (P:Params) (x:Str) (t:Tok) (v:Value):DictEntry:={ hash:=PyData.keyHash P x,key:=.str x t,val:=v}
noncomputable def ke (k:Int) (t:Tok) (x:Str) (u:Tok):DictEntry:={ hash:=k,key:=.int k t,val:=.str x u}
noncomputable def oF (c:Value) (vs:Array Value):Obj:={ cls:=c,data:=.fields vs}
noncomputable def oS (c:Value) (vs:Array Value):Obj:={ cls:=c,data:=.seq vs}
noncomputable def fO (s:Stmt) (q:Str) (dv:Value) (code:Addr) (t:Tok) (m:Str):Obj:={ cls:=.type "function",data:=.func { name:=fnName s,qualname:=q,params:=bG s,body:=.stmts (bI s),scope:=au s,globals:=3,closure:=[],defaults:=dv,kwdefaults:=.none,pyModule:=.str m t,code:=.ref code}}
noncomputable def KL (P:Params):Frag:=[
 (3,{ cls:=.type "dict",data:=.dict #[kv P "__name__" 165 (.str "law_in0223_02" 754),kv P "__doc__" 166 (.none),kv P "__package__" 167 (.none),kv P "__loader__" 168 (.builtin "__main__.__loader__#opaque"),kv P "__spec__" 169 (.none),kv P "__annotations__" 170 (.ref 6),kv P "__builtins__" 171 (.ref 4),kv P "__file__" 173 (.str "/claim/cut.py" 172),kv P "__cached__" 174 (.none),kv P "_sre" 275 (.ref 12),kv P "_wall" 288 (.ref 38),kv P "_NODE_OUT" 293 (.int (-1) 292),kv P "_NODE_DONE" 296 (.int (-2) 295),kv P "_NodeInfo" 333 (.ref 57),kv P "CycleError" 351 (.ref 72),kv P "TopologicalSorter" 470 (.ref 154),kv P "twin_re_1_smtplib" 488 (.ref 163),kv P "_twin_re_2" 530 (.ref 168),kv P "CRLF" 532 (.str "\x0d\n" 531),kv P "quotedata" 539 (.ref 175),kv P "twin_re_1_fnmatch" 577 (.ref 180),kv P "_special_chars_map" 725 (.ref 182),kv P "escape" 732 (.ref 192),kv P "_translate" 753 (.ref 199),kv P "_law_takes" 761 (.ref 204),kv P "_law_over" 767 (.ref 209),kv P "_law_under" 773 (.ref 214),kv P "_law_levels" 782 (.ref 221),kv P "_law_heights" 788 (.ref 226),kv P "_law_rounds" 794 (.ref 231),kv P "_law_handed" 800 (.ref 236),kv P "_law_grouped" 806 (.ref 241),kv P "_law_dotted" 812 (.ref 246),kv P "law" 818 (.ref 251)] 34}),
 (52,oF (.type "code") #[.str "__init__" 313,.str "_NodeInfo.__init__" 314,.str "/claim/cut.py" 315,.int 11 0,.int 2 0,.int 0 0,.int 0 0,.int 3 0,.ref 47,.bool true,.int 276 0,.ref 48,.none,.ref 49,.ref 50,.ref 51,.int 318 0,.int 11 0,.str "/claim/cut.py" 319]),
 (53,fO FJ "_NodeInfo.__init__" .none 52 289 "cpy313.graphlib"),
 (56,{ cls:=.type "dict",data:=.dict #[kv P "__module__" 304 (.str "cpy313.graphlib" 289),kv P "__firstlineno__" 308 (.int 8 307),kv P "__slots__" 312 (.ref 46),kv P "__init__" 320 (.ref 53),kv P "__static_attributes__" 324 (.ref 54),kv P "node" 326 (.ref 58),kv P "npredecessors" 328 (.ref 59),kv P "successors" 330 (.ref 60),kv P "__doc__" 331 (.none)] 5}),
 (57,{ cls:=.type "type",data:=.cls { name:="_NodeInfo",bases:=[.type "object"],mro:=[.ref 57,.type "object"],ns:=56,qualname:="_NodeInfo",hasDict:=false,slotNames:=["node","npredecessors","successors"]},slots:=#[none,none,some (.str "_NodeInfo" 297),some (.str "_NodeInfo" 305),some (.builtin "object.__new__"),some (.bool false)]}),
 (58,oF (.type "member_descriptor") #[.str "node" 325,.ref 57,.builtin "proto.slot",.builtin "proto.slot#set",.int 2 0]),
 (59,oF (.type "member_descriptor") #[.str "npredecessors" 327,.ref 57,.builtin "proto.slot",.builtin "proto.slot#set",.int 1 0]),
 (60,oF (.type "member_descriptor") #[.str "successors" 329,.ref 57,.builtin "proto.slot",.builtin "proto.slot#set",.int 0 0]),
 (83,oS (.type "tuple") #[.none]),
 (89,oF (.type "code") #[.str "__init__" 364,.str "TopologicalSorter.__init__" 365,.str "/claim/cut.py" 366,.int 19 0,.int 2 0,.int 0 0,.int 0 0,.int 3 0,.ref 84,.bool true,.int 276 0,.ref 85,.none,.ref 86,.ref 87,.ref 88,.int 371 0,.int 19 0,.str "/claim/cut.py" 372]),
 (90,fO (jq 0) "TopologicalSorter.__init__" (.ref 83) 89 289 "cpy313.graphlib"),
 (96,oF (.type "code") #[.str "_get_nodeinfo" 374,.str "TopologicalSorter._get_nodeinfo" 375,.str "/claim/cut.py" 376,.int 28 0,.int 2 0,.int 0 0,.int 0 0,.int 3 0,.ref 91,.bool true,.int 276 0,.ref 92,.none,.ref 93,.ref 94,.ref 95,.int 380 0,.int 28 0,.str "/claim/cut.py" 381]),
 (97,fO (jq 1) "TopologicalSorter._get_nodeinfo" .none 96 289 "cpy313.graphlib"),
 (103,oF (.type "code") #[.str "add" 383,.str "TopologicalSorter.add" 384,.str "/claim/cut.py" 385,.int 33 0,.int 2 0,.int 0 0,.int 0 0,.int 7 0,.ref 98,.bool true,.int 276 0,.ref 99,.none,.ref 100,.ref 101,.ref 102,.int 392 0,.int 33 0,.str "/claim/cut.py" 393]),
 (104,fO (jq 2) "TopologicalSorter.add" .none 103 289 "cpy313.graphlib"),
 (108,oF (.type "code") #[.str "prepare" 395,.str "TopologicalSorter.prepare" 396,.str "/claim/cut.py" 397,.int 42 0,.int 1 0,.int 0 0,.int 0 0,.int 3 0,.ref 105,.bool true,.int 276 0,.ref 106,.none,.none,.none,.ref 107,.int 398 0,.int 42 0,.str "/claim/cut.py" 399]),
 (109,fO (jq 3) "TopologicalSorter.prepare" .none 108 289 "cpy313.graphlib"),
 (115,oF (.type "code") #[.str "get_ready" 401,.str "TopologicalSorter.get_ready" 402,.str "/claim/cut.py" 403,.int 50 0,.int 1 0,.int 0 0,.int 0 0,.int 3 0,.ref 110,.bool true,.int 276 0,.ref 111,.none,.ref 112,.ref 113,.ref 114,.int 408 0,.int 50 0,.str "/claim/cut.py" 409]),
 (116,fO (jq 4) "TopologicalSorter.get_ready" .none 115 289 "cpy313.graphlib"),
 (122,oF (.type "code") #[.str "is_active" 411,.str "TopologicalSorter.is_active" 412,.str "/claim/cut.py" 413,.int 61 0,.int 1 0,.int 0 0,.int 0 0,.int 3 0,.ref 117,.bool true,.int 276 0,.ref 118,.none,.ref 119,.ref 120,.ref 121,.int 415 0,.int 61 0,.str "/claim/cut.py" 416]),
 (123,fO (jq 5) "TopologicalSorter.is_active" .none 122 289 "cpy313.graphlib"),
 (136,oF (.type "code") #[.str "done" 425,.str "TopologicalSorter.done" 426,.str "/claim/cut.py" 427,.int 69 0,.int 1 0,.int 0 0,.int 0 0,.int 7 0,.ref 131,.bool true,.int 276 0,.ref 132,.none,.ref 133,.ref 134,.ref 135,.int 436 0,.int 69 0,.str "/claim/cut.py" 437]),
 (137,fO (jq 7) "TopologicalSorter.done" .none 136 289 "cpy313.graphlib"),
 (143,oF (.type "code") #[.str "_find_cycle" 439,.str "TopologicalSorter._find_cycle" 440,.str "/claim/cut.py" 441,.int 92 0,.int 1 0,.int 0 0,.int 0 0,.int 3 0,.ref 138,.bool true,.int 276 0,.ref 139,.none,.ref 140,.ref 141,.ref 142,.int 449 0,.int 92 0,.str "/claim/cut.py" 450]),
 (144,fO (jq 8) "TopologicalSorter._find_cycle" .none 143 289 "cpy313.graphlib"),
 (153,{ cls:=.type "dict",data:=.dict #[kv P "__module__" 359 (.str "cpy313.graphlib" 289),kv P "__firstlineno__" 363 (.int 17 362),kv P "__init__" 373 (.ref 90),kv P "_get_nodeinfo" 382 (.ref 97),kv P "add" 394 (.ref 104),kv P "prepare" 400 (.ref 109),kv P "get_ready" 410 (.ref 116),kv P "is_active" 417 (.ref 123),kv P "__bool__" 424 (.ref 130),kv P "done" 438 (.ref 137),kv P "_find_cycle" 451 (.ref 144),kv P "static_order" 458 (.ref 151),kv P "__static_attributes__" 463 (.ref 152),kv P "__dict__" 465 (.ref 155),kv P "__weakref__" 467 (.ref 156),kv P "__doc__" 468 (.none)] 4}),
 (154,{ cls:=.type "type",data:=.cls { name:="TopologicalSorter",bases:=[.type "object"],mro:=[.ref 154,.type "object"],ns:=153,qualname:="TopologicalSorter"},slots:=#[none,none,some (.str "TopologicalSorter" 352),some (.str "TopologicalSorter" 360),some (.builtin "object.__new__"),some (.bool true)]}),
 (162,oS (.type "tuple") #[.int 14 0,.int 4 0,.int 0 0,.int 1 0,.int 1 0,.int 6 0,.int 1 0,.int 16 0,.int 46 0,.int 1 0]),
 (163,oF (.type "re.Pattern") #[.str "(?m)^\\." 474,.int 40 487,.int 0 0,.none,.none,.ref 162,.int 0 0]),
 (167,oS (.type "tuple") #[.int 14 0,.int 9 0,.int 4 0,.int 1 0,.int 2 0,.int 16 0,.int 10 0,.int 16 0,.int 13 0,.int 0 0,.int 7 0,.int 7 0,.int 16 0,.int 13 0,.int 16 0,.int 10 0,.int 15 0,.int 18 0,.int 5 0,.int 16 0,.int 10 0,.int 15 0,.int 13 0,.int 11 0,.int 16 0,.int 13 0,.int 5 0,.int 5 0,.int 0 0,.int 16 0,.int 10 0,.int 1 0,.int 15 0,.int 2 0,.int 0 0,.int 1 0]),
 (168,oF (.type "re.Pattern") #[.str "(?:\\r\\n|\\n|\\r(?!\\n))" 490,.int 32 529,.int 0 0,.none,.none,.ref 167,.int 0 0]),
 (174,oF (.type "code") #[.str "quotedata" 533,.str "quotedata" 534,.str "/claim/cut.py" 535,.int 127 0,.int 1 0,.int 0 0,.int 0 0,.int 3 0,.ref 169,.bool true,.int 276 0,.ref 170,.none,.ref 171,.ref 172,.ref 173,.int 537 0,.int 127 0,.str "/claim/cut.py" 538]),
 (175,fO (st 12) "quotedata" .none 174 471 "cpy313.smtplib"),
 (179,oS (.type "tuple") #[.int 14 0,.int 14 0,.int 4 0,.int 1 0,.int 1 0,.int 9 0,.int 0 0,.int 64 0,.int 0 0,.int 1342177280 0,.int 0 0,.int 0 0,.int 0 0,.int 0 0,.int 0 0,.int 17 0,.int 0 0,.int 13 0,.int 11 0,.int 9 0,.int 0 0,.int 64 0,.int 0 0,.int 1342177280 0,.int 0 0,.int 0 0,.int 0 0,.int 0 0,.int 0 0,.int 17 0,.int 1 0,.int 1 0]),
 (180,oF (.type "re.Pattern") #[.str "([&~|])" 541,.int 32 576,.int 1 0,.none,.none,.ref 179,.int 0 0]),
 (182,{ cls:=.type "dict",data:=.dict #[ke 40 581 "\\(" 585,ke 41 587 "\\)" 591,ke 91 593 "\\[" 597,ke 93 599 "\\]" 603,ke 123 605 "\\{" 609,ke 125 611 "\\}" 615,ke 63 617 "\\?" 621,ke 42 623 "\\*" 627,ke 43 629 "\\+" 633,ke 45 635 "\\-" 639,ke 124 641 "\\|" 645,ke 94 647 "\\^" 651,ke 36 653 "\\$" 657,ke 92 659 "\\\\" 663,ke 46 665 "\\." 669,ke 38 671 "\\&" 675,ke 126 677 "\\~" 681,ke 35 683 "\\#" 687,ke 32 689 "\\ " 693,ke 9 695 "\\\t" 699,ke 10 701 "\\\n" 705,ke 13 707 "\\\x0d" 711,ke 11 713 "\\\x0b" 717,ke 12 719 "\\\x0c" 723] 24}),
 (191,oF (.type "code") #[.str "escape" 726,.str "escape" 727,.str "/claim/cut.py" 728,.int 132 0,.int 1 0,.int 0 0,.int 0 0,.int 3 0,.ref 186,.bool true,.int 276 0,.ref 187,.none,.ref 188,.ref 189,.ref 190,.int 730 0,.int 132 0,.str "/claim/cut.py" 731]),
 (192,fO (st 16) "escape" .none 191 578 "re"),
 (198,oF (.type "code") #[.str "_translate" 735,.str "_translate" 736,.str "/claim/cut.py" 737,.int 139 0,.int 3 0,.int 0 0,.int 0 0,.int 3 0,.ref 193,.bool true,.int 276 0,.ref 194,.none,.ref 195,.ref 196,.ref 197,.int 751 0,.int 139 0,.str "/claim/cut.py" 752]),
 (199,fO (st 18) "_translate" .none 198 733 "cpy313.fnmatch"),
 (203,oF (.type "code") #[.str "_law_takes" 756,.str "_law_takes" 757,.str "/claim/cut.py" 758,.int 202 0,.int 2 0,.int 0 0,.int 0 0,.int 3 0,.ref 200,.bool true,.int 276 0,.ref 201,.none,.none,.none,.ref 202,.int 759 0,.int 202 0,.str "/claim/cut.py" 760]),
 (204,fO (st 20) "_law_takes" .none 203 754 "law_in0223_02"),
 (208,oF (.type "code") #[.str "_law_over" 762,.str "_law_over" 763,.str "/claim/cut.py" 764,.int 214 0,.int 1 0,.int 0 0,.int 0 0,.int 3 0,.ref 205,.bool true,.int 276 0,.ref 206,.none,.none,.none,.ref 207,.int 765 0,.int 214 0,.str "/claim/cut.py" 766]),
 (209,fO (st 21) "_law_over" .none 208 754 "law_in0223_02"),
 (213,oF (.type "code") #[.str "_law_under" 768,.str "_law_under" 769,.str "/claim/cut.py" 770,.int 219 0,.int 1 0,.int 0 0,.int 0 0,.int 3 0,.ref 210,.bool true,.int 276 0,.ref 211,.none,.none,.none,.ref 212,.int 771 0,.int 219 0,.str "/claim/cut.py" 772]),
 (214,fO (st 22) "_law_under" .none 213 754 "law_in0223_02"),
 (220,oF (.type "code") #[.str "_law_levels" 774,.str "_law_levels" 775,.str "/claim/cut.py" 776,.int 221 0,.int 1 0,.int 0 0,.int 0 0,.int 3 0,.ref 215,.bool true,.int 276 0,.ref 216,.none,.ref 217,.ref 218,.ref 219,.int 780 0,.int 221 0,.str "/claim/cut.py" 781]),
 (221,fO (st 23) "_law_levels" .none 220 754 "law_in0223_02"),
 (225,oF (.type "code") #[.str "_law_heights" 783,.str "_law_heights" 784,.str "/claim/cut.py" 785,.int 226 0,.int 1 0,.int 0 0,.int 0 0,.int 3 0,.ref 222,.bool true,.int 276 0,.ref 223,.none,.none,.none,.ref 224,.int 786 0,.int 226 0,.str "/claim/cut.py" 787]),
 (226,fO (st 24) "_law_heights" .none 225 754 "law_in0223_02"),
 (230,oF (.type "code") #[.str "_law_rounds" 789,.str "_law_rounds" 790,.str "/claim/cut.py" 791,.int 231 0,.int 1 0,.int 0 0,.int 0 0,.int 3 0,.ref 227,.bool true,.int 276 0,.ref 228,.none,.none,.none,.ref 229,.int 792 0,.int 231 0,.str "/claim/cut.py" 793]),
 (231,fO (st 25) "_law_rounds" .none 230 754 "law_in0223_02"),
 (235,oF (.type "code") #[.str "_law_handed" 795,.str "_law_handed" 796,.str "/claim/cut.py" 797,.int 240 0,.int 1 0,.int 0 0,.int 0 0,.int 3 0,.ref 232,.bool true,.int 276 0,.ref 233,.none,.none,.none,.ref 234,.int 798 0,.int 240 0,.str "/claim/cut.py" 799]),
 (236,fO (st 26) "_law_handed" .none 235 754 "law_in0223_02"),
 (240,oF (.type "code") #[.str "_law_grouped" 801,.str "_law_grouped" 802,.str "/claim/cut.py" 803,.int 252 0,.int 1 0,.int 0 0,.int 0 0,.int 3 0,.ref 237,.bool true,.int 276 0,.ref 238,.none,.none,.none,.ref 239,.int 804 0,.int 252 0,.str "/claim/cut.py" 805]),
 (241,fO (st 27) "_law_grouped" .none 240 754 "law_in0223_02"),
 (245,oF (.type "code") #[.str "_law_dotted" 807,.str "_law_dotted" 808,.str "/claim/cut.py" 809,.int 254 0,.int 2 0,.int 0 0,.int 0 0,.int 3 0,.ref 242,.bool true,.int 276 0,.ref 243,.none,.none,.none,.ref 244,.int 810 0,.int 254 0,.str "/claim/cut.py" 811]),
 (246,fO (st 28) "_law_dotted" .none 245 754 "law_in0223_02"),
 (250,oF (.type "code") #[.str "law" 813,.str "law" 814,.str "/claim/cut.py" 815,.int 256 0,.int 1 0,.int 0 0,.int 0 0,.int 3 0,.ref 247,.bool true,.int 276 0,.ref 248,.none,.none,.none,.ref 249,.int 816 0,.int 256 0,.str "/claim/cut.py" 817]),
 (251,fO (st 29) "law" .none 250 754 "law_in0223_02")]
noncomputable abbrev DW:Program:=Challenge.pw_in0223_02
noncomputable def mG:Program:={ DW with main:={ DW.main with body:=[0,1,2,3,4,6,7,8,11,12,14,16,17,18,19,20,21,22,23,24,25,26,27,28,29].filterMap fun i=>DW.main.body[i]?}}
noncomputable def rT:List Str:=["_NodeInfo","twin_re_1_smtplib","_twin_re_2","twin_re_1_fnmatch","_special_chars_map"]
noncomputable abbrev Iq:List Addr:=[3,52,53,56,57,58,59,60,83,89,90,96,97,103,104,108,109,115,116,122,123,136,137,143,144,153,154,162,163,167,168,174,175,179,180,182,191,192,198,199,203,204,208,209,213,214,220,221,225,226,230,231,235,236,240,241,245,246,250,251]
theorem Dd (P:Params):Iq=(KL P).map (·.1):=by kernel_rfl
noncomputable abbrev kX:Hook:=kmHook KL Iq Dd [194]
noncomputable def zu (w:World):Prop:=(openEnds treeTable DW w 5982).map (fun s=>(openSeen mG rT (importedModules DW.main.body) (fun s=>xlAt mG [] s&&recOk (RowW.records Challenge.rw_in0223_02.row.toRowW) s) true s,Hook.obs kX s))=some (openGood mG rT,Hook.val kX w)
theorem De:∀ w:World,zu ((w.withFollow "comprehension-iter-twice" false).withFollow "special-get-raises" false):=fun w=>by
 unfold zu openEnds fencedOpening topFrom
 rw [PySem.W.Fast.te10274390034422433532,PySem.W.Fast.te14289696077712309145,PySem.W.Fast.te14082659384304107361,PySem.W.Fast.te14364793385576792824,PySem.W.Fast.te4187177175401517315,PySem.W.Fast.te5923862056798008813,PySem.W.Fast.te8920871248978507458]
 kernel_rfl
theorem Df:∀ w:World,zu ((w.withFollow "comprehension-iter-twice" false).withFollow "special-get-raises" true):=fun w=>by
 unfold zu openEnds fencedOpening topFrom
 rw [PySem.W.Fast.te10274390034422433532,PySem.W.Fast.te14289696077712309145,PySem.W.Fast.te14082659384304107361,PySem.W.Fast.te14364793385576792824,PySem.W.Fast.te4187177175401517315,PySem.W.Fast.te5923862056798008813,PySem.W.Fast.te8920871248978507458]
 kernel_rfl
theorem Dg:∀ w:World,zu ((w.withFollow "comprehension-iter-twice" true).withFollow "special-get-raises" false):=fun w=>by
 unfold zu openEnds fencedOpening topFrom
 rw [PySem.W.Fast.te10274390034422433532,PySem.W.Fast.te14289696077712309145,PySem.W.Fast.te14082659384304107361,PySem.W.Fast.te14364793385576792824,PySem.W.Fast.te4187177175401517315,PySem.W.Fast.te5923862056798008813,PySem.W.Fast.te8920871248978507458]
 kernel_rfl
theorem Dh:∀ w:World,zu ((w.withFollow "comprehension-iter-twice" true).withFollow "special-get-raises" true):=fun w=>by
 unfold zu openEnds fencedOpening topFrom
 rw [PySem.W.Fast.te10274390034422433532,PySem.W.Fast.te14289696077712309145,PySem.W.Fast.te14082659384304107361,PySem.W.Fast.te14364793385576792824,PySem.W.Fast.te4187177175401517315,PySem.W.Fast.te5923862056798008813,PySem.W.Fast.te8920871248978507458]
 kernel_rfl
theorem EO:LeftO DW mG rT (fun s=>xlAt mG [] s&&recOk (RowW.records Challenge.rw_in0223_02.row.toRowW) s) (Hook.obs kX) (Hook.val kX) 5982 :=
 byRow2 (P:=zu) "special-get-raises" (byRow2 (P:=fun w=>zu (w.withFollow "special-get-raises" false)) "comprehension-iter-twice" De Dg) (byRow2 (P:=fun w=>zu (w.withFollow "special-get-raises" true)) "comprehension-iter-twice" Df Dh)
end L2
end Mp
end
namespace Mp
namespace L2
noncomputable def tl (x:Str):List Nat:=x.cps.toList
theorem rU (x y:Str):tl (x++y)=tl x++tl y:=by
 show (x.cps++y.cps).toList=_
 rw [Array.toList_append];rfl
theorem u4 {x y:Str} (h:tl x=tl y):x=y:=PySem.Str.ext' (Array.toList_inj.mp h)
theorem hW (x:Str):(tl x).length=x.length:=by unfold tl;rw [Array.length_toList];rfl
noncomputable def jn (s:List Nat):List (List Nat)→List Nat
 | []=>[]
 | [x]=>x
 | x::y::r=>x++s++jn s (y::r)
theorem eR (s x:List Nat) (r:List (List Nat)):jn s (x::r)=x++r.flatMap (s++·):=by
 induction r generalizing x with
 | nil=>simp [jn]
 | cons y r ih=>rw [jn,ih,List.flatMap_cons];simp
theorem wd (s:Str) (ss:List Str):tl (Txt.join s ss)=jn (tl s) (ss.map tl):=by
 have e:Txt.join s ss=Str.join s ss:=PySem.StrLaws.glued_eq_join _ _
 rw [e]
 clear e
 induction ss with
 | nil=>rfl
 | cons x r ih =>
  cases r with
  | nil=>rfl
  | cons y r =>
   show tl (x++s++Str.join s (y::r))=_
   rw [rU,rU,ih];rfl
noncomputable def fl (ss:List Str):List Nat:=ss.flatMap tl
theorem oJ (ss:List Str):tl (Txt.join (Str.ofString "") ss)=fl ss:=by
 rw [wd]
 have e:tl (Str.ofString "")=[]:=by decide +kernel
 rw [e]
 unfold fl
 cases ss with
 | nil=>rfl
 | cons x r=>rw [List.map_cons,eR,List.flatMap_cons,List.flatMap_map];simp
section
variable {P:Array Nat→Nat→Bool} {e:Array Nat→Nat→Nat} {text:Array Nat} {repl:Str}
noncomputable def fN (P:Array Nat→Nat→Bool) (e:Array Nat→Nat→Nat) (text:Array Nat) (s:Nat):Option (Nat×Nat):=(bR (P text) text.size s).map fun p=>(p,e text p)
theorem zv {f d:Nat} (h:¬ d<text.size):fl (subF (fN P e) text repl f d)=[]:=by
 cases f with
 | zero=>rfl
 | succ f =>
  unfold subF fN
  rw [cz h]
  dsimp only [Option.map_none]
  rw [if_neg h];rfl
theorem zx {f d:Nat} (h:d<text.size) (hp:P text d=true):fl (subF (fN P e) text repl (f+1) d)=tl repl++fl (subF (fN P e) text repl f (e text d)):=by
 conv=>lhs;unfold subF
 have q:fN P e text d=some (d,e text d):=by unfold fN;rw [d6 h hp];rfl
 rw [q]
 dsimp only
 rw [if_neg (Nat.lt_irrefl d)]
 rfl
theorem ext_cons {i j:Nat} (h:i<j) (h2:i<text.size):(text.extract i j).toList=text.getD i 0::(text.extract (i+1) j).toList:=by
 rw [Array.toList_extract,Array.toList_extract,List.extract_eq_take_drop,List.extract_eq_take_drop]
 rw [List.drop_eq_getElem_cons (by rw [Array.length_toList];exact h2)]
 have:j - i=(j - (i+1))+1:=by lia
 rw [this,List.take_succ_cons]
 simp [Array.getD,h2]
theorem we {f d:Nat} (h:d<text.size) (hp:P text d=false):fl (subF (fN P e) text repl (f+1) d)=text.getD d 0::fl (subF (fN P e) text repl (f+1) (d+1)):=by
 unfold subF
 have q:fN P e text d=fN P e text (d+1):=by unfold fN;rw [dB h hp]
 rw [q]
 cases hn:fN P e text (d+1) with
 | none =>
  dsimp only
  rw [if_pos h]
  have e1:fl [(⟨text.extract d text.size⟩:Str)]=(text.extract d text.size).toList:=by simp [fl,tl]
  rw [e1,ext_cons h h]
  by_cases h2:d+1<text.size
  ·rw [if_pos h2];simp [fl,tl]
  ·rw [if_neg h2]
   have:text.extract (d+1) text.size=#[]:=by
    apply Array.eq_empty_of_size_eq_zero;rw [Array.size_extract];lia
   rw [this];rfl
 | some pe =>
  obtain ⟨p,e'⟩:=pe
  dsimp only
  have wg:d+1≤p:=by
   unfold fN at hn
   rw [Option.map_eq_some_iff] at hn
   (refine xDPP hn ?_;try clear hn;intro q h1 h2)
   cases h2
   exact j8 h1
  rw [if_pos (by exact Nat.lt_of_succ_le wg:d<p)]
  have e1:∀ (i:Nat) (r:List Str),fl ([(⟨text.extract i p⟩:Str)]++r)=(text.extract i p).toList++fl r:=fun i r=>by simp [fl,tl]
  rw [e1,ext_cons (by exact Nat.lt_of_succ_le wg) h]
  by_cases h2:d+1<p
  ·rw [if_pos h2,e1];rfl
  ·rw [if_neg h2]
   have:text.extract (d+1) p=#[]:=by
    apply Array.eq_empty_of_size_eq_zero;rw [Array.size_extract];lia
   rw [this];rfl
end
theorem kY {text:Array Nat} {d:Nat} (h:d<text.size):text.toList.drop d=text.getD d 0::text.toList.drop (d+1):=by
 rw [List.drop_eq_getElem_cons (by rw [Array.length_toList];exact h)]
 simp [Array.getD,h]
noncomputable def cO:List Nat→List Nat
 | []=>[]
 | 13::10::r=>13::10::cO r
 | c::r=>if c=10∨c=13 then 13::10::cO r else c::cO r
theorem oK (r:List Nat):cO (13::10::r)=13::10::cO r:=by rw [cO]
theorem lT {c:Nat} {r:List Nat} (h:c=10∨c=13) (h2:c=13→∀ r',r≠10::r'):cO (c::r)=13::10::cO r:=by
 rw [cO,if_pos h]
 intro r' e e2
 exact h2 e r' e2
theorem mH {c:Nat} {r:List Nat} (h:¬ (c=10∨c=13)):cO (c::r)=c::cO r:=by
 rw [cO,if_neg h]
 intro r' e
 exact absurd (.inr e) h
theorem rV:tl (Str.ofString "\r\n")=[13,10]:=by decide +kernel
theorem kZ (text:Array Nat):∀ (n f d:Nat),text.size - d≤n→text.size<f+d→fl (subF (fN ix g7) text (Str.ofString "\r\n") f d)=cO (text.toList.drop d)
 | n,f,d,hn,hf=>by
  by_cases h:d<text.size
  ·obtain ⟨f,rfl⟩:∃ g,f=g+1:=⟨f - 1,by lia⟩
   obtain ⟨n,rfl⟩:∃ g,n=g+1:=⟨n - 1,by lia⟩
   rw [kY h]
   cases hp:ix text d with
   | true =>
    rw [zx h hp,rV]
    have wg:text.getD d 0=10∨text.getD d 0=13:=by
     unfold ix at hp
     rcases Bool.or_eq_true_iff.mp hp with q | q
     ·exact .inl (eq_of_beq q)
     ·exact .inr (eq_of_beq q)
    by_cases c:text.getD d 0=13∧d+1<text.size∧text.getD (d+1) 0=10
    ·have e:g7 text d=d+2:=by unfold g7;rw [if_pos c]
     rw [e,kZ text n f (d+2) (by lia) (by lia),c.1,kY c.2.1,c.2.2,oK];rfl
    ·have e:g7 text d=d+1:=by unfold g7;rw [if_neg c]
     rw [e,kZ text n f (d+1) (by lia) (by lia),lT wg];rfl
     intro J0 r' er
     refine c ⟨J0,?_⟩
     by_cases h2:d+1<text.size
     ·rw [kY h2] at er
      exact ⟨h2,(List.cons.inj er).1⟩
     ·rw [List.drop_eq_nil_of_le (by rw [Array.length_toList];exact Nat.le_of_not_lt h2)] at er;cases er
   | false =>
    rw [we h hp,kZ text n (f+1) (d+1) (by lia) (by exact Nat.lt_succ_of_lt hf),mH]
    intro q
    unfold ix at hp
    rcases q with q | q <;> rw [q] at hp <;> simp at hp
  ·rw [zv h,List.drop_eq_nil_of_le (by rw [Array.length_toList];exact Nat.le_of_not_lt h)];rfl
theorem Bd (x:Str):tl (ends x)=cO (tl x):=by
 unfold ends
 rw [oJ]
 have:=kZ x.cps x.cps.size (x.length+1) 0 (by exact Nat.sub_le x.cps.size 0) (by show x.length<_;exact Nat.lt_add_one x.length)
 rw [List.drop_zero] at this
 exact this
noncomputable def qy:Bool→List Nat→List Nat
 | _,[]=>[]
 | b,c::r=>if b=true∧c=46 then 46::46::qy false r else c::qy (c == 10) r
noncomputable def bol (text:Array Nat) (d:Nat):Bool:=d == 0||text.getD (d - 1) 0 == 10
theorem Be:tl (Str.ofString "..")=[46,46]:=by decide +kernel
theorem lU (text:Array Nat):∀ (n f d:Nat),text.size - d≤n→text.size<f+d→fl (subF (fN kJ fun Z p=>p+1) text (Str.ofString "..") f d)=qy (bol text d) (text.toList.drop d)
 | n,f,d,hn,hf=>by
  by_cases h:d<text.size
  ·obtain ⟨f,rfl⟩:∃ g,f=g+1:=⟨f - 1,by lia⟩
   obtain ⟨n,rfl⟩:∃ g,n=g+1:=⟨n - 1,by lia⟩
   rw [kY h]
   have hb:bol text (d+1)=(text.getD d 0 == 10):=by
    unfold bol
    rw [show (d+1 == 0)=false from by simp,Bool.false_or,Nat.add_sub_cancel]
   cases hp:kJ text d with
   | true =>
    rw [zx h hp,Be]
    have wg:bol text d=true∧text.getD d 0=46:=by
     unfold kJ at hp
     exact ⟨(Bool.and_eq_true_iff.mp hp).1,eq_of_beq (Bool.and_eq_true_iff.mp hp).2⟩
    rw [lU text n f (d+1) (by lia) (by lia),hb,wg.2,qy,if_pos ⟨wg.1,rfl⟩]
    rfl
   | false =>
    rw [we h hp,lU text n (f+1) (d+1) (by lia) (by exact Nat.lt_succ_of_lt hf),hb,qy,if_neg]
    intro q
    unfold kJ at hp
    unfold bol at q
    rw [q.1,q.2] at hp;simp at hp
  ·rw [zv h,List.drop_eq_nil_of_le (by rw [Array.length_toList];exact Nat.le_of_not_lt h)];rfl
theorem zy (x:Str):tl (stuff x)=qy true (tl x):=by
 unfold stuff
 rw [oJ]
 have:=lU x.cps x.cps.size (x.length+1) 0 (by exact Nat.sub_le x.cps.size 0) (by show x.length<_;exact Nat.lt_add_one x.length)
 rw [List.drop_zero] at this
 exact this
theorem tu (x:Str):tl (quote x)=qy true (cO (tl x)):=by
 unfold quote;rw [zy,Bd]
noncomputable def Plain (r:List Nat):Prop:=∀ c∈r,c≠10∧c≠13
theorem d8 {r:List Nat} (h:Plain r) (t:List Nat):cO (r++t)=r++cO t:=by
 induction r with
 | nil=>rfl
 | cons c r ih =>
  have hc:=h c (.head _)
  rw [List.cons_append,mH (by exact not_or.mpr hc),ih fun x hx=>h x (.tail _ hx)];rfl
theorem qz {r:List Nat} (h:Plain r) (t:List Nat):qy false (r++t)=r++qy false t:=by
 induction r with
 | nil=>rfl
 | cons c r ih =>
  have hc:=h c (.head _)
  rw [List.cons_append,qy,if_neg (by exact of_decide_eq_false rfl),show (c == 10)=false from by simpa using hc.1,ih fun x hx=>h x (.tail _ hx)];rfl
noncomputable def dd:List Nat→List Nat
 | 46::r=>46::46::r
 | r=>r
theorem zz (r:List Nat):dd (46::r)=46::46::r:=by rw [dd]
theorem tw {c:Nat} {r:List Nat} (h:c≠46):dd (c::r)=c::r:=by
 rw [dd]
 intro r' e
 exact h (List.cons.inj e).1
theorem wh {r:List Nat} (hn:r≠[]) (h:Plain r) (t:List Nat):qy true (r++t)=dd r++qy false t:=by
 cases r with
 | nil=>exact absurd rfl hn
 | cons c r =>
  have hc:=h c (.head _)
  have hr:Plain r:=fun x hx=>h x (.tail _ hx)
  rw [List.cons_append,qy]
  by_cases q:c=46
  ·rw [if_pos ⟨rfl,q⟩,qz hr,q,zz];rfl
  ·rw [if_neg (fun z=>q z.2),tw q,show (c == 10)=false from by simpa using hc.1,qz hr];rfl
theorem zA (t:List Nat):qy false (13::10::t)=13::10::qy true t:=by
 rw [qy,if_neg (by exact of_decide_eq_false rfl),qy]
 rw [if_neg (by exact of_decide_eq_false rfl)];rfl
theorem xC {r:List Nat} (hn:r≠[]) (h:Plain r) (t r':List Nat):r++t≠10::r':=by
 cases r with
 | nil=>exact absurd rfl hn
 | cons c r =>
  have hc:=h c (.head _)
  intro e
  exact hc.1 (List.cons.inj e).1
noncomputable def mI (e:List Nat):Prop:=e=[13,10]∨e=[10]∨e=[13]
theorem ka:∀ (es rs:List (List Nat)),es.length=rs.length→(∀ e∈es,mI e)→(∀ r∈rs,r≠[]∧Plain r)→cO ((List.zipWith (·++·) es rs).flatten)=rs.flatMap ([13,10]++·)
 | [],[],_,_,_=>rfl
 | e::es,r::rs,hl,he,hr=>by
  rw [List.zipWith_cons_cons,List.flatten_cons,List.flatMap_cons,List.append_assoc]
  obtain ⟨h1,h2⟩:=hr r (.head _)
  have ih:=ka es rs (by exact Nat.add_right_cancel hl) (fun x hx=>he x (.tail _ hx)) fun x hx=>hr x (.tail _ hx)
  rcases he e (.head _) with rfl | rfl | rfl
  ·show cO (13::10::(r++_))=_
   rw [oK,d8 h2,ih];simp
  ·show cO (10::(r++_))=_
   rw [lT (.inl rfl) (by simp),d8 h2,ih];simp
  ·show cO (13::(r++_))=_
   rw [lT (.inr rfl) (fun Z=>xC h1 h2 _),d8 h2,ih];simp
theorem zB {rs:List (List Nat)} (hr:∀ r∈rs,r≠[]∧Plain r):cO (jn [13,10] rs)=jn [13,10] rs:=by
 cases rs with
 | nil=>rfl
 | cons r rs =>
  rw [eR,d8 (hr r (.head _)).2]
  congr 1
  have h:=ka (rs.map fun Z=>[13,10]) rs (by simp) (fun e he=>by
   obtain ⟨_,_,rfl⟩:=List.mem_map.mp he;exact .inl rfl) fun x hx=>hr x (.tail _ hx)
  rw [← h]
  congr 1
  rw [h]
  clear h hr
  induction rs with
  | nil=>rfl
  | cons x rs ih=>rw [List.flatMap_cons,List.map_cons,List.zipWith_cons_cons,List.flatten_cons,← ih]
theorem tx:∀ (rs:List (List Nat)),(∀ r∈rs,r≠[]∧Plain r)→qy false (rs.flatMap ([13,10]++·))=(rs.map dd).flatMap ([13,10]++·)
 | [],_=>rfl
 | r::rs,h=>by
  (refine aK (h r (.head _)) ?_;intro h1 h2)
  rw [List.flatMap_cons,List.map_cons,List.flatMap_cons,List.append_assoc]
  show qy false (13::10::(r++_))=_
  rw [zA,wh h1 h2,tx rs fun x hx=>h x (.tail _ hx)];simp
theorem zC {rs:List (List Nat)} (h:∀ r∈rs,r≠[]∧Plain r):qy true (jn [13,10] rs)=jn [13,10] (rs.map dd):=by
 cases rs with
 | nil=>rfl
 | cons r rs =>
  (refine aK (h r (.head _)) ?_;intro h1 h2)
  rw [eR,List.map_cons,eR,wh h1 h2,tx rs fun x hx=>h x (.tail _ hx)]
end L2
section
variable {prog:Program} {w:World} {A:Around} {E:Value→Shared→Prop} {s:Shared} {l m:Addr}
theorem nq {its:Array Value} {n:Nat} {sl:Array (Option Value)} {x:Value} {Q:Value→Shared→Prop} (hm:s.heap.get? m=some ⟨.type "builtin_function_or_method",none,.fields #[.builtin "list.append",.ref l],sl⟩)
  (ho:s.heap.get? l=some ⟨.type "list",none,.seq its n,#[]⟩) (hQ:∀ h',h'.get? l=some ⟨.type "list",none,.seq (its.push x) (n+1),#[]⟩→Heap.SameBut l s.heap h'→Q .none {s with heap:=h'}) (sJ:its.size≤sizeLine) :
  wpAny (model prog w) A (call (.ref m) [x]) Q E s:=by
 have ko:s.heap.get? l=some (seqObj "list" its n):=ho
 refine wpAny_call (gB (.inl rfl) hm slot_list_append.plain entry_list_append (rK ho ?_))
 show wpAny _ _ (updateSeq l (·.push x) >>= fun Z=>ret .none) _ _ s
 refine wpAny_bind ?_
 refine wpAny_updateSeq ho rfl (wpAny_pure (hQ _ ?_ (Heap.SameBut.update ..)))
 rw [get?_update_seq ko (·.push x)]
 have:((its.push x).size == its.size)=false:=by simp
 rw [this];rfl
end
theorem pX {M:Model} {A:Around} {E:Value→Shared→Prop} {s:Shared} {B:String} {env:Env} {e:Expr} {pos:Pos} {u:Addr} {vs:Array Value} {sl:Array (Option Value)} {Q:Value→Shared→Prop} (hB:B="builtin_function_or_method"∨B="method-wrapper") (ug:starEach [e] env=[(false,eval e env)])
  (h:wpAny M A (spliced (backTo pos (starEach [e] env))) (fun as s₁=>s₁.heap.get? u=some ⟨.type B,none,.fields vs,sl⟩∧wpAny M A (call (.ref u) as) Q E s₁) E s):wpAny M A (callWith pos (.ref u) [] (backTo pos (starEach [e] env)) []) Q E s:=by
 rw [ug] at h ⊢
 exact kU hB rfl (Calls.evalArgs_plain h)
section
variable {X:Cx} {A:Around} {env:Env} {loc:Loc} {cells:Cells}
theorem oM {o:Expr} {p:Pos} {Ψ:V→Loc→Cells→Prop} (h:mE X A env (eval o env) (fun ov l c=>∃ a xs,ov=.ref a∧c a=some (.list xs)∧∀ u,c u=none→Ψ (.ref u) l (upd c u (some (.qQ "list.append" a)))) loc cells)
  (he:autoParam (eval (.Attribute o "append" p) env=(do let v ← eval o env;standAt p.atName;let r ← holding [v] (getAttr v "append" true);letTemporaryGo o v r;pure r)) aR):mE X A env (eval (.Attribute o "append" p) env) Ψ loc cells:=fun own s I=>by
 refine Attribute_any_ (h.use I fun aL l1 c1 ov v1 s1 I1 r1 x1 cR=>xDDPPP cR fun a xs ea hc h1=>?_) he
 subst ea
 refine RV.e0 r1 rfl ?_
 (refine eu (I1.base.cell a _ hc) ?_;intro oa vs n e rs)
 obtain ⟨hh,g,d,t,os⟩:=s1
 refine lQ e ?_
 (refine aP (I1.base.jh (t:=t+1) (ob:={ cls:=.type "builtin_function_or_method",data:=.fields #[.builtin "list.append",.ref a]}) (c':=.qQ "list.append" a) rfl (Heap.get?_push_size _ rfl)) ?_;intro B x nn)
 exact ⟨_,l1,_,.ref _,⟨B,I1.ok,I1.fr.ext x⟩,.ref _,x1.trans x.gI,h1 _ nn⟩
theorem gF {f:Str} {np pos:Pos} {e:Expr} {u a:Addr} {Ψ:V→Loc→Cells→Prop} (hl:loc.lookup f=some (.ref u))
  (h:mE X A env (eval e env) (fun x l c=>∃ xs,c u=some (.qQ "list.append" a)∧c a=some (.list xs)∧xs.length≤sizeLine∧Ψ .none l (upd c a (some (.list (xs++[x]))))) loc cells)
  (ug:autoParam (starEach [e] env=[(false,eval e env)]) aR) (hd:autoParam ((f == ("__debug__":Str))=false) aDK) (GN:autoParam ((f == ("__classdict__":Str))=false) aDK):mE X A env (eval (.Call (.Name f np) [e] [] pos) env) Ψ loc cells:=fun own s I=>by
 refine wpAny_Call_NameR ?_
 refine (m_var (Ψ:=fun v l c=>v=.ref u∧l=loc∧c=cells) hl ⟨rfl,rfl,rfl⟩ hd GN).use I fun aL l1 c1 b v1 s1 I1 r1 x1 h1=>?_
 (refine aP h1 ?_;try clear h1;intro aV;subst aV;intro bj;subst bj;intro bH;subst bH)
 refine RV.e0 r1 rfl ?_
 refine pX (sl:=#[]) (vs:=#[.builtin "list.append",.ref a]) (.inl rfl) ug ?_
 refine (af (rest:=[]) (p:=pos) (Ψ:=fun as l c=>∃ x,as=[x]∧∃ xs,c u=some (.qQ "list.append" a)∧c a=some (.list xs)∧xs.length≤sizeLine∧Ψ .none l (upd c a (some (.list (xs++[x]))))) (h.mono fun x l c q=>a_nil (iDPP x rfl q)) ug).use I1 fun aI l2 c2 as vs s2 I2 r2 x2 fu=>yu fu fun x ea xs hu hc hz hΨ=>?_
 subst ea
 (refine xDPP r2.one ?_;intro v cw;subst cw;intro rv)
 (refine eu (I2.base.cell a _ hc) ?_;intro oa its n e rs)
 have hm:s2.heap.get? u=some ⟨.type "builtin_function_or_method",none,.fields #[.builtin "list.append",.ref a],#[]⟩:=(I2.base.cell u _ hu).2
 have z:its.size=xs.length:=by simpa using rs.1
 refine ⟨hm,nq (l:=a) hm e (fun h7 e7 CE=>?_) (by lia)⟩
 have kp:∀ b o,b≠a→s2.heap.get? b=some o→h7.get? b=some o:=fun b o hb e=>(CE.2 b hb).trans e
 have Ir:∀ v x,RV aI s2.heap v x→RV aI h7 v x:=fun v x r=>iP I2.base hc kp r
 (refine aK (I2.base.kA (t:=s2.toks) hc kp (bA _ e7) (c':=.list (xs++[x])) (eB _ (n+1) e7 (by rw [Array.toList_push];exact (rs.mono Ir).append (.cons (Ir _ _ rv) .nil)))) ?_;intro B y)
 exact ⟨aI,l2,_,.none,⟨B,I2.ok,I2.fr.ext y⟩,.vI,x1.trans (x2.trans y.gI),hΨ⟩
end
section
open PySem.Sre PySem.Sre.M
noncomputable def CF:Array Nat:=#[14,14,4,1,1,9,0,64,0,1342177280,0,0,0,0,0,17,0,13,11,9,0,64,0,1342177280,0,0,0,0,0,17,1,1]
noncomputable def amp (c:Nat):Bool:=c == 38||c == 124||c == 126
theorem xD:∀ c,c<256→(CF.getD (6+c / 32) 0).testBit (c % 32)=amp c:=by decide +kernel
theorem Bf {c:Nat} (h:¬ c<256):amp c=false:=by
 unfold amp
 rw [show (c == 38)=false by simp;lia,show (c == 124)=false by simp;lia,show (c == 126)=false by simp;lia];rfl
theorem Bg (c:Nat) (seen:Sre.Seen):∃ br,inSet CF c CF.size 5 true seen=.ok (amp c,br):=by
 have e:inSet CF c CF.size 5 true seen=(if (decide (c<256)&&(CF.getD (5+(1+c / 32)) 0).testBit (c % 32))=true then .ok (true,seen.add (CF.getD (5+0) 0)) else inSet CF c (CF.size - 1) (5+9) true (seen.add (CF.getD (5+0) 0))):=rfl
 rw [e,show 5+(1+c / 32)=6+c / 32 by lia]
 by_cases h:c<256
 ·rw [xD c h]
  cases ha:amp c with
  | true=>rw [if_pos (by simp [h])];exact (bA _ rfl)
  | false=>rw [if_neg (by simp)];exact (bA _ rfl)
 ·rw [if_neg (by simp [h]),Bf h];exact (bA _ rfl)
theorem oN {text:Array Nat} (m:M) (hm:m.code=CF) (ht:m.text=text) (hl:m.lim=text.size) (hn:∀ i,i<text.size→amp (text.getD i 0)=false):∀ (fuel s:Nat) (seen:Sre.Seen),∃ br,admitted m fuel s seen=.ok (none,br)
 | 0,s,sn=>(bA _ rfl)
 | fuel+1,s,sn=>by
  rw [admitted,hm,ht,hl]
  by_cases hs:s ≥ text.size
  ·rw [if_pos hs];exact (bA _ rfl)
  ·rw [if_neg hs]
   (refine ba (Bg (text.getD s 0) sn) ?_;intro br e)
   rw [e,hn s (by exact Nat.lt_of_not_le hs)]
   exact oN m hm ht hl hn fuel (s+1) br
noncomputable def m1 (text:Array Nat) (start:Nat):M:={ forSearch CF text 1 start text.size false with}
theorem zD {text:Array Nat} (hn:∀ i,i<text.size→amp (text.getD i 0)=false):Run 5 (forSearch CF text 1 0 text.size false) (rB none):=by
 have e:forSearch CF text 1 0 text.size false=if (decide (0 > text.size)||decide (text.size - 0<1))=true then
   ({ code:=CF,text,lim:=text.size,start:=0,pc:=15,pos:=0,handed:=0,marks:=Array.replicate 2 none,mustAdvance:=false,seen:=({}:Sre.Seen).add 14}:M).say false else
   ({ code:=CF,text,lim:=text.size,start:=0,pc:=15,pos:=0,handed:=0,marks:=Array.replicate 2 none,mustAdvance:=false,seen:=({}:Sre.Seen).add 14,lastStart:=text.size}:M).attemptFrom 0 true:=rfl
 rw [e]
 by_cases h:text.size - 0<1
 ·refine .pos (by rw [Bool.or_eq_true];exact .inr (decide_eq_true h)) ?_
  exact .step rfl (.done ⟨rfl,rfl⟩)
 ·refine .neg (fun q=>(Bool.or_eq_true _ _▸q).elim (fun q=>absurd (of_decide_eq_true q) (by exact Nat.not_lt_zero text.size)) fun q=>h (of_decide_eq_true q)) ?_
  (refine ba (oN ({ code:=CF,text,lim:=text.size,start:=0,pc:=15,pos:=0,handed:=0,marks:=Array.replicate 2 none,mustAdvance:=false,seen:=({}:Sre.Seen).add 14,lastStart:=text.size}:M) rfl rfl rfl hn (text.size+1 - 0) 0 (({}:Sre.Seen).add 14)) ?_;intro br e)
  have hf:(!M.hasFirstSet ({ code:=CF,text,lim:=text.size,start:=0,pc:=15,pos:=0,handed:=0,marks:=Array.replicate 2 none,mustAdvance:=false,seen:=({}:Sre.Seen).add 14,lastStart:=text.size}:M))=false:=rfl
  unfold M.attemptFrom
  rw [hf,if_neg (by decide)]
  rw [show admitted ({ code:=CF,text,lim:=text.size,start:=0,pc:=15,pos:=0,handed:=0,marks:=Array.replicate 2 none,mustAdvance:=false,seen:=({}:Sre.Seen).add 14,lastStart:=text.size}:M) (({ code:=CF,text,lim:=text.size,start:=0,pc:=15,pos:=0,handed:=0,marks:=Array.replicate 2 none,mustAdvance:=false,seen:=({}:Sre.Seen).add 14,lastStart:=text.size}:M).lim+1 - 0) 0 ({ code:=CF,text,lim:=text.size,start:=0,pc:=15,pos:=0,handed:=0,marks:=Array.replicate 2 none,mustAdvance:=false,seen:=({}:Sre.Seen).add 14,lastStart:=text.size}:M).seen=_ from e]
  exact .step rfl (.done ⟨rfl,rfl⟩)
open PySem.Builtin.Re in
noncomputable def rW (K:PySem.W.Frag) (p:Addr):Prop:=∃ fs sl cl oc items n,K.lookup p=some ⟨.type "re.Pattern",none,.fields fs,sl⟩∧fs.getD 5 .none=.ref cl∧reRawNat (fs.getD 6 .none)=0∧reRawNat (fs.getD 2 .none)=1∧K.lookup cl=some oc∧oc.data=.seq items n∧(items.map reRawOf).map (·.toNat)=CF
section
open PySem.Builtin.Re
variable {prog:Program} {w:World} {A:Around} {E:Value→Shared→Prop} {s:Shared} {p:Addr} {x:Str} {t:Tok}
structure mJ (h:Heap) (p:Addr):Prop where
 ex:∃ fs d sl cl oc items n,h.get? p=some ⟨.type "re.Pattern",d,.fields fs,sl⟩∧fs.getD 5 .none=.ref cl∧reRawNat (fs.getD 6 .none)=0∧reRawNat (fs.getD 2 .none)=1∧h.get? cl=some oc∧oc.data=.seq items n∧(items.map reRawOf).map (·.toNat)=CF
theorem mJ.keeps {h h':Heap} {p:Addr} (P:mJ h p) (hk:∀ b o,h.get? b=some o→h'.get? b=some o):mJ h' p:=by
 (refine iq P.ex ?_;intro fs d sl cl oc items n h1 h2 h3 h4 h5 h6 h7)
 exact ⟨fs,d,sl,cl,oc,items,n,hk _ _ h1,h2,h3,h4,hk _ _ h5,h6,h7⟩
theorem mJ.typeIs {s:Shared} {p:Addr} (P:mJ s.heap p):s.TypeIs (.ref p) "re.Pattern":=by
 (refine nS P.ex ?_;intro fs d sl cl oc items n h1 Z)
 exact (iDPP _ h1 rfl)
noncomputable def EP (p:Addr) (x:Str) (t:Tok):ReTarget:={ pattern:=.ref p,string:=.str x t,code:=CF,text:=x.cps,kind:=0,groups:=1,pos:=0,lim:=x.cps.size}
theorem k5 {Q:ReTarget→Shared→Prop} (P:mJ s.heap p) (h:Q (EP p x t) s):wpAny (model prog w) A (reWholeTarget (.ref p) (.str x t)) Q E s:=by
 (refine iq P.ex ?_;intro fs d sl cl oc items n h1 h2 h3 h4 h5 h6 h7)
 unfold reWholeTarget
 refine wpAny_bind (wpAny_fieldsOf h1 rfl ?_)
 show wpAny _ _ (do
  let (text,kind) ← (pure (x.cps,0):Sem (Array Nat×Nat))
  _) _ _ _
 refine wpAny_bind (wpAny_pure ?_)
 dsimp only
 rw [h3]
 refine wpAny_bind (wpAny_pure ?_)
 rw [h2]
 unfold reRawItems
 refine wpAny_bind (wpAny_bind (wpAny_seqItems h5 h6 (wpAny_pure ?_)))
 refine wpAny_pure ?_
 show Q { pattern:=.ref p,string:=.str x t,code:=(items.map reRawOf).map (·.toNat),text:=x.cps,kind:=0,groups:=reRawNat (fs.getD 2 .none),pos:=0,lim:=x.cps.size} s
 rw [h4,h7]
 exact h
theorem Bh:∃ v,typeLookup (.type "function") "__call__"=pure (some v):=(bA (.builtin "function.__call__") (by rw [typeLookup_type,builtinLookup_eq_fast];kernel_rfl))
theorem zE {Q:Option Sre.M→Shared→Prop} (hn:∀ i,i<x.cps.size→amp (x.cps.getD i 0)=false) (h:Q none s):wpAny (model prog w) A (reNextFound (EP p x t) 0 false) Q E s :=
 kM (zD hn) (by exact Nat.le_of_ble_eq_true rfl) fun m' hm=>h
noncomputable def Ce (p:Addr) (x:Str) (t:Tok) (f l:Addr):Args:=⟨[.ref p,.str x t,.ref f,rawInt 1,rawInt 0,rawInt 0,rawInt 0,rawInt 0,.bool false,.ref l,.bool false],[]⟩
theorem zF {f l:Addr} {R:Result→Shared→Prop} (hn:∀ i,i<x.cps.size→amp (x.cps.getD i 0)=false) (hz:x.length≤1000000) (P:mJ s.heap p) (DU:∀ b o,b≠l→s.heap.get? b=some o→True) (hl:PlainL s.heap l #[])
  (hR:∀ h' k t',(∀ b o,b≠l→s.heap.get? b=some o→h'.get? b=some o)→R (.ok (.ret (.str x t'))) {s with heap:=h',toks:=k}) :
  codeAny (model prog w) A (.builtin "re.Pattern.sub.loop" (Ce p x t f l)) R s:=by
 have key:∀ d ps,(d=0∧ps=(if 0<x.cps.size then [(⟨x.cps.extract 0 x.cps.size⟩:Str)] else []))→Txt.join (Str.ofString "") ([]++ps)=x:=by
  rintro d ps ⟨-,rfl⟩
  obtain ⟨cs⟩:=x
  by_cases h:0<cs.size
  ·rw [if_pos h]
   show (⟨cs.extract 0 cs.size⟩:Str)=⟨cs⟩
   rw [Array.extract_size]
  ·rw [if_neg h]
   have:cs=#[]:=Array.eq_empty_of_size_eq_zero (by exact Nat.eq_zero_of_not_pos h)
   rw [this];rfl
 refine codeAny_builtin fF ?_
 rw [Around.under_plainId cm _]
 unfold Builtin.«re.Pattern.sub.loop»
 dsimp only [Ce,rawInt]
 refine wpAny_bind (k5 P ?_)
 refine wpAny_bind (zE hn ?_)
 dsimp only
 show wpAny _ _ (if 0<x.cps.size then (do let v ← reSlice x.cps 0 0 x.cps.size;updateSeq l (fun x=>x.push v);qt x l 0) else qt x l 0) _ _ _
 by_cases iE:0<x.cps.size
 ·rw [if_pos iE]
  refine wpAny_bind (iW (Nat.le_trans hz (by unfold sizeLine;lia)) fun u k=>?_)
  refine wpAny_bind (g9 hl (by exact Array.none_eq_getElem?_iff.mp rfl) fun h' jP kp=>?_)
  refine nD (s:={s with heap:=h',toks:=k}) (acc:=[⟨x.cps.extract 0 x.cps.size⟩]) jP (strs_snoc (ss:=[]) .nil) ?_ (by exact List.getElem?_eq_none_iff.mp rfl) fun k' t'=>?_
  ·show (x.cps.extract 0 x.cps.size).size+0≤_
   rw [Array.extract_size]
   have:x.cps.size≤1000000:=hz
   lia
  ·have:=key 0 [⟨x.cps.extract 0 x.cps.size⟩] ⟨rfl,by rw [if_pos iE]⟩
   rw [List.nil_append] at this
   rw [this];exact hR h' k' t' kp
 ·rw [if_neg iE]
  refine nD (acc:=[]) hl .nil (by exact Nat.le_of_ble_eq_true rfl) (by exact List.getElem?_eq_none_iff.mp rfl) fun k' t'=>?_
  have:=key 0 [] ⟨rfl,by rw [if_neg iE]⟩
  rw [List.nil_append] at this
  rw [this];exact hR s.heap k' t' fun Z Z Z e=>e
theorem u5 {id:String} {Q:Unit→Shared→Prop} (h:Q () s):wpAny (model prog w) A (reNotHeld id (.str x t)) Q E s:=by
 have f1:isSubtype (.type "str") (.type "bytearray")=pure false:=by rw [isSubtype_type];kernel_rfl
 unfold reNotHeld
 repeat (any_goals (first | assumption | wp_step))
end
section
open PySem.Builtin.Re
variable {X:Cx} {A:Around} {env:Env} {loc:Loc} {cells:Cells} {own:Own} {s:Shared} {Ψ:V→Cells→Prop} {p:Addr}
theorem rW.here (P:rW X.K p) (K:X.K.In s.heap):mJ s.heap p:=by
 (refine fq P ?_;try clear P;intro fs sl cl oc items n h1 h2 h3 h4 h5 h6 h7)
 exact ⟨(mY fs none sl cl oc items n (K _ _ h1) h2 h3 h4 (K _ _ h5) h6 h7)⟩
theorem rW.AW (P:rW X.K p) {Θ:V→List V→Cells→Prop} (h:Θ (.bi "re.Pattern.sub") [.ref p] cells):jC X A (.ref p) "sub" Θ cells :=
 eZ (T:="re.Pattern") iU eQ kK (fun own s v I r=>by
  refine RV.e0 r rfl ?_
  (refine qh P ?_;try clear P;intro fs sl cl oc items n h1 Z)
  exact ⟨⟨_,I.K _ _ h1,rfl⟩,fun a q=>by cases q;exact (iDPP _ (I.K _ _ h1) rfl)⟩) h
theorem Di {f:Addr} {x:Str} (P:rW X.K p) (hf:cells f=some (.nU "function")) (hn:∀ i,i<x.cps.size→amp (x.cps.getD i 0)=false) (hz:x.length≤1000000) (h:Ψ (.str x) cells):aE X A (.bi "re.Pattern.sub") [.ref p,.ref f,.str x] Ψ cells:=fun fv vs own s I ⟨rf,rs⟩=>by
 refine RV.e0 rf rfl ?_
 (refine xDDPPP rs.cK ?_;intro v1 jB aV;subst aV;intro r1 rs)
 (refine xDDPPP rs.two ?_;intro v2 v3 bj;subst bj;intro r2 r3)
 refine RV.e0 r1 rfl ?_;refine RV.e0 r2 rfl ?_;refine RV.e1 r3 rfl fun Z=>?_
 rename_i t3
 (refine jy (I.cell f _ hf) ?_;intro of o ho ku)
 have PH:=P.here I.K
 obtain ⟨cv,J1⟩:=Bh
 refine gR eQ PH.typeIs jG ?_ (kL _ _ _)
 unfold Builtin.«re.Pattern.sub» reSubstitute
 dsimp only
 rw [y3]
 refine wpAny_bind (wpAny_pure ?_)
 dsimp only
 refine wpAny_bind (wpAny_pure ?_)
 refine wpAny_bind (wpAny_specialOf (T:="function") (iDPP o ho ku) J1 ?_)
 rw [if_pos (show ((some cv:Option Value).isSome=true) from rfl)]
 refine wpAny_bind (wpAny_pure ?_)
 rw [if_pos (show ((some cv:Option Value).isSome=true) from rfl)]
 refine wpAny_bind (wpAny_pure ?_)
 dsimp only
 refine wpAny_bind (wpAny_holding (k5 PH ?_))
 rw [if_pos (show (((1:Int) == 1)=true) from rfl)]
 refine wpAny_bind (u5 ?_)
 refine wpAny_bind (wpAny_newList ?_ (by decide))
 refine wpAny_pure ⟨plainId_quiet cm _,?_⟩
 have Ex:∀ b o,s.heap.get? b=some o→(s.heap.push { cls:=.type "list",data:=.seq ([]:List Value).toArray}).get? b=some o:=fun b o e=>Heap.get?_push_of_some _ e
 refine zF (l:=s.heap.objs.size) (s:={s with heap:=s.heap.push { cls:=.type "list",data:=.seq ([]:List Value).toArray}}) hn hz (PH.keeps Ex) (fun Z Z Z Z=>trivial) ⟨_,_,Heap.get?_push_size _ rfl,rfl,rfl,rfl⟩ fun h' k t' kp=>?_
 refine mb_end (b:=.str _) I rfl (fun b o e=>kp b o (fun z=>?_) (Ex b o e)) (.str _ _) h
 rw [z,ao] at e;cases e
end
end
noncomputable def ER (X:Cx):Prop:=∃ bm o,X.mg "__builtins__"=some (.ref bm)∧bm≠builtinsNs∧bm≠mainGlobals∧X.h₀.get? bm=some o∧o.cls=.type "module"∧o.dict=some builtinsNs∧o.data=.plain
section
variable {X:Cx} {A:Around} {env:Env} {loc:Loc} {cells:Cells}
theorem xE {cells:Cells} {a:Addr} {c:Option Cell} (h:cells a=c):upd cells a c=cells:=by
 funext b
 unfold upd
 split
 ·rename_i q;rw [q,h]
 ·rfl
theorem zG {params:Arguments} {body:Expr} {scope:Scope} {pos:Pos} {c P:Addr} {Hc:List (Str×Addr)} {Ψ:V→Loc→Cells→Prop} (Cf:env.code=.ref c) (hC:PySem.W.codeHdIn X.K c P=true) (hP:cells P=some .tab) (hB:ER X)
  (h:∀ f,cells f=none→Ψ (.ref f) loc (upd cells f (some (.nU "function")))) (ku:autoParam (closureFor scope env=pure Hc) aR) (Hd:autoParam (defaultsOf params env=([],[])) aR):mE X A env (eval (.Lambda params body scope pos) env) Ψ loc cells:=fun own s I=>by
 (refine jy (I.base.cell P _ hP) ?_;intro oP ps eP tP)
 have CH:=PySem.W.codeHd_of_K I.base.K hC
 (refine jO hB ?_;try clear hB;intro bm o b1 b2 b3 b4 b5 b6 b7)
 have nP:X.h₀.get? P=none:=I.base.new P P oP
 have J2:mainGlobals≠P:=fun q=>by
  (refine ej X.hg ?_;intro o es ep e Z)
  rw [q,nP] at e;cases e
 have hb:s.heap.BuiltinsAt X.mg P:=(sC bm o b1 b2 b3 (fun q=>by rw [q,nP] at b4;(cases b4)) (I.base.old.get_of_cls b4 (by rw [b5];simp)) b5 b6 b7)
 have fin:∀ (h':Heap) (ob:Obj) (tk:Tok),ob.isFreed=false→ob.cls=.type "function"→(∀ b o,b≠P→s.heap.get? b=some o→h'.get? b=some o)→(∃ FN,h'.get? P=some (PySem.W.tabObj FN)∧TriplesOk FN.toList) →
   gJ X env RV own cells s.heap Ψ (.ref h'.objs.size) {s with heap:=h'.push ob,toks:=tk}:=fun h' ob tk hf hc hk aV=>xDPP aV fun FN e' t'=>by
  (refine aK (I.base.kA (t:=tk) hP hk (bA _ e') (c':=.tab) (iDPP FN e' t')) ?_;intro B1 x1)
  rw [xE hP] at B1 x1
  (refine aP (B1.jh (t:=tk) (ob:=ob) (c':=.nU "function") hf (iDPP _ (Heap.get?_push_size _ hf) hc)) ?_;intro B2 x2 n2)
  exact ⟨_,loc,_,.ref _,⟨B2,I.ok,(I.fr.ext x1).ext x2⟩,.ref _,x1.gI.trans x2.gI,h _ n2⟩
 refine PySem.W.kla_eval Hd ?_
 cases hf:codeAmong pos ps.toList with
 | none =>
  refine PySem.W.kla_makeFunction ku I.ok.glob I.base.hg Cf CH eP tP hf J2 hb fun c' J3 h' tk hx Ij iE J4 J5=>?_
  refine fin h' _ tk rfl rfl (fun b o hb e=>hx b o hb e) (iDPP _ J5 ?_)
  rw [Array.toList_append]
  exact TriplesOk_snoc _ _ _ _ tP
 | some cv =>
  refine PySem.W.kla_makeFunctionHit ku I.ok.glob I.base.hg Cf CH eP tP hf hb fun J3 h' tk hk sJ=>?_
  exact fin h' _ tk rfl rfl (fun b o Z e=>hk b o e) (iDPP ps (hk _ _ eP) tP)
end
noncomputable def Bi (e:DictEntry):Bool:=match e.key,e.val with
 | .int k _,.str t _=>decide (0≤k)&&e.hash == hashInt k&&t.cps == #[92,k.toNat]
 | _,_=>false
noncomputable def tA (e:DictEntry):Nat:=match e.key with | .int k _=>k.toNat | _=>0
noncomputable def xF (K:PySem.W.Frag) (d:Addr) (ks:List Nat):Bool:=match K.lookup d with
 | some o=>o.cls == .type "dict"&&o.dict == none&&o.slots.size == 0&&match o.data with | .dict es _=>es.toList.all Bi&&es.toList.map tA == ks | _=>false
 | none=>false
theorem wj {e:DictEntry} (h:Bi e=true):∃ (k:Nat) (u t:Tok),e.key=.int k u∧e.hash=hashInt k∧e.val=.str ⟨#[92,k]⟩ t∧tA e=k:=by
 obtain ⟨hs,key,val⟩:=e
 unfold Bi at h
 split at h
 ·rename_i k u t v e1 e2
  cases e1;cases e2
  rw [Bool.and_eq_true,Bool.and_eq_true] at h
  (refine aK h ?_;try clear h;intro aV h3;refine aK aV ?_;clear aV;intro h1 h2)
  have h1:=of_decide_eq_true h1
  obtain ⟨n,rfl⟩:∃ n:Nat,k=n:=(bA k.toNat (by exact Int.eq_natCast_toNat.mpr h1))
  refine ⟨n,u,v,rfl,eq_of_beq h2,?_,rfl⟩
  obtain ⟨cs⟩:=t
  have:cs=#[92,n]:=eq_of_beq h3
  rw [this]
 ·cases h
theorem wk {prog:Program} {w:World}:∀ (es:List DictEntry),es.all Bi=true→∀ c:Nat,
  (c∈es.map tA→∃ t,(es.find? fun e=>(intKind prog w).is (c:Int) e.key).map (·.val)=some (.str ⟨#[92,c]⟩ t))∧(c ∉ es.map tA→(es.find? fun e=>(intKind prog w).is (c:Int) e.key).map (·.val)=none)
 | [],_,c=>⟨fun h=>by simp at h,fun Z=>rfl⟩
 | e::es,h,c=>by
  rw [List.all_cons,Bool.and_eq_true] at h
  (refine dy (wj h.1) ?_;intro k u t e1 e2 e3 e4)
  (refine aK (wk (prog:=prog) (w:=w) es h.2 c) ?_;intro i1 i2)
  have hk:(intKind prog w).is (c:Int) e.key=decide (c=k):=by
   rw [e1]
   have:(intKind prog w).is (k:Int) (.int k u)=true:=intKind_is _ _ _ _
   rw [KeyKind.is_eq_decide this]
   by_cases q:c=k
   ·simp [q]
   ·simp only [q,decide_false,decide_eq_false_iff_not];exact Nat.ToInt.of_diseq rfl rfl q
  rw [List.find?_cons,hk,List.map_cons,e4]
  by_cases q:c=k
  ·subst q
   simp only [decide_true]
   exact ⟨fun Z=>⟨t,by simp [e3]⟩,fun n=>(n (.head _)).elim⟩
  ·simp only [q,decide_false]
   refine ⟨fun m=>i1 ?_,fun n=>i2 fun m=>n (.tail _ m)⟩
   rcases List.mem_cons.mp m with z | z
   ·exact (q z).elim
   ·exact z
theorem zH {prog:Program} {w:World} {K:PySem.W.Frag} {d:Addr} {ks:List Nat} {h:Heap} (e:xF K d ks=true) (Y:K.In h) :
  ∃ f,h.MapOf (intKind prog w) d f∧∀ c:Nat,(c∈ks→∃ t,f c=some (.str ⟨#[92,c]⟩ t))∧(c ∉ ks→f c=none):=by
 unfold xF at e
 split at e
 ·rename_i o ho
  rw [Bool.and_eq_true,Bool.and_eq_true,Bool.and_eq_true] at e
  (refine aK e ?_;try clear e;intro bj e4;refine aK bj ?_;clear bj;intro bH e3;refine aK bH ?_;clear bH;intro e1 e2)
  split at e4
  ·rename_i es ep hd
   rw [Bool.and_eq_true] at e4
   have hk:es.toList.map tA=ks:=eq_of_beq e4.2
   refine (iDPP (fun k=>findBy (intKind prog w).is es k) (⟨o,es,ep,Y _ _ ho,⟨eq_of_beq e1,eq_of_beq e2,Array.eq_empty_of_size_eq_zero (eq_of_beq e3)⟩,hd,fun x hx=>?_,fun k=>rfl⟩) (fun c=>?_))
   ·(refine dy (wj (List.all_eq_true.mp e4.1 x (by exact hx.val))) ?_;intro k u t a1 a2 a3 a4)
    exact (iDPP k (by rw [a1];exact intKind_is _ _ _ _) a2)
   ·have:=wk (prog:=prog) (w:=w) es.toList e4.1 c
    rw [hk] at this
    unfold findBy
    simp only [← Array.find?_toList]
    exact this
  ·cases e4
 ·cases e
section
open PySem.Builtin.Str
variable {prog:Program} {w:World} {A:Around} {E:Value→Shared→Prop} {s:Shared} {d:Addr} {c:Nat} {f:Int→Option Value}
theorem iy {x:Str} {t:Tok} {Q:Mapped→Shared→Prop} (M:s.heap.MapOf (intKind prog w) d f) (hf:f c=some (.str x t)) (h:∀ k,Q (.text x) {s with toks:=k}):wpAny (model prog w) A (tableLookup (.ref d) c) Q E s:=by
 unfold tableLookup
 refine wpAny_bind (wpAny_attempt (wpAny_bind (wpAny_mkInt (wpAny_getItem_of (s:={s with toks:=s.toks+1}) (k:=(c:Int)) (intKind_is _ _ _ _) M hf ?_))))
 dsimp only
 refine wpAny_bind (m:=asInt? (.str x t)) (wpAny_pure ?_)
 dsimp only
 refine wpAny_bind (m:=asStr? (.str x t)) (wpAny_pure ?_)
 exact wpAny_pure (h _)
theorem pY:isSubtype (.type "KeyError") (.type "LookupError")=pure true:=by rw [isSubtype_type];kernel_rfl
theorem lV {Q:Mapped→Shared→Prop} (hh:A.handled=none) (hd:(d == sysModules)=false) (M:s.heap.MapOf (intKind prog w) d f) (hf:f c=none) (h:∀ h' k,(∀ b o,s.heap.get? b=some o→h'.get? b=some o)→Q .keep {s with heap:=h',toks:=k}):wpAny (model prog w) A (tableLookup (.ref d) c) Q E s:=by
 unfold tableLookup
 refine wpAny_bind (wpAny_attempt (wpAny_bind (wpAny_mkInt (wpAny_getItem_missing_of (s:={s with toks:=s.toks+1}) (k:=(c:Int)) (intKind_is _ _ _ _) hd hh M hf fun h' e N=>?_))))
 dsimp only
 refine wpAny_bind (wpAny_isInstance (T:="KeyError") ?_ pY ?_)
 ·(refine xDDPPP N.there ?_;intro ob t e1 e2 Z)
  exact (iDPP ob e1 e2)
 ·rw [if_pos rfl]
  exact wpAny_bind (wpAny_rule (wpAny_pure (h _ _ N.keeps)))
end
noncomputable def pZ (ks:List Nat) (c:Nat):Str:=if c∈ks then ⟨#[92,c]⟩ else ⟨#[c]⟩
section
open PySem.Builtin.Str
variable {X:Cx} {A:Around} {env:Env} {loc:Loc} {cells:Cells} {Ψ:V→Cells→Prop} {d:Addr} {c:Nat} {ks:List Nat}
theorem tB (hh:A.handled=none) (hd:(d == sysModules)=false) (hK:xF X.K d ks=true) (hc:c<128) (h:Ψ (.str (pZ ks c)) cells):aE X A (.bi "str.translate") [.str ⟨#[c]⟩,.ref d] Ψ cells:=fun fv vs own s I ⟨rf,rs⟩=>by
 refine RV.e0 rf rfl ?_
 (refine xDDPPP rs.two ?_;intro v1 v2 cw;subst cw;intro r1 r2)
 obtain ⟨_,rfl⟩:=RV.a1 r1;refine RV.e0 r2 rfl ?_
 rename_i t _
 (refine xDPP (zH (prog:=X.prog) (w:=X.w) hK I.K) ?_;intro f M hf)
 (refine aK (hf c) ?_;intro h1 h2)
 refine wpAny_call_entry F.slot_str_translate (typeIs_str _ _ _) F.entry_str_translate ?_ (F.args_str_translate_2 _ _)
 unfold Builtin.«str.translate»
 refine wpAny_bind (m:=strOneArg _ _) (wpAny_of_eq (a:=(Value.str ⟨#[c]⟩ t,⟨#[c]⟩,Value.ref d)) (by rfl) ?_)
 dsimp only
 rw [if_neg (show ¬ (((⟨#[c]⟩:Str).length == 0)=true) from Bool.false_ne_true)]
 have He:(#[c]:Array Nat).all (fun x=>decide (x<128))=true:=by simp [hc]
 rw [He]
 rw [← Array.forIn_toList]
 rw [List.forIn_cons]
 dsimp only
 rw [if_neg (show ¬ (tooLong 0=true) by decide)]
 rw [if_pos rfl,show List.lookup c ([]:List (Nat×Option Nat))=none from rfl]
 dsimp only
 by_cases hm:c∈ks
 ·(refine ba (h1 hm) ?_;intro u hu)
  refine wpAny_bind (wpAny_bind (wpAny_bind (iy M hu fun k=>?_)))
  refine wpAny_bind (m:=(pure none:Sem (Option (Option Nat)))) (wpAny_pure ?_)
  dsimp only
  refine wpAny_bind (wpAny_rule ?_)
  rw [if_neg (show ¬ ((false:Bool)=true) from Bool.false_ne_true)]
  refine wpAny_bind (iy (s:={s with toks:=k}) M hu fun k2=>?_)
  dsimp only
  refine wpAny_pure ?_
  dsimp only
  rw [List.forIn_nil]
  refine wpAny_pure ?_
  dsimp only
  rw [if_neg (show ¬ (tooLong (0+(⟨#[92,c]⟩:Str).length)=true) by show ¬ (tooLong 2=true);decide)]
  refine wpAny_bind (m:=mkStr _) (wpAny_mkStr (wpAny_pure (iDPP _ rfl ?_)) ?_)
  ·have e:pZ ks c=⟨#[92,c]⟩:=by unfold pZ;rw [if_pos hm]
   rw [e] at h
   exact mb_end I rfl (fun Z Z e=>e) (.str _ _) h
  ·show (2:Nat)≤sizeLine;decide
 ·refine wpAny_bind (wpAny_bind (wpAny_bind (lV hh hd M (h2 hm) fun h' k kp=>?_)))
  refine wpAny_bind (m:=(pure (some (some c)):Sem (Option (Option Nat)))) (wpAny_pure ?_)
  dsimp only
  refine wpAny_pure ?_
  dsimp only
  rw [List.forIn_nil]
  refine wpAny_pure ?_
  dsimp only
  rw [if_neg (show ¬ (tooLong (0+1)=true) by decide)]
  refine wpAny_bind (m:=mkStr _) (wpAny_mkStr (wpAny_pure (iDPP _ rfl ?_)) ?_)
  ·have e:pZ ks c=⟨#[c]⟩:=by unfold pZ;rw [if_neg hm]
   rw [e] at h
   exact mb_end I rfl kp (.str _ _) h
  ·show (1:Nat)≤sizeLine;decide
end
section
variable {X:Cx} {A:Around} {env:Env} {loc:Loc} {cells:Cells} {own:Own} {s:Shared}
theorem xG {a b:Expr} {env:Env}:evalEach [a,b] env=[eval a env,eval b env]:=by rfl
theorem ES {a b:Expr} {pos:Pos} {Ψ:V→Loc→Cells→Prop}
  (h:mE X A env (eval a env) (fun v l c=>qS X A v (fun t c'=>if t then Ψ v l c' else mE X A env (eval b env) Ψ l c') c) loc cells):mE X A env (eval (.BoolOp .Or [a,b] pos) env) Ψ loc cells:=fun own s I=>by
 rw [arm_eval_BoolOp,xG]
 refine wpAny_bind (h.use I fun aL l1 c1 x v s1 I1 r1 x1 h1=>wpAny_bind (wpAny_standAt (wpAny_bind (wpAny_holding ?_))))
 refine (h1 v).pC I1 r1 fun aI c2 t tv s2 I2 r2 x2 h2=>?_
 have:tv=t:=r2
 subst this
 cases tv with
 | true=>exact wpAny_pure ⟨aI,l1,c2,x,I2,r1.ext I1 x2,x1.trans x2,h2⟩
 | false=>exact eg.use h2 I2 fun cZ l3 c3 y u s3 I3 r3 x3 h3=>⟨cZ,l3,c3,y,I3,r3,x1.trans (x2.trans x3),h3⟩
theorem jv (a:Addr) (vs:Array Value) (hz:vs.size<2 ^ 62):Meets (Builtin.«bool.__new__» ⟨[.type "bool",.ref a],[]⟩) (fun Z R s=>s.heap.IsList a vs∧R (.ok (.ret (.bool (!vs.isEmpty)))) {s with toks:=s.toks+1+1}) :=
 Meets.of_wp fun prog w A R s hs=>by
  obtain ⟨hp,g,d,tk,os⟩:=s
  (refine aK hs ?_;try clear hs;intro hl hs)
  have f1:=F.conv_sub_bool
  repeat (any_goals (first | assumption | (with_reducible refine wpAny_truthy_list hl (by lia) ?_) | wp_step))
  all_goals first | exact (iDPP _ rfl hs) | exact hs | skip
theorem tC {a:Addr} {xs:List V} {Ψ:V→Cells→Prop} (hc:cells a=some (.list xs)) (hz:xs.length≤sizeLine) (h:Ψ (.bool (!xs.isEmpty)) cells):aE X A (.ty "bool") [.ref a] Ψ cells:=fun fv vs own s I bH=>aK bH fun rf r=>by
 refine RV.e0 rf rfl ?_
 (refine xDPP r.one ?_;intro v aV;subst aV;intro r1)
 refine RV.e0 r1 rfl ?_
 (refine eu (I.cell a _ hc) ?_;intro oa vs n ho rs)
 have hs:vs.size=xs.length:=by simpa using rs.1
 refine call_bool_1 (jv a vs (by unfold sizeLine at hz;lia)) ⟨(bt _ ho rfl n rfl),⟨rfl,?_⟩⟩
 have e:(!vs.isEmpty)=!xs.isEmpty:=by
  cases xs with
  | nil=>simp [Array.eq_empty_of_size_eq_zero hs]
  | cons x r =>
   have:vs≠#[]:=by rintro rfl;simp at hs
   simp [this]
 rw [e]
 exact az I (.bool _) h
end
section
variable {X:Cx} {A:Around} {env:Env} {loc:Loc} {cells:Cells} {own:Own} {s:Shared} {Ψ:V→Cells→Prop}
theorem Bj {a:Addr} {xs:List V} {lo hi st:Option Int} (hc:cells a=some (.list xs)) (h0:st≠some 0) (hz:xs.length≤sizeLine) (h:Ψ (.list (gi xs lo hi st)) cells):rm X A (.ref a) lo hi st Ψ cells:=fun o vl vu vk own s I r p1 p2 p3=>by
 refine RV.e0 r rfl ?_
 (refine eu (I.cell a _ hc) ?_;intro oa vs n ho rs)
 have hl:(s.heap.push { cls:=.type "slice",data:=.fields #[vl,vu,vk]}).IsList a vs:=(bt _ (Heap.get?_push_of_some _ ho) rfl n rfl)
 refine (iDDPPP ("list") _ slot_list_getitem.lookup hl.typeIs (wpAny_getItem_list_slice hl (Heap.IsSliceOf.new _ _ _ _) p1 p2 p3 h0 ?_ (by have:=rs.1;simp at this;lia)))
 have kp:∀ b o,s.heap.get? b=some o→(s.heap.push { cls:=.type "slice",data:=.fields #[vl,vu,vk]}).get? b=some o:=fun b o e=>Heap.get?_push_of_some _ e
 have I2:Base X own cells {s with heap:=s.heap.push { cls:=.type "slice",data:=.fields #[vl,vu,vk]}}:=I.keeps kp
 obtain ⟨own',c',b,B,rr,xx,pp⟩:=kD (Ψ:=Ψ) (t:=s.toks) (vs:=slicePick vs lo hi st) (xs:=gi xs lo hi st) I2 ((sN rs).mono fun Z Z q=>q.keeps kp) h
 exact ⟨own',c',b,B,rr,Ext.trans (.of_keeps kp) xx,pp⟩
end
section
open PySem.Builtin.Str
variable {X:Cx} {A:Around} {env:Env} {loc:Loc} {cells:Cells} {Ψ:V→Cells→Prop}
theorem oO {x y z:Str} (ho:(occurrences x y 0 x.length (x.length+1)).isEmpty=true) (h:Ψ (.str x) cells):aE X A (.bi "str.replace") [.str x,.str y,.str z] Ψ cells:=fun fv vs own s I ⟨rf,rs⟩=>by
 refine RV.e0 rf rfl ?_
 (refine xDDPPP rs.cK ?_;intro v1 jB aV;subst aV;intro r1 rs)
 (refine xDDPPP rs.two ?_;intro v2 v3 bj;subst bj;intro r2 r3)
 refine RV.e1 r1 rfl fun Z=>?_;refine RV.e1 r2 rfl fun Z=>?_;refine RV.e1 r3 rfl fun Z=>?_
 refine call_gives F.slot_str_replace (typeIs_str _ _ _) F.entry_str_replace (F.args_str_replace_3 _ _ _) (gives_str_replace _ _ _ _ _ _ (by rw [ho];intro q;cases q)) ?_
 rw [ho,Bool.true_or,if_pos rfl]
 exact az (t:=s.toks) I (.str _ _) h
theorem lW {x:Str} (h:Ψ (.bool true) cells):aE X A (.bi "isinstance") [.str x,.ty "str"] Ψ cells:=fun fv vs own s I ⟨rf,rs⟩=>by
 refine RV.e0 rf rfl ?_
 (refine xDDPPP rs.two ?_;intro v1 v2 fu;subst fu;intro r1 r2)
 refine RV.e1 r1 rfl fun Z=>?_;refine RV.e0 r2 rfl ?_
 refine call_isinstance_yes (typeIs_str _ _ _) (by kernel_rfl) (by rw [isSubtype_type];kernel_rfl) ?_
 exact az (t:=s.toks) I (.bool _) h
theorem Bk {a b:Str} {k1 k2:Nat} {p1 p2 p3 pos:Pos} {e:Expr} {Ψ:V→Loc→Cells→Prop} (h:mE X A env (eval e env) (fun v l c=>∃ x,v=.str x∧a.length+x.length+b.length≤1000000∧Ψ (.str (a++x++b)) l c) loc cells)
  (hn:autoParam (a.length≤1000) aDK):mE X A env (eval (.JoinedStr [.Constant (.str a) k1 p1,.FormattedValue e (-1) none p2,.Constant (.str b) k2 p3] pos) env) Ψ loc cells:=fun own s I=>by
 have lz:∀ {n:Nat},n≤1000000→n≤sizeLine:=fun h=>Nat.le_trans h (by decide)
 have e0:∀ y:Str,Str.empty++y=y:=fun y=>by obtain ⟨c⟩:=y;show (⟨#[]++c⟩:Str)=_;rw [Array.empty_append]
 refine wpAny_JoinedStr (Joins_cons (wpAny_Constant_str (iDDPPP _ _ rfl ?_ (Joins_cons (wpAny_FormattedValue_plain ((h.mono fun v l c q=>q).use I.toks fun aL l1 c1 v v1 s1 I1 r1 x1 lH=>fj lH fun x ev hz hΨ=>?_))))))
 ·rw [e0];exact Nat.le_trans hn (by decide)
 ·subst ev
  refine RV.e1 r1 rfl fun Z=>?_
  have len:∀ p q:Str,(p++q).length=p.length+q.length:=fun p q=>strLen_append p q
  have fin:∀ (t:Tok) (s2:Shared),(∃ k,s2={ s1 with toks:=k})→∃ y t',Value.str x t=.str y t'∧(Str.empty++a++y).length≤sizeLine∧Joins (model X.prog X.w) A dh (evalEach [.Constant (.str b) k2 p3] env) (Str.empty++a++y) (fun out s₁=>out.length≤sizeLine∧gJ X env RV own cells s.heap Ψ (.str out s₁.toks) { s₁ with toks:=s₁.toks+1}) s2:=by
   (intro t s2 qo;refine ba qo ?_;clear qo;intro k iC;subst iC)
   refine (iDDPPP x t rfl ?_ (Joins_cons (wpAny_Constant_str (iDDPPP _ _ rfl ?_ (Joins_nil ⟨?_,?_⟩)))))
   ·rw [e0,len];exact lz (by exact Nat.le_of_add_right_le hz)
   ·rw [e0,len,len];exact lz (by lia)
   ·rw [e0,len,len];exact lz (by lia)
   ·rw [e0]
    exact ⟨aL,l1,c1,.str _,I1.toks,.str _ _,x1,hΨ⟩
  refine wpAny_formatField_str (fin _ _ (bA s1.toks rfl)) (fin _ _ (bA _ rfl)) (lz (by lia))
end
namespace L2
noncomputable def specs:List Nat:=[40,41,91,93,123,125,63,42,43,45,124,94,36,92,46,38,126,35,32,9,10,13,11,12]
noncomputable abbrev bS:Addr:=194
noncomputable abbrev mK:Addr:=198
noncomputable abbrev xH:Addr:=182
noncomputable abbrev xI:Addr:=180
noncomputable abbrev u6:Addr:=192
noncomputable abbrev ET:Addr:=199
noncomputable def u7 (K:PySem.W.Frag) (a:Addr) (qual:Str) (s:Stmt) (c:Addr):Prop:=∃ doc pm an ct,FnAt K a (fnName s) qual (bG s) (bI s) (au s) .none .none doc pm an (.ref c) ct
theorem b9.keeps {K:PySem.W.Frag} {a:Addr} {q:Str} {s:Stmt} (F:b9 K a q s):PySem.W.keepIn K (.ref a)=true:=let ⟨_,_,_,_,_,F⟩:=F;F.keep
noncomputable def lD (glob:List (Str×V)) (K:PySem.W.Frag):Prop :=
 (bl glob "len" (.bi "len")) ∧
 (bl glob "isinstance" (.bi "isinstance")) ∧
 (bl glob "str" (.ty "str")) ∧
 (bl glob "escape" (.ref u6)) ∧
 (bl glob "_special_chars_map" (.ref xH)) ∧
 (bl glob "twin_re_1_fnmatch" (.ref xI)) ∧
 (rW K xI) ∧
 (xF K xH specs=true) ∧
 (b9 K u6 "escape" DV) ∧
 (u7 K ET "_translate" trans mK) ∧
 (PySem.W.codeHdIn K mK bS=true)
theorem lD.of {glob:List (Str×V)} {K:PySem.W.Frag} (h:(bl glob "len" (.bi "len")) ∧
 (bl glob "isinstance" (.bi "isinstance")) ∧
 (bl glob "str" (.ty "str")) ∧
 (bl glob "escape" (.ref u6)) ∧
 (bl glob "_special_chars_map" (.ref xH)) ∧
 (bl glob "twin_re_1_fnmatch" (.ref xI)) ∧
 (rW K xI) ∧
 (xF K xH specs=true) ∧
 (b9 K u6 "escape" DV) ∧
 (u7 K ET "_translate" trans mK) ∧
 (PySem.W.codeHdIn K mK bS=true)):lD glob K:=h
theorem lD.len {glob:List (Str×V)} {K:PySem.W.Frag} (S:lD glob K):bl glob "len" (.bi "len"):=S.1
theorem lD.J6 {glob:List (Str×V)} {K:PySem.W.Frag} (S:lD glob K):bl glob "isinstance" (.bi "isinstance"):=S.2.1
theorem lD.str {glob:List (Str×V)} {K:PySem.W.Frag} (S:lD glob K):bl glob "str" (.ty "str"):=S.2.2.1
theorem lD.EU {glob:List (Str×V)} {K:PySem.W.Frag} (S:lD glob K):bl glob "escape" (.ref u6):=S.2.2.2.1
theorem lD.EV {glob:List (Str×V)} {K:PySem.W.Frag} (S:lD glob K):bl glob "_special_chars_map" (.ref xH):=S.2.2.2.2.1
theorem lD.Hf {glob:List (Str×V)} {K:PySem.W.Frag} (S:lD glob K):bl glob "twin_re_1_fnmatch" (.ref xI):=S.2.2.2.2.2.1
theorem lD.EW {glob:List (Str×V)} {K:PySem.W.Frag} (S:lD glob K):rW K xI:=S.2.2.2.2.2.2.1
theorem lD.tr {glob:List (Str×V)} {K:PySem.W.Frag} (S:lD glob K):xF K xH specs=true:=S.2.2.2.2.2.2.2.1
theorem lD.DV {glob:List (Str×V)} {K:PySem.W.Frag} (S:lD glob K):b9 K u6 "escape" DV:=S.2.2.2.2.2.2.2.2.1
theorem lD.trans {glob:List (Str×V)} {K:PySem.W.Frag} (S:lD glob K):u7 K ET "_translate" trans mK:=S.2.2.2.2.2.2.2.2.2.1
theorem lD.code {glob:List (Str×V)} {K:PySem.W.Frag} (S:lD glob K):PySem.W.codeHdIn K mK bS=true:=S.2.2.2.2.2.2.2.2.2.2
noncomputable abbrev T2 (X:Cx):Prop:=lD X.glob X.K∧ER X
theorem Dj {X:Cx} {A:Around} {k:Nat} {cells:Cells} {c:Nat} {Ψ:V→Cells→Prop} (T:T2 X) (hA:Rm X A (k+1)) (hc:c<128) (h:Ψ (.str (pZ specs c)) cells):aE X A (.ref u6) [.str ⟨#[c]⟩] Ψ cells:=by
 refine cb (names:=["pattern"]) T.1.DV hA (fun Z Z Z Z Z vs hv=>?_) fun L cdv A' bz=>?_
 ·(refine ba (bY hv) ?_;intro v aV;subst aV)
  rfl
 have T':T2 (X.push L):=T
 generalize X.push L=Y at bz T' ⊢
 refine aa (cG (gK (aA (by kernel_rfl) T'.1.J6 trivial (af (m_var (mv:=.str ⟨#[c]⟩) (by kernel_rfl) (af (ey (by kernel_rfl) T'.1.str (a_nil (lW (aC ?_))))))))))
 rw [if_pos rfl]
 exact aa (bo (aH (m_var (mv:=.str ⟨#[c]⟩) (by kernel_rfl) (sP F.slot_str_translate F.type_str_translate ⟨trivial,af (ey (by kernel_rfl) T'.1.EV (a_nil (tB bz.hh rfl T'.1.tr hc h)))⟩))))
noncomputable def eS (p:Str) (a u:Addr) (i:Nat):Loc:=[("i",.int i),("n",.int p.length),("add",.ref u),("res",.ref a),("pat",.str p),("STAR",.none),("QUESTION_MARK",.int 0)]
structure u9 (c0 c:Cells) (a u:Addr) (ps:List V):Prop where
 res:c a=some (.list ps)
 add:c u=some (.qQ "list.append" a)
 tab:c bS=some .tab
 old:∀ b x,c0 b=some x→c b=some x
 na:c0 a=none
theorem u9.push {c0 c:Cells} {a u:Addr} {ps:List V} (T:u9 c0 c a u ps) (x:V):u9 c0 (upd c a (some (.list (ps++[x])))) a u (ps++[x]) where
 res:=ag _ _ _
 add:=by rw [ae _ (by rintro rfl;have:=T.res;rw [T.add] at this;cases this)];exact T.add
 tab:=by rw [ae _ (by intro q;have:=T.res;rw [← q,T.tab] at this;cases this)];exact T.tab
 old:=fun b y e=>by rw [ae _ (by rintro rfl;rw [T.na] at e;cases e)];exact T.old b y e
 na:=T.na
theorem u9.new {c0 c:Cells} {a u f:Addr} {ps:List V} {o:Option Cell} (T:u9 c0 c a u ps) (hf:c f=none):u9 c0 (upd c f o) a u ps where
 res:=by rw [ae _ (by rintro rfl;rw [T.res] at hf;cases hf)];exact T.res
 add:=by rw [ae _ (by rintro rfl;rw [T.add] at hf;cases hf)];exact T.add
 tab:=by rw [ae _ (by rintro q;rw [← q,T.tab] at hf;cases hf)];exact T.tab
 old:=fun b y e=>by rw [ae _ (by rintro rfl;rw [T.old _ _ e] at hf;cases hf)];exact T.old b y e
 na:=T.na
noncomputable def Dk:Stmt:=(bI trans).getD 3 default
noncomputable def trBody:List Stmt:=match Dk with | .While _ b _ _=>b | _=>[]
noncomputable abbrev trEnv (L:Addr):Env:=dF "_translate" (au trans) L ET (.ref mK)
theorem du {b:Bool} {P Q:Prop} (h:b=false) (q:Q):if b=true then P else Q:=by rw [if_neg (by rw [h];exact Bool.false_ne_true)];exact q
theorem dQ {b:Bool} {P Q:Prop} (h:b=true) (q:P):if b=true then P else Q:=by rw [if_pos h];exact q
theorem tD {a b:Nat} (h:a≠b) {x:Str} (hx:x=⟨#[b]⟩):((⟨#[a]⟩:Str) == x)=false:=by
 subst hx
 refine beq_eq_false_iff_ne.mpr fun q=>h ?_
 cases q;rfl
theorem wm {a b:Nat} (h:a=b) {x:Str} (hx:x=⟨#[b]⟩):((⟨#[a]⟩:Str) == x)=true:=by
 subst hx h;exact beq_self_eq_true _
section
variable {Y:Cx} {A:Around} {k:Nat} {c0 c:Cells} {p:Str} {a u L:Addr} {i ch:Nat} {ps:List V} {l:Loc} {Φ:MF→Loc→Cells→Prop}
theorem zI (T:T2 Y) (hA:Rm Y A (k+1)) (C:u9 c0 c a u ps) (hl:Sub (eS p a u i) l) (hi:i<p.length) (hz:p.length≤1000) (hp:ps.length≤1000) (hc:di p i=⟨#[ch]⟩) (h1:ch<128) (h2:ch≠42∧ch≠63∧ch≠91)
  (h:∀ l' c',Sub (eS p a u (i+1)) l'→u9 c0 c' a u (ps++[.str (pZ specs ch)])→Φ .next l' c'):mS Y A (trEnv L) (execs trBody (trEnv L)) Φ l c:=by
 refine eg.le hl ?_
 refine aa (aq (.inl (by kernel_rfl)) (m_item (m_var (mv:=.str p) (by kernel_rfl) (m_var (mv:=.int i) (by kernel_rfl) (fE hi (by lia) ?_)))))
 rw [hc]
 refine aa (aq (.inl (by kernel_rfl)) (bh (m_var (mv:=.int i) (by kernel_rfl) (m_int (eD ?_)))))
 refine aa (cG (aT (m_var (mv:=.str ⟨#[ch]⟩) (by kernel_rfl) (bf (gf (aC (du (tD h2.1 (by kernel_rfl)) ?_)))))))
 refine aa (cG (aT (m_var (mv:=.str ⟨#[ch]⟩) (by kernel_rfl) (bf (gf (aC (du (tD h2.2.1 (by kernel_rfl)) ?_)))))))
 refine aa (cG (aT (m_var (mv:=.str ⟨#[ch]⟩) (by kernel_rfl) (bf (gf (aC (du (tD h2.2.2 (by kernel_rfl)) ?_)))))))
 refine aa (cB (gF (a:=a) (by kernel_rfl) (aA (by kernel_rfl) T.1.EU (b9.keeps T.1.DV) (af (m_var (mv:=.str ⟨#[ch]⟩) (by kernel_rfl) (a_nil (Dj T hA h1 (iG ps C.add C.res (ah (by lia)) ?_))))))))
 exact aD (aD (aD (aD (h _ _ (Sub.of (gH (by kernel_rfl) (by kernel_rfl) (by kernel_rfl) (by kernel_rfl) (by kernel_rfl) (by kernel_rfl) (by kernel_rfl) trivial)) (C.push _)))))
end
end L2
namespace L2
section
variable {Y:Cx} {A:Around} {k:Nat} {c0 c:Cells} {p:Str} {a u L:Addr} {i:Nat} {ps:List V} {l:Loc} {Φ:MF→Loc→Cells→Prop}
theorem xJ (T:T2 Y) (hA:Rm Y A (k+1)) (C:u9 c0 c a u ps) (hl:Sub (eS p a u i) l) (hi:i<p.length) (hz:p.length≤1000) (hp:ps.length≤1000) (hc:di p i=⟨#[42]⟩) {last:V} {pre:List V} (Cd:ps=pre++[last]) (hn:rj last)
  (h:∀ l' c',Sub (eS p a u (i+1)) l'→u9 c0 c' a u (ps++[.none])→Φ .next l' c'):mS Y A (trEnv L) (execs trBody (trEnv L)) Φ l c:=by
 refine eg.le hl ?_
 refine aa (aq (.inl (by kernel_rfl)) (m_item (m_var (mv:=.str p) (by kernel_rfl) (m_var (mv:=.int i) (by kernel_rfl) (fE hi (by lia) ?_)))))
 rw [hc]
 refine aa (aq (.inl (by kernel_rfl)) (bh (m_var (mv:=.int i) (by kernel_rfl) (m_int (eD ?_)))))
 refine aa (cG (aT (m_var (mv:=.str ⟨#[42]⟩) (by kernel_rfl) (bf (gf (aC (dQ (wm rfl (by kernel_rfl)) ?_)))))))
 refine aa (cG (dY (jf (BL (gK (m_var (mv:=.ref a) (by kernel_rfl) (y6 C.res (ah (by lia)) ?_)))))))
 refine du (by rw [Cd];simp) ?_
 refine yW (aT (m_item (m_var (mv:=.ref a) (by kernel_rfl) (m_un (m_int (o_neg (g_clast (by rw [C.res,Cd]) (m_var (mv:=.none) (by kernel_rfl) (kE hn (aC ?_))))))))))
 refine dQ rfl ?_
 refine aa (cB (gF (a:=a) (by kernel_rfl) (m_var (mv:=.none) (by kernel_rfl) (iG ps C.add C.res (ah (by lia)) ?_))))
 exact aD (aD (aD (h _ _ (Sub.of (gH (by kernel_rfl) (by kernel_rfl) (by kernel_rfl) (by kernel_rfl) (by kernel_rfl) (by kernel_rfl) (by kernel_rfl) trivial)) (C.push _))))
end
end L2
namespace L2
section
variable {Y:Cx} {A:Around} {k:Nat} {c0 c:Cells} {p:Str} {a u L:Addr} {i:Nat} {ps:List V} {l:Loc} {Φ:MF→Loc→Cells→Prop}
theorem zJ (T:T2 Y) (hA:Rm Y A (k+1)) (C:u9 c0 c a u ps) (hl:Sub (eS p a u i) l) (hz:p.length≤1000) (hp:ps.length≤1000) (hc:di p i=⟨#[91]⟩) {J:Nat} {stuff:Str}
  (h1:di p (i+1)=⟨#[33]⟩) (h2:i+2<p.length) (h3:(di p (i+2) == Str.ofString "]")=false) (hJ:i+2≤J) (Hg:J<p.length) (GJ:∀ t,i+2≤t→t<J→(di p t == Str.ofString "]")=false)(Hh:(di p J == Str.ofString "]")=true)
  (hs:stuff=Txt.slice p (some ((i+1:Nat):Int)) (some (J:Int))) (s1:Txt.contains stuff (Str.ofString "-")=false) (s2:(Builtin.Str.occurrences stuff (Str.ofString "\\") 0 stuff.length (stuff.length+1)).isEmpty=true) (s3:∀ i,i<stuff.cps.size→amp (stuff.cps.getD i 0)=false)
  (s4:2≤stuff.length) (s5:stuff.length≤1000) (s6:di stuff 0=⟨#[33]⟩) (J7:(Txt.slice stuff (some 1) none).length≤1000)
  (h:∀ l' c',Sub (eS p a u (J+1)) l'→u9 c0 c' a u (ps++[.str (Str.ofString "["++(Str.ofString "^"++Txt.slice stuff (some 1) none)++Str.ofString "]")])→Φ .next l' c'):mS Y A (trEnv L) (execs trBody (trEnv L)) Φ l c:=by
 refine eg.le hl ?_
 refine aa (aq (.inl (by kernel_rfl)) (m_item (m_var (mv:=.str p) (by kernel_rfl) (m_var (mv:=.int i) (by kernel_rfl) (fE (by exact Nat.lt_of_add_right_lt h2) (by lia) ?_)))))
 rw [hc]
 refine aa (aq (.inl (by kernel_rfl)) (bh (m_var (mv:=.int i) (by kernel_rfl) (m_int (eD ?_)))))
 refine aa (cG (aT (m_var (mv:=.str ⟨#[91]⟩) (by kernel_rfl) (bf (gf (aC (du (tD (b:=42) (by decide) (by kernel_rfl)) ?_)))))))
 refine aa (cG (aT (m_var (mv:=.str ⟨#[91]⟩) (by kernel_rfl) (bf (gf (aC (du (tD (b:=63) (by decide) (by kernel_rfl)) ?_)))))))
 refine aa (cG (aT (m_var (mv:=.str ⟨#[91]⟩) (by kernel_rfl) (bf (gf (aC (dQ (wm rfl (by kernel_rfl)) ?_)))))))
 refine eg.le (l0:=eS p a u (i+1)) (Sub.of (gH (by kernel_rfl) (by kernel_rfl) (by kernel_rfl) (by kernel_rfl) (by kernel_rfl) (by kernel_rfl) (by kernel_rfl) trivial)) ?_
 refine aa (aq (.inl (by kernel_rfl)) (m_var (mv:=.int ((i+1:Nat):Int)) (by kernel_rfl) ?_))
 refine aa (cG (dY (dM (aT (m_var (mv:=.int ((i+1:Nat):Int)) (by kernel_rfl) (m_var (mv:=.int p.length) (by kernel_rfl) (sM (aC (dQ (decide_eq_true (by lia)) ?_)))))))))
 refine ow (aT (m_item (m_var (mv:=.str p) (by kernel_rfl) (m_var (mv:=.int ((i+1:Nat):Int)) (by kernel_rfl) (fE (by exact Nat.lt_trans hJ Hg) (by lia) (bf (gf (aC (dQ ?_ ?_)))))))))
 ·rw [h1];exact wm rfl (by kernel_rfl)
 refine aa (aq (.inl (by kernel_rfl)) (bh (m_var (mv:=.int ((i+1:Nat):Int)) (by kernel_rfl) (m_int (eD (aD ?_))))))
 refine aa (cG (dY (dM (aT (m_var (mv:=.int ((i+2:Nat):Int)) (by kernel_rfl) (m_var (mv:=.int p.length) (by kernel_rfl) (sM (aC (dQ (decide_eq_true (by exact Int.ofNat_lt.mpr h2)) ?_)))))))))
 refine ow (aT (m_item (m_var (mv:=.str p) (by kernel_rfl) (m_var (mv:=.int ((i+2:Nat):Int)) (by kernel_rfl) (fE (by exact Nat.lt_of_le_of_lt hJ Hg) (by lia) (bf (gf (aC (du h3 ?_)))))))))
 refine aD ?_
 refine aa (jk (fun n l c'=>∃ t,n=J - t∧i+2≤t∧t≤J∧c'=c∧Sub (("j",.int (t:Int))::eS p a u (i+1)) l) (J - (i+2)) (qL (i+2) rfl (by exact Nat.le_refl (i+2)) hJ rfl (Sub.of (nO (by kernel_rfl) (by kernel_rfl) (by kernel_rfl) (by kernel_rfl) (by kernel_rfl) (by kernel_rfl) (by kernel_rfl) (by kernel_rfl) trivial))) ?_)
 (intro n l' c' aV;refine gT aV ?_;clear aV;intro t bj;subst bj;intro t1 t2 bH;subst bH;intro jP)
 refine eg.le jP ?_
 refine dY (dM (aT (m_var (mv:=.int (t:Int)) (by kernel_rfl) (m_var (mv:=.int p.length) (by kernel_rfl) (sM (aC (dQ (decide_eq_true (by lia)) ?_)))))))
 refine ow (aT (m_item (m_var (mv:=.str p) (by kernel_rfl) (m_var (mv:=.int (t:Int)) (by kernel_rfl) (fE (by exact Nat.lt_of_le_of_lt t2 Hg) (by lia) (bf (BQ (aC ?_))))))))
 by_cases Hi:t<J
 ·refine dQ (by rw [bne,GJ t t1 Hi];rfl) ?_
  refine aa (aq (.inl (by kernel_rfl)) (bh (m_var (mv:=.int (t:Int)) (by kernel_rfl) (m_int (eD (aD ?_))))))
  exact (wN (J - (t+1)) (by exact Nat.sub_succ_lt_self J t Hi) (t+1) rfl (by exact Nat.le_add_right_of_le t1) (by exact Nat.succ_le_of_lt Hi) rfl (Sub.of (nO (by kernel_rfl) (by kernel_rfl) (by kernel_rfl) (by kernel_rfl) (by kernel_rfl) (by kernel_rfl) (by kernel_rfl) (by kernel_rfl) trivial)))
 have et:t=J:=by lia
 subst et
 refine du (by rw [bne,Hh];rfl) ?_
 refine aD ?_
 refine aa (cG (aT (m_var (mv:=.int (t:Int)) (by kernel_rfl) (m_var (mv:=.int p.length) (by kernel_rfl) (Gk (aC (du (decide_eq_false (by lia)) ?_)))))))
 refine aa (aq (.inl (by kernel_rfl)) (gg (m_var (mv:=.str p) (by kernel_rfl) (dN (m_var (mv:=.int ((i+1:Nat):Int)) (by kernel_rfl) (dN (m_var (mv:=.int (t:Int)) (by kernel_rfl) (fB (rp (ah (by lia)) ?_)))))))))
 rw [← hs]
 refine aa (cG (aT (bf (m_var (mv:=.str stuff) (by kernel_rfl) (yM (aC (dQ (by rw [s1];rfl) ?_)))))))
 refine aa (aq (.inl (by kernel_rfl)) (aH (m_var (mv:=.str stuff) (by kernel_rfl) (sP F.slot_str_replace F.type_str_replace ⟨trivial,af (bf (af (bf (a_nil (oO s2 (aD ?_))))))⟩))))
 refine aa (aq (.inl (by kernel_rfl)) (aH (ey (by kernel_rfl) T.1.Hf (T.1.EW.AW ⟨trivial,af (zG (c:=mK) (P:=bS) rfl T.1.code C.tab T.2 fun f hf=>af (m_var (mv:=.str stuff) (by kernel_rfl) (a_nil (Di T.1.EW (ag _ _ _) s3 (by lia) ?_))))⟩))))
 have C2:u9 c0 (upd c' f (some (.nU "function"))) a u ps:=C.new hf
 generalize upd c' f (some (.nU "function"))=c2 at C2 ⊢
 refine aa (aq (.inl (by kernel_rfl)) (bh (m_var (mv:=.int (t:Int)) (by kernel_rfl) (m_int (eD ?_)))))
 refine aa (cG (BL (gK (m_var (mv:=.str stuff) (by kernel_rfl) (Ek (ah (by lia)) (du (by simp;lia) ?_))))))
 refine aa (cG (aT (m_var (mv:=.str stuff) (by kernel_rfl) (bf (gf (aC (du (beq_eq_false_iff_ne.mpr fun q=>?_) ?_)))))))
 ·rw [q] at s4;exact absurd s4 (by decide +kernel)
 refine aa (cG (aT (m_item (m_var (mv:=.str stuff) (by kernel_rfl) (m_int (fE (j:=0) (by lia) (by lia) (bf (gf (aC (dQ ?_ ?_))))))))))
 ·rw [s6];exact wm rfl (by kernel_rfl)
 refine aa (aq (.inl (by kernel_rfl)) (bh (bf (gg (m_var (mv:=.str stuff) (by kernel_rfl) (dN (m_int (fB (fB (rp (ah (by lia)) (rl (ah ?_) (aD ?_))))))))))))
 ·have:(Str.ofString "^").length=1:=by decide +kernel
  lia
 refine aa (cB (gF (a:=a) (by kernel_rfl) (Bk (m_var (mv:=.str (Str.ofString "^"++Txt.slice stuff (some 1) none)) (by kernel_rfl) (bq _ rfl ?_ ((iG ps C2.add C2.res (ah (by lia)) ?_)))))))
 ·rw [strLen_append]
  have e1:(Str.ofString "^").length=1:=by decide +kernel
  have e2:(Str.ofString "[").length=1:=by decide +kernel
  have e3:(Str.ofString "]").length=1:=by decide +kernel
  lia
 exact aD (aD (aD (aD (aD (aD (aD (h _ _ (Sub.of (gH (by kernel_rfl) (by kernel_rfl) (by kernel_rfl) (by kernel_rfl) (by kernel_rfl) (by kernel_rfl) (by kernel_rfl) trivial)) (C2.push _))))))))
end
end L2
section
variable {X:Cx}{A:Around}{env:Env}{loc:Loc}{cells:Cells}{own:Own}{s:Shared}
theorem p9{x y:Str}{p q tp pos:Pos}{k:Nat}{e:Expr}{Ψ:MF→Loc→Cells→Prop}(hh:A.handled=none)(hx:env.kindOf x=some .local∨env.kindOf x=some .cell)(hy:env.kindOf y=some .local∨env.kindOf y=some .cell)(h:mE X A env (eval e env) (fun v l c=>∃ a b,v=.tuple [a,b]∧Ψ .next ((x,a)::(y,b)::l) c) loc cells)(hs:autoParam (swapsWithSole [.Tuple [.Name x p,.Name y q] k tp] e pos.line env=pure false) aR)(hw:autoParam (swappedStores [.Tuple [.Name x p,.Name y q] k tp] e env=pure (some [x,y])) aR) :
  mS X A env (exec (.Assign [.Tuple [.Name x p,.Name y q] k tp] e pos) env) Ψ loc cells:=fun own s I =>
 Assign_Tuple_swapped (names:=[x,y]) (h.use I fun aL l1 c1 mv u1 s1 I1 r1 x1 aV=>dx aV fun v w e1 h1=>by
  subst e1
  cases r1 with
  | tuple ho hn hz hi =>
   rename_i a d vs n sl
   obtain ⟨a1,a2,rfl⟩:=vJ hz
   have r1:=hi 0 a1 v rfl rfl
   have r2:=hi 1 a2 w rfl rfl
   refine unpackItems_tuple (items:=#[a1,a2]) hh ⟨_,ho,rfl,n,rfl⟩ fun h' sG=>?_
   have keep:∀ b o,s1.heap.get? b=some o→h'.get? b=some o:=fun b o e=>sG b o (fun z=>by rw [z,ao] at e;cases e) e
   have I2:Inv X env aL l1 c1 { s1 with heap:=h'}:=⟨I1.base.keeps keep,I1.ok,I1.fr.ext (cells:=c1) (cells':=c1) (.of_keeps keep)⟩
   show wpAny _ _ (do holding [a1] (bindName env y a2);(do holding [] (bindName env x a1);pure ())) _ _ _
   refine wpAny_bind (wpAny_holding (wpAny_bindName (cJ I2 (r2.keeps keep) hy fun s2 I3 x2=>?_)))
   refine wpAny_bind (wpAny_holding (wpAny_bindName (cJ I3 ((r1.keeps keep).ext I2 x2) hx fun s3 I4 x3=>?_)))
   exact wpAny_pure ⟨aL,_,c1,.next,I4,.next,x1.trans (Ext.trans (.of_keeps keep) (x2.trans x3)),h1⟩) hs hw
end
namespace L2
noncomputable def lX (m:Nat):Str:=Txt.mul (Str.ofString ".") m++Str.ofString "[!.]*"
noncomputable def Dl:V:=.str (pZ specs 46)
noncomputable def EX:V:=.str (Str.ofString "["++(Str.ofString "^"++Txt.slice (Str.ofString "!.") (some 1) none)++Str.ofString "]")
noncomputable def kb (m:Nat):List V:=List.replicate m Dl++[EX,.none]
noncomputable def J8 (m i:Nat) (ps:List V):Prop:=(i≤m∧ps=List.replicate i Dl)∨(i=m+4∧ps=List.replicate m Dl++[EX])∨(i=m+5∧ps=kb m)
theorem Bl:∀ m,m<8→(lX m).length=m+5:=by decide +kernel
theorem Bm:∀ m,m<8→∀ i,i<m→di (lX m) i=⟨#[46]⟩:=by decide +kernel
theorem zK:∀ m,m<8→di (lX m) m=⟨#[91]⟩∧di (lX m) (m+1)=⟨#[33]⟩∧(di (lX m) (m+2) == Str.ofString "]")=false∧(di (lX m) (m+3) == Str.ofString "]")=true∧di (lX m) (m+4)=⟨#[42]⟩:=by decide +kernel
theorem xK:∀ m,m<8→Str.ofString "!."=Txt.slice (lX m) (some ((m+1:Nat):Int)) (some ((m+3:Nat):Int)):=by decide +kernel
theorem tE:Txt.contains (Str.ofString "!.") (Str.ofString "-")=false∧(Builtin.Str.occurrences (Str.ofString "!.") (Str.ofString "\\") 0 (Str.ofString "!.").length ((Str.ofString "!.").length+1)).isEmpty=true∧(∀ i,i<(Str.ofString "!.").cps.size→amp ((Str.ofString "!.").cps.getD i 0)=false)∧(Str.ofString "!.").length=2∧di (Str.ofString "!.") 0=⟨#[33]⟩∧(Txt.slice (Str.ofString "!.") (some 1) none).length≤1000:=by decide +kernel
theorem zL{X:Cx}{A:Around}{k:Nat}{c0:Cells}{m:Nat}{Ψ:V→Cells→Prop}(T:T2 X)(hA:Rm X A (k+2))(hm:m<8)(hP:c0 bS=some .tab)(h:∀ c',(∀ b x,c0 b=some x→c' b=some x)→Ψ (.list (kb m)) c') :
  aE X A (.ref ET) [.str (lX m),.none,.int 0] Ψ c0:=by
 (refine nQ T.1.trans ?_;intro doc pm an ct FT)
 refine sH (names:=["pat","STAR","QUESTION_MARK"]) FT hA (fun vs hv=>?_) (fun L=>?_) (by rfl) (by rfl) (by rfl)
 ·(refine qg (AD hv) ?_;intro v w x aV;subst aV)
  rfl
 have bz:Rm (X.push L) (A.deeper (trEnv L)) (k+1):=hA.deeper (trEnv L) (by show (au trans).kind≠_;decide) rfl
 have T':T2 (X.push L):=T
 generalize A.deeper (trEnv L)=A' at bz ⊢
 generalize X.push L=Y at bz T' ⊢
 have EY:=Bl m hm
 refine aa (aq (.inl (by kernel_rfl)) (cy (a_nil ⟨ah (by decide),fun a ha=>?_⟩)))
 refine aa (aq (.inl (by kernel_rfl)) (oM (m_var (mv:=.ref a) (by kernel_rfl) (iDDPPP a ([]) rfl (ag _ _ _) (fun u hu=>?_)))))
 have It:u≠a:=by rintro rfl;rw [ag] at hu;cases hu
 have C0:u9 c0 (upd (upd c0 a (some (.list []))) u (some (.qQ "list.append" a))) a u []:=by
  have FO:c0 u=none:=by rw [ae _ It] at hu;exact hu
  refine ⟨by rw [ae _ (Ne.symm It),ag],ag _ _ _,?_,fun b x e=>?_,ha⟩
  ·rw [ae _ (by rintro q;rw [← q,hP] at FO;cases FO),ae _ (by rintro q;rw [← q,hP] at ha;cases ha)];exact hP
  ·rw [ae _ (by rintro rfl;rw [e] at FO;cases FO),ae _ (by rintro rfl;rw [e] at ha;cases ha)];exact e
 generalize upd (upd c0 a (some (.list []))) u (some (.qQ "list.append" a))=c1 at C0 ⊢
 refine aa (p9 bz.hh (.inl (by kernel_rfl)) (.inl (by kernel_rfl)) (gZ (af (m_int (af (aA (by kernel_rfl) T'.1.len trivial (af (m_var (mv:=.str (lX m)) (by kernel_rfl) (a_nil (gP (ah (by lia)) (a_nil (uh (ah (by show 2≤_;decide)) _ _ rfl ?_))))))))))))
 refine aa (jk (fun n l c=>∃ i ps,n=m+5 - i∧Sub (eS (lX m) a u i) l∧u9 c0 c a u ps∧J8 m i ps) (m+5) (cS 0 ([]) rfl (Sub.of (gH (by kernel_rfl) (by kernel_rfl) (by kernel_rfl) (by kernel_rfl) (by kernel_rfl) (by kernel_rfl) (by kernel_rfl) trivial)) C0 (.inl ⟨by exact Nat.zero_le m,rfl⟩)) ?_)
 (intro n l c cR;refine bQ cR ?_;clear cR;intro i ps fu;subst fu;intro hl C hS)
 refine aT (m_var (mv:=.int i) (hl _ _ (by kernel_rfl)) (m_var (mv:=.int (lX m).length) (hl _ _ (by kernel_rfl)) (sM (aC ?_))))
 rw [EY]
 (refine uo (zK m hm) ?_;intro q1 q2 q3 q4 q5)
 obtain ⟨f1,f2,f3,f4,f5,f6⟩:=tE
 rcases hS with ⟨hi,rfl⟩ | ⟨rfl,rfl⟩ | ⟨rfl,rfl⟩
 ·refine dQ (decide_eq_true (by lia)) ?_
  by_cases iE:i<m
  ·refine zI (ch:=46) (Y:=Y) (k:=k) T' bz C hl (by lia) (by lia) (by simp;lia) (Bm m hm i iE) (by decide) (by decide) fun l' c' jP C'=>?_
   refine (jd (m+5 - (i+1)) (by lia) (i+1) _ rfl jP C' (.inl ⟨by lia,?_⟩))
   rw [List.replicate_succ'];rfl
  ·have e:i=m:=by lia
   subst e
   refine zJ (Y:=Y) (k:=k) (J:=i+3) (stuff:=Str.ofString "!.") T' bz C hl (by lia) (by simp;lia) q1 q2 (by lia) q3 (by lia) (by lia) (fun t t1 t2=>?_) q4 (xK i hm) f1 f2 f3 (by lia) (by lia) f5 f6 fun l' c' jP C'=>?_
   ·have:t=i+2:=by lia
    rw [this];exact q3
   ·exact (jd (i+5 - (i+3+1)) (by lia) (i+3+1) _ rfl jP C' (.inr (.inl ⟨rfl,rfl⟩)))
 ·refine dQ (decide_eq_true (by lia)) ?_
  refine xJ (Y:=Y) (k:=k) T' bz C hl (by lia) (by lia) (by simp;lia) q5 rfl trivial fun l' c' jP C'=>?_
  refine (jd (m+5 - (m+4+1)) (by lia) (m+4+1) _ rfl jP C' (.inr (.inr ⟨rfl,?_⟩)))
  unfold kb
  rw [List.append_assoc];rfl
 ·refine du (decide_eq_false (by lia)) ?_
  refine aD ?_
  refine aa (yB (aT (m_var (mv:=.int ((m+5:Nat):Int)) (hl _ _ (by kernel_rfl)) (m_var (mv:=.int (lX m).length) (hl _ _ (by kernel_rfl)) (AP (aC ⟨by rw [EY];exact beq_self_eq_true _,?_⟩))))))
  refine aa (bo (kC (m_var (mv:=.ref a) (hl _ _ (by kernel_rfl)) ⟨rfl,C.res,?_⟩)))
  refine h _ fun b x e=>?_
  rw [ae _ (by rintro rfl;rw [C.na] at e;cases e)];exact C.old b x e
end L2
namespace L2
open PySem.W (findIn typeIn keepIn)
theorem dP.new{D:SA}{c:Cells}{a d:Addr}{ia la:Int→Addr}{σ:TS}{n:Int}{b l:Addr}{s0:Option Cell}(B:dP D c a d ia la σ)(hn:n ∉ σ.nodes)(hb:c b=none)(hl:c l=none)(FP:l≠b) :
  dP D (upd (upd (upd (upd c b s0) l (some (.list []))) b (some (.slots D.ni [some (.int n),some (.int 0),some (.ref l)]))) d (some (.dict (dput (σ.nodes.map fun k=>(k,.ref (ia k))) n (.ref b))))) a d (iF ia n b) (iF la n l) (σ.get n) ∧
  dH c (upd (upd (upd (upd c b s0) l (some (.list []))) b (some (.slots D.ni [some (.int n),some (.int 0),some (.ref l)]))) d (some (.dict (dput (σ.nodes.map fun k=>(k,.ref (ia k))) n (.ref b))))):=by
 have db:b≠d:=fun z=>by rw [z,B.dict] at hb;cases hb
 have dl:l≠d:=fun z=>by rw [z,B.dict] at hl;cases hl
 have old:∀ x y,c x=some y→x≠d→(upd (upd (upd (upd c b s0) l (some (.list []))) b (some (.slots D.ni [some (.int n),some (.int 0),some (.ref l)]))) d (some (.dict (dput (σ.nodes.map fun k=>(k,.ref (ia k))) n (.ref b))))) x=some y:=fun x y e hx=>by
  have h1:x≠b:=fun z=>by rw [z,hb] at e;cases e
  have h2:x≠l:=fun z=>by rw [z,hl] at e;cases e
  rw [ae _ hx,ae _ h1,ae _ h2,ae _ h1];exact e
 have e1:(σ.get n).nodes=σ.nodes++[n]:=by simp [TS.get,hn]
 have ne:∀ k∈σ.nodes,k≠n:=fun k hk z=>hn (z▸hk)
 have ib:∀ k∈σ.nodes,ia k≠b:=fun k hk z=>by have:=B.info k hk;rw [z,hb] at this;cases this
 have ll:∀ k∈σ.nodes,la k≠l:=fun k hk z=>by have:=B.succ k hk;rw [z,hl] at this;cases this
 refine ⟨⟨old _ _ B.inst (fun z=>by have:=B.inst;rw [z,B.dict] at this;cases this),?_,fun k hk=>?_,fun k hk=>?_,fun k hk j hj e=>?_,fun k hk j hj e=>?_,?_,fun k hk=>?_⟩,fun x es e=>old x _ e (fun z=>by rw [z,B.dict] at e;cases e)⟩
 ·rw [ag,e1,zt hn,List.map_append]
  congr 3
  ·exact List.map_congr_left fun k hk=>by rw [bw _ _ (ne k hk)]
  ·simp [aW]
 ·rw [e1] at hk
  rcases List.mem_append.mp hk with q | q
  ·rw [bw _ _ (ne k q),bw _ _ (ne k q)]
   exact old _ _ (B.info k q) (fun z=>by have:=B.info k q;rw [z,B.dict] at this;cases this)
  ·rw [List.mem_singleton.mp q,aW,aW,ae _ db,ag,show (σ.get n).np n=0 from (B.zero n hn).1]
 ·rw [e1] at hk
  rcases List.mem_append.mp hk with q | q
  ·rw [bw _ _ (ne k q)]
   exact old _ _ (B.succ k q) (fun z=>by have:=B.succ k q;rw [z,B.dict] at this;cases this)
  ·rw [List.mem_singleton.mp q,aW,ae _ dl,ae _ FP,ag,show (σ.get n).su n=[] from (B.zero n hn).2];rfl
 ·rw [e1] at hk hj
  rcases List.mem_append.mp hk with q | q <;> rcases List.mem_append.mp hj with r | r
  ·rw [bw _ _ (ne k q),bw _ _ (ne j r)] at e;exact B.j9 k q j r e
  ·rw [List.mem_singleton.mp r,aW,bw _ _ (ne k q)] at e;exact (ib k q e).elim
  ·rw [List.mem_singleton.mp q,aW,bw _ _ (ne j r)] at e;exact (ib j r e.symm).elim
  ·rw [List.mem_singleton.mp q,List.mem_singleton.mp r]
 ·rw [e1] at hk hj
  rcases List.mem_append.mp hk with q | q <;> rcases List.mem_append.mp hj with r | r
  ·rw [bw _ _ (ne k q),bw _ _ (ne j r)] at e;exact B.zr k q j r e
  ·rw [List.mem_singleton.mp r,aW,bw _ _ (ne k q)] at e;exact (ll k q e).elim
  ·rw [List.mem_singleton.mp q,aW,bw _ _ (ne j r)] at e;exact (ll j r e.symm).elim
  ·rw [List.mem_singleton.mp q,List.mem_singleton.mp r]
 ·rw [e1]
  exact List.nodup_append.mpr ⟨B.nodup,by simp,fun x hx y hy z=>hn (by rw [List.mem_singleton] at hy;subst hy;exact z▸hx)⟩
 ·rw [e1,List.mem_append] at hk
  exact B.zero k fun q=>hk (.inl q)
theorem TS.Dm{σ:TS}{n:Int}(h:n∈σ.nodes):σ.get n=σ:=by simp [TS.get,h]
theorem zM{X:Cx}{A:Around}{k:Nat}{c:Cells}{D:SA}{a d:Addr}{ia la:Int→Addr}{σ:TS}{n:Int}{Ψ:V→Cells→Prop}(S:S2 D X)(hA:Rm X A (k+3))(B:dP D c a d ia la σ)(hz:σ.nodes.length≤1000)(h:∀ c' wo xM,dP D c' a d wo xM (σ.get n)→dH c c'→Ψ (.ref (wo n)) c'):aE X A (.ref D.pW) [.ref a,.int n] Ψ c:=by
 refine cb (names:=["self","node"]) S.pW hA (fun Z Z Z Z Z vs hv=>?_) fun L cdv A' bz=>?_
 ·(refine eG (fX hv) ?_;intro v u aV;subst aV)
  rfl
 have S':S2 D (X.push L):=S
 generalize X.push L=Y at bz S' ⊢
 have hd:gA (σ.nodes.map fun k=>(k,V.ref (ia k))) n=if n∈σ.nodes then some (.ref (ia n)) else none:=dget_map (f:=fun k=>.ref (ia k))
 refine aa (cG (aT (sF (.inl (by kernel_rfl)) (aH (m_attr (m_var (mv:=.ref a) (by kernel_rfl) (bJ (mv:=.ref d) B.inst (by rfl) trivial S'.hV S'.o1 (C3 B.dict PySem.F.slot_dict_get PySem.F.type_dict_get ⟨trivial,af (m_var (mv:=.int n) (by kernel_rfl) (a_nil (C4 B.dict ?_)))⟩))))))))
 rw [hd]
 by_cases hn:n∈σ.nodes
 ·rw [if_pos hn]
  refine cY (eY trivial (aC ?_))
  rw [if_neg (by decide)]
  refine aD (aa (bo (m_var (mv:=.ref (ia n)) (by kernel_rfl) ?_)))
  exact h c ia la (by rw [TS.Dm hn];exact B) .refl
 ·rw [if_neg hn]
  refine cY (qq (aC ?_))
  rw [if_pos rfl]
  refine aa (xh (aA (by kernel_rfl) S'.G6 S'.G7 (af (m_var (mv:=.int n) (by kernel_rfl) (a_nil (BX S'.G8 bz (.inr rfl) fun b Lm hb Hj=>?_))))))
  refine Bc S' Hj (ag _ _ _) trivial fun l hl=>⟨rfl,?_⟩
  have FP:l≠b:=fun z=>by rw [z,ag] at hl;cases hl
  have FK:c l=none:=by rw [ae _ FP] at hl;exact hl
  have Cg:∀ x y,c x=some y→(upd (upd (upd c b (some (Cell.slots D.ni []))) l (some (.list []))) b (some (.slots D.ni [some (.int n),some (.int 0),some (.ref l)]))) x=some y:=fun x y e=>by
   have h1:x≠b:=fun z=>by rw [z,hb] at e;cases e
   have h2:x≠l:=fun z=>by rw [z,FK] at e;cases e
   rw [ae _ h1,ae _ h2,ae _ h1];exact e
  refine y5 (m_attr (m_var (mv:=.ref a) (by kernel_rfl) (bJ (mv:=.ref d) (Cg _ _ B.inst) (by rfl) trivial S'.hV S'.o1 (m_var (mv:=.int n) (by kernel_rfl) (vV (Cg _ _ B.dict) (by simp;lia) (y4 (.inl (by kernel_rfl)) (aD (aa (bo (m_var (mv:=.ref b) (by kernel_rfl) ?_))))))))))
  (refine aK (B.new (s0:=some (Cell.slots D.ni [])) hn hb FK FP) ?_;intro B1 K1)
  have:=h _ _ _ B1 K1
  rw [aW] at this
  exact this
end L2
namespace L2
open PySem.W (findIn typeIn keepIn)
noncomputable def TS.more (σ:TS) (n:Int) (v:Int):TS:={ σ with np:=iF σ.np n v}
noncomputable def TS.push (σ:TS) (p n:Int):TS:={ σ with su:=iF σ.su p (σ.su p++[n])}
noncomputable def TS.behind (n:Int) (σ:TS) (p:Int):TS:=(σ.get p).push p n
noncomputable def TS.add (σ:TS) (n:Int) (ps:List Int):TS:=ps.foldl (TS.behind n) ((σ.get n).more n ((σ.get n).np n+ps.length))
noncomputable def TS.Sz (σ:TS) (u:Nat):Prop:=σ.nodes.length≤u∧∀ k,(σ.su k).length≤u
theorem TS.Sz.le{σ:TS}{u v:Nat}(h:σ.Sz u)(q:u≤v):σ.Sz v:=⟨Nat.le_trans h.1 q,fun k=>Nat.le_trans (h.2 k) q⟩
theorem TS.Sz.get{σ:TS}{u:Nat}{n:Int}(h:σ.Sz u):(σ.get n).Sz (u+1):=by
 refine ⟨?_,fun k=>Nat.le_succ_of_le (h.2 k)⟩
 unfold TS.get
 try dsimp only
 split
 ·exact Nat.le_succ_of_le h.1
 ·simpa using h.1
theorem TS.Sz.more{σ:TS}{u:Nat}{n v:Int}(h:σ.Sz u):(σ.more n v).Sz u:=h
theorem TS.Sz.push{σ:TS}{u:Nat}{p n:Int}(h:σ.Sz u):(σ.push p n).Sz (u+1):=by
 refine ⟨Nat.le_succ_of_le h.1,fun k=>?_⟩
 unfold TS.push iF
 try dsimp only
 split
 ·subst_vars;simpa using h.2 _
 ·exact Nat.le_succ_of_le (h.2 k)
theorem TS.wq{σ:TS}{n:Int}:n∈(σ.get n).nodes:=by
 unfold TS.get
 try dsimp only
 split
 ·assumption
 ·exact List.mem_concat_self
theorem TS.Sz.behind{σ:TS}{u:Nat}{p n:Int}(h:σ.Sz u):(TS.behind n σ p).Sz (u+2):=h.get.push
theorem TS.Sz.fold{n:Int}:∀ {ps:List Int} {σ:TS} {u:Nat},σ.Sz u→(ps.foldl (TS.behind n) σ).Sz (u+2 * ps.length)
 | [],σ,u,h=>h
 | p::r,σ,u,h=>by
  rw [List.foldl_cons,List.length_cons]
  exact (TS.Sz.fold h.behind).le (by lia)
section
variable {D:SA}{c:Cells}{a d:Addr}{ia la:Int→Addr}{σ:TS}
theorem dP.EZ(B:dP D c a d ia la σ){k:Int}(hk:k∈σ.nodes):a≠ia k∧d≠ia k∧∀ j∈σ.nodes,la j≠ia k:=by
 have e:=B.info k hk
 refine ⟨fun z=>?_,fun z=>?_,fun j hj z=>?_⟩
 ·have:=B.inst;rw [z,e] at this;cases this
 ·have:=B.dict;rw [z,e] at this;cases this
 ·have:=B.succ j hj;rw [z,e] at this;cases this
theorem dP.E0(B:dP D c a d ia la σ){k:Int}(hk:k∈σ.nodes):a≠la k∧d≠la k∧∀ j∈σ.nodes,ia j≠la k:=by
 have e:=B.succ k hk
 refine ⟨fun z=>?_,fun z=>?_,fun j hj z=>?_⟩
 ·have:=B.inst;rw [z,e] at this;cases this
 ·have:=B.dict;rw [z,e] at this;cases this
 ·have:=B.info j hj;rw [z,e] at this;cases this
theorem dP.more(B:dP D c a d ia la σ){n v:Int}(hn:n∈σ.nodes):dP D (upd c (ia n) (some (.slots D.ni [some (.int n),some (.int v),some (.ref (la n))]))) a d ia la (σ.more n v):=by
 (refine aP (B.EZ hn) ?_;intro h1 h2 h3)
 refine ⟨by rw [ae _ h1];exact B.inst,by rw [ae _ h2];exact B.dict,fun k hk=>?_,fun k hk=>by rw [ae _ (h3 k hk)];exact B.succ k hk,B.j9,B.zr,B.nodup,fun k hk=>?_⟩
 ·show _=some (Cell.slots D.ni [some (.int k),some (.int (iF σ.np n v k)),some (.ref (la k))])
  by_cases z:k=n
  ·subst z;rw [ag,aW]
  ·rw [ae _ (fun q=>z (B.j9 k hk n hn q)),bw _ _ z];exact B.info k hk
 ·show iF σ.np n v k=0∧σ.su k=[]
  rw [bw _ _ (fun z=>hk (by rw [z];exact hn))];exact B.zero k hk
theorem dP.push(B:dP D c a d ia la σ){p n:Int}(hp:p∈σ.nodes):dP D (upd c (la p) (some (.list (Iz (σ.su p)++[.int n])))) a d ia la (σ.push p n):=by
 (refine aP (B.E0 hp) ?_;intro h1 h2 h3)
 refine ⟨by rw [ae _ h1];exact B.inst,by rw [ae _ h2];exact B.dict,fun k hk=>by rw [ae _ (h3 k hk)];exact B.info k hk,fun k hk=>?_,B.j9,B.zr,B.nodup,fun k hk=>?_⟩
 ·show _=some (Cell.list (Iz (iF σ.su p (σ.su p++[n]) k)))
  by_cases z:k=p
  ·subst z;rw [ag,aW,hO]
  ·rw [ae _ (fun q=>z (B.zr k hk p hp q)),bw _ _ z];exact B.succ k hk
 ·show σ.np k=0∧iF σ.su p (σ.su p++[n]) k=[]
  rw [bw _ _ (fun z=>hk (by rw [z];exact hp))];exact B.zero k hk
theorem dP.tF(B:dP D c a d ia la σ){n:Int}{x:Option Cell}(hn:n∈σ.nodes):dH c (upd c (ia n) x):=dH.upd fun es e=>by rw [B.info n hn] at e;cases e
theorem dP.E1(B:dP D c a d ia la σ){n:Int}{x:Option Cell}(hn:n∈σ.nodes):dH c (upd c (la n) x):=dH.upd fun es e=>by rw [B.succ n hn] at e;cases e
end
theorem Dn{X:Cx}{A:Around}{k:Nat}{c:Cells}{D:SA}{a d:Addr}{ia la:Int→Addr}{σ:TS}{n:Int}{ps:List Int}{u:Nat}{Ψ:V→Cells→Prop}(S:S2 D X)(hA:Rm X A (k+4))(B:dP D c a d ia la σ)(hz:σ.Sz u)(hu:u+2 * ps.length+1≤1000)(h:∀ c' wo xM,dP D c' a d wo xM (σ.add n ps)→dH c c'→Ψ .none c'):fK X A (.ref D.lS) (.ref a::.int n::Iz ps) Ψ c:=by
 refine sW (names:=["self","node","predecessors"]) (fixed:=[.ref a,.int n]) (rest:=Iz ps) S.lS hA (by rw [ai];exact ah (by lia)) (fun Z Z Z Z Z vs us hv=>?_) fun L cdv A' bz=>?_
 ·obtain ⟨v,w,rfl⟩:=fX hv
  cases us <;> rfl
 have S':S2 D (X.push L):=S
 generalize X.push L=Y at bz S' ⊢
 refine aa (cG (aT (m_attr (m_var (mv:=.ref a) (by kernel_rfl) (bJ (mv:=.none) B.inst (by rfl) trivial S'.hV S'.o2 (cY (eO (aC ?_))))))))
 rw [if_neg (by decide)]
 refine aD (aa (aq (.inl (by kernel_rfl)) (aH (m_var (mv:=.ref a) (by kernel_rfl) (fG B.inst (by rfl) S'.hV S'.get.at_ S'.get.typ ⟨S'.get.keep,af (m_var (mv:=.int n) (by kernel_rfl) (a_nil (zM S' bz B (by have:=hz.1;lia) fun c1 FQ FU B1 K1=>?_)))⟩)))))
 have Dp:n∈(σ.get n).nodes:=TS.wq
 have FV:=hz.get (n:=n)
 refine aa (hG (m_var (mv:=.ref (FQ n)) (by kernel_rfl) (at_slots (mv:=.int ((σ.get n).np n)) (B1.info n Dp) (by rfl) trivial S'.cni S'.s1 (aA (by kernel_rfl) S'.len trivial (af (m_var (mv:=.tuple (Iz ps)) (by kernel_rfl) (a_nil (mw (by rw [ai];exact ah (by lia)) (uE (fJ (B1.info n Dp) S'.cni S'.s1 ?_))))))))))
 rw [ai]
 have B2:=B1.more (v:=(σ.get n).np n+ps.length) Dp
 have K2:dH c1 _:=B1.tF (x:=some (Cell.slots D.ni [some (.int n),some (.int ((σ.get n).np n+ps.length)),some (.ref (FU n))])) Dp
 refine aa (cH (bind:=fun v l=>("pred",v)::l) (bN (m_var (mv:=.tuple (Iz ps)) (by kernel_rfl) (iDPP _ (iO bz.hh) ?_))))
 refine ⟨fun Z=>[("self",.ref a),("node",.int n)],fun i c'=>∃ wo xM,dP D c' a d wo xM ((ps.take i).foldl (TS.behind n) ((σ.get n).more n ((σ.get n).np n+ps.length)))∧dH c c',⟨Sub.put (by kernel_rfl) (Sub.put (by kernel_rfl) Sub.nil),FQ,FU,B2,K1.trans K2⟩,fun v hv=>cj (.inl (by kernel_rfl)),fun v hv l l' hs=>Sub.cons hs,fun i v c' hv bj=>dx bj fun wo xM B' K'=>?_,fun l c' hl bH=>dx bH fun wo xM B' K'=>?_⟩
 ·(refine xDPP (dO hv) ?_;intro p hp aV;subst aV)
  have hi:i<ps.length:=(List.getElem?_eq_some_iff.mp hp).1
  have sJ:((ps.take i).foldl (TS.behind n) ((σ.get n).more n ((σ.get n).np n+ps.length))).Sz (u+1+2 * i):=(TS.Sz.fold (FV.more)).le (by rw [List.length_take];lia)
  have e:(ps.take (i+1)).foldl (TS.behind n) ((σ.get n).more n ((σ.get n).np n+ps.length))=TS.behind n ((ps.take i).foldl (TS.behind n) ((σ.get n).more n ((σ.get n).np n+ps.length))) p:=by
   rw [List.take_add_one,List.foldl_append,hp];rfl
  try dsimp only
  rw [e]
  generalize (ps.take i).foldl (TS.behind n) ((σ.get n).more n ((σ.get n).np n+ps.length))=τ at B' sJ ⊢
  refine aa (aq (.inl (by kernel_rfl)) (aH (m_var (mv:=.ref a) (by kernel_rfl) (fG B'.inst (by rfl) S'.hV S'.get.at_ S'.get.typ ⟨S'.get.keep,af (m_var (mv:=.int p) (by kernel_rfl) (a_nil (zM S' bz B' (by have:=sJ.1;lia) fun c3 Iu Iw B3 K3=>?_)))⟩))))
  have E3:p∈(τ.get p).nodes:=TS.wq
  have Gb:=sJ.get (n:=p)
  refine aa (cB (aH (m_attr (m_var (mv:=.ref (Iu p)) (by kernel_rfl) (at_slots (mv:=.ref (Iw p)) (B3.info p E3) (by rfl) trivial S'.cni S'.s2 (fD (B3.succ p E3) PySem.F.slot_list_append (by rfl) ⟨trivial,af (m_var (mv:=.int n) (by kernel_rfl) (a_nil (c_append (B3.succ p E3) (by rw [ai];have:=Gb.2 p;exact ah (by lia)) (aD ?_))))⟩))))))
  exact (uh (Sub.put (by kernel_rfl) (Sub.put (by kernel_rfl) Sub.nil)) Iu Iw (B3.push E3) (K'.trans (K3.trans (B3.E1 E3))))
 ·rw [ai,List.take_length] at B'
  exact aD (h c' wo xM B' K')
end L2
namespace L2
open PySem.W (findIn typeIn keepIn)
noncomputable def TS.none:TS:=⟨[],fun Z=>0,fun Z=>[]⟩
noncomputable def TS.adds (σ:TS) (g:List (Int×List Int)):TS:=g.foldl (fun τ kv=>τ.add kv.1 kv.2) σ
noncomputable def fP (g:List (Int×List Int)):List (Int×V):=g.map fun kv=>(kv.1,.list (Iz kv.2))
theorem lY{g:List (Int×List Int)}{i:Nat}{v:V}(h:(hH (fP g))[i]?=some v):∃ k ps,g[i]?=some (k,ps)∧v=.tuple [.int k,.list (Iz ps)]:=by
 unfold hH fP at h
 rw [List.map_map,List.getElem?_map,Option.map_eq_some_iff] at h
 obtain ⟨⟨k,ps⟩,h1,h2⟩:=h
 exact (eB k ps h1 h2.symm)
noncomputable def gk:List (Int×List Int)→Nat
 | []=>0
 | kv::r=>2 * kv.2.length+1+gk r
theorem TS.Sz.add{σ:TS}{u:Nat}{n:Int}{ps:List Int}(h:σ.Sz u):(σ.add n ps).Sz (u+(2 * ps.length+1)):=(TS.Sz.fold (h.get.more)).le (by lia)
theorem TS.Sz.adds:∀ {g:List (Int×List Int)} {σ:TS} {u:Nat},σ.Sz u→(σ.adds g).Sz (u+gk g)
 | [],σ,u,h=>h
 | kv::r,σ,u,h=>by
  show (TS.adds (σ.add kv.1 kv.2) r).Sz _
  exact (TS.Sz.adds h.add).le (by rw [gk];lia)
theorem oQ:∀ (g:List (Int×List Int)) (i:Nat) {kv:Int×List Int},g[i]?=some kv→gk (g.take i)+(2 * kv.2.length+1)≤gk g
 | [],i,kv,h=>by simp at h
 | x::r,0,kv,h=>by simp at h;subst h;simp [gk]
 | x::r,i+1,kv,h=>by
  have:=oQ r i (kv:=kv) (by exact Option.mem_def.mp h)
  simp only [List.take_succ_cons,gk]
  lia
theorem hX{n:Str}{v:V}:∀ {fs:List (Str×V)} {m:Nat},fs.length≤m→(rE fs n v).length≤m+1
 | [],m,h=>by simp [rE]
 | (x,u)::r,m,h=>by
  rw [rE]
  split
  ·exact Nat.le_add_right_of_le h
  ·cases m with
   | zero=>simp at h
   | succ m=>have:=hX (n:=n) (v:=v) (fs:=r) (m:=m) (by exact Nat.le_of_lt_succ h);simpa using this
theorem Bn{X:Cx}{A:Around}{k:Nat}{c:Cells}{D:SA}{a gd:Addr}{g:List (Int×List Int)}{Ψ:V→Cells→Prop}(S:S2 D X)(hA:Rm X A (k+5))(ha:c a=some (.inst D.ts []))(hg:c gd=some (.c9 (fP g)))(hu:gk g≤900)(h:∀ c' d ia la,dP D c' a d ia la (TS.none.adds g)→Ψ .none c'):fK X A (.ref D.jK) [.ref a,.ref gd] Ψ c:=by
 refine xu (names:=["self","graph"]) S.jK hA (fun Z Z Z Z Z vs A s Q E hv hK hQ=>?_) fun L cdv A' bz=>?_
 ·obtain ⟨v,w,rfl⟩:=fX hv
  ·refine wpAny_bind (m:=seqItems? (.ref D.dflt)) (wpAny_seqItems (hK _ _ S.JZ) rfl ?_)
   exact wpAny_of_eq (by rfl) hQ
 have S':S2 D (X.push L):=S
 generalize X.push L=Y at bz S' ⊢
 refine aa (bk (mD fun d hd=>m_var (mv:=.ref a) (by kernel_rfl) (hD (by rw [ae _ (fun z=>by rw [← z,ha] at hd;cases hd)];exact ha) S'.hV S'.o1 (by decide) ?_)))
 have J9:a≠d:=fun z=>by rw [← z,ha] at hd;cases hd
 have Hk:gd≠d:=fun z=>by rw [← z,hg] at hd;cases hd
 have Hl:gd≠a:=fun z=>by rw [z,ha] at hg;cases hg
 refine aa (bk (cY (m_var (mv:=.ref a) (by kernel_rfl) (hD (ag _ _ _) S'.hV S'.o2 (Nat.le_trans (hX (Nat.zero_le 0)) (by decide)) ?_))))
 refine aa (bk (m_int (m_var (mv:=.ref a) (by kernel_rfl) (hD (ag _ _ _) S'.hV S'.o3 (Nat.le_trans (hX (hX (Nat.zero_le 0))) (by decide)) ?_))))
 refine aa (bk (m_int (m_var (mv:=.ref a) (by kernel_rfl) (hD (ag _ _ _) S'.hV S'.o4 (Nat.le_trans (hX (hX (hX (Nat.zero_le 0)))) (by decide)) ?_))))
 rw [b8,b8,b8]
 have B0:dP D (upd (upd c d (some (.dict []))) a (some (.inst D.ts [("_node2info",.ref d),("_ready_nodes",.none),("_npassedout",.int 0),("_nfinished",.int 0)]))) a d (fun Z=>0) (fun Z=>0) TS.none :=
  ⟨ag _ _ _,by rw [ae _ (fun z=>J9 z.symm),ag];rfl,fun k hk=>by simp [TS.none] at hk,fun k hk=>by simp [TS.none] at hk,fun k hk=>by simp [TS.none] at hk,fun k hk=>by simp [TS.none] at hk,by simp [TS.none],fun k Z=>⟨rfl,rfl⟩⟩
 have G0:(upd (upd c d (some (.dict []))) a (some (.inst D.ts [("_node2info",.ref d),("_ready_nodes",.none),("_npassedout",.int 0),("_nfinished",.int 0)]))) gd=some (.c9 (fP g)):=by rw [ae _ Hl,ae _ Hk];exact hg
 show mS Y A' _ _ _ _ (upd (upd c d (some (.dict []))) a (some (.inst D.ts [("_node2info",.ref d),("_ready_nodes",.none),("_npassedout",.int 0),("_nfinished",.int 0)])))
 generalize upd (upd c d (some (.dict []))) a (some (.inst D.ts [("_node2info",.ref d),("_ready_nodes",.none),("_npassedout",.int 0),("_nfinished",.int 0)]))=c0 at B0 G0 ⊢
 refine aa (cG (aT (m_var (mv:=.ref gd) (by kernel_rfl) (cY (kE trivial (aC ?_))))))
 rw [if_pos rfl]
 refine aa (cH (bind:=gO "node" "predecessors") (A2 bz.hh (m_var (mv:=.ref gd) (by kernel_rfl) (iDDPPP gd (fP g) rfl G0 ?_))))
 refine ⟨fun Z=>[("self",.ref a)],fun i c'=>∃ wo xM,dP D c' a d wo xM (TS.none.adds (g.take i))∧dH c0 c',⟨Sub.put (by kernel_rfl) Sub.nil,_,_,B0,.refl⟩,fun v hv=>?_,fun v hv l l' hs=>Sub.gO ?_ hs,fun i v c' hv cR=>dx cR fun wo xM B' K'=>?_,fun l c' hl fu=>dx fu fun wo xM B' K'=>?_⟩
 ·(refine ba (List.getElem?_of_mem hv) ?_;intro i hi)
  (refine dx (lY hi) ?_;intro k ps Z bj;subst bj)
  exact kz bz.hh (.inl (by kernel_rfl)) (.inl (by kernel_rfl))
 ·(refine ba (List.getElem?_of_mem hv) ?_;intro i hi)
  (refine dx (lY hi) ?_;intro k ps Z bH;subst bH)
  exact (fV _ _ rfl)
 ·(refine dx (lY hv) ?_;intro n ps hp cw;subst cw)
  have hz:(TS.none.adds (g.take i)).Sz (0+gk (g.take i)):=TS.Sz.adds ⟨Nat.zero_le _,fun Z=>Nat.zero_le _⟩
  have hs:=oQ g i hp
  dsimp only at hs
  have e:TS.none.adds (g.take (i+1))=(TS.none.adds (g.take i)).add n ps:=by
   unfold TS.adds
   rw [List.take_add_one,List.foldl_append,hp];rfl
  try dsimp only
  rw [e]
  refine aa (cB (xw (m_var (mv:=.ref a) (by kernel_rfl) (me a D.ts _ D.lS rfl B'.inst (by rfl) S'.hV S'.Ha (af (m_var (mv:=.int n) (by kernel_rfl) (C6 (m_var (mv:=.list (Iz ps)) (by kernel_rfl) (bq _ (.inl rfl) (by rw [ai];exact ah (by lia)) (a_nil ?_))))))))))
  rw [List.append_nil]
  refine Dn S' bz B' hz (by lia) fun c1 FQ FU B1 K1=>aD (uh (Sub.put (by kernel_rfl) Sub.nil) FQ FU B1 (K'.trans K1))
 ·have hl:(hH (fP g)).length=g.length:=by simp [hH,fP]
  rw [hl,List.take_length] at B'
  exact aD (aD (h c' d wo xM B'))
end L2
namespace L2
open PySem.W (findIn typeIn keepIn)
noncomputable def cq (D:SA) (σ:TS) (k:Int):Cell:=.slots D.ni [some (.int k),some (.int (σ.np k)),some (.list (Iz (σ.su k)))]
structure oR(D:SA)(c:Cells)(a d:Addr)(ia:Int→Addr)(σ:TS)(rv:V)(p f:Int):Prop where
 inst:c a=some (.inst D.ts [("_node2info",.ref d),("_ready_nodes",rv),("_npassedout",.int p),("_nfinished",.int f)])
 dict:c d=some (.c9 (σ.nodes.map fun k=>(k,.ref (ia k))))
 info:∀ k∈σ.nodes,c (ia k)=some (cq D σ k)
 j9:∀ k∈σ.nodes,∀ j∈σ.nodes,ia k=ia j→k=j
 nodup:σ.nodes.Nodup
structure xN(D:SA)(c:Cells)(a d:Addr)(ia la:Int→Addr)(σ:TS)(todo:List Int):Prop where
 inst:c a=some (.inst D.ts [("_node2info",.ref d),("_ready_nodes",.none),("_npassedout",.int 0),("_nfinished",.int 0)])
 dict:c d=some (.dict (σ.nodes.map fun k=>(k,.ref (ia k))))
 fin:∀ k∈σ.nodes,k ∉ todo→c (ia k)=some (cq D σ k)
 info:∀ k∈todo,k∈σ.nodes∧c (ia k)=some (.slots D.ni [some (.int k),some (.int (σ.np k)),some (.ref (la k))])
 succ:∀ k∈todo,c (la k)=some (.list (Iz (σ.su k)))
theorem xN.go{X:Cx}{D:SA}{a d:Addr}{ia la:Int→Addr}{σ:TS}(iI:∀ k∈σ.nodes,∀ j∈σ.nodes,ia k=ia j→k=j)(iL:∀ k∈σ.nodes,∀ j∈σ.nodes,la k=la j→k=j) :
  ∀ (todo:List Int) (c:Cells),todo.Nodup→xN D c a d ia la σ todo→∃ c',Gh X c c'∧xN D c' a d ia la σ []
 | [],c,_,F=>(iDPP c .refl F)
 | k::r,c,hn,F=>by
  rw [List.nodup_cons] at hn
  (refine aK (F.info k List.mem_cons_self) ?_;intro hk ek)
  have sk:=F.succ k List.mem_cons_self
  have g:=Gh.uP (X:=X) (i:=2) sk ek rfl
  have na:∀ x y,c x=some y→(∀ xs,y≠.list xs)→x≠la k:=fun x y e n z=>by rw [z,sk] at e;cases e;exact n _ rfl
  have ni:∀ x y,c x=some y→(∀ C fs,y≠.slots C fs)→x≠ia k:=fun x y e n z=>by rw [z,ek] at e;cases e;exact n _ _ rfl
  have F':xN D (upd (upd c (la k) none) (ia k) (some (.slots D.ni ([some (.int k),some (.int (σ.np k)),some (.ref (la k))].set 2 (some (.list (Iz (σ.su k)))))))) a d ia la σ r:=by
   refine ⟨?_,?_,fun j hj hr=>?_,fun j hj=>?_,fun j hj=>?_⟩
   ·rw [ae _ (ni _ _ F.inst (by intros;simp)),ae _ (na _ _ F.inst (by intros;simp))];exact F.inst
   ·rw [ae _ (ni _ _ F.dict (by intros;simp)),ae _ (na _ _ F.dict (by intros;simp))];exact F.dict
   ·by_cases z:j=k
    ·subst z;rw [ag];rfl
    ·have e:=F.fin j hj (by rw [List.mem_cons];exact fun q=>q.elim z hr)
     rw [ae _ (fun q=>z (iI j hj k hk q)),ae _ (na _ _ e (by intros;simp [cq]))];exact e
   ·(refine aK (F.info j (List.mem_cons_of_mem _ hj)) ?_;intro h1 e)
    have z:j≠k:=fun q=>hn.1 (q▸hj)
    exact ⟨h1,by rw [ae _ (fun q=>z (iI j h1 k hk q)),ae _ (na _ _ e (by intros;simp))];exact e⟩
   ·have e:=F.succ j (List.mem_cons_of_mem _ hj)
    have h1:=(F.info j (List.mem_cons_of_mem _ hj)).1
    have z:j≠k:=fun q=>hn.1 (q▸hj)
    rw [ae _ (ni _ _ e (by intros;simp)),ae _ (fun q=>z (iL j h1 k hk q))];exact e
  obtain ⟨c',g',Ka⟩:=xN.go iI iL r _ hn.2 F'
  exact (iDPP c' (g.trans g') Ka)
theorem dP.stop{X:Cx}{D:SA}{c:Cells}{a d:Addr}{ia la:Int→Addr}{σ:TS}(B:dP D c a d ia la σ):∃ c',Gh X c c'∧oR D c' a d ia σ .none 0 0:=by
 (refine xDPP (xN.go (X:=X) (D:=D) (a:=a) (d:=d) B.j9 B.zr σ.nodes c B.nodup ⟨B.inst,B.dict,fun k hk n=>(n hk).elim,fun k hk=>⟨hk,B.info k hk⟩,B.succ⟩) ?_;intro c' g F)
 refine ⟨_,g.trans (Gh.stop F.dict),?_,ag _ _ _,fun k hk=>?_,B.j9,B.nodup⟩
 ·rw [ae _ (fun z=>by have:=F.inst;rw [z,F.dict] at this;cases this)];exact F.inst
 ·have e:=F.fin k hk (by exact List.not_mem_nil)
  rw [ae _ (fun z=>by rw [z,F.dict] at e;simp [cq] at e)];exact e
theorem zN{X:Cx}{A:Around}{k:Nat}{c:Cells}{D:SA}{gd:Addr}{g:List (Int×List Int)}{Ψ:V→Cells→Prop}(S:S2 D X)(hA:Rm X A (k+6))(hg:c gd=some (.dict (fP g)))(hu:gk g≤900)(h:∀ c' a d ia,oR D c' a d ia (TS.none.adds g) .none 0 0→Ψ (.ref a) c'):aE X A (.ref D.ts) [.ref gd] Ψ c:=by
 refine aE.gh (Gh.stop hg) (aE.EB (BX S.G9 hA (.inl rfl) fun a A' ha bz=>?_))
 have Hl:gd≠a:=fun z=>by rw [← z,ag] at ha;cases ha
 refine Bn S bz (ag _ _ _) (by rw [ae _ Hl,ag]) hu fun c' d ia la B=>⟨rfl,?_⟩
 (refine xDPP (B.stop (X:=X)) ?_;intro c2 g2 R)
 exact (iDPP c2 g2 (h c2 a d ia R))
end L2
namespace L2
open PySem.W (findIn typeIn keepIn)
structure lZ(D:SA)(c:Cells)(a d r:Addr)(ia:Int→Addr)(σ:TS)(rd:List Int)(p f:Int):Prop where
 rep:oR D c a d ia σ (.ref r) p f
 va:c r=some (.list (Iz rd))
noncomputable def df (r:Addr) (c c':Cells):Prop:=∀ b xs,c b=some (.list xs)→b≠r→c' b=some (.list xs)
theorem df.refl{r:Addr}{c:Cells}:df r c c:=fun Z Z h Z=>h
theorem df.trans{r:Addr}{a b c:Cells}(h:df r a b)(k:df r b c):df r a c:=fun x es e n=>k x es (h x es e n) n
theorem df.upd{r:Addr}{c:Cells}{a:Addr}{x:Option Cell}(h:a=r∨∀ xs,c a≠some (.list xs)):df r c (upd c a x):=fun b xs e n=>by
 have hb:b≠a:=fun z=>by
  subst z
  exact h.elim (fun q=>n q) fun q=>q xs e
 rw [ae _ hb];exact e
section
variable {D:SA}{c:Cells}{a d r:Addr}{ia:Int→Addr}{σ:TS}{rv:V}{p f:Int}{rd:List Int}
theorem oR.more(B:oR D c a d ia σ rv p f){n v:Int}(hn:n∈σ.nodes):oR D (upd c (ia n) (some (cq D (σ.more n v) n))) a d ia (σ.more n v) rv p f:=by
 have e:=B.info n hn
 refine ⟨?_,?_,fun k hk=>?_,B.j9,B.nodup⟩
 ·rw [ae _ (fun z=>by have:=B.inst;rw [z,e] at this;simp [cq] at this)];exact B.inst
 ·rw [ae _ (fun z=>by have:=B.dict;rw [z,e] at this;simp [cq] at this)];exact B.dict
 ·by_cases z:k=n
  ·subst z;rw [ag]
  ·rw [ae _ (fun q=>z (B.j9 k hk n hn q)),B.info k hk]
   show some (cq D σ k)=some (cq D (σ.more n v) k)
   unfold cq TS.more
   try dsimp only
   rw [bw _ _ z]
theorem lZ.more(B:lZ D c a d r ia σ rd p f){n v:Int}(hn:n∈σ.nodes):lZ D (upd c (ia n) (some (cq D (σ.more n v) n))) a d r ia (σ.more n v) rd p f :=
 ⟨B.rep.more hn,by rw [ae _ (fun z=>by have:=B.rep.info n hn;rw [← z,B.va] at this;simp [cq] at this)];exact B.va⟩
theorem lZ.list(B:lZ D c a d r ia σ rd p f){rd':List Int}:lZ D (upd c r (some (.list (Iz rd')))) a d r ia σ rd' p f:=by
 have e:=B.va
 refine ⟨⟨?_,?_,fun k hk=>?_,B.rep.j9,B.rep.nodup⟩,ag _ _ _⟩
 ·rw [ae _ (fun z=>by have:=B.rep.inst;rw [z,e] at this;cases this)];exact B.rep.inst
 ·rw [ae _ (fun z=>by have:=B.rep.dict;rw [z,e] at this;cases this)];exact B.rep.dict
 ·rw [ae _ (fun z=>by have:=B.rep.info k hk;rw [z,e] at this;simp [cq] at this)];exact B.rep.info k hk
theorem lZ.inst(B:lZ D c a d r ia σ rd p f){p' f':Int}:lZ D (upd c a (some (.inst D.ts [("_node2info",.ref d),("_ready_nodes",.ref r),("_npassedout",.int p'),("_nfinished",.int f')]))) a d r ia σ rd p' f':=by
 have e:=B.rep.inst
 refine ⟨⟨ag _ _ _,?_,fun k hk=>?_,B.rep.j9,B.rep.nodup⟩,?_⟩
 ·rw [ae _ (fun z=>by have:=B.rep.dict;rw [z,e] at this;cases this)];exact B.rep.dict
 ·rw [ae _ (fun z=>by have:=B.rep.info k hk;rw [z,e] at this;simp [cq] at this)];exact B.rep.info k hk
 ·rw [ae _ (fun z=>by have:=B.va;rw [z,e] at this;cases this)];exact B.va
theorem lZ.tF(B:lZ D c a d r ia σ rd p f){n:Int}{x:Option Cell}(hn:n∈σ.nodes):df r c (upd c (ia n) x):=df.upd (.inr fun xs e=>by rw [B.rep.info n hn] at e;simp [cq] at e)
theorem lZ.Cj(B:lZ D c a d r ia σ rd p f){x:Option Cell}:df r c (upd c a x):=df.upd (.inr fun xs e=>by rw [B.rep.inst] at e;simp at e)
theorem rX(B:oR D c a d ia σ rv p f){k:Int}(hk:k∈σ.nodes):gA (σ.nodes.map fun k=>(k,V.ref (ia k))) k=some (.ref (ia k)):=by rw [dget_map (f:=fun k=>.ref (ia k)),if_pos hk]
end
theorem xO{X:Cx}{A:Around}{k:Nat}{c:Cells}{D:SA}{a d r:Addr}{ia:Int→Addr}{σ:TS}{rd:List Int}{p f:Int}{Ψ:V→Cells→Prop}(S:S2 D X)(hA:Rm X A (k+1))(B:lZ D c a d r ia σ rd p f)(hz:rd.length≤1000000)(h:Ψ (.bool (decide (f<p)||!rd.isEmpty)) c):aE X A (.ref D.fact) [.ref a] Ψ c:=by
 refine cb (names:=["self"]) S.fact hA (fun Z Z Z Z Z vs hv=>?_) fun L cdv A' bz=>?_
 ·(refine ba (bY hv) ?_;intro v aV;subst aV)
  rfl
 have S':S2 D (X.push L):=S
 generalize X.push L=Y at bz S' ⊢
 refine aa (cG (aT (m_attr (m_var (mv:=.ref a) (by kernel_rfl) (bJ (mv:=.ref r) B.rep.inst (by rfl) trivial S'.hV S'.o2 (cY (eY trivial (aC ?_))))))))
 rw [if_neg (by decide)]
 refine aD (aa (bo (ES (vK (m_attr (m_var (mv:=.ref a) (by kernel_rfl) (bJ (mv:=.int f) B.rep.inst (by rfl) trivial S'.hV S'.o4 (m_attr (m_var (mv:=.ref a) (by kernel_rfl) (bJ (mv:=.int p) B.rep.inst (by rfl) trivial S'.hV S'.o3 (sM (aC ?_))))))))))))
 by_cases q:f<p
 ·rw [if_pos (by exact decide_eq_true q)]
  simpa [q,Back] using h
 ·rw [if_neg (by simpa using q)]
  refine aA (by kernel_rfl) S'.bool trivial (af (m_attr (m_var (mv:=.ref a) (by kernel_rfl) (bJ (mv:=.ref r) B.rep.inst (by rfl) trivial S'.hV S'.o2 (a_nil (tC B.va (by rw [ai];exact ah hz) ?_))))))
  have e:(Iz rd).isEmpty=rd.isEmpty:=by cases rd <;> rfl
  rw [e]
  simpa [q,Back] using h
noncomputable def TS.outs (σ:TS) (ns:List Int):TS:=ns.foldl (fun τ k=>τ.more k (-1)) σ
theorem TS.cP(σ:TS):∀ (ns:List Int),(σ.outs ns).nodes=σ.nodes∧(σ.outs ns).su=σ.su:=by
 intro ns
 induction ns generalizing σ with
 | nil=>exact ⟨rfl,rfl⟩
 | cons n r ih=>exact ih (σ.more n (-1))
theorem oU{X:Cx}{A:Around}{k:Nat}{c:Cells}{D:SA}{a d r:Addr}{ia:Int→Addr}{σ:TS}{rd:List Int}{p f:Int}{Ψ:V→Cells→Prop}(S:S2 D X)(hA:Rm X A (k+1))(B:lZ D c a d r ia σ rd p f)(hz:rd.length<1000)(hr:∀ k∈rd,k∈σ.nodes)(h:∀ c',lZ D c' a d r ia (σ.outs rd) [] (p+rd.length) f→df r c c'→Ψ (.tuple (Iz rd)) c'):aE X A (.ref D.gE) [.ref a] Ψ c:=by
 refine cb (names:=["self"]) S.gE hA (fun Z Z Z Z Z vs hv=>?_) fun L cdv A' bz=>?_
 ·(refine ba (bY hv) ?_;intro v bj;subst bj)
  rfl
 have S':S2 D (X.push L):=S
 generalize X.push L=Y at bz S' ⊢
 refine aa (cG (aT (m_attr (m_var (mv:=.ref a) (by kernel_rfl) (bJ (mv:=.ref r) B.rep.inst (by rfl) trivial S'.hV S'.o2 (cY (eY trivial (aC ?_))))))))
 rw [if_neg (by decide)]
 refine aD (aa (aq (.inl (by kernel_rfl)) (aA (by kernel_rfl) S'.tuple trivial (af (m_attr (m_var (mv:=.ref a) (by kernel_rfl) (bJ (mv:=.ref r) B.rep.inst (by rfl) trivial S'.hV S'.o2 (a_nil (rG B.va (by rw [ai];exact ah (by lia)) ?_)))))))))
 refine aa (aq (.inl (by kernel_rfl)) (m_attr (m_var (mv:=.ref a) (by kernel_rfl) (bJ (mv:=.ref d) B.rep.inst (by rfl) trivial S'.hV S'.o1 ?_))))
 refine aa (cH (bind:=fun v l=>("node",v)::l) (bN (m_var (mv:=.tuple (Iz rd)) (by kernel_rfl) (iDPP _ (iO bz.hh) ?_))))
 refine (cF (fun Z=>[("n2i",.ref d),("result",.tuple (Iz rd)),("self",.ref a)]) (fun i c'=>lZ D c' a d r ia (σ.outs (rd.take i)) rd p f∧df r c c') (⟨Sub.put (by kernel_rfl) (Sub.put (by kernel_rfl) (Sub.put (by kernel_rfl) Sub.nil)),B,.refl⟩) (fun v hv=>cj (.inl (by kernel_rfl))) (fun v hv l l' hs=>Sub.cons hs) (fun i v c' hv cw=>aK cw fun B' K'=>?_) (fun l c' hl cR=>aK cR fun B' K'=>?_))
 ·(refine xDPP (dO hv) ?_;intro n hp bH;subst bH)
  have hn:n∈(σ.outs (rd.take i)).nodes:=by rw [(TS.cP σ _).1];exact hr n (List.mem_of_getElem? hp)
  have e:σ.outs (rd.take (i+1))=(σ.outs (rd.take i)).more n (-1):=by
   unfold TS.outs
   rw [List.take_add_one,List.foldl_append,hp];rfl
  try dsimp only
  rw [e]
  refine aa (bk (ey (by kernel_rfl) S'.out (m_item (m_var (mv:=.ref d) (by kernel_rfl) (m_var (mv:=.int n) (by kernel_rfl) (g_fdict B'.rep.dict (rX B'.rep hn) (fJ (B'.rep.info n hn) S'.cni S'.s1 (aD ?_))))))))
  have B2:=B'.more (v:=-1) hn
  have e2:cq D ((σ.outs (rd.take i)).more n (-1)) n=.slots D.ni (bK [some (.int n),some (.int ((σ.outs (rd.take i)).np n)),some (.list (Iz ((σ.outs (rd.take i)).su n)))] 1 (.int (-1))):=by
   unfold cq TS.more bK
   try dsimp only
   rw [aW];rfl
  rw [e2] at B2
  exact ⟨Sub.put (by kernel_rfl) (Sub.put (by kernel_rfl) (Sub.put (by kernel_rfl) Sub.nil)),B2,K'.trans (B'.tF hn)⟩
 ·rw [ai,List.take_length] at B'
  refine aa (cB (aH (m_attr (m_var (mv:=.ref a) (hl _ _ (by kernel_rfl)) (bJ (mv:=.ref r) B'.rep.inst (by rfl) trivial S'.hV S'.o2 (fD B'.va PySem.F.slot_list_clear (by rfl) ⟨trivial,a_nil (A0 B'.va (by rw [ai];exact hz) ?_)⟩))))))
  have B3:=B'.list (rd':=[])
  refine aa (hG (m_var (mv:=.ref a) (hl _ _ (by kernel_rfl)) (bJ (mv:=.int p) B3.rep.inst (by rfl) trivial S'.hV S'.o3 (aA (by kernel_rfl) S'.len trivial (af (m_var (mv:=.tuple (Iz rd)) (hl _ _ (by kernel_rfl)) (a_nil (mw (by rw [ai];exact ah (by lia)) (uE (hD B3.rep.inst S'.hV S'.o3 (by show 4≤1000;decide) ?_))))))))))
  rw [ai]
  refine aa (bo (m_var (mv:=.tuple (Iz rd)) (hl _ _ (by kernel_rfl)) ?_))
  exact h _ (B3.inst (p':=p+rd.length) (f':=f)) ((K'.trans (df.upd (.inl rfl))).trans B3.Cj)
end L2
namespace L2
open PySem.W (findIn typeIn keepIn)
noncomputable def TS.dec (st:TS×List Int) (s:Int):TS×List Int:=(st.1.more s (st.1.np s - 1),if st.1.np s - 1=0 then st.2++[s] else st.2)
noncomputable def TS.dI (st:TS×List Int) (k:Int):TS×List Int:=(st.1.su k).foldl TS.dec (st.1.more k (-2),st.2)
noncomputable def TS.aX (st:TS×List Int) (ns:List Int):TS×List Int:=ns.foldl TS.dI st
theorem TS.tG(st:TS×List Int):∀ (ss:List Int),(ss.foldl TS.dec st).1.nodes=st.1.nodes∧(ss.foldl TS.dec st).1.su=st.1.su∧(ss.foldl TS.dec st).2.length≤st.2.length+ss.length:=by
 intro ss
 induction ss generalizing st with
 | nil=>exact ⟨rfl,rfl,Nat.le_refl _⟩
 | cons s r ih =>
  (refine aP (ih (TS.dec st s)) ?_;intro h1 h2 h3)
  refine ⟨h1,h2,?_⟩
  rw [List.foldl_cons,List.length_cons]
  refine Nat.le_trans h3 ?_
  unfold TS.dec
  try dsimp only
  split <;> simp <;> lia
theorem TS.kc(N:Nat):∀ (ns:List Int) (st:TS×List Int),(∀ k,(st.1.su k).length≤N)→(TS.aX st ns).1.nodes=st.1.nodes∧(TS.aX st ns).1.su=st.1.su∧(TS.aX st ns).2.length≤st.2.length+ns.length * N:=by
 intro ns
 induction ns with
 | nil=>intro st Z;exact ⟨rfl,rfl,by simp [TS.aX]⟩
 | cons n r ih =>
  intro st hN
  (refine aP (TS.tG (st.1.more n (-2),st.2) (st.1.su n)) ?_;intro h1 h2 h3)
  have e2:(TS.dI st n).1.su=st.1.su:=h2
  (refine aP (ih (TS.dI st n) (fun k=>by rw [e2];exact hN k)) ?_;intro i1 i2 i3)
  refine ⟨i1.trans h1,i2.trans e2,?_⟩
  show (TS.aX (TS.dI st n) r).2.length≤_
  refine Nat.le_trans i3 ?_
  have h4:(TS.dI st n).2.length≤st.2.length+(st.1.su n).length:=h3
  have:=hN n
  rw [List.length_cons,Nat.add_mul]
  lia
theorem wu{X:Cx}{A:Around}{k:Nat}{c:Cells}{D:SA}{a d r:Addr}{ia:Int→Addr}{σ:TS}{rd ns:List Int}{p f:Int}{Ψ:V→Cells→Prop}(S:S2 D X)(hA:Rm X A (k+1))(B:lZ D c a d r ia σ rd p f)(hz:rd.length≤1000)(hs:∀ k,(σ.su k).length≤100)(hn:ns.length≤100)(hm:∀ k∈σ.nodes,∀ s∈σ.su k,s∈σ.nodes)(AO:∀ (i:Nat) k,ns[i]?=some k→k∈σ.nodes∧(TS.aX (σ,rd) (ns.take i)).1.np k=-1)(h:∀ c',lZ D c' a d r ia (TS.aX (σ,rd) ns).1 (TS.aX (σ,rd) ns).2 p (f+ns.length)→df r c c'→Ψ .none c'):fK X A (.ref D.gj) (.ref a::Iz ns) Ψ c:=by
 refine sW (names:=["self","nodes"]) (fixed:=[.ref a]) (rest:=Iz ns) S.gj hA (by rw [ai];exact ah (by lia)) (fun Z Z Z Z Z vs us hv=>?_) fun L cdv A' bz=>?_
 ·obtain ⟨v,rfl⟩:=bY hv
  cases us <;> rfl
 have S':S2 D (X.push L):=S
 generalize X.push L=Y at bz S' ⊢
 refine aa (cG (aT (m_attr (m_var (mv:=.ref a) (by kernel_rfl) (bJ (mv:=.ref r) B.rep.inst (by rfl) trivial S'.hV S'.o2 (cY (eY trivial (aC ?_))))))))
 rw [if_neg (by decide)]
 refine aD (aa (aq (.inl (by kernel_rfl)) (m_attr (m_var (mv:=.ref a) (by kernel_rfl) (bJ (mv:=.ref d) B.rep.inst (by rfl) trivial S'.hV S'.o1 ?_)))))
 refine aa (cH (bind:=fun v l=>("node",v)::l) (bN (m_var (mv:=.tuple (Iz ns)) (by kernel_rfl) (iDPP _ (iO bz.hh) ?_))))
 refine (cF (fun Z=>[("n2i",.ref d),("self",.ref a)]) (fun i c'=>lZ D c' a d r ia (TS.aX (σ,rd) (ns.take i)).1 (TS.aX (σ,rd) (ns.take i)).2 p (f+i)∧df r c c') (⟨Sub.put (by kernel_rfl) (Sub.put (by kernel_rfl) Sub.nil),by simpa [TS.aX] using B,.refl⟩) (fun v hv=>cj (.inl (by kernel_rfl))) (fun v hv l l' hs=>Sub.cons hs) (fun i v c' hv bH=>aK bH fun B' K'=>?_) (fun l c' hl cw=>aK cw fun B' K'=>?_))
 ·(refine xDPP (dO hv) ?_;intro n hp aV;subst aV)
  have hi:i<ns.length:=(List.getElem?_eq_some_iff.mp hp).1
  (refine aP (TS.kc 100 (ns.take i) (σ,rd) hs) ?_;intro s1 s2 s3)
  (refine aK (AO i n hp) ?_;intro Dp wV)
  have e:TS.aX (σ,rd) (ns.take (i+1))=TS.dI (TS.aX (σ,rd) (ns.take i)) n:=by
   unfold TS.aX
   rw [List.take_add_one,List.foldl_append,hp];rfl
  try dsimp only
  rw [e]
  generalize TS.aX (σ,rd) (ns.take i)=st at B' s1 s2 s3 wV ⊢
  obtain ⟨τ,Dq⟩:=st
  dsimp only at B' s1 s2 s3 wV
  have Ln:Dq.length≤11000:=by rw [List.length_take] at s3;have:min i ns.length * 100≤100 * 100:=Nat.mul_le_mul_right _ (by lia);lia
  have yn:n∈τ.nodes:=by rw [s1];exact Dp
  have cu:(τ.su n).length≤100:=by rw [s2];exact hs n
  refine aa (cG (aT (sF (.inl (by kernel_rfl)) (aH (m_var (mv:=.ref d) (by kernel_rfl) (vY B'.rep.dict PySem.F.slot_dict_get PySem.F.type_dict_get ⟨trivial,af (m_var (mv:=.int n) (by kernel_rfl) (a_nil (C7 B'.rep.dict ?_)))⟩))))))
  rw [rX B'.rep yn]
  refine cY (eY trivial (aC ?_))
  rw [if_neg (by decide)]
  refine aD (aa (aq (.inl (by kernel_rfl)) (m_attr (m_var (mv:=.ref (ia n)) (by kernel_rfl) (at_slots (mv:=.int (τ.np n)) (B'.rep.info n yn) (by rfl) trivial S'.cni S'.s1 ?_)))))
  refine aa (cG (aT (m_var (mv:=.int (τ.np n)) (by kernel_rfl) (ey (by kernel_rfl) S'.out (Gl (aC ?_))))))
  rw [wV]
  rw [if_neg (by decide)]
  refine aD (aa (bk (ey (by kernel_rfl) S'.done (m_var (mv:=.ref (ia n)) (by kernel_rfl) (fJ (B'.rep.info n yn) S'.cni S'.s1 ?_)))))
  have B2:=B'.more (v:=-2) yn
  have e2:cq D (τ.more n (-2)) n=.slots D.ni (bK [some (.int n),some (.int (τ.np n)),some (.list (Iz (τ.su n)))] 1 (.int (-2))):=by
   unfold cq TS.more bK
   try dsimp only
   rw [aW];rfl
  have K2:df r c' (upd c' (ia n) (some (cq D (τ.more n (-2)) n))):=B'.tF yn
  rw [← e2]
  refine aa (cH (bind:=fun v l=>("successor",v)::l) (bN (m_attr (m_var (mv:=.ref (ia n)) (by kernel_rfl) (at_slots (mv:=.list (Iz (τ.su n))) (B2.rep.info n yn) (by rfl) trivial S'.cni S'.s2 (iDPP _ (bZ bz.hh) ?_))))))
  generalize upd c' (ia n) (some (cq D (τ.more n (-2)) n))=c2 at B2 K2 ⊢
  refine (cF (fun Z=>[("n2i",.ref d),("self",.ref a)]) (fun j c3=>lZ D c3 a d r ia (((τ.su n).take j).foldl TS.dec (τ.more n (-2),Dq)).1 (((τ.su n).take j).foldl TS.dec (τ.more n (-2),Dq)).2 p (f+i)∧df r c2 c3) (⟨Sub.put (by kernel_rfl) (Sub.put (by kernel_rfl) Sub.nil),B2,.refl⟩) (fun v hv=>cj (.inl (by kernel_rfl))) (fun v hv l l' hs=>Sub.cons hs) (fun j v c3 hv cR=>aK cR fun B3 K3=>?_) (fun l c3 hl fu=>aK fu fun B3 K3=>?_))
  ·(refine xDPP (dO hv) ?_;intro m hq bj;subst bj)
   (refine aP (TS.tG (τ.more n (-2),Dq) ((τ.su n).take j)) ?_;intro t1 t2 t3)
   have e3:((τ.su n).take (j+1)).foldl TS.dec (τ.more n (-2),Dq)=TS.dec (((τ.su n).take j).foldl TS.dec (τ.more n (-2),Dq)) m:=by
    rw [List.take_add_one,List.foldl_append,hq];rfl
   try dsimp only
   rw [e3]
   generalize ((τ.su n).take j).foldl TS.dec (τ.more n (-2),Dq)=st at B3 t1 t2 t3 ⊢
   obtain ⟨υ,Iy⟩:=st
   dsimp only at B3 t1 t2 t3
   have Lo:Iy.length≤12000:=by rw [List.length_take] at t3;lia
   have DX:m∈υ.nodes:=by
    rw [t1]
    show m∈τ.nodes
    rw [s1]
    exact hm n Dp m (by rw [← s2];exact List.mem_of_getElem? hq)
   refine aa (aq (.inl (by kernel_rfl)) (m_item (m_var (mv:=.ref d) (by kernel_rfl) (m_var (mv:=.int m) (by kernel_rfl) (g_fdict B3.rep.dict (rX B3.rep DX) ?_)))))
   refine aa (hG (m_var (mv:=.ref (ia m)) (by kernel_rfl) (at_slots (mv:=.int (υ.np m)) (B3.rep.info m DX) (by rfl) trivial S'.cni S'.s1 (m_int (CI (fJ (B3.rep.info m DX) S'.cni S'.s1 ?_))))))
   have B4:=B3.more (v:=υ.np m - 1) DX
   have K4:df r c3 (upd c3 (ia m) (some (cq D (υ.more m (υ.np m - 1)) m))):=B3.tF DX
   have e4:cq D (υ.more m (υ.np m - 1)) m=.slots D.ni (bK [some (.int m),some (.int (υ.np m)),some (.list (Iz (υ.su m)))] 1 (.int (υ.np m - 1))):=by
    unfold cq TS.more bK
    try dsimp only
    rw [aW];rfl
   rw [← e4]
   have Kb:(υ.more m (υ.np m - 1)).np m=υ.np m - 1:=aW _ _ _
   refine aa (cG (aT (m_attr (m_var (mv:=.ref (ia m)) (by kernel_rfl) (at_slots (mv:=.int ((υ.more m (υ.np m - 1)).np m)) (B4.rep.info m DX) (by rfl) trivial S'.cni S'.s1 (m_int (AP (aC ?_))))))))
   rw [Kb]
   unfold TS.dec
   try dsimp only
   by_cases hw:υ.np m - 1=0
   ·rw [if_pos (by rw [hw];rfl),if_pos hw]
    refine aa (cB (aH (m_attr (m_var (mv:=.ref a) (by kernel_rfl) (bJ (mv:=.ref r) B4.rep.inst (by rfl) trivial S'.hV S'.o2 (fD B4.va PySem.F.slot_list_append (by rfl) ⟨trivial,af (m_var (mv:=.int m) (by kernel_rfl) (a_nil (c_append B4.va (by rw [ai];exact ah (by lia)) (aD (aD ?_)))))⟩))))))
    have B5:=B4.list (rd':=Iy++[m])
    rw [hO] at B5
    exact ⟨Sub.put (by kernel_rfl) (Sub.put (by kernel_rfl) Sub.nil),B5,(K3.trans K4).trans (df.upd (.inl rfl))⟩
   ·rw [if_neg (by simpa using hw),if_neg hw]
    exact aD (aD ⟨Sub.put (by kernel_rfl) (Sub.put (by kernel_rfl) Sub.nil),B4,K3.trans K4⟩)
  ·rw [ai,List.take_length] at B3
   refine aa (hG (m_var (mv:=.ref a) (hl _ _ (by kernel_rfl)) (bJ (mv:=.int (f+i)) B3.rep.inst (by rfl) trivial S'.hV S'.o4 (m_int (uE (hD B3.rep.inst S'.hV S'.o4 (by show 4≤1000;decide) (aD ?_)))))))
   have B6:=B3.inst (p':=p) (f':=f+i+1)
   refine ⟨Sub.put (hl _ _ (by kernel_rfl)) (Sub.put (hl _ _ (by kernel_rfl)) Sub.nil),?_,((K'.trans K2).trans K3).trans B3.Cj⟩
   have e7:f+i+1=f+((i+1:Nat):Int):=by lia
   rw [← e7]
   exact B6
 ·rw [ai,List.take_length] at B'
  exact aD (h c' B' K')
end L2
inductive zO where
 | cyc (l:List Int)
 | fin (seen:List Int)
noncomputable def popR (su:Int→List Int):List (Int×Nat)→Option (Int×List (Int×Nat))
 | []=>none
 | (v,i)::r=>match (su v)[i]? with
  | some w=>some (w,(v,i+1)::r)
  | none=>popR su r
noncomputable def posOf:List Int→Int→Nat
 | [],_=>0
 | w::r,v=>if w=v then r.length else posOf r v
noncomputable def wx (vs:List Int) (v:Int):List Int:=vs.reverse.drop (posOf vs v)++[v]
noncomputable def Runs (su:Int→List Int):Nat→List Int→List (Int×Nat)→Int→zO→Prop
 | 0,_,_,_,_=>False
 | n+1,seen,qs,v,r=>(v∈seen→(v∈qs.map (·.1)→r=.cyc (wx (qs.map (·.1)) v))∧(v ∉ qs.map (·.1)→(popR su qs=none→r=.fin seen)∧∀ w jM,popR su qs=some (w,jM)→Runs su n seen jM w r)) ∧
  (v ∉ seen→(popR su ((v,0)::qs)=none→r=.fin (v::seen))∧∀ w jM,popR su ((v,0)::qs)=some (w,jM)→Runs su n (v::seen) jM w r)
section
variable {su:Int→List Int}{n:Nat}{seen:List Int}{qs jM:List (Int×Nat)}{v w:Int}{r:zO}
theorem Runs.pos(R:Runs su n seen qs v r):∃ m,n=m+1:=by
 cases n with
 | zero=>exact False.elim R
 | succ m=>exact ⟨m,rfl⟩
theorem Runs.E4(R:Runs su n seen qs v r)(hs:v∈seen)(hq:v∈qs.map (·.1)):r=.cyc (wx (qs.map (·.1)) v):=ba R.pos fun m e=>by
 subst e;exact (R.1 hs).1 hq
theorem Runs.Hm(R:Runs su n seen qs v r)(hs:v∈seen)(hq:v ∉ qs.map (·.1))(p:popR su qs=some (w,jM)):∃ m,m<n∧Runs su m seen jM w r:=ba R.pos fun m e=>by
 subst e;exact iDPP m (Nat.lt_succ_self m) (((R.1 hs).2 hq).2 w jM p)
theorem Runs.Hn(R:Runs su n seen qs v r)(hs:v∈seen)(hq:v ∉ qs.map (·.1))(p:popR su qs=none):r=.fin seen:=ba R.pos fun m e=>by
 subst e;exact ((R.1 hs).2 hq).1 p
theorem Runs.Ho(R:Runs su n seen qs v r)(hs:v ∉ seen)(p:popR su ((v,0)::qs)=some (w,jM)):∃ m,m<n∧Runs su m (v::seen) jM w r:=ba R.pos fun m e=>by
 subst e;exact iDPP m (Nat.lt_succ_self m) ((R.2 hs).2 w jM p)
theorem Runs.Hp(R:Runs su n seen qs v r)(hs:v ∉ seen)(p:popR su ((v,0)::qs)=none):r=.fin (v::seen):=ba R.pos fun m e=>by
 subst e;exact (R.2 hs).1 p
theorem Runs.E5(hs:v∈seen)(hq:v ∉ qs.map (·.1))(p:popR su qs=none):Runs su (n+1) seen qs v (.fin seen) :=
 ⟨fun Z=>⟨fun z=>(hq z).elim,fun Z=>⟨fun Z=>rfl,fun Z Z z=>nomatch p.symm.trans z⟩⟩,fun z=>(z hs).elim⟩
theorem Runs.old(hs:v∈seen)(hq:v ∉ qs.map (·.1))(p:popR su qs=some (w,jM))(R:Runs su n seen jM w r):Runs su (n+1) seen qs v r :=
 ⟨fun Z=>⟨fun z=>(hq z).elim,fun Z=>⟨fun z=>(nomatch p.symm.trans z),fun Z Z z=>by cases p.symm.trans z;exact R⟩⟩,fun z=>(z hs).elim⟩
theorem Runs.E6(hs:v ∉ seen)(p:popR su ((v,0)::qs)=none):Runs su (n+1) seen qs v (.fin (v::seen)) :=
 ⟨fun z=>(hs z).elim,fun Z=>⟨fun Z=>rfl,fun Z Z z=>nomatch p.symm.trans z⟩⟩
theorem Runs.new(hs:v ∉ seen)(p:popR su ((v,0)::qs)=some (w,jM))(R:Runs su n (v::seen) jM w r):Runs su (n+1) seen qs v r :=
 ⟨fun z=>(hs z).elim,fun Z=>⟨fun z=>(nomatch p.symm.trans z),fun Z Z z=>by cases p.symm.trans z;exact R⟩⟩
end
noncomputable def zO.then (fr:zO) (x:Option (List Int)) (P:List Int→Prop):Prop:=match fr with
 | .cyc l=>x=some l
 | .fin br=>P br
noncomputable def dg (su:Int→List Int):List Int→List Int→Option (List Int)→Prop
 | [],_,x=>x=none
 | v::r,seen,x=>(v∈seen→dg su r seen x)∧(v ∉ seen→∃ n fr,Runs su n seen [] v fr∧fr.then x fun s=>dg su r s x)
theorem dg.skip{su:Int→List Int}{v:Int}{r seen:List Int}{x:Option (List Int)}(h:v∈seen)(o:dg su r seen x):dg su (v::r) seen x:=⟨fun Z=>o,fun z=>(z h).elim⟩
theorem dg.go{su:Int→List Int}{n:Nat}{v:Int}{r seen br:List Int}{x:Option (List Int)}(h:v ∉ seen)(R:Runs su n seen [] v (.fin br))(o:dg su r br x):dg su (v::r) seen x:=⟨fun z=>(h z).elim,fun Z=>⟨n,.fin br,R,o⟩⟩
namespace L2
open PySem.W (findIn typeIn keepIn)
theorem l7:∀ {l m:List Int},l.Nodup→(∀ x∈l,x∈m)→l.length≤m.length
 | [],m,_,_=>Nat.zero_le _
 | x::r,m,hn,h=>by
  rw [List.nodup_cons] at hn
  have hx:=h x List.mem_cons_self
  have:=l7 (m:=m.erase x) hn.2 fun y hy=>(List.mem_erase_of_ne (fun z=>hn.1 (by rw [← z];exact hy))).mpr (h y (List.mem_cons_of_mem _ hy))
  rw [List.length_erase_of_mem hx] at this
  have hp:0<m.length:=List.length_pos_of_mem hx
  rw [List.length_cons];exact Nat.add_le_of_le_sub hp this
noncomputable def rY:List Int→List (Int×V)
 | []=>[]
 | v::r=>rY r++[(v,.int r.length)]
theorem oV:∀ (vs:List Int),(rY vs).map (·.1)=vs.reverse
 | []=>rfl
 | v::r=>by rw [rY,List.map_append,oV r,List.reverse_cons];rfl
theorem oW(vs:List Int):(rY vs).length=vs.length:=by
 have:=congrArg List.length (oV vs)
 simpa using this
theorem wy{vs:List Int}{kv:Int×V}(h:kv∈rY vs):kv.1∈vs:=by
 have:kv.1∈(rY vs).map (·.1):=List.mem_map_of_mem h
 rw [oV] at this
 simpa using this
theorem zP{a b:List (Int×V)}{k:Int}:gA (a++b) k=(gA a k).or (gA b k):=by
 unfold gA
 rw [List.find?_append]
 cases a.find? _ <;> rfl
theorem k6:∀ {vs:List Int} {v:Int},vs.Nodup→gA (rY vs) v=if v∈vs then some (.int (posOf vs v)) else none
 | [],v,_=>rfl
 | w::r,v,h=>by
  rw [List.nodup_cons] at h
  rw [rY,zP,k6 h.2]
  by_cases hv:v∈r
  ·rw [if_pos hv,if_pos (List.mem_cons_of_mem _ hv)]
   have:w≠v:=fun z=>h.1 (z▸hv)
   simp [posOf,this]
  ·rw [if_neg hv]
   by_cases hw:w=v
   ·subst hw
    rw [if_pos List.mem_cons_self]
    simp [gA,posOf]
   ·rw [if_neg (by rw [List.mem_cons];exact fun q=>q.elim (fun z=>hw z.symm) hv)]
    simp [gA,hw]
theorem zQ{vs:List Int}{v:Int}(h:v ∉ vs):dput (rY vs) v (.int vs.length)=rY (v::vs):=by
 unfold dput
 rw [if_neg,rY]
 rw [List.any_eq_true]
 (intro aV;refine xDPP aV ?_;clear aV;intro x hx e)
 exact h ((of_decide_eq_true e)▸wy hx)
theorem zR{vs:List Int}{v:Int}(h:v ∉ vs):sX (rY (v::vs)) v=rY vs:=by
 unfold sX
 rw [rY,List.filter_append,List.filter_eq_self.mpr (fun x hx=>by
  have:x.1≠v:=fun z=>h (z▸wy hx)
  simpa using this)]
 simp
inductive i7(c:Cells)(su:Int→List Int):List Addr→List (Int×Nat)→Prop
 | nil:i7 c su [] []
 | cons {m:Addr} {v:Int} {i:Nat} {ms:List Addr} {qs:List (Int×Nat)}:c m=some (.iter (.list (Iz (su v))) i)→i7 c su ms qs→i7 c su (m::ms) ((v,i)::qs)
theorem i7.mono{c c':Cells}{su:Int→List Int}{ms:List Addr}{qs:List (Int×Nat)}(h:i7 c su ms qs)(k:∀ m∈ms,c' m=c m):i7 c' su ms qs:=by
 induction h with
 | nil=>exact .nil
 | cons e _ ih=>exact .cons ((k _ List.mem_cons_self).trans e) (ih fun m hm=>k m (List.mem_cons_of_mem _ hm))
theorem i7.at{c:Cells}{su:Int→List Int}{ms:List Addr}{qs:List (Int×Nat)}(h:i7 c su ms qs):∀ m∈ms,∃ xs i,c m=some (.iter xs i):=by
 induction h with
 | nil=>intro m hm;cases hm
 | cons e _ ih =>
  intro m hm
  rcases List.mem_cons.mp hm with rfl | hm
  ·exact (fV _ _ e)
  ·exact ih m hm
theorem i7.length{c:Cells}{su:Int→List Int}{ms:List Addr}{qs:List (Int×Nat)}(h:i7 c su ms qs):ms.length=qs.length:=by
 induction h with
 | nil=>rfl
 | cons _ _ ih=>exact Nat.succ_inj.mpr ih
structure FR(c0 c:Cells)(nodes:List Int)(su:Int→List Int)(st it se nd:Addr)(ms:List Addr)(qs:List (Int×Nat))(seen:List Int):Prop where
 stack:c st=some (.list (Iz (qs.map (·.1)).reverse))
 its:c it=some (.list ((ms.map V.ref).reverse))
 jN:i7 c su ms qs
 FW:ms.Nodup
 sset:c se=some (.set (fun k=>decide (k∈seen)) seen.length)
 Ck:c nd=some (.dict (rY (qs.map (·.1))))
 vn:(qs.map (·.1)).Nodup
 E7:∀ v∈qs.map (·.1),v∈nodes
 sn:seen.Nodup
 sin:∀ v∈seen,v∈nodes
 FX:∀ v∈qs.map (·.1),v∈seen
 keep:∀ b x,c0 b=some x→c b=some x
 new:c0 st=none∧c0 it=none∧c0 se=none∧c0 nd=none∧st≠it
 zS:∀ m∈ms,c0 m=none
section
variable {c0 c:Cells}{nodes:List Int}{su:Int→List Int}{st it se nd:Addr}{ms:List Addr}{qs:List (Int×Nat)}{seen:List Int}
theorem FR.zT(F:FR c0 c nodes su st it se nd ms qs seen):qs.length≤nodes.length:=by simpa using l7 F.vn F.E7
theorem FR.Hq(F:FR c0 c nodes su st it se nd ms qs seen):seen.length≤nodes.length:=l7 F.sn F.sin
theorem FR.E8(F:FR c0 c nodes su st it se nd ms qs seen):ms.length≤nodes.length:=by rw [F.jN.length];exact F.zT
theorem FR.ne(F:FR c0 c nodes su st it se nd ms qs seen):st≠se∧st≠nd∧it≠se∧it≠nd∧se≠nd∧∀ m∈ms,m≠st∧m≠it∧m≠se∧m≠nd:=by
 have h1:=F.stack
 have h2:=F.its
 have h3:=F.sset
 have h4:=F.Ck
 refine (AA ?_ ?_ ?_ ?_ ?_ (fun m hm=>?_))
 ·rintro rfl;rw [h1] at h3;cases h3
 ·rintro rfl;rw [h1] at h4;cases h4
 ·rintro rfl;rw [h2] at h3;cases h3
 ·rintro rfl;rw [h2] at h4;cases h4
 ·rintro rfl;rw [h3] at h4;cases h4
 ·(refine eG (F.jN.at m hm) ?_;intro xs i e)
  refine (aO ?_ ?_ ?_ ?_)
  ·rintro rfl;rw [h1] at e;cases e
  ·rintro rfl;rw [h2] at e;cases e
  ·rintro rfl;rw [h3] at e;cases e
  ·rintro rfl;rw [h4] at e;cases e
theorem FR.push(F:FR c0 c nodes su st it se nd ms qs seen){v:Int}{m:Addr}(hv:v ∉ seen)(hq:v ∉ qs.map (·.1))(hn:v∈nodes)(hm:c m=none){S:Int→Bool}{n:Nat}(hS:S=fun k=>decide (k∈v::seen))(hl:n=seen.length+1) :
  FR c0 (upd (upd (upd (upd (upd c se (some (.set S n))) m (some (.iter (.list (Iz (su v))) 0))) it (some (.list ((ms.map V.ref).reverse++[.ref m])))) nd (some (.dict (dput (rY (qs.map (·.1))) v (.int qs.length))))) st (some (.list (Iz (qs.map (·.1)).reverse++[.int v])))) nodes su st it se nd (m::ms) ((v,0)::qs) (v::seen):=by
 (refine kj F.ne ?_;intro h1 h2 h3 h4 h5 h6)
 have m1:m≠st:=fun z=>by rw [z,F.stack] at hm;cases hm
 have m2:m≠it:=fun z=>by rw [z,F.its] at hm;cases hm
 have m3:m≠se:=fun z=>by rw [z,F.sset] at hm;cases hm
 have m4:m≠nd:=fun z=>by rw [z,F.Ck] at hm;cases hm
 have h7:st≠it:=F.new.2.2.2.2
 refine ⟨?_,?_,.cons ?_ (F.jN.mono fun x hx=>?_),?_,?_,?_,?_,?_,?_,?_,fun w hw=>?_,fun b x e=>?_,F.new,fun x hx=>?_⟩
 ·rw [ag,List.map_cons,List.reverse_cons,hO]
 ·rw [ae _ (Ne.symm h7),ae _ h4,ag];simp
 ·rw [ae _ m1,ae _ m4,ae _ m2,ag]
 ·(refine bM (h6 x hx) ?_;intro q1 q2 q3 q4)
  have q5:x≠m:=fun z=>by (refine eG (F.jN.at x hx) ?_;intro xs i e);rw [z,hm] at e;cases e
  rw [ae _ q1,ae _ q4,ae _ q2,ae _ q5,ae _ q3]
 ·rw [List.nodup_cons]
  refine ⟨fun q=>?_,F.FW⟩
  (refine eG (F.jN.at m q) ?_;intro xs i e)
  rw [hm] at e;cases e
 ·rw [ae _ (Ne.symm h1),ae _ h5,ae _ (Ne.symm h3),ae _ (Ne.symm m3),ag,hS,hl];rfl
 ·rw [ae _ (Ne.symm h2),ag,List.map_cons,← zQ hq];simp
 ·rw [List.map_cons,List.nodup_cons];exact ⟨hq,F.vn⟩
 ·intro w hw
  rcases List.mem_cons.mp hw with rfl | hw
  ·exact hn
  ·exact F.E7 w hw
 ·rw [List.nodup_cons];exact ⟨hv,F.sn⟩
 ·intro w hw
  rcases List.mem_cons.mp hw with rfl | hw
  ·exact hn
  ·exact F.sin w hw
 ·rcases List.mem_cons.mp hw with rfl | hw
  ·exact List.mem_cons_self
  ·exact List.mem_cons_of_mem _ (F.FX w hw)
 ·have g:=F.keep b x e
  have b1:b≠st:=fun z=>by rw [z,F.new.1] at e;cases e
  have b2:b≠it:=fun z=>by rw [z,F.new.2.1] at e;cases e
  have b3:b≠se:=fun z=>by rw [z,F.new.2.2.1] at e;cases e
  have b4:b≠nd:=fun z=>by rw [z,F.new.2.2.2.1] at e;cases e
  have b5:b≠m:=fun z=>by rw [z,hm] at g;cases g
  rw [ae _ b1,ae _ b4,ae _ b2,ae _ b5,ae _ b3];exact g
 ·rcases List.mem_cons.mp hx with rfl | hx
  ·cases q:c0 x with
   | none=>rfl
   | some y=>have:=F.keep x y q;rw [hm] at this;cases this
  ·exact F.zS x hx
theorem FR.step{v:Int}{i:Nat}{m:Addr}(F:FR c0 c nodes su st it se nd (m::ms) ((v,i)::qs) seen):FR c0 (upd c m (some (.iter (.list (Iz (su v))) (i+1)))) nodes su st it se nd (m::ms) ((v,i+1)::qs) seen:=by
 (refine kj F.ne ?_;intro h1 h2 h3 h4 h5 h6)
 (refine bM (h6 m List.mem_cons_self) ?_;intro q1 q2 q3 q4)
 have hn:=F.FW
 rw [List.nodup_cons] at hn
 have hi:=F.jN
 cases hi with
 | cons e hi =>
  refine ⟨by rw [ae _ (Ne.symm q1)];exact F.stack,by rw [ae _ (Ne.symm q2)];exact F.its,.cons (ag _ _ _) (hi.mono fun x hx=>ae _ (fun z=>hn.1 (by rw [← z];exact hx))),F.FW,by rw [ae _ (Ne.symm q3)];exact F.sset,by rw [ae _ (Ne.symm q4)];exact F.Ck,F.vn,F.E7,F.sn,F.sin,F.FX,fun b x eb=>?_,F.new,F.zS⟩
  rw [ae _ (fun z=>by rw [z,F.zS m List.mem_cons_self] at eb;cases eb)];exact F.keep b x eb
theorem FR.pop{v:Int}{i:Nat}{m:Addr}(F:FR c0 c nodes su st it se nd (m::ms) ((v,i)::qs) seen) :
  FR c0 (upd (upd (upd (upd c m none) st (some (.list (Iz (qs.map (·.1)).reverse)))) nd (some (.dict (sX (rY (v::qs.map (·.1))) v)))) it (some (.list ((ms.map V.ref).reverse)))) nodes su st it se nd ms qs seen:=by
 (refine kj F.ne ?_;intro h1 h2 h3 h4 h5 h6)
 (refine bM (h6 m List.mem_cons_self) ?_;intro q1 q2 q3 q4)
 have h7:st≠it:=F.new.2.2.2.2
 have hn:=F.FW
 rw [List.nodup_cons] at hn
 have E9:=F.vn
 rw [List.map_cons,List.nodup_cons] at E9
 have hi:=F.jN
 cases hi with
 | cons e hi =>
  refine ⟨by rw [ae _ h7,ae _ h2,ag],by rw [ag],hi.mono fun x hx=>?_,hn.2,?_,?_,E9.2,fun w hw=>F.E7 w (by rw [List.map_cons];exact List.mem_cons_of_mem _ hw),F.sn,F.sin,fun w hw=>F.FX w (by rw [List.map_cons];exact List.mem_cons_of_mem _ hw),fun b x eb=>?_,F.new,fun x hx=>F.zS x (List.mem_cons_of_mem _ hx)⟩
  ·(refine bM (h6 x (List.mem_cons_of_mem _ hx)) ?_;intro r1 r2 r3 r4)
   rw [ae _ r2,ae _ r4,ae _ r1,ae _ (fun z=>hn.1 (by rw [← z];exact hx))]
  ·rw [ae _ (Ne.symm h3),ae _ h5,ae _ (Ne.symm h1),ae _ (Ne.symm q3)];exact F.sset
  ·rw [ae _ (Ne.symm h4),ag,zR E9.1]
  ·have g:=F.keep b x eb
   have b1:b≠st:=fun z=>by rw [z,F.new.1] at eb;cases eb
   have b2:b≠it:=fun z=>by rw [z,F.new.2.1] at eb;cases eb
   have b4:b≠nd:=fun z=>by rw [z,F.new.2.2.2.1] at eb;cases eb
   have b5:b≠m:=fun z=>by rw [z,F.zS m List.mem_cons_self] at eb;cases eb
   rw [ae _ b2,ae _ b4,ae _ b1,ae _ b5];exact g
end
end L2
namespace L2
open PySem.W (findIn typeIn keepIn)
noncomputable def Bo:Stmt→List Stmt
 | .For _ _ b ..=>b
 | _=>[]
noncomputable def xP:Stmt→List Stmt
 | .While _ b ..=>b
 | _=>[]
noncomputable abbrev fenvF (D:SA) (L:Addr) (cdv:Value):Env:=dF "TopologicalSorter._find_cycle" (au (jq 8)) L D.i6 cdv
noncomputable abbrev Fb:Stmt:=(bI (jq 8)).getD 5 default
noncomputable abbrev sOutF:Stmt:=(Bo Fb).getD 1 default
noncomputable abbrev sInF:Stmt:=(xP sOutF).getD 1 default
noncomputable abbrev namesF (d st it se nd:Addr):Loc:=[("n2i",.ref d),("stack",.ref st),("itstack",.ref it),("seen",.ref se),("node2stacki",.ref nd)]
theorem tH{Y:Cx}{A:Around}{k:Nat}{D:SA}{L:Addr}{cdv:Value}{c0:Cells}{nodes:List Int}{su:Int→List Int}{d st it se nd:Addr}{seen:List Int}{Φ:MF→Loc→Cells→Prop}(S:S2 D Y)(hA:Rm Y A k)(htop:∃ outer,A.frames=some (fenvF D L cdv::outer))(Dr:nodes.length<900)(hm:∀ k∈nodes,∀ s∈su k,s∈nodes){qs0:List (Int×Nat)}{IB:List Addr}{l0:Loc}{c:Cells}(h0:Sub (namesF d st it se nd) l0)(F0:FR c0 c nodes su st it se nd IB qs0 seen)(Kc:∀ w DY Fc c2 l2,popR su qs0=some (w,DY)→Sub (("node",.int w)::namesF d st it se nd) l2→FR c0 c2 nodes su st it se nd Fc DY seen→w∈nodes→Φ .next l2 c2)(hbrk:∀ c2 l2,popR su qs0=none→Sub (namesF d st it se nd) l2→FR c0 c2 nodes su st it se nd [] [] seen→Φ .brk l2 c2):mS Y A (fenvF D L cdv) (exec sInF (fenvF D L cdv)) Φ l0 c:=by
 refine jk (fun n l c=>∃ qs ms,n=qs.length∧Sub (namesF d st it se nd) l∧FR c0 c nodes su st it se nd ms qs seen∧popR su qs=popR su qs0) qs0.length (cS qs0 IB rfl h0 F0 rfl) ?_
 (intro n l c aV;refine bQ aV ?_;clear aV;intro qs ms hn hl F hp)
 have IC:=F.zT
 refine gK (m_var (mv:=.ref st) (hl _ _ (by kernel_rfl)) (y6 F.stack (by rw [ai,List.length_reverse,List.length_map];exact ah (by lia)) ?_))
 cases qs with
 | nil =>
  refine aa (AE ?_)
  have hi:=F.jN
  cases hi
  exact hbrk c l (by rw [← hp];rfl) hl F
 | cons q r =>
  obtain ⟨v,i⟩:=q
  have e:(!(Iz (((v,i)::r).map (·.1)).reverse).isEmpty)=true:=by
   rw [List.map_cons,List.reverse_cons,hO];simp
  rw [e,if_pos rfl]
  have hv:v∈nodes:=F.E7 v (by exact List.mem_of_mem_head? rfl)
  obtain ⟨m,Cm,rfl⟩:∃ m Cm,ms=m::Cm:=by
   have:=F.jN.length
   cases ms with
   | nil=>exact List.exists_cons_of_length_eq_add_one this
   | cons m Cm=>exact (fV m Cm rfl)
  have hit:c m=some (.iter (.list (Iz (su v))) i):=by
   have hi:=F.jN
   cases hi with
   | cons e _=>exact e
  have hits:c it=some (.list ((Cm.map V.ref).reverse++[.ref m])):=by have:=F.its;simpa using this
  refine aa (uV hA htop (.inl (by kernel_rfl)) S.stop (by kernel_rfl) (m_item (m_var (mv:=.ref it) (hl _ _ (by kernel_rfl)) (m_un (m_int (o_neg (g_clast hits (iDDDPPP m (Iz (su v)) i rfl hit ?_))))))))
  have ei:(Iz (su v))[i]?=((su v)[i]?).map V.int:=by unfold Iz;rw [List.getElem?_map]
  rw [ei]
  cases hw:(su v)[i]? with
  | some w =>
   dsimp only [Option.map_some]
   refine Kc w ((v,i+1)::r) (m::Cm) _ _ ?_ (Sub.cons hl) F.step (hm v hv w (List.mem_of_getElem? hw))
   rw [← hp]
   simp [popR,hw]
  | none =>
   dsimp only [Option.map_none]
   intro e
   have Kd:popR su r=popR su qs0:=by rw [← hp];simp [popR,hw]
   have AK:c st=some (.list (Iz ((r.map (·.1)).reverse)++[.int v])):=by have:=F.stack;rw [List.map_cons,List.reverse_cons,hO] at this;exact this
   have F':=F.pop
   (refine kj F.ne ?_;intro h1 h2 h3 h4 h5 h6)
   (refine bM (h6 m List.mem_cons_self) ?_;intro q1 q2 q3 q4)
   have h7:st≠it:=F.new.2.2.2.2
   have mq:c nd=some (.dict (rY (v::r.map (·.1)))):=F.Ck
   have E9:(v::r.map (·.1)).Nodup:=F.vn
   have Ke:r.length≤900:=by rw [List.length_cons] at IC;lia
   have Kf:Cm.length<1000:=by have:=F.E8;rw [List.length_cons] at this;lia
   refine aa (uO (m_var (mv:=.ref nd) (hl _ _ (by kernel_rfl)) (aH (m_var (mv:=.ref st) (hl _ _ (by kernel_rfl)) (fD (by rw [ae _ (Ne.symm q1)];exact AK) PySem.F.slot_list_pop (by rfl) ⟨trivial,a_nil (BY (by rw [ae _ (Ne.symm q1)];exact AK) (by rw [ai,List.length_reverse,List.length_map];lia) ?_)⟩)))))
   refine y8 (x:=.int (posOf (v::r.map (·.1)) v)) (by rw [ae _ (Ne.symm h2),ae _ (Ne.symm q4)];exact mq) (by rw [oW,List.length_cons,List.length_map];lia) (by rw [k6 E9,if_pos List.mem_cons_self]) ?_
   refine aa (cB (aH (m_var (mv:=.ref it) (hl _ _ (by kernel_rfl)) (fD (by rw [ae _ h4,ae _ (Ne.symm h7),ae _ (Ne.symm q2)];exact hits) PySem.F.slot_list_pop (by rfl) ⟨trivial,a_nil (BY (by rw [ae _ h4,ae _ (Ne.symm h7),ae _ (Ne.symm q2)];exact hits) (by simpa using Kf) (aD (aD ?_)))⟩))))
   exact (jd r.length (by rw [hn,List.length_cons];lia) r Cm rfl hl F' Kd)
end L2
namespace L2
open PySem.W (findIn typeIn keepIn)
theorem Bp{X:Cx}{A:Around}{env:Env}{loc:Loc}{cells:Cells}{k:Nat}{p:Pos}{whole:Sem Value}{Ψ:Bool→Loc→Cells→Prop}(h:Ψ true loc cells)(hw:autoParam (whole=eval (.Constant (.bool true) k p) env) aR):mT X A env (isTrue (.Constant (.bool true) k p) env whole) Ψ loc cells:=by
 subst hw
 exact gK (yz (aC h))
theorem xQ(vs:List Int)(v:Int)(h:posOf vs v≤vs.length):gi (Iz vs.reverse) (some (posOf vs v)) none none++[V.int v]=Iz (wx vs v):=by
 rw [jV _ _ (by rw [ai,List.length_reverse];exact h)]
 unfold wx Iz
 rw [List.map_append,List.map_drop]
 rfl
theorem tI:∀ (vs:List Int) (v:Int),posOf vs v≤vs.length
 | [],v=>Nat.le_refl _
 | w::r,v=>by
  unfold posOf
  split
  ·exact Nat.le_succ _
  ·exact Nat.le_succ_of_le (tI r v)
theorem zU{Y:Cx}{A:Around}{k:Nat}{D:SA}{L:Addr}{cdv:Value}{c0:Cells}{ns nodes:List Int}{su:Int→List Int}{ia:Int→Addr}{np:Int→Int}{d st it se nd:Addr}{fr:zO}{Φ:MF→Loc→Cells→Prop}(S:S2 D Y)(hA:Rm Y A k)(htop:∃ outer,A.frames=some (fenvF D L cdv::outer))(Dr:nodes.length<900)(hm:∀ k∈nodes,∀ s∈su k,s∈nodes)(hd:c0 d=some (.c9 (nodes.map fun k=>(k,.ref (ia k)))))(hi:∀ k∈nodes,c0 (ia k)=some (.slots D.ni [some (.int k),some (.int (np k)),some (.list (Iz (su k)))])){n0:Nat}{zV:List Int}{v0:Int}{l0:Loc}{c:Cells}(h0:Sub (("node",.int v0)::namesF d st it se nd) l0)(F0:FR c0 c nodes su st it se nd [] [] zV)(Kg:v0∈nodes)(R0:Runs su n0 zV [] v0 fr)(zf:∀ l c' br,fr=.fin br→Sub (namesF d st it se nd) l→FR c0 c' nodes su st it se nd [] [] br→Φ .next l c')(hcyc:∀ l c' x,fr=.cyc x→(∀ b y,c0 b=some y→c' b=some y)→Φ (.ret (.list (Iz x))) l c'):mS Y A (fenvF D L cdv) (exec sOutF (fenvF D L cdv)) Φ l0 c:=by
 refine jk (fun n l c=>∃ seen qs ms v,Sub (("node",.int v)::namesF d st it se nd) l∧FR c0 c nodes su st it se nd ms qs seen∧v∈nodes∧Runs su n seen qs v fr) n0 (eW zV ([]) ([]) v0 h0 F0 Kg R0) ?_
 (intro n l c gp;refine wO gp ?_;clear gp;intro seen qs ms v hl F hv R)
 refine Bp ?_
 rw [if_pos rfl]
 refine eg.le hl ?_
 have Lp:=F.Hq
 have IC:=F.zT
 have Fd:(qs.map (·.1)).length=qs.length:=List.length_map ..
 refine aa (cG (aT (m_var (mv:=.int v) (by kernel_rfl) (m_var (mv:=.ref se) (by kernel_rfl) (sV F.sset (aC ?_))))))
 by_cases hs:v∈seen
 ·rw [if_pos (by exact decide_eq_true hs)]
  refine aa (cG (aT (m_var (mv:=.int v) (by kernel_rfl) (m_var (mv:=.ref nd) (by kernel_rfl) (xe F.Ck (aC ?_))))))
  rw [k6 F.vn]
  by_cases hq:v∈qs.map (·.1)
  ·rw [if_pos hq,Option.isSome_some,if_pos rfl]
   have Kh:=R.E4 hs hq
   refine aa (bo (bh (gg (m_var (mv:=.ref st) (by kernel_rfl) (dN (m_item (m_var (mv:=.ref nd) (by kernel_rfl) (m_var (mv:=.int v) (by kernel_rfl) (C1 (x:=.int (posOf (qs.map (·.1)) v)) F.Ck (by rw [k6 F.vn,if_pos hq]) (fB (fB (Bj F.stack (by decide) (by rw [ai,List.length_reverse,Fd];exact ah (by lia)) (gx (af (m_var (mv:=.int v) (by kernel_rfl) (a_nil ⟨by show 1≤sizeLine;exact ah (by decide),?_⟩))))))))))))))))
   have hle:=tI (qs.map (·.1)) v
   refine jS ?_ ?_
   ·rw [jV _ _ (by rw [ai,List.length_reverse];exact hle),List.length_drop,ai,List.length_reverse]
    exact ah (by simp;lia)
   ·rw [xQ _ _ hle]
    exact hcyc _ _ _ Kh F.keep
  ·rw [if_neg hq,Option.isSome_none,if_neg (by decide)]
   refine aD (aD (aa (tH (d:=d) S hA htop Dr hm (Sub.put (by kernel_rfl) (Sub.put (by kernel_rfl) (Sub.put (by kernel_rfl) (Sub.put (by kernel_rfl) (Sub.put (by kernel_rfl) Sub.nil))))) F (fun w DY Fc c2 l2 hp h2 F2 hw=>?_) fun c2 l2 hp h2 F2=>?_)))
   ·exact aD (xDPP (R.Hm hs hq hp) fun m hm R'=>mf m hm seen DY Fc w h2 F2 hw R')
   ·exact zf l2 c2 seen (R.Hn hs hq hp) h2 F2
 ·rw [if_neg (by simpa using hs)]
  have hq:v ∉ qs.map (·.1):=fun q=>hs (F.FX v q)
  refine aa (cB (aH (m_var (mv:=.ref se) (by kernel_rfl) (xf F.sset ⟨trivial,af (m_var (mv:=.int v) (by kernel_rfl) (a_nil (xg F.sset (by lia) ?_)))⟩))))
  (refine kj F.ne ?_;intro h1 h2 h3 h4 h5 h6)
  have h7:st≠it:=F.new.2.2.2.2
  have ce:∀ b y,c0 b=some y→b≠se:=fun b y e z=>by rw [z,F.new.2.2.1] at e;cases e
  have hdn:(upd c se (some (Cell.set (fun k'=>decide (k'∈seen)||decide (k'=v)) (if decide (v∈seen)=true then seen.length else seen.length+1)))) d=some (.c9 (nodes.map fun k=>(k,.ref (ia k)))):=by rw [ae _ (ce _ _ hd)];exact F.keep _ _ hd
  have hin:(upd c se (some (Cell.set (fun k'=>decide (k'∈seen)||decide (k'=v)) (if decide (v∈seen)=true then seen.length else seen.length+1)))) (ia v)=some (.slots D.ni [some (.int v),some (.int (np v)),some (.list (Iz (su v)))]):=by rw [ae _ (ce _ _ (hi v hv))];exact F.keep _ _ (hi v hv)
  refine aa (cB (aH (m_var (mv:=.ref it) (by kernel_rfl) (fD ((ae _ h3).trans F.its) PySem.F.slot_list_append (by rfl) ⟨trivial,af (ta (by kernel_rfl) S.iter (m_attr (m_item (m_var (mv:=.ref d) (by kernel_rfl) (m_var (mv:=.int v) (by kernel_rfl) (g_fdict (x:=.ref (ia v)) hdn (by rw [dget_map (f:=fun k=>.ref (ia k)),if_pos hv]) (at_slots (mv:=.list (Iz (su v))) hin (by rfl) trivial S.cni S.s2 (iDPP _ rfl (fun m hm'=>a_nil (c_append (xs:=(ms.map V.ref).reverse) ?_ ?_ ?_))))))))))⟩))))
  ·have m3:m≠se:=fun z=>by rw [z,ag] at hm';cases hm'
   have Ay:c m=none:=by rw [ae _ m3] at hm';exact hm'
   have m2:it≠m:=fun z=>by rw [← z,F.its] at Ay;cases Ay
   rw [ae _ m2,ae _ h3];exact F.its
  ·rw [List.length_reverse,List.length_map];have:=F.E8;exact ah (by lia)
  have m3:m≠se:=fun z=>by rw [z,ag] at hm';cases hm'
  have Ay:c m=none:=by rw [ae _ m3] at hm';exact hm'
  have m2:m≠it:=fun z=>by rw [z,F.its] at Ay;cases Ay
  have m1:m≠st:=fun z=>by rw [z,F.stack] at Ay;cases Ay
  have m4:m≠nd:=fun z=>by rw [z,F.Ck] at Ay;cases Ay
  have F1:=F.push (m:=m) hs hq hv Ay (S:=fun k'=>decide (k'∈seen)||decide (k'=v)) (n:=if decide (v∈seen)=true then seen.length else seen.length+1) (by
   funext k'
   rw [Bool.eq_iff_iff]
   simp [or_comm]) (by rw [if_neg (by simpa using hs)])
  refine aa (pR (aA (by kernel_rfl) S.len trivial (af (m_var (mv:=.ref st) (by kernel_rfl) (a_nil (uN (xs:=Iz (qs.map (·.1)).reverse) ((ae _ h7).trans ((ae _ (Ne.symm m1)).trans ((ae _ h1).trans F.stack))) (by rw [ai,List.length_reverse,Fd];exact ah (by lia)) ?_))))))
  rw [ai,List.length_reverse,Fd]
  refine m_var (mv:=.ref nd) (by kernel_rfl) (m_var (mv:=.int v) (by kernel_rfl) (vV (es:=rY (qs.map (·.1))) ((ae _ (Ne.symm h4)).trans ((ae _ (Ne.symm m4)).trans ((ae _ (Ne.symm h5)).trans F.Ck))) (by rw [oW,Fd];lia) ?_))
  refine aa (cB (aH (m_var (mv:=.ref st) (by kernel_rfl) (fD (xs:=Iz (qs.map (·.1)).reverse) ((ae _ h2).trans ((ae _ h7).trans ((ae _ (Ne.symm m1)).trans ((ae _ h1).trans F.stack)))) PySem.F.slot_list_append (by rfl) ⟨trivial,af (m_var (mv:=.int v) (by kernel_rfl) (a_nil (c_append (xs:=Iz (qs.map (·.1)).reverse) ((ae _ h2).trans ((ae _ h7).trans ((ae _ (Ne.symm m1)).trans ((ae _ h1).trans F.stack)))) (by rw [ai,List.length_reverse,Fd];exact ah (by lia)) (aD ?_))))⟩))))
  refine aa (tH (d:=d) S hA htop Dr hm (Sub.put (by kernel_rfl) (Sub.put (by kernel_rfl) (Sub.put (by kernel_rfl) (Sub.put (by kernel_rfl) (Sub.put (by kernel_rfl) Sub.nil))))) F1 (fun w DY Fc c2 l2 hp h2 F2 hw=>?_) fun c2 l2 hp h2 F2=>?_)
  ·exact aD (xDPP (R.Ho hs hp) fun m hm R'=>mf m hm (v::seen) DY Fc w h2 F2 hw R')
  ·exact zf l2 c2 (v::seen) (R.Hp hs hp) h2 F2
end L2
namespace L2
open PySem.W (findIn typeIn keepIn)
noncomputable def Fe:Option (List Int)→V
 | none=>.none
 | some l=>.list (Iz l)
theorem wz{X:Cx}{A:Around}{k:Nat}{c:Cells}{D:SA}{a d:Addr}{ia:Int→Addr}{σ:TS}{rv:V}{p f:Int}{res:Option (List Int)}{Ψ:V→Cells→Prop}(S:S2 D X)(hA:Rm X A (k+1))(B:oR D c a d ia σ rv p f)(Dr:σ.nodes.length<900)(hm:∀ k∈σ.nodes,∀ s∈σ.su k,s∈σ.nodes)(O:dg σ.su σ.nodes [] res)(h:∀ c',(∀ b y,c b=some y→c' b=some y)→Ψ (Fe res) c'):aE X A (.ref D.i6) [.ref a] Ψ c:=by
 refine fK.call (zg (names:=["self"]) S.i6 hA (fun Z Z Z Z Z vs hv=>?_) fun L cdv A' bz htop=>?_)
 ·(refine ba (bY hv) ?_;intro v aV;subst aV)
  rfl
 have S':S2 D (X.push L):=S
 generalize X.push L=Y at bz S' ⊢
 refine aa (aq (.inl (by kernel_rfl)) (m_attr (m_var (mv:=.ref a) (by kernel_rfl) (bJ (mv:=.ref d) B.inst (by rfl) trivial S'.hV S'.o1 ?_))))
 refine aa (aq (.inl (by kernel_rfl)) (cy (a_nil ⟨Nat.zero_le _,fun st AK=>?_⟩)))
 refine aa (aq (.inl (by kernel_rfl)) (cy (a_nil ⟨Nat.zero_le _,fun it hit=>?_⟩)))
 refine aa (aq (.inl (by kernel_rfl)) (A7 (by kernel_rfl) S'.set trivial (C5 fun se ug=>?_)))
 refine aa (aq (.inl (by kernel_rfl)) (mD fun nd mq=>?_))
 have e1:it≠st:=fun z=>by rw [z,ag] at hit;cases hit
 have e2:se≠it:=fun z=>by rw [z,ag] at ug;cases ug
 have e3:se≠st:=fun z=>by rw [z,ae _ (Ne.symm e1),ag] at ug;cases ug
 have e4:nd≠se:=fun z=>by rw [z,ag] at mq;cases mq
 have e5:nd≠it:=fun z=>by rw [z,ae _ (Ne.symm e2),ag] at mq;cases mq
 have e6:nd≠st:=fun z=>by rw [z,ae _ (Ne.symm e3),ae _ (Ne.symm e1),ag] at mq;cases mq
 have n2:c it=none:=by rw [ae _ e1] at hit;exact hit
 have n3:c se=none:=by rw [ae _ e2,ae _ e3] at ug;exact ug
 have n4:c nd=none:=by rw [ae _ e4,ae _ e5,ae _ e6] at mq;exact mq
 have F0:FR c (upd (upd (upd (upd c st (some (.list []))) it (some (.list []))) se (some (.set (fun Z=>false) 0))) nd (some (.dict []))) σ.nodes σ.su st it se nd [] [] []:=by
  refine ⟨?_,?_,.nil,List.nodup_nil,?_,ag _ _ _,List.nodup_nil,(fun v hv=>nomatch hv),List.nodup_nil,(fun v hv=>nomatch hv),(fun v hv=>nomatch hv),fun b x e=>?_,(ui AK n2 n3 n4 (Ne.symm e1)),(fun v hv=>nomatch hv)⟩
  ·rw [ae _ (Ne.symm e6),ae _ (Ne.symm e3),ae _ (Ne.symm e1),ag];rfl
  ·rw [ae _ (Ne.symm e5),ae _ (Ne.symm e2),ag];rfl
  ·rw [ae _ (Ne.symm e4),ag];simp
  ·rw [ae _ (fun z=>by rw [z,n4] at e;cases e),ae _ (fun z=>by rw [z,n3] at e;cases e),ae _ (fun z=>by rw [z,n2] at e;cases e),ae _ (fun z=>by rw [z,AK] at e;cases e)];exact e
 have hd:=F0.keep d _ B.dict
 show mS Y A' _ _ _ _ (upd (upd (upd (upd c st (some (.list []))) it (some (.list []))) se (some (.set (fun Z=>false) 0))) nd (some (.dict [])))
 generalize upd (upd (upd (upd c st (some (.list []))) it (some (.list []))) se (some (.set (fun Z=>false) 0))) nd (some (.dict []))=c1 at F0 hd ⊢
 refine aa (cH (bind:=fun v l=>("node",v)::l) (bN (m_var (mv:=.ref d) (by kernel_rfl) (iDPP _ (A1 bz.hh hd) ?_))))
 have il:((σ.nodes.map fun k=>(k,V.ref (ia k))).map fun kv=>V.int kv.1)=Iz σ.nodes:=by rw [List.map_map];rfl
 rw [il]
 refine ⟨fun Z=>namesF d st it se nd,fun i c'=>∃ seen,FR c c' σ.nodes σ.su st it se nd [] [] seen∧dg σ.su (σ.nodes.drop i) seen res,⟨Sub.put (by kernel_rfl) (Sub.put (by kernel_rfl) (Sub.put (by kernel_rfl) (Sub.put (by kernel_rfl) (Sub.put (by kernel_rfl) Sub.nil)))),[],F0,O⟩,fun v hv=>cj (.inl (by kernel_rfl)),fun v hv l l' hs=>Sub.cons hs,fun i v c' hv bH=>xDPP bH fun seen F O'=>?_,fun l c' hl cw=>xDPP cw fun seen F O'=>?_⟩
 ·(refine xDPP (dO hv) ?_;intro n hp bj;subst bj)
  have hn:n∈σ.nodes:=List.mem_of_getElem? hp
  have hi:i<σ.nodes.length:=(List.getElem?_eq_some_iff.mp hp).1
  have ed:σ.nodes.drop i=n::σ.nodes.drop (i+1):=by
   rw [List.drop_eq_getElem_cons hi]
   rw [List.getElem?_eq_getElem hi] at hp
   rw [Option.some.inj hp]
  rw [ed] at O'
  refine aa (cG (aT (m_var (mv:=.int n) (by kernel_rfl) (m_var (mv:=.ref se) (by kernel_rfl) (sV F.sset (aC ?_))))))
  by_cases hs:n∈seen
  ·rw [if_pos (by exact decide_eq_true hs)]
   refine aa (ux (ma (Sub.put (by kernel_rfl) (Sub.put (by kernel_rfl) (Sub.put (by kernel_rfl) (Sub.put (by kernel_rfl) (Sub.put (by kernel_rfl) Sub.nil))))) seen F (O'.1 hs)))
  ·rw [if_neg (by simpa using hs)]
   refine dx (O'.2 hs) ?_;intro m fr R A5
   refine aD (aa (zU (ns:=[]) S' bz htop Dr hm B.dict B.info Sub.rfl F hn R (fun l c2 br e hl F2=>?_) fun l c2 x e kp=>?_))
   ·subst e
    exact aD (ma hl br F2 A5)
   ·subst e
    cases (A5:res=some x)
    exact h c2 kp
 ·rw [ai,List.drop_length] at O'
  cases (O':res=none)
  exact aa (bo (cY (h c' F.keep)))
end L2
namespace L2
open PySem.W (findIn typeIn keepIn)
noncomputable def TS.free (σ:TS) (ns:List Int):List Int:=ns.filter fun k=>σ.np k == 0
theorem wA{X:Cx}{A:Around}{k:Nat}{c:Cells}{D:SA}{a d:Addr}{ia:Int→Addr}{σ:TS}{p f:Int}{Ψ:V→Cells→Prop}(S:S2 D X)(hA:Rm X A (k+2))(B:oR D c a d ia σ .none p f)(Dr:σ.nodes.length<900)(hm:∀ k∈σ.nodes,∀ s∈σ.su k,s∈σ.nodes)(O:dg σ.su σ.nodes [] none)(h:∀ c' r,lZ D c' a d r ia σ (σ.free σ.nodes) p f→(∀ b y,c b=some y→b≠a→c' b=some y)→Ψ .none c'):aE X A (.ref D.jL) [.ref a] Ψ c:=by
 refine cb (names:=["self"]) S.jL hA (fun Z Z Z Z Z vs hv=>?_) fun L cdv A' bz=>?_
 ·(refine ba (bY hv) ?_;intro v aV;subst aV)
  rfl
 have S':S2 D (X.push L):=S
 generalize X.push L=Y at bz S' ⊢
 refine aa (cG (aT (m_attr (m_var (mv:=.ref a) (by kernel_rfl) (bJ (mv:=.none) B.inst (by rfl) trivial S'.hV S'.o2 (cY (eO (aC ?_))))))))
 rw [if_neg (by decide)]
 refine aD (aa (bk (m7 ⟨by rfl,by decide +kernel,by kernel_rfl⟩ (iR.name ⟨by rfl,by decide +kernel,by kernel_rfl⟩ rfl (.inl (by decide +kernel))) bz.hh ?_)))
 refine zc bz.hh (m_attr (m_var (mv:=.ref a) (by kernel_rfl) (bJ (mv:=.ref d) B.inst (by rfl) trivial S'.hV S'.o1 (cS d _ rfl B.dict (fun Z Z=>trivial) ?_))))
 have il:((σ.nodes.map fun k=>(k,V.ref (ia k))).map (·.2))=σ.nodes.map fun k=>V.ref (ia k):=by rw [List.map_map];rfl
 rw [il]
 refine (nu (by rw [List.length_map];exact ah (by lia)) (fun i acc c'=>acc=Iz (σ.free (σ.nodes.take i))∧c'=c∧i≤σ.nodes.length) (⟨rfl,rfl,Nat.zero_le _⟩) (fun i acc c' bH=>aP bH fun q Z qi=>?_) (fun L' cs i v acc c' hv cw=>aP cw fun q1 q2 q3=>?_) (fun xs c' cR=>aP cR fun q1 q2 Z=>?_))
 ·rw [q,ai]
  exact Nat.le_trans (List.length_filter_le _ _) (by rw [List.length_take];exact Nat.min_le_left i σ.nodes.length)
 ·subst q2
  rw [List.getElem?_map,Option.map_eq_some_iff] at hv
  (refine xDPP hv ?_;try clear hv;intro n hp bj;subst bj)
  have hn:n∈σ.nodes:=List.mem_of_getElem? hp
  have hi:i<σ.nodes.length:=(List.getElem?_eq_some_iff.mp hp).1
  have e:σ.free (σ.nodes.take (i+1))=σ.free (σ.nodes.take i)++(if σ.np n=0 then [n] else []):=by
   unfold TS.free
   rw [List.take_add_one,hp,List.filter_append]
   congr 1
   by_cases z:σ.np n=0 <;> simp [z]
  refine jU (aT (m_attr (m_var (mv:=.ref (ia n)) (by kernel_rfl) (at_slots (mv:=.int (σ.np n)) (B.info n hn) (by rfl) trivial S'.cni S'.s1 (m_int (AP (aC ?_)))))))
  by_cases z:σ.np n=0
  ·rw [if_pos (by rw [z];rfl)]
   refine m_attr (m_var (mv:=.ref (ia n)) (by kernel_rfl) (at_slots (mv:=.int n) (B.info n hn) (by rfl) trivial S'.cni S'.s0 (aO rfl ?_ rfl hi)))
   rw [e,if_pos z,q1,hO]
  ·rw [if_neg (by simpa using z)]
   refine (aO rfl ?_ rfl hi)
   rw [e,if_neg z,q1,List.append_nil]
 ·subst q1 q2
  refine (iDPP _ rfl (fun r hr=>?_))
  rw [List.length_map,List.take_length]
  have ID:r≠a:=fun z=>by rw [z,B.inst] at hr;cases hr
  refine m_var (mv:=.ref a) (by kernel_rfl) (hD (by rw [ae _ (Ne.symm ID)];exact B.inst) S'.hV S'.o2 (by show 4≤1000;decide) ?_)
  have kp:∀ b y,c' b=some y→b≠a→(upd (upd c' r (some (.list (Iz (σ.free σ.nodes))))) a (some (.inst D.ts [("_node2info",.ref d),("_ready_nodes",.ref r),("_npassedout",.int p),("_nfinished",.int f)]))) b=some y:=fun b y e hb=>by
   rw [ae _ hb,ae _ (fun z=>by rw [z,hr] at e;cases e)];exact e
  have B1:oR D (upd (upd c' r (some (.list (Iz (σ.free σ.nodes))))) a (some (.inst D.ts [("_node2info",.ref d),("_ready_nodes",.ref r),("_npassedout",.int p),("_nfinished",.int f)]))) a d ia σ (.ref r) p f :=
   ⟨ag _ _ _,kp _ _ B.dict (fun z=>by have:=B.inst;rw [← z,B.dict] at this;cases this),fun k hk=>kp _ _ (B.info k hk) (fun z=>by have:=B.inst;rw [← z,B.info k hk] at this;simp [cq] at this),B.j9,B.nodup⟩
  have r1:(upd (upd c' r (some (.list (Iz (σ.free σ.nodes))))) a (some (.inst D.ts [("_node2info",.ref d),("_ready_nodes",.ref r),("_npassedout",.int p),("_nfinished",.int f)]))) r=some (.list (Iz (σ.free σ.nodes))):=by rw [ae _ ID,ag]
  show mS Y A' _ _ _ _ (upd (upd c' r (some (.list (Iz (σ.free σ.nodes))))) a (some (.inst D.ts [("_node2info",.ref d),("_ready_nodes",.ref r),("_npassedout",.int p),("_nfinished",.int f)])))
  generalize upd (upd c' r (some (.list (Iz (σ.free σ.nodes))))) a (some (.inst D.ts [("_node2info",.ref d),("_ready_nodes",.ref r),("_npassedout",.int p),("_nfinished",.int f)]))=c1 at B1 r1 kp ⊢
  refine aa (aq (.inl (by kernel_rfl)) (aH (m_var (mv:=.ref a) (by kernel_rfl) (fG B1.inst (by rfl) S'.hV S'.find.at_ S'.find.typ ⟨S'.find.keep,a_nil (wz S' bz B1 Dr hm O fun c2 k2=>?_)⟩))))
  refine aa (cG (gK (m_var (mv:=.none) (by kernel_rfl) (CJ ?_))))
  rw [if_neg (by decide)]
  refine aD (aD (h c2 r ⟨⟨k2 _ _ B1.inst,k2 _ _ B1.dict,fun k hk=>k2 _ _ (B1.info k hk),B1.j9,B1.nodup⟩,k2 _ _ r1⟩ fun b y e hb=>k2 _ _ (kp b y e hb)))
end L2
namespace L2
open PySem.W (findIn typeIn keepIn)
noncomputable def aY (needs:List (List Int)):List (Int×List Int):=needs.zipIdx.map fun (x,i)=>((i:Int),x)
theorem eT(needs:List (List Int)):(aY needs).length=needs.length:=by simp [aY]
theorem jr{needs:List (List Int)}{i:Nat}{x:List Int}(h:needs[i]?=some x):(aY needs)[i]?=some ((i:Int),x):=by
 unfold aY
 rw [List.getElem?_map,List.getElem?_zipIdx,h]
 simp
theorem hY(needs:List (List Int))(i:Nat):aY (needs.take i)=(aY needs).take i:=by
 refine List.ext_getElem? fun j=>?_
 unfold aY
 rw [List.getElem?_map,List.getElem?_zipIdx,List.getElem?_take,List.getElem?_take,List.getElem?_map,List.getElem?_zipIdx]
 split <;> simp
theorem xR{needs:List (List Int)}{kv:Int×List Int}(h:kv∈aY needs):0≤kv.1∧kv.1<needs.length:=by
 (refine ba (List.getElem?_of_mem h) ?_;intro i hi)
 have hl:i<needs.length:=by rw [← eT];exact (List.getElem?_eq_some_iff.mp hi).1
 rw [jr (List.getElem?_eq_getElem hl)] at hi
 cases hi
 try dsimp only
 lia
theorem xS{needs:List (List Int)}{i:Nat}{x:List Int}(h:needs[i]?=some x):dput (fP (aY (needs.take i))) i (.list (Iz x))=fP (aY (needs.take (i+1))):=by
 have hi:i<needs.length:=(List.getElem?_eq_some_iff.mp h).1
 unfold dput
 rw [if_neg]
 ·rw [hY needs (i+1),List.take_add_one,jr h,← hY]
  unfold fP
  rw [List.map_append];rfl
 ·rw [List.any_eq_true]
  (intro aV;refine xDPP aV ?_;clear aV;intro kv IE e)
  unfold fP at IE
  (refine xDPP (List.mem_map.mp IE) ?_;intro Ki h1 bj;subst bj)
  have:=xR h1
  have e':Ki.1=(i:Int):=of_decide_eq_true e
  rw [List.length_take] at this
  lia
theorem wB{X:Cx}{A:Around}{env:Env}{loc:Loc}{c:Cells}{needs:List (List Int)}{kx vx:Expr}{e:Expr}{f:Str}{np Ff tp pos:Pos}{xk xv:Str}{px py:Pos}{tk:Nat}{scope:Scope}{Ψ:V→Loc→Cells→Prop}(C:bB scope env)(hh:A.handled=none)(ek:env.scope.kind=.function)(hx:scope.names.lookup xk=some .local∨scope.names.lookup xk=some .cell)(hy:scope.names.lookup xv=some .local∨scope.names.lookup xv=some .cell)(hk:env.kindOf f=some .globalImplicit)(hl:X.glob.lookup f=some (.ty "enumerate"))(he:mE X A env (eval e env) (fun v l c'=>v=.list (dE needs)∧l=loc∧c'=c) loc c)(hz:needs.length≤1000)(Kj:∀ L cs (k:Int) (x:V),mE X A (compEnv scope env L cs) (eval kx (compEnv scope env L cs)) (fun r l' c'=>r=.int k∧l'=gO xk xv (.tuple [.int k,x]) (c8 scope loc)∧c'=c) (gO xk xv (.tuple [.int k,x]) (c8 scope loc)) c)(Kk:∀ L cs (k:Int) (x:V),mE X A (compEnv scope env L cs) (eval vx (compEnv scope env L cs)) (fun r l' c'=>r=x∧l'=gO xk xv (.tuple [.int k,x]) (c8 scope loc)∧c'=c) (gO xk xv (.tuple [.int k,x]) (c8 scope loc)) c)(ug:autoParam (starEach [e] env=[(false,eval e env)]) aR)(hd:autoParam ((f == ("__debug__":Str))=false) aDK)(hs:autoParam (∀ x,foldedSetIterable (.Call (.Name f np) [e] [] Ff) env x=pure x) aIR)(h:∀ a,c a=none→Ψ (.ref a) loc (upd c a (some (.dict (fP (aY needs)))))) :
  mE X A env (eval (.DictComp kx vx [⟨.Tuple [.Name xk px,.Name xv py] tk tp,.Call (.Name f np) [e] [] Ff,[],0⟩] scope pos) env) Ψ loc c:=by
 refine uT C (bind:=gO xk xv) (okv:=IsPair) (iR.toD (elt:=kx) (ifs:=[]) (e:=.ListComp kx [⟨.Tuple [.Name xk px,.Name xv py] tk tp,e,[],0⟩] scope pos) (iR.pair hh C ek hx hy)) hh ?_ hs
 refine yI hh hk hl (he.mono fun v l c' nA=>aP nA fun q1 q2 q3=>(bq (dE needs) q1 (fun v hv=>?_) ?_)) ug hd
 ·(refine ba (List.getElem?_of_mem hv) ?_;intro i hi)
  (refine xDPP (enumItems_get hi) ?_;intro y Z bH;subst bH)
  exact (fV _ _ rfl)
 ·rw [q2,q3]
  have il:(enumItems (dE needs)).length=needs.length:=by simp [enumItems,dE]
  refine (nu (by rw [il];exact ah (by lia)) (fun i acc c'=>acc=fP (aY (needs.take i))∧c'=c∧i≤needs.length) (⟨rfl,rfl,Nat.zero_le _⟩) (fun i acc c' qo=>aP qo fun q Z qi=>?_) (fun L' cs i v acc c' hv iC=>aP iC fun q1 q2 q3=>?_) (fun xs c' gX a ha=>aP gX fun q1 q2 Z=>?_))
  ·rw [q];simp [fP,eT];exact Nat.min_le_left i needs.length
  ·subst q2
   (refine xDPP (enumItems_get hv) ?_;intro y Kl cw;subst cw)
   (refine xDPP (rN Kl) ?_;intro x sG cR;subst cR)
   have hi:i<needs.length:=(List.getElem?_eq_some_iff.mp sG).1
   refine cN ?_
   rw [if_pos rfl]
   refine (Kj L' cs i (.list (Iz x))).mono fun r l' c' m8=>aP m8 fun r1 r2 r3=>(iDPP i r1 ?_)
   rw [r2,r3]
   refine (Kk L' cs i (.list (Iz x))).mono fun r l' c' lH=>aP lH fun r1 r2 r3=>(aO r2 ?_ r3 hi)
   rw [q1,r1,xS sG]
  ·subst q1 q2
   rw [il,List.take_length]
   exact h a ha
theorem lZ.other{D:SA}{c:Cells}{a d r b:Addr}{ia:Int→Addr}{σ:TS}{rd:List Int}{p f:Int}{xs:List V}(B:lZ D c a d r ia σ rd p f)(hb:c b=none∨(∃ ys,c b=some (.list ys))∧b≠r):lZ D (upd c b (some (.list xs))) a d r ia σ rd p f:=by
 have ne:∀ x y,c x=some y→(∀ zs,y≠.list zs)→x≠b:=fun x y e n z=>by
  subst z
  rcases hb with q | ⟨⟨ys,q⟩,_⟩
  ·rw [e] at q;cases q
  ·rw [e] at q;cases q;exact n _ rfl
 refine ⟨⟨?_,?_,fun k hk=>?_,B.rep.j9,B.rep.nodup⟩,?_⟩
 ·rw [ae _ (ne _ _ B.rep.inst (by intros;simp))];exact B.rep.inst
 ·rw [ae _ (ne _ _ B.rep.dict (by intros;simp))];exact B.rep.dict
 ·rw [ae _ (ne _ _ (B.rep.info k hk) (by intros;simp [cq]))];exact B.rep.info k hk
 ·rw [ae _ (fun z=>by
   rcases hb with q | ⟨_,q⟩
   ·rw [← z,B.va] at q;cases q
   ·exact q z.symm)];exact B.va
theorem zW(xs:List (List Int))(x:List Int):lR (xs++[x])=lR xs++[.tuple (Iz x)]:=by simp [lR]
theorem hZ(xs:List (List Int)):(lR xs).length=xs.length:=by simp [lR]
noncomputable def TS.Good (σ:TS) (rd:List Int):Prop:=rd.length≤100∧(∀ k∈rd,k∈σ.nodes)∧∀ (i:Nat) k,rd[i]?=some k→(TS.aX (σ.outs rd,[]) (rd.take i)).1.np k=-1
inductive kf:Nat→TS→List Int→List (List Int)→Prop
 | stop {n:Nat} {σ:TS}:kf n σ [] []
 | turn {n:Nat} {σ:TS} {rd:List Int} {rest:List (List Int)}:rd≠[]→σ.Good rd→kf n (TS.aX (σ.outs rd,[]) rd).1 (TS.aX (σ.outs rd,[]) rd).2 rest→kf (n+1) σ rd (rd::rest)
structure zX(g:List (Int×List Int)):Prop where
 size:gk g≤800
 mem:∀ k∈(TS.none.adds g).nodes,∀ s∈(TS.none.adds g).su k,s∈(TS.none.adds g).nodes
 small:∀ k,((TS.none.adds g).su k).length≤100
theorem zX.nodes{g:List (Int×List Int)}(h:zX g):(TS.none.adds g).nodes.length<900:=by
 have:(TS.none.adds g).Sz (0+gk g):=TS.Sz.adds ⟨Nat.zero_le _,fun Z=>Nat.zero_le _⟩
 have:=this.1
 have:=h.size
 lia
theorem qA{X:Cx}{A:Around}{k:Nat}{c:Cells}{D:SA}{needs:List (List Int)}{n:Nat}{rs:List (List Int)}{Ψ:V→Cells→Prop}(G:G2 X)(S:S2 D X)(hA:Rm X A (k+7))(hg:zX (aY needs))(hn:needs.length≤1000)(O:dg (TS.none.adds (aY needs)).su (TS.none.adds (aY needs)).nodes [] none)(R:kf n (TS.none.adds (aY needs)) ((TS.none.adds (aY needs)).free (TS.none.adds (aY needs)).nodes) rs)(zY:rs.length≤1000)(h:∀ c',Ψ (.tuple [.list (lR rs),.none]) c'):aE X A (.ref 231) [.list (dE needs)] Ψ c:=by
 refine cb (names:=["needs"]) G.rounds hA (fun Z Z Z Z Z vs hv=>?_) fun L cdv A' bz=>?_
 ·(refine ba (bY hv) ?_;intro v fu;subst fu)
  rfl
 have S':S2 D (X.push L):=S
 have G':G2 (X.push L):=G
 generalize X.push L=Y at bz S' G' ⊢
 refine aa (aq (.inl (by kernel_rfl)) (aA (by kernel_rfl) S'.EL S'.EM (af (wB (needs:=needs) ⟨by rfl,by decide +kernel,by kernel_rfl⟩ bz.hh rfl (.inl (by decide +kernel)) (.inl (by decide +kernel)) (by kernel_rfl) G'.enumerate (m_var (mv:=.list (dE needs)) (by kernel_rfl) ⟨rfl,rfl,rfl⟩) hn (fun L' cs k x=>m_var (mv:=.int k) (by kernel_rfl) ⟨rfl,rfl,rfl⟩) (fun L' cs k x=>m_var (mv:=x) (by kernel_rfl) ⟨rfl,rfl,rfl⟩) (h:=fun gd Hk=>a_nil (zN S' bz (ag _ _ _) (by have:=hg.size;lia) fun c1 a d ia R1=>?_))))))
 have l8:=hg.nodes
 have pP:=hg.mem
 have yH:=hg.small
 generalize TS.none.adds (aY needs)=σ at l8 pP yH O R R1 ⊢
 refine aa (cB (aH (m_var (mv:=.ref a) (by kernel_rfl) (fG R1.inst (by rfl) S'.hV S'.xB.at_ S'.xB.typ ⟨S'.xB.keep,a_nil (wA S' bz R1 l8 pP O fun c2 r B2 Z=>?_)⟩))))
 refine aa (aq (.inl (by kernel_rfl)) (cy (a_nil ⟨Nat.zero_le _,fun rr Ds=>?_⟩)))
 have B3:=B2.other (xs:=[]) (.inl Ds)
 have iD:rr≠r:=fun z=>by rw [z,B2.va] at Ds;cases Ds
 refine aa (jk (fun n l c=>∃ τ rd done rest p,Sub [("rounds",.ref rr),("sorter",.ref a)] l∧lZ D c a d r ia τ rd p p∧c rr=some (.list (lR done))∧kf n τ rd rest∧done++rest=rs∧τ.nodes=σ.nodes∧τ.su=σ.su) n (pD σ _ ([]) rs 0 (Sub.put (by kernel_rfl) (Sub.put (by kernel_rfl) Sub.nil)) B3 (ag _ _ _) R rfl rfl rfl) ?_)
 (intro m l c3 gp;refine pF gp ?_;clear gp;intro τ rd done rest p hl B hc R hd e1 e2)
 have sy:done.length≤1000:=by rw [← hd,List.length_append] at zY;exact Nat.le_of_add_right_le zY
 have Ke:rd.length≤100:=by
  cases R with
  | stop=>simp
  | turn _ g _=>exact g.1
 refine gK (aH (m_var (mv:=.ref a) (hl _ _ (by kernel_rfl)) (fG B.rep.inst (by rfl) S'.hV S'.act.at_ S'.act.typ ⟨S'.act.keep,a_nil (xO (k:=k+5) S' bz B (by lia) (aC ?_))⟩)))
 have ep:decide (p<p)=false:=by simp
 rw [ep]
 cases R with
 | stop =>
  rw [List.append_nil] at hd
  subst hd
  show mS Y A' _ (execs [] _) _ _ _
  refine aD (eg.freeze (x:="rounds") (hl _ _ (by kernel_rfl)) hc ?_)
  have B4:oR D (upd c3 rr none) a d ia τ (.ref r) p p:=by
   have ne:∀ x y,c3 x=some y→(∀ zs,y≠.list zs)→x≠rr:=fun x y e n z=>by subst z;rw [e] at hc;cases hc;exact n _ rfl
   refine ⟨?_,?_,fun k hk=>?_,B.rep.j9,B.rep.nodup⟩
   ·rw [ae _ (ne _ _ B.rep.inst (by intros;simp))];exact B.rep.inst
   ·rw [ae _ (ne _ _ B.rep.dict (by intros;simp))];exact B.rep.dict
   ·rw [ae _ (ne _ _ (B.rep.info k hk) (by intros;simp [cq]))];exact B.rep.info k hk
  refine aa (bo (gZ (af (m_var (mv:=.list (lR done)) (by kernel_rfl) (af (aH (m_var (mv:=.ref a) (by rw [lookup_cons,if_neg (by decide +kernel)];exact hl _ _ (by kernel_rfl)) (fG B4.inst (by rfl) S'.hV S'.find.at_ S'.find.typ ⟨S'.find.keep,a_nil (wz (res:=none) S' bz B4 (by rw [e1];exact l8) (by rw [e1,e2];exact pP) (by rw [e1,e2];exact O) fun c4 Z=>a_nil ⟨by show 2≤sizeLine;exact ah (by decide),?_⟩)⟩))))))))
  exact h c4
 | turn Km g R' =>
  have et:(!rd.isEmpty)=true:=by cases rd with
   | nil=>exact (Km rfl).elim
   | cons _ _=>rfl
  rw [et]
  show mS Y A' _ (execs (_::_) _) _ _ _
  (refine aP g ?_;try clear g;intro g1 g2 g3)
  refine aa (aq (.inl (by kernel_rfl)) (aH (m_var (mv:=.ref a) (hl _ _ (by kernel_rfl)) (fG B.rep.inst (by rfl) S'.hV S'.ready.at_ S'.ready.typ ⟨S'.ready.keep,a_nil (oU (k:=k+5) S' bz B (by lia) g2 fun c4 B4 K4=>?_)⟩))))
  have Hr:c4 rr=some (.list (lR done)):=K4 _ _ hc iD
  refine aa (cB (aH (m_var (mv:=.ref rr) (by rw [lookup_cons,if_neg (by decide +kernel)];exact hl _ _ (by kernel_rfl)) (fD Hr PySem.F.slot_list_append (by rfl) ⟨trivial,af (m_var (mv:=.tuple (Iz rd)) (by kernel_rfl) (a_nil (c_append Hr (by rw [hZ];exact ah (by lia)) ?_)))⟩))))
  have B5:=B4.other (xs:=lR done++[.tuple (Iz rd)]) (.inr ⟨(bA _ Hr),iD⟩)
  (refine aK (TS.cP τ rd) ?_;intro o1 o2)
  (refine aP (TS.kc 100 rd (τ.outs rd,[]) (by rw [o2,e2];exact yH)) ?_;intro t1 t2 t3)
  refine aa (cB (uW (m_var (mv:=.ref a) (by rw [lookup_cons,if_neg (by decide +kernel)];exact hl _ _ (by kernel_rfl)) (me a D.ts _ D.gj rfl B5.rep.inst (by rfl) S'.hV S'.Hb (m_var (mv:=.tuple (Iz rd)) (by kernel_rfl) (bq (Iz rd) (.inr rfl) (by rw [ai];exact ah (by lia)) (wu (k:=k+5) S' bz B5 (by simp) (by rw [o2,e2];exact yH) g1 (by rw [o1,o2,e1,e2];exact pP) (fun i k hi=>⟨by rw [o1];exact g2 k (List.mem_of_getElem? hi),g3 i k hi⟩) fun c6 B6 K6=>aD ?_)))))))
  have Kn:(upd c4 rr (some (.list (lR done++[.tuple (Iz rd)])))) rr=some (.list (lR (done++[rd]))):=by rw [ag,zW]
  refine (mZ _ (Nat.lt_succ_self _) _ _ (done++[rd]) _ (p+rd.length) ?_ B6 (K6 _ _ Kn iD) R' (by rw [← hd];simp) ?_ ?_)
  ·exact Sub.put (by rw [lookup_cons,if_neg (by decide +kernel)];exact hl _ _ (by kernel_rfl)) (Sub.put (by rw [lookup_cons,if_neg (by decide +kernel)];exact hl _ _ (by kernel_rfl)) Sub.nil)
  ·rw [t1,o1,e1]
  ·rw [t2,o2,e2]
end L2
namespace L2
open PySem.W (findIn typeIn keepIn)
inductive xT:Nat→TS→List Int→List (Int×List Int)→Prop
 | stop {n:Nat} {σ:TS}:xT n σ [] []
 | turn {n:Nat} {σ:TS} {v:Int} {r:List Int} {more:List (Int×List Int)}:v∈σ.nodes→σ.np v=-1→(∀ k∈(TS.aX (σ,[]) [v]).2,k∈σ.nodes)→(v::r).length≤900 →
   xT n ((TS.aX (σ,[]) [v]).1.outs (TS.aX (σ,[]) [v]).2) (r++(TS.aX (σ,[]) [v]).2) more→xT (n+1) σ (v::r) ((v,(TS.aX (σ,[]) [v]).2)::more)
noncomputable def Hv (xs:List (Int×List Int)):List V:=xs.map fun p=>.tuple [.int p.1,.list (Iz p.2)]
theorem Bq(xs:List (Int×List Int))(x:Int×List Int):Hv (xs++[x])=Hv xs++[.tuple [.int x.1,.list (Iz x.2)]]:=by simp [Hv]
theorem l9(xs:List (Int×List Int)):(Hv xs).length=xs.length:=by exact Eq.symm (len_of_map_eq rfl)
theorem jj{X:Cx}{A:Around}{k:Nat}{c:Cells}{D:SA}{needs:List (List Int)}{n:Nat}{hs:List (Int×List Int)}{Ψ:V→Cells→Prop}(G:G2 X)(S:S2 D X)(hA:Rm X A (k+7))(hg:zX (aY needs))(hn:needs.length≤1000)(O:dg (TS.none.adds (aY needs)).su (TS.none.adds (aY needs)).nodes [] none)(hf:((TS.none.adds (aY needs)).free (TS.none.adds (aY needs)).nodes).length≤900)(R:xT n ((TS.none.adds (aY needs)).outs ((TS.none.adds (aY needs)).free (TS.none.adds (aY needs)).nodes)) ((TS.none.adds (aY needs)).free (TS.none.adds (aY needs)).nodes) hs)(zY:hs.length≤1000)(h:∀ c',Ψ (.list (Hv hs)) c'):aE X A (.ref 236) [.list (dE needs)] Ψ c:=by
 refine cb (names:=["needs"]) G.handed hA (fun Z Z Z Z Z vs hv=>?_) fun L cdv A' bz=>?_
 ·(refine ba (bY hv) ?_;intro v aV;subst aV)
  rfl
 have S':S2 D (X.push L):=S
 have G':G2 (X.push L):=G
 generalize X.push L=Y at bz S' G' ⊢
 refine aa (aq (.inl (by kernel_rfl)) (aA (by kernel_rfl) S'.EL S'.EM (af (wB (needs:=needs) ⟨by rfl,by decide +kernel,by kernel_rfl⟩ bz.hh rfl (.inl (by decide +kernel)) (.inl (by decide +kernel)) (by kernel_rfl) G'.enumerate (m_var (mv:=.list (dE needs)) (by kernel_rfl) ⟨rfl,rfl,rfl⟩) hn (fun L' cs k x=>m_var (mv:=.int k) (by kernel_rfl) ⟨rfl,rfl,rfl⟩) (fun L' cs k x=>m_var (mv:=x) (by kernel_rfl) ⟨rfl,rfl,rfl⟩) (h:=fun gd Hk=>a_nil (zN S' bz (ag _ _ _) (by have:=hg.size;lia) fun c1 a d ia R1=>?_))))))
 have l8:=hg.nodes
 have pP:=hg.mem
 have yH:=hg.small
 generalize TS.none.adds (aY needs)=σ at l8 pP yH O R R1 hf ⊢
 refine aa (cB (aH (m_var (mv:=.ref a) (by kernel_rfl) (fG R1.inst (by rfl) S'.hV S'.xB.at_ S'.xB.typ ⟨S'.xB.keep,a_nil (wA S' bz R1 l8 pP O fun c2 r B2 Z=>?_)⟩))))
 have IF:∀ k∈σ.free σ.nodes,k∈σ.nodes:=fun k hk=>(List.mem_filter.mp hk).1
 generalize σ.free σ.nodes=Hs at B2 R hf IF
 refine aa (aq (.inl (by kernel_rfl)) (aA (by kernel_rfl) G'.list trivial (af (aH (m_var (mv:=.ref a) (by kernel_rfl) (fG B2.rep.inst (by rfl) S'.hV S'.ready.at_ S'.ready.typ ⟨S'.ready.keep,a_nil (oU (k:=k+5) S' bz B2 (by lia) IF fun c3 B3 K3=>a_nil (lK (.inr rfl) (by rw [ai];exact ah (by lia)) ?_))⟩))))))
 refine aa (aq (.inl (by kernel_rfl)) (cy (a_nil ⟨Nat.zero_le _,fun rr Ds=>?_⟩)))
 have B4:=B3.other (xs:=[]) (.inl Ds)
 have iD:rr≠r:=fun z=>by rw [z,B3.va] at Ds;cases Ds
 (refine aK (TS.cP σ Hs) ?_;intro o1 o2)
 refine aa (jk (fun n l c=>∃ τ wt done rest p f,Sub [("handed",.ref rr),("waiting",.list (Iz wt)),("sorter",.ref a)] l∧lZ D c a d r ia τ [] p f∧c rr=some (.list (Hv done))∧xT n τ wt rest∧done++rest=hs∧τ.nodes=σ.nodes∧τ.su=σ.su) n (fi (σ.outs Hs) Hs ([]) hs _ _ (Sub.put (by kernel_rfl) (Sub.put (by kernel_rfl) (Sub.put (by kernel_rfl) Sub.nil))) B4 (ag _ _ _) R rfl o1 o2) ?_)
 (intro m l c3 bj;refine fq bj ?_;clear bj;intro τ wt done rest p f hl B hc R hd e1 e2)
 have sy:done.length≤1000:=by rw [← hd,List.length_append] at zY;exact Nat.le_of_add_right_le zY
 have Lq:wt.length≤900:=by
  cases R with
  | stop=>exact List.getElem?_eq_none_iff.mp rfl
  | turn _ _ _ g _=>exact g
 refine gK (m_var (mv:=.list (Iz wt)) (hl _ _ (by kernel_rfl)) (uF (by rw [ai];exact ah (by lia)) ?_))
 cases R with
 | stop =>
  rw [List.append_nil] at hd
  subst hd
  show mS Y A' _ (execs [] _) _ _ _
  exact aD (aa (bo (kC (m_var (mv:=.ref rr) (hl _ _ (by kernel_rfl)) ⟨rfl,hc,h _⟩))))
 | turn g1 g2 g3 g4 R' =>
  rename_i n' v w more
  show mS Y A' _ (execs (_::_) _) _ _ _
  refine aa (aq (.inl (by kernel_rfl)) (m_item (m_var (mv:=.list (Iz (v::w))) (hl _ _ (by kernel_rfl)) (m_int (iS (j:=0) (x:=.int v) rfl (by rw [ai];lia) ?_)))))
  (refine aP (TS.kc 100 [v] (τ,[]) (by rw [e2];exact yH)) ?_;intro t1 t2 t3)
  refine aa (cB (aH (m_var (mv:=.ref a) (by rw [lookup_cons,if_neg (by decide +kernel)];exact hl _ _ (by kernel_rfl)) (fG B.rep.inst (by rfl) S'.hV S'.fin.at_ S'.fin.typ ⟨S'.fin.keep,af (m_var (mv:=.int v) (by kernel_rfl) (a_nil (fK.call (wu (ns:=[v]) (k:=k+5) S' bz B (by exact List.getElem?_eq_none_iff.mp rfl) (by rw [e2];exact yH) (by exact List.getElem?_eq_none_iff.mp rfl) (by rw [e1,e2];exact pP) (fun i k hi=>?_) fun c6 B6 K6=>?_))))⟩))))
  ·cases i with
   | zero=>simp at hi;subst hi;exact ⟨g1,g2⟩
   | succ i=>simp at hi
  have Ko:=K6 _ _ hc iD
  dsimp only at t3
  have t4:(TS.aX (τ,[]) [v]).2.length≤100:=by exact String.Pos.Raw.mk_le_mk.mp t3
  have Ht:∀ k∈(TS.aX (τ,[]) [v]).2,k∈(TS.aX (τ,[]) [v]).1.nodes:=by rw [t1];exact g3
  generalize TS.aX (τ,[]) [v]=st at B6 R' t1 t2 t4 Ht hd ⊢
  obtain ⟨υ,fd⟩:=st
  dsimp only at B6 R' t1 t2 t4 Ht hd
  refine aa (aq (.inl (by kernel_rfl)) (aA (by kernel_rfl) G'.list trivial (af (aH (m_var (mv:=.ref a) (by rw [lookup_cons,if_neg (by decide +kernel)];exact hl _ _ (by kernel_rfl)) (fG B6.rep.inst (by rfl) S'.hV S'.ready.at_ S'.ready.typ ⟨S'.ready.keep,a_nil (oU (k:=k+5) S' bz B6 (by lia) Ht fun c7 B7 K7=>a_nil (lK (.inr rfl) (by rw [ai];exact ah (by lia)) ?_))⟩))))))
  have Hu:=K7 _ _ Ko iD
  refine aa (cB (aH (m_var (mv:=.ref rr) (by rw [lookup_cons,if_neg (by decide +kernel),lookup_cons,if_neg (by decide +kernel)];exact hl _ _ (by kernel_rfl)) (fD Hu PySem.F.slot_list_append (by rfl) ⟨trivial,af (gZ (af (m_var (mv:=.int v) (by kernel_rfl) (af (m_var (mv:=.list (Iz fd)) (by kernel_rfl) (a_nil ⟨by show 2≤sizeLine;exact ah (by decide),a_nil (c_append Hu (by rw [l9];exact ah (by lia)) ?_)⟩))))))⟩))))
  have B8:=B7.other (xs:=Hv done++[.tuple [.int v,.list (Iz fd)]]) (.inr ⟨(bA _ Hu),iD⟩)
  (refine aK (TS.cP υ fd) ?_;intro q1 q2)
  rw [List.length_cons] at g4
  refine aa (aq (.inl (by kernel_rfl)) (bh (gg (m_var (mv:=.list (Iz (v::w))) (by rw [lookup_cons,if_neg (by decide +kernel),lookup_cons,if_neg (by decide +kernel)];exact hl _ _ (by kernel_rfl)) (dN (m_int (fB (fB (rn (by decide) (by rw [ai,List.length_cons];exact ah (by lia)) (m_var (mv:=.list (Iz fd)) (by kernel_rfl) ?_))))))))))
  have ev:gi (Iz (v::w)) (some 1) none none=Iz w:=jV (Iz (v::w)) 1 (by exact Nat.le_of_ble_eq_true rfl)
  rw [ev]
  refine jS (by rw [ai,ai];exact ah (by lia)) (aD ?_)
  have ew:Iz w++Iz fd=Iz (w++fd):=by simp [Iz]
  rw [ew]
  refine (lG _ (Nat.lt_succ_self _) _ _ (done++[(v,fd)]) more _ _ ?_ B8 (by rw [ag,Bq]) R' (by rw [← hd];simp) (by rw [q1,t1,e1]) (by rw [q2,t2,e2]))
  exact Sub.put (by rw [lookup_cons,if_neg (by decide +kernel),lookup_cons,if_neg (by decide +kernel),lookup_cons,if_neg (by decide +kernel)];exact hl _ _ (by kernel_rfl)) (Sub.put (by kernel_rfl) (Sub.put (by rw [lookup_cons,if_neg (by decide +kernel),lookup_cons,if_neg (by decide +kernel),lookup_cons,if_neg (by decide +kernel)];exact hl _ _ (by kernel_rfl)) Sub.nil))
end L2
section
variable {X:Cx}{A:Around}{env:Env}{loc:Loc}{c:Cells}{own:Own}{s:Shared}{Ψ:V→Cells→Prop}
theorem aE.oX{f:V}{args:List V}{P:Addr}(hc:c P=some .tab)(H:aE X A f args (fun v c'=>∀ c2,c2 P=some .tab→(∀ b,b≠P→c2 b=c' b)→Ψ v c2) (upd c P none)):aE X A f args Ψ c:=fun fv vs own s I aV=>aK aV fun rf rs=>by
 (refine jy (I.cell P _ hc) ?_;intro oP ps eP tP)
 have B0:Base X own (upd c P none) s:=I.fA fun x e=>nomatch e
 have x0:Ext qR own c s.heap own (upd c P none) s.heap:=gY hc rfl
 refine (H fv vs).use B0 ⟨rf.pK x0,rs.pK x0⟩ fun aI c2 b v s2 I2 r2 x2 h2=>?_
 (refine bM (x2.fw P P _ eP oP ⟨.inl (ag _ _ _),rfl⟩) ?_;intro p1 p2 p3 Z)
 have B3:Base X aI (upd c2 P (some .tab)) s2:=I2.fA fun x e=>by cases e;exact (ma p2 ps p1 tP)
 refine ⟨aI,upd c2 P (some .tab),b,B3,r2,⟨x2.keep,x2.cx,x2.there,fun b a o e q bj=>aK bj fun w z=>?_⟩,h2 _ (ag _ _ _) fun b hb=>ae _ hb⟩
 subst z
 have iD:a≠P:=fun z=>by
  subst z
  exact Cell.dn hc rfl w
 have w':Still (upd c P none) a:=w.of (ae _ iD)
 (refine bM (x2.fw a a o e q ⟨w',rfl⟩) ?_;intro q1 q2 q3 Z)
 refine (aO q1 q2 ?_ rfl)
 rw [ae _ iD,q3,ae _ iD]
end
section
variable {prog:Program}{w:World}{A:Around}{E:Value→Shared→Prop}{s:Shared}
theorem xU{l:Addr}{o:Obj}{vs:List Value}{n:Nat}{R:Result→Shared→Prop}(ho:s.heap.get? l=some o)(hc:o.cls=.type "tuple")(hd:o.data=.seq vs.toArray n)(sJ:vs.length≤sizeLine)(hR:R (.ok (.ret (.ref s.heap.objs.size))) {s with heap:=(s.heap.push (seqObj "list" #[] 0)).update s.heap.objs.size (Obj.mapSeq (·++vs.toArray))}) :
  codeAny (model prog w) A (.builtin "list.__iadd__" ⟨[.ref s.heap.objs.size,.ref l],[]⟩) R {s with heap:=s.heap.push (seqObj "list" #[] 0)}:=by
 refine codeAny_builtin entry_list_iadd' ?_
 rw [Around.under_plainId (show plainId "list.__iadd__"=true by decide +kernel)]
 exact wpAny_extend_seq (A:=A) (R:=R) (s:={s with heap:=s.heap.push (seqObj "list" #[] 0)}) s.heap.objs.size l _ 0 (.inr rfl) (Heap.get?_push_size _ rfl) (Heap.get?_push_of_some _ ho) hc hd hR (by exact W.kdl_size sJ)
theorem tJ{l:Addr}{o:Obj}{vs:List Value}{n:Nat}{Q:List Value→Shared→Prop}(ho:s.heap.get? l=some o)(hc:o.cls=.type "tuple")(hd:o.data=.seq vs.toArray n)(h:Q vs {s with heap:=(s.heap.push (seqObj "list" #[] 0)).update s.heap.objs.size (Obj.mapSeq (·++vs.toArray))})(sJ:vs.length≤sizeLine):wpAny (model prog w) A (collect (.ref l)) Q E s:=by
 unfold collect
 refine wpAny_bind (wpAny_runValue (codeAny_builtin entry_proto_collect' ?_))
 show wpAny _ _ (do again (.builtin "list.__iadd__" ⟨[← newList [],.ref l],[]⟩)) _ _ s
 refine wpAny_bind (wpAny_newList (wpAny_pure ⟨Code.quiet_builtin _ (by decide +kernel),xU ho hc hd sJ ?_⟩))
 show wpAny (model prog w) A (do
   let o ← load s.heap.objs.size
   match o.data with
   | .seq xs _=>pure xs.toList
   | _=>unsupported "internal:collect") Q E {s with heap:=(s.heap.push (seqObj "list" #[] 0)).update s.heap.objs.size (Obj.mapSeq (·++vs.toArray))}
 refine wpAny_bind (wpAny_load (get?_update_seq (Heap.get?_push_size _ rfl) _) ?_)
 show wpAny _ _ (pure ((#[]:Array Value)++vs.toArray).toList) Q E _
 rw [show ((#[]:Array Value)++vs.toArray).toList=vs by simp]
 exact wpAny_pure h
theorem vb{l:Addr}{o:Obj}{vs:List Value}{ns:List Int}{n:Nat}{Q:Value→Shared→Prop}(ho:s.heap.get? l=some o)(hc:o.cls=.type "tuple")(hd:o.data=.seq vs.toArray n)(hI:IntsAre vs ns)(Kp:vs.length<64)(h:∀ (out:Array Value) (Dt:List Int),IntsAre out.toList Dt→Dt.Perm ns→Dt.Pairwise (·≤·)→Q (.ref (s.heap.objs.size+1)) {s with heap:=sortedAll s.heap vs out}) :
  wpAny (model prog w) A (call (.builtin "sorted") [.ref l]) Q E s:=by
 refine Calls.call_function_entry kind_sorted plain_sorted entry_sorted (args_sorted1 _) ?_
 unfold Builtin.«sorted»
 refine wpAny_bind (m:=checkCount "sorted" 1 1 _) (wpAny_pure ?_)
 refine wpAny_bind (tJ ho hc hd ?_ (by unfold sizeLine;lia))
 refine wpAny_bind (wpAny_newList ?_ (by unfold sizeLine;lia))
 have sJ:((s.heap.push (seqObj "list" #[] 0)).update s.heap.objs.size (Obj.mapSeq (·++vs.toArray))).objs.size=s.heap.objs.size+1:=by
  rw [Heap.size_update];exact Heap.size_push ..
 have Fg:(((s.heap.push (seqObj "list" #[] 0)).update s.heap.objs.size (Obj.mapSeq (·++vs.toArray))).push (seqObj "list" vs.toArray 0)).get? (s.heap.objs.size+1)=some (seqObj "list" vs.toArray 0):=by
  rw [← sJ];exact Heap.get?_push_size _ rfl
 show wpAny _ _ _ _ _ {s with heap:=((s.heap.push (seqObj "list" #[] 0)).update s.heap.objs.size (Obj.mapSeq (·++vs.toArray))).push (seqObj "list" vs.toArray 0)}
 rw [sJ]
 refine wpAny_bind (wpAny_holding (wpAny_call_entry slot_list_sort (iDPP _ Fg rfl) entry_list_sort (list_sort_tree Fg hI Kp fun out Dt a1 a2 a3=>(iDPP _ rfl ?_)) (args_list_sort _)))
 exact wpAny_pure (iDPP _ rfl (h out Dt a1 a2 a3))
theorem nr{h:Heap}{vs:List Value}{out:Array Value}:(∀ b o,h.get? b=some o→(sortedAll h vs out).get? b=some o)∧∃ n,(sortedAll h vs out).get? (h.objs.size+1)=some (seqObj "list" out n):=by
 have z0:h.get? h.objs.size=none:=ao h
 have z1:h.get? (h.objs.size+1)=none:=dU (by exact Nat.le_add_right h.objs.size 1)
 have Kq:((h.push (seqObj "list" #[] 0)).update h.objs.size (Obj.mapSeq (·++vs.toArray))).objs.size=h.objs.size+1:=by rw [Heap.size_update];exact Heap.size_push ..
 have kp:∀ b o,h.get? b=some o→(((h.push (seqObj "list" #[] 0)).update h.objs.size (Obj.mapSeq (·++vs.toArray))).push (seqObj "list" vs.toArray 0)).get? b=some o:=fun b o e =>
  Heap.get?_push_of_some _ ((Heap.get?_update_other _ _ (fun z=>by rw [← z,z0] at e;cases e)).trans (Heap.get?_push_of_some _ e))
 have Fg:(((h.push (seqObj "list" #[] 0)).update h.objs.size (Obj.mapSeq (·++vs.toArray))).push (seqObj "list" vs.toArray 0)).get? (h.objs.size+1)=some (seqObj "list" vs.toArray 0):=by
  rw [← Kq];exact Heap.get?_push_size _ rfl
 unfold sortedAll
 generalize ((h.push (seqObj "list" #[] 0)).update h.objs.size (Obj.mapSeq (·++vs.toArray))).push (seqObj "list" vs.toArray 0)=g at kp Fg
 unfold sortedHeap
 have e1:=get?_update_seq Fg (fun Z=>#[])
 have k2:∀ b o,(g.update (h.objs.size+1) (Obj.mapSeq fun Z=>#[])).get? b=some o→(((g.update (h.objs.size+1) (Obj.mapSeq fun Z=>#[])).push (seqObj "tuple" vs.toArray 0)).push (seqObj "list" #[] 0)).get? b=some o:=fun b o e=>Heap.get?_push_of_some _ (Heap.get?_push_of_some _ e)
 refine ⟨fun b o e=>?_,(bA _ (get?_update_seq (k2 _ _ e1) (fun Z=>out)))⟩
 have hb:h.objs.size+1≠b:=fun z=>by rw [← z,z1] at e;cases e
 exact (Heap.get?_update_other _ _ hb).trans (k2 _ _ ((Heap.get?_update_other _ _ hb).trans (kp b o e)))
end
section
variable {X:Cx}{A:Around}{env:Env}{loc:Loc}{cells:Cells}{Ψ:V→Cells→Prop}
theorem oY{ns:List Int}(hz:ns.length<64)(h:Ψ (.list (Iz (PySem.W.sortI ns))) cells):aE X A (.bi "sorted") [.tuple (Iz ns)] Ψ cells:=fun fv vs own s I bH=>aK bH fun rf r=>by
 refine RV.e0 rf rfl ?_
 (refine xDPP r.one ?_;intro v aV;subst aV;intro r1)
 (refine aG r1.gc ?_;intro a d vs n sl bj;subst bj;intro ho hn rs)
 have hi:=kF rs
 have hl:vs.toList.length=ns.length:=by rw [rs.1,Iz,List.length_map]
 refine vb (vs:=vs.toList) ho rfl (n:=n) (by simp) hi (by exact lt_of_eq_of_lt hl hz) fun out Dt a1 a2 a3=>?_
 have e:Dt=PySem.W.sortI ns:=PySem.W.eq_sortI a2 a3
 subst e
 (refine AB (nr (h:=s.heap) (vs:=vs.toList) (out:=out)) ?_;intro k1 m k2)
 refine mb_end I (t:=s.toks) rfl k1 (RV.jR (d:=none) (sl:=#[]) k2 ?_ (sO a1)) h
 exact (I.fresh (dU (by lia))).1
end
noncomputable def Br (ss:List Str):List V:=ss.map V.str
theorem tK{own:Own}{h:Heap}:∀ {ss:List Str} {vs:List Value},bP own h vs (Br ss)→StrsAre vs ss
 | [],vs,r=>by rw [r.qk];exact .nil
 | x::ss,vs,r=>by
  (refine xDDPPP (bP.cK (xs:=Br ss) r) ?_;intro v jB aV;subst aV;intro a b)
  cases a
  exact .cons _ _ (tK b)
theorem zZ{own:Own}{h:Heap}{vs:List Value}{ss:List Str}(hi:StrsAre vs ss):bP own h vs (Br ss):=by
 induction hi with
 | nil=>exact .nil
 | cons x t _ ih=>exact .cons (.str _ _) ih
theorem k7:∀ (k:Nat) (ss:List Str),StrsAre (strsFrom k ss) ss
 | _,[]=>.nil
 | k,x::r=>.cons x k (k7 (k+1) r)
section
open PySem.Builtin.Str
variable {X:Cx}{A:Around}{env:Env}{loc:Loc}{cells:Cells}{Ψ:V→Cells→Prop}
theorem z6{x:Str}{ss:List Str}(hz:(ss.map (·.length)).sum+ss.length * x.length≤16777216)(h:Ψ (.str (Txt.join x ss)) cells):aE X A (.bi "str.join") [.str x,.list (Br ss)] Ψ cells:=fun fv vs own s I ⟨rf,r⟩=>by
 refine RV.e0 rf rfl ?_
 (refine xDDPPP r.two ?_;intro v u bj;subst bj;intro r1 r2)
 refine RV.e1 r1 rfl fun Z=>?_
 (refine aG r2.cM ?_;intro a d vs n sl cw;subst cw;intro ho hn rs)
 exact join_list (bt _ ho rfl n rfl) (tK rs) hz fun t' k=>az (t:=k) I (.str _ _) h
theorem Bs{x y:Str}{ps:List Str}(h1:(decide (x.length<y.length)||decide (strKind x<strKind y))=false)(hy:(y.length == 0)=false)(hf:(occurrences x y 0 x.length (x.length+1)).isEmpty=false)(hx:x.length≤sizeLine)(Cd:partsBetween x (occurrences x y 0 x.length (x.length+1)) y.length=ps)(hn:ps.length≤sizeLine)(h:Ψ (.list (Br ps)) cells):aE X A (.bi "str.split") [.str x,.str y] Ψ cells:=fun fv vs own s I ⟨rf,r⟩=>by
 refine RV.e0 rf rfl ?_
 (refine xDDPPP r.two ?_;intro v u cR;subst cR;intro r1 r2)
 refine RV.e1 r1 rfl fun Z=>?_;refine RV.e1 r2 rfl fun Z=>?_
 refine call_meets F.slot_str_split (typeIs_str _ _ _) F.entry_str_split (F.args_str_split_2 _ _) (meets_str_split_sep x y _ _ h1 hy hf hx (by rw [Cd];exact hn)) ?_
 rw [Cd]
 have k:∀ b o,s.heap.get? b=some o→(s.heap.push { cls:=.type "list",data:=.seq (strsFrom s.toks ps).toArray}).get? b=some o:=fun b o e=>Heap.get?_push_of_some _ e
 exact mb_end I rfl k (RV.jR (d:=none) (sl:=#[]) (Heap.get?_push_size _ rfl) (I.fresh (ao _)).1 (by simpa using zZ (k7 _ _))) h
end
noncomputable abbrev qB (elt t0 i0 t1 i1:Expr) (scope:Scope) (pos:Pos):Expr:=.ListComp elt [⟨t0,i0,[],0⟩,⟨t1,i1,[],0⟩] scope pos
noncomputable def Bt (elt t0 i0 t1 i1:Expr) (scope:Scope) (pos:Pos) (acc:Value) (env:Env):Sem Unit:=do
 let x ← eval i1 env
 standAt i1.pos
 let x ← foldedSetIterable i1 env x
 let _ ← runOwn (.compStart (qB elt t0 i0 t1 i1 scope pos) 1 (← holding [x] (pyIter x)) acc env) env
theorem tM(elt t0 i0 t1 i1:Expr)(scope:Scope)(pos:Pos)(it acc:Value)(env:Env) :
  compTurn (qB elt t0 i0 t1 i1 scope pos) 1 it acc env=(do
   standAt i1.pos
   match ← pyNext it with
   | none=>pure (.done .next)
   | some v =>
    letOwnedTupleGo t1 it v
    assign t1 env v
    (do let _ ← call (.builtin "list.append") [acc,← eval elt env])
    again (.compLoop (qB elt t0 i0 t1 i1 scope pos) 1 it acc env)):=by rfl
theorem rZ(elt t0 i0 t1 i1:Expr)(scope:Scope)(pos:Pos)(it acc:Value)(env:Env) :
  compTurn (qB elt t0 i0 t1 i1 scope pos) 0 it acc env=(do
   standAt i0.pos
   match ← pyNext it with
   | none=>pure (.done .next)
   | some v =>
    letOwnedTupleGo t0 it v
    assign t0 env v
    Bt elt t0 i0 t1 i1 scope pos acc env
    again (.compLoop (qB elt t0 i0 t1 i1 scope pos) 0 it acc env)):=by
 have e:compTurn (qB elt t0 i0 t1 i1 scope pos) 0 it acc env=(do
   standAt i0.pos
   match ← pyNext it with
   | none=>pure (.done .next)
   | some v =>
    letOwnedTupleGo t0 it v
    assign t0 env v
    let x ← eval i1 env
    standAt i1.pos
    let x ← foldedSetIterable i1 env x
    let _ ← runOwn (.compStart (qB elt t0 i0 t1 i1 scope pos) 1 (← holding [x] (pyIter x)) acc env) env
    again (.compLoop (qB elt t0 i0 t1 i1 scope pos) 0 it acc env)):=by rfl
 rw [e]
 simp only [Bt,bind_assoc,pure_bind]
section
variable {prog:Program}{w:World}{A:Around}{R:Result→Shared→Prop}{s:Shared}{elt t0 i0 t1 i1:Expr}{scope:Scope}{pos:Pos}{it acc:Value}{env:Env}
theorem tN(I:Nat→Shared→Prop)(turn:∀ n s,I n s→wpAny (model prog w) A (pyNext it) (fun r s₁=>(r=none∧R (.ok .next) s₁)∨∃ v,r=some v∧wpAny (model prog w) A (letOwnedTupleGo t1 it v) (fun Z s₂=>wpAny (model prog w) A (assign t1 env v) (fun Z s₃ =>
   wpAny (model prog w) A (eval elt env) (fun x s₄=>wpAny (model prog w) A (call (.builtin "list.append") [acc,x]) (fun Z s₅=>∃ m,m<n∧I m s₅) dh s₄) dh s₃) dh s₂) dh s₁) dh s)(n:Nat)(h:I n s):codeAny (model prog w) A (.compLoop (qB elt t0 i0 t1 i1 scope pos) 1 it acc env) R s:=by
 refine codeAny_loop rfl I (fun n s hI=>?_) n h
 show wpAny _ A ((compTurn (qB elt t0 i0 t1 i1 scope pos) 1 it acc env).onRaise (fun x=>do noteFrame x env;theTreesLotGoes x)) _ _ s
 refine wpAny_noted ?_
 rw [tM]
 refine wpAny_bind (wpAny_standAt (wpAny_bind (a9 (wpAny_mono (turn n s hI) (fun r s₁ h₁=>?_) fun Z Z h'=>h'))))
 rcases h₁ with ⟨rfl,h₁⟩ | ⟨v,rfl,h₁⟩
 ·exact wpAny_pure h₁
 ·refine wpAny_bind (a9 (wpAny_mono h₁ (fun Z s₂ h₂=>wpAny_bind (a9 (wpAny_mono h₂ (fun Z s₃ h₃=>?_) fun Z Z h'=>h'))) fun Z Z h'=>h'))
  exact wpAny_bind (wpAny_bind (a9 (wpAny_mono h₃ (fun x s₄ h₄=>wpAny_bind (a9 (wpAny_mono h₄ (fun Z s₅ h₅=>wpAny_pure (wpAny_pure ⟨rfl,h₅⟩)) fun Z Z h'=>h'))) fun Z Z h'=>h')))
theorem r0(I:Nat→Shared→Prop)(turn:∀ n s,I n s→wpAny (model prog w) A (pyNext it) (fun r s₁=>(r=none∧R (.ok .next) s₁)∨∃ v,r=some v∧wpAny (model prog w) A (letOwnedTupleGo t0 it v) (fun Z s₂=>wpAny (model prog w) A (assign t0 env v) (fun Z s₃ =>
   wpAny (model prog w) A (Bt elt t0 i0 t1 i1 scope pos acc env) (fun Z s₅=>∃ m,m<n∧I m s₅) dh s₃) dh s₂) dh s₁) dh s)(n:Nat)(h:I n s):codeAny (model prog w) A (.compLoop (qB elt t0 i0 t1 i1 scope pos) 0 it acc env) R s:=by
 refine codeAny_loop rfl I (fun n s hI=>?_) n h
 show wpAny _ A ((compTurn (qB elt t0 i0 t1 i1 scope pos) 0 it acc env).onRaise (fun x=>do noteFrame x env;theTreesLotGoes x)) _ _ s
 refine wpAny_noted ?_
 rw [rZ]
 refine wpAny_bind (wpAny_standAt (wpAny_bind (a9 (wpAny_mono (turn n s hI) (fun r s₁ h₁=>?_) fun Z Z h'=>h'))))
 rcases h₁ with ⟨rfl,h₁⟩ | ⟨v,rfl,h₁⟩
 ·exact wpAny_pure h₁
 ·refine wpAny_bind (a9 (wpAny_mono h₁ (fun Z s₂ h₂=>wpAny_bind (a9 (wpAny_mono h₂ (fun Z s₃ h₃=>?_) fun Z Z h'=>h'))) fun Z Z h'=>h'))
  exact wpAny_bind (a9 (wpAny_mono h₃ (fun Z s₅ h₅=>wpAny_pure ⟨rfl,h₅⟩) fun Z Z h'=>h'))
theorem r8(h0:codeAny (model prog w) A (.compLoop (qB elt t0 i0 t1 i1 scope pos) 1 it acc env) R s)(h:wpAny (model prog w) A (pyIter it) (fun AH s'=>AH=it∧codeAny (model prog w) A (.compLoop (qB elt t0 i0 t1 i1 scope pos) 1 it acc env) R s') dh s) :
  codeAny (model prog w) A (.compStart (qB elt t0 i0 t1 i1 scope pos) 1 it acc env) R s:=by
 refine codeAny_of_tree ?_
 show wpAny _ _ ((compStart (qB elt t0 i0 t1 i1 scope pos) 1 it acc env).onRaise (fun x=>do noteFrame x env;standAt theWindowsPlace)) _ _ s
 refine wpAny_notedAt ?_
 unfold compStart
 show wpAny _ _ (ask >>= _) _ _ s
 refine wpAny_bind (wpAny_askSetting (wpAny_ite ?_))
 split
 ·first
   | exact wpAny_bind (wpAny_pure (wpAny_pure (And.intro rfl h0)))
   | exact wpAny_pure (And.intro rfl h0)
 ·exact wpAny_bind (wpAny_rule (wpAny_bind (wpAny_standAt (wpAny_bind (a9 (wpAny_mono h (fun AH s' h'=>by obtain ⟨rfl,h'⟩:=h';exact wpAny_pure (And.intro rfl h')) fun Z Z x=>x))))))
end
section
variable {X:Cx}{A:Around}{env:Env}{loc:Loc}{cells:Cells}{own:Own}{s:Shared}{h':Heap}
theorem Fh{elt t0 i0 t1 i1:Expr}{scope:Scope}{pos:Pos}{a:Addr}{bind:V→Loc→Loc}{Ψ:Unit→Loc→Cells→Prop}(h:eC X A env t1 i1 (fun items l c=>∃ J:Nat→Loc→Cells→Prop,J 0 l c∧(∀ v∈items,pM X A env t1 v (bind v)) ∧
   (∀ i v l c,items[i]?=some v→J i l c→mE X A env (eval elt env) (fun r l' c'=>∃ xs,c' a=some (.list xs)∧xs.length≤sizeLine∧J (i+1) l' (upd c' a (some (.list (xs++[r]))))) (bind v l) c)∧∀ l c,J items.length l c→Ψ () l c) loc cells)(hs:autoParam (∀ x,foldedSetIterable i1 env x=pure x) aIR):eg X A env RU (Bt elt t0 i0 t1 i1 scope pos (.ref a) env) Ψ loc cells:=by
 intro aJ s₀ I₀
 unfold Bt
 refine wpAny_bind (a9 (wpAny_mono (h aJ s₀ I₀) (fun xv s1 h1=>wpAny_bind (wpAny_standAt ?_)) fun Z Z q=>q))
 rw [hs]
 refine wpAny_bind (wpAny_pure (wpAny_bind (wpAny_holding (a9 (wpAny_mono h1 (fun it s2 h2=>?_) fun Z Z q=>q)))))
 refine jz h2 ?_;clear h2;intro aI bc bx items I2 x2 src J j0 qX turn done
 refine aK (n9 (Em:=fun Q s=>wpAny (model X.prog X.w) A (eval elt env) (fun x s4=>wpAny (model X.prog X.w) A (call (.builtin "list.append") [.ref a,x]) (fun Z s5=>Q s5) dh s4) dh s) (Fin:=fun s'=>gJ X env RU aJ cells s₀.heap Ψ () s')
  (G:=codeAny (model X.prog X.w) A (.compLoop (qB elt t0 i0 t1 i1 scope pos) 1 it (.ref a) env) (fun r s'=>match r with | .ok f=>wpAny (model X.prog X.w) A (pure ()) (fun Z Kr=>gJ X env RU aJ cells s₀.heap Ψ () Kr) dh s' | .error e=>cameBackBy (model X.prog X.w) A env dh e s'))
  I2 x2 src j0 qX (fun i v l c own s Q hi j I Z k=>?_) (fun own' l' c' s' I x j=>⟨own',l',c',(),I,trivial,x,done l' c' j⟩)
  fun T ht k s=>tN T (fun k s hk=>aB (ht k s hk) fun r s1 hr=>hr.elim (fun q=>.inl ⟨rfl,wpAny_pure q⟩) fun v hv=>.inr (iDPP v rfl hv)) k) fun g1 g2=>wpAny_bind (wpAny_runOwn (r8 g1 g2))
 refine (turn i v l c hi j).use I fun dw l4 c4 r rv s4 I4 r4 x4 bj=>fj bj fun xs BO hz p4=>?_
 exact (c_append (Ψ:=fun Z c=>c=upd c4 a (some (.list (xs++[r])))) BO hz rfl (.builtin "list.append") [.ref a,rv]).pC I4 ⟨.bi _,.cons (.ref a) (.cons r4 .nil)⟩ fun CG c7 b v s7 I7 r7 x7 h7=>by
  cases h7
  exact k CG l4 _ s7 I7 (x4.trans x7) p4
end
section
variable {X:Cx}{A:Around}{env:Env}{loc:Loc}{cells:Cells}{own:Own}{s:Shared}
theorem xV{elt target i0 t1 i1:Expr}{pos:Pos}{bind:V→Loc→Loc}{scope:Scope}{it:Value}{items:List V}{aJ aI:Own}{aN c2:Cells}{bc:Loc}{h₀:Heap}{s2:Shared}{cl:List (Str×Addr)}{R:Value→Addr→Result→Shared→Prop}(C:bB scope env)(I2:Inv X env aI bc c2 s2)(x2:Ext (Fa env) aJ aN h₀ aI c2 s2.heap)(src:Src X A target aI c2 h₀ s2.heap it items)(ku:∀ x c,(x,c)∈cl↔((x,NameKind.free)∈scope.names∧env.cells.lookup x=some c))(J:Nat→List V→Cells→Prop)(j0:J 0 [] c2)(qX:∀ L cs v,v∈items→pM X A (compEnv scope env L cs) target v (bind v))(turn:∀ L cs i v acc c a,items[i]?=some v→J i acc c→c a=none→eg X A (compEnv scope env L cs) RU (Bt elt target i0 t1 i1 scope pos (.ref a) (compEnv scope env L cs)) (fun Z l' c'=>Sub (c8 scope bc) l'∧∃ ys,c' a=some (.list ys)∧J (i+1) ys (upd c' a none)) (bind v (c8 scope bc)) (upd c a (some (.list acc))))(hR:∀ a L own' c' s' xs,J items.length xs (upd c' a none)→c' a=some (.list xs)→eN X env bc aJ aN h₀ (.ref a) (.ref a) L own' c' s'→R (.ref a) L (.ok .next) s') :
  wpAny (model X.prog X.w) A (newList []) (fun acc s3=>wpAny (model X.prog X.w) A (newFunctionEnv scope env.globals cl [] env.qual none .none (some env)) (fun dG s4 =>
   codeAny (model X.prog X.w) A (.compStart (qB elt target i0 t1 i1 scope pos) 0 it acc { dG with scope:=relabel scope env}) (R acc dG.locals) s4) dh s3) dh s2 :=
 lJ (K:=.list) (b0:=[]) (Em:=fun ce a Q s=>wpAny (model X.prog X.w) A (Bt elt target i0 t1 i1 scope pos (.ref a) ce) (fun Z s5=>Q s5) dh s) C I2 x2 src ku (fun Q q=>wpAny_newList q (by decide)) rfl (fun own h a e=>eB #[] 0 e .nil) J j0 qX
  (fun L cs i v acc c a own s Q hi ca j I k=>eg.use (turn L cs i v acc _ a hi j (ag _ _ _)) ((kB ca).symm▸I) fun own' l' c' Z Z s' I' Z x' p=>jy p fun hs ys CC j'=>k own' l' c' ys s' I' (kB ca▸x') hs CC j')
  (fun L cs a T ht k s=>r0 T (fun k s hk=>aB (ht k s hk) fun r s1 hr=>hr.elim (fun q=>.inl ⟨rfl,q⟩) fun v hv=>.inr (iDPP v rfl hv)) k)
  (fun L cs a R s3 h1 h2=>codeAny_compStart_list h1 (aB h2 fun AH s' q=>by cases q.1;exact q.2)) hR
end
section
variable {X:Cx}{A:Around}{env:Env}{loc:Loc}{cells:Cells}{own:Own}{s:Shared}
theorem tO{elt i0 t1 i1:Expr}{x0:Str}{p0:Pos}{scope:Scope}{pos:Pos}{Ψ:V→Loc→Cells→Prop}(C:bB scope env)(hh:A.handled=none)(ek:env.scope.kind=.function)(hx:scope.names.lookup x0=some .local∨scope.names.lookup x0=some .cell)(h:eC X A env (.Name x0 p0) i0 (fun items l2 c2=>∃ J:Nat→List V→Cells→Prop,J 0 [] c2 ∧
   (∀ L cs i v acc c a,items[i]?=some v→J i acc c→c a=none→eg X A (compEnv scope env L cs) RU (Bt elt (.Name x0 p0) i0 t1 i1 scope pos (.ref a) (compEnv scope env L cs))
    (fun Z l' c'=>Sub (c8 scope l2) l'∧∃ ys,c' a=some (.list ys)∧J (i+1) ys (upd c' a none)) ((x0,v)::c8 scope l2) (upd c a (some (.list acc))))∧∀ xs c,J items.length xs c→Ψ (.list xs) l2 c) loc cells)(hs:autoParam (∀ x,foldedSetIterable i0 env x=pure x) aIR) :
  mE X A env (eval (qB elt (.Name x0 p0) i0 t1 i1 scope pos) env) Ψ loc cells:=fun own s I₀=>by
 rw [eval_ListComp]
 (refine xDPP (gw (env:=env) (scope:=scope) (fun y hy=>let ⟨c,_,l,_⟩:=I₀.fr.iA y (C.isFree hy);(bA c l))) ?_;intro cl ku Eh)
 refine wpAny_comprehension_free (g:=⟨.Name x0 p0,i0,[],0⟩) (gs:=[⟨t1,i1,[],0⟩]) rfl hs ku C.kind (fun y hy hk=>C.lookup.mpr (by obtain ⟨a,b⟩:=y;dsimp only at hk;rw [hk] at hy;exact hy)) ?_
 refine aB (h own s I₀) fun xv s1 h1=>aB h1 fun it s2 aV=>?_
 refine qP aV ?_;clear aV;intro aI bc c2 items I2 x2 src J j0 turn done
 exact xV (bind:=fun v l=>(x0,v)::l) (R:=fun acc L=>compPost (model X.prog X.w) A dh none (fun v s'=>gJ X env RV own cells s.heap Ψ v s') acc L) C I2 x2 src Eh J j0 (fun L cs v hv=>cj (ji C ek hx)) turn
  fun a L own' c' s' xs j ca e₀=>ba (e₀.freeze ca) fun own' e=>ba e.ns fun m hm=>iDPP m hm fun h' vO=>aP (e.letGo vO) fun q1 q2 q3=>⟨own',bc,_,.list xs,q1,q2,q3,done xs _ j⟩
theorem r9{elt i0 t1 i1:Expr}{x0:Str}{p0:Pos}{scope:Scope}{pos:Pos}{Ψ:V→Loc→Cells→Prop}(C:bB scope env)(hh:A.handled=none)(ek:env.scope.kind=.function)(hx:scope.names.lookup x0=some .local∨scope.names.lookup x0=some .cell)(h:eC X A env (.Name x0 p0) i0 (fun items l2 c2=>∃ lc,c8 scope l2=lc∧∃ J:Nat→List V→Cells→Prop,J 0 [] c2 ∧
   (∀ L cs i v acc c a,items[i]?=some v→J i acc c→c a=none→eg X A (compEnv scope env L cs) RU (Bt elt (.Name x0 p0) i0 t1 i1 scope pos (.ref a) (compEnv scope env L cs))
    (fun Z l' c'=>Sub lc l'∧∃ ys,c' a=some (.list ys)∧J (i+1) ys (upd c' a none)) ((x0,v)::lc) (upd c a (some (.list acc))))∧∀ xs c,J items.length xs c→Ψ (.list xs) l2 c) loc cells)(hs:autoParam (∀ x,foldedSetIterable i0 env x=pure x) aIR) :
  mE X A env (eval (qB elt (.Name x0 p0) i0 t1 i1 scope pos) env) Ψ loc cells :=
 tO C hh ek hx (fun own s I=>wpAny_mono (h own s I) (fun xv s1 h1=>wpAny_mono h1 (fun it s2 bH=>sE bH fun own' eJ cells' items I' x' src lc e q=>(eW own' eJ cells' items I' x' src (by subst e;exact q))) fun Z Z q=>q) fun Z Z q=>q) hs
end
namespace L2
noncomputable abbrev lEnv (L:Addr) (cdv:Value):Env:=dF "law" (au FH) L 251 cdv
noncomputable abbrev lSt (k:Nat):Stmt:=(bI FH).getD k default
noncomputable def z7 (xs:List Int) (lo hi st:Option Int):List Int:=(sliceRange (sliceBounds lo hi st xs.length).1 (sliceBounds lo hi st xs.length).2.1 (sliceBounds lo hi st xs.length).2.2).filterMap (xs[·]?)
theorem vc(xs:List Int)(lo hi st:Option Int):gi (Iz xs) lo hi st=Iz (z7 xs lo hi st):=by
 unfold gi z7 Iz
 rw [List.length_map,List.map_filterMap]
 congr 1
 funext i
 rw [List.getElem?_map]
noncomputable def numAt (ax:List Int) (p:Nat):Int:=((z7 ax (some p) (some 48) (some 8)).sum).fmod (10 ^ 6)
noncomputable def numsOf (ax:List Int):List Int:=(List.range (min 8 ax.length)).map (numAt ax)
theorem numsOf_length(ax:List Int):(numsOf ax).length=min 8 ax.length:=by simp [numsOf]
theorem xW(ax:List Int):(((nats (min 8 ax.length)).filter fun Z=>true).map fun v=>match v with | .int p=>V.int (numAt ax p.toNat) | _=>.none)=Iz (numsOf ax):=by
 unfold nats numsOf Iz
 rw [List.filter_eq_self.mpr (fun Z Z=>rfl)]
 first | rfl | (rw [List.map_map];rfl) | (simp only [List.map_map];rfl) | (rw [List.map_append,List.map_map];rw [List.map_map];rfl)
section
variable {Y:Cx}{A:Around}{k:Nat}{c:Cells}{L:Addr}{cdv:Value}{l:Loc}{Φ:MF→Loc→Cells→Prop}
theorem tQ{ax:List Int}(G:G2 Y)(hA:Rm Y A (k+1))(hz:ax.length≤1000)(h:Φ .next [("numbers",.list (Iz (numsOf ax))),("script",.list (Iz ax))] c):mS Y A (lEnv L cdv) (exec (lSt 0) (lEnv L cdv)) Φ [("script",.list (Iz ax))] c:=by
 refine de ⟨by rfl,by decide +kernel,by kernel_rfl⟩ (iR.name ⟨by rfl,by decide +kernel,by kernel_rfl⟩ rfl (.inl (by decide +kernel))) (by kernel_rfl) hA.hh (by rfl) ?_
 have e8:(if (ax.length:Int)<8 then (ax.length:Int) else 8)=((min 8 ax.length:Nat):Int):=by split <;> lia
 refine bN (aA (by kernel_rfl) G.range trivial (af (aA (by kernel_rfl) G.min trivial (af (m_int (af (aA (by kernel_rfl) G.len trivial (af (m_var (mv:=.list (Iz ax)) (by kernel_rfl) (a_nil (fC (by rw [ai];exact ah (by lia)) (a_nil (CQ hA.hh (a_nil (dz ?_)))))))))))))))
 rw [ai,e8]
 refine ⟨_,kG (n:=min 8 ax.length) hA.hh (by lia),?_⟩
 refine ⟨fun Z Z=>trivial,aM (fun Z=>true) (fun v=>match v with | .int p=>V.int (numAt ax p.toNat) | _=>.none) (by rw [bC];exact ah (by lia)) (lc:=[("script",.list (Iz ax))]) (by kernel_rfl) (fun L' cs j v hj=>?_) ?_⟩
 ·(refine aK (dA hj) ?_;intro FI bj;subst bj)
  refine cN (aO rfl rfl rfl (fun Z=>?_))
  refine bh (aA (by kernel_rfl) G.sum trivial (af (gg (m_var (mv:=.list (Iz ax)) (by kernel_rfl) (dN (m_var (mv:=.int j) (by kernel_rfl) (dN (m_int (dN (m_int (rn (by decide) (by rw [ai];exact ah (by lia)) (a_nil ?_))))))))))))
  rw [vc]
  refine BS hA.hh (bh (m_int (m_int (Ei (by decide) (by decide) (by decide) (sL (by decide) ⟨rfl,rfl,rfl⟩)))))
 ·show Φ _ _ _
  rw [xW]
  exact h
noncomputable def cA (ns:List Int):List Int:=[1,3]++ns.map fun n=>n.fmod 5
theorem z8(ns:List Int):V.list ([V.int 1,.int 3]++((Iz ns).filter fun Z=>true).map fun v=>match v with | .int n=>V.int (n.fmod 5) | _=>.none)=.list (Iz (cA ns)):=by
 unfold cA Iz
 rw [List.filter_eq_self.mpr (fun Z Z=>rfl)]
 first | rfl | (rw [List.map_map];rfl) | (simp only [List.map_map];rfl) | (rw [List.map_append,List.map_map];rw [List.map_map];rfl)
noncomputable def d9:List Str:=[Str.ofString "a",Str.ofString "*",Str.ofString "?",Str.ofString "[!.]",Str.ofString "]",Str.ofString " .",Str.ofString "[",Str.ofString "-.",Str.ofString "é",Str.ofString "\u2028."]
noncomputable def js (n:Int):Str:=d9.getD ((n.fdiv 5).fmod 10).toNat default
noncomputable def dC (ns:List Int):List Str:=[Str.ofString "a",Str.ofString "*"]++ns.map js
theorem vd(ns:List Int):V.list ([V.str (Str.ofString "a"),.str (Str.ofString "*")]++((Iz ns).filter fun Z=>true).map fun v=>match v with | .int n=>V.str (js n) | _=>.none)=.list (Sz (dC ns)):=by
 unfold dC Iz Sz
 rw [List.filter_eq_self.mpr (fun Z Z=>rfl)]
 first | rfl | (rw [List.map_map];rfl) | (simp only [List.map_map];rfl) | (rw [List.map_append,List.map_map];rw [List.map_map];rfl)
noncomputable def oZ:List Str:=[Str.ofString "\r\n",Str.ofString "\n",Str.ofString "\r"]
noncomputable def endOf (n:Int):Str:=oZ.getD ((n.fdiv 50).fmod 3).toNat default
noncomputable def mL (ns:List Int):List Str:=[Str.ofString "",Str.ofString "\r"]++ns.map endOf
theorem z9(ns:List Int):V.list ([V.str (Str.ofString ""),.str (Str.ofString "\r")]++((Iz ns).filter fun Z=>true).map fun v=>match v with | .int n=>V.str (endOf n) | _=>.none)=.list (Sz (mL ns)):=by
 unfold mL Iz Sz
 rw [List.filter_eq_self.mpr (fun Z Z=>rfl)]
 first | rfl | (rw [List.map_map];rfl) | (simp only [List.map_map];rfl) | (rw [List.map_append,List.map_map];rw [List.map_map];rfl)
theorem fQ{n k:Int}(hk:0<k):0≤n.fmod k∧n.fmod k<k:=⟨Int.fmod_nonneg_of_pos n hk,Int.fmod_lt_of_pos n hk⟩
theorem wC{n k:Int}{xs:List V}(hk:0<k)(hn:(xs.length:Int)=k)(hs:xs.length≤1000):seqIndex? (n.fmod k) xs.length=some (n.fmod k).toNat:=by
 (refine aK (fQ (n:=n) hk) ?_;intro h1 h2)
 have e:=nB (j:=(n.fmod k).toNat) (n:=xs.length) (by lia)
 rwa [Int.toNat_of_nonneg h1] at e
noncomputable abbrev locN (ns:List Int):Loc:=[("numbers",.list (Iz ns))]
noncomputable abbrev locD (ns:List Int):Loc:=("dots",.list (Iz (cA ns)))::locN ns
noncomputable abbrev locL (ns:List Int):Loc:=("labels",.list (Sz (dC ns)))::locD ns
noncomputable abbrev locE (ns:List Int):Loc:=("ends",.list (Sz (mL ns)))::locL ns
noncomputable def k8 (ns:List Int):Int:=1+ns.sum.fmod 3
noncomputable abbrev locM (ns:List Int):Loc:=("more",.int (k8 ns))::locE ns
theorem Aa{ns:List Int}(hA:Rm Y A (k+1))(hz:ns.length≤1000)(h:Φ .next (locD ns) c):mS Y A (lEnv L cdv) (exec (lSt 1) (lEnv L cdv)) Φ (locN ns) c:=by
 refine aq (.inl (by kernel_rfl)) (bh (gx (af (m_int (af (m_int (a_nil ⟨ah (by decide),aZ ⟨by rfl,by decide +kernel,by kernel_rfl⟩ (iR.name ⟨by rfl,by decide +kernel,by kernel_rfl⟩ rfl (.inl (by decide +kernel))) hA.hh ?_⟩)))))))
 refine bN (m_var (mv:=.list (Iz ns)) (by kernel_rfl) (bq _ (bZ hA.hh) (fun Z Z=>trivial) ?_))
 refine aM (fun Z=>true) (fun v=>match v with | .int n=>V.int (n.fmod 5) | _=>.none) (by rw [ai];exact ah (by lia)) (lc:=[]) (by kernel_rfl) (fun L' cs j v hj=>?_) ?_
 ·(refine xDPP (dO hj) ?_;intro n hn bH;subst bH)
  exact cN (aO rfl rfl rfl (fun Z=>bh (m_var (mv:=.int n) (by kernel_rfl) (m_int (sL (by decide) ⟨rfl,rfl,rfl⟩)))))
 ·refine jS ?_ ?_
  ·rw [List.filter_eq_self.mpr (fun Z Z=>rfl),List.length_map,ai];exact ah (by show 2+ns.length≤_;lia)
  ·show Φ _ _ _
   rw [z8];exact h
theorem ve{ns:List Int}(hA:Rm Y A (k+1))(hz:ns.length≤1000)(h:Φ .next (locL ns) c):mS Y A (lEnv L cdv) (exec (lSt 2) (lEnv L cdv)) Φ (locD ns) c:=by
 refine aq (.inl (by kernel_rfl)) (bh (gx (af (bf (af (bf (a_nil ⟨ah (by decide),aZ ⟨by rfl,by decide +kernel,by kernel_rfl⟩ (iR.name ⟨by rfl,by decide +kernel,by kernel_rfl⟩ rfl (.inl (by decide +kernel))) hA.hh ?_⟩)))))))
 refine bN (m_var (mv:=.list (Iz ns)) (by kernel_rfl) (bq _ (bZ hA.hh) (fun Z Z=>trivial) ?_))
 refine aM (fun Z=>true) (fun v=>match v with | .int n=>V.str (js n) | _=>.none) (by rw [ai];exact ah (by lia)) (lc:=[]) (by kernel_rfl) (fun L' cs j v hj=>?_) ?_
 ·(refine xDPP (dO hj) ?_;intro n hn cw;subst cw)
  refine cN (aO rfl rfl rfl (fun Z=>?_))
  refine m_item (gZ (af (bf (af (bf (af (bf (af (bf (af (bf (af (bf (af (bf (af (bf (af (bf (af (bf (a_nil ⟨ah (by show 10≤_;decide),?_⟩))))))))))))))))))))))
  refine bh (bh (m_var (mv:=.int n) (by kernel_rfl) (m_int (BP (by decide) rfl (m_int (sL (by decide) ?_))))))
  (refine aK (fQ (n:=n.fdiv 5) (k:=10) (by decide)) ?_;intro h1 h2)
  refine vP (by lia) (by lia) (wC (k:=10) (by decide) rfl (by show 10≤1000;decide)) (x:=.str (js n)) ?_ ⟨rfl,rfl,rfl⟩
  have hx:∀ j,j<10→([V.str (Str.ofString "a"),.str (Str.ofString "*"),.str (Str.ofString "?"),.str (Str.ofString "[!.]"),.str (Str.ofString "]"),.str (Str.ofString " ."),.str (Str.ofString "["),.str (Str.ofString "-."),.str (Str.ofString "é"),.str (Str.ofString "\u2028.")]:List V)[j]?=some (.str (d9.getD j default)):=by
   intro j hj
   refine (congrArg (fun l:List V=>l[j]?) (a₂:=d9.map V.str) (by rfl)).trans ?_
   rw [List.getElem?_map,List.getD_eq_getElem?_getD,List.getElem?_eq_getElem (by exact hj)];rfl
  exact hx _ (by exact (Int.toNat_lt h1).mpr h2)
 ·refine jS ?_ ?_
  ·rw [List.filter_eq_self.mpr (fun Z Z=>rfl),List.length_map,ai];exact ah (by show 2+ns.length≤_;lia)
  ·show Φ _ _ _
   rw [vd];exact h
theorem Ab{ns:List Int}(hA:Rm Y A (k+1))(hz:ns.length≤1000)(h:Φ .next (locE ns) c):mS Y A (lEnv L cdv) (exec (lSt 3) (lEnv L cdv)) Φ (locL ns) c:=by
 refine aq (.inl (by kernel_rfl)) (bh (gx (af (bf (af (bf (a_nil ⟨ah (by decide),aZ ⟨by rfl,by decide +kernel,by kernel_rfl⟩ (iR.name ⟨by rfl,by decide +kernel,by kernel_rfl⟩ rfl (.inl (by decide +kernel))) hA.hh ?_⟩)))))))
 refine bN (m_var (mv:=.list (Iz ns)) (by kernel_rfl) (bq _ (bZ hA.hh) (fun Z Z=>trivial) ?_))
 refine aM (fun Z=>true) (fun v=>match v with | .int n=>V.str (endOf n) | _=>.none) (by rw [ai];exact ah (by lia)) (lc:=[]) (by kernel_rfl) (fun L' cs j v hj=>?_) ?_
 ·(refine xDPP (dO hj) ?_;intro n hn cR;subst cR)
  refine cN (aO rfl rfl rfl (fun Z=>?_))
  refine m_item (gZ (af (bf (af (bf (af (bf (a_nil ⟨ah (by show 3≤_;decide),?_⟩))))))))
  refine bh (bh (m_var (mv:=.int n) (by kernel_rfl) (m_int (BP (by decide) rfl (m_int (sL (by decide) ?_))))))
  (refine aK (fQ (n:=n.fdiv 50) (k:=3) (by decide)) ?_;intro h1 h2)
  refine vP (by lia) (by lia) (wC (k:=3) (by decide) rfl (by show 3≤1000;decide)) (x:=.str (endOf n)) ?_ ⟨rfl,rfl,rfl⟩
  have hx:∀ j,j<3→([V.str (Str.ofString "\r\n"),.str (Str.ofString "\n"),.str (Str.ofString "\r")]:List V)[j]?=some (.str (oZ.getD j default)):=by
   intro j hj
   refine (congrArg (fun l:List V=>l[j]?) (a₂:=oZ.map V.str) (by rfl)).trans ?_
   rw [List.getElem?_map,List.getD_eq_getElem?_getD,List.getElem?_eq_getElem (by exact hj)];rfl
  exact hx _ (by exact (Int.toNat_lt h1).mpr h2)
 ·refine jS ?_ ?_
  ·rw [List.filter_eq_self.mpr (fun Z Z=>rfl),List.length_map,ai];exact ah (by show 2+ns.length≤_;lia)
  ·show Φ _ _ _
   rw [z9];exact h
theorem Ac{ns:List Int}(G:G2 Y)(hA:Rm Y A (k+1))(h:Φ .next (locM ns) c):mS Y A (lEnv L cdv) (exec (lSt 4) (lEnv L cdv)) Φ (locE ns) c :=
 aq (.inr (by kernel_rfl)) (bh (m_int (bh (aA (by kernel_rfl) G.sum trivial (af (m_var (mv:=.list (Iz ns)) (by kernel_rfl) (a_nil (BS hA.hh (m_int (sL (by decide) (eD h)))))))))))
end
end L2
namespace L2
theorem u7.keeps{K:PySem.W.Frag}{a c:Addr}{q:Str}{s:Stmt}(F:u7 K a q s c):PySem.W.keepIn K (.ref a)=true:=let ⟨_,_,_,_,F⟩:=F;F.keep
noncomputable def ie:List V:=(List.range 8).map fun m=>.list (kb m)
theorem Du(m:Nat)(h:m<8):MulOk (Str.ofString ".") (m:Int)∧(Txt.mul (Str.ofString ".") (m:Int)).length+(Str.ofString "[!.]*").length≤100:=by
 refine ⟨mulOk_of 1 1000 (by decide) (by lia) (by exact Int.neg_ofNat_le_natCast (2 ^ 63) m) (by decide) (by decide),?_⟩
 rw [oG,gD]
 have:(Str.ofString "[!.]*").length=5:=by decide +kernel
 lia
section
variable {Y:Cx}{A:Around}{k:Nat}{c:Cells}{L:Addr}{cdv:Value}{Φ:MF→Loc→Cells→Prop}
noncomputable abbrev locR (ns:List Int):Loc:=("rulers",.list ie)::locM ns
theorem vf{ns:List Int}(G:G2 Y)(T:T2 Y)(hA:Rm Y A (k+3))(hP:c bS=some .tab)(h:∀ c',c' bS=some .tab→Φ .next (locR ns) c'):mS Y A (lEnv L cdv) (exec (lSt 5) (lEnv L cdv)) Φ (locM ns) c:=by
 refine aq (.inr (by kernel_rfl)) (aZ ⟨by rfl,by decide +kernel,by kernel_rfl⟩ (iR.name ⟨by rfl,by decide +kernel,by kernel_rfl⟩ rfl (.inl (by decide +kernel))) hA.hh ?_)
 refine bN (aA (by kernel_rfl) G.range trivial (af (m_int (a_nil (dz (bq _ (kG (n:=8) hA.hh (by exact Nat.le_of_ble_eq_true rfl)) (fun Z Z=>trivial) ?_))))))
 refine (nu (by rw [bC];exact ah (by decide)) (fun i acc c'=>i≤8∧acc=(List.range i).map (fun m=>V.list (kb m))∧c' bS=some .tab) (⟨by exact Nat.zero_le 8,rfl,hP⟩) (fun i acc c' bj=>aP bj fun q1 q2 Z=>?_) (fun L' cs i v acc c' hv bH=>aP bH fun q1 q2 q3=>?_) (fun xs c' cw=>aP cw fun q1 q2 q3=>?_))
 ·rw [q2];simp
 ·(refine aK (dA hv) ?_;intro hi aV;subst aV)
  (refine aK (Du i hi) ?_;intro m1 m2)
  refine cN ?_
  rw [if_pos rfl]
  refine aA (by kernel_rfl) G.A9 (u7.keeps T.1.trans) (af (bh (bh (bf (m_var (mv:=.int (i:Int)) (by kernel_rfl) (yL m1 (bf (rl (ah (by lia)) (af (cY (af (m_int (a_nil ?_)))))))))))))
  refine zL (m:=i) (k:=k+1) T hA hi q3 fun c2 Dv=>(aO rfl (by exact Nat.succ_le_of_lt hi) ?_ (Dv _ _ q3))
  rw [q2,List.range_succ,List.map_append];rfl
 ·rw [bC] at q2
  subst q2
  exact h c' q3
noncomputable def FF (ds:List Int) (Ml Mh:Int):Prop :=
 (ds.length≤100) ∧
 (∀ (i:Nat) a r,(overOf ds)[i]?=some (a::r)→0≤a∧a<i) ∧
 (∀ ab∈overOf ds,ab.length≤1000) ∧
 (∀ (i:Nat) us,(aj (overOf ds))[i]?=some us→us.length≤1000∧∀ o∈us,(i:Int)<o∧o<(aj (overOf ds)).length) ∧
 (Ml∈ak (overOf ds)) ∧
 (∀ a∈ak (overOf ds),a≤Ml) ∧
 (0≤Ml∧Ml≤1000) ∧
 (Mh∈aF (aj (overOf ds))) ∧
 (∀ a∈aF (aj (overOf ds)),a≤Mh) ∧
 (0≤Mh∧Mh≤1000)
theorem FF.of{ds:List Int}{Ml Mh:Int}(h:(ds.length≤100) ∧
 (∀ (i:Nat) a r,(overOf ds)[i]?=some (a::r)→0≤a∧a<i) ∧
 (∀ ab∈overOf ds,ab.length≤1000) ∧
 (∀ (i:Nat) us,(aj (overOf ds))[i]?=some us→us.length≤1000∧∀ o∈us,(i:Int)<o∧o<(aj (overOf ds)).length) ∧
 (Ml∈ak (overOf ds)) ∧
 (∀ a∈ak (overOf ds),a≤Ml) ∧
 (0≤Ml∧Ml≤1000) ∧
 (Mh∈aF (aj (overOf ds))) ∧
 (∀ a∈aF (aj (overOf ds)),a≤Mh) ∧
 (0≤Mh∧Mh≤1000)):FF ds Ml Mh:=h
theorem FF.len{ds:List Int}{Ml Mh:Int}(S:FF ds Ml Mh):ds.length≤100:=S.1
theorem FF.IG{ds:List Int}{Ml Mh:Int}(S:FF ds Ml Mh):∀ (i:Nat) a r,(overOf ds)[i]?=some (a::r)→0≤a∧a<i:=S.2.1
theorem FF.IH{ds:List Int}{Ml Mh:Int}(S:FF ds Ml Mh):∀ ab∈overOf ds,ab.length≤1000:=S.2.2.1
theorem FF.Ks{ds:List Int}{Ml Mh:Int}(S:FF ds Ml Mh):∀ (i:Nat) us,(aj (overOf ds))[i]?=some us→us.length≤1000∧∀ o∈us,(i:Int)<o∧o<(aj (overOf ds)).length:=S.2.2.2.1
theorem FF.lM{ds:List Int}{Ml Mh:Int}(S:FF ds Ml Mh):Ml∈ak (overOf ds):=S.2.2.2.2.1
theorem FF.lm{ds:List Int}{Ml Mh:Int}(S:FF ds Ml Mh):∀ a∈ak (overOf ds),a≤Ml:=S.2.2.2.2.2.1
theorem FF.l0{ds:List Int}{Ml Mh:Int}(S:FF ds Ml Mh):0≤Ml∧Ml≤1000:=S.2.2.2.2.2.2.1
theorem FF.hM{ds:List Int}{Ml Mh:Int}(S:FF ds Ml Mh):Mh∈aF (aj (overOf ds)):=S.2.2.2.2.2.2.2.1
theorem FF.hm{ds:List Int}{Ml Mh:Int}(S:FF ds Ml Mh):∀ a∈aF (aj (overOf ds)),a≤Mh:=S.2.2.2.2.2.2.2.2.1
theorem FF.h0{ds:List Int}{Ml Mh:Int}(S:FF ds Ml Mh):0≤Mh∧Mh≤1000:=S.2.2.2.2.2.2.2.2.2
theorem ay(ds:List Int):(overOf ds).length=ds.length:=by simp [overOf]
theorem fb(ov:List (List Int)):(aj ov).length=ov.length:=by simp [aj]
noncomputable abbrev Cn (ds:List Int):V:=.list (dE (aj (overOf ds)))
noncomputable abbrev FY (ds:List Int) (Ml:Int):V:=.list (lR (aw (ak (overOf ds)) Ml))
noncomputable abbrev Hw (ds:List Int) (Mh:Int):V:=.list (lR (aw (aF (aj (overOf ds))) Mh))
theorem xX{ds:List Int}{Ml Mh:Int}{l0:Loc}(G:G2 Y)(F:FF ds Ml Mh)(hA:Rm Y A (k+3))(hl:l0.lookup ("dots":Str)=some (.list (Iz ds)))(h:Φ .next (("under",Cn ds)::l0) c):mS Y A (lEnv L cdv) (exec (lSt 6) (lEnv L cdv)) Φ l0 c :=
 aq (.inr (by kernel_rfl)) (aA (by kernel_rfl) G.wc (b9.keeps G.under) (af (aA (by kernel_rfl) G.rM (b9.keeps G.over) (af (m_var (mv:=.list (Iz ds)) hl (a_nil (nG (k:=k+2) G hA (a_nil (ti (k:=k+1) G hA h (by rw [ay];have:=F.len;lia))) (by have:=F.len;lia))))))))
theorem vg{ds:List Int}{Ml Mh:Int}{l0:Loc}(G:G2 Y)(F:FF ds Ml Mh)(hA:Rm Y A (k+3))(hl:l0.lookup ("dots":Str)=some (.list (Iz ds)))(h:Φ .next (("levels",FY ds Ml)::l0) c):mS Y A (lEnv L cdv) (exec (lSt 7) (lEnv L cdv)) Φ l0 c :=
 aq (.inl (by kernel_rfl)) (aA (by kernel_rfl) G.qu (b9.keeps G.grouped) (af (aA (by kernel_rfl) G.tc (b9.keeps G.levels) (af (aA (by kernel_rfl) G.rM (b9.keeps G.over) (af (m_var (mv:=.list (Iz ds)) hl (a_nil (nG (k:=k+2) G hA (a_nil (qv (k:=k+2) G hA F.IG F.IH (a_nil (oD (k:=k+1) G hA F.lM F.lm F.l0.1 F.l0.2 h (by rw [a7,ay];have:=F.len;lia))) (by rw [ay];have:=F.len;lia))) (by have:=F.len;lia))))))))))
theorem sa(un:List (List Int)):(aF un).length=un.length:=j6 un _
theorem tR{ds:List Int}{Ml Mh:Int}{l0:Loc}(G:G2 Y)(F:FF ds Ml Mh)(hA:Rm Y A (k+3))(hl:l0.lookup ("under":Str)=some (Cn ds))(h:Φ .next (("heights",Hw ds Mh)::l0) c):mS Y A (lEnv L cdv) (exec (lSt 8) (lEnv L cdv)) Φ l0 c :=
 aq (.inl (by kernel_rfl)) (aA (by kernel_rfl) G.qu (b9.keeps G.grouped) (af (aA (by kernel_rfl) G.xy (b9.keeps G.jm) (af (m_var (mv:=Cn ds) hl (a_nil (u0 (k:=k+2) G hA F.Ks (a_nil (oD (k:=k+1) G hA F.hM F.hm F.h0.1 F.h0.2 h (by rw [sa,fb,ay];have:=F.len;lia))) (by rw [fb,ay];have:=F.len;lia))))))))
end
end L2
namespace L2
noncomputable def fR:Nat→Str→Str
 | 0,x=>x
 | n+1,x=>quote (fR n x)
noncomputable def jw (ends labels:List Str) (d:List Int):Str:=Txt.join (Str.ofString "") (List.zipWith (·++·) ends (ar d labels))
noncomputable def wantedOf (more:Int) (d:List Int):List Int:=d.map fun m=>if m≠0 then m+more else 0
noncomputable def bD (labels:List Str) (w:List Int):Str:=Txt.join (Str.ofString "\r\n") (ar w labels)
noncomputable def dk (m:Nat):List (Option Str):=List.replicate m (some (pZ specs 46))++[some (Str.ofString "["++(Str.ofString "^"++Txt.slice (Str.ofString "!.") (some 1) none)++Str.ofString "]"),none]
theorem xY(m:Nat):jJ (dk m)=kb m:=by
 unfold jJ dk kb
 rw [List.map_append,List.map_replicate];rfl
noncomputable def LF (ds:List Int) (labels ends:List Str) (more:Int) (d:List Int):Prop :=
 (∀ m∈d,0≤m∧m≤90) ∧
 (d.length≤100) ∧
 (labels.length=d.length) ∧
 (ends.length=d.length) ∧
 (∀ l∈labels,l.length≤100) ∧
 (∀ e∈ends,e.length≤10) ∧
 (1≤more∧more≤3) ∧
 (∀ j:Nat,(j:Int)≤more→(fR j (jw ends labels d)).length≤100000) ∧
 (fR more.toNat (jw ends labels d)=bD labels (wantedOf more d)) ∧
 (((List.zipWith (·++·) ends (ar d labels)).map (·.length)).sum≤100000) ∧
 (((ar (wantedOf more d) labels).map (·.length)).sum≤100000) ∧
 ((bD labels (wantedOf more d)).length≤100000) ∧
 ((decide ((bD labels (wantedOf more d)).length<(Str.ofString "\r\n").length)||decide (Builtin.Str.strKind (bD labels (wantedOf more d))<Builtin.Str.strKind (Str.ofString "\r\n")))=false) ∧
 ((Builtin.Str.occurrences (bD labels (wantedOf more d)) (Str.ofString "\r\n") 0 (bD labels (wantedOf more d)).length ((bD labels (wantedOf more d)).length+1)).isEmpty=false) ∧
 (Builtin.Str.partsBetween (bD labels (wantedOf more d)) (Builtin.Str.occurrences (bD labels (wantedOf more d)) (Str.ofString "\r\n") 0 (bD labels (wantedOf more d)).length ((bD labels (wantedOf more d)).length+1)) (Str.ofString "\r\n").length=ar (wantedOf more d) labels) ∧
 (∀ (i:Nat) row w,(ar (wantedOf more d) labels)[i]?=some row→(wantedOf more d)[i]?=some w→row.length≤1000∧0≤w∧w<8∧∀ m:Nat,m<8→cV (dk m) row=((m:Int) == w)) ∧
 (overOf (wantedOf more d)=overOf ds)
theorem LF.of{ds:List Int}{labels ends:List Str}{more:Int}{d:List Int}(h:(∀ m∈d,0≤m∧m≤90) ∧
 (d.length≤100) ∧
 (labels.length=d.length) ∧
 (ends.length=d.length) ∧
 (∀ l∈labels,l.length≤100) ∧
 (∀ e∈ends,e.length≤10) ∧
 (1≤more∧more≤3) ∧
 (∀ j:Nat,(j:Int)≤more→(fR j (jw ends labels d)).length≤100000) ∧
 (fR more.toNat (jw ends labels d)=bD labels (wantedOf more d)) ∧
 (((List.zipWith (·++·) ends (ar d labels)).map (·.length)).sum≤100000) ∧
 (((ar (wantedOf more d) labels).map (·.length)).sum≤100000) ∧
 ((bD labels (wantedOf more d)).length≤100000) ∧
 ((decide ((bD labels (wantedOf more d)).length<(Str.ofString "\r\n").length)||decide (Builtin.Str.strKind (bD labels (wantedOf more d))<Builtin.Str.strKind (Str.ofString "\r\n")))=false) ∧
 ((Builtin.Str.occurrences (bD labels (wantedOf more d)) (Str.ofString "\r\n") 0 (bD labels (wantedOf more d)).length ((bD labels (wantedOf more d)).length+1)).isEmpty=false) ∧
 (Builtin.Str.partsBetween (bD labels (wantedOf more d)) (Builtin.Str.occurrences (bD labels (wantedOf more d)) (Str.ofString "\r\n") 0 (bD labels (wantedOf more d)).length ((bD labels (wantedOf more d)).length+1)) (Str.ofString "\r\n").length=ar (wantedOf more d) labels) ∧
 (∀ (i:Nat) row w,(ar (wantedOf more d) labels)[i]?=some row→(wantedOf more d)[i]?=some w→row.length≤1000∧0≤w∧w<8∧∀ m:Nat,m<8→cV (dk m) row=((m:Int) == w)) ∧
 (overOf (wantedOf more d)=overOf ds)):LF ds labels ends more d:=h
theorem LF.qQ{ds:List Int}{labels ends:List Str}{more:Int}{d:List Int}(S:LF ds labels ends more d):∀ m∈d,0≤m∧m≤90:=S.1
theorem LF.len{ds:List Int}{labels ends:List Str}{more:Int}{d:List Int}(S:LF ds labels ends more d):d.length≤100:=S.2.1
theorem LF.Fi{ds:List Int}{labels ends:List Str}{more:Int}{d:List Int}(S:LF ds labels ends more d):labels.length=d.length:=S.2.2.1
theorem LF.Dw{ds:List Int}{labels ends:List Str}{more:Int}{d:List Int}(S:LF ds labels ends more d):∀ l∈labels,l.length≤100:=S.2.2.2.2.1
theorem LF.Hx{ds:List Int}{labels ends:List Str}{more:Int}{d:List Int}(S:LF ds labels ends more d):∀ e∈ends,e.length≤10:=S.2.2.2.2.2.1
theorem LF.mr{ds:List Int}{labels ends:List Str}{more:Int}{d:List Int}(S:LF ds labels ends more d):1≤more∧more≤3:=S.2.2.2.2.2.2.1
theorem LF.zT{ds:List Int}{labels ends:List Str}{more:Int}{d:List Int}(S:LF ds labels ends more d):∀ j:Nat,(j:Int)≤more→(fR j (jw ends labels d)).length≤100000:=S.2.2.2.2.2.2.2.1
theorem LF.Dx{ds:List Int}{labels ends:List Str}{more:Int}{d:List Int}(S:LF ds labels ends more d):fR more.toNat (jw ends labels d)=bD labels (wantedOf more d):=S.2.2.2.2.2.2.2.2.1
theorem LF.z1{ds:List Int}{labels ends:List Str}{more:Int}{d:List Int}(S:LF ds labels ends more d):((List.zipWith (·++·) ends (ar d labels)).map (·.length)).sum≤100000:=S.2.2.2.2.2.2.2.2.2.1
theorem LF.z2{ds:List Int}{labels ends:List Str}{more:Int}{d:List Int}(S:LF ds labels ends more d):((ar (wantedOf more d) labels).map (·.length)).sum≤100000:=S.2.2.2.2.2.2.2.2.2.2.1
theorem LF.zw{ds:List Int}{labels ends:List Str}{more:Int}{d:List Int}(S:LF ds labels ends more d):(bD labels (wantedOf more d)).length≤100000:=S.2.2.2.2.2.2.2.2.2.2.2.1
theorem LF.Kt{ds:List Int}{labels ends:List Str}{more:Int}{d:List Int}(S:LF ds labels ends more d):(decide ((bD labels (wantedOf more d)).length<(Str.ofString "\r\n").length)||decide (Builtin.Str.strKind (bD labels (wantedOf more d))<Builtin.Str.strKind (Str.ofString "\r\n")))=false:=S.2.2.2.2.2.2.2.2.2.2.2.2.1
theorem LF.Ku{ds:List Int}{labels ends:List Str}{more:Int}{d:List Int}(S:LF ds labels ends more d):(Builtin.Str.occurrences (bD labels (wantedOf more d)) (Str.ofString "\r\n") 0 (bD labels (wantedOf more d)).length ((bD labels (wantedOf more d)).length+1)).isEmpty=false:=S.2.2.2.2.2.2.2.2.2.2.2.2.2.1
theorem LF.Kv{ds:List Int}{labels ends:List Str}{more:Int}{d:List Int}(S:LF ds labels ends more d):Builtin.Str.partsBetween (bD labels (wantedOf more d)) (Builtin.Str.occurrences (bD labels (wantedOf more d)) (Str.ofString "\r\n") 0 (bD labels (wantedOf more d)).length ((bD labels (wantedOf more d)).length+1)) (Str.ofString "\r\n").length=ar (wantedOf more d) labels:=S.2.2.2.2.2.2.2.2.2.2.2.2.2.2.1
theorem LF.tk{ds:List Int}{labels ends:List Str}{more:Int}{d:List Int}(S:LF ds labels ends more d):∀ (i:Nat) row w,(ar (wantedOf more d) labels)[i]?=some row→(wantedOf more d)[i]?=some w→row.length≤1000∧0≤w∧w<8∧∀ m:Nat,m<8→cV (dk m) row=((m:Int) == w):=S.2.2.2.2.2.2.2.2.2.2.2.2.2.2.2.1
theorem LF.Kw{ds:List Int}{labels ends:List Str}{more:Int}{d:List Int}(S:LF ds labels ends more d):overOf (wantedOf more d)=overOf ds:=S.2.2.2.2.2.2.2.2.2.2.2.2.2.2.2.2
section
variable {Y:Cx}{A:Around}{k:Nat}{c:Cells}{L:Addr}{cdv:Value}{Φ:MF→Loc→Cells→Prop}
noncomputable def fBody:List Stmt:=match lSt 9 with | .For _ _ b _ _=>b | _=>[]
noncomputable abbrev fSt (j:Nat):Stmt:=fBody.getD j default
theorem qa(xs ys:List Str):(((zipItems (Sz xs) (Sz ys)).filter fun Z=>true).map fun v=>match v with | .tuple [.str e,.str r]=>V.str (e++r) | _=>.none)=Br (List.zipWith (·++·) xs ys):=by
 unfold zipItems Sz Br
 rw [List.filter_eq_self.mpr (fun Z Z=>rfl)]
 rw [List.map_zipWith];rw [List.map_zipWith];rw [List.zipWith_map]
noncomputable abbrev bL (ds:List Int) (labels ends:List Str) (more Ml Mh:Int):Loc:=[("heights",Hw ds Mh),("levels",FY ds Ml),("under",Cn ds),("rulers",.list ie),("more",.int more),("ends",.list (Sz ends)),("labels",.list (Sz labels))]
noncomputable abbrev dL (ds:List Int) (labels ends:List Str) (more Ml Mh:Int) (d:List Int):Loc:=("drawn",.list (Iz d))::bL ds labels ends more Ml Mh
theorem qC{ds d:List Int}{labels ends:List Str}{more:Int}(D:LF ds labels ends more d):∀ m∈d,0≤m∧m≤100:=fun m hm=>by have:=D.qQ m hm;lia
theorem xZ{ds d:List Int}{labels ends:List Str}{more Ml Mh:Int}(G:G2 Y)(D:LF ds labels ends more d)(hA:Rm Y A (k+3))(h:Φ .next (("arrived",.str (jw ends labels d))::dL ds labels ends more Ml Mh d) c):mS Y A (lEnv L cdv) (exec (fSt 0) (lEnv L cdv)) Φ (dL ds labels ends more Ml Mh d) c:=by
 have e0:(Str.ofString "").length=0:=by decide +kernel
 refine aq (.inl (by kernel_rfl)) (aH (bf (sP F.slot_str_join F.type_str_join ⟨trivial,af (aZ ⟨by rfl,by decide +kernel,by kernel_rfl⟩ (iR.pair hA.hh ⟨by rfl,by decide +kernel,by kernel_rfl⟩ rfl (.inl (by decide +kernel)) (.inl (by decide +kernel))) hA.hh ?_)⟩)))
 refine BN hA.hh (by kernel_rfl) G.zip (m_var (mv:=.list (Sz ends)) (by kernel_rfl) (iDPP _ rfl (aA (by kernel_rfl) G.te (b9.keeps G.jY) (af (m_var (mv:=.list (Iz d)) (by kernel_rfl) (af (m_var (mv:=.list (Sz labels)) (by kernel_rfl) (a_nil (qx (k:=k+2) G hA (qC D) D.Dw (iDPP _ rfl ?_) (by have:=D.len;lia))))))))))
 have sy:(ar d labels).length≤100:=by unfold ar;rw [List.length_zipWith];have:=D.len;lia
 refine ⟨fun v hv=>?_,aM (fun Z=>true) (fun v=>match v with | .tuple [.str e,.str r]=>.str (e++r) | _=>.none) ?_ (lc:=[]) (by kernel_rfl) (fun L' cs j v hj=>?_) ?_⟩
 ·(refine ba (List.getElem?_of_mem hv) ?_;intro i hi)
  obtain ⟨x,y,-,-,rfl⟩:=zipItems_get hi
  exact (fV _ _ rfl)
 ·unfold zipItems;rw [List.length_zipWith];simp only [Sz,List.length_map];exact ah (by lia)
 ·(refine xDDPPP (zipItems_get hj) ?_;intro x y hx hy aV;subst aV)
  (refine xDPP (rR hx) ?_;intro e he bj;subst bj)
  (refine xDPP (rR hy) ?_;intro r hr bH;subst bH)
  have l1:=D.Hx e (List.mem_of_getElem? he)
  have l2:r.length≤1000:=by
   unfold ar at hr
   rw [List.getElem?_zipWith] at hr
   cases hm:d[j]? with
   | none=>rw [hm] at hr;cases hr
   | some m =>
    cases hq:labels[j]? with
    | none=>rw [hm,hq] at hr;cases hr
    | some q =>
     rw [hm,hq] at hr
     cases hr
     have b1:=qC D m (List.mem_of_getElem? hm)
     have b2:=D.Dw q (List.mem_of_getElem? hq)
     show (oE m++q).length≤1000
     rw [strLen_append,gD];lia
  refine cN (aO rfl rfl rfl (fun Z=>bh (m_var (mv:=.str e) (by kernel_rfl) (m_var (mv:=.str r) (by kernel_rfl) (rl (ah (by lia)) ⟨rfl,rfl,rfl⟩)))))
 ·refine a_nil ?_
  rw [qa]
  refine z6 ?_ h
  rw [e0]
  have:=D.z1
  lia
theorem Dy{ds d:List Int}{labels ends:List Str}{more Ml Mh:Int}(G:G2 Y)(D:LF ds labels ends more d)(hA:Rm Y A (k+3))(h:∀ l',Sub (("arrived",.str (bD labels (wantedOf more d)))::dL ds labels ends more Ml Mh d) l'→Φ .next l' c):mS Y A (lEnv L cdv) (exec (fSt 1) (lEnv L cdv)) Φ (("arrived",.str (jw ends labels d))::dL ds labels ends more Ml Mh d) c:=by
 (refine aK D.mr ?_;intro m0 m1)
 obtain ⟨n,hn⟩:∃ n:Nat,more=n:=(bA more.toNat (by lia))
 refine cH (bind:=fun v l=>("turn",v)::l) (bN (aA (by kernel_rfl) G.range trivial (af (m_var (mv:=.int more) (by kernel_rfl) (a_nil (dz ?_))))))
 rw [hn]
 refine ⟨_,kG (n:=n) hA.hh (by lia),?_⟩
 refine (cF (fun i=>("arrived",.str (fR i (jw ends labels d)))::dL ds labels ends more Ml Mh d) (fun i c'=>c'=c) (⟨by rw [hn];exact Sub.rfl,rfl⟩) (fun v hv=>cj (.inl (by kernel_rfl))) (fun v hv l l' hs=>Sub.cons hs) (fun i v c' hv hc=>?_) (fun l c' hl hc=>?_))
 ·subst hc
  (refine aK (dA hv) ?_;intro hi cw;subst cw)
  refine aa (aq (.inl (by kernel_rfl)) (aA (by kernel_rfl) G.C9 (b9.keeps G.quot) (af (m_var (mv:=.str (fR i (jw ends labels d))) (by kernel_rfl) (a_nil (Bb (k:=k+2) G hA (D.zT i (by lia)) (aD ⟨?_,rfl⟩)))))))
  exact Sub.put (by kernel_rfl) (Sub.put (by kernel_rfl) (Sub.put (by kernel_rfl) (Sub.put (by kernel_rfl) (Sub.put (by kernel_rfl) (Sub.put (by kernel_rfl) (Sub.put (by kernel_rfl) (Sub.put (by kernel_rfl) (Sub.put (by kernel_rfl) Sub.nil))))))))
 ·subst hc
  rw [bC] at hl
  refine h l ?_
  have e:more.toNat=n:=by lia
  rw [← D.Dx,e]
  exact hl
theorem x9(more:Int)(d:List Int):V.list (((Iz d).filter fun Z=>true).map fun v=>match v with | .int m=>V.int (if m≠0 then m+more else 0) | _=>.none)=.list (Iz (wantedOf more d)):=by
 unfold wantedOf Iz
 rw [List.filter_eq_self.mpr (fun Z Z=>rfl)]
 first | rfl | (rw [List.map_map];rfl) | (simp only [List.map_map];rfl)
theorem Ad{ds d:List Int}{labels ends:List Str}{more Ml Mh:Int}{x:Str}(hA:Rm Y A (k+3))(hz:d.length≤100)(h:Φ .next (("wanted",.list (Iz (wantedOf more d)))::("arrived",.str x)::dL ds labels ends more Ml Mh d) c):mS Y A (lEnv L cdv) (exec (fSt 2) (lEnv L cdv)) Φ (("arrived",.str x)::dL ds labels ends more Ml Mh d) c:=by
 refine de ⟨by rfl,by decide +kernel,by kernel_rfl⟩ (iR.name ⟨by rfl,by decide +kernel,by kernel_rfl⟩ rfl (.inl (by decide +kernel))) (by kernel_rfl) hA.hh (by rfl) ?_
 refine bN (m_var (mv:=.list (Iz d)) (by kernel_rfl) (bq _ (bZ hA.hh) (fun Z Z=>trivial) ?_))
 refine aM (fun Z=>true) (fun v=>match v with | .int m=>V.int (if m≠0 then m+more else 0) | _=>.none) (by rw [ai];exact ah (by lia)) (lc:=[("more",.int more)]) (by kernel_rfl) (fun L' cs j v hj=>?_) ?_
 ·(refine xDPP (dO hj) ?_;intro m hm cR;subst cR)
  refine cN (aO rfl rfl rfl (fun Z=>ny (gK (m_var (mv:=.int m) (by kernel_rfl) (Ej ?_)))))
  by_cases q:m=0
  ·subst q
   refine du rfl (m_int ⟨?_,rfl,rfl⟩)
   show V.int 0=V.int (if (0:Int)≠0 then _ else _)
   rw [if_neg (by exact not_not_intro rfl)]
  ·refine dQ (by exact bi_ine.mpr q) (bh (m_var (mv:=.int m) (by kernel_rfl) (m_var (mv:=.int more) (by kernel_rfl) (eD ⟨?_,rfl,rfl⟩))))
   show V.int (m+more)=V.int (if m≠0 then _ else _)
   rw [if_pos q]
 ·rw [x9];exact h
end
end L2
namespace L2
structure ya(l:Str):Prop where
 ne:tl l≠[]
 plain:Plain (tl l)
 Co:∀ r,tl l≠46::r
theorem dR(m:Int)(l:Str):tl (bu m l)=List.replicate m.toNat 46++tl l:=by
 unfold bu;rw [rU];rfl
theorem Dz{m:Int}{l:Str}(h:ya l):tl (bu m l)≠[]∧Plain (tl (bu m l)):=by
 rw [dR]
 refine ⟨fun e=>h.ne (List.append_eq_nil_iff.mp e).2,fun c hc=>?_⟩
 rcases List.mem_append.mp hc with q | q
 ·rw [List.eq_of_mem_replicate q];decide
 ·exact h.plain c q
theorem DA{m:Int}{l:Str}(h:ya l)(h0:0≤m):dd (tl (bu m l))=tl (bu (if m≠0 then m+1 else 0) l):=by
 rw [dR,dR]
 by_cases q:m=0
 ·rw [q,if_neg (by exact not_not_intro rfl)]
  show dd (tl l)=tl l
  cases e:tl l with
  | nil=>rfl
  | cons c r =>
   rw [tw]
   intro ec
   rw [ec] at e
   exact h.Co r e
 ·rw [if_pos q]
  obtain ⟨n,hn⟩:∃ n:Nat,m.toNat=n+1:=(bA (m.toNat - 1) (by lia))
  rw [hn,show (m+1).toNat=n+2 by lia,List.replicate_succ,List.cons_append,zz];rfl
theorem tS{d:List Int}{ls:List Str}{r:Str}(h:r∈ar d ls):∃ m l,m∈d∧l∈ls∧r=bu m l:=by
 unfold ar at h
 (refine ba (List.getElem?_of_mem h) ?_;intro i hi)
 rw [List.getElem?_zipWith] at hi
 cases hm:d[i]? with
 | none=>rw [hm] at hi;cases hi
 | some m =>
  cases hq:ls[i]? with
  | none=>rw [hm,hq] at hi;cases hi
  | some q=>rw [hm,hq] at hi;cases hi;exact (iDDPPP m q (List.mem_of_getElem? hm) (List.mem_of_getElem? hq) rfl)
theorem k9{d:List Int}{ls:List Str}(hl:∀ l∈ls,ya l):∀ r∈(ar d ls).map tl,r≠[]∧Plain r:=fun r hr=>by
 (refine xDPP (List.mem_map.mp hr) ?_;intro x hx aV;subst aV)
 (refine xDDPPP (tS hx) ?_;intro m l Z h2 bj;subst bj)
 exact Dz (hl l h2)
theorem gm(ls:List Str)(w:List Int):tl (bD ls w)=jn [13,10] ((ar w ls).map tl):=by
 unfold bD;rw [wd,rV]
theorem wD{ls:List Str}(hl:∀ l∈ls,ya l):∀ {w:List Int},(∀ m∈w,0≤m)→((ar w ls).map tl).map dd=(ar (wantedOf 1 w) ls).map tl:=by
 induction ls with
 | nil=>intro w Z;simp [ar]
 | cons l ls ih =>
  intro w hw
  cases w with
  | nil=>simp [ar,wantedOf]
  | cons m w =>
   have i:=ih (fun x hx=>hl x (.tail _ hx)) (w:=w) fun x hx=>hw x (.tail _ hx)
   show dd (tl (bu m l))::((ar w ls).map tl).map dd=tl (bu (if m≠0 then m+1 else 0) l)::(ar (wantedOf 1 w) ls).map tl
   rw [i,DA (hl l (.head _)) (hw m (.head _))]
theorem vh{ls:List Str}{w:List Int}(hl:∀ l∈ls,ya l)(hw:∀ m∈w,0≤m):quote (bD ls w)=bD ls (wantedOf 1 w):=by
 apply u4
 rw [tu,gm,zB (k9 hl),zC (k9 hl),wD hl hw,gm]
theorem Ae:∀ (es rs:List Str),fl (List.zipWith (·++·) es rs)=(List.zipWith (·++·) (es.map tl) (rs.map tl)).flatten
 | [],rs=>by simp [fl]
 | e::es,[]=>by simp [fl]
 | e::es,r::rs=>by
  have:=Ae es rs
  unfold fl at this ⊢
  rw [List.zipWith_cons_cons,List.flatMap_cons,this,rU];rfl
theorem yb{es ls:List Str}{d:List Int}(hl:∀ l∈ls,ya l)(he:∀ e∈es,mI (tl e))(h1:ls.length=es.length+1)(h2:d.length=es.length+1):cO (tl (jw (Str.ofString ""::es) ls d))=tl (bD ls d):=by
 unfold jw
 rw [oJ,Ae,gm]
 have e0:tl (Str.ofString "")=[]:=by decide +kernel
 have hd:(ar d ls).length=es.length+1:=by unfold ar;rw [List.length_zipWith];lia
 have hr:=k9 (d:=d) hl
 cases hq:ar d ls with
 | nil=>rw [hq] at hd;simp at hd
 | cons r rs =>
  rw [hq] at hd hr
  rw [List.map_cons,List.map_cons,List.zipWith_cons_cons,List.flatten_cons,e0,List.nil_append,d8 (hr _ (.head _)).2,eR]
  rw [ka _ _ (by simpa using hd.symm) (fun e h=>by
   (refine xDPP (List.mem_map.mp h) ?_;intro x hx bH;subst bH)
   exact he x hx) fun x hx=>hr x (.tail _ hx)]
theorem vi{es ls:List Str}{d:List Int}(hl:∀ l∈ls,ya l)(he:∀ e∈es,mI (tl e))(h1:ls.length=es.length+1)(h2:d.length=es.length+1)(hd:∀ m∈d,0≤m):quote (jw (Str.ofString ""::es) ls d)=bD ls (wantedOf 1 d):=by
 apply u4
 rw [tu,yb hl he h1 h2,gm,zC (k9 hl),wD hl hd,gm]
theorem tT{d:List Int}(hd:∀ m∈d,0≤m)(j:Nat):wantedOf 1 (wantedOf ((j:Int)+1) d)=wantedOf (((j+1:Nat):Int)+1) d:=by
 unfold wantedOf
 rw [List.map_map]
 refine List.map_congr_left fun m hm=>?_
 have:=hd m hm
 show (if (if m≠0 then m+((j:Int)+1) else 0)≠0 then (if m≠0 then m+((j:Int)+1) else 0)+1 else 0)=_
 by_cases q:m=0
 ·rw [q];simp
 ·rw [if_pos q,if_pos (by lia),if_pos q];exact Int.add_assoc m (↑j+1) 1
theorem qb{d:List Int}(hd:∀ m∈d,0≤m){j:Int}(hj:0≤j):∀ m∈wantedOf j d,0≤m:=fun x hx=>by
 unfold wantedOf at hx
 (refine xDPP (List.mem_map.mp hx) ?_;intro m hm cw;subst cw)
 have:=hd m hm
 split <;> lia
theorem mM{es ls:List Str}{d:List Int}(hl:∀ l∈ls,ya l)(he:∀ e∈es,mI (tl e))(h1:ls.length=es.length+1)(h2:d.length=es.length+1)(hd:∀ m∈d,0≤m):∀ j:Nat,fR (j+1) (jw (Str.ofString ""::es) ls d)=bD ls (wantedOf ((j:Int)+1) d)
 | 0=>vi hl he h1 h2 hd
 | j+1=>by
  show quote (fR (j+1) _)=_
  rw [mM hl he h1 h2 hd j,vh hl (qb hd (by exact Int.zero_le_ofNat (j+1))),tT hd]
theorem DB{B:Nat}:∀ (rs:List (List Nat)),(∀ r∈rs,r.length≤B)→(jn [13,10] rs).length≤rs.length * (B+2)
 | [],_=>Nat.zero_le _
 | r::rs,h=>by
  rw [eR,List.length_append]
  have:∀ (q:List (List Nat)),(∀ r∈q,r.length≤B)→(q.flatMap ([13,10]++·)).length≤q.length * (B+2):=by
   intro q
   induction q with
   | nil=>intro Z;simp
   | cons x q ih =>
    intro h
    rewrite [List.flatMap_cons,List.length_append,List.length_cons,Nat.succ_mul]
    have:=h x (.head _)
    have:=ih fun y hy=>h y (.tail _ hy)
    have:([13,10]++x).length=x.length+2:=by exact Eq.symm (Nat.add_succ x.length 1)
    lia
  have h1:=this rs fun y hy=>h y (.tail _ hy)
  have h2:=h r (.head _)
  rw [List.length_cons,Nat.succ_mul];lia
theorem vj{B:Nat}:∀ (xs:List Nat),(∀ x∈xs,x≤B)→xs.sum≤xs.length * B
 | [],_=>by simp
 | x::xs,h=>by
  have:=vj xs fun y hy=>h y (.tail _ hy)
  have:=h x (.head _)
  rw [List.sum_cons,List.length_cons,Nat.succ_mul];lia
open PySem.StrLaws Builtin.Str in
theorem vm(x:Str)(k:Nat):At x (Str.ofString "\r\n") x.length k↔∃ t,(tl x).drop k=13::10::t:=by
 have e2:(Str.ofString "\r\n").length=2:=by decide +kernel
 have e3:(Str.ofString "\r\n").cps.toList=[13,10]:=rV
 have el:(tl x).length=x.length:=hW x
 unfold At
 rw [subAt_eq,e2,e3]
 show _∧((tl x).drop k).take 2 == [13,10]↔_
 have hl:((tl x).drop k).length=x.length - k:=by rw [List.length_drop,el]
 constructor
 ·(intro cR;refine aK cR ?_;clear cR;intro h1 h2)
  have h2:=eq_of_beq h2
  revert h2
  rcases (tl x).drop k with _ | ⟨a,_ | ⟨b,t⟩⟩ <;> intro h2 <;> simp at h2
  exact (bA t (by rw [h2.1,h2.2]))
 ·(intro fu;refine ba fu ?_;clear fu;intro t ht)
  rw [ht] at hl ⊢
  simp at hl
  exact ⟨by lia,by simp⟩
open PySem.StrLaws Builtin.Str in
theorem o8(x:Str):∀ (rs:List (List Nat)) (r:List Nat) (a:Nat) (Af:List Nat) (f:Nat),ChainG x (Str.ofString "\r\n") x.length a Af f→(∀ k,f≤k→¬ At x (Str.ofString "\r\n") x.length k)→(∀ q∈r::rs,Plain q)→(tl x).drop a=jn [13,10] (r::rs)→(partsFrom x 2 a Af).map tl=r::rs
 | rs,r,a,Af,f,hc,hf,hp,hd=>by
  have e2:(Str.ofString "\r\n").length=2:=by decide +kernel
  have el:(tl x).length=x.length:=hW x
  have sub:∀ i j,tl (strSub x i j)=((tl x).drop i).take (j - i):=fun i j=>strSub_toList x i j
  have later:∀ c,a≤c→(tl x).drop c=((tl x).drop a).drop (c - a):=fun c h=>by rw [List.drop_drop];congr 1;exact Eq.symm (Nat.add_sub_of_le h)
  rw [eR] at hd
  have inside:∀ c,a≤c→c<a+r.length→¬ At x (Str.ofString "\r\n") x.length c:=fun c h1 h2 hA=>by
   (refine ba ((vm x c).mp hA) ?_;intro t ht)
   rw [later c h1,hd,List.drop_append_of_le_length (by lia)] at ht
   have h3:r.drop (c - a)≠[]:=by intro e;have:=congrArg List.length e;simp at this;lia
   cases hq:r.drop (c - a) with
   | nil=>exact h3 hq
   | cons y q =>
    rw [hq] at ht
    have hy:y=13:=(List.cons.inj ht).1
    have:y∈r:=List.mem_of_mem_drop (by rw [hq];exact .head _)
    exact (hp r (.head _) y this).2 hy
  cases rs with
  | nil =>
   rw [List.flatMap_nil,List.append_nil] at hd
   have EN:x.length - a=r.length:=by rw [← el,← List.length_drop,hd]
   have no:∀ c,a≤c→¬ At x (Str.ofString "\r\n") x.length c:=fun c h1 hA=>by
    by_cases h:c<a+r.length
    ·exact inside c h1 h hA
    ·(refine ba ((vm x c).mp hA) ?_;intro t ht)
     rw [later c h1,hd,List.drop_eq_nil_of_le (by lia)] at ht
     cases ht
   cases Af with
   | nil =>
    show [tl (strSub x a x.length)]=[r]
    rw [sub,hd,EN,List.take_length]
   | cons c q=>exact absurd hc.2.1 (no c hc.1)
  | cons r2 rs =>
   have hA:At x (Str.ofString "\r\n") x.length (a+r.length):=(vm x _).mpr (bA (r2++rs.flatMap ([13,10]++·))  (by
    rw [later _ (by exact Nat.le_add_right a r.length),hd,List.flatMap_cons,show a+r.length - a=r.length by exact Nat.add_sub_self_left a r.length,List.drop_append_of_le_length (Nat.le_refl _),List.drop_length];simp))
   cases Af with
   | nil =>
    have e:f=a:=hc
    exact absurd hA (hf _ (by exact Nat.le.intro (congrFun (congrArg HAdd.hAdd hc) r.length)))
   | cons c q =>
    (refine bM hc ?_;try clear hc;intro c1 c2 c3 c4)
    have ec:c=a+r.length:=by
     rcases Nat.lt_trichotomy c (a+r.length) with z | z | z
     ·exact absurd c2 (inside c c1 z)
     ·exact z
     ·exact absurd hA (c3 _ (by exact Nat.le_add_right a r.length) z)
    rw [e2] at c4
    have hd2:(tl x).drop (c+2)=jn [13,10] (r2::rs):=by
     rw [later _ (by exact Nat.le_add_right_of_le c1),hd,ec,show a+r.length+2 - a=r.length+2 by exact Eq.symm (Nat.eq_sub_of_add_eq' rfl),← List.drop_drop,List.drop_append_of_le_length (Nat.le_refl _),List.drop_length,eR,List.flatMap_cons];simp
    have ih:=o8 x rs r2 (c+2) q f c4 hf (fun y hy=>hp y (.tail _ hy)) hd2
    show tl (strSub x a c)::(partsFrom x 2 (c+2) q).map tl=_
    rw [ih,sub,hd,ec,show a+r.length - a=r.length by exact Nat.add_sub_self_left a r.length,List.take_append_of_le_length (Nat.le_refl _),List.take_length]
theorem o9:∀ {xs ys:List Str},xs.map tl=ys.map tl→xs=ys
 | [],[],_=>rfl
 | [],y::ys,h=>by simp at h
 | x::xs,[],h=>by simp at h
 | x::xs,y::ys,h=>by
  rw [List.map_cons,List.map_cons] at h
  rw [u4 (List.cons.inj h).1,o9 (List.cons.inj h).2]
open PySem.StrLaws Builtin.Str in
theorem vo{x:Str}{rows:List Str}(hr:∀ r∈rows.map tl,Plain r)(hn:rows≠[])(h:tl x=jn [13,10] (rows.map tl)) :
  partsBetween x (occurrences x (Str.ofString "\r\n") 0 x.length (x.length+1)) (Str.ofString "\r\n").length=rows:=by
 have e2:(Str.ofString "\r\n").length=2:=by decide +kernel
 (refine xDPP (occ_tight x (Str.ofString "\r\n") (by rw [e2];exact Nat.le_of_ble_eq_true rfl)) ?_;intro f h1 h2)
 rw [partsBetween_eq,e2]
 apply o9
 cases rows with
 | nil=>exact absurd rfl hn
 | cons r rs=>exact o8 x (rs.map tl) (tl r) 0 _ f h1 h2 hr (by rw [List.drop_zero];exact h)
end L2
namespace L2
noncomputable abbrev yc:Str:=pZ specs 46
noncomputable abbrev Ag:Str:=Str.ofString "["++(Str.ofString "^"++Txt.slice (Str.ofString "!.") (some 1) none)++Str.ofString "]"
theorem Ah(x:Str)(p c:Nat):(di x p == (⟨#[c]⟩:Str))=decide (x.cps.getD p 0=c):=by
 unfold di
 rw [Bool.eq_iff_iff,beq_iff_eq,decide_eq_true_iff]
 constructor
 ·intro h
  have h2:=congrArg (fun s:Str=>s.cps.toList) h
  simpa using h2
 ·intro h;rw [h]
theorem yd(row:Str)(p:Nat):dj row yc p=(decide (p<row.length)&&decide (row.cps.getD p 0=46)):=by
 unfold dj
 have h1:(di yc 0 == Str.ofString "[")=false:=by decide +kernel
 have h2:di yc (yc.length - 1)=⟨#[46]⟩:=by decide +kernel
 rw [h1,if_neg (by exact Bool.false_ne_true),h2,Ah]
theorem ye(row:Str)(p:Nat):dj row Ag p=(decide (p<row.length)&&!decide (row.cps.getD p 0=46)):=by
 unfold dj
 have h1:(di Ag 0 == Str.ofString "[")=true:=by decide +kernel
 have h2:j7 Ag=true:=by decide +kernel
 have h3:membersOf Ag=⟨#[46]⟩:=by decide +kernel
 rw [h1,if_pos rfl,h2,h3]
 congr 1
 have h4:Txt.contains (⟨#[46]⟩:Str) (di row p)=decide (row.cps.getD p 0∈(#[46]:Array Nat).toList):=PySem.StrLaws.found_one ⟨#[46]⟩ (row.cps.getD p 0)
 rw [h4]
 by_cases q:row.cps.getD p 0=46
 ·rw [q];rfl
 ·have:row.cps.getD p 0 ∉ (#[46]:Array Nat).toList:=by exact notIn_one q
  rw [decide_eq_false this,decide_eq_false q];rfl
theorem wF{w p:Nat}{l:Str}(h:p<w):(bu (w:Int) l).cps.getD p 0=46:=by
 have e:=dR (w:Int) l
 rw [Int.toNat_natCast] at e
 have:(tl (bu (w:Int) l))[p]?=some 46:=by
  rw [e,List.getElem?_append_left (by simpa using h),List.getElem?_replicate,if_pos h]
 unfold tl at this
 rw [Array.getD_eq_getD_getElem?,← Array.getElem?_toList,this];rfl
theorem tU{w:Nat}{l:Str}(h:ya l):(bu (w:Int) l).cps.getD w 0≠46:=by
 have e:=dR (w:Int) l
 rw [Int.toNat_natCast] at e
 have:(tl (bu (w:Int) l))[w]?=(tl l)[0]?:=by
  rw [e,List.getElem?_append_right (by simp)];simp
 unfold tl at this
 rw [Array.getD_eq_getD_getElem?,← Array.getElem?_toList,this]
 show ((tl l)[0]?).getD 0≠46
 cases q:tl l with
 | nil=>exact absurd q h.ne
 | cons c r =>
  intro e
  have e:c=46:=e
  rw [e] at q
  exact h.Co r q
theorem Bu{w:Nat}{l:Str}(h:ya l):w<(bu (w:Int) l).length:=by
 have:=hW (bu (w:Int) l)
 rw [dR,List.length_append,List.length_replicate,Int.toNat_natCast] at this
 have h1:(tl l).length≠0:=fun e=>h.ne (List.length_eq_zero_iff.mp e)
 lia
theorem yf{w m:Nat}{l:Str}(h:ya l):cV (dk m) (bu (w:Int) l)=decide (m=w):=by
 have hl:=Bu (w:=w) h
 have Hy:∀ m,(List.replicate m (some yc)).foldl (a6 (bu (w:Int) l)) [0]=if m≤w then [m] else []:=by
  intro m
  induction m with
  | zero=>rw [if_pos (Nat.zero_le _)];rfl
  | succ m ih =>
   rw [List.replicate_succ',List.foldl_append,ih]
   by_cases q:m≤w
   ·rw [if_pos q]
    show ([m].filter (dj (bu (w:Int) l) yc)).map (·+1)=_
    rw [List.filter_cons,yd,decide_eq_true (by exact Nat.lt_of_le_of_lt q hl:m<(bu (w:Int) l).length),Bool.true_and]
    by_cases q2:m<w
    ·rw [decide_eq_true (wF q2),if_pos rfl,if_pos (by exact Nat.succ_le_of_lt q2)];rfl
    ·have:m=w:=by lia
     subst this
     rw [decide_eq_false (tU h),if_neg (by exact Bool.false_ne_true),if_neg (by exact Nat.not_succ_le_self m)];rfl
   ·rw [if_neg q,if_neg (by lia)];rfl
 unfold cV dk
 rw [List.foldl_append,Hy]
 by_cases q:m≤w
 ·rw [if_pos q]
  show (a6 _ (([m].filter (dj (bu (w:Int) l) Ag)).map (·+1)) none).any _=_
  rw [List.filter_cons,ye,decide_eq_true (by exact Nat.lt_of_le_of_lt q hl:m<(bu (w:Int) l).length),Bool.true_and]
  by_cases q2:m<w
  ·rw [decide_eq_true (wF q2),if_neg (by exact Bool.not_not_eq.mpr rfl),decide_eq_false (by exact Nat.ne_of_lt q2)];rfl
  ·have:m=w:=by lia
   subst this
   rw [decide_eq_false (tU h),if_pos (by rfl:(!false)=true),decide_eq_true rfl]
   show (((List.range ((bu (m:Int) l).length+1 - (m+1))).map (m+1+·)).any _)=true
   rw [List.any_eq_true]
   refine (iDPP ((bu (m:Int) l).length) (List.mem_map.mpr (iDPP ((bu (m:Int) l).length - (m+1)) (List.mem_range.mpr (by lia)) (by exact Nat.add_sub_of_le hl))) (by exact ReflBEq.rfl))
 ·rw [if_neg q,decide_eq_false (by lia)];rfl
end L2
namespace L2
section
variable {Y:Cx}{A:Around}{k:Nat}{c:Cells}{L:Addr}{cdv:Value}{Φ:MF→Loc→Cells→Prop}
theorem vp{ds d:List Int}{labels ends:List Str}{more:Int}(D:LF ds labels ends more d):∀ m∈wantedOf more d,0≤m∧m≤100:=by
 intro w hw
 unfold wantedOf at hw
 (refine xDPP (List.mem_map.mp hw) ?_;intro m hm aV;subst aV)
 have:=D.qQ m hm
 have:=D.mr
 split <;> lia
theorem cD(more:Int)(d:List Int):(wantedOf more d).length=d.length:=by exact Eq.symm (len_of_map_eq rfl)
theorem i8{ds d:List Int}{labels ends:List Str}{more:Int}(D:LF ds labels ends more d):(ar (wantedOf more d) labels).length=d.length:=by
 unfold ar;rw [List.length_zipWith,cD,D.Fi];exact Nat.min_self d.length
noncomputable abbrev wL (ds:List Int) (labels ends:List Str) (more Ml Mh:Int) (d:List Int):Loc:=("wanted",.list (Iz (wantedOf more d)))::("arrived",.str (bD labels (wantedOf more d)))::dL ds labels ends more Ml Mh d
theorem DC{ds d:List Int}{labels ends:List Str}{more Ml Mh:Int}(G:G2 Y)(D:LF ds labels ends more d)(hA:Rm Y A (k+3))(h:Φ .next (wL ds labels ends more Ml Mh d) c):mS Y A (lEnv L cdv) (exec (fSt 3) (lEnv L cdv)) Φ (wL ds labels ends more Ml Mh d) c:=by
 have e2:(Str.ofString "\r\n").length=2:=by decide +kernel
 have hlen:=D.len
 have sy:=i8 D
 refine cG (aT (m_var (mv:=.str (bD labels (wantedOf more d))) (by kernel_rfl) (aH (bf (sP F.slot_str_join F.type_str_join ⟨trivial,af (aA (by kernel_rfl) G.te (b9.keeps G.jY) (af (m_var (mv:=.list (Iz (wantedOf more d))) (by kernel_rfl) (af (m_var (mv:=.list (Sz labels)) (by kernel_rfl) (a_nil (qx (k:=k+2) G hA (vp D) D.Dw (a_nil (z6 ?_ (BQ (aC (du ?_ (aD h)))))) (by rw [cD];lia))))))))⟩)))))
 ·rw [e2,sy];have:=D.z2;lia
 ·show (bD labels (wantedOf more d) != bD labels (wantedOf more d))=false
  simp
noncomputable def eU (row:Str):List Int:=((List.range 8).filter fun m=>cV (dk m) row).map fun (m:Nat)=>(m:Int)
theorem vq(row:Str):V.list (((nats 8).filter fun v=>match v with | .int m=>cV (dk m.toNat) row | _=>false).map id)=.list (Iz (eU row)):=by
 unfold eU nats Iz
 rw [List.filter_map,List.map_id]
 first | rfl | (rw [List.map_map];rfl) | (simp only [List.map_map];rfl)
theorem Ai(rows:List Str):V.list (((Sz rows).filter fun Z=>true).map fun v=>match v with | .str row=>V.list (Iz (eU row)) | _=>.none)=.list (dE (rows.map eU)):=by
 unfold Sz dE
 rw [List.filter_eq_self.mpr (fun Z Z=>rfl)]
 first | rfl | (rw [List.map_map];rfl) | (simp only [List.map_map];rfl)
theorem Aj:∀ m q,some q∈dk m→1≤q.length∧q.length≤1000∧(di q 0=Str.ofString "["→2≤q.length):=by
 intro m q h
 unfold dk at h
 rcases List.mem_append.mp h with h | h
 ·have:=List.eq_of_mem_replicate h
  cases this
  decide +kernel
 ·simp only [List.mem_cons,Option.some.injEq,reduceCtorEq,List.not_mem_nil,or_false] at h
  subst h
  decide +kernel
theorem Bv{ds d:List Int}{labels ends:List Str}{more Ml Mh:Int}(G:G2 Y)(D:LF ds labels ends more d)(hA:Rm Y A (k+3))(h:Φ .next (("found",.list (dE ((ar (wantedOf more d) labels).map eU)))::wL ds labels ends more Ml Mh d) c):mS Y A (lEnv L cdv) (exec (fSt 4) (lEnv L cdv)) Φ (wL ds labels ends more Ml Mh d) c:=by
 have sy:=i8 D
 have hlen:=D.len
 refine de ⟨by rfl,by decide +kernel,by kernel_rfl⟩ (iR.name ⟨by rfl,by decide +kernel,by kernel_rfl⟩ rfl (.inr (by decide +kernel))) (by kernel_rfl) hA.hh (by rfl) ?_
 refine bN (aH (m_var (mv:=.str (bD labels (wantedOf more d))) (by kernel_rfl) (sP F.slot_str_split F.type_str_split ⟨trivial,af (bf (a_nil (Bs D.Kt (by decide +kernel) D.Ku (ah (by have:=D.zw;lia)) D.Kv (by rw [sy];exact ah (by lia)) ?_)))⟩)))
 refine (bq _ (bZ hA.hh) (fun Z Z=>trivial) ?_)
 refine aM (fun Z=>true) (fun v=>match v with | .str row=>V.list (Iz (eU row)) | _=>.none) (by rw [Br,List.length_map,sy];exact ah (by lia)) (lc:=[("rulers",.list ie)]) (by kernel_rfl) (fun L' cs j v hj=>?_) ?_
 ·(refine xDPP (rR hj) ?_;intro row Fj bj;subst bj)
  have hw:j<(wantedOf more d).length:=by
   have:=(List.getElem?_eq_some_iff.mp Fj).1
   rw [sy] at this;rw [cD];exact this
  (refine bM (D.tk j row _ Fj (List.getElem?_eq_getElem hw)) ?_;intro t1 t2 t3 t4)
  refine cN (aO rfl rfl rfl (fun Z=>?_))
  refine aZ ⟨by rfl,by decide +kernel,by kernel_rfl⟩ (iR.name ⟨by rfl,by decide +kernel,by kernel_rfl⟩ rfl (.inl (by decide +kernel))) hA.hh ?_
  refine bN (aA (by kernel_rfl) G.range trivial (af (m_int (a_nil (dz (bq _ (kG (n:=8) hA.hh (by lia)) (fun Z Z=>trivial) ?_))))))
  refine aM (fun v=>match v with | .int m=>cV (dk m.toNat) row | _=>false) id (by rw [bC];exact ah (by decide)) (lc:=[("row",.str row),("rulers",.list ie)]) (by kernel_rfl) (fun Il Im i v hi=>?_) ?_
  ·(refine aK (dA hi) ?_;intro Kx bH;subst bH)
   have hx:ie[i]?=some (.list (jJ (dk i))):=by
    unfold ie
    rw [List.getElem?_map,List.getElem?_range Kx,xY];rfl
   refine jU (gK (aA (by kernel_rfl) G.A8 (b9.keeps G.takes) (af (m_item (m_var (mv:=.list ie) (by kernel_rfl) (m_var (mv:=.int i) (by kernel_rfl) (iS hx (by decide) (af (m_var (mv:=.str row) (by kernel_rfl) (a_nil (zm (k:=k+1) G hA (Aj i) (aC ?_) t1)))))))))))
   exact (aO rfl rfl rfl (fun Z=>m_var (mv:=.int i) (by kernel_rfl) ⟨rfl,rfl,rfl⟩))
  ·exact ⟨vq row,rfl,rfl⟩
 ·show Φ _ _ _
  rw [show (Br (ar (wantedOf more d) labels))=Sz (ar (wantedOf more d) labels) from rfl,Ai]
  exact h
end
end L2
namespace L2
theorem pb(a b:List Int):gy 1 (.list (Iz a)) (.list (Iz b)) (@BEq.beq (List Int) instBEqOfDecidableEq a b):=by
 have e:(@BEq.beq (List Int) instBEqOfDecidableEq a b)=(a == b):=by rw [Bool.eq_iff_iff];simp
 rw [e];exact gy.ints 0 a b
theorem yg(a b:List Int):gy 1 (.tuple (Iz a)) (.tuple (Iz b)) (@BEq.beq (List Int) instBEqOfDecidableEq a b):=by
 have e:(@BEq.beq (List Int) instBEqOfDecidableEq a b)=(a == b):=by rw [Bool.eq_iff_iff];simp
 rw [e];exact gy.GH (fun a b=>.int a b) a b
section
variable {Y:Cx}{A:Around}{k:Nat}{c:Cells}{L:Addr}{cdv:Value}{Φ:MF→Loc→Cells→Prop}
theorem tV{row:Str}{w:Int}(h0:0≤w)(h8:w<8)(h:∀ m:Nat,m<8→cV (dk m) row=((m:Int) == w)):eU row=[w]:=by
 (refine ba (Int.eq_ofNat_of_zero_le h0) ?_;intro n aV;subst aV)
 unfold eU
 have e:(List.range 8).filter (fun m=>cV (dk m) row)=(List.range 8).filter fun m=>m == n:=by
  refine List.filter_congr fun m hm=>?_
  rw [h m (List.mem_range.mp hm)]
  cases q:(m == n) with
  | true=>rw [eq_of_beq q];exact beq_self_eq_true _
  | false =>
   have:m≠n:=fun z=>by rw [z,beq_self_eq_true] at q;cases q
   exact beq_eq_false_iff_ne.mpr fun z=>this (by exact Int.ofNat_inj.mp z)
 rw [e]
 have hn:n<8:=by exact Int.ofNat_lt.mp h8
 rw [(by decide +kernel:∀ n,n<8→((List.range 8).filter fun m=>m == n)=[n]) n hn]
 rfl
theorem yh{ds d:List Int}{labels ends:List Str}{more:Int}(D:LF ds labels ends more d):(ar (wantedOf more d) labels).map eU=(wantedOf more d).map fun w=>[w]:=by
 have sy:=i8 D
 refine List.ext_getElem? fun j=>?_
 rw [List.getElem?_map,List.getElem?_map]
 by_cases hj:j<d.length
 ·have h1:j<(ar (wantedOf more d) labels).length:=by exact Nat.lt_of_lt_of_eq hj (id (Eq.symm sy))
  have h2:j<(wantedOf more d).length:=by rw [cD];exact hj
  rw [List.getElem?_eq_getElem h1,List.getElem?_eq_getElem h2]
  (refine bM (D.tk j _ _ (List.getElem?_eq_getElem h1) (List.getElem?_eq_getElem h2)) ?_;intro t1 t2 t3 t4)
  simp only [Option.map_some]
  rw [tV t2 t3 t4]
 ·rw [List.getElem?_eq_none (by lia),List.getElem?_eq_none (by rw [cD];exact Nat.le_of_not_lt hj)];rfl
theorem Bw(w:List Int):V.list (((Iz w).filter fun Z=>true).map fun v=>match v with | .int m=>V.list (Iz [m]) | _=>.none)=.list (dE (w.map fun m=>[m])):=by
 unfold dE Iz
 rw [List.filter_eq_self.mpr (fun Z Z=>rfl)]
 first | rfl | (rw [List.map_map];rfl) | (simp only [List.map_map];rfl)
theorem Ak(w:List Int):V.list (((dE (w.map fun m=>[m])).filter fun Z=>true).map fun v=>match v with | .list (x::_)=>x | _=>.none)=.list (Iz w):=by
 unfold dE Iz
 rw [List.filter_eq_self.mpr (fun Z Z=>rfl)]
 first | rfl | (rw [List.map_map];rfl) | (simp only [List.map_map];rfl)
noncomputable abbrev fL (ds:List Int) (labels ends:List Str) (more Ml Mh:Int) (d:List Int):Loc:=("found",.list (dE ((wantedOf more d).map fun w=>[w])))::wL ds labels ends more Ml Mh d
theorem Bx{ds d:List Int}{labels ends:List Str}{more Ml Mh:Int}(G:G2 Y)(D:LF ds labels ends more d)(hA:Rm Y A (k+10))(h:Φ .next (fL ds labels ends more Ml Mh d) c):mS Y A (lEnv L cdv) (exec (fSt 5) (lEnv L cdv)) Φ (fL ds labels ends more Ml Mh d) c:=by
 have hlen:=D.len
 refine cG (aT (m_var (mv:=.list (dE ((wantedOf more d).map fun w=>[w]))) (by kernel_rfl) (aZ ⟨by rfl,by decide +kernel,by kernel_rfl⟩ (iR.name ⟨by rfl,by decide +kernel,by kernel_rfl⟩ rfl (.inl (by decide +kernel))) hA.hh ?_)))
 refine bN (m_var (mv:=.list (Iz (wantedOf more d))) (by kernel_rfl) (bq _ (bZ hA.hh) (fun Z Z=>trivial) ?_))
 refine aM (fun Z=>true) (fun v=>match v with | .int m=>V.list (Iz [m]) | _=>.none) (by rw [ai,cD];exact ah (by lia)) (lc:=[]) (by kernel_rfl) (fun L' cs j v hj=>?_) ?_
 ·(refine xDPP (dO hj) ?_;intro m hm bj;subst bj)
  exact cN (aO rfl rfl rfl (fun Z=>gx (af (m_var (mv:=.int m) (by kernel_rfl) (a_nil (aO (ah (by show 1≤_;decide)) rfl rfl rfl))))))
 ·rw [Bw]
  refine vR (n:=2) (gy.map (f:=fun x=>V.list (Iz x)) pb _ _) (by have:=hA.un;lia) (aC (du ?_ (aD h)))
  simp
theorem DD{ds d:List Int}{labels ends:List Str}{more Ml Mh:Int}(G:G2 Y)(D:LF ds labels ends more d)(hA:Rm Y A (k+10))(h:Φ .next (("over",.list (dE (overOf ds)))::fL ds labels ends more Ml Mh d) c):mS Y A (lEnv L cdv) (exec (fSt 6) (lEnv L cdv)) Φ (fL ds labels ends more Ml Mh d) c:=by
 have hlen:=D.len
 refine aq (.inl (by kernel_rfl)) (aA (by kernel_rfl) G.rM (b9.keeps G.over) (af (aZ ⟨by rfl,by decide +kernel,by kernel_rfl⟩ (iR.name ⟨by rfl,by decide +kernel,by kernel_rfl⟩ rfl (.inl (by decide +kernel))) hA.hh ?_)))
 refine bN (m_var (mv:=.list (dE ((wantedOf more d).map fun w=>[w]))) (by kernel_rfl) (bq _ (bZ hA.hh) (fun Z Z=>trivial) ?_))
 refine aM (fun Z=>true) (fun v=>match v with | .list (x::_)=>x | _=>.none) (by rw [bF,List.length_map,cD];exact ah (by lia)) (lc:=[]) (by kernel_rfl) (fun L' cs j v hj=>?_) ?_
 ·(refine xDPP (rN hj) ?_;intro x hx bH;subst bH)
  rw [List.getElem?_map,Option.map_eq_some_iff] at hx
  (refine xDPP hx ?_;try clear hx;intro m hm cw;subst cw)
  exact cN (aO rfl rfl rfl (fun Z=>m_item (m_var (mv:=.list (Iz [m])) (by kernel_rfl) (m_int (iS (j:=0) (x:=.int m) rfl (by show 1≤_;decide) ⟨rfl,rfl,rfl⟩)))))
 ·rw [Ak]
  refine a_nil (nG (k:=k+9) G hA ?_ (by rw [cD];lia))
  rw [D.Kw];exact h
end
end L2
namespace L2
noncomputable abbrev sig (needs:List (List Int)):TS:=TS.none.adds (aY needs)
noncomputable abbrev freeOf (needs:List (List Int)):List Int:=(sig needs).free (sig needs).nodes
noncomputable def fS (ds:List Int) (Ml:Int):List (Int×List Int):=(aw (ak (overOf ds)) Ml).flatMap fun ig=>ig.map fun p=>(p,(aj (overOf ds)).getD p.toNat [])
noncomputable def RF (ds:List Int) (Ml Mh:Int):Prop :=
 (zX (aY (overOf ds))) ∧
 (dg (sig (overOf ds)).su (sig (overOf ds)).nodes [] none) ∧
 (∃ n,kf n (sig (overOf ds)) (freeOf (overOf ds)) (aw (ak (overOf ds)) Ml)) ∧
 (∃ n,xT n ((sig (overOf ds)).outs (freeOf (overOf ds))) (freeOf (overOf ds)) (fS ds Ml)) ∧
 ((freeOf (overOf ds)).length≤900) ∧
 (zX (aY (aj (overOf ds)))) ∧
 (dg (sig (aj (overOf ds))).su (sig (aj (overOf ds))).nodes [] none) ∧
 (∃ n rs,kf n (sig (aj (overOf ds))) (freeOf (aj (overOf ds))) rs∧rs.map PySem.W.sortI=aw (aF (aj (overOf ds))) Mh∧rs.length≤1000∧∀ r∈rs,r.length<64) ∧
 ((aw (ak (overOf ds)) Ml).length≤1000) ∧
 (∀ ig∈aw (ak (overOf ds)) Ml,ig.length≤100∧∀ p∈ig,0≤p∧p<ds.length) ∧
 ((fS ds Ml).length≤1000) ∧
 ((aw (aF (aj (overOf ds))) Mh).length≤1000) ∧
 (∀ h∈aw (aF (aj (overOf ds))) Mh,h.length≤100)
theorem RF.of{ds:List Int}{Ml Mh:Int}(h:(zX (aY (overOf ds))) ∧
 (dg (sig (overOf ds)).su (sig (overOf ds)).nodes [] none) ∧
 (∃ n,kf n (sig (overOf ds)) (freeOf (overOf ds)) (aw (ak (overOf ds)) Ml)) ∧
 (∃ n,xT n ((sig (overOf ds)).outs (freeOf (overOf ds))) (freeOf (overOf ds)) (fS ds Ml)) ∧
 ((freeOf (overOf ds)).length≤900) ∧
 (zX (aY (aj (overOf ds)))) ∧
 (dg (sig (aj (overOf ds))).su (sig (aj (overOf ds))).nodes [] none) ∧
 (∃ n rs,kf n (sig (aj (overOf ds))) (freeOf (aj (overOf ds))) rs∧rs.map PySem.W.sortI=aw (aF (aj (overOf ds))) Mh∧rs.length≤1000∧∀ r∈rs,r.length<64) ∧
 ((aw (ak (overOf ds)) Ml).length≤1000) ∧
 (∀ ig∈aw (ak (overOf ds)) Ml,ig.length≤100∧∀ p∈ig,0≤p∧p<ds.length) ∧
 ((fS ds Ml).length≤1000) ∧
 ((aw (aF (aj (overOf ds))) Mh).length≤1000) ∧
 (∀ h∈aw (aF (aj (overOf ds))) Mh,h.length≤100)):RF ds Ml Mh:=h
theorem RF.g1{ds:List Int}{Ml Mh:Int}(S:RF ds Ml Mh):zX (aY (overOf ds)):=S.1
theorem RF.o1{ds:List Int}{Ml Mh:Int}(S:RF ds Ml Mh):dg (sig (overOf ds)).su (sig (overOf ds)).nodes [] none:=S.2.1
theorem RF.r1{ds:List Int}{Ml Mh:Int}(S:RF ds Ml Mh):∃ n,kf n (sig (overOf ds)) (freeOf (overOf ds)) (aw (ak (overOf ds)) Ml):=S.2.2.1
theorem RF.h1{ds:List Int}{Ml Mh:Int}(S:RF ds Ml Mh):∃ n,xT n ((sig (overOf ds)).outs (freeOf (overOf ds))) (freeOf (overOf ds)) (fS ds Ml):=S.2.2.2.1
theorem RF.f1{ds:List Int}{Ml Mh:Int}(S:RF ds Ml Mh):(freeOf (overOf ds)).length≤900:=S.2.2.2.2.1
theorem RF.g2{ds:List Int}{Ml Mh:Int}(S:RF ds Ml Mh):zX (aY (aj (overOf ds))):=S.2.2.2.2.2.1
theorem RF.o2{ds:List Int}{Ml Mh:Int}(S:RF ds Ml Mh):dg (sig (aj (overOf ds))).su (sig (aj (overOf ds))).nodes [] none:=S.2.2.2.2.2.2.1
theorem RF.r2{ds:List Int}{Ml Mh:Int}(S:RF ds Ml Mh):∃ n rs,kf n (sig (aj (overOf ds))) (freeOf (aj (overOf ds))) rs∧rs.map PySem.W.sortI=aw (aF (aj (overOf ds))) Mh∧rs.length≤1000∧∀ r∈rs,r.length<64:=S.2.2.2.2.2.2.2.1
theorem RF.z1{ds:List Int}{Ml Mh:Int}(S:RF ds Ml Mh):(aw (ak (overOf ds)) Ml).length≤1000:=S.2.2.2.2.2.2.2.2.1
theorem RF.z2{ds:List Int}{Ml Mh:Int}(S:RF ds Ml Mh):∀ ig∈aw (ak (overOf ds)) Ml,ig.length≤100∧∀ p∈ig,0≤p∧p<ds.length:=S.2.2.2.2.2.2.2.2.2.1
theorem RF.z3{ds:List Int}{Ml Mh:Int}(S:RF ds Ml Mh):(fS ds Ml).length≤1000:=S.2.2.2.2.2.2.2.2.2.2.1
theorem RF.z4{ds:List Int}{Ml Mh:Int}(S:RF ds Ml Mh):(aw (aF (aj (overOf ds))) Mh).length≤1000:=S.2.2.2.2.2.2.2.2.2.2.2.1
theorem RF.z5{ds:List Int}{Ml Mh:Int}(S:RF ds Ml Mh):∀ h∈aw (aF (aj (overOf ds))) Mh,h.length≤100:=S.2.2.2.2.2.2.2.2.2.2.2.2
section
variable {Y:Cx}{A:Around}{k:Nat}{c:Cells}{L:Addr}{cdv:Value}{Φ:MF→Loc→Cells→Prop}{E:SA}
noncomputable abbrev oL (ds:List Int) (labels ends:List Str) (more Ml Mh:Int) (d:List Int):Loc:=("over",.list (dE (overOf ds)))::fL ds labels ends more Ml Mh d
noncomputable abbrev gL (ds:List Int) (labels ends:List Str) (more Ml Mh:Int) (d:List Int):Loc:=("ring",.none)::("rounds",.list (lR (aw (ak (overOf ds)) Ml)))::oL ds labels ends more Ml Mh d
theorem Al{ds d:List Int}{labels ends:List Str}{more Ml Mh:Int}(G:G2 Y)(S:S2 E Y)(F:FF ds Ml Mh)(R:RF ds Ml Mh)(hA:Rm Y A (k+10))(hP:c bS=some .tab)(h:∀ c',c' bS=some .tab→Φ .next (gL ds labels ends more Ml Mh d) c'):mS Y A (lEnv L cdv) (exec (fSt 7) (lEnv L cdv)) Φ (oL ds labels ends more Ml Mh d) c:=by
 (refine ba R.r1 ?_;intro n R1)
 have hlen:=F.len
 exact jH hA.hh (.inl (by kernel_rfl)) (.inl (by kernel_rfl)) (aA (by kernel_rfl) G.td (b9.keeps G.rounds) (af (m_var (mv:=.list (dE (overOf ds))) (by kernel_rfl) (a_nil (aE.oX hP (qA (k:=k+3) G S hA R.g1 (by rw [ay];lia) R.o1 R1 R.z1 fun c' c2 Dv Z=>(eB _ _ rfl (h c2 Dv))))))))
theorem qc{ds d:List Int}{labels ends:List Str}{more Ml Mh:Int}(hA:Rm Y A (k+10))(h:Φ .next (gL ds labels ends more Ml Mh d) c):mS Y A (lEnv L cdv) (exec (fSt 8) (lEnv L cdv)) Φ (gL ds labels ends more Ml Mh d) c:=by
 refine cG (dY (jf (aT (m_var (mv:=.list (lR (aw (ak (overOf ds)) Ml))) (by kernel_rfl) (m_var (mv:=FY ds Ml) (by kernel_rfl) (vR (n:=2) (gy.map (f:=fun x=>V.tuple (Iz x)) yg _ _) (by have:=hA.un;lia) (aC (du ?_ ?_))))))))
 ·simp
 ·exact yW (aT (m_var (mv:=.none) (by kernel_rfl) (cY (eO (aC (du rfl (aD h)))))))
end
end L2
namespace L2
section
variable {Y:Cx}{A:Around}{k:Nat}{c:Cells}{L:Addr}{cdv:Value}{Φ:MF→Loc→Cells→Prop}{E:SA}
theorem sd{xs:List (List Int)}{i:Nat}{v:V}(h:(lR xs)[i]?=some v):∃ m,xs[i]?=some m∧v=.tuple (Iz m):=by
 unfold lR at h
 rw [List.getElem?_map,Option.map_eq_some_iff] at h
 (refine xDPP h ?_;try clear h;intro m h1 h2)
 exact (iDPP m h1 h2.symm)
noncomputable def handOf (un:List (List Int)) (By:List (List Int)):List (Int×List Int):=By.flatMap fun ig=>ig.map fun p=>(p,un.getD p.toNat [])
theorem tW(un By:List (List Int))(ig:List Int):handOf un (By++[ig])=handOf un By++ig.map fun p=>(p,un.getD p.toNat []):=by simp [handOf]
theorem DE(a b:List (Int×List Int)):Hv (a++b)=Hv a++Hv b:=by simp [Hv]
theorem gy.cast{n:Nat}{x y:V}{b b':Bool}(h:gy n x y b)(e:b=b'):gy n x y b':=e▸h
theorem Am(a b:Int×List Int):gy 2 (.tuple [.int a.1,.list (Iz a.2)]) (.tuple [.int b.1,.list (Iz b.2)]) (@BEq.beq (Int×List Int) instBEqOfDecidableEq a b):=by
 have h:=gy.pair (n:=1) (f:=V.int) (g:=fun x=>V.list (Iz x)) (fun a b=>.int a b) pb a b
 refine gy.cast h ?_
 rw [Bool.eq_iff_iff];simp
theorem An{ds d:List Int}{labels ends:List Str}{more Ml Mh:Int}(G:G2 Y)(S:S2 E Y)(F:FF ds Ml Mh)(R:RF ds Ml Mh)(hA:Rm Y A (k+10))(hP:c bS=some .tab)(h:∀ c',c' bS=some .tab→Φ .next (gL ds labels ends more Ml Mh d) c'):mS Y A (lEnv L cdv) (exec (fSt 9) (lEnv L cdv)) Φ (gL ds labels ends more Ml Mh d) c:=by
 (refine ba R.h1 ?_;intro n H1)
 have hlen:=F.len
 refine cG (aT (aA (by kernel_rfl) G.zh (b9.keeps G.handed) (af (m_var (mv:=.list (dE (overOf ds))) (by kernel_rfl) (a_nil (aE.oX hP (jj (k:=k+3) G S hA R.g1 (by rw [ay];lia) R.o1 R.f1 H1 R.z3 fun c' c2 Dv Z=>?_)))))))
 refine r9 ⟨by rfl,by decide +kernel,by kernel_rfl⟩ hA.hh rfl (.inl (by decide +kernel)) ?_
 refine bN (m_var (mv:=FY ds Ml) (by kernel_rfl) (Cu _ (bZ hA.hh) ([("under",Cn ds)]) (by kernel_rfl) ?_))
 refine (bq (fun i acc c'=>c'=c2∧acc=Hv (handOf (aj (overOf ds)) ((aw (ak (overOf ds)) Ml).take i))) (⟨rfl,rfl⟩) (fun L' cs i v acc c' a hv cw ha=>aK cw fun q1 q2=>?_) (fun xs c' cR=>aK cR fun q1 q2=>?_))
 ·replace q1:=q1.symm
  subst q1
  (refine xDPP (sd hv) ?_;intro ig Fl aV;subst aV)
  (refine aK (R.z2 ig (List.mem_of_getElem? Fl)) ?_;intro l1 l2)
  have Lr:acc.length≤1000:=by
   rw [q2,l9]
   have:(handOf (aj (overOf ds)) ((aw (ak (overOf ds)) Ml).take i)).length≤(fS ds Ml).length:=by
    have e:fS ds Ml=handOf (aj (overOf ds)) ((aw (ak (overOf ds)) Ml).take i++(aw (ak (overOf ds)) Ml).drop i):=by rw [List.take_append_drop];rfl
    rw [e];unfold handOf;rw [List.flatMap_append,List.length_append];exact Nat.le_add_right (List.flatMap (fun ig=>List.map (fun p=>(p,(aj (overOf ds)).getD p.toNat [])) ig) (List.take i (aw (ak (overOf ds)) Ml))).length (List.flatMap (fun ig=>List.map (fun p=>(p,(aj (overOf ds)).getD p.toNat [])) ig) (List.drop i (aw (ak (overOf ds)) Ml))).length
   have:=R.z3
   lia
  refine Fh (bind:=fun v l=>("place",v)::l) (bN (m_var (mv:=.tuple (Iz ig)) (by kernel_rfl) (iDPP _ (iO hA.hh) ?_)))
  refine (iG (fun j l c'=>Sub [("level",.tuple (Iz ig)),("under",Cn ds)] l∧c'=upd c2 a (some (.list (acc++Hv ((ig.take j).map fun p=>(p,(aj (overOf ds)).getD p.toNat [])))))) (⟨Sub.rfl,by simp [Hv]⟩) (fun v hv=>cj (.inl (by kernel_rfl))) (fun j v l c' hj fu=>aK fu fun hl hc=>?_) (fun l c' gp=>aK gp fun hl hc=>?_))
  ·(refine xDPP (dO hj) ?_;intro p hp bj;subst bj)
   (refine aK (l2 p (List.mem_of_getElem? hp)) ?_;intro p0 p1)
   (refine ba (Int.eq_ofNat_of_zero_le p0) ?_;intro q bH;subst bH)
   have hx:(dE (aj (overOf ds)))[q]?=some (.list (Iz ((aj (overOf ds)).getD q []))):=uX (by rw [List.getD_eq_getElem?_getD,List.getElem?_eq_getElem (by rw [fb,ay];exact Int.ofNat_lt.mp p1)];rfl)
   have jl:j<ig.length:=(List.getElem?_eq_some_iff.mp hp).1
   refine eg.le (l0:=("place",.int q)::[("level",.tuple (Iz ig)),("under",Cn ds)]) (Sub.cons hl) ?_
   refine gZ (af (m_var (mv:=.int q) (by kernel_rfl) (af (m_item (m_var (mv:=Cn ds) (by kernel_rfl) (m_var (mv:=.int q) (by kernel_rfl) (iS hx (by rw [bF,fb,ay];lia) (a_nil ⟨ah (by show 2≤_;decide),?_⟩))))))))
   subst hc
   refine (iG _ (ag _ _ _) ?_ (Sub.put (by kernel_rfl) (Sub.put (by kernel_rfl) Sub.nil)) ?_)
   ·rw [List.length_append,l9,List.length_map,List.length_take];exact ah (by lia)
   ·rw [b8,List.append_assoc,List.take_add_one,hp]
    simp [Hv]
  ·subst hc
   refine (yp (Sub.put (hl _ _ (by kernel_rfl)) Sub.nil) _ (ag _ _ _) ?_ ?_)
   ·rw [b8,dZ ha]
   ·rw [ai,List.take_of_length_le (Nat.le_refl _),q2,← DE,List.take_add_one,Fl]
    rw [show (some ig).toList=[ig] from rfl,tW]
 ·subst q1 q2
  rw [hZ,List.take_of_length_le (Nat.le_refl _)]
  refine vR (n:=3) ?_ (b:=true) (by have:=hA.un;lia) (aC (du rfl (aD (h _ Dv))))
  have e:handOf (aj (overOf ds)) (aw (ak (overOf ds)) Ml)=fS ds Ml:=rfl
  rw [e]
  have q:=gy.map (f:=fun (p:Int×List Int)=>V.tuple [.int p.1,.list (Iz p.2)]) (n:=2) Am (fS ds Ml) (fS ds Ml)
  refine gy.cast q ?_
  simp
end
end L2
namespace L2
section
variable {Y:Cx}{A:Around}{k:Nat}{c:Cells}{L:Addr}{cdv:Value}{Φ:MF→Loc→Cells→Prop}{E:SA}
noncomputable abbrev tL (ds:List Int) (labels ends:List Str) (more Ml Mh:Int) (d:List Int) (rs:List (List Int)):Loc:=("ring",.none)::("turned",.list (lR rs))::gL ds labels ends more Ml Mh d
theorem Ao{ds d:List Int}{labels ends:List Str}{more Ml Mh:Int}{rs:List (List Int)}{n:Nat}(G:G2 Y)(S:S2 E Y)(F:FF ds Ml Mh)(R:RF ds Ml Mh)(R2:kf n (sig (aj (overOf ds))) (freeOf (aj (overOf ds))) rs)(zY:rs.length≤1000)(hA:Rm Y A (k+10))(hP:c bS=some .tab)(h:∀ c',c' bS=some .tab→Φ .next (tL ds labels ends more Ml Mh d rs) c'):mS Y A (lEnv L cdv) (exec (fSt 10) (lEnv L cdv)) Φ (gL ds labels ends more Ml Mh d) c:=by
 have hlen:=F.len
 exact jH hA.hh (.inl (by kernel_rfl)) (.inl (by kernel_rfl)) (aA (by kernel_rfl) G.td (b9.keeps G.rounds) (af (aA (by kernel_rfl) G.wc (b9.keeps G.under) (af (m_var (mv:=.list (dE (overOf ds))) (by kernel_rfl) (a_nil (ti (k:=k+8) G hA (a_nil (aE.oX hP (qA (k:=k+3) G S hA R.g2 (by rw [fb,ay];lia) R.o2 R2 zY fun c' c2 Dv Z=>(eB _ _ rfl (h c2 Dv))))) (by rw [ay];lia))))))))
theorem yi(rs:List (List Int)):V.list (((lR rs).filter fun Z=>true).map fun v=>match v with | .tuple xs=>V.list (Iz (PySem.W.sortI (xs.map fun x=>match x with | .int i=>i | _=>0))) | _=>.none)=.list (dE (rs.map PySem.W.sortI)):=by
 unfold lR dE Iz
 rw [List.filter_eq_self.mpr (fun Z Z=>rfl)]
 rw [List.map_map,List.map_map]
 refine congrArg V.list (List.map_congr_left fun r Z=>?_)
 show V.list (List.map V.int (PySem.W.sortI (List.map _ (List.map V.int r))))=_
 rw [List.map_map]
 exact congrArg (fun l=>V.list (List.map V.int (PySem.W.sortI l))) (List.map_id r)
theorem Ap(rs:List (List Int)):V.list (((lR rs).filter fun Z=>true).map fun v=>match v with | .tuple xs=>V.list xs | _=>.none)=.list (dE rs):=by
 unfold lR dE Iz
 rw [List.filter_eq_self.mpr (fun Z Z=>rfl)]
 first | rfl | (rw [List.map_map];rfl) | (simp only [List.map_map];rfl)
theorem qd{ds d:List Int}{labels ends:List Str}{more Ml Mh:Int}{rs:List (List Int)}(G:G2 Y)(R:RF ds Ml Mh)(zY:rs.length≤1000)(hr:∀ r∈rs,r.length<64)(he:rs.map PySem.W.sortI=aw (aF (aj (overOf ds))) Mh)(hA:Rm Y A (k+10))(h:∀ l',Sub (bL ds labels ends more Ml Mh) l'→Φ .next l' c):mS Y A (lEnv L cdv) (exec (fSt 11) (lEnv L cdv)) Φ (tL ds labels ends more Ml Mh d rs) c:=by
 refine cG (dY (jf (aT (aZ ⟨by rfl,by decide +kernel,by kernel_rfl⟩ (iR.name ⟨by rfl,by decide +kernel,by kernel_rfl⟩ rfl (.inl (by decide +kernel))) hA.hh ?_))))
 refine bN (m_var (mv:=.list (lR rs)) (by kernel_rfl) (bq _ (bZ hA.hh) (fun Z Z=>trivial) ?_))
 refine aM (fun Z=>true) (fun v=>match v with | .tuple xs=>V.list (Iz (PySem.W.sortI (xs.map fun x=>match x with | .int i=>i | _=>0))) | _=>.none) (by rw [hZ];exact ah (by lia)) (lc:=[]) (by kernel_rfl) (fun L' cs j v hj=>?_) ?_
 ·(refine xDPP (sd hj) ?_;intro r Hz aV;subst aV)
  refine cN (aO rfl rfl rfl (fun Z=>aA (by kernel_rfl) G.sorted trivial (af (m_var (mv:=.tuple (Iz r)) (by kernel_rfl) (a_nil (oY (hr r (List.mem_of_getElem? Hz)) ⟨?_,rfl,rfl⟩))))))
  have e:(Iz r).map (fun x=>match x with | .int i=>i | _=>(0:Int))=r:=by unfold Iz;rw [List.map_map];exact List.map_id r
  show V.list (Iz (PySem.W.sortI r))=V.list (Iz (PySem.W.sortI ((Iz r).map fun x=>match x with | .int i=>i | _=>(0:Int))))
  rw [e]
 ·rw [yi]
  refine aZ ⟨by rfl,by decide +kernel,by kernel_rfl⟩ (iR.name ⟨by rfl,by decide +kernel,by kernel_rfl⟩ rfl (.inl (by decide +kernel))) hA.hh ?_
  refine bN (m_var (mv:=Hw ds Mh) (by kernel_rfl) (bq _ (bZ hA.hh) (fun Z Z=>trivial) ?_))
  refine aM (fun Z=>true) (fun v=>match v with | .tuple xs=>V.list xs | _=>.none) (by rw [hZ];exact ah (by have:=R.z4;lia)) (lc:=[]) (by kernel_rfl) (fun L' cs j v hj=>?_) ?_
  ·(refine xDPP (sd hj) ?_;intro r Hz bj;subst bj)
   exact cN (aO rfl rfl rfl (fun Z=>aA (by kernel_rfl) G.list trivial (af (m_var (mv:=.tuple (Iz r)) (by kernel_rfl) (a_nil (lK (.inr rfl) (by rw [ai];have:=R.z5 r (List.mem_of_getElem? Hz);exact ah (by lia)) ⟨rfl,rfl,rfl⟩))))))
  ·rw [Ap,he]
   refine vR (n:=2) (gy.map (f:=fun x=>V.list (Iz x)) pb _ _) (by have:=hA.un;lia) (aC (du ?_ ?_))
   ·simp
   ·refine yW (aT (m_var (mv:=.none) (by kernel_rfl) (cY (eO (aC (du rfl (aD (h _ ?_))))))))
    exact Sub.put (by kernel_rfl) (Sub.put (by kernel_rfl) (Sub.put (by kernel_rfl) (Sub.put (by kernel_rfl) (Sub.put (by kernel_rfl) (Sub.put (by kernel_rfl) (Sub.put (by kernel_rfl) Sub.nil))))))
end
end L2
namespace L2
section
variable {Y:Cx}{A:Around}{k:Nat}{c:Cells}{L:Addr}{cdv:Value}{Φ:MF→Loc→Cells→Prop}{E:SA}
theorem wG{ds d:List Int}{labels ends:List Str}{more Ml Mh:Int}(G:G2 Y)(S:S2 E Y)(F:FF ds Ml Mh)(R:RF ds Ml Mh)(D:LF ds labels ends more d)(hA:Rm Y A (k+10))(hP:c bS=some .tab)(h:∀ l' c',c' bS=some .tab→Sub (bL ds labels ends more Ml Mh) l'→Φ .next l' c'):mS Y A (lEnv L cdv) (execs fBody (lEnv L cdv)) Φ (dL ds labels ends more Ml Mh d) c:=by
 (refine bQ R.r2 ?_;intro n rs R2 he zY hr)
 have Fm:Rm Y A ((k+7)+3):=hA
 refine aa (xZ (k:=k+7) G D Fm ?_)
 refine aa (Dy (k:=k+7) G D Fm fun l' jP=>eg.le jP ?_)
 refine aa (Ad (k:=k+7) Fm D.len ?_)
 refine aa (DC (k:=k+7) G D Fm ?_)
 refine aa (Bv (k:=k+7) G D Fm ?_)
 rw [yh D]
 refine aa (Bx G D hA ?_)
 refine aa (DD G D hA ?_)
 refine aa (Al G S F R hA hP fun c1 h1=>?_)
 refine aa (qc hA ?_)
 refine aa (An G S F R hA h1 fun c2 h2=>?_)
 refine aa (Ao G S F R R2 zY hA h2 fun c3 h3=>?_)
 exact aa (qd G R zY hr he hA fun l' jP=>aD (h l' c3 h3 jP))
theorem rD{ds:List Int}{labels ends:List Str}{more Ml Mh:Int}(G:G2 Y)(S:S2 E Y)(F:FF ds Ml Mh)(R:RF ds Ml Mh)(D1:LF ds labels ends more ds)(D2:LF ds labels ends more (ak (overOf ds)))(hA:Rm Y A (k+10))(hP:c bS=some .tab)(h:∀ l' c',c' bS=some .tab→Φ .next l' c'):mS Y A (lEnv L cdv) (exec (lSt 9) (lEnv L cdv)) Φ (("dots",.list (Iz ds))::bL ds labels ends more Ml Mh) c:=by
 have hlen:=F.len
 refine cH (bind:=fun v l=>("drawn",v)::l) (bN (gZ (af (m_var (mv:=.list (Iz ds)) (by kernel_rfl) (af (aA (by kernel_rfl) G.tc (b9.keeps G.levels) (af (aA (by kernel_rfl) G.rM (b9.keeps G.over) (af (m_var (mv:=.list (Iz ds)) (by kernel_rfl) (a_nil (nG (k:=k+9) G hA (a_nil (qv (k:=k+9) G hA F.IG F.IH (a_nil (ma (ah (by show 2≤_;decide)) _ (iO hA.hh) ?_)) (by rw [ay];lia))) (by lia)))))))))))))
 refine (cF (fun Z=>bL ds labels ends more Ml Mh) (fun Z c'=>c' bS=some .tab) (⟨Sub.put (by kernel_rfl) (Sub.put (by kernel_rfl) (Sub.put (by kernel_rfl) (Sub.put (by kernel_rfl) (Sub.put (by kernel_rfl) (Sub.put (by kernel_rfl) (Sub.put (by kernel_rfl) Sub.nil)))))),hP⟩) (fun v hv=>cj (by first | exact .inl (by kernel_rfl) | exact .inr (by kernel_rfl))) (fun v hv l l' hs=>Sub.cons hs) (fun i v c' hv hc=>?_) (fun l c' hl hc=>h l c' hc))
 rcases i with _ | _ | i
 ·cases hv
  exact wG G S F R D1 hA hc fun l' c2 h2 jP=>⟨jP,h2⟩
 ·cases hv
  exact wG G S F R D2 hA hc fun l' c2 h2 jP=>⟨jP,h2⟩
 ·cases hv
end
theorem DF{X:Cx}{A:Around}{k:Nat}{c:Cells}{E:SA}{ax:List Int}{Ml Mh:Int}{Ψ:V→Cells→Prop}(G:G2 X)(S:S2 E X)(T:T2 X)(FL:b9 X.K 251 "law" FH)(hA:Rm X A (k+11))(hP:c bS=some .tab)(hz:ax.length≤1000)(F:FF (cA (numsOf ax)) Ml Mh)(R:RF (cA (numsOf ax)) Ml Mh)(D1:LF (cA (numsOf ax)) (dC (numsOf ax)) (mL (numsOf ax)) (k8 (numsOf ax)) (cA (numsOf ax)))(D2:LF (cA (numsOf ax)) (dC (numsOf ax)) (mL (numsOf ax)) (k8 (numsOf ax)) (ak (overOf (cA (numsOf ax)))))(h:∀ c',c' bS=some .tab→Ψ (.bool true) c'):aE X A (.ref 251) [.list (Iz ax)] Ψ c:=by
 refine cb (names:=["script"]) FL hA (fun Z Z Z Z Z vs hv=>?_) fun L cdv A' bz=>?_
 ·(refine ba (bY hv) ?_;intro v aV;subst aV)
  rfl
 have G':G2 (X.push L):=G
 have S':S2 E (X.push L):=S
 have T':T2 (X.push L):=T
 generalize X.push L=Y at bz G' S' T' ⊢
 have hn:(numsOf ax).length≤1000:=by rw [numsOf_length];lia
 refine aa (tQ (k:=k+9) G' bz hz ?_)
 generalize numsOf ax=ns at F R D1 D2 hn ⊢
 refine eg.le (l0:=locN ns) (Sub.put (by kernel_rfl) Sub.nil) ?_
 refine aa (Aa (k:=k+9) bz hn ?_)
 refine aa (ve (k:=k+9) bz hn ?_)
 refine aa (Ab (k:=k+9) bz hn ?_)
 refine aa (Ac (k:=k+9) G' bz ?_)
 refine aa (vf (k:=k+7) G' T' bz hP fun c1 h1=>?_)
 refine aa (xX (k:=k+7) G' F bz (by kernel_rfl) ?_)
 refine aa (vg (k:=k+7) G' F bz (by kernel_rfl) ?_)
 refine aa (tR (k:=k+7) G' F bz (by kernel_rfl) ?_)
 refine eg.le (l0:=("dots",.list (Iz (cA ns)))::bL (cA ns) (dC ns) (mL ns) (k8 ns) Ml Mh) (Sub.put (by kernel_rfl) (Sub.put (by kernel_rfl) (Sub.put (by kernel_rfl) (Sub.put (by kernel_rfl) (Sub.put (by kernel_rfl) (Sub.put (by kernel_rfl) (Sub.put (by kernel_rfl) (Sub.put (by kernel_rfl) Sub.nil)))))))) ?_
 refine aa (rD (k:=k) G' S' F R D1 D2 bz h1 fun l' c2 h2=>?_)
 exact aa (bo (yz (h c2 h2)))
end L2
namespace L2
noncomputable def fT (needs:List (List Int)) (m:Nat) (k:Int):List Int:=(List.range m).flatMap fun i=>((needs.getD i []).filter (· == k)).map fun Z=>(i:Int)
theorem qD(n:Int):∀ (ps:List Int) (σ:TS),(ps.foldl (TS.behind n) σ).np=σ.np
 | [],σ=>rfl
 | p::ps,σ=>by rw [List.foldl_cons,qD n ps];rfl
theorem qE(n:Int):∀ (ps:List Int) (σ:TS) (k:Int),(ps.foldl (TS.behind n) σ).su k=σ.su k++(ps.filter (· == k)).map fun Z=>n
 | [],σ,k=>by simp
 | p::ps,σ,k=>by
  rw [List.foldl_cons,qE n ps]
  show iF σ.su p (σ.su p++[n]) k++_=_
  by_cases h:k=p
  ·subst h
   rw [aW,List.filter_cons,if_pos (by exact beq_int_true rfl)]
   simp
  ·rw [bw _ _ h,List.filter_cons,if_neg (by simpa using fun z=>h z.symm)]
theorem get_mem{σ:TS}{k j:Int}:j∈(σ.get k).nodes↔j∈σ.nodes∨j=k:=by
 unfold TS.get
 dsimp only
 split
 ·rename_i h
  constructor
  ·exact .inl
  ·rintro (q | rfl)
   ·exact q
   ·exact h
 ·simp
theorem qF{σ:TS}{k:Int}(h:σ.nodes.Nodup):(σ.get k).nodes.Nodup:=by
 unfold TS.get
 dsimp only
 split
 ·exact h
 ·rename_i hk
  rw [List.nodup_append]
  refine ⟨h,by simp,fun a ha b hb=>?_⟩
  rw [List.mem_singleton] at hb
  subst hb
  rintro rfl
  exact hk ha
theorem lg(n:Int):∀ (ps:List Int) (σ:TS),σ.nodes.Nodup→(ps.foldl (TS.behind n) σ).nodes.Nodup∧∀ j,j∈(ps.foldl (TS.behind n) σ).nodes↔j∈σ.nodes∨j∈ps
 | [],σ,h=>⟨h,fun j=>by simp⟩
 | p::ps,σ,h=>by
  rw [List.foldl_cons]
  (refine aK (lg n ps (TS.behind n σ p) (qF h)) ?_;intro h1 h2)
  refine ⟨h1,fun j=>?_⟩
  rw [h2]
  show j∈(σ.get p).nodes∨_↔_
  rw [get_mem,List.mem_cons,or_assoc]
theorem DG(σ:TS)(n:Int)(ps:List Int)(k:Int):(σ.add n ps).su k=σ.su k++(ps.filter (· == k)).map fun Z=>n:=by
 unfold TS.add;rw [qE];rfl
theorem DH(σ:TS)(n:Int)(ps:List Int)(k:Int):(σ.add n ps).np k=if k=n then σ.np n+ps.length else σ.np k:=by
 unfold TS.add
 rw [qD]
 show iF σ.np n _ k=_
 by_cases h:k=n
 ·subst h;rw [aW,if_pos rfl];rfl
 ·rw [bw _ _ h,if_neg h]
theorem yj{σ:TS}{n:Int}{ps:List Int}(h:σ.nodes.Nodup):(σ.add n ps).nodes.Nodup∧∀ j,j∈(σ.add n ps).nodes↔j∈σ.nodes∨j=n∨j∈ps:=by
 unfold TS.add
 (refine aK (lg n ps ((σ.get n).more n ((σ.get n).np n+ps.length)) (qF h)) ?_;intro h1 h2)
 refine ⟨h1,fun j=>?_⟩
 rw [h2]
 show j∈(σ.get n).nodes∨_↔_
 rw [get_mem,or_assoc]
theorem pd(needs:List (List Int))(m:Nat)(hm:m<needs.length):aY (needs.take (m+1))=aY (needs.take m)++[((m:Int),needs.getD m [])]:=by
 have hx:needs[m]?=some (needs.getD m []):=by rw [List.getD_eq_getElem?_getD,List.getElem?_eq_getElem hm];rfl
 rw [hY needs (m+1),List.take_add_one,jr hx,← hY];rfl
theorem qG(σ:TS)(g:List (Int×List Int))(q:Int×List Int):σ.adds (g++[q])=(σ.adds g).add q.1 q.2:=by
 unfold TS.adds;rw [List.foldl_append];rfl
theorem lh(needs:List (List Int)):∀ m,m≤needs.length→(∀ k,(TS.none.adds (aY (needs.take m))).su k=fT needs m k) ∧
  (∀ k:Int,(TS.none.adds (aY (needs.take m))).np k=if 0≤k∧k<m then ((needs.getD k.toNat []).length:Int) else 0) ∧
  (TS.none.adds (aY (needs.take m))).nodes.Nodup∧∀ j,j∈(TS.none.adds (aY (needs.take m))).nodes↔(0≤j∧j<m)∨∃ i,i<m∧j∈needs.getD i []
 | 0,_=>by
  refine (aO (fun k=>rfl) (fun k=>?_) List.nodup_nil (fun j=>?_))
  ·rw [if_neg (by lia)];rfl
  ·constructor
   ·intro h;cases h
   ·rintro (h | ⟨i,h,_⟩) <;> lia
 | m+1,hm=>by
  (refine bM (lh needs m (by exact Nat.le_of_succ_le hm)) ?_;intro h1 h2 h3 h4)
  rw [pd needs m (by exact Nat.lt_of_succ_le hm),qG]
  generalize TS.none.adds (aY (needs.take m))=σ at h1 h2 h3 h4
  (refine aK (yj (n:=(m:Int)) (ps:=needs.getD m []) h3) ?_;intro n1 n2)
  refine (aO (fun k=>?_) (fun k=>?_) n1 (fun j=>?_))
  ·rw [DG,h1]
   unfold fT
   rw [List.range_succ,List.flatMap_append]
   simp
  ·rw [DH]
   by_cases hk:k=m
   ·subst hk
    rw [if_pos rfl,h2,if_neg (by lia),if_pos (by lia)]
    simp
   ·rw [if_neg hk,h2]
    by_cases hr:0≤k∧k<m
    ·rw [if_pos hr,if_pos (by lia)]
    ·rw [if_neg hr,if_neg (by lia)]
  ·rw [n2,h4]
   constructor
   ·rintro ((h | ⟨i,h,q⟩) | rfl | h)
    ·exact .inl (by lia)
    ·exact .inr (iDPP i (by exact Nat.lt_add_right 1 h) q)
    ·exact .inl (by lia)
    ·exact .inr (iDPP m (by exact Nat.lt_add_one m) h)
   ·rintro (h | ⟨i,h,q⟩)
    ·by_cases hj:j=m
     ·exact .inr (.inl hj)
     ·exact .inl (.inl (by lia))
    ·by_cases hi:i=m
     ·subst hi;exact .inr (.inr q)
     ·exact .inl (.inr (iDPP i (by lia) q))
noncomputable def Aq (needs:List (List Int)):Prop:=∀ i p,p∈needs.getD i []→0≤p∧p<needs.length
theorem pg(needs:List (List Int))(k:Int):(sig needs).su k=fT needs needs.length k:=by
 have:=(lh needs needs.length (Nat.le_refl _)).1 k
 rwa [List.take_of_length_le (Nat.le_refl _)] at this
theorem sf(needs:List (List Int))(k:Int):(sig needs).np k=if 0≤k∧k<needs.length then ((needs.getD k.toNat []).length:Int) else 0:=by
 have:=(lh needs needs.length (Nat.le_refl _)).2.1 k
 rwa [List.take_of_length_le (Nat.le_refl _)] at this
theorem fc{needs:List (List Int)}(h:Aq needs):(sig needs).nodes.Nodup∧∀ j,j∈(sig needs).nodes↔0≤j∧j<needs.length:=by
 (refine bM (lh needs needs.length (Nat.le_refl _)) ?_;intro Z Z h3 h4)
 rw [List.take_of_length_le (Nat.le_refl _)] at h3 h4
 refine ⟨h3,fun j=>(h4 j).trans ⟨?_,.inl⟩⟩
 rintro (q | ⟨i,_,q⟩)
 ·exact q
 ·exact h i j q
theorem Bz{needs:List (List Int)}{m:Nat}{k i:Int}:i∈fT needs m k↔0≤i∧i<m∧k∈needs.getD i.toNat []:=by
 unfold fT
 rw [List.mem_flatMap]
 constructor
 ·(intro bj;refine xDPP bj ?_;clear bj;intro j hj q)
  rw [List.mem_range] at hj
  (refine xDPP (List.mem_map.mp q) ?_;intro x hx bH;subst bH)
  rw [List.mem_filter] at hx
  have:x=k:=by simpa using hx.2
  subst this
  exact ⟨by exact Int.natCast_nonneg j,by exact Int.ofNat_lt.mpr hj,by simpa using hx.1⟩
 ·(intro cw;refine aP cw ?_;clear cw;intro h1 h2 h3)
  refine (iDPP i.toNat (List.mem_range.mpr (by exact (Int.toNat_lt h1).mpr h2)) (List.mem_map.mpr (iDPP k (List.mem_filter.mpr ⟨h3,by simp⟩) (by exact Int.toNat_of_nonneg h1))))
end L2
namespace L2
theorem wH:∀ (ss:List Int) (τ:TS) (out:List Int),ss.Nodup→(ss.foldl TS.dec (τ,out)).1.nodes=τ.nodes∧(ss.foldl TS.dec (τ,out)).1.su=τ.su ∧
  (∀ k,(ss.foldl TS.dec (τ,out)).1.np k=if k∈ss then τ.np k - 1 else τ.np k)∧(ss.foldl TS.dec (τ,out)).2=out++ss.filter fun k=>τ.np k - 1 == 0
 | [],τ,out,_=>(aO rfl rfl (fun k=>by simp) (by simp))
 | s::ss,τ,out,h=>by
  rw [List.nodup_cons] at h
  rw [List.foldl_cons]
  have e:TS.dec (τ,out) s=(τ.more s (τ.np s - 1),if τ.np s - 1=0 then out++[s] else out):=rfl
  rw [e]
  (refine bM (wH ss (τ.more s (τ.np s - 1)) (if τ.np s - 1=0 then out++[s] else out) h.2) ?_;intro h1 h2 h3 h4)
  have np:∀ k,(τ.more s (τ.np s - 1)).np k=if k=s then τ.np s - 1 else τ.np k:=fun k=>by
   show iF τ.np s _ k=_
   by_cases q:k=s
   ·subst q;rw [aW,if_pos rfl]
   ·rw [bw _ _ q,if_neg q]
  refine (aO h1 h2 (fun k=>?_) ?_)
  ·rw [h3,np]
   by_cases q:k=s
   ·subst q
    rw [if_neg h.1,if_pos rfl,if_pos (by exact List.mem_cons_self)]
   ·rw [if_neg q]
    by_cases m:k∈ss
    ·rw [if_pos m,if_pos (by exact List.mem_cons_of_mem s m)]
    ·rw [if_neg m,if_neg (by exact List.not_mem_cons_of_ne_of_not_mem q m)]
  ·rw [h4,List.filter_cons]
   have e2:(ss.filter fun k=>(τ.more s (τ.np s - 1)).np k - 1 == 0)=ss.filter fun k=>τ.np k - 1 == 0:=by
    refine List.filter_congr fun k hk=>?_
    rw [np,if_neg (fun (q:k=s)=>h.1 (q▸hk))]
   rw [e2]
   by_cases z:τ.np s - 1=0
   ·rw [if_pos z,if_pos (by exact beq_int_true z)];simp
   ·rw [if_neg z,if_neg (by simpa using z)]
theorem ph(τ:TS)(out:List Int)(v:Int)(hs:(τ.su v).Nodup)(hv:v ∉ τ.su v):(TS.dI (τ,out) v).1.nodes=τ.nodes∧(TS.dI (τ,out) v).1.su=τ.su ∧
  (∀ k,(TS.dI (τ,out) v).1.np k=if k=v then -2 else if k∈τ.su v then τ.np k - 1 else τ.np k)∧(TS.dI (τ,out) v).2=out++(τ.su v).filter fun k=>τ.np k - 1 == 0:=by
 have e:TS.dI (τ,out) v=(τ.su v).foldl TS.dec (τ.more v (-2),out):=rfl
 rw [e]
 (refine bM (wH (τ.su v) (τ.more v (-2)) out hs) ?_;intro h1 h2 h3 h4)
 have np:∀ k,(τ.more v (-2)).np k=if k=v then -2 else τ.np k:=fun k=>by
  show iF τ.np v _ k=_
  by_cases q:k=v
  ·subst q;rw [aW,if_pos rfl]
  ·rw [bw _ _ q,if_neg q]
 refine (aO h1 h2 (fun k=>?_) ?_)
 ·rw [h3,np]
  by_cases q:k=v
  ·subst q;rw [if_pos rfl,if_pos rfl,if_neg hv]
  ·rw [if_neg q,if_neg q]
 ·rw [h4]
  congr 1
  refine List.filter_congr fun k hk=>?_
  rw [np,if_neg (fun (q:k=v)=>hv (q▸hk))]
noncomputable def cnt (su:Int→List Int) (ws:List Int) (k:Int):Nat:=(ws.filter fun w=>decide (k∈su w)).length
theorem cnt_cons(su:Int→List Int)(w:Int)(ws:List Int)(k:Int):cnt su (w::ws) k=(if k∈su w then 1 else 0)+cnt su ws k:=by
 unfold cnt
 rw [List.filter_cons]
 by_cases h:k∈su w
 ·rw [if_pos (by exact decide_eq_true h),if_pos h,List.length_cons];exact Nat.add_comm (List.filter (fun w=>decide (k∈su w)) ws).length 1
 ·rw [if_neg (by simpa using h),if_neg h];exact Eq.symm (Nat.zero_add (List.filter (fun w=>decide (k∈su w)) ws).length)
theorem tX{su:Int→List Int}{ws:List Int}{k:Int}(h:∀ w∈ws,k ∉ su w):cnt su ws k=0:=by
 unfold cnt
 rw [List.length_eq_zero_iff,List.filter_eq_nil_iff]
 intro w hw
 simpa using h w hw
theorem pj:∀ (ws:List Int) (τ:TS) (out:List Int),ws.Nodup→(∀ v,(τ.su v).Nodup)→(∀ w∈ws,∀ w'∈ws,w' ∉ τ.su w)→(∀ w∈ws,τ.np w≤0)→out.Nodup→(∀ k∈out,τ.np k≤0) →
  (TS.aX (τ,out) ws).1.nodes=τ.nodes∧(TS.aX (τ,out) ws).1.su=τ.su∧(∀ k,(TS.aX (τ,out) ws).1.np k=if k∈ws then -2 else τ.np k - cnt τ.su ws k) ∧
  (TS.aX (τ,out) ws).2.Nodup∧∀ k,k∈(TS.aX (τ,out) ws).2↔k∈out∨(1≤τ.np k∧τ.np k≤cnt τ.su ws k)
 | [],τ,out,_,_,_,_,ho,_=>(ui rfl rfl (fun k=>by simp [cnt,TS.aX]) ho  (fun k=>by
  constructor
  ·exact .inl
  ·rintro (q | ⟨q1,q2⟩)
   ·exact q
   ·have:cnt τ.su [] k=0:=rfl
    lia))
 | w::ws,τ,out,hn,hs,hi,hz,ho,II=>by
  rw [List.nodup_cons] at hn
  have e:TS.aX (τ,out) (w::ws)=TS.aX (TS.dI (τ,out) w) ws:=rfl
  rw [e]
  (refine bM (ph τ out w (hs w) (hi w List.mem_cons_self w List.mem_cons_self)) ?_;intro a1 a2 a3 a4)
  generalize TS.dI (τ,out) w=st at a1 a2 a3 a4 ⊢
  obtain ⟨τ1,HA⟩:=st
  simp only at a1 a2 a3 a4
  subst a4
  have FV:∀ k,τ.np k≤0→τ1.np k≤0:=fun k hk=>by
   rw [a3]
   split
   ·exact Int.neg_ofNat_le_ofNat 2 0
   ·split <;> lia
  obtain ⟨b1,b2,b3,b4,b5⟩:=pj ws τ1 (out++(τ.su w).filter fun k=>τ.np k - 1 == 0) hn.2 (by rw [a2];exact hs) (by rw [a2];exact fun x hx y hy=>hi x (List.mem_cons_of_mem _ hx) y (List.mem_cons_of_mem _ hy)) (fun x hx=>FV x (hz x (List.mem_cons_of_mem _ hx)))
   (by
    rw [List.nodup_append]
    refine ⟨ho,(hs w).filter _,fun a ha b hb=>?_⟩
    rintro rfl
    have q:=(List.mem_filter.mp hb).2
    have:=II a ha
    simp at q;lia)
   (fun k hk=>by
    rcases List.mem_append.mp hk with q | q
    ·exact FV k (II k q)
    ·(refine aK (List.mem_filter.mp q) ?_;intro q1 q2)
     have q2:τ.np k - 1=0:=by exact bi_ieq.mp q2
     rw [a3]
     split
     ·exact Int.neg_ofNat_le_ofNat 2 0
     ·first | exact Int.le_of_eq q2 | (rw [if_pos q1];omega))
  refine (ui (b1.trans a1) (b2.trans a2) (fun k=>?_) b4 (fun k=>?_))
  ·rw [b3,a3,a2,cnt_cons]
   by_cases hk:k∈ws
   ·rw [if_pos hk,if_pos (List.mem_cons_of_mem _ hk)]
   ·rw [if_neg hk]
    by_cases hw:k=w
    ·subst hw
     rw [if_pos rfl,if_pos List.mem_cons_self,tX (fun x hx=>hi x (List.mem_cons_of_mem _ hx) k List.mem_cons_self)]
     exact Int.sub_eq_iff_eq_add'.mpr rfl
    ·rw [if_neg hw,if_neg (show ¬ k∈w::ws by simp [hw,hk])]
     split <;> lia
  ·rw [b5,List.mem_append,List.mem_filter,a3,a2,cnt_cons]
   by_cases hw:k=w
   ·subst hw
    have h0:=hz k List.mem_cons_self
    have h1:=hi k List.mem_cons_self k List.mem_cons_self
    rw [if_pos rfl,if_neg h1]
    constructor
    ·rintro ((q | ⟨q,_⟩) | q)
     ·exact .inl q
     ·exact (h1 q).elim
     ·lia
    ·rintro (q | q)
     ·exact .inl (.inl q)
     ·lia
   ·rw [if_neg hw]
    by_cases hm:k∈τ.su w
    ·rw [if_pos hm,if_pos hm]
     constructor
     ·rintro ((q | ⟨_,q⟩) | q)
      ·exact .inl q
      ·have:τ.np k - 1=0:=by exact bi_ieq.mp q
       right;lia
      ·right;lia
     ·rintro (q | q)
      ·exact .inl (.inl q)
      ·by_cases h1:τ.np k - 1=0
       ·exact .inl (.inr ⟨hm,by simpa using h1⟩)
       ·right;lia
    ·rw [if_neg hm,if_neg hm]
     constructor
     ·rintro ((q | ⟨q,_⟩) | q)
      ·exact .inl q
      ·exact (hm q).elim
      ·right;lia
     ·rintro (q | q)
      ·exact .inl (.inl q)
      ·right;lia
theorem ij:∀ (ks:List Int) (σ:TS) (k:Int),(σ.outs ks).np k=if k∈ks then -1 else σ.np k
 | [],σ,k=>by simp [TS.outs]
 | x::ks,σ,k=>by
  have e:σ.outs (x::ks)=(σ.more x (-1)).outs ks:=rfl
  rw [e,ij ks]
  by_cases h:k∈ks
  ·rw [if_pos h,if_pos (List.mem_cons_of_mem _ h)]
  ·rw [if_neg h]
   show iF σ.np x (-1) k=_
   by_cases q:k=x
   ·subst q;rw [aW,if_pos List.mem_cons_self]
   ·rw [bw _ _ q,if_neg (by exact List.not_mem_cons_of_ne_of_not_mem q h)]
end L2
namespace L2
noncomputable def bV (needs:List (List Int)) (k:Int):List Int:=needs.getD k.toNat []
structure ik(needs:List (List Int))(ρ:Int→Nat):Prop where
 cl:Aq needs
 nd:∀ i,(needs.getD i []).Nodup
 lt:∀ k p:Int,0≤k→k<(needs.length:Int)→p∈bV needs k→ρ p<ρ k
 step:∀ (k:Int) (t:Nat),0≤k→k<(needs.length:Int)→ρ k=t+1→∃ p∈bV needs k,ρ p=t
 len:needs.length≤100
noncomputable def inR (needs:List (List Int)) (k:Int):Prop:=0≤k∧k<(needs.length:Int)
theorem jt{needs:List (List Int)}(nd:∀ i,(needs.getD i []).Nodup)(m:Nat)(k:Int):(fT needs m k).Pairwise (·<·):=by
 unfold fT
 rw [List.pairwise_flatMap]
 refine ⟨fun i Z=>?_,?_⟩
 ·have h:((needs.getD i []).filter (· == k)).length≤1:=by
   rw [← List.countP_eq_length_filter]
   exact List.nodup_iff_count.mp (nd i) k
  generalize (needs.getD i []).filter (· == k)=l at h
  rcases l with _ | ⟨x,_ | ⟨y,t⟩⟩
  ·exact .nil
  ·simp
  ·simp at h
 ·refine List.Pairwise.imp (fun {a b} vX x hx y hy=>?_) List.pairwise_lt_range
  obtain ⟨_,_,rfl⟩:=List.mem_map.mp hx
  obtain ⟨_,_,rfl⟩:=List.mem_map.mp hy
  exact Int.ofNat_lt.mpr vX
theorem dm{needs:List (List Int)}{v k:Int}:k∈(sig needs).su v↔inR needs k∧v∈bV needs k:=by
 rw [pg,Bz]
 unfold inR bV
 exact and_assoc.symm
theorem i9{needs:List (List Int)}(nd:∀ i,(needs.getD i []).Nodup)(v:Int):((sig needs).su v).Nodup:=by
 rw [pg]
 exact (jt nd _ v).imp fun h=>by exact Int.ne_of_lt h
theorem ff{l:List Int}{n:Nat}(h:l.Nodup)(hm:∀ x∈l,0≤x∧x<n):l.length≤n:=by
 have:=h.length_le_of_subset (l₂:=(List.range n).map fun (i:Nat)=>(i:Int)) (fun x hx=>by
  (refine aK (hm x hx) ?_;intro h1 h2)
  exact List.mem_map.mpr (iDPP x.toNat (List.mem_range.mpr (by exact (Int.toNat_lt h1).mpr h2)) (by exact Int.toNat_of_nonneg h1)))
 simpa using this
structure RS(needs:List (List Int))(ρ:Int→Nat)(t:Nat)(τ:TS)(rd:List Int):Prop where
 no:τ.nodes=(sig needs).nodes
 su:τ.su=(sig needs).su
 np:∀ k,inR needs k→t≤ρ k→τ.np k=(((bV needs k).filter fun p=>decide (t≤ρ p)).length:Int)
 nd:rd.Nodup
 mem:∀ k,k∈rd↔inR needs k∧ρ k=t
variable {needs:List (List Int)}{ρ:Int→Nat}
theorem vr(R:ik needs ρ){t:Nat}{rd:List Int}(nd:rd.Nodup)(mem:∀ k,k∈rd↔inR needs k∧ρ k=t){k:Int}(hk:inR needs k) :
  cnt (sig needs).su rd k=((bV needs k).filter fun p=>decide (ρ p=t)).length:=by
 unfold cnt
 refine List.Perm.length_eq ((List.perm_ext_iff_of_nodup (nd.filter _) ((R.nd _).filter _)).mpr fun w=>?_)
 rw [List.mem_filter,List.mem_filter,mem,decide_eq_true_iff,decide_eq_true_iff,dm]
 constructor
 ·(intro bH;refine aP bH ?_;clear bH;intro cw Z h3;refine aK cw ?_;clear cw;intro h1 h2)
  exact ⟨h3,h2⟩
 ·(intro cR;refine aK cR ?_;clear cR;intro h1 h2)
  exact ⟨⟨R.cl _ _ h1,h2⟩,hk,h1⟩
theorem sg(l:List Int)(ρ:Int→Nat)(t:Nat):(l.filter fun p=>decide (t≤ρ p)).length=(l.filter fun p=>decide (ρ p=t)).length+(l.filter fun p=>decide (t+1≤ρ p)).length:=by
 induction l with
 | nil=>rfl
 | cons x l ih =>
  rw [List.filter_cons,List.filter_cons,List.filter_cons]
  by_cases h1:ρ x=t
  ·rw [if_pos (by simp;exact Nat.le_of_eq (id (Eq.symm h1))),if_pos (by simpa using h1),if_neg (by simp;lia)]
   simp only [List.length_cons];lia
  ·by_cases h2:t+1≤ρ x
   ·rw [if_pos (by simp;exact Nat.le_of_succ_le h2),if_neg (by simpa using h1),if_pos (by exact decide_eq_true h2)]
    simp only [List.length_cons];exact Nat.add_left_inj.mpr ih
   ·rw [if_neg (by simp;lia),if_neg (by simpa using h1),if_neg (by simpa using h2)]
    exact ih
theorem BA(R:ik needs ρ){t:Nat}{τ:TS}{rd:List Int}(S:RS needs ρ t τ rd):RS needs ρ (t+1) (TS.aX (τ.outs rd,[]) rd).1 (TS.aX (τ.outs rd,[]) rd).2∧τ.Good rd:=by
 (refine aK (TS.cP τ rd) ?_;intro o1 o2)
 have DZ:=ij rd τ
 have indep:∀ w∈rd,∀ w'∈rd,w' ∉ (sig needs).su w:=fun w hw w' D0 h=>by
  (refine aK (dm.mp h) ?_;intro h1 h2)
  have:=R.lt w' w h1.1 h1.2 h2
  have:=((S.mem w).mp hw).2
  have:=((S.mem w').mp D0).2
  lia
 have yo:(τ.outs rd).su=(sig needs).su:=o2.trans S.su
 (refine uo (pj rd (τ.outs rd) [] S.nd (by rw [yo];exact i9 R.nd) (by rw [yo];exact indep) (fun w hw=>by rw [DZ,if_pos hw];exact Int.neg_ofNat_le_ofNat 1 0) List.nodup_nil (fun k hk=>by cases hk)) ?_;intro d1 d2 d3 d4 d5)
 rw [yo] at d2 d3 d5
 have HB:∀ k,inR needs k→t+1≤ρ k→(τ.outs rd).np k=(((bV needs k).filter fun p=>decide (ρ p=t)).length:Int)+((bV needs k).filter fun p=>decide (t+1≤ρ p)).length:=fun k hk ht=>by
  rw [DZ,if_neg (fun q=>by have:=((S.mem k).mp q).2;lia),S.np k hk (by exact Nat.le_of_succ_le ht),sg];simp
 have DI:∀ k,inR needs k→ρ k=t+1→((bV needs k).filter fun p=>decide (t+1≤ρ p)).length=0:=fun k hk ht=>by
  rw [List.length_eq_zero_iff,List.filter_eq_nil_iff]
  intro p hp
  have:=R.lt k p hk.1 hk.2 hp
  simp;exact Nat.lt_of_lt_of_eq this ht
 refine (aO (⟨d1.trans (o1.trans S.no),d2,fun k hk ht=>?_,d4,fun k=>?_⟩) ?_ (fun k hk=>?_) (fun i k hi=>?_))
 ·rw [d3,if_neg (fun q=>by have:=((S.mem k).mp q).2;lia),HB k hk ht,vr R S.nd S.mem hk]
  exact Int.sub_eq_iff_eq_add'.mpr rfl
 ·rw [d5]
  constructor
  ·rintro (q | ⟨q1,q2⟩)
   ·cases q
   ·have hc:1≤cnt (sig needs).su rd k:=by lia
    obtain ⟨w,hw⟩:∃ w,w∈rd.filter fun w=>decide (k∈(sig needs).su w):=List.exists_mem_of_length_pos (by unfold cnt at hc;exact Nat.zero_lt_of_lt hc)
    rw [List.mem_filter,decide_eq_true_iff] at hw
    (refine aK (dm.mp hw.2) ?_;intro hk Ky)
    have h1:=R.lt k w hk.1 hk.2 Ky
    have h2:=((S.mem w).mp hw.1).2
    refine ⟨hk,?_⟩
    rw [HB k hk (by exact le_of_eq_of_le (congrFun (congrArg HAdd.hAdd (id (Eq.symm h2))) 1) h1),vr R S.nd S.mem hk] at q2
    refine Classical.byContradiction fun iD=>?_
    (refine xDPP (R.step k (ρ k - 1) hk.1 hk.2 (by lia)) ?_;intro p hp wg)
    have:0<((bV needs k).filter fun p=>decide (t+1≤ρ p)).length:=List.length_pos_of_mem (List.mem_filter.mpr ⟨hp,by simp;lia⟩)
    lia
  ·(intro fu;refine aK fu ?_;clear fu;intro hk ht)
   refine .inr ?_
   rw [HB k hk (by exact Nat.le_of_eq (id (Eq.symm ht))),DI k hk ht,vr R S.nd S.mem hk]
   (refine xDPP (R.step k t hk.1 hk.2 ht) ?_;intro p hp wg)
   have:0<((bV needs k).filter fun p=>decide (ρ p=t)).length:=List.length_pos_of_mem (List.mem_filter.mpr ⟨hp,by simpa using wg⟩)
   lia
 ·exact Nat.le_trans (ff S.nd fun x hx=>((S.mem x).mp hx).1) R.len
 ·rw [S.no]
  exact ((fc R.cl).2 k).mpr ((S.mem k).mp hk).1
 ·have ht:∀ x∈rd.take i,x∈rd:=fun x hx=>List.mem_of_mem_take hx
  (refine uo (pj (rd.take i) (τ.outs rd) [] (S.nd.sublist (List.take_sublist _ _)) (by rw [yo];exact i9 R.nd) (by rw [yo];exact fun w hw w' D0=>indep w (ht w hw) w' (ht w' D0)) (fun w hw=>by rw [DZ,if_pos (ht w hw)];exact Int.neg_ofNat_le_ofNat 1 0) List.nodup_nil (fun k hk=>by cases hk)) ?_;intro Z Z e3 Z Z)
  have IJ:k∈rd:=List.mem_of_getElem? hi
  have HC:k ∉ rd.take i:=fun q=>by
   (refine ba (List.getElem?_of_mem q) ?_;intro j hj)
   rw [List.getElem?_take] at hj
   split at hj
   ·rename_i hji
    have hl:=(List.getElem?_eq_some_iff.mp hi).1
    have:=(List.getElem?_inj (by exact place_lt hj) S.nd).mp (hj.trans hi.symm)
    lia
   ·cases hj
  rw [e3,if_neg HC,DZ,if_pos IJ,yo,tX fun w hw=>indep w (ht w hw) k IJ];rfl
theorem wI(R:ik needs ρ):RS needs ρ 0 (sig needs) (freeOf needs):=by
 (refine aK (fc R.cl) ?_;intro n1 n2)
 refine ⟨rfl,rfl,fun k hk Z=>?_,n1.filter _,fun k=>?_⟩
 ·rw [sf,if_pos (show 0≤k∧k<(needs.length:Int) from hk)]
  have:(bV needs k).filter (fun p=>decide (0≤ρ p))=bV needs k:=List.filter_eq_self.mpr fun Z Z=>by simp
  rw [this];rfl
 ·unfold freeOf TS.free
  rw [List.mem_filter,n2]
  constructor
  ·(intro gp;refine aK gp ?_;clear gp;intro h1 h2)
   rw [sf,if_pos h1] at h2
   refine ⟨h1,Classical.byContradiction fun iD=>?_⟩
   (refine xDPP (R.step k (ρ k - 1) h1.1 h1.2 (by exact Eq.symm (Nat.succ_pred_eq_of_ne_zero iD))) ?_;intro p hp Z)
   have:0<(bV needs k).length:=List.length_pos_of_mem hp
   unfold bV at this
   have h3:((needs.getD k.toNat []).length:Int)=0:=by exact bi_ieq.mp h2
   lia
  ·(intro nA;refine aK nA ?_;clear nA;intro h1 h2)
   refine ⟨h1,?_⟩
   rw [sf,if_pos (show 0≤k∧k<(needs.length:Int) from h1)]
   have:bV needs k=[]:=by
    cases hq:bV needs k with
    | nil=>rfl
    | cons p r=>have:=R.lt k p h1.1 h1.2 (by rw [hq];exact List.mem_cons_self);lia
   unfold bV at this
   rw [this];rfl
theorem kg(R:ik needs ρ){M:Nat}(hM:∀ k,inR needs k→ρ k≤M)(hx:∀ t,t≤M→∃ k,inR needs k∧ρ k=t)(Q:Nat→List Int→Prop)(hQ:∀ t τ rd,RS needs ρ t τ rd→Q t rd→Q (t+1) (TS.aX (τ.outs rd,[]) rd).2) :
  ∀ (j t:Nat) (τ:TS) (rd:List Int),t+j=M+1→RS needs ρ t τ rd→Q t rd→∃ rs,kf j τ rd rs∧rs.length=j∧∀ i r,rs[i]?=some r→r.Nodup∧(∀ k,k∈r↔inR needs k∧ρ k=t+i)∧Q (t+i) r
 | 0,t,τ,rd,h,S,q=>by
  have:rd=[]:=by
   cases rd with
   | nil=>rfl
   | cons k r=>(refine aK ((S.mem k).mp List.mem_cons_self) ?_;intro h1 h2);have:=hM k h1;lia
  subst this
  exact (bq ([]) .stop rfl (fun i r e=>by simp at e))
 | j+1,t,τ,rd,h,S,q=>by
  (refine aK (BA R S) ?_;intro S2 g)
  (refine fj (kg R hM hx Q hQ j (t+1) _ _ (by lia) S2 (hQ t τ rd S q)) ?_;intro rs h1 h2 h3)
  have iD:rd≠[]:=by
   (refine xDPP (hx t (by lia)) ?_;intro k k1 k2)
   intro e
   have:=(S.mem k).mpr ⟨k1,k2⟩
   rw [e] at this;cases this
  refine (bq (rd::rs) (.turn iD g h1) (by exact Eq.symm ((fun {a b}=>Nat.succ_inj.mp) (congrArg Nat.succ (congrFun (congrArg HAdd.hAdd (id (Eq.symm h2))) 1)))) (fun i r e=>?_))
  cases i with
  | zero=>simp at e;subst e;exact ⟨S.nd,S.mem,q⟩
  | succ i =>
   have:=h3 i r (by exact Option.mem_def.mp e)
   rw [show t+(i+1)=t+1+i by exact Eq.symm (Nat.succ_add_eq_add_succ t i)]
   exact this
end L2
namespace L2
section
variable {su:Int→List Int}{ρ:Int→Nat}{nodes:List Int}
noncomputable def lj (su:Int→List Int) (qs:List (Int×Nat)):Nat:=(qs.map fun q=>(su q.1).length - q.2).sum
theorem lq(hr:∀ v k,k∈su v→ρ v<ρ k)(hm:∀ v k,k∈su v→k∈nodes):∀ (qs:List (Int×Nat)) {w:Int} {jM:List (Int×Nat)},qs.Pairwise (fun a b=>ρ b.1<ρ a.1)→popR su qs=some (w,jM) →
  jM.Pairwise (fun a b=>ρ b.1<ρ a.1)∧(∀ q∈jM,ρ q.1<ρ w)∧w∈nodes∧lj su jM<lj su qs
 | [],w,jM,_,e=>by cases e
 | (v,i)::r,w,jM,hp,e=>by
  rw [List.pairwise_cons] at hp
  unfold popR at e
  split at e
  ·rename_i x hx
   cases e
   have hk:w∈su v:=List.mem_of_getElem? hx
   have hi:i<(su v).length:=(List.getElem?_eq_some_iff.mp hx).1
   refine (aO (List.pairwise_cons.mpr ⟨hp.1,hp.2⟩) (fun q hq=>?_) (hm v w hk) ?_)
   ·rcases List.mem_cons.mp hq with rfl | hq
    ·exact hr v w hk
    ·exact Nat.lt_trans (hp.1 q hq) (hr v w hk)
   ·unfold lj
    simp only [List.map_cons,List.sum_cons]
    lia
  ·(refine bM (lq hr hm r hp.2 e) ?_;intro h1 h2 h3 h4)
   refine (aO h1 h2 h3 ?_)
   have:lj su ((v,i)::r)=((su v).length - i)+lj su r:=by unfold lj;simp
   lia
noncomputable def kh (nodes seen:List Int):Nat:=(nodes.filter fun v=>decide (v ∉ seen)).length
theorem mN{seen:List Int}{v:Int}(hv:v∈nodes)(hs:v ∉ seen):kh nodes (v::seen)<kh nodes seen:=by
 unfold kh
 have e:(nodes.filter fun x=>decide (x ∉ v::seen))=(nodes.filter fun x=>decide (x ∉ seen)).filter fun x=>decide (x≠v):=by
  rw [List.filter_filter]
  refine List.filter_congr fun x Z=>?_
  simp [List.mem_cons,not_or]
 rw [e]
 refine List.length_filter_lt_length_iff_exists.mpr (iDPP v (List.mem_filter.mpr ⟨hv,by simpa using hs⟩) (by simp))
theorem BB(hr:∀ v k,k∈su v→ρ v<ρ k)(hm:∀ v k,k∈su v→k∈nodes):∀ (U M:Nat) (seen:List Int) (qs:List (Int×Nat)) (v:Int),kh nodes seen≤U→lj su qs≤M→qs.Pairwise (fun a b=>ρ b.1<ρ a.1)→(∀ q∈qs,ρ q.1<ρ v)→v∈nodes →
  ∃ n br,Runs su n seen qs v (.fin br):=by
 intro U
 induction U using Nat.strongRecOn with
 | ind U IK =>
  intro M
  induction M with
  | zero =>
   intro seen qs v hU hM hp hv hn
   by_cases hs:v∈seen
   ·have hq:v ∉ qs.map (·.1):=fun q=>by
     (refine xDPP (List.mem_map.mp q) ?_;intro x hx aV;subst aV)
     have:=hv x hx;lia
    cases e:popR su qs with
    | none=>exact (fV 1 _ (.E5 hs hq e))
    | some y =>
     obtain ⟨w,jM⟩:=y
     (refine bM (lq hr hm qs hp e) ?_;intro Z Z Z h4)
     lia
   ·have wg:((v,0)::qs).Pairwise (fun a b=>ρ b.1<ρ a.1):=List.pairwise_cons.mpr ⟨hv,hp⟩
    cases e:popR su ((v,0)::qs) with
    | none=>exact (fV 1 _ (.E6 hs e))
    | some y =>
     obtain ⟨w,jM⟩:=y
     (refine bM (lq hr hm _ wg e) ?_;intro h1 h2 h3 h4)
     have iE:=mN hn hs
     (refine eG (IK (kh nodes (v::seen)) (by exact Nat.lt_of_lt_of_le iE hU) (lj su jM) (v::seen) jM w (Nat.le_refl _) (Nat.le_refl _) h1 h2 h3) ?_;intro n br q)
     exact (fV (n+1) br (.new hs e q))
  | succ M Kz =>
   intro seen qs v hU hM hp hv hn
   by_cases hs:v∈seen
   ·have hq:v ∉ qs.map (·.1):=fun q=>by
     (refine xDPP (List.mem_map.mp q) ?_;intro x hx bj;subst bj)
     have:=hv x hx;lia
    cases e:popR su qs with
    | none=>exact (fV 1 _ (.E5 hs hq e))
    | some y =>
     obtain ⟨w,jM⟩:=y
     (refine bM (lq hr hm qs hp e) ?_;intro h1 h2 h3 h4)
     (refine eG (Kz seen jM w hU (by lia) h1 h2 h3) ?_;intro n br q)
     exact (fV (n+1) br (.old hs hq e q))
   ·have wg:((v,0)::qs).Pairwise (fun a b=>ρ b.1<ρ a.1):=List.pairwise_cons.mpr ⟨hv,hp⟩
    cases e:popR su ((v,0)::qs) with
    | none=>exact (fV 1 _ (.E6 hs e))
    | some y =>
     obtain ⟨w,jM⟩:=y
     (refine bM (lq hr hm _ wg e) ?_;intro h1 h2 h3 h4)
     have iE:=mN hn hs
     (refine eG (IK (kh nodes (v::seen)) (by exact Nat.lt_of_lt_of_le iE hU) (lj su jM) (v::seen) jM w (Nat.le_refl _) (Nat.le_refl _) h1 h2 h3) ?_;intro n br q)
     exact (fV (n+1) br (.new hs e q))
theorem pk(hr:∀ v k,k∈su v→ρ v<ρ k)(hm:∀ v k,k∈su v→k∈nodes):∀ (l seen:List Int),(∀ v∈l,v∈nodes)→dg su l seen none
 | [],seen,_=>rfl
 | v::l,seen,h=>by
  by_cases hs:v∈seen
  ·exact .skip hs (pk hr hm l seen fun x hx=>h x (List.mem_cons_of_mem _ hx))
  ·(refine eG (BB hr hm (kh nodes seen) 0 seen [] v (Nat.le_refl _) (Nat.le_refl _) .nil (fun q hq=>by cases hq) (h v List.mem_cons_self)) ?_;intro n br q)
   exact .go hs q (pk hr hm l br fun x hx=>h x (List.mem_cons_of_mem _ hx))
end
variable {needs:List (List Int)}{ρ:Int→Nat}
theorem lr(R:ik needs ρ):dg (sig needs).su (sig needs).nodes [] none :=
 pk (ρ:=ρ) (nodes:=(sig needs).nodes) (fun v k hk=>let ⟨h1,h2⟩:=dm.mp hk;R.lt k v h1.1 h1.2 h2) (fun v k hk=>((fc R.cl).2 k).mpr (dm.mp hk).1) _ _ fun v hv=>hv
theorem tY:∀ (g:List (Int×List Int)) (b:Nat),(∀ q∈g,q.2.length≤b)→gk g≤(2 * b+1) * g.length
 | [],b,_=>Nat.zero_le _
 | q::g,b,h=>by
  have h1:=h q List.mem_cons_self
  have h2:=tY g b fun x hx=>h x (List.mem_cons_of_mem _ hx)
  rw [gk,List.length_cons,Nat.mul_succ]
  lia
theorem pn(R:ik needs ρ)(hl:needs.length≤10):zX (aY needs):=by
 refine ⟨?_,fun k hk s hs=>((fc R.cl).2 s).mpr (dm.mp hs).1,fun k=>?_⟩
 ·have:=tY (aY needs) 10 (fun q hq=>by
   (refine ba (List.getElem?_of_mem hq) ?_;intro i hi)
   have IL:i<needs.length:=by rw [← eT];exact (List.getElem?_eq_some_iff.mp hi).1
   rw [jr (List.getElem?_eq_getElem IL)] at hi
   cases hi
   have e:needs[i]=needs.getD i []:=by rw [List.getD_eq_getElem?_getD,List.getElem?_eq_getElem IL];rfl
   show needs[i].length≤10
   rw [e]
   exact Nat.le_trans (ff (R.nd i) fun x hx=>R.cl i x hx) hl)
  rw [eT] at this
  have:(2 * 10+1) * needs.length≤210:=by lia
  lia
 ·exact Nat.le_trans (ff (i9 R.nd k) fun x hx=>(dm.mp hx).1) R.len
end L2
namespace L2
noncomputable def eF (P:Nat→Bool) (b:Nat):Option Nat:=((List.range b).filter P).getLast?
theorem vt(P:Nat→Bool)(b:Nat):eF P (b+1)=if P b=true then some b else eF P b:=by
 unfold eF
 rw [List.range_succ,List.filter_append,List.filter_cons]
 by_cases h:P b=true
 ·rw [if_pos h,if_pos h];simp
 ·rw [if_neg h,if_neg h];simp
theorem ip(P:Nat→Bool):∀ b,match eF P b with | none=>∀ j,j<b→P j=false | some p=>p<b∧P p=true∧∀ j,p<j→j<b→P j=false
 | 0=>by intro j hj;lia
 | b+1=>by
  have ih:=ip P b
  rw [vt]
  by_cases h:P b=true
  ·rw [if_pos h]
   exact ⟨Nat.lt_succ_self b,h,fun j h1 h2=>by lia⟩
  ·rw [if_neg h]
   have h:P b=false:=by exact eq_false_of_ne_true h
   cases q:eF P b with
   | none =>
    rw [q] at ih
    intro j hj
    by_cases e:j=b
    ·rw [e];exact h
    ·exact ih j (by lia)
   | some p =>
    rw [q] at ih
    (refine aP ih ?_;try clear ih;intro i1 i2 i3)
    refine ⟨by exact Nat.lt_add_right 1 i1,i2,fun j h1 h2=>?_⟩
    by_cases e:j=b
    ·rw [e];exact h
    ·exact i3 j h1 (by lia)
theorem vy{P:Nat→Bool}{b p:Nat}(h1:p<b)(h2:P p=true)(h3:∀ j,p<j→j<b→P j=false):eF P b=some p:=by
 have s:=ip P b
 cases q:eF P b with
 | none=>rw [q] at s;rw [s p h1] at h2;cases h2
 | some r =>
  rw [q] at s
  (refine aP s ?_;try clear s;intro s1 s2 s3)
  rcases Nat.lt_trichotomy r p with z | z | z
  ·rw [s3 p z h1] at h2;cases h2
  ·rw [z]
  ·rw [h3 r z s1] at s2;cases s2
theorem vz{P:Nat→Bool}{b:Nat}(h:∀ j,j<b→P j=false):eF P b=none:=by
 have s:=ip P b
 cases q:eF P b with
 | none=>rfl
 | some p=>rw [q] at s;(refine aP s ?_;try clear s;intro s1 s2 Z);rw [h p s1] at s2;cases s2
theorem gn(ds:List Int)(i:Nat)(m:Int):jZ ds i m=((eF (fun j=>decide (ds.getD j 0<m)) i).map fun (j:Nat)=>(j:Int)).toList:=by
 unfold jZ eF
 rw [List.getLast?_map]
theorem nI{ds:List Int}{i:Nat}(h:i<ds.length):(overOf ds).getD i []=jZ ds i (ds.getD i 0):=by
 unfold overOf
 rw [List.getD_eq_getElem?_getD,List.getElem?_map,List.getElem?_zipIdx,List.getElem?_eq_getElem h,List.getD_eq_getElem?_getD,List.getElem?_eq_getElem h]
 simp
theorem bW{ds:List Int}{i:Nat}(h:i<ds.length):((overOf ds).getD i []=[]∧∀ j,j<i→ds.getD i 0≤ds.getD j 0) ∨
  ∃ p:Nat,(overOf ds).getD i []=[(p:Int)]∧p<i∧ds.getD p 0<ds.getD i 0∧∀ j,p<j→j<i→ds.getD i 0≤ds.getD j 0:=by
 rw [nI h,gn]
 have s:=ip (fun j=>decide (ds.getD j 0<ds.getD i 0)) i
 cases q:eF (fun j=>decide (ds.getD j 0<ds.getD i 0)) i with
 | none =>
  rw [q] at s
  refine .inl ⟨rfl,fun j hj=>?_⟩
  have:=s j hj
  simp at this;exact this
 | some p =>
  rw [q] at s
  (refine aP s ?_;try clear s;intro s1 s2 s3)
  refine .inr ⟨p,rfl,s1,by simpa using s2,fun j h1 h2=>?_⟩
  have:=s3 j h1 h2
  simp at this;exact this
theorem mO(ov:List (List Int))(ab:List Int):ak (ov++[ab])=dp (ak ov) ab:=by
 unfold ak;rw [List.foldl_append];rfl
theorem mP(ov:List (List Int)):∀ m,(ak ov).take m=ak (ov.take m):=by
 suffices h:∀ (r l:List (List Int)),(ak (l++r)).take l.length=ak l by
  intro m
  by_cases hm:m≤ov.length
  ·have:=h (ov.drop m) (ov.take m)
   rwa [List.take_append_drop,List.length_take,Nat.min_eq_left hm] at this
  ·rw [List.take_of_length_le (by rw [a7];exact Nat.le_of_not_ge hm),List.take_of_length_le (l:=ov) (by exact Nat.le_of_not_ge hm)]
 intro r
 induction r with
 | nil=>intro l;rw [List.append_nil,List.take_of_length_le (by rw [a7];exact Nat.le_refl l.length)]
 | cons x r ih =>
  intro l
  have:=ih (l++[x])
  rw [List.append_assoc] at this
  have e:(ak (l++x::r)).take l.length=((ak (l++([x]++r))).take (l++[x]).length).take l.length:=by
   rw [List.take_take];congr 1;simp
  rw [e,this,mO]
  unfold dp
  rw [List.take_append_of_le_length (by rw [a7];exact Nat.le_refl _),List.take_of_length_le (by rw [a7];exact Nat.le_refl _)]
noncomputable def lvl (ds:List Int) (i:Nat):Int:=(ak (overOf ds)).getD i 0
theorem Ar{ds:List Int}{i:Nat}(h:i<ds.length):lvl ds i=match (overOf ds).getD i [] with | []=>0 | a::_=>(ak ((overOf ds).take i)).getD a.toNat 0+1:=by
 have ho:i<(overOf ds).length:=by rw [ay];exact h
 have e:(overOf ds).take (i+1)=(overOf ds).take i++[(overOf ds).getD i []]:=by
  rw [List.take_add_one,List.getElem?_eq_getElem ho,List.getD_eq_getElem?_getD,List.getElem?_eq_getElem ho];rfl
 have e2:lvl ds i=(ak ((overOf ds).take (i+1))).getD i 0:=by
  unfold lvl
  rw [← mP,List.getD_eq_getElem?_getD,List.getD_eq_getElem?_getD,List.getElem?_take,if_pos (by exact Nat.lt_add_one i)]
 have hl:(ak ((overOf ds).take i)).length=i:=by rw [a7,List.length_take];lia
 rw [e2,e,mO]
 unfold dp
 rw [List.getD_eq_getElem?_getD,List.getElem?_append_right (by exact Nat.le_of_eq hl),hl]
 simp
 all_goals (generalize (overOf ds)[i]?.getD []=l;cases l <;> rfl)
theorem gS{ds:List Int}{i:Nat}(h:i<ds.length)(e:(overOf ds).getD i []=[]):lvl ds i=0:=by rw [Ar h,e]
theorem cW{ds:List Int}{i p:Nat}(h:i<ds.length)(e:(overOf ds).getD i []=[(p:Int)])(hp:p<i):lvl ds i=lvl ds p+1:=by
 rw [Ar h,e]
 dsimp only
 rw [← mP,List.getD_eq_getElem?_getD,List.getElem?_take,Int.toNat_natCast,if_pos hp,← List.getD_eq_getElem?_getD];rfl
theorem bX(ds:List Int):∀ i,i<ds.length→0≤lvl ds i:=by
 intro i
 induction i using Nat.strongRecOn with
 | ind i ih =>
  intro h
  rcases bW h with ⟨e,_⟩ | ⟨p,e,hp,_⟩
  ·rw [gS h e];exact Int.zero_le_ofNat 0
  ·rw [cW h e hp];have:=ih p hp (by exact Nat.lt_trans hp h);exact Int.le_add_one this
theorem pq{ds:List Int}{v:Nat}:∀ x,v<x→x<ds.length→(∀ y,v<y→y≤x→ds.getD v 0<ds.getD y 0)→lvl ds v<lvl ds x:=by
 intro x
 induction x using Nat.strongRecOn with
 | ind x ih =>
  intro hv hx hy
  rcases bW hx with ⟨_,e2⟩ | ⟨p,e,hp,e3,e4⟩
  ·have:=e2 v hv;have:=hy x hv (Nat.le_refl _);lia
  ·rw [cW hx e hp]
   rcases Nat.lt_trichotomy p v with z | z | z
   ·have:=e4 v z hv;have:=hy x hv (Nat.le_refl _);lia
   ·rw [z];exact Int.lt_succ (lvl ds v)
   ·have:=ih p hp z (by exact Nat.lt_trans hp hx) fun y h1 h2=>hy y h1 (by lia)
    lia
theorem DJ{ds:List Int}(h0:∀ i,i<ds.length→0≤ds.getD i 0):∀ i,i<ds.length→lvl ds i≤ds.getD i 0:=by
 intro i
 induction i using Nat.strongRecOn with
 | ind i ih =>
  intro h
  rcases bW h with ⟨e,_⟩ | ⟨p,e,hp,e3,_⟩
  ·rw [gS h e];exact h0 i h
  ·rw [cW h e hp];have:=ih p hp (by exact Nat.lt_trans hp h);lia
theorem lu{a b:List (List Int)}(hl:a.length=b.length)(h:∀ i,i<a.length→a.getD i []=b.getD i []):a=b:=by
 refine List.ext_getElem hl fun i h1 h2=>?_
 have:=h i h1
 rwa [List.getD_eq_getElem?_getD,List.getD_eq_getElem?_getD,List.getElem?_eq_getElem h1,List.getElem?_eq_getElem h2] at this
theorem tZ(ds:List Int):overOf (ak (overOf ds))=overOf ds:=by
 have hlen:(ak (overOf ds)).length=ds.length:=by rw [a7,ay]
 refine lu (by rw [ay,ay,hlen]) fun i hi=>?_
 rw [ay,hlen] at hi
 rw [nI (by rw [hlen];exact hi),gn]
 show ((eF (fun j=>decide (lvl ds j<lvl ds i)) i).map fun (j:Nat)=>(j:Int)).toList=_
 rcases bW hi with ⟨e,_⟩ | ⟨p,e,hp,e3,e4⟩
 ·rewrite [e,vz (fun j hj=>?_)]
  ·rfl
  ·rw [gS hi e]
   have:=bX ds j (by exact Nat.lt_trans hj hi)
   simp;exact Int.le_of_sub_one_lt this
 ·have hl:=cW hi e hp
  rewrite [e,vy hp (by simp;exact Int.lt.intro (id (Eq.symm hl))) fun j h1 h2=>?_]
  ·rfl
  ·have:=pq (ds:=ds) (v:=p) j h1 (by exact Nat.lt_trans h2 hi) fun y q1 q2=>by have:=e4 y q1 (by exact Nat.lt_of_le_of_lt q2 h2);exact Int.lt_of_lt_of_le e3 this
   simp;exact le_of_eq_of_le hl this
theorem yk{ds ws:List Int}(hl:ws.length=ds.length)(h:∀ i j,i<ds.length→j<ds.length→(ws.getD j 0<ws.getD i 0↔ds.getD j 0<ds.getD i 0)):overOf ws=overOf ds:=by
 refine lu (by rw [ay,ay,hl]) fun i hi=>?_
 rw [ay,hl] at hi
 rw [nI (by exact Nat.lt_of_lt_of_eq hi (id (Eq.symm hl))),nI hi,gn,gn]
 have e:eF (fun j=>decide (ws.getD j 0<ws.getD i 0)) i=eF (fun j=>decide (ds.getD j 0<ds.getD i 0)) i:=by
  unfold eF
  congr 1
  refine List.filter_congr fun j hj=>?_
  rw [List.mem_range] at hj
  simp only [h i j hi (by exact Nat.lt_trans hj hi)]
 rw [e]
end L2
namespace L2
theorem ja{needs:List (List Int)}{ρ:Int→Nat}(R:ik needs ρ):∀ (M:Nat),(∃ k,inR needs k∧ρ k=M)→∀ t,t≤M→∃ k,inR needs k∧ρ k=t
 | 0,h,t,ht=>by rw [show t=0 by exact Nat.eq_zero_of_le_zero ht];exact h
 | M+1,⟨k,h1,h2⟩,t,ht=>by
  by_cases e:t=M+1
  ·exact (iDPP k h1 (h2.trans e.symm))
  ·(refine xDPP (R.step k M h1.1 h1.2 h2) ?_;intro p p1 p2)
   exact ja R M (iDPP p (R.cl _ _ p1) p2) t (by lia)
theorem pw:∀ (ws:List Int) (τ:TS) (out:List Int),ws.Nodup→(∀ v,(τ.su v).Nodup)→(∀ w∈ws,∀ w'∈ws,w' ∉ τ.su w)→(∀ w∈ws,∀ k∈τ.su w,τ.np k=1)→(∀ w∈ws,∀ w'∈ws,∀ k,k∈τ.su w→k∈τ.su w'→w=w') →
  (TS.aX (τ,out) ws).2=out++ws.flatMap τ.su
 | [],τ,out,_,_,_,_,_=>by simp [TS.aX]
 | w::ws,τ,out,hn,hs,hi,h1,hd=>by
  rw [List.nodup_cons] at hn
  have e:TS.aX (τ,out) (w::ws)=TS.aX (TS.dI (τ,out) w) ws:=rfl
  rw [e]
  (refine bM (ph τ out w (hs w) (hi w List.mem_cons_self w List.mem_cons_self)) ?_;intro a1 a2 a3 a4)
  generalize TS.dI (τ,out) w=st at a1 a2 a3 a4 ⊢
  obtain ⟨τ1,HA⟩:=st
  simp only at a1 a2 a3 a4
  have e2:(τ.su w).filter (fun k=>τ.np k - 1 == 0)=τ.su w:=List.filter_eq_self.mpr fun k hk=>by rw [h1 w List.mem_cons_self k hk];rfl
  rw [e2] at a4
  subst a4
  rewrite [pw ws τ1 (out++τ.su w) hn.2 (by rw [a2];exact hs) (by rw [a2];exact fun x hx y hy=>hi x (List.mem_cons_of_mem _ hx) y (List.mem_cons_of_mem _ hy)) (fun x hx k hk=>?_) (by rw [a2];exact fun x hx y hy=>hd x (List.mem_cons_of_mem _ hx) y (List.mem_cons_of_mem _ hy)),a2]
  ·simp
  ·rw [a2] at hk
   have k1:k≠w:=fun z=>hi x (List.mem_cons_of_mem _ hx) w List.mem_cons_self (z▸hk)
   have k2:k ∉ τ.su w:=fun z=>hn.1 (hd w List.mem_cons_self x (List.mem_cons_of_mem _ hx) k z hk▸hx)
   rw [a3,if_neg k1,if_neg k2]
   exact h1 x (List.mem_cons_of_mem _ hx) k hk
noncomputable def nt (ds:List Int) (k:Int):Nat:=(lvl ds k.toNat).toNat
theorem t5{ds:List Int}{i:Nat}(h:ds.length≤i):(overOf ds).getD i []=[]:=by
 rw [List.getD_eq_getElem?_getD,List.getElem?_eq_none (by rw [ay];exact h)];rfl
theorem fg{ds:List Int}{i:Nat}{p:Int}(h:p∈(overOf ds).getD i []):i<ds.length∧∃ q:Nat,p=q∧(overOf ds).getD i []=[(q:Int)]∧q<i∧ds.getD q 0<ds.getD i 0∧∀ j,q<j→j<i→ds.getD i 0≤ds.getD j 0:=by
 by_cases hi:i<ds.length
 ·rcases bW hi with ⟨e,_⟩ | ⟨q,e,r⟩
  ·rw [e] at h;cases h
  ·refine (yp hi q ?_ e r)
   rw [e] at h;simpa using h
 ·rw [t5 (by exact Nat.le_of_not_lt hi)] at h;cases h
theorem bO{ds:List Int}(hl:ds.length≤100):ik (overOf ds) (nt ds) where
 cl:=fun i p h=>by
  (refine vH (fg h) ?_;intro h1 q aV;subst aV;intro Z h2 Z)
  rw [ay];lia
 nd:=fun i=>by
  by_cases hi:i<ds.length
  ·rcases bW hi with ⟨e,_⟩ | ⟨q,e,_⟩ <;> rw [e] <;> simp
  ·rw [t5 (by exact Nat.le_of_not_lt hi)];exact List.nodup_nil
 lt:=fun k p h1 h2 h=>by
  (refine vH (fg h) ?_;intro h1 q bj;subst bj;intro e h2 Z)
  have:=cW h1 e h2
  have:=bX ds q (by exact Nat.lt_trans h2 h1)
  unfold nt
  rewrite [Int.toNat_natCast];lia
 step:=fun k t h1 h2 h=>by
  rw [ay] at h2
  have hi:k.toNat<ds.length:=by exact (Int.toNat_lt h1).mpr h2
  unfold nt at h
  rcases bW hi with ⟨e,_⟩ | ⟨q,e,hq,_⟩
  ·rw [gS hi e] at h;simp at h
  ·refine ⟨q,by unfold bV;rw [e];simp,?_⟩
   have:=cW hi e hq
   have:=bX ds q (by exact Nat.lt_trans hq hi)
   unfold nt
   rewrite [Int.toNat_natCast];lia
 len:=by rw [ay];exact hl
theorem dX{ds:List Int}{v c:Int}(h:c∈(sig (overOf ds)).su v):∃ i q:Nat,c=i∧v=q∧i<ds.length∧(overOf ds).getD i []=[(q:Int)]∧q<i∧ds.getD q 0<ds.getD i 0∧∀ j,q<j→j<i→ds.getD i 0≤ds.getD j 0:=by
 (refine aK (dm.mp h) ?_;intro bH h3;refine aK bH ?_;clear bH;intro h1 h2)
 (refine jy (fg h3) ?_;intro q1 q q2 q3)
 exact (cS c.toNat q (by exact Int.eq_natCast_toNat.mpr h1) q2 q1 q3)
theorem qH{ds:List Int}{v w c d:Int}(hv:0≤v)(KD:v<w)(hl:nt ds v=nt ds w)(hc:c∈(sig (overOf ds)).su v)(hd:d∈(sig (overOf ds)).su w):c<d:=by
 (refine jO (dX hc) ?_;intro i p cw;subst cw;intro cR;subst cR;intro i1 i2 i3 i4 i5)
 (refine jO (dX hd) ?_;intro j q fu;subst fu;intro gp;subst gp;intro j1 j2 j3 j4 j5)
 refine Classical.byContradiction fun hn=>?_
 have Ls:i≠j:=fun z=>by
  subst z
  rw [i2] at j2
  have:(p:Int)=q:=by simpa using j2
  lia
 have:=pq (ds:=ds) (v:=p) q (by exact Int.ofNat_lt.mp KD) (by exact Nat.lt_trans j3 j1) fun y h1 h2=>by
  have:=i5 y h1 (by lia);exact Int.lt_of_lt_of_le i4 this
 unfold nt at hl
 rw [Int.toNat_natCast,Int.toNat_natCast] at hl
 have:=bX ds p (by exact Nat.lt_trans i3 i1)
 lia
theorem vA{ds:List Int}(hl:ds.length≤100)(t:Nat)(τ:TS)(rd:List Int)(S:RS (overOf ds) (nt ds) t τ rd):(TS.aX (τ.outs rd,[]) rd).2=rd.flatMap (sig (overOf ds)).su:=by
 have R:=bO hl
 (refine aK (TS.cP τ rd) ?_;intro o1 o2)
 have yo:(τ.outs rd).su=(sig (overOf ds)).su:=o2.trans S.su
 have DZ:=ij rd τ
 have:=pw rd (τ.outs rd) [] S.nd (by rw [yo];exact i9 R.nd) (by
  rw [yo]
  intro w hw w' D0 h
  (refine aK (dm.mp h) ?_;intro h1 h2)
  have:=R.lt w' w h1.1 h1.2 h2
  have:=((S.mem w).mp hw).2
  have:=((S.mem w').mp D0).2
  lia) (by
  rw [yo]
  intro w hw k hk
  (refine aK (dm.mp hk) ?_;intro h1 h2)
  have hr:=R.lt k w h1.1 h1.2 h2
  have ht:=((S.mem w).mp hw).2
  rw [DZ,if_neg (fun q=>by have:=((S.mem k).mp q).2;lia),S.np k h1 (by lia)]
  (refine fk (dX hk) ?_;intro i p nA;subst nA;intro qo;subst qo;intro i1 i2 Z)
  unfold bV
  rw [Int.toNat_natCast,i2,List.filter_cons,if_pos (by simp;exact Nat.le_of_eq (id (Eq.symm ht)))];rfl) (by
  rw [yo]
  intro w hw w' D0 k h1 h2
  (refine fk (dX h1) ?_;intro i p iC;subst iC;intro gX;subst gX;intro i1 i2 Z)
  (refine fk (dX h2) ?_;intro j q e m8;subst m8;intro j1 j2 Z)
  have:i=j:=by exact Int.ofNat_inj.mp e
  subst this
  rw [i2] at j2
  simpa using j2)
 rw [this,yo];rfl
theorem t6{ds:List Int}(hl:ds.length≤100)(t:Nat)(τ:TS)(rd:List Int)(S:RS (overOf ds) (nt ds) t τ rd)(hs:rd.Pairwise (·<·)):(TS.aX (τ.outs rd,[]) rd).2.Pairwise (·<·):=by
 have R:=bO hl
 rw [vA hl t τ rd S,List.pairwise_flatMap]
 refine ⟨fun v Z=>by rw [pg];exact jt R.nd _ v,?_⟩
 refine List.Pairwise.imp_of_mem (fun {a b} ha hb vX x hx y hy=>?_) hs
 (refine aK ((S.mem a).mp ha) ?_;intro a1 a2)
 (refine aK ((S.mem b).mp hb) ?_;intro b1 b2)
 exact qH a1.1 vX (a2.trans b2.symm) hx hy
theorem jb{fs:List Int}{t:Nat}{k:Int}:k∈cg fs t↔0≤k∧k<fs.length∧fs.getD k.toNat 0=t:=by
 unfold cg
 constructor
 ·intro h
  (refine xDPP (List.mem_map.mp h) ?_;intro j hj lH;subst lH)
  rw [List.mem_filter,List.mem_range] at hj
  refine ⟨by exact Int.natCast_nonneg j,by lia,?_⟩
  rw [Int.toNat_natCast];simpa using hj.2
 ·(intro pL;refine aP pL ?_;clear pL;intro h1 h2 h3)
  refine List.mem_map.mpr (iDPP k.toNat (List.mem_filter.mpr ⟨List.mem_range.mpr (by exact (Int.toNat_lt h1).mpr h2),by rw [h3];simp⟩) (by exact Int.toNat_of_nonneg h1))
theorem bE(fs:List Int)(t:Nat):(cg fs t).Pairwise (·<·):=by
 unfold cg
 rw [List.pairwise_map]
 exact (List.pairwise_lt_range.filter _).imp fun h=>by exact Int.ofNat_lt.mpr h
theorem ju{a b:List Int}(ha:a.Pairwise (·<·))(hb:b.Pairwise (·<·))(h:∀ k,k∈a↔k∈b):a=b :=
 List.Perm.eq_of_pairwise (le:=(·<·)) (fun x y Z Z h1 h2=>by lia) ha hb ((List.perm_ext_iff_of_nodup (ha.imp fun h=>by exact Int.ne_of_lt h) (hb.imp fun h=>by exact Int.ne_of_lt h)).mpr h)
theorem mQ(n:Int):∀ (ps:List Int) (σ:TS),(∀ p∈ps,p∈σ.nodes)→(ps.foldl (TS.behind n) σ).nodes=σ.nodes
 | [],σ,_=>rfl
 | p::ps,σ,h=>by
  have e:(TS.behind n σ p).nodes=σ.nodes:=by
   show (if p∈σ.nodes then σ.nodes else σ.nodes++[p])=σ.nodes
   rw [if_pos (h p List.mem_cons_self)]
  rw [List.foldl_cons,mQ n ps _ (fun q hq=>by rw [e];exact h q (List.mem_cons_of_mem _ hq)),e]
theorem pz{needs:List (List Int)}(h:∀ i p,p∈needs.getD i []→0≤p∧p<(i:Int)):∀ m,m≤needs.length→(TS.none.adds (aY (needs.take m))).nodes=(List.range m).map fun (j:Nat)=>(j:Int)
 | 0,_=>rfl
 | m+1,hm=>by
  have ih:=pz h m (by exact Nat.le_of_succ_le hm)
  rw [pd needs m (by exact Nat.lt_of_succ_le hm),qG]
  generalize TS.none.adds (aY (needs.take m))=σ at ih
  have hg:((σ.get m).more m ((σ.get m).np m+(needs.getD m []).length)).nodes=(List.range (m+1)).map fun (j:Nat)=>(j:Int):=by
   show (if (m:Int)∈σ.nodes then σ.nodes else σ.nodes++[(m:Int)])=_
   rw [if_neg (by rw [ih];simp;lia),ih,List.range_succ,List.map_append];rfl
  show ((needs.getD m []).foldl (TS.behind m) ((σ.get m).more m ((σ.get m).np m+(needs.getD m []).length))).nodes=_
  rewrite [mQ _ _ _ (fun p hp=>?_),hg]
  rfl
  rw [hg]
  (refine aK (h m p hp) ?_;intro h1 h2)
  exact List.mem_map.mpr (iDPP p.toNat (List.mem_range.mpr (by lia)) (by exact Int.toNat_of_nonneg h1))
theorem t7{ds:List Int}(hl:ds.length≤100){M:Nat}(hM:∀ i,i<ds.length→lvl ds i≤M)(hx:∃ i,i<ds.length∧lvl ds i=M) :
  kf (M+1) (sig (overOf ds)) (freeOf (overOf ds)) (aw (ak (overOf ds)) M)∧freeOf (overOf ds)=cg (ak (overOf ds)) 0:=by
 have R:=bO hl
 have h0:=wI R
 have hb:∀ k,inR (overOf ds) k→nt ds k≤M:=fun k hk=>by
  unfold inR at hk
  rw [ay] at hk
  have:=hM k.toNat (by lia)
  unfold nt;exact Int.toNat_le.mpr this
 have hk:∀ t,t≤M→∃ k,inR (overOf ds) k∧nt ds k=t:=ja R M (by
  (refine xDPP hx ?_;try clear hx;intro i h1 h2)
  refine (iDPP i (⟨by exact Int.natCast_nonneg i,by rw [ay];exact Int.ofNat_lt.mpr h1⟩) ?_)
  unfold nt
  rewrite [Int.toNat_natCast,h2];rfl)
 have mem:∀ t k,(inR (overOf ds) k∧nt ds k=t)↔k∈cg (ak (overOf ds)) t:=fun t k=>by
  rw [jb,a7]
  show _↔0≤k∧k<((overOf ds).length:Int)∧lvl ds k.toNat=t
  unfold inR nt
  constructor
  ·(intro nV;refine aK nV ?_;clear nV;intro w6 h3;refine aK w6 ?_;clear w6;intro h1 h2)
   have:=bX ds k.toNat (by rw [ay] at h2;exact (Int.toNat_lt h1).mpr h2)
   exact ⟨h1,h2,by lia⟩
  ·rintro ⟨h1,h2,h3⟩
   exact ⟨⟨h1,h2⟩,by rw [h3];rfl⟩
 have IM:(freeOf (overOf ds)).Pairwise (·<·):=by
  unfold freeOf TS.free
  refine List.Pairwise.filter _ ?_
  have:=pz (needs:=overOf ds) (fun i p h=>by
   obtain ⟨_,q,rfl,_,h2,_⟩:=fg h
   lia) (overOf ds).length (Nat.le_refl _)
  rw [List.take_of_length_le (Nat.le_refl _)] at this
  rw [show (sig (overOf ds)).nodes=_ from this,List.pairwise_map]
  exact List.pairwise_lt_range.imp fun h=>by exact Int.ofNat_lt.mpr h
 (refine fj (kg R hb hk (fun Z rd=>rd.Pairwise (·<·)) (fun t τ rd S q=>t6 hl t τ rd S q) (M+1) 0 _ _ (by exact Nat.add_comm 0 (M+1)) h0 IM) ?_;intro rs q1 q2 q3)
 have e:rs=aw (ak (overOf ds)) M:=by
  unfold aw
  have hm:(1+(M:Int)).toNat=M+1:=by lia
  rw [hm]
  refine List.ext_getElem? fun i=>?_
  rw [List.getElem?_map]
  by_cases hi:i<M+1
  ·rw [List.getElem?_range hi]
   have Cp:i<rs.length:=by exact Nat.lt_of_lt_of_eq hi (id (Eq.symm q2))
   rw [List.getElem?_eq_getElem Cp]
   (refine aP (q3 i _ (List.getElem?_eq_getElem Cp)) ?_;intro r1 r2 r3)
   rw [Option.map_some,ju r3 (bE _ i) fun k=>by rw [r2,← mem,Nat.zero_add]]
  ·rw [List.getElem?_eq_none (by lia),List.getElem?_eq_none (by simp;exact Nat.le_of_not_lt hi)];rfl
 rw [e] at q1
 exact ⟨q1,ju IM (bE _ 0) fun k=>by rw [h0.mem,mem]⟩
end L2
namespace L2
section
variable {ds:List Int}
noncomputable abbrev Lv (ds:List Int) (t:Nat):List Int:=cg (ak (overOf ds)) t
noncomputable abbrev lA (ds:List Int):Int→List Int:=(sig (overOf ds)).su
theorem dD{t:Nat}{k:Int}:k∈Lv ds t↔inR (overOf ds) k∧nt ds k=t:=by
 rw [jb,a7]
 show 0≤k∧k<((overOf ds).length:Int)∧lvl ds k.toNat=t↔_
 unfold inR nt
 constructor
 ·(intro aV;refine aP aV ?_;clear aV;intro h1 h2 h3)
  exact ⟨⟨h1,h2⟩,by rw [h3];rfl⟩
 ·(intro bj;refine aK bj ?_;clear bj;intro bH h3;refine aK bH ?_;clear bH;intro h1 h2)
  have:=bX ds k.toNat (by rw [ay] at h2;exact (Int.toNat_lt h1).mpr h2)
  exact ⟨h1,h2,by lia⟩
theorem sh(hl:ds.length≤100)(t:Nat):(Lv ds t).flatMap (lA ds)=Lv ds (t+1):=by
 have R:=bO hl
 refine ju ?_ (bE _ _) fun k=>?_
 ·rw [List.pairwise_flatMap]
  refine ⟨fun v Z=>by unfold lA;rw [pg];exact jt R.nd _ v,?_⟩
  refine List.Pairwise.imp_of_mem (fun {a b} ha hb vX x hx y hy=>?_) (bE _ t)
  (refine aK (dD.mp ha) ?_;intro a1 a2)
  (refine aK (dD.mp hb) ?_;intro b1 b2)
  exact qH a1.1 vX (a2.trans b2.symm) hx hy
 ·rw [List.mem_flatMap,dD]
  constructor
  ·(intro cw;refine xDPP cw ?_;clear cw;intro w hw hk)
   (refine aK (dD.mp hw) ?_;intro w1 w2)
   (refine je (dX hk) ?_;intro i q cR;subst cR;intro fu;subst fu;intro i1 i2 i3 Z)
   refine ⟨(dm.mp hk).1,?_⟩
   have:=cW i1 i2 i3
   have:=bX ds q (by exact Nat.lt_trans i3 i1)
   unfold nt at w2 ⊢
   rw [Int.toNat_natCast] at w2 ⊢
   lia
  ·(intro gp;refine aK gp ?_;clear gp;intro h1 h2)
   (refine xDPP (R.step k t h1.1 h1.2 h2) ?_;intro p p1 p2)
   exact (iDPP p (dD.mpr ⟨R.cl _ _ p1,p2⟩) (dm.mpr ⟨h1,p1⟩))
theorem si(t:Nat):(Lv ds t).length≤ds.length:=ff ((bE _ t).imp fun h=>by exact Int.ne_of_lt h) fun x hx=>by
 have:=(dD.mp hx).1
 unfold inR at this
 rwa [ay] at this
structure HS(ds:List Int)(t:Nat)(ys xs:List Int)(σ:TS):Prop where
 no:σ.nodes=(sig (overOf ds)).nodes
 su:σ.su=lA ds
 lv:Lv ds t=ys++xs
 wait:∀ k,k∈xs∨k∈ys.flatMap (lA ds)→σ.np k=-1
 rest:∀ k,inR (overOf ds) k→t+1≤nt ds k→k ∉ ys.flatMap (lA ds)→σ.np k=1
theorem Fo{t:Nat}{ys xs:List Int}{σ:TS}(H:HS ds t ys xs σ):(ys++xs).Nodup:=by rw [← H.lv];exact (bE _ t).imp fun h=>by exact Int.ne_of_lt h
theorem BC{v w k:Int}(h1:k∈lA ds v)(h2:k∈lA ds w):v=w:=by
 (refine fk (dX h1) ?_;intro i p nA;subst nA;intro qo;subst qo;intro i1 i2 Z)
 (refine fk (dX h2) ?_;intro j q e iC;subst iC;intro j1 j2 Z)
 have:i=j:=by exact Int.ofNat_inj.mp e
 subst this
 rw [i2] at j2
 simpa using j2
theorem sj(hl:ds.length≤100){v k:Int}(h:k∈lA ds v):nt ds k=nt ds v+1:=by
 (refine je (dX h) ?_;intro i q gX;subst gX;intro m8;subst m8;intro i1 i2 i3 Z)
 have:=cW i1 i2 i3
 have:=bX ds q (by exact Nat.lt_trans i3 i1)
 unfold nt
 rewrite [Int.toNat_natCast,Int.toNat_natCast];lia
theorem BD(hl:ds.length≤100){t:Nat}{ys xs:List Int}{v:Int}{σ:TS}(H:HS ds t ys (v::xs) σ):(TS.aX (σ,[]) [v]).2=lA ds v∧HS ds t (ys++[v]) xs ((TS.aX (σ,[]) [v]).1.outs (TS.aX (σ,[]) [v]).2):=by
 have R:=bO hl
 have nd:=Fo H
 have hv:v∈Lv ds t:=by rw [H.lv];simp
 (refine aK (dD.mp hv) ?_;intro v1 v2)
 have KG:v ∉ σ.su v:=fun q=>by rw [H.su] at q;have:=sj hl q;lia
 have KH:v ∉ ys:=fun q=>by
  rw [List.nodup_append] at nd
  exact nd.2.2 v q v List.mem_cons_self rfl
 have e:TS.aX (σ,[]) [v]=TS.dI (σ,[]) v:=rfl
 rw [e]
 (refine bM (ph σ [] v (by rw [H.su];exact i9 R.nd v) KG) ?_;intro a1 a2 a3 a4)
 have e1:(TS.dI (σ,[]) v).2=lA ds v:=by
  rw [a4,List.nil_append,H.su]
  refine List.filter_eq_self.mpr fun k hk=>?_
  rewrite [H.rest k (dm.mp hk).1 (by have:=sj hl hk;lia) fun q=>?_]
  ·rfl
  ·(refine xDPP (List.mem_flatMap.mp q) ?_;intro w hw HD)
   exact KH (BC hk HD▸hw)
 refine ⟨e1,?_⟩
 rw [e1]
 generalize TS.dI (σ,[]) v=st at a1 a2 a3
 obtain ⟨τ,out⟩:=st
 simp only at a1 a2 a3
 (refine aK (TS.cP τ (lA ds v)) ?_;intro o1 o2)
 have fm:∀ k,k∈(ys++[v]).flatMap (lA ds)↔k∈ys.flatMap (lA ds)∨k∈lA ds v:=fun k=>by rw [List.flatMap_append];simp
 have ig:∀ k,k∈ys.flatMap (lA ds)→nt ds k=t+1:=fun k hk=>by
  (refine xDPP (List.mem_flatMap.mp hk) ?_;intro w hw HD)
  have:=(dD.mp (show w∈Lv ds t by rw [H.lv];simp [hw])).2
  have:=sj hl HD
  lia
 refine ⟨o1.trans (a1.trans H.no),o2.trans (a2.trans H.su),by rw [H.lv];simp,fun k hk=>?_,fun k h1 h2 h3=>?_⟩
 ·rw [fm] at hk
  rw [ij]
  by_cases q:k∈lA ds v
  ·rw [if_pos q]
  ·rw [if_neg q,a3,if_neg (fun z=>?_),H.su,if_neg q]
   ·rcases hk with hk | hk | hk
    ·exact H.wait k (.inl (List.mem_cons_of_mem _ hk))
    ·exact H.wait k (.inr hk)
    ·exact (q hk).elim
   ·subst z
    rcases hk with hk | hk | hk
    ·rw [List.nodup_append,List.nodup_cons] at nd
     exact nd.2.1.1 hk
    ·have:=ig k hk;lia
    ·exact q hk
 ·rw [fm] at h3
  have n1:k ∉ lA ds v:=fun q=>h3 (.inr q)
  rw [ij,if_neg n1,a3,if_neg (fun z=>by rw [z] at h2;lia),H.su,if_neg n1]
  exact H.rest k h1 h2 fun q=>h3 (.inl q)
noncomputable def fH (ds:List Int) (p:Int):Int×List Int:=(p,lA ds p)
theorem BE(hl:ds.length≤100){M:Nat}(hM:Lv ds (M+1)=[]):∀ (j t:Nat),t+j=M→∀ (xs ys:List Int) (σ:TS),HS ds t ys xs σ →
  ∃ n,xT n σ (xs++ys.flatMap (lA ds)) (xs.map (fH ds)++((List.range j).map fun i=>Lv ds (t+1+i)).flatMap fun l=>l.map (fH ds)):=by
 have R:=bO hl
 have turn:∀ (t:Nat) (more:List (Int×List Int)),(∀ (ys:List Int) (σ:TS),HS ds t ys [] σ→∃ n,xT n σ (ys.flatMap (lA ds)) more)→∀ (xs ys:List Int) (σ:TS),HS ds t ys xs σ→∃ n,xT n σ (xs++ys.flatMap (lA ds)) (xs.map (fH ds)++more):=by
  intro t more h0 xs
  induction xs with
  | nil=>intro ys σ H;simpa using h0 ys σ H
  | cons v xs ih =>
   intro ys σ H
   (refine aK (BD hl H) ?_;intro e1 H2)
   (refine ba (ih (ys++[v]) _ H2) ?_;intro n q)
   have hv:v∈Lv ds t:=by rw [H.lv];simp
   (refine aK (dD.mp hv) ?_;intro v1 v2)
   have HE:(ys++v::xs).length≤100:=by rw [← H.lv];exact Nat.le_trans (si t) hl
   have KJ:(ys.flatMap (lA ds)).length≤100:=by
    have:(Lv ds (t+1)).length≤100:=Nat.le_trans (si _) hl
    rw [← sh hl t,H.lv,List.flatMap_append,List.length_append] at this
    exact Nat.le_of_add_right_le this
   refine ⟨n+1,?_⟩
   have ht:=xT.turn (n:=n) (σ:=σ) (v:=v) (r:=xs++ys.flatMap (lA ds)) (more:=xs.map (fH ds)++more) (by rw [H.no];exact ((fc R.cl).2 v).mpr v1) (H.wait v (.inl List.mem_cons_self))
    (fun k hk=>by rw [e1] at hk;rw [H.no];exact ((fc R.cl).2 k).mpr (dm.mp hk).1)
    (by simp only [List.length_cons,List.length_append] at HE ⊢;lia) (by
     rw [e1] at q ⊢
     have e2:xs++ys.flatMap (lA ds)++lA ds v=xs++(ys++[v]).flatMap (lA ds):=by rw [List.flatMap_append];simp
     rw [e2];exact q)
   rw [e1] at ht
   exact ht
 intro j
 induction j with
 | zero =>
  intro t ht
  refine turn t _ fun ys σ H=>⟨0,?_⟩
  have e:=sh hl t
  rw [H.lv,List.append_nil] at e
  rw [e,show t+1=M+1 by exact Nat.add_left_inj.mpr ht,hM]
  exact .stop
 | succ j ih =>
  intro t ht
  refine turn t _ fun ys σ H=>?_
  have e:=sh hl t
  rw [H.lv,List.append_nil] at e
  have H2:HS ds (t+1) [] (Lv ds (t+1)) σ:=by
   refine ⟨H.no,H.su,rfl,fun k hk=>?_,fun k h1 h2 h3=>?_⟩
   ·rcases hk with hk | hk
    ·exact H.wait k (.inr (by rw [e];exact hk))
    ·simp at hk
   ·refine H.rest k h1 (by exact Nat.le_of_succ_le h2) fun q=>?_
    rw [e] at q
    have:=(dD.mp q).2
    lia
  (refine ba (ih (t+1) (by lia) (Lv ds (t+1)) [] σ H2) ?_;intro n q)
  refine (bA n ?_)
  rw [e,List.range_succ_eq_map]
  simp only [List.map_cons,List.flatMap_cons,List.map_map,List.flatMap_nil,List.append_nil] at q ⊢
  have e3:((List.range j).map ((fun i=>Lv ds (t+1+i)) ∘ Nat.succ))=(List.range j).map fun i=>Lv ds (t+1+1+i):=by
   refine List.map_congr_left fun i Z=>?_
   show Lv ds (t+1+(i+1))=Lv ds (t+1+1+i)
   congr 1;exact Eq.symm (Nat.add_right_comm (t+1) 1 i)
  rw [e3]
  exact q
end
end L2
namespace L2
theorem pA{ds:List Int}{p:Nat}(h:p<ds.length):(aj (overOf ds)).getD p []=dW (overOf ds) p:=by
 unfold aj
 rw [List.getD_eq_getElem?_getD,List.getElem?_map,List.getElem?_range (by rw [ay];exact h)];rfl
theorem mR{ds:List Int}{p:Nat}{k:Int}:k∈dW (overOf ds) p↔0≤k∧k<(ds.length:Int)∧(overOf ds).getD k.toNat []=[(p:Int)]:=by
 unfold dW
 constructor
 ·intro h
  (refine xDPP (List.mem_map.mp h) ?_;intro j hj aV;subst aV)
  rw [List.mem_filter,List.mem_range,ay] at hj
  refine ⟨by exact Int.natCast_nonneg j,by lia,?_⟩
  rw [Int.toNat_natCast];exact eq_of_beq hj.2
 ·(intro bj;refine aP bj ?_;clear bj;intro h1 h2 h3)
  exact List.mem_map.mpr ⟨k.toNat,List.mem_filter.mpr ⟨List.mem_range.mpr (by rw [ay];exact (Int.toNat_lt h1).mpr h2),by rw [h3];exact beq_self_eq_true _⟩,by exact Int.toNat_of_nonneg h1⟩
theorem jc(ov:List (List Int))(p:Nat):(dW ov p).Pairwise (·<·):=by
 unfold dW
 rw [List.pairwise_map]
 exact (List.pairwise_lt_range.filter _).imp fun h=>by exact Int.ofNat_lt.mpr h
theorem As{ds:List Int}(hl:ds.length≤100){v:Int}(h1:0≤v)(h2:v<ds.length):lA ds v=(aj (overOf ds)).getD v.toNat []:=by
 have R:=bO hl
 rw [pA (by exact (Int.toNat_lt h1).mpr h2)]
 refine ju (by unfold lA;rw [pg];exact jt R.nd _ v) (jc _ _) fun k=>?_
 rw [mR]
 constructor
 ·intro hk
  (refine fk (dX hk) ?_;intro i q bH;subst bH;intro cw;subst cw;intro i1 i2 Z)
  refine ⟨by exact Int.natCast_nonneg i,by exact Int.ofNat_lt.mpr i1,?_⟩
  rw [Int.toNat_natCast,Int.toNat_natCast];exact i2
 ·(intro cR;refine aP cR ?_;clear cR;intro k1 k2 k3)
  refine dm.mpr ⟨⟨k1,by rw [ay];exact k2⟩,?_⟩
  unfold bV
  rw [k3]
  simp;exact Eq.symm (Int.max_eq_left h1)
theorem t8{ds:List Int}(hl:ds.length≤100){M:Nat}(hM:∀ i,i<ds.length→lvl ds i≤M)(hf:freeOf (overOf ds)=Lv ds 0) :
  ∃ n,xT n ((sig (overOf ds)).outs (freeOf (overOf ds))) (freeOf (overOf ds)) (fS ds M):=by
 have R:=bO hl
 (refine aK (TS.cP (sig (overOf ds)) (Lv ds 0)) ?_;intro o1 o2)
 have hE:Lv ds (M+1)=[]:=by
  refine List.eq_nil_iff_forall_not_mem.mpr fun k hk=>?_
  (refine aK (dD.mp hk) ?_;intro h1 h2)
  unfold inR at h1
  rw [ay] at h1
  have:=hM k.toNat (by lia)
  unfold nt at h2
  lia
 rw [hf]
 have H:HS ds 0 [] (Lv ds 0) ((sig (overOf ds)).outs (Lv ds 0)):=by
  refine ⟨o1,o2,rfl,fun k hk=>?_,fun k h1 h2 Z=>?_⟩
  ·rcases hk with hk | hk
   ·rw [ij,if_pos hk]
   ·simp at hk
  ·rw [ij,if_neg (fun q=>by have:=(dD.mp q).2;lia),sf,if_pos (show 0≤k∧k<((overOf ds).length:Int) from h1)]
   unfold inR at h1
   rw [ay] at h1
   rcases bW (show k.toNat<ds.length by lia) with ⟨e,_⟩ | ⟨q,e,_⟩
   ·have:=gS (show k.toNat<ds.length by lia) e
    unfold nt at h2
    lia
   ·rw [e];rfl
 (refine ba (BE hl hE M 0 (by exact Nat.zero_add M) (Lv ds 0) [] _ H) ?_;intro n q)
 refine ⟨n,?_⟩
 simp only [List.flatMap_nil,List.append_nil] at q
 have e:fS ds M=(Lv ds 0).map (fH ds)++((List.range M).map fun i=>Lv ds (0+1+i)).flatMap fun l=>l.map (fH ds):=by
  have ef:∀ t,(Lv ds t).map (fH ds)=(Lv ds t).map fun p=>(p,(aj (overOf ds)).getD p.toNat []):=fun t=>List.map_congr_left fun p hp=>by
   have h1:=(dD.mp hp).1
   unfold inR at h1
   rw [ay] at h1
   show (p,lA ds p)=_
   rw [As hl h1.1 h1.2]
  unfold fS aw
  have hm:(1+(M:Int)).toNat=M+1:=by lia
  rewrite [hm,List.range_succ_eq_map,List.map_cons,List.flatMap_cons,ef,List.map_map]
  congr 1
  rewrite [List.flatMap_map,List.flatMap_map]
  congr 1
  funext i
  show (cg (ak (overOf ds)) (i+1)).map _=(Lv ds (0+1+i)).map (fH ds)
  rw [ef,show 0+1+i=i+1 by exact Nat.add_comm (0+1) i]
 rw [e];exact q
end L2
namespace L2
theorem pB(un:List (List Int)):∀ (d m j:Nat),(mF un m).getD j 0=(mF un (m+d)).getD (j+d) 0
 | 0,m,j=>rfl
 | d+1,m,j=>by
  rw [pB un d m j]
  show _=(mF un (m+d+1)).getD (j+d+1) 0
  rw [mF,List.getD_cons_succ]
noncomputable def t9 (ds:List Int) (i:Nat):Int:=(aF (aj (overOf ds))).getD i 0
theorem cQ{ds:List Int}{p:Nat}{k:Int}(hp:p<ds.length)(h:k∈(aj (overOf ds)).getD p []):(p:Int)<k∧k<(ds.length:Int)∧(overOf ds).getD k.toNat []=[(p:Int)]:=by
 rw [pA hp,mR] at h
 (refine aP h ?_;try clear h;intro h1 h2 h3)
 obtain ⟨_,q,e,e2,hq,_⟩:=fg (ds:=ds) (i:=k.toNat) (p:=p) (by rw [h3];simp)
 have:q=p:=by exact Int.ofNat_inj.mp (id (Eq.symm e))
 subst this
 exact ⟨by exact Int.lt_toNat.mp hq,h2,h3⟩
theorem aS(ds:List Int):(aj (overOf ds)).length=ds.length:=by rw [fb,ay]
theorem so{ds:List Int}{i:Nat}(h:i<ds.length):t9 ds i=mx (((aj (overOf ds)).getD i []).map fun o=>t9 ds o.toNat+1):=by
 have hN:=aS ds
 obtain ⟨m,hm⟩:∃ m,ds.length=i+1+m:=⟨ds.length - i - 1,by exact Eq.symm (Nat.add_sub_of_le h)⟩
 have e1:t9 ds i=(mF (aj (overOf ds)) (m+1)).getD 0 0:=by
  have:=pB (aj (overOf ds)) i (m+1) 0
  rw [this]
  unfold t9 aF
  rw [hN,hm,show m+1+i=i+1+m by lia,Nat.zero_add]
 rw [e1,mF,List.getD_cons_zero,hN,show ds.length - 1 - m=i by lia]
 congr 1
 refine List.map_congr_left fun o ho=>?_
 (refine aP (cQ h ho) ?_;intro h1 h2 Z)
 congr 1
 have:=pB (aj (overOf ds)) (i+1) m (o - (i:Int) - 1).toNat
 rw [this]
 unfold t9 aF
 rw [hN,hm,show m+(i+1)=i+1+m by exact Nat.add_comm m (i+1),show (o - (i:Int) - 1).toNat+(i+1)=o.toNat by lia]
theorem fU{ds:List Int}{i:Nat}(h:i<ds.length):0≤t9 ds i:=by
 rw [so h];exact qw _ 0 List.mem_cons_self
noncomputable def BF (ds:List Int) (k:Int):Nat:=(t9 ds k.toNat).toNat
theorem qI{ds:List Int}{i:Nat}(h:ds.length≤i):(aj (overOf ds)).getD i []=[]:=by
 rw [List.getD_eq_getElem?_getD,List.getElem?_eq_none (by rw [aS];exact h)];rfl
theorem eV{ds:List Int}(hl:ds.length≤100):ik (aj (overOf ds)) (BF ds) where
 cl:=fun i p h=>by
  by_cases hi:i<ds.length
  ·(refine aP (cQ hi h) ?_;intro h1 h2 Z)
   rw [aS];lia
  ·rw [qI (by exact Nat.le_of_not_lt hi)] at h;cases h
 nd:=fun i=>by
  by_cases hi:i<ds.length
  ·rw [pA hi];exact (jc _ _).imp fun h=>by exact Int.ne_of_lt h
  ·rw [qI (by exact Nat.le_of_not_lt hi)];exact List.nodup_nil
 lt:=fun k p h1 h2 h=>by
  rw [aS] at h2
  have hk:k.toNat<ds.length:=by exact (Int.toNat_lt h1).mpr h2
  (refine aP (cQ hk h) ?_;intro q1 q2 Z)
  have a:=qw (((aj (overOf ds)).getD k.toNat []).map fun o=>t9 ds o.toNat+1) (t9 ds p.toNat+1) (List.mem_cons_of_mem _ (List.mem_map.mpr ⟨p,h,rfl⟩))
  rw [← so hk] at a
  have:=fU (ds:=ds) (i:=p.toNat) (by lia)
  unfold BF;lia
 step:=fun k t h1 h2 h=>by
  rw [aS] at h2
  have hk:k.toNat<ds.length:=by exact (Int.toNat_lt h1).mpr h2
  have a:=rP (((aj (overOf ds)).getD k.toNat []).map fun o=>t9 ds o.toNat+1)
  rw [← so hk] at a
  have h0:=fU hk
  unfold BF at h
  rcases List.mem_cons.mp a with q | q
  ·lia
  ·(refine xDPP (List.mem_map.mp q) ?_;intro p hp e)
   (refine aP (cQ hk hp) ?_;intro q1 q2 Z)
   have:=fU (ds:=ds) (i:=p.toNat) (by lia)
   exact ⟨p,hp,by unfold BF;lia⟩
 len:=by rw [aS];exact hl
end L2
namespace L2
theorem sq{ds:List Int}(hl:ds.length≤60){M:Nat}(hM:∀ i,i<ds.length→t9 ds i≤M)(hx:∃ i,i<ds.length∧t9 ds i=M)(hz:M≤900) :
  ∃ n rs,kf n (sig (aj (overOf ds))) (freeOf (aj (overOf ds))) rs∧rs.map PySem.W.sortI=aw (aF (aj (overOf ds))) M∧rs.length≤1000∧∀ r∈rs,r.length<64:=by
 have R:=eV (ds:=ds) (by lia)
 have hb:∀ k,inR (aj (overOf ds)) k→BF ds k≤M:=fun k hk=>by
  unfold inR at hk
  rw [aS] at hk
  have:=hM k.toNat (by lia)
  unfold BF;exact Int.toNat_le.mpr this
 have hk:∀ t,t≤M→∃ k,inR (aj (overOf ds)) k∧BF ds k=t:=ja R M (by
  (refine xDPP hx ?_;try clear hx;intro i h1 h2)
  refine (iDPP i (⟨by exact Int.natCast_nonneg i,by rw [aS];exact Int.ofNat_lt.mpr h1⟩) ?_)
  unfold BF
  rewrite [Int.toNat_natCast,h2];rfl)
 (refine fj (kg R hb hk (fun Z Z=>True) (fun Z Z Z Z Z=>trivial) (M+1) 0 _ _ (by exact Nat.add_comm 0 (M+1)) (wI R) trivial) ?_;intro rs q1 q2 q3)
 refine (cS (M+1) rs q1 ?_ (by lia) (fun r hr=>?_))
 ·unfold aw
  have hm:(1+(M:Int)).toNat=M+1:=by lia
  rw [hm]
  refine List.ext_getElem? fun i=>?_
  rw [List.getElem?_map,List.getElem?_map]
  by_cases hi:i<M+1
  ·rw [List.getElem?_range hi]
   have Cp:i<rs.length:=by exact Nat.lt_of_lt_of_eq hi (id (Eq.symm q2))
   rw [List.getElem?_eq_getElem Cp]
   (refine aP (q3 i _ (List.getElem?_eq_getElem Cp)) ?_;intro r1 r2 Z)
   simp only [Option.map_some]
   congr 1
   refine (PySem.W.eq_sortI ?_ ((bE _ i).imp fun h=>by exact Int.le_of_lt h)).symm
   refine (List.perm_ext_iff_of_nodup ((bE _ i).imp fun h=>by exact Int.ne_of_lt h) r1).mpr fun k=>?_
   rw [r2,jb,show (aF (aj (overOf ds))).length=ds.length by rw [sa,aS]]
   show 0≤k∧k<(ds.length:Int)∧t9 ds k.toNat=i↔_
   unfold inR BF
   rw [aS,Nat.zero_add]
   constructor
   ·(intro aV;refine aP aV ?_;clear aV;intro h1 h2 h3)
    exact ⟨⟨h1,h2⟩,by rw [h3];rfl⟩
   ·(intro bj;refine aK bj ?_;clear bj;intro bH h3;refine aK bH ?_;clear bH;intro h1 h2)
    have:=fU (ds:=ds) (i:=k.toNat) (by exact (Int.toNat_lt h1).mpr h2)
    exact ⟨h1,h2,by lia⟩
  ·rw [List.getElem?_eq_none (by lia),List.getElem?_eq_none (by simp;exact Nat.le_of_not_lt hi)];rfl
 ·(refine ba (List.getElem?_of_mem hr) ?_;intro i hi)
  (refine aP (q3 i r hi) ?_;intro r1 r2 Z)
  have:=ff (n:=ds.length) r1 fun x hx=>by
   have:=((r2 x).mp hx).1
   unfold inR at this
   rwa [aS] at this
  lia
end L2
namespace L2
theorem Cq{l:List Int}(iD:l≠[])(h0:∀ a∈l,0≤a):mx l∈l:=by
 rcases List.mem_cons.mp (rP l) with h | h
 ·(refine ba (List.exists_mem_of_ne_nil l iD) ?_;intro a ha)
  have h1:=qw l a (List.mem_cons_of_mem _ ha)
  have h2:=h0 a ha
  have:mx l=a:=by omega
  rw [this];exact ha
 ·exact h
theorem mem_getD{l:List Int}{a:Int}(h:a∈l):∃ i,i<l.length∧l.getD i 0=a:=by
 (refine ba (List.getElem?_of_mem h) ?_;intro i hi)
 have hl:=(List.getElem?_eq_some_iff.mp hi).1
 exact (iDPP i hl (by rw [List.getD_eq_getElem?_getD,hi];rfl))
theorem getD_mem{l:List Int}{i:Nat}(h:i<l.length):l.getD i 0∈l:=by
 rw [List.getD_eq_getElem?_getD,List.getElem?_eq_getElem h];exact List.getElem_mem h
theorem yl{ds:List Int}:∀ i,i<ds.length→lvl ds i≤i:=by
 intro i
 induction i using Nat.strongRecOn with
 | ind i ih =>
  intro h
  rcases bW h with ⟨e,_⟩ | ⟨p,e,hp,_⟩
  ·rw [gS h e];exact Int.natCast_nonneg i
  ·rw [cW h e hp];have:=ih p hp (by exact Nat.lt_trans hp h);omega
theorem qJ{ds:List Int}:∀ (d i:Nat),i<ds.length→ds.length - i≤d→t9 ds i≤d
 | 0,i,h,hd=>by omega
 | d+1,i,h,hd=>by
  rw [so h]
  rcases List.mem_cons.mp (rP (((aj (overOf ds)).getD i []).map fun o=>t9 ds o.toNat+1)) with q | q
  ·rw [q];exact Int.natCast_nonneg (d+1)
  ·(refine xDPP (List.mem_map.mp q) ?_;intro p hp e)
   (refine aP (cQ h hp) ?_;intro q1 q2 Z)
   have:=qJ (ds:=ds) d p.toNat (by omega) (by omega)
   omega
theorem sr{ds:List Int}(h1:1≤ds.length)(hl:ds.length≤10):∃ Ml Mh:Nat,FF ds Ml Mh∧RF ds Ml Mh:=by
 have Ll:(ak (overOf ds)).length=ds.length:=by rw [a7,ay]
 have Lh:(aF (aj (overOf ds))).length=ds.length:=by rw [sa,aS]
 have l0:∀ a∈ak (overOf ds),0≤a∧a≤10:=fun a ha=>by
  (refine xDPP (mem_getD ha) ?_;intro i hi aV;subst aV)
  rw [Ll] at hi
  have:=bX ds i hi
  have:=yl i hi
  unfold lvl at *;omega
 have g0:∀ a∈aF (aj (overOf ds)),0≤a∧a≤10:=fun a ha=>by
  (refine xDPP (mem_getD ha) ?_;intro i hi bj;subst bj)
  rw [Lh] at hi
  have:=fU hi
  have:=qJ (ds:=ds) ds.length i hi (by exact Nat.sub_le ds.length i)
  unfold t9 at *;omega
 have Fp:=Cq (l:=ak (overOf ds)) (fun e=>by rw [e] at Ll;simp at Ll;omega) fun a ha=>(l0 a ha).1
 have Fq:=Cq (l:=aF (aj (overOf ds))) (fun e=>by rw [e] at Lh;simp at Lh;omega) fun a ha=>(g0 a ha).1
 (refine ba (Int.eq_ofNat_of_zero_le (l0 _ Fp).1) ?_;intro Ml IP)
 (refine ba (Int.eq_ofNat_of_zero_le (g0 _ Fq).1) ?_;intro Mh IQ)
 have IS:∀ a∈ak (overOf ds),a≤Ml:=fun a ha=>by rw [← IP];exact qw _ a (List.mem_cons_of_mem _ ha)
 have IT:∀ a∈aF (aj (overOf ds)),a≤Mh:=fun a ha=>by rw [← IQ];exact qw _ a (List.mem_cons_of_mem _ ha)
 rw [IP] at Fp
 rw [IQ] at Fq
 have lb:=l0 _ Fp
 have gb:=g0 _ Fq
 have IU:∀ i,i<ds.length→lvl ds i≤Ml:=fun i hi=>IS _ (getD_mem (by rw [Ll];exact hi))
 have KN:∀ i,i<ds.length→t9 ds i≤Mh:=fun i hi=>IT _ (getD_mem (by rw [Lh];exact hi))
 obtain ⟨r1,r2⟩:=t7 (ds:=ds) (by omega) IU (by
  (refine xDPP (mem_getD Fp) ?_;intro i hi e)
  exact (iDPP i (by rw [Ll] at hi;exact hi) e))
 have Lu:(aw (ak (overOf ds)) Ml).length≤11:=by unfold aw;simp;omega
 have HF:∀ ig∈aw (ak (overOf ds)) Ml,ig.length≤10∧∀ p∈ig,0≤p∧p<ds.length:=fun ig h=>by
  unfold aw at h
  (refine xDPP (List.mem_map.mp h) ?_;intro t Z bH;subst bH)
  refine ⟨Nat.le_trans (si t) hl,fun p hp=>?_⟩
  have:=(dD.mp hp).1
  unfold inR at this
  rwa [ay] at this
 refine (eB Ml Mh (.of ⟨by omega,fun i a r e=>?_,fun ab vX=>?_,fun i us e=>?_,Fp,IS,by omega,Fq,IT,by omega⟩)
  (.of ⟨pn (bO (by omega)) (by rw [ay];exact hl),lr (bO (by omega)),(bA _ r1),t8 (by omega) IU r2,?_,pn (eV (by omega)) (by rw [aS];exact hl),lr (eV (by omega)),
   sq (by omega) KN (by
    (refine xDPP (mem_getD Fq) ?_;intro i hi e)
    exact (iDPP i (by rw [Lh] at hi;exact hi) e)) (by omega),by omega,fun ig h=>⟨by have:=(HF ig h).1;omega,(HF ig h).2⟩,?_,by unfold aw;simp;omega,fun g hg=>?_⟩))
 ·have hi:=(List.getElem?_eq_some_iff.mp e).1
  obtain ⟨_,q,e1,e2,hq,_⟩:=fg (ds:=ds) (i:=i) (p:=a) (by rw [List.getD_eq_getElem?_getD,e];simp)
  omega
 ·(refine ba (List.getElem?_of_mem vX) ?_;intro i hi)
  have Cp:=(List.getElem?_eq_some_iff.mp hi).1
  rw [ay] at Cp
  have e:(overOf ds).getD i []=ab:=by rw [List.getD_eq_getElem?_getD,hi];rfl
  rcases bW Cp with ⟨q,_⟩ | ⟨p,q,_⟩ <;> (rw [e] at q;rw [q];simp)
 ·have hi:=(List.getElem?_eq_some_iff.mp e).1
  rw [aS] at hi
  have e2:(aj (overOf ds)).getD i []=us:=by rw [List.getD_eq_getElem?_getD,e];rfl
  refine ⟨?_,fun o ho=>?_⟩
  ·have:=ff (n:=ds.length) ((eV (ds:=ds) (by omega)).nd i) fun x hx=>by
    (refine aP (cQ hi hx) ?_;intro a1 a2 Z);omega
   rw [e2] at this;omega
  ·rw [← e2] at ho
   (refine aP (cQ hi ho) ?_;intro a1 a2 Z)
   rw [aS];exact ⟨a1,a2⟩
 ·rw [r2];exact Nat.le_trans (si (ds:=ds) 0) (by omega)
 ·have:∀ (L:List (List Int)),(∀ l∈L,l.length≤10)→(L.flatMap fun ig=>ig.map fun p=>(p,(aj (overOf ds)).getD p.toNat [])).length≤10 * L.length:=by
   intro L
   induction L with
   | nil=>intro Z;simp
   | cons l L ih =>
    intro h
    rw [List.flatMap_cons,List.length_append,List.length_map,List.length_cons]
    have:=h l List.mem_cons_self
    have:=ih fun x hx=>h x (List.mem_cons_of_mem _ hx)
    omega
  have:=this _ fun l hl=>(HF l hl).1
  unfold fS;omega
 ·unfold aw at hg
  (refine xDPP (List.mem_map.mp hg) ?_;intro t Z cw;subst cw)
  unfold cg
  rw [List.length_map]
  refine Nat.le_trans (List.length_filter_le _ _) ?_
  rw [List.length_range,Lh];omega
end L2
end Mp
section
open PySem.W (hideAll hideAll_get hideAll_none of_hideAll tabObj)
namespace Mp
theorem vB{h h':Heap}{c P:Addr}{ps:Array Value}(hP:h.get? P=some (tabObj #[]))(C:PySem.W.CodeHd h c P)(iD:P≠cStatics)(K:OldK (hideAll h [P]) h')(e:h'.get? P=some (tabObj ps)):OldK h h':=by
 have Cr:∀ b o,b≠P→h.get? b=some o→(hideAll h [P]).get? b=some o:=fun b o hb q=>hideAll_get [P] q (by exact notIn_one hb)
 have st:(hideAll h [P]).get? cStatics=h.get? cStatics:=by
  cases q:h.get? cStatics with
  | some o=>exact Cr _ _ (Ne.symm iD) q
  | none =>
   cases q2:(hideAll h [P]).get? cStatics with
   | none=>rfl
   | some o=>rw [of_hideAll [P] q2] at q;cases q
 refine ⟨fun b o q=>?_,fun b o q=>?_⟩
 ·by_cases hb:b=P
  ·subst hb
   rw [hP] at q;cases q
   exact .inr (.inl (qM ((C.tab hP).isCodeTable) rfl (#[]) ps rfl (by rw [e];simp)))
  ·rcases K.old b o (Cr b o hb q) with x | ⟨t,hc,vs,more,hv,x⟩ | ⟨rfl,hc,x,z⟩
   ·exact .inl x
   ·obtain ⟨c',o',jB,a1,a2⟩:=t
    exact .inr (.inl (qM ((fh c' o' jB (of_hideAll [P] a1) a2)) hc vs more hv x))
   ·refine .inr (.inr (aO rfl hc x ?_))
    intro key
    rw [← OldK.staticOf_congr st key]
    exact z key
 ·by_cases hb:b=P
  ·exact (bA _ (hb▸e))
  ·exact K.there b o (Cr b o hb q)
section
open PySem.W (lookIn Frag)
noncomputable def isInt (j:Int):Value→Bool | .int i _=>i == j | _=>false
noncomputable def isStr (x:Str):Value→Bool | .str y _=>y == x | _=>false
noncomputable def isRef (a:Addr):Value→Bool | .ref b=>b == a | _=>false
noncomputable def HG (n:String):Value→Bool | .builtin m=>m == n | _=>false
noncomputable def HH (n:String):Value→Bool | .type m=>m == n | _=>false
noncomputable def vC (v:Value):V→Bool
 | .int j=>isInt j v
 | .str x=>isStr x v
 | .ref a=>isRef a v
 | .bi n=>HG n v
 | .ty n=>HH n v
 | _=>false
theorem qK{own:Own}{h:Heap}{v:Value}{mv:V}(e:vC v mv=true):RV own h v mv:=by
 cases mv with
 | int j=>cases v with
  | int i t=>exact eq_of_beq e▸.int i t
  | _=>exact Bool.noConfusion (e:false=true)
 | str j=>cases v with
  | str i t=>exact eq_of_beq e▸.str i t
  | _=>exact Bool.noConfusion (e:false=true)
 | ref j=>cases v with
  | ref i=>exact eq_of_beq e▸.ref i
  | _=>exact Bool.noConfusion (e:false=true)
 | bi j=>cases v with
  | builtin i=>exact eq_of_beq e▸.bi i
  | _=>exact Bool.noConfusion (e:false=true)
 | ty j=>cases v with
  | type i=>exact eq_of_beq e▸.ty i
  | _=>exact Bool.noConfusion (e:false=true)
 | _=>exact Bool.noConfusion (e:false=true)
noncomputable def vD (o3:Obj) (q:Str×V):Bool:=match lookIn q.1 o3 with
 | some (some v)=>vC v q.2
 | some none=>q.1 != ("__name__":Str)&&(match bootBuiltins q.1 with | some v=>vC v q.2 | none=>false)
 | none=>false
theorem mV{x:Str}{mv:V}:∀ {l:List (Str×V)},l.lookup x=some mv→(x,mv)∈l
 | [],e=>by simp at e
 | (y,u)::r,e=>by
  rw [List.lookup_cons] at e
  cases q:x == y with
  | true=>rw [q] at e;cases e;rw [eq_of_beq q];exact .head _
  | false=>rw [q] at e;exact .tail _ (mV e)
theorem vE{mg mb:Str→Option Value}{h:Heap}{o3:Obj}{glob:List (Str×V)}(ho:h.get? mainGlobals=some o3)(hg:h.Ns mainGlobals mg)(KO:∀ x:Str,x≠"__name__"→mb x=bootBuiltins x)(e:glob.all (vD o3)=true) :
  ∀ x mv,glob.lookup x=some mv→∃ v,(mg x=some v∨(mg x=none∧mb x=some v))∧RV (fun Z=>none) {} v mv:=by
 intro x mv hl
 have q:=List.all_eq_true.mp e _ (mV hl)
 obtain ⟨o,es,ep,e1,hd,hk,hf⟩:=id hg
 rw [ho] at e1;cases e1
 have lk:lookIn x o3=some (mg x):=lN hd hk hf
 unfold vD at q
 dsimp only at q
 rw [lk] at q
 cases hm:mg x with
 | some v=>rw [hm] at q;exact (iDPP v (.inl rfl) (qK q))
 | none =>
  rw [hm] at q
  dsimp only at q
  rw [Bool.and_eq_true] at q
  have hb:=KO x (bne_iff_ne.mp q.1)
  cases HI:bootBuiltins x with
  | some v=>have q2:=q.2;rw [HI] at q2;exact (iDPP v (.inr ⟨rfl,by rw [hb,HI]⟩) (qK q2))
  | none=>have q2:=q.2;rw [HI] at q2;cases q2
namespace L2
noncomputable def Fs:Loc:=[("enumerate",.ty "enumerate"),("range",.ty "range"),("zip",.ty "zip"),("list",.ty "list"),("tuple",.ty "tuple"),("len",.bi "len"),("max",.bi "max"),("min",.bi "min"),("sum",.bi "sum"),("sorted",.bi "sorted")]
noncomputable def Ft:Loc:=[("_law_over",.ref 209),("_law_under",.ref 214),("_law_levels",.ref 221),("_law_heights",.ref 226),("_law_rounds",.ref 231),("_law_handed",.ref 236),("_law_grouped",.ref 241),("_law_dotted",.ref 246),("_law_takes",.ref 204)]
noncomputable def Fu:Loc:=[("quotedata",.ref 175),("_translate",.ref 199),("twin_re_1_smtplib",.ref 163),("_twin_re_2",.ref 168),("CRLF",.str "\r\n"),("set",.ty "set"),("iter",.bi "iter"),("bool",.ty "bool"),("StopIteration",.ty "StopIteration")]
noncomputable def Fv:Loc:=[("_NODE_OUT",.int (-1)),("_NODE_DONE",.int (-2)),("_NodeInfo",.ref 57),("TopologicalSorter",.ref 154),("isinstance",.bi "isinstance"),("str",.ty "str"),("escape",.ref 192),("_special_chars_map",.ref 182),("twin_re_1_fnmatch",.ref 180)]
noncomputable def mW:Loc:=Fs++(Ft++(Fu++Fv))
noncomputable def HJ:SA:={ ni:=57,ts:=154,Ax:=53,jK:=90,pW:=97,lS:=104,jL:=109,gE:=116,fact:=123,gj:=137,i6:=144,dflt:=83,p0:=58,p1:=59,p2:=60}
noncomputable def objOf (K:Frag) (a:Addr):Obj:=(K.lookup a).getD { cls:=.none,data:=.plain}
noncomputable def fieldsOf (K:Frag) (a:Addr):Array Value:=match (objOf K a).data with | .fields vs=>vs | _=>#[]
noncomputable def wJ (K:Frag) (a:Addr):Array Value:=match (objOf K a).data with | .seq vs _=>vs | _=>#[]
noncomputable def Fw (K:Frag) (a:Addr):Nat:=match (objOf K a).data with | .seq _ n=>n | _=>0
noncomputable def refOf:Value→Addr | .ref a=>a | _=>0
noncomputable def BG:FuncData:=PySem.W.fnOf default default default [] default .none .none .none .none none .none .none
noncomputable def fdOf (K:Frag) (a:Addr):FuncData:=match (objOf K a).data with | .func fd=>fd | _=>BG
theorem gG{K:Frag}{a:Addr}{q:Str}{s:Stmt}(e:K.lookup a=some ⟨(objOf K a).cls,(objOf K a).dict,.func (PySem.W.fnOf (fnName s) q (bG s) (bI s) (au s) .none .none (fdOf K a).doc (fdOf K a).pyModule (fdOf K a).annotations (fdOf K a).code (fdOf K a).closureTuple),(objOf K a).slots⟩)(c:PySem.W.codeIn K (fdOf K a).code q=true)(k:PySem.W.keepIn K (.ref a)=true):b9 K a q s:=⟨_,_,_,_,_,(vF _ _ _ e),c,k⟩
theorem Fx{K:Frag}{a:Addr}{q:Str}{s:Stmt}{dv kv:Value}(e:K.lookup a=some ⟨(objOf K a).cls,(objOf K a).dict,.func (PySem.W.fnOf (fnName s) q (bG s) (bI s) (au s) dv kv (fdOf K a).doc (fdOf K a).pyModule (fdOf K a).annotations (fdOf K a).code (fdOf K a).closureTuple),(objOf K a).slots⟩)(c:PySem.W.codeIn K (fdOf K a).code q=true)(k:PySem.W.keepIn K (.ref a)=true):y9 K a q s dv kv:=⟨_,_,_,_,_,(vF _ _ _ e),c,k⟩
theorem Fy{K:Frag}{a cc:Addr}{q:Str}{s:Stmt}(e:K.lookup a=some ⟨(objOf K a).cls,(objOf K a).dict,.func (PySem.W.fnOf (fnName s) q (bG s) (bI s) (au s) .none .none (fdOf K a).doc (fdOf K a).pyModule (fdOf K a).annotations (.ref cc) (fdOf K a).closureTuple),(objOf K a).slots⟩)(c:PySem.W.codeIn K (.ref cc) q=true)(k:PySem.W.keepIn K (.ref a)=true):u7 K a q s cc:=⟨_,_,_,_,(vF _ _ _ e),c,k⟩
theorem wK{K:Frag}{C f:Addr}{n:Str}(h1:PySem.W.hasDictIn K C=true)(h2:PySem.W.findIn K (.ref C) n=some (some (.ref f)))(h3:PySem.W.specialIn K (.ref f) "__get__"=some (some (.builtin "function.__get__")))(h4:PySem.W.takesIn K (.ref f)=some false)(h5:PySem.W.copiedNames.contains n=false)(h6:PySem.W.typeIn K (.ref f)=some (.type "function"))(h7:K.lookup f=some ⟨(objOf K f).cls,(objOf K f).dict,.func (fdOf K f),(objOf K f).slots⟩):gC K C n f:=⟨h1,h2,h3,h4,h5,h6,_,_,_,_,h7⟩
open PySem.Builtin.Re in
theorem Cs{K:Frag}{p:Addr}{C:Array Nat}(h1:K.lookup p=some ⟨.type "re.Pattern",none,.fields (fieldsOf K p),(objOf K p).slots⟩)(h2:(fieldsOf K p).getD 5 .none=.ref (refOf ((fieldsOf K p).getD 5 .none)))(h3:reRawNat ((fieldsOf K p).getD 6 .none)=0)(h4:reRawNat ((fieldsOf K p).getD 2 .none)=0)(h5:K.lookup (refOf ((fieldsOf K p).getD 5 .none))=some (objOf K (refOf ((fieldsOf K p).getD 5 .none))))(h6:(objOf K (refOf ((fieldsOf K p).getD 5 .none))).data=.seq (wJ K (refOf ((fieldsOf K p).getD 5 .none))) (Fw K (refOf ((fieldsOf K p).getD 5 .none))))(h7:((wJ K (refOf ((fieldsOf K p).getD 5 .none))).map reRawOf).map (·.toNat)=C):ng K p C:=(fi _ _ _ _ _ _ h1 h2 h3 h4 h5 h6 h7)
open PySem.Builtin.Re in
theorem DK{K:Frag}{p:Addr}(h1:K.lookup p=some ⟨.type "re.Pattern",none,.fields (fieldsOf K p),(objOf K p).slots⟩)(h2:(fieldsOf K p).getD 5 .none=.ref (refOf ((fieldsOf K p).getD 5 .none)))(h3:reRawNat ((fieldsOf K p).getD 6 .none)=0)(h4:reRawNat ((fieldsOf K p).getD 2 .none)=1)(h5:K.lookup (refOf ((fieldsOf K p).getD 5 .none))=some (objOf K (refOf ((fieldsOf K p).getD 5 .none))))(h6:(objOf K (refOf ((fieldsOf K p).getD 5 .none))).data=.seq (wJ K (refOf ((fieldsOf K p).getD 5 .none))) (Fw K (refOf ((fieldsOf K p).getD 5 .none))))(h7:((wJ K (refOf ((fieldsOf K p).getD 5 .none))).map reRawOf).map (·.toNat)=CF):rW K p:=(fi _ _ _ _ _ _ h1 h2 h3 h4 h5 h6 h7)
structure IV(K:Frag):Prop where
 m1:K.lookup mainGlobals=some (objOf K mainGlobals)
 m2:mW.all (vD (objOf K mainGlobals))=true
 g:cE mW K
 s:bU HJ mW K
 t:lD mW K
 l:b9 K 251 "law" FH
 c:K.all (fun q=>q.2.cls != .none)=true
noncomputable def PF (ax:List Int):Prop:=∃ Ml Mh,FF (cA (numsOf ax)) Ml Mh∧RF (cA (numsOf ax)) Ml Mh∧LF (cA (numsOf ax)) (dC (numsOf ax)) (mL (numsOf ax)) (k8 (numsOf ax)) (cA (numsOf ax)) ∧
 LF (cA (numsOf ax)) (dC (numsOf ax)) (mL (numsOf ax)) (k8 (numsOf ax)) (ak (overOf (cA (numsOf ax))))
theorem HK{K:Frag}{prog:Program}{w:World}{s₁:Shared}{mg mb:Str→Option Value}{p:Program}{loose:List Str}{HL:ExcName→Option Value}(O:IV K)(T:Top p loose HL mg mb s₁.heap)(hi:importsNone p=true)(KI:K.In s₁.heap)(hT:s₁.heap.get? bS=some (tabObj #[]))(Au:s₁.gens=#[]){a:Addr}{d:Option Addr}{vs:Array Value}{n:Nat}{sl:Array (Option Value)}{ax:List Int}(hv:s₁.heap.get? a=some ⟨.type "list",d,.seq vs n,sl⟩)(hI:IntsAre vs.toList ax)(hz:ax.length≤1000)(P:PF ax) :
  wpAny (model prog w) callerA (call (.ref 251) [.ref a]) (fun r s'=>r=.bool true∧OldK s₁.heap s'.heap∧s'.os=s₁.os∧AllBare s'.gens) dh s₁:=by
 (refine bQ P ?_;try clear P;intro Ml Mh F R D1 D2)
 have Cr:∀ b o,b≠bS→s₁.heap.get? b=some o→(hideAll s₁.heap [bS]).get? b=some o:=fun b o hb q=>hideAll_get [bS] q (by exact notIn_one hb)
 have ns:∀ {b m},b≠bS→s₁.heap.Ns b m→(hideAll s₁.heap [bS]).Ns b m:=fun hb aV=>ej aV fun o es ep e r=>(fh o es ep (Cr _ _ hb e) r)
 have D5:∀ b o,K.lookup b=some o→o.cls≠.none:=fun b o e=>by
  have:∀ (l:Frag),l.lookup b=some o→(b,o)∈l:=by
   intro l
   induction l with
   | nil=>intro e;simp at e
   | cons q r ih =>
    intro e
    obtain ⟨c,oc⟩:=q
    rw [List.lookup_cons] at e
    cases hq:b == c with
    | true=>rw [hq] at e;cases e;rw [eq_of_beq hq];exact .head _
    | false=>rw [hq] at e;exact .tail _ (ih e)
  have q:=List.all_eq_true.mp O.c _ (this K e)
  exact bne_iff_ne.mp q
 have HM:∀ b o,K.lookup b=some o→b≠bS:=fun b o e z=>by
  have:=KI b o e
  rw [z,hT] at this;cases this
  exact D5 b _ e rfl
 have iD:bS≠cStatics:=by decide
 let X:Cx:={
  prog:=prog,w:=w,h₀:=hideAll s₁.heap [bS],os:=s₁.os,mg:=mg,mb:=mb,glob:=mW
  hg:=ns (by decide) T.g
  hb:=ns (by decide) T.b
  D4:=let ⟨mc,q,r⟩:=T.nolimit;⟨mc,ns (by decide) q,r⟩
  K:=K
  hK:=fun b o e=>Cr b o (HM b o e) (KI b o e)
  D5:=D5
  D6:=let ⟨mm,⟨o,es,ep,e,_⟩,_⟩:=(T.seer hi).mods;⟨o,Cr _ _ (by decide) e⟩
  iz:=[]
  yw:=vE (KI _ _ O.m1) T.g T.builtins O.m2}
 have G:G2 X:=O.g
 have S:S2 HJ X:=O.s
 have B:T2 X:=⟨O.t,by
  (refine je T.bmain ?_;intro bm ob b1 b2 b3 b4 b5 b6)
  refine (uj bm ob b1 b2 (fun q=>?_) (Cr _ _ (fun q=>?_) b3) b4 b5 b6)
  ·(refine dS T.g ?_;intro o es ep e hd Z)
   rw [q,e] at b3;cases b3;rw [hd] at b6;cases b6
  ·rw [q,hT] at b3;cases b3;cases b4⟩
 have hA:Rm X callerA (30+11):=⟨rfl,by decide +kernel,by decide +kernel,[],rfl,fun env h=>by cases h⟩
 let own:Own:=fun b=>if b=bS then some bS else none
 let cells:Cells:=fun b=>if b=bS then some .tab else none
 have hP:cells bS=some .tab:=if_pos rfl
 have I:Base X own cells s₁:={
  old:=OldK.of_keep fun b o e=>of_hideAll [bS] e
  hg:=T.g
  hb:=T.b
  nolimit:=T.nolimit
  gens:=.of_eq Au
  os:=rfl
  new:=fun b c e=>by
   have:b=bS:=by
    by_cases q:b=bS
    ·exact q
    ·rw [show own b=none from if_neg q] at e;cases e
   rw [this];exact hideAll_none [bS] (by exact List.mem_singleton.mpr rfl)
  lt:=fun b c e=>by
   have:b=bS:=by
    by_cases q:b=bS
    ·exact q
    ·rw [show own b=none from if_neg q] at e;cases e
   exact ⟨_,this▸hT⟩
  cell:=fun b c e=>by
   have:b=bS:=by
    by_cases q:b=bS
    ·exact q
    ·rw [show cells b=none from if_neg q] at e;cases e
   subst this
   rw [hP] at e;cases e
   exact ⟨if_pos rfl,#[],hT,trivial⟩
  iz:=fun L h=>by cases h}
 have KP:own a=none:=if_neg fun q=>by rw [q,hT] at hv;cases hv
 have rv:RV own s₁.heap (.ref a) (.list (Iz ax)):=RV.jR hv KP (sO hI)
 have H:=DF (X:=X) (A:=callerA) (k:=30) (Ψ:=fun v c=>v=.bool true∧c bS=some .tab) G S B O.l hA hP hz F R D1 D2 fun c' h=>⟨rfl,h⟩
 refine wpAny_mono (H (.ref 251) [.ref a] own s₁ I ⟨.ref 251,.cons rv .nil⟩) (fun v s' ⟨own',c',b,I',r',x',e,ht⟩=>?_) fun Z Z q=>q
 subst e
 refine RV.e0 r' rfl ?_
 obtain ⟨_,ps,eP,_⟩:=I'.cell bS _ ht
 exact (aO rfl (vB hT (PySem.W.codeHd_of_K KI O.t.code) iD I'.old eP) I'.os I'.gens)
end L2
end
namespace L2
open PySem.W (WData WShape WRecords ReadsAllW ReadsW)
theorem DL{R:WRecords}{cl:Str→Option Addr}{h:Heap}{x:WData}{v:Value}{as:List Addr}(hs:WShape.has R x .int=true)(r:ReadsW R cl h v x as):∃ i t,v=.int i t:=by
 cases r with
 | int i t=>exact (fV i t rfl)
 | _=>exact Bool.noConfusion (hs:false=true)
theorem BH{R:WRecords}{cl:Str→Option Addr}{h:Heap}{xs:List WData}(hs:WShape.hasItems R xs .int=true){vs:List Value}{as:List Addr}(r:ReadsAllW R cl h vs xs as):∃ ns,IntsAre vs ns∧ns.length=xs.length:=by
 induction xs generalizing vs as with
 | nil=>cases r;exact (iDPP ([]) .nil rfl)
 | cons x xs ih =>
  have vO:WShape.has R x .int=true∧WShape.hasItems R xs .int=true:=Bool.and_eq_true_iff.mp hs
  cases r with
  | cons r1 r2=>exact xDPP (ih vO.2 r2) fun ns i1 i2=>eG (DL vO.1 r1) fun i t e=>iDPP (i::ns) (e▸.cons i t i1) (congrArg Nat.succ i2)
end L2
section
open PySem.W (lookIn)
theorem mg_of{mg:Str→Option Value}{h:Heap}{o3:Obj}{x:Str}{v:Option Value}(ho:h.get? mainGlobals=some o3)(hg:h.Ns mainGlobals mg)(e:lookIn x o3=some v):mg x=v:=by
 (refine dy (id hg) ?_;intro o es ep e1 hd hk hf)
 rw [ho] at e1;cases e1
 have lk:lookIn x o3=some (mg x):=lN hd hk hf
 rw [e] at lk
 exact (Option.some.inj lk).symm
end
section
open PySem.W
theorem Av{l:OpenLaw}{args Ct:List WData}:l.row.toRowW.claim.post args (.bool true) Ct=true:=by
 show (WShape.has [] (.bool true) .bool&&WTm.holds [] (.eq .res (.lit (.bool true))) ⟨args,some (.bool true),Ct,[]⟩)=true
 kernel_rfl
theorem Aw{xs:List WData}(R:WRecords)(h:WTm.holds R (.and (.not (.lt (.lit (.int 63)) (.len (.arg 0)))) (.lit (.bool true))) { args:=[.list xs]}=true):xs.length≤63:=by
 have e:WTm.value R (.lt (.lit (.int 63)) (.len (.arg 0))) { args:=[.list xs]}=some (.bool (decide ((63:Int)<xs.length))):=by rfl
 have e2:WTm.holds R (.and (.not (.lt (.lit (.int 63)) (.len (.arg 0)))) (.lit (.bool true))) { args:=[.list xs]}=(fun z:Option WData=>match (match (match z with | some (WData.bool b)=>some (WData.bool (!b)) | _=>none) with | some (WData.bool false)=>some (WData.bool false) | some (WData.bool true)=>(match WTm.value R (.lit (WData.bool true)) { args:=[.list xs]} with | some (WData.bool x)=>some (WData.bool x) | _=>none) | _=>none) with | some (WData.bool true)=>true | _=>false) (WTm.value R (.lt (.lit (.int 63)) (.len (.arg 0))) { args:=[.list xs]}):=by rfl
 rw [e2,e] at h
 by_cases q:(63:Int)<xs.length
 ·rw [decide_eq_true q] at h;exact Bool.noConfusion (h:false=true)
 ·exact Int.ofNat_le.mp (Int.not_lt.mp q)
theorem BI{l:OpenLaw}(hm:l.most=some 63)(hb:l.bound=none){xs:List WData}(h:l.row.pre.holds l.row.records { args:=[.list xs]}=true):xs.length≤63:=by
 have e:l.row.pre=.and (.not (.lt (.lit (.int 63)) (.len (.arg 0)))) (.lit (.bool true)):=by
  show WTm.and (match l.most with | some n=>.not (.lt (.lit (.int n)) (.len (.arg 0))) | none=>.lit (.bool true))
   (match l.bound with
    | some n=>.all (.lit (.int 0)) (.len (.arg 0)) (.and (.not (.lt (.item (.arg 0) (.var 0)) (.lit (.int (-(n:Int)))))) (.not (.lt (.lit (.int n)) (.item (.arg 0) (.var 0)))))
    | none=>.lit (.bool true))=_
  rw [hm,hb];rfl
 rw [e] at h
 exact Aw _ h
end
end Mp
end
namespace Mp
namespace L2
theorem mX{d:List Int}(j:Int){i:Nat}(h:i<d.length):(wantedOf j d).getD i 0=if d.getD i 0≠0 then d.getD i 0+j else 0:=by
 unfold wantedOf
 rw [List.getD_eq_getElem?_getD,List.getElem?_map,List.getElem?_eq_getElem h,List.getD_eq_getElem?_getD,List.getElem?_eq_getElem h];rfl
theorem ua{d:List Int}(hd:∀ m∈d,0≤m){j:Int}(hj:0≤j):overOf (wantedOf j d)=overOf d:=by
 refine yk (by exact cD j d) fun i k hi hk=>?_
 rw [mX j hi,mX j hk]
 have:=hd _ (getD_mem hi)
 have:=hd _ (getD_mem hk)
 split <;> split <;> lia
structure Fz(es ls:List Str)(d:List Int):Prop where
 Fi:∀ l∈ls,ya l∧l.length≤100
 ends:∀ e∈es,mI (tl e)
 h1:ls.length=es.length+1
 h2:d.length=es.length+1
 h3:1≤es.length∧es.length≤9
 qQ:∀ m∈d,0≤m∧m≤4
theorem lB{d:List Int}(h:∀ m∈d,0≤m∧m≤4){j:Int}(hj:0≤j∧j≤3):∀ m∈wantedOf j d,0≤m∧m≤7:=fun x hx=>by
 unfold wantedOf at hx
 (refine xDPP (List.mem_map.mp hx) ?_;intro m hm aV;subst aV)
 have:=h m hm
 split <;> lia
theorem BJ{e:Str}(h:mI (tl e)):e.length≤2:=by
 rw [← hW]
 rcases h with q | q | q <;> rw [q] <;> decide
theorem lC{w:List Int}{ls:List Str}(hw:∀ m∈w,0≤m∧m≤7)(hl:∀ l∈ls,l.length≤100):∀ r∈ar w ls,r.length≤110:=fun r hr=>by
 (refine xDDPPP (tS hr) ?_;intro m l h1 h2 bj;subst bj)
 have a1:=hw m h1
 have a2:=hl l h2
 have:=dR m l
 have:=congrArg List.length this
 rw [hW,List.length_append,List.length_replicate,hW] at this
 lia
theorem ub{w:List Int}{ls:List Str}(hw:∀ m∈w,0≤m∧m≤7)(hl:∀ l∈ls,l.length≤100)(hn:ls.length≤10):(bD ls w).length≤2000:=by
 rw [← hW,gm]
 have h:=DB (B:=110) ((ar w ls).map tl) fun r hr=>by
  (refine xDPP (List.mem_map.mp hr) ?_;intro x hx bH;subst bH)
  rw [hW];exact lC hw hl x hx
 have:((ar w ls).map tl).length≤10:=by rw [List.length_map];unfold ar;rw [List.length_zipWith];lia
 have:((ar w ls).map tl).length * (110+2)≤10 * (110+2):=Nat.mul_le_mul_right _ this
 lia
theorem wM{es ls:List Str}{ds d:List Int}{more:Int}(D:Fz es ls d)(hm:1≤more∧more≤3)(ho:overOf d=overOf ds):LF ds ls (Str.ofString ""::es) more d:=by
 (refine ba (Int.eq_ofNat_of_zero_le (by lia:0≤more)) ?_;intro mn KQ)
 obtain ⟨k,rfl⟩:∃ k,mn=k+1:=⟨mn - 1,by lia⟩
 have DM:=fun l h=>(D.Fi l h).1
 have D3:=fun l h=>(D.Fi l h).2
 have IW:=fun m h=>(D.qQ m h).1
 have a1:=D.h1
 have a2:=D.h2
 have a3:=D.h3
 have hw:=lB D.qQ (j:=more) (by lia)
 have sy:(ar (wantedOf more d) ls).length=es.length+1:=by unfold ar wantedOf;rw [List.length_zipWith,List.length_map];lia
 have IX:∀ e∈Str.ofString ""::es,e.length≤10:=fun e he=>by
  rcases List.mem_cons.mp he with rfl | he
  ·decide +kernel
  ·have:=BJ (D.ends e he);lia
 have hz:∀ x∈(List.zipWith (·++·) (Str.ofString ""::es) (ar d ls)).map (·.length),x≤120:=fun x hx=>by
  (refine xDPP (List.mem_map.mp hx) ?_;intro y hy cw;subst cw)
  (refine ba (List.getElem?_of_mem hy) ?_;intro i hi)
  rw [List.getElem?_zipWith] at hi
  cases q1:(Str.ofString ""::es)[i]? with
  | none=>rw [q1] at hi;cases hi
  | some e =>
   cases q2:(ar d ls)[i]? with
   | none=>rw [q1,q2] at hi;cases hi
   | some r =>
    rw [q1,q2] at hi
    have hi:some (e++r)=some y:=hi
    cases hi
    have b1:=IX e (List.mem_of_getElem? q1)
    have b2:=lC (fun m h=>by have:=D.qQ m h;lia) D3 r (List.mem_of_getElem? q2)
    rw [strLen_append];lia
 have KR:((List.zipWith (·++·) (Str.ofString ""::es) (ar d ls)).map (·.length)).sum≤1200:=by
  have:=vj _ hz
  have h2:((List.zipWith (·++·) (Str.ofString ""::es) (ar d ls)).map (·.length)).length≤10:=by
   rw [List.length_map,List.length_zipWith,List.length_cons];lia
  have:=Nat.mul_le_mul_right 120 h2
  lia
 have qn:=mM (d:=d) DM D.ends a1 a2 IW
 have hk:((k+1:Nat):Int)=(k:Int)+1:=by exact Nat.ToInt.add_congr rfl rfl
 have wl:=ub (ls:=ls) hw D3 (by lia)
 have IY:=vo (x:=bD ls (wantedOf more d)) (rows:=ar (wantedOf more d) ls) (fun r hr=>(k9 DM r hr).2) (by intro e;rw [e] at sy;simp at sy) (gm _ _)
 have e2:(Str.ofString "\r\n").length=2:=by decide +kernel
 exact LF.of ⟨
  fun m h=>by have:=D.qQ m h;lia
  ,by lia
  ,by lia
  ,by rw [List.length_cons];exact Eq.symm D.h2
  ,D3
  ,IX
  ,hm
  ,fun j hj=>by
   cases j with
   | zero =>
    show (jw _ ls d).length≤_
    unfold jw
    refine Nat.le_trans (tq _) ?_
    have:∀ ss:List Str,sumLen ss=(ss.map (·.length)).sum:=by
     intro ss
     induction ss with
     | nil=>rfl
     | cons x r ih=>show x.length+sumLen r=_;rw [ih,List.map_cons,List.sum_cons]
    rw [this];lia
   | succ j =>
    rw [qn j]
    have:=ub (ls:=ls) (lB D.qQ (j:=(j:Int)+1) (by lia)) D3 (by lia)
    lia
  ,by
   rw [KQ,Int.toNat_natCast,qn k,hk]
  ,by lia
  ,by
   have:=vj (B:=110) ((ar (wantedOf more d) ls).map (·.length)) fun x hx=>by
    (refine xDPP (List.mem_map.mp hx) ?_;intro y hy cR;subst cR)
    exact lC hw D3 y hy
   rw [List.length_map,sy] at this
   have:=Nat.mul_le_mul_right 110 (by lia:es.length+1≤10)
   lia
  ,by lia
  ,by
   have k1:Builtin.Str.strKind (Str.ofString "\r\n")=1:=by decide +kernel
   have k2:1≤Builtin.Str.strKind (bD ls (wantedOf more d)):=by unfold Builtin.Str.strKind;split <;> (try split) <;> decide
   have l2:2≤(bD ls (wantedOf more d)).length:=by
    rw [← hW,gm]
    have uc:2≤(ar (wantedOf more d) ls).length:=by lia
    revert uc
    rcases ar (wantedOf more d) ls with _ | ⟨a,_ | ⟨b,r⟩⟩ <;> intro uc
    ·exact Nat.add_le_add_iff_left.mp uc
    ·simp at uc
    ·rw [List.map_cons,List.map_cons,eR,List.flatMap_cons];simp;exact Nat.le_add_left 2 ((tl a).length.add ((tl b).length+(List.map ((fun a=>a.length+1+1) ∘ tl) r).sum))
   rw [k1,e2,decide_eq_false (by exact Nat.not_lt.mpr l2),decide_eq_false (by exact Nat.not_lt.mpr k2)];rfl
  ,by
   have h:=congrArg List.length IY
   have uc:2≤(ar (wantedOf more d) ls).length:=by lia
   rw [← h] at uc
   cases q:Builtin.Str.occurrences (bD ls (wantedOf more d)) (Str.ofString "\r\n") 0 (bD ls (wantedOf more d)).length ((bD ls (wantedOf more d)).length+1) with
   | nil=>rw [q] at uc;simp [Builtin.Str.partsBetween] at uc
   | cons a r=>rfl
  ,IY
  ,fun i row w hr IZ=>by
   have w0:=hw w (List.mem_of_getElem? IZ)
   refine (aO (by have:=lC hw D3 row (List.mem_of_getElem? hr);lia) w0.1 (by lia) (fun m Z=>?_))
   unfold ar at hr
   rw [List.getElem?_zipWith,IZ] at hr
   cases q:ls[i]? with
   | none=>rw [q] at hr;cases hr
   | some l =>
    rw [q] at hr
    have hr:some (bu w l)=some row:=hr
    cases hr
    (refine ba (Int.eq_ofNat_of_zero_le w0.1) ?_;intro n fu;subst fu)
    rw [yf (DM l (List.mem_of_getElem? q)),Bool.eq_iff_iff,decide_eq_true_iff,beq_iff_eq]
    lia
  ,by rw [ua IW (by lia)];exact ho⟩
theorem DN{l:Str}(h:l∈d9):ya l∧l.length≤100:=by
 have key:∀ l∈d9,(tl l≠[]∧(∀ c∈tl l,c≠10∧c≠13)∧(tl l).head?≠some 46)∧l.length≤100:=by decide +kernel
 (refine aK (key l h) ?_;intro gp h4;refine aP gp ?_;clear gp;intro h1 h2 h3)
 exact ⟨⟨h1,h2,fun r e=>h3 (by rw [e];rfl)⟩,h4⟩
theorem ud(n:Int):js n∈d9:=by
 unfold js
 (refine aK (fQ (n:=n.fdiv 5) (k:=10) (by decide)) ?_;intro h1 h2)
 have hl:d9.length=10:=rfl
 rw [List.getD_eq_getElem?_getD,List.getElem?_eq_getElem (by rw [hl];exact (Int.toNat_lt h1).mpr h2)]
 exact List.getElem_mem _
theorem ym(n:Int):endOf n∈oZ:=by
 unfold endOf
 (refine aK (fQ (n:=n.fdiv 50) (k:=3) (by decide)) ?_;intro h1 h2)
 have hl:oZ.length=3:=rfl
 rw [List.getD_eq_getElem?_getD,List.getElem?_eq_getElem (by rw [hl];exact (Int.toNat_lt h1).mpr h2)]
 exact List.getElem_mem _
theorem pf(ax:List Int)(hs:ax.length≤63):PF ax:=by
 have hn:(numsOf ax).length≤8:=by rw [numsOf_length];exact Nat.min_le_left 8 ax.length
 unfold PF
 generalize numsOf ax=ns at hn ⊢
 have dl:(cA ns).length=ns.length+2:=by unfold cA;simp
 (refine dx (sr (ds:=cA ns) (by exact Nat.le_of_ble_eq_true rfl) (by lia)) ?_;intro Ml Mh F R)
 have db:∀ m∈cA ns,0≤m∧m≤4:=fun m hm=>by
  unfold cA at hm
  rcases List.mem_append.mp hm with h | h
  ·simp at h;lia
  ·(refine xDPP (List.mem_map.mp h) ?_;intro n Z nA;subst nA)
   have:=fQ (n:=n) (k:=5) (by decide)
   lia
 have mr:1≤k8 ns∧k8 ns≤3:=by
  unfold k8
  have:=fQ (n:=ns.sum) (k:=3) (by decide)
  lia
 have D:∀ d:List Int,d.length=ns.length+2→(∀ m∈d,0≤m∧m≤4)→Fz (Str.ofString "\r"::ns.map endOf) (dC ns) d:=fun d h1 h2=>{
  Fi:=fun l hl=>by
   refine DN ?_
   unfold dC at hl
   rcases List.mem_append.mp hl with h | h
   ·have key:∀ l∈[Str.ofString "a",Str.ofString "*"],l∈d9:=by decide +kernel
    exact key l h
   ·(refine xDPP (List.mem_map.mp h) ?_;intro n Z qo;subst qo)
    exact ud n
  ends:=fun e he=>by
   have key:∀ e∈oZ,mI (tl e):=by unfold mI;decide +kernel
   refine key e ?_
   rcases List.mem_cons.mp he with rfl | h
   ·have:Str.ofString "\r"∈oZ:=by decide +kernel
    exact this
   ·(refine xDPP (List.mem_map.mp h) ?_;intro n Z iC;subst iC)
    exact ym n
  h1:=by unfold dC;simp
  h2:=by rw [h1];simp
  h3:=by rw [List.length_cons,List.length_map];lia
  qQ:=h2}
 have ll:(ak (overOf (cA ns))).length=(cA ns).length:=by rw [a7,ay]
 refine (cS Ml Mh F R (wM (D _ dl db) mr rfl) (wM (D _ (by lia) fun m hm=>?_) mr (tZ _)))
 (refine xDPP (mem_getD hm) ?_;intro i hi gX;subst gX)
 rw [ll] at hi
 have q1:=bX (cA ns) i hi
 have q2:=DJ (ds:=cA ns) (fun j hj=>(db _ (getD_mem hj)).1) i hi
 have q3:=(db _ (getD_mem hi)).2
 unfold lvl at q1 q2
 lia
end L2
end Mp
namespace Mq
open PySem PySem.W PyProof.Rows Mp Mp.L2
noncomputable abbrev K2 (P:Params):Frag:=KL P
theorem tg(P:Params):cE mW (K2 P):=cE.of
 ⟨by kernel_rfl,
 by kernel_rfl,
 by kernel_rfl,
 by kernel_rfl,
 by kernel_rfl,
 by kernel_rfl,
 by kernel_rfl,
 by kernel_rfl,
 by kernel_rfl,
 by kernel_rfl,
 by kernel_rfl,
 by kernel_rfl,
 by kernel_rfl,
 by kernel_rfl,
 by kernel_rfl,
 by kernel_rfl,
 by kernel_rfl,
 by kernel_rfl,
 by kernel_rfl,
 by kernel_rfl,
 by kernel_rfl,
 by kernel_rfl,
 by kernel_rfl,
 by kernel_rfl,
 Cs (by kernel_rfl) (by kernel_rfl) (by kernel_rfl) (by kernel_rfl) (by kernel_rfl) (by kernel_rfl) (by kernel_rfl),
 Cs (by kernel_rfl) (by kernel_rfl) (by kernel_rfl) (by kernel_rfl) (by kernel_rfl) (by kernel_rfl) (by kernel_rfl),
 gG (by kernel_rfl) (by kernel_rfl) (by kernel_rfl),
 gG (by kernel_rfl) (by kernel_rfl) (by kernel_rfl),
 gG (by kernel_rfl) (by kernel_rfl) (by kernel_rfl),
 gG (by kernel_rfl) (by kernel_rfl) (by kernel_rfl),
 gG (by kernel_rfl) (by kernel_rfl) (by kernel_rfl),
 gG (by kernel_rfl) (by kernel_rfl) (by kernel_rfl),
 gG (by kernel_rfl) (by kernel_rfl) (by kernel_rfl),
 gG (by kernel_rfl) (by kernel_rfl) (by kernel_rfl),
 gG (by kernel_rfl) (by kernel_rfl) (by kernel_rfl),
 gG (by kernel_rfl) (by kernel_rfl) (by kernel_rfl),
 gG (by kernel_rfl) (by kernel_rfl) (by kernel_rfl)⟩
theorem tt(P:Params):lD mW (K2 P):=lD.of
 ⟨by kernel_rfl,
 by kernel_rfl,
 by kernel_rfl,
 by kernel_rfl,
 by kernel_rfl,
 by kernel_rfl,
 DK (by kernel_rfl) (by kernel_rfl) (by kernel_rfl) (by kernel_rfl) (by kernel_rfl) (by kernel_rfl) (by kernel_rfl),
 by kernel_rfl,
 gG (by kernel_rfl) (by kernel_rfl) (by kernel_rfl),
 Fy (by kernel_rfl) (by kernel_rfl) (by kernel_rfl),
 by kernel_rfl⟩
theorem ts(P:Params):bU HJ mW (K2 P):=bU.of
 ⟨by kernel_rfl,
 by kernel_rfl,
 by kernel_rfl,
 by kernel_rfl,
 by kernel_rfl,
 by kernel_rfl,
 by kernel_rfl,
 by kernel_rfl,
 by kernel_rfl,
 by kernel_rfl,
 by kernel_rfl,
 by kernel_rfl,
 ⟨by kernel_rfl,by kernel_rfl,by kernel_rfl,by kernel_rfl,by kernel_rfl⟩,
 ⟨by kernel_rfl,by kernel_rfl,by kernel_rfl,by kernel_rfl,by kernel_rfl⟩,
 ⟨by kernel_rfl,by kernel_rfl,by kernel_rfl,by kernel_rfl,by kernel_rfl,by kernel_rfl,by decide⟩,
 ⟨by kernel_rfl,by kernel_rfl,by kernel_rfl,by kernel_rfl,by kernel_rfl,by kernel_rfl,by decide⟩,
 ⟨by kernel_rfl,by kernel_rfl,by kernel_rfl,by kernel_rfl,by kernel_rfl,by kernel_rfl,by decide⟩,
 ⟨by kernel_rfl,by kernel_rfl,by kernel_rfl⟩,
 ⟨by kernel_rfl,by kernel_rfl,by kernel_rfl⟩,
 ⟨by kernel_rfl,by kernel_rfl,by kernel_rfl⟩,
 ⟨by kernel_rfl,by kernel_rfl,by kernel_rfl⟩,
 ⟨by kernel_rfl,by kernel_rfl,by kernel_rfl⟩,
 ⟨by kernel_rfl,by kernel_rfl,by kernel_rfl⟩,
 by kernel_rfl,
 gG (by kernel_rfl) (by kernel_rfl) (by kernel_rfl),
 Fx (by kernel_rfl) (by kernel_rfl) (by kernel_rfl),
 ⟨by kernel_rfl,by kernel_rfl,by kernel_rfl⟩,
 ⟨by kernel_rfl,by kernel_rfl,by kernel_rfl⟩,
 ⟨by kernel_rfl,by kernel_rfl,by kernel_rfl⟩,
 ⟨by kernel_rfl,by kernel_rfl,by kernel_rfl⟩,
 ⟨by kernel_rfl,by kernel_rfl,by kernel_rfl⟩,
 ⟨by kernel_rfl,by kernel_rfl,by kernel_rfl⟩,
 ⟨by kernel_rfl,by kernel_rfl,by kernel_rfl⟩,
 wK (by kernel_rfl) (by kernel_rfl) (by kernel_rfl) (by kernel_rfl) (by kernel_rfl) (by kernel_rfl) (by kernel_rfl),
 wK (by kernel_rfl) (by kernel_rfl) (by kernel_rfl) (by kernel_rfl) (by kernel_rfl) (by kernel_rfl) (by kernel_rfl),
 gG (by kernel_rfl) (by kernel_rfl) (by kernel_rfl),
 gG (by kernel_rfl) (by kernel_rfl) (by kernel_rfl),
 gG (by kernel_rfl) (by kernel_rfl) (by kernel_rfl),
 gG (by kernel_rfl) (by kernel_rfl) (by kernel_rfl),
 gG (by kernel_rfl) (by kernel_rfl) (by kernel_rfl),
 gG (by kernel_rfl) (by kernel_rfl) (by kernel_rfl),
 gG (by kernel_rfl) (by kernel_rfl) (by kernel_rfl)⟩
theorem KU(P:Params):IV (K2 P) where
 m1:=by kernel_rfl
 m2:=by kernel_rfl
 g:=tg P
 s:=ts P
 t:=tt P
 l:=gG (by kernel_rfl) (by kernel_rfl) (by kernel_rfl)
 c:=by kernel_rfl
theorem fin2(pf:∀ ax:List Int,ax.length≤63→PF ax):PySem.Challenge.rw_in0223_02.Holds:=by
 refine holds_law (by kernel_rfl) fun HN=>?_
 refine holds_open (q:=mG) (loose:=rT) (Xt:=fun s=>xlAt mG [] s&&recOk (RowW.records Challenge.rw_in0223_02.row.toRowW) s) (XP:=XL mG []) (Yf:=Hook.obs kX) (Ya:=Hook.val kX) (YP:=Hook.says kX) (N:=5982) EO (Hook.of kX) (Hook.keeps kX) (fun s e=>xl_of s (Bool.and_eq_true_iff.mp e).1) XL.keeps (by rfl) (by rfl) (by rfl) (fun s e=>recFacts_of (Bool.and_eq_true_iff.mp e).2) (by rfl) HN (by decide +kernel) ⟨rfl,rfl,rfl,rfl,rfl,by decide +kernel⟩ ⟨[WData.list []],by decide +kernel,by decide +kernel⟩ ?_
 intro w s₀ s₁ mg mb G Y a o pm cd doc dV kV ha pJ KV KW KX Au args vals as HO KY DO I0 KZ
 have KI:=km_in_of Y
 have hT:=km_tabs_of Y 194 (by simp)
 have FD:(K2 w.params).In s₁.heap:=KI
 have O:=KU w.params
 have T:=G.T
 clear Y KI pJ KV KW
 have ea:a=251:=by
  have q:=mg_of (FD _ _ O.m1) T.g (x:="law") (v:=some (.ref 251)) (by kernel_rfl)
  have q2:mg "law"=some (.ref a):=KX
  rw [q] at q2
  cases q2;rfl
 subst ea
 obtain ⟨h1,h2⟩:=pre_splitW HO
 obtain ⟨d,r,rfl,h3,h4⟩:=hasAllW_cons h1
 obtain rfl:=hasAllW_nil h4
 obtain ⟨xs,rfl,h5⟩:=hasW_list h3
 cases DO with
 | cons r1 r2 =>
  cases r2
  cases r1 with
  | list e1 e2 e3 e4 =>
   obtain ⟨ns,i1,i2⟩:=BH h5 e4
   have hlen:ns.length≤63:=by
    rw [i2]
    exact BI (l:=PySem.Challenge.rw_in0223_02) rfl rfl h2
   rename_i oa vs n _
   obtain ⟨c0,d0,dt,sl⟩:=oa
   cases e2;cases e3
   refine wpAny_mono (HK (K:=K2 w.params) O T (by kernel_rfl) FD hT Au e1 i1 (by omega) (pf ns hlen)) (fun v s' hq=>?_) fun Z Z q=>q.elim
   obtain ⟨rfl,q1,q2,q3⟩:=hq
   refine ⟨.inl ⟨_,.bool true,[],rfl,fun Z=>rfl,.bool true,?_,fun Z=>⟨.nil,fun a h=>by cases h⟩⟩,q1,q2,q3⟩
   exact Av (l:=PySem.Challenge.rw_in0223_02)
end Mq
end
end Internal
set_option maxRecDepth 100000 in
set_option maxHeartbeats 8000000 in
theorem PySem.Challenge.cw_in0223_02_holds : PySem.Challenge.rw_in0223_02.Holds :=
 Internal.Mq.fin2 Internal.Mp.L2.pf
