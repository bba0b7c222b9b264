import PyProof.Rows.All
import Wide.All
import OpenK.AllK
import Wide.FinOn
import PyProof.Tail
import PyProof.DictCompW
import PyProof.EqAt
import PyProof.EqKinds
import PyProof.StrLawsTight
import PyProof.TypeOfCall
import KE.KBoundM
import KE.KPop
import KE.KListMore
import KE.KLam
import KE.KDictIter
import KE.KDictSum
import KE.KEqDict
import KE.KFind
import KE.KIntText
import KE.KPar
import KE.KSortTup
import Lean
import PySem.Challenge.RW_us0026_01
open PySem PySem.W PyProof.Rows PySem.Calls
set_option Elab.async false
set_option maxRecDepth 100000
set_option maxHeartbeats 8000000
set_option linter.all false
set_option genSizeOf false
set_option compiler.extract_closed false
namespace Mine.Internal
theorem ft {P:Prop} (e:false=true):P:=nomatch e
theorem tf {P:Prop} (e:true=false):P:=nomatch e
theorem ns {α:Type _} {x:α} {P:Prop} (e:none=some x):P:=nomatch e
theorem sn {α:Type _} {x:α} {P:Prop} (e:some x=none):P:=nomatch e
theorem nc {α:Type _} {x:α} {l:List α} {P:Prop} (e:[]=x :: l):P:=nomatch e
theorem cn {α:Type _} {x:α} {l:List α} {P:Prop} (e:x :: l = []):P:=nomatch e
theorem so4 {α β γ δ:Type _} {a:α} {b:β} {c:γ} {d:δ} {M:(a':α)->(b':β)->(c':γ)->(d':δ)->some (a,b,c,d)=some (a',b',c',d')->Prop} (h:M a b c d rfl) {a':α} {b':β} {c':γ} {d':δ} (e:some (a,b,c,d)=some (a',b',c',d')):M a' b' c' d' e:=by
 cases e; exact h
theorem so4' {α β γ δ:Type _} {a:α} {b:β} {c:γ} {d:δ} {M:(a':α)->(b':β)->(c':γ)->(d':δ)->some (a',b',c',d')=some (a,b,c,d)->Prop} (h:M a b c d rfl) {a':α} {b':β} {c':γ} {d':δ} (e:some (a',b',c',d')=some (a,b,c,d)):M a' b' c' d' e:=by
 cases e; exact h
theorem so1 {α:Type _} {a:α} {M:(a':α)->some a=some a'->Prop} (h:M a rfl) {a':α} (e:some a=some a'):M a' e:=by
 cases e; exact h
theorem so1' {α:Type _} {a:α} {M:(a':α)->some a'=some a->Prop} (h:M a rfl) {a':α} (e:some a'=some a):M a' e:=by
 cases e; exact h
theorem sh1 {a b:Nat}:a+1+b=a+(b+1):=Nat.succ_add a b
theorem sh2 {a b:Nat}:a+(b+1)=a+1+b:=(Nat.succ_add a b).symm
theorem sh3 {a b c:Nat}:a+(b+1)+c=a+b+(c+1):=Nat.succ_add (a+b) c
theorem sh4 {a b c:Nat}:a+b+(c+1)=a+(b+1)+c:=(Nat.succ_add (a+b) c).symm
theorem up1 {a:Nat}:a < a+1+1:=Nat.lt_succ_of_lt (Nat.lt_succ_self a)
section
variable {a b c d e i j k p q r x:Nat}
theorem a1:a < a+1:=Nat.lt_add_one a
theorem a2:a<=a:=Nat.le_refl a
theorem a4:a<=a+1:=Nat.le_succ a
theorem a6:¬ a < a:=Nat.lt_irrefl a
theorem a7:a - b<=a:=Nat.sub_le a b
theorem a8:0+a=a:=Nat.zero_add a
theorem a9 {y:Int}:y+0=y:=Int.add_zero y
theorem b1:0<=(a:Int):=Int.natCast_nonneg a
theorem b3:a<=a+b:=Nat.le_add_right a b
theorem b4:a<=b+a:=Nat.le_add_left a b
theorem b2 {y:Int}:¬ y < y:=Int.lt_irrefl y
theorem w1 (h:a < b:=by assumption):a < b+1:=Nat.lt_succ_of_lt h
theorem w2 (h:a < b:=by assumption):a<=b:=Nat.le_of_lt h
theorem w3 (h:a < b:=by assumption):a ≠ b:=Nat.ne_of_lt h
theorem w5 (h:a < b:=by decide):c+a < c+b:=Nat.add_lt_add_left h c
theorem w6 (h:(a == b)=false:=by decide):c+a ≠ c+b:=fun e=>by rw [Nat.add_left_cancel e,beq_self_eq_true] at h; cases h
theorem w7 (h:a < b:=by assumption):a < b+c:=Nat.lt_of_lt_of_le h (Nat.le_add_right b c)
theorem w8 (h:a < b:=by assumption):a ≠ b+c:=Nat.ne_of_lt (w7 h)
theorem w9 (h:a<=b:=by assumption) (g:b<=c:=by decide):a<=c:=Nat.le_trans h g
theorem wa (h:a<=b:=by assumption) (g:b < c:=by decide):a < c:=Nat.lt_of_le_of_lt h g
theorem wb (h:a < b:=by assumption) (g:b<=c:=by decide):a < c:=Nat.lt_of_lt_of_le h g
theorem wd (h:a<=b:=by assumption) (g:b<=c:=by assumption):a<=c:=Nat.le_trans h g
theorem we (h:a<=b:=by assumption) (g:b < c:=by assumption):a < c:=Nat.lt_of_le_of_lt h g
theorem wf (h:a < b:=by assumption):(a:Int) < b:=Int.ofNat_lt.mpr h
theorem wg (h:a<=b:=by assumption):(a:Int)<=b:=Int.ofNat_le.mpr h
theorem wh (h:b<=a:=by assumption):¬ (a:Int) < b:=Int.not_lt.mpr (Int.ofNat_le.mpr h)
theorem wi (h:a=b:=by assumption):a<=b:=Nat.le_of_eq h
theorem wj (h:b=a:=by assumption):a<=b:=Nat.le_of_eq h.symm
theorem wk (h:¬ a<=b:=by assumption):b<=a:=Nat.le_of_lt (Nat.lt_of_not_le h)
theorem wl (h:¬ a < b:=by assumption):b<=a:=Nat.le_of_not_lt h
theorem wm (h:a < b+1:=by assumption) (g:¬ a=b:=by assumption):a < b:=Nat.lt_of_le_of_ne (Nat.le_of_lt_succ h) g
theorem wn (h:a<=b:=by assumption):a<=b+1:=Nat.le_succ_of_le h
theorem wo (h:a+1<=b:=by assumption):a<=b:=Nat.le_of_succ_le h
theorem wp (h:a < b:=by assumption):a+1<=b:=h
theorem wq (h:a<=b:=by assumption):¬ b < a:=Nat.not_lt_of_le h
theorem wr (h:0 < b:=by decide):a % b < b:=Nat.mod_lt a h
theorem ws:0+a<=a:=Nat.le_of_eq (Nat.zero_add a)
theorem wt (h:a+b+1<=c:=by assumption):a+1+b<=c:=Nat.succ_add a b ▸ h
theorem wu (h:a+1<=b:=by assumption):a < b:=h
theorem sm1 (h:a+b<=c:=by assumption) (k:c<=d:=by decide):a<=d:=Nat.le_trans (Nat.le_trans (Nat.le_add_right a b) h) k
theorem sm2 (h:a+b<=c:=by assumption) (k:c<=d:=by decide):b<=d:=Nat.le_trans (Nat.le_trans (Nat.le_add_left b a) h) k
theorem sm3 (h:a+b+1<=c:=by assumption) (k:c<=d:=by decide):a+1<=d:=sm1 (wt h) k
theorem sm4 (h:a+(b+1)<=c:=by assumption) (k:c<=d:=by decide):a < d:=sm3 h k
theorem eqa (e:a=b:=by assumption) (h:b<=c:=by assumption) (k:c<=d:=by decide):a<=d:=e ▸ Nat.le_trans h k
theorem eqb (e:a=b:=by assumption) (h:b < c:=by assumption) (k:c<=d:=by decide):a < d:=e ▸ Nat.lt_of_lt_of_le h k
theorem eqc (e:a=b:=by assumption) (h:b < c:=by assumption) (k:c<=d:=by decide):a<=d:=Nat.le_of_lt (eqb e h k)
theorem eqd (e:a=b:=by assumption) (h:i < b:=by assumption):i < a:=e ▸ h
theorem eqe (e:a=b:=by assumption) (h:b<=i:=by assumption):a<=i:=e ▸ h
theorem eqf (e:a=b:=by assumption) (h:i < a:=by assumption):i < b:=e ▸ h
theorem eqi (e:a=b:=by assumption) (h:b<=c:=by assumption) (k:c < d:=by decide):a < d:=e ▸ Nat.lt_of_le_of_lt h k
theorem rg1 (h:a<=x /\ x<=b:=by assumption) (k:c<=a:=by decide) (l:b<=d:=by decide):c<=x /\ x<=d:=⟨Nat.le_trans k h.1,Nat.le_trans h.2 l⟩
theorem rg2 (h:a<=x /\ x<=b:=by assumption) (k:c<=a:=by decide) (l:b < d:=by decide):c<=x /\ x < d:=⟨Nat.le_trans k h.1,Nat.lt_of_le_of_lt h.2 l⟩
theorem pp2 (e:r=p+(q+1):=by assumption):p < r:=e ▸ Nat.lt_of_lt_of_le (Nat.lt_succ_self p) (Nat.add_le_add_left (Nat.le_add_left 1 q) p)
theorem pp3 (e:r=p+(q+1):=by assumption):p<=r:=Nat.le_of_lt (pp2 e)
theorem pp1 (e:r=p+(q+1):=by assumption) (h:r<=c:=by assumption) (k:c<=d:=by decide):p<=d:=Nat.le_trans (Nat.le_trans (pp3 e) h) k
theorem ab1 (h:a<=c:=by assumption) (g:b<=d:=by assumption) (k:c+d<=e:=by decide):a+b<=e:=Nat.le_trans (Nat.add_le_add h g) k
theorem lc1 (h:a < b:=by assumption) (g:b<=c:=by assumption) (k:c<=d:=by decide):a < d:=Nat.lt_of_lt_of_le h (Nat.le_trans g k)
theorem lc2 (h:a<=b:=by assumption) (g:b<=c:=by assumption) (k:c<=d:=by decide):a<=d:=Nat.le_trans h (Nat.le_trans g k)
theorem in1 (h:¬ a=b:=by assumption):¬ (a:Int)=b:=fun e=>h (Int.ofNat.inj e)
theorem in2 (h:a=b:=by assumption):(a:Int)=b:=congrArg Int.ofNat h
theorem in3:¬ (a:Int) < 0:=Int.not_lt.mpr (Int.natCast_nonneg a)
theorem in5 {d:Int} (h:a < c:=by assumption) (k:(c:Int)<=d:=by decide):(a:Int) < d:=Int.lt_of_lt_of_le (Int.ofNat_lt.mpr h) k
theorem in6 (h:a < b:=by assumption):0<=(a:Int) /\ (a:Int) < b:=⟨Int.natCast_nonneg a,Int.ofNat_lt.mpr h⟩
theorem su1 (h:a<=x /\ x < a+b:=by assumption):x - a < b:=Nat.sub_lt_left_of_lt_add h.1 h.2
theorem su2 (h:a<=x:=by assumption) (g:x < a+b:=by assumption):x - a < b:=Nat.sub_lt_left_of_lt_add h g
theorem su3 (h:a<=b:=by assumption):a+(b - a)=b:=Nat.add_sub_of_le h
theorem su4 (h:a<=b:=by assumption):b - a+a=b:=Nat.sub_add_cancel h
theorem su5 (h:i < b - a:=by assumption):a+i < b:=Nat.add_lt_of_lt_sub' h
theorem mn1 (h:i < min a b:=by assumption):i < a:=Nat.lt_of_lt_of_le h (Nat.min_le_left a b)
theorem mn2 (h:i < min a b:=by assumption):i < b:=Nat.lt_of_lt_of_le h (Nat.min_le_right a b)
theorem nf1:a ≠ a+(j+1):=fun e=>absurd (Nat.add_left_cancel (Eq.trans (Nat.add_zero a) e)) (by simp)
theorem nf2:a+(j+1) ≠ a:=Ne.symm nf1
theorem nf3 (h:(i == j+k)=false:=by decide):a+i ≠ a+j+k:=fun e=>by
 have:=Nat.add_left_cancel (Nat.add_assoc a j k ▸ e)
 simp [this] at h
theorem jn2 (h:j < a:=by assumption):j ≠ a+i+k:=Nat.add_assoc a i k ▸ w8 h
end
@[elab_as_elim] theorem rwL {α:Sort _} {a b:α} {M:α->Prop} (h:a=b) (k:M b):M a:=h ▸ k
@[elab_as_elim] theorem rwR {α:Sort _} {a b:α} {M:α->Prop} (h:b=a) (k:M b):M a:=h ▸ k
end Mine.Internal
namespace Mine
section
set_option tactic.hygienic false
section
local macro_rules | `(tactic| o_head $_)=>`(tactic| skip)
theorem kk:True:=by
 refine Or.elim (Classical.em (PySem.Challenge.rw_us0026_01.row.Holds)) (fun h=>?_) (fun _=>trivial)
 have h2:PySem.Challenge.rw_us0026_01.row.Holds:=by
  k_head
  exact h
 trivial
end
end
end Mine
namespace Mine.Internal
section
set_option tactic.hygienic false
local macro_rules
 | `(tactic| omega)=>do
  let as <- ("b3 b4 a1 a2 a4 sh1 sh2 sh3 sh4 up1 w1 w2 w3 w5 w6 w7 w8 w9 wa wb wd we wf wg wh a6 a7 a8 a9 b1 b2 wi wj wk wl wm wn wo wp wq wr ws wt wu sm1 sm2 sm3 sm4 eqa eqb eqc eqd eqe eqf eqi rg1 rg2 pp2 pp3 pp1 ab1 lc1 lc2 in1 in2 in3 in5 in6 su1 su2 su3 su4 su5 mn1 mn2 nf1 nf2 nf3 jn2".splitOn " ").toArray.mapM fun n=>`(Lean.Parser.Tactic.tacticSeq| exact $(Lean.mkIdent (.str `Internal n)))
  `(tactic| first | with_reducible (first | assumption $[| $as]* | decide) | lia)
 | `(tactic| obtain $pat:rcasesPatMed:=$e:term)=>do
  if (((pat.raw.reprint.getD ""):String).toList.filter fun c=>c == ',').length < 2 then Lean.Macro.throwUnsupported
  `(tactic| (refine Classical.byContradiction fun hn=>?_; rcases $e:term with $pat:rcasesPatMed; all_goals (refine hn ?_; clear hn)))
 | `(tactic| cases $e:term)=>do
  if e.raw.getKind == ``Lean.Parser.Term.paren then Lean.Macro.throwUnsupported
  let k <- ("ft tf ns sn nc cn".splitOn " ").toArray.mapM fun n=>`(Lean.Parser.Tactic.tacticSeq| exact $(Lean.mkIdent (.str `Internal n)) $e)
  let s <- ("so4 so4' so1 so1'".splitOn " ").toArray.mapM fun n=>`(Lean.Parser.Tactic.tacticSeq| induction $e:term using $(Lean.mkIdent (.str `Internal n)):ident)
  `(tactic| first $[| $k]* $[| $s]* | subst $e:term | cases ($e))
 | `(tactic| rw [$rs,*])=>do
  let ts <- rs.getElems.mapM fun (r:Lean.TSyntax `Lean.Parser.Tactic.rwRule)=>do
   let (n,e) <- match r with
    | `(Lean.Parser.Tactic.rwRule| <- $e:term)=>pure ("rwR",e)
    | `(Lean.Parser.Tactic.rwRule| $e:term)=>pure ("rwL",e)
    | _=>Lean.Macro.throwUnsupported
   let i:=Lean.mkIdent (.str `Internal n)
   `(tactic| first | ((fail_if_success (fail_if_success rewrite [$r:rwRule])); first | refine $i $e ?_ | refine $i ($e _) ?_ | refine $i ($e _ _) ?_) | rewrite [$r:rwRule])
  `(tactic| ($[$ts];*; try (with_reducible rfl)))
set_option bootstrap.genMatcherCode false
section
inductive Ex2 {α0:Sort _} {α1:Sort _} (p:α0->α1->Prop):Prop
 | mk (x0:α0) (x1:α1) (h:p x0 x1):Ex2 p
inductive Ex3 {α0:Sort _} {α1:Sort _} {α2:Sort _} (p:α0->α1->α2->Prop):Prop
 | mk (x0:α0) (x1:α1) (x2:α2) (h:p x0 x1 x2):Ex3 p
inductive Ex4 {α0:Sort _} {α1:Sort _} {α2:Sort _} {α3:Sort _} (p:α0->α1->α2->α3->Prop):Prop
 | mk (x0:α0) (x1:α1) (x2:α2) (x3:α3) (h:p x0 x1 x2 x3):Ex4 p
inductive Ex5 {α0:Sort _} {α1:Sort _} {α2:Sort _} {α3:Sort _} {α4:Sort _} (p:α0->α1->α2->α3->α4->Prop):Prop
 | mk (x0:α0) (x1:α1) (x2:α2) (x3:α3) (x4:α4) (h:p x0 x1 x2 x3 x4):Ex5 p
inductive Ex6 {α0:Sort _} {α1:Sort _} {α2:Sort _} {α3:Sort _} {α4:Sort _} {α5:Sort _} (p:α0->α1->α2->α3->α4->α5->Prop):Prop
 | mk (x0:α0) (x1:α1) (x2:α2) (x3:α3) (x4:α4) (x5:α5) (h:p x0 x1 x2 x3 x4 x5):Ex6 p
inductive Ex8 {α0:Sort _} {α1:Sort _} {α2:Sort _} {α3:Sort _} {α4:Sort _} {α5:Sort _} {α6:Sort _} {α7:Sort _} (p:α0->α1->α2->α3->α4->α5->α6->α7->Prop):Prop
 | mk (x0:α0) (x1:α1) (x2:α2) (x3:α3) (x4:α4) (x5:α5) (x6:α6) (x7:α7) (h:p x0 x1 x2 x3 x4 x5 x6 x7):Ex8 p
inductive A3 (p0 p1 p2:Prop):Prop
 | mk (h0:p0) (h1:p1) (h2:p2):A3 p0 p1 p2
inductive A4 (p0 p1 p2 p3:Prop):Prop
 | mk (h0:p0) (h1:p1) (h2:p2) (h3:p3):A4 p0 p1 p2 p3
inductive A5 (p0 p1 p2 p3 p4:Prop):Prop
 | mk (h0:p0) (h1:p1) (h2:p2) (h3:p3) (h4:p4):A5 p0 p1 p2 p3 p4
inductive A6 (p0 p1 p2 p3 p4 p5:Prop):Prop
 | mk (h0:p0) (h1:p1) (h2:p2) (h3:p3) (h4:p4) (h5:p5):A6 p0 p1 p2 p3 p4 p5
inductive A7 (p0 p1 p2 p3 p4 p5 p6:Prop):Prop
 | mk (h0:p0) (h1:p1) (h2:p2) (h3:p3) (h4:p4) (h5:p5) (h6:p6):A7 p0 p1 p2 p3 p4 p5 p6
inductive A8 (p0 p1 p2 p3 p4 p5 p6 p7:Prop):Prop
 | mk (h0:p0) (h1:p1) (h2:p2) (h3:p3) (h4:p4) (h5:p5) (h6:p6) (h7:p7):A8 p0 p1 p2 p3 p4 p5 p6 p7
inductive A9 (p0 p1 p2 p3 p4 p5 p6 p7 p8:Prop):Prop
 | mk (h0:p0) (h1:p1) (h2:p2) (h3:p3) (h4:p4) (h5:p5) (h6:p6) (h7:p7) (h8:p8):A9 p0 p1 p2 p3 p4 p5 p6 p7 p8
inductive A10 (p0 p1 p2 p3 p4 p5 p6 p7 p8 p9:Prop):Prop
 | mk (h0:p0) (h1:p1) (h2:p2) (h3:p3) (h4:p4) (h5:p5) (h6:p6) (h7:p7) (h8:p8) (h9:p9):A10 p0 p1 p2 p3 p4 p5 p6 p7 p8 p9
inductive D where
 | none
 | bool (b:Bool)
 | int (i:Int)
 | str (s:Str)
 | tup (l:List D)
 | lst (l:List D)
 | rng (a b c:Int)
inductive AV where
 | d (x:D)
 | loc (n:Nat)
 | k (v:Value)
 | bm (f:Addr) (self:Nat)
 | fn (ps:Arguments) (e:PySem.Expr) (sc:Scope) (caps:List (Str × AV))
inductive MO where
 | list (l:List D)
 | dictS (l:List (Str × D))
 | dictI (l:List (Int × D))
 | inst (c:Addr) (ns:Nat)
 | ns (l:List (Str × AV))
 | citer (f:AV) (stop:Str)
 | cdone
 | any
 | tab (c:Addr)
 | view (p:Nat)
 | junk
noncomputable abbrev BM:=Addr->Option Obj
noncomputable abbrev tupObj (vs:List Value) (n:Nat):Obj:={ cls:=.type "tuple",dict:=none,data:=.seq vs.toArray n,slots:=#[] }
noncomputable abbrev lstObj (vs:List Value) (n:Nat):Obj:={ cls:=.type "list",dict:=none,data:=.seq vs.toArray n,slots:=#[] }
mutual
inductive VD (B:BM):D->Value->Prop
 | none:VD B .none .none
 | bool (b:Bool):VD B (.bool b) (.bool b)
 | int (i:Int) (t:Tok):VD B (.int i) (.int i t)
 | str (s:Str) (t:Tok):VD B (.str s) (.str s t)
 | tup {a:Addr} {vs:List Value} {n:Nat} {ds:List D} (ho:B a=some (tupObj vs n)) (hv:VDs B ds vs):VD B (.tup ds) (.ref a)
 | lst {a:Addr} {vs:List Value} {n:Nat} {ds:List D} (ho:B a=some (lstObj vs n)) (hv:VDs B ds vs):VD B (.lst ds) (.ref a)
 | rng {r:Addr} {a b c:Int} {t u v:Tok} (ho:B r=some { cls:=.type "range",dict:=none,data:=.fields #[.int a t,.int b u,.int c v],slots:=#[] }):VD B (.rng a b c) (.ref r)
inductive VDs (B:BM):List D->List Value->Prop
 | nil:VDs B [] []
 | cons {x:D} {v:Value} {xs:List D} {vs:List Value} (h:VD B x v) (r:VDs B xs vs):VDs B (x :: xs) (v :: vs)
end
noncomputable def BM.le (B B':BM):Prop:=∀ a o,B a=some o->B' a=some o
theorem BM.le.refl (B:BM):B.le B:=fun _ _ e=>e
theorem BM.le.trans {B B' B'':BM} (x:B.le B') (y:B'.le B''):B.le B'':=fun a o e=>y a o (x a o e)
theorem VD.mono {B B':BM} (k:B.le B') {x:D} {v:Value} (h:VD B x v):VD B' x v:=
 VD.rec (motive_1:=fun x v _=>VD B' x v) (motive_2:=fun xs vs _=>VDs B' xs vs) .none .bool .int .str (fun ho _ ih=>.tup (k _ _ ho) ih) (fun ho _ ih=>.lst (k _ _ ho) ih) (fun ho=>.rng (k _ _ ho)) .nil (fun _ _ h r=>.cons h r) h
theorem VDs.ind {B:BM} (M:List D->List Value->Prop) (n:M [] []) (c:∀ {x v xs vs},VD B x v->VDs B xs vs->M xs vs->M (x :: xs) (v :: vs)) {xs:List D} {vs:List Value} (h:VDs B xs vs):M xs vs:=
 VDs.rec (motive_1:=fun _ _ _=>True) (motive_2:=fun xs vs _=>M xs vs) trivial (fun _=>trivial) (fun _ _=>trivial) (fun _ _=>trivial) (fun _ _ _=>trivial) (fun _ _ _=>trivial) (fun _=>trivial) n (fun h r _ ih=>c h r ih) h
theorem VDs.mono {B B':BM} (k:B.le B') {xs:List D} {vs:List Value} (h:VDs B xs vs):VDs B' xs vs:=
 VDs.ind (VDs B') .nil (fun h _ r=>.cons (h.mono k) r) h
theorem VDs.length {B:BM} {xs:List D} {vs:List Value} (h:VDs B xs vs):vs.length=xs.length:=
 VDs.ind (fun xs vs=>vs.length=xs.length) rfl (fun _ _ e=>congrArg Nat.succ e) h
theorem VDs.get {B:BM} {xs:List D} {vs:List Value} (h:VDs B xs vs):∀ {i:Nat} {x:D},xs[i]? = some x->∃ v,vs[i]? = some v /\ VD B x v:=
 VDs.ind (fun xs vs=>∀ {i:Nat} {x:D},xs[i]? = some x->∃ v,vs[i]? = some v /\ VD B x v) (fun e=>Internal.ns e) (fun {_ v _ _} h _ ih {i x}=>Nat.rec (fun e=>⟨v,rfl,Option.some.inj e ▸ h⟩) (fun _ _ e=>ih e) i) h
theorem VDs.append {B:BM} {xs ys:List D} {vs ws:List Value} (h:VDs B xs vs) (k:VDs B ys ws):VDs B (xs ++ ys) (vs ++ ws):=
 VDs.ind (fun xs vs=>VDs B (xs ++ ys) (vs ++ ws)) k (fun h _ r=>.cons h r) h
structure Wd where
 B:BM
 R:BM
 ι:Nat->Addr
class inductive VA (W:Wd) (nx:Nat):AV->Value->Prop
 | d {x:D} {v:Value} (h:VD W.B x v):VA W nx (.d x) v
 | loc {n:Nat} (h:n < nx):VA W nx (.loc n) (.ref (W.ι n))
 | k (v:Value):VA W nx (.k v) v
 | bm {f:Addr} {n:Nat} {a:Addr} (h:n < nx) (ho:W.B a=some (methodObj (.ref f) (.ref (W.ι n)))):VA W nx (.bm f n) (.ref a)
 | fn {ps:Arguments} {e:PySem.Expr} {sc:Scope} {caps:List (Str × AV)} {a:Addr} {o:Obj} {fd:FuncData} {cv:Str->Value} (ho:W.B a=some o) (hc:o.cls=.type "function") (hd:o.data=.func fd)
   (hp:fd.params=ps) (hb:fd.body=.expr e) (hs:fd.scope=sc) (h1:fd.defaults=.none) (h2:fd.kwdefaults=.none) (hg:fd.globals=mainGlobals) (hbu:fd.builtins=builtinsNs)
   (hcode:(Ex5 fun c oc vs q tq=>A4 (fd.code=.ref c) (W.B c=some oc) (oc.data=.fields vs) (vs[1]? = some (.str q tq))))
   (hcell:∀ p ∈ caps,(Ex2 fun c oc=>A3 (fd.closure.lookup p.1=some c) (W.B c=some oc) (oc.data=.cell (some (cv p.1)))))
   (hv:∀ p ∈ caps,VA W nx p.2 (cv p.1)):VA W nx (.fn ps e sc caps) (.ref a)
structure Wd.le (nx:Nat) (W W':Wd):Prop where
 B:W.B.le W'.B
 R:W'.R=W.R
 ι:∀ n,n < nx->W'.ι n=W.ι n
theorem Wd.le.refl (nx:Nat) (W:Wd):Wd.le nx W W:=⟨.refl _,rfl,fun _ _=>rfl⟩
theorem Wd.le.trans {nx nx':Nat} {W W' W'':Wd} (hn:nx<=nx') (x:Wd.le nx W W') (y:Wd.le nx' W' W''):Wd.le nx W W'':=
 ⟨x.B.trans y.B,y.R.trans x.R,fun n h=>(y.ι n (Nat.lt_of_lt_of_le h hn)).trans (x.ι n h)⟩
theorem VA.mono0 {nx nx':Nat} {W W':Wd} (hn:nx<=nx') (kB:W.B.le W'.B) (ki:∀ n,n < nx->W'.ι n=W.ι n) {a:AV} {v:Value} (h:VA W nx a v):VA W' nx' a v:=by
 induction h with
 | d h=>exact .d (h.mono kB)
 | loc h=>rw [<- ki _ h]; exact .loc (Nat.lt_of_lt_of_le h hn)
 | k v=>exact .k v
 | bm h ho=>exact .bm (Nat.lt_of_lt_of_le h hn) (by rw [ki _ h]; exact kB _ _ ho)
 | fn ho hc hd hp hb hs h1 h2 hg hbu hcode hcell hv ih=>
  obtain ⟨c,oc,vs,q,tq,e1,e2,e3,e4⟩:=hcode
  exact .fn (kB _ _ ho) hc hd hp hb hs h1 h2 hg hbu ⟨c,oc,vs,q,tq,e1,kB _ _ e2,e3,e4⟩ (fun p hp=>let ⟨c,oc,a1,a2,a3⟩:=hcell p hp; ⟨c,oc,a1,kB _ _ a2,a3⟩) ih
theorem VA.mono {nx nx':Nat} {W W':Wd} (hn:nx<=nx') (k:Wd.le nx W W') {a:AV} {v:Value} (h:VA W nx a v):VA W' nx' a v:=h.mono0 hn k.B k.ι
noncomputable def TabCode (oc:Obj) (a:Addr):Prop:=(Ex8 fun vs file tf flags tg inF text tt=>A8 (oc.cls=.type "code") (oc.data=.fields vs) (vs[11]? = some (.ref a)) (vs.getD 11 .none=.ref a) (vs.getD 18 .none=.str file tf) (vs.getD 7 .none=.int flags tg) (vs.getD 9 .none=.bool inF) (vs.getD 10 .none=.int text tt))
noncomputable def CodeVal (B:BM) (c':Value):Prop:=(Ex5 fun c oo vs q tq=>A4 (c'=.ref c) (B c=some oo) (oo.data=.fields vs) (vs[1]? = some (.str q tq)))
theorem CodeVal.mono {B B':BM} (k:B.le B') {c':Value} (h:CodeVal B c'):CodeVal B' c':=let ⟨c,oo,vs,q,tq,a,b,r1,r2⟩:=h; ⟨c,oo,vs,q,tq,a,k _ _ b,r1,r2⟩
section
variable (prog:Program) (w:World)
noncomputable def MOat (W:Wd) (nx:Nat):MO->Addr->Heap->Prop
 | .list l,a,h=>(Ex2 fun (vs:List Value) (n:Nat)=>h.get? a=some (lstObj vs n) /\ VDs W.B l vs)
 | .dictS l,a,h=>(∃ (kvs:List (Str × Value)),A4 (h.DictOf (PySem.strKind prog w) a kvs) (kvs.map (·.1)=l.map (·.1)) (VDs W.B (l.map (·.2)) (kvs.map (·.2))) ((a == sysModules)=false))
 | .dictI l,a,h=>(∃ (kvs:List (Int × Value)),A4 (h.DictOf (PySem.intKind prog w) a kvs) (kvs.map (·.1)=l.map (·.1)) (VDs W.B (l.map (·.2)) (kvs.map (·.2))) ((a == sysModules)=false))
 | .inst c n,a,h=>h.get? a=some (instObj c (W.ι n)) /\ n < nx
 | .ns l,a,h=>(∃ (m:Str->Option Value),A3 (((Ex3 fun o es ep=>A5 (h.get? a=some o) (o.data=.dict es ep) (StrKeys es) ((∀ name,nsFind es name=m name)) (es.size<=l.length)))) ((∀ x,l.lookup x=none->m x=none)) (∀ x av,l.lookup x=some av->∃ v,m x=some v /\ VA W nx av v))
 | .citer f stop,a,h=>(Ex3 fun o vf t=>A4 (h.get? a=some o) (o.cls=.type "callable_iterator") (o.data=.fields #[vf,.str stop t,.bool false]) (VA W nx f vf))
 | .cdone,a,h=>(∃ o,A3 (h.get? a=some o) (o.cls=.type "callable_iterator") (o.data=.fields #[.none,.none,.bool true]))
 | .any,a,h=>∃ o,h.get? a=some o
 | .tab c,a,h=>(Ex2 fun ps oc=>A6 (W.B c=some oc) (TabCode oc a) (c ≠ a) (h.get? a=some { cls:=.none,data:=.fields ps }) (TriplesOk ps.toList) (∀ pos c',codeAmong pos ps.toList=some c'->CodeVal W.B c'))
 | .view p,a,h=>h.get? a=some { cls:=.type "dict_items",data:=.fields #[.ref (W.ι p)] } /\ p < nx
 | .junk,_,_=>True
end
end
noncomputable def BMain (h:Heap):Prop:=(Ex3 fun mg bm ob=>A7 (h.Ns mainGlobals mg) (mg "__builtins__" = some (.ref bm)) (bm ≠ builtinsNs) (h.get? bm=some ob) (ob.cls=.type "module") (ob.dict=some builtinsNs) (ob.data=.plain))
structure Sta (K:Frag) (btab:List (Str × Value)) (B:BM):Prop where
 all:∀ h:Heap,(∀ a o,B a=some o->h.get? a=some o)->K.In h /\ h.NoLimit /\ (∃ mb,h.Ns builtinsNs mb /\ ∀ p ∈ btab,mb p.1=some p.2) /\ BMain h
theorem Sta.mono {K:Frag} {btab:List (Str × Value)} {B B':BM} (x:Sta K btab B) (k:B.le B'):Sta K btab B':=⟨fun h e=>x.all h fun a o q=>e a o (k a o q)⟩
inductive Fl where
 | next | cont | brk
 | ret (a:AV)
structure St where
 vars:List (Str × AV)
 fz:List Str
 m:Nat->MO
 nx:Nat
structure Fm where
 sc:Scope
 caps:List (Str × AV)
 code:Option Addr:=none
 qual:Str:=Str.empty
section
variable (prog:Program) (w:World) (K:Frag) (btab:List (Str × Value))
structure SInv (W:Wd) (m:Nat->MO) (nx:Nat) (h:Heap):Prop where
 base:∀ a o,W.B a=some o->h.get? a=some o
 rest:∀ a o,W.R a=some o->h.get? a=some o
 apart:∀ a o,W.R a=some o->W.B a=none
 obj:∀ n,n < nx->MOat prog w W nx (m n) (W.ι n) h
 nb:∀ n,n < nx->m n ≠ .junk->W.B (W.ι n)=none
 nr:∀ n,n < nx->m n ≠ .junk->W.R (W.ι n)=none
 inj:∀ n n',n < nx->n' < nx->m n ≠ .junk->m n' ≠ .junk->W.ι n=W.ι n'->n=n'
 sta:Sta K btab W.B
structure OwnAt (W:Wd) (m:Nat->MO) (nx:Nat) (a:Addr):Prop where
 b:W.B a=none
 r:W.R a=none
 i:∀ n,n < nx->m n ≠ .junk->W.ι n ≠ a
structure CellA (W:Wd) (φ:Fm) (st:St) (x:Str) (c:Addr):Prop where
 fz:x ∈ st.fz
 v:∀ av,st.vars.lookup x=some av->(Ex2 fun o v=>A3 ((W.B c=some o \/ (φ.code=none /\ W.R c=some o))) (o.data=.cell (some v)) (VA W st.nx av v))
structure CellB (W:Wd) (φ:Fm) (env:Env) (st:St) (h:Heap) (x:Str) (c:Addr):Prop where
 nf:x ∉ st.fz
 own:OwnAt W st.m st.nx c
 ne:c ≠ env.locals
 ap:∀ y c',y ≠ x->φ.sc.names.lookup y=some .cell->env.cells.lookup y=some c'->c' ≠ c
 cv:∃ ov,h.IsCell c ov /\ ∀ av,st.vars.lookup x=some av->∃ v,ov=some v /\ VA W st.nx av v
structure FInv (W:Wd) (φ:Fm) (env:Env) (st:St) (h:Heap):Prop where
 scope:env.scope=φ.sc
 kind:φ.sc.kind=.function
 globals:env.globals=mainGlobals
 builtins:env.builtins=builtinsNs
 frame:env.frame.isSome=true
 code:∀ c,φ.code=some c->env.code=.ref c
 own:OwnAt W st.m st.nx env.locals
 locs:∃ m,h.Ns env.locals m /\ ∀ x av,φ.sc.names.lookup x=some .local->st.vars.lookup x=some av->∃ v,m x=some v /\ VA W st.nx av v
 cells:∀ x,φ.sc.names.lookup x=some .cell->∃ c,env.cells.lookup x=some c /\ (CellA W φ st x c \/ CellB W φ env st h x c)
 free:∀ x av,φ.sc.names.lookup x=some .free->φ.caps.lookup x=some av->(Ex3 fun c o v=>A4 (env.cells.lookup x=some c) ((W.B c=some o \/ W.R c=some o)) (o.data=.cell (some v)) (VA W st.nx av v))
structure AOK (k:Nat) (A:Around):Prop where
 depth:A.depth+10 * k+20 < recursionLimit
 units:A.units+60 * k+400 < cLine
 handled:A.handled=none
noncomputable def Tri {β:Type} (k:Nat) (φ:Fm) (C:Wd->Nat->Prop) (t:Env->Sem β) (st st':St) (P:Wd->β->Prop):Prop:=
 ∀ (W:Wd) (A:Around) (env:Env) (s:Shared) (Q:β->Shared->Prop) (E:Value->Shared->Prop),
  AOK k A->SInv prog w K btab W st.m st.nx s.heap->FInv W φ env st s.heap->C W st.nx ->
  (∀ W' h' tk' b,st.nx<=st'.nx->Wd.le st.nx W W'->SInv prog w K btab W' st'.m st'.nx h'->FInv W' φ env st' h'->P W' b->Q b { s with heap:=h',toks:=tk' }) ->
  wpAny (model prog w) A (t env) Q E s
inductive Ev where
 | br (b:Bool)
 | val (a:AV) (m:Nat->MO) (nx:Nat)
 | mo (x:MO)
 | fl (f:Fl) (st:St)
noncomputable def G (α:Type):=St->List Ev->Option (α × St × List Ev × List Prop)
noncomputable def G.ret {α:Type} (a:α):G α:=fun st sc=>some (a,st,sc,[])
noncomputable def G.fail {α:Type}:G α:=fun _ _=>none
noncomputable def G.bind {α β:Type} (m:G α) (f:α->G β):G β:=fun st sc=>match m st sc with
 | none=>none
 | some (a,st1,sc1,ob1)=>match f a st1 sc1 with
  | none=>none
  | some (b,st2,sc2,ob2)=>some (b,st2,sc2,ob1 ++ ob2)
noncomputable instance:Monad G where
 pure:=G.ret
 bind:=G.bind
noncomputable def Mono (C:Wd->Nat->Prop):Prop:=∀ W W' nx nx',nx<=nx'->Wd.le nx W W'->C W nx->C W' nx'
theorem Mono.and {C C':Wd->Nat->Prop} (x:Mono C) (y:Mono C'):Mono fun W nx=>C W nx /\ C' W nx:=fun W W' nx nx' a b c=>⟨x W W' nx nx' a b c.1,y W W' nx nx' a b c.2⟩
theorem Mono.va (a:AV) (v:Value):Mono fun W nx=>VA W nx a v:=fun _ _ _ _ hn hl h=>h.mono hn hl
noncomputable def Snd {α β:Type} (k:Nat) (φ:Fm) (C:Wd->Nat->Prop) (g:G α) (t:Env->Sem β) (R:α->β->Wd->Nat->Prop):Prop:=
 ∀ st sc a st' sc' ob,g st sc=some (a,st',sc',ob)->(∀ p ∈ ob,p)->Tri prog w K btab k φ C t st st' (fun W' b=>R a b W' st'.nx)
end
section
variable {prog:Program} {w:World} {K:Frag} {btab:List (Str × Value)} {k:Nat} {φ:Fm}
set_option tactic.hygienic true in
theorem Snd.bind {α α' β β':Type} {C:Wd->Nat->Prop} {g:G α} {f:α->G α'} {t:Env->Sem β} {t2:β->Env->Sem β'} {R:α->β->Wd->Nat->Prop} {R':α'->β'->Wd->Nat->Prop} (hC:Mono C)
  (h1:Snd prog w K btab k φ C g t R) (h2:∀ a b,Snd prog w K btab k φ (fun W nx=>C W nx /\ R a b W nx) (f a) (t2 b) R') :
  Snd prog w K btab k φ C (g >>= f) (fun env=>t env >>= fun b=>t2 b env) R':=by
 intro st sc a' st' sc' ob e hob
 change G.bind g f st sc=_ at e
 unfold G.bind at e
 split at e
 ·cases e
 ·rename_i a st1 sc1 ob1 e1
  split at e
  ·cases e
  ·rename_i b st2 sc2 ob2 e2
   cases e
   have T1:=h1 _ _ _ _ _ _ e1 fun p hp=>hob p (List.mem_append.mpr (.inl hp))
   have T2:=fun b=>h2 a b _ _ _ _ _ _ e2 fun p hp=>hob p (List.mem_append.mpr (.inr hp))
   intro W A env s Q E hA hS hF hc hq
   refine wpAny_bind (T1 W A env s _ E hA hS hF hc fun W1 hp1 tk1 b n1 l1 S1 F1 R1=>?_)
   refine T2 b W1 A env _ Q E hA S1 F1 ⟨hC _ _ _ _ n1 l1 hc,R1⟩ fun W2 hp2 tk2 c n2 l2 S2 F2 R2=>?_
   exact hq W2 hp2 tk2 c (Nat.le_trans n1 n2) (l1.trans n1 l2) S2 F2 R2
theorem Snd.ret {α β:Type} {C:Wd->Nat->Prop} {a:α} {b:β} {R:α->β->Wd->Nat->Prop} (h:∀ W nx,C W nx->R a b W nx):Snd prog w K btab k φ C (G.ret a) (fun _=>pure b) R:=by
 intro st sc a' st' sc' ob e hob
 cases e
 intro W A env s Q E hA hS hF hc hq
 exact wpAny_pure (hq W s.heap s.toks b (Nat.le_refl _) (.refl _ _) hS hF (h _ _ hc))
theorem Snd.fail {α β:Type} {C:Wd->Nat->Prop} {t:Env->Sem β} {R:α->β->Wd->Nat->Prop}:Snd prog w K btab k φ C (G.fail:G α) t R:=by
 intro st sc a' st' sc' ob e
 cases e
end
noncomputable def Keeps (h h':Heap):Prop:=∀ b o,h.get? b=some o->h'.get? b=some o
theorem Keeps.refl (h:Heap):Keeps h h:=fun _ _ e=>e
theorem Keeps.trans {h h' h'':Heap} (x:Keeps h h') (y:Keeps h' h''):Keeps h h'':=fun b o e=>y b o (x b o e)
theorem Keeps.push (h:Heap) (o:Obj):Keeps h (h.push o):=fun _ _ e=>Heap.get?_push_of_some o e
theorem get?_size (h:Heap):h.get? h.objs.size=none:=by
 cases q:h.get? h.objs.size with
 | none=>rfl
 | some o=>exact absurd (Heap.lt_size q) (Nat.lt_irrefl _)
section
variable {prog:Program} {w:World} {K:Frag} {btab:List (Str × Value)}
theorem MOat.ext {W:Wd} {nx:Nat} {mo:MO} {a:Addr} {h h':Heap} (x:MOat prog w W nx mo a h) (k:∀ o,h.get? a=some o->h'.get? a=some o):MOat prog w W nx mo a h':=by
 cases mo with
 | list l=>obtain ⟨vs,n,ho,v⟩:=x; exact ⟨vs,n,k _ ho,v⟩
 | dictS l=>obtain ⟨kvs,⟨o,es,ep,ho,r⟩,v1,v2,v3⟩:=x; exact ⟨kvs,⟨o,es,ep,k _ ho,r⟩,v1,v2,v3⟩
 | dictI l=>obtain ⟨kvs,⟨o,es,ep,ho,r⟩,v1,v2,v3⟩:=x; exact ⟨kvs,⟨o,es,ep,k _ ho,r⟩,v1,v2,v3⟩
 | inst c n=>exact ⟨k _ x.1,x.2⟩
 | ns l=>obtain ⟨m,⟨o,es,ep,ho,r1,r2,r3,r4⟩,n,v⟩:=x; exact ⟨m,⟨o,es,ep,k _ ho,r1,r2,r3,r4⟩,n,v⟩
 | citer f stop=>obtain ⟨o,vf,t,ho,r1,r2,r3⟩:=x; exact ⟨o,vf,t,k _ ho,r1,r2,r3⟩
 | cdone=>obtain ⟨o,ho,r1,r2⟩:=x; exact ⟨o,k _ ho,r1,r2⟩
 | any=>obtain ⟨o,ho⟩:=x; exact ⟨o,k _ ho⟩
 | tab c=>obtain ⟨ps,oc,a1,a2,a3,a4,a5,a6⟩:=x; exact ⟨ps,oc,a1,a2,a3,k _ a4,a5,a6⟩
 | view p=>exact ⟨k _ x.1,x.2⟩
 | junk=>trivial
theorem MOat.wd0 {W W':Wd} {nx nx':Nat} {mo:MO} {a:Addr} {h:Heap} (x:MOat prog w W nx mo a h) (hn:nx<=nx') (kB:W.B.le W'.B) (ki:∀ n,n < nx->W'.ι n=W.ι n):MOat prog w W' nx' mo a h:=by
 cases mo with
 | list ds=>obtain ⟨vs,n,r,v⟩:=x; exact ⟨vs,n,r,v.mono kB⟩
 | dictS ds=>obtain ⟨kvs,r,e,v,ne⟩:=x; exact ⟨kvs,r,e,v.mono kB,ne⟩
 | dictI ds=>obtain ⟨kvs,r,e,v,ne⟩:=x; exact ⟨kvs,r,e,v.mono kB,ne⟩
 | inst c n=>exact ⟨by rw [ki n x.2]; exact x.1,Nat.lt_of_lt_of_le x.2 hn⟩
 | ns ds=>obtain ⟨m,ho,n,v⟩:=x; exact ⟨m,ho,n,fun y av e=>let ⟨u,e1,e2⟩:=v y av e; ⟨u,e1,e2.mono0 hn kB ki⟩⟩
 | citer f stop=>obtain ⟨o,vf,t,ho,r,e,v⟩:=x; exact ⟨o,vf,t,ho,r,e,v.mono0 hn kB ki⟩
 | cdone=>exact x
 | any=>exact x
 | tab c=>obtain ⟨ps,oc,a1,a2,a3,a4,a5,a6⟩:=x; exact ⟨ps,oc,kB _ _ a1,a2,a3,a4,a5,fun p c e=>(a6 p c e).mono kB⟩
 | view p=>exact ⟨by rw [ki p x.2]; exact x.1,Nat.lt_of_lt_of_le x.2 hn⟩
 | junk=>exact x
theorem MOat.wd {W W':Wd} {nx nx':Nat} {mo:MO} {a:Addr} {h:Heap} (x:MOat prog w W nx mo a h) (hn:nx<=nx') (l:Wd.le nx W W'):MOat prog w W' nx' mo a h:=x.wd0 hn l.B l.ι
theorem MOat.there {W:Wd} {nx:Nat} {mo:MO} {a:Addr} {h:Heap} (x:MOat prog w W nx mo a h) (hj:mo ≠ .junk):∃ o,h.get? a=some o:=by
 cases mo with
 | list l=>obtain ⟨vs,n,ho,v⟩:=x; exact ⟨_,ho⟩
 | dictS l=>obtain ⟨kvs,⟨o,es,ep,ho,r⟩,v⟩:=x; exact ⟨o,ho⟩
 | dictI l=>obtain ⟨kvs,⟨o,es,ep,ho,r⟩,v⟩:=x; exact ⟨o,ho⟩
 | inst c n=>exact ⟨_,x.1⟩
 | ns l=>obtain ⟨m,⟨o,es,ep,ho,r⟩,n,v⟩:=x; exact ⟨o,ho⟩
 | citer f stop=>obtain ⟨o,vf,t,ho,r⟩:=x; exact ⟨o,ho⟩
 | cdone=>obtain ⟨o,ho,r⟩:=x; exact ⟨o,ho⟩
 | any=>exact x
 | tab c=>obtain ⟨ps,oc,a1,a2,a3,a4,a5⟩:=x; exact ⟨_,a4⟩
 | view p=>exact ⟨_,x.1⟩
 | junk=>exact absurd rfl hj
noncomputable def Carry (W:Wd) (m:Nat->MO) (nx:Nat) (h:Heap) (W':Wd) (m':Nat->MO) (nx':Nat) (h':Heap):Prop:=∀ a o,OwnAt W m nx a->h.get? a=some o->OwnAt W' m' nx' a /\ h'.get? a=some o
theorem Carry.refl (W:Wd) (m:Nat->MO) (nx:Nat) (h:Heap):Carry W m nx h W m nx h:=fun _ _ a b=>⟨a,b⟩
theorem FInv.carry {W W':Wd} {φ:Fm} {env:Env} {st:St} {h h':Heap} {m':Nat->MO} {nx':Nat} (F:FInv W φ env st h) (hn:st.nx<=nx') (l:Wd.le st.nx W W') (c:Carry W st.m st.nx h W' m' nx' h') :
  FInv W' φ env ⟨st.vars,st.fz,m',nx'⟩ h':=by
 obtain ⟨m,⟨o,es,ep,ho,hns⟩,hm⟩:=F.locs
 refine ⟨F.scope,F.kind,F.globals,F.builtins,F.frame,F.code,(c _ _ F.own ho).1,⟨m,⟨o,es,ep,(c _ _ F.own ho).2,hns⟩,fun x av e1 e2=>let ⟨v,e3,e4⟩:=hm x av e1 e2; ⟨v,e3,e4.mono hn l⟩⟩,?_,?_⟩
 ·intro x hx
  obtain ⟨cc,e,q⟩:=F.cells x hx
  refine ⟨cc,e,?_⟩
  rcases q with ⟨q1,q2⟩ | ⟨q1,q2,q3,q4,ov,⟨oc,hoc,hdc⟩,q6⟩
  ·exact .inl ⟨q1,fun av e=>let ⟨o,v,a1,a2,a3⟩:=q2 av e; ⟨o,v,a1.imp (l.B _ _) (fun z=>⟨z.1,by rw [l.R]; exact z.2⟩),a2,a3.mono hn l⟩⟩
  ·exact .inr ⟨q1,(c _ _ q2 hoc).1,q3,q4,ov,⟨oc,(c _ _ q2 hoc).2,hdc⟩,fun av e=>let ⟨v,a1,a2⟩:=q6 av e; ⟨v,a1,a2.mono hn l⟩⟩
 ·intro x av e1 e2
  obtain ⟨cc,o,v,a1,a2,a3,a4⟩:=F.free x av e1 e2
  exact ⟨cc,o,v,a1,a2.imp (l.B _ _) (fun z=>by rw [l.R]; exact z),a3,a4.mono hn l⟩
theorem SInv.keeps {W:Wd} {m:Nat->MO} {nx:Nat} {h h':Heap} (S:SInv prog w K btab W m nx h) (k:Keeps h h'):SInv prog w K btab W m nx h':=
 ⟨fun a o e=>k _ _ (S.base a o e),fun a o e=>k _ _ (S.rest a o e),S.apart,fun n hn=>(S.obj n hn).ext fun o e=>k _ _ e,S.nb,S.nr,S.inj,S.sta⟩
theorem Carry.keeps {W:Wd} {m:Nat->MO} {nx:Nat} {h h':Heap} (k:Keeps h h'):Carry W m nx h W m nx h':=fun _ _ a b=>⟨a,k _ _ b⟩
noncomputable def Wd.freeze (W:Wd) (a:Addr) (o:Obj):Wd:={ W with B:=fun b=>if b=a then some o else W.B b }
theorem freeze_le {W:Wd} {nx:Nat} {a:Addr} {o:Obj} (ha:W.B a=none):Wd.le nx W (W.freeze a o):=
 ⟨fun b ob e=>by
  show (if b=a then some o else W.B b)=some ob
  rw [if_neg (fun z=>by rw [z,ha] at e; cases e)]; exact e,rfl,fun _ _=>rfl⟩
theorem freeze_at (W:Wd) (a:Addr) (o:Obj):(W.freeze a o).B a=some o:=by show (if a=a then some o else W.B a)=_; rw [if_pos rfl]
theorem SInv.fresh {W:Wd} {m:Nat->MO} {nx:Nat} {h:Heap} (S:SInv prog w K btab W m nx h) {a:Addr} (ha:h.get? a=none):OwnAt W m nx a:=by
 refine ⟨?_,?_,?_⟩
 ·cases q:W.B a with
  | none=>rfl
  | some o=>rw [S.base a o q] at ha; cases ha
 ·cases q:W.R a with
  | none=>rfl
  | some o=>rw [S.rest a o q] at ha; cases ha
 ·intro n hn hj e
  obtain ⟨o,ho⟩:=(S.obj n hn).there hj
  rw [e,ha] at ho; cases ho
set_option tactic.hygienic true in
theorem SInv.freeze {W:Wd} {m:Nat->MO} {nx:Nat} {h:Heap} (S:SInv prog w K btab W m nx h) {a:Addr} {o:Obj} (ha:OwnAt W m nx a) (ho:h.get? a=some o):SInv prog w K btab (W.freeze a o) m nx h:=by
 have l:Wd.le nx W (W.freeze a o):=freeze_le ha.b
 refine ⟨fun b ob e=>?_,fun b ob e=>S.rest b ob e,fun b ob e=>?_,fun n hn=>?_,fun n hn hj=>?_,fun n hn=>S.nr n hn,S.inj,S.sta.mono l.B⟩
 ·have e':(if b=a then some o else W.B b)=some ob:=e
  split at e'
  ·rename_i z; cases e'; rw [z]; exact ho
  ·exact S.base b ob e'
 ·show (if b=a then some o else W.B b)=none
  rw [if_neg (fun z=>by have e':W.R b=some ob:=e; rw [z,ha.r] at e'; cases e')]; exact S.apart b ob e
 ·exact (S.obj n hn).wd (Nat.le_refl _) l
 ·show (if W.ι n=a then some o else W.B (W.ι n))=none
  rw [if_neg (ha.i n hn hj)]; exact S.nb n hn hj
theorem Carry.freeze {W:Wd} {m:Nat->MO} {nx:Nat} {h:Heap} {a:Addr} {ob:Obj}:∀ b o,b ≠ a->OwnAt W m nx b->h.get? b=some o->OwnAt (W.freeze a ob) m nx b /\ h.get? b=some o:=by
 intro b o ne p q
 refine ⟨⟨?_,p.r,p.i⟩,q⟩
 show (if b=a then some ob else W.B b)=none
 rw [if_neg ne]; exact p.b
theorem SInv.alloc {W:Wd} {m:Nat->MO} {nx:Nat} {h:Heap} (S:SInv prog w K btab W m nx h) {o:Obj} (hf:o.isFreed=false) :
  SInv prog w K btab (W.freeze h.objs.size o) m nx (h.push o) /\ Wd.le nx W (W.freeze h.objs.size o) /\ Carry W m nx h (W.freeze h.objs.size o) m nx (h.push o):=by
 have fr:=S.fresh (get?_size h)
 refine ⟨(S.keeps (Keeps.push h o)).freeze fr (Heap.get?_push_size _ hf),freeze_le fr.b,fun b ob p q=>?_⟩
 exact Carry.freeze b ob (fun z=>by rw [z,get?_size] at q; cases q) p (Keeps.push h o _ _ q)
noncomputable def upd {α:Type} (m:Nat->α) (n:Nat) (x:α):Nat->α:=fun i=>if i=n then x else m i
theorem upd_at {α:Type} (m:Nat->α) (n:Nat) (x:α):upd m n x n=x:=if_pos rfl
theorem upd_ne {α:Type} (m:Nat->α) (n:Nat) (x:α) {i:Nat} (h:i ≠ n):upd m n x i=m i:=if_neg h
noncomputable def Wd.lay (W:Wd) (nx:Nat) (a:Addr):Wd:={ W with ι:=upd W.ι nx a }
theorem lay_le {W:Wd} {nx:Nat} {a:Addr}:Wd.le nx W (W.lay nx a):=⟨.refl _,rfl,fun n hn=>upd_ne _ _ _ (Nat.ne_of_lt hn)⟩
theorem SInv.lay {W:Wd} {m:Nat->MO} {nx:Nat} {h:Heap} (S:SInv prog w K btab W m nx h) {a:Addr} {mo:MO} (ha:OwnAt W m nx a) (ho:MOat prog w (W.lay nx a) (nx+1) mo a h) :
  SInv prog w K btab (W.lay nx a) (upd m nx mo) (nx+1) h:=by
 have l:Wd.le nx W (W.lay nx a):=lay_le
 have ii:(W.lay nx a).ι nx=a:=upd_at _ _ _
 have jj:∀ n,n ≠ nx->upd m nx mo n ≠ .junk->m n ≠ .junk:=fun n z q=>by rw [upd_ne _ _ _ z] at q; exact q
 refine ⟨S.base,S.rest,S.apart,fun n hn=>?_,fun n hn hj=>?_,fun n hn hj=>?_,fun n n' hn hn' hj hj' e=>?_,S.sta⟩
 ·by_cases z:n=nx
  ·subst z; rw [ii,upd_at]; exact ho
  ·have hl:n < nx:=by omega
   rw [l.ι n hl,upd_ne _ _ _ z]
   exact (S.obj n hl).wd (Nat.le_succ _) l
 ·by_cases z:n=nx
  ·subst z; rw [ii]; exact ha.b
  ·have hl:n < nx:=by omega
   rw [l.ι n hl]; exact S.nb n hl (jj n z hj)
 ·by_cases z:n=nx
  ·subst z; rw [ii]; exact ha.r
  ·have hl:n < nx:=by omega
   rw [l.ι n hl]; exact S.nr n hl (jj n z hj)
 ·by_cases z:n=nx
  ·by_cases z':n'=nx
   ·rw [z,z']
   ·have hl:n' < nx:=by omega
    rw [z,ii,l.ι n' hl] at e
    exact absurd e.symm (ha.i n' hl (jj n' z' hj'))
  ·have hl:n < nx:=by omega
   by_cases z':n'=nx
   ·rw [z',ii,l.ι n hl] at e
    exact absurd e (ha.i n hl (jj n z hj))
   ·have hl':n' < nx:=by omega
    rw [l.ι n hl,l.ι n' hl'] at e
    exact S.inj n n' hl hl' (jj n z hj) (jj n' z' hj') e
theorem Carry.lay {W:Wd} {m:Nat->MO} {nx:Nat} {mo:MO} {h:Heap} {a:Addr}:∀ b o,b ≠ a->OwnAt W m nx b->h.get? b=some o->OwnAt (W.lay nx a) (upd m nx mo) (nx+1) b /\ h.get? b=some o:=by
 intro b o ne p q
 refine ⟨⟨p.b,p.r,fun n hn hj=>?_⟩,q⟩
 by_cases z:n=nx
 ·subst z; show upd W.ι n a n ≠ b; rw [upd_at]; exact Ne.symm ne
 ·have hl:n < nx:=by omega
  rw [upd_ne _ _ _ z] at hj
  show upd W.ι nx a n ≠ b
  rw [upd_ne _ _ _ z]; exact p.i n hl hj
theorem SInv.new {W:Wd} {m:Nat->MO} {nx:Nat} {h:Heap} (S:SInv prog w K btab W m nx h) {o:Obj} {mo:MO} (ho:MOat prog w (W.lay nx h.objs.size) (nx+1) mo h.objs.size (h.push o)) :
  SInv prog w K btab (W.lay nx h.objs.size) (upd m nx mo) (nx+1) (h.push o) /\ Wd.le nx W (W.lay nx h.objs.size) /\ Carry W m nx h (W.lay nx h.objs.size) (upd m nx mo) (nx+1) (h.push o):=by
 have fr:=S.fresh (get?_size h)
 refine ⟨(S.keeps (Keeps.push h o)).lay fr ho,lay_le,fun b ob p q=>?_⟩
 exact Carry.lay b ob (fun z=>by rw [z,get?_size] at q; cases q) p (Keeps.push h o _ _ q)
theorem SInv.put {W:Wd} {m:Nat->MO} {nx:Nat} {h h':Heap} (S:SInv prog w K btab W m nx h) {n:Nat} {mo:MO} (hn:n < nx) (hj:m n ≠ .junk) (hs:Heap.ExtBut (W.ι n) h h') (ho:MOat prog w W nx mo (W.ι n) h') :
  SInv prog w K btab W (upd m n mo) nx h':=by
 have jj:∀ i,upd m n mo i ≠ .junk->m i ≠ .junk:=fun i q=>by
  by_cases z:i=n
  ·rw [z]; exact hj
  ·rw [upd_ne _ _ _ z] at q; exact q
 refine ⟨fun a o e=>hs _ _ (fun z=>?_) (S.base a o e),fun a o e=>hs _ _ (fun z=>?_) (S.rest a o e),S.apart,fun i hi=>?_,fun i hi q=>S.nb i hi (jj i q),fun i hi q=>S.nr i hi (jj i q),fun i i' hi hi' q q'=>S.inj i i' hi hi' (jj i q) (jj i' q'),S.sta⟩
 ·rw [z,S.nb n hn hj] at e; cases e
 ·rw [z,S.nr n hn hj] at e; cases e
 ·by_cases z:i=n
  ·subst z; rw [upd_at]; exact ho
  ·rw [upd_ne _ _ _ z]
   by_cases q:m i=.junk
   ·rw [q]; trivial
   ·exact (S.obj i hi).ext fun o e=>hs _ _ (fun y=>z (S.inj _ _ hi hn q hj y)) e
theorem Carry.put {W:Wd} {m:Nat->MO} {nx:Nat} {h h':Heap} {n:Nat} {mo:MO} (hn:n < nx) (hj:m n ≠ .junk) (hs:Heap.ExtBut (W.ι n) h h'):Carry W m nx h W (upd m n mo) nx h':=fun a _ p q=>
 ⟨⟨p.b,p.r,fun i hi y=>p.i i hi (by
  by_cases z:i=n
  ·rw [z]; exact hj
  ·rw [upd_ne _ _ _ z] at y; exact y)⟩,hs _ _ (Ne.symm (p.i n hn hj)) q⟩
theorem SInv.still {W:Wd} {m:Nat->MO} {nx:Nat} {h:Heap} (S:SInv prog w K btab W m nx h) {n:Nat} {o:Obj} (hn:n < nx) (hj:m n ≠ .junk) (ho:h.get? (W.ι n)=some o) :
  SInv prog w K btab (W.freeze (W.ι n) o) (upd m n .junk) nx h /\ Wd.le nx W (W.freeze (W.ι n) o) /\ Carry W m nx h (W.freeze (W.ι n) o) (upd m n .junk) nx h:=by
 have jj:∀ i,upd m n .junk i ≠ .junk->i ≠ n /\ m i ≠ .junk:=fun i q=>by
  by_cases z:i=n
  ·rw [z,upd_at] at q; exact absurd rfl q
  ·rw [upd_ne _ _ _ z] at q; exact ⟨z,q⟩
 have S1:SInv prog w K btab W (upd m n .junk) nx h:=by
  refine ⟨S.base,S.rest,S.apart,fun i hi=>?_,fun i hi q=>S.nb i hi (jj i q).2,fun i hi q=>S.nr i hi (jj i q).2,fun i i' hi hi' q q'=>S.inj i i' hi hi' (jj i q).2 (jj i' q').2,S.sta⟩
  by_cases z:i=n
  ·subst z; rw [upd_at]; trivial
  ·rw [upd_ne _ _ _ z]; exact S.obj i hi
 have ow:OwnAt W (upd m n .junk) nx (W.ι n):=⟨S.nb n hn hj,S.nr n hn hj,fun i hi q e=>(jj i q).1 (S.inj i n hi hn (jj i q).2 hj e)⟩
 refine ⟨S1.freeze ow ho,freeze_le ow.b,fun b ob p q=>?_⟩
 have p':OwnAt W (upd m n .junk) nx b:=⟨p.b,p.r,fun i hi y=>p.i i hi (jj i y).2⟩
 exact Carry.freeze b ob (fun z=>p.i n hn hj z.symm) p' q
theorem SInv.own {W:Wd} {m:Nat->MO} {nx:Nat} {h h':Heap} (S:SInv prog w K btab W m nx h) {a:Addr} (ha:OwnAt W m nx a) (hs:Heap.ExtBut a h h'):SInv prog w K btab W m nx h':=by
 refine ⟨fun b o e=>hs _ _ (fun z=>?_) (S.base b o e),fun b o e=>hs _ _ (fun z=>?_) (S.rest b o e),S.apart,fun i hi=>?_,S.nb,S.nr,S.inj,S.sta⟩
 ·rw [z,ha.b] at e; cases e
 ·rw [z,ha.r] at e; cases e
 ·by_cases q:m i=.junk
  ·rw [q]; trivial
  ·exact (S.obj i hi).ext fun o e=>hs _ _ (ha.i i hi q) e
open Classical in
noncomputable def shutR (W:Wd) (m:Nat->MO) (nx:Nat) (h:Heap):BM:=fun a=>if OwnAt W m nx a then h.get? a else W.R a
noncomputable def Wd.shut (W:Wd) (m:Nat->MO) (nx:Nat) (h:Heap):Wd:={ W with R:=shutR W m nx h }
theorem shutR_own {W:Wd} {m:Nat->MO} {nx:Nat} {h:Heap} {a:Addr} (x:OwnAt W m nx a):shutR W m nx h a=h.get? a:=if_pos x
theorem shutR_not {W:Wd} {m:Nat->MO} {nx:Nat} {h:Heap} {a:Addr} (x:¬ OwnAt W m nx a):shutR W m nx h a=W.R a:=if_neg x
theorem shutR_of {W:Wd} {m:Nat->MO} {nx:Nat} {h:Heap} {a:Addr} {o:Obj} (e:W.R a=some o):shutR W m nx h a=some o:=(shutR_not fun z=>by rw [z.r] at e; cases e).trans e
theorem SInv.shut {W:Wd} {m:Nat->MO} {nx:Nat} {h:Heap} (S:SInv prog w K btab W m nx h):SInv prog w K btab (W.shut m nx h) m nx h:=by
 refine ⟨S.base,fun a o e=>?_,fun a o e=>?_,fun n hn=>(S.obj n hn).wd0 (Nat.le_refl _) (.refl _) fun _ _=>rfl,S.nb,fun n hn hj=>?_,S.inj,S.sta⟩
 ·by_cases z:OwnAt W m nx a
  ·exact (shutR_own z).symm.trans e
  ·exact S.rest a o ((shutR_not z).symm.trans e)
 ·by_cases z:OwnAt W m nx a
  ·exact z.b
  ·exact S.apart a o ((shutR_not z).symm.trans e)
 ·exact (shutR_not (fun z=>z.i n hn hj rfl)).trans (S.nr n hn hj)
theorem SInv.unshut {W W':Wd} {m m':Nat->MO} {nx nx':Nat} {h h':Heap} (l:Wd.le nx (W.shut m nx h) W') (S':SInv prog w K btab W' m' nx' h') :
  SInv prog w K btab { W' with R:=W.R } m' nx' h' /\ Wd.le nx W { W' with R:=W.R } /\ Carry W m nx h { W' with R:=W.R } m' nx' h':=by
 have eR:W'.R=shutR W m nx h:=l.R
 refine ⟨⟨S'.base,fun a o e=>S'.rest a o (by rw [eR]; exact shutR_of e),fun a o e=>S'.apart a o (by rw [eR]; exact shutR_of e),fun n hn=>(S'.obj n hn).wd0 (Nat.le_refl _) (.refl _) fun _ _=>rfl,S'.nb,fun n hn hj=>?_,S'.inj,S'.sta⟩,
  ⟨l.B,rfl,l.ι⟩,fun a o p q=>?_⟩
 ·have z:=S'.nr n hn hj
  rw [eR] at z
  by_cases y:OwnAt W m nx (W'.ι n)
  ·exact y.r
  ·exact (shutR_not y).symm.trans z
 ·have z:W'.R a=some o:=by rw [eR,shutR_own p,q]
  refine ⟨⟨S'.apart a o z,p.r,fun n hn hj e=>?_⟩,S'.rest a o z⟩
  have y:=S'.nr n hn hj
  rw [show W'.ι n=a from e,z] at y; cases y
theorem VA.R {W:Wd} {R:BM} {nx:Nat} {a:AV} {v:Value} (x:VA W nx a v):VA { W with R:=R } nx a v:=VA.mono0 (W:=W) (W':={ W with R:=R }) (Nat.le_refl nx) (BM.le.refl W.B) (fun _ _=>rfl) x
noncomputable def Wd.hold (W:Wd) (a:Addr) (o:Obj):Wd:={ W with R:=fun b=>if b=a then some o else W.R b }
theorem hold_at (W:Wd) (a:Addr) (o:Obj):(W.hold a o).R a=some o:=if_pos rfl
theorem hold_ne {W:Wd} {a b:Addr} {o:Obj} (h:b ≠ a):(W.hold a o).R b=W.R b:=if_neg h
theorem SInv.hold {W:Wd} {m:Nat->MO} {nx:Nat} {h:Heap} (S:SInv prog w K btab W m nx h) {a:Addr} {o:Obj} (ha:OwnAt W m nx a) (ho:h.get? a=some o):SInv prog w K btab (W.hold a o) m nx h:=by
 refine ⟨S.base,fun b ob e=>?_,fun b ob e=>?_,fun n hn=>(S.obj n hn).wd0 (Nat.le_refl _) (.refl _) fun _ _=>rfl,S.nb,fun n hn hj=>?_,S.inj,S.sta⟩
 ·by_cases z:b=a
  ·subst z; rw [hold_at] at e; cases e; exact ho
  ·rw [hold_ne z] at e; exact S.rest b ob e
 ·by_cases z:b=a
  ·subst z; exact ha.b
  ·rw [hold_ne z] at e; exact S.apart b ob e
 ·exact (hold_ne (ha.i n hn hj)).trans (S.nr n hn hj)
theorem SInv.unhold {W W':Wd} {m m':Nat->MO} {nx nx':Nat} {h':Heap} {a:Addr} {o:Obj} (ha:OwnAt W m nx a) (l:Wd.le nx (W.hold a o) W') (S':SInv prog w K btab W' m' nx' h') :
  SInv prog w K btab { W' with R:=W.R } m' nx' h' /\ Wd.le nx W { W' with R:=W.R } /\ OwnAt { W' with R:=W.R } m' nx' a /\ h'.get? a=some o:=by
 have eR:W'.R=(W.hold a o).R:=l.R
 have hr:∀ b ob,W.R b=some ob->W'.R b=some ob:=fun b ob e=>by rw [eR,hold_ne (fun z=>by rw [z,ha.r] at e; cases e)]; exact e
 have hat:W'.R a=some o:=by rw [eR,hold_at]
 refine ⟨⟨S'.base,fun b ob e=>S'.rest b ob (hr b ob e),fun b ob e=>S'.apart b ob (hr b ob e),fun n hn=>(S'.obj n hn).wd0 (Nat.le_refl _) (.refl _) fun _ _=>rfl,S'.nb,fun n hn hj=>?_,S'.inj,S'.sta⟩,
  ⟨l.B,rfl,l.ι⟩,⟨S'.apart a o hat,ha.r,fun n hn hj e=>?_⟩,S'.rest a o hat⟩
 ·have z:=S'.nr n hn hj
  rw [eR] at z
  by_cases y:W'.ι n=a
  ·rw [y,hold_at] at z; cases z
  ·rw [hold_ne y] at z; exact z
 ·have z:=S'.nr n hn hj
  rw [show W'.ι n=a from e,hat] at z; cases z
theorem FInv.hold {W:Wd} {φ:Fm} {env:Env} {st:St} {h₀ h:Heap} {a:Addr} {ob:Obj} (F:FInv W φ env st h₀) (S:SInv prog w K btab W st.m st.nx h₀) (ha:h₀.get? a=none) (k:Keeps h₀ h):FInv (W.hold a ob) φ env st h:=by
 have ow:∀ x o,OwnAt W st.m st.nx x->h₀.get? x=some o->OwnAt (W.hold a ob) st.m st.nx x:=fun x o p q=>⟨p.b,(hold_ne (fun z=>by rw [z,ha] at q; cases q)).trans p.r,p.i⟩
 have va:∀ av v,VA W st.nx av v->VA (W.hold a ob) st.nx av v:=fun av v x=>x.R
 obtain ⟨m,hns,hm⟩:=F.locs
 refine ⟨F.scope,F.kind,F.globals,F.builtins,F.frame,F.code,let ⟨o,_,_,ho,_⟩:=hns; ow _ o F.own ho,⟨m,hns.keeps k,fun x av e1 e2=>let ⟨v,e3,e4⟩:=hm x av e1 e2; ⟨v,e3,va _ _ e4⟩⟩,?_,?_⟩
 ·intro x hx
  obtain ⟨cc,e,q⟩:=F.cells x hx
  refine ⟨cc,e,?_⟩
  rcases q with ⟨q1,q2⟩ | ⟨q1,q2,q3,q4,ov,hc,q6⟩
  ·exact .inl ⟨q1,fun av e=>let ⟨o,v,a1,a2,a3⟩:=q2 av e; ⟨o,v,a1.imp id (fun z=>⟨z.1,(hold_ne (fun y=>by have:=S.rest cc o z.2; rw [y,ha] at this; cases this)).trans z.2⟩),a2,va _ _ a3⟩⟩
  ·exact .inr ⟨q1,(let ⟨o,ho,_⟩:=hc; ow _ o q2 ho),q3,q4,ov,hc.keeps k,fun av e=>let ⟨v,a1,a2⟩:=q6 av e; ⟨v,a1,va _ _ a2⟩⟩
 ·intro x av e1 e2
  obtain ⟨cc,o',v,a1,a2,a3,a4⟩:=F.free x av e1 e2
  refine ⟨cc,o',v,a1,a2.imp id fun z=>?_,a3,va _ _ a4⟩
  have ne:cc ≠ a:=fun y=>by
   have:=S.rest cc o' z
   rw [y,ha] at this; cases this
  exact (hold_ne ne).trans z
theorem FInv.reR {W:Wd} {φ:Fm} {env:Env} {st:St} {h:Heap} {a:Addr} {o:Obj} {R:BM} (F:FInv W φ env st h) (hR:∀ b,b ≠ a->R b=W.R b) (ho:W.R a=some o) (hnc:∀ v,o.data ≠ .cell v):FInv { W with R:=R } φ env st h:=by
 have ow:∀ x,OwnAt W st.m st.nx x->OwnAt { W with R:=R } st.m st.nx x:=fun x p=>⟨p.b,(hR x (fun z=>by have:=p.r; rw [z,ho] at this; cases this)).trans p.r,p.i⟩
 have va:∀ av v,VA W st.nx av v->VA { W with R:=R } st.nx av v:=fun av v x=>x.R
 obtain ⟨m,hns,hm⟩:=F.locs
 refine ⟨F.scope,F.kind,F.globals,F.builtins,F.frame,F.code,ow _ F.own,⟨m,hns,fun x av e1 e2=>let ⟨v,e3,e4⟩:=hm x av e1 e2; ⟨v,e3,va _ _ e4⟩⟩,?_,?_⟩
 ·intro x hx
  obtain ⟨cc,e,q⟩:=F.cells x hx
  refine ⟨cc,e,?_⟩
  rcases q with ⟨q1,q2⟩ | ⟨q1,q2,q3,q4,ov,hc,q6⟩
  ·exact .inl ⟨q1,fun av e=>let ⟨o',v,a1,a2,a3⟩:=q2 av e; ⟨o',v,a1.imp id (fun z=>⟨z.1,(hR cc (fun y=>by have z2:=z.2; rw [y,ho] at z2; cases z2; exact hnc _ a2)).trans z.2⟩),a2,va _ _ a3⟩⟩
  ·exact .inr ⟨q1,ow _ q2,q3,q4,ov,hc,fun av e=>let ⟨v,a1,a2⟩:=q6 av e; ⟨v,a1,va _ _ a2⟩⟩
 ·intro x av e1 e2
  obtain ⟨cc,o',v,a1,a2,a3,a4⟩:=F.free x av e1 e2
  refine ⟨cc,o',v,a1,a2.imp id fun z=>?_,a3,va _ _ a4⟩
  have ne:cc ≠ a:=fun y=>by rw [y,ho] at z; cases z; exact hnc _ a3
  exact (hR cc ne).trans z
end
section
set_option backward.match.sparseCases false
noncomputable def setv (x:Str) (a:AV):List (Str × AV)->List (Str × AV)
 | []=>[(x,a)]
 | p :: r=>match p.1 == x with
  | true=>(x,a) :: r
  | false=>p :: setv x a r
theorem setv_lookup (x:Str) (a:AV):∀ (l:List (Str × AV)) (y:Str),(setv x a l).lookup y=if y=x then some a else l.lookup y
 | [],y=>by
  unfold setv
  rw [List.lookup_cons]
  by_cases h:y=x
  ·subst h; simp
  ·rw [beq_false_of_ne h,if_neg h]
 | p :: r,y=>by
  unfold setv
  cases q:p.1 == x with
  | true=>
   have e:p.1=x:=by simpa using q
   dsimp only
   rw [List.lookup_cons,List.lookup_cons,e]
   by_cases h:y=x
   ·subst h; simp
   ·rw [beq_false_of_ne h,if_neg h]
  | false=>
   have ne:p.1 ≠ x:=by simpa using q
   dsimp only
   rw [List.lookup_cons,List.lookup_cons,setv_lookup x a r y]
   by_cases h:y=p.1
   ·subst h; simp only [beq_self_eq_true]; rw [if_neg ne]
   ·rw [beq_false_of_ne h]
noncomputable def ofTop:Value->AV
 | .int i _=>.d (.int i)
 | .str s _=>.d (.str s)
 | .none=>.d .none
 | .bool b=>.d (.bool b)
 | v=>.k v
theorem ofTop_va (W:Wd) (nx:Nat) (v:Value):VA W nx (ofTop v) v:=by
 cases v <;> first | exact .d (.int _ _) | exact .d (.str _ _) | exact .d .none | exact .d (.bool _) | exact .k _
section
variable (K:Frag) (btab:List (Str × Value))
noncomputable def glob (x:Str):Option AV:=match nsIn K mainGlobals x with
 | some (some v)=>some (ofTop v)
 | some none=>match btab.lookup x with
  | some v=>some (ofTop v)
  | none=>none
 | none=>none
end
section
variable (prog:Program) (w:World) (K:Frag) (btab:List (Str × Value))
class inductive VAs (W:Wd) (nx:Nat):List AV->List Value->Prop
 | nil:VAs W nx [] []
 | cons {a:AV} {v:Value} {as:List AV} {vs:List Value} (h:VA W nx a v) (r:VAs W nx as vs):VAs W nx (a :: as) (v :: vs)
theorem VAs.mono {nx nx':Nat} {W W':Wd} (hn:nx<=nx') (l:Wd.le nx W W') {as:List AV} {vs:List Value} (h:VAs W nx as vs):VAs W' nx' as vs:=
 VAs.rec (motive:=fun as vs _=>VAs W' nx' as vs) .nil (fun h _ r=>.cons (h.mono hn l) r) h
theorem VAs.append {nx:Nat} {W:Wd} {as bs:List AV} {vs ws:List Value} (h:VAs W nx as vs) (k:VAs W nx bs ws):VAs W nx (as ++ bs) (vs ++ ws):=
 VAs.rec (motive:=fun as vs _=>VAs W nx (as ++ bs) (vs ++ ws)) k (fun h _ r=>.cons h r) h
noncomputable def Act (k:Nat) {β:Type} (C:Wd->Prop) (t:Wd->Sem β->Prop) (m:Nat->MO) (nx:Nat) (m':Nat->MO) (nx':Nat) (P:Wd->β->Prop):Prop:=
 ∀ (W:Wd) (A:Around) (s:Shared) (tr:Sem β) (Q:β->Shared->Prop) (E:Value->Shared->Prop),AOK k A->SInv prog w K btab W m nx s.heap->C W->t W tr ->
  (∀ W' h' tk' b,nx<=nx'->Wd.le nx W W'->SInv prog w K btab W' m' nx' h'->P W' b->Q b { s with heap:=h',toks:=tk' })->wpAny (model prog w) A tr Q E s
noncomputable def CallTr (k:Nat) (f:AV) (args:List AV) (kws:List (Str × AV)) (m:Nat->MO) (nx:Nat) (r:AV) (m':Nat->MO) (nx':Nat):Prop:=
 Act prog w K btab k (fun _=>True) (fun W tr=>(Ex3 fun vf vs kvs=>A4 (VA W nx f vf) (VAs W nx args vs) (VAs W nx (kws.map (·.2)) kvs) (tr=call vf vs ((kws.map (·.1)).zip kvs)))) m nx m' nx' (fun W' v=>VA W' nx' r v)
noncomputable def MethTr (k:Nat) (o:AV) (name:Str) (m:Nat->MO) (nx:Nat) (f:AV) (first:List AV) (nx':Nat) (m':Nat->MO):Prop:=
 Act prog w K btab k (fun _=>True) (fun W tr=>(Ex2 fun vo pl=>VA W nx o vo /\ tr=getMethod vo name pl)) m nx m' nx' (fun W' p=>VA W' nx' f p.1 /\ VAs W' nx' first p.2)
noncomputable def AttrTr (k:Nat) (o:AV) (name:Str) (m:Nat->MO) (nx:Nat) (r:AV) (m':Nat->MO) (nx':Nat):Prop:=
 Act prog w K btab k (fun _=>True) (fun W tr=>(Ex2 fun vo b=>VA W nx o vo /\ tr=getAttr vo name b)) m nx m' nx' (fun W' v=>VA W' nx' r v)
noncomputable def ItemTr (k:Nat) (o i:AV) (m:Nat->MO) (nx:Nat) (r:AV) (m':Nat->MO) (nx':Nat):Prop:=
 Act prog w K btab k (fun _=>True) (fun W tr=>(Ex4 fun vo vi value slice=>A4 ((∀ o i,subscripted slice false o i=operate [o,i] (getItem o i))) (VA W nx o vo) (VA W nx i vi) (tr=subscriptTail value slice vo vi))) m nx m' nx' (fun W' v=>VA W' nx' r v)
noncomputable def BinTr (k:Nat) (g:Bool) (op:Operator) (a b:AV) (m:Nat->MO) (nx:Nat) (r:AV) (m':Nat->MO) (nx':Nat):Prop:=
 Act prog w K btab k (fun _=>True) (fun W tr=>(Ex2 fun va vb=>A3 (VA W nx a va) (VA W nx b vb) (tr=(if g then inplaceOp op va vb else binaryOp op va vb)))) m nx m' nx' (fun W' v=>VA W' nx' r v)
noncomputable def CmpTr (k:Nat) (op:CmpOp) (a b:AV) (m:Nat->MO) (nx:Nat) (r:Bool) (m':Nat->MO) (nx':Nat):Prop:=
 Act prog w K btab k (fun _=>True) (fun W tr=>(Ex2 fun va vb=>A3 (VA W nx a va) (VA W nx b vb) (tr=compareOp op va vb))) m nx m' nx' (fun _ v=>v=.bool r)
noncomputable def TruthTr (k:Nat) (a:AV) (m:Nat->MO) (nx:Nat) (r:Bool):Prop:=
 Act prog w K btab k (fun _=>True) (fun W tr=>∃ va,VA W nx a va /\ tr=truthy va) m nx m nx (fun _ b=>b=r)
noncomputable def SetAttrTr (k:Nat) (o:AV) (name:Str) (x:AV) (m:Nat->MO) (nx:Nat) (m':Nat->MO) (nx':Nat):Prop:=
 Act prog w K btab k (fun _=>True) (fun W tr=>(Ex2 fun vo vx=>A3 (VA W nx o vo) (VA W nx x vx) (tr=setAttr vo name vx))) m nx m' nx' (fun _ (_:Unit)=>True)
noncomputable def SetItemTr (k:Nat) (o i x:AV) (m:Nat->MO) (nx:Nat) (m':Nat->MO) (nx':Nat):Prop:=
 Act prog w K btab k (fun _=>True) (fun W tr=>(Ex3 fun vo vi vx=>A4 (VA W nx o vo) (VA W nx i vi) (VA W nx x vx) (tr=setItem vo vi vx))) m nx m' nx' (fun _ (_:Unit)=>True)
noncomputable def ETr (k:Nat) (φ:Fm) (e:PySem.Expr) (st:St) (r:AV) (st':St):Prop:=
 Tri prog w K btab k φ (fun _ _=>True) (fun env=>eval e env) st st' (fun W' v=>VA W' st'.nx r v)
noncomputable def FlR (W:Wd) (nx:Nat):Fl->Flow->Prop
 | .next,.next=>True
 | .cont,.cont=>True
 | .brk,.brk=>True
 | .ret a,.ret v=>VA W nx a v
 | _,_=>False
noncomputable def STr (k:Nat) (φ:Fm) (c:Stmt) (st:St) (fl:Fl) (st':St):Prop:=
 Tri prog w K btab k φ (fun _ _=>True) (fun env=>exec c env) st st' (fun W' f=>FlR W' st'.nx fl f)
noncomputable def BTr (k:Nat) (φ:Fm) (b:List Stmt) (st:St) (fl:Fl) (st':St):Prop:=
 Tri prog w K btab k φ (fun _ _=>True) (fun env=>execs b env) st st' (fun W' f=>FlR W' st'.nx fl f)
noncomputable def gOb (p:Prop):G Unit:=fun st sc=>some ((),st,sc,[p])
noncomputable def gBr (b:Bool):G Bool:=fun st sc=>match sc with
 | .br d :: r=>some (d,st,r,[b=d])
 | _=>none
noncomputable def gVal (P:(Nat->MO)->Nat->AV->(Nat->MO)->Nat->Prop):G AV:=fun st sc=>match sc with
 | .val a m nx :: r=>some (a,{ st with m:=m,nx:=nx },r,[P st.m st.nx a m nx])
 | _=>none
noncomputable def gName (φ:Fm) (x:Str):G AV:=fun st sc=>match φ.sc.names.lookup x with
 | some .local=>(match st.vars.lookup x with | some a=>some (a,st,sc,[]) | none=>none)
 | some .cell=>(match st.vars.lookup x with | some a=>some (a,st,sc,[]) | none=>none)
 | some .free=>(match x == ("__classdict__" : Str),φ.caps.lookup x with | false,some a=>some (a,st,sc,[]) | _,_=>none)
 | some .globalImplicit=>(match glob K btab x with | some a=>some (a,st,sc,[]) | none=>none)
 | _=>none
noncomputable def gStore (φ:Fm) (x:Str) (a:AV):G Unit:=fun st sc=>match φ.sc.names.lookup x with
 | some .local=>some ((),{ st with vars:=setv x a st.vars },sc,[])
 | some .cell=>(match st.fz.contains x with | true=>none | false=>some ((),{ st with vars:=setv x a st.vars },sc,[]))
 | _=>none
noncomputable def intOf:AV->Option Int
 | .d (.int i)=>some i
 | _=>none
noncomputable def strOf:AV->Option Str
 | .d (.str i)=>some i
 | _=>none
noncomputable def gBinV (k:Nat) (g:Bool) (op:Operator) (a b:AV):G AV:=gVal fun m nx r m' nx'=>BinTr prog w K btab k g op a b m nx r m' nx'
noncomputable def gBinI (k:Nat) (g:Bool) (op:Operator) (a b:AV) (i j:Int):G AV:=match op with
 | .Add=>pure (.d (.int (i+j)))
 | .Sub=>pure (.d (.int (i - j)))
 | .FloorDiv=>do gOb (0 < j /\ j < 1073741824); pure (.d (.int (i / j)))
 | .Mod=>do gOb (0 < j); pure (.d (.int (i % j)))
 | op=>gBinV prog w K btab k g op a b
noncomputable def gBin (k:Nat) (g:Bool) (op:Operator) (a b:AV):G AV:=match intOf a,intOf b with
 | some i,some j=>gBinI prog w K btab k g op a b i j
 | _,_=>gBinV prog w K btab k g op a b
noncomputable def gCmpV (k:Nat) (op:CmpOp) (a b:AV):G AV:=gVal fun m nx r m' nx'=>match r with
  | .d (.bool c)=>CmpTr prog w K btab k op a b m nx c m' nx'
  | _=>False
noncomputable def gCmpI (k:Nat) (op:CmpOp) (a b:AV) (i j:Int):G AV:=match op with
 | .Lt=>pure (.d (.bool (decide (i < j))))
 | .GtE=>pure (.d (.bool (decide (i >= j))))
 | .Eq=>pure (.d (.bool (decide (i=j))))
 | .NotEq=>pure (.d (.bool (!decide (i=j))))
 | op=>gCmpV prog w K btab k op a b
noncomputable def gCmpS (k:Nat) (op:CmpOp) (a b:AV) (i j:Str):G AV:=match op with
 | .Eq=>pure (.d (.bool (decide (i=j))))
 | .NotEq=>pure (.d (.bool (!decide (i=j))))
 | op=>gCmpV prog w K btab k op a b
noncomputable def gCmp (k:Nat) (op:CmpOp) (a b:AV):G AV:=match intOf a,intOf b with
 | some i,some j=>gCmpI prog w K btab k op a b i j
 | _,_=>match strOf a,strOf b with
  | some i,some j=>gCmpS prog w K btab k op a b i j
  | _,_=>gCmpV prog w K btab k op a b
noncomputable def gTruth (k:Nat) (a:AV):G Bool:=fun st sc=>match sc with
 | .br d :: r=>some (d,st,r,[TruthTr prog w K btab k a st.m st.nx d])
 | _=>none
noncomputable def gTrue (k:Nat) (a:AV):G Bool:=match a with
 | .d (.bool b)=>gBr b
 | .d .none=>pure false
 | a=>gTruth prog w K btab k a
noncomputable def freeCaps (get:Str->Option AV):List (Str × NameKind)->Option (List (Str × AV))
 | []=>some []
 | (x,.free) :: r=>(match get x,freeCaps get r with
  | some a,some l=>some ((x,a) :: l)
  | _,_=>none)
 | _ :: r=>freeCaps get r
noncomputable def nameNow (φ:Fm) (st:St) (x:Str):Option AV:=match φ.sc.names.lookup x with
 | some .cell=>st.vars.lookup x
 | some .free=>φ.caps.lookup x
 | _=>none
noncomputable def frozenBy (φ:Fm) (names:List (Str × NameKind)) (fz:List Str):List Str:=names.foldl (fun l p=>match p.2,φ.sc.names.lookup p.1 with
 | .free,some .cell=>p.1 :: l
 | _,_=>l) fz
noncomputable def gLam (k:Nat) (φ:Fm) (ps:Arguments) (body:PySem.Expr) (sc:Scope) (pos:Pos):G AV:=fun st s=>match freeCaps (nameNow φ st) sc.names with
 | some caps=>some (.fn ps body sc caps,{ st with fz:=frozenBy φ sc.names st.fz },s,[ETr prog w K btab k φ (.Lambda ps body sc pos) st (.fn ps body sc caps) { st with fz:=frozenBy φ sc.names st.fz }])
 | none=>none
noncomputable def asD:List AV->Option (List D)
 | []=>some []
 | .d x :: r=>(match asD r with | some l=>some (x :: l) | none=>none)
 | _=>none
noncomputable def gFzLoc (n:Nat):G AV:=fun st s=>match s with
 | .mo (.list l) :: r=>some (.d (.lst l),{ st with m:=upd st.m n .junk },r,[st.m n=.list l,n < st.nx])
 | .mo .junk :: r=>some (.loc n,st,r,[])
 | _=>none
noncomputable def gFz (a:AV):G AV:=match a with
 | .loc n=>gFzLoc n
 | a=>pure a
noncomputable def gFzs:List AV->G (List AV)
 | []=>pure []
 | a :: r=>do
  let b <- gFz a
  let bs <- gFzs r
  pure (b :: bs)
noncomputable def gTup (as:List AV):G AV:=match asD as with
 | some l=>do gOb (l.length<=1000); pure (.d (.tup l))
 | none=>G.fail
noncomputable def gNew (mo:MO):G AV:=fun st s=>some (.loc st.nx,{ st with m:=upd st.m st.nx mo,nx:=st.nx+1 },s,[])
noncomputable def gPick:G Bool:=fun st s=>match s with
 | .br d :: r=>some (d,st,r,[])
 | _=>none
noncomputable def gLst (as:List AV):G AV:=match asD as with
 | some l=>do
  gOb (l.length<=1000)
  match <- gPick with
  | true=>gNew (.list l)
  | false=>pure (.d (.lst l))
 | none=>G.fail
noncomputable def SliceTr (k:Nat) (o l u:AV) (m:Nat->MO) (nx:Nat) (r:AV) (m':Nat->MO) (nx':Nat):Prop:=
 Act prog w K btab k (fun _=>True) (fun W tr=>(Ex5 fun vo vl vu value slice=>A5 ((∀ o i,subscripted slice false o i=operate [i,o] (getItem o i))) (VA W nx o vo) (VA W nx l vl) (VA W nx u vu) (tr=(newFields "slice" [vl,vu,.none] >>= fun i=>subscriptTail value slice vo i)))) m nx m' nx' (fun W' v=>VA W' nx' r v)
noncomputable def notSuper:PySem.Expr->Bool
 | .Name x _=>x != ("super" : Str)
 | _=>false
noncomputable def baseOk:PySem.Expr->Bool
 | .Call f [] _ _=>notSuper f
 | _=>true
noncomputable def setFree:PySem.Expr->Bool
 | .Set ..=>false
 | _=>true
noncomputable def starFree (as:List PySem.Expr):Bool:=as.all fun | .Starred ..=>false | _=>true
noncomputable def kwNames:List Keyword->Option (List Str)
 | []=>some []
 | ⟨some n,_,_⟩ :: r=>(match kwNames r with | some l=>some (n :: l) | none=>none)
 | _=>none
noncomputable def calleeOk:AV->Bool
 | .k (.builtin _)=>true
 | .k (.type _)=>true
 | .k (.ref a)=>keepIn K (.ref a)
 | .fn ..=>true
 | _=>false
noncomputable def gMeth (k:Nat) (o:AV) (name:Str):G (AV × List AV):=fun st s=>match s with
 | .val f _ _ :: .val (.d (.bool true)) m nx :: r=>some ((f,[o]),{ st with m:=m,nx:=nx },r,[MethTr prog w K btab k o name st.m st.nx f [o] nx m])
 | .val f _ _ :: .val (.d (.bool false)) m nx :: r=>some ((f,[]),{ st with m:=m,nx:=nx },r,[MethTr prog w K btab k o name st.m st.nx f [] nx m])
 | _=>none
noncomputable def gComp (k:Nat) (φ:Fm) (e:PySem.Expr):G AV:=fun st s=>match s with
 | .val r m nx :: rest=>some (r,{ st with m:=m,nx:=nx },rest,[ETr prog w K btab k φ e st r { st with m:=m,nx:=nx }])
 | _=>none
noncomputable def gIf {α:Type} (b:Bool) (g h:G α):G α:=match b with
 | true=>g
 | false=>h
noncomputable def gOpt {α β:Type} (o:Option β) (f:β->G α) (h:G α):G α:=match o with
 | some x=>f x
 | none=>h
structure EvT where
 ev:Fm->PySem.Expr->G AV
 tv:Fm->PySem.Expr->G Bool
noncomputable def constD:Const->Option D
 | .int i=>some (.int i)
 | .str x=>some (.str x)
 | .none=>some .none
 | .bool b=>some (.bool b)
 | _=>none
noncomputable def negOf (op:UnaryOp) (x:PySem.Expr):Option Int:=match op,x with
 | .USub,.Constant (.int i) _ _=>some i
 | _,_=>none
noncomputable def two {α:Type}:List α->Option (α × α)
 | [x,y]=>some (x,y)
 | _=>none
noncomputable def one {α:Type}:List α->Option α
 | [x]=>some x
 | _=>none
noncomputable def attrOf:PySem.Expr->Option (PySem.Expr × Str × Pos)
 | .Attribute o name p=>some (o,name,p)
 | _=>none
noncomputable def sliceOf:PySem.Expr->Option (Option PySem.Expr × Option PySem.Expr × Option PySem.Expr × Pos)
 | .Slice l u st p=>some (l,u,st,p)
 | _=>none
noncomputable def isNone {α:Type}:Option α->Bool
 | none=>true
 | some _=>false
noncomputable def evsL (f:PySem.Expr->G AV):List PySem.Expr->G (List AV)
 | []=>pure []
 | e :: r=>do
  let a <- f e
  let as <- evsL f r
  pure (a :: as)
noncomputable def evoL (f:PySem.Expr->G AV):Option PySem.Expr->G AV
 | none=>pure (.d .none)
 | some e=>f e
noncomputable def gBool {α:Type} (op:BoolOp) (t:Bool) (a b:G α):G α:=match op,t with
 | .And,false=>a
 | .Or,true=>a
 | _,_=>b
noncomputable def tvsL (f:PySem.Expr->G Bool) (op:BoolOp):List PySem.Expr->G Bool
 | []=>pure (op == .And)
 | x :: r=>do
  let t <- f x
  gBool op t (pure t) (tvsL f op r)
noncomputable def gArgs (T:EvT) (k:Nat) (φ:Fm) (f:AV) (first:List AV) (args:List PySem.Expr) (kws:List Keyword) (ns:List Str):G AV:=gIf (calleeOk K f) (do
  let as <- evsL (T.ev φ) args
  let ks <- evsL (T.ev φ) (kws.map (·.value))
  gVal fun m nx r m' nx'=>CallTr prog w K btab k f (first ++ as) (ns.zip ks) m nx r m' nx') G.fail
noncomputable def evCall (T:EvT) (k:Nat) (φ:Fm) (f:PySem.Expr) (args:List PySem.Expr) (kws:List Keyword) (pos:Pos):G AV:=gOpt (kwNames kws) (fun ns=>gIf (starFree args) (gOpt (attrOf f)
  (fun q=>gIf (baseOk q.1 && q.2.2.endLine == pos.line && Nat.ble (args.length+kws.length) 20) (do
   let vo <- T.ev φ q.1
   let fp <- gMeth prog w K btab k vo q.2.1
   gArgs prog w K btab T k φ fp.1 fp.2 args kws ns) G.fail)
  (do
   let vf <- T.ev φ f
   gArgs prog w K btab T k φ vf [] args kws ns)) G.fail) G.fail
noncomputable def evSub (T:EvT) (k:Nat) (φ:Fm) (o i:PySem.Expr):G AV:=gOpt (sliceOf i)
  (fun q=>gIf (isNone q.2.2.1) (do
   let vo <- T.ev φ o
   let vl <- evoL (T.ev φ) q.1
   let vu <- evoL (T.ev φ) q.2.1
   gVal fun m nx r m' nx'=>SliceTr prog w K btab k vo vl vu m nx r m' nx') G.fail)
  (do
   let vo <- T.ev φ o
   let vi <- T.ev φ i
   gVal fun m nx r m' nx'=>ItemTr prog w K btab k vo vi m nx r m' nx')
noncomputable def evCmp (T:EvT) (k:Nat) (φ:Fm) (l:PySem.Expr) (ops:List CmpOp) (rs:List PySem.Expr):G AV:=gOpt (one ops) (fun op=>gOpt (one rs) (fun r=>gIf (setFree r) (do
  let a <- T.ev φ l
  let b <- T.ev φ r
  gCmp prog w K btab k op a b) G.fail) G.fail) G.fail
noncomputable def stepEv (T:EvT) (k:Nat) (φ:Fm) (e:PySem.Expr):G AV:=match e with
  | .Constant v _ _=>gOpt (constD v) (fun d=>pure (.d d)) G.fail
  | .Name x _=>gIf (x == ("__debug__" : Str)) (pure (.d (.bool true))) (gName K btab φ x)
  | .BinOp l op r _=>do
   let a <- T.ev φ l
   let b <- T.ev φ r
   gBin prog w K btab k false op a b
  | .UnaryOp op x _=>gOpt (negOf op x) (fun i=>pure (.d (.int (-i)))) G.fail
  | .BoolOp op xs _=>gOpt (two xs) (fun p=>do
   let a <- T.ev φ p.1
   let t <- gTrue prog w K btab k a
   gBool op t (pure a) (T.ev φ p.2)) G.fail
  | .IfExp t b o _=>do
   let c <- T.tv φ t
   gIf c (T.ev φ b) (T.ev φ o)
  | .Compare l ops rs _=>evCmp prog w K btab T k φ l ops rs
  | .Call f args kws pos=>evCall prog w K btab T k φ f args kws pos
  | .Attribute o name _=>gIf (baseOk o) (do
    let vo <- T.ev φ o
    gVal fun m nx r m' nx'=>AttrTr prog w K btab k vo name m nx r m' nx') G.fail
  | .Subscript o i _=>evSub prog w K btab T k φ o i
  | .List es _=>gIf (starFree es) (do
    let as <- evsL (T.ev φ) es
    gLst as) G.fail
  | .Tuple es _ _=>gIf (starFree es) (do
    let as <- evsL (T.ev φ) es
    let bs <- gFzs as
    gTup bs) G.fail
  | .Dict ks vs _=>gIf (ks.isEmpty && vs.isEmpty) (do
   let b <- gPick
   gIf b (gNew (.dictS [])) (gNew (.dictI []))) G.fail
  | .ListComp a b c d=>gComp prog w K btab k φ (.ListComp a b c d)
  | .DictComp a a' b c d=>gComp prog w K btab k φ (.DictComp a a' b c d)
  | .Lambda ps body sc pos=>gLam prog w K btab k φ ps body sc pos
  | _=>G.fail
noncomputable def tvPlain (T:EvT) (k:Nat) (φ:Fm) (e:PySem.Expr):G Bool:=do
 let a <- T.ev φ e
 gTrue prog w K btab k a
noncomputable def stepTv (T:EvT) (k:Nat) (φ:Fm) (e:PySem.Expr):G Bool:=match e with
  | .UnaryOp op x p=>gIf (op == .Not) (do
    let b <- T.tv φ x
    pure (!b)) (tvPlain prog w K btab T k φ (.UnaryOp op x p))
  | .BoolOp op xs _=>tvsL (T.tv φ) op xs
  | .IfExp t b o _=>do
   let c <- T.tv φ t
   gIf c (T.tv φ b) (T.tv φ o)
  | .Compare l ops rs _=>do
   let c <- evCmp prog w K btab T k φ l ops rs
   gTrue prog w K btab k c
  | e=>tvPlain prog w K btab T k φ e
noncomputable def evN (k:Nat):Nat->EvT
 | 0=>⟨fun _ _=>G.fail,fun _ _=>G.fail⟩
 | n+1=>⟨stepEv prog w K btab (evN k n) k,stepTv prog w K btab (evN k n) k⟩
noncomputable def ev (k n:Nat) (φ:Fm) (e:PySem.Expr):G AV:=(evN prog w K btab k n).ev φ e
noncomputable def tv (k n:Nat) (φ:Fm) (e:PySem.Expr):G Bool:=(evN prog w K btab k n).tv φ e
noncomputable def isComp:PySem.Expr->Bool
 | .ListComp ..=>true
 | .SetComp ..=>true
 | .DictComp ..=>true
 | _=>false
noncomputable def isTupE:PySem.Expr->Bool
 | .Tuple ..=>true
 | _=>false
noncomputable def isSlice:PySem.Expr->Bool
 | .Slice ..=>true
 | _=>false
noncomputable def tupNames:List PySem.Expr->Option (List Str)
 | []=>some []
 | .Name x _ :: r=>(match tupNames r with | some l=>some (x :: l) | none=>none)
 | _=>none
noncomputable def gStores (φ:Fm):List Str->List D->G Unit
 | [],[]=>pure ()
 | x :: xs,d :: ds=>do
  gStore φ x (.d d)
  gStores φ xs ds
 | _,_=>G.fail
noncomputable def gStep (P:St->Fl->St->Prop):G Fl:=fun st s=>match s with
 | .fl f st' :: r=>some (f,st',r,[P st f st'])
 | _=>none
noncomputable def exsL (f:Stmt->G Fl):List Stmt->G Fl
 | []=>pure .next
 | c :: r=>do
  let fl <- f c
  match fl with
  | .next=>exsL f r
  | fl=>pure fl
noncomputable def litV:AV->Bool
 | .d .none=>true
 | .d (.str _)=>true
 | .d (.int _)=>true
 | _=>false
noncomputable def seqOf:AV->Option (List D)
 | .d (.tup ds)=>some ds
 | .d (.lst ds)=>some ds
 | _=>none
noncomputable def exAssign (T:EvT) (k:Nat) (φ:Fm) (t e:PySem.Expr) (q:Pos):G Fl:=match t with
  | .Name x p=>gIf (isComp e) (gStep fun st f st'=>STr prog w K btab k φ (.Assign [.Name x p] e q) st f st') (do
    let a <- T.ev φ e
    gStore φ x a
    pure .next)
  | .Tuple es _ _=>gOpt (tupNames es) (fun xs=>gIf (isComp e || isTupE e) G.fail (do
    let a <- T.ev φ e
    gOpt (seqOf a) (fun ds=>do
     gStores φ xs ds
     pure .next) G.fail)) G.fail
  | .Attribute o name _=>gIf (isComp e) G.fail (do
    let a <- T.ev φ e
    let vo <- T.ev φ o
    let _ <- gVal fun m nx _ m' nx'=>SetAttrTr prog w K btab k vo name a m nx m' nx'
    pure .next)
  | .Subscript o i _=>gIf (isComp e || isSlice i) G.fail (do
    let a <- T.ev φ e
    let vo <- T.ev φ o
    let vi <- T.ev φ i
    let _ <- gVal fun m nx _ m' nx'=>SetItemTr prog w K btab k vo vi a m nx m' nx'
    pure .next)
  | _=>G.fail
noncomputable def exAug (T:EvT) (k:Nat) (φ:Fm) (t:PySem.Expr) (op:Operator) (e:PySem.Expr):G Fl:=match t with
  | .Name x _=>do
   let a <- gName K btab φ x
   let b <- T.ev φ e
   let c <- gBin prog w K btab k true op a b
   gStore φ x c
   pure .next
  | .Attribute o name _=>do
   let vo <- T.ev φ o
   let a <- gVal fun m nx r m' nx'=>AttrTr prog w K btab k vo name m nx r m' nx'
   let b <- T.ev φ e
   let c <- gBin prog w K btab k true op a b
   let _ <- gVal fun m nx _ m' nx'=>SetAttrTr prog w K btab k vo name c m nx m' nx'
   pure .next
  | _=>G.fail
noncomputable def stepEx (T:EvT) (f:Fm->Stmt->G Fl) (k:Nat) (φ:Fm) (c:Stmt):G Fl:=match c with
  | .Expr e _=>gIf (isComp e) G.fail (do
    let a <- T.ev φ e
    gIf (litV a) (pure .next) G.fail)
  | .Pass _=>pure .next
  | .Break _=>pure .brk
  | .Continue _=>pure .cont
  | .Return o _=>gOpt o (fun e=>do
   let a <- T.ev φ e
   let b <- gFz a
   pure (.ret b)) (pure (.ret (.d .none)))
  | .Assign ts e q=>gOpt (one ts) (fun t=>exAssign prog w K btab T k φ t e q) G.fail
  | .AugAssign t op e _=>exAug prog w K btab T k φ t op e
  | .If t b o _=>do
   let c <- T.tv φ t
   gIf c (exsL (f φ) b) (exsL (f φ) o)
  | .While t b o q=>gStep fun st f st'=>STr prog w K btab k φ (.While t b o q) st f st'
  | .For x i b o q=>gStep fun st f st'=>STr prog w K btab k φ (.For x i b o q) st f st'
  | _=>G.fail
noncomputable def ex (k:Nat):Nat->Fm->Stmt->G Fl
 | 0=>fun _ _=>G.fail
 | n+1=>stepEx prog w K btab (evN prog w K btab k n) (ex k n) k
noncomputable def exs (k n:Nat) (φ:Fm) (b:List Stmt):G Fl:=exsL (ex prog w K btab k n φ) b
end
end
noncomputable abbrev RV:AV->Value->Wd->Nat->Prop:=fun a v W nx=>VA W nx a v
noncomputable abbrev RU {α:Type}:α->Unit->Wd->Nat->Prop:=fun _ _ _ _=>True
noncomputable abbrev RB:Bool->Bool->Wd->Nat->Prop:=fun a b _ _=>a=b
section
variable {prog:Program} {w:World} {K:Frag} {btab:List (Str × Value)} {k:Nat} {φ:Fm} {C:Wd->Nat->Prop}
theorem FInv.kindOf {W:Wd} {env:Env} {st:St} {h:Heap} (F:FInv W φ env st h) (x:Str):env.kindOf x=φ.sc.names.lookup x:=by unfold Env.kindOf; rw [F.scope]
theorem FInv.kindF {W:Wd} {env:Env} {st:St} {h:Heap} (F:FInv W φ env st h):env.scope.kind=.function:=by rw [F.scope]; exact F.kind
theorem SInv.facts {W:Wd} {m:Nat->MO} {nx:Nat} {h:Heap} (S:SInv prog w K btab W m nx h):K.In h /\ h.NoLimit /\ (∃ mb,h.Ns builtinsNs mb /\ ∀ p ∈ btab,mb p.1=some p.2) /\ BMain h:=S.sta.all h S.base
theorem SInv.newAt {W:Wd} {m:Nat->MO} {nx:Nat} {h:Heap} (S:SInv prog w K btab W m nx h):(h.objs.size == sysModules)=false:=by
 obtain ⟨-,-,-,mg,bm,ob,⟨o,es,ep,ho,-⟩,-⟩:=S.facts
 have h3:mainGlobals < h.objs.size:=Heap.lt_size ho
 cases q:h.objs.size == sysModules with
 | false=>rfl
 | true=>
  have h1:h.objs.size=sysModules:=eq_of_beq q
  rw [h1] at h3
  exact absurd h3 (by decide)
theorem mem_of_lookup {α:Type} {x:Str} {v:α}:∀ {l:List (Str × α)},l.lookup x=some v->(x,v) ∈ l
 | (y,u) :: l,e=>by
  rw [List.lookup_cons] at e
  cases q:x == y with
  | true=>rw [q] at e; cases e; rw [beq_iff_eq.mp q]; exact .head _
  | false=>rw [q] at e; exact .tail _ (mem_of_lookup e)
theorem nsGet_at {M:Model} {A:Around} {E:Value->Shared->Prop} {s:Shared} {a:Addr} {mp:Str->Option Value} {x:Str} {Q:Option Value->Shared->Prop} (hn:s.heap.Ns a mp) (h:Q (mp x) s):wpAny M A (nsGet a x) Q E s:=
 wpAny_nsGet hn h
theorem glob_inv {x:Str} {a:AV} {P:Prop} (e:glob K btab x=some a) (h1:∀ v,nsIn K mainGlobals x=some (some v)->a=ofTop v->P) (h2:∀ v,nsIn K mainGlobals x=some none->btab.lookup x=some v->a=ofTop v->P):P:=by
 revert e
 unfold glob
 cases q:nsIn K mainGlobals x with
 | none=>exact fun e=>ns e
 | some o=>cases o with
  | some v=>exact fun e=>h1 v q (Option.some.inj e).symm
  | none=>cases r:btab.lookup x with
   | none=>exact fun e=>ns e
   | some v=>exact fun e=>h2 v q r (Option.some.inj e).symm
theorem loadGlobal_at {A:Around} {env:Env} {E:Value->Shared->Prop} {s:Shared} {Q:Value->Shared->Prop} {W:Wd} {m:Nat->MO} {nx:Nat} (S:SInv prog w K btab W m nx s.heap) (hg:env.globals=mainGlobals) (hb:env.builtins=builtinsNs) {x:Str} {a:AV}
  (e:glob K btab x=some a) (h:∀ v,VA W nx a v->Q v s):wpAny (model prog w) A (loadGlobal env x) Q E s:=by
 obtain ⟨X,_,⟨mb,hns,hmb⟩,_⟩:=S.facts
 unfold loadGlobal
 rw [hg,hb]
 refine glob_inv e (fun v q r=>?_) fun v q l r=>?_
 ·exact wpAny_bind ((looks_nsIn X q).here (wpAny_pure (h v (r ▸ ofTop_va _ _ _))))
 ·refine wpAny_bind ((looks_nsIn X q).here (wpAny_bind (nsGet_at hns ?_)))
  rw [hmb _ (mem_of_lookup l)]
  exact wpAny_pure (h v (r ▸ ofTop_va _ _ _))
theorem i4 {α β γ δ:Type _} {a a':α} {b b':β} {c c':γ} {d d':δ} (e:some (a,b,c,d)=some (a',b',c',d')):a=a':=by cases e; rfl
theorem j4 {α β γ δ:Type _} {a a':α} {b b':β} {c c':γ} {d d':δ} (e:some (a,b,c,d)=some (a',b',c',d')):b'=b:=by cases e; rfl
theorem o4 {α β γ δ:Type _} {a a':α} {b b':β} {c c':γ} {d d':δ} (e:some (a,b,c,d)=some (a',b',c',d')):d'=d:=by cases e; rfl
theorem gName_inv {x:Str} {a:AV} {st st':St} {sc sc':List Ev} {ob:List Prop} {P:Prop} (e:gName K btab φ x st sc=some (a,st',sc',ob))
  (h1:st'=st->φ.sc.names.lookup x=some .local->st.vars.lookup x=some a->P)
  (h2:st'=st->φ.sc.names.lookup x=some .cell->st.vars.lookup x=some a->P)
  (h3:st'=st->φ.sc.names.lookup x=some .free->(x == ("__classdict__" : Str))=false->φ.caps.lookup x=some a->P)
  (h4:st'=st->φ.sc.names.lookup x=some .globalImplicit->glob K btab x=some a->P):P:=by
 revert e
 unfold gName
 cases q:φ.sc.names.lookup x with
 | none=>exact fun e=>ns e
 | some k=>cases k with
  | «local»=>cases r:st.vars.lookup x with
   | none=>exact fun e=>ns e
   | some b=>exact fun e=>h1 (j4 e) q (r.trans (congrArg some (i4 e)))
  | cell=>cases r:st.vars.lookup x with
   | none=>exact fun e=>ns e
   | some b=>exact fun e=>h2 (j4 e) q (r.trans (congrArg some (i4 e)))
  | free=>cases z:x == ("__classdict__" : Str) with
   | true=>exact fun e=>ns e
   | false=>cases r:φ.caps.lookup x with
    | none=>exact fun e=>ns e
    | some b=>exact fun e=>h3 (j4 e) q z (r.trans (congrArg some (i4 e)))
  | globalImplicit=>cases r:glob K btab x with
   | none=>exact fun e=>ns e
   | some b=>exact fun e=>h4 (j4 e) q (r.trans (congrArg some (i4 e)))
  | _=>exact fun e=>ns e
theorem snd_name (x:Str):Snd prog w K btab k φ C (gName K btab φ x) (fun env=>loadName env x) RV:=by
 intro st sc a st' sc' ob e hob W A env s Q E hA hS hF hc hq
 have fin:st'=st->∀ v,VA W st.nx a v->Q v s:=fun e1 v hv=>by
  subst e1
  exact hq W s.heap s.toks v (Nat.le_refl _) (.refl _ _) hS hF hv
 refine gName_inv e (fun es q r=>?_) (fun es q r=>?_) (fun es q z r=>?_) fun es q r=>?_
 ·obtain ⟨mp,hns,hm⟩:=hF.locs
  obtain ⟨v,e1,e2⟩:=hm x a q r
  exact wpAny_loadName_local hF.kindF ((hF.kindOf x).trans q) hns e1 (fin es v e2)
 ·obtain ⟨c,e1,e2⟩:=hF.cells x q
  refine e2.elim (fun e2=>?_) fun e2=>?_
  ·obtain ⟨o,v,b1,b2,b3⟩:=e2.2 a r
   exact wpAny_loadName_cell hF.kindF ((hF.kindOf x).trans q) e1 ⟨o,b1.elim (hS.base _ _) (fun z=>hS.rest _ _ z.2),b2⟩ (fin es v b3)
  ·obtain ⟨_,_,_,_,ov,hcell,e2⟩:=e2
   obtain ⟨v,ev,b3⟩:=e2 a r
   exact wpAny_loadName_cell hF.kindF ((hF.kindOf x).trans q) e1 (ev ▸ hcell) (fin es v b3)
 ·obtain ⟨c,o,v,b1,b2,b3,b4⟩:=hF.free x a q r
  exact wpAny_loadName_free hF.kindF ((hF.kindOf x).trans q) b1 ⟨o,b2.elim (hS.base _ _) (hS.rest _ _),b3⟩ (fin es v b4) z
 ·show wpAny _ A (loadName env x) Q E s
  rw [loadName_read hF.kindF ((hF.kindOf x).trans q)]
  exact loadGlobal_at hS hF.globals hF.builtins r (fin es)
theorem gStore_inv {x:Str} {a:AV} {u:Unit} {st st':St} {sc sc':List Ev} {ob:List Prop} {P:St->Prop} (e:gStore φ x a st sc=some (u,st',sc',ob))
  (h1:φ.sc.names.lookup x=some .local->P { st with vars:=setv x a st.vars }) (h2:φ.sc.names.lookup x=some .cell->x ∉ st.fz->P { st with vars:=setv x a st.vars }):P st':=by
 revert e
 unfold gStore
 cases q:φ.sc.names.lookup x with
 | none=>exact fun e=>ns e
 | some k=>cases k with
  | «local»=>exact fun e=>j4 e ▸ h1 q
  | cell=>cases z:st.fz.contains x with
   | true=>exact fun e=>ns e
   | false=>exact fun e=>j4 e ▸ h2 q fun m=>tf ((List.contains_iff_mem.mpr m).symm.trans z)
  | _=>exact fun e=>ns e
theorem loc_ne {x y:Str} {a b:NameKind} (h:φ.sc.names.lookup x=some a) (g:φ.sc.names.lookup y=some b) (n:a ≠ b):y ≠ x:=fun z=>n (Option.some.inj (h.symm.trans (z ▸ g)))
theorem setv_self {x:Str} {a:AV} {l:List (Str × AV)}:(setv x a l).lookup x=some a:=(setv_lookup x a l x).trans (if_pos rfl)
theorem setv_ne {x y:Str} {a:AV} {l:List (Str × AV)} (n:y ≠ x):(setv x a l).lookup y=l.lookup y:=(setv_lookup x a l y).trans (if_neg n)
theorem snd_store {x:Str} {a:AV} {v:Value} (hv:∀ W nx,C W nx->VA W nx a v):Snd prog w K btab k φ C (gStore φ x a) (fun env=>storeName env x v) RU:=by
 intro st sc u st' sc' ob e
 refine gStore_inv (P:=fun st'=>(∀ p ∈ ob,p)->Tri prog w K btab k φ C (fun env=>storeName env x v) st st' fun W' _=>True) e (fun q _ W A env s Q E hA hS hF hc hq=>?_) fun q hz _ W A env s Q E hA hS hF hc hq=>?_
 ·obtain ⟨mp,hns,hm⟩:=id hF.locs
  refine wpAny_storeName_local ((hF.kindOf x).trans q) hns (fun h' hns' hsb=>?_) (by rw [hF.kindF]; rfl)
  refine hq W h' _ () (Nat.le_refl _) (.refl _ _) (hS.own hF.own hsb.extBut) ?_ trivial
  refine ⟨hF.scope,hF.kind,hF.globals,hF.builtins,hF.frame,hF.code,hF.own,⟨_,hns',fun y av e1 e2=>?_⟩,fun y hy=>?_,hF.free⟩
  ·have e2':(setv x a st.vars).lookup y=some av:=e2
   by_cases z:y=x
   ·rw [if_pos z]; exact ⟨v,rfl,Option.some.inj (setv_self.symm.trans (z ▸ e2')) ▸ hv _ _ hc⟩
   ·rw [if_neg z]; exact hm y av e1 ((setv_ne z).symm.trans e2')
  ·have lk:=setv_ne (a:=a) (l:=st.vars) (loc_ne q hy (fun z=>nomatch z))
   obtain ⟨c,e1,e2⟩:=hF.cells y hy
   refine ⟨c,e1,e2.imp (fun r=>⟨r.1,fun av z=>r.2 av (lk.symm.trans z)⟩) fun r=>?_⟩
   obtain ⟨r1,r2,r3,r4,ov,hc,r5⟩:=r
   obtain ⟨oc,hoc,hdc⟩:=hc
   exact ⟨r1,r2,r3,r4,ov,⟨oc,hsb.extBut _ _ r3 hoc,hdc⟩,fun av z=>r5 av (lk.symm.trans z)⟩
 ·obtain ⟨c,e1,e2⟩:=hF.cells x q
  refine e2.elim (fun r=>absurd r.1 hz) fun r=>?_
  obtain ⟨r1,r2,r3,r4,ov,hcell,r5⟩:=r
  refine wpAny_storeName_cell hF.kindF ((hF.kindOf x).trans q) e1 hcell fun h' hcell' hsb=>?_
  refine hq W h' _ () (Nat.le_refl _) (.refl _ _) (hS.own r2 hsb.extBut) ?_ trivial
  obtain ⟨mp,hns,hm⟩:=hF.locs
  refine ⟨hF.scope,hF.kind,hF.globals,hF.builtins,hF.frame,hF.code,hF.own,⟨mp,hns.extBut hsb.extBut (Ne.symm r3),fun y av u1 u2=>?_⟩,fun y hy=>?_,hF.free⟩
  ·exact hm y av u1 ((setv_ne (loc_ne q u1 (fun z=>nomatch z))).symm.trans u2)
  ·by_cases z:y=x
   ·exact ⟨c,z ▸ e1,.inr ⟨z ▸ r1,r2,r3,z ▸ r4,some v,hcell',fun av z'=>⟨v,rfl,Option.some.inj (setv_self.symm.trans (z ▸ z')) ▸ hv _ _ hc⟩⟩⟩
   ·obtain ⟨c',e1',e2'⟩:=hF.cells y hy
    have lk:=setv_ne (a:=a) (l:=st.vars) z
    refine ⟨c',e1',e2'.imp (fun r=>⟨r.1,fun av z=>r.2 av (lk.symm.trans z)⟩) fun r=>?_⟩
    obtain ⟨t1,t2,t3,t4,ov',hc,t5⟩:=r
    obtain ⟨oc,hoc,hdc⟩:=hc
    exact ⟨t1,t2,t3,t4,ov',⟨oc,hsb.extBut _ _ (r4 y c' z hy e1') hoc,hdc⟩,fun av z=>t5 av (lk.symm.trans z)⟩
theorem Act.use {β:Type} {C':Wd->Prop} {t:Wd->Sem β->Prop} {m':Nat->MO} {nx':Nat} {P:Wd->β->Prop} {st:St} (h:Act prog w K btab k C' t st.m st.nx m' nx' P) (hP:∀ W R b,P W b->P { W with R:=R } b)
  {W:Wd} {A:Around} {env:Env} {s:Shared} {Q:β->Shared->Prop} {E:Value->Shared->Prop} {tr:Sem β} (hA:AOK k A) (hS:SInv prog w K btab W st.m st.nx s.heap) (hF:FInv W φ env st s.heap)
  (hC:C' (W.shut st.m st.nx s.heap)) (ht:t (W.shut st.m st.nx s.heap) tr)
  (hq:∀ W' h' tk' b,st.nx<=nx'->Wd.le st.nx W W'->SInv prog w K btab W' m' nx' h'->FInv W' φ env { st with m:=m',nx:=nx' } h'->P W' b->Q b { s with heap:=h',toks:=tk' }) :
  wpAny (model prog w) A tr Q E s:=by
 refine h _ A s tr Q E hA hS.shut hC ht fun W' h' tk' b n l S' p=>?_
 obtain ⟨S'',l',c⟩:=SInv.unshut l S'
 exact hq _ h' tk' b n l' S'' (hF.carry n l' c) (hP _ _ _ p)
theorem VA.shut {W:Wd} {m:Nat->MO} {nx nx':Nat} {h:Heap} {a:AV} {v:Value} (x:VA W nx' a v):VA (W.shut m nx h) nx' a v:=x.R
theorem VAs.R {W:Wd} {R:BM} {nx:Nat} {as:List AV} {vs:List Value} (h:VAs W nx as vs):VAs { W with R:=R } nx as vs:=
 VAs.rec (motive:=fun as vs _=>VAs { W with R:=R } nx as vs) .nil (fun h _ r=>.cons h.R r) h
theorem gVal_inv {P:(Nat->MO)->Nat->AV->(Nat->MO)->Nat->Prop} {a:AV} {st st':St} {sc sc':List Ev} {ob:List Prop} {R:AV->St->Prop} (e:gVal P st sc=some (a,st',sc',ob)) (hob:∀ p ∈ ob,p)
  (h:∀ a m' nx',P st.m st.nx a m' nx'->R a { st with m:=m',nx:=nx' }):R a st':=by
 cases sc with
 | nil=>exact ns e
 | cons x r=>cases x with
  | val b m n=>exact j4 e ▸ i4 e ▸ h b m n (hob _ (o4 e ▸ .head _))
  | _=>exact ns e
theorem snd_val {β:Type} {P:(Nat->MO)->Nat->AV->(Nat->MO)->Nat->Prop} {t:Env->Sem β} {R:AV->β->Wd->Nat->Prop}
  (h:∀ (st:St) (a:AV) (m':Nat->MO) (nx':Nat),P st.m st.nx a m' nx'->Tri prog w K btab k φ C t st { st with m:=m',nx:=nx' } (fun W' b=>R a b W' nx')) :
  Snd prog w K btab k φ C (gVal P) t R:=by
 intro st sc a st' sc' ob e hob
 exact gVal_inv (R:=fun a st'=>Tri prog w K btab k φ C t st st' (fun W' b=>R a b W' st'.nx)) e hob fun a m' nx'=>h st a m' nx'
theorem bind_inv {α β:Type} {g:G α} {f:α->G β} {a:β} {st st':St} {sc sc':List Ev} {ob:List Prop} {P:Prop} (e:G.bind g f st sc=some (a,st',sc',ob))
  (h:∀ x st1 sc1 o1 o2,g st sc=some (x,st1,sc1,o1)->f x st1 sc1=some (a,st',sc',o2)->o1 ++ o2=ob->P):P:=by
 revert e
 unfold G.bind
 cases q:g st sc with
 | none=>exact fun e=>ns e
 | some y=>
  dsimp only
  cases r:f y.1 y.2.1 y.2.2.1 with
  | none=>exact fun e=>ns e
  | some z=>exact fun e=>h _ _ _ _ _ q (r.trans (by cases e; rfl)) (by cases e; rfl)
theorem snd_ob {α β:Type} {p:Prop} {g:G α} {t:Env->Sem β} {R:α->β->Wd->Nat->Prop} (h:p->Snd prog w K btab k φ C g t R):Snd prog w K btab k φ C (do gOb p; g) t R:=by
 intro st sc a st' sc' ob e hob
 refine bind_inv e fun x s1 c1 o1 o2 e1 e2 eo=>?_
 cases e1
 exact h (hob _ (eo ▸ .head _)) _ _ _ _ _ _ e2 fun q hq=>hob q (eo ▸ .tail _ hq)
end
section
set_option backward.match.sparseCases false
section
variable {prog:Program} {w:World} {K:Frag} {btab:List (Str × Value)} {k:Nat} {φ:Fm} {C:Wd->Nat->Prop}
theorem snd_plain {β:Type} {a:AV} {t:Env->Sem β} {R:AV->β->Wd->Nat->Prop}
  (h:∀ W nx,C W nx->∀ (A:Around) (env:Env) (s:Shared) (Q:β->Shared->Prop) (E:Value->Shared->Prop),(∀ b tk,R a b W nx->Q b { s with toks:=tk })->wpAny (model prog w) A (t env) Q E s) :
  Snd prog w K btab k φ C (pure a) t R:=by
 intro st sc a' st' sc' ob e hob W A env s Q E hA hS hF hc hq
 cases e
 exact h W st.nx hc A env s Q E fun b tk r=>hq W s.heap tk b (Nat.le_refl _) (.refl _ _) hS hF r
theorem va_int {W:Wd} {nx:Nat} {i:Int} {v:Value} (h:VA W nx (.d (.int i)) v):∃ t,v=.int i t:=by cases h with | d h=>cases h; exact ⟨_,rfl⟩
theorem va_str {W:Wd} {nx:Nat} {i:Str} {v:Value} (h:VA W nx (.d (.str i)) v):∃ t,v=.str i t:=by cases h with | d h=>cases h; exact ⟨_,rfl⟩
theorem va_bool {W:Wd} {nx:Nat} {i:Bool} {v:Value} (h:VA W nx (.d (.bool i)) v):v=.bool i:=by cases h with | d h=>cases h; rfl
theorem va_none {W:Wd} {nx:Nat} {v:Value} (h:VA W nx (.d .none) v):v=.none:=by cases h with | d h=>cases h; rfl
theorem fdiv_pos (i j:Int) (h:0 < j):i.fdiv j=i / j:=Int.fdiv_eq_ediv_of_nonneg i (Int.le_of_lt h)
theorem fmod_pos (i j:Int) (h:0 < j):i.fmod j=i % j:=Int.fmod_eq_emod_of_nonneg i (Int.le_of_lt h)
theorem intOf_is {a:AV} {i:Int} (e:intOf a=some i):a=.d (.int i):=by
 induction a using AV.casesOn with
 | d x=>induction x using D.casesOn with
  | int n=>exact congrArg (fun n=>AV.d (.int n)) (Option.some.inj e)
  | _=>cases e
 | _=>cases e
theorem strOf_is {a:AV} {i:Str} (e:strOf a=some i):a=.d (.str i):=by
 induction a using AV.casesOn with
 | d x=>induction x using D.casesOn with
  | str n=>exact congrArg (fun n=>AV.d (.str n)) (Option.some.inj e)
  | _=>cases e
 | _=>cases e
theorem snd_ii {a b:AV} {va vb:Value} {i j:Int} {r:D} {f:Value->Value->Sem Value} (ei:intOf a=some i) (ej:intOf b=some j) (ha:∀ W nx,C W nx->VA W nx a va) (hb:∀ W nx,C W nx->VA W nx b vb)
  (h:∀ (t u:Tok) (A:Around) (s:Shared) (Q:Value->Shared->Prop) (E:Value->Shared->Prop),(∀ v tk,(∀ B,VD B r v)->Q v { s with toks:=tk })->wpAny (model prog w) A (f (.int i t) (.int j u)) Q E s) :
  Snd prog w K btab k φ C (pure (.d r)) (fun _=>f va vb) RV:=by
 cases intOf_is ei
 cases intOf_is ej
 refine snd_plain fun W nx c A env s Q E q=>?_
 obtain ⟨t,rfl⟩:=va_int (ha _ _ c)
 obtain ⟨u,rfl⟩:=va_int (hb _ _ c)
 exact h t u A s Q E fun v tk p=>q v tk (.d (p _))
theorem snd_ss {a b:AV} {va vb:Value} {i j:Str} {r:D} {f:Value->Value->Sem Value} (ei:strOf a=some i) (ej:strOf b=some j) (ha:∀ W nx,C W nx->VA W nx a va) (hb:∀ W nx,C W nx->VA W nx b vb)
  (h:∀ (t u:Tok) (A:Around) (s:Shared) (Q:Value->Shared->Prop) (E:Value->Shared->Prop),(∀ v tk,(∀ B,VD B r v)->Q v { s with toks:=tk })->wpAny (model prog w) A (f (.str i t) (.str j u)) Q E s) :
  Snd prog w K btab k φ C (pure (.d r)) (fun _=>f va vb) RV:=by
 cases strOf_is ei
 cases strOf_is ej
 refine snd_plain fun W nx c A env s Q E q=>?_
 obtain ⟨t,rfl⟩:=va_str (ha _ _ c)
 obtain ⟨u,rfl⟩:=va_str (hb _ _ c)
 exact h t u A s Q E fun v tk p=>q v tk (.d (p _))
noncomputable abbrev opOf (g:Bool):Operator->Value->Value->Sem Value:=if g then inplaceOp else binaryOp
theorem opOf_eq (g:Bool) (op:Operator) (va vb:Value):opOf g op va vb=(if g then inplaceOp op va vb else binaryOp op va vb):=by induction g using Bool.casesOn <;> rfl
theorem snd_binV {g:Bool} {op:Operator} {a b:AV} {va vb:Value} (ha:∀ W nx,C W nx->VA W nx a va) (hb:∀ W nx,C W nx->VA W nx b vb) :
  Snd prog w K btab k φ C (gBinV prog w K btab k g op a b) (fun _=>opOf g op va vb) RV:=
 snd_val fun _ _ _ _ hP _ _ _ _ _ _ hA hS hF hc hq=>Act.use hP (fun _ _ _ x=>x.R) hA hS hF trivial ⟨va,vb,(ha _ _ hc).shut,(hb _ _ hc).shut,opOf_eq g op va vb⟩ hq
theorem snd_binI {g:Bool} {op:Operator} {a b:AV} {va vb:Value} {i j:Int} (ei:intOf a=some i) (ej:intOf b=some j) (ha:∀ W nx,C W nx->VA W nx a va) (hb:∀ W nx,C W nx->VA W nx b vb) :
  Snd prog w K btab k φ C (gBinI prog w K btab k g op a b i j) (fun _=>opOf g op va vb) RV:=by
 cases op with
 | Add=>
  refine snd_ii ei ej ha hb fun t u A s Q E q=>?_
  cases g
  ·exact P.add_int (q _ _ fun _=>.int _ _)
  ·exact P.iadd_int (q _ _ fun _=>.int _ _)
 | Sub=>
  refine snd_ii ei ej ha hb fun t u A s Q E q=>?_
  cases g
  ·exact P.sub_int (q _ _ fun _=>.int _ _)
  ·exact P.isub_int (q _ _ fun _=>.int _ _)
 | FloorDiv=>
  refine snd_ob fun hj=>snd_ii ei ej ha hb fun t u A s Q E q=>?_
  have np:Builtin.divisionGoesByPylong i j=false:=PyProof.noPylong_small (by omega)
  have h0:j ≠ 0:=by omega
  rw [<- fdiv_pos i j hj.1] at q
  cases g
  ·exact PyProof.Rows.floordiv_int h0 (q _ _ fun _=>.int _ _) (.inl np)
  ·exact PyProof.Rows.ifloordiv_int h0 (q _ _ fun _=>.int _ _) (.inl np)
 | Mod=>
  refine snd_ob fun hj=>snd_ii ei ej ha hb fun t u A s Q E q=>?_
  have h0:j ≠ 0:=by omega
  rw [<- fmod_pos i j hj] at q
  cases g
  ·exact PyProof.Rows.mod_int' h0 (q _ _ fun _=>.int _ _)
  ·exact PyProof.Rows.imod_int h0 (q _ _ fun _=>.int _ _)
 | _=>exact snd_binV ha hb
theorem snd_bin {g:Bool} {op:Operator} {a b:AV} {va vb:Value} (ha:∀ W nx,C W nx->VA W nx a va) (hb:∀ W nx,C W nx->VA W nx b vb) :
  Snd prog w K btab k φ C (gBin prog w K btab k g op a b) (fun _=>opOf g op va vb) RV:=by
 unfold gBin
 cases ei:intOf a with
 | none=>exact snd_binV ha hb
 | some i=>
  cases ej:intOf b with
  | none=>exact snd_binV ha hb
  | some j=>exact snd_binI ei ej ha hb
theorem snd_cmpV {op:CmpOp} {a b:AV} {va vb:Value} (ha:∀ W nx,C W nx->VA W nx a va) (hb:∀ W nx,C W nx->VA W nx b vb) :
  Snd prog w K btab k φ C (gCmpV prog w K btab k op a b) (fun _=>compareOp op va vb) RV:=by
 refine snd_val fun st r m' nx' hP W A env s Q E hA hS hF hc hq=>?_
 induction r using AV.casesOn with
 | d r=>
  induction r using D.casesOn with
  | bool c=>exact Act.use hP (fun _ _ _ x=>x) hA hS hF trivial ⟨va,vb,(ha _ _ hc).shut,(hb _ _ hc).shut,rfl⟩ fun W' h' tk' b n l S' F' p=>hq W' h' tk' b n l S' F' (p ▸ .d (.bool _))
  | _=>exact hP.elim
 | _=>exact hP.elim
theorem snd_cmpI {op:CmpOp} {a b:AV} {va vb:Value} {i j:Int} (ei:intOf a=some i) (ej:intOf b=some j) (ha:∀ W nx,C W nx->VA W nx a va) (hb:∀ W nx,C W nx->VA W nx b vb) :
  Snd prog w K btab k φ C (gCmpI prog w K btab k op a b i j) (fun _=>compareOp op va vb) RV:=by
 induction op using PySem.CmpOp.casesOn with
 | Lt=>exact snd_ii ei ej ha hb fun t u A s Q E q=>P.lt_int (q _ _ fun _=>.bool _)
 | GtE=>exact snd_ii ei ej ha hb fun t u A s Q E q=>P.ge_int (q _ _ fun _=>.bool _)
 | Eq=>exact snd_ii ei ej ha hb fun t u A s Q E q=>P.eq_int (q _ _ fun _=>.bool _)
 | NotEq=>exact snd_ii ei ej ha hb fun t u A s Q E q=>P.ne_int (q _ _ fun _=>.bool _)
 | _=>exact snd_cmpV ha hb
theorem str_beqD (x y:Str):(x.cps.toList == y.cps.toList)=decide (x=y):=by rw [SeqAt.str_beq]; rfl
theorem snd_cmpS {op:CmpOp} {a b:AV} {va vb:Value} {i j:Str} (ei:strOf a=some i) (ej:strOf b=some j) (ha:∀ W nx,C W nx->VA W nx a va) (hb:∀ W nx,C W nx->VA W nx b vb) :
  Snd prog w K btab k φ C (gCmpS prog w K btab k op a b i j) (fun _=>compareOp op va vb) RV:=by
 induction op using PySem.CmpOp.casesOn with
 | Eq=>exact snd_ss ei ej ha hb fun t u A s Q E q=>P.eq_str (str_beqD i j ▸ q _ _ fun _=>.bool _)
 | NotEq=>exact snd_ss ei ej ha hb fun t u A s Q E q=>P.ne_str (by unfold bne; rw [str_beqD]; exact q _ _ fun _=>.bool _)
 | _=>exact snd_cmpV ha hb
theorem snd_cmp {op:CmpOp} {a b:AV} {va vb:Value} (ha:∀ W nx,C W nx->VA W nx a va) (hb:∀ W nx,C W nx->VA W nx b vb) :
  Snd prog w K btab k φ C (gCmp prog w K btab k op a b) (fun _=>compareOp op va vb) RV:=by
 have rest:Snd prog w K btab k φ C (match strOf a,strOf b with | some i,some j=>gCmpS prog w K btab k op a b i j | _,_=>gCmpV prog w K btab k op a b) (fun _=>compareOp op va vb) RV:=by
  cases ei:strOf a with
  | none=>exact snd_cmpV ha hb
  | some i=>
   cases ej:strOf b with
   | none=>exact snd_cmpV ha hb
   | some j=>exact snd_cmpS ei ej ha hb
 unfold gCmp
 cases ei:intOf a with
 | none=>exact rest
 | some i=>
  cases ej:intOf b with
  | none=>exact rest
  | some j=>exact snd_cmpI ei ej ha hb
theorem snd_truthV {a:AV} {va:Value} (ha:∀ W nx,C W nx->VA W nx a va):Snd prog w K btab k φ C (gTruth prog w K btab k a) (fun _=>truthy va) RB:=by
 intro st sc c st' sc' ob e hob W A env s Q E hA hS hF hc hq
 induction sc using List.casesOn with
 | nil=>cases e
 | cons v r=>
  induction v using Ev.casesOn with
  | br d=>
   cases e
   exact Act.use (hob _ (.head _)) (fun W R b x=>x) hA hS hF trivial ⟨va,(ha _ _ hc).shut,rfl⟩ fun W' h' tk' b n l S' F' p=>hq W' h' tk' b n l S' F' p.symm
  | _=>cases e
theorem snd_truth {a:AV} {va:Value} (ha:∀ W nx,C W nx->VA W nx a va):Snd prog w K btab k φ C (gTrue prog w K btab k a) (fun _=>truthy va) RB:=by
 induction a using AV.casesOn with
 | d x=>
  induction x using D.casesOn with
  | bool b=>
   intro st sc c st' sc' ob e hob W A env s Q E hA hS hF hc hq
   induction sc using List.casesOn with
   | nil=>cases e
   | cons v r=>
    induction v using Ev.casesOn with
    | br d=>
     cases e
     cases va_bool (ha _ _ hc)
     exact wpAny_truthy_bool (hq W s.heap s.toks _ (Nat.le_refl _) (.refl _ _) hS hF (hob _ (.head _)).symm)
    | _=>cases e
  | none=>
   intro st sc c st' sc' ob e hob W A env s Q E hA hS hF hc hq
   cases e
   cases va_none (ha _ _ hc)
   exact wpAny_pure (hq W s.heap s.toks false (Nat.le_refl _) (.refl _ _) hS hF rfl)
  | _=>exact snd_truthV ha
 | _=>exact snd_truthV ha
end
end
structure EnvOK (φ:Fm) (env:Env):Prop where
 scope:env.scope=φ.sc
 kind:φ.sc.kind=.function
 globals:env.globals=mainGlobals
 builtins:env.builtins=builtinsNs
noncomputable abbrev RVs:List AV->List Value->Wd->Nat->Prop:=fun as vs W nx=>VAs W nx as vs
theorem Mono.vas (as:List AV) (vs:List Value):Mono fun W nx=>VAs W nx as vs:=fun _ _ _ _ hn hl h=>h.mono hn hl
section
variable {prog:Program} {w:World} {K:Frag} {btab:List (Str × Value)} {k:Nat} {φ:Fm}
theorem FInv.envOK {W:Wd} {env:Env} {st:St} {h:Heap} (F:FInv W φ env st h):EnvOK φ env:=⟨F.scope,F.kind,F.globals,F.builtins⟩
theorem bind_some {α β:Type} {g:G α} {f:α->G β} {st:St} {sc:List Ev} {b:β} {st':St} {sc':List Ev} {ob:List Prop} (e:(g >>= f) st sc=some (b,st',sc',ob)) :
  (Ex5 fun a st1 sc1 ob1 ob2=>A3 (g st sc=some (a,st1,sc1,ob1)) (f a st1 sc1=some (b,st',sc',ob2)) (ob=ob1 ++ ob2)):=
 bind_inv e fun a s1 c1 o1 o2 e1 e2 eo=>⟨a,s1,c1,o1,o2,e1,e2,eo.symm⟩
theorem Snd.cps {α α' β β':Type} {C:Wd->Nat->Prop} {g:G α} {f:α->G α'} {t1:Env->Sem β} {t2:β->Env->Sem β'} {t:Env->Sem β'} {R:α->β->Wd->Nat->Prop} {R':α'->β'->Wd->Nat->Prop} (hC:Mono C)
  (h1:Snd prog w K btab k φ C g t1 R) (h2:∀ a b,Snd prog w K btab k φ (fun W nx=>C W nx /\ R a b W nx) (f a) (t2 b) R')
  (ht:∀ (A:Around) (env:Env) (Q:β'->Shared->Prop) (E:Value->Shared->Prop) (s:Shared),EnvOK φ env->wpAny (model prog w) A (t1 env) (fun b s'=>wpAny (model prog w) A (t2 b env) Q E s') E s->wpAny (model prog w) A (t env) Q E s) :
  Snd prog w K btab k φ C (g >>= f) t R':=by
 intro st sc a' st' sc' ob e hob W A env s Q E hA hS hF hc hq
 obtain ⟨a,st1,sc1,ob1,ob2,e1,e2,rfl⟩:=bind_some e
 have T1:=h1 _ _ _ _ _ _ e1 fun p hp=>hob p (List.mem_append.mpr (.inl hp))
 have T2:=fun b=>h2 a b _ _ _ _ _ _ e2 fun p hp=>hob p (List.mem_append.mpr (.inr hp))
 refine ht A env Q E s hF.envOK (T1 W A env s _ E hA hS hF hc fun W1 hp1 tk1 b n1 l1 S1 F1 R1=>?_)
 refine T2 b W1 A env _ Q E hA S1 F1 ⟨hC _ _ _ _ n1 l1 hc,R1⟩ fun W2 hp2 tk2 c n2 l2 S2 F2 R2=>?_
 exact hq W2 hp2 tk2 c (Nat.le_trans n1 n2) (l1.trans n1 l2) S2 F2 R2
theorem Snd.pureV {α β:Type} {C:Wd->Nat->Prop} {a:α} {b:β} {R:α->β->Wd->Nat->Prop} (h:∀ W nx,C W nx->R a b W nx):Snd prog w K btab k φ C (pure a) (fun _=>pure b) R:=Snd.ret h
set_option tactic.hygienic true in
theorem base_call (f a:PySem.Expr) (r:List PySem.Expr) (kws:List Keyword) (pos:Pos) (attr:Str) (env:Env) (whole:Sem Value):attributeBase (.Call f (a :: r) kws pos) attr env whole=whole:=by
 induction f using PySem.Expr.casesOn <;> rfl
set_option tactic.hygienic true in
theorem base_name (f:PySem.Expr) (kws:List Keyword) (pos:Pos) (h:notSuper f=true) (attr:Str) (env:Env) (whole:Sem Value):attributeBase (.Call f [] kws pos) attr env whole=whole:=by
 induction f using PySem.Expr.casesOn with
 | Name x p=>
  cases kws with
  | nil=>
   have h:(x != ("super" : Str))=true:=h
   unfold attributeBase
   simp only [h,Bool.true_or,if_true]
  | cons a r=>rfl
 | _=>exact Internal.ft h
theorem base_calls (f:PySem.Expr) (kws:List Keyword) (pos:Pos):∀ as:List PySem.Expr,baseOk (.Call f as kws pos)=true->∀ (attr:Str) (env:Env) (whole:Sem Value),attributeBase (.Call f as kws pos) attr env whole=whole
 | [],h=>base_name f kws pos h
 | a :: r,_=>base_call f a r kws pos
set_option tactic.hygienic true in
theorem baseOk_is {o:PySem.Expr}:baseOk o=true->∀ (attr:Str) (env:Env) (whole:Sem Value),attributeBase o attr env whole=whole:=by
 induction o using PySem.Expr.casesOn <;> first | exact fun _ _ _ _=>rfl | exact base_calls _ _ _ _
theorem starEach_cons {e:PySem.Expr} {r:List PySem.Expr} (env:Env) (h:starFree (e :: r)=true):starEach (e :: r) env=(false,eval e env) :: starEach r env /\ starFree r=true:=by
 induction e using PySem.Expr.casesOn <;> first | exact ⟨rfl,h⟩ | cases h
theorem starEach_any {es:List PySem.Expr} {env:Env} {pos:Pos} (h:starFree es=true):(backTo pos (starEach es env)).any (·.1)=false:=by
 induction es with
 | nil=>rfl
 | cons e r ih=>
  obtain ⟨h1,h2⟩:=starEach_cons env h
  rw [h1]
  show ((false || (backTo pos (starEach r env)).any (·.1)))=false
  rw [ih h2]; rfl
theorem kwNames_cons {n:Str} {v:PySem.Expr} {p:Pos} {r:List Keyword}:kwNames (⟨some n,v,p⟩ :: r)=(kwNames r).map (n :: ·):=by kernel_rfl
theorem kwNames_spec {kws:List Keyword} {ns:List Str} (h:kwNames kws=some ns) (env:Env) (pos:Pos) :
  (backToKw pos (keywordEach kws env)).all (·.1.isSome)=true /\ (backToKw pos (keywordEach kws env)).any (·.1.isNone)=false /\ (backToKw pos (keywordEach kws env)).filterMap (·.1)=ns /\ ns.length=kws.length:=by
 induction kws generalizing ns with
 | nil=>cases h; exact ⟨rfl,rfl,rfl,rfl⟩
 | cons x r ih=>
  obtain ⟨nm,v,p⟩:=x
  induction nm using Option.casesOn with
  | none=>cases h
  | some n=>
   obtain ⟨l,hl,e⟩:=Option.map_eq_some_iff.mp (kwNames_cons.symm.trans h)
   obtain ⟨a,b,c,d⟩:=ih hl
   exact e ▸ ⟨a,b,congrArg (n :: ·) c,congrArg (· + 1) d⟩
theorem gFzLoc_inv {n:Nat} {a:AV} {st st':St} {sc sc':List Ev} {ob:List Prop} {R:AV->St->Prop} (e:gFzLoc n st sc=some (a,st',sc',ob)) (hob:∀ p ∈ ob,p)
  (h1:∀ l,st.m n=.list l->n < st.nx->R (.d (.lst l)) { st with m:=upd st.m n .junk }) (h2:R (.loc n) st):R a st':=by
 cases sc with
 | nil=>exact Internal.ns e
 | cons x r=>cases x with
  | mo o=>cases o with
   | list l=>exact j4 e ▸ i4 e ▸ h1 l (hob _ (o4 e ▸ .head _)) (hob _ (o4 e ▸ .tail _ (.head _)))
   | junk=>exact j4 e ▸ i4 e ▸ h2
   | _=>exact Internal.ns e
  | _=>exact Internal.ns e
theorem va_loc {W:Wd} {nx n:Nat} {v:Value} (h:VA W nx (.loc n) v):v=.ref (W.ι n):=by cases h; rfl
theorem snd_ghost {a:AV} {v:Value} {C:Wd->Nat->Prop} (hv:∀ W nx,C W nx->VA W nx a v):Snd prog w K btab k φ C (gFz a) (fun _=>pure v) RV:=by
 induction a using AV.casesOn with
 | loc n=>
  intro st sc c st' sc' ob e hob
  refine gFzLoc_inv (R:=fun c st'=>Tri prog w K btab k φ C (fun _=>pure v) st st' fun W' b=>VA W' st'.nx c b) e hob (fun l h1 h2 W A env s Q E hA hS hF hc hq=>?_) fun W A env s Q E hA hS hF hc hq=>wpAny_pure (hq _ s.heap s.toks _ (Nat.le_refl _) (.refl _ _) hS hF (hv _ _ hc))
  have y:=hS.obj n h2
  rw [h1] at y
  obtain ⟨vs,nn,ho,hvs⟩:=y
  obtain ⟨S',l',c'⟩:=hS.still h2 (h1 ▸ fun q=>by cases q) ho
  rw [va_loc (hv _ _ hc)]
  exact wpAny_pure (hq _ s.heap s.toks _ (Nat.le_refl _) l' S' (hF.carry (Nat.le_refl _) l' c') (.d (.lst (freeze_at _ _ _) (hvs.mono l'.B))))
 | _=>exact Snd.ret (R:=RV) hv
theorem snd_ghosts:∀ {as:List AV} {vs:List Value} {C:Wd->Nat->Prop},Mono C->(∀ W nx,C W nx->VAs W nx as vs)->Snd prog w K btab k φ C (gFzs as) (fun _=>pure vs) RVs
 | [],vs,C,hC,hv=>by
  intro st sc c st' sc' ob e hob W A env s Q E hA hS hF hc hq
  cases e
  have z:=hv _ _ hc
  cases z
  exact wpAny_pure (hq _ s.heap s.toks _ (Nat.le_refl _) (.refl _ _) hS hF .nil)
 | a :: as,[],C,hC,hv=>by
  intro st sc c st' sc' ob e hob W A env s Q E hA hS hF hc hq
  have z:=hv _ _ hc
  cases z
 | a :: as,v :: vs,C,hC,hv=>by
  unfold gFzs
  refine Snd.cps (t1:=fun _=>pure v) (t2:=fun v' _=>pure vs >>= fun vs'=>pure (v' :: vs')) hC (snd_ghost fun W nx c=>by cases hv W nx c with | cons h _=>exact h) (fun a' v'=>?_) fun A env Q E s _ h=>?_
  ·refine Snd.bind (hC.and (Mono.va _ _)) (snd_ghosts (vs:=vs) (hC.and (Mono.va _ _)) fun W nx c=>by cases hv W nx c.1 with | cons _ r=>exact r) fun as' vs'=>?_
   exact Snd.pureV fun W nx c=>.cons c.1.2 c.2
  ·exact fun Γ p hΓ=>h Γ p hΓ Γ p hΓ
theorem asD_cons {x:D} {r:List AV}:asD (.d x :: r)=(asD r).map (x :: ·):=by kernel_rfl
theorem asD_va {W:Wd} {nx:Nat}:∀ {as:List AV} {l:List D} {vs:List Value},asD as=some l->VAs W nx as vs->VDs W.B l vs
 | [],_,_,e,h=>by cases e; cases h; exact .nil
 | a :: as,l,vs,e,h=>by
  cases h with
  | cons h r=>
   induction a using AV.casesOn with
   | d x=>
    obtain ⟨l',hl,e⟩:=Option.map_eq_some_iff.mp (asD_cons.symm.trans e)
    cases h with | d h=>exact e ▸ .cons h (asD_va hl r)
   | _=>cases e
theorem snd_tup {as:List AV} {vs:List Value} {C:Wd->Nat->Prop} (hv:∀ W nx,C W nx->VAs W nx as vs):Snd prog w K btab k φ C (gTup as) (fun _=>newTuple vs) RV:=by
 unfold gTup
 cases hl:asD as with
 | some l=>
  refine snd_ob fun hlen=>?_
  intro st sc c st' sc' ob e hob W A env s Q E hA hS hF hc hq
  cases e
  have hd:=asD_va hl (hv _ _ hc)
  refine wpAny_newTuple ?_ (by rw [sizeLine_eq,hd.length]; omega)
  obtain ⟨S',l',c'⟩:=hS.alloc (o:={ cls:=.type "tuple",data:=.seq vs.toArray }) rfl
  exact hq _ _ s.toks _ (Nat.le_refl _) l' S' (hF.carry (Nat.le_refl _) l' c') (.d (.tup (freeze_at _ _ _) (hd.mono l'.B)))
 | none=>exact Snd.fail
theorem snd_new {C:Wd->Nat->Prop} {β:Type} {mo:MO} {t:Env->Sem Value} (f:Value->β)
  (h:∀ (st:St) (W:Wd) (A:Around) (env:Env) (s:Shared) (Q:Value->Shared->Prop) (E:Value->Shared->Prop),SInv prog w K btab W st.m st.nx s.heap->C W st.nx ->
   (∀ o tk,MOat prog w (W.lay st.nx s.heap.objs.size) (st.nx+1) mo s.heap.objs.size (s.heap.push o)->Q (.ref s.heap.objs.size) { s with heap:=s.heap.push o,toks:=tk })->wpAny (model prog w) A (t env) Q E s) :
  Snd prog w K btab k φ C (gNew mo) t RV:=by
 intro st sc c st' sc' ob e hob W A env s Q E hA hS hF hc hq
 cases e
 refine h st W A env s Q E hS hc fun o tk ho=>?_
 obtain ⟨S',l',c'⟩:=hS.new ho
 refine hq _ _ tk _ (Nat.le_succ _) l' S' (hF.carry (Nat.le_succ _) l' c') ?_
 have:(W.lay st.nx s.heap.objs.size).ι st.nx=s.heap.objs.size:=upd_at _ _ _
 have z:=VA.loc (W:=W.lay st.nx s.heap.objs.size) (nx:=st.nx+1) (n:=st.nx) (Nat.lt_succ_self _)
 rw [this] at z
 exact z
theorem gPick_inv {b:Bool} {st st':St} {sc sc':List Ev} {ob:List Prop} (e:gPick st sc=some (b,st',sc',ob)):st'=st:=by
 cases sc with
 | nil=>exact ns e
 | cons x r=>cases x with
  | br c=>exact j4 e
  | _=>exact ns e
theorem snd_lst {as:List AV} {vs:List Value} {C:Wd->Nat->Prop} (hv:∀ W nx,C W nx->VAs W nx as vs):Snd prog w K btab k φ C (gLst as) (fun _=>newList vs) RV:=by
 unfold gLst
 cases hl:asD as with
 | some l=>
  refine snd_ob fun hlen=>?_
  intro st sc c st' sc' ob e hob
  refine bind_inv e fun b st1 sc1 ob1 ob2 e1 e2 eo=>?_
  obtain rfl:=gPick_inv e1
  have hob2:∀ p ∈ ob2,p:=fun p hp=>hob p (eo ▸ List.mem_append.mpr (.inr hp))
  have len:∀ {W:Wd} {nx:Nat},C W nx->vs.length<=sizeLine:=fun c=>by rw [sizeLine_eq,(asD_va hl (hv _ _ c)).length]; omega
  induction b using Bool.casesOn with
  | true=>
   refine snd_new (prog:=prog) (w:=w) (K:=K) (btab:=btab) (k:=k) (φ:=φ) (C:=C) (mo:=.list l) (t:=fun _=>newList vs) id (fun st W A env s Q E hS hc q=>?_) _ _ _ _ _ _ e2 hob2
   have hd:=asD_va hl (hv _ _ hc)
   exact wpAny_newList (q _ s.toks ⟨vs,0,Heap.get?_push_size _ rfl,hd⟩) (len hc)
  | false=>
   intro W A env s Q E hA hS hF hc hq
   cases e2
   refine wpAny_newList ?_ (len hc)
   obtain ⟨S',l',c'⟩:=hS.alloc (o:={ cls:=.type "list",data:=.seq vs.toArray }) rfl
   exact hq _ _ s.toks _ (Nat.le_refl _) l' S' (hF.carry (Nat.le_refl _) l' c') (.d (.lst (freeze_at _ _ _) ((asD_va hl (hv _ _ hc)).mono l'.B)))
 | none=>exact Snd.fail
end
noncomputable abbrev PT (β:Type):=Around->(β->Shared->Prop)->(Value->Shared->Prop)->Shared->Prop
section
variable (prog:Program) (w:World) (K:Frag) (btab:List (Str × Value))
noncomputable abbrev Lf {β:Type} (tr:Sem β):PT β:=fun A Q E s=>wpAny (model prog w) A tr Q E s
noncomputable def SndT {α β:Type} (k:Nat) (φ:Fm) (C:Wd->Nat->Prop) (g:G α) (t:Env->PT β) (R:α->β->Wd->Nat->Prop):Prop:=
 ∀ st sc a st' sc' ob,g st sc=some (a,st',sc',ob)->(∀ p ∈ ob,p)->∀ (W:Wd) (A:Around) (env:Env) (s:Shared) (Q:β->Shared->Prop) (E:Value->Shared->Prop),
  AOK k A->SInv prog w K btab W st.m st.nx s.heap->FInv W φ env st s.heap->C W st.nx ->
  (∀ W' h' tk' b,st.nx<=st'.nx->Wd.le st.nx W W'->SInv prog w K btab W' st'.m st'.nx h'->FInv W' φ env st' h'->R a b W' st'.nx->Q b { s with heap:=h',toks:=tk' }) ->
  t env A Q E s
noncomputable def callTail (f:Value) (n:Nat) (pos:List Value) (kw:List (Str × Value)):Sem Value:=do
 let r <- match <- keeperOf f,false with
  | .frame,true=>callMarked starredCall f pos kw
  | .frame,false=>if n > 30 then call f pos kw else callMarked plainCall f pos kw
  | .boundFrame,false=>if n > 30 then call f pos kw else callMarked callOfAMethodObject f pos kw
  | .machine,false=>call f pos kw
  | _,_=>operate (f :: (if false then pos.reverse else pos) ++ kw.map (·.2)) (call f pos kw)
 holding [r] point
 pure r
end
section
variable {prog:Program} {w:World} {K:Frag} {btab:List (Str × Value)} {k:Nat} {φ:Fm} {C:Wd->Nat->Prop}
theorem Snd.T {α β:Type} {g:G α} {t:Env->Sem β} {R:α->β->Wd->Nat->Prop} (h:Snd prog w K btab k φ C g t R):SndT prog w K btab k φ C g (fun env=>Lf prog w (t env)) R:=
 fun st sc a st' sc' ob e hob=>h st sc a st' sc' ob e hob
theorem SndT.cps {α α' β β':Type} {g:G α} {f:α->G α'} {t1:Env->PT β} {t2:β->Env->PT β'} {t:Env->PT β'} {R:α->β->Wd->Nat->Prop} {R':α'->β'->Wd->Nat->Prop} (hC:Mono C)
  (h1:SndT prog w K btab k φ C g t1 R) (h2:∀ a b,SndT prog w K btab k φ (fun W nx=>C W nx /\ R a b W nx) (f a) (t2 b) R')
  (ht:∀ (A:Around) (env:Env) (Q:β'->Shared->Prop) (E:Value->Shared->Prop) (s:Shared),EnvOK φ env->t1 env A (fun b s'=>t2 b env A Q E s') E s->t env A Q E s) :
  SndT prog w K btab k φ C (g >>= f) t R':=by
 intro st sc a' st' sc' ob e hob W A env s Q E hA hS hF hc hq
 obtain ⟨a,st1,sc1,ob1,ob2,e1,e2,rfl⟩:=bind_some e
 have T1:=h1 _ _ _ _ _ _ e1 fun p hp=>hob p (List.mem_append.mpr (.inl hp))
 have T2:=fun b=>h2 a b _ _ _ _ _ _ e2 fun p hp=>hob p (List.mem_append.mpr (.inr hp))
 refine ht A env Q E s hF.envOK (T1 W A env s _ E hA hS hF hc fun W1 hp1 tk1 b n1 l1 S1 F1 R1=>?_)
 refine T2 b W1 A env _ Q E hA S1 F1 ⟨hC _ _ _ _ n1 l1 hc,R1⟩ fun W2 hp2 tk2 c n2 l2 S2 F2 R2=>?_
 exact hq W2 hp2 tk2 c (Nat.le_trans n1 n2) (l1.trans n1 l2) S2 F2 R2
theorem SndT.tree {α β:Type} {g:G α} {t t':Env->PT β} {R:α->β->Wd->Nat->Prop} (h:SndT prog w K btab k φ C g t R)
  (ht:∀ (A:Around) (env:Env) (Q:β->Shared->Prop) (E:Value->Shared->Prop) (s:Shared),EnvOK φ env->t env A Q E s->t' env A Q E s):SndT prog w K btab k φ C g t' R:=by
 intro st sc a' st' sc' ob e hob W A env s Q E hA hS hF hc hq
 exact ht A env Q E s hF.envOK (h _ _ _ _ _ _ e hob W A env s Q E hA hS hF hc hq)
theorem SndT.pureV {α β:Type} {a:α} {b:β} {R:α->β->Wd->Nat->Prop} (h:∀ W nx,C W nx->R a b W nx):SndT prog w K btab k φ C (pure a) (fun _ _ Q _ s=>Q b s) R:=by
 intro st sc a' st' sc' ob e hob W A env s Q E hA hS hF hc hq
 cases e
 exact hq W s.heap s.toks b (Nat.le_refl _) (.refl _ _) hS hF (h _ _ hc)
theorem SndT.failV {α β:Type} {t:Env->PT β} {R:α->β->Wd->Nat->Prop}:SndT prog w K btab k φ C (G.fail:G α) t R:=by
 intro st sc a st' sc' ob e
 cases e
theorem callWith_tail {M:Model} {A:Around} {E:Value->Shared->Prop} {s:Shared} {pos:Pos} {f:Value} {first:List Value} {Q:Value->Shared->Prop} {args:List (Bool × Sem Value)} {keywords:List (Option Str × Sem Value)} (hplain:(args.any (·.1) || keywords.any (·.1.isNone))=false)
  (h:wpAny M A (evalArgs f true args keywords) (fun a s₁=>wpAny M A (callTail f (args.length+2 * keywords.length) (first ++ a.pos) a.kw) Q E s₁) E s):wpAny M A (callWith pos f first args keywords) Q E s:=by
 unfold callWith
 refine wpAny_bind (wpAny_holding (wpAny_mono h (fun a s₁ h₁=>wpAny_bind (wpAny_standAt ?_)) fun _ _ x=>x))
 rw [hplain]
 exact h₁
theorem callTail_of {M:Model} {A:Around} {E:Value->Shared->Prop} {s:Shared} {f:Value} {n:Nat} {Q:Value->Shared->Prop} {pos:List Value} {kw:List (Str × Value)}
  (hk:∃ k,(k=Keeper.frame \/ k=Keeper.machine \/ k=Keeper.boundFrame) /\ Looks M s.heap (keeperOf f) k) (h:wpAny M A (call f pos kw) Q E s):wpAny M A (callTail f n pos kw) Q E s:=by
 unfold callTail
 obtain ⟨k,hk',L⟩:=hk
 refine wpAny_bind (L.here ?_)
 have tail:∀ {t:Sem Value},wpAny M A t Q E s->wpAny M A (t >>= fun r=>holding [r] point >>= fun _=>pure r) Q E s:=
  fun ht=>wpAny_bind (wpAny_mono ht (fun r s₂ hr=>wpAny_bind (wpAny_holding (wpAny_point (wpAny_pure hr)))) fun _ _ x=>x)
 have marked (mk:Value):wpAny M A (callMarked mk f pos kw) Q E s:=by unfold callMarked; exact Calls.wpAny_keep h
 rcases hk' with rfl | rfl | rfl <;> dsimp only <;> first | exact tail h | (split <;> first | exact tail h | exact tail (marked _))
theorem callee_looks {M:Model} {W:Wd} {m:Nat->MO} {nx:Nat} {h:Heap} {a:AV} {f:Value} (S:SInv prog w K btab W m nx h) (hv:VA W nx a f) (hc:calleeOk K a=true) :
  ∃ k,(k=Keeper.frame \/ k=Keeper.machine \/ k=Keeper.boundFrame) /\ Looks M h (keeperOf f) k:=by
 induction a using AV.casesOn with
 | k v=>
  induction v using Value.casesOn with
  | builtin _=>cases hv; exact ⟨.machine,.inr (.inl rfl),.now⟩
  | type _=>cases hv; exact ⟨.machine,.inr (.inl rfl),.now⟩
  | ref a=>cases hv; exact keeps_K (f:=.ref a) hc h S.facts.1
  | _=>exact ft hc
 | fn _ _ _ _=>
  cases hv with
  | fn ho hcl hd=>
   refine ⟨.frame,.inl rfl,(Looks.ld (part:=none) (S.base _ _ ho)).andThen ?_⟩
   rw [hd]; exact .now
 | _=>exact ft hc
theorem snd_callTail {f:AV} {as ks:List AV} {ns:List Str} {vf:Value} {vs kvs:List Value} {n:Nat} (hc:calleeOk K f=true) (hl:ns.length=ks.length)
  (h:∀ W nx,C W nx->VA W nx f vf /\ VAs W nx as vs /\ VAs W nx ks kvs) :
  Snd prog w K btab k φ C (gVal fun m nx r m' nx'=>CallTr prog w K btab k f as (ns.zip ks) m nx r m' nx') (fun _=>callTail vf n vs (ns.zip kvs)) RV:=by
 refine snd_val fun st r m' nx' hP W A env s Q E hA hS hF hc' hq=>?_
 obtain ⟨h1,h2,h3⟩:=h _ _ hc'
 refine callTail_of (callee_looks hS h1 hc) ?_
 have e1:(ns.zip ks).map (·.2)=ks:=by rw [List.map_snd_zip]; omega
 have e2:(ns.zip ks).map (·.1)=ns:=by rw [List.map_fst_zip]; omega
 exact Act.use hP (fun W R b x=>x.R) hA hS hF trivial ⟨vf,vs,kvs,h1.shut,h2.R,by rw [e1]; exact h3.R,by rw [e2]⟩ fun W' h' tk' b n l S' F' p=>hq W' h' tk' b n l S' F' p
end
section
variable (prog:Program) (w:World) (K:Frag) (btab:List (Str × Value)) (k:Nat)
structure OKT (T:EvT):Prop where
 ev:∀ {C:Wd->Nat->Prop} (φ:Fm) (e:PySem.Expr),Mono C->SndT prog w K btab k φ C (T.ev φ e) (fun env=>Lf prog w (eval e env)) RV
 tv:∀ {C:Wd->Nat->Prop} (φ:Fm) (e:PySem.Expr),Mono C->SndT prog w K btab k φ C (T.tv φ e) (fun env=>Lf prog w (isTrue e env (eval e env))) RB
end
section
variable {prog:Program} {w:World} {K:Frag} {btab:List (Str × Value)} {k:Nat} {φ:Fm} {C:Wd->Nat->Prop} {T:EvT}
theorem snd_plainT {β:Type} {a:AV} {t:Env->PT β} {R:AV->β->Wd->Nat->Prop}
  (h:∀ W nx,C W nx->∀ (A:Around) (env:Env) (s:Shared) (Q:β->Shared->Prop) (E:Value->Shared->Prop),(∀ b tk,R a b W nx->Q b { s with toks:=tk })->t env A Q E s) :
  SndT prog w K btab k φ C (pure a) t R:=by
 intro st sc a' st' sc' ob e hob W A env s Q E hA hS hF hc hq
 cases e
 exact h W st.nx hc A env s Q E fun b tk r=>hq W s.heap tk b (Nat.le_refl _) (.refl _ _) hS hF r
theorem snd_gif {α β:Type} {b:Bool} {g h:G α} {t:Env->PT β} {R:α->β->Wd->Nat->Prop} (h1:b=true->SndT prog w K btab k φ C g t R) (h2:b=false->SndT prog w K btab k φ C h t R):SndT prog w K btab k φ C (gIf b g h) t R:=by
 cases b
 ·exact h2 rfl
 ·exact h1 rfl
theorem snd_gopt {α β γ:Type} {o:Option γ} {f:γ->G α} {h:G α} {t:Env->PT β} {R:α->β->Wd->Nat->Prop} (h1:∀ x,o=some x->SndT prog w K btab k φ C (f x) t R) (h2:o=none->SndT prog w K btab k φ C h t R):SndT prog w K btab k φ C (gOpt o f h) t R:=by
 cases o
 ·exact h2 rfl
 ·exact h1 _ rfl
theorem snd_way {α β:Type} {g:Bool->G α} {t:Bool->Env->PT β} {R:α->β->Wd->Nat->Prop} (hC:Mono C) (h:∀ b {C:Wd->Nat->Prop},Mono C->(∀ W nx,C W nx->True)->SndT prog w K btab k φ C (g b) (t b) R) (a b:Bool):SndT prog w K btab k φ (fun W nx=>C W nx /\ RB a b W nx) (g a) (t b) R:=by
 have key:a=b->SndT prog w K btab k φ (fun W nx=>C W nx /\ RB a b W nx) (g a) (t b) R:=fun e=>by
  cases e
  exact h a (hC.and fun _ _ _ _ _ _ h=>h) fun _ _ _=>trivial
 exact fun st sc x st' sc' ob e hob W A env s Q E hA hS hF hc hq=>key hc.2 st sc x st' sc' ob e hob W A env s Q E hA hS hF hc hq
noncomputable def boRest (op:BoolOp) (t:Bool) (x y:Prop):Prop:=match op,t with
 | .And,false=>x
 | .Or,true=>x
 | _,_=>y
theorem ok_evs (ih:OKT prog w K btab k T) (φ:Fm) (pos:Pos):∀ (es:List PySem.Expr) {C:Wd->Nat->Prop},Mono C->starFree es=true ->
  SndT prog w K btab k φ C (evsL (T.ev φ) es) (fun env=>Lf prog w (spliced (backTo pos (starEach es env)))) RVs:=by
 intro es
 induction es with
 | nil=>exact fun _ _=>SndT.tree (SndT.pureV (b:=[]) fun _ _ _=>.nil) fun A env Q E s _ h=>wpAny_items_nil h
 | cons e r hr=>
  intro C hC hs
  refine SndT.cps hC (ih.ev φ e hC) (t2:=fun v env A Q E s=>wpAny (model prog w) A (spliced (backTo pos (starEach r env))) (fun vs s₂=>Q (v :: vs) s₂) E s) (fun a v=>?_) fun A env Q E s _ h=>wpAny_items_cons h (starEach_cons env hs).1
  exact SndT.cps (hC.and (Mono.va _ _)) (hr (hC.and (Mono.va _ _)) (starEach_cons default hs).2) (t2:=fun vs _ _ Q _ s=>Q (v :: vs) s) (fun as vs=>SndT.pureV fun W nx c=>.cons c.1.2 c.2) fun A env Q E s _ h=>h
theorem ok_evk (ih:OKT prog w K btab k T) (φ:Fm) (pos:Pos):∀ (kws:List Keyword) (ns:List Str) {C:Wd->Nat->Prop},Mono C->kwNames kws=some ns ->
  SndT prog w K btab k φ C (evsL (T.ev φ) (kws.map (·.value))) (fun env=>Lf prog w (evalAll ((backToKw pos (keywordEach kws env)).map (·.2)))) RVs:=by
 intro kws
 induction kws with
 | nil=>exact fun _ _ _ _=>SndT.tree (SndT.pureV (b:=[]) fun _ _ _=>.nil) fun A env Q E s _ h=>kwAll_nil h
 | cons x r hr=>
  intro ns C hC hs
  obtain ⟨nm,v,p⟩:=x
  induction nm using Option.casesOn with
  | none=>cases hs
  | some nm=>
   unfold kwNames at hs
   cases hl:kwNames r with
   | none=>rw [hl] at hs; cases hs
   | some l=>
    refine SndT.cps hC (ih.ev φ v hC) (t2:=fun v env A Q E s=>wpAny (model prog w) A (evalAll ((backToKw pos (keywordEach r env)).map (·.2))) (fun vs s₂=>Q (v :: vs) s₂) E s) (fun a v=>?_) fun A env Q E s _ h=>kwAll_cons h
    exact SndT.cps (hC.and (Mono.va _ _)) (hr l (hC.and (Mono.va _ _)) hl) (t2:=fun vs _ _ Q _ s=>Q (v :: vs) s) (fun as vs=>SndT.pureV fun W nx c=>.cons c.1.2 c.2) fun A env Q E s _ h=>h
theorem ok_evo (ih:OKT prog w K btab k T) (φ:Fm) (o:Option PySem.Expr) (hC:Mono C):SndT prog w K btab k φ C (evoL (T.ev φ) o) (fun env=>Lf prog w (evalPart o env)) RV:=by
 induction o using Option.casesOn with
 | none=>exact SndT.tree (SndT.pureV (b:=.none) fun _ _ _=>.d .none) fun A env Q E s _ h=>wpAny_pure h
 | some e=>exact ih.ev φ e hC
theorem ok_tvs (ih:OKT prog w K btab k T) (φ:Fm) (op:BoolOp):∀ (xs:List PySem.Expr) {C:Wd->Nat->Prop},Mono C->SndT prog w K btab k φ C (tvsL (T.tv φ) op xs) (fun env=>Lf prog w (allTrue op xs env)) RB:=by
 intro xs
 induction xs with
 | nil=>exact fun _=>SndT.tree (SndT.pureV (b:=op == .And) fun _ _ _=>rfl) fun A env Q E s _ h=>wpAny_pure h
 | cons x r hr=>
  intro C hC
  refine SndT.cps hC (ih.tv φ x hC) (t2:=fun b env A Q E s=>boRest op b (Q b s) (wpAny (model prog w) A (allTrue op r env) Q E s)) (fun a b=>snd_way (g:=fun t=>gBool op t (pure t) (tvsL (T.tv φ) op r)) (t:=fun b env A Q E s=>boRest op b (Q b s) (wpAny (model prog w) A (allTrue op r env) Q E s)) hC (fun b _ hC _=>?_) a b) fun A env Q E s _ h=>?_
  ·cases op <;> cases b
   ·exact SndT.pureV fun W nx c=>rfl
   ·exact hr hC
   ·exact hr hC
   ·exact SndT.pureV fun W nx c=>rfl
  ·rw [arm_allTrue_cons]
   refine wpAny_bind (wpAny_mono h (fun b s₁ h₁=>?_) fun _ _ x=>x)
   cases op <;> cases b <;> first | exact wpAny_pure h₁ | exact h₁
theorem ok_if {β:Type} (ih:OKT prog w K btab k T) (φ:Fm) {t:PySem.Expr} {α:Type} {gb go:G α} {tb to:Env->PT β} {R:α->β->Wd->Nat->Prop} (hC:Mono C)
  (hb:∀ {C:Wd->Nat->Prop},Mono C->SndT prog w K btab k φ C gb tb R) (ho:∀ {C:Wd->Nat->Prop},Mono C->SndT prog w K btab k φ C go to R) {T':Env->PT β}
  (hT:∀ (A:Around) (env:Env) (Q:β->Shared->Prop) (E:Value->Shared->Prop) (s:Shared),wpAny (model prog w) A (isTrue t env (eval t env)) (fun x s'=>if x then tb env A Q E s' else to env A Q E s') E s->T' env A Q E s) :
  SndT prog w K btab k φ C (do let c <- T.tv φ t; gIf c gb go) T' R:=
 SndT.cps hC (ih.tv φ t hC) (t2:=fun x env A Q E s=>if x then tb env A Q E s else to env A Q E s) (fun a x=>snd_way (g:=fun c=>gIf c gb go) (t:=fun x env A Q E s=>if x then tb env A Q E s else to env A Q E s) hC (fun b _ hC _=>by
  cases b
  ·exact SndT.tree (ho hC) fun A env Q E s _ h=>h
  ·exact SndT.tree (hb hC) fun A env Q E s _ h=>h) a x) fun A env Q E s _ h=>hT A env Q E s h
theorem one_is {α:Type} {l:List α} {x:α} (e:one l=some x):l = [x]:=by
 induction l using List.casesOn with
 | nil=>cases e
 | cons a r=>induction r using List.casesOn with
  | nil=>exact congrArg (fun a=>[a]) (Option.some.inj e)
  | cons=>cases e
theorem two_is {α:Type} {l:List α} {x:α × α} (e:two l=some x):l = [x.1,x.2]:=by
 induction l using List.casesOn with
 | nil=>cases e
 | cons a r=>induction r using List.casesOn with
  | nil=>cases e
  | cons b r=>induction r using List.casesOn with
   | nil=>exact congrArg (fun a:α × α=>[a.1,a.2]) (Option.some.inj e)
   | cons=>cases e
theorem marks_free (op:CmpOp) {r:PySem.Expr} (h:setFree r=true):behindInMarks op r=false:=by
 induction r using PySem.Expr.casesOn <;> first | rfl | cases h
theorem ok_cmp (ih:OKT prog w K btab k T) (φ:Fm) (l:PySem.Expr) (ops:List CmpOp) (rs:List PySem.Expr) (hC:Mono C) {t:Env->PT Value}
  (ht:∀ op r,behindInMarks op r=false->ops = [op]->rs = [r]->∀ (A:Around) (env:Env) (Q:Value->Shared->Prop) (E:Value->Shared->Prop) (s:Shared),wpAny (model prog w) A (eval l env) (fun va s₁=>wpAny (model prog w) A (eval r env) (fun vb s₂=>wpAny (model prog w) A (compareOp op va vb) Q E s₂) E s₁) E s->t env A Q E s) :
  SndT prog w K btab k φ C (evCmp prog w K btab T k φ l ops rs) t RV:=by
 refine snd_gopt (fun op eo=>snd_gopt (fun r er=>snd_gif (fun hsf=>?_) fun _=>SndT.failV) fun _=>SndT.failV) fun _=>SndT.failV
 refine SndT.cps hC (ih.ev φ l hC) (t2:=fun va env A Q E s=>wpAny (model prog w) A (eval r env) (fun vb s₂=>wpAny (model prog w) A (compareOp op va vb) Q E s₂) E s) (fun a va=>?_) fun A env Q E s _ h=>ht op r (marks_free op hsf) (one_is eo) (one_is er) A env Q E s h
 refine SndT.cps (hC.and (Mono.va _ _)) (ih.ev φ r (hC.and (Mono.va _ _))) (t2:=fun vb env A Q E s=>wpAny (model prog w) A (compareOp op va vb) Q E s) (fun b vb=>?_) fun A env Q E s _ h=>h
 exact Snd.T (snd_cmp (fun W nx c=>c.1.2) fun W nx c=>c.2)
theorem ok_tvPlain (ih:OKT prog w K btab k T) (φ:Fm) (e:PySem.Expr) (hC:Mono C) (ht:∀ env,isTrue e env (eval e env)=(do let v <- eval e env; standAt e.pos; holding [v] (truthy v))) :
  SndT prog w K btab k φ C (tvPlain prog w K btab T k φ e) (fun env=>Lf prog w (isTrue e env (eval e env))) RB:=
 SndT.cps hC (ih.ev φ e hC) (t2:=fun v env A Q E s=>wpAny (model prog w) A (truthy v) Q E s) (fun a v=>Snd.T (snd_truth fun W nx c=>c.2)) fun A env Q E s _ h=>wpAny_isTrue_value h (ht env)
theorem not_not {op:UnaryOp} (h:(op == .Not)=false) {x:PySem.Expr} {p:Pos} (env:Env):isTrue (.UnaryOp op x p) env (eval (.UnaryOp op x p) env)=(do let v <- eval (.UnaryOp op x p) env; standAt (PySem.Expr.UnaryOp op x p).pos; holding [v] (truthy v)):=by
 cases op <;> first | rfl | cases h
theorem ok_tv (ih:OKT prog w K btab k T) (φ:Fm) (e:PySem.Expr) (hC:Mono C) :
  SndT prog w K btab k φ C (stepTv prog w K btab T k φ e) (fun env=>Lf prog w (isTrue e env (eval e env))) RB:=by
 cases e with
 | UnaryOp op x p=>
  refine snd_gif (fun ho=>?_) fun ho=>ok_tvPlain ih φ _ hC (not_not ho)
  cases eq_of_beq ho
  exact SndT.cps hC (ih.tv φ x hC) (t2:=fun b _ _ Q _ s=>Q (!b) s) (fun a b=>SndT.pureV fun W nx c=>congrArg _ c.2) fun A env Q E s _ h=>wpAny_isTrue_Not h
 | BoolOp op xs p=>exact SndT.tree (ok_tvs ih φ op xs hC) fun A env Q E s _ h=>wpAny_isTrue_BoolOp h
 | IfExp t b o p=>
  refine ok_if ih φ (tb:=fun env=>Lf prog w (isTrue b env (eval b env))) (to:=fun env=>Lf prog w (isTrue o env (eval o env))) hC (fun hC=>ih.tv φ b hC) (fun hC=>ih.tv φ o hC) fun A env Q E s h=>?_
  ·show wpAny (model prog w) A (isTrue _ _ _) Q E s
   rw [arm_isTrue_IfExp]
   refine wpAny_bind (wpAny_mono h (fun b s₁ h₁=>?_) fun _ _ x=>x)
   induction b using Bool.casesOn <;> exact h₁
 | Compare l ops rs p=>
  by_cases hl:(Ex2 fun op r=>A3 (ops = [op]) (rs = [r]) (behindInMarks op r=false))
  ·obtain ⟨op,r,rfl,rfl,hm⟩:=hl
   refine SndT.cps hC (t1:=fun env A Q E s=>wpAny (model prog w) A (eval l env) (fun va s₁=>wpAny (model prog w) A (eval r env) (fun vb s₂=>wpAny (model prog w) A (compareOp op va vb) Q E s₂) E s₁) E s)
    (ok_cmp ih φ l [op] [r] hC fun op' r' _ e1 e2 A env Q E s h=>by cases e1; cases e2; exact h) (t2:=fun c env A Q E s=>wpAny (model prog w) A (truthy c) Q E s) (fun c vc=>Snd.T (snd_truth fun W nx c=>c.2)) fun A env Q E s _ h=>wpAny_isTrue_Compare1 h hm
  ·exact SndT.cps hC (t1:=fun _ _ _ _ _=>False) (R:=RV) (ok_cmp ih φ l ops rs hC fun op r hm e1 e2=>(hl ⟨op,r,e1,e2,hm⟩).elim) (t2:=fun c env A Q E s=>wpAny (model prog w) A (truthy c) Q E s) (fun c vc=>Snd.T (snd_truth fun W nx c=>c.2)) fun A env Q E s _ h=>h.elim
 | _=>exact ok_tvPlain ih φ _ hC fun _=>rfl
theorem names_len {kws:List Keyword} {ns:List Str} (h:kwNames kws=some ns):ns.length=kws.length:=(kwNames_spec h default default).2.2.2
theorem evs_len {f:PySem.Expr->G AV}:∀ {es:List PySem.Expr} {st:St} {sc:List Ev} {as:List AV} {st':St} {sc':List Ev} {ob:List Prop},evsL f es st sc=some (as,st',sc',ob)->as.length=es.length:=by
 intro es
 induction es with
 | nil=>intro st sc as st' sc' ob e; cases e; rfl
 | cons x r ih=>
  intro st sc as st' sc' ob e
  obtain ⟨a,st1,sc1,ob1,ob2,e1,e2,-⟩:=bind_some (show (f x >>= fun a=>evsL f r >>= fun as=>pure (a :: as)) st sc=_ from e)
  obtain ⟨as',st2,sc2,ob3,ob4,e3,e4,-⟩:=bind_some e2
  cases e4
  exact congrArg (· + 1) (ih e3)
theorem SndT.cpsL {α α' β β':Type} {g:G α} {f:α->G α'} {t1:Env->PT β} {t2:β->Env->PT β'} {t:Env->PT β'} {R:α->β->Wd->Nat->Prop} {R':α'->β'->Wd->Nat->Prop} (hC:Mono C) (P:α->Prop)
  (hP:∀ st sc a st' sc' ob,g st sc=some (a,st',sc',ob)->P a)
  (h1:SndT prog w K btab k φ C g t1 R) (h2:∀ a b,P a->SndT prog w K btab k φ (fun W nx=>C W nx /\ R a b W nx) (f a) (t2 b) R')
  (ht:∀ (A:Around) (env:Env) (Q:β'->Shared->Prop) (E:Value->Shared->Prop) (s:Shared),EnvOK φ env->t1 env A (fun b s'=>t2 b env A Q E s') E s->t env A Q E s) :
  SndT prog w K btab k φ C (g >>= f) t R':=by
 intro st sc a' st' sc' ob e hob W A env s Q E hA hS hF hc hq
 obtain ⟨a,st1,sc1,ob1,ob2,e1,e2,rfl⟩:=bind_some e
 have T1:=h1 _ _ _ _ _ _ e1 fun p hp=>hob p (List.mem_append.mpr (.inl hp))
 have T2:=fun b=>h2 a b (hP _ _ _ _ _ _ e1) _ _ _ _ _ _ e2 fun p hp=>hob p (List.mem_append.mpr (.inr hp))
 refine ht A env Q E s hF.envOK (T1 W A env s _ E hA hS hF hc fun W1 hp1 tk1 b n1 l1 S1 F1 R1=>?_)
 refine T2 b W1 A env _ Q E hA S1 F1 ⟨hC _ _ _ _ n1 l1 hc,R1⟩ fun W2 hp2 tk2 c n2 l2 S2 F2 R2=>?_
 exact hq W2 hp2 tk2 c (Nat.le_trans n1 n2) (l1.trans n1 l2) S2 F2 R2
theorem snd_gmeth {o:AV} {vo:Value} {name:Str} {pl:Env->Sem Bool} (ho:∀ W nx,C W nx->VA W nx o vo) :
  SndT prog w K btab k φ C (gMeth prog w K btab k o name) (fun env=>Lf prog w (getMethod vo name (pl env))) (fun a b W nx=>VA W nx a.1 b.1 /\ VAs W nx a.2 b.2):=by
 have key:∀ {st:St} {f:AV} {first:List AV} {m:Nat->MO} {nx:Nat} {ob:List Prop},(∀ p ∈ (MethTr prog w K btab k o name st.m st.nx f first nx m :: ob),p)->Tri prog w K btab k φ C (fun env=>getMethod vo name (pl env)) st { st with m:=m,nx:=nx } (fun W' b=>VA W' nx f b.1 /\ VAs W' nx first b.2):=
  fun hob W A env s Q E hA hS hF hc hq=>Act.use (hob _ (.head _)) (fun W R b x=>⟨x.1.R,x.2.R⟩) hA hS hF trivial ⟨vo,pl env,(ho _ _ hc).shut,rfl⟩ hq
 intro st sc a st' sc' ob e hob
 induction sc using List.casesOn with
 | nil=>cases e
 | cons v r=>
  induction v using Ev.casesOn with
  | val f m0 nx0=>
   induction r using List.casesOn with
   | nil=>cases e
   | cons v2 r=>
    induction v2 using Ev.casesOn with
    | val b m nx=>
     induction b using AV.casesOn with
     | d b=>
      induction b using D.casesOn with
      | bool b=>
       cases b
       ·cases e; exact key hob
       ·cases e; exact key hob
      | _=>cases e
     | _=>cases e
    | _=>cases e
  | _=>cases e
theorem Mono.av (f:AV) (as:List AV) (v:Value) (vs:List Value):Mono fun W nx=>VA W nx f v /\ VAs W nx as vs:=Mono.and (Mono.va _ _) (Mono.vas _ _)
theorem snd_args (ih:OKT prog w K btab k T) (φ:Fm) {args:List PySem.Expr} {kws:List Keyword} {ns:List Str} {f:AV} {first:List AV} {vf:Value} {vfirst:List Value} (pos:Pos) (hC:Mono C)
  (hsf:starFree args=true) (hk:kwNames kws=some ns) (hf:∀ W nx,C W nx->VA W nx f vf /\ VAs W nx first vfirst) :
  SndT prog w K btab k φ C (gArgs prog w K btab T k φ f first args kws ns)
   (fun env=>Lf prog w (callWith pos vf vfirst (backTo pos (starEach args env)) (backToKw pos (keywordEach kws env)))) RV:=by
 refine snd_gif (fun hc=>?_) fun _=>SndT.failV
 refine SndT.cps hC (ok_evs ih φ pos args hC hsf) (t2:=fun vs env A Q E s=>wpAny (model prog w) A (evalAll ((backToKw pos (keywordEach kws env)).map (·.2))) (fun kvs s₂=>
  wpAny (model prog w) A (callTail vf ((backTo pos (starEach args env)).length+2 * (backToKw pos (keywordEach kws env)).length) (vfirst ++ vs) (ns.zip kvs)) Q E s₂) E s) (fun as vs=>?_) fun A env Q E s _ h=>?_
 ·refine SndT.cpsL (hC.and (Mono.vas _ _)) (fun ks=>ks.length=kws.length) (fun st sc a st' sc' ob e=>(evs_len e).trans (List.length_map _)) (ok_evk ih φ pos kws ns (hC.and (Mono.vas _ _)) hk)
   (t2:=fun kvs env A Q E s=>wpAny (model prog w) A (callTail vf ((backTo pos (starEach args env)).length+2 * (backToKw pos (keywordEach kws env)).length) (vfirst ++ vs) (ns.zip kvs)) Q E s) (fun ks kvs hl=>?_) fun A env Q E s _ h=>h
  have hlen:=names_len hk
  intro st sc a st' sc' ob e hob W A env s Q E
  exact Snd.T (snd_callTail (C:=fun W nx=>(C W nx /\ RVs as vs W nx) /\ RVs ks kvs W nx) (n:=(backTo pos (starEach args env)).length+2 * (backToKw pos (keywordEach kws env)).length) (vf:=vf) (vs:=vfirst ++ vs) (kvs:=kvs) hc (hlen.trans hl.symm) fun W nx c=>⟨(hf _ _ c.1.1).1,(hf _ _ c.1.1).2.append c.1.2,c.2⟩) st sc a st' sc' ob e hob W A env s Q E
 ·obtain ⟨k1,k2,k3,k4⟩:=kwNames_spec hk env pos
  refine callWith_tail (by rw [starEach_any hsf,k2]; rfl) ?_
  induction args using List.casesOn with
  | nil=>
   refine evalArgs_kw2_nil k1 ?_
   rw [k3]
   exact fun Γ p hΓ=>h Γ p hΓ Γ p hΓ
  | cons e r=>
   refine evalArgs_kw2 k1 ?_ (starEach_cons env hsf).1
   rw [k3]
   exact h
theorem snd_oracle {e:PySem.Expr} {g:G AV} (h:∀ st sc a st' sc' ob,g st sc=some (a,st',sc',ob)->ob = [ETr prog w K btab k φ e st a st']):SndT prog w K btab k φ C g (fun env=>Lf prog w (eval e env)) RV:=by
 intro st sc a st' sc' ob e' hob W A env s Q E hA hS hF hc hq
 cases h _ _ _ _ _ _ e'
 exact hob _ (.head _) W A env s Q E hA hS hF trivial hq
theorem comp_oracle {e:PySem.Expr}:SndT prog w K btab k φ C (gComp prog w K btab k φ e) (fun env=>Lf prog w (eval e env)) RV:=
 snd_oracle fun st sc a st' sc' ob e=>by
  induction sc using List.casesOn with
  | nil=>cases e
  | cons v r=>induction v using Ev.casesOn with
   | val=>cases e; rfl
   | _=>cases e
theorem subscripted_plain {slice:PySem.Expr} (h:∀ a b c p,slice=.Slice a b c p->False) (o i:Value):subscripted slice false o i=operate [o,i] (getItem o i):=by
 induction slice using PySem.Expr.casesOn <;> first | rfl | exact (h _ _ _ _ rfl).elim
theorem wpAny_Call_attr {M:Model} {A:Around} {E:Value->Shared->Prop} {s:Shared} {env:Env} {o:PySem.Expr} {name:Str} {apos pos:Pos} {args:List PySem.Expr} {kws:List Keyword} {Q:Value->Shared->Prop} (hb:baseOk o=true)
  (hform:methodCallForm (args.length+kws.length) (backTo pos (starEach args env)) (backToKw pos (keywordEach kws env))=true) (hp:(apos.endLine == pos.line)=true)
  (h:wpAny M A (eval o env) (fun vo s₁=>wpAny M A (getMethod vo name (do return (<- importBound o env).getD true)) (fun fp s₂=>wpAny M A (callWith pos fp.1 fp.2 (backTo pos (starEach args env)) (backToKw pos (keywordEach kws env))) Q E s₂) E s₁) E s) :
  wpAny M A (eval (.Call (.Attribute o name apos) args kws pos) env) Q E s:=by
 rw [arm_eval_Call,baseOk_is hb]
 refine wpAny_bind (wpAny_mono h (fun vo s₁ h₁=>wpAny_bind (wpAny_standAt ?_)) fun _ _ x=>x)
 unfold methodCall calleeOf
 rw [hform]
 refine wpAny_bind (wpAny_holding (wpAny_mono h₁ (fun fp s₂ h₂=>?_) fun _ _ x=>x))
 obtain ⟨f,first⟩:=fp
 unfold methodCallPos
 rw [hp]
 exact wpAny_bind (wpAny_pure h₂)
theorem form_ok {args:List PySem.Expr} {kws:List Keyword} {ns:List Str} (hs:starFree args=true) (hk:kwNames kws=some ns) (hn:Nat.ble (args.length+kws.length) 20=true) (pos:Pos) (env:Env) :
  methodCallForm (args.length+kws.length) (backTo pos (starEach args env)) (backToKw pos (keywordEach kws env))=true:=by
 unfold methodCallForm
 rw [(kwNames_spec hk env pos).1,Bool.and_true]
 have h1:(backTo pos (starEach args env)).all (!·.1)=true:=by
  have:=starEach_any (env:=env) (pos:=pos) hs
  rw [List.all_eq_not_any_not]
  simpa using this
 rw [h1,Bool.true_and,decide_eq_true_eq]
 have:=Nat.le_of_ble_eq_true hn
 split <;> omega
theorem attrOf_is {e:PySem.Expr} {q:PySem.Expr × Str × Pos} (h:attrOf e=some q):e=.Attribute q.1 q.2.1 q.2.2:=by
 induction e using PySem.Expr.casesOn with
 | Attribute=>cases h; rfl
 | _=>cases h
theorem sliceOf_is {e:PySem.Expr} {q:Option PySem.Expr × Option PySem.Expr × Option PySem.Expr × Pos} (h:sliceOf e=some q):e=.Slice q.1 q.2.1 q.2.2.1 q.2.2.2:=by
 induction e using PySem.Expr.casesOn with
 | Slice=>cases h; rfl
 | _=>cases h
theorem call_plain {f:PySem.Expr} (h:attrOf f=none) (args:List PySem.Expr) (kws:List Keyword) (pos:Pos) (env:Env):eval (.Call f args kws pos) env=(do callWith pos (<- eval f env) [] (backTo pos (starEach args env)) (backToKw pos (keywordEach kws env))):=by
 induction f using PySem.Expr.casesOn with
 | Attribute=>cases h
 | _=>rfl
theorem ok_call (ih:OKT prog w K btab k T) (φ:Fm) (f:PySem.Expr) (args:List PySem.Expr) (kws:List Keyword) (pos:Pos) (hC:Mono C) :
  SndT prog w K btab k φ C (evCall prog w K btab T k φ f args kws pos) (fun env=>Lf prog w (eval (.Call f args kws pos) env)) RV:=by
 refine snd_gopt (fun ns hk=>snd_gif (fun hs=>snd_gopt (fun q hq=>snd_gif (fun hb=>?_) fun _=>SndT.failV) fun hn=>?_) fun _=>SndT.failV) fun _=>SndT.failV
 ·cases attrOf_is hq
  obtain ⟨o,name,apos⟩:=q
  rw [Bool.and_eq_true,Bool.and_eq_true] at hb
  refine SndT.cps hC (ih.ev φ o hC) (t2:=fun vo env A Q E s=>wpAny (model prog w) A (getMethod vo name (do return (<- importBound o env).getD true)) (fun fp s₂=>wpAny (model prog w) A (callWith pos fp.1 fp.2 (backTo pos (starEach args env)) (backToKw pos (keywordEach kws env))) Q E s₂) E s)
   (fun a vo=>?_) fun A env Q E s _ h=>wpAny_Call_attr hb.1.1 (form_ok hs hk hb.2 pos env) hb.1.2 h
  exact SndT.cps (hC.and (Mono.va _ _)) (snd_gmeth (vo:=vo) (pl:=fun env=>do return (<- importBound o env).getD true) fun W nx c=>c.2) (t2:=fun fp env A Q E s=>wpAny (model prog w) A (callWith pos fp.1 fp.2 (backTo pos (starEach args env)) (backToKw pos (keywordEach kws env))) Q E s)
   (fun fp vfp=>snd_args ih φ pos ((hC.and (Mono.va _ _)).and (Mono.av _ _ _ _)) hs hk fun W nx c=>c.2) fun A env Q E s _ h=>h
 ·refine SndT.cps hC (ih.ev φ f hC) (t2:=fun vf env A Q E s=>wpAny (model prog w) A (callWith pos vf [] (backTo pos (starEach args env)) (backToKw pos (keywordEach kws env))) Q E s) (fun vf' vf=>snd_args (first:=[]) ih φ pos (hC.and (Mono.va _ _)) hs hk fun W nx c=>⟨c.2,.nil⟩) fun A env Q E s _ h=>?_
  show wpAny (model prog w) A (eval (.Call f args kws pos) env) Q E s
  rw [call_plain hn]
  exact wpAny_bind h
theorem ok_sub (ih:OKT prog w K btab k T) (φ:Fm) (o i:PySem.Expr) (q:Pos) (hC:Mono C) :
  SndT prog w K btab k φ C (evSub prog w K btab T k φ o i) (fun env=>Lf prog w (eval (.Subscript o i q) env)) RV:=by
 refine snd_gopt (fun z hz=>snd_gif (fun hn=>?_) fun _=>SndT.failV) fun hn=>?_
 ·cases sliceOf_is hz
  obtain ⟨l,u,st,p⟩:=z
  induction st using Option.casesOn with
  | some=>cases hn
  | none=>
   refine SndT.cps hC (ih.ev φ o hC) (t2:=fun vo env A Q E s=>wpAny (model prog w) A (evalPart l env) (fun vl s₂=>wpAny (model prog w) A (evalPart u env) (fun vu s₃=>wpAny (model prog w) A (newFields "slice" [vl,vu,.none] >>= fun i=>subscriptTail o (.Slice l u none p) vo i) Q E s₃) E s₂) E s)
    (fun a vo=>?_) fun A env Q E s _ h=>?_
   ·refine SndT.cps (hC.and (Mono.va _ _)) (ok_evo ih φ l (hC.and (Mono.va _ _))) (t2:=fun vl env A Q E s=>wpAny (model prog w) A (evalPart u env) (fun vu s₃=>wpAny (model prog w) A (newFields "slice" [vl,vu,.none] >>= fun i=>subscriptTail o (.Slice l u none p) vo i) Q E s₃) E s)
     (fun b vl=>?_) fun A env Q E s _ h=>h
    refine SndT.cps ((hC.and (Mono.va _ _)).and (Mono.va _ _)) (ok_evo ih φ u ((hC.and (Mono.va _ _)).and (Mono.va _ _))) (t2:=fun vu env A Q E s=>wpAny (model prog w) A (newFields "slice" [vl,vu,.none] >>= fun i=>subscriptTail o (.Slice l u none p) vo i) Q E s)
     (fun c vu=>?_) fun A env Q E s _ h=>h
    exact Snd.T (t:=fun _=>newFields "slice" [vl,vu,.none] >>= fun i=>subscriptTail o (.Slice l u none p) vo i) (snd_val fun st r m' nx' hP W A env s Q E hA hS hF hc hq=>Act.use hP (fun W R b x=>x.R) hA hS hF trivial ⟨vo,vl,vu,o,.Slice l u none p,fun _ _=>rfl,hc.1.1.2.shut,hc.1.2.shut,hc.2.shut,rfl⟩ hq)
   ·refine Subscript_ (wpAny_mono h (fun vo s₁ h₁=>?_) fun _ _ x=>x)
    rw [arm_eval_Slice]
    refine wpAny_bind (wpAny_mono h₁ (fun vl s₂ h₂=>wpAny_bind (wpAny_holding (wpAny_mono h₂ (fun vu s₃ h₃=>?_) fun _ _ x=>x))) fun _ _ x=>x)
    refine wpAny_bind (wpAny_holding (wpAny_pure ?_))
    exact wpAny_newObj_type (h₃ ·) (by size_fits)
 ·have hne:∀ a b c p,i=.Slice a b c p->False:=fun a b c p e=>by cases e; cases hn
  refine SndT.cps hC (ih.ev φ o hC) (t2:=fun vo env A Q E s=>wpAny (model prog w) A (eval i env) (fun vi s₂=>wpAny (model prog w) A (subscriptTail o i vo vi) Q E s₂) E s) (fun a vo=>?_) fun A env Q E s _ h=>Subscript_ h
  refine SndT.cps (hC.and (Mono.va _ _)) (ih.ev φ i (hC.and (Mono.va _ _))) (t2:=fun vi env A Q E s=>wpAny (model prog w) A (subscriptTail o i vo vi) Q E s) (fun b vi=>?_) fun A env Q E s _ h=>h
  exact Snd.T (t:=fun _=>subscriptTail o i vo vi) (snd_val fun st r m' nx' hP W A env s Q E hA hS hF hc hq=>Act.use hP (fun W R b x=>x.R) hA hS hF trivial ⟨vo,vi,o,i,subscripted_plain hne,hc.1.2.shut,hc.2.shut,rfl⟩ hq)
theorem ok_const (v:Const) (kd:Nat) (p:Pos):SndT prog w K btab k φ C (gOpt (constD v) (fun d=>pure (.d d)) G.fail) (fun env=>Lf prog w (eval (.Constant v kd p) env)) RV:=by
 induction v using PySem.Const.casesOn with
 | int i=>exact snd_plainT fun W nx c A env s Q E q=>wpAny_Constant_int (q (.int _ _) _ (.d (.int _ _)))
 | str x=>exact snd_plainT fun W nx c A env s Q E q=>PySem.wpAny_Constant_str (q (.str _ _) _ (.d (.str _ _)))
 | none=>exact snd_plainT fun W nx c A env s Q E q=>PySem.wpAny_Constant_none (q .none s.toks (.d .none))
 | bool b=>exact snd_plainT fun W nx c A env s Q E q=>PySem.wpAny_Constant_bool (q (.bool _) s.toks (.d (.bool _)))
 | _=>exact SndT.failV
theorem negOf_is {op:UnaryOp} {x:PySem.Expr} {i:Int} (h:negOf op x=some i):op=.USub /\ ∃ kd p,x=.Constant (.int i) kd p:=by
 induction op using PySem.UnaryOp.casesOn with
 | USub=>
  induction x using PySem.Expr.casesOn with
  | Constant v kd p=>
   induction v using PySem.Const.casesOn with
   | int j=>cases h; exact ⟨rfl,_,_,rfl⟩
   | _=>cases h
  | _=>cases h
 | _=>cases h
theorem ok_boolop (ih:OKT prog w K btab k T) (φ:Fm) (op:BoolOp) (x y:PySem.Expr) (p:Pos) (hC:Mono C) :
  SndT prog w K btab k φ C (do let a <- T.ev φ x; let t <- gTrue prog w K btab k a; gBool op t (pure a) (T.ev φ y)) (fun env=>Lf prog w (eval (.BoolOp op [x,y] p) env)) RV:=by
 refine SndT.cps hC (ih.ev φ x hC) (t2:=fun v env A Q E s=>wpAny (model prog w) A (truthy v) (fun t s₂=>boRest op t (Q v s₂) (wpAny (model prog w) A (eval y env) Q E s₂)) E s) (fun a va=>?_) fun A env Q E s _ h=>?_
 ·refine SndT.cps (hC.and (Mono.va _ _)) (Snd.T (snd_truth fun W nx c=>c.2)) (t2:=fun t env A Q E s=>boRest op t (Q va s) (wpAny (model prog w) A (eval y env) Q E s)) (fun t t'=>?_) fun A env Q E s _ h=>h
  have key:t=t'->SndT prog w K btab k φ (fun W nx=>(C W nx /\ RV a va W nx) /\ RB t t' W nx) (gBool op t (pure a) (T.ev φ y)) (fun env A Q E s=>boRest op t' (Q va s) (wpAny (model prog w) A (eval y env) Q E s)) RV:=fun e=>by
   cases e
   have hC2:Mono fun W nx=>(C W nx /\ RV a va W nx) /\ RB t t W nx:=(hC.and (Mono.va _ _)).and (fun _ _ _ _ _ _ h=>h)
   cases op <;> cases t
   ·exact SndT.pureV fun W nx c=>c.1.2
   ·exact ih.ev φ y hC2
   ·exact ih.ev φ y hC2
   ·exact SndT.pureV fun W nx c=>c.1.2
  exact fun st sc a' st' sc' ob e hob W A env s Q E hA hS hF hc hq=>key hc.2 st sc a' st' sc' ob e hob W A env s Q E hA hS hF hc hq
 ·cases op
  ·refine wpAny_And2 (wpAny_mono h (fun v s₁ h₁=>wpAny_mono h₁ (fun t s₂ h₂=>?_) fun _ _ x=>x) fun _ _ x=>x)
   induction t using Bool.casesOn <;> exact h₂
  ·refine wpAny_Or2 (wpAny_mono h (fun v s₁ h₁=>wpAny_mono h₁ (fun t s₂ h₂=>?_) fun _ _ x=>x) fun _ _ x=>x)
   induction t using Bool.casesOn <;> exact h₂
theorem snd_pick:SndT (β:=Bool) prog w K btab k φ C gPick (fun _ _ Q _ s=>∀ b:Bool,Q b s) (fun _ _ _ _=>True):=by
 intro st sc a st' sc' ob e hob W A env s Q E hA hS hF hc hq b
 induction sc using List.casesOn with
 | nil=>cases e
 | cons v r=>induction v using Ev.casesOn with
  | br d=>cases e; exact hq W s.heap s.toks b (Nat.le_refl _) (.refl _ _) hS hF trivial
  | _=>cases e
theorem ok_ev (ih:OKT prog w K btab k T) (φ:Fm) (e:PySem.Expr) (hC:Mono C) :
  SndT prog w K btab k φ C (stepEv prog w K btab T k φ e) (fun env=>Lf prog w (eval e env)) RV:=by
 cases e with
 | Constant v kd p=>exact ok_const v kd p
 | Name x p=>
  refine snd_gif (fun hx=>?_) fun hx=>SndT.tree (Snd.T (snd_name x)) fun A env Q E s _ h=>PySem.wpAny_Name h hx
  rw [eq_of_beq hx]
  exact snd_plainT fun W nx c A env s Q E q=>wpAny_bind (wpAny_standAt (by rw [if_pos (beq_self_eq_true _)]; exact wpAny_bind (wpAny_rule (wpAny_pure (q (.bool true) s.toks (.d (.bool _)))))))
 | BinOp l op r p=>
  refine SndT.cps hC (ih.ev φ l hC) (t2:=fun va env A Q E s=>wpAny (model prog w) A (eval r env) (fun vb s₂=>wpAny (model prog w) A (binaryOp op va vb) Q E s₂) E s) (fun a va=>?_) fun A env Q E s _ h=>wpAny_BinOp h
  refine SndT.cps (hC.and (Mono.va _ _)) (ih.ev φ r (hC.and (Mono.va _ _))) (t2:=fun vb env A Q E s=>wpAny (model prog w) A (binaryOp op va vb) Q E s) (fun b vb=>?_) fun A env Q E s _ h=>h
  exact Snd.T (snd_bin (g:=false) (fun W nx c=>c.1.2) fun W nx c=>c.2)
 | UnaryOp op x p=>
  refine snd_gopt (fun i hi=>?_) fun _=>SndT.failV
  obtain ⟨rfl,kd,q,rfl⟩:=negOf_is hi
  exact snd_plainT fun W nx c A env s Q E q=>PySem.wpAny_UnaryOp (wpAny_Constant_int (PyProof.Rows.neg_int (q (.int _ _) _ (.d (.int _ _)))))
 | BoolOp op xs p=>
  refine snd_gopt (fun z hz=>?_) fun _=>SndT.failV
  cases two_is hz
  exact ok_boolop ih φ op z.1 z.2 p hC
 | IfExp t b o p=>exact ok_if ih φ (tb:=fun env=>Lf prog w (eval b env)) (to:=fun env=>Lf prog w (eval o env)) hC (fun hC=>ih.ev φ b hC) (fun hC=>ih.ev φ o hC) fun A env Q E s h=>wpAny_IfExp h
 | Compare l ops rs p=>
  exact ok_cmp ih φ l ops rs hC fun op r hm e1 e2 A env Q E s h=>by cases e1; cases e2; exact wpAny_Compare1 h hm
 | Call f args kws pos=>exact ok_call ih φ f args kws pos hC
 | Attribute o name p=>
  refine snd_gif (fun hb=>?_) fun _=>SndT.failV
  refine SndT.cps hC (ih.ev φ o hC) (t2:=fun vo env A Q E s=>wpAny (model prog w) A (getAttr vo name true) Q E s) (fun a vo=>?_) fun A env Q E s _ h=>?_
  ·exact Snd.T (t:=fun _=>getAttr vo name true) (snd_val fun st r m' nx' hP W A env s Q E hA hS hF hc hq=>Act.use hP (fun W R b x=>x.R) hA hS hF trivial ⟨vo,true,hc.2.shut,rfl⟩ hq)
  ·refine Attribute_any_ h ?_
   rw [arm_eval_Attribute,baseOk_is hb]
 | Subscript o i p=>exact ok_sub ih φ o i p hC
 | List es p=>
  refine snd_gif (fun hs=>?_) fun _=>SndT.failV
  refine SndT.cps hC (ok_evs ih φ p es hC hs) (t2:=fun vs env A Q E s=>wpAny (model prog w) A (newList vs) Q E s) (fun as vs=>Snd.T (snd_lst fun W nx c=>c.2)) fun A env Q E s _ h=>?_
  show wpAny (model prog w) A (eval _ env) Q E s
  rw [arm_eval_List]
  exact wpAny_bind (wpAny_standAt (wpAny_bind h))
 | Tuple es x1 p=>
  refine snd_gif (fun hs=>?_) fun _=>SndT.failV
  refine SndT.cps hC (ok_evs ih φ p es hC hs) (t2:=fun vs env A Q E s=>wpAny (model prog w) A (newTuple vs) Q E s) (fun as vs=>?_) fun A env Q E s _ h=>?_
  ·exact SndT.cps (hC.and (Mono.vas _ _)) (Snd.T (snd_ghosts (vs:=vs) (hC.and (Mono.vas _ _)) fun W nx c=>c.2)) (t2:=fun vs env A Q E s=>wpAny (model prog w) A (newTuple vs) Q E s) (fun bs vs'=>Snd.T (snd_tup fun W nx c=>c.2)) fun A env Q E s _ h=>(fun Γ p hΓ=>h Γ p hΓ Γ p hΓ)
  ·show wpAny (model prog w) A (eval _ env) Q E s
   rw [arm_eval_Tuple]
   exact wpAny_bind (wpAny_standAt (wpAny_bind h))
 | Dict ks vs p=>
  refine snd_gif (fun he=>?_) fun _=>SndT.failV
  rw [Bool.and_eq_true,List.isEmpty_iff,List.isEmpty_iff] at he
  cases he.1
  cases he.2
  exact SndT.cps hC snd_pick (t2:=fun (_:Bool) env=>Lf prog w (eval (.Dict [] [] p) env)) (fun a b=>snd_gif (fun _=>Snd.T (snd_new id fun st W A env s Q E hS hc q=>wpAny_Dict_empty (q _ s.toks ⟨[],Heap.DictOf.new _,rfl,.nil,hS.newAt⟩)))
   fun _=>Snd.T (snd_new id fun st W A env s Q E hS hc q=>wpAny_Dict_empty (q _ s.toks ⟨[],Heap.DictOf.new _,rfl,.nil,hS.newAt⟩))) fun A env Q E s _ h=>h true
 | ListComp a b c d=>exact comp_oracle
 | DictComp a a' b c d=>exact comp_oracle
 | Lambda ps body sc pos=>
  refine snd_oracle fun st s a st' sc' ob e=>?_
  change gLam prog w K btab k φ ps body sc pos st s=_ at e
  unfold gLam at e
  cases hf:freeCaps (nameNow φ st) sc.names with
  | none=>rw [hf] at e; cases e
  | some l=>rw [hf] at e; cases e; rfl
 | _=>exact SndT.failV
theorem okn:∀ n,OKT prog w K btab k (evN prog w K btab k n)
 | 0=>⟨fun φ e _=>SndT.failV,fun φ e _=>SndT.failV⟩
 | n+1=>⟨fun φ e hC=>ok_ev (okn n) φ e hC,fun φ e hC=>ok_tv (okn n) φ e hC⟩
end
noncomputable def rngD (a b c:Int):List D:=(List.range (Builtin.Range.rangeSize a b c).toNat).map fun (i:Nat)=>.int (a+i * c)
noncomputable def strD (s:Str):List D:=s.cps.toList.map fun c=>.str ⟨#[c]⟩
noncomputable def DSrc (m:Nat->MO) (nx:Nat):AV->List D->Prop
 | .d (.tup l),ds=>ds=l
 | .d (.lst l),ds=>ds=l
 | .d (.str s),ds=>ds=strD s
 | .d (.rng a b c),ds=>Builtin.Range.small a b c=true /\ ds=rngD a b c
 | .loc n,ds=>n < nx /\ m n=.list ds
 | _,_=>False
class inductive ItO (W:Wd):AV->Nat->Obj->Prop
 | tup {l:List D} {t:Addr} {i:Nat} {o:Obj} (hv:VD W.B (.tup l) (.ref t)) (hc:o.cls=.type "tuple_iterator") (hd:o.data=.fields #[.ref t,.int i 0]):ItO W (.d (.tup l)) i o
 | lst {l:List D} {t:Addr} {i:Nat} {o:Obj} (hv:VD W.B (.lst l) (.ref t)) (hc:o.cls=.type "list_iterator") (hd:o.data=.fields #[.ref t,.int i 0]):ItO W (.d (.lst l)) i o
 | loc {n:Nat} {i:Nat} {o:Obj} (hc:o.cls=.type "list_iterator") (hd:o.data=.fields #[.ref (W.ι n),.int i 0]):ItO W (.loc n) i o
 | stra {x:Str} {t:Tok} {i:Nat} {o:Obj} (hc:o.cls=.type "str_ascii_iterator") (hd:o.data=.fields #[.str x t,.int i 0]):ItO W (.d (.str x)) i o
 | strw {x:Str} {t:Tok} {i:Nat} {o:Obj} (hc:o.cls=.type "str_iterator") (hd:o.data=.fields #[.str x t,.int i 0]):ItO W (.d (.str x)) i o
 | rng {a b c:Int} {i:Nat} {o:Obj} (ho:o = { cls:=.type "range_iterator",dict:=none,data:=.fields #[rawInt (a+i * c),rawInt (Builtin.Range.rangeSize a b c - i),rawInt c],slots:=#[] }):ItO W (.d (.rng a b c)) i o
theorem ItO.mono {W W':Wd} {m:Nat->MO} {nx:Nat} {a:AV} {ds:List D} {i:Nat} {o:Obj} (h:ItO W a i o) (hs:DSrc m nx a ds) (l:Wd.le nx W W'):ItO W' a i o:=by
 induction h using ItO.casesOn with
 | tup hv hc hd=>exact .tup (hv.mono l.B) hc hd
 | lst hv hc hd=>exact .lst (hv.mono l.B) hc hd
 | loc hc hd=>exact .loc hc (by rw [l.ι _ hs.1]; exact hd)
 | stra hc hd=>exact .stra hc hd
 | strw hc hd=>exact .strw hc hd
 | rng ho=>exact .rng ho
theorem ItO.fields {W:Wd} {a:AV} {i:Nat} {o:Obj} (h:ItO W a i o):∃ vs,o.data=.fields vs:=by
 induction h using ItO.casesOn with
 | tup hv hc hd=>exact ⟨_,hd⟩
 | lst hv hc hd=>exact ⟨_,hd⟩
 | loc hc hd=>exact ⟨_,hd⟩
 | stra hc hd=>exact ⟨_,hd⟩
 | strw hc hd=>exact ⟨_,hd⟩
 | rng ho=>subst ho; exact ⟨_,rfl⟩
section
variable {prog:Program} {w:World} {K:Frag} {btab:List (Str × Value)} {A:Around} {E:Value->Shared->Prop} {s:Shared} {W:Wd} {m:Nat->MO} {nx:Nat}
theorem tup_at {h:Heap} (S:SInv prog w K btab W m nx h) {l:List D} {t:Addr} (hv:VD W.B (.tup l) (.ref t)):∃ vs:List Value,IsTup h t vs.toArray /\ VDs W.B l vs:=by
 cases hv with | tup ho hv=>exact ⟨_,⟨_,S.base _ _ ho,rfl,_,rfl⟩,hv⟩
theorem lst_at {h:Heap} (S:SInv prog w K btab W m nx h) {l:List D} {t:Addr} (hv:VD W.B (.lst l) (.ref t)):∃ vs:List Value,h.IsList t vs.toArray /\ VDs W.B l vs:=by
 cases hv with | lst ho hv=>exact ⟨_,⟨_,S.base _ _ ho,rfl,_,rfl⟩,hv⟩
theorem loc_at {h:Heap} (S:SInv prog w K btab W m nx h) {l:List D} {n:Nat} (hn:n < nx) (hm:m n=.list l):∃ vs:List Value,h.IsList (W.ι n) vs.toArray /\ VDs W.B l vs:=by
 have:=S.obj n hn
 rw [hm] at this
 obtain ⟨vs,k,ho,hv⟩:=this
 exact ⟨vs,⟨_,ho,rfl,_,rfl⟩,hv⟩
theorem loc_ex {h:Heap} (S:SInv prog w K btab W m nx h) {l:List D} {n:Nat} (hn:n < nx) (hm:m n=.list l):(Ex2 fun (vs:List Value) (k:Nat)=>h.get? (W.ι n)=some (lstObj vs k) /\ VDs W.B l vs):=by
 have:=S.obj n hn
 rw [hm] at this
 exact this
set_option tactic.hygienic true in
theorem iter_start {a:AV} {v:Value} {ds:List D} {Q:Value->Shared->Prop} (S:SInv prog w K btab W m nx s.heap) (hv:VA W nx a v) (hs:DSrc m nx a ds)
  (h:∀ o,ItO W a 0 o->o.isFreed=false->Q (.ref s.heap.objs.size) { s with heap:=s.heap.push o }):wpAny (model prog w) A (pyIter v) Q E s:=by
 induction hv using VA.casesOn with
 | loc hn=>
  rename_i n
  obtain ⟨vs,hl,_⟩:=loc_at S hn hs.2
  exact wpAny_pyIter_list hl (h _ (.loc rfl rfl) rfl)
 | k v=>exact hs.elim
 | bm=>exact hs.elim
 | fn=>exact hs.elim
 | d hv=>
  induction hv using VD.casesOn with
  | none=>exact hs.elim
  | bool=>exact hs.elim
  | int=>exact hs.elim
  | str x t=>
   cases ha:x.cps.all (· < 128) with
   | true=>exact wpAny_pyIter_ascii ha (h _ (.stra rfl rfl) rfl)
   | false=>exact wpAny_pyIter_wide ha (h _ (.strw rfl rfl) rfl)
  | tup ho hv=>
   have ht:IsTup s.heap _ _:=⟨_,S.base _ _ ho,rfl,_,rfl⟩
   exact iter_tuple ht (h _ (.tup (.tup ho hv) rfl rfl) rfl)
  | lst ho hv=>
   have hl:s.heap.IsList _ _:=⟨_,S.base _ _ ho,rfl,_,rfl⟩
   exact wpAny_pyIter_list hl (h _ (.lst (.lst ho hv) rfl rfl) rfl)
  | rng ho=>
   refine wpAny_pyIter_range (S.base _ _ ho) hs.1 (h _ (.rng ?_) rfl)
   simp
set_option tactic.hygienic true in
theorem iter_item {a:AV} {ds:List D} {it:Addr} {i:Nat} {o:Obj} {x:D} {Q:Option Value->Shared->Prop} (S:SInv prog w K btab W m nx s.heap) (hs:DSrc m nx a ds) (ho:s.heap.get? it=some o) (hi:ItO W a i o) (hx:ds[i]? = some x)
  (h:∀ v o' h' tk,VD W.B x v->h'.get? it=some o'->ItO W a (i+1) o'->Heap.SameBut it s.heap h'->Q (some v) { s with heap:=h',toks:=tk }):wpAny (model prog w) A (pyNext (.ref it)) Q E s:=by
 cases hi with
 | tup hv hc hd=>
  obtain ⟨vs,ht,hvs⟩:=tup_at S hv
  obtain rfl:ds=_:=hs
  obtain ⟨v,e1,e2⟩:=hvs.get hx
  exact next_tuple_item ⟨o,ho,hc,hd⟩ ht (by simpa using e1) fun h' ⟨o',u1,u2,u3⟩ hsb=>h v o' h' s.toks e2 u1 (.tup hv u2 u3) hsb
 | lst hv hc hd=>
  obtain ⟨vs,ht,hvs⟩:=lst_at S hv
  obtain rfl:ds=_:=hs
  obtain ⟨v,e1,e2⟩:=hvs.get hx
  exact wpAny_pyNext_list_item ⟨o,ho,hc,hd⟩ ht (by simpa using e1) fun h' ⟨o',u1,u2,u3⟩ hsb=>h v o' h' s.toks e2 u1 (.lst hv u2 u3) hsb
 | loc hc hd=>
  obtain ⟨vs,ht,hvs⟩:=loc_at S hs.1 hs.2
  obtain ⟨v,e1,e2⟩:=hvs.get hx
  exact wpAny_pyNext_list_item ⟨o,ho,hc,hd⟩ ht (by simpa using e1) fun h' ⟨o',u1,u2,u3⟩ hsb=>h v o' h' s.toks e2 u1 (.loc u2 u3) hsb
 | stra hc hd=>
  rename_i x' t
  obtain rfl:ds=strD x':=hs
  unfold strD at hx
  rw [List.getElem?_map] at hx
  cases e:x'.cps.toList[i]? with
  | none=>rw [e] at hx; cases hx
  | some c=>
   rw [e] at hx; cases hx
   exact wpAny_pyNext_ascii_item ⟨o,ho,hc,hd⟩ (by simpa using e) fun h' ⟨o',u1,u2,u3⟩ hsb=>h _ o' h' _ (.str _ _) u1 (.stra u2 u3) hsb
 | strw hc hd=>
  rename_i x' t
  obtain rfl:ds=strD x':=hs
  unfold strD at hx
  rw [List.getElem?_map] at hx
  cases e:x'.cps.toList[i]? with
  | none=>rw [e] at hx; cases hx
  | some c=>
   rw [e] at hx; cases hx
   exact wpAny_pyNext_wide_item ⟨o,ho,hc,hd⟩ (by simpa using e) fun h' ⟨o',u1,u2,u3⟩ hsb=>h _ o' h' _ (.str _ _) u1 (.strw u2 u3) hsb
 | rng ho'=>
  rename_i a b c
  obtain ⟨hsm,rfl⟩:=hs
  unfold rngD at hx
  rw [List.getElem?_map] at hx
  have hlt:i < (Builtin.Range.rangeSize a b c).toNat:=by
   rcases Nat.lt_or_ge i (Builtin.Range.rangeSize a b c).toNat with q | q
   ·exact q
   ·rw [List.getElem?_eq_none (by simpa using q)] at hx; cases hx
  rw [List.getElem?_range hlt] at hx
  cases hx
  subst ho'
  refine wpAny_pyNext_range_item ho (by omega) fun h' e hsb=>?_
  refine h _ _ h' _ (.int _ _) e (.rng ?_) hsb
  have e1:a+(i:Int) * c+c=a+((i+1:Nat):Int) * c:=by rw [Int.natCast_add,Int.add_mul]; omega
  have e2:Builtin.Range.rangeSize a b c - (i:Int) - 1=Builtin.Range.rangeSize a b c - ((i+1:Nat):Int):=by omega
  rw [e1,e2]
set_option tactic.hygienic true in
theorem iter_end {a:AV} {ds:List D} {it:Addr} {i:Nat} {o:Obj} {Q:Option Value->Shared->Prop} (hh:A.handled=none) (S:SInv prog w K btab W m nx s.heap) (hs:DSrc m nx a ds) (ho:s.heap.get? it=some o) (hi:ItO W a i o) (hx:ds[i]? = none)
  (h:∀ h',Heap.ExtBut it s.heap h'->Q none { s with heap:=h' }):wpAny (model prog w) A (pyNext (.ref it)) Q E s:=by
 have hx':ds.length<=i:=by simpa using hx
 cases hi with
 | tup hv hc hd=>
  obtain ⟨vs,ht,hvs⟩:=tup_at S hv
  obtain rfl:ds=_:=hs
  exact next_tuple_end hh ⟨o,ho,hc,hd⟩ ht (by simpa [hvs.length] using hx') h
 | lst hv hc hd=>
  obtain ⟨vs,ht,hvs⟩:=lst_at S hv
  obtain rfl:ds=_:=hs
  exact wpAny_pyNext_list_end hh ⟨o,ho,hc,hd⟩ ht (by simpa [hvs.length] using hx') h
 | loc hc hd=>
  obtain ⟨vs,ht,hvs⟩:=loc_at S hs.1 hs.2
  exact wpAny_pyNext_list_end hh ⟨o,ho,hc,hd⟩ ht (by simpa [hvs.length] using hx') h
 | stra hc hd=>
  rename_i x' t
  obtain rfl:ds=strD x':=hs
  exact wpAny_pyNext_ascii_end hh ⟨o,ho,hc,hd⟩ (by simpa [strD] using hx') h
 | strw hc hd=>
  rename_i x' t
  obtain rfl:ds=strD x':=hs
  exact wpAny_pyNext_wide_end hh ⟨o,ho,hc,hd⟩ (by simpa [strD] using hx') h
 | rng ho'=>
  rename_i a b c
  obtain ⟨hsm,rfl⟩:=hs
  simp only [rngD,List.length_map,List.length_range] at hx'
  subst ho'
  exact wpAny_pyNext_range_end hh ho (by omega) h
theorem ItO.letGo {a:AV} {it:Addr} {i:Nat} {o:Obj} {target:PySem.Expr} {v:Value} {Q:Unit->Shared->Prop} (ho:s.heap.get? it=some o) (hi:ItO W a i o) (h:Q () s):wpAny (model prog w) A (letOwnedTupleGo target (.ref it) v) Q E s:=by
  unfold letOwnedTupleGo
  induction target using PySem.Expr.casesOn <;> first
    | exact wpAny_pure h
    | (cases v <;> first
        | exact wpAny_pure h
        | (refine wpAny_bind (wpAny_load ho ?_)
           induction hi using ItO.casesOn with
           | tup hv hc hd=>rw [hc,hd]; exact wpAny_pure h
           | lst hv hc hd=>rw [hc,hd]; exact wpAny_pure h
           | loc hc hd=>rw [hc,hd]; exact wpAny_pure h
           | stra hc hd=>rw [hc,hd]; exact wpAny_pure h
           | strw hc hd=>rw [hc,hd]; exact wpAny_pure h
           | rng ho'=>subst ho'; exact wpAny_pure h))
theorem draw_d {a:AV} {ds:List D} {it:Addr} (hs:DSrc m nx a ds) (hit:OwnAt W m nx it):∀ (n i:Nat) (s:Shared) (o:Obj) (Q:List Value->Shared->Prop),SInv prog w K btab W m nx s.heap->s.heap.get? it=some o->ItO W a i o->i+n<=ds.length ->
  (∀ vs o' h' tk,VDs W.B ((ds.drop i).take n) vs->h'.get? it=some o'->ItO W a (i+n) o'->Heap.SameBut it s.heap h'->Q vs { s with heap:=h',toks:=tk })->wpAny (model prog w) A (draw (.ref it) n) Q E s
 | 0,i,s,o,Q,S,ho,hi,hle,hq=>by
  show wpAny _ _ (pure []) Q E s
  exact wpAny_pure (hq [] o s.heap s.toks (by rw [List.take_zero]; exact .nil) ho hi (Heap.SameBut.refl ..))
 | n+1,i,s,o,Q,S,ho,hi,hle,hq=>by
  have hlt:i < ds.length:=by omega
  show wpAny _ _ (pyNext (.ref it) >>= _) Q E s
  refine wpAny_bind (iter_item S hs ho hi (x:=ds[i]) (by simp [hlt]) fun v o' h' tk hv ho' hi' hsb=>?_)
  refine wpAny_bind (wpAny_holding (draw_d hs hit n (i+1) { s with heap:=h',toks:=tk } o' _ (S.own hit hsb.extBut) ho' hi' (by omega) fun vs o'' h'' tk' hvs ho'' hi'' hsb'=>wpAny_pure ?_))
  have hd:ds.drop i=ds[i] :: ds.drop (i+1):=List.drop_eq_getElem_cons hlt
  refine hq (v :: vs) o'' h'' tk' ?_ ho'' (by rw [show i+(n+1)=i+1+n by omega]; exact hi'') (hsb.trans hsb')
  rw [hd,List.take_succ_cons]
  exact .cons hv hvs
noncomputable def isSeqD:AV->Prop
 | .d (.tup _)=>True
 | .d (.lst _)=>True
 | _=>False
theorem unpack_go {v:Value} {ds:List D} {a:AV} {Q:List Value->Shared->Prop} (hh:A.handled=none) (S:SInv prog w K btab W m nx s.heap) (hv:VA W nx a v) (hs:DSrc m nx a ds)
  (hn:∀ {Q:Bool->Shared->Prop},Q false s->wpAny (model prog w) A (notIterableAtAll v) Q E s)
  (h:∀ vs h' tk,VDs W.B ds vs->Keeps s.heap h'->Q vs { s with heap:=h',toks:=tk }):wpAny (model prog w) A (unpackItems v ds.length none) Q E s:=by
 have hfr:=S.fresh (get?_size s.heap)
 refine wpAny_bind (hn ?_)
 refine wpAny_bind (wpAny_holding (iter_start S hv hs fun o hi hf=>?_))
 refine wpAny_bind (wpAny_holding (draw_d hs hfr ds.length 0 { s with heap:=s.heap.push o } o _ (S.keeps (Keeps.push _ _)) (Heap.get?_push_size _ hf) hi (by omega) fun vs o' h' tk hvs ho' hi' hsb=>?_))
 rw [List.drop_zero,List.take_length] at hvs
 rw [if_neg (by rw [hvs.length]; omega)]
 rw [Nat.zero_add] at hi'
 have S':SInv prog w K btab W m nx h':=(S.keeps (Keeps.push _ o)).own hfr hsb.extBut
 refine wpAny_bind (wpAny_holding (iter_end hh (s:={ s with heap:=h',toks:=tk }) S' hs ho' hi' (by simp) fun h'' he=>?_))
 refine wpAny_pure (h vs h'' tk hvs fun b ob e=>?_)
 have hb:b ≠ s.heap.objs.size:=fun z=>ns ((get?_size s.heap).symm.trans (z ▸ e))
 exact he b ob hb (hsb.extBut b ob hb (Heap.get?_push_of_some _ e))
theorem unpack_items {a:AV} {v:Value} {ds:List D} {Q:List Value->Shared->Prop} (hh:A.handled=none) (S:SInv prog w K btab W m nx s.heap) (hv:VA W nx a v) (hs:DSrc m nx a ds) (hq:isSeqD a)
  (h:∀ vs h' tk,VDs W.B ds vs->Keeps s.heap h'->Q vs { s with heap:=h',toks:=tk }):wpAny (model prog w) A (unpackItems v ds.length none) Q E s:=by
 refine unpack_go hh S hv hs ?_ h
 clear h hs
 induction hv using VA.casesOn with
 | d hv=>
  induction hv using VD.casesOn with
  | tup ho hv=>
   have ht:IsTup s.heap _ _:=⟨_,S.base _ _ ho,rfl,_,rfl⟩
   exact @fun Q h=>wpAny_bind (wpAny_specialOf ht.typeIs slot_tuple_iter.lookup (wpAny_pure h))
  | lst ho hv=>
   have ht:s.heap.IsList _ _:=⟨_,S.base _ _ ho,rfl,_,rfl⟩
   exact @fun Q h=>wpAny_bind (wpAny_specialOf ht.typeIs slot_list_iter.lookup (wpAny_pure h))
  | _=>exact hq.elim
 | _=>exact hq.elim
end
section
variable {prog:Program} {w:World} {K:Frag} {btab:List (Str × Value)} {k:Nat} {φ:Fm} {C:Wd->Nat->Prop}
theorem Mono.vds (ds:List D) (vs:List Value):Mono fun W _=>VDs W.B ds vs:=fun _ _ _ _ _ hl h=>h.mono hl.B
theorem tupNames_cons {x:Str} {p:Pos} {r:List PySem.Expr}:tupNames (.Name x p :: r)=(tupNames r).map (x :: ·):=by kernel_rfl
theorem gStores_cons {x:Str} {d:D} {xs:List Str} {ds:List D}:gStores φ (x :: xs) (d :: ds)=(gStore φ x (.d d) >>= fun _=>gStores φ xs ds):=by kernel_rfl
theorem tupNames_len {env:Env}:∀ {es:List PySem.Expr} {xs:List Str},tupNames es=some xs->(assignEach es env).length=xs.length /\ (assignEach es env).findIdx? (·.1)=none
 | [],xs,e=>by cases e; exact ⟨rfl,rfl⟩
 | e :: r,xs,h=>by
  induction e using PySem.Expr.casesOn with
  | Name x p=>
   obtain ⟨l,hl,e⟩:=Option.map_eq_some_iff.mp (tupNames_cons.symm.trans h)
   obtain ⟨a,b⟩:=tupNames_len (env:=env) hl
   exact e ▸ ⟨congrArg (· + 1) a,List.findIdx?_cons.trans (congrArg (Option.map _) b)⟩
  | _=>cases h
theorem snd_stores:∀ {es:List PySem.Expr} {xs:List Str} {ds:List D} {vs:List Value} {C:Wd->Nat->Prop},tupNames es=some xs->Mono C->(∀ W nx,C W nx->VDs W.B ds vs) ->
  SndT prog w K btab k φ C (gStores φ xs ds) (fun env=>Lf prog w (assignInOrder ((assignEach es env).map (·.2)) vs)) (fun _ _ _ _=>True)
 | [],xs,ds,vs,C,hx,hC,hv=>by
  cases hx
  induction ds using List.casesOn with
  | nil=>
   intro st sc a st' sc' ob e hob W A env s Q E hA hS hF hc hq
   cases e
   cases hv _ _ hc
   exact wpAny_pure (hq W s.heap s.toks () (Nat.le_refl _) (.refl _ _) hS hF trivial)
  | cons=>exact SndT.failV
 | e :: r,xs,ds,vs,C,hx,hC,hv=>by
  induction e using PySem.Expr.casesOn with
  | Name x p=>
   obtain ⟨l,hl,e⟩:=Option.map_eq_some_iff.mp (tupNames_cons.symm.trans hx)
   subst e
   induction ds using List.casesOn with
   | nil=>exact SndT.failV
   | cons d ds=>
    induction vs using List.casesOn with
    | nil=>
     intro st sc a st' sc' ob e hob W A env s Q E hA hS hF hc hq
     cases hv _ _ hc
    | cons v vs=>
     rw [gStores_cons]
     exact SndT.cps hC (Snd.T (snd_store (x:=x) (a:=.d d) (v:=v) fun W nx c=>by cases hv W nx c with | cons h _=>exact .d h)) (t2:=fun _ env=>Lf prog w (assignInOrder ((assignEach r env).map (·.2)) vs))
      (fun a b=>snd_stores hl (hC.and (fun _ _ _ _ _ _ h=>h)) fun W nx c=>by cases hv W nx c.1 with | cons _ h=>exact h) fun A env Q E s _ h=>
       (wpAny_bind (wpAny_holding (wpAny_assign_Name h)):wpAny (model prog w) A (holding vs (assign (.Name x p) env v) >>= fun _=>assignInOrder ((assignEach r env).map (·.2)) vs) Q E s)
  | _=>cases hx
theorem gStores_len:∀ {xs:List Str} {ds:List D} {st:St} {sc:List Ev} {b:Unit} {st':St} {sc':List Ev} {ob:List Prop},gStores φ xs ds st sc=some (b,st',sc',ob)->xs.length=ds.length:=by
 intro xs
 induction xs with
 | nil=>intro ds st sc b st' sc' ob e; induction ds using List.casesOn <;> first | rfl | cases e
 | cons x xs ih=>
  intro ds st sc b st' sc' ob e
  induction ds using List.casesOn with
  | nil=>cases e
  | cons d ds=>exact bind_inv (gStores_cons ▸ e:(gStore φ x (.d d) >>= fun _=>gStores φ xs ds) st sc=_) fun _ _ _ _ _ _ e2 _=>congrArg (· + 1) (ih e2)
theorem snd_unpack {es:List PySem.Expr} {xs:List Str} {a:AV} {ds:List D} {v:Value} (hx:tupNames es=some xs) (hC:Mono C) (ha:isSeqD a) (hs:∀ m nx,DSrc m nx a ds) (hv:∀ W nx,C W nx->VA W nx a v) :
  SndT prog w K btab k φ C (gStores φ xs ds) (fun env=>Lf prog w (unpack v (assignEach es env))) (fun _ _ _ _=>True):=by
 intro st sc b st' sc' ob e hob W A env s Q E hA hS hF hc hq
 have hlen:=gStores_len e
 obtain ⟨hl,hf⟩:=tupNames_len (env:=env) hx
 show wpAny (model prog w) A (unpack v (assignEach es env)) Q E s
 unfold unpack
 rw [hl,hf,hlen]
 refine wpAny_bind (wpAny_holding (unpack_items hA.handled hS (hv _ _ hc) (hs _ _) ha fun vs h' tk hvs hk=>?_))
 have T:=snd_stores (prog:=prog) (w:=w) (K:=K) (btab:=btab) (k:=k) (φ:=φ) (C:=fun W _=>VDs W.B ds vs) (ds:=ds) (vs:=vs) hx (Mono.vds ds vs) (fun W nx c=>c) _ _ _ _ _ _ e hob
 exact T W A env { s with heap:=h',toks:=tk } Q E hA (hS.keeps hk) (hF.carry (Nat.le_refl _) (.refl _ _) (Carry.keeps hk)) hvs hq
noncomputable abbrev RFl:Fl->Flow->Wd->Nat->Prop:=fun f g W nx=>FlR W nx f g
theorem p_next:SndT prog w K btab k φ C (pure Fl.next) (fun _ _ Q _ s=>Q Flow.next s) RFl:=SndT.pureV (a:=Fl.next) (b:=Flow.next) fun _ _ _=>trivial
theorem p_brk:SndT prog w K btab k φ C (pure Fl.brk) (fun _ _ Q _ s=>Q Flow.brk s) RFl:=SndT.pureV (a:=Fl.brk) (b:=Flow.brk) fun _ _ _=>trivial
theorem p_cont:SndT prog w K btab k φ C (pure Fl.cont) (fun _ _ Q _ s=>Q Flow.cont s) RFl:=SndT.pureV (a:=Fl.cont) (b:=Flow.cont) fun _ _ _=>trivial
theorem p_ret {a:AV} {v:Value} (h:∀ W nx,C W nx->VA W nx a v):SndT prog w K btab k φ C (pure (Fl.ret a)) (fun _ _ Q _ s=>Q (Flow.ret v) s) RFl:=SndT.pureV (a:=Fl.ret a) (b:=Flow.ret v) h
theorem snd_ghostT {a:AV} {v:Value} {C:Wd->Nat->Prop} (hv:∀ W nx,C W nx->VA W nx a v):SndT prog w K btab k φ C (gFz a) (fun _ _ Q _ s=>Q v s) RV:=by
 induction a using AV.casesOn with
 | loc n=>
  intro st sc c st' sc' ob e hob W A env s Q E hA hS hF hc hq
  induction sc using List.casesOn with
  | nil=>cases e
  | cons z r=>
   induction z using Ev.casesOn with
   | mo x=>
    induction x using MO.casesOn with
    | list l=>
     cases e
     have h1:st.m n=.list l:=hob _ (.head _)
     have h2:n < st.nx:=hob _ (.tail _ (.head _))
     have y:=hS.obj n h2
     rw [h1] at y
     obtain ⟨vs,nn,ho,hvs⟩:=y
     obtain ⟨S',l',c'⟩:=hS.still h2 (by rw [h1]; exact fun q=>nomatch q) ho
     cases hv _ _ hc with
     | loc _=>exact hq _ s.heap s.toks _ (Nat.le_refl _) l' S' (hF.carry (Nat.le_refl _) l' c') (.d (.lst (freeze_at _ _ _) (hvs.mono l'.B)))
    | junk=>
     cases e
     exact hq _ s.heap s.toks _ (Nat.le_refl _) (.refl _ _) hS hF (hv _ _ hc)
    | _=>cases e
   | _=>cases e
 | _=>exact SndT.pureV (R:=RV) hv
theorem isComp_swaps {e:PySem.Expr} (h:isComp e=false) (t:Option PySem.Expr) (l:Nat) (env:Env):swapsWith e t l env=pure false:=by
 induction e using PySem.Expr.casesOn <;> first | rfl | cases h
theorem not_interactive {env:Env} (h:EnvOK φ env):interactive env=false:=by
 unfold interactive
 rw [h.scope,h.kind]
 rfl
theorem snd_setattr {o a:AV} {vo va:Value} {name:Str} (hC:Mono C) (ho:∀ W nx,C W nx->VA W nx o vo) (ha:∀ W nx,C W nx->VA W nx a va) :
  SndT prog w K btab k φ C (do let _ <- gVal fun m nx _ m' nx'=>SetAttrTr prog w K btab k o name a m nx m' nx'; pure Fl.next) (fun _ A Q E s=>wpAny (model prog w) A (setAttr vo name va) (fun _ s'=>Q .next s') E s) RFl:=
 SndT.cps hC (Snd.T (t:=fun _=>setAttr vo name va) (R:=fun _ _ _ _=>True) (snd_val fun _ _ _ _ hP _ _ _ _ _ _ hA hS hF hc hq=>Act.use hP (fun W R b x=>x) hA hS hF trivial ⟨vo,va,(ho _ _ hc).shut,(ha _ _ hc).shut,rfl⟩ hq)) (t2:=fun _ _ _ Q _ s=>Q .next s) (fun _ _=>p_next) fun A env Q E s _ h=>h
theorem snd_setitem {o i a:AV} {vo vi va:Value} (hC:Mono C) (ho:∀ W nx,C W nx->VA W nx o vo) (hi:∀ W nx,C W nx->VA W nx i vi) (ha:∀ W nx,C W nx->VA W nx a va) :
  SndT prog w K btab k φ C (do let _ <- gVal fun m nx _ m' nx'=>SetItemTr prog w K btab k o i a m nx m' nx'; pure Fl.next) (fun _ A Q E s=>wpAny (model prog w) A (setItem vo vi va) (fun _ s'=>Q .next s') E s) RFl:=
 SndT.cps hC (Snd.T (t:=fun _=>setItem vo vi va) (R:=fun _ _ _ _=>True) (snd_val fun _ _ _ _ hP _ _ _ _ _ _ hA hS hF hc hq=>Act.use hP (fun W R b x=>x) hA hS hF trivial ⟨vo,vi,va,(ho _ _ hc).shut,(hi _ _ hc).shut,(ha _ _ hc).shut,rfl⟩ hq)) (t2:=fun _ _ _ Q _ s=>Q .next s) (fun _ _=>p_next) fun A env Q E s _ h=>h
theorem snd_storeT {x:Str} {a:AV} {v:Value} (hC:Mono C) (hv:∀ W nx,C W nx->VA W nx a v):SndT prog w K btab k φ C (do gStore φ x a; pure Fl.next) (fun env A Q E s=>wpAny (model prog w) A (storeName env x v) (fun _=>Q .next) E s) RFl:=
 SndT.cps hC (Snd.T (snd_store (v:=v) hv)) (t2:=fun _ _ _ Q _ s=>Q .next s) (fun _ _=>p_next) fun A env Q E s _ h=>h
theorem exec_Assign_one {M:Model} {A:Around} {E:Value->Shared->Prop} {s:Shared} {env:Env} {t e:PySem.Expr} {q:Pos} {Q:Flow->Shared->Prop} (hc:isComp e=false) (hs:swappedStores [t] e env=pure none) {f:Value->Sem Unit} (ht:(assignEach [t] env).map (·.2) = [f])
  (h:wpAny M A (eval e env) (fun v s₁=>wpAny M A (f v) (fun _ s₂=>Q .next s₂) E s₁) E s):wpAny M A (exec (.Assign [t] e q) env) Q E s:=by
 rw [arm_exec_Assign]
 refine wpAny_bind (wpAny_standAt ?_)
 have e1:swapsWithSole [t] e q.line env=pure false:=isComp_swaps hc _ _ _
 rw [e1]
 refine wpAny_bind (wpAny_pure ?_)
 rw [hs,ht]
 refine wpAny_bind (wpAny_mono h (fun v s₁ h₁=>wpAny_bind (wpAny_pure ?_)) fun _ _ x=>x)
 show wpAny M A (f v >>= fun _=>pure Flow.next) Q E s₁
 exact wpAny_bind (wpAny_mono h₁ (fun _ s₂ h₂=>wpAny_pure h₂) fun _ _ x=>x)
theorem gStep_T {c:Stmt}:SndT prog w K btab k φ C (gStep fun st f st'=>STr prog w K btab k φ c st f st') (fun env=>Lf prog w (exec c env)) RFl:=by
 intro st sc a st' sc' ob e hob W A env s Q E hA hS hF hc hq
 induction sc using List.casesOn with
 | nil=>cases e
 | cons z r=>induction z using Ev.casesOn with
  | fl=>cases e; exact hob _ (.head _) W A env s Q E hA hS hF trivial hq
  | _=>cases e
noncomputable def flRest (f:Flow) (x y:Prop):Prop:=match f with
 | .next=>x
 | _=>y
theorem ok_exs {f:Stmt->G Fl} (ih:∀ {C:Wd->Nat->Prop} (c:Stmt),Mono C->SndT prog w K btab k φ C (f c) (fun env=>Lf prog w (exec c env)) RFl):∀ (b:List Stmt) {C:Wd->Nat->Prop},Mono C->SndT prog w K btab k φ C (exsL f b) (fun env=>Lf prog w (execs b env)) RFl:=by
 intro b
 induction b with
 | nil=>exact fun _=>SndT.tree p_next fun A env Q E s _ h=>wpAny_pure h
 | cons c r hr=>
  intro C hC
  refine SndT.cps hC (ih c hC) (t2:=fun f env A Q E s=>flRest f (wpAny (model prog w) A (execs r env) Q E s) (Q f s)) (fun f g=>?_) fun A env Q E s _ h=>wpAny_execs_cons (wpAny_mono h (fun f s₁ h₁=>by induction f using PySem.Flow.casesOn <;> exact h₁) fun _ _ x=>x)
  have bad:(∀ W nx,¬ FlR W nx f g)->∀ {g':G Fl} {t:Env->PT Flow},SndT prog w K btab k φ (fun W nx=>C W nx /\ RFl f g W nx) g' t RFl:=fun h _ _ st sc a' st' sc' ob e hob W A env s Q E hA hS hF hc hq=>(h _ _ hc.2).elim
  cases f <;> cases g <;> first
   | exact hr (hC.and fun _ _ _ _ _ _ h=>h)
   | exact p_cont
   | exact p_brk
   | exact p_ret fun W nx c=>c.2
   | exact bad fun _ _ h=>h
theorem litV_is {a:AV} {v:Value} {W:Wd} {nx:Nat} (hl:litV a=true) (h:VA W nx a v):(match v with | .ref _=>False | _=>True):=by
 induction a using AV.casesOn with
 | d x=>
  induction x using D.casesOn with
  | none=>cases va_none h; trivial
  | str=>obtain ⟨t,rfl⟩:=va_str h; trivial
  | int=>obtain ⟨t,rfl⟩:=va_int h; trivial
  | _=>cases hl
 | _=>cases hl
theorem seqOf_is {a:AV} {ds:List D} (h:seqOf a=some ds):isSeqD a /\ ∀ m nx,DSrc m nx a ds:=by
 induction a using AV.casesOn with
 | d x=>
  induction x using D.casesOn with
  | tup l=>cases h; exact ⟨trivial,fun _ _=>rfl⟩
  | lst l=>cases h; exact ⟨trivial,fun _ _=>rfl⟩
  | _=>cases h
 | _=>cases h
variable {T:EvT}
theorem ok_assign (ie:OKT prog w K btab k T) (φ:Fm) (t e:PySem.Expr) (q:Pos) (hC:Mono C) :
  SndT prog w K btab k φ C (exAssign prog w K btab T k φ t e q) (fun env=>Lf prog w (exec (.Assign [t] e q) env)) RFl:=by
 cases t with
 | Name x p=>
  refine snd_gif (fun _=>gStep_T) fun hcomp=>?_
  exact SndT.cps hC (ie.ev φ e hC) (t2:=fun v env A Q E s=>wpAny (model prog w) A (storeName env x v) (fun _=>Q .next) E s) (fun a v=>snd_storeT (hC.and (Mono.va _ _)) fun W nx c=>c.2) fun A env Q E s _ h=>wpAny_Assign_Name h (isComp_swaps hcomp _ _ _)
 | Tuple es x1 p=>
  refine snd_gopt (fun xs hxs=>snd_gif (fun _=>SndT.failV) fun hcond=>?_) fun _=>SndT.failV
  have hcomp:=(Bool.or_eq_false_iff.mp hcond).1
  have hne:=(Bool.or_eq_false_iff.mp hcond).2
  refine SndT.cps hC (ie.ev φ e hC) (t2:=fun v env A Q E s=>wpAny (model prog w) A (unpack v (assignEach es env)) (fun _=>Q .next) E s) (fun a v=>snd_gopt (fun ds hds=>?_) fun _=>SndT.failV) fun A env Q E s _ h=>?_
  ·exact SndT.cps (hC.and (Mono.va _ _)) (snd_unpack (v:=v) hxs (hC.and (Mono.va _ _)) (seqOf_is hds).1 (seqOf_is hds).2 fun W nx c=>c.2) (t2:=fun _ _ _ Q _ s=>Q .next s) (fun _ _=>p_next) fun A env Q E s _ h=>h
  ·refine exec_Assign_one hcomp (f:=fun v=>assign (.Tuple es x1 p) env v) ?_ rfl (wpAny_mono h (fun v s₁ h₁=>?_) fun _ _ x=>x)
   ·induction e using PySem.Expr.casesOn <;> first | rfl | cases hne
   ·rw [arm_assign_Tuple]
    exact wpAny_bind (wpAny_standAt (wpAny_mono h₁ (fun _ s₂ h₂=>h₂) fun _ _ x=>x))
 | Attribute o name p=>
  refine snd_gif (fun _=>SndT.failV) fun hcomp=>?_
  refine SndT.cps hC (ie.ev φ e hC) (t2:=fun v env A Q E s=>wpAny (model prog w) A (eval o env) (fun vo s₂=>wpAny (model prog w) A (setAttr vo name v) (fun _ s'=>Q .next s') E s₂) E s) (fun a v=>?_) fun A env Q E s _ h=>?_
  ·exact SndT.cps (hC.and (Mono.va _ _)) (ie.ev φ o (hC.and (Mono.va _ _))) (t2:=fun vo env A Q E s=>wpAny (model prog w) A (setAttr vo name v) (fun _ s'=>Q .next s') E s) (fun b vo=>snd_setattr ((hC.and (Mono.va _ _)).and (Mono.va _ _)) (fun W nx c=>c.2) fun W nx c=>c.1.2) fun A env Q E s _ h=>h
  ·refine exec_Assign_one hcomp (f:=fun v=>assign (.Attribute o name p) env v) rfl rfl (wpAny_mono h (fun v s₁ h₁=>?_) fun _ _ x=>x)
   rw [arm_assign_Attribute]
   exact wpAny_bind (wpAny_holding (wpAny_mono h₁ (fun vo s₂ h₂=>wpAny_bind (wpAny_standAt (wpAny_bind (wpAny_holding (wpAny_mono h₂ (fun _ s₃ h₃=>wpAny_release h₃) fun _ _ x=>x))))) fun _ _ x=>x))
 | Subscript o i p=>
  refine snd_gif (fun _=>SndT.failV) fun hcond=>?_
  have hcomp:=(Bool.or_eq_false_iff.mp hcond).1
  refine SndT.cps hC (ie.ev φ e hC) (t2:=fun v env A Q E s=>wpAny (model prog w) A (eval o env) (fun vo s₂=>wpAny (model prog w) A (eval i env) (fun vi s₃=>wpAny (model prog w) A (setItem vo vi v) (fun _ s'=>Q .next s') E s₃) E s₂) E s) (fun a v=>?_)
   fun A env Q E s _ h=>wpAny_Assign_Subscript h (isComp_swaps hcomp _ _ _)
  refine SndT.cps (hC.and (Mono.va _ _)) (ie.ev φ o (hC.and (Mono.va _ _))) (t2:=fun vo env A Q E s=>wpAny (model prog w) A (eval i env) (fun vi s₃=>wpAny (model prog w) A (setItem vo vi v) (fun _ s'=>Q .next s') E s₃) E s) (fun b vo=>?_) fun A env Q E s _ h=>h
  exact SndT.cps ((hC.and (Mono.va _ _)).and (Mono.va _ _)) (ie.ev φ i ((hC.and (Mono.va _ _)).and (Mono.va _ _))) (t2:=fun vi env A Q E s=>wpAny (model prog w) A (setItem vo vi v) (fun _ s'=>Q .next s') E s)
   (fun c vi=>snd_setitem (((hC.and (Mono.va _ _)).and (Mono.va _ _)).and (Mono.va _ _)) (fun W nx c=>c.1.2) (fun W nx c=>c.2) fun W nx c=>c.1.1.2) fun A env Q E s _ h=>h
 | _=>exact SndT.failV
theorem ok_aug (ie:OKT prog w K btab k T) (φ:Fm) (t:PySem.Expr) (op:Operator) (e:PySem.Expr) (q:Pos) (hC:Mono C) :
  SndT prog w K btab k φ C (exAug prog w K btab T k φ t op e) (fun env=>Lf prog w (exec (.AugAssign t op e q) env)) RFl:=by
 induction t using PySem.Expr.casesOn with
 | Name x p=>
  refine SndT.cps hC (Snd.T (snd_name x)) (t2:=fun old env A Q E s=>wpAny (model prog w) A (eval e env) (fun v s₂=>wpAny (model prog w) A (inplaceOp op old v) (fun r s₃=>wpAny (model prog w) A (storeName env x r) (fun _=>Q .next) E s₃) E s₂) E s) (fun a va=>?_)
   fun A env Q E s _ h=>wpAny_AugAssign_Name h
  refine SndT.cps (hC.and (Mono.va _ _)) (ie.ev φ e (hC.and (Mono.va _ _))) (t2:=fun v env A Q E s=>wpAny (model prog w) A (inplaceOp op va v) (fun r s₃=>wpAny (model prog w) A (storeName env x r) (fun _=>Q .next) E s₃) E s) (fun b vb=>?_) fun A env Q E s _ h=>h
  exact SndT.cps (t1:=fun _=>Lf prog w (inplaceOp op va vb)) ((hC.and (Mono.va _ _)).and (Mono.va _ _)) (Snd.T (snd_bin (g:=true) (fun W nx c=>c.1.2) fun W nx c=>c.2)) (t2:=fun r env A Q E s=>wpAny (model prog w) A (storeName env x r) (fun _=>Q .next) E s) (fun c vc=>snd_storeT (((hC.and (Mono.va _ _)).and (Mono.va _ _)).and (Mono.va _ _)) fun W nx c=>c.2) fun A env Q E s _ h=>h
 | Attribute o name tp=>
  refine SndT.cps hC (ie.ev φ o hC) (t2:=fun vo env A Q E s=>wpAny (model prog w) A (getAttr vo name true) (fun old s₁=>wpAny (model prog w) A (eval e env) (fun v s₂=>wpAny (model prog w) A (inplaceOp op old v) (fun r s₃=>wpAny (model prog w) A (setAttr vo name r) (fun _ s'=>Q .next s') E s₃) E s₂) E s₁) E s) (fun a vo=>?_) fun A env Q E s _ h=>?_
  ·refine SndT.cps (hC.and (Mono.va _ _)) (R:=RV) (t1:=fun _=>Lf prog w (getAttr vo name true)) (Snd.T (t:=fun _=>getAttr vo name true) (snd_val fun st r m' nx' hP W A env s Q E hA hS hF hc hq=>Act.use hP (fun W R b x=>x.R) hA hS hF trivial ⟨vo,true,hc.2.shut,rfl⟩ hq))
    (t2:=fun old env A Q E s=>wpAny (model prog w) A (eval e env) (fun v s₂=>wpAny (model prog w) A (inplaceOp op old v) (fun r s₃=>wpAny (model prog w) A (setAttr vo name r) (fun _ s'=>Q .next s') E s₃) E s₂) E s) (fun b vold=>?_) fun A env Q E s _ h=>h
   refine SndT.cps ((hC.and (Mono.va _ _)).and (Mono.va _ _)) (ie.ev φ e ((hC.and (Mono.va _ _)).and (Mono.va _ _))) (t2:=fun v env A Q E s=>wpAny (model prog w) A (inplaceOp op vold v) (fun r s₃=>wpAny (model prog w) A (setAttr vo name r) (fun _ s'=>Q .next s') E s₃) E s) (fun c vc=>?_) fun A env Q E s _ h=>h
   exact SndT.cps (t1:=fun _=>Lf prog w (inplaceOp op vold vc)) (((hC.and (Mono.va _ _)).and (Mono.va _ _)).and (Mono.va _ _)) (Snd.T (snd_bin (g:=true) (fun W nx c=>c.1.2) fun W nx c=>c.2)) (t2:=fun r env A Q E s=>wpAny (model prog w) A (setAttr vo name r) (fun _ s'=>Q .next s') E s)
    (fun d vd=>snd_setattr ((((hC.and (Mono.va _ _)).and (Mono.va _ _)).and (Mono.va _ _)).and (Mono.va _ _)) (fun W nx c=>c.1.1.1.2) fun W nx c=>c.2) fun A env Q E s _ h=>h
  ·show wpAny (model prog w) A (exec _ env) Q E s
   rw [arm_exec_AugAssign_2]
   refine wpAny_bind (wpAny_standAt (wpAny_bind (wpAny_mono h (fun vo s₁ h₁=>wpAny_bind (wpAny_holding (wpAny_bind (wpAny_standAt (wpAny_bind (wpAny_mono h₁ (fun old s₂ h₂=>wpAny_bind (wpAny_holding (wpAny_mono h₂ (fun v s₃ h₃=>?_) fun _ _ x=>x))) fun _ _ x=>x)))))) fun _ _ x=>x)))
   refine wpAny_bind (wpAny_standAt (wpAny_operating (wpAny_mono h₃ (fun r s₄ h₄=>?_) fun _ _ x=>x)))
   exact wpAny_bind (wpAny_standAt (wpAny_bind (wpAny_holding (wpAny_mono h₄ (fun _ s₅ h₅=>wpAny_bind (wpAny_release (wpAny_pure h₅))) fun _ _ x=>x))))
 | _=>exact SndT.failV
theorem ok_ex {f:Fm->Stmt->G Fl} (ie:OKT prog w K btab k T) (ih:∀ {C:Wd->Nat->Prop} (φ:Fm) (c:Stmt),Mono C->SndT prog w K btab k φ C (f φ c) (fun env=>Lf prog w (exec c env)) RFl) (φ:Fm) (c:Stmt) (hC:Mono C) :
  SndT prog w K btab k φ C (stepEx prog w K btab T f k φ c) (fun env=>Lf prog w (exec c env)) RFl:=by
 cases c with
 | Expr e p=>
  refine snd_gif (fun _=>SndT.failV) fun hcomp=>?_
  refine SndT.cps hC (ie.ev φ e hC) (t2:=fun v _ _ Q _ s=>match v with | .ref _=>False | _=>Q .next s) (fun a v=>snd_gif (fun hl=>?_) fun _=>SndT.failV) fun A env Q E s hE h=>wpAny_Expr h (not_interactive hE) (isComp_swaps hcomp _ _ _)
  intro st sc a st' sc' ob e hob W A env s Q E hA hS hF hc hq
  cases e
  have hn:=litV_is hl hc.2
  have hQ:=hq W s.heap s.toks .next (Nat.le_refl _) (.refl _ _) hS hF trivial
  cases v <;> first | exact hQ | exact hn
 | Pass p=>exact SndT.tree p_next fun A env Q E s _ h=>wpAny_Pass h
 | Break p=>exact SndT.tree p_brk fun A env Q E s _ h=>PySem.wpAny_Break h
 | Continue p=>exact SndT.tree p_cont fun A env Q E s _ h=>PySem.wpAny_Continue h
 | Return o p=>
  refine snd_gopt (fun e ho=>?_) fun ho=>?_
  ·cases ho
   exact SndT.cps hC (ie.ev φ e hC) (t2:=fun v _ _ Q _ s=>Q (.ret v) s) (fun a v=>SndT.cps (hC.and (Mono.va _ _)) (snd_ghostT (v:=v) fun W nx c=>c.2) (t2:=fun v' _ _ Q _ s=>Q (.ret v') s) (fun b v'=>p_ret fun W nx c=>c.2) fun A env Q E s _ h=>h) fun A env Q E s _ h=>wpAny_Return_some h
  ·cases ho
   exact SndT.tree (p_ret (a:=.d .none) (v:=.none) fun _ _ _=>.d .none) fun A env Q E s _ h=>wpAny_Return_none h
 | Assign ts e q=>
  refine snd_gopt (fun t ht=>?_) fun _=>SndT.failV
  cases one_is ht
  exact ok_assign ie φ t e q hC
 | AugAssign t op e q=>exact ok_aug ie φ t op e q hC
 | If t b o p=>exact ok_if ie φ (tb:=fun env=>Lf prog w (execs b env)) (to:=fun env=>Lf prog w (execs o env)) hC (fun hC=>ok_exs (fun c hC=>ih φ c hC) b hC) (fun hC=>ok_exs (fun c hC=>ih φ c hC) o hC) fun A env Q E s h=>wpAny_If h
 | While t b o q=>exact gStep_T
 | For x i b o q=>exact gStep_T
 | _=>exact SndT.failV
theorem okx:∀ (n:Nat) {C:Wd->Nat->Prop} (φ:Fm) (c:Stmt),Mono C->SndT prog w K btab k φ C (ex prog w K btab k n φ c) (fun env=>Lf prog w (exec c env)) RFl
 | 0,_,_,_,_=>SndT.failV
 | n+1,_,φ,c,hC=>ok_ex (okn n) (fun φ c hC=>okx n φ c hC) φ c hC
theorem oks (n:Nat) (φ:Fm) (b:List Stmt) (hC:Mono C):SndT prog w K btab k φ C (exs prog w K btab k n φ b) (fun env=>Lf prog w (execs b env)) RFl:=ok_exs (fun c hC=>okx n φ c hC) b hC
end
noncomputable def fnD (K:Frag) (a:Addr):FuncData:=match K.lookup a with
 | some o=>(match o.data with | .func fd=>fd | _=>default)
 | none=>default
noncomputable def fnChk (K:Frag) (a:Addr):Bool:=match K.lookup a with
 | some o=>(match o.data with
  | .func fd=>fd.closure.isEmpty && (match fd.scope.kind with | .function=>true | _=>false) && !fd.scope.isCoroutine && !fd.scope.isGenerator && Nat.beq fd.globals mainGlobals && Nat.beq fd.builtins builtinsNs && codeIn K fd.code fd.qualname
    && (match fd.body with | .stmts _=>true | _=>false)
  | _=>false)
 | none=>false
noncomputable def bodyOf (fd:FuncData):List Stmt:=match fd.body with | .stmts b=>b | _=>[]
noncomputable def codeAd (fd:FuncData):Option Addr:=match fd.code with | .ref c=>some c | _=>none
noncomputable def fmOf (fd:FuncData) (caps:List (Str × AV)):Fm:=⟨fd.scope,caps,codeAd fd,fd.qualname⟩
noncomputable def bindN {α:Type} (slots dfl:List (Str × α)):List Str->Option (List (Str × α))
 | []=>some []
 | n :: r=>match slots.lookup n with
  | some v=>(match bindN slots dfl r with | some l=>some ((n,v) :: l) | none=>none)
  | none=>(match dfl.lookup n with
   | some v=>(match bindN slots dfl r with | some l=>some ((n,v) :: l) | none=>none)
   | none=>none)
noncomputable def posNames (fd:FuncData):List Str:=(fd.params.posonlyargs ++ fd.params.args).map (·.arg)
noncomputable def kwoNames (fd:FuncData):List Str:=fd.params.kwonlyargs.map (·.arg)
noncomputable def tupVals (K:Frag) (v:Value):List Value:=match v with
 | .ref t=>(match K.lookup t with
  | some o=>(match o.data with | .seq vs _=>vs.toList | _=>[])
  | none=>[])
 | _=>[]
noncomputable def dictVals (K:Frag) (v:Value):List (Str × Value):=match v with
 | .ref t=>(match K.lookup t with
  | some o=>(match o.data with | .dict es _=>es.toList.filterMap fun e=>(match e.key with | .str s _=>some (s,e.val) | _=>none) | _=>[])
  | none=>[])
 | _=>[]
noncomputable def dflts (K:Frag) (fd:FuncData):List (Str × Value):=
 ((posNames fd).drop ((posNames fd).length - (tupVals K fd.defaults).length)).zip (tupVals K fd.defaults) ++ dictVals K fd.kwdefaults
class inductive VB (W:Wd) (nx:Nat):List (Str × AV)->List (Str × Value)->Prop
 | nil:VB W nx [] []
 | cons {n:Str} {a:AV} {v:Value} {l:List (Str × AV)} {r:List (Str × Value)} (h:VA W nx a v) (t:VB W nx l r):VB W nx ((n,a) :: l) ((n,v) :: r)
theorem VB.lookup {W:Wd} {nx:Nat} {l:List (Str × AV)} {r:List (Str × Value)} (h:VB W nx l r) (n:Str) :
  (l.lookup n=none /\ r.lookup n=none) \/ (Ex2 fun a v=>A3 (l.lookup n=some a) (r.lookup n=some v) (VA W nx a v)):=by
 induction h with
 | nil=>exact .inl ⟨rfl,rfl⟩
 | @cons m a v l r h t ih=>
  rw [List.lookup_cons,List.lookup_cons]
  cases n == m with
  | true=>exact .inr ⟨a,v,rfl,rfl,h⟩
  | false=>exact ih
theorem VB.zip {W:Wd} {nx:Nat}:∀ (ns:List Str) {as:List AV} {vs:List Value},VAs W nx as vs->VB W nx (ns.zip as) (ns.zip vs)
 | [],_,_,_=>.nil
 | _ :: _,_,_,.nil=>.nil
 | _ :: ns,_,_,.cons h r=>.cons h (VB.zip ns r)
theorem VAs.len {W:Wd} {nx:Nat} {as:List AV} {vs:List Value} (h:VAs W nx as vs):vs.length=as.length:=VAs.rec (motive:=fun as vs _=>vs.length=as.length) rfl (fun _ _ ih=>congrArg (· + 1) ih) h
theorem kw_zip {W:Wd} {nx:Nat} {kws:List (Str × AV)} {kvs:List Value} (h:VAs W nx (kws.map (·.2)) kvs):VB W nx kws ((kws.map (·.1)).zip kvs):=by
 have e:(kws.map (·.1)).zip (kws.map (·.2))=kws:=by
  rw [List.zip_map']
  simp
 have z:=VB.zip (kws.map (·.1)) h
 rw [e] at z
 exact z
theorem VB.append {W:Wd} {nx:Nat} {l l':List (Str × AV)} {r r':List (Str × Value)} (x:VB W nx l r) (y:VB W nx l' r'):VB W nx (l ++ l') (r ++ r'):=by
 induction x with
 | nil=>exact y
 | cons h t ih=>exact .cons h ih
theorem VB.top {W:Wd} {nx:Nat}:∀ (d:List (Str × Value)),VB W nx (d.map fun p=>(p.1,ofTop p.2)) d
 | []=>.nil
 | _ :: d=>.cons (ofTop_va _ _ _) (VB.top d)
theorem VB.keys {W:Wd} {nx:Nat} {x:List (Str × AV)} {y:List (Str × Value)} (h:VB W nx x y):y.map (·.1)=x.map (·.1):=by
 induction h with
 | nil=>rfl
 | cons h t ih=>rw [List.map_cons,List.map_cons,ih]
theorem bindN_cons {α:Type} {s d:List (Str × α)} {n:Str} {r:List Str}:bindN s d (n :: r)=((s.lookup n).or (d.lookup n)).bind fun v=>(bindN s d r).map ((n,v) :: ·):=by
 conv=>lhs; unfold bindN
 cases s.lookup n with
 | some v=>cases bindN s d r <;> rfl
 | none=>cases d.lookup n with
  | none=>rfl
  | some v=>cases bindN s d r <;> rfl
theorem VB.or {W:Wd} {nx:Nat} {s1 d1:List (Str × AV)} {s2 d2:List (Str × Value)} (hs:VB W nx s1 s2) (hd:VB W nx d1 d2) {n:Str} {a:AV} (h:(s1.lookup n).or (d1.lookup n)=some a):∃ v,(s2.lookup n).or (d2.lookup n)=some v /\ VA W nx a v:=by
 refine (hs.lookup n).elim (fun x=>?_) fun x=>?_
 ·rw [x.1] at h
  rw [x.2]
  refine (hd.lookup n).elim (fun y=>ns (y.1.symm.trans h)) fun y=>?_
  obtain ⟨b,v,e1,e2,hv⟩:=y
  exact ⟨v,e2,Option.some.inj (e1.symm.trans h) ▸ hv⟩
 ·obtain ⟨b,v,e1,e2,hv⟩:=x
  rw [e1] at h
  rw [e2]
  exact ⟨v,rfl,Option.some.inj h ▸ hv⟩
theorem bindN_va {W:Wd} {nx:Nat} {s1 d1:List (Str × AV)} {s2 d2:List (Str × Value)} (hs:VB W nx s1 s2) (hd:VB W nx d1 d2) :
  ∀ (ns:List Str) {ab:List (Str × AV)},bindN s1 d1 ns=some ab->∃ b,bindN s2 d2 ns=some b /\ VB W nx ab b
 | [],ab,e=>by cases e; exact ⟨[],rfl,.nil⟩
 | n :: ns,ab,e=>by
  obtain ⟨a,e1,e2⟩:=Option.bind_eq_some_iff.mp (bindN_cons.symm.trans e)
  obtain ⟨l,e3,e4⟩:=Option.map_eq_some_iff.mp e2
  obtain ⟨v,q1,hv⟩:=hs.or hd e1
  obtain ⟨b,q2,hb⟩:=bindN_va hs hd ns e3
  rw [bindN_cons,q1]
  exact ⟨(n,v) :: b,congrArg (Option.map _) q2,e4 ▸ .cons hv hb⟩
noncomputable def BindQ (K:Frag) (fd:FuncData) (n:Nat) (kn:List Str):Prop:=
 ∀ (S:Setting) (vs kvs:List Value),vs.length=n->kvs.length=kn.length->peek K S (bindArgs fd ⟨vs,kn.zip kvs⟩)=bindN ((posNames fd).zip vs ++ kn.zip kvs) (dflts K fd) (posNames fd ++ kwoNames fd)
noncomputable def kindsOk (sc:Scope) (names:List Str):Bool:=names.all fun n=>match sc.names.lookup n with
 | some .local=>true
 | some .cell=>true
 | _=>false
noncomputable def nodupB:List Str->Bool
 | []=>true
 | x :: r=>!r.contains x && nodupB r
theorem nodupB_nd:∀ {l:List Str},nodupB l=true->l.Nodup
 | [],_=>.nil
 | x :: r,h=>by
  unfold nodupB at h
  simp only [Bool.and_eq_true,Bool.not_eq_true',List.contains_eq_mem,decide_eq_false_iff_not] at h
  exact List.nodup_cons.mpr ⟨h.1,nodupB_nd h.2⟩
theorem bindL_other {kindOf:Str->Option NameKind} {x:Str}:∀ (b:List (Str × Value)) (m:Str->Option Value),x ∉ b.map (·.1)->bindL kindOf b m x=m x
 | [],m,_=>rfl
 | (n,v) :: r,m,h=>by
  unfold bindL
  have h1:x ≠ n:=fun z=>h (by rw [z]; exact List.mem_cons_self ..)
  have h2:x ∉ r.map (·.1):=fun z=>h (List.mem_cons_of_mem _ z)
  rw [bindL_other r _ h2]
  split
  ·exact if_neg h1
  ·rfl
theorem bindL_at {kindOf:Str->Option NameKind} {x:Str} (hk:kindOf x=some .local):∀ (b:List (Str × Value)) (m:Str->Option Value) {v:Value},(b.map (·.1)).Nodup->b.lookup x=some v->bindL kindOf b m x=some v
 | [],m,_,_,h=>by cases h
 | (n,v) :: r,m,u,hn,h=>by
  unfold bindL
  rw [List.map_cons,List.nodup_cons] at hn
  rw [List.lookup_cons] at h
  cases q:x == n with
  | true=>
   rw [q] at h
   cases h
   have:x=n:=eq_of_beq q
   subst this
   rw [bindL_other r _ hn.1,if_pos hk,if_pos rfl]
  | false=>
   rw [q] at h
   exact bindL_at hk r _ hn.2 h
theorem bindC_other {kindOf:Str->Option NameKind} {x:Str}:∀ (b:List (Str × Value)) (m:Str->Option Value),x ∉ b.map (·.1)->bindC kindOf b m x=m x
 | [],m,_=>rfl
 | (n,v) :: r,m,h=>by
  unfold bindC
  have h1:x ≠ n:=fun z=>h (by rw [z]; exact List.mem_cons_self ..)
  have h2:x ∉ r.map (·.1):=fun z=>h (List.mem_cons_of_mem _ z)
  rw [bindC_other r _ h2]
  split
  ·rfl
  ·exact if_neg h1
theorem bindC_at {kindOf:Str->Option NameKind} {x:Str} (hk:kindOf x ≠ some .local):∀ (b:List (Str × Value)) (m:Str->Option Value) {v:Value},(b.map (·.1)).Nodup->b.lookup x=some v->bindC kindOf b m x=some v
 | [],m,_,_,h=>by cases h
 | (n,v) :: r,m,u,hn,h=>by
  unfold bindC
  rw [List.map_cons,List.nodup_cons] at hn
  rw [List.lookup_cons] at h
  cases q:x == n with
  | true=>
   rw [q] at h
   cases h
   have:x=n:=eq_of_beq q
   subst this
   rw [bindC_other r _ hn.1,if_neg hk,if_pos rfl]
  | false=>
   rw [q] at h
   exact bindC_at hk r _ hn.2 h
set_option tactic.hygienic true in
theorem cells_some {x:Str}:∀ (names:List (Str × NameKind)) (n:Nat) (acc:List (Str × Addr)),(names.lookup x=some .cell \/ (acc.lookup x).isSome=true)->((cellsFrom n names acc).lookup x).isSome=true
 | [],n,acc,h=>by
  rcases h with h | h
  ·cases h
  ·exact h
 | (y,k) :: r,n,acc,h=>by
  unfold cellsFrom
  rw [List.lookup_cons] at h
  cases q:x == y with
  | true=>
   rw [q] at h
   split
   ·refine cells_some r _ _ (.inr ?_)
    rw [List.lookup_cons,q]; rfl
   ·rename_i hk
    refine cells_some r _ _ (.inr ?_)
    rcases h with h | h
    ·cases h; exact (hk rfl).elim
    ·exact h
  | false=>
   rw [q] at h
   split
   ·refine cells_some r _ _ ?_
    rcases h with h | h
    ·exact .inl h
    ·right; rw [List.lookup_cons,q]; exact h
   ·exact cells_some r _ _ h
theorem mem_of_lookupA {x:Str} {c:Addr}:∀ {l:List (Str × Addr)},l.lookup x=some c->(x,c) ∈ l:=mem_of_lookup
theorem pairwise_ne {l:List (Str × Addr)} (h:l.Pairwise fun x y=>x.2 ≠ y.2) {x y:Str} {c c':Addr} (hx:(x,c) ∈ l) (hy:(y,c') ∈ l) (hne:y ≠ x):c' ≠ c:=by
 induction h with
 | nil=>cases hx
 | @cons a l h1 h2 ih=>
  cases hx with
  | head=>
   cases hy with
   | head=>exact (hne rfl).elim
   | tail _ hy=>exact fun z=>h1 _ hy z.symm
  | tail _ hx=>
   cases hy with
   | head=>exact h1 _ hx
   | tail _ hy=>exact ih hx hy
section
variable {prog:Program} {w:World} {K:Frag} {btab:List (Str × Value)} {k:Nat}
noncomputable def retOf:Fl->AV
 | .ret a=>a
 | _=>.d .none
theorem and_t {a b:Bool} (h:(a && b)=true):a=true /\ b=true:=(Bool.and_eq_true a b).mp h
theorem not_t {b:Bool}:(!b)=true->b=false:=by cases b <;> first | exact fun _=>rfl | exact fun h=>ft h
theorem fnChk_inv {a:Addr} {P:Prop} (hc:fnChk K a=true) (h:∀ o fd,K.lookup a=some o->o.data=.func fd->fnD K a=fd->fd.closure.isEmpty=true->fd.scope.kind=.function->fd.scope.isCoroutine=false->fd.scope.isGenerator=false->fd.globals=mainGlobals->fd.builtins=builtinsNs->codeIn K fd.code fd.qualname=true->fd.body=.stmts (bodyOf fd)->P):P:=by
 have e:fnD K a=fnD K a:=rfl
 revert hc e
 unfold fnChk
 conv=>enter [2,1,1]; unfold fnD
 cases ho:K.lookup a with
 | none=>exact fun h=>ft h
 | some o=>
  obtain ⟨cl,d1,dt,d2⟩:=o
  induction dt using Data.casesOn with
  | func fd=>
   intro hc e
   obtain ⟨hc,h8⟩:=and_t hc
   obtain ⟨hc,h7⟩:=and_t hc
   obtain ⟨hc,h6⟩:=and_t hc
   obtain ⟨hc,h5⟩:=and_t hc
   obtain ⟨hc,h4⟩:=and_t hc
   obtain ⟨hc,h3⟩:=and_t hc
   obtain ⟨h1,h2⟩:=and_t hc
   refine h _ fd ho rfl e.symm h1 ?_ (not_t h3) (not_t h4) (Nat.eq_of_beq_eq_true h5) (Nat.eq_of_beq_eq_true h6) h7 ?_
   ·revert h2; cases fd.scope.kind <;> first | exact fun _=>rfl | exact fun h=>ft h
   ·revert h8; unfold bodyOf; cases fd.body <;> first | exact fun _=>rfl | exact fun h=>ft h
  | _=>exact fun h=>ft h
theorem fn_at {h:Heap} (X:K.In h) {a:Addr} (hc:fnChk K a=true):(∃ o,A10 (h.get? a=some o) (o.data=.func (fnD K a)) ((fnD K a).closure = []) ((fnD K a).scope.kind=.function) ((fnD K a).scope.isCoroutine=false) ((fnD K a).scope.isGenerator=false) ((fnD K a).globals=mainGlobals) ((fnD K a).builtins=builtinsNs) (h.CodeRec (fnD K a).code (fnD K a).qualname) ((fnD K a).body=.stmts (bodyOf (fnD K a)))):=
 fnChk_inv hc fun o fd ho hd e h1 h2 h3 h4 h5 h6 h7 h8=>by
  rw [e]
  exact ⟨o,X _ _ ho,hd,List.isEmpty_iff.mp h1,h2,h3,h4,h5,h6,codeRec_of X h7,h8⟩
theorem codeAd_ref {fd:FuncData} {c:Addr}:codeAd fd=some c->fd.code=.ref c:=by
 unfold codeAd
 cases fd.code <;> first | exact fun h=>ns h | exact fun h=>congrArg _ (Option.some.inj h)
theorem kinds_at {sc:Scope} {x:Str} (h:(match sc.names.lookup x with
 | some .local=>true
 | some .cell=>true
 | _=>false)=true):sc.names.lookup x=some .local \/ sc.names.lookup x=some .cell:=by
 revert h
 cases q:sc.names.lookup x with
 | none=>exact fun h=>ft h
 | some k=>cases k <;> first | exact fun _=>.inl rfl | exact fun _=>.inr rfl | exact fun h=>ft h
set_option tactic.hygienic true in
theorem frame_new {W:Wd} {m:Nat->MO} {nx:Nat} {s s':Shared} {fd:FuncData} {a:Addr} {ab:List (Str × AV)} {binds:List (Str × Value)} (S:SInv prog w K btab W m nx s.heap) (hv:VB W nx ab binds) (hnd:(ab.map (·.1)).Nodup)
  (hkind:fd.scope.kind=.function) (hg:fd.globals=mainGlobals) (hb:fd.builtins=builtinsNs) {env:Env} (he:env=newEnv fd.scope s.heap.objs.size fd.globals (cellsFrom (s.heap.objs.size+1) fd.scope.names []) (fd.qualname ++ ".<locals>.") (some a) fd.code none fd.builtins)
  (x:InCallC s env.locals (bindL env.kindOf binds fun _=>none) env.cells (bindC env.kindOf binds fun _=>none) s') :
  SInv prog w K btab W m nx s'.heap /\ FInv W (fmOf fd []) env ⟨ab,[],m,nx⟩ s'.heap:=by
 have hk:Keeps s.heap s'.heap:=fun b o e=>x.toInCall.keep b o e
 have hkeys:=hv.keys
 have kind (y:Str):env.kindOf y=fd.scope.names.lookup y:=by rw [he]; rfl
 have hcells:env.cells=cellsFrom (s.heap.objs.size+1) fd.scope.names []:=by rw [he]; rfl
 have hloc:env.locals=s.heap.objs.size:=by rw [he]; rfl
 have gone {c:Addr} (h:s.heap.objs.size<=c):s.heap.get? c=none:=by
  cases q:s.heap.get? c with
  | none=>rfl
  | some o=>exact absurd (Heap.lt_size q) (Nat.not_lt.mpr h)
 refine ⟨S.keeps hk,⟨by rw [he]; rfl,hkind,by rw [he]; exact hg,by rw [he]; exact hb,by rw [he]; rfl,?_,?_,⟨_,x.toInCall.ns,?_⟩,?_,?_⟩⟩
 ·intro c hc
  rw [he]
  show fd.code=.ref c
  exact codeAd_ref hc
 ·rw [hloc]; exact S.fresh (get?_size _)
 ·intro y av hl hy
  rcases hv.lookup y with ⟨a1,_⟩ | ⟨a1,v,e1,e2,e3⟩
  ·exact absurd (a1.symm.trans hy) (by simp)
  ·have e4:av=a1:=Option.some.inj (hy.symm.trans e1)
   subst e4
   exact ⟨v,bindL_at ((kind y).trans hl) binds _ (by rw [hkeys]; exact hnd) e2,e3⟩
 ·intro y hy
  have hs:(env.cells.lookup y).isSome=true:=by rw [hcells]; exact cells_some _ _ _ (.inl hy)
  obtain ⟨c,hc⟩:=Option.isSome_iff_exists.mp hs
  have hab:=x.above y c (mem_of_lookupA hc)
  have hab2:s.heap.objs.size < c:=hloc ▸ hab
  refine ⟨c,hc,.inr ⟨by simp,S.fresh (gone (Nat.le_of_lt hab2)),Nat.ne_of_gt hab,fun z c' hz hz' e=>pairwise_ne x.apart (mem_of_lookupA hc) (mem_of_lookupA e) hz,_,x.cell y c hc,?_⟩⟩
  intro av hav
  rcases hv.lookup y with ⟨a1,_⟩ | ⟨a1,v,e1,e2,e3⟩
  ·exact absurd (a1.symm.trans hav) (by simp)
  ·have e4:av=a1:=Option.some.inj (hav.symm.trans e1)
   subst e4
   have hy2:fd.scope.names.lookup y=some .cell:=hy
   exact ⟨v,bindC_at (by rw [kind y,hy2]; exact fun z=>by cases z) binds _ (by rw [hkeys]; exact hnd) e2,e3⟩
 ·intro y av _ hy
  cases hy
theorem AOK.deeper {A:Around} {env:Env} (h:AOK (k+1) A):AOK k (A.deeper env):=by
 obtain ⟨h1,h2,h3⟩:=h
 refine ⟨?_,?_,h3⟩
 ·show A.depth+1+10 * k+20 < _
  omega
 ·show A.units+3+60 * k+400 < _
  omega
noncomputable def CodeTr (prog:Program) (w:World) (K:Frag) (btab:List (Str × Value)) (k:Nat) (f:AV) (args:List AV) (kws:List (Str × AV)) (m:Nat->MO) (nx:Nat) (r:AV) (m':Nat->MO) (nx':Nat):Prop:=
 ∀ (W:Wd) (A:Around) (s:Shared) (R:Result->Shared->Prop) (vf:Value) (vs kvs:List Value),AOK k A->SInv prog w K btab W m nx s.heap->VA W nx f vf->VAs W nx args vs->VAs W nx (kws.map (·.2)) kvs ->
  (∀ W' h' tk' v,nx<=nx'->Wd.le nx W W'->SInv prog w K btab W' m' nx' h'->VA W' nx' r v->R (.ok (.ret v)) { s with heap:=h',toks:=tk' })->codeAny (model prog w) A (.call vf ⟨vs,(kws.map (·.1)).zip kvs⟩) R s
theorem CodeTr.call {f:AV} {args:List AV} {kws:List (Str × AV)} {m:Nat->MO} {nx:Nat} {r:AV} {m':Nat->MO} {nx':Nat} (h:CodeTr prog w K btab k f args kws m nx r m' nx'):CallTr prog w K btab k f args kws m nx r m' nx':=by
 intro W A s tr Q E hA hS _ ⟨vf,vs,kvs,hvf,hvs,hkvs,htr⟩ hq
 subst htr
 exact wpAny_call (h W A s _ vf vs kvs hA hS hvf hvs hkvs fun W' h' tk' v n l S' hv=>hq W' h' tk' v n l S' hv)
set_option tactic.hygienic true in
theorem fn_go {a:Addr} {m:Nat->MO} {nx:Nat} {ab:List (Str × AV)} {binds:List (Str × Value)} {fl:Fl} {st':St} {W:Wd} {A:Around} {s:Shared} {R:Result->Shared->Prop} (hc:fnChk K a=true) (hA:AOK (k+1) A) (hS:SInv prog w K btab W m nx s.heap) (hvb:VB W nx ab binds)
  (hks:kindsOk (fnD K a).scope (ab.map (·.1))=true) (hnd:nodupB (ab.map (·.1))=true) (body:BTr prog w K btab k (fmOf (fnD K a) []) (bodyOf (fnD K a)) ⟨ab,[],m,nx⟩ fl st')
  (hq:∀ W' h' tk' v,nx<=st'.nx->Wd.le nx W W'->SInv prog w K btab W' st'.m st'.nx h'->VA W' st'.nx (retOf fl) v->R (.ok (.ret v)) { s with heap:=h',toks:=tk' }) :
  wpAny (model prog w) A.in1 (newFunctionEnv (fnD K a).scope (fnD K a).globals (fnD K a).closure binds ((fnD K a).qualname ++ ".<locals>.") (some a) (fnD K a).code none (fnD K a).builtins)
   (fun env s₂=>s₂.heap.NoLimit /\ codeAny (model prog w) A (.func (bodyOf (fnD K a)) env) R s₂) (fun e s'=>R (.error e) s') s:=by
 obtain ⟨X,hlim,_⟩:=hS.facts
 obtain ⟨o,ho,hd,hclo,hkind,hco,hgen,hgl,hbu,hcode,hbody⟩:=fn_at X hc
 rw [hclo]
 refine wpAny_newFunctionEnv_cells hkind (fun x hx=>?_) fun env he s' x=>?_
 ·have hx':x.1 ∈ ab.map (·.1):=by rw [<- hvb.keys]; exact List.mem_map_of_mem hx
  exact (kinds_at (List.all_eq_true.mp hks x.1 hx')).imp id fun e=>⟨e,cells_some _ _ _ (.inl e)⟩
 ·obtain ⟨S',F'⟩:=frame_new hS hvb (nodupB_nd hnd) hkind hgl hbu he x
  obtain ⟨h₁,tk,rfl,hk⟩:=x.done
  refine ⟨hlim.keeps hk,codeAny_func ?_⟩
  refine body W (A.deeper env) env _ _ _ hA.deeper S' F' trivial fun W' h' tk' b hn l S2 F2 hf=>?_
  induction fl using Fl.casesOn with
  | ret a=>cases b <;> first | exact hf.elim | exact hq W' h' tk' _ hn l S2 hf
  | _=>cases b <;> first | exact hf.elim | exact hq W' h' tk' _ hn l S2 (.d .none)
set_option tactic.hygienic true in
theorem code_fn {a:Addr} {args:List AV} {kws:List (Str × AV)} {m:Nat->MO} {nx:Nat} {ab:List (Str × AV)} {fl:Fl} {st':St} (hc:fnChk K a=true) (hb:BindQ K (fnD K a) args.length (kws.map (·.1)))
  (ha:bindN ((posNames (fnD K a)).zip args ++ kws) ((dflts K (fnD K a)).map fun p=>(p.1,ofTop p.2)) (posNames (fnD K a) ++ kwoNames (fnD K a))=some ab)
  (hks:kindsOk (fnD K a).scope (ab.map (·.1))=true) (hnd:nodupB (ab.map (·.1))=true)
  (body:BTr prog w K btab k (fmOf (fnD K a) []) (bodyOf (fnD K a)) ⟨ab,[],m,nx⟩ fl st') {r:AV} (hr:retOf fl=r) :
  CodeTr prog w K btab (k+1) (.k (.ref a)) args kws m nx r st'.m st'.nx:=by
 intro W A s R vf vs kvs hA hS hvf hvs hkvs hq
 subst hr
 cases hvf
 obtain ⟨X,_⟩:=hS.facts
 obtain ⟨o,ho,hd,_,_,hco,hgen,_,_,hcode,hbody⟩:=fn_at X hc
 have hroom:A.depth < recursionLimit:=by have:=hA.depth; omega
 have lvs:=hvs.len
 have lkvs:kvs.length=(kws.map (·.1)).length:=by rw [hkvs.len,List.length_map,List.length_map]
 have hkv:=kw_zip hkvs
 obtain ⟨binds,hbinds,hvb⟩:=bindN_va ((VB.zip (posNames (fnD K a)) hvs).append hkv) (VB.top (dflts K (fnD K a))) _ ha
 have hbt:BindsTo s (fnD K a) ⟨vs,(kws.map (·.1)).zip kvs⟩ binds:=kp_binds X fun S=>(hb S vs kvs lvs lkvs).trans hbinds
 refine codeAny_call_function hroom ho hd hco hgen hbody hcode (hbt _ _ _ _ ?_)
 exact fn_go hc hA hS hvb hks hnd body hq
class inductive AllP:List Prop->Prop
 | nil:AllP []
 | cons {p:Prop} {l:List Prop} (h:p) (r:AllP l):AllP (p :: l)
theorem AllP.mem {l:List Prop} (h:AllP l):∀ p ∈ l,p:=by
 induction h with
 | nil=>intro p hp; cases hp
 | cons h r ih=>intro p hp; cases hp with | head=>exact h | tail _ hp=>exact ih p hp
theorem ob0:AllP []:=.nil
theorem ob1 {a:Prop} (x:a):AllP [a]:=.cons x .nil
theorem ob2 {a b:Prop} (x:a) (y:b):AllP [a,b]:=.cons x (ob1 y)
theorem BTr.run (n:Nat) {φ:Fm} {b:List Stmt} {st st':St} (sc:List Ev) {fl:Fl} {ob:List Prop} (e:exs prog w K btab k n φ b st sc=some (fl,st',[],ob)) (h:AllP ob):BTr prog w K btab k φ b st fl st':=by
 intro W A env s Q E hA hS hF hc hq
 exact oks (prog:=prog) (w:=w) (K:=K) (btab:=btab) (k:=k) (C:=fun _ _=>True) n φ b (fun _ _ _ _ _ _ _=>trivial) _ _ _ _ _ _ e h.mem W A env s Q E hA hS hF trivial hq
theorem ETr.run (n:Nat) {φ:Fm} {e:PySem.Expr} {st st':St} (sc:List Ev) {a:AV} {ob:List Prop} (ev:ev prog w K btab k n φ e st sc=some (a,st',[],ob)) (h:AllP ob):ETr prog w K btab k φ e st a st':=by
 intro W A env s Q E hA hS hF hc hq
 exact (okn (prog:=prog) (w:=w) (K:=K) (btab:=btab) (k:=k) n).ev (C:=fun _ _=>True) φ e (fun _ _ _ _ _ _ _=>trivial) _ _ _ _ _ _ ev h.mem W A env s Q E hA hS hF trivial hq
end
noncomputable def gA (K:Frag) (x:Str):Addr:=match nsIn K mainGlobals x with
 | some (some (.ref a))=>a
 | _=>0
theorem FInv.extR {W:Wd} {φ:Fm} {env:Env} {st:St} {h h':Heap} {a:Addr} {o:Obj} (F:FInv W φ env st h) (ho:W.R a=some o) (hs:Heap.ExtBut a h h'):FInv W φ env st h':=by
 have ne:∀ {x:Addr},OwnAt W st.m st.nx x->x ≠ a:=fun p z=>by have:=p.r; rw [z,ho] at this; cases this
 obtain ⟨m,hns,hm⟩:=F.locs
 refine ⟨F.scope,F.kind,F.globals,F.builtins,F.frame,F.code,F.own,⟨m,hns.extBut hs (ne F.own),hm⟩,?_,F.free⟩
 intro x hx
 obtain ⟨cc,e,q⟩:=F.cells x hx
 refine ⟨cc,e,?_⟩
 rcases q with q | ⟨q1,q2,q3,q4,ov,⟨oc,hoc,hdc⟩,q6⟩
 ·exact .inl q
 ·exact .inr ⟨q1,q2,q3,q4,ov,⟨oc,hs _ _ (ne q2) hoc,hdc⟩,q6⟩
structure Held (W:Wd) (φ:Fm) (env:Env) (st:St) (h:Heap) (it:Addr) (a:AV) (i:Nat) (o:Obj):Prop where
 own:OwnAt W st.m st.nx it
 at_:h.get? it=some o
 ito:ItO W a i o
 frame:FInv (W.hold it o) φ env st h
section
variable {prog:Program} {w:World} {K:Frag} {btab:List (Str × Value)} {k:Nat} {φ:Fm}
theorem Held.step {W:Wd} {env:Env} {st:St} {h h':Heap} {it:Addr} {a:AV} {i:Nat} {o o':Obj} (H:Held W φ env st h it a i o) (hs:Heap.SameBut it h h') (ho:h'.get? it=some o') (hi:ItO W a (i+1) o'):Held W φ env st h' it a (i+1) o':=by
 refine ⟨H.own,ho,hi,?_⟩
 have F:=H.frame.extR (hold_at W it o) hs.extBut
 obtain ⟨vs,hf⟩:=H.ito.fields
 exact F.reR (R:=(W.hold it o').R) (a:=it) (fun b hb=>by rw [hold_ne hb]; exact (hold_ne hb).symm) (hold_at W it o) fun v e=>by rw [hf] at e; cases e
theorem Held.done {W:Wd} {env:Env} {st:St} {h h':Heap} {it:Addr} {a:AV} {i:Nat} {o:Obj} (H:Held W φ env st h it a i o) (hs:Heap.ExtBut it h h'):FInv W φ env st h':=by
 have F:=H.frame.extR (hold_at W it o) hs
 obtain ⟨vs,hf⟩:=H.ito.fields
 exact F.reR (R:=W.R) (a:=it) (fun b hb=>(hold_ne hb).symm) (hold_at W it o) fun v e=>by rw [hf] at e; cases e
theorem Held.back {W W':Wd} {env:Env} {st st':St} {h h':Heap} {it:Addr} {a:AV} {ds:List D} {i:Nat} {o:Obj} (H:Held W φ env st h it a i o) (hd:DSrc st.m st.nx a ds) (l:Wd.le st.nx (W.hold it o) W') (S':SInv prog w K btab W' st'.m st'.nx h') (F':FInv W' φ env st' h') :
  SInv prog w K btab { W' with R:=W.R } st'.m st'.nx h' /\ Wd.le st.nx W { W' with R:=W.R } /\ Held { W' with R:=W.R } φ env st' h' it a i o:=by
 obtain ⟨a1,a2,a3,a4⟩:=S'.unhold H.own l
 refine ⟨a1,a2,a3,a4,H.ito.mono hd a2,?_⟩
 have e:({ W' with R:=W.R }:Wd).hold it o=W':=by
  rcases W' with ⟨B,R,ι⟩
  have:R=(W.hold it o).R:=l.R
  rw [this]
  rfl
 rw [e]
 exact F'
theorem Held.mono {W W':Wd} {env:Env} {st st':St} {h h':Heap} {it:Addr} {a:AV} {ds:List D} {i:Nat} {o:Obj} (H:Held W φ env st h it a i o) (hd:DSrc st.m st.nx a ds) (l:Wd.le st.nx (W.hold it o) W') (F':FInv W' φ env st' h'):FInv { W' with R:=W.R } φ env st' h':=by
 obtain ⟨vs,hf⟩:=H.ito.fields
 exact F'.reR (R:=W.R) (a:=it) (fun b hb=>by rw [l.R]; exact (hold_ne hb).symm) (by rw [l.R]; exact hold_at W it o) fun v e=>by rw [hf] at e; cases e
set_option backward.match.sparseCases false in
noncomputable def gTgt (φ:Fm) (t:PySem.Expr) (d:D):G Unit:=match t with
 | .Name x _=>gStore φ x (.d d)
 | .Tuple es _ _=>gOpt (tupNames es) (fun xs=>gOpt (seqOf (.d d)) (fun ds=>gStores φ xs ds) G.fail) G.fail
 | _=>G.fail
theorem snd_tgt {t:PySem.Expr} {d:D} {v:Value} {C:Wd->Nat->Prop} (hC:Mono C) (hv:∀ W nx,C W nx->VA W nx (.d d) v):SndT prog w K btab k φ C (gTgt φ t d) (fun env=>Lf prog w (assign t env v)) (fun _ _ _ _=>True):=by
 induction t using PySem.Expr.casesOn with
 | Name x p=>exact SndT.tree (Snd.T (snd_store hv)) fun A env Q E s _ h=>wpAny_assign_Name h
 | Tuple es c p=>
  have go:∀ {ds:List D},isSeqD (.d d)->(∀ m nx,DSrc m nx (.d d) ds)->SndT prog w K btab k φ C (gOpt (tupNames es) (fun xs=>gStores φ xs ds) G.fail) (fun env=>Lf prog w (assign (.Tuple es c p) env v)) (fun _ _ _ _=>True):=fun h1 h2=>by
   cases hx:tupNames es with
   | none=>exact SndT.failV
   | some xs=>
    refine SndT.tree (snd_unpack (v:=v) hx hC h1 h2 hv) fun A env Q E s _ h=>?_
    show wpAny (model prog w) A (assign (.Tuple es c p) env v) Q E s
    rw [arm_assign_Tuple]
    exact wpAny_bind (wpAny_standAt h)
  induction d using D.casesOn with
  | tup ds=>exact go trivial fun _ _=>rfl
  | lst ds=>exact go trivial fun _ _=>rfl
  | _=>show SndT _ _ _ _ _ _ _ (gOpt (tupNames es) (fun _=>G.fail) G.fail) _ _; cases tupNames es <;> exact SndT.failV
 | _=>exact SndT.failV
class inductive ForTr (prog:Program) (w:World) (K:Frag) (btab:List (Str × Value)) (k:Nat) (φ:Fm) (t:PySem.Expr) (b:List Stmt) (a:AV) (ds0:List D):List D->St->Fl->St->Prop
 | done {st:St} (hd:DSrc st.m st.nx a ds0):ForTr prog w K btab k φ t b a ds0 [] st .next st
 | step {d:D} {ds:List D} {st st1 st2 st3:St} {fl f:Fl} (hd:DSrc st.m st.nx a ds0) (ht:gTgt φ t d st []=some ((),st1,[],[])) (hb:BTr prog w K btab k φ b st1 f st2) (hf:f=.next \/ f=.cont)
   (r:ForTr prog w K btab k φ t b a ds0 ds st2 fl st3):ForTr prog w K btab k φ t b a ds0 (d :: ds) st fl st3
 | stop {d:D} {ds:List D} {st st1 st2:St} {r:AV} (hd:DSrc st.m st.nx a ds0) (ht:gTgt φ t d st []=some ((),st1,[],[])) (hb:BTr prog w K btab k φ b st1 (.ret r) st2):ForTr prog w K btab k φ t b a ds0 (d :: ds) st (.ret r) st2
 | brk {d:D} {ds:List D} {st st1 st2:St} (hd:DSrc st.m st.nx a ds0) (ht:gTgt φ t d st []=some ((),st1,[],[])) (hb:BTr prog w K btab k φ b st1 .brk st2):ForTr prog w K btab k φ t b a ds0 (d :: ds) st .next st2
theorem turn_tr {t:PySem.Expr} {b:List Stmt} {a:AV} {ds0:List D} {d:D} {st st1 st2:St} {f:Fl} {it:Addr} {i:Nat} {o:Obj} {W:Wd} {A:Around} {env:Env} {s:Shared} {v:Value} {Q:Flow->Shared->Prop} {E:Value->Shared->Prop}
  (hA:AOK k A) (S:SInv prog w K btab W st.m st.nx s.heap) (H:Held W φ env st s.heap it a i o) (hd:DSrc st.m st.nx a ds0) (hv:VD W.B d v) (ht:gTgt φ t d st []=some ((),st1,[],[])) (hb:BTr prog w K btab k φ b st1 f st2)
  (h:∀ W' h' tk' g,st.nx<=st2.nx->Wd.le st.nx (W.hold it o) W'->SInv prog w K btab W' st2.m st2.nx h'->FInv W' φ env st2 h'->FlR W' st2.nx f g->Q g { s with heap:=h',toks:=tk' }) :
  wpAny (model prog w) A (assign t env v) (fun _ s₂=>wpAny (model prog w) A (execs b env) Q E s₂) E s:=by
 have T:=snd_tgt (prog:=prog) (w:=w) (K:=K) (btab:=btab) (k:=k) (φ:=φ) (t:=t) (d:=d) (v:=v) (C:=fun W nx=>VA W nx (.d d) v) (Mono.va _ _) (fun W nx c=>c) _ _ _ _ _ _ ht (by simp)
 refine T (W.hold it o) A env s _ E hA (S.hold H.own H.at_) H.frame (.d hv) fun W1 h1 tk1 _ n1 l1 S1 F1 _=>?_
 exact hb W1 A env _ Q E hA S1 F1 trivial fun W2 h2 tk2 g n2 l2 S2 F2 r=>h W2 h2 tk2 g (Nat.le_trans n1 n2) (l1.trans n1 l2) S2 F2 r
theorem flr_go {W:Wd} {nx:Nat} {f:Fl} {g:Flow} (hf:f=.next \/ f=.cont) (h:FlR W nx f g):g=.next \/ g=.cont:=by
 rcases hf with rfl | rfl <;> induction g using PySem.Flow.casesOn <;> first | exact h.elim | exact .inl rfl | exact .inr rfl
theorem flr_brk {W:Wd} {nx:Nat} {g:Flow} (h:FlR W nx .brk g):g=.brk:=by
 induction g using PySem.Flow.casesOn <;> first | exact h.elim | rfl
theorem flr_ret {W:Wd} {nx:Nat} {a:AV} {g:Flow} (h:FlR W nx (.ret a) g):∃ v,g=.ret v /\ VA W nx a v:=by
 induction g using PySem.Flow.casesOn <;> first | exact h.elim | exact ⟨_,rfl,h⟩
noncomputable def LoopI (prog:Program) (w:World) (K:Frag) (btab:List (Str × Value)) (φ:Fm) (T:List D->St->Prop) (a:AV) (ds0:List D) (it:Addr) (W0:Wd) (nx0:Nat) (env:Env) (s0:Shared) (n:Nat) (s:Shared):Prop:=
 (Ex6 fun (ds:List D) (st:St) (W:Wd) (o:Obj) (h:Heap) (tk:Nat)=>A9 (n=ds.length) (s = { s0 with heap:=h,toks:=tk }) (ds0.drop (ds0.length - ds.length)=ds) (ds.length<=ds0.length) (T ds st) (SInv prog w K btab W st.m st.nx h) (Held W φ env st h it a (ds0.length - ds.length) o) (nx0<=st.nx) (Wd.le nx0 W0 W))
theorem LoopI.start {T:List D->St->Prop} {a:AV} {ds0:List D} {it:Addr} {W0:Wd} {st0:St} {env:Env} {s0:Shared} {o0:Obj} (hT:T ds0 st0) (S0:SInv prog w K btab W0 st0.m st0.nx s0.heap) (H0:Held W0 φ env st0 s0.heap it a 0 o0) :
  LoopI prog w K btab φ T a ds0 it W0 st0.nx env s0 ds0.length s0:=
 ⟨ds0,st0,W0,o0,s0.heap,s0.toks,rfl,rfl,by rw [Nat.sub_self]; rfl,Nat.le_refl _,hT,S0,by rw [Nat.sub_self]; exact H0,Nat.le_refl _,.refl _ _⟩
theorem drop_item {ds0 ds:List D} {d:D} {i:Nat} (h:ds0.drop i=d :: ds):ds0[i]? = some d:=by
 have:=congrArg List.head? h
 rw [List.head?_drop] at this
 exact this
theorem LoopI.next {T:List D->St->Prop} {a:AV} {ds0 ds:List D} {d:D} {it:Addr} {W0 W W':Wd} {nx0:Nat} {st st1:St} {env:Env} {s0:Shared} {h1 h':Heap} {tk':Nat} {o':Obj} (hdrop:ds0.drop (ds0.length - (d :: ds).length)=d :: ds) (hle:(d :: ds).length<=ds0.length) (hT:T ds st1)
  (H1:Held W φ env st h1 it a (ds0.length - (d :: ds).length+1) o') (hd:DSrc st.m st.nx a ds0) (hn:nx0<=st.nx) (hl:Wd.le nx0 W0 W) (n2:st.nx<=st1.nx) (l2:Wd.le st.nx (W.hold it o') W') (S2:SInv prog w K btab W' st1.m st1.nx h') (F2:FInv W' φ env st1 h') :
  ∃ m,m < (d :: ds).length /\ LoopI prog w K btab φ T a ds0 it W0 nx0 env s0 m { s0 with heap:=h',toks:=tk' }:=by
 have hx:=H1.back hd l2 S2 F2
 have hix:ds0.length - (d :: ds).length+1=ds0.length - ds.length:=Nat.sub_sub ds0.length ds.length 1 ▸ Nat.sub_add_cancel (Nat.sub_pos_of_lt hle)
 exact ⟨ds.length,Nat.lt_succ_self _,ds,st1,_,o',h',tk',rfl,rfl,by rw [<- hix,<- List.drop_drop,hdrop]; rfl,Nat.le_of_lt hle,hT,hx.1,hix ▸ hx.2.2,Nat.le_trans hn n2,hl.trans hn hx.2.1⟩
theorem ForTr.src {t:PySem.Expr} {b:List Stmt} {a:AV} {ds0 ds:List D} {st st':St} {fl:Fl} (h:ForTr prog w K btab k φ t b a ds0 ds st fl st'):DSrc st.m st.nx a ds0:=
 ForTr.casesOn (motive:=fun _ st _ _ _=>DSrc st.m st.nx a ds0) h id (fun h _ _ _ _=>h) (fun h _ _=>h) (fun h _ _=>h)
theorem ForTr.inv {t:PySem.Expr} {b:List Stmt} {a:AV} {ds0 ds:List D} {st st':St} {fl:Fl} (h:ForTr prog w K btab k φ t b a ds0 ds st fl st'):(ds = [] /\ st'=st /\ fl=.next) \/ (Ex5 fun d r st1 st2 f=>A4 (ds=d :: r) (gTgt φ t d st []=some ((),st1,[],[])) (BTr prog w K btab k φ b st1 f st2)
  ((f=.next \/ f=.cont) /\ ForTr prog w K btab k φ t b a ds0 r st2 fl st' \/ (∃ v,f=.ret v /\ fl=.ret v) /\ st'=st2 \/ f=.brk /\ fl=.next /\ st'=st2)):=by
 induction h using ForTr.casesOn with
 | done=>exact .inl ⟨rfl,rfl,rfl⟩
 | step hd ht hb hf r=>exact .inr ⟨_,_,_,_,_,rfl,ht,hb,.inl ⟨hf,r⟩⟩
 | stop hd ht hb=>exact .inr ⟨_,_,_,_,_,rfl,ht,hb,.inr (.inl ⟨⟨_,rfl,rfl⟩,rfl⟩)⟩
 | brk hd ht hb=>exact .inr ⟨_,_,_,_,_,rfl,ht,hb,.inr (.inr ⟨rfl,rfl,rfl⟩)⟩
theorem for_loop {t:PySem.Expr} {b:List Stmt} {a:AV} {ds0:List D} {fl:Fl} {st0 st':St} {it:Addr} {W0:Wd} {A:Around} {env:Env} {s0:Shared} {R:Result->Shared->Prop} {o0:Obj}
  (hA:AOK k A) (S0:SInv prog w K btab W0 st0.m st0.nx s0.heap) (H0:Held W0 φ env st0 s0.heap it a 0 o0) (hT:ForTr prog w K btab k φ t b a ds0 ds0 st0 fl st')
  (hR:∀ W' h' tk' g,st0.nx<=st'.nx->Wd.le st0.nx W0 W'->SInv prog w K btab W' st'.m st'.nx h'->FInv W' φ env st' h'->FlR W' st'.nx fl g->R (.ok g) { s0 with heap:=h',toks:=tk' }) :
  codeAny (model prog w) A (.forLoop t (.ref it) b [] env) R s0:=by
 obtain ⟨I,hI⟩ : ∃ I:Nat->Shared->Prop,LoopI prog w K btab φ (fun ds st=>ForTr prog w K btab k φ t b a ds0 ds st fl st') a ds0 it W0 st0.nx env s0=I:=⟨_,rfl⟩
 refine codeAny_forLoop_any I ?_ ds0.length (hI ▸ LoopI.start hT S0 H0)
 clear hT S0 H0
 intro n s hi
 rcases Eq.mpr (congrFun (congrFun hI n) s) hi with ⟨ds,st,W,o,h,tk,rfl,rfl,hdrop,hle,hT,S,H,hn,hl⟩
 clear hi
 have hd:=hT.src
 rcases hT.inv with ⟨rfl,rfl,ef⟩ | ⟨d,r,st1,st2,f,rfl,ht,hb,hz⟩
 ·refine iter_end hA.handled (s:={ s0 with heap:=h,toks:=tk }) S hd H.at_ H.ito (List.getElem?_eq_none (Nat.le_refl _)) fun h' he=>?_
  exact wpAny_pure (hR W h' tk .next hn hl (S.own H.own he) (H.done he) (by rw [ef]; exact trivial))
 ·refine iter_item (s:={ s0 with heap:=h,toks:=tk }) S hd H.at_ H.ito (drop_item hdrop) fun v o' h1 tk1 hv ho1 hi1 hsb=>?_
  have H1:=H.step hsb ho1 hi1
  refine ItO.letGo (s:={ s0 with heap:=h1,toks:=tk1 }) ho1 hi1 ?_
  refine turn_tr (s:={ s0 with heap:=h1,toks:=tk1 }) hA (S.own H.own hsb.extBut) H1 hd hv ht hb fun W' h' tk' g n2 l2 S2 F2 hfl=>?_
  rcases hz with ⟨hf,hr⟩ | ⟨⟨v,rfl,ef⟩,rfl⟩ | ⟨rfl,ef,rfl⟩
  ·have key:∃ m,m < (d :: r).length /\ I m { s0 with heap:=h',toks:=tk' }:=hI ▸ LoopI.next hdrop hle hr H1 hd hn hl n2 l2 S2 F2
   rcases flr_go hf hfl with rfl | rfl
   ·exact key
   ·exact key
  ·have hx:=H1.back hd l2 S2 F2
   rcases flr_ret hfl with ⟨v,rfl,hv⟩
   exact hR _ h' tk' _ (Nat.le_trans hn n2) (hl.trans hn hx.2.1) hx.1 (H1.mono hd l2 F2) (by rw [ef]; exact VA.R (R:=W.R) hv)
  ·have hx:=H1.back hd l2 S2 F2
   cases flr_brk hfl
   exact hR _ h' tk' .next (Nat.le_trans hn n2) (hl.trans hn hx.2.1) hx.1 (H1.mono hd l2 F2) (by rw [ef]; exact trivial)
theorem iter_held {W:Wd} {A:Around} {env:Env} {s:Shared} {st:St} {a:AV} {v:Value} {ds:List D} {Q:Value->Shared->Prop} {E:Value->Shared->Prop} (S:SInv prog w K btab W st.m st.nx s.heap) (F:FInv W φ env st s.heap) (hv:VA W st.nx a v) (hs:DSrc st.m st.nx a ds)
  (h:∀ o h',SInv prog w K btab W st.m st.nx h'->Held W φ env st h' s.heap.objs.size a 0 o->Q (.ref s.heap.objs.size) { s with heap:=h' }):wpAny (model prog w) A (pyIter v) Q E s:=by
 refine iter_start S hv hs fun o hi hf=>h o _ (S.keeps (Keeps.push _ _)) ⟨S.fresh (get?_size _),Heap.get?_push_size _ hf,hi,F.hold S (get?_size _) (Keeps.push _ _)⟩
set_option backward.match.sparseCases false in
noncomputable def noSet:PySem.Expr->Bool
 | .Set ..=>false
 | .SetComp ..=>false
 | _=>true
set_option backward.match.sparseCases false in
noncomputable def forIter:Stmt->PySem.Expr
 | .For _ i _ _ _=>i
 | _=>.Constant .none 0 default
set_option backward.match.sparseCases false in
noncomputable def forTgt:Stmt->PySem.Expr
 | .For t _ _ _ _=>t
 | _=>.Constant .none 0 default
set_option backward.match.sparseCases false in
noncomputable def forBody:Stmt->List Stmt
 | .For _ _ b _ _=>b
 | .While _ b _ _=>b
 | _=>[]
set_option backward.match.sparseCases false in
noncomputable def whTest:Stmt->PySem.Expr
 | .While t _ _ _=>t
 | _=>.Constant .none 0 default
noncomputable def forChk:Stmt->Bool
 | .For _ _ _ [] _=>true
 | _=>false
noncomputable def whChk:Stmt->Bool
 | .While _ _ [] _=>true
 | _=>false
theorem whChk_of {c:Stmt}:whChk c=true->∃ t b p,c=.While t b [] p:=by
 induction c using PySem.Stmt.casesOn with
 | While t b o p=>exact List.casesOn o (fun _=>⟨t,b,p,rfl⟩) (fun _ _ h=>Internal.ft h)
 | _=>exact fun h=>Internal.ft h
theorem forChk_of {c:Stmt}:forChk c=true->∃ t i b p,c=.For t i b [] p:=by
 induction c using PySem.Stmt.casesOn with
 | For t i b o p=>exact List.casesOn o (fun _=>⟨t,i,b,p,rfl⟩) (fun _ _ h=>Internal.ft h)
 | _=>exact fun h=>Internal.ft h
theorem noSet_folded {i:PySem.Expr}:noSet i=true->∀ (env:Env) (x:Value),foldedSetIterable i env x=pure x:=by
 induction i using PySem.Expr.casesOn <;> first | exact fun _ _ _=>rfl | exact fun h=>Internal.ft h
theorem STr.for_ {c:Stmt} {st st0 st':St} {fl:Fl} {a:AV} {ds:List D} (hc:forChk c=true) (hns:noSet (forIter c)=true) (n:Nat) (sc:List Ev) {ob:List Prop} (e:ev prog w K btab k n φ (forIter c) st sc=some (a,st0,[],ob)) (h:AllP ob)
  (hd:DSrc st0.m st0.nx a ds) (loop:ForTr prog w K btab k φ (forTgt c) (forBody c) a ds ds st0 fl st'):STr prog w K btab k φ c st fl st':=by
 obtain ⟨t,i,b,p,rfl⟩:=forChk_of hc
 intro W A env s Q E hA hS hF hc' hq
 refine wpAny_For ?_ (noSet_folded hns env)
 refine ETr.run n sc e h W A env s _ E hA hS hF trivial fun W1 h1 tk1 v n1 l1 S1 F1 hv=>?_
 refine iter_held (s:={ s with heap:=h1,toks:=tk1 }) S1 F1 hv hd fun o h2 S2 H2=>?_
 refine for_loop (s0:={ s with heap:=h2,toks:=tk1 }) hA S2 H2 loop fun W3 h3 tk3 g n3 l3 S3 F3 r=>?_
 exact hq W3 h3 tk3 g (Nat.le_trans n1 n3) (l1.trans n1 l3) S3 F3 r
noncomputable def TTr (prog:Program) (w:World) (K:Frag) (btab:List (Str × Value)) (k:Nat) (φ:Fm) (e:PySem.Expr) (st:St) (b:Bool) (st':St):Prop:=
 Tri prog w K btab k φ (fun _ _=>True) (fun env=>isTrue e env (eval e env)) st st' (fun _ b'=>b'=b)
theorem TTr.run (n:Nat) {e:PySem.Expr} {st st':St} (sc:List Ev) {a:Bool} {ob:List Prop} (ev:tv prog w K btab k n φ e st sc=some (a,st',[],ob)) (h:AllP ob):TTr prog w K btab k φ e st a st':=by
 intro W A env s Q E hA hS hF hc hq
 exact (okn (prog:=prog) (w:=w) (K:=K) (btab:=btab) (k:=k) n).tv (C:=fun _ _=>True) φ e (fun _ _ _ _ _ _ _=>trivial) _ _ _ _ _ _ ev h.mem W A env s Q E hA hS hF trivial fun W' h' tk' b n l S F r=>hq W' h' tk' b n l S F r.symm
class inductive WhTr (prog:Program) (w:World) (K:Frag) (btab:List (Str × Value)) (k:Nat) (φ:Fm) (t:PySem.Expr) (b:List Stmt):Nat->St->Fl->St->Prop
 | done {n:Nat} {st st1:St} (ht:TTr prog w K btab k φ t st false st1):WhTr prog w K btab k φ t b n st .next st1
 | step {n:Nat} {st st1 st2 st3:St} {fl f:Fl} (ht:TTr prog w K btab k φ t st true st1) (hb:BTr prog w K btab k φ b st1 f st2) (hf:f=.next \/ f=.cont) (r:WhTr prog w K btab k φ t b n st2 fl st3):WhTr prog w K btab k φ t b (n+1) st fl st3
 | stop {n:Nat} {st st1 st2:St} {r:AV} (ht:TTr prog w K btab k φ t st true st1) (hb:BTr prog w K btab k φ b st1 (.ret r) st2):WhTr prog w K btab k φ t b n st (.ret r) st2
 | brk {n:Nat} {st st1 st2:St} (ht:TTr prog w K btab k φ t st true st1) (hb:BTr prog w K btab k φ b st1 .brk st2):WhTr prog w K btab k φ t b n st .next st2
theorem STr.while_ {c:Stmt} {st0 st':St} {fl:Fl} (hc:whChk c=true) {N:Nat} (loop:WhTr prog w K btab k φ (whTest c) (forBody c) N st0 fl st'):STr prog w K btab k φ c st0 fl st':=by
 obtain ⟨t,b,p,rfl⟩:=whChk_of hc
 intro W0 A env s0 Q E hA hS hF hc' hq
 refine wpAny_While ?_
 refine codeAny_whileLoop (fun n s=>(Ex4 fun (st:St) (W:Wd) (h:Heap) (tk:Nat)=>A6 (s = { s0 with heap:=h,toks:=tk }) (WhTr prog w K btab k φ t b n st fl st') (SInv prog w K btab W st.m st.nx h) (FInv W φ env st h) (st0.nx<=st.nx) (Wd.le st0.nx W0 W))) ?_ N
  ⟨st0,W0,s0.heap,s0.toks,rfl,loop,hS,hF,Nat.le_refl _,.refl _ _⟩
 clear loop hS hF
 rintro n s ⟨st,W,h,tk,rfl,hT,S,F,hn,hl⟩
 induction hT using WhTr.casesOn with
 | done ht=>
  refine ht W A env _ _ _ hA S F trivial fun W1 h1 tk1 x n1 l1 S1 F1 hx=>?_
  subst hx
  exact wpAny_pure (hq W1 h1 tk1 .next (Nat.le_trans hn n1) (hl.trans hn l1) S1 F1 trivial)
 | @step n st st1 st2 st' fl f ht hb hf r=>
  refine ht W A env _ _ _ hA S F trivial fun W1 h1 tk1 x n1 l1 S1 F1 hx=>?_
  subst hx
  refine hb W1 A env _ _ _ hA S1 F1 trivial fun W2 h2 tk2 g n2 l2 S2 F2 hfl=>?_
  have key:∃ m,m < n+1 /\ (Ex4 fun (st:St) (W:Wd) (h:Heap) (tk:Nat)=>A6 (({ s0 with heap:=h2,toks:=tk2 }:Shared) = { s0 with heap:=h,toks:=tk }) (WhTr prog w K btab k φ t b m st fl st') (SInv prog w K btab W st.m st.nx h) (FInv W φ env st h) (st0.nx<=st.nx) (Wd.le st0.nx W0 W)):=
   ⟨n,Nat.lt_succ_self _,st2,W2,h2,tk2,rfl,r,S2,F2,Nat.le_trans hn (Nat.le_trans n1 n2),hl.trans hn (l1.trans n1 l2)⟩
  rcases flr_go hf hfl with rfl | rfl
  ·exact key
  ·exact key
 | @stop n st st1 st' r ht hb=>
  refine ht W A env _ _ _ hA S F trivial fun W1 h1 tk1 x n1 l1 S1 F1 hx=>?_
  subst hx
  refine hb W1 A env _ _ _ hA S1 F1 trivial fun W2 h2 tk2 g n2 l2 S2 F2 hfl=>?_
  rcases flr_ret hfl with ⟨v,rfl,hv⟩
  exact hq W2 h2 tk2 _ (Nat.le_trans hn (Nat.le_trans n1 n2)) (hl.trans hn (l1.trans n1 l2)) S2 F2 hv
 | @brk n st st1 st' ht hb=>
  refine ht W A env _ _ _ hA S F trivial fun W1 h1 tk1 x n1 l1 S1 F1 hx=>?_
  subst hx
  refine hb W1 A env _ _ _ hA S1 F1 trivial fun W2 h2 tk2 g n2 l2 S2 F2 hfl=>?_
  cases flr_brk hfl
  exact hq W2 h2 tk2 .next (Nat.le_trans hn (Nat.le_trans n1 n2)) (hl.trans hn (l1.trans n1 l2)) S2 F2 trivial
end
class inductive CLoop (step:D->St->St->Prop) (a:AV) (ds0:List D):List D->St->St->Prop
 | nil {st:St} (hd:DSrc st.m st.nx a ds0):CLoop step a ds0 [] st st
 | cons {d:D} {ds:List D} {st st1 st2:St} (hd:DSrc st.m st.nx a ds0) (hs:step d st st1) (r:CLoop step a ds0 ds st1 st2):CLoop step a ds0 (d :: ds) st st2
section
variable (prog:Program) (w:World) (K:Frag) (btab:List (Str × Value)) (k:Nat) (φ:Fm)
noncomputable def CStep (g:Comprehension) (inner:St->St->Prop) (d:D) (st st':St):Prop:=∃ st1,gTgt φ g.target d st []=some ((),st1,[],[]) /\
 ((g.ifs = [] /\ inner st1 st') \/ (Ex3 fun c st2 b=>A3 (g.ifs = [c]) (TTr prog w K btab k φ c st1 b st2) (((b=true /\ inner st2 st') \/ (b=false /\ st'=st2)))))
noncomputable def CEmit (n0:Nat) (elt:PySem.Expr) (st st':St):Prop:=(Ex3 fun x st1 l=>A5 (ETr prog w K btab k φ elt st (.d x) st1) (n0 < st1.nx) (st1.m n0=.list l) (l.length < 100000) (st' = { st1 with m:=upd st1.m n0 (.list (l ++ [x])) }))
noncomputable def CInner (n0:Nat) (elt:PySem.Expr):List Comprehension->St->St->Prop
 | []=>CEmit prog w K btab k φ n0 elt
 | g :: gs=>fun st st'=>(Ex3 fun a st0 ds=>A5 (noSet g.iter=true) (g.is_async=0) (ETr prog w K btab k φ g.iter st a st0) (DSrc st0.m st0.nx a ds) (CLoop (CStep prog w K btab k φ g (CInner n0 elt gs)) a ds ds st0 st'))
noncomputable def ITr (n0:Nat) (acc:Value) (t:Env->Sem Unit) (st st':St):Prop:=
 Tri prog w K btab k φ (fun W nx=>VA W nx (.loc n0) acc) t st st' (fun _ _=>True)
end
section
variable {prog:Program} {w:World} {K:Frag} {btab:List (Str × Value)} {k:Nat} {φ:Fm}
set_option tactic.hygienic true in
theorem ItO.again {W:Wd} {a:AV} {it:Addr} {i:Nat} {o:Obj} {A:Around} {E:Value->Shared->Prop} {s:Shared} {Q:Value->Shared->Prop} (ho:s.heap.get? it=some o) (hi:ItO W a i o) (h:Q (.ref it) s):wpAny (model prog w) A (pyIter (.ref it)) Q E s:=by
 cases hi with
 | tup hv hc hd=>
  rename_i t
  have hT:s.heap.IsTupleIter it t i \/ True:=.inr trivial
  refine wpAny_pyIter_slot (T := "tuple_iterator") ⟨_,ho,hc⟩ F.slot_tuple_iterator_iter (wpAny_call_entry F.slot_tuple_iterator_iter (T := "tuple_iterator") ⟨_,ho,hc⟩ F.entry_tuple_iterator_iter ?_ (F.args_tuple_iterator_iter_1 _))
  show wpAny _ _ (ret (.ref it)) _ _ s
  exact wpAny_pure ⟨_,rfl, "tuple_iterator",_,⟨_,ho,hc⟩,F.slot_tuple_iterator_next.lookup,h⟩
 | lst hv hc hd=>exact wpAny_pyIter_listiter ⟨_,ho,hc,hd⟩ h
 | loc hc hd=>exact wpAny_pyIter_listiter ⟨_,ho,hc,hd⟩ h
 | stra hc hd=>exact wpAny_pyIter_striter_ascii ⟨_,ho,hc,hd⟩ h
 | strw hc hd=>exact wpAny_pyIter_striter_wide ⟨_,ho,hc,hd⟩ h
 | rng ho'=>subst ho'; exact wpAny_pyIter_rangeiter ho h
theorem lst_update {h:Heap} {a:Addr} {vs:List Value} {n:Nat} (ho:h.get? a=some (lstObj vs n)) (f:Array Value->Array Value):∃ n',(h.update a (Obj.mapSeq f)).get? a=some (lstObj (f vs.toArray).toList n') /\ Heap.ExtBut a h (h.update a (Obj.mapSeq f)):=by
 have q:=PySem.IsL.update (l:=a) (items:=vs.toArray) (n:=n) ho f
 refine ⟨if ((f vs.toArray).size == vs.toArray.size)=true then n else n+1,?_,(Heap.SameBut.update ..).extBut⟩
 have e:(f vs.toArray).toList.toArray=f vs.toArray:=by simp
 unfold lstObj
 rw [e]
 exact q
theorem list_append_at {A:Around} {E:Value->Shared->Prop} {s:Shared} {l:Addr} {vs:List Value} {n:Nat} {x:Value} {Q:Value->Shared->Prop} (hl:s.heap.get? l=some (lstObj vs n)) (hsz:vs.length<=sizeLine)
  (hQ:∀ h' n',h'.get? l=some (lstObj (vs ++ [x]) n')->Heap.ExtBut l s.heap h'->Q .none { s with heap:=h' }):wpAny (model prog w) A (call (.builtin "list.append") [.ref l,x]) Q E s:=by
 refine call_meets PySem.F.slot_list_append ⟨_,hl,rfl⟩ PySem.F.entry_list_append (PySem.F.args_list_append_2 _ _) (PySem.list_append l vs.toArray n x (by simpa using hsz)) ⟨hl,?_⟩
 obtain ⟨n',h1,h2⟩:=lst_update hl (fun a=>a.push x)
 exact hQ _ n' (by simpa using h1) h2
theorem emit_tr {n0:Nat} {elt:PySem.Expr} {acc:Value} {st st':St} (h:CEmit prog w K btab k φ n0 elt st st'):ITr prog w K btab k φ n0 acc (fun env=>do let _ <- call (.builtin "list.append") [acc,<- eval elt env]) st st':=by
 obtain ⟨x,st1,l,h1,h2,h3,h4,rfl⟩:=h
 intro W A env s Q E hA hS hF hc hq
 refine wpAny_bind (h1 W A env s _ E hA hS hF trivial fun W1 hp1 tk1 v n1 l1 S1 F1 hv=>?_)
 have hacc:=hc.mono n1 l1
 cases hacc with
 | loc hn=>
  obtain ⟨vs,nn,hl,hvs⟩:=loc_ex S1 h2 h3
  have hj:st1.m n0 ≠ .junk:=by rw [h3]; exact fun q=>by cases q
  cases hv with
  | d hv=>
   refine wpAny_bind (list_append_at (s:={ s with heap:=hp1,toks:=tk1 }) hl (by have:=hvs.length; rw [sizeLine_eq]; omega) fun h' n' hl' hsb=>?_)
   refine wpAny_pure ?_
   have S2:=S1.put (mo:=.list (l ++ [x])) h2 hj hsb ⟨vs ++ [v],n',hl',hvs.append (.cons hv .nil)⟩
   exact hq W1 h' tk1 () n1 l1 S2 (F1.carry (Nat.le_refl _) (.refl _ _) (Carry.put h2 hj hsb)) trivial
noncomputable def inTree (e elt:PySem.Expr) (d:Nat) (acc:Value):List Comprehension->Env->Sem Unit
 | [],env=>do let _ <- call (.builtin "list.append") [acc,<- eval elt env]
 | g :: _,env=>do
  let x <- eval g.iter env
  standAt g.iter.pos
  let x <- if g.is_async != 0 then foldedIterable g.iter x else foldedSetIterable g.iter env x
  let _ <- runOwn (.compStart e (d+1) (<- holding [x] (if g.is_async != 0 then asyncIter x else pyIter x)) acc env) env
theorem compTurn_g {elt target iter:PySem.Expr} {ifs:List PySem.Expr} {gens gs:List Comprehension} {scope:Scope} {pos:Pos} {d:Nat} (hg:gens[d]? = some ⟨target,iter,ifs,0⟩) (hgs:gens[d+1]? = gs.head?) (hz:∀ g ∈ gs,g.is_async=0) (it acc:Value) (env:Env) :
  compTurn (.ListComp elt gens scope pos) d it acc env=(do
   standAt iter.pos
   match <- pyNext it with
   | none=>pure (.done .next)
   | some v=>
    letOwnedTupleGo target it v
    assign target env v
    let mut ok:=true
    for c in ifs do
     if ok then ok <- isTrue c env (eval c env)
    if ok then
     inTree (.ListComp elt gens scope pos) elt d acc gs env
    again (.compLoop (.ListComp elt gens scope pos) d it acc env)):=by
 unfold compTurn
 simp only [hg,hgs]
 induction gs using List.casesOn with
 | nil=>rfl
 | cons g' r=>
  obtain ⟨t',i',f',a'⟩:=g'
  have ha:a'=0:=hz _ (List.mem_cons_self ..)
  subst ha
  simp only [List.head?_cons,inTree,bne_self_eq_false,Bool.false_eq_true,if_false,bind_assoc,pure_bind]
  rfl
theorem CLoop.inv {step:D->St->St->Prop} {a:AV} {ds0 ds:List D} {st st':St} (h:CLoop step a ds0 ds st st'):DSrc st.m st.nx a ds0 /\ ((ds = [] /\ st'=st) \/ ∃ d r st1,ds=d :: r /\ step d st st1 /\ CLoop step a ds0 r st1 st'):=by
 induction h using CLoop.casesOn with
 | nil hd=>exact ⟨hd,.inl ⟨rfl,rfl⟩⟩
 | cons hd hs r=>exact ⟨hd,.inr ⟨_,_,_,rfl,hs,r⟩⟩
theorem gen_loop {ce target iter:PySem.Expr} {ifs:List PySem.Expr} {tree:Env->Sem Unit} {d:Nat} {n0:Nat} {acc:Value} {env:Env} {it:Addr} (hden:(model prog w).den (.compLoop ce d (.ref it) acc env)=(compTurn ce d (.ref it) acc env).onRaise (fun x=>do noteFrame x env; theTreesLotGoes x)) (hturn:compTurn ce d (.ref it) acc env=(do
   standAt iter.pos
   match <- pyNext (.ref it) with
   | none=>pure (.done .next)
   | some v=>
    letOwnedTupleGo target (.ref it) v
    assign target env v
    let mut ok:=true
    for c in ifs do
     if ok then ok <- isTrue c env (eval c env)
    if ok then
     tree env
    again (.compLoop ce d (.ref it) acc env))) {inner:St->St->Prop}
  (hin:∀ st st',inner st st'->ITr prog w K btab k φ n0 acc tree st st') {a:AV} {ds0:List D} {st0 st':St} {W0:Wd} {A:Around} {s0:Shared} {R:Result->Shared->Prop} {o0:Obj}
  (hund:A.under (Code.compLoop ce d (.ref it) acc env)=A) (hA:AOK k A) (S0:SInv prog w K btab W0 st0.m st0.nx s0.heap) (H0:Held W0 φ env st0 s0.heap it a 0 o0) (hacc:VA W0 st0.nx (.loc n0) acc) (hT:CLoop (CStep prog w K btab k φ ⟨target,iter,ifs,0⟩ inner) a ds0 ds0 st0 st')
  (hR:∀ W' h' tk',st0.nx<=st'.nx->Wd.le st0.nx W0 W'->SInv prog w K btab W' st'.m st'.nx h'->FInv W' φ env st' h'->R (.ok .next) { s0 with heap:=h',toks:=tk' }) :
  codeAny (model prog w) A (.compLoop ce d (.ref it) acc env) R s0:=by
 obtain ⟨I,hI⟩ : ∃ I:Nat->Shared->Prop,LoopI prog w K btab φ (fun ds st=>CLoop (CStep prog w K btab k φ ⟨target,iter,ifs,0⟩ inner) a ds0 ds st st') a ds0 it W0 st0.nx env s0=I:=⟨_,rfl⟩
 refine codeAny_loop rfl I ?_ ds0.length (hI ▸ LoopI.start hT S0 H0)
 clear hT S0 H0
 intro n s hi
 rw [hden,hund]
 clear hden hund
 refine wpAny_noted ?_
 rw [hturn]
 clear hturn
 refine wpAny_bind (wpAny_standAt (wpAny_bind ?_))
 rcases Eq.mpr (congrFun (congrFun hI n) s) hi with ⟨ds,st,W,o,h,tk,rfl,rfl,hdrop,hle,hT,S,H,hn,hl⟩
 clear hi
 have hd:=hT.inv.1
 rcases hT.inv.2 with ⟨rfl,rfl⟩ | ⟨d',ds,st1,rfl,hs,r⟩
 ·refine iter_end hA.handled (s:={ s0 with heap:=h,toks:=tk }) S hd H.at_ H.ito (List.getElem?_eq_none (Nat.le_refl _)) fun h' he=>?_
  exact wpAny_pure (hR W h' tk hn hl (S.own H.own he) (H.done he))
 ·refine iter_item (s:={ s0 with heap:=h,toks:=tk }) S hd H.at_ H.ito (drop_item hdrop) fun v o' h1 tk1 hv ho1 hi1 hsb=>?_
  have H1:=H.step hsb ho1 hi1
  have S1:=S.own H.own hsb.extBut
  refine wpAny_bind (ItO.letGo (s:={ s0 with heap:=h1,toks:=tk1 }) ho1 hi1 ?_)
  have T:=snd_tgt (prog:=prog) (w:=w) (K:=K) (btab:=btab) (k:=k) (φ:=φ) (t:=target) (d:=d') (v:=v) (C:=fun W nx=>VA W nx (.d d') v) (Mono.va _ _) (fun W nx c=>c)
  obtain ⟨st2,ht,hs⟩:=hs
  have T2:=T _ _ _ _ _ _ ht (by simp)
  have fin:∀ (W2:Wd) (h2:Heap) (tk2:Nat),st.nx<=st1.nx->Wd.le st.nx (W.hold it o') W2->SInv prog w K btab W2 st1.m st1.nx h2->FInv W2 φ env st1 h2->∃ m,m < (d' :: ds).length /\ I m { s0 with heap:=h2,toks:=tk2 }:=
   fun W2 h2 tk2 n2 l2 S2 F2=>hI ▸ LoopI.next hdrop hle r H1 hd hn hl n2 l2 S2 F2
  have hacc1:VA (W.hold it o') st.nx (.loc n0) acc:=(hacc.mono hn hl).R
  refine wpAny_bind (T2 (W.hold it o') A env { s0 with heap:=h1,toks:=tk1 } _ _ hA (S1.hold H1.own ho1) H1.frame (.d hv) fun W2 h2 tk2 _ n2 l2 S2 F2 _=>?_)
  have hacc2:=hacc1.mono n2 l2
  rcases hs with ⟨hif,hin'⟩ | ⟨c,st3,b,hif,htst,hb⟩
  ·dsimp only at hif
   subst hif
   refine wpAny_bind (wpAny_tests_nil ?_)
   refine wpAny_bind (hin _ _ hin' W2 A env _ _ _ hA S2 F2 hacc2 fun W3 h3 tk3 _ n3 l3 S3 F3 _=>?_)
   exact wpAny_pure ⟨rfl,fin W3 h3 tk3 (Nat.le_trans n2 n3) (l2.trans n2 l3) S3 F3⟩
  ·dsimp only at hif
   subst hif
   refine wpAny_bind (wpAny_tests_one (htst W2 A env _ _ _ hA S2 F2 trivial fun W3 h3 tk3 x n3 l3 S3 F3 hx=>?_))
   subst hx
   have hacc3:=hacc2.mono n3 l3
   rcases hb with ⟨rfl,hin'⟩ | ⟨rfl,rfl⟩
   ·refine wpAny_bind (hin _ _ hin' W3 A env _ _ _ hA S3 F3 hacc3 fun W4 h4 tk4 _ n4 l4 S4 F4 _=>?_)
    exact wpAny_pure ⟨rfl,fin W4 h4 tk4 (Nat.le_trans n2 (Nat.le_trans n3 n4)) (l2.trans n2 (l3.trans n3 l4)) S4 F4⟩
   ·exact wpAny_pure ⟨rfl,fin W3 h3 tk3 (Nat.le_trans n2 n3) (l2.trans n2 l3) S3 F3⟩
theorem comp_loop {elt target iter:PySem.Expr} {ifs:List PySem.Expr} {gens gs:List Comprehension} {scope:Scope} {pos:Pos} {d:Nat} (hg:gens[d]? = some ⟨target,iter,ifs,0⟩) (hgs:gens[d+1]? = gs.head?) (hz:∀ g ∈ gs,g.is_async=0) {n0:Nat} {acc:Value} {inner:St->St->Prop}
  (hin:∀ st st',inner st st'->ITr prog w K btab k φ n0 acc (inTree (.ListComp elt gens scope pos) elt d acc gs) st st') {a:AV} {ds0:List D} {st0 st':St} {it:Addr} {W0:Wd} {A:Around} {env:Env} {s0:Shared} {R:Result->Shared->Prop} {o0:Obj}
  (hA:AOK k A) (S0:SInv prog w K btab W0 st0.m st0.nx s0.heap) (H0:Held W0 φ env st0 s0.heap it a 0 o0) (hacc:VA W0 st0.nx (.loc n0) acc) (hT:CLoop (CStep prog w K btab k φ ⟨target,iter,ifs,0⟩ inner) a ds0 ds0 st0 st')
  (hR:∀ W' h' tk',st0.nx<=st'.nx->Wd.le st0.nx W0 W'->SInv prog w K btab W' st'.m st'.nx h'->FInv W' φ env st' h'->R (.ok .next) { s0 with heap:=h',toks:=tk' }) :
  codeAny (model prog w) A (.compLoop (.ListComp elt gens scope pos) d (.ref it) acc env) R s0:=gen_loop rfl (compTurn_g hg hgs hz _ _ _) hin rfl hA S0 H0 hacc hT hR
theorem comp_start {elt target iter:PySem.Expr} {ifs:List PySem.Expr} {gens:List Comprehension} {scope:Scope} {pos:Pos} {d:Nat} (hg:gens[d]? = some ⟨target,iter,ifs,0⟩) {it:Addr} {acc:Value} {env:Env} {s:Shared} {A:Around} {R:Result->Shared->Prop} {W:Wd} {a:AV} {i:Nat} {o:Obj}
  (ho:s.heap.get? it=some o) (hi:ItO W a i o) (h0:codeAny (model prog w) A (.compLoop (.ListComp elt gens scope pos) d (.ref it) acc env) R s):codeAny (model prog w) A (.compStart (.ListComp elt gens scope pos) d (.ref it) acc env) R s:=by
 refine codeAny_of_tree ?_
 have hcl:(clausesOf (.ListComp elt gens scope pos))[d]? = some ⟨target,iter,ifs,0⟩:=hg
 have key:∀ E,wpAny (model prog w) A (compStart (.ListComp elt gens scope pos) d (.ref it) acc env) (fun fin s'=>match fin with | .done f=>R (.ok f) s' | .again c'=>c'.quiet=true /\ codeAny (model prog w) A c' R s') E s:=by
  intro E
  unfold compStart
  rw [hcl]
  show wpAny _ _ (ask >>= _) _ _ s
  refine wpAny_bind (wpAny_askSetting (wpAny_ite ?_))
  split
  ·first
    | exact wpAny_bind (wpAny_pure (wpAny_pure (And.intro rfl h0)))
    | exact wpAny_pure (And.intro rfl h0)
  ·have hag:=ItO.again (prog:=prog) (w:=w) (A:=A) (E:=E) (s:=s) (Q:=fun it' s'=>codeAny (model prog w) A (.compLoop (.ListComp elt gens scope pos) d it' acc env) R s') ho hi h0
   first
    | exact wpAny_bind (wpAny_rule (wpAny_bind (wpAny_standAt (wpAny_bind (wpAny_mono hag (fun it' s' h'=>wpAny_pure (And.intro rfl h')) fun _ _ x=>x)))))
    | (refine wpAny_bind (wpAny_rule ?_); show wpAny _ _ (standAt iter.pos >>= _) _ _ s; exact wpAny_bind (wpAny_standAt (wpAny_bind (wpAny_mono hag (fun it' s' h'=>wpAny_pure (And.intro rfl h')) fun _ _ x=>x))))
 show wpAny _ A (if (Code.compStart (.ListComp elt gens scope pos) d (.ref it) acc env).isFrame=true then (compStart (.ListComp elt gens scope pos) d (.ref it) acc env).onRaise (leaving env) else (compStart (.ListComp elt gens scope pos) d (.ref it) acc env).onRaise (fun x=>do noteFrame x env; standAt theWindowsPlace)) _ _ s
 split
 ·exact wpAny_onRaise (key _)
 ·exact wpAny_onRaise (key _)
theorem inner_tr {elt:PySem.Expr} {gens:List Comprehension} {scope:Scope} {pos:Pos} {n0:Nat} {acc:Value}:∀ (gs:List Comprehension) (d:Nat),gens.drop (d+1)=gs->(∀ g ∈ gs,g.is_async=0)->∀ st st',CInner prog w K btab k φ n0 elt gs st st'->ITr prog w K btab k φ n0 acc (inTree (.ListComp elt gens scope pos) elt d acc gs) st st'
 | [],d,hgs,hz,st,st',h=>emit_tr h
 | g :: gs,d,hgs,hz,st,st',h=>by
  obtain ⟨a,st0,ds,hns,has,h1,hd,hL⟩:=h
  obtain ⟨target,iter,ifs,isa⟩:=g
  dsimp only at hns has h1
  subst has
  have hg:gens[d+1]? = some ⟨target,iter,ifs,0⟩:=by rw [<- List.head?_drop,hgs]; rfl
  have hgs2:gens.drop (d+1+1)=gs:=by rw [<- List.drop_drop,hgs]; rfl
  have hh:gens[d+1+1]? = gs.head?:=by rw [<- List.head?_drop,hgs2]
  intro W A env s Q E hA hS hF hc hq
  show wpAny (model prog w) A (do
   let x <- eval iter env
   standAt iter.pos
   let x <- foldedSetIterable iter env x
   let _ <- runOwn (.compStart (.ListComp elt gens scope pos) (d+1) (<- holding [x] (pyIter x)) acc env) env) Q E s
  refine wpAny_bind (h1 W A env s _ E hA hS hF trivial fun W1 h1' tk1 v n1 l1 S1 F1 hv=>?_)
  refine wpAny_bind (wpAny_standAt (wpAny_bind (wpAny_of_eq (noSet_folded hns env v) ?_)))
  refine wpAny_bind (wpAny_holding (iter_held (s:={ s with heap:=h1',toks:=tk1 }) S1 F1 hv hd fun o h2 S2 H2=>?_))
  refine wpAny_bind (wpAny_runOwn ?_)
  refine comp_start hg H2.at_ H2.ito ?_
  refine comp_loop (s0:={ s with heap:=h2,toks:=tk1 }) hg hh (fun g hg=>hz g (List.mem_cons_of_mem _ hg)) (inner_tr gs (d+1) hgs2 fun g hg=>hz g (List.mem_cons_of_mem _ hg)) hA S2 H2 (hc.mono n1 l1) hL fun W3 h3 tk3 n3 l3 S3 F3=>?_
  exact wpAny_pure (hq W3 h3 tk3 () (Nat.le_trans n1 n3) (l1.trans n1 l3) S3 F3 trivial)
noncomputable def isCap (φ:Fm) (p:Str × NameKind):Bool:=p.2 == .free && φ.sc.names.lookup p.1 == some .cell
noncomputable def compSc (φ:Fm) (scope:Scope):Scope:={ scope with names:=scope.names.map fun p=>if isCap φ p then (p.1,.cell) else p }
noncomputable def compFm (φ:Fm) (scope:Scope):Fm:=⟨compSc φ scope,φ.caps,none,φ.qual⟩
noncomputable def compVars (φ:Fm) (vars:List (Str × AV)) (scope:Scope):List (Str × AV):=scope.names.filterMap fun p=>if isCap φ p then (vars.lookup p.1).map (p.1,·) else none
noncomputable def compFz (φ:Fm) (scope:Scope):List Str:=scope.names.filterMap fun p=>if isCap φ p then some p.1 else none
noncomputable def compOk (φ:Fm) (scope:Scope):Bool:=(match scope.kind with | .function=>true | _=>false) && nodupB (scope.names.map (·.1)) && scope.names.all fun p=>match p.2 with
 | .free=>(match φ.sc.names.lookup p.1 with
  | some .cell=>true
  | some .free=>(φ.caps.lookup p.1).isSome
  | _=>false)
 | .cell=>false
 | _=>true
theorem lookup_of_mem_nd {α:Type} {l:List (Str × α)} (hn:(l.map (·.1)).Nodup) {x:Str} {a:α} (h:(x,a) ∈ l):l.lookup x=some a:=by
 induction l with
 | nil=>cases h
 | cons p r ih=>
  obtain ⟨y,b⟩:=p
  rw [List.map_cons,List.nodup_cons] at hn
  rw [List.lookup_cons]
  cases h with
  | head=>rw [beq_self_eq_true]
  | tail _ h=>
   have:x ≠ y:=fun z=>hn.1 (by subst z; exact List.mem_map.mpr ⟨_,h,rfl⟩)
   rw [beq_false_of_ne this]
   exact ih hn.2 h
theorem closure_go (env:Env):∀ (names:List (Str × NameKind)) (cs:List (Str × Addr)),(∀ x,(x,NameKind.free) ∈ names->(env.cells.lookup x).isSome=true) ->
  ∃ cl,(forIn names cs fun p r=>if (p.2 == NameKind.free)=true then (do let c <- cellOf env p.1; pure (ForInStep.yield ((p.1,c) :: r))) else pure (ForInStep.yield r):Sem (List (Str × Addr)))=pure cl /\ ∀ x,(cs.lookup x=env.cells.lookup x \/ (x,NameKind.free) ∈ names)->cl.lookup x=env.cells.lookup x
 | [],cs,_=>⟨cs,rfl,fun x h=>h.elim id fun z=>by cases z⟩
 | (n,kd) :: r,cs,h=>by
  have hr:∀ x,(x,NameKind.free) ∈ r->(env.cells.lookup x).isSome=true:=fun x hx=>h x (List.mem_cons_of_mem _ hx)
  rw [List.forIn_cons]
  by_cases hk:(kd == NameKind.free)=true
  ·have hk':kd=.free:=eq_of_beq hk
   subst hk'
   obtain ⟨c,hc⟩:=Option.isSome_iff_exists.mp (h n (List.mem_cons_self ..))
   obtain ⟨cl,e1,e2⟩:=closure_go env r ((n,c) :: cs) hr
   refine ⟨cl,?_,fun x hx=>e2 x ?_⟩
   ·have e3:cellOf env n=pure c:=by unfold cellOf; rw [hc]
    rw [if_pos hk]
    simp only [e3,pure_bind]
    exact e1
   ·by_cases q:x=n
    ·subst q
     left
     rw [List.lookup_cons,beq_self_eq_true,hc]
    ·rcases hx with hx | hx
     ·left; rw [List.lookup_cons,beq_false_of_ne q]; exact hx
     ·cases hx with
      | head=>exact (q rfl).elim
      | tail _ hx=>exact .inr hx
  ·obtain ⟨cl,e1,e2⟩:=closure_go env r cs hr
   refine ⟨cl,?_,fun x hx=>e2 x ?_⟩
   ·rw [if_neg hk]
    simp only [pure_bind]
    exact e1
   ·rcases hx with hx | hx
    ·exact .inl hx
    ·cases hx with
     | head=>exact (hk rfl).elim
     | tail _ hx=>exact .inr hx
theorem closure_pure (env:Env) (scope:Scope) (h:∀ x,(x,NameKind.free) ∈ scope.names->(env.cells.lookup x).isSome=true) :
  ∃ cl,closureFor scope env=pure cl /\ ∀ x,(x,NameKind.free) ∈ scope.names->cl.lookup x=env.cells.lookup x:=by
 obtain ⟨cl,e1,e2⟩:=closure_go env scope.names [] h
 refine ⟨cl,?_,fun x hx=>e2 x (.inr hx)⟩
 unfold closureFor
 simp only [bind_pure] at *
 refine Eq.trans ?_ e1
 rfl
theorem relabel_eq {env:Env} (h:env.scope=φ.sc) (hk:φ.sc.kind=.function) (scope:Scope):relabel scope env=compSc φ scope:=by
 unfold relabel compSc isCap Env.kindOf
 rw [h,hk]
 congr 1
 refine List.map_congr_left fun p _=>?_
 obtain ⟨n,k⟩:=p
 have:(ScopeKind.function == ScopeKind.function)=true:=rfl
 rw [this]
 dsimp only
 rw [Bool.and_true]
set_option tactic.hygienic true in
theorem comp_mem {φ:Fm} {scope:Scope} {x:Str} {kd:NameKind} (h:(compSc φ scope).names.lookup x=some kd):((x,NameKind.free) ∈ scope.names /\ φ.sc.names.lookup x=some .cell /\ kd=.cell) \/ ((x,kd) ∈ scope.names /\ ¬ (kd=.free /\ φ.sc.names.lookup x=some .cell)):=by
 have hm:=mem_of_lookup h
 obtain ⟨p,hp,e⟩:=List.mem_map.mp hm
 split at e
 ·rename_i hc
  cases e
  unfold isCap at hc
  simp only [Bool.and_eq_true,beq_iff_eq] at hc
  obtain ⟨n,k⟩:=p
  obtain ⟨h1,h2⟩:=hc
  dsimp only at h1 h2
  subst h1
  exact .inl ⟨hp,h2,rfl⟩
 ·rename_i hc
  subst e
  refine .inr ⟨hp,fun z=>hc ?_⟩
  unfold isCap
  simp only [Bool.and_eq_true,beq_iff_eq]
  exact z
set_option tactic.hygienic true in
theorem comp_vars {φ:Fm} {scope:Scope} {vars:List (Str × AV)} {x:Str} {av:AV} (h:(compVars φ vars scope).lookup x=some av):(x,NameKind.free) ∈ scope.names /\ φ.sc.names.lookup x=some .cell /\ vars.lookup x=some av:=by
 have hm:=mem_of_lookup h
 obtain ⟨p,hp,e⟩:=List.mem_filterMap.mp hm
 split at e
 ·rename_i hc
  obtain ⟨n,k⟩:=p
  unfold isCap at hc
  simp only [Bool.and_eq_true,beq_iff_eq] at hc
  obtain ⟨h1,h2⟩:=hc
  dsimp only at h1 h2 e
  subst h1
  obtain ⟨a,ha,e⟩:=Option.map_eq_some_iff.mp e
  cases e
  exact ⟨hp,h2,ha⟩
 ·cases e
theorem comp_fz {φ:Fm} {scope:Scope} {x:Str} (h1:(x,NameKind.free) ∈ scope.names) (h2:φ.sc.names.lookup x=some .cell):x ∈ compFz φ scope:=
 List.mem_filterMap.mpr ⟨_,h1,by unfold isCap; rw [h2]; rfl⟩
set_option tactic.hygienic true in
theorem comp_frame {W1 Wt:Wd} {env:Env} {st0:St} {h1 h4:Heap} {scope:Scope} {m':Nat->MO} {nx':Nat} {cl:List (Str × Addr)} {C:Addr} (F1:FInv W1 φ env st0 h1) (hok:compOk φ scope=true) (hcl:∀ x,(x,NameKind.free) ∈ scope.names->cl.lookup x=env.cells.lookup x)
  (hB:W1.B.le Wt.B) (hR:∀ c o,(W1.R c=some o \/ (OwnAt W1 st0.m st0.nx c /\ h1.get? c=some o))->Wt.R c=some o) (hi:∀ n,n < st0.nx->Wt.ι n=W1.ι n) (hn:st0.nx<=nx') (own:OwnAt Wt m' nx' C) {f:Str->Option Value} (ns:h4.Ns C f) :
  FInv Wt (compFm φ scope) { newEnv scope C env.globals cl env.qual none .none (some env) builtinsNs with scope:=relabel scope env } ⟨compVars φ st0.vars scope,compFz φ scope,m',nx'⟩ h4:=by
 unfold compOk at hok
 simp only [Bool.and_eq_true] at hok
 obtain ⟨⟨hkind,hnd⟩,hall⟩:=hok
 have hnd:=nodupB_nd hnd
 have hall:=List.all_eq_true.mp hall
 refine ⟨relabel_eq F1.scope F1.kind scope,?_,F1.globals,F1.builtins,F1.frame,fun c hc=>(by cases hc),own,⟨_,ns,?_⟩,?_,?_⟩
 ·show scope.kind=.function
  revert hkind; cases scope.kind <;> first | exact fun _=>rfl | exact fun h=>by cases h
 ·intro x av hx hv
  obtain ⟨a1,a2,_⟩:=comp_vars hv
  rcases comp_mem hx with ⟨_,_,b⟩ | ⟨b,_⟩
  ·cases b
  ·have e1:=lookup_of_mem_nd hnd a1
   have e2:=lookup_of_mem_nd hnd b
   rw [e1] at e2; cases e2
 ·intro x hx
  rcases comp_mem hx with ⟨a1,a2,_⟩ | ⟨b,_⟩
  ·obtain ⟨c,e,q⟩:=F1.cells x a2
   refine ⟨c,(hcl x a1).trans e,.inl ⟨comp_fz a1 a2,fun av hav=>?_⟩⟩
   obtain ⟨_,_,hv⟩:=comp_vars hav
   rcases q with ⟨_,q2⟩ | ⟨q1,q2,q3,q4,ov,⟨oc,hoc,hdc⟩,q6⟩
   ·obtain ⟨o,v,a3,a4,a5⟩:=q2 av hv
    exact ⟨o,v,a3.imp (hB _ _) (fun z=>⟨rfl,hR _ _ (.inl z.2)⟩),a4,a5.mono0 hn hB hi⟩
   ·obtain ⟨v,rfl,a5⟩:=q6 av hv
    exact ⟨oc,v,.inr ⟨rfl,hR _ _ (.inr ⟨q2,hoc⟩)⟩,hdc,a5.mono0 hn hB hi⟩
  ·have:=hall _ b
   cases this
 ·intro x av hx hv
  rcases comp_mem hx with ⟨_,_,b⟩ | ⟨b,b2⟩
  ·cases b
  ·have:=hall _ b
   dsimp only at this
   split at this
   ·rename_i e; exact (b2 ⟨rfl,e⟩).elim
   ·rename_i e
    obtain ⟨c,o,v,a1,a2,a3,a4⟩:=F1.free x av e hv
    exact ⟨c,o,v,(hcl x b).trans a1,a2.imp (hB _ _) (fun z=>hR _ _ (.inl z)),a3,a4.mono0 hn hB hi⟩
   ·cases this
set_option backward.match.sparseCases false in
noncomputable def lcChk (φ:Fm):PySem.Expr->Bool
 | .ListComp _ (⟨_,i,_,_⟩ :: gs) scope _=>compOk φ scope && noSet i
 | _=>false
noncomputable def lcElt:PySem.Expr->PySem.Expr
 | .ListComp e _ _ _=>e
 | e=>e
noncomputable def lcGens:PySem.Expr->List Comprehension
 | .ListComp _ gs _ _=>gs
 | _=>[]
noncomputable def lcScope:PySem.Expr->Scope
 | .ListComp _ _ s _=>s
 | _=>default
noncomputable def lcFirst (c:PySem.Expr):Comprehension:=(lcGens c).headD ⟨c,c,[],0⟩
noncomputable def compSt (φ:Fm) (st:St) (scope:Scope):St:=⟨compVars φ st.vars scope,compFz φ scope,upd st.m st.nx (.list []),st.nx+1⟩
set_option tactic.hygienic true in
theorem comp_run {elt:PySem.Expr} {target iter:PySem.Expr} {ifs:List PySem.Expr} {gs:List Comprehension} {scope:Scope} {pos:Pos} {st st0 st2:St} {a:AV} {ds:List D} (hok:compOk φ scope=true) (hns:noSet iter=true) (hsync:∀ g ∈ gs,g.is_async=0)
  (first:ETr prog w K btab k φ iter st a st0) (hd:DSrc st0.m st0.nx a ds)
  (loop:CLoop (CStep prog w K btab k (compFm φ scope) ⟨target,iter,ifs,0⟩ (CInner prog w K btab k (compFm φ scope) st0.nx elt gs)) a ds ds (compSt φ st0 scope) st2) {use:Option (Value->Sem Unit)}
  {W:Wd} {A:Around} {env:Env} {s:Shared} {Q:Value->Shared->Prop} {E:Value->Shared->Prop} (hA:AOK k A) (hS:SInv prog w K btab W st.m st.nx s.heap) (hF:FInv W φ env st s.heap)
  (hq:∀ (W':Wd) (h5:Heap) (tk5:Nat) (C:Addr) (acc:Value),st.nx<=st0.nx->st0.nx < st2.nx->Wd.le st.nx W W'->SInv prog w K btab W' st2.m st2.nx h5->VA W' st2.nx (.loc st0.nx) acc->OwnAt W' st2.m st2.nx C->(∃ f,h5.Ns C f) ->
   (∀ ob,FInv (W'.hold C ob) φ env { st0 with m:=st2.m,nx:=st2.nx } h5)->compPost (model prog w) A E use Q acc C (.ok .next) { s with heap:=h5,toks:=tk5 }) :
  wpAny (model prog w) A (comprehension (.ListComp elt (⟨target,iter,ifs,0⟩ :: gs) scope pos) scope env (firstIterPos (⟨target,iter,ifs,0⟩ :: gs) pos) (newList []) false (eval iter env) use) Q E s:=by
 have hok':=hok
 unfold compOk at hok'
 simp only [Bool.and_eq_true] at hok'
 obtain ⟨⟨hkind,hnd⟩,hall⟩:=hok'
 have hnd:=nodupB_nd hnd
 have hall:=List.all_eq_true.mp hall
 have hkind:scope.kind=.function:=by revert hkind; cases scope.kind <;> first | exact fun _=>rfl | exact fun h=>by cases h
 have hcells:∀ x,(x,NameKind.free) ∈ scope.names->(env.cells.lookup x).isSome=true:=by
  intro x hx
  have:=hall _ hx
  dsimp only at this
  split at this
  ·rename_i e
   obtain ⟨c,e,_⟩:=hF.cells x e
   rw [e]; rfl
  ·rename_i e
   obtain ⟨av,hav⟩:=Option.isSome_iff_exists.mp this
   obtain ⟨c,o,v,a1,_⟩:=hF.free x av e hav
   rw [a1]; rfl
  ·cases this
 obtain ⟨cl,hcl1,hcl2⟩:=closure_pure env scope hcells
 refine wpAny_comprehension_free rfl (fun x=>noSet_folded hns env x) hcl1 hkind (fun x hx hl=>by obtain ⟨n,kd⟩:=x; dsimp only at hl; subst hl; exact lookup_of_mem_nd hnd hx) ?_
 refine first W A env s _ E hA hS hF trivial fun W1 h1 tk1 v n1 l1 S1 F1 hv=>?_
 have S1s:=S1.shut
 refine iter_start (s:={ s with heap:=h1,toks:=tk1 }) S1s hv.shut hd fun o hi hf=>?_
 have hit0:OwnAt (W1.shut st0.m st0.nx h1) st0.m st0.nx h1.objs.size:=S1s.fresh (get?_size h1)
 have S2:=S1s.keeps (Keeps.push h1 o)
 refine wpAny_newList ?_ (by rw [sizeLine_eq]; simp)
 dsimp only
 obtain ⟨S3,l3,c3⟩:=S2.new (o:={ cls:=.type "list",data:=.seq ([]:List Value).toArray }) (mo:=.list []) ⟨[],0,Heap.get?_push_size _ rfl,.nil⟩
 obtain ⟨hit3,hat3⟩:=c3 _ _ hit0 (Heap.get?_push_size _ hf)
 generalize hH3:(h1.push o).push { cls:=.type "list",data:=.seq ([]:List Value).toArray }=H3 at S3 hat3 hit3 c3
 refine wpAny_newFunctionEnv (fun x hx hc=>by obtain ⟨n,kd⟩:=x; dsimp only at hc; subst hc; have:=hall _ hx; cases this) (by intro x hx; cases hx) (fun h4 hns4 hsb4=>?_) hkind
 have hC0:H3.get? H3.objs.size=none:=get?_size H3
 dsimp only at hns4 hsb4 ⊢
 have k34:Keeps H3 h4:=fun b ob e=>hsb4.extBut b ob (fun z=>by rw [z,hC0] at e; cases e) (Heap.get?_push_of_some _ e)
 have S4:=S3.keeps k34
 have hC3:OwnAt ((W1.shut st0.m st0.nx h1).lay st0.nx (h1.push o).objs.size) (upd st0.m st0.nx (.list [])) (st0.nx+1) H3.objs.size:=S3.fresh hC0
 have hCit:H3.objs.size ≠ h1.objs.size:=fun z=>by rw [<- z,hC0] at hat3; cases hat3
 have F4:FInv (((W1.shut st0.m st0.nx h1).lay st0.nx (h1.push o).objs.size).hold h1.objs.size o) (compFm φ scope) { newEnv scope H3.objs.size env.globals cl env.qual none .none (some env) builtinsNs with scope:=relabel scope env } (compSt φ st0 scope) h4:=by
  refine comp_frame F1 hok hcl2 (.refl _) (fun c oc h=>?_) (fun n hn=>upd_ne _ _ _ (Nat.ne_of_lt hn)) (Nat.le_succ _) ⟨hC3.b,(hold_ne hCit).trans hC3.r,hC3.i⟩ hns4
  have hc:(W1.shut st0.m st0.nx h1).R c=some oc:=by
   rcases h with h | ⟨h,h'⟩
   ·exact shutR_of h
   ·exact (shutR_own h).trans h'
  have hne:c ≠ h1.objs.size:=fun z=>by
   have:=hit0.r
   rw [<- z,hc] at this; cases this
  exact (hold_ne hne).trans hc
 have ito:ItO ((W1.shut st0.m st0.nx h1).lay st0.nx (h1.push o).objs.size) a 0 o:=hi.mono hd lay_le
 have hd':(m:Unit)->DSrc (compSt φ st0 scope).m (compSt φ st0 scope).nx a ds \/ True:=fun _=>.inr trivial
 have H4:Held ((W1.shut st0.m st0.nx h1).lay st0.nx (h1.push o).objs.size) (compFm φ scope) { newEnv scope H3.objs.size env.globals cl env.qual none .none (some env) builtinsNs with scope:=relabel scope env } (compSt φ st0 scope) h4 h1.objs.size a 0 o:=
  ⟨hit3,k34 _ _ hat3,ito,F4⟩
 have hacc:VA ((W1.shut st0.m st0.nx h1).lay st0.nx (h1.push o).objs.size) (st0.nx+1) (.loc st0.nx) (.ref (h1.push o).objs.size):=by
  have z:=VA.loc (W:=(W1.shut st0.m st0.nx h1).lay st0.nx (h1.push o).objs.size) (n:=st0.nx) (nx:=st0.nx+1) (Nat.lt_succ_self _)
  have e:((W1.shut st0.m st0.nx h1).lay st0.nx (h1.push o).objs.size).ι st0.nx=(h1.push o).objs.size:=upd_at _ _ _
  rw [e] at z
  exact z
 refine comp_start rfl H4.at_ H4.ito ?_
 refine comp_loop (s0:={ s with heap:=h4,toks:=tk1+([]:List (Str × Value)).length }) (gs:=gs) rfl (by rw [List.head?_eq_getElem?]; rfl) hsync (inner_tr gs 0 rfl hsync) hA S4 H4 hacc loop fun W5 h5 tk5 n5 l5 S5 F5=>?_
 have n5':st0.nx+1<=st2.nx:=n5
 obtain ⟨S6,l6,c6⟩:=SInv.unshut (W:=W1) (l:=(lay_le (W:=W1.shut st0.m st0.nx h1) (nx:=st0.nx)).trans (Nat.le_succ _) l5) S5
 obtain ⟨f5,hns5,_⟩:=F5.locs
 have own5:OwnAt W5 st2.m st2.nx H3.objs.size:=F5.own
 have own6:OwnAt { W5 with R:=W1.R } st2.m st2.nx H3.objs.size:=by
  refine ⟨own5.b,?_,own5.i⟩
  show W1.R H3.objs.size=none
  cases q:W1.R H3.objs.size with
  | none=>rfl
  | some ob=>
   have e1:W5.R H3.objs.size=some ob:=by
    rw [l5.R]
    exact shutR_of q
   rw [own5.r] at e1; cases e1
 refine hq { W5 with R:=W1.R } h5 tk5 H3.objs.size (.ref (h1.push o).objs.size) n1 n5' (l1.trans n1 l6) S6 ((hacc.mono n5 l5).R) own6 ⟨f5,hns5⟩ fun ob=>?_
 have k13:Keeps h1 H3:=by rw [<- hH3]; exact (Keeps.push h1 o).trans (Keeps.push _ _)
 have hC1:h1.get? H3.objs.size=none:=by
  cases q:h1.get? H3.objs.size with
  | none=>rfl
  | some oo=>rw [k13 _ _ q] at hC0; cases hC0
 have F1h:=F1.hold (ob:=ob) S1 hC1 (Keeps.refl h1)
 refine F1h.carry (W':=({ W5 with R:=W1.R }:Wd).hold H3.objs.size ob) (Nat.le_of_lt n5') ⟨l6.B,rfl,l6.ι⟩ fun b oo hb hob=>?_
 have hbne:b ≠ H3.objs.size:=fun z=>by have:=hb.r; rw [z,hold_at] at this; cases this
 obtain ⟨x1,x2⟩:=c6 b oo ⟨hb.b,by have:=hb.r; rw [hold_ne hbne] at this; exact this,hb.i⟩ hob
 exact ⟨⟨x1.b,(hold_ne hbne).trans x1.r,x1.i⟩,x2⟩
noncomputable def lcOk (φ:Fm) (c:PySem.Expr):Bool:=lcChk φ c && (lcGens c).all fun g=>g.is_async == 0
noncomputable def lcRest (c:PySem.Expr):List Comprehension:=(lcGens c).tail
noncomputable def fzVal (fz:Bool) (n:Nat) (l:List D):AV:=match fz with
 | true=>.d (.lst l)
 | false=>.loc n
noncomputable def fzMap (fz:Bool) (n:Nat) (m:Nat->MO):Nat->MO:=match fz with
 | true=>upd m n .junk
 | false=>m
theorem fz_do {W:Wd} {m:Nat->MO} {nx n:Nat} {h:Heap} {l:List D} {acc:Value} (fz:Bool) (S:SInv prog w K btab W m nx h) (hn:n < nx) (hl:m n=.list l) (hacc:VA W nx (.loc n) acc) :
  (∃ W',A4 (SInv prog w K btab W' (fzMap fz n m) nx h) (Wd.le nx W W') (Carry W m nx h W' (fzMap fz n m) nx h) (VA W' nx (fzVal fz n l) acc)):=by
 induction fz using Bool.casesOn with
 | false=>exact ⟨W,S,.refl _ _,.refl _ _ _ _,hacc⟩
 | true=>
  have hj:m n ≠ .junk:=by rw [hl]; exact fun q=>by cases q
  obtain ⟨vs,nn,ho,hvs⟩:=loc_ex S hn hl
  obtain ⟨S',l',c'⟩:=S.still hn hj ho
  refine ⟨_,S',l',c',?_⟩
  cases hacc with
  | loc _=>exact .d (.lst (freeze_at _ _ _) (hvs.mono l'.B))
theorem FInv.unhold {W:Wd} {env:Env} {st:St} {h h':Heap} {a:Addr} {ob:Obj} (F:FInv (W.hold a ob) φ env st h) (hnc:∀ v,ob.data ≠ .cell v) (hs:Heap.ExtBut a h h'):FInv W φ env st h':=
 (F.extR (hold_at W a ob) hs).reR (R:=W.R) (a:=a) (fun b hb=>(hold_ne hb).symm) (hold_at W a ob) hnc
set_option tactic.hygienic true in
theorem lcOk_of {c:PySem.Expr}:lcOk φ c=true->∃ elt target iter ifs gs scope pos,c=.ListComp elt (⟨target,iter,ifs,0⟩ :: gs) scope pos /\ compOk φ scope=true /\ noSet iter=true /\ ∀ g ∈ gs,g.is_async=0:=by
 induction c using PySem.Expr.casesOn with
 | ListComp elt gs scope pos=>
  induction gs using List.casesOn with
  | nil=>exact fun h=>Internal.ft h
  | cons g gs=>
   obtain ⟨t,i,ifs,a⟩:=g
   intro h
   have h:=(Bool.and_eq_true _ _).mp h
   have h1:=(Bool.and_eq_true _ _).mp (show (compOk φ scope && noSet i)=true from h.1)
   have h2:=List.all_eq_true.mp h.2
   obtain rfl:a=0:=eq_of_beq (h2 _ (List.mem_cons_self ..))
   exact ⟨elt,t,i,ifs,gs,scope,pos,rfl,h1.1,h1.2,fun g hg=>eq_of_beq (h2 g (List.mem_cons_of_mem _ hg))⟩
 | _=>exact fun h=>Internal.ft h
theorem ETr.comp {c:PySem.Expr} {st st0 st2:St} {a:AV} {ds l:List D} (hc:lcOk φ c=true) (first:ETr prog w K btab k φ (lcFirst c).iter st a st0) (hd:DSrc st0.m st0.nx a ds)
  (loop:CLoop (CStep prog w K btab k (compFm φ (lcScope c)) (lcFirst c) (CInner prog w K btab k (compFm φ (lcScope c)) st0.nx (lcElt c) (lcRest c))) a ds ds (compSt φ st0 (lcScope c)) st2) (hl:st2.m st0.nx=.list l) (fz:Bool) :
  ETr prog w K btab k φ c st (fzVal fz st0.nx l) { st0 with m:=fzMap fz st0.nx st2.m,nx:=st2.nx }:=by
 obtain ⟨elt,target,iter,ifs,gs,scope,pos,rfl,hok,hns,hsync⟩:=lcOk_of hc
 intro W A env s Q E hA hS hF hc' hq
 show wpAny (model prog w) A (eval (.ListComp elt (⟨target,iter,ifs,0⟩ :: gs) scope pos) env) Q E s
 rw [arm_eval_ListComp]
 refine comp_run hok hns hsync first hd loop (use:=none) hA hS hF fun W' h5 tk5 C acc n1 n2 l1 S5 hacc own ⟨f,ns⟩ F5=>?_
 refine ⟨f,ns,fun h' hsb=>?_⟩
 obtain ⟨oC,es,ep,hoC,hns⟩:=id ns
 have F6:=(F5 oC).unhold (fun v e=>by
  obtain ⟨_,hdt,_⟩:=hns
  simp_all) hsb.extBut
 obtain ⟨W7,S7,l7,c7,v7⟩:=fz_do fz (S5.own own hsb.extBut) n2 hl hacc
 exact hq W7 h' tk5 acc (Nat.le_trans n1 (Nat.le_of_lt n2)) (l1.trans (Nat.le_trans n1 (Nat.le_of_lt n2)) l7) S7 (F6.carry (Nat.le_refl _) l7 c7) v7
theorem Wd.le.held {W W':Wd} {nx:Nat} {a:Addr} {o:Obj} (l:Wd.le nx W W'):Wd.le nx (W.hold a o) (W'.hold a o):=⟨l.B,by show (fun b=>if b=a then some o else W'.R b)=_; rw [l.R]; rfl,l.ι⟩
theorem Carry.held {W W':Wd} {m m':Nat->MO} {nx nx':Nat} {h h':Heap} {a:Addr} {o:Obj} (c:Carry W m nx h W' m' nx' h'):Carry (W.hold a o) m nx h (W'.hold a o) m' nx' h':=by
 intro b ob hb hob
 have hne:b ≠ a:=fun z=>by have:=hb.r; rw [z,hold_at] at this; cases this
 obtain ⟨x1,x2⟩:=c b ob ⟨hb.b,by have:=hb.r; rw [hold_ne hne] at this; exact this,hb.i⟩ hob
 exact ⟨⟨x1.b,(hold_ne hne).trans x1.r,x1.i⟩,x2⟩
set_option backward.match.sparseCases false in
noncomputable def asVal:Stmt->PySem.Expr
 | .Assign _ c _=>c
 | _=>.Constant .none 0 default
noncomputable def asName:Stmt->Str
 | .Assign [.Name x _] _ _=>x
 | _=>Str.empty
noncomputable def asChk:Stmt->Bool
 | .Assign [.Name _ _] _ _=>true
 | _=>false
set_option tactic.hygienic true in
theorem asChk_of {s:Stmt}:asChk s=true->∃ x p c q,s=.Assign [.Name x p] c q:=by
 induction s using PySem.Stmt.casesOn with
 | Assign ts c q=>
  induction ts using List.casesOn with
  | nil=>exact fun h=>Internal.ft h
  | cons t r=>
   induction t using PySem.Expr.casesOn with
   | Name x p=>exact List.casesOn r (fun _=>⟨x,p,c,q,rfl⟩) (fun _ _ h=>Internal.ft h)
   | _=>exact fun h=>Internal.ft h
 | _=>exact fun h=>Internal.ft h
theorem STr.comp_ {s:Stmt} {st st0 st2 st':St} {a:AV} {ds l:List D} (has:asChk s=true) (hc:lcOk φ (asVal s)=true) (first:ETr prog w K btab k φ (lcFirst (asVal s)).iter st a st0) (hd:DSrc st0.m st0.nx a ds)
  (loop:CLoop (CStep prog w K btab k (compFm φ (lcScope (asVal s))) (lcFirst (asVal s)) (CInner prog w K btab k (compFm φ (lcScope (asVal s))) st0.nx (lcElt (asVal s)) (lcRest (asVal s)))) a ds ds (compSt φ st0 (lcScope (asVal s))) st2) (hl:st2.m st0.nx=.list l) (fz:Bool)
  (hst:gStore φ (asName s) (fzVal fz st0.nx l) { st0 with m:=fzMap fz st0.nx st2.m,nx:=st2.nx } []=some ((),st',[],[])):STr prog w K btab k φ s st .next st':=by
 obtain ⟨x,p,c,q,rfl⟩:=asChk_of has
 dsimp only [asVal,asName] at hc first loop hst
 have T:=fun (v:Value) (C:Wd->Nat->Prop)=>snd_store (prog:=prog) (w:=w) (K:=K) (btab:=btab) (k:=k) (φ:=φ) (x:=x) (a:=fzVal fz st0.nx l) (v:=v) (C:=C)
 intro W A env s Q E hA hS hF hc' hq
 by_cases hsw:swapsWith c (some (.Name x p)) q.line env=pure false
 ·refine wpAny_Assign_Name ?_ hsw
  refine ETr.comp hc first hd loop hl fz W A env s _ E hA hS hF trivial fun W1 h1 tk1 v n1 l1 S1 F1 hv=>?_
  refine T v (fun W nx=>VA W nx (fzVal fz st0.nx l) v) (fun W nx c=>c) _ _ _ _ _ _ hst (by simp) W1 A env _ _ E hA S1 F1 hv fun W2 h2 tk2 _ n2 l2 S2 F2 _=>?_
  exact hq W2 h2 tk2 .next (Nat.le_trans n1 n2) (l1.trans n1 l2) S2 F2 trivial
 ·obtain ⟨elt,target,iter,ifs,gs,scope,pos,rfl,hok,hns,hsync⟩:=lcOk_of hc
  have hsw2:swapsWithSole [.Name x p] (.ListComp elt (⟨target,iter,ifs,0⟩ :: gs) scope pos) q.line env=pure true:=by
   show swapsWith (.ListComp elt (⟨target,iter,ifs,0⟩ :: gs) scope pos) (some (.Name x p)) q.line env=pure true
   have e:∃ b:Bool,swapsWith (.ListComp elt (⟨target,iter,ifs,0⟩ :: gs) scope pos) (some (.Name x p)) q.line env=pure b:=⟨_,rfl⟩
   obtain ⟨b,e⟩:=e
   induction b using Bool.casesOn with
   | true=>exact e
   | false=>exact (hsw e).elim
  show wpAny (model prog w) A (exec (.Assign [.Name x p] (.ListComp elt (⟨target,iter,ifs,0⟩ :: gs) scope pos) q) env) Q E s
  rw [arm_exec_Assign,hsw2]
  refine wpAny_bind (wpAny_standAt (wpAny_bind (wpAny_pure ?_)))
  refine wpAny_bind ?_
  rw [arm_evalThenUse_ListComp]
  generalize hu:(fun v=>assignAll v (List.map (fun x=>x.2) (assignEach [.Name x p] env)))=u
  dsimp only
  refine wpAny_bind ?_
  have e1:firstAsync (⟨target,iter,ifs,0⟩ :: gs)=false:=rfl
  have e2:firstIter (⟨target,iter,ifs,0⟩ :: gs) env=eval iter env:=rfl
  rw [e1,e2]
  refine comp_run hok hns hsync first hd loop (use:=some u) hA hS hF fun W' h5 tk5 C acc n1 n2 l1 S5 hacc own ⟨f,ns⟩ F5=>?_
  obtain ⟨oC,es,ep,hoC,hns⟩:=id ns
  have hnc:∀ v,oC.data ≠ .cell v:=fun v e=>by rw [e] at hns; cases hns.1
  obtain ⟨W7,S7,l7,c7,v7⟩:=fz_do fz S5 n2 hl hacc
  obtain ⟨own7,_⟩:=c7 _ _ own hoC
  have F7:=(F5 oC).carry (Nat.le_refl _) (l7.held (a:=C) (o:=oC)) (c7.held (a:=C) (o:=oC))
  show wpAny (model prog w) A (u acc) _ E _
  rw [<- hu]
  show wpAny (model prog w) A (assign (.Name x p) env acc) _ E _
  refine wpAny_assign_Name ?_
  refine T acc (fun W nx=>VA W nx (fzVal fz st0.nx l) acc) (fun W nx c=>c) _ _ _ _ _ _ hst (by simp) (W7.hold C oC) A env { s with heap:=h5,toks:=tk5 } _ E hA (S7.hold own7 hoC) F7 (v7.R) fun W8 h8 tk8 _ n8 l8 S8 F8 _=>?_
  obtain ⟨S9,l9,own9,at9⟩:=S8.unhold own7 l8
  refine ⟨f,⟨oC,es,ep,at9,hns⟩,fun h' hsb=>?_⟩
  have eW:({ W8 with R:=W7.R }:Wd).hold C oC=W8:=by
   obtain ⟨B,R,ι⟩:=W8
   have:R=(W7.hold C oC).R:=l8.R
   subst this
   rfl
  have F9:FInv ({ W8 with R:=W7.R }:Wd) φ env st' h':=FInv.unhold (a:=C) (ob:=oC) (by rw [eW]; exact F8) hnc hsb.extBut
  refine wpAny_pure (wpAny_pure (hq { W8 with R:=W7.R } h' tk8 .next (Nat.le_trans n1 (Nat.le_trans (Nat.le_of_lt n2) n8)) ?_ (S9.own own9 hsb.extBut) F9 trivial))
  exact l1.trans (Nat.le_trans n1 (Nat.le_of_lt n2)) (l7.trans (Nat.le_refl _) l9)
theorem freeze_name {W:Wd} {env:Env} {st:St} {h:Heap} {x:Str} {av:AV} (S:SInv prog w K btab W st.m st.nx h) (F:FInv W φ env st h) (hx:φ.sc.names.lookup x=some .cell) (hcode:φ.code ≠ none) (hv:st.vars.lookup x=some av) :
  (∃ W',A4 (SInv prog w K btab W' st.m st.nx h) (Wd.le st.nx W W') (FInv W' φ env { st with fz:=x :: st.fz } h) ((Ex3 fun c o v=>A4 (env.cells.lookup x=some c) (W'.B c=some o) (o.data=.cell (some v)) (VA W' st.nx av v)))):=by
 obtain ⟨c,e,q⟩:=F.cells x hx
 rcases q with ⟨q1,q2⟩ | ⟨q1,q2,q3,q4,ov,⟨oc,hoc,hdc⟩,q6⟩
 ·obtain ⟨o,v,a1,a2,a3⟩:=q2 av hv
  have a1:W.B c=some o:=a1.elim id fun z=>(hcode z.1).elim
  refine ⟨W,S,.refl _ _,⟨F.scope,F.kind,F.globals,F.builtins,F.frame,F.code,F.own,F.locs,fun y hy=>?_,F.free⟩,c,o,v,e,a1,a2,a3⟩
  obtain ⟨c',e',q'⟩:=F.cells y hy
  refine ⟨c',e',?_⟩
  rcases q' with ⟨p1,p2⟩ | ⟨p1,p2,p3,p4,p5⟩
  ·exact .inl ⟨List.mem_cons_of_mem _ p1,p2⟩
  ·by_cases hyx:y=x
   ·subst hyx; exact (p1 q1).elim
   ·exact .inr ⟨fun z=>by cases z with | head=>exact hyx rfl | tail _ z=>exact p1 z,p2,p3,p4,p5⟩
 ·obtain ⟨v,rfl,a3⟩:=q6 av hv
  have S':=S.freeze q2 hoc
  have l:Wd.le st.nx W (W.freeze c oc):=freeze_le q2.b
  have own:∀ b,b ≠ c->OwnAt W st.m st.nx b->OwnAt (W.freeze c oc) st.m st.nx b:=fun b hb p=>⟨(if_neg hb).trans p.b,p.r,p.i⟩
  obtain ⟨m,hns,hm⟩:=F.locs
  refine ⟨_,S',l,⟨F.scope,F.kind,F.globals,F.builtins,F.frame,F.code,own _ (Ne.symm q3) F.own,⟨m,hns,fun y av e1 e2=>let ⟨v,e3,e4⟩:=hm y av e1 e2; ⟨v,e3,e4.mono (Nat.le_refl _) l⟩⟩,fun y hy=>?_,fun y av e1 e2=>?_⟩,c,oc,v,e,freeze_at _ _ _,hdc,a3.mono (Nat.le_refl _) l⟩
  ·by_cases hyx:y=x
   ·subst hyx
    refine ⟨c,e,.inl ⟨List.mem_cons_self ..,fun av' hav'=>?_⟩⟩
    have:av'=av:=Option.some.inj (hav'.symm.trans hv)
    subst this
    exact ⟨oc,v,.inl (freeze_at _ _ _),hdc,a3.mono (Nat.le_refl _) l⟩
   ·obtain ⟨c',e',q'⟩:=F.cells y hy
    refine ⟨c',e',?_⟩
    rcases q' with ⟨p1,p2⟩ | ⟨p1,p2,p3,p4,ov',hc',p6⟩
    ·exact .inl ⟨List.mem_cons_of_mem _ p1,fun av' hav'=>let ⟨o,v,b1,b2,b3⟩:=p2 av' hav'; ⟨o,v,b1.imp (l.B _ _) (fun z=>z),b2,b3.mono (Nat.le_refl _) l⟩⟩
    ·have hne:c' ≠ c:=q4 y c' hyx hy e'
     exact .inr ⟨fun z=>by cases z with | head=>exact hyx rfl | tail _ z=>exact p1 z,own _ hne p2,p3,p4,ov',hc',fun av' hav'=>let ⟨v,b1,b2⟩:=p6 av' hav'; ⟨v,b1,b2.mono (Nat.le_refl _) l⟩⟩
  ·obtain ⟨c',o,v,b1,b2,b3,b4⟩:=F.free y av e1 e2
   exact ⟨c',o,v,b1,b2.imp (l.B _ _) (fun z=>z),b3,b4.mono (Nat.le_refl _) l⟩
noncomputable def lamNames (φ:Fm) (vars:List (Str × AV)) (names:List (Str × NameKind)):Bool:=names.all fun p=>match p.2 with
 | .free=>φ.sc.names.lookup p.1 == some .cell && (vars.lookup p.1).isSome
 | .cell=>false
 | _=>true
theorem frozenBy_free {n:Str} {r:List (Str × NameKind)} {fz:List Str} (h:φ.sc.names.lookup n=some .cell):frozenBy φ ((n,.free) :: r) fz=frozenBy φ r (n :: fz):=by
 unfold frozenBy
 rw [List.foldl_cons,h]
theorem lam_at {n:Str} {vars:List (Str × AV)} (h:(φ.sc.names.lookup n == some .cell && (vars.lookup n).isSome)=true):φ.sc.names.lookup n=some .cell /\ (vars.lookup n).isSome=true:=⟨eq_of_beq (and_t h).1,(and_t h).2⟩
theorem freeze_all {env:Env} {h:Heap} (hcode:φ.code ≠ none):∀ (names:List (Str × NameKind)) (W:Wd) (st:St),lamNames φ st.vars names=true->SInv prog w K btab W st.m st.nx h->FInv W φ env st h ->
  (∃ W',A4 (SInv prog w K btab W' st.m st.nx h) (Wd.le st.nx W W') (FInv W' φ env { st with fz:=frozenBy φ names st.fz } h) (∀ x,(x,NameKind.free) ∈ names->∀ av,st.vars.lookup x=some av->(Ex3 fun c o v=>A4 (env.cells.lookup x=some c) (W'.B c=some o) (o.data=.cell (some v)) (VA W' st.nx av v))))
 | [],W,st,_,S,F=>⟨W,S,.refl _ _,F,fun x hx=>by cases hx⟩
 | (n,kd) :: r,W,st,hl,S,F=>by
  unfold lamNames at hl
  rw [List.all_cons,Bool.and_eq_true] at hl
  obtain ⟨h1,h2⟩:=hl
  induction kd using PySem.NameKind.casesOn with
  | free=>
   have h1:=lam_at h1
   obtain ⟨av,hav⟩:=Option.isSome_iff_exists.mp h1.2
   obtain ⟨W1,S1,l1,F1,c,o,v,e1,e2,e3,e4⟩:=freeze_name S F h1.1 hcode hav
   obtain ⟨W2,S2,l2,F2,a2⟩:=freeze_all hcode r W1 { st with fz:=n :: st.fz } h2 S1 F1
   have efz:=frozenBy_free (r:=r) (fz:=st.fz) h1.1
   refine ⟨W2,S2,l1.trans (Nat.le_refl _) l2,by rw [efz]; exact F2,fun x hx av' hav'=>?_⟩
   cases hx with
   | head=>
    have:av'=av:=Option.some.inj (hav'.symm.trans hav)
    subst this
    exact ⟨c,o,v,e1,l2.B _ _ e2,e3,e4.mono (Nat.le_refl _) l2⟩
   | tail _ hx=>exact a2 x hx av' hav'
  | cell=>cases h1
  | _=>
   obtain ⟨W2,S2,l2,F2,a2⟩:=freeze_all hcode r W st h2 S F
   exact ⟨W2,S2,l2,F2,fun x hx av' hav'=>by cases hx with | tail _ hx=>exact a2 x hx av' hav'⟩
theorem freeCaps_cons {get:Str->Option AV} {x:Str} {r:List (Str × NameKind)}:freeCaps get ((x,.free) :: r)=(get x).bind fun a=>(freeCaps get r).map ((x,a) :: ·):=by
 conv=>lhs; unfold freeCaps
 cases get x <;> cases freeCaps get r <;> rfl
theorem freeCaps_mem {get:Str->Option AV}:∀ {names:List (Str × NameKind)} {caps:List (Str × AV)},freeCaps get names=some caps->∀ p ∈ caps,(p.1,NameKind.free) ∈ names /\ get p.1=some p.2
 | [],caps,e,p,hp=>by cases e; cases hp
 | (x,kd) :: r,caps,e,p,hp=>by
  induction kd using PySem.NameKind.casesOn with
  | free=>
   obtain ⟨a,ha,e1⟩:=Option.bind_eq_some_iff.mp (freeCaps_cons.symm.trans e)
   obtain ⟨l,hl,e2⟩:=Option.map_eq_some_iff.mp e1
   subst e2
   cases hp with
   | head=>exact ⟨List.mem_cons_self ..,ha⟩
   | tail _ hp=>exact (freeCaps_mem hl p hp).imp (List.mem_cons_of_mem _) id
  | _=>exact (freeCaps_mem (show freeCaps get r=some caps from e) p hp).imp (List.mem_cons_of_mem _) id
noncomputable def noDef:Arguments->Bool
 | ⟨_,_,_,_,[],_,[]⟩=>true
 | ⟨_,_,_,_,kwd,_,[]⟩=>kwd.all (·.isNone) && false
 | _=>false
theorem bm_ne {h:Heap} {P:Addr} {ps:Array Value} (hB:BMain h) (hP:h.get? P=some { cls:=.none,data:=.fields ps }):(∃ mg,A3 (h.Ns mainGlobals mg) (mainGlobals ≠ P) (h.BuiltinsAt mg P)):=by
 obtain ⟨mg,bm,ob,hg,b1,b2,b3,b4,b5,b6⟩:=hB
 have hgP:mainGlobals ≠ P:=fun q=>by
  obtain ⟨o,es,ep,e,hd,_⟩:=hg
  rw [q,hP] at e; cases e; cases hd
 have hbP:bm ≠ P:=fun q=>by rw [q,hP] at b3; cases b3; cases b4
 have hbG:bm ≠ mainGlobals:=fun q=>by
  obtain ⟨o,es,ep,e,hd,_⟩:=hg
  rw [q,e] at b3; cases b3; rw [hd] at b6; cases b6
 exact ⟨mg,hg,hgP,bm,ob,b1,b2,hbG,hbP,b3,b4,b5,b6⟩
set_option tactic.hygienic true in
theorem codeAmong_or {pos:Pos} {a b:Int} {c v:Value} {l:List Value} (h:TriplesOk l) (e:codeAmong pos (l ++ [rawInt a,rawInt b,c])=some v):codeAmong pos l=some v \/ v=c:=by
 fun_induction TriplesOk l with
 | case1=>
  right
  simp only [List.nil_append,codeAmong,rawInt] at e
  split at e
  ·cases e; rfl
  ·cases e
 | case2 a' t b' u x rest ih=>
  simp only [List.cons_append,codeAmong] at e ⊢
  split at e
  ·rename_i hc; rw [if_pos hc]; exact .inl e
  ·rename_i hc; rw [if_neg hc]; exact ih h e
 | case3 l h1 h2=>exact h.elim
noncomputable def cvOf (B:BM) (cl:List (Str × Addr)) (x:Str):Value:=((cl.lookup x).bind B).elim .none fun o=>match o.data with | .cell (some v)=>v | _=>.none
theorem cvOf_at {B:BM} {cl:List (Str × Addr)} {x:Str} {c:Addr} {o:Obj} {v:Value} (e1:cl.lookup x=some c) (e2:B c=some o) (e3:o.data=.cell (some v)):cvOf B cl x=v:=by
 unfold cvOf
 rw [e1,show (some c).bind B=some o from e2]
 show (match o.data with | .cell (some v)=>v | _=>.none)=v
 rw [e3]
theorem noDef_of {ps:Arguments} {env:Env} (h:noDef ps=true):defaultsOf ps env=([],[]):=by
 obtain ⟨p1,p2,p3,p4,p5,p6,p7⟩:=ps
 induction p7 using List.casesOn with
 | nil=>
  induction p5 using List.casesOn with
  | nil=>rfl
  | cons x r=>exact ft ((Bool.and_false _).symm.trans (show ((x :: r).all (·.isNone) && false)=true from h))
 | cons x r=>cases p5 <;> cases h
theorem ETr.lam {ps:Arguments} {body:PySem.Expr} {sc:Scope} {pos:Pos} {st:St} {caps:List (Str × AV)} {j:Nat} {cA:Addr} (hdef:noDef ps=true) (hcode:φ.code=some cA) (hj:j < st.nx) (hm:st.m j=.tab cA)
  (hn:lamNames φ st.vars sc.names=true) (hcaps:freeCaps (nameNow φ st) sc.names=some caps) :
  ETr prog w K btab k φ (.Lambda ps body sc pos) st (.fn ps body sc caps) { st with fz:=frozenBy φ sc.names st.fz }:=by
 intro W A env s Q E hA hS hF hc' hq
 refine kla_eval (noDef_of hdef) ?_
 obtain ⟨W1,S1,l1,F1,a1⟩:=freeze_all (by rw [hcode]; exact fun z=>by cases z) sc.names W st hn hS hF
 have hcells:∀ x,(x,NameKind.free) ∈ sc.names->∃ av,st.vars.lookup x=some av /\ nameNow φ st x=some av:=by
  intro x hx
  have:=List.all_eq_true.mp hn _ hx
  have this:=lam_at this
  obtain ⟨av,hav⟩:=Option.isSome_iff_exists.mp this.2
  refine ⟨av,hav,?_⟩
  unfold nameNow
  rw [this.1]
  exact hav
 obtain ⟨cl,hcl1,hcl2⟩:=closure_pure env sc fun x hx=>by
  obtain ⟨av,hav,_⟩:=hcells x hx
  obtain ⟨c,o,v,e,_⟩:=a1 x hx av hav
  rw [e]; rfl
 have ht:=S1.obj j hj
 rw [hm] at ht
 obtain ⟨tps,oc,t1,⟨vs,file,tf,flags,tg,inF,text,tt,d1,d2,d3,d3',d4,d5,d6,d7⟩,t3,t4,t5,t6⟩:=ht
 have CH:CodeHd s.heap cA (W1.ι j):=⟨oc,vs,file,tf,flags,tg,inF,text,tt,S1.base _ _ t1,d1,d2,d3,d3',d4,d5,d6,d7,t3⟩
 obtain ⟨X,hlim,_,hBM⟩:=S1.facts
 obtain ⟨mg,hg,hgP,hbt⟩:=bm_ne hBM t4
 have hecode:env.code=.ref cA:=hF.code cA hcode
 have hjj:st.m j ≠ .junk:=by rw [hm]; exact fun z=>by cases z
 have fin:∀ (W2:Wd) (h2:Heap) (tk:Nat) (ctv cv:Value) (qn:Str) (pm:Value),SInv prog w K btab W2 st.m st.nx h2->Wd.le st.nx W1 W2->FInv W2 φ env { st with fz:=frozenBy φ sc.names st.fz } h2->CodeVal W2.B cv ->
   Q (.ref h2.objs.size) { s with heap:=h2.push { cls:=.type "function",data:=.func (kla_fn "<lambda>" qn ps body sc cl pm cv ctv) },toks:=tk }:=by
  intro W2 h2 tk ctv cv qn pm S2 l2 F2 hcv
  obtain ⟨S3,l3,c3⟩:=S2.alloc (o:={ cls:=.type "function",data:=.func (kla_fn "<lambda>" qn ps body sc cl pm cv ctv) }) rfl
  refine hq _ _ tk _ (Nat.le_refl _) (l1.trans (Nat.le_refl _) (l2.trans (Nat.le_refl _) l3)) S3 (F2.carry (Nat.le_refl _) l3 c3) ?_
  obtain ⟨c',oo,vs',q,tq,rfl,g1,g2,g3⟩:=hcv
  refine .fn (fd:=kla_fn "<lambda>" qn ps body sc cl pm (.ref c') ctv) (cv:=cvOf W1.B cl) (freeze_at _ _ _) rfl rfl rfl rfl rfl rfl rfl rfl rfl ⟨c',oo,vs',q,tq,rfl,l3.B _ _ g1,g2,g3⟩ (fun p hp=>?_) fun p hp=>?_
  ·obtain ⟨m1,m2⟩:=freeCaps_mem hcaps p hp
   obtain ⟨av,hav,hav2⟩:=hcells p.1 m1
   obtain ⟨c,o,v,e1,e2,e3,e4⟩:=a1 p.1 m1 av hav
   have e5:cl.lookup p.1=some c:=(hcl2 p.1 m1).trans e1
   exact ⟨c,o,e5,l3.B _ _ (l2.B _ _ e2),(cvOf_at e5 e2 e3).symm ▸ e3⟩
  ·obtain ⟨m1,m2⟩:=freeCaps_mem hcaps p hp
   obtain ⟨av,hav,hav2⟩:=hcells p.1 m1
   obtain ⟨c,o,v,e1,e2,e3,e4⟩:=a1 p.1 m1 av hav
   have e5:cl.lookup p.1=some c:=(hcl2 p.1 m1).trans e1
   have e6:av=p.2:=Option.some.inj (hav2.symm.trans m2)
   subst e6
   rw [cvOf_at e5 e2 e3]
   exact e4.mono (Nat.le_refl _) (l2.trans (Nat.le_refl _) l3)
 cases hh:codeAmong pos tps.toList with
 | some cv=>
  refine kla_makeFunctionHit hcl1 hF.globals hg hecode CH t4 t5 hh hbt fun ctv h' tk hk hsz=>?_
  exact fin W1 h' tk ctv cv _ _ (S1.keeps hk) (.refl _ _) (F1.carry (Nat.le_refl _) (.refl _ _) (Carry.keeps hk)) (t6 _ _ hh)
 | none=>
  refine kla_makeFunction hcl1 hF.globals hg hecode CH t4 t5 hh hgP hbt fun c' ctv h' tk hx hge hlt hrec htab=>?_
  obtain ⟨c₂,oo,vs',tq,ec,g1,g2,g3⟩:=hrec
  cases ec
  have hfresh:s.heap.get? c'=none:=by
   cases q:s.heap.get? c' with
   | none=>rfl
   | some o'=>exact absurd (Heap.lt_size q) (Nat.not_lt.mpr hge)
  have hown:OwnAt W1 st.m st.nx c':=S1.fresh hfresh
  have ne:∀ b o,s.heap.get? b=some o->b ≠ c':=fun b o e z=>by rw [z,hfresh] at e; cases e
  have S2:=S1.put (mo:=.any) hj hjj hx ⟨_,htab⟩
  have hown2:OwnAt W1 (upd st.m j .any) st.nx c':=⟨hown.b,hown.r,fun n hn hnj=>by
   by_cases q:n=j
   ·subst q; exact hown.i n hn hjj
   ·rw [upd_ne _ _ _ q] at hnj; exact hown.i n hn hnj⟩
  have S3:=S2.freeze hown2 g1
  have l2:Wd.le st.nx W1 (W1.freeze c' oo):=freeze_le hown.b
  have htab':h'.get? ((W1.freeze c' oo).ι j)=some { cls:=.none,data:=.fields (tps ++ #[rawInt pos.line,rawInt pos.col,.ref c']) }:=htab
  have tl:(tps ++ #[rawInt pos.line,rawInt pos.col,Value.ref c']).toList=tps.toList ++ [rawInt pos.line,rawInt pos.col,.ref c']:=by simp
  have S4:=S3.put (mo:=.tab cA) (h':=h') hj (by rw [upd_at]; exact fun z=>by cases z) (Heap.ExtBut.refl _ _) ⟨_,oc,l2.B _ _ t1,⟨vs,file,tf,flags,tg,inF,text,tt,d1,d2,d3,d3',d4,d5,d6,d7⟩,t3,htab',by rw [tl]; exact TriplesOk_snoc _ _ _ _ t5,fun p cv hcv=>by
   rw [tl] at hcv
   rcases codeAmong_or t5 hcv with e | e
   ·exact (t6 p cv e).mono l2.B
   ·subst e; exact ⟨c',oo,vs',_,tq,rfl,freeze_at _ _ _,g2,g3⟩⟩
  have em:upd (upd st.m j .any) j (.tab cA)=st.m:=by
   funext i
   by_cases q:i=j
   ·subst q; rw [upd_at,hm]
   ·rw [upd_ne _ _ _ q,upd_ne _ _ _ q]
  rw [em] at S4
  have F4:=F1.carry (m':=st.m) (h':=h') (Nat.le_refl _) l2 fun b o hb hbo=>⟨⟨(if_neg (ne b o hbo)).trans hb.b,hb.r,hb.i⟩,hx b o (fun z=>hb.i j hj hjj z.symm) hbo⟩
  exact fin _ h' tk ctv (.ref c') _ _ S4 l2 F4 ⟨c',oo,vs',_,tq,rfl,freeze_at _ _ _,g2,g3⟩
end
section
variable {prog:Program} {w:World} {K:Frag} {btab:List (Str × Value)} {k:Nat}
theorem callFunE {A:Around} {R:Result->Shared->Prop} {s:Shared} {a:Addr} {args:Args} {o oc:Obj} {fd:FuncData} {body:PySem.Expr} {c:Addr} {vs:Array Value} {q:Str} {tq:Tok} (hroom:A.depth < recursionLimit)
  (ho:s.heap.get? a=some o)
  (hd':o.data=.func fd) (hco:fd.scope.isCoroutine=false) (hgen:fd.scope.isGenerator=false) (hbody:fd.body=.expr body) (hc:fd.code=.ref c) (hoc:s.heap.get? c=some oc) (hdc:oc.data=.fields vs) (hq:vs[1]? = some (.str q tq))
  (h:wpAny (model prog w) A.in1 (bindArgs fd args) (fun binds s₁=>
   wpAny (model prog w) A.in1 (newFunctionEnv fd.scope fd.globals fd.closure binds (q ++ ".<locals>.") (some a) fd.code none fd.builtins)
    (fun env s₂=>s₂.heap.NoLimit /\ codeAny (model prog w) A (.expr body env) R s₂) (fun e s'=>R (.error e) s') s₁) (fun e s'=>R (.error e) s') s) :
  codeAny (model prog w) A (.call (.ref a) args) R s:=by
 refine codeAny_of_tree ?_
 show wpAny _ A.in1 (callAny (.ref a) args) _ _ s
 refine wpAny_bind (wpAny_load ho ?_)
 rw [hd']
 show wpAny _ A.in1 (callFunction a fd args) _ _ s
 unfold callFunction
 rw [hco,hgen,hbody,hc]
 rw [hc] at h
 refine wpAny_bind (m:=field (.ref c) 1) (wpAny_field hoc hdc hq (wpAny_bind (wpAny_pure ?_)))
 exact wpAny_bind (wpAny_mono h (fun binds s₁ h₁=>wpAny_bind (wpAny_mono h₁ (fun env s₂ h₂=>wpAny_bind (wpAny_enterFrame h₂.1 hroom
  (wpAny_pure (And.intro rfl h₂.2)))) fun _ _ h'=>h')) fun _ _ h'=>h')
noncomputable def LamBind (ps:Arguments) (x:Str):Prop:=∀ (fd:FuncData) (v:Value),fd.params=ps->fd.defaults=.none->fd.kwdefaults=.none->bindArgs fd ⟨[v],[]⟩ = pure [(x,v)]
noncomputable def lamSc (sc:Scope) (x:Str):Bool:=(match sc.kind with | .function=>true | _=>false) && !sc.isCoroutine && !sc.isGenerator && sc.names.lookup x == some .local && sc.names.all fun p=>match p.2 with | .cell=>false | _=>true
theorem fn_kind {a:ScopeKind}:(match a with | .function=>true | _=>false)=true->a=.function:=by cases a <;> first | exact fun _=>rfl | exact fun h=>ft h
theorem lamSc_at {sc:Scope} {x:Str} (hs:lamSc sc x=true):A5 (sc.kind=.function) (sc.isCoroutine=false) (sc.isGenerator=false) (sc.names.lookup x=some .local) ((sc.names.all fun p=>match p.2 with | .cell=>false | _=>true)=true):=by
 obtain ⟨hs,h5⟩:=and_t hs
 obtain ⟨hs,h4⟩:=and_t hs
 obtain ⟨hs,h3⟩:=and_t hs
 obtain ⟨h1,h2⟩:=and_t hs
 exact ⟨fn_kind h1,not_t h2,not_t h3,eq_of_beq h4,h5⟩
set_option tactic.hygienic true in
theorem code_lam {ps:Arguments} {e:PySem.Expr} {sc:Scope} {caps:List (Str × AV)} {x:Str} {av r:AV} {m:Nat->MO} {nx:Nat} {st':St} (hb:LamBind ps x) (hs:lamSc sc x=true)
  (body:ETr prog w K btab k ⟨sc,caps,none,Str.empty⟩ e ⟨[(x,av)],[],m,nx⟩ r st'):CodeTr prog w K btab (k+1) (.fn ps e sc caps) [av] [] m nx r st'.m st'.nx:=by
 intro W A s R vf vs kvs hA hS hvf hvs hkvs hq
 obtain ⟨hkind,h2,h3,h4,h5⟩:=lamSc_at hs
 cases hvs with
 | cons hv hr=>
  rename_i v _
  cases hr
  cases hkvs
  cases hvf with
  | fn ho hcl hd hp hbd hsc hd1 hd2 hg hbu hcode hcell hvc=>
   rename_i a o fd cv
   obtain ⟨X,hlim,_⟩:=hS.facts
   obtain ⟨c,oc,vsc,q,tq,c1,c2,c3,c4⟩:=hcode
   have hroom:A.depth < recursionLimit:=by have:=hA.depth; omega
   refine callFunE hroom (hS.base _ _ ho) hd (by rw [hsc]; exact h2) (by rw [hsc]; exact h3) hbd c1 (hS.base _ _ c2) c3 c4 ?_
   show wpAny (model prog w) A.in1 (bindArgs fd ⟨[v],[]⟩) _ _ s
   rw [hb fd v hp hd1 hd2]
   refine wpAny_pure (wpAny_newFunctionEnv (fun y hy hyc=>?_) (fun y hy=>?_) (fun h' hns hsb=>?_) (by rw [hsc]; exact hkind))
   ·rw [hsc] at hy
    have:=List.all_eq_true.mp h5 y hy
    rw [hyc] at this; cases this
   ·rw [hsc]
    cases hy with
    | head=>exact h4
    | tail _ hy=>cases hy
   ·have kp:Keeps s.heap h':=fun b ob e=>hsb.extBut b ob (Nat.ne_of_lt (Heap.lt_size e)) (Heap.get?_push_of_some _ e)
    refine ⟨hlim.keeps kp,kla_codeExpr ?_⟩
    have S':=hS.keeps kp
    refine body W (A.deeper _) _ _ _ _ hA.deeper S' ⟨hsc,hkind,hg,hbu,rfl,fun c hc=>(by cases hc),hS.fresh (get?_size _),⟨_,hns,fun y ay e1 e2=>?_⟩,fun y hy=>?_,fun y ay e1 e2=>?_⟩ trivial
     fun W' h2 tk' b n l S2 F2 hf=>hq W' h2 tk' b n l S2 hf
    ·have e2':[(x,av)].lookup y=some ay:=e2
     rw [List.lookup_cons] at e2'
     cases z:y == x with
     | false=>rw [z] at e2'; cases e2'
     | true=>
      rw [z] at e2'; cases e2'
      refine ⟨v,?_,hv⟩
      show List.lookup y [(x,v)].reverse=some v
      rw [List.reverse_singleton,List.lookup_cons,z]
    ·have:=mem_of_lookup (show sc.names.lookup y=some .cell from hy)
     have:=List.all_eq_true.mp h5 _ this
     cases this
    ·have hm:=mem_of_lookup e2
     obtain ⟨c',oc',g1,g2,g3⟩:=hcell _ hm
     exact ⟨c',oc',_,g1,.inl g2,g3,hvc _ hm⟩
end
section
variable {prog:Program} {w:World} {K:Frag} {btab:List (Str × Value)} {k:Nat} {m:Nat->MO} {nx:Nat}
theorem act_same {β:Type} {t:Wd->Sem β->Prop} {P:Wd->β->Prop} (h:∀ (W:Wd) (A:Around) (s:Shared) (tr:Sem β) (Q:β->Shared->Prop) (E:Value->Shared->Prop),AOK k A->SInv prog w K btab W m nx s.heap->t W tr ->
  (∀ h' tk' b,Keeps s.heap h'->P W b->Q b { s with heap:=h',toks:=tk' })->wpAny (model prog w) A tr Q E s):Act prog w K btab k (fun _=>True) t m nx m nx P:=by
 intro W A s tr Q E hA hS _ ht hq
 exact h W A s tr Q E hA hS ht fun h' tk' b hk hp=>hq W h' tk' b (Nat.le_refl _) (.refl _ _) (hS.keeps hk) hp
theorem new_lst {W:Wd} {h:Heap} {ds:List D} {vs:List Value} (S:SInv prog w K btab W m nx h) (hv:VDs W.B ds vs):(∃ W',A3 (SInv prog w K btab W' m nx (h.push (lstObj vs 0))) (Wd.le nx W W') (VA W' nx (.d (.lst ds)) (.ref h.objs.size))):=by
 obtain ⟨S',l',c'⟩:=S.alloc (o:=lstObj vs 0) rfl
 exact ⟨_,S',l',.d (.lst (freeze_at _ _ _) (hv.mono l'.B))⟩
theorem new_rng {W:Wd} {h:Heap} {a b c:Int} {t u v:Tok} (S:SInv prog w K btab W m nx h):(∃ W',A3 (SInv prog w K btab W' m nx (h.push { cls:=.type "range",data:=.fields #[.int a t,.int b u,.int c v] })) (Wd.le nx W W') (VA W' nx (.d (.rng a b c)) (.ref h.objs.size))):=by
 obtain ⟨S',l',c'⟩:=S.alloc (o:={ cls:=.type "range",data:=.fields #[.int a t,.int b u,.int c v] }) rfl
 exact ⟨_,S',l',.d (.rng (freeze_at _ _ _))⟩
theorem vas1 {W:Wd} {a:AV} {vs:List Value} (h:VAs W nx [a] vs):∃ v,vs = [v] /\ VA W nx a v:=by
 cases h with | cons h r=>cases r; exact ⟨_,rfl,h⟩
theorem vas2 {W:Wd} {a b:AV} {vs:List Value} (h:VAs W nx [a,b] vs):(Ex2 fun u v=>A3 (vs = [u,v]) (VA W nx a u) (VA W nx b v)):=by
 cases h with | cons h r=>obtain ⟨v,rfl,hv⟩:=vas1 r; exact ⟨_,v,rfl,h,hv⟩
theorem vas3 {W:Wd} {a b c:AV} {vs:List Value} (h:VAs W nx [a,b,c] vs):(Ex3 fun u v x=>A4 (vs = [u,v,x]) (VA W nx a u) (VA W nx b v) (VA W nx c x)):=by
 cases h with | cons h r=>obtain ⟨v,x,rfl,hv,hw⟩:=vas2 r; exact ⟨_,v,x,rfl,h,hv,hw⟩
theorem vas0 {W:Wd} {vs:List Value} (h:VAs W nx [] vs):vs = []:=by cases h; rfl
theorem call1 {f:Value} {a r:AV} {m':Nat->MO} {nx':Nat} (h:Act prog w K btab k (fun _=>True) (fun W tr=>∃ v,VA W nx a v /\ tr=call f [v]) m nx m' nx' (fun W' v=>VA W' nx' r v)):CallTr prog w K btab k (.k f) [a] [] m nx r m' nx':=by
 intro W A s tr Q E hA hS _ ⟨vf,vs,kvs,hvf,hvs,hkvs,htr⟩ hq
 cases hvf
 obtain ⟨v,rfl,hv⟩:=vas1 hvs
 have e:=vas0 hkvs
 subst e
 exact h W A s tr Q E hA hS trivial ⟨v,hv,htr⟩ hq
theorem call2 {f:Value} {a b r:AV} {m':Nat->MO} {nx':Nat} (h:Act prog w K btab k (fun _=>True) (fun W tr=>(Ex2 fun u v=>A3 (VA W nx a u) (VA W nx b v) (tr=call f [u,v]))) m nx m' nx' (fun W' v=>VA W' nx' r v)):CallTr prog w K btab k (.k f) [a,b] [] m nx r m' nx':=by
 intro W A s tr Q E hA hS _ ⟨vf,vs,kvs,hvf,hvs,hkvs,htr⟩ hq
 cases hvf
 obtain ⟨u,v,rfl,hu,hv⟩:=vas2 hvs
 have e:=vas0 hkvs
 subst e
 exact h W A s tr Q E hA hS trivial ⟨u,v,hu,hv,htr⟩ hq
theorem call3 {f:Value} {a b c r:AV} {m':Nat->MO} {nx':Nat} (h:Act prog w K btab k (fun _=>True) (fun W tr=>(Ex3 fun u v x=>A4 (VA W nx a u) (VA W nx b v) (VA W nx c x) (tr=call f [u,v,x]))) m nx m' nx' (fun W' v=>VA W' nx' r v)):CallTr prog w K btab k (.k f) [a,b,c] [] m nx r m' nx':=by
 intro W A s tr Q E hA hS _ ⟨vf,vs,kvs,hvf,hvs,hkvs,htr⟩ hq
 cases hvf
 obtain ⟨u,v,x,rfl,hu,hv,hx⟩:=vas3 hvs
 have e:=vas0 hkvs
 subst e
 exact h W A s tr Q E hA hS trivial ⟨u,v,x,hu,hv,hx,htr⟩ hq
theorem vds_strs {B:BM} (l:List (Str × Tok)):VDs B (l.map fun p=>.str p.1) (strValues l):=by
 induction l with
 | nil=>exact .nil
 | cons p r ih=>exact .cons (.str _ _) ih
theorem VDs.split {B:BM}:∀ {xs ys:List D} {vs:List Value},VDs B (xs ++ ys) vs->(Ex2 fun us ws=>A3 (vs=us ++ ws) (VDs B xs us) (VDs B ys ws))
 | [],_,vs,h=>⟨[],vs,rfl,.nil,h⟩
 | x :: xs,ys,_,h=>by
  cases h with
  | cons h r=>
   obtain ⟨us,ws,rfl,a,b⟩:=VDs.split r
   exact ⟨_ :: us,ws,rfl,.cons h a,b⟩
theorem meth_str {x name:Str} {id:String} (h:∀ (A:Around) (s:Shared) (t:Tok) (pl:Sem Bool) (Q:Value × List Value->Shared->Prop) (E:Value->Shared->Prop),Q (.builtin id,[.str x t]) s->wpAny (model prog w) A (getMethod (.str x t) name pl) Q E s) :
  MethTr prog w K btab k (.d (.str x)) name m nx (.k (.builtin id)) [.d (.str x)] nx m:=by
 refine act_same fun W A s tr Q E hA hS ⟨vo,pl,hv,htr⟩ hq=>?_
 subst htr
 obtain ⟨t,rfl⟩:=va_str hv
 exact h A s t pl Q E (hq s.heap s.toks _ (Keeps.refl _) ⟨.k _,.cons (.d (.str _ _)) .nil⟩)
theorem m_lower {x:Str}:MethTr prog w K btab k (.d (.str x)) "lower" m nx (.k (.builtin "str.lower")) [.d (.str x)] nx m:=meth_str fun _ _ _ _ _ _ h=>GM.lower h
theorem m_upper {x:Str}:MethTr prog w K btab k (.d (.str x)) "upper" m nx (.k (.builtin "str.upper")) [.d (.str x)] nx m:=meth_str fun _ _ _ _ _ _ h=>GM.upper h
theorem m_split {x:Str}:MethTr prog w K btab k (.d (.str x)) "split" m nx (.k (.builtin "str.split")) [.d (.str x)] nx m:=meth_str fun _ _ _ _ _ _ h=>GM.split h
theorem m_join {x:Str}:MethTr prog w K btab k (.d (.str x)) "join" m nx (.k (.builtin "str.join")) [.d (.str x)] nx m:=meth_str fun _ _ _ _ _ _ h=>GM.join h
theorem c_lower {x:Str} (hl:x.length<=5592405):CallTr prog w K btab k (.k (.builtin "str.lower")) [.d (.str x)] [] m nx (.d (.str (Txt.lower x))) m nx:=by
 refine call1 (act_same fun W A s tr Q E hA hS ⟨v,hv,htr⟩ hq=>?_)
 subst htr
 obtain ⟨t,rfl⟩:=va_str hv
 exact PyProof.Rows.SCL.lower hl fun _=>hq s.heap _ _ (Keeps.refl _) (.d (.str _ _))
theorem c_upper {x:Str} (hl:x.length<=5592405):CallTr prog w K btab k (.k (.builtin "str.upper")) [.d (.str x)] [] m nx (.d (.str (Txt.upper x))) m nx:=by
 refine call1 (act_same fun W A s tr Q E hA hS ⟨v,hv,htr⟩ hq=>?_)
 subst htr
 obtain ⟨t,rfl⟩:=va_str hv
 exact PyProof.Rows.SCL.upper hl fun _=>hq s.heap _ _ (Keeps.refl _) (.d (.str _ _))
theorem act_new {t:Wd->Sem Value->Prop} {r:AV} {m':Nat->MO} {nx':Nat} (h:∀ (W:Wd) (A:Around) (s:Shared) (tr:Sem Value) (Q:Value->Shared->Prop) (E:Value->Shared->Prop),AOK k A->SInv prog w K btab W m nx s.heap->t W tr ->
  (∀ W' h' tk' b,SInv prog w K btab W' m' nx' h'->Wd.le nx W W'->nx<=nx'->VA W' nx' r b->Q b { s with heap:=h',toks:=tk' })->wpAny (model prog w) A tr Q E s):Act prog w K btab k (fun _=>True) t m nx m' nx' (fun W' v=>VA W' nx' r v):=by
 intro W A s tr Q E hA hS _ ht hq
 exact h W A s tr Q E hA hS ht fun W' h' tk' b hS' hl hn hp=>hq W' h' tk' b hn hl hS' hp
noncomputable def strDs (l:List Str):List D:=l.map .str
theorem vds_strs' {B:BM} {l:List (Str × Tok)} {xs:List Str} (e:l.map (·.1)=xs):VDs B (strDs xs) (strValues l):=by
 subst e
 unfold strDs
 rw [List.map_map]
 exact vds_strs l
theorem strs_of {B:BM}:∀ {xs:List Str} {vs:List Value},VDs B (strDs xs) vs->∃ l:List (Str × Tok),vs=strValues l /\ l.map (·.1)=xs
 | [],_,h=>by cases h; exact ⟨[],rfl,rfl⟩
 | x :: xs,_,h=>by
  cases h with
  | cons h r=>
   obtain ⟨l,rfl,hl⟩:=strs_of r
   cases h with | str _ t=>exact ⟨(x,t) :: l,rfl,by rw [List.map_cons,hl]⟩
theorem split_at {A:Around} {E:Value->Shared->Prop} {s:Shared} {x y:Str} {t u:Tok} {Q:Value->Shared->Prop} (hy:(y.length == 0)=false)
  (hq:∀ l tk,l.map (·.1)=Txt.split x y->Q (.ref s.heap.objs.size) { s with heap:=s.heap.push (lstObj (strValues l) 0),toks:=tk })
  (hsz:x.length<=sizeLine) (hsz2:(Builtin.Str.partsBetween x (Builtin.Str.occurrences x y 0 x.length (x.length+1)) y.length).length<=sizeLine) :
  wpAny (model prog w) A (call (.builtin "str.split") [.str x t,.str y u]) Q E s:=by
 cases h1:(decide (x.length < y.length) || decide (Builtin.Str.strKind x < Builtin.Str.strKind y))
 ·cases hf:(Builtin.Str.occurrences x y 0 x.length (x.length+1)).isEmpty
  ·refine call_meets F.slot_str_split (typeIs_str _ _ _) F.entry_str_split (F.args_str_split_2 _ _) (meets_str_split_sep x y t u h1 hy hf hsz hsz2) ?_
   show wants Q E _ _
   rw [strsFrom_eq]
   exact hq (numbered s.toks _) _ ((numbered_texts _ _).trans ((if_neg (ne_true_of_eq_false h1)).trans (if_neg (ne_true_of_eq_false hf))).symm)
  ·exact call_meets F.slot_str_split (typeIs_str _ _ _) F.entry_str_split (F.args_str_split_2 _ _) (meets_str_split_not_found x y t u h1 hy hf)
    (hq [(x,t)] _ ((if_neg (ne_true_of_eq_false h1)).trans (if_pos hf)).symm)
 ·exact call_meets F.slot_str_split (typeIs_str _ _ _) F.entry_str_split (F.args_str_split_2 _ _) (meets_str_split_cannot_occur x y t u h1)
   (hq [(x,t)] _ (if_pos h1).symm)
theorem c_split {x y:Str} (hy:(y.length == 0)=false) (hsz:x.length<=sizeLine) (hsz2:(Builtin.Str.partsBetween x (Builtin.Str.occurrences x y 0 x.length (x.length+1)) y.length).length<=sizeLine) :
  CallTr prog w K btab k (.k (.builtin "str.split")) [.d (.str x),.d (.str y)] [] m nx (.d (.lst (strDs (Txt.split x y)))) m nx:=by
 refine call2 (act_new fun W A s tr Q E hA hS ⟨u,v,hu,hv,htr⟩ hq=>?_)
 subst htr
 obtain ⟨t,rfl⟩:=va_str hu
 obtain ⟨t',rfl⟩:=va_str hv
 refine split_at hy (fun l tk hl=>?_) hsz hsz2
 obtain ⟨W',S',l',v'⟩:=new_lst hS (vds_strs' hl)
 exact hq W' _ tk _ S' l' (Nat.le_refl _) v'
noncomputable def isLst:AV->Prop
 | .d (.lst _)=>True
 | .loc _=>True
 | _=>False
theorem seq_at {h:Heap} {W:Wd} (S:SInv prog w K btab W m nx h) {a:AV} {ds:List D} {v:Value} (hv:VA W nx a v) (hs:DSrc m nx a ds) (hl:isLst a) :
  (Ex3 fun (l:Addr) (vs:List Value) (n:Nat)=>A3 (v=.ref l) (h.get? l=some (lstObj vs n)) (VDs W.B ds vs)):=by
 induction hv using VA.casesOn with
 | loc hn=>
  obtain ⟨vs,kk,ho,hvs⟩:=loc_ex S hn hs.2
  exact ⟨_,vs,kk,rfl,ho,hvs⟩
 | k v=>exact hl.elim
 | bm=>exact hl.elim
 | fn=>exact hl.elim
 | d hv=>
  induction hv using VD.casesOn with
  | lst ho hvs=>cases hs; exact ⟨_,_,_,rfl,S.base _ _ ho,hvs⟩
  | _=>exact hl.elim
theorem lstObj.isList {h:Heap} {l:Addr} {vs:List Value} {n:Nat} (ho:h.get? l=some (lstObj vs n)):h.IsList l vs.toArray:=⟨_,ho,rfl,_,rfl⟩
theorem c_join {x:Str} {a:AV} {xs:List Str} (hs:DSrc m nx a (strDs xs)) (hl:isLst a) (hok:(xs.map (·.length)).sum+xs.length * x.length<=16777216):CallTr prog w K btab k (.k (.builtin "str.join")) [.d (.str x),a] [] m nx (.d (.str (Txt.join x xs))) m nx:=by
 refine call2 (act_same fun W A s tr Q E hA hS ⟨u,v,hu,hv,htr⟩ hq=>?_)
 subst htr
 obtain ⟨t,rfl⟩:=va_str hu
 obtain ⟨l,vs,n,rfl,ho,hvs⟩:=seq_at hS hv hs hl
 obtain ⟨ll,rfl,hll⟩:=strs_of hvs
 refine SC.join (lstObj.isList ho) hll (PyProof.Rows.joinOk_of hok) fun t' k=>hq s.heap _ _ (Keeps.refl _) (.d (.str _ _))
theorem meth_lst {a:AV} {ds:List D} {name:Str} {id:String} (hs:DSrc m nx a ds) (hl:isLst a) (slot:Slot "list" name id) (hty:typeOf (.builtin id)=pure (.type "method_descriptor")) :
  MethTr prog w K btab k a name m nx (.k (.builtin id)) [a] nx m:=by
 refine act_same fun W A s tr Q E hA hS ⟨vo,pl,hv,htr⟩ hq=>?_
 subst htr
 obtain ⟨l,vs,n,rfl,ho,hvs⟩:=seq_at hS hv hs hl
 refine getMethod_builtin ⟨_,ho,rfl⟩ PySem.F.plainAttrs_list slot hty (fun a e=>by cases e; exact ⟨_,ho,rfl⟩) ?_
 exact hq s.heap s.toks _ (Keeps.refl _) ⟨.k _,.cons hv .nil⟩
theorem m_append {a:AV} {ds:List D} (hs:DSrc m nx a ds) (hl:isLst a):MethTr prog w K btab k a "append" m nx (.k (.builtin "list.append")) [a] nx m:=meth_lst hs hl PySem.F.slot_list_append PySem.F.type_list_append
theorem m_pop {a:AV} {ds:List D} (hs:DSrc m nx a ds) (hl:isLst a):MethTr prog w K btab k a "pop" m nx (.k (.builtin "list.pop")) [a] nx m:=meth_lst hs hl PySem.F.slot_list_pop PySem.F.type_list_pop
theorem m_insert {a:AV} {ds:List D} (hs:DSrc m nx a ds) (hl:isLst a):MethTr prog w K btab k a "insert" m nx (.k (.builtin "list.insert")) [a] nx m:=meth_lst hs hl PySem.F.slot_list_insert PySem.F.type_list_insert
theorem m_index {a:AV} {ds:List D} (hs:DSrc m nx a ds) (hl:isLst a):MethTr prog w K btab k a "index" m nx (.k (.builtin "list.index")) [a] nx m:=meth_lst hs hl PySem.F.slot_list_index PySem.F.type_list_index
theorem fitsIdx {n:Nat} (h:n < 9000000000):Builtin.List.listFitsIndex (n:Int)=true:=by
 unfold Builtin.List.listFitsIndex
 have e:(2 ^ 63:Int)=9223372036854775808:=by decide
 rw [e,Bool.and_eq_true,decide_eq_true_eq,decide_eq_true_eq] at ⊢
 omega
theorem act_put {t:Wd->Sem Value->Prop} {r:AV} {n:Nat} {ds ds':List D} (hn:n < nx) (hm:m n=.list ds) (h:∀ (W:Wd) (A:Around) (s:Shared) (tr:Sem Value) (Q:Value->Shared->Prop) (E:Value->Shared->Prop) (vs:List Value) (e:Nat),AOK k A->SInv prog w K btab W m nx s.heap->t W tr ->
  s.heap.get? (W.ι n)=some (lstObj vs e)->VDs W.B ds vs->(∀ h' tk' b vs' e',h'.get? (W.ι n)=some (lstObj vs' e')->VDs W.B ds' vs'->Heap.ExtBut (W.ι n) s.heap h'->VA W nx r b->Q b { s with heap:=h',toks:=tk' })->wpAny (model prog w) A tr Q E s) :
  Act prog w K btab k (fun _=>True) t m nx (upd m n (.list ds')) nx (fun W' v=>VA W' nx r v):=by
 intro W A s tr Q E hA hS _ ht hq
 obtain ⟨vs,e,ho,hv⟩:=loc_ex hS hn hm
 refine h W A s tr Q E vs e hA hS ht ho hv fun h' tk' b vs' e' ho' hv' hs hp=>?_
 exact hq W h' tk' b (Nat.le_refl _) (.refl _ _) (hS.put (mo:=.list ds') hn (by rw [hm]; exact fun z=>by cases z) hs ⟨vs',e',ho',hv'⟩) hp
theorem c_append {n:Nat} {ds:List D} {x:D} (hn:n < nx) (hm:m n=.list ds) (hsz:ds.length<=100000):CallTr prog w K btab k (.k (.builtin "list.append")) [.loc n,.d x] [] m nx (.d .none) (upd m n (.list (ds ++ [x]))) nx:=by
 refine call2 (act_put hn hm fun W A s tr Q E vs e hA hS ⟨u,v,hu,hv,htr⟩ ho hvs hq=>?_)
 subst htr
 cases hu
 cases hv with
 | d hv=>
  refine list_append_at ho (by have:=hvs.length; rw [sizeLine_eq]; omega) fun h' n' h1 h2=>?_
  exact hq h' s.toks .none _ n' h1 (hvs.append (.cons hv .nil)) h2 (.d .none)
set_option tactic.hygienic true in
theorem c_pop {n:Nat} {ds:List D} {x:D} (hn:n < nx) (hm:m n=.list (ds ++ [x])) (hsz:ds.length < 100000):CallTr prog w K btab k (.k (.builtin "list.pop")) [.loc n] [] m nx (.d x) (upd m n (.list ds)) nx:=by
 refine call1 (act_put hn hm fun W A s tr Q E vs e hA hS ⟨u,hu,htr⟩ ho hvs hq=>?_)
 subst htr
 cases hu
 obtain ⟨us,ws,rfl,hus,hws⟩:=hvs.split
 cases hws with
 | cons hv hr=>
  rename_i v _
  cases hr
  have hlen:=hus.length
  have hk:(us ++ [v]).toArray.size - 1=us.length:=by rw [List.size_toArray,List.length_append]; rfl
  have hy:(us ++ [v]).toArray[(us ++ [v]).toArray.size - 1]? = some v:=by rw [hk]; simp
  refine call_meets PySem.F.slot_list_pop ⟨_,ho,rfl⟩ PySem.F.entry_list_pop (PySem.F.args_list_pop_1 _) (PySem.MeetsSeq.list_pop_last _ _ e v hy (by rw [List.size_toArray,List.length_append,sizeLine_eq,hlen]; simp; omega)) ⟨ho,?_⟩
  obtain ⟨n',h1,h2⟩:=lst_update ho (fun a=>a.eraseIdxIfInBounds ((us ++ [v]).toArray.size - 1))
  refine hq _ _ v us n' ?_ hus h2 (.d hv)
  have e1:((us ++ [v]).toArray.eraseIdxIfInBounds ((us ++ [v]).toArray.size - 1)).toList=us:=by
   rw [hk,kl_erase,List.append_nil]
  rw [e1] at h1
  exact h1
theorem si_at {i n:Nat} (h:i < n):seqIndex? (i:Int) n=some i:=seqIndex_of (Int.natCast_nonneg i) (Int.ofNat_lt.mpr h)
theorem ins_at {i n:Nat}:(if (i:Int) < 0 then ((i:Int)+((i+n:Nat):Int)).toNat else min (i:Int).toNat (i+n))=i:=by
 rw [if_neg in3]
 exact Nat.min_eq_left (Nat.le_add_right i n)
theorem c_popAt {n:Nat} {ds es:List D} {x:D} (hn:n < nx) (hm:m n=.list (ds ++ x :: es)) (hsz:ds.length+es.length < 100000):CallTr prog w K btab k (.k (.builtin "list.pop")) [.loc n,.d (.int ds.length)] [] m nx (.d x) (upd m n (.list (ds ++ es))) nx:=by
 refine call2 (act_put hn hm fun W A s tr Q E vs e hA hS ⟨u,v,hu,hv,htr⟩ ho hvs hq=>?_)
 subst htr
 cases hu
 obtain ⟨t,rfl⟩:=va_int hv
 obtain ⟨us,ws,rfl,hus,hws⟩:=hvs.split
 cases hws with
 | @cons _ y _ ws hvx hr=>
  have hlen:=hus.length
  have hlen2:=hr.length
  have hf:Builtin.List.listFitsIndex ((ds.length:Nat):Int)=true:=fitsIdx (by omega)
  have hz:(us ++ y :: ws).toArray.size<=sizeLine:=by rw [List.size_toArray,List.length_append,List.length_cons,sizeLine_eq,hlen,hlen2]; omega
  have hy:(us ++ y :: ws).toArray[us.length]? = some y:=by simp
  have hk:seqIndex? (ds.length:Int) (us ++ y :: ws).toArray.size=some us.length:=by
   rw [List.size_toArray,List.length_append,List.length_cons,hlen]
   exact si_at (Nat.lt_add_of_pos_right (Nat.succ_pos _))
  generalize hi:(ds.length:Int)=i at *
  have M:=PySem.MeetsSeq.list_pop_at (W.ι n) (us ++ y :: ws).toArray e i t us.length y hf hk hy hz
  refine call_meets PySem.F.slot_list_pop ⟨_,ho,rfl⟩ PySem.F.entry_list_pop (PySem.F.args_list_pop_2 _ _) M ⟨ho,?_⟩
  obtain ⟨n',h1,h2⟩:=lst_update ho (fun a=>a.eraseIdxIfInBounds us.length)
  refine hq _ _ y (us ++ ws) n' ?_ (hus.append hr) h2 (.d hvx)
  rw [kl_erase] at h1
  exact h1
theorem c_insert {n:Nat} {ds es:List D} {x:D} (hn:n < nx) (hm:m n=.list (ds ++ es)) (hsz:ds.length+es.length < 100000):CallTr prog w K btab k (.k (.builtin "list.insert")) [.loc n,.d (.int ds.length),.d x] [] m nx (.d .none) (upd m n (.list (ds ++ x :: es))) nx:=by
 refine call3 (act_put hn hm fun W A s tr Q E vs e hA hS ⟨u,v,y,hu,hv,hy,htr⟩ ho hvs hq=>?_)
 subst htr
 cases hu
 obtain ⟨t,rfl⟩:=va_int hv
 obtain ⟨us,ws,rfl,hus,hws⟩:=hvs.split
 cases hy with
 | d hy=>
  have hlen:=hus.length
  have hlen2:=hws.length
  have hf:Builtin.List.listFitsIndex ((ds.length:Nat):Int)=true:=fitsIdx (by omega)
  have hz:(us ++ ws).toArray.size<=sizeLine:=by rw [List.size_toArray,List.length_append,sizeLine_eq,hlen,hlen2]; omega
  generalize hi:(ds.length:Int)=i at *
  have hq':∀ h' n',h'.get? (W.ι n)=some (lstObj (us ++ y :: ws) n')->Heap.ExtBut (W.ι n) s.heap h'->Q .none { s with heap:=h' }:=fun h' n' h1 h2=>hq h' s.toks .none (us ++ y :: ws) n' h1 (hus.append (.cons hy hws)) h2 (.d .none)
  have M:=PySem.AutoSeq1.list_insert_list_int_val_1 (W.ι n) (us ++ ws).toArray e i t y (by rw [hf]; decide) hz
  have ik:i=((us.length:Nat):Int):=by rw [hlen]; exact hi.symm
  clear hi hq hf
  have fin:∀ Q':Value->Shared->Prop,(∀ h' n',h'.get? (W.ι n)=some (lstObj (us ++ y :: ws) n')->Heap.ExtBut (W.ι n) s.heap h'->Q' .none { s with heap:=h' })->wpAny (model prog w) A (call (.builtin "list.insert") [.ref (W.ι n),.int i t,y]) Q' E s:=by
   intro Q' q
   refine call_meets PySem.F.slot_list_insert ⟨_,ho,rfl⟩ PySem.F.entry_list_insert (PySem.F.args_list_insert_3 _ _ _) M ⟨ho,?_⟩
   obtain ⟨n',h1,h2⟩:=lst_update ho (fun xs:Array Value=>have k:=if i < 0 then (i+(xs.size:Int)).toNat else min i.toNat xs.size; (xs.extract 0 k).push y ++ xs.extract k)
   refine q _ n' ?_ h2
   have e0:(if i < 0 then (i+((us ++ ws).toArray.size:Int)).toNat else min i.toNat (us ++ ws).toArray.size)=us.length:=by
    rw [ik,List.size_toArray,List.length_append]
    exact ins_at
   have e1:(us ++ ws).take us.length ++ y :: (us ++ ws).drop us.length=us ++ y :: ws:=by simp
   dsimp only at h1
   rw [e0,kl_ins_eq,e1] at h1
   exact h1
  exact fin _ fun h' n' h1 h2=>hq' h' n' h1 h2
theorem c_len {a:AV} {ds:List D} (hs:DSrc m nx a ds) (hl:isLst a) (hsz:ds.length < 9000000000):CallTr prog w K btab k (.k (.builtin "len")) [a] [] m nx (.d (.int ds.length)) m nx:=by
 refine call1 (act_same fun W A s tr Q E hA hS ⟨v,hv,htr⟩ hq=>?_)
 subst htr
 obtain ⟨l,vs,n,rfl,ho,hvs⟩:=seq_at hS hv hs hl
 have hlen:=hvs.length
 refine Calls.call_len_list (lstObj.isList ho) (by rw [List.size_toArray,hlen]; omega) ?_
 rw [List.size_toArray,hlen]
 exact hq s.heap _ _ (Keeps.refl _) (.d (.int _ _))
theorem c_lenS {x:Str} (hsz:x.length < 9000000000):CallTr prog w K btab k (.k (.builtin "len")) [.d (.str x)] [] m nx (.d (.int x.length)) m nx:=by
 refine call1 (act_same fun W A s tr Q E hA hS ⟨v,hv,htr⟩ hq=>?_)
 subst htr
 obtain ⟨t,rfl⟩:=va_str hv
 exact P.len_str (by omega) (hq s.heap _ _ (Keeps.refl _) (.d (.int _ _)))
theorem c_range1 {b:Int}:CallTr prog w K btab k (.k (.type "range")) [.d (.int b)] [] m nx (.d (.rng 0 b 1)) m nx:=by
 refine call1 (act_new fun W A s tr Q E hA hS ⟨v,hv,htr⟩ hq=>?_)
 subst htr
 obtain ⟨t,rfl⟩:=va_int hv
 refine call_range_1 ?_
 obtain ⟨W',S',l',v'⟩:=new_rng (a:=0) (b:=b) (c:=1) (t:=s.toks) (u:=t) (v:=s.toks+1) hS
 exact hq W' _ _ _ S' l' (Nat.le_refl _) v'
theorem c_range2 {a b:Int}:CallTr prog w K btab k (.k (.type "range")) [.d (.int a),.d (.int b)] [] m nx (.d (.rng a b 1)) m nx:=by
 refine call2 (act_new fun W A s tr Q E hA hS ⟨u,v,hu,hv,htr⟩ hq=>?_)
 subst htr
 obtain ⟨t,rfl⟩:=va_int hu
 obtain ⟨t',rfl⟩:=va_int hv
 refine call_range_2 ?_
 obtain ⟨W',S',l',v'⟩:=new_rng (a:=a) (b:=b) (c:=1) (t:=t) (u:=t') (v:=s.toks) hS
 exact hq W' _ _ _ S' l' (Nat.le_refl _) v'
theorem c_range3 {a b c:Int} (hc:c ≠ 0) (hp:Builtin.divisionGoesByPylong (b - a) c=false):CallTr prog w K btab k (.k (.type "range")) [.d (.int a),.d (.int b),.d (.int c)] [] m nx (.d (.rng a b c)) m nx:=by
 refine call3 (act_new fun W A s tr Q E hA hS ⟨u,v,x,hu,hv,hx,htr⟩ hq=>?_)
 subst htr
 obtain ⟨t,rfl⟩:=va_int hu
 obtain ⟨t',rfl⟩:=va_int hv
 obtain ⟨t'',rfl⟩:=va_int hx
 refine call_range_3 hc ?_ (.inl hp)
 obtain ⟨W',S',l',v'⟩:=new_rng (a:=a) (b:=b) (c:=c) (t:=t) (u:=t') (v:=t'') hS
 exact hq W' _ _ _ S' l' (Nat.le_refl _) v'
theorem c_str {a:Int} (ha:a.natAbs.log2 < 1920):CallTr prog w K btab k (.k (.type "str")) [.d (.int a)] [] m nx (.d (.str (toString a))) m nx:=by
 refine call1 (act_same fun W A s tr Q E hA hS ⟨v,hv,htr⟩ hq=>?_)
 subst htr
 obtain ⟨t,rfl⟩:=va_int hv
 exact P.str_of_int ha (hq s.heap _ _ (Keeps.refl _) (.d (.str _ _)))
theorem c_int {x:Str} {n:Int} (hn:PySem.intText? x=some n) (hl:x.length<=640):CallTr prog w K btab k (.k (.type "int")) [.d (.str x)] [] m nx (.d (.int n)) m nx:=by
 refine call1 (act_same fun W A s tr Q E hA hS ⟨v,hv,htr⟩ hq=>?_)
 subst htr
 obtain ⟨t,rfl⟩:=va_str hv
 exact PySem.W.KIN.call_text hn hl (hq s.heap _ _ (Keeps.refl _) (.d (.int _ _)))
theorem subT {A:Around} {E:Value->Shared->Prop} {s:Shared} {value slice:PySem.Expr} {o i:Value} {T id:String} {ops:List Value} {Q:Value->Shared->Prop} (hT:s.TypeIs o T)
  (hl:typeLookup (.type T) "__getitem__" = pure (some (.builtin id))) (h:wpAny (model prog w) A (getItem o i) Q E s)
  (hs:subscripted slice false o i=operate ops (getItem o i)):wpAny (model prog w) A (subscriptTail value slice o i) Q E s:=by
 unfold subscriptTail
 refine wpAny_bind ?_
 rw [getitemInPython_of_ne hT.not_modules]
 refine wpAny_bind (wpAny_specialOf hT hl ?_)
 have fin:wpAny (model prog w) A (subscripted slice false o i) (fun r s₃=>wpAny (model prog w) A (letTemporaryGo value o r >>= fun _=>pure r) Q E s₃) E s:=by
  rw [hs]
  exact wpAny_operating (wpAny_mono h (fun r s₃ h₃=>wpAny_bind (wpAny_letTemporaryGo (wpAny_pure h₃))) fun _ _ x=>x)
 first
  | exact wpAny_pure (wpAny_bind fin)
  | exact wpAny_bind (wpAny_pure (wpAny_bind fin))
  | exact wpAny_bind fin
theorem i_lst {a:AV} {ds:List D} {i:Nat} {x:D} (hs:DSrc m nx a ds) (hl:isLst a) (hx:ds[i]? = some x) (hi:i < 9000000000):ItemTr prog w K btab k a (.d (.int i)) m nx (.d x) m nx:=by
 refine act_same fun W A s tr Q E hA hS ⟨vo,vi,value,slice,hsub,hvo,hvi,htr⟩ hq=>?_
 subst htr
 obtain ⟨l,vs,n,rfl,ho,hvs⟩:=seq_at hS hvo hs hl
 obtain ⟨t,rfl⟩:=va_int hvi
 obtain ⟨v,e1,e2⟩:=hvs.get hx
 refine subT ⟨_,ho,rfl⟩ list_getitem_lookup (wpAny_getItem_list (lstObj.isList ho) (by omega) (by omega) (x:=v) (by simpa using e1) (hq s.heap s.toks v (Keeps.refl _) (.d e2))) (hsub _ _)
theorem i_tup {ds:List D} {i:Nat} {x:D} (hx:ds[i]? = some x) (hi:i < 9000000000):ItemTr prog w K btab k (.d (.tup ds)) (.d (.int i)) m nx (.d x) m nx:=by
 refine act_same fun W A s tr Q E hA hS ⟨vo,vi,value,slice,hsub,hvo,hvi,htr⟩ hq=>?_
 subst htr
 obtain ⟨t,rfl⟩:=va_int hvi
 cases hvo with
 | d hvo=>
  cases hvo with
  | @tup a vs n _ ho hvs=>
   obtain ⟨v,e1,e2⟩:=hvs.get hx
   have ht:IsTup s.heap a vs.toArray:=⟨_,hS.base _ _ ho,rfl,_,rfl⟩
   have hlt:i < vs.length:=by
    rcases Nat.lt_or_ge i vs.length with q | q
    ·exact q
    ·rw [List.getElem?_eq_none q] at e1; cases e1
   refine subT ht.typeIs slot_tuple_getitem.lookup (getItem_tuple ht (by omega) (by omega) (j:=i) ?_ (x:=v) (by simpa using e1) (hq s.heap s.toks v (Keeps.refl _) (.d e2))) (hsub _ _)
   rw [List.size_toArray]
   exact si_at hlt
theorem i_neg {a:AV} {ds:List D} {x:D} (hs:DSrc m nx a (ds ++ [x])) (hl:isLst a) (hi:ds.length < 9000000000):ItemTr prog w K btab k a (.d (.int (-1))) m nx (.d x) m nx:=by
 refine act_same fun W A s tr Q E hA hS ⟨vo,vi,value,slice,hsub,hvo,hvi,htr⟩ hq=>?_
 subst htr
 obtain ⟨l,vs,n,rfl,ho,hvs⟩:=seq_at hS hvo hs hl
 obtain ⟨t,rfl⟩:=va_int hvi
 obtain ⟨v,e1,e2⟩:=hvs.get (i:=ds.length) (x:=x) (by simp)
 have hlen:=hvs.length
 rw [List.length_append,List.length_singleton] at hlen
 refine subT ⟨_,ho,rfl⟩ list_getitem_lookup (wpAny_getItem_list_neg (lstObj.isList ho) (by decide) (by rw [List.size_toArray,hlen]; omega) (by decide) (x:=v) ?_ (hq s.heap s.toks v (Keeps.refl _) (.d e2))) (hsub _ _)
 rw [List.size_toArray,hlen]
 have:((-1:Int)+((ds.length+1:Nat):Int)).toNat=ds.length:=by omega
 rw [this]
 simpa using e1
theorem i_str {x:Str} {i:Int} (hr:fitsSsize i=true) (hin:(Txt.charAt x i).isSome=true):ItemTr prog w K btab k (.d (.str x)) (.d (.int i)) m nx (.d (.str (Txt.item x i))) m nx:=by
 refine act_same fun W A s tr Q E hA hS ⟨vo,vi,value,slice,hsub,hvo,hvi,htr⟩ hq=>?_
 subst htr
 obtain ⟨t,rfl⟩:=va_str hvo
 obtain ⟨t',rfl⟩:=va_int hvi
 exact subT (typeIs_str _ _ _) F.slot_str_getitem.lookup (SB.getItem hr hin (hq s.heap _ _ (Keeps.refl _) (.d (.str _ _)))) (hsub _ _)
noncomputable def pickD (ds:List D) (lo hi:Option Int):List D:=(sliceRange (sliceBounds lo hi none ds.length).1 (sliceBounds lo hi none ds.length).2.1 (sliceBounds lo hi none ds.length).2.2).filterMap (ds[·]?)
theorem vds_filterMap {B:BM} {ds:List D} {vs:List Value} (h:VDs B ds vs):∀ l:List Nat,VDs B (l.filterMap (ds[·]?)) (l.filterMap (vs[·]?))
 | []=>.nil
 | i :: l=>by
  rw [List.filterMap_cons,List.filterMap_cons]
  cases q:ds[i]? with
  | some x=>
   obtain ⟨v,e1,e2⟩:=h.get q
   rw [e1]
   exact .cons e2 (vds_filterMap h l)
  | none=>
   have:vs[i]? = none:=by
    have:=h.length
    rw [List.getElem?_eq_none_iff] at q ⊢
    omega
   rw [this]
   exact vds_filterMap h l
theorem vds_pick {B:BM} {ds:List D} {vs:List Value} (h:VDs B ds vs) (lo hi:Option Int):VDs B (pickD ds lo hi) (slicePick vs.toArray lo hi none).toList:=by
 unfold pickD slicePick
 have:=h.length
 simp only [List.size_toArray,this,List.getElem?_toArray]
 exact vds_filterMap h _
noncomputable def partOf:AV->Option (Option Int)
 | .d .none=>some none
 | .d (.int i)=>some (some i)
 | _=>none
theorem part_is {W:Wd} {a:AV} {v:Value} {p:Option Int} (h:VA W nx a v) (e:partOf a=some p):IsPart v p:=by
 induction h using VA.casesOn with
 | d h=>
  induction h using VD.casesOn with
  | none=>cases e; exact .none
  | int i t=>cases e; exact .int _ _
  | _=>cases e
 | _=>cases e
theorem s_lst {a l u:AV} {ds:List D} {lo hi:Option Int} (hs:DSrc m nx a ds) (hl:isLst a) (h1:partOf l=some lo) (h2:partOf u=some hi) (hsz:ds.length<=100000) :
  SliceTr prog w K btab k a l u m nx (.d (.lst (pickD ds lo hi))) m nx:=by
 refine act_new fun W A s tr Q E hA hS ⟨vo,vl,vu,value,slice,hsub,hvo,hvl,hvu,htr⟩ hq=>?_
 subst htr
 obtain ⟨ll,vs,n,rfl,ho,hvs⟩:=seq_at hS hvo hs hl
 have hlen:=hvs.length
 refine wpAny_bind ?_
 unfold newFields
 refine wpAny_newObj_type ?_ (by size_fits)
 have hl':(s.heap.push { cls:=.type "slice",data:=.fields #[vl,vu,.none] }).IsList ll vs.toArray:=(lstObj.isList ho).push _
 have S2:=hS.keeps (Keeps.push s.heap { cls:=.type "slice",data:=.fields #[vl,vu,.none] })
 refine subT (s:={ s with heap:=s.heap.push { cls:=.type "slice",data:=.fields #[vl,vu,.none] } }) hl'.typeIs list_getitem_lookup
  (wpAny_getItem_list_slice hl' (Heap.IsSliceOf.new ..) (part_is hvl h1) (part_is hvu h2) .none (by simp) ?_ (by rw [List.size_toArray,sizeLine_eq]; omega)) (hsub _ _)
 obtain ⟨W',S',l',v'⟩:=new_lst S2 (vds_pick hvs lo hi)
 have e:(slicePick vs.toArray lo hi none).toList.toArray=slicePick vs.toArray lo hi none:=by simp
 unfold lstObj at S'
 rw [e] at S'
 exact hq W' _ _ _ S' l' (Nat.le_refl _) v'
theorem cmp2 {op:CmpOp} {a b:AV} {r:Bool} (h:∀ (W:Wd) (A:Around) (s:Shared) (u v:Value) (Q:Value->Shared->Prop) (E:Value->Shared->Prop),AOK k A->SInv prog w K btab W m nx s.heap->VA W nx a u->VA W nx b v ->
  (∀ h' tk',Keeps s.heap h'->Q (.bool r) { s with heap:=h',toks:=tk' })->wpAny (model prog w) A (compareOp op u v) Q E s):CmpTr prog w K btab k op a b m nx r m nx:=by
 refine act_same fun W A s tr Q E hA hS ⟨u,v,hu,hv,htr⟩ hq=>?_
 subst htr
 exact h W A s u v Q E hA hS hu hv fun h' tk' hk=>hq h' tk' _ hk rfl
theorem q_inS {x y:Str}:CmpTr prog w K btab k .In (.d (.str y)) (.d (.str x)) m nx (Txt.contains x y) m nx:=by
 refine cmp2 fun W A s u v Q E hA hS hu hv hq=>?_
 obtain ⟨t,rfl⟩:=va_str hu
 obtain ⟨t',rfl⟩:=va_str hv
 exact SB.contains (hq s.heap s.toks (Keeps.refl _))
noncomputable def isNoneA:AV->Option Bool
 | .d .none=>some true
 | .d _=>some false
 | .loc _=>some false
 | .fn ..=>some false
 | .k _=>none
 | .bm ..=>some false
theorem noneA_val {W:Wd} {a:AV} {v:Value} {b:Bool} (h:VA W nx a v) (e:isNoneA a=some b):(v == .none)=b:=by
 induction h using VA.casesOn with
 | d h=>cases h <;> cases e <;> rfl
 | loc h=>cases e; rfl
 | k v=>cases e
 | bm=>cases e; rfl
 | fn=>cases e; rfl
theorem q_isNone {a:AV} {b:Bool} (e:isNoneA a=some b):CmpTr prog w K btab k .Is a (.d .none) m nx b m nx:=by
 refine cmp2 fun W A s u v Q E hA hS hu hv hq=>?_
 cases va_none hv
 exact is_none (by rw [noneA_val hu e]; exact hq s.heap s.toks (Keeps.refl _))
theorem q_isNotNone {a:AV} {b:Bool} (e:isNoneA a=some b):CmpTr prog w K btab k .IsNot a (.d .none) m nx (!b) m nx:=by
 refine cmp2 fun W A s u v Q E hA hS hu hv hq=>?_
 cases va_none hv
 exact isNot_none (by rw [noneA_val hu e]; exact hq s.heap s.toks (Keeps.refl _))
theorem q_isType {X Y:String}:CmpTr prog w K btab k .Is (.k (.type X)) (.k (.type Y)) m nx (Value.type X == Value.type Y) m nx:=by
 refine cmp2 fun W A s u v Q E hA hS hu hv hq=>?_
 cases hu; cases hv
 exact wpAny_is_plain rfl (hq s.heap s.toks (Keeps.refl _))
theorem q_isNotType {X Y:String}:CmpTr prog w K btab k .IsNot (.k (.type X)) (.k (.type Y)) m nx (!(Value.type X == Value.type Y)) m nx:=by
 refine cmp2 fun W A s u v Q E hA hS hu hv hq=>?_
 cases hu; cases hv
 exact wpAny_isNot_plain rfl (hq s.heap s.toks (Keeps.refl _))
theorem b_addS {g:Bool} {x y:Str} (hsz:x.length+y.length<=sizeLine):BinTr prog w K btab k g .Add (.d (.str x)) (.d (.str y)) m nx (.d (.str (x ++ y))) m nx:=by
 refine act_same fun W A s tr Q E hA hS ⟨u,v,hu,hv,htr⟩ hq=>?_
 obtain ⟨t,rfl⟩:=va_str hu
 obtain ⟨t',rfl⟩:=va_str hv
 subst htr
 cases g
 ·exact SB.add (fun t' k'=>hq s.heap _ _ (Keeps.refl _) (.d (.str _ _))) hsz
 ·exact SB.iadd (fun t' k'=>hq s.heap _ _ (Keeps.refl _) (.d (.str _ _))) hsz
theorem truth_lst {a:AV} {ds:List D} (hs:DSrc m nx a ds) (hl:isLst a) (hsz:ds.length < 9000000000):TruthTr prog w K btab k a m nx (!ds.isEmpty):=by
 refine act_same fun W A s tr Q E hA hS ⟨v,hv,htr⟩ hq=>?_
 subst htr
 obtain ⟨l,vs,n,rfl,ho,hvs⟩:=seq_at hS hv hs hl
 have hlen:=hvs.length
 have e:vs.toArray.isEmpty=ds.isEmpty:=by
  cases ds with
  | nil=>cases hvs; rfl
  | cons x r=>cases hvs; rfl
 refine wpAny_truthy_list (lstObj.isList ho) (by rw [List.size_toArray,hlen]; omega) ?_
 rw [e]
 exact hq s.heap _ _ (Keeps.refl _) rfl
mutual
noncomputable def D.py:D->PyData
 | .none=>.none
 | .bool b=>.bool b
 | .int i=>.int i
 | .str s=>.str s
 | .tup l=>.tuple (D.pys l)
 | .lst l=>.list (D.pys l)
 | .rng _ _ _=>.none
noncomputable def D.pys:List D->List PyData
 | []=>[]
 | x :: r=>D.py x :: D.pys r
end
mutual
noncomputable def D.plain:D->Bool
 | .rng _ _ _=>false
 | .tup l=>D.plains l
 | .lst l=>D.plains l
 | _=>true
noncomputable def D.plains:List D->Bool
 | []=>true
 | x :: r=>D.plain x && D.plains r
end
theorem reads_vd {h:Heap} {B:BM} (hb:∀ a o,B a=some o->h.get? a=some o) {x:D} {v:Value} (hv:VD B x v):D.plain x=true->∃ as,Reads h v (D.py x) as:=
 VD.rec (motive_1:=fun x v _=>D.plain x=true->∃ as,Reads h v (D.py x) as) (motive_2:=fun xs vs _=>D.plains xs=true->∃ as,ReadsAll h vs (D.pys xs) as)
  (fun _=>⟨[],.none⟩) (fun b _=>⟨[],.bool b⟩) (fun i t _=>⟨[],.int i t⟩) (fun s t _=>⟨[],.str s t⟩)
  (fun ho _ ih p=>(ih p).elim fun as r=>⟨as,.tuple (hb _ _ ho) rfl rfl r⟩) (fun ho _ ih p=>(ih p).elim fun as r=>⟨_ :: as,.list (hb _ _ ho) rfl rfl r⟩) (fun _ p=>Internal.ft p)
  (fun _=>⟨[],.nil⟩) (fun _ _ i1 i2 p=>have q:=(Bool.and_eq_true _ _).mp p; (i1 q.1).elim fun as r1=>(i2 q.2).elim fun bs r2=>⟨as ++ bs,.cons r1 r2⟩) hv
theorem reads_vds {h:Heap} {B:BM} (hb:∀ a o,B a=some o->h.get? a=some o) {xs:List D} {vs:List Value} (hv:VDs B xs vs):D.plains xs=true->∃ as,ReadsAll h vs (D.pys xs) as:=
 VDs.ind (fun xs vs=>D.plains xs=true->∃ as,ReadsAll h vs (D.pys xs) as) (fun _=>⟨[],.nil⟩) (fun h1 _ i2 p=>have q:=(Bool.and_eq_true _ _).mp p; (reads_vd hb h1 q.1).elim fun as r1=>(i2 q.2).elim fun bs r2=>⟨as ++ bs,.cons r1 r2⟩) hv
noncomputable def asD1 (m:Nat->MO) (nx:Nat) (a:AV) (d:D):Prop:=a=.d d \/ (∃ ds,A3 (d=.lst ds) (isLst a) (DSrc m nx a ds))
theorem reads_av {h:Heap} {W:Wd} (S:SInv prog w K btab W m nx h) {a:AV} {d:D} {v:Value} (hv:VA W nx a v) (ha:asD1 m nx a d) (hp:D.plain d=true):∃ as,Reads h v (D.py d) as:=by
 rcases ha with rfl | ⟨ds,rfl,hl,hs⟩
 ·cases hv with | d hv=>exact reads_vd S.base hv hp
 ·obtain ⟨l,vs,n,rfl,ho,hvs⟩:=seq_at S hv hs hl
  obtain ⟨as,r⟩:=reads_vds S.base hvs hp
  exact ⟨_,.list ho rfl rfl r⟩
theorem units_room {A:Around} (h:AOK k A):A.units+64 < cLine:=by have:=h.units; omega
theorem q_eq {a b:AV} {d1 d2:D} (h1:asD1 m nx a d1) (h2:asD1 m nx b d2) (p1:D.plain d1=true) (p2:D.plain d2=true) (s1:PySem.SeqAt.shaped (D.py d1)=true) (s2:PySem.SeqAt.shaped (D.py d2)=true) (hm:PySem.SeqAt.noMix (D.py d1) (D.py d2)=true) :
  CmpTr prog w K btab k .Eq a b m nx (PySem.Spec.same (D.py d1) (D.py d2)) m nx:=by
 refine cmp2 fun W A s u v Q E hA hS hu hv hq=>?_
 obtain ⟨as,r1⟩:=reads_av hS hu h1 p1
 obtain ⟨bs,r2⟩:=reads_av hS hv h2 p2
 exact eq_dataH_same r1 r2 s1 s2 (units_room hA) hm (hq s.heap s.toks (Keeps.refl _))
theorem q_ne {a b:AV} {d1 d2:D} (h1:asD1 m nx a d1) (h2:asD1 m nx b d2) (p1:D.plain d1=true) (p2:D.plain d2=true) (s1:PySem.SeqAt.shaped (D.py d1)=true) (s2:PySem.SeqAt.shaped (D.py d2)=true) (hm:PySem.SeqAt.noMix (D.py d1) (D.py d2)=true) :
  CmpTr prog w K btab k .NotEq a b m nx (!PySem.Spec.same (D.py d1) (D.py d2)) m nx:=by
 refine cmp2 fun W A s u v Q E hA hS hu hv hq=>?_
 obtain ⟨as,r1⟩:=reads_av hS hu h1 p1
 obtain ⟨bs,r2⟩:=reads_av hS hv h2 p2
 exact ne_dataH_same r1 r2 s1 s2 (units_room hA) hm (hq s.heap s.toks (Keeps.refl _))
theorem ints_of {B:BM}:∀ {ns:List Int} {vs:List Value},VDs B (ns.map D.int) vs->IntsAre vs ns
 | [],_,h=>by cases h; exact .nil
 | n :: ns,_,h=>by
  cases h with
  | cons h r=>
   cases h with | int i t=>exact .cons _ _ (ints_of r)
theorem vds_ints {B:BM}:∀ {vs:List Value} {ns:List Int},IntsAre vs ns->VDs B (ns.map D.int) vs
 | _,_,.nil=>.nil
 | _,_,.cons n t r=>.cons (.int _ _) (vds_ints r)
theorem c_sorted {a:AV} {ns:List Int} (hs:DSrc m nx a (ns.map D.int)) (hl:isLst a) (h64:ns.length < 64):CallTr prog w K btab k (.k (.builtin "sorted")) [a] [] m nx (.d (.lst ((ns.mergeSort (fun x y=>decide (x<=y))).map D.int))) m nx:=by
 refine call1 (act_new fun W A s tr Q E hA hS ⟨v,hv,htr⟩ hq=>?_)
 subst htr
 obtain ⟨l,vs,n,rfl,ho,hvs⟩:=seq_at hS hv hs hl
 have hlen:=hvs.length
 rw [List.length_map] at hlen
 refine PyProof.Rows.sorted_ints (lstObj.isList ho) (ints_of hvs) (by rw [hlen]; exact h64) fun out ns' a1 a2 a3=>?_
 obtain ⟨e,he⟩:=PyProof.Rows.sortedAll_at s.heap vs out
 have hk:Keeps s.heap (PyProof.Rows.sortedAll s.heap vs out):=fun _ _=>PyProof.Rows.sortedAll_old
 have S2:=hS.keeps hk
 have hown:OwnAt W m nx (s.heap.objs.size+1):=hS.fresh (by
  cases q:s.heap.get? (s.heap.objs.size+1) with
  | none=>rfl
  | some o=>exact absurd (Heap.lt_size q) (Nat.not_lt.mpr (Nat.le_succ _)))
 have S3:=S2.freeze hown he
 have l3:Wd.le nx W (W.freeze (s.heap.objs.size+1) (PyProof.Rows.seqObj "list" out e)):=freeze_le hown.b
 have eq:ns.mergeSort (fun x y=>decide (x<=y))=ns':=by
  have p1:(ns.mergeSort (fun x y=>decide (x<=y))).Perm ns':=(List.mergeSort_perm ..).trans a2.symm
  have s1:(ns.mergeSort (fun x y=>decide (x<=y))).Pairwise (fun x y=>decide (x<=y)=true):=List.pairwise_mergeSort (fun a b c h1 h2=>by simp at *; omega) (fun a b=>by simp; omega) _
  have s2:ns'.Pairwise (fun x y=>decide (x<=y)=true):=a3.imp (by simp)
  exact p1.eq_of_pairwise (fun a b _ _ h1 h2=>by simp at h1 h2; omega) s1 s2
 rw [eq] at hq
 refine hq _ _ s.toks _ S3 l3 (Nat.le_refl _) (.d ?_)
 refine .lst (vs:=out.toList) (n:=e) ?_ ((vds_ints a1).mono l3.B)
 have:lstObj out.toList e=PyProof.Rows.seqObj "list" out e:=by unfold lstObj PyProof.Rows.seqObj; simp
 rw [this]
 exact freeze_at _ _ _
set_option tactic.hygienic true in
theorem lookIn_ns {od:Obj} {es:Array DictEntry} {ep:Nat} {mp:Str->Option Value} (hd:od.data=.dict es ep) (hk:StrKeys es) (hf:∀ name,nsFind es name=mp name) (name:Str):lookIn name od=some (mp name):=by
 unfold lookIn
 rw [hd]
 dsimp only
 have e:=hf name
 unfold nsFind findBy at e
 rw [<- Array.find?_toList] at e
 split
 ·rename_i en he
  rw [he] at e
  rw [<- e]; rfl
 ·rename_i he
  rw [he] at e
  have:es.toList.any (·.refKey)=false:=by
   rw [List.any_eq_false]
   intro x hx
   obtain ⟨n,t,hx'⟩:=hk x (by simpa using hx)
   unfold DictEntry.refKey
   rw [hx']
   simp
  rw [this]
  rw [<- e]; rfl
theorem inst_at {W:Wd} {h:Heap} (S:SInv prog w K btab W m nx h) {n j:Nat} {C:Addr} {l:List (Str × AV)} (hn:n < nx) (h1:m n=.inst C j) (h2:m j=.ns l) :
  j < nx /\ (Ex4 fun (od:Obj) (es:Array DictEntry) (ep:Nat) (mp:Str->Option Value)=>A8 (InstAt h (W.ι n) (instObj C (W.ι j)) C (some od)) (h.get? (W.ι j)=some od) (od.data=.dict es ep) (StrKeys es) ((∀ name,nsFind es name=mp name)) (es.size<=l.length) ((∀ x,l.lookup x=none->mp x=none)) (∀ x av,l.lookup x=some av->∃ v,mp x=some v /\ VA W nx av v)):=by
 have o1:=S.obj n hn
 rw [h1] at o1
 obtain ⟨a1,a2⟩:=o1
 have o2:=S.obj j a2
 rw [h2] at o2
 obtain ⟨mp,⟨od,es,ep,b1,b2,b3,b4,bz⟩,b5,b6⟩:=o2
 exact ⟨a2,od,es,ep,mp,⟨a1,rfl,rfl,b1⟩,b1,b2,b3,b4,bz,b5,b6⟩
noncomputable def notK:AV->Bool
 | .k (.builtin _)=>false
 | _=>true
theorem handed {W:Wd} {a:AV} {v:Value} (h:VA W nx a v) (hn:notK a=true):handedIn v=true:=by
 induction h using VA.casesOn with
 | d h=>cases h <;> rfl
 | loc=>rfl
 | k v=>cases v <;> first | rfl | cases hn
 | bm=>rfl
 | fn=>rfl
noncomputable def attrOk (K:Frag) (C:Addr) (name:Str):Bool:=plainGet K C name && hasDictIn K C && (match findIn K (.ref C) name with | some attr=>noGet K attr | none=>false)
set_option tactic.hygienic true in
theorem get_inst {W:Wd} {A:Around} {E:Value->Shared->Prop} {s:Shared} {Q:Value->Shared->Prop} {n j:Nat} {C:Addr} {l:List (Str × AV)} {name:Str} {r:AV} {b:Bool} (S:SInv prog w K btab W m nx s.heap) (hn:n < nx) (h1:m n=.inst C j) (h2:m j=.ns l) (hl:l.lookup name=some r) (hk:notK r=true)
  (hc:attrOk K C name=true) (h:∀ v,VA W nx r v->Q v { s with toks:=s.toks+1 }):wpAny (model prog w) A (getAttr (.ref (W.ι n)) name b) Q E s:=by
 obtain ⟨_,od,es,ep,mp,I,b1,b2,b3,b4,bz,b5,b6⟩:=inst_at S hn h1 h2
 obtain ⟨v,e1,e2⟩:=b6 name r hl
 unfold attrOk at hc
 rw [Bool.and_eq_true,Bool.and_eq_true] at hc
 obtain ⟨⟨c1,c2⟩,c3⟩:=hc
 split at c3
 ·rename_i attr ha
  have hlook:lookIn name od=some (some v):=by rw [lookIn_ns b2 b3 b4,e1]
  exact get_value S.facts.1 I (plainGet_of c1).1 (findObj_own c2 ha c3 hlook) (handed e2 hk) (h v e2)
 ·cases c3
theorem a_get {n j:Nat} {C:Addr} {l:List (Str × AV)} {name:Str} {r:AV} (hn:n < nx) (h1:m n=.inst C j) (h2:m j=.ns l) (hl:l.lookup name=some r) (hk:notK r=true) (hc:attrOk K C name=true):AttrTr prog w K btab k (.loc n) name m nx r m nx:=by
 refine act_same fun W A s tr Q E hA hS ⟨vo,b,hv,htr⟩ hq=>?_
 subst htr
 cases hv
 exact get_inst hS hn h1 h2 hl hk hc fun v hv=>hq s.heap _ v (Keeps.refl _) hv
noncomputable def methOk (K:Frag) (C:Addr) (name:Str) (f:Addr):Bool:=plainGet K C name && findIn K (.ref C) name == some (some (.ref f)) && typeIn K (.ref f) == some (.type "function")
theorem m_fn {n j:Nat} {C f:Addr} {l:List (Str × AV)} {name:Str} (hn:n < nx) (h1:m n=.inst C j) (h2:m j=.ns l) (hl:l.lookup name=none) (hc:methOk K C name f=true):MethTr prog w K btab k (.loc n) name m nx (.k (.ref f)) [.loc n] nx m:=by
 refine act_same fun W A s tr Q E hA hS ⟨vo,pl,hv,htr⟩ hq=>?_
 subst htr
 cases hv
 obtain ⟨_,od,es,ep,mp,I,b1,b2,b3,b4,bz,b5,b6⟩:=inst_at hS hn h1 h2
 unfold methOk at hc
 rw [Bool.and_eq_true,Bool.and_eq_true] at hc
 obtain ⟨⟨c1,c2⟩,c3⟩:=hc
 have hsh:shadowIn (some od) name=some false:=by
  show (lookIn name od).map (·.isSome)=some false
  rw [lookIn_ns b2 b3 b4,b5 _ hl]; rfl
 exact method_fn hS.facts.1 I (plainGet_of c1).1 (plainGet_of c1).2 (beq_iff_eq.mp c2) (beq_iff_eq.mp c3) hsh (hq s.heap s.toks _ (Keeps.refl _) ⟨.k _,.cons (.loc hn) .nil⟩)
theorem m_attr {n j:Nat} {C:Addr} {l:List (Str × AV)} {name:Str} {r:AV} (hn:n < nx) (h1:m n=.inst C j) (h2:m j=.ns l) (hl:l.lookup name=some r) (hk:notK r=true) (hc:attrOk K C name=true) (hno:findIn K (.ref C) name=some none) :
  MethTr prog w K btab k (.loc n) name m nx r [] nx m:=by
 refine act_same fun W A s tr Q E hA hS ⟨vo,pl,hv,htr⟩ hq=>?_
 subst htr
 cases hv
 obtain ⟨_,od,es,ep,mp,I,b1,b2,b3,b4,bz,b5,b6⟩:=inst_at hS hn h1 h2
 have c1:plainGet K C name=true:=by
  unfold attrOk at hc
  rw [Bool.and_eq_true,Bool.and_eq_true] at hc
  exact hc.1.1
 refine method_usual hS.facts.1 I (plainGet_of c1).1 (plainGet_of c1).2 hno rfl ?_
 exact get_inst hS hn h1 h2 hl hk hc fun v hv=>hq s.heap _ (v,[]) (Keeps.refl _) ⟨hv,.nil⟩
noncomputable def setOk (K:Frag) (C:Addr) (name:Str):Bool:=findIn K (.ref C) "__setattr__" == some (some (.builtin "object.__setattr__")) && plainOver K C && takerIn K C name == some none && hasDictIn K C
theorem nsSetZ {M:Model} {A:Around} {E:Value->Shared->Prop} {s:Shared} {a:Addr} {o:Obj} {es:Array DictEntry} {ep:Nat} {mp:Str->Option Value} {name:Str} {v:Value} {Q:Unit->Shared->Prop} (ho:s.heap.get? a=some o) (hd:o.data=.dict es ep) (hk:StrKeys es) (hm:∀ x,nsFind es x=mp x)
  (hQ:∀ h' o' es' ep',h'.get? a=some o'->o'.data=.dict es' ep'->StrKeys es'->(∀ x,nsFind es' x=if x=name then some v else mp x)->es'.size<=es.size+(if (mp name).isSome then 0 else 1)->Heap.SameBut a s.heap h'->Q () { s with heap:=h',toks:=s.toks+1 }) :
  wpAny M A (nsSet a name v) Q E s:=by
 intro Γ p _
 simp only [nsSet,strHash,Sem.wp_bind',Sem.wp_cmd_ask,Sem.wp_pure',Sem.wp_cmd_mkText]
 rw [Sem.wp_loadPart_of M Γ _ p { s with toks:=s.toks+1 } (o:=o) _ ho]
 have hany:es.any (·.refKey)=false:=by
  rw [Array.any_eq_false']; intro e he; obtain ⟨n,t,h⟩:=hk e he; simp [DictEntry.refKey,h]
 simp only [hd,aRefKeyMayBeTheName_at,hany,Bool.and_false,Bool.false_eq_true,if_false,Sem.wp_cmd_updatePart]
 refine ⟨by rw [ho]; rfl,?_⟩
 obtain ⟨c,d,dt,sl⟩:=o
 subst hd
 cases hi:es.findIdx? (·.key.isStr name) with
 | some i=>
  refine hQ _ _ _ ep (Heap.get?_update_self _ ho (by simp only [Obj.putName_eq,Obj.putNameByArray,hi]; rfl)) (by simp only [Obj.putName_eq,Obj.putNameByArray,hi]; rfl) (hk.modify _ _) (fun x=>?_) (by simp) (Heap.SameBut.update ..)
  rw [<- hm]; exact findBy_modify (fun n v=>v.isStr n) Value.isStr_inj es name x v i hi
 | none=>
  refine hQ _ _ _ (ep+1) (Heap.get?_update_self _ ho (by simp only [Obj.putName_eq,Obj.putNameByArray,hi]; rfl)) (by simp only [Obj.putName_eq,Obj.putNameByArray,hi]; rfl) (hk.push _ _ _ _) (fun x=>?_) ?_ (Heap.SameBut.update ..)
  ·rw [<- hm]
   exact findBy_push (fun n v=>v.isStr n) es name x _ _ v (fun y=>by
    show (name == y)=decide (y=name)
    by_cases h:y=name
    ·subst h; simp
    ·have:¬ name=y:=fun e=>h e.symm
     simp [h,this]) hi
  ·have:mp name=none:=by
    rw [<- hm name]
    unfold nsFind
    rw [findBy_of_findIdx?,hi]
   rw [this,Array.size_push]
   simp
theorem setv_length (x:Str) (a:AV):∀ l:List (Str × AV),(setv x a l).length=l.length+(if (l.lookup x).isSome then 0 else 1)
 | []=>rfl
 | p :: r=>by
  unfold setv
  rw [List.lookup_cons]
  cases q:p.1 == x with
  | true=>
   have:(x == p.1)=true:=by rw [<- q]; exact BEq.comm
   rw [this]; rfl
  | false=>
   have:(x == p.1)=false:=by rw [<- q]; exact BEq.comm
   rw [this]
   dsimp only
   rw [List.length_cons,List.length_cons,setv_length x a r]
   omega
set_option tactic.hygienic true in
theorem a_set {n j:Nat} {C:Addr} {l:List (Str × AV)} {name:Str} {x:AV} (hn:n < nx) (h1:m n=.inst C j) (h2:m j=.ns l) (hz:l.length < 1000) (hc:setOk K C name=true):SetAttrTr prog w K btab k (.loc n) name x m nx (upd m j (.ns (setv name x l))) nx:=by
 intro W A s tr Q E hA hS _ ⟨vo,vx,hvo,hvx,htr⟩ hq
 subst htr
 cases hvo
 obtain ⟨hj,od,es,ep,mp,I,b1,b2,b3,b4,bz,b5,b6⟩:=inst_at hS hn h1 h2
 obtain ⟨X,_⟩:=hS.facts
 unfold setOk at hc
 rw [Bool.and_eq_true,Bool.and_eq_true,Bool.and_eq_true] at hc
 obtain ⟨⟨⟨c1,c2⟩,c3⟩,c4⟩:=hc
 obtain ⟨cd,hcd,hd'⟩:=any_some (show (clsIn K C).any (·.hasDict)=true from c4)
 refine set_plain X I (beq_iff_eq.mp c1) (osa_open (s:={ s with toks:=s.toks+1 }) X I c2 (beq_iff_eq.mp c3) fun b=>?_)
 have hx:=I.at_
 refine wpAny_bind (wpAny_pure (wpAny_bind (wpAny_bind (wpAny_loadPart (s:={ s with toks:=s.toks+1 }) hx (wpAny_bind (Looks.here (s:={ s with toks:=s.toks+1 }) (looks_clsIn (M:=model prog w) X hcd) ?_))))))
 rw [hd']
 refine wpAny_pure (a:=some (W.ι j)) (wpAny_bind (wpAny_pure (wpAny_bind ?_)))
 refine nsSetZ (s:={ s with toks:=s.toks+1 }) b1 b2 b3 b4 fun h' o' es' ep' d1 d2 d3 d4 d5 d6=>?_
 have hsz:es'.size<=1001:=by
  have:es'.size<=es.size+1:=Nat.le_trans d5 (by split <;> omega)
  omega
 refine wpAny_bind (wpAny_lookBehind d1 (by rw [d2]; exact pastItsLine_dict (by rw [sizeLine_eq]; omega)) ?_)
 refine wpAny_pure ?_
 refine hq W h' _ () (Nat.le_refl _) (.refl _ _) (hS.put (mo:=.ns (setv name x l)) hj (by rw [h2]; exact fun z=>by cases z) d6.extBut ⟨_,⟨o',es',ep',d1,d2,d3,d4,?_⟩,fun y hy=>?_,fun y av hy=>?_⟩) trivial
 ·rw [setv_length]
  refine Nat.le_trans d5 (Nat.add_le_add bz ?_)
  cases q:l.lookup name with
  | none=>rw [b5 _ q]; exact Nat.le_refl _
  | some av=>
   obtain ⟨v,e1,_⟩:=b6 _ _ q
   rw [e1]; exact Nat.le_refl _
 ·rw [setv_lookup] at hy
  split at hy
  ·cases hy
  ·rename_i hne
   rw [if_neg hne]; exact b5 y hy
 ·rw [setv_lookup] at hy
  split at hy
  ·rename_i he
   cases hy
   rw [if_pos he]
   exact ⟨vx,rfl,hvx⟩
  ·rename_i hne
   rw [if_neg hne]
   exact b6 y av hy
theorem tc_weight (C:Addr) (rest:List Value) (kw:List (Str × Value)):(Code.builtin "type.__call__" ⟨.ref C :: rest,kw⟩).weight<=4 /\ (Code.builtin "type.__call__" ⟨.ref C :: rest,kw⟩).cUnits<=13:=by
 have h1:(Code.builtin "type.__call__" ⟨.ref C :: rest,kw⟩).frames=0:=by rfl
 have h2:(Code.builtin "type.__call__" ⟨.ref C :: rest,kw⟩).isCaller=false:=by rfl
 unfold Code.weight Code.cUnits
 rw [h1,h2]
 constructor
 ·split <;> split <;> simp
 ·show 1+3 * (Code.builtin "type.__call__" ⟨.ref C :: rest,kw⟩).frames<=13
  rw [h1]; decide
theorem AOK.tc {A:Around} {C:Addr} {rest:List Value} {kw:List (Str × Value)} (h:AOK (k+1) A):AOK k (A.under (.builtin "type.__call__" ⟨.ref C :: rest,kw⟩)):=by
 obtain ⟨h1,h2,h3⟩:=h
 obtain ⟨w1,w2⟩:=tc_weight C rest kw
 refine ⟨?_,?_,h3⟩
 ·show A.depth+(Code.builtin "type.__call__" ⟨.ref C :: rest,kw⟩).weight+10 * k+20 < _
  omega
 ·show A.units+(Code.builtin "type.__call__" ⟨.ref C :: rest,kw⟩).cUnits+60 * k+400 < _
  omega
theorem code_make {C fI:Addr} {args:List AV} {st':St} {m':Nat->MO} {nx':Nat} (hm:makesIn K C=true) (hi:findIn K (.ref C) "__init__" = some (some (.ref fI))) (hf:typeIn K (.ref fI)=some (.type "function"))
  (init:CodeTr prog w K btab k (.k (.ref fI)) (.loc (nx+1) :: args) [] (upd (upd m nx (.ns [])) (nx+1) (.inst C nx)) (nx+1+1) (.d .none) m' nx') :
  CodeTr prog w K btab (k+1) (.k (.ref C)) args [] m nx (.loc (nx+1)) m' nx':=by
 intro W A s R vf vs kvs hA hS hvf hvs hkvs hq
 cases hvf
 cases hkvs
 obtain ⟨X,hlim,_⟩:=hS.facts
 obtain ⟨hh,g,d,t,os⟩:=s
 have S0:SInv prog w K btab W m nx hh:=hS
 have hfree:hh.get? hh.objs.size=none:=get?_size hh
 obtain ⟨S1,l1,c1⟩:=S0.new (o:=emptyDict) (mo:=.ns []) ⟨fun _=>none,⟨_,#[],0,Heap.get?_push_size _ rfl,rfl,fun e he=>(by simp at he),fun x=>rfl,Nat.zero_le _⟩,fun _ _=>rfl,fun x av h=>(by cases h)⟩
 have e1:(W.lay nx hh.objs.size).ι nx=hh.objs.size:=upd_at _ _ _
 obtain ⟨S2,l2,c2⟩:=S1.new (o:=instObj C hh.objs.size) (mo:=.inst C nx) ⟨by
  rw [Heap.get?_push_size _ rfl]
  show some (instObj C hh.objs.size)=some (instObj C (upd (W.lay nx hh.objs.size).ι (nx+1) _ nx))
  rw [upd_ne _ _ _ (Nat.ne_of_lt (Nat.lt_succ_self _)),e1],Nat.lt_succ_of_lt (Nat.lt_succ_self _)⟩
 have l02:Wd.le nx W ((W.lay nx hh.objs.size).lay (nx+1) (hh.push emptyDict).objs.size):=l1.trans (Nat.le_succ _) l2
 have hself:VA ((W.lay nx hh.objs.size).lay (nx+1) (hh.push emptyDict).objs.size) (nx+1+1) (.loc (nx+1)) (.ref (hh.objs.size+1)):=by
  have z:=VA.loc (W:=(W.lay nx hh.objs.size).lay (nx+1) (hh.push emptyDict).objs.size) (nx:=nx+1+1) (n:=nx+1) (Nat.lt_succ_self _)
  have e:((W.lay nx hh.objs.size).lay (nx+1) (hh.push emptyDict).objs.size).ι (nx+1)=hh.objs.size+1:=by
   show upd _ (nx+1) _ (nx+1)=_
   rw [upd_at,Heap.size_push]
  rw [e] at z
  exact z
 refine make_core (makes_of X hm) (looks_findIn X hi) (fun self=>bind_fn X self hf) (.inl rfl) ?_
 refine init _ (A.under _) ⟨(hh.push emptyDict).push (instObj C hh.objs.size),g,d,t,os⟩ _ (.ref fI) (.ref (hh.objs.size+1) :: vs) [] hA.tc S2 (.k _) (.cons hself (hvs.mono (Nat.le_trans (Nat.le_succ _) (Nat.le_succ _)) l02)) .nil fun W' h' tk' v n l S' hv=>?_
 have hvn:=va_none hv
 subst hvn
 refine ⟨rfl,?_⟩
 exact hq W' h' tk' _ (Nat.le_trans (Nat.le_trans (Nat.le_succ _) (Nat.le_succ _)) n) (l02.trans (Nat.le_trans (Nat.le_succ _) (Nat.le_succ _)) l) S' (hself.mono n l)
noncomputable def boundOk (K:Frag) (C:Addr) (name:Str) (f:Addr):Bool:=plainGet K C name && hasDictIn K C && findIn K (.ref C) name == some (some (.ref f)) && isFn K (.ref f) && specialIn K (.ref f) "__get__" == some (some (.builtin "function.__get__")) && takesIn K (.ref f) == some false && !copiedNames.contains name
theorem a_bound {n j:Nat} {C f:Addr} {l:List (Str × AV)} {name:Str} (hn:n < nx) (h1:m n=.inst C j) (h2:m j=.ns l) (hl:l.lookup name=none) (hc:boundOk K C name f=true):AttrTr prog w K btab k (.loc n) name m nx (.bm f n) m nx:=by
 refine act_new fun W A s tr Q E hA hS ⟨vo,b,hv,htr⟩ hq=>?_
 subst htr
 cases hv
 obtain ⟨_,od,es,ep,mp,I,b1,b2,b3,b4,bz,b5,b6⟩:=inst_at hS hn h1 h2
 unfold boundOk at hc
 simp only [Bool.and_eq_true,Bool.not_eq_true',beq_iff_eq] at hc
 obtain ⟨⟨⟨⟨⟨⟨c1,c2⟩,c3⟩,c4⟩,c5⟩,c6⟩,c7⟩:=hc
 have X:=hS.facts.1
 refine get_bind X I (plainGet_of c1).1 (findObj_fn c2 c3 c5 c6 c7 (by rw [lookIn_ns b2 b3 b4,b5 _ hl])) (plainGet_of c1).2
  (wpAny_call (fn_get (s:={ s with toks:=s.toks+1 }) X (beq_iff_eq.mp c4) (handed_on rfl ?_)))
 obtain ⟨S',l',c'⟩:=hS.alloc (o:=methodObj (.ref f) (.ref (W.ι n))) rfl
 refine hq _ _ _ _ S' l' (Nat.le_refl _) (.bm hn (freeze_at _ _ _))
theorem code_bm {f:Addr} {n:Nat} {args:List AV} {r:AV} {m':Nat->MO} {nx':Nat} (h:CodeTr prog w K btab k (.k (.ref f)) (.loc n :: args) [] m nx r m' nx'):CodeTr prog w K btab k (.bm f n) args [] m nx r m' nx':=by
 intro W A s R vf vs kvs hA hS hvf hvs hkvs hq
 cases hvf with
 | bm hn ho=>
  cases hkvs
  exact method_call (hS.base _ _ ho) (h W A s R (.ref f) (.ref (W.ι n) :: vs) [] hA hS (.k _) (.cons (.loc hn) hvs) .nil hq)
theorem callBorrowed_eq (f:Value) (pos:List Value):callBorrowed f pos=(call f pos).keep [borrowed]:=by
 unfold callBorrowed call runValue run
 show Sem.call _ _ _ _ _=Sem.call _ _ _ _ _
 congr 1
 funext r
 rcases r with e | (v | _ | _ | _) <;> rfl
theorem wpAny_callBorrowed {M:Model} {A:Around} {E:Value->Shared->Prop} {s:Shared} {f:Value} {pos:List Value} {Q:Value->Shared->Prop} (h:wpAny M A (call f pos) Q E s):wpAny M A (callBorrowed f pos) Q E s:=by
 rw [callBorrowed_eq]
 exact Calls.wpAny_keep h
theorem slot_ci_next:Slot "callable_iterator" "__next__" "callable_iterator.__next__" :=
 .of (owner := "callable_iterator") (n := "__next__") (by rw [typeLookup_type,builtinLookup_eq_fast]; kernel_rfl) (by decide +kernel) (by decide +kernel) (by decide +kernel)
  (by first | exact .inl (by decide +kernel) | exact .inr (by decide +kernel)) (by rw [isSubtype_type]; kernel_rfl)
theorem entry_ci_next:entryFor table "callable_iterator.__next__" = some Builtin.«callable_iterator.__next__»:=entryFor_of_tree (by kernel_rfl)
theorem args_ci_next (a:Value):argsOk "callable_iterator.__next__" ⟨[a],[]⟩:=by unfold argsOk; kernel_rfl
theorem method_call_look:typeLookup (.type "method") "__call__" = pure (some (.builtin "method.__call__")):=by rw [typeLookup_type,builtinLookup_eq_fast]; kernel_rfl
theorem c_iter {f:Addr} {n:Nat} {stop:Str}:CallTr prog w K btab k (.k (.builtin "iter")) [.bm f n,.d (.str stop)] [] m nx (.loc nx) (upd m nx (.citer (.bm f n) stop)) (nx+1):=by
 refine call2 (act_new fun W A s tr Q E hA hS ⟨u,v,hu,hv,htr⟩ hq=>?_)
 subst htr
 obtain ⟨t,rfl⟩:=va_str hv
 have hu':=hu
 cases hu with
 | @bm _ _ a hn ho=>
  refine call_function_entry (by decide +kernel) (by decide +kernel) kdk_entry_iter (by unfold argsOk; kernel_rfl) ?_
  unfold Builtin.«iter»
  refine wpAny_bind (m:=someArgs "iter" 1 2 _) (wpAny_of_eq (a:=[Value.ref a,.str stop t]) (by first | rfl | kernel_rfl) ?_)
  show wpAny _ _ (specialOf (.ref a) "__call__" >>= _) _ _ _
  refine wpAny_bind (wpAny_specialOf (T := "method") ⟨_,hS.base _ _ ho,rfl⟩ method_call_look ?_)
  simp only [Option.isNone_some,Bool.false_eq_true,if_false]
  refine wpAny_bind (wpAny_rule (wpAny_bind ?_))
  unfold newFields
  refine wpAny_newObj_type ?_ (by size_fits)
  refine wpAny_pure ⟨_,rfl,?_⟩
  obtain ⟨S',l',c'⟩:=hS.new (o:={ cls:=.type "callable_iterator",data:=.fields #[.ref a,.str stop t,.bool false] }) (mo:=.citer (.bm f n) stop)
   ⟨_,.ref a,t,Heap.get?_push_size _ rfl,rfl,rfl,hu'.mono (Nat.le_succ _) lay_le⟩
  refine hq _ _ _ _ S' l' (Nat.le_succ _) ?_
  have e:(W.lay nx s.heap.objs.size).ι nx=s.heap.objs.size:=upd_at _ _ _
  have z:=VA.loc (W:=W.lay nx s.heap.objs.size) (nx:=nx+1) (n:=nx) (Nat.lt_succ_self _)
  rw [e] at z
  exact z
theorem borrows {A:Around} {E:Value->Shared->Prop} {s:Shared} {Q:Bool->Shared->Prop} {a f:Addr} {self:Value} {of:Obj} {fd:FuncData} (ho:s.heap.get? a=some (methodObj (.ref f) self)) (hf:s.heap.get? f=some of) (hd:of.data=.func fd) (h:Q true s):wpAny (model prog w) A (borrowsExactly (.ref a)) Q E s:=by
 unfold borrowsExactly
 refine wpAny_bind (wpAny_load ho ?_)
 dsimp only
 rw [if_pos (by rfl)]
 refine wpAny_bind (wpAny_load hf ?_)
 rw [hd]
 exact wpAny_pure h
theorem AOK.in1 {A:Around} (h:AOK (k+1) A):AOK k A.in1:=by
 obtain ⟨h1,h2,h3⟩:=h
 refine ⟨?_,?_,h3⟩
 ·show A.depth+10 * k+20 < _
  omega
 ·show A.units+1+60 * k+400 < _
  omega
theorem fnIn_at {f:Addr} {h:Heap} (hf:fnIn K f=true) (X:K.In h):(Ex2 fun of fd=>h.get? f=some of /\ of.data=.func fd):=by
 revert hf
 unfold fnIn
 cases q:K.lookup f with
 | none=>exact fun h=>ft h
 | some o=>
  obtain ⟨cl,d1,dt,d2⟩:=o
  induction dt using Data.casesOn with
  | func fd=>exact fun _=>⟨_,fd,X _ _ q,rfl⟩
  | _=>exact fun h=>ft h
set_option tactic.hygienic true in
theorem ci_item {c n:Nat} {f:Addr} {stop r:Str} {m':Nat->MO} {nx':Nat} (hc:c < nx) (hm:m c=.citer (.bm f n) stop) (hf:fnIn K f=true) (call:CodeTr prog w K btab k (.k (.ref f)) [.loc n] [] m nx (.d (.str r)) m' nx') (hm':m' c=.citer (.bm f n) stop) (hr:(stop == r)=false)
  {W:Wd} {A:Around} {E:Value->Shared->Prop} {s:Shared} {Q:Option Value->Shared->Prop} (hA:AOK (k+1) A) (hS:SInv prog w K btab W m nx s.heap)
  (hq:∀ W' h' tk' v,nx<=nx'->Wd.le nx W W'->SInv prog w K btab W' m' nx' h'->VA W' nx' (.d (.str r)) v->Q (some v) { s with heap:=h',toks:=tk' }):wpAny (model prog w) A (pyNext (.ref (W.ι c))) Q E s:=by
 have o1:=hS.obj c hc
 rw [hm] at o1
 obtain ⟨o,vf,t,ho,hcl,hd,hvf⟩:=o1
 have hT:s.TypeIs (.ref (W.ι c)) "callable_iterator" := ⟨o,ho,hcl⟩
 cases hvf with
 | @bm _ _ a hn hob=>
  obtain ⟨of,fd,hof,hfd⟩:=fnIn_at hf hS.facts.1
  unfold pyNext
  refine wpAny_bind (wpAny_attempt (wpAny_callSpecial?_slot (name:=Str.ofString "__next__") hT slot_ci_next (wpAny_call_entry slot_ci_next hT entry_ci_next ?_ (args_ci_next _))))
  unfold Builtin.«callable_iterator.__next__»
  refine wpAny_bind (m:=slotArgs "__next__" 0 _) (wpAny_of_eq (a:=(Value.ref (W.ι c),[])) (by first | rfl | kernel_rfl) ?_)
  dsimp only
  refine wpAny_bind (wpAny_field ho hd (x:=.bool false) rfl ?_)
  rw [if_neg (by decide)]
  refine wpAny_bind (wpAny_field ho hd (x:=.ref a) rfl ?_)
  refine wpAny_bind (wpAny_attempt ?_)
  unfold callOutOfASlot
  refine wpAny_bind (borrows (hS.base _ _ hob) hof hfd ?_)
  rw [if_pos rfl]
  refine wpAny_callBorrowed (wpAny_call (code_bm call W _ s _ (.ref a) [] [] ?_ hS (.bm hn hob) .nil .nil fun W' h' tk' v n1 l S' hv=>?_))
  ·exact hA.in1
  ·have o2:=S'.obj c (Nat.lt_of_lt_of_le hc n1)
   rw [hm'] at o2
   obtain ⟨o',vf',t',ho',hcl',hd',hvf'⟩:=o2
   rw [l.ι c hc] at ho'
   obtain ⟨u,rfl⟩:=va_str hv
   dsimp only
   refine wpAny_bind (wpAny_field (s:={ s with heap:=h',toks:=tk' }) ho' hd' (x:=.bool false) rfl ?_)
   rw [if_neg (by decide)]
   refine wpAny_bind (wpAny_field (s:={ s with heap:=h',toks:=tk' }) ho' hd' (x:=.str stop t') rfl ?_)
   refine wpAny_bind (wpAny_holding (SeqAt.EqAt.str_str _ _ _ _ prog w _ _ ?_))
   rw [hr]
   refine wpAny_bind (wpAny_pure (wpAny_pure ⟨_,rfl,wpAny_pure (hq W' h' tk' _ n1 l S' (.d (.str _ _)))⟩))
theorem stop_raised {A:Around} {E:Value->Shared->Prop} {s:Shared} {α:Type} (hh:A.handled=none) (h:∀ h' e,Keeps s.heap h'->(∃ o,h'.get? e=some o /\ o.cls=.type "StopIteration")->E (.ref e) { s with heap:=h' }) {Q:α->Shared->Prop} :
  wpAny (model prog w) A (Builtin.SmallTypes.stopIteration:Sem α) Q E s:=by
 unfold Builtin.SmallTypes.stopIteration
 refine wpAny_bind ?_
 unfold newExc newTuple
 refine wpAny_bind (wpAny_newObj_type ?_ (by size_fits))
 refine wpAny_bind (m:=firstArgMember _ _) (wpAny_of_eq (a:=Value.none) (by first | rfl | (simp only [firstArgMember]; rfl)) ?_)
 refine wpAny_newObj_type ?_ (by size_fits)
 show wpAny _ A (handled >>= _) _ _ _
 refine wpAny_bind (wpAny_handled ?_)
 rw [hh]
 refine wpAny_bind (wpAny_pure (wpAny_throw ?_))
 exact h _ _ ((Keeps.push _ _).trans (Keeps.push _ _)) ⟨_,Heap.get?_push_size _ rfl,rfl⟩
theorem set3 {A:Around} {E:Value->Shared->Prop} {s:Shared} {it:Addr} {o:Obj} {a b c:Value} {Q:Unit->Shared->Prop} (ho:s.heap.get? it=some o) (hd:o.data=.fields #[a,b,c])
  (h:∀ h' o',h'.get? it=some o'->o'.cls=o.cls->o'.data=.fields #[.none,.none,.bool true]->Heap.SameBut it s.heap h'->Q () { s with heap:=h' }) :
  wpAny (model prog w) A (do setField (.ref it) 0 .none; setField (.ref it) 1 .none; setField (.ref it) 2 (.bool true)) Q E s:=by
 refine wpAny_bind (wpAny_setField ho hd (by simp) ?_)
 have d1:=Obj.data_mapFields hd (fun vs=>vs.setIfInBounds 0 Value.none)
 have g1:=Heap.get?_update_self (h:=s.heap) (Obj.mapFields fun vs=>vs.setIfInBounds 0 Value.none) ho (Obj.isFreed_of_fields d1)
 refine wpAny_bind (wpAny_setField g1 d1 (by simp) ?_)
 have d2:=Obj.data_mapFields d1 (fun vs=>vs.setIfInBounds 1 Value.none)
 have g2:=Heap.get?_update_self (Obj.mapFields fun vs=>vs.setIfInBounds 1 Value.none) g1 (Obj.isFreed_of_fields d2)
 refine wpAny_setField g2 d2 (by simp) ?_
 have d3:=Obj.data_mapFields d2 (fun vs=>vs.setIfInBounds 2 (Value.bool true))
 have g3:=Heap.get?_update_self (Obj.mapFields fun vs=>vs.setIfInBounds 2 (Value.bool true)) g2 (Obj.isFreed_of_fields d3)
 refine h _ _ g3 ?_ ?_ (((Heap.SameBut.update ..).trans (Heap.SameBut.update ..)).trans (Heap.SameBut.update ..))
 ·rw [Obj.cls_mapFields,Obj.cls_mapFields,Obj.cls_mapFields]
 ·rw [d3]; simp
set_option tactic.hygienic true in
theorem ci_end {c n:Nat} {f:Addr} {stop:Str} {m':Nat->MO} {nx':Nat} (hc:c < nx) (hm:m c=.citer (.bm f n) stop) (hf:fnIn K f=true) (call:CodeTr prog w K btab k (.k (.ref f)) [.loc n] [] m nx (.d (.str stop)) m' nx') (hm':m' c=.citer (.bm f n) stop)
  {W:Wd} {A:Around} {E:Value->Shared->Prop} {s:Shared} {Q:Option Value->Shared->Prop} (hA:AOK (k+1) A) (hS:SInv prog w K btab W m nx s.heap)
  (hq:∀ W' h' tk',nx<=nx'->Wd.le nx W W'->SInv prog w K btab W' (upd m' c .cdone) nx' h'->Q none { s with heap:=h',toks:=tk' }):wpAny (model prog w) A (pyNext (.ref (W.ι c))) Q E s:=by
 have o1:=hS.obj c hc
 rw [hm] at o1
 obtain ⟨o,vf,t,ho,hcl,hd,hvf⟩:=o1
 have hT:s.TypeIs (.ref (W.ι c)) "callable_iterator" := ⟨o,ho,hcl⟩
 have fnOf:=fun h:Heap=>fnIn_at (h:=h) hf
 cases hvf with
 | @bm _ _ a hn hob=>
  obtain ⟨of,fd,hof,hfd⟩:=fnOf _ hS.facts.1
  unfold pyNext
  refine wpAny_bind (wpAny_attempt (wpAny_callSpecial?_slot (name:=Str.ofString "__next__") hT slot_ci_next (wpAny_call_entry slot_ci_next hT entry_ci_next ?_ (args_ci_next _))))
  unfold Builtin.«callable_iterator.__next__»
  refine wpAny_bind (m:=slotArgs "__next__" 0 _) (wpAny_of_eq (a:=(Value.ref (W.ι c),[])) (by first | rfl | kernel_rfl) ?_)
  dsimp only
  refine wpAny_bind (wpAny_field ho hd (x:=.bool false) rfl ?_)
  rw [if_neg (by decide)]
  refine wpAny_bind (wpAny_field ho hd (x:=.ref a) rfl ?_)
  refine wpAny_bind (wpAny_attempt ?_)
  unfold callOutOfASlot
  refine wpAny_bind (borrows (hS.base _ _ hob) hof hfd ?_)
  rw [if_pos rfl]
  refine wpAny_callBorrowed (wpAny_call (code_bm call W _ s _ (.ref a) [] [] ?_ hS (.bm hn hob) .nil .nil fun W' h' tk' v n1 l S' hv=>?_))
  ·exact hA.in1
  ·have o2:=S'.obj c (Nat.lt_of_lt_of_le hc n1)
   rw [hm'] at o2
   obtain ⟨o',vf',t',ho',hcl',hd',hvf'⟩:=o2
   have ho'':=ho'
   rw [l.ι c hc] at ho'
   obtain ⟨u,rfl⟩:=va_str hv
   dsimp only
   refine wpAny_bind (wpAny_field (s:={ s with heap:=h',toks:=tk' }) ho' hd' (x:=.bool false) rfl ?_)
   rw [if_neg (by decide)]
   refine wpAny_bind (wpAny_field (s:={ s with heap:=h',toks:=tk' }) ho' hd' (x:=.str stop t') rfl ?_)
   refine wpAny_bind (wpAny_holding (SeqAt.EqAt.str_str _ _ _ _ prog w _ _ ?_))
   rw [beq_self_eq_true]
   simp only [Bool.not_true,Bool.false_eq_true,if_false]
   refine wpAny_bind (wpAny_rule (wpAny_bind ?_))
   cases hvf' with
   | @bm _ _ a' hn' hob'=>
    obtain ⟨of',fd',hof',hfd'⟩:=fnOf _ S'.facts.1
    show wpAny (model prog w) A.in1 (do
     slotLetsGo "callable_iterator.__next__" (<- field (.ref (W.ι c)) 0) _
     setField (.ref (W.ι c)) 0 .none; setField (.ref (W.ι c)) 1 .none; setField (.ref (W.ι c)) 2 (.bool true)) _ _ _
    refine wpAny_bind (wpAny_field (s:={ s with heap:=h',toks:=tk' }) ho' hd' (x:=.ref a') rfl ?_)
    refine wpAny_bind ?_
    unfold slotLetsGo
    refine wpAny_bind (borrows (s:={ s with heap:=h',toks:=tk' }) (S'.base _ _ hob') hof' hfd' ?_)
    rw [if_pos rfl]
    refine wpAny_pure ?_
    refine set3 (s:={ s with heap:=h',toks:=tk' }) ho' hd' fun h2 o2 g1 g2 g3 hsb=>?_
    refine stop_raised (A:=A.in1) (s:={ s with heap:=h2,toks:=tk' }) hA.handled fun h3 e hk ⟨oe,he1,he2⟩=>?_
    refine wpAny_bind (wpAny_isInstance (T := "StopIteration") (b:=true) ⟨_,he1,he2⟩ isSubtype_stop ?_)
    have hj:m' c ≠ .junk:=by rw [hm']; exact fun z=>by cases z
    have S2:=S'.put (mo:=.cdone) (Nat.lt_of_lt_of_le hc n1) hj (by rw [l.ι c hc]; exact hsb.extBut) ⟨o2,by rw [l.ι c hc]; exact g1,g2.trans hcl',g3⟩
    exact wpAny_pure (hq W' h3 tk' n1 l (S2.keeps hk))
end
section
variable {prog:Program} {w:World} {K:Frag} {btab:List (Str × Value)} {k:Nat} {m:Nat->MO} {nx:Nat} {φ:Fm}
theorem ci_ended {c:Nat} (hc:c < nx) (hm:m c=.cdone) {W:Wd} {A:Around} {E:Value->Shared->Prop} {s:Shared} {Q:Option Value->Shared->Prop} (hh:A.handled=none) (hS:SInv prog w K btab W m nx s.heap)
  (hq:∀ h',Keeps s.heap h'->Q none { s with heap:=h' }):wpAny (model prog w) A (pyNext (.ref (W.ι c))) Q E s:=by
 have o1:=hS.obj c hc
 rw [hm] at o1
 obtain ⟨o,ho,hcl,hd⟩:=o1
 have hT:s.TypeIs (.ref (W.ι c)) "callable_iterator" := ⟨o,ho,hcl⟩
 unfold pyNext
 refine wpAny_bind (wpAny_attempt (wpAny_callSpecial?_slot (name:=Str.ofString "__next__") hT slot_ci_next (wpAny_call_entry slot_ci_next hT entry_ci_next ?_ (args_ci_next _))))
 unfold Builtin.«callable_iterator.__next__»
 refine wpAny_bind (m:=slotArgs "__next__" 0 _) (wpAny_of_eq (a:=(Value.ref (W.ι c),[])) (by first | rfl | kernel_rfl) ?_)
 dsimp only
 refine wpAny_bind (wpAny_field ho hd (x:=.bool true) rfl ?_)
 rw [if_pos (by decide)]
 refine wpAny_bind (wpAny_rule ?_)
 refine wpAny_bind (stop_raised (A:=A.in1) (s:=s) hh fun h3 e hk ⟨oe,he1,he2⟩=>?_)
 refine wpAny_bind (wpAny_isInstance (T := "StopIteration") (b:=true) ⟨_,he1,he2⟩ isSubtype_stop ?_)
 exact wpAny_pure (hq h3 hk)
theorem ci_iter {c:Nat} {a:AV} {stop:Str} (hc:c < nx) (hm:m c=.citer a stop \/ m c=.cdone) {W:Wd} {A:Around} {E:Value->Shared->Prop} {s:Shared} {Q:Value->Shared->Prop} (hS:SInv prog w K btab W m nx s.heap)
  (hq:Q (.ref (W.ι c)) s):wpAny (model prog w) A (pyIter (.ref (W.ι c))) Q E s:=by
 have hT:s.TypeIs (.ref (W.ι c)) "callable_iterator" := by
  have o1:=hS.obj c hc
  rcases hm with hm | hm
  ·rw [hm] at o1; obtain ⟨o,vf,t,ho,hcl,_⟩:=o1; exact ⟨o,ho,hcl⟩
  ·rw [hm] at o1; obtain ⟨o,ho,hcl,_⟩:=o1; exact ⟨o,ho,hcl⟩
 have slot:Slot "callable_iterator" "__iter__" "callable_iterator.__iter__" := .of (owner := "callable_iterator") (n := "__iter__") (by rw [typeLookup_type,builtinLookup_eq_fast]; kernel_rfl) (by decide +kernel) (by decide +kernel) (by decide +kernel)
  (by first | exact .inl (by decide +kernel) | exact .inr (by decide +kernel)) (by rw [isSubtype_type]; kernel_rfl)
 have entry:entryFor table "callable_iterator.__iter__" = some Builtin.«dict_keyiterator.__iter__»:=
  entryFor_alias (id' := "dict_keyiterator.__iter__") (by kernel_rfl) (by first | rfl | decide +kernel | (unfold String.splitOn; simp +decide [String.splitOnAux])) (by decide +kernel) (by kernel_rfl)
 refine wpAny_pyIter_slot hT slot (wpAny_call_entry slot hT entry ?_ (by unfold argsOk; kernel_rfl))
 show wpAny _ _ (ret (.ref (W.ι c))) _ _ s
 exact wpAny_pure ⟨_,rfl, "callable_iterator",_,hT,slot_ci_next.lookup,hq⟩
class inductive ForCi (prog:Program) (w:World) (K:Frag) (btab:List (Str × Value)) (k:Nat) (φ:Fm) (t:PySem.Expr) (b:List Stmt) (c n:Nat) (f:Addr) (stop:Str):Nat->St->Fl->St->Prop
 | ended {N:Nat} {st:St} (hc:c < st.nx) (hm:st.m c=.cdone):ForCi prog w K btab k φ t b c n f stop N st .next st
 | done {N:Nat} {st:St} {m':Nat->MO} {nx':Nat} (hc:c < st.nx) (hm:st.m c=.citer (.bm f n) stop) (call:CodeTr prog w K btab k (.k (.ref f)) [.loc n] [] st.m st.nx (.d (.str stop)) m' nx') (hm':m' c=.citer (.bm f n) stop) :
   ForCi prog w K btab k φ t b c n f stop N st .next { st with m:=upd m' c .cdone,nx:=nx' }
 | step {N:Nat} {st st1 st2 st3:St} {m':Nat->MO} {nx':Nat} {r:Str} {g fl:Fl} (hc:c < st.nx) (hm:st.m c=.citer (.bm f n) stop) (call:CodeTr prog w K btab k (.k (.ref f)) [.loc n] [] st.m st.nx (.d (.str r)) m' nx') (hm':m' c=.citer (.bm f n) stop) (hr:(stop == r)=false)
   (ht:gTgt φ t (.str r) { st with m:=m',nx:=nx' } []=some ((),st1,[],[])) (hb:BTr prog w K btab (k+1) φ b st1 g st2) (hg:g=.next \/ g=.cont) (rest:ForCi prog w K btab k φ t b c n f stop N st2 fl st3):ForCi prog w K btab k φ t b c n f stop (N+1) st fl st3
 | stop {N:Nat} {st st1 st2:St} {m':Nat->MO} {nx':Nat} {r:Str} {a:AV} (hc:c < st.nx) (hm:st.m c=.citer (.bm f n) stop) (call:CodeTr prog w K btab k (.k (.ref f)) [.loc n] [] st.m st.nx (.d (.str r)) m' nx') (hm':m' c=.citer (.bm f n) stop) (hr:(stop == r)=false)
   (ht:gTgt φ t (.str r) { st with m:=m',nx:=nx' } []=some ((),st1,[],[])) (hb:BTr prog w K btab (k+1) φ b st1 (.ret a) st2):ForCi prog w K btab k φ t b c n f stop N st (.ret a) st2
noncomputable def isNm:PySem.Expr->Bool
 | .Name ..=>true
 | _=>false
theorem isNm_go {t:PySem.Expr}:isNm t=true->∀ it v:Value,letOwnedTupleGo t it v=pure ():=by
 induction t using PySem.Expr.casesOn <;> first | exact fun _ _ _=>rfl | exact fun h=>Internal.ft h
theorem for_ci {t:PySem.Expr} {b:List Stmt} {c n:Nat} {f:Addr} {stop:Str} {N:Nat} {fl:Fl} {st0 st':St} {W0:Wd} {A:Around} {env:Env} {s0:Shared} {R:Result->Shared->Prop} (hnm:isNm t=true) (hf:fnIn K f=true)
  (hA:AOK (k+1) A) (S0:SInv prog w K btab W0 st0.m st0.nx s0.heap) (F0:FInv W0 φ env st0 s0.heap) (hc0:c < st0.nx) (hT:ForCi prog w K btab k φ t b c n f stop N st0 fl st')
  (hR:∀ W' h' tk' g,st0.nx<=st'.nx->Wd.le st0.nx W0 W'->SInv prog w K btab W' st'.m st'.nx h'->FInv W' φ env st' h'->FlR W' st'.nx fl g->R (.ok g) { s0 with heap:=h',toks:=tk' }) :
  codeAny (model prog w) A (.forLoop t (.ref (W0.ι c)) b [] env) R s0:=by
 have hgo:=isNm_go hnm (.ref (W0.ι c))
 refine codeAny_forLoop (fun N s=>(Ex4 fun (st:St) (W:Wd) (h:Heap) (tk:Nat)=>A6 (s = { s0 with heap:=h,toks:=tk }) (ForCi prog w K btab k φ t b c n f stop N st fl st') (SInv prog w K btab W st.m st.nx h) (FInv W φ env st h) (st0.nx<=st.nx) (Wd.le st0.nx W0 W))) ?_ N
  ⟨st0,W0,s0.heap,s0.toks,rfl,hT,S0,F0,Nat.le_refl _,.refl _ _⟩ hgo
 clear hT S0 F0
 rintro N s ⟨st,W,h,tk,rfl,hT,S,F,hn,hl⟩
 have eι:W0.ι c=(W.shut st.m st.nx h).ι c:=(hl.ι c hc0).symm
 rw [eι]
 have turn:∀ {m':Nat->MO} {nx':Nat} {r:Str} {st1 st2:St} {g:Fl} {Q:Flow->Shared->Prop} {E:Value->Shared->Prop} (v:Value) (W':Wd) (h':Heap) (tk':Nat),st.nx<=nx'->Wd.le st.nx (W.shut st.m st.nx h) W'->SInv prog w K btab W' m' nx' h'->VA W' nx' (.d (.str r)) v ->
   gTgt φ t (.str r) { st with m:=m',nx:=nx' } []=some ((),st1,[],[])->BTr prog w K btab (k+1) φ b st1 g st2 ->
   (∀ W2 h2 tk2 fl',st.nx<=st2.nx->Wd.le st.nx W W2->SInv prog w K btab W2 st2.m st2.nx h2->FInv W2 φ env st2 h2->FlR W2 st2.nx g fl'->Q fl' { s0 with heap:=h2,toks:=tk2 }) ->
   wpAny (model prog w) A (assign t env v) (fun _ s₂=>wpAny (model prog w) A (execs b env) Q E s₂) E { s0 with heap:=h',toks:=tk' }:=by
  intro m' nx' r st1 st2 g Q E v W' h' tk' n1 l1 S1 hv ht hb hq
  obtain ⟨S2,l2,c2⟩:=SInv.unshut l1 S1
  have F2:=F.carry n1 l2 c2
  have T:=snd_tgt (prog:=prog) (w:=w) (K:=K) (btab:=btab) (k:=k+1) (φ:=φ) (t:=t) (d:=.str r) (v:=v) (C:=fun W nx=>VA W nx (.d (.str r)) v) (Mono.va _ _) (fun W nx c=>c) _ _ _ _ _ _ ht (by simp)
  refine T { W' with R:=W.R } A env { s0 with heap:=h',toks:=tk' } _ E hA S2 F2 (hv.R) fun W3 h3 tk3 _ n3 l3 S3 F3 _=>?_
  refine hb W3 A env _ _ _ hA S3 F3 trivial fun W4 h4 tk4 fl' n4 l4 S4 F4 r4=>?_
  exact hq W4 h4 tk4 fl' (Nat.le_trans n1 (Nat.le_trans n3 n4)) (l2.trans n1 (l3.trans n3 l4)) S4 F4 r4
 induction hT using ForCi.casesOn with
 | ended hc hm=>
  refine ci_ended (s:={ s0 with heap:=h,toks:=tk }) hc hm hA.handled S.shut fun h' hk=>?_
  exact wpAny_pure (hR W h' tk .next hn hl (S.keeps hk) (F.carry (Nat.le_refl _) (.refl _ _) (Carry.keeps hk)) trivial)
 | done hc hm call hm'=>
  refine ci_end (s:={ s0 with heap:=h,toks:=tk }) hc hm hf call hm' hA S.shut fun W' h' tk' n1 l1 S1=>?_
  obtain ⟨S2,l2,c2⟩:=SInv.unshut l1 S1
  exact wpAny_pure (hR _ h' tk' .next (Nat.le_trans hn n1) (hl.trans hn l2) S2 (F.carry n1 l2 c2) trivial)
 | @step N st st1 st2 st' m' nx' r g fl hc hm call hm' hr ht hb hg rest=>
  refine ci_item (s:={ s0 with heap:=h,toks:=tk }) hc hm hf call hm' hr hA S.shut fun W' h' tk' v n1 l1 S1 hv=>?_
  refine turn v W' h' tk' n1 l1 S1 hv ht hb fun W2 h2 tk2 fl' n2 l2 S2 F2 hfl=>?_
  have key:∃ m,m < N+1 /\ (Ex4 fun (st:St) (W:Wd) (h:Heap) (tk:Nat)=>A6 (({ s0 with heap:=h2,toks:=tk2 }:Shared) = { s0 with heap:=h,toks:=tk }) (ForCi prog w K btab k φ t b c n f stop m st fl st') (SInv prog w K btab W st.m st.nx h) (FInv W φ env st h) (st0.nx<=st.nx) (Wd.le st0.nx W0 W)):=
   ⟨N,Nat.lt_succ_self _,st2,W2,h2,tk2,rfl,rest,S2,F2,Nat.le_trans hn n2,hl.trans hn l2⟩
  rcases flr_go hg hfl with rfl | rfl
  ·exact key
  ·exact key
 | @stop N st st1 st' m' nx' r a hc hm call hm' hr ht hb=>
  refine ci_item (s:={ s0 with heap:=h,toks:=tk }) hc hm hf call hm' hr hA S.shut fun W' h' tk' v n1 l1 S1 hv=>?_
  refine turn v W' h' tk' n1 l1 S1 hv ht hb fun W2 h2 tk2 fl' n2 l2 S2 F2 hfl=>?_
  obtain ⟨v,rfl,hv⟩:=flr_ret hfl
  exact hR W2 h2 tk2 _ (Nat.le_trans hn n2) (hl.trans hn l2) S2 F2 hv
theorem STr.forCi {s:Stmt} {st st0 st':St} {fl:Fl} {c n:Nat} {f:Addr} {stop:Str} (hs:forChk s=true) (hns:noSet (forIter s)=true) (hnm:isNm (forTgt s)=true) (hf:fnIn K f=true) (nn:Nat) (sc:List Ev) {ob:List Prop} (e:ev prog w K btab (k+1) nn φ (forIter s) st sc=some (.loc c,st0,[],ob)) (h:AllP ob)
  (hc:c < st0.nx) (hm:st0.m c=.citer (.bm f n) stop \/ st0.m c=.cdone) {N:Nat} (loop:ForCi prog w K btab k φ (forTgt s) (forBody s) c n f stop N st0 fl st'):STr prog w K btab (k+1) φ s st fl st':=by
 obtain ⟨t,i,b,p,rfl⟩:=forChk_of hs
 intro W A env s Q E hA hS hF hc' hq
 refine wpAny_For ?_ (noSet_folded hns env)
 refine ETr.run nn sc e h W A env s _ E hA hS hF trivial fun W1 h1 tk1 v n1 l1 S1 F1 hv=>?_
 cases hv
 refine ci_iter (s:={ s with heap:=h1,toks:=tk1 }) hc hm S1 ?_
 refine for_ci (s0:={ s with heap:=h1,toks:=tk1 }) hnm hf hA S1 F1 hc loop fun W3 h3 tk3 g n3 l3 S3 F3 r=>?_
 exact hq W3 h3 tk3 g (Nat.le_trans n1 n3) (l1.trans n1 l3) S3 F3 r
end
section
variable {prog:Program} {w:World} {K:Frag} {btab:List (Str × Value)} {k:Nat} {m:Nat->MO} {nx:Nat}
theorem strsAre_of {B:BM}:∀ {ys:List Str} {vs:List Value},VDs B (strDs ys) vs->StrsAre vs ys
 | [],_,h=>by cases h; exact .nil
 | y :: ys,_,h=>by
  cases h with
  | cons h r=>
   cases h with | str s t=>exact .cons _ _ (strsAre_of r)
theorem b_addL {a b:AV} {xs ys:List D} (h1:DSrc m nx a xs) (l1:isLst a) (h2:DSrc m nx b ys) (l2:isLst b) (hsz:xs.length+ys.length<=100000):BinTr prog w K btab k false .Add a b m nx (.d (.lst (xs ++ ys))) m nx:=by
 refine act_new fun W A s tr Q E hA hS ⟨u,v,hu,hv,htr⟩ hq=>?_
 obtain ⟨l,vs,n,rfl,ho,hvs⟩:=seq_at hS hu h1 l1
 obtain ⟨l',ws,n',rfl,ho',hws⟩:=seq_at hS hv h2 l2
 have e1:=hvs.length
 have e2:=hws.length
 obtain ⟨W',S',lw,v'⟩:=new_lst hS (hvs.append hws)
 have e:vs.toArray ++ ws.toArray=(vs ++ ws).toArray:=by simp
 have key:∀ Q':Value->Shared->Prop,Q' (.ref s.heap.objs.size) { s with heap:=s.heap.push (lstObj (vs ++ ws) 0) }->wpAny (model prog w) A (binaryOp .Add (.ref l) (.ref l')) Q' E s:=fun Q' hq'=>by
  refine concat_meets ⟨_,ho,rfl⟩ ⟨_,ho',rfl⟩ noFill_list_add seq_list_add PySem.F.slot_list_add PySem.F.entry_list_add (PySem.F.args_list_add_2 _ _) (list_addW l l' vs.toArray ws.toArray n n' none none #[] #[] (by rw [sizeLine_eq]; simp; omega)) ⟨ho,ho',?_⟩
  rw [e]
  exact hq'
 subst htr
 exact key _ (hq W' _ s.toks _ S' lw (Nat.le_refl _) v')
end
section
open PyProof
section
variable {prog:Program} {w:World} {K:Frag} {btab:List (Str × Value)} {k:Nat} {m:Nat->MO} {nx:Nat}
theorem int_pairs {B:BM}:∀ {ns:List Int} {vs:List Value},VDs B (ns.map D.int) vs->∃ l:List (Int × Tok),vs=l.map (fun p=>Value.int p.1 p.2) /\ l.map (·.1)=ns
 | [],_,h=>by cases h; exact ⟨[],rfl,rfl⟩
 | n :: ns,_,h=>by
  cases h with
  | cons h r=>
   cases h with
   | int i t=>
    obtain ⟨l,e1,e2⟩:=int_pairs r
    exact ⟨(n,t) :: l,by rw [e1]; rfl,by simp [e2]⟩
theorem preSum_take (l:List (Int × Tok)):∀ j,j<=l.length->preSum (numAt l.toArray) j=((l.map (·.1)).take j).sum
 | 0,_=>by simp [preSum]
 | j+1,h=>by
  rw [preSum,preSum_take l j (by omega),List.take_add_one,List.sum_append]
  have hj:j < l.length:=h
  simp [numAt,List.getElem?_map,List.getElem?_eq_getElem hj]
theorem c_sum {a:AV} {ns:List Int} (hs:DSrc m nx a (ns.map D.int)) (hl:isLst a):CallTr prog w K btab k (.k (.builtin "sum")) [a] [] m nx (.d (.int ns.sum)) m nx:=by
 refine call1 (act_same fun W A s tr Q E hA hS ⟨v,hv,htr⟩ hq=>?_)
 subst htr
 obtain ⟨l,vs,n,rfl,ho,hvs⟩:=seq_at hS hv hs hl
 obtain ⟨ps,rfl,rfl⟩:=int_pairs hvs
 have hi:s.heap.IsList l (intItems ps.toArray):=by
  have:=lstObj.isList ho
  unfold intItems
  simpa using this
 refine sum_intListG hA.handled hi fun h' tk t' hk=>?_
 have e:preSum (numAt ps.toArray) ps.toArray.size=(ps.map (·.1)).sum:=by
  rw [List.size_toArray,preSum_take ps _ (Nat.le_refl _),List.take_of_length_le (by simp)]
 rw [e]
 exact hq h' tk _ hk (.d (.int _ _))
theorem b_pow {i j:Int} (h0:0<=j) (hsz:(Builtin.Int.intBits i:Int) * j<=2 ^ 27) {g:Bool}:BinTr prog w K btab k g .Pow (.d (.int i)) (.d (.int j)) m nx (.d (.int (i ^ j.toNat))) m nx:=by
 refine act_same fun W A s tr Q E hA hS ⟨u,v,hu,hv,htr⟩ hq=>?_
 obtain ⟨t,rfl⟩:=va_int hu
 obtain ⟨t',rfl⟩:=va_int hv
 subst htr
 cases g
 ·exact pow_int h0 hsz (hq s.heap _ _ (Keeps.refl _) (.d (.int _ _)))
 ·exact ipow_int h0 hsz (hq s.heap _ _ (Keeps.refl _) (.d (.int _ _)))
theorem isStrOf_at (x:Str) {vs:List Value} {ys:List Str} (h:StrsAre vs ys):∀ j (h1:j < vs.length) (h2:j < ys.length),isStrOf x vs[j]=(ys[j] == x):=
 StrsAre.rec (motive:=fun vs ys _=>∀ j (h1:j < vs.length) (h2:j < ys.length),isStrOf x vs[j]=(ys[j] == x)) (fun j h _=>absurd h (Nat.not_lt_zero j))
  (fun y t {_ _} _ ih j=>Nat.rec (fun _ _=>rfl) (fun j _ h1 h2=>ih j (Nat.lt_of_succ_lt_succ h1) (Nat.lt_of_succ_lt_succ h2)) j) h
theorem strsAre_len {vs:List Value} {ys:List Str} (h:StrsAre vs ys):vs.length=ys.length:=
 StrsAre.rec (motive:=fun vs ys _=>vs.length=ys.length) rfl (fun _ _ {_ _} _ e=>congrArg Nat.succ e) h
theorem c_indexS {a:AV} {x:Str} {ys:List Str} (hs:DSrc m nx a (strDs ys)) (hl:isLst a) (hx:x ∈ ys) (hsz:ys.length<=100000) :
  CallTr prog w K btab k (.k (.builtin "list.index")) [a,.d (.str x)] [] m nx (.d (.int (ys.idxOf x:Nat))) m nx:=by
 refine call2 (act_same fun W A s tr Q E hA hS ⟨u,v,hu,hv,htr⟩ hq=>?_)
 subst htr
 obtain ⟨t,rfl⟩:=va_str hv
 obtain ⟨l,vs,n,rfl,ho,hvs⟩:=seq_at hS hu hs hl
 have hi:=strsAre_of hvs
 have hlen:=strsAre_len hi
 have hj:ys.idxOf x < ys.length:=List.idxOf_lt_length_iff.mpr hx
 refine call_meets PySem.F.slot_list_index ⟨_,ho,rfl⟩ PySem.F.entry_list_index (PySem.F.args_list_index_2 _ _)
  (PySem.SeqAt.list_indexAt l vs.toArray n none #[] (.str x t) (isStrOf x) (ys.idxOf x) (by simpa [hlen] using hj) (by omega) ?_ ?_) ⟨ho,fun y hy=>(eq_isStrOf x t hi y (by simpa using hy)).at _ _,hq s.heap _ _ (Keeps.refl _) (.d (.int _ _))⟩
 ·show isStrOf x vs[ys.idxOf x]=true
  rw [isStrOf_at x hi _ (by omega) hj]
  simpa using List.getElem_idxOf hj
 ·intro j hjs hlt
  show isStrOf x vs[j]=false
  rw [isStrOf_at x hi j (by simpa using hjs) (by omega)]
  cases q:ys[j]'(by omega) == x with
  | false=>rfl
  | true=>
   exfalso
   have hlt':j < ys.findIdx (· == x):=hlt
   have:=List.not_of_lt_findIdx hlt'
   rw [this] at q
   cases q
end
section
variable {prog:Program} {w:World} {A:Around} {E:Value->Shared->Prop} {s:Shared}
noncomputable def NoneIn (code text:Array Nat) (lim:Nat):Prop:=∀ j,j < lim->∀ seen,∃ seen',Sre.inSet code (text.getD j 0) code.size 5 true seen=.ok (false,seen')
theorem admitted_none {m:Sre.M} (h:NoneIn m.code m.text m.lim):∀ fuel j seen,∃ seen',Sre.M.admitted m fuel j seen=.ok (none,seen')
 | 0,_,seen=>⟨seen,rfl⟩
 | fuel+1,j,seen=>by
  unfold Sre.M.admitted
  by_cases q:j >= m.lim
  ·rw [if_pos q]; exact ⟨_,rfl⟩
  ·rw [if_neg q]
   obtain ⟨s',e⟩:=h j (by omega) seen
   simp only [e]
   exact admitted_none h fuel (j+1) s'
structure Nay (m:Sre.M):Prop where
 answer:m.answer=some false
 frames:m.frames = []
 outcome:m.outcome=none
theorem nay_attempt {m:Sre.M} (hf:m.hasFirstSet=true) (h:NoneIn m.code m.text m.lim) (fr:m.frames = []) (oc:m.outcome=none) (p:Nat) (b:Bool):Nay (m.attemptFrom p b):=by
 unfold Sre.M.attemptFrom
 rw [hf]
 obtain ⟨s',e⟩:=admitted_none h (m.lim+1 - p) p m.seen
 rw [e]
 exact ⟨rfl,fr,oc⟩
theorem nay_search {code text:Array Nat} {groups pos lim:Nat} (hf:∀ m:Sre.M,m.code=code->m.hasFirstSet=true) (h:NoneIn code text lim) :
  Nay (Sre.forSearch code text groups pos lim false):=by
 unfold Sre.forSearch
 dsimp only
 split
 ·exact ⟨rfl,rfl,rfl⟩
 ·refine nay_attempt (hf _ rfl) ?_ rfl rfl _ _
  exact h
theorem nay_run {m:Sre.M} (h:Nay m):(m.runFor 4).outcome=some .failed:=by
 have e:m.step = { m with outcome:=some .failed }:=by
  unfold Sre.M.step
  rw [h.outcome,h.answer,h.frames]
  rfl
 have e2:m.runFor 4=m.step.runFor 3:=by
  show (if m.outcome.isSome then m else Sre.M.runFor 3 m.step)=_
  rw [h.outcome]
  rfl
 rw [e2,e]
 rfl
theorem runToEnd_none {m:Sre.M} (h:Nay m) {Q:Option Sre.M->Shared->Prop} (hq:Q none s):wpAny (model prog w) A (Builtin.Re.reRunToEnd m) Q E s:=by
 have e:Builtin.Re.reDrive (2 ^ 64) m=pure (m.runFor 4):=by
  rw [show (2 ^ 64:Nat)=(2 ^ 64 - 1)+1 from rfl]
  unfold Builtin.Re.reDrive
  show (if ((m.runFor 4).outcome.isSome:Bool)=true then _ else _)=_
  rw [nay_run h]
  rfl
 unfold Builtin.Re.reRunToEnd
 rw [e]
 refine wpAny_bind (wpAny_pure ?_)
 refine wpAny_bind (wpAny_forIn_list _ (fun _ _ s'=>s'=s) _ (fun x rest b s' hs'=>?_) (fun b s' hs'=>?_) _ _ rfl)
 ·subst hs'
  split
  ·exact wpAny_bind (wpAny_rule (wpAny_pure rfl))
  ·exact wpAny_pure rfl
 ·subst hs'
  rw [nay_run h]
  exact wpAny_pure hq
theorem slot_search:Slot "re.Pattern" "search" "re.Pattern.search" :=
 .of (owner := "re.Pattern") (n := "search") (by rw [typeLookup_type,builtinLookup_eq_fast]; kernel_rfl) (by decide +kernel) (by decide +kernel) (by decide +kernel)
  (by first | exact .inl (by decide +kernel) | exact .inr (by decide +kernel)) (by rw [isSubtype_type]; kernel_rfl)
theorem type_search:typeOf (.builtin "re.Pattern.search")=pure (.type "method_descriptor"):=by show builtinType _=_; rw [builtinType_eq_fast]; kernel_rfl
theorem entry_search:entryFor table "re.Pattern.search" = some Builtin.«re.Pattern.search»:=entryFor_of_tree (by kernel_rfl)
theorem named_one {v:Value}:Builtin.Re.reNamed "re.Pattern.search" "search" ["string", "pos", "endpos"] 1 [v] []=pure [some v,none,none]:=by
 unfold Builtin.Re.reNamed
 rfl
theorem meets_search {p:Addr} {o:Obj} {fs:Array Value} {ca:Addr} {oc:Obj} {cs:Array Value} {n:Nat} {x:Str} {t:Tok} (hd:o.data=.fields fs) (h6:Builtin.Re.reRawNat (fs.getD 6 .none)=0) (h5:fs.getD 5 .none=.ref ca) (hdc:oc.data=.seq cs n)
  (hf:∀ m:Sre.M,m.code=(cs.map Builtin.Re.reRawOf).map (·.toNat)->m.hasFirstSet=true) (hn:NoneIn ((cs.map Builtin.Re.reRawOf).map (·.toNat)) x.cps x.cps.size) :
  Meets (Builtin.«re.Pattern.search» ⟨[.ref p,.str x t],[]⟩) (fun _ R s=>s.heap.get? p=some o /\ s.heap.get? ca=some oc /\ R (.ok (.ret .none)) s):=
 .of_wp fun prog w A R s h=>by
  obtain ⟨ho,hoc,h⟩:=h
  unfold Builtin.«re.Pattern.search» Builtin.Re.reTarget
  refine wpAny_bind ?_
  show wpAny _ _ (Builtin.Re.reNamed "re.Pattern.search" "search" ["string", "pos", "endpos"] 1 [.str x t] [] >>= _) _ _ s
  rw [named_one]
  refine wpAny_bind (wpAny_pure ?_)
  show wpAny _ _ (fieldsOf (.ref p) >>= _) _ _ s
  refine wpAny_bind (wpAny_fieldsOf ho hd ?_)
  refine wpAny_bind (m:=Builtin.Re.reTextOf (.str x t)) (wpAny_pure ?_)
  simp only [h6]
  refine wpAny_bind (m:=Builtin.Re.reNoCollectionInside (.str x t) 0) (wpAny_pure ?_)
  refine wpAny_bind ?_
  rw [h5]
  unfold Builtin.Re.reRawItems
  refine wpAny_bind (m:=seqItems? (.ref ca)) ?_
  unfold seqItems?
  refine wpAny_bind (wpAny_load hoc ?_)
  rw [hdc]
  refine wpAny_pure ?_
  refine wpAny_pure ?_
  refine wpAny_pure ?_
  unfold Builtin.Re.reAnswer
  refine wpAny_bind (runToEnd_none (nay_search hf fun j hj=>hn j (Nat.lt_of_lt_of_le hj (Nat.min_le_right _ _))) ?_)
  exact wpAny_pure ⟨_,rfl,h⟩
end
theorem owner_pattern:Manifest.owners.lookup (String.ofList ['n','r','e','t','t','a','P','.','e','r'].reverse)=some Manifest.sig_re_Pattern:=by kernel_rfl
theorem args_search (a b:Value):argsOk "re.Pattern.search" ⟨[a,b],[]⟩:=by
 unfold argsOk; rw [signature?_of (id := "re.Pattern.search") (n:=['h','c','r','a','e','s']) (o:=['n','r','e','t','t','a','P','.','e','r']) (by kernel_rfl) owner_pattern]; kernel_rfl
theorem plain_pattern:PlainAttrs "re.Pattern" :=
 ⟨⟨"object.__getattribute__",by rw [typeLookup_type,builtinLookup_eq_fast]; kernel_rfl,by decide +kernel⟩,by rw [typeLookup_type,builtinLookup_eq_fast]; kernel_rfl⟩
section
variable {prog:Program} {w:World} {K:Frag} {btab:List (Str × Value)} {k:Nat} {m:Nat->MO} {nx:Nat}
structure Pat (K:Frag) (p ca:Addr) (cs:Array Value):Prop where
 at_:∀ h:Heap,K.In h->∃ (o oc:Obj) (fs:Array Value) (n:Nat),h.get? p=some o /\ h.get? ca=some oc /\ o.cls=.type "re.Pattern" /\ o.dict=none /\ o.data=.fields fs /\ Builtin.Re.reRawNat (fs.getD 6 .none)=0 /\ fs.getD 5 .none=.ref ca /\ oc.data=.seq cs n
 first:∀ m:Sre.M,m.code=(cs.map Builtin.Re.reRawOf).map (·.toNat)->m.hasFirstSet=true
theorem m_search {p ca:Addr} {cs:Array Value} (P:Pat K p ca cs):MethTr prog w K btab k (.k (.ref p)) "search" m nx (.k (.builtin "re.Pattern.search")) [.k (.ref p)] nx m:=by
 refine act_same fun W A s tr Q E hA hS ⟨vo,pl,hv,htr⟩ hq=>?_
 subst htr
 cases hv
 obtain ⟨o,oc,fs,n,ho,-,hc,hdi,-⟩:=P.at_ s.heap (hS.sta.all s.heap hS.base).1
 refine getMethod_builtin ⟨_,ho,hc⟩ plain_pattern slot_search type_search (fun a e=>by cases e; exact ⟨_,ho,hdi⟩) ?_
 exact hq s.heap s.toks _ (Keeps.refl _) ⟨.k _,.cons (.k _) .nil⟩
theorem c_search {p ca:Addr} {cs:Array Value} (P:Pat K p ca cs) {x:Str} (hn:NoneIn ((cs.map Builtin.Re.reRawOf).map (·.toNat)) x.cps x.cps.size) :
  CallTr prog w K btab k (.k (.builtin "re.Pattern.search")) [.k (.ref p),.d (.str x)] [] m nx (.d .none) m nx:=by
 refine call2 (act_same fun W A s tr Q E hA hS ⟨u,v,hu,hv,htr⟩ hq=>?_)
 subst htr
 obtain ⟨t,rfl⟩:=va_str hv
 cases hu
 obtain ⟨o,oc,fs,n,ho,hoc,hc,hdi,hd,h6,h5,hdc⟩:=P.at_ s.heap (hS.sta.all s.heap hS.base).1
 exact call_meets slot_search ⟨_,ho,hc⟩ entry_search (args_search _ _) (meets_search hd h6 h5 hdc P.first hn) ⟨ho,hoc,hq s.heap s.toks _ (Keeps.refl _) (.d .none)⟩
theorem value_at {κ:Type} [DecidableEq κ] {B:BM} {x:κ} {d:D}:∀ {kvs:List (κ × Value)} {l:List (κ × D)},kvs.map (·.1)=l.map (·.1)->VDs B (l.map (·.2)) (kvs.map (·.2))->l.lookup x=some d->∃ v,valueAt kvs x=some v /\ VD B d v
 | [],[],_,_,h=>by cases h
 | [],_ :: _,h,_,_=>by cases h
 | _ :: _,[],h,_,_=>by cases h
 | (a,v) :: kvs,(b,y) :: l,e,hv,h=>by
  simp only [List.map_cons,List.cons.injEq] at e
  obtain ⟨rfl,e⟩:=e
  cases hv with
  | cons h1 h2=>
   by_cases q:a=x
   ·subst q
    rw [List.lookup_cons,beq_self_eq_true] at h
    cases h
    exact ⟨v,by simp [valueAt],h1⟩
   ·rw [List.lookup_cons,beq_false_of_ne (Ne.symm q)] at h
    obtain ⟨v',e1,e2⟩:=value_at e h2 h
    exact ⟨v',by simp [valueAt,q] at e1 ⊢; exact e1,e2⟩
theorem i_dictS {n:Nat} {l:List (Str × D)} {i:Str} {x:D} (hn:n < nx) (hm:m n=.dictS l) (hx:l.lookup i=some x):ItemTr prog w K btab k (.loc n) (.d (.str i)) m nx (.d x) m nx:=by
 refine act_same fun W A s tr Q E hA hS ⟨vo,vi,value,slice,hsub,hvo,hvi,htr⟩ hq=>?_
 subst htr
 obtain ⟨t,rfl⟩:=va_str hvi
 cases hvo
 have ob:=hS.obj n hn
 rw [hm] at ob
 obtain ⟨kvs,hd,e1,e2,-⟩:=ob
 obtain ⟨v,e3,e4⟩:=value_at e1 e2 hx
 exact subT hd.typeIs PySem.F.slot_dict_getitem.lookup (wpAny_getItem_of (knd:=PySem.strKind prog w) (k:=i) (by show (i == i)=true; exact beq_self_eq_true i) hd.mapOf e3 (hq s.heap _ _ (Keeps.refl _) (.d e4))) (hsub _ _)
theorem value_none {κ:Type} [DecidableEq κ] {B:BM} {x:κ}:∀ {kvs:List (κ × Value)} {l:List (κ × D)},kvs.map (·.1)=l.map (·.1)->VDs B (l.map (·.2)) (kvs.map (·.2))->l.lookup x=none->valueAt kvs x=none
 | [],[],_,_,_=>rfl
 | [],_ :: _,h,_,_=>by cases h
 | _ :: _,[],h,_,_=>by cases h
 | (a,v) :: kvs,(b,y) :: l,e,hv,h=>by
  simp only [List.map_cons,List.cons.injEq] at e
  obtain ⟨rfl,e⟩:=e
  cases hv with
  | cons h1 h2=>
   by_cases q:a=x
   ·subst q
    rw [List.lookup_cons,beq_self_eq_true] at h
    cases h
   ·rw [List.lookup_cons,beq_false_of_ne (Ne.symm q)] at h
    have:=value_none e h2 h
    simp [valueAt,q] at this ⊢
    exact this
theorem some_at {κ:Type} [DecidableEq κ] {B:BM} {x:κ} {kvs:List (κ × Value)} {l:List (κ × D)} (e:kvs.map (·.1)=l.map (·.1)) (hv:VDs B (l.map (·.2)) (kvs.map (·.2))):(valueAt kvs x).isSome=(l.lookup x).isSome:=by
 cases q:l.lookup x with
 | none=>rw [value_none e hv q]; rfl
 | some d=>obtain ⟨v,e1,-⟩:=value_at e hv q; rw [e1]; rfl
end
end
section
variable {prog:Program} {w:World} {K:Frag} {btab:List (Str × Value)} {k:Nat}
end
section
open PyProof
section
variable {prog:Program} {w:World} {K:Frag} {btab:List (Str × Value)} {k:Nat} {m:Nat->MO} {nx:Nat}
noncomputable def storeD {κ:Type} [DecidableEq κ] (l:List (κ × D)) (x:κ) (d:D):List (κ × D):=
 if l.any (fun kv=>kv.1=x) then l.map (fun kv=>if kv.1=x then (kv.1,d) else kv) else l ++ [(x,d)]
theorem any_keys {κ:Type} [DecidableEq κ] {α β:Type} (x:κ):∀ {kvs:List (κ × α)} {l:List (κ × β)},kvs.map (·.1)=l.map (·.1)->kvs.any (fun kv=>kv.1=x)=l.any (fun kv=>kv.1=x)
 | [],[],_=>rfl
 | [],_ :: _,h=>by cases h
 | _ :: _,[],h=>by cases h
 | (a,v) :: kvs,(b,y) :: l,e=>by
  simp only [List.map_cons,List.cons.injEq] at e
  obtain ⟨rfl,e⟩:=e
  simp only [List.any_cons,any_keys x e]
theorem put_keys {κ:Type} [DecidableEq κ] {B:BM} {x:κ} {v:Value} {d:D} (hd:VD B d v):∀ {kvs:List (κ × Value)} {l:List (κ × D)},kvs.map (·.1)=l.map (·.1)->VDs B (l.map (·.2)) (kvs.map (·.2)) ->
  (kvs.map (fun kv=>if kv.1=x then (kv.1,v) else kv)).map (·.1)=(l.map (fun kv=>if kv.1=x then (kv.1,d) else kv)).map (·.1) /\
  VDs B ((l.map (fun kv=>if kv.1=x then (kv.1,d) else kv)).map (·.2)) ((kvs.map (fun kv=>if kv.1=x then (kv.1,v) else kv)).map (·.2))
 | [],[],_,_=>⟨rfl,.nil⟩
 | [],_ :: _,h,_=>by cases h
 | _ :: _,[],h,_=>by cases h
 | (a,u) :: kvs,(b,y) :: l,e,hv=>by
  simp only [List.map_cons,List.cons.injEq] at e
  obtain ⟨rfl,e⟩:=e
  cases hv with
  | cons h1 h2=>
   obtain ⟨i1,i2⟩:=put_keys (x:=x) hd e h2
   by_cases q:a=x
   ·subst q
    simp only [List.map_cons,if_true]
    exact ⟨by rw [i1],.cons hd i2⟩
   ·simp only [List.map_cons,if_neg q]
    exact ⟨by rw [i1],.cons h1 i2⟩
theorem store_at {κ:Type} [DecidableEq κ] {B:BM} {x:κ} {v:Value} {d:D} {kvs:List (κ × Value)} {l:List (κ × D)} (hd:VD B d v) (e:kvs.map (·.1)=l.map (·.1)) (hv:VDs B (l.map (·.2)) (kvs.map (·.2))) :
  (stored kvs x v).map (·.1)=(storeD l x d).map (·.1) /\ VDs B ((storeD l x d).map (·.2)) ((stored kvs x v).map (·.2)):=by
 unfold stored storeD
 rw [any_keys x e]
 split
 ·exact put_keys hd e hv
 ·simp only [List.map_append,List.map_cons,List.map_nil]
  exact ⟨by rw [e],hv.append (.cons hd .nil)⟩
theorem set_dictS {n:Nat} {l:List (Str × D)} {i:Str} {x:D} (hn:n < nx) (hm:m n=.dictS l) (hsz:l.length<=100000):SetItemTr prog w K btab k (.loc n) (.d (.str i)) (.d x) m nx (upd m n (.dictS (storeD l i x))) nx:=by
 intro W A s tr Q E hA hS _ ⟨vo,vi,vx,hvo,hvi,hvx,htr⟩ hq
 subst htr
 obtain ⟨t,rfl⟩:=va_str hvi
 cases hvo
 cases hvx with
 | d hd=>
  have ob:=hS.obj n hn
  rw [hm] at ob
  obtain ⟨kvs,hk,e1,e2,ne⟩:=ob
  have el:=congrArg List.length e1
  simp only [List.length_map] at el
  refine wpAny_setItem_pairs (knd:=PySem.strKind prog w) (k:=i) (by show (i == i)=true; exact beq_self_eq_true i) hk (fun h' h1 h2=>?_) (by rw [sizeLine_eq]; omega)
  obtain ⟨e3,e4⟩:=store_at (x:=i) hd e1 e2
  exact hq W h' _ () (Nat.le_refl _) (.refl _ _) (hS.put (mo:=.dictS (storeD l i x)) hn (by rw [hm]; exact fun z=>by cases z) h2.extBut ⟨_,h1,e3,e4,ne⟩) trivial
noncomputable def D.tyName:D->String
 | .none => "NoneType"
 | .bool _ => "bool"
 | .int _ => "int"
 | .str _ => "str"
 | .tup _ => "tuple"
 | .lst _ => "list"
 | .rng _ _ _ => "range"
noncomputable def D.tyOk:D->Bool
 | .int _=>true
 | .str _=>true
 | .tup _=>true
 | .lst _=>true
 | _=>false
theorem c_type {d:D} (h:d.tyOk=true):CallTr prog w K btab k (.k (.type "type")) [.d d] [] m nx (.k (.type d.tyName)) m nx:=by
 refine call1 (act_same fun W A s tr Q E hA hS ⟨v,hv,htr⟩ hq=>?_)
 subst htr
 have fin:s.TypeIs v d.tyName /\ (Value.type d.tyName == Value.type "builtin_function_or_method")=false:=by
  cases hv with
  | d hv=>
   induction hv using VD.casesOn with
   | int i t=>exact ⟨rfl,by simp only [D.tyName]; decide⟩
   | str x t=>exact ⟨rfl,by simp only [D.tyName]; decide⟩
   | lst ho _=>exact ⟨⟨_,hS.base _ _ ho,rfl⟩,by simp only [D.tyName]; decide⟩
   | tup ho _=>exact ⟨⟨_,hS.base _ _ ho,rfl⟩,by simp only [D.tyName]; decide⟩
   | _=>cases h
 exact call_type_of fin.1 fin.2 (hq s.heap s.toks _ (Keeps.refl _) (.k _))
end
class inductive Bd (N:Nat):AV->Prop
 | d (x:D):Bd N (.d x)
 | k (v:Value):Bd N (.k v)
 | loc {n:Nat} (h:n < N):Bd N (.loc n)
 | bm {f:Addr} {n:Nat} (h:n < N):Bd N (.bm f n)
 | fn {ps:Arguments} {e:PySem.Expr} {sc:Scope} {caps:List (Str × AV)} (h:∀ p ∈ caps,Bd N p.2):Bd N (.fn ps e sc caps)
theorem VA.bd {W:Wd} {nx:Nat} {a:AV} {v:Value} (h:VA W nx a v):Bd nx a:=by
 induction h with
 | d h=>exact .d _
 | loc h=>exact .loc h
 | k v=>exact .k v
 | bm h ho=>exact .bm h
 | fn ho hc hd hp hb hs h1 h2 hg hbu hcode hcell hv ih=>exact .fn ih
theorem VA.low {W:Wd} {nx nx':Nat} {a:AV} {v:Value} (h:VA W nx' a v) (b:Bd nx a):VA W nx a v:=by
 induction h with
 | d h=>exact .d h
 | loc h=>cases b with | loc h'=>exact .loc h'
 | k v=>exact .k v
 | bm h ho=>cases b with | bm h'=>exact .bm h' ho
 | fn ho hc hd hp hb hs h1 h2 hg hbu hcode hcell hv ih=>
  cases b with | fn h'=>exact .fn ho hc hd hp hb hs h1 h2 hg hbu hcode hcell fun p hp=>ih p hp (h' p hp)
theorem Bd.up {N N':Nat} (hn:N<=N') {a:AV} (h:Bd N a):Bd N' a:=by
 induction h with
 | d h=>exact .d _
 | loc h=>exact .loc (Nat.lt_of_lt_of_le h hn)
 | k v=>exact .k v
 | bm h=>exact .bm (Nat.lt_of_lt_of_le h hn)
 | fn h ih=>exact .fn ih
noncomputable def MBd (N:Nat):MO->Prop
 | .inst _ n=>n < N
 | .ns l=>∀ x av,l.lookup x=some av->Bd N av
 | .citer f _=>Bd N f
 | .view p=>p < N
 | _=>True
theorem MBd.up {N N':Nat} (hn:N<=N') {mo:MO} (h:MBd N mo):MBd N' mo:=by
 induction mo using MO.casesOn with
 | inst c n=>exact Nat.lt_of_lt_of_le h hn
 | ns l=>exact fun x av e=>(h x av e).up hn
 | citer f s=>exact Bd.up hn h
 | view p=>exact Nat.lt_of_lt_of_le h hn
 | _=>trivial
section
variable {prog:Program} {w:World} {K:Frag} {btab:List (Str × Value)}
theorem MOat.bd {W:Wd} {nx:Nat} {mo:MO} {a:Addr} {h:Heap} (x:MOat prog w W nx mo a h):MBd nx mo:=by
 induction mo using MO.casesOn with
 | inst c n=>exact x.2
 | ns l=>obtain ⟨m,_,_,v⟩:=x; exact fun y av e=>let ⟨_,_,q⟩:=v y av e; q.bd
 | citer f s=>obtain ⟨_,_,_,_,_,_,v⟩:=x; exact v.bd
 | view p=>exact x.2
 | _=>trivial
theorem MOat.low {W:Wd} {nx nx':Nat} {mo:MO} {a:Addr} {h:Heap} (x:MOat prog w W nx' mo a h) (b:MBd nx mo):MOat prog w W nx mo a h:=by
 cases mo with
 | list ds=>exact x
 | dictS ds=>exact x
 | dictI ds=>exact x
 | inst c n=>exact ⟨x.1,b⟩
 | ns ds=>obtain ⟨m,ho,n,v⟩:=x; exact ⟨m,ho,n,fun y av e=>let ⟨u,e1,e2⟩:=v y av e; ⟨u,e1,e2.low (b y av e)⟩⟩
 | citer f stop=>obtain ⟨o,vf,t,ho,r,e,v⟩:=x; exact ⟨o,vf,t,ho,r,e,v.low b⟩
 | cdone=>exact x
 | any=>exact x
 | tab c=>exact x
 | view p=>exact ⟨x.1,b⟩
 | junk=>trivial
structure Low (m:Nat->MO) (nx:Nat) (m':Nat->MO) (nx':Nat) (m₂:Nat->MO) (nx₂:Nat):Prop where
 h1:nx<=nx₂
 h2:nx₂<=nx'
 eq:∀ i,i < nx₂->m' i=m₂ i
 bd:∀ i,i < nx₂->(i < nx /\ m₂ i=m i) \/ MBd nx₂ (m₂ i)
theorem SInv.low {W W':Wd} {m m' m₂:Nat->MO} {nx nx' nx₂:Nat} {h h':Heap} (S:SInv prog w K btab W m nx h) (S':SInv prog w K btab W' m' nx' h') (L:Low m nx m' nx' m₂ nx₂):SInv prog w K btab W' m₂ nx₂ h':=by
 refine ⟨S'.base,S'.rest,S'.apart,fun n hn=>?_,fun n hn q=>?_,fun n hn q=>?_,fun n n' hn hn' q q'=>?_,S'.sta⟩
 ·have x:=S'.obj n (Nat.lt_of_lt_of_le hn L.h2)
  rw [L.eq n hn] at x
  refine x.low ?_
  rcases L.bd n hn with ⟨a,e⟩ | b
  ·rw [e]; exact (S.obj n a).bd.up L.h1
  ·exact b
 ·exact S'.nb n (Nat.lt_of_lt_of_le hn L.h2) (by rw [L.eq n hn]; exact q)
 ·exact S'.nr n (Nat.lt_of_lt_of_le hn L.h2) (by rw [L.eq n hn]; exact q)
 ·exact S'.inj n n' (Nat.lt_of_lt_of_le hn L.h2) (Nat.lt_of_lt_of_le hn' L.h2) (by rw [L.eq n hn]; exact q) (by rw [L.eq n' hn']; exact q')
theorem OwnAt.low {W':Wd} {m m' m₂:Nat->MO} {nx nx' nx₂:Nat} {a:Addr} (L:Low m nx m' nx' m₂ nx₂) (o:OwnAt W' m' nx' a):OwnAt W' m₂ nx₂ a:=
 ⟨o.b,o.r,fun n hn q=>o.i n (Nat.lt_of_lt_of_le hn L.h2) (by rw [L.eq n hn]; exact q)⟩
theorem FInv.caps_bd {W:Wd} {φ:Fm} {env:Env} {st:St} {h:Heap} (F:FInv W φ env st h) {x:Str} {av:AV} (e1:φ.sc.names.lookup x=some .free) (e2:φ.caps.lookup x=some av):Bd st.nx av:=by
 obtain ⟨cc,o,v,a1,a2,a3,a4⟩:=F.free x av e1 e2
 exact a4.bd
variable {k:Nat} {φ:Fm}
theorem CallTr.low {f:AV} {args:List AV} {kws:List (Str × AV)} {m:Nat->MO} {nx:Nat} {r:AV} {m':Nat->MO} {nx':Nat} (h:CallTr prog w K btab k f args kws m nx r m' nx') {m₂:Nat->MO} {nx₂:Nat} (L:Low m nx m' nx' m₂ nx₂) (b:Bd nx₂ r) :
  CallTr prog w K btab k f args kws m nx r m₂ nx₂:=by
 intro W A s tr Q E hA hS hc ht hq
 exact h W A s tr Q E hA hS hc ht fun W' h' tk' v _ l S' hv=>hq W' h' tk' v L.h1 l (hS.low S' L) (hv.low b)
theorem CodeTr.low {f:AV} {args:List AV} {kws:List (Str × AV)} {m:Nat->MO} {nx:Nat} {r:AV} {m':Nat->MO} {nx':Nat} (h:CodeTr prog w K btab k f args kws m nx r m' nx') {m₂:Nat->MO} {nx₂:Nat} (L:Low m nx m' nx' m₂ nx₂) (b:Bd nx₂ r) :
  CodeTr prog w K btab k f args kws m nx r m₂ nx₂:=by
 intro W A s R vf vs kvs hA hS h1 h2 h3 hq
 exact h W A s R vf vs kvs hA hS h1 h2 h3 fun W' h' tk' v _ l S' hv=>hq W' h' tk' v L.h1 l (hS.low S' L) (hv.low b)
noncomputable def FBd (N:Nat):Fl->Prop
 | .ret a=>Bd N a
 | _=>True
theorem FlR.low {W:Wd} {nx nx':Nat} {f:Fl} {g:Flow} (h:FlR W nx' f g) (b:FBd nx f):FlR W nx f g:=by
 cases f <;> cases g <;> first | exact h | exact VA.low h b
theorem Low.same {m m':Nat->MO} {nx nx':Nat} (h:nx<=nx') (e:∀ i,i < nx->m' i=m i):Low m nx m' nx' m nx:=⟨Nat.le_refl _,h,e,fun _ hi=>.inl ⟨hi,rfl⟩⟩
theorem ETr.back {e:PySem.Expr} {st:St} {r:AV} {m':Nat->MO} {nx':Nat} (h:ETr prog w K btab k φ e st r ⟨st.vars,st.fz,m',nx'⟩) (hn:st.nx<=nx') (he:∀ i,i < st.nx->m' i=st.m i) (hb:Bd st.nx r):ETr prog w K btab k φ e st r st:=by
 have L:Low st.m st.nx m' nx' st.m st.nx:=.same hn he
 intro W A env s Q E hA hS hF hc hq
 exact h W A env s Q E hA hS hF hc fun W' h' tk' v n l S' F' r=>by
  refine hq W' h' tk' v L.h1 l (hS.low S' L) ?_ (r.low hb)
  obtain ⟨mm,hns,hm⟩:=F'.locs
  obtain ⟨mm0,hns0,hm0⟩:=hF.locs
  refine ⟨F'.scope,F'.kind,F'.globals,F'.builtins,F'.frame,F'.code,F'.own.low L,⟨mm,hns,fun x av e1 e2=>?_⟩,fun x hx=>?_,fun x av e1 e2=>?_⟩
  ·obtain ⟨v,q1,q2⟩:=hm x av e1 e2
   obtain ⟨v0,_,q0⟩:=hm0 x av e1 e2
   exact ⟨v,q1,q2.low q0.bd⟩
  ·obtain ⟨cc,e,q⟩:=F'.cells x hx
   obtain ⟨cc0,e0,q0⟩:=hF.cells x hx
   have bb:∀ av,st.vars.lookup x=some av->Bd st.nx av:=fun av ha=>by
    rcases q0 with ⟨_,q2⟩ | ⟨_,_,_,_,ov,_,q6⟩
    ·obtain ⟨_,_,_,_,z⟩:=q2 av ha; exact z.bd
    ·obtain ⟨_,_,z⟩:=q6 av ha; exact z.bd
   refine ⟨cc,e,?_⟩
   rcases q with ⟨q1,q2⟩ | ⟨q1,q2,q3,q4,ov,hc,q6⟩
   ·exact .inl ⟨q1,fun av e=>let ⟨o,v,a1,a2,a3⟩:=q2 av e; ⟨o,v,a1,a2,a3.low (bb av e)⟩⟩
   ·exact .inr ⟨q1,q2.low L,q3,q4,ov,hc,fun av e=>let ⟨v,a1,a2⟩:=q6 av e; ⟨v,a1,a2.low (bb av e)⟩⟩
  ·obtain ⟨cc,o,v,a1,a2,a3,a4⟩:=F'.free x av e1 e2
   exact ⟨cc,o,v,a1,a2,a3,a4.low (hF.caps_bd e1 e2)⟩
end
noncomputable def VSub (V V':List (Str × AV)):Prop:=∀ x av,V.lookup x=some av->V'.lookup x=some av
theorem VSub.refl (V:List (Str × AV)):VSub V V:=fun _ _ e=>e
theorem VSub.trans {V V' V'':List (Str × AV)} (a:VSub V V') (b:VSub V' V''):VSub V V'':=fun x av e=>b x av (a x av e)
theorem upd_same {α:Type} (m:Nat->α) (n:Nat) (a b:α):upd (upd m n a) n b=upd m n b:=by
 funext i; unfold upd; split <;> rfl
theorem upd_comm {α:Type} (m:Nat->α) {n j:Nat} (h:n ≠ j) (a b:α):upd (upd m n a) j b=upd (upd m j b) n a:=by
 funext i; unfold upd; split <;> split <;> first | rfl | (subst_vars; exact absurd rfl h)
theorem upd_id {α:Type} (m:Nat->α) (n:Nat) {a:α} (h:m n=a):upd m n a=m:=by
 funext i; unfold upd; split
 ·subst_vars; rfl
 ·rfl
section
variable {prog:Program} {w:World} {K:Frag} {btab:List (Str × Value)} {k:Nat} {φ:Fm}
theorem FInv.sub {W:Wd} {env:Env} {V V':List (Str × AV)} {fz:List Str} {m:Nat->MO} {nx:Nat} {h:Heap} (F:FInv W φ env ⟨V',fz,m,nx⟩ h) (s:VSub V V'):FInv W φ env ⟨V,fz,m,nx⟩ h:=by
 obtain ⟨mm,hns,hm⟩:=F.locs
 refine ⟨F.scope,F.kind,F.globals,F.builtins,F.frame,F.code,F.own,⟨mm,hns,fun x av e1 e2=>hm x av e1 (s x av e2)⟩,fun x hx=>?_,F.free⟩
 obtain ⟨cc,e,q⟩:=F.cells x hx
 refine ⟨cc,e,?_⟩
 rcases q with ⟨q1,q2⟩ | ⟨q1,q2,q3,q4,ov,hc,q6⟩
 ·exact .inl ⟨q1,fun av e=>q2 av (s x av e)⟩
 ·exact .inr ⟨q1,q2,q3,q4,ov,hc,fun av e=>q6 av (s x av e)⟩
theorem Tri.pre {β:Type} {C:Wd->Nat->Prop} {t:Env->Sem β} {V V':List (Str × AV)} {fz:List Str} {m:Nat->MO} {nx:Nat} {st':St} {P:Wd->β->Prop} (h:Tri prog w K btab k φ C t ⟨V,fz,m,nx⟩ st' P) (s:VSub V V'):Tri prog w K btab k φ C t ⟨V',fz,m,nx⟩ st' P:=
 fun W A env sh Q E hA hS hF hc hq=>h W A env sh Q E hA hS (hF.sub s) hc hq
theorem ETr.pre {e:PySem.Expr} {V V':List (Str × AV)} {fz:List Str} {m:Nat->MO} {nx:Nat} {st':St} {r:AV} (h:ETr prog w K btab k φ e ⟨V,fz,m,nx⟩ r st') (s:VSub V V'):ETr prog w K btab k φ e ⟨V',fz,m,nx⟩ r st':=Tri.pre h s
theorem TTr.pre {e:PySem.Expr} {V V':List (Str × AV)} {fz:List Str} {m:Nat->MO} {nx:Nat} {st':St} {r:Bool} (h:TTr prog w K btab k φ e ⟨V,fz,m,nx⟩ r st') (s:VSub V V'):TTr prog w K btab k φ e ⟨V',fz,m,nx⟩ r st':=Tri.pre h s
theorem BTr.pre {b:List Stmt} {V V':List (Str × AV)} {fz:List Str} {m:Nat->MO} {nx:Nat} {st':St} {r:Fl} (h:BTr prog w K btab k φ b ⟨V,fz,m,nx⟩ r st') (s:VSub V V'):BTr prog w K btab k φ b ⟨V',fz,m,nx⟩ r st':=Tri.pre h s
theorem DSrc.lay {m:Nat->MO} {nx:Nat} {a:AV} {ds:List D} {mo:MO} (h:DSrc m nx a ds):DSrc (upd m nx mo) (nx+1) a ds:=by
 induction a using AV.casesOn with
 | loc n=>exact ⟨Nat.lt_succ_of_lt h.1,by rw [upd_ne _ _ _ (Nat.ne_of_lt h.1)]; exact h.2⟩
 | d x=>induction x using D.casesOn <;> exact h
 | _=>exact h
noncomputable def TgtOk {α:Type} (φ:Fm) (t:PySem.Expr) (gD:α->D) (V0:List (Str × AV)) (V:α->List (Str × AV)) (xs:List α):Prop:=
 ∀ x ∈ xs,VSub V0 (V x) /\ ∀ (V1:List (Str × AV)) (fz:List Str) (m:Nat->MO) (nx:Nat),VSub V0 V1->∃ V2,gTgt φ t (gD x) ⟨V1,fz,m,nx⟩ []=some ((),⟨V2,fz,m,nx⟩,[],[]) /\ VSub (V x) V2
theorem setv_sub {x:Str} {a:AV} {V V1:List (Str × AV)} (h:VSub V V1):VSub ((x,a) :: V) (setv x a V1):=by
 intro y av e
 rw [setv_lookup]
 rw [List.lookup_cons] at e
 by_cases q:y=x
 ·subst q; rw [if_pos rfl]; simpa using e
 ·rw [if_neg q]
  rw [beq_false_of_ne q] at e
  exact h y av e
theorem cons_sub {x:Str} {a:AV} {V:List (Str × AV)} (h:V.lookup x=none):VSub V ((x,a) :: V):=by
 intro y av e
 rw [List.lookup_cons]
 by_cases q:y=x
 ·subst q; rw [h] at e; cases e
 ·rw [beq_false_of_ne q]; exact e
noncomputable def nameOf:PySem.Expr->Str
 | .Name x _=>x
 | _=>Str.empty
theorem isNm_of {t:PySem.Expr}:isNm t=true->∃ y p,t=.Name y p:=by
 induction t using PySem.Expr.casesOn with
 | Name y p=>exact fun _=>⟨y,p,rfl⟩
 | _=>exact fun h=>Internal.ft h
theorem nm_gTgt {t:PySem.Expr} (hn:isNm t=true) (hl:φ.sc.names.lookup (nameOf t)=some .local) (d:D) (st:St):gTgt φ t d st []=some ((),{ st with vars:=setv (nameOf t) (.d d) st.vars },[],[]):=by
 obtain ⟨y,p,rfl⟩:=isNm_of hn
 show gStore φ y (.d d) st []=_
 unfold gStore
 rw [show φ.sc.names.lookup y=some .local from hl]
 rfl
theorem tgt_name {α:Type} {t:PySem.Expr} {gD:α->D} {V0:List (Str × AV)} {xs:List α} (hn:isNm t=true) (hl:φ.sc.names.lookup (nameOf t)=some .local) (h0:V0.lookup (nameOf t)=none) :
  TgtOk φ t gD V0 (fun x=>(nameOf t,.d (gD x)) :: V0) xs:=by
 intro x _
 exact ⟨cons_sub h0,fun V1 fz m nx hV=>⟨setv (nameOf t) (.d (gD x)) V1,nm_gTgt hn hl _ _,setv_sub hV⟩⟩
noncomputable def tupOf:PySem.Expr->List Str
 | .Tuple es _ _=>(tupNames es).getD []
 | _=>[]
noncomputable def tupOk:PySem.Expr->Bool
 | .Tuple es _ _=>(tupNames es).isSome
 | _=>false
theorem gStores_some:∀ (xs:List Str) (ds:List D) (V1:List (Str × AV)) (fz:List Str) (m:Nat->MO) (nx:Nat) (V:List (Str × AV)),(∀ x ∈ xs,φ.sc.names.lookup x=some .local)->xs.length=ds.length->VSub V V1 ->
  ∃ V2,gStores φ xs ds ⟨V1,fz,m,nx⟩ []=some ((),⟨V2,fz,m,nx⟩,[],[]) /\ VSub ((xs.zip (ds.map AV.d)).reverse ++ V) V2
 | [],[],V1,fz,m,nx,V,_,_,hV=>⟨V1,rfl,hV⟩
 | x :: xs,d :: ds,V1,fz,m,nx,V,hl,hlen,hV=>by
  obtain ⟨V2,e,s⟩:=gStores_some xs ds (setv x (.d d) V1) fz m nx ((x,.d d) :: V) (fun y hy=>hl y (List.mem_cons_of_mem _ hy)) (by simpa using hlen) (setv_sub hV)
  refine ⟨V2,?_,?_⟩
  ·show (G.bind (gStore φ x (.d d)) fun _=>gStores φ xs ds) _ _=_
   unfold G.bind gStore
   rw [hl x (List.mem_cons_self ..)]
   dsimp only
   rw [e]
   rfl
  ·rw [List.map_cons,List.zip_cons_cons,List.reverse_cons,List.append_assoc]
   exact s
 | [],_ :: _,_,_,_,_,_,_,h,_=>by cases h
 | _ :: _,[],_,_,_,_,_,_,h,_=>by cases h
theorem tup_gTgt {t:PySem.Expr}:tupOk t=true->∀ ds:List D,gTgt φ t (.tup ds)=gStores φ (tupOf t) ds /\ gTgt φ t (.lst ds)=gStores φ (tupOf t) ds:=by
 induction t using PySem.Expr.casesOn with
 | Tuple es c p=>
  intro hn ds
  obtain ⟨ns,hns⟩:=Option.isSome_iff_exists.mp (show (tupNames es).isSome=true from hn)
  have e0:tupOf (.Tuple es c p)=ns:=by show (tupNames es).getD []=ns; rw [hns]; rfl
  rw [e0]
  refine ⟨?_,?_⟩
  ·show gOpt (tupNames es) (fun xs=>gOpt (seqOf (.d (.tup ds))) (fun ds=>gStores φ xs ds) G.fail) G.fail=_
   rw [hns]
   rfl
  ·show gOpt (tupNames es) (fun xs=>gOpt (seqOf (.d (.lst ds))) (fun ds=>gStores φ xs ds) G.fail) G.fail=_
   rw [hns]
   rfl
 | _=>exact fun h=>Internal.ft h
theorem tgt_tup {α:Type} {t:PySem.Expr} {gs:α->List D} {V0:List (Str × AV)} {xs:List α} (hn:tupOk t=true) (hl:∀ x ∈ tupOf t,φ.sc.names.lookup x=some .local) (hlen:∀ x ∈ xs,(tupOf t).length=(gs x).length) {V:α->List (Str × AV)}
  (h0:∀ x ∈ xs,VSub V0 (V x)) (hV:∀ x ∈ xs,VSub (V x) (((tupOf t).zip ((gs x).map AV.d)).reverse ++ V0)):TgtOk φ t (fun x=>.tup (gs x)) V0 V xs:=by
 intro x hx
 refine ⟨h0 x hx,fun V1 fz m nx hV1=>?_⟩
 obtain ⟨V2,e,s⟩:=gStores_some (φ:=φ) (tupOf t) (gs x) V1 fz m nx V0 hl (hlen x hx) hV1
 exact ⟨V2,(congrFun (congrFun (tup_gTgt hn _).1 _) _).trans e,(hV x hx).trans s⟩
theorem cloop_pure {α:Type} {step:D->St->St->Prop} {a:AV} {ds0:List D} {V0:List (Str × AV)} {fz:List Str} {m:Nat->MO} {n0:Nat} {gD:α->D} {acc:α->List D} (hd:DSrc m n0 a ds0):∀ (xs:List α) (V1:List (Str × AV)) (l:List D),VSub V0 V1 ->
  l.length+(xs.flatMap acc).length<=100000 ->
  (∀ x ∈ xs,∀ V1 l,VSub V0 V1->l.length+(acc x).length<=100000->∃ V2,VSub V0 V2 /\ step (gD x) ⟨V1,fz,upd m n0 (.list l),n0+1⟩ ⟨V2,fz,upd m n0 (.list (l ++ acc x)),n0+1⟩) ->
  ∃ V2,VSub V0 V2 /\ CLoop step a ds0 (xs.map gD) ⟨V1,fz,upd m n0 (.list l),n0+1⟩ ⟨V2,fz,upd m n0 (.list (l ++ xs.flatMap acc)),n0+1⟩
 | [],V1,l,hV,_,_=>⟨V1,hV,by rw [List.flatMap_nil,List.append_nil]; exact .nil hd.lay⟩
 | x :: xs,V1,l,hV,hsz,hs=>by
  rw [List.flatMap_cons,List.length_append] at hsz
  obtain ⟨V2,h2,s2⟩:=hs x (List.mem_cons_self ..) V1 l hV (by omega)
  obtain ⟨V3,h3,s3⟩:=cloop_pure (V0:=V0) hd xs V2 (l ++ acc x) h2 (by rw [List.length_append]; omega) fun y hy=>hs y (List.mem_cons_of_mem _ hy)
  refine ⟨V3,h3,?_⟩
  rw [List.flatMap_cons,<- List.append_assoc]
  exact .cons hd.lay s2 s3
noncomputable def IfsOk {α:Type} (prog:Program) (w:World) (K:Frag) (btab:List (Str × Value)) (k:Nat) (φ:Fm) (ifs:List PySem.Expr) (V:α->List (Str × AV)) (fz:List Str) (m:Nat->MO) (n0:Nat) (p:α->Bool) (xs:List α):Prop:=
 (ifs = [] /\ ∀ x ∈ xs,p x=true) \/ ∃ c,ifs = [c] /\ ∀ x ∈ xs,∀ l,TTr prog w K btab k φ c ⟨V x,fz,upd m n0 (.list l),n0+1⟩ (p x) ⟨V x,fz,upd m n0 (.list l),n0+1⟩
theorem cstep_pure {α:Type} {g:Comprehension} {inner:St->St->Prop} {gD:α->D} {V0:List (Str × AV)} {V:α->List (Str × AV)} {fz:List Str} {m:Nat->MO} {n0:Nat} {p:α->Bool} {acc:α->List D} {xs:List α} (ht:TgtOk φ g.target gD V0 V xs)
  (hi:IfsOk prog w K btab k φ g.ifs V fz m n0 p xs) (hin:∀ x ∈ xs,p x=true->∀ V1 l,VSub (V x) V1->l.length+(acc x).length<=100000->∃ V2,VSub V0 V2 /\ inner ⟨V1,fz,upd m n0 (.list l),n0+1⟩ ⟨V2,fz,upd m n0 (.list (l ++ acc x)),n0+1⟩) :
  ∀ x ∈ xs,∀ V1 l,VSub V0 V1->l.length+(if p x then acc x else []).length<=100000->∃ V2,VSub V0 V2 /\ CStep prog w K btab k φ g inner (gD x) ⟨V1,fz,upd m n0 (.list l),n0+1⟩ ⟨V2,fz,upd m n0 (.list (l ++ if p x then acc x else [])),n0+1⟩:=by
 intro x hx V1 l hV hsz
 obtain ⟨h0,ht⟩:=ht x hx
 obtain ⟨V2,e,s⟩:=ht V1 fz (upd m n0 (.list l)) (n0+1) hV
 rcases hi with ⟨hi,hp⟩ | ⟨c,hi,hc⟩
 ·rw [hp x hx] at hsz ⊢
  simp only [if_true] at hsz ⊢
  obtain ⟨V3,q1,q2⟩:=hin x hx (hp x hx) V2 l s hsz
  exact ⟨V3,q1,_,e,.inl ⟨hi,q2⟩⟩
 ·cases hp:p x with
  | true=>
   rw [hp] at hsz
   simp only [if_true] at hsz ⊢
   obtain ⟨V3,q1,q2⟩:=hin x hx hp (V x) l (.refl _) hsz
   have:=(hc x hx l).pre s
   rw [hp] at this
   exact ⟨V3,q1,_,e,.inr ⟨c,_,true,hi,this,.inl ⟨rfl,q2⟩⟩⟩
  | false=>
   refine ⟨V x,h0,_,e,.inr ⟨c,_,false,hi,?_,.inr ⟨rfl,rfl⟩⟩⟩
   have:=(hc x hx l).pre s
   rw [hp] at this
   simpa using this
theorem cemit_pure {elt:PySem.Expr} {V V1:List (Str × AV)} {fz:List Str} {m:Nat->MO} {n0:Nat} {r:D} {l:List D} (h:ETr prog w K btab k φ elt ⟨V,fz,upd m n0 (.list l),n0+1⟩ (.d r) ⟨V,fz,upd m n0 (.list l),n0+1⟩) (s:VSub V V1) (hsz:l.length+1<=100000) :
  CEmit prog w K btab k φ n0 elt ⟨V1,fz,upd m n0 (.list l),n0+1⟩ ⟨V,fz,upd m n0 (.list (l ++ [r])),n0+1⟩:=
 ⟨r,_,l,h.pre s,Nat.lt_succ_self _,upd_at _ _ _,hsz,by rw [upd_same]⟩
theorem flat_if {α β:Type} (p:α->Bool) (f:α->β):∀ xs:List α,xs.flatMap (fun x=>if p x then [f x] else [])=(xs.filter p).map f
 | []=>rfl
 | x :: xs=>by
  rw [List.flatMap_cons,flat_if p f xs]
  cases h:p x with
  | true=>rw [List.filter_cons_of_pos h]; rfl
  | false=>rw [List.filter_cons_of_neg (by rw [h]; exact Bool.false_ne_true)]; rfl
theorem flat_le {α β:Type} {n:Nat} {acc:α->List β}:∀ {xs:List α},(∀ x ∈ xs,(acc x).length<=n)->(xs.flatMap acc).length<=xs.length * n
 | [],_=>by simp
 | x :: xs,h=>by
  rw [List.flatMap_cons,List.length_append,List.length_cons,Nat.add_mul]
  have:=h x (List.mem_cons_self ..)
  have:=flat_le (xs:=xs) fun y hy=>h y (List.mem_cons_of_mem _ hy)
  omega
theorem loop1 {α:Type} {c:PySem.Expr} {st:St} {a:AV} {xs:List α} {gD:α->D} {p:α->Bool} {f:α->D} {V:α->List (Str × AV)} (hr:lcRest c = []) (hd:DSrc st.m st.nx a (xs.map gD))
  (ht:TgtOk (compFm φ (lcScope c)) (lcFirst c).target gD (compVars φ st.vars (lcScope c)) V xs)
  (hi:IfsOk prog w K btab k (compFm φ (lcScope c)) (lcFirst c).ifs V (compFz φ (lcScope c)) st.m st.nx p xs)
  (he:∀ x ∈ xs,p x=true->∀ l,ETr prog w K btab k (compFm φ (lcScope c)) (lcElt c) ⟨V x,compFz φ (lcScope c),upd st.m st.nx (.list l),st.nx+1⟩ (.d (f x)) ⟨V x,compFz φ (lcScope c),upd st.m st.nx (.list l),st.nx+1⟩)
  (hsz:xs.length<=100000):∃ V2,CLoop (CStep prog w K btab k (compFm φ (lcScope c)) (lcFirst c) (CInner prog w K btab k (compFm φ (lcScope c)) st.nx (lcElt c) (lcRest c))) a (xs.map gD) (xs.map gD) (compSt φ st (lcScope c))
   ⟨V2,compFz φ (lcScope c),upd st.m st.nx (.list ((xs.filter p).map f)),st.nx+1⟩:=by
 rw [hr]
 have hlen:([]:List D).length+(xs.flatMap fun x=>if p x then [f x] else []).length<=100000:=by
  have:=flat_le (n:=1) (acc:=fun x=>if p x then [f x] else []) (xs:=xs) fun x _=>by split <;> simp
  rw [List.length_nil]
  omega
 obtain ⟨V2,-,h⟩:=cloop_pure (fz:=compFz φ (lcScope c)) (acc:=fun x=>if p x then [f x] else []) (step:=CStep prog w K btab k (compFm φ (lcScope c)) (lcFirst c) (CInner prog w K btab k (compFm φ (lcScope c)) st.nx (lcElt c) [])) hd xs (compVars φ st.vars (lcScope c)) [] (.refl _) hlen
  (cstep_pure (acc:=fun x=>[f x]) ht hi fun x hx hp V1 l hV hs=>⟨V x,(ht x hx).1,cemit_pure (he x hx hp l) hV hs⟩)
 rw [flat_if,List.nil_append] at h
 exact ⟨V2,h⟩
theorem inner_pure {β:Type} {g:Comprehension} {elt:PySem.Expr} {V:List (Str × AV)} {fz:List Str} {m:Nat->MO} {n0:Nat} {a:AV} {ys:List β} {gD:β->D} {p:β->Bool} {f:β->D} {V':β->List (Str × AV)} (hns:noSet g.iter=true) (has:g.is_async=0)
  (hit:∀ l,ETr prog w K btab k φ g.iter ⟨V,fz,upd m n0 (.list l),n0+1⟩ a ⟨V,fz,upd m n0 (.list l),n0+1⟩) (hd:DSrc m n0 a (ys.map gD)) (ht:TgtOk φ g.target gD V V' ys) (hi:IfsOk prog w K btab k φ g.ifs V' fz m n0 p ys)
  (he:∀ y ∈ ys,p y=true->∀ l,ETr prog w K btab k φ elt ⟨V' y,fz,upd m n0 (.list l),n0+1⟩ (.d (f y)) ⟨V' y,fz,upd m n0 (.list l),n0+1⟩) :
  ∀ V1 l,VSub V V1->l.length+((ys.filter p).map f).length<=100000->∃ V2,VSub V V2 /\ CInner prog w K btab k φ n0 elt [g] ⟨V1,fz,upd m n0 (.list l),n0+1⟩ ⟨V2,fz,upd m n0 (.list (l ++ (ys.filter p).map f)),n0+1⟩:=by
 intro V1 l hV hsz
 rw [<- flat_if] at hsz ⊢
 obtain ⟨V2,h2,h⟩:=cloop_pure (fz:=fz) (acc:=fun x=>if p x then [f x] else []) (step:=CStep prog w K btab k φ g (CInner prog w K btab k φ n0 elt [])) hd ys V l (.refl _) hsz
  (cstep_pure (acc:=fun x=>[f x]) ht hi fun x hx hp V1 l hV hs=>⟨V' x,(ht x hx).1,cemit_pure (he x hx hp l) hV hs⟩)
 exact ⟨V2,h2,a,_,ys.map gD,hns,has,(hit l).pre hV,hd.lay,h⟩
theorem loop2 {α β:Type} {c:PySem.Expr} {st:St} {a:AV} {xs:List α} {gD:α->D} {V:α->List (Str × AV)} {g:Comprehension} {a2:α->AV} {ys:α->List β} {gD2:α->β->D} {V2:α->β->List (Str × AV)} {p:α->β->Bool} {f:α->β->D} (hr:lcRest c = [g]) (hd:DSrc st.m st.nx a (xs.map gD))
  (ht:TgtOk (compFm φ (lcScope c)) (lcFirst c).target gD (compVars φ st.vars (lcScope c)) V xs) (hi:(lcFirst c).ifs = []) (hns:noSet g.iter=true) (has:g.is_async=0)
  (hit:∀ x ∈ xs,∀ l,ETr prog w K btab k (compFm φ (lcScope c)) g.iter ⟨V x,compFz φ (lcScope c),upd st.m st.nx (.list l),st.nx+1⟩ (a2 x) ⟨V x,compFz φ (lcScope c),upd st.m st.nx (.list l),st.nx+1⟩)
  (hd2:∀ x ∈ xs,DSrc st.m st.nx (a2 x) ((ys x).map (gD2 x))) (ht2:∀ x ∈ xs,TgtOk (compFm φ (lcScope c)) g.target (gD2 x) (V x) (V2 x) (ys x))
  (hi2:∀ x ∈ xs,IfsOk prog w K btab k (compFm φ (lcScope c)) g.ifs (V2 x) (compFz φ (lcScope c)) st.m st.nx (p x) (ys x))
  (he:∀ x ∈ xs,∀ y ∈ ys x,p x y=true->∀ l,ETr prog w K btab k (compFm φ (lcScope c)) (lcElt c) ⟨V2 x y,compFz φ (lcScope c),upd st.m st.nx (.list l),st.nx+1⟩ (.d (f x y)) ⟨V2 x y,compFz φ (lcScope c),upd st.m st.nx (.list l),st.nx+1⟩)
  (hsz:(xs.flatMap fun x=>((ys x).filter (p x)).map (f x)).length<=100000):∃ V2,CLoop (CStep prog w K btab k (compFm φ (lcScope c)) (lcFirst c) (CInner prog w K btab k (compFm φ (lcScope c)) st.nx (lcElt c) (lcRest c))) a (xs.map gD) (xs.map gD) (compSt φ st (lcScope c))
   ⟨V2,compFz φ (lcScope c),upd st.m st.nx (.list (xs.flatMap fun x=>((ys x).filter (p x)).map (f x))),st.nx+1⟩:=by
 rw [hr]
 obtain ⟨V3,-,h⟩:=cloop_pure (fz:=compFz φ (lcScope c)) (acc:=fun x=>((ys x).filter (p x)).map (f x)) (step:=CStep prog w K btab k (compFm φ (lcScope c)) (lcFirst c) (CInner prog w K btab k (compFm φ (lcScope c)) st.nx (lcElt c) [g])) hd xs (compVars φ st.vars (lcScope c)) [] (.refl _) (by rw [List.length_nil]; omega)
  (fun x hx V1 l hV hs=>by
   have:=cstep_pure (p:=fun _=>true) (acc:=fun x=>((ys x).filter (p x)).map (f x)) (inner:=CInner prog w K btab k (compFm φ (lcScope c)) st.nx (lcElt c) [g]) (prog:=prog) (w:=w) (K:=K) (btab:=btab) (k:=k) (fz:=compFz φ (lcScope c)) (m:=st.m) (n0:=st.nx) ht (.inl ⟨hi,fun _ _=>rfl⟩)
    (fun x hx _ V1 l hV hs=>by
     obtain ⟨V4,h4,h5⟩:=inner_pure hns has (hit x hx) (hd2 x hx) (ht2 x hx) (hi2 x hx) (he x hx) V1 l hV hs
     exact ⟨V4,(ht x hx).1.trans h4,h5⟩) x hx V1 l hV (by simpa using hs)
   simpa using this)
 rw [List.nil_append] at h
 exact ⟨V3,h⟩
theorem ETr.ofLoop {c:PySem.Expr} {st:St} {a:AV} {ds l:List D} (hc:lcOk φ c=true) (first:ETr prog w K btab k φ (lcFirst c).iter st a st) (hd:DSrc st.m st.nx a ds)
  (h:∃ V2,CLoop (CStep prog w K btab k (compFm φ (lcScope c)) (lcFirst c) (CInner prog w K btab k (compFm φ (lcScope c)) st.nx (lcElt c) (lcRest c))) a ds ds (compSt φ st (lcScope c)) ⟨V2,compFz φ (lcScope c),upd st.m st.nx (.list l),st.nx+1⟩):ETr prog w K btab k φ c st (.d (.lst l)) st:=by
 obtain ⟨V2,h⟩:=h
 have:=ETr.comp hc first hd h (upd_at _ _ _) true
 exact ETr.back (m':=upd (upd st.m st.nx (.list l)) st.nx .junk) (nx':=st.nx+1) this (Nat.le_succ _) (fun i hi=>by rw [upd_ne _ _ _ (Nat.ne_of_lt hi),upd_ne _ _ _ (Nat.ne_of_lt hi)]) (.d _)
theorem STr.ofLoop {s:Stmt} {st st':St} {a:AV} {ds l:List D} (has:asChk s=true) (hc:lcOk φ (asVal s)=true) (first:ETr prog w K btab k φ (lcFirst (asVal s)).iter st a st) (hd:DSrc st.m st.nx a ds)
  (h:∃ V2,CLoop (CStep prog w K btab k (compFm φ (lcScope (asVal s))) (lcFirst (asVal s)) (CInner prog w K btab k (compFm φ (lcScope (asVal s))) st.nx (lcElt (asVal s)) (lcRest (asVal s)))) a ds ds (compSt φ st (lcScope (asVal s))) ⟨V2,compFz φ (lcScope (asVal s)),upd st.m st.nx (.list l),st.nx+1⟩)
  (hst:gStore φ (asName s) (.d (.lst l)) { st with m:=upd st.m st.nx .junk,nx:=st.nx+1 } []=some ((),st',[],[])):STr prog w K btab k φ s st .next st':=by
 obtain ⟨V2,h⟩:=h
 refine STr.comp_ has hc first hd h (upd_at _ _ _) true ?_
 show gStore φ (asName s) (.d (.lst l)) { st with m:=upd (upd st.m st.nx (.list l)) st.nx .junk,nx:=st.nx+1 } []=_
 rw [upd_same]
 exact hst
theorem STr.ofLoopN {s:Stmt} {st st':St} {a:AV} {ds l:List D} (has:asChk s=true) (hc:lcOk φ (asVal s)=true) (first:ETr prog w K btab k φ (lcFirst (asVal s)).iter st a st) (hd:DSrc st.m st.nx a ds)
  (h:∃ V2,CLoop (CStep prog w K btab k (compFm φ (lcScope (asVal s))) (lcFirst (asVal s)) (CInner prog w K btab k (compFm φ (lcScope (asVal s))) st.nx (lcElt (asVal s)) (lcRest (asVal s)))) a ds ds (compSt φ st (lcScope (asVal s))) ⟨V2,compFz φ (lcScope (asVal s)),upd st.m st.nx (.list l),st.nx+1⟩)
  (hst:gStore φ (asName s) (.loc st.nx) { st with m:=upd st.m st.nx (.list l),nx:=st.nx+1 } []=some ((),st',[],[])):STr prog w K btab k φ s st .next st':=by
 obtain ⟨V2,h⟩:=h
 exact STr.comp_ has hc first hd h (upd_at _ _ _) false hst
structure EvO where
 ev:List Ev
 ob:List Prop
 h:AllP ob
noncomputable def evsOf (l:List EvO):List Ev:=l.flatMap EvO.ev
noncomputable def obsOf (l:List EvO):List Prop:=l.flatMap EvO.ob
theorem AllP.append {a b:List Prop} (x:AllP a) (y:AllP b):AllP (a ++ b):=by
 induction x with
 | nil=>exact y
 | cons h r ih=>exact .cons h ih
theorem allOf:∀ l:List EvO,AllP (obsOf l)
 | []=>.nil
 | x :: r=>by
  show AllP (List.flatMap EvO.ob (x :: r))
  rw [List.flatMap_cons]
  exact x.h.append (allOf r)
@[irreducible] noncomputable def exsI:=@exs
@[irreducible] noncomputable def evI:=@ev
@[irreducible] noncomputable def tvI:=@tv
theorem BTr.runE (n:Nat) {b:List Stmt} {st st':St} {fl:Fl} (l:List EvO) (e:exsI prog w K btab k n φ b st (evsOf l)=some (fl,st',[],obsOf l)):BTr prog w K btab k φ b st fl st':=by
 unfold exsI at e
 exact BTr.run n _ e (allOf l)
theorem ETr.runE (n:Nat) {e:PySem.Expr} {st st':St} {a:AV} (l:List EvO) (ev:evI prog w K btab k n φ e st (evsOf l)=some (a,st',[],obsOf l)):ETr prog w K btab k φ e st a st':=by
 unfold evI at ev
 exact ETr.run n _ ev (allOf l)
theorem TTr.runE (n:Nat) {e:PySem.Expr} {st st':St} {a:Bool} (l:List EvO) (ev:tvI prog w K btab k n φ e st (evsOf l)=some (a,st',[],obsOf l)):TTr prog w K btab k φ e st a st':=by
 unfold tvI at ev
 exact TTr.run n _ ev (allOf l)
theorem STr.forE {c:Stmt} {st st0 st':St} {fl:Fl} {a:AV} {ds:List D} (hc:forChk c=true) (hns:noSet (forIter c)=true) (n:Nat) (l:List EvO) (e:evI prog w K btab k n φ (forIter c) st (evsOf l)=some (a,st0,[],obsOf l))
  (hd:DSrc st0.m st0.nx a ds) (loop:ForTr prog w K btab k φ (forTgt c) (forBody c) a ds ds st0 fl st'):STr prog w K btab k φ c st fl st':=by
 unfold evI at e
 exact STr.for_ hc hns n _ e (allOf l) hd loop
theorem STr.forCiE {s:Stmt} {st st0 st':St} {fl:Fl} {c n:Nat} {f:Addr} {stop:Str} {N:Nat} (hs:forChk s=true) (hns:noSet (forIter s)=true) (hnm:isNm (forTgt s)=true) (hf:fnIn K f=true) (nn:Nat) (l:List EvO)
  (e:evI prog w K btab (k+1) nn φ (forIter s) st (evsOf l)=some (.loc c,st0,[],obsOf l)) (hc:c < st0.nx) (hm:st0.m c=.citer (.bm f n) stop \/ st0.m c=.cdone) (loop:ForCi prog w K btab k φ (forTgt s) (forBody s) c n f stop N st0 fl st'):STr prog w K btab (k+1) φ s st fl st':=by
 unfold evI at e
 exact STr.forCi hs hns hnm hf nn _ e (allOf l) hc hm loop
end
namespace EvO
noncomputable def br (b d:Bool) (h:b=d):EvO:=⟨[.br d],[b=d],ob1 h⟩
noncomputable def brT (p:Prop) [Decidable p] (h:p):EvO:=br (decide p) true (decide_eq_true h)
noncomputable def brF (p:Prop) [Decidable p] (h:¬ p):EvO:=br (decide p) false (decide_eq_false h)
noncomputable def obl {p:Prop} (h:p):EvO:=⟨[],[p],ob1 h⟩
noncomputable def lst (l:List D) (b:Bool) (h:l.length<=1000):EvO:=⟨[.br b],[l.length<=1000],ob1 h⟩
noncomputable def tup (l:List D) (h:l.length<=1000):EvO:=⟨[],[l.length<=1000],ob1 h⟩
noncomputable def fz (m:Nat->MO) (nx n:Nat) (l:List D) (h:m n=.list l) (hn:n < nx):EvO:=⟨[.mo (.list l)],[m n=.list l,n < nx],ob2 h hn⟩
noncomputable def keep:EvO:=⟨[.mo .junk],[],ob0⟩
noncomputable def pick (b:Bool):EvO:=⟨[.br b],[],ob0⟩
section
variable {prog:Program} {w:World} {K:Frag} {btab:List (Str × Value)} {k:Nat} {φ:Fm} {m m':Nat->MO} {nx nx':Nat}
noncomputable def stm {c:Stmt} {st st':St} {f:Fl} (h:STr prog w K btab k φ c st f st'):EvO:=⟨[.fl f st'],[STr prog w K btab k φ c st f st'],ob1 h⟩
noncomputable def comp {e:PySem.Expr} {st st':St} {r:AV} (h:ETr prog w K btab k φ e st r st'):EvO:=⟨[.val r st'.m st'.nx],[ETr prog w K btab k φ e st r st'],ob1 h⟩
noncomputable def lam {e:PySem.Expr} {st st':St} {r:AV} (h:ETr prog w K btab k φ e st r st'):EvO:=⟨[],[ETr prog w K btab k φ e st r st'],ob1 h⟩
noncomputable def call {f:AV} {args:List AV} {kws:List (Str × AV)} {r:AV} (h:CallTr prog w K btab k f args kws m nx r m' nx'):EvO:=⟨[.val r m' nx'],[CallTr prog w K btab k f args kws m nx r m' nx'],ob1 h⟩
noncomputable def meth {o:AV} {name:Str} {f:AV} (h:MethTr prog w K btab k o name m nx f [o] nx m):EvO:=⟨[.val f m nx,.val (.d (.bool true)) m nx],[MethTr prog w K btab k o name m nx f [o] nx m],ob1 h⟩
noncomputable def methA {o:AV} {name:Str} {f:AV} (h:MethTr prog w K btab k o name m nx f [] nx m):EvO:=⟨[.val f m nx,.val (.d (.bool false)) m nx],[MethTr prog w K btab k o name m nx f [] nx m],ob1 h⟩
noncomputable def attr {o:AV} {name:Str} {r:AV} (h:AttrTr prog w K btab k o name m nx r m' nx'):EvO:=⟨[.val r m' nx'],[AttrTr prog w K btab k o name m nx r m' nx'],ob1 h⟩
noncomputable def item {o i r:AV} (h:ItemTr prog w K btab k o i m nx r m' nx'):EvO:=⟨[.val r m' nx'],[ItemTr prog w K btab k o i m nx r m' nx'],ob1 h⟩
noncomputable def slice {o l u r:AV} (h:SliceTr prog w K btab k o l u m nx r m' nx'):EvO:=⟨[.val r m' nx'],[SliceTr prog w K btab k o l u m nx r m' nx'],ob1 h⟩
noncomputable def bin {g:Bool} {op:Operator} {a b r:AV} (h:BinTr prog w K btab k g op a b m nx r m' nx'):EvO:=⟨[.val r m' nx'],[BinTr prog w K btab k g op a b m nx r m' nx'],ob1 h⟩
noncomputable def cmp {op:CmpOp} {a b:AV} {c:Bool} (h:CmpTr prog w K btab k op a b m nx c m' nx'):EvO:=⟨[.val (.d (.bool c)) m' nx'],[CmpTr prog w K btab k op a b m nx c m' nx'],ob1 h⟩
noncomputable def truth {a:AV} {b:Bool} (h:TruthTr prog w K btab k a m nx b):EvO:=⟨[.br b],[TruthTr prog w K btab k a m nx b],ob1 h⟩
noncomputable def setattr {o x:AV} {name:Str} (h:SetAttrTr prog w K btab k o name x m nx m' nx'):EvO:=⟨[.val (.d .none) m' nx'],[SetAttrTr prog w K btab k o name x m nx m' nx'],ob1 h⟩
noncomputable def setitem {o i x:AV} (h:SetItemTr prog w K btab k o i x m nx m' nx'):EvO:=⟨[.val (.d .none) m' nx'],[SetItemTr prog w K btab k o i x m nx m' nx'],ob1 h⟩
end
end EvO
structure Cx where
 prog:Program
 w:World
 K:Frag
 bt:List (Str × Value)
 k:Nat
 m:Nat->MO
 nx:Nat
namespace Cx
variable (c:Cx)
noncomputable section
noncomputable abbrev Call (f:AV) (args:List AV) (r:AV) (m':Nat->MO) (nx':Nat):Prop:=CallTr c.prog c.w c.K c.bt c.k f args [] c.m c.nx r m' nx'
noncomputable abbrev Meth (o:AV) (name:Str) (f:AV):Prop:=MethTr c.prog c.w c.K c.bt c.k o name c.m c.nx f [o] c.nx c.m
noncomputable abbrev Item (o i r:AV):Prop:=ItemTr c.prog c.w c.K c.bt c.k o i c.m c.nx r c.m c.nx
noncomputable abbrev Cmp (op:CmpOp) (a b:AV) (r:Bool):Prop:=CmpTr c.prog c.w c.K c.bt c.k op a b c.m c.nx r c.m c.nx
noncomputable abbrev Bin (g:Bool) (op:Operator) (a b r:AV):Prop:=BinTr c.prog c.w c.K c.bt c.k g op a b c.m c.nx r c.m c.nx
noncomputable def callM (f:AV) (args:List AV) (r:AV) (m':Nat->MO) (nx':Nat) (h:c.Call f args r m' nx'):EvO:=.call h
noncomputable def addS (g:Bool) (x y z:Str) (h:x ++ y=z) (hz:x.length+y.length<=sizeLine):EvO:=.bin (show c.Bin g .Add (.d (.str x)) (.d (.str y)) (.d (.str z)) from h ▸ b_addS hz)
noncomputable def pow (i j r:Int) (h:i ^ j.toNat=r) (h0:0<=j) (hsz:(Builtin.Int.intBits i:Int) * j<=2 ^ 27):EvO:=.bin (show c.Bin false .Pow (.d (.int i)) (.d (.int j)) (.d (.int r)) from h ▸ b_pow h0 hsz)
noncomputable def addL (a b:AV) (xs ys:List D) (h1:DSrc c.m c.nx a xs) (l1:isLst a) (h2:DSrc c.m c.nx b ys) (l2:isLst b) (hsz:xs.length+ys.length<=100000):EvO:=.bin (show c.Bin false .Add a b (.d (.lst (xs ++ ys))) from b_addL h1 l1 h2 l2 hsz)
noncomputable def mSplit (x:Str):EvO:=.meth (show c.Meth (.d (.str x)) "split" _ from m_split)
noncomputable def mLower (x:Str):EvO:=.meth (show c.Meth (.d (.str x)) "lower" _ from m_lower)
noncomputable def mUpper (x:Str):EvO:=.meth (show c.Meth (.d (.str x)) "upper" _ from m_upper)
noncomputable def mJoin (x:Str):EvO:=.meth (show c.Meth (.d (.str x)) "join" _ from m_join)
noncomputable def mAppend (a:AV) (ds:List D) (hs:DSrc c.m c.nx a ds) (hl:isLst a):EvO:=.meth (show c.Meth a "append" _ from m_append hs hl)
noncomputable def mPop (a:AV) (ds:List D) (hs:DSrc c.m c.nx a ds) (hl:isLst a):EvO:=.meth (show c.Meth a "pop" _ from m_pop hs hl)
noncomputable def mInsert (a:AV) (ds:List D) (hs:DSrc c.m c.nx a ds) (hl:isLst a):EvO:=.meth (show c.Meth a "insert" _ from m_insert hs hl)
noncomputable def mIndex (a:AV) (ds:List D) (hs:DSrc c.m c.nx a ds) (hl:isLst a):EvO:=.meth (show c.Meth a "index" _ from m_index hs hl)
noncomputable def cSplit (x y:Str) (l:List Str) (h:Txt.split x y=l) (hy:(y.length == 0)=false) (hsz:x.length<=sizeLine) (hsz2:(Builtin.Str.partsBetween x (Builtin.Str.occurrences x y 0 x.length (x.length+1)) y.length).length<=sizeLine):EvO:=
 .call (show c.Call (.k (.builtin "str.split")) [.d (.str x),.d (.str y)] (.d (.lst (strDs l))) c.m c.nx from h ▸ c_split hy hsz hsz2)
noncomputable def cLower (x y:Str) (h:Txt.lower x=y) (hl:x.length<=5592405):EvO:=.call (show c.Call (.k (.builtin "str.lower")) [.d (.str x)] (.d (.str y)) c.m c.nx from h ▸ c_lower hl)
noncomputable def cUpper (x y:Str) (h:Txt.upper x=y) (hl:x.length<=5592405):EvO:=.call (show c.Call (.k (.builtin "str.upper")) [.d (.str x)] (.d (.str y)) c.m c.nx from h ▸ c_upper hl)
noncomputable def cJoin (x:Str) (a:AV) (xs:List Str) (y:Str) (h:Txt.join x xs=y) (hs:DSrc c.m c.nx a (strDs xs)) (hl:isLst a) (hok:(xs.map (·.length)).sum+xs.length * x.length<=16777216):EvO:=
 .call (show c.Call (.k (.builtin "str.join")) [.d (.str x),a] (.d (.str y)) c.m c.nx from h ▸ c_join hs hl hok)
noncomputable def cAppend (n:Nat) (ds:List D) (x:D) (hn:n < c.nx) (hm:c.m n=.list ds) (hsz:ds.length<=100000) (m':Nat->MO) (he:upd c.m n (.list (ds ++ [x]))=m'):EvO:=.call (show c.Call (.k (.builtin "list.append")) [.loc n,.d x] (.d .none) m' c.nx from he ▸ c_append hn hm hsz)
noncomputable def cPop (n:Nat) (ds:List D) (x:D) (hn:n < c.nx) (hm:c.m n=.list (ds ++ [x])) (hsz:ds.length < 100000) (m':Nat->MO) (he:upd c.m n (.list ds)=m'):EvO:=.call (show c.Call (.k (.builtin "list.pop")) [.loc n] (.d x) m' c.nx from he ▸ c_pop hn hm hsz)
noncomputable def cPopAt (n:Nat) (i:Int) (ds es:List D) (x:D) (hi:i=ds.length) (hn:n < c.nx) (hm:c.m n=.list (ds ++ x :: es)) (hsz:ds.length+es.length < 100000) (m':Nat->MO) (he:upd c.m n (.list (ds ++ es))=m'):EvO:=
 .call (show c.Call (.k (.builtin "list.pop")) [.loc n,.d (.int i)] (.d x) m' c.nx from he ▸ hi ▸ c_popAt hn hm hsz)
noncomputable def cInsert (n:Nat) (i:Int) (ds es:List D) (x:D) (hi:i=ds.length) (hn:n < c.nx) (hm:c.m n=.list (ds ++ es)) (hsz:ds.length+es.length < 100000) (m':Nat->MO) (he:upd c.m n (.list (ds ++ x :: es))=m'):EvO:=
 .call (show c.Call (.k (.builtin "list.insert")) [.loc n,.d (.int i),.d x] (.d .none) m' c.nx from he ▸ hi ▸ c_insert hn hm hsz)
noncomputable def cIndex (a:AV) (x:Str) (ys:List Str) (hs:DSrc c.m c.nx a (strDs ys)) (hl:isLst a) (hx:x ∈ ys) (hsz:ys.length<=100000):EvO:=
 .call (show c.Call (.k (.builtin "list.index")) [a,.d (.str x)] (.d (.int (ys.idxOf x:Nat))) c.m c.nx from c_indexS hs hl hx hsz)
noncomputable def len (a:AV) (ds:List D) (hs:DSrc c.m c.nx a ds) (hl:isLst a) (hsz:ds.length < 9000000000):EvO:=.call (show c.Call (.k (.builtin "len")) [a] (.d (.int ds.length)) c.m c.nx from c_len hs hl hsz)
noncomputable def lenS (x:Str) (hsz:x.length < 9000000000):EvO:=.call (show c.Call (.k (.builtin "len")) [.d (.str x)] (.d (.int x.length)) c.m c.nx from c_lenS hsz)
noncomputable def range1 (b:Int):EvO:=.call (show c.Call (.k (.type "range")) [.d (.int b)] (.d (.rng 0 b 1)) c.m c.nx from c_range1)
noncomputable def range2 (a b:Int):EvO:=.call (show c.Call (.k (.type "range")) [.d (.int a),.d (.int b)] (.d (.rng a b 1)) c.m c.nx from c_range2)
noncomputable def range3 (a b d:Int) (hc:d ≠ 0) (hp:Builtin.divisionGoesByPylong (b - a) d=false):EvO:=.call (show c.Call (.k (.type "range")) [.d (.int a),.d (.int b),.d (.int d)] (.d (.rng a b d)) c.m c.nx from c_range3 hc hp)
noncomputable def intS (x:Str) (n:Int) (hn:PySem.intText? x=some n) (hl:x.length<=640):EvO:=.call (show c.Call (.k (.type "int")) [.d (.str x)] (.d (.int n)) c.m c.nx from c_int hn hl)
noncomputable def sum (a:AV) (ns:List Int) (hs:DSrc c.m c.nx a (ns.map D.int)) (hl:isLst a):EvO:=.call (show c.Call (.k (.builtin "sum")) [a] (.d (.int ns.sum)) c.m c.nx from c_sum hs hl)
noncomputable def sorted (a:AV) (ns:List Int) (hs:DSrc c.m c.nx a (ns.map D.int)) (hl:isLst a) (h64:ns.length < 64):EvO:=.call (show c.Call (.k (.builtin "sorted")) [a] (.d (.lst ((ns.mergeSort (fun x y=>decide (x<=y))).map D.int))) c.m c.nx from c_sorted hs hl h64)
noncomputable def type_ (d:D) (h:d.tyOk=true):EvO:=.call (show c.Call (.k (.type "type")) [.d d] (.k (.type d.tyName)) c.m c.nx from c_type h)
noncomputable def itemL (a:AV) (ds:List D) (i:Int) (j:Nat) (x:D) (hi:i=j) (hs:DSrc c.m c.nx a ds) (hl:isLst a) (hx:ds[j]? = some x) (hj:j < 9000000000):EvO:=.item (show c.Item a (.d (.int i)) (.d x) from hi ▸ i_lst hs hl hx hj)
noncomputable def item (ds:List D) (i:Int) (j:Nat) (x:D) (hi:i=j) (hx:ds[j]? = some x) (hj:j < 9000000000):EvO:=.item (show c.Item (.d (.lst ds)) (.d (.int i)) (.d x) from hi ▸ i_lst rfl trivial hx hj)
noncomputable def itemT (ds:List D) (i:Int) (j:Nat) (x:D) (hi:i=j) (hx:ds[j]? = some x) (hj:j < 9000000000):EvO:=.item (show c.Item (.d (.tup ds)) (.d (.int i)) (.d x) from hi ▸ i_tup hx hj)
noncomputable def itemNeg (a:AV) (ds:List D) (x:D) (hs:DSrc c.m c.nx a (ds ++ [x])) (hl:isLst a) (hi:ds.length < 9000000000):EvO:=.item (show c.Item a (.d (.int (-1))) (.d x) from i_neg hs hl hi)
noncomputable def itemS (x:Str) (i:Int) (hr:fitsSsize i=true) (hin:(Txt.charAt x i).isSome=true):EvO:=.item (show c.Item (.d (.str x)) (.d (.int i)) (.d (.str (Txt.item x i))) from i_str hr hin)
noncomputable def itemDS (n:Nat) (l:List (Str × D)) (i:Str) (x:D) (hn:n < c.nx) (hm:c.m n=.dictS l) (hx:l.lookup i=some x):EvO:=.item (show c.Item (.loc n) (.d (.str i)) (.d x) from i_dictS hn hm hx)
noncomputable def slc (a l u:AV) (ds:List D) (lo hi:Option Int) (hs:DSrc c.m c.nx a ds) (hl:isLst a) (h1:partOf l=some lo) (h2:partOf u=some hi) (hsz:ds.length<=100000):EvO:=
 .slice (show SliceTr c.prog c.w c.K c.bt c.k a l u c.m c.nx (.d (.lst (pickD ds lo hi))) c.m c.nx from s_lst hs hl h1 h2 hsz)
noncomputable def inS (y x:Str):EvO:=.cmp (show c.Cmp .In (.d (.str y)) (.d (.str x)) (Txt.contains x y) from q_inS)
noncomputable def isNone (a:AV) (b:Bool) (e:isNoneA a=some b):EvO:=.cmp (show c.Cmp .Is a (.d .none) b from q_isNone e)
noncomputable def isNotNone (a:AV) (b:Bool) (e:isNoneA a=some b):EvO:=.cmp (show c.Cmp .IsNot a (.d .none) (!b) from q_isNotNone e)
noncomputable def isType (X Y:String):EvO:=.cmp (show c.Cmp .Is (.k (.type X)) (.k (.type Y)) (Value.type X == Value.type Y) from q_isType)
noncomputable def isNotType (X Y:String):EvO:=.cmp (show c.Cmp .IsNot (.k (.type X)) (.k (.type Y)) (!(Value.type X == Value.type Y)) from q_isNotType)
noncomputable def eqD (a b:AV) (d1 d2:D) (r:Bool) (hr:PySem.Spec.same (D.py d1) (D.py d2)=r) (h1:asD1 c.m c.nx a d1) (h2:asD1 c.m c.nx b d2) (p1:D.plain d1=true) (p2:D.plain d2=true) (s1:PySem.SeqAt.shaped (D.py d1)=true) (s2:PySem.SeqAt.shaped (D.py d2)=true) (hm:PySem.SeqAt.noMix (D.py d1) (D.py d2)=true):EvO:=
 .cmp (show c.Cmp .Eq a b r from hr ▸ q_eq h1 h2 p1 p2 s1 s2 hm)
noncomputable def neD (a b:AV) (d1 d2:D) (r:Bool) (hr:PySem.Spec.same (D.py d1) (D.py d2)=r) (h1:asD1 c.m c.nx a d1) (h2:asD1 c.m c.nx b d2) (p1:D.plain d1=true) (p2:D.plain d2=true) (s1:PySem.SeqAt.shaped (D.py d1)=true) (s2:PySem.SeqAt.shaped (D.py d2)=true) (hm:PySem.SeqAt.noMix (D.py d1) (D.py d2)=true):EvO:=
 .cmp (show c.Cmp .NotEq a b (!r) from hr ▸ q_ne h1 h2 p1 p2 s1 s2 hm)
noncomputable def truthL (a:AV) (ds:List D) (b:Bool) (hb:(!ds.isEmpty)=b) (hs:DSrc c.m c.nx a ds) (hl:isLst a) (hsz:ds.length < 9000000000):EvO:=.truth (show TruthTr c.prog c.w c.K c.bt c.k a c.m c.nx b from hb ▸ truth_lst hs hl hsz)
noncomputable def getA (n j:Nat) (C:Addr) (l:List (Str × AV)) (name:Str) (r:AV) (hn:n < c.nx) (h1:c.m n=.inst C j) (h2:c.m j=.ns l) (hl:l.lookup name=some r) (hk:notK r=true) (hc:attrOk c.K C name=true):EvO:=
 .attr (show AttrTr c.prog c.w c.K c.bt c.k (.loc n) name c.m c.nx r c.m c.nx from a_get hn h1 h2 hl hk hc)
noncomputable def boundA (n j:Nat) (C f:Addr) (l:List (Str × AV)) (name:Str) (hn:n < c.nx) (h1:c.m n=.inst C j) (h2:c.m j=.ns l) (hl:l.lookup name=none) (hc:boundOk c.K C name f=true):EvO:=
 .attr (show AttrTr c.prog c.w c.K c.bt c.k (.loc n) name c.m c.nx (.bm f n) c.m c.nx from a_bound hn h1 h2 hl hc)
noncomputable def mFn (n j:Nat) (C f:Addr) (l:List (Str × AV)) (name:Str) (hn:n < c.nx) (h1:c.m n=.inst C j) (h2:c.m j=.ns l) (hl:l.lookup name=none) (hc:methOk c.K C name f=true):EvO:=
 .meth (show c.Meth (.loc n) name (.k (.ref f)) from m_fn hn h1 h2 hl hc)
noncomputable def mAttr (n j:Nat) (C:Addr) (l:List (Str × AV)) (name:Str) (r:AV) (hn:n < c.nx) (h1:c.m n=.inst C j) (h2:c.m j=.ns l) (hl:l.lookup name=some r) (hk:notK r=true) (hc:attrOk c.K C name=true) (hno:findIn c.K (.ref C) name=some none):EvO:=
 .methA (show MethTr c.prog c.w c.K c.bt c.k (.loc n) name c.m c.nx r [] c.nx c.m from m_attr hn h1 h2 hl hk hc hno)
noncomputable def setA (n j:Nat) (C:Addr) (l l':List (Str × AV)) (name:Str) (x:AV) (m':Nat->MO) (hn:n < c.nx) (h1:c.m n=.inst C j) (h2:c.m j=.ns l) (hz:Nat.ble l.length 900=true) (hc:setOk c.K C name=true) (hl:setv name x l=l') (he:m'=upd c.m j (.ns l')):EvO:=
 .setattr (show SetAttrTr c.prog c.w c.K c.bt c.k (.loc n) name x c.m c.nx m' c.nx by
  subst hl he
  exact a_set hn h1 h2 (Nat.lt_of_le_of_lt (Nat.le_of_ble_eq_true hz) (by decide)) hc)
noncomputable def setDS (n:Nat) (l l':List (Str × D)) (i:Str) (x:D) (hl:storeD l i x=l') (hn:n < c.nx) (hm:c.m n=.dictS l) (hsz:l.length<=100000) (m':Nat->MO) (he:upd c.m n (.dictS l')=m'):EvO:=.setitem (show SetItemTr c.prog c.w c.K c.bt c.k (.loc n) (.d (.str i)) (.d x) c.m c.nx m' c.nx from he ▸ hl ▸ set_dictS hn hm hsz)
end
end Cx
section
variable {prog:Program} {w:World} {K:Frag} {btab:List (Str × Value)} {k:Nat} {φ:Fm}
theorem Tri.post {β:Type} {C:Wd->Nat->Prop} {t:Env->Sem β} {V V':List (Str × AV)} {fz:List Str} {m:Nat->MO} {nx:Nat} {st:St} {P:Wd->β->Prop} (h:Tri prog w K btab k φ C t st ⟨V',fz,m,nx⟩ P) (s:VSub V V'):Tri prog w K btab k φ C t st ⟨V,fz,m,nx⟩ P:=
 fun W A env sh Q E hA hS hF hc hq=>h W A env sh Q E hA hS hF hc fun W' h' tk' b n l S F r=>hq W' h' tk' b n l S (F.sub s) r
theorem BTr.post {b:List Stmt} {V V':List (Str × AV)} {fz:List Str} {m:Nat->MO} {nx:Nat} {st:St} {r:Fl} (h:BTr prog w K btab k φ b st r ⟨V',fz,m,nx⟩) (s:VSub V V'):BTr prog w K btab k φ b st r ⟨V,fz,m,nx⟩:=Tri.post h s
theorem STr.post {b:Stmt} {V V':List (Str × AV)} {fz:List Str} {m:Nat->MO} {nx:Nat} {st:St} {r:Fl} (h:STr prog w K btab k φ b st r ⟨V',fz,m,nx⟩) (s:VSub V V'):STr prog w K btab k φ b st r ⟨V,fz,m,nx⟩:=Tri.post h s
noncomputable def Takes (φ:Fm) (t:PySem.Expr) (d:D) (V V':List (Str × AV)):Prop:=∀ (V1:List (Str × AV)) (fz:List Str) (m:Nat->MO) (nx:Nat),VSub V V1->∃ V2,gTgt φ t d ⟨V1,fz,m,nx⟩ []=some ((),⟨V2,fz,m,nx⟩,[],[]) /\ VSub V' V2
theorem takes_name {t:PySem.Expr} {d:D} {V:List (Str × AV)} {x:Str} (hn:(isNm t && nameOf t == x)=true) (hl:φ.sc.names.lookup x=some .local):Takes φ t d V ((x,.d d) :: V):=by
 intro V1 fz m nx hV
 rw [Bool.and_eq_true,beq_iff_eq] at hn
 obtain ⟨hn,rfl⟩:=hn
 exact ⟨setv (nameOf t) (.d d) V1,nm_gTgt hn hl _ _,setv_sub hV⟩
theorem takes_tup {t:PySem.Expr} {ds:List D} {V:List (Str × AV)} (hn:tupOk t=true) (hl:∀ x ∈ tupOf t,φ.sc.names.lookup x=some .local) (hlen:(tupOf t).length=ds.length):Takes φ t (.tup ds) V (((tupOf t).zip (ds.map AV.d)).reverse ++ V):=by
 intro V1 fz m nx hV1
 obtain ⟨V2,e,s⟩:=gStores_some (φ:=φ) (tupOf t) ds V1 fz m nx V hl hlen hV1
 exact ⟨V2,(congrFun (congrFun (tup_gTgt hn _).1 _) _).trans e,s⟩
theorem for_fold {α σ:Type} {t:PySem.Expr} {b:List Stmt} {a:AV} {ds0:List D} {fz:List Str} {nx:Nat} {V:σ->List (Str × AV)} {M:σ->Nat->MO} {step:σ->α->σ} {gD:α->D} {VX:σ->α->List (Str × AV)}:∀ (xs:List α) (s:σ) (V0:List (Str × AV)),VSub (V s) V0 ->
  (∀ pre x post,xs=pre ++ x :: post->DSrc (M (pre.foldl step s)) nx a ds0 /\ Takes φ t (gD x) (V (pre.foldl step s)) (VX (pre.foldl step s) x) /\
   ∃ f V2,(f=.next \/ f=.cont) /\ BTr prog w K btab k φ b ⟨VX (pre.foldl step s) x,fz,M (pre.foldl step s),nx⟩ f ⟨V2,fz,M (step (pre.foldl step s) x),nx⟩ /\ VSub (V (step (pre.foldl step s) x)) V2) ->
  DSrc (M (xs.foldl step s)) nx a ds0 ->
  ∃ V9,VSub (V (xs.foldl step s)) V9 /\ ForTr prog w K btab k φ t b a ds0 (xs.map gD) ⟨V0,fz,M s,nx⟩ .next ⟨V9,fz,M (xs.foldl step s),nx⟩
 | [],s,V0,hV,_,hd=>⟨V0,hV,.done hd⟩
 | x :: xs,s,V0,hV,hb,hd=>by
  obtain ⟨d0,ht,f,V2,hf,hB,hs⟩:=hb [] x xs rfl
  obtain ⟨V1,e,s1⟩:=ht V0 fz (M s) nx hV
  obtain ⟨V9,h9,r⟩:=for_fold (V:=V) (M:=M) (step:=step) (gD:=gD) (VX:=VX) xs (step s x) V2 hs (fun pre y post e=>hb (x :: pre) y post (by rw [e]; rfl)) hd
  exact ⟨V9,h9,.step d0 e (hB.pre s1) hf r⟩
noncomputable def findFl {α:Type} (g:α->AV):Option α->Fl
 | some x=>.ret (g x)
 | none=>.next
theorem for_find {α:Type} {t:PySem.Expr} {b:List Stmt} {a:AV} {ds0:List D} {fz:List Str} {m:Nat->MO} {nx:Nat} {V:List (Str × AV)} {gD:α->D} {VX:α->List (Str × AV)} {p:α->Bool} {g:α->AV} (hd:DSrc m nx a ds0):∀ (xs:List α) (V0:List (Str × AV)),VSub V V0 ->
  (∀ x ∈ xs,Takes φ t (gD x) V (VX x) /\ (p x=false->∃ f V2,(f=.next \/ f=.cont) /\ BTr prog w K btab k φ b ⟨VX x,fz,m,nx⟩ f ⟨V2,fz,m,nx⟩ /\ VSub V V2) /\ (p x=true->∃ V2,BTr prog w K btab k φ b ⟨VX x,fz,m,nx⟩ (.ret (g x)) ⟨V2,fz,m,nx⟩ /\ VSub V V2)) ->
  ∃ V9,VSub V V9 /\ ForTr prog w K btab k φ t b a ds0 (xs.map gD) ⟨V0,fz,m,nx⟩ (findFl g (xs.find? p)) ⟨V9,fz,m,nx⟩
 | [],V0,hV,_=>⟨V0,hV,.done hd⟩
 | x :: xs,V0,hV,hb=>by
  obtain ⟨ht,h0,h1⟩:=hb x (List.mem_cons_self ..)
  obtain ⟨V1,e,s1⟩:=ht V0 fz m nx hV
  cases hp:p x with
  | true=>
   obtain ⟨V2,hB,hs⟩:=h1 hp
   refine ⟨V2,hs,?_⟩
   rw [List.find?_cons_of_pos hp]
   exact .stop hd e (hB.pre s1)
  | false=>
   obtain ⟨f,V2,hf,hB,hs⟩:=h0 hp
   obtain ⟨V9,h9,r⟩:=for_find hd xs V2 hs fun y hy=>hb y (List.mem_cons_of_mem _ hy)
   refine ⟨V9,h9,?_⟩
   rw [List.find?_cons_of_neg (by rw [hp]; exact Bool.false_ne_true)]
   exact .step hd e (hB.pre s1) hf r
theorem ftrue {α:Type}:∀ xs:List α,xs.filter (fun _=>true)=xs
 | []=>rfl
 | x :: xs=>by rw [List.filter_cons_of_pos rfl,ftrue xs]
theorem loop1n {α:Type} {c:PySem.Expr} {st:St} {a:AV} {xs:List α} {gD:α->D} {f:α->D} {V:α->List (Str × AV)} (hr:lcRest c = []) (hi:(lcFirst c).ifs = []) (hd:DSrc st.m st.nx a (xs.map gD))
  (ht:TgtOk (compFm φ (lcScope c)) (lcFirst c).target gD (compVars φ st.vars (lcScope c)) V xs)
  (he:∀ x ∈ xs,∀ l,ETr prog w K btab k (compFm φ (lcScope c)) (lcElt c) ⟨V x,compFz φ (lcScope c),upd st.m st.nx (.list l),st.nx+1⟩ (.d (f x)) ⟨V x,compFz φ (lcScope c),upd st.m st.nx (.list l),st.nx+1⟩)
  (hsz:xs.length<=100000):∃ V2,CLoop (CStep prog w K btab k (compFm φ (lcScope c)) (lcFirst c) (CInner prog w K btab k (compFm φ (lcScope c)) st.nx (lcElt c) (lcRest c))) a (xs.map gD) (xs.map gD) (compSt φ st (lcScope c))
   ⟨V2,compFz φ (lcScope c),upd st.m st.nx (.list (xs.map f)),st.nx+1⟩:=by
 have:=loop1 (p:=fun _=>true) (f:=f) hr hd ht (.inl ⟨hi,fun _ _=>rfl⟩) (fun x hx _=>he x hx) hsz
 rwa [ftrue] at this
theorem loop2n {α β:Type} {c:PySem.Expr} {st:St} {a:AV} {xs:List α} {gD:α->D} {V:α->List (Str × AV)} {g:Comprehension} {a2:α->AV} {ys:α->List β} {gD2:α->β->D} {V2:α->β->List (Str × AV)} {f:α->β->D} (hr:lcRest c = [g]) (hd:DSrc st.m st.nx a (xs.map gD))
  (ht:TgtOk (compFm φ (lcScope c)) (lcFirst c).target gD (compVars φ st.vars (lcScope c)) V xs) (hi:(lcFirst c).ifs = []) (hns:noSet g.iter=true) (has:g.is_async=0) (hi2:g.ifs = [])
  (hit:∀ x ∈ xs,∀ l,ETr prog w K btab k (compFm φ (lcScope c)) g.iter ⟨V x,compFz φ (lcScope c),upd st.m st.nx (.list l),st.nx+1⟩ (a2 x) ⟨V x,compFz φ (lcScope c),upd st.m st.nx (.list l),st.nx+1⟩)
  (hd2:∀ x ∈ xs,DSrc st.m st.nx (a2 x) ((ys x).map (gD2 x))) (ht2:∀ x ∈ xs,TgtOk (compFm φ (lcScope c)) g.target (gD2 x) (V x) (V2 x) (ys x))
  (he:∀ x ∈ xs,∀ y ∈ ys x,∀ l,ETr prog w K btab k (compFm φ (lcScope c)) (lcElt c) ⟨V2 x y,compFz φ (lcScope c),upd st.m st.nx (.list l),st.nx+1⟩ (.d (f x y)) ⟨V2 x y,compFz φ (lcScope c),upd st.m st.nx (.list l),st.nx+1⟩)
  (hsz:(xs.flatMap fun x=>(ys x).map (f x)).length<=100000):∃ V2,CLoop (CStep prog w K btab k (compFm φ (lcScope c)) (lcFirst c) (CInner prog w K btab k (compFm φ (lcScope c)) st.nx (lcElt c) (lcRest c))) a (xs.map gD) (xs.map gD) (compSt φ st (lcScope c))
   ⟨V2,compFz φ (lcScope c),upd st.m st.nx (.list (xs.flatMap fun x=>(ys x).map (f x))),st.nx+1⟩:=by
 have:=loop2 (p:=fun _ _=>true) (f:=f) hr hd ht hi hns has hit hd2 ht2 (fun x _=>.inl ⟨hi2,fun _ _=>rfl⟩) (fun x hx y hy _=>he x hx y hy) (by simp only [ftrue]; exact hsz)
 simp only [ftrue] at this
 exact this
theorem rng0 (n:Nat):rngD 0 n 1=(List.range n).map fun i:Nat=>D.int i:=by
 unfold rngD
 have:(Builtin.Range.rangeSize 0 n 1).toNat=n:=by
  unfold Builtin.Range.rangeSize
  simp
  try omega
 rw [this]
 simp
noncomputable abbrev Ran (α:Type):=α × List (Option AV) × List Str × (Nat->MO) × Nat × List Ev × List Prop
noncomputable def pickR {α:Type} (ns:List Str) (r:Option (α × St × List Ev × List Prop)):Option (Ran α):=match r with
 | some (a,st,sc,ob)=>some (a,ns.map (fun n=>st.vars.lookup n),st.fz,st.m,st.nx,sc,ob)
 | none=>none
theorem pickR_some {α:Type} {V:List (Str × AV)} {r:Option (α × St × List Ev × List Prop)} {a:α} {fz:List Str} {m:Nat->MO} {nx:Nat} {sc:List Ev} {ob:List Prop} (h:pickR (V.map (·.1)) r=some (a,V.map (fun p=>some p.2),fz,m,nx,sc,ob)) :
  ∃ V2,r=some (a,⟨V2,fz,m,nx⟩,sc,ob) /\ VSub V V2:=by
 match r,h with
 | some (a',⟨vs,fz',m',nx'⟩,sc',ob'),h=>
  unfold pickR at h
  simp only [Option.some.injEq,Prod.mk.injEq] at h
  obtain ⟨rfl,h2,rfl,rfl,rfl,rfl,rfl⟩:=h
  refine ⟨vs,rfl,?_⟩
  rw [List.map_map] at h2
  intro x av e
  have hm:=mem_of_lookup e
  have:=List.map_inj_left.mp h2 _ hm
  exact this
theorem BTr.runS (n:Nat) {b:List Stmt} {st:St} {V:List (Str × AV)} {fz:List Str} {m':Nat->MO} {nx':Nat} {fl:Fl} (l:List EvO) (e:pickR (V.map (·.1)) (exsI prog w K btab k n φ b st (evsOf l))=some (fl,V.map (fun p=>some p.2),fz,m',nx',[],obsOf l)) :
  BTr prog w K btab k φ b st fl ⟨V,fz,m',nx'⟩:=by
 obtain ⟨V2,e2,s⟩:=pickR_some e
 exact (BTr.runE n l e2).post s
theorem STr.forP {c:Stmt} {st:St} {V:List (Str × AV)} {fz:List Str} {m':Nat->MO} {nx':Nat} {fl:Fl} (a:AV) (ds:List D) (n:Nat) (l:List EvO) (hc:(forChk c && noSet (forIter c))=true) (e:evI prog w K btab k n φ (forIter c) st (evsOf l)=some (a,st,[],obsOf l))
  (hd:DSrc st.m st.nx a ds) (loop:∃ V9,VSub V V9 /\ ForTr prog w K btab k φ (forTgt c) (forBody c) a ds ds st fl ⟨V9,fz,m',nx'⟩):STr prog w K btab k φ c st fl ⟨V,fz,m',nx'⟩:=by
 rw [Bool.and_eq_true] at hc
 obtain ⟨V9,h9,loop⟩:=loop
 exact STr.post (STr.forE hc.1 hc.2 n l e hd loop) h9
theorem pick_run {α:Type}:∀ (n i:Nat) (ds:List α),((List.range n).map fun k=>i+k).filterMap (ds[·]?)=(ds.drop i).take n
 | 0,_,_=>by simp
 | n+1,i,ds=>by
  have e:(List.range (n+1)).map (fun k=>i+k)=i :: ((List.range n).map fun k=>i+1+k):=by
   rw [List.range_succ_eq_map,List.map_cons,List.map_map]
   congr 1
   apply List.map_congr_left
   intro k _
   simp only [Function.comp]
   omega
  rw [e,List.filterMap_cons,pick_run n (i+1) ds]
  cases q:ds[i]? with
  | none=>
   have:ds.length<=i:=by simpa using q
   rw [List.drop_of_length_le this,List.drop_of_length_le (by omega)]
   simp
  | some x=>
   obtain ⟨hi,hx⟩:=List.getElem?_eq_some_iff.mp q
   rw [List.drop_eq_getElem_cons hi,hx]
   rfl
theorem pick_of (ds:List D) (lo hi:Option Int) (i j:Nat) (hb:sliceBounds lo hi none ds.length=((i:Int),(j:Int),1)):pickD ds lo hi=(ds.drop i).take (j - i):=by
 unfold pickD
 rw [hb]
 dsimp only
 rw [<- pick_run]
 congr 1
 unfold sliceRange
 rw [if_pos (by decide)]
 have hc:(if (i:Int) < (j:Int) then ((j:Int) - i+1 - 1) / 1 else 0).toNat=j - i:=by
  split <;> omega
 dsimp only
 rw [hc]
 apply List.map_congr_left
 intro k _
 omega
theorem pick_ij (ds:List D) (i j:Nat) (hi:i<=ds.length) (hj:j<=ds.length):pickD ds (some i) (some j)=(ds.drop i).take (j - i):=by
 apply pick_of
 unfold sliceBounds
 simp only [Option.getD_none]
 have:¬ ((i:Int) < 0):=by omega
 have:¬ ((j:Int) < 0):=by omega
 simp [*]
 omega
theorem pick_i (ds:List D) (i:Nat) (hi:i<=ds.length):pickD ds (some i) none=ds.drop i:=by
 rw [pick_of ds (some i) none i ds.length ?_] at ⊢
 ·rw [List.take_of_length_le (by simp)] at ⊢
 ·unfold sliceBounds
  simp only [Option.getD_none]
  have:¬ ((i:Int) < 0):=by omega
  simp [*]
  omega
theorem pick_j (ds:List D) (j:Nat) (hj:j<=ds.length):pickD ds none (some j)=ds.take j:=by
 rw [pick_of ds none (some j) 0 j ?_] at ⊢
 ·rfl
 ·unfold sliceBounds
  simp only [Option.getD_none]
  have:¬ ((j:Int) < 0):=by omega
  simp [*]
  omega
noncomputable def VKept (N:Nat) (V0 V' V₂:List (Str × AV)):Prop:=∀ x av,V₂.lookup x=some av->V'.lookup x=some av /\ (V0.lookup x=some av \/ Bd N av)
theorem FInv.kept {W W':Wd} {env:Env} {st st' st₂:St} {h h':Heap} (F0:FInv W φ env st h) (F:FInv W' φ env st' h') (L:Low st.m st.nx st'.m st'.nx st₂.m st₂.nx) (hf:st₂.fz=st'.fz) (hv:VKept st₂.nx st.vars st'.vars st₂.vars):FInv W' φ env st₂ h':=by
 obtain ⟨mm,hns,hm⟩:=F.locs
 obtain ⟨mm0,hns0,hm0⟩:=F0.locs
 refine ⟨F.scope,F.kind,F.globals,F.builtins,F.frame,F.code,F.own.low L,⟨mm,hns,fun x av e1 e2=>?_⟩,fun x hx=>?_,fun x av e1 e2=>?_⟩
 ·obtain ⟨e3,b⟩:=hv x av e2
  obtain ⟨v,q1,q2⟩:=hm x av e1 e3
  refine ⟨v,q1,q2.low ?_⟩
  rcases b with b | b
  ·obtain ⟨v0,_,q0⟩:=hm0 x av e1 b
   exact q0.bd.up L.h1
  ·exact b
 ·obtain ⟨cc,e,q⟩:=F.cells x hx
  obtain ⟨cc0,e0,q0⟩:=F0.cells x hx
  have bb:∀ av,st₂.vars.lookup x=some av->st'.vars.lookup x=some av /\ Bd st₂.nx av:=fun av ha=>by
   obtain ⟨e3,b⟩:=hv x av ha
   refine ⟨e3,?_⟩
   rcases b with b | b
   ·rcases q0 with ⟨_,q2⟩ | ⟨_,_,_,_,ov,_,q6⟩
    ·obtain ⟨_,_,_,_,z⟩:=q2 av b; exact z.bd.up L.h1
    ·obtain ⟨_,_,z⟩:=q6 av b; exact z.bd.up L.h1
   ·exact b
  refine ⟨cc,e,?_⟩
  rcases q with ⟨q1,q2⟩ | ⟨q1,q2,q3,q4,ov,hc,q6⟩
  ·exact .inl ⟨hf.symm ▸ q1,fun av e=>let ⟨e3,b⟩:=bb av e; let ⟨o,v,a1,a2,a3⟩:=q2 av e3; ⟨o,v,a1,a2,a3.low b⟩⟩
  ·exact .inr ⟨hf.symm ▸ q1,q2.low L,q3,q4,ov,hc,fun av e=>let ⟨e3,b⟩:=bb av e; let ⟨v,a1,a2⟩:=q6 av e3; ⟨v,a1,a2.low b⟩⟩
 ·obtain ⟨cc,o,v,a1,a2,a3,a4⟩:=F.free x av e1 e2
  exact ⟨cc,o,v,a1,a2,a3,a4.low ((F0.caps_bd e1 e2).up L.h1)⟩
theorem STr.gc {c:Stmt} {st st' st₂:St} {fl:Fl} (h:STr prog w K btab k φ c st fl st') (L:Low st.m st.nx st'.m st'.nx st₂.m st₂.nx) (hf:st₂.fz=st'.fz) (hv:VKept st₂.nx st.vars st'.vars st₂.vars) (bd:FBd st₂.nx fl):STr prog w K btab k φ c st fl st₂:=by
 intro W A env s Q E hA hS hF hc hq
 exact h W A env s Q E hA hS hF hc fun W' h' tk' g _ l S' F' r=>hq W' h' tk' g L.h1 l (hS.low S' L) (hF.kept F' L hf hv) (r.low bd)
theorem VKept.same {N:Nat} {V0 V':List (Str × AV)} (h:∀ x av,V'.lookup x=some av->V0.lookup x=some av \/ Bd N av):VKept N V0 V' V':=fun x av e=>⟨e,h x av e⟩
theorem VKept.set {N:Nat} {V:List (Str × AV)} {x:Str} {a:AV} (b:Bd N a):VKept N V (setv x a V) (setv x a V):=by
 refine .same fun y av e=>?_
 rw [setv_lookup] at e
 split at e
 ·cases e; exact .inr b
 ·exact .inl e
theorem STr.ofLoopP {s:Stmt} {V:List (Str × AV)} {fz:List Str} {m:Nat->MO} {nx:Nat} {a:AV} {ds l:List D} {x:Str} (has:(asChk s && asName s == x)=true) (hc:lcOk φ (asVal s)=true) (hl:φ.sc.names.lookup x=some .local) (first:ETr prog w K btab k φ (lcFirst (asVal s)).iter ⟨V,fz,m,nx⟩ a ⟨V,fz,m,nx⟩) (hd:DSrc m nx a ds)
  (h:∃ V2,CLoop (CStep prog w K btab k (compFm φ (lcScope (asVal s))) (lcFirst (asVal s)) (CInner prog w K btab k (compFm φ (lcScope (asVal s))) nx (lcElt (asVal s)) (lcRest (asVal s)))) a ds ds (compSt φ ⟨V,fz,m,nx⟩ (lcScope (asVal s))) ⟨V2,compFz φ (lcScope (asVal s)),upd m nx (.list l),nx+1⟩) :
  STr prog w K btab k φ s ⟨V,fz,m,nx⟩ .next ⟨setv x (.d (.lst l)) V,fz,m,nx⟩:=by
 rw [Bool.and_eq_true,beq_iff_eq] at has
 obtain ⟨has,rfl⟩:=has
 refine (STr.ofLoop (st':=⟨setv (asName s) (.d (.lst l)) V,fz,upd m nx .junk,nx+1⟩) has hc first hd h ?_).gc (.same (Nat.le_succ _) fun i hi=>upd_ne _ _ _ (Nat.ne_of_lt hi)) rfl (.set (.d _)) trivial
 unfold gStore
 rw [hl]
theorem STr.ofLoopC {s:Stmt} {V:List (Str × AV)} {fz:List Str} {m:Nat->MO} {nx:Nat} {a:AV} {ds l:List D} {x:Str} (has:(asChk s && asName s == x)=true) (hc:lcOk φ (asVal s)=true) (hl:φ.sc.names.lookup x=some .cell) (hfz:fz.contains x=false) (first:ETr prog w K btab k φ (lcFirst (asVal s)).iter ⟨V,fz,m,nx⟩ a ⟨V,fz,m,nx⟩) (hd:DSrc m nx a ds)
  (h:∃ V2,CLoop (CStep prog w K btab k (compFm φ (lcScope (asVal s))) (lcFirst (asVal s)) (CInner prog w K btab k (compFm φ (lcScope (asVal s))) nx (lcElt (asVal s)) (lcRest (asVal s)))) a ds ds (compSt φ ⟨V,fz,m,nx⟩ (lcScope (asVal s))) ⟨V2,compFz φ (lcScope (asVal s)),upd m nx (.list l),nx+1⟩) :
  STr prog w K btab k φ s ⟨V,fz,m,nx⟩ .next ⟨setv x (.d (.lst l)) V,fz,m,nx⟩:=by
 rw [Bool.and_eq_true,beq_iff_eq] at has
 obtain ⟨has,rfl⟩:=has
 refine (STr.ofLoop (st':=⟨setv (asName s) (.d (.lst l)) V,fz,upd m nx .junk,nx+1⟩) has hc first hd h ?_).gc (.same (Nat.le_succ _) fun i hi=>upd_ne _ _ _ (Nat.ne_of_lt hi)) rfl (.set (.d _)) trivial
 unfold gStore
 rw [hl]
 dsimp only
 rw [hfz]
end
section
variable {φ:Fm}
noncomputable def locB (φ:Fm) (x:Str):Bool:=match φ.sc.names.lookup x with
 | some .local=>true
 | _=>false
set_option tactic.hygienic true in
theorem locB_is {x:Str} (h:locB φ x=true):φ.sc.names.lookup x=some .local:=by
 unfold locB at h
 split at h
 ·rename_i e; exact e
 ·cases h
noncomputable def freshB (V:List (Str × AV)) (x:Str):Bool:=match V.lookup x with
 | none=>true
 | some _=>false
set_option tactic.hygienic true in
theorem freshB_is {V:List (Str × AV)} {x:Str} (h:freshB V x=true):V.lookup x=none:=by
 unfold freshB at h
 split at h
 ·rename_i e; exact e
 ·cases h
theorem app_sub {ns:List Str} {V0 l:List (Str × AV)} (hk:∀ p ∈ l,p.1 ∈ ns) (h0:ns.all (freshB V0)=true):VSub V0 (l ++ V0):=by
 intro x av e
 rw [List.lookup_append]
 cases q:l.lookup x with
 | none=>exact e
 | some a=>
  have:=freshB_is (List.all_eq_true.mp h0 x (hk _ (mem_of_lookup q)))
  rw [this] at e; cases e
theorem tgt_tupN {α:Type} {t:PySem.Expr} {gs:α->List D} {V0:List (Str × AV)} {xs:List α} (ns:List Str) (hn:(tupOk t && tupOf t == ns)=true) (hl:ns.all (locB φ)=true) (h0:ns.all (freshB V0)=true) (hlen:∀ x ∈ xs,ns.length=(gs x).length) :
  TgtOk φ t (fun x=>.tup (gs x)) V0 (fun x=>(ns.zip ((gs x).map AV.d)).reverse ++ V0) xs:=by
 rw [Bool.and_eq_true,beq_iff_eq] at hn
 obtain ⟨hn,rfl⟩:=hn
 exact tgt_tup hn (fun x hx=>locB_is (List.all_eq_true.mp hl x hx)) hlen (fun x hx=>app_sub (ns:=tupOf t) (fun p hp=>(List.of_mem_zip (show (p.1,p.2) ∈ _ from List.mem_reverse.mp hp)).1) h0) (fun x hx=>.refl _)
theorem tgt_nameN {α:Type} {t:PySem.Expr} {gD:α->D} {V0:List (Str × AV)} {xs:List α} (n:Str) (hn:(isNm t && nameOf t == n)=true) (hl:locB φ n=true) (h0:freshB V0 n=true):TgtOk φ t gD V0 (fun x=>(n,.d (gD x)) :: V0) xs:=by
 rw [Bool.and_eq_true,beq_iff_eq] at hn
 obtain ⟨hn,rfl⟩:=hn
 exact tgt_name hn (locB_is hl) (freshB_is h0)
theorem takes_tupN {t:PySem.Expr} {ds:List D} {V:List (Str × AV)} (ns:List Str) (hn:(tupOk t && tupOf t == ns)=true) (hl:ns.all (locB φ)=true) (hlen:ns.length=ds.length):Takes φ t (.tup ds) V ((ns.zip (ds.map AV.d)).reverse ++ V):=by
 rw [Bool.and_eq_true,beq_iff_eq] at hn
 obtain ⟨hn,rfl⟩:=hn
 exact takes_tup hn (fun x hx=>locB_is (List.all_eq_true.mp hl x hx)) hlen
theorem takes_nameN {t:PySem.Expr} {d:D} {V:List (Str × AV)} (n:Str) (hn:(isNm t && nameOf t == n)=true) (hl:locB φ n=true):Takes φ t d V ((n,.d d) :: V):=takes_name hn (locB_is hl)
end
mutual
noncomputable def D.nb:D->Bool
 | .bool _=>false
 | .rng _ _ _=>false
 | .tup l=>D.nbs l
 | .lst l=>D.nbs l
 | .str s=>PyData.strOk s
 | _=>true
noncomputable def D.nbs:List D->Bool
 | []=>true
 | x :: r=>D.nb x && D.nbs r
end
mutual
noncomputable def D.dep:D->Nat
 | .tup l=>D.deps l+1
 | .lst l=>D.deps l+1
 | _=>0
noncomputable def D.deps:List D->Nat
 | []=>0
 | x :: r=>max (D.dep x) (D.deps r)
end
mutual
theorem nb_plain:∀ {x:D},D.nb x=true->D.plain x=true
 | .none,_=>rfl
 | .bool _,h=>by cases h
 | .int _,_=>rfl
 | .str _,_=>rfl
 | .tup l,h=>nbs_plain (x:=l) h
 | .lst l,h=>nbs_plain (x:=l) h
 | .rng _ _ _,h=>by cases h
theorem nbs_plain:∀ {x:List D},D.nbs x=true->D.plains x=true
 | [],_=>rfl
 | x :: r,h=>by
  have h':(D.nb x && D.nbs r)=true:=h
  rw [Bool.and_eq_true] at h'
  show (D.plain x && D.plains r)=true
  rw [nb_plain h'.1,nbs_plain h'.2]; rfl
end
mutual
theorem nb_lay:∀ {x:D},D.nb x=true->(D.py x).canLay0=true
 | .none,_=>by simp only [D.py,PyData.canLay0]
 | .bool _,h=>by cases h
 | .int _,_=>by simp only [D.py,PyData.canLay0]
 | .str _,h=>by simp only [D.py,PyData.canLay0]; exact h
 | .tup l,h=>by simp only [D.py,PyData.canLay0]; exact nbs_lay (x:=l) h
 | .lst l,h=>by simp only [D.py,PyData.canLay0]; exact nbs_lay (x:=l) h
 | .rng _ _ _,h=>by cases h
theorem nbs_lay:∀ {x:List D},D.nbs x=true->PyData.canLayAll0 (D.pys x)=true
 | [],_=>by simp only [D.pys,PyData.canLayAll0]
 | x :: r,h=>by
  have h':(D.nb x && D.nbs r)=true:=h
  rw [Bool.and_eq_true] at h'
  simp only [D.pys,PyData.canLayAll0]
  rw [nb_lay h'.1,nbs_lay h'.2]; rfl
end
mutual
theorem dep_py:∀ x:D,(D.py x).depth=D.dep x
 | .none=>by simp only [D.py,PyData.depth,D.dep]
 | .bool _=>by simp only [D.py,PyData.depth,D.dep]
 | .int _=>by simp only [D.py,PyData.depth,D.dep]
 | .str _=>by simp only [D.py,PyData.depth,D.dep]
 | .tup l=>by simp only [D.py,PyData.depth,D.dep,deps_py l]
 | .lst l=>by simp only [D.py,PyData.depth,D.dep,deps_py l]
 | .rng _ _ _=>by simp only [D.py,PyData.depth,D.dep]
theorem deps_py:∀ l:List D,PyData.depthAll (D.pys l)=D.deps l
 | []=>by simp only [D.pys,PyData.depthAll,D.deps]
 | x :: r=>by simp only [D.pys,PyData.depthAll,D.deps,dep_py x,deps_py r]
end
theorem nb_shaped {x:D} (h:D.nb x=true) (hd:D.dep x<=64):PySem.SeqAt.shaped (D.py x)=true:=by
 unfold PySem.SeqAt.shaped
 rw [nb_lay h,dep_py,decide_eq_true hd]; rfl
mutual
theorem nb_mix:∀ {x y:D},D.nb x=true->D.nb y=true->PySem.SeqAt.noMix (D.py x) (D.py y)=true
 | x,y,hx,hy=>by
  induction x using D.casesOn with
  | bool _=>cases hx
  | rng _ _ _=>cases hx
  | lst l=>
   induction y using D.casesOn with
   | bool _=>cases hy
   | rng _ _ _=>cases hy
   | lst l'=>simp only [D.py,PySem.SeqAt.noMix]; exact nbs_mix (x:=l) (y:=l') hx hy
   | _=>simp only [D.py,PySem.SeqAt.noMix]
  | tup l=>
   induction y using D.casesOn with
   | bool _=>cases hy
   | rng _ _ _=>cases hy
   | tup l'=>simp only [D.py,PySem.SeqAt.noMix]; exact nbs_mix (x:=l) (y:=l') hx hy
   | _=>simp only [D.py,PySem.SeqAt.noMix]
  | _=>
   induction y using D.casesOn with
   | bool _=>cases hy
   | rng _ _ _=>cases hy
   | _=>simp only [D.py,PySem.SeqAt.noMix]
theorem nbs_mix:∀ {x y:List D},D.nbs x=true->D.nbs y=true->PySem.SeqAt.noMixAll (D.pys x) (D.pys y)=true
 | [],[],_,_=>by simp only [D.pys,PySem.SeqAt.noMixAll]
 | [],_ :: _,_,_=>by simp only [D.pys,PySem.SeqAt.noMixAll]
 | _ :: _,[],_,_=>by simp only [D.pys,PySem.SeqAt.noMixAll]
 | x :: xs,y :: ys,hx,hy=>by
  have hx':(D.nb x && D.nbs xs)=true:=hx
  have hy':(D.nb y && D.nbs ys)=true:=hy
  rw [Bool.and_eq_true] at hx' hy'
  simp only [D.pys,PySem.SeqAt.noMixAll]
  rw [nb_mix hx'.1 hy'.1,nbs_mix hx'.2 hy'.2]; rfl
end
mutual
theorem same_iff:∀ {x y:D},D.nb x=true->D.nb y=true->(PySem.Spec.same (D.py x) (D.py y)=true ↔ x=y)
 | x,y,hx,hy=>by
  induction x using D.casesOn with
  | bool _=>cases hx
  | rng _ _ _=>cases hx
  | lst l=>
   induction y using D.casesOn with
   | bool _=>cases hy
   | rng _ _ _=>cases hy
   | lst l'=>
    simp only [D.py,PySem.Spec.same]
    rw [sames_iff (x:=l) (y:=l') hx hy]
    exact ⟨fun e=>by rw [e],fun e=>by cases e; rfl⟩
   | _=>simp [D.py,PySem.Spec.same]
  | tup l=>
   induction y using D.casesOn with
   | bool _=>cases hy
   | rng _ _ _=>cases hy
   | tup l'=>
    simp only [D.py,PySem.Spec.same]
    rw [sames_iff (x:=l) (y:=l') hx hy]
    exact ⟨fun e=>by rw [e],fun e=>by cases e; rfl⟩
   | _=>simp [D.py,PySem.Spec.same]
  | _=>
   induction y using D.casesOn with
   | bool _=>cases hy
   | rng _ _ _=>cases hy
   | _=>simp [D.py,PySem.Spec.same]
theorem sames_iff:∀ {x y:List D},D.nbs x=true->D.nbs y=true->(PySem.Spec.sameAll (D.pys x) (D.pys y)=true ↔ x=y)
 | [],[],_,_=>by simp [D.pys,PySem.Spec.sameAll]
 | [],_ :: _,_,_=>by simp [D.pys,PySem.Spec.sameAll]
 | _ :: _,[],_,_=>by simp [D.pys,PySem.Spec.sameAll]
 | x :: xs,y :: ys,hx,hy=>by
  have hx':(D.nb x && D.nbs xs)=true:=hx
  have hy':(D.nb y && D.nbs ys)=true:=hy
  rw [Bool.and_eq_true] at hx' hy'
  simp only [D.pys,PySem.Spec.sameAll,Bool.and_eq_true,List.cons.injEq]
  rw [same_iff hx'.1 hy'.1,sames_iff hx'.2 hy'.2]
end
theorem nbs_of {l:List D} (h:∀ x ∈ l,D.nb x=true):D.nbs l=true:=by
 induction l with
 | nil=>rfl
 | cons x r ih=>
  show (D.nb x && D.nbs r)=true
  rw [h x (List.mem_cons_self ..),ih fun y hy=>h y (List.mem_cons_of_mem _ hy)]; rfl
theorem deps_of {l:List D} {n:Nat} (h:∀ x ∈ l,D.dep x<=n):D.deps l<=n:=by
 induction l with
 | nil=>exact Nat.zero_le _
 | cons x r ih=>
  show max (D.dep x) (D.deps r)<=n
  have:=h x (List.mem_cons_self ..)
  have:=ih fun y hy=>h y (List.mem_cons_of_mem _ hy)
  omega
noncomputable def Flat (x:D):Prop:=D.nb x=true /\ D.dep x<=3
theorem flat_lst {l:List D} (h:∀ x ∈ l,D.nb x=true /\ D.dep x<=2):Flat (.lst l):=⟨nbs_of fun x hx=>(h x hx).1,by
 show D.deps l+1<=3
 have:=deps_of fun x hx=>(h x hx).2
 omega⟩
namespace Cx
variable (c:Cx)
noncomputable section
noncomputable def eqF (a b:AV) (d1 d2:D) (r:Bool) (hr:r=true ↔ d1=d2) (h1:asD1 c.m c.nx a d1) (h2:asD1 c.m c.nx b d2) (f1:Flat d1) (f2:Flat d2):EvO:=
 c.eqD a b d1 d2 r (by have:=same_iff f1.1 f2.1; rw [<- hr] at this; exact Bool.eq_iff_iff.mpr this) h1 h2 (nb_plain f1.1) (nb_plain f2.1) (nb_shaped f1.1 (Nat.le_trans f1.2 (by decide))) (nb_shaped f2.1 (Nat.le_trans f2.2 (by decide))) (nb_mix f1.1 f2.1)
noncomputable def neF (a b:AV) (d1 d2:D) (r:Bool) (hr:r=true ↔ d1=d2) (h1:asD1 c.m c.nx a d1) (h2:asD1 c.m c.nx b d2) (f1:Flat d1) (f2:Flat d2):EvO:=
 c.neD a b d1 d2 r (by have:=same_iff f1.1 f2.1; rw [<- hr] at this; exact Bool.eq_iff_iff.mpr this) h1 h2 (nb_plain f1.1) (nb_plain f2.1) (nb_shaped f1.1 (Nat.le_trans f1.2 (by decide))) (nb_shaped f2.1 (Nat.le_trans f2.2 (by decide))) (nb_mix f1.1 f2.1)
end
end Cx
section
variable {prog:Program} {w:World} {K:Frag} {btab:List (Str × Value)} {k:Nat} {m:Nat->MO} {nx:Nat}
theorem c_typeL {n:Nat} {ds:List D} (hn:n < nx) (hm:m n=.list ds):CallTr prog w K btab k (.k (.type "type")) [.loc n] [] m nx (.k (.type "list")) m nx:=by
 refine call1 (act_same fun W A s tr Q E hA hS ⟨v,hv,htr⟩ hq=>?_)
 subst htr
 cases hv
 obtain ⟨vs,e,ho,_⟩:=loc_ex hS hn hm
 have ht:s.TypeIs (.ref (W.ι n)) "list" := ⟨_,ho,rfl⟩
 exact call_type_of ht (by decide) (hq s.heap s.toks _ (Keeps.refl _) (.k _))
noncomputable def patFs (K:Frag) (p:Addr):Array Value:=match K.lookup p with
 | some o=>(match o.data with | .fields vs=>vs | _=>#[])
 | none=>#[]
noncomputable def patCa (K:Frag) (p:Addr):Addr:=match (patFs K p).getD 5 .none with
 | .ref a=>a
 | _=>0
noncomputable def patCs (K:Frag) (p:Addr):Array Value:=match K.lookup (patCa K p) with
 | some o=>(match o.data with | .seq vs _=>vs | _=>#[])
 | none=>#[]
noncomputable def patChk (K:Frag) (p:Addr):Bool:=(match K.lookup p with
 | some o=>(o.cls == .type "re.Pattern") && (match o.dict with | none=>true | some _=>false) && (match o.data with | .fields vs=>(Builtin.Re.reRawNat (vs.getD 6 .none) == 0) && (match vs.getD 5 .none with | .ref _=>true | _=>false) | _=>false)
 | none=>false) && (match K.lookup (patCa K p) with
 | some o=>(match o.data with | .seq _ _=>true | _=>false)
 | none=>false)
theorem pat_of {p:Addr} (hc:patChk K p=true) (h1:∀ m:Sre.M,m.code=((patCs K p).map Builtin.Re.reRawOf).map (·.toNat)->m.hasFirstSet=true):Pat K p (patCa K p) (patCs K p):=by
 refine ⟨fun h X=>?_,h1⟩
 unfold patChk at hc
 rw [Bool.and_eq_true] at hc
 obtain ⟨hc1,hc2⟩:=hc
 cases q1:K.lookup p with
 | none=>rw [q1] at hc1; cases hc1
 | some o=>
  rw [q1] at hc1
  cases q2:K.lookup (patCa K p) with
  | none=>rw [q2] at hc2; cases hc2
  | some oc=>
   rw [q2] at hc2
   dsimp only at hc1 hc2
   rw [Bool.and_eq_true,Bool.and_eq_true] at hc1
   obtain ⟨⟨c1,c2⟩,c3⟩:=hc1
   have e1:o.cls=.type "re.Pattern" := eq_of_beq c1
   have e2:o.dict=none:=by revert c2; cases o.dict <;> simp
   cases hd:o.data with
   | fields vs=>
    rw [hd] at c3
    dsimp only at c3
    rw [Bool.and_eq_true] at c3
    obtain ⟨c4,c5⟩:=c3
    cases hdc:oc.data with
    | seq cs n=>
     have e3:patFs K p=vs:=by unfold patFs; rw [q1]; dsimp only; rw [hd]
     have e4:patCs K p=cs:=by unfold patCs; rw [q2]; dsimp only; rw [hdc]
     have e5:vs.getD 5 .none=.ref (patCa K p):=by
      unfold patCa
      rw [e3]
      revert c5
      cases vs.getD 5 .none <;> simp
     exact ⟨o,oc,vs,n,X _ _ q1,X _ _ q2,e1,e2,hd,eq_of_beq c4,e5,by rw [e4]; exact hdc⟩
    | _=>rw [hdc] at hc2; cases hc2
   | _=>rw [hd] at c3; cases c3
noncomputable def Prn (x:Str):Prop:=∀ c ∈ x.cps.toList,32<=c /\ c < 127
noncomputable def setChk (code:Array Nat) (c:Nat) (seen:Sre.Seen):Bool:=match Sre.inSet code c code.size 5 true seen with
 | .ok (false,_)=>true
 | _=>false
set_option tactic.hygienic true in
theorem noneIn_of {code:Array Nat} (h:∀ seen,((List.range 95).all fun i=>setChk code (i+32) seen)=true) {x:Str} (hx:Prn x):NoneIn code x.cps x.cps.size:=by
 intro j hj seen
 have hm:x.cps.getD j 0 ∈ x.cps.toList:=by
  rw [Array.getD_eq_getD_getElem?,Array.getElem?_eq_getElem hj]
  simp
 obtain ⟨h1,h2⟩:=hx _ hm
 have:=List.all_eq_true.mp (h seen) (x.cps.getD j 0 - 32) (List.mem_range.mpr (by omega))
 rw [show x.cps.getD j 0 - 32+32=x.cps.getD j 0 by omega] at this
 unfold setChk at this
 split at this
 ·rename_i s e; exact ⟨s,e⟩
 ·cases this
end
namespace Cx
variable (c:Cx)
noncomputable section
noncomputable def typeL (n:Nat) (ds:List D) (hn:n < c.nx) (hm:c.m n=.list ds):EvO:=.call (show c.Call (.k (.type "type")) [.loc n] (.k (.type "list")) c.m c.nx from c_typeL hn hm)
noncomputable def mSearch (p:Addr) (P:Pat c.K p (patCa c.K p) (patCs c.K p)):EvO:=.meth (show c.Meth (.k (.ref p)) "search" _ from m_search P)
noncomputable def cSearch (p:Addr) (P:Pat c.K p (patCa c.K p) (patCs c.K p)) (x:Str) (hn:NoneIn (((patCs c.K p).map Builtin.Re.reRawOf).map (·.toNat)) x.cps x.cps.size):EvO:=.call (show c.Call (.k (.builtin "re.Pattern.search")) [.k (.ref p),.d (.str x)] (.d .none) c.m c.nx from c_search P hn)
end
end Cx
noncomputable def topEs (K:Frag) (a:Addr):List (Str × Tok × Int × Tok):=match K.lookup a with
 | some o=>(match o.data with
  | .dict es _=>es.toList.filterMap fun e=>(match e.key,e.val with | .str s t,.int i u=>some (s,t,i,u) | _,_=>none)
  | _=>[])
 | none=>[]
noncomputable def topNo (K:Frag) (a:Addr):Nat:=match K.lookup a with
 | some o=>(match o.data with | .dict _ n=>n | _=>0)
 | none=>0
noncomputable def topEntry (w:World) (p:Str × Tok × Int × Tok):DictEntry:={ hash:=hashStr w p.1,key:=.str p.1 p.2.1,val:=.int p.2.2.1 p.2.2.2 }
noncomputable def topObj (w:World) (l:List (Str × Tok × Int × Tok)) (n:Nat):Obj:={ cls:=.type "dict",dict:=none,data:=.dict (l.map (topEntry w)).toArray n,slots:=#[] }
structure TopD (w:World) (K:Frag) (a:Addr) (l:List (Str × Int)):Prop where
 at_:K.lookup a=some (topObj w (topEs K a) (topNo K a))
 is:(topEs K a).map (fun p=>(p.1,p.2.2.1))=l
 nd:nodupB (l.map (·.1))=true
 ns:Nat.beq a sysModules=false
section
variable {prog:Program} {w:World} {K:Frag} {btab:List (Str × Value)} {k:Nat} {m:Nat->MO} {nx:Nat} {a:Addr} {l:List (Str × Int)}
theorem top_pairs (L:List (Str × Tok × Int × Tok)):Pairs (PySem.strKind prog w) (L.map (topEntry w)) (L.map fun p=>(p.1,Value.int p.2.2.1 p.2.2.2)):=by
 induction L with
 | nil=>exact .nil
 | cons p r ih=>exact .cons (by show (p.1 == p.1)=true; exact beq_self_eq_true _) rfl ih
theorem TopD.dict (T:TopD w K a l) {h:Heap} (X:K.In h):h.DictOf (PySem.strKind prog w) a ((topEs K a).map fun p=>(p.1,Value.int p.2.2.1 p.2.2.2)):=by
 refine ⟨_,_,_,X _ _ T.at_,⟨rfl,rfl,rfl⟩,rfl,fun e he=>?_,?_,?_⟩
 ·simp only [List.mem_toArray,List.mem_map] at he
  obtain ⟨p,_,rfl⟩:=he
  exact ⟨p.1,by show (p.1 == p.1)=true; exact beq_self_eq_true _,rfl⟩
 ·exact top_pairs _
 ·have:=nodupB_nd T.nd
  rw [<- T.is,List.map_map] at this
  rw [List.map_map]
  exact this
theorem top_vds {B:BM} (L:List (Str × Tok × Int × Tok)):VDs B ((L.map fun p=>(p.1,D.int p.2.2.1)).map (·.2)) ((L.map fun p=>(p.1,Value.int p.2.2.1 p.2.2.2)).map (·.2)):=by
 induction L with
 | nil=>exact .nil
 | cons p r ih=>exact .cons (.int _ _) ih
theorem TopD.look (T:TopD w K a l) (x:Str):((topEs K a).map fun p=>(p.1,D.int p.2.2.1)).lookup x=(l.lookup x).map D.int:=by
 rw [<- T.is]
 generalize topEs K a=L
 induction L with
 | nil=>rfl
 | cons p r ih=>
  rw [List.map_cons,List.map_cons,List.lookup_cons,List.lookup_cons]
  cases x == p.1 with
  | true=>rfl
  | false=>exact ih
theorem m_getTop (T:TopD w K a l):MethTr prog w K btab k (.k (.ref a)) "get" m nx (.k (.builtin "dict.get")) [.k (.ref a)] nx m:=by
 refine act_same fun W A s tr Q E hA hS ⟨vo,pl,hv,htr⟩ hq=>?_
 subst htr
 cases hv
 have X:=hS.facts.1
 have hd:=T.dict (prog:=prog) X
 refine getMethod_builtin hd.typeIs PySem.F.plainAttrs_dict PySem.F.slot_dict_get PySem.F.type_dict_get (fun b e=>by cases e; exact ⟨_,X _ _ T.at_,rfl⟩) ?_
 exact hq s.heap s.toks _ (Keeps.refl _) ⟨.k _,.cons (.k _) .nil⟩
theorem c_getTop (T:TopD w K a l) {x:Str} {i:Int}:CallTr prog w K btab k (.k (.builtin "dict.get")) [.k (.ref a),.d (.str x),.d (.int i)] [] m nx (.d (.int ((l.lookup x).getD i))) m nx:=by
 refine call3 (act_same fun W A s tr Q E hA hS ⟨u,v,y,hu,hv,hy,htr⟩ hq=>?_)
 subst htr
 obtain ⟨t,rfl⟩:=va_str hv
 cases hu
 have hd:=T.dict (prog:=prog) hS.facts.1
 have e1:((topEs K a).map fun p=>(p.1,Value.int p.2.2.1 p.2.2.2)).map (·.1)=((topEs K a).map fun p=>(p.1,D.int p.2.2.1)).map (·.1):=by rw [List.map_map,List.map_map]; rfl
 have e2:VDs W.B _ _:=top_vds (topEs K a)
 have fin:VA W nx (.d (.int ((l.lookup x).getD i))) ((valueAt ((topEs K a).map fun p=>(p.1,Value.int p.2.2.1 p.2.2.2)) x).getD y):=by
  have hl:=T.look x
  cases q:l.lookup x with
  | none=>rw [q] at hl; rw [value_none e1 e2 hl]; exact hy
  | some d=>rw [q] at hl; obtain ⟨v',a1,a2⟩:=value_at e1 e2 hl; rw [a1]; exact .d a2
 have hne:(a == sysModules)=false:=by
  have:=T.ns
  cases q:a == sysModules with
  | false=>rfl
  | true=>rw [eq_of_beq q] at this; simp at this
 exact call_meetsIn PySem.F.slot_dict_get hd.typeIs PySem.F.entry_dict_get (PySem.F.args_dict_get_3 _ _ _) (meets_dict_get_default (PySem.strKind prog w) (k:=x) _ (by show (x == x)=true; exact beq_self_eq_true x) hne _) ⟨_,hd.mapOf,hq s.heap _ _ (Keeps.refl _) fin⟩
theorem i_top (T:TopD w K a l) {x:Str} {i:Int} (hx:l.lookup x=some i):ItemTr prog w K btab k (.k (.ref a)) (.d (.str x)) m nx (.d (.int i)) m nx:=by
 refine act_same fun W A s tr Q E hA hS ⟨vo,vi,value,slice,hsub,hvo,hvi,htr⟩ hq=>?_
 subst htr
 obtain ⟨t,rfl⟩:=va_str hvi
 cases hvo
 have hd:=T.dict (prog:=prog) hS.facts.1
 have e1:((topEs K a).map fun p=>(p.1,Value.int p.2.2.1 p.2.2.2)).map (·.1)=((topEs K a).map fun p=>(p.1,D.int p.2.2.1)).map (·.1):=by rw [List.map_map,List.map_map]; rfl
 have e2:VDs W.B _ _:=top_vds (topEs K a)
 have hl:=T.look x
 rw [hx] at hl
 obtain ⟨v,e3,e4⟩:=value_at e1 e2 hl
 exact subT hd.typeIs PySem.F.slot_dict_getitem.lookup (wpAny_getItem_of (knd:=PySem.strKind prog w) (k:=x) (by show (x == x)=true; exact beq_self_eq_true x) hd.mapOf e3 (hq s.heap _ _ (Keeps.refl _) (.d e4))) (hsub _ _)
end
namespace Cx
variable (c:Cx)
noncomputable section
noncomputable def mGetTop (a:Addr) (l:List (Str × Int)) (T:TopD c.w c.K a l):EvO:=.meth (show c.Meth (.k (.ref a)) "get" _ from m_getTop T)
noncomputable def cGetTop (a:Addr) (l:List (Str × Int)) (T:TopD c.w c.K a l) (x:Str) (i r:Int) (hr:(l.lookup x).getD i=r):EvO:=.call (show c.Call (.k (.builtin "dict.get")) [.k (.ref a),.d (.str x),.d (.int i)] (.d (.int r)) c.m c.nx from hr ▸ c_getTop T)
noncomputable def itemTop (a:Addr) (l:List (Str × Int)) (T:TopD c.w c.K a l) (x:Str) (i:Int) (hx:l.lookup x=some i):EvO:=.item (show c.Item (.k (.ref a)) (.d (.str x)) (.d (.int i)) from i_top T hx)
end
end Cx
section
variable (prog:Program) (w:World) (K:Frag) (btab:List (Str × Value)) (k:Nat) (φ:Fm)
end
section
variable {prog:Program} {w:World} {K:Frag} {btab:List (Str × Value)} {k:Nat} {φ:Fm}
set_option tactic.hygienic true in
set_option backward.match.sparseCases false in
set_option tactic.hygienic true in
set_option tactic.hygienic true in
end
section
variable {prog:Program} {w:World} {K:Frag} {btab:List (Str × Value)} {k:Nat} {m:Nat->MO} {nx:Nat}
end
section
variable {prog:Program} {w:World} {K:Frag} {btab:List (Str × Value)} {k:Nat} {φ:Fm}
end
section
variable {prog:Program} {w:World} {K:Frag} {btab:List (Str × Value)} {k:Nat} {m:Nat->MO} {nx:Nat}
noncomputable def hasOk (K:Frag) (C f:Addr):Bool:=(findIn K (.ref C) "__contains__" == some (some (.ref f))) && isFn K (.ref f)
theorem q_notInO {n j:Nat} {C f:Addr} {a:AV} {l:List (Str × AV)} {b:Bool} (hn:n < nx) (h1:m n=.inst C j) (h2:m j=.ns l) (hc:hasOk K C f=true) (hcall:CallTr prog w K btab k (.k (.ref f)) [.loc n,a] [] m nx (.d (.bool b)) m nx) :
  CmpTr prog w K btab k .NotIn a (.loc n) m nx (!b) m nx:=by
 intro W A s tr Q E hA hS _ ⟨va,vb,hva,hvb,htr⟩ hq
 subst htr
 cases hvb
 obtain ⟨_,od,es,ep,mp,I,b1,b2,b3,b4,bz,b5,b6⟩:=inst_at hS hn h1 h2
 unfold hasOk at hc
 rw [Bool.and_eq_true] at hc
 obtain ⟨c1,c2⟩:=hc
 have X:=hS.facts.1
 refine wpAny_bind ?_
 unfold contains
 refine wpAny_holding (wpAny_bind (wpAny_bind (I.type.here ((looks_findIn X (beq_iff_eq.mp c1)).here ?_))))
 rw [if_neg (by simp)]
 refine wpAny_bind (unlessNone_K X I (beq_iff_eq.mp c1) c2 ?_)
 refine hcall W A s _ _ E hA hS trivial ⟨_,_,[],.k _,.cons (.loc hn) (.cons hva .nil),.nil,rfl⟩ fun W' h' tk' v hn' hl hS' r=>?_
 cases r with
 | d r=>
  cases r
  exact wpAny_truthy_bool (wpAny_pure (hq W' h' tk' _ hn' hl hS' rfl))
end
noncomputable def ltI:List Int->List Int->Bool
 | [],[]=>false
 | [],_ :: _=>true
 | _ :: _,[]=>false
 | a :: r,b :: r'=>if a=b then ltI r r' else decide (a < b)
section
open PySem.SeqAt MeetsSeq MeetsSeq2 MeetsSeq3 SeqRoads2
open AutoSeq1 (wpAny_loadPart')
theorem ints_get:∀ {vs:List Value} {xs:List Int},IntsAre vs xs->∀ {i:Nat} {a:Int},xs[i]? = some a->∃ t,vs[i]? = some (.int a t)
 | _,_,.nil,_,_,h=>by cases h
 | _,_,.cons _ t _,0,_,h=>by cases h; exact ⟨t,rfl⟩
 | _,_,.cons _ _ r,i+1,_,h=>ints_get r (i:=i) h
theorem ints_len:∀ {vs:List Value} {xs:List Int},IntsAre vs xs->vs.length=xs.length
 | _,_,.nil=>rfl
 | _,_,.cons _ _ r=>by rw [List.length_cons,List.length_cons,ints_len r]
theorem lt_loopAt (l b:Addr) (vs us:List Value) (xs ys:List Int) (n n2:Nat) (dd dd2:Option Addr) (sl sl2:Array (Option Value)) (hx:IntsAre vs xs) (hy:IntsAre us ys) (k:Nat) :
  ∀ i:Nat,xs.length - i=k->i<=xs.length->i<=ys.length->Meets (Builtin.«list.__eq__.loop» ⟨[.ref l,.ref b,rawInt i,rawInt 0],[]⟩)
   (fun A R s=>s.heap.get? l=some { cls:=.type "list",dict:=dd,data:=.seq vs.toArray n,slots:=sl } /\ s.heap.get? b=some { cls:=.type "list",dict:=dd2,data:=.seq us.toArray n2,slots:=sl2 } /\
    R (.ok (.ret (.bool (ltI (xs.drop i) (ys.drop i))))) s):=by
 have lx:=ints_len hx
 have ly:=ints_len hy
 induction k with
 | zero=>
  intro i hk h1 h2 prog w A R s h
  obtain ⟨hp,g,d,tk,os⟩:=s; obtain ⟨hl,hb,h⟩:=h
  wp_walk using wpAny_loadPart' hl,wpAny_loadPart' hb
  have hi1:vs.toArray[((i:Nat):Int).toNat]? = none:=by simp; omega
  have hd:xs.drop i = []:=by simp; omega
  rw [hd] at h
  rw [hi1]
  wp_walk using wpAny_loadPart' hl,wpAny_loadPart' hb
  show R (.ok (.ret (.bool (decide (vs.toArray.size < us.toArray.size))))) _
  have e:decide (vs.toArray.size < us.toArray.size)=ltI [] (ys.drop i):=by
   rw [List.size_toArray,List.size_toArray,lx,ly]
   cases q:ys.drop i with
   | nil=>have:=List.drop_eq_nil_iff.mp q; exact decide_eq_false (by omega)
   | cons a r=>
    have:i < ys.length:=by
     rcases Nat.lt_or_ge i ys.length with h | h
     ·exact h
     ·rw [List.drop_eq_nil_iff.mpr h] at q; cases q
    exact decide_eq_true (by omega)
  rw [e]
  exact h
 | succ k ih=>
  intro i hk h1 h2 prog w A R s h
  obtain ⟨hp,g,d,tk,os⟩:=s; obtain ⟨hl,hb,h⟩:=h
  wp_walk using wpAny_loadPart' hl,wpAny_loadPart' hb
  have hlt:i < xs.length:=by omega
  have hdx:xs.drop i=xs[i] :: xs.drop (i+1):=List.drop_eq_getElem_cons hlt
  obtain ⟨t,ht⟩:=ints_get hx (List.getElem?_eq_getElem hlt)
  have hi1:vs.toArray[((i:Nat):Int).toNat]? = some (.int xs[i] t):=by simpa using ht
  rw [hdx] at h
  by_cases hy2:i < ys.length
  ·have hdy:ys.drop i=ys[i] :: ys.drop (i+1):=List.drop_eq_getElem_cons hy2
   obtain ⟨u,hu⟩:=ints_get hy (List.getElem?_eq_getElem hy2)
   have hi2:us.toArray[((i:Nat):Int).toNat]? = some (.int ys[i] u):=by simpa using hu
   have hc:((i:Int)+1)=((i+1:Nat):Int):=by push_cast; rfl
   rw [hdy] at h
   rw [hi1,hi2]
   refine wpAny_bind (EqAt.int_int xs[i] t ys[i] u prog w _ _ ?_)
   cases hb':(xs[i] == ys[i]) with
   | true=>
    have he:xs[i]=ys[i]:=eq_of_beq hb'
    unfold ltI at h
    rw [if_pos he] at h
    wp_walk
    rw [hc]
    exact ⟨plainId_quiet plain_eq_loop _,codeAny_builtin entry_eq_loop (by
     rw [Around.under_plainId plain_eq_loop _]
     exact ih (i+1) (by omega) (by omega) (by omega) prog w A R _ ⟨hl,hb,h⟩)⟩
   | false=>
    have he:¬ xs[i]=ys[i]:=fun e=>by rw [e,beq_self_eq_true] at hb'; cases hb'
    unfold ltI at h
    rw [if_neg he] at h
    wp_walk using wpAny_loadPart' hl,wpAny_loadPart' hb
    rw [hi1,hi2]
    refine wpAny_bind ?_
    refine (show wpAny (model prog w) _ (compareOp .Lt (.int xs[i] t) (.int ys[i] u)) _ _ _ from wpAny_lt_int ?_)
    wp_walk
    exact h
  ·have hdy:ys.drop i = []:=List.drop_eq_nil_iff.mpr (by omega)
   have hi2:us.toArray[((i:Nat):Int).toNat]? = none:=by simp; omega
   rw [hdy] at h
   rw [hi1,hi2]
   wp_walk using wpAny_loadPart' hl,wpAny_loadPart' hb
   show R (.ok (.ret (.bool (decide (vs.toArray.size < us.toArray.size))))) _
   have e:decide (vs.toArray.size < us.toArray.size)=ltI (xs[i] :: xs.drop (i+1)) []:=by
    rw [List.size_toArray,List.size_toArray,lx,ly]
    exact decide_eq_false (by omega)
   rw [e]
   exact h
theorem list_ltAt (l b:Addr) (vs us:List Value) (xs ys:List Int) (n n2:Nat) (dd dd2:Option Addr) (sl sl2:Array (Option Value)) (hx:IntsAre vs xs) (hy:IntsAre us ys) :
  Meets (Builtin.«list.__lt__» ⟨[.ref l,.ref b],[]⟩)
   (fun _ R s=>s.heap.get? l=some { cls:=.type "list",dict:=dd,data:=.seq vs.toArray n,slots:=sl } /\ s.heap.get? b=some { cls:=.type "list",dict:=dd2,data:=.seq us.toArray n2,slots:=sl2 } /\
    R (.ok (.ret (.bool (ltI xs ys)))) s):=by
 intro prog w A R s h
 obtain ⟨hp,g,d,tk,os⟩:=s; obtain ⟨hl,hb,h⟩:=h
 have f3:=AutoSeq1.sub_list_list
 wp_walk using wpAny_loadPart' hl,wpAny_loadPart' hb
 exact ⟨plainId_quiet plain_eq_loop _,codeAny_builtin entry_eq_loop (by
  rw [Around.under_plainId plain_eq_loop _]
  exact lt_loopAt l b vs us xs ys n n2 dd dd2 sl sl2 hx hy _ 0 rfl (Nat.zero_le _) (Nat.zero_le _) prog w A R _ ⟨hl,hb,h⟩)⟩
end
section
variable {prog:Program} {w:World} {K:Frag} {btab:List (Str × Value)} {k:Nat} {m:Nat->MO} {nx:Nat}
theorem lt_lists {A:Around} {E:Value->Shared->Prop} {s:Shared} {Q:Value->Shared->Prop} {l b:Addr} {vs us:List Value} {xs ys:List Int} {n n2:Nat} (hl:s.heap.get? l=some (lstObj vs n)) (hb:s.heap.get? b=some (lstObj us n2)) (hx:IntsAre vs xs) (hy:IntsAre us ys) (hu:A.units < cLine)
  (h:Q (.bool (ltI xs ys)) s):wpAny (model prog w) A (compareOp .Lt (.ref l) (.ref b)) Q E s:=
 richCompare_meets_room (op:=.Lt) ⟨_,hl,rfl⟩ ⟨_,hb,rfl⟩ F.slot_list_lt F.entry_list_lt (F.args_list_lt_2 _ _) (list_ltAt l b vs us xs ys n n2 none none #[] #[] hx hy)
  ⟨hl,hb,show Value.bool (ltI xs ys) ≠ Value.notImplemented /\ Q (.bool (ltI xs ys)) s from ⟨(fun x=>nomatch x),h⟩⟩ hu
theorem q_ltL {a b:AV} {xs ys:List Int} (h1:DSrc m nx a (xs.map D.int)) (l1:isLst a) (h2:DSrc m nx b (ys.map D.int)) (l2:isLst b):CmpTr prog w K btab k .Lt a b m nx (ltI xs ys) m nx:=by
 refine cmp2 fun W A s u v Q E hA hS hu hv hq=>?_
 obtain ⟨l,vs,n,rfl,ho,hvs⟩:=seq_at hS hu h1 l1
 obtain ⟨b,us,n2,rfl,ho2,hvs2⟩:=seq_at hS hv h2 l2
 exact lt_lists ho ho2 (ints_of hvs) (ints_of hvs2) (by have:=hA.units; omega) (hq s.heap s.toks (Keeps.refl _))
end
section
variable {prog:Program} {w:World} {A:Around} {E:Value->Shared->Prop} {s:Shared}
noncomputable def askRun {α:Type} (lt:Nat->Nat->Bool):KasT α->α
 | .ret a=>a
 | .ask i j k=>askRun lt (k (lt i j))
noncomputable def askOk {α:Type} (n:Nat):KasT α->Bool
 | .ret _=>true
 | .ask i j k=>Nat.blt i n && Nat.blt j n && askOk n (k true) && askOk n (k false)
theorem ask_wp {α:Type} {n:Nat} {lt:Nat->Nat->Bool} {cmp:Nat->Nat->(Bool->Shared->Prop)->Shared->Prop} {Q:α->Shared->Prop} (hc:∀ i j (C:Bool->Shared->Prop),i < n->j < n->C (lt i j) s->cmp i j C s) :
  ∀ t:KasT α,askOk n t=true->Q (askRun lt t) s->t.kasWp cmp Q s
 | .ret _,_,h=>h
 | .ask i j k,ho,h=>by
  unfold askOk at ho
  simp only [Bool.and_eq_true] at ho
  obtain ⟨⟨⟨h1,h2⟩,h3⟩,h4⟩:=ho
  refine hc i j _ (Nat.le_of_ble_eq_true h1) (Nat.le_of_ble_eq_true h2) ?_
  refine ask_wp hc (k (lt i j)) ?_ h
  cases lt i j with
  | true=>exact h3
  | false=>exact h4
noncomputable def pickV (vs:List Value) (p:Array Nat):Array Value:=List.toArray (p.toList.map fun i=>vs.getD i Value.none)
theorem list_sort_by {a:Addr} {vs:List Value} {n:Nat} {κ:SortKind} {lt:Nat->Nat->Bool} {P:Fin->Shared->Prop} (ho:s.heap.get? a=some (PyProof.Rows.seqObj "list" vs.toArray n)) (h2:2<=vs.length) (h64:vs.length < 64)
  (hk:∀ h',(∀ b o,b ≠ a->s.heap.get? b=some o->h'.get? b=some o)->∀ (Q:SortKind->Shared->Prop) (E:Value->Shared->Prop),Q κ { s with heap:=h' }->wpAny (model prog w) A (keyKind' vs.toArray) Q E { s with heap:=h' })
  (hc:∀ h',(∀ b o,b ≠ a->s.heap.get? b=some o->h'.get? b=some o)->∀ i j (C:Bool->Shared->Prop),i < vs.length->j < vs.length->C (lt i j) { s with heap:=h' }->kas_ask prog w A κ vs i j C { s with heap:=h' })
  (hok:askOk vs.length (kas_sort vs.length)=true) (hsz9:(askRun lt (kas_sort vs.length)).size=vs.length)
  (h:P (.done (.ret .none)) { s with heap:=sortedHeap s.heap a vs (pickV vs (askRun lt (kas_sort vs.length))) }) :
  wpAny (model prog w) A (Builtin.«list.sort» ⟨[.ref a],[]⟩) P E s:=by
 rw [list_sort_plain]
 have ha:a < s.heap.objs.size:=Heap.lt_size ho
 refine wpAny_bind (listItems_at ho rfl ?_)
 refine wpAny_bind (listUpdate_at ho rfl ?_)
 obtain ⟨e1,ho1⟩ : ∃ e1,(s.heap.update a (Obj.mapSeq fun _=>#[])).get? a=some (PyProof.Rows.seqObj "list" #[] e1):=⟨_,get?_update_seq ho (fun _=>#[])⟩
 refine wpAny_bind (seqEpoch_at ho1 rfl ?_)
 refine wpAny_bind (wpAny_newTuple ?_)
 refine wpAny_bind (wpAny_newList ?_)
 refine wpAny_holding ?_
 have ho6:(((s.heap.update a (Obj.mapSeq fun _=>#[])).push (PyProof.Rows.seqObj "tuple" vs.toArray 0)).push (PyProof.Rows.seqObj "list" #[] 0)).get? a=some (PyProof.Rows.seqObj "list" #[] e1):=by
  rw [Heap.get?_push_ne _ _ _ (by rw [size_push',Heap.size_update]; exact Nat.ne_of_lt (Nat.lt_succ_of_lt ha)),Heap.get?_push_ne _ _ _ (by rw [Heap.size_update]; exact Nat.ne_of_lt ha)]
  exact ho1
 show wpAny (model prog w) A _ P E { s with heap:=((s.heap.update a (Obj.mapSeq fun _=>#[])).push (PyProof.Rows.seqObj "tuple" vs.toArray 0)).push (PyProof.Rows.seqObj "list" #[] 0) }
 dsimp only
 have keep:∀ b o,b ≠ a->s.heap.get? b=some o->(((s.heap.update a (Obj.mapSeq fun _=>#[])).push (PyProof.Rows.seqObj "tuple" vs.toArray 0)).push (PyProof.Rows.seqObj "list" #[] 0)).get? b=some o:=fun b o hb e=>
  Heap.get?_push_of_some _ (Heap.get?_push_of_some _ (by rw [Heap.get?_update_ne _ _ _ _ hb]; exact e))
 have hn2:¬ vs.toArray.size < 2:=by rw [List.size_toArray]; omega
 rw [if_neg hn2,if_neg hn2]
 refine wpAny_bind (hk _ keep _ _ ?_)
 obtain ⟨p0,hp0⟩ : ∃ p0,p0=askRun lt (kas_sort vs.length):=⟨_,rfl⟩
 rw [<- hp0] at h hsz9
 refine wpAny_bind (wpAny_mono (kat_run (G:=fun p s'=>s' = { s with heap:=((s.heap.update a (Obj.mapSeq fun _=>#[])).push (PyProof.Rows.seqObj "tuple" vs.toArray 0)).push (PyProof.Rows.seqObj "list" #[] 0) } /\ p=p0) (Q:=fun st' s'=>s' = { s with heap:=((s.heap.update a (Obj.mapSeq fun _=>#[])).push (PyProof.Rows.seqObj "tuple" vs.toArray 0)).push (PyProof.Rows.seqObj "list" #[] 0) } /\ arrOf st'=p0.map (kas_item (vs.toArray.zip vs.toArray)) /\ failedOf st'=none) rfl h2 h64
  (fun p' st' s' _ a2 a3 a4=>⟨a4.1,a4.2 ▸ a2,a3⟩) (ask_wp (fun i j C hi hj hC=>hc _ keep i j C hi hj hC) _ hok ⟨rfl,hp0.symm⟩)) ?_ fun _ _ e=>e)
 rintro ⟨⟨⟩,st'⟩ s' ⟨rfl,har,hf⟩
 dsimp only
 have hout:=kat_snds (vs:=vs) (ks:=vs) rfl har
 rw [hout]
 refine wpAny_bind (seqEpoch_at ho6 rfl ?_)
 refine wpAny_bind (listUpdate_at ho6 rfl ?_ (hsz2:=by refine Nat.le_trans (Nat.le_of_eq (by rw [List.size_toArray,List.length_map,Array.length_toList,hsz9])) ?_; rw [sizeLine_eq]; omega))
 rw [hf]
 simp only [bne_self_eq_false,Bool.false_eq_true,if_false]
 exact wpAny_pure h
theorem sorted_by {l:Addr} {vs:List Value} {κ:SortKind} {lt:Nat->Nat->Bool} {Q:Value->Shared->Prop} (hl:s.heap.IsList l vs.toArray) (h2:2<=vs.length) (h64:vs.length < 64)
  (hk:∀ h',Keeps s.heap h'->∀ (Q:SortKind->Shared->Prop) (E:Value->Shared->Prop),Q κ { s with heap:=h' }->wpAny (model prog w) A.in1.in1 (keyKind' vs.toArray) Q E { s with heap:=h' })
  (hc:∀ h',Keeps s.heap h'->∀ i j (C:Bool->Shared->Prop),i < vs.length->j < vs.length->C (lt i j) { s with heap:=h' }->kas_ask prog w A.in1.in1 κ vs i j C { s with heap:=h' })
  (hok:askOk vs.length (kas_sort vs.length)=true) (hsz9:(askRun lt (kas_sort vs.length)).size=vs.length)
  (h:Q (.ref (s.heap.objs.size+1)) { s with heap:=sortedAll s.heap vs (pickV vs (askRun lt (kas_sort vs.length))) }) :
  wpAny (model prog w) A (call (.builtin "sorted") [.ref l]) Q E s:=by
 refine Calls.call_function_entry kind_sorted plain_sorted entry_sorted (args_sorted1 _) ?_
 unfold Builtin.«sorted»
 refine wpAny_bind (m:=checkCount "sorted" 1 1 _) (wpAny_pure ?_)
 refine wpAny_bind (collect_list hl ?_ (by rw [sizeLine_eq]; omega))
 refine wpAny_bind (wpAny_newList ?_ (by rw [sizeLine_eq]; omega))
 have hsz:((s.heap.push (PyProof.Rows.seqObj "list" #[] 0)).update s.heap.objs.size (Obj.mapSeq (· ++ vs.toArray))).objs.size=s.heap.objs.size+1:=by
  rw [Heap.size_update,size_push']
 have hoL:(((s.heap.push (PyProof.Rows.seqObj "list" #[] 0)).update s.heap.objs.size (Obj.mapSeq (· ++ vs.toArray))).push (PyProof.Rows.seqObj "list" vs.toArray 0)).get? (s.heap.objs.size+1)=some (PyProof.Rows.seqObj "list" vs.toArray 0):=by
  rw [<- hsz]; exact Heap.get?_push_size _ rfl
 have keep:∀ b o,s.heap.get? b=some o->(((s.heap.push (PyProof.Rows.seqObj "list" #[] 0)).update s.heap.objs.size (Obj.mapSeq (· ++ vs.toArray))).push (PyProof.Rows.seqObj "list" vs.toArray 0)).get? b=some o:=fun b o q=>by
  have hlt:b < s.heap.objs.size:=Heap.lt_size q
  rw [Heap.get?_push_ne _ _ _ (by rw [hsz]; exact Nat.ne_of_lt (Nat.lt_succ_of_lt hlt)),Heap.get?_update_ne _ _ _ _ (Nat.ne_of_lt hlt),Heap.get?_push_ne _ _ _ (Nat.ne_of_lt hlt)]
  exact q
 show wpAny _ _ _ _ _ { s with heap:=((s.heap.push (PyProof.Rows.seqObj "list" #[] 0)).update s.heap.objs.size (Obj.mapSeq (· ++ vs.toArray))).push (PyProof.Rows.seqObj "list" vs.toArray 0) }
 rw [hsz]
 have up:∀ h':Heap,(∀ b o,b ≠ s.heap.objs.size+1->(((s.heap.push (PyProof.Rows.seqObj "list" #[] 0)).update s.heap.objs.size (Obj.mapSeq (· ++ vs.toArray))).push (PyProof.Rows.seqObj "list" vs.toArray 0)).get? b=some o->h'.get? b=some o)->Keeps s.heap h':=fun h' k b o e=>
  k b o (Nat.ne_of_lt (Nat.lt_succ_of_lt (Heap.lt_size e))) (keep b o e)
 refine wpAny_bind (wpAny_holding (wpAny_call_entry slot_list_sort ⟨_,hoL,rfl⟩ entry_list_sort ?body (args_list_sort _)))
 case body=>
  refine list_sort_by (s:={ s with heap:=((s.heap.push (PyProof.Rows.seqObj "list" #[] 0)).update s.heap.objs.size (Obj.mapSeq (· ++ vs.toArray))).push (PyProof.Rows.seqObj "list" vs.toArray 0) }) hoL h2 h64 (fun h' k=>hk h' (up h' k)) (fun h' k=>hc h' (up h' k)) hok hsz9 ⟨_,rfl,?_⟩
  exact wpAny_pure ⟨_,rfl,h⟩
noncomputable abbrev Row:=List Int × Int
noncomputable def rT (p:Row):D:=.tup [.lst (p.1.map D.int),.int p.2]
noncomputable def ltT (p q:Row):Bool:=if p.1=q.1 then decide (p.2 < q.2) else ltI p.1 q.1
theorem ints_inj:∀ {vs:List Value} {xs ys:List Int},IntsAre vs xs->IntsAre vs ys->xs=ys
 | _,_,_,.nil,h=>by cases h; rfl
 | _,_,_,.cons _ _ r,h=>by cases h with | cons _ _ r'=>rw [ints_inj r r']
theorem oneLt_list {l b:Addr} {vs us:List Value} {xs ys:List Int} {n n2:Nat} {Q:Bool->Shared->Prop} (hl:s.heap.get? l=some (lstObj vs n)) (hb:s.heap.get? b=some (lstObj us n2)) (hx:IntsAre vs xs) (hy:IntsAre us ys) (hu:A.units < cLine)
  (h:Q (ltI xs ys) s):wpAny (model prog w) A (oneLt' true (.ref l) (.ref b)) Q E s:=by
 rw [oneLt'_eq]
 simp only [if_true]
 refine wpAny_bind (wpAny_cRoomFor hu ?_)
 refine wpAny_bind (wpAny_callSpecialIfBound?_slot ⟨_,hl,rfl⟩ F.slot_list_lt (call_meets F.slot_list_lt ⟨_,hl,rfl⟩ F.entry_list_lt (F.args_list_lt_2 _ _) (list_ltAt l b vs us xs ys n n2 none none #[] #[] hx hy) ⟨hl,hb,?_⟩))
 exact wpAny_truthy_bool h
structure RowAt (h:Heap) (v:Value) (p:Row):Prop where
 at_:(Ex6 fun a n l t us e=>A4 (v=.ref a) (h.get? a=some (tupObj [.ref l,.int p.2 t] n)) (h.get? l=some (lstObj us e)) (IntsAre us p.1))
theorem RowAt.keeps {h h':Heap} {v:Value} {p:Row} (x:RowAt h v p) (k:Keeps h h'):RowAt h' v p:=by
 obtain ⟨a,n,l,t,us,e,h1,h2,h3,h4⟩:=x.at_
 exact ⟨a,n,l,t,us,e,h1,k _ _ h2,k _ _ h3,h4⟩
theorem row_lt {v u:Value} {p q:Row} {Q:Bool->Shared->Prop} (hv:RowAt s.heap v p) (hu:RowAt s.heap u q) (hr:A.in1.units+64 < cLine) (h:Q (ltT p q) s):wpAny (model prog w) A (keyLt' (tuples' true) v u) Q E s:=by
 obtain ⟨a,n,l,t,us,e,rfl,ha,hl,hx⟩:=hv.at_
 obtain ⟨b,n2,l2,t2,us2,e2,rfl,hb,hl2,hy⟩:=hu.at_
 have h2:A.units < cLine:=by rw [Around.in1_units] at hr; omega
 refine kat_lt ha rfl hb rfl ?_
 show KatLex prog w A true false Q [(.ref l,.ref l2),(.int p.2 t,.int q.2 t2)] 0 s
 have eq:SeqAt.EqAt A s (.ref l) (.ref l2) (decide (p.1=q.1)):=by
  by_cases hll:l=l2
  ·subst hll
   rw [hl] at hl2
   have hus:us=us2:=by
    have:=Option.some.inj hl2
    have:=congrArg Obj.data this
    simp only [Data.seq.injEq] at this
    exact by simpa using this.1
   subst hus
   rw [decide_eq_true (ints_inj hx hy)]
   exact SeqAt.EqAt.same _
  ·exact SeqAt.EqAt.of_in1 (keq_ints ⟨_,hl,rfl,_,rfl⟩ hx ⟨_,hl2,rfl,_,rfl⟩ hy hr)
 refine kat_cons (eq prog w _ _ (kat_go (fun he=>?_) fun he=>?_))
 ·have hpq:p.1=q.1:=of_decide_eq_true he
  refine kat_yes (kat_cons (SeqAt.EqAt.int_int p.2 t q.2 t2 prog w _ _ (kat_go (fun he2=>?_) fun he2=>?_)))
  ·have:ltT p q=false:=by unfold ltT; rw [if_pos hpq,eq_of_beq he2]; simp
   rw [this] at h
   exact kat_yes (kat_nil h)
  ·have:ltT p q=decide (p.2 < q.2):=by unfold ltT; rw [if_pos hpq]
   rw [this] at h
   exact kat_no (kat_one _ _ (wpAny_lt_int h))
 ·have hpq:¬ p.1=q.1:=of_decide_eq_false he
  have:ltT p q=ltI p.1 q.1:=by unfold ltT; rw [if_neg hpq]
  rw [this] at h
  exact kat_no (oneLt_list hl hl2 hx hy h2 h)
theorem rows_tups {h:Heap}:∀ {vs:List Value} {ps:List Row},vs.length=ps.length->(∀ i (h1:i < vs.length) (h2:i < ps.length),RowAt h vs[i] ps[i])->(∃ fs,A3 (KatTups h vs fs) (fs.length=ps.length) (∀ v ∈ fs,(Ex3 fun l us e=>v=.ref l /\ h.get? l=some (lstObj us e))))
 | [],[],_,_=>⟨[],.nil,rfl,fun v h=>by cases h⟩
 | [],_ :: _,h,_=>by cases h
 | _ :: _,[],h,_=>by cases h
 | v :: vs,p :: ps,hl,hr=>by
  obtain ⟨a,n,l,t,us,e,h1,h2,h3,h4⟩:=(hr 0 (by simp) (by simp)).at_
  obtain ⟨fs,f1,f2,f3⟩:=rows_tups (vs:=vs) (ps:=ps) (by simpa using hl) (fun i h1 h2=>hr (i+1) (by simpa using h1) (by simpa using h2))
  have h1:v=.ref a:=h1
  subst h1
  refine ⟨.ref l :: fs,.cons h2 rfl rfl rfl f1,by simp [f2],fun y hy=>?_⟩
  rcases List.mem_cons.mp hy with rfl | hy
  ·exact ⟨l,us,e,rfl,h3⟩
  ·exact f3 y hy
end
section
variable {prog:Program} {w:World} {K:Frag} {btab:List (Str × Value)} {k:Nat} {m:Nat->MO} {nx:Nat}
theorem row_of {B:BM} {h:Heap} (hb:∀ a o,B a=some o->h.get? a=some o) {p:Row} {v:Value} (hv:VD B (rT p) v):RowAt h v p:=by
 unfold rT at hv
 cases hv with
 | tup ho hv=>
  cases hv with
  | cons h1 hv=>
   cases hv with
   | cons h2 hv=>
    cases hv
    cases h2
    cases h1 with
    | lst ho2 hv2=>exact ⟨_,_,_,_,_,_,rfl,hb _ _ ho,hb _ _ ho2,ints_of hv2⟩
theorem vds_at {B:BM} {ps:List Row}:∀ {vs:List Value},VDs B (ps.map rT) vs->vs.length=ps.length /\ ∀ i (h1:i < vs.length) (h2:i < ps.length),VD B (rT ps[i]) vs[i]:=by
 induction ps with
 | nil=>intro vs h; cases h; exact ⟨rfl,fun i h=>absurd h (Nat.not_lt_zero _)⟩
 | cons p ps ih=>
  intro vs h
  cases h with
  | cons h r=>
   obtain ⟨h1,h2⟩:=ih r
   refine ⟨by simp [h1],fun i a b=>?_⟩
   cases i with
   | zero=>exact h
   | succ i=>exact h2 i (by simpa using a) (by simpa using b)
noncomputable def sortT (ps:List Row):List Row:=(askRun (fun i j=>ltT (ps.getD i ([],0)) (ps.getD j ([],0))) (kas_sort ps.length)).toList.map fun i=>ps.getD i ([],0)
noncomputable def permOk (n:Nat) (p:Array Nat):Bool:=p.size == n && p.toList.all fun i=>Nat.blt i n
theorem c_sortedT {a:AV} {ps:List Row} (hs:DSrc m nx a (ps.map rT)) (hl:isLst a) (h2:2<=ps.length) (h64:ps.length < 64) (hok:askOk ps.length (kas_sort ps.length)=true)
  (hp:permOk ps.length (askRun (fun i j=>ltT (ps.getD i ([],0)) (ps.getD j ([],0))) (kas_sort ps.length))=true):CallTr prog w K btab k (.k (.builtin "sorted")) [a] [] m nx (.d (.lst ((sortT ps).map rT))) m nx:=by
 refine call1 (act_new fun W A s tr Q E hA hS ⟨v,hv,htr⟩ hq=>?_)
 subst htr
 obtain ⟨l,vs,n,rfl,ho,hvs⟩:=seq_at hS hv hs hl
 obtain ⟨hlen,hat⟩:=vds_at hvs
 unfold permOk at hp
 rw [Bool.and_eq_true] at hp
 have hp1:(askRun (fun i j=>ltT (ps.getD i ([],0)) (ps.getD j ([],0))) (kas_sort ps.length)).size=ps.length:=eq_of_beq hp.1
 have hp2:=hp.2
 have hrow:∀ i (h1:i < vs.length) (h2:i < ps.length),RowAt s.heap vs[i] ps[i]:=fun i h1 h2=>row_of hS.base (hat i h1 h2)
 have hun:=hA.units
 refine sorted_by (κ:=tuples' true) (lt:=fun i j=>ltT (ps.getD i ([],0)) (ps.getD j ([],0))) (lstObj.isList ho) (by omega) (by omega) (fun h' kp Q' E' hQ=>?_) (fun h' kp i j C hi hj hC=>?_) (by rw [hlen]; exact hok) (by rw [hlen]; exact hp1) ?_
 ·obtain ⟨fs,f1,f2,f3⟩:=rows_tups (h:=h') hlen fun i h1 h2=>(hrow i h1 h2).keeps kp
  exact kat_kind (s:={ s with heap:=h' }) (T:=.type "list") f1 (by omega) (fun v hv=>by
   obtain ⟨l,us,e,rfl,hl⟩:=f3 v hv
   exact (Looks.ld hl).andThen .now) rfl hQ
 ·unfold kas_ask
  have hi':i < ps.length:=by omega
  have hj':j < ps.length:=by omega
  have e1:vs.getD i Value.none=vs[i]:=by simp [hi]
  have e2:vs.getD j Value.none=vs[j]:=by simp [hj]
  have e3:ps.getD i ([],0)=ps[i]:=by simp [hi']
  have e4:ps.getD j ([],0)=ps[j]:=by simp [hj']
  rw [e1,e2]
  rw [e3,e4] at hC
  exact row_lt (s:={ s with heap:=h' }) ((hrow i hi hi').keeps kp) ((hrow j hj hj').keeps kp) (by simp only [Around.in1_units]; omega) hC
 ·rw [hlen]
  obtain ⟨p,hpp⟩ : ∃ p,p=askRun (fun i j=>ltT (ps.getD i ([],0)) (ps.getD j ([],0))) (kas_sort ps.length):=⟨_,rfl⟩
  have es:sortT ps=p.toList.map fun i=>ps.getD i ([],0):=by rw [hpp]; rfl
  rw [<- hpp] at hp2 ⊢
  rw [es] at hq
  obtain ⟨e,he⟩:=PyProof.Rows.sortedAll_at s.heap vs (pickV vs p)
  have hk:Keeps s.heap (PyProof.Rows.sortedAll s.heap vs (pickV vs p)):=fun _ _=>PyProof.Rows.sortedAll_old
  have S2:=hS.keeps hk
  have hown:OwnAt W m nx (s.heap.objs.size+1):=hS.fresh (by
   cases q:s.heap.get? (s.heap.objs.size+1) with
   | none=>rfl
   | some o=>exact absurd (Heap.lt_size q) (Nat.not_lt.mpr (Nat.le_succ _)))
  have S3:=S2.freeze hown he
  have l3:Wd.le nx W (W.freeze (s.heap.objs.size+1) (PyProof.Rows.seqObj "list" (pickV vs p) e)):=freeze_le hown.b
  refine hq _ _ s.toks _ S3 l3 (Nat.le_refl _) (.d ?_)
  have hv2:∀ q:List Nat,(q.all fun i=>Nat.blt i ps.length)=true->VDs W.B ((q.map fun i=>ps.getD i ([],0)).map rT) (q.map fun i=>vs.getD i Value.none):=by
   intro q
   induction q with
   | nil=>intro _; exact .nil
   | cons i q ih=>
    intro hq2
    rw [List.all_cons,Bool.and_eq_true] at hq2
    have hi:i < ps.length:=Nat.le_of_ble_eq_true hq2.1
    have hi2:i < vs.length:=by omega
    have e1:vs.getD i Value.none=vs[i]:=by simp [hi2]
    have e3:ps.getD i ([],0)=ps[i]:=by simp [hi]
    rw [List.map_cons,List.map_cons,List.map_cons,e1,e3]
    exact .cons (hat i hi2 hi) (ih hq2.2)
  refine .lst (vs:=p.toList.map fun i=>vs.getD i Value.none) (n:=e) ?_ ((hv2 p.toList hp2).mono l3.B)
  have:lstObj (p.toList.map fun i=>vs.getD i Value.none) e=PyProof.Rows.seqObj "list" (pickV vs p) e:=rfl
  rw [this]
  exact freeze_at _ _ _
end
section
variable {prog:Program} {w:World} {K:Frag} {btab:List (Str × Value)} {k:Nat}
theorem code_fnKw {a:Addr} {args:List AV} {kw:Str} {ns:List Str} {m:Nat->MO} {nx:Nat} {fl:Fl} {st':St} (hc:fnChk K a=true) (hl:args.length=ns.length)
  (hb:∀ vs:List Value,vs.length=ns.length->bindArgs (fnD K a) ⟨vs,[]⟩ = (alloc { cls:=.type "dict",data:=.dict #[] } >>= fun d=>pure (ns.zip vs ++ [(kw,Value.ref d)])))
  (hks:kindsOk (fnD K a).scope ((ns.zip args ++ [(kw,AV.loc nx)]).map (·.1))=true) (hnd:nodupB ((ns.zip args ++ [(kw,AV.loc nx)]).map (·.1))=true)
  (body:BTr prog w K btab k (fmOf (fnD K a) []) (bodyOf (fnD K a)) ⟨ns.zip args ++ [(kw,.loc nx)],[],upd m nx (.dictS []),nx+1⟩ fl st') {r:AV} (hr:retOf fl=r) :
  CodeTr prog w K btab (k+1) (.k (.ref a)) args [] m nx r st'.m st'.nx:=by
 intro W A s R vf vs kvs hA hS hvf hvs hkvs hq
 subst hr
 cases hvf
 cases hkvs
 obtain ⟨X,_⟩:=hS.facts
 obtain ⟨o,ho,hd,_,_,hco,hgen,_,_,hcode,hbody⟩:=fn_at X hc
 have hroom:A.depth < recursionLimit:=by have:=hA.depth; omega
 refine codeAny_call_function hroom ho hd hco hgen hbody hcode ?_
 show wpAny _ A.in1 (bindArgs (fnD K a) ⟨vs,[]⟩) _ _ s
 rw [hb vs (hvs.len.trans hl)]
 refine wpAny_bind (wpAny_alloc (wpAny_pure ?_))
 obtain ⟨S',l',c'⟩:=hS.new (o:={ cls:=.type "dict",data:=.dict #[] }) (mo:=.dictS []) ⟨[],Heap.DictOf.new _,rfl,.nil,hS.newAt⟩
 have hloc:VA (W.lay nx s.heap.objs.size) (nx+1) (.loc nx) (.ref s.heap.objs.size):=by
  have z:=VA.loc (W:=W.lay nx s.heap.objs.size) (nx:=nx+1) (n:=nx) (Nat.lt_succ_self _)
  rw [show (W.lay nx s.heap.objs.size).ι nx=s.heap.objs.size from upd_at _ _ _] at z
  exact z
 exact fn_go (s:={ s with heap:=s.heap.push { cls:=.type "dict",data:=.dict #[] } }) hc hA S' ((VB.zip ns (hvs.mono (Nat.le_succ _) l')).append (.cons hloc .nil)) hks hnd body
  fun W' h' tk' v n l S2 hv=>hq W' h' tk' v (Nat.le_trans (Nat.le_succ _) n) (l'.trans (Nat.le_succ _) l) S2 hv
end
section
variable {prog:Program} {w:World} {K:Frag} {btab:List (Str × Value)} {k:Nat} {φ:Fm} {m:Nat->MO} {nx:Nat}
theorem m_itemsS {n:Nat} {l:List (Str × D)} (hn:n < nx) (hm:m n=.dictS l):MethTr prog w K btab k (.loc n) "items" m nx (.k (.builtin "dict.items")) [.loc n] nx m:=by
 refine act_same fun W A s tr Q E hA hS ⟨vo,pl,hv,htr⟩ hq=>?_
 subst htr
 cases hv
 have ob:=hS.obj n hn
 rw [hm] at ob
 obtain ⟨kvs,hd,-⟩:=ob
 refine getMethod_builtin hd.typeIs PySem.F.plainAttrs_dict PySem.F.slot_dict_items PySem.F.type_dict_items (fun a e=>?_) (hq s.heap s.toks _ (Keeps.refl _) ⟨.k _,.cons (.loc hn) .nil⟩)
 cases e
 obtain ⟨o,es,ep,ho,hx,-⟩:=hd
 exact ⟨o,ho,hx.2.1⟩
theorem c_itemsS {n:Nat} {l:List (Str × D)} (hn:n < nx) (hm:m n=.dictS l):CallTr prog w K btab k (.k (.builtin "dict.items")) [.loc n] [] m nx (.loc nx) (upd m nx (.view n)) (nx+1):=by
 refine call1 (act_new fun W A s tr Q E hA hS ⟨u,hu,htr⟩ hq=>?_)
 subst htr
 cases hu
 have ob:=hS.obj n hn
 rw [hm] at ob
 obtain ⟨kvs,hd,e1,e2,e3⟩:=ob
 refine call_meetsIn PySem.F.slot_dict_items hd.typeIs PySem.F.entry_dict_items (PySem.F.args_dict_items_1 _) (meets_dict_items (PySem.strKind prog w) _ e3) ⟨⟨kvs,hd⟩,?_⟩
 obtain ⟨S',l',c'⟩:=hS.new (o:={ cls:=.type "dict_items",data:=.fields #[.ref (W.ι n)] }) (mo:=.view n) ⟨by rw [Heap.get?_push_size _ rfl,show (W.lay nx s.heap.objs.size).ι n=W.ι n from upd_ne _ _ _ (Nat.ne_of_lt hn)],Nat.lt_succ_of_lt hn⟩
 refine hq _ _ s.toks _ S' l' (Nat.le_succ _) ?_
 have z:=VA.loc (W:=W.lay nx s.heap.objs.size) (nx:=nx+1) (n:=nx) (Nat.lt_succ_self _)
 rw [show (W.lay nx s.heap.objs.size).ι nx=s.heap.objs.size from upd_at _ _ _] at z
 exact z
theorem STr.forV0 {c:Stmt} {st st0:St} {v p:Nat} (hc:(forChk c && noSet (forIter c))=true) (n:Nat) (l:List EvO) (e:evI prog w K btab k n φ (forIter c) st (evsOf l)=some (.loc v,st0,[],obsOf l)) (hv:v < st0.nx) (hm:st0.m v=.view p) (hp:st0.m p=.dictS []):STr prog w K btab k φ c st .next st0:=by
 obtain ⟨hc,hns⟩:=and_t hc
 obtain ⟨t,i,b,p',rfl⟩:=forChk_of hc
 have T:=ETr.runE n l e
 intro W A env s Q E hA hS hF hc' hq
 refine wpAny_For ?_ (noSet_folded hns env)
 refine T W A env s _ E hA hS hF trivial fun W1 h1 tk1 u n1 l1 S1 F1 hu=>?_
 rw [va_loc hu]
 have o1:=S1.obj v hv
 rw [hm] at o1
 have o2:=S1.obj p o1.2
 rw [hp] at o2
 obtain ⟨kvs,hd,e1,-⟩:=o2
 obtain ⟨ep,hat⟩:=hd.dictAt
 have hk:kvs = []:=List.map_eq_nil_iff.mp e1
 subst hk
 refine wpAny_pyIter_items (s:={ s with heap:=h1,toks:=tk1 }) ⟨_,o1.1,rfl,rfl⟩ hat ?_
 obtain ⟨o',ho'⟩ : ∃ o':Obj,o' = { cls:=.type "dict_itemiterator",data:=.fields #[.none,.bool false,.ref (W1.ι p),.int 0 0,.int (0:Nat) 0,.int ep 0,.none,.none] }:=⟨_,rfl⟩
 refine codeAny_forLoop_any (fun n s'=>s' = { s with heap:=h1.push o',toks:=tk1 }) ?_ 0 (by rw [ho']; rfl)
 intro n' s' hs'
 subst hs'
 refine wpAny_pyNext_items_end (s:={ s with heap:=h1.push o',toks:=tk1 }) (knd:=PySem.strKind prog w) (kvs:=[]) (i:=0) (d:=W1.ι p) (ep:=ep) (ok:=.none) (ov:=.none) hA.handled (by rw [ho']; exact Heap.get?_push_size _ rfl) (hat.at fun o e=>Heap.get?_push_of_some _ e) rfl fun h' he=>wpAny_execs_nil ?_
 have kp:Keeps h1 h':=fun b ob e=>he b ob (Nat.ne_of_lt (Heap.lt_size e)) (Heap.get?_push_of_some _ e)
 exact hq W1 h' tk1 .next n1 l1 (S1.keeps kp) (F1.carry (Nat.le_refl _) (.refl _ _) (Carry.keeps kp)) trivial
end
section
variable (c:Cx)
namespace Cx
noncomputable def mItemsS (n:Nat) (l:List (Str × D)) (hn:n < c.nx) (hm:c.m n=.dictS l):EvO:=.meth (show c.Meth (.loc n) "items" _ from m_itemsS hn hm)
noncomputable def cItemsS (n:Nat) (l:List (Str × D)) (hn:n < c.nx) (hm:c.m n=.dictS l):EvO:=.call (c_itemsS (prog:=c.prog) (w:=c.w) (K:=c.K) (btab:=c.bt) (k:=c.k) hn hm)
end Cx
end
@[irreducible] noncomputable def KK (w:World):Frag:=Mine.kk.heap_1 w.params
noncomputable def bt:List (Str × Value):=[("len",.builtin "len"),("sum",.builtin "sum"),("range",.type "range"),("sorted",.builtin "sorted"),("int",.type "int"),("str",.type "str"),("iter",.builtin "iter"),("type",.type "type"),("list",.type "list")]
noncomputable def clsFn (K:Frag) (C:Addr) (x:Str):Addr:=match findIn K (.ref C) x with
 | some (some (.ref a))=>a
 | _=>0
@[irreducible] noncomputable def nthS (b:List Stmt) (i:Nat):Stmt:=b.getD i (.Pass default)
set_option backward.match.sparseCases false in
@[irreducible] noncomputable def retE:Stmt->PySem.Expr
 | .Return (some e) _=>e
 | _=>.Constant .none 0 default
set_option backward.match.sparseCases false in
@[irreducible] noncomputable def binR:PySem.Expr->PySem.Expr
 | .BinOp _ _ r _=>r
 | e=>e
@[irreducible] noncomputable def binL:PySem.Expr->PySem.Expr
 | .BinOp l _ _ _=>l
 | e=>e
@[irreducible] noncomputable def cArg (i:Nat):PySem.Expr->PySem.Expr
 | .Call _ args _ _=>args.getD i (.Constant .none 0 default)
 | e=>e
set_option backward.match.sparseCases false in
@[irreducible] noncomputable def ifB:Stmt->List Stmt
 | .If _ b _ _=>b
 | _=>[]
@[irreducible] noncomputable def ifE:Stmt->List Stmt
 | .If _ _ b _=>b
 | _=>[]
set_option backward.match.sparseCases false in
@[irreducible] noncomputable def lamPs:PySem.Expr->Arguments
 | .Lambda ps _ _ _=>ps
 | _=>default
@[irreducible] noncomputable def lamB:PySem.Expr->PySem.Expr
 | .Lambda _ b _ _=>b
 | e=>e
@[irreducible] noncomputable def lamS:PySem.Expr->Scope
 | .Lambda _ _ s _=>s
 | _=>default
noncomputable def isLam:PySem.Expr->Bool
 | .Lambda ..=>true
 | _=>false
@[irreducible] noncomputable def assE:Stmt->PySem.Expr
 | .Assign _ e _=>e
 | _=>.Constant .none 0 default
@[irreducible] noncomputable def kwV (i:Nat):PySem.Expr->PySem.Expr
 | .Call _ _ kws _=>match kws[i]? with
  | some k=>k.value
  | none=>.Constant .none 0 default
 | e=>e
@[irreducible] noncomputable def fa (w:World) (x:Str):Addr:=gA (KK w) x
@[irreducible] noncomputable def ca (w:World) (c x:Str):Addr:=clsFn (KK w) (gA (KK w) c) x
@[irreducible] noncomputable def phA (w:World) (a:Addr):Fm:=fmOf (fnD (KK w) a) []
@[irreducible] noncomputable def bdA (w:World) (a:Addr):List Stmt:=bodyOf (fnD (KK w) a)
noncomputable abbrev ph (w:World) (x:Str):Fm:=phA w (fa w x)
noncomputable abbrev bd (w:World) (x:Str):List Stmt:=bdA w (fa w x)
noncomputable def fnPos (K:Frag) (a:Addr) (names:List Str):Bool:=fnChk K a && (posNames (fnD K a) == names) && (kwoNames (fnD K a)).isEmpty && kindsOk (fnD K a).scope names && nodupB names
section
variable {K:Frag}
noncomputable def ofLen {α:Type} (P:List α->Prop):Nat->Prop
 | 0=>P []
 | n+1=>∀ a,ofLen (fun l=>P (a :: l)) n
theorem ofLen_all {α:Type}:∀ (n:Nat) {P:List α->Prop},ofLen P n->∀ l,l.length=n->P l:=by
 intro n
 induction n with
 | zero=>intro P h l e; cases List.eq_nil_of_length_eq_zero e; exact h
 | succ n ih=>intro P h l e; induction l using List.casesOn with
  | nil=>cases e
  | cons a l=>exact ih (h a) l (Nat.succ.inj e)
theorem bindqN {fd:FuncData} (n:Nat) (h:∀ S:Setting,ofLen (fun vs=>peek K S (bindArgs fd ⟨vs,[]⟩)=bindN ((posNames fd).zip vs ++ []) (dflts K fd) (posNames fd ++ kwoNames fd)) n):BindQ K fd n []:=fun S vs kvs h1 h2=>by
 cases List.eq_nil_of_length_eq_zero h2
 exact ofLen_all n (h S) vs h1
theorem bindq0 {fd:FuncData} (h:∀ S:Setting,peek K S (bindArgs fd ⟨[],[]⟩)=bindN ((posNames fd).zip [] ++ []) (dflts K fd) (posNames fd ++ kwoNames fd)):BindQ K fd 0 []:=bindqN 0 h
theorem bindq1 {fd:FuncData} (h:∀ (S:Setting) (a:Value),peek K S (bindArgs fd ⟨[a],[]⟩)=bindN ((posNames fd).zip [a] ++ []) (dflts K fd) (posNames fd ++ kwoNames fd)):BindQ K fd 1 []:=bindqN 1 h
theorem bindq2 {fd:FuncData} (h:∀ (S:Setting) (a b:Value),peek K S (bindArgs fd ⟨[a,b],[]⟩)=bindN ((posNames fd).zip [a,b] ++ []) (dflts K fd) (posNames fd ++ kwoNames fd)):BindQ K fd 2 []:=bindqN 2 h
theorem bindq3 {fd:FuncData} (h:∀ (S:Setting) (a b c:Value),peek K S (bindArgs fd ⟨[a,b,c],[]⟩)=bindN ((posNames fd).zip [a,b,c] ++ []) (dflts K fd) (posNames fd ++ kwoNames fd)):BindQ K fd 3 []:=bindqN 3 h
theorem bindq4 {fd:FuncData} (h:∀ (S:Setting) (a b c d:Value),peek K S (bindArgs fd ⟨[a,b,c,d],[]⟩)=bindN ((posNames fd).zip [a,b,c,d] ++ []) (dflts K fd) (posNames fd ++ kwoNames fd)):BindQ K fd 4 []:=bindqN 4 h
theorem bindqKN {fd:FuncData} {x:Str} (n:Nat) (h:∀ (S:Setting) (c:Value),ofLen (fun vs=>peek K S (bindArgs fd ⟨vs,[(x,c)]⟩)=bindN ((posNames fd).zip vs ++ [(x,c)]) (dflts K fd) (posNames fd ++ kwoNames fd)) n):BindQ K fd n [x]:=fun S vs kvs h1 h2=>by
 induction kvs using List.casesOn with
 | nil=>cases h2
 | cons c r=>
  cases List.eq_nil_of_length_eq_zero (Nat.succ.inj h2)
  exact ofLen_all n (h S c) vs h1
theorem lookup_zip_self {α:Type}:∀ (ns:List Str) (as:List α) (pre:List (Str × α)),ns.length=as.length->ns.Nodup->(∀ n ∈ ns,pre.lookup n=none)->∀ d,bindN (pre ++ ns.zip as) d ns=some (ns.zip as):=by
 intro ns
 suffices H:∀ (ns:List Str) (as:List α) (s:List (Str × α)),ns.length=as.length->(∀ p ∈ ns.zip as,s.lookup p.1=some p.2)->∀ d,bindN s d ns=some (ns.zip as) by
  intro as pre hl hn hp d
  refine H ns as _ hl ?_ d
  intro p hm
  have h0:p.1 ∈ ns:=(List.of_mem_zip (show (p.1,p.2) ∈ ns.zip as from hm)).1
  have hnd:((ns.zip as).map (·.1)).Nodup:=by rw [List.map_fst_zip (by omega)]; exact hn
  have:=lookup_of_mem_nd hnd (show (p.1,p.2) ∈ ns.zip as from hm)
  rw [List.lookup_append,hp _ h0,Option.none_or,this]
 intro ns
 induction ns with
 | nil=>intro as s hl _ d; cases as with | nil=>rfl | cons _ _=>cases hl
 | cons n ns ih=>
  intro as s hl hs d
  induction as using List.casesOn with
  | nil=>cases hl
  | cons a as=>
   unfold bindN
   rw [hs (n,a) (List.mem_cons_self ..)]
   dsimp only
   rw [ih as s (by simpa using hl) (fun p hp=>hs p (List.mem_cons_of_mem _ hp)) d]
   rfl
end
section
variable {prog:Program} {w:World} {K:Frag} {btab:List (Str × Value)} {k:Nat} {m:Nat->MO} {nx:Nat}
theorem codeP {a:Addr} {names:List Str} {args:List AV} {fl:Fl} {st':St} {r:AV} (hc:fnPos K a names=true) (hb:BindQ K (fnD K a) args.length []) (hl:names.length=args.length)
  (body:BTr prog w K btab k (fmOf (fnD K a) []) (bodyOf (fnD K a)) ⟨names.zip args,[],m,nx⟩ fl st') (hr:retOf fl=r):CodeTr prog w K btab (k+1) (.k (.ref a)) args [] m nx r st'.m st'.nx:=by
 unfold fnPos at hc
 simp only [Bool.and_eq_true,beq_iff_eq] at hc
 obtain ⟨⟨⟨⟨h1,h2⟩,h3⟩,h4⟩,h5⟩:=hc
 have h3':kwoNames (fnD K a) = []:=by simpa using h3
 have e:(names.zip args).map (·.1)=names:=by rw [List.map_fst_zip (by omega)]
 refine code_fn h1 hb ?_ (by rw [e]; exact h4) (by rw [e]; exact h5) body hr
 rw [h2,h3',List.append_nil,List.append_nil]
 exact lookup_zip_self names args [] hl (nodupB_nd h5) (fun _ _=>rfl) _
end
section
variable {prog:Program} {w:World} {k:Nat} {m:Nat->MO} {nx:Nat}
theorem codeQ {a:Addr} {names:List Str} {args:List AV} {fl:Fl} {st':St} {r:AV} (hc:fnPos (KK w) a names=true) (hb:BindQ (KK w) (fnD (KK w) a) args.length []) (hl:names.length=args.length)
  (body:BTr prog w (KK w) bt k (phA w a) (bdA w a) ⟨names.zip args,[],m,nx⟩ fl st') (hr:retOf fl=r):CodeTr prog w (KK w) bt (k+1) (.k (.ref a)) args [] m nx r st'.m st'.nx:=by
 unfold phA bdA at body
 exact codeP hc hb hl body hr
theorem codeR {a:Addr} (names:List Str) {args:List AV} (fl:Fl) (m':Nat->MO) (nx':Nat) (fz:List Str) (l:List EvO) (hc:fnPos (KK w) a names=true) (hb:BindQ (KK w) (fnD (KK w) a) args.length []) (hl:names.length=args.length)
  (e:pickR [] (exsI prog w (KK w) bt k 60 (phA w a) (bdA w a) ⟨names.zip args,[],m,nx⟩ (evsOf l))=some (fl,[],fz,m',nx',[],obsOf l)):CodeTr prog w (KK w) bt (k+1) (.k (.ref a)) args [] m nx (retOf fl) m' nx':=
 codeQ (st':=⟨[],fz,m',nx'⟩) hc hb hl (BTr.runS (V:=[]) 60 l e) rfl
theorem codeA (a:Addr) (names:List Str) (args:List AV) (fl:Fl) (m':Nat->MO) (nx':Nat) (fz:List Str) (l:List EvO) (hc:fnPos (KK w) a names=true) (hb:BindQ (KK w) (fnD (KK w) a) args.length []) (hl:names.length=args.length)
  (e:pickR [] (exsI prog w (KK w) bt k 60 (phA w a) (bdA w a) ⟨names.zip args,[],m,nx⟩ (evsOf l))=some (fl,[],fz,m',nx',[],obsOf l)):CodeTr prog w (KK w) bt (k+1) (.k (.ref a)) args [] m nx (retOf fl) m' nx':=
 codeQ (st':=⟨[],fz,m',nx'⟩) hc hb hl (BTr.runS (V:=[]) 60 l e) rfl
theorem codeD {a:Addr} (ab:List (Str × AV)) {args:List AV} {kws:List (Str × AV)} (fl:Fl) (m':Nat->MO) (nx':Nat) (fz:List Str) (l:List EvO) (hc:fnChk (KK w) a=true) (hb:BindQ (KK w) (fnD (KK w) a) args.length (kws.map (·.1)))
  (ha:bindN ((posNames (fnD (KK w) a)).zip args ++ kws) ((dflts (KK w) (fnD (KK w) a)).map fun p=>(p.1,ofTop p.2)) (posNames (fnD (KK w) a) ++ kwoNames (fnD (KK w) a))=some ab)
  (hks:kindsOk (fnD (KK w) a).scope (ab.map (·.1))=true) (hnd:nodupB (ab.map (·.1))=true)
  (e:pickR [] (exsI prog w (KK w) bt k 60 (phA w a) (bdA w a) ⟨ab,[],m,nx⟩ (evsOf l))=some (fl,[],fz,m',nx',[],obsOf l)):CodeTr prog w (KK w) bt (k+1) (.k (.ref a)) args kws m nx (retOf fl) m' nx':=by
 have body:=BTr.runS (V:=[]) 60 l e
 unfold phA bdA at body
 exact code_fn hc hb ha hks hnd body rfl
theorem bindqk {K:Frag} {fd:FuncData} {x:Str} (h:∀ (S:Setting) (a b c:Value),peek K S (bindArgs fd ⟨[a,b],[(x,c)]⟩)=bindN ((posNames fd).zip [a,b] ++ [(x,c)]) (dflts K fd) (posNames fd ++ kwoNames fd)):BindQ K fd 2 [x]:=bindqKN 2 fun S c a b=>h S a b c
theorem bindq4k {K:Frag} {fd:FuncData} {x:Str} (h:∀ (S:Setting) (a b c d e:Value),peek K S (bindArgs fd ⟨[a,b,c,d],[(x,e)]⟩)=bindN ((posNames fd).zip [a,b,c,d] ++ [(x,e)]) (dflts K fd) (posNames fd ++ kwoNames fd)):BindQ K fd 4 [x]:=bindqKN 4 fun S c a b d e=>h S a b d e c
noncomputable abbrev cx (prog:Program) (w:World) (k:Nat) (m:Nat->MO) (nx:Nat):Cx:=⟨prog,w,KK w,bt,k,m,nx⟩
noncomputable abbrev fn (w:World) (x:Str):AV:=.k (.ref (fa w x))
noncomputable def signsA:Str := "( ) [ ] : , ; + - * / | & < > = . % { } == != <= >= ~ ^ << >> ** += -= *= /= %= &= |= ^= <<= >>= **= // //= @ @= -> ... :"
noncomputable def signsT:Str := "( ) [ ] : , ; + - * / | & < > = . % { } == != <= >= ~ ^ << >> ** += -= *= /= %= &= |= ^= <<= >>= **= // //= @ @= -> ... := !"
noncomputable def signsL:List Str:=(["(", ")", "[", "]", ":", ",", ";", "+", "-", "*", "/", "|", "&", "<", ">", "=", ".", "%", "{", "}", "==", "!=", "<=", ">=", "~", "^", "<<", ">>", "**", "+=", "-=", "*=", "/=", "%=", "&=", "|=", "^=", "<<=", ">>=", "**=", "//", "//=", "@", "@=", "->", "...", ":=", "!"]:List String).map Str.ofString
theorem signs_tr:CallTr prog w (KK w) bt (k+1) (fn w "_law_signs") [] [] m nx (.d (.lst (strDs signsL))) m nx:=
 (codeQ (names:=[]) (by kernel_rfl) (bindq0 fun S=>by kernel_rfl) rfl (fl:=.ret (.d (.lst (strDs signsL)))) (st':=⟨[],[],m,nx⟩)
  (BTr.runE 20 [(cx prog w k m nx).addS false signsA "= !" signsT (by kernel_rfl) (by decide +kernel),(cx prog w k m nx).mSplit signsT,
   (cx prog w k m nx).cSplit signsT " " signsL (by kernel_rfl) (by kernel_rfl) (by decide +kernel) (by decide +kernel)] (by kernel_rfl)) rfl).call
noncomputable def namesL:List Str:=["a b","c\"D", "E\\f"]
theorem names_tr:CallTr prog w (KK w) bt (k+1) (fn w "_law_names") [] [] m nx (.d (.lst (strDs namesL))) m nx:=
 (codeQ (names:=[]) (by kernel_rfl) (bindq0 fun S=>by kernel_rfl) rfl (fl:=.ret (.d (.lst (strDs namesL)))) (st':=⟨[],[],m,nx⟩)
  (BTr.runE 20 [.lst (strDs namesL) false (by decide)] (by kernel_rfl)) rfl).call
noncomputable def natsD (l:List Nat):List D:=l.map fun n:Nat=>D.int n
theorem dsrc_rng {n:Nat} (h:Builtin.Range.small 0 n 1=true):DSrc m nx (.d (.rng 0 n 1)) ((List.range n).map fun i:Nat=>D.int i):=⟨h,(rng0 n).symm⟩
noncomputable def sumN (ns:List Int):Nat:=((647+ns.sum) % 2256).toNat
noncomputable def lettersL (ns:List Int):List Str:=[signsL.getD (sumN ns / 47) Str.empty,signsL.getD (if sumN ns / 47<=sumN ns % 47 then sumN ns % 47+1 else sumN ns % 47) Str.empty]
theorem sumN_eq (ns:List Int):(647+ns.sum) % 2256=(sumN ns:Int):=(Int.toNat_of_nonneg (Int.emod_nonneg _ (by decide))).symm
theorem sumN_lt (ns:List Int):sumN ns < 2256:=by
 have:=sumN_eq ns
 have:=Int.emod_lt_of_pos (647+ns.sum) (show (0:Int) < 2256 by decide)
 omega
theorem signs_len:signsL.length=48:=by decide +kernel
theorem strDs_get {l:List Str} {i:Nat} (h:i < l.length):(strDs l)[i]? = some (.str (l.getD i Str.empty)):=by
 unfold strDs
 simp [List.getElem?_eq_getElem h]
theorem lt1 (ns:List Int):(647+ns.sum) % 2256 / 47=((sumN ns / 47:Nat):Int):=sumN_eq ns ▸ rfl
theorem lt2 (ns:List Int):(647+ns.sum) % 2256 % 47=((sumN ns % 47:Nat):Int):=sumN_eq ns ▸ rfl
theorem lt3 (ns:List Int):(647+ns.sum) % 2256 % 47+1=((sumN ns % 47+1:Nat):Int):=congrArg (· + 1) (lt2 ns)
theorem lt4 (ns:List Int) (h:sumN ns / 47<=sumN ns % 47):(647+ns.sum) % 2256 % 47 >= (647+ns.sum) % 2256 / 47:=lt1 ns ▸ lt2 ns ▸ Int.ofNat_le.mpr h
theorem lt5 (ns:List Int) (h:¬ sumN ns / 47<=sumN ns % 47):¬ (647+ns.sum) % 2256 % 47 >= (647+ns.sum) % 2256 / 47:=lt1 ns ▸ lt2 ns ▸ fun z=>h (Int.ofNat_le.mp z)
theorem lt6 (ns:List Int):sumN ns / 47 < 48:=Nat.div_lt_of_lt_mul (sumN_lt ns)
theorem lt8 (ns:List Int):sumN ns % 47+1 < 48:=Nat.succ_lt_succ (Nat.mod_lt _ (by decide))
theorem lt7 (ns:List Int):sumN ns % 47 < 48:=Nat.lt_of_succ_lt (lt8 ns)
theorem letters_tr (ns:List Int):CallTr prog w (KK w) bt (k+2) (fn w "_law_letters") [.d (.lst (ns.map D.int))] [] m nx (.d (.lst (strDs (lettersL ns)))) m nx:=by
 obtain ⟨L,hL⟩ : ∃ L,L=lettersL ns:=⟨_,rfl⟩
 obtain ⟨a,ha⟩ : ∃ a,a=signsL.getD (sumN ns / 47) Str.empty:=⟨_,rfl⟩
 have ia:(strDs signsL)[sumN ns / 47]? = some (.str a):=ha ▸ strDs_get (Nat.lt_of_lt_of_eq (lt6 ns) signs_len.symm)
 by_cases h:sumN ns / 47<=sumN ns % 47
 ·obtain ⟨b,hb⟩ : ∃ b,b=signsL.getD (sumN ns % 47+1) Str.empty:=⟨_,rfl⟩
  have ib:(strDs signsL)[sumN ns % 47+1]? = some (.str b):=hb ▸ strDs_get (Nat.lt_of_lt_of_eq (lt8 ns) signs_len.symm)
  have:lettersL ns = [a,b]:=by unfold lettersL; rw [if_pos h,<- ha,<- hb]
  rw [this]
  exact (codeR ["script"] (.ret (.d (.lst (strDs [a,b])))) m nx [] [(cx prog w (k+1) m nx).sum (.d (.lst (ns.map D.int))) ns rfl trivial,.obl (show (0:Int) < 2256 by decide),.call (signs_tr (prog:=prog) (w:=w) (k:=k) (m:=m) (nx:=nx)),
   .obl (show (0:Int) < 47 /\ (47:Int) < 1073741824 by decide),.obl (show (0:Int) < 47 by decide),
   (cx prog w (k+1) m nx).item (strDs signsL) ((647+ns.sum) % 2256 / 47) _ (.str a) (lt1 ns) ia (Nat.lt_trans (lt6 ns) (by decide)),
   .brT ((647+ns.sum) % 2256 % 47 >= (647+ns.sum) % 2256 / 47) (lt4 ns h),
   (cx prog w (k+1) m nx).item (strDs signsL) ((647+ns.sum) % 2256 % 47+1) _ (.str b) (lt3 ns) ib (Nat.lt_trans (lt8 ns) (by decide)),
   .lst [.str a,.str b] false (show 2<=1000 by decide)] (by kernel_rfl) (bindq1 fun S a=>by kernel_rfl) rfl (by kernel_rfl)).call
 ·obtain ⟨b,hb⟩ : ∃ b,b=signsL.getD (sumN ns % 47) Str.empty:=⟨_,rfl⟩
  have ib:(strDs signsL)[sumN ns % 47]? = some (.str b):=hb ▸ strDs_get (Nat.lt_of_lt_of_eq (lt7 ns) signs_len.symm)
  have:lettersL ns = [a,b]:=by unfold lettersL; rw [if_neg h,<- ha,<- hb]
  rw [this]
  exact (codeR ["script"] (.ret (.d (.lst (strDs [a,b])))) m nx [] [(cx prog w (k+1) m nx).sum (.d (.lst (ns.map D.int))) ns rfl trivial,.obl (show (0:Int) < 2256 by decide),.call (signs_tr (prog:=prog) (w:=w) (k:=k) (m:=m) (nx:=nx)),
   .obl (show (0:Int) < 47 /\ (47:Int) < 1073741824 by decide),.obl (show (0:Int) < 47 by decide),
   (cx prog w (k+1) m nx).item (strDs signsL) ((647+ns.sum) % 2256 / 47) _ (.str a) (lt1 ns) ia (Nat.lt_trans (lt6 ns) (by decide)),
   .brF ((647+ns.sum) % 2256 % 47 >= (647+ns.sum) % 2256 / 47) (lt5 ns h),
   (cx prog w (k+1) m nx).item (strDs signsL) ((647+ns.sum) % 2256 % 47) _ (.str b) (lt2 ns) ib (Nat.lt_trans (lt7 ns) (by decide)),
   .lst [.str a,.str b] false (show 2<=1000 by decide)] (by kernel_rfl) (bindq1 fun S a=>by kernel_rfl) rfl (by kernel_rfl)).call
noncomputable def ch (c:Nat):Str:=⟨#[c]⟩
noncomputable def escS (t:Str) (c:Nat):Str:=if Txt.contains t (ch c)=true then "\\" ++ ch c else ch c
noncomputable def escA (c : Nat) : Str := "\\" ++ ch c
noncomputable def writtenF (word : Str) (s : Int) : Str := if s = 0 then "\"" ++ Txt.join Str.empty (word.cps.toList.map (escS "\"\\")) ++ "\"" else if s=1 then Txt.join Str.empty (word.cps.toList.map escA) else Txt.join Str.empty (word.cps.toList.map (escS " \"\\"))
theorem escS_len (t : Str) (c : Nat) : (escS t c).length <= 2 := by
 unfold escS
 split <;> exact Nat.le_of_ble_eq_true (by kernel_rfl)
theorem sum_le2 {α : Type} (f : α -> Nat) (h : ∀ x, f x <= 2) : ∀ l : List α, (l.map f).sum <= 2 * l.length
 | [] => Nat.le_refl _
 | x :: l => by
  rw [List.map_cons, List.sum_cons, List.length_cons]
  have := h x
  have := sum_le2 f h l
  omega
theorem esc_elt {φ : Fm} {e : PySem.Expr} {V : List (Str × AV)} {fz : List Str} (c : Nat) (t : Str) (h1 : ∀ (_ : Txt.contains t (ch c) = true), ETr prog w (KK w) bt k φ e ⟨V, fz, m, nx⟩ (.d (.str ("\\" ++ ch c))) ⟨V, fz, m, nx⟩) (h2 : ∀ (_ : Txt.contains t (ch c) = false), ETr prog w (KK w) bt k φ e ⟨V, fz, m, nx⟩ (.d (.str (ch c))) ⟨V, fz, m, nx⟩) :
  ETr prog w (KK w) bt k φ e ⟨V, fz, m, nx⟩ (.d (.str (escS t c))) ⟨V, fz, m, nx⟩ := by
 unfold escS
 cases q : Txt.contains t (ch c) with
 | true => rw [if_pos rfl]; exact h1 q
 | false => rw [if_neg Bool.false_ne_true]; exact h2 q
theorem written_tr (word : Str) (s : Int) (hw : word.length <= 1000) : CallTr prog w (KK w) bt (k + 1) (fn w "_law_written") [.d (.str word), .d (.int s)] [] m nx (.d (.str (writtenF word s))) m nx := by
 have hlen : word.cps.toList.length <= 1000 := by rw [Array.length_toList]; exact hw
 obtain ⟨V, hV⟩ : ∃ V : List (Str × AV), V = ([("word", .d (.str word)), ("style", .d (.int s))] : List (Str × AV)) := ⟨_, rfl⟩
 have hsz : ∀ f : Nat -> Str, (∀ c, (f c).length <= 2) -> ((word.cps.toList.map f).map (·.length)).sum + (word.cps.toList.map f).length * Str.empty.length <= 16777216 := fun f hf => by
  rw [List.map_map]
  have := sum_le2 (fun c => (f c).length) hf word.cps.toList
  have e : Str.empty.length = 0 := rfl
  rw [e]
  simp only [Function.comp_def]
  omega
 have hj : ∀ f : Nat -> Str, (∀ c, (f c).length <= 2) -> (Txt.join Str.empty (word.cps.toList.map f)).length <= 2000 := fun f hf => by
  have h : (Txt.join Str.empty (word.cps.toList.map f)).length = _ := size_glued Str.empty (word.cps.toList.map f)
  have := sum_le2 (fun c => (f c).length) hf word.cps.toList
  have e : Str.empty.length = 0 := rfl
  rw [e, List.map_map] at h
  simp only [Function.comp_def] at h
  omega
 unfold writtenF
 by_cases h0 : s = 0
 ·subst h0
  have comp : ETr prog w (KK w) bt k (ph w "_law_written") (cArg 0 (binR (binL (retE (nthS (ifB (nthS (bd w "_law_written") 0)) 0))))) ⟨V, [], m, nx⟩ (.d (.lst (strDs (word.cps.toList.map (escS "\"\\"))))) ⟨V, [], m, nx⟩ := by
   unfold strDs
   rw [List.map_map]
   refine ETr.ofLoop (by kernel_rfl) (a := .d (.str word)) (ds := strD word) (ETr.runE 20 [] (by subst hV; kernel_rfl)) rfl
    (loop1n (st := ⟨V, [], m, nx⟩) (a := .d (.str word)) (xs := word.cps.toList) (gD := fun c => .str (ch c)) (by kernel_rfl) (by kernel_rfl) rfl (tgt_nameN "sign" (by kernel_rfl) (by kernel_rfl) (by subst hV; kernel_rfl)) (fun c hc l => esc_elt c "\"\\" (fun h => ?_) fun h => ?_) (by omega))
   ·subst hV
    exact ETr.runE 20 [(cx prog w k (upd m nx (.list l)) (nx + 1)).inS (ch c) "\"\\", .br (Txt.contains "\"\\" (ch c)) true h, (cx prog w k (upd m nx (.list l)) (nx + 1)).addS false "\\" (ch c) _ rfl (Nat.le_of_ble_eq_true (by kernel_rfl))] (by kernel_rfl)
   ·subst hV
    exact ETr.runE 20 [(cx prog w k (upd m nx (.list l)) (nx + 1)).inS (ch c) "\"\\", .br (Txt.contains "\"\\" (ch c)) false h] (by kernel_rfl)
  have hs := hsz _ (escS_len "\"\\")
  have hj := hj _ (escS_len "\"\\")
  generalize hL9 : word.cps.toList.map (escS "\"\\") = L at comp hs hj ⊢
  have hL := hL9.symm
  clear hL9
  generalize hJ9 : Txt.join Str.empty L = J at hj ⊢
  have hJ := hJ9.symm
  clear hJ9
  rw [if_pos rfl]
  have q1 : ("\"" : Str).length=1:=by decide +kernel
  have q2:("\"" ++ J:Str).length=1+J.length:=by
   show ((("\"" : Str).cps ++ J.cps).size)=_
   rw [Array.size_append]; exact congrArg (· + J.length) q1
  exact (codeR ["word", "style"] (.ret (.d (.str ("\"" ++ J ++ "\"")))) m nx [] [.brT ((0:Int)=0) rfl,(cx prog w k m nx).mJoin Str.empty,.comp comp,(cx prog w k m nx).cJoin Str.empty (.d (.lst (strDs L))) L J hJ.symm rfl trivial hs,
   (cx prog w k m nx).addS false "\"" J _ rfl (by rw [q1,sizeLine_eq]; omega),(cx prog w k m nx).addS false ("\"" ++ J) "\"" _ rfl (by rw [q1,q2,sizeLine_eq]; omega)] (by kernel_rfl) (bindq2 fun S a b=>by kernel_rfl) rfl (by subst hV; kernel_rfl)).call
 ·rw [if_neg h0]
  by_cases h1:s=1
  ·subst h1
   have comp:ETr prog w (KK w) bt k (ph w "_law_written") (cArg 0 (retE (nthS (ifB (nthS (bd w "_law_written") 1)) 0))) ⟨V,[],m,nx⟩ (.d (.lst (strDs (word.cps.toList.map escA)))) ⟨V,[],m,nx⟩:=by
    unfold strDs
    rw [List.map_map]
    refine ETr.ofLoop (by kernel_rfl) (a:=.d (.str word)) (ds:=strD word) (ETr.runE 20 [] (by subst hV; kernel_rfl)) rfl
     (loop1n (st:=⟨V,[],m,nx⟩) (a:=.d (.str word)) (xs:=word.cps.toList) (gD:=fun c=>.str (ch c)) (by kernel_rfl) (by kernel_rfl) rfl (tgt_nameN "sign" (by kernel_rfl) (by kernel_rfl) (by subst hV; kernel_rfl)) (fun c hc l=>?_) (by omega))
    subst hV
    exact ETr.runE 20 [(cx prog w k (upd m nx (.list l)) (nx+1)).addS false "\\" (ch c) _ rfl (Nat.le_of_ble_eq_true (by kernel_rfl))] (by kernel_rfl)
   have hs := hsz escA (fun c => Nat.le_of_ble_eq_true (by kernel_rfl))
   generalize hL9 : word.cps.toList.map escA = L at comp hs ⊢
   have hL := hL9.symm
   clear hL9
   obtain ⟨J, hJ⟩ : ∃ J, J = Txt.join Str.empty L := ⟨_, rfl⟩
   rw [<- hJ, if_pos rfl]
   exact (codeR ["word", "style"] (.ret (.d (.str J))) m nx [] [.brF ((1 : Int) = 0) (by decide), .brT ((1 : Int) = 1) rfl, (cx prog w k m nx).mJoin Str.empty, .comp comp, (cx prog w k m nx).cJoin Str.empty (.d (.lst (strDs L))) L J hJ.symm rfl trivial hs] (by kernel_rfl) (bindq2 fun S a b => by kernel_rfl) rfl (by subst hV; kernel_rfl)).call
  ·have comp : ETr prog w (KK w) bt k (ph w "_law_written") (cArg 0 (retE (nthS (bd w "_law_written") 2))) ⟨V, [], m, nx⟩ (.d (.lst (strDs (word.cps.toList.map (escS " \"\\"))))) ⟨V, [], m, nx⟩ := by
    unfold strDs
    rw [List.map_map]
    refine ETr.ofLoop (by kernel_rfl) (a := .d (.str word)) (ds := strD word) (ETr.runE 20 [] (by subst hV; kernel_rfl)) rfl
     (loop1n (st := ⟨V, [], m, nx⟩) (a := .d (.str word)) (xs := word.cps.toList) (gD := fun c => .str (ch c)) (by kernel_rfl) (by kernel_rfl) rfl (tgt_nameN "sign" (by kernel_rfl) (by kernel_rfl) (by subst hV; kernel_rfl)) (fun c hc l => esc_elt c " \"\\" (fun h => ?_) fun h => ?_) (by omega))
    ·subst hV
     exact ETr.runE 20 [(cx prog w k (upd m nx (.list l)) (nx + 1)).inS (ch c) " \"\\", .br (Txt.contains " \"\\" (ch c)) true h, (cx prog w k (upd m nx (.list l)) (nx + 1)).addS false "\\" (ch c) _ rfl (Nat.le_of_ble_eq_true (by kernel_rfl))] (by kernel_rfl)
    ·subst hV
     exact ETr.runE 20 [(cx prog w k (upd m nx (.list l)) (nx + 1)).inS (ch c) " \"\\", .br (Txt.contains " \"\\" (ch c)) false h] (by kernel_rfl)
   have hs := hsz _ (escS_len " \"\\")
   generalize hL9 : word.cps.toList.map (escS " \"\\") = L at comp hs ⊢
   have hL := hL9.symm
   clear hL9
   obtain ⟨J, hJ⟩ : ∃ J, J = Txt.join Str.empty L := ⟨_, rfl⟩
   rw [<- hJ, if_neg h1]
   exact (codeR ["word", "style"] (.ret (.d (.str J))) m nx [] [.brF (s = 0) h0, .brF (s = 1) h1, (cx prog w k m nx).mJoin Str.empty, .comp comp, (cx prog w k m nx).cJoin Str.empty (.d (.lst (strDs L))) L J hJ.symm rfl trivial hs] (by kernel_rfl) (bindq2 fun S a b => by kernel_rfl) rfl (by subst hV; kernel_rfl)).call
theorem str_len (a b : Str) : (a ++ b).length = a.length + b.length := by
 show (a.cps ++ b.cps).size = _
 rw [Array.size_append]; rfl
theorem written_len (word : Str) (s : Int) (n : Nat) (h : word.length <= n) : (writtenF word s).length <= 2 * n + 2 := by
 have key : ∀ f : Nat -> Str, (∀ c, (f c).length <= 2) -> (Txt.join Str.empty (word.cps.toList.map f)).length <= 2 * n := fun f hf => by
  have h : (Txt.join Str.empty (word.cps.toList.map f)).length = _ := size_glued Str.empty (word.cps.toList.map f)
  have := sum_le2 (fun c => (f c).length) hf word.cps.toList
  have e : Str.empty.length = 0 := rfl
  have e2 : word.cps.toList.length = word.length := by rw [Array.length_toList]; rfl
  rw [e, List.map_map] at h
  simp only [Function.comp_def] at h
  omega
 have q1 : ("\"" : Str).length=1:=by decide +kernel
 unfold writtenF
 split
 ·rw [str_len,str_len,q1]
  have:=key _ (escS_len "\"\\")
  omega
 ·split
  ·have := key escA (fun c => Nat.le_of_ble_eq_true (by kernel_rfl)); omega
  ·have := key _ (escS_len " \"\\"); omega
theorem fold_bound {α σ : Type} {step : σ -> α -> σ} {μ : σ -> Nat} {c : Nat} : ∀ (xs : List α) (s : σ), (∀ x ∈ xs, ∀ s, μ (step s x) <= μ s + c) -> μ (xs.foldl step s) <= μ s + c * xs.length
 | [], s, _ => by simp
 | x :: xs, s, h => by
  rw [List.foldl_cons, List.length_cons, Nat.mul_add]
  have := h x (List.mem_cons_self ..) s
  have := fold_bound xs (step s x) fun y hy => h y (List.mem_cons_of_mem _ hy)
  omega
theorem strDs_len (l : List Str) : (strDs l).length = l.length := List.length_map _
theorem isLam_of {e : PySem.Expr} : isLam e = true -> ∃ ps b sc p, e = .Lambda ps b sc p := by
 induction e using PySem.Expr.casesOn with
 | Lambda ps b sc p => exact fun _ => ⟨ps, b, sc, p, rfl⟩
 | _ => exact fun h => Internal.ft h
theorem ETr.lamE {prog : Program} {w : World} {K : Frag} {btab : List (Str × Value)} {k : Nat} {φ : Fm} {e : PySem.Expr} {V : List (Str × AV)} {fz : List Str} {m : Nat -> MO} {nx : Nat} {caps : List (Str × AV)} {j : Nat} {cA : Addr} (he : isLam e = true) (hdef : noDef (lamPs e) = true) (hcode : φ.code = some cA) (hj : j < nx) (hm : m j = .tab cA)
  (hn : lamNames φ V (lamS e).names = true) (hcaps : freeCaps (nameNow φ ⟨V, fz, m, nx⟩) (lamS e).names = some caps) (fz' : List Str) (hfz : frozenBy φ (lamS e).names fz = fz') :
  ETr prog w K btab k φ e ⟨V, fz, m, nx⟩ (.fn (lamPs e) (lamB e) (lamS e) caps) ⟨V, fz', m, nx⟩ := by
 subst hfz
 obtain ⟨ps, b, sc, p, rfl⟩ := isLam_of he
 have e1 : lamPs (.Lambda ps b sc p) = ps := by unfold lamPs; rfl
 have e2 : lamB (.Lambda ps b sc p) = b := by unfold lamB; rfl
 have e3 : lamS (.Lambda ps b sc p) = sc := by unfold lamS; rfl
 rw [e1] at hdef ⊢
 rw [e3] at hn hcaps ⊢
 rw [e2]
 exact ETr.lam (st := ⟨V, fz, m, nx⟩) hdef hcode hj hm hn hcaps
noncomputable abbrev netC (w : World) : Addr := fa w "_netrclex"
noncomputable def wsS : Str := "\n\t\r "
noncomputable def lexNs (L : Int) (x : AV) (p : Nat) : List (Str × AV) := [("lineno", .d (.int L)), ("instream", x), ("whitespace", .d (.str wsS)), ("pushback", .loc p)]
theorem net_init (n j : Nat) (x : AV) (hn : n < nx) (h1 : m n = .inst (netC w) j) (h2 : m j = .ns []) (hj : j < nx) (hnj : n ≠ j) :
  CodeTr prog w (KK w) bt (k + 1) (.k (.ref (ca w "_netrclex" "__init__"))) [.loc n, x] [] m nx (.d .none) (upd (upd m nx (.list [])) j (.ns (lexNs 1 x nx))) (nx + 1) := by
 obtain ⟨m1, d1⟩ : ∃ x', x' = upd m j (.ns [("lineno", .d (.int 1))]) := ⟨_, rfl⟩
 obtain ⟨m2, d2⟩ : ∃ x', x' = upd m1 j (.ns [("lineno", .d (.int 1)), ("instream", x)]) := ⟨_, rfl⟩
 obtain ⟨m3, d3⟩ : ∃ x', x' = upd m2 j (.ns [("lineno", .d (.int 1)), ("instream", x), ("whitespace", .d (.str wsS))]) := ⟨_, rfl⟩
 obtain ⟨m4, d4⟩ : ∃ x', x' = upd (upd m nx (.list [])) j (.ns (lexNs 1 x nx)) := ⟨_, rfl⟩
 have n1 : m1 n = .inst (netC w) j := by rw [d1, upd_ne _ _ _ hnj, h1]
 have n2 : m2 n = .inst (netC w) j := by rw [d2, upd_ne _ _ _ hnj, n1]
 have n3 : m3 n = .inst (netC w) j := by rw [d3, upd_ne _ _ _ hnj, n2]
 have e3 : m3 j = .ns [("lineno", .d (.int 1)), ("instream", x), ("whitespace", .d (.str wsS))] := by rw [d3, upd_at]
 have e2 : m2 j = .ns [("lineno", .d (.int 1)), ("instream", x)] := by rw [d2, upd_at]
 have e1 : m1 j = .ns [("lineno", .d (.int 1))] := by rw [d1, upd_at]
 have q4 : m4 = upd (upd m3 nx (.list [])) j (.ns (lexNs 1 x nx)) := by rw [d4, d3, d2, d1, upd_same, upd_same, <- upd_comm _ (Nat.ne_of_gt hj), upd_same]
 rw [<- d4]
 clear d4
 exact codeR ["self", "fp"] .next m4 (nx + 1) [] [
  (cx prog w k m nx).setA n j (netC w) [] [("lineno", .d (.int 1))] "lineno" (.d (.int 1)) m1 hn h1 h2 rfl (by kernel_rfl) (by kernel_rfl) d1,
  (cx prog w k m1 nx).setA n j (netC w) [("lineno", .d (.int 1))] [("lineno", .d (.int 1)), ("instream", x)] "instream" x m2 hn n1 e1 rfl (by kernel_rfl) (by kernel_rfl) d2,
  (cx prog w k m2 nx).setA n j (netC w) [("lineno", .d (.int 1)), ("instream", x)] [("lineno", .d (.int 1)), ("instream", x), ("whitespace", .d (.str wsS))] "whitespace" (.d (.str wsS)) m3 hn n2 e2 rfl (by kernel_rfl) (by kernel_rfl) d3,
  .lst [] true (Nat.zero_le _),
  (cx prog w k (upd m3 nx (.list [])) (nx + 1)).setA n j (netC w) [("lineno", .d (.int 1)), ("instream", x), ("whitespace", .d (.str wsS))] (lexNs 1 x nx) "pushback" (.loc nx) m4 (Nat.lt_succ_of_lt hn) ((upd_ne _ _ _ (Nat.ne_of_lt hn)).trans n3) ((upd_ne _ _ _ (Nat.ne_of_lt hj)).trans e3) rfl (by kernel_rfl) (by kernel_rfl) q4]
  (by kernel_rfl) (bindq2 fun S a b => by kernel_rfl) rfl (by kernel_rfl)
noncomputable def mkLex (w : World) (m : Nat -> MO) (nx : Nat) (x : AV) : Nat -> MO := upd (upd (upd m nx (.ns (lexNs 1 x (nx + 2)))) (nx + 1) (.inst (netC w) nx)) (nx + 2) (.list [])
theorem net_make (x : AV) : CallTr prog w (KK w) bt (k + 2) (fn w "_netrclex") [x] [] m nx (.loc (nx+1)) (mkLex w m nx x) (nx+3):=by
 have hi:=net_init (prog:=prog) (w:=w) (k:=k) (m:=upd (upd m nx (.ns [])) (nx+1) (.inst (netC w) nx)) (nx:=nx+1+1) (nx+1) nx x (Nat.lt_succ_self _) (upd_at _ _ _) (by rw [upd_ne _ _ _ (Nat.ne_of_lt (Nat.lt_succ_self _)),upd_at]) (by omega) (by omega)
 have e:upd (upd (upd (upd m nx (.ns [])) (nx+1) (.inst (netC w) nx)) (nx+1+1) (.list [])) nx (.ns (lexNs 1 x (nx+1+1)))=mkLex w m nx x:=by
  unfold mkLex
  funext i
  simp only [upd]
  by_cases h0:i=nx
  ·subst h0
   have a:¬ i=i+2:=by omega
   have b:¬ i=i+1:=by omega
   simp [a,b]
  ·simp only [h0,if_false]
 rw [e] at hi
 exact (code_make (st':=⟨[],[],m,nx⟩) (by kernel_rfl) (by kernel_rfl) (by kernel_rfl) hi).call
noncomputable def leftD (cs:List Nat):List D:=cs.reverse.map fun c=>.str (ch c)
theorem size_down (n:Nat):Builtin.Range.rangeSize ((n:Int) - 1) (-1) (-1)=n:=by
 unfold Builtin.Range.rangeSize
 rw [if_neg (by decide)]
 by_cases h:n=0
 ·subst h; rfl
 ·rw [if_pos (by omega)]
  have:(-(-1):Int)=1:=rfl
  rw [this,Int.ediv_one]
  omega
theorem small_down (n:Nat) (h:n<=100000):Builtin.Range.small ((n:Int) - 1) (-1) (-1)=true:=by
 unfold Builtin.Range.small
 rw [size_down]
 unfold Builtin.Range.rangeFitsLong
 simp
 omega
theorem rng_down (n:Nat):rngD ((n:Int) - 1) (-1) (-1)=(List.range n).map fun i:Nat=>D.int ((n:Int) - 1+i * (-1)):=by
 unfold rngD
 rw [size_down]
 rfl
theorem dn_eq {n i:Nat} (h:i < n):(n:Int) - 1+i * (-1)=((n - 1 - i:Nat):Int):=by omega
theorem dn_lt {n i:Nat} (h:i < n):n - 1 - i < n:=by omega
theorem item_down (x:Str) (n i:Nat) (hn:n=x.cps.size) (h:i < n):Txt.item x ((n:Int) - 1+i * (-1))=ch (x.cps.toList.getD (n - 1 - i) 0) /\ (Txt.charAt x ((n:Int) - 1+i * (-1))).isSome=true:=by
 rw [dn_eq h]
 have hlt:n - 1 - i < x.length:=Nat.lt_of_lt_of_eq (dn_lt h) hn
 have e:seqIndex? ((n - 1 - i:Nat):Int) x.length=some (n - 1 - i):=si_at hlt
 have hc:Txt.charAt x ((n - 1 - i:Nat):Int)=some (x.cps.toList.getD (n - 1 - i) 0):=by
  unfold Txt.charAt
  rw [e]
  have hlt:n - 1 - i < x.cps.size:=Nat.lt_of_lt_of_eq (dn_lt h) hn
  have hlt':n - 1 - i < x.cps.toList.length:=by rw [Array.length_toList]; exact hlt
  show x.cps[n - 1 - i]? = _
  rw [List.getD_eq_getElem?_getD,List.getElem?_eq_getElem hlt',Array.getElem?_eq_getElem hlt]
  simp
 refine ⟨?_,by rw [hc]; rfl⟩
 unfold Txt.item
 rw [hc]
 rfl
theorem left_is (x:Str):((List.range x.cps.size).map fun i:Nat=>D.str (ch (x.cps.toList.getD (x.cps.size - 1 - i) 0)))=leftD x.cps.toList:=by
 unfold leftD
 apply List.ext_getElem?
 intro i
 rw [List.getElem?_map,List.getElem?_map]
 by_cases h:i < x.cps.size
 ·have h':i < x.cps.toList.length:=by rw [Array.length_toList]; exact h
  rw [List.getElem?_range h,List.getElem?_reverse h',Array.length_toList]
  have h2:x.cps.size - 1 - i < x.cps.toList.length:=Array.length_toList ▸ dn_lt h
  rw [List.getElem?_eq_getElem h2]
  show some (D.str (ch (x.cps.toList.getD (x.cps.size - 1 - i) 0)))=_
  rw [List.getD_eq_getElem?_getD,List.getElem?_eq_getElem h2]
  rfl
 ·rw [List.getElem?_eq_none (by rw [List.length_range]; omega),List.getElem?_eq_none (by rw [List.length_reverse,Array.length_toList]; omega)]
  rfl
noncomputable def readL (w:World):PySem.Expr:=assE (nthS (bd w "_law_lexer") 2)
noncomputable def readAV (w:World) (q:Nat):AV:=.fn (lamPs (readL w)) (lamB (readL w)) (lamS (readL w)) [("left",.loc q)]
noncomputable def srcNs (w:World) (p q:Nat):List (Str × AV):=lexNs 1 (.d .none) p ++ ([("read",readAV w q)]:List (Str × AV))
noncomputable def lexM (w:World) (m:Nat->MO) (nx:Nat) (cs:List Nat):Nat->MO:=
 mkLex w (upd (mkLex w (upd m nx (.list (leftD cs))) (nx+1) (.d .none)) (nx+1) (.ns (srcNs w (nx+3) nx))) (nx+4) (.loc (nx+2))
theorem left_tr (text:Str) (hl:text.cps.size<=10000):STr prog w (KK w) bt (k+2) (ph w "_law_lexer") (nthS (bd w "_law_lexer") 0) ⟨[("text",.d (.str text))],[],m,nx⟩ .next ⟨[("text",.d (.str text)),("left",.loc nx)],[],upd m nx (.list (leftD text.cps.toList)),nx+1⟩:=by
 obtain ⟨n,hn⟩ : ∃ n,n=text.cps.size:=⟨_,rfl⟩
 rw [<- left_is]
 generalize hV9:(([("text",.d (.str text))]:List (Str × AV)):List (Str × AV))=V
 have hV:=hV9.symm
 clear hV9
 have elen:text.length=n:=hn.symm
 rw [<- hn] at hl ⊢
 have first:ETr prog w (KK w) bt (k+2) (ph w "_law_lexer") (lcFirst (asVal (nthS (bd w "_law_lexer") 0))).iter ⟨V,[],m,nx⟩ (.d (.rng ((n:Int) - 1) (-1) (-1))) ⟨V,[],m,nx⟩:=by
  have hp:Builtin.divisionGoesByPylong ((-1:Int) - ((n:Int) - 1)) (-1)=false:=rfl
  have l:=c_lenS (prog:=prog) (w:=w) (K:=KK w) (btab:=bt) (k:=k+2) (m:=m) (nx:=nx) (x:=text) (by rw [elen]; omega)
  rw [elen] at l
  subst hV
  exact ETr.runE 20 [.call l,(cx prog w (k+2) m nx).range3 ((n:Int) - 1) (-1) (-1) (by decide) hp] (by kernel_rfl)
 refine STr.ofLoopN (l:=(List.range n).map fun i:Nat=>D.str (ch (text.cps.toList.getD (n - 1 - i) 0))) (by kernel_rfl) (by kernel_rfl) first (ds:=rngD ((n:Int) - 1) (-1) (-1)) ⟨small_down n (by omega),rfl⟩ ?_ (by subst hV; kernel_rfl)
 rw [rng_down]
 refine loop1n (st:=⟨V,[],m,nx⟩) (a:=.d (.rng ((n:Int) - 1) (-1) (-1))) (xs:=List.range n) (gD:=fun i:Nat=>D.int ((n:Int) - 1+i * (-1))) (by kernel_rfl) (by kernel_rfl) ⟨small_down n (by omega),(rng_down n).symm⟩ (tgt_nameN "place" (by kernel_rfl) (by kernel_rfl) (by subst hV; kernel_rfl)) (fun i hi l=>?_) (by rw [List.length_range]; omega)
 have hi':i < n:=List.mem_range.mp hi
 obtain ⟨e1,e2⟩:=item_down text n i hn hi'
 rw [<- e1]
 have hf:fitsSsize ((n:Int) - 1+i * (-1))=true:=by
  unfold fitsSsize
  simp
  omega
 subst hV
 exact ETr.runE 20 [(cx prog w (k+2) (upd m nx (.list l)) (nx+1)).itemS text ((n:Int) - 1+i * (-1)) hf e2] (by kernel_rfl)
theorem lexer_tr (text:Str) (hl:text.cps.size<=10000) (j:Nat) (cA:Addr) (hj:j < nx) (hm:m j=.tab cA) (hc:(ph w "_law_lexer").code=some cA) :
  CallTr prog w (KK w) bt (k+3) (fn w "_law_lexer") [.d (.str text)] [] m nx (.loc (nx+5)) (lexM w m nx text.cps.toList) (nx+7):=by
 obtain ⟨m1,d1⟩ : ∃ x,x=upd m nx (.list (leftD text.cps.toList)):=⟨_,rfl⟩
 obtain ⟨m2,d2⟩ : ∃ x,x=mkLex w m1 (nx+1) (.d .none):=⟨_,rfl⟩
 obtain ⟨m3,d3⟩ : ∃ x,x=upd m2 (nx+1) (.ns (srcNs w (nx+3) nx)):=⟨_,rfl⟩
 have e0:lexM w m nx text.cps.toList=mkLex w m3 (nx+4) (.loc (nx+2)):=by rw [d3,d2,d1]; rfl
 rw [e0]
 have s1:=left_tr (prog:=prog) (w:=w) (k:=k) (m:=m) (nx:=nx) text hl
 have s2:=net_make (prog:=prog) (w:=w) (k:=k) (m:=m1) (nx:=nx+1) (.d .none)
 have s4:=net_make (prog:=prog) (w:=w) (k:=k) (m:=m3) (nx:=nx+4) (.loc (nx+2))
 have i1:m2 (nx+2)=.inst (netC w) (nx+1):=by
  rw [d2]; unfold mkLex; rw [upd_ne _ _ _ (by omega),upd_at]
 have i2:m2 (nx+1)=.ns (lexNs 1 (.d .none) (nx+3)):=by
  rw [d2]; unfold mkLex; rw [upd_ne _ _ _ (by omega),upd_ne _ _ _ (by omega),upd_at]
 have hm2:m2 j=.tab cA:=by
  rw [d2]; unfold mkLex; rw [upd_ne _ _ _ (by omega),upd_ne _ _ _ (by omega),upd_ne _ _ _ (by omega),d1,upd_ne _ _ _ (by omega),hm]
 rw [<- d1] at s1
 rw [<- d2] at s2
 generalize d49:mkLex w m3 (nx+4) (.loc (nx+2))=m4 at s4 ⊢
 have d4:=d49.symm
 clear d49
 have lam:ETr prog w (KK w) bt (k+2) (ph w "_law_lexer") (readL w) ⟨[("text",.d (.str text)),("left",.loc nx),("source",.loc (nx+2))],[],m2,nx+4⟩ (readAV w nx) ⟨[("text",.d (.str text)),("left",.loc nx),("source",.loc (nx+2))],["left"],m2,nx+4⟩:=
  ETr.lamE (by kernel_rfl) (by kernel_rfl) hc (by omega) hm2 (by kernel_rfl) (by kernel_rfl) _ (by kernel_rfl)
 exact (codeR ["text"] (.ret (.loc (nx+5))) m4 (nx+7) ["left"] [.stm s1,.call s2,.lam lam,
  (cx prog w (k+2) m2 (nx+4)).setA (nx+2) (nx+1) (netC w) (lexNs 1 (.d .none) (nx+3)) (srcNs w (nx+3) nx) "read" (readAV w nx) m3 (by show nx+2 < nx+4; omega) i1 i2 rfl (by kernel_rfl) (by kernel_rfl) d3,
  .call s4,.keep] (by kernel_rfl) (bindq1 fun S a=>by kernel_rfl) rfl (by kernel_rfl)).call
theorem leftD_cons (c:Nat) (r:List Nat):leftD (c :: r)=leftD r ++ [.str (ch c)]:=by unfold leftD; rw [List.reverse_cons,List.map_append]; rfl
theorem leftD_len (r:List Nat):(leftD r).length=r.length:=by unfold leftD; rw [List.length_map,List.length_reverse]
noncomputable def OkCs (cs:List Nat):Prop:=cs.length<=10000 /\ ∀ c ∈ cs,c < 1114112
theorem OkCs.tail {c:Nat} {r:List Nat} (h:OkCs (c :: r)):OkCs r:=⟨by have:=h.1; rw [List.length_cons] at this; omega,fun x hx=>h.2 x (List.mem_cons_of_mem _ hx)⟩
theorem ch_ok {c:Nat} (h:c < 1114112):PyData.strOk (ch c)=true:=by
 unfold PyData.strOk ch
 simp
 omega
theorem left_flat {cs:List Nat} (h:OkCs cs):Flat (.lst (leftD cs)):=flat_lst fun x hx=>by
 unfold leftD at hx
 obtain ⟨c,hc,rfl⟩:=List.mem_map.mp hx
 exact ⟨ch_ok (h.2 c (List.mem_reverse.mp hc)),Nat.zero_le _⟩
theorem nil_flat:Flat (.lst []):=flat_lst fun x hx=>by cases hx
theorem lamBind_read:LamBind (lamPs (readL w)) "size" := by
 intro fd v h1 h2 h3
 obtain ⟨a1,a2,a3,a4,a5,a6,a7,a8,a9⟩:=fd
 subst h1 h2 h3
 kernel_rfl
theorem read_nil (q:Nat) (hq:q < nx) (hm:m q=.list []):CodeTr prog w (KK w) bt (k+1) (readAV w q) [.d (.int 1)] [] m nx (.d (.str Str.empty)) m nx:=
 code_lam (st':=⟨[("size",.d (.int 1))],[],m,nx⟩) lamBind_read (by kernel_rfl) (ETr.runE 20 [.lst [] false (Nat.zero_le _),
  (cx prog w k m nx).neF (.loc q) (.d (.lst [])) (.lst []) (.lst []) true (by simp) (.inr ⟨[],rfl,trivial,hq,hm⟩) (.inl rfl) nil_flat nil_flat,.br (!true) false rfl] (by kernel_rfl))
theorem read_cons (q c:Nat) (r:List Nat) (hq:q < nx) (hm:m q=.list (leftD (c :: r))) (hok:OkCs (c :: r)):CodeTr prog w (KK w) bt (k+1) (readAV w q) [.d (.int 1)] [] m nx (.d (.str (ch c))) (upd m q (.list (leftD r))) nx:=
 code_lam (st':=⟨[("size",.d (.int 1))],[],upd m q (.list (leftD r)),nx⟩) lamBind_read (by kernel_rfl) (ETr.runE 20 [.lst [] false (Nat.zero_le _),
  (cx prog w k m nx).neF (.loc q) (.d (.lst [])) (.lst (leftD (c :: r))) (.lst []) false (by rw [leftD_cons]; simp) (.inr ⟨_,rfl,trivial,hq,hm⟩) (.inl rfl) (left_flat hok) nil_flat,.br (!false) true rfl,
  (cx prog w k m nx).mPop (.loc q) (leftD (c :: r)) ⟨hq,hm⟩ trivial,(cx prog w k m nx).cPop q (leftD r) (.str (ch c)) hq (by rw [<- leftD_cons]; exact hm) (by rw [leftD_len]; have:=hok.tail.1; omega) (upd m q (.list (leftD r))) rfl] (by kernel_rfl))
structure LexAt (w:World) (m:Nat->MO) (nx n j p s t q p':Nat) (L:Int) (cs:List Nat) (push:List D):Prop where
 ln:n < nx
 lj:j < nx
 lp:p < nx
 ls:s < nx
 lt:t < nx
 lq:q < nx
 i1:m n=.inst (netC w) j
 i2:m j=.ns (lexNs L (.loc s) p)
 i3:m p=.list push
 i4:m s=.inst (netC w) t
 i5:m t=.ns (srcNs w p' q)
 i6:m q=.list (leftD cs)
 jt:j ≠ t
 pq:p ≠ q
noncomputable def lexUp (m:Nat->MO) (j p s q:Nat) (L:Int) (cs:List Nat):Nat->MO:=upd (upd m q (.list (leftD cs))) j (.ns (lexNs L (.loc s) p))
variable {n j p s t q p':Nat} {L:Int} {cs:List Nat} {push:List D}
theorem LexAt.ne (X:LexAt w m nx n j p s t q p' L cs push):n ≠ j /\ n ≠ q /\ j ≠ q /\ s ≠ j /\ s ≠ q /\ t ≠ q /\ p ≠ j /\ n ≠ p /\ s ≠ p /\ t ≠ p:=by
 refine ⟨?_,?_,?_,?_,?_,?_,?_,?_,?_,?_⟩
 ·intro h; have:=X.i1; rw [h,X.i2] at this; cases this
 ·intro h; have:=X.i1; rw [h,X.i6] at this; cases this
 ·intro h; have:=X.i2; rw [h,X.i6] at this; cases this
 ·intro h; have:=X.i4; rw [h,X.i2] at this; cases this
 ·intro h; have:=X.i4; rw [h,X.i6] at this; cases this
 ·intro h; have:=X.i5; rw [h,X.i6] at this; cases this
 ·intro h; have:=X.i3; rw [h,X.i2] at this; cases this
 ·intro h; have:=X.i1; rw [h,X.i3] at this; cases this
 ·intro h; have:=X.i4; rw [h,X.i3] at this; cases this
 ·intro h; have:=X.i5; rw [h,X.i3] at this; cases this
theorem LexAt.up (X:LexAt w m nx n j p s t q p' L cs push) (L':Int) (cs':List Nat):LexAt w (lexUp m j p s q L' cs') nx n j p s t q p' L' cs' push:=by
 obtain ⟨a1,a2,a3,a4,a5,a6,a7,a8,a9,a10⟩:=X.ne
 refine ⟨X.ln,X.lj,X.lp,X.ls,X.lt,X.lq,?_,?_,?_,?_,?_,?_,X.jt,X.pq⟩
 ·unfold lexUp; rw [upd_ne _ _ _ a1,upd_ne _ _ _ a2,X.i1]
 ·unfold lexUp; rw [upd_at]
 ·unfold lexUp; rw [upd_ne _ _ _ a7,upd_ne _ _ _ X.pq,X.i3]
 ·unfold lexUp; rw [upd_ne _ _ _ a4,upd_ne _ _ _ a5,X.i4]
 ·unfold lexUp; rw [upd_ne _ _ _ (Ne.symm X.jt),upd_ne _ _ _ a6,X.i5]
 ·unfold lexUp; rw [upd_ne _ _ _ (Ne.symm a3),upd_at]
theorem lexUp_up (m:Nat->MO) (j p s q:Nat) (hjq:j ≠ q) (L L':Int) (cs cs':List Nat):lexUp (lexUp m j p s q L cs) j p s q L' cs'=lexUp m j p s q L' cs':=by
 unfold lexUp
 rw [upd_comm _ hjq,upd_same,upd_same]
theorem LexAt.id (X:LexAt w m nx n j p s t q p' L cs push):lexUp m j p s q L cs=m:=by
 unfold lexUp
 rw [upd_id m q X.i6,upd_id m j X.i2]
theorem lexUp_ne {i:Nat} (h1:i ≠ j) (h2:i ≠ q):lexUp m j p s q L cs i=m i:=by
 unfold lexUp
 rw [upd_ne _ _ _ h1,upd_ne _ _ _ h2]
noncomputable abbrev rcA (w:World):Addr:=ca w "_netrclex" "_read_char"
theorem rc_nil (X:LexAt w m nx n j p s t q p' L [] push):CodeTr prog w (KK w) bt (k+2) (.k (.ref (rcA w))) [.loc n] [] m nx (.d (.str Str.empty)) m nx:=
 codeR ["self"] (.ret (.d (.str Str.empty))) m nx [] [(cx prog w (k+1) m nx).getA n j (netC w) (lexNs L (.loc s) p) "instream" (.loc s) X.ln X.i1 X.i2 (by kernel_rfl) rfl (by kernel_rfl),
  (cx prog w (k+1) m nx).mAttr s t (netC w) (srcNs w p' q) "read" (readAV w q) X.ls X.i4 X.i5 (by kernel_rfl) rfl (by kernel_rfl) (by kernel_rfl),
  .call (CodeTr.call (read_nil (prog:=prog) (w:=w) (k:=k) (m:=m) (nx:=nx) q X.lq X.i6)),.brF (Str.empty = "\n") (by decide +kernel)] (by kernel_rfl) (bindq1 fun S a => by kernel_rfl) rfl (by kernel_rfl)
noncomputable def nlOf (c : Nat) : Int := if c = 10 then 1 else 0
theorem rc_cons (c : Nat) (r : List Nat) (X : LexAt w m nx n j p s t q p' L (c :: r) push) (hok : OkCs (c :: r)) : CodeTr prog w (KK w) bt (k + 2) (.k (.ref (rcA w))) [.loc n] [] m nx (.d (.str (ch c))) (lexUp m j p s q (L + nlOf c) r) nx := by
 obtain ⟨a1, a2, a3, a4, a5, a6, a7, a8, a9, a10⟩ := X.ne
 have j1 : (upd m q (.list (leftD r))) j = .ns (lexNs L (.loc s) p) := (upd_ne _ _ _ a3).trans X.i2
 have n1 : (upd m q (.list (leftD r))) n = .inst (netC w) j := (upd_ne _ _ _ a2).trans X.i1
 unfold nlOf
 by_cases hc : c = 10
 ·subst hc
  rw [if_pos rfl]
  exact codeR ["self"] (.ret (.d (.str (ch 10)))) (lexUp m j p s q (L + 1) r) nx [] [(cx prog w (k + 1) m nx).getA n j (netC w) (lexNs L (.loc s) p) "instream" (.loc s) X.ln X.i1 X.i2 (by kernel_rfl) rfl (by kernel_rfl),
   (cx prog w (k + 1) m nx).mAttr s t (netC w) (srcNs w p' q) "read" (readAV w q) X.ls X.i4 X.i5 (by kernel_rfl) rfl (by kernel_rfl) (by kernel_rfl),
   .call (CodeTr.call (read_cons (prog := prog) (w := w) (k := k) (m := m) (nx := nx) q 10 r X.lq X.i6 hok)), .brT (ch 10 = "\n") (by decide +kernel),
   (cx prog w (k + 1) (upd m q (.list (leftD r))) nx).getA n j (netC w) (lexNs L (.loc s) p) "lineno" (.d (.int L)) X.ln n1 j1 (by kernel_rfl) rfl (by kernel_rfl),
   (cx prog w (k + 1) (upd m q (.list (leftD r))) nx).setA n j (netC w) (lexNs L (.loc s) p) (lexNs (L + 1) (.loc s) p) "lineno" (.d (.int (L + 1))) (lexUp m j p s q (L + 1) r) X.ln n1 j1 rfl (by kernel_rfl) (by kernel_rfl) rfl]
   (by kernel_rfl) (bindq1 fun S a => by kernel_rfl) rfl (by kernel_rfl)
 ·rw [if_neg hc]
  have e : lexUp m j p s q (L + 0) r = upd m q (.list (leftD r)) := by
   rw [Int.add_zero]
   unfold lexUp
   rw [upd_id _ j j1]
  rw [e]
  exact codeR ["self"] (.ret (.d (.str (ch c)))) (upd m q (.list (leftD r))) nx [] [(cx prog w (k + 1) m nx).getA n j (netC w) (lexNs L (.loc s) p) "instream" (.loc s) X.ln X.i1 X.i2 (by kernel_rfl) rfl (by kernel_rfl),
   (cx prog w (k + 1) m nx).mAttr s t (netC w) (srcNs w p' q) "read" (readAV w q) X.ls X.i4 X.i5 (by kernel_rfl) rfl (by kernel_rfl) (by kernel_rfl),
   .call (CodeTr.call (read_cons (prog := prog) (w := w) (k := k) (m := m) (nx := nx) q c r X.lq X.i6 hok)), .brF (ch c = "\n") (fun h => hc (by
    have e2 : ("\n" : Str) = ch 10 := by decide +kernel
    rw [e2] at h
    unfold ch at h
    simpa using h))] (by kernel_rfl) (bindq1 fun S a => by kernel_rfl) rfl (by kernel_rfl)
end
section
variable {prog : Program} {w : World} {k : Nat} {m : Nat -> MO} {nx : Nat} {n j p s t q p' c : Nat} {L : Int} {cs : List Nat} {push : List D}
noncomputable abbrev Items := List (Bool × Nat)
noncomputable def encI (l : Items) : List Nat := l.flatMap fun x => if x.1 then [92, x.2] else [x.2]
noncomputable def tokI (tok : Str) (l : Items) : Str := l.foldl (fun t x => t ++ ch x.2) tok
theorem ch_len (c : Nat) : (ch c).length = 1 := rfl
theorem OkCs.app {a b : List Nat} (h : OkCs (a ++ b)) : OkCs b := ⟨by have := h.1; rw [List.length_append] at this; omega, fun x hx => h.2 x (List.mem_append.mpr (.inr hx))⟩
noncomputable abbrev gtA (w : World) : Addr := ca w "_netrclex" "get_token"
noncomputable abbrev gtB (w : World) : List Stmt := bdA w (gtA w)
noncomputable abbrev gtF (w : World) : Fm := phA w (gtA w)
noncomputable abbrev gtO (w : World) : Stmt := nthS (gtB w) 3
noncomputable abbrev gtQ (w : World) : Stmt := nthS (ifB (nthS (forBody (gtO w)) 1)) 0
noncomputable abbrev gtU (w : World) : Stmt := nthS (ifE (nthS (forBody (gtO w)) 1)) 2
noncomputable def Vg (n c : Nat) (tok : Str) : List (Str × AV) := [("self", .loc n), ("token", .d (.str tok)), ("fiter", .loc c)]
theorem ch_inj {a b : Nat} (h : ch a = ch b) : a = b := by unfold ch at h; simpa using h
theorem q_ch : ("\"" : Str)=ch 34:=by decide +kernel
theorem b_ch:("\\" : Str)=ch 92:=by decide +kernel
theorem nl0 {a:Nat} {L:Int} (h:a ≠ 10):L+nlOf a=L:=by unfold nlOf; rw [if_neg h]; exact Int.add_zero L
theorem rc_go (a:Nat) (r:List Nat) (X:LexAt w (lexUp m j p s q L (a :: r)) nx n j p s t q p' L (a :: r) push) (hok:OkCs (a :: r)) (h:a ≠ 10):CodeTr prog w (KK w) bt (k+2) (.k (.ref (rcA w))) [.loc n] [] (lexUp m j p s q L (a :: r)) nx (.d (.str (ch a))) (lexUp m j p s q L r) nx:=by
 have z:=rc_cons (prog:=prog) (k:=k) a r X hok
 rw [lexUp_up _ _ _ _ _ X.ne.2.2.1,nl0 h] at z
 exact z
theorem LexAt.next {cs:List Nat} (X:LexAt w (lexUp m j p s q L cs) nx n j p s t q p' L cs push) (cs':List Nat):LexAt w (lexUp m j p s q L cs') nx n j p s t q p' L cs' push:=by
 have z:=X.up L cs'
 rw [lexUp_up _ _ _ _ _ X.ne.2.2.1] at z
 exact z
theorem quote_loop (hcn:c < nx) (hcj:c ≠ j) (hcq:c ≠ q) (hmc:m c=.citer (.bm (rcA w) n) Str.empty):∀ (items:Items) (V0:List (Str × AV)) (tok:Str) (L:Int) (rest:List Nat),VSub (Vg n c tok) V0->(∀ x ∈ items,x.2 ≠ 10 /\ (x.1=false->x.2 ≠ 34 /\ x.2 ≠ 92))->tok.length+items.length<=1000 ->
  LexAt w (lexUp m j p s q L (encI items ++ 34 :: rest)) nx n j p s t q p' L (encI items ++ 34 :: rest) push->OkCs (encI items ++ 34 :: rest) ->
  ∃ V9,ForCi prog w (KK w) bt (k+2) (gtF w) (forTgt (gtQ w)) (forBody (gtQ w)) c n (rcA w) Str.empty items.length ⟨V0,[],lexUp m j p s q L (encI items ++ 34 :: rest),nx⟩ (.ret (.d (.str (tokI tok items)))) ⟨V9,[],lexUp m j p s q L rest,nx⟩
 | [],V0,tok,L,rest,hV,hi,hz,X,hok=>by
  have hjq:=X.ne.2.2.1
  have call:=rc_go (prog:=prog) (k:=k) 34 rest X hok (by decide)
  obtain ⟨V2,e,s2⟩:=takes_nameN (φ:=gtF w) (t:=forTgt (gtQ w)) (d:=.str (ch 34)) (V:=Vg n c tok) "ch" (by kernel_rfl) (by kernel_rfl) V0 [] (lexUp m j p s q L rest) nx hV
  have hm0:∀ L cs,lexUp m j p s q L cs c=.citer (.bm (rcA w) n) Str.empty:=fun L cs=>(lexUp_ne hcj hcq).trans hmc
  have body:BTr prog w (KK w) bt (k+3) (gtF w) (forBody (gtQ w)) ⟨("ch",.d (.str (ch 34))) :: Vg n c tok,[],lexUp m j p s q L rest,nx⟩ (.ret (.d (.str tok))) ⟨[],[],lexUp m j p s q L rest,nx⟩:=
   BTr.runS 40 [.brT (ch 34 = "\"") q_ch.symm] (by kernel_rfl)
  exact ⟨[],.stop hcn (hm0 _ _) call (hm0 _ _) (by kernel_rfl) e (body.pre s2)⟩
 | (true,a) :: items,V0,tok,L,rest,hV,hi,hz,X,hok=>by
  have hjq:=X.ne.2.2.1
  have ec:encI ((true,a) :: items) ++ 34 :: rest=92 :: a :: (encI items ++ 34 :: rest):=rfl
  rw [ec] at X hok ⊢
  obtain ⟨h10,-⟩:=hi _ (List.mem_cons_self ..)
  have call:=rc_go (prog:=prog) (k:=k) 92 _ X hok (by decide)
  have X1:=X.next (a :: (encI items ++ 34 :: rest))
  have call2:=rc_go (prog:=prog) (k:=k+1) a _ X1 hok.tail h10
  have X2:=X1.next (encI items ++ 34 :: rest)
  obtain ⟨V2,e,s2⟩:=takes_nameN (φ:=gtF w) (t:=forTgt (gtQ w)) (d:=.str (ch 92)) (V:=Vg n c tok) "ch" (by kernel_rfl) (by kernel_rfl) V0 [] (lexUp m j p s q L (a :: (encI items ++ 34 :: rest))) nx hV
  have hm0:∀ L cs,lexUp m j p s q L cs c=.citer (.bm (rcA w) n) Str.empty:=fun L cs=>(lexUp_ne hcj hcq).trans hmc
  have hz':tok.length+items.length+1<=1000:=by rw [List.length_cons] at hz; omega
  obtain ⟨m1,d1⟩ : ∃ x,x=lexUp m j p s q L (a :: (encI items ++ 34 :: rest)):=⟨_,rfl⟩
  obtain ⟨m2,d2⟩ : ∃ x,x=lexUp m j p s q L (encI items ++ 34 :: rest):=⟨_,rfl⟩
  have i1:=X1.i1
  have i2:=X1.i2
  have ih:=quote_loop hcn hcj hcq hmc items (Vg n c (tok ++ ch a)) (tok ++ ch a) L rest (.refl _) (fun x hx=>hi x (List.mem_cons_of_mem _ hx)) (by rw [str_len,ch_len]; omega) X2 hok.tail.tail
  rw [<- d1] at call2 i1 i2
  rw [<- d2] at call2
  have body:BTr prog w (KK w) bt (k+3) (gtF w) (forBody (gtQ w)) ⟨("ch",.d (.str (ch 92))) :: Vg n c tok,[],m1,nx⟩ .next ⟨Vg n c (tok ++ ch a),[],m2,nx⟩:=
   BTr.runS 40 [.brF (ch 92 = "\"") (by rw [q_ch]; exact fun h=>by have:=ch_inj h; omega),.brT (ch 92 = "\\") b_ch.symm, (cx prog w (k + 3) m1 nx).mFn n j (netC w) (rcA w) (lexNs L (.loc s) p) "_read_char" X1.ln i1 i2 (by kernel_rfl) (by kernel_rfl),
    .call (CodeTr.call call2), (cx prog w (k + 3) m2 nx).addS true tok (ch a) _ rfl (by rw [ch_len, sizeLine_eq]; omega)] (by kernel_rfl)
  rw [d1, d2] at body
  obtain ⟨V9, ih⟩ := ih
  exact ⟨V9, .step hcn (hm0 _ _) call (hm0 _ _) (by kernel_rfl) e (body.pre s2) (.inl rfl) ih⟩
 | (false, a) :: items, V0, tok, L, rest, hV, hi, hz, X, hok => by
  have hjq := X.ne.2.2.1
  have ec : encI ((false, a) :: items) ++ 34 :: rest = a :: (encI items ++ 34 :: rest) := rfl
  rw [ec] at X hok ⊢
  obtain ⟨h10, hb⟩ := hi _ (List.mem_cons_self ..)
  obtain ⟨h34, h92⟩ := hb rfl
  have call := rc_go (prog := prog) (k := k) a _ X hok h10
  have X1 := X.next (encI items ++ 34 :: rest)
  obtain ⟨V2, e, s2⟩ := takes_nameN (φ := gtF w) (t := forTgt (gtQ w)) (d := .str (ch a)) (V := Vg n c tok) "ch" (by kernel_rfl) (by kernel_rfl) V0 [] (lexUp m j p s q L (encI items ++ 34 :: rest)) nx hV
  have hm0 : ∀ L cs, lexUp m j p s q L cs c = .citer (.bm (rcA w) n) Str.empty := fun L cs => (lexUp_ne hcj hcq).trans hmc
  have hz' : tok.length + items.length + 1 <= 1000 := by rw [List.length_cons] at hz; omega
  obtain ⟨m1, d1⟩ : ∃ x, x = lexUp m j p s q L (encI items ++ 34 :: rest) := ⟨_, rfl⟩
  have body : BTr prog w (KK w) bt (k + 3) (gtF w) (forBody (gtQ w)) ⟨("ch", .d (.str (ch a))) :: Vg n c tok, [], m1, nx⟩ .next ⟨Vg n c (tok ++ ch a), [], m1, nx⟩ :=
   BTr.runS 40 [.brF (ch a = "\"") (by rw [q_ch]; exact fun h=>h34 (ch_inj h)),.brF (ch a = "\\") (by rw [b_ch]; exact fun h=>h92 (ch_inj h)),(cx prog w (k+3) m1 nx).addS true tok (ch a) _ rfl (by rw [ch_len,sizeLine_eq]; omega)] (by kernel_rfl)
  rw [d1] at body
  obtain ⟨V9,ih⟩:=quote_loop hcn hcj hcq hmc items (Vg n c (tok ++ ch a)) (tok ++ ch a) L rest (.refl _) (fun x hx=>hi x (List.mem_cons_of_mem _ hx)) (by rw [str_len,ch_len]; omega) X1 hok.tail
  exact ⟨V9,.step hcn (hm0 _ _) call (hm0 _ _) (by kernel_rfl) e (body.pre s2) (.inl rfl) ih⟩
noncomputable def wsB (c:Nat):Bool:=Txt.contains wsS (ch c)
theorem wsB_92:wsB 92=false:=by decide +kernel
theorem wsB_32:wsB 32=true:=by decide +kernel
theorem wsB_34:wsB 34=false:=by decide +kernel
theorem wsB_10:wsB 10=true:=by decide +kernel
theorem bare_loop (hcn:c < nx) (hcj:c ≠ j) (hcq:c ≠ q) (hmc:m c=.citer (.bm (rcA w) n) Str.empty) (d:Nat) (hd:wsB d=true) (hd10:d ≠ 10):∀ (items:Items) (V0:List (Str × AV)) (tok:Str) (L:Int) (rest:List Nat),VSub (Vg n c tok) V0->(∀ x ∈ items,x.2 ≠ 10 /\ (x.1=false->wsB x.2=false /\ x.2 ≠ 92))->tok.length+items.length<=1000 ->
  LexAt w (lexUp m j p s q L (encI items ++ d :: rest)) nx n j p s t q p' L (encI items ++ d :: rest) push->OkCs (encI items ++ d :: rest) ->
  ∃ V9,ForCi prog w (KK w) bt (k+2) (gtF w) (forTgt (gtU w)) (forBody (gtU w)) c n (rcA w) Str.empty items.length ⟨V0,[],lexUp m j p s q L (encI items ++ d :: rest),nx⟩ (.ret (.d (.str (tokI tok items)))) ⟨V9,[],lexUp m j p s q L rest,nx⟩
 | [],V0,tok,L,rest,hV,hi,hz,X,hok=>by
  have hjq:=X.ne.2.2.1
  have call:=rc_go (prog:=prog) (k:=k) d rest X hok hd10
  have X1:=X.next rest
  obtain ⟨V2,e,s2⟩:=takes_nameN (φ:=gtF w) (t:=forTgt (gtU w)) (d:=.str (ch d)) (V:=Vg n c tok) "ch" (by kernel_rfl) (by kernel_rfl) V0 [] (lexUp m j p s q L rest) nx hV
  have hm0:∀ L cs,lexUp m j p s q L cs c=.citer (.bm (rcA w) n) Str.empty:=fun L cs=>(lexUp_ne hcj hcq).trans hmc
  obtain ⟨m1,d1⟩ : ∃ x,x=lexUp m j p s q L rest:=⟨_,rfl⟩
  have i1:=X1.i1
  have i2:=X1.i2
  rw [<- d1] at i1 i2
  have body:BTr prog w (KK w) bt (k+3) (gtF w) (forBody (gtU w)) ⟨("ch",.d (.str (ch d))) :: Vg n c tok,[],m1,nx⟩ (.ret (.d (.str tok))) ⟨[],[],m1,nx⟩:=
   BTr.runS 40 [(cx prog w (k+3) m1 nx).getA n j (netC w) (lexNs L (.loc s) p) "whitespace" (.d (.str wsS)) X1.ln i1 i2 (by kernel_rfl) rfl (by kernel_rfl),(cx prog w (k+3) m1 nx).inS (ch d) wsS,.br (Txt.contains wsS (ch d)) true hd] (by kernel_rfl)
  rw [d1] at body
  exact ⟨[],.stop hcn (hm0 _ _) call (hm0 _ _) (by kernel_rfl) e (body.pre s2)⟩
 | (true,a) :: items,V0,tok,L,rest,hV,hi,hz,X,hok=>by
  have hjq:=X.ne.2.2.1
  have ec:encI ((true,a) :: items) ++ d :: rest=92 :: a :: (encI items ++ d :: rest):=rfl
  rw [ec] at X hok ⊢
  obtain ⟨h10,-⟩:=hi _ (List.mem_cons_self ..)
  have call:=rc_go (prog:=prog) (k:=k) 92 _ X hok (by decide)
  have X1:=X.next (a :: (encI items ++ d :: rest))
  have call2:=rc_go (prog:=prog) (k:=k+1) a _ X1 hok.tail h10
  have X2:=X1.next (encI items ++ d :: rest)
  obtain ⟨V2,e,s2⟩:=takes_nameN (φ:=gtF w) (t:=forTgt (gtU w)) (d:=.str (ch 92)) (V:=Vg n c tok) "ch" (by kernel_rfl) (by kernel_rfl) V0 [] (lexUp m j p s q L (a :: (encI items ++ d :: rest))) nx hV
  have hm0:∀ L cs,lexUp m j p s q L cs c=.citer (.bm (rcA w) n) Str.empty:=fun L cs=>(lexUp_ne hcj hcq).trans hmc
  have hz':tok.length+items.length+1<=1000:=by rw [List.length_cons] at hz; omega
  obtain ⟨m1,d1⟩ : ∃ x,x=lexUp m j p s q L (a :: (encI items ++ d :: rest)):=⟨_,rfl⟩
  obtain ⟨m2,d2⟩ : ∃ x,x=lexUp m j p s q L (encI items ++ d :: rest):=⟨_,rfl⟩
  have i1:=X1.i1
  have i2:=X1.i2
  have ih:=bare_loop hcn hcj hcq hmc d hd hd10 items (Vg n c (tok ++ ch a)) (tok ++ ch a) L rest (.refl _) (fun x hx=>hi x (List.mem_cons_of_mem _ hx)) (by rw [str_len,ch_len]; omega) X2 hok.tail.tail
  rw [<- d1] at call2 i1 i2
  rw [<- d2] at call2
  have body:BTr prog w (KK w) bt (k+3) (gtF w) (forBody (gtU w)) ⟨("ch",.d (.str (ch 92))) :: Vg n c tok,[],m1,nx⟩ .next ⟨Vg n c (tok ++ ch a),[],m2,nx⟩:=
   BTr.runS 40 [(cx prog w (k+3) m1 nx).getA n j (netC w) (lexNs L (.loc s) p) "whitespace" (.d (.str wsS)) X1.ln i1 i2 (by kernel_rfl) rfl (by kernel_rfl),(cx prog w (k+3) m1 nx).inS (ch 92) wsS,.br (Txt.contains wsS (ch 92)) false wsB_92,
    .brT (ch 92 = "\\") b_ch.symm, (cx prog w (k + 3) m1 nx).mFn n j (netC w) (rcA w) (lexNs L (.loc s) p) "_read_char" X1.ln i1 i2 (by kernel_rfl) (by kernel_rfl),
    .call (CodeTr.call call2), (cx prog w (k + 3) m2 nx).addS true tok (ch a) _ rfl (by rw [ch_len, sizeLine_eq]; omega)] (by kernel_rfl)
  rw [d1, d2] at body
  obtain ⟨V9, ih⟩ := ih
  exact ⟨V9, .step hcn (hm0 _ _) call (hm0 _ _) (by kernel_rfl) e (body.pre s2) (.inl rfl) ih⟩
 | (false, a) :: items, V0, tok, L, rest, hV, hi, hz, X, hok => by
  have hjq := X.ne.2.2.1
  have ec : encI ((false, a) :: items) ++ d :: rest = a :: (encI items ++ d :: rest) := rfl
  rw [ec] at X hok ⊢
  obtain ⟨h10, hb⟩ := hi _ (List.mem_cons_self ..)
  obtain ⟨hws, h92⟩ := hb rfl
  have call := rc_go (prog := prog) (k := k) a _ X hok h10
  have X1 := X.next (encI items ++ d :: rest)
  obtain ⟨V2, e, s2⟩ := takes_nameN (φ := gtF w) (t := forTgt (gtU w)) (d := .str (ch a)) (V := Vg n c tok) "ch" (by kernel_rfl) (by kernel_rfl) V0 [] (lexUp m j p s q L (encI items ++ d :: rest)) nx hV
  have hm0 : ∀ L cs, lexUp m j p s q L cs c = .citer (.bm (rcA w) n) Str.empty := fun L cs => (lexUp_ne hcj hcq).trans hmc
  have hz' : tok.length + items.length + 1 <= 1000 := by rw [List.length_cons] at hz; omega
  obtain ⟨m1, d1⟩ : ∃ x, x = lexUp m j p s q L (encI items ++ d :: rest) := ⟨_, rfl⟩
  have i1 := X1.i1
  have i2 := X1.i2
  rw [<- d1] at i1 i2
  have body : BTr prog w (KK w) bt (k + 3) (gtF w) (forBody (gtU w)) ⟨("ch", .d (.str (ch a))) :: Vg n c tok, [], m1, nx⟩ .next ⟨Vg n c (tok ++ ch a), [], m1, nx⟩ :=
   BTr.runS 40 [(cx prog w (k + 3) m1 nx).getA n j (netC w) (lexNs L (.loc s) p) "whitespace" (.d (.str wsS)) X1.ln i1 i2 (by kernel_rfl) rfl (by kernel_rfl), (cx prog w (k + 3) m1 nx).inS (ch a) wsS, .br (Txt.contains wsS (ch a)) false hws,
    .brF (ch a = "\\") (by rw [b_ch]; exact fun h=>h92 (ch_inj h)),(cx prog w (k+3) m1 nx).addS true tok (ch a) _ rfl (by rw [ch_len,sizeLine_eq]; omega)] (by kernel_rfl)
  rw [d1] at body
  obtain ⟨V9,ih⟩:=bare_loop hcn hcj hcq hmc d hd hd10 items (Vg n c (tok ++ ch a)) (tok ++ ch a) L rest (.refl _) (fun x hx=>hi x (List.mem_cons_of_mem _ hx)) (by rw [str_len,ch_len]; omega) X1 hok.tail
  exact ⟨V9,.step hcn (hm0 _ _) call (hm0 _ _) (by kernel_rfl) e (body.pre s2) (.inl rfl) ih⟩
structure Word where
 quoted:Bool
 items:Items
noncomputable def Word.ok (x:Word):Prop:=x.items.length<=500 /\ (if x.quoted then ∀ y ∈ x.items,y.2 ≠ 10 /\ (y.1=false->y.2 ≠ 34 /\ y.2 ≠ 92) else
 (∀ y ∈ x.items,y.2 ≠ 10 /\ (y.1=false->wsB y.2=false /\ y.2 ≠ 92)) /\ (Ex2 fun y r=>x.items=y :: r /\ (y.1=false->y.2 ≠ 34)))
noncomputable def Word.enc (x:Word):List Nat:=if x.quoted then 34 :: (encI x.items ++ [34]) else encI x.items ++ [32]
noncomputable def Word.tok (x:Word):Str:=tokI Str.empty x.items
theorem STr.forCiP {prog:Program} {w:World} {K:Frag} {btab:List (Str × Value)} {k:Nat} {φ:Fm} {s:Stmt} {st st':St} {fl:Fl} {c n:Nat} {f:Addr} {stop:Str} {N:Nat} (hs:(forChk s && noSet (forIter s) && isNm (forTgt s))=true) (hf:fnIn K f=true)
  (e:evI prog w K btab (k+1) 20 φ (forIter s) st (evsOf [])=some (.loc c,st,[],obsOf [])) (hc:c < st.nx) (hm:st.m c=.citer (.bm f n) stop \/ st.m c=.cdone) (loop:ForCi prog w K btab k φ (forTgt s) (forBody s) c n f stop N st fl st'):STr prog w K btab (k+1) φ s st fl st':=by
 rw [Bool.and_eq_true,Bool.and_eq_true] at hs
 exact STr.forCiE hs.1.1 hs.1.2 hs.2 hf 20 [] e hc hm loop
noncomputable def nls (l:List Nat):Int:=(l.map nlOf).sum
theorem nls_cons (a:Nat) (l:List Nat):nls (a :: l)=nlOf a+nls l:=by unfold nls; simp
theorem Vg_ch (n c:Nat) (tok:Str) (a:AV):VSub (Vg n c tok) (("ch",a) :: Vg n c tok):=cons_sub (by kernel_rfl)
theorem word_turn (hcn:c < nx) (hcj:c ≠ j) (hcq:c ≠ q) (hmc:m c=.citer (.bm (rcA w) n) Str.empty) (x:Word) (hx:x.ok) (V0:List (Str × AV)) (L:Int) (rest:List Nat) (hV:VSub (Vg n c Str.empty) V0)
  (X:LexAt w (lexUp m j p s q L (x.enc ++ rest)) nx n j p s t q p' L (x.enc ++ rest) push) (hok:OkCs (x.enc ++ rest)) :
  ∃ V9,ForCi prog w (KK w) bt (k+2) (gtF w) (forTgt (gtO w)) (forBody (gtO w)) c n (rcA w) Str.empty 0 ⟨V0,[],lexUp m j p s q L (x.enc ++ rest),nx⟩ (.ret (.d (.str x.tok))) ⟨V9,[],lexUp m j p s q L rest,nx⟩:=by
 obtain ⟨hl,hx⟩:=hx
 have hjq:=X.ne.2.2.1
 have hm0:∀ L cs,lexUp m j p s q L cs c=.citer (.bm (rcA w) n) Str.empty:=fun L cs=>(lexUp_ne hcj hcq).trans hmc
 obtain ⟨qd,items⟩:=x
 induction qd using Bool.casesOn with
 | true=>
  simp only [if_true] at hx
  have ec:Word.enc ⟨true,items⟩ ++ rest=34 :: (encI items ++ 34 :: rest):=by unfold Word.enc; simp
  rw [ec] at X hok ⊢
  have call:=rc_go (prog:=prog) (k:=k) 34 _ X hok (by decide)
  have X1:=X.next (encI items ++ 34 :: rest)
  obtain ⟨V2,e,s2⟩:=takes_nameN (φ:=gtF w) (t:=forTgt (gtO w)) (d:=.str (ch 34)) (V:=Vg n c Str.empty) "ch" (by kernel_rfl) (by kernel_rfl) V0 [] (lexUp m j p s q L (encI items ++ 34 :: rest)) nx hV
  obtain ⟨V9,loop⟩:=quote_loop (prog:=prog) (k:=k) hcn hcj hcq hmc items (("ch",.d (.str (ch 34))) :: Vg n c Str.empty) Str.empty L rest (Vg_ch _ _ _ _) hx (by have:Str.empty.length=0:=rfl; have hl':items.length<=500:=hl; omega) X1 hok.tail
  have st:=STr.forCiP (s:=gtQ w) (by kernel_rfl) (by kernel_rfl) (by kernel_rfl) hcn (.inl (hm0 _ _)) loop
  obtain ⟨m1,d1⟩ : ∃ x,x=lexUp m j p s q L (encI items ++ 34 :: rest):=⟨_,rfl⟩
  obtain ⟨m2,d2⟩ : ∃ x,x=lexUp m j p s q L rest:=⟨_,rfl⟩
  have i1:=X1.i1
  have i2:=X1.i2
  rw [<- d1] at i1 i2 st
  rw [<- d2] at st
  obtain ⟨tk,htk⟩ : ∃ x,x=tokI Str.empty items:=⟨_,rfl⟩
  rw [<- htk] at st
  have body:BTr prog w (KK w) bt (k+3) (gtF w) (forBody (gtO w)) ⟨("ch",.d (.str (ch 34))) :: Vg n c Str.empty,[],m1,nx⟩ (.ret (.d (.str tk))) ⟨[],[],m2,nx⟩:=
   BTr.runS 40 [(cx prog w (k+3) m1 nx).getA n j (netC w) (lexNs L (.loc s) p) "whitespace" (.d (.str wsS)) X1.ln i1 i2 (by kernel_rfl) rfl (by kernel_rfl),(cx prog w (k+3) m1 nx).inS (ch 34) wsS,.br (Txt.contains wsS (ch 34)) false wsB_34,
    .brT (ch 34 = "\"") q_ch.symm,.stm st] (by kernel_rfl)
  rw [d1,d2,htk] at body
  exact ⟨[],.stop hcn (hm0 _ _) call (hm0 _ _) (by kernel_rfl) e (body.pre s2)⟩
 | false=>
  simp only [Bool.false_eq_true,if_false] at hx
  obtain ⟨hx,y,r,rfl,h34⟩:=hx
  have hl':r.length+1<=500:=hl
  obtain ⟨ye,a⟩:=y
  induction ye using Bool.casesOn with
  | true=>
   have ec:Word.enc ⟨false,(true,a) :: r⟩ ++ rest=92 :: a :: (encI r ++ 32 :: rest):=by unfold Word.enc encI; simp
   rw [ec] at X hok ⊢
   obtain ⟨h10,-⟩:=hx _ (List.mem_cons_self ..)
   have call:=rc_go (prog:=prog) (k:=k) 92 _ X hok (by decide)
   have X1:=X.next (a :: (encI r ++ 32 :: rest))
   have call2:=rc_go (prog:=prog) (k:=k+1) a _ X1 hok.tail h10
   have X2:=X1.next (encI r ++ 32 :: rest)
   obtain ⟨V2,e,s2⟩:=takes_nameN (φ:=gtF w) (t:=forTgt (gtO w)) (d:=.str (ch 92)) (V:=Vg n c Str.empty) "ch" (by kernel_rfl) (by kernel_rfl) V0 [] (lexUp m j p s q L (a :: (encI r ++ 32 :: rest))) nx hV
   have hvs:VSub (Vg n c (Str.empty ++ ch a)) (("ch",.d (.str (ch a))) :: Vg n c (Str.empty ++ ch a)):=Vg_ch _ _ _ _
   obtain ⟨V9,loop⟩:=bare_loop (prog:=prog) (k:=k) hcn hcj hcq hmc 32 wsB_32 (by decide) r (("ch",.d (.str (ch a))) :: Vg n c (Str.empty ++ ch a)) (Str.empty ++ ch a) L rest hvs (fun z hz=>hx z (List.mem_cons_of_mem _ hz)) (by have:Str.empty.length=0:=rfl; rw [str_len,ch_len]; omega) X2 hok.tail.tail
   have st:=STr.forCiP (s:=gtU w) (by kernel_rfl) (by kernel_rfl) (by kernel_rfl) hcn (.inl (hm0 _ _)) loop
   obtain ⟨m1,d1⟩ : ∃ x,x=lexUp m j p s q L (a :: (encI r ++ 32 :: rest)):=⟨_,rfl⟩
   obtain ⟨m2,d2⟩ : ∃ x,x=lexUp m j p s q L (encI r ++ 32 :: rest):=⟨_,rfl⟩
   obtain ⟨m3,d3⟩ : ∃ x,x=lexUp m j p s q L rest:=⟨_,rfl⟩
   have i1:=X1.i1
   have i2:=X1.i2
   rw [<- d1] at i1 i2 call2
   rw [<- d2] at st call2
   rw [<- d3] at st
   obtain ⟨tk,htk⟩ : ∃ x,x=tokI (Str.empty ++ ch a) r:=⟨_,rfl⟩
   rw [<- htk] at st
   have body:BTr prog w (KK w) bt (k+3) (gtF w) (forBody (gtO w)) ⟨("ch",.d (.str (ch 92))) :: Vg n c Str.empty,[],m1,nx⟩ (.ret (.d (.str tk))) ⟨[],[],m3,nx⟩:=
    BTr.runS 40 [(cx prog w (k+3) m1 nx).getA n j (netC w) (lexNs L (.loc s) p) "whitespace" (.d (.str wsS)) X1.ln i1 i2 (by kernel_rfl) rfl (by kernel_rfl),(cx prog w (k+3) m1 nx).inS (ch 92) wsS,.br (Txt.contains wsS (ch 92)) false wsB_92,
     .brF (ch 92 = "\"") (by rw [q_ch]; exact fun h=>by have:=ch_inj h; omega),.brT (ch 92 = "\\") b_ch.symm, (cx prog w (k + 3) m1 nx).mFn n j (netC w) (rcA w) (lexNs L (.loc s) p) "_read_char" X1.ln i1 i2 (by kernel_rfl) (by kernel_rfl),
     .call (CodeTr.call call2), (cx prog w (k + 3) m2 nx).addS true Str.empty (ch a) _ rfl (by rw [ch_len, sizeLine_eq]; decide +kernel), .stm st] (by kernel_rfl)
   rw [d1, d3, htk] at body
   exact ⟨[], .stop hcn (hm0 _ _) call (hm0 _ _) (by kernel_rfl) e (body.pre s2)⟩
  | false =>
   have ec : Word.enc ⟨false, (false, a) :: r⟩ ++ rest = a :: (encI r ++ 32 :: rest) := by unfold Word.enc encI; simp
   rw [ec] at X hok ⊢
   obtain ⟨h10, hb⟩ := hx _ (List.mem_cons_self ..)
   obtain ⟨hws, h92⟩ := hb rfl
   have h34 := h34 rfl
   have call := rc_go (prog := prog) (k := k) a _ X hok h10
   have X1 := X.next (encI r ++ 32 :: rest)
   obtain ⟨V2, e, s2⟩ := takes_nameN (φ := gtF w) (t := forTgt (gtO w)) (d := .str (ch a)) (V := Vg n c Str.empty) "ch" (by kernel_rfl) (by kernel_rfl) V0 [] (lexUp m j p s q L (encI r ++ 32 :: rest)) nx hV
   have hvs : VSub (Vg n c (Str.empty ++ ch a)) (("ch", .d (.str (ch a))) :: Vg n c (Str.empty ++ ch a)) := Vg_ch _ _ _ _
   obtain ⟨V9, loop⟩ := bare_loop (prog := prog) (k := k) hcn hcj hcq hmc 32 wsB_32 (by decide) r (("ch", .d (.str (ch a))) :: Vg n c (Str.empty ++ ch a)) (Str.empty ++ ch a) L rest hvs (fun z hz => hx z (List.mem_cons_of_mem _ hz)) (by have : Str.empty.length = 0 := rfl; rw [str_len, ch_len]; omega) X1 hok.tail
   have st := STr.forCiP (s := gtU w) (by kernel_rfl) (by kernel_rfl) (by kernel_rfl) hcn (.inl (hm0 _ _)) loop
   obtain ⟨m1, d1⟩ : ∃ x, x = lexUp m j p s q L (encI r ++ 32 :: rest) := ⟨_, rfl⟩
   obtain ⟨m3, d3⟩ : ∃ x, x = lexUp m j p s q L rest := ⟨_, rfl⟩
   have i1 := X1.i1
   have i2 := X1.i2
   rw [<- d1] at i1 i2 st
   rw [<- d3] at st
   obtain ⟨tk, htk⟩ : ∃ x, x = tokI (Str.empty ++ ch a) r := ⟨_, rfl⟩
   rw [<- htk] at st
   have body : BTr prog w (KK w) bt (k + 3) (gtF w) (forBody (gtO w)) ⟨("ch", .d (.str (ch a))) :: Vg n c Str.empty, [], m1, nx⟩ (.ret (.d (.str tk))) ⟨[], [], m3, nx⟩ :=
    BTr.runS 40 [(cx prog w (k + 3) m1 nx).getA n j (netC w) (lexNs L (.loc s) p) "whitespace" (.d (.str wsS)) X1.ln i1 i2 (by kernel_rfl) rfl (by kernel_rfl), (cx prog w (k + 3) m1 nx).inS (ch a) wsS, .br (Txt.contains wsS (ch a)) false hws,
     .brF (ch a = "\"") (by rw [q_ch]; exact fun h=>h34 (ch_inj h)),.brF (ch a = "\\") (by rw [b_ch]; exact fun h=>h92 (ch_inj h)),(cx prog w (k+3) m1 nx).addS true Str.empty (ch a) _ rfl (by rw [ch_len,sizeLine_eq]; decide +kernel),.stm st] (by kernel_rfl)
   rw [d1,d3,htk] at body
   exact ⟨[],.stop hcn (hm0 _ _) call (hm0 _ _) (by kernel_rfl) e (body.pre s2)⟩
theorem lead_turns (hcn:c < nx) (hcj:c ≠ j) (hcq:c ≠ q) (hmc:m c=.citer (.bm (rcA w) n) Str.empty) {fl:Fl} {rest:List Nat} {L1:Int} {st9:St} {Qv:List (Str × AV)->Prop} (hend:∀ V0,VSub (Vg n c Str.empty) V0->LexAt w (lexUp m j p s q L1 rest) nx n j p s t q p' L1 rest push->OkCs rest->(Ex2 fun V9 N=>Qv V9 /\ ForCi prog w (KK w) bt (k+2) (gtF w) (forTgt (gtO w)) (forBody (gtO w)) c n (rcA w) Str.empty N ⟨V0,[],lexUp m j p s q L1 rest,nx⟩ fl ⟨V9,[],st9.m,st9.nx⟩)) :
  ∀ (lead:List Nat) (V0:List (Str × AV)) (L:Int),(∀ a ∈ lead,wsB a=true)->L1=L+nls lead->VSub (Vg n c Str.empty) V0->LexAt w (lexUp m j p s q L (lead ++ rest)) nx n j p s t q p' L (lead ++ rest) push->OkCs (lead ++ rest) ->
  (Ex2 fun V9 N=>Qv V9 /\ ForCi prog w (KK w) bt (k+2) (gtF w) (forTgt (gtO w)) (forBody (gtO w)) c n (rcA w) Str.empty N ⟨V0,[],lexUp m j p s q L (lead ++ rest),nx⟩ fl ⟨V9,[],st9.m,st9.nx⟩)
 | [],V0,L,_,hL,hV,X,hok=>by
  have:L1=L:=by rw [hL]; unfold nls; simp
  subst this
  exact hend V0 hV X hok
 | a :: lead,V0,L,hw,hL,hV,X,hok=>by
  have hjq:=X.ne.2.2.1
  have hm0:∀ L cs,lexUp m j p s q L cs c=.citer (.bm (rcA w) n) Str.empty:=fun L cs=>(lexUp_ne hcj hcq).trans hmc
  rw [List.cons_append] at X hok ⊢
  have call:=rc_cons (prog:=prog) (k:=k) a _ X hok
  rw [lexUp_up _ _ _ _ _ hjq] at call
  have X1:=X.up (L+nlOf a) (lead ++ rest)
  rw [lexUp_up _ _ _ _ _ hjq] at X1
  rcases takes_nameN (φ:=gtF w) (t:=forTgt (gtO w)) (d:=.str (ch a)) (V:=Vg n c Str.empty) "ch" (by kernel_rfl) (by kernel_rfl) V0 [] (lexUp m j p s q (L+nlOf a) (lead ++ rest)) nx hV with ⟨V2,e,s2⟩
  obtain ⟨V9,N,hq9,ih⟩:=lead_turns hcn hcj hcq hmc hend lead (Vg n c Str.empty) (L+nlOf a) (fun b hb=>hw b (List.mem_cons_of_mem _ hb)) (by rw [hL,nls_cons]; omega) (.refl _) X1 hok.tail
  obtain ⟨m1,d1⟩ : ∃ x,x=lexUp m j p s q (L+nlOf a) (lead ++ rest):=⟨_,rfl⟩
  have i1:=X1.i1
  have i2:=X1.i2
  rw [<- d1] at i1 i2
  have body:BTr prog w (KK w) bt (k+3) (gtF w) (forBody (gtO w)) ⟨("ch",.d (.str (ch a))) :: Vg n c Str.empty,[],m1,nx⟩ .cont ⟨Vg n c Str.empty,[],m1,nx⟩:=
   BTr.runS 40 [(cx prog w (k+3) m1 nx).getA n j (netC w) (lexNs (L+nlOf a) (.loc s) p) "whitespace" (.d (.str wsS)) X1.ln i1 i2 (by kernel_rfl) rfl (by kernel_rfl),(cx prog w (k+3) m1 nx).inS (ch a) wsS,.br (Txt.contains wsS (ch a)) true (hw a (List.mem_cons_self ..))] (by kernel_rfl)
  rw [d1] at body
  exact ⟨V9,N+1,hq9,.step hcn (hm0 _ _) call (hm0 _ _) (by kernel_rfl) e (body.pre s2) (.inr rfl) ih⟩
theorem LexAt.lay (X:LexAt w m nx n j p s t q p' L cs push) (mo:MO):LexAt w (upd m nx mo) (nx+1) n j p s t q p' L cs push:=
 ⟨Nat.lt_succ_of_lt X.ln,Nat.lt_succ_of_lt X.lj,Nat.lt_succ_of_lt X.lp,Nat.lt_succ_of_lt X.ls,Nat.lt_succ_of_lt X.lt,Nat.lt_succ_of_lt X.lq,
  (upd_ne _ _ _ (Nat.ne_of_lt X.ln)).trans X.i1,(upd_ne _ _ _ (Nat.ne_of_lt X.lj)).trans X.i2,(upd_ne _ _ _ (Nat.ne_of_lt X.lp)).trans X.i3,(upd_ne _ _ _ (Nat.ne_of_lt X.ls)).trans X.i4,(upd_ne _ _ _ (Nat.ne_of_lt X.lt)).trans X.i5,(upd_ne _ _ _ (Nat.ne_of_lt X.lq)).trans X.i6,X.jt,X.pq⟩
theorem lexNs_bd {N:Nat} (hs:s < N) (hp:p < N):MBd N (.ns (lexNs L (.loc s) p)):=by
 intro x av e
 have hm:=mem_of_lookup e
 unfold lexNs at hm
 simp only [List.mem_cons,Prod.mk.injEq,List.not_mem_nil,or_false] at hm
 rcases hm with ⟨_,rfl⟩ | ⟨_,rfl⟩ | ⟨_,rfl⟩ | ⟨_,rfl⟩
 ·exact .d _
 ·exact .loc hs
 ·exact .d _
 ·exact .loc hp
theorem low_lex {m':Nat->MO} {nx':Nat} {L0:Int} {cs0:List Nat} (X:LexAt w m nx n j p s t q p' L0 cs0 push) (hn:nx<=nx') (h:∀ i,i < nx->m' i=lexUp m j p s q L cs i):Low m nx m' nx' (lexUp m j p s q L cs) nx:=by
 refine ⟨Nat.le_refl _,hn,h,fun i hi=>?_⟩
 by_cases h1:i=j
 ·subst h1
  right
  unfold lexUp
  rw [upd_at]
  exact lexNs_bd X.ls X.lp
 ·by_cases h2:i=q
  ·subst h2
   right
   unfold lexUp
   rw [upd_ne _ _ _ h1,upd_at]
   trivial
  ·left
   exact ⟨hi,lexUp_ne h1 h2⟩
theorem lexUp_lay (i:Nat) (mo:MO) (hi:i < nx):lexUp (upd m nx mo) j p s q L cs i=lexUp m j p s q L cs i:=by
 unfold lexUp
 by_cases h1:i=j
 ·subst h1; rw [upd_at,upd_at]
 ·rw [upd_ne _ _ _ h1,upd_ne _ _ _ h1]
  by_cases h2:i=q
  ·subst h2; rw [upd_at,upd_at]
  ·rw [upd_ne _ _ _ h2,upd_ne _ _ _ h2,upd_ne _ _ _ (Nat.ne_of_lt hi)]
noncomputable abbrev itM (w:World) (m:Nat->MO) (nx n:Nat):Nat->MO:=upd m nx (.citer (.bm (rcA w) n) Str.empty)
theorem gt_ret {a:D} {m':Nat->MO} {nx':Nat} {V':List (Str × AV)} (X:LexAt w m nx n j p s t q p' L cs []) (st:STr prog w (KK w) bt (k+3) (gtF w) (gtO w) ⟨Vg n nx Str.empty,[],itM w m nx n,nx+1⟩ (.ret (.d a)) ⟨V',[],m',nx'⟩) :
  CodeTr prog w (KK w) bt (k+4) (.k (.ref (gtA w))) [.loc n] [] m nx (.d a) m' nx':=
 codeR ["self"] (.ret (.d a)) m' nx' [] [(cx prog w (k+3) m nx).getA n j (netC w) (lexNs L (.loc s) p) "pushback" (.loc p) X.ln X.i1 X.i2 (by kernel_rfl) rfl (by kernel_rfl),(cx prog w (k+3) m nx).truthL (.loc p) [] false rfl ⟨X.lp,X.i3⟩ trivial (by decide),
  (cx prog w (k+3) m nx).boundA n j (netC w) (rcA w) (lexNs L (.loc s) p) "_read_char" X.ln X.i1 X.i2 (by kernel_rfl) (by kernel_rfl),(cx prog w (k+3) m nx).callM (.k (.builtin "iter")) [.bm (rcA w) n,.d (.str Str.empty)] (.loc nx) (itM w m nx n) (nx+1) c_iter,
  .stm st] (by kernel_rfl) (bindq1 fun S a=>by kernel_rfl) rfl (by kernel_rfl)
theorem gt_next {m':Nat->MO} {nx':Nat} (X:LexAt w m nx n j p s t q p' L cs []) (st:STr prog w (KK w) bt (k+3) (gtF w) (gtO w) ⟨Vg n nx Str.empty,[],itM w m nx n,nx+1⟩ .next ⟨Vg n nx Str.empty,[],m',nx'⟩) :
  CodeTr prog w (KK w) bt (k+4) (.k (.ref (gtA w))) [.loc n] [] m nx (.d (.str Str.empty)) m' nx':=
 codeR ["self"] (.ret (.d (.str Str.empty))) m' nx' [] [(cx prog w (k+3) m nx).getA n j (netC w) (lexNs L (.loc s) p) "pushback" (.loc p) X.ln X.i1 X.i2 (by kernel_rfl) rfl (by kernel_rfl),(cx prog w (k+3) m nx).truthL (.loc p) [] false rfl ⟨X.lp,X.i3⟩ trivial (by decide),
  (cx prog w (k+3) m nx).boundA n j (netC w) (rcA w) (lexNs L (.loc s) p) "_read_char" X.ln X.i1 X.i2 (by kernel_rfl) (by kernel_rfl),(cx prog w (k+3) m nx).callM (.k (.builtin "iter")) [.bm (rcA w) n,.d (.str Str.empty)] (.loc nx) (itM w m nx n) (nx+1) c_iter,
  .stm st] (by kernel_rfl) (bindq1 fun S a=>by kernel_rfl) rfl (by kernel_rfl)
theorem gt_word (lead:List Nat) (x:Word) (rest:List Nat) (hlead:∀ a ∈ lead,wsB a=true) (hx:x.ok) (X:LexAt w m nx n j p s t q p' L (lead ++ (x.enc ++ rest)) []) (hok:OkCs (lead ++ (x.enc ++ rest))) :
  CodeTr prog w (KK w) bt (k+4) (.k (.ref (gtA w))) [.loc n] [] m nx (.d (.str x.tok)) (lexUp m j p s q (L+nls lead) rest) nx:=by
 have Xi:=X.lay (.citer (.bm (rcA w) n) Str.empty)
 have hjq:=X.ne.2.2.1
 have hid:=Xi.id
 obtain ⟨mi,di⟩ : ∃ y,y=itM w m nx n:=⟨_,rfl⟩
 have Xi':LexAt w (lexUp mi j p s q L (lead ++ (x.enc ++ rest))) (nx+1) n j p s t q p' L (lead ++ (x.enc ++ rest)) []:=by rw [di,hid]; exact Xi
 obtain ⟨V9,N,-,loop⟩:=lead_turns (prog:=prog) (k:=k) (c:=nx) (m:=mi) (nx:=nx+1) (Qv:=fun _=>True) (rest:=x.enc ++ rest) (L1:=L+nls lead) (fl:=.ret (.d (.str x.tok))) (st9:=⟨[],[],lexUp mi j p s q (L+nls lead) rest,nx+1⟩) (Nat.lt_succ_self _) (Nat.ne_of_gt X.lj) (Nat.ne_of_gt X.lq) (by rw [di]; exact upd_at _ _ _)
  (fun V0 hV X1 hok1=>by
   obtain ⟨V9,h9⟩:=word_turn (prog:=prog) (k:=k) (c:=nx) (Nat.lt_succ_self _) (Nat.ne_of_gt X.lj) (Nat.ne_of_gt X.lq) (by rw [di]; exact upd_at _ _ _) x hx V0 (L+nls lead) rest hV X1 hok1
   exact ⟨V9,0,trivial,h9⟩) lead (Vg n nx Str.empty) L hlead rfl (.refl _) Xi' hok
 have st:=STr.forCiP (s:=gtO w) (by kernel_rfl) (by kernel_rfl) (by kernel_rfl) (Nat.lt_succ_self nx) (.inl (by rw [di,hid]; exact upd_at _ _ _)) loop
 have e2:lexUp mi j p s q L (lead ++ (x.enc ++ rest))=itM w m nx n:=by rw [di,hid]
 rw [e2] at st
 have h:=gt_ret X st
 rw [di] at h
 exact h.low (low_lex X (Nat.le_succ _) fun i hi=>lexUp_lay i _ hi) (.d _)
theorem gt_end (lead:List Nat) (hlead:∀ a ∈ lead,wsB a=true) (X:LexAt w m nx n j p s t q p' L lead []) (hok:OkCs lead) :
  CodeTr prog w (KK w) bt (k+4) (.k (.ref (gtA w))) [.loc n] [] m nx (.d (.str Str.empty)) (lexUp m j p s q (L+nls lead) []) nx:=by
 have Xi:=X.lay (.citer (.bm (rcA w) n) Str.empty)
 have hjq:=X.ne.2.2.1
 have hid:=Xi.id
 obtain ⟨mi,di⟩ : ∃ y,y=itM w m nx n:=⟨_,rfl⟩
 have Xi':LexAt w (lexUp mi j p s q L (lead ++ [])) (nx+1) n j p s t q p' L (lead ++ []) []:=by rw [List.append_nil,di,hid]; exact Xi
 have hok':OkCs (lead ++ []):=by rw [List.append_nil]; exact hok
 obtain ⟨V9,N,hV9,loop⟩:=lead_turns (prog:=prog) (k:=k) (c:=nx) (m:=mi) (nx:=nx+1) (Qv:=fun V=>VSub (Vg n nx Str.empty) V) (rest:=[]) (L1:=L+nls lead) (fl:=.next) (st9:=⟨[],[],upd (lexUp mi j p s q (L+nls lead) []) nx .cdone,nx+1⟩) (Nat.lt_succ_self _) (Nat.ne_of_gt X.lj) (Nat.ne_of_gt X.lq) (by rw [di]; exact upd_at _ _ _)
  (fun V0 hV X1 hok1=>by
   have hm0:lexUp mi j p s q (L+nls lead) [] nx=.citer (.bm (rcA w) n) Str.empty:=(lexUp_ne (Nat.ne_of_gt X.lj) (Nat.ne_of_gt X.lq)).trans (by rw [di]; exact upd_at _ _ _)
   exact ⟨V0,0,hV,.done (Nat.lt_succ_self _) hm0 (rc_nil (prog:=prog) (k:=k) X1) hm0⟩) lead (Vg n nx Str.empty) L hlead rfl (.refl _) Xi' hok'
 have st:=STr.forCiP (s:=gtO w) (by kernel_rfl) (by kernel_rfl) (by kernel_rfl) (Nat.lt_succ_self nx) (.inl (by rw [List.append_nil,di,hid]; exact upd_at _ _ _)) loop
 have st:=STr.post st hV9
 have e2:lexUp mi j p s q L (lead ++ [])=itM w m nx n:=by rw [List.append_nil,di,hid]
 rw [e2] at st
 have h:=gt_next X st
 rw [di] at h
 exact h.low (low_lex X (Nat.le_succ _) fun i hi=>(upd_ne _ _ _ (Nat.ne_of_lt hi)).trans (lexUp_lay i _ hi)) (.d _)
theorem gt_push (d:D) (ds:List D) (X:LexAt w m nx n j p s t q p' L cs (d :: ds)) (hz:ds.length < 100000) :
  CodeTr prog w (KK w) bt (k+1) (.k (.ref (gtA w))) [.loc n] [] m nx (.d d) (upd m p (.list ds)) nx:=by
 exact codeR ["self"] (.ret (.d d)) (upd m p (.list ds)) nx [] [(cx prog w k m nx).getA n j (netC w) (lexNs L (.loc s) p) "pushback" (.loc p) X.ln X.i1 X.i2 (by kernel_rfl) rfl (by kernel_rfl),(cx prog w k m nx).truthL (.loc p) (d :: ds) true rfl ⟨X.lp,X.i3⟩ trivial (by rw [List.length_cons]; omega),
  (cx prog w k m nx).getA n j (netC w) (lexNs L (.loc s) p) "pushback" (.loc p) X.ln X.i1 X.i2 (by kernel_rfl) rfl (by kernel_rfl),
  (cx prog w k m nx).mPop (.loc p) (d :: ds) ⟨X.lp,X.i3⟩ trivial,(cx prog w k m nx).cPopAt p 0 [] ds d rfl X.lp X.i3 (by rw [List.length_nil]; omega) (upd m p (.list ds)) rfl] (by kernel_rfl) (bindq1 fun S a=>by kernel_rfl) rfl (by kernel_rfl)
theorem pt_tr (d:D) (X:LexAt w m nx n j p s t q p' L cs push) (hz:push.length<=100000) :
  CodeTr prog w (KK w) bt (k+1) (.k (.ref (ca w "_netrclex" "push_token"))) [.loc n,.d d] [] m nx (.d .none) (upd m p (.list (push ++ [d]))) nx:=by
 exact codeR ["self", "token"] .next (upd m p (.list (push ++ [d]))) nx [] [(cx prog w k m nx).getA n j (netC w) (lexNs L (.loc s) p) "pushback" (.loc p) X.ln X.i1 X.i2 (by kernel_rfl) rfl (by kernel_rfl),
  (cx prog w k m nx).mAppend (.loc p) push ⟨X.lp,X.i3⟩ trivial,(cx prog w k m nx).cAppend p push d X.lp X.i3 hz (upd m p (.list (push ++ [d]))) rfl] (by kernel_rfl) (bindq2 fun S a b=>by kernel_rfl) rfl (by kernel_rfl)
end
section
variable {prog:Program} {w:World} {k:Nat} {m:Nat->MO} {nx:Nat} {n j l:Nat}
noncomputable abbrev hdC (w:World):Addr:=fa w "Headers"
noncomputable def kvD (kv:Str × Str):D:=.tup [.str kv.1,.str kv.2]
noncomputable def kvsD (l:List (Str × Str)):List D:=l.map kvD
structure HdAt (w:World) (m:Nat->MO) (nx n j l:Nat) (kvs:List (Str × Str)):Prop where
 ln:n < nx
 lj:j < nx
 ll:l < nx
 i1:m n=.inst (hdC w) j
 i2:m j=.ns [("_headers",.loc l)]
 i3:m l=.list (kvsD kvs)
theorem pat_name:Pat (KK w) (fa w "_name_disallowed_re") (patCa (KK w) (fa w "_name_disallowed_re")) (patCs (KK w) (fa w "_name_disallowed_re")):=
 pat_of (by kernel_rfl) fun m h=>by unfold Sre.M.hasFirstSet; rw [h]; kernel_rfl
theorem pat_value:Pat (KK w) (fa w "_value_disallowed_re") (patCa (KK w) (fa w "_value_disallowed_re")) (patCs (KK w) (fa w "_value_disallowed_re")):=
 pat_of (by kernel_rfl) fun m h=>by unfold Sre.M.hasFirstSet; rw [h]; kernel_rfl
theorem none_name {x:Str} (hx:Prn x):NoneIn (((patCs (KK w) (fa w "_name_disallowed_re")).map Builtin.Re.reRawOf).map (·.toNat)) x.cps x.cps.size:=noneIn_of (fun seen=>by kernel_rfl) hx
theorem none_value {x:Str} (hx:Prn x):NoneIn (((patCs (KK w) (fa w "_value_disallowed_re")).map Builtin.Re.reRawOf).map (·.toNat)) x.cps x.cps.size:=noneIn_of (fun seen=>by kernel_rfl) hx
noncomputable abbrev cvA (w:World):Addr:=ca w "Headers" "_convert_string_type"
theorem conv_tr (n:Nat) (x:Str) (b:Bool) (hx:Prn x):CodeTr prog w (KK w) bt (k+1) (.k (.ref (cvA w))) [.loc n,.d (.str x)] [("name",.d (.bool b))] m nx (.d (.str x)) m nx:=by
 induction b using Bool.casesOn with
 | true=>
  exact codeD [("self",.loc n),("value",.d (.str x)),("name",.d (.bool true))] (.ret (.d (.str x))) m nx [] [(cx prog w k m nx).type_ (.str x) rfl,(cx prog w k m nx).isType "str" "str",.br (Value.type "str" == Value.type "str") true (by decide),.br true true rfl,
   (cx prog w k m nx).mSearch (fa w "_name_disallowed_re") pat_name,(cx prog w k m nx).cSearch (fa w "_name_disallowed_re") pat_name x (none_name hx)] (by kernel_rfl) (bindqk fun S a b c=>by kernel_rfl) (by kernel_rfl) (by kernel_rfl) (by kernel_rfl) (by kernel_rfl)
 | false=>
  exact codeD [("self",.loc n),("value",.d (.str x)),("name",.d (.bool false))] (.ret (.d (.str x))) m nx [] [(cx prog w k m nx).type_ (.str x) rfl,(cx prog w k m nx).isType "str" "str",.br (Value.type "str" == Value.type "str") true (by decide),.br false false rfl,
   (cx prog w k m nx).mSearch (fa w "_value_disallowed_re") pat_value,(cx prog w k m nx).cSearch (fa w "_value_disallowed_re") pat_value x (none_value hx)] (by kernel_rfl) (bindqk fun S a b c=>by kernel_rfl) (by kernel_rfl) (by kernel_rfl) (by kernel_rfl) (by kernel_rfl)
noncomputable abbrev hiA (w:World):Addr:=ca w "Headers" "__init__"
theorem hd_init (n j:Nat) (hn:n < nx) (h1:m n=.inst (hdC w) j) (h2:m j=.ns []) (hj:j < nx) (hnj:n ≠ j) :
  CodeTr prog w (KK w) bt (k+1) (.k (.ref (hiA w))) [.loc n] [] m nx (.d .none) (upd (upd m nx (.list [])) j (.ns [("_headers",.loc nx)])) (nx+1):=by
 obtain ⟨m1,d1⟩ : ∃ x',x'=upd m nx (.list []):=⟨_,rfl⟩
 obtain ⟨m2,d2⟩ : ∃ x',x'=upd m1 j (.ns [("_headers",.loc nx)]):=⟨_,rfl⟩
 have a1:m1 nx=.list []:=by rw [d1,upd_at]
 have a2:m2 nx=.list []:=by rw [d2,upd_ne _ _ _ (Nat.ne_of_gt hj),a1]
 have loop:STr prog w (KK w) bt k (phA w (hiA w)) (nthS (ifB (nthS (bdA w (hiA w)) 3)) 0) ⟨[("self",.loc n),("headers",.loc nx)],[],m2,nx+1⟩ .next ⟨[("self",.loc n),("headers",.loc nx)],[],m2,nx+1⟩:=
  STr.forP (.loc nx) [] 20 [] (by kernel_rfl) (by kernel_rfl) ⟨Nat.lt_succ_self _,a2⟩ ⟨_,.refl _,.done ⟨Nat.lt_succ_self _,a2⟩⟩
 rw [<- d1,<- d2]
 exact codeD [("self",.loc n),("headers",.d .none)] .next m2 (nx+1) [] [(cx prog w k m nx).isNotNone (.d .none) true rfl,.br (!true) false rfl,.lst [] true (by decide),(cx prog w k (upd m nx (.list [])) (nx+1)).typeL nx [] (Nat.lt_succ_self _) (upd_at _ _ _),
  (cx prog w k (upd m nx (.list [])) (nx+1)).isNotType "list" "list",.br (!(Value.type "list" == Value.type "list")) false (by decide),
  (cx prog w k (upd m nx (.list [])) (nx+1)).setA n j (hdC w) [] [("_headers",.loc nx)] "_headers" (.loc nx) m2 (Nat.lt_succ_of_lt hn) ((upd_ne _ _ _ (Nat.ne_of_lt hn)).trans h1) ((upd_ne _ _ _ (Nat.ne_of_lt hj)).trans h2) rfl (by kernel_rfl) (by kernel_rfl) (by rw [d2,d1]),
  .br true true rfl,.stm loop] (by kernel_rfl) (bindq1 fun S a=>by kernel_rfl) (by kernel_rfl) (by kernel_rfl) (by kernel_rfl) (by kernel_rfl)
noncomputable def mkHd (w:World) (m:Nat->MO) (nx:Nat):Nat->MO:=upd (upd (upd m nx (.ns [("_headers",.loc (nx+2))])) (nx+1) (.inst (hdC w) nx)) (nx+2) (.list [])
theorem hd_make:CallTr prog w (KK w) bt (k+2) (fn w "Headers") [] [] m nx (.loc (nx+1)) (mkHd w m nx) (nx+3):=by
 have hi:=hd_init (prog:=prog) (w:=w) (k:=k) (m:=upd (upd m nx (.ns [])) (nx+1) (.inst (hdC w) nx)) (nx:=nx+1+1) (nx+1) nx (Nat.lt_succ_self _) (upd_at _ _ _) (by rw [upd_ne _ _ _ (Nat.ne_of_lt (Nat.lt_succ_self _)),upd_at]) (by omega) (by omega)
 have e:upd (upd (upd (upd m nx (.ns [])) (nx+1) (.inst (hdC w) nx)) (nx+1+1) (.list [])) nx (.ns [("_headers",.loc (nx+1+1))])=mkHd w m nx:=by
  unfold mkHd
  funext i
  simp only [upd]
  by_cases h0:i=nx
  ·subst h0
   have a:¬ i=i+2:=by omega
   have b:¬ i=i+1:=by omega
   simp
  ·simp only [h0,if_false]
 rw [e] at hi
 exact (code_make (st':=⟨[],[],m,nx⟩) (by kernel_rfl) (by kernel_rfl) (by kernel_rfl) hi).call
theorem mkHd_at:HdAt w (mkHd w m nx) (nx+3) (nx+1) nx (nx+2) []:=
 ⟨by omega,by omega,by omega,by unfold mkHd; rw [upd_ne _ _ _ (by omega),upd_at],by unfold mkHd; rw [upd_ne _ _ _ (by omega),upd_ne _ _ _ (by omega),upd_at],by unfold mkHd; rw [upd_at]; rfl⟩
theorem mkHd_ne {i:Nat} (h:i < nx):mkHd w m nx i=m i:=by
 unfold mkHd
 rw [upd_ne _ _ _ (by omega),upd_ne _ _ _ (by omega),upd_ne _ _ _ (by omega)]
noncomputable abbrev hgA (w:World):Addr:=ca w "Headers" "get"
noncomputable def getF (kvs:List (Str × Str)) (x:Str):Option Str:=(kvs.find? fun kv=>decide (Txt.lower kv.1=Txt.lower x)).map (·.2)
noncomputable def optD:Option Str->D
 | some v=>.str v
 | none=>.none
theorem hd_get {kvs:List (Str × Str)} (X:HdAt w m nx n j l kvs) (x:Str) (hx:x.length<=1000) (hp:Prn (Txt.lower x)) (hk:∀ kv ∈ kvs,kv.1.length<=1000) :
  CodeTr prog w (KK w) bt (k+2) (.k (.ref (hgA w))) [.loc n,.d (.str x)] [] m nx (.d (optD (getF kvs x))) m nx:=by
 obtain ⟨y,hy⟩ : ∃ y,y=Txt.lower x:=⟨_,rfl⟩
 obtain ⟨V,hV⟩ : ∃ V:List (Str × AV),V=([("self",.loc n),("name",.d (.str y)),("default",.d .none)]:List (Str × AV)):=⟨_,rfl⟩
 have loop:∃ V9,VSub V V9 /\ ForTr prog w (KK w) bt (k+1) (phA w (hgA w)) (forTgt (nthS (bdA w (hgA w)) 1)) (forBody (nthS (bdA w (hgA w)) 1)) (.loc l) (kvsD kvs) (kvsD kvs) ⟨V,[],m,nx⟩ (findFl (fun kv:Str × Str=>.d (.str kv.2)) (kvs.find? fun kv=>decide (Txt.lower kv.1=y))) ⟨V9,[],m,nx⟩:=by
  refine for_find (V:=V) (gD:=kvD) (VX:=fun kv=>([("v",.d (.str kv.2)),("k",.d (.str kv.1))]:List (Str × AV)) ++ V) (p:=fun kv=>decide (Txt.lower kv.1=y)) (g:=fun kv=>.d (.str kv.2)) (show DSrc m nx (.loc l) (kvsD kvs) from ⟨X.ll,X.i3⟩) kvs V (.refl _) fun kv hkv=>⟨takes_tupN ["k", "v"] (by kernel_rfl) (by kernel_rfl) rfl,fun hf=>?_,fun ht=>?_⟩
  ·refine ⟨.next,V,.inl rfl,?_,.refl _⟩
   have hf':¬ Txt.lower kv.1=y:=by simpa using hf
   obtain ⟨z,hz⟩ : ∃ z,z=Txt.lower kv.1:=⟨_,rfl⟩
   rw [<- hz] at hf'
   subst hV
   exact BTr.runS 20 [(cx prog w (k+1) m nx).mLower kv.1,(cx prog w (k+1) m nx).cLower kv.1 z hz.symm (by have:=hk kv hkv; omega),.brF (z=y) hf'] (by kernel_rfl)
  ·refine ⟨V,?_,.refl _⟩
   have hf':Txt.lower kv.1=y:=by simpa using ht
   obtain ⟨z,hz⟩ : ∃ z,z=Txt.lower kv.1:=⟨_,rfl⟩
   rw [<- hz] at hf'
   subst hV
   exact BTr.runS 20 [(cx prog w (k+1) m nx).mLower kv.1,(cx prog w (k+1) m nx).cLower kv.1 z hz.symm (by have:=hk kv hkv; omega),.brT (z=y) hf'] (by kernel_rfl)
 have st:=STr.forP (.loc l) (kvsD kvs) 20 [(cx prog w (k+1) m nx).getA n j (hdC w) [("_headers",.loc l)] "_headers" (.loc l) X.ln X.i1 X.i2 (by kernel_rfl) rfl (by kernel_rfl)] (by kernel_rfl) (by subst hV; kernel_rfl) ⟨X.ll,X.i3⟩ loop
 have conv:=conv_tr (prog:=prog) (w:=w) (k:=k) (m:=m) (nx:=nx) n y true (by rw [hy]; exact hp)
 unfold getF
 rw [<- hy]
 cases q:kvs.find? fun kv=>decide (Txt.lower kv.1=y) with
 | none=>
  rw [q] at st
  dsimp only [findFl] at st
  subst hV
  exact codeD [("self",.loc n),("name",.d (.str x)),("default",.d .none)] (.ret (.d .none)) m nx [] [(cx prog w (k+1) m nx).mFn n j (hdC w) (cvA w) [("_headers",.loc l)] "_convert_string_type" X.ln X.i1 X.i2 (by kernel_rfl) (by kernel_rfl),(cx prog w (k+1) m nx).mLower x,(cx prog w (k+1) m nx).cLower x y hy.symm (by omega),.call conv.call,.stm st] (by kernel_rfl) (bindq2 fun S a b=>by kernel_rfl) (by kernel_rfl) (by kernel_rfl) (by kernel_rfl) (by kernel_rfl)
 | some kv=>
  rw [q] at st
  dsimp only [findFl] at st
  subst hV
  exact codeD [("self",.loc n),("name",.d (.str x)),("default",.d .none)] (.ret (.d (.str kv.2))) m nx [] [(cx prog w (k+1) m nx).mFn n j (hdC w) (cvA w) [("_headers",.loc l)] "_convert_string_type" X.ln X.i1 X.i2 (by kernel_rfl) (by kernel_rfl),(cx prog w (k+1) m nx).mLower x,(cx prog w (k+1) m nx).cLower x y hy.symm (by omega),.call conv.call,.stm st] (by kernel_rfl) (bindq2 fun S a b=>by kernel_rfl) (by kernel_rfl) (by kernel_rfl) (by kernel_rfl) (by kernel_rfl)
noncomputable abbrev hsA (w:World):Addr:=ca w "Headers" "setdefault"
theorem hd_new {kvs:List (Str × Str)} (X:HdAt w m nx n j l kvs) (x y:Str) (hx:x.length<=1000) (hp:Prn (Txt.lower x)) (hpx:Prn x) (hpy:Prn y) (hk:∀ kv ∈ kvs,kv.1.length<=1000) (hv:getF kvs x=none) (hz:kvs.length<=10000) :
  CodeTr prog w (KK w) bt (k+3) (.k (.ref (hsA w))) [.loc n,.d (.str x),.d (.str y)] [] m nx (.d (.str y)) (upd m l (.list (kvsD (kvs ++ [(x,y)])))) nx:=by
 have g:=hd_get (prog:=prog) (k:=k) X x hx hp hk
 rw [hv] at g
 have c1:=conv_tr (prog:=prog) (w:=w) (k:=k+1) (m:=m) (nx:=nx) n x true hpx
 have c2:=conv_tr (prog:=prog) (w:=w) (k:=k+1) (m:=m) (nx:=nx) n y false hpy
 have e:kvsD (kvs ++ [(x,y)])=kvsD kvs ++ [.tup [.str x,.str y]]:=by unfold kvsD; rw [List.map_append]; rfl
 have hlen:(kvsD kvs).length<=100000:=by unfold kvsD; rw [List.length_map]; omega
 rw [e]
 have i3:=X.i3
 generalize hds9:kvsD kvs=ds at i3 hlen ⊢
 have hds:=hds9.symm
 clear hds9
 exact codeA (hsA w) ["self", "name", "value"] [.loc n,.d (.str x),.d (.str y)] (.ret (.d (.str y))) (upd m l (.list (ds ++ [.tup [.str x,.str y]]))) nx [] [(cx prog w (k+2) m nx).mFn n j (hdC w) (hgA w) [("_headers",.loc l)] "get" X.ln X.i1 X.i2 (by kernel_rfl) (by kernel_rfl),.call g.call,(cx prog w (k+2) m nx).isNone (.d .none) true rfl,.br true true rfl,
  (cx prog w (k+2) m nx).getA n j (hdC w) [("_headers",.loc l)] "_headers" (.loc l) X.ln X.i1 X.i2 (by kernel_rfl) rfl (by kernel_rfl),(cx prog w (k+2) m nx).mAppend (.loc l) ds ⟨X.ll,i3⟩ trivial,
  (cx prog w (k+2) m nx).mFn n j (hdC w) (cvA w) [("_headers",.loc l)] "_convert_string_type" X.ln X.i1 X.i2 (by kernel_rfl) (by kernel_rfl),.call c1.call,(cx prog w (k+2) m nx).mFn n j (hdC w) (cvA w) [("_headers",.loc l)] "_convert_string_type" X.ln X.i1 X.i2 (by kernel_rfl) (by kernel_rfl),.call c2.call,
  .tup [.str x,.str y] (show 2<=1000 by decide),(cx prog w (k+2) m nx).cAppend l ds (.tup [.str x,.str y]) X.ll i3 hlen (upd m l (.list (ds ++ [.tup [.str x,.str y]]))) rfl] (by kernel_rfl) (bindq3 fun S a b c=>by kernel_rfl) (by rfl) (by kernel_rfl)
noncomputable abbrev hkA (w:World):Addr:=ca w "Headers" "keys"
theorem hd_keys {kvs:List (Str × Str)} (X:HdAt w m nx n j l kvs) (hz:kvs.length<=10000):CodeTr prog w (KK w) bt (k+1) (.k (.ref (hkA w))) [.loc n] [] m nx (.d (.lst (strDs (kvs.map (·.1))))) m nx:=by
 obtain ⟨V,hV⟩ : ∃ V:List (Str × AV),V=([("self",.loc n)]:List (Str × AV)):=⟨_,rfl⟩
 have hd:DSrc m nx (.loc l) (kvs.map fun kv=>.tup [.str kv.1,.str kv.2]):=⟨X.ll,X.i3⟩
 have comp:ETr prog w (KK w) bt k (phA w (hkA w)) (retE (nthS (bdA w (hkA w)) 0)) ⟨V,[],m,nx⟩ (.d (.lst (strDs (kvs.map (·.1))))) ⟨V,[],m,nx⟩:=by
  unfold strDs
  rw [List.map_map]
  refine ETr.ofLoop (by kernel_rfl) (a:=.loc l) (ds:=kvs.map fun kv=>.tup [.str kv.1,.str kv.2]) (ETr.runE 20 [(cx prog w k m nx).getA n j (hdC w) [("_headers",.loc l)] "_headers" (.loc l) X.ln X.i1 X.i2 (by kernel_rfl) rfl (by kernel_rfl)] (by subst hV; kernel_rfl)) hd
   (loop1n (st:=⟨V,[],m,nx⟩) (a:=.loc l) (xs:=kvs) (gD:=fun kv=>.tup [.str kv.1,.str kv.2]) (by kernel_rfl) (by kernel_rfl) hd (tgt_tupN (gs:=fun kv:Str × Str=>[.str kv.1,.str kv.2]) ["k", "v"] (by kernel_rfl) (by kernel_rfl) (by subst hV; kernel_rfl) (fun x hx=>rfl)) (fun kv hkv l=>?_) (by omega))
  subst hV
  exact ETr.runE 20 [] (by kernel_rfl)
 exact codeA (hkA w) ["self"] [.loc n] (.ret (.d (.lst (strDs (kvs.map (·.1)))))) m nx [] [.comp comp] (by kernel_rfl) (bindq1 fun S a=>by kernel_rfl) (by rfl) (by subst hV; kernel_rfl)
end
noncomputable def tokTab:List (Str × Int):=([("!",54),("!=",28),("%",24),("%=",40),("&",19),("&=",41),("(",7),(")",8),("*",16),("**",35),("**=",46),("*=",38),("+",14),("+=",36),(",",12),("-",15),("-=",37),("->",51),(".",23),("...",52),("/",17),("//",47),("//=",48),("/=",39),(":",11),(":=",53),(";",13),("<",20),("<<",33),("<<=",44),("<=",29),("=",22),("==",27),(">",21),(">=",30),(">>",34),(">>=",45),("@",49),("@=",50),("[",9),("]",10),("^",32),("^=",43),("{",25),("|",18),("|=",42),("}",26),("~",31)]:List (String × Int)).map fun p=>(Str.ofString p.1,p.2)
section
variable {prog:Program} {w:World} {k:Nat} {m:Nat->MO} {nx:Nat}
theorem tok_top:TopD w (KK w) (fa w "EXACT_TOKEN_TYPES") tokTab:=⟨by kernel_rfl,by kernel_rfl,by kernel_rfl,by kernel_rfl⟩
theorem isterm_tr (i:Int):CodeTr prog w (KK w) bt (k+1) (fn w "ISTERMINAL") [.d (.int i)] [] m nx (.d (.bool (decide (i < 256)))) m nx:=
 codeA (fa w "ISTERMINAL") ["x"] [.d (.int i)] (.ret (.d (.bool (decide (i < 256))))) m nx [] [] (by kernel_rfl) (bindq1 fun S a=>by kernel_rfl) rfl (by kernel_rfl)
theorem isnon_tr (i:Int):CodeTr prog w (KK w) bt (k+1) (fn w "ISNONTERMINAL") [.d (.int i)] [] m nx (.d (.bool (decide (i >= 256)))) m nx:=
 codeA (fa w "ISNONTERMINAL") ["x"] [.d (.int i)] (.ret (.d (.bool (decide (i >= 256))))) m nx [] [] (by kernel_rfl) (bindq1 fun S a=>by kernel_rfl) rfl (by kernel_rfl)
theorem iseof_tr (i:Int):CodeTr prog w (KK w) bt (k+1) (fn w "ISEOF") [.d (.int i)] [] m nx (.d (.bool (decide (i=0)))) m nx:=
 codeA (fa w "ISEOF") ["x"] [.d (.int i)] (.ret (.d (.bool (decide (i=0))))) m nx [] [] (by kernel_rfl) (bindq1 fun S a=>by kernel_rfl) rfl (by kernel_rfl)
end
structure Ix where
 n:Nat
 j:Nat
 p:Nat
 s:Nat
 t:Nat
 q:Nat
 p':Nat
 h:Nat
 g:Nat
 l:Nat
noncomputable def Ix.all (x:Ix):List Nat:=[x.n,x.j,x.p,x.s,x.t,x.q,x.h,x.g,x.l]
structure Good (w:World) (x:Ix) (m:Nat->MO) (nx:Nat):Prop where
 nd:x.all.Nodup
 lt:∀ i ∈ x.all,i < nx
 i1:m x.n=.inst (netC w) x.j
 i4:m x.s=.inst (netC w) x.t
 i5:m x.t=.ns (srcNs w x.p' x.q)
 k1:m x.h=.inst (hdC w) x.g
 k2:m x.g=.ns [("_headers",.loc x.l)]
noncomputable def vw (x:Ix) (m:Nat->MO) (L:Int) (cs:List Nat) (push:List D) (kvs:List (Str × Str)):Nat->MO:=
 upd (upd (upd (upd m x.q (.list (leftD cs))) x.j (.ns (lexNs L (.loc x.s) x.p))) x.p (.list push)) x.l (.list (kvsD kvs))
section
variable {w:World} {x:Ix} {m:Nat->MO} {nx:Nat} {L L':Int} {cs cs':List Nat} {push push':List D} {kvs kvs':List (Str × Str)}
theorem vw_l:vw x m L cs push kvs x.l=.list (kvsD kvs):=upd_at _ _ _
theorem vw_p (h:x.p ≠ x.l):vw x m L cs push kvs x.p=.list push:=by unfold vw; rw [upd_ne _ _ _ h,upd_at]
theorem vw_j (h:x.j ≠ x.l) (h2:x.j ≠ x.p):vw x m L cs push kvs x.j=.ns (lexNs L (.loc x.s) x.p):=by unfold vw; rw [upd_ne _ _ _ h,upd_ne _ _ _ h2,upd_at]
theorem vw_q (h:x.q ≠ x.l) (h2:x.q ≠ x.p) (h3:x.q ≠ x.j):vw x m L cs push kvs x.q=.list (leftD cs):=by unfold vw; rw [upd_ne _ _ _ h,upd_ne _ _ _ h2,upd_ne _ _ _ h3,upd_at]
theorem vw_ne {i:Nat} (h:i ≠ x.l) (h2:i ≠ x.p) (h3:i ≠ x.j) (h4:i ≠ x.q):vw x m L cs push kvs i=m i:=by unfold vw; rw [upd_ne _ _ _ h,upd_ne _ _ _ h2,upd_ne _ _ _ h3,upd_ne _ _ _ h4]
structure Sep (x:Ix):Prop where
 jl:x.j ≠ x.l
 jp:x.j ≠ x.p
 ql:x.q ≠ x.l
 qp:x.q ≠ x.p
 qj:x.q ≠ x.j
 pl:x.p ≠ x.l
theorem Good.ij (G:Good w x m nx) {a b:Nat} (i j:Nat) (hi:x.all[i]? = some a) (hj:x.all[j]? = some b) (n:(i == j)=false):a ≠ b:=
 fun e=>ne_of_beq_false n ((List.getElem?_inj (List.getElem?_eq_some_iff.mp hi).1 G.nd).mp (hi.trans (e ▸ hj.symm)))
theorem Good.at (G:Good w x m nx) {a:Nat} (i:Nat) (h:x.all[i]? = some a):a < nx:=G.lt a (List.mem_of_getElem? h)
theorem out_ne {i a:Nat} (hi:i ∉ x.all) (k:Nat) (h:x.all[k]? = some a):i ≠ a:=fun e=>hi (e ▸ List.mem_of_getElem? h)
theorem Good.sep (G:Good w x m nx):Sep x:=⟨(G.ij 1 8 rfl rfl rfl),(G.ij 1 2 rfl rfl rfl),(G.ij 5 8 rfl rfl rfl),(G.ij 5 2 rfl rfl rfl),(G.ij 5 1 rfl rfl rfl),(G.ij 2 8 rfl rfl rfl)⟩
theorem vw_ext {m':Nat->MO} (S:Sep x) (h1:m' x.l=.list (kvsD kvs)) (h2:m' x.p=.list push) (h3:m' x.j=.ns (lexNs L (.loc x.s) x.p)) (h4:m' x.q=.list (leftD cs)) (h5:∀ i,i ≠ x.l->i ≠ x.p->i ≠ x.j->i ≠ x.q->m' i=m i):m'=vw x m L cs push kvs:=by
 funext i
 by_cases a:i=x.l
 ·rw [a,h1,vw_l]
 ·by_cases b:i=x.p
  ·rw [b,h2,vw_p S.pl]
  ·by_cases c:i=x.j
   ·rw [c,h3,vw_j S.jl S.jp]
   ·by_cases d:i=x.q
    ·rw [d,h4,vw_q S.ql S.qp S.qj]
    ·rw [h5 i a b c d,vw_ne a b c d]
theorem vw_lex (S:Sep x):lexUp (vw x m L cs push kvs) x.j x.p x.s x.q L' cs'=vw x m L' cs' push kvs:=by
 apply vw_ext S
 ·unfold lexUp; rw [upd_ne _ _ _ (Ne.symm S.jl),upd_ne _ _ _ (Ne.symm S.ql),vw_l]
 ·unfold lexUp; rw [upd_ne _ _ _ (Ne.symm S.jp),upd_ne _ _ _ (Ne.symm S.qp),vw_p S.pl]
 ·unfold lexUp; rw [upd_at]
 ·unfold lexUp; rw [upd_ne _ _ _ S.qj,upd_at]
 ·intro i a b c d; unfold lexUp; rw [upd_ne _ _ _ c,upd_ne _ _ _ d,vw_ne a b c d]
theorem vw_push (S:Sep x):upd (vw x m L cs push kvs) x.p (.list push')=vw x m L cs push' kvs:=by
 apply vw_ext S
 ·rw [upd_ne _ _ _ (Ne.symm S.pl),vw_l]
 ·rw [upd_at]
 ·rw [upd_ne _ _ _ S.jp,vw_j S.jl S.jp]
 ·rw [upd_ne _ _ _ S.qp,vw_q S.ql S.qp S.qj]
 ·intro i a b c d; rw [upd_ne _ _ _ b,vw_ne a b c d]
theorem vw_hd (S:Sep x):upd (vw x m L cs push kvs) x.l (.list (kvsD kvs'))=vw x m L cs push kvs':=by
 apply vw_ext S
 ·rw [upd_at]
 ·rw [upd_ne _ _ _ S.pl,vw_p S.pl]
 ·rw [upd_ne _ _ _ S.jl,vw_j S.jl S.jp]
 ·rw [upd_ne _ _ _ S.ql,vw_q S.ql S.qp S.qj]
 ·intro i a b c d; rw [upd_ne _ _ _ a,vw_ne a b c d]
theorem vw_upd (S:Sep x) {i:Nat} {mo:MO} (a:i ≠ x.l) (b:i ≠ x.p) (c:i ≠ x.j) (d:i ≠ x.q):upd (vw x m L cs push kvs) i mo=vw x (upd m i mo) L cs push kvs:=by
 apply vw_ext S
 ·rw [upd_ne _ _ _ (Ne.symm a),vw_l]
 ·rw [upd_ne _ _ _ (Ne.symm b),vw_p S.pl]
 ·rw [upd_ne _ _ _ (Ne.symm c),vw_j S.jl S.jp]
 ·rw [upd_ne _ _ _ (Ne.symm d),vw_q S.ql S.qp S.qj]
 ·intro y a' b' c' d'
  by_cases e:y=i
  ·rw [e,upd_at,upd_at]
  ·rw [upd_ne _ _ _ e,upd_ne _ _ _ e,vw_ne a' b' c' d']
theorem Good.lex (G:Good w x m nx):LexAt w (vw x m L cs push kvs) nx x.n x.j x.p x.s x.t x.q x.p' L cs push:=
 have S:=G.sep
 ⟨G.at 0 rfl,G.at 1 rfl,G.at 2 rfl,G.at 3 rfl,G.at 4 rfl,G.at 5 rfl,(vw_ne (G.ij 0 8 rfl rfl rfl) (G.ij 0 2 rfl rfl rfl) (G.ij 0 1 rfl rfl rfl) (G.ij 0 5 rfl rfl rfl)).trans G.i1,vw_j S.jl S.jp,vw_p S.pl,(vw_ne (G.ij 3 8 rfl rfl rfl) (G.ij 3 2 rfl rfl rfl) (G.ij 3 1 rfl rfl rfl) (G.ij 3 5 rfl rfl rfl)).trans G.i4,(vw_ne (G.ij 4 8 rfl rfl rfl) (G.ij 4 2 rfl rfl rfl) (G.ij 4 1 rfl rfl rfl) (G.ij 4 5 rfl rfl rfl)).trans G.i5,vw_q S.ql S.qp S.qj,(G.ij 1 4 rfl rfl rfl),Ne.symm S.qp⟩
theorem Good.hd (G:Good w x m nx):HdAt w (vw x m L cs push kvs) nx x.h x.g x.l kvs:=
 ⟨G.at 6 rfl,G.at 7 rfl,G.at 8 rfl,(vw_ne (G.ij 6 8 rfl rfl rfl) (G.ij 6 2 rfl rfl rfl) (G.ij 6 1 rfl rfl rfl) (G.ij 6 5 rfl rfl rfl)).trans G.k1,(vw_ne (G.ij 7 8 rfl rfl rfl) (G.ij 7 2 rfl rfl rfl) (G.ij 7 1 rfl rfl rfl) (G.ij 7 5 rfl rfl rfl)).trans G.k2,vw_l⟩
theorem Good.other (G:Good w x m nx) {i:Nat} (hi:i ∉ x.all) (mo:MO) {nx':Nat} (hn:nx<=nx'):Good w x (upd m i mo) nx':=
 have ne:=fun {a} k h=>Ne.symm (out_ne (a:=a) hi k h)
 ⟨G.nd,fun y hy=>Nat.lt_of_lt_of_le (G.lt y hy) hn,(upd_ne _ _ _ (ne 0 rfl)).trans G.i1,(upd_ne _ _ _ (ne 3 rfl)).trans G.i4,(upd_ne _ _ _ (ne 4 rfl)).trans G.i5,(upd_ne _ _ _ (ne 6 rfl)).trans G.k1,(upd_ne _ _ _ (ne 7 rfl)).trans G.k2⟩
theorem Good.notin (G:Good w x m nx) {i:Nat} (h:nx<=i):i ∉ x.all:=fun hi=>absurd (G.lt i hi) (Nat.not_lt_of_le h)
theorem Good.ne4 {i:Nat} (hi:i ∉ x.all):i ≠ x.l /\ i ≠ x.p /\ i ≠ x.j /\ i ≠ x.q:=⟨out_ne hi 8 rfl,out_ne hi 2 rfl,out_ne hi 1 rfl,out_ne hi 5 rfl⟩
theorem Good.vupd (G:Good w x m nx) {i:Nat} (hi:i ∉ x.all) (mo:MO):upd (vw x m L cs push kvs) i mo=vw x (upd m i mo) L cs push kvs:=
 let ⟨a,b,c,d⟩:=Good.ne4 hi; vw_upd G.sep a b c d
theorem Good.vat (G:Good w x m nx) {i:Nat} (hi:i ∉ x.all):vw x m L cs push kvs i=m i:=
 let ⟨a,b,c,d⟩:=Good.ne4 hi; vw_ne a b c d
theorem Good.low (G:Good w x m nx) {m':Nat->MO} {nx':Nat} (hn:nx<=nx') (h:∀ i,i < nx->m' i=vw x m L' cs' push' kvs' i):Low (vw x m L cs push kvs) nx m' nx' (vw x m L' cs' push' kvs') nx:=by
 refine ⟨Nat.le_refl _,hn,h,fun i hi=>?_⟩
 have S:=G.sep
 by_cases a:i=x.l
 ·right; rw [a,vw_l]; trivial
 ·by_cases b:i=x.p
  ·right; rw [b,vw_p S.pl]; trivial
  ·by_cases c:i=x.j
   ·right; rw [c,vw_j S.jl S.jp]; exact lexNs_bd (G.at 3 rfl) (G.at 2 rfl)
   ·by_cases d:i=x.q
    ·right; rw [d,vw_q S.ql S.qp S.qj]; trivial
    ·left; exact ⟨hi,by rw [vw_ne a b c d,vw_ne a b c d]⟩
end
noncomputable def bitC (b:Bool):Nat:=if b then 49 else 48
noncomputable def wordS (l:List Bool):Str:=⟨(l.map bitC).toArray⟩
noncomputable def wordB (x:Nat):List Bool:=(List.range (1+x % 3)).map fun s=>decide (x / 3 / 2 ^ s % 2=1)
noncomputable def standL:List Nat:=[14,5,0]
noncomputable def xN (ns:List Int) (i:Nat):Nat:=if i < ns.length then (ns.getD i 0 % 1000000).toNat else standL.getD i 0
noncomputable def wordsB (ns:List Int):List (List Bool):=(List.range 3).map fun i=>wordB (xN ns i)
noncomputable def oneS (b:Bool):Str:=wordS [b]
theorem pre_mem {α:Type} {l pre post:List α} {a:α} (he:l=pre ++ a :: post):a ∈ l /\ pre.length < l.length:=by
 subst he
 exact ⟨List.mem_append.mpr (.inr (List.mem_cons_self ..)),by rw [List.length_append]; exact Nat.lt_add_of_pos_right (Nat.succ_pos _)⟩
theorem bit_str (v:Nat):(Str.ofString (toString ((v % 2:Nat):Int)))=oneS (decide (v % 2=1)):=by
 rcases Nat.mod_two_eq_zero_or_one v with h | h
 ·rw [h]; decide +kernel
 ·rw [h]; decide +kernel
theorem str_ext {x y:Str} (h:x.cps.toList=y.cps.toList):x=y:=Str.ext' (Array.toList_inj.mp h)
theorem wordS_app (a b:List Bool):wordS (a ++ b)=wordS a ++ wordS b:=str_ext (by
 show (wordS (a ++ b)).cps.toList=((wordS a).cps ++ (wordS b).cps).toList
 rw [Array.toList_append]
 exact List.map_append)
theorem app_empty (x:Str):x ++ Str.empty=x:=str_ext (by
 show (x.cps ++ #[]).toList=_
 rw [Array.append_empty])
theorem join_words:∀ l:List (List Bool),Str.join Str.empty (l.map wordS)=wordS l.flatten
 | []=>rfl
 | [a]=>congrArg wordS (List.append_nil a).symm
 | a :: b :: r=>by
  have ih:=join_words (b :: r)
  show wordS a ++ Str.empty ++ Str.join Str.empty ((b :: r).map wordS)=_
  rw [ih,app_empty,<- wordS_app]
  rfl
theorem glue_words (l:List (List Bool)):Txt.join Str.empty (l.map wordS)=wordS l.flatten:=(StrLaws.glued_eq_join _ _).trans (join_words l)
theorem join_bits (l:List Bool):Txt.join Str.empty (l.map oneS)=wordS l:=by
 have h:=glue_words (l.map fun b=>[b])
 rw [List.map_map,<- List.flatMap_def,List.flatMap_singleton'] at h
 exact h
@[irreducible] noncomputable def exE:Stmt->PySem.Expr
 | .Expr e _=>e
 | _=>.Constant .none 0 default
section
variable {prog:Program} {w:World} {k:Nat} {m:Nat->MO} {nx:Nat}
noncomputable abbrev wdF (w:World):Fm:=ph w "_law_words"
noncomputable abbrev wdL (w:World):Stmt:=nthS (bd w "_law_words") 2
noncomputable abbrev wdJ (w:World):PySem.Expr:=cArg 0 (cArg 0 (exE (nthS (forBody (wdL w)) 1)))
theorem pow2_3 {s:Nat} (h:s < 3):(2:Int) ^ (s:Int).toNat=((2 ^ s:Nat):Int) /\ (Builtin.Int.intBits 2:Int) * (s:Int)<=2 ^ 27 /\ 0 < 2 ^ s /\ 2 ^ s<=4:=by
 have:s=0 \/ s=1 \/ s=2:=by omega
 rcases this with rfl | rfl | rfl <;> decide +kernel
theorem word_comp (V:List (Str × AV)) (x:Nat) (hV:compVars (wdF w) V (lcScope (wdJ w))=([("x",.d (.int x))]:List (Str × AV)))
  (first:ETr prog w (KK w) bt k (wdF w) (lcFirst (wdJ w)).iter ⟨V,[],m,nx⟩ (.d (.rng 0 ((1+x % 3:Nat):Int) 1)) ⟨V,[],m,nx⟩) :
  ETr prog w (KK w) bt k (wdF w) (wdJ w) ⟨V,[],m,nx⟩ (.d (.lst (strDs ((wordB x).map oneS)))) ⟨V,[],m,nx⟩:=by
 unfold strDs wordB
 rw [List.map_map,List.map_map]
 have hsm:Builtin.Range.small 0 ((1+x % 3:Nat):Int) 1=true:=by
  have:x % 3=0 \/ x % 3=1 \/ x % 3=2:=by omega
  rcases this with h | h | h <;> rw [h] <;> decide +kernel
 refine ETr.ofLoop (by kernel_rfl) (a:=.d (.rng 0 ((1+x % 3:Nat):Int) 1)) (ds:=(List.range (1+x % 3)).map fun i:Nat=>D.int i) first (dsrc_rng hsm)
  (loop1n (st:=⟨V,[],m,nx⟩) (a:=.d (.rng 0 ((1+x % 3:Nat):Int) 1)) (xs:=List.range (1+x % 3)) (gD:=fun i:Nat=>D.int i) (by kernel_rfl) (by kernel_rfl) (dsrc_rng hsm) (tgt_nameN "step" (by kernel_rfl) (by kernel_rfl) (by rw [hV]; kernel_rfl)) (fun s hs l=>?_) (by rw [List.length_range]; omega))
 have hs3:s < 3:=by have:=List.mem_range.mp hs; omega
 obtain ⟨p1,p2,p3,p4⟩:=pow2_3 hs3
 obtain ⟨r,hr⟩ : ∃ r,r=2 ^ s:=⟨_,rfl⟩
 dsimp only [Function.comp]
 rw [<- hr] at p1 p3 p4 ⊢
 have ev:(x:Int) / 3 / (r:Int) % 2=((x / 3 / r % 2:Nat):Int):=by push_cast; rfl
 have hc:CallTr prog w (KK w) bt k (.k (.type "str")) [.d (.int ((x:Int) / 3 / (r:Int) % 2))] [] (upd m nx (.list l)) (nx+1) (.d (.str (oneS (decide (x / 3 / r % 2=1))))) (upd m nx (.list l)) (nx+1):=by
  rw [ev,<- bit_str]
  exact c_str (by
   have:x / 3 / r % 2=0 \/ x / 3 / r % 2=1:=by omega
   rcases this with h | h <;> rw [h] <;> decide)
 rw [hV]
 exact ETr.runE 20 [.obl (show (0:Int) < 3 /\ (3:Int) < 1073741824 by decide),(cx prog w k (upd m nx (.list l)) (nx+1)).pow 2 s r p1 (by omega) p2,.obl (show (0:Int) < (r:Int) /\ (r:Int) < 1073741824 by omega),.obl (show (0:Int) < 2 by decide),.call hc] (by kernel_rfl)
theorem words_tr (ns:List Int) (hz:ns.length < 1000000):CallTr prog w (KK w) bt (k+1) (fn w "_law_words") [.d (.lst (ns.map D.int))] [] m nx (.d (.lst (strDs ((wordsB ns).map wordS)))) m nx:=by
 obtain ⟨S,hS⟩ : ∃ S,S=ns.map D.int:=⟨_,rfl⟩
 have lS:S.length=ns.length:=by rw [hS,List.length_map]
 obtain ⟨V,hV⟩ : ∃ V:List (Str × AV),V=([("script",.d (.lst S)),("stand",.d (.lst (natsD standL))),("words",.loc nx)]:List (Str × AV)):=⟨_,rfl⟩
 have loop:STr prog w (KK w) bt k (wdF w) (wdL w) ⟨V,[],upd m nx (.list []),nx+1⟩ .next ⟨V,[],upd m nx (.list (strDs ((wordsB ns).map wordS))),nx+1⟩:=by
  have hd:∀ s:List Str,DSrc (upd m nx (.list (strDs s))) (nx+1) (.d (.rng 0 3 1)) ((List.range 3).map fun i:Nat=>D.int i):=fun s=>dsrc_rng (n:=3) (by kernel_rfl)
  have e9:(wordsB ns).map wordS=(List.range 3).foldl (fun s i=>s ++ [wordS (wordB (xN ns i))]) []:=rfl
  rw [e9]
  refine STr.forP (.d (.rng 0 3 1)) ((List.range 3).map fun i:Nat=>D.int i) 20 [(cx prog w k (upd m nx (.list [])) (nx+1)).range1 3] (by kernel_rfl) (by subst hV; kernel_rfl) (hd []) ?_
  refine for_fold (V:=fun _=>V) (M:=fun s:List Str=>upd m nx (.list (strDs s))) (step:=fun s i=>s ++ [wordS (wordB (xN ns i))]) (gD:=fun i:Nat=>D.int i) (VX:=fun _ i=>("place",.d (.int i)) :: V) (List.range 3) [] V (.refl _) (fun pre i post he=>?_) (hd _)
  obtain ⟨hmem,hpl⟩:=pre_mem he
  have hi:i < 3:=List.mem_range.mp hmem
  obtain ⟨s,hs⟩ : ∃ s,s=pre.foldl (fun s i=>s ++ [wordS (wordB (xN ns i))]) ([]:List Str):=⟨_,rfl⟩
  have hsl:s.length<=3:=by
   have b:=fold_bound (μ:=fun s:List Str=>s.length) (c:=1) (step:=fun s i=>s ++ [wordS (wordB (xN ns i))]) pre [] fun i _ s=>Nat.le_of_eq List.length_append
   rw [hs]
   have hpl:pre.length < 3:=hpl
   have b:(pre.foldl (fun s i=>s ++ [wordS (wordB (xN ns i))]) ([]:List Str)).length<=0+1 * pre.length:=b
   omega
  rw [<- hs]
  refine ⟨hd s,takes_nameN "place" (by kernel_rfl) (by kernel_rfl),.next,V,.inl rfl,?_,.refl _⟩
  obtain ⟨X,hX⟩ : ∃ X,X=xN ns i:=⟨_,rfl⟩
  have comp:=word_comp (prog:=prog) (w:=w) (k:=k) (m:=upd m nx (.list (strDs s))) (nx:=nx+1) (setv "x" (.d (.int X)) (("place",.d (.int i)) :: V)) X (by subst hV; kernel_rfl) (by
   subst hV
   exact ETr.runE 20 [.obl (show (0:Int) < 3 by decide),(cx prog w k (upd m nx (.list (strDs s))) (nx+1)).range1 ((1+X % 3:Nat):Int)] (by kernel_rfl))
  have hc:CallTr prog w (KK w) bt k (.k (.builtin "str.join")) [.d (.str Str.empty),.d (.lst (strDs ((wordB X).map oneS)))] [] (upd m nx (.list (strDs s))) (nx+1) (.d (.str (wordS (wordB X)))) (upd m nx (.list (strDs s))) (nx+1):=by
   have:=c_join (prog:=prog) (w:=w) (K:=KK w) (btab:=bt) (k:=k) (m:=upd m nx (.list (strDs s))) (nx:=nx+1) (x:=Str.empty) (a:=.d (.lst (strDs ((wordB X).map oneS)))) (xs:=(wordB X).map oneS) rfl trivial (by
    have e:((wordB X).map oneS).map (·.length)=(wordB X).map fun _=>1:=by rw [List.map_map]; rfl
    have e0:Str.empty.length=0:=rfl
    have l3:(wordB X).length<=3:=by unfold wordB; rw [List.length_map,List.length_range]; omega
    have:=sum_le2 (fun _:Bool=>1) (fun _=>by decide) (wordB X)
    rw [e,e0]
    omega)
   rw [join_bits] at this
   exact this
  have ea:upd (upd m nx (.list (strDs s))) nx (.list (strDs s ++ [.str (wordS (wordB X))]))=upd m nx (.list (strDs (s ++ [wordS (wordB X)]))):=by
   rw [upd_same]; unfold strDs; rw [List.map_append]; rfl
  have hin:(upd m nx (.list (strDs s))) nx=.list (strDs s):=upd_at _ _ _
  have hsl2:(strDs s).length<=100000:=by rw [show (strDs s).length=s.length from List.length_map _]; omega
  rw [<- hX]
  obtain ⟨T,hT⟩ : ∃ T,T=strDs s:=⟨_,rfl⟩
  rw [<- hT] at comp hc ea hin hsl2 ⊢
  obtain ⟨M1,d1⟩ : ∃ y,y=upd m nx (.list T):=⟨_,rfl⟩
  obtain ⟨M2,d2⟩ : ∃ y,y=upd m nx (.list (strDs (s ++ [wordS (wordB X)]))):=⟨_,rfl⟩
  rw [<- d1,<- d2] at ea
  rw [<- d1] at comp hc hin
  show BTr _ _ _ _ _ _ _ ⟨_,_,upd m nx (.list T),_⟩ _ ⟨_,_,upd m nx (.list (strDs (s ++ [wordS (wordB X)]))),_⟩
  rw [<- d1,<- d2]
  by_cases h:i < ns.length
  ·have hX2:X=(ns.getD i 0 % 1000000).toNat:=by rw [hX]; unfold xN; rw [if_pos h]
   have e:((X:Nat):Int)=ns.getD i 0 % 1000000:=by rw [hX2]; exact Int.toNat_of_nonneg (Int.emod_nonneg _ (by decide))
   have ei:S[i]? = some (.int (ns.getD i 0)):=by rw [hS]; simp [List.getElem?_eq_getElem h]
   rw [e] at comp
   subst hV
   exact BTr.runS 40 [(cx prog w k M1 (nx+1)).len (.d (.lst S)) _ rfl trivial (by omega),.brT ((i:Int) < (S.length:Nat)) (by omega),
    (cx prog w k M1 (nx+1)).item S i i (.int (ns.getD i 0)) rfl ei (by omega),
    (cx prog w k M1 (nx+1)).pow 10 6 1000000 (by decide) (by decide) (by decide +kernel),.obl (show (0:Int) < 1000000 by decide),
    (cx prog w k M1 (nx+1)).mAppend (.loc nx) T ⟨Nat.lt_succ_self _,hin⟩ trivial,(cx prog w k M1 (nx+1)).mJoin Str.empty,.comp comp,.call hc,
    (cx prog w k M1 (nx+1)).cAppend nx T (.str (wordS (wordB X))) (Nat.lt_succ_self _) hin hsl2 M2 ea] (by kernel_rfl)
  ·have hX2:X=standL.getD i 0:=by rw [hX]; unfold xN; rw [if_neg h]
   have e:(natsD standL)[i]? = some (.int (X:Nat)):=by
    rw [hX2]
    unfold natsD
    have:i < standL.length:=hi
    simp [List.getElem?_eq_getElem this]
   subst hV
   exact BTr.runS 40 [(cx prog w k M1 (nx+1)).len (.d (.lst S)) _ rfl trivial (by omega),.brF ((i:Int) < (S.length:Nat)) (by omega),
    (cx prog w k M1 (nx+1)).item (natsD standL) i i (.int (X:Nat)) rfl e (by omega),
    (cx prog w k M1 (nx+1)).mAppend (.loc nx) T ⟨Nat.lt_succ_self _,hin⟩ trivial,(cx prog w k M1 (nx+1)).mJoin Str.empty,.comp comp,.call hc,
    (cx prog w k M1 (nx+1)).cAppend nx T (.str (wordS (wordB X))) (Nat.lt_succ_self _) hin hsl2 M2 ea] (by kernel_rfl)
 obtain ⟨R,hR⟩ : ∃ R,R=strDs ((wordsB ns).map wordS):=⟨_,rfl⟩
 rw [<- hR] at loop ⊢
 rw [<- hS]
 have hRl:(upd m nx (.list R)) nx=.list R:=upd_at _ _ _
 have h:CodeTr prog w (KK w) bt (k+1) (fn w "_law_words") [.d (.lst S)] [] m nx (.d (.lst R)) (upd (upd m nx (.list R)) nx .junk) (nx+1):=by
  obtain ⟨M2,d2⟩ : ∃ y,y=upd m nx (.list R):=⟨_,rfl⟩
  rw [<- d2] at loop hRl ⊢
  exact codeR ["script"] (.ret (.d (.lst R))) (upd M2 nx .junk) (nx+1) [] [.lst (natsD standL) false (by decide +kernel),.lst [] true (by decide),.stm loop,.fz M2 (nx+1) nx R hRl (Nat.lt_succ_self _)] (by kernel_rfl) (bindq1 fun S a=>by kernel_rfl) rfl (by subst hV; kernel_rfl)
 exact (h.call).low (.same (by omega) fun i hi=>by rw [upd_ne _ _ _ (by omega),upd_ne _ _ _ (by omega)]) (.d _)
noncomputable def stepW (s:Str × Int) (word:Str):Str × Int:=(s.1 ++ (writtenF word (s.2 % 3) ++ " "),s.2+1)
noncomputable def stepR (s:Str × Int) (row:List Str):Str × Int:=((row.foldl stepW s).1 ++ "\n", (row.foldl stepW s).2)
noncomputable def textF (rows : List (List Str)) (style : Int) : Str := (rows.foldl stepR (Str.empty, style)).1
noncomputable def letOf (le : List Str) (b : Bool) : Str := le.getD (if b then 1 else 0) Str.empty
noncomputable def rowOf (ws : List (List Bool)) (le : List Str) (p : Nat) : List Str := namesL.getD p Str.empty :: (ws.getD p []).map (letOf le)
noncomputable def Short (word : Str) : Prop := word.length <= 10
theorem stepW_len (word : Str) (h : Short word) (s : Str × Int) : (stepW s word).1.length <= s.1.length + 23 := by
 unfold stepW
 dsimp only
 rw [str_len, str_len]
 have q1 : (" " : Str).length = 1 := by decide +kernel
 have := written_len word (s.2 % 3) 10 h
 omega
theorem stepR_len (row : List Str) (h : ∀ x ∈ row, Short x) (hl : row.length <= 10) (s : Str × Int) : (stepR s row).1.length <= s.1.length + 231 := by
 unfold stepR
 dsimp only
 rw [str_len]
 have q1 : ("\n" : Str).length = 1 := by decide +kernel
 have := fold_bound (μ := fun s : Str × Int => s.1.length) (c := 23) (step := stepW) row s fun x hx s => stepW_len x (h x hx) s
 have := Nat.mul_le_mul_left 23 hl
 omega
noncomputable abbrev txL (w : World) : Stmt := nthS (bd w "_law_text") 1
noncomputable abbrev txI (w : World) : Stmt := nthS (forBody (txL w)) 0
noncomputable def Vt (ws : List (List Bool)) (le : List Str) (s : Str × Int) : List (Str × AV) := [("names", .d (.lst (strDs namesL))), ("words", .d (.lst (strDs (ws.map wordS)))), ("letters", .d (.lst (strDs le))), ("style", .d (.int s.2)), ("text", .d (.str s.1))]
theorem bit_int (b : Bool) : PySem.intText? (ch (bitC b)) = some ((if b then 1 else 0 : Nat) : Int) := by cases b <;> kernel_rfl
theorem text_letters (ws : List (List Bool)) (le : List Str) (hle : le.length = 2) (p : Nat) (hp : p < ws.length) (hlen : (ws.getD p []).length <= 10) (hn : ws.length <= 10) (s : Str × Int) :
  ETr prog w (KK w) bt k (ph w "_law_text") (binR (forIter (txI w))) ⟨("place", .d (.int p)) :: Vt ws le s, [], m, nx⟩ (.d (.lst (strDs ((ws.getD p []).map (letOf le))))) ⟨("place", .d (.int p)) :: Vt ws le s, [], m, nx⟩ := by
 obtain ⟨l, hl⟩ : ∃ l, l = ws.getD p [] := ⟨_, rfl⟩
 obtain ⟨W, hW⟩ : ∃ W, W = strDs (ws.map wordS) := ⟨_, rfl⟩
 have hWp : W[p]? = some (.str (wordS l)) := by
  rw [hW, hl]; unfold strDs
  simp [List.getElem?_eq_getElem hp]
 rw [<- hl] at hlen ⊢
 have e : strDs (l.map (letOf le)) = l.map fun b => D.str (letOf le b) := by unfold strDs; rw [List.map_map]; rfl
 rw [e]
 have hs : strD (wordS l) = l.map fun b => D.str (ch (bitC b)) := by
  unfold strD wordS
  simp only [List.map_map]
  rfl
 unfold Vt
 rw [<- hW]
 refine ETr.ofLoop (by kernel_rfl) (a := .d (.str (wordS l))) (ds := strD (wordS l)) (ETr.runE 20 [(cx prog w k m nx).item W p p (.str (wordS l)) rfl hWp (by omega)] (by kernel_rfl)) rfl
  (by
   rw [hs]
   refine loop1n (st := ⟨_, [], m, nx⟩) (a := .d (.str (wordS l))) (xs := l) (gD := fun b => .str (ch (bitC b))) (by kernel_rfl) (by kernel_rfl) hs.symm (tgt_nameN "bit" (by kernel_rfl) (by kernel_rfl) (by kernel_rfl)) (fun b hb l => ?_) (by omega)
   have hi : (strDs le)[if b then 1 else 0]? = some (.str (letOf le b)) := strDs_get (by cases b <;> simp [hle])
   exact ETr.runE 20 [(cx prog w k (upd m nx (.list l)) (nx + 1)).intS (ch (bitC b)) _ (bit_int b) (by show 1 <= 640; omega), (cx prog w k (upd m nx (.list l)) (nx + 1)).item (strDs le) _ (if b then 1 else 0) _ rfl hi (by cases b <;> decide)] (by kernel_rfl))
theorem text_row (ws : List (List Bool)) (le : List Str) (hle : le.length = 2) (p : Nat) (hp : p < ws.length) (hp3 : p < 3) (hlen : (ws.getD p []).length <= 9) (hn : ws.length <= 10) (s : Str × Int) (h : ∀ x ∈ rowOf ws le p, Short x) (hs : s.1.length <= 10000) :
  STr prog w (KK w) bt (k + 1) (ph w "_law_text") (txI w) ⟨("place", .d (.int p)) :: Vt ws le s, [], m, nx⟩ .next ⟨("place", .d (.int p)) :: Vt ws le ((rowOf ws le p).foldl stepW s), [], m, nx⟩ := by
 have comp := text_letters (prog := prog) (w := w) (k := k + 1) (m := m) (nx := nx) ws le hle p hp (by omega) hn s
 have hl : (rowOf ws le p).length <= 10 := by unfold rowOf; rw [List.length_cons, List.length_map]; omega
 have er : strDs (rowOf ws le p) = [D.str (namesL.getD p Str.empty)] ++ strDs ((ws.getD p []).map (letOf le)) := rfl
 have hin : (strDs namesL)[p]? = some (.str (namesL.getD p Str.empty)) := strDs_get (by show p < 3; exact hp3)
 obtain ⟨row, hrow⟩ : ∃ row, row = rowOf ws le p := ⟨_, rfl⟩
 rw [<- hrow] at h hl er ⊢
 have l2 : (strDs ((ws.getD p []).map (letOf le))).length <= 10 := by rw [strDs_len, List.length_map]; omega
 obtain ⟨R, hR⟩ : ∃ R, R = strDs ((ws.getD p []).map (letOf le)) := ⟨_, rfl⟩
 obtain ⟨N, hN⟩ : ∃ N, N = namesL.getD p Str.empty := ⟨_, rfl⟩
 rw [<- hR] at comp er l2
 rw [<- hN] at er hin
 refine STr.forP (.d (.lst ([D.str N] ++ R))) (strDs row) 20 [(cx prog w (k + 1) m nx).item (strDs namesL) p p (.str N) rfl hin (by omega), .lst [.str N] false (by show 1 <= 1000; decide), .comp comp, (cx prog w (k + 1) m nx).addL (.d (.lst [.str N])) (.d (.lst R)) [.str N] R rfl trivial rfl trivial (by rw [List.length_singleton]; omega)] (by kernel_rfl) (by kernel_rfl) er ?_
 refine for_fold (V := fun s => ("place", .d (.int p)) :: Vt ws le s) (M := fun _ => m) (step := stepW) (gD := fun x : Str => .str x) (VX := fun s x => ("word", .d (.str x)) :: ("place", .d (.int p)) :: Vt ws le s) row s (("place", .d (.int p)) :: Vt ws le s) (.refl _) (fun pre x post he => ?_) er
 have hx : x ∈ row := by rw [he]; simp
 have hsx := h x hx
 have hpre : (pre.foldl stepW s).1.length <= 10000 + 23 * 10 := by
  have := fold_bound (μ := fun s : Str × Int => s.1.length) (c := 23) (step := stepW) pre s fun y hy s => stepW_len y (h y (by rw [he]; simp [hy])) s
  have hp : pre.length <= 10 := by have := congrArg List.length he; simp at this; omega
  have := Nat.mul_le_mul_left 23 hp
  omega
 refine ⟨er, takes_nameN "word" (by kernel_rfl) (by kernel_rfl), .next, ?_⟩
 obtain ⟨t, ht⟩ : ∃ t, t = pre.foldl stepW s := ⟨_, rfl⟩
 rw [<- ht] at hpre ⊢
 refine ⟨("place", .d (.int p)) :: Vt ws le (stepW t x), .inl rfl, ?_, .refl _⟩
 have q1 : (" " : Str).length = 1 := by decide +kernel
 have e : stepW t x = (t.1 ++ (writtenF x (t.2 % 3) ++ " "), t.2 + 1) := rfl
 rw [e]
 have hwl := written_len x (t.2 % 3) 10 hsx
 obtain ⟨z, hz⟩ : ∃ z, z = writtenF x (t.2 % 3) := ⟨_, rfl⟩
 have hc := written_tr (prog := prog) (w := w) (k := k) (m := m) (nx := nx) x (t.2 % 3) (by have : x.length <= 10 := hsx; omega)
 rw [<- hz] at hwl hc ⊢
 exact BTr.runS 40 [.obl (show (0 : Int) < 3 by decide), .call hc,
   (cx prog w (k + 1) m nx).addS false z " " _ rfl (by rw [q1, sizeLine_eq]; omega), (cx prog w (k + 1) m nx).addS true t.1 (z ++ " ") _ rfl (by rw [str_len, q1, sizeLine_eq]; omega)] (by kernel_rfl)
noncomputable def rowsOf (ws : List (List Bool)) (le : List Str) : List (List Str) := (List.range 3).map (rowOf ws le)
theorem text_tr (ws : List (List Bool)) (le : List Str) (style : Int) (hw : ws.length = 3) (hle : le.length = 2) (hlen : ∀ l ∈ ws, l.length <= 9) (h : ∀ r ∈ rowsOf ws le, ∀ x ∈ r, Short x) :
  CallTr prog w (KK w) bt (k + 2) (fn w "_law_text") [.d (.lst (strDs namesL)), .d (.lst (strDs (ws.map wordS))), .d (.lst (strDs le)), .d (.int style)] [] m nx (.d (.str (textF (rowsOf ws le) style))) m nx := by
 have hd : DSrc m nx (.d (.rng 0 3 1)) ((List.range 3).map fun i : Nat => D.int i) := dsrc_rng (n := 3) (by kernel_rfl)
 have hgl : ∀ p, p < 3 -> (ws.getD p []).length <= 9 := fun p hp => hlen _ (by
  have hp' : p < ws.length := by omega
  rw [List.getD_eq_getElem?_getD, List.getElem?_eq_getElem hp']; simp)
 have hrl : ∀ p, p < 3 -> (rowOf ws le p).length <= 10 := fun p hp => by
  unfold rowOf; rw [List.length_cons, List.length_map]; have := hgl p hp; omega
 have loop : STr prog w (KK w) bt (k + 1) (ph w "_law_text") (txL w) ⟨Vt ws le (Str.empty, style), [], m, nx⟩ .next ⟨Vt ws le ((List.range 3).foldl (fun s p => stepR s (rowOf ws le p)) (Str.empty, style)), [], m, nx⟩ := by
  refine STr.forP (.d (.rng 0 3 1)) ((List.range 3).map fun i : Nat => D.int i) 20 [(cx prog w (k + 1) m nx).range1 3] (by kernel_rfl) (by kernel_rfl) hd ?_
  refine for_fold (V := fun s => Vt ws le s) (M := fun _ => m) (step := fun s p => stepR s (rowOf ws le p)) (gD := fun i : Nat => D.int i) (VX := fun s i => ("place", .d (.int i)) :: Vt ws le s) (List.range 3) (Str.empty, style) (Vt ws le (Str.empty, style)) (.refl _) (fun pre p post he => ?_) hd
  have hp : p < 3 := by
   have : p ∈ List.range 3 := by rw [he]; simp
   exact List.mem_range.mp this
  have hsh : ∀ p, p < 3 -> ∀ x ∈ rowOf ws le p, Short x := fun p hp x hx => h _ (List.mem_map.mpr ⟨p, List.mem_range.mpr hp, rfl⟩) x hx
  have hpre : (pre.foldl (fun s p => stepR s (rowOf ws le p)) (Str.empty, style)).1.length <= 231 * 3 := by
   have hpm : ∀ y ∈ pre, y < 3 := fun y hy => by
    have : y ∈ List.range 3 := by rw [he]; simp [hy]
    exact List.mem_range.mp this
   have := fold_bound (μ := fun s : Str × Int => s.1.length) (c := 231) (step := fun s p => stepR s (rowOf ws le p)) pre (Str.empty, style) fun y hy s => stepR_len _ (hsh y (hpm y hy)) (hrl y (hpm y hy)) s
   have hp : pre.length <= 3 := by have := congrArg List.length he; simp at this; omega
   have := Nat.mul_le_mul_left 231 hp
   have : ((Str.empty, style) : Str × Int).1.length = 0 := rfl
   omega
  refine ⟨hd, takes_nameN "place" (by kernel_rfl) (by kernel_rfl), .next, ?_⟩
  obtain ⟨t, ht⟩ : ∃ t, t = pre.foldl (fun s p => stepR s (rowOf ws le p)) (Str.empty, style) := ⟨_, rfl⟩
  rw [<- ht] at hpre ⊢
  refine ⟨Vt ws le (stepR t (rowOf ws le p)), .inl rfl, ?_, .refl _⟩
  have inner := text_row (prog := prog) (w := w) (k := k) (m := m) (nx := nx) ws le hle p (by omega) hp (hgl p hp) (by omega) t (hsh p hp) (by omega)
  have hb := fold_bound (μ := fun s : Str × Int => s.1.length) (c := 23) (step := stepW) (rowOf ws le p) t fun y hy s => stepW_len y (hsh p hp y hy) s
  have hb2 := Nat.mul_le_mul_left 23 (hrl p hp)
  have e : stepR t (rowOf ws le p) = (((rowOf ws le p).foldl stepW t).1 ++ "\n", ((rowOf ws le p).foldl stepW t).2) := rfl
  rw [e]
  obtain ⟨u, hu⟩ : ∃ u, u = (rowOf ws le p).foldl stepW t := ⟨_, rfl⟩
  rw [<- hu] at inner hb ⊢
  have q1 : ("\n" : Str).length = 1 := by decide +kernel
  exact BTr.runS 40 [.stm inner, (cx prog w (k + 1) m nx).addS true u.1 "\n" _ rfl (by rw [q1, sizeLine_eq]; omega)] (by kernel_rfl)
 have et : (rowsOf ws le).foldl stepR (Str.empty, style) = (List.range 3).foldl (fun s p => stepR s (rowOf ws le p)) (Str.empty, style) := by unfold rowsOf; rw [List.foldl_map]
 unfold textF
 rw [et]
 obtain ⟨u, hu⟩ : ∃ u, u = (List.range 3).foldl (fun s p => stepR s (rowOf ws le p)) (Str.empty, style) := ⟨_, rfl⟩
 rw [<- hu] at loop ⊢
 exact (codeR ["names", "words", "letters", "style"] (.ret (.d (.str u.1))) m nx [] [.stm loop] (by kernel_rfl) (bindq4 fun S a b c d => by kernel_rfl) rfl (by kernel_rfl)).call
end
section
variable {prog : Program} {w : World} {k : Nat} {m : Nat -> MO} {nx : Nat} {n j l : Nat}
noncomputable abbrev ahA (w : World) : Addr := ca w "Headers" "add_header"
theorem bind_add {w : World} (vs : List Value) (h : vs.length = (["self", "_name", "_value"] : List Str).length) : bindArgs (fnD (KK w) (ahA w)) ⟨vs, []⟩ = (alloc { cls := .type "dict", data := .dict #[] } >>= fun d => pure ((["self", "_name", "_value"] : List Str).zip vs ++ ([("_params", Value.ref d)] : List (Str × Value)))) := by
 match vs, h with
 | [a, b, c], _ => kernel_rfl
theorem kvsD_len (kvs : List (Str × Str)) : (kvsD kvs).length = kvs.length := List.length_map _
theorem kvsD_add {kvs : List (Str × Str)} {x y : Str} : kvsD (kvs ++ [(x, y)]) = kvsD kvs ++ [.tup [.str x, .str y]] := List.map_append
theorem hd_add {kvs : List (Str × Str)} (X : HdAt w m nx n j l kvs) (x y : Str) (hpx : Prn x) (hpy : Prn y) (hy : y.length <= 1000) (hz : kvs.length <= 10000) :
  CallTr prog w (KK w) bt (k + 2) (.k (.ref (ahA w))) [.loc n, .d (.str x), .d (.str y)] [] m nx (.d .none) (upd m l (.list (kvsD (kvs ++ [(x, y)])))) nx := by
 obtain ⟨m1, d1⟩ : ∃ y, y = upd m nx (.dictS []) := ⟨_, rfl⟩
 obtain ⟨m2, d2⟩ : ∃ y, y = upd m1 (nx + 1) (.list []) := ⟨_, rfl⟩
 obtain ⟨m3, d3⟩ : ∃ z, z = upd m2 (nx + 1) (.list [.str y]) := ⟨_, rfl⟩
 obtain ⟨m4, d4⟩ : ∃ z, z = upd m3 (nx + 2) (.view nx) := ⟨_, rfl⟩
 obtain ⟨m5, d5⟩ : ∃ z, z = upd m4 l (.list (kvsD kvs ++ [.tup [.str x, .str y]])) := ⟨_, rfl⟩
 have o4 : ∀ i, i < nx -> m4 i = m i := fun i hi => by rw [d4, upd_ne _ _ _ (by omega), d3, upd_ne _ _ _ (by omega), d2, upd_ne _ _ _ (by omega), d1, upd_ne _ _ _ (by omega)]
 have o2 : ∀ i, i < nx -> m2 i = m i := fun i hi => by rw [d2, upd_ne _ _ _ (by omega), d1, upd_ne _ _ _ (by omega)]
 have a2 : m2 (nx + 1) = .list [] := by rw [d2, upd_at]
 have a3 : m3 nx = .dictS [] := by rw [d3, upd_ne _ _ _ (by omega), d2, upd_ne _ _ _ (by omega), d1, upd_at]
 have a4 : m4 (nx + 1) = .list [.str y] := by rw [d4, upd_ne _ _ _ (by omega), d3, upd_at]
 have c1 := conv_tr (prog := prog) (w := w) (k := k) (m := m4) (nx := nx + 3) n x true hpx
 have c2 := conv_tr (prog := prog) (w := w) (k := k) (m := m2) (nx := nx + 2) n y false hpy
 obtain ⟨V, hV⟩ : ∃ V : List (Str × AV), V = ([("self", .loc n), ("_name", .d (.str x)), ("_value", .d (.str y)), ("_params", .loc nx), ("parts", .loc (nx + 1))] : List (Str × AV)) := ⟨_, rfl⟩
 have st : STr prog w (KK w) bt (k + 1) (phA w (ahA w)) (nthS (bdA w (ahA w)) 2) ⟨V, [], m3, nx + 2⟩ .next ⟨V, [], m4, nx + 3⟩ := by
  have a5 : m4 (nx + 2) = .view nx := by rw [d4, upd_at]
  have a6 : m4 nx = .dictS [] := by rw [d4, upd_ne _ _ _ (by omega), a3]
  refine STr.forV0 (v := nx + 2) (p := nx) (by kernel_rfl) 20 [(cx prog w (k + 1) m3 (nx + 2)).mItemsS nx [] (by show nx < nx + 2; omega) a3, (cx prog w (k + 1) m3 (nx + 2)).cItemsS nx [] (by show nx < nx + 2; omega) a3] ?_ (Nat.lt_succ_self _) a5 a6
  rw [d4]
  subst hV
  kernel_rfl
 have hb : BTr prog w (KK w) bt (k + 1) (phA w (ahA w)) (bdA w (ahA w)) ⟨(["self", "_name", "_value"] : List Str).zip ([.loc n, .d (.str x), .d (.str y)] : List AV) ++ ([("_params", .loc nx)] : List (Str × AV)), [], m1, nx + 1⟩ .next ⟨V, [], m5, nx + 3⟩ := by
  have i1 := (o4 n X.ln).trans X.i1
  have i2 := (o4 j X.lj).trans X.i2
  have i3 := (o4 l X.ll).trans X.i3
  have k1 := (o2 n X.ln).trans X.i1
  have k2 := (o2 j X.lj).trans X.i2
  have e := kvsD_len kvs
  generalize kvsD kvs = ds at i3 d5 e
  have jn : Txt.join "; " [y] = y := rfl
  subst hV
  subst d2
  exact BTr.runE 40 [.lst [] true (by decide), (cx prog w (k + 1) (upd m1 (nx + 1) (.list [])) (nx + 2)).isNotNone (.d (.str y)) false rfl, .br (!false) true rfl,
   (cx prog w (k + 1) (upd m1 (nx + 1) (.list [])) (nx + 2)).mFn n j (hdC w) (cvA w) [("_headers", .loc l)] "_convert_string_type" (Nat.lt_of_lt_of_le X.ln (Nat.le_add_right _ _)) k1 k2 (by kernel_rfl) (by kernel_rfl), .call c2.call,
   (cx prog w (k + 1) (upd m1 (nx + 1) (.list [])) (nx + 2)).mAppend (.loc (nx + 1)) [] ⟨Nat.lt_succ_self _, a2⟩ trivial, (cx prog w (k + 1) (upd m1 (nx + 1) (.list [])) (nx + 2)).cAppend (nx + 1) [] (.str y) (Nat.lt_succ_self _) a2 (by decide) m3 d3.symm,
   .stm st, (cx prog w (k + 1) m4 (nx + 3)).getA n j (hdC w) [("_headers", .loc l)] "_headers" (.loc l) (Nat.lt_of_lt_of_le X.ln (Nat.le_add_right _ _)) i1 i2 (by kernel_rfl) rfl (by kernel_rfl),
   (cx prog w (k + 1) m4 (nx + 3)).mAppend (.loc l) ds ⟨Nat.lt_of_lt_of_le X.ll (Nat.le_add_right _ _), i3⟩ trivial,
   (cx prog w (k + 1) m4 (nx + 3)).mFn n j (hdC w) (cvA w) [("_headers", .loc l)] "_convert_string_type" (Nat.lt_of_lt_of_le X.ln (Nat.le_add_right _ _)) i1 i2 (by kernel_rfl) (by kernel_rfl), .call c1.call,
   (cx prog w (k + 1) m4 (nx + 3)).mJoin "; ", (cx prog w (k + 1) m4 (nx + 3)).cJoin "; " (.loc (nx + 1)) [y] y jn ⟨(Nat.add_lt_add_left (by decide) nx : nx + 1 < nx + 3), a4⟩ trivial (by show y.length + 0 + 1 * 2 <= 16777216; omega),
   .tup [.str x, .str y] (show 2 <= 1000 by decide), (cx prog w (k + 1) m4 (nx + 3)).cAppend l ds (.tup [.str x, .str y]) (Nat.lt_of_lt_of_le X.ll (Nat.le_add_right _ _)) i3 (by omega) m5 d5.symm] (by kernel_rfl)
 rw [d1] at hb
 unfold phA bdA at hb
 have h := code_fnKw (prog := prog) (w := w) (K := KK w) (btab := bt) (k := k + 1) (a := ahA w) (m := m) (nx := nx) (kw := "_params") (ns := ["self", "_name", "_value"]) (args:=[.loc n,.d (.str x),.d (.str y)]) (by kernel_rfl) rfl bind_add (by kernel_rfl) (by kernel_rfl) hb rfl
 refine (h.call).low ⟨Nat.le_refl _,by omega,fun i hi=>?_,fun i hi=>?_⟩ (.d _)
 ·show m5 i=_
  rw [d5,kvsD_add]
  by_cases e:i=l
  ·rw [e,upd_at,upd_at]
  ·rw [upd_ne _ _ _ e,upd_ne _ _ _ e,o4 i hi]
 ·by_cases e:i=l
  ·right; rw [e,upd_at]; trivial
  ·left; exact ⟨hi,upd_ne _ _ _ e⟩
end
noncomputable def readR (z:List Str × List (Str × Str)) (tok:Str):List Str × List (Str × Str):=(tokTab.lookup tok).elim (z.1 ++ [tok],z.2) fun _=>(z.1,z.2 ++ [(z.1.getLastD Str.empty,tok)])
noncomputable def TokR (z:List Str × List (Str × Str)) (tok:Str):Prop:=A4 (tok ≠ Str.empty) (tok.length<=1000) (tokTab.lookup tok=none \/ (Ex3 fun (v:Nat) pre y=>A7 (tokTab.lookup tok=some (v:Int)) (7<=v) (v < 256) (z.1=pre ++ [y]) (Prn y) (Prn tok) True)) True
theorem readR_len (z:List Str × List (Str × Str)) (tok:Str):(readR z tok).1.length<=z.1.length+1 /\ (readR z tok).2.length<=z.2.length+1:=by
 unfold readR
 cases tokTab.lookup tok with
 | none=>exact ⟨Nat.le_of_eq List.length_append,Nat.le_succ _⟩
 | some v=>exact ⟨Nat.le_succ _,Nat.le_of_eq List.length_append⟩
noncomputable def encP (ps:List (List Nat × Word)) (last:List Nat):List Nat:=ps.flatMap (fun p=>p.1 ++ p.2.enc) ++ last
noncomputable def nlsP (ps:List (List Nat × Word)) (last:List Nat):Int:=(ps.map fun p=>nls p.1).sum+nls last
theorem strDs_snoc (l:List Str) (x:Str):strDs (l ++ [x])=strDs l ++ [.str x]:=List.map_append
section
variable {prog:Program} {w:World} {k:Nat} {m:Nat->MO} {nx:Nat} {x:Ix} {L:Int}
noncomputable abbrev rdW (w:World):Stmt:=nthS (bd w "_law_read") 1
noncomputable def Vr (x:Ix) (nx:Nat):List (Str × AV):=[("lexer",.loc x.n),("code",.loc x.h),("names",.loc nx)]
theorem read_true {st:St}:TTr prog w (KK w) bt k (ph w "_law_read") (whTest (rdW w)) st true st:=TTr.runE 20 [.br true true rfl] (by kernel_rfl)
noncomputable abbrev rdM (x:Ix) (m:Nat->MO) (nx:Nat) (L:Int) (cs:List Nat) (z:List Str × List (Str × Str)):Nat->MO:=vw x (upd m nx (.list (strDs z.1))) L cs [] z.2
theorem rd_append (G:Good w x m nx) (cs:List Nat) (l:List Str) (kvs:List (Str × Str)) (a:Str):upd (vw x (upd m nx (.list (strDs l))) L cs [] kvs) nx (.list (strDs l ++ [.str a]))=vw x (upd m nx (.list (strDs (l ++ [a])))) L cs [] kvs:=by
 rw [(G.other (G.notin (Nat.le_refl _)) (.list (strDs l)) (Nat.le_succ nx)).vupd (G.notin (Nat.le_refl _)),upd_same,<- strDs_snoc]
theorem rd_turn (G:Good w x m nx) (lead:List Nat) (wd:Word) (rest:List Nat) (hlead:∀ a ∈ lead,wsB a=true) (hw:wd.ok) (hok:OkCs (lead ++ (wd.enc ++ rest))) (z:List Str × List (Str × Str)) (ht:TokR z wd.tok) (hz1:z.1.length<=300) (hz2:z.2.length<=10000) :
  BTr prog w (KK w) bt (k+4) (ph w "_law_read") (forBody (rdW w)) ⟨Vr x nx,[],rdM x m nx L (lead ++ (wd.enc ++ rest)) z,nx+1⟩ .next ⟨Vr x nx,[],rdM x m nx (L+nls lead) rest (readR z wd.tok),nx+1⟩:=by
 have G1:=G.other (G.notin (Nat.le_refl _)) (.list (strDs z.1)) (Nat.le_succ nx)
 have S:=G.sep
 have X:=G1.lex (L:=L) (cs:=lead ++ (wd.enc ++ rest)) (push:=[]) (kvs:=z.2)
 have gt:=gt_word (prog:=prog) (k:=k) lead wd rest hlead hw X hok
 rw [vw_lex S] at gt
 generalize wd.tok=tok at gt ht ⊢
 obtain ⟨h0,hlen,ht,-⟩:=ht
 have x1:=X.i1
 have x2:=X.i2
 have c2:vw x (upd m nx (.list (strDs z.1))) (L+nls lead) rest [] z.2 nx=.list (strDs z.1):=by rw [G1.vat (G.notin (Nat.le_refl _)),upd_at]
 have hd2:=G1.hd (L:=L+nls lead) (cs:=rest) (push:=[]) (kvs:=z.2)
 have hzl:(strDs z.1).length<=100000:=by rw [strDs_len]; omega
 have hne:(!decide (tok=Str.empty))=true:=by rw [decide_eq_false h0]; rfl
 show BTr prog w (KK w) bt (k+4) (ph w "_law_read") (forBody (rdW w)) ⟨Vr x nx,[],vw x (upd m nx (.list (strDs z.1))) L (lead ++ (wd.enc ++ rest)) [] z.2,nx+1⟩ .next _
 generalize vw x (upd m nx (.list (strDs z.1))) L (lead ++ (wd.enc ++ rest)) [] z.2=M1 at gt x1 x2 ⊢
 refine ht.elim (fun hv=>?_) fun hv=>?_
 ·have e:readR z tok=(z.1 ++ [tok],z.2):=by unfold readR; rw [hv]; rfl
  have em:=rd_append (L:=L+nls lead) G rest z.1 z.2 tok
  rw [e]
  show BTr prog w (KK w) bt (k+4) (ph w "_law_read") (forBody (rdW w)) _ .next ⟨Vr x nx,[],vw x (upd m nx (.list (strDs (z.1 ++ [tok])))) (L+nls lead) rest [] z.2,nx+1⟩
  generalize vw x (upd m nx (.list (strDs z.1))) (L+nls lead) rest [] z.2=M2 at gt c2 em
  generalize vw x (upd m nx (.list (strDs (z.1 ++ [tok])))) (L+nls lead) rest [] z.2=M3 at em ⊢
  generalize strDs z.1=ds at c2 hzl em
  exact BTr.runS 60 [(cx prog w (k+4) M1 (nx+1)).mFn x.n x.j (netC w) (gtA w) (lexNs L (.loc x.s) x.p) "get_token" X.ln x1 x2 (by kernel_rfl) (by kernel_rfl),.call gt.call,.br (!decide (tok=Str.empty)) true hne,
   (cx prog w (k+4) M2 (nx+1)).mGetTop (fa w "EXACT_TOKEN_TYPES") tokTab tok_top,(cx prog w (k+4) M2 (nx+1)).cGetTop (fa w "EXACT_TOKEN_TYPES") tokTab tok_top tok 256 256 (by rw [hv]; rfl),
   .call (CodeTr.call (iseof_tr (prog:=prog) (w:=w) (k:=k+3) (m:=M2) (nx:=nx+1) 256)),.brF ((256:Int)=0) (by decide),
   .call (CodeTr.call (isnon_tr (prog:=prog) (w:=w) (k:=k+3) (m:=M2) (nx:=nx+1) 256)),.brT ((256:Int) >= 256) (by decide),
   (cx prog w (k+4) M2 (nx+1)).mAppend (.loc nx) ds ⟨Nat.lt_succ_self _,c2⟩ trivial,(cx prog w (k+4) M2 (nx+1)).cAppend nx ds (.str tok) (Nat.lt_succ_self _) c2 hzl M3 em,
   .call (CodeTr.call (isterm_tr (prog:=prog) (w:=w) (k:=k+3) (m:=M3) (nx:=nx+1) 256)),.brF ((256:Int) < 256) (by decide)] (by kernel_rfl)
 ·obtain ⟨v,pre,y,hv,hv7,hv256,hz,hpy,hpt,-⟩:=hv
  have hl:z.1.getLastD Str.empty=y:=by rw [hz,List.getLastD_concat]
  have e:readR z tok=(z.1,z.2 ++ [(y,tok)]):=by unfold readR; rw [hv,<- hl]; rfl
  have add:=hd_add (prog:=prog) (k:=k+2) hd2 y tok hpy hpt hlen hz2
  rw [vw_hd S] at add
  have i1:=hd2.i1
  have i2:=hd2.i2
  rw [e]
  show BTr prog w (KK w) bt (k+4) (ph w "_law_read") (forBody (rdW w)) _ .next ⟨Vr x nx,[],vw x (upd m nx (.list (strDs z.1))) (L+nls lead) rest [] (z.2 ++ [(y,tok)]),nx+1⟩
  have ez:strDs z.1=strDs pre ++ [.str y]:=by rw [hz,strDs_snoc]
  have c2:=c2.trans (congrArg MO.list ez)
  have hpl:(strDs pre).length < 9000000000:=by rw [ez,List.length_append] at hzl; omega
  generalize vw x (upd m nx (.list (strDs z.1))) (L+nls lead) rest [] z.2=M2 at gt c2 add i1 i2
  generalize vw x (upd m nx (.list (strDs z.1))) (L+nls lead) rest [] (z.2 ++ [(y,tok)])=M3 at add ⊢
  generalize strDs pre=ds at c2 hpl
  exact BTr.runS 60 [(cx prog w (k+4) M1 (nx+1)).mFn x.n x.j (netC w) (gtA w) (lexNs L (.loc x.s) x.p) "get_token" X.ln x1 x2 (by kernel_rfl) (by kernel_rfl),.call gt.call,.br (!decide (tok=Str.empty)) true hne,
   (cx prog w (k+4) M2 (nx+1)).mGetTop (fa w "EXACT_TOKEN_TYPES") tokTab tok_top,(cx prog w (k+4) M2 (nx+1)).cGetTop (fa w "EXACT_TOKEN_TYPES") tokTab tok_top tok 256 v (by rw [hv]; rfl),
   .call (CodeTr.call (iseof_tr (prog:=prog) (w:=w) (k:=k+3) (m:=M2) (nx:=nx+1) v)),.brF ((v:Int)=0) (by omega),
   .call (CodeTr.call (isnon_tr (prog:=prog) (w:=w) (k:=k+3) (m:=M2) (nx:=nx+1) v)),.brF ((v:Int) >= 256) (by omega),
   .call (CodeTr.call (isterm_tr (prog:=prog) (w:=w) (k:=k+3) (m:=M2) (nx:=nx+1) v)),.brT ((v:Int) < 256) (by omega),
   (cx prog w (k+4) M2 (nx+1)).mFn x.h x.g (hdC w) (ahA w) [("_headers",.loc x.l)] "add_header" hd2.ln i1 i2 (by kernel_rfl) (by kernel_rfl),
   (cx prog w (k+4) M2 (nx+1)).itemNeg (.loc nx) ds (.str y) ⟨Nat.lt_succ_self _,c2⟩ trivial hpl,.call add] (by kernel_rfl)
noncomputable def AllR:List (List Nat × Word)->List Str × List (Str × Str)->Prop
 | [],_=>True
 | q :: ps,z=>(∀ a ∈ q.1,wsB a=true) /\ q.2.ok /\ TokR z q.2.tok /\ AllR ps (readR z q.2.tok)
theorem rd_last (G:Good w x m nx) (last:List Nat) (hlast:∀ a ∈ last,wsB a=true) (hok:OkCs last) (z:List Str × List (Str × Str)) :
  BTr prog w (KK w) bt (k+4) (ph w "_law_read") (forBody (rdW w)) ⟨Vr x nx,[],rdM x m nx L last z,nx+1⟩ (.ret (.d (.lst (strDs z.1)))) ⟨[],[],upd (rdM x m nx (L+nls last) [] z) nx .junk,nx+1⟩:=by
 have G1:=G.other (G.notin (Nat.le_refl _)) (.list (strDs z.1)) (Nat.le_succ nx)
 have X:=G1.lex (L:=L) (cs:=last) (push:=[]) (kvs:=z.2)
 have gt:=gt_end (prog:=prog) (k:=k) last hlast X hok
 rw [vw_lex G.sep] at gt
 have x1:=X.i1
 have x2:=X.i2
 have c2:vw x (upd m nx (.list (strDs z.1))) (L+nls last) [] [] z.2 nx=.list (strDs z.1):=by rw [G1.vat (G.notin (Nat.le_refl _)),upd_at]
 show BTr prog w (KK w) bt (k+4) (ph w "_law_read") (forBody (rdW w)) ⟨Vr x nx,[],vw x (upd m nx (.list (strDs z.1))) L last [] z.2,nx+1⟩ _ ⟨[],[],upd (vw x (upd m nx (.list (strDs z.1))) (L+nls last) [] [] z.2) nx .junk,nx+1⟩
 generalize vw x (upd m nx (.list (strDs z.1))) L last [] z.2=M1 at gt x1 x2 ⊢
 generalize vw x (upd m nx (.list (strDs z.1))) (L+nls last) [] [] z.2=M2 at gt c2 ⊢
 generalize strDs z.1=R at c2 ⊢
 exact BTr.runS 60 [(cx prog w (k+4) M1 (nx+1)).mFn x.n x.j (netC w) (gtA w) (lexNs L (.loc x.s) x.p) "get_token" X.ln x1 x2 (by kernel_rfl) (by kernel_rfl),.call gt.call,.br (!decide (Str.empty=Str.empty)) false rfl,
  .call (CodeTr.call (iseof_tr (prog:=prog) (w:=w) (k:=k+3) (m:=M2) (nx:=nx+1) 0)),.brT ((0:Int)=0) rfl,.fz M2 (nx+1) nx R c2 (Nat.lt_succ_self _)] (by kernel_rfl)
theorem rd_loop (G:Good w x m nx) (last:List Nat) (hlast:∀ a ∈ last,wsB a=true):∀ (ps:List (List Nat × Word)) (z:List Str × List (Str × Str)) (L:Int),AllR ps z->OkCs (encP ps last)->z.1.length+ps.length<=300->z.2.length+ps.length<=10000 ->
  WhTr prog w (KK w) bt (k+4) (ph w "_law_read") (whTest (rdW w)) (forBody (rdW w)) ps.length ⟨Vr x nx,[],rdM x m nx L (encP ps last) z,nx+1⟩ (.ret (.d (.lst (strDs ((ps.map (·.2.tok)).foldl readR z).1))))
   ⟨[],[],upd (rdM x m nx (L+nlsP ps last) [] ((ps.map (·.2.tok)).foldl readR z)) nx .junk,nx+1⟩
 | [],z,L,_,hok,h1,h2=>by
  have e:nlsP [] last=nls last:=Int.zero_add _
  rw [e]
  exact .stop read_true (rd_last G last hlast hok z)
 | q :: ps,z,L,hps,hok,h1,h2=>by
  obtain ⟨a1,a2,a3,a4⟩:=hps
  have ec:encP (q :: ps) last=q.1 ++ (q.2.enc ++ encP ps last):=by unfold encP; simp
  rw [ec] at hok ⊢
  rw [List.length_cons] at h1 h2
  have b:=rd_turn (prog:=prog) (k:=k) (L:=L) G q.1 q.2 (encP ps last) a1 a2 hok z a3 (by omega) (by omega)
  have l1:=(readR_len z q.2.tok).1
  have l2:=(readR_len z q.2.tok).2
  have ih:=rd_loop G last hlast ps (readR z q.2.tok) (L+nls q.1) a4 hok.app.app (by omega) (by omega)
  have en:L+nlsP (q :: ps) last=L+nls q.1+nlsP ps last:=by unfold nlsP; rw [List.map_cons,List.sum_cons,Int.add_assoc,Int.add_assoc]
  rw [en,List.map_cons,List.foldl_cons]
  exact .step read_true b (.inl rfl) ih
theorem read_tr (G:Good w x m nx) (ps:List (List Nat × Word)) (last:List Nat) (hlast:∀ a ∈ last,wsB a=true) (hps:AllR ps ([],[])) (hok:OkCs (encP ps last)) (hz:ps.length<=300) :
  CallTr prog w (KK w) bt (k+5) (fn w "_law_read") [.loc x.n,.loc x.h] [] (vw x m L (encP ps last) [] []) nx (.d (.lst (strDs ((ps.map (·.2.tok)).foldl readR ([],[])).1)))
   (vw x m (L+nlsP ps last) [] [] ((ps.map (·.2.tok)).foldl readR ([],[])).2) nx:=by
 have loop:=rd_loop (prog:=prog) (k:=k) G last hlast ps ([],[]) L hps hok (by simpa using hz) (by simp; omega)
 have st:=STr.while_ (c:=rdW w) (by kernel_rfl) loop
 have e0:rdM x m nx L (encP ps last) ([],[])=upd (vw x m L (encP ps last) [] []) nx (.list []):=by rw [G.vupd (G.notin (Nat.le_refl _))]; rfl
 rw [e0] at st
 generalize (ps.map (·.2.tok)).foldl readR ([],[])=z at st ⊢
 have hlow:=G.low (L:=L) (L':=L+nlsP ps last) (cs:=encP ps last) (cs':=[]) (push:=[]) (push':=[]) (kvs:=[]) (kvs':=z.2) (m':=upd (rdM x m nx (L+nlsP ps last) [] z) nx .junk) (Nat.le_succ nx) fun i hi=>by
  rw [upd_ne _ _ _ (Nat.ne_of_lt hi),show rdM x m nx (L+nlsP ps last) [] z=upd (vw x m (L+nlsP ps last) [] [] z.2) nx (.list (strDs z.1)) from (G.vupd (G.notin (Nat.le_refl nx)) (.list (strDs z.1))).symm,upd_ne _ _ _ (Nat.ne_of_lt hi)]
 generalize upd (rdM x m nx (L+nlsP ps last) [] z) nx .junk=M9 at st hlow
 generalize vw x m L (encP ps last) [] []=M0 at st hlow ⊢
 generalize strDs z.1=R at st ⊢
 have h:CodeTr prog w (KK w) bt (k+5) (fn w "_law_read") [.loc x.n,.loc x.h] [] M0 nx (.d (.lst R)) M9 (nx+1):=
  codeA (fa w "_law_read") ["lexer", "code"] [.loc x.n,.loc x.h] (.ret (.d (.lst R))) M9 (nx+1) [] [.lst [] true (by decide),.stm st] (by kernel_rfl) (bindq2 fun S a b=>by kernel_rfl) rfl (by kernel_rfl)
 exact (h.call).low hlow (.d _)
end
section
variable {prog:Program} {w:World} {k:Nat} {m:Nat->MO} {nx:Nat} {n j l:Nat}
noncomputable abbrev gaA (w:World):Addr:=ca w "Headers" "get_all"
noncomputable def allF (kvs:List (Str × Str)) (x:Str):List Str:=(kvs.filter fun kv=>decide (Txt.lower kv.1=Txt.lower x)).map (·.2)
theorem hd_all {kvs:List (Str × Str)} (X:HdAt w m nx n j l kvs) (x:Str) (hx:x.length<=1000) (hp:Prn (Txt.lower x)) (hk:∀ kv ∈ kvs,kv.1.length<=1000) (hz:kvs.length<=10000) :
  CodeTr prog w (KK w) bt (k+2) (.k (.ref (gaA w))) [.loc n,.d (.str x)] [] m nx (.d (.lst (strDs (allF kvs x)))) m nx:=by
 obtain ⟨y,hy⟩ : ∃ y,y=Txt.lower x:=⟨_,rfl⟩
 obtain ⟨V,hV⟩ : ∃ V:List (Str × AV),V=([("self",.loc n),("name",.d (.str y))]:List (Str × AV)):=⟨_,rfl⟩
 have conv:=conv_tr (prog:=prog) (w:=w) (k:=k) (m:=m) (nx:=nx) n y true (hy ▸ hp)
 have hd:DSrc m nx (.loc l) (kvs.map fun kv=>.tup [.str kv.1,.str kv.2]):=⟨X.ll,X.i3⟩
 have ee:strDs (allF kvs x)=(kvs.filter fun kv=>decide (Txt.lower kv.1=y)).map fun kv=>D.str kv.2:=by unfold strDs allF; rw [List.map_map,hy]; rfl
 have hi:(lcFirst (retE (nthS (bdA w (gaA w)) 1))).ifs = [(lcFirst (retE (nthS (bdA w (gaA w)) 1))).ifs.headD (.Constant .none 0 default)]:=by kernel_rfl
 rw [ee]
 have comp:ETr prog w (KK w) bt (k+1) (phA w (gaA w)) (retE (nthS (bdA w (gaA w)) 1)) ⟨V,[],m,nx⟩ (.d (.lst ((kvs.filter fun kv=>decide (Txt.lower kv.1=y)).map fun kv=>D.str kv.2))) ⟨V,[],m,nx⟩:=by
  refine ETr.ofLoop (by kernel_rfl) (a:=.loc l) (ds:=kvs.map fun kv=>.tup [.str kv.1,.str kv.2]) (ETr.runE 20 [(cx prog w (k+1) m nx).getA n j (hdC w) [("_headers",.loc l)] "_headers" (.loc l) X.ln X.i1 X.i2 (by kernel_rfl) rfl (by kernel_rfl)] (by subst hV; kernel_rfl)) hd
   (loop1 (st:=⟨V,[],m,nx⟩) (a:=.loc l) (xs:=kvs) (gD:=fun kv=>.tup [.str kv.1,.str kv.2]) (p:=fun kv=>decide (Txt.lower kv.1=y)) (f:=fun kv=>D.str kv.2) (by kernel_rfl) hd (tgt_nameN "kv" (by kernel_rfl) (by kernel_rfl) (by subst hV; kernel_rfl)) (.inr ⟨_,hi,fun kv hkv l'=>?_⟩) (fun kv hkv hp l'=>?_) (by omega))
  ·show TTr _ _ _ _ _ _ _ _ (decide (Txt.lower kv.1=y)) _
   obtain ⟨z,hz⟩ : ∃ z,z=Txt.lower kv.1:=⟨_,rfl⟩
   rw [<- hz]
   subst hV
   generalize hb:decide (z=y)=b
   exact TTr.runE 30 [(cx prog w (k+1) (upd m nx (.list l')) (nx+1)).itemT [.str kv.1,.str kv.2] 0 0 (.str kv.1) rfl rfl (by decide),(cx prog w (k+1) (upd m nx (.list l')) (nx+1)).mLower kv.1,(cx prog w (k+1) (upd m nx (.list l')) (nx+1)).cLower kv.1 z hz.symm (by have:=hk kv hkv; omega),.br (decide (z=y)) b hb] (by kernel_rfl)
  ·subst hV
   exact ETr.runE 20 [(cx prog w (k+1) (upd m nx (.list l')) (nx+1)).itemT [.str kv.1,.str kv.2] 1 1 (.str kv.2) rfl rfl (by decide)] (by kernel_rfl)
 generalize (kvs.filter fun kv=>decide (Txt.lower kv.1=y)).map (fun kv=>D.str kv.2)=R at comp ⊢
 subst hV
 exact codeA (gaA w) ["self", "name"] [.loc n,.d (.str x)] (.ret (.d (.lst R))) m nx [] [(cx prog w (k+1) m nx).mFn n j (hdC w) (cvA w) [("_headers",.loc l)] "_convert_string_type" X.ln X.i1 X.i2 (by kernel_rfl) (by kernel_rfl),(cx prog w (k+1) m nx).mLower x,(cx prog w (k+1) m nx).cLower x y hy.symm (by omega),.call conv.call,.comp comp] (by kernel_rfl) (bindq2 fun S a b=>by kernel_rfl) rfl (by kernel_rfl)
noncomputable abbrev hcA (w:World):Addr:=ca w "Headers" "__contains__"
theorem hd_in {kvs:List (Str × Str)} (X:HdAt w m nx n j l kvs) (x:Str) (hx:x.length<=1000) (hp:Prn (Txt.lower x)) (hk:∀ kv ∈ kvs,kv.1.length<=1000) :
  CodeTr prog w (KK w) bt (k+3) (.k (.ref (hcA w))) [.loc n,.d (.str x)] [] m nx (.d (.bool (getF kvs x).isSome)) m nx:=by
 have g:=hd_get (prog:=prog) (k:=k) X x hx hp hk
 cases q:getF kvs x with
 | none=>
  rw [q] at g
  exact codeA (hcA w) ["self", "name"] [.loc n,.d (.str x)] (.ret (.d (.bool false))) m nx [] [(cx prog w (k+2) m nx).mFn n j (hdC w) (hgA w) [("_headers",.loc l)] "get" X.ln X.i1 X.i2 (by kernel_rfl) (by kernel_rfl),.call g.call,(cx prog w (k+2) m nx).isNotNone (.d .none) true rfl] (by kernel_rfl) (bindq2 fun S a b=>by kernel_rfl) rfl (by kernel_rfl)
 | some v=>
  rw [q] at g
  exact codeA (hcA w) ["self", "name"] [.loc n,.d (.str x)] (.ret (.d (.bool true))) m nx [] [(cx prog w (k+2) m nx).mFn n j (hdC w) (hgA w) [("_headers",.loc l)] "get" X.ln X.i1 X.i2 (by kernel_rfl) (by kernel_rfl),.call g.call,(cx prog w (k+2) m nx).isNotNone (.d (.str v)) false rfl] (by kernel_rfl) (bindq2 fun S a b=>by kernel_rfl) rfl (by kernel_rfl)
theorem q_new {kvs:List (Str × Str)} (X:HdAt w m nx n j l kvs) (x:Str) (hx:x.length<=1000) (hp:Prn (Txt.lower x)) (hk:∀ kv ∈ kvs,kv.1.length<=1000) :
  CmpTr prog w (KK w) bt (k+3) .NotIn (.d (.str x)) (.loc n) m nx (!(getF kvs x).isSome) m nx:=
 q_notInO X.ln X.i1 X.i2 (by kernel_rfl) (hd_in (prog:=prog) (k:=k) X x hx hp hk).call
theorem pick_all (ds:List D):pickD ds none none=ds:=by
 rw [pick_of ds none none 0 ds.length (by unfold sliceBounds; simp),List.drop_zero,Nat.sub_zero,List.take_length]
noncomputable abbrev htA (w:World):Addr:=ca w "Headers" "items"
theorem hd_items {kvs:List (Str × Str)} (X:HdAt w m nx n j l kvs) (hz:kvs.length<=10000):CodeTr prog w (KK w) bt (k+1) (.k (.ref (htA w))) [.loc n] [] m nx (.d (.lst (kvsD kvs))) m nx:=by
 have hl:=kvsD_len kvs
 have i3:=X.i3
 generalize kvsD kvs=ds at i3 hl ⊢
 have e:=pick_all ds
 have c:=(cx prog w k m nx).slc (.loc l) (.d .none) (.d .none) ds none none ⟨X.ll,i3⟩ trivial rfl rfl (by omega)
 have h:=codeA (prog:=prog) (w:=w) (k:=k) (m:=m) (nx:=nx) (htA w) ["self"] [.loc n] (.ret (.d (.lst (pickD ds none none)))) m nx [] [(cx prog w k m nx).getA n j (hdC w) [("_headers",.loc l)] "_headers" (.loc l) X.ln X.i1 X.i2 (by kernel_rfl) rfl (by kernel_rfl),
  (cx prog w k m nx).slc (.loc l) (.d .none) (.d .none) ds none none ⟨X.ll,i3⟩ trivial rfl rfl (by omega)] (by kernel_rfl) (bindq1 fun S a=>by kernel_rfl) rfl (by kernel_rfl)
 rw [e] at h
 exact h
theorem hd_getD {kvs:List (Str × Str)} (X:HdAt w m nx n j l kvs) (x d:Str) (hx:x.length<=1000) (hp:Prn (Txt.lower x)) (hk:∀ kv ∈ kvs,kv.1.length<=1000) :
  CodeTr prog w (KK w) bt (k+2) (.k (.ref (hgA w))) [.loc n,.d (.str x),.d (.str d)] [] m nx (.d (.str ((getF kvs x).getD d))) m nx:=by
 obtain ⟨y,hy⟩ : ∃ y,y=Txt.lower x:=⟨_,rfl⟩
 obtain ⟨V,hV⟩ : ∃ V:List (Str × AV),V=([("self",.loc n),("name",.d (.str y)),("default",.d (.str d))]:List (Str × AV)):=⟨_,rfl⟩
 have loop:∃ V9,VSub V V9 /\ ForTr prog w (KK w) bt (k+1) (phA w (hgA w)) (forTgt (nthS (bdA w (hgA w)) 1)) (forBody (nthS (bdA w (hgA w)) 1)) (.loc l) (kvsD kvs) (kvsD kvs) ⟨V,[],m,nx⟩ (findFl (fun kv:Str × Str=>.d (.str kv.2)) (kvs.find? fun kv=>decide (Txt.lower kv.1=y))) ⟨V9,[],m,nx⟩:=by
  refine for_find (V:=V) (gD:=kvD) (VX:=fun kv=>([("v",.d (.str kv.2)),("k",.d (.str kv.1))]:List (Str × AV)) ++ V) (p:=fun kv=>decide (Txt.lower kv.1=y)) (g:=fun kv=>.d (.str kv.2)) (show DSrc m nx (.loc l) (kvsD kvs) from ⟨X.ll,X.i3⟩) kvs V (.refl _) fun kv hkv=>⟨takes_tupN ["k", "v"] (by kernel_rfl) (by kernel_rfl) rfl,fun hf=>?_,fun ht=>?_⟩
  ·refine ⟨.next,V,.inl rfl,?_,.refl _⟩
   subst hV
   exact BTr.runS 20 [(cx prog w (k+1) m nx).mLower kv.1,(cx prog w (k+1) m nx).cLower kv.1 (Txt.lower kv.1) rfl (by have:=hk kv hkv; omega),.br (decide (Txt.lower kv.1=y)) false hf] (by kernel_rfl)
  ·refine ⟨V,?_,.refl _⟩
   subst hV
   exact BTr.runS 20 [(cx prog w (k+1) m nx).mLower kv.1,(cx prog w (k+1) m nx).cLower kv.1 (Txt.lower kv.1) rfl (by have:=hk kv hkv; omega),.br (decide (Txt.lower kv.1=y)) true ht] (by kernel_rfl)
 have st:=STr.forP (.loc l) (kvsD kvs) 20 [(cx prog w (k+1) m nx).getA n j (hdC w) [("_headers",.loc l)] "_headers" (.loc l) X.ln X.i1 X.i2 (by kernel_rfl) rfl (by kernel_rfl)] (by kernel_rfl) (by subst hV; kernel_rfl) ⟨X.ll,X.i3⟩ loop
 have conv:=conv_tr (prog:=prog) (w:=w) (k:=k) (m:=m) (nx:=nx) n y true (hy ▸ hp)
 unfold getF
 rw [<- hy]
 cases q:kvs.find? fun kv=>decide (Txt.lower kv.1=y) with
 | none=>
  rw [q] at st
  dsimp only [findFl] at st
  subst hV
  exact codeA (hgA w) ["self", "name", "default"] [.loc n,.d (.str x),.d (.str d)] (.ret (.d (.str d))) m nx [] [(cx prog w (k+1) m nx).mFn n j (hdC w) (cvA w) [("_headers",.loc l)] "_convert_string_type" X.ln X.i1 X.i2 (by kernel_rfl) (by kernel_rfl),(cx prog w (k+1) m nx).mLower x,(cx prog w (k+1) m nx).cLower x y hy.symm (by omega),.call conv.call,.stm st] (by kernel_rfl) (bindq3 fun S a b c=>by kernel_rfl) rfl (by kernel_rfl)
 | some kv=>
  rw [q] at st
  dsimp only [findFl] at st
  subst hV
  exact codeA (hgA w) ["self", "name", "default"] [.loc n,.d (.str x),.d (.str d)] (.ret (.d (.str kv.2))) m nx [] [(cx prog w (k+1) m nx).mFn n j (hdC w) (cvA w) [("_headers",.loc l)] "_convert_string_type" X.ln X.i1 X.i2 (by kernel_rfl) (by kernel_rfl),(cx prog w (k+1) m nx).mLower x,(cx prog w (k+1) m nx).cLower x y hy.symm (by omega),.call conv.call,.stm st] (by kernel_rfl) (bindq3 fun S a b c=>by kernel_rfl) rfl (by kernel_rfl)
end
section
variable {prog:Program} {w:World} {k:Nat} {m:Nat->MO} {nx:Nat}
noncomputable abbrev blW (w:World):Stmt:=nthS (ifE (nthS (bd w "bisect_left") 2)) 0
noncomputable abbrev brW (w:World):Stmt:=nthS (ifE (nthS (bd w "bisect_right") 2)) 0
noncomputable def Vb (a key:AV) (x:List Int) (lo hi:Nat):List (Str × AV):=[("a",a),("x",.d (.lst (x.map D.int))),("lo",.d (.int lo)),("hi",.d (.int hi)),("key",key)]
noncomputable def KeyR (prog:Program) (w:World) (k:Nat) (m:Nat->MO) (nx:Nat) (key:AV) (row:List Row) (f:Row->List Int):Prop:=((Ex4 fun ps e sc caps=>key=.fn ps e sc caps)) /\ ∀ y ∈ row,CallTr prog w (KK w) bt k key [.d (rT y)] [] m nx (.d (.lst ((f y).map D.int))) m nx
noncomputable def r0:Row:=([],0)
theorem lt_ll (xs ys:List Int):CmpTr prog w (KK w) bt k .Lt (.d (.lst (xs.map D.int))) (.d (.lst (ys.map D.int))) m nx (ltI xs ys) m nx:=q_ltL rfl trivial rfl trivial
theorem row_get {row:List Row} {i:Nat} (h:i < row.length):(row.map rT)[i]? = some (rT (row.getD i r0)):=by simp [List.getElem?_eq_getElem h]
theorem row_mem {row:List Row} {i:Nat} (h:i < row.length):row.getD i r0 ∈ row:=by rw [List.getD_eq_getElem?_getD,List.getElem?_eq_getElem h]; simp
section
variable {lo hi c N n:Nat}
theorem bs1 (hN:hi - lo<=0) (a:lo<=c) (b:c<=hi):lo=c:=Nat.le_antisymm a (Nat.le_trans b (Nat.le_of_sub_eq_zero (Nat.le_zero.mp hN)))
theorem bs2 (hN:hi - lo<=0) (a:lo<=c) (b:c<=hi):hi=c:=Nat.le_antisymm (Nat.le_trans (Nat.le_of_sub_eq_zero (Nat.le_zero.mp hN)) a) b
theorem bs3 (h:¬ lo < hi) (a:lo<=c) (b:c<=hi):lo=c:=Nat.le_antisymm a (Nat.le_trans b (Nat.le_of_not_lt h))
theorem bs4 (h:¬ lo < hi) (a:lo<=c) (b:c<=hi):hi=c:=Nat.le_antisymm (Nat.le_trans (Nat.le_of_not_lt h) a) b
theorem bs5:((lo:Int)+hi) / 2=((lo+hi) / 2:Nat):=by omega
theorem bs6 (h:lo < hi) (l:hi<=n):(lo+hi) / 2 < n:=by omega
theorem bs7 (h:lo < hi) (hN:hi - lo<=N+1):hi - ((lo+hi) / 2+1)<=N:=by omega
theorem bs8 (h:lo < hi) (hN:hi - lo<=N+1):(lo+hi) / 2 - lo<=N:=by omega
end
theorem bl_loop {a key:AV} {row:List Row} {f:Row->List Int} {x:List Int} (hs:DSrc m nx a (row.map rT)) (hl:isLst a) (K:KeyR prog w k m nx key row f) (hz:row.length<=1000) (c:Nat) (hc:c<=row.length) (h1:∀ i,i < c->ltI (f (row.getD i r0)) x=true) (h2:∀ i,c<=i->i < row.length->ltI (f (row.getD i r0)) x=false) :
  ∀ (N lo hi:Nat),hi - lo<=N->lo<=c->c<=hi->hi<=row.length->WhTr prog w (KK w) bt k (ph w "bisect_left") (whTest (blW w)) (forBody (blW w)) N ⟨Vb a key x lo hi,[],m,nx⟩ .next ⟨Vb a key x c c,[],m,nx⟩:=by
 obtain ⟨⟨ps,e,sc,caps,rfl⟩,K⟩:=K
 intro N
 induction N with
 | zero=>
  intro lo hi hN hlo hhi hle
  rw [bs1 hN hlo hhi,bs2 hN hlo hhi]
  exact .done (TTr.runE 20 [.brF ((c:Int) < (c:Int)) (Int.lt_irrefl _)] (by kernel_rfl))
 | succ N ih=>
  intro lo hi hN hlo hhi hle
  by_cases hlt:lo < hi
  ·have test:TTr prog w (KK w) bt k (ph w "bisect_left") (whTest (blW w)) ⟨Vb a (.fn ps e sc caps) x lo hi,[],m,nx⟩ true ⟨Vb a (.fn ps e sc caps) x lo hi,[],m,nx⟩:=TTr.runE 20 [.brT ((lo:Int) < (hi:Int)) (by omega)] (by kernel_rfl)
   obtain ⟨mid,hmid⟩ : ∃ y,y=(lo+hi) / 2:=⟨_,rfl⟩
   have hm:mid < row.length:=hmid ▸ bs6 hlt hle
   have em:((lo:Int)+hi) / 2=(mid:Int):=hmid ▸ bs5
   have kc:=K _ (row_mem hm)
   by_cases hp:ltI (f (row.getD mid r0)) x=true
   ·have hmc:mid < c:=by
     rcases Nat.lt_or_ge mid c with h | h
     ·exact h
     ·exact absurd hp (by rw [h2 mid h hm]; exact Bool.false_ne_true)
    have b:BTr prog w (KK w) bt k (ph w "bisect_left") (forBody (blW w)) ⟨Vb a (.fn ps e sc caps) x lo hi,[],m,nx⟩ .next ⟨Vb a (.fn ps e sc caps) x (mid+1) hi,[],m,nx⟩:=by
     subst hmid
     exact BTr.runS 40 [.obl (show (0:Int) < 2 /\ (2:Int) < 1073741824 by decide),(cx prog w k m nx).itemL a (row.map rT) (((lo:Int)+hi) / 2) ((lo+hi) / 2) (rT (row.getD ((lo+hi) / 2) r0)) em hs hl (row_get hm) (lc1 hm hz (by decide)),.call kc,.cmp (lt_ll (prog:=prog) (w:=w) (k:=k) (m:=m) (nx:=nx) (f (row.getD ((lo+hi) / 2) r0)) x),.br (ltI (f (row.getD ((lo+hi) / 2) r0)) x) true hp] (by kernel_rfl)
    exact .step test b (.inl rfl) (ih (mid+1) hi (hmid ▸ bs7 hlt hN) hmc hhi hle)
   ·have hmc:c<=mid:=by
     rcases Nat.lt_or_ge mid c with h | h
     ·exact absurd (h1 mid h) hp
     ·exact h
    have b:BTr prog w (KK w) bt k (ph w "bisect_left") (forBody (blW w)) ⟨Vb a (.fn ps e sc caps) x lo hi,[],m,nx⟩ .next ⟨Vb a (.fn ps e sc caps) x lo mid,[],m,nx⟩:=by
     subst hmid
     exact BTr.runS 40 [.obl (show (0:Int) < 2 /\ (2:Int) < 1073741824 by decide),(cx prog w k m nx).itemL a (row.map rT) (((lo:Int)+hi) / 2) ((lo+hi) / 2) (rT (row.getD ((lo+hi) / 2) r0)) em hs hl (row_get hm) (lc1 hm hz (by decide)),.call kc,.cmp (lt_ll (prog:=prog) (w:=w) (k:=k) (m:=m) (nx:=nx) (f (row.getD ((lo+hi) / 2) r0)) x),.br (ltI (f (row.getD ((lo+hi) / 2) r0)) x) false (Bool.eq_false_iff.mpr hp)] (by kernel_rfl)
    exact .step test b (.inl rfl) (ih lo mid (hmid ▸ bs8 hlt hN) hlo hmc (Nat.le_of_lt hm))
  ·rw [bs3 hlt hlo hhi,bs4 hlt hlo hhi]
   exact .done (TTr.runE 20 [.brF ((c:Int) < (c:Int)) (Int.lt_irrefl _)] (by kernel_rfl))
theorem br_loop {a key:AV} {row:List Row} {f:Row->List Int} {x:List Int} (hs:DSrc m nx a (row.map rT)) (hl:isLst a) (K:KeyR prog w k m nx key row f) (hz:row.length<=1000) (c:Nat) (hc:c<=row.length) (h1:∀ i,i < c->ltI x (f (row.getD i r0))=false) (h2:∀ i,c<=i->i < row.length->ltI x (f (row.getD i r0))=true) :
  ∀ (N lo hi:Nat),hi - lo<=N->lo<=c->c<=hi->hi<=row.length->WhTr prog w (KK w) bt k (ph w "bisect_right") (whTest (brW w)) (forBody (brW w)) N ⟨Vb a key x lo hi,[],m,nx⟩ .next ⟨Vb a key x c c,[],m,nx⟩:=by
 obtain ⟨⟨ps,e,sc,caps,rfl⟩,K⟩:=K
 intro N
 induction N with
 | zero=>
  intro lo hi hN hlo hhi hle
  rw [bs1 hN hlo hhi,bs2 hN hlo hhi]
  exact .done (TTr.runE 20 [.brF ((c:Int) < (c:Int)) (Int.lt_irrefl _)] (by kernel_rfl))
 | succ N ih=>
  intro lo hi hN hlo hhi hle
  by_cases hlt:lo < hi
  ·have test:TTr prog w (KK w) bt k (ph w "bisect_right") (whTest (brW w)) ⟨Vb a (.fn ps e sc caps) x lo hi,[],m,nx⟩ true ⟨Vb a (.fn ps e sc caps) x lo hi,[],m,nx⟩:=TTr.runE 20 [.brT ((lo:Int) < (hi:Int)) (by omega)] (by kernel_rfl)
   obtain ⟨mid,hmid⟩ : ∃ y,y=(lo+hi) / 2:=⟨_,rfl⟩
   have hm:mid < row.length:=hmid ▸ bs6 hlt hle
   have em:((lo:Int)+hi) / 2=(mid:Int):=hmid ▸ bs5
   have kc:=K _ (row_mem hm)
   by_cases hp:ltI x (f (row.getD mid r0))=true
   ·have hmc:c<=mid:=by
     rcases Nat.lt_or_ge mid c with h | h
     ·exact absurd hp (by rw [h1 mid h]; exact Bool.false_ne_true)
     ·exact h
    have b:BTr prog w (KK w) bt k (ph w "bisect_right") (forBody (brW w)) ⟨Vb a (.fn ps e sc caps) x lo hi,[],m,nx⟩ .next ⟨Vb a (.fn ps e sc caps) x lo mid,[],m,nx⟩:=by
     subst hmid
     exact BTr.runS 40 [.obl (show (0:Int) < 2 /\ (2:Int) < 1073741824 by decide),(cx prog w k m nx).itemL a (row.map rT) (((lo:Int)+hi) / 2) ((lo+hi) / 2) (rT (row.getD ((lo+hi) / 2) r0)) em hs hl (row_get hm) (lc1 hm hz (by decide)),.call kc,.cmp (lt_ll (prog:=prog) (w:=w) (k:=k) (m:=m) (nx:=nx) x (f (row.getD ((lo+hi) / 2) r0))),.br (ltI x (f (row.getD ((lo+hi) / 2) r0))) true hp] (by kernel_rfl)
    exact .step test b (.inl rfl) (ih lo mid (hmid ▸ bs8 hlt hN) hlo hmc (Nat.le_of_lt hm))
   ·have hmc:mid < c:=by
     rcases Nat.lt_or_ge mid c with h | h
     ·exact h
     ·exact absurd (h2 mid h hm) hp
    have b:BTr prog w (KK w) bt k (ph w "bisect_right") (forBody (brW w)) ⟨Vb a (.fn ps e sc caps) x lo hi,[],m,nx⟩ .next ⟨Vb a (.fn ps e sc caps) x (mid+1) hi,[],m,nx⟩:=by
     subst hmid
     exact BTr.runS 40 [.obl (show (0:Int) < 2 /\ (2:Int) < 1073741824 by decide),(cx prog w k m nx).itemL a (row.map rT) (((lo:Int)+hi) / 2) ((lo+hi) / 2) (rT (row.getD ((lo+hi) / 2) r0)) em hs hl (row_get hm) (lc1 hm hz (by decide)),.call kc,.cmp (lt_ll (prog:=prog) (w:=w) (k:=k) (m:=m) (nx:=nx) x (f (row.getD ((lo+hi) / 2) r0))),.br (ltI x (f (row.getD ((lo+hi) / 2) r0))) false (Bool.eq_false_iff.mpr hp)] (by kernel_rfl)
    exact .step test b (.inl rfl) (ih (mid+1) hi (hmid ▸ bs7 hlt hN) hmc hhi hle)
  ·rw [bs3 hlt hlo hhi,bs4 hlt hlo hhi]
   exact .done (TTr.runE 20 [.brF ((c:Int) < (c:Int)) (Int.lt_irrefl _)] (by kernel_rfl))
theorem bl_tr {a key:AV} {row:List Row} {f:Row->List Int} {x:List Int} (hs:DSrc m nx a (row.map rT)) (hl:isLst a) (K:KeyR prog w k m nx key row f) (hz:row.length<=1000) (c:Nat) (hc:c<=row.length) (h1:∀ i,i < c->ltI (f (row.getD i r0)) x=true) (h2:∀ i,c<=i->i < row.length->ltI (f (row.getD i r0)) x=false) :
  CodeTr prog w (KK w) bt (k+1) (fn w "bisect_left") [a,.d (.lst (x.map D.int))] [("key",key)] m nx (.d (.int c)) m nx:=by
 have st:=STr.while_ (c:=blW w) (by kernel_rfl) (bl_loop hs hl K hz c hc h1 h2 row.length 0 row.length (by omega) (Nat.zero_le _) hc (Nat.le_refl _))
 obtain ⟨⟨ps,e,sc,caps,rfl⟩,K⟩:=K
 have hlen:(row.map rT).length=row.length:=List.length_map _
 have ln:=c_len (prog:=prog) (w:=w) (K:=KK w) (btab:=bt) (k:=k) hs hl (by rw [hlen]; omega)
 rw [hlen] at ln
 exact codeD [("a",a),("x",.d (.lst (x.map D.int))),("lo",.d (.int 0)),("hi",.d .none),("key",.fn ps e sc caps)] (.ret (.d (.int c))) m nx [] [.brF ((0:Int) < 0) (by decide),(cx prog w k m nx).isNone (.d .none) true rfl,.br true true rfl,.call ln,
  (cx prog w k m nx).isNone (.fn ps e sc caps) false rfl,.br false false rfl,.stm st] (by kernel_rfl) (bindqk fun S a b c=>by kernel_rfl) (by kernel_rfl) (by kernel_rfl) (by kernel_rfl) (by kernel_rfl)
theorem br_tr {a key:AV} {row:List Row} {f:Row->List Int} {x:List Int} (hs:DSrc m nx a (row.map rT)) (hl:isLst a) (K:KeyR prog w k m nx key row f) (hz:row.length<=1000) (c:Nat) (hc:c<=row.length) (h1:∀ i,i < c->ltI x (f (row.getD i r0))=false) (h2:∀ i,c<=i->i < row.length->ltI x (f (row.getD i r0))=true) :
  CodeTr prog w (KK w) bt (k+1) (fn w "bisect_right") [a,.d (.lst (x.map D.int))] [("key",key)] m nx (.d (.int c)) m nx:=by
 have st:=STr.while_ (c:=brW w) (by kernel_rfl) (br_loop hs hl K hz c hc h1 h2 row.length 0 row.length (by omega) (Nat.zero_le _) hc (Nat.le_refl _))
 obtain ⟨⟨ps,e,sc,caps,rfl⟩,K⟩:=K
 have hlen:(row.map rT).length=row.length:=List.length_map _
 have ln:=c_len (prog:=prog) (w:=w) (K:=KK w) (btab:=bt) (k:=k) hs hl (by rw [hlen]; omega)
 rw [hlen] at ln
 exact codeD [("a",a),("x",.d (.lst (x.map D.int))),("lo",.d (.int 0)),("hi",.d .none),("key",.fn ps e sc caps)] (.ret (.d (.int c))) m nx [] [.brF ((0:Int) < 0) (by decide),(cx prog w k m nx).isNone (.d .none) true rfl,.br true true rfl,.call ln,
  (cx prog w k m nx).isNone (.fn ps e sc caps) false rfl,.br false false rfl,.stm st] (by kernel_rfl) (bindqk fun S a b c=>by kernel_rfl) (by kernel_rfl) (by kernel_rfl) (by kernel_rfl) (by kernel_rfl)
theorem br4_tr {a key:AV} {row:List Row} {f:Row->List Int} {x:List Int} (hs:DSrc m nx a (row.map rT)) (hl:isLst a) (K:KeyR prog w k m nx key row f) (hz:row.length<=1000) (c:Nat) (hc:c<=row.length) (h1:∀ i,i < c->ltI x (f (row.getD i r0))=false) (h2:∀ i,c<=i->i < row.length->ltI x (f (row.getD i r0))=true) :
  CodeTr prog w (KK w) bt (k+1) (fn w "bisect_right") [a,.d (.lst (x.map D.int)),.d (.int 0),.d .none] [("key",key)] m nx (.d (.int c)) m nx:=by
 have st:=STr.while_ (c:=brW w) (by kernel_rfl) (br_loop hs hl K hz c hc h1 h2 row.length 0 row.length (by omega) (Nat.zero_le _) hc (Nat.le_refl _))
 obtain ⟨⟨ps,e,sc,caps,rfl⟩,K⟩:=K
 have hlen:(row.map rT).length=row.length:=List.length_map _
 have ln:=c_len (prog:=prog) (w:=w) (K:=KK w) (btab:=bt) (k:=k) hs hl (by rw [hlen]; omega)
 rw [hlen] at ln
 exact codeD [("a",a),("x",.d (.lst (x.map D.int))),("lo",.d (.int 0)),("hi",.d .none),("key",.fn ps e sc caps)] (.ret (.d (.int c))) m nx [] [.brF ((0:Int) < 0) (by decide),(cx prog w k m nx).isNone (.d .none) true rfl,.br true true rfl,.call ln,
  (cx prog w k m nx).isNone (.fn ps e sc caps) false rfl,.br false false rfl,.stm st] (by kernel_rfl) (bindq4k fun S a b c d e=>by kernel_rfl) (by kernel_rfl) (by kernel_rfl) (by kernel_rfl) (by kernel_rfl)
theorem ir_tr {r:Nat} {key:AV} {row:List Row} {f:Row->List Int} {y:Row} (hr:r < nx) (hm:m r=.list (row.map rT)) (K:KeyR prog w k m nx key row f) (K1:CallTr prog w (KK w) bt (k+1) key [.d (rT y)] [] m nx (.d (.lst ((f y).map D.int))) m nx) (hz:row.length<=1000) (c:Nat) (hc:c<=row.length) (h1:∀ i,i < c->ltI (f y) (f (row.getD i r0))=false) (h2:∀ i,c<=i->i < row.length->ltI (f y) (f (row.getD i r0))=true) :
  CodeTr prog w (KK w) bt (k+2) (fn w "insort_right") [.loc r,.d (rT y)] [("key",key)] m nx (.d .none) (upd m r (.list ((row.take c ++ y :: row.drop c).map rT))) nx:=by
 have br:=br4_tr (prog:=prog) (w:=w) (k:=k) (a:=.loc r) (x:=f y) ⟨hr,hm⟩ trivial K hz c hc h1 h2
 obtain ⟨⟨ps,e,sc,caps,rfl⟩,K⟩:=K
 have es:row.map rT=(row.take c).map rT ++ (row.drop c).map rT:=by rw [<- List.map_append,List.take_append_drop]
 have el:((row.take c).map rT).length=c:=by rw [List.length_map,List.length_take]; exact Nat.min_eq_left hc
 have em:upd m r (.list ((row.take c).map rT ++ rT y :: (row.drop c).map rT))=upd m r (.list ((row.take c ++ y :: row.drop c).map rT)):=by rw [List.map_append,List.map_cons]
 exact codeD [("a",.loc r),("x",.d (rT y)),("lo",.d (.int 0)),("hi",.d .none),("key",.fn ps e sc caps)] .next (upd m r (.list ((row.take c ++ y :: row.drop c).map rT))) nx [] [(cx prog w (k+1) m nx).isNone (.fn ps e sc caps) false rfl,.br false false rfl,.call K1,.call br.call,
  (cx prog w (k+1) m nx).mInsert (.loc r) (row.map rT) ⟨hr,hm⟩ trivial,(cx prog w (k+1) m nx).cInsert r c ((row.take c).map rT) ((row.drop c).map rT) (rT y) (by rw [el]) hr (by rw [<- es]; exact hm) (by rw [el,List.length_map,List.length_drop]; omega) _ em] (by kernel_rfl) (bindqk fun S a b c=>by kernel_rfl) (by kernel_rfl) (by kernel_rfl) (by kernel_rfl) (by kernel_rfl)
theorem ltI_eq {a:Int} {r s:List Int}:ltI (a :: r) (a :: s)=ltI r s:=if_pos rfl
theorem ltI_ne {a b:Int} {r s:List Int} (h:a ≠ b):ltI (a :: r) (b :: s)=decide (a < b):=if_neg h
theorem ltI_irr:∀ a:List Int,ltI a a=false
 | []=>rfl
 | a :: r=>ltI_eq.trans (ltI_irr r)
theorem ltI_tri:∀ {a b:List Int},ltI a b=false->ltI b a=false->a=b
 | [],[],_,_=>rfl
 | [],_ :: _,h,_=>tf h
 | _ :: _,[],_,h=>tf h
 | a :: r,b :: s,h,g=>by
  by_cases e:a=b
  ·subst e
   rw [ltI_eq] at h g
   rw [ltI_tri h g]
  ·rw [ltI_ne e] at h
   rw [ltI_ne (Ne.symm e)] at g
   have h:=of_decide_eq_false h
   have g:=of_decide_eq_false g
   omega
theorem lt_le:∀ {a b c:List Int},ltI a b=true->ltI c b=false->ltI a c=true
 | [],[],_,h,_=>ft h
 | _ :: _,[],_,h,_=>ft h
 | [],_ :: _,[],_,g=>tf g
 | [],_ :: _,_ :: _,_,_=>rfl
 | _ :: _,_ :: _,[],_,g=>tf g
 | a :: r,b :: s,c :: t,h,g=>by
  by_cases e:c=b
  ·subst e
   rw [ltI_eq] at g
   by_cases e1:a=c
   ·subst e1
    rw [ltI_eq] at h ⊢
    exact lt_le h g
   ·rw [ltI_ne e1] at h ⊢
    exact h
  ·rw [ltI_ne e] at g
   have g:=of_decide_eq_false g
   by_cases e1:a=b
   ·subst e1
    rw [ltI_ne (Ne.symm e)]
    exact decide_eq_true (by omega)
   ·rw [ltI_ne e1] at h
    have h:=of_decide_eq_true h
    rw [ltI_ne (by omega)]
    exact decide_eq_true (by omega)
theorem lt_asym:∀ {a b:List Int},ltI a b=true->ltI b a=false
 | [],[],_=>rfl
 | [],_ :: _,_=>rfl
 | _ :: _,[],h=>ft h
 | a :: r,b :: s,h=>by
  by_cases e:a=b
  ·subst e
   rw [ltI_eq] at h ⊢
   exact lt_asym h
  ·rw [ltI_ne e] at h
   rw [ltI_ne (Ne.symm e)]
   exact decide_eq_false fun g=>absurd (of_decide_eq_true h) (by omega)
theorem lt_trans' {a b c:List Int} (h:ltI a b=true) (g:ltI b c=true):ltI a c=true:=lt_le (b:=b) h (lt_asym g)
theorem take_mono:∀ (n:Nat) {a b:List Int},ltI (a.take n) (b.take n)=true->ltI a b=true
 | 0,a,b,h=>by rw [List.take_zero,List.take_zero] at h; exact ft h
 | _+1,[],[],h=>h
 | _+1,[],_ :: _,_=>rfl
 | _+1,_ :: _,[],h=>ft h
 | n+1,a :: r,b :: s,h=>by
  rw [List.take_succ_cons,List.take_succ_cons] at h
  by_cases e:a=b
  ·subst e
   rw [ltI_eq] at h ⊢
   exact take_mono n h
  ·rw [ltI_ne e] at h ⊢
   exact h
theorem count_split {α:Type} {p:α->Bool}:∀ (l:List α),l.Pairwise (fun a b=>p b=true->p a=true)->l.take (l.countP p)=l.filter p /\ l.drop (l.countP p)=l.filter fun a=>!p a
 | [],_=>⟨rfl,rfl⟩
 | a :: r,h=>by
  rw [List.pairwise_cons] at h
  obtain ⟨i1,i2⟩:=count_split r h.2
  cases q:p a with
  | true=>
   rw [List.countP_cons_of_pos q,List.filter_cons_of_pos q,List.filter_cons_of_neg (by rw [q]; exact Bool.false_ne_true)]
   exact ⟨congrArg (a :: ·) i1,i2⟩
  | false=>
   have hz:∀ b ∈ r,p b=false:=fun b hb=>by
    cases z:p b with
    | false=>rfl
    | true=>exact tf ((h.1 b hb z).symm.trans q)
   have c0:r.countP p=0:=List.countP_eq_zero.mpr fun b hb=>by rw [hz b hb]; exact Bool.false_ne_true
   have f0:r.filter p = []:=List.filter_eq_nil_iff.mpr fun b hb=>by rw [hz b hb]; exact Bool.false_ne_true
   have f1:(r.filter fun a=>!p a)=r:=List.filter_eq_self.mpr fun b hb=>by rw [hz b hb]; rfl
   rw [List.countP_cons_of_neg (by rw [q]; exact Bool.false_ne_true),List.filter_cons_of_neg (by rw [q]; exact Bool.false_ne_true),List.filter_cons_of_pos (by rw [q]; rfl),c0,f0,f1]
   exact ⟨rfl,rfl⟩
theorem count_cut {α:Type} {p:α->Bool} {d:α} (l:List α) (h:l.Pairwise (fun a b=>p b=true->p a=true)):(∀ i,i < l.countP p->p (l.getD i d)=true) /\ (∀ i,l.countP p<=i->i < l.length->p (l.getD i d)=false):=by
 obtain ⟨s1,s2⟩:=count_split l h
 refine ⟨fun i hi=>?_,fun i hi hl=>?_⟩
 ·have hl:i < l.length:=Nat.lt_of_lt_of_le hi List.countP_le_length
  have hm:l.getD i d ∈ l.take (l.countP p):=by
   rw [List.getD_eq_getElem?_getD,List.getElem?_eq_getElem hl]
   exact List.mem_take_iff_getElem.mpr ⟨i,Nat.lt_min.mpr ⟨hi,hl⟩,rfl⟩
  rw [s1] at hm
  exact (List.mem_filter.mp hm).2
 ·have hm:l.getD i d ∈ l.drop (l.countP p):=by
   rw [List.getD_eq_getElem?_getD,List.getElem?_eq_getElem hl]
   exact List.mem_drop_iff_getElem.mpr ⟨i - l.countP p,by rw [Nat.sub_add_cancel hi]; exact hl,by simp [Nat.add_sub_cancel' hi]⟩
  rw [s2] at hm
  exact not_t (List.mem_filter.mp hm).2
theorem le_lt {a b c:List Int} (h:ltI c a=false) (g:ltI c b=true):ltI a b=true:=by
 cases q:ltI a c with
 | true=>exact lt_trans' q g
 | false=>rw [ltI_tri q h]; exact g
noncomputable def Srt (rows:List Row):Prop:=rows.Pairwise fun a b=>ltI b.1 a.1=false
theorem take_le {n:Nat} {a b:List Int} (h:ltI b a=false):ltI (b.take n) (a.take n)=false:=by
 cases q:ltI (b.take n) (a.take n) with
 | false=>rfl
 | true=>exact tf ((take_mono n q).symm.trans h)
noncomputable def pL (n:Nat) (b:List Int) (r:Row):Bool:=ltI (r.1.take n) b
noncomputable def pH (n:Nat) (b:List Int) (r:Row):Bool:=!ltI b (r.1.take n)
theorem srt_L {rows:List Row} (h:Srt rows) (n:Nat) (b:List Int):rows.Pairwise fun x y=>pL n b y=true->pL n b x=true:=h.imp fun h g=>le_lt (take_le h) g
theorem srt_H {rows:List Row} (h:Srt rows) (n:Nat) (b:List Int):rows.Pairwise fun x y=>pH n b y=true->pH n b x=true:=h.imp fun {x y} h g=>by
 unfold pH at g ⊢
 cases q:ltI b (x.1.take n) with
 | false=>rfl
 | true=>rw [lt_le q (take_le h)] at g; exact ft g
noncomputable def foundF (rows:List Row) (b:List Int) (n:Nat):List Row:=rows.filter fun r=>decide (r.1.take n=b)
theorem pL_H {n:Nat} {b:List Int} {r:Row} (h:pL n b r=true):pH n b r=true:=by unfold pH; rw [lt_asym h]; rfl
theorem found_eq {rows:List Row} (h:Srt rows) (b:List Int) (n:Nat):(rows.drop (rows.countP (pL n b))).take (rows.countP (pH n b) - rows.countP (pL n b))=foundF rows b n:=by
 rw [(count_split rows (srt_L h n b)).2]
 have hc:rows.countP (pH n b)=rows.countP (pL n b)+(rows.filter fun r=>!pL n b r).countP (pH n b):=by
  rw [List.countP_eq_countP_filter_add rows (pH n b) (pL n b),List.countP_filter,List.countP_filter]
  refine congrArg (· + _) (List.countP_congr fun r _=>?_)
  constructor
  ·intro h; exact (and_t h).2
  ·intro h; rw [pL_H h,h]; rfl
 rw [hc,Nat.add_sub_cancel_left,(count_split _ ((srt_H h n b).filter _)).1,List.filter_filter]
 refine List.filter_congr fun r _=>?_
 unfold pH pL
 by_cases e:r.1.take n=b
 ·rw [decide_eq_true e,e,ltI_irr]; rfl
 ·rw [decide_eq_false e]
  cases q:ltI b (r.1.take n) with
  | true=>rfl
  | false=>cases z:ltI (r.1.take n) b with
   | true=>rfl
   | false=>exact absurd (ltI_tri z q) e
theorem pick_take (ds:List D) (n:Nat):pickD ds none (some (n:Int))=ds.take n:=by
 by_cases h:n<=ds.length
 ·exact pick_j ds n h
 ·have h:=Nat.lt_of_not_le h
  rw [pick_of ds none (some n) 0 ds.length (by unfold sliceBounds; simp; omega),List.drop_zero,Nat.sub_zero,List.take_length,List.take_of_length_le (Nat.le_of_lt h)]
set_option backward.match.sparseCases false in
noncomputable def kwE:Stmt->PySem.Expr
 | .Expr e _=>e
 | .Assign _ e _=>e
 | _=>.Constant .none 0 default
noncomputable abbrev fdF (w:World):Fm:=ph w "_law_found"
@[irreducible] noncomputable def keyE (w:World) (i:Nat):PySem.Expr:=kwV 0 (kwE (nthS (bd w "_law_found") i))
noncomputable abbrev keyAV (w:World) (i n:Nat):AV:=.fn (lamPs (keyE w i)) (lamB (keyE w i)) (lamS (keyE w i)) [("size",.d (.int n))]
theorem lamBind_key0:LamBind (lamPs (keyE w 0)) "row" := by
 intro fd v h1 h2 h3
 obtain ⟨a1,a2,a3,a4,a5,a6,a7,a8,a9⟩:=fd
 subst h1 h2 h3
 kernel_rfl
theorem lamBind_key1:LamBind (lamPs (keyE w 1)) "row" := by
 intro fd v h1 h2 h3
 obtain ⟨a1,a2,a3,a4,a5,a6,a7,a8,a9⟩:=fd
 subst h1 h2 h3
 kernel_rfl
theorem key_call (n:Nat) (y:Row) (hy:y.1.length<=1000) (i:Nat) (hi:i=0 \/ i=1):CallTr prog w (KK w) bt (k+1) (keyAV w i n) [.d (rT y)] [] m nx (.d (.lst ((y.1.take n).map D.int))) m nx:=by
 have e:(y.1.take n).map D.int=pickD (y.1.map D.int) none (some (n:Int)):=by rw [pick_take,List.map_take]
 have hz:(y.1.map D.int).length<=100000:=by rw [List.length_map]; omega
 unfold rT
 rw [e]
 generalize y.1.map D.int=ds at hz ⊢
 rcases hi with rfl | rfl
 ·exact CodeTr.call (code_lam (st':=⟨[("row",.d (.tup [.lst ds,.int y.2]))],[],m,nx⟩) lamBind_key0 (by kernel_rfl) (ETr.runE 20 [(cx prog w k m nx).itemT [.lst ds,.int y.2] 0 0 (.lst ds) rfl rfl (by decide),(cx prog w k m nx).slc (.d (.lst ds)) (.d .none) (.d (.int n)) ds none (some n) rfl trivial rfl rfl hz] (by kernel_rfl)))
 ·exact CodeTr.call (code_lam (st':=⟨[("row",.d (.tup [.lst ds,.int y.2]))],[],m,nx⟩) lamBind_key1 (by kernel_rfl) (ETr.runE 20 [(cx prog w k m nx).itemT [.lst ds,.int y.2] 0 0 (.lst ds) rfl rfl (by decide),(cx prog w k m nx).slc (.d (.lst ds)) (.d .none) (.d (.int n)) ds none (some n) rfl trivial rfl rfl hz] (by kernel_rfl)))
theorem key_ok (n:Nat) {rows:List Row} (hr:∀ r ∈ rows,r.1.length<=1000) (i:Nat) (hi:i=0 \/ i=1):KeyR prog w (k+1) m nx (keyAV w i n) rows fun r=>r.1.take n:=
 ⟨⟨_,_,_,_,rfl⟩,fun y hy=>key_call n y (hr y hy) i hi⟩
theorem found_tr {rows:List Row} (b:List Int) (n:Nat) (h:Srt rows) (hr:∀ r ∈ rows,r.1.length<=1000) (hz:rows.length<=1000) {j:Nat} {cA:Addr} (hj:j < nx) (hm:m j=.tab cA) (hc:(fdF w).code=some cA) :
  CallTr prog w (KK w) bt (k+3) (fn w "_law_found") [.d (.lst (rows.map rT)),.d (.lst (b.map D.int)),.d (.int n)] [] m nx (.d (.lst ((foundF rows b n).map rT))) m nx:=by
 have e:=found_eq h b n
 have cl:=count_cut (d:=r0) rows (srt_L h n b)
 have ch:=count_cut (d:=r0) rows (srt_H h n b)
 have lL:rows.countP (pL n b)<=rows.length:=List.countP_le_length
 have lH:rows.countP (pH n b)<=rows.length:=List.countP_le_length
 have bl:=bl_tr (prog:=prog) (w:=w) (k:=k+1) (m:=m) (nx:=nx) (a:=.d (.lst (rows.map rT))) (x:=b) rfl trivial (key_ok n hr 0 (.inl rfl)) hz _ lL cl.1 cl.2
 have br:=br_tr (prog:=prog) (w:=w) (k:=k+1) (m:=m) (nx:=nx) (a:=.d (.lst (rows.map rT))) (x:=b) rfl trivial (key_ok n hr 1 (.inr rfl)) hz _ lH (fun i hi=>not_t (ch.1 i hi)) fun i hi hl=>by
  have:=ch.2 i hi hl
  unfold pH at this
  cases q:ltI b ((rows.getD i r0).1.take n) with
  | true=>rfl
  | false=>rw [q] at this; exact tf this
 generalize rows.countP (pL n b)=c1 at e bl lL
 generalize rows.countP (pH n b)=c2 at e br lH
 have e2:(foundF rows b n).map rT=pickD (rows.map rT) (some c1) (some c2):=by
  rw [pick_ij _ _ _ (by rw [List.length_map]; exact lL) (by rw [List.length_map]; exact lH),<- e,List.map_take,List.map_drop]
 have hz2:(rows.map rT).length<=100000:=by rw [List.length_map]; omega
 rw [e2]
 generalize rows.map rT=R at bl br hz2 ⊢
 generalize b.map D.int=B at bl br ⊢
 have lam0:ETr prog w (KK w) bt (k+2) (fdF w) (keyE w 0) ⟨([("rows",.d (.lst R)),("begin",.d (.lst B)),("size",.d (.int n))]:List (Str × AV)),[],m,nx⟩ (keyAV w 0 n) ⟨([("rows",.d (.lst R)),("begin",.d (.lst B)),("size",.d (.int n))]:List (Str × AV)),["size"],m,nx⟩:=
  ETr.lamE (by kernel_rfl) (by kernel_rfl) hc hj hm (by kernel_rfl) (by kernel_rfl) _ (by kernel_rfl)
 have lam1:ETr prog w (KK w) bt (k+2) (fdF w) (keyE w 1) ⟨([("rows",.d (.lst R)),("begin",.d (.lst B)),("size",.d (.int n)),("low",.d (.int c1))]:List (Str × AV)),["size"],m,nx⟩ (keyAV w 1 n) ⟨([("rows",.d (.lst R)),("begin",.d (.lst B)),("size",.d (.int n)),("low",.d (.int c1))]:List (Str × AV)),["size", "size"],m,nx⟩:=
  ETr.lamE (by kernel_rfl) (by kernel_rfl) hc hj hm (by kernel_rfl) (by kernel_rfl) _ (by kernel_rfl)
 exact (codeA (fa w "_law_found") ["rows", "begin", "size"] [.d (.lst R),.d (.lst B),.d (.int n)] (.ret (.d (.lst (pickD R (some c1) (some c2))))) m nx ["size", "size"] [.lam lam0,.call bl.call,.lam lam1,.call br.call,
  (cx prog w (k+2) m nx).slc (.d (.lst R)) (.d (.int c1)) (.d (.int c2)) R (some c1) (some c2) rfl trivial rfl rfl hz2] (by kernel_rfl) (bindq3 fun S a b c=>by kernel_rfl) rfl (by kernel_rfl)).call
end
noncomputable def pI (y:List Int) (r:Row):Bool:=!ltI y r.1
noncomputable def insR (s:List Row) (y:Row):List Row:=s.take (s.countP (pI y.1)) ++ y :: s.drop (s.countP (pI y.1))
theorem srt_I {s:List Row} (h:Srt s) (y:List Int):s.Pairwise fun a b=>pI y b=true->pI y a=true:=h.imp fun {a b} h g=>by
 unfold pI at g ⊢
 cases q:ltI y a.1 with
 | false=>rfl
 | true=>rw [lt_le q h] at g; exact ft g
theorem insR_srt {s:List Row} (h:Srt s) (y:Row):Srt (insR s y):=by
 obtain ⟨s1,s2⟩:=count_split s (srt_I h y.1)
 unfold insR Srt
 rw [List.pairwise_append,List.pairwise_cons]
 refine ⟨h.sublist (List.take_sublist _ _),⟨fun b hb=>?_,h.sublist (List.drop_sublist _ _)⟩,fun a ha b hb=>?_⟩
 ·rw [s2] at hb
  have:=not_t (List.mem_filter.mp hb).2
  unfold pI at this
  cases q:ltI y.1 b.1 with
  | true=>exact lt_asym q
  | false=>rw [q] at this; exact tf this
 ·have ha':=ha
  rw [s1] at ha'
  have hp:=not_t (List.mem_filter.mp ha').2
  rcases List.mem_cons.mp hb with rfl | hb
  ·exact hp
  ·have hp2:=hb
   rw [s2] at hp2
   have:=not_t (List.mem_filter.mp hp2).2
   unfold pI at this
   cases q:ltI y.1 b.1 with
   | false=>rw [q] at this; exact tf this
   | true=>
    cases z:ltI b.1 a.1 with
    | false=>rfl
    | true=>exact tf ((lt_trans' q z).symm.trans hp)
theorem insR_len (s:List Row) (y:Row):(insR s y).length=s.length+1:=by
 unfold insR
 rw [List.length_append,List.length_cons,<- Nat.add_assoc,<- List.length_append,List.take_append_drop]
theorem insR_mem {s:List Row} {y r:Row} (h:r ∈ insR s y):r=y \/ r ∈ s:=by
 unfold insR at h
 rcases List.mem_append.mp h with h | h
 ·exact .inr (List.mem_of_mem_take h)
 ·exact (List.mem_cons.mp h).imp id List.mem_of_mem_drop
noncomputable def tokV (x:Str):Int:=(tokTab.lookup x).getD 0
section
variable {prog:Program} {w:World} {k:Nat} {m:Nat->MO} {nx:Nat} {n j l:Nat}
noncomputable abbrev ioF (w:World):Fm:=ph w "_law_in_order"
noncomputable abbrev ioL (w:World):Stmt:=nthS (bd w "_law_in_order") 1
@[irreducible] noncomputable def keyI (w:World):PySem.Expr:=kwV 0 (kwE (nthS (forBody (ioL w)) 1))
noncomputable abbrev keyIV (w:World):AV:=.fn (lamPs (keyI w)) (lamB (keyI w)) (lamS (keyI w)) []
theorem lamBind_keyI:LamBind (lamPs (keyI w)) "row" := by
 intro fd v h1 h2 h3
 obtain ⟨a1,a2,a3,a4,a5,a6,a7,a8,a9⟩:=fd
 subst h1 h2 h3
 kernel_rfl
theorem keyI_call (y:Row):CallTr prog w (KK w) bt (k+1) (keyIV w) [.d (rT y)] [] m nx (.d (.lst (y.1.map D.int))) m nx:=by
 unfold rT
 generalize y.1.map D.int=ds
 exact CodeTr.call (code_lam (st':=⟨[("row",.d (.tup [.lst ds,.int y.2]))],[],m,nx⟩) lamBind_keyI (by kernel_rfl) (ETr.runE 20 [(cx prog w k m nx).itemT [.lst ds,.int y.2] 0 0 (.lst ds) rfl rfl (by decide)] (by kernel_rfl)))
theorem insort_tr {s:List Row} (hs:Srt s) (y:Row) {r:Nat} (hr:r < nx) (hm:m r=.list (s.map rT)) (hz:s.length<=1000) :
  CallTr prog w (KK w) bt (k+3) (fn w "insort_right") [.loc r,.d (rT y)] [("key",keyIV w)] m nx (.d .none) (upd m r (.list ((insR s y).map rT))) nx:=by
 have cl:=count_cut (d:=r0) s (srt_I hs y.1)
 exact (ir_tr (prog:=prog) (w:=w) (k:=k+1) (f:=fun r=>r.1) hr hm ⟨⟨_,_,_,_,rfl⟩,fun y _=>keyI_call y⟩ (keyI_call y) hz _ List.countP_le_length (fun i hi=>not_t (cl.1 i hi)) fun i hi hl=>by
  have:=cl.2 i hi hl
  unfold pI at this
  cases q:ltI y.1 (s.getD i r0).1 with
  | true=>rfl
  | false=>rw [q] at this; exact tf this).call
noncomputable def kindsF (kvs:List (Str × Str)) (x:Str):List Int:=(allF kvs (Txt.upper x)).map tokV
theorem HdAt.lay {kvs:List (Str × Str)} (X:HdAt w m nx n j l kvs) (mo:MO):HdAt w (upd m nx mo) (nx+1) n j l kvs:=
 ⟨Nat.lt_succ_of_lt X.ln,Nat.lt_succ_of_lt X.lj,Nat.lt_succ_of_lt X.ll,(upd_ne _ _ _ (Nat.ne_of_lt X.ln)).trans X.i1,(upd_ne _ _ _ (Nat.ne_of_lt X.lj)).trans X.i2,(upd_ne _ _ _ (Nat.ne_of_lt X.ll)).trans X.i3⟩
noncomputable def NameOk (kvs:List (Str × Str)) (x:Str):Prop:=A4 (x.length<=1000) ((Txt.upper x).length<=1000) (Prn (Txt.lower (Txt.upper x))) (∀ y ∈ allF kvs (Txt.upper x),(tokTab.lookup y).isSome=true)
noncomputable def Vo (n nx:Nat) (N:List D):List (Str × AV):=[("names",.d (.lst N)),("code",.loc n),("rows",.loc nx)]
theorem kinds_str {kvs:List (Str × Str)} (X:HdAt w m nx n j l kvs) (hk:∀ kv ∈ kvs,kv.1.length<=1000) (hz:kvs.length<=10000) (N:List D) (r i:Nat) (x:Str) (hx:N[i]? = some (.str x)) (hi:i < 1000) (ho:NameOk kvs x) :
  STr prog w (KK w) bt (k+3) (ioF w) (nthS (forBody (ioL w)) 0) ⟨("figure",.d (.int i)) :: Vo n r N,[],m,nx⟩ .next ⟨setv "kinds" (.d (.lst ((kindsF kvs x).map D.int))) (("figure",.d (.int i)) :: Vo n r N),[],m,nx⟩:=by
 obtain ⟨h1,h2,h3,h4⟩:=ho
 have all:=hd_all (prog:=prog) (k:=k+1) X (Txt.upper x) h2 h3 hk hz
 have hlen:(allF kvs (Txt.upper x)).length<=100000:=by
  unfold allF
  rw [List.length_map]
  exact Nat.le_trans (List.length_filter_le _ _) (by omega)
 have e:(kindsF kvs x).map D.int=(allF kvs (Txt.upper x)).map fun y=>D.int (tokV y):=by unfold kindsF; rw [List.map_map]; rfl
 rw [e]
 generalize hV:((("figure",.d (.int i)) :: Vo n r N:List (Str × AV)))=V
 generalize allF kvs (Txt.upper x)=ws at all hlen h4 ⊢
 refine STr.ofLoopP (by kernel_rfl) (by kernel_rfl) (by kernel_rfl) (a:=.d (.lst (strDs ws))) (ds:=ws.map D.str)
  (ETr.runE 20 [(cx prog w (k+3) m nx).mFn n j (hdC w) (gaA w) [("_headers",.loc l)] "get_all" X.ln X.i1 X.i2 (by kernel_rfl) (by kernel_rfl),(cx prog w (k+3) m nx).item N i i (.str x) rfl hx (by omega),(cx prog w (k+3) m nx).mUpper x,(cx prog w (k+3) m nx).cUpper x (Txt.upper x) rfl (by omega),.call all.call] (by subst hV; kernel_rfl)) rfl
  (loop1n (st:=⟨V,[],m,nx⟩) (a:=.d (.lst (strDs ws))) (xs:=ws) (gD:=D.str) (by kernel_rfl) (by kernel_rfl) rfl (tgt_nameN "word" (by kernel_rfl) (by kernel_rfl) (by subst hV; kernel_rfl)) (fun y hy l'=>?_) hlen)
 obtain ⟨v,hv⟩:=Option.isSome_iff_exists.mp (h4 y hy)
 have ev:tokV y=v:=by unfold tokV; rw [hv]; rfl
 rw [ev]
 subst hV
 exact ETr.runE 20 [(cx prog w (k+3) (upd m nx (.list l')) (nx+1)).itemTop (fa w "EXACT_TOKEN_TYPES") tokTab tok_top y v hv] (by kernel_rfl)
noncomputable def stepO (kvs:List (Str × Str)) (nm:List Str) (s:List Row) (i:Nat):List Row:=insR s (kindsF kvs (nm.getD i Str.empty),(i:Int))
noncomputable def rowsF (kvs:List (Str × Str)) (nm:List Str):List Row:=(List.range nm.length).foldl (stepO kvs nm) []
theorem stepO_fold (kvs:List (Str × Str)) (nm:List Str):∀ (l:List Nat) (s:List Row),Srt s->Srt (l.foldl (stepO kvs nm) s) /\ (l.foldl (stepO kvs nm) s).length=s.length+l.length
 | [],s,h=>⟨h,rfl⟩
 | i :: l,s,h=>by
  obtain ⟨a,b⟩:=stepO_fold kvs nm l (stepO kvs nm s i) (insR_srt h _)
  refine ⟨a,b.trans ?_⟩
  unfold stepO
  rw [insR_len,List.length_cons]
  exact Nat.succ_add_eq_add_succ _ _
theorem mid_at {pre post:List Nat} {y n:Nat} (he:List.range n=pre ++ y :: post):pre.length=y /\ y < n:=by
 have h1:(List.range n)[pre.length]? = some y:=by rw [he]; simp
 have h2:pre.length < n:=by
  have:=congrArg List.length he
  rw [List.length_range,List.length_append] at this
  exact this ▸ Nat.lt_add_of_pos_right (Nat.succ_pos _)
 rw [List.getElem?_range h2] at h1
 have h:=Option.some.inj h1
 exact ⟨h,h ▸ h2⟩
theorem small1000 {n:Nat} (hn:n<=1000):Builtin.Range.small 0 (n:Int) 1=true:=
 List.all_eq_true.mp (show ((List.range 1001).all fun n=>Builtin.Range.small 0 ((n:Nat):Int) 1)=true by kernel_rfl) n (List.mem_range.mpr (Nat.lt_succ_of_le hn))
theorem len_strs (nm:List Str) (h:nm.length < 9000000000):CallTr prog w (KK w) bt k (.k (.builtin "len")) [.d (.lst (strDs nm))] [] m nx (.d (.int nm.length)) m nx:=by
 have c:=c_len (prog:=prog) (w:=w) (K:=KK w) (btab:=bt) (k:=k) (m:=m) (nx:=nx) (a:=.d (.lst (strDs nm))) (ds:=strDs nm) rfl trivial (by rw [strDs_len]; exact h)
 rw [strDs_len] at c
 exact c
theorem order_tr {kvs:List (Str × Str)} (X:HdAt w m nx n j l kvs) (hk:∀ kv ∈ kvs,kv.1.length<=1000) (hz:kvs.length<=10000) (nm:List Str) (hnm:nm.length<=100) (ho:∀ x ∈ nm,NameOk kvs x) {jt:Nat} {cA:Addr} (hj:jt < nx) (hm:m jt=.tab cA) (hc:(ioF w).code=some cA) :
  CallTr prog w (KK w) bt (k+4) (fn w "_law_in_order") [.d (.lst (strDs nm)),.loc n] [] m nx (.d (.lst ((rowsF kvs nm).map rT))) m nx:=by
 have hsm:=small1000 (Nat.le_trans hnm (by decide))
 have hN:∀ i,i < nm.length->(strDs nm)[i]? = some (.str (nm.getD i Str.empty)):=fun i hi=>strDs_get hi
 have ln:∀ M N0,CallTr prog w (KK w) bt (k+3) (.k (.builtin "len")) [.d (.lst (strDs nm))] [] M N0 (.d (.int nm.length)) M N0:=fun M N0=>len_strs nm (by omega)
 generalize strDs nm=N at hN ln ⊢
 have loop:=for_fold (prog:=prog) (w:=w) (K:=KK w) (btab:=bt) (k:=k+3) (φ:=ioF w) (t:=forTgt (ioL w)) (b:=forBody (ioL w)) (a:=.d (.rng 0 (nm.length:Nat) 1)) (ds0:=(List.range nm.length).map fun i:Nat=>D.int i) (fz:=[]) (nx:=nx+1)
  (V:=fun _:List Row=>Vo n nx N) (M:=fun s=>upd m nx (.list (s.map rT))) (step:=stepO kvs nm) (gD:=fun i:Nat=>.int i) (VX:=fun _ i=>("figure",.d (.int i)) :: Vo n nx N) (List.range nm.length) [] (Vo n nx N) (.refl _) (fun pre i post he=>by
   obtain ⟨hpl,hi⟩:=mid_at he
   obtain ⟨srt,sl⟩:=stepO_fold kvs nm pre [] .nil
   generalize pre.foldl (stepO kvs nm) []=s at srt sl ⊢
   have sl:s.length<=1000:=by rw [sl,List.length_nil,hpl]; omega
   refine ⟨dsrc_rng hsm,takes_nameN "figure" (by kernel_rfl) (by kernel_rfl),.next,Vo n nx N,.inl rfl,?_,.refl _⟩
   have hx:=ho (nm.getD i Str.empty) (by rw [List.getD_eq_getElem?_getD,List.getElem?_eq_getElem hi]; exact List.getElem_mem hi)
   have st:=kinds_str (prog:=prog) (w:=w) (k:=k) (X.lay (.list (s.map rT))) hk hz N nx i _ (hN i hi) (by omega) hx
   have hin:(upd m nx (.list (s.map rT))) nx=.list (s.map rT):=upd_at _ _ _
   have ins:=insort_tr (prog:=prog) (w:=w) (k:=k) (m:=upd m nx (.list (s.map rT))) (nx:=nx+1) srt (kindsF kvs (nm.getD i Str.empty),(i:Int)) (Nat.lt_succ_self _) hin sl
   rw [upd_same] at ins
   have ht:(upd m nx (.list (s.map rT))) jt=.tab cA:=(upd_ne _ _ _ (Nat.ne_of_lt hj)).trans hm
   show BTr prog w (KK w) bt (k+3) (ioF w) (forBody (ioL w)) ⟨("figure",.d (.int i)) :: Vo n nx N,[],upd m nx (.list (s.map rT)),nx+1⟩ .next ⟨Vo n nx N,[],upd m nx (.list ((insR s (kindsF kvs (nm.getD i Str.empty),(i:Int))).map rT)),nx+1⟩
   generalize upd m nx (.list (s.map rT))=M1 at st ins ht ⊢
   generalize upd m nx (.list ((insR s (kindsF kvs (nm.getD i Str.empty),(i:Int))).map rT))=M2 at ins ⊢
   unfold rT at ins
   dsimp only at ins
   generalize (kindsF kvs (nm.getD i Str.empty)).map D.int=ks at st ins
   have lamI:ETr prog w (KK w) bt (k+3) (ioF w) (keyI w) ⟨setv "kinds" (.d (.lst ks)) (("figure",.d (.int i)) :: Vo n nx N),[],M1,nx+1⟩ (keyIV w) ⟨setv "kinds" (.d (.lst ks)) (("figure",.d (.int i)) :: Vo n nx N),[],M1,nx+1⟩:=
    ETr.lamE (by kernel_rfl) (by kernel_rfl) hc (Nat.lt_succ_of_lt hj) ht (by kernel_rfl) (by kernel_rfl) _ (by kernel_rfl)
   exact BTr.runS 40 [.stm st,.tup [.lst ks,.int i] (show 2<=1000 by decide),.lam lamI,.call ins] (by kernel_rfl)) (dsrc_rng hsm)
 have st:STr prog w (KK w) bt (k+3) (ioF w) (ioL w) ⟨Vo n nx N,[],upd m nx (.list []),nx+1⟩ .next ⟨Vo n nx N,[],upd m nx (.list ((rowsF kvs nm).map rT)),nx+1⟩:=
  STr.forP (.d (.rng 0 (nm.length:Nat) 1)) ((List.range nm.length).map fun i:Nat=>D.int i) 20 [.call (ln (upd m nx (.list [])) (nx+1)),(cx prog w (k+3) (upd m nx (.list [])) (nx+1)).range1 (nm.length:Nat)] (by kernel_rfl) (by kernel_rfl) (dsrc_rng hsm) loop
 generalize (rowsF kvs nm).map rT=R at st ⊢
 have hR:(upd m nx (.list R)) nx=.list R:=upd_at _ _ _
 have hlow:∀ i,i < nx->(upd (upd m nx (.list R)) nx .junk) i=m i:=fun i hi=>by rw [upd_ne _ _ _ (Nat.ne_of_lt hi),upd_ne _ _ _ (Nat.ne_of_lt hi)]
 generalize upd m nx (.list R)=M2 at st hR hlow
 have h:CodeTr prog w (KK w) bt (k+4) (fn w "_law_in_order") [.d (.lst N),.loc n] [] m nx (.d (.lst R)) (upd M2 nx .junk) (nx+1):=
  codeA (fa w "_law_in_order") ["names", "code"] [.d (.lst N),.loc n] (.ret (.d (.lst R))) (upd M2 nx .junk) (nx+1) [] [.lst [] true (by decide),.stm st,.fz M2 (nx+1) nx R hR (Nat.lt_succ_self _)] (by kernel_rfl) (bindq2 fun S a b=>by kernel_rfl) rfl (by kernel_rfl)
 exact (h.call).low (.same (Nat.le_succ _) hlow) (.d _)
end
noncomputable def signF (k:Int):Str:=signsL.getD (k - 7).toNat Str.empty
noncomputable def nameF (rest:List Int):Str:=Txt.join " " (rest.map signF)
noncomputable def KindOk (k:Int):Prop:=7<=k /\ k < 55
theorem bindq5 {K:Frag} {fd:FuncData} (h:∀ (S:Setting) (a b c d e:Value),peek K S (bindArgs fd ⟨[a,b,c,d,e],[]⟩)=bindN ((posNames fd).zip [a,b,c,d,e] ++ []) (dflts K fd) (posNames fd ++ kwoNames fd)):BindQ K fd 5 []:=bindqN 5 h
theorem sum_lec {α:Type} (f:α->Nat) (c:Nat) (h:∀ x,f x<=c):∀ l:List α,(l.map f).sum<=c * l.length
 | []=>Nat.le_refl _
 | x :: l=>by
  rw [List.map_cons,List.sum_cons,List.length_cons,Nat.mul_succ,Nat.add_comm]
  exact Nat.add_le_add (sum_lec f c h l) (h x)
theorem sign_len (k:Int):(signF k).length<=3:=by
 unfold signF
 by_cases h:(k - 7).toNat < signsL.length
 ·have e:(signsL.all fun s=>Nat.ble s.length 3)=true:=by kernel_rfl
  rw [List.getD_eq_getElem?_getD,List.getElem?_eq_getElem h]
  exact Nat.le_of_ble_eq_true (List.all_eq_true.mp e _ (List.getElem_mem h))
 ·rw [List.getD_eq_getElem?_getD,List.getElem?_eq_none (Nat.le_of_not_lt h)]
  exact Nat.zero_le _
noncomputable abbrev SQ:=List (Str × Str) × List Str
noncomputable def noteF (z:SQ) (rest:List Int) (road:Str):SQ:=if (getF z.1 (nameF rest)).isSome then z else (z.1 ++ [(nameF rest,road)],z.2 ++ [nameF rest])
noncomputable def NmR (x:Str):Prop:=A3 (x.length<=1000) (Prn x) (Prn (Txt.lower x))
section
variable {prog:Program} {w:World} {k:Nat} {m:Nat->MO} {nx:Nat} {x:Ix} {L:Int}
noncomputable abbrev ntF (w:World):Fm:=ph w "_law_note"
noncomputable abbrev ntC (w:World):PySem.Expr:=cArg 0 (asVal (nthS (bd w "_law_note") 0))
noncomputable def Vn (n h:Nat) (S R:List D) (road:Str):List (Str × AV):=[("lexer",.loc n),("seen",.loc h),("signs",.d (.lst S)),("rest",.d (.lst R)),("road",.d (.str road))]
theorem name_comp (rest:List Int) (hr:∀ k ∈ rest,KindOk k) (hl:rest.length<=1000) (n h:Nat) (road:Str) :
  ETr prog w (KK w) bt k (ntF w) (ntC w) ⟨Vn n h (strDs signsL) (rest.map D.int) road,[],m,nx⟩ (.d (.lst (strDs (rest.map signF)))) ⟨Vn n h (strDs signsL) (rest.map D.int) road,[],m,nx⟩:=by
 have e:strDs (rest.map signF)=rest.map fun i=>D.str (signF i):=by unfold strDs; rw [List.map_map]; rfl
 have hget:∀ i,i < 48->(strDs signsL)[i]? = some (.str (signsL.getD i Str.empty)):=fun i hi=>strDs_get (Nat.lt_of_lt_of_eq hi signs_len.symm)
 rw [e]
 generalize hV:Vn n h (strDs signsL) (rest.map D.int) road=V
 refine ETr.ofLoop (by kernel_rfl) (a:=.d (.lst (rest.map D.int))) (ds:=rest.map D.int) (ETr.runE 20 [] (by subst hV; kernel_rfl)) rfl
  (loop1n (st:=⟨V,[],m,nx⟩) (a:=.d (.lst (rest.map D.int))) (xs:=rest) (gD:=D.int) (by kernel_rfl) (by kernel_rfl) rfl (tgt_nameN "kind" (by kernel_rfl) (by kernel_rfl) (by subst hV; kernel_rfl)) (fun i hi l'=>?_) (by omega))
 obtain ⟨h1,h2⟩:=hr i hi
 have e1:i - 7=((i - 7).toNat:Int):=(Int.toNat_of_nonneg (by omega)).symm
 have e2:(i - 7).toNat < 48:=by omega
 have hg:=hget _ e2
 subst hV
 unfold Vn
 generalize strDs signsL=S at hg ⊢
 exact ETr.runE 20 [(cx prog w k (upd m nx (.list l')) (nx+1)).item S (i - 7) (i - 7).toNat (.str (signF i)) e1 hg (by omega)] (by kernel_rfl)
theorem note_tr (G:Good w x m nx) (z:SQ) (rest:List Int) (road:Str) (hr:∀ k ∈ rest,KindOk k) (hl:rest.length<=1000) (hn:NmR (nameF rest)) (hroad:Prn road) (hk:∀ kv ∈ z.1,kv.1.length<=1000) (hz:z.1.length<=1000) (hz2:z.2.length<=1000) :
  CallTr prog w (KK w) bt (k+4) (fn w "_law_note") [.loc x.n,.loc x.h,.d (.lst (strDs signsL)),.d (.lst (rest.map D.int)),.d (.str road)] [] (vw x m L [] (strDs z.2) z.1) nx (.d .none) (vw x m L [] (strDs (noteF z rest road).2) (noteF z rest road).1) nx:=by
 obtain ⟨n1,n2,n3⟩:=hn
 have S:=G.sep
 have X:=G.hd (L:=L) (cs:=[]) (push:=strDs z.2) (kvs:=z.1)
 have comp:=name_comp (prog:=prog) (w:=w) (k:=k+3) (m:=vw x m L [] (strDs z.2) z.1) (nx:=nx) rest hr hl x.n x.h road
 have hjs:((rest.map signF).map (·.length)).sum+(rest.map signF).length * (" " : Str).length<=16777216:=by
  have:=sum_lec (fun i=>(signF i).length) 3 sign_len rest
  rw [List.map_map,List.length_map]
  have e:(" " : Str).length=1:=rfl
  rw [e]
  show (rest.map fun i=>(signF i).length).sum+_<=_
  omega
 have nw:=q_new (prog:=prog) (k:=k) X (nameF rest) n1 n3 hk
 have e0:Txt.join " " (rest.map signF)=nameF rest:=rfl
 have i1:=X.i1
 have i2:=X.i2
 cases q:getF z.1 (nameF rest) with
 | some v=>
  have e:noteF z rest road=z:=by unfold noteF; rw [q]; rfl
  rw [e]
  rw [q] at nw
  unfold Vn at comp
  generalize vw x m L [] (strDs z.2) z.1=M at comp nw i1 i2 ⊢
  generalize strDs signsL=SS at comp ⊢
  generalize rest.map D.int=R at comp ⊢
  generalize nameF rest=nm at e0 nw
  exact (codeA (fa w "_law_note") ["lexer", "seen", "signs", "rest", "road"] [.loc x.n,.loc x.h,.d (.lst SS),.d (.lst R),.d (.str road)] .next M nx [] [(cx prog w (k+3) M nx).mJoin " ",.comp comp,
   (cx prog w (k+3) M nx).cJoin " " (.d (.lst (strDs (rest.map signF)))) (rest.map signF) nm e0 rfl trivial hjs,.cmp nw,.br false false rfl] (by kernel_rfl) (bindq5 fun S a b c d e=>by kernel_rfl) rfl (by kernel_rfl)).call
 | none=>
  have e:noteF z rest road=(z.1 ++ [(nameF rest,road)],z.2 ++ [nameF rest]):=by unfold noteF; rw [q]; rfl
  have new:=hd_new (prog:=prog) (k:=k) X (nameF rest) road n1 n3 n2 hroad hk q (by omega)
  rw [vw_hd S] at new
  have XL:=G.lex (L:=L) (cs:=[]) (push:=strDs z.2) (kvs:=z.1 ++ [(nameF rest,road)])
  have pt:=pt_tr (prog:=prog) (k:=k+2) (.str (nameF rest)) XL (by rw [strDs_len]; omega)
  rw [vw_push S,<- strDs_snoc] at pt
  have l1:=XL.i1
  have l2:=XL.i2
  rw [e]
  rw [q] at nw
  dsimp only
  unfold Vn at comp
  generalize vw x m L [] (strDs z.2) z.1=M at comp nw i1 i2 new ⊢
  generalize vw x m L [] (strDs z.2) (z.1 ++ [(nameF rest,road)])=M2 at new pt l1 l2
  generalize vw x m L [] (strDs (z.2 ++ [nameF rest])) (z.1 ++ [(nameF rest,road)])=M3 at pt ⊢
  generalize strDs signsL=SS at comp ⊢
  generalize rest.map D.int=R at comp ⊢
  generalize nameF rest=nm at e0 nw new pt
  exact (codeA (fa w "_law_note") ["lexer", "seen", "signs", "rest", "road"] [.loc x.n,.loc x.h,.d (.lst SS),.d (.lst R),.d (.str road)] .next M3 nx [] [(cx prog w (k+3) M nx).mJoin " ",.comp comp,
   (cx prog w (k+3) M nx).cJoin " " (.d (.lst (strDs (rest.map signF)))) (rest.map signF) nm e0 rfl trivial hjs,.cmp nw,.br true true rfl,
   (cx prog w (k+3) M nx).mFn x.h x.g (hdC w) (hsA w) [("_headers",.loc x.l)] "setdefault" X.ln i1 i2 (by kernel_rfl) (by kernel_rfl),.call new.call,
   (cx prog w (k+3) M2 nx).mFn x.n x.j (netC w) (ca w "_netrclex" "push_token") (lexNs L (.loc x.s) x.p) "push_token" XL.ln l1 l2 (by kernel_rfl) (by kernel_rfl),.call pt.call] (by kernel_rfl) (bindq5 fun S a b c d e=>by kernel_rfl) rfl (by kernel_rfl)).call
theorem cut_inj {c:Nat}:∀ {a a' b b':List Nat},c ∉ a->c ∉ a'->a ++ c :: b=a' ++ c :: b'->a=a' /\ b=b'
 | [],[],_,_,_,_,h=>⟨rfl,(List.cons.inj h).2⟩
 | [],x :: a',_,_,_,h2,h=>absurd (List.mem_cons.mpr (.inl (List.cons.inj h).1)) h2
 | x :: a,[],_,_,h1,_,h=>absurd (List.mem_cons.mpr (.inl (List.cons.inj h).1.symm)) h1
 | x :: a,y :: a',_,_,h1,h2,h=>by
  obtain ⟨e,h⟩:=List.cons.inj h
  obtain ⟨i1,i2⟩:=cut_inj (fun z=>h1 (List.mem_cons_of_mem _ z)) (fun z=>h2 (List.mem_cons_of_mem _ z)) h
  exact ⟨by rw [e,i1],i2⟩
noncomputable def sep1 (c:Nat):Str:=⟨#[c]⟩
noncomputable def Free (c:Nat) (x:Str):Prop:=c ∉ x.cps.toList
theorem cat_list (x y:Str) (c:Nat):(x ++ sep1 c ++ y).cps.toList=x.cps.toList ++ c :: y.cps.toList:=by
 show ((x.cps ++ #[c]) ++ y.cps).toList=_
 rw [Array.toList_append,Array.toList_append,List.append_assoc]
 rfl
theorem join_inj {c:Nat}:∀ {ps qs:List Str},ps ≠ []->qs ≠ []->(∀ p ∈ ps,Free c p)->(∀ q ∈ qs,Free c q)->Str.join (sep1 c) ps=Str.join (sep1 c) qs->ps=qs
 | [],_,h,_,_,_,_=>absurd rfl h
 | _ :: _,[],_,h,_,_,_=>absurd rfl h
 | [p],[q],_,_,_,_,e=>congrArg (· :: []) e
 | [p],q :: q' :: r,_,_,h1,_,e=>by
  have e:p=q ++ sep1 c ++ Str.join (sep1 c) (q' :: r):=e
  exact absurd (by rw [e,cat_list]; exact List.mem_append.mpr (.inr (List.mem_cons_self ..))) (h1 p (List.mem_cons_self ..))
 | p :: p' :: r,[q],_,_,_,h2,e=>by
  have e:p ++ sep1 c ++ Str.join (sep1 c) (p' :: r)=q:=e
  exact absurd (by rw [<- e,cat_list]; exact List.mem_append.mpr (.inr (List.mem_cons_self ..))) (h2 q (List.mem_cons_self ..))
 | p :: p' :: r,q :: q' :: r',_,_,h1,h2,e=>by
  have e:p ++ sep1 c ++ Str.join (sep1 c) (p' :: r)=q ++ sep1 c ++ Str.join (sep1 c) (q' :: r'):=e
  have e2:(p ++ sep1 c ++ Str.join (sep1 c) (p' :: r)).cps.toList=(q ++ sep1 c ++ Str.join (sep1 c) (q' :: r')).cps.toList:=congrArg (fun x:Str=>x.cps.toList) e
  rw [cat_list,cat_list] at e2
  obtain ⟨a,b⟩:=cut_inj (h1 p (List.mem_cons_self ..)) (h2 q (List.mem_cons_self ..)) e2
  rw [str_ext a,join_inj (List.cons_ne_nil _ _) (List.cons_ne_nil _ _) (fun x hx=>h1 x (List.mem_cons_of_mem _ hx)) (fun x hx=>h2 x (List.mem_cons_of_mem _ hx)) (str_ext b)]
theorem split_ne (x y:Str):Txt.split x y ≠ []:=by
 unfold Txt.split
 by_cases h:(decide (x.length < y.length) || decide (Builtin.Str.strKind x < Builtin.Str.strKind y))=true
 ·rw [if_pos h]; exact List.cons_ne_nil _ _
 ·rw [if_neg h]
  by_cases g:(Builtin.Str.occurrences x y 0 x.length (x.length+1)).isEmpty=true
  ·rw [if_pos g]; exact List.cons_ne_nil _ _
  ·rw [if_neg g,StrLaws.partsBetween_eq]
   obtain ⟨p,r,e⟩:=StrLaws.partsFrom_ne x y.length 0 (Builtin.Str.occurrences x y 0 x.length (x.length+1))
   rw [e]; exact List.cons_ne_nil _ _
theorem split_join {c:Nat} {ps:List Str} (h:ps ≠ []) (hf:∀ p ∈ ps,Free c p):Txt.split (Txt.join (sep1 c) ps) (sep1 c)=ps:=
 join_inj (split_ne _ _) h (StrLaws.split_free _ c) hf ((StrLaws.join_split _ _).trans (StrLaws.glued_eq_join _ _))
theorem split_two {c:Nat} {a b:Str} (ha:Free c a) (hb:Free c b):Txt.split (a ++ sep1 c ++ b) (sep1 c) = [a,b]:=by
 have:=split_join (c:=c) (ps:=[a,b]) (List.cons_ne_nil _ _) fun p hp=>by
  rcases List.mem_cons.mp hp with rfl | hp
  ·exact ha
  ·rw [List.mem_singleton.mp hp]; exact hb
 exact this
theorem blank_sep:(" " : Str)=sep1 32:=by decide +kernel
theorem slash_sep:("/" : Str)=sep1 47:=by decide +kernel
noncomputable def signChk (k:Nat):Bool:=let s:=signsL.getD k Str.empty; (!s.cps.toList.contains 32) && decide (s ≠ Str.empty) && decide (tokV s=((k+7:Nat):Int)) && (tokTab.lookup s).isSome
theorem sign_all:((List.range 48).all signChk)=true:=by kernel_rfl
theorem sign_ok {k:Int} (h:KindOk k):A4 (Free 32 (signF k)) (signF k ≠ Str.empty) (tokTab.lookup (signF k)=some k) True:=by
 obtain ⟨h1,h2⟩:=h
 have hk:(k - 7).toNat < 48:=by omega
 have:=List.all_eq_true.mp sign_all _ (List.mem_range.mpr hk)
 unfold signChk at this
 obtain ⟨this,q4⟩:=and_t this
 obtain ⟨this,q3⟩:=and_t this
 obtain ⟨q1,q2⟩:=and_t this
 refine ⟨fun m=>?_,of_decide_eq_true q2,?_,trivial⟩
 ·exact tf ((List.contains_iff_mem.mpr m).symm.trans (not_t q1))
 ·obtain ⟨v,hv⟩:=Option.isSome_iff_exists.mp q4
  have q3:=of_decide_eq_true q3
  unfold tokV at q3
  rw [hv] at q3
  show tokTab.lookup (signF k)=some k
  unfold signF
  rw [hv]
  refine congrArg some (Eq.trans q3 ?_)
  omega
theorem name_words {rest:List Int} (hr:∀ k ∈ rest,KindOk k) (h:rest ≠ []):Txt.split (nameF rest) " " = rest.map signF:=by
 unfold nameF
 rw [blank_sep]
 exact split_join (fun e=>h (List.map_eq_nil_iff.mp e)) fun p hp=>by
  obtain ⟨k,hk,rfl⟩:=List.mem_map.mp hp
  exact (sign_ok (hr k hk)).1
noncomputable def LowC (c:Nat):Prop:=(32<=c /\ c < 127) /\ ¬ (65<=c /\ c<=90)
theorem lowerOf_low:((List.range 95).all fun i=>decide (65<=i+32 /\ i+32<=90) || (Unicode.lowerOf (i+32) == [i+32]))=true:=by kernel_rfl
theorem lower_id {x:Str} (h:∀ c ∈ x.cps.toList,LowC c):Txt.lower x=x:=by
 have e:(x.cps.mapIdx fun i _=>(Unicode.lowerAt x.cps i).toArray)=x.cps.map fun c=>#[c]:=by
  apply Array.ext
  ·simp
  ·intro i h1 h2
   simp only [Array.getElem_mapIdx,Array.getElem_map]
   have hi:i < x.cps.size:=by simpa using h1
   obtain ⟨⟨c1,c2⟩,c3⟩:=h x.cps[i] (by simp)
   have hl:=List.all_eq_true.mp lowerOf_low (x.cps[i] - 32) (List.mem_range.mpr (by omega))
   rw [show x.cps[i] - 32+32=x.cps[i] from Nat.sub_add_cancel c1,decide_eq_false c3,Bool.false_or] at hl
   unfold Unicode.lowerAt
   rw [Array.getElem?_eq_getElem hi]
   dsimp only
   have:(x.cps[i] == 0x3A3)=false:=by
    cases q:x.cps[i] == 0x3A3 with
    | false=>rfl
    | true=>have:=eq_of_beq q; omega
   rw [this,Bool.false_and,if_neg Bool.false_ne_true,eq_of_beq hl]
 have e2:(x.cps.map fun c=>#[c]).flatten=x.cps:=by
  apply Array.ext'
  rw [Array.toList_flatten,Array.toList_map,List.map_map]
  generalize x.cps.toList=l
  induction l with
  | nil=>rfl
  | cons a l ih=>simpa using ih
 show (⟨(x.cps.mapIdx fun i _=>(Unicode.lowerAt x.cps i).toArray).flatten⟩ : Str)=x
 rw [e,e2]
theorem prn_low {x:Str} (h:∀ c ∈ x.cps.toList,LowC c):Prn x:=fun c hc=>(h c hc).1
theorem app_chars {P:Nat->Prop} {x y:Str} (hx:∀ c ∈ x.cps.toList,P c) (hy:∀ c ∈ y.cps.toList,P c):∀ c ∈ (x ++ y).cps.toList,P c:=fun c hc=>by
 have e:(x ++ y).cps.toList=x.cps.toList ++ y.cps.toList:=Array.toList_append
 rw [e] at hc
 exact (List.mem_append.mp hc).elim (hx c) (hy c)
theorem join_chars {P:Nat->Prop} {s:Str} (hs:∀ c ∈ s.cps.toList,P c):∀ (ps:List Str),(∀ p ∈ ps,∀ c ∈ p.cps.toList,P c)->∀ c ∈ (Str.join s ps).cps.toList,P c
 | [],_=>fun _ h=>nomatch h
 | [p],h=>h p (List.mem_cons_self ..)
 | p :: q :: r,h=>app_chars (app_chars (h p (List.mem_cons_self ..)) hs) (join_chars hs (q :: r) fun x hx=>h x (List.mem_cons_of_mem _ hx))
theorem join_len {s:Str}:∀ (ps:List Str),(Str.join s ps).length<=(ps.map (·.length)).sum+s.length * ps.length
 | []=>Nat.zero_le _
 | [p]=>by
  show p.length<=p.length+0+s.length * 1
  omega
 | p :: q :: r=>by
  have ih:=join_len (s:=s) (q :: r)
  show (p ++ s ++ Str.join s (q :: r)).length<=_
  rw [str_len,str_len,List.map_cons,List.sum_cons,List.length_cons,Nat.mul_succ]
  omega
noncomputable def lowChk (c:Nat):Bool:=Nat.ble 32 c && Nat.blt c 127 && !(Nat.ble 65 c && Nat.ble c 90)
theorem lowChk_ok {c:Nat} (h:lowChk c=true):LowC c:=by
 unfold lowChk at h
 obtain ⟨h,h3⟩:=and_t h
 obtain ⟨h1,h2⟩:=and_t h
 refine ⟨⟨Nat.le_of_ble_eq_true h1,Nat.le_of_ble_eq_true h2⟩,fun z=>?_⟩
 have:=not_t h3
 rw [Nat.ble_eq_true_of_le z.1,Nat.ble_eq_true_of_le z.2] at this
 exact tf this
theorem sign_low (k:Int):∀ c ∈ (signF k).cps.toList,LowC c:=by
 unfold signF
 by_cases h:(k - 7).toNat < signsL.length
 ·have e:(signsL.all fun s=>s.cps.toList.all lowChk)=true:=by kernel_rfl
  rw [List.getD_eq_getElem?_getD,List.getElem?_eq_getElem h]
  exact fun c hc=>lowChk_ok (List.all_eq_true.mp (List.all_eq_true.mp e _ (List.getElem_mem h)) c hc)
 ·rw [List.getD_eq_getElem?_getD,List.getElem?_eq_none (Nat.le_of_not_lt h)]
  exact fun c hc=>nomatch hc
theorem name_low (rest:List Int):∀ c ∈ (nameF rest).cps.toList,LowC c:=by
 have e:nameF rest=Str.join " " (rest.map signF):=StrLaws.glued_eq_join _ _
 rw [e]
 refine join_chars (fun c hc=>?_) _ fun p hp=>?_
 ·have:c=32:=List.mem_singleton.mp hc
  rw [this]
  exact lowChk_ok (by decide)
 ·obtain ⟨k,_,rfl⟩:=List.mem_map.mp hp
  exact sign_low k
theorem name_len (rest:List Int):(nameF rest).length<=4 * rest.length:=by
 have e:nameF rest=Str.join " " (rest.map signF):=StrLaws.glued_eq_join _ _
 have h:=join_len (s := " ") (rest.map signF)
 have h2:=sum_lec (fun i=>(signF i).length) 3 sign_len rest
 rw [List.map_map,List.length_map,show (" " : Str).length=1 from rfl] at h
 rw [e]
 have h3:(rest.map ((·.length) ∘ signF)).sum<=3 * rest.length:=h2
 omega
theorem name_lower (rest:List Int):Txt.lower (nameF rest)=nameF rest:=lower_id (name_low rest)
theorem name_nm {rest:List Int} (h:rest.length<=200):NmR (nameF rest):=⟨Nat.le_trans (name_len rest) (by omega),prn_low (name_low rest),by rw [name_lower]; exact prn_low (name_low rest)⟩
noncomputable def figS (i:Int):Str:=Str.ofString (toString i)
noncomputable def FigOk (i:Int):Prop:=0<=i /\ i < 3
noncomputable def Dig (x:Str):Prop:=∀ c ∈ x.cps.toList,48<=c /\ c<=57
theorem fig_ok {i:Int} (h:FigOk i):A4 (Dig (figS i)) ((figS i).length=1) (i.natAbs.log2 < 1920) True:=by
 have e:i=0 \/ i=1 \/ i=2:=by have:=h.1; have:=h.2; omega
 have all:∀ x:Str,(x.cps.toList.all fun c=>Nat.ble 48 c && Nat.ble c 57)=true->Dig x:=fun x h c hc=>by
  obtain ⟨a,b⟩:=and_t (List.all_eq_true.mp h c hc)
  exact ⟨Nat.le_of_ble_eq_true a,Nat.le_of_ble_eq_true b⟩
 rcases e with rfl | rfl | rfl
 ·exact ⟨all _ (by decide +kernel),by decide +kernel,by decide,trivial⟩
 ·exact ⟨all _ (by decide +kernel),by decide +kernel,by decide,trivial⟩
 ·exact ⟨all _ (by decide +kernel),by decide +kernel,by decide,trivial⟩
theorem Dig.app {x y:Str} (hx:Dig x) (hy:Dig y):Dig (x ++ y):=app_chars hx hy
theorem Dig.free {x:Str} (h:Dig x):Free 47 x:=fun m=>absurd (h 47 m).1 (by decide)
noncomputable def roadS (a b:Str):Str:=a ++ "/" ++ b
theorem road_prn {a b:Str} (ha:Dig a) (hb:Dig b):Prn (roadS a b):=by
 have d:∀ {x:Str},Dig x->∀ c ∈ x.cps.toList,32<=c /\ c < 127:=fun h c hc=>⟨Nat.le_trans (by decide) (h c hc).1,Nat.lt_of_le_of_lt (h c hc).2 (by decide)⟩
 refine app_chars (app_chars (d ha) fun c hc=>?_) (d hb)
 have:c=47:=List.mem_singleton.mp hc
 rw [this]
 decide
theorem road_split {a b:Str} (ha:Dig a) (hb:Dig b):Txt.split (roadS a b) "/" = [a,b]:=by
 unfold roadS
 rw [slash_sep]
 exact split_two ha.free hb.free
theorem road_len (a b:Str):(roadS a b).length=a.length+1+b.length:=by
 unfold roadS
 rw [str_len,str_len]
 rfl
structure RowsOk (rows:List Row):Prop where
 srt:Srt rows
 k:∀ r ∈ rows,∀ i ∈ r.1,KindOk i
 l:∀ r ∈ rows,1<=r.1.length /\ r.1.length<=3
 f:∀ r ∈ rows,FigOk r.2
 z:rows.length<=3
noncomputable def ZB (b:Nat) (z:SQ):Prop:=A3 (∀ kv ∈ z.1,kv.1.length<=1000) (z.1.length<=b) (z.2.length<=b)
theorem ZB.note {b:Nat} {z:SQ} (h:ZB b z) {rest:List Int} (hr:rest.length<=200) (road:Str):ZB (b+1) (noteF z rest road):=by
 obtain ⟨h1,h2,h3⟩:=h
 unfold noteF
 by_cases g:(getF z.1 (nameF rest)).isSome=true
 ·rw [if_pos g]; exact ⟨h1,Nat.le_succ_of_le h2,Nat.le_succ_of_le h3⟩
 ·rw [if_neg g]
  refine ⟨fun kv hkv=>?_,by rw [List.length_append]; exact Nat.succ_le_succ h2,by rw [List.length_append]; exact Nat.succ_le_succ h3⟩
  rcases List.mem_append.mp hkv with hkv | hkv
  ·exact h1 kv hkv
  ·rw [List.mem_singleton.mp hkv]; exact (name_nm hr).1
theorem ZB.up {b c:Nat} {z:SQ} (h:ZB b z) (hb:b<=c):ZB c z:=by
 obtain ⟨h1,h2,h3⟩:=h
 exact ⟨h1,Nat.le_trans h2 hb,Nat.le_trans h3 hb⟩
noncomputable abbrev wkF (w:World):Fm:=ph w "_law_walk"
noncomputable def Vw (x:Ix) (nx:Nat) (R S:List D):List (Str × AV):=[("lexer",.loc x.n),("rows",.d (.lst R)),("seen",.loc x.h),("signs",.d (.lst S)),("taken",.loc nx)]
theorem fig_str {i:Int} (h:FigOk i):CallTr prog w (KK w) bt k (.k (.type "str")) [.d (.int i)] [] m nx (.d (.str (figS i))) m nx:=c_str (fig_ok h).3
theorem len_ints (l:List D) (h:l.length < 9000000000):CallTr prog w (KK w) bt k (.k (.builtin "len")) [.d (.lst l)] [] m nx (.d (.int l.length)) m nx:=c_len rfl trivial h
noncomputable def stepI (r:Row) (z:SQ) (o:Row):SQ:=if o.2=r.2 then z else noteF z (o.1.drop r.1.length) (roadS (figS o.2) (figS r.2))
theorem stepI_zb {b:Nat} {z:SQ} (h:ZB b z) (r o:Row) (ho:o.1.length<=200):ZB (b+1) (stepI r z o):=by
 unfold stepI
 by_cases e:o.2=r.2
 ·rw [if_pos e]; exact h.up (Nat.le_succ b)
 ·rw [if_neg e]; exact h.note (Nat.le_trans (by rw [List.length_drop]; exact Nat.sub_le _ _) ho) _
noncomputable abbrev wkO (w:World):Stmt:=nthS (bd w "_law_walk") 2
noncomputable abbrev wkI (w:World):Stmt:=nthS (forBody (wkO w)) 0
noncomputable abbrev wkM (x:Ix) (m:Nat->MO) (nx:Nat) (L:Int) (T:List Str) (z:SQ):Nat->MO:=vw x (upd m nx (.list (strDs T))) L [] (strDs z.2) z.1
theorem in_turn (G:Good w x m nx) {rows:List Row} (RO:RowsOk rows) {r o:Row} (hr:r ∈ rows) (ho:o ∈ foundF rows r.1 r.1.length) {z:SQ} (hz:ZB 900 z) (T:List Str) (R:List D) :
  BTr prog w (KK w) bt (k+4) (wkF w) (forBody (wkI w)) ⟨("other",.d (rT o)) :: ("row",.d (rT r)) :: Vw x nx R (strDs signsL),[],wkM x m nx L T z,nx+1⟩ .next ⟨("row",.d (rT r)) :: Vw x nx R (strDs signsL),[],wkM x m nx L T (stepI r z o),nx+1⟩:=by
 have G1:=G.other (G.notin (Nat.le_refl _)) (.list (strDs T)) (Nat.le_succ nx)
 obtain ⟨hom,hoe⟩:=List.mem_filter.mp ho
 have hoe:=of_decide_eq_true hoe
 have ho3:=(RO.l o hom).2
 have hr3:=(RO.l r hr).2
 have hle:r.1.length<=o.1.length:=by rw [<- hoe,List.length_take]; exact Nat.min_le_right _ _
 have hfo:=RO.f o hom
 have hfr:=RO.f r hr
 obtain ⟨z1,z2,z3⟩:=hz
 unfold rT wkM
 by_cases e:o.2=r.2
 ·have es:stepI r z o=z:=if_pos e
  rw [es]
  generalize vw x (upd m nx (.list (strDs T))) L [] (strDs z.2) z.1=M
  generalize o.1.map D.int=ko
  generalize r.1.map D.int=kr
  generalize strDs signsL=S
  exact BTr.runS 60 [(cx prog w (k+4) M (nx+1)).itemT [.lst ko,.int o.2] 1 1 (.int o.2) rfl rfl (by decide),(cx prog w (k+4) M (nx+1)).itemT [.lst kr,.int r.2] 1 1 (.int r.2) rfl rfl (by decide),.br (!decide (o.2=r.2)) false (by rw [decide_eq_true e]; rfl)] (by kernel_rfl)
 ·have es:stepI r z o=noteF z (o.1.drop r.1.length) (roadS (figS o.2) (figS r.2)):=if_neg e
  have hk:∀ i ∈ o.1.drop r.1.length,KindOk i:=fun i hi=>RO.k o hom i (List.mem_of_mem_drop hi)
  have hl:(o.1.drop r.1.length).length<=200:=by rw [List.length_drop]; omega
  have note:=note_tr (prog:=prog) (w:=w) (k:=k) (L:=L) G1 z (o.1.drop r.1.length) (roadS (figS o.2) (figS r.2)) hk (by omega) (name_nm hl) (road_prn (fig_ok hfo).1 (fig_ok hfr).1) z1 (by omega) (by omega)
  rw [<- es] at note
  have hkl:(r.1.map D.int).length=r.1.length:=List.length_map _
  have ep:(o.1.drop r.1.length).map D.int=pickD (o.1.map D.int) (some ((r.1.map D.int).length:Nat)) none:=by
   rw [hkl,pick_i _ _ (by rw [List.length_map]; exact hle),List.map_drop]
  rw [ep] at note
  have hz2:(o.1.map D.int).length<=100000:=by rw [List.length_map]; omega
  have ln:∀ M N0,CallTr prog w (KK w) bt (k+4) (.k (.builtin "len")) [.d (.lst (r.1.map D.int))] [] M N0 (.d (.int (r.1.map D.int).length)) M N0:=fun M N0=>len_ints _ (by rw [hkl]; omega)
  generalize vw x (upd m nx (.list (strDs T))) L [] (strDs z.2) z.1=M at note ⊢
  generalize vw x (upd m nx (.list (strDs T))) L [] (strDs (stepI r z o).2) (stepI r z o).1=M2 at note ⊢
  generalize o.1.map D.int=ko at note hz2 ⊢
  generalize r.1.map D.int=kr at note ln ⊢
  generalize strDs signsL=S at note ⊢
  have l1:=(fig_ok hfo).2
  have l2:=(fig_ok hfr).2
  have f1:=fig_str (prog:=prog) (w:=w) (k:=k+4) (m:=M) (nx:=nx+1) hfo
  have f2:=fig_str (prog:=prog) (w:=w) (k:=k+4) (m:=M) (nx:=nx+1) hfr
  unfold roadS at note
  generalize figS o.2=so at note l1 f1
  generalize figS r.2=sr at note l2 f2
  exact BTr.runS 60 [(cx prog w (k+4) M (nx+1)).itemT [.lst ko,.int o.2] 1 1 (.int o.2) rfl rfl (by decide),(cx prog w (k+4) M (nx+1)).itemT [.lst kr,.int r.2] 1 1 (.int r.2) rfl rfl (by decide),.br (!decide (o.2=r.2)) true (by rw [decide_eq_false e]; rfl),
   (cx prog w (k+4) M (nx+1)).itemT [.lst ko,.int o.2] 0 0 (.lst ko) rfl rfl (by decide),(cx prog w (k+4) M (nx+1)).itemT [.lst kr,.int r.2] 0 0 (.lst kr) rfl rfl (by decide),.call (ln M (nx+1)),
   (cx prog w (k+4) M (nx+1)).slc (.d (.lst ko)) (.d (.int (kr.length:Nat))) (.d .none) ko (some (kr.length:Nat)) none rfl trivial rfl rfl hz2,
   (cx prog w (k+4) M (nx+1)).itemT [.lst ko,.int o.2] 1 1 (.int o.2) rfl rfl (by decide),.call f1,(cx prog w (k+4) M (nx+1)).addS false so "/" (so ++ "/") rfl (by rw [l1]; decide),
   (cx prog w (k+4) M (nx+1)).itemT [.lst kr,.int r.2] 1 1 (.int r.2) rfl rfl (by decide),.call f2,(cx prog w (k+4) M (nx+1)).addS false (so ++ "/") sr (so ++ "/" ++ sr) rfl (by rw [str_len,l1,l2]; decide),.call note] (by kernel_rfl)
theorem foldI_zb (r:Row):∀ (l:List Row) {b:Nat} {z:SQ},ZB b z->(∀ o ∈ l,o.1.length<=200)->ZB (b+l.length) (l.foldl (stepI r) z)
 | [],_,_,h,_=>h
 | o :: l,b,z,h,ho=>by
  have:=foldI_zb r l (stepI_zb h r o (ho o (List.mem_cons_self ..))) fun y hy=>ho y (List.mem_cons_of_mem _ hy)
  rw [List.length_cons,<- Nat.add_assoc,Nat.add_right_comm]
  exact this
noncomputable def initR (rows:List Row) (z:SQ) (r:Row):SQ:=(foundF rows r.1 r.1.length).foldl (stepI r) z
noncomputable def initF (rows:List Row):SQ:=rows.foldl (initR rows) ([],[])
theorem found_len (rows:List Row) (b:List Int) (n:Nat):(foundF rows b n).length<=rows.length:=List.length_filter_le _ _
theorem initR_zb {rows:List Row} (RO:RowsOk rows) {b:Nat} {z:SQ} (h:ZB b z) (r:Row):ZB (b+3) (initR rows z r):=
 (foldI_zb r _ h fun o ho=>Nat.le_trans (RO.l o (List.mem_filter.mp ho).1).2 (by decide)).up (Nat.add_le_add_left (Nat.le_trans (found_len _ _ _) RO.z) b)
theorem foldR_zb {rows:List Row} (RO:RowsOk rows):∀ (l:List Row) {b:Nat} {z:SQ},ZB b z->ZB (b+3 * l.length) (l.foldl (initR rows) z)
 | [],_,_,h=>h
 | r :: l,b,z,h=>(foldR_zb RO l (initR_zb RO h r)).up (by rw [List.length_cons]; omega)
theorem wk_tab (G:Good w x m nx) {jt:Nat} {cA:Addr} (hj:jt < nx) (hx:jt ∉ x.all) (hm:m jt=.tab cA) (T:List Str) (z:SQ):wkM x m nx L T z jt=.tab cA:=by
 have G1:=G.other (G.notin (Nat.le_refl _)) (.list (strDs T)) (Nat.le_succ nx)
 exact (G1.vat hx).trans ((upd_ne _ _ _ (Nat.ne_of_lt hj)).trans hm)
theorem in_loop (G:Good w x m nx) {rows:List Row} (RO:RowsOk rows) {jt:Nat} {cA:Addr} (hj:jt < nx) (hx:jt ∉ x.all) (hm:m jt=.tab cA) (hc:(fdF w).code=some cA) {r:Row} (hr:r ∈ rows) {z:SQ} (hz:ZB 800 z) (T:List Str) :
  STr prog w (KK w) bt (k+4) (wkF w) (wkI w) ⟨("row",.d (rT r)) :: Vw x nx (rows.map rT) (strDs signsL),[],wkM x m nx L T z,nx+1⟩ .next ⟨("row",.d (rT r)) :: Vw x nx (rows.map rT) (strDs signsL),[],wkM x m nx L T (initR rows z r),nx+1⟩:=by
 have hr3:=(RO.l r hr).2
 have fd:=found_tr (prog:=prog) (w:=w) (k:=k+1) (m:=wkM x m nx L T z) (nx:=nx+1) r.1 r.1.length RO.srt (fun r hr=>Nat.le_trans (RO.l r hr).2 (by decide)) (Nat.le_trans RO.z (by decide)) (Nat.lt_succ_of_lt hj) (wk_tab G hj hx hm T z) hc
 have hkl:(r.1.map D.int).length=r.1.length:=List.length_map _
 have ln:∀ M N0,CallTr prog w (KK w) bt (k+4) (.k (.builtin "len")) [.d (.lst (r.1.map D.int))] [] M N0 (.d (.int r.1.length)) M N0:=fun M N0=>hkl ▸ len_ints (r.1.map D.int) (by rw [hkl]; omega)
 have loop:=for_fold (prog:=prog) (w:=w) (K:=KK w) (btab:=bt) (k:=k+4) (φ:=wkF w) (t:=forTgt (wkI w)) (b:=forBody (wkI w)) (a:=.d (.lst ((foundF rows r.1 r.1.length).map rT))) (ds0:=(foundF rows r.1 r.1.length).map rT) (fz:=[]) (nx:=nx+1)
  (V:=fun _:SQ=>("row",.d (rT r)) :: Vw x nx (rows.map rT) (strDs signsL)) (M:=fun z=>wkM x m nx L T z) (step:=stepI r) (gD:=rT) (VX:=fun _ o=>("other",.d (rT o)) :: ("row",.d (rT r)) :: Vw x nx (rows.map rT) (strDs signsL)) (foundF rows r.1 r.1.length) z _ (.refl _) (fun pre o post he=>by
   obtain ⟨hmem,hlen⟩:=pre_mem he
   have hlen2:=Nat.lt_of_lt_of_le hlen (Nat.le_trans (found_len rows r.1 r.1.length) RO.z)
   have zb:=foldI_zb r pre hz fun y hy=>Nat.le_trans (RO.l y (List.mem_filter.mp (he ▸ List.mem_append.mpr (.inl hy))).1).2 (by decide)
   exact ⟨rfl,takes_nameN "other" (by kernel_rfl) (by kernel_rfl),.next,_,.inl rfl,in_turn G RO hr hmem (zb.up (by omega)) T _,.refl _⟩) rfl
 generalize wkM x m nx L T z=M at fd loop ⊢
 exact STr.forP (.d (.lst ((foundF rows r.1 r.1.length).map rT))) ((foundF rows r.1 r.1.length).map rT) 20 [(cx prog w (k+4) M (nx+1)).itemT [.lst (r.1.map D.int),.int r.2] 0 0 (.lst (r.1.map D.int)) rfl rfl (by decide),(cx prog w (k+4) M (nx+1)).itemT [.lst (r.1.map D.int),.int r.2] 0 0 (.lst (r.1.map D.int)) rfl rfl (by decide),.call (ln M (nx+1)),.call fd] (by kernel_rfl) (by kernel_rfl) rfl loop
theorem out_loop (G:Good w x m nx) {rows:List Row} (RO:RowsOk rows) {jt:Nat} {cA:Addr} (hj:jt < nx) (hx:jt ∉ x.all) (hm:m jt=.tab cA) (hc:(fdF w).code=some cA) (T:List Str) :
  STr prog w (KK w) bt (k+4) (wkF w) (wkO w) ⟨Vw x nx (rows.map rT) (strDs signsL),[],wkM x m nx L T ([],[]),nx+1⟩ .next ⟨Vw x nx (rows.map rT) (strDs signsL),[],wkM x m nx L T (initF rows),nx+1⟩:=by
 have loop:=for_fold (prog:=prog) (w:=w) (K:=KK w) (btab:=bt) (k:=k+4) (φ:=wkF w) (t:=forTgt (wkO w)) (b:=forBody (wkO w)) (a:=.d (.lst (rows.map rT))) (ds0:=rows.map rT) (fz:=[]) (nx:=nx+1)
  (V:=fun _:SQ=>Vw x nx (rows.map rT) (strDs signsL)) (M:=fun z=>wkM x m nx L T z) (step:=initR rows) (gD:=rT) (VX:=fun _ r=>("row",.d (rT r)) :: Vw x nx (rows.map rT) (strDs signsL)) rows ([],[]) _ (.refl _) (fun pre r post he=>by
   obtain ⟨hmem,hlen⟩:=pre_mem he
   have hlen2:=Nat.lt_of_lt_of_le hlen RO.z
   have zb:=foldR_zb RO pre (b:=0) (z:=([],[])) ⟨fun _ h=>(nomatch h),Nat.le_refl _,Nat.le_refl _⟩
   have st:=in_loop (prog:=prog) (k:=k) (L:=L) G RO hj hx hm hc hmem (zb.up (c:=800) (by omega)) T
   refine ⟨rfl,takes_nameN "row" (by kernel_rfl) (by kernel_rfl),.next,Vw x nx (rows.map rT) (strDs signsL),.inl rfl,?_,.refl _⟩
   exact BTr.runS 20 [.stm st] (by kernel_rfl)) rfl
 exact STr.forP (.d (.lst (rows.map rT))) (rows.map rT) 20 [] (by kernel_rfl) (by kernel_rfl) rfl loop
noncomputable def step6 (rest:List Int) (a b:Str) (z:SQ) (r:Row):SQ:=noteF z (r.1.drop rest.length) (roadS (b ++ figS r.2) a)
noncomputable def walk6 (rows:List Row) (rest:List Int) (a b:Str) (z:SQ):SQ:=(foundF rows rest rest.length).foldl (step6 rest a b) z
noncomputable def step5 (rest:List Int) (a b:Str) (n:Nat) (z:SQ) (r:Row):SQ:=noteF z (rest.drop n) (roadS a (b ++ figS r.2))
noncomputable def size5 (rows:List Row) (rest:List Int) (a b:Str) (z:SQ) (n:Nat):SQ:=(foundF rows (rest.take n) 4).foldl (step5 rest a b n) z
theorem fold6_zb (rest:List Int) (a b:Str):∀ (l:List Row) {c:Nat} {z:SQ},ZB c z->(∀ o ∈ l,o.1.length<=200)->ZB (c+l.length) (l.foldl (step6 rest a b) z)
 | [],_,_,h,_=>h
 | o :: l,c,z,h,ho=>by
  have:=fold6_zb rest a b l (h.note (rest:=o.1.drop rest.length) (Nat.le_trans (by rw [List.length_drop]; exact Nat.sub_le _ _) (ho o (List.mem_cons_self ..))) (roadS (b ++ figS o.2) a)) fun y hy=>ho y (List.mem_cons_of_mem _ hy)
  rw [List.length_cons,<- Nat.add_assoc,Nat.add_right_comm]
  exact this
theorem fold5_zb (rest:List Int) (hr:rest.length<=200) (a b:Str) (n:Nat):∀ (l:List Row) {c:Nat} {z:SQ},ZB c z->ZB (c+l.length) (l.foldl (step5 rest a b n) z)
 | [],_,_,h=>h
 | o :: l,c,z,h=>by
  have:=fold5_zb rest hr a b n l (h.note (rest:=rest.drop n) (Nat.le_trans (by rw [List.length_drop]; exact Nat.sub_le _ _) hr) (roadS a (b ++ figS o.2)))
  rw [List.length_cons,<- Nat.add_assoc,Nat.add_right_comm]
  exact this
noncomputable abbrev wkW (w:World):Stmt:=nthS (bd w "_law_walk") 3
noncomputable abbrev wk5 (w:World):Stmt:=nthS (forBody (wkW w)) 5
noncomputable abbrev wk6 (w:World):Stmt:=nthS (forBody (wkW w)) 6
noncomputable def Vk (x:Ix) (nx:Nat) (R S:List D) (nm:Str) (K:List D) (a b:Str):List (Str × AV):=[("lexer",.loc x.n),("rows",.d (.lst R)),("seen",.loc x.h),("signs",.d (.lst S)),("taken",.loc nx),("name",.d (.str nm)),("rest",.d (.lst K)),("ahead",.d (.str a)),("behind",.d (.str b))]
theorem turn6 (G:Good w x m nx) {rows:List Row} (RO:RowsOk rows) {rest:List Int} (hl:rest.length<=200) {r:Row} (hr:r ∈ rows) (hp:r.1.take rest.length=rest) {z:SQ} (hz:ZB 900 z) (T:List Str) (R:List D) (nm a b:Str) (ha:Dig a) (hb:Dig b) (la:a.length<=1000) (lb:b.length<=1000) :
  BTr prog w (KK w) bt (k+4) (wkF w) (forBody (wk6 w)) ⟨("row",.d (rT r)) :: Vk x nx R (strDs signsL) nm (rest.map D.int) a b,[],wkM x m nx L T z,nx+1⟩ .next ⟨Vk x nx R (strDs signsL) nm (rest.map D.int) a b,[],wkM x m nx L T (step6 rest a b z r),nx+1⟩:=by
 have G1:=G.other (G.notin (Nat.le_refl _)) (.list (strDs T)) (Nat.le_succ nx)
 have hr3:=(RO.l r hr).2
 have hfr:=RO.f r hr
 have hle:rest.length<=r.1.length:=by rw [<- hp,List.length_take]; exact Nat.min_le_right _ _
 obtain ⟨z1,z2,z3⟩:=hz
 have hk:∀ i ∈ r.1.drop rest.length,KindOk i:=fun i hi=>RO.k r hr i (List.mem_of_mem_drop hi)
 have hl2:(r.1.drop rest.length).length<=200:=by rw [List.length_drop]; omega
 have note:=note_tr (prog:=prog) (w:=w) (k:=k) (L:=L) G1 z (r.1.drop rest.length) (roadS (b ++ figS r.2) a) hk (by omega) (name_nm hl2) (road_prn (hb.app (fig_ok hfr).1) ha) z1 (by omega) (by omega)
 have hkl:(rest.map D.int).length=rest.length:=List.length_map _
 have ep:(r.1.drop rest.length).map D.int=pickD (r.1.map D.int) (some ((rest.map D.int).length:Nat)) none:=by
  rw [hkl,pick_i _ _ (by rw [List.length_map]; exact hle),List.map_drop]
 rw [ep] at note
 have hz2:(r.1.map D.int).length<=100000:=by rw [List.length_map]; omega
 have ln:∀ M N0,CallTr prog w (KK w) bt (k+4) (.k (.builtin "len")) [.d (.lst (rest.map D.int))] [] M N0 (.d (.int (rest.map D.int).length)) M N0:=fun M N0=>len_ints _ (by rw [hkl]; omega)
 show BTr prog w (KK w) bt (k+4) (wkF w) (forBody (wk6 w)) _ .next ⟨_,[],vw x (upd m nx (.list (strDs T))) L [] (strDs (noteF z (r.1.drop rest.length) (roadS (b ++ figS r.2) a)).2) (noteF z (r.1.drop rest.length) (roadS (b ++ figS r.2) a)).1,nx+1⟩
 unfold rT
 generalize noteF z (r.1.drop rest.length) (roadS (b ++ figS r.2) a)=z' at note ⊢
 show BTr prog w (KK w) bt (k+4) (wkF w) (forBody (wk6 w)) ⟨_,[],vw x (upd m nx (.list (strDs T))) L [] (strDs z.2) z.1,nx+1⟩ .next _
 generalize vw x (upd m nx (.list (strDs T))) L [] (strDs z.2) z.1=M at note ⊢
 generalize vw x (upd m nx (.list (strDs T))) L [] (strDs z'.2) z'.1=M2 at note ⊢
 generalize r.1.map D.int=kr at note hz2 ⊢
 generalize rest.map D.int=ks at note ln ⊢
 generalize strDs signsL=S at note ⊢
 have l2:=(fig_ok hfr).2
 have f2:=fig_str (prog:=prog) (w:=w) (k:=k+4) (m:=M) (nx:=nx+1) hfr
 unfold roadS at note
 generalize figS r.2=sr at note l2 f2
 exact BTr.runS 60 [(cx prog w (k+4) M (nx+1)).itemT [.lst kr,.int r.2] 0 0 (.lst kr) rfl rfl (by decide),.call (ln M (nx+1)),
  (cx prog w (k+4) M (nx+1)).slc (.d (.lst kr)) (.d (.int (ks.length:Nat))) (.d .none) kr (some (ks.length:Nat)) none rfl trivial rfl rfl hz2,
  (cx prog w (k+4) M (nx+1)).itemT [.lst kr,.int r.2] 1 1 (.int r.2) rfl rfl (by decide),.call f2,(cx prog w (k+4) M (nx+1)).addS false b sr (b ++ sr) rfl (by rw [sizeLine_eq]; omega),
  (cx prog w (k+4) M (nx+1)).addS false (b ++ sr) "/" (b ++ sr ++ "/") rfl (by rw [str_len,sizeLine_eq,show ("/" : Str).length=1 from rfl]; omega),
  (cx prog w (k+4) M (nx+1)).addS false (b ++ sr ++ "/") a (b ++ sr ++ "/" ++ a) rfl (by rw [str_len,str_len,sizeLine_eq,show ("/" : Str).length=1 from rfl]; omega),.call note] (by kernel_rfl)
noncomputable def walk5 (rows:List Row) (rest:List Int) (a b:Str) (z:SQ):SQ:=(List.range' 1 (rest.length - 1)).foldl (size5 rows rest a b) z
theorem size5_zb {rows:List Row} (RO:RowsOk rows) {rest:List Int} (hr:rest.length<=200) (a b:Str) {c:Nat} {z:SQ} (h:ZB c z) (n:Nat):ZB (c+3) (size5 rows rest a b z n):=
 (fold5_zb rest hr a b n _ h).up (Nat.add_le_add_left (Nat.le_trans (found_len _ _ _) RO.z) c)
theorem walk6_zb {rows:List Row} (RO:RowsOk rows) (rest:List Int) (a b:Str) {c:Nat} {z:SQ} (h:ZB c z):ZB (c+3) (walk6 rows rest a b z):=
 (fold6_zb rest a b _ h fun o ho=>Nat.le_trans (RO.l o (List.mem_filter.mp ho).1).2 (by decide)).up (Nat.add_le_add_left (Nat.le_trans (found_len _ _ _) RO.z) c)
theorem folds_zb {rows:List Row} (RO:RowsOk rows) {rest:List Int} (hr:rest.length<=200) (a b:Str):∀ (l:List Nat) {c:Nat} {z:SQ},ZB c z->ZB (c+3 * l.length) (l.foldl (size5 rows rest a b) z)
 | [],_,_,h=>h
 | r :: l,c,z,h=>(folds_zb RO hr a b l (size5_zb RO hr a b h r)).up (by rw [List.length_cons]; omega)
noncomputable abbrev wk5I (w:World):Stmt:=nthS (forBody (wk5 w)) 0
theorem loop6 (G:Good w x m nx) {rows:List Row} (RO:RowsOk rows) {jt:Nat} {cA:Addr} (hj:jt < nx) (hx:jt ∉ x.all) (hm:m jt=.tab cA) (hc:(fdF w).code=some cA) {rest:List Int} (hl:rest.length<=200) {z:SQ} (hz:ZB 800 z) (T:List Str) (nm a b:Str) (ha:Dig a) (hb:Dig b) (la:a.length<=1000) (lb:b.length<=1000) :
  STr prog w (KK w) bt (k+4) (wkF w) (wk6 w) ⟨Vk x nx (rows.map rT) (strDs signsL) nm (rest.map D.int) a b,[],wkM x m nx L T z,nx+1⟩ .next ⟨Vk x nx (rows.map rT) (strDs signsL) nm (rest.map D.int) a b,[],wkM x m nx L T (walk6 rows rest a b z),nx+1⟩:=by
 have fd:=found_tr (prog:=prog) (w:=w) (k:=k+1) (m:=wkM x m nx L T z) (nx:=nx+1) rest rest.length RO.srt (fun r hr=>Nat.le_trans (RO.l r hr).2 (by decide)) (Nat.le_trans RO.z (by decide)) (Nat.lt_succ_of_lt hj) (wk_tab G hj hx hm T z) hc
 have hkl:(rest.map D.int).length=rest.length:=List.length_map _
 have ln:∀ M N0,CallTr prog w (KK w) bt (k+4) (.k (.builtin "len")) [.d (.lst (rest.map D.int))] [] M N0 (.d (.int rest.length)) M N0:=fun M N0=>hkl ▸ len_ints (rest.map D.int) (by rw [hkl]; omega)
 have loop:=for_fold (prog:=prog) (w:=w) (K:=KK w) (btab:=bt) (k:=k+4) (φ:=wkF w) (t:=forTgt (wk6 w)) (b:=forBody (wk6 w)) (a:=.d (.lst ((foundF rows rest rest.length).map rT))) (ds0:=(foundF rows rest rest.length).map rT) (fz:=[]) (nx:=nx+1)
  (V:=fun _:SQ=>Vk x nx (rows.map rT) (strDs signsL) nm (rest.map D.int) a b) (M:=fun z=>wkM x m nx L T z) (step:=step6 rest a b) (gD:=rT) (VX:=fun _ r=>("row",.d (rT r)) :: Vk x nx (rows.map rT) (strDs signsL) nm (rest.map D.int) a b) (foundF rows rest rest.length) z _ (.refl _) (fun pre r post he=>by
   obtain ⟨hmem,hlen⟩:=pre_mem he
   have hlen2:=Nat.lt_of_lt_of_le hlen (Nat.le_trans (found_len rows rest rest.length) RO.z)
   obtain ⟨hm1,hm2⟩:=List.mem_filter.mp hmem
   have zb:=fold6_zb rest a b pre hz fun y hy=>Nat.le_trans (RO.l y (List.mem_filter.mp (he ▸ List.mem_append.mpr (.inl hy))).1).2 (by decide)
   exact ⟨rfl,takes_nameN "row" (by kernel_rfl) (by kernel_rfl),.next,_,.inl rfl,turn6 G RO hl hm1 (of_decide_eq_true hm2) (zb.up (by omega)) T _ nm a b ha hb la lb,.refl _⟩) rfl
 generalize wkM x m nx L T z=M at fd loop ⊢
 exact STr.forP (.d (.lst ((foundF rows rest rest.length).map rT))) ((foundF rows rest rest.length).map rT) 20 [.call (ln M (nx+1)),.call fd] (by kernel_rfl) (by kernel_rfl) rfl loop
theorem turn5 (G:Good w x m nx) {rows:List Row} (RO:RowsOk rows) {rest:List Int} (hk:∀ i ∈ rest,KindOk i) (hl:rest.length<=200) {n:Nat} (hn:n<=rest.length) {r:Row} (hr:r ∈ rows) {z:SQ} (hz:ZB 900 z) (T:List Str) (R:List D) (nm a b:Str) (ha:Dig a) (hb:Dig b) (la:a.length<=1000) (lb:b.length<=1000) :
  BTr prog w (KK w) bt (k+4) (wkF w) (forBody (wk5I w)) ⟨("row",.d (rT r)) :: ("size",.d (.int n)) :: Vk x nx R (strDs signsL) nm (rest.map D.int) a b,[],wkM x m nx L T z,nx+1⟩ .next ⟨("size",.d (.int n)) :: Vk x nx R (strDs signsL) nm (rest.map D.int) a b,[],wkM x m nx L T (step5 rest a b n z r),nx+1⟩:=by
 have G1:=G.other (G.notin (Nat.le_refl _)) (.list (strDs T)) (Nat.le_succ nx)
 have hfr:=RO.f r hr
 obtain ⟨z1,z2,z3⟩:=hz
 have hk2:∀ i ∈ rest.drop n,KindOk i:=fun i hi=>hk i (List.mem_of_mem_drop hi)
 have hl2:(rest.drop n).length<=200:=by rw [List.length_drop]; omega
 have note:=note_tr (prog:=prog) (w:=w) (k:=k) (L:=L) G1 z (rest.drop n) (roadS a (b ++ figS r.2)) hk2 (by omega) (name_nm hl2) (road_prn ha (hb.app (fig_ok hfr).1)) z1 (by omega) (by omega)
 have hkl:(rest.map D.int).length=rest.length:=List.length_map _
 have ep:(rest.drop n).map D.int=pickD (rest.map D.int) (some (n:Nat)) none:=by rw [pick_i _ _ (by rw [hkl]; exact hn),List.map_drop]
 rw [ep] at note
 have hz2:(rest.map D.int).length<=100000:=by rw [hkl]; omega
 show BTr prog w (KK w) bt (k+4) (wkF w) (forBody (wk5I w)) ⟨_,[],vw x (upd m nx (.list (strDs T))) L [] (strDs z.2) z.1,nx+1⟩ .next ⟨_,[],vw x (upd m nx (.list (strDs T))) L [] (strDs (noteF z (rest.drop n) (roadS a (b ++ figS r.2))).2) (noteF z (rest.drop n) (roadS a (b ++ figS r.2))).1,nx+1⟩
 unfold rT
 generalize noteF z (rest.drop n) (roadS a (b ++ figS r.2))=z' at note ⊢
 generalize vw x (upd m nx (.list (strDs T))) L [] (strDs z.2) z.1=M at note ⊢
 generalize vw x (upd m nx (.list (strDs T))) L [] (strDs z'.2) z'.1=M2 at note ⊢
 generalize r.1.map D.int=kr
 generalize rest.map D.int=ks at note hz2 ⊢
 generalize strDs signsL=S at note ⊢
 have l2:=(fig_ok hfr).2
 have f2:=fig_str (prog:=prog) (w:=w) (k:=k+4) (m:=M) (nx:=nx+1) hfr
 have er:roadS a (b ++ figS r.2)=a ++ "/" ++ b ++ figS r.2:=(Str.append_assoc (a ++ "/") b (figS r.2)).symm
 rw [er] at note
 generalize figS r.2=sr at note l2 f2
 exact BTr.runS 60 [(cx prog w (k+4) M (nx+1)).slc (.d (.lst ks)) (.d (.int n)) (.d .none) ks (some n) none rfl trivial rfl rfl hz2,
  (cx prog w (k+4) M (nx+1)).addS false a "/" (a ++ "/") rfl (by rw [sizeLine_eq,show ("/" : Str).length=1 from rfl]; omega),(cx prog w (k+4) M (nx+1)).addS false (a ++ "/") b (a ++ "/" ++ b) rfl (by rw [str_len,sizeLine_eq,show ("/" : Str).length=1 from rfl]; omega),
  (cx prog w (k+4) M (nx+1)).itemT [.lst kr,.int r.2] 1 1 (.int r.2) rfl rfl (by decide),.call f2,
  (cx prog w (k+4) M (nx+1)).addS false (a ++ "/" ++ b) sr (a ++ "/" ++ b ++ sr) rfl (by rw [str_len,str_len,sizeLine_eq,show ("/" : Str).length=1 from rfl]; omega),.call note] (by kernel_rfl)
theorem loop5I (G:Good w x m nx) {rows:List Row} (RO:RowsOk rows) {jt:Nat} {cA:Addr} (hj:jt < nx) (hx:jt ∉ x.all) (hm:m jt=.tab cA) (hc:(fdF w).code=some cA) {rest:List Int} (hk:∀ i ∈ rest,KindOk i) (hl:rest.length<=200) {n:Nat} (hn:n<=rest.length) {z:SQ} (hz:ZB 800 z) (T:List Str) (nm a b:Str) (ha:Dig a) (hb:Dig b) (la:a.length<=1000) (lb:b.length<=1000) :
  STr prog w (KK w) bt (k+4) (wkF w) (wk5I w) ⟨("size",.d (.int n)) :: Vk x nx (rows.map rT) (strDs signsL) nm (rest.map D.int) a b,[],wkM x m nx L T z,nx+1⟩ .next ⟨("size",.d (.int n)) :: Vk x nx (rows.map rT) (strDs signsL) nm (rest.map D.int) a b,[],wkM x m nx L T (size5 rows rest a b z n),nx+1⟩:=by
 have fd:=found_tr (prog:=prog) (w:=w) (k:=k+1) (m:=wkM x m nx L T z) (nx:=nx+1) (rest.take n) 4 RO.srt (fun r hr=>Nat.le_trans (RO.l r hr).2 (by decide)) (Nat.le_trans RO.z (by decide)) (Nat.lt_succ_of_lt hj) (wk_tab G hj hx hm T z) hc
 have hkl:(rest.map D.int).length=rest.length:=List.length_map _
 have ep:(rest.take n).map D.int=pickD (rest.map D.int) none (some (n:Nat)):=by rw [pick_take,List.map_take]
 rw [ep] at fd
 have hz2:(rest.map D.int).length<=100000:=by rw [hkl]; omega
 have loop:=for_fold (prog:=prog) (w:=w) (K:=KK w) (btab:=bt) (k:=k+4) (φ:=wkF w) (t:=forTgt (wk5I w)) (b:=forBody (wk5I w)) (a:=.d (.lst ((foundF rows (rest.take n) 4).map rT))) (ds0:=(foundF rows (rest.take n) 4).map rT) (fz:=[]) (nx:=nx+1)
  (V:=fun _:SQ=>("size",.d (.int n)) :: Vk x nx (rows.map rT) (strDs signsL) nm (rest.map D.int) a b) (M:=fun z=>wkM x m nx L T z) (step:=step5 rest a b n) (gD:=rT) (VX:=fun _ r=>("row",.d (rT r)) :: ("size",.d (.int n)) :: Vk x nx (rows.map rT) (strDs signsL) nm (rest.map D.int) a b) (foundF rows (rest.take n) 4) z _ (.refl _) (fun pre r post he=>by
   obtain ⟨hmem,hlen⟩:=pre_mem he
   have hlen2:=Nat.lt_of_lt_of_le hlen (Nat.le_trans (found_len rows (rest.take n) 4) RO.z)
   have zb:=fold5_zb rest hl a b n pre hz
   exact ⟨rfl,takes_nameN "row" (by kernel_rfl) (by kernel_rfl),.next,_,.inl rfl,turn5 G RO hk hl hn (List.mem_filter.mp hmem).1 (zb.up (by omega)) T _ nm a b ha hb la lb,.refl _⟩) rfl
 generalize wkM x m nx L T z=M at fd loop ⊢
 generalize rest.map D.int=ks at fd loop hz2 ⊢
 exact STr.forP (.d (.lst ((foundF rows (rest.take n) 4).map rT))) ((foundF rows (rest.take n) 4).map rT) 20 [(cx prog w (k+4) M (nx+1)).slc (.d (.lst ks)) (.d .none) (.d (.int n)) ks none (some n) rfl trivial rfl rfl hz2,.call fd] (by kernel_rfl) (by kernel_rfl) rfl loop
theorem rng1:∀ n:Nat,n<=3->rngD 1 (n:Int) 1=(List.range' 1 (n - 1)).map (fun i:Nat=>D.int i) /\ Builtin.Range.small 1 (n:Int) 1=true
 | 0,_=>⟨by kernel_rfl,by kernel_rfl⟩
 | 1,_=>⟨by kernel_rfl,by kernel_rfl⟩
 | 2,_=>⟨by kernel_rfl,by kernel_rfl⟩
 | 3,_=>⟨by kernel_rfl,by kernel_rfl⟩
 | n+4,h=>absurd h (by omega)
theorem loop5 (G:Good w x m nx) {rows:List Row} (RO:RowsOk rows) {jt:Nat} {cA:Addr} (hj:jt < nx) (hx:jt ∉ x.all) (hm:m jt=.tab cA) (hc:(fdF w).code=some cA) {rest:List Int} (hk:∀ i ∈ rest,KindOk i) (hl:rest.length<=3) {z:SQ} (hz:ZB 700 z) (T:List Str) (nm a b:Str) (ha:Dig a) (hb:Dig b) (la:a.length<=1000) (lb:b.length<=1000) :
  STr prog w (KK w) bt (k+4) (wkF w) (wk5 w) ⟨Vk x nx (rows.map rT) (strDs signsL) nm (rest.map D.int) a b,[],wkM x m nx L T z,nx+1⟩ .next ⟨Vk x nx (rows.map rT) (strDs signsL) nm (rest.map D.int) a b,[],wkM x m nx L T (walk5 rows rest a b z),nx+1⟩:=by
 have hkl:(rest.map D.int).length=rest.length:=List.length_map _
 have ln:∀ M N0,CallTr prog w (KK w) bt (k+4) (.k (.builtin "len")) [.d (.lst (rest.map D.int))] [] M N0 (.d (.int rest.length)) M N0:=fun M N0=>hkl ▸ len_ints (rest.map D.int) (by rw [hkl]; omega)
 obtain ⟨rd,rs⟩:=rng1 rest.length hl
 have loop:=for_fold (prog:=prog) (w:=w) (K:=KK w) (btab:=bt) (k:=k+4) (φ:=wkF w) (t:=forTgt (wk5 w)) (b:=forBody (wk5 w)) (a:=.d (.rng 1 (rest.length:Nat) 1)) (ds0:=rngD 1 (rest.length:Nat) 1) (fz:=[]) (nx:=nx+1)
  (V:=fun _:SQ=>Vk x nx (rows.map rT) (strDs signsL) nm (rest.map D.int) a b) (M:=fun z=>wkM x m nx L T z) (step:=size5 rows rest a b) (gD:=fun i:Nat=>D.int i) (VX:=fun _ i=>("size",.d (.int i)) :: Vk x nx (rows.map rT) (strDs signsL) nm (rest.map D.int) a b) (List.range' 1 (rest.length - 1)) z _ (.refl _) (fun pre i post he=>by
   obtain ⟨hmem,hlen⟩:=pre_mem he
   rw [List.length_range'] at hlen
   have hi:=List.mem_range'_1.mp hmem
   have zb:=folds_zb RO (Nat.le_trans hl (by decide)) a b pre hz
   have st:=loop5I (prog:=prog) (k:=k) (L:=L) G RO hj hx hm hc hk (Nat.le_trans hl (by decide)) (n:=i) (by omega) (zb.up (c:=800) (by omega)) T nm a b ha hb la lb
   refine ⟨⟨rs,rfl⟩,takes_nameN "size" (by kernel_rfl) (by kernel_rfl),.next,Vk x nx (rows.map rT) (strDs signsL) nm (rest.map D.int) a b,.inl rfl,?_,.refl _⟩
   exact BTr.runS 20 [.stm st] (by kernel_rfl)) ⟨rs,rfl⟩
 rw [<- rd] at loop
 generalize wkM x m nx L T z=M at loop ⊢
 exact STr.forP (.d (.rng 1 (rest.length:Nat) 1)) (rngD 1 (rest.length:Nat) 1) 20 [.call (ln M (nx+1)),(cx prog w (k+4) M (nx+1)).range2 1 (rest.length:Nat)] (by kernel_rfl) (by kernel_rfl) ⟨rs,rfl⟩ loop
end
theorem split_parts (x y:Str):(Builtin.Str.partsBetween x (Builtin.Str.occurrences x y 0 x.length (x.length+1)) y.length).length<=x.length+2:=by
 have e:∀ (cuts:List Nat) (v:Nat),(Builtin.Str.partsBetween x cuts v).length=cuts.length+1:=fun cuts v=>by simp [Builtin.Str.partsBetween]
 rw [e]
 exact Nat.succ_le_succ (StrLaws.occ_length_le _ _ _ _ _)
noncomputable def RestW (nm:Str) (ks:List Int):Prop:=A4 (nm.length<=1000) ((Txt.split nm " ").length<=1000) (∀ y ∈ Txt.split nm " ",(!decide (y=Str.empty))=true->(tokTab.lookup y).isSome=true) (((Txt.split nm " ").filter fun y=>!decide (y=Str.empty)).map tokV=ks)
theorem restw_nil:RestW (nameF []) []:=by
 have e:nameF []=Str.empty:=by kernel_rfl
 have e2:Txt.split Str.empty " " = [Str.empty]:=by kernel_rfl
 rw [e]
 refine ⟨by decide,by rw [e2]; decide,fun y hy h=>?_,by rw [e2]; kernel_rfl⟩
 rw [e2] at hy
 rw [List.mem_singleton.mp hy] at h
 exact absurd h (by decide)
theorem restw {rest:List Int} (hr:∀ k ∈ rest,KindOk k) (h:rest ≠ []) (hl:rest.length<=200):RestW (nameF rest) rest:=by
 have hn:=(name_nm hl).1
 have e:=name_words hr h
 refine ⟨hn,by rw [e,List.length_map]; omega,fun y hy _=>?_,?_⟩
 ·rw [e] at hy
  obtain ⟨k,hk,rfl⟩:=List.mem_map.mp hy
  rw [(sign_ok (hr k hk)).3]
  rfl
 ·rw [e,List.filter_eq_self.mpr fun y hy=>by
   obtain ⟨k,hk,rfl⟩:=List.mem_map.mp hy
   exact congrArg (!·) (decide_eq_false (sign_ok (hr k hk)).2),List.map_map]
  refine (List.map_congr_left fun k hk=>?_).trans (List.map_id _)
  show tokV (signF k)=k
  unfold tokV
  rw [(sign_ok (hr k hk)).3]
  rfl
section
variable {prog:Program} {w:World} {k:Nat} {m:Nat->MO} {nx:Nat}
noncomputable abbrev wk2 (w:World):Stmt:=nthS (forBody (wkW w)) 2
noncomputable def Vm (n h t:Nat) (R S:List D) (nm:Str):List (Str × AV):=[("lexer",.loc n),("rows",.d (.lst R)),("seen",.loc h),("signs",.d (.lst S)),("taken",.loc t),("name",.d (.str nm))]
theorem rest_str {nm:Str} {ks:List Int} (H:RestW nm ks) (n h t:Nat) (R S:List D) :
  STr prog w (KK w) bt k (wkF w) (wk2 w) ⟨Vm n h t R S nm,[],m,nx⟩ .next ⟨setv "rest" (.d (.lst (ks.map D.int))) (Vm n h t R S nm),[],m,nx⟩:=by
 obtain ⟨h1,h2,h3,h4⟩:=H
 have hp:=split_parts nm " "
 have e:ks.map D.int=((Txt.split nm " ").filter fun y=>!decide (y=Str.empty)).map fun y=>D.int (tokV y):=by rw [<- h4,List.map_map]; rfl
 rw [e]
 have hi:(lcFirst (asVal (wk2 w))).ifs = [(lcFirst (asVal (wk2 w))).ifs.headD (.Constant .none 0 default)]:=by kernel_rfl
 generalize hV:Vm n h t R S nm=V
 generalize hws:Txt.split nm " " = ws at h2 h3 ⊢
 refine STr.ofLoopP (by kernel_rfl) (by kernel_rfl) (by kernel_rfl) (a:=.d (.lst (strDs ws))) (ds:=ws.map D.str)
  (ETr.runE 20 [(cx prog w k m nx).mSplit nm,(cx prog w k m nx).cSplit nm " " ws hws (by kernel_rfl) (by rw [sizeLine_eq]; omega) (by rw [sizeLine_eq]; omega)] (by subst hV; kernel_rfl)) rfl
  (loop1 (st:=⟨V,[],m,nx⟩) (a:=.d (.lst (strDs ws))) (xs:=ws) (gD:=D.str) (p:=fun y=>!decide (y=Str.empty)) (f:=fun y=>D.int (tokV y)) (by kernel_rfl) rfl (tgt_nameN "word" (by kernel_rfl) (by kernel_rfl) (by subst hV; kernel_rfl)) (.inr ⟨_,hi,fun y hy l'=>?_⟩) (fun y hy hp l'=>?_) (by omega))
 ·show TTr _ _ _ _ _ _ _ _ (!decide (y=Str.empty)) _
  generalize hb:(!decide (y=Str.empty))=b
  subst hV
  exact TTr.runE 30 [.br (!decide (y=Str.empty)) b hb] (by kernel_rfl)
 ·obtain ⟨v,hv⟩:=Option.isSome_iff_exists.mp (h3 y hy hp)
  have ev:tokV y=v:=by unfold tokV; rw [hv]; rfl
  rw [ev]
  subst hV
  exact ETr.runE 20 [(cx prog w k (upd m nx (.list l')) (nx+1)).itemTop (fa w "EXACT_TOKEN_TYPES") tokTab tok_top y v hv] (by kernel_rfl)
end
section
variable {prog:Program} {w:World} {k:Nat} {m:Nat->MO} {nx:Nat} {x:Ix} {L:Int}
noncomputable def Nxt (q:List Str) (nm:Str) (q':List Str):Prop:=q=nm :: q' \/ q = [] /\ nm=Str.empty /\ q' = []
theorem gt_z (G:Good w x m nx) (T:List Str) {kvs:List (Str × Str)} {q q':List Str} {nm:Str} (hq:Nxt q nm q') (hz:q.length<=1000) :
  CallTr prog w (KK w) bt (k+4) (.k (.ref (gtA w))) [.loc x.n] [] (wkM x m nx L T (kvs,q)) (nx+1) (.d (.str nm)) (wkM x m nx L T (kvs,q')) (nx+1):=by
 have G1:=G.other (G.notin (Nat.le_refl _)) (.list (strDs T)) (Nat.le_succ nx)
 have S:=G1.sep
 rcases hq with e | ⟨e1,e2,e3⟩
 ·subst e
  have X:=G1.lex (L:=L) (cs:=[]) (push:=strDs (nm :: q')) (kvs:=kvs)
  have gt:=gt_push (prog:=prog) (k:=k+3) (.str nm) (strDs q') X (by rw [strDs_len]; rw [List.length_cons] at hz; omega)
  rw [vw_push S] at gt
  exact gt.call
 ·subst e1 e2 e3
  have X:=G1.lex (L:=L) (cs:=[]) (push:=[]) (kvs:=kvs)
  have gt:=gt_end (prog:=prog) (k:=k) [] (fun _ h=>(nomatch h)) X ⟨by decide,fun _ h=>(nomatch h)⟩
  rw [vw_lex S,show L+nls []=L from Int.add_zero L] at gt
  exact gt.call
theorem wk_at (G:Good w x m nx) (T:List Str) (z:SQ):wkM x m nx L T z nx=.list (strDs T):=
 ((G.other (G.notin (Nat.le_refl _)) (.list (strDs T)) (Nat.le_succ nx)).vat (G.notin (Nat.le_refl _))).trans (upd_at _ _ _)
theorem wk_app (G:Good w x m nx) (T:List Str) (y:Str) (z:SQ):upd (wkM x m nx L T z) nx (.list (strDs T ++ [.str y]))=wkM x m nx L (T ++ [y]) z:=by
 rw [<- strDs_snoc]
 refine ((G.other (G.notin (Nat.le_refl _)) (.list (strDs T)) (Nat.le_succ nx)).vupd (G.notin (Nat.le_refl _)) _).trans ?_
 rw [upd_same]
theorem wk_stop (G:Good w x m nx) (T:List Str) (R S:List D) {kvs:List (Str × Str)} {q q':List Str} (hq:Nxt q Str.empty q') (hz:q.length<=1000) (hT:T.length<=1000) :
  BTr prog w (KK w) bt (k+4) (wkF w) (forBody (wkW w)) ⟨Vw x nx R S,[],wkM x m nx L T (kvs,q),nx+1⟩ (.ret (.d (.lst (strDs (T ++ [Str.empty]))))) ⟨[],[],upd (wkM x m nx L (T ++ [Str.empty]) (kvs,q')) nx .junk,nx+1⟩:=by
 have gt:=gt_z (prog:=prog) (k:=k) (L:=L) G T (kvs:=kvs) hq hz
 have X:=(G.other (G.notin (Nat.le_refl _)) (.list (strDs T)) (Nat.le_succ nx)).lex (L:=L) (cs:=[]) (push:=strDs q) (kvs:=kvs)
 have x1:wkM x m nx L T (kvs,q) x.n=_:=X.i1
 have x2:wkM x m nx L T (kvs,q) x.j=_:=X.i2
 have c2:=wk_at (L:=L) G T (kvs,q')
 have c3:=wk_at (L:=L) G (T ++ [Str.empty]) (kvs,q')
 have em:=wk_app (L:=L) G T Str.empty (kvs,q')
 have hTl:(strDs T).length<=100000:=by rw [strDs_len]; omega
 have rs:=rest_str (prog:=prog) (w:=w) (k:=k+4) (m:=wkM x m nx L (T ++ [Str.empty]) (kvs,q')) (nx:=nx+1) restw_nil x.n x.h nx R S
 rw [show nameF []=Str.empty by kernel_rfl] at rs
 rw [strDs_snoc] at c3 ⊢
 unfold Vm at rs
 unfold Vw
 have xn:x.n < nx+1:=X.ln
 generalize wkM x m nx L (T ++ [Str.empty]) (kvs,q')=M3 at rs c3 em ⊢
 generalize wkM x m nx L T (kvs,q')=M2 at c2 gt em
 generalize wkM x m nx L T (kvs,q)=M1 at x1 x2 gt ⊢
 generalize strDs T=Ts at c2 c3 em hTl ⊢
 exact BTr.runS 60 [(cx prog w (k+4) M1 (nx+1)).mFn x.n x.j (netC w) (gtA w) (lexNs L (.loc x.s) x.p) "get_token" xn x1 x2 (by kernel_rfl) (by kernel_rfl),.call gt,
  (cx prog w (k+4) M2 (nx+1)).mAppend (.loc nx) Ts ⟨Nat.lt_succ_self _,c2⟩ trivial,(cx prog w (k+4) M2 (nx+1)).cAppend nx Ts (.str Str.empty) (Nat.lt_succ_self _) c2 hTl M3 em,.stm rs,
  .lst [.int 0] false (by decide),(cx prog w (k+4) M3 (nx+1)).addL (.d (.lst [])) (.d (.lst [.int 0])) [] [.int 0] rfl trivial rfl trivial (by decide),(cx prog w (k+4) M3 (nx+1)).item [.int 0] 0 0 (.int 0) rfl rfl (by decide),
  .call (CodeTr.call (iseof_tr (prog:=prog) (w:=w) (k:=k+3) (m:=M3) (nx:=nx+1) 0)),.brT ((0:Int)=0) rfl,.fz M3 (nx+1) nx (Ts ++ [.str Str.empty]) c3 (Nat.lt_succ_self _)] (by kernel_rfl)
theorem walk5_zb {rows:List Row} (RO:RowsOk rows) {rest:List Int} (hl:rest.length<=3) (a b:Str) {c:Nat} {z:SQ} (h:ZB c z):ZB (c+6) (walk5 rows rest a b z):=by
 refine (folds_zb RO (Nat.le_trans hl (by decide)) a b _ h).up ?_
 rw [List.length_range']
 omega
theorem wk_turn (G:Good w x m nx) {rows:List Row} (RO:RowsOk rows) {jt:Nat} {cA:Addr} (hj:jt < nx) (hx:jt ∉ x.all) (hm:m jt=.tab cA) (hc:(fdF w).code=some cA) (T:List Str) {rest:List Int} (hk:∀ i ∈ rest,KindOk i) (hl:rest.length<=3) (hne:rest ≠ []) {kvs:List (Str × Str)} {q':List Str} {a b:Str} (hg:getF kvs (nameF rest)=some (roadS a b)) (hz:ZB 700 (kvs,nameF rest :: q')) (hT:T.length<=1000) (ha:Dig a) (hb:Dig b) (la:a.length<=1000) (lb:b.length<=1000) :
  BTr prog w (KK w) bt (k+4) (wkF w) (forBody (wkW w)) ⟨Vw x nx (rows.map rT) (strDs signsL),[],wkM x m nx L T (kvs,nameF rest :: q'),nx+1⟩ .next ⟨Vw x nx (rows.map rT) (strDs signsL),[],wkM x m nx L (T ++ [nameF rest]) (walk6 rows rest a b (walk5 rows rest a b (kvs,q'))),nx+1⟩:=by
 obtain ⟨z1,z2,z3⟩:=hz
 have hz':ZB 700 (kvs,q'):=⟨z1,z2,Nat.le_of_succ_le z3⟩
 obtain ⟨n1,n2,n3⟩:=name_nm (Nat.le_trans hl (by decide:3<=200))
 have gt:=gt_z (prog:=prog) (k:=k) (L:=L) G T (kvs:=kvs) (q:=nameF rest :: q') (.inl rfl) (Nat.le_trans z3 (by decide))
 have X:=(G.other (G.notin (Nat.le_refl _)) (.list (strDs T)) (Nat.le_succ nx)).lex (L:=L) (cs:=[]) (push:=strDs (nameF rest :: q')) (kvs:=kvs)
 have x1:wkM x m nx L T (kvs,nameF rest :: q') x.n=_:=X.i1
 have x2:wkM x m nx L T (kvs,nameF rest :: q') x.j=_:=X.i2
 have c2:=wk_at (L:=L) G T (kvs,q')
 have em:=wk_app (L:=L) G T (nameF rest) (kvs,q')
 have hTl:(strDs T).length<=100000:=by rw [strDs_len]; omega
 have rs:=rest_str (prog:=prog) (w:=w) (k:=k+4) (m:=wkM x m nx L (T ++ [nameF rest]) (kvs,q')) (nx:=nx+1) (restw hk hne (Nat.le_trans hl (by decide))) x.n x.h nx (rows.map rT) (strDs signsL)
 have XH:=(G.other (G.notin (Nat.le_refl _)) (.list (strDs (T ++ [nameF rest]))) (Nat.le_succ nx)).hd (L:=L) (cs:=[]) (push:=strDs q') (kvs:=kvs)
 have h1:wkM x m nx L (T ++ [nameF rest]) (kvs,q') x.h=_:=XH.i1
 have h2:wkM x m nx L (T ++ [nameF rest]) (kvs,q') x.g=_:=XH.i2
 have get:CodeTr prog w (KK w) bt (k+4) (.k (.ref (hgA w))) [.loc x.h,.d (.str (nameF rest))] [] (wkM x m nx L (T ++ [nameF rest]) (kvs,q')) (nx+1) _ (wkM x m nx L (T ++ [nameF rest]) (kvs,q')) (nx+1):=hd_get (prog:=prog) (k:=k+2) XH (nameF rest) n1 n3 z1
 rw [hg] at get
 have l5:=loop5 (prog:=prog) (k:=k) (L:=L) G RO hj hx hm hc hk hl hz' (T ++ [nameF rest]) (nameF rest) a b ha hb la lb
 have l6:=loop6 (prog:=prog) (k:=k) (L:=L) G RO hj hx hm hc (Nat.le_trans hl (by decide)) ((walk5_zb RO hl a b hz').up (c:=800) (by decide)) (T ++ [nameF rest]) (nameF rest) a b ha hb la lb
 have xn:x.n < nx+1:=X.ln
 have xh:x.h < nx+1:=XH.ln
 have sp:=road_split ha hb
 have pp:=split_parts (roadS a b) "/"
 have rl:=road_len a b
 obtain ⟨i,r0,e0⟩ : ∃ i r0,rest=i :: r0:=by
  cases rest with
  | nil=>exact absurd rfl hne
  | cons i r0=>exact ⟨i,r0,rfl⟩
 have hi:¬ (i:Int)=0:=by have:=(hk i (e0 ▸ List.mem_cons_self ..)).1; omega
 have eK:rest.map D.int=.int i :: r0.map D.int:=by rw [e0]; rfl
 have lK:(r0.map D.int).length<=3:=by rw [List.length_map]; rw [e0,List.length_cons] at hl; omega
 generalize walk6 rows rest a b (walk5 rows rest a b (kvs,q'))=z6 at l6 ⊢
 generalize walk5 rows rest a b (kvs,q')=z5 at l5 l6
 rw [eK] at rs l5 l6
 clear eK e0 hk hl hne
 unfold Vm at rs
 unfold Vk at l5 l6
 unfold Vw
 generalize nameF rest=nm at *
 generalize rows.map rT=R at *
 generalize strDs signsL=S at *
 generalize wkM x m nx L (T ++ [nm]) z6=M5 at *
 generalize wkM x m nx L (T ++ [nm]) z5=M4 at *
 generalize wkM x m nx L (T ++ [nm]) (kvs,q')=M3 at *
 generalize wkM x m nx L T (kvs,q')=M2 at *
 generalize wkM x m nx L T (kvs,nm :: q')=M1 at *
 generalize strDs T=Ts at c2 em hTl
 generalize roadS a b=rd at *
 generalize r0.map D.int=Kr at *
 exact BTr.runS 60 [(cx prog w (k+4) M1 (nx+1)).mFn x.n x.j (netC w) (gtA w) (lexNs L (.loc x.s) x.p) "get_token" xn x1 x2 (by kernel_rfl) (by kernel_rfl),.call gt,
  (cx prog w (k+4) M2 (nx+1)).mAppend (.loc nx) Ts ⟨Nat.lt_succ_self _,c2⟩ trivial,(cx prog w (k+4) M2 (nx+1)).cAppend nx Ts (.str nm) (Nat.lt_succ_self _) c2 hTl M3 em,.stm rs,
  .lst [.int 0] false (by decide),(cx prog w (k+4) M3 (nx+1)).addL (.d (.lst (.int i :: Kr))) (.d (.lst [.int 0])) (.int i :: Kr) [.int 0] rfl trivial rfl trivial (by rw [List.length_cons,List.length_singleton]; omega),(cx prog w (k+4) M3 (nx+1)).item (.int i :: Kr ++ [.int 0]) 0 0 (.int i) rfl rfl (by decide),
  .call (CodeTr.call (iseof_tr (prog:=prog) (w:=w) (k:=k+3) (m:=M3) (nx:=nx+1) i)),.brF ((i:Int)=0) hi,
  (cx prog w (k+4) M3 (nx+1)).mFn x.h x.g (hdC w) (hgA w) [("_headers",.loc x.l)] "get" xh h1 h2 (by kernel_rfl) (by kernel_rfl),.call get.call,
  (cx prog w (k+4) M3 (nx+1)).mSplit rd,(cx prog w (k+4) M3 (nx+1)).cSplit rd "/" [a,b] sp (by kernel_rfl) (by rw [sizeLine_eq]; omega) (by rw [sizeLine_eq]; omega),.stm l5,.stm l6] (by kernel_rfl)
noncomputable abbrev AR:=List Int × List Int × List Int
noncomputable def digS (l:List Int):Str:=l.foldl (fun s i=>s ++ figS i) Str.empty
theorem digS_snoc (l:List Int) (i:Int):digS (l ++ [i])=digS l ++ figS i:=by unfold digS; rw [List.foldl_append]; rfl
theorem digS_one (i:Int):digS [i]=figS i:=by
 refine str_ext ?_
 show ((Str.empty).cps ++ (figS i).cps).toList=_
 rw [Array.toList_append]
 rfl
theorem fpos {α:Type} (p:α->Bool) {e:α} {s:List α} (h:p e=true):(e :: s).find? p=some e:=List.find?_cons_of_pos h
theorem fneg {α:Type} (p:α->Bool) {e:α} {s:List α} (h:¬ p e=true):(e :: s).find? p=s.find? p:=List.find?_cons_of_neg h
noncomputable def imgS (s:List AR):List (Str × Str):=s.map fun e=>(nameF e.1,roadS (digS e.2.1) (digS e.2.2))
noncomputable def img (s:List AR) (i:Nat):SQ:=(imgS s,(s.drop i).map fun e=>nameF e.1)
noncomputable def noteA (s:List AR) (e:AR):List AR:=if s.any (fun x=>decide (x.1=e.1)) then s else s ++ [e]
noncomputable def Rk (r:List Int):Prop:=(∀ k ∈ r,KindOk k) /\ r.length<=3
noncomputable def AOk (s:List AR):Prop:=∀ e ∈ s,Rk e.1
theorem restw_all {r:List Int} (h:Rk r):RestW (nameF r) r:=by
 by_cases e:r = []
 ·rw [e]; exact restw_nil
 ·exact restw h.1 e (Nat.le_trans h.2 (by decide))
theorem name_inj {r r':List Int} (h:Rk r) (h':Rk r') (e:nameF r=nameF r'):r=r':=by
 obtain ⟨-,-,-,a⟩:=restw_all h
 obtain ⟨-,-,-,b⟩:=restw_all h'
 rw [e] at a
 exact a.symm.trans b
theorem getF_img {s:List AR} (hs:AOk s) {r:List Int} (h:Rk r):getF (imgS s) (nameF r)=(s.find? fun x=>decide (x.1=r)).map fun e=>roadS (digS e.2.1) (digS e.2.2):=by
 unfold getF imgS
 rw [name_lower]
 induction s with
 | nil=>rfl
 | cons e s ih=>
  have ih:=ih fun x hx=>hs x (List.mem_cons_of_mem _ hx)
  rw [List.map_cons]
  generalize hrd:roadS (digS e.2.1) (digS e.2.2)=rd
  by_cases q:e.1=r
  ·have a:decide (Txt.lower (nameF e.1)=nameF r)=true:=decide_eq_true (by rw [name_lower,q])
   rw [fpos (fun kv:Str × Str=>decide (Txt.lower kv.1=nameF r)) (e:=(nameF e.1,rd)) a,fpos (fun x:AR=>decide (x.1=r)) (e:=e) (decide_eq_true q)]
   exact congrArg some hrd.symm
  ·have a:¬ decide (Txt.lower (nameF e.1)=nameF r)=true:=fun z=>q (name_inj (hs e (List.mem_cons_self ..)) h ((name_lower e.1).symm.trans (of_decide_eq_true z)))
   have b:¬ decide (e.1=r)=true:=fun z=>q (of_decide_eq_true z)
   rw [fneg (fun kv:Str × Str=>decide (Txt.lower kv.1=nameF r)) (e:=(nameF e.1,rd)) a,fneg (fun x:AR=>decide (x.1=r)) (e:=e) b]
   exact ih
theorem any_find {s:List AR} (p:AR->Bool):(s.find? p).isSome=s.any p:=by
 induction s with
 | nil=>rfl
 | cons e s ih=>
  rw [List.any_cons]
  cases q:p e with
  | true=>rw [fpos p q]; rfl
  | false=>rw [fneg p (fun z=>ft (q.symm.trans z)),ih]; rfl
theorem note_img {s:List AR} (hs:AOk s) {i:Nat} (hi:i<=s.length) (e:AR) (h:Rk e.1):noteF (img s i) e.1 (roadS (digS e.2.1) (digS e.2.2))=img (noteA s e) i:=by
 have g:(getF (imgS s) (nameF e.1)).isSome=s.any (fun x=>decide (x.1=e.1)):=by
  rw [getF_img hs h,Option.isSome_map,any_find]
 unfold noteF noteA
 show (if (getF (imgS s) (nameF e.1)).isSome=true then _ else _)=_
 rw [g]
 by_cases q:s.any (fun x=>decide (x.1=e.1))=true
 ·rw [if_pos q,if_pos q]
 ·rw [if_neg q,if_neg q]
  unfold img imgS
  rw [List.map_append,List.drop_append_of_le_length hi,List.map_append]
  rfl
theorem note_ok {s:List AR} (hs:AOk s) {e:AR} (h:Rk e.1):AOk (noteA s e):=by
 unfold noteA
 by_cases q:s.any (fun x=>decide (x.1=e.1))=true
 ·rw [if_pos q]; exact hs
 ·rw [if_neg q]
  intro x hx
  rcases List.mem_append.mp hx with hx | hx
  ·exact hs x hx
  ·rw [List.mem_singleton.mp hx]; exact h
theorem note_len (s:List AR) (e:AR):s.length<=(noteA s e).length:=by
 unfold noteA
 by_cases q:s.any (fun x=>decide (x.1=e.1))=true
 ·rw [if_pos q]; exact Nat.le_refl _
 ·rw [if_neg q,List.length_append]; exact Nat.le_add_right _ _
structure Sim (i:Nat) (s:List AR) (z:SQ):Prop where
 ok:AOk s
 len:i<=s.length
 eq:z=img s i
theorem Sim.note {i:Nat} {s:List AR} {z:SQ} (h:Sim i s z) (e:AR) (he:Rk e.1):Sim i (noteA s e) (noteF z e.1 (roadS (digS e.2.1) (digS e.2.2))):=
 ⟨note_ok h.ok he,Nat.le_trans h.len (note_len _ _),by rw [h.eq,note_img h.ok h.len e he]⟩
theorem Sim.fold {α:Type} {i:Nat} (f:List AR->α->List AR) (g:SQ->α->SQ):∀ (l:List α) {s:List AR} {z:SQ},Sim i s z->(∀ x ∈ l,∀ s z,Sim i s z->Sim i (f s x) (g z x))->Sim i (l.foldl f s) (l.foldl g z)
 | [],_,_,h,_=>h
 | x :: l,s,z,h,hf=>Sim.fold f g l (hf x (List.mem_cons_self ..) s z h) fun y hy=>hf y (List.mem_cons_of_mem _ hy)
noncomputable def stepIA (r:Row) (s:List AR) (o:Row):List AR:=if o.2=r.2 then s else noteA s (o.1.drop r.1.length,[o.2],[r.2])
noncomputable def initA (rows:List Row):List AR:=rows.foldl (fun s r=>(foundF rows r.1 r.1.length).foldl (stepIA r) s) []
noncomputable def step6A (e:AR) (s:List AR) (r:Row):List AR:=noteA s (r.1.drop e.1.length,e.2.2 ++ [r.2],e.2.1)
noncomputable def step5A (e:AR) (n:Nat) (s:List AR) (r:Row):List AR:=noteA s (e.1.drop n,e.2.1,e.2.2 ++ [r.2])
noncomputable def turnA (rows:List Row) (e:AR) (s:List AR):List AR:=
 (foundF rows e.1 e.1.length).foldl (step6A e) ((List.range' 1 (e.1.length - 1)).foldl (fun s n=>(foundF rows (e.1.take n) 4).foldl (step5A e n) s) s)
theorem rk_drop {r:List Int} (h:Rk r) (n:Nat):Rk (r.drop n):=⟨fun k hk=>h.1 k (List.mem_of_mem_drop hk),by rw [List.length_drop]; exact Nat.le_trans (Nat.sub_le _ _) h.2⟩
theorem rows_rk {rows:List Row} (RO:RowsOk rows) {r:Row} (h:r ∈ rows):Rk r.1:=⟨RO.k r h,(RO.l r h).2⟩
theorem init_sim {rows:List Row} (RO:RowsOk rows):Sim 0 (initA rows) (initF rows):=by
 unfold initA initF
 refine Sim.fold _ _ rows ⟨fun _ h=>(nomatch h),Nat.zero_le _,rfl⟩ fun r hr s z h=>?_
 unfold initR
 refine Sim.fold _ _ _ h fun o ho s z h=>?_
 unfold stepIA stepI
 by_cases q:o.2=r.2
 ·rw [if_pos q,if_pos q]; exact h
 ·rw [if_neg q,if_neg q,<- digS_one o.2,<- digS_one r.2]
  exact h.note (o.1.drop r.1.length,[o.2],[r.2]) (rk_drop (rows_rk RO (List.mem_filter.mp ho).1) _)
theorem turn_sim {rows:List Row} (RO:RowsOk rows) {i:Nat} {s:List AR} {z:SQ} (h:Sim i s z) (e:AR) (he:Rk e.1):Sim i (turnA rows e s) (walk6 rows e.1 (digS e.2.1) (digS e.2.2) (walk5 rows e.1 (digS e.2.1) (digS e.2.2) z)):=by
 unfold turnA walk6 walk5
 refine Sim.fold _ _ _ (Sim.fold _ _ _ h fun n _ s z h=>?_) fun r hr s z h=>?_
 ·unfold size5
  refine Sim.fold _ _ _ h fun r hr s z h=>?_
  unfold step5A step5
  rw [<- digS_snoc]
  exact h.note (e.1.drop n,e.2.1,e.2.2 ++ [r.2]) (rk_drop he n)
 ·unfold step6A step6
  rw [<- digS_snoc]
  exact h.note (r.1.drop e.1.length,e.2.2 ++ [r.2],e.2.1) (rk_drop (rows_rk RO (List.mem_filter.mp hr).1) _)
noncomputable def Figs (l:List Int):Prop:=(∀ i ∈ l,FigOk i) /\ l.length<=900
theorem figs_dig:∀ (l:List Int) (s:Str),Dig s->(∀ i ∈ l,FigOk i)->Dig (l.foldl (fun s i=>s ++ figS i) s) /\ (l.foldl (fun s i=>s ++ figS i) s).length=s.length+l.length
 | [],_,h,_=>⟨h,rfl⟩
 | i :: l,s,h,hl=>by
  have hi:=fig_ok (hl i (List.mem_cons_self ..))
  obtain ⟨a,b⟩:=figs_dig l (s ++ figS i) (h.app hi.1) fun j hj=>hl j (List.mem_cons_of_mem _ hj)
  refine ⟨a,b.trans ?_⟩
  rw [str_len,hi.2,List.length_cons]
  omega
theorem figs_ok {l:List Int} (h:Figs l):Dig (digS l) /\ (digS l).length<=1000:=by
 obtain ⟨a,b⟩:=figs_dig l Str.empty (fun c hc=>(nomatch hc)) h.1
 have:=h.2
 refine ⟨a,?_⟩
 unfold digS
 rw [b]
 show 0+l.length<=1000
 omega
theorem drop_at {α:Type} {s:List α} {i:Nat} {e:α} (h:s[i]? = some e):s.drop i=e :: s.drop (i+1):=by
 obtain ⟨hi,rfl⟩:=List.getElem?_eq_some_iff.mp h
 exact List.drop_eq_getElem_cons hi
class inductive Halt (rows:List Row):List AR->Nat->List AR->Nat->List (List Int)->Prop
 | none {s:List AR} {i:Nat} (h:s[i]? = none):Halt rows s i s i []
 | stop {s:List AR} {i:Nat} {e:AR} (h:s[i]? = some e) (he:e.1 = []):Halt rows s i s (i+1) []
 | step {s s':List AR} {i i':Nat} {e:AR} {Ls:List (List Int)} (h:s[i]? = some e) (he:e.1 ≠ []) (hf:s.find? (fun x=>decide (x.1=e.1))=some e) (ha:Figs e.2.1) (hb:Figs e.2.2) (r:Halt rows (turnA rows e s) (i+1) s' i' Ls):Halt rows s i s' i' (e.1 :: Ls)
theorem wk_true {st:St}:TTr prog w (KK w) bt k (wkF w) (whTest (wkW w)) st true st:=TTr.runE 20 [.br true true rfl] (by kernel_rfl)
theorem wk_loop (G:Good w x m nx) {rows:List Row} (RO:RowsOk rows) {jt:Nat} {cA:Addr} (hj:jt < nx) (hx:jt ∉ x.all) (hm:m jt=.tab cA) (hc:(fdF w).code=some cA) {s s':List AR} {i i':Nat} {Ls:List (List Int)} (H:Halt rows s i s' i' Ls) :
  ∀ (T:List Str) (c:Nat),AOk s->i<=s.length->ZB c (img s i)->c+9 * Ls.length<=700->T.length+Ls.length<=900 ->
  WhTr prog w (KK w) bt (k+4) (wkF w) (whTest (wkW w)) (forBody (wkW w)) Ls.length ⟨Vw x nx (rows.map rT) (strDs signsL),[],wkM x m nx L T (img s i),nx+1⟩ (.ret (.d (.lst (strDs (T ++ Ls.map nameF ++ [Str.empty])))))
   ⟨[],[],upd (wkM x m nx L (T ++ Ls.map nameF ++ [Str.empty]) (img s' i')) nx .junk,nx+1⟩:=by
 induction H with
 | none h=>
  intro T c hs hi hz h1 h2
  rw [List.map_nil,List.append_nil]
  have e:(s_1.drop i_1).map (fun e:AR=>nameF e.1) = []:=by rw [List.drop_eq_nil_of_le (List.getElem?_eq_none_iff.mp h)]; rfl
  refine .stop wk_true (wk_stop G T _ _ (q:=(s_1.drop i_1).map fun e:AR=>nameF e.1) (q':=(s_1.drop i_1).map fun e:AR=>nameF e.1) (.inr ⟨e,rfl,e⟩) (by rw [e]; exact Nat.zero_le _) (by omega))
 | stop h he=>
  intro T c hs hi hz h1 h2
  rw [List.map_nil,List.append_nil]
  have e1:(s_1.drop i_1).map (fun e:AR=>nameF e.1)=Str.empty :: (s_1.drop (i_1+1)).map fun e:AR=>nameF e.1:=by
   rw [drop_at h,List.map_cons,he]
   exact congrArg (· :: _) (by kernel_rfl)
  refine .stop wk_true (wk_stop G T _ _ (q:=(s_1.drop i_1).map fun e:AR=>nameF e.1) (q':=(s_1.drop (i_1+1)).map fun e:AR=>nameF e.1) (.inl e1) (Nat.le_trans hz.3 (by omega)) (by omega))
 | step h he hf ha hb r ih=>
  intro T c hs hi hz h1 h2
  have hk:=hs e (List.mem_of_getElem? h)
  have hi2:i_1+1<=s_1.length:=(List.getElem?_eq_some_iff.mp h).1
  obtain ⟨a1,a2⟩:=figs_ok ha
  obtain ⟨b1,b2⟩:=figs_ok hb
  rw [List.length_cons] at h1 h2
  have eq:img s_1 i_1=(imgS s_1,nameF e.1 :: (s_1.drop (i_1+1)).map fun e:AR=>nameF e.1):=by
   unfold img
   rw [drop_at h,List.map_cons]
  have hg:getF (imgS s_1) (nameF e.1)=some (roadS (digS e.2.1) (digS e.2.2)):=by rw [getF_img hs hk,hf]; rfl
  rw [eq] at hz ⊢
  have sim:=turn_sim RO (i:=i_1+1) (s:=s_1) ⟨hs,hi2,rfl⟩ e hk
  have z1:ZB c (img s_1 (i_1+1)):=⟨hz.1,hz.2,Nat.le_of_succ_le hz.3⟩
  have z2:=walk6_zb RO e.1 (digS e.2.1) (digS e.2.2) (walk5_zb RO hk.2 (digS e.2.1) (digS e.2.2) z1)
  have turn:=wk_turn (prog:=prog) (k:=k) (L:=L) G RO hj hx hm hc T hk.1 hk.2 he hg (hz.up (by omega)) (by omega) a1 b1 a2 b2
  have eq2:walk6 rows e.1 (digS e.2.1) (digS e.2.2) (walk5 rows e.1 (digS e.2.1) (digS e.2.2) (imgS s_1,(s_1.drop (i_1+1)).map fun e:AR=>nameF e.1))=img (turnA rows e s_1) (i_1+1):=sim.eq
  rw [eq2] at turn
  have z3:=z2.up (c:=c+9) (by omega)
  have eq3:walk6 rows e.1 (digS e.2.1) (digS e.2.2) (walk5 rows e.1 (digS e.2.1) (digS e.2.2) (img s_1 (i_1+1)))=img (turnA rows e s_1) (i_1+1):=sim.eq
  rw [eq3] at z3
  have ih:=ih (T ++ [nameF e.1]) (c+9) sim.ok sim.len z3 (by omega) (by rw [List.length_append,List.length_singleton]; omega)
  have et:T ++ (e.1 :: Ls_1).map nameF=T ++ [nameF e.1] ++ Ls_1.map nameF:=by rw [List.map_cons,List.append_assoc]; rfl
  rw [et]
  exact .step wk_true turn (.inl rfl) ih
theorem walk_tr (G:Good w x m nx) {rows:List Row} (RO:RowsOk rows) {jt:Nat} {cA:Addr} (hj:jt < nx) (hx:jt ∉ x.all) (hm:m jt=.tab cA) (hc:(fdF w).code=some cA) {s':List AR} {i':Nat} {Ls:List (List Int)} (H:Halt rows (initA rows) 0 s' i' Ls) (hl:Ls.length<=60) :
  CallTr prog w (KK w) bt (k+5) (fn w "_law_walk") [.loc x.n,.d (.lst (rows.map rT)),.loc x.h] [] (vw x m L [] [] []) nx (.d (.lst (strDs (Ls.map nameF ++ [Str.empty])))) (vw x m L [] (strDs (img s' i').2) (imgS s')) nx:=by
 have sim:=init_sim RO
 have zb:=foldR_zb RO rows (b:=0) (z:=([],[])) ⟨fun _ h=>(nomatch h),Nat.le_refl _,Nat.le_refl _⟩
 have zb2:ZB 9 (img (initA rows) 0):=by
  rw [<- sim.eq]
  exact zb.up (by have:=RO.z; omega)
 have o1:=out_loop (prog:=prog) (k:=k) (L:=L) G RO hj hx hm hc []
 rw [sim.eq] at o1
 have loop:=wk_loop (prog:=prog) (k:=k) (L:=L) G RO hj hx hm hc H [] 9 sim.ok sim.len zb2 (by omega) (by rw [List.length_nil]; omega)
 rw [List.nil_append] at loop
 have st:=STr.while_ (c:=wkW w) (by kernel_rfl) loop
 have e0:wkM x m nx L [] ([],[])=upd (vw x m L [] [] []) nx (.list []):=by rw [G.vupd (G.notin (Nat.le_refl _))]; rfl
 rw [e0] at o1
 have hlow:=G.low (L:=L) (L':=L) (cs:=[]) (cs':=[]) (push:=[]) (push':=strDs (img s' i').2) (kvs:=[]) (kvs':=imgS s') (m':=upd (wkM x m nx L (Ls.map nameF ++ [Str.empty]) (img s' i')) nx .junk) (Nat.le_succ nx) fun i hi=>by
  rw [upd_ne _ _ _ (Nat.ne_of_lt hi),show wkM x m nx L (Ls.map nameF ++ [Str.empty]) (img s' i')=upd (vw x m L [] (strDs (img s' i').2) (imgS s')) nx (.list (strDs (Ls.map nameF ++ [Str.empty]))) from (G.vupd (G.notin (Nat.le_refl nx)) (.list (strDs (Ls.map nameF ++ [Str.empty])))).symm,upd_ne _ _ _ (Nat.ne_of_lt hi)]
 generalize upd (wkM x m nx L (Ls.map nameF ++ [Str.empty]) (img s' i')) nx .junk=M9 at st hlow
 generalize wkM x m nx L [] (img (initA rows) 0)=M1 at st o1
 generalize vw x m L [] [] []=M0 at o1 hlow ⊢
 generalize vw x m L [] (strDs (img s' i').2) (imgS s')=M8 at hlow ⊢
 generalize strDs (Ls.map nameF ++ [Str.empty])=R at st ⊢
 have sg:∀ M N0,CallTr prog w (KK w) bt (k+4) (fn w "_law_signs") [] [] M N0 (.d (.lst (strDs signsL))) M N0:=fun M N0=>signs_tr
 unfold Vw at st o1
 generalize strDs signsL=S at st o1 sg
 generalize rows.map rT=rs at st o1 ⊢
 have h:CodeTr prog w (KK w) bt (k+5) (fn w "_law_walk") [.loc x.n,.d (.lst rs),.loc x.h] [] M0 nx (.d (.lst R)) M9 (nx+1):=
  codeA (fa w "_law_walk") ["lexer", "rows", "seen"] [.loc x.n,.d (.lst rs),.loc x.h] (.ret (.d (.lst R))) M9 (nx+1) [] [.call (sg M0 nx),.lst [] true (by decide),.stm o1,.stm st] (by kernel_rfl) (bindq3 fun S a b c=>by kernel_rfl) rfl (by kernel_rfl)
 exact (h.call).low hlow (.d _)
end
section
variable {prog:Program} {w:World} {k:Nat} {m:Nat->MO} {nx:Nat} {n j l:Nat}
noncomputable abbrev hvA (w:World):Addr:=ca w "Headers" "values"
theorem hd_vals {kvs:List (Str × Str)} (X:HdAt w m nx n j l kvs) (hz:kvs.length<=10000):CodeTr prog w (KK w) bt (k+1) (.k (.ref (hvA w))) [.loc n] [] m nx (.d (.lst (strDs (kvs.map (·.2))))) m nx:=by
 obtain ⟨V,hV⟩ : ∃ V:List (Str × AV),V=([("self",.loc n)]:List (Str × AV)):=⟨_,rfl⟩
 have hd:DSrc m nx (.loc l) (kvs.map fun kv=>.tup [.str kv.1,.str kv.2]):=⟨X.ll,X.i3⟩
 have comp:ETr prog w (KK w) bt k (phA w (hvA w)) (retE (nthS (bdA w (hvA w)) 0)) ⟨V,[],m,nx⟩ (.d (.lst (strDs (kvs.map (·.2))))) ⟨V,[],m,nx⟩:=by
  unfold strDs
  rw [List.map_map]
  refine ETr.ofLoop (by kernel_rfl) (a:=.loc l) (ds:=kvs.map fun kv=>.tup [.str kv.1,.str kv.2]) (ETr.runE 20 [(cx prog w k m nx).getA n j (hdC w) [("_headers",.loc l)] "_headers" (.loc l) X.ln X.i1 X.i2 (by kernel_rfl) rfl (by kernel_rfl)] (by subst hV; kernel_rfl)) hd
   (loop1n (st:=⟨V,[],m,nx⟩) (a:=.loc l) (xs:=kvs) (gD:=fun kv=>.tup [.str kv.1,.str kv.2]) (by kernel_rfl) (by kernel_rfl) hd (tgt_tupN (gs:=fun kv:Str × Str=>[.str kv.1,.str kv.2]) ["k", "v"] (by kernel_rfl) (by kernel_rfl) (by subst hV; kernel_rfl) (fun x hx=>rfl)) (fun kv hkv l=>?_) (by omega))
  subst hV
  exact ETr.runE 20 [] (by kernel_rfl)
 exact codeA (hvA w) ["self"] [.loc n] (.ret (.d (.lst (strDs (kvs.map (·.2)))))) m nx [] [.comp comp] (by kernel_rfl) (bindq1 fun S a=>by kernel_rfl) (by rfl) (by subst hV; kernel_rfl)
end
theorem name_parts {r:List Int} (h:Rk r):A3 ((nameF r).length<=1000) ((Txt.split (nameF r) " ").length<=1000) ((Txt.split (nameF r) " ").filter (fun y=>!decide (y=Str.empty))=r.map signF):=by
 obtain ⟨a,b,-,-⟩:=restw_all h
 refine ⟨a,b,?_⟩
 by_cases e:r = []
 ·rw [e]; kernel_rfl
 ·rw [name_words h.1 e]
  exact List.filter_eq_self.mpr fun y hy=>by
   obtain ⟨k,hk,rfl⟩:=List.mem_map.mp hy
   exact congrArg (!·) (decide_eq_false (sign_ok (h.1 k hk)).2)
noncomputable def figB (i:Int):Bool:=decide ((figS i).cps.toList = [48+i.toNat]) && decide (PySem.intText? (figS i)=some i)
theorem fig_chars {i:Int} (h:FigOk i):(figS i).cps.toList = [48+i.toNat] /\ PySem.intText? (figS i)=some i:=by
 have e:i=0 \/ i=1 \/ i=2:=by have:=h.1; have:=h.2; omega
 have hb:figB i=true:=by
  rcases e with rfl | rfl | rfl
  ·decide +kernel
  ·decide +kernel
  ·decide +kernel
 obtain ⟨a,b⟩:=and_t hb
 exact ⟨of_decide_eq_true a,of_decide_eq_true b⟩
theorem digS_chars:∀ (l:List Int) (s:Str),(∀ i ∈ l,FigOk i)->(l.foldl (fun s i=>s ++ figS i) s).cps.toList=s.cps.toList ++ l.map fun i=>48+i.toNat
 | [],s,_=>(List.append_nil _).symm
 | i :: l,s,h=>by
  refine (digS_chars l (s ++ figS i) fun j hj=>h j (List.mem_cons_of_mem _ hj)).trans ?_
  have e:(s ++ figS i).cps.toList=s.cps.toList ++ (figS i).cps.toList:=Array.toList_append
  rw [e,(fig_chars (h i (List.mem_cons_self ..))).1,List.append_assoc]
  rfl
theorem dig_src {l:List Int} (h:∀ i ∈ l,FigOk i):strD (digS l)=l.map fun i=>D.str (figS i):=by
 have e:=digS_chars l Str.empty h
 unfold strD digS
 rw [e]
 show (l.map fun i=>48+i.toNat).map _=_
 rw [List.map_map]
 refine List.map_congr_left fun i hi=>congrArg D.str (str_ext ?_)
 exact (fig_chars (h i hi)).1.symm
noncomputable def textW (W:List Str) (l:List Int):Str:=Txt.join "" (l.map fun i=>W.getD i.toNat Str.empty)
noncomputable def bitsT (Ls:List Str) (r:List Int):Str:=Txt.join "" (r.map fun i=>Txt.item "01" (Ls.idxOf (signF i):Nat))
section
variable {prog:Program} {w:World} {k:Nat} {m:Nat->MO} {nx:Nat}
noncomputable abbrev trF (w:World):Fm:=ph w "_law_true_rests"
noncomputable abbrev trL (w:World):Stmt:=nthS (bd w "_law_true_rests") 0
noncomputable abbrev trC (w:World) (i:Nat):PySem.Expr:=cArg 0 (asVal (nthS (forBody (trL w)) i))
theorem fig_comp {V:List (Str × AV)} (c:PySem.Expr) (W:List Str) {l:List Int} (hl:Figs l)
  (first:ETr prog w (KK w) bt k (trF w) (lcFirst c).iter ⟨V,[],m,nx⟩ (.d (.str (digS l))) ⟨V,[],m,nx⟩) (c1:lcOk (trF w) c=true) (c2:lcRest c = []) (c3:(lcFirst c).ifs = [])
  (ht:TgtOk (compFm (trF w) (lcScope c)) (lcFirst c).target (fun i=>.str (figS i)) (compVars (trF w) V (lcScope c)) (fun i=>("figure",.d (.str (figS i))) :: compVars (trF w) V (lcScope c)) l)
  (he:∀ i ∈ l,∀ l',ETr prog w (KK w) bt k (compFm (trF w) (lcScope c)) (lcElt c) ⟨("figure",.d (.str (figS i))) :: compVars (trF w) V (lcScope c),compFz (trF w) (lcScope c),upd m nx (.list l'),nx+1⟩ (.d (.str (W.getD i.toNat Str.empty))) ⟨("figure",.d (.str (figS i))) :: compVars (trF w) V (lcScope c),compFz (trF w) (lcScope c),upd m nx (.list l'),nx+1⟩) :
  ETr prog w (KK w) bt k (trF w) c ⟨V,[],m,nx⟩ (.d (.lst (strDs (l.map fun i=>W.getD i.toNat Str.empty)))) ⟨V,[],m,nx⟩:=by
 have e:strDs (l.map fun i=>W.getD i.toNat Str.empty)=l.map fun i=>D.str (W.getD i.toNat Str.empty):=by unfold strDs; rw [List.map_map]; rfl
 rw [e]
 exact ETr.ofLoop c1 (a:=.d (.str (digS l))) (ds:=l.map fun i=>D.str (figS i)) first (dig_src hl.1).symm
  (loop1n (st:=⟨V,[],m,nx⟩) (a:=.d (.str (digS l))) (xs:=l) (gD:=fun i=>.str (figS i)) c2 c3 (dig_src hl.1).symm ht he (Nat.le_trans hl.2 (by decide)))
structure RestOk (W Ls:List Str) (e:AR):Prop where
 rk:Rk e.1
 mem:∀ i ∈ e.1,signF i ∈ Ls
 fa:Figs e.2.1
 fb:Figs e.2.2
 eq:textW W e.2.1=textW W e.2.2 ++ bitsT Ls e.1
theorem bit_at {n:Nat} (h:n < 2):A3 (PySem.fitsSsize (n:Nat)=true) ((Txt.charAt "01" (n:Nat)).isSome=true) ((Txt.item "01" (n:Nat)).length=1):=by
 have e:n=0 \/ n=1:=by omega
 rcases e with rfl | rfl
 ·exact ⟨by decide +kernel,by decide +kernel,by decide +kernel⟩
 ·exact ⟨by decide +kernel,by decide +kernel,by decide +kernel⟩
theorem rest_comp {V:List (Str × AV)} {r:List Int} (h:Rk r) (Ls:List Str) (hL:Ls.length=2) (hr:∀ i ∈ r,signF i ∈ Ls)
  (first:ETr prog w (KK w) bt k (trF w) (lcFirst (trC w 1)).iter ⟨V,[],m,nx⟩ (.d (.lst (strDs (Txt.split (nameF r) " ")))) ⟨V,[],m,nx⟩)
  (hc:compVars (trF w) V (lcScope (trC w 1))=([("letters",.d (.lst (strDs Ls)))]:List (Str × AV))) :
  ETr prog w (KK w) bt k (trF w) (trC w 1) ⟨V,[],m,nx⟩ (.d (.lst (strDs (r.map fun i=>Txt.item "01" (Ls.idxOf (signF i):Nat))))) ⟨V,[],m,nx⟩:=by
 obtain ⟨h1,h2,h3⟩:=name_parts h
 have e:strDs (r.map fun i=>Txt.item "01" (Ls.idxOf (signF i):Nat))=((Txt.split (nameF r) " ").filter fun y=>!decide (y=Str.empty)).map fun y=>D.str (Txt.item "01" (Ls.idxOf y:Nat)):=by
  rw [h3]; unfold strDs; rw [List.map_map,List.map_map]; rfl
 have hmem:∀ y ∈ Txt.split (nameF r) " ",(!decide (y=Str.empty))=true->y ∈ Ls:=fun y hy hp=>by
  have:y ∈ r.map signF:=h3 ▸ List.mem_filter.mpr ⟨hy,hp⟩
  obtain ⟨i,hi,rfl⟩:=List.mem_map.mp this
  exact hr i hi
 rw [e]
 clear e h3
 have hi:(lcFirst (trC w 1)).ifs = [(lcFirst (trC w 1)).ifs.headD (.Constant .none 0 default)]:=by kernel_rfl
 generalize Txt.split (nameF r) " " = ws at *
 refine ETr.ofLoop (by kernel_rfl) (a:=.d (.lst (strDs ws))) (ds:=ws.map D.str) first rfl
  (loop1 (st:=⟨V,[],m,nx⟩) (a:=.d (.lst (strDs ws))) (xs:=ws) (gD:=D.str) (p:=fun y=>!decide (y=Str.empty)) (f:=fun y=>D.str (Txt.item "01" (Ls.idxOf y:Nat))) (by kernel_rfl) rfl (tgt_nameN "sign" (by kernel_rfl) (by kernel_rfl) (by rw [hc]; kernel_rfl)) (.inr ⟨_,hi,fun y hy l'=>?_⟩) (fun y hy hp l'=>?_) (by omega))
 ·show TTr _ _ _ _ _ _ _ _ (!decide (y=Str.empty)) _
  generalize hb:(!decide (y=Str.empty))=b
  rw [hc]
  exact TTr.runE 30 [.br (!decide (y=Str.empty)) b hb] (by kernel_rfl)
 ·have hm:=hmem y hy hp
  have hlt:Ls.idxOf y < 2:=hL ▸ List.idxOf_lt_length_of_mem hm
  obtain ⟨b1,b2,-⟩:=bit_at hlt
  rw [hc]
  exact ETr.runE 20 [(cx prog w k (upd m nx (.list l')) (nx+1)).mIndex (.d (.lst (strDs Ls))) (strDs Ls) rfl trivial,(cx prog w k (upd m nx (.list l')) (nx+1)).cIndex (.d (.lst (strDs Ls))) y Ls rfl trivial hm (by rw [hL]; decide),(cx prog w k (upd m nx (.list l')) (nx+1)).itemS "01" (Ls.idxOf y:Nat) b1 b2] (by kernel_rfl)
noncomputable def WOk (W:List Str):Prop:=W.length=3 /\ ∀ i:Int,(W.getD i.toNat Str.empty).length<=3
theorem textW_len {W:List Str} (h:WOk W) {l:List Int} (hl:Figs l):A3 (((l.map fun i=>W.getD i.toNat Str.empty).map (·.length)).sum+(l.map fun i=>W.getD i.toNat Str.empty).length * (Str.length "")<=16777216) ((textW W l).length<=2700) True:=by
 have s:=sum_lec (fun i:Int=>(W.getD i.toNat Str.empty).length) 3 h.2 l
 have h9:=hl.2
 have e:((l.map fun i=>W.getD i.toNat Str.empty).map (·.length))=l.map fun i:Int=>(W.getD i.toNat Str.empty).length:=List.map_map
 have z:(Str.length "")=0:=rfl
 refine ⟨by rw [e,z]; omega,?_,trivial⟩
 have j:=join_len (s := "") (l.map fun i=>W.getD i.toNat Str.empty)
 rw [e,z] at j
 have e2:textW W l=Str.join "" (l.map fun i=>W.getD i.toNat Str.empty):=StrLaws.glued_eq_join _ _
 rw [e2]
 omega
theorem bitsT_len {Ls:List Str} (hL:Ls.length=2) {r:List Int} (h:Rk r) (hm:∀ i ∈ r,signF i ∈ Ls):A3 (((r.map fun i=>Txt.item "01" (Ls.idxOf (signF i):Nat)).map (·.length)).sum+(r.map fun i=>Txt.item "01" (Ls.idxOf (signF i):Nat)).length * (Str.length "")<=16777216) ((bitsT Ls r).length<=2700) True:=by
 have h3:=h.2
 have z:(Str.length "")=0:=rfl
 have e:((r.map fun i=>Txt.item "01" (Ls.idxOf (signF i):Nat)).map (·.length))=r.map fun _=>1:=by
  rw [List.map_map]
  exact List.map_congr_left fun i hi=>(bit_at (hL ▸ List.idxOf_lt_length_of_mem (hm i hi))).3
 have e1:(r.map fun _=>1).sum=r.length:=by
  clear e hm h h3
  induction r with
  | nil=>rfl
  | cons a r ih=>rw [List.map_cons,List.sum_cons,ih,List.length_cons,Nat.add_comm]
 refine ⟨by rw [e,z,e1]; omega,?_,trivial⟩
 have j:=join_len (s := "") (r.map fun i=>Txt.item "01" (Ls.idxOf (signF i):Nat))
 rw [e,z,e1] at j
 have e2:bitsT Ls r=Str.join "" (r.map fun i=>Txt.item "01" (Ls.idxOf (signF i):Nat)):=StrLaws.glued_eq_join _ _
 rw [e2]
 omega
theorem tr_turn {W Ls:List Str} (hW:WOk W) (hL:Ls.length=2) {e:AR} (h:RestOk W Ls e) (hd:Nat) :
  BTr prog w (KK w) bt k (trF w) (forBody (trL w)) ⟨[("road",.d (.str (roadS (digS e.2.1) (digS e.2.2)))),("name",.d (.str (nameF e.1))),("seen",.loc hd),("words",.d (.lst (strDs W))),("letters",.d (.lst (strDs Ls)))],[],m,nx⟩ .next ⟨[("seen",.loc hd),("words",.d (.lst (strDs W))),("letters",.d (.lst (strDs Ls)))],[],m,nx⟩:=by
 obtain ⟨n1,n2,n3⟩:=name_parts h.rk
 obtain ⟨a1,a2⟩:=figs_ok h.fa
 obtain ⟨b1,b2⟩:=figs_ok h.fb
 obtain ⟨s1,s2,-⟩:=textW_len hW h.fa
 obtain ⟨t1,t2,-⟩:=textW_len hW h.fb
 obtain ⟨r1,r2,-⟩:=bitsT_len hL h.rk h.mem
 have sp:=road_split a1 b1
 have pp:=split_parts (roadS (digS e.2.1) (digS e.2.2)) "/"
 have rl:=road_len (digS e.2.1) (digS e.2.2)
 have np:=split_parts (nameF e.1) " "
 have hget:∀ i:Int,FigOk i->(strDs W)[i.toNat]? = some (.str (W.getD i.toNat Str.empty)):=fun i hi=>strDs_get (by have:=hi.1; have:=hi.2; rw [hW.1]; omega)
 have cR:∀ V:List (Str × AV),compVars (trF w) V (lcScope (trC w 1))=([("letters",.d (.lst (strDs Ls)))]:List (Str × AV))->ETr prog w (KK w) bt k (trF w) (lcFirst (trC w 1)).iter ⟨V,[],m,nx⟩ (.d (.lst (strDs (Txt.split (nameF e.1) " ")))) ⟨V,[],m,nx⟩->_:=fun V hc first=>rest_comp (prog:=prog) (w:=w) (k:=k) (m:=m) (nx:=nx) (V:=V) h.rk Ls hL h.mem first hc
 obtain ⟨V1,hV1⟩ : ∃ V:List (Str × AV),V=([("road",.d (.str (roadS (digS e.2.1) (digS e.2.2)))),("name",.d (.str (nameF e.1))),("seen",.loc hd),("words",.d (.lst (strDs W))),("letters",.d (.lst (strDs Ls))),("ahead",.d (.str (digS e.2.1))),("behind",.d (.str (digS e.2.2)))]:List (Str × AV)):=⟨_,rfl⟩
 have c1:=cR V1 (by subst hV1; kernel_rfl) (ETr.runE 20 [(cx prog w k m nx).mSplit (nameF e.1),(cx prog w k m nx).cSplit (nameF e.1) " " (Txt.split (nameF e.1) " ") rfl (by kernel_rfl) (by rw [sizeLine_eq]; omega) (by rw [sizeLine_eq]; omega)] (by subst hV1; kernel_rfl))
 have c2:=fig_comp (prog:=prog) (w:=w) (k:=k) (m:=m) (nx:=nx) (V:=setv "rest" (.d (.str (bitsT Ls e.1))) V1) (trC w 2) W h.fa (ETr.runE 20 [] (by subst hV1; kernel_rfl)) (by kernel_rfl) (by kernel_rfl) (by kernel_rfl) (tgt_nameN "figure" (by kernel_rfl) (by kernel_rfl) (by subst hV1; kernel_rfl)) (fun i hi l'=>by
  have f:=h.fa.1 i hi
  have g:=hget i f
  subst hV1
  generalize W.getD i.toNat Str.empty=wd at g ⊢
  generalize strDs W=WD at g ⊢
  exact ETr.runE 20 [(cx prog w k (upd m nx (.list l')) (nx+1)).intS (figS i) i (fig_chars f).2 (by rw [(fig_ok f).2]; decide),(cx prog w k (upd m nx (.list l')) (nx+1)).item WD i i.toNat (.str wd) (Int.toNat_of_nonneg f.1).symm g (by have:=f.2; omega)] (by kernel_rfl))
 have c3:=fig_comp (prog:=prog) (w:=w) (k:=k) (m:=m) (nx:=nx) (V:=setv "longer" (.d (.str (textW W e.2.1))) (setv "rest" (.d (.str (bitsT Ls e.1))) V1)) (trC w 3) W h.fb (ETr.runE 20 [] (by subst hV1; kernel_rfl)) (by kernel_rfl) (by kernel_rfl) (by kernel_rfl) (tgt_nameN "figure" (by kernel_rfl) (by kernel_rfl) (by subst hV1; kernel_rfl)) (fun i hi l'=>by
  have f:=h.fb.1 i hi
  have g:=hget i f
  subst hV1
  generalize W.getD i.toNat Str.empty=wd at g ⊢
  generalize strDs W=WD at g ⊢
  exact ETr.runE 20 [(cx prog w k (upd m nx (.list l')) (nx+1)).intS (figS i) i (fig_chars f).2 (by rw [(fig_ok f).2]; decide),(cx prog w k (upd m nx (.list l')) (nx+1)).item WD i i.toNat (.str wd) (Int.toNat_of_nonneg f.1).symm g (by have:=f.2; omega)] (by kernel_rfl))
 have eq:=h.eq
 have j1:Txt.join "" (e.1.map fun i=>Txt.item "01" (Ls.idxOf (signF i):Nat))=bitsT Ls e.1:=rfl
 have j2:Txt.join "" (e.2.1.map fun i=>W.getD i.toNat Str.empty)=textW W e.2.1:=rfl
 have j3:Txt.join "" (e.2.2.map fun i=>W.getD i.toNat Str.empty)=textW W e.2.2:=rfl
 subst hV1
 clear hget cR
 generalize textW W e.2.1=lo at *
 generalize textW W e.2.2=sh at *
 generalize bitsT Ls e.1=rs at *
 generalize (e.1.map fun i=>Txt.item "01" (Ls.idxOf (signF i):Nat))=q1 at *
 generalize (e.2.1.map fun i=>W.getD i.toNat Str.empty)=q2 at *
 generalize (e.2.2.map fun i=>W.getD i.toNat Str.empty)=q3 at *
 generalize nameF e.1=nm at *
 generalize roadS (digS e.2.1) (digS e.2.2)=rd at *
 generalize digS e.2.1=a at *
 generalize digS e.2.2=b at *
 generalize strDs W=WD at *
 generalize strDs Ls=LD at *
 have ebr:(!decide (lo=sh ++ rs))=false:=congrArg (!·) (decide_eq_true eq)
 clear eq
 generalize hsr:sh ++ rs=sr at ebr
 exact BTr.runS 60 [(cx prog w k m nx).mSplit rd,(cx prog w k m nx).cSplit rd "/" [a,b] sp (by kernel_rfl) (by rw [sizeLine_eq]; omega) (by rw [sizeLine_eq]; omega),
  (cx prog w k m nx).mJoin "",.comp c1,(cx prog w k m nx).cJoin "" (.d (.lst (strDs q1))) q1 rs j1 rfl trivial r1,
  (cx prog w k m nx).mJoin "",.comp c2,(cx prog w k m nx).cJoin "" (.d (.lst (strDs q2))) q2 lo j2 rfl trivial s1,
  (cx prog w k m nx).mJoin "",.comp c3,(cx prog w k m nx).cJoin "" (.d (.lst (strDs q3))) q3 sh j3 rfl trivial t1,
  (cx prog w k m nx).addS false sh rs sr hsr (by rw [sizeLine_eq]; omega),.br (!decide (lo=sr)) false ebr] (by kernel_rfl)
end
theorem eq_iff {x y:D} (h:x=y):true=true ↔ x=y:=⟨fun _=>h,fun _=>rfl⟩
theorem ints_flat (l:List Int):Flat (.lst (l.map D.int)):=flat_lst fun x hx=>by
 obtain ⟨i,-,rfl⟩:=List.mem_map.mp hx
 exact ⟨rfl,Nat.zero_le _⟩
noncomputable def lensA (s:List AR):List Int:=s.map fun e=>((roadS (digS e.2.1) (digS e.2.2)).length:Int)
section
variable {prog:Program} {w:World} {k:Nat} {m:Nat->MO} {nx:Nat} {n j l:Nat}
theorem true_tr {W Ls:List Str} (hW:WOk W) (hL:Ls.length=2) {s:List AR} (X:HdAt w m nx n j l (imgS s)) (hs:∀ e ∈ s,RestOk W Ls e) (h64:s.length < 64) (hsrt:(lensA s).mergeSort (fun x y=>decide (x<=y))=lensA s) :
  CallTr prog w (KK w) bt (k+2) (fn w "_law_true_rests") [.loc n,.d (.lst (strDs W)),.d (.lst (strDs Ls))] [] m nx (.d (.bool true)) m nx:=by
 have hz:(imgS s).length<=10000:=by unfold imgS; rw [List.length_map]; omega
 have its:=hd_items (prog:=prog) (k:=k) X hz
 have vls:=hd_vals (prog:=prog) (k:=k) X hz
 have ei:kvsD (imgS s)=s.map fun e=>D.tup [.str (nameF e.1),.str (roadS (digS e.2.1) (digS e.2.2))]:=by unfold kvsD imgS; rw [List.map_map]; rfl
 have ev:strDs ((imgS s).map (·.2))=s.map fun e=>D.str (roadS (digS e.2.1) (digS e.2.2)):=by unfold strDs imgS; rw [List.map_map,List.map_map]; rfl
 rw [ei] at its
 rw [ev] at vls
 have loop:=for_fold (prog:=prog) (w:=w) (K:=KK w) (btab:=bt) (k:=k+1) (φ:=trF w) (t:=forTgt (trL w)) (b:=forBody (trL w)) (a:=.d (.lst (s.map fun e=>D.tup [.str (nameF e.1),.str (roadS (digS e.2.1) (digS e.2.2))]))) (ds0:=s.map fun e=>D.tup [.str (nameF e.1),.str (roadS (digS e.2.1) (digS e.2.2))]) (fz:=[]) (nx:=nx)
  (V:=fun _:Unit=>([("seen",.loc n),("words",.d (.lst (strDs W))),("letters",.d (.lst (strDs Ls)))]:List (Str × AV))) (M:=fun _=>m) (step:=fun u _=>u) (gD:=fun e:AR=>D.tup [.str (nameF e.1),.str (roadS (digS e.2.1) (digS e.2.2))])
  (VX:=fun _ e=>([("road",.d (.str (roadS (digS e.2.1) (digS e.2.2)))),("name",.d (.str (nameF e.1)))]:List (Str × AV)) ++ ([("seen",.loc n),("words",.d (.lst (strDs W))),("letters",.d (.lst (strDs Ls)))]:List (Str × AV))) s () _ (.refl _) (fun pre e post he=>by
   obtain ⟨hmem,-⟩:=pre_mem he
   exact ⟨rfl,takes_tupN ["name", "road"] (by kernel_rfl) (by kernel_rfl) rfl,.next,_,.inl rfl,tr_turn hW hL (hs e hmem) n,.refl _⟩) rfl
 obtain ⟨V,hV⟩ : ∃ V:List (Str × AV),V=([("seen",.loc n),("words",.d (.lst (strDs W))),("letters",.d (.lst (strDs Ls)))]:List (Str × AV)):=⟨_,rfl⟩
 have sL:STr prog w (KK w) bt (k+1) (trF w) (trL w) ⟨V,[],m,nx⟩ .next ⟨V,[],m,nx⟩:=STr.forP (.d (.lst (s.map fun e=>D.tup [.str (nameF e.1),.str (roadS (digS e.2.1) (digS e.2.2))]))) (s.map fun e=>D.tup [.str (nameF e.1),.str (roadS (digS e.2.1) (digS e.2.2))]) 20 [(cx prog w (k+1) m nx).mFn n j (hdC w) (htA w) [("_headers",.loc l)] "items" X.ln X.i1 X.i2 (by kernel_rfl) (by kernel_rfl),.call its.call] (by kernel_rfl) (by subst hV; kernel_rfl) rfl (hV ▸ loop)
 have hcnt:(lensA s).map D.int=s.map fun e=>D.int ((roadS (digS e.2.1) (digS e.2.2)).length:Nat):=by unfold lensA; rw [List.map_map]; rfl
 have sC:STr prog w (KK w) bt (k+1) (trF w) (nthS (bd w "_law_true_rests") 1) ⟨V,[],m,nx⟩ .next ⟨setv "counts" (.d (.lst ((lensA s).map D.int))) V,[],m,nx⟩:=by
  rw [hcnt]
  refine STr.ofLoopP (by kernel_rfl) (by kernel_rfl) (by kernel_rfl) (a:=.d (.lst (s.map fun e=>D.str (roadS (digS e.2.1) (digS e.2.2))))) (ds:=s.map fun e=>D.str (roadS (digS e.2.1) (digS e.2.2)))
   (ETr.runE 20 [(cx prog w (k+1) m nx).mFn n j (hdC w) (hvA w) [("_headers",.loc l)] "values" X.ln X.i1 X.i2 (by kernel_rfl) (by kernel_rfl),.call vls.call] (by subst hV; kernel_rfl)) rfl
   (loop1n (st:=⟨V,[],m,nx⟩) (xs:=s) (gD:=fun e:AR=>D.str (roadS (digS e.2.1) (digS e.2.2))) (by kernel_rfl) (by kernel_rfl) rfl (tgt_nameN "road" (by kernel_rfl) (by kernel_rfl) (by subst hV; kernel_rfl)) (fun e he l'=>?_) (by omega))
  obtain ⟨a1,a2⟩:=figs_ok (hs e he).fa
  obtain ⟨b1,b2⟩:=figs_ok (hs e he).fb
  have rl:=road_len (digS e.2.1) (digS e.2.2)
  generalize roadS (digS e.2.1) (digS e.2.2)=rd at rl ⊢
  subst hV
  exact ETr.runE 20 [(cx prog w (k+1) (upd m nx (.list l')) (nx+1)).lenS rd (by omega)] (by kernel_rfl)
 have so:=(cx prog w (k+1) m nx).sorted (.d (.lst ((lensA s).map D.int))) (lensA s) rfl trivial (by unfold lensA; rw [List.length_map]; exact h64)
 have sor:=c_sorted (prog:=prog) (w:=w) (K:=KK w) (btab:=bt) (k:=k+1) (m:=m) (nx:=nx) (a:=.d (.lst ((lensA s).map D.int))) (ns:=lensA s) rfl trivial (by unfold lensA; rw [List.length_map]; exact h64)
 rw [hsrt] at sor
 have fl:=ints_flat (lensA s)
 clear so loop its vls ei ev hcnt
 generalize (lensA s).map D.int=C at sC sor fl
 subst hV
 generalize strDs W=WD at *
 generalize strDs Ls=LD at *
 exact (codeA (fa w "_law_true_rests") ["seen", "words", "letters"] [.loc n,.d (.lst WD),.d (.lst LD)] (.ret (.d (.bool true))) m nx [] [.stm sL,.stm sC,.call sor,
  (cx prog w (k+1) m nx).eqF (.d (.lst C)) (.d (.lst C)) (.lst C) (.lst C) true (eq_iff rfl) (.inl rfl) (.inl rfl) fl fl] (by kernel_rfl) (bindq3 fun S a b c=>by kernel_rfl) rfl (by kernel_rfl)).call
end
section
variable {prog:Program} {w:World} {K:Frag} {btab:List (Str × Value)} {k:Nat} {m:Nat->MO} {nx:Nat}
theorem q_notInDS {n:Nat} {l:List (Str × D)} {x:Str} (hn:n < nx) (hm:m n=.dictS l):CmpTr prog w K btab k .NotIn (.d (.str x)) (.loc n) m nx (!(l.lookup x).isSome) m nx:=by
 refine cmp2 fun W A s u v Q E hA hS hu hv hq=>?_
 obtain ⟨t,rfl⟩:=va_str hu
 cases hv
 have ob:=hS.obj n hn
 rw [hm] at ob
 obtain ⟨kvs,hd,e1,e2,e4⟩:=ob
 have e3:=some_at (x:=x) e1 e2
 refine wpAny_notIn_of (knd:=PySem.strKind prog w) (k:=x) (by show (x == x)=true; exact beq_self_eq_true x) e4 hd.mapOf ?_
 rw [e3]
 exact hq s.heap _ (Keeps.refl _)
end
noncomputable abbrev LS:=List (Str × Nat) × Nat
noncomputable def tD (t:List (Str × Nat)):List (Str × D):=t.map fun kv=>(kv.1,.int kv.2)
noncomputable def stepL (c:Nat) (z:LS) (x:Str):LS:=match z.1.lookup x with
 | none=>(z.1 ++ [(x,c)],z.2)
 | some d=>if z.2=0 then (z.1,d+c) else if d+c < z.2 then (z.1,d+c) else z
theorem tD_look (x:Str):∀ t:List (Str × Nat),(tD t).lookup x=(t.lookup x).map fun n=>D.int (n:Nat)
 | []=>rfl
 | (y,n) :: t=>by
  show ((y,D.int n) :: tD t).lookup x=_
  by_cases e:x=y
  ·rw [e,List.lookup_cons_self,List.lookup_cons_self]; rfl
  ·rw [List.lookup_cons,List.lookup_cons,beq_false_of_ne e]
   exact tD_look x t
theorem tD_store {x:Str} {c:Nat} {t:List (Str × Nat)} (h:t.lookup x=none):storeD (tD t) x (.int c)=tD (t ++ [(x,c)]):=by
 have e:(tD t).any (fun kv=>decide (kv.1=x))=false:=by
  refine List.any_eq_false.mpr fun kv hkv=>?_
  obtain ⟨⟨y,n⟩,hy,rfl⟩:=List.mem_map.mp hkv
  intro q
  have q:y=x:=of_decide_eq_true q
  have:=List.lookup_eq_none_iff.mp h (y,n) hy
  exact absurd q.symm (bne_iff_ne.mp this)
 unfold storeD
 rw [if_neg (by rw [e]; decide)]
 unfold tD
 rw [List.map_append]
 rfl
section
variable {prog:Program} {w:World} {k:Nat} {m:Nat->MO} {nx:Nat}
noncomputable abbrev lsF (w:World):Fm:=ph w "_law_least"
noncomputable abbrev lsO (w:World):Stmt:=nthS (bd w "_law_least") 3
noncomputable abbrev lsI (w:World):Stmt:=nthS (forBody (lsO w)) 1
noncomputable def Vl (W T:List D) (nx c:Nat) (z:LS):List (Str × AV):=[("count",.d (.int (c:Nat))),("words",.d (.lst W)),("told",.loc nx),("least",.d (.int (z.2:Nat))),("texts",.d (.lst T))]
theorem ls_turn (W T:List D) (c:Nat) (z:LS) (x:Str) (hz:z.1.length<=10000) (hx:x.length<=1000) :
  BTr prog w (KK w) bt k (lsF w) (forBody (lsI w)) ⟨("text",.d (.str x)) :: Vl W T nx c z,[],upd m nx (.dictS (tD z.1)),nx+1⟩ .next ⟨Vl W T nx c (stepL c z x),[],upd m nx (.dictS (tD (stepL c z x).1)),nx+1⟩:=by
 have lk:=tD_look x z.1
 have ni:=q_notInDS (prog:=prog) (w:=w) (K:=KK w) (btab:=bt) (k:=k) (m:=upd m nx (.dictS (tD z.1))) (nx:=nx+1) (n:=nx) (l:=tD z.1) (x:=x) (Nat.lt_succ_self _) (upd_at _ _ _)
 have am:upd m nx (.dictS (tD z.1)) nx=.dictS (tD z.1):=upd_at _ _ _
 have tl:(tD z.1).length<=100000:=by unfold tD; rw [List.length_map]; omega
 unfold stepL
 cases q:z.1.lookup x with
 | none=>
  rw [q] at lk
  rw [lk] at ni
  have st:=tD_store (c:=c) q
  have em:upd (upd m nx (.dictS (tD z.1))) nx (.dictS (tD (z.1 ++ [(x,c)])))=upd m nx (.dictS (tD (z.1 ++ [(x,c)]))):=upd_same _ _ _ _
  show BTr _ _ _ _ _ _ _ _ _ ⟨Vl W T nx c (z.1 ++ [(x,c)],z.2),[],upd m nx (.dictS (tD (z.1 ++ [(x,c)]))),nx+1⟩
  unfold Vl
  generalize upd m nx (.dictS (tD (z.1 ++ [(x,c)])))=M2 at em ⊢
  generalize upd m nx (.dictS (tD z.1))=M1 at *
  generalize tD (z.1 ++ [(x,c)])=t2 at st em
  generalize tD z.1=t1 at *
  exact BTr.runS 30 [.cmp ni,.br true true rfl,(cx prog w k M1 (nx+1)).setDS nx t1 t2 x (.int (c:Nat)) st (Nat.lt_succ_self _) am tl M2 em] (by kernel_rfl)
 | some d=>
  rw [q] at lk
  have lk2:(tD z.1).lookup x=some (.int (d:Nat)):=lk
  rw [lk] at ni
  have e1:(d:Int)+(c:Int)=((d+c:Nat):Int):=rfl
  by_cases h0:z.2=0
  ·show BTr _ _ _ _ _ _ _ _ _ ⟨Vl W T nx c (if z.2=0 then (z.1,d+c) else _),[],upd m nx (.dictS (tD (if z.2=0 then (z.1,d+c) else _).1)),nx+1⟩
   rw [if_pos h0]
   unfold Vl
   show BTr _ _ _ _ _ _ _ _ _ ⟨[("count",.d (.int (c:Nat))),("words",.d (.lst W)),("told",.loc nx),("least",.d (.int ((d+c:Nat):Int))),("texts",.d (.lst T))],[],upd m nx (.dictS (tD z.1)),nx+1⟩
   rw [<- e1]
   generalize upd m nx (.dictS (tD z.1))=M1 at *
   generalize tD z.1=t1 at *
   exact BTr.runS 30 [.cmp ni,.br false false rfl,.brT (((z.2:Nat):Int)=0) (by rw [h0]; rfl),(cx prog w k M1 (nx+1)).itemDS nx t1 x (.int (d:Nat)) (Nat.lt_succ_self _) am lk2] (by kernel_rfl)
  ·have hne:¬ ((z.2:Nat):Int)=0:=fun e=>h0 (Int.ofNat_inj.mp e)
   show BTr _ _ _ _ _ _ _ _ _ ⟨Vl W T nx c (if z.2=0 then _ else (if d+c < z.2 then (z.1,d+c) else z)),[],upd m nx (.dictS (tD (if z.2=0 then (z.1,d+c) else (if d+c < z.2 then (z.1,d+c) else z)).1)),nx+1⟩
   rw [if_neg h0]
   by_cases h1:d+c < z.2
   ·have h1':(d:Int)+(c:Int) < (z.2:Nat):=by rw [e1]; exact Int.ofNat_lt.mpr h1
    rw [if_pos h1]
    unfold Vl
    show BTr _ _ _ _ _ _ _ _ _ ⟨[("count",.d (.int (c:Nat))),("words",.d (.lst W)),("told",.loc nx),("least",.d (.int ((d+c:Nat):Int))),("texts",.d (.lst T))],[],upd m nx (.dictS (tD z.1)),nx+1⟩
    rw [<- e1]
    generalize upd m nx (.dictS (tD z.1))=M1 at *
    generalize tD z.1=t1 at *
    exact BTr.runS 30 [.cmp ni,.br false false rfl,.brF (((z.2:Nat):Int)=0) hne,(cx prog w k M1 (nx+1)).itemDS nx t1 x (.int (d:Nat)) (Nat.lt_succ_self _) am lk2,.brT ((d:Int)+(c:Int) < (z.2:Nat)) h1',(cx prog w k M1 (nx+1)).itemDS nx t1 x (.int (d:Nat)) (Nat.lt_succ_self _) am lk2] (by kernel_rfl)
   ·have h1':¬ (d:Int)+(c:Int) < (z.2:Nat):=by rw [e1]; exact fun e=>h1 (Int.ofNat_lt.mp e)
    rw [if_neg h1]
    unfold Vl
    generalize upd m nx (.dictS (tD z.1))=M1 at *
    generalize tD z.1=t1 at *
    exact BTr.runS 30 [.cmp ni,.br false false rfl,.brF (((z.2:Nat):Int)=0) hne,(cx prog w k M1 (nx+1)).itemDS nx t1 x (.int (d:Nat)) (Nat.lt_succ_self _) am lk2,.brF ((d:Int)+(c:Int) < (z.2:Nat)) h1'] (by kernel_rfl)
noncomputable def nextT (W T:List Str):List Str:=T.flatMap fun x=>W.map fun y=>x ++ y
theorem nextT_D (W T:List Str):strDs (nextT W T)=T.flatMap fun x=>W.map fun y=>D.str (x ++ y):=by
 unfold strDs nextT
 rw [List.map_flatMap]
 congr 1
 funext x
 rw [List.map_map]
 rfl
theorem nextT_len (W:List Str):∀ T:List Str,(nextT W T).length=T.length * W.length
 | []=>(Nat.zero_mul _).symm
 | x :: T=>by
  have:=nextT_len W T
  show (W.map (fun y=>x ++ y) ++ nextT W T).length=_
  rw [List.length_append,List.length_map,this,List.length_cons,Nat.succ_mul,Nat.add_comm]
theorem nextT_mem {W T:List Str} {b:Nat} (hW:∀ y ∈ W,y.length<=3) (hT:∀ x ∈ T,x.length<=b):∀ x ∈ nextT W T,x.length<=b+3:=fun x hx=>by
 obtain ⟨t,ht,hx⟩:=List.mem_flatMap.mp hx
 obtain ⟨y,hy,rfl⟩:=List.mem_map.mp hx
 rw [str_len]
 exact Nat.add_le_add (hT t ht) (hW y hy)
theorem stepL_len (c:Nat) (z:LS) (x:Str):(stepL c z x).1.length<=z.1.length+1:=by
 unfold stepL
 cases q:z.1.lookup x with
 | none=>exact Nat.le_of_eq List.length_append
 | some d=>
  by_cases h0:z.2=0
  ·show (if z.2=0 then (z.1,d+c) else _).1.length<=_
   rw [if_pos h0]; exact Nat.le_succ _
  ·show (if z.2=0 then (z.1,d+c) else (if d+c < z.2 then (z.1,d+c) else z)).1.length<=_
   rw [if_neg h0]
   by_cases h1:d+c < z.2
   ·rw [if_pos h1]; exact Nat.le_succ _
   ·rw [if_neg h1]; exact Nat.le_succ _
theorem foldL_len (c:Nat):∀ (l:List Str) (z:LS),(l.foldl (stepL c) z).1.length<=z.1.length+l.length
 | [],_=>Nat.le_refl _
 | x :: l,z=>by
  have a:=foldL_len c l (stepL c z x)
  have b:=stepL_len c z x
  rw [List.foldl_cons,List.length_cons]
  omega
theorem ls_in (W:List D) (texts:List Str) (c:Nat) (z:LS) (hz:z.1.length+texts.length<=10000) (hx:∀ x ∈ texts,x.length<=1000) :
  STr prog w (KK w) bt k (lsF w) (lsI w) ⟨Vl W (strDs texts) nx c z,[],upd m nx (.dictS (tD z.1)),nx+1⟩ .next ⟨Vl W (strDs texts) nx c (texts.foldl (stepL c) z),[],upd m nx (.dictS (tD (texts.foldl (stepL c) z).1)),nx+1⟩:=by
 have loop:=for_fold (prog:=prog) (w:=w) (K:=KK w) (btab:=bt) (k:=k) (φ:=lsF w) (t:=forTgt (lsI w)) (b:=forBody (lsI w)) (a:=.d (.lst (strDs texts))) (ds0:=strDs texts) (fz:=[]) (nx:=nx+1)
  (V:=fun z:LS=>Vl W (strDs texts) nx c z) (M:=fun z=>upd m nx (.dictS (tD z.1))) (step:=stepL c) (gD:=D.str) (VX:=fun z x=>("text",.d (.str x)) :: Vl W (strDs texts) nx c z) texts z _ (.refl _) (fun pre x post he=>by
   obtain ⟨hmem,hlen⟩:=pre_mem he
   have:=foldL_len c pre z
   exact ⟨rfl,takes_nameN "text" (by kernel_rfl) (by kernel_rfl),.next,_,.inl rfl,ls_turn W (strDs texts) c _ x (by omega) (hx x hmem),.refl _⟩) rfl
 have es:texts.map D.str=strDs texts:=rfl
 rw [es] at loop
 generalize texts.foldl (stepL c) z=z2 at loop ⊢
 generalize strDs texts=T at loop ⊢
 exact STr.forP (.d (.lst T)) T 20 [] (by kernel_rfl) (by kernel_rfl) rfl loop
theorem ls_comp (W T:List Str) (c:Nat) (z:LS) (hz:T.length * W.length<=1000) (hW:∀ y ∈ W,y.length<=3) (hT:∀ x ∈ T,x.length<=900) :
  STr prog w (KK w) bt k (lsF w) (nthS (forBody (lsO w)) 0) ⟨Vl (strDs W) (strDs T) nx c z,[],m,nx+1⟩ .next ⟨Vl (strDs W) (strDs (nextT W T)) nx c z,[],m,nx+1⟩:=by
 obtain ⟨V,hV⟩ : ∃ V,V=Vl (strDs W) (strDs T) nx c z:=⟨_,rfl⟩
 have ev:Vl (strDs W) (strDs (nextT W T)) nx c z=setv "texts" (.d (.lst (strDs (nextT W T)))) V:=by subst hV; kernel_rfl
 rw [ev,nextT_D,<- hV]
 clear ev
 have cv:compVars (lsF w) V (lcScope (asVal (nthS (forBody (lsO w)) 0)))=([("words",.d (.lst (strDs W)))]:List (Str × AV)):=by subst hV; kernel_rfl
 refine STr.ofLoopP (by kernel_rfl) (by kernel_rfl) (by kernel_rfl) (a:=.d (.lst (strDs T))) (ds:=T.map D.str) (ETr.runE 20 [] (by subst hV; kernel_rfl)) rfl
  (loop2n (st:=⟨V,[],m,nx+1⟩) (a:=.d (.lst (strDs T))) (xs:=T) (ys:=fun _=>W) (gD:=D.str) (gD2:=fun _ y=>.str y) (g:=(lcRest (asVal (nthS (forBody (lsO w)) 0))).headD ⟨.Constant .none 0 default,.Constant .none 0 default,[],0⟩) (a2:=fun _=>.d (.lst (strDs W)))
   (by kernel_rfl) rfl (tgt_nameN "text" (by kernel_rfl) (by kernel_rfl) (by rw [cv]; kernel_rfl)) (by kernel_rfl) (by kernel_rfl) (by kernel_rfl) (by kernel_rfl) (fun a ha l=>by rw [cv]; exact ETr.runE 20 [] (by kernel_rfl)) (fun a ha=>rfl)
   (fun a ha=>tgt_nameN "word" (by kernel_rfl) (by kernel_rfl) (by rw [cv]; kernel_rfl)) (fun a ha b hb l=>?_) (by have:=nextT_len W T; have e:=congrArg List.length (nextT_D W T); rw [strDs_len] at e; omega))
 have ha':=hT a ha
 have hb':=hW b hb
 rw [cv]
 exact ETr.runE 20 [(cx prog w k (upd m (nx+1) (.list l)) (nx+1+1)).addS false a b (a ++ b) rfl (by rw [sizeLine_eq]; omega)] (by kernel_rfl)
noncomputable def stepT (W:List Str) (st:LS × List Str) (c:Nat):LS × List Str:=((nextT W st.2).foldl (stepL c) st.1,nextT W st.2)
noncomputable def leastF (W:List Str):Nat:=([1,2,3,4,5].foldl (stepT W) (([],0),[Str.empty])).1.2
noncomputable def InvT (i:Nat) (st:LS × List Str):Prop:=A3 (st.2.length=3 ^ i) (∀ x ∈ st.2,x.length<=3 * i) (st.1.1.length<=3 ^ (i+1))
theorem invT_step {W:List Str} (hW:W.length=3) (hw:∀ y ∈ W,y.length<=3) {i:Nat} {st:LS × List Str} (h:InvT i st) (c:Nat):InvT (i+1) (stepT W st c):=by
 obtain ⟨h1,h2,h3⟩:=h
 have l:=nextT_len W st.2
 rw [h1,hW] at l
 refine ⟨l,nextT_mem hw h2,Nat.le_trans (foldL_len c (nextT W st.2) st.1) ?_⟩
 rw [l,Nat.pow_succ 3 (i+1)]
 have e:3 ^ i * 3=3 ^ (i+1):=(Nat.pow_succ 3 i).symm
 omega
theorem invT_fold {W:List Str} (hW:W.length=3) (hw:∀ y ∈ W,y.length<=3):∀ (l:List Nat) {i:Nat} {st:LS × List Str},InvT i st->InvT (i+l.length) (l.foldl (stepT W) st)
 | [],_,_,h=>h
 | c :: l,i,st,h=>by
  have:=invT_fold hW hw l (invT_step hW hw h c)
  rw [List.length_cons,<- Nat.add_assoc,Nat.add_right_comm]
  exact this
theorem invT_bnd {i:Nat} {st:LS × List Str} (h:InvT i st) (hi:i<=5):A3 (st.2.length<=243) (∀ x ∈ st.2,x.length<=15) (st.1.1.length<=729):=by
 obtain ⟨h1,h2,h3⟩:=h
 have a:3 ^ i<=3 ^ 5:=Nat.pow_le_pow_right (by decide) hi
 have b:3 ^ (i+1)<=3 ^ 6:=Nat.pow_le_pow_right (by decide) (Nat.succ_le_succ hi)
 have a':3 ^ i<=243:=a
 have b':3 ^ (i+1)<=729:=b
 exact ⟨by omega,fun x hx=>Nat.le_trans (h2 x hx) (by omega),by omega⟩
noncomputable def Vl0 (W T:List D) (nx:Nat) (z:LS):List (Str × AV):=[("words",.d (.lst W)),("told",.loc nx),("least",.d (.int (z.2:Nat))),("texts",.d (.lst T))]
theorem ls_out {W:List Str} (hW:W.length=3) (hw:∀ y ∈ W,y.length<=3) :
  STr prog w (KK w) bt (k+1) (lsF w) (lsO w) ⟨Vl0 (strDs W) [.str Str.empty] nx ([],0),[],upd m nx (.dictS []),nx+1⟩ .next ⟨Vl0 (strDs W) (strDs ([1,2,3,4,5].foldl (stepT W) (([],0),[Str.empty])).2) nx ([1,2,3,4,5].foldl (stepT W) (([],0),[Str.empty])).1,[],upd m nx (.dictS (tD ([1,2,3,4,5].foldl (stepT W) (([],0),[Str.empty])).1.1)),nx+1⟩:=by
 have i0:InvT 0 ((([],0),[Str.empty]):LS × List Str):=⟨rfl,fun x hx=>by rw [List.mem_singleton.mp hx]; exact Nat.le_refl _,Nat.zero_le _⟩
 have loop:=for_fold (prog:=prog) (w:=w) (K:=KK w) (btab:=bt) (k:=k+1) (φ:=lsF w) (t:=forTgt (lsO w)) (b:=forBody (lsO w)) (a:=.d (.rng 1 6 1)) (ds0:=rngD 1 6 1) (fz:=[]) (nx:=nx+1)
  (V:=fun st:LS × List Str=>Vl0 (strDs W) (strDs st.2) nx st.1) (M:=fun st=>upd m nx (.dictS (tD st.1.1))) (step:=stepT W) (gD:=fun c:Nat=>D.int c) (VX:=fun st c=>("count",.d (.int c)) :: Vl0 (strDs W) (strDs st.2) nx st.1) [1,2,3,4,5] (([],0),[Str.empty]) _ (.refl _) (fun pre c post he=>by
   obtain ⟨hmem,hlen⟩:=pre_mem he
   have hlen:pre.length < 5:=hlen
   have iv:=invT_fold hW hw pre i0
   rw [Nat.zero_add] at iv
   refine ⟨⟨by kernel_rfl,rfl⟩,takes_nameN "count" (by kernel_rfl) (by kernel_rfl),.next,Vl0 (strDs W) (strDs (stepT W (pre.foldl (stepT W) (([],0),[Str.empty])) c).2) nx (stepT W (pre.foldl (stepT W) (([],0),[Str.empty])) c).1,.inl rfl,?_,.refl _⟩
   generalize pre.foldl (stepT W) (([],0),[Str.empty])=st at iv ⊢
   obtain ⟨b1,b2,b3⟩:=invT_bnd iv (by omega)
   obtain ⟨c1,c2,c3⟩:=invT_bnd (invT_step hW hw iv c) (by omega)
   have c1:(nextT W st.2).length<=243:=c1
   have c2:∀ x ∈ nextT W st.2,x.length<=15:=c2
   have s1:=ls_comp (prog:=prog) (w:=w) (k:=k+1) (m:=upd m nx (.dictS (tD st.1.1))) (nx:=nx) W st.2 c st.1 (by rw [hW]; omega) hw (fun x hx=>Nat.le_trans (b2 x hx) (by decide))
   have s2:=ls_in (prog:=prog) (w:=w) (k:=k+1) (m:=m) (nx:=nx) (strDs W) (nextT W st.2) c st.1 (by omega) (fun x hx=>Nat.le_trans (c2 x hx) (by decide))
   unfold Vl at s1 s2
   unfold Vl0
   show BTr prog w (KK w) bt (k+1) (lsF w) (forBody (lsO w)) _ .next ⟨[("words",.d (.lst (strDs W))),("told",.loc nx),("least",.d (.int (((nextT W st.2).foldl (stepL c) st.1).2:Nat))),("texts",.d (.lst (strDs (nextT W st.2))))],[],upd m nx (.dictS (tD ((nextT W st.2).foldl (stepL c) st.1).1)),nx+1⟩
   generalize (nextT W st.2).foldl (stepL c) st.1=z2 at s2 ⊢
   generalize upd m nx (.dictS (tD z2.1))=M2 at s2 ⊢
   generalize upd m nx (.dictS (tD st.1.1))=M1 at s1 s2 ⊢
   exact BTr.runS 20 [.stm s1,.stm s2] (by kernel_rfl)) ⟨by kernel_rfl,rfl⟩
 generalize [1,2,3,4,5].foldl (stepT W) (([],0),[Str.empty])=st2 at loop ⊢
 have e:([1,2,3,4,5]:List Nat).map (fun c:Nat=>D.int c)=rngD 1 6 1:=by kernel_rfl
 rw [e] at loop
 have em:upd m nx (.dictS (tD []))=upd m nx (.dictS []):=rfl
 exact STr.forP (.d (.rng 1 6 1)) (rngD 1 6 1) 20 [(cx prog w (k+1) (upd m nx (.dictS [])) (nx+1)).range2 1 6] (by kernel_rfl) (by kernel_rfl) ⟨by kernel_rfl,rfl⟩ loop
theorem least_tr {W:List Str} (hW:W.length=3) (hw:∀ y ∈ W,y.length<=3) :
  CallTr prog w (KK w) bt (k+2) (fn w "_law_least") [.d (.lst (strDs W))] [] m nx (.d (.int (leastF W:Nat))) m nx:=by
 have st:=ls_out (prog:=prog) (w:=w) (k:=k) (m:=m) (nx:=nx) hW hw
 unfold leastF
 generalize [1,2,3,4,5].foldl (stepT W) (([],0),[Str.empty])=st2 at st ⊢
 have hlow:Low m nx (upd m nx (.dictS (tD st2.1.1))) (nx+1) m nx:=Low.same (Nat.le_succ nx) fun i hi=>upd_ne _ _ _ (Nat.ne_of_lt hi)
 unfold Vl0 at st
 generalize upd m nx (.dictS (tD st2.1.1))=M2 at st hlow
 generalize strDs W=WD at st ⊢
 have h:CodeTr prog w (KK w) bt (k+2) (fn w "_law_least") [.d (.lst WD)] [] m nx (.d (.int (st2.1.2:Nat))) M2 (nx+1):=
  codeA (fa w "_law_least") ["words"] [.d (.lst WD)] (.ret (.d (.int (st2.1.2:Nat)))) M2 (nx+1) [] [.pick true,.lst [.str Str.empty] false (by decide),.stm st] (by kernel_rfl) (bindq1 fun S a=>by kernel_rfl) rfl (by kernel_rfl)
 exact (h.call).low hlow (.d _)
set_option backward.match.sparseCases false in
@[irreducible] noncomputable def cmpArg:Stmt->PySem.Expr
 | .If (.Compare _ _ (r :: _) _) _ _ _=>cArg 0 r
 | _=>.Constant .none 0 default
set_option backward.match.sparseCases false in
@[irreducible] noncomputable def tupFst:PySem.Expr->PySem.Expr
 | .Tuple (r :: _) _ _=>r
 | e=>e
theorem word_src (l:List Bool):strD (wordS l)=l.map fun b=>D.str (oneS b):=by
 unfold strD wordS
 show (l.map bitC).map _=_
 rw [List.map_map]
 refine List.map_congr_left fun b _=>congrArg D.str (str_ext ?_)
 rfl
noncomputable def bitI (b:Bool):Nat:=if b then 1 else 0
theorem one_int (b:Bool):PySem.intText? (oneS b)=some (bitI b:Nat) /\ (oneS b).length=1 /\ bitI b < 2:=by
 cases b
 ·exact ⟨by decide +kernel,by decide +kernel,by decide⟩
 ·exact ⟨by decide +kernel,by decide +kernel,by decide⟩
noncomputable def kindsL (Ls:List Str):List Int:=Ls.map fun y=>(signsL.idxOf y:Int)+7
noncomputable def rowsW (Ks:List Int) (ws:List (List Bool)):List Row:=(List.range 3).map fun p=>((ws.getD p []).map fun b=>Ks.getD (bitI b) 0,(p:Int))
noncomputable abbrev lwF (w:World):Fm:=ph w "law"
noncomputable abbrev lwC (w:World):PySem.Expr:=cmpArg (nthS (bd w "law") 8)
theorem lw_rows (V:List (Str × AV)) (Ks:List Int) (hK:Ks.length=2) (ws:List (List Bool)) (hW:ws.length=3) (hl:∀ l ∈ ws,l.length<=9)
  (first:ETr prog w (KK w) bt k (lwF w) (lcFirst (lwC w)).iter ⟨V,[],m,nx⟩ (.d (.rng 0 3 1)) ⟨V,[],m,nx⟩)
  (hh:compVars (lwF w) V (lcScope (lwC w))=([("kinds",.d (.lst (Ks.map D.int))),("words",.d (.lst (strDs (ws.map wordS))))]:List (Str × AV))) :
  ETr prog w (KK w) bt k (lwF w) (lwC w) ⟨V,[],m,nx⟩ (.d (.lst ((rowsW Ks ws).map rT))) ⟨V,[],m,nx⟩:=by
 have e:(rowsW Ks ws).map rT=(List.range 3).map fun p:Nat=>D.tup [.lst (((ws.getD p []).map fun b=>Ks.getD (bitI b) 0).map D.int),.int (p:Nat)]:=by unfold rowsW; rw [List.map_map]
 rw [e]
 refine ETr.ofLoop (by kernel_rfl) (a:=.d (.rng 0 3 1)) (ds:=(List.range 3).map fun i:Nat=>D.int i) first (dsrc_rng (n:=3) (by kernel_rfl))
  (loop1n (st:=⟨V,[],m,nx⟩) (by kernel_rfl) (by kernel_rfl) (dsrc_rng (n:=3) (by kernel_rfl)) (tgt_nameN "place" (by kernel_rfl) (by kernel_rfl) (by rw [hh]; kernel_rfl)) (fun p hp l'=>?_) (by decide))
 have hp3:p < 3:=List.mem_range.mp hp
 have hg:(strDs (ws.map wordS))[p]? = some (.str (wordS (ws.getD p []))):=by
  have:=strDs_get (l:=ws.map wordS) (i:=p) (by rw [List.length_map,hW]; exact hp3)
  rw [this]
  refine congrArg (fun x=>some (D.str x)) ?_
  rw [List.getD_eq_getElem?_getD,List.getD_eq_getElem?_getD,List.getElem?_map,List.getElem?_eq_getElem (by rw [hW]; exact hp3)]
  rfl
 have hlen:(ws.getD p []).length<=9:=hl _ (by rw [List.getD_eq_getElem?_getD,List.getElem?_eq_getElem (by rw [hW]; exact hp3)]; exact List.getElem_mem _)
 rw [hh]
 generalize ws.getD p []=wd at hg hlen ⊢
 generalize strDs (ws.map wordS)=WD at hg ⊢
 have e2:(wd.map fun b=>Ks.getD (bitI b) 0).map D.int=wd.map fun b=>D.int (Ks.getD (bitI b) 0):=by rw [List.map_map]; rfl
 have inner:ETr prog w (KK w) bt k (compFm (lwF w) (lcScope (lwC w))) (tupFst (lcElt (lwC w))) ⟨("place",.d (.int p)) :: [("kinds",.d (.lst (Ks.map D.int))),("words",.d (.lst WD))],compFz (lwF w) (lcScope (lwC w)),upd m nx (.list l'),nx+1⟩ (.d (.lst ((wd.map fun b=>Ks.getD (bitI b) 0).map D.int))) ⟨("place",.d (.int p)) :: [("kinds",.d (.lst (Ks.map D.int))),("words",.d (.lst WD))],compFz (lwF w) (lcScope (lwC w)),upd m nx (.list l'),nx+1⟩:=by
  rw [e2]
  refine ETr.ofLoop (by kernel_rfl) (a:=.d (.str (wordS wd))) (ds:=wd.map fun b=>D.str (oneS b)) (ETr.runE 20 [(cx prog w k (upd m nx (.list l')) (nx+1)).item WD p p (.str (wordS wd)) rfl hg (by omega)] (by kernel_rfl)) (word_src wd).symm
   (loop1n (st:=⟨_,_,upd m nx (.list l'),nx+1⟩) (a:=.d (.str (wordS wd))) (xs:=wd) (gD:=fun b=>D.str (oneS b)) (by kernel_rfl) (by kernel_rfl) (word_src wd).symm (tgt_nameN "bit" (by kernel_rfl) (by kernel_rfl) (by kernel_rfl)) (fun b hb l2=>?_) (by omega))
  obtain ⟨o1,o2,o3⟩:=one_int b
  have gk:(Ks.map D.int)[bitI b]? = some (.int (Ks.getD (bitI b) 0)):=by
   rw [List.getElem?_map,List.getD_eq_getElem?_getD,List.getElem?_eq_getElem (by rw [hK]; exact o3)]
   rfl
  generalize Ks.getD (bitI b) 0=kb at gk ⊢
  generalize Ks.map D.int=KD at gk ⊢
  exact ETr.runE 20 [(cx prog w k (upd (upd m nx (.list l')) (nx+1) (.list l2)) (nx+1+1)).intS (oneS b) (bitI b:Nat) o1 (by rw [o2]; decide),(cx prog w k (upd (upd m nx (.list l')) (nx+1) (.list l2)) (nx+1+1)).item KD (bitI b:Nat) (bitI b) (.int kb) rfl gk (by omega)] (by kernel_rfl)
 generalize (wd.map fun b=>Ks.getD (bitI b) 0).map D.int=rl at inner ⊢
 exact ETr.runE 20 [.comp inner,.tup [.lst rl,.int (p:Nat)] (show 2<=1000 by decide)] (by kernel_rfl)
theorem lw_kinds (V:List (Str × AV)) (Ls:List Str) (hL:Ls.length=2) (hm:∀ y ∈ Ls,y ∈ signsL)
  (first:ETr prog w (KK w) bt (k+1) (lwF w) (lcFirst (asVal (nthS (bd w "law") 7))).iter ⟨V,[],m,nx⟩ (.d (.lst (strDs Ls))) ⟨V,[],m,nx⟩)
  (hh:compVars (lwF w) V (lcScope (asVal (nthS (bd w "law") 7)))=([]:List (Str × AV))) :
  STr prog w (KK w) bt (k+1) (lwF w) (nthS (bd w "law") 7) ⟨V,[],m,nx⟩ .next ⟨setv "kinds" (.d (.lst ((kindsL Ls).map D.int))) V,[],m,nx⟩:=by
 have e:(kindsL Ls).map D.int=Ls.map fun y=>D.int ((signsL.idxOf y:Nat)+7):=by unfold kindsL; rw [List.map_map]; rfl
 rw [e]
 refine STr.ofLoopC (by kernel_rfl) (by kernel_rfl) (by kernel_rfl) rfl (a:=.d (.lst (strDs Ls))) (ds:=Ls.map D.str) first rfl
  (loop1n (st:=⟨V,[],m,nx⟩) (a:=.d (.lst (strDs Ls))) (xs:=Ls) (gD:=D.str) (by kernel_rfl) (by kernel_rfl) rfl (tgt_nameN "letter" (by kernel_rfl) (by kernel_rfl) (by rw [hh]; kernel_rfl)) (fun y hy l'=>?_) (by omega))
 have sg:∀ M N0,CallTr prog w (KK w) bt (k+1) (fn w "_law_signs") [] [] M N0 (.d (.lst (strDs signsL))) M N0:=fun M N0=>signs_tr
 have hy':=hm y hy
 have hs:signsL.length<=100000:=by rw [signs_len]; decide
 rw [hh]
 have ci:=c_indexS (prog:=prog) (w:=w) (K:=KK w) (btab:=bt) (k:=k+1) (m:=upd m nx (.list l')) (nx:=nx+1) (a:=.d (.lst (strDs signsL))) (x:=y) (ys:=signsL) rfl trivial hy' hs
 generalize signsL.idxOf y=ii at ci ⊢
 generalize strDs signsL=S at sg ci
 exact ETr.runE 20 [.call (sg (upd m nx (.list l')) (nx+1)),(cx prog w (k+1) (upd m nx (.list l')) (nx+1)).mIndex (.d (.lst S)) S rfl trivial,.call ci] (by kernel_rfl)
theorem law_run {S0 R T Ky:List D} {Ws Ls:List Str} {Ks:List Int} {ws:List (List Bool)} {tx rd:Str} {sm:Int} {ls:Nat} {m1 m2 m3 m4 m5:Nat->MO} {ss ps l2:Nat} (hWs:Ws=ws.map wordS) (hL:Ls.length=2) (hm:∀ y ∈ Ls,y ∈ signsL) (hK:Ks=kindsL Ls) (hW:ws.length=3) (hl:∀ l ∈ ws,l.length<=9)
 (e0:CallTr prog w (KK w) bt (k+7) (fn w "_law_names") [] [] m nx (.d (.lst (strDs namesL))) m nx)
 (e1:CallTr prog w (KK w) bt (k+7) (fn w "_law_words") [.d (.lst S0)] [] m nx (.d (.lst (strDs Ws))) m nx)
 (e2:CallTr prog w (KK w) bt (k+7) (fn w "_law_letters") [.d (.lst S0)] [] m nx (.d (.lst (strDs Ls))) m nx)
 (es:CallTr prog w (KK w) bt (k+7) (.k (.builtin "sum")) [.d (.lst S0)] [] m nx (.d (.int sm)) m nx)
 (e3:CallTr prog w (KK w) bt (k+7) (fn w "_law_text") [.d (.lst (strDs namesL)),.d (.lst (strDs Ws)),.d (.lst (strDs Ls)),.d (.int sm)] [] m nx (.d (.str tx)) m nx)
 (e4:CallTr prog w (KK w) bt (k+7) (fn w "_law_lexer") [.d (.str tx)] [] m nx (.loc (nx+5)) m1 (nx+7))
 (e5:CallTr prog w (KK w) bt (k+7) (fn w "Headers") [] [] m1 (nx+7) (.loc (nx+8)) m2 (nx+10))
 (e6:CallTr prog w (KK w) bt (k+7) (fn w "_law_read") [.loc (nx+5),.loc (nx+8)] [] m2 (nx+10) (.d (.lst (strDs namesL))) m3 (nx+10))
 (x1:m3 (nx+5)=.inst (netC w) (nx+4)) (x2:m3 (nx+4)=.ns (lexNs 4 (.loc ss) ps)) (fN:Flat (.lst (strDs namesL)))
 (e7:CallTr prog w (KK w) bt (k+7) (fn w "_law_in_order") [.d (.lst (strDs namesL)),.loc (nx+8)] [] m3 (nx+10) (.d (.lst R)) m3 (nx+10))
 (e8:CallTr prog w (KK w) bt (k+7) (.k (.builtin "sorted")) [.d (.lst ((rowsW Ks ws).map rT))] [] m3 (nx+10) (.d (.lst R)) m3 (nx+10)) (fR:Flat (.lst R))
 (e9:CallTr prog w (KK w) bt (k+7) (fn w "Headers") [] [] m3 (nx+10) (.loc (nx+11)) m4 (nx+13))
 (e10:CallTr prog w (KK w) bt (k+7) (fn w "_law_walk") [.loc (nx+5),.d (.lst R),.loc (nx+11)] [] m4 (nx+13) (.d (.lst T)) m5 (nx+13)) (fT:Flat (.lst T)) (zT:T.length<=1000) (zK:Ky.length<=1000)
 (h1:m5 (nx+11)=.inst (hdC w) (nx+10)) (h2:m5 (nx+10)=.ns [("_headers",.loc l2)])
 (e11:CallTr prog w (KK w) bt (k+7) (.k (.ref (hkA w))) [.loc (nx+11)] [] m5 (nx+13) (.d (.lst Ky)) m5 (nx+13)) (eT:pickD (Ky ++ [D.str Str.empty]) none (some (T.length:Nat))=T)
 (e12:CallTr prog w (KK w) bt (k+7) (fn w "_law_true_rests") [.loc (nx+11),.d (.lst (strDs Ws)),.d (.lst (strDs Ls))] [] m5 (nx+13) (.d (.bool true)) m5 (nx+13))
 (e13:CallTr prog w (KK w) bt (k+7) (.k (.ref (hgA w))) [.loc (nx+11),.d (.str Str.empty),.d (.str "/")] [] m5 (nx+13) (.d (.str rd)) m5 (nx+13)) (zr:rd.length<=10000)
 (e14:CallTr prog w (KK w) bt (k+7) (fn w "_law_least") [.d (.lst (strDs Ws))] [] m5 (nx+13) (.d (.int (ls:Nat))) m5 (nx+13)) (el:(rd.length:Int) - 1=(ls:Nat)) :
 CodeTr prog w (KK w) bt (k+8) (fn w "law") [.d (.lst S0)] [] m nx (.d (.bool true)) m5 (nx+13):=by
 obtain ⟨V,hV⟩ : ∃ V:List (Str × AV),V=([("script",.d (.lst S0)),("names",.d (.lst (strDs namesL))),("words",.d (.lst (strDs Ws))),("letters",.d (.lst (strDs Ls))),("lexer",.loc (nx+5)),("code",.loc (nx+8)),("rows",.d (.lst R))]:List (Str × AV)):=⟨_,rfl⟩
 have sK:=lw_kinds (prog:=prog) (w:=w) (k:=k+6) (m:=m3) (nx:=nx+10) V Ls hL hm (ETr.runE 20 [] (by subst hV; kernel_rfl)) (by subst hV; kernel_rfl)
 rw [<- hK] at sK
 have cP:=lw_rows (prog:=prog) (w:=w) (k:=k+7) (m:=m3) (nx:=nx+10) (setv "kinds" (.d (.lst (Ks.map D.int))) V) Ks (by rw [hK]; unfold kindsL; rw [List.length_map]; exact hL) ws hW hl (ETr.runE 20 [(cx prog w (k+7) m3 (nx+10)).range1 3] (by subst hV; kernel_rfl)) (by subst hV hWs; kernel_rfl)
 have ln:CallTr prog w (KK w) bt (k+7) (.k (.builtin "len")) [.d (.lst T)] [] m5 (nx+13) (.d (.int T.length)) m5 (nx+13):=len_ints T (by omega)
 have eb:decide ((rd.length:Int) - 1=(ls:Nat))=true:=decide_eq_true el
 subst hV
 generalize strDs namesL=N at *
 generalize strDs Ws=WD at *
 generalize strDs Ls=LD at *
 generalize Ks.map D.int=KD at *
 generalize (rowsW Ks ws).map rT=RW at *
 have h:=codeA (prog:=prog) (w:=w) (k:=k+7) (m:=m) (nx:=nx) (fa w "law") ["script"] [.d (.lst S0)] (.ret (.d (.bool (decide ((rd.length:Int) - 1=(ls:Nat)))))) m5 (nx+13) [] [.call e0,.call e1,.call e2,.call es,.call e3,.call e4,.call e5,.call e6,
  (cx prog w (k+7) m3 (nx+10)).neF (.d (.lst N)) (.d (.lst N)) (.lst N) (.lst N) true (eq_iff rfl) (.inl rfl) (.inl rfl) fN fN,.br (!true) false rfl,
  (cx prog w (k+7) m3 (nx+10)).getA (nx+5) (nx+4) (netC w) (lexNs 4 (.loc ss) ps) "lineno" (.d (.int 4)) (Nat.add_lt_add_left (by decide) nx) x1 x2 rfl rfl (by kernel_rfl),.br (!decide ((4:Int)=4)) false rfl,
  .call e7,.stm sK,.comp cP,.call e8,(cx prog w (k+7) m3 (nx+10)).neF (.d (.lst R)) (.d (.lst R)) (.lst R) (.lst R) true (eq_iff rfl) (.inl rfl) (.inl rfl) fR fR,.br (!true) false rfl,
  .call e9,.call e10,
  (cx prog w (k+7) m5 (nx+13)).mFn (nx+11) (nx+10) (hdC w) (hkA w) [("_headers",.loc l2)] "keys" (Nat.add_lt_add_left (by decide) nx) h1 h2 (by kernel_rfl) (by kernel_rfl),.call e11,.lst [.str Str.empty] false (by decide),
  (cx prog w (k+7) m5 (nx+13)).addL (.d (.lst Ky)) (.d (.lst [.str Str.empty])) Ky [.str Str.empty] rfl trivial rfl trivial (by rw [List.length_singleton]; omega),.call ln,
  (cx prog w (k+7) m5 (nx+13)).slc (.d (.lst (Ky ++ [D.str Str.empty]))) (.d .none) (.d (.int T.length)) (Ky ++ [D.str Str.empty]) none (some (T.length:Nat)) rfl trivial rfl rfl (by rw [List.length_append,List.length_singleton]; omega),
  (cx prog w (k+7) m5 (nx+13)).neF (.d (.lst T)) (.d (.lst (pickD (Ky ++ [D.str Str.empty]) none (some (T.length:Nat))))) (.lst T) (.lst (pickD (Ky ++ [D.str Str.empty]) none (some (T.length:Nat)))) true (eq_iff (by rw [eT])) (.inl rfl) (.inl rfl) fT (by rw [eT]; exact fT),.br (!true) false rfl,
  .call e12,.br true true rfl,
  (cx prog w (k+7) m5 (nx+13)).mFn (nx+11) (nx+10) (hdC w) (hgA w) [("_headers",.loc l2)] "get" (Nat.add_lt_add_left (by decide) nx) h1 h2 (by kernel_rfl) (by kernel_rfl),.call e13,(cx prog w (k+7) m5 (nx+13)).lenS rd (by omega),.call e14] (by kernel_rfl) (bindq1 fun S a=>by kernel_rfl) rfl (by kernel_rfl)
 rw [eb] at h
 exact h
end
noncomputable abbrev WdB:=List Bool
noncomputable abbrev RwB:=WdB × Nat
noncomputable abbrev ArB:=WdB × List Nat × List Nat
noncomputable def beqW:WdB->WdB->Bool
 | [],[]=>true
 | x :: a,y :: b=>(x == y) && beqW a b
 | _,_=>false
theorem beqW_eq:∀ a b:WdB,beqW a b=decide (a=b)
 | [],[]=>rfl
 | [],_ :: _=>(decide_eq_false fun h=>nomatch h).symm
 | _ :: _,[]=>(decide_eq_false fun h=>nomatch h).symm
 | x :: a,y :: b=>by
  have ih:=beqW_eq a b
  show ((x == y) && beqW a b)=_
  rw [ih]
  by_cases e:x=y
  ·rw [e,beq_self_eq_true,Bool.true_and]
   exact decide_eq_decide.mpr ⟨fun h=>congrArg (y :: ·) h,fun h=>(List.cons.inj h).2⟩
  ·rw [beq_false_of_ne e,Bool.false_and]
   exact (decide_eq_false fun h=>e (List.cons.inj h).1).symm
noncomputable def foundB (rows:List RwB) (b:WdB) (n:Nat):List RwB:=rows.filter fun r=>beqW (r.1.take n) b
noncomputable def noteB (s:List ArB) (e:ArB):List ArB:=if s.any (fun x=>beqW x.1 e.1) then s else s ++ [e]
noncomputable def stepIB (r:RwB) (s:List ArB) (o:RwB):List ArB:=if o.2=r.2 then s else noteB s (o.1.drop r.1.length,[o.2],[r.2])
noncomputable def initB (rows:List RwB):List ArB:=rows.foldl (fun s r=>(foundB rows r.1 r.1.length).foldl (stepIB r) s) []
noncomputable def step6B (e:ArB) (s:List ArB) (r:RwB):List ArB:=noteB s (r.1.drop e.1.length,e.2.2 ++ [r.2],e.2.1)
noncomputable def step5B (e:ArB) (n:Nat) (s:List ArB) (r:RwB):List ArB:=noteB s (e.1.drop n,e.2.1,e.2.2 ++ [r.2])
noncomputable def turnB (rows:List RwB) (e:ArB) (s:List ArB):List ArB:=
 (foundB rows e.1 e.1.length).foldl (step6B e) ((List.range' 1 (e.1.length - 1)).foldl (fun s n=>(foundB rows (e.1.take n) 4).foldl (step5B e n) s) s)
section
variable (φ:Bool->Int)
noncomputable def mR (r:RwB):Row:=(r.1.map φ,(r.2:Int))
noncomputable def mA (e:ArB):AR:=(e.1.map φ,e.2.1.map fun n:Nat=>(n:Int),e.2.2.map fun n:Nat=>(n:Int))
variable {φ}
theorem map_inj (hφ:∀ a b,φ a=φ b->a=b):∀ a b:WdB,a.map φ=b.map φ->a=b
 | [],[],_=>rfl
 | [],_ :: _,h=>(nomatch h)
 | _ :: _,[],h=>(nomatch h)
 | x :: a,y :: b,h=>by
  obtain ⟨h1,h2⟩:=List.cons.inj h
  rw [hφ _ _ h1,map_inj hφ a b h2]
theorem map_iff (hφ:∀ a b,φ a=φ b->a=b) {a b:WdB}:a.map φ=b.map φ ↔ a=b:=⟨map_inj hφ a b,fun h=>h ▸ rfl⟩
theorem found_m (hφ:∀ a b,φ a=φ b->a=b) (rows:List RwB) (b:WdB) (n:Nat):foundF (rows.map (mR φ)) (b.map φ) n=(foundB rows b n).map (mR φ):=by
 unfold foundF foundB
 rw [List.filter_map]
 refine congrArg (List.map (mR φ)) (List.filter_congr fun r _=>?_)
 show decide ((r.1.map φ).take n=b.map φ)=_
 rw [beqW_eq,<- List.map_take]
 exact decide_eq_decide.mpr (map_iff hφ)
theorem note_m (hφ:∀ a b,φ a=φ b->a=b) (s:List ArB) (e:ArB):noteA (s.map (mA φ)) (mA φ e)=(noteB s e).map (mA φ):=by
 have g:(s.map (mA φ)).any (fun x=>decide (x.1=(mA φ e).1))=s.any fun x=>beqW x.1 e.1:=by
  rw [List.any_map]
  congr 1
  funext x
  show decide (x.1.map φ=e.1.map φ)=_
  rw [beqW_eq]
  exact decide_eq_decide.mpr (map_iff hφ)
 unfold noteA noteB
 rw [g]
 by_cases q:s.any (fun x=>beqW x.1 e.1)=true
 ·rw [if_pos q,if_pos q]
 ·rw [if_neg q,if_neg q,List.map_append]; rfl
theorem fold_m {α β:Type} (g:α->β) (F:List AR->β->List AR) (f:List ArB->α->List ArB) (h:∀ s x,F (s.map (mA φ)) (g x)=(f s x).map (mA φ)):∀ (l:List α) (s:List ArB),(l.map g).foldl F (s.map (mA φ))=(l.foldl f s).map (mA φ)
 | [],_=>rfl
 | x :: l,s=>by
  rw [List.map_cons,List.foldl_cons,List.foldl_cons,h]
  exact fold_m g F f h l _
theorem init_m (hφ:∀ a b,φ a=φ b->a=b) (rows:List RwB):initA (rows.map (mR φ))=(initB rows).map (mA φ):=by
 unfold initA initB
 refine fold_m (φ:=φ) (mR φ) _ _ (fun s r=>?_) rows []
 show (foundF (rows.map (mR φ)) (r.1.map φ) (r.1.map φ).length).foldl (stepIA (mR φ r)) (s.map (mA φ))=_
 rw [List.length_map,found_m hφ]
 refine fold_m (φ:=φ) (mR φ) _ _ (fun s o=>?_) _ s
 unfold stepIA stepIB
 by_cases q:o.2=r.2
 ·have q':(mR φ o).2=(mR φ r).2:=congrArg (fun n:Nat=>(n:Int)) q
  rw [if_pos q',if_pos q]
 ·have q':¬ (mR φ o).2=(mR φ r).2:=fun z=>q (Int.ofNat_inj.mp z)
  rw [if_neg q',if_neg q,<- note_m hφ]
  unfold mA mR
  dsimp only
  rw [List.map_drop,List.length_map]
  rfl
theorem turn_m (hφ:∀ a b,φ a=φ b->a=b) (rows:List RwB) (e:ArB) (s:List ArB):turnA (rows.map (mR φ)) (mA φ e) (s.map (mA φ))=(turnB rows e s).map (mA φ):=by
 unfold turnA turnB
 have hl:(mA φ e).1.length=e.1.length:=List.length_map _
 have i1:(List.range' 1 ((mA φ e).1.length - 1)).foldl (fun s n=>(foundF (rows.map (mR φ)) ((mA φ e).1.take n) 4).foldl (step5A (mA φ e) n) s) (s.map (mA φ))=((List.range' 1 (e.1.length - 1)).foldl (fun s n=>(foundB rows (e.1.take n) 4).foldl (step5B e n) s) s).map (mA φ):=by
  rw [hl]
  have:=fold_m (φ:=φ) (id:Nat->Nat) (fun s n=>(foundF (rows.map (mR φ)) ((mA φ e).1.take n) 4).foldl (step5A (mA φ e) n) s) (fun s n=>(foundB rows (e.1.take n) 4).foldl (step5B e n) s) (fun s n=>by
   show (foundF (rows.map (mR φ)) ((e.1.map φ).take n) 4).foldl (step5A (mA φ e) n) (s.map (mA φ))=_
   rw [<- List.map_take,found_m hφ]
   refine fold_m (φ:=φ) (mR φ) _ _ (fun s r=>?_) _ s
   unfold step5A step5B
   rw [<- note_m hφ]
   unfold mA mR
   dsimp only
   rw [List.map_drop,List.map_append]
   rfl) (List.range' 1 (e.1.length - 1)) s
  rw [List.map_id] at this
  exact this
 rw [i1,hl]
 show (foundF (rows.map (mR φ)) (e.1.map φ) e.1.length).foldl (step6A (mA φ e)) _=_
 rw [found_m hφ]
 refine fold_m (φ:=φ) (mR φ) _ _ (fun s r=>?_) _ _
 unfold step6A step6B
 rw [<- note_m hφ]
 unfold mA mR
 dsimp only
 rw [List.map_drop,List.map_append,List.length_map]
 rfl
end
noncomputable def okE (s:List ArB) (e:ArB):Bool:=decide (s.find? (fun x=>beqW x.1 e.1)=some e) && (e.2.1.all fun n=>Nat.ble n 2) && (e.2.2.all fun n=>Nat.ble n 2) && Nat.ble e.2.1.length 900 && Nat.ble e.2.2.length 900
noncomputable def runC (rows:List RwB):Nat->List ArB->Nat->Option (List ArB × Nat × List WdB)
 | 0,_,_=>none
 | n+1,s,i=>s[i]?.elim (some (s,i,[])) fun e=>if e.1 = [] then some (s,i+1,[]) else if okE s e=true then (runC rows n (turnB rows e s) (i+1)).map fun q=>(q.1,q.2.1,e.1 :: q.2.2) else none
theorem figs_m {l:List Nat} (h:(l.all fun n=>Nat.ble n 2)=true) (h2:Nat.ble l.length 900=true):Figs (l.map fun n:Nat=>(n:Int)):=by
 refine ⟨fun i hi=>?_,by rw [List.length_map]; exact Nat.le_of_ble_eq_true h2⟩
 obtain ⟨n,hn,rfl⟩:=List.mem_map.mp hi
 have:=Nat.le_of_ble_eq_true (List.all_eq_true.mp h n hn)
 exact ⟨Int.natCast_nonneg n,by omega⟩
section
variable {φ:Bool->Int}
theorem halt_m (hφ:∀ a b,φ a=φ b->a=b) (rows:List RwB):∀ (n:Nat) (s:List ArB) (i:Nat) (q:List ArB × Nat × List WdB),runC rows n s i=some q->Halt (rows.map (mR φ)) (s.map (mA φ)) i (q.1.map (mA φ)) q.2.1 (q.2.2.map fun l=>l.map φ)
 | 0,_,_,_,h=>ns h
 | n+1,s,i,q,h=>by
  have h:(s[i]?.elim (some (s,i,[])) fun e=>if e.1 = [] then some (s,i+1,[]) else if okE s e=true then (runC rows n (turnB rows e s) (i+1)).map fun q=>(q.1,q.2.1,e.1 :: q.2.2) else none)=some q:=h
  cases g:s[i]? with
  | none=>
   rw [g] at h
   have h:some (s,i,[])=some q:=h
   rw [<- Option.some.inj h]
   exact .none (by rw [List.getElem?_map,g]; rfl)
  | some e=>
   rw [g] at h
   have h:(if e.1 = [] then some (s,i+1,[]) else if okE s e=true then (runC rows n (turnB rows e s) (i+1)).map fun q=>(q.1,q.2.1,e.1 :: q.2.2) else none)=some q:=h
   have g2:(s.map (mA φ))[i]? = some (mA φ e):=by rw [List.getElem?_map,g]; rfl
   by_cases e0:e.1 = []
   ·rw [if_pos e0] at h
    rw [<- Option.some.inj h]
    exact .stop g2 (by show e.1.map φ = []; rw [e0]; rfl)
   ·rw [if_neg e0] at h
    by_cases ok:okE s e=true
    ·rw [if_pos ok] at h
     obtain ⟨q',hq,rfl⟩:=Option.map_eq_some_iff.mp h
     obtain ⟨ok,o5⟩:=and_t ok
     obtain ⟨ok,o4⟩:=and_t ok
     obtain ⟨ok,o3⟩:=and_t ok
     obtain ⟨o1,o2⟩:=and_t ok
     have ih:=halt_m hφ rows n _ _ _ hq
     rw [<- turn_m hφ] at ih
     have hf:(s.map (mA φ)).find? (fun x=>decide (x.1=(mA φ e).1))=some (mA φ e):=by
      rw [List.find?_map]
      have e1:((fun x:AR=>decide (x.1=(mA φ e).1)) ∘ mA φ)=fun x=>beqW x.1 e.1:=by
       funext x
       show decide (x.1.map φ=e.1.map φ)=_
       rw [beqW_eq]
       exact decide_eq_decide.mpr (map_iff hφ)
      rw [e1,of_decide_eq_true o1]
      rfl
     exact .step g2 (fun z=>e0 (List.map_eq_nil_iff.mp z)) hf (figs_m o2 o4) (figs_m o3 o5) ih
    ·rw [if_neg ok] at h
     exact ns h
end
noncomputable def ltIB:WdB->WdB->Bool
 | _,[]=>false
 | [],_ :: _=>true
 | x :: a,y :: b=>if x=y then ltIB a b else !x
noncomputable def ltTB (p q:RwB):Bool:=if beqW p.1 q.1=true then decide (p.2 < q.2) else ltIB p.1 q.1
noncomputable def insRB (s:List RwB) (y:RwB):List RwB:=s.take (s.countP fun r=>!ltIB y.1 r.1) ++ y :: s.drop (s.countP fun r=>!ltIB y.1 r.1)
noncomputable def rows3 (a b c:WdB):List RwB:=[(a,0),(b,1),(c,2)]
noncomputable def sortB (a b c:WdB):List RwB:=(rows3 a b c).foldl insRB []
noncomputable def askB (l:List RwB):Array Nat:=askRun (fun i j=>ltTB (l.getD i ([],0)) (l.getD j ([],0))) (kas_sort 3)
noncomputable def textB (ws:List WdB) (l:List Nat):WdB:=l.flatMap fun i=>ws.getD i []
noncomputable def sortedB:List Nat->Bool
 | x :: y :: l=>Nat.ble x y && sortedB (y :: l)
 | _=>true
noncomputable def stripB:WdB->WdB->Option WdB
 | [],b=>some b
 | _ :: _,[]=>none
 | x :: a,y :: b=>if x=y then stripB a b else none
noncomputable def emptyB (s:List ArB):Option ArB:=s.find? fun x=>beqW x.1 []
noncomputable def mB (s:List ArB):Nat:=(emptyB s).elim 11 fun e=>e.2.1.length+e.2.2.length
noncomputable def costB (s:List ArB) (m:Nat) (r:WdB):Nat:=(s.find? fun x=>beqW x.1 r).elim m fun e=>min m (e.2.1.length+e.2.2.length)
noncomputable def leB (s:List ArB) (m n:Nat) (o:Option WdB):Bool:=o.elim true fun r=>Nat.ble (costB s m r) n
noncomputable def closedB (ws:List WdB) (s:List ArB) (m:Nat):Bool:=
 (([0,1,2]:List Nat).all fun i=>([0,1,2]:List Nat).all fun j=>Nat.beq i j || leB s m 2 (stripB (ws.getD i []) (ws.getD j []))) &&
 s.all fun e=>beqW e.1 [] || ws.all fun x=>leB s m (costB s m e.1+1) (stripB x e.1) && leB s m (costB s m e.1+1) (stripB e.1 x)
noncomputable def endB (s:List ArB):Bool:=(emptyB s).elim true fun e=>Nat.ble e.2.1.length 5 && Nat.ble e.2.2.length 5 && Nat.ble 1 e.2.1.length && Nat.ble 1 e.2.2.length && !decide (e.2.1=e.2.2)
noncomputable def entB (ws:List WdB) (e:ArB):Bool:=beqW (textB ws e.2.1) (textB ws e.2.2 ++ e.1) && (e.2.1.all fun n=>Nat.ble n 2) && (e.2.2.all fun n=>Nat.ble n 2) && Nat.ble e.2.1.length 900 && Nat.ble e.2.2.length 900 && Nat.ble e.1.length 3
noncomputable def takenB (s:List ArB) (Ls:List WdB):Bool:=decide (Ls ++ [[]]=((s.map fun e:ArB=>e.1) ++ [[]]).take (Ls.length+1))
noncomputable def okC (a b c:WdB):Bool:=(permOk 3 (askB (rows3 a b c)) && decide ((askB (rows3 a b c)).toList.map (fun i=>(rows3 a b c).getD i ([],0))=sortB a b c)) &&
 (runC (sortB a b c) 12 (initB (sortB a b c)) 0).elim false fun q=>
  sortedB (q.1.map fun e=>e.2.1.length+e.2.2.length+1) && q.1.all (entB [a,b,c]) && Nat.ble q.2.2.length 12 && Nat.ble q.1.length 12 && takenB q.1 q.2.2 && closedB [a,b,c] q.1 (mB q.1) && endB q.1
noncomputable def words14:List WdB:=[[false],[false,false],[false,false,false],[false,false,true],[false,true],[false,true,false],[false,true,true],[true],[true,false],[true,false,false],[true,false,true],[true,true],[true,true,false],[true,true,true]]
noncomputable def evA (a:WdB):Bool:=words14.all fun b=>words14.all fun c=>okC a b c
theorem ev0:evA [false]=true:=by decide +kernel
theorem ev1:evA [false,false]=true:=by decide +kernel
theorem ev2:evA [false,false,false]=true:=by decide +kernel
theorem ev3:evA [false,false,true]=true:=by decide +kernel
theorem ev4:evA [false,true]=true:=by decide +kernel
theorem ev5:evA [false,true,false]=true:=by decide +kernel
theorem ev6:evA [false,true,true]=true:=by decide +kernel
theorem ev7:evA [true]=true:=by decide +kernel
theorem ev8:evA [true,false]=true:=by decide +kernel
theorem ev9:evA [true,false,false]=true:=by decide +kernel
theorem ev10:evA [true,false,true]=true:=by decide +kernel
theorem ev11:evA [true,true]=true:=by decide +kernel
theorem ev12:evA [true,true,false]=true:=by decide +kernel
theorem ev13:evA [true,true,true]=true:=by decide +kernel
theorem ev_all:words14.all evA=true:=by
 unfold words14
 simp only [List.all_cons,List.all_nil,ev0,ev1,ev2,ev3,ev4,ev5,ev6,ev7,ev8,ev9,ev10,ev11,ev12,ev13,Bool.and_self]
theorem ev_ok {a b c:WdB} (ha:a ∈ words14) (hb:b ∈ words14) (hc:c ∈ words14):okC a b c=true:=List.all_eq_true.mp (List.all_eq_true.mp (List.all_eq_true.mp ev_all a ha) b hb) c hc
theorem word_in:∀ x y z:Bool,A3 ([x] ∈ words14) ([x,y] ∈ words14) ([x,y,z] ∈ words14):=by
 have h:∀ x y z:Bool,[x] ∈ words14 /\ [x,y] ∈ words14 /\ [x,y,z] ∈ words14:=by decide +kernel
 exact fun x y z=>⟨(h x y z).1,(h x y z).2.1,(h x y z).2.2⟩
theorem app_split {a b c d:WdB} (h:a ++ b=c ++ d):(∃ e,c=a ++ e /\ b=e ++ d) \/ (∃ e,a=c ++ e /\ d=e ++ b):=List.append_eq_append_iff.mp h
theorem strip_app:∀ (a e:WdB),stripB a (a ++ e)=some e
 | [],_=>rfl
 | x :: a,e=>(if_pos rfl).trans (strip_app a e)
theorem text_cons (ws:List WdB) (i:Nat) (l:List Nat):textB ws (i :: l)=ws.getD i [] ++ textB ws l:=List.flatMap_cons
theorem text_app (ws:List WdB) (a b:List Nat):textB ws (a ++ b)=textB ws a ++ textB ws b:=List.flatMap_append
noncomputable def Ix3 (l:List Nat):Prop:=∀ i ∈ l,i < 3
theorem Ix3.tail {i:Nat} {l:List Nat} (h:Ix3 (i :: l)):i < 3 /\ Ix3 l:=⟨h i (List.mem_cons_self ..),fun j hj=>h j (List.mem_cons_of_mem _ hj)⟩
structure Wds (ws:List WdB):Prop where
 n:ws.length=3
 ne:∀ x ∈ ws,x ≠ []
theorem Wds.mem {ws:List WdB} (h:Wds ws) {i:Nat} (hi:i < 3):ws.getD i [] ∈ ws:=by
 have hi:i < ws.length:=h.n ▸ hi
 rw [List.getD_eq_getElem?_getD,List.getElem?_eq_getElem hi]
 exact List.getElem_mem hi
theorem text_nil {ws:List WdB} (h:Wds ws) {l:List Nat} (hl:Ix3 l) (e:textB ws l = []):l = []:=by
 cases l with
 | nil=>rfl
 | cons i l=>exact absurd (List.append_eq_nil_iff.mp ((text_cons ws i l).symm.trans e)).1 (h.ne _ (h.mem hl.tail.1))
theorem cost_le (s:List ArB) (m:Nat) (r:WdB):costB s m r<=m:=by
 unfold costB
 cases s.find? fun x=>beqW x.1 r with
 | none=>exact Nat.le_refl _
 | some e=>exact Nat.min_le_left _ _
theorem le_of {s:List ArB} {m n:Nat} {r:WdB} {o:Option WdB} (h:leB s m n o=true) (e:o=some r):costB s m r<=n:=by
 rw [e] at h
 exact Nat.le_of_ble_eq_true h
theorem beqW_of {a b:WdB} (h:beqW a b=true):a=b:=of_decide_eq_true ((beqW_eq a b).symm.trans h)
section
variable {ws:List WdB} {s:List ArB} {m:Nat}
theorem closed_step (hc:closedB ws s m=true) {r:WdB} (hr:r ≠ []) {x:WdB} (hx:x ∈ ws) {r':WdB} (h:stripB x r=some r' \/ stripB r x=some r'):costB s m r'<=costB s m r+1:=by
 cases q:s.find? fun y=>beqW y.1 r with
 | none=>
  have e:costB s m r=m:=by unfold costB; rw [q]; rfl
  rw [e]
  exact Nat.le_succ_of_le (cost_le s m r')
 | some e=>
  have he:e.1=r:=beqW_of (List.find?_some (p:=fun y:ArB=>beqW y.1 r) q)
  have h2:=List.all_eq_true.mp (and_t hc).2 e (List.mem_of_find?_eq_some q)
  have hn:beqW e.1 []=false:=by rw [beqW_eq,he]; exact decide_eq_false hr
  rw [hn,Bool.false_or] at h2
  obtain ⟨a,b⟩:=and_t (List.all_eq_true.mp h2 x hx)
  rw [he] at a b
  exact h.elim (le_of a) (le_of b)
theorem closed_init (hc:closedB ws s m=true) {i j:Nat} (hi:i < 3) (hj:j < 3) (hn:i ≠ j) {r:WdB} (h:stripB (ws.getD i []) (ws.getD j [])=some r):costB s m r<=2:=by
 have mem:∀ {n:Nat},n < 3->n ∈ ([0,1,2]:List Nat):=fun h=>List.mem_range.mpr h
 have h2:=List.all_eq_true.mp (List.all_eq_true.mp (and_t hc).1 i (mem hi)) j (mem hj)
 have hf:Nat.beq i j=false:=Bool.eq_false_iff.mpr fun e=>hn (Nat.eq_of_beq_eq_true e)
 rw [hf,Bool.false_or] at h2
 exact le_of h2 h
theorem low_rest (W:Wds ws) (hc:closedB ws s m=true) (he:costB s m []=m):∀ (n:Nat) (a b:List Nat) (r:WdB),a.length+b.length<=n->Ix3 a->Ix3 b->r ++ textB ws a=textB ws b->m<=costB s m r+(a.length+b.length)
 | n,a,b,[],_,_,_,_=>by rw [he]; exact Nat.le_add_right _ _
 | n,a,[],x :: r,_,_,_,h=>(nomatch h)
 | 0,a,i :: b,x :: r,hn,_,_,_=>absurd hn (Nat.not_succ_le_zero _)
 | n+1,a,i :: b,x :: r,hn,ha,hb,h=>by
  obtain ⟨hi,hb⟩:=hb.tail
  rw [text_cons] at h
  rw [List.length_cons,<- Nat.add_assoc] at hn ⊢
  have hm:=W.mem hi
  have hne:x :: r ≠ []:=List.cons_ne_nil _ _
  generalize x :: r=R at h hne ⊢
  rcases app_split h with ⟨e,e1,e2⟩ | ⟨e,e1,e2⟩
  ·have c:=closed_step hc hne hm (r':=e) (.inr (by rw [e1]; exact strip_app _ _))
   have ih:=low_rest W hc he n b a e (by rw [Nat.add_comm]; exact Nat.le_of_succ_le_succ hn) hb ha e2.symm
   lia
  ·have c:=closed_step hc hne hm (r':=e) (.inl (by rw [e1]; exact strip_app _ _))
   have ih:=low_rest W hc he n a b e (Nat.le_of_succ_le_succ hn) ha hb e2.symm
   lia
theorem low_rows (W:Wds ws) (hc:closedB ws s m=true) (he:costB s m []=m):∀ (p q:List Nat),Ix3 p->Ix3 q->p ≠ q->textB ws p=textB ws q->m<=p.length+q.length
 | [],q,_,hq,hn,h=>absurd (text_nil W hq h.symm).symm hn
 | p,[],hp,_,hn,h=>absurd (text_nil W hp h) hn
 | i :: p,j :: q,hp,hq,hn,h=>by
  obtain ⟨hi,hp2⟩:=hp.tail
  obtain ⟨hj,hq2⟩:=hq.tail
  rw [text_cons,text_cons] at h
  rw [List.length_cons,List.length_cons]
  by_cases e:i=j
  ·subst e
   have ih:=low_rows W hc he p q hp2 hq2 (fun z=>hn (congrArg _ z)) (List.append_cancel_left h)
   lia
  ·rcases app_split h with ⟨x,e1,e2⟩ | ⟨x,e1,e2⟩
   ·have c:=closed_init hc hi hj e (r:=x) (by rw [e1]; exact strip_app _ _)
    have ih:=low_rest W hc he _ q p x (Nat.le_refl _) hq2 hp2 e2.symm
    lia
   ·have c:=closed_init hc hj hi (Ne.symm e) (r:=x) (by rw [e1]; exact strip_app _ _)
    have ih:=low_rest W hc he _ p q x (Nat.le_refl _) hp2 hq2 e2.symm
    lia
end
structure InvL (τ:List Nat->Str) (P:List Nat->Prop) (z:LS):Prop where
 t1:∀ x d,z.1.lookup x=some d->∃ l,P l /\ τ l=x /\ l.length=d
 t2:∀ l,P l->∃ d,d<=l.length /\ z.1.lookup (τ l)=some d
 l1:z.2 ≠ 0->∃ p q,P p /\ P q /\ p ≠ q /\ τ p=τ q /\ p.length+q.length=z.2
 l2:∀ p q,P p->P q->p ≠ q->τ p=τ q->z.2 ≠ 0 /\ z.2<=p.length+q.length
noncomputable def newV (v n:Nat):Nat:=if v=0 then n else if n < v then n else v
theorem newV_ok (v:Nat) {n:Nat} (hn:n ≠ 0):A4 (newV v n ≠ 0) (newV v n<=n) (v ≠ 0->newV v n<=v) (newV v n=n \/ newV v n=v /\ v ≠ 0):=by
 unfold newV
 by_cases h:v=0
 ·rw [if_pos h]
  exact ⟨hn,Nat.le_refl _,fun z=>absurd h z,.inl rfl⟩
 ·rw [if_neg h]
  by_cases g:n < v
  ·rw [if_pos g]
   exact ⟨hn,Nat.le_refl _,fun _=>Nat.le_of_lt g,.inl rfl⟩
  ·rw [if_neg g]
   exact ⟨h,Nat.le_of_not_lt g,fun _=>Nat.le_refl _,.inr ⟨rfl,h⟩⟩
theorem stepL_none {c:Nat} {z:LS} {x:Str} (h:z.1.lookup x=none):stepL c z x=(z.1 ++ [(x,c)],z.2):=by
 have e:∀ o:Option Nat,o=none->(match o with | none=>(z.1 ++ [(x,c)],z.2) | some d=>if z.2=0 then (z.1,d+c) else if d+c < z.2 then (z.1,d+c) else z)=(z.1 ++ [(x,c)],z.2):=fun o ho=>by subst ho; rfl
 exact e _ h
theorem stepL_some {c d:Nat} {z:LS} {x:Str} (h:z.1.lookup x=some d):stepL c z x=(z.1,newV z.2 (d+c)):=by
 have e:∀ o:Option Nat,o=some d->(match o with | none=>(z.1 ++ [(x,c)],z.2) | some d=>if z.2=0 then (z.1,d+c) else if d+c < z.2 then (z.1,d+c) else z)=(z.1,newV z.2 (d+c)):=fun o ho=>by
  subst ho
  show (if z.2=0 then (z.1,d+c) else if d+c < z.2 then (z.1,d+c) else z)=_
  unfold newV
  by_cases h:z.2=0
  ·rw [if_pos h,if_pos h]
  ·rw [if_neg h,if_neg h]
   by_cases g:d+c < z.2
   ·rw [if_pos g,if_pos g]
   ·rw [if_neg g,if_neg g]
 exact e _ h
theorem InvL.step {τ:List Nat->Str} {P:List Nat->Prop} {z:LS} (I:InvL τ P z) {l:List Nat} {c:Nat} (hl:l.length=c) (hc:c ≠ 0) (hn:¬ P l) (hp:∀ p,P p->p.length<=c):InvL τ (fun a=>P a \/ a=l) (stepL c z (τ l)):=by
 cases q:z.1.lookup (τ l) with
 | none=>
  have no:∀ a,P a->τ a=τ l->False:=fun a ha e=>by
   obtain ⟨d,-,h⟩:=I.t2 a ha
   rw [e,q] at h
   exact ns h
  have look:∀ y,(z.1 ++ [(τ l,c)]).lookup y=(z.1.lookup y).or ([(τ l,c)].lookup y):=fun y=>List.lookup_append
  rw [stepL_none q]
  refine ⟨fun x d h=>?_,fun a ha=>?_,fun h=>?_,fun p r hp hr hpr e=>?_⟩
  ·have h:=(look x).symm.trans h
   rcases Option.or_eq_some_iff.mp h with h | ⟨-,h⟩
   ·obtain ⟨l,h1,h2⟩:=I.t1 x d h
    exact ⟨l,.inl h1,h2⟩
   ·have hx:=List.lookup_eq_some_iff.mp h
    obtain ⟨l1,l2,h1,-⟩:=hx
    have hm:(x,d) ∈ [(τ l,c)]:=h1 ▸ List.mem_append_right _ (List.mem_cons_self ..)
    have e:=Prod.mk.inj (List.mem_singleton.mp hm)
    exact ⟨l,.inr rfl,e.1.symm,hl.trans e.2.symm⟩
  ·rcases ha with ha | rfl
   ·obtain ⟨d,h1,h2⟩:=I.t2 a ha
    exact ⟨d,h1,by show (z.1 ++ [(τ l,c)]).lookup (τ a)=_; rw [look,h2]; rfl⟩
   ·exact ⟨c,Nat.le_of_eq hl.symm,by show (z.1 ++ [(τ a,c)]).lookup (τ a)=_; rw [look,q,List.lookup_cons_self]; rfl⟩
  ·obtain ⟨p,q,h1,h2,h3⟩:=I.l1 h
   exact ⟨p,q,.inl h1,.inl h2,h3⟩
  ·rcases hp with hp | rfl
   ·rcases hr with hr | rfl
    ·exact I.l2 p r hp hr hpr e
    ·exact (no p hp e).elim
   ·rcases hr with hr | rfl
    ·exact (no r hr e.symm).elim
    ·exact absurd rfl hpr
 | some d=>
  obtain ⟨l0,h1,h2,h3⟩:=I.t1 _ _ q
  have hne:l0 ≠ l:=fun e=>hn (e ▸ h1)
  obtain ⟨v0,v1,v2,v3⟩:=newV_ok z.2 (n:=d+c) (fun e=>hc (Nat.eq_zero_of_add_eq_zero_left e))
  have one:∀ a,P a->τ a=τ l->newV z.2 (d+c)<=a.length+c:=fun a ha e=>by
   obtain ⟨d2,h4,h5⟩:=I.t2 a ha
   rw [e,q] at h5
   rw [<- Option.some.inj h5] at h4
   exact Nat.le_trans v1 (Nat.add_le_add_right h4 c)
  rw [stepL_some q]
  refine ⟨fun x d h=>?_,fun a ha=>?_,fun h=>?_,fun p r hp hr hpr e=>⟨v0,?_⟩⟩
  ·obtain ⟨l,h1,h2⟩:=I.t1 x d h
   exact ⟨l,.inl h1,h2⟩
  ·rcases ha with ha | rfl
   ·exact I.t2 a ha
   ·exact ⟨d,by rw [hl,<- h3]; exact hp l0 h1,q⟩
  ·rcases v3 with v3 | ⟨v3,v4⟩
   ·exact ⟨l0,l,.inl h1,.inr rfl,hne,h2,by show _=newV z.2 (d+c); rw [v3,h3,hl]⟩
   ·obtain ⟨p,q,g1,g2,g3,g4,g5⟩:=I.l1 v4
    exact ⟨p,q,.inl g1,.inl g2,g3,g4,g5.trans v3.symm⟩
  ·rcases hp with hp | rfl
   ·rcases hr with hr | rfl
    ·obtain ⟨g1,g2⟩:=I.l2 p r hp hr hpr e
     exact Nat.le_trans (v2 g1) g2
    ·rw [hl]; exact one p hp e
   ·rcases hr with hr | rfl
    ·rw [hl]; exact Nat.le_trans (one r hr e.symm) (Nat.le_of_eq (Nat.add_comm _ _))
    ·exact absurd rfl hpr
theorem InvL.batch {τ:List Nat->Str} {c:Nat} (hc:c ≠ 0):∀ (B:List (List Nat)) {P:List Nat->Prop} {z:LS},InvL τ P z->(∀ p,P p->p.length<=c)->(∀ l ∈ B,l.length=c /\ ¬ P l)->B.Nodup->InvL τ (fun a=>P a \/ a ∈ B) (B.foldl (fun z l=>stepL c z (τ l)) z)
 | [],P,z,I,_,_,_=>by
  have e:(fun a=>P a \/ a ∈ ([]:List (List Nat)))=P:=funext fun a=>propext ⟨fun h=>h.elim id fun h=>(nomatch h),.inl⟩
  rw [e]
  exact I
 | l :: B,P,z,I,hp,hB,nd=>by
  obtain ⟨n1,n2⟩:=List.nodup_cons.mp nd
  obtain ⟨b1,b2⟩:=hB l (List.mem_cons_self ..)
  have ih:=InvL.batch hc B (I.step b1 hc b2 hp) (fun p h=>h.elim (hp p) fun e=>by rw [e,b1]; exact Nat.le_refl _) (fun a ha=>⟨(hB a (List.mem_cons_of_mem _ ha)).1,fun h=>h.elim (hB a (List.mem_cons_of_mem _ ha)).2 fun e=>n1 (e ▸ ha)⟩) n2
  have e:(fun a=>P a \/ a ∈ l :: B)=fun a=>(P a \/ a=l) \/ a ∈ B:=funext fun a=>propext (by rw [List.mem_cons,or_assoc])
  rw [e]
  exact ih
noncomputable def nextR (R:List (List Nat)):List (List Nat):=R.flatMap fun l=>[0,1,2].map fun i=>l ++ [i]
theorem nextR_mem {R:List (List Nat)} {l:List Nat}:l ∈ nextR R ↔ ∃ a i,a ∈ R /\ i < 3 /\ l=a ++ [i]:=by
 unfold nextR
 rw [List.mem_flatMap]
 refine ⟨fun ⟨a,ha,h⟩=>?_,fun ⟨a,i,ha,hi,e⟩=>⟨a,ha,List.mem_map.mpr ⟨i,List.mem_range.mpr hi,e.symm⟩⟩⟩
 obtain ⟨i,hi,e⟩:=List.mem_map.mp h
 exact ⟨a,i,ha,List.mem_range.mp hi,e.symm⟩
theorem nextR_nd:∀ {R:List (List Nat)},R.Nodup->(nextR R).Nodup
 | [],_=>List.nodup_nil
 | l :: R,h=>by
  obtain ⟨h1,h2⟩:=List.nodup_cons.mp h
  show ([l ++ [0],l ++ [1],l ++ [2]] ++ nextR R).Nodup
  have ne:∀ i j:Nat,i ≠ j->l ++ [i] ≠ l ++ [j]:=fun i j n e=>n (List.cons.inj (List.append_cancel_left e)).1
  refine List.nodup_append.mpr ⟨?_,nextR_nd h2,fun a ha b hb e=>?_⟩
  ·have:=List.pairwise_map.mpr (List.Pairwise.imp (fun {i j}=>ne i j) (show [0,1,2].Pairwise (fun i j:Nat=>i ≠ j) by decide))
   exact this
  ·subst e
   obtain ⟨x,i,hx,-,e1⟩:=nextR_mem.mp hb
   have hl:∃ j,a=l ++ [j]:=(List.mem_map.mp (show a ∈ [0,1,2].map fun i=>l ++ [i] from ha)).imp fun j h=>h.2.symm
   obtain ⟨j,e2⟩:=hl
   exact h1 ((List.append_inj_left' (e2.symm.trans e1) rfl) ▸ hx)
structure AllRows (n:Nat) (R:List (List Nat)):Prop where
 nd:R.Nodup
 ln:∀ l ∈ R,l.length=n /\ Ix3 l
 all:∀ l,Ix3 l->l.length=n->l ∈ R
theorem AllRows.next {n:Nat} {R:List (List Nat)} (h:AllRows n R):AllRows (n+1) (nextR R):=by
 refine ⟨nextR_nd h.nd,fun l hl=>?_,fun l h3 hl=>?_⟩
 ·obtain ⟨a,i,ha,hi,rfl⟩:=nextR_mem.mp hl
  obtain ⟨h1,h2⟩:=h.ln a ha
  refine ⟨by rw [List.length_append,h1]; rfl,fun j hj=>(List.mem_append.mp hj).elim (h2 j) fun e=>?_⟩
  rw [List.mem_singleton.mp e]
  exact hi
 ·rcases List.eq_nil_or_concat l with rfl | ⟨a,i,rfl⟩
  ·exact absurd hl (Nat.succ_ne_zero n).symm
  ·rw [List.concat_eq_append] at h3 hl ⊢
   rw [List.length_append] at hl
   exact nextR_mem.mpr ⟨a,i,h.all a (fun j hj=>h3 j (List.mem_append_left _ hj)) (Nat.succ.inj hl),h3 i (List.mem_append_right _ (List.mem_cons_self ..)),rfl⟩
theorem wordS_inj {a b:WdB} (h:wordS a=wordS b):a=b:=by
 have h:a.map bitC=b.map bitC:=congrArg (fun s:Str=>s.cps.toList) h
 refine List.map_inj_right (fun x y e=>?_) |>.mp h
 have all:∀ x y:Bool,bitC x=bitC y->x=y:=by decide
 exact all x y e
noncomputable abbrev tauW (ws:List WdB) (l:List Nat):Str:=wordS (textB ws l)
theorem next_texts {ws:List WdB} (hn:ws.length=3) (R:List (List Nat)):nextT (ws.map wordS) (R.map (tauW ws))=(nextR R).map (tauW ws):=by
 have e:ws.map wordS = [0,1,2].map fun i=>wordS (ws.getD i []):=by
  match ws,hn with
  | [a,b,c],_=>rfl
 unfold nextT nextR
 rw [List.map_flatMap,List.flatMap_map]
 congr 1
 funext l
 rw [e,List.map_map,List.map_map]
 refine List.map_congr_left fun i _=>?_
 show wordS (textB ws l) ++ wordS (ws.getD i [])=wordS (textB ws (l ++ [i]))
 rw [<- wordS_app,text_app,text_cons]
 exact congrArg (fun x=>wordS (textB ws l ++ x)) (List.append_nil _).symm
noncomputable def Upto (c:Nat) (l:List Nat):Prop:=Ix3 l /\ 1<=l.length /\ l.length<=c
structure LR (ws:List WdB) (c:Nat) (R:List (List Nat)) (st:LS × List Str):Prop where
 rows:AllRows c R
 eq:st.2=R.map (tauW ws)
 inv:InvL (tauW ws) (Upto c) st.1
theorem LR.step {ws:List WdB} (hn:ws.length=3) {c:Nat} {R:List (List Nat)} {st:LS × List Str} (h:LR ws c R st):LR ws (c+1) (nextR R) (stepT (ws.map wordS) st (c+1)):=by
 have hr:=h.rows.next
 have e:nextT (ws.map wordS) st.2=(nextR R).map (tauW ws):=by rw [h.eq,next_texts hn]
 refine ⟨hr,e,?_⟩
 show InvL (tauW ws) (Upto (c+1)) ((nextT (ws.map wordS) st.2).foldl (stepL (c+1)) st.1)
 rw [e,List.foldl_map]
 have b:=InvL.batch (c:=c+1) (Nat.succ_ne_zero c) (nextR R) h.inv (fun p hp=>Nat.le_succ_of_le hp.2.2) (fun l hl=>⟨(hr.ln l hl).1,fun z=>absurd (Nat.le_trans (Nat.le_of_eq (hr.ln l hl).1.symm) z.2.2) (Nat.not_succ_le_self c)⟩) hr.nd
 have ep:Upto (c+1)=fun a=>Upto c a \/ a ∈ nextR R:=funext fun a=>propext ⟨fun ⟨h1,h2,h3⟩=>(Nat.le_succ_iff.mp h3).elim (fun h=>.inl ⟨h1,h2,h⟩) fun h=>.inr (hr.all a h1 h),fun z=>z.elim (fun ⟨h1,h2,h3⟩=>⟨h1,h2,Nat.le_succ_of_le h3⟩) fun h=>⟨(hr.ln a h).2,(hr.ln a h).1 ▸ Nat.succ_le_succ (Nat.zero_le c),Nat.le_of_eq (hr.ln a h).1⟩⟩
 rw [ep]
 exact b
theorem least_inv {ws:List WdB} (hn:ws.length=3):∃ z:LS,InvL (tauW ws) (Upto 5) z /\ z.2=leastF (ws.map wordS):=by
 have h0:LR ws 0 [[]] (([],0),[Str.empty]):=⟨⟨List.pairwise_singleton _ _,fun l hl=>(List.mem_singleton.mp hl) ▸ ⟨rfl,fun i hi=>(nomatch hi)⟩,fun l _ hl=>List.mem_singleton.mpr (List.length_eq_zero_iff.mp hl)⟩,rfl,
  ⟨fun x d h=>ns h,fun l h=>absurd (Nat.le_trans h.2.1 h.2.2) (Nat.not_succ_le_zero 0),fun h=>absurd rfl h,fun p q h=>absurd (Nat.le_trans h.2.1 h.2.2) (Nat.not_succ_le_zero 0)⟩⟩
 have h5:=((((h0.step hn).step hn).step hn).step hn).step hn
 exact ⟨_,h5.inv,rfl⟩
theorem ble3 {l:List Nat} (h:(l.all fun n=>Nat.ble n 2)=true):Ix3 l:=fun i hi=>Nat.lt_succ_of_le (Nat.le_of_ble_eq_true (List.all_eq_true.mp h i hi))
theorem least_ok {ws wf:List WdB} (hn:ws.length=3) (W:Wds wf) (heq:∀ p q,textB ws p=textB ws q ↔ textB wf p=textB wf q) {s:List ArB} (hc:closedB wf s (mB s)=true) (he:endB s=true) (ht:s.all (entB wf)=true) :
  leastF (ws.map wordS)=(emptyB s).elim 0 fun e=>e.2.1.length+e.2.2.length:=by
 obtain ⟨z,I,e⟩:=least_inv hn
 rw [<- e]
 have low:costB s (mB s) []=mB s->∀ p q,Upto 5 p->Upto 5 q->p ≠ q->tauW ws p=tauW ws q->mB s<=p.length+q.length:=fun h p q hp hq n t=>low_rows W hc h p q hp.1 hq.1 n ((heq p q).mp (wordS_inj t))
 cases q:emptyB s with
 | none=>
  have hm:mB s=11:=by unfold mB; rw [q]; rfl
  have hco:costB s (mB s) []=mB s:=by unfold costB; rw [show (s.find? fun x=>beqW x.1 [])=none from q]; rfl
  refine Classical.byContradiction fun n=>?_
  obtain ⟨a,b,h1,h2,h3,h4,-⟩:=I.l1 n
  have:=low hco a b h1 h2 h3 h4
  have:=h1.2.2
  have:=h2.2.2
  rw [hm] at *
  lia
 | some r=>
  have hm:mB s=r.2.1.length+r.2.2.length:=by unfold mB; rw [q]; rfl
  have hco:costB s (mB s) []=mB s:=by unfold costB; rw [show (s.find? fun x=>beqW x.1 [])=some r from q,hm]; exact Nat.min_self _
  have hr:r.1 = []:=beqW_of (List.find?_some (p:=fun x:ArB=>beqW x.1 []) q)
  unfold endB at he
  rw [q] at he
  obtain ⟨he,e5⟩:=and_t he
  obtain ⟨he,e4⟩:=and_t he
  obtain ⟨he,e3⟩:=and_t he
  obtain ⟨e1,e2⟩:=and_t he
  have t:=List.all_eq_true.mp ht r (List.mem_of_find?_eq_some q)
  unfold entB at t
  obtain ⟨t,-⟩:=and_t t
  obtain ⟨t,-⟩:=and_t t
  obtain ⟨t,-⟩:=and_t t
  obtain ⟨t,t3⟩:=and_t t
  obtain ⟨t1,t2⟩:=and_t t
  have t1:=beqW_of t1
  rw [hr,List.append_nil] at t1
  have u1:Upto 5 r.2.1:=⟨ble3 t2,Nat.le_of_ble_eq_true e3,Nat.le_of_ble_eq_true e1⟩
  have u2:Upto 5 r.2.2:=⟨ble3 t3,Nat.le_of_ble_eq_true e4,Nat.le_of_ble_eq_true e2⟩
  obtain ⟨v0,v1⟩:=I.l2 _ _ u1 u2 (of_decide_eq_false (not_t e5)) (congrArg wordS ((heq _ _).mpr t1))
  obtain ⟨a,b,h1,h2,h3,h4,h5⟩:=I.l1 v0
  have:=low hco a b h1 h2 h3 h4
  rw [h5,hm] at this
  exact Nat.le_antisymm v1 this
section
variable {φ:Bool->Int}
theorem up_inj (h:φ false < φ true):∀ a b,φ a=φ b->a=b
 | false,false,_=>rfl
 | true,true,_=>rfl
 | false,true,e=>absurd e (Int.ne_of_lt h)
 | true,false,e=>absurd e.symm (Int.ne_of_lt h)
theorem lt_m (h:φ false < φ true):∀ a b:WdB,ltI (a.map φ) (b.map φ)=ltIB a b
 | [],[]=>rfl
 | _ :: _,[]=>rfl
 | [],_ :: _=>rfl
 | x :: a,y :: b=>by
  show ltI (φ x :: a.map φ) (φ y :: b.map φ)=if x=y then ltIB a b else !x
  by_cases e:x=y
  ·rw [if_pos e,e,ltI_eq]
   exact lt_m h a b
  ·rw [if_neg e,ltI_ne (fun z=>e (up_inj h x y z))]
   cases x with
   | false=>
    cases y with
    | false=>exact absurd rfl e
    | true=>exact decide_eq_true h
   | true=>
    cases y with
    | false=>exact decide_eq_false (Int.lt_asymm h)
    | true=>exact absurd rfl e
theorem insR_m (h:φ false < φ true) (s:List RwB) (y:RwB):insR (s.map (mR φ)) (mR φ y)=(insRB s y).map (mR φ):=by
 have e:(s.map (mR φ)).countP (pI (mR φ y).1)=s.countP fun r=>!ltIB y.1 r.1:=by
  rw [List.countP_map]
  refine List.countP_congr fun r _=>?_
  show (!ltI (y.1.map φ) (r.1.map φ))=true ↔ _
  rw [lt_m h]
 unfold insR insRB
 rw [e,List.map_append,List.map_cons,List.map_take,List.map_drop]
theorem ltT_m (h:φ false < φ true) (p q:RwB):ltT (mR φ p) (mR φ q)=ltTB p q:=by
 show (if p.1.map φ=q.1.map φ then decide ((p.2:Int) < (q.2:Int)) else ltI (p.1.map φ) (q.1.map φ))=if beqW p.1 q.1=true then decide (p.2 < q.2) else ltIB p.1 q.1
 by_cases e:p.1=q.1
 ·rw [if_pos (congrArg _ e),if_pos ((beqW_eq _ _).trans (decide_eq_true e))]
  exact decide_eq_decide.mpr Int.ofNat_lt
 ·rw [if_neg (fun z=>e (map_inj (up_inj h) _ _ z)),if_neg (fun z=>e (beqW_of z)),lt_m h]
theorem getD_m (l:List RwB) (i:Nat):(l.map (mR φ)).getD i ([],0)=mR φ (l.getD i ([],0)):=by
 rw [List.getD_eq_getElem?_getD,List.getD_eq_getElem?_getD,List.getElem?_map]
 cases l[i]? with
 | none=>rfl
 | some r=>rfl
theorem ask_m (h:φ false < φ true) (a b c:WdB):askRun (fun i j=>ltT (((rows3 a b c).map (mR φ)).getD i ([],0)) (((rows3 a b c).map (mR φ)).getD j ([],0))) (kas_sort ((rows3 a b c).map (mR φ)).length)=askB (rows3 a b c):=by
 have e:(fun i j=>ltT (((rows3 a b c).map (mR φ)).getD i ([],0)) (((rows3 a b c).map (mR φ)).getD j ([],0)))=fun i j=>ltTB ((rows3 a b c).getD i ([],0)) ((rows3 a b c).getD j ([],0)):=by
  funext i j
  rw [getD_m,getD_m,ltT_m h]
 rw [e]
 rfl
theorem sortT_m (h:φ false < φ true) {a b c:WdB} (ok:okC a b c=true):A3 (sortT ((rows3 a b c).map (mR φ))=(sortB a b c).map (mR φ)) (permOk 3 (askRun (fun i j=>ltT (((rows3 a b c).map (mR φ)).getD i ([],0)) (((rows3 a b c).map (mR φ)).getD j ([],0))) (kas_sort ((rows3 a b c).map (mR φ)).length))=true) True:=by
 obtain ⟨k1,k2⟩:=and_t (and_t ok).1
 have k2:=of_decide_eq_true k2
 have e:=ask_m h a b c
 refine ⟨?_,by rw [e]; exact k1,trivial⟩
 unfold sortT
 rw [e,<- k2,List.map_map]
 exact List.map_congr_left fun i _=>getD_m _ i
end
theorem rowsW_eq (Ks:List Int) (ws:List WdB) {g:Bool->Bool} (hg:∀ b,g (g b)=b):rowsW Ks ws=(rows3 ((ws.getD 0 []).map g) ((ws.getD 1 []).map g) ((ws.getD 2 []).map g)).map (mR fun b=>Ks.getD (bitI (g b)) 0):=by
 have e:∀ l:WdB,(l.map g).map (fun b=>Ks.getD (bitI (g b)) 0)=l.map fun b=>Ks.getD (bitI b) 0:=fun l=>by
  rw [List.map_map]
  exact List.map_congr_left fun b _=>congrArg (fun b=>Ks.getD (bitI b) 0) (hg b)
 show [((ws.getD 0 []).map (fun b=>Ks.getD (bitI b) 0),((0:Nat):Int)),((ws.getD 1 []).map (fun b=>Ks.getD (bitI b) 0),((1:Nat):Int)),((ws.getD 2 []).map (fun b=>Ks.getD (bitI b) 0),((2:Nat):Int))]=_
 rw [<- e (ws.getD 0 []),<- e (ws.getD 1 []),<- e (ws.getD 2 [])]
 rfl
theorem rowsF_eq {φ:Bool->Int} (h:φ false < φ true) {kvs:List (Str × Str)} {a b c:WdB} (ha:kindsF kvs (namesL.getD 0 Str.empty)=a.map φ) (hb:kindsF kvs (namesL.getD 1 Str.empty)=b.map φ) (hc:kindsF kvs (namesL.getD 2 Str.empty)=c.map φ):rowsF kvs namesL=(sortB a b c).map (mR φ):=by
 unfold rowsF
 rw [show namesL.length=3 by kernel_rfl]
 generalize namesL=N at *
 show insR (insR (insR [] (kindsF kvs (N.getD 0 Str.empty),((0:Nat):Int))) (kindsF kvs (N.getD 1 Str.empty),((1:Nat):Int))) (kindsF kvs (N.getD 2 Str.empty),((2:Nat):Int))=_
 rw [ha,hb,hc]
 show insR (insR (insR (([]:List RwB).map (mR φ)) (mR φ (a,0))) (mR φ (b,1))) (mR φ (c,2))=_
 rw [insR_m h,insR_m h,insR_m h]
 rfl
noncomputable def escN (s:Int) (c:Nat):Bool:=if s=0 then Txt.contains "\"\\" (ch c) else if s = 1 then true else Txt.contains " \"\\" (ch c)
noncomputable def wdOf (word:Str) (s:Int):Word:=⟨decide (s=0),word.cps.toList.map fun c=>(escN s c,c)⟩
noncomputable def okI (q:Bool) (y:Bool × Nat):Bool:=y.2 != 10 && (y.1 || ((bif q then y.2 != 34 else !wsB y.2) && y.2 != 92))
noncomputable def okB (x:Word):Bool:=Nat.ble x.items.length 500 && x.items.all (okI x.quoted) && (x.quoted || x.items.head?.elim false fun y=>y.1 || y.2 != 34)
theorem or_f {a b:Bool} (h:(a || b)=true) (e:a=false):b=true:=by rw [e] at h; exact h
theorem okI_of {q:Bool} {y:Bool × Nat} (h:okI q y=true):y.2 ≠ 10 /\ (y.1=false->(bif q then y.2 != 34 else !wsB y.2)=true /\ y.2 ≠ 92):=
 ⟨bne_iff_ne.mp (and_t h).1,fun e=>⟨(and_t (or_f (and_t h).2 e)).1,bne_iff_ne.mp (and_t (or_f (and_t h).2 e)).2⟩⟩
theorem ok_of {x:Word} (h:okB x=true):x.ok:=by
 obtain ⟨q,items⟩:=x
 obtain ⟨h,h3⟩:=and_t h
 obtain ⟨h1,h2⟩:=and_t h
 refine ⟨Nat.le_of_ble_eq_true h1,?_⟩
 have hi:=fun y hy=>okI_of (List.all_eq_true.mp h2 y hy)
 cases q with
 | true=>exact fun y hy=>⟨(hi y hy).1,fun e=>⟨bne_iff_ne.mp ((hi y hy).2 e).1,((hi y hy).2 e).2⟩⟩
 | false=>
  refine ⟨fun y hy=>⟨(hi y hy).1,fun e=>⟨not_t ((hi y hy).2 e).1,((hi y hy).2 e).2⟩⟩,?_⟩
  cases items with
  | nil=>exact ft h3
  | cons y r=>exact ⟨y,r,rfl,fun e=>bne_iff_ne.mp (or_f h3 e)⟩
noncomputable def chkW (word:Str) (s:Int):Bool:=okB (wdOf word s) && decide ((wdOf word s).tok=word) && decide ((writtenF word s).cps.toList ++ [32]=(wdOf word s).enc ++ (if s=0 then [32] else [])) && (writtenF word s).cps.toList.all (fun c=>Nat.blt c 1114112)
noncomputable def chkV (word:Str):Bool:=decide (word ≠ Str.empty) && Nat.ble word.length 10 && word.cps.toList.all (fun c=>Nat.ble 32 c && Nat.blt c 127) && ([0,1,2]:List Int).all (chkW word)
noncomputable def Voc (x:Str):Prop:=x ∈ namesL \/ x ∈ signsL
theorem all_voc:((namesL ++ signsL).all chkV)=true:=by kernel_rfl
theorem all_new:(namesL.all fun x=>(tokTab.lookup x).isNone)=true:=by kernel_rfl
noncomputable def St3 (s:Int):Prop:=s ∈ ([0,1,2]:List Int)
theorem st3_mod (s:Int):St3 (s % 3):=by
 have e:s % 3=0 \/ s % 3=1 \/ s % 3=2:=by omega
 rcases e with e | e | e
 ·rw [e]; exact List.mem_cons_self ..
 ·rw [e]; exact List.mem_cons_of_mem _ (List.mem_cons_self ..)
 ·rw [e]; exact List.mem_cons_of_mem _ (List.mem_cons_of_mem _ (List.mem_cons_self ..))
structure VFact (x:Str):Prop where
 ne:x ≠ Str.empty
 len:x.length<=10
 prn:Prn x
 ws:([0,1,2]:List Int).all (chkW x)=true
theorem voc_fact {x:Str} (h:Voc x):VFact x:=by
 have h:=List.all_eq_true.mp all_voc x (List.mem_append.mpr h)
 obtain ⟨h,h4⟩:=and_t h
 obtain ⟨h,h3⟩:=and_t h
 obtain ⟨h1,h2⟩:=and_t h
 exact ⟨of_decide_eq_true h1,Nat.le_of_ble_eq_true h2,fun c hc=>⟨Nat.le_of_ble_eq_true (and_t (List.all_eq_true.mp h3 c hc)).1,Nat.le_of_ble_eq_true (and_t (List.all_eq_true.mp h3 c hc)).2⟩,h4⟩
structure WFact (x:Str) (s:Int):Prop where
 ok:(wdOf x s).ok
 tok:(wdOf x s).tok=x
 enc:(writtenF x s).cps.toList ++ [32]=(wdOf x s).enc ++ (if s=0 then [32] else [])
 cp:∀ c ∈ (writtenF x s).cps.toList,c < 1114112
theorem voc_word {x:Str} (h:Voc x) {s:Int} (hs:St3 s):WFact x s:=by
 have h:=List.all_eq_true.mp (voc_fact h).ws s hs
 obtain ⟨h,h4⟩:=and_t h
 obtain ⟨h,h3⟩:=and_t h
 obtain ⟨h1,h2⟩:=and_t h
 exact ⟨ok_of h1,of_decide_eq_true h2,of_decide_eq_true h3,fun c hc=>Nat.le_of_ble_eq_true (List.all_eq_true.mp h4 c hc)⟩
structure Itm where
 lead:List Nat
 s:Int
 word:Str
noncomputable def psOf (l:List Itm):List (List Nat × Word):=l.map fun i=>(i.lead,wdOf i.word i.s)
noncomputable abbrev Pz:=(List Nat × List Itm) × Int
noncomputable def pW (z:Pz) (word:Str):Pz:=((if z.2 % 3=0 then [32] else [],z.1.2 ++ [⟨z.1.1,z.2 % 3,word⟩]),z.2+1)
noncomputable def pR (z:Pz) (row:List Str):Pz:=(((row.foldl pW z).1.1 ++ [10],(row.foldl pW z).1.2),(row.foldl pW z).2)
noncomputable def ItmOk (i:Itm):Prop:=A3 (∀ a ∈ i.lead,wsB a=true) (St3 i.s) (Voc i.word)
structure PI (s:Str × Int) (z:Pz) (N:Int):Prop where
 st:s.2=z.2
 tx:s.1.cps.toList=encP (psOf z.1.2) z.1.1
 ws:∀ a ∈ z.1.1,wsB a=true
 it:∀ i ∈ z.1.2,ItmOk i
 nl:nlsP (psOf z.1.2) z.1.1=N
 cp:∀ c ∈ s.1.cps.toList,c < 1114112
theorem str_cps (a b:Str):(a ++ b).cps.toList=a.cps.toList ++ b.cps.toList:=Array.toList_append
theorem nl_cps:("\n" : Str).cps.toList = [10] := by decide +kernel
theorem sp_cps2 : (" " : Str).cps.toList = [32]:=by decide +kernel
theorem encP_app (l:List Itm) (i:Itm) (last:List Nat):encP (psOf (l ++ [i])) last=encP (psOf l) i.lead ++ ((wdOf i.word i.s).enc ++ last):=by
 unfold encP psOf
 rw [List.map_append,List.flatMap_append,List.map_singleton,List.flatMap_singleton,List.append_assoc,List.append_assoc,List.append_assoc]
theorem nls_app (a b:List Nat):nls (a ++ b)=nls a+nls b:=by unfold nls; rw [List.map_append,List.sum_append]
theorem nlsP_app (l:List Itm) (i:Itm) (last:List Nat):nlsP (psOf (l ++ [i])) last=nlsP (psOf l) i.lead+nls last:=by
 unfold nlsP psOf
 rw [List.map_append,List.map_append,List.sum_append,List.map_singleton,List.map_singleton,List.sum_singleton]
theorem encP_last (l:List Itm) (a b:List Nat):encP (psOf l) (a ++ b)=encP (psOf l) a ++ b:=by unfold encP; rw [List.append_assoc]
theorem nlsP_last (l:List Itm) (a b:List Nat):nlsP (psOf l) (a ++ b)=nlsP (psOf l) a+nls b:=by
 unfold nlsP
 rw [nls_app,Int.add_assoc]
theorem lead_ok (p:Prop) [Decidable p]:(∀ a ∈ (if p then [32] else []:List Nat),wsB a=true) /\ nls (if p then [32] else [])=0:=by
 by_cases h:p
 ·rw [if_pos h]; exact ⟨fun a ha=>(List.mem_singleton.mp ha) ▸ wsB_32,by decide⟩
 ·rw [if_neg h]; exact ⟨fun a ha=>(nomatch ha),rfl⟩
theorem PI.word {s:Str × Int} {z:Pz} {N:Int} (h:PI s z N) {word:Str} (hw:Voc word):PI (stepW s word) (pW z word) N:=by
 have s3:=st3_mod z.2
 have f:=voc_word hw s3
 obtain ⟨l1,l2⟩:=lead_ok (z.2 % 3=0)
 refine ⟨congrArg (· + 1) h.st,?_,l1,fun i hi=>?_,?_,fun c hc=>?_⟩
 ·show (s.1 ++ (writtenF word (s.2 % 3) ++ " ")).cps.toList=encP (psOf (z.1.2 ++ [⟨z.1.1,z.2 % 3,word⟩])) (if z.2 % 3=0 then [32] else [])
  rw [h.st,str_cps,str_cps,h.tx,encP_app,sp_cps2,f.enc]
 ·rcases List.mem_append.mp hi with hi | hi
  ·exact h.it i hi
  ·rw [List.mem_singleton.mp hi]; exact ⟨h.ws,s3,hw⟩
 ·show nlsP (psOf (z.1.2 ++ [⟨z.1.1,z.2 % 3,word⟩])) (if z.2 % 3=0 then [32] else [])=N
  rw [nlsP_app,h.nl,l2,Int.add_zero]
 ·have hc:c ∈ (s.1 ++ (writtenF word (s.2 % 3) ++ " ")).cps.toList:=hc
  rw [h.st,str_cps,str_cps,sp_cps2] at hc
  rcases List.mem_append.mp hc with hc | hc
  ·exact h.cp c hc
  ·rcases List.mem_append.mp hc with hc | hc
   ·exact f.cp c hc
   ·rw [List.mem_singleton.mp hc]; decide
theorem PI.words:∀ {row:List Str} {s:Str × Int} {z:Pz} {N:Int},PI s z N->(∀ x ∈ row,Voc x)->PI (row.foldl stepW s) (row.foldl pW z) N
 | [],_,_,_,h,_=>h
 | x :: row,_,_,_,h,hw=>PI.words (row:=row) (h.word (hw x (List.mem_cons_self ..))) fun y hy=>hw y (List.mem_cons_of_mem _ hy)
theorem PI.row {s:Str × Int} {z:Pz} {N:Int} (h:PI s z N) {row:List Str} (hw:∀ x ∈ row,Voc x):PI (stepR s row) (pR z row) (N+1):=by
 have g:=h.words hw
 unfold stepR pR
 generalize row.foldl stepW s=s2 at g ⊢
 generalize row.foldl pW z=z2 at g ⊢
 refine ⟨g.st,?_,fun a ha=>?_,g.it,?_,fun c hc=>?_⟩
 ·show (s2.1 ++ "\n").cps.toList = encP (psOf z2.1.2) (z2.1.1 ++ [10])
  rw [str_cps, g.tx, nl_cps, encP_last]
 ·rcases List.mem_append.mp ha with ha | ha
  ·exact g.ws a ha
  ·rw [List.mem_singleton.mp ha]; exact wsB_10
 ·show nlsP (psOf z2.1.2) (z2.1.1 ++ [10]) = N + 1
  rw [nlsP_last, g.nl]
  rfl
 ·have hc : c ∈ (s2.1 ++ "\n").cps.toList:=hc
  rw [str_cps,nl_cps] at hc
  rcases List.mem_append.mp hc with hc | hc
  ·exact g.cp c hc
  ·rw [List.mem_singleton.mp hc]; decide
theorem PI.rows:∀ {rows:List (List Str)} {s:Str × Int} {z:Pz} {N:Int},PI s z N->(∀ r ∈ rows,∀ x ∈ r,Voc x)->PI (rows.foldl stepR s) (rows.foldl pR z) (N+rows.length)
 | [],_,_,_,h,_=>(Int.add_zero _).symm ▸ h
 | r :: rows,_,_,N,h,hw=>by
  have:=PI.rows (h.row (hw r (List.mem_cons_self ..))) fun y hy=>hw y (List.mem_cons_of_mem _ hy)
  have e:N+((r :: rows).length:Nat)=N+1+(rows.length:Nat):=by rw [List.length_cons,Int.add_assoc,Int.add_comm 1]; rfl
  rw [e]
  exact this
theorem pW_words:∀ (row:List Str) (z:Pz),(row.foldl pW z).1.2.map (·.word)=z.1.2.map (·.word) ++ row
 | [],z=>(List.append_nil _).symm
 | x :: row,z=>by
  refine (pW_words row (pW z x)).trans ?_
  show (z.1.2 ++ [_]).map Itm.word ++ row=_
  rw [List.map_append,List.append_assoc]
  rfl
theorem pR_words:∀ (rows:List (List Str)) (z:Pz),(rows.foldl pR z).1.2.map (·.word)=z.1.2.map (·.word) ++ rows.flatten
 | [],z=>(List.append_nil _).symm
 | r :: rows,z=>by
  refine (pR_words rows (pR z r)).trans ?_
  show (r.foldl pW z).1.2.map (·.word) ++ rows.flatten=_
  rw [pW_words,List.append_assoc,List.flatten_cons]
theorem getD_at {l:List Str} {i:Nat} (h:i < l.length):l.getD i Str.empty=l[i]:=by rw [List.getD_eq_getElem?_getD,List.getElem?_eq_getElem h]; rfl
theorem get_idx {l:List Str} {x:Str} (h:x ∈ l):l.getD (l.idxOf x) Str.empty=x:=by
 have hl:=List.idxOf_lt_length_iff.mpr h
 rw [getD_at hl]
 exact List.getElem_idxOf hl
theorem idx_get {l:List Str} (hn:l.Nodup) {i:Nat} (h:i < l.length):l.idxOf (l.getD i Str.empty)=i:=by rw [getD_at h]; exact List.Nodup.idxOf_getElem hn i h
theorem signs_nd:signsL.Nodup:=by decide +kernel
noncomputable def kindO (x:Str):Int:=(signsL.idxOf x:Int)+7
theorem kind_ok {x:Str} (h:x ∈ signsL):A4 (KindOk (kindO x)) (signF (kindO x)=x) (tokTab.lookup x=some (kindO x)) (tokV x=kindO x):=by
 have hl:=List.idxOf_lt_length_iff.mpr h
 rw [signs_len] at hl
 have k:KindOk (kindO x):=by unfold kindO KindOk; omega
 have e:signF (kindO x)=x:=by
  unfold signF kindO
  rw [Int.add_sub_cancel]
  exact get_idx h
 have t:=(sign_ok k).3
 rw [e] at t
 exact ⟨k,e,t,by unfold tokV; rw [t]; rfl⟩
theorem kind_inj {x y:Str} (hx:x ∈ signsL) (hy:y ∈ signsL) (h:kindO x=kindO y):x=y:=by rw [<- (kind_ok hx).2,<- (kind_ok hy).2,h]
theorem new_name {x:Str} (h:x ∈ namesL):tokTab.lookup x=none:=Option.isNone_iff_eq_none.mp (List.all_eq_true.mp all_new x h)
theorem all_read:∀ (l:List Itm) (z:List Str × List (Str × Str)),(∀ i ∈ l,ItmOk i)->(∀ y ∈ z.1,Prn y)->(z.1 ≠ [] \/ ∀ i,l.head? = some i->i.word ∈ namesL)->AllR (psOf l) z
 | [],_,_,_,_=>trivial
 | i :: l,z,hl,hz,hf=>by
  obtain ⟨i1,i2,i3⟩:=hl i (List.mem_cons_self ..)
  have V:=voc_fact i3
  have F:=voc_word i3 i2
  have hl':=fun y hy=>hl y (List.mem_cons_of_mem _ hy)
  have t3:(wdOf i.word i.s).tok=i.word:=F.tok
  have len:i.word.length<=1000:=Nat.le_trans V.len (by decide)
  by_cases hn:i.word ∈ namesL
  ·have e:=new_name hn
   have er:readR z i.word=(z.1 ++ [i.word],z.2):=by unfold readR; rw [e]; rfl
   refine ⟨i1,F.ok,t3.symm ▸ ⟨V.ne,len,.inl e,trivial⟩,?_⟩
   show AllR (psOf l) (readR z (wdOf i.word i.s).tok)
   rw [t3,er]
   exact all_read l _ hl' (fun y hy=>(List.mem_append.mp hy).elim (hz y) fun h=>(List.mem_singleton.mp h) ▸ V.prn) (.inl (List.append_ne_nil_of_right_ne_nil _ (List.cons_ne_nil _ _)))
  ·obtain ⟨k1,-,k3,-⟩:=kind_ok (i3.resolve_left hn)
   have hne:z.1 ≠ []:=hf.resolve_right fun h=>hn (h i rfl)
   have er:readR z i.word=(z.1,z.2 ++ [(z.1.getLastD Str.empty,i.word)]):=by unfold readR; rw [k3]; rfl
   obtain ⟨v,hv⟩:=Int.eq_ofNat_of_zero_le (Int.le_trans (by decide) k1.1)
   rw [hv] at k1 k3
   have h1:=k1.1
   have h2:=k1.2
   refine ⟨i1,F.ok,t3.symm ▸ ⟨V.ne,len,.inr ⟨v,z.1.dropLast,z.1.getLast hne,k3,by omega,by omega,(List.dropLast_concat_getLast hne).symm,hz _ (List.getLast_mem hne),V.prn,trivial⟩,trivial⟩,?_⟩
   show AllR (psOf l) (readR z (wdOf i.word i.s).tok)
   rw [t3,er]
   exact all_read l _ hl' hz (.inl hne)
theorem read_signs (n:List Str) (x:Str):∀ (l:List Str) (k:List (Str × Str)),(∀ y ∈ l,y ∈ signsL)->l.foldl readR (n ++ [x],k)=(n ++ [x],k ++ l.map fun y=>(x,y))
 | [],k,_=>by rw [List.map_nil,List.append_nil]; rfl
 | y :: l,k,h=>by
  have e:readR (n ++ [x],k) y=(n ++ [x],k ++ [(x,y)]):=by
   unfold readR
   rw [(kind_ok (h y (List.mem_cons_self ..))).3]
   show (n ++ [x],k ++ [((n ++ [x]).getLastD Str.empty,y)])=_
   rw [List.getLastD_concat]
  rw [List.foldl_cons,e,read_signs n x l _ fun z hz=>h z (List.mem_cons_of_mem _ hz),List.map_cons,List.append_assoc]
  rfl
theorem read_row (n:List Str) {x:Str} (hx:x ∈ namesL) (l:List Str) (k:List (Str × Str)) (h:∀ y ∈ l,y ∈ signsL):(x :: l).foldl readR (n,k)=(n ++ [x],k ++ l.map fun y=>(x,y)):=by
 have e:readR (n,k) x=(n ++ [x],k):=by unfold readR; rw [new_name hx]; rfl
 rw [List.foldl_cons,e,read_signs n x l k h]
theorem name_at {p:Nat} (h:p < 3):namesL.getD p Str.empty ∈ namesL:=by
 have h:p < namesL.length:=h
 rw [getD_at h]
 exact List.getElem_mem h
section
variable (ws:List WdB) (le:List Str)
noncomputable def letsOf (p:Nat):List Str:=(ws.getD p []).map (letOf le)
noncomputable def kvsR:List (Str × Str):=(letsOf ws le 0).map (fun y=>(namesL.getD 0 Str.empty,y)) ++ ((letsOf ws le 1).map (fun y=>(namesL.getD 1 Str.empty,y)) ++ (letsOf ws le 2).map fun y=>(namesL.getD 2 Str.empty,y))
theorem letOf_in {le:List Str} (h:∀ b,letOf le b ∈ signsL) (p:Nat):∀ y ∈ letsOf ws le p,y ∈ signsL:=fun y hy=>by
 obtain ⟨b,-,rfl⟩:=List.mem_map.mp hy
 exact h b
theorem read_rows {le:List Str} (h:∀ b,letOf le b ∈ signsL):(rowsOf ws le).flatten.foldl readR ([],[])=(namesL,kvsR ws le):=by
 have hs:=letOf_in ws h
 have e:(rowsOf ws le).flatten=rowOf ws le 0 ++ (rowOf ws le 1 ++ (rowOf ws le 2 ++ [])):=rfl
 have r0:=read_row [] (name_at (p:=0) (by decide)) (letsOf ws le 0) [] (hs 0)
 have r1:=read_row ([] ++ [namesL.getD 0 Str.empty]) (name_at (p:=1) (by decide)) (letsOf ws le 1) ([] ++ (letsOf ws le 0).map fun y=>(namesL.getD 0 Str.empty,y)) (hs 1)
 have r2:=read_row ([] ++ [namesL.getD 0 Str.empty] ++ [namesL.getD 1 Str.empty]) (name_at (p:=2) (by decide)) (letsOf ws le 2) ([] ++ (letsOf ws le 0).map (fun y=>(namesL.getD 0 Str.empty,y)) ++ (letsOf ws le 1).map fun y=>(namesL.getD 1 Str.empty,y)) (hs 2)
 rw [e,List.foldl_append,List.foldl_append,List.append_nil]
 refine (congrArg (fun z=>(rowOf ws le 2).foldl readR ((rowOf ws le 1).foldl readR z)) r0).trans ((congrArg (fun z=>(rowOf ws le 2).foldl readR z) r1).trans (r2.trans ?_))
 refine Prod.ext ?_ ((congrArg (· ++ _) (congrArg (· ++ _) (List.nil_append _))).trans (List.append_assoc _ _ _))
 kernel_rfl
end
theorem text_read (ws:List WdB) {le:List Str} (style:Int) (h:∀ b,letOf le b ∈ signsL):(Ex2 fun (ps:List (List Nat × Word)) (last:List Nat)=>A8 ((textF (rowsOf ws le) style).cps.toList=encP ps last) (∀ a ∈ last,wsB a=true) (AllR ps ([],[])) (ps.length=(rowsOf ws le).flatten.length) (nlsP ps last=3) ((ps.map (·.2.tok)).foldl readR ([],[])=(namesL,kvsR ws le)) (∀ c ∈ encP ps last,c < 1114112) (∀ r ∈ rowsOf ws le,∀ x ∈ r,Voc x)):=by
 have hv:∀ r ∈ rowsOf ws le,∀ x ∈ r,Voc x:=fun r hr x hx=>by
  obtain ⟨p,hp,rfl⟩:=List.mem_map.mp hr
  rcases List.mem_cons.mp hx with rfl | hx
  ·exact .inl (name_at (List.mem_range.mp hp))
  ·exact .inr (letOf_in ws h p x hx)
 have h0:PI (Str.empty,style) (([],[]),style) 0:=⟨rfl,rfl,fun a h=>(nomatch h),fun i h=>(nomatch h),rfl,fun c h=>(nomatch h)⟩
 have H:=h0.rows hv
 have hw:=pR_words (rowsOf ws le) (([],[]),style)
 have rd:=read_rows ws h
 have hl:(rowsOf ws le).length=3:=rfl
 have hd:(rowsOf ws le).flatten.head? = some (namesL.getD 0 Str.empty):=rfl
 rw [hl] at H
 unfold textF
 generalize (rowsOf ws le).foldl pR (([],[]),style)=z at H hw
 generalize (rowsOf ws le).foldl stepR (Str.empty,style)=s at H ⊢
 generalize (rowsOf ws le).flatten=fl at hw rd hd ⊢
 have hw:z.1.2.map (·.word)=fl:=hw
 have ht:(psOf z.1.2).map (·.2.tok)=fl:=by
  rw [<- hw]
  unfold psOf
  rw [List.map_map]
  exact List.map_congr_left fun i hi=>(voc_word (H.it i hi).3 (H.it i hi).2).tok
 refine ⟨psOf z.1.2,z.1.1,H.tx,H.ws,all_read _ _ H.it (fun y h=>(nomatch h)) (.inr fun i hi=>?_),?_,H.nl,by rw [ht]; exact rd,fun c hc=>H.cp c (by rw [H.tx]; exact hc),hv⟩
 ·rw [<- hw,List.head?_map,hi] at hd
  have hd:i.word=namesL.getD 0 Str.empty:=Option.some.inj hd
  rw [hd]
  exact name_at (by decide)
 ·unfold psOf
  rw [<- hw,List.length_map,List.length_map]
noncomputable def lowN (p q:Nat):Bool:=decide (Txt.lower (namesL.getD q Str.empty)=Txt.lower (Txt.upper (namesL.getD p Str.empty)))
theorem low_chk:((List.range 3).all fun p=>(List.range 3).all fun q=>lowN p q == Nat.beq p q)=true:=by kernel_rfl
theorem low_at {p q:Nat} (hp:p < 3) (hq:q < 3):lowN p q=Nat.beq p q:=eq_of_beq (List.all_eq_true.mp (List.all_eq_true.mp low_chk p (List.mem_range.mpr hp)) q (List.mem_range.mpr hq))
theorem all_part (x y:Str) {b:Bool} (h:decide (Txt.lower x=Txt.lower y)=b) (l:List Str):((l.map fun s=>(x,s)).filter fun kv=>decide (Txt.lower kv.1=Txt.lower y))=bif b then l.map (fun s=>(x,s)) else []:=by
 have e:∀ kv ∈ l.map (fun s=>(x,s)),decide (Txt.lower kv.1=Txt.lower y)=b:=fun kv hkv=>by
  obtain ⟨s,-,rfl⟩:=List.mem_map.mp hkv
  exact h
 cases b with
 | true=>exact List.filter_eq_self.mpr e
 | false=>exact List.filter_eq_nil_iff.mpr fun kv hkv z=>ft ((e kv hkv).symm.trans z)
theorem map_snd (x:Str) (l:List Str):(l.map fun s=>(x,s)).map (·.2)=l:=by rw [List.map_map]; exact List.map_id _
section
variable (ws:List WdB) {le:List Str}
theorem all_name {p:Nat} (hp:p < 3):allF (kvsR ws le) (Txt.upper (namesL.getD p Str.empty))=letsOf ws le p:=by
 unfold allF kvsR
 rw [List.filter_append,List.filter_append,all_part _ _ (low_at hp (show 0 < 3 by decide)),all_part _ _ (low_at hp (show 1 < 3 by decide)),all_part _ _ (low_at hp (show 2 < 3 by decide))]
 have e:p=0 \/ p=1 \/ p=2:=by omega
 rcases e with rfl | rfl | rfl
 ·show ((letsOf ws le 0).map (fun s=>(namesL.getD 0 Str.empty,s)) ++ []).map Prod.snd=_
  rw [List.append_nil,map_snd]
 ·show ((letsOf ws le 1).map (fun s=>(namesL.getD 1 Str.empty,s)) ++ []).map Prod.snd=_
  rw [List.append_nil,map_snd]
 ·exact map_snd _ _
noncomputable def phi (le:List Str) (g:Bool->Bool) (b:Bool):Int:=kindO (letOf le (g b))
theorem kinds_name (h:∀ b,letOf le b ∈ signsL) {g:Bool->Bool} (hg:∀ b,g (g b)=b) {p:Nat} (hp:p < 3):kindsF (kvsR ws le) (namesL.getD p Str.empty)=((ws.getD p []).map g).map (phi le g):=by
 unfold kindsF
 rw [all_name ws hp]
 unfold letsOf
 rw [List.map_map,List.map_map]
 exact List.map_congr_left fun b _=>(kind_ok (h b)).4.trans (congrArg (fun b=>kindO (letOf le b)) (hg b).symm)
noncomputable def nmChk (x:Str):Bool:=Nat.ble (Txt.upper x).length 1000 && (Txt.lower (Txt.upper x)).cps.toList.all fun c=>Nat.ble 32 c && Nat.blt c 127
theorem nm_chk:(namesL.all nmChk)=true:=by kernel_rfl
theorem name_ok (h:∀ b,letOf le b ∈ signsL) {x:Str} (hx:x ∈ namesL):NameOk (kvsR ws le) x:=by
 obtain ⟨h1,h2⟩:=and_t (List.all_eq_true.mp nm_chk x hx)
 refine ⟨Nat.le_trans (voc_fact (.inl hx)).len (by decide),Nat.le_of_ble_eq_true h1,fun c hc=>⟨Nat.le_of_ble_eq_true (and_t (List.all_eq_true.mp h2 c hc)).1,Nat.le_of_ble_eq_true (and_t (List.all_eq_true.mp h2 c hc)).2⟩,fun y hy=>?_⟩
 obtain ⟨p,hp,rfl⟩:=List.getElem_of_mem hx
 have hp:p < 3:=hp
 rw [<- getD_at hp,all_name ws hp] at hy
 rw [(kind_ok (letOf_in ws h p y hy)).3]
 rfl
theorem kvs_len:(kvsR ws le).length=(ws.getD 0 []).length+((ws.getD 1 []).length+(ws.getD 2 []).length):=by
 unfold kvsR letsOf
 rw [List.length_append,List.length_append,List.length_map,List.length_map,List.length_map,List.length_map,List.length_map,List.length_map]
theorem kvs_name:∀ kv ∈ kvsR ws le,kv.1.length<=1000:=fun kv hkv=>by
 have one:∀ {p:Nat} {l:List Str},p < 3->kv ∈ l.map (fun y=>(namesL.getD p Str.empty,y))->kv.1.length<=1000:=fun hp h=>by
  obtain ⟨y,-,rfl⟩:=List.mem_map.mp h
  exact Nat.le_trans (voc_fact (.inl (name_at hp))).len (by decide)
 rcases List.mem_append.mp hkv with h | h
 ·exact one (by decide) h
 ·rcases List.mem_append.mp h with h | h
  ·exact one (by decide) h
  ·exact one (by decide) h
end
structure Lets (le:List Str):Prop where
 two:le.length=2
 sign:∀ b,letOf le b ∈ signsL
 ne:letOf le false ≠ letOf le true
theorem Lets.mem {le:List Str} (h:Lets le) (b:Bool):letOf le b ∈ le /\ le.idxOf (letOf le b)=bitI b:=by
 obtain ⟨h1,-,h3⟩:=h
 match le,h1 with
 | [x,y],_=>
  have h3:x ≠ y:=h3
  cases b with
  | false=>exact ⟨List.mem_cons_self ..,List.idxOf_cons_self⟩
  | true=>exact ⟨List.mem_cons_of_mem _ (List.mem_cons_self ..),by show [x,y].idxOf y=1; rw [List.idxOf_cons,beq_false_of_ne h3]; show [y].idxOf y+1=1; rw [List.idxOf_cons_self]⟩
theorem Lets.all {le:List Str} (h:Lets le):∀ y ∈ le,y ∈ signsL:=fun y hy=>by
 obtain ⟨h1,h2,-⟩:=h
 match le,h1 with
 | [a,b],_=>
  rcases List.mem_cons.mp hy with rfl | hy
  ·exact h2 false
  ·rw [List.mem_singleton.mp hy]; exact h2 true
theorem Lets.kinds {le:List Str} (h:Lets le) (b:Bool):(kindsL le).getD (bitI b) 0=kindO (letOf le b):=by
 obtain ⟨h1,-,-⟩:=h
 match le,h1 with
 | [x,y],_=>cases b with
  | false=>rfl
  | true=>rfl
theorem Lets.up {le:List Str} (h:Lets le):∃ g:Bool->Bool,(∀ b,g (g b)=b) /\ phi le g false < phi le g true:=by
 by_cases q:kindO (letOf le false) < kindO (letOf le true)
 ·exact ⟨id,fun _=>rfl,q⟩
 ·refine ⟨not,Bool.not_not,?_⟩
  have:kindO (letOf le true) ≠ kindO (letOf le false):=fun e=>h.ne (kind_inj (h.sign _) (h.sign _) e.symm)
  show kindO (letOf le true) < kindO (letOf le false)
  omega
theorem lets_law (ns:List Int):Lets (lettersL ns):=by
 have hl:=signs_len
 have i0:sumN ns / 47 < signsL.length:=hl ▸ lt6 ns
 have i1:(if sumN ns / 47<=sumN ns % 47 then sumN ns % 47+1 else sumN ns % 47) < signsL.length:=by
  rw [hl]
  by_cases q:sumN ns / 47<=sumN ns % 47
  ·rw [if_pos q]; exact lt8 ns
  ·rw [if_neg q]; exact lt7 ns
 have ne:sumN ns / 47 ≠ (if sumN ns / 47<=sumN ns % 47 then sumN ns % 47+1 else sumN ns % 47):=by
  by_cases q:sumN ns / 47<=sumN ns % 47
  ·rw [if_pos q]; omega
  ·rw [if_neg q]; omega
 have mem:∀ {i:Nat},i < signsL.length->signsL.getD i Str.empty ∈ signsL:=fun h=>by rw [getD_at h]; exact List.getElem_mem h
 refine ⟨rfl,fun b=>?_,fun e=>ne ?_⟩
 ·cases b with
  | false=>exact mem i0
  | true=>exact mem i1
 ·have:=congrArg signsL.idxOf (show signsL.getD (sumN ns / 47) Str.empty=signsL.getD _ Str.empty from e)
  rw [idx_get signs_nd i0,idx_get signs_nd i1] at this
  exact this
theorem getD_word (ws:List WdB) (n:Nat):(ws.map wordS).getD n Str.empty=wordS (ws.getD n []):=by
 rw [List.getD_eq_getElem?_getD,List.getD_eq_getElem?_getD,List.getElem?_map]
 cases ws[n]? with
 | none=>rfl
 | some x=>rfl
theorem textW_eq (ws:List WdB) (l:List Nat):textW (ws.map wordS) (l.map fun n:Nat=>(n:Int))=wordS (textB ws l):=by
 unfold textW textB
 rw [List.map_map,List.flatMap_def,<- glue_words,List.map_map]
 exact congrArg (Txt.join Str.empty) (List.map_congr_left fun n _=>getD_word ws n)
theorem item_bit (b:Bool):Txt.item "01" (bitI b:Nat)=oneS b:=by
 cases b
 ·decide +kernel
 ·decide +kernel
theorem bitsT_eq {le:List Str} (h:Lets le) (g:Bool->Bool) (r:WdB):bitsT le (r.map (phi le g))=wordS (r.map g):=by
 unfold bitsT
 rw [List.map_map,<- join_bits,List.map_map]
 refine congrArg (Txt.join Str.empty) (List.map_congr_left fun b _=>?_)
 show Txt.item "01" (le.idxOf (signF (kindO (letOf le (g b)))):Nat)=oneS (g b)
 rw [(kind_ok (h.sign (g b))).2,(h.mem (g b)).2,item_bit]
theorem text_map (ws:List WdB) (g:Bool->Bool) (l:List Nat):textB (ws.map fun w=>w.map g) l=(textB ws l).map g:=by
 unfold textB
 rw [List.map_flatMap]
 congr 1
 funext i
 rw [List.getD_eq_getElem?_getD,List.getD_eq_getElem?_getD,List.getElem?_map]
 cases ws[i]? with
 | none=>rfl
 | some x=>rfl
theorem rest_ok {ws:List WdB} {le:List Str} (h:Lets le) {g:Bool->Bool} (hg:∀ b,g (g b)=b) {e:ArB} (he:entB (ws.map fun w=>w.map g) e=true):RestOk (ws.map wordS) le (mA (phi le g) e):=by
 unfold entB at he
 obtain ⟨he,e6⟩:=and_t he
 obtain ⟨he,e5⟩:=and_t he
 obtain ⟨he,e4⟩:=and_t he
 obtain ⟨he,e3⟩:=and_t he
 obtain ⟨e1,e2⟩:=and_t he
 have e1:=congrArg (List.map g) (beqW_of e1)
 have back:∀ l:WdB,(l.map g).map g=l:=fun l=>by
  rw [List.map_map]
  exact (List.map_congr_left fun b _=>hg b).trans (List.map_id _)
 rw [List.map_append,text_map,text_map,back,back] at e1
 refine ⟨⟨fun k hk=>?_,?_⟩,fun i hi=>?_,figs_m e2 e4,figs_m e3 e5,?_⟩
 ·obtain ⟨b,-,rfl⟩:=List.mem_map.mp hk
  exact (kind_ok (h.sign (g b))).1
 ·show (e.1.map (phi le g)).length<=3
  rw [List.length_map]
  exact Nat.le_of_ble_eq_true e6
 ·obtain ⟨b,-,rfl⟩:=List.mem_map.mp hi
  show signF (kindO (letOf le (g b))) ∈ le
  rw [(kind_ok (h.sign (g b))).2]
  exact (h.mem (g b)).1
 ·show textW (ws.map wordS) (e.2.1.map fun n:Nat=>(n:Int))=textW (ws.map wordS) (e.2.2.map fun n:Nat=>(n:Int)) ++ bitsT le (e.1.map (phi le g))
  rw [textW_eq,textW_eq,bitsT_eq h,<- wordS_app,e1]
theorem sorted_merge:∀ (l:List Nat),sortedB l=true->(l.map fun n:Nat=>(n:Int)).mergeSort (fun x y=>decide (x<=y))=l.map fun n:Nat=>(n:Int):=fun l h=>by
 refine List.mergeSort_of_pairwise ?_
 refine List.pairwise_map.mpr ?_
 have key:∀ l:List Nat,sortedB l=true->l.Pairwise fun a b=>a<=b:=by
  intro l
  induction l with
  | nil=>exact fun _=>.nil
  | cons x l ih=>
   cases l with
   | nil=>exact fun _=>List.pairwise_singleton _ _
   | cons y l=>
    intro h
    obtain ⟨h1,h2⟩:=and_t (show (Nat.ble x y && sortedB (y :: l))=true from h)
    have p:=ih h2
    have h1:=Nat.le_of_ble_eq_true h1
    refine List.pairwise_cons.mpr ⟨fun z hz=>?_,p⟩
    rcases List.mem_cons.mp hz with rfl | hz
    ·exact h1
    ·exact Nat.le_trans h1 ((List.pairwise_cons.mp p).1 z hz)
 exact (key l h).imp fun h=>decide_eq_true (Int.ofNat_le.mpr h)
theorem digS_len {l:List Int} (h:Figs l):(digS l).length=l.length:=(figs_dig l Str.empty (fun c hc=>(nomatch hc)) h.1).2.trans (Nat.zero_add _)
theorem ent_figs {ws:List WdB} {e:ArB} (he:entB ws e=true):Figs (e.2.1.map fun n:Nat=>(n:Int)) /\ Figs (e.2.2.map fun n:Nat=>(n:Int)):=by
 unfold entB at he
 obtain ⟨he,-⟩:=and_t he
 obtain ⟨he,e5⟩:=and_t he
 obtain ⟨he,e4⟩:=and_t he
 obtain ⟨he,e3⟩:=and_t he
 exact ⟨figs_m (and_t he).2 e4,figs_m e3 e5⟩
theorem road_m {ws:List WdB} {φ:Bool->Int} {e:ArB} (he:entB ws e=true):(roadS (digS (mA φ e).2.1) (digS (mA φ e).2.2)).length=e.2.1.length+e.2.2.length+1:=by
 obtain ⟨f1,f2⟩:=ent_figs he
 have l1:=digS_len f1
 have l2:=digS_len f2
 rw [List.length_map] at l1 l2
 rw [road_len]
 show (digS (e.2.1.map fun n:Nat=>(n:Int))).length+1+(digS (e.2.2.map fun n:Nat=>(n:Int))).length=_
 rw [l1,l2,Nat.add_right_comm]
theorem lens_m {ws:List WdB} {φ:Bool->Int} {s:List ArB} (hs:s.all (entB ws)=true) (h:sortedB (s.map fun e=>e.2.1.length+e.2.2.length+1)=true):(lensA (s.map (mA φ))).mergeSort (fun x y=>decide (x<=y))=lensA (s.map (mA φ)):=by
 have e:lensA (s.map (mA φ))=(s.map fun e=>e.2.1.length+e.2.2.length+1).map fun n:Nat=>(n:Int):=by
  unfold lensA
  rw [List.map_map,List.map_map]
  exact List.map_congr_left fun e he=>congrArg (fun n:Nat=>(n:Int)) (road_m (List.all_eq_true.mp hs e he))
 rw [e]
 exact sorted_merge _ h
theorem elim_t {α:Type} {o:Option α} {f:α->Bool} (h:o.elim false f=true):∃ q,o=some q /\ f q=true:=by
 cases o with
 | none=>exact ft h
 | some q=>exact ⟨q,rfl,h⟩
structure WkOk (a b c:WdB) (s:List ArB) (i:Nat) (Ls:List WdB):Prop where
 run:runC (sortB a b c) 12 (initB (sortB a b c)) 0=some (s,i,Ls)
 srt:sortedB (s.map fun e=>e.2.1.length+e.2.2.length+1)=true
 ent:s.all (entB [a,b,c])=true
 z1:Ls.length<=12
 z2:s.length<=12
 tk:Ls ++ [[]]=((s.map fun e:ArB=>e.1) ++ [[]]).take (Ls.length+1)
 cl:closedB [a,b,c] s (mB s)=true
 fin:endB s=true
theorem walk_out {a b c:WdB} (ok:okC a b c=true):∃ s i Ls,WkOk a b c s i Ls:=by
 obtain ⟨⟨s,i,Ls⟩,h,g⟩:=elim_t (and_t ok).2
 obtain ⟨g,g7⟩:=and_t g
 obtain ⟨g,g6⟩:=and_t g
 obtain ⟨g,g5⟩:=and_t g
 obtain ⟨g,g4⟩:=and_t g
 obtain ⟨g,g3⟩:=and_t g
 obtain ⟨g1,g2⟩:=and_t g
 exact ⟨s,i,Ls,h,g1,g2,Nat.le_of_ble_eq_true g3,Nat.le_of_ble_eq_true g4,of_decide_eq_true g5,g6,g7⟩
structure WsOk (ws:List WdB):Prop where
 n:ws.length=3
 l:∀ x ∈ ws,1<=x.length /\ x.length<=3
theorem ws_law (ns:List Int):WsOk (wordsB ns):=by
 refine ⟨rfl,fun x hx=>?_⟩
 obtain ⟨i,-,rfl⟩:=List.mem_map.mp hx
 unfold wordB
 rw [List.length_map,List.length_range]
 have:=Nat.mod_lt (xN ns i) (show 0 < 3 by decide)
 omega
theorem WsOk.at {ws:List WdB} (h:WsOk ws) {i:Nat} (hi:i < 3):1<=(ws.getD i []).length /\ (ws.getD i []).length<=3:=by
 have hi:i < ws.length:=h.n ▸ hi
 rw [List.getD_eq_getElem?_getD,List.getElem?_eq_getElem hi]
 exact h.l _ (List.getElem_mem hi)
theorem WsOk.le {ws:List WdB} (h:WsOk ws) (i:Nat):(ws.getD i []).length<=3:=by
 by_cases hi:i < 3
 ·exact (h.at hi).2
 ·rw [List.getD_eq_getElem?_getD,List.getElem?_eq_none (by rw [h.n]; exact Nat.le_of_not_lt hi)]
  exact Nat.zero_le _
theorem in14:∀ x:WdB,1<=x.length /\ x.length<=3->x ∈ words14
 | [],h=>absurd h.1 (by decide)
 | [x],_=>(word_in x x x).1
 | [x,y],_=>(word_in x y y).2
 | [x,y,z],_=>(word_in x y z).3
 | _ :: _ :: _ :: _ :: _,h=>absurd h.2 (by rw [List.length_cons,List.length_cons,List.length_cons,List.length_cons]; omega)
theorem WsOk.flip {ws:List WdB} (h:WsOk ws) (g:Bool->Bool) {i:Nat} (hi:i < 3):(ws.getD i []).map g ∈ words14:=in14 _ (by rw [List.length_map]; exact h.at hi)
theorem WsOk.three {ws:List WdB} (h:WsOk ws) (g:Bool->Bool):ws.map (fun w=>w.map g) = [(ws.getD 0 []).map g,(ws.getD 1 []).map g,(ws.getD 2 []).map g]:=by
 obtain ⟨h1,-⟩:=h
 match ws,h1 with
 | [_,_,_],_=>rfl
theorem WsOk.wok {ws:List WdB} (h:WsOk ws):WOk (ws.map wordS):=by
 refine ⟨by rw [List.length_map]; exact h.n,fun i=>?_⟩
 rw [getD_word]
 show ((((ws.getD i.toNat []).map bitC).toArray).size)<=3
 rw [List.size_toArray,List.length_map]
 exact h.le _
theorem WsOk.short {ws:List WdB} (h:WsOk ws):∀ y ∈ ws.map wordS,y.length<=3:=fun y hy=>by
 obtain ⟨x,hx,rfl⟩:=List.mem_map.mp hy
 show (((x.map bitC).toArray).size)<=3
 rw [List.size_toArray,List.length_map]
 exact (h.l x hx).2
theorem mem_fold {kvs:List (Str × Str)} {nm:List Str} {r:Row}:∀ (l:List Nat) (s:List Row),r ∈ l.foldl (stepO kvs nm) s->r ∈ s \/ ∃ i ∈ l,r=(kindsF kvs (nm.getD i Str.empty),(i:Int))
 | [],_,h=>.inl h
 | i :: l,s,h=>(mem_fold l _ h).elim (fun h=>(insR_mem h).elim (fun e=>.inr ⟨i,List.mem_cons_self ..,e⟩) .inl) fun ⟨j,hj,e⟩=>.inr ⟨j,List.mem_cons_of_mem _ hj,e⟩
theorem rows_ok {ws:List WdB} {le:List Str} (W:WsOk ws) (L:Lets le):RowsOk (rowsF (kvsR ws le) namesL):=by
 obtain ⟨h1,h2⟩:=stepO_fold (kvsR ws le) namesL (List.range namesL.length) [] .nil
 have hm:∀ r ∈ rowsF (kvsR ws le) namesL,∃ i,i < 3 /\ r=(((ws.getD i []).map id).map (phi le id),(i:Int)):=fun r hr=>(mem_fold _ _ hr).elim (fun h=>(nomatch h)) fun ⟨i,hi,e⟩=>by
  have hi:i < 3:=List.mem_range.mp hi
  rw [kinds_name ws L.sign (g:=id) (fun _=>rfl) hi] at e
  exact ⟨i,hi,e⟩
 refine ⟨h1,fun r hr k hk=>?_,fun r hr=>?_,fun r hr=>?_,Nat.le_of_eq (h2.trans ?_)⟩
 ·obtain ⟨i,hi,rfl⟩:=hm r hr
  obtain ⟨b,-,rfl⟩:=List.mem_map.mp hk
  exact (kind_ok (L.sign b)).1
 ·obtain ⟨i,hi,rfl⟩:=hm r hr
  show 1<=(((ws.getD i []).map id).map (phi le id)).length /\ (((ws.getD i []).map id).map (phi le id)).length<=3
  rw [List.length_map,List.length_map]
  exact W.at hi
 ·obtain ⟨i,hi,rfl⟩:=hm r hr
  exact ⟨Int.natCast_nonneg i,Int.ofNat_lt.mpr hi⟩
 ·kernel_rfl
theorem off_nodup (nx:Nat):∀ (l:List Nat),l.Nodup->(l.map (nx + ·)).Nodup:=fun l h=>List.pairwise_map.mpr (h.imp fun n e=>n (Nat.add_left_cancel e))
theorem off_mem {nx i b:Nat} {l:List Nat} (h:i ∈ l.map (nx + ·)):nx<=i /\ ((∀ j ∈ l,j < b)->i < nx+b):=by
 obtain ⟨j,hj,rfl⟩:=List.mem_map.mp h
 exact ⟨Nat.le_add_right _ _,fun k=>Nat.add_lt_add_left (k j hj) nx⟩
section
variable {prog:Program} {w:World} {k:Nat} {m:Nat->MO} {nx:Nat}
theorem mkLex_ne {m:Nat->MO} {nx i:Nat} {x:AV} (h0:i ≠ nx) (h1:i ≠ nx+1) (h2:i ≠ nx+2):mkLex w m nx x i=m i:=(upd_ne _ _ _ h2).trans ((upd_ne _ _ _ h1).trans (upd_ne _ _ _ h0))
section
variable {cs:List Nat}
theorem lexM_0:lexM w m nx cs nx=.list (leftD cs):=by
 unfold lexM
 rw [mkLex_ne (by omega) (by omega) (by omega),upd_ne _ _ _ (by omega),mkLex_ne (by omega) (by omega) (by omega),upd_at]
theorem lexM_1:lexM w m nx cs (nx+1)=.ns (srcNs w (nx+3) nx):=by
 unfold lexM
 rw [mkLex_ne (by omega) (by omega) (by omega),upd_at]
theorem lexM_2:lexM w m nx cs (nx+2)=.inst (netC w) (nx+1):=by
 unfold lexM
 rw [mkLex_ne (by omega) (by omega) (by omega),upd_ne _ _ _ (by omega)]
 unfold mkLex
 rw [upd_ne _ _ _ (by omega),upd_at]
theorem lexM_4:lexM w m nx cs (nx+4)=.ns (lexNs 1 (.loc (nx+2)) (nx+6)):=by
 unfold lexM
 conv=>lhs; unfold mkLex
 rw [upd_ne _ _ _ (by omega),upd_ne _ _ _ (by omega),upd_at]
theorem lexM_5:lexM w m nx cs (nx+5)=.inst (netC w) (nx+4):=by
 unfold lexM
 conv=>lhs; unfold mkLex
 rw [upd_ne _ _ _ (by omega),upd_at]
theorem lexM_6:lexM w m nx cs (nx+6)=.list []:=by
 unfold lexM
 conv=>lhs; unfold mkLex
 rw [upd_at]
theorem lexM_lt {i:Nat} (h:i < nx):lexM w m nx cs i=m i:=by
 unfold lexM
 rw [mkLex_ne (by omega) (by omega) (by omega),upd_ne _ _ _ (by omega),mkLex_ne (by omega) (by omega) (by omega),upd_ne _ _ _ (by omega)]
noncomputable def lwX (nx:Nat):Ix:=⟨nx+5,nx+4,nx+6,nx+2,nx+1,nx,nx+3,nx+8,nx+7,nx+9⟩
theorem lwX_all (nx:Nat):(lwX nx).all = [5,4,6,2,1,0,8,7,9].map (nx + ·):=rfl
theorem law_good:A3 (Good w (lwX nx) (mkHd w (lexM w m nx cs) (nx+7)) (nx+10)) (mkHd w (lexM w m nx cs) (nx+7)=vw (lwX nx) (mkHd w (lexM w m nx cs) (nx+7)) 1 cs [] []) (∀ i,i < nx->mkHd w (lexM w m nx cs) (nx+7) i=m i):=by
 have l0:=lexM_0 (w:=w) (m:=m) (nx:=nx) (cs:=cs)
 have l1:=lexM_1 (w:=w) (m:=m) (nx:=nx) (cs:=cs)
 have l2:=lexM_2 (w:=w) (m:=m) (nx:=nx) (cs:=cs)
 have l4:=lexM_4 (w:=w) (m:=m) (nx:=nx) (cs:=cs)
 have l5:=lexM_5 (w:=w) (m:=m) (nx:=nx) (cs:=cs)
 have l6:=lexM_6 (w:=w) (m:=m) (nx:=nx) (cs:=cs)
 have lt:=fun i h=>lexM_lt (w:=w) (m:=m) (nx:=nx) (cs:=cs) (i:=i) h
 have hdat:=mkHd_at (w:=w) (m:=lexM w m nx cs) (nx:=nx+7)
 have o2:∀ j,j < 7->mkHd w (lexM w m nx cs) (nx+7) (nx+j)=lexM w m nx cs (nx+j):=fun j hj=>mkHd_ne (Nat.add_lt_add_left hj nx)
 have o3:∀ i,i < nx->mkHd w (lexM w m nx cs) (nx+7) i=lexM w m nx cs i:=fun i hi=>mkHd_ne (Nat.lt_of_lt_of_le hi (Nat.le_add_right nx 7))
 generalize mkHd w (lexM w m nx cs) (nx+7)=m2 at *
 generalize lexM w m nx cs=m1 at *
 have G:Good w (lwX nx) m2 (nx+10):=⟨by rw [lwX_all]; exact off_nodup nx _ (by decide),fun i hi=>(off_mem (lwX_all nx ▸ hi)).2 (by decide),(o2 5 (by decide)).trans l5,(o2 2 (by decide)).trans l2,(o2 1 (by decide)).trans l1,hdat.i1,hdat.i2⟩
 exact ⟨G,vw_ext G.sep hdat.i3 ((o2 6 (by decide)).trans l6) ((o2 4 (by decide)).trans l4) ((o2 0 (by decide)).trans l0) fun i _ _ _ _=>rfl,fun i hi=>(o3 i hi).trans (lt i hi)⟩
end
noncomputable def lwX2 (nx:Nat):Ix:=⟨nx+5,nx+4,nx+6,nx+2,nx+1,nx,nx+3,nx+11,nx+10,nx+12⟩
theorem lwX2_all (nx:Nat):(lwX2 nx).all = [5,4,6,2,1,0,11,10,12].map (nx + ·):=rfl
theorem law_good2 {L:Int} {cs:List Nat} {push:List D} (X:LexAt w m (nx+10) (nx+5) (nx+4) (nx+6) (nx+2) (nx+1) nx (nx+3) L cs push):A3 (Good w (lwX2 nx) (mkHd w m (nx+10)) (nx+13)) (mkHd w m (nx+10)=vw (lwX2 nx) (mkHd w m (nx+10)) L cs push []) (∀ i,i < nx->mkHd w m (nx+10) i=m i):=by
 have hdat:=mkHd_at (w:=w) (m:=m) (nx:=nx+10)
 have o2:∀ i,i < nx+10->mkHd w m (nx+10) i=m i:=fun i hi=>mkHd_ne hi
 generalize mkHd w m (nx+10)=m2 at *
 have G:Good w (lwX2 nx) m2 (nx+13):=⟨by rw [lwX2_all]; exact off_nodup nx _ (by decide),fun i hi=>(off_mem (lwX2_all nx ▸ hi)).2 (by decide),(o2 _ X.ln).trans X.i1,(o2 _ X.ls).trans X.i4,(o2 _ X.lt).trans X.i5,hdat.i1,hdat.i2⟩
 exact ⟨G,vw_ext G.sep hdat.i3 ((o2 _ X.lp).trans X.i3) ((o2 _ X.lj).trans X.i2) ((o2 _ X.lq).trans X.i6) fun i _ _ _ _=>rfl,fun i hi=>o2 i (Nat.lt_of_lt_of_le hi (Nat.le_add_right nx 10))⟩
end
theorem prn_flat {x:Str} (h:Prn x):D.nb (.str x)=true /\ D.dep (.str x)<=2:=by
 refine ⟨?_,Nat.zero_le _⟩
 show x.cps.all (· < 0x110000)=true
 rw [<- Array.all_toList]
 exact List.all_eq_true.mpr fun c hc=>decide_eq_true (Nat.lt_trans (h c hc).2 (by decide))
theorem strs_flat {l:List Str} (h:∀ x ∈ l,Prn x):Flat (.lst (strDs l)):=flat_lst fun d hd=>by
 obtain ⟨x,hx,rfl⟩:=List.mem_map.mp hd
 exact prn_flat (h x hx)
theorem rows_flat (l:List Row):Flat (.lst (l.map rT)):=flat_lst fun d hd=>by
 obtain ⟨r,-,rfl⟩:=List.mem_map.mp hd
 have z:D.deps (r.1.map D.int)<=0:=deps_of fun x hx=>by
  obtain ⟨i,-,rfl⟩:=List.mem_map.mp hx
  exact Nat.le_refl _
 refine ⟨?_,?_⟩
 ·show (D.nb (.lst (r.1.map D.int)) && true)=true
  rw [(ints_flat r.1).1]
  rfl
 ·show max (D.deps (r.1.map D.int)+1) (max 0 0)+1<=2
  rw [Nat.le_zero.mp z]
  exact Nat.le_refl _
theorem name_nil:nameF []=Str.empty:=by kernel_rfl
theorem name_prn (r:List Int):Prn (nameF r):=prn_low (name_low r)
section
variable {a b c:WdB} {s:List ArB} {i:Nat} {Ls:List WdB} {φ:Bool->Int}
noncomputable def nuN (φ:Bool->Int) (r:WdB):D:=.str (nameF (r.map φ))
theorem nu_taken (Ls:List WdB):strDs ((Ls.map fun l=>l.map φ).map nameF ++ [Str.empty])=(Ls ++ [[]]).map (nuN φ):=by
 have e:nuN φ []=.str Str.empty:=congrArg D.str name_nil
 unfold strDs
 rw [List.map_append,List.map_append,List.map_map,List.map_map,List.map_singleton,List.map_singleton,e]
 rfl
theorem nu_keys (s:List ArB):strDs ((imgS (s.map (mA φ))).map (·.1)) ++ [D.str Str.empty]=((s.map fun e:ArB=>e.1) ++ [[]]).map (nuN φ):=by
 have e:nuN φ []=.str Str.empty:=congrArg D.str name_nil
 unfold strDs imgS
 rw [List.map_append,List.map_map,List.map_map,List.map_map,List.map_map,List.map_singleton,e]
 rfl
theorem WkOk.keys (H:WkOk a b c s i Ls):pickD (strDs ((imgS (s.map (mA φ))).map (·.1)) ++ [D.str Str.empty]) none (some ((strDs ((Ls.map fun l=>l.map φ).map nameF ++ [Str.empty])).length:Nat))=strDs ((Ls.map fun l=>l.map φ).map nameF ++ [Str.empty]):=by
 rw [nu_keys,nu_taken,pick_take,List.length_map,List.length_append,List.length_singleton,<- List.map_take,<- H.tk]
theorem WkOk.empty (H:WkOk a b c s i Ls) (hs:AOk (s.map (mA φ))) (hφ:∀ a b,φ a=φ b->a=b):(((getF (imgS (s.map (mA φ))) Str.empty).getD "/").length:Nat)=(emptyB s).elim 0 (fun e=>e.2.1.length+e.2.2.length)+1:=by
 have g:=getF_img hs (r:=[]) ⟨fun k hk=>(nomatch hk),Nat.zero_le _⟩
 rw [name_nil,List.find?_map] at g
 have e1:((fun x:AR=>decide (x.1 = [])) ∘ mA φ)=fun x=>beqW x.1 []:=by
  funext x
  show decide (x.1.map φ=([]:WdB).map φ)=_
  rw [beqW_eq]
  exact decide_eq_decide.mpr (map_iff hφ)
 rw [e1] at g
 rw [g]
 unfold emptyB
 cases q:s.find? fun x=>beqW x.1 [] with
 | none=>exact show ("/" : Str).length=1 by decide +kernel
 | some e=>exact road_m (List.all_eq_true.mp H.ent e (List.mem_of_find?_eq_some q))
end
theorem end_le {s:List ArB} (h:endB s=true):(emptyB s).elim 0 (fun e=>e.2.1.length+e.2.2.length)<=10:=by
 unfold endB at h
 cases q:emptyB s with
 | none=>exact Nat.zero_le _
 | some e=>
  rw [q] at h
  obtain ⟨h,-⟩:=and_t h
  obtain ⟨h,-⟩:=and_t h
  obtain ⟨h,-⟩:=and_t h
  exact Nat.add_le_add (Nat.le_of_ble_eq_true (and_t h).1) (Nat.le_of_ble_eq_true (and_t h).2)
theorem text_flip (ws:List WdB) {g:Bool->Bool} (hg:∀ b,g (g b)=b) (p q:List Nat):textB ws p=textB ws q ↔ textB (ws.map fun w=>w.map g) p=textB (ws.map fun w=>w.map g) q:=by
 rw [text_map,text_map]
 exact (List.map_inj_right fun a b e=>(hg a).symm.trans ((congrArg g e).trans (hg b))).symm
theorem WsOk.wds {ws:List WdB} (h:WsOk ws) (g:Bool->Bool):Wds (ws.map fun w=>w.map g):=by
 refine ⟨by rw [List.length_map]; exact h.n,fun x hx e=>?_⟩
 obtain ⟨y,hy,rfl⟩:=List.mem_map.mp hx
 have:=(h.l y hy).1
 rw [List.map_eq_nil_iff.mp e] at this
 exact absurd this (by decide)
theorem sort_rows {ws:List WdB} {le:List Str} (L:Lets le) {g:Bool->Bool} (hg:∀ b,g (g b)=b):rowsW (kindsL le) ws=(rows3 ((ws.getD 0 []).map g) ((ws.getD 1 []).map g) ((ws.getD 2 []).map g)).map (mR (phi le g)):=by
 rw [rowsW_eq (kindsL le) ws hg]
 exact congrArg (fun f=>List.map (mR f) _) (funext fun b=>L.kinds (g b))
theorem row_short {ws:List WdB} (W:WsOk ws) (le:List Str):∀ r ∈ rowsOf ws le,r.length<=4:=fun r hr=>by
 obtain ⟨p,-,rfl⟩:=List.mem_map.mp hr
 show ((ws.getD p []).map (letOf le)).length+1<=4
 rw [List.length_map]
 exact Nat.succ_le_succ (W.le p)
theorem rows_total {ws:List WdB} (W:WsOk ws) (le:List Str):(rowsOf ws le).flatten.length<=12:=by
 have h:=row_short W le
 show (rowOf ws le 0 ++ (rowOf ws le 1 ++ (rowOf ws le 2 ++ []))).length<=12
 rw [List.append_nil,List.length_append,List.length_append]
 have h0:=h _ (List.mem_map.mpr ⟨0,List.mem_range.mpr (by decide),rfl⟩)
 have h1:=h _ (List.mem_map.mpr ⟨1,List.mem_range.mpr (by decide),rfl⟩)
 have h2:=h _ (List.mem_map.mpr ⟨2,List.mem_range.mpr (by decide),rfl⟩)
 omega
theorem text_len {ws:List WdB} (W:WsOk ws) {le:List Str} (h:∀ r ∈ rowsOf ws le,∀ x ∈ r,Short x) (style:Int):(textF (rowsOf ws le) style).cps.size<=10000:=by
 have f:=fold_bound (μ:=fun s:Str × Int=>s.1.length) (c:=231) (step:=stepR) (rowsOf ws le) (Str.empty,style) fun y hy s=>stepR_len y (h y hy) (Nat.le_trans (row_short W le y hy) (by decide)) s
 exact Nat.le_trans f (show 0+231 * 3<=10000 by decide)
section
variable {prog:Program} {w:World} {k:Nat} {m:Nat->MO} {nx:Nat}
theorem law_tr (ns:List Int) (hz:ns.length<=63) (j1 j2 j3:Nat) (cA1 cA2 cA3:Addr) (h1:j1 < nx) (h2:j2 < nx) (h3:j3 < nx) (t1:m j1=.tab cA1) (t2:m j2=.tab cA2) (t3:m j3=.tab cA3) (hc1:(ph w "_law_lexer").code=some cA1) (hc2:(ioF w).code=some cA2) (hc3:(fdF w).code=some cA3) :
  CallTr prog w (KK w) bt (k+8) (fn w "law") [.d (.lst (ns.map D.int))] [] m nx (.d (.bool true)) m nx:=by
 have W:=ws_law ns
 have L:=lets_law ns
 have e1:=words_tr (prog:=prog) (w:=w) (k:=k+6) (m:=m) (nx:=nx) ns (Nat.lt_of_le_of_lt hz (by decide))
 have e2:=letters_tr (prog:=prog) (w:=w) (k:=k+5) (m:=m) (nx:=nx) ns
 have es:=c_sum (prog:=prog) (w:=w) (K:=KK w) (btab:=bt) (k:=k+7) (m:=m) (nx:=nx) (a:=.d (.lst (ns.map D.int))) (ns:=ns) rfl trivial
 generalize wordsB ns=ws at *
 generalize lettersL ns=le at *
 generalize ns.map D.int=S0 at *
 generalize ns.sum=sm at *
 obtain ⟨g,hg,up⟩:=L.up
 obtain ⟨ps,last,p1,p2,p3,p4,p5,p6,p7,p8⟩:=text_read ws sm L.sign
 have hsh:∀ r ∈ rowsOf ws le,∀ x ∈ r,Short x:=fun r hr x hx=>(voc_fact (p8 r hr x hx)).len
 have l9:∀ l ∈ ws,l.length<=9:=fun l hl=>Nat.le_trans (W.l l hl).2 (by decide)
 have e3:=text_tr (prog:=prog) (w:=w) (k:=k+5) (m:=m) (nx:=nx) ws le sm W.n L.two l9 hsh
 have htl:=text_len W hsh sm
 have hrt:=rows_total W le
 generalize textF (rowsOf ws le) sm=tx at p1 e3 htl
 have e4:=lexer_tr (prog:=prog) (w:=w) (k:=k+4) (m:=m) (nx:=nx) tx htl j1 cA1 h1 t1 hc1
 rw [p1] at e4
 have hok:OkCs (encP ps last):=⟨by rw [<- p1,Array.length_toList]; exact htl,p7⟩
 obtain ⟨G,v0,gm⟩:=law_good (w:=w) (m:=m) (nx:=nx) (cs:=encP ps last)
 have e5:=hd_make (prog:=prog) (w:=w) (k:=k+5) (m:=lexM w m nx (encP ps last)) (nx:=nx+7)
 generalize mkHd w (lexM w m nx (encP ps last)) (nx+7)=m2 at e5 G v0 gm
 generalize lexM w m nx (encP ps last)=m1 at e4 e5
 have e6:=read_tr (prog:=prog) (w:=w) (k:=k+2) (L:=1) G ps last p2 p3 hok (by rw [p4]; omega)
 rw [<- v0,p6,p5] at e6
 have X3:=G.lex (L:=4) (cs:=[]) (push:=[]) (kvs:=kvsR ws le)
 have H3:=G.hd (L:=4) (cs:=[]) (push:=[]) (kvs:=kvsR ws le)
 have v3:∀ i,i < nx->vw (lwX nx) m2 4 [] [] (kvsR ws le) i=m i:=fun i hi=>by
  rw [G.vat (by rw [lwX_all]; exact fun z=>absurd (off_mem (b:=0) z).1 (Nat.not_le_of_lt hi)),gm i hi]
 have e6:CallTr prog w (KK w) bt (k+7) (fn w "_law_read") [.loc (nx+5),.loc (nx+8)] [] m2 (nx+10) (.d (.lst (strDs namesL))) (vw (lwX nx) m2 4 [] [] (kvsR ws le)) (nx+10):=e6
 generalize vw (lwX nx) m2 4 [] [] (kvsR ws le)=m3 at e6 X3 H3 v3
 have kl:=kvs_len (le:=le) ws
 have w0:=W.le 0
 have w1:=W.le 1
 have w2:=W.le 2
 have e7:=order_tr (prog:=prog) (w:=w) (k:=k+3) H3 (kvs_name ws) (by omega) namesL (show 3<=100 by decide) (fun x hx=>name_ok ws L.sign hx) (Nat.lt_of_lt_of_le h2 (Nat.le_add_right _ _)) ((v3 j2 h2).trans t2) hc2
 have rF:=rowsF_eq up (kinds_name ws L.sign hg (p:=0) (by decide)) (kinds_name ws L.sign hg (p:=1) (by decide)) (kinds_name ws L.sign hg (p:=2) (by decide))
 have RO:=rows_ok W L
 rw [rF] at e7 RO
 have ok:=ev_ok (W.flip g (i:=0) (by decide)) (W.flip g (i:=1) (by decide)) (W.flip g (i:=2) (by decide))
 have e8:CallTr prog w (KK w) bt (k+7) (.k (.builtin "sorted")) [.d (.lst ((rowsW (kindsL le) ws).map rT))] [] m3 (nx+10) (.d (.lst (((sortB ((ws.getD 0 []).map g) ((ws.getD 1 []).map g) ((ws.getD 2 []).map g)).map (mR (phi le g))).map rT))) m3 (nx+10):=by
  obtain ⟨s1,s2,-⟩:=sortT_m up ok
  rw [sort_rows L hg,<- s1]
  exact c_sortedT rfl trivial (show 2<=3 by decide) (show 3 < 64 by decide) (by kernel_rfl) s2
 have th:=W.three g
 have rok:=fun {e:ArB}=>rest_ok (ws:=ws) (e:=e) L hg
 have lo:=fun {s:List ArB}=>least_ok (s:=s) W.n (W.wds g) (text_flip ws hg)
 rw [th] at rok lo
 generalize (ws.getD 0 []).map g=a at *
 generalize (ws.getD 1 []).map g=b at *
 generalize (ws.getD 2 []).map g=c at *
 obtain ⟨s,i,Ls,H⟩:=walk_out ok
 have hH:=halt_m (up_inj up) (sortB a b c) 12 _ 0 _ H.run
 rw [<- init_m (up_inj up)] at hH
 have RS:∀ e ∈ s.map (mA (phi le g)),RestOk (ws.map wordS) le e:=fun e he=>by
  obtain ⟨x,hx,rfl⟩:=List.mem_map.mp he
  exact rok (List.all_eq_true.mp H.ent x hx)
 have AO:AOk (s.map (mA (phi le g))):=fun e he=>(RS e he).rk
 have hk:=H.keys (φ:=phi le g)
 have hr:=H.empty AO (up_inj up)
 have hlo:=lo H.cl H.fin H.ent
 have hle:=end_le H.fin
 have hln:=lens_m (φ:=phi le g) H.ent H.srt
 have zs:(s.map (mA (phi le g))).length<=12:=by rw [List.length_map]; exact H.z2
 have zl:(Ls.map fun l=>l.map (phi le g)).length<=12:=by rw [List.length_map]; exact H.z1
 generalize s.map (mA (phi le g))=s' at *
 generalize (Ls.map fun l=>l.map (phi le g))=Ls' at *
 generalize (sortB a b c).map (mR (phi le g))=rows at *
 have e9:=hd_make (prog:=prog) (w:=w) (k:=k+5) (m:=m3) (nx:=nx+10)
 obtain ⟨G2,v4,o4⟩:=law_good2 X3
 generalize mkHd w m3 (nx+10)=m4 at e9 G2 v4 o4
 have out:∀ i,i < nx->i ∉ (lwX2 nx).all:=fun i hi=>by rw [lwX2_all]; exact fun z=>absurd (off_mem (b:=0) z).1 (Nat.not_le_of_lt hi)
 have e10:=walk_tr (prog:=prog) (w:=w) (k:=k+2) (L:=4) G2 RO (Nat.lt_of_lt_of_le h3 (Nat.le_add_right _ _)) (out j3 h3) ((o4 j3 h3).trans ((v3 j3 h3).trans t3)) hc3 hH (Nat.le_trans zl (by decide))
 rw [<- v4] at e10
 have H5:=G2.hd (L:=4) (cs:=[]) (push:=strDs (img s' i).2) (kvs:=imgS s')
 have v5:∀ j,j < nx->vw (lwX2 nx) m4 4 [] (strDs (img s' i).2) (imgS s') j=m j:=fun j hj=>(G2.vat (out j hj)).trans ((o4 j hj).trans (v3 j hj))
 generalize vw (lwX2 nx) m4 4 [] (strDs (img s' i).2) (imgS s')=m5 at e10 H5 v5
 have zi:(imgS s').length<=12:=by unfold imgS; rw [List.length_map]; exact zs
 have e11:=hd_keys (prog:=prog) (w:=w) (k:=k+6) H5 (Nat.le_trans zi (by decide))
 have e12:=true_tr (prog:=prog) (w:=w) (k:=k+5) W.wok L.two H5 RS (Nat.lt_of_le_of_lt zs (by decide)) hln
 have e13:=hd_getD (prog:=prog) (w:=w) (k:=k+5) H5 Str.empty "/" (Nat.zero_le _) (by rw [<- name_nil,name_lower]; exact name_prn []) fun kv hkv=>by
  obtain ⟨e,he,rfl⟩:=List.mem_map.mp hkv
  exact (restw_all (AO e he)).1
 have e14:=least_tr (prog:=prog) (w:=w) (k:=k+5) (m:=m5) (nx:=nx+13) (W:=ws.map wordS) (by rw [List.length_map]; exact W.n) W.short
 rw [hlo] at e14
 generalize (emptyB s).elim 0 (fun e=>e.2.1.length+e.2.2.length)=ls at *
 generalize (getF (imgS s') Str.empty).getD "/" = rd at *
 have h:=law_run (prog:=prog) (w:=w) (k:=k) rfl L.two L.all rfl W.n l9 names_tr e1 e2 es e3 e4 e5 e6 X3.i1 X3.i2 (strs_flat fun x hx=>(voc_fact (.inl hx)).prn) e7 e8 (rows_flat rows) e9 e10 (strs_flat fun x hx=>(List.mem_append.mp hx).elim (fun h=>by
  obtain ⟨r,-,rfl⟩:=List.mem_map.mp h
  exact name_prn r) fun h=>by rw [List.mem_singleton.mp h,<- name_nil]; exact name_prn []) (by rw [strDs_len,List.length_append,List.length_map,List.length_singleton]; omega) (by rw [strDs_len,List.length_map]; omega) H5.i1 H5.i2 e11.call hk e12 e13.call (by omega) e14 (by omega)
 exact (h.call).low (.same (Nat.le_add_right _ _) fun i hi=>v5 i hi) (.d _)
end
noncomputable def baseB (h:Heap) (tabs:List (Addr × Addr)):BM:=fun a=>(ghostOf h tabs).get? a
theorem vds_of_ints {B:BM} {vs:List Value} {ns:List Int} (h:IntsAre vs ns):VDs B (ns.map D.int) vs:=
 IntsAre.rec (motive:=fun vs ns _=>VDs B (ns.map D.int) vs) .nil (fun _ _ {_ _} _ r=>.cons (.int _ _) r) h
theorem bmain_of {p:Program} {loose:List Str} {mean:ExcName->Option Value} {mg mb:Str->Option Value} {h:Heap} (T:Top p loose mean mg mb h):BMain h:=
 let ⟨bm,ob,h1,h2,h3,h4,h5,h6⟩:=T.bmain; ⟨mg,bm,ob,T.g,h1,h2,h3,h4,h5,h6⟩
theorem sta_of {K:Frag} {btab:List (Str × Value)} {p:Program} {loose:List Str} {mean:ExcName->Option Value} {mg mb:Str->Option Value} {h:Heap} {tabs:List (Addr × Addr)} (hT:TabsAt tabs h) (T:Top p loose mean mg mb h) (KX:K.In h) (hK:noTabs K=true)
  (hb:∀ q ∈ btab,q.1 ≠ "__name__" /\ bootBuiltins q.1=some q.2):Sta K btab (baseB h tabs):=by
 have T2:=ghost_top hT T
 have K2:=ghost_K hT KX hK
 refine ⟨fun h' hk=>?_⟩
 have hk':∀ b o,(ghostOf h tabs).get? b=some o->h'.get? b=some o:=hk
 have T3:=T2.keeps hk'
 exact ⟨fun a o e=>hk' a o (K2 a o e),T3.nolimit,⟨mb,T3.b,fun q hq=>by rw [T3.builtins q.1 (hb q hq).1]; exact (hb q hq).2⟩,bmain_of T3⟩
noncomputable def wd0 (h:Heap) (tabs:List (Addr × Addr)):Wd:=⟨baseB h tabs,fun _=>none,fun n=>(tabs.getD n (0,0)).2⟩
noncomputable def tabM (tabs:List (Addr × Addr)):Nat->MO:=fun n=>.tab (tabs.getD n (0,0)).1
theorem tab_at {prog:Program} {w:World} {h:Heap} {tabs:List (Addr × Addr)} (hT:TabsAt tabs h) {n nx:Nat} (hn:n < tabs.length):MOat prog w (wd0 h tabs) nx (tabM tabs n) ((wd0 h tabs).ι n) h:=by
 have hm:tabs.getD n (0,0) ∈ tabs:=by rw [List.getD_eq_getElem?_getD,List.getElem?_eq_getElem hn]; simp
 have hg:=(hT _ hm).2
 obtain ⟨o,vs,file,tf,flags,tg,inF,text,tt,e1,e2,e3,e4,e5,e6,e7,e8,e9,e10⟩:=(hT _ hm).1
 have e1:(ghostOf h tabs).get? (tabs.getD n (0,0)).1=some o:=ghost_get hT e1 (fun q=>by rw [q] at e2; cases e2)
 exact ⟨#[],o,e1,⟨vs,file,tf,flags,tg,inF,text,tt,e2,e3,e4,e5,e6,e7,e8,e9⟩,e10,hg,trivial,fun pos c' q=>by cases q⟩
theorem sinv0 {prog:Program} {w:World} {K:Frag} {btab:List (Str × Value)} {h:Heap} {tabs:List (Addr × Addr)} (hT:TabsAt tabs h) (hS:Sta K btab (baseB h tabs)) (hnd:(tabs.map (·.2)).Nodup):SInv prog w K btab (wd0 h tabs) (tabM tabs) tabs.length h:=by
 have hget:∀ n,n < tabs.length->(wd0 h tabs).ι n=(tabs.map (·.2)).getD n 0:=fun n hn=>by
  show (tabs.getD n (0,0)).2=_
  rw [List.getD_eq_getElem?_getD,List.getD_eq_getElem?_getD,List.getElem?_map,List.getElem?_eq_getElem hn]
  rfl
 refine ⟨fun a o e=>of_hideAll _ e,fun a o e=>(by cases e),fun a o e=>(by cases e),fun n hn=>tab_at hT hn,fun n hn _=>?_,fun _ _ _=>rfl,fun n n' hn hn' _ _ e=>?_,hS⟩
 ·show (ghostOf h tabs).get? _=none
  rw [hget n hn]
  have hn2:n < (tabs.map (·.2)).length:=by rw [List.length_map]; exact hn
  refine hideAll_none _ ?_
  rw [List.getD_eq_getElem?_getD,List.getElem?_eq_getElem hn2]
  exact List.getElem_mem _
 ·rw [hget n hn,hget n' hn'] at e
  have hn2:n < (tabs.map (·.2)).length:=by rw [List.length_map]; exact hn
  have hn3:n' < (tabs.map (·.2)).length:=by rw [List.length_map]; exact hn'
  rw [List.getD_eq_getElem?_getD,List.getElem?_eq_getElem hn2,List.getD_eq_getElem?_getD,List.getElem?_eq_getElem hn3] at e
  exact (List.getElem_inj hnd).mp e
theorem keep_tab {prog:Program} {w:World} {K:Frag} {btab:List (Str × Value)} {h h':Heap} {tabs:List (Addr × Addr)} (hT:TabsAt tabs h) {W':Wd} (hl:Wd.le tabs.length (wd0 h tabs) W') (S:SInv prog w K btab W' (tabM tabs) tabs.length h') :
  OldK h h':=by
 have key:∀ b o,b ∉ tabs.map (·.2)->h.get? b=some o->h'.get? b=some o:=fun b o hb e=>S.base b o (hl.B b o (ghost_ne e hb))
 have grown:∀ b o,b ∈ tabs.map (·.2)->h.get? b=some o->isCodeTable h b /\ o=tabObj #[] /\ ∃ ps,h'.get? b=some (tabObj ps):=fun b o hb e=>by
  obtain ⟨q,hq,rfl⟩:=List.mem_map.mp hb
  obtain ⟨n,hn,hqe⟩:=List.getElem_of_mem hq
  have e2:=(hT q hq).2
  rw [e] at e2
  obtain ⟨ps,oc,-,-,-,hP,-⟩:=S.obj n hn
  rw [hl.ι n hn] at hP
  have eq:(wd0 h tabs).ι n=q.2:=by
   show (tabs.getD n (0,0)).2=_
   rw [List.getD_eq_getElem?_getD,List.getElem?_eq_getElem hn,Option.getD_some,hqe]
  rw [eq] at hP
  exact ⟨((hT q hq).1.tab (hT q hq).2).isCodeTable,Option.some.inj e2,ps,hP⟩
 refine ⟨fun b o e=>?_,fun b o e=>?_⟩
 ·by_cases hb:b ∈ tabs.map (·.2)
  ·obtain ⟨ht,rfl,ps,hP⟩:=grown b o hb e
   exact .inr (.inl ⟨ht,rfl,#[],ps,rfl,by rw [Array.empty_append]; exact hP⟩)
  ·exact .inl (key b o hb e)
 ·by_cases hb:b ∈ tabs.map (·.2)
  ·obtain ⟨_,_,ps,hP⟩:=grown b o hb e
   exact ⟨_,hP⟩
  ·exact ⟨o,key b o hb e⟩
set_option tactic.hygienic true in
theorem well_list {P:Params} {h:Heap} {a:Addr} {ns:List Int} (hw:Well P h (.ref a) (ofPy (.list (ns.map PyData.int)))):∃ vs,h.get? a=some (lstObj vs 0) /\ IntsAre vs ns:=by
 have e:ofPy (.list (ns.map PyData.int))=.list (ns.map WData.int):=by
  simp only [ofPy]
  rw [ofPys_eq,List.map_map]
  rfl
 rw [e] at hw
 cases hw with
 | list ho hv=>
  refine ⟨_,ho,?_⟩
  clear ho e
  rename_i vs
  induction ns generalizing vs with
  | nil=>cases hv; exact .nil
  | cons x ns ih=>
   cases hv with
   | cons h1 h2=>
    cases h1
    exact .cons _ _ (ih h2)
theorem enter2 {prog:Program} {w:World} {s₁:Shared} {fv a:Addr} {p:Program} {loose:List Str} {mean:ExcName->Option Value} {mg mb:Str->Option Value} {ns:List Int} {Q E:Value->Shared->Prop}
  (KX:(Mine.kk.heap_1 w.params).In s₁.heap) (hT:TabsAt [(331,327),(324,322),(312,310)] s₁.heap) (T:Top p loose mean mg mb s₁.heap) (hmg:mg "law" = some (.ref fv)) (hlen:ns.length<=63) (hw:Well w.params s₁.heap (.ref a) (ofPy (.list (ns.map PyData.int))))
  (post:∀ h' tk,OldK s₁.heap h'->Q (.bool true) { s₁ with heap:=h',toks:=tk }):wpAny (model prog w) callerA (call (.ref fv) [.ref a]) Q E s₁:=by
 have KX':(KK w).In s₁.heap:=by unfold KK; exact KX
 have e:=mg_of KX' T.g (show nsIn (KK w) mainGlobals "law" = some (some (.ref (Internal.fa w "law"))) by kernel_rfl)
 rw [hmg] at e
 obtain rfl:fv=Internal.fa w "law" := by injection e with e; injection e
 have hS:Sta (KK w) bt (baseB s₁.heap [(331,327),(324,322),(312,310)]):=sta_of hT T KX' (by kernel_rfl) (by decide +kernel)
 have S0:=sinv0 (prog:=prog) (w:=w) hT hS (by decide)
 obtain ⟨vs,ho,hi⟩:=well_list hw
 have hoB:baseB s₁.heap [(331,327),(324,322),(312,310)] a=some (lstObj vs 0):=ghost_get hT ho (fun q=>by cases q)
 have L:=law_tr (prog:=prog) (w:=w) (k:=0) (m:=tabM [(331,327),(324,322),(312,310)]) (nx:=3) ns hlen 2 1 0 312 324 331 (by decide) (by decide) (by decide) rfl rfl rfl (by kernel_rfl) (by kernel_rfl) (by kernel_rfl)
 refine L (wd0 s₁.heap [(331,327),(324,322),(312,310)]) callerA s₁ _ Q E ⟨by decide +kernel,by decide +kernel,rfl⟩ S0 trivial ⟨.ref (Internal.fa w "law"),[.ref a],[],.k _,.cons (.d (.lst hoB (vds_of_ints hi))) .nil,.nil,rfl⟩ fun W' h' tk' v _ hl S r=>?_
 cases r with
 | d r=>
  cases r
  exact post h' tk' (keep_tab hT hl S)
end
end
end Mine.Internal
namespace Mine
set_option tactic.hygienic false
namespace all
theorem tw10034031380863371641:True:=⟨⟩
theorem tw10130366669087276332:True:=⟨⟩
theorem tw10156424416328317940:True:=⟨⟩
theorem tw10223631046379920419:True:=⟨⟩
theorem tw10252965763247687682:True:=⟨⟩
theorem tw10256089107560145595:True:=⟨⟩
theorem tw10277526245819850656:True:=⟨⟩
theorem tw10310309719397823679:True:=⟨⟩
theorem tw10312239555926195531:True:=⟨⟩
theorem tw10323370424266482742:True:=⟨⟩
theorem tw10389294372677164839:True:=⟨⟩
theorem tw10393596885623623503:True:=⟨⟩
theorem tw10407399669362838719:True:=⟨⟩
theorem tw10600613889749566790:True:=⟨⟩
theorem tw10636018739910865072:True:=⟨⟩
theorem tw10640303290150162726:True:=⟨⟩
theorem tw10649901628825759099:True:=⟨⟩
theorem tw10658958392246782621:True:=⟨⟩
theorem tw10681620039792923934:True:=⟨⟩
theorem tw10705108097460422218:True:=⟨⟩
theorem tw1075291646940621582:True:=⟨⟩
theorem tw10773934983489079739:True:=⟨⟩
theorem tw10793401674749092046:True:=⟨⟩
theorem tw1081408078033650336:True:=⟨⟩
theorem tw10856765595117590405:True:=⟨⟩
theorem tw1088589479996732829:True:=⟨⟩
theorem tw10915074446201010522:True:=⟨⟩
theorem tw10923070005692675132:True:=⟨⟩
theorem tw10942295900298899174:True:=⟨⟩
theorem tw11045270430615452010:True:=⟨⟩
theorem tw11051709101105081487:True:=⟨⟩
theorem tw11084693905056812178:True:=⟨⟩
theorem tw11091474679367250208:True:=⟨⟩
theorem tw11093295523969242068:True:=⟨⟩
theorem tw11102767992079720913:True:=⟨⟩
theorem tw11116879363250112325:True:=⟨⟩
theorem tw11120492362615346026:True:=⟨⟩
theorem tw11126921216693431148:True:=⟨⟩
theorem tw11139934685464864865:True:=⟨⟩
theorem tw11157473214024333158:True:=⟨⟩
theorem tw11158953913317867288:True:=⟨⟩
theorem tw11169558830825096451:True:=⟨⟩
theorem tw11230645906715702508:True:=⟨⟩
theorem tw11273133048781285286:True:=⟨⟩
theorem tw11298796024306172991:True:=⟨⟩
theorem tw11375281295658956675:True:=⟨⟩
theorem tw11441816438227186863:True:=⟨⟩
theorem tw11446199593928302625:True:=⟨⟩
theorem tw11488495728068971930:True:=⟨⟩
theorem tw11533779600810293282:True:=⟨⟩
theorem tw11536802082511945804:True:=⟨⟩
theorem tw11536899603342547138:True:=⟨⟩
theorem tw11701158076408460315:True:=⟨⟩
theorem tw1172340538976468734:True:=⟨⟩
theorem tw11726109417428849017:True:=⟨⟩
theorem tw11736780227944870738:True:=⟨⟩
theorem tw11757652711159077200:True:=⟨⟩
theorem tw11784725038316003381:True:=⟨⟩
theorem tw11798761498685784450:True:=⟨⟩
theorem tw11904431243951574334:True:=⟨⟩
theorem tw11931918283646908614:True:=⟨⟩
theorem tw11951307492845570281:True:=⟨⟩
theorem tw11961059351148515626:True:=⟨⟩
theorem tw11990357761064164650:True:=⟨⟩
theorem tw1216898108829112853:True:=⟨⟩
theorem tw12180536567876656950:True:=⟨⟩
theorem tw12221947951091446842:True:=⟨⟩
theorem tw12254430714555821875:True:=⟨⟩
theorem tw12405882331826627501:True:=⟨⟩
theorem tw12428716410969305734:True:=⟨⟩
theorem tw12447178028490564450:True:=⟨⟩
theorem tw125183967897747985:True:=⟨⟩
theorem tw12540455083557110006:True:=⟨⟩
theorem tw12563031120210811263:True:=⟨⟩
theorem tw12580110897883145167:True:=⟨⟩
theorem tw12784588452913835247:True:=⟨⟩
theorem tw12803817524326497440:True:=⟨⟩
theorem tw12819504698909858696:True:=⟨⟩
theorem tw12885334096101347146:True:=⟨⟩
theorem tw12899656968702213925:True:=⟨⟩
theorem tw1291087626157917732:True:=⟨⟩
theorem tw12964963265622052469:True:=⟨⟩
theorem tw12985212532813657682:True:=⟨⟩
theorem tw1298631472846954095:True:=⟨⟩
theorem tw13027540482245733427:True:=⟨⟩
theorem tw13057232943065969744:True:=⟨⟩
theorem tw13098716769926991806:True:=⟨⟩
theorem tw13100642850353945058:True:=⟨⟩
theorem tw13113687655016186724:True:=⟨⟩
theorem tw13132907815185506690:True:=⟨⟩
theorem tw13172091369480311280:True:=⟨⟩
theorem tw13172097402568735304:True:=⟨⟩
theorem tw13183271106886683118:True:=⟨⟩
theorem tw13185015893256467352:True:=⟨⟩
theorem tw1323426155142419162:True:=⟨⟩
theorem tw1327343985113690801:True:=⟨⟩
theorem tw13283931332471535325:True:=⟨⟩
theorem tw13358604424828501309:True:=⟨⟩
theorem tw13367035746231606869:True:=⟨⟩
theorem tw13370487131934946175:True:=⟨⟩
theorem tw13423135486485445016:True:=⟨⟩
theorem tw13492395982464255480:True:=⟨⟩
theorem tw13492775673106092688:True:=⟨⟩
theorem tw1352723322627576488:True:=⟨⟩
theorem tw13752750167953387420:True:=⟨⟩
theorem tw1381922829905854484:True:=⟨⟩
theorem tw13900070722340429276:True:=⟨⟩
theorem tw13928513891281363954:True:=⟨⟩
theorem tw13960862262899742394:True:=⟨⟩
theorem tw14003663102062188800:True:=⟨⟩
theorem tw14044709251442629906:True:=⟨⟩
theorem tw14081932915414352519:True:=⟨⟩
theorem tw14099800850047386279:True:=⟨⟩
theorem tw14124840197023413450:True:=⟨⟩
theorem tw14204109254541194217:True:=⟨⟩
theorem tw14229981574245695772:True:=⟨⟩
theorem tw14288127532215574351:True:=⟨⟩
theorem tw14331890051309236264:True:=⟨⟩
theorem tw14420213329864412023:True:=⟨⟩
theorem tw14421808642430287336:True:=⟨⟩
theorem tw14444207656584330654:True:=⟨⟩
theorem tw14449686486529068670:True:=⟨⟩
theorem tw1446736226897199258:True:=⟨⟩
theorem tw14523845485542788104:True:=⟨⟩
theorem tw14539000326390715668:True:=⟨⟩
theorem tw14647661154017913664:True:=⟨⟩
theorem tw14737169218283336635:True:=⟨⟩
theorem tw14822214895437561417:True:=⟨⟩
theorem tw14832718209330476552:True:=⟨⟩
theorem tw14839960761635216755:True:=⟨⟩
theorem tw14848961488311411958:True:=⟨⟩
theorem tw14849280956162755979:True:=⟨⟩
theorem tw14883968960377749705:True:=⟨⟩
theorem tw14929683446248860828:True:=⟨⟩
theorem tw14953325984322379511:True:=⟨⟩
theorem tw14970210157437980911:True:=⟨⟩
theorem tw14984247238865676675:True:=⟨⟩
theorem tw15059917014629022394:True:=⟨⟩
theorem tw15076152544538823220:True:=⟨⟩
theorem tw15081044799308232511:True:=⟨⟩
theorem tw15097909243742831393:True:=⟨⟩
theorem tw15105651507014581045:True:=⟨⟩
theorem tw15145278206449419223:True:=⟨⟩
theorem tw15151187641303801864:True:=⟨⟩
theorem tw15158558636265767147:True:=⟨⟩
theorem tw15198316981687975854:True:=⟨⟩
theorem tw15248031165874397040:True:=⟨⟩
theorem tw15284455985751111415:True:=⟨⟩
theorem tw15298119835317213847:True:=⟨⟩
theorem tw15305453227285626446:True:=⟨⟩
theorem tw15363977820855282535:True:=⟨⟩
theorem tw15393178847056368160:True:=⟨⟩
theorem tw15451204947285891726:True:=⟨⟩
theorem tw15519761934197397234:True:=⟨⟩
theorem tw15541118713287057729:True:=⟨⟩
theorem tw15569042446788669505:True:=⟨⟩
theorem tw15575253945988166476:True:=⟨⟩
theorem tw15618092478124507917:True:=⟨⟩
theorem tw15651733941924773997:True:=⟨⟩
theorem tw15670805634923389295:True:=⟨⟩
theorem tw15671812041987572844:True:=⟨⟩
theorem tw15766547542915688834:True:=⟨⟩
theorem tw15778654729900951400:True:=⟨⟩
theorem tw15849158762323818722:True:=⟨⟩
theorem tw1585303152785439333:True:=⟨⟩
theorem tw15888951733556516598:True:=⟨⟩
theorem tw15902913901339227234:True:=⟨⟩
theorem tw15906678047913336000:True:=⟨⟩
theorem tw15926794790568321017:True:=⟨⟩
theorem tw15968848678202421516:True:=⟨⟩
theorem tw1604050991321148793:True:=⟨⟩
theorem tw16084742875079473383:True:=⟨⟩
theorem tw16133948047621740907:True:=⟨⟩
theorem tw16136937179128050694:True:=⟨⟩
theorem tw16183010546200382306:True:=⟨⟩
theorem tw16288533217561068507:True:=⟨⟩
theorem tw16296590348105434372:True:=⟨⟩
theorem tw16339503202031470875:True:=⟨⟩
theorem tw1639981616727947583:True:=⟨⟩
theorem tw16424727738075169484:True:=⟨⟩
theorem tw1644255569911684797:True:=⟨⟩
theorem tw16444899576201249432:True:=⟨⟩
theorem tw16447172759540358135:True:=⟨⟩
theorem tw16573077582942348641:True:=⟨⟩
theorem tw16576222957257545530:True:=⟨⟩
theorem tw16592893570014863828:True:=⟨⟩
theorem tw16644902639655322133:True:=⟨⟩
theorem tw16665526110328478529:True:=⟨⟩
theorem tw16727532447511142511:True:=⟨⟩
theorem tw16739083755425606968:True:=⟨⟩
theorem tw16739844878667351699:True:=⟨⟩
theorem tw16740921855470316824:True:=⟨⟩
theorem tw16747629065405408630:True:=⟨⟩
theorem tw16773635481313006432:True:=⟨⟩
theorem tw16838893715234930207:True:=⟨⟩
theorem tw16876236935048986776:True:=⟨⟩
theorem tw16949009020806574942:True:=⟨⟩
theorem tw16985871876413990642:True:=⟨⟩
theorem tw1707868938717072806:True:=⟨⟩
theorem tw17103938086974590038:True:=⟨⟩
theorem tw17106608494224303150:True:=⟨⟩
theorem tw17112464921883037887:True:=⟨⟩
theorem tw1717485560449817402:True:=⟨⟩
theorem tw17176909633825939892:True:=⟨⟩
theorem tw17260577670642009320:True:=⟨⟩
theorem tw17292822351017121783:True:=⟨⟩
theorem tw17314943208353570444:True:=⟨⟩
theorem tw1734884918528286522:True:=⟨⟩
theorem tw17360653242477243975:True:=⟨⟩
theorem tw17368901067910498557:True:=⟨⟩
theorem tw17394647144938102915:True:=⟨⟩
theorem tw17447734377096445370:True:=⟨⟩
theorem tw17468886310826310451:True:=⟨⟩
theorem tw17469454598705902373:True:=⟨⟩
theorem tw17485024515217194642:True:=⟨⟩
theorem tw17523770736405063376:True:=⟨⟩
theorem tw1758426702102747128:True:=⟨⟩
theorem tw17590515576409907731:True:=⟨⟩
theorem tw1768962640154500726:True:=⟨⟩
theorem tw17740860788197283744:True:=⟨⟩
theorem tw17759657175448091099:True:=⟨⟩
theorem tw17800948086707717751:True:=⟨⟩
theorem tw1784020717894109736:True:=⟨⟩
theorem tw17899929404969355535:True:=⟨⟩
theorem tw17933553581876595578:True:=⟨⟩
theorem tw18003279642469066050:True:=⟨⟩
theorem tw18068929663759586442:True:=⟨⟩
theorem tw18118164260907729349:True:=⟨⟩
theorem tw18120535436291149196:True:=⟨⟩
theorem tw1832691508475867565:True:=⟨⟩
theorem tw18369841484834026144:True:=⟨⟩
theorem tw18433079168191953831:True:=⟨⟩
theorem tw18433669859833586122:True:=⟨⟩
theorem tw18440353960458814819:True:=⟨⟩
theorem tw18441473437031201941:True:=⟨⟩
theorem tw1973140245219671491:True:=⟨⟩
theorem tw1985402699469526011:True:=⟨⟩
theorem tw2000609977361463965:True:=⟨⟩
theorem tw200202858802481044:True:=⟨⟩
theorem tw200952908838891698:True:=⟨⟩
theorem tw2013830700403712203:True:=⟨⟩
theorem tw201708328148552895:True:=⟨⟩
theorem tw2020152571437148077:True:=⟨⟩
theorem tw2054712967208431000:True:=⟨⟩
theorem tw2133960334242390853:True:=⟨⟩
theorem tw2199258339994215634:True:=⟨⟩
theorem tw2209655715362694461:True:=⟨⟩
theorem tw2214204584654661008:True:=⟨⟩
theorem tw2235618017368140517:True:=⟨⟩
theorem tw225468126006155290:True:=⟨⟩
theorem tw2286941943676669977:True:=⟨⟩
theorem tw232827808551559825:True:=⟨⟩
theorem tw2362829445674453831:True:=⟨⟩
theorem tw2363023067936851601:True:=⟨⟩
theorem tw2366535826993118143:True:=⟨⟩
theorem tw2406872565856053176:True:=⟨⟩
theorem tw2412950195513398651:True:=⟨⟩
theorem tw247909236438806434:True:=⟨⟩
theorem tw2479237469882504799:True:=⟨⟩
theorem tw2496985677507960046:True:=⟨⟩
theorem tw2531900633515307401:True:=⟨⟩
theorem tw2543849888741498996:True:=⟨⟩
theorem tw2613816272192447989:True:=⟨⟩
theorem tw2615928304278186767:True:=⟨⟩
theorem tw2627396739876165418:True:=⟨⟩
theorem tw2690882624139800689:True:=⟨⟩
theorem tw2711446468545577505:True:=⟨⟩
theorem tw2750322548573693319:True:=⟨⟩
theorem tw281770217567036725:True:=⟨⟩
theorem tw2842816785644039571:True:=⟨⟩
theorem tw2863937026978368667:True:=⟨⟩
theorem tw2891402810631288588:True:=⟨⟩
theorem tw2972125363121769464:True:=⟨⟩
theorem tw2997595627926355555:True:=⟨⟩
theorem tw29985565223642888:True:=⟨⟩
theorem tw3020832510069240704:True:=⟨⟩
theorem tw306535358961565008:True:=⟨⟩
theorem tw3138800457800853586:True:=⟨⟩
theorem tw3140866203998610647:True:=⟨⟩
theorem tw3153289441736887298:True:=⟨⟩
theorem tw3165661143165402847:True:=⟨⟩
theorem tw3185962312253278316:True:=⟨⟩
theorem tw3239841934065285509:True:=⟨⟩
theorem tw3282140407130366615:True:=⟨⟩
theorem tw3298683737301795645:True:=⟨⟩
theorem tw3318677167507295741:True:=⟨⟩
theorem tw3339628229899013760:True:=⟨⟩
theorem tw3448833343719912132:True:=⟨⟩
theorem tw3468823194966119755:True:=⟨⟩
theorem tw3477183460249832127:True:=⟨⟩
theorem tw3527972740633252992:True:=⟨⟩
theorem tw3578222212851893600:True:=⟨⟩
theorem tw3586251380002802234:True:=⟨⟩
theorem tw3716454625432592329:True:=⟨⟩
theorem tw3737605839529819480:True:=⟨⟩
theorem tw3767518503533802614:True:=⟨⟩
theorem tw3788544764152331944:True:=⟨⟩
theorem tw3804168243799541492:True:=⟨⟩
theorem tw3832104259330054055:True:=⟨⟩
theorem tw3835962111665225711:True:=⟨⟩
theorem tw3855190133869164905:True:=⟨⟩
theorem tw3949192924188805160:True:=⟨⟩
theorem tw397829171339713761:True:=⟨⟩
theorem tw3980556241973174003:True:=⟨⟩
theorem tw4049413732980777947:True:=⟨⟩
theorem tw4154878040674242839:True:=⟨⟩
theorem tw4198835854440487071:True:=⟨⟩
theorem tw4215066571649420964:True:=⟨⟩
theorem tw4241227540667249002:True:=⟨⟩
theorem tw4244794441018138637:True:=⟨⟩
theorem tw4258606087713283508:True:=⟨⟩
theorem tw4302931102428780990:True:=⟨⟩
theorem tw4338314545742005754:True:=⟨⟩
theorem tw4350801690150286559:True:=⟨⟩
theorem tw4382491568596388571:True:=⟨⟩
theorem tw4498182102138418894:True:=⟨⟩
theorem tw4515135292898193881:True:=⟨⟩
theorem tw4544264296663088324:True:=⟨⟩
theorem tw4547723090059260100:True:=⟨⟩
theorem tw4561188658046838414:True:=⟨⟩
theorem tw4613487602407358717:True:=⟨⟩
theorem tw4618620380050820059:True:=⟨⟩
theorem tw4631590275013254457:True:=⟨⟩
theorem tw4634341240264483431:True:=⟨⟩
theorem tw4645612490112672357:True:=⟨⟩
theorem tw4722931859811370693:True:=⟨⟩
theorem tw4786962568827011835:True:=⟨⟩
theorem tw4814944892674192296:True:=⟨⟩
theorem tw4818641064637329869:True:=⟨⟩
theorem tw4831860214510110302:True:=⟨⟩
theorem tw4835796080096327916:True:=⟨⟩
theorem tw4847766330237268548:True:=⟨⟩
theorem tw4874642235004048027:True:=⟨⟩
theorem tw4899250830898163692:True:=⟨⟩
theorem tw4927947371108770993:True:=⟨⟩
theorem tw4942582282674782268:True:=⟨⟩
theorem tw4965207536615798822:True:=⟨⟩
theorem tw497388943360791162:True:=⟨⟩
theorem tw5002070824922625533:True:=⟨⟩
theorem tw5044639097624668846:True:=⟨⟩
theorem tw5103420120806187630:True:=⟨⟩
theorem tw5103548895888603802:True:=⟨⟩
theorem tw5187159431361770467:True:=⟨⟩
theorem tw5191467471856622273:True:=⟨⟩
theorem tw5213130599944360801:True:=⟨⟩
theorem tw5217560924200664910:True:=⟨⟩
theorem tw5221675337516389627:True:=⟨⟩
theorem tw5247617807198155932:True:=⟨⟩
theorem tw525001674005675781:True:=⟨⟩
theorem tw5377772837010204750:True:=⟨⟩
theorem tw5439016543574858206:True:=⟨⟩
theorem tw5463181917568680212:True:=⟨⟩
theorem tw549974085012918235:True:=⟨⟩
theorem tw5543487718492105064:True:=⟨⟩
theorem tw5555718599999811639:True:=⟨⟩
theorem tw5615934883764171431:True:=⟨⟩
theorem tw5646013916729498261:True:=⟨⟩
theorem tw5675193095830314289:True:=⟨⟩
theorem tw5689438673786977140:True:=⟨⟩
theorem tw5718967094426423161:True:=⟨⟩
theorem tw5727973534668710794:True:=⟨⟩
theorem tw5750698986362780913:True:=⟨⟩
theorem tw5761313309558253367:True:=⟨⟩
theorem tw5781126440621211168:True:=⟨⟩
theorem tw5789746230135808568:True:=⟨⟩
theorem tw5815207240830897808:True:=⟨⟩
theorem tw5854907428364158380:True:=⟨⟩
theorem tw5870148494974776200:True:=⟨⟩
theorem tw5888963250497168203:True:=⟨⟩
theorem tw5919330448614353153:True:=⟨⟩
theorem tw5927061715728957476:True:=⟨⟩
theorem tw5931688323066260514:True:=⟨⟩
theorem tw596421839371371174:True:=⟨⟩
theorem tw6169999212503205497:True:=⟨⟩
theorem tw6176105912117767087:True:=⟨⟩
theorem tw6189357195160471388:True:=⟨⟩
theorem tw6223034424235540279:True:=⟨⟩
theorem tw6271033356711949733:True:=⟨⟩
theorem tw636524550079685631:True:=⟨⟩
theorem tw6393532188824929214:True:=⟨⟩
theorem tw6405578165278201989:True:=⟨⟩
theorem tw6516363680345034613:True:=⟨⟩
theorem tw6575127235232548739:True:=⟨⟩
theorem tw6648324312943424196:True:=⟨⟩
theorem tw6656463916972431421:True:=⟨⟩
theorem tw6674347012523051200:True:=⟨⟩
theorem tw6711744152082848884:True:=⟨⟩
theorem tw6717767316833874322:True:=⟨⟩
theorem tw6742200501135914891:True:=⟨⟩
theorem tw6836359950869179439:True:=⟨⟩
theorem tw6873541528101158377:True:=⟨⟩
theorem tw68815829978753266:True:=⟨⟩
theorem tw6946980451890315270:True:=⟨⟩
theorem tw7072849832022388479:True:=⟨⟩
theorem tw7091565871241343341:True:=⟨⟩
theorem tw7159026401054745538:True:=⟨⟩
theorem tw7193976414177721783:True:=⟨⟩
theorem tw7205895575636617080:True:=⟨⟩
theorem tw7238125184777875665:True:=⟨⟩
theorem tw7317653850160689691:True:=⟨⟩
theorem tw7347661181068853997:True:=⟨⟩
theorem tw7400686549319467544:True:=⟨⟩
theorem tw7411554746125377532:True:=⟨⟩
theorem tw7546461858588002845:True:=⟨⟩
theorem tw7654578318931278690:True:=⟨⟩
theorem tw7657994479303150727:True:=⟨⟩
theorem tw7660858615051961871:True:=⟨⟩
theorem tw766856551031688912:True:=⟨⟩
theorem tw7686242042924871683:True:=⟨⟩
theorem tw7785168158365692624:True:=⟨⟩
theorem tw7824222052329908659:True:=⟨⟩
theorem tw7855422573467142813:True:=⟨⟩
theorem tw7888970235439995493:True:=⟨⟩
theorem tw7899379758991183832:True:=⟨⟩
theorem tw7916160540357663616:True:=⟨⟩
theorem tw7918374967389245632:True:=⟨⟩
theorem tw795402444562892265:True:=⟨⟩
theorem tw7957553974722075628:True:=⟨⟩
theorem tw8013882960148741844:True:=⟨⟩
theorem tw8026366407565007962:True:=⟨⟩
theorem tw80721349811472939:True:=⟨⟩
theorem tw8076105961534405009:True:=⟨⟩
theorem tw8111057081096800836:True:=⟨⟩
theorem tw8146785798897364014:True:=⟨⟩
theorem tw8195077012802928886:True:=⟨⟩
theorem tw8203446524507428889:True:=⟨⟩
theorem tw8316665608867782698:True:=⟨⟩
theorem tw8322597137079436277:True:=⟨⟩
theorem tw8398887430952950212:True:=⟨⟩
theorem tw8401958774316805891:True:=⟨⟩
theorem tw8486076525276431931:True:=⟨⟩
theorem tw8486705261324164726:True:=⟨⟩
theorem tw8543756510809834644:True:=⟨⟩
theorem tw8593244855664925795:True:=⟨⟩
theorem tw8600759836979252552:True:=⟨⟩
theorem tw8670540905479144303:True:=⟨⟩
theorem tw8678582069086723682:True:=⟨⟩
theorem tw8728704332973717658:True:=⟨⟩
theorem tw8857914048673524507:True:=⟨⟩
theorem tw8865166961438382494:True:=⟨⟩
theorem tw888978351763286717:True:=⟨⟩
theorem tw8901488873923373992:True:=⟨⟩
theorem tw8908958038130373740:True:=⟨⟩
theorem tw8909644736058714228:True:=⟨⟩
theorem tw8968355716326206664:True:=⟨⟩
theorem tw8975396893899368581:True:=⟨⟩
theorem tw9022205114861038860:True:=⟨⟩
theorem tw9069304868558884969:True:=⟨⟩
theorem tw9090173269774583996:True:=⟨⟩
theorem tw9099960808112739735:True:=⟨⟩
theorem tw9111709882147129655:True:=⟨⟩
theorem tw9163178095015654352:True:=⟨⟩
theorem tw9241353231930656577:True:=⟨⟩
theorem tw927500100414286832:True:=⟨⟩
theorem tw9285670843845949155:True:=⟨⟩
theorem tw9305783451064888827:True:=⟨⟩
theorem tw9339720508954379125:True:=⟨⟩
theorem tw9351078540693612215:True:=⟨⟩
theorem tw9385597778382524922:True:=⟨⟩
theorem tw9448091282758670523:True:=⟨⟩
theorem tw9496632788025766839:True:=⟨⟩
theorem tw9514876090768664877:True:=⟨⟩
theorem tw9526568234960664165:True:=⟨⟩
theorem tw9592678889267232940:True:=⟨⟩
theorem tw9600454056292803967:True:=⟨⟩
theorem tw9642480246203547912:True:=⟨⟩
theorem tw9700507354520375304:True:=⟨⟩
theorem tw9743695723290020096:True:=⟨⟩
theorem tw9764797518255496921:True:=⟨⟩
theorem tw9833964599435250050:True:=⟨⟩
theorem tw9844501786611167853:True:=⟨⟩
theorem tw9900696922168193843:True:=⟨⟩
theorem tw9952970006915852218:True:=⟨⟩
theorem tw9976896545867408452:True:=⟨⟩
theorem tw9994288548533993539:True:=⟨⟩
end all
set_option Elab.async true in
theorem all : PySem.Challenge.rw_us0026_01.Holds := by
  w_on
  o_law
  k_head
  (case hw => w_witness2)
  k_fill
  intro w s₀ s₁ mg mb G Y fa o pm cd doc dV kV ho hd hcd hD hmg hg args vals as hpre hlay hrd hwl hlo
  have KX := km_in_of Y
  km_tabs Y
  refine Ground.open G ?_
  intro T B D TE TW
  km_lay T hmg ho hd cd
  clear ho hd hcd hD
  wrow_args hpre hlay hrd hwl hlo
  all_goals (
    refine Internal.enter2 (ns := ?zns) KX hT9 T hmg ?zl ?zw (fun h' tk hk => ?zp)
    case zw => assumption
    case zl => omega
    refine ⟨.inl ⟨.bool true, .bool true, [], rfl, fun _ => rfl, .bool _, by kernel_rfl, fun _ => ⟨List.nodup_nil, fun _ h => nomatch h⟩⟩, hk, rfl, .of_eq hg⟩)
end Mine
theorem PySem.Challenge.cw_us0026_01_holds : PySem.Challenge.rw_us0026_01.Holds :=
  Mine.all
