import PyProof.Rows.All
import Wide.All
import OpenK.AllK
import Wide.FinOn
import PyProof.Tail
import PyProof.DictCompW
import PyProof.TypeOfCall
import KE.KBoundM
import KE.KPop
import KE.KListMore
import KE.KLam
import KE.KDictIter
import KE.KDictSum
import KE.KEqDict
import KE.KFind
import KE.KIntText
import KE.KPar
import Lean
import PySem.Challenge.RW_us0026_02
open PySem PySem.W PyProof.Rows PySem.Calls
set_option Elab.async false
set_option maxRecDepth 100000
set_option maxHeartbeats 8000000
set_option linter.all false
set_option genSizeOf false
set_option compiler.extract_closed false
namespace Mine.Internal
theorem ft {P:Prop} (e:false=true):P:=nomatch e
theorem tf {P:Prop} (e:true=false):P:=nomatch e
theorem ns {α:Type _} {x:α} {P:Prop} (e:none=some x):P:=nomatch e
theorem sn {α:Type _} {x:α} {P:Prop} (e:some x=none):P:=nomatch e
theorem nc {α:Type _} {x:α} {l:List α} {P:Prop} (e:[]=x :: l):P:=nomatch e
theorem cn {α:Type _} {x:α} {l:List α} {P:Prop} (e:x :: l = []):P:=nomatch e
theorem so4 {α β γ δ:Type _} {a:α} {b:β} {c:γ} {d:δ} {M:(a':α)->(b':β)->(c':γ)->(d':δ)->some (a,b,c,d)=some (a',b',c',d')->Prop} (h:M a b c d rfl) {a':α} {b':β} {c':γ} {d':δ} (e:some (a,b,c,d)=some (a',b',c',d')):M a' b' c' d' e:=by
 cases e; exact h
theorem so4' {α β γ δ:Type _} {a:α} {b:β} {c:γ} {d:δ} {M:(a':α)->(b':β)->(c':γ)->(d':δ)->some (a',b',c',d')=some (a,b,c,d)->Prop} (h:M a b c d rfl) {a':α} {b':β} {c':γ} {d':δ} (e:some (a',b',c',d')=some (a,b,c,d)):M a' b' c' d' e:=by
 cases e; exact h
theorem so1 {α:Type _} {a:α} {M:(a':α)->some a=some a'->Prop} (h:M a rfl) {a':α} (e:some a=some a'):M a' e:=by
 cases e; exact h
theorem so1' {α:Type _} {a:α} {M:(a':α)->some a'=some a->Prop} (h:M a rfl) {a':α} (e:some a'=some a):M a' e:=by
 cases e; exact h
theorem sh1 {a b:Nat}:a+1+b=a+(b+1):=Nat.succ_add a b
theorem sh2 {a b:Nat}:a+(b+1)=a+1+b:=(Nat.succ_add a b).symm
theorem sh3 {a b c:Nat}:a+(b+1)+c=a+b+(c+1):=Nat.succ_add (a+b) c
theorem sh4 {a b c:Nat}:a+b+(c+1)=a+(b+1)+c:=(Nat.succ_add (a+b) c).symm
theorem up1 {a:Nat}:a < a+1+1:=Nat.lt_succ_of_lt (Nat.lt_succ_self a)
section
variable {a b c d e i j k p q r x:Nat}
theorem a1:a < a+1:=Nat.lt_add_one a
theorem a2:a<=a:=Nat.le_refl a
theorem a4:a<=a+1:=Nat.le_succ a
theorem a6:¬ a < a:=Nat.lt_irrefl a
theorem a7:a - b<=a:=Nat.sub_le a b
theorem a8:0+a=a:=Nat.zero_add a
theorem a9 {y:Int}:y+0=y:=Int.add_zero y
theorem b1:0<=(a:Int):=Int.natCast_nonneg a
theorem b3:a<=a+b:=Nat.le_add_right a b
theorem b4:a<=b+a:=Nat.le_add_left a b
theorem b2 {y:Int}:¬ y < y:=Int.lt_irrefl y
theorem w1 (h:a < b:=by assumption):a < b+1:=Nat.lt_succ_of_lt h
theorem w2 (h:a < b:=by assumption):a<=b:=Nat.le_of_lt h
theorem w3 (h:a < b:=by assumption):a ≠ b:=Nat.ne_of_lt h
theorem w5 (h:a < b:=by decide):c+a < c+b:=Nat.add_lt_add_left h c
theorem w6 (h:(a == b)=false:=by decide):c+a ≠ c+b:=fun e=>by rw [Nat.add_left_cancel e,beq_self_eq_true] at h; cases h
theorem w7 (h:a < b:=by assumption):a < b+c:=Nat.lt_of_lt_of_le h (Nat.le_add_right b c)
theorem w8 (h:a < b:=by assumption):a ≠ b+c:=Nat.ne_of_lt (w7 h)
theorem w9 (h:a<=b:=by assumption) (g:b<=c:=by decide):a<=c:=Nat.le_trans h g
theorem wa (h:a<=b:=by assumption) (g:b < c:=by decide):a < c:=Nat.lt_of_le_of_lt h g
theorem wb (h:a < b:=by assumption) (g:b<=c:=by decide):a < c:=Nat.lt_of_lt_of_le h g
theorem wd (h:a<=b:=by assumption) (g:b<=c:=by assumption):a<=c:=Nat.le_trans h g
theorem we (h:a<=b:=by assumption) (g:b < c:=by assumption):a < c:=Nat.lt_of_le_of_lt h g
theorem wf (h:a < b:=by assumption):(a:Int) < b:=Int.ofNat_lt.mpr h
theorem wg (h:a<=b:=by assumption):(a:Int)<=b:=Int.ofNat_le.mpr h
theorem wh (h:b<=a:=by assumption):¬ (a:Int) < b:=Int.not_lt.mpr (Int.ofNat_le.mpr h)
theorem wi (h:a=b:=by assumption):a<=b:=Nat.le_of_eq h
theorem wj (h:b=a:=by assumption):a<=b:=Nat.le_of_eq h.symm
theorem wk (h:¬ a<=b:=by assumption):b<=a:=Nat.le_of_lt (Nat.lt_of_not_le h)
theorem wl (h:¬ a < b:=by assumption):b<=a:=Nat.le_of_not_lt h
theorem wm (h:a < b+1:=by assumption) (g:¬ a=b:=by assumption):a < b:=Nat.lt_of_le_of_ne (Nat.le_of_lt_succ h) g
theorem wn (h:a<=b:=by assumption):a<=b+1:=Nat.le_succ_of_le h
theorem wo (h:a+1<=b:=by assumption):a<=b:=Nat.le_of_succ_le h
theorem wp (h:a < b:=by assumption):a+1<=b:=h
theorem wq (h:a<=b:=by assumption):¬ b < a:=Nat.not_lt_of_le h
theorem wr (h:0 < b:=by decide):a % b < b:=Nat.mod_lt a h
theorem ws:0+a<=a:=Nat.le_of_eq (Nat.zero_add a)
theorem wt (h:a+b+1<=c:=by assumption):a+1+b<=c:=Nat.succ_add a b ▸ h
theorem wu (h:a+1<=b:=by assumption):a < b:=h
theorem sm1 (h:a+b<=c:=by assumption) (k:c<=d:=by decide):a<=d:=Nat.le_trans (Nat.le_trans (Nat.le_add_right a b) h) k
theorem sm2 (h:a+b<=c:=by assumption) (k:c<=d:=by decide):b<=d:=Nat.le_trans (Nat.le_trans (Nat.le_add_left b a) h) k
theorem sm3 (h:a+b+1<=c:=by assumption) (k:c<=d:=by decide):a+1<=d:=sm1 (wt h) k
theorem sm4 (h:a+(b+1)<=c:=by assumption) (k:c<=d:=by decide):a < d:=sm3 h k
theorem eqa (e:a=b:=by assumption) (h:b<=c:=by assumption) (k:c<=d:=by decide):a<=d:=e ▸ Nat.le_trans h k
theorem eqb (e:a=b:=by assumption) (h:b < c:=by assumption) (k:c<=d:=by decide):a < d:=e ▸ Nat.lt_of_lt_of_le h k
theorem eqc (e:a=b:=by assumption) (h:b < c:=by assumption) (k:c<=d:=by decide):a<=d:=Nat.le_of_lt (eqb e h k)
theorem eqd (e:a=b:=by assumption) (h:i < b:=by assumption):i < a:=e ▸ h
theorem eqe (e:a=b:=by assumption) (h:b<=i:=by assumption):a<=i:=e ▸ h
theorem eqf (e:a=b:=by assumption) (h:i < a:=by assumption):i < b:=e ▸ h
theorem eqi (e:a=b:=by assumption) (h:b<=c:=by assumption) (k:c < d:=by decide):a < d:=e ▸ Nat.lt_of_le_of_lt h k
theorem rg1 (h:a<=x /\ x<=b:=by assumption) (k:c<=a:=by decide) (l:b<=d:=by decide):c<=x /\ x<=d:=⟨Nat.le_trans k h.1,Nat.le_trans h.2 l⟩
theorem rg2 (h:a<=x /\ x<=b:=by assumption) (k:c<=a:=by decide) (l:b < d:=by decide):c<=x /\ x < d:=⟨Nat.le_trans k h.1,Nat.lt_of_le_of_lt h.2 l⟩
theorem pp2 (e:r=p+(q+1):=by assumption):p < r:=e ▸ Nat.lt_of_lt_of_le (Nat.lt_succ_self p) (Nat.add_le_add_left (Nat.le_add_left 1 q) p)
theorem pp3 (e:r=p+(q+1):=by assumption):p<=r:=Nat.le_of_lt (pp2 e)
theorem pp1 (e:r=p+(q+1):=by assumption) (h:r<=c:=by assumption) (k:c<=d:=by decide):p<=d:=Nat.le_trans (Nat.le_trans (pp3 e) h) k
theorem ab1 (h:a<=c:=by assumption) (g:b<=d:=by assumption) (k:c+d<=e:=by decide):a+b<=e:=Nat.le_trans (Nat.add_le_add h g) k
theorem lc1 (h:a < b:=by assumption) (g:b<=c:=by assumption) (k:c<=d:=by decide):a < d:=Nat.lt_of_lt_of_le h (Nat.le_trans g k)
theorem lc2 (h:a<=b:=by assumption) (g:b<=c:=by assumption) (k:c<=d:=by decide):a<=d:=Nat.le_trans h (Nat.le_trans g k)
theorem in1 (h:¬ a=b:=by assumption):¬ (a:Int)=b:=fun e=>h (Int.ofNat.inj e)
theorem in2 (h:a=b:=by assumption):(a:Int)=b:=congrArg Int.ofNat h
theorem in3:¬ (a:Int) < 0:=Int.not_lt.mpr (Int.natCast_nonneg a)
theorem in5 {d:Int} (h:a < c:=by assumption) (k:(c:Int)<=d:=by decide):(a:Int) < d:=Int.lt_of_lt_of_le (Int.ofNat_lt.mpr h) k
theorem in6 (h:a < b:=by assumption):0<=(a:Int) /\ (a:Int) < b:=⟨Int.natCast_nonneg a,Int.ofNat_lt.mpr h⟩
theorem su1 (h:a<=x /\ x < a+b:=by assumption):x - a < b:=Nat.sub_lt_left_of_lt_add h.1 h.2
theorem su2 (h:a<=x:=by assumption) (g:x < a+b:=by assumption):x - a < b:=Nat.sub_lt_left_of_lt_add h g
theorem su3 (h:a<=b:=by assumption):a+(b - a)=b:=Nat.add_sub_of_le h
theorem su4 (h:a<=b:=by assumption):b - a+a=b:=Nat.sub_add_cancel h
theorem su5 (h:i < b - a:=by assumption):a+i < b:=Nat.add_lt_of_lt_sub' h
theorem mn1 (h:i < min a b:=by assumption):i < a:=Nat.lt_of_lt_of_le h (Nat.min_le_left a b)
theorem mn2 (h:i < min a b:=by assumption):i < b:=Nat.lt_of_lt_of_le h (Nat.min_le_right a b)
theorem nf1:a ≠ a+(j+1):=fun e=>absurd (Nat.add_left_cancel (Eq.trans (Nat.add_zero a) e)) (by simp)
theorem nf2:a+(j+1) ≠ a:=Ne.symm nf1
theorem nf3 (h:(i == j+k)=false:=by decide):a+i ≠ a+j+k:=fun e=>by
 have:=Nat.add_left_cancel (Nat.add_assoc a j k ▸ e)
 simp [this] at h
theorem jn2 (h:j < a:=by assumption):j ≠ a+i+k:=Nat.add_assoc a i k ▸ w8 h
end
@[elab_as_elim] theorem rwL {α:Sort _} {a b:α} {M:α->Prop} (h:a=b) (k:M b):M a:=h ▸ k
@[elab_as_elim] theorem rwR {α:Sort _} {a b:α} {M:α->Prop} (h:b=a) (k:M b):M a:=h ▸ k
end Mine.Internal
namespace Mine
section
set_option tactic.hygienic false
section
local macro_rules | `(tactic| o_head $_)=>`(tactic| skip)
theorem kk:True:=by
 refine Or.elim (Classical.em (PySem.Challenge.rw_us0026_02.row.Holds)) (fun h=>?_) (fun _=>trivial)
 have h2:PySem.Challenge.rw_us0026_02.row.Holds:=by
  k_head
  exact h
 trivial
end
end
end Mine
namespace Mine.Internal
section
set_option tactic.hygienic false
local macro_rules
 | `(tactic| omega)=>do
  let as <- ("b3 b4 a1 a2 a4 sh1 sh2 sh3 sh4 up1 w1 w2 w3 w5 w6 w7 w8 w9 wa wb wd we wf wg wh a6 a7 a8 a9 b1 b2 wi wj wk wl wm wn wo wp wq wr ws wt wu sm1 sm2 sm3 sm4 eqa eqb eqc eqd eqe eqf eqi rg1 rg2 pp2 pp3 pp1 ab1 lc1 lc2 in1 in2 in3 in5 in6 su1 su2 su3 su4 su5 mn1 mn2 nf1 nf2 nf3 jn2".splitOn " ").toArray.mapM fun n=>`(Lean.Parser.Tactic.tacticSeq| exact $(Lean.mkIdent (.str `Internal n)))
  `(tactic| first | with_reducible (first | assumption $[| $as]* | decide) | lia)
 | `(tactic| obtain $pat:rcasesPatMed:=$e:term)=>do
  if (((pat.raw.reprint.getD ""):String).toList.filter fun c=>c == ',').length < 2 then Lean.Macro.throwUnsupported
  `(tactic| (refine Classical.byContradiction fun hn=>?_; rcases $e:term with $pat:rcasesPatMed; all_goals (refine hn ?_; clear hn)))
 | `(tactic| cases $e:term)=>do
  if e.raw.getKind == ``Lean.Parser.Term.paren then Lean.Macro.throwUnsupported
  let k <- ("ft tf ns sn nc cn".splitOn " ").toArray.mapM fun n=>`(Lean.Parser.Tactic.tacticSeq| exact $(Lean.mkIdent (.str `Internal n)) $e)
  let s <- ("so4 so4' so1 so1'".splitOn " ").toArray.mapM fun n=>`(Lean.Parser.Tactic.tacticSeq| induction $e:term using $(Lean.mkIdent (.str `Internal n)):ident)
  `(tactic| first $[| $k]* $[| $s]* | subst $e:term | cases ($e))
 | `(tactic| rw [$rs,*])=>do
  let ts <- rs.getElems.mapM fun (r:Lean.TSyntax `Lean.Parser.Tactic.rwRule)=>do
   let (n,e) <- match r with
    | `(Lean.Parser.Tactic.rwRule| <- $e:term)=>pure ("rwR",e)
    | `(Lean.Parser.Tactic.rwRule| $e:term)=>pure ("rwL",e)
    | _=>Lean.Macro.throwUnsupported
   let i:=Lean.mkIdent (.str `Internal n)
   `(tactic| first | ((fail_if_success (fail_if_success rewrite [$r:rwRule])); first | refine $i $e ?_ | refine $i ($e _) ?_ | refine $i ($e _ _) ?_) | rewrite [$r:rwRule])
  `(tactic| ($[$ts];*; try (with_reducible rfl)))
set_option bootstrap.genMatcherCode false
section
inductive Ex2 {α0:Sort _} {α1:Sort _} (p:α0->α1->Prop):Prop
 | mk (x0:α0) (x1:α1) (h:p x0 x1):Ex2 p
inductive Ex3 {α0:Sort _} {α1:Sort _} {α2:Sort _} (p:α0->α1->α2->Prop):Prop
 | mk (x0:α0) (x1:α1) (x2:α2) (h:p x0 x1 x2):Ex3 p
inductive Ex4 {α0:Sort _} {α1:Sort _} {α2:Sort _} {α3:Sort _} (p:α0->α1->α2->α3->Prop):Prop
 | mk (x0:α0) (x1:α1) (x2:α2) (x3:α3) (h:p x0 x1 x2 x3):Ex4 p
inductive Ex5 {α0:Sort _} {α1:Sort _} {α2:Sort _} {α3:Sort _} {α4:Sort _} (p:α0->α1->α2->α3->α4->Prop):Prop
 | mk (x0:α0) (x1:α1) (x2:α2) (x3:α3) (x4:α4) (h:p x0 x1 x2 x3 x4):Ex5 p
inductive Ex6 {α0:Sort _} {α1:Sort _} {α2:Sort _} {α3:Sort _} {α4:Sort _} {α5:Sort _} (p:α0->α1->α2->α3->α4->α5->Prop):Prop
 | mk (x0:α0) (x1:α1) (x2:α2) (x3:α3) (x4:α4) (x5:α5) (h:p x0 x1 x2 x3 x4 x5):Ex6 p
inductive Ex8 {α0:Sort _} {α1:Sort _} {α2:Sort _} {α3:Sort _} {α4:Sort _} {α5:Sort _} {α6:Sort _} {α7:Sort _} (p:α0->α1->α2->α3->α4->α5->α6->α7->Prop):Prop
 | mk (x0:α0) (x1:α1) (x2:α2) (x3:α3) (x4:α4) (x5:α5) (x6:α6) (x7:α7) (h:p x0 x1 x2 x3 x4 x5 x6 x7):Ex8 p
inductive A3 (p0 p1 p2:Prop):Prop
 | mk (h0:p0) (h1:p1) (h2:p2):A3 p0 p1 p2
inductive A4 (p0 p1 p2 p3:Prop):Prop
 | mk (h0:p0) (h1:p1) (h2:p2) (h3:p3):A4 p0 p1 p2 p3
inductive A5 (p0 p1 p2 p3 p4:Prop):Prop
 | mk (h0:p0) (h1:p1) (h2:p2) (h3:p3) (h4:p4):A5 p0 p1 p2 p3 p4
inductive A6 (p0 p1 p2 p3 p4 p5:Prop):Prop
 | mk (h0:p0) (h1:p1) (h2:p2) (h3:p3) (h4:p4) (h5:p5):A6 p0 p1 p2 p3 p4 p5
inductive A7 (p0 p1 p2 p3 p4 p5 p6:Prop):Prop
 | mk (h0:p0) (h1:p1) (h2:p2) (h3:p3) (h4:p4) (h5:p5) (h6:p6):A7 p0 p1 p2 p3 p4 p5 p6
inductive A8 (p0 p1 p2 p3 p4 p5 p6 p7:Prop):Prop
 | mk (h0:p0) (h1:p1) (h2:p2) (h3:p3) (h4:p4) (h5:p5) (h6:p6) (h7:p7):A8 p0 p1 p2 p3 p4 p5 p6 p7
inductive A9 (p0 p1 p2 p3 p4 p5 p6 p7 p8:Prop):Prop
 | mk (h0:p0) (h1:p1) (h2:p2) (h3:p3) (h4:p4) (h5:p5) (h6:p6) (h7:p7) (h8:p8):A9 p0 p1 p2 p3 p4 p5 p6 p7 p8
inductive A10 (p0 p1 p2 p3 p4 p5 p6 p7 p8 p9:Prop):Prop
 | mk (h0:p0) (h1:p1) (h2:p2) (h3:p3) (h4:p4) (h5:p5) (h6:p6) (h7:p7) (h8:p8) (h9:p9):A10 p0 p1 p2 p3 p4 p5 p6 p7 p8 p9
inductive D where
 | none
 | bool (b:Bool)
 | int (i:Int)
 | str (s:Str)
 | tup (l:List D)
 | lst (l:List D)
 | rng (a b c:Int)
inductive AV where
 | d (x:D)
 | loc (n:Nat)
 | k (v:Value)
 | bm (f:Addr) (self:Nat)
 | fn (ps:Arguments) (e:PySem.Expr) (sc:Scope) (caps:List (Str × AV))
inductive MO where
 | list (l:List D)
 | dictS (l:List (Str × D))
 | dictI (l:List (Int × D))
 | inst (c:Addr) (ns:Nat)
 | ns (l:List (Str × AV))
 | citer (f:AV) (stop:Str)
 | cdone
 | any
 | tab (c:Addr)
 | junk
noncomputable abbrev BM:=Addr->Option Obj
noncomputable abbrev tupObj (vs:List Value) (n:Nat):Obj:={ cls:=.type "tuple",dict:=none,data:=.seq vs.toArray n,slots:=#[] }
noncomputable abbrev lstObj (vs:List Value) (n:Nat):Obj:={ cls:=.type "list",dict:=none,data:=.seq vs.toArray n,slots:=#[] }
mutual
inductive VD (B:BM):D->Value->Prop
 | none:VD B .none .none
 | bool (b:Bool):VD B (.bool b) (.bool b)
 | int (i:Int) (t:Tok):VD B (.int i) (.int i t)
 | str (s:Str) (t:Tok):VD B (.str s) (.str s t)
 | tup {a:Addr} {vs:List Value} {n:Nat} {ds:List D} (ho:B a=some (tupObj vs n)) (hv:VDs B ds vs):VD B (.tup ds) (.ref a)
 | lst {a:Addr} {vs:List Value} {n:Nat} {ds:List D} (ho:B a=some (lstObj vs n)) (hv:VDs B ds vs):VD B (.lst ds) (.ref a)
 | rng {r:Addr} {a b c:Int} {t u v:Tok} (ho:B r=some { cls:=.type "range",dict:=none,data:=.fields #[.int a t,.int b u,.int c v],slots:=#[] }):VD B (.rng a b c) (.ref r)
inductive VDs (B:BM):List D->List Value->Prop
 | nil:VDs B [] []
 | cons {x:D} {v:Value} {xs:List D} {vs:List Value} (h:VD B x v) (r:VDs B xs vs):VDs B (x :: xs) (v :: vs)
end
noncomputable def BM.le (B B':BM):Prop:=∀ a o,B a=some o->B' a=some o
theorem BM.le.refl (B:BM):B.le B:=fun _ _ e=>e
theorem BM.le.trans {B B' B'':BM} (x:B.le B') (y:B'.le B''):B.le B'':=fun a o e=>y a o (x a o e)
theorem VD.mono {B B':BM} (k:B.le B') {x:D} {v:Value} (h:VD B x v):VD B' x v:=
 VD.rec (motive_1:=fun x v _=>VD B' x v) (motive_2:=fun xs vs _=>VDs B' xs vs) .none .bool .int .str (fun ho _ ih=>.tup (k _ _ ho) ih) (fun ho _ ih=>.lst (k _ _ ho) ih) (fun ho=>.rng (k _ _ ho)) .nil (fun _ _ h r=>.cons h r) h
theorem VDs.ind {B:BM} (M:List D->List Value->Prop) (n:M [] []) (c:∀ {x v xs vs},VD B x v->VDs B xs vs->M xs vs->M (x :: xs) (v :: vs)) {xs:List D} {vs:List Value} (h:VDs B xs vs):M xs vs:=
 VDs.rec (motive_1:=fun _ _ _=>True) (motive_2:=fun xs vs _=>M xs vs) trivial (fun _=>trivial) (fun _ _=>trivial) (fun _ _=>trivial) (fun _ _ _=>trivial) (fun _ _ _=>trivial) (fun _=>trivial) n (fun h r _ ih=>c h r ih) h
theorem VDs.mono {B B':BM} (k:B.le B') {xs:List D} {vs:List Value} (h:VDs B xs vs):VDs B' xs vs:=
 VDs.ind (VDs B') .nil (fun h _ r=>.cons (h.mono k) r) h
theorem VDs.length {B:BM} {xs:List D} {vs:List Value} (h:VDs B xs vs):vs.length=xs.length:=
 VDs.ind (fun xs vs=>vs.length=xs.length) rfl (fun _ _ e=>congrArg Nat.succ e) h
theorem VDs.get {B:BM} {xs:List D} {vs:List Value} (h:VDs B xs vs):∀ {i:Nat} {x:D},xs[i]? = some x->∃ v,vs[i]? = some v /\ VD B x v:=
 VDs.ind (fun xs vs=>∀ {i:Nat} {x:D},xs[i]? = some x->∃ v,vs[i]? = some v /\ VD B x v) (fun e=>Internal.ns e) (fun {_ v _ _} h _ ih {i x}=>Nat.rec (fun e=>⟨v,rfl,Option.some.inj e ▸ h⟩) (fun _ _ e=>ih e) i) h
theorem VDs.append {B:BM} {xs ys:List D} {vs ws:List Value} (h:VDs B xs vs) (k:VDs B ys ws):VDs B (xs ++ ys) (vs ++ ws):=
 VDs.ind (fun xs vs=>VDs B (xs ++ ys) (vs ++ ws)) k (fun h _ r=>.cons h r) h
structure Wd where
 B:BM
 R:BM
 ι:Nat->Addr
class inductive VA (W:Wd) (nx:Nat):AV->Value->Prop
 | d {x:D} {v:Value} (h:VD W.B x v):VA W nx (.d x) v
 | loc {n:Nat} (h:n < nx):VA W nx (.loc n) (.ref (W.ι n))
 | k (v:Value):VA W nx (.k v) v
 | bm {f:Addr} {n:Nat} {a:Addr} (h:n < nx) (ho:W.B a=some (methodObj (.ref f) (.ref (W.ι n)))):VA W nx (.bm f n) (.ref a)
 | fn {ps:Arguments} {e:PySem.Expr} {sc:Scope} {caps:List (Str × AV)} {a:Addr} {o:Obj} {fd:FuncData} {cv:Str->Value} (ho:W.B a=some o) (hc:o.cls=.type "function") (hd:o.data=.func fd)
   (hp:fd.params=ps) (hb:fd.body=.expr e) (hs:fd.scope=sc) (h1:fd.defaults=.none) (h2:fd.kwdefaults=.none) (hg:fd.globals=mainGlobals) (hbu:fd.builtins=builtinsNs)
   (hcode:(Ex5 fun c oc vs q tq=>A4 (fd.code=.ref c) (W.B c=some oc) (oc.data=.fields vs) (vs[1]? = some (.str q tq))))
   (hcell:∀ p ∈ caps,(Ex2 fun c oc=>A3 (fd.closure.lookup p.1=some c) (W.B c=some oc) (oc.data=.cell (some (cv p.1)))))
   (hv:∀ p ∈ caps,VA W nx p.2 (cv p.1)):VA W nx (.fn ps e sc caps) (.ref a)
structure Wd.le (nx:Nat) (W W':Wd):Prop where
 B:W.B.le W'.B
 R:W'.R=W.R
 ι:∀ n,n < nx->W'.ι n=W.ι n
theorem Wd.le.refl (nx:Nat) (W:Wd):Wd.le nx W W:=⟨.refl _,rfl,fun _ _=>rfl⟩
theorem Wd.le.trans {nx nx':Nat} {W W' W'':Wd} (hn:nx<=nx') (x:Wd.le nx W W') (y:Wd.le nx' W' W''):Wd.le nx W W'':=
 ⟨x.B.trans y.B,y.R.trans x.R,fun n h=>(y.ι n (Nat.lt_of_lt_of_le h hn)).trans (x.ι n h)⟩
theorem VA.mono0 {nx nx':Nat} {W W':Wd} (hn:nx<=nx') (kB:W.B.le W'.B) (ki:∀ n,n < nx->W'.ι n=W.ι n) {a:AV} {v:Value} (h:VA W nx a v):VA W' nx' a v:=by
 induction h with
 | d h=>exact .d (h.mono kB)
 | loc h=>rw [<- ki _ h]; exact .loc (Nat.lt_of_lt_of_le h hn)
 | k v=>exact .k v
 | bm h ho=>exact .bm (Nat.lt_of_lt_of_le h hn) (by rw [ki _ h]; exact kB _ _ ho)
 | fn ho hc hd hp hb hs h1 h2 hg hbu hcode hcell hv ih=>
  obtain ⟨c,oc,vs,q,tq,e1,e2,e3,e4⟩:=hcode
  exact .fn (kB _ _ ho) hc hd hp hb hs h1 h2 hg hbu ⟨c,oc,vs,q,tq,e1,kB _ _ e2,e3,e4⟩ (fun p hp=>let ⟨c,oc,a1,a2,a3⟩:=hcell p hp; ⟨c,oc,a1,kB _ _ a2,a3⟩) ih
theorem VA.mono {nx nx':Nat} {W W':Wd} (hn:nx<=nx') (k:Wd.le nx W W') {a:AV} {v:Value} (h:VA W nx a v):VA W' nx' a v:=h.mono0 hn k.B k.ι
noncomputable def TabCode (oc:Obj) (a:Addr):Prop:=(Ex8 fun vs file tf flags tg inF text tt=>A8 (oc.cls=.type "code") (oc.data=.fields vs) (vs[11]? = some (.ref a)) (vs.getD 11 .none=.ref a) (vs.getD 18 .none=.str file tf) (vs.getD 7 .none=.int flags tg) (vs.getD 9 .none=.bool inF) (vs.getD 10 .none=.int text tt))
noncomputable def CodeVal (B:BM) (c':Value):Prop:=(Ex5 fun c oo vs q tq=>A4 (c'=.ref c) (B c=some oo) (oo.data=.fields vs) (vs[1]? = some (.str q tq)))
theorem CodeVal.mono {B B':BM} (k:B.le B') {c':Value} (h:CodeVal B c'):CodeVal B' c':=let ⟨c,oo,vs,q,tq,a,b,r1,r2⟩:=h; ⟨c,oo,vs,q,tq,a,k _ _ b,r1,r2⟩
section
variable (prog:Program) (w:World)
noncomputable def MOat (W:Wd) (nx:Nat):MO->Addr->Heap->Prop
 | .list l,a,h=>(Ex2 fun (vs:List Value) (n:Nat)=>h.get? a=some (lstObj vs n) /\ VDs W.B l vs)
 | .dictS l,a,h=>(∃ (kvs:List (Str × Value)),A4 (h.DictOf (PySem.strKind prog w) a kvs) (kvs.map (·.1)=l.map (·.1)) (VDs W.B (l.map (·.2)) (kvs.map (·.2))) ((a == sysModules)=false))
 | .dictI l,a,h=>(∃ (kvs:List (Int × Value)),A4 (h.DictOf (PySem.intKind prog w) a kvs) (kvs.map (·.1)=l.map (·.1)) (VDs W.B (l.map (·.2)) (kvs.map (·.2))) ((a == sysModules)=false))
 | .inst c n,a,h=>h.get? a=some (instObj c (W.ι n)) /\ n < nx
 | .ns l,a,h=>(∃ (m:Str->Option Value),A3 (((Ex3 fun o es ep=>A5 (h.get? a=some o) (o.data=.dict es ep) (StrKeys es) ((∀ name,nsFind es name=m name)) (es.size<=l.length)))) ((∀ x,l.lookup x=none->m x=none)) (∀ x av,l.lookup x=some av->∃ v,m x=some v /\ VA W nx av v))
 | .citer f stop,a,h=>(Ex3 fun o vf t=>A4 (h.get? a=some o) (o.cls=.type "callable_iterator") (o.data=.fields #[vf,.str stop t,.bool false]) (VA W nx f vf))
 | .cdone,a,h=>(∃ o,A3 (h.get? a=some o) (o.cls=.type "callable_iterator") (o.data=.fields #[.none,.none,.bool true]))
 | .any,a,h=>∃ o,h.get? a=some o
 | .tab c,a,h=>(Ex2 fun ps oc=>A6 (W.B c=some oc) (TabCode oc a) (c ≠ a) (h.get? a=some { cls:=.none,data:=.fields ps }) (TriplesOk ps.toList) (∀ pos c',codeAmong pos ps.toList=some c'->CodeVal W.B c'))
 | .junk,_,_=>True
end
end
section
noncomputable def BMain (h:Heap):Prop:=(Ex3 fun mg bm ob=>A7 (h.Ns mainGlobals mg) (mg "__builtins__" = some (.ref bm)) (bm ≠ builtinsNs) (h.get? bm=some ob) (ob.cls=.type "module") (ob.dict=some builtinsNs) (ob.data=.plain))
structure Sta (K:Frag) (btab:List (Str × Value)) (B:BM):Prop where
 all:∀ h:Heap,(∀ a o,B a=some o->h.get? a=some o)->K.In h /\ h.NoLimit /\ (∃ mb,h.Ns builtinsNs mb /\ ∀ p ∈ btab,mb p.1=some p.2) /\ BMain h
theorem Sta.mono {K:Frag} {btab:List (Str × Value)} {B B':BM} (x:Sta K btab B) (k:B.le B'):Sta K btab B':=⟨fun h e=>x.all h fun a o q=>e a o (k a o q)⟩
inductive Fl where
 | next | cont | brk
 | ret (a:AV)
structure St where
 vars:List (Str × AV)
 fz:List Str
 m:Nat->MO
 nx:Nat
structure Fm where
 sc:Scope
 caps:List (Str × AV)
 code:Option Addr:=none
 qual:Str:=Str.empty
section
variable (prog:Program) (w:World) (K:Frag) (btab:List (Str × Value))
structure SInv (W:Wd) (m:Nat->MO) (nx:Nat) (h:Heap):Prop where
 base:∀ a o,W.B a=some o->h.get? a=some o
 rest:∀ a o,W.R a=some o->h.get? a=some o
 apart:∀ a o,W.R a=some o->W.B a=none
 obj:∀ n,n < nx->MOat prog w W nx (m n) (W.ι n) h
 nb:∀ n,n < nx->m n ≠ .junk->W.B (W.ι n)=none
 nr:∀ n,n < nx->m n ≠ .junk->W.R (W.ι n)=none
 inj:∀ n n',n < nx->n' < nx->m n ≠ .junk->m n' ≠ .junk->W.ι n=W.ι n'->n=n'
 sta:Sta K btab W.B
structure OwnAt (W:Wd) (m:Nat->MO) (nx:Nat) (a:Addr):Prop where
 b:W.B a=none
 r:W.R a=none
 i:∀ n,n < nx->m n ≠ .junk->W.ι n ≠ a
structure CellA (W:Wd) (φ:Fm) (st:St) (x:Str) (c:Addr):Prop where
 fz:x ∈ st.fz
 v:∀ av,st.vars.lookup x=some av->(Ex2 fun o v=>A3 ((W.B c=some o \/ (φ.code=none /\ W.R c=some o))) (o.data=.cell (some v)) (VA W st.nx av v))
structure CellB (W:Wd) (φ:Fm) (env:Env) (st:St) (h:Heap) (x:Str) (c:Addr):Prop where
 nf:x ∉ st.fz
 own:OwnAt W st.m st.nx c
 ne:c ≠ env.locals
 ap:∀ y c',y ≠ x->φ.sc.names.lookup y=some .cell->env.cells.lookup y=some c'->c' ≠ c
 cv:∃ ov,h.IsCell c ov /\ ∀ av,st.vars.lookup x=some av->∃ v,ov=some v /\ VA W st.nx av v
structure FInv (W:Wd) (φ:Fm) (env:Env) (st:St) (h:Heap):Prop where
 scope:env.scope=φ.sc
 kind:φ.sc.kind=.function
 globals:env.globals=mainGlobals
 builtins:env.builtins=builtinsNs
 frame:env.frame.isSome=true
 code:∀ c,φ.code=some c->env.code=.ref c
 own:OwnAt W st.m st.nx env.locals
 locs:∃ m,h.Ns env.locals m /\ ∀ x av,φ.sc.names.lookup x=some .local->st.vars.lookup x=some av->∃ v,m x=some v /\ VA W st.nx av v
 cells:∀ x,φ.sc.names.lookup x=some .cell->∃ c,env.cells.lookup x=some c /\ (CellA W φ st x c \/ CellB W φ env st h x c)
 free:∀ x av,φ.sc.names.lookup x=some .free->φ.caps.lookup x=some av->(Ex3 fun c o v=>A4 (env.cells.lookup x=some c) ((W.B c=some o \/ W.R c=some o)) (o.data=.cell (some v)) (VA W st.nx av v))
structure AOK (k:Nat) (A:Around):Prop where
 depth:A.depth+10 * k+20 < recursionLimit
 units:A.units+60 * k+400 < cLine
 handled:A.handled=none
noncomputable def Tri {β:Type} (k:Nat) (φ:Fm) (C:Wd->Nat->Prop) (t:Env->Sem β) (st st':St) (P:Wd->β->Prop):Prop:=
 ∀ (W:Wd) (A:Around) (env:Env) (s:Shared) (Q:β->Shared->Prop) (E:Value->Shared->Prop),
  AOK k A->SInv prog w K btab W st.m st.nx s.heap->FInv W φ env st s.heap->C W st.nx ->
  (∀ W' h' tk' b,st.nx<=st'.nx->Wd.le st.nx W W'->SInv prog w K btab W' st'.m st'.nx h'->FInv W' φ env st' h'->P W' b->Q b { s with heap:=h',toks:=tk' }) ->
  wpAny (model prog w) A (t env) Q E s
end
inductive Ev where
 | br (b:Bool)
 | val (a:AV) (m:Nat->MO) (nx:Nat)
 | mo (x:MO)
 | fl (f:Fl) (st:St)
noncomputable def G (α:Type):=St->List Ev->Option (α × St × List Ev × List Prop)
noncomputable def G.ret {α:Type} (a:α):G α:=fun st sc=>some (a,st,sc,[])
noncomputable def G.fail {α:Type}:G α:=fun _ _=>none
noncomputable def G.bind {α β:Type} (m:G α) (f:α->G β):G β:=fun st sc=>match m st sc with
 | none=>none
 | some (a,st1,sc1,ob1)=>match f a st1 sc1 with
  | none=>none
  | some (b,st2,sc2,ob2)=>some (b,st2,sc2,ob1 ++ ob2)
noncomputable instance:Monad G where
 pure:=G.ret
 bind:=G.bind
noncomputable def Mono (C:Wd->Nat->Prop):Prop:=∀ W W' nx nx',nx<=nx'->Wd.le nx W W'->C W nx->C W' nx'
theorem Mono.and {C C':Wd->Nat->Prop} (x:Mono C) (y:Mono C'):Mono fun W nx=>C W nx /\ C' W nx:=fun W W' nx nx' a b c=>⟨x W W' nx nx' a b c.1,y W W' nx nx' a b c.2⟩
theorem Mono.va (a:AV) (v:Value):Mono fun W nx=>VA W nx a v:=fun _ _ _ _ hn hl h=>h.mono hn hl
section
variable (prog:Program) (w:World) (K:Frag) (btab:List (Str × Value))
noncomputable def Snd {α β:Type} (k:Nat) (φ:Fm) (C:Wd->Nat->Prop) (g:G α) (t:Env->Sem β) (R:α->β->Wd->Nat->Prop):Prop:=
 ∀ st sc a st' sc' ob,g st sc=some (a,st',sc',ob)->(∀ p ∈ ob,p)->Tri prog w K btab k φ C t st st' (fun W' b=>R a b W' st'.nx)
end
section
variable {prog:Program} {w:World} {K:Frag} {btab:List (Str × Value)} {k:Nat} {φ:Fm}
set_option tactic.hygienic true in
theorem Snd.bind {α α' β β':Type} {C:Wd->Nat->Prop} {g:G α} {f:α->G α'} {t:Env->Sem β} {t2:β->Env->Sem β'} {R:α->β->Wd->Nat->Prop} {R':α'->β'->Wd->Nat->Prop} (hC:Mono C)
  (h1:Snd prog w K btab k φ C g t R) (h2:∀ a b,Snd prog w K btab k φ (fun W nx=>C W nx /\ R a b W nx) (f a) (t2 b) R') :
  Snd prog w K btab k φ C (g >>= f) (fun env=>t env >>= fun b=>t2 b env) R':=by
 intro st sc a' st' sc' ob e hob
 change G.bind g f st sc=_ at e
 unfold G.bind at e
 split at e
 ·cases e
 ·rename_i a st1 sc1 ob1 e1
  split at e
  ·cases e
  ·rename_i b st2 sc2 ob2 e2
   cases e
   have T1:=h1 _ _ _ _ _ _ e1 fun p hp=>hob p (List.mem_append.mpr (.inl hp))
   have T2:=fun b=>h2 a b _ _ _ _ _ _ e2 fun p hp=>hob p (List.mem_append.mpr (.inr hp))
   intro W A env s Q E hA hS hF hc hq
   refine wpAny_bind (T1 W A env s _ E hA hS hF hc fun W1 hp1 tk1 b n1 l1 S1 F1 R1=>?_)
   refine T2 b W1 A env _ Q E hA S1 F1 ⟨hC _ _ _ _ n1 l1 hc,R1⟩ fun W2 hp2 tk2 c n2 l2 S2 F2 R2=>?_
   exact hq W2 hp2 tk2 c (Nat.le_trans n1 n2) (l1.trans n1 l2) S2 F2 R2
theorem Snd.ret {α β:Type} {C:Wd->Nat->Prop} {a:α} {b:β} {R:α->β->Wd->Nat->Prop} (h:∀ W nx,C W nx->R a b W nx):Snd prog w K btab k φ C (G.ret a) (fun _=>pure b) R:=by
 intro st sc a' st' sc' ob e hob
 cases e
 intro W A env s Q E hA hS hF hc hq
 exact wpAny_pure (hq W s.heap s.toks b (Nat.le_refl _) (.refl _ _) hS hF (h _ _ hc))
theorem Snd.fail {α β:Type} {C:Wd->Nat->Prop} {t:Env->Sem β} {R:α->β->Wd->Nat->Prop}:Snd prog w K btab k φ C (G.fail:G α) t R:=by
 intro st sc a' st' sc' ob e
 cases e
end
end
section
noncomputable def Keeps (h h':Heap):Prop:=∀ b o,h.get? b=some o->h'.get? b=some o
theorem Keeps.refl (h:Heap):Keeps h h:=fun _ _ e=>e
theorem Keeps.trans {h h' h'':Heap} (x:Keeps h h') (y:Keeps h' h''):Keeps h h'':=fun b o e=>y b o (x b o e)
theorem Keeps.push (h:Heap) (o:Obj):Keeps h (h.push o):=fun _ _ e=>Heap.get?_push_of_some o e
theorem get?_size (h:Heap):h.get? h.objs.size=none:=by
 cases q:h.get? h.objs.size with
 | none=>rfl
 | some o=>exact absurd (Heap.lt_size q) (Nat.lt_irrefl _)
section
variable {prog:Program} {w:World} {K:Frag} {btab:List (Str × Value)}
theorem MOat.ext {W:Wd} {nx:Nat} {mo:MO} {a:Addr} {h h':Heap} (x:MOat prog w W nx mo a h) (k:∀ o,h.get? a=some o->h'.get? a=some o):MOat prog w W nx mo a h':=by
 cases mo with
 | list l=>obtain ⟨vs,n,ho,v⟩:=x; exact ⟨vs,n,k _ ho,v⟩
 | dictS l=>obtain ⟨kvs,⟨o,es,ep,ho,r⟩,v1,v2,v3⟩:=x; exact ⟨kvs,⟨o,es,ep,k _ ho,r⟩,v1,v2,v3⟩
 | dictI l=>obtain ⟨kvs,⟨o,es,ep,ho,r⟩,v1,v2,v3⟩:=x; exact ⟨kvs,⟨o,es,ep,k _ ho,r⟩,v1,v2,v3⟩
 | inst c n=>exact ⟨k _ x.1,x.2⟩
 | ns l=>obtain ⟨m,⟨o,es,ep,ho,r1,r2,r3,r4⟩,n,v⟩:=x; exact ⟨m,⟨o,es,ep,k _ ho,r1,r2,r3,r4⟩,n,v⟩
 | citer f stop=>obtain ⟨o,vf,t,ho,r1,r2,r3⟩:=x; exact ⟨o,vf,t,k _ ho,r1,r2,r3⟩
 | cdone=>obtain ⟨o,ho,r1,r2⟩:=x; exact ⟨o,k _ ho,r1,r2⟩
 | any=>obtain ⟨o,ho⟩:=x; exact ⟨o,k _ ho⟩
 | tab c=>obtain ⟨ps,oc,a1,a2,a3,a4,a5,a6⟩:=x; exact ⟨ps,oc,a1,a2,a3,k _ a4,a5,a6⟩
 | junk=>trivial
theorem MOat.wd0 {W W':Wd} {nx nx':Nat} {mo:MO} {a:Addr} {h:Heap} (x:MOat prog w W nx mo a h) (hn:nx<=nx') (kB:W.B.le W'.B) (ki:∀ n,n < nx->W'.ι n=W.ι n):MOat prog w W' nx' mo a h:=by
 cases mo with
 | list ds=>obtain ⟨vs,n,r,v⟩:=x; exact ⟨vs,n,r,v.mono kB⟩
 | dictS ds=>obtain ⟨kvs,r,e,v,ne⟩:=x; exact ⟨kvs,r,e,v.mono kB,ne⟩
 | dictI ds=>obtain ⟨kvs,r,e,v,ne⟩:=x; exact ⟨kvs,r,e,v.mono kB,ne⟩
 | inst c n=>exact ⟨by rw [ki n x.2]; exact x.1,Nat.lt_of_lt_of_le x.2 hn⟩
 | ns ds=>obtain ⟨m,ho,n,v⟩:=x; exact ⟨m,ho,n,fun y av e=>let ⟨u,e1,e2⟩:=v y av e; ⟨u,e1,e2.mono0 hn kB ki⟩⟩
 | citer f stop=>obtain ⟨o,vf,t,ho,r,e,v⟩:=x; exact ⟨o,vf,t,ho,r,e,v.mono0 hn kB ki⟩
 | cdone=>exact x
 | any=>exact x
 | tab c=>obtain ⟨ps,oc,a1,a2,a3,a4,a5,a6⟩:=x; exact ⟨ps,oc,kB _ _ a1,a2,a3,a4,a5,fun p c e=>(a6 p c e).mono kB⟩
 | junk=>exact x
theorem MOat.wd {W W':Wd} {nx nx':Nat} {mo:MO} {a:Addr} {h:Heap} (x:MOat prog w W nx mo a h) (hn:nx<=nx') (l:Wd.le nx W W'):MOat prog w W' nx' mo a h:=x.wd0 hn l.B l.ι
theorem MOat.there {W:Wd} {nx:Nat} {mo:MO} {a:Addr} {h:Heap} (x:MOat prog w W nx mo a h) (hj:mo ≠ .junk):∃ o,h.get? a=some o:=by
 cases mo with
 | list l=>obtain ⟨vs,n,ho,v⟩:=x; exact ⟨_,ho⟩
 | dictS l=>obtain ⟨kvs,⟨o,es,ep,ho,r⟩,v⟩:=x; exact ⟨o,ho⟩
 | dictI l=>obtain ⟨kvs,⟨o,es,ep,ho,r⟩,v⟩:=x; exact ⟨o,ho⟩
 | inst c n=>exact ⟨_,x.1⟩
 | ns l=>obtain ⟨m,⟨o,es,ep,ho,r⟩,n,v⟩:=x; exact ⟨o,ho⟩
 | citer f stop=>obtain ⟨o,vf,t,ho,r⟩:=x; exact ⟨o,ho⟩
 | cdone=>obtain ⟨o,ho,r⟩:=x; exact ⟨o,ho⟩
 | any=>exact x
 | tab c=>obtain ⟨ps,oc,a1,a2,a3,a4,a5⟩:=x; exact ⟨_,a4⟩
 | junk=>exact absurd rfl hj
noncomputable def Carry (W:Wd) (m:Nat->MO) (nx:Nat) (h:Heap) (W':Wd) (m':Nat->MO) (nx':Nat) (h':Heap):Prop:=∀ a o,OwnAt W m nx a->h.get? a=some o->OwnAt W' m' nx' a /\ h'.get? a=some o
theorem Carry.refl (W:Wd) (m:Nat->MO) (nx:Nat) (h:Heap):Carry W m nx h W m nx h:=fun _ _ a b=>⟨a,b⟩
theorem FInv.carry {W W':Wd} {φ:Fm} {env:Env} {st:St} {h h':Heap} {m':Nat->MO} {nx':Nat} (F:FInv W φ env st h) (hn:st.nx<=nx') (l:Wd.le st.nx W W') (c:Carry W st.m st.nx h W' m' nx' h') :
  FInv W' φ env ⟨st.vars,st.fz,m',nx'⟩ h':=by
 obtain ⟨m,⟨o,es,ep,ho,hns⟩,hm⟩:=F.locs
 refine ⟨F.scope,F.kind,F.globals,F.builtins,F.frame,F.code,(c _ _ F.own ho).1,⟨m,⟨o,es,ep,(c _ _ F.own ho).2,hns⟩,fun x av e1 e2=>let ⟨v,e3,e4⟩:=hm x av e1 e2; ⟨v,e3,e4.mono hn l⟩⟩,?_,?_⟩
 ·intro x hx
  obtain ⟨cc,e,q⟩:=F.cells x hx
  refine ⟨cc,e,?_⟩
  rcases q with ⟨q1,q2⟩ | ⟨q1,q2,q3,q4,ov,⟨oc,hoc,hdc⟩,q6⟩
  ·exact .inl ⟨q1,fun av e=>let ⟨o,v,a1,a2,a3⟩:=q2 av e; ⟨o,v,a1.imp (l.B _ _) (fun z=>⟨z.1,by rw [l.R]; exact z.2⟩),a2,a3.mono hn l⟩⟩
  ·exact .inr ⟨q1,(c _ _ q2 hoc).1,q3,q4,ov,⟨oc,(c _ _ q2 hoc).2,hdc⟩,fun av e=>let ⟨v,a1,a2⟩:=q6 av e; ⟨v,a1,a2.mono hn l⟩⟩
 ·intro x av e1 e2
  obtain ⟨cc,o,v,a1,a2,a3,a4⟩:=F.free x av e1 e2
  exact ⟨cc,o,v,a1,a2.imp (l.B _ _) (fun z=>by rw [l.R]; exact z),a3,a4.mono hn l⟩
theorem SInv.keeps {W:Wd} {m:Nat->MO} {nx:Nat} {h h':Heap} (S:SInv prog w K btab W m nx h) (k:Keeps h h'):SInv prog w K btab W m nx h':=
 ⟨fun a o e=>k _ _ (S.base a o e),fun a o e=>k _ _ (S.rest a o e),S.apart,fun n hn=>(S.obj n hn).ext fun o e=>k _ _ e,S.nb,S.nr,S.inj,S.sta⟩
theorem Carry.keeps {W:Wd} {m:Nat->MO} {nx:Nat} {h h':Heap} (k:Keeps h h'):Carry W m nx h W m nx h':=fun _ _ a b=>⟨a,k _ _ b⟩
noncomputable def Wd.freeze (W:Wd) (a:Addr) (o:Obj):Wd:={ W with B:=fun b=>if b=a then some o else W.B b }
theorem freeze_le {W:Wd} {nx:Nat} {a:Addr} {o:Obj} (ha:W.B a=none):Wd.le nx W (W.freeze a o):=
 ⟨fun b ob e=>by
  show (if b=a then some o else W.B b)=some ob
  rw [if_neg (fun z=>by rw [z,ha] at e; cases e)]; exact e,rfl,fun _ _=>rfl⟩
theorem freeze_at (W:Wd) (a:Addr) (o:Obj):(W.freeze a o).B a=some o:=by show (if a=a then some o else W.B a)=_; rw [if_pos rfl]
theorem SInv.fresh {W:Wd} {m:Nat->MO} {nx:Nat} {h:Heap} (S:SInv prog w K btab W m nx h) {a:Addr} (ha:h.get? a=none):OwnAt W m nx a:=by
 refine ⟨?_,?_,?_⟩
 ·cases q:W.B a with
  | none=>rfl
  | some o=>rw [S.base a o q] at ha; cases ha
 ·cases q:W.R a with
  | none=>rfl
  | some o=>rw [S.rest a o q] at ha; cases ha
 ·intro n hn hj e
  obtain ⟨o,ho⟩:=(S.obj n hn).there hj
  rw [e,ha] at ho; cases ho
set_option tactic.hygienic true in
theorem SInv.freeze {W:Wd} {m:Nat->MO} {nx:Nat} {h:Heap} (S:SInv prog w K btab W m nx h) {a:Addr} {o:Obj} (ha:OwnAt W m nx a) (ho:h.get? a=some o):SInv prog w K btab (W.freeze a o) m nx h:=by
 have l:Wd.le nx W (W.freeze a o):=freeze_le ha.b
 refine ⟨fun b ob e=>?_,fun b ob e=>S.rest b ob e,fun b ob e=>?_,fun n hn=>?_,fun n hn hj=>?_,fun n hn=>S.nr n hn,S.inj,S.sta.mono l.B⟩
 ·have e':(if b=a then some o else W.B b)=some ob:=e
  split at e'
  ·rename_i z; cases e'; rw [z]; exact ho
  ·exact S.base b ob e'
 ·show (if b=a then some o else W.B b)=none
  rw [if_neg (fun z=>by have e':W.R b=some ob:=e; rw [z,ha.r] at e'; cases e')]; exact S.apart b ob e
 ·exact (S.obj n hn).wd (Nat.le_refl _) l
 ·show (if W.ι n=a then some o else W.B (W.ι n))=none
  rw [if_neg (ha.i n hn hj)]; exact S.nb n hn hj
theorem Carry.freeze {W:Wd} {m:Nat->MO} {nx:Nat} {h:Heap} {a:Addr} {ob:Obj}:∀ b o,b ≠ a->OwnAt W m nx b->h.get? b=some o->OwnAt (W.freeze a ob) m nx b /\ h.get? b=some o:=by
 intro b o ne p q
 refine ⟨⟨?_,p.r,p.i⟩,q⟩
 show (if b=a then some ob else W.B b)=none
 rw [if_neg ne]; exact p.b
theorem SInv.alloc {W:Wd} {m:Nat->MO} {nx:Nat} {h:Heap} (S:SInv prog w K btab W m nx h) {o:Obj} (hf:o.isFreed=false) :
  SInv prog w K btab (W.freeze h.objs.size o) m nx (h.push o) /\ Wd.le nx W (W.freeze h.objs.size o) /\ Carry W m nx h (W.freeze h.objs.size o) m nx (h.push o):=by
 have fr:=S.fresh (get?_size h)
 refine ⟨(S.keeps (Keeps.push h o)).freeze fr (Heap.get?_push_size _ hf),freeze_le fr.b,fun b ob p q=>?_⟩
 exact Carry.freeze b ob (fun z=>by rw [z,get?_size] at q; cases q) p (Keeps.push h o _ _ q)
noncomputable def upd {α:Type} (m:Nat->α) (n:Nat) (x:α):Nat->α:=fun i=>if i=n then x else m i
theorem upd_at {α:Type} (m:Nat->α) (n:Nat) (x:α):upd m n x n=x:=if_pos rfl
theorem upd_ne {α:Type} (m:Nat->α) (n:Nat) (x:α) {i:Nat} (h:i ≠ n):upd m n x i=m i:=if_neg h
noncomputable def Wd.lay (W:Wd) (nx:Nat) (a:Addr):Wd:={ W with ι:=upd W.ι nx a }
theorem lay_le {W:Wd} {nx:Nat} {a:Addr}:Wd.le nx W (W.lay nx a):=⟨.refl _,rfl,fun n hn=>upd_ne _ _ _ (Nat.ne_of_lt hn)⟩
theorem SInv.lay {W:Wd} {m:Nat->MO} {nx:Nat} {h:Heap} (S:SInv prog w K btab W m nx h) {a:Addr} {mo:MO} (ha:OwnAt W m nx a) (ho:MOat prog w (W.lay nx a) (nx+1) mo a h) :
  SInv prog w K btab (W.lay nx a) (upd m nx mo) (nx+1) h:=by
 have l:Wd.le nx W (W.lay nx a):=lay_le
 have ii:(W.lay nx a).ι nx=a:=upd_at _ _ _
 have jj:∀ n,n ≠ nx->upd m nx mo n ≠ .junk->m n ≠ .junk:=fun n z q=>by rw [upd_ne _ _ _ z] at q; exact q
 refine ⟨S.base,S.rest,S.apart,fun n hn=>?_,fun n hn hj=>?_,fun n hn hj=>?_,fun n n' hn hn' hj hj' e=>?_,S.sta⟩
 ·by_cases z:n=nx
  ·subst z; rw [ii,upd_at]; exact ho
  ·have hl:n < nx:=by omega
   rw [l.ι n hl,upd_ne _ _ _ z]
   exact (S.obj n hl).wd (Nat.le_succ _) l
 ·by_cases z:n=nx
  ·subst z; rw [ii]; exact ha.b
  ·have hl:n < nx:=by omega
   rw [l.ι n hl]; exact S.nb n hl (jj n z hj)
 ·by_cases z:n=nx
  ·subst z; rw [ii]; exact ha.r
  ·have hl:n < nx:=by omega
   rw [l.ι n hl]; exact S.nr n hl (jj n z hj)
 ·by_cases z:n=nx
  ·by_cases z':n'=nx
   ·rw [z,z']
   ·have hl:n' < nx:=by omega
    rw [z,ii,l.ι n' hl] at e
    exact absurd e.symm (ha.i n' hl (jj n' z' hj'))
  ·have hl:n < nx:=by omega
   by_cases z':n'=nx
   ·rw [z',ii,l.ι n hl] at e
    exact absurd e (ha.i n hl (jj n z hj))
   ·have hl':n' < nx:=by omega
    rw [l.ι n hl,l.ι n' hl'] at e
    exact S.inj n n' hl hl' (jj n z hj) (jj n' z' hj') e
theorem Carry.lay {W:Wd} {m:Nat->MO} {nx:Nat} {mo:MO} {h:Heap} {a:Addr}:∀ b o,b ≠ a->OwnAt W m nx b->h.get? b=some o->OwnAt (W.lay nx a) (upd m nx mo) (nx+1) b /\ h.get? b=some o:=by
 intro b o ne p q
 refine ⟨⟨p.b,p.r,fun n hn hj=>?_⟩,q⟩
 by_cases z:n=nx
 ·subst z; show upd W.ι n a n ≠ b; rw [upd_at]; exact Ne.symm ne
 ·have hl:n < nx:=by omega
  rw [upd_ne _ _ _ z] at hj
  show upd W.ι nx a n ≠ b
  rw [upd_ne _ _ _ z]; exact p.i n hl hj
theorem SInv.new {W:Wd} {m:Nat->MO} {nx:Nat} {h:Heap} (S:SInv prog w K btab W m nx h) {o:Obj} {mo:MO} (ho:MOat prog w (W.lay nx h.objs.size) (nx+1) mo h.objs.size (h.push o)) :
  SInv prog w K btab (W.lay nx h.objs.size) (upd m nx mo) (nx+1) (h.push o) /\ Wd.le nx W (W.lay nx h.objs.size) /\ Carry W m nx h (W.lay nx h.objs.size) (upd m nx mo) (nx+1) (h.push o):=by
 have fr:=S.fresh (get?_size h)
 refine ⟨(S.keeps (Keeps.push h o)).lay fr ho,lay_le,fun b ob p q=>?_⟩
 exact Carry.lay b ob (fun z=>by rw [z,get?_size] at q; cases q) p (Keeps.push h o _ _ q)
theorem SInv.put {W:Wd} {m:Nat->MO} {nx:Nat} {h h':Heap} (S:SInv prog w K btab W m nx h) {n:Nat} {mo:MO} (hn:n < nx) (hj:m n ≠ .junk) (hs:Heap.ExtBut (W.ι n) h h') (ho:MOat prog w W nx mo (W.ι n) h') :
  SInv prog w K btab W (upd m n mo) nx h':=by
 have jj:∀ i,upd m n mo i ≠ .junk->m i ≠ .junk:=fun i q=>by
  by_cases z:i=n
  ·rw [z]; exact hj
  ·rw [upd_ne _ _ _ z] at q; exact q
 refine ⟨fun a o e=>hs _ _ (fun z=>?_) (S.base a o e),fun a o e=>hs _ _ (fun z=>?_) (S.rest a o e),S.apart,fun i hi=>?_,fun i hi q=>S.nb i hi (jj i q),fun i hi q=>S.nr i hi (jj i q),fun i i' hi hi' q q'=>S.inj i i' hi hi' (jj i q) (jj i' q'),S.sta⟩
 ·rw [z,S.nb n hn hj] at e; cases e
 ·rw [z,S.nr n hn hj] at e; cases e
 ·by_cases z:i=n
  ·subst z; rw [upd_at]; exact ho
  ·rw [upd_ne _ _ _ z]
   by_cases q:m i=.junk
   ·rw [q]; trivial
   ·exact (S.obj i hi).ext fun o e=>hs _ _ (fun y=>z (S.inj _ _ hi hn q hj y)) e
theorem Carry.put {W:Wd} {m:Nat->MO} {nx:Nat} {h h':Heap} {n:Nat} {mo:MO} (hn:n < nx) (hj:m n ≠ .junk) (hs:Heap.ExtBut (W.ι n) h h'):Carry W m nx h W (upd m n mo) nx h':=fun a _ p q=>
 ⟨⟨p.b,p.r,fun i hi y=>p.i i hi (by
  by_cases z:i=n
  ·rw [z]; exact hj
  ·rw [upd_ne _ _ _ z] at y; exact y)⟩,hs _ _ (Ne.symm (p.i n hn hj)) q⟩
theorem SInv.still {W:Wd} {m:Nat->MO} {nx:Nat} {h:Heap} (S:SInv prog w K btab W m nx h) {n:Nat} {o:Obj} (hn:n < nx) (hj:m n ≠ .junk) (ho:h.get? (W.ι n)=some o) :
  SInv prog w K btab (W.freeze (W.ι n) o) (upd m n .junk) nx h /\ Wd.le nx W (W.freeze (W.ι n) o) /\ Carry W m nx h (W.freeze (W.ι n) o) (upd m n .junk) nx h:=by
 have jj:∀ i,upd m n .junk i ≠ .junk->i ≠ n /\ m i ≠ .junk:=fun i q=>by
  by_cases z:i=n
  ·rw [z,upd_at] at q; exact absurd rfl q
  ·rw [upd_ne _ _ _ z] at q; exact ⟨z,q⟩
 have S1:SInv prog w K btab W (upd m n .junk) nx h:=by
  refine ⟨S.base,S.rest,S.apart,fun i hi=>?_,fun i hi q=>S.nb i hi (jj i q).2,fun i hi q=>S.nr i hi (jj i q).2,fun i i' hi hi' q q'=>S.inj i i' hi hi' (jj i q).2 (jj i' q').2,S.sta⟩
  by_cases z:i=n
  ·subst z; rw [upd_at]; trivial
  ·rw [upd_ne _ _ _ z]; exact S.obj i hi
 have ow:OwnAt W (upd m n .junk) nx (W.ι n):=⟨S.nb n hn hj,S.nr n hn hj,fun i hi q e=>(jj i q).1 (S.inj i n hi hn (jj i q).2 hj e)⟩
 refine ⟨S1.freeze ow ho,freeze_le ow.b,fun b ob p q=>?_⟩
 have p':OwnAt W (upd m n .junk) nx b:=⟨p.b,p.r,fun i hi y=>p.i i hi (jj i y).2⟩
 exact Carry.freeze b ob (fun z=>p.i n hn hj z.symm) p' q
theorem SInv.own {W:Wd} {m:Nat->MO} {nx:Nat} {h h':Heap} (S:SInv prog w K btab W m nx h) {a:Addr} (ha:OwnAt W m nx a) (hs:Heap.ExtBut a h h'):SInv prog w K btab W m nx h':=by
 refine ⟨fun b o e=>hs _ _ (fun z=>?_) (S.base b o e),fun b o e=>hs _ _ (fun z=>?_) (S.rest b o e),S.apart,fun i hi=>?_,S.nb,S.nr,S.inj,S.sta⟩
 ·rw [z,ha.b] at e; cases e
 ·rw [z,ha.r] at e; cases e
 ·by_cases q:m i=.junk
  ·rw [q]; trivial
  ·exact (S.obj i hi).ext fun o e=>hs _ _ (ha.i i hi q) e
open Classical in
noncomputable def shutR (W:Wd) (m:Nat->MO) (nx:Nat) (h:Heap):BM:=fun a=>if OwnAt W m nx a then h.get? a else W.R a
noncomputable def Wd.shut (W:Wd) (m:Nat->MO) (nx:Nat) (h:Heap):Wd:={ W with R:=shutR W m nx h }
theorem shutR_own {W:Wd} {m:Nat->MO} {nx:Nat} {h:Heap} {a:Addr} (x:OwnAt W m nx a):shutR W m nx h a=h.get? a:=if_pos x
theorem shutR_not {W:Wd} {m:Nat->MO} {nx:Nat} {h:Heap} {a:Addr} (x:¬ OwnAt W m nx a):shutR W m nx h a=W.R a:=if_neg x
theorem shutR_of {W:Wd} {m:Nat->MO} {nx:Nat} {h:Heap} {a:Addr} {o:Obj} (e:W.R a=some o):shutR W m nx h a=some o:=(shutR_not fun z=>by rw [z.r] at e; cases e).trans e
theorem SInv.shut {W:Wd} {m:Nat->MO} {nx:Nat} {h:Heap} (S:SInv prog w K btab W m nx h):SInv prog w K btab (W.shut m nx h) m nx h:=by
 refine ⟨S.base,fun a o e=>?_,fun a o e=>?_,fun n hn=>(S.obj n hn).wd0 (Nat.le_refl _) (.refl _) fun _ _=>rfl,S.nb,fun n hn hj=>?_,S.inj,S.sta⟩
 ·by_cases z:OwnAt W m nx a
  ·exact (shutR_own z).symm.trans e
  ·exact S.rest a o ((shutR_not z).symm.trans e)
 ·by_cases z:OwnAt W m nx a
  ·exact z.b
  ·exact S.apart a o ((shutR_not z).symm.trans e)
 ·exact (shutR_not (fun z=>z.i n hn hj rfl)).trans (S.nr n hn hj)
theorem SInv.unshut {W W':Wd} {m m':Nat->MO} {nx nx':Nat} {h h':Heap} (l:Wd.le nx (W.shut m nx h) W') (S':SInv prog w K btab W' m' nx' h') :
  SInv prog w K btab { W' with R:=W.R } m' nx' h' /\ Wd.le nx W { W' with R:=W.R } /\ Carry W m nx h { W' with R:=W.R } m' nx' h':=by
 have eR:W'.R=shutR W m nx h:=l.R
 refine ⟨⟨S'.base,fun a o e=>S'.rest a o (by rw [eR]; exact shutR_of e),fun a o e=>S'.apart a o (by rw [eR]; exact shutR_of e),fun n hn=>(S'.obj n hn).wd0 (Nat.le_refl _) (.refl _) fun _ _=>rfl,S'.nb,fun n hn hj=>?_,S'.inj,S'.sta⟩,
  ⟨l.B,rfl,l.ι⟩,fun a o p q=>?_⟩
 ·have z:=S'.nr n hn hj
  rw [eR] at z
  by_cases y:OwnAt W m nx (W'.ι n)
  ·exact y.r
  ·exact (shutR_not y).symm.trans z
 ·have z:W'.R a=some o:=by rw [eR,shutR_own p,q]
  refine ⟨⟨S'.apart a o z,p.r,fun n hn hj e=>?_⟩,S'.rest a o z⟩
  have y:=S'.nr n hn hj
  rw [show W'.ι n=a from e,z] at y; cases y
theorem VA.R {W:Wd} {R:BM} {nx:Nat} {a:AV} {v:Value} (x:VA W nx a v):VA { W with R:=R } nx a v:=VA.mono0 (W:=W) (W':={ W with R:=R }) (Nat.le_refl nx) (BM.le.refl W.B) (fun _ _=>rfl) x
noncomputable def Wd.hold (W:Wd) (a:Addr) (o:Obj):Wd:={ W with R:=fun b=>if b=a then some o else W.R b }
theorem hold_at (W:Wd) (a:Addr) (o:Obj):(W.hold a o).R a=some o:=if_pos rfl
theorem hold_ne {W:Wd} {a b:Addr} {o:Obj} (h:b ≠ a):(W.hold a o).R b=W.R b:=if_neg h
theorem SInv.hold {W:Wd} {m:Nat->MO} {nx:Nat} {h:Heap} (S:SInv prog w K btab W m nx h) {a:Addr} {o:Obj} (ha:OwnAt W m nx a) (ho:h.get? a=some o):SInv prog w K btab (W.hold a o) m nx h:=by
 refine ⟨S.base,fun b ob e=>?_,fun b ob e=>?_,fun n hn=>(S.obj n hn).wd0 (Nat.le_refl _) (.refl _) fun _ _=>rfl,S.nb,fun n hn hj=>?_,S.inj,S.sta⟩
 ·by_cases z:b=a
  ·subst z; rw [hold_at] at e; cases e; exact ho
  ·rw [hold_ne z] at e; exact S.rest b ob e
 ·by_cases z:b=a
  ·subst z; exact ha.b
  ·rw [hold_ne z] at e; exact S.apart b ob e
 ·exact (hold_ne (ha.i n hn hj)).trans (S.nr n hn hj)
theorem SInv.unhold {W W':Wd} {m m':Nat->MO} {nx nx':Nat} {h':Heap} {a:Addr} {o:Obj} (ha:OwnAt W m nx a) (l:Wd.le nx (W.hold a o) W') (S':SInv prog w K btab W' m' nx' h') :
  SInv prog w K btab { W' with R:=W.R } m' nx' h' /\ Wd.le nx W { W' with R:=W.R } /\ OwnAt { W' with R:=W.R } m' nx' a /\ h'.get? a=some o:=by
 have eR:W'.R=(W.hold a o).R:=l.R
 have hr:∀ b ob,W.R b=some ob->W'.R b=some ob:=fun b ob e=>by rw [eR,hold_ne (fun z=>by rw [z,ha.r] at e; cases e)]; exact e
 have hat:W'.R a=some o:=by rw [eR,hold_at]
 refine ⟨⟨S'.base,fun b ob e=>S'.rest b ob (hr b ob e),fun b ob e=>S'.apart b ob (hr b ob e),fun n hn=>(S'.obj n hn).wd0 (Nat.le_refl _) (.refl _) fun _ _=>rfl,S'.nb,fun n hn hj=>?_,S'.inj,S'.sta⟩,
  ⟨l.B,rfl,l.ι⟩,⟨S'.apart a o hat,ha.r,fun n hn hj e=>?_⟩,S'.rest a o hat⟩
 ·have z:=S'.nr n hn hj
  rw [eR] at z
  by_cases y:W'.ι n=a
  ·rw [y,hold_at] at z; cases z
  ·rw [hold_ne y] at z; exact z
 ·have z:=S'.nr n hn hj
  rw [show W'.ι n=a from e,hat] at z; cases z
theorem FInv.hold {W:Wd} {φ:Fm} {env:Env} {st:St} {h₀ h:Heap} {a:Addr} {ob:Obj} (F:FInv W φ env st h₀) (S:SInv prog w K btab W st.m st.nx h₀) (ha:h₀.get? a=none) (k:Keeps h₀ h):FInv (W.hold a ob) φ env st h:=by
 have ow:∀ x o,OwnAt W st.m st.nx x->h₀.get? x=some o->OwnAt (W.hold a ob) st.m st.nx x:=fun x o p q=>⟨p.b,(hold_ne (fun z=>by rw [z,ha] at q; cases q)).trans p.r,p.i⟩
 have va:∀ av v,VA W st.nx av v->VA (W.hold a ob) st.nx av v:=fun av v x=>x.R
 obtain ⟨m,hns,hm⟩:=F.locs
 refine ⟨F.scope,F.kind,F.globals,F.builtins,F.frame,F.code,let ⟨o,_,_,ho,_⟩:=hns; ow _ o F.own ho,⟨m,hns.keeps k,fun x av e1 e2=>let ⟨v,e3,e4⟩:=hm x av e1 e2; ⟨v,e3,va _ _ e4⟩⟩,?_,?_⟩
 ·intro x hx
  obtain ⟨cc,e,q⟩:=F.cells x hx
  refine ⟨cc,e,?_⟩
  rcases q with ⟨q1,q2⟩ | ⟨q1,q2,q3,q4,ov,hc,q6⟩
  ·exact .inl ⟨q1,fun av e=>let ⟨o,v,a1,a2,a3⟩:=q2 av e; ⟨o,v,a1.imp id (fun z=>⟨z.1,(hold_ne (fun y=>by have:=S.rest cc o z.2; rw [y,ha] at this; cases this)).trans z.2⟩),a2,va _ _ a3⟩⟩
  ·exact .inr ⟨q1,(let ⟨o,ho,_⟩:=hc; ow _ o q2 ho),q3,q4,ov,hc.keeps k,fun av e=>let ⟨v,a1,a2⟩:=q6 av e; ⟨v,a1,va _ _ a2⟩⟩
 ·intro x av e1 e2
  obtain ⟨cc,o',v,a1,a2,a3,a4⟩:=F.free x av e1 e2
  refine ⟨cc,o',v,a1,a2.imp id fun z=>?_,a3,va _ _ a4⟩
  have ne:cc ≠ a:=fun y=>by
   have:=S.rest cc o' z
   rw [y,ha] at this; cases this
  exact (hold_ne ne).trans z
theorem FInv.reR {W:Wd} {φ:Fm} {env:Env} {st:St} {h:Heap} {a:Addr} {o:Obj} {R:BM} (F:FInv W φ env st h) (hR:∀ b,b ≠ a->R b=W.R b) (ho:W.R a=some o) (hnc:∀ v,o.data ≠ .cell v):FInv { W with R:=R } φ env st h:=by
 have ow:∀ x,OwnAt W st.m st.nx x->OwnAt { W with R:=R } st.m st.nx x:=fun x p=>⟨p.b,(hR x (fun z=>by have:=p.r; rw [z,ho] at this; cases this)).trans p.r,p.i⟩
 have va:∀ av v,VA W st.nx av v->VA { W with R:=R } st.nx av v:=fun av v x=>x.R
 obtain ⟨m,hns,hm⟩:=F.locs
 refine ⟨F.scope,F.kind,F.globals,F.builtins,F.frame,F.code,ow _ F.own,⟨m,hns,fun x av e1 e2=>let ⟨v,e3,e4⟩:=hm x av e1 e2; ⟨v,e3,va _ _ e4⟩⟩,?_,?_⟩
 ·intro x hx
  obtain ⟨cc,e,q⟩:=F.cells x hx
  refine ⟨cc,e,?_⟩
  rcases q with ⟨q1,q2⟩ | ⟨q1,q2,q3,q4,ov,hc,q6⟩
  ·exact .inl ⟨q1,fun av e=>let ⟨o',v,a1,a2,a3⟩:=q2 av e; ⟨o',v,a1.imp id (fun z=>⟨z.1,(hR cc (fun y=>by have z2:=z.2; rw [y,ho] at z2; cases z2; exact hnc _ a2)).trans z.2⟩),a2,va _ _ a3⟩⟩
  ·exact .inr ⟨q1,ow _ q2,q3,q4,ov,hc,fun av e=>let ⟨v,a1,a2⟩:=q6 av e; ⟨v,a1,va _ _ a2⟩⟩
 ·intro x av e1 e2
  obtain ⟨cc,o',v,a1,a2,a3,a4⟩:=F.free x av e1 e2
  refine ⟨cc,o',v,a1,a2.imp id fun z=>?_,a3,va _ _ a4⟩
  have ne:cc ≠ a:=fun y=>by rw [y,ho] at z; cases z; exact hnc _ a3
  exact (hR cc ne).trans z
end
end
section
set_option backward.match.sparseCases false
noncomputable def setv (x:Str) (a:AV):List (Str × AV)->List (Str × AV)
 | []=>[(x,a)]
 | p :: r=>match p.1 == x with
  | true=>(x,a) :: r
  | false=>p :: setv x a r
theorem setv_lookup (x:Str) (a:AV):∀ (l:List (Str × AV)) (y:Str),(setv x a l).lookup y=if y=x then some a else l.lookup y
 | [],y=>by
  unfold setv
  rw [List.lookup_cons]
  by_cases h:y=x
  ·subst h; simp
  ·rw [beq_false_of_ne h,if_neg h]
 | p :: r,y=>by
  unfold setv
  cases q:p.1 == x with
  | true=>
   have e:p.1=x:=by simpa using q
   dsimp only
   rw [List.lookup_cons,List.lookup_cons,e]
   by_cases h:y=x
   ·subst h; simp
   ·rw [beq_false_of_ne h,if_neg h]
  | false=>
   have ne:p.1 ≠ x:=by simpa using q
   dsimp only
   rw [List.lookup_cons,List.lookup_cons,setv_lookup x a r y]
   by_cases h:y=p.1
   ·subst h; simp only [beq_self_eq_true]; rw [if_neg ne]
   ·rw [beq_false_of_ne h]
noncomputable def ofTop:Value->AV
 | .int i _=>.d (.int i)
 | .str s _=>.d (.str s)
 | .none=>.d .none
 | .bool b=>.d (.bool b)
 | v=>.k v
theorem ofTop_va (W:Wd) (nx:Nat) (v:Value):VA W nx (ofTop v) v:=by
 cases v <;> first | exact .d (.int _ _) | exact .d (.str _ _) | exact .d .none | exact .d (.bool _) | exact .k _
section
variable (K:Frag) (btab:List (Str × Value))
noncomputable def glob (x:Str):Option AV:=match nsIn K mainGlobals x with
 | some (some v)=>some (ofTop v)
 | some none=>match btab.lookup x with
  | some v=>some (ofTop v)
  | none=>none
 | none=>none
end
section
variable (prog:Program) (w:World) (K:Frag) (btab:List (Str × Value))
class inductive VAs (W:Wd) (nx:Nat):List AV->List Value->Prop
 | nil:VAs W nx [] []
 | cons {a:AV} {v:Value} {as:List AV} {vs:List Value} (h:VA W nx a v) (r:VAs W nx as vs):VAs W nx (a :: as) (v :: vs)
theorem VAs.mono {nx nx':Nat} {W W':Wd} (hn:nx<=nx') (l:Wd.le nx W W') {as:List AV} {vs:List Value} (h:VAs W nx as vs):VAs W' nx' as vs:=
 VAs.rec (motive:=fun as vs _=>VAs W' nx' as vs) .nil (fun h _ r=>.cons (h.mono hn l) r) h
theorem VAs.append {nx:Nat} {W:Wd} {as bs:List AV} {vs ws:List Value} (h:VAs W nx as vs) (k:VAs W nx bs ws):VAs W nx (as ++ bs) (vs ++ ws):=
 VAs.rec (motive:=fun as vs _=>VAs W nx (as ++ bs) (vs ++ ws)) k (fun h _ r=>.cons h r) h
noncomputable def Act (k:Nat) {β:Type} (C:Wd->Prop) (t:Wd->Sem β->Prop) (m:Nat->MO) (nx:Nat) (m':Nat->MO) (nx':Nat) (P:Wd->β->Prop):Prop:=
 ∀ (W:Wd) (A:Around) (s:Shared) (tr:Sem β) (Q:β->Shared->Prop) (E:Value->Shared->Prop),AOK k A->SInv prog w K btab W m nx s.heap->C W->t W tr ->
  (∀ W' h' tk' b,nx<=nx'->Wd.le nx W W'->SInv prog w K btab W' m' nx' h'->P W' b->Q b { s with heap:=h',toks:=tk' })->wpAny (model prog w) A tr Q E s
noncomputable def CallTr (k:Nat) (f:AV) (args:List AV) (kws:List (Str × AV)) (m:Nat->MO) (nx:Nat) (r:AV) (m':Nat->MO) (nx':Nat):Prop:=
 Act prog w K btab k (fun _=>True) (fun W tr=>(Ex3 fun vf vs kvs=>A4 (VA W nx f vf) (VAs W nx args vs) (VAs W nx (kws.map (·.2)) kvs) (tr=call vf vs ((kws.map (·.1)).zip kvs)))) m nx m' nx' (fun W' v=>VA W' nx' r v)
noncomputable def MethTr (k:Nat) (o:AV) (name:Str) (m:Nat->MO) (nx:Nat) (f:AV) (first:List AV) (nx':Nat) (m':Nat->MO):Prop:=
 Act prog w K btab k (fun _=>True) (fun W tr=>(Ex2 fun vo pl=>VA W nx o vo /\ tr=getMethod vo name pl)) m nx m' nx' (fun W' p=>VA W' nx' f p.1 /\ VAs W' nx' first p.2)
noncomputable def AttrTr (k:Nat) (o:AV) (name:Str) (m:Nat->MO) (nx:Nat) (r:AV) (m':Nat->MO) (nx':Nat):Prop:=
 Act prog w K btab k (fun _=>True) (fun W tr=>(Ex2 fun vo b=>VA W nx o vo /\ tr=getAttr vo name b)) m nx m' nx' (fun W' v=>VA W' nx' r v)
noncomputable def ItemTr (k:Nat) (o i:AV) (m:Nat->MO) (nx:Nat) (r:AV) (m':Nat->MO) (nx':Nat):Prop:=
 Act prog w K btab k (fun _=>True) (fun W tr=>(Ex4 fun vo vi value slice=>A4 ((∀ o i,subscripted slice false o i=operate [o,i] (getItem o i))) (VA W nx o vo) (VA W nx i vi) (tr=subscriptTail value slice vo vi))) m nx m' nx' (fun W' v=>VA W' nx' r v)
noncomputable def BinTr (k:Nat) (g:Bool) (op:Operator) (a b:AV) (m:Nat->MO) (nx:Nat) (r:AV) (m':Nat->MO) (nx':Nat):Prop:=
 Act prog w K btab k (fun _=>True) (fun W tr=>(Ex2 fun va vb=>A3 (VA W nx a va) (VA W nx b vb) (tr=(if g then inplaceOp op va vb else binaryOp op va vb)))) m nx m' nx' (fun W' v=>VA W' nx' r v)
noncomputable def CmpTr (k:Nat) (op:CmpOp) (a b:AV) (m:Nat->MO) (nx:Nat) (r:Bool) (m':Nat->MO) (nx':Nat):Prop:=
 Act prog w K btab k (fun _=>True) (fun W tr=>(Ex2 fun va vb=>A3 (VA W nx a va) (VA W nx b vb) (tr=compareOp op va vb))) m nx m' nx' (fun _ v=>v=.bool r)
noncomputable def TruthTr (k:Nat) (a:AV) (m:Nat->MO) (nx:Nat) (r:Bool):Prop:=
 Act prog w K btab k (fun _=>True) (fun W tr=>∃ va,VA W nx a va /\ tr=truthy va) m nx m nx (fun _ b=>b=r)
noncomputable def SetAttrTr (k:Nat) (o:AV) (name:Str) (x:AV) (m:Nat->MO) (nx:Nat) (m':Nat->MO) (nx':Nat):Prop:=
 Act prog w K btab k (fun _=>True) (fun W tr=>(Ex2 fun vo vx=>A3 (VA W nx o vo) (VA W nx x vx) (tr=setAttr vo name vx))) m nx m' nx' (fun _ (_:Unit)=>True)
noncomputable def SetItemTr (k:Nat) (o i x:AV) (m:Nat->MO) (nx:Nat) (m':Nat->MO) (nx':Nat):Prop:=
 Act prog w K btab k (fun _=>True) (fun W tr=>(Ex3 fun vo vi vx=>A4 (VA W nx o vo) (VA W nx i vi) (VA W nx x vx) (tr=setItem vo vi vx))) m nx m' nx' (fun _ (_:Unit)=>True)
noncomputable def ETr (k:Nat) (φ:Fm) (e:PySem.Expr) (st:St) (r:AV) (st':St):Prop:=
 Tri prog w K btab k φ (fun _ _=>True) (fun env=>eval e env) st st' (fun W' v=>VA W' st'.nx r v)
noncomputable def FlR (W:Wd) (nx:Nat):Fl->Flow->Prop
 | .next,.next=>True
 | .cont,.cont=>True
 | .brk,.brk=>True
 | .ret a,.ret v=>VA W nx a v
 | _,_=>False
noncomputable def STr (k:Nat) (φ:Fm) (c:Stmt) (st:St) (fl:Fl) (st':St):Prop:=
 Tri prog w K btab k φ (fun _ _=>True) (fun env=>exec c env) st st' (fun W' f=>FlR W' st'.nx fl f)
noncomputable def BTr (k:Nat) (φ:Fm) (b:List Stmt) (st:St) (fl:Fl) (st':St):Prop:=
 Tri prog w K btab k φ (fun _ _=>True) (fun env=>execs b env) st st' (fun W' f=>FlR W' st'.nx fl f)
noncomputable def gOb (p:Prop):G Unit:=fun st sc=>some ((),st,sc,[p])
noncomputable def gBr (b:Bool):G Bool:=fun st sc=>match sc with
 | .br d :: r=>some (d,st,r,[b=d])
 | _=>none
noncomputable def gVal (P:(Nat->MO)->Nat->AV->(Nat->MO)->Nat->Prop):G AV:=fun st sc=>match sc with
 | .val a m nx :: r=>some (a,{ st with m:=m,nx:=nx },r,[P st.m st.nx a m nx])
 | _=>none
noncomputable def gName (φ:Fm) (x:Str):G AV:=fun st sc=>match φ.sc.names.lookup x with
 | some .local=>(match st.vars.lookup x with | some a=>some (a,st,sc,[]) | none=>none)
 | some .cell=>(match st.vars.lookup x with | some a=>some (a,st,sc,[]) | none=>none)
 | some .free=>(match x == ("__classdict__" : Str),φ.caps.lookup x with | false,some a=>some (a,st,sc,[]) | _,_=>none)
 | some .globalImplicit=>(match glob K btab x with | some a=>some (a,st,sc,[]) | none=>none)
 | _=>none
noncomputable def gStore (φ:Fm) (x:Str) (a:AV):G Unit:=fun st sc=>match φ.sc.names.lookup x with
 | some .local=>some ((),{ st with vars:=setv x a st.vars },sc,[])
 | some .cell=>(match st.fz.contains x with | true=>none | false=>some ((),{ st with vars:=setv x a st.vars },sc,[]))
 | _=>none
noncomputable def intOf:AV->Option Int
 | .d (.int i)=>some i
 | _=>none
noncomputable def strOf:AV->Option Str
 | .d (.str i)=>some i
 | _=>none
noncomputable def gBinV (k:Nat) (g:Bool) (op:Operator) (a b:AV):G AV:=gVal fun m nx r m' nx'=>BinTr prog w K btab k g op a b m nx r m' nx'
noncomputable def gBinI (k:Nat) (g:Bool) (op:Operator) (a b:AV) (i j:Int):G AV:=match op with
 | .Add=>pure (.d (.int (i+j)))
 | .Sub=>pure (.d (.int (i - j)))
 | .FloorDiv=>do gOb (0 < j /\ j < 1073741824); pure (.d (.int (i / j)))
 | .Mod=>do gOb (0 < j); pure (.d (.int (i % j)))
 | op=>gBinV prog w K btab k g op a b
noncomputable def gBin (k:Nat) (g:Bool) (op:Operator) (a b:AV):G AV:=match intOf a,intOf b with
 | some i,some j=>gBinI prog w K btab k g op a b i j
 | _,_=>gBinV prog w K btab k g op a b
noncomputable def gCmpV (k:Nat) (op:CmpOp) (a b:AV):G AV:=gVal fun m nx r m' nx'=>match r with
  | .d (.bool c)=>CmpTr prog w K btab k op a b m nx c m' nx'
  | _=>False
noncomputable def gCmpI (k:Nat) (op:CmpOp) (a b:AV) (i j:Int):G AV:=match op with
 | .Lt=>pure (.d (.bool (decide (i < j))))
 | .GtE=>pure (.d (.bool (decide (i >= j))))
 | .Eq=>pure (.d (.bool (decide (i=j))))
 | .NotEq=>pure (.d (.bool (!decide (i=j))))
 | op=>gCmpV prog w K btab k op a b
noncomputable def gCmpS (k:Nat) (op:CmpOp) (a b:AV) (i j:Str):G AV:=match op with
 | .Eq=>pure (.d (.bool (decide (i=j))))
 | .NotEq=>pure (.d (.bool (!decide (i=j))))
 | op=>gCmpV prog w K btab k op a b
noncomputable def gCmp (k:Nat) (op:CmpOp) (a b:AV):G AV:=match intOf a,intOf b with
 | some i,some j=>gCmpI prog w K btab k op a b i j
 | _,_=>match strOf a,strOf b with
  | some i,some j=>gCmpS prog w K btab k op a b i j
  | _,_=>gCmpV prog w K btab k op a b
noncomputable def gTruth (k:Nat) (a:AV):G Bool:=fun st sc=>match sc with
 | .br d :: r=>some (d,st,r,[TruthTr prog w K btab k a st.m st.nx d])
 | _=>none
noncomputable def gTrue (k:Nat) (a:AV):G Bool:=match a with
 | .d (.bool b)=>gBr b
 | .d .none=>pure false
 | a=>gTruth prog w K btab k a
noncomputable def freeCaps (get:Str->Option AV):List (Str × NameKind)->Option (List (Str × AV))
 | []=>some []
 | (x,.free) :: r=>(match get x,freeCaps get r with
  | some a,some l=>some ((x,a) :: l)
  | _,_=>none)
 | _ :: r=>freeCaps get r
noncomputable def nameNow (φ:Fm) (st:St) (x:Str):Option AV:=match φ.sc.names.lookup x with
 | some .cell=>st.vars.lookup x
 | some .free=>φ.caps.lookup x
 | _=>none
noncomputable def frozenBy (φ:Fm) (names:List (Str × NameKind)) (fz:List Str):List Str:=names.foldl (fun l p=>match p.2,φ.sc.names.lookup p.1 with
 | .free,some .cell=>p.1 :: l
 | _,_=>l) fz
noncomputable def gLam (k:Nat) (φ:Fm) (ps:Arguments) (body:PySem.Expr) (sc:Scope) (pos:Pos):G AV:=fun st s=>match freeCaps (nameNow φ st) sc.names with
 | some caps=>some (.fn ps body sc caps,{ st with fz:=frozenBy φ sc.names st.fz },s,[ETr prog w K btab k φ (.Lambda ps body sc pos) st (.fn ps body sc caps) { st with fz:=frozenBy φ sc.names st.fz }])
 | none=>none
noncomputable def asD:List AV->Option (List D)
 | []=>some []
 | .d x :: r=>(match asD r with | some l=>some (x :: l) | none=>none)
 | _=>none
noncomputable def gFzLoc (n:Nat):G AV:=fun st s=>match s with
 | .mo (.list l) :: r=>some (.d (.lst l),{ st with m:=upd st.m n .junk },r,[st.m n=.list l,n < st.nx])
 | .mo .junk :: r=>some (.loc n,st,r,[])
 | _=>none
noncomputable def gFz (a:AV):G AV:=match a with
 | .loc n=>gFzLoc n
 | a=>pure a
noncomputable def gFzs:List AV->G (List AV)
 | []=>pure []
 | a :: r=>do
  let b <- gFz a
  let bs <- gFzs r
  pure (b :: bs)
noncomputable def gTup (as:List AV):G AV:=match asD as with
 | some l=>do gOb (l.length<=1000); pure (.d (.tup l))
 | none=>G.fail
noncomputable def gNew (mo:MO):G AV:=fun st s=>some (.loc st.nx,{ st with m:=upd st.m st.nx mo,nx:=st.nx+1 },s,[])
noncomputable def gPick:G Bool:=fun st s=>match s with
 | .br d :: r=>some (d,st,r,[])
 | _=>none
noncomputable def gLst (as:List AV):G AV:=match asD as with
 | some l=>do
  gOb (l.length<=1000)
  match <- gPick with
  | true=>gNew (.list l)
  | false=>pure (.d (.lst l))
 | none=>G.fail
noncomputable def SliceTr (k:Nat) (o l u:AV) (m:Nat->MO) (nx:Nat) (r:AV) (m':Nat->MO) (nx':Nat):Prop:=
 Act prog w K btab k (fun _=>True) (fun W tr=>(Ex5 fun vo vl vu value slice=>A5 ((∀ o i,subscripted slice false o i=operate [i,o] (getItem o i))) (VA W nx o vo) (VA W nx l vl) (VA W nx u vu) (tr=(newFields "slice" [vl,vu,.none] >>= fun i=>subscriptTail value slice vo i)))) m nx m' nx' (fun W' v=>VA W' nx' r v)
noncomputable def baseOk:PySem.Expr->Bool
 | .Call ..=>false
 | _=>true
noncomputable def setFree:PySem.Expr->Bool
 | .Set ..=>false
 | _=>true
noncomputable def starFree (as:List PySem.Expr):Bool:=as.all fun | .Starred ..=>false | _=>true
noncomputable def kwNames:List Keyword->Option (List Str)
 | []=>some []
 | ⟨some n,_,_⟩ :: r=>(match kwNames r with | some l=>some (n :: l) | none=>none)
 | _=>none
noncomputable def calleeOk:AV->Bool
 | .k (.builtin _)=>true
 | .k (.type _)=>true
 | .k (.ref a)=>keepIn K (.ref a)
 | .fn ..=>true
 | _=>false
noncomputable def gMeth (k:Nat) (o:AV) (name:Str):G (AV × List AV):=fun st s=>match s with
 | .val f _ _ :: .val (.d (.bool true)) m nx :: r=>some ((f,[o]),{ st with m:=m,nx:=nx },r,[MethTr prog w K btab k o name st.m st.nx f [o] nx m])
 | .val f _ _ :: .val (.d (.bool false)) m nx :: r=>some ((f,[]),{ st with m:=m,nx:=nx },r,[MethTr prog w K btab k o name st.m st.nx f [] nx m])
 | _=>none
noncomputable def gComp (k:Nat) (φ:Fm) (e:PySem.Expr):G AV:=fun st s=>match s with
 | .val r m nx :: rest=>some (r,{ st with m:=m,nx:=nx },rest,[ETr prog w K btab k φ e st r { st with m:=m,nx:=nx }])
 | _=>none
noncomputable def gIf {α:Type} (b:Bool) (g h:G α):G α:=match b with
 | true=>g
 | false=>h
noncomputable def gOpt {α β:Type} (o:Option β) (f:β->G α) (h:G α):G α:=match o with
 | some x=>f x
 | none=>h
structure EvT where
 ev:Fm->PySem.Expr->G AV
 tv:Fm->PySem.Expr->G Bool
noncomputable def constD:Const->Option D
 | .int i=>some (.int i)
 | .str x=>some (.str x)
 | .none=>some .none
 | .bool b=>some (.bool b)
 | _=>none
noncomputable def negOf (op:UnaryOp) (x:PySem.Expr):Option Int:=match op,x with
 | .USub,.Constant (.int i) _ _=>some i
 | _,_=>none
noncomputable def two {α:Type}:List α->Option (α × α)
 | [x,y]=>some (x,y)
 | _=>none
noncomputable def one {α:Type}:List α->Option α
 | [x]=>some x
 | _=>none
noncomputable def attrOf:PySem.Expr->Option (PySem.Expr × Str × Pos)
 | .Attribute o name p=>some (o,name,p)
 | _=>none
noncomputable def sliceOf:PySem.Expr->Option (Option PySem.Expr × Option PySem.Expr × Option PySem.Expr × Pos)
 | .Slice l u st p=>some (l,u,st,p)
 | _=>none
noncomputable def isNone {α:Type}:Option α->Bool
 | none=>true
 | some _=>false
noncomputable def evsL (f:PySem.Expr->G AV):List PySem.Expr->G (List AV)
 | []=>pure []
 | e :: r=>do
  let a <- f e
  let as <- evsL f r
  pure (a :: as)
noncomputable def evoL (f:PySem.Expr->G AV):Option PySem.Expr->G AV
 | none=>pure (.d .none)
 | some e=>f e
noncomputable def gBool {α:Type} (op:BoolOp) (t:Bool) (a b:G α):G α:=match op,t with
 | .And,false=>a
 | .Or,true=>a
 | _,_=>b
noncomputable def tvsL (f:PySem.Expr->G Bool) (op:BoolOp):List PySem.Expr->G Bool
 | []=>pure (op == .And)
 | x :: r=>do
  let t <- f x
  gBool op t (pure t) (tvsL f op r)
noncomputable def gArgs (T:EvT) (k:Nat) (φ:Fm) (f:AV) (first:List AV) (args:List PySem.Expr) (kws:List Keyword) (ns:List Str):G AV:=gIf (calleeOk K f) (do
  let as <- evsL (T.ev φ) args
  let ks <- evsL (T.ev φ) (kws.map (·.value))
  gVal fun m nx r m' nx'=>CallTr prog w K btab k f (first ++ as) (ns.zip ks) m nx r m' nx') G.fail
noncomputable def evCall (T:EvT) (k:Nat) (φ:Fm) (f:PySem.Expr) (args:List PySem.Expr) (kws:List Keyword) (pos:Pos):G AV:=gOpt (kwNames kws) (fun ns=>gIf (starFree args) (gOpt (attrOf f)
  (fun q=>gIf (baseOk q.1 && q.2.2.endLine == pos.line && Nat.ble (args.length+kws.length) 20) (do
   let vo <- T.ev φ q.1
   let fp <- gMeth prog w K btab k vo q.2.1
   gArgs prog w K btab T k φ fp.1 fp.2 args kws ns) G.fail)
  (do
   let vf <- T.ev φ f
   gArgs prog w K btab T k φ vf [] args kws ns)) G.fail) G.fail
noncomputable def evSub (T:EvT) (k:Nat) (φ:Fm) (o i:PySem.Expr):G AV:=gOpt (sliceOf i)
  (fun q=>gIf (isNone q.2.2.1) (do
   let vo <- T.ev φ o
   let vl <- evoL (T.ev φ) q.1
   let vu <- evoL (T.ev φ) q.2.1
   gVal fun m nx r m' nx'=>SliceTr prog w K btab k vo vl vu m nx r m' nx') G.fail)
  (do
   let vo <- T.ev φ o
   let vi <- T.ev φ i
   gVal fun m nx r m' nx'=>ItemTr prog w K btab k vo vi m nx r m' nx')
noncomputable def evCmp (T:EvT) (k:Nat) (φ:Fm) (l:PySem.Expr) (ops:List CmpOp) (rs:List PySem.Expr):G AV:=gOpt (one ops) (fun op=>gOpt (one rs) (fun r=>gIf (setFree r) (do
  let a <- T.ev φ l
  let b <- T.ev φ r
  gCmp prog w K btab k op a b) G.fail) G.fail) G.fail
noncomputable def stepEv (T:EvT) (k:Nat) (φ:Fm) (e:PySem.Expr):G AV:=match e with
  | .Constant v _ _=>gOpt (constD v) (fun d=>pure (.d d)) G.fail
  | .Name x _=>gIf (x == ("__debug__" : Str)) (pure (.d (.bool true))) (gName K btab φ x)
  | .BinOp l op r _=>do
   let a <- T.ev φ l
   let b <- T.ev φ r
   gBin prog w K btab k false op a b
  | .UnaryOp op x _=>gOpt (negOf op x) (fun i=>pure (.d (.int (-i)))) G.fail
  | .BoolOp op xs _=>gOpt (two xs) (fun p=>do
   let a <- T.ev φ p.1
   let t <- gTrue prog w K btab k a
   gBool op t (pure a) (T.ev φ p.2)) G.fail
  | .IfExp t b o _=>do
   let c <- T.tv φ t
   gIf c (T.ev φ b) (T.ev φ o)
  | .Compare l ops rs _=>evCmp prog w K btab T k φ l ops rs
  | .Call f args kws pos=>evCall prog w K btab T k φ f args kws pos
  | .Attribute o name _=>gIf (baseOk o) (do
    let vo <- T.ev φ o
    gVal fun m nx r m' nx'=>AttrTr prog w K btab k vo name m nx r m' nx') G.fail
  | .Subscript o i _=>evSub prog w K btab T k φ o i
  | .List es _=>gIf (starFree es) (do
    let as <- evsL (T.ev φ) es
    gLst as) G.fail
  | .Tuple es _ _=>gIf (starFree es) (do
    let as <- evsL (T.ev φ) es
    let bs <- gFzs as
    gTup bs) G.fail
  | .Dict ks vs _=>gIf (ks.isEmpty && vs.isEmpty) (do
   let b <- gPick
   gIf b (gNew (.dictS [])) (gNew (.dictI []))) G.fail
  | .ListComp a b c d=>gComp prog w K btab k φ (.ListComp a b c d)
  | .DictComp a a' b c d=>gComp prog w K btab k φ (.DictComp a a' b c d)
  | .Lambda ps body sc pos=>gLam prog w K btab k φ ps body sc pos
  | _=>G.fail
noncomputable def tvPlain (T:EvT) (k:Nat) (φ:Fm) (e:PySem.Expr):G Bool:=do
 let a <- T.ev φ e
 gTrue prog w K btab k a
noncomputable def stepTv (T:EvT) (k:Nat) (φ:Fm) (e:PySem.Expr):G Bool:=match e with
  | .UnaryOp op x p=>gIf (op == .Not) (do
    let b <- T.tv φ x
    pure (!b)) (tvPlain prog w K btab T k φ (.UnaryOp op x p))
  | .BoolOp op xs _=>tvsL (T.tv φ) op xs
  | .IfExp t b o _=>do
   let c <- T.tv φ t
   gIf c (T.tv φ b) (T.tv φ o)
  | .Compare l ops rs _=>do
   let c <- evCmp prog w K btab T k φ l ops rs
   gTrue prog w K btab k c
  | e=>tvPlain prog w K btab T k φ e
noncomputable def evN (k:Nat):Nat->EvT
 | 0=>⟨fun _ _=>G.fail,fun _ _=>G.fail⟩
 | n+1=>⟨stepEv prog w K btab (evN k n) k,stepTv prog w K btab (evN k n) k⟩
noncomputable def ev (k n:Nat) (φ:Fm) (e:PySem.Expr):G AV:=(evN prog w K btab k n).ev φ e
noncomputable def tv (k n:Nat) (φ:Fm) (e:PySem.Expr):G Bool:=(evN prog w K btab k n).tv φ e
noncomputable def isComp:PySem.Expr->Bool
 | .ListComp ..=>true
 | .SetComp ..=>true
 | .DictComp ..=>true
 | _=>false
noncomputable def isTupE:PySem.Expr->Bool
 | .Tuple ..=>true
 | _=>false
noncomputable def isSlice:PySem.Expr->Bool
 | .Slice ..=>true
 | _=>false
noncomputable def tupNames:List PySem.Expr->Option (List Str)
 | []=>some []
 | .Name x _ :: r=>(match tupNames r with | some l=>some (x :: l) | none=>none)
 | _=>none
noncomputable def gStores (φ:Fm):List Str->List D->G Unit
 | [],[]=>pure ()
 | x :: xs,d :: ds=>do
  gStore φ x (.d d)
  gStores φ xs ds
 | _,_=>G.fail
noncomputable def gStep (P:St->Fl->St->Prop):G Fl:=fun st s=>match s with
 | .fl f st' :: r=>some (f,st',r,[P st f st'])
 | _=>none
noncomputable def exsL (f:Stmt->G Fl):List Stmt->G Fl
 | []=>pure .next
 | c :: r=>do
  let fl <- f c
  match fl with
  | .next=>exsL f r
  | fl=>pure fl
noncomputable def litV:AV->Bool
 | .d .none=>true
 | .d (.str _)=>true
 | .d (.int _)=>true
 | _=>false
noncomputable def seqOf:AV->Option (List D)
 | .d (.tup ds)=>some ds
 | .d (.lst ds)=>some ds
 | _=>none
noncomputable def exAssign (T:EvT) (k:Nat) (φ:Fm) (t e:PySem.Expr) (q:Pos):G Fl:=match t with
  | .Name x p=>gIf (isComp e) (gStep fun st f st'=>STr prog w K btab k φ (.Assign [.Name x p] e q) st f st') (do
    let a <- T.ev φ e
    gStore φ x a
    pure .next)
  | .Tuple es _ _=>gOpt (tupNames es) (fun xs=>gIf (isComp e || isTupE e) G.fail (do
    let a <- T.ev φ e
    gOpt (seqOf a) (fun ds=>do
     gStores φ xs ds
     pure .next) G.fail)) G.fail
  | .Attribute o name _=>gIf (isComp e) G.fail (do
    let a <- T.ev φ e
    let vo <- T.ev φ o
    let _ <- gVal fun m nx _ m' nx'=>SetAttrTr prog w K btab k vo name a m nx m' nx'
    pure .next)
  | .Subscript o i _=>gIf (isComp e || isSlice i) G.fail (do
    let a <- T.ev φ e
    let vo <- T.ev φ o
    let vi <- T.ev φ i
    let _ <- gVal fun m nx _ m' nx'=>SetItemTr prog w K btab k vo vi a m nx m' nx'
    pure .next)
  | _=>G.fail
noncomputable def exAug (T:EvT) (k:Nat) (φ:Fm) (t:PySem.Expr) (op:Operator) (e:PySem.Expr):G Fl:=match t with
  | .Name x _=>do
   let a <- gName K btab φ x
   let b <- T.ev φ e
   let c <- gBin prog w K btab k true op a b
   gStore φ x c
   pure .next
  | .Attribute o name _=>do
   let vo <- T.ev φ o
   let a <- gVal fun m nx r m' nx'=>AttrTr prog w K btab k vo name m nx r m' nx'
   let b <- T.ev φ e
   let c <- gBin prog w K btab k true op a b
   let _ <- gVal fun m nx _ m' nx'=>SetAttrTr prog w K btab k vo name c m nx m' nx'
   pure .next
  | _=>G.fail
noncomputable def stepEx (T:EvT) (f:Fm->Stmt->G Fl) (k:Nat) (φ:Fm) (c:Stmt):G Fl:=match c with
  | .Expr e _=>gIf (isComp e) G.fail (do
    let a <- T.ev φ e
    gIf (litV a) (pure .next) G.fail)
  | .Pass _=>pure .next
  | .Break _=>pure .brk
  | .Continue _=>pure .cont
  | .Return o _=>gOpt o (fun e=>do
   let a <- T.ev φ e
   let b <- gFz a
   pure (.ret b)) (pure (.ret (.d .none)))
  | .Assign ts e q=>gOpt (one ts) (fun t=>exAssign prog w K btab T k φ t e q) G.fail
  | .AugAssign t op e _=>exAug prog w K btab T k φ t op e
  | .If t b o _=>do
   let c <- T.tv φ t
   gIf c (exsL (f φ) b) (exsL (f φ) o)
  | .While t b o q=>gStep fun st f st'=>STr prog w K btab k φ (.While t b o q) st f st'
  | .For x i b o q=>gStep fun st f st'=>STr prog w K btab k φ (.For x i b o q) st f st'
  | _=>G.fail
noncomputable def ex (k:Nat):Nat->Fm->Stmt->G Fl
 | 0=>fun _ _=>G.fail
 | n+1=>stepEx prog w K btab (evN prog w K btab k n) (ex k n) k
noncomputable def exs (k n:Nat) (φ:Fm) (b:List Stmt):G Fl:=exsL (ex prog w K btab k n φ) b
end
end
section
noncomputable abbrev RV:AV->Value->Wd->Nat->Prop:=fun a v W nx=>VA W nx a v
noncomputable abbrev RU {α:Type}:α->Unit->Wd->Nat->Prop:=fun _ _ _ _=>True
noncomputable abbrev RB:Bool->Bool->Wd->Nat->Prop:=fun a b _ _=>a=b
section
variable {prog:Program} {w:World} {K:Frag} {btab:List (Str × Value)} {k:Nat} {φ:Fm} {C:Wd->Nat->Prop}
theorem FInv.kindOf {W:Wd} {env:Env} {st:St} {h:Heap} (F:FInv W φ env st h) (x:Str):env.kindOf x=φ.sc.names.lookup x:=by unfold Env.kindOf; rw [F.scope]
theorem FInv.kindF {W:Wd} {env:Env} {st:St} {h:Heap} (F:FInv W φ env st h):env.scope.kind=.function:=by rw [F.scope]; exact F.kind
theorem SInv.facts {W:Wd} {m:Nat->MO} {nx:Nat} {h:Heap} (S:SInv prog w K btab W m nx h):K.In h /\ h.NoLimit /\ (∃ mb,h.Ns builtinsNs mb /\ ∀ p ∈ btab,mb p.1=some p.2) /\ BMain h:=S.sta.all h S.base
theorem SInv.newAt {W:Wd} {m:Nat->MO} {nx:Nat} {h:Heap} (S:SInv prog w K btab W m nx h):(h.objs.size == sysModules)=false:=by
 obtain ⟨-,-,-,mg,bm,ob,⟨o,es,ep,ho,-⟩,-⟩:=S.facts
 have h3:mainGlobals < h.objs.size:=Heap.lt_size ho
 cases q:h.objs.size == sysModules with
 | false=>rfl
 | true=>
  have h1:h.objs.size=sysModules:=eq_of_beq q
  rw [h1] at h3
  exact absurd h3 (by decide)
theorem mem_of_lookup {α:Type} {x:Str} {v:α}:∀ {l:List (Str × α)},l.lookup x=some v->(x,v) ∈ l
 | (y,u) :: l,e=>by
  rw [List.lookup_cons] at e
  cases q:x == y with
  | true=>rw [q] at e; cases e; rw [beq_iff_eq.mp q]; exact .head _
  | false=>rw [q] at e; exact .tail _ (mem_of_lookup e)
theorem nsGet_at {M:Model} {A:Around} {E:Value->Shared->Prop} {s:Shared} {a:Addr} {mp:Str->Option Value} {x:Str} {Q:Option Value->Shared->Prop} (hn:s.heap.Ns a mp) (h:Q (mp x) s):wpAny M A (nsGet a x) Q E s:=
 wpAny_nsGet hn h
theorem glob_inv {x:Str} {a:AV} {P:Prop} (e:glob K btab x=some a) (h1:∀ v,nsIn K mainGlobals x=some (some v)->a=ofTop v->P) (h2:∀ v,nsIn K mainGlobals x=some none->btab.lookup x=some v->a=ofTop v->P):P:=by
 revert e
 unfold glob
 cases q:nsIn K mainGlobals x with
 | none=>exact fun e=>ns e
 | some o=>cases o with
  | some v=>exact fun e=>h1 v q (Option.some.inj e).symm
  | none=>cases r:btab.lookup x with
   | none=>exact fun e=>ns e
   | some v=>exact fun e=>h2 v q r (Option.some.inj e).symm
theorem loadGlobal_at {A:Around} {env:Env} {E:Value->Shared->Prop} {s:Shared} {Q:Value->Shared->Prop} {W:Wd} {m:Nat->MO} {nx:Nat} (S:SInv prog w K btab W m nx s.heap) (hg:env.globals=mainGlobals) (hb:env.builtins=builtinsNs) {x:Str} {a:AV}
  (e:glob K btab x=some a) (h:∀ v,VA W nx a v->Q v s):wpAny (model prog w) A (loadGlobal env x) Q E s:=by
 obtain ⟨X,_,⟨mb,hns,hmb⟩,_⟩:=S.facts
 unfold loadGlobal
 rw [hg,hb]
 refine glob_inv e (fun v q r=>?_) fun v q l r=>?_
 ·exact wpAny_bind ((looks_nsIn X q).here (wpAny_pure (h v (r ▸ ofTop_va _ _ _))))
 ·refine wpAny_bind ((looks_nsIn X q).here (wpAny_bind (nsGet_at hns ?_)))
  rw [hmb _ (mem_of_lookup l)]
  exact wpAny_pure (h v (r ▸ ofTop_va _ _ _))
theorem i4 {α β γ δ:Type _} {a a':α} {b b':β} {c c':γ} {d d':δ} (e:some (a,b,c,d)=some (a',b',c',d')):a=a':=by cases e; rfl
theorem j4 {α β γ δ:Type _} {a a':α} {b b':β} {c c':γ} {d d':δ} (e:some (a,b,c,d)=some (a',b',c',d')):b'=b:=by cases e; rfl
theorem o4 {α β γ δ:Type _} {a a':α} {b b':β} {c c':γ} {d d':δ} (e:some (a,b,c,d)=some (a',b',c',d')):d'=d:=by cases e; rfl
theorem gName_inv {x:Str} {a:AV} {st st':St} {sc sc':List Ev} {ob:List Prop} {P:Prop} (e:gName K btab φ x st sc=some (a,st',sc',ob))
  (h1:st'=st->φ.sc.names.lookup x=some .local->st.vars.lookup x=some a->P)
  (h2:st'=st->φ.sc.names.lookup x=some .cell->st.vars.lookup x=some a->P)
  (h3:st'=st->φ.sc.names.lookup x=some .free->(x == ("__classdict__" : Str))=false->φ.caps.lookup x=some a->P)
  (h4:st'=st->φ.sc.names.lookup x=some .globalImplicit->glob K btab x=some a->P):P:=by
 revert e
 unfold gName
 cases q:φ.sc.names.lookup x with
 | none=>exact fun e=>ns e
 | some k=>cases k with
  | «local»=>cases r:st.vars.lookup x with
   | none=>exact fun e=>ns e
   | some b=>exact fun e=>h1 (j4 e) q (r.trans (congrArg some (i4 e)))
  | cell=>cases r:st.vars.lookup x with
   | none=>exact fun e=>ns e
   | some b=>exact fun e=>h2 (j4 e) q (r.trans (congrArg some (i4 e)))
  | free=>cases z:x == ("__classdict__" : Str) with
   | true=>exact fun e=>ns e
   | false=>cases r:φ.caps.lookup x with
    | none=>exact fun e=>ns e
    | some b=>exact fun e=>h3 (j4 e) q z (r.trans (congrArg some (i4 e)))
  | globalImplicit=>cases r:glob K btab x with
   | none=>exact fun e=>ns e
   | some b=>exact fun e=>h4 (j4 e) q (r.trans (congrArg some (i4 e)))
  | _=>exact fun e=>ns e
theorem snd_name (x:Str):Snd prog w K btab k φ C (gName K btab φ x) (fun env=>loadName env x) RV:=by
 intro st sc a st' sc' ob e hob W A env s Q E hA hS hF hc hq
 have fin:st'=st->∀ v,VA W st.nx a v->Q v s:=fun e1 v hv=>by
  subst e1
  exact hq W s.heap s.toks v (Nat.le_refl _) (.refl _ _) hS hF hv
 refine gName_inv e (fun es q r=>?_) (fun es q r=>?_) (fun es q z r=>?_) fun es q r=>?_
 ·obtain ⟨mp,hns,hm⟩:=hF.locs
  obtain ⟨v,e1,e2⟩:=hm x a q r
  exact wpAny_loadName_local hF.kindF ((hF.kindOf x).trans q) hns e1 (fin es v e2)
 ·obtain ⟨c,e1,e2⟩:=hF.cells x q
  refine e2.elim (fun e2=>?_) fun e2=>?_
  ·obtain ⟨o,v,b1,b2,b3⟩:=e2.2 a r
   exact wpAny_loadName_cell hF.kindF ((hF.kindOf x).trans q) e1 ⟨o,b1.elim (hS.base _ _) (fun z=>hS.rest _ _ z.2),b2⟩ (fin es v b3)
  ·obtain ⟨_,_,_,_,ov,hcell,e2⟩:=e2
   obtain ⟨v,ev,b3⟩:=e2 a r
   exact wpAny_loadName_cell hF.kindF ((hF.kindOf x).trans q) e1 (ev ▸ hcell) (fin es v b3)
 ·obtain ⟨c,o,v,b1,b2,b3,b4⟩:=hF.free x a q r
  exact wpAny_loadName_free hF.kindF ((hF.kindOf x).trans q) b1 ⟨o,b2.elim (hS.base _ _) (hS.rest _ _),b3⟩ (fin es v b4) z
 ·show wpAny _ A (loadName env x) Q E s
  rw [loadName_read hF.kindF ((hF.kindOf x).trans q)]
  exact loadGlobal_at hS hF.globals hF.builtins r (fin es)
theorem gStore_inv {x:Str} {a:AV} {u:Unit} {st st':St} {sc sc':List Ev} {ob:List Prop} {P:St->Prop} (e:gStore φ x a st sc=some (u,st',sc',ob))
  (h1:φ.sc.names.lookup x=some .local->P { st with vars:=setv x a st.vars }) (h2:φ.sc.names.lookup x=some .cell->x ∉ st.fz->P { st with vars:=setv x a st.vars }):P st':=by
 revert e
 unfold gStore
 cases q:φ.sc.names.lookup x with
 | none=>exact fun e=>ns e
 | some k=>cases k with
  | «local»=>exact fun e=>j4 e ▸ h1 q
  | cell=>cases z:st.fz.contains x with
   | true=>exact fun e=>ns e
   | false=>exact fun e=>j4 e ▸ h2 q fun m=>tf ((List.contains_iff_mem.mpr m).symm.trans z)
  | _=>exact fun e=>ns e
theorem loc_ne {x y:Str} {a b:NameKind} (h:φ.sc.names.lookup x=some a) (g:φ.sc.names.lookup y=some b) (n:a ≠ b):y ≠ x:=fun z=>n (Option.some.inj (h.symm.trans (z ▸ g)))
theorem setv_self {x:Str} {a:AV} {l:List (Str × AV)}:(setv x a l).lookup x=some a:=(setv_lookup x a l x).trans (if_pos rfl)
theorem setv_ne {x y:Str} {a:AV} {l:List (Str × AV)} (n:y ≠ x):(setv x a l).lookup y=l.lookup y:=(setv_lookup x a l y).trans (if_neg n)
theorem snd_store {x:Str} {a:AV} {v:Value} (hv:∀ W nx,C W nx->VA W nx a v):Snd prog w K btab k φ C (gStore φ x a) (fun env=>storeName env x v) RU:=by
 intro st sc u st' sc' ob e
 refine gStore_inv (P:=fun st'=>(∀ p ∈ ob,p)->Tri prog w K btab k φ C (fun env=>storeName env x v) st st' fun W' _=>True) e (fun q _ W A env s Q E hA hS hF hc hq=>?_) fun q hz _ W A env s Q E hA hS hF hc hq=>?_
 ·obtain ⟨mp,hns,hm⟩:=id hF.locs
  refine wpAny_storeName_local ((hF.kindOf x).trans q) hns (fun h' hns' hsb=>?_) (by rw [hF.kindF]; rfl)
  refine hq W h' _ () (Nat.le_refl _) (.refl _ _) (hS.own hF.own hsb.extBut) ?_ trivial
  refine ⟨hF.scope,hF.kind,hF.globals,hF.builtins,hF.frame,hF.code,hF.own,⟨_,hns',fun y av e1 e2=>?_⟩,fun y hy=>?_,hF.free⟩
  ·have e2':(setv x a st.vars).lookup y=some av:=e2
   by_cases z:y=x
   ·rw [if_pos z]; exact ⟨v,rfl,Option.some.inj (setv_self.symm.trans (z ▸ e2')) ▸ hv _ _ hc⟩
   ·rw [if_neg z]; exact hm y av e1 ((setv_ne z).symm.trans e2')
  ·have lk:=setv_ne (a:=a) (l:=st.vars) (loc_ne q hy (fun z=>nomatch z))
   obtain ⟨c,e1,e2⟩:=hF.cells y hy
   refine ⟨c,e1,e2.imp (fun r=>⟨r.1,fun av z=>r.2 av (lk.symm.trans z)⟩) fun r=>?_⟩
   obtain ⟨r1,r2,r3,r4,ov,hc,r5⟩:=r
   obtain ⟨oc,hoc,hdc⟩:=hc
   exact ⟨r1,r2,r3,r4,ov,⟨oc,hsb.extBut _ _ r3 hoc,hdc⟩,fun av z=>r5 av (lk.symm.trans z)⟩
 ·obtain ⟨c,e1,e2⟩:=hF.cells x q
  refine e2.elim (fun r=>absurd r.1 hz) fun r=>?_
  obtain ⟨r1,r2,r3,r4,ov,hcell,r5⟩:=r
  refine wpAny_storeName_cell hF.kindF ((hF.kindOf x).trans q) e1 hcell fun h' hcell' hsb=>?_
  refine hq W h' _ () (Nat.le_refl _) (.refl _ _) (hS.own r2 hsb.extBut) ?_ trivial
  obtain ⟨mp,hns,hm⟩:=hF.locs
  refine ⟨hF.scope,hF.kind,hF.globals,hF.builtins,hF.frame,hF.code,hF.own,⟨mp,hns.extBut hsb.extBut (Ne.symm r3),fun y av u1 u2=>?_⟩,fun y hy=>?_,hF.free⟩
  ·exact hm y av u1 ((setv_ne (loc_ne q u1 (fun z=>nomatch z))).symm.trans u2)
  ·by_cases z:y=x
   ·exact ⟨c,z ▸ e1,.inr ⟨z ▸ r1,r2,r3,z ▸ r4,some v,hcell',fun av z'=>⟨v,rfl,Option.some.inj (setv_self.symm.trans (z ▸ z')) ▸ hv _ _ hc⟩⟩⟩
   ·obtain ⟨c',e1',e2'⟩:=hF.cells y hy
    have lk:=setv_ne (a:=a) (l:=st.vars) z
    refine ⟨c',e1',e2'.imp (fun r=>⟨r.1,fun av z=>r.2 av (lk.symm.trans z)⟩) fun r=>?_⟩
    obtain ⟨t1,t2,t3,t4,ov',hc,t5⟩:=r
    obtain ⟨oc,hoc,hdc⟩:=hc
    exact ⟨t1,t2,t3,t4,ov',⟨oc,hsb.extBut _ _ (r4 y c' z hy e1') hoc,hdc⟩,fun av z=>t5 av (lk.symm.trans z)⟩
theorem Act.use {β:Type} {C':Wd->Prop} {t:Wd->Sem β->Prop} {m':Nat->MO} {nx':Nat} {P:Wd->β->Prop} {st:St} (h:Act prog w K btab k C' t st.m st.nx m' nx' P) (hP:∀ W R b,P W b->P { W with R:=R } b)
  {W:Wd} {A:Around} {env:Env} {s:Shared} {Q:β->Shared->Prop} {E:Value->Shared->Prop} {tr:Sem β} (hA:AOK k A) (hS:SInv prog w K btab W st.m st.nx s.heap) (hF:FInv W φ env st s.heap)
  (hC:C' (W.shut st.m st.nx s.heap)) (ht:t (W.shut st.m st.nx s.heap) tr)
  (hq:∀ W' h' tk' b,st.nx<=nx'->Wd.le st.nx W W'->SInv prog w K btab W' m' nx' h'->FInv W' φ env { st with m:=m',nx:=nx' } h'->P W' b->Q b { s with heap:=h',toks:=tk' }) :
  wpAny (model prog w) A tr Q E s:=by
 refine h _ A s tr Q E hA hS.shut hC ht fun W' h' tk' b n l S' p=>?_
 obtain ⟨S'',l',c⟩:=SInv.unshut l S'
 exact hq _ h' tk' b n l' S'' (hF.carry n l' c) (hP _ _ _ p)
theorem VA.shut {W:Wd} {m:Nat->MO} {nx nx':Nat} {h:Heap} {a:AV} {v:Value} (x:VA W nx' a v):VA (W.shut m nx h) nx' a v:=x.R
theorem VAs.R {W:Wd} {R:BM} {nx:Nat} {as:List AV} {vs:List Value} (h:VAs W nx as vs):VAs { W with R:=R } nx as vs:=
 VAs.rec (motive:=fun as vs _=>VAs { W with R:=R } nx as vs) .nil (fun h _ r=>.cons h.R r) h
theorem gVal_inv {P:(Nat->MO)->Nat->AV->(Nat->MO)->Nat->Prop} {a:AV} {st st':St} {sc sc':List Ev} {ob:List Prop} {R:AV->St->Prop} (e:gVal P st sc=some (a,st',sc',ob)) (hob:∀ p ∈ ob,p)
  (h:∀ a m' nx',P st.m st.nx a m' nx'->R a { st with m:=m',nx:=nx' }):R a st':=by
 cases sc with
 | nil=>exact ns e
 | cons x r=>cases x with
  | val b m n=>exact j4 e ▸ i4 e ▸ h b m n (hob _ (o4 e ▸ .head _))
  | _=>exact ns e
theorem snd_val {β:Type} {P:(Nat->MO)->Nat->AV->(Nat->MO)->Nat->Prop} {t:Env->Sem β} {R:AV->β->Wd->Nat->Prop}
  (h:∀ (st:St) (a:AV) (m':Nat->MO) (nx':Nat),P st.m st.nx a m' nx'->Tri prog w K btab k φ C t st { st with m:=m',nx:=nx' } (fun W' b=>R a b W' nx')) :
  Snd prog w K btab k φ C (gVal P) t R:=by
 intro st sc a st' sc' ob e hob
 exact gVal_inv (R:=fun a st'=>Tri prog w K btab k φ C t st st' (fun W' b=>R a b W' st'.nx)) e hob fun a m' nx'=>h st a m' nx'
theorem bind_inv {α β:Type} {g:G α} {f:α->G β} {a:β} {st st':St} {sc sc':List Ev} {ob:List Prop} {P:Prop} (e:G.bind g f st sc=some (a,st',sc',ob))
  (h:∀ x st1 sc1 o1 o2,g st sc=some (x,st1,sc1,o1)->f x st1 sc1=some (a,st',sc',o2)->o1 ++ o2=ob->P):P:=by
 revert e
 unfold G.bind
 cases q:g st sc with
 | none=>exact fun e=>ns e
 | some y=>
  dsimp only
  cases r:f y.1 y.2.1 y.2.2.1 with
  | none=>exact fun e=>ns e
  | some z=>exact fun e=>h _ _ _ _ _ q (r.trans (by cases e; rfl)) (by cases e; rfl)
theorem snd_ob {α β:Type} {p:Prop} {g:G α} {t:Env->Sem β} {R:α->β->Wd->Nat->Prop} (h:p->Snd prog w K btab k φ C g t R):Snd prog w K btab k φ C (do gOb p; g) t R:=by
 intro st sc a st' sc' ob e hob
 refine bind_inv e fun x s1 c1 o1 o2 e1 e2 eo=>?_
 cases e1
 exact h (hob _ (eo ▸ .head _)) _ _ _ _ _ _ e2 fun q hq=>hob q (eo ▸ .tail _ hq)
end
end
section
set_option backward.match.sparseCases false
section
variable {prog:Program} {w:World} {K:Frag} {btab:List (Str × Value)} {k:Nat} {φ:Fm} {C:Wd->Nat->Prop}
theorem snd_plain {β:Type} {a:AV} {t:Env->Sem β} {R:AV->β->Wd->Nat->Prop}
  (h:∀ W nx,C W nx->∀ (A:Around) (env:Env) (s:Shared) (Q:β->Shared->Prop) (E:Value->Shared->Prop),(∀ b tk,R a b W nx->Q b { s with toks:=tk })->wpAny (model prog w) A (t env) Q E s) :
  Snd prog w K btab k φ C (pure a) t R:=by
 intro st sc a' st' sc' ob e hob W A env s Q E hA hS hF hc hq
 cases e
 exact h W st.nx hc A env s Q E fun b tk r=>hq W s.heap tk b (Nat.le_refl _) (.refl _ _) hS hF r
theorem va_int {W:Wd} {nx:Nat} {i:Int} {v:Value} (h:VA W nx (.d (.int i)) v):∃ t,v=.int i t:=by cases h with | d h=>cases h; exact ⟨_,rfl⟩
theorem va_str {W:Wd} {nx:Nat} {i:Str} {v:Value} (h:VA W nx (.d (.str i)) v):∃ t,v=.str i t:=by cases h with | d h=>cases h; exact ⟨_,rfl⟩
theorem va_bool {W:Wd} {nx:Nat} {i:Bool} {v:Value} (h:VA W nx (.d (.bool i)) v):v=.bool i:=by cases h with | d h=>cases h; rfl
theorem va_none {W:Wd} {nx:Nat} {v:Value} (h:VA W nx (.d .none) v):v=.none:=by cases h with | d h=>cases h; rfl
theorem fdiv_pos (i j:Int) (h:0 < j):i.fdiv j=i / j:=Int.fdiv_eq_ediv_of_nonneg i (Int.le_of_lt h)
theorem fmod_pos (i j:Int) (h:0 < j):i.fmod j=i % j:=Int.fmod_eq_emod_of_nonneg i (Int.le_of_lt h)
theorem intOf_is {a:AV} {i:Int} (e:intOf a=some i):a=.d (.int i):=by
 induction a using AV.casesOn with
 | d x=>induction x using D.casesOn with
  | int n=>exact congrArg (fun n=>AV.d (.int n)) (Option.some.inj e)
  | _=>cases e
 | _=>cases e
theorem strOf_is {a:AV} {i:Str} (e:strOf a=some i):a=.d (.str i):=by
 induction a using AV.casesOn with
 | d x=>induction x using D.casesOn with
  | str n=>exact congrArg (fun n=>AV.d (.str n)) (Option.some.inj e)
  | _=>cases e
 | _=>cases e
theorem snd_ii {a b:AV} {va vb:Value} {i j:Int} {r:D} {f:Value->Value->Sem Value} (ei:intOf a=some i) (ej:intOf b=some j) (ha:∀ W nx,C W nx->VA W nx a va) (hb:∀ W nx,C W nx->VA W nx b vb)
  (h:∀ (t u:Tok) (A:Around) (s:Shared) (Q:Value->Shared->Prop) (E:Value->Shared->Prop),(∀ v tk,(∀ B,VD B r v)->Q v { s with toks:=tk })->wpAny (model prog w) A (f (.int i t) (.int j u)) Q E s) :
  Snd prog w K btab k φ C (pure (.d r)) (fun _=>f va vb) RV:=by
 cases intOf_is ei
 cases intOf_is ej
 refine snd_plain fun W nx c A env s Q E q=>?_
 obtain ⟨t,rfl⟩:=va_int (ha _ _ c)
 obtain ⟨u,rfl⟩:=va_int (hb _ _ c)
 exact h t u A s Q E fun v tk p=>q v tk (.d (p _))
theorem snd_ss {a b:AV} {va vb:Value} {i j:Str} {r:D} {f:Value->Value->Sem Value} (ei:strOf a=some i) (ej:strOf b=some j) (ha:∀ W nx,C W nx->VA W nx a va) (hb:∀ W nx,C W nx->VA W nx b vb)
  (h:∀ (t u:Tok) (A:Around) (s:Shared) (Q:Value->Shared->Prop) (E:Value->Shared->Prop),(∀ v tk,(∀ B,VD B r v)->Q v { s with toks:=tk })->wpAny (model prog w) A (f (.str i t) (.str j u)) Q E s) :
  Snd prog w K btab k φ C (pure (.d r)) (fun _=>f va vb) RV:=by
 cases strOf_is ei
 cases strOf_is ej
 refine snd_plain fun W nx c A env s Q E q=>?_
 obtain ⟨t,rfl⟩:=va_str (ha _ _ c)
 obtain ⟨u,rfl⟩:=va_str (hb _ _ c)
 exact h t u A s Q E fun v tk p=>q v tk (.d (p _))
noncomputable abbrev opOf (g:Bool):Operator->Value->Value->Sem Value:=if g then inplaceOp else binaryOp
theorem opOf_eq (g:Bool) (op:Operator) (va vb:Value):opOf g op va vb=(if g then inplaceOp op va vb else binaryOp op va vb):=by induction g using Bool.casesOn <;> rfl
theorem snd_binV {g:Bool} {op:Operator} {a b:AV} {va vb:Value} (ha:∀ W nx,C W nx->VA W nx a va) (hb:∀ W nx,C W nx->VA W nx b vb) :
  Snd prog w K btab k φ C (gBinV prog w K btab k g op a b) (fun _=>opOf g op va vb) RV:=
 snd_val fun _ _ _ _ hP _ _ _ _ _ _ hA hS hF hc hq=>Act.use hP (fun _ _ _ x=>x.R) hA hS hF trivial ⟨va,vb,(ha _ _ hc).shut,(hb _ _ hc).shut,opOf_eq g op va vb⟩ hq
theorem snd_binI {g:Bool} {op:Operator} {a b:AV} {va vb:Value} {i j:Int} (ei:intOf a=some i) (ej:intOf b=some j) (ha:∀ W nx,C W nx->VA W nx a va) (hb:∀ W nx,C W nx->VA W nx b vb) :
  Snd prog w K btab k φ C (gBinI prog w K btab k g op a b i j) (fun _=>opOf g op va vb) RV:=by
 cases op with
 | Add=>
  refine snd_ii ei ej ha hb fun t u A s Q E q=>?_
  cases g
  ·exact P.add_int (q _ _ fun _=>.int _ _)
  ·exact P.iadd_int (q _ _ fun _=>.int _ _)
 | Sub=>
  refine snd_ii ei ej ha hb fun t u A s Q E q=>?_
  cases g
  ·exact P.sub_int (q _ _ fun _=>.int _ _)
  ·exact P.isub_int (q _ _ fun _=>.int _ _)
 | FloorDiv=>
  refine snd_ob fun hj=>snd_ii ei ej ha hb fun t u A s Q E q=>?_
  have np:Builtin.divisionGoesByPylong i j=false:=PyProof.noPylong_small (by omega)
  have h0:j ≠ 0:=by omega
  rw [<- fdiv_pos i j hj.1] at q
  cases g
  ·exact PyProof.Rows.floordiv_int h0 (q _ _ fun _=>.int _ _) (.inl np)
  ·exact PyProof.Rows.ifloordiv_int h0 (q _ _ fun _=>.int _ _) (.inl np)
 | Mod=>
  refine snd_ob fun hj=>snd_ii ei ej ha hb fun t u A s Q E q=>?_
  have h0:j ≠ 0:=by omega
  rw [<- fmod_pos i j hj] at q
  cases g
  ·exact PyProof.Rows.mod_int' h0 (q _ _ fun _=>.int _ _)
  ·exact PyProof.Rows.imod_int h0 (q _ _ fun _=>.int _ _)
 | _=>exact snd_binV ha hb
theorem snd_bin {g:Bool} {op:Operator} {a b:AV} {va vb:Value} (ha:∀ W nx,C W nx->VA W nx a va) (hb:∀ W nx,C W nx->VA W nx b vb) :
  Snd prog w K btab k φ C (gBin prog w K btab k g op a b) (fun _=>opOf g op va vb) RV:=by
 unfold gBin
 cases ei:intOf a with
 | none=>exact snd_binV ha hb
 | some i=>
  cases ej:intOf b with
  | none=>exact snd_binV ha hb
  | some j=>exact snd_binI ei ej ha hb
theorem snd_cmpV {op:CmpOp} {a b:AV} {va vb:Value} (ha:∀ W nx,C W nx->VA W nx a va) (hb:∀ W nx,C W nx->VA W nx b vb) :
  Snd prog w K btab k φ C (gCmpV prog w K btab k op a b) (fun _=>compareOp op va vb) RV:=by
 refine snd_val fun st r m' nx' hP W A env s Q E hA hS hF hc hq=>?_
 induction r using AV.casesOn with
 | d r=>
  induction r using D.casesOn with
  | bool c=>exact Act.use hP (fun _ _ _ x=>x) hA hS hF trivial ⟨va,vb,(ha _ _ hc).shut,(hb _ _ hc).shut,rfl⟩ fun W' h' tk' b n l S' F' p=>hq W' h' tk' b n l S' F' (p ▸ .d (.bool _))
  | _=>exact hP.elim
 | _=>exact hP.elim
theorem snd_cmpI {op:CmpOp} {a b:AV} {va vb:Value} {i j:Int} (ei:intOf a=some i) (ej:intOf b=some j) (ha:∀ W nx,C W nx->VA W nx a va) (hb:∀ W nx,C W nx->VA W nx b vb) :
  Snd prog w K btab k φ C (gCmpI prog w K btab k op a b i j) (fun _=>compareOp op va vb) RV:=by
 induction op using PySem.CmpOp.casesOn with
 | Lt=>exact snd_ii ei ej ha hb fun t u A s Q E q=>P.lt_int (q _ _ fun _=>.bool _)
 | GtE=>exact snd_ii ei ej ha hb fun t u A s Q E q=>P.ge_int (q _ _ fun _=>.bool _)
 | Eq=>exact snd_ii ei ej ha hb fun t u A s Q E q=>P.eq_int (q _ _ fun _=>.bool _)
 | NotEq=>exact snd_ii ei ej ha hb fun t u A s Q E q=>P.ne_int (q _ _ fun _=>.bool _)
 | _=>exact snd_cmpV ha hb
theorem str_beqD (x y:Str):(x.cps.toList == y.cps.toList)=decide (x=y):=by rw [SeqAt.str_beq]; rfl
theorem snd_cmpS {op:CmpOp} {a b:AV} {va vb:Value} {i j:Str} (ei:strOf a=some i) (ej:strOf b=some j) (ha:∀ W nx,C W nx->VA W nx a va) (hb:∀ W nx,C W nx->VA W nx b vb) :
  Snd prog w K btab k φ C (gCmpS prog w K btab k op a b i j) (fun _=>compareOp op va vb) RV:=by
 induction op using PySem.CmpOp.casesOn with
 | Eq=>exact snd_ss ei ej ha hb fun t u A s Q E q=>P.eq_str (str_beqD i j ▸ q _ _ fun _=>.bool _)
 | NotEq=>exact snd_ss ei ej ha hb fun t u A s Q E q=>P.ne_str (by unfold bne; rw [str_beqD]; exact q _ _ fun _=>.bool _)
 | _=>exact snd_cmpV ha hb
theorem snd_cmp {op:CmpOp} {a b:AV} {va vb:Value} (ha:∀ W nx,C W nx->VA W nx a va) (hb:∀ W nx,C W nx->VA W nx b vb) :
  Snd prog w K btab k φ C (gCmp prog w K btab k op a b) (fun _=>compareOp op va vb) RV:=by
 have rest:Snd prog w K btab k φ C (match strOf a,strOf b with | some i,some j=>gCmpS prog w K btab k op a b i j | _,_=>gCmpV prog w K btab k op a b) (fun _=>compareOp op va vb) RV:=by
  cases ei:strOf a with
  | none=>exact snd_cmpV ha hb
  | some i=>
   cases ej:strOf b with
   | none=>exact snd_cmpV ha hb
   | some j=>exact snd_cmpS ei ej ha hb
 unfold gCmp
 cases ei:intOf a with
 | none=>exact rest
 | some i=>
  cases ej:intOf b with
  | none=>exact rest
  | some j=>exact snd_cmpI ei ej ha hb
theorem snd_truthV {a:AV} {va:Value} (ha:∀ W nx,C W nx->VA W nx a va):Snd prog w K btab k φ C (gTruth prog w K btab k a) (fun _=>truthy va) RB:=by
 intro st sc c st' sc' ob e hob W A env s Q E hA hS hF hc hq
 induction sc using List.casesOn with
 | nil=>cases e
 | cons v r=>
  induction v using Ev.casesOn with
  | br d=>
   cases e
   exact Act.use (hob _ (.head _)) (fun W R b x=>x) hA hS hF trivial ⟨va,(ha _ _ hc).shut,rfl⟩ fun W' h' tk' b n l S' F' p=>hq W' h' tk' b n l S' F' p.symm
  | _=>cases e
theorem snd_truth {a:AV} {va:Value} (ha:∀ W nx,C W nx->VA W nx a va):Snd prog w K btab k φ C (gTrue prog w K btab k a) (fun _=>truthy va) RB:=by
 induction a using AV.casesOn with
 | d x=>
  induction x using D.casesOn with
  | bool b=>
   intro st sc c st' sc' ob e hob W A env s Q E hA hS hF hc hq
   induction sc using List.casesOn with
   | nil=>cases e
   | cons v r=>
    induction v using Ev.casesOn with
    | br d=>
     cases e
     cases va_bool (ha _ _ hc)
     exact wpAny_truthy_bool (hq W s.heap s.toks _ (Nat.le_refl _) (.refl _ _) hS hF (hob _ (.head _)).symm)
    | _=>cases e
  | none=>
   intro st sc c st' sc' ob e hob W A env s Q E hA hS hF hc hq
   cases e
   cases va_none (ha _ _ hc)
   exact wpAny_pure (hq W s.heap s.toks false (Nat.le_refl _) (.refl _ _) hS hF rfl)
  | _=>exact snd_truthV ha
 | _=>exact snd_truthV ha
end
end
section
structure EnvOK (φ:Fm) (env:Env):Prop where
 scope:env.scope=φ.sc
 kind:φ.sc.kind=.function
 globals:env.globals=mainGlobals
 builtins:env.builtins=builtinsNs
noncomputable abbrev RVs:List AV->List Value->Wd->Nat->Prop:=fun as vs W nx=>VAs W nx as vs
theorem Mono.vas (as:List AV) (vs:List Value):Mono fun W nx=>VAs W nx as vs:=fun _ _ _ _ hn hl h=>h.mono hn hl
section
variable {prog:Program} {w:World} {K:Frag} {btab:List (Str × Value)} {k:Nat} {φ:Fm}
theorem FInv.envOK {W:Wd} {env:Env} {st:St} {h:Heap} (F:FInv W φ env st h):EnvOK φ env:=⟨F.scope,F.kind,F.globals,F.builtins⟩
theorem bind_some {α β:Type} {g:G α} {f:α->G β} {st:St} {sc:List Ev} {b:β} {st':St} {sc':List Ev} {ob:List Prop} (e:(g >>= f) st sc=some (b,st',sc',ob)) :
  (Ex5 fun a st1 sc1 ob1 ob2=>A3 (g st sc=some (a,st1,sc1,ob1)) (f a st1 sc1=some (b,st',sc',ob2)) (ob=ob1 ++ ob2)):=
 bind_inv e fun a s1 c1 o1 o2 e1 e2 eo=>⟨a,s1,c1,o1,o2,e1,e2,eo.symm⟩
theorem Snd.cps {α α' β β':Type} {C:Wd->Nat->Prop} {g:G α} {f:α->G α'} {t1:Env->Sem β} {t2:β->Env->Sem β'} {t:Env->Sem β'} {R:α->β->Wd->Nat->Prop} {R':α'->β'->Wd->Nat->Prop} (hC:Mono C)
  (h1:Snd prog w K btab k φ C g t1 R) (h2:∀ a b,Snd prog w K btab k φ (fun W nx=>C W nx /\ R a b W nx) (f a) (t2 b) R')
  (ht:∀ (A:Around) (env:Env) (Q:β'->Shared->Prop) (E:Value->Shared->Prop) (s:Shared),EnvOK φ env->wpAny (model prog w) A (t1 env) (fun b s'=>wpAny (model prog w) A (t2 b env) Q E s') E s->wpAny (model prog w) A (t env) Q E s) :
  Snd prog w K btab k φ C (g >>= f) t R':=by
 intro st sc a' st' sc' ob e hob W A env s Q E hA hS hF hc hq
 obtain ⟨a,st1,sc1,ob1,ob2,e1,e2,rfl⟩:=bind_some e
 have T1:=h1 _ _ _ _ _ _ e1 fun p hp=>hob p (List.mem_append.mpr (.inl hp))
 have T2:=fun b=>h2 a b _ _ _ _ _ _ e2 fun p hp=>hob p (List.mem_append.mpr (.inr hp))
 refine ht A env Q E s hF.envOK (T1 W A env s _ E hA hS hF hc fun W1 hp1 tk1 b n1 l1 S1 F1 R1=>?_)
 refine T2 b W1 A env _ Q E hA S1 F1 ⟨hC _ _ _ _ n1 l1 hc,R1⟩ fun W2 hp2 tk2 c n2 l2 S2 F2 R2=>?_
 exact hq W2 hp2 tk2 c (Nat.le_trans n1 n2) (l1.trans n1 l2) S2 F2 R2
theorem Snd.pureV {α β:Type} {C:Wd->Nat->Prop} {a:α} {b:β} {R:α->β->Wd->Nat->Prop} (h:∀ W nx,C W nx->R a b W nx):Snd prog w K btab k φ C (pure a) (fun _=>pure b) R:=Snd.ret h
set_option tactic.hygienic true in
theorem baseOk_is {o:PySem.Expr}:baseOk o=true->∀ (attr:Str) (env:Env) (whole:Sem Value),attributeBase o attr env whole=whole:=by
 induction o using PySem.Expr.casesOn <;> first | exact fun _ _ _ _=>rfl | exact fun h=>Internal.ft h
theorem starEach_cons {e:PySem.Expr} {r:List PySem.Expr} (env:Env) (h:starFree (e :: r)=true):starEach (e :: r) env=(false,eval e env) :: starEach r env /\ starFree r=true:=by
 induction e using PySem.Expr.casesOn <;> first | exact ⟨rfl,h⟩ | cases h
theorem starEach_any {es:List PySem.Expr} {env:Env} {pos:Pos} (h:starFree es=true):(backTo pos (starEach es env)).any (·.1)=false:=by
 induction es with
 | nil=>rfl
 | cons e r ih=>
  obtain ⟨h1,h2⟩:=starEach_cons env h
  rw [h1]
  show ((false || (backTo pos (starEach r env)).any (·.1)))=false
  rw [ih h2]; rfl
theorem kwNames_cons {n:Str} {v:PySem.Expr} {p:Pos} {r:List Keyword}:kwNames (⟨some n,v,p⟩ :: r)=(kwNames r).map (n :: ·):=by kernel_rfl
theorem kwNames_spec {kws:List Keyword} {ns:List Str} (h:kwNames kws=some ns) (env:Env) (pos:Pos) :
  (backToKw pos (keywordEach kws env)).all (·.1.isSome)=true /\ (backToKw pos (keywordEach kws env)).any (·.1.isNone)=false /\ (backToKw pos (keywordEach kws env)).filterMap (·.1)=ns /\ ns.length=kws.length:=by
 induction kws generalizing ns with
 | nil=>cases h; exact ⟨rfl,rfl,rfl,rfl⟩
 | cons x r ih=>
  obtain ⟨nm,v,p⟩:=x
  induction nm using Option.casesOn with
  | none=>cases h
  | some n=>
   obtain ⟨l,hl,e⟩:=Option.map_eq_some_iff.mp (kwNames_cons.symm.trans h)
   obtain ⟨a,b,c,d⟩:=ih hl
   exact e ▸ ⟨a,b,congrArg (n :: ·) c,congrArg (· + 1) d⟩
theorem gFzLoc_inv {n:Nat} {a:AV} {st st':St} {sc sc':List Ev} {ob:List Prop} {R:AV->St->Prop} (e:gFzLoc n st sc=some (a,st',sc',ob)) (hob:∀ p ∈ ob,p)
  (h1:∀ l,st.m n=.list l->n < st.nx->R (.d (.lst l)) { st with m:=upd st.m n .junk }) (h2:R (.loc n) st):R a st':=by
 cases sc with
 | nil=>exact Internal.ns e
 | cons x r=>cases x with
  | mo o=>cases o with
   | list l=>exact j4 e ▸ i4 e ▸ h1 l (hob _ (o4 e ▸ .head _)) (hob _ (o4 e ▸ .tail _ (.head _)))
   | junk=>exact j4 e ▸ i4 e ▸ h2
   | _=>exact Internal.ns e
  | _=>exact Internal.ns e
theorem va_loc {W:Wd} {nx n:Nat} {v:Value} (h:VA W nx (.loc n) v):v=.ref (W.ι n):=by cases h; rfl
theorem snd_ghost {a:AV} {v:Value} {C:Wd->Nat->Prop} (hv:∀ W nx,C W nx->VA W nx a v):Snd prog w K btab k φ C (gFz a) (fun _=>pure v) RV:=by
 induction a using AV.casesOn with
 | loc n=>
  intro st sc c st' sc' ob e hob
  refine gFzLoc_inv (R:=fun c st'=>Tri prog w K btab k φ C (fun _=>pure v) st st' fun W' b=>VA W' st'.nx c b) e hob (fun l h1 h2 W A env s Q E hA hS hF hc hq=>?_) fun W A env s Q E hA hS hF hc hq=>wpAny_pure (hq _ s.heap s.toks _ (Nat.le_refl _) (.refl _ _) hS hF (hv _ _ hc))
  have y:=hS.obj n h2
  rw [h1] at y
  obtain ⟨vs,nn,ho,hvs⟩:=y
  obtain ⟨S',l',c'⟩:=hS.still h2 (h1 ▸ fun q=>by cases q) ho
  rw [va_loc (hv _ _ hc)]
  exact wpAny_pure (hq _ s.heap s.toks _ (Nat.le_refl _) l' S' (hF.carry (Nat.le_refl _) l' c') (.d (.lst (freeze_at _ _ _) (hvs.mono l'.B))))
 | _=>exact Snd.ret (R:=RV) hv
theorem snd_ghosts:∀ {as:List AV} {vs:List Value} {C:Wd->Nat->Prop},Mono C->(∀ W nx,C W nx->VAs W nx as vs)->Snd prog w K btab k φ C (gFzs as) (fun _=>pure vs) RVs
 | [],vs,C,hC,hv=>by
  intro st sc c st' sc' ob e hob W A env s Q E hA hS hF hc hq
  cases e
  have z:=hv _ _ hc
  cases z
  exact wpAny_pure (hq _ s.heap s.toks _ (Nat.le_refl _) (.refl _ _) hS hF .nil)
 | a :: as,[],C,hC,hv=>by
  intro st sc c st' sc' ob e hob W A env s Q E hA hS hF hc hq
  have z:=hv _ _ hc
  cases z
 | a :: as,v :: vs,C,hC,hv=>by
  unfold gFzs
  refine Snd.cps (t1:=fun _=>pure v) (t2:=fun v' _=>pure vs >>= fun vs'=>pure (v' :: vs')) hC (snd_ghost fun W nx c=>by cases hv W nx c with | cons h _=>exact h) (fun a' v'=>?_) fun A env Q E s _ h=>?_
  ·refine Snd.bind (hC.and (Mono.va _ _)) (snd_ghosts (vs:=vs) (hC.and (Mono.va _ _)) fun W nx c=>by cases hv W nx c.1 with | cons _ r=>exact r) fun as' vs'=>?_
   exact Snd.pureV fun W nx c=>.cons c.1.2 c.2
  ·exact fun Γ p hΓ=>h Γ p hΓ Γ p hΓ
theorem asD_cons {x:D} {r:List AV}:asD (.d x :: r)=(asD r).map (x :: ·):=by kernel_rfl
theorem asD_va {W:Wd} {nx:Nat}:∀ {as:List AV} {l:List D} {vs:List Value},asD as=some l->VAs W nx as vs->VDs W.B l vs
 | [],_,_,e,h=>by cases e; cases h; exact .nil
 | a :: as,l,vs,e,h=>by
  cases h with
  | cons h r=>
   induction a using AV.casesOn with
   | d x=>
    obtain ⟨l',hl,e⟩:=Option.map_eq_some_iff.mp (asD_cons.symm.trans e)
    cases h with | d h=>exact e ▸ .cons h (asD_va hl r)
   | _=>cases e
theorem snd_tup {as:List AV} {vs:List Value} {C:Wd->Nat->Prop} (hv:∀ W nx,C W nx->VAs W nx as vs):Snd prog w K btab k φ C (gTup as) (fun _=>newTuple vs) RV:=by
 unfold gTup
 cases hl:asD as with
 | some l=>
  refine snd_ob fun hlen=>?_
  intro st sc c st' sc' ob e hob W A env s Q E hA hS hF hc hq
  cases e
  have hd:=asD_va hl (hv _ _ hc)
  refine wpAny_newTuple ?_ (by rw [sizeLine_eq,hd.length]; omega)
  obtain ⟨S',l',c'⟩:=hS.alloc (o:={ cls:=.type "tuple",data:=.seq vs.toArray }) rfl
  exact hq _ _ s.toks _ (Nat.le_refl _) l' S' (hF.carry (Nat.le_refl _) l' c') (.d (.tup (freeze_at _ _ _) (hd.mono l'.B)))
 | none=>exact Snd.fail
theorem snd_new {C:Wd->Nat->Prop} {β:Type} {mo:MO} {t:Env->Sem Value} (f:Value->β)
  (h:∀ (st:St) (W:Wd) (A:Around) (env:Env) (s:Shared) (Q:Value->Shared->Prop) (E:Value->Shared->Prop),SInv prog w K btab W st.m st.nx s.heap->C W st.nx ->
   (∀ o tk,MOat prog w (W.lay st.nx s.heap.objs.size) (st.nx+1) mo s.heap.objs.size (s.heap.push o)->Q (.ref s.heap.objs.size) { s with heap:=s.heap.push o,toks:=tk })->wpAny (model prog w) A (t env) Q E s) :
  Snd prog w K btab k φ C (gNew mo) t RV:=by
 intro st sc c st' sc' ob e hob W A env s Q E hA hS hF hc hq
 cases e
 refine h st W A env s Q E hS hc fun o tk ho=>?_
 obtain ⟨S',l',c'⟩:=hS.new ho
 refine hq _ _ tk _ (Nat.le_succ _) l' S' (hF.carry (Nat.le_succ _) l' c') ?_
 have:(W.lay st.nx s.heap.objs.size).ι st.nx=s.heap.objs.size:=upd_at _ _ _
 have z:=VA.loc (W:=W.lay st.nx s.heap.objs.size) (nx:=st.nx+1) (n:=st.nx) (Nat.lt_succ_self _)
 rw [this] at z
 exact z
theorem gPick_inv {b:Bool} {st st':St} {sc sc':List Ev} {ob:List Prop} (e:gPick st sc=some (b,st',sc',ob)):st'=st:=by
 cases sc with
 | nil=>exact ns e
 | cons x r=>cases x with
  | br c=>exact j4 e
  | _=>exact ns e
theorem snd_lst {as:List AV} {vs:List Value} {C:Wd->Nat->Prop} (hv:∀ W nx,C W nx->VAs W nx as vs):Snd prog w K btab k φ C (gLst as) (fun _=>newList vs) RV:=by
 unfold gLst
 cases hl:asD as with
 | some l=>
  refine snd_ob fun hlen=>?_
  intro st sc c st' sc' ob e hob
  refine bind_inv e fun b st1 sc1 ob1 ob2 e1 e2 eo=>?_
  obtain rfl:=gPick_inv e1
  have hob2:∀ p ∈ ob2,p:=fun p hp=>hob p (eo ▸ List.mem_append.mpr (.inr hp))
  have len:∀ {W:Wd} {nx:Nat},C W nx->vs.length<=sizeLine:=fun c=>by rw [sizeLine_eq,(asD_va hl (hv _ _ c)).length]; omega
  induction b using Bool.casesOn with
  | true=>
   refine snd_new (prog:=prog) (w:=w) (K:=K) (btab:=btab) (k:=k) (φ:=φ) (C:=C) (mo:=.list l) (t:=fun _=>newList vs) id (fun st W A env s Q E hS hc q=>?_) _ _ _ _ _ _ e2 hob2
   have hd:=asD_va hl (hv _ _ hc)
   exact wpAny_newList (q _ s.toks ⟨vs,0,Heap.get?_push_size _ rfl,hd⟩) (len hc)
  | false=>
   intro W A env s Q E hA hS hF hc hq
   cases e2
   refine wpAny_newList ?_ (len hc)
   obtain ⟨S',l',c'⟩:=hS.alloc (o:={ cls:=.type "list",data:=.seq vs.toArray }) rfl
   exact hq _ _ s.toks _ (Nat.le_refl _) l' S' (hF.carry (Nat.le_refl _) l' c') (.d (.lst (freeze_at _ _ _) ((asD_va hl (hv _ _ hc)).mono l'.B)))
 | none=>exact Snd.fail
end
end
section
noncomputable abbrev PT (β:Type):=Around->(β->Shared->Prop)->(Value->Shared->Prop)->Shared->Prop
section
variable (prog:Program) (w:World) (K:Frag) (btab:List (Str × Value))
noncomputable abbrev Lf {β:Type} (tr:Sem β):PT β:=fun A Q E s=>wpAny (model prog w) A tr Q E s
noncomputable def SndT {α β:Type} (k:Nat) (φ:Fm) (C:Wd->Nat->Prop) (g:G α) (t:Env->PT β) (R:α->β->Wd->Nat->Prop):Prop:=
 ∀ st sc a st' sc' ob,g st sc=some (a,st',sc',ob)->(∀ p ∈ ob,p)->∀ (W:Wd) (A:Around) (env:Env) (s:Shared) (Q:β->Shared->Prop) (E:Value->Shared->Prop),
  AOK k A->SInv prog w K btab W st.m st.nx s.heap->FInv W φ env st s.heap->C W st.nx ->
  (∀ W' h' tk' b,st.nx<=st'.nx->Wd.le st.nx W W'->SInv prog w K btab W' st'.m st'.nx h'->FInv W' φ env st' h'->R a b W' st'.nx->Q b { s with heap:=h',toks:=tk' }) ->
  t env A Q E s
noncomputable def callTail (f:Value) (n:Nat) (pos:List Value) (kw:List (Str × Value)):Sem Value:=do
 let r <- match <- keeperOf f,false with
  | .frame,true=>callMarked starredCall f pos kw
  | .frame,false=>if n > 30 then call f pos kw else callMarked plainCall f pos kw
  | .boundFrame,false=>if n > 30 then call f pos kw else callMarked callOfAMethodObject f pos kw
  | .machine,false=>call f pos kw
  | _,_=>operate (f :: (if false then pos.reverse else pos) ++ kw.map (·.2)) (call f pos kw)
 holding [r] point
 pure r
end
section
variable {prog:Program} {w:World} {K:Frag} {btab:List (Str × Value)} {k:Nat} {φ:Fm} {C:Wd->Nat->Prop}
theorem Snd.T {α β:Type} {g:G α} {t:Env->Sem β} {R:α->β->Wd->Nat->Prop} (h:Snd prog w K btab k φ C g t R):SndT prog w K btab k φ C g (fun env=>Lf prog w (t env)) R:=
 fun st sc a st' sc' ob e hob=>h st sc a st' sc' ob e hob
theorem SndT.cps {α α' β β':Type} {g:G α} {f:α->G α'} {t1:Env->PT β} {t2:β->Env->PT β'} {t:Env->PT β'} {R:α->β->Wd->Nat->Prop} {R':α'->β'->Wd->Nat->Prop} (hC:Mono C)
  (h1:SndT prog w K btab k φ C g t1 R) (h2:∀ a b,SndT prog w K btab k φ (fun W nx=>C W nx /\ R a b W nx) (f a) (t2 b) R')
  (ht:∀ (A:Around) (env:Env) (Q:β'->Shared->Prop) (E:Value->Shared->Prop) (s:Shared),EnvOK φ env->t1 env A (fun b s'=>t2 b env A Q E s') E s->t env A Q E s) :
  SndT prog w K btab k φ C (g >>= f) t R':=by
 intro st sc a' st' sc' ob e hob W A env s Q E hA hS hF hc hq
 obtain ⟨a,st1,sc1,ob1,ob2,e1,e2,rfl⟩:=bind_some e
 have T1:=h1 _ _ _ _ _ _ e1 fun p hp=>hob p (List.mem_append.mpr (.inl hp))
 have T2:=fun b=>h2 a b _ _ _ _ _ _ e2 fun p hp=>hob p (List.mem_append.mpr (.inr hp))
 refine ht A env Q E s hF.envOK (T1 W A env s _ E hA hS hF hc fun W1 hp1 tk1 b n1 l1 S1 F1 R1=>?_)
 refine T2 b W1 A env _ Q E hA S1 F1 ⟨hC _ _ _ _ n1 l1 hc,R1⟩ fun W2 hp2 tk2 c n2 l2 S2 F2 R2=>?_
 exact hq W2 hp2 tk2 c (Nat.le_trans n1 n2) (l1.trans n1 l2) S2 F2 R2
theorem SndT.tree {α β:Type} {g:G α} {t t':Env->PT β} {R:α->β->Wd->Nat->Prop} (h:SndT prog w K btab k φ C g t R)
  (ht:∀ (A:Around) (env:Env) (Q:β->Shared->Prop) (E:Value->Shared->Prop) (s:Shared),EnvOK φ env->t env A Q E s->t' env A Q E s):SndT prog w K btab k φ C g t' R:=by
 intro st sc a' st' sc' ob e hob W A env s Q E hA hS hF hc hq
 exact ht A env Q E s hF.envOK (h _ _ _ _ _ _ e hob W A env s Q E hA hS hF hc hq)
theorem SndT.pureV {α β:Type} {a:α} {b:β} {R:α->β->Wd->Nat->Prop} (h:∀ W nx,C W nx->R a b W nx):SndT prog w K btab k φ C (pure a) (fun _ _ Q _ s=>Q b s) R:=by
 intro st sc a' st' sc' ob e hob W A env s Q E hA hS hF hc hq
 cases e
 exact hq W s.heap s.toks b (Nat.le_refl _) (.refl _ _) hS hF (h _ _ hc)
theorem SndT.failV {α β:Type} {t:Env->PT β} {R:α->β->Wd->Nat->Prop}:SndT prog w K btab k φ C (G.fail:G α) t R:=by
 intro st sc a st' sc' ob e
 cases e
theorem callWith_tail {M:Model} {A:Around} {E:Value->Shared->Prop} {s:Shared} {pos:Pos} {f:Value} {first:List Value} {Q:Value->Shared->Prop} {args:List (Bool × Sem Value)} {keywords:List (Option Str × Sem Value)} (hplain:(args.any (·.1) || keywords.any (·.1.isNone))=false)
  (h:wpAny M A (evalArgs f true args keywords) (fun a s₁=>wpAny M A (callTail f (args.length+2 * keywords.length) (first ++ a.pos) a.kw) Q E s₁) E s):wpAny M A (callWith pos f first args keywords) Q E s:=by
 unfold callWith
 refine wpAny_bind (wpAny_holding (wpAny_mono h (fun a s₁ h₁=>wpAny_bind (wpAny_standAt ?_)) fun _ _ x=>x))
 rw [hplain]
 exact h₁
theorem callTail_of {M:Model} {A:Around} {E:Value->Shared->Prop} {s:Shared} {f:Value} {n:Nat} {Q:Value->Shared->Prop} {pos:List Value} {kw:List (Str × Value)}
  (hk:∃ k,(k=Keeper.frame \/ k=Keeper.machine \/ k=Keeper.boundFrame) /\ Looks M s.heap (keeperOf f) k) (h:wpAny M A (call f pos kw) Q E s):wpAny M A (callTail f n pos kw) Q E s:=by
 unfold callTail
 obtain ⟨k,hk',L⟩:=hk
 refine wpAny_bind (L.here ?_)
 have tail:∀ {t:Sem Value},wpAny M A t Q E s->wpAny M A (t >>= fun r=>holding [r] point >>= fun _=>pure r) Q E s:=
  fun ht=>wpAny_bind (wpAny_mono ht (fun r s₂ hr=>wpAny_bind (wpAny_holding (wpAny_point (wpAny_pure hr)))) fun _ _ x=>x)
 have marked (mk:Value):wpAny M A (callMarked mk f pos kw) Q E s:=by unfold callMarked; exact Calls.wpAny_keep h
 rcases hk' with rfl | rfl | rfl <;> dsimp only <;> first | exact tail h | (split <;> first | exact tail h | exact tail (marked _))
theorem callee_looks {M:Model} {W:Wd} {m:Nat->MO} {nx:Nat} {h:Heap} {a:AV} {f:Value} (S:SInv prog w K btab W m nx h) (hv:VA W nx a f) (hc:calleeOk K a=true) :
  ∃ k,(k=Keeper.frame \/ k=Keeper.machine \/ k=Keeper.boundFrame) /\ Looks M h (keeperOf f) k:=by
 induction a using AV.casesOn with
 | k v=>
  induction v using Value.casesOn with
  | builtin _=>cases hv; exact ⟨.machine,.inr (.inl rfl),.now⟩
  | type _=>cases hv; exact ⟨.machine,.inr (.inl rfl),.now⟩
  | ref a=>cases hv; exact keeps_K (f:=.ref a) hc h S.facts.1
  | _=>exact ft hc
 | fn _ _ _ _=>
  cases hv with
  | fn ho hcl hd=>
   refine ⟨.frame,.inl rfl,(Looks.ld (part:=none) (S.base _ _ ho)).andThen ?_⟩
   rw [hd]; exact .now
 | _=>exact ft hc
theorem snd_callTail {f:AV} {as ks:List AV} {ns:List Str} {vf:Value} {vs kvs:List Value} {n:Nat} (hc:calleeOk K f=true) (hl:ns.length=ks.length)
  (h:∀ W nx,C W nx->VA W nx f vf /\ VAs W nx as vs /\ VAs W nx ks kvs) :
  Snd prog w K btab k φ C (gVal fun m nx r m' nx'=>CallTr prog w K btab k f as (ns.zip ks) m nx r m' nx') (fun _=>callTail vf n vs (ns.zip kvs)) RV:=by
 refine snd_val fun st r m' nx' hP W A env s Q E hA hS hF hc' hq=>?_
 obtain ⟨h1,h2,h3⟩:=h _ _ hc'
 refine callTail_of (callee_looks hS h1 hc) ?_
 have e1:(ns.zip ks).map (·.2)=ks:=by rw [List.map_snd_zip]; omega
 have e2:(ns.zip ks).map (·.1)=ns:=by rw [List.map_fst_zip]; omega
 exact Act.use hP (fun W R b x=>x.R) hA hS hF trivial ⟨vf,vs,kvs,h1.shut,h2.R,by rw [e1]; exact h3.R,by rw [e2]⟩ fun W' h' tk' b n l S' F' p=>hq W' h' tk' b n l S' F' p
end
end
section
section
variable (prog:Program) (w:World) (K:Frag) (btab:List (Str × Value)) (k:Nat)
structure OKT (T:EvT):Prop where
 ev:∀ {C:Wd->Nat->Prop} (φ:Fm) (e:PySem.Expr),Mono C->SndT prog w K btab k φ C (T.ev φ e) (fun env=>Lf prog w (eval e env)) RV
 tv:∀ {C:Wd->Nat->Prop} (φ:Fm) (e:PySem.Expr),Mono C->SndT prog w K btab k φ C (T.tv φ e) (fun env=>Lf prog w (isTrue e env (eval e env))) RB
end
section
variable {prog:Program} {w:World} {K:Frag} {btab:List (Str × Value)} {k:Nat} {φ:Fm} {C:Wd->Nat->Prop} {T:EvT}
theorem snd_plainT {β:Type} {a:AV} {t:Env->PT β} {R:AV->β->Wd->Nat->Prop}
  (h:∀ W nx,C W nx->∀ (A:Around) (env:Env) (s:Shared) (Q:β->Shared->Prop) (E:Value->Shared->Prop),(∀ b tk,R a b W nx->Q b { s with toks:=tk })->t env A Q E s) :
  SndT prog w K btab k φ C (pure a) t R:=by
 intro st sc a' st' sc' ob e hob W A env s Q E hA hS hF hc hq
 cases e
 exact h W st.nx hc A env s Q E fun b tk r=>hq W s.heap tk b (Nat.le_refl _) (.refl _ _) hS hF r
theorem snd_gif {α β:Type} {b:Bool} {g h:G α} {t:Env->PT β} {R:α->β->Wd->Nat->Prop} (h1:b=true->SndT prog w K btab k φ C g t R) (h2:b=false->SndT prog w K btab k φ C h t R):SndT prog w K btab k φ C (gIf b g h) t R:=by
 cases b
 ·exact h2 rfl
 ·exact h1 rfl
theorem snd_gopt {α β γ:Type} {o:Option γ} {f:γ->G α} {h:G α} {t:Env->PT β} {R:α->β->Wd->Nat->Prop} (h1:∀ x,o=some x->SndT prog w K btab k φ C (f x) t R) (h2:o=none->SndT prog w K btab k φ C h t R):SndT prog w K btab k φ C (gOpt o f h) t R:=by
 cases o
 ·exact h2 rfl
 ·exact h1 _ rfl
theorem snd_way {α β:Type} {g:Bool->G α} {t:Bool->Env->PT β} {R:α->β->Wd->Nat->Prop} (hC:Mono C) (h:∀ b {C:Wd->Nat->Prop},Mono C->(∀ W nx,C W nx->True)->SndT prog w K btab k φ C (g b) (t b) R) (a b:Bool):SndT prog w K btab k φ (fun W nx=>C W nx /\ RB a b W nx) (g a) (t b) R:=by
 have key:a=b->SndT prog w K btab k φ (fun W nx=>C W nx /\ RB a b W nx) (g a) (t b) R:=fun e=>by
  cases e
  exact h a (hC.and fun _ _ _ _ _ _ h=>h) fun _ _ _=>trivial
 exact fun st sc x st' sc' ob e hob W A env s Q E hA hS hF hc hq=>key hc.2 st sc x st' sc' ob e hob W A env s Q E hA hS hF hc hq
noncomputable def boRest (op:BoolOp) (t:Bool) (x y:Prop):Prop:=match op,t with
 | .And,false=>x
 | .Or,true=>x
 | _,_=>y
theorem ok_evs (ih:OKT prog w K btab k T) (φ:Fm) (pos:Pos):∀ (es:List PySem.Expr) {C:Wd->Nat->Prop},Mono C->starFree es=true ->
  SndT prog w K btab k φ C (evsL (T.ev φ) es) (fun env=>Lf prog w (spliced (backTo pos (starEach es env)))) RVs:=by
 intro es
 induction es with
 | nil=>exact fun _ _=>SndT.tree (SndT.pureV (b:=[]) fun _ _ _=>.nil) fun A env Q E s _ h=>wpAny_items_nil h
 | cons e r hr=>
  intro C hC hs
  refine SndT.cps hC (ih.ev φ e hC) (t2:=fun v env A Q E s=>wpAny (model prog w) A (spliced (backTo pos (starEach r env))) (fun vs s₂=>Q (v :: vs) s₂) E s) (fun a v=>?_) fun A env Q E s _ h=>wpAny_items_cons h (starEach_cons env hs).1
  exact SndT.cps (hC.and (Mono.va _ _)) (hr (hC.and (Mono.va _ _)) (starEach_cons default hs).2) (t2:=fun vs _ _ Q _ s=>Q (v :: vs) s) (fun as vs=>SndT.pureV fun W nx c=>.cons c.1.2 c.2) fun A env Q E s _ h=>h
theorem ok_evk (ih:OKT prog w K btab k T) (φ:Fm) (pos:Pos):∀ (kws:List Keyword) (ns:List Str) {C:Wd->Nat->Prop},Mono C->kwNames kws=some ns ->
  SndT prog w K btab k φ C (evsL (T.ev φ) (kws.map (·.value))) (fun env=>Lf prog w (evalAll ((backToKw pos (keywordEach kws env)).map (·.2)))) RVs:=by
 intro kws
 induction kws with
 | nil=>exact fun _ _ _ _=>SndT.tree (SndT.pureV (b:=[]) fun _ _ _=>.nil) fun A env Q E s _ h=>kwAll_nil h
 | cons x r hr=>
  intro ns C hC hs
  obtain ⟨nm,v,p⟩:=x
  induction nm using Option.casesOn with
  | none=>cases hs
  | some nm=>
   unfold kwNames at hs
   cases hl:kwNames r with
   | none=>rw [hl] at hs; cases hs
   | some l=>
    refine SndT.cps hC (ih.ev φ v hC) (t2:=fun v env A Q E s=>wpAny (model prog w) A (evalAll ((backToKw pos (keywordEach r env)).map (·.2))) (fun vs s₂=>Q (v :: vs) s₂) E s) (fun a v=>?_) fun A env Q E s _ h=>kwAll_cons h
    exact SndT.cps (hC.and (Mono.va _ _)) (hr l (hC.and (Mono.va _ _)) hl) (t2:=fun vs _ _ Q _ s=>Q (v :: vs) s) (fun as vs=>SndT.pureV fun W nx c=>.cons c.1.2 c.2) fun A env Q E s _ h=>h
theorem ok_evo (ih:OKT prog w K btab k T) (φ:Fm) (o:Option PySem.Expr) (hC:Mono C):SndT prog w K btab k φ C (evoL (T.ev φ) o) (fun env=>Lf prog w (evalPart o env)) RV:=by
 induction o using Option.casesOn with
 | none=>exact SndT.tree (SndT.pureV (b:=.none) fun _ _ _=>.d .none) fun A env Q E s _ h=>wpAny_pure h
 | some e=>exact ih.ev φ e hC
theorem ok_tvs (ih:OKT prog w K btab k T) (φ:Fm) (op:BoolOp):∀ (xs:List PySem.Expr) {C:Wd->Nat->Prop},Mono C->SndT prog w K btab k φ C (tvsL (T.tv φ) op xs) (fun env=>Lf prog w (allTrue op xs env)) RB:=by
 intro xs
 induction xs with
 | nil=>exact fun _=>SndT.tree (SndT.pureV (b:=op == .And) fun _ _ _=>rfl) fun A env Q E s _ h=>wpAny_pure h
 | cons x r hr=>
  intro C hC
  refine SndT.cps hC (ih.tv φ x hC) (t2:=fun b env A Q E s=>boRest op b (Q b s) (wpAny (model prog w) A (allTrue op r env) Q E s)) (fun a b=>snd_way (g:=fun t=>gBool op t (pure t) (tvsL (T.tv φ) op r)) (t:=fun b env A Q E s=>boRest op b (Q b s) (wpAny (model prog w) A (allTrue op r env) Q E s)) hC (fun b _ hC _=>?_) a b) fun A env Q E s _ h=>?_
  ·cases op <;> cases b
   ·exact SndT.pureV fun W nx c=>rfl
   ·exact hr hC
   ·exact hr hC
   ·exact SndT.pureV fun W nx c=>rfl
  ·rw [arm_allTrue_cons]
   refine wpAny_bind (wpAny_mono h (fun b s₁ h₁=>?_) fun _ _ x=>x)
   cases op <;> cases b <;> first | exact wpAny_pure h₁ | exact h₁
theorem ok_if {β:Type} (ih:OKT prog w K btab k T) (φ:Fm) {t:PySem.Expr} {α:Type} {gb go:G α} {tb to:Env->PT β} {R:α->β->Wd->Nat->Prop} (hC:Mono C)
  (hb:∀ {C:Wd->Nat->Prop},Mono C->SndT prog w K btab k φ C gb tb R) (ho:∀ {C:Wd->Nat->Prop},Mono C->SndT prog w K btab k φ C go to R) {T':Env->PT β}
  (hT:∀ (A:Around) (env:Env) (Q:β->Shared->Prop) (E:Value->Shared->Prop) (s:Shared),wpAny (model prog w) A (isTrue t env (eval t env)) (fun x s'=>if x then tb env A Q E s' else to env A Q E s') E s->T' env A Q E s) :
  SndT prog w K btab k φ C (do let c <- T.tv φ t; gIf c gb go) T' R:=
 SndT.cps hC (ih.tv φ t hC) (t2:=fun x env A Q E s=>if x then tb env A Q E s else to env A Q E s) (fun a x=>snd_way (g:=fun c=>gIf c gb go) (t:=fun x env A Q E s=>if x then tb env A Q E s else to env A Q E s) hC (fun b _ hC _=>by
  cases b
  ·exact SndT.tree (ho hC) fun A env Q E s _ h=>h
  ·exact SndT.tree (hb hC) fun A env Q E s _ h=>h) a x) fun A env Q E s _ h=>hT A env Q E s h
theorem one_is {α:Type} {l:List α} {x:α} (e:one l=some x):l = [x]:=by
 induction l using List.casesOn with
 | nil=>cases e
 | cons a r=>induction r using List.casesOn with
  | nil=>exact congrArg (fun a=>[a]) (Option.some.inj e)
  | cons=>cases e
theorem two_is {α:Type} {l:List α} {x:α × α} (e:two l=some x):l = [x.1,x.2]:=by
 induction l using List.casesOn with
 | nil=>cases e
 | cons a r=>induction r using List.casesOn with
  | nil=>cases e
  | cons b r=>induction r using List.casesOn with
   | nil=>exact congrArg (fun a:α × α=>[a.1,a.2]) (Option.some.inj e)
   | cons=>cases e
theorem marks_free (op:CmpOp) {r:PySem.Expr} (h:setFree r=true):behindInMarks op r=false:=by
 induction r using PySem.Expr.casesOn <;> first | rfl | cases h
theorem ok_cmp (ih:OKT prog w K btab k T) (φ:Fm) (l:PySem.Expr) (ops:List CmpOp) (rs:List PySem.Expr) (hC:Mono C) {t:Env->PT Value}
  (ht:∀ op r,behindInMarks op r=false->ops = [op]->rs = [r]->∀ (A:Around) (env:Env) (Q:Value->Shared->Prop) (E:Value->Shared->Prop) (s:Shared),wpAny (model prog w) A (eval l env) (fun va s₁=>wpAny (model prog w) A (eval r env) (fun vb s₂=>wpAny (model prog w) A (compareOp op va vb) Q E s₂) E s₁) E s->t env A Q E s) :
  SndT prog w K btab k φ C (evCmp prog w K btab T k φ l ops rs) t RV:=by
 refine snd_gopt (fun op eo=>snd_gopt (fun r er=>snd_gif (fun hsf=>?_) fun _=>SndT.failV) fun _=>SndT.failV) fun _=>SndT.failV
 refine SndT.cps hC (ih.ev φ l hC) (t2:=fun va env A Q E s=>wpAny (model prog w) A (eval r env) (fun vb s₂=>wpAny (model prog w) A (compareOp op va vb) Q E s₂) E s) (fun a va=>?_) fun A env Q E s _ h=>ht op r (marks_free op hsf) (one_is eo) (one_is er) A env Q E s h
 refine SndT.cps (hC.and (Mono.va _ _)) (ih.ev φ r (hC.and (Mono.va _ _))) (t2:=fun vb env A Q E s=>wpAny (model prog w) A (compareOp op va vb) Q E s) (fun b vb=>?_) fun A env Q E s _ h=>h
 exact Snd.T (snd_cmp (fun W nx c=>c.1.2) fun W nx c=>c.2)
theorem ok_tvPlain (ih:OKT prog w K btab k T) (φ:Fm) (e:PySem.Expr) (hC:Mono C) (ht:∀ env,isTrue e env (eval e env)=(do let v <- eval e env; standAt e.pos; holding [v] (truthy v))) :
  SndT prog w K btab k φ C (tvPlain prog w K btab T k φ e) (fun env=>Lf prog w (isTrue e env (eval e env))) RB:=
 SndT.cps hC (ih.ev φ e hC) (t2:=fun v env A Q E s=>wpAny (model prog w) A (truthy v) Q E s) (fun a v=>Snd.T (snd_truth fun W nx c=>c.2)) fun A env Q E s _ h=>wpAny_isTrue_value h (ht env)
theorem not_not {op:UnaryOp} (h:(op == .Not)=false) {x:PySem.Expr} {p:Pos} (env:Env):isTrue (.UnaryOp op x p) env (eval (.UnaryOp op x p) env)=(do let v <- eval (.UnaryOp op x p) env; standAt (PySem.Expr.UnaryOp op x p).pos; holding [v] (truthy v)):=by
 cases op <;> first | rfl | cases h
theorem ok_tv (ih:OKT prog w K btab k T) (φ:Fm) (e:PySem.Expr) (hC:Mono C) :
  SndT prog w K btab k φ C (stepTv prog w K btab T k φ e) (fun env=>Lf prog w (isTrue e env (eval e env))) RB:=by
 cases e with
 | UnaryOp op x p=>
  refine snd_gif (fun ho=>?_) fun ho=>ok_tvPlain ih φ _ hC (not_not ho)
  cases eq_of_beq ho
  exact SndT.cps hC (ih.tv φ x hC) (t2:=fun b _ _ Q _ s=>Q (!b) s) (fun a b=>SndT.pureV fun W nx c=>congrArg _ c.2) fun A env Q E s _ h=>wpAny_isTrue_Not h
 | BoolOp op xs p=>exact SndT.tree (ok_tvs ih φ op xs hC) fun A env Q E s _ h=>wpAny_isTrue_BoolOp h
 | IfExp t b o p=>
  refine ok_if ih φ (tb:=fun env=>Lf prog w (isTrue b env (eval b env))) (to:=fun env=>Lf prog w (isTrue o env (eval o env))) hC (fun hC=>ih.tv φ b hC) (fun hC=>ih.tv φ o hC) fun A env Q E s h=>?_
  ·show wpAny (model prog w) A (isTrue _ _ _) Q E s
   rw [arm_isTrue_IfExp]
   refine wpAny_bind (wpAny_mono h (fun b s₁ h₁=>?_) fun _ _ x=>x)
   induction b using Bool.casesOn <;> exact h₁
 | Compare l ops rs p=>
  by_cases hl:(Ex2 fun op r=>A3 (ops = [op]) (rs = [r]) (behindInMarks op r=false))
  ·obtain ⟨op,r,rfl,rfl,hm⟩:=hl
   refine SndT.cps hC (t1:=fun env A Q E s=>wpAny (model prog w) A (eval l env) (fun va s₁=>wpAny (model prog w) A (eval r env) (fun vb s₂=>wpAny (model prog w) A (compareOp op va vb) Q E s₂) E s₁) E s)
    (ok_cmp ih φ l [op] [r] hC fun op' r' _ e1 e2 A env Q E s h=>by cases e1; cases e2; exact h) (t2:=fun c env A Q E s=>wpAny (model prog w) A (truthy c) Q E s) (fun c vc=>Snd.T (snd_truth fun W nx c=>c.2)) fun A env Q E s _ h=>wpAny_isTrue_Compare1 h hm
  ·exact SndT.cps hC (t1:=fun _ _ _ _ _=>False) (R:=RV) (ok_cmp ih φ l ops rs hC fun op r hm e1 e2=>(hl ⟨op,r,e1,e2,hm⟩).elim) (t2:=fun c env A Q E s=>wpAny (model prog w) A (truthy c) Q E s) (fun c vc=>Snd.T (snd_truth fun W nx c=>c.2)) fun A env Q E s _ h=>h.elim
 | _=>exact ok_tvPlain ih φ _ hC fun _=>rfl
end
end
section
section
variable {prog:Program} {w:World} {K:Frag} {btab:List (Str × Value)} {k:Nat} {φ:Fm} {C:Wd->Nat->Prop} {T:EvT}
theorem names_len {kws:List Keyword} {ns:List Str} (h:kwNames kws=some ns):ns.length=kws.length:=(kwNames_spec h default default).2.2.2
theorem evs_len {f:PySem.Expr->G AV}:∀ {es:List PySem.Expr} {st:St} {sc:List Ev} {as:List AV} {st':St} {sc':List Ev} {ob:List Prop},evsL f es st sc=some (as,st',sc',ob)->as.length=es.length:=by
 intro es
 induction es with
 | nil=>intro st sc as st' sc' ob e; cases e; rfl
 | cons x r ih=>
  intro st sc as st' sc' ob e
  obtain ⟨a,st1,sc1,ob1,ob2,e1,e2,-⟩:=bind_some (show (f x >>= fun a=>evsL f r >>= fun as=>pure (a :: as)) st sc=_ from e)
  obtain ⟨as',st2,sc2,ob3,ob4,e3,e4,-⟩:=bind_some e2
  cases e4
  exact congrArg (· + 1) (ih e3)
theorem SndT.cpsL {α α' β β':Type} {g:G α} {f:α->G α'} {t1:Env->PT β} {t2:β->Env->PT β'} {t:Env->PT β'} {R:α->β->Wd->Nat->Prop} {R':α'->β'->Wd->Nat->Prop} (hC:Mono C) (P:α->Prop)
  (hP:∀ st sc a st' sc' ob,g st sc=some (a,st',sc',ob)->P a)
  (h1:SndT prog w K btab k φ C g t1 R) (h2:∀ a b,P a->SndT prog w K btab k φ (fun W nx=>C W nx /\ R a b W nx) (f a) (t2 b) R')
  (ht:∀ (A:Around) (env:Env) (Q:β'->Shared->Prop) (E:Value->Shared->Prop) (s:Shared),EnvOK φ env->t1 env A (fun b s'=>t2 b env A Q E s') E s->t env A Q E s) :
  SndT prog w K btab k φ C (g >>= f) t R':=by
 intro st sc a' st' sc' ob e hob W A env s Q E hA hS hF hc hq
 obtain ⟨a,st1,sc1,ob1,ob2,e1,e2,rfl⟩:=bind_some e
 have T1:=h1 _ _ _ _ _ _ e1 fun p hp=>hob p (List.mem_append.mpr (.inl hp))
 have T2:=fun b=>h2 a b (hP _ _ _ _ _ _ e1) _ _ _ _ _ _ e2 fun p hp=>hob p (List.mem_append.mpr (.inr hp))
 refine ht A env Q E s hF.envOK (T1 W A env s _ E hA hS hF hc fun W1 hp1 tk1 b n1 l1 S1 F1 R1=>?_)
 refine T2 b W1 A env _ Q E hA S1 F1 ⟨hC _ _ _ _ n1 l1 hc,R1⟩ fun W2 hp2 tk2 c n2 l2 S2 F2 R2=>?_
 exact hq W2 hp2 tk2 c (Nat.le_trans n1 n2) (l1.trans n1 l2) S2 F2 R2
theorem snd_gmeth {o:AV} {vo:Value} {name:Str} {pl:Env->Sem Bool} (ho:∀ W nx,C W nx->VA W nx o vo) :
  SndT prog w K btab k φ C (gMeth prog w K btab k o name) (fun env=>Lf prog w (getMethod vo name (pl env))) (fun a b W nx=>VA W nx a.1 b.1 /\ VAs W nx a.2 b.2):=by
 have key:∀ {st:St} {f:AV} {first:List AV} {m:Nat->MO} {nx:Nat} {ob:List Prop},(∀ p ∈ (MethTr prog w K btab k o name st.m st.nx f first nx m :: ob),p)->Tri prog w K btab k φ C (fun env=>getMethod vo name (pl env)) st { st with m:=m,nx:=nx } (fun W' b=>VA W' nx f b.1 /\ VAs W' nx first b.2):=
  fun hob W A env s Q E hA hS hF hc hq=>Act.use (hob _ (.head _)) (fun W R b x=>⟨x.1.R,x.2.R⟩) hA hS hF trivial ⟨vo,pl env,(ho _ _ hc).shut,rfl⟩ hq
 intro st sc a st' sc' ob e hob
 induction sc using List.casesOn with
 | nil=>cases e
 | cons v r=>
  induction v using Ev.casesOn with
  | val f m0 nx0=>
   induction r using List.casesOn with
   | nil=>cases e
   | cons v2 r=>
    induction v2 using Ev.casesOn with
    | val b m nx=>
     induction b using AV.casesOn with
     | d b=>
      induction b using D.casesOn with
      | bool b=>
       cases b
       ·cases e; exact key hob
       ·cases e; exact key hob
      | _=>cases e
     | _=>cases e
    | _=>cases e
  | _=>cases e
theorem Mono.av (f:AV) (as:List AV) (v:Value) (vs:List Value):Mono fun W nx=>VA W nx f v /\ VAs W nx as vs:=Mono.and (Mono.va _ _) (Mono.vas _ _)
theorem snd_args (ih:OKT prog w K btab k T) (φ:Fm) {args:List PySem.Expr} {kws:List Keyword} {ns:List Str} {f:AV} {first:List AV} {vf:Value} {vfirst:List Value} (pos:Pos) (hC:Mono C)
  (hsf:starFree args=true) (hk:kwNames kws=some ns) (hf:∀ W nx,C W nx->VA W nx f vf /\ VAs W nx first vfirst) :
  SndT prog w K btab k φ C (gArgs prog w K btab T k φ f first args kws ns)
   (fun env=>Lf prog w (callWith pos vf vfirst (backTo pos (starEach args env)) (backToKw pos (keywordEach kws env)))) RV:=by
 refine snd_gif (fun hc=>?_) fun _=>SndT.failV
 refine SndT.cps hC (ok_evs ih φ pos args hC hsf) (t2:=fun vs env A Q E s=>wpAny (model prog w) A (evalAll ((backToKw pos (keywordEach kws env)).map (·.2))) (fun kvs s₂=>
  wpAny (model prog w) A (callTail vf ((backTo pos (starEach args env)).length+2 * (backToKw pos (keywordEach kws env)).length) (vfirst ++ vs) (ns.zip kvs)) Q E s₂) E s) (fun as vs=>?_) fun A env Q E s _ h=>?_
 ·refine SndT.cpsL (hC.and (Mono.vas _ _)) (fun ks=>ks.length=kws.length) (fun st sc a st' sc' ob e=>(evs_len e).trans (List.length_map _)) (ok_evk ih φ pos kws ns (hC.and (Mono.vas _ _)) hk)
   (t2:=fun kvs env A Q E s=>wpAny (model prog w) A (callTail vf ((backTo pos (starEach args env)).length+2 * (backToKw pos (keywordEach kws env)).length) (vfirst ++ vs) (ns.zip kvs)) Q E s) (fun ks kvs hl=>?_) fun A env Q E s _ h=>h
  have hlen:=names_len hk
  intro st sc a st' sc' ob e hob W A env s Q E
  exact Snd.T (snd_callTail (C:=fun W nx=>(C W nx /\ RVs as vs W nx) /\ RVs ks kvs W nx) (n:=(backTo pos (starEach args env)).length+2 * (backToKw pos (keywordEach kws env)).length) (vf:=vf) (vs:=vfirst ++ vs) (kvs:=kvs) hc (hlen.trans hl.symm) fun W nx c=>⟨(hf _ _ c.1.1).1,(hf _ _ c.1.1).2.append c.1.2,c.2⟩) st sc a st' sc' ob e hob W A env s Q E
 ·obtain ⟨k1,k2,k3,k4⟩:=kwNames_spec hk env pos
  refine callWith_tail (by rw [starEach_any hsf,k2]; rfl) ?_
  induction args using List.casesOn with
  | nil=>
   refine evalArgs_kw2_nil k1 ?_
   rw [k3]
   exact fun Γ p hΓ=>h Γ p hΓ Γ p hΓ
  | cons e r=>
   refine evalArgs_kw2 k1 ?_ (starEach_cons env hsf).1
   rw [k3]
   exact h
theorem snd_oracle {e:PySem.Expr} {g:G AV} (h:∀ st sc a st' sc' ob,g st sc=some (a,st',sc',ob)->ob = [ETr prog w K btab k φ e st a st']):SndT prog w K btab k φ C g (fun env=>Lf prog w (eval e env)) RV:=by
 intro st sc a st' sc' ob e' hob W A env s Q E hA hS hF hc hq
 cases h _ _ _ _ _ _ e'
 exact hob _ (.head _) W A env s Q E hA hS hF trivial hq
theorem comp_oracle {e:PySem.Expr}:SndT prog w K btab k φ C (gComp prog w K btab k φ e) (fun env=>Lf prog w (eval e env)) RV:=
 snd_oracle fun st sc a st' sc' ob e=>by
  induction sc using List.casesOn with
  | nil=>cases e
  | cons v r=>induction v using Ev.casesOn with
   | val=>cases e; rfl
   | _=>cases e
theorem subscripted_plain {slice:PySem.Expr} (h:∀ a b c p,slice=.Slice a b c p->False) (o i:Value):subscripted slice false o i=operate [o,i] (getItem o i):=by
 induction slice using PySem.Expr.casesOn <;> first | rfl | exact (h _ _ _ _ rfl).elim
theorem wpAny_Call_attr {M:Model} {A:Around} {E:Value->Shared->Prop} {s:Shared} {env:Env} {o:PySem.Expr} {name:Str} {apos pos:Pos} {args:List PySem.Expr} {kws:List Keyword} {Q:Value->Shared->Prop} (hb:baseOk o=true)
  (hform:methodCallForm (args.length+kws.length) (backTo pos (starEach args env)) (backToKw pos (keywordEach kws env))=true) (hp:(apos.endLine == pos.line)=true)
  (h:wpAny M A (eval o env) (fun vo s₁=>wpAny M A (getMethod vo name (do return (<- importBound o env).getD true)) (fun fp s₂=>wpAny M A (callWith pos fp.1 fp.2 (backTo pos (starEach args env)) (backToKw pos (keywordEach kws env))) Q E s₂) E s₁) E s) :
  wpAny M A (eval (.Call (.Attribute o name apos) args kws pos) env) Q E s:=by
 rw [arm_eval_Call,baseOk_is hb]
 refine wpAny_bind (wpAny_mono h (fun vo s₁ h₁=>wpAny_bind (wpAny_standAt ?_)) fun _ _ x=>x)
 unfold methodCall calleeOf
 rw [hform]
 refine wpAny_bind (wpAny_holding (wpAny_mono h₁ (fun fp s₂ h₂=>?_) fun _ _ x=>x))
 obtain ⟨f,first⟩:=fp
 unfold methodCallPos
 rw [hp]
 exact wpAny_bind (wpAny_pure h₂)
theorem form_ok {args:List PySem.Expr} {kws:List Keyword} {ns:List Str} (hs:starFree args=true) (hk:kwNames kws=some ns) (hn:Nat.ble (args.length+kws.length) 20=true) (pos:Pos) (env:Env) :
  methodCallForm (args.length+kws.length) (backTo pos (starEach args env)) (backToKw pos (keywordEach kws env))=true:=by
 unfold methodCallForm
 rw [(kwNames_spec hk env pos).1,Bool.and_true]
 have h1:(backTo pos (starEach args env)).all (!·.1)=true:=by
  have:=starEach_any (env:=env) (pos:=pos) hs
  rw [List.all_eq_not_any_not]
  simpa using this
 rw [h1,Bool.true_and,decide_eq_true_eq]
 have:=Nat.le_of_ble_eq_true hn
 split <;> omega
theorem attrOf_is {e:PySem.Expr} {q:PySem.Expr × Str × Pos} (h:attrOf e=some q):e=.Attribute q.1 q.2.1 q.2.2:=by
 induction e using PySem.Expr.casesOn with
 | Attribute=>cases h; rfl
 | _=>cases h
theorem sliceOf_is {e:PySem.Expr} {q:Option PySem.Expr × Option PySem.Expr × Option PySem.Expr × Pos} (h:sliceOf e=some q):e=.Slice q.1 q.2.1 q.2.2.1 q.2.2.2:=by
 induction e using PySem.Expr.casesOn with
 | Slice=>cases h; rfl
 | _=>cases h
theorem call_plain {f:PySem.Expr} (h:attrOf f=none) (args:List PySem.Expr) (kws:List Keyword) (pos:Pos) (env:Env):eval (.Call f args kws pos) env=(do callWith pos (<- eval f env) [] (backTo pos (starEach args env)) (backToKw pos (keywordEach kws env))):=by
 induction f using PySem.Expr.casesOn with
 | Attribute=>cases h
 | _=>rfl
theorem ok_call (ih:OKT prog w K btab k T) (φ:Fm) (f:PySem.Expr) (args:List PySem.Expr) (kws:List Keyword) (pos:Pos) (hC:Mono C) :
  SndT prog w K btab k φ C (evCall prog w K btab T k φ f args kws pos) (fun env=>Lf prog w (eval (.Call f args kws pos) env)) RV:=by
 refine snd_gopt (fun ns hk=>snd_gif (fun hs=>snd_gopt (fun q hq=>snd_gif (fun hb=>?_) fun _=>SndT.failV) fun hn=>?_) fun _=>SndT.failV) fun _=>SndT.failV
 ·cases attrOf_is hq
  obtain ⟨o,name,apos⟩:=q
  rw [Bool.and_eq_true,Bool.and_eq_true] at hb
  refine SndT.cps hC (ih.ev φ o hC) (t2:=fun vo env A Q E s=>wpAny (model prog w) A (getMethod vo name (do return (<- importBound o env).getD true)) (fun fp s₂=>wpAny (model prog w) A (callWith pos fp.1 fp.2 (backTo pos (starEach args env)) (backToKw pos (keywordEach kws env))) Q E s₂) E s)
   (fun a vo=>?_) fun A env Q E s _ h=>wpAny_Call_attr hb.1.1 (form_ok hs hk hb.2 pos env) hb.1.2 h
  exact SndT.cps (hC.and (Mono.va _ _)) (snd_gmeth (vo:=vo) (pl:=fun env=>do return (<- importBound o env).getD true) fun W nx c=>c.2) (t2:=fun fp env A Q E s=>wpAny (model prog w) A (callWith pos fp.1 fp.2 (backTo pos (starEach args env)) (backToKw pos (keywordEach kws env))) Q E s)
   (fun fp vfp=>snd_args ih φ pos ((hC.and (Mono.va _ _)).and (Mono.av _ _ _ _)) hs hk fun W nx c=>c.2) fun A env Q E s _ h=>h
 ·refine SndT.cps hC (ih.ev φ f hC) (t2:=fun vf env A Q E s=>wpAny (model prog w) A (callWith pos vf [] (backTo pos (starEach args env)) (backToKw pos (keywordEach kws env))) Q E s) (fun vf' vf=>snd_args (first:=[]) ih φ pos (hC.and (Mono.va _ _)) hs hk fun W nx c=>⟨c.2,.nil⟩) fun A env Q E s _ h=>?_
  show wpAny (model prog w) A (eval (.Call f args kws pos) env) Q E s
  rw [call_plain hn]
  exact wpAny_bind h
theorem ok_sub (ih:OKT prog w K btab k T) (φ:Fm) (o i:PySem.Expr) (q:Pos) (hC:Mono C) :
  SndT prog w K btab k φ C (evSub prog w K btab T k φ o i) (fun env=>Lf prog w (eval (.Subscript o i q) env)) RV:=by
 refine snd_gopt (fun z hz=>snd_gif (fun hn=>?_) fun _=>SndT.failV) fun hn=>?_
 ·cases sliceOf_is hz
  obtain ⟨l,u,st,p⟩:=z
  induction st using Option.casesOn with
  | some=>cases hn
  | none=>
   refine SndT.cps hC (ih.ev φ o hC) (t2:=fun vo env A Q E s=>wpAny (model prog w) A (evalPart l env) (fun vl s₂=>wpAny (model prog w) A (evalPart u env) (fun vu s₃=>wpAny (model prog w) A (newFields "slice" [vl,vu,.none] >>= fun i=>subscriptTail o (.Slice l u none p) vo i) Q E s₃) E s₂) E s)
    (fun a vo=>?_) fun A env Q E s _ h=>?_
   ·refine SndT.cps (hC.and (Mono.va _ _)) (ok_evo ih φ l (hC.and (Mono.va _ _))) (t2:=fun vl env A Q E s=>wpAny (model prog w) A (evalPart u env) (fun vu s₃=>wpAny (model prog w) A (newFields "slice" [vl,vu,.none] >>= fun i=>subscriptTail o (.Slice l u none p) vo i) Q E s₃) E s)
     (fun b vl=>?_) fun A env Q E s _ h=>h
    refine SndT.cps ((hC.and (Mono.va _ _)).and (Mono.va _ _)) (ok_evo ih φ u ((hC.and (Mono.va _ _)).and (Mono.va _ _))) (t2:=fun vu env A Q E s=>wpAny (model prog w) A (newFields "slice" [vl,vu,.none] >>= fun i=>subscriptTail o (.Slice l u none p) vo i) Q E s)
     (fun c vu=>?_) fun A env Q E s _ h=>h
    exact Snd.T (t:=fun _=>newFields "slice" [vl,vu,.none] >>= fun i=>subscriptTail o (.Slice l u none p) vo i) (snd_val fun st r m' nx' hP W A env s Q E hA hS hF hc hq=>Act.use hP (fun W R b x=>x.R) hA hS hF trivial ⟨vo,vl,vu,o,.Slice l u none p,fun _ _=>rfl,hc.1.1.2.shut,hc.1.2.shut,hc.2.shut,rfl⟩ hq)
   ·refine Subscript_ (wpAny_mono h (fun vo s₁ h₁=>?_) fun _ _ x=>x)
    rw [arm_eval_Slice]
    refine wpAny_bind (wpAny_mono h₁ (fun vl s₂ h₂=>wpAny_bind (wpAny_holding (wpAny_mono h₂ (fun vu s₃ h₃=>?_) fun _ _ x=>x))) fun _ _ x=>x)
    refine wpAny_bind (wpAny_holding (wpAny_pure ?_))
    exact wpAny_newObj_type (h₃ ·) (by size_fits)
 ·have hne:∀ a b c p,i=.Slice a b c p->False:=fun a b c p e=>by cases e; cases hn
  refine SndT.cps hC (ih.ev φ o hC) (t2:=fun vo env A Q E s=>wpAny (model prog w) A (eval i env) (fun vi s₂=>wpAny (model prog w) A (subscriptTail o i vo vi) Q E s₂) E s) (fun a vo=>?_) fun A env Q E s _ h=>Subscript_ h
  refine SndT.cps (hC.and (Mono.va _ _)) (ih.ev φ i (hC.and (Mono.va _ _))) (t2:=fun vi env A Q E s=>wpAny (model prog w) A (subscriptTail o i vo vi) Q E s) (fun b vi=>?_) fun A env Q E s _ h=>h
  exact Snd.T (t:=fun _=>subscriptTail o i vo vi) (snd_val fun st r m' nx' hP W A env s Q E hA hS hF hc hq=>Act.use hP (fun W R b x=>x.R) hA hS hF trivial ⟨vo,vi,o,i,subscripted_plain hne,hc.1.2.shut,hc.2.shut,rfl⟩ hq)
theorem ok_const (v:Const) (kd:Nat) (p:Pos):SndT prog w K btab k φ C (gOpt (constD v) (fun d=>pure (.d d)) G.fail) (fun env=>Lf prog w (eval (.Constant v kd p) env)) RV:=by
 induction v using PySem.Const.casesOn with
 | int i=>exact snd_plainT fun W nx c A env s Q E q=>wpAny_Constant_int (q (.int _ _) _ (.d (.int _ _)))
 | str x=>exact snd_plainT fun W nx c A env s Q E q=>PySem.wpAny_Constant_str (q (.str _ _) _ (.d (.str _ _)))
 | none=>exact snd_plainT fun W nx c A env s Q E q=>PySem.wpAny_Constant_none (q .none s.toks (.d .none))
 | bool b=>exact snd_plainT fun W nx c A env s Q E q=>PySem.wpAny_Constant_bool (q (.bool _) s.toks (.d (.bool _)))
 | _=>exact SndT.failV
theorem negOf_is {op:UnaryOp} {x:PySem.Expr} {i:Int} (h:negOf op x=some i):op=.USub /\ ∃ kd p,x=.Constant (.int i) kd p:=by
 induction op using PySem.UnaryOp.casesOn with
 | USub=>
  induction x using PySem.Expr.casesOn with
  | Constant v kd p=>
   induction v using PySem.Const.casesOn with
   | int j=>cases h; exact ⟨rfl,_,_,rfl⟩
   | _=>cases h
  | _=>cases h
 | _=>cases h
theorem ok_boolop (ih:OKT prog w K btab k T) (φ:Fm) (op:BoolOp) (x y:PySem.Expr) (p:Pos) (hC:Mono C) :
  SndT prog w K btab k φ C (do let a <- T.ev φ x; let t <- gTrue prog w K btab k a; gBool op t (pure a) (T.ev φ y)) (fun env=>Lf prog w (eval (.BoolOp op [x,y] p) env)) RV:=by
 refine SndT.cps hC (ih.ev φ x hC) (t2:=fun v env A Q E s=>wpAny (model prog w) A (truthy v) (fun t s₂=>boRest op t (Q v s₂) (wpAny (model prog w) A (eval y env) Q E s₂)) E s) (fun a va=>?_) fun A env Q E s _ h=>?_
 ·refine SndT.cps (hC.and (Mono.va _ _)) (Snd.T (snd_truth fun W nx c=>c.2)) (t2:=fun t env A Q E s=>boRest op t (Q va s) (wpAny (model prog w) A (eval y env) Q E s)) (fun t t'=>?_) fun A env Q E s _ h=>h
  have key:t=t'->SndT prog w K btab k φ (fun W nx=>(C W nx /\ RV a va W nx) /\ RB t t' W nx) (gBool op t (pure a) (T.ev φ y)) (fun env A Q E s=>boRest op t' (Q va s) (wpAny (model prog w) A (eval y env) Q E s)) RV:=fun e=>by
   cases e
   have hC2:Mono fun W nx=>(C W nx /\ RV a va W nx) /\ RB t t W nx:=(hC.and (Mono.va _ _)).and (fun _ _ _ _ _ _ h=>h)
   cases op <;> cases t
   ·exact SndT.pureV fun W nx c=>c.1.2
   ·exact ih.ev φ y hC2
   ·exact ih.ev φ y hC2
   ·exact SndT.pureV fun W nx c=>c.1.2
  exact fun st sc a' st' sc' ob e hob W A env s Q E hA hS hF hc hq=>key hc.2 st sc a' st' sc' ob e hob W A env s Q E hA hS hF hc hq
 ·cases op
  ·refine wpAny_And2 (wpAny_mono h (fun v s₁ h₁=>wpAny_mono h₁ (fun t s₂ h₂=>?_) fun _ _ x=>x) fun _ _ x=>x)
   induction t using Bool.casesOn <;> exact h₂
  ·refine wpAny_Or2 (wpAny_mono h (fun v s₁ h₁=>wpAny_mono h₁ (fun t s₂ h₂=>?_) fun _ _ x=>x) fun _ _ x=>x)
   induction t using Bool.casesOn <;> exact h₂
theorem snd_pick:SndT (β:=Bool) prog w K btab k φ C gPick (fun _ _ Q _ s=>∀ b:Bool,Q b s) (fun _ _ _ _=>True):=by
 intro st sc a st' sc' ob e hob W A env s Q E hA hS hF hc hq b
 induction sc using List.casesOn with
 | nil=>cases e
 | cons v r=>induction v using Ev.casesOn with
  | br d=>cases e; exact hq W s.heap s.toks b (Nat.le_refl _) (.refl _ _) hS hF trivial
  | _=>cases e
theorem ok_ev (ih:OKT prog w K btab k T) (φ:Fm) (e:PySem.Expr) (hC:Mono C) :
  SndT prog w K btab k φ C (stepEv prog w K btab T k φ e) (fun env=>Lf prog w (eval e env)) RV:=by
 cases e with
 | Constant v kd p=>exact ok_const v kd p
 | Name x p=>
  refine snd_gif (fun hx=>?_) fun hx=>SndT.tree (Snd.T (snd_name x)) fun A env Q E s _ h=>PySem.wpAny_Name h hx
  rw [eq_of_beq hx]
  exact snd_plainT fun W nx c A env s Q E q=>wpAny_bind (wpAny_standAt (by rw [if_pos (beq_self_eq_true _)]; exact wpAny_bind (wpAny_rule (wpAny_pure (q (.bool true) s.toks (.d (.bool _)))))))
 | BinOp l op r p=>
  refine SndT.cps hC (ih.ev φ l hC) (t2:=fun va env A Q E s=>wpAny (model prog w) A (eval r env) (fun vb s₂=>wpAny (model prog w) A (binaryOp op va vb) Q E s₂) E s) (fun a va=>?_) fun A env Q E s _ h=>wpAny_BinOp h
  refine SndT.cps (hC.and (Mono.va _ _)) (ih.ev φ r (hC.and (Mono.va _ _))) (t2:=fun vb env A Q E s=>wpAny (model prog w) A (binaryOp op va vb) Q E s) (fun b vb=>?_) fun A env Q E s _ h=>h
  exact Snd.T (snd_bin (g:=false) (fun W nx c=>c.1.2) fun W nx c=>c.2)
 | UnaryOp op x p=>
  refine snd_gopt (fun i hi=>?_) fun _=>SndT.failV
  obtain ⟨rfl,kd,q,rfl⟩:=negOf_is hi
  exact snd_plainT fun W nx c A env s Q E q=>PySem.wpAny_UnaryOp (wpAny_Constant_int (PyProof.Rows.neg_int (q (.int _ _) _ (.d (.int _ _)))))
 | BoolOp op xs p=>
  refine snd_gopt (fun z hz=>?_) fun _=>SndT.failV
  cases two_is hz
  exact ok_boolop ih φ op z.1 z.2 p hC
 | IfExp t b o p=>exact ok_if ih φ (tb:=fun env=>Lf prog w (eval b env)) (to:=fun env=>Lf prog w (eval o env)) hC (fun hC=>ih.ev φ b hC) (fun hC=>ih.ev φ o hC) fun A env Q E s h=>wpAny_IfExp h
 | Compare l ops rs p=>
  exact ok_cmp ih φ l ops rs hC fun op r hm e1 e2 A env Q E s h=>by cases e1; cases e2; exact wpAny_Compare1 h hm
 | Call f args kws pos=>exact ok_call ih φ f args kws pos hC
 | Attribute o name p=>
  refine snd_gif (fun hb=>?_) fun _=>SndT.failV
  refine SndT.cps hC (ih.ev φ o hC) (t2:=fun vo env A Q E s=>wpAny (model prog w) A (getAttr vo name true) Q E s) (fun a vo=>?_) fun A env Q E s _ h=>?_
  ·exact Snd.T (t:=fun _=>getAttr vo name true) (snd_val fun st r m' nx' hP W A env s Q E hA hS hF hc hq=>Act.use hP (fun W R b x=>x.R) hA hS hF trivial ⟨vo,true,hc.2.shut,rfl⟩ hq)
  ·refine Attribute_any_ h ?_
   rw [arm_eval_Attribute,baseOk_is hb]
 | Subscript o i p=>exact ok_sub ih φ o i p hC
 | List es p=>
  refine snd_gif (fun hs=>?_) fun _=>SndT.failV
  refine SndT.cps hC (ok_evs ih φ p es hC hs) (t2:=fun vs env A Q E s=>wpAny (model prog w) A (newList vs) Q E s) (fun as vs=>Snd.T (snd_lst fun W nx c=>c.2)) fun A env Q E s _ h=>?_
  show wpAny (model prog w) A (eval _ env) Q E s
  rw [arm_eval_List]
  exact wpAny_bind (wpAny_standAt (wpAny_bind h))
 | Tuple es x1 p=>
  refine snd_gif (fun hs=>?_) fun _=>SndT.failV
  refine SndT.cps hC (ok_evs ih φ p es hC hs) (t2:=fun vs env A Q E s=>wpAny (model prog w) A (newTuple vs) Q E s) (fun as vs=>?_) fun A env Q E s _ h=>?_
  ·exact SndT.cps (hC.and (Mono.vas _ _)) (Snd.T (snd_ghosts (vs:=vs) (hC.and (Mono.vas _ _)) fun W nx c=>c.2)) (t2:=fun vs env A Q E s=>wpAny (model prog w) A (newTuple vs) Q E s) (fun bs vs'=>Snd.T (snd_tup fun W nx c=>c.2)) fun A env Q E s _ h=>(fun Γ p hΓ=>h Γ p hΓ Γ p hΓ)
  ·show wpAny (model prog w) A (eval _ env) Q E s
   rw [arm_eval_Tuple]
   exact wpAny_bind (wpAny_standAt (wpAny_bind h))
 | Dict ks vs p=>
  refine snd_gif (fun he=>?_) fun _=>SndT.failV
  rw [Bool.and_eq_true,List.isEmpty_iff,List.isEmpty_iff] at he
  cases he.1
  cases he.2
  exact SndT.cps hC snd_pick (t2:=fun (_:Bool) env=>Lf prog w (eval (.Dict [] [] p) env)) (fun a b=>snd_gif (fun _=>Snd.T (snd_new id fun st W A env s Q E hS hc q=>wpAny_Dict_empty (q _ s.toks ⟨[],Heap.DictOf.new _,rfl,.nil,hS.newAt⟩)))
   fun _=>Snd.T (snd_new id fun st W A env s Q E hS hc q=>wpAny_Dict_empty (q _ s.toks ⟨[],Heap.DictOf.new _,rfl,.nil,hS.newAt⟩))) fun A env Q E s _ h=>h true
 | ListComp a b c d=>exact comp_oracle
 | DictComp a a' b c d=>exact comp_oracle
 | Lambda ps body sc pos=>
  refine snd_oracle fun st s a st' sc' ob e=>?_
  change gLam prog w K btab k φ ps body sc pos st s=_ at e
  unfold gLam at e
  cases hf:freeCaps (nameNow φ st) sc.names with
  | none=>rw [hf] at e; cases e
  | some l=>rw [hf] at e; cases e; rfl
 | _=>exact SndT.failV
theorem okn:∀ n,OKT prog w K btab k (evN prog w K btab k n)
 | 0=>⟨fun φ e _=>SndT.failV,fun φ e _=>SndT.failV⟩
 | n+1=>⟨fun φ e hC=>ok_ev (okn n) φ e hC,fun φ e hC=>ok_tv (okn n) φ e hC⟩
end
end
section
noncomputable def rngD (a b c:Int):List D:=(List.range (Builtin.Range.rangeSize a b c).toNat).map fun (i:Nat)=>.int (a+i * c)
noncomputable def strD (s:Str):List D:=s.cps.toList.map fun c=>.str ⟨#[c]⟩
noncomputable def DSrc (m:Nat->MO) (nx:Nat):AV->List D->Prop
 | .d (.tup l),ds=>ds=l
 | .d (.lst l),ds=>ds=l
 | .d (.str s),ds=>ds=strD s
 | .d (.rng a b c),ds=>Builtin.Range.small a b c=true /\ ds=rngD a b c
 | .loc n,ds=>n < nx /\ m n=.list ds
 | _,_=>False
class inductive ItO (W:Wd):AV->Nat->Obj->Prop
 | tup {l:List D} {t:Addr} {i:Nat} {o:Obj} (hv:VD W.B (.tup l) (.ref t)) (hc:o.cls=.type "tuple_iterator") (hd:o.data=.fields #[.ref t,.int i 0]):ItO W (.d (.tup l)) i o
 | lst {l:List D} {t:Addr} {i:Nat} {o:Obj} (hv:VD W.B (.lst l) (.ref t)) (hc:o.cls=.type "list_iterator") (hd:o.data=.fields #[.ref t,.int i 0]):ItO W (.d (.lst l)) i o
 | loc {n:Nat} {i:Nat} {o:Obj} (hc:o.cls=.type "list_iterator") (hd:o.data=.fields #[.ref (W.ι n),.int i 0]):ItO W (.loc n) i o
 | stra {x:Str} {t:Tok} {i:Nat} {o:Obj} (hc:o.cls=.type "str_ascii_iterator") (hd:o.data=.fields #[.str x t,.int i 0]):ItO W (.d (.str x)) i o
 | strw {x:Str} {t:Tok} {i:Nat} {o:Obj} (hc:o.cls=.type "str_iterator") (hd:o.data=.fields #[.str x t,.int i 0]):ItO W (.d (.str x)) i o
 | rng {a b c:Int} {i:Nat} {o:Obj} (ho:o = { cls:=.type "range_iterator",dict:=none,data:=.fields #[rawInt (a+i * c),rawInt (Builtin.Range.rangeSize a b c - i),rawInt c],slots:=#[] }):ItO W (.d (.rng a b c)) i o
theorem ItO.mono {W W':Wd} {m:Nat->MO} {nx:Nat} {a:AV} {ds:List D} {i:Nat} {o:Obj} (h:ItO W a i o) (hs:DSrc m nx a ds) (l:Wd.le nx W W'):ItO W' a i o:=by
 induction h using ItO.casesOn with
 | tup hv hc hd=>exact .tup (hv.mono l.B) hc hd
 | lst hv hc hd=>exact .lst (hv.mono l.B) hc hd
 | loc hc hd=>exact .loc hc (by rw [l.ι _ hs.1]; exact hd)
 | stra hc hd=>exact .stra hc hd
 | strw hc hd=>exact .strw hc hd
 | rng ho=>exact .rng ho
theorem ItO.fields {W:Wd} {a:AV} {i:Nat} {o:Obj} (h:ItO W a i o):∃ vs,o.data=.fields vs:=by
 induction h using ItO.casesOn with
 | tup hv hc hd=>exact ⟨_,hd⟩
 | lst hv hc hd=>exact ⟨_,hd⟩
 | loc hc hd=>exact ⟨_,hd⟩
 | stra hc hd=>exact ⟨_,hd⟩
 | strw hc hd=>exact ⟨_,hd⟩
 | rng ho=>subst ho; exact ⟨_,rfl⟩
section
variable {prog:Program} {w:World} {K:Frag} {btab:List (Str × Value)} {A:Around} {E:Value->Shared->Prop} {s:Shared} {W:Wd} {m:Nat->MO} {nx:Nat}
theorem tup_at {h:Heap} (S:SInv prog w K btab W m nx h) {l:List D} {t:Addr} (hv:VD W.B (.tup l) (.ref t)):∃ vs:List Value,IsTup h t vs.toArray /\ VDs W.B l vs:=by
 cases hv with | tup ho hv=>exact ⟨_,⟨_,S.base _ _ ho,rfl,_,rfl⟩,hv⟩
theorem lst_at {h:Heap} (S:SInv prog w K btab W m nx h) {l:List D} {t:Addr} (hv:VD W.B (.lst l) (.ref t)):∃ vs:List Value,h.IsList t vs.toArray /\ VDs W.B l vs:=by
 cases hv with | lst ho hv=>exact ⟨_,⟨_,S.base _ _ ho,rfl,_,rfl⟩,hv⟩
theorem loc_at {h:Heap} (S:SInv prog w K btab W m nx h) {l:List D} {n:Nat} (hn:n < nx) (hm:m n=.list l):∃ vs:List Value,h.IsList (W.ι n) vs.toArray /\ VDs W.B l vs:=by
 have:=S.obj n hn
 rw [hm] at this
 obtain ⟨vs,k,ho,hv⟩:=this
 exact ⟨vs,⟨_,ho,rfl,_,rfl⟩,hv⟩
theorem loc_ex {h:Heap} (S:SInv prog w K btab W m nx h) {l:List D} {n:Nat} (hn:n < nx) (hm:m n=.list l):(Ex2 fun (vs:List Value) (k:Nat)=>h.get? (W.ι n)=some (lstObj vs k) /\ VDs W.B l vs):=by
 have:=S.obj n hn
 rw [hm] at this
 exact this
set_option tactic.hygienic true in
theorem iter_start {a:AV} {v:Value} {ds:List D} {Q:Value->Shared->Prop} (S:SInv prog w K btab W m nx s.heap) (hv:VA W nx a v) (hs:DSrc m nx a ds)
  (h:∀ o,ItO W a 0 o->o.isFreed=false->Q (.ref s.heap.objs.size) { s with heap:=s.heap.push o }):wpAny (model prog w) A (pyIter v) Q E s:=by
 induction hv using VA.casesOn with
 | loc hn=>
  rename_i n
  obtain ⟨vs,hl,_⟩:=loc_at S hn hs.2
  exact wpAny_pyIter_list hl (h _ (.loc rfl rfl) rfl)
 | k v=>exact hs.elim
 | bm=>exact hs.elim
 | fn=>exact hs.elim
 | d hv=>
  induction hv using VD.casesOn with
  | none=>exact hs.elim
  | bool=>exact hs.elim
  | int=>exact hs.elim
  | str x t=>
   cases ha:x.cps.all (· < 128) with
   | true=>exact wpAny_pyIter_ascii ha (h _ (.stra rfl rfl) rfl)
   | false=>exact wpAny_pyIter_wide ha (h _ (.strw rfl rfl) rfl)
  | tup ho hv=>
   have ht:IsTup s.heap _ _:=⟨_,S.base _ _ ho,rfl,_,rfl⟩
   exact iter_tuple ht (h _ (.tup (.tup ho hv) rfl rfl) rfl)
  | lst ho hv=>
   have hl:s.heap.IsList _ _:=⟨_,S.base _ _ ho,rfl,_,rfl⟩
   exact wpAny_pyIter_list hl (h _ (.lst (.lst ho hv) rfl rfl) rfl)
  | rng ho=>
   refine wpAny_pyIter_range (S.base _ _ ho) hs.1 (h _ (.rng ?_) rfl)
   simp
set_option tactic.hygienic true in
theorem iter_item {a:AV} {ds:List D} {it:Addr} {i:Nat} {o:Obj} {x:D} {Q:Option Value->Shared->Prop} (S:SInv prog w K btab W m nx s.heap) (hs:DSrc m nx a ds) (ho:s.heap.get? it=some o) (hi:ItO W a i o) (hx:ds[i]? = some x)
  (h:∀ v o' h' tk,VD W.B x v->h'.get? it=some o'->ItO W a (i+1) o'->Heap.SameBut it s.heap h'->Q (some v) { s with heap:=h',toks:=tk }):wpAny (model prog w) A (pyNext (.ref it)) Q E s:=by
 cases hi with
 | tup hv hc hd=>
  obtain ⟨vs,ht,hvs⟩:=tup_at S hv
  obtain rfl:ds=_:=hs
  obtain ⟨v,e1,e2⟩:=hvs.get hx
  exact next_tuple_item ⟨o,ho,hc,hd⟩ ht (by simpa using e1) fun h' ⟨o',u1,u2,u3⟩ hsb=>h v o' h' s.toks e2 u1 (.tup hv u2 u3) hsb
 | lst hv hc hd=>
  obtain ⟨vs,ht,hvs⟩:=lst_at S hv
  obtain rfl:ds=_:=hs
  obtain ⟨v,e1,e2⟩:=hvs.get hx
  exact wpAny_pyNext_list_item ⟨o,ho,hc,hd⟩ ht (by simpa using e1) fun h' ⟨o',u1,u2,u3⟩ hsb=>h v o' h' s.toks e2 u1 (.lst hv u2 u3) hsb
 | loc hc hd=>
  obtain ⟨vs,ht,hvs⟩:=loc_at S hs.1 hs.2
  obtain ⟨v,e1,e2⟩:=hvs.get hx
  exact wpAny_pyNext_list_item ⟨o,ho,hc,hd⟩ ht (by simpa using e1) fun h' ⟨o',u1,u2,u3⟩ hsb=>h v o' h' s.toks e2 u1 (.loc u2 u3) hsb
 | stra hc hd=>
  rename_i x' t
  obtain rfl:ds=strD x':=hs
  unfold strD at hx
  rw [List.getElem?_map] at hx
  cases e:x'.cps.toList[i]? with
  | none=>rw [e] at hx; cases hx
  | some c=>
   rw [e] at hx; cases hx
   exact wpAny_pyNext_ascii_item ⟨o,ho,hc,hd⟩ (by simpa using e) fun h' ⟨o',u1,u2,u3⟩ hsb=>h _ o' h' _ (.str _ _) u1 (.stra u2 u3) hsb
 | strw hc hd=>
  rename_i x' t
  obtain rfl:ds=strD x':=hs
  unfold strD at hx
  rw [List.getElem?_map] at hx
  cases e:x'.cps.toList[i]? with
  | none=>rw [e] at hx; cases hx
  | some c=>
   rw [e] at hx; cases hx
   exact wpAny_pyNext_wide_item ⟨o,ho,hc,hd⟩ (by simpa using e) fun h' ⟨o',u1,u2,u3⟩ hsb=>h _ o' h' _ (.str _ _) u1 (.strw u2 u3) hsb
 | rng ho'=>
  rename_i a b c
  obtain ⟨hsm,rfl⟩:=hs
  unfold rngD at hx
  rw [List.getElem?_map] at hx
  have hlt:i < (Builtin.Range.rangeSize a b c).toNat:=by
   rcases Nat.lt_or_ge i (Builtin.Range.rangeSize a b c).toNat with q | q
   ·exact q
   ·rw [List.getElem?_eq_none (by simpa using q)] at hx; cases hx
  rw [List.getElem?_range hlt] at hx
  cases hx
  subst ho'
  refine wpAny_pyNext_range_item ho (by omega) fun h' e hsb=>?_
  refine h _ _ h' _ (.int _ _) e (.rng ?_) hsb
  have e1:a+(i:Int) * c+c=a+((i+1:Nat):Int) * c:=by rw [Int.natCast_add,Int.add_mul]; omega
  have e2:Builtin.Range.rangeSize a b c - (i:Int) - 1=Builtin.Range.rangeSize a b c - ((i+1:Nat):Int):=by omega
  rw [e1,e2]
set_option tactic.hygienic true in
theorem iter_end {a:AV} {ds:List D} {it:Addr} {i:Nat} {o:Obj} {Q:Option Value->Shared->Prop} (hh:A.handled=none) (S:SInv prog w K btab W m nx s.heap) (hs:DSrc m nx a ds) (ho:s.heap.get? it=some o) (hi:ItO W a i o) (hx:ds[i]? = none)
  (h:∀ h',Heap.ExtBut it s.heap h'->Q none { s with heap:=h' }):wpAny (model prog w) A (pyNext (.ref it)) Q E s:=by
 have hx':ds.length<=i:=by simpa using hx
 cases hi with
 | tup hv hc hd=>
  obtain ⟨vs,ht,hvs⟩:=tup_at S hv
  obtain rfl:ds=_:=hs
  exact next_tuple_end hh ⟨o,ho,hc,hd⟩ ht (by simpa [hvs.length] using hx') h
 | lst hv hc hd=>
  obtain ⟨vs,ht,hvs⟩:=lst_at S hv
  obtain rfl:ds=_:=hs
  exact wpAny_pyNext_list_end hh ⟨o,ho,hc,hd⟩ ht (by simpa [hvs.length] using hx') h
 | loc hc hd=>
  obtain ⟨vs,ht,hvs⟩:=loc_at S hs.1 hs.2
  exact wpAny_pyNext_list_end hh ⟨o,ho,hc,hd⟩ ht (by simpa [hvs.length] using hx') h
 | stra hc hd=>
  rename_i x' t
  obtain rfl:ds=strD x':=hs
  exact wpAny_pyNext_ascii_end hh ⟨o,ho,hc,hd⟩ (by simpa [strD] using hx') h
 | strw hc hd=>
  rename_i x' t
  obtain rfl:ds=strD x':=hs
  exact wpAny_pyNext_wide_end hh ⟨o,ho,hc,hd⟩ (by simpa [strD] using hx') h
 | rng ho'=>
  rename_i a b c
  obtain ⟨hsm,rfl⟩:=hs
  simp only [rngD,List.length_map,List.length_range] at hx'
  subst ho'
  exact wpAny_pyNext_range_end hh ho (by omega) h
theorem ItO.letGo {a:AV} {it:Addr} {i:Nat} {o:Obj} {target:PySem.Expr} {v:Value} {Q:Unit->Shared->Prop} (ho:s.heap.get? it=some o) (hi:ItO W a i o) (h:Q () s):wpAny (model prog w) A (letOwnedTupleGo target (.ref it) v) Q E s:=by
  unfold letOwnedTupleGo
  induction target using PySem.Expr.casesOn <;> first
    | exact wpAny_pure h
    | (cases v <;> first
        | exact wpAny_pure h
        | (refine wpAny_bind (wpAny_load ho ?_)
           induction hi using ItO.casesOn with
           | tup hv hc hd=>rw [hc,hd]; exact wpAny_pure h
           | lst hv hc hd=>rw [hc,hd]; exact wpAny_pure h
           | loc hc hd=>rw [hc,hd]; exact wpAny_pure h
           | stra hc hd=>rw [hc,hd]; exact wpAny_pure h
           | strw hc hd=>rw [hc,hd]; exact wpAny_pure h
           | rng ho'=>subst ho'; exact wpAny_pure h))
end
end
section
section
variable {prog:Program} {w:World} {K:Frag} {btab:List (Str × Value)} {A:Around} {E:Value->Shared->Prop} {s:Shared} {W:Wd} {m:Nat->MO} {nx:Nat}
theorem draw_d {a:AV} {ds:List D} {it:Addr} (hs:DSrc m nx a ds) (hit:OwnAt W m nx it):∀ (n i:Nat) (s:Shared) (o:Obj) (Q:List Value->Shared->Prop),SInv prog w K btab W m nx s.heap->s.heap.get? it=some o->ItO W a i o->i+n<=ds.length ->
  (∀ vs o' h' tk,VDs W.B ((ds.drop i).take n) vs->h'.get? it=some o'->ItO W a (i+n) o'->Heap.SameBut it s.heap h'->Q vs { s with heap:=h',toks:=tk })->wpAny (model prog w) A (draw (.ref it) n) Q E s
 | 0,i,s,o,Q,S,ho,hi,hle,hq=>by
  show wpAny _ _ (pure []) Q E s
  exact wpAny_pure (hq [] o s.heap s.toks (by rw [List.take_zero]; exact .nil) ho hi (Heap.SameBut.refl ..))
 | n+1,i,s,o,Q,S,ho,hi,hle,hq=>by
  have hlt:i < ds.length:=by omega
  show wpAny _ _ (pyNext (.ref it) >>= _) Q E s
  refine wpAny_bind (iter_item S hs ho hi (x:=ds[i]) (by simp [hlt]) fun v o' h' tk hv ho' hi' hsb=>?_)
  refine wpAny_bind (wpAny_holding (draw_d hs hit n (i+1) { s with heap:=h',toks:=tk } o' _ (S.own hit hsb.extBut) ho' hi' (by omega) fun vs o'' h'' tk' hvs ho'' hi'' hsb'=>wpAny_pure ?_))
  have hd:ds.drop i=ds[i] :: ds.drop (i+1):=List.drop_eq_getElem_cons hlt
  refine hq (v :: vs) o'' h'' tk' ?_ ho'' (by rw [show i+(n+1)=i+1+n by omega]; exact hi'') (hsb.trans hsb')
  rw [hd,List.take_succ_cons]
  exact .cons hv hvs
noncomputable def isSeqD:AV->Prop
 | .d (.tup _)=>True
 | .d (.lst _)=>True
 | _=>False
theorem unpack_go {v:Value} {ds:List D} {a:AV} {Q:List Value->Shared->Prop} (hh:A.handled=none) (S:SInv prog w K btab W m nx s.heap) (hv:VA W nx a v) (hs:DSrc m nx a ds)
  (hn:∀ {Q:Bool->Shared->Prop},Q false s->wpAny (model prog w) A (notIterableAtAll v) Q E s)
  (h:∀ vs h' tk,VDs W.B ds vs->Keeps s.heap h'->Q vs { s with heap:=h',toks:=tk }):wpAny (model prog w) A (unpackItems v ds.length none) Q E s:=by
 have hfr:=S.fresh (get?_size s.heap)
 refine wpAny_bind (hn ?_)
 refine wpAny_bind (wpAny_holding (iter_start S hv hs fun o hi hf=>?_))
 refine wpAny_bind (wpAny_holding (draw_d hs hfr ds.length 0 { s with heap:=s.heap.push o } o _ (S.keeps (Keeps.push _ _)) (Heap.get?_push_size _ hf) hi (by omega) fun vs o' h' tk hvs ho' hi' hsb=>?_))
 rw [List.drop_zero,List.take_length] at hvs
 rw [if_neg (by rw [hvs.length]; omega)]
 rw [Nat.zero_add] at hi'
 have S':SInv prog w K btab W m nx h':=(S.keeps (Keeps.push _ o)).own hfr hsb.extBut
 refine wpAny_bind (wpAny_holding (iter_end hh (s:={ s with heap:=h',toks:=tk }) S' hs ho' hi' (by simp) fun h'' he=>?_))
 refine wpAny_pure (h vs h'' tk hvs fun b ob e=>?_)
 have hb:b ≠ s.heap.objs.size:=fun z=>ns ((get?_size s.heap).symm.trans (z ▸ e))
 exact he b ob hb (hsb.extBut b ob hb (Heap.get?_push_of_some _ e))
theorem unpack_items {a:AV} {v:Value} {ds:List D} {Q:List Value->Shared->Prop} (hh:A.handled=none) (S:SInv prog w K btab W m nx s.heap) (hv:VA W nx a v) (hs:DSrc m nx a ds) (hq:isSeqD a)
  (h:∀ vs h' tk,VDs W.B ds vs->Keeps s.heap h'->Q vs { s with heap:=h',toks:=tk }):wpAny (model prog w) A (unpackItems v ds.length none) Q E s:=by
 refine unpack_go hh S hv hs ?_ h
 clear h hs
 induction hv using VA.casesOn with
 | d hv=>
  induction hv using VD.casesOn with
  | tup ho hv=>
   have ht:IsTup s.heap _ _:=⟨_,S.base _ _ ho,rfl,_,rfl⟩
   exact @fun Q h=>wpAny_bind (wpAny_specialOf ht.typeIs slot_tuple_iter.lookup (wpAny_pure h))
  | lst ho hv=>
   have ht:s.heap.IsList _ _:=⟨_,S.base _ _ ho,rfl,_,rfl⟩
   exact @fun Q h=>wpAny_bind (wpAny_specialOf ht.typeIs slot_list_iter.lookup (wpAny_pure h))
  | _=>exact hq.elim
 | _=>exact hq.elim
end
section
variable {prog:Program} {w:World} {K:Frag} {btab:List (Str × Value)} {k:Nat} {φ:Fm} {C:Wd->Nat->Prop}
theorem Mono.vds (ds:List D) (vs:List Value):Mono fun W _=>VDs W.B ds vs:=fun _ _ _ _ _ hl h=>h.mono hl.B
theorem tupNames_cons {x:Str} {p:Pos} {r:List PySem.Expr}:tupNames (.Name x p :: r)=(tupNames r).map (x :: ·):=by kernel_rfl
theorem gStores_cons {x:Str} {d:D} {xs:List Str} {ds:List D}:gStores φ (x :: xs) (d :: ds)=(gStore φ x (.d d) >>= fun _=>gStores φ xs ds):=by kernel_rfl
theorem tupNames_len {env:Env}:∀ {es:List PySem.Expr} {xs:List Str},tupNames es=some xs->(assignEach es env).length=xs.length /\ (assignEach es env).findIdx? (·.1)=none
 | [],xs,e=>by cases e; exact ⟨rfl,rfl⟩
 | e :: r,xs,h=>by
  induction e using PySem.Expr.casesOn with
  | Name x p=>
   obtain ⟨l,hl,e⟩:=Option.map_eq_some_iff.mp (tupNames_cons.symm.trans h)
   obtain ⟨a,b⟩:=tupNames_len (env:=env) hl
   exact e ▸ ⟨congrArg (· + 1) a,List.findIdx?_cons.trans (congrArg (Option.map _) b)⟩
  | _=>cases h
theorem snd_stores:∀ {es:List PySem.Expr} {xs:List Str} {ds:List D} {vs:List Value} {C:Wd->Nat->Prop},tupNames es=some xs->Mono C->(∀ W nx,C W nx->VDs W.B ds vs) ->
  SndT prog w K btab k φ C (gStores φ xs ds) (fun env=>Lf prog w (assignInOrder ((assignEach es env).map (·.2)) vs)) (fun _ _ _ _=>True)
 | [],xs,ds,vs,C,hx,hC,hv=>by
  cases hx
  induction ds using List.casesOn with
  | nil=>
   intro st sc a st' sc' ob e hob W A env s Q E hA hS hF hc hq
   cases e
   cases hv _ _ hc
   exact wpAny_pure (hq W s.heap s.toks () (Nat.le_refl _) (.refl _ _) hS hF trivial)
  | cons=>exact SndT.failV
 | e :: r,xs,ds,vs,C,hx,hC,hv=>by
  induction e using PySem.Expr.casesOn with
  | Name x p=>
   obtain ⟨l,hl,e⟩:=Option.map_eq_some_iff.mp (tupNames_cons.symm.trans hx)
   subst e
   induction ds using List.casesOn with
   | nil=>exact SndT.failV
   | cons d ds=>
    induction vs using List.casesOn with
    | nil=>
     intro st sc a st' sc' ob e hob W A env s Q E hA hS hF hc hq
     cases hv _ _ hc
    | cons v vs=>
     rw [gStores_cons]
     exact SndT.cps hC (Snd.T (snd_store (x:=x) (a:=.d d) (v:=v) fun W nx c=>by cases hv W nx c with | cons h _=>exact .d h)) (t2:=fun _ env=>Lf prog w (assignInOrder ((assignEach r env).map (·.2)) vs))
      (fun a b=>snd_stores hl (hC.and (fun _ _ _ _ _ _ h=>h)) fun W nx c=>by cases hv W nx c.1 with | cons _ h=>exact h) fun A env Q E s _ h=>
       (wpAny_bind (wpAny_holding (wpAny_assign_Name h)):wpAny (model prog w) A (holding vs (assign (.Name x p) env v) >>= fun _=>assignInOrder ((assignEach r env).map (·.2)) vs) Q E s)
  | _=>cases hx
theorem gStores_len:∀ {xs:List Str} {ds:List D} {st:St} {sc:List Ev} {b:Unit} {st':St} {sc':List Ev} {ob:List Prop},gStores φ xs ds st sc=some (b,st',sc',ob)->xs.length=ds.length:=by
 intro xs
 induction xs with
 | nil=>intro ds st sc b st' sc' ob e; induction ds using List.casesOn <;> first | rfl | cases e
 | cons x xs ih=>
  intro ds st sc b st' sc' ob e
  induction ds using List.casesOn with
  | nil=>cases e
  | cons d ds=>exact bind_inv (gStores_cons ▸ e:(gStore φ x (.d d) >>= fun _=>gStores φ xs ds) st sc=_) fun _ _ _ _ _ _ e2 _=>congrArg (· + 1) (ih e2)
theorem snd_unpack {es:List PySem.Expr} {xs:List Str} {a:AV} {ds:List D} {v:Value} (hx:tupNames es=some xs) (hC:Mono C) (ha:isSeqD a) (hs:∀ m nx,DSrc m nx a ds) (hv:∀ W nx,C W nx->VA W nx a v) :
  SndT prog w K btab k φ C (gStores φ xs ds) (fun env=>Lf prog w (unpack v (assignEach es env))) (fun _ _ _ _=>True):=by
 intro st sc b st' sc' ob e hob W A env s Q E hA hS hF hc hq
 have hlen:=gStores_len e
 obtain ⟨hl,hf⟩:=tupNames_len (env:=env) hx
 show wpAny (model prog w) A (unpack v (assignEach es env)) Q E s
 unfold unpack
 rw [hl,hf,hlen]
 refine wpAny_bind (wpAny_holding (unpack_items hA.handled hS (hv _ _ hc) (hs _ _) ha fun vs h' tk hvs hk=>?_))
 have T:=snd_stores (prog:=prog) (w:=w) (K:=K) (btab:=btab) (k:=k) (φ:=φ) (C:=fun W _=>VDs W.B ds vs) (ds:=ds) (vs:=vs) hx (Mono.vds ds vs) (fun W nx c=>c) _ _ _ _ _ _ e hob
 exact T W A env { s with heap:=h',toks:=tk } Q E hA (hS.keeps hk) (hF.carry (Nat.le_refl _) (.refl _ _) (Carry.keeps hk)) hvs hq
end
end
section
noncomputable abbrev RFl:Fl->Flow->Wd->Nat->Prop:=fun f g W nx=>FlR W nx f g
section
variable {prog:Program} {w:World} {K:Frag} {btab:List (Str × Value)} {k:Nat} {φ:Fm} {C:Wd->Nat->Prop}
theorem p_next:SndT prog w K btab k φ C (pure Fl.next) (fun _ _ Q _ s=>Q Flow.next s) RFl:=SndT.pureV (a:=Fl.next) (b:=Flow.next) fun _ _ _=>trivial
theorem p_brk:SndT prog w K btab k φ C (pure Fl.brk) (fun _ _ Q _ s=>Q Flow.brk s) RFl:=SndT.pureV (a:=Fl.brk) (b:=Flow.brk) fun _ _ _=>trivial
theorem p_cont:SndT prog w K btab k φ C (pure Fl.cont) (fun _ _ Q _ s=>Q Flow.cont s) RFl:=SndT.pureV (a:=Fl.cont) (b:=Flow.cont) fun _ _ _=>trivial
theorem p_ret {a:AV} {v:Value} (h:∀ W nx,C W nx->VA W nx a v):SndT prog w K btab k φ C (pure (Fl.ret a)) (fun _ _ Q _ s=>Q (Flow.ret v) s) RFl:=SndT.pureV (a:=Fl.ret a) (b:=Flow.ret v) h
theorem snd_ghostT {a:AV} {v:Value} {C:Wd->Nat->Prop} (hv:∀ W nx,C W nx->VA W nx a v):SndT prog w K btab k φ C (gFz a) (fun _ _ Q _ s=>Q v s) RV:=by
 induction a using AV.casesOn with
 | loc n=>
  intro st sc c st' sc' ob e hob W A env s Q E hA hS hF hc hq
  induction sc using List.casesOn with
  | nil=>cases e
  | cons z r=>
   induction z using Ev.casesOn with
   | mo x=>
    induction x using MO.casesOn with
    | list l=>
     cases e
     have h1:st.m n=.list l:=hob _ (.head _)
     have h2:n < st.nx:=hob _ (.tail _ (.head _))
     have y:=hS.obj n h2
     rw [h1] at y
     obtain ⟨vs,nn,ho,hvs⟩:=y
     obtain ⟨S',l',c'⟩:=hS.still h2 (by rw [h1]; exact fun q=>nomatch q) ho
     cases hv _ _ hc with
     | loc _=>exact hq _ s.heap s.toks _ (Nat.le_refl _) l' S' (hF.carry (Nat.le_refl _) l' c') (.d (.lst (freeze_at _ _ _) (hvs.mono l'.B)))
    | junk=>
     cases e
     exact hq _ s.heap s.toks _ (Nat.le_refl _) (.refl _ _) hS hF (hv _ _ hc)
    | _=>cases e
   | _=>cases e
 | _=>exact SndT.pureV (R:=RV) hv
theorem isComp_swaps {e:PySem.Expr} (h:isComp e=false) (t:Option PySem.Expr) (l:Nat) (env:Env):swapsWith e t l env=pure false:=by
 induction e using PySem.Expr.casesOn <;> first | rfl | cases h
theorem not_interactive {env:Env} (h:EnvOK φ env):interactive env=false:=by
 unfold interactive
 rw [h.scope,h.kind]
 rfl
theorem snd_setattr {o a:AV} {vo va:Value} {name:Str} (hC:Mono C) (ho:∀ W nx,C W nx->VA W nx o vo) (ha:∀ W nx,C W nx->VA W nx a va) :
  SndT prog w K btab k φ C (do let _ <- gVal fun m nx _ m' nx'=>SetAttrTr prog w K btab k o name a m nx m' nx'; pure Fl.next) (fun _ A Q E s=>wpAny (model prog w) A (setAttr vo name va) (fun _ s'=>Q .next s') E s) RFl:=
 SndT.cps hC (Snd.T (t:=fun _=>setAttr vo name va) (R:=fun _ _ _ _=>True) (snd_val fun _ _ _ _ hP _ _ _ _ _ _ hA hS hF hc hq=>Act.use hP (fun W R b x=>x) hA hS hF trivial ⟨vo,va,(ho _ _ hc).shut,(ha _ _ hc).shut,rfl⟩ hq)) (t2:=fun _ _ _ Q _ s=>Q .next s) (fun _ _=>p_next) fun A env Q E s _ h=>h
theorem snd_setitem {o i a:AV} {vo vi va:Value} (hC:Mono C) (ho:∀ W nx,C W nx->VA W nx o vo) (hi:∀ W nx,C W nx->VA W nx i vi) (ha:∀ W nx,C W nx->VA W nx a va) :
  SndT prog w K btab k φ C (do let _ <- gVal fun m nx _ m' nx'=>SetItemTr prog w K btab k o i a m nx m' nx'; pure Fl.next) (fun _ A Q E s=>wpAny (model prog w) A (setItem vo vi va) (fun _ s'=>Q .next s') E s) RFl:=
 SndT.cps hC (Snd.T (t:=fun _=>setItem vo vi va) (R:=fun _ _ _ _=>True) (snd_val fun _ _ _ _ hP _ _ _ _ _ _ hA hS hF hc hq=>Act.use hP (fun W R b x=>x) hA hS hF trivial ⟨vo,vi,va,(ho _ _ hc).shut,(hi _ _ hc).shut,(ha _ _ hc).shut,rfl⟩ hq)) (t2:=fun _ _ _ Q _ s=>Q .next s) (fun _ _=>p_next) fun A env Q E s _ h=>h
theorem snd_storeT {x:Str} {a:AV} {v:Value} (hC:Mono C) (hv:∀ W nx,C W nx->VA W nx a v):SndT prog w K btab k φ C (do gStore φ x a; pure Fl.next) (fun env A Q E s=>wpAny (model prog w) A (storeName env x v) (fun _=>Q .next) E s) RFl:=
 SndT.cps hC (Snd.T (snd_store (v:=v) hv)) (t2:=fun _ _ _ Q _ s=>Q .next s) (fun _ _=>p_next) fun A env Q E s _ h=>h
theorem exec_Assign_one {M:Model} {A:Around} {E:Value->Shared->Prop} {s:Shared} {env:Env} {t e:PySem.Expr} {q:Pos} {Q:Flow->Shared->Prop} (hc:isComp e=false) (hs:swappedStores [t] e env=pure none) {f:Value->Sem Unit} (ht:(assignEach [t] env).map (·.2) = [f])
  (h:wpAny M A (eval e env) (fun v s₁=>wpAny M A (f v) (fun _ s₂=>Q .next s₂) E s₁) E s):wpAny M A (exec (.Assign [t] e q) env) Q E s:=by
 rw [arm_exec_Assign]
 refine wpAny_bind (wpAny_standAt ?_)
 have e1:swapsWithSole [t] e q.line env=pure false:=isComp_swaps hc _ _ _
 rw [e1]
 refine wpAny_bind (wpAny_pure ?_)
 rw [hs,ht]
 refine wpAny_bind (wpAny_mono h (fun v s₁ h₁=>wpAny_bind (wpAny_pure ?_)) fun _ _ x=>x)
 show wpAny M A (f v >>= fun _=>pure Flow.next) Q E s₁
 exact wpAny_bind (wpAny_mono h₁ (fun _ s₂ h₂=>wpAny_pure h₂) fun _ _ x=>x)
theorem gStep_T {c:Stmt}:SndT prog w K btab k φ C (gStep fun st f st'=>STr prog w K btab k φ c st f st') (fun env=>Lf prog w (exec c env)) RFl:=by
 intro st sc a st' sc' ob e hob W A env s Q E hA hS hF hc hq
 induction sc using List.casesOn with
 | nil=>cases e
 | cons z r=>induction z using Ev.casesOn with
  | fl=>cases e; exact hob _ (.head _) W A env s Q E hA hS hF trivial hq
  | _=>cases e
noncomputable def flRest (f:Flow) (x y:Prop):Prop:=match f with
 | .next=>x
 | _=>y
theorem ok_exs {f:Stmt->G Fl} (ih:∀ {C:Wd->Nat->Prop} (c:Stmt),Mono C->SndT prog w K btab k φ C (f c) (fun env=>Lf prog w (exec c env)) RFl):∀ (b:List Stmt) {C:Wd->Nat->Prop},Mono C->SndT prog w K btab k φ C (exsL f b) (fun env=>Lf prog w (execs b env)) RFl:=by
 intro b
 induction b with
 | nil=>exact fun _=>SndT.tree p_next fun A env Q E s _ h=>wpAny_pure h
 | cons c r hr=>
  intro C hC
  refine SndT.cps hC (ih c hC) (t2:=fun f env A Q E s=>flRest f (wpAny (model prog w) A (execs r env) Q E s) (Q f s)) (fun f g=>?_) fun A env Q E s _ h=>wpAny_execs_cons (wpAny_mono h (fun f s₁ h₁=>by induction f using PySem.Flow.casesOn <;> exact h₁) fun _ _ x=>x)
  have bad:(∀ W nx,¬ FlR W nx f g)->∀ {g':G Fl} {t:Env->PT Flow},SndT prog w K btab k φ (fun W nx=>C W nx /\ RFl f g W nx) g' t RFl:=fun h _ _ st sc a' st' sc' ob e hob W A env s Q E hA hS hF hc hq=>(h _ _ hc.2).elim
  cases f <;> cases g <;> first
   | exact hr (hC.and fun _ _ _ _ _ _ h=>h)
   | exact p_cont
   | exact p_brk
   | exact p_ret fun W nx c=>c.2
   | exact bad fun _ _ h=>h
theorem litV_is {a:AV} {v:Value} {W:Wd} {nx:Nat} (hl:litV a=true) (h:VA W nx a v):(match v with | .ref _=>False | _=>True):=by
 induction a using AV.casesOn with
 | d x=>
  induction x using D.casesOn with
  | none=>cases va_none h; trivial
  | str=>obtain ⟨t,rfl⟩:=va_str h; trivial
  | int=>obtain ⟨t,rfl⟩:=va_int h; trivial
  | _=>cases hl
 | _=>cases hl
theorem seqOf_is {a:AV} {ds:List D} (h:seqOf a=some ds):isSeqD a /\ ∀ m nx,DSrc m nx a ds:=by
 induction a using AV.casesOn with
 | d x=>
  induction x using D.casesOn with
  | tup l=>cases h; exact ⟨trivial,fun _ _=>rfl⟩
  | lst l=>cases h; exact ⟨trivial,fun _ _=>rfl⟩
  | _=>cases h
 | _=>cases h
variable {T:EvT}
theorem ok_assign (ie:OKT prog w K btab k T) (φ:Fm) (t e:PySem.Expr) (q:Pos) (hC:Mono C) :
  SndT prog w K btab k φ C (exAssign prog w K btab T k φ t e q) (fun env=>Lf prog w (exec (.Assign [t] e q) env)) RFl:=by
 cases t with
 | Name x p=>
  refine snd_gif (fun _=>gStep_T) fun hcomp=>?_
  exact SndT.cps hC (ie.ev φ e hC) (t2:=fun v env A Q E s=>wpAny (model prog w) A (storeName env x v) (fun _=>Q .next) E s) (fun a v=>snd_storeT (hC.and (Mono.va _ _)) fun W nx c=>c.2) fun A env Q E s _ h=>wpAny_Assign_Name h (isComp_swaps hcomp _ _ _)
 | Tuple es x1 p=>
  refine snd_gopt (fun xs hxs=>snd_gif (fun _=>SndT.failV) fun hcond=>?_) fun _=>SndT.failV
  have hcomp:=(Bool.or_eq_false_iff.mp hcond).1
  have hne:=(Bool.or_eq_false_iff.mp hcond).2
  refine SndT.cps hC (ie.ev φ e hC) (t2:=fun v env A Q E s=>wpAny (model prog w) A (unpack v (assignEach es env)) (fun _=>Q .next) E s) (fun a v=>snd_gopt (fun ds hds=>?_) fun _=>SndT.failV) fun A env Q E s _ h=>?_
  ·exact SndT.cps (hC.and (Mono.va _ _)) (snd_unpack (v:=v) hxs (hC.and (Mono.va _ _)) (seqOf_is hds).1 (seqOf_is hds).2 fun W nx c=>c.2) (t2:=fun _ _ _ Q _ s=>Q .next s) (fun _ _=>p_next) fun A env Q E s _ h=>h
  ·refine exec_Assign_one hcomp (f:=fun v=>assign (.Tuple es x1 p) env v) ?_ rfl (wpAny_mono h (fun v s₁ h₁=>?_) fun _ _ x=>x)
   ·induction e using PySem.Expr.casesOn <;> first | rfl | cases hne
   ·rw [arm_assign_Tuple]
    exact wpAny_bind (wpAny_standAt (wpAny_mono h₁ (fun _ s₂ h₂=>h₂) fun _ _ x=>x))
 | Attribute o name p=>
  refine snd_gif (fun _=>SndT.failV) fun hcomp=>?_
  refine SndT.cps hC (ie.ev φ e hC) (t2:=fun v env A Q E s=>wpAny (model prog w) A (eval o env) (fun vo s₂=>wpAny (model prog w) A (setAttr vo name v) (fun _ s'=>Q .next s') E s₂) E s) (fun a v=>?_) fun A env Q E s _ h=>?_
  ·exact SndT.cps (hC.and (Mono.va _ _)) (ie.ev φ o (hC.and (Mono.va _ _))) (t2:=fun vo env A Q E s=>wpAny (model prog w) A (setAttr vo name v) (fun _ s'=>Q .next s') E s) (fun b vo=>snd_setattr ((hC.and (Mono.va _ _)).and (Mono.va _ _)) (fun W nx c=>c.2) fun W nx c=>c.1.2) fun A env Q E s _ h=>h
  ·refine exec_Assign_one hcomp (f:=fun v=>assign (.Attribute o name p) env v) rfl rfl (wpAny_mono h (fun v s₁ h₁=>?_) fun _ _ x=>x)
   rw [arm_assign_Attribute]
   exact wpAny_bind (wpAny_holding (wpAny_mono h₁ (fun vo s₂ h₂=>wpAny_bind (wpAny_standAt (wpAny_bind (wpAny_holding (wpAny_mono h₂ (fun _ s₃ h₃=>wpAny_release h₃) fun _ _ x=>x))))) fun _ _ x=>x))
 | Subscript o i p=>
  refine snd_gif (fun _=>SndT.failV) fun hcond=>?_
  have hcomp:=(Bool.or_eq_false_iff.mp hcond).1
  refine SndT.cps hC (ie.ev φ e hC) (t2:=fun v env A Q E s=>wpAny (model prog w) A (eval o env) (fun vo s₂=>wpAny (model prog w) A (eval i env) (fun vi s₃=>wpAny (model prog w) A (setItem vo vi v) (fun _ s'=>Q .next s') E s₃) E s₂) E s) (fun a v=>?_)
   fun A env Q E s _ h=>wpAny_Assign_Subscript h (isComp_swaps hcomp _ _ _)
  refine SndT.cps (hC.and (Mono.va _ _)) (ie.ev φ o (hC.and (Mono.va _ _))) (t2:=fun vo env A Q E s=>wpAny (model prog w) A (eval i env) (fun vi s₃=>wpAny (model prog w) A (setItem vo vi v) (fun _ s'=>Q .next s') E s₃) E s) (fun b vo=>?_) fun A env Q E s _ h=>h
  exact SndT.cps ((hC.and (Mono.va _ _)).and (Mono.va _ _)) (ie.ev φ i ((hC.and (Mono.va _ _)).and (Mono.va _ _))) (t2:=fun vi env A Q E s=>wpAny (model prog w) A (setItem vo vi v) (fun _ s'=>Q .next s') E s)
   (fun c vi=>snd_setitem (((hC.and (Mono.va _ _)).and (Mono.va _ _)).and (Mono.va _ _)) (fun W nx c=>c.1.2) (fun W nx c=>c.2) fun W nx c=>c.1.1.2) fun A env Q E s _ h=>h
 | _=>exact SndT.failV
theorem ok_aug (ie:OKT prog w K btab k T) (φ:Fm) (t:PySem.Expr) (op:Operator) (e:PySem.Expr) (q:Pos) (hC:Mono C) :
  SndT prog w K btab k φ C (exAug prog w K btab T k φ t op e) (fun env=>Lf prog w (exec (.AugAssign t op e q) env)) RFl:=by
 induction t using PySem.Expr.casesOn with
 | Name x p=>
  refine SndT.cps hC (Snd.T (snd_name x)) (t2:=fun old env A Q E s=>wpAny (model prog w) A (eval e env) (fun v s₂=>wpAny (model prog w) A (inplaceOp op old v) (fun r s₃=>wpAny (model prog w) A (storeName env x r) (fun _=>Q .next) E s₃) E s₂) E s) (fun a va=>?_)
   fun A env Q E s _ h=>wpAny_AugAssign_Name h
  refine SndT.cps (hC.and (Mono.va _ _)) (ie.ev φ e (hC.and (Mono.va _ _))) (t2:=fun v env A Q E s=>wpAny (model prog w) A (inplaceOp op va v) (fun r s₃=>wpAny (model prog w) A (storeName env x r) (fun _=>Q .next) E s₃) E s) (fun b vb=>?_) fun A env Q E s _ h=>h
  exact SndT.cps (t1:=fun _=>Lf prog w (inplaceOp op va vb)) ((hC.and (Mono.va _ _)).and (Mono.va _ _)) (Snd.T (snd_bin (g:=true) (fun W nx c=>c.1.2) fun W nx c=>c.2)) (t2:=fun r env A Q E s=>wpAny (model prog w) A (storeName env x r) (fun _=>Q .next) E s) (fun c vc=>snd_storeT (((hC.and (Mono.va _ _)).and (Mono.va _ _)).and (Mono.va _ _)) fun W nx c=>c.2) fun A env Q E s _ h=>h
 | Attribute o name tp=>
  refine SndT.cps hC (ie.ev φ o hC) (t2:=fun vo env A Q E s=>wpAny (model prog w) A (getAttr vo name true) (fun old s₁=>wpAny (model prog w) A (eval e env) (fun v s₂=>wpAny (model prog w) A (inplaceOp op old v) (fun r s₃=>wpAny (model prog w) A (setAttr vo name r) (fun _ s'=>Q .next s') E s₃) E s₂) E s₁) E s) (fun a vo=>?_) fun A env Q E s _ h=>?_
  ·refine SndT.cps (hC.and (Mono.va _ _)) (R:=RV) (t1:=fun _=>Lf prog w (getAttr vo name true)) (Snd.T (t:=fun _=>getAttr vo name true) (snd_val fun st r m' nx' hP W A env s Q E hA hS hF hc hq=>Act.use hP (fun W R b x=>x.R) hA hS hF trivial ⟨vo,true,hc.2.shut,rfl⟩ hq))
    (t2:=fun old env A Q E s=>wpAny (model prog w) A (eval e env) (fun v s₂=>wpAny (model prog w) A (inplaceOp op old v) (fun r s₃=>wpAny (model prog w) A (setAttr vo name r) (fun _ s'=>Q .next s') E s₃) E s₂) E s) (fun b vold=>?_) fun A env Q E s _ h=>h
   refine SndT.cps ((hC.and (Mono.va _ _)).and (Mono.va _ _)) (ie.ev φ e ((hC.and (Mono.va _ _)).and (Mono.va _ _))) (t2:=fun v env A Q E s=>wpAny (model prog w) A (inplaceOp op vold v) (fun r s₃=>wpAny (model prog w) A (setAttr vo name r) (fun _ s'=>Q .next s') E s₃) E s) (fun c vc=>?_) fun A env Q E s _ h=>h
   exact SndT.cps (t1:=fun _=>Lf prog w (inplaceOp op vold vc)) (((hC.and (Mono.va _ _)).and (Mono.va _ _)).and (Mono.va _ _)) (Snd.T (snd_bin (g:=true) (fun W nx c=>c.1.2) fun W nx c=>c.2)) (t2:=fun r env A Q E s=>wpAny (model prog w) A (setAttr vo name r) (fun _ s'=>Q .next s') E s)
    (fun d vd=>snd_setattr ((((hC.and (Mono.va _ _)).and (Mono.va _ _)).and (Mono.va _ _)).and (Mono.va _ _)) (fun W nx c=>c.1.1.1.2) fun W nx c=>c.2) fun A env Q E s _ h=>h
  ·show wpAny (model prog w) A (exec _ env) Q E s
   rw [arm_exec_AugAssign_2]
   refine wpAny_bind (wpAny_standAt (wpAny_bind (wpAny_mono h (fun vo s₁ h₁=>wpAny_bind (wpAny_holding (wpAny_bind (wpAny_standAt (wpAny_bind (wpAny_mono h₁ (fun old s₂ h₂=>wpAny_bind (wpAny_holding (wpAny_mono h₂ (fun v s₃ h₃=>?_) fun _ _ x=>x))) fun _ _ x=>x)))))) fun _ _ x=>x)))
   refine wpAny_bind (wpAny_standAt (wpAny_operating (wpAny_mono h₃ (fun r s₄ h₄=>?_) fun _ _ x=>x)))
   exact wpAny_bind (wpAny_standAt (wpAny_bind (wpAny_holding (wpAny_mono h₄ (fun _ s₅ h₅=>wpAny_bind (wpAny_release (wpAny_pure h₅))) fun _ _ x=>x))))
 | _=>exact SndT.failV
theorem ok_ex {f:Fm->Stmt->G Fl} (ie:OKT prog w K btab k T) (ih:∀ {C:Wd->Nat->Prop} (φ:Fm) (c:Stmt),Mono C->SndT prog w K btab k φ C (f φ c) (fun env=>Lf prog w (exec c env)) RFl) (φ:Fm) (c:Stmt) (hC:Mono C) :
  SndT prog w K btab k φ C (stepEx prog w K btab T f k φ c) (fun env=>Lf prog w (exec c env)) RFl:=by
 cases c with
 | Expr e p=>
  refine snd_gif (fun _=>SndT.failV) fun hcomp=>?_
  refine SndT.cps hC (ie.ev φ e hC) (t2:=fun v _ _ Q _ s=>match v with | .ref _=>False | _=>Q .next s) (fun a v=>snd_gif (fun hl=>?_) fun _=>SndT.failV) fun A env Q E s hE h=>wpAny_Expr h (not_interactive hE) (isComp_swaps hcomp _ _ _)
  intro st sc a st' sc' ob e hob W A env s Q E hA hS hF hc hq
  cases e
  have hn:=litV_is hl hc.2
  have hQ:=hq W s.heap s.toks .next (Nat.le_refl _) (.refl _ _) hS hF trivial
  cases v <;> first | exact hQ | exact hn
 | Pass p=>exact SndT.tree p_next fun A env Q E s _ h=>wpAny_Pass h
 | Break p=>exact SndT.tree p_brk fun A env Q E s _ h=>PySem.wpAny_Break h
 | Continue p=>exact SndT.tree p_cont fun A env Q E s _ h=>PySem.wpAny_Continue h
 | Return o p=>
  refine snd_gopt (fun e ho=>?_) fun ho=>?_
  ·cases ho
   exact SndT.cps hC (ie.ev φ e hC) (t2:=fun v _ _ Q _ s=>Q (.ret v) s) (fun a v=>SndT.cps (hC.and (Mono.va _ _)) (snd_ghostT (v:=v) fun W nx c=>c.2) (t2:=fun v' _ _ Q _ s=>Q (.ret v') s) (fun b v'=>p_ret fun W nx c=>c.2) fun A env Q E s _ h=>h) fun A env Q E s _ h=>wpAny_Return_some h
  ·cases ho
   exact SndT.tree (p_ret (a:=.d .none) (v:=.none) fun _ _ _=>.d .none) fun A env Q E s _ h=>wpAny_Return_none h
 | Assign ts e q=>
  refine snd_gopt (fun t ht=>?_) fun _=>SndT.failV
  cases one_is ht
  exact ok_assign ie φ t e q hC
 | AugAssign t op e q=>exact ok_aug ie φ t op e q hC
 | If t b o p=>exact ok_if ie φ (tb:=fun env=>Lf prog w (execs b env)) (to:=fun env=>Lf prog w (execs o env)) hC (fun hC=>ok_exs (fun c hC=>ih φ c hC) b hC) (fun hC=>ok_exs (fun c hC=>ih φ c hC) o hC) fun A env Q E s h=>wpAny_If h
 | While t b o q=>exact gStep_T
 | For x i b o q=>exact gStep_T
 | _=>exact SndT.failV
theorem okx:∀ (n:Nat) {C:Wd->Nat->Prop} (φ:Fm) (c:Stmt),Mono C->SndT prog w K btab k φ C (ex prog w K btab k n φ c) (fun env=>Lf prog w (exec c env)) RFl
 | 0,_,_,_,_=>SndT.failV
 | n+1,_,φ,c,hC=>ok_ex (okn n) (fun φ c hC=>okx n φ c hC) φ c hC
theorem oks (n:Nat) (φ:Fm) (b:List Stmt) (hC:Mono C):SndT prog w K btab k φ C (exs prog w K btab k n φ b) (fun env=>Lf prog w (execs b env)) RFl:=ok_exs (fun c hC=>okx n φ c hC) b hC
end
end
section
noncomputable def fnD (K:Frag) (a:Addr):FuncData:=match K.lookup a with
 | some o=>(match o.data with | .func fd=>fd | _=>default)
 | none=>default
noncomputable def fnChk (K:Frag) (a:Addr):Bool:=match K.lookup a with
 | some o=>(match o.data with
  | .func fd=>fd.closure.isEmpty && (match fd.scope.kind with | .function=>true | _=>false) && !fd.scope.isCoroutine && !fd.scope.isGenerator && Nat.beq fd.globals mainGlobals && Nat.beq fd.builtins builtinsNs && codeIn K fd.code fd.qualname
    && (match fd.body with | .stmts _=>true | _=>false)
  | _=>false)
 | none=>false
noncomputable def bodyOf (fd:FuncData):List Stmt:=match fd.body with | .stmts b=>b | _=>[]
noncomputable def codeAd (fd:FuncData):Option Addr:=match fd.code with | .ref c=>some c | _=>none
noncomputable def fmOf (fd:FuncData) (caps:List (Str × AV)):Fm:=⟨fd.scope,caps,codeAd fd,fd.qualname⟩
noncomputable def bindN {α:Type} (slots dfl:List (Str × α)):List Str->Option (List (Str × α))
 | []=>some []
 | n :: r=>match slots.lookup n with
  | some v=>(match bindN slots dfl r with | some l=>some ((n,v) :: l) | none=>none)
  | none=>(match dfl.lookup n with
   | some v=>(match bindN slots dfl r with | some l=>some ((n,v) :: l) | none=>none)
   | none=>none)
noncomputable def posNames (fd:FuncData):List Str:=(fd.params.posonlyargs ++ fd.params.args).map (·.arg)
noncomputable def kwoNames (fd:FuncData):List Str:=fd.params.kwonlyargs.map (·.arg)
noncomputable def tupVals (K:Frag) (v:Value):List Value:=match v with
 | .ref t=>(match K.lookup t with
  | some o=>(match o.data with | .seq vs _=>vs.toList | _=>[])
  | none=>[])
 | _=>[]
noncomputable def dictVals (K:Frag) (v:Value):List (Str × Value):=match v with
 | .ref t=>(match K.lookup t with
  | some o=>(match o.data with | .dict es _=>es.toList.filterMap fun e=>(match e.key with | .str s _=>some (s,e.val) | _=>none) | _=>[])
  | none=>[])
 | _=>[]
noncomputable def dflts (K:Frag) (fd:FuncData):List (Str × Value):=
 ((posNames fd).drop ((posNames fd).length - (tupVals K fd.defaults).length)).zip (tupVals K fd.defaults) ++ dictVals K fd.kwdefaults
class inductive VB (W:Wd) (nx:Nat):List (Str × AV)->List (Str × Value)->Prop
 | nil:VB W nx [] []
 | cons {n:Str} {a:AV} {v:Value} {l:List (Str × AV)} {r:List (Str × Value)} (h:VA W nx a v) (t:VB W nx l r):VB W nx ((n,a) :: l) ((n,v) :: r)
theorem VB.lookup {W:Wd} {nx:Nat} {l:List (Str × AV)} {r:List (Str × Value)} (h:VB W nx l r) (n:Str) :
  (l.lookup n=none /\ r.lookup n=none) \/ (Ex2 fun a v=>A3 (l.lookup n=some a) (r.lookup n=some v) (VA W nx a v)):=by
 induction h with
 | nil=>exact .inl ⟨rfl,rfl⟩
 | @cons m a v l r h t ih=>
  rw [List.lookup_cons,List.lookup_cons]
  cases n == m with
  | true=>exact .inr ⟨a,v,rfl,rfl,h⟩
  | false=>exact ih
theorem VB.zip {W:Wd} {nx:Nat}:∀ (ns:List Str) {as:List AV} {vs:List Value},VAs W nx as vs->VB W nx (ns.zip as) (ns.zip vs)
 | [],_,_,_=>.nil
 | _ :: _,_,_,.nil=>.nil
 | _ :: ns,_,_,.cons h r=>.cons h (VB.zip ns r)
theorem VAs.len {W:Wd} {nx:Nat} {as:List AV} {vs:List Value} (h:VAs W nx as vs):vs.length=as.length:=VAs.rec (motive:=fun as vs _=>vs.length=as.length) rfl (fun _ _ ih=>congrArg (· + 1) ih) h
theorem kw_zip {W:Wd} {nx:Nat} {kws:List (Str × AV)} {kvs:List Value} (h:VAs W nx (kws.map (·.2)) kvs):VB W nx kws ((kws.map (·.1)).zip kvs):=by
 have e:(kws.map (·.1)).zip (kws.map (·.2))=kws:=by
  rw [List.zip_map']
  simp
 have z:=VB.zip (kws.map (·.1)) h
 rw [e] at z
 exact z
theorem VB.append {W:Wd} {nx:Nat} {l l':List (Str × AV)} {r r':List (Str × Value)} (x:VB W nx l r) (y:VB W nx l' r'):VB W nx (l ++ l') (r ++ r'):=by
 induction x with
 | nil=>exact y
 | cons h t ih=>exact .cons h ih
theorem VB.top {W:Wd} {nx:Nat}:∀ (d:List (Str × Value)),VB W nx (d.map fun p=>(p.1,ofTop p.2)) d
 | []=>.nil
 | _ :: d=>.cons (ofTop_va _ _ _) (VB.top d)
theorem VB.keys {W:Wd} {nx:Nat} {x:List (Str × AV)} {y:List (Str × Value)} (h:VB W nx x y):y.map (·.1)=x.map (·.1):=by
 induction h with
 | nil=>rfl
 | cons h t ih=>rw [List.map_cons,List.map_cons,ih]
theorem bindN_cons {α:Type} {s d:List (Str × α)} {n:Str} {r:List Str}:bindN s d (n :: r)=((s.lookup n).or (d.lookup n)).bind fun v=>(bindN s d r).map ((n,v) :: ·):=by
 conv=>lhs; unfold bindN
 cases s.lookup n with
 | some v=>cases bindN s d r <;> rfl
 | none=>cases d.lookup n with
  | none=>rfl
  | some v=>cases bindN s d r <;> rfl
theorem VB.or {W:Wd} {nx:Nat} {s1 d1:List (Str × AV)} {s2 d2:List (Str × Value)} (hs:VB W nx s1 s2) (hd:VB W nx d1 d2) {n:Str} {a:AV} (h:(s1.lookup n).or (d1.lookup n)=some a):∃ v,(s2.lookup n).or (d2.lookup n)=some v /\ VA W nx a v:=by
 refine (hs.lookup n).elim (fun x=>?_) fun x=>?_
 ·rw [x.1] at h
  rw [x.2]
  refine (hd.lookup n).elim (fun y=>ns (y.1.symm.trans h)) fun y=>?_
  obtain ⟨b,v,e1,e2,hv⟩:=y
  exact ⟨v,e2,Option.some.inj (e1.symm.trans h) ▸ hv⟩
 ·obtain ⟨b,v,e1,e2,hv⟩:=x
  rw [e1] at h
  rw [e2]
  exact ⟨v,rfl,Option.some.inj h ▸ hv⟩
theorem bindN_va {W:Wd} {nx:Nat} {s1 d1:List (Str × AV)} {s2 d2:List (Str × Value)} (hs:VB W nx s1 s2) (hd:VB W nx d1 d2) :
  ∀ (ns:List Str) {ab:List (Str × AV)},bindN s1 d1 ns=some ab->∃ b,bindN s2 d2 ns=some b /\ VB W nx ab b
 | [],ab,e=>by cases e; exact ⟨[],rfl,.nil⟩
 | n :: ns,ab,e=>by
  obtain ⟨a,e1,e2⟩:=Option.bind_eq_some_iff.mp (bindN_cons.symm.trans e)
  obtain ⟨l,e3,e4⟩:=Option.map_eq_some_iff.mp e2
  obtain ⟨v,q1,hv⟩:=hs.or hd e1
  obtain ⟨b,q2,hb⟩:=bindN_va hs hd ns e3
  rw [bindN_cons,q1]
  exact ⟨(n,v) :: b,congrArg (Option.map _) q2,e4 ▸ .cons hv hb⟩
noncomputable def BindQ (K:Frag) (fd:FuncData) (n:Nat) (kn:List Str):Prop:=
 ∀ (S:Setting) (vs kvs:List Value),vs.length=n->kvs.length=kn.length->peek K S (bindArgs fd ⟨vs,kn.zip kvs⟩)=bindN ((posNames fd).zip vs ++ kn.zip kvs) (dflts K fd) (posNames fd ++ kwoNames fd)
noncomputable def kindsOk (sc:Scope) (names:List Str):Bool:=names.all fun n=>match sc.names.lookup n with
 | some .local=>true
 | some .cell=>true
 | _=>false
noncomputable def nodupB:List Str->Bool
 | []=>true
 | x :: r=>!r.contains x && nodupB r
theorem nodupB_nd:∀ {l:List Str},nodupB l=true->l.Nodup
 | [],_=>.nil
 | x :: r,h=>by
  unfold nodupB at h
  simp only [Bool.and_eq_true,Bool.not_eq_true',List.contains_eq_mem,decide_eq_false_iff_not] at h
  exact List.nodup_cons.mpr ⟨h.1,nodupB_nd h.2⟩
theorem bindL_other {kindOf:Str->Option NameKind} {x:Str}:∀ (b:List (Str × Value)) (m:Str->Option Value),x ∉ b.map (·.1)->bindL kindOf b m x=m x
 | [],m,_=>rfl
 | (n,v) :: r,m,h=>by
  unfold bindL
  have h1:x ≠ n:=fun z=>h (by rw [z]; exact List.mem_cons_self ..)
  have h2:x ∉ r.map (·.1):=fun z=>h (List.mem_cons_of_mem _ z)
  rw [bindL_other r _ h2]
  split
  ·exact if_neg h1
  ·rfl
theorem bindL_at {kindOf:Str->Option NameKind} {x:Str} (hk:kindOf x=some .local):∀ (b:List (Str × Value)) (m:Str->Option Value) {v:Value},(b.map (·.1)).Nodup->b.lookup x=some v->bindL kindOf b m x=some v
 | [],m,_,_,h=>by cases h
 | (n,v) :: r,m,u,hn,h=>by
  unfold bindL
  rw [List.map_cons,List.nodup_cons] at hn
  rw [List.lookup_cons] at h
  cases q:x == n with
  | true=>
   rw [q] at h
   cases h
   have:x=n:=eq_of_beq q
   subst this
   rw [bindL_other r _ hn.1,if_pos hk,if_pos rfl]
  | false=>
   rw [q] at h
   exact bindL_at hk r _ hn.2 h
theorem bindC_other {kindOf:Str->Option NameKind} {x:Str}:∀ (b:List (Str × Value)) (m:Str->Option Value),x ∉ b.map (·.1)->bindC kindOf b m x=m x
 | [],m,_=>rfl
 | (n,v) :: r,m,h=>by
  unfold bindC
  have h1:x ≠ n:=fun z=>h (by rw [z]; exact List.mem_cons_self ..)
  have h2:x ∉ r.map (·.1):=fun z=>h (List.mem_cons_of_mem _ z)
  rw [bindC_other r _ h2]
  split
  ·rfl
  ·exact if_neg h1
theorem bindC_at {kindOf:Str->Option NameKind} {x:Str} (hk:kindOf x ≠ some .local):∀ (b:List (Str × Value)) (m:Str->Option Value) {v:Value},(b.map (·.1)).Nodup->b.lookup x=some v->bindC kindOf b m x=some v
 | [],m,_,_,h=>by cases h
 | (n,v) :: r,m,u,hn,h=>by
  unfold bindC
  rw [List.map_cons,List.nodup_cons] at hn
  rw [List.lookup_cons] at h
  cases q:x == n with
  | true=>
   rw [q] at h
   cases h
   have:x=n:=eq_of_beq q
   subst this
   rw [bindC_other r _ hn.1,if_neg hk,if_pos rfl]
  | false=>
   rw [q] at h
   exact bindC_at hk r _ hn.2 h
set_option tactic.hygienic true in
theorem cells_some {x:Str}:∀ (names:List (Str × NameKind)) (n:Nat) (acc:List (Str × Addr)),(names.lookup x=some .cell \/ (acc.lookup x).isSome=true)->((cellsFrom n names acc).lookup x).isSome=true
 | [],n,acc,h=>by
  rcases h with h | h
  ·cases h
  ·exact h
 | (y,k) :: r,n,acc,h=>by
  unfold cellsFrom
  rw [List.lookup_cons] at h
  cases q:x == y with
  | true=>
   rw [q] at h
   split
   ·refine cells_some r _ _ (.inr ?_)
    rw [List.lookup_cons,q]; rfl
   ·rename_i hk
    refine cells_some r _ _ (.inr ?_)
    rcases h with h | h
    ·cases h; exact (hk rfl).elim
    ·exact h
  | false=>
   rw [q] at h
   split
   ·refine cells_some r _ _ ?_
    rcases h with h | h
    ·exact .inl h
    ·right; rw [List.lookup_cons,q]; exact h
   ·exact cells_some r _ _ h
theorem mem_of_lookupA {x:Str} {c:Addr}:∀ {l:List (Str × Addr)},l.lookup x=some c->(x,c) ∈ l:=mem_of_lookup
theorem pairwise_ne {l:List (Str × Addr)} (h:l.Pairwise fun x y=>x.2 ≠ y.2) {x y:Str} {c c':Addr} (hx:(x,c) ∈ l) (hy:(y,c') ∈ l) (hne:y ≠ x):c' ≠ c:=by
 induction h with
 | nil=>cases hx
 | @cons a l h1 h2 ih=>
  cases hx with
  | head=>
   cases hy with
   | head=>exact (hne rfl).elim
   | tail _ hy=>exact fun z=>h1 _ hy z.symm
  | tail _ hx=>
   cases hy with
   | head=>exact h1 _ hx
   | tail _ hy=>exact ih hx hy
section
variable {prog:Program} {w:World} {K:Frag} {btab:List (Str × Value)} {k:Nat}
noncomputable def retOf:Fl->AV
 | .ret a=>a
 | _=>.d .none
theorem and_t {a b:Bool} (h:(a && b)=true):a=true /\ b=true:=(Bool.and_eq_true a b).mp h
theorem not_t {b:Bool}:(!b)=true->b=false:=by cases b <;> first | exact fun _=>rfl | exact fun h=>ft h
theorem fnChk_inv {a:Addr} {P:Prop} (hc:fnChk K a=true) (h:∀ o fd,K.lookup a=some o->o.data=.func fd->fnD K a=fd->fd.closure.isEmpty=true->fd.scope.kind=.function->fd.scope.isCoroutine=false->fd.scope.isGenerator=false->fd.globals=mainGlobals->fd.builtins=builtinsNs->codeIn K fd.code fd.qualname=true->fd.body=.stmts (bodyOf fd)->P):P:=by
 have e:fnD K a=fnD K a:=rfl
 revert hc e
 unfold fnChk
 conv=>enter [2,1,1]; unfold fnD
 cases ho:K.lookup a with
 | none=>exact fun h=>ft h
 | some o=>
  obtain ⟨cl,d1,dt,d2⟩:=o
  induction dt using Data.casesOn with
  | func fd=>
   intro hc e
   obtain ⟨hc,h8⟩:=and_t hc
   obtain ⟨hc,h7⟩:=and_t hc
   obtain ⟨hc,h6⟩:=and_t hc
   obtain ⟨hc,h5⟩:=and_t hc
   obtain ⟨hc,h4⟩:=and_t hc
   obtain ⟨hc,h3⟩:=and_t hc
   obtain ⟨h1,h2⟩:=and_t hc
   refine h _ fd ho rfl e.symm h1 ?_ (not_t h3) (not_t h4) (Nat.eq_of_beq_eq_true h5) (Nat.eq_of_beq_eq_true h6) h7 ?_
   ·revert h2; cases fd.scope.kind <;> first | exact fun _=>rfl | exact fun h=>ft h
   ·revert h8; unfold bodyOf; cases fd.body <;> first | exact fun _=>rfl | exact fun h=>ft h
  | _=>exact fun h=>ft h
theorem fn_at {h:Heap} (X:K.In h) {a:Addr} (hc:fnChk K a=true):(∃ o,A10 (h.get? a=some o) (o.data=.func (fnD K a)) ((fnD K a).closure = []) ((fnD K a).scope.kind=.function) ((fnD K a).scope.isCoroutine=false) ((fnD K a).scope.isGenerator=false) ((fnD K a).globals=mainGlobals) ((fnD K a).builtins=builtinsNs) (h.CodeRec (fnD K a).code (fnD K a).qualname) ((fnD K a).body=.stmts (bodyOf (fnD K a)))):=
 fnChk_inv hc fun o fd ho hd e h1 h2 h3 h4 h5 h6 h7 h8=>by
  rw [e]
  exact ⟨o,X _ _ ho,hd,List.isEmpty_iff.mp h1,h2,h3,h4,h5,h6,codeRec_of X h7,h8⟩
theorem codeAd_ref {fd:FuncData} {c:Addr}:codeAd fd=some c->fd.code=.ref c:=by
 unfold codeAd
 cases fd.code <;> first | exact fun h=>ns h | exact fun h=>congrArg _ (Option.some.inj h)
theorem kinds_at {sc:Scope} {x:Str} (h:(match sc.names.lookup x with
 | some .local=>true
 | some .cell=>true
 | _=>false)=true):sc.names.lookup x=some .local \/ sc.names.lookup x=some .cell:=by
 revert h
 cases q:sc.names.lookup x with
 | none=>exact fun h=>ft h
 | some k=>cases k <;> first | exact fun _=>.inl rfl | exact fun _=>.inr rfl | exact fun h=>ft h
set_option tactic.hygienic true in
theorem frame_new {W:Wd} {m:Nat->MO} {nx:Nat} {s s':Shared} {fd:FuncData} {a:Addr} {ab:List (Str × AV)} {binds:List (Str × Value)} (S:SInv prog w K btab W m nx s.heap) (hv:VB W nx ab binds) (hnd:(ab.map (·.1)).Nodup)
  (hkind:fd.scope.kind=.function) (hg:fd.globals=mainGlobals) (hb:fd.builtins=builtinsNs) {env:Env} (he:env=newEnv fd.scope s.heap.objs.size fd.globals (cellsFrom (s.heap.objs.size+1) fd.scope.names []) (fd.qualname ++ ".<locals>.") (some a) fd.code none fd.builtins)
  (x:InCallC s env.locals (bindL env.kindOf binds fun _=>none) env.cells (bindC env.kindOf binds fun _=>none) s') :
  SInv prog w K btab W m nx s'.heap /\ FInv W (fmOf fd []) env ⟨ab,[],m,nx⟩ s'.heap:=by
 have hk:Keeps s.heap s'.heap:=fun b o e=>x.toInCall.keep b o e
 have hkeys:=hv.keys
 have kind (y:Str):env.kindOf y=fd.scope.names.lookup y:=by rw [he]; rfl
 have hcells:env.cells=cellsFrom (s.heap.objs.size+1) fd.scope.names []:=by rw [he]; rfl
 have hloc:env.locals=s.heap.objs.size:=by rw [he]; rfl
 have gone {c:Addr} (h:s.heap.objs.size<=c):s.heap.get? c=none:=by
  cases q:s.heap.get? c with
  | none=>rfl
  | some o=>exact absurd (Heap.lt_size q) (Nat.not_lt.mpr h)
 refine ⟨S.keeps hk,⟨by rw [he]; rfl,hkind,by rw [he]; exact hg,by rw [he]; exact hb,by rw [he]; rfl,?_,?_,⟨_,x.toInCall.ns,?_⟩,?_,?_⟩⟩
 ·intro c hc
  rw [he]
  show fd.code=.ref c
  exact codeAd_ref hc
 ·rw [hloc]; exact S.fresh (get?_size _)
 ·intro y av hl hy
  rcases hv.lookup y with ⟨a1,_⟩ | ⟨a1,v,e1,e2,e3⟩
  ·exact absurd (a1.symm.trans hy) (by simp)
  ·have e4:av=a1:=Option.some.inj (hy.symm.trans e1)
   subst e4
   exact ⟨v,bindL_at ((kind y).trans hl) binds _ (by rw [hkeys]; exact hnd) e2,e3⟩
 ·intro y hy
  have hs:(env.cells.lookup y).isSome=true:=by rw [hcells]; exact cells_some _ _ _ (.inl hy)
  obtain ⟨c,hc⟩:=Option.isSome_iff_exists.mp hs
  have hab:=x.above y c (mem_of_lookupA hc)
  have hab2:s.heap.objs.size < c:=hloc ▸ hab
  refine ⟨c,hc,.inr ⟨by simp,S.fresh (gone (Nat.le_of_lt hab2)),Nat.ne_of_gt hab,fun z c' hz hz' e=>pairwise_ne x.apart (mem_of_lookupA hc) (mem_of_lookupA e) hz,_,x.cell y c hc,?_⟩⟩
  intro av hav
  rcases hv.lookup y with ⟨a1,_⟩ | ⟨a1,v,e1,e2,e3⟩
  ·exact absurd (a1.symm.trans hav) (by simp)
  ·have e4:av=a1:=Option.some.inj (hav.symm.trans e1)
   subst e4
   have hy2:fd.scope.names.lookup y=some .cell:=hy
   exact ⟨v,bindC_at (by rw [kind y,hy2]; exact fun z=>by cases z) binds _ (by rw [hkeys]; exact hnd) e2,e3⟩
 ·intro y av _ hy
  cases hy
theorem AOK.deeper {A:Around} {env:Env} (h:AOK (k+1) A):AOK k (A.deeper env):=by
 obtain ⟨h1,h2,h3⟩:=h
 refine ⟨?_,?_,h3⟩
 ·show A.depth+1+10 * k+20 < _
  omega
 ·show A.units+3+60 * k+400 < _
  omega
noncomputable def CodeTr (prog:Program) (w:World) (K:Frag) (btab:List (Str × Value)) (k:Nat) (f:AV) (args:List AV) (kws:List (Str × AV)) (m:Nat->MO) (nx:Nat) (r:AV) (m':Nat->MO) (nx':Nat):Prop:=
 ∀ (W:Wd) (A:Around) (s:Shared) (R:Result->Shared->Prop) (vf:Value) (vs kvs:List Value),AOK k A->SInv prog w K btab W m nx s.heap->VA W nx f vf->VAs W nx args vs->VAs W nx (kws.map (·.2)) kvs ->
  (∀ W' h' tk' v,nx<=nx'->Wd.le nx W W'->SInv prog w K btab W' m' nx' h'->VA W' nx' r v->R (.ok (.ret v)) { s with heap:=h',toks:=tk' })->codeAny (model prog w) A (.call vf ⟨vs,(kws.map (·.1)).zip kvs⟩) R s
theorem CodeTr.call {f:AV} {args:List AV} {kws:List (Str × AV)} {m:Nat->MO} {nx:Nat} {r:AV} {m':Nat->MO} {nx':Nat} (h:CodeTr prog w K btab k f args kws m nx r m' nx'):CallTr prog w K btab k f args kws m nx r m' nx':=by
 intro W A s tr Q E hA hS _ ⟨vf,vs,kvs,hvf,hvs,hkvs,htr⟩ hq
 subst htr
 exact wpAny_call (h W A s _ vf vs kvs hA hS hvf hvs hkvs fun W' h' tk' v n l S' hv=>hq W' h' tk' v n l S' hv)
set_option tactic.hygienic true in
theorem fn_go {a:Addr} {m:Nat->MO} {nx:Nat} {ab:List (Str × AV)} {binds:List (Str × Value)} {fl:Fl} {st':St} {W:Wd} {A:Around} {s:Shared} {R:Result->Shared->Prop} (hc:fnChk K a=true) (hA:AOK (k+1) A) (hS:SInv prog w K btab W m nx s.heap) (hvb:VB W nx ab binds)
  (hks:kindsOk (fnD K a).scope (ab.map (·.1))=true) (hnd:nodupB (ab.map (·.1))=true) (body:BTr prog w K btab k (fmOf (fnD K a) []) (bodyOf (fnD K a)) ⟨ab,[],m,nx⟩ fl st')
  (hq:∀ W' h' tk' v,nx<=st'.nx->Wd.le nx W W'->SInv prog w K btab W' st'.m st'.nx h'->VA W' st'.nx (retOf fl) v->R (.ok (.ret v)) { s with heap:=h',toks:=tk' }) :
  wpAny (model prog w) A.in1 (newFunctionEnv (fnD K a).scope (fnD K a).globals (fnD K a).closure binds ((fnD K a).qualname ++ ".<locals>.") (some a) (fnD K a).code none (fnD K a).builtins)
   (fun env s₂=>s₂.heap.NoLimit /\ codeAny (model prog w) A (.func (bodyOf (fnD K a)) env) R s₂) (fun e s'=>R (.error e) s') s:=by
 obtain ⟨X,hlim,_⟩:=hS.facts
 obtain ⟨o,ho,hd,hclo,hkind,hco,hgen,hgl,hbu,hcode,hbody⟩:=fn_at X hc
 rw [hclo]
 refine wpAny_newFunctionEnv_cells hkind (fun x hx=>?_) fun env he s' x=>?_
 ·have hx':x.1 ∈ ab.map (·.1):=by rw [<- hvb.keys]; exact List.mem_map_of_mem hx
  exact (kinds_at (List.all_eq_true.mp hks x.1 hx')).imp id fun e=>⟨e,cells_some _ _ _ (.inl e)⟩
 ·obtain ⟨S',F'⟩:=frame_new hS hvb (nodupB_nd hnd) hkind hgl hbu he x
  obtain ⟨h₁,tk,rfl,hk⟩:=x.done
  refine ⟨hlim.keeps hk,codeAny_func ?_⟩
  refine body W (A.deeper env) env _ _ _ hA.deeper S' F' trivial fun W' h' tk' b hn l S2 F2 hf=>?_
  induction fl using Fl.casesOn with
  | ret a=>cases b <;> first | exact hf.elim | exact hq W' h' tk' _ hn l S2 hf
  | _=>cases b <;> first | exact hf.elim | exact hq W' h' tk' _ hn l S2 (.d .none)
set_option tactic.hygienic true in
theorem code_fn {a:Addr} {args:List AV} {kws:List (Str × AV)} {m:Nat->MO} {nx:Nat} {ab:List (Str × AV)} {fl:Fl} {st':St} (hc:fnChk K a=true) (hb:BindQ K (fnD K a) args.length (kws.map (·.1)))
  (ha:bindN ((posNames (fnD K a)).zip args ++ kws) ((dflts K (fnD K a)).map fun p=>(p.1,ofTop p.2)) (posNames (fnD K a) ++ kwoNames (fnD K a))=some ab)
  (hks:kindsOk (fnD K a).scope (ab.map (·.1))=true) (hnd:nodupB (ab.map (·.1))=true)
  (body:BTr prog w K btab k (fmOf (fnD K a) []) (bodyOf (fnD K a)) ⟨ab,[],m,nx⟩ fl st') {r:AV} (hr:retOf fl=r) :
  CodeTr prog w K btab (k+1) (.k (.ref a)) args kws m nx r st'.m st'.nx:=by
 intro W A s R vf vs kvs hA hS hvf hvs hkvs hq
 subst hr
 cases hvf
 obtain ⟨X,_⟩:=hS.facts
 obtain ⟨o,ho,hd,_,_,hco,hgen,_,_,hcode,hbody⟩:=fn_at X hc
 have hroom:A.depth < recursionLimit:=by have:=hA.depth; omega
 have lvs:=hvs.len
 have lkvs:kvs.length=(kws.map (·.1)).length:=by rw [hkvs.len,List.length_map,List.length_map]
 have hkv:=kw_zip hkvs
 obtain ⟨binds,hbinds,hvb⟩:=bindN_va ((VB.zip (posNames (fnD K a)) hvs).append hkv) (VB.top (dflts K (fnD K a))) _ ha
 have hbt:BindsTo s (fnD K a) ⟨vs,(kws.map (·.1)).zip kvs⟩ binds:=kp_binds X fun S=>(hb S vs kvs lvs lkvs).trans hbinds
 refine codeAny_call_function hroom ho hd hco hgen hbody hcode (hbt _ _ _ _ ?_)
 exact fn_go hc hA hS hvb hks hnd body hq
end
end
section
class inductive AllP:List Prop->Prop
 | nil:AllP []
 | cons {p:Prop} {l:List Prop} (h:p) (r:AllP l):AllP (p :: l)
theorem AllP.mem {l:List Prop} (h:AllP l):∀ p ∈ l,p:=by
 induction h with
 | nil=>intro p hp; cases hp
 | cons h r ih=>intro p hp; cases hp with | head=>exact h | tail _ hp=>exact ih p hp
theorem ob0:AllP []:=.nil
theorem ob1 {a:Prop} (x:a):AllP [a]:=.cons x .nil
theorem ob2 {a b:Prop} (x:a) (y:b):AllP [a,b]:=.cons x (ob1 y)
section
variable {prog:Program} {w:World} {K:Frag} {btab:List (Str × Value)} {k:Nat}
theorem BTr.run (n:Nat) {φ:Fm} {b:List Stmt} {st st':St} (sc:List Ev) {fl:Fl} {ob:List Prop} (e:exs prog w K btab k n φ b st sc=some (fl,st',[],ob)) (h:AllP ob):BTr prog w K btab k φ b st fl st':=by
 intro W A env s Q E hA hS hF hc hq
 exact oks (prog:=prog) (w:=w) (K:=K) (btab:=btab) (k:=k) (C:=fun _ _=>True) n φ b (fun _ _ _ _ _ _ _=>trivial) _ _ _ _ _ _ e h.mem W A env s Q E hA hS hF trivial hq
theorem ETr.run (n:Nat) {φ:Fm} {e:PySem.Expr} {st st':St} (sc:List Ev) {a:AV} {ob:List Prop} (ev:ev prog w K btab k n φ e st sc=some (a,st',[],ob)) (h:AllP ob):ETr prog w K btab k φ e st a st':=by
 intro W A env s Q E hA hS hF hc hq
 exact (okn (prog:=prog) (w:=w) (K:=K) (btab:=btab) (k:=k) n).ev (C:=fun _ _=>True) φ e (fun _ _ _ _ _ _ _=>trivial) _ _ _ _ _ _ ev h.mem W A env s Q E hA hS hF trivial hq
end
noncomputable def gA (K:Frag) (x:Str):Addr:=match nsIn K mainGlobals x with
 | some (some (.ref a))=>a
 | _=>0
end
section
theorem FInv.extR {W:Wd} {φ:Fm} {env:Env} {st:St} {h h':Heap} {a:Addr} {o:Obj} (F:FInv W φ env st h) (ho:W.R a=some o) (hs:Heap.ExtBut a h h'):FInv W φ env st h':=by
 have ne:∀ {x:Addr},OwnAt W st.m st.nx x->x ≠ a:=fun p z=>by have:=p.r; rw [z,ho] at this; cases this
 obtain ⟨m,hns,hm⟩:=F.locs
 refine ⟨F.scope,F.kind,F.globals,F.builtins,F.frame,F.code,F.own,⟨m,hns.extBut hs (ne F.own),hm⟩,?_,F.free⟩
 intro x hx
 obtain ⟨cc,e,q⟩:=F.cells x hx
 refine ⟨cc,e,?_⟩
 rcases q with q | ⟨q1,q2,q3,q4,ov,⟨oc,hoc,hdc⟩,q6⟩
 ·exact .inl q
 ·exact .inr ⟨q1,q2,q3,q4,ov,⟨oc,hs _ _ (ne q2) hoc,hdc⟩,q6⟩
structure Held (W:Wd) (φ:Fm) (env:Env) (st:St) (h:Heap) (it:Addr) (a:AV) (i:Nat) (o:Obj):Prop where
 own:OwnAt W st.m st.nx it
 at_:h.get? it=some o
 ito:ItO W a i o
 frame:FInv (W.hold it o) φ env st h
section
variable {prog:Program} {w:World} {K:Frag} {btab:List (Str × Value)} {k:Nat} {φ:Fm}
theorem Held.step {W:Wd} {env:Env} {st:St} {h h':Heap} {it:Addr} {a:AV} {i:Nat} {o o':Obj} (H:Held W φ env st h it a i o) (hs:Heap.SameBut it h h') (ho:h'.get? it=some o') (hi:ItO W a (i+1) o'):Held W φ env st h' it a (i+1) o':=by
 refine ⟨H.own,ho,hi,?_⟩
 have F:=H.frame.extR (hold_at W it o) hs.extBut
 obtain ⟨vs,hf⟩:=H.ito.fields
 exact F.reR (R:=(W.hold it o').R) (a:=it) (fun b hb=>by rw [hold_ne hb]; exact (hold_ne hb).symm) (hold_at W it o) fun v e=>by rw [hf] at e; cases e
theorem Held.done {W:Wd} {env:Env} {st:St} {h h':Heap} {it:Addr} {a:AV} {i:Nat} {o:Obj} (H:Held W φ env st h it a i o) (hs:Heap.ExtBut it h h'):FInv W φ env st h':=by
 have F:=H.frame.extR (hold_at W it o) hs
 obtain ⟨vs,hf⟩:=H.ito.fields
 exact F.reR (R:=W.R) (a:=it) (fun b hb=>(hold_ne hb).symm) (hold_at W it o) fun v e=>by rw [hf] at e; cases e
theorem Held.back {W W':Wd} {env:Env} {st st':St} {h h':Heap} {it:Addr} {a:AV} {ds:List D} {i:Nat} {o:Obj} (H:Held W φ env st h it a i o) (hd:DSrc st.m st.nx a ds) (l:Wd.le st.nx (W.hold it o) W') (S':SInv prog w K btab W' st'.m st'.nx h') (F':FInv W' φ env st' h') :
  SInv prog w K btab { W' with R:=W.R } st'.m st'.nx h' /\ Wd.le st.nx W { W' with R:=W.R } /\ Held { W' with R:=W.R } φ env st' h' it a i o:=by
 obtain ⟨a1,a2,a3,a4⟩:=S'.unhold H.own l
 refine ⟨a1,a2,a3,a4,H.ito.mono hd a2,?_⟩
 have e:({ W' with R:=W.R }:Wd).hold it o=W':=by
  rcases W' with ⟨B,R,ι⟩
  have:R=(W.hold it o).R:=l.R
  rw [this]
  rfl
 rw [e]
 exact F'
theorem Held.mono {W W':Wd} {env:Env} {st st':St} {h h':Heap} {it:Addr} {a:AV} {ds:List D} {i:Nat} {o:Obj} (H:Held W φ env st h it a i o) (hd:DSrc st.m st.nx a ds) (l:Wd.le st.nx (W.hold it o) W') (F':FInv W' φ env st' h'):FInv { W' with R:=W.R } φ env st' h':=by
 obtain ⟨vs,hf⟩:=H.ito.fields
 exact F'.reR (R:=W.R) (a:=it) (fun b hb=>by rw [l.R]; exact (hold_ne hb).symm) (by rw [l.R]; exact hold_at W it o) fun v e=>by rw [hf] at e; cases e
set_option backward.match.sparseCases false in
noncomputable def gTgt (φ:Fm) (t:PySem.Expr) (d:D):G Unit:=match t with
 | .Name x _=>gStore φ x (.d d)
 | .Tuple es _ _=>gOpt (tupNames es) (fun xs=>gOpt (seqOf (.d d)) (fun ds=>gStores φ xs ds) G.fail) G.fail
 | _=>G.fail
theorem snd_tgt {t:PySem.Expr} {d:D} {v:Value} {C:Wd->Nat->Prop} (hC:Mono C) (hv:∀ W nx,C W nx->VA W nx (.d d) v):SndT prog w K btab k φ C (gTgt φ t d) (fun env=>Lf prog w (assign t env v)) (fun _ _ _ _=>True):=by
 induction t using PySem.Expr.casesOn with
 | Name x p=>exact SndT.tree (Snd.T (snd_store hv)) fun A env Q E s _ h=>wpAny_assign_Name h
 | Tuple es c p=>
  have go:∀ {ds:List D},isSeqD (.d d)->(∀ m nx,DSrc m nx (.d d) ds)->SndT prog w K btab k φ C (gOpt (tupNames es) (fun xs=>gStores φ xs ds) G.fail) (fun env=>Lf prog w (assign (.Tuple es c p) env v)) (fun _ _ _ _=>True):=fun h1 h2=>by
   cases hx:tupNames es with
   | none=>exact SndT.failV
   | some xs=>
    refine SndT.tree (snd_unpack (v:=v) hx hC h1 h2 hv) fun A env Q E s _ h=>?_
    show wpAny (model prog w) A (assign (.Tuple es c p) env v) Q E s
    rw [arm_assign_Tuple]
    exact wpAny_bind (wpAny_standAt h)
  induction d using D.casesOn with
  | tup ds=>exact go trivial fun _ _=>rfl
  | lst ds=>exact go trivial fun _ _=>rfl
  | _=>show SndT _ _ _ _ _ _ _ (gOpt (tupNames es) (fun _=>G.fail) G.fail) _ _; cases tupNames es <;> exact SndT.failV
 | _=>exact SndT.failV
class inductive ForTr (prog:Program) (w:World) (K:Frag) (btab:List (Str × Value)) (k:Nat) (φ:Fm) (t:PySem.Expr) (b:List Stmt) (a:AV) (ds0:List D):List D->St->Fl->St->Prop
 | done {st:St} (hd:DSrc st.m st.nx a ds0):ForTr prog w K btab k φ t b a ds0 [] st .next st
 | step {d:D} {ds:List D} {st st1 st2 st3:St} {fl f:Fl} (hd:DSrc st.m st.nx a ds0) (ht:gTgt φ t d st []=some ((),st1,[],[])) (hb:BTr prog w K btab k φ b st1 f st2) (hf:f=.next \/ f=.cont)
   (r:ForTr prog w K btab k φ t b a ds0 ds st2 fl st3):ForTr prog w K btab k φ t b a ds0 (d :: ds) st fl st3
 | stop {d:D} {ds:List D} {st st1 st2:St} {r:AV} (hd:DSrc st.m st.nx a ds0) (ht:gTgt φ t d st []=some ((),st1,[],[])) (hb:BTr prog w K btab k φ b st1 (.ret r) st2):ForTr prog w K btab k φ t b a ds0 (d :: ds) st (.ret r) st2
 | brk {d:D} {ds:List D} {st st1 st2:St} (hd:DSrc st.m st.nx a ds0) (ht:gTgt φ t d st []=some ((),st1,[],[])) (hb:BTr prog w K btab k φ b st1 .brk st2):ForTr prog w K btab k φ t b a ds0 (d :: ds) st .next st2
theorem turn_tr {t:PySem.Expr} {b:List Stmt} {a:AV} {ds0:List D} {d:D} {st st1 st2:St} {f:Fl} {it:Addr} {i:Nat} {o:Obj} {W:Wd} {A:Around} {env:Env} {s:Shared} {v:Value} {Q:Flow->Shared->Prop} {E:Value->Shared->Prop}
  (hA:AOK k A) (S:SInv prog w K btab W st.m st.nx s.heap) (H:Held W φ env st s.heap it a i o) (hd:DSrc st.m st.nx a ds0) (hv:VD W.B d v) (ht:gTgt φ t d st []=some ((),st1,[],[])) (hb:BTr prog w K btab k φ b st1 f st2)
  (h:∀ W' h' tk' g,st.nx<=st2.nx->Wd.le st.nx (W.hold it o) W'->SInv prog w K btab W' st2.m st2.nx h'->FInv W' φ env st2 h'->FlR W' st2.nx f g->Q g { s with heap:=h',toks:=tk' }) :
  wpAny (model prog w) A (assign t env v) (fun _ s₂=>wpAny (model prog w) A (execs b env) Q E s₂) E s:=by
 have T:=snd_tgt (prog:=prog) (w:=w) (K:=K) (btab:=btab) (k:=k) (φ:=φ) (t:=t) (d:=d) (v:=v) (C:=fun W nx=>VA W nx (.d d) v) (Mono.va _ _) (fun W nx c=>c) _ _ _ _ _ _ ht (by simp)
 refine T (W.hold it o) A env s _ E hA (S.hold H.own H.at_) H.frame (.d hv) fun W1 h1 tk1 _ n1 l1 S1 F1 _=>?_
 exact hb W1 A env _ Q E hA S1 F1 trivial fun W2 h2 tk2 g n2 l2 S2 F2 r=>h W2 h2 tk2 g (Nat.le_trans n1 n2) (l1.trans n1 l2) S2 F2 r
theorem flr_go {W:Wd} {nx:Nat} {f:Fl} {g:Flow} (hf:f=.next \/ f=.cont) (h:FlR W nx f g):g=.next \/ g=.cont:=by
 rcases hf with rfl | rfl <;> induction g using PySem.Flow.casesOn <;> first | exact h.elim | exact .inl rfl | exact .inr rfl
theorem flr_brk {W:Wd} {nx:Nat} {g:Flow} (h:FlR W nx .brk g):g=.brk:=by
 induction g using PySem.Flow.casesOn <;> first | exact h.elim | rfl
theorem flr_ret {W:Wd} {nx:Nat} {a:AV} {g:Flow} (h:FlR W nx (.ret a) g):∃ v,g=.ret v /\ VA W nx a v:=by
 induction g using PySem.Flow.casesOn <;> first | exact h.elim | exact ⟨_,rfl,h⟩
noncomputable def LoopI (prog:Program) (w:World) (K:Frag) (btab:List (Str × Value)) (φ:Fm) (T:List D->St->Prop) (a:AV) (ds0:List D) (it:Addr) (W0:Wd) (nx0:Nat) (env:Env) (s0:Shared) (n:Nat) (s:Shared):Prop:=
 (Ex6 fun (ds:List D) (st:St) (W:Wd) (o:Obj) (h:Heap) (tk:Nat)=>A9 (n=ds.length) (s = { s0 with heap:=h,toks:=tk }) (ds0.drop (ds0.length - ds.length)=ds) (ds.length<=ds0.length) (T ds st) (SInv prog w K btab W st.m st.nx h) (Held W φ env st h it a (ds0.length - ds.length) o) (nx0<=st.nx) (Wd.le nx0 W0 W))
theorem LoopI.start {T:List D->St->Prop} {a:AV} {ds0:List D} {it:Addr} {W0:Wd} {st0:St} {env:Env} {s0:Shared} {o0:Obj} (hT:T ds0 st0) (S0:SInv prog w K btab W0 st0.m st0.nx s0.heap) (H0:Held W0 φ env st0 s0.heap it a 0 o0) :
  LoopI prog w K btab φ T a ds0 it W0 st0.nx env s0 ds0.length s0:=
 ⟨ds0,st0,W0,o0,s0.heap,s0.toks,rfl,rfl,by rw [Nat.sub_self]; rfl,Nat.le_refl _,hT,S0,by rw [Nat.sub_self]; exact H0,Nat.le_refl _,.refl _ _⟩
theorem drop_item {ds0 ds:List D} {d:D} {i:Nat} (h:ds0.drop i=d :: ds):ds0[i]? = some d:=by
 have:=congrArg List.head? h
 rw [List.head?_drop] at this
 exact this
theorem LoopI.next {T:List D->St->Prop} {a:AV} {ds0 ds:List D} {d:D} {it:Addr} {W0 W W':Wd} {nx0:Nat} {st st1:St} {env:Env} {s0:Shared} {h1 h':Heap} {tk':Nat} {o':Obj} (hdrop:ds0.drop (ds0.length - (d :: ds).length)=d :: ds) (hle:(d :: ds).length<=ds0.length) (hT:T ds st1)
  (H1:Held W φ env st h1 it a (ds0.length - (d :: ds).length+1) o') (hd:DSrc st.m st.nx a ds0) (hn:nx0<=st.nx) (hl:Wd.le nx0 W0 W) (n2:st.nx<=st1.nx) (l2:Wd.le st.nx (W.hold it o') W') (S2:SInv prog w K btab W' st1.m st1.nx h') (F2:FInv W' φ env st1 h') :
  ∃ m,m < (d :: ds).length /\ LoopI prog w K btab φ T a ds0 it W0 nx0 env s0 m { s0 with heap:=h',toks:=tk' }:=by
 have hx:=H1.back hd l2 S2 F2
 have hix:ds0.length - (d :: ds).length+1=ds0.length - ds.length:=Nat.sub_sub ds0.length ds.length 1 ▸ Nat.sub_add_cancel (Nat.sub_pos_of_lt hle)
 exact ⟨ds.length,Nat.lt_succ_self _,ds,st1,_,o',h',tk',rfl,rfl,by rw [<- hix,<- List.drop_drop,hdrop]; rfl,Nat.le_of_lt hle,hT,hx.1,hix ▸ hx.2.2,Nat.le_trans hn n2,hl.trans hn hx.2.1⟩
theorem ForTr.src {t:PySem.Expr} {b:List Stmt} {a:AV} {ds0 ds:List D} {st st':St} {fl:Fl} (h:ForTr prog w K btab k φ t b a ds0 ds st fl st'):DSrc st.m st.nx a ds0:=
 ForTr.casesOn (motive:=fun _ st _ _ _=>DSrc st.m st.nx a ds0) h id (fun h _ _ _ _=>h) (fun h _ _=>h) (fun h _ _=>h)
theorem ForTr.inv {t:PySem.Expr} {b:List Stmt} {a:AV} {ds0 ds:List D} {st st':St} {fl:Fl} (h:ForTr prog w K btab k φ t b a ds0 ds st fl st'):(ds = [] /\ st'=st /\ fl=.next) \/ (Ex5 fun d r st1 st2 f=>A4 (ds=d :: r) (gTgt φ t d st []=some ((),st1,[],[])) (BTr prog w K btab k φ b st1 f st2)
  ((f=.next \/ f=.cont) /\ ForTr prog w K btab k φ t b a ds0 r st2 fl st' \/ (∃ v,f=.ret v /\ fl=.ret v) /\ st'=st2 \/ f=.brk /\ fl=.next /\ st'=st2)):=by
 induction h using ForTr.casesOn with
 | done=>exact .inl ⟨rfl,rfl,rfl⟩
 | step hd ht hb hf r=>exact .inr ⟨_,_,_,_,_,rfl,ht,hb,.inl ⟨hf,r⟩⟩
 | stop hd ht hb=>exact .inr ⟨_,_,_,_,_,rfl,ht,hb,.inr (.inl ⟨⟨_,rfl,rfl⟩,rfl⟩)⟩
 | brk hd ht hb=>exact .inr ⟨_,_,_,_,_,rfl,ht,hb,.inr (.inr ⟨rfl,rfl,rfl⟩)⟩
theorem for_loop {t:PySem.Expr} {b:List Stmt} {a:AV} {ds0:List D} {fl:Fl} {st0 st':St} {it:Addr} {W0:Wd} {A:Around} {env:Env} {s0:Shared} {R:Result->Shared->Prop} {o0:Obj}
  (hA:AOK k A) (S0:SInv prog w K btab W0 st0.m st0.nx s0.heap) (H0:Held W0 φ env st0 s0.heap it a 0 o0) (hT:ForTr prog w K btab k φ t b a ds0 ds0 st0 fl st')
  (hR:∀ W' h' tk' g,st0.nx<=st'.nx->Wd.le st0.nx W0 W'->SInv prog w K btab W' st'.m st'.nx h'->FInv W' φ env st' h'->FlR W' st'.nx fl g->R (.ok g) { s0 with heap:=h',toks:=tk' }) :
  codeAny (model prog w) A (.forLoop t (.ref it) b [] env) R s0:=by
 obtain ⟨I,hI⟩ : ∃ I:Nat->Shared->Prop,LoopI prog w K btab φ (fun ds st=>ForTr prog w K btab k φ t b a ds0 ds st fl st') a ds0 it W0 st0.nx env s0=I:=⟨_,rfl⟩
 refine codeAny_forLoop_any I ?_ ds0.length (hI ▸ LoopI.start hT S0 H0)
 clear hT S0 H0
 intro n s hi
 rcases Eq.mpr (congrFun (congrFun hI n) s) hi with ⟨ds,st,W,o,h,tk,rfl,rfl,hdrop,hle,hT,S,H,hn,hl⟩
 clear hi
 have hd:=hT.src
 rcases hT.inv with ⟨rfl,rfl,ef⟩ | ⟨d,r,st1,st2,f,rfl,ht,hb,hz⟩
 ·refine iter_end hA.handled (s:={ s0 with heap:=h,toks:=tk }) S hd H.at_ H.ito (List.getElem?_eq_none (Nat.le_refl _)) fun h' he=>?_
  exact wpAny_pure (hR W h' tk .next hn hl (S.own H.own he) (H.done he) (by rw [ef]; exact trivial))
 ·refine iter_item (s:={ s0 with heap:=h,toks:=tk }) S hd H.at_ H.ito (drop_item hdrop) fun v o' h1 tk1 hv ho1 hi1 hsb=>?_
  have H1:=H.step hsb ho1 hi1
  refine ItO.letGo (s:={ s0 with heap:=h1,toks:=tk1 }) ho1 hi1 ?_
  refine turn_tr (s:={ s0 with heap:=h1,toks:=tk1 }) hA (S.own H.own hsb.extBut) H1 hd hv ht hb fun W' h' tk' g n2 l2 S2 F2 hfl=>?_
  rcases hz with ⟨hf,hr⟩ | ⟨⟨v,rfl,ef⟩,rfl⟩ | ⟨rfl,ef,rfl⟩
  ·have key:∃ m,m < (d :: r).length /\ I m { s0 with heap:=h',toks:=tk' }:=hI ▸ LoopI.next hdrop hle hr H1 hd hn hl n2 l2 S2 F2
   rcases flr_go hf hfl with rfl | rfl
   ·exact key
   ·exact key
  ·have hx:=H1.back hd l2 S2 F2
   rcases flr_ret hfl with ⟨v,rfl,hv⟩
   exact hR _ h' tk' _ (Nat.le_trans hn n2) (hl.trans hn hx.2.1) hx.1 (H1.mono hd l2 F2) (by rw [ef]; exact VA.R (R:=W.R) hv)
  ·have hx:=H1.back hd l2 S2 F2
   cases flr_brk hfl
   exact hR _ h' tk' .next (Nat.le_trans hn n2) (hl.trans hn hx.2.1) hx.1 (H1.mono hd l2 F2) (by rw [ef]; exact trivial)
theorem iter_held {W:Wd} {A:Around} {env:Env} {s:Shared} {st:St} {a:AV} {v:Value} {ds:List D} {Q:Value->Shared->Prop} {E:Value->Shared->Prop} (S:SInv prog w K btab W st.m st.nx s.heap) (F:FInv W φ env st s.heap) (hv:VA W st.nx a v) (hs:DSrc st.m st.nx a ds)
  (h:∀ o h',SInv prog w K btab W st.m st.nx h'->Held W φ env st h' s.heap.objs.size a 0 o->Q (.ref s.heap.objs.size) { s with heap:=h' }):wpAny (model prog w) A (pyIter v) Q E s:=by
 refine iter_start S hv hs fun o hi hf=>h o _ (S.keeps (Keeps.push _ _)) ⟨S.fresh (get?_size _),Heap.get?_push_size _ hf,hi,F.hold S (get?_size _) (Keeps.push _ _)⟩
set_option backward.match.sparseCases false in
noncomputable def noSet:PySem.Expr->Bool
 | .Set ..=>false
 | .SetComp ..=>false
 | _=>true
set_option backward.match.sparseCases false in
noncomputable def forIter:Stmt->PySem.Expr
 | .For _ i _ _ _=>i
 | _=>.Constant .none 0 default
set_option backward.match.sparseCases false in
noncomputable def forTgt:Stmt->PySem.Expr
 | .For t _ _ _ _=>t
 | _=>.Constant .none 0 default
set_option backward.match.sparseCases false in
noncomputable def forBody:Stmt->List Stmt
 | .For _ _ b _ _=>b
 | .While _ b _ _=>b
 | _=>[]
set_option backward.match.sparseCases false in
noncomputable def whTest:Stmt->PySem.Expr
 | .While t _ _ _=>t
 | _=>.Constant .none 0 default
noncomputable def forChk:Stmt->Bool
 | .For _ _ _ [] _=>true
 | _=>false
noncomputable def whChk:Stmt->Bool
 | .While _ _ [] _=>true
 | _=>false
theorem whChk_of {c:Stmt}:whChk c=true->∃ t b p,c=.While t b [] p:=by
 induction c using PySem.Stmt.casesOn with
 | While t b o p=>exact List.casesOn o (fun _=>⟨t,b,p,rfl⟩) (fun _ _ h=>Internal.ft h)
 | _=>exact fun h=>Internal.ft h
theorem forChk_of {c:Stmt}:forChk c=true->∃ t i b p,c=.For t i b [] p:=by
 induction c using PySem.Stmt.casesOn with
 | For t i b o p=>exact List.casesOn o (fun _=>⟨t,i,b,p,rfl⟩) (fun _ _ h=>Internal.ft h)
 | _=>exact fun h=>Internal.ft h
theorem noSet_folded {i:PySem.Expr}:noSet i=true->∀ (env:Env) (x:Value),foldedSetIterable i env x=pure x:=by
 induction i using PySem.Expr.casesOn <;> first | exact fun _ _ _=>rfl | exact fun h=>Internal.ft h
theorem STr.for_ {c:Stmt} {st st0 st':St} {fl:Fl} {a:AV} {ds:List D} (hc:forChk c=true) (hns:noSet (forIter c)=true) (n:Nat) (sc:List Ev) {ob:List Prop} (e:ev prog w K btab k n φ (forIter c) st sc=some (a,st0,[],ob)) (h:AllP ob)
  (hd:DSrc st0.m st0.nx a ds) (loop:ForTr prog w K btab k φ (forTgt c) (forBody c) a ds ds st0 fl st'):STr prog w K btab k φ c st fl st':=by
 obtain ⟨t,i,b,p,rfl⟩:=forChk_of hc
 intro W A env s Q E hA hS hF hc' hq
 refine wpAny_For ?_ (noSet_folded hns env)
 refine ETr.run n sc e h W A env s _ E hA hS hF trivial fun W1 h1 tk1 v n1 l1 S1 F1 hv=>?_
 refine iter_held (s:={ s with heap:=h1,toks:=tk1 }) S1 F1 hv hd fun o h2 S2 H2=>?_
 refine for_loop (s0:={ s with heap:=h2,toks:=tk1 }) hA S2 H2 loop fun W3 h3 tk3 g n3 l3 S3 F3 r=>?_
 exact hq W3 h3 tk3 g (Nat.le_trans n1 n3) (l1.trans n1 l3) S3 F3 r
noncomputable def TTr (prog:Program) (w:World) (K:Frag) (btab:List (Str × Value)) (k:Nat) (φ:Fm) (e:PySem.Expr) (st:St) (b:Bool) (st':St):Prop:=
 Tri prog w K btab k φ (fun _ _=>True) (fun env=>isTrue e env (eval e env)) st st' (fun _ b'=>b'=b)
theorem TTr.run (n:Nat) {e:PySem.Expr} {st st':St} (sc:List Ev) {a:Bool} {ob:List Prop} (ev:tv prog w K btab k n φ e st sc=some (a,st',[],ob)) (h:AllP ob):TTr prog w K btab k φ e st a st':=by
 intro W A env s Q E hA hS hF hc hq
 exact (okn (prog:=prog) (w:=w) (K:=K) (btab:=btab) (k:=k) n).tv (C:=fun _ _=>True) φ e (fun _ _ _ _ _ _ _=>trivial) _ _ _ _ _ _ ev h.mem W A env s Q E hA hS hF trivial fun W' h' tk' b n l S F r=>hq W' h' tk' b n l S F r.symm
class inductive WhTr (prog:Program) (w:World) (K:Frag) (btab:List (Str × Value)) (k:Nat) (φ:Fm) (t:PySem.Expr) (b:List Stmt):Nat->St->Fl->St->Prop
 | done {n:Nat} {st st1:St} (ht:TTr prog w K btab k φ t st false st1):WhTr prog w K btab k φ t b n st .next st1
 | step {n:Nat} {st st1 st2 st3:St} {fl f:Fl} (ht:TTr prog w K btab k φ t st true st1) (hb:BTr prog w K btab k φ b st1 f st2) (hf:f=.next \/ f=.cont) (r:WhTr prog w K btab k φ t b n st2 fl st3):WhTr prog w K btab k φ t b (n+1) st fl st3
 | stop {n:Nat} {st st1 st2:St} {r:AV} (ht:TTr prog w K btab k φ t st true st1) (hb:BTr prog w K btab k φ b st1 (.ret r) st2):WhTr prog w K btab k φ t b n st (.ret r) st2
 | brk {n:Nat} {st st1 st2:St} (ht:TTr prog w K btab k φ t st true st1) (hb:BTr prog w K btab k φ b st1 .brk st2):WhTr prog w K btab k φ t b n st .next st2
theorem STr.while_ {c:Stmt} {st0 st':St} {fl:Fl} (hc:whChk c=true) {N:Nat} (loop:WhTr prog w K btab k φ (whTest c) (forBody c) N st0 fl st'):STr prog w K btab k φ c st0 fl st':=by
 obtain ⟨t,b,p,rfl⟩:=whChk_of hc
 intro W0 A env s0 Q E hA hS hF hc' hq
 refine wpAny_While ?_
 refine codeAny_whileLoop (fun n s=>(Ex4 fun (st:St) (W:Wd) (h:Heap) (tk:Nat)=>A6 (s = { s0 with heap:=h,toks:=tk }) (WhTr prog w K btab k φ t b n st fl st') (SInv prog w K btab W st.m st.nx h) (FInv W φ env st h) (st0.nx<=st.nx) (Wd.le st0.nx W0 W))) ?_ N
  ⟨st0,W0,s0.heap,s0.toks,rfl,loop,hS,hF,Nat.le_refl _,.refl _ _⟩
 clear loop hS hF
 rintro n s ⟨st,W,h,tk,rfl,hT,S,F,hn,hl⟩
 induction hT using WhTr.casesOn with
 | done ht=>
  refine ht W A env _ _ _ hA S F trivial fun W1 h1 tk1 x n1 l1 S1 F1 hx=>?_
  subst hx
  exact wpAny_pure (hq W1 h1 tk1 .next (Nat.le_trans hn n1) (hl.trans hn l1) S1 F1 trivial)
 | @step n st st1 st2 st' fl f ht hb hf r=>
  refine ht W A env _ _ _ hA S F trivial fun W1 h1 tk1 x n1 l1 S1 F1 hx=>?_
  subst hx
  refine hb W1 A env _ _ _ hA S1 F1 trivial fun W2 h2 tk2 g n2 l2 S2 F2 hfl=>?_
  have key:∃ m,m < n+1 /\ (Ex4 fun (st:St) (W:Wd) (h:Heap) (tk:Nat)=>A6 (({ s0 with heap:=h2,toks:=tk2 }:Shared) = { s0 with heap:=h,toks:=tk }) (WhTr prog w K btab k φ t b m st fl st') (SInv prog w K btab W st.m st.nx h) (FInv W φ env st h) (st0.nx<=st.nx) (Wd.le st0.nx W0 W)):=
   ⟨n,Nat.lt_succ_self _,st2,W2,h2,tk2,rfl,r,S2,F2,Nat.le_trans hn (Nat.le_trans n1 n2),hl.trans hn (l1.trans n1 l2)⟩
  rcases flr_go hf hfl with rfl | rfl
  ·exact key
  ·exact key
 | @stop n st st1 st' r ht hb=>
  refine ht W A env _ _ _ hA S F trivial fun W1 h1 tk1 x n1 l1 S1 F1 hx=>?_
  subst hx
  refine hb W1 A env _ _ _ hA S1 F1 trivial fun W2 h2 tk2 g n2 l2 S2 F2 hfl=>?_
  rcases flr_ret hfl with ⟨v,rfl,hv⟩
  exact hq W2 h2 tk2 _ (Nat.le_trans hn (Nat.le_trans n1 n2)) (hl.trans hn (l1.trans n1 l2)) S2 F2 hv
 | @brk n st st1 st' ht hb=>
  refine ht W A env _ _ _ hA S F trivial fun W1 h1 tk1 x n1 l1 S1 F1 hx=>?_
  subst hx
  refine hb W1 A env _ _ _ hA S1 F1 trivial fun W2 h2 tk2 g n2 l2 S2 F2 hfl=>?_
  cases flr_brk hfl
  exact hq W2 h2 tk2 .next (Nat.le_trans hn (Nat.le_trans n1 n2)) (hl.trans hn (l1.trans n1 l2)) S2 F2 trivial
end
end
section
class inductive CLoop (step:D->St->St->Prop) (a:AV) (ds0:List D):List D->St->St->Prop
 | nil {st:St} (hd:DSrc st.m st.nx a ds0):CLoop step a ds0 [] st st
 | cons {d:D} {ds:List D} {st st1 st2:St} (hd:DSrc st.m st.nx a ds0) (hs:step d st st1) (r:CLoop step a ds0 ds st1 st2):CLoop step a ds0 (d :: ds) st st2
section
variable (prog:Program) (w:World) (K:Frag) (btab:List (Str × Value)) (k:Nat) (φ:Fm)
noncomputable def CStep (g:Comprehension) (inner:St->St->Prop) (d:D) (st st':St):Prop:=∃ st1,gTgt φ g.target d st []=some ((),st1,[],[]) /\
 ((g.ifs = [] /\ inner st1 st') \/ (Ex3 fun c st2 b=>A3 (g.ifs = [c]) (TTr prog w K btab k φ c st1 b st2) (((b=true /\ inner st2 st') \/ (b=false /\ st'=st2)))))
noncomputable def CEmit (n0:Nat) (elt:PySem.Expr) (st st':St):Prop:=(Ex3 fun x st1 l=>A5 (ETr prog w K btab k φ elt st (.d x) st1) (n0 < st1.nx) (st1.m n0=.list l) (l.length < 100000) (st' = { st1 with m:=upd st1.m n0 (.list (l ++ [x])) }))
noncomputable def CInner (n0:Nat) (elt:PySem.Expr):List Comprehension->St->St->Prop
 | []=>CEmit prog w K btab k φ n0 elt
 | g :: gs=>fun st st'=>(Ex3 fun a st0 ds=>A5 (noSet g.iter=true) (g.is_async=0) (ETr prog w K btab k φ g.iter st a st0) (DSrc st0.m st0.nx a ds) (CLoop (CStep prog w K btab k φ g (CInner n0 elt gs)) a ds ds st0 st'))
noncomputable def ITr (n0:Nat) (acc:Value) (t:Env->Sem Unit) (st st':St):Prop:=
 Tri prog w K btab k φ (fun W nx=>VA W nx (.loc n0) acc) t st st' (fun _ _=>True)
end
section
variable {prog:Program} {w:World} {K:Frag} {btab:List (Str × Value)} {k:Nat} {φ:Fm}
set_option tactic.hygienic true in
theorem ItO.again {W:Wd} {a:AV} {it:Addr} {i:Nat} {o:Obj} {A:Around} {E:Value->Shared->Prop} {s:Shared} {Q:Value->Shared->Prop} (ho:s.heap.get? it=some o) (hi:ItO W a i o) (h:Q (.ref it) s):wpAny (model prog w) A (pyIter (.ref it)) Q E s:=by
 cases hi with
 | tup hv hc hd=>
  rename_i t
  have hT:s.heap.IsTupleIter it t i \/ True:=.inr trivial
  refine wpAny_pyIter_slot (T := "tuple_iterator") ⟨_,ho,hc⟩ F.slot_tuple_iterator_iter (wpAny_call_entry F.slot_tuple_iterator_iter (T := "tuple_iterator") ⟨_,ho,hc⟩ F.entry_tuple_iterator_iter ?_ (F.args_tuple_iterator_iter_1 _))
  show wpAny _ _ (ret (.ref it)) _ _ s
  exact wpAny_pure ⟨_,rfl, "tuple_iterator",_,⟨_,ho,hc⟩,F.slot_tuple_iterator_next.lookup,h⟩
 | lst hv hc hd=>exact wpAny_pyIter_listiter ⟨_,ho,hc,hd⟩ h
 | loc hc hd=>exact wpAny_pyIter_listiter ⟨_,ho,hc,hd⟩ h
 | stra hc hd=>exact wpAny_pyIter_striter_ascii ⟨_,ho,hc,hd⟩ h
 | strw hc hd=>exact wpAny_pyIter_striter_wide ⟨_,ho,hc,hd⟩ h
 | rng ho'=>subst ho'; exact wpAny_pyIter_rangeiter ho h
theorem lst_update {h:Heap} {a:Addr} {vs:List Value} {n:Nat} (ho:h.get? a=some (lstObj vs n)) (f:Array Value->Array Value):∃ n',(h.update a (Obj.mapSeq f)).get? a=some (lstObj (f vs.toArray).toList n') /\ Heap.ExtBut a h (h.update a (Obj.mapSeq f)):=by
 have q:=PySem.IsL.update (l:=a) (items:=vs.toArray) (n:=n) ho f
 refine ⟨if ((f vs.toArray).size == vs.toArray.size)=true then n else n+1,?_,(Heap.SameBut.update ..).extBut⟩
 have e:(f vs.toArray).toList.toArray=f vs.toArray:=by simp
 unfold lstObj
 rw [e]
 exact q
theorem list_append_at {A:Around} {E:Value->Shared->Prop} {s:Shared} {l:Addr} {vs:List Value} {n:Nat} {x:Value} {Q:Value->Shared->Prop} (hl:s.heap.get? l=some (lstObj vs n)) (hsz:vs.length<=sizeLine)
  (hQ:∀ h' n',h'.get? l=some (lstObj (vs ++ [x]) n')->Heap.ExtBut l s.heap h'->Q .none { s with heap:=h' }):wpAny (model prog w) A (call (.builtin "list.append") [.ref l,x]) Q E s:=by
 refine call_meets PySem.F.slot_list_append ⟨_,hl,rfl⟩ PySem.F.entry_list_append (PySem.F.args_list_append_2 _ _) (PySem.list_append l vs.toArray n x (by simpa using hsz)) ⟨hl,?_⟩
 obtain ⟨n',h1,h2⟩:=lst_update hl (fun a=>a.push x)
 exact hQ _ n' (by simpa using h1) h2
theorem emit_tr {n0:Nat} {elt:PySem.Expr} {acc:Value} {st st':St} (h:CEmit prog w K btab k φ n0 elt st st'):ITr prog w K btab k φ n0 acc (fun env=>do let _ <- call (.builtin "list.append") [acc,<- eval elt env]) st st':=by
 obtain ⟨x,st1,l,h1,h2,h3,h4,rfl⟩:=h
 intro W A env s Q E hA hS hF hc hq
 refine wpAny_bind (h1 W A env s _ E hA hS hF trivial fun W1 hp1 tk1 v n1 l1 S1 F1 hv=>?_)
 have hacc:=hc.mono n1 l1
 cases hacc with
 | loc hn=>
  obtain ⟨vs,nn,hl,hvs⟩:=loc_ex S1 h2 h3
  have hj:st1.m n0 ≠ .junk:=by rw [h3]; exact fun q=>by cases q
  cases hv with
  | d hv=>
   refine wpAny_bind (list_append_at (s:={ s with heap:=hp1,toks:=tk1 }) hl (by have:=hvs.length; rw [sizeLine_eq]; omega) fun h' n' hl' hsb=>?_)
   refine wpAny_pure ?_
   have S2:=S1.put (mo:=.list (l ++ [x])) h2 hj hsb ⟨vs ++ [v],n',hl',hvs.append (.cons hv .nil)⟩
   exact hq W1 h' tk1 () n1 l1 S2 (F1.carry (Nat.le_refl _) (.refl _ _) (Carry.put h2 hj hsb)) trivial
noncomputable def inTree (e elt:PySem.Expr) (d:Nat) (acc:Value):List Comprehension->Env->Sem Unit
 | [],env=>do let _ <- call (.builtin "list.append") [acc,<- eval elt env]
 | g :: _,env=>do
  let x <- eval g.iter env
  standAt g.iter.pos
  let x <- if g.is_async != 0 then foldedIterable g.iter x else foldedSetIterable g.iter env x
  let _ <- runOwn (.compStart e (d+1) (<- holding [x] (if g.is_async != 0 then asyncIter x else pyIter x)) acc env) env
theorem compTurn_g {elt target iter:PySem.Expr} {ifs:List PySem.Expr} {gens gs:List Comprehension} {scope:Scope} {pos:Pos} {d:Nat} (hg:gens[d]? = some ⟨target,iter,ifs,0⟩) (hgs:gens[d+1]? = gs.head?) (hz:∀ g ∈ gs,g.is_async=0) (it acc:Value) (env:Env) :
  compTurn (.ListComp elt gens scope pos) d it acc env=(do
   standAt iter.pos
   match <- pyNext it with
   | none=>pure (.done .next)
   | some v=>
    letOwnedTupleGo target it v
    assign target env v
    let mut ok:=true
    for c in ifs do
     if ok then ok <- isTrue c env (eval c env)
    if ok then
     inTree (.ListComp elt gens scope pos) elt d acc gs env
    again (.compLoop (.ListComp elt gens scope pos) d it acc env)):=by
 unfold compTurn
 simp only [hg,hgs]
 induction gs using List.casesOn with
 | nil=>rfl
 | cons g' r=>
  obtain ⟨t',i',f',a'⟩:=g'
  have ha:a'=0:=hz _ (List.mem_cons_self ..)
  subst ha
  simp only [List.head?_cons,inTree,bne_self_eq_false,Bool.false_eq_true,if_false,bind_assoc,pure_bind]
  rfl
theorem CLoop.inv {step:D->St->St->Prop} {a:AV} {ds0 ds:List D} {st st':St} (h:CLoop step a ds0 ds st st'):DSrc st.m st.nx a ds0 /\ ((ds = [] /\ st'=st) \/ ∃ d r st1,ds=d :: r /\ step d st st1 /\ CLoop step a ds0 r st1 st'):=by
 induction h using CLoop.casesOn with
 | nil hd=>exact ⟨hd,.inl ⟨rfl,rfl⟩⟩
 | cons hd hs r=>exact ⟨hd,.inr ⟨_,_,_,rfl,hs,r⟩⟩
theorem gen_loop {ce target iter:PySem.Expr} {ifs:List PySem.Expr} {tree:Env->Sem Unit} {d:Nat} {n0:Nat} {acc:Value} {env:Env} {it:Addr} (hden:(model prog w).den (.compLoop ce d (.ref it) acc env)=(compTurn ce d (.ref it) acc env).onRaise (fun x=>do noteFrame x env; theTreesLotGoes x)) (hturn:compTurn ce d (.ref it) acc env=(do
   standAt iter.pos
   match <- pyNext (.ref it) with
   | none=>pure (.done .next)
   | some v=>
    letOwnedTupleGo target (.ref it) v
    assign target env v
    let mut ok:=true
    for c in ifs do
     if ok then ok <- isTrue c env (eval c env)
    if ok then
     tree env
    again (.compLoop ce d (.ref it) acc env))) {inner:St->St->Prop}
  (hin:∀ st st',inner st st'->ITr prog w K btab k φ n0 acc tree st st') {a:AV} {ds0:List D} {st0 st':St} {W0:Wd} {A:Around} {s0:Shared} {R:Result->Shared->Prop} {o0:Obj}
  (hund:A.under (Code.compLoop ce d (.ref it) acc env)=A) (hA:AOK k A) (S0:SInv prog w K btab W0 st0.m st0.nx s0.heap) (H0:Held W0 φ env st0 s0.heap it a 0 o0) (hacc:VA W0 st0.nx (.loc n0) acc) (hT:CLoop (CStep prog w K btab k φ ⟨target,iter,ifs,0⟩ inner) a ds0 ds0 st0 st')
  (hR:∀ W' h' tk',st0.nx<=st'.nx->Wd.le st0.nx W0 W'->SInv prog w K btab W' st'.m st'.nx h'->FInv W' φ env st' h'->R (.ok .next) { s0 with heap:=h',toks:=tk' }) :
  codeAny (model prog w) A (.compLoop ce d (.ref it) acc env) R s0:=by
 obtain ⟨I,hI⟩ : ∃ I:Nat->Shared->Prop,LoopI prog w K btab φ (fun ds st=>CLoop (CStep prog w K btab k φ ⟨target,iter,ifs,0⟩ inner) a ds0 ds st st') a ds0 it W0 st0.nx env s0=I:=⟨_,rfl⟩
 refine codeAny_loop rfl I ?_ ds0.length (hI ▸ LoopI.start hT S0 H0)
 clear hT S0 H0
 intro n s hi
 rw [hden,hund]
 clear hden hund
 refine wpAny_noted ?_
 rw [hturn]
 clear hturn
 refine wpAny_bind (wpAny_standAt (wpAny_bind ?_))
 rcases Eq.mpr (congrFun (congrFun hI n) s) hi with ⟨ds,st,W,o,h,tk,rfl,rfl,hdrop,hle,hT,S,H,hn,hl⟩
 clear hi
 have hd:=hT.inv.1
 rcases hT.inv.2 with ⟨rfl,rfl⟩ | ⟨d',ds,st1,rfl,hs,r⟩
 ·refine iter_end hA.handled (s:={ s0 with heap:=h,toks:=tk }) S hd H.at_ H.ito (List.getElem?_eq_none (Nat.le_refl _)) fun h' he=>?_
  exact wpAny_pure (hR W h' tk hn hl (S.own H.own he) (H.done he))
 ·refine iter_item (s:={ s0 with heap:=h,toks:=tk }) S hd H.at_ H.ito (drop_item hdrop) fun v o' h1 tk1 hv ho1 hi1 hsb=>?_
  have H1:=H.step hsb ho1 hi1
  have S1:=S.own H.own hsb.extBut
  refine wpAny_bind (ItO.letGo (s:={ s0 with heap:=h1,toks:=tk1 }) ho1 hi1 ?_)
  have T:=snd_tgt (prog:=prog) (w:=w) (K:=K) (btab:=btab) (k:=k) (φ:=φ) (t:=target) (d:=d') (v:=v) (C:=fun W nx=>VA W nx (.d d') v) (Mono.va _ _) (fun W nx c=>c)
  obtain ⟨st2,ht,hs⟩:=hs
  have T2:=T _ _ _ _ _ _ ht (by simp)
  have fin:∀ (W2:Wd) (h2:Heap) (tk2:Nat),st.nx<=st1.nx->Wd.le st.nx (W.hold it o') W2->SInv prog w K btab W2 st1.m st1.nx h2->FInv W2 φ env st1 h2->∃ m,m < (d' :: ds).length /\ I m { s0 with heap:=h2,toks:=tk2 }:=
   fun W2 h2 tk2 n2 l2 S2 F2=>hI ▸ LoopI.next hdrop hle r H1 hd hn hl n2 l2 S2 F2
  have hacc1:VA (W.hold it o') st.nx (.loc n0) acc:=(hacc.mono hn hl).R
  refine wpAny_bind (T2 (W.hold it o') A env { s0 with heap:=h1,toks:=tk1 } _ _ hA (S1.hold H1.own ho1) H1.frame (.d hv) fun W2 h2 tk2 _ n2 l2 S2 F2 _=>?_)
  have hacc2:=hacc1.mono n2 l2
  rcases hs with ⟨hif,hin'⟩ | ⟨c,st3,b,hif,htst,hb⟩
  ·dsimp only at hif
   subst hif
   refine wpAny_bind (wpAny_tests_nil ?_)
   refine wpAny_bind (hin _ _ hin' W2 A env _ _ _ hA S2 F2 hacc2 fun W3 h3 tk3 _ n3 l3 S3 F3 _=>?_)
   exact wpAny_pure ⟨rfl,fin W3 h3 tk3 (Nat.le_trans n2 n3) (l2.trans n2 l3) S3 F3⟩
  ·dsimp only at hif
   subst hif
   refine wpAny_bind (wpAny_tests_one (htst W2 A env _ _ _ hA S2 F2 trivial fun W3 h3 tk3 x n3 l3 S3 F3 hx=>?_))
   subst hx
   have hacc3:=hacc2.mono n3 l3
   rcases hb with ⟨rfl,hin'⟩ | ⟨rfl,rfl⟩
   ·refine wpAny_bind (hin _ _ hin' W3 A env _ _ _ hA S3 F3 hacc3 fun W4 h4 tk4 _ n4 l4 S4 F4 _=>?_)
    exact wpAny_pure ⟨rfl,fin W4 h4 tk4 (Nat.le_trans n2 (Nat.le_trans n3 n4)) (l2.trans n2 (l3.trans n3 l4)) S4 F4⟩
   ·exact wpAny_pure ⟨rfl,fin W3 h3 tk3 (Nat.le_trans n2 n3) (l2.trans n2 l3) S3 F3⟩
theorem comp_loop {elt target iter:PySem.Expr} {ifs:List PySem.Expr} {gens gs:List Comprehension} {scope:Scope} {pos:Pos} {d:Nat} (hg:gens[d]? = some ⟨target,iter,ifs,0⟩) (hgs:gens[d+1]? = gs.head?) (hz:∀ g ∈ gs,g.is_async=0) {n0:Nat} {acc:Value} {inner:St->St->Prop}
  (hin:∀ st st',inner st st'->ITr prog w K btab k φ n0 acc (inTree (.ListComp elt gens scope pos) elt d acc gs) st st') {a:AV} {ds0:List D} {st0 st':St} {it:Addr} {W0:Wd} {A:Around} {env:Env} {s0:Shared} {R:Result->Shared->Prop} {o0:Obj}
  (hA:AOK k A) (S0:SInv prog w K btab W0 st0.m st0.nx s0.heap) (H0:Held W0 φ env st0 s0.heap it a 0 o0) (hacc:VA W0 st0.nx (.loc n0) acc) (hT:CLoop (CStep prog w K btab k φ ⟨target,iter,ifs,0⟩ inner) a ds0 ds0 st0 st')
  (hR:∀ W' h' tk',st0.nx<=st'.nx->Wd.le st0.nx W0 W'->SInv prog w K btab W' st'.m st'.nx h'->FInv W' φ env st' h'->R (.ok .next) { s0 with heap:=h',toks:=tk' }) :
  codeAny (model prog w) A (.compLoop (.ListComp elt gens scope pos) d (.ref it) acc env) R s0:=gen_loop rfl (compTurn_g hg hgs hz _ _ _) hin rfl hA S0 H0 hacc hT hR
theorem comp_start {elt target iter:PySem.Expr} {ifs:List PySem.Expr} {gens:List Comprehension} {scope:Scope} {pos:Pos} {d:Nat} (hg:gens[d]? = some ⟨target,iter,ifs,0⟩) {it:Addr} {acc:Value} {env:Env} {s:Shared} {A:Around} {R:Result->Shared->Prop} {W:Wd} {a:AV} {i:Nat} {o:Obj}
  (ho:s.heap.get? it=some o) (hi:ItO W a i o) (h0:codeAny (model prog w) A (.compLoop (.ListComp elt gens scope pos) d (.ref it) acc env) R s):codeAny (model prog w) A (.compStart (.ListComp elt gens scope pos) d (.ref it) acc env) R s:=by
 refine codeAny_of_tree ?_
 have hcl:(clausesOf (.ListComp elt gens scope pos))[d]? = some ⟨target,iter,ifs,0⟩:=hg
 have key:∀ E,wpAny (model prog w) A (compStart (.ListComp elt gens scope pos) d (.ref it) acc env) (fun fin s'=>match fin with | .done f=>R (.ok f) s' | .again c'=>c'.quiet=true /\ codeAny (model prog w) A c' R s') E s:=by
  intro E
  unfold compStart
  rw [hcl]
  show wpAny _ _ (ask >>= _) _ _ s
  refine wpAny_bind (wpAny_askSetting (wpAny_ite ?_))
  split
  ·first
    | exact wpAny_bind (wpAny_pure (wpAny_pure (And.intro rfl h0)))
    | exact wpAny_pure (And.intro rfl h0)
  ·have hag:=ItO.again (prog:=prog) (w:=w) (A:=A) (E:=E) (s:=s) (Q:=fun it' s'=>codeAny (model prog w) A (.compLoop (.ListComp elt gens scope pos) d it' acc env) R s') ho hi h0
   first
    | exact wpAny_bind (wpAny_rule (wpAny_bind (wpAny_standAt (wpAny_bind (wpAny_mono hag (fun it' s' h'=>wpAny_pure (And.intro rfl h')) fun _ _ x=>x)))))
    | (refine wpAny_bind (wpAny_rule ?_); show wpAny _ _ (standAt iter.pos >>= _) _ _ s; exact wpAny_bind (wpAny_standAt (wpAny_bind (wpAny_mono hag (fun it' s' h'=>wpAny_pure (And.intro rfl h')) fun _ _ x=>x))))
 show wpAny _ A (if (Code.compStart (.ListComp elt gens scope pos) d (.ref it) acc env).isFrame=true then (compStart (.ListComp elt gens scope pos) d (.ref it) acc env).onRaise (leaving env) else (compStart (.ListComp elt gens scope pos) d (.ref it) acc env).onRaise (fun x=>do noteFrame x env; standAt theWindowsPlace)) _ _ s
 split
 ·exact wpAny_onRaise (key _)
 ·exact wpAny_onRaise (key _)
theorem inner_tr {elt:PySem.Expr} {gens:List Comprehension} {scope:Scope} {pos:Pos} {n0:Nat} {acc:Value}:∀ (gs:List Comprehension) (d:Nat),gens.drop (d+1)=gs->(∀ g ∈ gs,g.is_async=0)->∀ st st',CInner prog w K btab k φ n0 elt gs st st'->ITr prog w K btab k φ n0 acc (inTree (.ListComp elt gens scope pos) elt d acc gs) st st'
 | [],d,hgs,hz,st,st',h=>emit_tr h
 | g :: gs,d,hgs,hz,st,st',h=>by
  obtain ⟨a,st0,ds,hns,has,h1,hd,hL⟩:=h
  obtain ⟨target,iter,ifs,isa⟩:=g
  dsimp only at hns has h1
  subst has
  have hg:gens[d+1]? = some ⟨target,iter,ifs,0⟩:=by rw [<- List.head?_drop,hgs]; rfl
  have hgs2:gens.drop (d+1+1)=gs:=by rw [<- List.drop_drop,hgs]; rfl
  have hh:gens[d+1+1]? = gs.head?:=by rw [<- List.head?_drop,hgs2]
  intro W A env s Q E hA hS hF hc hq
  show wpAny (model prog w) A (do
   let x <- eval iter env
   standAt iter.pos
   let x <- foldedSetIterable iter env x
   let _ <- runOwn (.compStart (.ListComp elt gens scope pos) (d+1) (<- holding [x] (pyIter x)) acc env) env) Q E s
  refine wpAny_bind (h1 W A env s _ E hA hS hF trivial fun W1 h1' tk1 v n1 l1 S1 F1 hv=>?_)
  refine wpAny_bind (wpAny_standAt (wpAny_bind (wpAny_of_eq (noSet_folded hns env v) ?_)))
  refine wpAny_bind (wpAny_holding (iter_held (s:={ s with heap:=h1',toks:=tk1 }) S1 F1 hv hd fun o h2 S2 H2=>?_))
  refine wpAny_bind (wpAny_runOwn ?_)
  refine comp_start hg H2.at_ H2.ito ?_
  refine comp_loop (s0:={ s with heap:=h2,toks:=tk1 }) hg hh (fun g hg=>hz g (List.mem_cons_of_mem _ hg)) (inner_tr gs (d+1) hgs2 fun g hg=>hz g (List.mem_cons_of_mem _ hg)) hA S2 H2 (hc.mono n1 l1) hL fun W3 h3 tk3 n3 l3 S3 F3=>?_
  exact wpAny_pure (hq W3 h3 tk3 () (Nat.le_trans n1 n3) (l1.trans n1 l3) S3 F3 trivial)
end
end
section
noncomputable def isCap (φ:Fm) (p:Str × NameKind):Bool:=p.2 == .free && φ.sc.names.lookup p.1 == some .cell
noncomputable def compSc (φ:Fm) (scope:Scope):Scope:={ scope with names:=scope.names.map fun p=>if isCap φ p then (p.1,.cell) else p }
noncomputable def compFm (φ:Fm) (scope:Scope):Fm:=⟨compSc φ scope,φ.caps,none,φ.qual⟩
noncomputable def compVars (φ:Fm) (vars:List (Str × AV)) (scope:Scope):List (Str × AV):=scope.names.filterMap fun p=>if isCap φ p then (vars.lookup p.1).map (p.1,·) else none
noncomputable def compFz (φ:Fm) (scope:Scope):List Str:=scope.names.filterMap fun p=>if isCap φ p then some p.1 else none
noncomputable def compOk (φ:Fm) (scope:Scope):Bool:=(match scope.kind with | .function=>true | _=>false) && nodupB (scope.names.map (·.1)) && scope.names.all fun p=>match p.2 with
 | .free=>(match φ.sc.names.lookup p.1 with
  | some .cell=>true
  | some .free=>(φ.caps.lookup p.1).isSome
  | _=>false)
 | .cell=>false
 | _=>true
theorem lookup_of_mem_nd {α:Type} {l:List (Str × α)} (hn:(l.map (·.1)).Nodup) {x:Str} {a:α} (h:(x,a) ∈ l):l.lookup x=some a:=by
 induction l with
 | nil=>cases h
 | cons p r ih=>
  obtain ⟨y,b⟩:=p
  rw [List.map_cons,List.nodup_cons] at hn
  rw [List.lookup_cons]
  cases h with
  | head=>rw [beq_self_eq_true]
  | tail _ h=>
   have:x ≠ y:=fun z=>hn.1 (by subst z; exact List.mem_map.mpr ⟨_,h,rfl⟩)
   rw [beq_false_of_ne this]
   exact ih hn.2 h
theorem closure_go (env:Env):∀ (names:List (Str × NameKind)) (cs:List (Str × Addr)),(∀ x,(x,NameKind.free) ∈ names->(env.cells.lookup x).isSome=true) ->
  ∃ cl,(forIn names cs fun p r=>if (p.2 == NameKind.free)=true then (do let c <- cellOf env p.1; pure (ForInStep.yield ((p.1,c) :: r))) else pure (ForInStep.yield r):Sem (List (Str × Addr)))=pure cl /\ ∀ x,(cs.lookup x=env.cells.lookup x \/ (x,NameKind.free) ∈ names)->cl.lookup x=env.cells.lookup x
 | [],cs,_=>⟨cs,rfl,fun x h=>h.elim id fun z=>by cases z⟩
 | (n,kd) :: r,cs,h=>by
  have hr:∀ x,(x,NameKind.free) ∈ r->(env.cells.lookup x).isSome=true:=fun x hx=>h x (List.mem_cons_of_mem _ hx)
  rw [List.forIn_cons]
  by_cases hk:(kd == NameKind.free)=true
  ·have hk':kd=.free:=eq_of_beq hk
   subst hk'
   obtain ⟨c,hc⟩:=Option.isSome_iff_exists.mp (h n (List.mem_cons_self ..))
   obtain ⟨cl,e1,e2⟩:=closure_go env r ((n,c) :: cs) hr
   refine ⟨cl,?_,fun x hx=>e2 x ?_⟩
   ·have e3:cellOf env n=pure c:=by unfold cellOf; rw [hc]
    rw [if_pos hk]
    simp only [e3,pure_bind]
    exact e1
   ·by_cases q:x=n
    ·subst q
     left
     rw [List.lookup_cons,beq_self_eq_true,hc]
    ·rcases hx with hx | hx
     ·left; rw [List.lookup_cons,beq_false_of_ne q]; exact hx
     ·cases hx with
      | head=>exact (q rfl).elim
      | tail _ hx=>exact .inr hx
  ·obtain ⟨cl,e1,e2⟩:=closure_go env r cs hr
   refine ⟨cl,?_,fun x hx=>e2 x ?_⟩
   ·rw [if_neg hk]
    simp only [pure_bind]
    exact e1
   ·rcases hx with hx | hx
    ·exact .inl hx
    ·cases hx with
     | head=>exact (hk rfl).elim
     | tail _ hx=>exact .inr hx
theorem closure_pure (env:Env) (scope:Scope) (h:∀ x,(x,NameKind.free) ∈ scope.names->(env.cells.lookup x).isSome=true) :
  ∃ cl,closureFor scope env=pure cl /\ ∀ x,(x,NameKind.free) ∈ scope.names->cl.lookup x=env.cells.lookup x:=by
 obtain ⟨cl,e1,e2⟩:=closure_go env scope.names [] h
 refine ⟨cl,?_,fun x hx=>e2 x (.inr hx)⟩
 unfold closureFor
 simp only [bind_pure] at *
 refine Eq.trans ?_ e1
 rfl
section
variable {prog:Program} {w:World} {K:Frag} {btab:List (Str × Value)} {k:Nat} {φ:Fm}
theorem relabel_eq {env:Env} (h:env.scope=φ.sc) (hk:φ.sc.kind=.function) (scope:Scope):relabel scope env=compSc φ scope:=by
 unfold relabel compSc isCap Env.kindOf
 rw [h,hk]
 congr 1
 refine List.map_congr_left fun p _=>?_
 obtain ⟨n,k⟩:=p
 have:(ScopeKind.function == ScopeKind.function)=true:=rfl
 rw [this]
 dsimp only
 rw [Bool.and_true]
set_option tactic.hygienic true in
theorem comp_mem {φ:Fm} {scope:Scope} {x:Str} {kd:NameKind} (h:(compSc φ scope).names.lookup x=some kd):((x,NameKind.free) ∈ scope.names /\ φ.sc.names.lookup x=some .cell /\ kd=.cell) \/ ((x,kd) ∈ scope.names /\ ¬ (kd=.free /\ φ.sc.names.lookup x=some .cell)):=by
 have hm:=mem_of_lookup h
 obtain ⟨p,hp,e⟩:=List.mem_map.mp hm
 split at e
 ·rename_i hc
  cases e
  unfold isCap at hc
  simp only [Bool.and_eq_true,beq_iff_eq] at hc
  obtain ⟨n,k⟩:=p
  obtain ⟨h1,h2⟩:=hc
  dsimp only at h1 h2
  subst h1
  exact .inl ⟨hp,h2,rfl⟩
 ·rename_i hc
  subst e
  refine .inr ⟨hp,fun z=>hc ?_⟩
  unfold isCap
  simp only [Bool.and_eq_true,beq_iff_eq]
  exact z
set_option tactic.hygienic true in
theorem comp_vars {φ:Fm} {scope:Scope} {vars:List (Str × AV)} {x:Str} {av:AV} (h:(compVars φ vars scope).lookup x=some av):(x,NameKind.free) ∈ scope.names /\ φ.sc.names.lookup x=some .cell /\ vars.lookup x=some av:=by
 have hm:=mem_of_lookup h
 obtain ⟨p,hp,e⟩:=List.mem_filterMap.mp hm
 split at e
 ·rename_i hc
  obtain ⟨n,k⟩:=p
  unfold isCap at hc
  simp only [Bool.and_eq_true,beq_iff_eq] at hc
  obtain ⟨h1,h2⟩:=hc
  dsimp only at h1 h2 e
  subst h1
  obtain ⟨a,ha,e⟩:=Option.map_eq_some_iff.mp e
  cases e
  exact ⟨hp,h2,ha⟩
 ·cases e
theorem comp_fz {φ:Fm} {scope:Scope} {x:Str} (h1:(x,NameKind.free) ∈ scope.names) (h2:φ.sc.names.lookup x=some .cell):x ∈ compFz φ scope:=
 List.mem_filterMap.mpr ⟨_,h1,by unfold isCap; rw [h2]; rfl⟩
set_option tactic.hygienic true in
theorem comp_frame {W1 Wt:Wd} {env:Env} {st0:St} {h1 h4:Heap} {scope:Scope} {m':Nat->MO} {nx':Nat} {cl:List (Str × Addr)} {C:Addr} (F1:FInv W1 φ env st0 h1) (hok:compOk φ scope=true) (hcl:∀ x,(x,NameKind.free) ∈ scope.names->cl.lookup x=env.cells.lookup x)
  (hB:W1.B.le Wt.B) (hR:∀ c o,(W1.R c=some o \/ (OwnAt W1 st0.m st0.nx c /\ h1.get? c=some o))->Wt.R c=some o) (hi:∀ n,n < st0.nx->Wt.ι n=W1.ι n) (hn:st0.nx<=nx') (own:OwnAt Wt m' nx' C) {f:Str->Option Value} (ns:h4.Ns C f) :
  FInv Wt (compFm φ scope) { newEnv scope C env.globals cl env.qual none .none (some env) builtinsNs with scope:=relabel scope env } ⟨compVars φ st0.vars scope,compFz φ scope,m',nx'⟩ h4:=by
 unfold compOk at hok
 simp only [Bool.and_eq_true] at hok
 obtain ⟨⟨hkind,hnd⟩,hall⟩:=hok
 have hnd:=nodupB_nd hnd
 have hall:=List.all_eq_true.mp hall
 refine ⟨relabel_eq F1.scope F1.kind scope,?_,F1.globals,F1.builtins,F1.frame,fun c hc=>(by cases hc),own,⟨_,ns,?_⟩,?_,?_⟩
 ·show scope.kind=.function
  revert hkind; cases scope.kind <;> first | exact fun _=>rfl | exact fun h=>by cases h
 ·intro x av hx hv
  obtain ⟨a1,a2,_⟩:=comp_vars hv
  rcases comp_mem hx with ⟨_,_,b⟩ | ⟨b,_⟩
  ·cases b
  ·have e1:=lookup_of_mem_nd hnd a1
   have e2:=lookup_of_mem_nd hnd b
   rw [e1] at e2; cases e2
 ·intro x hx
  rcases comp_mem hx with ⟨a1,a2,_⟩ | ⟨b,_⟩
  ·obtain ⟨c,e,q⟩:=F1.cells x a2
   refine ⟨c,(hcl x a1).trans e,.inl ⟨comp_fz a1 a2,fun av hav=>?_⟩⟩
   obtain ⟨_,_,hv⟩:=comp_vars hav
   rcases q with ⟨_,q2⟩ | ⟨q1,q2,q3,q4,ov,⟨oc,hoc,hdc⟩,q6⟩
   ·obtain ⟨o,v,a3,a4,a5⟩:=q2 av hv
    exact ⟨o,v,a3.imp (hB _ _) (fun z=>⟨rfl,hR _ _ (.inl z.2)⟩),a4,a5.mono0 hn hB hi⟩
   ·obtain ⟨v,rfl,a5⟩:=q6 av hv
    exact ⟨oc,v,.inr ⟨rfl,hR _ _ (.inr ⟨q2,hoc⟩)⟩,hdc,a5.mono0 hn hB hi⟩
  ·have:=hall _ b
   cases this
 ·intro x av hx hv
  rcases comp_mem hx with ⟨_,_,b⟩ | ⟨b,b2⟩
  ·cases b
  ·have:=hall _ b
   dsimp only at this
   split at this
   ·rename_i e; exact (b2 ⟨rfl,e⟩).elim
   ·rename_i e
    obtain ⟨c,o,v,a1,a2,a3,a4⟩:=F1.free x av e hv
    exact ⟨c,o,v,(hcl x b).trans a1,a2.imp (hB _ _) (fun z=>hR _ _ (.inl z)),a3,a4.mono0 hn hB hi⟩
   ·cases this
set_option backward.match.sparseCases false in
noncomputable def lcChk (φ:Fm):PySem.Expr->Bool
 | .ListComp _ (⟨_,i,_,_⟩ :: gs) scope _=>compOk φ scope && noSet i
 | _=>false
noncomputable def lcElt:PySem.Expr->PySem.Expr
 | .ListComp e _ _ _=>e
 | e=>e
noncomputable def lcGens:PySem.Expr->List Comprehension
 | .ListComp _ gs _ _=>gs
 | _=>[]
noncomputable def lcScope:PySem.Expr->Scope
 | .ListComp _ _ s _=>s
 | _=>default
noncomputable def lcFirst (c:PySem.Expr):Comprehension:=(lcGens c).headD ⟨c,c,[],0⟩
noncomputable def compSt (φ:Fm) (st:St) (scope:Scope):St:=⟨compVars φ st.vars scope,compFz φ scope,upd st.m st.nx (.list []),st.nx+1⟩
set_option tactic.hygienic true in
theorem comp_run {elt:PySem.Expr} {target iter:PySem.Expr} {ifs:List PySem.Expr} {gs:List Comprehension} {scope:Scope} {pos:Pos} {st st0 st2:St} {a:AV} {ds:List D} (hok:compOk φ scope=true) (hns:noSet iter=true) (hsync:∀ g ∈ gs,g.is_async=0)
  (first:ETr prog w K btab k φ iter st a st0) (hd:DSrc st0.m st0.nx a ds)
  (loop:CLoop (CStep prog w K btab k (compFm φ scope) ⟨target,iter,ifs,0⟩ (CInner prog w K btab k (compFm φ scope) st0.nx elt gs)) a ds ds (compSt φ st0 scope) st2) {use:Option (Value->Sem Unit)}
  {W:Wd} {A:Around} {env:Env} {s:Shared} {Q:Value->Shared->Prop} {E:Value->Shared->Prop} (hA:AOK k A) (hS:SInv prog w K btab W st.m st.nx s.heap) (hF:FInv W φ env st s.heap)
  (hq:∀ (W':Wd) (h5:Heap) (tk5:Nat) (C:Addr) (acc:Value),st.nx<=st0.nx->st0.nx < st2.nx->Wd.le st.nx W W'->SInv prog w K btab W' st2.m st2.nx h5->VA W' st2.nx (.loc st0.nx) acc->OwnAt W' st2.m st2.nx C->(∃ f,h5.Ns C f) ->
   (∀ ob,FInv (W'.hold C ob) φ env { st0 with m:=st2.m,nx:=st2.nx } h5)->compPost (model prog w) A E use Q acc C (.ok .next) { s with heap:=h5,toks:=tk5 }) :
  wpAny (model prog w) A (comprehension (.ListComp elt (⟨target,iter,ifs,0⟩ :: gs) scope pos) scope env (firstIterPos (⟨target,iter,ifs,0⟩ :: gs) pos) (newList []) false (eval iter env) use) Q E s:=by
 have hok':=hok
 unfold compOk at hok'
 simp only [Bool.and_eq_true] at hok'
 obtain ⟨⟨hkind,hnd⟩,hall⟩:=hok'
 have hnd:=nodupB_nd hnd
 have hall:=List.all_eq_true.mp hall
 have hkind:scope.kind=.function:=by revert hkind; cases scope.kind <;> first | exact fun _=>rfl | exact fun h=>by cases h
 have hcells:∀ x,(x,NameKind.free) ∈ scope.names->(env.cells.lookup x).isSome=true:=by
  intro x hx
  have:=hall _ hx
  dsimp only at this
  split at this
  ·rename_i e
   obtain ⟨c,e,_⟩:=hF.cells x e
   rw [e]; rfl
  ·rename_i e
   obtain ⟨av,hav⟩:=Option.isSome_iff_exists.mp this
   obtain ⟨c,o,v,a1,_⟩:=hF.free x av e hav
   rw [a1]; rfl
  ·cases this
 obtain ⟨cl,hcl1,hcl2⟩:=closure_pure env scope hcells
 refine wpAny_comprehension_free rfl (fun x=>noSet_folded hns env x) hcl1 hkind (fun x hx hl=>by obtain ⟨n,kd⟩:=x; dsimp only at hl; subst hl; exact lookup_of_mem_nd hnd hx) ?_
 refine first W A env s _ E hA hS hF trivial fun W1 h1 tk1 v n1 l1 S1 F1 hv=>?_
 have S1s:=S1.shut
 refine iter_start (s:={ s with heap:=h1,toks:=tk1 }) S1s hv.shut hd fun o hi hf=>?_
 have hit0:OwnAt (W1.shut st0.m st0.nx h1) st0.m st0.nx h1.objs.size:=S1s.fresh (get?_size h1)
 have S2:=S1s.keeps (Keeps.push h1 o)
 refine wpAny_newList ?_ (by rw [sizeLine_eq]; simp)
 dsimp only
 obtain ⟨S3,l3,c3⟩:=S2.new (o:={ cls:=.type "list",data:=.seq ([]:List Value).toArray }) (mo:=.list []) ⟨[],0,Heap.get?_push_size _ rfl,.nil⟩
 obtain ⟨hit3,hat3⟩:=c3 _ _ hit0 (Heap.get?_push_size _ hf)
 generalize hH3:(h1.push o).push { cls:=.type "list",data:=.seq ([]:List Value).toArray }=H3 at S3 hat3 hit3 c3
 refine wpAny_newFunctionEnv (fun x hx hc=>by obtain ⟨n,kd⟩:=x; dsimp only at hc; subst hc; have:=hall _ hx; cases this) (by intro x hx; cases hx) (fun h4 hns4 hsb4=>?_) hkind
 have hC0:H3.get? H3.objs.size=none:=get?_size H3
 dsimp only at hns4 hsb4 ⊢
 have k34:Keeps H3 h4:=fun b ob e=>hsb4.extBut b ob (fun z=>by rw [z,hC0] at e; cases e) (Heap.get?_push_of_some _ e)
 have S4:=S3.keeps k34
 have hC3:OwnAt ((W1.shut st0.m st0.nx h1).lay st0.nx (h1.push o).objs.size) (upd st0.m st0.nx (.list [])) (st0.nx+1) H3.objs.size:=S3.fresh hC0
 have hCit:H3.objs.size ≠ h1.objs.size:=fun z=>by rw [<- z,hC0] at hat3; cases hat3
 -- the comprehension's own frame,its iterator held
 have F4:FInv (((W1.shut st0.m st0.nx h1).lay st0.nx (h1.push o).objs.size).hold h1.objs.size o) (compFm φ scope) { newEnv scope H3.objs.size env.globals cl env.qual none .none (some env) builtinsNs with scope:=relabel scope env } (compSt φ st0 scope) h4:=by
  refine comp_frame F1 hok hcl2 (.refl _) (fun c oc h=>?_) (fun n hn=>upd_ne _ _ _ (Nat.ne_of_lt hn)) (Nat.le_succ _) ⟨hC3.b,(hold_ne hCit).trans hC3.r,hC3.i⟩ hns4
  have hc:(W1.shut st0.m st0.nx h1).R c=some oc:=by
   rcases h with h | ⟨h,h'⟩
   ·exact shutR_of h
   ·exact (shutR_own h).trans h'
  have hne:c ≠ h1.objs.size:=fun z=>by
   have:=hit0.r
   rw [<- z,hc] at this; cases this
  exact (hold_ne hne).trans hc
 have ito:ItO ((W1.shut st0.m st0.nx h1).lay st0.nx (h1.push o).objs.size) a 0 o:=hi.mono hd lay_le
 have hd':(m:Unit)->DSrc (compSt φ st0 scope).m (compSt φ st0 scope).nx a ds \/ True:=fun _=>.inr trivial
 have H4:Held ((W1.shut st0.m st0.nx h1).lay st0.nx (h1.push o).objs.size) (compFm φ scope) { newEnv scope H3.objs.size env.globals cl env.qual none .none (some env) builtinsNs with scope:=relabel scope env } (compSt φ st0 scope) h4 h1.objs.size a 0 o:=
  ⟨hit3,k34 _ _ hat3,ito,F4⟩
 have hacc:VA ((W1.shut st0.m st0.nx h1).lay st0.nx (h1.push o).objs.size) (st0.nx+1) (.loc st0.nx) (.ref (h1.push o).objs.size):=by
  have z:=VA.loc (W:=(W1.shut st0.m st0.nx h1).lay st0.nx (h1.push o).objs.size) (n:=st0.nx) (nx:=st0.nx+1) (Nat.lt_succ_self _)
  have e:((W1.shut st0.m st0.nx h1).lay st0.nx (h1.push o).objs.size).ι st0.nx=(h1.push o).objs.size:=upd_at _ _ _
  rw [e] at z
  exact z
 refine comp_start rfl H4.at_ H4.ito ?_
 refine comp_loop (s0:={ s with heap:=h4,toks:=tk1+([]:List (Str × Value)).length }) (gs:=gs) rfl (by rw [List.head?_eq_getElem?]; rfl) hsync (inner_tr gs 0 rfl hsync) hA S4 H4 hacc loop fun W5 h5 tk5 n5 l5 S5 F5=>?_
 have n5':st0.nx+1<=st2.nx:=n5
 obtain ⟨S6,l6,c6⟩:=SInv.unshut (W:=W1) (l:=(lay_le (W:=W1.shut st0.m st0.nx h1) (nx:=st0.nx)).trans (Nat.le_succ _) l5) S5
 obtain ⟨f5,hns5,_⟩:=F5.locs
 have own5:OwnAt W5 st2.m st2.nx H3.objs.size:=F5.own
 have own6:OwnAt { W5 with R:=W1.R } st2.m st2.nx H3.objs.size:=by
  refine ⟨own5.b,?_,own5.i⟩
  show W1.R H3.objs.size=none
  cases q:W1.R H3.objs.size with
  | none=>rfl
  | some ob=>
   have e1:W5.R H3.objs.size=some ob:=by
    rw [l5.R]
    exact shutR_of q
   rw [own5.r] at e1; cases e1
 refine hq { W5 with R:=W1.R } h5 tk5 H3.objs.size (.ref (h1.push o).objs.size) n1 n5' (l1.trans n1 l6) S6 ((hacc.mono n5 l5).R) own6 ⟨f5,hns5⟩ fun ob=>?_
 have k13:Keeps h1 H3:=by rw [<- hH3]; exact (Keeps.push h1 o).trans (Keeps.push _ _)
 have hC1:h1.get? H3.objs.size=none:=by
  cases q:h1.get? H3.objs.size with
  | none=>rfl
  | some oo=>rw [k13 _ _ q] at hC0; cases hC0
 have F1h:=F1.hold (ob:=ob) S1 hC1 (Keeps.refl h1)
 refine F1h.carry (W':=({ W5 with R:=W1.R }:Wd).hold H3.objs.size ob) (Nat.le_of_lt n5') ⟨l6.B,rfl,l6.ι⟩ fun b oo hb hob=>?_
 have hbne:b ≠ H3.objs.size:=fun z=>by have:=hb.r; rw [z,hold_at] at this; cases this
 obtain ⟨x1,x2⟩:=c6 b oo ⟨hb.b,by have:=hb.r; rw [hold_ne hbne] at this; exact this,hb.i⟩ hob
 exact ⟨⟨x1.b,(hold_ne hbne).trans x1.r,x1.i⟩,x2⟩
end
end
section
section
variable {prog:Program} {w:World} {K:Frag} {btab:List (Str × Value)} {k:Nat} {φ:Fm}
noncomputable def lcOk (φ:Fm) (c:PySem.Expr):Bool:=lcChk φ c && (lcGens c).all fun g=>g.is_async == 0
noncomputable def lcRest (c:PySem.Expr):List Comprehension:=(lcGens c).tail
noncomputable def fzVal (fz:Bool) (n:Nat) (l:List D):AV:=match fz with
 | true=>.d (.lst l)
 | false=>.loc n
noncomputable def fzMap (fz:Bool) (n:Nat) (m:Nat->MO):Nat->MO:=match fz with
 | true=>upd m n .junk
 | false=>m
theorem fz_do {W:Wd} {m:Nat->MO} {nx n:Nat} {h:Heap} {l:List D} {acc:Value} (fz:Bool) (S:SInv prog w K btab W m nx h) (hn:n < nx) (hl:m n=.list l) (hacc:VA W nx (.loc n) acc) :
  (∃ W',A4 (SInv prog w K btab W' (fzMap fz n m) nx h) (Wd.le nx W W') (Carry W m nx h W' (fzMap fz n m) nx h) (VA W' nx (fzVal fz n l) acc)):=by
 induction fz using Bool.casesOn with
 | false=>exact ⟨W,S,.refl _ _,.refl _ _ _ _,hacc⟩
 | true=>
  have hj:m n ≠ .junk:=by rw [hl]; exact fun q=>by cases q
  obtain ⟨vs,nn,ho,hvs⟩:=loc_ex S hn hl
  obtain ⟨S',l',c'⟩:=S.still hn hj ho
  refine ⟨_,S',l',c',?_⟩
  cases hacc with
  | loc _=>exact .d (.lst (freeze_at _ _ _) (hvs.mono l'.B))
theorem FInv.unhold {W:Wd} {env:Env} {st:St} {h h':Heap} {a:Addr} {ob:Obj} (F:FInv (W.hold a ob) φ env st h) (hnc:∀ v,ob.data ≠ .cell v) (hs:Heap.ExtBut a h h'):FInv W φ env st h':=
 (F.extR (hold_at W a ob) hs).reR (R:=W.R) (a:=a) (fun b hb=>(hold_ne hb).symm) (hold_at W a ob) hnc
set_option tactic.hygienic true in
theorem lcOk_of {c:PySem.Expr}:lcOk φ c=true->∃ elt target iter ifs gs scope pos,c=.ListComp elt (⟨target,iter,ifs,0⟩ :: gs) scope pos /\ compOk φ scope=true /\ noSet iter=true /\ ∀ g ∈ gs,g.is_async=0:=by
 induction c using PySem.Expr.casesOn with
 | ListComp elt gs scope pos=>
  induction gs using List.casesOn with
  | nil=>exact fun h=>Internal.ft h
  | cons g gs=>
   obtain ⟨t,i,ifs,a⟩:=g
   intro h
   have h:=(Bool.and_eq_true _ _).mp h
   have h1:=(Bool.and_eq_true _ _).mp (show (compOk φ scope && noSet i)=true from h.1)
   have h2:=List.all_eq_true.mp h.2
   obtain rfl:a=0:=eq_of_beq (h2 _ (List.mem_cons_self ..))
   exact ⟨elt,t,i,ifs,gs,scope,pos,rfl,h1.1,h1.2,fun g hg=>eq_of_beq (h2 g (List.mem_cons_of_mem _ hg))⟩
 | _=>exact fun h=>Internal.ft h
theorem ETr.comp {c:PySem.Expr} {st st0 st2:St} {a:AV} {ds l:List D} (hc:lcOk φ c=true) (first:ETr prog w K btab k φ (lcFirst c).iter st a st0) (hd:DSrc st0.m st0.nx a ds)
  (loop:CLoop (CStep prog w K btab k (compFm φ (lcScope c)) (lcFirst c) (CInner prog w K btab k (compFm φ (lcScope c)) st0.nx (lcElt c) (lcRest c))) a ds ds (compSt φ st0 (lcScope c)) st2) (hl:st2.m st0.nx=.list l) (fz:Bool) :
  ETr prog w K btab k φ c st (fzVal fz st0.nx l) { st0 with m:=fzMap fz st0.nx st2.m,nx:=st2.nx }:=by
 obtain ⟨elt,target,iter,ifs,gs,scope,pos,rfl,hok,hns,hsync⟩:=lcOk_of hc
 intro W A env s Q E hA hS hF hc' hq
 show wpAny (model prog w) A (eval (.ListComp elt (⟨target,iter,ifs,0⟩ :: gs) scope pos) env) Q E s
 rw [arm_eval_ListComp]
 refine comp_run hok hns hsync first hd loop (use:=none) hA hS hF fun W' h5 tk5 C acc n1 n2 l1 S5 hacc own ⟨f,ns⟩ F5=>?_
 refine ⟨f,ns,fun h' hsb=>?_⟩
 obtain ⟨oC,es,ep,hoC,hns⟩:=id ns
 have F6:=(F5 oC).unhold (fun v e=>by
  obtain ⟨_,hdt,_⟩:=hns
  simp_all) hsb.extBut
 obtain ⟨W7,S7,l7,c7,v7⟩:=fz_do fz (S5.own own hsb.extBut) n2 hl hacc
 exact hq W7 h' tk5 acc (Nat.le_trans n1 (Nat.le_of_lt n2)) (l1.trans (Nat.le_trans n1 (Nat.le_of_lt n2)) l7) S7 (F6.carry (Nat.le_refl _) l7 c7) v7
theorem Wd.le.held {W W':Wd} {nx:Nat} {a:Addr} {o:Obj} (l:Wd.le nx W W'):Wd.le nx (W.hold a o) (W'.hold a o):=⟨l.B,by show (fun b=>if b=a then some o else W'.R b)=_; rw [l.R]; rfl,l.ι⟩
theorem Carry.held {W W':Wd} {m m':Nat->MO} {nx nx':Nat} {h h':Heap} {a:Addr} {o:Obj} (c:Carry W m nx h W' m' nx' h'):Carry (W.hold a o) m nx h (W'.hold a o) m' nx' h':=by
 intro b ob hb hob
 have hne:b ≠ a:=fun z=>by have:=hb.r; rw [z,hold_at] at this; cases this
 obtain ⟨x1,x2⟩:=c b ob ⟨hb.b,by have:=hb.r; rw [hold_ne hne] at this; exact this,hb.i⟩ hob
 exact ⟨⟨x1.b,(hold_ne hne).trans x1.r,x1.i⟩,x2⟩
set_option backward.match.sparseCases false in
noncomputable def asVal:Stmt->PySem.Expr
 | .Assign _ c _=>c
 | _=>.Constant .none 0 default
noncomputable def asName:Stmt->Str
 | .Assign [.Name x _] _ _=>x
 | _=>Str.empty
noncomputable def asChk:Stmt->Bool
 | .Assign [.Name _ _] _ _=>true
 | _=>false
set_option tactic.hygienic true in
theorem asChk_of {s:Stmt}:asChk s=true->∃ x p c q,s=.Assign [.Name x p] c q:=by
 induction s using PySem.Stmt.casesOn with
 | Assign ts c q=>
  induction ts using List.casesOn with
  | nil=>exact fun h=>Internal.ft h
  | cons t r=>
   induction t using PySem.Expr.casesOn with
   | Name x p=>exact List.casesOn r (fun _=>⟨x,p,c,q,rfl⟩) (fun _ _ h=>Internal.ft h)
   | _=>exact fun h=>Internal.ft h
 | _=>exact fun h=>Internal.ft h
theorem STr.comp_ {s:Stmt} {st st0 st2 st':St} {a:AV} {ds l:List D} (has:asChk s=true) (hc:lcOk φ (asVal s)=true) (first:ETr prog w K btab k φ (lcFirst (asVal s)).iter st a st0) (hd:DSrc st0.m st0.nx a ds)
  (loop:CLoop (CStep prog w K btab k (compFm φ (lcScope (asVal s))) (lcFirst (asVal s)) (CInner prog w K btab k (compFm φ (lcScope (asVal s))) st0.nx (lcElt (asVal s)) (lcRest (asVal s)))) a ds ds (compSt φ st0 (lcScope (asVal s))) st2) (hl:st2.m st0.nx=.list l) (fz:Bool)
  (hst:gStore φ (asName s) (fzVal fz st0.nx l) { st0 with m:=fzMap fz st0.nx st2.m,nx:=st2.nx } []=some ((),st',[],[])):STr prog w K btab k φ s st .next st':=by
 obtain ⟨x,p,c,q,rfl⟩:=asChk_of has
 dsimp only [asVal,asName] at hc first loop hst
 have T:=fun (v:Value) (C:Wd->Nat->Prop)=>snd_store (prog:=prog) (w:=w) (K:=K) (btab:=btab) (k:=k) (φ:=φ) (x:=x) (a:=fzVal fz st0.nx l) (v:=v) (C:=C)
 intro W A env s Q E hA hS hF hc' hq
 by_cases hsw:swapsWith c (some (.Name x p)) q.line env=pure false
 ·refine wpAny_Assign_Name ?_ hsw
  refine ETr.comp hc first hd loop hl fz W A env s _ E hA hS hF trivial fun W1 h1 tk1 v n1 l1 S1 F1 hv=>?_
  refine T v (fun W nx=>VA W nx (fzVal fz st0.nx l) v) (fun W nx c=>c) _ _ _ _ _ _ hst (by simp) W1 A env _ _ E hA S1 F1 hv fun W2 h2 tk2 _ n2 l2 S2 F2 _=>?_
  exact hq W2 h2 tk2 .next (Nat.le_trans n1 n2) (l1.trans n1 l2) S2 F2 trivial
 ·obtain ⟨elt,target,iter,ifs,gs,scope,pos,rfl,hok,hns,hsync⟩:=lcOk_of hc
  have hsw2:swapsWithSole [.Name x p] (.ListComp elt (⟨target,iter,ifs,0⟩ :: gs) scope pos) q.line env=pure true:=by
   show swapsWith (.ListComp elt (⟨target,iter,ifs,0⟩ :: gs) scope pos) (some (.Name x p)) q.line env=pure true
   have e:∃ b:Bool,swapsWith (.ListComp elt (⟨target,iter,ifs,0⟩ :: gs) scope pos) (some (.Name x p)) q.line env=pure b:=⟨_,rfl⟩
   obtain ⟨b,e⟩:=e
   induction b using Bool.casesOn with
   | true=>exact e
   | false=>exact (hsw e).elim
  show wpAny (model prog w) A (exec (.Assign [.Name x p] (.ListComp elt (⟨target,iter,ifs,0⟩ :: gs) scope pos) q) env) Q E s
  rw [arm_exec_Assign,hsw2]
  refine wpAny_bind (wpAny_standAt (wpAny_bind (wpAny_pure ?_)))
  refine wpAny_bind ?_
  rw [arm_evalThenUse_ListComp]
  generalize hu:(fun v=>assignAll v (List.map (fun x=>x.2) (assignEach [.Name x p] env)))=u
  dsimp only
  refine wpAny_bind ?_
  have e1:firstAsync (⟨target,iter,ifs,0⟩ :: gs)=false:=rfl
  have e2:firstIter (⟨target,iter,ifs,0⟩ :: gs) env=eval iter env:=rfl
  rw [e1,e2]
  refine comp_run hok hns hsync first hd loop (use:=some u) hA hS hF fun W' h5 tk5 C acc n1 n2 l1 S5 hacc own ⟨f,ns⟩ F5=>?_
  obtain ⟨oC,es,ep,hoC,hns⟩:=id ns
  have hnc:∀ v,oC.data ≠ .cell v:=fun v e=>by rw [e] at hns; cases hns.1
  obtain ⟨W7,S7,l7,c7,v7⟩:=fz_do fz S5 n2 hl hacc
  obtain ⟨own7,_⟩:=c7 _ _ own hoC
  have F7:=(F5 oC).carry (Nat.le_refl _) (l7.held (a:=C) (o:=oC)) (c7.held (a:=C) (o:=oC))
  show wpAny (model prog w) A (u acc) _ E _
  rw [<- hu]
  show wpAny (model prog w) A (assign (.Name x p) env acc) _ E _
  refine wpAny_assign_Name ?_
  refine T acc (fun W nx=>VA W nx (fzVal fz st0.nx l) acc) (fun W nx c=>c) _ _ _ _ _ _ hst (by simp) (W7.hold C oC) A env { s with heap:=h5,toks:=tk5 } _ E hA (S7.hold own7 hoC) F7 (v7.R) fun W8 h8 tk8 _ n8 l8 S8 F8 _=>?_
  obtain ⟨S9,l9,own9,at9⟩:=S8.unhold own7 l8
  refine ⟨f,⟨oC,es,ep,at9,hns⟩,fun h' hsb=>?_⟩
  have eW:({ W8 with R:=W7.R }:Wd).hold C oC=W8:=by
   obtain ⟨B,R,ι⟩:=W8
   have:R=(W7.hold C oC).R:=l8.R
   subst this
   rfl
  have F9:FInv ({ W8 with R:=W7.R }:Wd) φ env st' h':=FInv.unhold (a:=C) (ob:=oC) (by rw [eW]; exact F8) hnc hsb.extBut
  refine wpAny_pure (wpAny_pure (hq { W8 with R:=W7.R } h' tk8 .next (Nat.le_trans n1 (Nat.le_trans (Nat.le_of_lt n2) n8)) ?_ (S9.own own9 hsb.extBut) F9 trivial))
  exact l1.trans (Nat.le_trans n1 (Nat.le_of_lt n2)) (l7.trans (Nat.le_refl _) l9)
end
end
section
section
variable {prog:Program} {w:World} {K:Frag} {btab:List (Str × Value)} {k:Nat} {φ:Fm}
theorem freeze_name {W:Wd} {env:Env} {st:St} {h:Heap} {x:Str} {av:AV} (S:SInv prog w K btab W st.m st.nx h) (F:FInv W φ env st h) (hx:φ.sc.names.lookup x=some .cell) (hcode:φ.code ≠ none) (hv:st.vars.lookup x=some av) :
  (∃ W',A4 (SInv prog w K btab W' st.m st.nx h) (Wd.le st.nx W W') (FInv W' φ env { st with fz:=x :: st.fz } h) ((Ex3 fun c o v=>A4 (env.cells.lookup x=some c) (W'.B c=some o) (o.data=.cell (some v)) (VA W' st.nx av v)))):=by
 obtain ⟨c,e,q⟩:=F.cells x hx
 rcases q with ⟨q1,q2⟩ | ⟨q1,q2,q3,q4,ov,⟨oc,hoc,hdc⟩,q6⟩
 ·obtain ⟨o,v,a1,a2,a3⟩:=q2 av hv
  have a1:W.B c=some o:=a1.elim id fun z=>(hcode z.1).elim
  refine ⟨W,S,.refl _ _,⟨F.scope,F.kind,F.globals,F.builtins,F.frame,F.code,F.own,F.locs,fun y hy=>?_,F.free⟩,c,o,v,e,a1,a2,a3⟩
  obtain ⟨c',e',q'⟩:=F.cells y hy
  refine ⟨c',e',?_⟩
  rcases q' with ⟨p1,p2⟩ | ⟨p1,p2,p3,p4,p5⟩
  ·exact .inl ⟨List.mem_cons_of_mem _ p1,p2⟩
  ·by_cases hyx:y=x
   ·subst hyx; exact (p1 q1).elim
   ·exact .inr ⟨fun z=>by cases z with | head=>exact hyx rfl | tail _ z=>exact p1 z,p2,p3,p4,p5⟩
 ·obtain ⟨v,rfl,a3⟩:=q6 av hv
  have S':=S.freeze q2 hoc
  have l:Wd.le st.nx W (W.freeze c oc):=freeze_le q2.b
  have own:∀ b,b ≠ c->OwnAt W st.m st.nx b->OwnAt (W.freeze c oc) st.m st.nx b:=fun b hb p=>⟨(if_neg hb).trans p.b,p.r,p.i⟩
  obtain ⟨m,hns,hm⟩:=F.locs
  refine ⟨_,S',l,⟨F.scope,F.kind,F.globals,F.builtins,F.frame,F.code,own _ (Ne.symm q3) F.own,⟨m,hns,fun y av e1 e2=>let ⟨v,e3,e4⟩:=hm y av e1 e2; ⟨v,e3,e4.mono (Nat.le_refl _) l⟩⟩,fun y hy=>?_,fun y av e1 e2=>?_⟩,c,oc,v,e,freeze_at _ _ _,hdc,a3.mono (Nat.le_refl _) l⟩
  ·by_cases hyx:y=x
   ·subst hyx
    refine ⟨c,e,.inl ⟨List.mem_cons_self ..,fun av' hav'=>?_⟩⟩
    have:av'=av:=Option.some.inj (hav'.symm.trans hv)
    subst this
    exact ⟨oc,v,.inl (freeze_at _ _ _),hdc,a3.mono (Nat.le_refl _) l⟩
   ·obtain ⟨c',e',q'⟩:=F.cells y hy
    refine ⟨c',e',?_⟩
    rcases q' with ⟨p1,p2⟩ | ⟨p1,p2,p3,p4,ov',hc',p6⟩
    ·exact .inl ⟨List.mem_cons_of_mem _ p1,fun av' hav'=>let ⟨o,v,b1,b2,b3⟩:=p2 av' hav'; ⟨o,v,b1.imp (l.B _ _) (fun z=>z),b2,b3.mono (Nat.le_refl _) l⟩⟩
    ·have hne:c' ≠ c:=q4 y c' hyx hy e'
     exact .inr ⟨fun z=>by cases z with | head=>exact hyx rfl | tail _ z=>exact p1 z,own _ hne p2,p3,p4,ov',hc',fun av' hav'=>let ⟨v,b1,b2⟩:=p6 av' hav'; ⟨v,b1,b2.mono (Nat.le_refl _) l⟩⟩
  ·obtain ⟨c',o,v,b1,b2,b3,b4⟩:=F.free y av e1 e2
   exact ⟨c',o,v,b1,b2.imp (l.B _ _) (fun z=>z),b3,b4.mono (Nat.le_refl _) l⟩
noncomputable def lamNames (φ:Fm) (vars:List (Str × AV)) (names:List (Str × NameKind)):Bool:=names.all fun p=>match p.2 with
 | .free=>φ.sc.names.lookup p.1 == some .cell && (vars.lookup p.1).isSome
 | .cell=>false
 | _=>true
theorem frozenBy_free {n:Str} {r:List (Str × NameKind)} {fz:List Str} (h:φ.sc.names.lookup n=some .cell):frozenBy φ ((n,.free) :: r) fz=frozenBy φ r (n :: fz):=by
 unfold frozenBy
 rw [List.foldl_cons,h]
theorem lam_at {n:Str} {vars:List (Str × AV)} (h:(φ.sc.names.lookup n == some .cell && (vars.lookup n).isSome)=true):φ.sc.names.lookup n=some .cell /\ (vars.lookup n).isSome=true:=⟨eq_of_beq (and_t h).1,(and_t h).2⟩
theorem freeze_all {env:Env} {h:Heap} (hcode:φ.code ≠ none):∀ (names:List (Str × NameKind)) (W:Wd) (st:St),lamNames φ st.vars names=true->SInv prog w K btab W st.m st.nx h->FInv W φ env st h ->
  (∃ W',A4 (SInv prog w K btab W' st.m st.nx h) (Wd.le st.nx W W') (FInv W' φ env { st with fz:=frozenBy φ names st.fz } h) (∀ x,(x,NameKind.free) ∈ names->∀ av,st.vars.lookup x=some av->(Ex3 fun c o v=>A4 (env.cells.lookup x=some c) (W'.B c=some o) (o.data=.cell (some v)) (VA W' st.nx av v))))
 | [],W,st,_,S,F=>⟨W,S,.refl _ _,F,fun x hx=>by cases hx⟩
 | (n,kd) :: r,W,st,hl,S,F=>by
  unfold lamNames at hl
  rw [List.all_cons,Bool.and_eq_true] at hl
  obtain ⟨h1,h2⟩:=hl
  induction kd using PySem.NameKind.casesOn with
  | free=>
   have h1:=lam_at h1
   obtain ⟨av,hav⟩:=Option.isSome_iff_exists.mp h1.2
   obtain ⟨W1,S1,l1,F1,c,o,v,e1,e2,e3,e4⟩:=freeze_name S F h1.1 hcode hav
   obtain ⟨W2,S2,l2,F2,a2⟩:=freeze_all hcode r W1 { st with fz:=n :: st.fz } h2 S1 F1
   have efz:=frozenBy_free (r:=r) (fz:=st.fz) h1.1
   refine ⟨W2,S2,l1.trans (Nat.le_refl _) l2,by rw [efz]; exact F2,fun x hx av' hav'=>?_⟩
   cases hx with
   | head=>
    have:av'=av:=Option.some.inj (hav'.symm.trans hav)
    subst this
    exact ⟨c,o,v,e1,l2.B _ _ e2,e3,e4.mono (Nat.le_refl _) l2⟩
   | tail _ hx=>exact a2 x hx av' hav'
  | cell=>cases h1
  | _=>
   obtain ⟨W2,S2,l2,F2,a2⟩:=freeze_all hcode r W st h2 S F
   exact ⟨W2,S2,l2,F2,fun x hx av' hav'=>by cases hx with | tail _ hx=>exact a2 x hx av' hav'⟩
theorem freeCaps_cons {get:Str->Option AV} {x:Str} {r:List (Str × NameKind)}:freeCaps get ((x,.free) :: r)=(get x).bind fun a=>(freeCaps get r).map ((x,a) :: ·):=by
 conv=>lhs; unfold freeCaps
 cases get x <;> cases freeCaps get r <;> rfl
theorem freeCaps_mem {get:Str->Option AV}:∀ {names:List (Str × NameKind)} {caps:List (Str × AV)},freeCaps get names=some caps->∀ p ∈ caps,(p.1,NameKind.free) ∈ names /\ get p.1=some p.2
 | [],caps,e,p,hp=>by cases e; cases hp
 | (x,kd) :: r,caps,e,p,hp=>by
  induction kd using PySem.NameKind.casesOn with
  | free=>
   obtain ⟨a,ha,e1⟩:=Option.bind_eq_some_iff.mp (freeCaps_cons.symm.trans e)
   obtain ⟨l,hl,e2⟩:=Option.map_eq_some_iff.mp e1
   subst e2
   cases hp with
   | head=>exact ⟨List.mem_cons_self ..,ha⟩
   | tail _ hp=>exact (freeCaps_mem hl p hp).imp (List.mem_cons_of_mem _) id
  | _=>exact (freeCaps_mem (show freeCaps get r=some caps from e) p hp).imp (List.mem_cons_of_mem _) id
noncomputable def noDef:Arguments->Bool
 | ⟨_,_,_,_,[],_,[]⟩=>true
 | ⟨_,_,_,_,kwd,_,[]⟩=>kwd.all (·.isNone) && false
 | _=>false
theorem bm_ne {h:Heap} {P:Addr} {ps:Array Value} (hB:BMain h) (hP:h.get? P=some { cls:=.none,data:=.fields ps }):(∃ mg,A3 (h.Ns mainGlobals mg) (mainGlobals ≠ P) (h.BuiltinsAt mg P)):=by
 obtain ⟨mg,bm,ob,hg,b1,b2,b3,b4,b5,b6⟩:=hB
 have hgP:mainGlobals ≠ P:=fun q=>by
  obtain ⟨o,es,ep,e,hd,_⟩:=hg
  rw [q,hP] at e; cases e; cases hd
 have hbP:bm ≠ P:=fun q=>by rw [q,hP] at b3; cases b3; cases b4
 have hbG:bm ≠ mainGlobals:=fun q=>by
  obtain ⟨o,es,ep,e,hd,_⟩:=hg
  rw [q,e] at b3; cases b3; rw [hd] at b6; cases b6
 exact ⟨mg,hg,hgP,bm,ob,b1,b2,hbG,hbP,b3,b4,b5,b6⟩
set_option tactic.hygienic true in
theorem codeAmong_or {pos:Pos} {a b:Int} {c v:Value} {l:List Value} (h:TriplesOk l) (e:codeAmong pos (l ++ [rawInt a,rawInt b,c])=some v):codeAmong pos l=some v \/ v=c:=by
 fun_induction TriplesOk l with
 | case1=>
  right
  simp only [List.nil_append,codeAmong,rawInt] at e
  split at e
  ·cases e; rfl
  ·cases e
 | case2 a' t b' u x rest ih=>
  simp only [List.cons_append,codeAmong] at e ⊢
  split at e
  ·rename_i hc; rw [if_pos hc]; exact .inl e
  ·rename_i hc; rw [if_neg hc]; exact ih h e
 | case3 l h1 h2=>exact h.elim
noncomputable def cvOf (B:BM) (cl:List (Str × Addr)) (x:Str):Value:=((cl.lookup x).bind B).elim .none fun o=>match o.data with | .cell (some v)=>v | _=>.none
theorem cvOf_at {B:BM} {cl:List (Str × Addr)} {x:Str} {c:Addr} {o:Obj} {v:Value} (e1:cl.lookup x=some c) (e2:B c=some o) (e3:o.data=.cell (some v)):cvOf B cl x=v:=by
 unfold cvOf
 rw [e1,show (some c).bind B=some o from e2]
 show (match o.data with | .cell (some v)=>v | _=>.none)=v
 rw [e3]
theorem noDef_of {ps:Arguments} {env:Env} (h:noDef ps=true):defaultsOf ps env=([],[]):=by
 obtain ⟨p1,p2,p3,p4,p5,p6,p7⟩:=ps
 induction p7 using List.casesOn with
 | nil=>
  induction p5 using List.casesOn with
  | nil=>rfl
  | cons x r=>exact ft ((Bool.and_false _).symm.trans (show ((x :: r).all (·.isNone) && false)=true from h))
 | cons x r=>cases p5 <;> cases h
theorem ETr.lam {ps:Arguments} {body:PySem.Expr} {sc:Scope} {pos:Pos} {st:St} {caps:List (Str × AV)} {j:Nat} {cA:Addr} (hdef:noDef ps=true) (hcode:φ.code=some cA) (hj:j < st.nx) (hm:st.m j=.tab cA)
  (hn:lamNames φ st.vars sc.names=true) (hcaps:freeCaps (nameNow φ st) sc.names=some caps) :
  ETr prog w K btab k φ (.Lambda ps body sc pos) st (.fn ps body sc caps) { st with fz:=frozenBy φ sc.names st.fz }:=by
 intro W A env s Q E hA hS hF hc' hq
 refine kla_eval (noDef_of hdef) ?_
 obtain ⟨W1,S1,l1,F1,a1⟩:=freeze_all (by rw [hcode]; exact fun z=>by cases z) sc.names W st hn hS hF
 have hcells:∀ x,(x,NameKind.free) ∈ sc.names->∃ av,st.vars.lookup x=some av /\ nameNow φ st x=some av:=by
  intro x hx
  have:=List.all_eq_true.mp hn _ hx
  have this:=lam_at this
  obtain ⟨av,hav⟩:=Option.isSome_iff_exists.mp this.2
  refine ⟨av,hav,?_⟩
  unfold nameNow
  rw [this.1]
  exact hav
 obtain ⟨cl,hcl1,hcl2⟩:=closure_pure env sc fun x hx=>by
  obtain ⟨av,hav,_⟩:=hcells x hx
  obtain ⟨c,o,v,e,_⟩:=a1 x hx av hav
  rw [e]; rfl
 have ht:=S1.obj j hj
 rw [hm] at ht
 obtain ⟨tps,oc,t1,⟨vs,file,tf,flags,tg,inF,text,tt,d1,d2,d3,d3',d4,d5,d6,d7⟩,t3,t4,t5,t6⟩:=ht
 have CH:CodeHd s.heap cA (W1.ι j):=⟨oc,vs,file,tf,flags,tg,inF,text,tt,S1.base _ _ t1,d1,d2,d3,d3',d4,d5,d6,d7,t3⟩
 obtain ⟨X,hlim,_,hBM⟩:=S1.facts
 obtain ⟨mg,hg,hgP,hbt⟩:=bm_ne hBM t4
 have hecode:env.code=.ref cA:=hF.code cA hcode
 have hjj:st.m j ≠ .junk:=by rw [hm]; exact fun z=>by cases z
 -- the function's value in the end
 have fin:∀ (W2:Wd) (h2:Heap) (tk:Nat) (ctv cv:Value) (qn:Str) (pm:Value),SInv prog w K btab W2 st.m st.nx h2->Wd.le st.nx W1 W2->FInv W2 φ env { st with fz:=frozenBy φ sc.names st.fz } h2->CodeVal W2.B cv ->
   Q (.ref h2.objs.size) { s with heap:=h2.push { cls:=.type "function",data:=.func (kla_fn "<lambda>" qn ps body sc cl pm cv ctv) },toks:=tk }:=by
  intro W2 h2 tk ctv cv qn pm S2 l2 F2 hcv
  obtain ⟨S3,l3,c3⟩:=S2.alloc (o:={ cls:=.type "function",data:=.func (kla_fn "<lambda>" qn ps body sc cl pm cv ctv) }) rfl
  refine hq _ _ tk _ (Nat.le_refl _) (l1.trans (Nat.le_refl _) (l2.trans (Nat.le_refl _) l3)) S3 (F2.carry (Nat.le_refl _) l3 c3) ?_
  obtain ⟨c',oo,vs',q,tq,rfl,g1,g2,g3⟩:=hcv
  refine .fn (fd:=kla_fn "<lambda>" qn ps body sc cl pm (.ref c') ctv) (cv:=cvOf W1.B cl) (freeze_at _ _ _) rfl rfl rfl rfl rfl rfl rfl rfl rfl ⟨c',oo,vs',q,tq,rfl,l3.B _ _ g1,g2,g3⟩ (fun p hp=>?_) fun p hp=>?_
  ·obtain ⟨m1,m2⟩:=freeCaps_mem hcaps p hp
   obtain ⟨av,hav,hav2⟩:=hcells p.1 m1
   obtain ⟨c,o,v,e1,e2,e3,e4⟩:=a1 p.1 m1 av hav
   have e5:cl.lookup p.1=some c:=(hcl2 p.1 m1).trans e1
   exact ⟨c,o,e5,l3.B _ _ (l2.B _ _ e2),(cvOf_at e5 e2 e3).symm ▸ e3⟩
  ·obtain ⟨m1,m2⟩:=freeCaps_mem hcaps p hp
   obtain ⟨av,hav,hav2⟩:=hcells p.1 m1
   obtain ⟨c,o,v,e1,e2,e3,e4⟩:=a1 p.1 m1 av hav
   have e5:cl.lookup p.1=some c:=(hcl2 p.1 m1).trans e1
   have e6:av=p.2:=Option.some.inj (hav2.symm.trans m2)
   subst e6
   rw [cvOf_at e5 e2 e3]
   exact e4.mono (Nat.le_refl _) (l2.trans (Nat.le_refl _) l3)
 cases hh:codeAmong pos tps.toList with
 | some cv=>
  refine kla_makeFunctionHit hcl1 hF.globals hg hecode CH t4 t5 hh hbt fun ctv h' tk hk hsz=>?_
  exact fin W1 h' tk ctv cv _ _ (S1.keeps hk) (.refl _ _) (F1.carry (Nat.le_refl _) (.refl _ _) (Carry.keeps hk)) (t6 _ _ hh)
 | none=>
  refine kla_makeFunction hcl1 hF.globals hg hecode CH t4 t5 hh hgP hbt fun c' ctv h' tk hx hge hlt hrec htab=>?_
  obtain ⟨c₂,oo,vs',tq,ec,g1,g2,g3⟩:=hrec
  cases ec
  have hfresh:s.heap.get? c'=none:=by
   cases q:s.heap.get? c' with
   | none=>rfl
   | some o'=>exact absurd (Heap.lt_size q) (Nat.not_lt.mpr hge)
  have hown:OwnAt W1 st.m st.nx c':=S1.fresh hfresh
  have ne:∀ b o,s.heap.get? b=some o->b ≠ c':=fun b o e z=>by rw [z,hfresh] at e; cases e
  have S2:=S1.put (mo:=.any) hj hjj hx ⟨_,htab⟩
  have hown2:OwnAt W1 (upd st.m j .any) st.nx c':=⟨hown.b,hown.r,fun n hn hnj=>by
   by_cases q:n=j
   ·subst q; exact hown.i n hn hjj
   ·rw [upd_ne _ _ _ q] at hnj; exact hown.i n hn hnj⟩
  have S3:=S2.freeze hown2 g1
  have l2:Wd.le st.nx W1 (W1.freeze c' oo):=freeze_le hown.b
  have htab':h'.get? ((W1.freeze c' oo).ι j)=some { cls:=.none,data:=.fields (tps ++ #[rawInt pos.line,rawInt pos.col,.ref c']) }:=htab
  have tl:(tps ++ #[rawInt pos.line,rawInt pos.col,Value.ref c']).toList=tps.toList ++ [rawInt pos.line,rawInt pos.col,.ref c']:=by simp
  have S4:=S3.put (mo:=.tab cA) (h':=h') hj (by rw [upd_at]; exact fun z=>by cases z) (Heap.ExtBut.refl _ _) ⟨_,oc,l2.B _ _ t1,⟨vs,file,tf,flags,tg,inF,text,tt,d1,d2,d3,d3',d4,d5,d6,d7⟩,t3,htab',by rw [tl]; exact TriplesOk_snoc _ _ _ _ t5,fun p cv hcv=>by
   rw [tl] at hcv
   rcases codeAmong_or t5 hcv with e | e
   ·exact (t6 p cv e).mono l2.B
   ·subst e; exact ⟨c',oo,vs',_,tq,rfl,freeze_at _ _ _,g2,g3⟩⟩
  have em:upd (upd st.m j .any) j (.tab cA)=st.m:=by
   funext i
   by_cases q:i=j
   ·subst q; rw [upd_at,hm]
   ·rw [upd_ne _ _ _ q,upd_ne _ _ _ q]
  rw [em] at S4
  have F4:=F1.carry (m':=st.m) (h':=h') (Nat.le_refl _) l2 fun b o hb hbo=>⟨⟨(if_neg (ne b o hbo)).trans hb.b,hb.r,hb.i⟩,hx b o (fun z=>hb.i j hj hjj z.symm) hbo⟩
  exact fin _ h' tk ctv (.ref c') _ _ S4 l2 F4 ⟨c',oo,vs',_,tq,rfl,freeze_at _ _ _,g2,g3⟩
end
end
section
section
variable {prog:Program} {w:World} {K:Frag} {btab:List (Str × Value)} {k:Nat}
theorem callFunE {A:Around} {R:Result->Shared->Prop} {s:Shared} {a:Addr} {args:Args} {o oc:Obj} {fd:FuncData} {body:PySem.Expr} {c:Addr} {vs:Array Value} {q:Str} {tq:Tok} (hroom:A.depth < recursionLimit)
  (ho:s.heap.get? a=some o)
  (hd':o.data=.func fd) (hco:fd.scope.isCoroutine=false) (hgen:fd.scope.isGenerator=false) (hbody:fd.body=.expr body) (hc:fd.code=.ref c) (hoc:s.heap.get? c=some oc) (hdc:oc.data=.fields vs) (hq:vs[1]? = some (.str q tq))
  (h:wpAny (model prog w) A.in1 (bindArgs fd args) (fun binds s₁=>
   wpAny (model prog w) A.in1 (newFunctionEnv fd.scope fd.globals fd.closure binds (q ++ ".<locals>.") (some a) fd.code none fd.builtins)
    (fun env s₂=>s₂.heap.NoLimit /\ codeAny (model prog w) A (.expr body env) R s₂) (fun e s'=>R (.error e) s') s₁) (fun e s'=>R (.error e) s') s) :
  codeAny (model prog w) A (.call (.ref a) args) R s:=by
 refine codeAny_of_tree ?_
 show wpAny _ A.in1 (callAny (.ref a) args) _ _ s
 refine wpAny_bind (wpAny_load ho ?_)
 rw [hd']
 show wpAny _ A.in1 (callFunction a fd args) _ _ s
 unfold callFunction
 rw [hco,hgen,hbody,hc]
 rw [hc] at h
 refine wpAny_bind (m:=field (.ref c) 1) (wpAny_field hoc hdc hq (wpAny_bind (wpAny_pure ?_)))
 exact wpAny_bind (wpAny_mono h (fun binds s₁ h₁=>wpAny_bind (wpAny_mono h₁ (fun env s₂ h₂=>wpAny_bind (wpAny_enterFrame h₂.1 hroom
  (wpAny_pure (And.intro rfl h₂.2)))) fun _ _ h'=>h')) fun _ _ h'=>h')
noncomputable def LamBind (ps:Arguments) (x:Str):Prop:=∀ (fd:FuncData) (v:Value),fd.params=ps->fd.defaults=.none->fd.kwdefaults=.none->bindArgs fd ⟨[v],[]⟩ = pure [(x,v)]
noncomputable def lamSc (sc:Scope) (x:Str):Bool:=(match sc.kind with | .function=>true | _=>false) && !sc.isCoroutine && !sc.isGenerator && sc.names.lookup x == some .local && sc.names.all fun p=>match p.2 with | .cell=>false | _=>true
theorem fn_kind {a:ScopeKind}:(match a with | .function=>true | _=>false)=true->a=.function:=by cases a <;> first | exact fun _=>rfl | exact fun h=>ft h
theorem lamSc_at {sc:Scope} {x:Str} (hs:lamSc sc x=true):A5 (sc.kind=.function) (sc.isCoroutine=false) (sc.isGenerator=false) (sc.names.lookup x=some .local) ((sc.names.all fun p=>match p.2 with | .cell=>false | _=>true)=true):=by
 obtain ⟨hs,h5⟩:=and_t hs
 obtain ⟨hs,h4⟩:=and_t hs
 obtain ⟨hs,h3⟩:=and_t hs
 obtain ⟨h1,h2⟩:=and_t hs
 exact ⟨fn_kind h1,not_t h2,not_t h3,eq_of_beq h4,h5⟩
set_option tactic.hygienic true in
theorem code_lam {ps:Arguments} {e:PySem.Expr} {sc:Scope} {caps:List (Str × AV)} {x:Str} {av r:AV} {m:Nat->MO} {nx:Nat} {st':St} (hb:LamBind ps x) (hs:lamSc sc x=true)
  (body:ETr prog w K btab k ⟨sc,caps,none,Str.empty⟩ e ⟨[(x,av)],[],m,nx⟩ r st'):CodeTr prog w K btab (k+1) (.fn ps e sc caps) [av] [] m nx r st'.m st'.nx:=by
 intro W A s R vf vs kvs hA hS hvf hvs hkvs hq
 obtain ⟨hkind,h2,h3,h4,h5⟩:=lamSc_at hs
 cases hvs with
 | cons hv hr=>
  rename_i v _
  cases hr
  cases hkvs
  cases hvf with
  | fn ho hcl hd hp hbd hsc hd1 hd2 hg hbu hcode hcell hvc=>
   rename_i a o fd cv
   obtain ⟨X,hlim,_⟩:=hS.facts
   obtain ⟨c,oc,vsc,q,tq,c1,c2,c3,c4⟩:=hcode
   have hroom:A.depth < recursionLimit:=by have:=hA.depth; omega
   refine callFunE hroom (hS.base _ _ ho) hd (by rw [hsc]; exact h2) (by rw [hsc]; exact h3) hbd c1 (hS.base _ _ c2) c3 c4 ?_
   show wpAny (model prog w) A.in1 (bindArgs fd ⟨[v],[]⟩) _ _ s
   rw [hb fd v hp hd1 hd2]
   refine wpAny_pure (wpAny_newFunctionEnv (fun y hy hyc=>?_) (fun y hy=>?_) (fun h' hns hsb=>?_) (by rw [hsc]; exact hkind))
   ·rw [hsc] at hy
    have:=List.all_eq_true.mp h5 y hy
    rw [hyc] at this; cases this
   ·rw [hsc]
    cases hy with
    | head=>exact h4
    | tail _ hy=>cases hy
   ·have kp:Keeps s.heap h':=fun b ob e=>hsb.extBut b ob (Nat.ne_of_lt (Heap.lt_size e)) (Heap.get?_push_of_some _ e)
    refine ⟨hlim.keeps kp,kla_codeExpr ?_⟩
    have S':=hS.keeps kp
    refine body W (A.deeper _) _ _ _ _ hA.deeper S' ⟨hsc,hkind,hg,hbu,rfl,fun c hc=>(by cases hc),hS.fresh (get?_size _),⟨_,hns,fun y ay e1 e2=>?_⟩,fun y hy=>?_,fun y ay e1 e2=>?_⟩ trivial
     fun W' h2 tk' b n l S2 F2 hf=>hq W' h2 tk' b n l S2 hf
    ·have e2':[(x,av)].lookup y=some ay:=e2
     rw [List.lookup_cons] at e2'
     cases z:y == x with
     | false=>rw [z] at e2'; cases e2'
     | true=>
      rw [z] at e2'; cases e2'
      refine ⟨v,?_,hv⟩
      show List.lookup y [(x,v)].reverse=some v
      rw [List.reverse_singleton,List.lookup_cons,z]
    ·have:=mem_of_lookup (show sc.names.lookup y=some .cell from hy)
     have:=List.all_eq_true.mp h5 _ this
     cases this
    ·have hm:=mem_of_lookup e2
     obtain ⟨c',oc',g1,g2,g3⟩:=hcell _ hm
     exact ⟨c',oc',_,g1,.inl g2,g3,hvc _ hm⟩
end
end
section
section
variable {prog:Program} {w:World} {K:Frag} {btab:List (Str × Value)} {k:Nat} {m:Nat->MO} {nx:Nat}
theorem act_same {β:Type} {t:Wd->Sem β->Prop} {P:Wd->β->Prop} (h:∀ (W:Wd) (A:Around) (s:Shared) (tr:Sem β) (Q:β->Shared->Prop) (E:Value->Shared->Prop),AOK k A->SInv prog w K btab W m nx s.heap->t W tr ->
  (∀ h' tk' b,Keeps s.heap h'->P W b->Q b { s with heap:=h',toks:=tk' })->wpAny (model prog w) A tr Q E s):Act prog w K btab k (fun _=>True) t m nx m nx P:=by
 intro W A s tr Q E hA hS _ ht hq
 exact h W A s tr Q E hA hS ht fun h' tk' b hk hp=>hq W h' tk' b (Nat.le_refl _) (.refl _ _) (hS.keeps hk) hp
theorem new_lst {W:Wd} {h:Heap} {ds:List D} {vs:List Value} (S:SInv prog w K btab W m nx h) (hv:VDs W.B ds vs):(∃ W',A3 (SInv prog w K btab W' m nx (h.push (lstObj vs 0))) (Wd.le nx W W') (VA W' nx (.d (.lst ds)) (.ref h.objs.size))):=by
 obtain ⟨S',l',c'⟩:=S.alloc (o:=lstObj vs 0) rfl
 exact ⟨_,S',l',.d (.lst (freeze_at _ _ _) (hv.mono l'.B))⟩
theorem new_rng {W:Wd} {h:Heap} {a b c:Int} {t u v:Tok} (S:SInv prog w K btab W m nx h):(∃ W',A3 (SInv prog w K btab W' m nx (h.push { cls:=.type "range",data:=.fields #[.int a t,.int b u,.int c v] })) (Wd.le nx W W') (VA W' nx (.d (.rng a b c)) (.ref h.objs.size))):=by
 obtain ⟨S',l',c'⟩:=S.alloc (o:={ cls:=.type "range",data:=.fields #[.int a t,.int b u,.int c v] }) rfl
 exact ⟨_,S',l',.d (.rng (freeze_at _ _ _))⟩
theorem vas1 {W:Wd} {a:AV} {vs:List Value} (h:VAs W nx [a] vs):∃ v,vs = [v] /\ VA W nx a v:=by
 cases h with | cons h r=>cases r; exact ⟨_,rfl,h⟩
theorem vas2 {W:Wd} {a b:AV} {vs:List Value} (h:VAs W nx [a,b] vs):(Ex2 fun u v=>A3 (vs = [u,v]) (VA W nx a u) (VA W nx b v)):=by
 cases h with | cons h r=>obtain ⟨v,rfl,hv⟩:=vas1 r; exact ⟨_,v,rfl,h,hv⟩
theorem vas3 {W:Wd} {a b c:AV} {vs:List Value} (h:VAs W nx [a,b,c] vs):(Ex3 fun u v x=>A4 (vs = [u,v,x]) (VA W nx a u) (VA W nx b v) (VA W nx c x)):=by
 cases h with | cons h r=>obtain ⟨v,x,rfl,hv,hw⟩:=vas2 r; exact ⟨_,v,x,rfl,h,hv,hw⟩
theorem vas0 {W:Wd} {vs:List Value} (h:VAs W nx [] vs):vs = []:=by cases h; rfl
theorem call1 {f:Value} {a r:AV} {m':Nat->MO} {nx':Nat} (h:Act prog w K btab k (fun _=>True) (fun W tr=>∃ v,VA W nx a v /\ tr=call f [v]) m nx m' nx' (fun W' v=>VA W' nx' r v)):CallTr prog w K btab k (.k f) [a] [] m nx r m' nx':=by
 intro W A s tr Q E hA hS _ ⟨vf,vs,kvs,hvf,hvs,hkvs,htr⟩ hq
 cases hvf
 obtain ⟨v,rfl,hv⟩:=vas1 hvs
 have e:=vas0 hkvs
 subst e
 exact h W A s tr Q E hA hS trivial ⟨v,hv,htr⟩ hq
theorem call2 {f:Value} {a b r:AV} {m':Nat->MO} {nx':Nat} (h:Act prog w K btab k (fun _=>True) (fun W tr=>(Ex2 fun u v=>A3 (VA W nx a u) (VA W nx b v) (tr=call f [u,v]))) m nx m' nx' (fun W' v=>VA W' nx' r v)):CallTr prog w K btab k (.k f) [a,b] [] m nx r m' nx':=by
 intro W A s tr Q E hA hS _ ⟨vf,vs,kvs,hvf,hvs,hkvs,htr⟩ hq
 cases hvf
 obtain ⟨u,v,rfl,hu,hv⟩:=vas2 hvs
 have e:=vas0 hkvs
 subst e
 exact h W A s tr Q E hA hS trivial ⟨u,v,hu,hv,htr⟩ hq
theorem call3 {f:Value} {a b c r:AV} {m':Nat->MO} {nx':Nat} (h:Act prog w K btab k (fun _=>True) (fun W tr=>(Ex3 fun u v x=>A4 (VA W nx a u) (VA W nx b v) (VA W nx c x) (tr=call f [u,v,x]))) m nx m' nx' (fun W' v=>VA W' nx' r v)):CallTr prog w K btab k (.k f) [a,b,c] [] m nx r m' nx':=by
 intro W A s tr Q E hA hS _ ⟨vf,vs,kvs,hvf,hvs,hkvs,htr⟩ hq
 cases hvf
 obtain ⟨u,v,x,rfl,hu,hv,hx⟩:=vas3 hvs
 have e:=vas0 hkvs
 subst e
 exact h W A s tr Q E hA hS trivial ⟨u,v,x,hu,hv,hx,htr⟩ hq
theorem vds_strs {B:BM} (l:List (Str × Tok)):VDs B (l.map fun p=>.str p.1) (strValues l):=by
 induction l with
 | nil=>exact .nil
 | cons p r ih=>exact .cons (.str _ _) ih
theorem VDs.split {B:BM}:∀ {xs ys:List D} {vs:List Value},VDs B (xs ++ ys) vs->(Ex2 fun us ws=>A3 (vs=us ++ ws) (VDs B xs us) (VDs B ys ws))
 | [],_,vs,h=>⟨[],vs,rfl,.nil,h⟩
 | x :: xs,ys,_,h=>by
  cases h with
  | cons h r=>
   obtain ⟨us,ws,rfl,a,b⟩:=VDs.split r
   exact ⟨_ :: us,ws,rfl,.cons h a,b⟩
theorem meth_str {x name:Str} {id:String} (h:∀ (A:Around) (s:Shared) (t:Tok) (pl:Sem Bool) (Q:Value × List Value->Shared->Prop) (E:Value->Shared->Prop),Q (.builtin id,[.str x t]) s->wpAny (model prog w) A (getMethod (.str x t) name pl) Q E s) :
  MethTr prog w K btab k (.d (.str x)) name m nx (.k (.builtin id)) [.d (.str x)] nx m:=by
 refine act_same fun W A s tr Q E hA hS ⟨vo,pl,hv,htr⟩ hq=>?_
 subst htr
 obtain ⟨t,rfl⟩:=va_str hv
 exact h A s t pl Q E (hq s.heap s.toks _ (Keeps.refl _) ⟨.k _,.cons (.d (.str _ _)) .nil⟩)
theorem m_lower {x:Str}:MethTr prog w K btab k (.d (.str x)) "lower" m nx (.k (.builtin "str.lower")) [.d (.str x)] nx m:=meth_str fun _ _ _ _ _ _ h=>GM.lower h
theorem m_upper {x:Str}:MethTr prog w K btab k (.d (.str x)) "upper" m nx (.k (.builtin "str.upper")) [.d (.str x)] nx m:=meth_str fun _ _ _ _ _ _ h=>GM.upper h
theorem m_split {x:Str}:MethTr prog w K btab k (.d (.str x)) "split" m nx (.k (.builtin "str.split")) [.d (.str x)] nx m:=meth_str fun _ _ _ _ _ _ h=>GM.split h
theorem m_join {x:Str}:MethTr prog w K btab k (.d (.str x)) "join" m nx (.k (.builtin "str.join")) [.d (.str x)] nx m:=meth_str fun _ _ _ _ _ _ h=>GM.join h
theorem c_lower {x:Str} (hl:x.length<=5592405):CallTr prog w K btab k (.k (.builtin "str.lower")) [.d (.str x)] [] m nx (.d (.str (Txt.lower x))) m nx:=by
 refine call1 (act_same fun W A s tr Q E hA hS ⟨v,hv,htr⟩ hq=>?_)
 subst htr
 obtain ⟨t,rfl⟩:=va_str hv
 exact PyProof.Rows.SCL.lower hl fun _=>hq s.heap _ _ (Keeps.refl _) (.d (.str _ _))
theorem c_upper {x:Str} (hl:x.length<=5592405):CallTr prog w K btab k (.k (.builtin "str.upper")) [.d (.str x)] [] m nx (.d (.str (Txt.upper x))) m nx:=by
 refine call1 (act_same fun W A s tr Q E hA hS ⟨v,hv,htr⟩ hq=>?_)
 subst htr
 obtain ⟨t,rfl⟩:=va_str hv
 exact PyProof.Rows.SCL.upper hl fun _=>hq s.heap _ _ (Keeps.refl _) (.d (.str _ _))
theorem act_new {t:Wd->Sem Value->Prop} {r:AV} {m':Nat->MO} {nx':Nat} (h:∀ (W:Wd) (A:Around) (s:Shared) (tr:Sem Value) (Q:Value->Shared->Prop) (E:Value->Shared->Prop),AOK k A->SInv prog w K btab W m nx s.heap->t W tr ->
  (∀ W' h' tk' b,SInv prog w K btab W' m' nx' h'->Wd.le nx W W'->nx<=nx'->VA W' nx' r b->Q b { s with heap:=h',toks:=tk' })->wpAny (model prog w) A tr Q E s):Act prog w K btab k (fun _=>True) t m nx m' nx' (fun W' v=>VA W' nx' r v):=by
 intro W A s tr Q E hA hS _ ht hq
 exact h W A s tr Q E hA hS ht fun W' h' tk' b hS' hl hn hp=>hq W' h' tk' b hn hl hS' hp
noncomputable def strDs (l:List Str):List D:=l.map .str
theorem vds_strs' {B:BM} {l:List (Str × Tok)} {xs:List Str} (e:l.map (·.1)=xs):VDs B (strDs xs) (strValues l):=by
 subst e
 unfold strDs
 rw [List.map_map]
 exact vds_strs l
theorem strs_of {B:BM}:∀ {xs:List Str} {vs:List Value},VDs B (strDs xs) vs->∃ l:List (Str × Tok),vs=strValues l /\ l.map (·.1)=xs
 | [],_,h=>by cases h; exact ⟨[],rfl,rfl⟩
 | x :: xs,_,h=>by
  cases h with
  | cons h r=>
   obtain ⟨l,rfl,hl⟩:=strs_of r
   cases h with | str _ t=>exact ⟨(x,t) :: l,rfl,by rw [List.map_cons,hl]⟩
theorem split_at {A:Around} {E:Value->Shared->Prop} {s:Shared} {x y:Str} {t u:Tok} {Q:Value->Shared->Prop} (hy:(y.length == 0)=false)
  (hq:∀ l tk,l.map (·.1)=Txt.split x y->Q (.ref s.heap.objs.size) { s with heap:=s.heap.push (lstObj (strValues l) 0),toks:=tk })
  (hsz:x.length<=sizeLine) (hsz2:(Builtin.Str.partsBetween x (Builtin.Str.occurrences x y 0 x.length (x.length+1)) y.length).length<=sizeLine) :
  wpAny (model prog w) A (call (.builtin "str.split") [.str x t,.str y u]) Q E s:=by
 cases h1:(decide (x.length < y.length) || decide (Builtin.Str.strKind x < Builtin.Str.strKind y))
 ·cases hf:(Builtin.Str.occurrences x y 0 x.length (x.length+1)).isEmpty
  ·refine call_meets F.slot_str_split (typeIs_str _ _ _) F.entry_str_split (F.args_str_split_2 _ _) (meets_str_split_sep x y t u h1 hy hf hsz hsz2) ?_
   show wants Q E _ _
   rw [strsFrom_eq]
   exact hq (numbered s.toks _) _ ((numbered_texts _ _).trans ((if_neg (ne_true_of_eq_false h1)).trans (if_neg (ne_true_of_eq_false hf))).symm)
  ·exact call_meets F.slot_str_split (typeIs_str _ _ _) F.entry_str_split (F.args_str_split_2 _ _) (meets_str_split_not_found x y t u h1 hy hf)
    (hq [(x,t)] _ ((if_neg (ne_true_of_eq_false h1)).trans (if_pos hf)).symm)
 ·exact call_meets F.slot_str_split (typeIs_str _ _ _) F.entry_str_split (F.args_str_split_2 _ _) (meets_str_split_cannot_occur x y t u h1)
   (hq [(x,t)] _ (if_pos h1).symm)
theorem c_split {x y:Str} (hy:(y.length == 0)=false) (hsz:x.length<=sizeLine) (hsz2:(Builtin.Str.partsBetween x (Builtin.Str.occurrences x y 0 x.length (x.length+1)) y.length).length<=sizeLine) :
  CallTr prog w K btab k (.k (.builtin "str.split")) [.d (.str x),.d (.str y)] [] m nx (.d (.lst (strDs (Txt.split x y)))) m nx:=by
 refine call2 (act_new fun W A s tr Q E hA hS ⟨u,v,hu,hv,htr⟩ hq=>?_)
 subst htr
 obtain ⟨t,rfl⟩:=va_str hu
 obtain ⟨t',rfl⟩:=va_str hv
 refine split_at hy (fun l tk hl=>?_) hsz hsz2
 obtain ⟨W',S',l',v'⟩:=new_lst hS (vds_strs' hl)
 exact hq W' _ tk _ S' l' (Nat.le_refl _) v'
noncomputable def isLst:AV->Prop
 | .d (.lst _)=>True
 | .loc _=>True
 | _=>False
theorem seq_at {h:Heap} {W:Wd} (S:SInv prog w K btab W m nx h) {a:AV} {ds:List D} {v:Value} (hv:VA W nx a v) (hs:DSrc m nx a ds) (hl:isLst a) :
  (Ex3 fun (l:Addr) (vs:List Value) (n:Nat)=>A3 (v=.ref l) (h.get? l=some (lstObj vs n)) (VDs W.B ds vs)):=by
 induction hv using VA.casesOn with
 | loc hn=>
  obtain ⟨vs,kk,ho,hvs⟩:=loc_ex S hn hs.2
  exact ⟨_,vs,kk,rfl,ho,hvs⟩
 | k v=>exact hl.elim
 | bm=>exact hl.elim
 | fn=>exact hl.elim
 | d hv=>
  induction hv using VD.casesOn with
  | lst ho hvs=>cases hs; exact ⟨_,_,_,rfl,S.base _ _ ho,hvs⟩
  | _=>exact hl.elim
theorem lstObj.isList {h:Heap} {l:Addr} {vs:List Value} {n:Nat} (ho:h.get? l=some (lstObj vs n)):h.IsList l vs.toArray:=⟨_,ho,rfl,_,rfl⟩
theorem c_join {x:Str} {a:AV} {xs:List Str} (hs:DSrc m nx a (strDs xs)) (hl:isLst a) (hok:(xs.map (·.length)).sum+xs.length * x.length<=16777216):CallTr prog w K btab k (.k (.builtin "str.join")) [.d (.str x),a] [] m nx (.d (.str (Txt.join x xs))) m nx:=by
 refine call2 (act_same fun W A s tr Q E hA hS ⟨u,v,hu,hv,htr⟩ hq=>?_)
 subst htr
 obtain ⟨t,rfl⟩:=va_str hu
 obtain ⟨l,vs,n,rfl,ho,hvs⟩:=seq_at hS hv hs hl
 obtain ⟨ll,rfl,hll⟩:=strs_of hvs
 refine SC.join (lstObj.isList ho) hll (PyProof.Rows.joinOk_of hok) fun t' k=>hq s.heap _ _ (Keeps.refl _) (.d (.str _ _))
theorem meth_lst {a:AV} {ds:List D} {name:Str} {id:String} (hs:DSrc m nx a ds) (hl:isLst a) (slot:Slot "list" name id) (hty:typeOf (.builtin id)=pure (.type "method_descriptor")) :
  MethTr prog w K btab k a name m nx (.k (.builtin id)) [a] nx m:=by
 refine act_same fun W A s tr Q E hA hS ⟨vo,pl,hv,htr⟩ hq=>?_
 subst htr
 obtain ⟨l,vs,n,rfl,ho,hvs⟩:=seq_at hS hv hs hl
 refine getMethod_builtin ⟨_,ho,rfl⟩ PySem.F.plainAttrs_list slot hty (fun a e=>by cases e; exact ⟨_,ho,rfl⟩) ?_
 exact hq s.heap s.toks _ (Keeps.refl _) ⟨.k _,.cons hv .nil⟩
theorem m_append {a:AV} {ds:List D} (hs:DSrc m nx a ds) (hl:isLst a):MethTr prog w K btab k a "append" m nx (.k (.builtin "list.append")) [a] nx m:=meth_lst hs hl PySem.F.slot_list_append PySem.F.type_list_append
theorem m_pop {a:AV} {ds:List D} (hs:DSrc m nx a ds) (hl:isLst a):MethTr prog w K btab k a "pop" m nx (.k (.builtin "list.pop")) [a] nx m:=meth_lst hs hl PySem.F.slot_list_pop PySem.F.type_list_pop
theorem m_insert {a:AV} {ds:List D} (hs:DSrc m nx a ds) (hl:isLst a):MethTr prog w K btab k a "insert" m nx (.k (.builtin "list.insert")) [a] nx m:=meth_lst hs hl PySem.F.slot_list_insert PySem.F.type_list_insert
theorem m_index {a:AV} {ds:List D} (hs:DSrc m nx a ds) (hl:isLst a):MethTr prog w K btab k a "index" m nx (.k (.builtin "list.index")) [a] nx m:=meth_lst hs hl PySem.F.slot_list_index PySem.F.type_list_index
theorem fitsIdx {n:Nat} (h:n < 9000000000):Builtin.List.listFitsIndex (n:Int)=true:=by
 unfold Builtin.List.listFitsIndex
 have e:(2 ^ 63:Int)=9223372036854775808:=by decide
 rw [e,Bool.and_eq_true,decide_eq_true_eq,decide_eq_true_eq] at ⊢
 omega
theorem act_put {t:Wd->Sem Value->Prop} {r:AV} {n:Nat} {ds ds':List D} (hn:n < nx) (hm:m n=.list ds) (h:∀ (W:Wd) (A:Around) (s:Shared) (tr:Sem Value) (Q:Value->Shared->Prop) (E:Value->Shared->Prop) (vs:List Value) (e:Nat),AOK k A->SInv prog w K btab W m nx s.heap->t W tr ->
  s.heap.get? (W.ι n)=some (lstObj vs e)->VDs W.B ds vs->(∀ h' tk' b vs' e',h'.get? (W.ι n)=some (lstObj vs' e')->VDs W.B ds' vs'->Heap.ExtBut (W.ι n) s.heap h'->VA W nx r b->Q b { s with heap:=h',toks:=tk' })->wpAny (model prog w) A tr Q E s) :
  Act prog w K btab k (fun _=>True) t m nx (upd m n (.list ds')) nx (fun W' v=>VA W' nx r v):=by
 intro W A s tr Q E hA hS _ ht hq
 obtain ⟨vs,e,ho,hv⟩:=loc_ex hS hn hm
 refine h W A s tr Q E vs e hA hS ht ho hv fun h' tk' b vs' e' ho' hv' hs hp=>?_
 exact hq W h' tk' b (Nat.le_refl _) (.refl _ _) (hS.put (mo:=.list ds') hn (by rw [hm]; exact fun z=>by cases z) hs ⟨vs',e',ho',hv'⟩) hp
theorem c_append {n:Nat} {ds:List D} {x:D} (hn:n < nx) (hm:m n=.list ds) (hsz:ds.length<=100000):CallTr prog w K btab k (.k (.builtin "list.append")) [.loc n,.d x] [] m nx (.d .none) (upd m n (.list (ds ++ [x]))) nx:=by
 refine call2 (act_put hn hm fun W A s tr Q E vs e hA hS ⟨u,v,hu,hv,htr⟩ ho hvs hq=>?_)
 subst htr
 cases hu
 cases hv with
 | d hv=>
  refine list_append_at ho (by have:=hvs.length; rw [sizeLine_eq]; omega) fun h' n' h1 h2=>?_
  exact hq h' s.toks .none _ n' h1 (hvs.append (.cons hv .nil)) h2 (.d .none)
set_option tactic.hygienic true in
theorem c_pop {n:Nat} {ds:List D} {x:D} (hn:n < nx) (hm:m n=.list (ds ++ [x])) (hsz:ds.length < 100000):CallTr prog w K btab k (.k (.builtin "list.pop")) [.loc n] [] m nx (.d x) (upd m n (.list ds)) nx:=by
 refine call1 (act_put hn hm fun W A s tr Q E vs e hA hS ⟨u,hu,htr⟩ ho hvs hq=>?_)
 subst htr
 cases hu
 obtain ⟨us,ws,rfl,hus,hws⟩:=hvs.split
 cases hws with
 | cons hv hr=>
  rename_i v _
  cases hr
  have hlen:=hus.length
  have hk:(us ++ [v]).toArray.size - 1=us.length:=by rw [List.size_toArray,List.length_append]; rfl
  have hy:(us ++ [v]).toArray[(us ++ [v]).toArray.size - 1]? = some v:=by rw [hk]; simp
  refine call_meets PySem.F.slot_list_pop ⟨_,ho,rfl⟩ PySem.F.entry_list_pop (PySem.F.args_list_pop_1 _) (PySem.MeetsSeq.list_pop_last _ _ e v hy (by rw [List.size_toArray,List.length_append,sizeLine_eq,hlen]; simp; omega)) ⟨ho,?_⟩
  obtain ⟨n',h1,h2⟩:=lst_update ho (fun a=>a.eraseIdxIfInBounds ((us ++ [v]).toArray.size - 1))
  refine hq _ _ v us n' ?_ hus h2 (.d hv)
  have e1:((us ++ [v]).toArray.eraseIdxIfInBounds ((us ++ [v]).toArray.size - 1)).toList=us:=by
   rw [hk,kl_erase,List.append_nil]
  rw [e1] at h1
  exact h1
theorem si_at {i n:Nat} (h:i < n):seqIndex? (i:Int) n=some i:=seqIndex_of (Int.natCast_nonneg i) (Int.ofNat_lt.mpr h)
theorem ins_at {i n:Nat}:(if (i:Int) < 0 then ((i:Int)+((i+n:Nat):Int)).toNat else min (i:Int).toNat (i+n))=i:=by
 rw [if_neg in3]
 exact Nat.min_eq_left (Nat.le_add_right i n)
theorem c_popAt {n:Nat} {ds es:List D} {x:D} (hn:n < nx) (hm:m n=.list (ds ++ x :: es)) (hsz:ds.length+es.length < 100000):CallTr prog w K btab k (.k (.builtin "list.pop")) [.loc n,.d (.int ds.length)] [] m nx (.d x) (upd m n (.list (ds ++ es))) nx:=by
 refine call2 (act_put hn hm fun W A s tr Q E vs e hA hS ⟨u,v,hu,hv,htr⟩ ho hvs hq=>?_)
 subst htr
 cases hu
 obtain ⟨t,rfl⟩:=va_int hv
 obtain ⟨us,ws,rfl,hus,hws⟩:=hvs.split
 cases hws with
 | @cons _ y _ ws hvx hr=>
  have hlen:=hus.length
  have hlen2:=hr.length
  have hf:Builtin.List.listFitsIndex ((ds.length:Nat):Int)=true:=fitsIdx (by omega)
  have hz:(us ++ y :: ws).toArray.size<=sizeLine:=by rw [List.size_toArray,List.length_append,List.length_cons,sizeLine_eq,hlen,hlen2]; omega
  have hy:(us ++ y :: ws).toArray[us.length]? = some y:=by simp
  have hk:seqIndex? (ds.length:Int) (us ++ y :: ws).toArray.size=some us.length:=by
   rw [List.size_toArray,List.length_append,List.length_cons,hlen]
   exact si_at (Nat.lt_add_of_pos_right (Nat.succ_pos _))
  generalize hi:(ds.length:Int)=i at *
  have M:=PySem.MeetsSeq.list_pop_at (W.ι n) (us ++ y :: ws).toArray e i t us.length y hf hk hy hz
  refine call_meets PySem.F.slot_list_pop ⟨_,ho,rfl⟩ PySem.F.entry_list_pop (PySem.F.args_list_pop_2 _ _) M ⟨ho,?_⟩
  obtain ⟨n',h1,h2⟩:=lst_update ho (fun a=>a.eraseIdxIfInBounds us.length)
  refine hq _ _ y (us ++ ws) n' ?_ (hus.append hr) h2 (.d hvx)
  rw [kl_erase] at h1
  exact h1
theorem c_insert {n:Nat} {ds es:List D} {x:D} (hn:n < nx) (hm:m n=.list (ds ++ es)) (hsz:ds.length+es.length < 100000):CallTr prog w K btab k (.k (.builtin "list.insert")) [.loc n,.d (.int ds.length),.d x] [] m nx (.d .none) (upd m n (.list (ds ++ x :: es))) nx:=by
 refine call3 (act_put hn hm fun W A s tr Q E vs e hA hS ⟨u,v,y,hu,hv,hy,htr⟩ ho hvs hq=>?_)
 subst htr
 cases hu
 obtain ⟨t,rfl⟩:=va_int hv
 obtain ⟨us,ws,rfl,hus,hws⟩:=hvs.split
 cases hy with
 | d hy=>
  have hlen:=hus.length
  have hlen2:=hws.length
  have hf:Builtin.List.listFitsIndex ((ds.length:Nat):Int)=true:=fitsIdx (by omega)
  have hz:(us ++ ws).toArray.size<=sizeLine:=by rw [List.size_toArray,List.length_append,sizeLine_eq,hlen,hlen2]; omega
  generalize hi:(ds.length:Int)=i at *
  have hq':∀ h' n',h'.get? (W.ι n)=some (lstObj (us ++ y :: ws) n')->Heap.ExtBut (W.ι n) s.heap h'->Q .none { s with heap:=h' }:=fun h' n' h1 h2=>hq h' s.toks .none (us ++ y :: ws) n' h1 (hus.append (.cons hy hws)) h2 (.d .none)
  have M:=PySem.AutoSeq1.list_insert_list_int_val_1 (W.ι n) (us ++ ws).toArray e i t y (by rw [hf]; decide) hz
  have ik:i=((us.length:Nat):Int):=by rw [hlen]; exact hi.symm
  clear hi hq hf
  have fin:∀ Q':Value->Shared->Prop,(∀ h' n',h'.get? (W.ι n)=some (lstObj (us ++ y :: ws) n')->Heap.ExtBut (W.ι n) s.heap h'->Q' .none { s with heap:=h' })->wpAny (model prog w) A (call (.builtin "list.insert") [.ref (W.ι n),.int i t,y]) Q' E s:=by
   intro Q' q
   refine call_meets PySem.F.slot_list_insert ⟨_,ho,rfl⟩ PySem.F.entry_list_insert (PySem.F.args_list_insert_3 _ _ _) M ⟨ho,?_⟩
   obtain ⟨n',h1,h2⟩:=lst_update ho (fun xs:Array Value=>have k:=if i < 0 then (i+(xs.size:Int)).toNat else min i.toNat xs.size; (xs.extract 0 k).push y ++ xs.extract k)
   refine q _ n' ?_ h2
   have e0:(if i < 0 then (i+((us ++ ws).toArray.size:Int)).toNat else min i.toNat (us ++ ws).toArray.size)=us.length:=by
    rw [ik,List.size_toArray,List.length_append]
    exact ins_at
   have e1:(us ++ ws).take us.length ++ y :: (us ++ ws).drop us.length=us ++ y :: ws:=by simp
   dsimp only at h1
   rw [e0,kl_ins_eq,e1] at h1
   exact h1
  exact fin _ fun h' n' h1 h2=>hq' h' n' h1 h2
theorem c_len {a:AV} {ds:List D} (hs:DSrc m nx a ds) (hl:isLst a) (hsz:ds.length < 9000000000):CallTr prog w K btab k (.k (.builtin "len")) [a] [] m nx (.d (.int ds.length)) m nx:=by
 refine call1 (act_same fun W A s tr Q E hA hS ⟨v,hv,htr⟩ hq=>?_)
 subst htr
 obtain ⟨l,vs,n,rfl,ho,hvs⟩:=seq_at hS hv hs hl
 have hlen:=hvs.length
 refine Calls.call_len_list (lstObj.isList ho) (by rw [List.size_toArray,hlen]; omega) ?_
 rw [List.size_toArray,hlen]
 exact hq s.heap _ _ (Keeps.refl _) (.d (.int _ _))
theorem c_lenS {x:Str} (hsz:x.length < 9000000000):CallTr prog w K btab k (.k (.builtin "len")) [.d (.str x)] [] m nx (.d (.int x.length)) m nx:=by
 refine call1 (act_same fun W A s tr Q E hA hS ⟨v,hv,htr⟩ hq=>?_)
 subst htr
 obtain ⟨t,rfl⟩:=va_str hv
 exact P.len_str (by omega) (hq s.heap _ _ (Keeps.refl _) (.d (.int _ _)))
theorem c_range1 {b:Int}:CallTr prog w K btab k (.k (.type "range")) [.d (.int b)] [] m nx (.d (.rng 0 b 1)) m nx:=by
 refine call1 (act_new fun W A s tr Q E hA hS ⟨v,hv,htr⟩ hq=>?_)
 subst htr
 obtain ⟨t,rfl⟩:=va_int hv
 refine call_range_1 ?_
 obtain ⟨W',S',l',v'⟩:=new_rng (a:=0) (b:=b) (c:=1) (t:=s.toks) (u:=t) (v:=s.toks+1) hS
 exact hq W' _ _ _ S' l' (Nat.le_refl _) v'
theorem c_range2 {a b:Int}:CallTr prog w K btab k (.k (.type "range")) [.d (.int a),.d (.int b)] [] m nx (.d (.rng a b 1)) m nx:=by
 refine call2 (act_new fun W A s tr Q E hA hS ⟨u,v,hu,hv,htr⟩ hq=>?_)
 subst htr
 obtain ⟨t,rfl⟩:=va_int hu
 obtain ⟨t',rfl⟩:=va_int hv
 refine call_range_2 ?_
 obtain ⟨W',S',l',v'⟩:=new_rng (a:=a) (b:=b) (c:=1) (t:=t) (u:=t') (v:=s.toks) hS
 exact hq W' _ _ _ S' l' (Nat.le_refl _) v'
theorem c_range3 {a b c:Int} (hc:c ≠ 0) (hp:Builtin.divisionGoesByPylong (b - a) c=false):CallTr prog w K btab k (.k (.type "range")) [.d (.int a),.d (.int b),.d (.int c)] [] m nx (.d (.rng a b c)) m nx:=by
 refine call3 (act_new fun W A s tr Q E hA hS ⟨u,v,x,hu,hv,hx,htr⟩ hq=>?_)
 subst htr
 obtain ⟨t,rfl⟩:=va_int hu
 obtain ⟨t',rfl⟩:=va_int hv
 obtain ⟨t'',rfl⟩:=va_int hx
 refine call_range_3 hc ?_ (.inl hp)
 obtain ⟨W',S',l',v'⟩:=new_rng (a:=a) (b:=b) (c:=c) (t:=t) (u:=t') (v:=t'') hS
 exact hq W' _ _ _ S' l' (Nat.le_refl _) v'
theorem c_str {a:Int} (ha:a.natAbs.log2 < 1920):CallTr prog w K btab k (.k (.type "str")) [.d (.int a)] [] m nx (.d (.str (toString a))) m nx:=by
 refine call1 (act_same fun W A s tr Q E hA hS ⟨v,hv,htr⟩ hq=>?_)
 subst htr
 obtain ⟨t,rfl⟩:=va_int hv
 exact P.str_of_int ha (hq s.heap _ _ (Keeps.refl _) (.d (.str _ _)))
theorem c_int {x:Str} {n:Int} (hn:PySem.intText? x=some n) (hl:x.length<=640):CallTr prog w K btab k (.k (.type "int")) [.d (.str x)] [] m nx (.d (.int n)) m nx:=by
 refine call1 (act_same fun W A s tr Q E hA hS ⟨v,hv,htr⟩ hq=>?_)
 subst htr
 obtain ⟨t,rfl⟩:=va_str hv
 exact PySem.W.KIN.call_text hn hl (hq s.heap _ _ (Keeps.refl _) (.d (.int _ _)))
end
end
section
section
variable {prog:Program} {w:World} {K:Frag} {btab:List (Str × Value)} {k:Nat} {m:Nat->MO} {nx:Nat}
theorem subT {A:Around} {E:Value->Shared->Prop} {s:Shared} {value slice:PySem.Expr} {o i:Value} {T id:String} {ops:List Value} {Q:Value->Shared->Prop} (hT:s.TypeIs o T)
  (hl:typeLookup (.type T) "__getitem__" = pure (some (.builtin id))) (h:wpAny (model prog w) A (getItem o i) Q E s)
  (hs:subscripted slice false o i=operate ops (getItem o i)):wpAny (model prog w) A (subscriptTail value slice o i) Q E s:=by
 unfold subscriptTail
 refine wpAny_bind ?_
 rw [getitemInPython_of_ne hT.not_modules]
 refine wpAny_bind (wpAny_specialOf hT hl ?_)
 have fin:wpAny (model prog w) A (subscripted slice false o i) (fun r s₃=>wpAny (model prog w) A (letTemporaryGo value o r >>= fun _=>pure r) Q E s₃) E s:=by
  rw [hs]
  exact wpAny_operating (wpAny_mono h (fun r s₃ h₃=>wpAny_bind (wpAny_letTemporaryGo (wpAny_pure h₃))) fun _ _ x=>x)
 first
  | exact wpAny_pure (wpAny_bind fin)
  | exact wpAny_bind (wpAny_pure (wpAny_bind fin))
  | exact wpAny_bind fin
theorem i_lst {a:AV} {ds:List D} {i:Nat} {x:D} (hs:DSrc m nx a ds) (hl:isLst a) (hx:ds[i]? = some x) (hi:i < 9000000000):ItemTr prog w K btab k a (.d (.int i)) m nx (.d x) m nx:=by
 refine act_same fun W A s tr Q E hA hS ⟨vo,vi,value,slice,hsub,hvo,hvi,htr⟩ hq=>?_
 subst htr
 obtain ⟨l,vs,n,rfl,ho,hvs⟩:=seq_at hS hvo hs hl
 obtain ⟨t,rfl⟩:=va_int hvi
 obtain ⟨v,e1,e2⟩:=hvs.get hx
 refine subT ⟨_,ho,rfl⟩ list_getitem_lookup (wpAny_getItem_list (lstObj.isList ho) (by omega) (by omega) (x:=v) (by simpa using e1) (hq s.heap s.toks v (Keeps.refl _) (.d e2))) (hsub _ _)
theorem i_tup {ds:List D} {i:Nat} {x:D} (hx:ds[i]? = some x) (hi:i < 9000000000):ItemTr prog w K btab k (.d (.tup ds)) (.d (.int i)) m nx (.d x) m nx:=by
 refine act_same fun W A s tr Q E hA hS ⟨vo,vi,value,slice,hsub,hvo,hvi,htr⟩ hq=>?_
 subst htr
 obtain ⟨t,rfl⟩:=va_int hvi
 cases hvo with
 | d hvo=>
  cases hvo with
  | @tup a vs n _ ho hvs=>
   obtain ⟨v,e1,e2⟩:=hvs.get hx
   have ht:IsTup s.heap a vs.toArray:=⟨_,hS.base _ _ ho,rfl,_,rfl⟩
   have hlt:i < vs.length:=by
    rcases Nat.lt_or_ge i vs.length with q | q
    ·exact q
    ·rw [List.getElem?_eq_none q] at e1; cases e1
   refine subT ht.typeIs slot_tuple_getitem.lookup (getItem_tuple ht (by omega) (by omega) (j:=i) ?_ (x:=v) (by simpa using e1) (hq s.heap s.toks v (Keeps.refl _) (.d e2))) (hsub _ _)
   rw [List.size_toArray]
   exact si_at hlt
theorem i_str {x:Str} {i:Int} (hr:fitsSsize i=true) (hin:(Txt.charAt x i).isSome=true):ItemTr prog w K btab k (.d (.str x)) (.d (.int i)) m nx (.d (.str (Txt.item x i))) m nx:=by
 refine act_same fun W A s tr Q E hA hS ⟨vo,vi,value,slice,hsub,hvo,hvi,htr⟩ hq=>?_
 subst htr
 obtain ⟨t,rfl⟩:=va_str hvo
 obtain ⟨t',rfl⟩:=va_int hvi
 exact subT (typeIs_str _ _ _) F.slot_str_getitem.lookup (SB.getItem hr hin (hq s.heap _ _ (Keeps.refl _) (.d (.str _ _)))) (hsub _ _)
noncomputable def pickD (ds:List D) (lo hi:Option Int):List D:=(sliceRange (sliceBounds lo hi none ds.length).1 (sliceBounds lo hi none ds.length).2.1 (sliceBounds lo hi none ds.length).2.2).filterMap (ds[·]?)
theorem vds_filterMap {B:BM} {ds:List D} {vs:List Value} (h:VDs B ds vs):∀ l:List Nat,VDs B (l.filterMap (ds[·]?)) (l.filterMap (vs[·]?))
 | []=>.nil
 | i :: l=>by
  rw [List.filterMap_cons,List.filterMap_cons]
  cases q:ds[i]? with
  | some x=>
   obtain ⟨v,e1,e2⟩:=h.get q
   rw [e1]
   exact .cons e2 (vds_filterMap h l)
  | none=>
   have:vs[i]? = none:=by
    have:=h.length
    rw [List.getElem?_eq_none_iff] at q ⊢
    omega
   rw [this]
   exact vds_filterMap h l
theorem vds_pick {B:BM} {ds:List D} {vs:List Value} (h:VDs B ds vs) (lo hi:Option Int):VDs B (pickD ds lo hi) (slicePick vs.toArray lo hi none).toList:=by
 unfold pickD slicePick
 have:=h.length
 simp only [List.size_toArray,this,List.getElem?_toArray]
 exact vds_filterMap h _
noncomputable def partOf:AV->Option (Option Int)
 | .d .none=>some none
 | .d (.int i)=>some (some i)
 | _=>none
theorem part_is {W:Wd} {a:AV} {v:Value} {p:Option Int} (h:VA W nx a v) (e:partOf a=some p):IsPart v p:=by
 induction h using VA.casesOn with
 | d h=>
  induction h using VD.casesOn with
  | none=>cases e; exact .none
  | int i t=>cases e; exact .int _ _
  | _=>cases e
 | _=>cases e
theorem s_lst {a l u:AV} {ds:List D} {lo hi:Option Int} (hs:DSrc m nx a ds) (hl:isLst a) (h1:partOf l=some lo) (h2:partOf u=some hi) (hsz:ds.length<=100000) :
  SliceTr prog w K btab k a l u m nx (.d (.lst (pickD ds lo hi))) m nx:=by
 refine act_new fun W A s tr Q E hA hS ⟨vo,vl,vu,value,slice,hsub,hvo,hvl,hvu,htr⟩ hq=>?_
 subst htr
 obtain ⟨ll,vs,n,rfl,ho,hvs⟩:=seq_at hS hvo hs hl
 have hlen:=hvs.length
 refine wpAny_bind ?_
 unfold newFields
 refine wpAny_newObj_type ?_ (by size_fits)
 have hl':(s.heap.push { cls:=.type "slice",data:=.fields #[vl,vu,.none] }).IsList ll vs.toArray:=(lstObj.isList ho).push _
 have S2:=hS.keeps (Keeps.push s.heap { cls:=.type "slice",data:=.fields #[vl,vu,.none] })
 refine subT (s:={ s with heap:=s.heap.push { cls:=.type "slice",data:=.fields #[vl,vu,.none] } }) hl'.typeIs list_getitem_lookup
  (wpAny_getItem_list_slice hl' (Heap.IsSliceOf.new ..) (part_is hvl h1) (part_is hvu h2) .none (by simp) ?_ (by rw [List.size_toArray,sizeLine_eq]; omega)) (hsub _ _)
 obtain ⟨W',S',l',v'⟩:=new_lst S2 (vds_pick hvs lo hi)
 have e:(slicePick vs.toArray lo hi none).toList.toArray=slicePick vs.toArray lo hi none:=by simp
 unfold lstObj at S'
 rw [e] at S'
 exact hq W' _ _ _ S' l' (Nat.le_refl _) v'
end
end
section
section
variable {prog:Program} {w:World} {K:Frag} {btab:List (Str × Value)} {k:Nat} {m:Nat->MO} {nx:Nat}
theorem cmp2 {op:CmpOp} {a b:AV} {r:Bool} (h:∀ (W:Wd) (A:Around) (s:Shared) (u v:Value) (Q:Value->Shared->Prop) (E:Value->Shared->Prop),AOK k A->SInv prog w K btab W m nx s.heap->VA W nx a u->VA W nx b v ->
  (∀ h' tk',Keeps s.heap h'->Q (.bool r) { s with heap:=h',toks:=tk' })->wpAny (model prog w) A (compareOp op u v) Q E s):CmpTr prog w K btab k op a b m nx r m nx:=by
 refine act_same fun W A s tr Q E hA hS ⟨u,v,hu,hv,htr⟩ hq=>?_
 subst htr
 exact h W A s u v Q E hA hS hu hv fun h' tk' hk=>hq h' tk' _ hk rfl
theorem q_inS {x y:Str}:CmpTr prog w K btab k .In (.d (.str y)) (.d (.str x)) m nx (Txt.contains x y) m nx:=by
 refine cmp2 fun W A s u v Q E hA hS hu hv hq=>?_
 obtain ⟨t,rfl⟩:=va_str hu
 obtain ⟨t',rfl⟩:=va_str hv
 exact SB.contains (hq s.heap s.toks (Keeps.refl _))
noncomputable def isNoneA:AV->Option Bool
 | .d .none=>some true
 | .d _=>some false
 | .loc _=>some false
 | .fn ..=>some false
 | .k _=>none
 | .bm ..=>some false
theorem noneA_val {W:Wd} {a:AV} {v:Value} {b:Bool} (h:VA W nx a v) (e:isNoneA a=some b):(v == .none)=b:=by
 induction h using VA.casesOn with
 | d h=>cases h <;> cases e <;> rfl
 | loc h=>cases e; rfl
 | k v=>cases e
 | bm=>cases e; rfl
 | fn=>cases e; rfl
theorem q_isNone {a:AV} {b:Bool} (e:isNoneA a=some b):CmpTr prog w K btab k .Is a (.d .none) m nx b m nx:=by
 refine cmp2 fun W A s u v Q E hA hS hu hv hq=>?_
 cases va_none hv
 exact is_none (by rw [noneA_val hu e]; exact hq s.heap s.toks (Keeps.refl _))
theorem q_isNotNone {a:AV} {b:Bool} (e:isNoneA a=some b):CmpTr prog w K btab k .IsNot a (.d .none) m nx (!b) m nx:=by
 refine cmp2 fun W A s u v Q E hA hS hu hv hq=>?_
 cases va_none hv
 exact isNot_none (by rw [noneA_val hu e]; exact hq s.heap s.toks (Keeps.refl _))
theorem q_isType {X Y:String}:CmpTr prog w K btab k .Is (.k (.type X)) (.k (.type Y)) m nx (Value.type X == Value.type Y) m nx:=by
 refine cmp2 fun W A s u v Q E hA hS hu hv hq=>?_
 cases hu; cases hv
 exact wpAny_is_plain rfl (hq s.heap s.toks (Keeps.refl _))
theorem q_isNotType {X Y:String}:CmpTr prog w K btab k .IsNot (.k (.type X)) (.k (.type Y)) m nx (!(Value.type X == Value.type Y)) m nx:=by
 refine cmp2 fun W A s u v Q E hA hS hu hv hq=>?_
 cases hu; cases hv
 exact wpAny_isNot_plain rfl (hq s.heap s.toks (Keeps.refl _))
theorem b_addS {g:Bool} {x y:Str} (hsz:x.length+y.length<=sizeLine):BinTr prog w K btab k g .Add (.d (.str x)) (.d (.str y)) m nx (.d (.str (x ++ y))) m nx:=by
 refine act_same fun W A s tr Q E hA hS ⟨u,v,hu,hv,htr⟩ hq=>?_
 obtain ⟨t,rfl⟩:=va_str hu
 obtain ⟨t',rfl⟩:=va_str hv
 subst htr
 cases g
 ·exact SB.add (fun t' k'=>hq s.heap _ _ (Keeps.refl _) (.d (.str _ _))) hsz
 ·exact SB.iadd (fun t' k'=>hq s.heap _ _ (Keeps.refl _) (.d (.str _ _))) hsz
theorem truth_lst {a:AV} {ds:List D} (hs:DSrc m nx a ds) (hl:isLst a) (hsz:ds.length < 9000000000):TruthTr prog w K btab k a m nx (!ds.isEmpty):=by
 refine act_same fun W A s tr Q E hA hS ⟨v,hv,htr⟩ hq=>?_
 subst htr
 obtain ⟨l,vs,n,rfl,ho,hvs⟩:=seq_at hS hv hs hl
 have hlen:=hvs.length
 have e:vs.toArray.isEmpty=ds.isEmpty:=by
  cases ds with
  | nil=>cases hvs; rfl
  | cons x r=>cases hvs; rfl
 refine wpAny_truthy_list (lstObj.isList ho) (by rw [List.size_toArray,hlen]; omega) ?_
 rw [e]
 exact hq s.heap _ _ (Keeps.refl _) rfl
mutual
noncomputable def D.py:D->PyData
 | .none=>.none
 | .bool b=>.bool b
 | .int i=>.int i
 | .str s=>.str s
 | .tup l=>.tuple (D.pys l)
 | .lst l=>.list (D.pys l)
 | .rng _ _ _=>.none
noncomputable def D.pys:List D->List PyData
 | []=>[]
 | x :: r=>D.py x :: D.pys r
end
mutual
noncomputable def D.plain:D->Bool
 | .rng _ _ _=>false
 | .tup l=>D.plains l
 | .lst l=>D.plains l
 | _=>true
noncomputable def D.plains:List D->Bool
 | []=>true
 | x :: r=>D.plain x && D.plains r
end
theorem reads_vd {h:Heap} {B:BM} (hb:∀ a o,B a=some o->h.get? a=some o) {x:D} {v:Value} (hv:VD B x v):D.plain x=true->∃ as,Reads h v (D.py x) as:=
 VD.rec (motive_1:=fun x v _=>D.plain x=true->∃ as,Reads h v (D.py x) as) (motive_2:=fun xs vs _=>D.plains xs=true->∃ as,ReadsAll h vs (D.pys xs) as)
  (fun _=>⟨[],.none⟩) (fun b _=>⟨[],.bool b⟩) (fun i t _=>⟨[],.int i t⟩) (fun s t _=>⟨[],.str s t⟩)
  (fun ho _ ih p=>(ih p).elim fun as r=>⟨as,.tuple (hb _ _ ho) rfl rfl r⟩) (fun ho _ ih p=>(ih p).elim fun as r=>⟨_ :: as,.list (hb _ _ ho) rfl rfl r⟩) (fun _ p=>Internal.ft p)
  (fun _=>⟨[],.nil⟩) (fun _ _ i1 i2 p=>have q:=(Bool.and_eq_true _ _).mp p; (i1 q.1).elim fun as r1=>(i2 q.2).elim fun bs r2=>⟨as ++ bs,.cons r1 r2⟩) hv
theorem reads_vds {h:Heap} {B:BM} (hb:∀ a o,B a=some o->h.get? a=some o) {xs:List D} {vs:List Value} (hv:VDs B xs vs):D.plains xs=true->∃ as,ReadsAll h vs (D.pys xs) as:=
 VDs.ind (fun xs vs=>D.plains xs=true->∃ as,ReadsAll h vs (D.pys xs) as) (fun _=>⟨[],.nil⟩) (fun h1 _ i2 p=>have q:=(Bool.and_eq_true _ _).mp p; (reads_vd hb h1 q.1).elim fun as r1=>(i2 q.2).elim fun bs r2=>⟨as ++ bs,.cons r1 r2⟩) hv
noncomputable def asD1 (m:Nat->MO) (nx:Nat) (a:AV) (d:D):Prop:=a=.d d \/ (∃ ds,A3 (d=.lst ds) (isLst a) (DSrc m nx a ds))
theorem reads_av {h:Heap} {W:Wd} (S:SInv prog w K btab W m nx h) {a:AV} {d:D} {v:Value} (hv:VA W nx a v) (ha:asD1 m nx a d) (hp:D.plain d=true):∃ as,Reads h v (D.py d) as:=by
 rcases ha with rfl | ⟨ds,rfl,hl,hs⟩
 ·cases hv with | d hv=>exact reads_vd S.base hv hp
 ·obtain ⟨l,vs,n,rfl,ho,hvs⟩:=seq_at S hv hs hl
  obtain ⟨as,r⟩:=reads_vds S.base hvs hp
  exact ⟨_,.list ho rfl rfl r⟩
theorem units_room {A:Around} (h:AOK k A):A.units+64 < cLine:=by have:=h.units; omega
theorem q_eq {a b:AV} {d1 d2:D} (h1:asD1 m nx a d1) (h2:asD1 m nx b d2) (p1:D.plain d1=true) (p2:D.plain d2=true) (s1:PySem.SeqAt.shaped (D.py d1)=true) (s2:PySem.SeqAt.shaped (D.py d2)=true) (hm:PySem.SeqAt.noMix (D.py d1) (D.py d2)=true) :
  CmpTr prog w K btab k .Eq a b m nx (PySem.Spec.same (D.py d1) (D.py d2)) m nx:=by
 refine cmp2 fun W A s u v Q E hA hS hu hv hq=>?_
 obtain ⟨as,r1⟩:=reads_av hS hu h1 p1
 obtain ⟨bs,r2⟩:=reads_av hS hv h2 p2
 exact eq_dataH_same r1 r2 s1 s2 (units_room hA) hm (hq s.heap s.toks (Keeps.refl _))
theorem q_ne {a b:AV} {d1 d2:D} (h1:asD1 m nx a d1) (h2:asD1 m nx b d2) (p1:D.plain d1=true) (p2:D.plain d2=true) (s1:PySem.SeqAt.shaped (D.py d1)=true) (s2:PySem.SeqAt.shaped (D.py d2)=true) (hm:PySem.SeqAt.noMix (D.py d1) (D.py d2)=true) :
  CmpTr prog w K btab k .NotEq a b m nx (!PySem.Spec.same (D.py d1) (D.py d2)) m nx:=by
 refine cmp2 fun W A s u v Q E hA hS hu hv hq=>?_
 obtain ⟨as,r1⟩:=reads_av hS hu h1 p1
 obtain ⟨bs,r2⟩:=reads_av hS hv h2 p2
 exact ne_dataH_same r1 r2 s1 s2 (units_room hA) hm (hq s.heap s.toks (Keeps.refl _))
theorem ints_of {B:BM}:∀ {ns:List Int} {vs:List Value},VDs B (ns.map D.int) vs->IntsAre vs ns
 | [],_,h=>by cases h; exact .nil
 | n :: ns,_,h=>by
  cases h with
  | cons h r=>
   cases h with | int i t=>exact .cons _ _ (ints_of r)
theorem vds_ints {B:BM}:∀ {vs:List Value} {ns:List Int},IntsAre vs ns->VDs B (ns.map D.int) vs
 | _,_,.nil=>.nil
 | _,_,.cons n t r=>.cons (.int _ _) (vds_ints r)
theorem c_sorted {a:AV} {ns:List Int} (hs:DSrc m nx a (ns.map D.int)) (hl:isLst a) (h64:ns.length < 64):CallTr prog w K btab k (.k (.builtin "sorted")) [a] [] m nx (.d (.lst ((ns.mergeSort (fun x y=>decide (x<=y))).map D.int))) m nx:=by
 refine call1 (act_new fun W A s tr Q E hA hS ⟨v,hv,htr⟩ hq=>?_)
 subst htr
 obtain ⟨l,vs,n,rfl,ho,hvs⟩:=seq_at hS hv hs hl
 have hlen:=hvs.length
 rw [List.length_map] at hlen
 refine PyProof.Rows.sorted_ints (lstObj.isList ho) (ints_of hvs) (by rw [hlen]; exact h64) fun out ns' a1 a2 a3=>?_
 obtain ⟨e,he⟩:=PyProof.Rows.sortedAll_at s.heap vs out
 have hk:Keeps s.heap (PyProof.Rows.sortedAll s.heap vs out):=fun _ _=>PyProof.Rows.sortedAll_old
 have S2:=hS.keeps hk
 have hown:OwnAt W m nx (s.heap.objs.size+1):=hS.fresh (by
  cases q:s.heap.get? (s.heap.objs.size+1) with
  | none=>rfl
  | some o=>exact absurd (Heap.lt_size q) (Nat.not_lt.mpr (Nat.le_succ _)))
 have S3:=S2.freeze hown he
 have l3:Wd.le nx W (W.freeze (s.heap.objs.size+1) (PyProof.Rows.seqObj "list" out e)):=freeze_le hown.b
 have eq:ns.mergeSort (fun x y=>decide (x<=y))=ns':=by
  have p1:(ns.mergeSort (fun x y=>decide (x<=y))).Perm ns':=(List.mergeSort_perm ..).trans a2.symm
  have s1:(ns.mergeSort (fun x y=>decide (x<=y))).Pairwise (fun x y=>decide (x<=y)=true):=List.pairwise_mergeSort (fun a b c h1 h2=>by simp at *; omega) (fun a b=>by simp; omega) _
  have s2:ns'.Pairwise (fun x y=>decide (x<=y)=true):=a3.imp (by simp)
  exact p1.eq_of_pairwise (fun a b _ _ h1 h2=>by simp at h1 h2; omega) s1 s2
 rw [eq] at hq
 refine hq _ _ s.toks _ S3 l3 (Nat.le_refl _) (.d ?_)
 refine .lst (vs:=out.toList) (n:=e) ?_ ((vds_ints a1).mono l3.B)
 have:lstObj out.toList e=PyProof.Rows.seqObj "list" out e:=by unfold lstObj PyProof.Rows.seqObj; simp
 rw [this]
 exact freeze_at _ _ _
end
end
section
section
variable {prog:Program} {w:World} {K:Frag} {btab:List (Str × Value)} {k:Nat} {m:Nat->MO} {nx:Nat}
set_option tactic.hygienic true in
theorem lookIn_ns {od:Obj} {es:Array DictEntry} {ep:Nat} {mp:Str->Option Value} (hd:od.data=.dict es ep) (hk:StrKeys es) (hf:∀ name,nsFind es name=mp name) (name:Str):lookIn name od=some (mp name):=by
 unfold lookIn
 rw [hd]
 dsimp only
 have e:=hf name
 unfold nsFind findBy at e
 rw [<- Array.find?_toList] at e
 split
 ·rename_i en he
  rw [he] at e
  rw [<- e]; rfl
 ·rename_i he
  rw [he] at e
  have:es.toList.any (·.refKey)=false:=by
   rw [List.any_eq_false]
   intro x hx
   obtain ⟨n,t,hx'⟩:=hk x (by simpa using hx)
   unfold DictEntry.refKey
   rw [hx']
   simp
  rw [this]
  rw [<- e]; rfl
theorem inst_at {W:Wd} {h:Heap} (S:SInv prog w K btab W m nx h) {n j:Nat} {C:Addr} {l:List (Str × AV)} (hn:n < nx) (h1:m n=.inst C j) (h2:m j=.ns l) :
  j < nx /\ (Ex4 fun (od:Obj) (es:Array DictEntry) (ep:Nat) (mp:Str->Option Value)=>A8 (InstAt h (W.ι n) (instObj C (W.ι j)) C (some od)) (h.get? (W.ι j)=some od) (od.data=.dict es ep) (StrKeys es) ((∀ name,nsFind es name=mp name)) (es.size<=l.length) ((∀ x,l.lookup x=none->mp x=none)) (∀ x av,l.lookup x=some av->∃ v,mp x=some v /\ VA W nx av v)):=by
 have o1:=S.obj n hn
 rw [h1] at o1
 obtain ⟨a1,a2⟩:=o1
 have o2:=S.obj j a2
 rw [h2] at o2
 obtain ⟨mp,⟨od,es,ep,b1,b2,b3,b4,bz⟩,b5,b6⟩:=o2
 exact ⟨a2,od,es,ep,mp,⟨a1,rfl,rfl,b1⟩,b1,b2,b3,b4,bz,b5,b6⟩
noncomputable def notK:AV->Bool
 | .k (.builtin _)=>false
 | _=>true
theorem handed {W:Wd} {a:AV} {v:Value} (h:VA W nx a v) (hn:notK a=true):handedIn v=true:=by
 induction h using VA.casesOn with
 | d h=>cases h <;> rfl
 | loc=>rfl
 | k v=>cases v <;> first | rfl | cases hn
 | bm=>rfl
 | fn=>rfl
noncomputable def attrOk (K:Frag) (C:Addr) (name:Str):Bool:=plainGet K C name && hasDictIn K C && (match findIn K (.ref C) name with | some attr=>noGet K attr | none=>false)
set_option tactic.hygienic true in
theorem get_inst {W:Wd} {A:Around} {E:Value->Shared->Prop} {s:Shared} {Q:Value->Shared->Prop} {n j:Nat} {C:Addr} {l:List (Str × AV)} {name:Str} {r:AV} {b:Bool} (S:SInv prog w K btab W m nx s.heap) (hn:n < nx) (h1:m n=.inst C j) (h2:m j=.ns l) (hl:l.lookup name=some r) (hk:notK r=true)
  (hc:attrOk K C name=true) (h:∀ v,VA W nx r v->Q v { s with toks:=s.toks+1 }):wpAny (model prog w) A (getAttr (.ref (W.ι n)) name b) Q E s:=by
 obtain ⟨_,od,es,ep,mp,I,b1,b2,b3,b4,bz,b5,b6⟩:=inst_at S hn h1 h2
 obtain ⟨v,e1,e2⟩:=b6 name r hl
 unfold attrOk at hc
 rw [Bool.and_eq_true,Bool.and_eq_true] at hc
 obtain ⟨⟨c1,c2⟩,c3⟩:=hc
 split at c3
 ·rename_i attr ha
  have hlook:lookIn name od=some (some v):=by rw [lookIn_ns b2 b3 b4,e1]
  exact get_value S.facts.1 I (plainGet_of c1).1 (findObj_own c2 ha c3 hlook) (handed e2 hk) (h v e2)
 ·cases c3
theorem a_get {n j:Nat} {C:Addr} {l:List (Str × AV)} {name:Str} {r:AV} (hn:n < nx) (h1:m n=.inst C j) (h2:m j=.ns l) (hl:l.lookup name=some r) (hk:notK r=true) (hc:attrOk K C name=true):AttrTr prog w K btab k (.loc n) name m nx r m nx:=by
 refine act_same fun W A s tr Q E hA hS ⟨vo,b,hv,htr⟩ hq=>?_
 subst htr
 cases hv
 exact get_inst hS hn h1 h2 hl hk hc fun v hv=>hq s.heap _ v (Keeps.refl _) hv
noncomputable def methOk (K:Frag) (C:Addr) (name:Str) (f:Addr):Bool:=plainGet K C name && findIn K (.ref C) name == some (some (.ref f)) && typeIn K (.ref f) == some (.type "function")
theorem m_fn {n j:Nat} {C f:Addr} {l:List (Str × AV)} {name:Str} (hn:n < nx) (h1:m n=.inst C j) (h2:m j=.ns l) (hl:l.lookup name=none) (hc:methOk K C name f=true):MethTr prog w K btab k (.loc n) name m nx (.k (.ref f)) [.loc n] nx m:=by
 refine act_same fun W A s tr Q E hA hS ⟨vo,pl,hv,htr⟩ hq=>?_
 subst htr
 cases hv
 obtain ⟨_,od,es,ep,mp,I,b1,b2,b3,b4,bz,b5,b6⟩:=inst_at hS hn h1 h2
 unfold methOk at hc
 rw [Bool.and_eq_true,Bool.and_eq_true] at hc
 obtain ⟨⟨c1,c2⟩,c3⟩:=hc
 have hsh:shadowIn (some od) name=some false:=by
  show (lookIn name od).map (·.isSome)=some false
  rw [lookIn_ns b2 b3 b4,b5 _ hl]; rfl
 exact method_fn hS.facts.1 I (plainGet_of c1).1 (plainGet_of c1).2 (beq_iff_eq.mp c2) (beq_iff_eq.mp c3) hsh (hq s.heap s.toks _ (Keeps.refl _) ⟨.k _,.cons (.loc hn) .nil⟩)
theorem m_attr {n j:Nat} {C:Addr} {l:List (Str × AV)} {name:Str} {r:AV} (hn:n < nx) (h1:m n=.inst C j) (h2:m j=.ns l) (hl:l.lookup name=some r) (hk:notK r=true) (hc:attrOk K C name=true) (hno:findIn K (.ref C) name=some none) :
  MethTr prog w K btab k (.loc n) name m nx r [] nx m:=by
 refine act_same fun W A s tr Q E hA hS ⟨vo,pl,hv,htr⟩ hq=>?_
 subst htr
 cases hv
 obtain ⟨_,od,es,ep,mp,I,b1,b2,b3,b4,bz,b5,b6⟩:=inst_at hS hn h1 h2
 have c1:plainGet K C name=true:=by
  unfold attrOk at hc
  rw [Bool.and_eq_true,Bool.and_eq_true] at hc
  exact hc.1.1
 refine method_usual hS.facts.1 I (plainGet_of c1).1 (plainGet_of c1).2 hno rfl ?_
 exact get_inst hS hn h1 h2 hl hk hc fun v hv=>hq s.heap _ (v,[]) (Keeps.refl _) ⟨hv,.nil⟩
noncomputable def setOk (K:Frag) (C:Addr) (name:Str):Bool:=findIn K (.ref C) "__setattr__" == some (some (.builtin "object.__setattr__")) && plainOver K C && takerIn K C name == some none && hasDictIn K C
theorem nsSetZ {M:Model} {A:Around} {E:Value->Shared->Prop} {s:Shared} {a:Addr} {o:Obj} {es:Array DictEntry} {ep:Nat} {mp:Str->Option Value} {name:Str} {v:Value} {Q:Unit->Shared->Prop} (ho:s.heap.get? a=some o) (hd:o.data=.dict es ep) (hk:StrKeys es) (hm:∀ x,nsFind es x=mp x)
  (hQ:∀ h' o' es' ep',h'.get? a=some o'->o'.data=.dict es' ep'->StrKeys es'->(∀ x,nsFind es' x=if x=name then some v else mp x)->es'.size<=es.size+(if (mp name).isSome then 0 else 1)->Heap.SameBut a s.heap h'->Q () { s with heap:=h',toks:=s.toks+1 }) :
  wpAny M A (nsSet a name v) Q E s:=by
 intro Γ p _
 simp only [nsSet,strHash,Sem.wp_bind',Sem.wp_cmd_ask,Sem.wp_pure',Sem.wp_cmd_mkText]
 rw [Sem.wp_loadPart_of M Γ _ p { s with toks:=s.toks+1 } (o:=o) _ ho]
 have hany:es.any (·.refKey)=false:=by
  rw [Array.any_eq_false']; intro e he; obtain ⟨n,t,h⟩:=hk e he; simp [DictEntry.refKey,h]
 simp only [hd,aRefKeyMayBeTheName_at,hany,Bool.and_false,Bool.false_eq_true,if_false,Sem.wp_cmd_updatePart]
 refine ⟨by rw [ho]; rfl,?_⟩
 obtain ⟨c,d,dt,sl⟩:=o
 subst hd
 cases hi:es.findIdx? (·.key.isStr name) with
 | some i=>
  refine hQ _ _ _ ep (Heap.get?_update_self _ ho (by simp only [Obj.putName_eq,Obj.putNameByArray,hi]; rfl)) (by simp only [Obj.putName_eq,Obj.putNameByArray,hi]; rfl) (hk.modify _ _) (fun x=>?_) (by simp) (Heap.SameBut.update ..)
  rw [<- hm]; exact findBy_modify (fun n v=>v.isStr n) Value.isStr_inj es name x v i hi
 | none=>
  refine hQ _ _ _ (ep+1) (Heap.get?_update_self _ ho (by simp only [Obj.putName_eq,Obj.putNameByArray,hi]; rfl)) (by simp only [Obj.putName_eq,Obj.putNameByArray,hi]; rfl) (hk.push _ _ _ _) (fun x=>?_) ?_ (Heap.SameBut.update ..)
  ·rw [<- hm]
   exact findBy_push (fun n v=>v.isStr n) es name x _ _ v (fun y=>by
    show (name == y)=decide (y=name)
    by_cases h:y=name
    ·subst h; simp
    ·have:¬ name=y:=fun e=>h e.symm
     simp [h,this]) hi
  ·have:mp name=none:=by
    rw [<- hm name]
    unfold nsFind
    rw [findBy_of_findIdx?,hi]
   rw [this,Array.size_push]
   simp
theorem setv_length (x:Str) (a:AV):∀ l:List (Str × AV),(setv x a l).length=l.length+(if (l.lookup x).isSome then 0 else 1)
 | []=>rfl
 | p :: r=>by
  unfold setv
  rw [List.lookup_cons]
  cases q:p.1 == x with
  | true=>
   have:(x == p.1)=true:=by rw [<- q]; exact BEq.comm
   rw [this]; rfl
  | false=>
   have:(x == p.1)=false:=by rw [<- q]; exact BEq.comm
   rw [this]
   dsimp only
   rw [List.length_cons,List.length_cons,setv_length x a r]
   omega
set_option tactic.hygienic true in
theorem a_set {n j:Nat} {C:Addr} {l:List (Str × AV)} {name:Str} {x:AV} (hn:n < nx) (h1:m n=.inst C j) (h2:m j=.ns l) (hz:l.length < 1000) (hc:setOk K C name=true):SetAttrTr prog w K btab k (.loc n) name x m nx (upd m j (.ns (setv name x l))) nx:=by
 intro W A s tr Q E hA hS _ ⟨vo,vx,hvo,hvx,htr⟩ hq
 subst htr
 cases hvo
 obtain ⟨hj,od,es,ep,mp,I,b1,b2,b3,b4,bz,b5,b6⟩:=inst_at hS hn h1 h2
 obtain ⟨X,_⟩:=hS.facts
 unfold setOk at hc
 rw [Bool.and_eq_true,Bool.and_eq_true,Bool.and_eq_true] at hc
 obtain ⟨⟨⟨c1,c2⟩,c3⟩,c4⟩:=hc
 obtain ⟨cd,hcd,hd'⟩:=any_some (show (clsIn K C).any (·.hasDict)=true from c4)
 refine set_plain X I (beq_iff_eq.mp c1) (osa_open (s:={ s with toks:=s.toks+1 }) X I c2 (beq_iff_eq.mp c3) fun b=>?_)
 have hx:=I.at_
 refine wpAny_bind (wpAny_pure (wpAny_bind (wpAny_bind (wpAny_loadPart (s:={ s with toks:=s.toks+1 }) hx (wpAny_bind (Looks.here (s:={ s with toks:=s.toks+1 }) (looks_clsIn (M:=model prog w) X hcd) ?_))))))
 rw [hd']
 refine wpAny_pure (a:=some (W.ι j)) (wpAny_bind (wpAny_pure (wpAny_bind ?_)))
 refine nsSetZ (s:={ s with toks:=s.toks+1 }) b1 b2 b3 b4 fun h' o' es' ep' d1 d2 d3 d4 d5 d6=>?_
 have hsz:es'.size<=1001:=by
  have:es'.size<=es.size+1:=Nat.le_trans d5 (by split <;> omega)
  omega
 refine wpAny_bind (wpAny_lookBehind d1 (by rw [d2]; exact pastItsLine_dict (by rw [sizeLine_eq]; omega)) ?_)
 refine wpAny_pure ?_
 refine hq W h' _ () (Nat.le_refl _) (.refl _ _) (hS.put (mo:=.ns (setv name x l)) hj (by rw [h2]; exact fun z=>by cases z) d6.extBut ⟨_,⟨o',es',ep',d1,d2,d3,d4,?_⟩,fun y hy=>?_,fun y av hy=>?_⟩) trivial
 ·rw [setv_length]
  refine Nat.le_trans d5 (Nat.add_le_add bz ?_)
  cases q:l.lookup name with
  | none=>rw [b5 _ q]; exact Nat.le_refl _
  | some av=>
   obtain ⟨v,e1,_⟩:=b6 _ _ q
   rw [e1]; exact Nat.le_refl _
 ·rw [setv_lookup] at hy
  split at hy
  ·cases hy
  ·rename_i hne
   rw [if_neg hne]; exact b5 y hy
 ·rw [setv_lookup] at hy
  split at hy
  ·rename_i he
   cases hy
   rw [if_pos he]
   exact ⟨vx,rfl,hvx⟩
  ·rename_i hne
   rw [if_neg hne]
   exact b6 y av hy
end
end
section
section
variable {prog:Program} {w:World} {K:Frag} {btab:List (Str × Value)} {k:Nat} {m:Nat->MO} {nx:Nat}
theorem tc_weight (C:Addr) (rest:List Value) (kw:List (Str × Value)):(Code.builtin "type.__call__" ⟨.ref C :: rest,kw⟩).weight<=4 /\ (Code.builtin "type.__call__" ⟨.ref C :: rest,kw⟩).cUnits<=13:=by
 have h1:(Code.builtin "type.__call__" ⟨.ref C :: rest,kw⟩).frames=0:=by rfl
 have h2:(Code.builtin "type.__call__" ⟨.ref C :: rest,kw⟩).isCaller=false:=by rfl
 unfold Code.weight Code.cUnits
 rw [h1,h2]
 constructor
 ·split <;> split <;> simp
 ·show 1+3 * (Code.builtin "type.__call__" ⟨.ref C :: rest,kw⟩).frames<=13
  rw [h1]; decide
theorem AOK.tc {A:Around} {C:Addr} {rest:List Value} {kw:List (Str × Value)} (h:AOK (k+1) A):AOK k (A.under (.builtin "type.__call__" ⟨.ref C :: rest,kw⟩)):=by
 obtain ⟨h1,h2,h3⟩:=h
 obtain ⟨w1,w2⟩:=tc_weight C rest kw
 refine ⟨?_,?_,h3⟩
 ·show A.depth+(Code.builtin "type.__call__" ⟨.ref C :: rest,kw⟩).weight+10 * k+20 < _
  omega
 ·show A.units+(Code.builtin "type.__call__" ⟨.ref C :: rest,kw⟩).cUnits+60 * k+400 < _
  omega
theorem code_make {C fI:Addr} {args:List AV} {st':St} {m':Nat->MO} {nx':Nat} (hm:makesIn K C=true) (hi:findIn K (.ref C) "__init__" = some (some (.ref fI))) (hf:typeIn K (.ref fI)=some (.type "function"))
  (init:CodeTr prog w K btab k (.k (.ref fI)) (.loc (nx+1) :: args) [] (upd (upd m nx (.ns [])) (nx+1) (.inst C nx)) (nx+1+1) (.d .none) m' nx') :
  CodeTr prog w K btab (k+1) (.k (.ref C)) args [] m nx (.loc (nx+1)) m' nx':=by
 intro W A s R vf vs kvs hA hS hvf hvs hkvs hq
 cases hvf
 cases hkvs
 obtain ⟨X,hlim,_⟩:=hS.facts
 obtain ⟨hh,g,d,t,os⟩:=s
 have S0:SInv prog w K btab W m nx hh:=hS
 have hfree:hh.get? hh.objs.size=none:=get?_size hh
 -- the namespace,then the instance
 obtain ⟨S1,l1,c1⟩:=S0.new (o:=emptyDict) (mo:=.ns []) ⟨fun _=>none,⟨_,#[],0,Heap.get?_push_size _ rfl,rfl,fun e he=>(by simp at he),fun x=>rfl,Nat.zero_le _⟩,fun _ _=>rfl,fun x av h=>(by cases h)⟩
 have e1:(W.lay nx hh.objs.size).ι nx=hh.objs.size:=upd_at _ _ _
 obtain ⟨S2,l2,c2⟩:=S1.new (o:=instObj C hh.objs.size) (mo:=.inst C nx) ⟨by
  rw [Heap.get?_push_size _ rfl]
  show some (instObj C hh.objs.size)=some (instObj C (upd (W.lay nx hh.objs.size).ι (nx+1) _ nx))
  rw [upd_ne _ _ _ (Nat.ne_of_lt (Nat.lt_succ_self _)),e1],Nat.lt_succ_of_lt (Nat.lt_succ_self _)⟩
 have l02:Wd.le nx W ((W.lay nx hh.objs.size).lay (nx+1) (hh.push emptyDict).objs.size):=l1.trans (Nat.le_succ _) l2
 have hself:VA ((W.lay nx hh.objs.size).lay (nx+1) (hh.push emptyDict).objs.size) (nx+1+1) (.loc (nx+1)) (.ref (hh.objs.size+1)):=by
  have z:=VA.loc (W:=(W.lay nx hh.objs.size).lay (nx+1) (hh.push emptyDict).objs.size) (nx:=nx+1+1) (n:=nx+1) (Nat.lt_succ_self _)
  have e:((W.lay nx hh.objs.size).lay (nx+1) (hh.push emptyDict).objs.size).ι (nx+1)=hh.objs.size+1:=by
   show upd _ (nx+1) _ (nx+1)=_
   rw [upd_at,Heap.size_push]
  rw [e] at z
  exact z
 refine make_core (makes_of X hm) (looks_findIn X hi) (fun self=>bind_fn X self hf) (.inl rfl) ?_
 refine init _ (A.under _) ⟨(hh.push emptyDict).push (instObj C hh.objs.size),g,d,t,os⟩ _ (.ref fI) (.ref (hh.objs.size+1) :: vs) [] hA.tc S2 (.k _) (.cons hself (hvs.mono (Nat.le_trans (Nat.le_succ _) (Nat.le_succ _)) l02)) .nil fun W' h' tk' v n l S' hv=>?_
 have hvn:=va_none hv
 subst hvn
 refine ⟨rfl,?_⟩
 exact hq W' h' tk' _ (Nat.le_trans (Nat.le_trans (Nat.le_succ _) (Nat.le_succ _)) n) (l02.trans (Nat.le_trans (Nat.le_succ _) (Nat.le_succ _)) l) S' (hself.mono n l)
end
end
section
section
variable {prog:Program} {w:World} {K:Frag} {btab:List (Str × Value)} {k:Nat} {m:Nat->MO} {nx:Nat}
noncomputable def boundOk (K:Frag) (C:Addr) (name:Str) (f:Addr):Bool:=plainGet K C name && hasDictIn K C && findIn K (.ref C) name == some (some (.ref f)) && isFn K (.ref f) && specialIn K (.ref f) "__get__" == some (some (.builtin "function.__get__")) && takesIn K (.ref f) == some false && !copiedNames.contains name
theorem a_bound {n j:Nat} {C f:Addr} {l:List (Str × AV)} {name:Str} (hn:n < nx) (h1:m n=.inst C j) (h2:m j=.ns l) (hl:l.lookup name=none) (hc:boundOk K C name f=true):AttrTr prog w K btab k (.loc n) name m nx (.bm f n) m nx:=by
 refine act_new fun W A s tr Q E hA hS ⟨vo,b,hv,htr⟩ hq=>?_
 subst htr
 cases hv
 obtain ⟨_,od,es,ep,mp,I,b1,b2,b3,b4,bz,b5,b6⟩:=inst_at hS hn h1 h2
 unfold boundOk at hc
 simp only [Bool.and_eq_true,Bool.not_eq_true',beq_iff_eq] at hc
 obtain ⟨⟨⟨⟨⟨⟨c1,c2⟩,c3⟩,c4⟩,c5⟩,c6⟩,c7⟩:=hc
 have X:=hS.facts.1
 refine get_bind X I (plainGet_of c1).1 (findObj_fn c2 c3 c5 c6 c7 (by rw [lookIn_ns b2 b3 b4,b5 _ hl])) (plainGet_of c1).2
  (wpAny_call (fn_get (s:={ s with toks:=s.toks+1 }) X (beq_iff_eq.mp c4) (handed_on rfl ?_)))
 obtain ⟨S',l',c'⟩:=hS.alloc (o:=methodObj (.ref f) (.ref (W.ι n))) rfl
 refine hq _ _ _ _ S' l' (Nat.le_refl _) (.bm hn (freeze_at _ _ _))
theorem code_bm {f:Addr} {n:Nat} {args:List AV} {r:AV} {m':Nat->MO} {nx':Nat} (h:CodeTr prog w K btab k (.k (.ref f)) (.loc n :: args) [] m nx r m' nx'):CodeTr prog w K btab k (.bm f n) args [] m nx r m' nx':=by
 intro W A s R vf vs kvs hA hS hvf hvs hkvs hq
 cases hvf with
 | bm hn ho=>
  cases hkvs
  exact method_call (hS.base _ _ ho) (h W A s R (.ref f) (.ref (W.ι n) :: vs) [] hA hS (.k _) (.cons (.loc hn) hvs) .nil hq)
theorem callBorrowed_eq (f:Value) (pos:List Value):callBorrowed f pos=(call f pos).keep [borrowed]:=by
 unfold callBorrowed call runValue run
 show Sem.call _ _ _ _ _=Sem.call _ _ _ _ _
 congr 1
 funext r
 rcases r with e | (v | _ | _ | _) <;> rfl
theorem wpAny_callBorrowed {M:Model} {A:Around} {E:Value->Shared->Prop} {s:Shared} {f:Value} {pos:List Value} {Q:Value->Shared->Prop} (h:wpAny M A (call f pos) Q E s):wpAny M A (callBorrowed f pos) Q E s:=by
 rw [callBorrowed_eq]
 exact Calls.wpAny_keep h
theorem slot_ci_next:Slot "callable_iterator" "__next__" "callable_iterator.__next__" :=
 .of (owner := "callable_iterator") (n := "__next__") (by rw [typeLookup_type,builtinLookup_eq_fast]; kernel_rfl) (by decide +kernel) (by decide +kernel) (by decide +kernel)
  (by first | exact .inl (by decide +kernel) | exact .inr (by decide +kernel)) (by rw [isSubtype_type]; kernel_rfl)
theorem entry_ci_next:entryFor table "callable_iterator.__next__" = some Builtin.«callable_iterator.__next__»:=entryFor_of_tree (by kernel_rfl)
theorem args_ci_next (a:Value):argsOk "callable_iterator.__next__" ⟨[a],[]⟩:=by unfold argsOk; kernel_rfl
theorem method_call_look:typeLookup (.type "method") "__call__" = pure (some (.builtin "method.__call__")):=by rw [typeLookup_type,builtinLookup_eq_fast]; kernel_rfl
theorem c_iter {f:Addr} {n:Nat} {stop:Str}:CallTr prog w K btab k (.k (.builtin "iter")) [.bm f n,.d (.str stop)] [] m nx (.loc nx) (upd m nx (.citer (.bm f n) stop)) (nx+1):=by
 refine call2 (act_new fun W A s tr Q E hA hS ⟨u,v,hu,hv,htr⟩ hq=>?_)
 subst htr
 obtain ⟨t,rfl⟩:=va_str hv
 have hu':=hu
 cases hu with
 | @bm _ _ a hn ho=>
  refine call_function_entry (by decide +kernel) (by decide +kernel) kdk_entry_iter (by unfold argsOk; kernel_rfl) ?_
  unfold Builtin.«iter»
  refine wpAny_bind (m:=someArgs "iter" 1 2 _) (wpAny_of_eq (a:=[Value.ref a,.str stop t]) (by first | rfl | kernel_rfl) ?_)
  show wpAny _ _ (specialOf (.ref a) "__call__" >>= _) _ _ _
  refine wpAny_bind (wpAny_specialOf (T := "method") ⟨_,hS.base _ _ ho,rfl⟩ method_call_look ?_)
  simp only [Option.isNone_some,Bool.false_eq_true,if_false]
  refine wpAny_bind (wpAny_rule (wpAny_bind ?_))
  unfold newFields
  refine wpAny_newObj_type ?_ (by size_fits)
  refine wpAny_pure ⟨_,rfl,?_⟩
  obtain ⟨S',l',c'⟩:=hS.new (o:={ cls:=.type "callable_iterator",data:=.fields #[.ref a,.str stop t,.bool false] }) (mo:=.citer (.bm f n) stop)
   ⟨_,.ref a,t,Heap.get?_push_size _ rfl,rfl,rfl,hu'.mono (Nat.le_succ _) lay_le⟩
  refine hq _ _ _ _ S' l' (Nat.le_succ _) ?_
  have e:(W.lay nx s.heap.objs.size).ι nx=s.heap.objs.size:=upd_at _ _ _
  have z:=VA.loc (W:=W.lay nx s.heap.objs.size) (nx:=nx+1) (n:=nx) (Nat.lt_succ_self _)
  rw [e] at z
  exact z
theorem borrows {A:Around} {E:Value->Shared->Prop} {s:Shared} {Q:Bool->Shared->Prop} {a f:Addr} {self:Value} {of:Obj} {fd:FuncData} (ho:s.heap.get? a=some (methodObj (.ref f) self)) (hf:s.heap.get? f=some of) (hd:of.data=.func fd) (h:Q true s):wpAny (model prog w) A (borrowsExactly (.ref a)) Q E s:=by
 unfold borrowsExactly
 refine wpAny_bind (wpAny_load ho ?_)
 dsimp only
 rw [if_pos (by rfl)]
 refine wpAny_bind (wpAny_load hf ?_)
 rw [hd]
 exact wpAny_pure h
theorem AOK.in1 {A:Around} (h:AOK (k+1) A):AOK k A.in1:=by
 obtain ⟨h1,h2,h3⟩:=h
 refine ⟨?_,?_,h3⟩
 ·show A.depth+10 * k+20 < _
  omega
 ·show A.units+1+60 * k+400 < _
  omega
theorem fnIn_at {f:Addr} {h:Heap} (hf:fnIn K f=true) (X:K.In h):(Ex2 fun of fd=>h.get? f=some of /\ of.data=.func fd):=by
 revert hf
 unfold fnIn
 cases q:K.lookup f with
 | none=>exact fun h=>ft h
 | some o=>
  obtain ⟨cl,d1,dt,d2⟩:=o
  induction dt using Data.casesOn with
  | func fd=>exact fun _=>⟨_,fd,X _ _ q,rfl⟩
  | _=>exact fun h=>ft h
set_option tactic.hygienic true in
theorem ci_item {c n:Nat} {f:Addr} {stop r:Str} {m':Nat->MO} {nx':Nat} (hc:c < nx) (hm:m c=.citer (.bm f n) stop) (hf:fnIn K f=true) (call:CodeTr prog w K btab k (.k (.ref f)) [.loc n] [] m nx (.d (.str r)) m' nx') (hm':m' c=.citer (.bm f n) stop) (hr:(stop == r)=false)
  {W:Wd} {A:Around} {E:Value->Shared->Prop} {s:Shared} {Q:Option Value->Shared->Prop} (hA:AOK (k+1) A) (hS:SInv prog w K btab W m nx s.heap)
  (hq:∀ W' h' tk' v,nx<=nx'->Wd.le nx W W'->SInv prog w K btab W' m' nx' h'->VA W' nx' (.d (.str r)) v->Q (some v) { s with heap:=h',toks:=tk' }):wpAny (model prog w) A (pyNext (.ref (W.ι c))) Q E s:=by
 have o1:=hS.obj c hc
 rw [hm] at o1
 obtain ⟨o,vf,t,ho,hcl,hd,hvf⟩:=o1
 have hT:s.TypeIs (.ref (W.ι c)) "callable_iterator" := ⟨o,ho,hcl⟩
 cases hvf with
 | @bm _ _ a hn hob=>
  obtain ⟨of,fd,hof,hfd⟩:=fnIn_at hf hS.facts.1
  unfold pyNext
  refine wpAny_bind (wpAny_attempt (wpAny_callSpecial?_slot (name:=Str.ofString "__next__") hT slot_ci_next (wpAny_call_entry slot_ci_next hT entry_ci_next ?_ (args_ci_next _))))
  unfold Builtin.«callable_iterator.__next__»
  refine wpAny_bind (m:=slotArgs "__next__" 0 _) (wpAny_of_eq (a:=(Value.ref (W.ι c),[])) (by first | rfl | kernel_rfl) ?_)
  dsimp only
  refine wpAny_bind (wpAny_field ho hd (x:=.bool false) rfl ?_)
  rw [if_neg (by decide)]
  refine wpAny_bind (wpAny_field ho hd (x:=.ref a) rfl ?_)
  refine wpAny_bind (wpAny_attempt ?_)
  unfold callOutOfASlot
  refine wpAny_bind (borrows (hS.base _ _ hob) hof hfd ?_)
  rw [if_pos rfl]
  refine wpAny_callBorrowed (wpAny_call (code_bm call W _ s _ (.ref a) [] [] ?_ hS (.bm hn hob) .nil .nil fun W' h' tk' v n1 l S' hv=>?_))
  ·exact hA.in1
  ·have o2:=S'.obj c (Nat.lt_of_lt_of_le hc n1)
   rw [hm'] at o2
   obtain ⟨o',vf',t',ho',hcl',hd',hvf'⟩:=o2
   rw [l.ι c hc] at ho'
   obtain ⟨u,rfl⟩:=va_str hv
   dsimp only
   refine wpAny_bind (wpAny_field (s:={ s with heap:=h',toks:=tk' }) ho' hd' (x:=.bool false) rfl ?_)
   rw [if_neg (by decide)]
   refine wpAny_bind (wpAny_field (s:={ s with heap:=h',toks:=tk' }) ho' hd' (x:=.str stop t') rfl ?_)
   refine wpAny_bind (wpAny_holding (SeqAt.EqAt.str_str _ _ _ _ prog w _ _ ?_))
   rw [hr]
   refine wpAny_bind (wpAny_pure (wpAny_pure ⟨_,rfl,wpAny_pure (hq W' h' tk' _ n1 l S' (.d (.str _ _)))⟩))
end
end
section
section
variable {prog:Program} {w:World} {K:Frag} {btab:List (Str × Value)} {k:Nat} {m:Nat->MO} {nx:Nat}
theorem stop_raised {A:Around} {E:Value->Shared->Prop} {s:Shared} {α:Type} (hh:A.handled=none) (h:∀ h' e,Keeps s.heap h'->(∃ o,h'.get? e=some o /\ o.cls=.type "StopIteration")->E (.ref e) { s with heap:=h' }) {Q:α->Shared->Prop} :
  wpAny (model prog w) A (Builtin.SmallTypes.stopIteration:Sem α) Q E s:=by
 unfold Builtin.SmallTypes.stopIteration
 refine wpAny_bind ?_
 unfold newExc newTuple
 refine wpAny_bind (wpAny_newObj_type ?_ (by size_fits))
 refine wpAny_bind (m:=firstArgMember _ _) (wpAny_of_eq (a:=Value.none) (by first | rfl | (simp only [firstArgMember]; rfl)) ?_)
 refine wpAny_newObj_type ?_ (by size_fits)
 show wpAny _ A (handled >>= _) _ _ _
 refine wpAny_bind (wpAny_handled ?_)
 rw [hh]
 refine wpAny_bind (wpAny_pure (wpAny_throw ?_))
 exact h _ _ ((Keeps.push _ _).trans (Keeps.push _ _)) ⟨_,Heap.get?_push_size _ rfl,rfl⟩
theorem set3 {A:Around} {E:Value->Shared->Prop} {s:Shared} {it:Addr} {o:Obj} {a b c:Value} {Q:Unit->Shared->Prop} (ho:s.heap.get? it=some o) (hd:o.data=.fields #[a,b,c])
  (h:∀ h' o',h'.get? it=some o'->o'.cls=o.cls->o'.data=.fields #[.none,.none,.bool true]->Heap.SameBut it s.heap h'->Q () { s with heap:=h' }) :
  wpAny (model prog w) A (do setField (.ref it) 0 .none; setField (.ref it) 1 .none; setField (.ref it) 2 (.bool true)) Q E s:=by
 refine wpAny_bind (wpAny_setField ho hd (by simp) ?_)
 have d1:=Obj.data_mapFields hd (fun vs=>vs.setIfInBounds 0 Value.none)
 have g1:=Heap.get?_update_self (h:=s.heap) (Obj.mapFields fun vs=>vs.setIfInBounds 0 Value.none) ho (Obj.isFreed_of_fields d1)
 refine wpAny_bind (wpAny_setField g1 d1 (by simp) ?_)
 have d2:=Obj.data_mapFields d1 (fun vs=>vs.setIfInBounds 1 Value.none)
 have g2:=Heap.get?_update_self (Obj.mapFields fun vs=>vs.setIfInBounds 1 Value.none) g1 (Obj.isFreed_of_fields d2)
 refine wpAny_setField g2 d2 (by simp) ?_
 have d3:=Obj.data_mapFields d2 (fun vs=>vs.setIfInBounds 2 (Value.bool true))
 have g3:=Heap.get?_update_self (Obj.mapFields fun vs=>vs.setIfInBounds 2 (Value.bool true)) g2 (Obj.isFreed_of_fields d3)
 refine h _ _ g3 ?_ ?_ (((Heap.SameBut.update ..).trans (Heap.SameBut.update ..)).trans (Heap.SameBut.update ..))
 ·rw [Obj.cls_mapFields,Obj.cls_mapFields,Obj.cls_mapFields]
 ·rw [d3]; simp
set_option tactic.hygienic true in
theorem ci_end {c n:Nat} {f:Addr} {stop:Str} {m':Nat->MO} {nx':Nat} (hc:c < nx) (hm:m c=.citer (.bm f n) stop) (hf:fnIn K f=true) (call:CodeTr prog w K btab k (.k (.ref f)) [.loc n] [] m nx (.d (.str stop)) m' nx') (hm':m' c=.citer (.bm f n) stop)
  {W:Wd} {A:Around} {E:Value->Shared->Prop} {s:Shared} {Q:Option Value->Shared->Prop} (hA:AOK (k+1) A) (hS:SInv prog w K btab W m nx s.heap)
  (hq:∀ W' h' tk',nx<=nx'->Wd.le nx W W'->SInv prog w K btab W' (upd m' c .cdone) nx' h'->Q none { s with heap:=h',toks:=tk' }):wpAny (model prog w) A (pyNext (.ref (W.ι c))) Q E s:=by
 have o1:=hS.obj c hc
 rw [hm] at o1
 obtain ⟨o,vf,t,ho,hcl,hd,hvf⟩:=o1
 have hT:s.TypeIs (.ref (W.ι c)) "callable_iterator" := ⟨o,ho,hcl⟩
 have fnOf:=fun h:Heap=>fnIn_at (h:=h) hf
 cases hvf with
 | @bm _ _ a hn hob=>
  obtain ⟨of,fd,hof,hfd⟩:=fnOf _ hS.facts.1
  unfold pyNext
  refine wpAny_bind (wpAny_attempt (wpAny_callSpecial?_slot (name:=Str.ofString "__next__") hT slot_ci_next (wpAny_call_entry slot_ci_next hT entry_ci_next ?_ (args_ci_next _))))
  unfold Builtin.«callable_iterator.__next__»
  refine wpAny_bind (m:=slotArgs "__next__" 0 _) (wpAny_of_eq (a:=(Value.ref (W.ι c),[])) (by first | rfl | kernel_rfl) ?_)
  dsimp only
  refine wpAny_bind (wpAny_field ho hd (x:=.bool false) rfl ?_)
  rw [if_neg (by decide)]
  refine wpAny_bind (wpAny_field ho hd (x:=.ref a) rfl ?_)
  refine wpAny_bind (wpAny_attempt ?_)
  unfold callOutOfASlot
  refine wpAny_bind (borrows (hS.base _ _ hob) hof hfd ?_)
  rw [if_pos rfl]
  refine wpAny_callBorrowed (wpAny_call (code_bm call W _ s _ (.ref a) [] [] ?_ hS (.bm hn hob) .nil .nil fun W' h' tk' v n1 l S' hv=>?_))
  ·exact hA.in1
  ·have o2:=S'.obj c (Nat.lt_of_lt_of_le hc n1)
   rw [hm'] at o2
   obtain ⟨o',vf',t',ho',hcl',hd',hvf'⟩:=o2
   have ho'':=ho'
   rw [l.ι c hc] at ho'
   obtain ⟨u,rfl⟩:=va_str hv
   dsimp only
   refine wpAny_bind (wpAny_field (s:={ s with heap:=h',toks:=tk' }) ho' hd' (x:=.bool false) rfl ?_)
   rw [if_neg (by decide)]
   refine wpAny_bind (wpAny_field (s:={ s with heap:=h',toks:=tk' }) ho' hd' (x:=.str stop t') rfl ?_)
   refine wpAny_bind (wpAny_holding (SeqAt.EqAt.str_str _ _ _ _ prog w _ _ ?_))
   rw [beq_self_eq_true]
   simp only [Bool.not_true,Bool.false_eq_true,if_false]
   refine wpAny_bind (wpAny_rule (wpAny_bind ?_))
   cases hvf' with
   | @bm _ _ a' hn' hob'=>
    obtain ⟨of',fd',hof',hfd'⟩:=fnOf _ S'.facts.1
    show wpAny (model prog w) A.in1 (do
     slotLetsGo "callable_iterator.__next__" (<- field (.ref (W.ι c)) 0) _
     setField (.ref (W.ι c)) 0 .none; setField (.ref (W.ι c)) 1 .none; setField (.ref (W.ι c)) 2 (.bool true)) _ _ _
    refine wpAny_bind (wpAny_field (s:={ s with heap:=h',toks:=tk' }) ho' hd' (x:=.ref a') rfl ?_)
    refine wpAny_bind ?_
    unfold slotLetsGo
    refine wpAny_bind (borrows (s:={ s with heap:=h',toks:=tk' }) (S'.base _ _ hob') hof' hfd' ?_)
    rw [if_pos rfl]
    refine wpAny_pure ?_
    refine set3 (s:={ s with heap:=h',toks:=tk' }) ho' hd' fun h2 o2 g1 g2 g3 hsb=>?_
    refine stop_raised (A:=A.in1) (s:={ s with heap:=h2,toks:=tk' }) hA.handled fun h3 e hk ⟨oe,he1,he2⟩=>?_
    refine wpAny_bind (wpAny_isInstance (T := "StopIteration") (b:=true) ⟨_,he1,he2⟩ isSubtype_stop ?_)
    have hj:m' c ≠ .junk:=by rw [hm']; exact fun z=>by cases z
    have S2:=S'.put (mo:=.cdone) (Nat.lt_of_lt_of_le hc n1) hj (by rw [l.ι c hc]; exact hsb.extBut) ⟨o2,by rw [l.ι c hc]; exact g1,g2.trans hcl',g3⟩
    exact wpAny_pure (hq W' h3 tk' n1 l (S2.keeps hk))
end
end
section
section
variable {prog:Program} {w:World} {K:Frag} {btab:List (Str × Value)} {k:Nat} {m:Nat->MO} {nx:Nat} {φ:Fm}
theorem ci_ended {c:Nat} (hc:c < nx) (hm:m c=.cdone) {W:Wd} {A:Around} {E:Value->Shared->Prop} {s:Shared} {Q:Option Value->Shared->Prop} (hh:A.handled=none) (hS:SInv prog w K btab W m nx s.heap)
  (hq:∀ h',Keeps s.heap h'->Q none { s with heap:=h' }):wpAny (model prog w) A (pyNext (.ref (W.ι c))) Q E s:=by
 have o1:=hS.obj c hc
 rw [hm] at o1
 obtain ⟨o,ho,hcl,hd⟩:=o1
 have hT:s.TypeIs (.ref (W.ι c)) "callable_iterator" := ⟨o,ho,hcl⟩
 unfold pyNext
 refine wpAny_bind (wpAny_attempt (wpAny_callSpecial?_slot (name:=Str.ofString "__next__") hT slot_ci_next (wpAny_call_entry slot_ci_next hT entry_ci_next ?_ (args_ci_next _))))
 unfold Builtin.«callable_iterator.__next__»
 refine wpAny_bind (m:=slotArgs "__next__" 0 _) (wpAny_of_eq (a:=(Value.ref (W.ι c),[])) (by first | rfl | kernel_rfl) ?_)
 dsimp only
 refine wpAny_bind (wpAny_field ho hd (x:=.bool true) rfl ?_)
 rw [if_pos (by decide)]
 refine wpAny_bind (wpAny_rule ?_)
 refine wpAny_bind (stop_raised (A:=A.in1) (s:=s) hh fun h3 e hk ⟨oe,he1,he2⟩=>?_)
 refine wpAny_bind (wpAny_isInstance (T := "StopIteration") (b:=true) ⟨_,he1,he2⟩ isSubtype_stop ?_)
 exact wpAny_pure (hq h3 hk)
theorem ci_iter {c:Nat} {a:AV} {stop:Str} (hc:c < nx) (hm:m c=.citer a stop \/ m c=.cdone) {W:Wd} {A:Around} {E:Value->Shared->Prop} {s:Shared} {Q:Value->Shared->Prop} (hS:SInv prog w K btab W m nx s.heap)
  (hq:Q (.ref (W.ι c)) s):wpAny (model prog w) A (pyIter (.ref (W.ι c))) Q E s:=by
 have hT:s.TypeIs (.ref (W.ι c)) "callable_iterator" := by
  have o1:=hS.obj c hc
  rcases hm with hm | hm
  ·rw [hm] at o1; obtain ⟨o,vf,t,ho,hcl,_⟩:=o1; exact ⟨o,ho,hcl⟩
  ·rw [hm] at o1; obtain ⟨o,ho,hcl,_⟩:=o1; exact ⟨o,ho,hcl⟩
 have slot:Slot "callable_iterator" "__iter__" "callable_iterator.__iter__" := .of (owner := "callable_iterator") (n := "__iter__") (by rw [typeLookup_type,builtinLookup_eq_fast]; kernel_rfl) (by decide +kernel) (by decide +kernel) (by decide +kernel)
  (by first | exact .inl (by decide +kernel) | exact .inr (by decide +kernel)) (by rw [isSubtype_type]; kernel_rfl)
 have entry:entryFor table "callable_iterator.__iter__" = some Builtin.«dict_keyiterator.__iter__»:=
  entryFor_alias (id' := "dict_keyiterator.__iter__") (by kernel_rfl) (by first | rfl | decide +kernel | (unfold String.splitOn; simp +decide [String.splitOnAux])) (by decide +kernel) (by kernel_rfl)
 refine wpAny_pyIter_slot hT slot (wpAny_call_entry slot hT entry ?_ (by unfold argsOk; kernel_rfl))
 show wpAny _ _ (ret (.ref (W.ι c))) _ _ s
 exact wpAny_pure ⟨_,rfl, "callable_iterator",_,hT,slot_ci_next.lookup,hq⟩
class inductive ForCi (prog:Program) (w:World) (K:Frag) (btab:List (Str × Value)) (k:Nat) (φ:Fm) (t:PySem.Expr) (b:List Stmt) (c n:Nat) (f:Addr) (stop:Str):Nat->St->Fl->St->Prop
 | ended {N:Nat} {st:St} (hc:c < st.nx) (hm:st.m c=.cdone):ForCi prog w K btab k φ t b c n f stop N st .next st
 | done {N:Nat} {st:St} {m':Nat->MO} {nx':Nat} (hc:c < st.nx) (hm:st.m c=.citer (.bm f n) stop) (call:CodeTr prog w K btab k (.k (.ref f)) [.loc n] [] st.m st.nx (.d (.str stop)) m' nx') (hm':m' c=.citer (.bm f n) stop) :
   ForCi prog w K btab k φ t b c n f stop N st .next { st with m:=upd m' c .cdone,nx:=nx' }
 | step {N:Nat} {st st1 st2 st3:St} {m':Nat->MO} {nx':Nat} {r:Str} {g fl:Fl} (hc:c < st.nx) (hm:st.m c=.citer (.bm f n) stop) (call:CodeTr prog w K btab k (.k (.ref f)) [.loc n] [] st.m st.nx (.d (.str r)) m' nx') (hm':m' c=.citer (.bm f n) stop) (hr:(stop == r)=false)
   (ht:gTgt φ t (.str r) { st with m:=m',nx:=nx' } []=some ((),st1,[],[])) (hb:BTr prog w K btab (k+1) φ b st1 g st2) (hg:g=.next \/ g=.cont) (rest:ForCi prog w K btab k φ t b c n f stop N st2 fl st3):ForCi prog w K btab k φ t b c n f stop (N+1) st fl st3
 | stop {N:Nat} {st st1 st2:St} {m':Nat->MO} {nx':Nat} {r:Str} {a:AV} (hc:c < st.nx) (hm:st.m c=.citer (.bm f n) stop) (call:CodeTr prog w K btab k (.k (.ref f)) [.loc n] [] st.m st.nx (.d (.str r)) m' nx') (hm':m' c=.citer (.bm f n) stop) (hr:(stop == r)=false)
   (ht:gTgt φ t (.str r) { st with m:=m',nx:=nx' } []=some ((),st1,[],[])) (hb:BTr prog w K btab (k+1) φ b st1 (.ret a) st2):ForCi prog w K btab k φ t b c n f stop N st (.ret a) st2
noncomputable def isNm:PySem.Expr->Bool
 | .Name ..=>true
 | _=>false
theorem isNm_go {t:PySem.Expr}:isNm t=true->∀ it v:Value,letOwnedTupleGo t it v=pure ():=by
 induction t using PySem.Expr.casesOn <;> first | exact fun _ _ _=>rfl | exact fun h=>Internal.ft h
theorem for_ci {t:PySem.Expr} {b:List Stmt} {c n:Nat} {f:Addr} {stop:Str} {N:Nat} {fl:Fl} {st0 st':St} {W0:Wd} {A:Around} {env:Env} {s0:Shared} {R:Result->Shared->Prop} (hnm:isNm t=true) (hf:fnIn K f=true)
  (hA:AOK (k+1) A) (S0:SInv prog w K btab W0 st0.m st0.nx s0.heap) (F0:FInv W0 φ env st0 s0.heap) (hc0:c < st0.nx) (hT:ForCi prog w K btab k φ t b c n f stop N st0 fl st')
  (hR:∀ W' h' tk' g,st0.nx<=st'.nx->Wd.le st0.nx W0 W'->SInv prog w K btab W' st'.m st'.nx h'->FInv W' φ env st' h'->FlR W' st'.nx fl g->R (.ok g) { s0 with heap:=h',toks:=tk' }) :
  codeAny (model prog w) A (.forLoop t (.ref (W0.ι c)) b [] env) R s0:=by
 have hgo:=isNm_go hnm (.ref (W0.ι c))
 refine codeAny_forLoop (fun N s=>(Ex4 fun (st:St) (W:Wd) (h:Heap) (tk:Nat)=>A6 (s = { s0 with heap:=h,toks:=tk }) (ForCi prog w K btab k φ t b c n f stop N st fl st') (SInv prog w K btab W st.m st.nx h) (FInv W φ env st h) (st0.nx<=st.nx) (Wd.le st0.nx W0 W))) ?_ N
  ⟨st0,W0,s0.heap,s0.toks,rfl,hT,S0,F0,Nat.le_refl _,.refl _ _⟩ hgo
 clear hT S0 F0
 rintro N s ⟨st,W,h,tk,rfl,hT,S,F,hn,hl⟩
 have eι:W0.ι c=(W.shut st.m st.nx h).ι c:=(hl.ι c hc0).symm
 rw [eι]
 -- a turn's item,the frame kept
 have turn:∀ {m':Nat->MO} {nx':Nat} {r:Str} {st1 st2:St} {g:Fl} {Q:Flow->Shared->Prop} {E:Value->Shared->Prop} (v:Value) (W':Wd) (h':Heap) (tk':Nat),st.nx<=nx'->Wd.le st.nx (W.shut st.m st.nx h) W'->SInv prog w K btab W' m' nx' h'->VA W' nx' (.d (.str r)) v ->
   gTgt φ t (.str r) { st with m:=m',nx:=nx' } []=some ((),st1,[],[])->BTr prog w K btab (k+1) φ b st1 g st2 ->
   (∀ W2 h2 tk2 fl',st.nx<=st2.nx->Wd.le st.nx W W2->SInv prog w K btab W2 st2.m st2.nx h2->FInv W2 φ env st2 h2->FlR W2 st2.nx g fl'->Q fl' { s0 with heap:=h2,toks:=tk2 }) ->
   wpAny (model prog w) A (assign t env v) (fun _ s₂=>wpAny (model prog w) A (execs b env) Q E s₂) E { s0 with heap:=h',toks:=tk' }:=by
  intro m' nx' r st1 st2 g Q E v W' h' tk' n1 l1 S1 hv ht hb hq
  obtain ⟨S2,l2,c2⟩:=SInv.unshut l1 S1
  have F2:=F.carry n1 l2 c2
  have T:=snd_tgt (prog:=prog) (w:=w) (K:=K) (btab:=btab) (k:=k+1) (φ:=φ) (t:=t) (d:=.str r) (v:=v) (C:=fun W nx=>VA W nx (.d (.str r)) v) (Mono.va _ _) (fun W nx c=>c) _ _ _ _ _ _ ht (by simp)
  refine T { W' with R:=W.R } A env { s0 with heap:=h',toks:=tk' } _ E hA S2 F2 (hv.R) fun W3 h3 tk3 _ n3 l3 S3 F3 _=>?_
  refine hb W3 A env _ _ _ hA S3 F3 trivial fun W4 h4 tk4 fl' n4 l4 S4 F4 r4=>?_
  exact hq W4 h4 tk4 fl' (Nat.le_trans n1 (Nat.le_trans n3 n4)) (l2.trans n1 (l3.trans n3 l4)) S4 F4 r4
 induction hT using ForCi.casesOn with
 | ended hc hm=>
  refine ci_ended (s:={ s0 with heap:=h,toks:=tk }) hc hm hA.handled S.shut fun h' hk=>?_
  exact wpAny_pure (hR W h' tk .next hn hl (S.keeps hk) (F.carry (Nat.le_refl _) (.refl _ _) (Carry.keeps hk)) trivial)
 | done hc hm call hm'=>
  refine ci_end (s:={ s0 with heap:=h,toks:=tk }) hc hm hf call hm' hA S.shut fun W' h' tk' n1 l1 S1=>?_
  obtain ⟨S2,l2,c2⟩:=SInv.unshut l1 S1
  exact wpAny_pure (hR _ h' tk' .next (Nat.le_trans hn n1) (hl.trans hn l2) S2 (F.carry n1 l2 c2) trivial)
 | @step N st st1 st2 st' m' nx' r g fl hc hm call hm' hr ht hb hg rest=>
  refine ci_item (s:={ s0 with heap:=h,toks:=tk }) hc hm hf call hm' hr hA S.shut fun W' h' tk' v n1 l1 S1 hv=>?_
  refine turn v W' h' tk' n1 l1 S1 hv ht hb fun W2 h2 tk2 fl' n2 l2 S2 F2 hfl=>?_
  have key:∃ m,m < N+1 /\ (Ex4 fun (st:St) (W:Wd) (h:Heap) (tk:Nat)=>A6 (({ s0 with heap:=h2,toks:=tk2 }:Shared) = { s0 with heap:=h,toks:=tk }) (ForCi prog w K btab k φ t b c n f stop m st fl st') (SInv prog w K btab W st.m st.nx h) (FInv W φ env st h) (st0.nx<=st.nx) (Wd.le st0.nx W0 W)):=
   ⟨N,Nat.lt_succ_self _,st2,W2,h2,tk2,rfl,rest,S2,F2,Nat.le_trans hn n2,hl.trans hn l2⟩
  rcases flr_go hg hfl with rfl | rfl
  ·exact key
  ·exact key
 | @stop N st st1 st' m' nx' r a hc hm call hm' hr ht hb=>
  refine ci_item (s:={ s0 with heap:=h,toks:=tk }) hc hm hf call hm' hr hA S.shut fun W' h' tk' v n1 l1 S1 hv=>?_
  refine turn v W' h' tk' n1 l1 S1 hv ht hb fun W2 h2 tk2 fl' n2 l2 S2 F2 hfl=>?_
  obtain ⟨v,rfl,hv⟩:=flr_ret hfl
  exact hR W2 h2 tk2 _ (Nat.le_trans hn n2) (hl.trans hn l2) S2 F2 hv
theorem STr.forCi {s:Stmt} {st st0 st':St} {fl:Fl} {c n:Nat} {f:Addr} {stop:Str} (hs:forChk s=true) (hns:noSet (forIter s)=true) (hnm:isNm (forTgt s)=true) (hf:fnIn K f=true) (nn:Nat) (sc:List Ev) {ob:List Prop} (e:ev prog w K btab (k+1) nn φ (forIter s) st sc=some (.loc c,st0,[],ob)) (h:AllP ob)
  (hc:c < st0.nx) (hm:st0.m c=.citer (.bm f n) stop \/ st0.m c=.cdone) {N:Nat} (loop:ForCi prog w K btab k φ (forTgt s) (forBody s) c n f stop N st0 fl st'):STr prog w K btab (k+1) φ s st fl st':=by
 obtain ⟨t,i,b,p,rfl⟩:=forChk_of hs
 intro W A env s Q E hA hS hF hc' hq
 refine wpAny_For ?_ (noSet_folded hns env)
 refine ETr.run nn sc e h W A env s _ E hA hS hF trivial fun W1 h1 tk1 v n1 l1 S1 F1 hv=>?_
 cases hv
 refine ci_iter (s:={ s with heap:=h1,toks:=tk1 }) hc hm S1 ?_
 refine for_ci (s0:={ s with heap:=h1,toks:=tk1 }) hnm hf hA S1 F1 hc loop fun W3 h3 tk3 g n3 l3 S3 F3 r=>?_
 exact hq W3 h3 tk3 g (Nat.le_trans n1 n3) (l1.trans n1 l3) S3 F3 r
end
end
section
section
variable {prog:Program} {w:World} {K:Frag} {btab:List (Str × Value)} {k:Nat} {m:Nat->MO} {nx:Nat}
theorem strsAre_of {B:BM}:∀ {ys:List Str} {vs:List Value},VDs B (strDs ys) vs->StrsAre vs ys
 | [],_,h=>by cases h; exact .nil
 | y :: ys,_,h=>by
  cases h with
  | cons h r=>
   cases h with | str s t=>exact .cons _ _ (strsAre_of r)
theorem q_inL {x:Str} {a:AV} {ys:List Str} (hs:DSrc m nx a (strDs ys)) (hl:isLst a):CmpTr prog w K btab k .In (.d (.str x)) a m nx (ys.any (· == x)) m nx:=by
 refine cmp2 fun W A s u v Q E hA hS hu hv hq=>?_
 obtain ⟨t,rfl⟩:=va_str hu
 obtain ⟨l,vs,n,rfl,ho,hvs⟩:=seq_at hS hv hs hl
 exact in_list_strs (lstObj.isList ho) (strsAre_of hvs) (hq s.heap s.toks (Keeps.refl _))
theorem q_notInL {x:Str} {a:AV} {ys:List Str} (hs:DSrc m nx a (strDs ys)) (hl:isLst a):CmpTr prog w K btab k .NotIn (.d (.str x)) a m nx (!(ys.any (· == x))) m nx:=by
 refine cmp2 fun W A s u v Q E hA hS hu hv hq=>?_
 obtain ⟨t,rfl⟩:=va_str hu
 obtain ⟨l,vs,n,rfl,ho,hvs⟩:=seq_at hS hv hs hl
 exact notin_list_strs (lstObj.isList ho) (strsAre_of hvs) (hq s.heap s.toks (Keeps.refl _))
theorem b_addL {a b:AV} {xs ys:List D} (h1:DSrc m nx a xs) (l1:isLst a) (h2:DSrc m nx b ys) (l2:isLst b) (hsz:xs.length+ys.length<=100000):BinTr prog w K btab k false .Add a b m nx (.d (.lst (xs ++ ys))) m nx:=by
 refine act_new fun W A s tr Q E hA hS ⟨u,v,hu,hv,htr⟩ hq=>?_
 obtain ⟨l,vs,n,rfl,ho,hvs⟩:=seq_at hS hu h1 l1
 obtain ⟨l',ws,n',rfl,ho',hws⟩:=seq_at hS hv h2 l2
 have e1:=hvs.length
 have e2:=hws.length
 obtain ⟨W',S',lw,v'⟩:=new_lst hS (hvs.append hws)
 have e:vs.toArray ++ ws.toArray=(vs ++ ws).toArray:=by simp
 have key:∀ Q':Value->Shared->Prop,Q' (.ref s.heap.objs.size) { s with heap:=s.heap.push (lstObj (vs ++ ws) 0) }->wpAny (model prog w) A (binaryOp .Add (.ref l) (.ref l')) Q' E s:=fun Q' hq'=>by
  refine concat_meets ⟨_,ho,rfl⟩ ⟨_,ho',rfl⟩ noFill_list_add seq_list_add PySem.F.slot_list_add PySem.F.entry_list_add (PySem.F.args_list_add_2 _ _) (list_addW l l' vs.toArray ws.toArray n n' none none #[] #[] (by rw [sizeLine_eq]; simp; omega)) ⟨ho,ho',?_⟩
  rw [e]
  exact hq'
 subst htr
 exact key _ (hq W' _ s.toks _ S' lw (Nat.le_refl _) v')
end
end
section
open PyProof
section
section
variable {prog:Program} {w:World} {K:Frag} {btab:List (Str × Value)} {k:Nat} {m:Nat->MO} {nx:Nat}
theorem int_pairs {B:BM}:∀ {ns:List Int} {vs:List Value},VDs B (ns.map D.int) vs->∃ l:List (Int × Tok),vs=l.map (fun p=>Value.int p.1 p.2) /\ l.map (·.1)=ns
 | [],_,h=>by cases h; exact ⟨[],rfl,rfl⟩
 | n :: ns,_,h=>by
  cases h with
  | cons h r=>
   cases h with
   | int i t=>
    obtain ⟨l,e1,e2⟩:=int_pairs r
    exact ⟨(n,t) :: l,by rw [e1]; rfl,by simp [e2]⟩
theorem preSum_take (l:List (Int × Tok)):∀ j,j<=l.length->preSum (numAt l.toArray) j=((l.map (·.1)).take j).sum
 | 0,_=>by simp [preSum]
 | j+1,h=>by
  rw [preSum,preSum_take l j (by omega),List.take_add_one,List.sum_append]
  have hj:j < l.length:=h
  simp [numAt,List.getElem?_map,List.getElem?_eq_getElem hj]
theorem c_sum {a:AV} {ns:List Int} (hs:DSrc m nx a (ns.map D.int)) (hl:isLst a):CallTr prog w K btab k (.k (.builtin "sum")) [a] [] m nx (.d (.int ns.sum)) m nx:=by
 refine call1 (act_same fun W A s tr Q E hA hS ⟨v,hv,htr⟩ hq=>?_)
 subst htr
 obtain ⟨l,vs,n,rfl,ho,hvs⟩:=seq_at hS hv hs hl
 obtain ⟨ps,rfl,rfl⟩:=int_pairs hvs
 have hi:s.heap.IsList l (intItems ps.toArray):=by
  have:=lstObj.isList ho
  unfold intItems
  simpa using this
 refine sum_intListG hA.handled hi fun h' tk t' hk=>?_
 have e:preSum (numAt ps.toArray) ps.toArray.size=(ps.map (·.1)).sum:=by
  rw [List.size_toArray,preSum_take ps _ (Nat.le_refl _),List.take_of_length_le (by simp)]
 rw [e]
 exact hq h' tk _ hk (.d (.int _ _))
theorem b_pow {i j:Int} (h0:0<=j) (hsz:(Builtin.Int.intBits i:Int) * j<=2 ^ 27) {g:Bool}:BinTr prog w K btab k g .Pow (.d (.int i)) (.d (.int j)) m nx (.d (.int (i ^ j.toNat))) m nx:=by
 refine act_same fun W A s tr Q E hA hS ⟨u,v,hu,hv,htr⟩ hq=>?_
 obtain ⟨t,rfl⟩:=va_int hu
 obtain ⟨t',rfl⟩:=va_int hv
 subst htr
 cases g
 ·exact pow_int h0 hsz (hq s.heap _ _ (Keeps.refl _) (.d (.int _ _)))
 ·exact ipow_int h0 hsz (hq s.heap _ _ (Keeps.refl _) (.d (.int _ _)))
theorem isStrOf_at (x:Str) {vs:List Value} {ys:List Str} (h:StrsAre vs ys):∀ j (h1:j < vs.length) (h2:j < ys.length),isStrOf x vs[j]=(ys[j] == x):=
 StrsAre.rec (motive:=fun vs ys _=>∀ j (h1:j < vs.length) (h2:j < ys.length),isStrOf x vs[j]=(ys[j] == x)) (fun j h _=>absurd h (Nat.not_lt_zero j))
  (fun y t {_ _} _ ih j=>Nat.rec (fun _ _=>rfl) (fun j _ h1 h2=>ih j (Nat.lt_of_succ_lt_succ h1) (Nat.lt_of_succ_lt_succ h2)) j) h
theorem strsAre_len {vs:List Value} {ys:List Str} (h:StrsAre vs ys):vs.length=ys.length:=
 StrsAre.rec (motive:=fun vs ys _=>vs.length=ys.length) rfl (fun _ _ {_ _} _ e=>congrArg Nat.succ e) h
theorem c_indexS {a:AV} {x:Str} {ys:List Str} (hs:DSrc m nx a (strDs ys)) (hl:isLst a) (hx:x ∈ ys) (hsz:ys.length<=100000) :
  CallTr prog w K btab k (.k (.builtin "list.index")) [a,.d (.str x)] [] m nx (.d (.int (ys.idxOf x:Nat))) m nx:=by
 refine call2 (act_same fun W A s tr Q E hA hS ⟨u,v,hu,hv,htr⟩ hq=>?_)
 subst htr
 obtain ⟨t,rfl⟩:=va_str hv
 obtain ⟨l,vs,n,rfl,ho,hvs⟩:=seq_at hS hu hs hl
 have hi:=strsAre_of hvs
 have hlen:=strsAre_len hi
 have hj:ys.idxOf x < ys.length:=List.idxOf_lt_length_iff.mpr hx
 refine call_meets PySem.F.slot_list_index ⟨_,ho,rfl⟩ PySem.F.entry_list_index (PySem.F.args_list_index_2 _ _)
  (PySem.SeqAt.list_indexAt l vs.toArray n none #[] (.str x t) (isStrOf x) (ys.idxOf x) (by simpa [hlen] using hj) (by omega) ?_ ?_) ⟨ho,fun y hy=>(eq_isStrOf x t hi y (by simpa using hy)).at _ _,hq s.heap _ _ (Keeps.refl _) (.d (.int _ _))⟩
 ·show isStrOf x vs[ys.idxOf x]=true
  rw [isStrOf_at x hi _ (by omega) hj]
  simpa using List.getElem_idxOf hj
 ·intro j hjs hlt
  show isStrOf x vs[j]=false
  rw [isStrOf_at x hi j (by simpa using hjs) (by omega)]
  cases q:ys[j]'(by omega) == x with
  | false=>rfl
  | true=>
   exfalso
   have hlt':j < ys.findIdx (· == x):=hlt
   have:=List.not_of_lt_findIdx hlt'
   rw [this] at q
   cases q
end
end
section
section
variable {prog:Program} {w:World} {A:Around} {E:Value->Shared->Prop} {s:Shared}
noncomputable def NoneIn (code text:Array Nat) (lim:Nat):Prop:=∀ j,j < lim->∀ seen,∃ seen',Sre.inSet code (text.getD j 0) code.size 5 true seen=.ok (false,seen')
theorem admitted_none {m:Sre.M} (h:NoneIn m.code m.text m.lim):∀ fuel j seen,∃ seen',Sre.M.admitted m fuel j seen=.ok (none,seen')
 | 0,_,seen=>⟨seen,rfl⟩
 | fuel+1,j,seen=>by
  unfold Sre.M.admitted
  by_cases q:j >= m.lim
  ·rw [if_pos q]; exact ⟨_,rfl⟩
  ·rw [if_neg q]
   obtain ⟨s',e⟩:=h j (by omega) seen
   simp only [e]
   exact admitted_none h fuel (j+1) s'
structure Nay (m:Sre.M):Prop where
 answer:m.answer=some false
 frames:m.frames = []
 outcome:m.outcome=none
theorem nay_attempt {m:Sre.M} (hf:m.hasFirstSet=true) (h:NoneIn m.code m.text m.lim) (fr:m.frames = []) (oc:m.outcome=none) (p:Nat) (b:Bool):Nay (m.attemptFrom p b):=by
 unfold Sre.M.attemptFrom
 rw [hf]
 obtain ⟨s',e⟩:=admitted_none h (m.lim+1 - p) p m.seen
 rw [e]
 exact ⟨rfl,fr,oc⟩
theorem nay_search {code text:Array Nat} {groups pos lim:Nat} (hf:∀ m:Sre.M,m.code=code->m.hasFirstSet=true) (h:NoneIn code text lim) :
  Nay (Sre.forSearch code text groups pos lim false):=by
 unfold Sre.forSearch
 dsimp only
 split
 ·exact ⟨rfl,rfl,rfl⟩
 ·refine nay_attempt (hf _ rfl) ?_ rfl rfl _ _
  exact h
theorem nay_run {m:Sre.M} (h:Nay m):(m.runFor 4).outcome=some .failed:=by
 have e:m.step = { m with outcome:=some .failed }:=by
  unfold Sre.M.step
  rw [h.outcome,h.answer,h.frames]
  rfl
 have e2:m.runFor 4=m.step.runFor 3:=by
  show (if m.outcome.isSome then m else Sre.M.runFor 3 m.step)=_
  rw [h.outcome]
  rfl
 rw [e2,e]
 rfl
theorem runToEnd_none {m:Sre.M} (h:Nay m) {Q:Option Sre.M->Shared->Prop} (hq:Q none s):wpAny (model prog w) A (Builtin.Re.reRunToEnd m) Q E s:=by
 have e:Builtin.Re.reDrive (2 ^ 64) m=pure (m.runFor 4):=by
  rw [show (2 ^ 64:Nat)=(2 ^ 64 - 1)+1 from rfl]
  unfold Builtin.Re.reDrive
  show (if ((m.runFor 4).outcome.isSome:Bool)=true then _ else _)=_
  rw [nay_run h]
  rfl
 unfold Builtin.Re.reRunToEnd
 rw [e]
 refine wpAny_bind (wpAny_pure ?_)
 refine wpAny_bind (wpAny_forIn_list _ (fun _ _ s'=>s'=s) _ (fun x rest b s' hs'=>?_) (fun b s' hs'=>?_) _ _ rfl)
 ·subst hs'
  split
  ·exact wpAny_bind (wpAny_rule (wpAny_pure rfl))
  ·exact wpAny_pure rfl
 ·subst hs'
  rw [nay_run h]
  exact wpAny_pure hq
end
end
section
theorem slot_search:Slot "re.Pattern" "search" "re.Pattern.search" :=
 .of (owner := "re.Pattern") (n := "search") (by rw [typeLookup_type,builtinLookup_eq_fast]; kernel_rfl) (by decide +kernel) (by decide +kernel) (by decide +kernel)
  (by first | exact .inl (by decide +kernel) | exact .inr (by decide +kernel)) (by rw [isSubtype_type]; kernel_rfl)
theorem type_search:typeOf (.builtin "re.Pattern.search")=pure (.type "method_descriptor"):=by show builtinType _=_; rw [builtinType_eq_fast]; kernel_rfl
theorem entry_search:entryFor table "re.Pattern.search" = some Builtin.«re.Pattern.search»:=entryFor_of_tree (by kernel_rfl)
section
variable {prog:Program} {w:World} {A:Around} {E:Value->Shared->Prop} {s:Shared}
theorem named_one {v:Value}:Builtin.Re.reNamed "re.Pattern.search" "search" ["string", "pos", "endpos"] 1 [v] []=pure [some v,none,none]:=by
 unfold Builtin.Re.reNamed
 rfl
theorem meets_search {p:Addr} {o:Obj} {fs:Array Value} {ca:Addr} {oc:Obj} {cs:Array Value} {n:Nat} {x:Str} {t:Tok} (hd:o.data=.fields fs) (h6:Builtin.Re.reRawNat (fs.getD 6 .none)=0) (h5:fs.getD 5 .none=.ref ca) (hdc:oc.data=.seq cs n)
  (hf:∀ m:Sre.M,m.code=(cs.map Builtin.Re.reRawOf).map (·.toNat)->m.hasFirstSet=true) (hn:NoneIn ((cs.map Builtin.Re.reRawOf).map (·.toNat)) x.cps x.cps.size) :
  Meets (Builtin.«re.Pattern.search» ⟨[.ref p,.str x t],[]⟩) (fun _ R s=>s.heap.get? p=some o /\ s.heap.get? ca=some oc /\ R (.ok (.ret .none)) s):=
 .of_wp fun prog w A R s h=>by
  obtain ⟨ho,hoc,h⟩:=h
  unfold Builtin.«re.Pattern.search» Builtin.Re.reTarget
  refine wpAny_bind ?_
  show wpAny _ _ (Builtin.Re.reNamed "re.Pattern.search" "search" ["string", "pos", "endpos"] 1 [.str x t] [] >>= _) _ _ s
  rw [named_one]
  refine wpAny_bind (wpAny_pure ?_)
  show wpAny _ _ (fieldsOf (.ref p) >>= _) _ _ s
  refine wpAny_bind (wpAny_fieldsOf ho hd ?_)
  refine wpAny_bind (m:=Builtin.Re.reTextOf (.str x t)) (wpAny_pure ?_)
  simp only [h6]
  refine wpAny_bind (m:=Builtin.Re.reNoCollectionInside (.str x t) 0) (wpAny_pure ?_)
  refine wpAny_bind ?_
  rw [h5]
  unfold Builtin.Re.reRawItems
  refine wpAny_bind (m:=seqItems? (.ref ca)) ?_
  unfold seqItems?
  refine wpAny_bind (wpAny_load hoc ?_)
  rw [hdc]
  refine wpAny_pure ?_
  refine wpAny_pure ?_
  refine wpAny_pure ?_
  unfold Builtin.Re.reAnswer
  refine wpAny_bind (runToEnd_none (nay_search hf fun j hj=>hn j (Nat.lt_of_lt_of_le hj (Nat.min_le_right _ _))) ?_)
  exact wpAny_pure ⟨_,rfl,h⟩
end
end
section
theorem owner_pattern:Manifest.owners.lookup (String.ofList ['n','r','e','t','t','a','P','.','e','r'].reverse)=some Manifest.sig_re_Pattern:=by kernel_rfl
theorem args_search (a b:Value):argsOk "re.Pattern.search" ⟨[a,b],[]⟩:=by
 unfold argsOk; rw [signature?_of (id := "re.Pattern.search") (n:=['h','c','r','a','e','s']) (o:=['n','r','e','t','t','a','P','.','e','r']) (by kernel_rfl) owner_pattern]; kernel_rfl
theorem plain_pattern:PlainAttrs "re.Pattern" :=
 ⟨⟨"object.__getattribute__",by rw [typeLookup_type,builtinLookup_eq_fast]; kernel_rfl,by decide +kernel⟩,by rw [typeLookup_type,builtinLookup_eq_fast]; kernel_rfl⟩
section
variable {prog:Program} {w:World} {K:Frag} {btab:List (Str × Value)} {k:Nat} {m:Nat->MO} {nx:Nat}
structure Pat (K:Frag) (p ca:Addr) (cs:Array Value):Prop where
 at_:∀ h:Heap,K.In h->∃ (o oc:Obj) (fs:Array Value) (n:Nat),h.get? p=some o /\ h.get? ca=some oc /\ o.cls=.type "re.Pattern" /\ o.dict=none /\ o.data=.fields fs /\ Builtin.Re.reRawNat (fs.getD 6 .none)=0 /\ fs.getD 5 .none=.ref ca /\ oc.data=.seq cs n
 first:∀ m:Sre.M,m.code=(cs.map Builtin.Re.reRawOf).map (·.toNat)->m.hasFirstSet=true
theorem m_search {p ca:Addr} {cs:Array Value} (P:Pat K p ca cs):MethTr prog w K btab k (.k (.ref p)) "search" m nx (.k (.builtin "re.Pattern.search")) [.k (.ref p)] nx m:=by
 refine act_same fun W A s tr Q E hA hS ⟨vo,pl,hv,htr⟩ hq=>?_
 subst htr
 cases hv
 obtain ⟨o,oc,fs,n,ho,-,hc,hdi,-⟩:=P.at_ s.heap (hS.sta.all s.heap hS.base).1
 refine getMethod_builtin ⟨_,ho,hc⟩ plain_pattern slot_search type_search (fun a e=>by cases e; exact ⟨_,ho,hdi⟩) ?_
 exact hq s.heap s.toks _ (Keeps.refl _) ⟨.k _,.cons (.k _) .nil⟩
theorem c_search {p ca:Addr} {cs:Array Value} (P:Pat K p ca cs) {x:Str} (hn:NoneIn ((cs.map Builtin.Re.reRawOf).map (·.toNat)) x.cps x.cps.size) :
  CallTr prog w K btab k (.k (.builtin "re.Pattern.search")) [.k (.ref p),.d (.str x)] [] m nx (.d .none) m nx:=by
 refine call2 (act_same fun W A s tr Q E hA hS ⟨u,v,hu,hv,htr⟩ hq=>?_)
 subst htr
 obtain ⟨t,rfl⟩:=va_str hv
 cases hu
 obtain ⟨o,oc,fs,n,ho,hoc,hc,hdi,hd,h6,h5,hdc⟩:=P.at_ s.heap (hS.sta.all s.heap hS.base).1
 exact call_meets slot_search ⟨_,ho,hc⟩ entry_search (args_search _ _) (meets_search hd h6 h5 hdc P.first hn) ⟨ho,hoc,hq s.heap s.toks _ (Keeps.refl _) (.d .none)⟩
end
end
section
section
variable {prog:Program} {w:World} {K:Frag} {btab:List (Str × Value)} {k:Nat} {m:Nat->MO} {nx:Nat}
theorem value_at {κ:Type} [DecidableEq κ] {B:BM} {x:κ} {d:D}:∀ {kvs:List (κ × Value)} {l:List (κ × D)},kvs.map (·.1)=l.map (·.1)->VDs B (l.map (·.2)) (kvs.map (·.2))->l.lookup x=some d->∃ v,valueAt kvs x=some v /\ VD B d v
 | [],[],_,_,h=>by cases h
 | [],_ :: _,h,_,_=>by cases h
 | _ :: _,[],h,_,_=>by cases h
 | (a,v) :: kvs,(b,y) :: l,e,hv,h=>by
  simp only [List.map_cons,List.cons.injEq] at e
  obtain ⟨rfl,e⟩:=e
  cases hv with
  | cons h1 h2=>
   by_cases q:a=x
   ·subst q
    rw [List.lookup_cons,beq_self_eq_true] at h
    cases h
    exact ⟨v,by simp [valueAt],h1⟩
   ·rw [List.lookup_cons,beq_false_of_ne (Ne.symm q)] at h
    obtain ⟨v',e1,e2⟩:=value_at e h2 h
    exact ⟨v',by simp [valueAt,q] at e1 ⊢; exact e1,e2⟩
theorem i_dictI {n:Nat} {l:List (Int × D)} {i:Int} {x:D} (hn:n < nx) (hm:m n=.dictI l) (hx:l.lookup i=some x):ItemTr prog w K btab k (.loc n) (.d (.int i)) m nx (.d x) m nx:=by
 refine act_same fun W A s tr Q E hA hS ⟨vo,vi,value,slice,hsub,hvo,hvi,htr⟩ hq=>?_
 subst htr
 obtain ⟨t,rfl⟩:=va_int hvi
 cases hvo
 have ob:=hS.obj n hn
 rw [hm] at ob
 obtain ⟨kvs,hd,e1,e2,-⟩:=ob
 obtain ⟨v,e3,e4⟩:=value_at e1 e2 hx
 exact subT hd.typeIs PySem.F.slot_dict_getitem.lookup (wpAny_getItem_of (knd:=PySem.intKind prog w) (k:=i) (by show (i == i)=true; exact beq_self_eq_true i) hd.mapOf e3 (hq s.heap _ _ (Keeps.refl _) (.d e4))) (hsub _ _)
end
end
section
section
variable {prog:Program} {w:World} {K:Frag} {btab:List (Str × Value)} {k:Nat} {m:Nat->MO} {nx:Nat}
theorem value_none {κ:Type} [DecidableEq κ] {B:BM} {x:κ}:∀ {kvs:List (κ × Value)} {l:List (κ × D)},kvs.map (·.1)=l.map (·.1)->VDs B (l.map (·.2)) (kvs.map (·.2))->l.lookup x=none->valueAt kvs x=none
 | [],[],_,_,_=>rfl
 | [],_ :: _,h,_,_=>by cases h
 | _ :: _,[],h,_,_=>by cases h
 | (a,v) :: kvs,(b,y) :: l,e,hv,h=>by
  simp only [List.map_cons,List.cons.injEq] at e
  obtain ⟨rfl,e⟩:=e
  cases hv with
  | cons h1 h2=>
   by_cases q:a=x
   ·subst q
    rw [List.lookup_cons,beq_self_eq_true] at h
    cases h
   ·rw [List.lookup_cons,beq_false_of_ne (Ne.symm q)] at h
    have:=value_none e h2 h
    simp [valueAt,q] at this ⊢
    exact this
end
end
end
section
section
variable {prog:Program} {w:World} {K:Frag} {btab:List (Str × Value)} {k:Nat}
end
end
section
open PyProof
section
section
variable {prog:Program} {w:World} {K:Frag} {btab:List (Str × Value)} {k:Nat} {m:Nat->MO} {nx:Nat}
noncomputable def storeD {κ:Type} [DecidableEq κ] (l:List (κ × D)) (x:κ) (d:D):List (κ × D):=
 if l.any (fun kv=>kv.1=x) then l.map (fun kv=>if kv.1=x then (kv.1,d) else kv) else l ++ [(x,d)]
theorem any_keys {κ:Type} [DecidableEq κ] {α β:Type} (x:κ):∀ {kvs:List (κ × α)} {l:List (κ × β)},kvs.map (·.1)=l.map (·.1)->kvs.any (fun kv=>kv.1=x)=l.any (fun kv=>kv.1=x)
 | [],[],_=>rfl
 | [],_ :: _,h=>by cases h
 | _ :: _,[],h=>by cases h
 | (a,v) :: kvs,(b,y) :: l,e=>by
  simp only [List.map_cons,List.cons.injEq] at e
  obtain ⟨rfl,e⟩:=e
  simp only [List.any_cons,any_keys x e]
theorem put_keys {κ:Type} [DecidableEq κ] {B:BM} {x:κ} {v:Value} {d:D} (hd:VD B d v):∀ {kvs:List (κ × Value)} {l:List (κ × D)},kvs.map (·.1)=l.map (·.1)->VDs B (l.map (·.2)) (kvs.map (·.2)) ->
  (kvs.map (fun kv=>if kv.1=x then (kv.1,v) else kv)).map (·.1)=(l.map (fun kv=>if kv.1=x then (kv.1,d) else kv)).map (·.1) /\
  VDs B ((l.map (fun kv=>if kv.1=x then (kv.1,d) else kv)).map (·.2)) ((kvs.map (fun kv=>if kv.1=x then (kv.1,v) else kv)).map (·.2))
 | [],[],_,_=>⟨rfl,.nil⟩
 | [],_ :: _,h,_=>by cases h
 | _ :: _,[],h,_=>by cases h
 | (a,u) :: kvs,(b,y) :: l,e,hv=>by
  simp only [List.map_cons,List.cons.injEq] at e
  obtain ⟨rfl,e⟩:=e
  cases hv with
  | cons h1 h2=>
   obtain ⟨i1,i2⟩:=put_keys (x:=x) hd e h2
   by_cases q:a=x
   ·subst q
    simp only [List.map_cons,if_true]
    exact ⟨by rw [i1],.cons hd i2⟩
   ·simp only [List.map_cons,if_neg q]
    exact ⟨by rw [i1],.cons h1 i2⟩
theorem store_at {κ:Type} [DecidableEq κ] {B:BM} {x:κ} {v:Value} {d:D} {kvs:List (κ × Value)} {l:List (κ × D)} (hd:VD B d v) (e:kvs.map (·.1)=l.map (·.1)) (hv:VDs B (l.map (·.2)) (kvs.map (·.2))) :
  (stored kvs x v).map (·.1)=(storeD l x d).map (·.1) /\ VDs B ((storeD l x d).map (·.2)) ((stored kvs x v).map (·.2)):=by
 unfold stored storeD
 rw [any_keys x e]
 split
 ·exact put_keys hd e hv
 ·simp only [List.map_append,List.map_cons,List.map_nil]
  exact ⟨by rw [e],hv.append (.cons hd .nil)⟩
theorem set_dictI {n:Nat} {l:List (Int × D)} {i:Int} {x:D} (hn:n < nx) (hm:m n=.dictI l) (hsz:l.length<=100000):SetItemTr prog w K btab k (.loc n) (.d (.int i)) (.d x) m nx (upd m n (.dictI (storeD l i x))) nx:=by
 intro W A s tr Q E hA hS _ ⟨vo,vi,vx,hvo,hvi,hvx,htr⟩ hq
 subst htr
 obtain ⟨t,rfl⟩:=va_int hvi
 cases hvo
 cases hvx with
 | d hd=>
  have ob:=hS.obj n hn
  rw [hm] at ob
  obtain ⟨kvs,hk,e1,e2,ne⟩:=ob
  have el:=congrArg List.length e1
  simp only [List.length_map] at el
  refine wpAny_setItem_pairs (knd:=PySem.intKind prog w) (k:=i) (by show (i == i)=true; exact beq_self_eq_true i) hk (fun h' h1 h2=>?_) (by rw [sizeLine_eq]; omega)
  obtain ⟨e3,e4⟩:=store_at (x:=i) hd e1 e2
  exact hq W h' _ () (Nat.le_refl _) (.refl _ _) (hS.put (mo:=.dictI (storeD l i x)) hn (by rw [hm]; exact fun z=>by cases z) h2.extBut ⟨_,h1,e3,e4,ne⟩) trivial
end
end
section
section
variable {prog:Program} {w:World} {K:Frag} {btab:List (Str × Value)} {k:Nat} {m:Nat->MO} {nx:Nat}
end
end
section
section
variable {prog:Program} {w:World} {K:Frag} {btab:List (Str × Value)} {k:Nat} {m:Nat->MO} {nx:Nat}
end
end
section
section
variable {prog:Program} {w:World} {K:Frag} {btab:List (Str × Value)} {k:Nat} {m:Nat->MO} {nx:Nat}
noncomputable def D.tyName:D->String
 | .none => "NoneType"
 | .bool _ => "bool"
 | .int _ => "int"
 | .str _ => "str"
 | .tup _ => "tuple"
 | .lst _ => "list"
 | .rng _ _ _ => "range"
noncomputable def D.tyOk:D->Bool
 | .int _=>true
 | .str _=>true
 | .tup _=>true
 | .lst _=>true
 | _=>false
theorem c_type {d:D} (h:d.tyOk=true):CallTr prog w K btab k (.k (.type "type")) [.d d] [] m nx (.k (.type d.tyName)) m nx:=by
 refine call1 (act_same fun W A s tr Q E hA hS ⟨v,hv,htr⟩ hq=>?_)
 subst htr
 have fin:s.TypeIs v d.tyName /\ (Value.type d.tyName == Value.type "builtin_function_or_method")=false:=by
  cases hv with
  | d hv=>
   induction hv using VD.casesOn with
   | int i t=>exact ⟨rfl,by simp only [D.tyName]; decide⟩
   | str x t=>exact ⟨rfl,by simp only [D.tyName]; decide⟩
   | lst ho _=>exact ⟨⟨_,hS.base _ _ ho,rfl⟩,by simp only [D.tyName]; decide⟩
   | tup ho _=>exact ⟨⟨_,hS.base _ _ ho,rfl⟩,by simp only [D.tyName]; decide⟩
   | _=>cases h
 exact call_type_of fin.1 fin.2 (hq s.heap s.toks _ (Keeps.refl _) (.k _))
end
end
section
class inductive Bd (N:Nat):AV->Prop
 | d (x:D):Bd N (.d x)
 | k (v:Value):Bd N (.k v)
 | loc {n:Nat} (h:n < N):Bd N (.loc n)
 | bm {f:Addr} {n:Nat} (h:n < N):Bd N (.bm f n)
 | fn {ps:Arguments} {e:PySem.Expr} {sc:Scope} {caps:List (Str × AV)} (h:∀ p ∈ caps,Bd N p.2):Bd N (.fn ps e sc caps)
theorem VA.bd {W:Wd} {nx:Nat} {a:AV} {v:Value} (h:VA W nx a v):Bd nx a:=by
 induction h with
 | d h=>exact .d _
 | loc h=>exact .loc h
 | k v=>exact .k v
 | bm h ho=>exact .bm h
 | fn ho hc hd hp hb hs h1 h2 hg hbu hcode hcell hv ih=>exact .fn ih
theorem VA.low {W:Wd} {nx nx':Nat} {a:AV} {v:Value} (h:VA W nx' a v) (b:Bd nx a):VA W nx a v:=by
 induction h with
 | d h=>exact .d h
 | loc h=>cases b with | loc h'=>exact .loc h'
 | k v=>exact .k v
 | bm h ho=>cases b with | bm h'=>exact .bm h' ho
 | fn ho hc hd hp hb hs h1 h2 hg hbu hcode hcell hv ih=>
  cases b with | fn h'=>exact .fn ho hc hd hp hb hs h1 h2 hg hbu hcode hcell fun p hp=>ih p hp (h' p hp)
theorem Bd.up {N N':Nat} (hn:N<=N') {a:AV} (h:Bd N a):Bd N' a:=by
 induction h with
 | d h=>exact .d _
 | loc h=>exact .loc (Nat.lt_of_lt_of_le h hn)
 | k v=>exact .k v
 | bm h=>exact .bm (Nat.lt_of_lt_of_le h hn)
 | fn h ih=>exact .fn ih
noncomputable def MBd (N:Nat):MO->Prop
 | .inst _ n=>n < N
 | .ns l=>∀ x av,l.lookup x=some av->Bd N av
 | .citer f _=>Bd N f
 | _=>True
theorem MBd.up {N N':Nat} (hn:N<=N') {mo:MO} (h:MBd N mo):MBd N' mo:=by
 induction mo using MO.casesOn with
 | inst c n=>exact Nat.lt_of_lt_of_le h hn
 | ns l=>exact fun x av e=>(h x av e).up hn
 | citer f s=>exact Bd.up hn h
 | _=>trivial
section
variable {prog:Program} {w:World} {K:Frag} {btab:List (Str × Value)}
theorem MOat.bd {W:Wd} {nx:Nat} {mo:MO} {a:Addr} {h:Heap} (x:MOat prog w W nx mo a h):MBd nx mo:=by
 induction mo using MO.casesOn with
 | inst c n=>exact x.2
 | ns l=>obtain ⟨m,_,_,v⟩:=x; exact fun y av e=>let ⟨_,_,q⟩:=v y av e; q.bd
 | citer f s=>obtain ⟨_,_,_,_,_,_,v⟩:=x; exact v.bd
 | _=>trivial
theorem MOat.low {W:Wd} {nx nx':Nat} {mo:MO} {a:Addr} {h:Heap} (x:MOat prog w W nx' mo a h) (b:MBd nx mo):MOat prog w W nx mo a h:=by
 cases mo with
 | list ds=>exact x
 | dictS ds=>exact x
 | dictI ds=>exact x
 | inst c n=>exact ⟨x.1,b⟩
 | ns ds=>obtain ⟨m,ho,n,v⟩:=x; exact ⟨m,ho,n,fun y av e=>let ⟨u,e1,e2⟩:=v y av e; ⟨u,e1,e2.low (b y av e)⟩⟩
 | citer f stop=>obtain ⟨o,vf,t,ho,r,e,v⟩:=x; exact ⟨o,vf,t,ho,r,e,v.low b⟩
 | cdone=>exact x
 | any=>exact x
 | tab c=>exact x
 | junk=>trivial
structure Low (m:Nat->MO) (nx:Nat) (m':Nat->MO) (nx':Nat) (m₂:Nat->MO) (nx₂:Nat):Prop where
 h1:nx<=nx₂
 h2:nx₂<=nx'
 eq:∀ i,i < nx₂->m' i=m₂ i
 bd:∀ i,i < nx₂->(i < nx /\ m₂ i=m i) \/ MBd nx₂ (m₂ i)
theorem SInv.low {W W':Wd} {m m' m₂:Nat->MO} {nx nx' nx₂:Nat} {h h':Heap} (S:SInv prog w K btab W m nx h) (S':SInv prog w K btab W' m' nx' h') (L:Low m nx m' nx' m₂ nx₂):SInv prog w K btab W' m₂ nx₂ h':=by
 refine ⟨S'.base,S'.rest,S'.apart,fun n hn=>?_,fun n hn q=>?_,fun n hn q=>?_,fun n n' hn hn' q q'=>?_,S'.sta⟩
 ·have x:=S'.obj n (Nat.lt_of_lt_of_le hn L.h2)
  rw [L.eq n hn] at x
  refine x.low ?_
  rcases L.bd n hn with ⟨a,e⟩ | b
  ·rw [e]; exact (S.obj n a).bd.up L.h1
  ·exact b
 ·exact S'.nb n (Nat.lt_of_lt_of_le hn L.h2) (by rw [L.eq n hn]; exact q)
 ·exact S'.nr n (Nat.lt_of_lt_of_le hn L.h2) (by rw [L.eq n hn]; exact q)
 ·exact S'.inj n n' (Nat.lt_of_lt_of_le hn L.h2) (Nat.lt_of_lt_of_le hn' L.h2) (by rw [L.eq n hn]; exact q) (by rw [L.eq n' hn']; exact q')
theorem OwnAt.low {W':Wd} {m m' m₂:Nat->MO} {nx nx' nx₂:Nat} {a:Addr} (L:Low m nx m' nx' m₂ nx₂) (o:OwnAt W' m' nx' a):OwnAt W' m₂ nx₂ a:=
 ⟨o.b,o.r,fun n hn q=>o.i n (Nat.lt_of_lt_of_le hn L.h2) (by rw [L.eq n hn]; exact q)⟩
theorem FInv.caps_bd {W:Wd} {φ:Fm} {env:Env} {st:St} {h:Heap} (F:FInv W φ env st h) {x:Str} {av:AV} (e1:φ.sc.names.lookup x=some .free) (e2:φ.caps.lookup x=some av):Bd st.nx av:=by
 obtain ⟨cc,o,v,a1,a2,a3,a4⟩:=F.free x av e1 e2
 exact a4.bd
variable {k:Nat} {φ:Fm}
theorem CallTr.low {f:AV} {args:List AV} {kws:List (Str × AV)} {m:Nat->MO} {nx:Nat} {r:AV} {m':Nat->MO} {nx':Nat} (h:CallTr prog w K btab k f args kws m nx r m' nx') {m₂:Nat->MO} {nx₂:Nat} (L:Low m nx m' nx' m₂ nx₂) (b:Bd nx₂ r) :
  CallTr prog w K btab k f args kws m nx r m₂ nx₂:=by
 intro W A s tr Q E hA hS hc ht hq
 exact h W A s tr Q E hA hS hc ht fun W' h' tk' v _ l S' hv=>hq W' h' tk' v L.h1 l (hS.low S' L) (hv.low b)
theorem CodeTr.low {f:AV} {args:List AV} {kws:List (Str × AV)} {m:Nat->MO} {nx:Nat} {r:AV} {m':Nat->MO} {nx':Nat} (h:CodeTr prog w K btab k f args kws m nx r m' nx') {m₂:Nat->MO} {nx₂:Nat} (L:Low m nx m' nx' m₂ nx₂) (b:Bd nx₂ r) :
  CodeTr prog w K btab k f args kws m nx r m₂ nx₂:=by
 intro W A s R vf vs kvs hA hS h1 h2 h3 hq
 exact h W A s R vf vs kvs hA hS h1 h2 h3 fun W' h' tk' v _ l S' hv=>hq W' h' tk' v L.h1 l (hS.low S' L) (hv.low b)
noncomputable def FBd (N:Nat):Fl->Prop
 | .ret a=>Bd N a
 | _=>True
theorem FlR.low {W:Wd} {nx nx':Nat} {f:Fl} {g:Flow} (h:FlR W nx' f g) (b:FBd nx f):FlR W nx f g:=by
 cases f <;> cases g <;> first | exact h | exact VA.low h b
theorem Low.same {m m':Nat->MO} {nx nx':Nat} (h:nx<=nx') (e:∀ i,i < nx->m' i=m i):Low m nx m' nx' m nx:=⟨Nat.le_refl _,h,e,fun _ hi=>.inl ⟨hi,rfl⟩⟩
theorem ETr.back {e:PySem.Expr} {st:St} {r:AV} {m':Nat->MO} {nx':Nat} (h:ETr prog w K btab k φ e st r ⟨st.vars,st.fz,m',nx'⟩) (hn:st.nx<=nx') (he:∀ i,i < st.nx->m' i=st.m i) (hb:Bd st.nx r):ETr prog w K btab k φ e st r st:=by
 have L:Low st.m st.nx m' nx' st.m st.nx:=.same hn he
 intro W A env s Q E hA hS hF hc hq
 exact h W A env s Q E hA hS hF hc fun W' h' tk' v n l S' F' r=>by
  refine hq W' h' tk' v L.h1 l (hS.low S' L) ?_ (r.low hb)
  obtain ⟨mm,hns,hm⟩:=F'.locs
  obtain ⟨mm0,hns0,hm0⟩:=hF.locs
  refine ⟨F'.scope,F'.kind,F'.globals,F'.builtins,F'.frame,F'.code,F'.own.low L,⟨mm,hns,fun x av e1 e2=>?_⟩,fun x hx=>?_,fun x av e1 e2=>?_⟩
  ·obtain ⟨v,q1,q2⟩:=hm x av e1 e2
   obtain ⟨v0,_,q0⟩:=hm0 x av e1 e2
   exact ⟨v,q1,q2.low q0.bd⟩
  ·obtain ⟨cc,e,q⟩:=F'.cells x hx
   obtain ⟨cc0,e0,q0⟩:=hF.cells x hx
   have bb:∀ av,st.vars.lookup x=some av->Bd st.nx av:=fun av ha=>by
    rcases q0 with ⟨_,q2⟩ | ⟨_,_,_,_,ov,_,q6⟩
    ·obtain ⟨_,_,_,_,z⟩:=q2 av ha; exact z.bd
    ·obtain ⟨_,_,z⟩:=q6 av ha; exact z.bd
   refine ⟨cc,e,?_⟩
   rcases q with ⟨q1,q2⟩ | ⟨q1,q2,q3,q4,ov,hc,q6⟩
   ·exact .inl ⟨q1,fun av e=>let ⟨o,v,a1,a2,a3⟩:=q2 av e; ⟨o,v,a1,a2,a3.low (bb av e)⟩⟩
   ·exact .inr ⟨q1,q2.low L,q3,q4,ov,hc,fun av e=>let ⟨v,a1,a2⟩:=q6 av e; ⟨v,a1,a2.low (bb av e)⟩⟩
  ·obtain ⟨cc,o,v,a1,a2,a3,a4⟩:=F'.free x av e1 e2
   exact ⟨cc,o,v,a1,a2,a3,a4.low (hF.caps_bd e1 e2)⟩
end
end
section
noncomputable def VSub (V V':List (Str × AV)):Prop:=∀ x av,V.lookup x=some av->V'.lookup x=some av
theorem VSub.refl (V:List (Str × AV)):VSub V V:=fun _ _ e=>e
theorem VSub.trans {V V' V'':List (Str × AV)} (a:VSub V V') (b:VSub V' V''):VSub V V'':=fun x av e=>b x av (a x av e)
theorem upd_same {α:Type} (m:Nat->α) (n:Nat) (a b:α):upd (upd m n a) n b=upd m n b:=by
 funext i; unfold upd; split <;> rfl
theorem upd_comm {α:Type} (m:Nat->α) {n j:Nat} (h:n ≠ j) (a b:α):upd (upd m n a) j b=upd (upd m j b) n a:=by
 funext i; unfold upd; split <;> split <;> first | rfl | (subst_vars; exact absurd rfl h)
theorem upd_id {α:Type} (m:Nat->α) (n:Nat) {a:α} (h:m n=a):upd m n a=m:=by
 funext i; unfold upd; split
 ·subst_vars; rfl
 ·rfl
section
variable {prog:Program} {w:World} {K:Frag} {btab:List (Str × Value)} {k:Nat} {φ:Fm}
theorem FInv.sub {W:Wd} {env:Env} {V V':List (Str × AV)} {fz:List Str} {m:Nat->MO} {nx:Nat} {h:Heap} (F:FInv W φ env ⟨V',fz,m,nx⟩ h) (s:VSub V V'):FInv W φ env ⟨V,fz,m,nx⟩ h:=by
 obtain ⟨mm,hns,hm⟩:=F.locs
 refine ⟨F.scope,F.kind,F.globals,F.builtins,F.frame,F.code,F.own,⟨mm,hns,fun x av e1 e2=>hm x av e1 (s x av e2)⟩,fun x hx=>?_,F.free⟩
 obtain ⟨cc,e,q⟩:=F.cells x hx
 refine ⟨cc,e,?_⟩
 rcases q with ⟨q1,q2⟩ | ⟨q1,q2,q3,q4,ov,hc,q6⟩
 ·exact .inl ⟨q1,fun av e=>q2 av (s x av e)⟩
 ·exact .inr ⟨q1,q2,q3,q4,ov,hc,fun av e=>q6 av (s x av e)⟩
theorem Tri.pre {β:Type} {C:Wd->Nat->Prop} {t:Env->Sem β} {V V':List (Str × AV)} {fz:List Str} {m:Nat->MO} {nx:Nat} {st':St} {P:Wd->β->Prop} (h:Tri prog w K btab k φ C t ⟨V,fz,m,nx⟩ st' P) (s:VSub V V'):Tri prog w K btab k φ C t ⟨V',fz,m,nx⟩ st' P:=
 fun W A env sh Q E hA hS hF hc hq=>h W A env sh Q E hA hS (hF.sub s) hc hq
theorem ETr.pre {e:PySem.Expr} {V V':List (Str × AV)} {fz:List Str} {m:Nat->MO} {nx:Nat} {st':St} {r:AV} (h:ETr prog w K btab k φ e ⟨V,fz,m,nx⟩ r st') (s:VSub V V'):ETr prog w K btab k φ e ⟨V',fz,m,nx⟩ r st':=Tri.pre h s
theorem TTr.pre {e:PySem.Expr} {V V':List (Str × AV)} {fz:List Str} {m:Nat->MO} {nx:Nat} {st':St} {r:Bool} (h:TTr prog w K btab k φ e ⟨V,fz,m,nx⟩ r st') (s:VSub V V'):TTr prog w K btab k φ e ⟨V',fz,m,nx⟩ r st':=Tri.pre h s
theorem BTr.pre {b:List Stmt} {V V':List (Str × AV)} {fz:List Str} {m:Nat->MO} {nx:Nat} {st':St} {r:Fl} (h:BTr prog w K btab k φ b ⟨V,fz,m,nx⟩ r st') (s:VSub V V'):BTr prog w K btab k φ b ⟨V',fz,m,nx⟩ r st':=Tri.pre h s
theorem DSrc.lay {m:Nat->MO} {nx:Nat} {a:AV} {ds:List D} {mo:MO} (h:DSrc m nx a ds):DSrc (upd m nx mo) (nx+1) a ds:=by
 induction a using AV.casesOn with
 | loc n=>exact ⟨Nat.lt_succ_of_lt h.1,by rw [upd_ne _ _ _ (Nat.ne_of_lt h.1)]; exact h.2⟩
 | d x=>induction x using D.casesOn <;> exact h
 | _=>exact h
noncomputable def TgtOk {α:Type} (φ:Fm) (t:PySem.Expr) (gD:α->D) (V0:List (Str × AV)) (V:α->List (Str × AV)) (xs:List α):Prop:=
 ∀ x ∈ xs,VSub V0 (V x) /\ ∀ (V1:List (Str × AV)) (fz:List Str) (m:Nat->MO) (nx:Nat),VSub V0 V1->∃ V2,gTgt φ t (gD x) ⟨V1,fz,m,nx⟩ []=some ((),⟨V2,fz,m,nx⟩,[],[]) /\ VSub (V x) V2
theorem setv_sub {x:Str} {a:AV} {V V1:List (Str × AV)} (h:VSub V V1):VSub ((x,a) :: V) (setv x a V1):=by
 intro y av e
 rw [setv_lookup]
 rw [List.lookup_cons] at e
 by_cases q:y=x
 ·subst q; rw [if_pos rfl]; simpa using e
 ·rw [if_neg q]
  rw [beq_false_of_ne q] at e
  exact h y av e
theorem cons_sub {x:Str} {a:AV} {V:List (Str × AV)} (h:V.lookup x=none):VSub V ((x,a) :: V):=by
 intro y av e
 rw [List.lookup_cons]
 by_cases q:y=x
 ·subst q; rw [h] at e; cases e
 ·rw [beq_false_of_ne q]; exact e
noncomputable def nameOf:PySem.Expr->Str
 | .Name x _=>x
 | _=>Str.empty
theorem isNm_of {t:PySem.Expr}:isNm t=true->∃ y p,t=.Name y p:=by
 induction t using PySem.Expr.casesOn with
 | Name y p=>exact fun _=>⟨y,p,rfl⟩
 | _=>exact fun h=>Internal.ft h
theorem nm_gTgt {t:PySem.Expr} (hn:isNm t=true) (hl:φ.sc.names.lookup (nameOf t)=some .local) (d:D) (st:St):gTgt φ t d st []=some ((),{ st with vars:=setv (nameOf t) (.d d) st.vars },[],[]):=by
 obtain ⟨y,p,rfl⟩:=isNm_of hn
 show gStore φ y (.d d) st []=_
 unfold gStore
 rw [show φ.sc.names.lookup y=some .local from hl]
 rfl
theorem tgt_name {α:Type} {t:PySem.Expr} {gD:α->D} {V0:List (Str × AV)} {xs:List α} (hn:isNm t=true) (hl:φ.sc.names.lookup (nameOf t)=some .local) (h0:V0.lookup (nameOf t)=none) :
  TgtOk φ t gD V0 (fun x=>(nameOf t,.d (gD x)) :: V0) xs:=by
 intro x _
 exact ⟨cons_sub h0,fun V1 fz m nx hV=>⟨setv (nameOf t) (.d (gD x)) V1,nm_gTgt hn hl _ _,setv_sub hV⟩⟩
noncomputable def tupOf:PySem.Expr->List Str
 | .Tuple es _ _=>(tupNames es).getD []
 | _=>[]
noncomputable def tupOk:PySem.Expr->Bool
 | .Tuple es _ _=>(tupNames es).isSome
 | _=>false
theorem gStores_some:∀ (xs:List Str) (ds:List D) (V1:List (Str × AV)) (fz:List Str) (m:Nat->MO) (nx:Nat) (V:List (Str × AV)),(∀ x ∈ xs,φ.sc.names.lookup x=some .local)->xs.length=ds.length->VSub V V1 ->
  ∃ V2,gStores φ xs ds ⟨V1,fz,m,nx⟩ []=some ((),⟨V2,fz,m,nx⟩,[],[]) /\ VSub ((xs.zip (ds.map AV.d)).reverse ++ V) V2
 | [],[],V1,fz,m,nx,V,_,_,hV=>⟨V1,rfl,hV⟩
 | x :: xs,d :: ds,V1,fz,m,nx,V,hl,hlen,hV=>by
  obtain ⟨V2,e,s⟩:=gStores_some xs ds (setv x (.d d) V1) fz m nx ((x,.d d) :: V) (fun y hy=>hl y (List.mem_cons_of_mem _ hy)) (by simpa using hlen) (setv_sub hV)
  refine ⟨V2,?_,?_⟩
  ·show (G.bind (gStore φ x (.d d)) fun _=>gStores φ xs ds) _ _=_
   unfold G.bind gStore
   rw [hl x (List.mem_cons_self ..)]
   dsimp only
   rw [e]
   rfl
  ·rw [List.map_cons,List.zip_cons_cons,List.reverse_cons,List.append_assoc]
   exact s
 | [],_ :: _,_,_,_,_,_,_,h,_=>by cases h
 | _ :: _,[],_,_,_,_,_,_,h,_=>by cases h
theorem tup_gTgt {t:PySem.Expr}:tupOk t=true->∀ ds:List D,gTgt φ t (.tup ds)=gStores φ (tupOf t) ds /\ gTgt φ t (.lst ds)=gStores φ (tupOf t) ds:=by
 induction t using PySem.Expr.casesOn with
 | Tuple es c p=>
  intro hn ds
  obtain ⟨ns,hns⟩:=Option.isSome_iff_exists.mp (show (tupNames es).isSome=true from hn)
  have e0:tupOf (.Tuple es c p)=ns:=by show (tupNames es).getD []=ns; rw [hns]; rfl
  rw [e0]
  refine ⟨?_,?_⟩
  ·show gOpt (tupNames es) (fun xs=>gOpt (seqOf (.d (.tup ds))) (fun ds=>gStores φ xs ds) G.fail) G.fail=_
   rw [hns]
   rfl
  ·show gOpt (tupNames es) (fun xs=>gOpt (seqOf (.d (.lst ds))) (fun ds=>gStores φ xs ds) G.fail) G.fail=_
   rw [hns]
   rfl
 | _=>exact fun h=>Internal.ft h
theorem tgt_tup {α:Type} {t:PySem.Expr} {gs:α->List D} {V0:List (Str × AV)} {xs:List α} (hn:tupOk t=true) (hl:∀ x ∈ tupOf t,φ.sc.names.lookup x=some .local) (hlen:∀ x ∈ xs,(tupOf t).length=(gs x).length) {V:α->List (Str × AV)}
  (h0:∀ x ∈ xs,VSub V0 (V x)) (hV:∀ x ∈ xs,VSub (V x) (((tupOf t).zip ((gs x).map AV.d)).reverse ++ V0)):TgtOk φ t (fun x=>.tup (gs x)) V0 V xs:=by
 intro x hx
 refine ⟨h0 x hx,fun V1 fz m nx hV1=>?_⟩
 obtain ⟨V2,e,s⟩:=gStores_some (φ:=φ) (tupOf t) (gs x) V1 fz m nx V0 hl (hlen x hx) hV1
 exact ⟨V2,(congrFun (congrFun (tup_gTgt hn _).1 _) _).trans e,(hV x hx).trans s⟩
theorem cloop_pure {α:Type} {step:D->St->St->Prop} {a:AV} {ds0:List D} {V0:List (Str × AV)} {fz:List Str} {m:Nat->MO} {n0:Nat} {gD:α->D} {acc:α->List D} (hd:DSrc m n0 a ds0):∀ (xs:List α) (V1:List (Str × AV)) (l:List D),VSub V0 V1 ->
  l.length+(xs.flatMap acc).length<=100000 ->
  (∀ x ∈ xs,∀ V1 l,VSub V0 V1->l.length+(acc x).length<=100000->∃ V2,VSub V0 V2 /\ step (gD x) ⟨V1,fz,upd m n0 (.list l),n0+1⟩ ⟨V2,fz,upd m n0 (.list (l ++ acc x)),n0+1⟩) ->
  ∃ V2,VSub V0 V2 /\ CLoop step a ds0 (xs.map gD) ⟨V1,fz,upd m n0 (.list l),n0+1⟩ ⟨V2,fz,upd m n0 (.list (l ++ xs.flatMap acc)),n0+1⟩
 | [],V1,l,hV,_,_=>⟨V1,hV,by rw [List.flatMap_nil,List.append_nil]; exact .nil hd.lay⟩
 | x :: xs,V1,l,hV,hsz,hs=>by
  rw [List.flatMap_cons,List.length_append] at hsz
  obtain ⟨V2,h2,s2⟩:=hs x (List.mem_cons_self ..) V1 l hV (by omega)
  obtain ⟨V3,h3,s3⟩:=cloop_pure (V0:=V0) hd xs V2 (l ++ acc x) h2 (by rw [List.length_append]; omega) fun y hy=>hs y (List.mem_cons_of_mem _ hy)
  refine ⟨V3,h3,?_⟩
  rw [List.flatMap_cons,<- List.append_assoc]
  exact .cons hd.lay s2 s3
noncomputable def IfsOk {α:Type} (prog:Program) (w:World) (K:Frag) (btab:List (Str × Value)) (k:Nat) (φ:Fm) (ifs:List PySem.Expr) (V:α->List (Str × AV)) (fz:List Str) (m:Nat->MO) (n0:Nat) (p:α->Bool) (xs:List α):Prop:=
 (ifs = [] /\ ∀ x ∈ xs,p x=true) \/ ∃ c,ifs = [c] /\ ∀ x ∈ xs,∀ l,TTr prog w K btab k φ c ⟨V x,fz,upd m n0 (.list l),n0+1⟩ (p x) ⟨V x,fz,upd m n0 (.list l),n0+1⟩
theorem cstep_pure {α:Type} {g:Comprehension} {inner:St->St->Prop} {gD:α->D} {V0:List (Str × AV)} {V:α->List (Str × AV)} {fz:List Str} {m:Nat->MO} {n0:Nat} {p:α->Bool} {acc:α->List D} {xs:List α} (ht:TgtOk φ g.target gD V0 V xs)
  (hi:IfsOk prog w K btab k φ g.ifs V fz m n0 p xs) (hin:∀ x ∈ xs,p x=true->∀ V1 l,VSub (V x) V1->l.length+(acc x).length<=100000->∃ V2,VSub V0 V2 /\ inner ⟨V1,fz,upd m n0 (.list l),n0+1⟩ ⟨V2,fz,upd m n0 (.list (l ++ acc x)),n0+1⟩) :
  ∀ x ∈ xs,∀ V1 l,VSub V0 V1->l.length+(if p x then acc x else []).length<=100000->∃ V2,VSub V0 V2 /\ CStep prog w K btab k φ g inner (gD x) ⟨V1,fz,upd m n0 (.list l),n0+1⟩ ⟨V2,fz,upd m n0 (.list (l ++ if p x then acc x else [])),n0+1⟩:=by
 intro x hx V1 l hV hsz
 obtain ⟨h0,ht⟩:=ht x hx
 obtain ⟨V2,e,s⟩:=ht V1 fz (upd m n0 (.list l)) (n0+1) hV
 rcases hi with ⟨hi,hp⟩ | ⟨c,hi,hc⟩
 ·rw [hp x hx] at hsz ⊢
  simp only [if_true] at hsz ⊢
  obtain ⟨V3,q1,q2⟩:=hin x hx (hp x hx) V2 l s hsz
  exact ⟨V3,q1,_,e,.inl ⟨hi,q2⟩⟩
 ·cases hp:p x with
  | true=>
   rw [hp] at hsz
   simp only [if_true] at hsz ⊢
   obtain ⟨V3,q1,q2⟩:=hin x hx hp (V x) l (.refl _) hsz
   have:=(hc x hx l).pre s
   rw [hp] at this
   exact ⟨V3,q1,_,e,.inr ⟨c,_,true,hi,this,.inl ⟨rfl,q2⟩⟩⟩
  | false=>
   refine ⟨V x,h0,_,e,.inr ⟨c,_,false,hi,?_,.inr ⟨rfl,rfl⟩⟩⟩
   have:=(hc x hx l).pre s
   rw [hp] at this
   simpa using this
theorem cemit_pure {elt:PySem.Expr} {V V1:List (Str × AV)} {fz:List Str} {m:Nat->MO} {n0:Nat} {r:D} {l:List D} (h:ETr prog w K btab k φ elt ⟨V,fz,upd m n0 (.list l),n0+1⟩ (.d r) ⟨V,fz,upd m n0 (.list l),n0+1⟩) (s:VSub V V1) (hsz:l.length+1<=100000) :
  CEmit prog w K btab k φ n0 elt ⟨V1,fz,upd m n0 (.list l),n0+1⟩ ⟨V,fz,upd m n0 (.list (l ++ [r])),n0+1⟩:=
 ⟨r,_,l,h.pre s,Nat.lt_succ_self _,upd_at _ _ _,hsz,by rw [upd_same]⟩
end
end
section
section
variable {prog:Program} {w:World} {K:Frag} {btab:List (Str × Value)} {k:Nat} {φ:Fm}
theorem flat_if {α β:Type} (p:α->Bool) (f:α->β):∀ xs:List α,xs.flatMap (fun x=>if p x then [f x] else [])=(xs.filter p).map f
 | []=>rfl
 | x :: xs=>by
  rw [List.flatMap_cons,flat_if p f xs]
  cases h:p x with
  | true=>rw [List.filter_cons_of_pos h]; rfl
  | false=>rw [List.filter_cons_of_neg (by rw [h]; exact Bool.false_ne_true)]; rfl
theorem flat_le {α β:Type} {n:Nat} {acc:α->List β}:∀ {xs:List α},(∀ x ∈ xs,(acc x).length<=n)->(xs.flatMap acc).length<=xs.length * n
 | [],_=>by simp
 | x :: xs,h=>by
  rw [List.flatMap_cons,List.length_append,List.length_cons,Nat.add_mul]
  have:=h x (List.mem_cons_self ..)
  have:=flat_le (xs:=xs) fun y hy=>h y (List.mem_cons_of_mem _ hy)
  omega
theorem loop1 {α:Type} {c:PySem.Expr} {st:St} {a:AV} {xs:List α} {gD:α->D} {p:α->Bool} {f:α->D} {V:α->List (Str × AV)} (hr:lcRest c = []) (hd:DSrc st.m st.nx a (xs.map gD))
  (ht:TgtOk (compFm φ (lcScope c)) (lcFirst c).target gD (compVars φ st.vars (lcScope c)) V xs)
  (hi:IfsOk prog w K btab k (compFm φ (lcScope c)) (lcFirst c).ifs V (compFz φ (lcScope c)) st.m st.nx p xs)
  (he:∀ x ∈ xs,p x=true->∀ l,ETr prog w K btab k (compFm φ (lcScope c)) (lcElt c) ⟨V x,compFz φ (lcScope c),upd st.m st.nx (.list l),st.nx+1⟩ (.d (f x)) ⟨V x,compFz φ (lcScope c),upd st.m st.nx (.list l),st.nx+1⟩)
  (hsz:xs.length<=100000):∃ V2,CLoop (CStep prog w K btab k (compFm φ (lcScope c)) (lcFirst c) (CInner prog w K btab k (compFm φ (lcScope c)) st.nx (lcElt c) (lcRest c))) a (xs.map gD) (xs.map gD) (compSt φ st (lcScope c))
   ⟨V2,compFz φ (lcScope c),upd st.m st.nx (.list ((xs.filter p).map f)),st.nx+1⟩:=by
 rw [hr]
 have hlen:([]:List D).length+(xs.flatMap fun x=>if p x then [f x] else []).length<=100000:=by
  have:=flat_le (n:=1) (acc:=fun x=>if p x then [f x] else []) (xs:=xs) fun x _=>by split <;> simp
  rw [List.length_nil]
  omega
 obtain ⟨V2,-,h⟩:=cloop_pure (fz:=compFz φ (lcScope c)) (acc:=fun x=>if p x then [f x] else []) (step:=CStep prog w K btab k (compFm φ (lcScope c)) (lcFirst c) (CInner prog w K btab k (compFm φ (lcScope c)) st.nx (lcElt c) [])) hd xs (compVars φ st.vars (lcScope c)) [] (.refl _) hlen
  (cstep_pure (acc:=fun x=>[f x]) ht hi fun x hx hp V1 l hV hs=>⟨V x,(ht x hx).1,cemit_pure (he x hx hp l) hV hs⟩)
 rw [flat_if,List.nil_append] at h
 exact ⟨V2,h⟩
theorem inner_pure {β:Type} {g:Comprehension} {elt:PySem.Expr} {V:List (Str × AV)} {fz:List Str} {m:Nat->MO} {n0:Nat} {a:AV} {ys:List β} {gD:β->D} {p:β->Bool} {f:β->D} {V':β->List (Str × AV)} (hns:noSet g.iter=true) (has:g.is_async=0)
  (hit:∀ l,ETr prog w K btab k φ g.iter ⟨V,fz,upd m n0 (.list l),n0+1⟩ a ⟨V,fz,upd m n0 (.list l),n0+1⟩) (hd:DSrc m n0 a (ys.map gD)) (ht:TgtOk φ g.target gD V V' ys) (hi:IfsOk prog w K btab k φ g.ifs V' fz m n0 p ys)
  (he:∀ y ∈ ys,p y=true->∀ l,ETr prog w K btab k φ elt ⟨V' y,fz,upd m n0 (.list l),n0+1⟩ (.d (f y)) ⟨V' y,fz,upd m n0 (.list l),n0+1⟩) :
  ∀ V1 l,VSub V V1->l.length+((ys.filter p).map f).length<=100000->∃ V2,VSub V V2 /\ CInner prog w K btab k φ n0 elt [g] ⟨V1,fz,upd m n0 (.list l),n0+1⟩ ⟨V2,fz,upd m n0 (.list (l ++ (ys.filter p).map f)),n0+1⟩:=by
 intro V1 l hV hsz
 rw [<- flat_if] at hsz ⊢
 obtain ⟨V2,h2,h⟩:=cloop_pure (fz:=fz) (acc:=fun x=>if p x then [f x] else []) (step:=CStep prog w K btab k φ g (CInner prog w K btab k φ n0 elt [])) hd ys V l (.refl _) hsz
  (cstep_pure (acc:=fun x=>[f x]) ht hi fun x hx hp V1 l hV hs=>⟨V' x,(ht x hx).1,cemit_pure (he x hx hp l) hV hs⟩)
 exact ⟨V2,h2,a,_,ys.map gD,hns,has,(hit l).pre hV,hd.lay,h⟩
theorem loop2 {α β:Type} {c:PySem.Expr} {st:St} {a:AV} {xs:List α} {gD:α->D} {V:α->List (Str × AV)} {g:Comprehension} {a2:α->AV} {ys:α->List β} {gD2:α->β->D} {V2:α->β->List (Str × AV)} {p:α->β->Bool} {f:α->β->D} (hr:lcRest c = [g]) (hd:DSrc st.m st.nx a (xs.map gD))
  (ht:TgtOk (compFm φ (lcScope c)) (lcFirst c).target gD (compVars φ st.vars (lcScope c)) V xs) (hi:(lcFirst c).ifs = []) (hns:noSet g.iter=true) (has:g.is_async=0)
  (hit:∀ x ∈ xs,∀ l,ETr prog w K btab k (compFm φ (lcScope c)) g.iter ⟨V x,compFz φ (lcScope c),upd st.m st.nx (.list l),st.nx+1⟩ (a2 x) ⟨V x,compFz φ (lcScope c),upd st.m st.nx (.list l),st.nx+1⟩)
  (hd2:∀ x ∈ xs,DSrc st.m st.nx (a2 x) ((ys x).map (gD2 x))) (ht2:∀ x ∈ xs,TgtOk (compFm φ (lcScope c)) g.target (gD2 x) (V x) (V2 x) (ys x))
  (hi2:∀ x ∈ xs,IfsOk prog w K btab k (compFm φ (lcScope c)) g.ifs (V2 x) (compFz φ (lcScope c)) st.m st.nx (p x) (ys x))
  (he:∀ x ∈ xs,∀ y ∈ ys x,p x y=true->∀ l,ETr prog w K btab k (compFm φ (lcScope c)) (lcElt c) ⟨V2 x y,compFz φ (lcScope c),upd st.m st.nx (.list l),st.nx+1⟩ (.d (f x y)) ⟨V2 x y,compFz φ (lcScope c),upd st.m st.nx (.list l),st.nx+1⟩)
  (hsz:(xs.flatMap fun x=>((ys x).filter (p x)).map (f x)).length<=100000):∃ V2,CLoop (CStep prog w K btab k (compFm φ (lcScope c)) (lcFirst c) (CInner prog w K btab k (compFm φ (lcScope c)) st.nx (lcElt c) (lcRest c))) a (xs.map gD) (xs.map gD) (compSt φ st (lcScope c))
   ⟨V2,compFz φ (lcScope c),upd st.m st.nx (.list (xs.flatMap fun x=>((ys x).filter (p x)).map (f x))),st.nx+1⟩:=by
 rw [hr]
 obtain ⟨V3,-,h⟩:=cloop_pure (fz:=compFz φ (lcScope c)) (acc:=fun x=>((ys x).filter (p x)).map (f x)) (step:=CStep prog w K btab k (compFm φ (lcScope c)) (lcFirst c) (CInner prog w K btab k (compFm φ (lcScope c)) st.nx (lcElt c) [g])) hd xs (compVars φ st.vars (lcScope c)) [] (.refl _) (by rw [List.length_nil]; omega)
  (fun x hx V1 l hV hs=>by
   have:=cstep_pure (p:=fun _=>true) (acc:=fun x=>((ys x).filter (p x)).map (f x)) (inner:=CInner prog w K btab k (compFm φ (lcScope c)) st.nx (lcElt c) [g]) (prog:=prog) (w:=w) (K:=K) (btab:=btab) (k:=k) (fz:=compFz φ (lcScope c)) (m:=st.m) (n0:=st.nx) ht (.inl ⟨hi,fun _ _=>rfl⟩)
    (fun x hx _ V1 l hV hs=>by
     obtain ⟨V4,h4,h5⟩:=inner_pure hns has (hit x hx) (hd2 x hx) (ht2 x hx) (hi2 x hx) (he x hx) V1 l hV hs
     exact ⟨V4,(ht x hx).1.trans h4,h5⟩) x hx V1 l hV (by simpa using hs)
   simpa using this)
 rw [List.nil_append] at h
 exact ⟨V3,h⟩
theorem ETr.ofLoop {c:PySem.Expr} {st:St} {a:AV} {ds l:List D} (hc:lcOk φ c=true) (first:ETr prog w K btab k φ (lcFirst c).iter st a st) (hd:DSrc st.m st.nx a ds)
  (h:∃ V2,CLoop (CStep prog w K btab k (compFm φ (lcScope c)) (lcFirst c) (CInner prog w K btab k (compFm φ (lcScope c)) st.nx (lcElt c) (lcRest c))) a ds ds (compSt φ st (lcScope c)) ⟨V2,compFz φ (lcScope c),upd st.m st.nx (.list l),st.nx+1⟩):ETr prog w K btab k φ c st (.d (.lst l)) st:=by
 obtain ⟨V2,h⟩:=h
 have:=ETr.comp hc first hd h (upd_at _ _ _) true
 exact ETr.back (m':=upd (upd st.m st.nx (.list l)) st.nx .junk) (nx':=st.nx+1) this (Nat.le_succ _) (fun i hi=>by rw [upd_ne _ _ _ (Nat.ne_of_lt hi),upd_ne _ _ _ (Nat.ne_of_lt hi)]) (.d _)
theorem STr.ofLoop {s:Stmt} {st st':St} {a:AV} {ds l:List D} (has:asChk s=true) (hc:lcOk φ (asVal s)=true) (first:ETr prog w K btab k φ (lcFirst (asVal s)).iter st a st) (hd:DSrc st.m st.nx a ds)
  (h:∃ V2,CLoop (CStep prog w K btab k (compFm φ (lcScope (asVal s))) (lcFirst (asVal s)) (CInner prog w K btab k (compFm φ (lcScope (asVal s))) st.nx (lcElt (asVal s)) (lcRest (asVal s)))) a ds ds (compSt φ st (lcScope (asVal s))) ⟨V2,compFz φ (lcScope (asVal s)),upd st.m st.nx (.list l),st.nx+1⟩)
  (hst:gStore φ (asName s) (.d (.lst l)) { st with m:=upd st.m st.nx .junk,nx:=st.nx+1 } []=some ((),st',[],[])):STr prog w K btab k φ s st .next st':=by
 obtain ⟨V2,h⟩:=h
 refine STr.comp_ has hc first hd h (upd_at _ _ _) true ?_
 show gStore φ (asName s) (.d (.lst l)) { st with m:=upd (upd st.m st.nx (.list l)) st.nx .junk,nx:=st.nx+1 } []=_
 rw [upd_same]
 exact hst
theorem STr.ofLoopN {s:Stmt} {st st':St} {a:AV} {ds l:List D} (has:asChk s=true) (hc:lcOk φ (asVal s)=true) (first:ETr prog w K btab k φ (lcFirst (asVal s)).iter st a st) (hd:DSrc st.m st.nx a ds)
  (h:∃ V2,CLoop (CStep prog w K btab k (compFm φ (lcScope (asVal s))) (lcFirst (asVal s)) (CInner prog w K btab k (compFm φ (lcScope (asVal s))) st.nx (lcElt (asVal s)) (lcRest (asVal s)))) a ds ds (compSt φ st (lcScope (asVal s))) ⟨V2,compFz φ (lcScope (asVal s)),upd st.m st.nx (.list l),st.nx+1⟩)
  (hst:gStore φ (asName s) (.loc st.nx) { st with m:=upd st.m st.nx (.list l),nx:=st.nx+1 } []=some ((),st',[],[])):STr prog w K btab k φ s st .next st':=by
 obtain ⟨V2,h⟩:=h
 exact STr.comp_ has hc first hd h (upd_at _ _ _) false hst
end
end
section
structure EvO where
 ev:List Ev
 ob:List Prop
 h:AllP ob
noncomputable def evsOf (l:List EvO):List Ev:=l.flatMap EvO.ev
noncomputable def obsOf (l:List EvO):List Prop:=l.flatMap EvO.ob
theorem AllP.append {a b:List Prop} (x:AllP a) (y:AllP b):AllP (a ++ b):=by
 induction x with
 | nil=>exact y
 | cons h r ih=>exact .cons h ih
theorem allOf:∀ l:List EvO,AllP (obsOf l)
 | []=>.nil
 | x :: r=>by
  show AllP (List.flatMap EvO.ob (x :: r))
  rw [List.flatMap_cons]
  exact x.h.append (allOf r)
@[irreducible] noncomputable def exsI:=@exs
@[irreducible] noncomputable def evI:=@ev
@[irreducible] noncomputable def tvI:=@tv
section
variable {prog:Program} {w:World} {K:Frag} {btab:List (Str × Value)} {k:Nat} {φ:Fm}
theorem BTr.runE (n:Nat) {b:List Stmt} {st st':St} {fl:Fl} (l:List EvO) (e:exsI prog w K btab k n φ b st (evsOf l)=some (fl,st',[],obsOf l)):BTr prog w K btab k φ b st fl st':=by
 unfold exsI at e
 exact BTr.run n _ e (allOf l)
theorem ETr.runE (n:Nat) {e:PySem.Expr} {st st':St} {a:AV} (l:List EvO) (ev:evI prog w K btab k n φ e st (evsOf l)=some (a,st',[],obsOf l)):ETr prog w K btab k φ e st a st':=by
 unfold evI at ev
 exact ETr.run n _ ev (allOf l)
theorem TTr.runE (n:Nat) {e:PySem.Expr} {st st':St} {a:Bool} (l:List EvO) (ev:tvI prog w K btab k n φ e st (evsOf l)=some (a,st',[],obsOf l)):TTr prog w K btab k φ e st a st':=by
 unfold tvI at ev
 exact TTr.run n _ ev (allOf l)
theorem STr.forE {c:Stmt} {st st0 st':St} {fl:Fl} {a:AV} {ds:List D} (hc:forChk c=true) (hns:noSet (forIter c)=true) (n:Nat) (l:List EvO) (e:evI prog w K btab k n φ (forIter c) st (evsOf l)=some (a,st0,[],obsOf l))
  (hd:DSrc st0.m st0.nx a ds) (loop:ForTr prog w K btab k φ (forTgt c) (forBody c) a ds ds st0 fl st'):STr prog w K btab k φ c st fl st':=by
 unfold evI at e
 exact STr.for_ hc hns n _ e (allOf l) hd loop
theorem STr.forCiE {s:Stmt} {st st0 st':St} {fl:Fl} {c n:Nat} {f:Addr} {stop:Str} {N:Nat} (hs:forChk s=true) (hns:noSet (forIter s)=true) (hnm:isNm (forTgt s)=true) (hf:fnIn K f=true) (nn:Nat) (l:List EvO)
  (e:evI prog w K btab (k+1) nn φ (forIter s) st (evsOf l)=some (.loc c,st0,[],obsOf l)) (hc:c < st0.nx) (hm:st0.m c=.citer (.bm f n) stop \/ st0.m c=.cdone) (loop:ForCi prog w K btab k φ (forTgt s) (forBody s) c n f stop N st0 fl st'):STr prog w K btab (k+1) φ s st fl st':=by
 unfold evI at e
 exact STr.forCi hs hns hnm hf nn _ e (allOf l) hc hm loop
end
namespace EvO
noncomputable def br (b d:Bool) (h:b=d):EvO:=⟨[.br d],[b=d],ob1 h⟩
noncomputable def brT (p:Prop) [Decidable p] (h:p):EvO:=br (decide p) true (decide_eq_true h)
noncomputable def brF (p:Prop) [Decidable p] (h:¬ p):EvO:=br (decide p) false (decide_eq_false h)
noncomputable def obl {p:Prop} (h:p):EvO:=⟨[],[p],ob1 h⟩
noncomputable def lst (l:List D) (b:Bool) (h:l.length<=1000):EvO:=⟨[.br b],[l.length<=1000],ob1 h⟩
noncomputable def tup (l:List D) (h:l.length<=1000):EvO:=⟨[],[l.length<=1000],ob1 h⟩
noncomputable def fz (m:Nat->MO) (nx n:Nat) (l:List D) (h:m n=.list l) (hn:n < nx):EvO:=⟨[.mo (.list l)],[m n=.list l,n < nx],ob2 h hn⟩
noncomputable def keep:EvO:=⟨[.mo .junk],[],ob0⟩
noncomputable def pick (b:Bool):EvO:=⟨[.br b],[],ob0⟩
section
variable {prog:Program} {w:World} {K:Frag} {btab:List (Str × Value)} {k:Nat} {φ:Fm} {m m':Nat->MO} {nx nx':Nat}
noncomputable def stm {c:Stmt} {st st':St} {f:Fl} (h:STr prog w K btab k φ c st f st'):EvO:=⟨[.fl f st'],[STr prog w K btab k φ c st f st'],ob1 h⟩
noncomputable def comp {e:PySem.Expr} {st st':St} {r:AV} (h:ETr prog w K btab k φ e st r st'):EvO:=⟨[.val r st'.m st'.nx],[ETr prog w K btab k φ e st r st'],ob1 h⟩
noncomputable def lam {e:PySem.Expr} {st st':St} {r:AV} (h:ETr prog w K btab k φ e st r st'):EvO:=⟨[],[ETr prog w K btab k φ e st r st'],ob1 h⟩
noncomputable def call {f:AV} {args:List AV} {kws:List (Str × AV)} {r:AV} (h:CallTr prog w K btab k f args kws m nx r m' nx'):EvO:=⟨[.val r m' nx'],[CallTr prog w K btab k f args kws m nx r m' nx'],ob1 h⟩
noncomputable def meth {o:AV} {name:Str} {f:AV} (h:MethTr prog w K btab k o name m nx f [o] nx m):EvO:=⟨[.val f m nx,.val (.d (.bool true)) m nx],[MethTr prog w K btab k o name m nx f [o] nx m],ob1 h⟩
noncomputable def methA {o:AV} {name:Str} {f:AV} (h:MethTr prog w K btab k o name m nx f [] nx m):EvO:=⟨[.val f m nx,.val (.d (.bool false)) m nx],[MethTr prog w K btab k o name m nx f [] nx m],ob1 h⟩
noncomputable def attr {o:AV} {name:Str} {r:AV} (h:AttrTr prog w K btab k o name m nx r m' nx'):EvO:=⟨[.val r m' nx'],[AttrTr prog w K btab k o name m nx r m' nx'],ob1 h⟩
noncomputable def item {o i r:AV} (h:ItemTr prog w K btab k o i m nx r m' nx'):EvO:=⟨[.val r m' nx'],[ItemTr prog w K btab k o i m nx r m' nx'],ob1 h⟩
noncomputable def slice {o l u r:AV} (h:SliceTr prog w K btab k o l u m nx r m' nx'):EvO:=⟨[.val r m' nx'],[SliceTr prog w K btab k o l u m nx r m' nx'],ob1 h⟩
noncomputable def bin {g:Bool} {op:Operator} {a b r:AV} (h:BinTr prog w K btab k g op a b m nx r m' nx'):EvO:=⟨[.val r m' nx'],[BinTr prog w K btab k g op a b m nx r m' nx'],ob1 h⟩
noncomputable def cmp {op:CmpOp} {a b:AV} {c:Bool} (h:CmpTr prog w K btab k op a b m nx c m' nx'):EvO:=⟨[.val (.d (.bool c)) m' nx'],[CmpTr prog w K btab k op a b m nx c m' nx'],ob1 h⟩
noncomputable def truth {a:AV} {b:Bool} (h:TruthTr prog w K btab k a m nx b):EvO:=⟨[.br b],[TruthTr prog w K btab k a m nx b],ob1 h⟩
noncomputable def setattr {o x:AV} {name:Str} (h:SetAttrTr prog w K btab k o name x m nx m' nx'):EvO:=⟨[.val (.d .none) m' nx'],[SetAttrTr prog w K btab k o name x m nx m' nx'],ob1 h⟩
noncomputable def setitem {o i x:AV} (h:SetItemTr prog w K btab k o i x m nx m' nx'):EvO:=⟨[.val (.d .none) m' nx'],[SetItemTr prog w K btab k o i x m nx m' nx'],ob1 h⟩
end
end EvO
end
section
structure Cx where
 prog:Program
 w:World
 K:Frag
 bt:List (Str × Value)
 k:Nat
 m:Nat->MO
 nx:Nat
namespace Cx
variable (c:Cx)
noncomputable section
noncomputable abbrev Call (f:AV) (args:List AV) (r:AV) (m':Nat->MO) (nx':Nat):Prop:=CallTr c.prog c.w c.K c.bt c.k f args [] c.m c.nx r m' nx'
noncomputable abbrev Meth (o:AV) (name:Str) (f:AV):Prop:=MethTr c.prog c.w c.K c.bt c.k o name c.m c.nx f [o] c.nx c.m
noncomputable abbrev Item (o i r:AV):Prop:=ItemTr c.prog c.w c.K c.bt c.k o i c.m c.nx r c.m c.nx
noncomputable abbrev Cmp (op:CmpOp) (a b:AV) (r:Bool):Prop:=CmpTr c.prog c.w c.K c.bt c.k op a b c.m c.nx r c.m c.nx
noncomputable abbrev Bin (g:Bool) (op:Operator) (a b r:AV):Prop:=BinTr c.prog c.w c.K c.bt c.k g op a b c.m c.nx r c.m c.nx
noncomputable def callM (f:AV) (args:List AV) (r:AV) (m':Nat->MO) (nx':Nat) (h:c.Call f args r m' nx'):EvO:=.call h
noncomputable def addS (g:Bool) (x y z:Str) (h:x ++ y=z) (hz:x.length+y.length<=sizeLine):EvO:=.bin (show c.Bin g .Add (.d (.str x)) (.d (.str y)) (.d (.str z)) from h ▸ b_addS hz)
noncomputable def pow (i j r:Int) (h:i ^ j.toNat=r) (h0:0<=j) (hsz:(Builtin.Int.intBits i:Int) * j<=2 ^ 27):EvO:=.bin (show c.Bin false .Pow (.d (.int i)) (.d (.int j)) (.d (.int r)) from h ▸ b_pow h0 hsz)
noncomputable def addL (a b:AV) (xs ys:List D) (h1:DSrc c.m c.nx a xs) (l1:isLst a) (h2:DSrc c.m c.nx b ys) (l2:isLst b) (hsz:xs.length+ys.length<=100000):EvO:=.bin (show c.Bin false .Add a b (.d (.lst (xs ++ ys))) from b_addL h1 l1 h2 l2 hsz)
noncomputable def mSplit (x:Str):EvO:=.meth (show c.Meth (.d (.str x)) "split" _ from m_split)
noncomputable def mLower (x:Str):EvO:=.meth (show c.Meth (.d (.str x)) "lower" _ from m_lower)
noncomputable def mUpper (x:Str):EvO:=.meth (show c.Meth (.d (.str x)) "upper" _ from m_upper)
noncomputable def mJoin (x:Str):EvO:=.meth (show c.Meth (.d (.str x)) "join" _ from m_join)
noncomputable def mAppend (a:AV) (ds:List D) (hs:DSrc c.m c.nx a ds) (hl:isLst a):EvO:=.meth (show c.Meth a "append" _ from m_append hs hl)
noncomputable def mPop (a:AV) (ds:List D) (hs:DSrc c.m c.nx a ds) (hl:isLst a):EvO:=.meth (show c.Meth a "pop" _ from m_pop hs hl)
noncomputable def mInsert (a:AV) (ds:List D) (hs:DSrc c.m c.nx a ds) (hl:isLst a):EvO:=.meth (show c.Meth a "insert" _ from m_insert hs hl)
noncomputable def mIndex (a:AV) (ds:List D) (hs:DSrc c.m c.nx a ds) (hl:isLst a):EvO:=.meth (show c.Meth a "index" _ from m_index hs hl)
noncomputable def cSplit (x y:Str) (l:List Str) (h:Txt.split x y=l) (hy:(y.length == 0)=false) (hsz:x.length<=sizeLine) (hsz2:(Builtin.Str.partsBetween x (Builtin.Str.occurrences x y 0 x.length (x.length+1)) y.length).length<=sizeLine):EvO:=
 .call (show c.Call (.k (.builtin "str.split")) [.d (.str x),.d (.str y)] (.d (.lst (strDs l))) c.m c.nx from h ▸ c_split hy hsz hsz2)
noncomputable def cLower (x y:Str) (h:Txt.lower x=y) (hl:x.length<=5592405):EvO:=.call (show c.Call (.k (.builtin "str.lower")) [.d (.str x)] (.d (.str y)) c.m c.nx from h ▸ c_lower hl)
noncomputable def cUpper (x y:Str) (h:Txt.upper x=y) (hl:x.length<=5592405):EvO:=.call (show c.Call (.k (.builtin "str.upper")) [.d (.str x)] (.d (.str y)) c.m c.nx from h ▸ c_upper hl)
noncomputable def cJoin (x:Str) (a:AV) (xs:List Str) (y:Str) (h:Txt.join x xs=y) (hs:DSrc c.m c.nx a (strDs xs)) (hl:isLst a) (hok:(xs.map (·.length)).sum+xs.length * x.length<=16777216):EvO:=
 .call (show c.Call (.k (.builtin "str.join")) [.d (.str x),a] (.d (.str y)) c.m c.nx from h ▸ c_join hs hl hok)
noncomputable def cAppend (n:Nat) (ds:List D) (x:D) (hn:n < c.nx) (hm:c.m n=.list ds) (hsz:ds.length<=100000) (m':Nat->MO) (he:upd c.m n (.list (ds ++ [x]))=m'):EvO:=.call (show c.Call (.k (.builtin "list.append")) [.loc n,.d x] (.d .none) m' c.nx from he ▸ c_append hn hm hsz)
noncomputable def cPop (n:Nat) (ds:List D) (x:D) (hn:n < c.nx) (hm:c.m n=.list (ds ++ [x])) (hsz:ds.length < 100000) (m':Nat->MO) (he:upd c.m n (.list ds)=m'):EvO:=.call (show c.Call (.k (.builtin "list.pop")) [.loc n] (.d x) m' c.nx from he ▸ c_pop hn hm hsz)
noncomputable def cPopAt (n:Nat) (i:Int) (ds es:List D) (x:D) (hi:i=ds.length) (hn:n < c.nx) (hm:c.m n=.list (ds ++ x :: es)) (hsz:ds.length+es.length < 100000) (m':Nat->MO) (he:upd c.m n (.list (ds ++ es))=m'):EvO:=
 .call (show c.Call (.k (.builtin "list.pop")) [.loc n,.d (.int i)] (.d x) m' c.nx from he ▸ hi ▸ c_popAt hn hm hsz)
noncomputable def cInsert (n:Nat) (i:Int) (ds es:List D) (x:D) (hi:i=ds.length) (hn:n < c.nx) (hm:c.m n=.list (ds ++ es)) (hsz:ds.length+es.length < 100000) (m':Nat->MO) (he:upd c.m n (.list (ds ++ x :: es))=m'):EvO:=
 .call (show c.Call (.k (.builtin "list.insert")) [.loc n,.d (.int i),.d x] (.d .none) m' c.nx from he ▸ hi ▸ c_insert hn hm hsz)
noncomputable def cIndex (a:AV) (x:Str) (ys:List Str) (hs:DSrc c.m c.nx a (strDs ys)) (hl:isLst a) (hx:x ∈ ys) (hsz:ys.length<=100000):EvO:=
 .call (show c.Call (.k (.builtin "list.index")) [a,.d (.str x)] (.d (.int (ys.idxOf x:Nat))) c.m c.nx from c_indexS hs hl hx hsz)
noncomputable def len (a:AV) (ds:List D) (hs:DSrc c.m c.nx a ds) (hl:isLst a) (hsz:ds.length < 9000000000):EvO:=.call (show c.Call (.k (.builtin "len")) [a] (.d (.int ds.length)) c.m c.nx from c_len hs hl hsz)
noncomputable def range1 (b:Int):EvO:=.call (show c.Call (.k (.type "range")) [.d (.int b)] (.d (.rng 0 b 1)) c.m c.nx from c_range1)
noncomputable def range2 (a b:Int):EvO:=.call (show c.Call (.k (.type "range")) [.d (.int a),.d (.int b)] (.d (.rng a b 1)) c.m c.nx from c_range2)
noncomputable def range3 (a b d:Int) (hc:d ≠ 0) (hp:Builtin.divisionGoesByPylong (b - a) d=false):EvO:=.call (show c.Call (.k (.type "range")) [.d (.int a),.d (.int b),.d (.int d)] (.d (.rng a b d)) c.m c.nx from c_range3 hc hp)
noncomputable def intS (x:Str) (n:Int) (hn:PySem.intText? x=some n) (hl:x.length<=640):EvO:=.call (show c.Call (.k (.type "int")) [.d (.str x)] (.d (.int n)) c.m c.nx from c_int hn hl)
noncomputable def sum (a:AV) (ns:List Int) (hs:DSrc c.m c.nx a (ns.map D.int)) (hl:isLst a):EvO:=.call (show c.Call (.k (.builtin "sum")) [a] (.d (.int ns.sum)) c.m c.nx from c_sum hs hl)
noncomputable def type_ (d:D) (h:d.tyOk=true):EvO:=.call (show c.Call (.k (.type "type")) [.d d] (.k (.type d.tyName)) c.m c.nx from c_type h)
noncomputable def itemL (a:AV) (ds:List D) (i:Int) (j:Nat) (x:D) (hi:i=j) (hs:DSrc c.m c.nx a ds) (hl:isLst a) (hx:ds[j]? = some x) (hj:j < 9000000000):EvO:=.item (show c.Item a (.d (.int i)) (.d x) from hi ▸ i_lst hs hl hx hj)
noncomputable def item (ds:List D) (i:Int) (j:Nat) (x:D) (hi:i=j) (hx:ds[j]? = some x) (hj:j < 9000000000):EvO:=.item (show c.Item (.d (.lst ds)) (.d (.int i)) (.d x) from hi ▸ i_lst rfl trivial hx hj)
noncomputable def itemT (ds:List D) (i:Int) (j:Nat) (x:D) (hi:i=j) (hx:ds[j]? = some x) (hj:j < 9000000000):EvO:=.item (show c.Item (.d (.tup ds)) (.d (.int i)) (.d x) from hi ▸ i_tup hx hj)
noncomputable def itemS (x:Str) (i:Int) (hr:fitsSsize i=true) (hin:(Txt.charAt x i).isSome=true):EvO:=.item (show c.Item (.d (.str x)) (.d (.int i)) (.d (.str (Txt.item x i))) from i_str hr hin)
noncomputable def itemDI (n:Nat) (l:List (Int × D)) (i:Int) (x:D) (hn:n < c.nx) (hm:c.m n=.dictI l) (hx:l.lookup i=some x):EvO:=.item (show c.Item (.loc n) (.d (.int i)) (.d x) from i_dictI hn hm hx)
noncomputable def slc (a l u:AV) (ds:List D) (lo hi:Option Int) (hs:DSrc c.m c.nx a ds) (hl:isLst a) (h1:partOf l=some lo) (h2:partOf u=some hi) (hsz:ds.length<=100000):EvO:=
 .slice (show SliceTr c.prog c.w c.K c.bt c.k a l u c.m c.nx (.d (.lst (pickD ds lo hi))) c.m c.nx from s_lst hs hl h1 h2 hsz)
noncomputable def inS (y x:Str):EvO:=.cmp (show c.Cmp .In (.d (.str y)) (.d (.str x)) (Txt.contains x y) from q_inS)
noncomputable def inL (x:Str) (a:AV) (ys:List Str) (hs:DSrc c.m c.nx a (strDs ys)) (hl:isLst a):EvO:=.cmp (show c.Cmp .In (.d (.str x)) a (ys.any (· == x)) from q_inL hs hl)
noncomputable def notInL (x:Str) (a:AV) (ys:List Str) (hs:DSrc c.m c.nx a (strDs ys)) (hl:isLst a):EvO:=.cmp (show c.Cmp .NotIn (.d (.str x)) a (!(ys.any (· == x))) from q_notInL hs hl)
noncomputable def isNone (a:AV) (b:Bool) (e:isNoneA a=some b):EvO:=.cmp (show c.Cmp .Is a (.d .none) b from q_isNone e)
noncomputable def isNotNone (a:AV) (b:Bool) (e:isNoneA a=some b):EvO:=.cmp (show c.Cmp .IsNot a (.d .none) (!b) from q_isNotNone e)
noncomputable def isType (X Y:String):EvO:=.cmp (show c.Cmp .Is (.k (.type X)) (.k (.type Y)) (Value.type X == Value.type Y) from q_isType)
noncomputable def isNotType (X Y:String):EvO:=.cmp (show c.Cmp .IsNot (.k (.type X)) (.k (.type Y)) (!(Value.type X == Value.type Y)) from q_isNotType)
noncomputable def eqD (a b:AV) (d1 d2:D) (r:Bool) (hr:PySem.Spec.same (D.py d1) (D.py d2)=r) (h1:asD1 c.m c.nx a d1) (h2:asD1 c.m c.nx b d2) (p1:D.plain d1=true) (p2:D.plain d2=true) (s1:PySem.SeqAt.shaped (D.py d1)=true) (s2:PySem.SeqAt.shaped (D.py d2)=true) (hm:PySem.SeqAt.noMix (D.py d1) (D.py d2)=true):EvO:=
 .cmp (show c.Cmp .Eq a b r from hr ▸ q_eq h1 h2 p1 p2 s1 s2 hm)
noncomputable def neD (a b:AV) (d1 d2:D) (r:Bool) (hr:PySem.Spec.same (D.py d1) (D.py d2)=r) (h1:asD1 c.m c.nx a d1) (h2:asD1 c.m c.nx b d2) (p1:D.plain d1=true) (p2:D.plain d2=true) (s1:PySem.SeqAt.shaped (D.py d1)=true) (s2:PySem.SeqAt.shaped (D.py d2)=true) (hm:PySem.SeqAt.noMix (D.py d1) (D.py d2)=true):EvO:=
 .cmp (show c.Cmp .NotEq a b (!r) from hr ▸ q_ne h1 h2 p1 p2 s1 s2 hm)
noncomputable def truthL (a:AV) (ds:List D) (b:Bool) (hb:(!ds.isEmpty)=b) (hs:DSrc c.m c.nx a ds) (hl:isLst a) (hsz:ds.length < 9000000000):EvO:=.truth (show TruthTr c.prog c.w c.K c.bt c.k a c.m c.nx b from hb ▸ truth_lst hs hl hsz)
noncomputable def getA (n j:Nat) (C:Addr) (l:List (Str × AV)) (name:Str) (r:AV) (hn:n < c.nx) (h1:c.m n=.inst C j) (h2:c.m j=.ns l) (hl:l.lookup name=some r) (hk:notK r=true) (hc:attrOk c.K C name=true):EvO:=
 .attr (show AttrTr c.prog c.w c.K c.bt c.k (.loc n) name c.m c.nx r c.m c.nx from a_get hn h1 h2 hl hk hc)
noncomputable def boundA (n j:Nat) (C f:Addr) (l:List (Str × AV)) (name:Str) (hn:n < c.nx) (h1:c.m n=.inst C j) (h2:c.m j=.ns l) (hl:l.lookup name=none) (hc:boundOk c.K C name f=true):EvO:=
 .attr (show AttrTr c.prog c.w c.K c.bt c.k (.loc n) name c.m c.nx (.bm f n) c.m c.nx from a_bound hn h1 h2 hl hc)
noncomputable def mFn (n j:Nat) (C f:Addr) (l:List (Str × AV)) (name:Str) (hn:n < c.nx) (h1:c.m n=.inst C j) (h2:c.m j=.ns l) (hl:l.lookup name=none) (hc:methOk c.K C name f=true):EvO:=
 .meth (show c.Meth (.loc n) name (.k (.ref f)) from m_fn hn h1 h2 hl hc)
noncomputable def mAttr (n j:Nat) (C:Addr) (l:List (Str × AV)) (name:Str) (r:AV) (hn:n < c.nx) (h1:c.m n=.inst C j) (h2:c.m j=.ns l) (hl:l.lookup name=some r) (hk:notK r=true) (hc:attrOk c.K C name=true) (hno:findIn c.K (.ref C) name=some none):EvO:=
 .methA (show MethTr c.prog c.w c.K c.bt c.k (.loc n) name c.m c.nx r [] c.nx c.m from m_attr hn h1 h2 hl hk hc hno)
noncomputable def setA (n j:Nat) (C:Addr) (l l':List (Str × AV)) (name:Str) (x:AV) (m':Nat->MO) (hn:n < c.nx) (h1:c.m n=.inst C j) (h2:c.m j=.ns l) (hz:Nat.ble l.length 900=true) (hc:setOk c.K C name=true) (hl:setv name x l=l') (he:m'=upd c.m j (.ns l')):EvO:=
 .setattr (show SetAttrTr c.prog c.w c.K c.bt c.k (.loc n) name x c.m c.nx m' c.nx by
  subst hl he
  exact a_set hn h1 h2 (Nat.lt_of_le_of_lt (Nat.le_of_ble_eq_true hz) (by decide)) hc)
noncomputable def setDI (n:Nat) (l l':List (Int × D)) (i:Int) (x:D) (hl:storeD l i x=l') (hn:n < c.nx) (hm:c.m n=.dictI l) (hsz:l.length<=100000) (m':Nat->MO) (he:upd c.m n (.dictI l')=m'):EvO:=.setitem (show SetItemTr c.prog c.w c.K c.bt c.k (.loc n) (.d (.int i)) (.d x) c.m c.nx m' c.nx from he ▸ hl ▸ set_dictI hn hm hsz)
end
end Cx
end
section
section
variable {prog:Program} {w:World} {K:Frag} {btab:List (Str × Value)} {k:Nat} {φ:Fm}
theorem Tri.post {β:Type} {C:Wd->Nat->Prop} {t:Env->Sem β} {V V':List (Str × AV)} {fz:List Str} {m:Nat->MO} {nx:Nat} {st:St} {P:Wd->β->Prop} (h:Tri prog w K btab k φ C t st ⟨V',fz,m,nx⟩ P) (s:VSub V V'):Tri prog w K btab k φ C t st ⟨V,fz,m,nx⟩ P:=
 fun W A env sh Q E hA hS hF hc hq=>h W A env sh Q E hA hS hF hc fun W' h' tk' b n l S F r=>hq W' h' tk' b n l S (F.sub s) r
theorem BTr.post {b:List Stmt} {V V':List (Str × AV)} {fz:List Str} {m:Nat->MO} {nx:Nat} {st:St} {r:Fl} (h:BTr prog w K btab k φ b st r ⟨V',fz,m,nx⟩) (s:VSub V V'):BTr prog w K btab k φ b st r ⟨V,fz,m,nx⟩:=Tri.post h s
theorem STr.post {b:Stmt} {V V':List (Str × AV)} {fz:List Str} {m:Nat->MO} {nx:Nat} {st:St} {r:Fl} (h:STr prog w K btab k φ b st r ⟨V',fz,m,nx⟩) (s:VSub V V'):STr prog w K btab k φ b st r ⟨V,fz,m,nx⟩:=Tri.post h s
noncomputable def Takes (φ:Fm) (t:PySem.Expr) (d:D) (V V':List (Str × AV)):Prop:=∀ (V1:List (Str × AV)) (fz:List Str) (m:Nat->MO) (nx:Nat),VSub V V1->∃ V2,gTgt φ t d ⟨V1,fz,m,nx⟩ []=some ((),⟨V2,fz,m,nx⟩,[],[]) /\ VSub V' V2
theorem takes_name {t:PySem.Expr} {d:D} {V:List (Str × AV)} {x:Str} (hn:(isNm t && nameOf t == x)=true) (hl:φ.sc.names.lookup x=some .local):Takes φ t d V ((x,.d d) :: V):=by
 intro V1 fz m nx hV
 rw [Bool.and_eq_true,beq_iff_eq] at hn
 obtain ⟨hn,rfl⟩:=hn
 exact ⟨setv (nameOf t) (.d d) V1,nm_gTgt hn hl _ _,setv_sub hV⟩
theorem takes_tup {t:PySem.Expr} {ds:List D} {V:List (Str × AV)} (hn:tupOk t=true) (hl:∀ x ∈ tupOf t,φ.sc.names.lookup x=some .local) (hlen:(tupOf t).length=ds.length):Takes φ t (.tup ds) V (((tupOf t).zip (ds.map AV.d)).reverse ++ V):=by
 intro V1 fz m nx hV1
 obtain ⟨V2,e,s⟩:=gStores_some (φ:=φ) (tupOf t) ds V1 fz m nx V hl hlen hV1
 exact ⟨V2,(congrFun (congrFun (tup_gTgt hn _).1 _) _).trans e,s⟩
theorem for_fold {α σ:Type} {t:PySem.Expr} {b:List Stmt} {a:AV} {ds0:List D} {fz:List Str} {nx:Nat} {V:σ->List (Str × AV)} {M:σ->Nat->MO} {step:σ->α->σ} {gD:α->D} {VX:σ->α->List (Str × AV)}:∀ (xs:List α) (s:σ) (V0:List (Str × AV)),VSub (V s) V0 ->
  (∀ pre x post,xs=pre ++ x :: post->DSrc (M (pre.foldl step s)) nx a ds0 /\ Takes φ t (gD x) (V (pre.foldl step s)) (VX (pre.foldl step s) x) /\
   ∃ f V2,(f=.next \/ f=.cont) /\ BTr prog w K btab k φ b ⟨VX (pre.foldl step s) x,fz,M (pre.foldl step s),nx⟩ f ⟨V2,fz,M (step (pre.foldl step s) x),nx⟩ /\ VSub (V (step (pre.foldl step s) x)) V2) ->
  DSrc (M (xs.foldl step s)) nx a ds0 ->
  ∃ V9,VSub (V (xs.foldl step s)) V9 /\ ForTr prog w K btab k φ t b a ds0 (xs.map gD) ⟨V0,fz,M s,nx⟩ .next ⟨V9,fz,M (xs.foldl step s),nx⟩
 | [],s,V0,hV,_,hd=>⟨V0,hV,.done hd⟩
 | x :: xs,s,V0,hV,hb,hd=>by
  obtain ⟨d0,ht,f,V2,hf,hB,hs⟩:=hb [] x xs rfl
  obtain ⟨V1,e,s1⟩:=ht V0 fz (M s) nx hV
  obtain ⟨V9,h9,r⟩:=for_fold (V:=V) (M:=M) (step:=step) (gD:=gD) (VX:=VX) xs (step s x) V2 hs (fun pre y post e=>hb (x :: pre) y post (by rw [e]; rfl)) hd
  exact ⟨V9,h9,.step d0 e (hB.pre s1) hf r⟩
noncomputable def findFl {α:Type} (g:α->AV):Option α->Fl
 | some x=>.ret (g x)
 | none=>.next
theorem for_find {α:Type} {t:PySem.Expr} {b:List Stmt} {a:AV} {ds0:List D} {fz:List Str} {m:Nat->MO} {nx:Nat} {V:List (Str × AV)} {gD:α->D} {VX:α->List (Str × AV)} {p:α->Bool} {g:α->AV} (hd:DSrc m nx a ds0):∀ (xs:List α) (V0:List (Str × AV)),VSub V V0 ->
  (∀ x ∈ xs,Takes φ t (gD x) V (VX x) /\ (p x=false->∃ f V2,(f=.next \/ f=.cont) /\ BTr prog w K btab k φ b ⟨VX x,fz,m,nx⟩ f ⟨V2,fz,m,nx⟩ /\ VSub V V2) /\ (p x=true->∃ V2,BTr prog w K btab k φ b ⟨VX x,fz,m,nx⟩ (.ret (g x)) ⟨V2,fz,m,nx⟩ /\ VSub V V2)) ->
  ∃ V9,VSub V V9 /\ ForTr prog w K btab k φ t b a ds0 (xs.map gD) ⟨V0,fz,m,nx⟩ (findFl g (xs.find? p)) ⟨V9,fz,m,nx⟩
 | [],V0,hV,_=>⟨V0,hV,.done hd⟩
 | x :: xs,V0,hV,hb=>by
  obtain ⟨ht,h0,h1⟩:=hb x (List.mem_cons_self ..)
  obtain ⟨V1,e,s1⟩:=ht V0 fz m nx hV
  cases hp:p x with
  | true=>
   obtain ⟨V2,hB,hs⟩:=h1 hp
   refine ⟨V2,hs,?_⟩
   rw [List.find?_cons_of_pos hp]
   exact .stop hd e (hB.pre s1)
  | false=>
   obtain ⟨f,V2,hf,hB,hs⟩:=h0 hp
   obtain ⟨V9,h9,r⟩:=for_find hd xs V2 hs fun y hy=>hb y (List.mem_cons_of_mem _ hy)
   refine ⟨V9,h9,?_⟩
   rw [List.find?_cons_of_neg (by rw [hp]; exact Bool.false_ne_true)]
   exact .step hd e (hB.pre s1) hf r
theorem ftrue {α:Type}:∀ xs:List α,xs.filter (fun _=>true)=xs
 | []=>rfl
 | x :: xs=>by rw [List.filter_cons_of_pos rfl,ftrue xs]
theorem loop1n {α:Type} {c:PySem.Expr} {st:St} {a:AV} {xs:List α} {gD:α->D} {f:α->D} {V:α->List (Str × AV)} (hr:lcRest c = []) (hi:(lcFirst c).ifs = []) (hd:DSrc st.m st.nx a (xs.map gD))
  (ht:TgtOk (compFm φ (lcScope c)) (lcFirst c).target gD (compVars φ st.vars (lcScope c)) V xs)
  (he:∀ x ∈ xs,∀ l,ETr prog w K btab k (compFm φ (lcScope c)) (lcElt c) ⟨V x,compFz φ (lcScope c),upd st.m st.nx (.list l),st.nx+1⟩ (.d (f x)) ⟨V x,compFz φ (lcScope c),upd st.m st.nx (.list l),st.nx+1⟩)
  (hsz:xs.length<=100000):∃ V2,CLoop (CStep prog w K btab k (compFm φ (lcScope c)) (lcFirst c) (CInner prog w K btab k (compFm φ (lcScope c)) st.nx (lcElt c) (lcRest c))) a (xs.map gD) (xs.map gD) (compSt φ st (lcScope c))
   ⟨V2,compFz φ (lcScope c),upd st.m st.nx (.list (xs.map f)),st.nx+1⟩:=by
 have:=loop1 (p:=fun _=>true) (f:=f) hr hd ht (.inl ⟨hi,fun _ _=>rfl⟩) (fun x hx _=>he x hx) hsz
 rwa [ftrue] at this
theorem loop2n {α β:Type} {c:PySem.Expr} {st:St} {a:AV} {xs:List α} {gD:α->D} {V:α->List (Str × AV)} {g:Comprehension} {a2:α->AV} {ys:α->List β} {gD2:α->β->D} {V2:α->β->List (Str × AV)} {f:α->β->D} (hr:lcRest c = [g]) (hd:DSrc st.m st.nx a (xs.map gD))
  (ht:TgtOk (compFm φ (lcScope c)) (lcFirst c).target gD (compVars φ st.vars (lcScope c)) V xs) (hi:(lcFirst c).ifs = []) (hns:noSet g.iter=true) (has:g.is_async=0) (hi2:g.ifs = [])
  (hit:∀ x ∈ xs,∀ l,ETr prog w K btab k (compFm φ (lcScope c)) g.iter ⟨V x,compFz φ (lcScope c),upd st.m st.nx (.list l),st.nx+1⟩ (a2 x) ⟨V x,compFz φ (lcScope c),upd st.m st.nx (.list l),st.nx+1⟩)
  (hd2:∀ x ∈ xs,DSrc st.m st.nx (a2 x) ((ys x).map (gD2 x))) (ht2:∀ x ∈ xs,TgtOk (compFm φ (lcScope c)) g.target (gD2 x) (V x) (V2 x) (ys x))
  (he:∀ x ∈ xs,∀ y ∈ ys x,∀ l,ETr prog w K btab k (compFm φ (lcScope c)) (lcElt c) ⟨V2 x y,compFz φ (lcScope c),upd st.m st.nx (.list l),st.nx+1⟩ (.d (f x y)) ⟨V2 x y,compFz φ (lcScope c),upd st.m st.nx (.list l),st.nx+1⟩)
  (hsz:(xs.flatMap fun x=>(ys x).map (f x)).length<=100000):∃ V2,CLoop (CStep prog w K btab k (compFm φ (lcScope c)) (lcFirst c) (CInner prog w K btab k (compFm φ (lcScope c)) st.nx (lcElt c) (lcRest c))) a (xs.map gD) (xs.map gD) (compSt φ st (lcScope c))
   ⟨V2,compFz φ (lcScope c),upd st.m st.nx (.list (xs.flatMap fun x=>(ys x).map (f x))),st.nx+1⟩:=by
 have:=loop2 (p:=fun _ _=>true) (f:=f) hr hd ht hi hns has hit hd2 ht2 (fun x _=>.inl ⟨hi2,fun _ _=>rfl⟩) (fun x hx y hy _=>he x hx y hy) (by simp only [ftrue]; exact hsz)
 simp only [ftrue] at this
 exact this
theorem rng0 (n:Nat):rngD 0 n 1=(List.range n).map fun i:Nat=>D.int i:=by
 unfold rngD
 have:(Builtin.Range.rangeSize 0 n 1).toNat=n:=by
  unfold Builtin.Range.rangeSize
  simp
  try omega
 rw [this]
 simp
end
end
section
noncomputable abbrev Ran (α:Type):=α × List (Option AV) × List Str × (Nat->MO) × Nat × List Ev × List Prop
noncomputable def pickR {α:Type} (ns:List Str) (r:Option (α × St × List Ev × List Prop)):Option (Ran α):=match r with
 | some (a,st,sc,ob)=>some (a,ns.map (fun n=>st.vars.lookup n),st.fz,st.m,st.nx,sc,ob)
 | none=>none
theorem pickR_some {α:Type} {V:List (Str × AV)} {r:Option (α × St × List Ev × List Prop)} {a:α} {fz:List Str} {m:Nat->MO} {nx:Nat} {sc:List Ev} {ob:List Prop} (h:pickR (V.map (·.1)) r=some (a,V.map (fun p=>some p.2),fz,m,nx,sc,ob)) :
  ∃ V2,r=some (a,⟨V2,fz,m,nx⟩,sc,ob) /\ VSub V V2:=by
 match r,h with
 | some (a',⟨vs,fz',m',nx'⟩,sc',ob'),h=>
  unfold pickR at h
  simp only [Option.some.injEq,Prod.mk.injEq] at h
  obtain ⟨rfl,h2,rfl,rfl,rfl,rfl,rfl⟩:=h
  refine ⟨vs,rfl,?_⟩
  rw [List.map_map] at h2
  intro x av e
  have hm:=mem_of_lookup e
  have:=List.map_inj_left.mp h2 _ hm
  exact this
section
variable {prog:Program} {w:World} {K:Frag} {btab:List (Str × Value)} {k:Nat} {φ:Fm}
theorem BTr.runS (n:Nat) {b:List Stmt} {st:St} {V:List (Str × AV)} {fz:List Str} {m':Nat->MO} {nx':Nat} {fl:Fl} (l:List EvO) (e:pickR (V.map (·.1)) (exsI prog w K btab k n φ b st (evsOf l))=some (fl,V.map (fun p=>some p.2),fz,m',nx',[],obsOf l)) :
  BTr prog w K btab k φ b st fl ⟨V,fz,m',nx'⟩:=by
 obtain ⟨V2,e2,s⟩:=pickR_some e
 exact (BTr.runE n l e2).post s
theorem STr.forP {c:Stmt} {st:St} {V:List (Str × AV)} {fz:List Str} {m':Nat->MO} {nx':Nat} {fl:Fl} (a:AV) (ds:List D) (n:Nat) (l:List EvO) (hc:(forChk c && noSet (forIter c))=true) (e:evI prog w K btab k n φ (forIter c) st (evsOf l)=some (a,st,[],obsOf l))
  (hd:DSrc st.m st.nx a ds) (loop:∃ V9,VSub V V9 /\ ForTr prog w K btab k φ (forTgt c) (forBody c) a ds ds st fl ⟨V9,fz,m',nx'⟩):STr prog w K btab k φ c st fl ⟨V,fz,m',nx'⟩:=by
 rw [Bool.and_eq_true] at hc
 obtain ⟨V9,h9,loop⟩:=loop
 exact STr.post (STr.forE hc.1 hc.2 n l e hd loop) h9
end
end
theorem pick_run {α:Type}:∀ (n i:Nat) (ds:List α),((List.range n).map fun k=>i+k).filterMap (ds[·]?)=(ds.drop i).take n
 | 0,_,_=>by simp
 | n+1,i,ds=>by
  have e:(List.range (n+1)).map (fun k=>i+k)=i :: ((List.range n).map fun k=>i+1+k):=by
   rw [List.range_succ_eq_map,List.map_cons,List.map_map]
   congr 1
   apply List.map_congr_left
   intro k _
   simp only [Function.comp]
   omega
  rw [e,List.filterMap_cons,pick_run n (i+1) ds]
  cases q:ds[i]? with
  | none=>
   have:ds.length<=i:=by simpa using q
   rw [List.drop_of_length_le this,List.drop_of_length_le (by omega)]
   simp
  | some x=>
   obtain ⟨hi,hx⟩:=List.getElem?_eq_some_iff.mp q
   rw [List.drop_eq_getElem_cons hi,hx]
   rfl
theorem pick_of (ds:List D) (lo hi:Option Int) (i j:Nat) (hb:sliceBounds lo hi none ds.length=((i:Int),(j:Int),1)):pickD ds lo hi=(ds.drop i).take (j - i):=by
 unfold pickD
 rw [hb]
 dsimp only
 rw [<- pick_run]
 congr 1
 unfold sliceRange
 rw [if_pos (by decide)]
 have hc:(if (i:Int) < (j:Int) then ((j:Int) - i+1 - 1) / 1 else 0).toNat=j - i:=by
  split <;> omega
 dsimp only
 rw [hc]
 apply List.map_congr_left
 intro k _
 omega
theorem pick_ij (ds:List D) (i j:Nat) (hi:i<=ds.length) (hj:j<=ds.length):pickD ds (some i) (some j)=(ds.drop i).take (j - i):=by
 apply pick_of
 unfold sliceBounds
 simp only [Option.getD_none]
 have:¬ ((i:Int) < 0):=by omega
 have:¬ ((j:Int) < 0):=by omega
 simp [*]
 omega
theorem pick_i (ds:List D) (i:Nat) (hi:i<=ds.length):pickD ds (some i) none=ds.drop i:=by
 rw [pick_of ds (some i) none i ds.length ?_] at ⊢
 ·rw [List.take_of_length_le (by simp)] at ⊢
 ·unfold sliceBounds
  simp only [Option.getD_none]
  have:¬ ((i:Int) < 0):=by omega
  simp [*]
  omega
section
section
variable {prog:Program} {w:World} {K:Frag} {btab:List (Str × Value)} {k:Nat} {φ:Fm}
noncomputable def VKept (N:Nat) (V0 V' V₂:List (Str × AV)):Prop:=∀ x av,V₂.lookup x=some av->V'.lookup x=some av /\ (V0.lookup x=some av \/ Bd N av)
theorem FInv.kept {W W':Wd} {env:Env} {st st' st₂:St} {h h':Heap} (F0:FInv W φ env st h) (F:FInv W' φ env st' h') (L:Low st.m st.nx st'.m st'.nx st₂.m st₂.nx) (hf:st₂.fz=st'.fz) (hv:VKept st₂.nx st.vars st'.vars st₂.vars):FInv W' φ env st₂ h':=by
 obtain ⟨mm,hns,hm⟩:=F.locs
 obtain ⟨mm0,hns0,hm0⟩:=F0.locs
 refine ⟨F.scope,F.kind,F.globals,F.builtins,F.frame,F.code,F.own.low L,⟨mm,hns,fun x av e1 e2=>?_⟩,fun x hx=>?_,fun x av e1 e2=>?_⟩
 ·obtain ⟨e3,b⟩:=hv x av e2
  obtain ⟨v,q1,q2⟩:=hm x av e1 e3
  refine ⟨v,q1,q2.low ?_⟩
  rcases b with b | b
  ·obtain ⟨v0,_,q0⟩:=hm0 x av e1 b
   exact q0.bd.up L.h1
  ·exact b
 ·obtain ⟨cc,e,q⟩:=F.cells x hx
  obtain ⟨cc0,e0,q0⟩:=F0.cells x hx
  have bb:∀ av,st₂.vars.lookup x=some av->st'.vars.lookup x=some av /\ Bd st₂.nx av:=fun av ha=>by
   obtain ⟨e3,b⟩:=hv x av ha
   refine ⟨e3,?_⟩
   rcases b with b | b
   ·rcases q0 with ⟨_,q2⟩ | ⟨_,_,_,_,ov,_,q6⟩
    ·obtain ⟨_,_,_,_,z⟩:=q2 av b; exact z.bd.up L.h1
    ·obtain ⟨_,_,z⟩:=q6 av b; exact z.bd.up L.h1
   ·exact b
  refine ⟨cc,e,?_⟩
  rcases q with ⟨q1,q2⟩ | ⟨q1,q2,q3,q4,ov,hc,q6⟩
  ·exact .inl ⟨hf.symm ▸ q1,fun av e=>let ⟨e3,b⟩:=bb av e; let ⟨o,v,a1,a2,a3⟩:=q2 av e3; ⟨o,v,a1,a2,a3.low b⟩⟩
  ·exact .inr ⟨hf.symm ▸ q1,q2.low L,q3,q4,ov,hc,fun av e=>let ⟨e3,b⟩:=bb av e; let ⟨v,a1,a2⟩:=q6 av e3; ⟨v,a1,a2.low b⟩⟩
 ·obtain ⟨cc,o,v,a1,a2,a3,a4⟩:=F.free x av e1 e2
  exact ⟨cc,o,v,a1,a2,a3,a4.low ((F0.caps_bd e1 e2).up L.h1)⟩
theorem STr.gc {c:Stmt} {st st' st₂:St} {fl:Fl} (h:STr prog w K btab k φ c st fl st') (L:Low st.m st.nx st'.m st'.nx st₂.m st₂.nx) (hf:st₂.fz=st'.fz) (hv:VKept st₂.nx st.vars st'.vars st₂.vars) (bd:FBd st₂.nx fl):STr prog w K btab k φ c st fl st₂:=by
 intro W A env s Q E hA hS hF hc hq
 exact h W A env s Q E hA hS hF hc fun W' h' tk' g _ l S' F' r=>hq W' h' tk' g L.h1 l (hS.low S' L) (hF.kept F' L hf hv) (r.low bd)
theorem VKept.same {N:Nat} {V0 V':List (Str × AV)} (h:∀ x av,V'.lookup x=some av->V0.lookup x=some av \/ Bd N av):VKept N V0 V' V':=fun x av e=>⟨e,h x av e⟩
theorem VKept.set {N:Nat} {V:List (Str × AV)} {x:Str} {a:AV} (b:Bd N a):VKept N V (setv x a V) (setv x a V):=by
 refine .same fun y av e=>?_
 rw [setv_lookup] at e
 split at e
 ·cases e; exact .inr b
 ·exact .inl e
theorem STr.ofLoopP {s:Stmt} {V:List (Str × AV)} {fz:List Str} {m:Nat->MO} {nx:Nat} {a:AV} {ds l:List D} {x:Str} (has:(asChk s && asName s == x)=true) (hc:lcOk φ (asVal s)=true) (hl:φ.sc.names.lookup x=some .local) (first:ETr prog w K btab k φ (lcFirst (asVal s)).iter ⟨V,fz,m,nx⟩ a ⟨V,fz,m,nx⟩) (hd:DSrc m nx a ds)
  (h:∃ V2,CLoop (CStep prog w K btab k (compFm φ (lcScope (asVal s))) (lcFirst (asVal s)) (CInner prog w K btab k (compFm φ (lcScope (asVal s))) nx (lcElt (asVal s)) (lcRest (asVal s)))) a ds ds (compSt φ ⟨V,fz,m,nx⟩ (lcScope (asVal s))) ⟨V2,compFz φ (lcScope (asVal s)),upd m nx (.list l),nx+1⟩) :
  STr prog w K btab k φ s ⟨V,fz,m,nx⟩ .next ⟨setv x (.d (.lst l)) V,fz,m,nx⟩:=by
 rw [Bool.and_eq_true,beq_iff_eq] at has
 obtain ⟨has,rfl⟩:=has
 refine (STr.ofLoop (st':=⟨setv (asName s) (.d (.lst l)) V,fz,upd m nx .junk,nx+1⟩) has hc first hd h ?_).gc (.same (Nat.le_succ _) fun i hi=>upd_ne _ _ _ (Nat.ne_of_lt hi)) rfl (.set (.d _)) trivial
 unfold gStore
 rw [hl]
theorem STr.ofLoopC {s:Stmt} {V:List (Str × AV)} {fz:List Str} {m:Nat->MO} {nx:Nat} {a:AV} {ds l:List D} {x:Str} (has:(asChk s && asName s == x)=true) (hc:lcOk φ (asVal s)=true) (hl:φ.sc.names.lookup x=some .cell) (hfz:fz.contains x=false) (first:ETr prog w K btab k φ (lcFirst (asVal s)).iter ⟨V,fz,m,nx⟩ a ⟨V,fz,m,nx⟩) (hd:DSrc m nx a ds)
  (h:∃ V2,CLoop (CStep prog w K btab k (compFm φ (lcScope (asVal s))) (lcFirst (asVal s)) (CInner prog w K btab k (compFm φ (lcScope (asVal s))) nx (lcElt (asVal s)) (lcRest (asVal s)))) a ds ds (compSt φ ⟨V,fz,m,nx⟩ (lcScope (asVal s))) ⟨V2,compFz φ (lcScope (asVal s)),upd m nx (.list l),nx+1⟩) :
  STr prog w K btab k φ s ⟨V,fz,m,nx⟩ .next ⟨setv x (.d (.lst l)) V,fz,m,nx⟩:=by
 rw [Bool.and_eq_true,beq_iff_eq] at has
 obtain ⟨has,rfl⟩:=has
 refine (STr.ofLoop (st':=⟨setv (asName s) (.d (.lst l)) V,fz,upd m nx .junk,nx+1⟩) has hc first hd h ?_).gc (.same (Nat.le_succ _) fun i hi=>upd_ne _ _ _ (Nat.ne_of_lt hi)) rfl (.set (.d _)) trivial
 unfold gStore
 rw [hl]
 dsimp only
 rw [hfz]
end
end
section
section
variable {φ:Fm}
noncomputable def locB (φ:Fm) (x:Str):Bool:=match φ.sc.names.lookup x with
 | some .local=>true
 | _=>false
set_option tactic.hygienic true in
theorem locB_is {x:Str} (h:locB φ x=true):φ.sc.names.lookup x=some .local:=by
 unfold locB at h
 split at h
 ·rename_i e; exact e
 ·cases h
noncomputable def freshB (V:List (Str × AV)) (x:Str):Bool:=match V.lookup x with
 | none=>true
 | some _=>false
set_option tactic.hygienic true in
theorem freshB_is {V:List (Str × AV)} {x:Str} (h:freshB V x=true):V.lookup x=none:=by
 unfold freshB at h
 split at h
 ·rename_i e; exact e
 ·cases h
theorem app_sub {ns:List Str} {V0 l:List (Str × AV)} (hk:∀ p ∈ l,p.1 ∈ ns) (h0:ns.all (freshB V0)=true):VSub V0 (l ++ V0):=by
 intro x av e
 rw [List.lookup_append]
 cases q:l.lookup x with
 | none=>exact e
 | some a=>
  have:=freshB_is (List.all_eq_true.mp h0 x (hk _ (mem_of_lookup q)))
  rw [this] at e; cases e
theorem tgt_tupN {α:Type} {t:PySem.Expr} {gs:α->List D} {V0:List (Str × AV)} {xs:List α} (ns:List Str) (hn:(tupOk t && tupOf t == ns)=true) (hl:ns.all (locB φ)=true) (h0:ns.all (freshB V0)=true) (hlen:∀ x ∈ xs,ns.length=(gs x).length) :
  TgtOk φ t (fun x=>.tup (gs x)) V0 (fun x=>(ns.zip ((gs x).map AV.d)).reverse ++ V0) xs:=by
 rw [Bool.and_eq_true,beq_iff_eq] at hn
 obtain ⟨hn,rfl⟩:=hn
 exact tgt_tup hn (fun x hx=>locB_is (List.all_eq_true.mp hl x hx)) hlen (fun x hx=>app_sub (ns:=tupOf t) (fun p hp=>(List.of_mem_zip (show (p.1,p.2) ∈ _ from List.mem_reverse.mp hp)).1) h0) (fun x hx=>.refl _)
theorem tgt_nameN {α:Type} {t:PySem.Expr} {gD:α->D} {V0:List (Str × AV)} {xs:List α} (n:Str) (hn:(isNm t && nameOf t == n)=true) (hl:locB φ n=true) (h0:freshB V0 n=true):TgtOk φ t gD V0 (fun x=>(n,.d (gD x)) :: V0) xs:=by
 rw [Bool.and_eq_true,beq_iff_eq] at hn
 obtain ⟨hn,rfl⟩:=hn
 exact tgt_name hn (locB_is hl) (freshB_is h0)
theorem takes_tupN {t:PySem.Expr} {ds:List D} {V:List (Str × AV)} (ns:List Str) (hn:(tupOk t && tupOf t == ns)=true) (hl:ns.all (locB φ)=true) (hlen:ns.length=ds.length):Takes φ t (.tup ds) V ((ns.zip (ds.map AV.d)).reverse ++ V):=by
 rw [Bool.and_eq_true,beq_iff_eq] at hn
 obtain ⟨hn,rfl⟩:=hn
 exact takes_tup hn (fun x hx=>locB_is (List.all_eq_true.mp hl x hx)) hlen
theorem takes_nameN {t:PySem.Expr} {d:D} {V:List (Str × AV)} (n:Str) (hn:(isNm t && nameOf t == n)=true) (hl:locB φ n=true):Takes φ t d V ((n,.d d) :: V):=takes_name hn (locB_is hl)
end
end
section
mutual
noncomputable def D.nb:D->Bool
 | .bool _=>false
 | .rng _ _ _=>false
 | .tup l=>D.nbs l
 | .lst l=>D.nbs l
 | .str s=>PyData.strOk s
 | _=>true
noncomputable def D.nbs:List D->Bool
 | []=>true
 | x :: r=>D.nb x && D.nbs r
end
mutual
noncomputable def D.dep:D->Nat
 | .tup l=>D.deps l+1
 | .lst l=>D.deps l+1
 | _=>0
noncomputable def D.deps:List D->Nat
 | []=>0
 | x :: r=>max (D.dep x) (D.deps r)
end
mutual
theorem nb_plain:∀ {x:D},D.nb x=true->D.plain x=true
 | .none,_=>rfl
 | .bool _,h=>by cases h
 | .int _,_=>rfl
 | .str _,_=>rfl
 | .tup l,h=>nbs_plain (x:=l) h
 | .lst l,h=>nbs_plain (x:=l) h
 | .rng _ _ _,h=>by cases h
theorem nbs_plain:∀ {x:List D},D.nbs x=true->D.plains x=true
 | [],_=>rfl
 | x :: r,h=>by
  have h':(D.nb x && D.nbs r)=true:=h
  rw [Bool.and_eq_true] at h'
  show (D.plain x && D.plains r)=true
  rw [nb_plain h'.1,nbs_plain h'.2]; rfl
end
mutual
theorem nb_lay:∀ {x:D},D.nb x=true->(D.py x).canLay0=true
 | .none,_=>by simp only [D.py,PyData.canLay0]
 | .bool _,h=>by cases h
 | .int _,_=>by simp only [D.py,PyData.canLay0]
 | .str _,h=>by simp only [D.py,PyData.canLay0]; exact h
 | .tup l,h=>by simp only [D.py,PyData.canLay0]; exact nbs_lay (x:=l) h
 | .lst l,h=>by simp only [D.py,PyData.canLay0]; exact nbs_lay (x:=l) h
 | .rng _ _ _,h=>by cases h
theorem nbs_lay:∀ {x:List D},D.nbs x=true->PyData.canLayAll0 (D.pys x)=true
 | [],_=>by simp only [D.pys,PyData.canLayAll0]
 | x :: r,h=>by
  have h':(D.nb x && D.nbs r)=true:=h
  rw [Bool.and_eq_true] at h'
  simp only [D.pys,PyData.canLayAll0]
  rw [nb_lay h'.1,nbs_lay h'.2]; rfl
end
mutual
theorem dep_py:∀ x:D,(D.py x).depth=D.dep x
 | .none=>by simp only [D.py,PyData.depth,D.dep]
 | .bool _=>by simp only [D.py,PyData.depth,D.dep]
 | .int _=>by simp only [D.py,PyData.depth,D.dep]
 | .str _=>by simp only [D.py,PyData.depth,D.dep]
 | .tup l=>by simp only [D.py,PyData.depth,D.dep,deps_py l]
 | .lst l=>by simp only [D.py,PyData.depth,D.dep,deps_py l]
 | .rng _ _ _=>by simp only [D.py,PyData.depth,D.dep]
theorem deps_py:∀ l:List D,PyData.depthAll (D.pys l)=D.deps l
 | []=>by simp only [D.pys,PyData.depthAll,D.deps]
 | x :: r=>by simp only [D.pys,PyData.depthAll,D.deps,dep_py x,deps_py r]
end
theorem nb_shaped {x:D} (h:D.nb x=true) (hd:D.dep x<=64):PySem.SeqAt.shaped (D.py x)=true:=by
 unfold PySem.SeqAt.shaped
 rw [nb_lay h,dep_py,decide_eq_true hd]; rfl
mutual
theorem nb_mix:∀ {x y:D},D.nb x=true->D.nb y=true->PySem.SeqAt.noMix (D.py x) (D.py y)=true
 | x,y,hx,hy=>by
  induction x using D.casesOn with
  | bool _=>cases hx
  | rng _ _ _=>cases hx
  | lst l=>
   induction y using D.casesOn with
   | bool _=>cases hy
   | rng _ _ _=>cases hy
   | lst l'=>simp only [D.py,PySem.SeqAt.noMix]; exact nbs_mix (x:=l) (y:=l') hx hy
   | _=>simp only [D.py,PySem.SeqAt.noMix]
  | tup l=>
   induction y using D.casesOn with
   | bool _=>cases hy
   | rng _ _ _=>cases hy
   | tup l'=>simp only [D.py,PySem.SeqAt.noMix]; exact nbs_mix (x:=l) (y:=l') hx hy
   | _=>simp only [D.py,PySem.SeqAt.noMix]
  | _=>
   induction y using D.casesOn with
   | bool _=>cases hy
   | rng _ _ _=>cases hy
   | _=>simp only [D.py,PySem.SeqAt.noMix]
theorem nbs_mix:∀ {x y:List D},D.nbs x=true->D.nbs y=true->PySem.SeqAt.noMixAll (D.pys x) (D.pys y)=true
 | [],[],_,_=>by simp only [D.pys,PySem.SeqAt.noMixAll]
 | [],_ :: _,_,_=>by simp only [D.pys,PySem.SeqAt.noMixAll]
 | _ :: _,[],_,_=>by simp only [D.pys,PySem.SeqAt.noMixAll]
 | x :: xs,y :: ys,hx,hy=>by
  have hx':(D.nb x && D.nbs xs)=true:=hx
  have hy':(D.nb y && D.nbs ys)=true:=hy
  rw [Bool.and_eq_true] at hx' hy'
  simp only [D.pys,PySem.SeqAt.noMixAll]
  rw [nb_mix hx'.1 hy'.1,nbs_mix hx'.2 hy'.2]; rfl
end
mutual
theorem same_iff:∀ {x y:D},D.nb x=true->D.nb y=true->(PySem.Spec.same (D.py x) (D.py y)=true ↔ x=y)
 | x,y,hx,hy=>by
  induction x using D.casesOn with
  | bool _=>cases hx
  | rng _ _ _=>cases hx
  | lst l=>
   induction y using D.casesOn with
   | bool _=>cases hy
   | rng _ _ _=>cases hy
   | lst l'=>
    simp only [D.py,PySem.Spec.same]
    rw [sames_iff (x:=l) (y:=l') hx hy]
    exact ⟨fun e=>by rw [e],fun e=>by cases e; rfl⟩
   | _=>simp [D.py,PySem.Spec.same]
  | tup l=>
   induction y using D.casesOn with
   | bool _=>cases hy
   | rng _ _ _=>cases hy
   | tup l'=>
    simp only [D.py,PySem.Spec.same]
    rw [sames_iff (x:=l) (y:=l') hx hy]
    exact ⟨fun e=>by rw [e],fun e=>by cases e; rfl⟩
   | _=>simp [D.py,PySem.Spec.same]
  | _=>
   induction y using D.casesOn with
   | bool _=>cases hy
   | rng _ _ _=>cases hy
   | _=>simp [D.py,PySem.Spec.same]
theorem sames_iff:∀ {x y:List D},D.nbs x=true->D.nbs y=true->(PySem.Spec.sameAll (D.pys x) (D.pys y)=true ↔ x=y)
 | [],[],_,_=>by simp [D.pys,PySem.Spec.sameAll]
 | [],_ :: _,_,_=>by simp [D.pys,PySem.Spec.sameAll]
 | _ :: _,[],_,_=>by simp [D.pys,PySem.Spec.sameAll]
 | x :: xs,y :: ys,hx,hy=>by
  have hx':(D.nb x && D.nbs xs)=true:=hx
  have hy':(D.nb y && D.nbs ys)=true:=hy
  rw [Bool.and_eq_true] at hx' hy'
  simp only [D.pys,PySem.Spec.sameAll,Bool.and_eq_true,List.cons.injEq]
  rw [same_iff hx'.1 hy'.1,sames_iff hx'.2 hy'.2]
end
theorem nbs_of {l:List D} (h:∀ x ∈ l,D.nb x=true):D.nbs l=true:=by
 induction l with
 | nil=>rfl
 | cons x r ih=>
  show (D.nb x && D.nbs r)=true
  rw [h x (List.mem_cons_self ..),ih fun y hy=>h y (List.mem_cons_of_mem _ hy)]; rfl
theorem deps_of {l:List D} {n:Nat} (h:∀ x ∈ l,D.dep x<=n):D.deps l<=n:=by
 induction l with
 | nil=>exact Nat.zero_le _
 | cons x r ih=>
  show max (D.dep x) (D.deps r)<=n
  have:=h x (List.mem_cons_self ..)
  have:=ih fun y hy=>h y (List.mem_cons_of_mem _ hy)
  omega
noncomputable def Flat (x:D):Prop:=D.nb x=true /\ D.dep x<=3
theorem flat_lst {l:List D} (h:∀ x ∈ l,D.nb x=true /\ D.dep x<=2):Flat (.lst l):=⟨nbs_of fun x hx=>(h x hx).1,by
 show D.deps l+1<=3
 have:=deps_of fun x hx=>(h x hx).2
 omega⟩
namespace Cx
variable (c:Cx)
noncomputable section
noncomputable def eqF (a b:AV) (d1 d2:D) (r:Bool) (hr:r=true ↔ d1=d2) (h1:asD1 c.m c.nx a d1) (h2:asD1 c.m c.nx b d2) (f1:Flat d1) (f2:Flat d2):EvO:=
 c.eqD a b d1 d2 r (by have:=same_iff f1.1 f2.1; rw [<- hr] at this; exact Bool.eq_iff_iff.mpr this) h1 h2 (nb_plain f1.1) (nb_plain f2.1) (nb_shaped f1.1 (Nat.le_trans f1.2 (by decide))) (nb_shaped f2.1 (Nat.le_trans f2.2 (by decide))) (nb_mix f1.1 f2.1)
noncomputable def neF (a b:AV) (d1 d2:D) (r:Bool) (hr:r=true ↔ d1=d2) (h1:asD1 c.m c.nx a d1) (h2:asD1 c.m c.nx b d2) (f1:Flat d1) (f2:Flat d2):EvO:=
 c.neD a b d1 d2 r (by have:=same_iff f1.1 f2.1; rw [<- hr] at this; exact Bool.eq_iff_iff.mpr this) h1 h2 (nb_plain f1.1) (nb_plain f2.1) (nb_shaped f1.1 (Nat.le_trans f1.2 (by decide))) (nb_shaped f2.1 (Nat.le_trans f2.2 (by decide))) (nb_mix f1.1 f2.1)
end
end Cx
end
section
section
variable {prog:Program} {w:World} {K:Frag} {btab:List (Str × Value)} {k:Nat} {m:Nat->MO} {nx:Nat}
theorem c_typeL {n:Nat} {ds:List D} (hn:n < nx) (hm:m n=.list ds):CallTr prog w K btab k (.k (.type "type")) [.loc n] [] m nx (.k (.type "list")) m nx:=by
 refine call1 (act_same fun W A s tr Q E hA hS ⟨v,hv,htr⟩ hq=>?_)
 subst htr
 cases hv
 obtain ⟨vs,e,ho,_⟩:=loc_ex hS hn hm
 have ht:s.TypeIs (.ref (W.ι n)) "list" := ⟨_,ho,rfl⟩
 exact call_type_of ht (by decide) (hq s.heap s.toks _ (Keeps.refl _) (.k _))
noncomputable def patFs (K:Frag) (p:Addr):Array Value:=match K.lookup p with
 | some o=>(match o.data with | .fields vs=>vs | _=>#[])
 | none=>#[]
noncomputable def patCa (K:Frag) (p:Addr):Addr:=match (patFs K p).getD 5 .none with
 | .ref a=>a
 | _=>0
noncomputable def patCs (K:Frag) (p:Addr):Array Value:=match K.lookup (patCa K p) with
 | some o=>(match o.data with | .seq vs _=>vs | _=>#[])
 | none=>#[]
noncomputable def patChk (K:Frag) (p:Addr):Bool:=(match K.lookup p with
 | some o=>(o.cls == .type "re.Pattern") && (match o.dict with | none=>true | some _=>false) && (match o.data with | .fields vs=>(Builtin.Re.reRawNat (vs.getD 6 .none) == 0) && (match vs.getD 5 .none with | .ref _=>true | _=>false) | _=>false)
 | none=>false) && (match K.lookup (patCa K p) with
 | some o=>(match o.data with | .seq _ _=>true | _=>false)
 | none=>false)
theorem pat_of {p:Addr} (hc:patChk K p=true) (h1:∀ m:Sre.M,m.code=((patCs K p).map Builtin.Re.reRawOf).map (·.toNat)->m.hasFirstSet=true):Pat K p (patCa K p) (patCs K p):=by
 refine ⟨fun h X=>?_,h1⟩
 unfold patChk at hc
 rw [Bool.and_eq_true] at hc
 obtain ⟨hc1,hc2⟩:=hc
 cases q1:K.lookup p with
 | none=>rw [q1] at hc1; cases hc1
 | some o=>
  rw [q1] at hc1
  cases q2:K.lookup (patCa K p) with
  | none=>rw [q2] at hc2; cases hc2
  | some oc=>
   rw [q2] at hc2
   dsimp only at hc1 hc2
   rw [Bool.and_eq_true,Bool.and_eq_true] at hc1
   obtain ⟨⟨c1,c2⟩,c3⟩:=hc1
   have e1:o.cls=.type "re.Pattern" := eq_of_beq c1
   have e2:o.dict=none:=by revert c2; cases o.dict <;> simp
   cases hd:o.data with
   | fields vs=>
    rw [hd] at c3
    dsimp only at c3
    rw [Bool.and_eq_true] at c3
    obtain ⟨c4,c5⟩:=c3
    cases hdc:oc.data with
    | seq cs n=>
     have e3:patFs K p=vs:=by unfold patFs; rw [q1]; dsimp only; rw [hd]
     have e4:patCs K p=cs:=by unfold patCs; rw [q2]; dsimp only; rw [hdc]
     have e5:vs.getD 5 .none=.ref (patCa K p):=by
      unfold patCa
      rw [e3]
      revert c5
      cases vs.getD 5 .none <;> simp
     exact ⟨o,oc,vs,n,X _ _ q1,X _ _ q2,e1,e2,hd,eq_of_beq c4,e5,by rw [e4]; exact hdc⟩
    | _=>rw [hdc] at hc2; cases hc2
   | _=>rw [hd] at c3; cases c3
noncomputable def Prn (x:Str):Prop:=∀ c ∈ x.cps.toList,32<=c /\ c < 127
noncomputable def setChk (code:Array Nat) (c:Nat) (seen:Sre.Seen):Bool:=match Sre.inSet code c code.size 5 true seen with
 | .ok (false,_)=>true
 | _=>false
set_option tactic.hygienic true in
theorem noneIn_of {code:Array Nat} (h:∀ seen,((List.range 95).all fun i=>setChk code (i+32) seen)=true) {x:Str} (hx:Prn x):NoneIn code x.cps x.cps.size:=by
 intro j hj seen
 have hm:x.cps.getD j 0 ∈ x.cps.toList:=by
  rw [Array.getD_eq_getD_getElem?,Array.getElem?_eq_getElem hj]
  simp
 obtain ⟨h1,h2⟩:=hx _ hm
 have:=List.all_eq_true.mp (h seen) (x.cps.getD j 0 - 32) (List.mem_range.mpr (by omega))
 rw [show x.cps.getD j 0 - 32+32=x.cps.getD j 0 by omega] at this
 unfold setChk at this
 split at this
 ·rename_i s e; exact ⟨s,e⟩
 ·cases this
end
namespace Cx
variable (c:Cx)
noncomputable section
noncomputable def typeL (n:Nat) (ds:List D) (hn:n < c.nx) (hm:c.m n=.list ds):EvO:=.call (show c.Call (.k (.type "type")) [.loc n] (.k (.type "list")) c.m c.nx from c_typeL hn hm)
noncomputable def mSearch (p:Addr) (P:Pat c.K p (patCa c.K p) (patCs c.K p)):EvO:=.meth (show c.Meth (.k (.ref p)) "search" _ from m_search P)
noncomputable def cSearch (p:Addr) (P:Pat c.K p (patCa c.K p) (patCs c.K p)) (x:Str) (hn:NoneIn (((patCs c.K p).map Builtin.Re.reRawOf).map (·.toNat)) x.cps x.cps.size):EvO:=.call (show c.Call (.k (.builtin "re.Pattern.search")) [.k (.ref p),.d (.str x)] (.d .none) c.m c.nx from c_search P hn)
end
end Cx
end
section
noncomputable def topEs (K:Frag) (a:Addr):List (Str × Tok × Int × Tok):=match K.lookup a with
 | some o=>(match o.data with
  | .dict es _=>es.toList.filterMap fun e=>(match e.key,e.val with | .str s t,.int i u=>some (s,t,i,u) | _,_=>none)
  | _=>[])
 | none=>[]
noncomputable def topNo (K:Frag) (a:Addr):Nat:=match K.lookup a with
 | some o=>(match o.data with | .dict _ n=>n | _=>0)
 | none=>0
noncomputable def topEntry (w:World) (p:Str × Tok × Int × Tok):DictEntry:={ hash:=hashStr w p.1,key:=.str p.1 p.2.1,val:=.int p.2.2.1 p.2.2.2 }
noncomputable def topObj (w:World) (l:List (Str × Tok × Int × Tok)) (n:Nat):Obj:={ cls:=.type "dict",dict:=none,data:=.dict (l.map (topEntry w)).toArray n,slots:=#[] }
structure TopD (w:World) (K:Frag) (a:Addr) (l:List (Str × Int)):Prop where
 at_:K.lookup a=some (topObj w (topEs K a) (topNo K a))
 is:(topEs K a).map (fun p=>(p.1,p.2.2.1))=l
 nd:nodupB (l.map (·.1))=true
 ns:Nat.beq a sysModules=false
section
variable {prog:Program} {w:World} {K:Frag} {btab:List (Str × Value)} {k:Nat} {m:Nat->MO} {nx:Nat} {a:Addr} {l:List (Str × Int)}
theorem top_pairs (L:List (Str × Tok × Int × Tok)):Pairs (PySem.strKind prog w) (L.map (topEntry w)) (L.map fun p=>(p.1,Value.int p.2.2.1 p.2.2.2)):=by
 induction L with
 | nil=>exact .nil
 | cons p r ih=>exact .cons (by show (p.1 == p.1)=true; exact beq_self_eq_true _) rfl ih
theorem TopD.dict (T:TopD w K a l) {h:Heap} (X:K.In h):h.DictOf (PySem.strKind prog w) a ((topEs K a).map fun p=>(p.1,Value.int p.2.2.1 p.2.2.2)):=by
 refine ⟨_,_,_,X _ _ T.at_,⟨rfl,rfl,rfl⟩,rfl,fun e he=>?_,?_,?_⟩
 ·simp only [List.mem_toArray,List.mem_map] at he
  obtain ⟨p,_,rfl⟩:=he
  exact ⟨p.1,by show (p.1 == p.1)=true; exact beq_self_eq_true _,rfl⟩
 ·exact top_pairs _
 ·have:=nodupB_nd T.nd
  rw [<- T.is,List.map_map] at this
  rw [List.map_map]
  exact this
theorem top_vds {B:BM} (L:List (Str × Tok × Int × Tok)):VDs B ((L.map fun p=>(p.1,D.int p.2.2.1)).map (·.2)) ((L.map fun p=>(p.1,Value.int p.2.2.1 p.2.2.2)).map (·.2)):=by
 induction L with
 | nil=>exact .nil
 | cons p r ih=>exact .cons (.int _ _) ih
theorem TopD.look (T:TopD w K a l) (x:Str):((topEs K a).map fun p=>(p.1,D.int p.2.2.1)).lookup x=(l.lookup x).map D.int:=by
 rw [<- T.is]
 generalize topEs K a=L
 induction L with
 | nil=>rfl
 | cons p r ih=>
  rw [List.map_cons,List.map_cons,List.lookup_cons,List.lookup_cons]
  cases x == p.1 with
  | true=>rfl
  | false=>exact ih
theorem m_getTop (T:TopD w K a l):MethTr prog w K btab k (.k (.ref a)) "get" m nx (.k (.builtin "dict.get")) [.k (.ref a)] nx m:=by
 refine act_same fun W A s tr Q E hA hS ⟨vo,pl,hv,htr⟩ hq=>?_
 subst htr
 cases hv
 have X:=hS.facts.1
 have hd:=T.dict (prog:=prog) X
 refine getMethod_builtin hd.typeIs PySem.F.plainAttrs_dict PySem.F.slot_dict_get PySem.F.type_dict_get (fun b e=>by cases e; exact ⟨_,X _ _ T.at_,rfl⟩) ?_
 exact hq s.heap s.toks _ (Keeps.refl _) ⟨.k _,.cons (.k _) .nil⟩
theorem c_getTop (T:TopD w K a l) {x:Str} {i:Int}:CallTr prog w K btab k (.k (.builtin "dict.get")) [.k (.ref a),.d (.str x),.d (.int i)] [] m nx (.d (.int ((l.lookup x).getD i))) m nx:=by
 refine call3 (act_same fun W A s tr Q E hA hS ⟨u,v,y,hu,hv,hy,htr⟩ hq=>?_)
 subst htr
 obtain ⟨t,rfl⟩:=va_str hv
 cases hu
 have hd:=T.dict (prog:=prog) hS.facts.1
 have e1:((topEs K a).map fun p=>(p.1,Value.int p.2.2.1 p.2.2.2)).map (·.1)=((topEs K a).map fun p=>(p.1,D.int p.2.2.1)).map (·.1):=by rw [List.map_map,List.map_map]; rfl
 have e2:VDs W.B _ _:=top_vds (topEs K a)
 have fin:VA W nx (.d (.int ((l.lookup x).getD i))) ((valueAt ((topEs K a).map fun p=>(p.1,Value.int p.2.2.1 p.2.2.2)) x).getD y):=by
  have hl:=T.look x
  cases q:l.lookup x with
  | none=>rw [q] at hl; rw [value_none e1 e2 hl]; exact hy
  | some d=>rw [q] at hl; obtain ⟨v',a1,a2⟩:=value_at e1 e2 hl; rw [a1]; exact .d a2
 have hne:(a == sysModules)=false:=by
  have:=T.ns
  cases q:a == sysModules with
  | false=>rfl
  | true=>rw [eq_of_beq q] at this; simp at this
 exact call_meetsIn PySem.F.slot_dict_get hd.typeIs PySem.F.entry_dict_get (PySem.F.args_dict_get_3 _ _ _) (meets_dict_get_default (PySem.strKind prog w) (k:=x) _ (by show (x == x)=true; exact beq_self_eq_true x) hne _) ⟨_,hd.mapOf,hq s.heap _ _ (Keeps.refl _) fin⟩
end
namespace Cx
variable (c:Cx)
noncomputable section
noncomputable def mGetTop (a:Addr) (l:List (Str × Int)) (T:TopD c.w c.K a l):EvO:=.meth (show c.Meth (.k (.ref a)) "get" _ from m_getTop T)
noncomputable def cGetTop (a:Addr) (l:List (Str × Int)) (T:TopD c.w c.K a l) (x:Str) (i r:Int) (hr:(l.lookup x).getD i=r):EvO:=.call (show c.Call (.k (.builtin "dict.get")) [.k (.ref a),.d (.str x),.d (.int i)] (.d (.int r)) c.m c.nx from hr ▸ c_getTop T)
end
end Cx
end
section
noncomputable def dTree (kx vx:PySem.Expr) (Dt:Addr) (env:Env):Sem Unit:=do
 let kv <- eval kx env
 let vv <- holding [kv] (eval vx env)
 standAt { kx.pos with endLine:=vx.pos.endLine,endCol:=vx.pos.endCol }
 holding [kv,vv] (dictSet Dt kv vv)
noncomputable def dcompSt (φ:Fm) (st:St) (scope:Scope):St:=⟨compVars φ st.vars scope,compFz φ scope,upd st.m st.nx (.dictI []),st.nx+1⟩
section
variable (prog:Program) (w:World) (K:Frag) (btab:List (Str × Value)) (k:Nat) (φ:Fm)
noncomputable def DEmit (n0:Nat) (kx vx:PySem.Expr) (st st':St):Prop:=(Ex5 fun i x st1 st2 l=>A6 (ETr prog w K btab k φ kx st (.d (.int i)) st1) (ETr prog w K btab k φ vx st1 (.d x) st2) (n0 < st2.nx) (st2.m n0=.dictI l) (l.length < 100000) (st' = { st2 with m:=upd st2.m n0 (.dictI (storeD l i x)) }))
end
section
variable {prog:Program} {w:World} {K:Frag} {btab:List (Str × Value)} {k:Nat} {φ:Fm}
theorem newDict_at {M:Model} {A:Around} {E:Value->Shared->Prop} {s:Shared} {Q:Value->Shared->Prop} (h:Q (.ref s.heap.objs.size) { s with heap:=s.heap.push { cls:=.type "dict",data:=.dict #[] } }):wpAny M A newDict Q E s:=by
 unfold newDict
 exact wpAny_newObj_type h (by size_fits)
theorem demit_tr {n0:Nat} {kx vx:PySem.Expr} {Dt:Addr} {st st':St} (h:DEmit prog w K btab k φ n0 kx vx st st'):ITr prog w K btab k φ n0 (.ref Dt) (dTree kx vx Dt) st st':=by
 obtain ⟨i,x,st1,st2,l,h1,h2,h3,h4,h5,rfl⟩:=h
 intro W A env s Q E hA hS hF hc hq
 refine wpAny_bind (h1 W A env s _ E hA hS hF trivial fun W1 hp1 tk1 v n1 l1 S1 F1 hv=>?_)
 obtain ⟨t,rfl⟩:=va_int hv
 refine wpAny_bind (wpAny_holding (h2 W1 A env _ _ E hA S1 F1 trivial fun W2 hp2 tk2 u n2 l2 S2 F2 hu=>?_))
 refine wpAny_bind (wpAny_standAt (wpAny_holding ?_))
 have hacc:=(hc.mono n1 l1).mono n2 l2
 have hlt:n0 < st2.nx:=h3
 have ob:=S2.obj n0 h3
 rw [h4] at ob
 have eD:Dt=W2.ι n0:=by cases hacc; rfl
 subst eD
 obtain ⟨kvs,hk,e1,e2,ne⟩:=ob
 have el:=congrArg List.length e1
 simp only [List.length_map] at el
 cases hu with
 | d hd=>
  refine wpAny_dictSet_pairs (knd:=PySem.intKind prog w) (k:=i) (by show (i == i)=true; exact beq_self_eq_true i) hk (fun h' h1' h2'=>?_) (by rw [sizeLine_eq]; omega)
  obtain ⟨e3,e4⟩:=store_at (x:=i) hd e1 e2
  have hj:st2.m n0 ≠ .junk:=by rw [h4]; exact fun z=>by cases z
  exact hq W2 h' _ () (Nat.le_trans n1 n2) (l1.trans n1 l2) (S2.put (mo:=.dictI (storeD l i x)) h3 hj h2'.extBut ⟨_,h1',e3,e4,ne⟩) (F2.carry (Nat.le_refl _) (.refl _ _) (Carry.put h3 hj h2'.extBut)) trivial
theorem dcomp_loop {kx vx target iter:PySem.Expr} {ifs:List PySem.Expr} {scope:Scope} {pos:Pos} {n0:Nat} {Dt:Addr} {inner:St->St->Prop}
  (hin:∀ st st',inner st st'->ITr prog w K btab k φ n0 (.ref Dt) (dTree kx vx Dt) st st') {a:AV} {ds0:List D} {st0 st':St} {it:Addr} {W0:Wd} {A:Around} {env:Env} {s0:Shared} {R:Result->Shared->Prop} {o0:Obj}
  (hA:AOK k A) (S0:SInv prog w K btab W0 st0.m st0.nx s0.heap) (H0:Held W0 φ env st0 s0.heap it a 0 o0) (hacc:VA W0 st0.nx (.loc n0) (.ref Dt)) (hT:CLoop (CStep prog w K btab k φ ⟨target,iter,ifs,0⟩ inner) a ds0 ds0 st0 st')
  (hR:∀ W' h' tk',st0.nx<=st'.nx->Wd.le st0.nx W0 W'->SInv prog w K btab W' st'.m st'.nx h'->FInv W' φ env st' h'->R (.ok .next) { s0 with heap:=h',toks:=tk' }) :
  codeAny (model prog w) A (.compLoop (.DictComp kx vx [⟨target,iter,ifs,0⟩] scope pos) 0 (.ref it) (.ref Dt) env) R s0:=gen_loop rfl (compTurn_dict _ _ _ _ _ _ _ _ _ _) hin rfl hA S0 H0 hacc hT hR
theorem dcomp_start {kx vx target iter:PySem.Expr} {ifs:List PySem.Expr} {scope:Scope} {pos:Pos} {it:Addr} {acc:Value} {env:Env} {s:Shared} {A:Around} {R:Result->Shared->Prop} {W:Wd} {a:AV} {i:Nat} {o:Obj}
  (ho:s.heap.get? it=some o) (hi:ItO W a i o) (h0:codeAny (model prog w) A (.compLoop (.DictComp kx vx [⟨target,iter,ifs,0⟩] scope pos) 0 (.ref it) acc env) R s):codeAny (model prog w) A (.compStart (.DictComp kx vx [⟨target,iter,ifs,0⟩] scope pos) 0 (.ref it) acc env) R s:=by
 refine codeAny_of_tree ?_
 have hcl:(clausesOf (.DictComp kx vx [⟨target,iter,ifs,0⟩] scope pos))[0]? = some ⟨target,iter,ifs,0⟩:=rfl
 have key:∀ E,wpAny (model prog w) A (compStart (.DictComp kx vx [⟨target,iter,ifs,0⟩] scope pos) 0 (.ref it) acc env) (fun fin s'=>match fin with | .done f=>R (.ok f) s' | .again c'=>c'.quiet=true /\ codeAny (model prog w) A c' R s') E s:=by
  intro E
  unfold compStart
  rw [hcl]
  show wpAny _ _ (ask >>= _) _ _ s
  refine wpAny_bind (wpAny_askSetting (wpAny_ite ?_))
  split
  ·first
    | exact wpAny_bind (wpAny_pure (wpAny_pure (And.intro rfl h0)))
    | exact wpAny_pure (And.intro rfl h0)
  ·have hag:=ItO.again (prog:=prog) (w:=w) (A:=A) (E:=E) (s:=s) (Q:=fun it' s'=>codeAny (model prog w) A (.compLoop (.DictComp kx vx [⟨target,iter,ifs,0⟩] scope pos) 0 it' acc env) R s') ho hi h0
   first
    | exact wpAny_bind (wpAny_rule (wpAny_bind (wpAny_standAt (wpAny_bind (wpAny_mono hag (fun it' s' h'=>wpAny_pure (And.intro rfl h')) fun _ _ x=>x)))))
    | (refine wpAny_bind (wpAny_rule ?_); show wpAny _ _ (standAt iter.pos >>= _) _ _ s; exact wpAny_bind (wpAny_standAt (wpAny_bind (wpAny_mono hag (fun it' s' h'=>wpAny_pure (And.intro rfl h')) fun _ _ x=>x))))
 show wpAny _ A (if (Code.compStart (.DictComp kx vx [⟨target,iter,ifs,0⟩] scope pos) 0 (.ref it) acc env).isFrame=true then (compStart (.DictComp kx vx [⟨target,iter,ifs,0⟩] scope pos) 0 (.ref it) acc env).onRaise (leaving env) else (compStart (.DictComp kx vx [⟨target,iter,ifs,0⟩] scope pos) 0 (.ref it) acc env).onRaise (fun x=>do noteFrame x env; standAt theWindowsPlace)) _ _ s
 split
 ·exact wpAny_onRaise (key _)
 ·exact wpAny_onRaise (key _)
set_option tactic.hygienic true in
theorem dcomp_run {kx vx:PySem.Expr} {target iter:PySem.Expr} {ifs:List PySem.Expr} {scope:Scope} {pos:Pos} {st st0 st2:St} {a:AV} {ds:List D} (hok:compOk φ scope=true) (hns:noSet iter=true)
  (first:ETr prog w K btab k φ iter st a st0) (hd:DSrc st0.m st0.nx a ds)
  (loop:CLoop (CStep prog w K btab k (compFm φ scope) ⟨target,iter,ifs,0⟩ (DEmit prog w K btab k (compFm φ scope) st0.nx kx vx)) a ds ds (dcompSt φ st0 scope) st2) {use:Option (Value->Sem Unit)}
  {W:Wd} {A:Around} {env:Env} {s:Shared} {Q:Value->Shared->Prop} {E:Value->Shared->Prop} (hA:AOK k A) (hS:SInv prog w K btab W st.m st.nx s.heap) (hF:FInv W φ env st s.heap)
  (hq:∀ (W':Wd) (h5:Heap) (tk5:Nat) (C:Addr) (acc:Value),st.nx<=st0.nx->st0.nx < st2.nx->Wd.le st.nx W W'->SInv prog w K btab W' st2.m st2.nx h5->VA W' st2.nx (.loc st0.nx) acc->OwnAt W' st2.m st2.nx C->(∃ f,h5.Ns C f) ->
   (∀ ob,FInv (W'.hold C ob) φ env { st0 with m:=st2.m,nx:=st2.nx } h5)->compPost (model prog w) A E use Q acc C (.ok .next) { s with heap:=h5,toks:=tk5 }) :
  wpAny (model prog w) A (comprehension (.DictComp kx vx [⟨target,iter,ifs,0⟩] scope pos) scope env (firstIterPos [⟨target,iter,ifs,0⟩] pos) newDict false (eval iter env) use) Q E s:=by
 have hok':=hok
 unfold compOk at hok'
 simp only [Bool.and_eq_true] at hok'
 obtain ⟨⟨hkind,hnd⟩,hall⟩:=hok'
 have hnd:=nodupB_nd hnd
 have hall:=List.all_eq_true.mp hall
 have hkind:scope.kind=.function:=by revert hkind; cases scope.kind <;> first | exact fun _=>rfl | exact fun h=>by cases h
 have hcells:∀ x,(x,NameKind.free) ∈ scope.names->(env.cells.lookup x).isSome=true:=by
  intro x hx
  have:=hall _ hx
  dsimp only at this
  split at this
  ·rename_i e
   obtain ⟨c,e,_⟩:=hF.cells x e
   rw [e]; rfl
  ·rename_i e
   obtain ⟨av,hav⟩:=Option.isSome_iff_exists.mp this
   obtain ⟨c,o,v,a1,_⟩:=hF.free x av e hav
   rw [a1]; rfl
  ·cases this
 obtain ⟨cl,hcl1,hcl2⟩:=closure_pure env scope hcells
 refine wpAny_comprehension_free rfl (fun x=>noSet_folded hns env x) hcl1 hkind (fun x hx hl=>by obtain ⟨n,kd⟩:=x; dsimp only at hl; subst hl; exact lookup_of_mem_nd hnd hx) ?_
 refine first W A env s _ E hA hS hF trivial fun W1 h1 tk1 v n1 l1 S1 F1 hv=>?_
 have S1s:=S1.shut
 refine iter_start (s:={ s with heap:=h1,toks:=tk1 }) S1s hv.shut hd fun o hi hf=>?_
 have hit0:OwnAt (W1.shut st0.m st0.nx h1) st0.m st0.nx h1.objs.size:=S1s.fresh (get?_size h1)
 have S2:=S1s.keeps (Keeps.push h1 o)
 refine newDict_at ?_
 dsimp only
 obtain ⟨S3,l3,c3⟩:=S2.new (o:={ cls:=.type "dict",data:=.dict #[] }) (mo:=.dictI []) ⟨[],Heap.DictOf.new (h1.push o),rfl,.nil,S2.newAt⟩
 obtain ⟨hit3,hat3⟩:=c3 _ _ hit0 (Heap.get?_push_size _ hf)
 generalize hH3:(h1.push o).push { cls:=.type "dict",data:=.dict #[] }=H3 at S3 hat3 hit3 c3
 refine wpAny_newFunctionEnv (fun x hx hc=>by obtain ⟨n,kd⟩:=x; dsimp only at hc; subst hc; have:=hall _ hx; cases this) (by intro x hx; cases hx) (fun h4 hns4 hsb4=>?_) hkind
 have hC0:H3.get? H3.objs.size=none:=get?_size H3
 dsimp only at hns4 hsb4 ⊢
 have k34:Keeps H3 h4:=fun b ob e=>hsb4.extBut b ob (fun z=>by rw [z,hC0] at e; cases e) (Heap.get?_push_of_some _ e)
 have S4:=S3.keeps k34
 have hC3:OwnAt ((W1.shut st0.m st0.nx h1).lay st0.nx (h1.push o).objs.size) (upd st0.m st0.nx (.dictI [])) (st0.nx+1) H3.objs.size:=S3.fresh hC0
 have hCit:H3.objs.size ≠ h1.objs.size:=fun z=>by rw [<- z,hC0] at hat3; cases hat3
 -- the comprehension's own frame,its iterator held
 have F4:FInv (((W1.shut st0.m st0.nx h1).lay st0.nx (h1.push o).objs.size).hold h1.objs.size o) (compFm φ scope) { newEnv scope H3.objs.size env.globals cl env.qual none .none (some env) builtinsNs with scope:=relabel scope env } (dcompSt φ st0 scope) h4:=by
  refine comp_frame F1 hok hcl2 (.refl _) (fun c oc h=>?_) (fun n hn=>upd_ne _ _ _ (Nat.ne_of_lt hn)) (Nat.le_succ _) ⟨hC3.b,(hold_ne hCit).trans hC3.r,hC3.i⟩ hns4
  have hc:(W1.shut st0.m st0.nx h1).R c=some oc:=by
   rcases h with h | ⟨h,h'⟩
   ·exact shutR_of h
   ·exact (shutR_own h).trans h'
  have hne:c ≠ h1.objs.size:=fun z=>by
   have:=hit0.r
   rw [<- z,hc] at this; cases this
  exact (hold_ne hne).trans hc
 have ito:ItO ((W1.shut st0.m st0.nx h1).lay st0.nx (h1.push o).objs.size) a 0 o:=hi.mono hd lay_le
 have hd':(m:Unit)->DSrc (dcompSt φ st0 scope).m (dcompSt φ st0 scope).nx a ds \/ True:=fun _=>.inr trivial
 have H4:Held ((W1.shut st0.m st0.nx h1).lay st0.nx (h1.push o).objs.size) (compFm φ scope) { newEnv scope H3.objs.size env.globals cl env.qual none .none (some env) builtinsNs with scope:=relabel scope env } (dcompSt φ st0 scope) h4 h1.objs.size a 0 o:=
  ⟨hit3,k34 _ _ hat3,ito,F4⟩
 have hacc:VA ((W1.shut st0.m st0.nx h1).lay st0.nx (h1.push o).objs.size) (st0.nx+1) (.loc st0.nx) (.ref (h1.push o).objs.size):=by
  have z:=VA.loc (W:=(W1.shut st0.m st0.nx h1).lay st0.nx (h1.push o).objs.size) (n:=st0.nx) (nx:=st0.nx+1) (Nat.lt_succ_self _)
  have e:((W1.shut st0.m st0.nx h1).lay st0.nx (h1.push o).objs.size).ι st0.nx=(h1.push o).objs.size:=upd_at _ _ _
  rw [e] at z
  exact z
 refine dcomp_start H4.at_ H4.ito ?_
 refine dcomp_loop (s0:={ s with heap:=h4,toks:=tk1+([]:List (Str × Value)).length }) (fun st st' h=>demit_tr h) hA S4 H4 hacc loop fun W5 h5 tk5 n5 l5 S5 F5=>?_
 have n5':st0.nx+1<=st2.nx:=n5
 obtain ⟨S6,l6,c6⟩:=SInv.unshut (W:=W1) (l:=(lay_le (W:=W1.shut st0.m st0.nx h1) (nx:=st0.nx)).trans (Nat.le_succ _) l5) S5
 obtain ⟨f5,hns5,_⟩:=F5.locs
 have own5:OwnAt W5 st2.m st2.nx H3.objs.size:=F5.own
 have own6:OwnAt { W5 with R:=W1.R } st2.m st2.nx H3.objs.size:=by
  refine ⟨own5.b,?_,own5.i⟩
  show W1.R H3.objs.size=none
  cases q:W1.R H3.objs.size with
  | none=>rfl
  | some ob=>
   have e1:W5.R H3.objs.size=some ob:=by
    rw [l5.R]
    exact shutR_of q
   rw [own5.r] at e1; cases e1
 refine hq { W5 with R:=W1.R } h5 tk5 H3.objs.size (.ref (h1.push o).objs.size) n1 n5' (l1.trans n1 l6) S6 ((hacc.mono n5 l5).R) own6 ⟨f5,hns5⟩ fun ob=>?_
 have k13:Keeps h1 H3:=by rw [<- hH3]; exact (Keeps.push h1 o).trans (Keeps.push _ _)
 have hC1:h1.get? H3.objs.size=none:=by
  cases q:h1.get? H3.objs.size with
  | none=>rfl
  | some oo=>rw [k13 _ _ q] at hC0; cases hC0
 have F1h:=F1.hold (ob:=ob) S1 hC1 (Keeps.refl h1)
 refine F1h.carry (W':=({ W5 with R:=W1.R }:Wd).hold H3.objs.size ob) (Nat.le_of_lt n5') ⟨l6.B,rfl,l6.ι⟩ fun b oo hb hob=>?_
 have hbne:b ≠ H3.objs.size:=fun z=>by have:=hb.r; rw [z,hold_at] at this; cases this
 obtain ⟨x1,x2⟩:=c6 b oo ⟨hb.b,by have:=hb.r; rw [hold_ne hbne] at this; exact this,hb.i⟩ hob
 exact ⟨⟨x1.b,(hold_ne hbne).trans x1.r,x1.i⟩,x2⟩
set_option backward.match.sparseCases false in
noncomputable def dcOk (φ:Fm):PySem.Expr->Bool
 | .DictComp _ _ [⟨_,i,_,a⟩] scope _=>compOk φ scope && noSet i && (a == 0)
 | _=>false
noncomputable def dcK:PySem.Expr->PySem.Expr
 | .DictComp a _ _ _ _=>a
 | e=>e
noncomputable def dcV:PySem.Expr->PySem.Expr
 | .DictComp _ a _ _ _=>a
 | e=>e
noncomputable def dcScope:PySem.Expr->Scope
 | .DictComp _ _ _ s _=>s
 | _=>default
noncomputable def dcGen:PySem.Expr->Comprehension
 | .DictComp _ _ (g :: _) _ _=>g
 | e=>⟨e,e,[],0⟩
set_option tactic.hygienic true in
theorem dcOk_of {c:PySem.Expr}:dcOk φ c=true->∃ kx vx target iter ifs scope pos,c=.DictComp kx vx [⟨target,iter,ifs,0⟩] scope pos /\ compOk φ scope=true /\ noSet iter=true:=by
 induction c using PySem.Expr.casesOn with
 | DictComp kx vx gs scope pos=>
  induction gs using List.casesOn with
  | nil=>exact fun h=>Internal.ft h
  | cons g gs=>
   obtain ⟨t,i,ifs,a⟩:=g
   induction gs using List.casesOn with
   | nil=>
    intro h
    have h:=(Bool.and_eq_true _ _).mp (show ((compOk φ scope && noSet i) && (a == 0))=true from h)
    have h1:=(Bool.and_eq_true _ _).mp h.1
    obtain rfl:a=0:=eq_of_beq h.2
    exact ⟨kx,vx,t,i,ifs,scope,pos,rfl,h1.1,h1.2⟩
   | cons _ _=>exact fun h=>Internal.ft h
 | _=>exact fun h=>Internal.ft h
theorem ETr.dcomp {c:PySem.Expr} {st st0 st2:St} {a:AV} {ds:List D} {l:List (Int × D)} (hc:dcOk φ c=true) (first:ETr prog w K btab k φ (dcGen c).iter st a st0) (hd:DSrc st0.m st0.nx a ds)
  (loop:CLoop (CStep prog w K btab k (compFm φ (dcScope c)) (dcGen c) (DEmit prog w K btab k (compFm φ (dcScope c)) st0.nx (dcK c) (dcV c))) a ds ds (dcompSt φ st0 (dcScope c)) st2) :
  ETr prog w K btab k φ c st (.loc st0.nx) { st0 with m:=st2.m,nx:=st2.nx }:=by
 obtain ⟨kx,vx,target,iter,ifs,scope,pos,rfl,hok,hns⟩:=dcOk_of hc
 intro W A env s Q E hA hS hF hc' hq
 show wpAny (model prog w) A (eval (.DictComp kx vx [⟨target,iter,ifs,0⟩] scope pos) env) Q E s
 rw [arm_eval_DictComp]
 refine dcomp_run hok hns first hd loop (use:=none) hA hS hF fun W' h5 tk5 C acc n1 n2 l1 S5 hacc own ⟨f,ns⟩ F5=>?_
 refine ⟨f,ns,fun h' hsb=>?_⟩
 obtain ⟨oC,es,ep,hoC,hns⟩:=id ns
 have F6:=(F5 oC).unhold (fun v e=>by
  obtain ⟨_,hdt,_⟩:=hns
  simp_all) hsb.extBut
 exact hq W' h' tk5 acc (Nat.le_trans n1 (Nat.le_of_lt n2)) l1 (S5.own own hsb.extBut) F6 hacc
set_option tactic.hygienic true in
theorem STr.dcomp {s:Stmt} {st st0 st2 st':St} {a:AV} {ds:List D} (has:asChk s=true) (hc:dcOk φ (asVal s)=true) (first:ETr prog w K btab k φ (dcGen (asVal s)).iter st a st0) (hd:DSrc st0.m st0.nx a ds)
  (loop:CLoop (CStep prog w K btab k (compFm φ (dcScope (asVal s))) (dcGen (asVal s)) (DEmit prog w K btab k (compFm φ (dcScope (asVal s))) st0.nx (dcK (asVal s)) (dcV (asVal s)))) a ds ds (dcompSt φ st0 (dcScope (asVal s))) st2)
  (hst:gStore φ (asName s) (.loc st0.nx) { st0 with m:=st2.m,nx:=st2.nx } []=some ((),st',[],[])):STr prog w K btab k φ s st .next st':=by
 obtain ⟨x,p,c,q,rfl⟩:=asChk_of has
 dsimp only [asVal,asName] at hc first loop hst
 have T:=fun (v:Value) (C:Wd->Nat->Prop)=>snd_store (prog:=prog) (w:=w) (K:=K) (btab:=btab) (k:=k) (φ:=φ) (x:=x) (a:=.loc st0.nx) (v:=v) (C:=C)
 intro W A env s Q E hA hS hF hc' hq
 by_cases hsw:swapsWith c (some (.Name x p)) q.line env=pure false
 ·refine wpAny_Assign_Name ?_ hsw
  refine ETr.dcomp (l:=[]) hc first hd loop W A env s _ E hA hS hF trivial fun W1 h1 tk1 v n1 l1 S1 F1 hv=>?_
  refine T v (fun W nx=>VA W nx (.loc st0.nx) v) (fun W nx c=>c) _ _ _ _ _ _ hst (by simp) W1 A env _ _ E hA S1 F1 hv fun W2 h2 tk2 _ n2 l2 S2 F2 _=>?_
  exact hq W2 h2 tk2 .next (Nat.le_trans n1 n2) (l1.trans n1 l2) S2 F2 trivial
 ·obtain ⟨kx,vx,target,iter,ifs,scope,pos,rfl,hok,hns⟩:=dcOk_of hc
  have hsw2:swapsWithSole [.Name x p] (.DictComp kx vx [⟨target,iter,ifs,0⟩] scope pos) q.line env=pure true:=by
   show swapsWith (.DictComp kx vx [⟨target,iter,ifs,0⟩] scope pos) (some (.Name x p)) q.line env=pure true
   have e:∃ b:Bool,swapsWith (.DictComp kx vx [⟨target,iter,ifs,0⟩] scope pos) (some (.Name x p)) q.line env=pure b:=⟨_,rfl⟩
   obtain ⟨b,e⟩:=e
   induction b using Bool.casesOn with
   | true=>exact e
   | false=>exact (hsw e).elim
  show wpAny (model prog w) A (exec (.Assign [.Name x p] (.DictComp kx vx [⟨target,iter,ifs,0⟩] scope pos) q) env) Q E s
  rw [arm_exec_Assign,hsw2]
  refine wpAny_bind (wpAny_standAt (wpAny_bind (wpAny_pure ?_)))
  refine wpAny_bind ?_
  rw [arm_evalThenUse_DictComp]
  generalize hu:(fun v=>assignAll v (List.map (fun x=>x.2) (assignEach [.Name x p] env)))=u
  dsimp only
  refine wpAny_bind ?_
  have e1:firstAsync [⟨target,iter,ifs,0⟩]=false:=rfl
  have e2:firstIter [⟨target,iter,ifs,0⟩] env=eval iter env:=rfl
  rw [e1,e2]
  refine dcomp_run hok hns first hd loop (use:=some u) hA hS hF fun W' h5 tk5 C acc n1 n2 l1 S5 hacc own ⟨f,ns⟩ F5=>?_
  obtain ⟨oC,es,ep,hoC,hns⟩:=id ns
  have hnc:∀ v,oC.data ≠ .cell v:=fun v e=>by rw [e] at hns; cases hns.1
  have F7:=F5 oC
  show wpAny (model prog w) A (u acc) _ E _
  rw [<- hu]
  show wpAny (model prog w) A (assign (.Name x p) env acc) _ E _
  refine wpAny_assign_Name ?_
  refine T acc (fun W nx=>VA W nx (.loc st0.nx) acc) (fun W nx c=>c) _ _ _ _ _ _ hst (by simp) (W'.hold C oC) A env { s with heap:=h5,toks:=tk5 } _ E hA (S5.hold own hoC) F7 (hacc.R) fun W8 h8 tk8 _ n8 l8 S8 F8 _=>?_
  obtain ⟨S9,l9,own9,at9⟩:=S8.unhold own l8
  refine ⟨f,⟨oC,es,ep,at9,hns⟩,fun h' hsb=>?_⟩
  have eW:({ W8 with R:=W'.R }:Wd).hold C oC=W8:=by
   obtain ⟨B,R,ι⟩:=W8
   have:R=(W'.hold C oC).R:=l8.R
   subst this
   rfl
  have F9:FInv ({ W8 with R:=W'.R }:Wd) φ env st' h':=FInv.unhold (a:=C) (ob:=oC) (by rw [eW]; exact F8) hnc hsb.extBut
  refine wpAny_pure (wpAny_pure (hq { W8 with R:=W'.R } h' tk8 .next (Nat.le_trans n1 (Nat.le_trans (Nat.le_of_lt n2) n8)) ?_ (S9.own own9 hsb.extBut) F9 trivial))
  exact l1.trans (Nat.le_trans n1 (Nat.le_of_lt n2)) l9
end
end
section
section
variable {prog:Program} {w:World} {K:Frag} {btab:List (Str × Value)} {k:Nat} {m:Nat->MO} {nx:Nat}
theorem sorted_eq {ns ns':List Int} (hp:ns'.Perm ns) (hs:ns'.Pairwise (· <= ·)):ns.mergeSort (fun x y=>decide (x<=y))=ns':=by
 have p1:(ns.mergeSort (fun x y=>decide (x<=y))).Perm ns':=(List.mergeSort_perm ..).trans hp.symm
 have s1:(ns.mergeSort (fun x y=>decide (x<=y))).Pairwise (fun x y=>decide (x<=y)=true):=List.pairwise_mergeSort (fun a b c h1 h2=>by simp at *; omega) (fun a b=>by simp; omega) _
 have s2:ns'.Pairwise (fun x y=>decide (x<=y)=true):=hs.imp (by simp)
 exact p1.eq_of_pairwise (fun a b _ _ h1 h2=>by simp at h1 h2; omega) s1 s2
theorem ints_of_items {ns:List Int} {acc:List Value} (hl:acc.length=ns.length) (h:∀ (j:Nat) (v:Value),acc[j]? = some v->(Ex2 fun i t=>ns[j]? = some i /\ v=Value.int i t)):IntsAre acc ns:=by
 induction acc generalizing ns with
 | nil=>cases ns with | nil=>exact .nil | cons _ _=>cases hl
 | cons a acc ih=>
  induction ns using List.casesOn with
  | nil=>cases hl
  | cons n ns=>
   obtain ⟨i,t,e1,rfl⟩:=h 0 a rfl
   cases e1
   exact .cons _ _ (ih (by simpa using hl) fun j v hj=>h (j+1) v hj)
theorem c_sortedD {n:Nat} {l:List (Int × D)} (hn:n < nx) (hm:m n=.dictI l) (h64:l.length < 64) :
  CallTr prog w K btab k (.k (.builtin "sorted")) [.loc n] [] m nx (.loc nx) (upd m nx (.list (((l.map (·.1)).mergeSort (fun x y=>decide (x<=y))).map D.int))) (nx+1):=by
 refine call1 (fun W A s tr Q E hA hS _ ⟨v,hv,htr⟩ hq=>?_)
 subst htr
 cases hv
 have ob:=hS.obj n hn
 rw [hm] at ob
 obtain ⟨kvs,hd,e1,e2,ne⟩:=ob
 obtain ⟨ep,hat⟩:=hd.dictAt
 have hlen:kvs.length=l.length:=by have:=congrArg List.length e1; simpa using this
 refine call_function_entry kind_sorted plain_sorted entry_sorted (args_sorted1 _) ?_
 unfold Builtin.«sorted»
 refine wpAny_bind (m:=checkCount "sorted" 1 1 _) (wpAny_pure ?_)
 refine wpAny_bind (kdu_collect (A:=A.in1) (kdl_dict (knd:=PySem.intKind prog w) (kvs:=kvs) (ep:=ep) ne) hA.handled hat (by rw [sizeLine_eq]; omega) fun h' tk acc hk hacc=>?_)
 have hl:acc.toList.length=kvs.length:=by rw [Array.length_toList]; exact hacc.1
 have hI:IntsAre acc.toList (l.map (·.1)):=by
  rw [<- e1]
  refine ints_of_items (by rw [hl,List.length_map]) fun j v hj=>?_
  obtain ⟨i,y,q1,q2⟩:=hacc.2 j v (by rw [<- Array.getElem?_toList]; exact hj)
  cases v with
  | int a t=>
   have:i=a:=by
    have q3:(a == i)=true:=q2
    exact (eq_of_beq q3).symm
   subst this
   exact ⟨i,t,by rw [List.getElem?_map,q1]; rfl,rfl⟩
  | _=>cases q2
 refine wpAny_bind (wpAny_newList ?_ (by rw [hl,sizeLine_eq]; omega))
 have hoL:(h'.push (seqObj "list" acc.toList.toArray 0)).get? h'.objs.size=some (seqObj "list" acc.toList.toArray 0):=Heap.get?_push_size _ rfl
 refine wpAny_bind (wpAny_holding (wpAny_call_entry slot_list_sort ⟨_,hoL,rfl⟩ entry_list_sort (list_sort_tree hoL hI (by omega) fun out ns' a1 a2 a3=>⟨_,rfl,?_⟩) (args_list_sort _)))
 refine wpAny_pure ⟨_,rfl,?_⟩
 rw [sorted_eq a2 a3] at hq
 obtain ⟨e,he⟩:=sortedHeap_at (n:=0) (out:=out) hoL
 have k2:Keeps s.heap (sortedHeap (h'.push (seqObj "list" acc.toList.toArray 0)) h'.objs.size acc.toList out):=fun b o q=>by
  have hb:=hk b o q
  have hlt:=Heap.lt_size hb
  rw [sortedHeap_old (Nat.ne_of_lt hlt) (by rw [Heap.size_push]; exact Nat.lt_succ_of_lt hlt)]
  exact Heap.get?_push_of_some _ hb
 have S2:=hS.keeps k2
 have hfr:OwnAt W m nx h'.objs.size:=hS.fresh (by
  cases q:s.heap.get? h'.objs.size with
  | none=>rfl
  | some o=>exact absurd (Heap.lt_size (hk _ _ q)) (Nat.lt_irrefl _))
 have hVD:VDs W.B (ns'.map D.int) out.toList:=vds_ints a1
 have eo:lstObj out.toList e=seqObj "list" out e:=by unfold lstObj seqObj; simp
 have S3:=S2.lay (mo:=.list (ns'.map D.int)) hfr ⟨out.toList,e,by rw [eo]; exact he,hVD⟩
 refine hq (W.lay nx h'.objs.size) _ _ _ (Nat.le_succ _) lay_le S3 ?_
 have z:=VA.loc (W:=W.lay nx h'.objs.size) (nx:=nx+1) (n:=nx) (Nat.lt_succ_self _)
 have:(W.lay nx h'.objs.size).ι nx=h'.objs.size:=upd_at _ _ _
 rw [this] at z
 exact z
theorem hits_of {A:Around} {s:Shared} {B:BM} {l2:List (Int × D)} {kb:List (Int × Value)} (e1:kb.map (·.1)=l2.map (·.1)) (e2:VDs B (l2.map (·.2)) (kb.map (·.2))) :
  ∀ {ka:List (Int × Value)} {l1:List (Int × D)},ka.map (·.1)=l1.map (·.1)->VDs B (l1.map (·.2)) (ka.map (·.2))->(∀ p ∈ l1,∃ i,p.2=D.int i /\ l2.lookup p.1=some (.int i))->KeqHits A s kb ka true
 | [],_,_,_,_=>.nil
 | (x,v) :: ka,l1,f1,f2,h=>by
  induction l1 using List.casesOn with
  | nil=>cases f1
  | cons p l1=>
   obtain ⟨y,d⟩:=p
   simp only [List.map_cons,List.cons.injEq] at f1
   obtain ⟨rfl,f1⟩:=f1
   obtain ⟨i,hi,hl⟩:=h _ (List.mem_cons_self ..)
   dsimp only at hi
   subst hi
   cases f2 with
   | cons g1 g2=>
    cases g1 with
    | int _ t=>
     obtain ⟨u,q1,q2⟩:=value_at e1 e2 hl
     cases q2 with
     | int _ t'=>
      have:=hits_of (A:=A) (s:=s) e1 e2 f1 g2 fun p hp=>h p (List.mem_cons_of_mem _ hp)
      have eq:SeqAt.EqAt A s (.int i t) (.int i t') true:=by
       have z:=keq_flat (A:=A) (s:=s) (v:=.int i t) (y:=.int i t') (d:=.int i) (e:=.int i) (fun h=>.int i t) (fun h=>.int i t')
       have e:PyData.eqv (.int i) (.int i)=true:=by simp [PyData.eqv]
       rw [e] at z
       exact z
      have z:=KeqHits.hit q1 eq this
      exact z
theorem q_neDict {n1 n2:Nat} {l1 l2:List (Int × D)} (h1:n1 < nx) (h2:n2 < nx) (m1:m n1=.dictI l1) (m2:m n2=.dictI l2) (hl:l1.length=l2.length) (h:∀ p ∈ l1,∃ i,p.2=D.int i /\ l2.lookup p.1=some (.int i)) :
  CmpTr prog w K btab k .NotEq (.loc n1) (.loc n2) m nx false m nx:=by
 refine cmp2 fun W A s u v Q E hA hS hu hv hq=>?_
 cases hu
 cases hv
 have o1:=hS.obj n1 h1
 have o2:=hS.obj n2 h2
 rw [m1] at o1
 rw [m2] at o2
 obtain ⟨ka,da,e1,e2,ne1⟩:=o1
 obtain ⟨kb,db,f1,f2,ne2⟩:=o2
 have la:ka.length=l1.length:=by have:=congrArg List.length e1; simpa using this
 have lb:kb.length=l2.length:=by have:=congrArg List.length f1; simpa using this
 have hun:=units_room hA
 refine keq_ne (knd:=PySem.intKind prog w) (r:=true) ne1 ne2 da db (by omega) (fun _=>hits_of f1 f2 e1 e2 h) ?_
 have e:(!(ka.length == kb.length && true))=false:=by rw [la,lb,hl]; simp
 rw [e]
 exact hq s.heap _ (Keeps.refl _)
end
end
section
section
variable {prog:Program} {w:World} {K:Frag} {btab:List (Str × Value)} {k:Nat} {φ:Fm}
theorem takes_lstN {t:PySem.Expr} {ds:List D} {V:List (Str × AV)} (ns:List Str) (hn:(tupOk t && tupOf t == ns)=true) (hl:ns.all (locB φ)=true) (hlen:ns.length=ds.length):Takes φ t (.lst ds) V ((ns.zip (ds.map AV.d)).reverse ++ V):=by
 rw [Bool.and_eq_true,beq_iff_eq] at hn
 obtain ⟨hn,rfl⟩:=hn
 intro V1 fz m nx hV1
 obtain ⟨V2,e,s⟩:=gStores_some (φ:=φ) (tupOf t) ds V1 fz m nx V (fun x hx=>locB_is (List.all_eq_true.mp hl x hx)) hlen hV1
 exact ⟨V2,(congrFun (congrFun (tup_gTgt hn _).2 _) _).trans e,s⟩
theorem FInv.refz {W:Wd} {env:Env} {V:List (Str × AV)} {fz fz':List Str} {m:Nat->MO} {nx:Nat} {h:Heap} (F:FInv W φ env ⟨V,fz,m,nx⟩ h) (hz:∀ x,x ∈ fz ↔ x ∈ fz'):FInv W φ env ⟨V,fz',m,nx⟩ h:=by
 refine ⟨F.scope,F.kind,F.globals,F.builtins,F.frame,F.code,F.own,F.locs,fun x hx=>?_,F.free⟩
 obtain ⟨cc,e,q⟩:=F.cells x hx
 refine ⟨cc,e,?_⟩
 rcases q with ⟨q1,q2⟩ | ⟨q1,q2,q3,q4,q5⟩
 ·exact .inl ⟨(hz x).mp q1,q2⟩
 ·exact .inr ⟨fun z=>q1 ((hz x).mpr z),q2,q3,q4,q5⟩
theorem Tri.refz {β:Type} {C:Wd->Nat->Prop} {t:Env->Sem β} {V:List (Str × AV)} {fz fz':List Str} {m:Nat->MO} {nx:Nat} {st:St} {P:Wd->β->Prop} (h:Tri prog w K btab k φ C t st ⟨V,fz,m,nx⟩ P) (hz:∀ x,x ∈ fz ↔ x ∈ fz'):Tri prog w K btab k φ C t st ⟨V,fz',m,nx⟩ P:=
 fun W A env sh Q E hA hS hF hc hq=>h W A env sh Q E hA hS hF hc fun W' h' tk' b n l S F r=>hq W' h' tk' b n l S (F.refz hz) r
theorem BTr.refz {b:List Stmt} {V:List (Str × AV)} {fz fz':List Str} {m:Nat->MO} {nx:Nat} {st:St} {r:Fl} (h:BTr prog w K btab k φ b st r ⟨V,fz,m,nx⟩) (hz:∀ x,x ∈ fz ↔ x ∈ fz'):BTr prog w K btab k φ b st r ⟨V,fz',m,nx⟩:=Tri.refz h hz
theorem cloop_st {α σ:Type} {step:D->St->St->Prop} {a:AV} {ds0:List D} {V0:List (Str × AV)} {fz:List Str} {M:σ->Nat->MO} {n0:Nat} {gD:α->D} {next:σ->α->σ} {f:σ->α->D} (hd:∀ s,DSrc (M s) n0 a ds0):∀ (xs:List α) (s:σ) (V1:List (Str × AV)) (l:List D),VSub V0 V1->l.length+xs.length<=100000 ->
  (∀ pre x post,xs=pre ++ x :: post->∀ V1 l,VSub V0 V1->l.length+1<=100000->∃ V2,VSub V0 V2 /\ step (gD x) ⟨V1,fz,upd (M (pre.foldl next s)) n0 (.list l),n0+1⟩ ⟨V2,fz,upd (M (next (pre.foldl next s) x)) n0 (.list (l ++ [f (pre.foldl next s) x])),n0+1⟩) ->
  (Ex2 fun V2 acc=>A3 (VSub V0 V2) (acc=(xs.foldl (fun z x=>(next z.1 x,z.2 ++ [f z.1 x])) (s,l)).2) (CLoop step a ds0 (xs.map gD) ⟨V1,fz,upd (M s) n0 (.list l),n0+1⟩ ⟨V2,fz,upd (M (xs.foldl next s)) n0 (.list acc),n0+1⟩))
 | [],s,V1,l,hV,_,_=>⟨V1,l,hV,rfl,.nil (hd s).lay⟩
 | x :: xs,s,V1,l,hV,hsz,hs=>by
  rw [List.length_cons] at hsz
  obtain ⟨V2,h2,s2⟩:=hs [] x xs rfl V1 l hV (by omega)
  obtain ⟨V3,acc,h3,ha,s3⟩:=cloop_st (V0:=V0) hd xs (next s x) V2 (l ++ [f s x]) h2 (by simp; omega) fun pre y post e=>hs (x :: pre) y post (by rw [e]; rfl)
  exact ⟨V3,acc,h3,by rw [ha]; rfl,.cons (hd s).lay s2 s3⟩
theorem dloop1 {α:Type} {c:PySem.Expr} {st:St} {a:AV} {xs:List α} {gD:α->D} {kf:α->Int} {vf:α->D} {V:α->List (Str × AV)} (hd:DSrc st.m st.nx a (xs.map gD)) (hi:(dcGen c).ifs = [])
  (ht:TgtOk (compFm φ (dcScope c)) (dcGen c).target gD (compVars φ st.vars (dcScope c)) V xs)
  (hk:∀ x ∈ xs,∀ l,ETr prog w K btab k (compFm φ (dcScope c)) (dcK c) ⟨V x,compFz φ (dcScope c),upd st.m st.nx (.dictI l),st.nx+1⟩ (.d (.int (kf x))) ⟨V x,compFz φ (dcScope c),upd st.m st.nx (.dictI l),st.nx+1⟩)
  (hv:∀ x ∈ xs,∀ l,ETr prog w K btab k (compFm φ (dcScope c)) (dcV c) ⟨V x,compFz φ (dcScope c),upd st.m st.nx (.dictI l),st.nx+1⟩ (.d (vf x)) ⟨V x,compFz φ (dcScope c),upd st.m st.nx (.dictI l),st.nx+1⟩)
  (hsz:xs.length<=50000):∃ V2,CLoop (CStep prog w K btab k (compFm φ (dcScope c)) (dcGen c) (DEmit prog w K btab k (compFm φ (dcScope c)) st.nx (dcK c) (dcV c))) a (xs.map gD) (xs.map gD) (dcompSt φ st (dcScope c))
   ⟨V2,compFz φ (dcScope c),upd st.m st.nx (.dictI (xs.foldl (fun l x=>storeD l (kf x) (vf x)) [])),st.nx+1⟩:=by
 have hlay:∀ l,DSrc (upd st.m st.nx (.dictI l)) (st.nx+1) a (xs.map gD):=fun l=>hd.lay
 suffices H:∀ (ys:List α) (V1:List (Str × AV)) (l:List (Int × D)),(∀ y ∈ ys,y ∈ xs)->VSub (compVars φ st.vars (dcScope c)) V1->l.length+ys.length<=50000 ->
   ∃ V2,CLoop (CStep prog w K btab k (compFm φ (dcScope c)) (dcGen c) (DEmit prog w K btab k (compFm φ (dcScope c)) st.nx (dcK c) (dcV c))) a (xs.map gD) (ys.map gD) ⟨V1,compFz φ (dcScope c),upd st.m st.nx (.dictI l),st.nx+1⟩
    ⟨V2,compFz φ (dcScope c),upd st.m st.nx (.dictI (ys.foldl (fun l x=>storeD l (kf x) (vf x)) l)),st.nx+1⟩ from
  H xs _ [] (fun _ h=>h) (.refl _) (by simpa using hsz)
 intro ys
 induction ys with
 | nil=>intro V1 l _ _ _; exact ⟨V1,.nil (hlay l)⟩
 | cons y ys ih=>
  intro V1 l hy hV hlen
  rw [List.length_cons] at hlen
  have hym:=hy y (List.mem_cons_self ..)
  obtain ⟨h0,ht'⟩:=ht y hym
  obtain ⟨V2,e,s⟩:=ht' V1 (compFz φ (dcScope c)) (upd st.m st.nx (.dictI l)) (st.nx+1) hV
  have hl2:(storeD l (kf y) (vf y)).length<=l.length+1:=by
   unfold storeD
   split
   ·rw [List.length_map]; omega
   ·simp
  obtain ⟨V3,ih⟩:=ih (V y) (storeD l (kf y) (vf y)) (fun z hz=>hy z (List.mem_cons_of_mem _ hz)) h0 (by omega)
  refine ⟨V3,.cons (hlay l) ⟨_,e,.inl ⟨hi,?_⟩⟩ ih⟩
  exact ⟨kf y,vf y,_,_,l,(hk y hym l).pre s,hv y hym l,Nat.lt_succ_self _,upd_at _ _ _,by omega,by rw [upd_same]⟩
end
end
@[irreducible] noncomputable def KK (w:World):Frag:=Mine.kk.heap_1 w.params
section
noncomputable def bt:List (Str × Value):=[("len",.builtin "len"),("sum",.builtin "sum"),("range",.type "range"),("sorted",.builtin "sorted"),("int",.type "int"),("str",.type "str"),("iter",.builtin "iter"),("type",.type "type"),("list",.type "list")]
noncomputable def clsFn (K:Frag) (C:Addr) (x:Str):Addr:=match findIn K (.ref C) x with
 | some (some (.ref a))=>a
 | _=>0
@[irreducible] noncomputable def nthS (b:List Stmt) (i:Nat):Stmt:=b.getD i (.Pass default)
set_option backward.match.sparseCases false in
@[irreducible] noncomputable def retE:Stmt->PySem.Expr
 | .Return (some e) _=>e
 | _=>.Constant .none 0 default
set_option backward.match.sparseCases false in
@[irreducible] noncomputable def binR:PySem.Expr->PySem.Expr
 | .BinOp _ _ r _=>r
 | e=>e
@[irreducible] noncomputable def binL:PySem.Expr->PySem.Expr
 | .BinOp l _ _ _=>l
 | e=>e
@[irreducible] noncomputable def cArg (i:Nat):PySem.Expr->PySem.Expr
 | .Call _ args _ _=>args.getD i (.Constant .none 0 default)
 | e=>e
set_option backward.match.sparseCases false in
@[irreducible] noncomputable def ifB:Stmt->List Stmt
 | .If _ b _ _=>b
 | _=>[]
@[irreducible] noncomputable def ifE:Stmt->List Stmt
 | .If _ _ b _=>b
 | _=>[]
set_option backward.match.sparseCases false in
@[irreducible] noncomputable def lamPs:PySem.Expr->Arguments
 | .Lambda ps _ _ _=>ps
 | _=>default
@[irreducible] noncomputable def lamB:PySem.Expr->PySem.Expr
 | .Lambda _ b _ _=>b
 | e=>e
@[irreducible] noncomputable def lamS:PySem.Expr->Scope
 | .Lambda _ _ s _=>s
 | _=>default
noncomputable def isLam:PySem.Expr->Bool
 | .Lambda ..=>true
 | _=>false
@[irreducible] noncomputable def assE:Stmt->PySem.Expr
 | .Assign _ e _=>e
 | _=>.Constant .none 0 default
@[irreducible] noncomputable def kwV (i:Nat):PySem.Expr->PySem.Expr
 | .Call _ _ kws _=>match kws[i]? with
  | some k=>k.value
  | none=>.Constant .none 0 default
 | e=>e
@[irreducible] noncomputable def fa (w:World) (x:Str):Addr:=gA (KK w) x
@[irreducible] noncomputable def ca (w:World) (c x:Str):Addr:=clsFn (KK w) (gA (KK w) c) x
@[irreducible] noncomputable def phA (w:World) (a:Addr):Fm:=fmOf (fnD (KK w) a) []
@[irreducible] noncomputable def bdA (w:World) (a:Addr):List Stmt:=bodyOf (fnD (KK w) a)
noncomputable abbrev ph (w:World) (x:Str):Fm:=phA w (fa w x)
noncomputable abbrev bd (w:World) (x:Str):List Stmt:=bdA w (fa w x)
noncomputable def fnPos (K:Frag) (a:Addr) (names:List Str):Bool:=fnChk K a && (posNames (fnD K a) == names) && (kwoNames (fnD K a)).isEmpty && kindsOk (fnD K a).scope names && nodupB names
section
variable {K:Frag}
noncomputable def ofLen {α:Type} (P:List α->Prop):Nat->Prop
 | 0=>P []
 | n+1=>∀ a,ofLen (fun l=>P (a :: l)) n
theorem ofLen_all {α:Type}:∀ (n:Nat) {P:List α->Prop},ofLen P n->∀ l,l.length=n->P l:=by
 intro n
 induction n with
 | zero=>intro P h l e; cases List.eq_nil_of_length_eq_zero e; exact h
 | succ n ih=>intro P h l e; induction l using List.casesOn with
  | nil=>cases e
  | cons a l=>exact ih (h a) l (Nat.succ.inj e)
theorem bindqN {fd:FuncData} (n:Nat) (h:∀ S:Setting,ofLen (fun vs=>peek K S (bindArgs fd ⟨vs,[]⟩)=bindN ((posNames fd).zip vs ++ []) (dflts K fd) (posNames fd ++ kwoNames fd)) n):BindQ K fd n []:=fun S vs kvs h1 h2=>by
 cases List.eq_nil_of_length_eq_zero h2
 exact ofLen_all n (h S) vs h1
theorem bindq0 {fd:FuncData} (h:∀ S:Setting,peek K S (bindArgs fd ⟨[],[]⟩)=bindN ((posNames fd).zip [] ++ []) (dflts K fd) (posNames fd ++ kwoNames fd)):BindQ K fd 0 []:=bindqN 0 h
theorem bindq1 {fd:FuncData} (h:∀ (S:Setting) (a:Value),peek K S (bindArgs fd ⟨[a],[]⟩)=bindN ((posNames fd).zip [a] ++ []) (dflts K fd) (posNames fd ++ kwoNames fd)):BindQ K fd 1 []:=bindqN 1 h
theorem bindq2 {fd:FuncData} (h:∀ (S:Setting) (a b:Value),peek K S (bindArgs fd ⟨[a,b],[]⟩)=bindN ((posNames fd).zip [a,b] ++ []) (dflts K fd) (posNames fd ++ kwoNames fd)):BindQ K fd 2 []:=bindqN 2 h
theorem bindq3 {fd:FuncData} (h:∀ (S:Setting) (a b c:Value),peek K S (bindArgs fd ⟨[a,b,c],[]⟩)=bindN ((posNames fd).zip [a,b,c] ++ []) (dflts K fd) (posNames fd ++ kwoNames fd)):BindQ K fd 3 []:=bindqN 3 h
theorem bindq4 {fd:FuncData} (h:∀ (S:Setting) (a b c d:Value),peek K S (bindArgs fd ⟨[a,b,c,d],[]⟩)=bindN ((posNames fd).zip [a,b,c,d] ++ []) (dflts K fd) (posNames fd ++ kwoNames fd)):BindQ K fd 4 []:=bindqN 4 h
theorem bindqKN {fd:FuncData} {x:Str} (n:Nat) (h:∀ (S:Setting) (c:Value),ofLen (fun vs=>peek K S (bindArgs fd ⟨vs,[(x,c)]⟩)=bindN ((posNames fd).zip vs ++ [(x,c)]) (dflts K fd) (posNames fd ++ kwoNames fd)) n):BindQ K fd n [x]:=fun S vs kvs h1 h2=>by
 induction kvs using List.casesOn with
 | nil=>cases h2
 | cons c r=>
  cases List.eq_nil_of_length_eq_zero (Nat.succ.inj h2)
  exact ofLen_all n (h S c) vs h1
theorem lookup_zip_self {α:Type}:∀ (ns:List Str) (as:List α) (pre:List (Str × α)),ns.length=as.length->ns.Nodup->(∀ n ∈ ns,pre.lookup n=none)->∀ d,bindN (pre ++ ns.zip as) d ns=some (ns.zip as):=by
 intro ns
 suffices H:∀ (ns:List Str) (as:List α) (s:List (Str × α)),ns.length=as.length->(∀ p ∈ ns.zip as,s.lookup p.1=some p.2)->∀ d,bindN s d ns=some (ns.zip as) by
  intro as pre hl hn hp d
  refine H ns as _ hl ?_ d
  intro p hm
  have h0:p.1 ∈ ns:=(List.of_mem_zip (show (p.1,p.2) ∈ ns.zip as from hm)).1
  have hnd:((ns.zip as).map (·.1)).Nodup:=by rw [List.map_fst_zip (by omega)]; exact hn
  have:=lookup_of_mem_nd hnd (show (p.1,p.2) ∈ ns.zip as from hm)
  rw [List.lookup_append,hp _ h0,Option.none_or,this]
 intro ns
 induction ns with
 | nil=>intro as s hl _ d; cases as with | nil=>rfl | cons _ _=>cases hl
 | cons n ns ih=>
  intro as s hl hs d
  induction as using List.casesOn with
  | nil=>cases hl
  | cons a as=>
   unfold bindN
   rw [hs (n,a) (List.mem_cons_self ..)]
   dsimp only
   rw [ih as s (by simpa using hl) (fun p hp=>hs p (List.mem_cons_of_mem _ hp)) d]
   rfl
end
section
variable {prog:Program} {w:World} {K:Frag} {btab:List (Str × Value)} {k:Nat} {m:Nat->MO} {nx:Nat}
theorem codeP {a:Addr} {names:List Str} {args:List AV} {fl:Fl} {st':St} {r:AV} (hc:fnPos K a names=true) (hb:BindQ K (fnD K a) args.length []) (hl:names.length=args.length)
  (body:BTr prog w K btab k (fmOf (fnD K a) []) (bodyOf (fnD K a)) ⟨names.zip args,[],m,nx⟩ fl st') (hr:retOf fl=r):CodeTr prog w K btab (k+1) (.k (.ref a)) args [] m nx r st'.m st'.nx:=by
 unfold fnPos at hc
 simp only [Bool.and_eq_true,beq_iff_eq] at hc
 obtain ⟨⟨⟨⟨h1,h2⟩,h3⟩,h4⟩,h5⟩:=hc
 have h3':kwoNames (fnD K a) = []:=by simpa using h3
 have e:(names.zip args).map (·.1)=names:=by rw [List.map_fst_zip (by omega)]
 refine code_fn h1 hb ?_ (by rw [e]; exact h4) (by rw [e]; exact h5) body hr
 rw [h2,h3',List.append_nil,List.append_nil]
 exact lookup_zip_self names args [] hl (nodupB_nd h5) (fun _ _=>rfl) _
end
section
variable {prog:Program} {w:World} {k:Nat} {m:Nat->MO} {nx:Nat}
theorem codeQ {a:Addr} {names:List Str} {args:List AV} {fl:Fl} {st':St} {r:AV} (hc:fnPos (KK w) a names=true) (hb:BindQ (KK w) (fnD (KK w) a) args.length []) (hl:names.length=args.length)
  (body:BTr prog w (KK w) bt k (phA w a) (bdA w a) ⟨names.zip args,[],m,nx⟩ fl st') (hr:retOf fl=r):CodeTr prog w (KK w) bt (k+1) (.k (.ref a)) args [] m nx r st'.m st'.nx:=by
 unfold phA bdA at body
 exact codeP hc hb hl body hr
theorem codeR {a:Addr} (names:List Str) {args:List AV} (fl:Fl) (m':Nat->MO) (nx':Nat) (fz:List Str) (l:List EvO) (hc:fnPos (KK w) a names=true) (hb:BindQ (KK w) (fnD (KK w) a) args.length []) (hl:names.length=args.length)
  (e:pickR [] (exsI prog w (KK w) bt k 60 (phA w a) (bdA w a) ⟨names.zip args,[],m,nx⟩ (evsOf l))=some (fl,[],fz,m',nx',[],obsOf l)):CodeTr prog w (KK w) bt (k+1) (.k (.ref a)) args [] m nx (retOf fl) m' nx':=
 codeQ (st':=⟨[],fz,m',nx'⟩) hc hb hl (BTr.runS (V:=[]) 60 l e) rfl
theorem codeA (a:Addr) (names:List Str) (args:List AV) (fl:Fl) (m':Nat->MO) (nx':Nat) (fz:List Str) (l:List EvO) (hc:fnPos (KK w) a names=true) (hb:BindQ (KK w) (fnD (KK w) a) args.length []) (hl:names.length=args.length)
  (e:pickR [] (exsI prog w (KK w) bt k 60 (phA w a) (bdA w a) ⟨names.zip args,[],m,nx⟩ (evsOf l))=some (fl,[],fz,m',nx',[],obsOf l)):CodeTr prog w (KK w) bt (k+1) (.k (.ref a)) args [] m nx (retOf fl) m' nx':=
 codeQ (st':=⟨[],fz,m',nx'⟩) hc hb hl (BTr.runS (V:=[]) 60 l e) rfl
theorem codeD {a:Addr} (ab:List (Str × AV)) {args:List AV} {kws:List (Str × AV)} (fl:Fl) (m':Nat->MO) (nx':Nat) (fz:List Str) (l:List EvO) (hc:fnChk (KK w) a=true) (hb:BindQ (KK w) (fnD (KK w) a) args.length (kws.map (·.1)))
  (ha:bindN ((posNames (fnD (KK w) a)).zip args ++ kws) ((dflts (KK w) (fnD (KK w) a)).map fun p=>(p.1,ofTop p.2)) (posNames (fnD (KK w) a) ++ kwoNames (fnD (KK w) a))=some ab)
  (hks:kindsOk (fnD (KK w) a).scope (ab.map (·.1))=true) (hnd:nodupB (ab.map (·.1))=true)
  (e:pickR [] (exsI prog w (KK w) bt k 60 (phA w a) (bdA w a) ⟨ab,[],m,nx⟩ (evsOf l))=some (fl,[],fz,m',nx',[],obsOf l)):CodeTr prog w (KK w) bt (k+1) (.k (.ref a)) args kws m nx (retOf fl) m' nx':=by
 have body:=BTr.runS (V:=[]) 60 l e
 unfold phA bdA at body
 exact code_fn hc hb ha hks hnd body rfl
theorem bindqk {K:Frag} {fd:FuncData} {x:Str} (h:∀ (S:Setting) (a b c:Value),peek K S (bindArgs fd ⟨[a,b],[(x,c)]⟩)=bindN ((posNames fd).zip [a,b] ++ [(x,c)]) (dflts K fd) (posNames fd ++ kwoNames fd)):BindQ K fd 2 [x]:=bindqKN 2 fun S c a b=>h S a b c
theorem bindq4k {K:Frag} {fd:FuncData} {x:Str} (h:∀ (S:Setting) (a b c d e:Value),peek K S (bindArgs fd ⟨[a,b,c,d],[(x,e)]⟩)=bindN ((posNames fd).zip [a,b,c,d] ++ [(x,e)]) (dflts K fd) (posNames fd ++ kwoNames fd)):BindQ K fd 4 [x]:=bindqKN 4 fun S c a b d e=>h S a b d e c
end
end
section
section
variable {prog:Program} {w:World} {k:Nat} {m:Nat->MO} {nx:Nat}
noncomputable abbrev cx (prog:Program) (w:World) (k:Nat) (m:Nat->MO) (nx:Nat):Cx:=⟨prog,w,KK w,bt,k,m,nx⟩
noncomputable abbrev fn (w:World) (x:Str):AV:=.k (.ref (fa w x))
noncomputable def signsA:Str := "( ) [ ] : , ; + - * / | & < > = . % { } == != <= >= ~ ^ << >> ** += -= *= /= %= &= |= ^= <<= >>= **= // //= @ @= -> ... :"
noncomputable def signsT:Str := "( ) [ ] : , ; + - * / | & < > = . % { } == != <= >= ~ ^ << >> ** += -= *= /= %= &= |= ^= <<= >>= **= // //= @ @= -> ... := !"
noncomputable def signsL:List Str:=(["(", ")", "[", "]", ":", ",", ";", "+", "-", "*", "/", "|", "&", "<", ">", "=", ".", "%", "{", "}", "==", "!=", "<=", ">=", "~", "^", "<<", ">>", "**", "+=", "-=", "*=", "/=", "%=", "&=", "|=", "^=", "<<=", ">>=", "**=", "//", "//=", "@", "@=", "->", "...", ":=", "!"]:List String).map Str.ofString
theorem signs_tr:CallTr prog w (KK w) bt (k+1) (fn w "_law_signs") [] [] m nx (.d (.lst (strDs signsL))) m nx:=
 (codeQ (names:=[]) (by kernel_rfl) (bindq0 fun S=>by kernel_rfl) rfl (fl:=.ret (.d (.lst (strDs signsL)))) (st':=⟨[],[],m,nx⟩)
  (BTr.runE 20 [(cx prog w k m nx).addS false signsA "= !" signsT (by kernel_rfl) (by decide +kernel),(cx prog w k m nx).mSplit signsT,
   (cx prog w k m nx).cSplit signsT " " signsL (by kernel_rfl) (by kernel_rfl) (by decide +kernel) (by decide +kernel)] (by kernel_rfl)) rfl).call
noncomputable def namesL:List Str:=["p", "q r", "S", "u","v\"", "W", "x\\"]
theorem names_tr : CallTr prog w (KK w) bt (k + 1) (fn w "_law_names") [] [] m nx (.d (.lst (strDs namesL))) m nx :=
 (codeQ (names := []) (by kernel_rfl) (bindq0 fun S => by kernel_rfl) rfl (fl := .ret (.d (.lst (strDs namesL)))) (st' := ⟨[], [], m, nx⟩)
  (BTr.runE 20 [.lst (strDs namesL) false (by decide)] (by kernel_rfl)) rfl).call
end
end
section
section
variable {prog : Program} {w : World} {k : Nat} {m : Nat -> MO} {nx : Nat}
noncomputable def natsD (l : List Nat) : List D := l.map fun n : Nat => D.int n
noncomputable def standL : List Nat := [6, 14, 18, 22, 35, 34, 15]
noncomputable def numsN (ns : List Int) : List Nat := (List.range 7).map fun i => if i < ns.length then (ns.getD i 0 % 1000000).toNat else standL.getD i 0
theorem dsrc_rng {n : Nat} (h : Builtin.Range.small 0 n 1 = true) : DSrc m nx (.d (.rng 0 n 1)) ((List.range n).map fun i : Nat => D.int i) := ⟨h, (rng0 n).symm⟩
theorem numbers_tr (ns : List Int) (hz : ns.length < 1000000) : CallTr prog w (KK w) bt (k + 1) (fn w "_law_numbers") [.d (.lst (ns.map D.int))] [] m nx (.d (.lst (natsD (numsN ns)))) m nx := by
 obtain ⟨V, hV⟩ : ∃ V : List (Str × AV), V = ([("script", .d (.lst (ns.map D.int))), ("stand", .d (.lst (natsD standL)))] : List (Str × AV)) := ⟨_, rfl⟩
 have comp : ETr prog w (KK w) bt k (ph w "_law_numbers") (retE (nthS (bd w "_law_numbers") 1)) ⟨V, [], m, nx⟩ (.d (.lst (natsD (numsN ns)))) ⟨V, [], m, nx⟩ := by
  subst hV
  unfold natsD numsN
  rw [List.map_map]
  refine ETr.ofLoop (by kernel_rfl) (a := .d (.rng 0 7 1)) (ds := (List.range 7).map fun i : Nat => D.int i) (ETr.runE 20 [(cx prog w k m nx).range1 7] (by kernel_rfl)) (dsrc_rng (n := 7) (by kernel_rfl))
   (loop1n (by kernel_rfl) (by kernel_rfl) (dsrc_rng (n := 7) (by kernel_rfl)) (tgt_name (by kernel_rfl) (by kernel_rfl) (by kernel_rfl)) (fun i hi l => ?_) (by decide))
  have hi7 : i < 7 := List.mem_range.mp hi
  dsimp only [Function.comp]
  by_cases h : i < ns.length
  ·rw [if_pos h]
   have e : ((ns.getD i 0 % 1000000).toNat : Int) = ns.getD i 0 % 1000000 := Int.toNat_of_nonneg (Int.emod_nonneg _ (by decide))
   rw [e]
   exact ETr.runE 20 [(cx prog w k (upd m nx (.list l)) (nx + 1)).len (.d (.lst (ns.map D.int))) _ rfl trivial (by rw [List.length_map]; omega), .brT ((i : Int) < ((ns.map D.int).length : Nat)) (by simpa using h),
    (cx prog w k (upd m nx (.list l)) (nx + 1)).item (ns.map D.int) i i (.int (ns.getD i 0)) rfl (by simp [List.getElem?_eq_getElem h]) (by omega),
    (cx prog w k (upd m nx (.list l)) (nx + 1)).pow 10 6 1000000 (by decide) (by decide) (by decide +kernel), .obl (show (0 : Int) < 1000000 by decide)] (by kernel_rfl)
  ·rw [if_neg h]
   have e : (natsD standL)[i]? = some (.int (standL.getD i 0 : Nat)) := by
    unfold natsD
    have : i < standL.length := hi7
    simp [List.getElem?_eq_getElem this]
   exact ETr.runE 20 [(cx prog w k (upd m nx (.list l)) (nx + 1)).len (.d (.lst (ns.map D.int))) _ rfl trivial (by rw [List.length_map]; omega), .brF ((i : Int) < ((ns.map D.int).length : Nat)) (by simpa using h),
    (cx prog w k (upd m nx (.list l)) (nx + 1)).item (natsD standL) i i (.int (standL.getD i 0 : Nat)) rfl e (by omega)] (by kernel_rfl)
 exact (codeQ (names := ["script"]) (by kernel_rfl) (bindq1 fun S a => by kernel_rfl) rfl (fl := .ret (.d (.lst (natsD (numsN ns))))) (st' := ⟨V, [], m, nx⟩)
  (BTr.runE 20 [.lst (natsD standL) false (by decide +kernel), .comp comp] (by subst hV; kernel_rfl)) rfl).call
noncomputable def sumN (ns : List Int) : Nat := ((337 + ns.sum) % 2256).toNat
noncomputable def lettersL (ns : List Int) : List Str := [signsL.getD (sumN ns / 47) Str.empty, signsL.getD (if sumN ns / 47 <= sumN ns % 47 then sumN ns % 47 + 1 else sumN ns % 47) Str.empty]
theorem sumN_eq (ns : List Int) : (337 + ns.sum) % 2256 = (sumN ns : Int) := (Int.toNat_of_nonneg (Int.emod_nonneg _ (by decide))).symm
theorem sumN_lt (ns : List Int) : sumN ns < 2256 := by
 have := sumN_eq ns
 have := Int.emod_lt_of_pos (337 + ns.sum) (show (0 : Int) < 2256 by decide)
 omega
theorem signs_len : signsL.length = 48 := by decide +kernel
theorem strDs_get {l : List Str} {i : Nat} (h : i < l.length) : (strDs l)[i]? = some (.str (l.getD i Str.empty)) := by
 unfold strDs
 simp [List.getElem?_eq_getElem h]
theorem lt1 (ns : List Int) : (337 + ns.sum) % 2256 / 47 = ((sumN ns / 47 : Nat) : Int) := sumN_eq ns ▸ rfl
theorem lt2 (ns : List Int) : (337 + ns.sum) % 2256 % 47 = ((sumN ns % 47 : Nat) : Int) := sumN_eq ns ▸ rfl
theorem lt3 (ns : List Int) : (337 + ns.sum) % 2256 % 47 + 1 = ((sumN ns % 47 + 1 : Nat) : Int) := congrArg (· + 1) (lt2 ns)
theorem lt4 (ns : List Int) (h : sumN ns / 47 <= sumN ns % 47) : (337 + ns.sum) % 2256 % 47 >= (337 + ns.sum) % 2256 / 47 := lt1 ns ▸ lt2 ns ▸ Int.ofNat_le.mpr h
theorem lt5 (ns : List Int) (h : ¬ sumN ns / 47 <= sumN ns % 47) : ¬ (337 + ns.sum) % 2256 % 47 >= (337 + ns.sum) % 2256 / 47 := lt1 ns ▸ lt2 ns ▸ fun z => h (Int.ofNat_le.mp z)
theorem lt6 (ns : List Int) : sumN ns / 47 < 48 := Nat.div_lt_of_lt_mul (sumN_lt ns)
theorem lt8 (ns : List Int) : sumN ns % 47 + 1 < 48 := Nat.succ_lt_succ (Nat.mod_lt _ (by decide))
theorem lt7 (ns : List Int) : sumN ns % 47 < 48 := Nat.lt_of_succ_lt (lt8 ns)
theorem letters_tr (ns : List Int) : CallTr prog w (KK w) bt (k + 2) (fn w "_law_letters") [.d (.lst (ns.map D.int))] [] m nx (.d (.lst (strDs (lettersL ns)))) m nx := by
 obtain ⟨L, hL⟩ : ∃ L, L = lettersL ns := ⟨_, rfl⟩
 obtain ⟨a, ha⟩ : ∃ a, a = signsL.getD (sumN ns / 47) Str.empty := ⟨_, rfl⟩
 have ia : (strDs signsL)[sumN ns / 47]? = some (.str a) := ha ▸ strDs_get (Nat.lt_of_lt_of_eq (lt6 ns) signs_len.symm)
 by_cases h : sumN ns / 47 <= sumN ns % 47
 ·obtain ⟨b, hb⟩ : ∃ b, b = signsL.getD (sumN ns % 47 + 1) Str.empty := ⟨_, rfl⟩
  have ib : (strDs signsL)[sumN ns % 47 + 1]? = some (.str b) := hb ▸ strDs_get (Nat.lt_of_lt_of_eq (lt8 ns) signs_len.symm)
  have : lettersL ns = [a, b] := by unfold lettersL; rw [if_pos h, <- ha, <- hb]
  rw [this]
  exact (codeR ["script"] (.ret (.d (.lst (strDs [a,b])))) m nx [] [(cx prog w (k+1) m nx).sum (.d (.lst (ns.map D.int))) ns rfl trivial,.obl (show (0:Int) < 2256 by decide),.call (signs_tr (prog:=prog) (w:=w) (k:=k) (m:=m) (nx:=nx)),
   .obl (show (0:Int) < 47 /\ (47:Int) < 1073741824 by decide),.obl (show (0:Int) < 47 by decide),
   (cx prog w (k+1) m nx).item (strDs signsL) ((337+ns.sum) % 2256 / 47) _ (.str a) (lt1 ns) ia (Nat.lt_trans (lt6 ns) (by decide)),
   .brT ((337+ns.sum) % 2256 % 47 >= (337+ns.sum) % 2256 / 47) (lt4 ns h),
   (cx prog w (k+1) m nx).item (strDs signsL) ((337+ns.sum) % 2256 % 47+1) _ (.str b) (lt3 ns) ib (Nat.lt_trans (lt8 ns) (by decide)),
   .lst [.str a,.str b] false (show 2<=1000 by decide)] (by kernel_rfl) (bindq1 fun S a=>by kernel_rfl) rfl (by kernel_rfl)).call
 ·obtain ⟨b,hb⟩ : ∃ b,b=signsL.getD (sumN ns % 47) Str.empty:=⟨_,rfl⟩
  have ib:(strDs signsL)[sumN ns % 47]? = some (.str b):=hb ▸ strDs_get (Nat.lt_of_lt_of_eq (lt7 ns) signs_len.symm)
  have:lettersL ns = [a,b]:=by unfold lettersL; rw [if_neg h,<- ha,<- hb]
  rw [this]
  exact (codeR ["script"] (.ret (.d (.lst (strDs [a,b])))) m nx [] [(cx prog w (k+1) m nx).sum (.d (.lst (ns.map D.int))) ns rfl trivial,.obl (show (0:Int) < 2256 by decide),.call (signs_tr (prog:=prog) (w:=w) (k:=k) (m:=m) (nx:=nx)),
   .obl (show (0:Int) < 47 /\ (47:Int) < 1073741824 by decide),.obl (show (0:Int) < 47 by decide),
   (cx prog w (k+1) m nx).item (strDs signsL) ((337+ns.sum) % 2256 / 47) _ (.str a) (lt1 ns) ia (Nat.lt_trans (lt6 ns) (by decide)),
   .brF ((337+ns.sum) % 2256 % 47 >= (337+ns.sum) % 2256 / 47) (lt5 ns h),
   (cx prog w (k+1) m nx).item (strDs signsL) ((337+ns.sum) % 2256 % 47) _ (.str b) (lt2 ns) ib (Nat.lt_trans (lt7 ns) (by decide)),
   .lst [.str a,.str b] false (show 2<=1000 by decide)] (by kernel_rfl) (bindq1 fun S a=>by kernel_rfl) rfl (by kernel_rfl)).call
noncomputable abbrev T4:=Nat × Nat × Nat × Nat
noncomputable def tD (t:T4):List D:=[.int t.1,.int t.2.1,.int t.2.2.1,.int t.2.2.2]
noncomputable def termOf (v:List Nat) (p:Nat):T4:=(p,v.getD (p - 3) 0 % 2,v.getD (p - 3) 0 / 2 % p,v.getD (p - 3) 0 / 2 / p % p)
noncomputable def termsL (v:List Nat):List T4:=[3,4,5,6].map (termOf v)
noncomputable def termsD (l:List T4):List D:=l.map fun t=>.tup (tD t)
theorem terms_len {v pre post:List Nat} {x:Nat} (he:[3,4,5,6]=pre ++ x :: post):(pre.foldl (fun s (x:Nat)=>s ++ [D.tup (tD (termOf v x))]) []).length<=4:=by
 have:∀ (l:List Nat) (a:List D),(l.foldl (fun s (x:Nat)=>s ++ [D.tup (tD (termOf v x))]) a).length=a.length+l.length:=by
  intro l
  induction l with
  | nil=>intro a; rfl
  | cons y l ih=>intro a; rw [List.foldl_cons,ih,List.length_append]; exact Nat.succ_add _ _
 rw [this]
 have h:4=(pre ++ x :: post).length:=congrArg List.length he
 rw [List.length_append] at h
 exact Nat.le_trans (Nat.le_of_eq (Nat.zero_add _)) (h ▸ Nat.le_add_right _ _)
theorem terms_tr (v:List Nat) (hv:v.length=7):CallTr prog w (KK w) bt (k+1) (fn w "_law_terms") [.d (.lst (natsD v))] [] m nx (.d (.lst (termsD (termsL v)))) m nx:=by
 obtain ⟨V,hV⟩ : ∃ V:List (Str × AV),V=([("numbers",.d (.lst (natsD v))),("terms",.loc nx)]:List (Str × AV)):=⟨_,rfl⟩
 have loop:∃ V9,VSub V V9 /\ ForTr prog w (KK w) bt k (ph w "_law_terms") (forTgt (nthS (bd w "_law_terms") 1)) (forBody (nthS (bd w "_law_terms") 1)) (.d (.rng 3 7 1)) (rngD 3 7 1) (([3,4,5,6]:List Nat).map fun x:Nat=>D.int x) ⟨V,[],upd m nx (.list []),nx+1⟩ .next ⟨V9,[],upd m nx (.list (termsD (termsL v))),nx+1⟩:=by
  have:=for_fold (prog:=prog) (w:=w) (K:=KK w) (btab:=bt) (k:=k) (φ:=ph w "_law_terms") (t:=forTgt (nthS (bd w "_law_terms") 1)) (b:=forBody (nthS (bd w "_law_terms") 1)) (a:=.d (.rng 3 7 1)) (ds0:=rngD 3 7 1) (fz:=[]) (nx:=nx+1)
   (V:=fun _:List D=>V) (M:=fun s=>upd m nx (.list s)) (step:=fun s (x:Nat)=>s ++ [.tup (tD (termOf v x))]) (gD:=fun x:Nat=>.int x) (VX:=fun _ x=>("place",.d (.int x)) :: V) [3,4,5,6] [] V (.refl _) ?_ ⟨by kernel_rfl,rfl⟩
  ·exact this
  ·intro pre x post he
   have hx:x ∈ ([3,4,5,6]:List Nat):=by rw [he]; simp
   have hx3:3<=x /\ x<=6:=(show ∀ x ∈ ([3,4,5,6]:List Nat),3<=x /\ x<=6 by decide) x hx
   obtain ⟨s,hs⟩ : ∃ s,s=pre.foldl (fun s (x:Nat)=>s ++ [D.tup (tD (termOf v x))]) []:=⟨_,rfl⟩
   have hlen:s.length<=4:=hs ▸ terms_len he
   refine ⟨⟨by kernel_rfl,rfl⟩,takes_name (by kernel_rfl) (by kernel_rfl),.next,?_⟩
   rw [<- hs]
   refine ⟨V,.inl rfl,?_,.refl _⟩
   have ix:(natsD v)[x - 3]? = some (.int (v.getD (x - 3) 0:Nat)):=by
    have:x - 3 < v.length:=hv ▸ Nat.sub_lt_left_of_lt_add hx3.1 (Nat.lt_of_le_of_lt hx3.2 (by decide))
    unfold natsD
    simp [List.getElem?_eq_getElem this]
   have hx0:(0:Int) < x:=Int.ofNat_lt.mpr (Nat.lt_of_lt_of_le (by decide) hx3.1)
   subst hV
   refine BTr.runS 40 [(cx prog w k (upd m nx (.list s)) (nx+1)).item (natsD v) ((x:Int) - 3) (x - 3) (.int (v.getD (x - 3) 0:Nat)) (Int.ofNat_sub hx3.1).symm ix (Nat.lt_of_le_of_lt (Nat.sub_le x 3) (wa hx3.2)),
    (cx prog w k (upd m nx (.list s)) (nx+1)).mAppend (.loc nx) s ⟨Nat.lt_succ_self _,upd_at _ _ _⟩ trivial,
    .obl (show (0:Int) < 2 by decide),.obl (show (0:Int) < 2 /\ (2:Int) < 1073741824 by decide),.obl (show (0:Int) < x from hx0),
    .obl (show (0:Int) < 2 /\ (2:Int) < 1073741824 by decide),.obl (show (0:Int) < x /\ (x:Int) < 1073741824 from ⟨hx0,Int.ofNat_lt.mpr (wa hx3.2)⟩),.obl (show (0:Int) < x from hx0),
    .tup (tD (termOf v x)) (show 4<=1000 by decide),
    (cx prog w k (upd m nx (.list s)) (nx+1)).cAppend nx s (.tup (tD (termOf v x))) (Nat.lt_succ_self _) (upd_at _ _ _) (by omega) (upd m nx (.list (s ++ [.tup (tD (termOf v x))]))) (upd_same _ _ _ _)] (by kernel_rfl)
 have e37:rngD 3 7 1=([3,4,5,6]:List Nat).map fun x:Nat=>D.int x:=by kernel_rfl
 have st:STr prog w (KK w) bt k (ph w "_law_terms") (nthS (bd w "_law_terms") 1) ⟨V,[],upd m nx (.list []),nx+1⟩ .next ⟨V,[],upd m nx (.list (termsD (termsL v))),nx+1⟩:=by
  rw [<- e37] at loop
  exact STr.forP (.d (.rng 3 7 1)) (rngD 3 7 1) 20 [(cx prog w k (upd m nx (.list [])) (nx+1)).range2 3 7] (by kernel_rfl) (by subst hV; kernel_rfl) ⟨by kernel_rfl,rfl⟩ loop
 refine ((codeR ["numbers"] (.ret (.d (.lst (termsD (termsL v))))) (upd (upd m nx (.list (termsD (termsL v)))) nx .junk) (nx+1) []
  [.lst [] true (by decide),.stm st,.fz (upd m nx (.list (termsD (termsL v)))) (nx+1) nx (termsD (termsL v)) (upd_at _ _ _) (Nat.lt_succ_self _)] (by kernel_rfl) (bindq1 fun S a=>by kernel_rfl) rfl ?_).call).low (.same (Nat.le_succ _) fun i hi=>by rw [upd_ne _ _ _ (Nat.ne_of_lt hi),upd_ne _ _ _ (Nat.ne_of_lt hi)]) (.d _)
 subst hV
 kernel_rfl
end
end
section
section
variable {prog:Program} {w:World} {k:Nat} {m:Nat->MO} {nx:Nat}
noncomputable abbrev E2:=Nat × Nat
noncomputable def eqsL (v:List Nat):List E2:=(v.drop 4).map fun x=>(x % 7,x / 7 % 7)
noncomputable def pairsD (l:List E2):List D:=l.map fun e=>.tup [.int e.1,.int e.2]
theorem equations_tr (v:List Nat) (hv:v.length=7):CallTr prog w (KK w) bt (k+1) (fn w "_law_equations") [.d (.lst (natsD v))] [] m nx (.d (.lst (pairsD (eqsL v)))) m nx:=by
 obtain ⟨V,hV⟩ : ∃ V:List (Str × AV),V=([("numbers",.d (.lst (natsD v)))]:List (Str × AV)):=⟨_,rfl⟩
 have hp:pickD (natsD v) (some 4) none=(v.drop 4).map fun n:Nat=>D.int n:=by
  have:=pick_i (natsD v) 4 (by unfold natsD; rw [List.length_map]; omega)
  rw [show ((4:Nat):Int)=4 from rfl] at this
  rw [this]
  unfold natsD
  rw [List.map_drop]
 have comp:ETr prog w (KK w) bt k (ph w "_law_equations") (retE (nthS (bd w "_law_equations") 0)) ⟨V,[],m,nx⟩ (.d (.lst (pairsD (eqsL v)))) ⟨V,[],m,nx⟩:=by
  unfold pairsD eqsL
  rw [List.map_map]
  refine ETr.ofLoop (by kernel_rfl) (a:=.d (.lst (pickD (natsD v) (some 4) none))) (ds:=(v.drop 4).map fun n:Nat=>D.int n) (ETr.runE 20 [(cx prog w k m nx).slc (.d (.lst (natsD v))) (.d (.int 4)) (.d .none) (natsD v) (some 4) none rfl trivial rfl rfl (by unfold natsD; rw [List.length_map]; omega)] (by subst hV; kernel_rfl)) hp.symm
   (loop1n (by kernel_rfl) (by kernel_rfl) hp.symm (tgt_nameN "x" (by kernel_rfl) (by kernel_rfl) (by subst hV; kernel_rfl)) (fun i hi l=>?_) (by rw [List.length_drop]; omega))
  subst hV
  exact ETr.runE 20 [.obl (show (0:Int) < 7 by decide),.obl (show (0:Int) < 7 /\ (7:Int) < 1073741824 by decide),.obl (show (0:Int) < 7 by decide),.tup [.int (i % 7:Nat),.int (i / 7 % 7:Nat)] (show 2<=1000 by decide)] (by kernel_rfl)
 exact (codeR ["numbers"] (.ret (.d (.lst (pairsD (eqsL v))))) m nx [] [.comp comp] (by kernel_rfl) (bindq1 fun S a=>by kernel_rfl) rfl (by subst hV; kernel_rfl)).call
noncomputable def rowsD (l:List (List Str)):List D:=l.map fun r=>.lst (strDs r)
noncomputable def termRow (letters:List Str) (t:T4):List Str:=[namesL.getD t.1 Str.empty,letters.getD t.2.1 Str.empty,namesL.getD t.2.2.1 Str.empty,namesL.getD t.2.2.2 Str.empty]
noncomputable def eqRow (e:E2):List Str:=["==",namesL.getD e.1 Str.empty,namesL.getD e.2 Str.empty]
noncomputable def rowsL (terms:List T4) (eqs:List E2) (letters:List Str):List (List Str):=terms.map (termRow letters) ++ eqs.map eqRow
theorem nlen:namesL.length=7:=by decide +kernel
theorem rows_tr (terms:List T4) (eqs:List E2) (letters:List Str) (ht:∀ t ∈ terms,t.1 < 7 /\ t.2.1 < letters.length /\ t.2.2.1 < 7 /\ t.2.2.2 < 7) (he:∀ e ∈ eqs,e.1 < 7 /\ e.2 < 7) (h1:terms.length<=1000) (h2:eqs.length<=1000) (h3:letters.length<=1000) :
  CallTr prog w (KK w) bt (k+2) (fn w "_law_rows") [.d (.lst (termsD terms)),.d (.lst (pairsD eqs)),.d (.lst (strDs letters))] [] m nx (.d (.lst (rowsD (rowsL terms eqs letters)))) m nx:=by
 have hnl:=nlen
 obtain ⟨V,hV⟩ : ∃ V:List (Str × AV),V=([("terms",.d (.lst (termsD terms))),("equations",.d (.lst (pairsD eqs))),("letters",.d (.lst (strDs letters))),("names",.d (.lst (strDs namesL)))]:List (Str × AV)):=⟨_,rfl⟩
 have s1:STr prog w (KK w) bt (k+1) (ph w "_law_rows") (nthS (bd w "_law_rows") 1) ⟨V,[],m,nx⟩ .next ⟨setv "rows" (.d (.lst (rowsD (terms.map (termRow letters))))) V,[],m,nx⟩:=by
  unfold rowsD
  rw [List.map_map]
  refine STr.ofLoopP (by kernel_rfl) (by kernel_rfl) (by kernel_rfl) (a:=.d (.lst (termsD terms))) (ds:=termsD terms) (ETr.runE 20 [] (by subst hV; kernel_rfl)) rfl
   (loop1n (st:=⟨V,[],m,nx⟩) (a:=.d (.lst (termsD terms))) (xs:=terms) (gD:=fun t=>.tup (tD t)) (by kernel_rfl) (by kernel_rfl) rfl
    (tgt_tupN (gs:=tD) ["place", "kind", "one", "two"] (by kernel_rfl) (by kernel_rfl) (by subst hV; kernel_rfl) (fun x hx=>rfl)) (fun t hx l=>?_) (by omega))
  obtain ⟨a1,a2,a3,a4⟩:=ht t hx
  subst hV
  exact ETr.runE 20 [(cx prog w (k+1) (upd m nx (.list l)) (nx+1)).item (strDs namesL) t.1 t.1 _ rfl (strDs_get (by omega)) (by omega),(cx prog w (k+1) (upd m nx (.list l)) (nx+1)).item (strDs letters) t.2.1 t.2.1 _ rfl (strDs_get (by omega)) (by omega),
   (cx prog w (k+1) (upd m nx (.list l)) (nx+1)).item (strDs namesL) t.2.2.1 t.2.2.1 _ rfl (strDs_get (by omega)) (by omega),(cx prog w (k+1) (upd m nx (.list l)) (nx+1)).item (strDs namesL) t.2.2.2 t.2.2.2 _ rfl (strDs_get (by omega)) (by omega),
   .lst (strDs (termRow letters t)) false (show 4<=1000 by decide)] (by kernel_rfl)
 have s2:ETr prog w (KK w) bt (k+1) (ph w "_law_rows") (binR (retE (nthS (bd w "_law_rows") 2))) ⟨setv "rows" (.d (.lst (rowsD (terms.map (termRow letters))))) V,[],m,nx⟩ (.d (.lst (rowsD (eqs.map eqRow)))) ⟨setv "rows" (.d (.lst (rowsD (terms.map (termRow letters))))) V,[],m,nx⟩:=by
  generalize hR9:rowsD (terms.map (termRow letters))=R
  have hR:=hR9.symm
  clear hR9
  unfold rowsD
  rw [List.map_map]
  refine ETr.ofLoop (by kernel_rfl) (a:=.d (.lst (pairsD eqs))) (ds:=pairsD eqs) (ETr.runE 20 [] (by subst hV; kernel_rfl)) rfl
   (loop1n (st:=⟨setv "rows" (.d (.lst R)) V,[],m,nx⟩) (a:=.d (.lst (pairsD eqs))) (xs:=eqs) (gD:=fun e=>.tup [.int e.1,.int e.2]) (by kernel_rfl) (by kernel_rfl) rfl
    (tgt_tupN (gs:=fun e:E2=>[.int e.1,.int e.2]) ["one", "two"] (by kernel_rfl) (by kernel_rfl) (by subst hV; kernel_rfl) (fun x hx=>rfl)) (fun t hx l=>?_) (by omega))
  obtain ⟨a1,a2⟩:=he t hx
  subst hV
  exact ETr.runE 20 [(cx prog w (k+1) (upd m nx (.list l)) (nx+1)).item (strDs namesL) t.1 t.1 _ rfl (strDs_get (by omega)) (by omega),(cx prog w (k+1) (upd m nx (.list l)) (nx+1)).item (strDs namesL) t.2 t.2 _ rfl (strDs_get (by omega)) (by omega),
   .lst (strDs (eqRow t)) false (show 3<=1000 by decide)] (by kernel_rfl)
 have ea:rowsD (rowsL terms eqs letters)=rowsD (terms.map (termRow letters)) ++ rowsD (eqs.map eqRow):=by unfold rowsD rowsL; rw [List.map_append]
 rw [ea]
 obtain ⟨R,hR⟩ : ∃ R,R=rowsD (terms.map (termRow letters)):=⟨_,rfl⟩
 obtain ⟨T,hT⟩ : ∃ R,R=rowsD (eqs.map eqRow):=⟨_,rfl⟩
 have l1:R.length<=1000:=by rw [hR]; unfold rowsD; simpa using h1
 have l2:T.length<=1000:=by rw [hT]; unfold rowsD; simpa using h2
 rw [<- hR] at s1 s2 ⊢
 rw [<- hT] at s2 ⊢
 exact (codeR ["terms", "equations", "letters"] (.ret (.d (.lst (R ++ T)))) m nx [] [.call (names_tr (prog:=prog) (w:=w) (k:=k) (m:=m) (nx:=nx)),.stm s1,.comp s2,(cx prog w (k+1) m nx).addL (.d (.lst R)) (.d (.lst T)) R T rfl trivial rfl trivial (by omega)] (by kernel_rfl) (bindq3 fun S a b c=>by kernel_rfl) rfl (by subst hV; kernel_rfl)).call
end
end
section
section
variable {prog:Program} {w:World} {k:Nat} {m:Nat->MO} {nx:Nat}
noncomputable def ch (c:Nat):Str:=⟨#[c]⟩
noncomputable def escS (t:Str) (c:Nat):Str:=if Txt.contains t (ch c)=true then "\\" ++ ch c else ch c
noncomputable def escA (c : Nat) : Str := "\\" ++ ch c
noncomputable def writtenF (word : Str) (s : Int) : Str := if s = 0 then "\"" ++ Txt.join Str.empty (word.cps.toList.map (escS "\"\\")) ++ "\"" else if s=1 then Txt.join Str.empty (word.cps.toList.map escA) else Txt.join Str.empty (word.cps.toList.map (escS " \"\\"))
theorem escS_len (t : Str) (c : Nat) : (escS t c).length <= 2 := by
 unfold escS
 split <;> exact Nat.le_of_ble_eq_true (by kernel_rfl)
theorem sum_le2 {α : Type} (f : α -> Nat) (h : ∀ x, f x <= 2) : ∀ l : List α, (l.map f).sum <= 2 * l.length
 | [] => Nat.le_refl _
 | x :: l => by
  rw [List.map_cons, List.sum_cons, List.length_cons]
  have := h x
  have := sum_le2 f h l
  omega
theorem esc_elt {φ : Fm} {e : PySem.Expr} {V : List (Str × AV)} {fz : List Str} (c : Nat) (t : Str) (h1 : ∀ (_ : Txt.contains t (ch c) = true), ETr prog w (KK w) bt k φ e ⟨V, fz, m, nx⟩ (.d (.str ("\\" ++ ch c))) ⟨V, fz, m, nx⟩) (h2 : ∀ (_ : Txt.contains t (ch c) = false), ETr prog w (KK w) bt k φ e ⟨V, fz, m, nx⟩ (.d (.str (ch c))) ⟨V, fz, m, nx⟩) :
  ETr prog w (KK w) bt k φ e ⟨V, fz, m, nx⟩ (.d (.str (escS t c))) ⟨V, fz, m, nx⟩ := by
 unfold escS
 cases q : Txt.contains t (ch c) with
 | true => rw [if_pos rfl]; exact h1 q
 | false => rw [if_neg Bool.false_ne_true]; exact h2 q
theorem written_tr (word : Str) (s : Int) (hw : word.length <= 1000) : CallTr prog w (KK w) bt (k + 1) (fn w "_law_written") [.d (.str word), .d (.int s)] [] m nx (.d (.str (writtenF word s))) m nx := by
 have hlen : word.cps.toList.length <= 1000 := by rw [Array.length_toList]; exact hw
 obtain ⟨V, hV⟩ : ∃ V : List (Str × AV), V = ([("word", .d (.str word)), ("style", .d (.int s))] : List (Str × AV)) := ⟨_, rfl⟩
 have hsz : ∀ f : Nat -> Str, (∀ c, (f c).length <= 2) -> ((word.cps.toList.map f).map (·.length)).sum + (word.cps.toList.map f).length * Str.empty.length <= 16777216 := fun f hf => by
  rw [List.map_map]
  have := sum_le2 (fun c => (f c).length) hf word.cps.toList
  have e : Str.empty.length = 0 := rfl
  rw [e]
  simp only [Function.comp_def]
  omega
 have hj : ∀ f : Nat -> Str, (∀ c, (f c).length <= 2) -> (Txt.join Str.empty (word.cps.toList.map f)).length <= 2000 := fun f hf => by
  have h : (Txt.join Str.empty (word.cps.toList.map f)).length = _ := size_glued Str.empty (word.cps.toList.map f)
  have := sum_le2 (fun c => (f c).length) hf word.cps.toList
  have e : Str.empty.length = 0 := rfl
  rw [e, List.map_map] at h
  simp only [Function.comp_def] at h
  omega
 unfold writtenF
 by_cases h0 : s = 0
 ·subst h0
  have comp : ETr prog w (KK w) bt k (ph w "_law_written") (cArg 0 (binR (binL (retE (nthS (ifB (nthS (bd w "_law_written") 0)) 0))))) ⟨V, [], m, nx⟩ (.d (.lst (strDs (word.cps.toList.map (escS "\"\\"))))) ⟨V, [], m, nx⟩ := by
   unfold strDs
   rw [List.map_map]
   refine ETr.ofLoop (by kernel_rfl) (a := .d (.str word)) (ds := strD word) (ETr.runE 20 [] (by subst hV; kernel_rfl)) rfl
    (loop1n (st := ⟨V, [], m, nx⟩) (a := .d (.str word)) (xs := word.cps.toList) (gD := fun c => .str (ch c)) (by kernel_rfl) (by kernel_rfl) rfl (tgt_nameN "sign" (by kernel_rfl) (by kernel_rfl) (by subst hV; kernel_rfl)) (fun c hc l => esc_elt c "\"\\" (fun h => ?_) fun h => ?_) (by omega))
   ·subst hV
    exact ETr.runE 20 [(cx prog w k (upd m nx (.list l)) (nx + 1)).inS (ch c) "\"\\", .br (Txt.contains "\"\\" (ch c)) true h, (cx prog w k (upd m nx (.list l)) (nx + 1)).addS false "\\" (ch c) _ rfl (Nat.le_of_ble_eq_true (by kernel_rfl))] (by kernel_rfl)
   ·subst hV
    exact ETr.runE 20 [(cx prog w k (upd m nx (.list l)) (nx + 1)).inS (ch c) "\"\\", .br (Txt.contains "\"\\" (ch c)) false h] (by kernel_rfl)
  have hs := hsz _ (escS_len "\"\\")
  have hj := hj _ (escS_len "\"\\")
  generalize hL9 : word.cps.toList.map (escS "\"\\") = L at comp hs hj ⊢
  have hL := hL9.symm
  clear hL9
  generalize hJ9 : Txt.join Str.empty L = J at hj ⊢
  have hJ := hJ9.symm
  clear hJ9
  rw [if_pos rfl]
  have q1 : ("\"" : Str).length=1:=by decide +kernel
  have q2:("\"" ++ J:Str).length=1+J.length:=by
   show ((("\"" : Str).cps ++ J.cps).size)=_
   rw [Array.size_append]; exact congrArg (· + J.length) q1
  exact (codeR ["word", "style"] (.ret (.d (.str ("\"" ++ J ++ "\"")))) m nx [] [.brT ((0:Int)=0) rfl,(cx prog w k m nx).mJoin Str.empty,.comp comp,(cx prog w k m nx).cJoin Str.empty (.d (.lst (strDs L))) L J hJ.symm rfl trivial hs,
   (cx prog w k m nx).addS false "\"" J _ rfl (by rw [q1,sizeLine_eq]; omega),(cx prog w k m nx).addS false ("\"" ++ J) "\"" _ rfl (by rw [q1,q2,sizeLine_eq]; omega)] (by kernel_rfl) (bindq2 fun S a b=>by kernel_rfl) rfl (by subst hV; kernel_rfl)).call
 ·rw [if_neg h0]
  by_cases h1:s=1
  ·subst h1
   have comp:ETr prog w (KK w) bt k (ph w "_law_written") (cArg 0 (retE (nthS (ifB (nthS (bd w "_law_written") 1)) 0))) ⟨V,[],m,nx⟩ (.d (.lst (strDs (word.cps.toList.map escA)))) ⟨V,[],m,nx⟩:=by
    unfold strDs
    rw [List.map_map]
    refine ETr.ofLoop (by kernel_rfl) (a:=.d (.str word)) (ds:=strD word) (ETr.runE 20 [] (by subst hV; kernel_rfl)) rfl
     (loop1n (st:=⟨V,[],m,nx⟩) (a:=.d (.str word)) (xs:=word.cps.toList) (gD:=fun c=>.str (ch c)) (by kernel_rfl) (by kernel_rfl) rfl (tgt_nameN "sign" (by kernel_rfl) (by kernel_rfl) (by subst hV; kernel_rfl)) (fun c hc l=>?_) (by omega))
    subst hV
    exact ETr.runE 20 [(cx prog w k (upd m nx (.list l)) (nx+1)).addS false "\\" (ch c) _ rfl (Nat.le_of_ble_eq_true (by kernel_rfl))] (by kernel_rfl)
   have hs := hsz escA (fun c => Nat.le_of_ble_eq_true (by kernel_rfl))
   generalize hL9 : word.cps.toList.map escA = L at comp hs ⊢
   have hL := hL9.symm
   clear hL9
   obtain ⟨J, hJ⟩ : ∃ J, J = Txt.join Str.empty L := ⟨_, rfl⟩
   rw [<- hJ, if_pos rfl]
   exact (codeR ["word", "style"] (.ret (.d (.str J))) m nx [] [.brF ((1 : Int) = 0) (by decide), .brT ((1 : Int) = 1) rfl, (cx prog w k m nx).mJoin Str.empty, .comp comp, (cx prog w k m nx).cJoin Str.empty (.d (.lst (strDs L))) L J hJ.symm rfl trivial hs] (by kernel_rfl) (bindq2 fun S a b => by kernel_rfl) rfl (by subst hV; kernel_rfl)).call
  ·have comp : ETr prog w (KK w) bt k (ph w "_law_written") (cArg 0 (retE (nthS (bd w "_law_written") 2))) ⟨V, [], m, nx⟩ (.d (.lst (strDs (word.cps.toList.map (escS " \"\\"))))) ⟨V, [], m, nx⟩ := by
    unfold strDs
    rw [List.map_map]
    refine ETr.ofLoop (by kernel_rfl) (a := .d (.str word)) (ds := strD word) (ETr.runE 20 [] (by subst hV; kernel_rfl)) rfl
     (loop1n (st := ⟨V, [], m, nx⟩) (a := .d (.str word)) (xs := word.cps.toList) (gD := fun c => .str (ch c)) (by kernel_rfl) (by kernel_rfl) rfl (tgt_nameN "sign" (by kernel_rfl) (by kernel_rfl) (by subst hV; kernel_rfl)) (fun c hc l => esc_elt c " \"\\" (fun h => ?_) fun h => ?_) (by omega))
    ·subst hV
     exact ETr.runE 20 [(cx prog w k (upd m nx (.list l)) (nx + 1)).inS (ch c) " \"\\", .br (Txt.contains " \"\\" (ch c)) true h, (cx prog w k (upd m nx (.list l)) (nx + 1)).addS false "\\" (ch c) _ rfl (Nat.le_of_ble_eq_true (by kernel_rfl))] (by kernel_rfl)
    ·subst hV
     exact ETr.runE 20 [(cx prog w k (upd m nx (.list l)) (nx + 1)).inS (ch c) " \"\\", .br (Txt.contains " \"\\" (ch c)) false h] (by kernel_rfl)
   have hs := hsz _ (escS_len " \"\\")
   generalize hL9 : word.cps.toList.map (escS " \"\\") = L at comp hs ⊢
   have hL := hL9.symm
   clear hL9
   obtain ⟨J, hJ⟩ : ∃ J, J = Txt.join Str.empty L := ⟨_, rfl⟩
   rw [<- hJ, if_neg h1]
   exact (codeR ["word", "style"] (.ret (.d (.str J))) m nx [] [.brF (s = 0) h0, .brF (s = 1) h1, (cx prog w k m nx).mJoin Str.empty, .comp comp, (cx prog w k m nx).cJoin Str.empty (.d (.lst (strDs L))) L J hJ.symm rfl trivial hs] (by kernel_rfl) (bindq2 fun S a b => by kernel_rfl) rfl (by subst hV; kernel_rfl)).call
end
end
section
section
variable {prog : Program} {w : World} {k : Nat} {m : Nat -> MO} {nx : Nat}
noncomputable def stepW (s : Str × Int) (word : Str) : Str × Int := (s.1 ++ (writtenF (if s.2 % 2 = 1 then Txt.upper word else word) (s.2 % 3) ++ " "), s.2 + 1)
noncomputable def stepR (s : Str × Int) (row : List Str) : Str × Int := ((row.foldl stepW s).1 ++ "\n", (row.foldl stepW s).2)
noncomputable def textF (rows : List (List Str)) (style : Int) : Str := (rows.foldl stepR (Str.empty, style)).1
theorem str_len (a b : Str) : (a ++ b).length = a.length + b.length := by
 show (a.cps ++ b.cps).size = _
 rw [Array.size_append]; rfl
theorem written_len (word : Str) (s : Int) (n : Nat) (h : word.length <= n) : (writtenF word s).length <= 2 * n + 2 := by
 have key : ∀ f : Nat -> Str, (∀ c, (f c).length <= 2) -> (Txt.join Str.empty (word.cps.toList.map f)).length <= 2 * n := fun f hf => by
  have h : (Txt.join Str.empty (word.cps.toList.map f)).length = _ := size_glued Str.empty (word.cps.toList.map f)
  have := sum_le2 (fun c => (f c).length) hf word.cps.toList
  have e : Str.empty.length = 0 := rfl
  have e2 : word.cps.toList.length = word.length := by rw [Array.length_toList]; rfl
  rw [e, List.map_map] at h
  simp only [Function.comp_def] at h
  omega
 have q1 : ("\"" : Str).length=1:=by decide +kernel
 unfold writtenF
 split
 ·rw [str_len,str_len,q1]
  have:=key _ (escS_len "\"\\")
  omega
 ·split
  ·have := key escA (fun c => Nat.le_of_ble_eq_true (by kernel_rfl)); omega
  ·have := key _ (escS_len " \"\\"); omega
theorem fold_bound {α σ:Type} {step:σ->α->σ} {μ:σ->Nat} {c:Nat}:∀ (xs:List α) (s:σ),(∀ x ∈ xs,∀ s,μ (step s x)<=μ s+c)->μ (xs.foldl step s)<=μ s+c * xs.length
 | [],s,_=>by simp
 | x :: xs,s,h=>by
  rw [List.foldl_cons,List.length_cons,Nat.mul_add]
  have:=h x (List.mem_cons_self ..) s
  have:=fold_bound xs (step s x) fun y hy=>h y (List.mem_cons_of_mem _ hy)
  omega
noncomputable def Short (word:Str):Prop:=word.length<=10 /\ (Txt.upper word).length<=10
theorem stepW_len (word:Str) (h:Short word) (s:Str × Int):(stepW s word).1.length<=s.1.length+23:=by
 unfold stepW
 dsimp only
 rw [str_len,str_len]
 have q1:(" " : Str).length=1:=by decide +kernel
 have:(writtenF (if s.2 % 2=1 then Txt.upper word else word) (s.2 % 3)).length<=2 * 10+2:=by
  refine written_len _ _ _ ?_
  split
  ·exact h.2
  ·exact h.1
 omega
theorem stepR_len (row:List Str) (h:∀ x ∈ row,Short x) (hl:row.length<=10) (s:Str × Int):(stepR s row).1.length<=s.1.length+231:=by
 unfold stepR
 dsimp only
 rw [str_len]
 have q1:("\n" : Str).length = 1 := by decide +kernel
 have := fold_bound (μ := fun s : Str × Int => s.1.length) (c := 23) (step := stepW) row s fun x hx s => stepW_len x (h x hx) s
 have := Nat.mul_le_mul_left 23 hl
 omega
theorem inner_text (rows : List D) (row : List Str) (s : Str × Int) (h : ∀ x ∈ row, Short x) (hl : row.length <= 10) (hs : s.1.length <= 10000) (V : Str × Int -> List (Str × AV)) (hV : V = fun s => ([("row", .d (.lst (strDs row))), ("rows", .d (.lst rows)), ("style", .d (.int s.2)), ("text", .d (.str s.1))] : List (Str × AV))) :
  STr prog w (KK w) bt (k + 1) (ph w "_law_text") (nthS (forBody (nthS (bd w "_law_text") 1)) 0) ⟨V s, [], m, nx⟩ .next ⟨V (row.foldl stepW s), [], m, nx⟩ := by
 refine STr.forP (.d (.lst (strDs row))) (strDs row) 20 [] (by kernel_rfl) (by subst hV; kernel_rfl) rfl ?_
 refine for_fold (V := V) (M := fun _ => m) (step := stepW) (gD := fun x : Str => .str x) (VX := fun s x => ("word", .d (.str x)) :: V s) row s (V s) (.refl _) (fun pre x post he => ?_) rfl
 have hx : x ∈ row := by rw [he]; simp
 have hsx := h x hx
 have hpre : (pre.foldl stepW s).1.length <= 10000 + 23 * 10 := by
  have := fold_bound (μ := fun s : Str × Int => s.1.length) (c := 23) (step := stepW) pre s fun y hy s => stepW_len y (h y (by rw [he]; simp [hy])) s
  have hp : pre.length <= 10 := by have := congrArg List.length he; simp at this; omega
  have := Nat.mul_le_mul_left 23 hp
  omega
 refine ⟨rfl, takes_nameN "word" (by kernel_rfl) (by kernel_rfl), .next, ?_⟩
 generalize ht9 : pre.foldl stepW s = t at hpre ⊢
 have ht := ht9.symm
 clear ht9
 refine ⟨V (stepW t x), .inl rfl, ?_, .refl _⟩
 have q1 : (" " : Str).length = 1 := by decide +kernel
 by_cases hu : t.2 % 2 = 1
 ·have e : stepW t x = (t.1 ++ (writtenF (Txt.upper x) (t.2 % 3) ++ " "), t.2 + 1) := by unfold stepW; rw [if_pos hu]
  rw [e]
  generalize hu29 : Txt.upper x = u
  have hu2 := hu29.symm
  clear hu29
  have hul : u.length <= 10 := by rw [hu2]; exact hsx.2
  have hwl := written_len u (t.2 % 3) 10 hul
  have hc := written_tr (prog := prog) (w := w) (k := k) (m := m) (nx := nx) u (t.2 % 3) (by omega)
  generalize hz9 : writtenF u (t.2 % 3) = z at hwl hc ⊢
  have hz := hz9.symm
  clear hz9
  subst hV
  exact BTr.runS 40 [.obl (show (0 : Int) < 2 by decide), .brT (t.2 % 2 = 1) hu, (cx prog w (k + 1) m nx).mUpper x, (cx prog w (k + 1) m nx).cUpper x u hu2.symm (by have := hsx.1; omega), .obl (show (0 : Int) < 3 by decide), .call hc,
   (cx prog w (k + 1) m nx).addS false z " " _ rfl (by rw [q1, sizeLine_eq]; omega), (cx prog w (k + 1) m nx).addS true t.1 (z ++ " ") _ rfl (by rw [str_len, q1, sizeLine_eq]; omega)] (by kernel_rfl)
 ·have e : stepW t x = (t.1 ++ (writtenF x (t.2 % 3) ++ " "), t.2 + 1) := by unfold stepW; rw [if_neg hu]
  rw [e]
  have hwl := written_len x (t.2 % 3) 10 hsx.1
  have hc := written_tr (prog := prog) (w := w) (k := k) (m := m) (nx := nx) x (t.2 % 3) (by have := hsx.1; omega)
  generalize hz9 : writtenF x (t.2 % 3) = z at hwl hc ⊢
  have hz := hz9.symm
  clear hz9
  subst hV
  exact BTr.runS 40 [.obl (show (0 : Int) < 2 by decide), .brF (t.2 % 2 = 1) hu, .obl (show (0 : Int) < 3 by decide), .call hc,
   (cx prog w (k + 1) m nx).addS false z " " _ rfl (by rw [q1, sizeLine_eq]; omega), (cx prog w (k + 1) m nx).addS true t.1 (z ++ " ") _ rfl (by rw [str_len,q1,sizeLine_eq]; omega)] (by kernel_rfl)
theorem text_tr (rows:List (List Str)) (style:Int) (h:∀ r ∈ rows,r.length<=10 /\ ∀ x ∈ r,Short x) (hl:rows.length<=20):CallTr prog w (KK w) bt (k+2) (fn w "_law_text") [.d (.lst (rowsD rows)),.d (.int style)] [] m nx (.d (.str (textF rows style))) m nx:=by
 obtain ⟨V,hV⟩ : ∃ V:Str × Int->List (Str × AV),V=fun s=>([("rows",.d (.lst (rowsD rows))),("style",.d (.int s.2)),("text",.d (.str s.1))]:List (Str × AV)):=⟨_,rfl⟩
 have loop:STr prog w (KK w) bt (k+1) (ph w "_law_text") (nthS (bd w "_law_text") 1) ⟨V (Str.empty,style),[],m,nx⟩ .next ⟨V (rows.foldl stepR (Str.empty,style)),[],m,nx⟩:=by
  refine STr.forP (.d (.lst (rowsD rows))) (rowsD rows) 20 [] (by kernel_rfl) (by subst hV; kernel_rfl) rfl ?_
  refine for_fold (V:=V) (M:=fun _=>m) (step:=stepR) (gD:=fun r:List Str=>.lst (strDs r)) (VX:=fun s r=>("row",.d (.lst (strDs r))) :: V s) rows (Str.empty,style) (V (Str.empty,style)) (.refl _) (fun pre x post he=>?_) rfl
  have hx:x ∈ rows:=by rw [he]; simp
  obtain ⟨hx1,hx2⟩:=h x hx
  have hpre:(pre.foldl stepR (Str.empty,style)).1.length<=231 * 20:=by
   have:=fold_bound (μ:=fun s:Str × Int=>s.1.length) (c:=231) (step:=stepR) pre (Str.empty,style) fun y hy s=>stepR_len y (h y (by rw [he]; simp [hy])).2 (h y (by rw [he]; simp [hy])).1 s
   have hp:pre.length<=20:=by have:=congrArg List.length he; simp at this; omega
   have:=Nat.mul_le_mul_left 231 hp
   have:((Str.empty,style):Str × Int).1.length=0:=rfl
   omega
  refine ⟨rfl,takes_nameN "row" (by kernel_rfl) (by kernel_rfl),.next,?_⟩
  generalize ht9:pre.foldl stepR (Str.empty,style)=t at hpre ⊢
  have ht:=ht9.symm
  clear ht9
  refine ⟨V (stepR t x),.inl rfl,?_,.refl _⟩
  have inner:=inner_text (prog:=prog) (w:=w) (k:=k) (m:=m) (nx:=nx) (rowsD rows) x t hx2 hx1 (by omega) _ rfl
  have hb:=fold_bound (μ:=fun s:Str × Int=>s.1.length) (c:=23) (step:=stepW) x t fun y hy s=>stepW_len y (hx2 y hy) s
  have hb2:=Nat.mul_le_mul_left 23 hx1
  have e:stepR t x=((x.foldl stepW t).1 ++ "\n", (x.foldl stepW t).2) := rfl
  rw [e]
  generalize hu9 : x.foldl stepW t = u at inner hb ⊢
  have hu := hu9.symm
  clear hu9
  have q1 : ("\n" : Str).length = 1 := by decide +kernel
  subst hV
  exact BTr.runS 40 [.stm inner, (cx prog w (k + 1) m nx).addS true u.1 "\n" _ rfl (by rw [q1, sizeLine_eq]; omega)] (by kernel_rfl)
 unfold textF
 generalize hu9 : rows.foldl stepR (Str.empty, style) = u at loop ⊢
 have hu := hu9.symm
 clear hu9
 exact (codeR ["rows", "style"] (.ret (.d (.str u.1))) m nx [] [.stm loop] (by kernel_rfl) (bindq2 fun S a b => by kernel_rfl) rfl (by subst hV; kernel_rfl)).call
end
end
section
section
variable {prog : Program} {w : World} {k : Nat} {m : Nat -> MO} {nx : Nat}
noncomputable def ordW (o : List Str) (word : Str) : List Str := if (namesL.any (· == word) && !(o.any (· == word))) = true then o ++ [word] else o
noncomputable def ordR (o : List Str) (row : List Str) : List Str := row.foldl ordW o
noncomputable def orderF (rows : List (List Str)) : List Str := rows.foldl ordR []
theorem ordW_len (o : List Str) (x : Str) : (ordW o x).length <= o.length + 1 := by
 unfold ordW
 split
 ·simp
 ·omega
theorem ordR_len (o : List Str) (r : List Str) (hl : r.length <= 10) : (ordR o r).length <= o.length + 10 := by
 have := fold_bound (μ := fun o : List Str => o.length) (c := 1) (step := ordW) r o fun x _ s => ordW_len s x
 unfold ordR
 omega
theorem strDs_len (l : List Str) : (strDs l).length = l.length := List.length_map _
theorem strDs_app (l : List Str) (x : Str) : strDs l ++ [.str x] = strDs (l ++ [x]) := by unfold strDs; rw [List.map_append]; rfl
theorem inner_order (rows : List D) (row : List Str) (o : List Str) (hl : row.length <= 10) (ho : o.length <= 1000) (V : List (Str × AV)) (hV : V = ([("row", .d (.lst (strDs row))), ("rows", .d (.lst rows)), ("order", .loc nx)] : List (Str × AV))) :
  STr prog w (KK w) bt (k + 1) (ph w "_law_order") (nthS (forBody (nthS (bd w "_law_order") 1)) 0) ⟨V, [], upd m nx (.list (strDs o)), nx + 1⟩ .next ⟨V, [], upd m nx (.list (strDs (row.foldl ordW o))), nx + 1⟩ := by
 refine STr.forP (.d (.lst (strDs row))) (strDs row) 20 [] (by kernel_rfl) (by subst hV; kernel_rfl) rfl ?_
 refine for_fold (V := fun _ => V) (M := fun o => upd m nx (.list (strDs o))) (step := ordW) (gD := fun x : Str => .str x) (VX := fun s x => ("word", .d (.str x)) :: V) row o V (.refl _) (fun pre x post he => ?_) rfl
 have hpre : (pre.foldl ordW o).length <= 1010 := by
  have := fold_bound (μ := fun o : List Str => o.length) (c := 1) (step := ordW) pre o fun x _ s => ordW_len s x
  have hp : pre.length <= 10 := by have := congrArg List.length he; simp at this; omega
  omega
 refine ⟨rfl, takes_nameN "word" (by kernel_rfl) (by kernel_rfl), .next, ?_⟩
 generalize ht9 : pre.foldl ordW o = t at hpre ⊢
 have ht := ht9.symm
 clear ht9
 refine ⟨V, .inl rfl, ?_, .refl _⟩
 have hs : DSrc (upd m nx (.list (strDs t))) (nx + 1) (.loc nx) (strDs t) := ⟨Nat.lt_succ_self _, upd_at _ _ _⟩
 unfold ordW
 cases q1 : namesL.any (· == x) with
 | false =>
  rw [Bool.false_and, if_neg Bool.false_ne_true]
  subst hV
  exact BTr.runS 40 [.call (names_tr (prog := prog) (w := w) (k := k) (m := upd m nx (.list (strDs t))) (nx := nx + 1)), (cx prog w (k + 1) (upd m nx (.list (strDs t))) (nx + 1)).inL x (.d (.lst (strDs namesL))) namesL rfl trivial, .br (namesL.any (· == x)) false q1] (by kernel_rfl)
 | true =>
  rw [Bool.true_and]
  cases q2 : t.any (· == x) with
  | true =>
   rw [Bool.not_true, if_neg Bool.false_ne_true]
   subst hV
   exact BTr.runS 40 [.call (names_tr (prog := prog) (w := w) (k := k) (m := upd m nx (.list (strDs t))) (nx := nx + 1)), (cx prog w (k + 1) (upd m nx (.list (strDs t))) (nx + 1)).inL x (.d (.lst (strDs namesL))) namesL rfl trivial, .br (namesL.any (· == x)) true q1,
    (cx prog w (k + 1) (upd m nx (.list (strDs t))) (nx + 1)).notInL x (.loc nx) t hs trivial, .br (!(t.any (· == x))) false (by rw [q2]; rfl)] (by kernel_rfl)
  | false =>
   rw [Bool.not_false, if_pos rfl]
   subst hV
   exact BTr.runS 40 [.call (names_tr (prog := prog) (w := w) (k := k) (m := upd m nx (.list (strDs t))) (nx := nx + 1)), (cx prog w (k + 1) (upd m nx (.list (strDs t))) (nx + 1)).inL x (.d (.lst (strDs namesL))) namesL rfl trivial, .br (namesL.any (· == x)) true q1,
    (cx prog w (k + 1) (upd m nx (.list (strDs t))) (nx + 1)).notInL x (.loc nx) t hs trivial, .br (!(t.any (· == x))) true (by rw [q2]; rfl),
    (cx prog w (k + 1) (upd m nx (.list (strDs t))) (nx + 1)).mAppend (.loc nx) (strDs t) hs trivial,
    (cx prog w (k + 1) (upd m nx (.list (strDs t))) (nx + 1)).cAppend nx (strDs t) (.str x) (Nat.lt_succ_self _) (upd_at _ _ _) (by rw [strDs_len]; omega) (upd m nx (.list (strDs (t ++ [x])))) (by rw [upd_same, strDs_app])] (by kernel_rfl)
theorem order_tr (rows : List (List Str)) (h : ∀ r ∈ rows, r.length <= 10) (hl : rows.length <= 20) : CallTr prog w (KK w) bt (k + 2) (fn w "_law_order") [.d (.lst (rowsD rows))] [] m nx (.d (.lst (strDs (orderF rows)))) m nx := by
 obtain ⟨V, hV⟩ : ∃ V : List (Str × AV), V = ([("rows", .d (.lst (rowsD rows))), ("order", .loc nx)] : List (Str × AV)) := ⟨_, rfl⟩
 have loop : STr prog w (KK w) bt (k + 1) (ph w "_law_order") (nthS (bd w "_law_order") 1) ⟨V, [], upd m nx (.list (strDs [])), nx + 1⟩ .next ⟨V, [], upd m nx (.list (strDs (orderF rows))), nx + 1⟩ := by
  refine STr.forP (.d (.lst (rowsD rows))) (rowsD rows) 20 [] (by kernel_rfl) (by subst hV; kernel_rfl) rfl ?_
  refine for_fold (V := fun _ => V) (M := fun o => upd m nx (.list (strDs o))) (step := ordR) (gD := fun r : List Str => .lst (strDs r)) (VX := fun s r => ("row", .d (.lst (strDs r))) :: V) rows [] V (.refl _) (fun pre x post he => ?_) rfl
  have hx1 := h x (by rw [he]; simp)
  have hpre : (pre.foldl ordR []).length <= 200 := by
   have := fold_bound (μ := fun o : List Str => o.length) (c := 10) (step := ordR) pre [] fun y hy s => ordR_len s y (h y (by rw [he]; simp [hy]))
   have hp : pre.length <= 20 := by have := congrArg List.length he; simp at this; omega
   have : ([] : List Str).length = 0 := rfl
   omega
  refine ⟨rfl, takes_nameN "row" (by kernel_rfl) (by kernel_rfl), .next, ?_⟩
  generalize ht9 : pre.foldl ordR [] = t at hpre ⊢
  have ht := ht9.symm
  clear ht9
  refine ⟨V, .inl rfl, ?_, .refl _⟩
  have inner := inner_order (prog := prog) (w := w) (k := k) (m := m) (nx := nx) (rowsD rows) x t hx1 (by omega) _ rfl
  subst hV
  exact BTr.runS 40 [.stm inner] (by kernel_rfl)
 refine ((codeR ["rows"] (.ret (.d (.lst (strDs (orderF rows))))) (upd (upd m nx (.list (strDs (orderF rows)))) nx .junk) (nx+1) []
  [.lst [] true (by decide),.stm loop,.fz (upd m nx (.list (strDs (orderF rows)))) (nx+1) nx (strDs (orderF rows)) (upd_at _ _ _) (Nat.lt_succ_self _)] (by kernel_rfl) (bindq1 fun S a=>by kernel_rfl) rfl (by subst hV; kernel_rfl)).call).low (.same (Nat.le_succ _) fun i hi=>by rw [upd_ne _ _ _ (Nat.ne_of_lt hi),upd_ne _ _ _ (Nat.ne_of_lt hi)]) (.d _)
noncomputable def kindN (order:List Str) (word:Str):Nat:=if order.any (· == word)=true then 256+order.idxOf word else 7+signsL.idxOf word
noncomputable def kindsB (rows:List (List Str)) (order:List Str):List Nat:=rows.flatMap fun r=>r.map (kindN order)
theorem kinds_tr (rows:List (List Str)) (order:List Str) (h:∀ r ∈ rows,∀ x ∈ r,x ∈ order \/ x ∈ signsL) (hl:(kindsB rows order).length<=1000) (ho:order.length<=1000) :
  CallTr prog w (KK w) bt (k+2) (fn w "_law_kinds") [.d (.lst (rowsD rows)),.d (.lst (strDs order))] [] m nx (.d (.lst (natsD (kindsB rows order ++ [0])))) m nx:=by
 obtain ⟨V,hV⟩ : ∃ V:List (Str × AV),V=([("rows",.d (.lst (rowsD rows))),("order",.d (.lst (strDs order))),("signs",.d (.lst (strDs signsL)))]:List (Str × AV)):=⟨_,rfl⟩
 have loop:STr prog w (KK w) bt (k+1) (ph w "_law_kinds") (nthS (bd w "_law_kinds") 1) ⟨V,[],m,nx⟩ .next ⟨setv "kinds" (.d (.lst (natsD (kindsB rows order)))) V,[],m,nx⟩:=by
  have e:natsD (kindsB rows order)=rows.flatMap fun r=>r.map fun x=>D.int (kindN order x:Nat):=by
   unfold natsD kindsB
   rw [List.map_flatMap]
   simp only [List.map_map]
   rfl
  have hsz:(rows.flatMap fun r=>r.map fun x=>D.int (kindN order x:Nat)).length<=1000:=by
   rw [<- e]; unfold natsD; rw [List.length_map]; exact hl
  rw [e]
  refine STr.ofLoopP (by kernel_rfl) (by kernel_rfl) (by kernel_rfl) (a:=.d (.lst (rowsD rows))) (ds:=rowsD rows) (ETr.runE 20 [] (by subst hV; kernel_rfl)) rfl
   (loop2n (st:=⟨V,[],m,nx⟩) (a:=.d (.lst (rowsD rows))) (xs:=rows) (ys:=fun r=>r) (gD:=fun r:List Str=>.lst (strDs r)) (gD2:=fun _ x=>.str x) (g:=(lcRest (asVal (nthS (bd w "_law_kinds") 1))).headD ⟨.Constant .none 0 default,.Constant .none 0 default,[],0⟩) (a2:=fun r=>.d (.lst (strDs r)))
    (by kernel_rfl) rfl (tgt_nameN "row" (by kernel_rfl) (by kernel_rfl) (by subst hV; kernel_rfl)) (by kernel_rfl) (by kernel_rfl) (by kernel_rfl) (by kernel_rfl) (fun r hr l=>ETr.runE 20 [] (by subst hV; kernel_rfl)) (fun r hr=>rfl)
    (fun r hr=>tgt_nameN "word" (by kernel_rfl) (by kernel_rfl) (by subst hV; kernel_rfl)) (fun r hr x hx l=>?_) (by omega))
  have hx':=h r hr x hx
  unfold kindN
  cases q:order.any (· == x) with
  | true=>
   have hm:x ∈ order:=by simpa using q
   rw [if_pos rfl]
   subst hV
   exact ETr.runE 20 [(cx prog w (k+1) (upd m nx (.list l)) (nx+1)).inL x (.d (.lst (strDs order))) order rfl trivial,.br (order.any (· == x)) true q,(cx prog w (k+1) (upd m nx (.list l)) (nx+1)).mIndex (.d (.lst (strDs order))) (strDs order) rfl trivial,
    (cx prog w (k+1) (upd m nx (.list l)) (nx+1)).cIndex (.d (.lst (strDs order))) x order rfl trivial hm (by omega)] (by kernel_rfl)
  | false=>
   have hm:x ∈ signsL:=by
    rcases hx' with hx' | hx'
    ·have:order.any (· == x)=true:=by simpa using hx'
     rw [q] at this; cases this
    ·exact hx'
   rw [if_neg Bool.false_ne_true]
   subst hV
   exact ETr.runE 20 [(cx prog w (k+1) (upd m nx (.list l)) (nx+1)).inL x (.d (.lst (strDs order))) order rfl trivial,.br (order.any (· == x)) false q,(cx prog w (k+1) (upd m nx (.list l)) (nx+1)).mIndex (.d (.lst (strDs signsL))) (strDs signsL) rfl trivial,
    (cx prog w (k+1) (upd m nx (.list l)) (nx+1)).cIndex (.d (.lst (strDs signsL))) x signsL rfl trivial hm (by rw [signs_len]; omega)] (by kernel_rfl)
 have e:natsD (kindsB rows order ++ [0])=natsD (kindsB rows order) ++ [.int 0]:=by unfold natsD; rw [List.map_append]; rfl
 rw [e]
 obtain ⟨N,hN⟩ : ∃ N,N=natsD (kindsB rows order):=⟨_,rfl⟩
 have hNl:N.length<=1000:=by rw [hN]; unfold natsD; rw [List.length_map]; exact hl
 rw [<- hN] at loop ⊢
 exact CodeTr.call (codeR ["rows", "order"] (.ret (.d (.lst (N ++ [.int 0])))) m nx [] [.call (signs_tr (prog:=prog) (w:=w) (k:=k) (m:=m) (nx:=nx)),.stm loop,.lst [.int 0] false (show 1<=1000 by decide),
  (cx prog w (k+1) m nx).addL (.d (.lst N)) (.d (.lst [.int 0])) N [.int 0] rfl trivial rfl trivial (by simp; omega)] (by kernel_rfl) (bindq2 fun S a b=>by kernel_rfl) rfl (by subst hV; kernel_rfl))
end
end
section
theorem isLam_of {e:PySem.Expr}:isLam e=true->∃ ps b sc p,e=.Lambda ps b sc p:=by
 induction e using PySem.Expr.casesOn with
 | Lambda ps b sc p=>exact fun _=>⟨ps,b,sc,p,rfl⟩
 | _=>exact fun h=>Internal.ft h
theorem ETr.lamE {prog:Program} {w:World} {K:Frag} {btab:List (Str × Value)} {k:Nat} {φ:Fm} {e:PySem.Expr} {V:List (Str × AV)} {fz:List Str} {m:Nat->MO} {nx:Nat} {caps:List (Str × AV)} {j:Nat} {cA:Addr} (he:isLam e=true) (hdef:noDef (lamPs e)=true) (hcode:φ.code=some cA) (hj:j < nx) (hm:m j=.tab cA)
  (hn:lamNames φ V (lamS e).names=true) (hcaps:freeCaps (nameNow φ ⟨V,fz,m,nx⟩) (lamS e).names=some caps) (fz':List Str) (hfz:frozenBy φ (lamS e).names fz=fz') :
  ETr prog w K btab k φ e ⟨V,fz,m,nx⟩ (.fn (lamPs e) (lamB e) (lamS e) caps) ⟨V,fz',m,nx⟩:=by
 subst hfz
 obtain ⟨ps,b,sc,p,rfl⟩:=isLam_of he
 have e1:lamPs (.Lambda ps b sc p)=ps:=by unfold lamPs; rfl
 have e2:lamB (.Lambda ps b sc p)=b:=by unfold lamB; rfl
 have e3:lamS (.Lambda ps b sc p)=sc:=by unfold lamS; rfl
 rw [e1] at hdef ⊢
 rw [e3] at hn hcaps ⊢
 rw [e2]
 exact ETr.lam (st:=⟨V,fz,m,nx⟩) hdef hcode hj hm hn hcaps
section
variable {prog:Program} {w:World} {k:Nat} {m:Nat->MO} {nx:Nat}
noncomputable abbrev netC (w:World):Addr:=fa w "_netrclex"
noncomputable def wsS:Str:="\n\t\r "
noncomputable def lexNs (L : Int) (x : AV) (p : Nat) : List (Str × AV) := [("lineno", .d (.int L)), ("instream", x), ("whitespace", .d (.str wsS)), ("pushback", .loc p)]
theorem net_init (n j : Nat) (x : AV) (hn : n < nx) (h1 : m n = .inst (netC w) j) (h2 : m j = .ns []) (hj : j < nx) (hnj : n ≠ j) :
  CodeTr prog w (KK w) bt (k + 1) (.k (.ref (ca w "_netrclex" "__init__"))) [.loc n, x] [] m nx (.d .none) (upd (upd m nx (.list [])) j (.ns (lexNs 1 x nx))) (nx + 1) := by
 obtain ⟨m1, d1⟩ : ∃ x', x' = upd m j (.ns [("lineno", .d (.int 1))]) := ⟨_, rfl⟩
 obtain ⟨m2, d2⟩ : ∃ x', x' = upd m1 j (.ns [("lineno", .d (.int 1)), ("instream", x)]) := ⟨_, rfl⟩
 obtain ⟨m3, d3⟩ : ∃ x', x' = upd m2 j (.ns [("lineno", .d (.int 1)), ("instream", x), ("whitespace", .d (.str wsS))]) := ⟨_, rfl⟩
 obtain ⟨m4, d4⟩ : ∃ x', x' = upd (upd m nx (.list [])) j (.ns (lexNs 1 x nx)) := ⟨_, rfl⟩
 have n1 : m1 n = .inst (netC w) j := by rw [d1, upd_ne _ _ _ hnj, h1]
 have n2 : m2 n = .inst (netC w) j := by rw [d2, upd_ne _ _ _ hnj, n1]
 have n3 : m3 n = .inst (netC w) j := by rw [d3, upd_ne _ _ _ hnj, n2]
 have e3 : m3 j = .ns [("lineno", .d (.int 1)), ("instream", x), ("whitespace", .d (.str wsS))] := by rw [d3, upd_at]
 have e2 : m2 j = .ns [("lineno", .d (.int 1)), ("instream", x)] := by rw [d2, upd_at]
 have e1 : m1 j = .ns [("lineno", .d (.int 1))] := by rw [d1, upd_at]
 have q4 : m4 = upd (upd m3 nx (.list [])) j (.ns (lexNs 1 x nx)) := by rw [d4, d3, d2, d1, upd_same, upd_same, <- upd_comm _ (Nat.ne_of_gt hj), upd_same]
 rw [<- d4]
 clear d4
 exact codeR ["self", "fp"] .next m4 (nx + 1) [] [
  (cx prog w k m nx).setA n j (netC w) [] [("lineno", .d (.int 1))] "lineno" (.d (.int 1)) m1 hn h1 h2 rfl (by kernel_rfl) (by kernel_rfl) d1,
  (cx prog w k m1 nx).setA n j (netC w) [("lineno", .d (.int 1))] [("lineno", .d (.int 1)), ("instream", x)] "instream" x m2 hn n1 e1 rfl (by kernel_rfl) (by kernel_rfl) d2,
  (cx prog w k m2 nx).setA n j (netC w) [("lineno", .d (.int 1)), ("instream", x)] [("lineno", .d (.int 1)), ("instream", x), ("whitespace", .d (.str wsS))] "whitespace" (.d (.str wsS)) m3 hn n2 e2 rfl (by kernel_rfl) (by kernel_rfl) d3,
  .lst [] true (Nat.zero_le _),
  (cx prog w k (upd m3 nx (.list [])) (nx + 1)).setA n j (netC w) [("lineno", .d (.int 1)), ("instream", x), ("whitespace", .d (.str wsS))] (lexNs 1 x nx) "pushback" (.loc nx) m4 (Nat.lt_succ_of_lt hn) ((upd_ne _ _ _ (Nat.ne_of_lt hn)).trans n3) ((upd_ne _ _ _ (Nat.ne_of_lt hj)).trans e3) rfl (by kernel_rfl) (by kernel_rfl) q4]
  (by kernel_rfl) (bindq2 fun S a b => by kernel_rfl) rfl (by kernel_rfl)
noncomputable def mkLex (w : World) (m : Nat -> MO) (nx : Nat) (x : AV) : Nat -> MO := upd (upd (upd m nx (.ns (lexNs 1 x (nx + 2)))) (nx + 1) (.inst (netC w) nx)) (nx + 2) (.list [])
theorem net_make (x : AV) : CallTr prog w (KK w) bt (k + 2) (fn w "_netrclex") [x] [] m nx (.loc (nx+1)) (mkLex w m nx x) (nx+3):=by
 have hi:=net_init (prog:=prog) (w:=w) (k:=k) (m:=upd (upd m nx (.ns [])) (nx+1) (.inst (netC w) nx)) (nx:=nx+1+1) (nx+1) nx x (Nat.lt_succ_self _) (upd_at _ _ _) (by rw [upd_ne _ _ _ (Nat.ne_of_lt (Nat.lt_succ_self _)),upd_at]) (by omega) (by omega)
 have e:upd (upd (upd (upd m nx (.ns [])) (nx+1) (.inst (netC w) nx)) (nx+1+1) (.list [])) nx (.ns (lexNs 1 x (nx+1+1)))=mkLex w m nx x:=by
  unfold mkLex
  funext i
  simp only [upd]
  by_cases h0:i=nx
  ·subst h0
   have a:¬ i=i+2:=by omega
   have b:¬ i=i+1:=by omega
   simp [a,b]
  ·simp only [h0,if_false]
 rw [e] at hi
 exact (code_make (st':=⟨[],[],m,nx⟩) (by kernel_rfl) (by kernel_rfl) (by kernel_rfl) hi).call
end
end
section
section
variable {prog:Program} {w:World} {k:Nat} {m:Nat->MO} {nx:Nat}
noncomputable def leftD (cs:List Nat):List D:=cs.reverse.map fun c=>.str (ch c)
theorem size_down (n:Nat):Builtin.Range.rangeSize ((n:Int) - 1) (-1) (-1)=n:=by
 unfold Builtin.Range.rangeSize
 rw [if_neg (by decide)]
 by_cases h:n=0
 ·subst h; rfl
 ·rw [if_pos (by omega)]
  have:(-(-1):Int)=1:=rfl
  rw [this,Int.ediv_one]
  omega
theorem small_down (n:Nat) (h:n<=100000):Builtin.Range.small ((n:Int) - 1) (-1) (-1)=true:=by
 unfold Builtin.Range.small
 rw [size_down]
 unfold Builtin.Range.rangeFitsLong
 simp
 omega
theorem rng_down (n:Nat):rngD ((n:Int) - 1) (-1) (-1)=(List.range n).map fun i:Nat=>D.int ((n:Int) - 1+i * (-1)):=by
 unfold rngD
 rw [size_down]
 rfl
theorem dn_eq {n i:Nat} (h:i < n):(n:Int) - 1+i * (-1)=((n - 1 - i:Nat):Int):=by omega
theorem dn_lt {n i:Nat} (h:i < n):n - 1 - i < n:=by omega
theorem item_down (x:Str) (n i:Nat) (hn:n=x.cps.size) (h:i < n):Txt.item x ((n:Int) - 1+i * (-1))=ch (x.cps.toList.getD (n - 1 - i) 0) /\ (Txt.charAt x ((n:Int) - 1+i * (-1))).isSome=true:=by
 rw [dn_eq h]
 have hlt:n - 1 - i < x.length:=Nat.lt_of_lt_of_eq (dn_lt h) hn
 have e:seqIndex? ((n - 1 - i:Nat):Int) x.length=some (n - 1 - i):=si_at hlt
 have hc:Txt.charAt x ((n - 1 - i:Nat):Int)=some (x.cps.toList.getD (n - 1 - i) 0):=by
  unfold Txt.charAt
  rw [e]
  have hlt:n - 1 - i < x.cps.size:=Nat.lt_of_lt_of_eq (dn_lt h) hn
  have hlt':n - 1 - i < x.cps.toList.length:=by rw [Array.length_toList]; exact hlt
  show x.cps[n - 1 - i]? = _
  rw [List.getD_eq_getElem?_getD,List.getElem?_eq_getElem hlt',Array.getElem?_eq_getElem hlt]
  simp
 refine ⟨?_,by rw [hc]; rfl⟩
 unfold Txt.item
 rw [hc]
 rfl
theorem left_is (x:Str):((List.range x.cps.size).map fun i:Nat=>D.str (ch (x.cps.toList.getD (x.cps.size - 1 - i) 0)))=leftD x.cps.toList:=by
 unfold leftD
 apply List.ext_getElem?
 intro i
 rw [List.getElem?_map,List.getElem?_map]
 by_cases h:i < x.cps.size
 ·have h':i < x.cps.toList.length:=by rw [Array.length_toList]; exact h
  rw [List.getElem?_range h,List.getElem?_reverse h',Array.length_toList]
  have h2:x.cps.size - 1 - i < x.cps.toList.length:=Array.length_toList ▸ dn_lt h
  rw [List.getElem?_eq_getElem h2]
  show some (D.str (ch (x.cps.toList.getD (x.cps.size - 1 - i) 0)))=_
  rw [List.getD_eq_getElem?_getD,List.getElem?_eq_getElem h2]
  rfl
 ·rw [List.getElem?_eq_none (by rw [List.length_range]; omega),List.getElem?_eq_none (by rw [List.length_reverse,Array.length_toList]; omega)]
  rfl
noncomputable def readL (w:World):PySem.Expr:=assE (nthS (bd w "_law_lexer") 2)
noncomputable def readAV (w:World) (q:Nat):AV:=.fn (lamPs (readL w)) (lamB (readL w)) (lamS (readL w)) [("left",.loc q)]
noncomputable def srcNs (w:World) (p q:Nat):List (Str × AV):=lexNs 1 (.d .none) p ++ ([("read",readAV w q)]:List (Str × AV))
noncomputable def lexM (w:World) (m:Nat->MO) (nx:Nat) (cs:List Nat):Nat->MO:=
 mkLex w (upd (mkLex w (upd m nx (.list (leftD cs))) (nx+1) (.d .none)) (nx+1) (.ns (srcNs w (nx+3) nx))) (nx+4) (.loc (nx+2))
theorem left_tr (text:Str) (hl:text.cps.size<=10000):STr prog w (KK w) bt (k+2) (ph w "_law_lexer") (nthS (bd w "_law_lexer") 0) ⟨[("text",.d (.str text))],[],m,nx⟩ .next ⟨[("text",.d (.str text)),("left",.loc nx)],[],upd m nx (.list (leftD text.cps.toList)),nx+1⟩:=by
 obtain ⟨n,hn⟩ : ∃ n,n=text.cps.size:=⟨_,rfl⟩
 rw [<- left_is]
 generalize hV9:(([("text",.d (.str text))]:List (Str × AV)):List (Str × AV))=V
 have hV:=hV9.symm
 clear hV9
 have elen:text.length=n:=hn.symm
 rw [<- hn] at hl ⊢
 have first:ETr prog w (KK w) bt (k+2) (ph w "_law_lexer") (lcFirst (asVal (nthS (bd w "_law_lexer") 0))).iter ⟨V,[],m,nx⟩ (.d (.rng ((n:Int) - 1) (-1) (-1))) ⟨V,[],m,nx⟩:=by
  have hp:Builtin.divisionGoesByPylong ((-1:Int) - ((n:Int) - 1)) (-1)=false:=rfl
  have l:=c_lenS (prog:=prog) (w:=w) (K:=KK w) (btab:=bt) (k:=k+2) (m:=m) (nx:=nx) (x:=text) (by rw [elen]; omega)
  rw [elen] at l
  subst hV
  exact ETr.runE 20 [.call l,(cx prog w (k+2) m nx).range3 ((n:Int) - 1) (-1) (-1) (by decide) hp] (by kernel_rfl)
 refine STr.ofLoopN (l:=(List.range n).map fun i:Nat=>D.str (ch (text.cps.toList.getD (n - 1 - i) 0))) (by kernel_rfl) (by kernel_rfl) first (ds:=rngD ((n:Int) - 1) (-1) (-1)) ⟨small_down n (by omega),rfl⟩ ?_ (by subst hV; kernel_rfl)
 rw [rng_down]
 refine loop1n (st:=⟨V,[],m,nx⟩) (a:=.d (.rng ((n:Int) - 1) (-1) (-1))) (xs:=List.range n) (gD:=fun i:Nat=>D.int ((n:Int) - 1+i * (-1))) (by kernel_rfl) (by kernel_rfl) ⟨small_down n (by omega),(rng_down n).symm⟩ (tgt_nameN "place" (by kernel_rfl) (by kernel_rfl) (by subst hV; kernel_rfl)) (fun i hi l=>?_) (by rw [List.length_range]; omega)
 have hi':i < n:=List.mem_range.mp hi
 obtain ⟨e1,e2⟩:=item_down text n i hn hi'
 rw [<- e1]
 have hf:fitsSsize ((n:Int) - 1+i * (-1))=true:=by
  unfold fitsSsize
  simp
  omega
 subst hV
 exact ETr.runE 20 [(cx prog w (k+2) (upd m nx (.list l)) (nx+1)).itemS text ((n:Int) - 1+i * (-1)) hf e2] (by kernel_rfl)
theorem lexer_tr (text:Str) (hl:text.cps.size<=10000) (j:Nat) (cA:Addr) (hj:j < nx) (hm:m j=.tab cA) (hc:(ph w "_law_lexer").code=some cA) :
  CallTr prog w (KK w) bt (k+3) (fn w "_law_lexer") [.d (.str text)] [] m nx (.loc (nx+5)) (lexM w m nx text.cps.toList) (nx+7):=by
 obtain ⟨m1,d1⟩ : ∃ x,x=upd m nx (.list (leftD text.cps.toList)):=⟨_,rfl⟩
 obtain ⟨m2,d2⟩ : ∃ x,x=mkLex w m1 (nx+1) (.d .none):=⟨_,rfl⟩
 obtain ⟨m3,d3⟩ : ∃ x,x=upd m2 (nx+1) (.ns (srcNs w (nx+3) nx)):=⟨_,rfl⟩
 have e0:lexM w m nx text.cps.toList=mkLex w m3 (nx+4) (.loc (nx+2)):=by rw [d3,d2,d1]; rfl
 rw [e0]
 have s1:=left_tr (prog:=prog) (w:=w) (k:=k) (m:=m) (nx:=nx) text hl
 have s2:=net_make (prog:=prog) (w:=w) (k:=k) (m:=m1) (nx:=nx+1) (.d .none)
 have s4:=net_make (prog:=prog) (w:=w) (k:=k) (m:=m3) (nx:=nx+4) (.loc (nx+2))
 have i1:m2 (nx+2)=.inst (netC w) (nx+1):=by
  rw [d2]; unfold mkLex; rw [upd_ne _ _ _ (by omega),upd_at]
 have i2:m2 (nx+1)=.ns (lexNs 1 (.d .none) (nx+3)):=by
  rw [d2]; unfold mkLex; rw [upd_ne _ _ _ (by omega),upd_ne _ _ _ (by omega),upd_at]
 have hm2:m2 j=.tab cA:=by
  rw [d2]; unfold mkLex; rw [upd_ne _ _ _ (by omega),upd_ne _ _ _ (by omega),upd_ne _ _ _ (by omega),d1,upd_ne _ _ _ (by omega),hm]
 rw [<- d1] at s1
 rw [<- d2] at s2
 generalize d49:mkLex w m3 (nx+4) (.loc (nx+2))=m4 at s4 ⊢
 have d4:=d49.symm
 clear d49
 have lam:ETr prog w (KK w) bt (k+2) (ph w "_law_lexer") (readL w) ⟨[("text",.d (.str text)),("left",.loc nx),("source",.loc (nx+2))],[],m2,nx+4⟩ (readAV w nx) ⟨[("text",.d (.str text)),("left",.loc nx),("source",.loc (nx+2))],["left"],m2,nx+4⟩:=
  ETr.lamE (by kernel_rfl) (by kernel_rfl) hc (by omega) hm2 (by kernel_rfl) (by kernel_rfl) _ (by kernel_rfl)
 exact (codeR ["text"] (.ret (.loc (nx+5))) m4 (nx+7) ["left"] [.stm s1,.call s2,.lam lam,
  (cx prog w (k+2) m2 (nx+4)).setA (nx+2) (nx+1) (netC w) (lexNs 1 (.d .none) (nx+3)) (srcNs w (nx+3) nx) "read" (readAV w nx) m3 (by show nx+2 < nx+4; omega) i1 i2 rfl (by kernel_rfl) (by kernel_rfl) d3,
  .call s4,.keep] (by kernel_rfl) (bindq1 fun S a=>by kernel_rfl) rfl (by kernel_rfl)).call
end
end
section
section
variable {prog:Program} {w:World} {k:Nat} {m:Nat->MO} {nx:Nat}
theorem leftD_cons (c:Nat) (r:List Nat):leftD (c :: r)=leftD r ++ [.str (ch c)]:=by unfold leftD; rw [List.reverse_cons,List.map_append]; rfl
theorem leftD_len (r:List Nat):(leftD r).length=r.length:=by unfold leftD; rw [List.length_map,List.length_reverse]
noncomputable def OkCs (cs:List Nat):Prop:=cs.length<=10000 /\ ∀ c ∈ cs,c < 1114112
theorem OkCs.tail {c:Nat} {r:List Nat} (h:OkCs (c :: r)):OkCs r:=⟨by have:=h.1; rw [List.length_cons] at this; omega,fun x hx=>h.2 x (List.mem_cons_of_mem _ hx)⟩
theorem ch_ok {c:Nat} (h:c < 1114112):PyData.strOk (ch c)=true:=by
 unfold PyData.strOk ch
 simp
 omega
theorem left_flat {cs:List Nat} (h:OkCs cs):Flat (.lst (leftD cs)):=flat_lst fun x hx=>by
 unfold leftD at hx
 obtain ⟨c,hc,rfl⟩:=List.mem_map.mp hx
 exact ⟨ch_ok (h.2 c (List.mem_reverse.mp hc)),Nat.zero_le _⟩
theorem nil_flat:Flat (.lst []):=flat_lst fun x hx=>by cases hx
theorem lamBind_read:LamBind (lamPs (readL w)) "size" := by
 intro fd v h1 h2 h3
 obtain ⟨a1,a2,a3,a4,a5,a6,a7,a8,a9⟩:=fd
 subst h1 h2 h3
 kernel_rfl
theorem read_nil (q:Nat) (hq:q < nx) (hm:m q=.list []):CodeTr prog w (KK w) bt (k+1) (readAV w q) [.d (.int 1)] [] m nx (.d (.str Str.empty)) m nx:=
 code_lam (st':=⟨[("size",.d (.int 1))],[],m,nx⟩) lamBind_read (by kernel_rfl) (ETr.runE 20 [.lst [] false (Nat.zero_le _),
  (cx prog w k m nx).neF (.loc q) (.d (.lst [])) (.lst []) (.lst []) true (by simp) (.inr ⟨[],rfl,trivial,hq,hm⟩) (.inl rfl) nil_flat nil_flat,.br (!true) false rfl] (by kernel_rfl))
theorem read_cons (q c:Nat) (r:List Nat) (hq:q < nx) (hm:m q=.list (leftD (c :: r))) (hok:OkCs (c :: r)):CodeTr prog w (KK w) bt (k+1) (readAV w q) [.d (.int 1)] [] m nx (.d (.str (ch c))) (upd m q (.list (leftD r))) nx:=
 code_lam (st':=⟨[("size",.d (.int 1))],[],upd m q (.list (leftD r)),nx⟩) lamBind_read (by kernel_rfl) (ETr.runE 20 [.lst [] false (Nat.zero_le _),
  (cx prog w k m nx).neF (.loc q) (.d (.lst [])) (.lst (leftD (c :: r))) (.lst []) false (by rw [leftD_cons]; simp) (.inr ⟨_,rfl,trivial,hq,hm⟩) (.inl rfl) (left_flat hok) nil_flat,.br (!false) true rfl,
  (cx prog w k m nx).mPop (.loc q) (leftD (c :: r)) ⟨hq,hm⟩ trivial,(cx prog w k m nx).cPop q (leftD r) (.str (ch c)) hq (by rw [<- leftD_cons]; exact hm) (by rw [leftD_len]; have:=hok.tail.1; omega) (upd m q (.list (leftD r))) rfl] (by kernel_rfl))
structure LexAt (w:World) (m:Nat->MO) (nx n j p s t q p':Nat) (L:Int) (cs:List Nat) (push:List D):Prop where
 ln:n < nx
 lj:j < nx
 lp:p < nx
 ls:s < nx
 lt:t < nx
 lq:q < nx
 i1:m n=.inst (netC w) j
 i2:m j=.ns (lexNs L (.loc s) p)
 i3:m p=.list push
 i4:m s=.inst (netC w) t
 i5:m t=.ns (srcNs w p' q)
 i6:m q=.list (leftD cs)
 jt:j ≠ t
 pq:p ≠ q
noncomputable def lexUp (m:Nat->MO) (j p s q:Nat) (L:Int) (cs:List Nat):Nat->MO:=upd (upd m q (.list (leftD cs))) j (.ns (lexNs L (.loc s) p))
variable {n j p s t q p':Nat} {L:Int} {cs:List Nat} {push:List D}
theorem LexAt.ne (X:LexAt w m nx n j p s t q p' L cs push):n ≠ j /\ n ≠ q /\ j ≠ q /\ s ≠ j /\ s ≠ q /\ t ≠ q /\ p ≠ j /\ n ≠ p /\ s ≠ p /\ t ≠ p:=by
 refine ⟨?_,?_,?_,?_,?_,?_,?_,?_,?_,?_⟩
 ·intro h; have:=X.i1; rw [h,X.i2] at this; cases this
 ·intro h; have:=X.i1; rw [h,X.i6] at this; cases this
 ·intro h; have:=X.i2; rw [h,X.i6] at this; cases this
 ·intro h; have:=X.i4; rw [h,X.i2] at this; cases this
 ·intro h; have:=X.i4; rw [h,X.i6] at this; cases this
 ·intro h; have:=X.i5; rw [h,X.i6] at this; cases this
 ·intro h; have:=X.i3; rw [h,X.i2] at this; cases this
 ·intro h; have:=X.i1; rw [h,X.i3] at this; cases this
 ·intro h; have:=X.i4; rw [h,X.i3] at this; cases this
 ·intro h; have:=X.i5; rw [h,X.i3] at this; cases this
theorem LexAt.up (X:LexAt w m nx n j p s t q p' L cs push) (L':Int) (cs':List Nat):LexAt w (lexUp m j p s q L' cs') nx n j p s t q p' L' cs' push:=by
 obtain ⟨a1,a2,a3,a4,a5,a6,a7,a8,a9,a10⟩:=X.ne
 refine ⟨X.ln,X.lj,X.lp,X.ls,X.lt,X.lq,?_,?_,?_,?_,?_,?_,X.jt,X.pq⟩
 ·unfold lexUp; rw [upd_ne _ _ _ a1,upd_ne _ _ _ a2,X.i1]
 ·unfold lexUp; rw [upd_at]
 ·unfold lexUp; rw [upd_ne _ _ _ a7,upd_ne _ _ _ X.pq,X.i3]
 ·unfold lexUp; rw [upd_ne _ _ _ a4,upd_ne _ _ _ a5,X.i4]
 ·unfold lexUp; rw [upd_ne _ _ _ (Ne.symm X.jt),upd_ne _ _ _ a6,X.i5]
 ·unfold lexUp; rw [upd_ne _ _ _ (Ne.symm a3),upd_at]
theorem lexUp_up (m:Nat->MO) (j p s q:Nat) (hjq:j ≠ q) (L L':Int) (cs cs':List Nat):lexUp (lexUp m j p s q L cs) j p s q L' cs'=lexUp m j p s q L' cs':=by
 unfold lexUp
 rw [upd_comm _ hjq,upd_same,upd_same]
theorem LexAt.id (X:LexAt w m nx n j p s t q p' L cs push):lexUp m j p s q L cs=m:=by
 unfold lexUp
 rw [upd_id m q X.i6,upd_id m j X.i2]
theorem lexUp_ne {i:Nat} (h1:i ≠ j) (h2:i ≠ q):lexUp m j p s q L cs i=m i:=by
 unfold lexUp
 rw [upd_ne _ _ _ h1,upd_ne _ _ _ h2]
noncomputable abbrev rcA (w:World):Addr:=ca w "_netrclex" "_read_char"
theorem rc_nil (X:LexAt w m nx n j p s t q p' L [] push):CodeTr prog w (KK w) bt (k+2) (.k (.ref (rcA w))) [.loc n] [] m nx (.d (.str Str.empty)) m nx:=
 codeR ["self"] (.ret (.d (.str Str.empty))) m nx [] [(cx prog w (k+1) m nx).getA n j (netC w) (lexNs L (.loc s) p) "instream" (.loc s) X.ln X.i1 X.i2 (by kernel_rfl) rfl (by kernel_rfl),
  (cx prog w (k+1) m nx).mAttr s t (netC w) (srcNs w p' q) "read" (readAV w q) X.ls X.i4 X.i5 (by kernel_rfl) rfl (by kernel_rfl) (by kernel_rfl),
  .call (CodeTr.call (read_nil (prog:=prog) (w:=w) (k:=k) (m:=m) (nx:=nx) q X.lq X.i6)),.brF (Str.empty = "\n") (by decide +kernel)] (by kernel_rfl) (bindq1 fun S a => by kernel_rfl) rfl (by kernel_rfl)
noncomputable def nlOf (c : Nat) : Int := if c = 10 then 1 else 0
theorem rc_cons (c : Nat) (r : List Nat) (X : LexAt w m nx n j p s t q p' L (c :: r) push) (hok : OkCs (c :: r)) : CodeTr prog w (KK w) bt (k + 2) (.k (.ref (rcA w))) [.loc n] [] m nx (.d (.str (ch c))) (lexUp m j p s q (L + nlOf c) r) nx := by
 obtain ⟨a1, a2, a3, a4, a5, a6, a7, a8, a9, a10⟩ := X.ne
 have j1 : (upd m q (.list (leftD r))) j = .ns (lexNs L (.loc s) p) := (upd_ne _ _ _ a3).trans X.i2
 have n1 : (upd m q (.list (leftD r))) n = .inst (netC w) j := (upd_ne _ _ _ a2).trans X.i1
 unfold nlOf
 by_cases hc : c = 10
 ·subst hc
  rw [if_pos rfl]
  exact codeR ["self"] (.ret (.d (.str (ch 10)))) (lexUp m j p s q (L + 1) r) nx [] [(cx prog w (k + 1) m nx).getA n j (netC w) (lexNs L (.loc s) p) "instream" (.loc s) X.ln X.i1 X.i2 (by kernel_rfl) rfl (by kernel_rfl),
   (cx prog w (k + 1) m nx).mAttr s t (netC w) (srcNs w p' q) "read" (readAV w q) X.ls X.i4 X.i5 (by kernel_rfl) rfl (by kernel_rfl) (by kernel_rfl),
   .call (CodeTr.call (read_cons (prog := prog) (w := w) (k := k) (m := m) (nx := nx) q 10 r X.lq X.i6 hok)), .brT (ch 10 = "\n") (by decide +kernel),
   (cx prog w (k + 1) (upd m q (.list (leftD r))) nx).getA n j (netC w) (lexNs L (.loc s) p) "lineno" (.d (.int L)) X.ln n1 j1 (by kernel_rfl) rfl (by kernel_rfl),
   (cx prog w (k + 1) (upd m q (.list (leftD r))) nx).setA n j (netC w) (lexNs L (.loc s) p) (lexNs (L + 1) (.loc s) p) "lineno" (.d (.int (L + 1))) (lexUp m j p s q (L + 1) r) X.ln n1 j1 rfl (by kernel_rfl) (by kernel_rfl) rfl]
   (by kernel_rfl) (bindq1 fun S a => by kernel_rfl) rfl (by kernel_rfl)
 ·rw [if_neg hc]
  have e : lexUp m j p s q (L + 0) r = upd m q (.list (leftD r)) := by
   rw [Int.add_zero]
   unfold lexUp
   rw [upd_id _ j j1]
  rw [e]
  exact codeR ["self"] (.ret (.d (.str (ch c)))) (upd m q (.list (leftD r))) nx [] [(cx prog w (k + 1) m nx).getA n j (netC w) (lexNs L (.loc s) p) "instream" (.loc s) X.ln X.i1 X.i2 (by kernel_rfl) rfl (by kernel_rfl),
   (cx prog w (k + 1) m nx).mAttr s t (netC w) (srcNs w p' q) "read" (readAV w q) X.ls X.i4 X.i5 (by kernel_rfl) rfl (by kernel_rfl) (by kernel_rfl),
   .call (CodeTr.call (read_cons (prog := prog) (w := w) (k := k) (m := m) (nx := nx) q c r X.lq X.i6 hok)), .brF (ch c = "\n") (fun h => hc (by
    have e2 : ("\n" : Str) = ch 10 := by decide +kernel
    rw [e2] at h
    unfold ch at h
    simpa using h))] (by kernel_rfl) (bindq1 fun S a => by kernel_rfl) rfl (by kernel_rfl)
end
end
section
section
variable {prog : Program} {w : World} {k : Nat} {m : Nat -> MO} {nx : Nat} {n j p s t q p' c : Nat} {L : Int} {cs : List Nat} {push : List D}
noncomputable abbrev Items := List (Bool × Nat)
noncomputable def encI (l : Items) : List Nat := l.flatMap fun x => if x.1 then [92, x.2] else [x.2]
noncomputable def tokI (tok : Str) (l : Items) : Str := l.foldl (fun t x => t ++ ch x.2) tok
theorem ch_len (c : Nat) : (ch c).length = 1 := rfl
theorem OkCs.app {a b : List Nat} (h : OkCs (a ++ b)) : OkCs b := ⟨by have := h.1; rw [List.length_append] at this; omega, fun x hx => h.2 x (List.mem_append.mpr (.inr hx))⟩
noncomputable abbrev gtA (w : World) : Addr := ca w "_netrclex" "get_token"
noncomputable abbrev gtB (w : World) : List Stmt := bdA w (gtA w)
noncomputable abbrev gtF (w : World) : Fm := phA w (gtA w)
noncomputable abbrev gtO (w : World) : Stmt := nthS (gtB w) 3
noncomputable abbrev gtQ (w : World) : Stmt := nthS (ifB (nthS (forBody (gtO w)) 1)) 0
noncomputable abbrev gtU (w : World) : Stmt := nthS (ifE (nthS (forBody (gtO w)) 1)) 2
noncomputable def Vg (n c : Nat) (tok : Str) : List (Str × AV) := [("self", .loc n), ("token", .d (.str tok)), ("fiter", .loc c)]
theorem ch_inj {a b : Nat} (h : ch a = ch b) : a = b := by unfold ch at h; simpa using h
theorem q_ch : ("\"" : Str)=ch 34:=by decide +kernel
theorem b_ch:("\\" : Str)=ch 92:=by decide +kernel
theorem nl0 {a:Nat} {L:Int} (h:a ≠ 10):L+nlOf a=L:=by unfold nlOf; rw [if_neg h]; exact Int.add_zero L
theorem rc_go (a:Nat) (r:List Nat) (X:LexAt w (lexUp m j p s q L (a :: r)) nx n j p s t q p' L (a :: r) push) (hok:OkCs (a :: r)) (h:a ≠ 10):CodeTr prog w (KK w) bt (k+2) (.k (.ref (rcA w))) [.loc n] [] (lexUp m j p s q L (a :: r)) nx (.d (.str (ch a))) (lexUp m j p s q L r) nx:=by
 have z:=rc_cons (prog:=prog) (k:=k) a r X hok
 rw [lexUp_up _ _ _ _ _ X.ne.2.2.1,nl0 h] at z
 exact z
theorem LexAt.next {cs:List Nat} (X:LexAt w (lexUp m j p s q L cs) nx n j p s t q p' L cs push) (cs':List Nat):LexAt w (lexUp m j p s q L cs') nx n j p s t q p' L cs' push:=by
 have z:=X.up L cs'
 rw [lexUp_up _ _ _ _ _ X.ne.2.2.1] at z
 exact z
theorem quote_loop (hcn:c < nx) (hcj:c ≠ j) (hcq:c ≠ q) (hmc:m c=.citer (.bm (rcA w) n) Str.empty):∀ (items:Items) (V0:List (Str × AV)) (tok:Str) (L:Int) (rest:List Nat),VSub (Vg n c tok) V0->(∀ x ∈ items,x.2 ≠ 10 /\ (x.1=false->x.2 ≠ 34 /\ x.2 ≠ 92))->tok.length+items.length<=1000 ->
  LexAt w (lexUp m j p s q L (encI items ++ 34 :: rest)) nx n j p s t q p' L (encI items ++ 34 :: rest) push->OkCs (encI items ++ 34 :: rest) ->
  ∃ V9,ForCi prog w (KK w) bt (k+2) (gtF w) (forTgt (gtQ w)) (forBody (gtQ w)) c n (rcA w) Str.empty items.length ⟨V0,[],lexUp m j p s q L (encI items ++ 34 :: rest),nx⟩ (.ret (.d (.str (tokI tok items)))) ⟨V9,[],lexUp m j p s q L rest,nx⟩
 | [],V0,tok,L,rest,hV,hi,hz,X,hok=>by
  have hjq:=X.ne.2.2.1
  have call:=rc_go (prog:=prog) (k:=k) 34 rest X hok (by decide)
  obtain ⟨V2,e,s2⟩:=takes_nameN (φ:=gtF w) (t:=forTgt (gtQ w)) (d:=.str (ch 34)) (V:=Vg n c tok) "ch" (by kernel_rfl) (by kernel_rfl) V0 [] (lexUp m j p s q L rest) nx hV
  have hm0:∀ L cs,lexUp m j p s q L cs c=.citer (.bm (rcA w) n) Str.empty:=fun L cs=>(lexUp_ne hcj hcq).trans hmc
  have body:BTr prog w (KK w) bt (k+3) (gtF w) (forBody (gtQ w)) ⟨("ch",.d (.str (ch 34))) :: Vg n c tok,[],lexUp m j p s q L rest,nx⟩ (.ret (.d (.str tok))) ⟨[],[],lexUp m j p s q L rest,nx⟩:=
   BTr.runS 40 [.brT (ch 34 = "\"") q_ch.symm] (by kernel_rfl)
  exact ⟨[],.stop hcn (hm0 _ _) call (hm0 _ _) (by kernel_rfl) e (body.pre s2)⟩
 | (true,a) :: items,V0,tok,L,rest,hV,hi,hz,X,hok=>by
  have hjq:=X.ne.2.2.1
  have ec:encI ((true,a) :: items) ++ 34 :: rest=92 :: a :: (encI items ++ 34 :: rest):=rfl
  rw [ec] at X hok ⊢
  obtain ⟨h10,-⟩:=hi _ (List.mem_cons_self ..)
  have call:=rc_go (prog:=prog) (k:=k) 92 _ X hok (by decide)
  have X1:=X.next (a :: (encI items ++ 34 :: rest))
  have call2:=rc_go (prog:=prog) (k:=k+1) a _ X1 hok.tail h10
  have X2:=X1.next (encI items ++ 34 :: rest)
  obtain ⟨V2,e,s2⟩:=takes_nameN (φ:=gtF w) (t:=forTgt (gtQ w)) (d:=.str (ch 92)) (V:=Vg n c tok) "ch" (by kernel_rfl) (by kernel_rfl) V0 [] (lexUp m j p s q L (a :: (encI items ++ 34 :: rest))) nx hV
  have hm0:∀ L cs,lexUp m j p s q L cs c=.citer (.bm (rcA w) n) Str.empty:=fun L cs=>(lexUp_ne hcj hcq).trans hmc
  have hz':tok.length+items.length+1<=1000:=by rw [List.length_cons] at hz; omega
  obtain ⟨m1,d1⟩ : ∃ x,x=lexUp m j p s q L (a :: (encI items ++ 34 :: rest)):=⟨_,rfl⟩
  obtain ⟨m2,d2⟩ : ∃ x,x=lexUp m j p s q L (encI items ++ 34 :: rest):=⟨_,rfl⟩
  have i1:=X1.i1
  have i2:=X1.i2
  have ih:=quote_loop hcn hcj hcq hmc items (Vg n c (tok ++ ch a)) (tok ++ ch a) L rest (.refl _) (fun x hx=>hi x (List.mem_cons_of_mem _ hx)) (by rw [str_len,ch_len]; omega) X2 hok.tail.tail
  rw [<- d1] at call2 i1 i2
  rw [<- d2] at call2
  have body:BTr prog w (KK w) bt (k+3) (gtF w) (forBody (gtQ w)) ⟨("ch",.d (.str (ch 92))) :: Vg n c tok,[],m1,nx⟩ .next ⟨Vg n c (tok ++ ch a),[],m2,nx⟩:=
   BTr.runS 40 [.brF (ch 92 = "\"") (by rw [q_ch]; exact fun h=>by have:=ch_inj h; omega),.brT (ch 92 = "\\") b_ch.symm, (cx prog w (k + 3) m1 nx).mFn n j (netC w) (rcA w) (lexNs L (.loc s) p) "_read_char" X1.ln i1 i2 (by kernel_rfl) (by kernel_rfl),
    .call (CodeTr.call call2), (cx prog w (k + 3) m2 nx).addS true tok (ch a) _ rfl (by rw [ch_len, sizeLine_eq]; omega)] (by kernel_rfl)
  rw [d1, d2] at body
  obtain ⟨V9, ih⟩ := ih
  exact ⟨V9, .step hcn (hm0 _ _) call (hm0 _ _) (by kernel_rfl) e (body.pre s2) (.inl rfl) ih⟩
 | (false, a) :: items, V0, tok, L, rest, hV, hi, hz, X, hok => by
  have hjq := X.ne.2.2.1
  have ec : encI ((false, a) :: items) ++ 34 :: rest = a :: (encI items ++ 34 :: rest) := rfl
  rw [ec] at X hok ⊢
  obtain ⟨h10, hb⟩ := hi _ (List.mem_cons_self ..)
  obtain ⟨h34, h92⟩ := hb rfl
  have call := rc_go (prog := prog) (k := k) a _ X hok h10
  have X1 := X.next (encI items ++ 34 :: rest)
  obtain ⟨V2, e, s2⟩ := takes_nameN (φ := gtF w) (t := forTgt (gtQ w)) (d := .str (ch a)) (V := Vg n c tok) "ch" (by kernel_rfl) (by kernel_rfl) V0 [] (lexUp m j p s q L (encI items ++ 34 :: rest)) nx hV
  have hm0 : ∀ L cs, lexUp m j p s q L cs c = .citer (.bm (rcA w) n) Str.empty := fun L cs => (lexUp_ne hcj hcq).trans hmc
  have hz' : tok.length + items.length + 1 <= 1000 := by rw [List.length_cons] at hz; omega
  obtain ⟨m1, d1⟩ : ∃ x, x = lexUp m j p s q L (encI items ++ 34 :: rest) := ⟨_, rfl⟩
  have body : BTr prog w (KK w) bt (k + 3) (gtF w) (forBody (gtQ w)) ⟨("ch", .d (.str (ch a))) :: Vg n c tok, [], m1, nx⟩ .next ⟨Vg n c (tok ++ ch a), [], m1, nx⟩ :=
   BTr.runS 40 [.brF (ch a = "\"") (by rw [q_ch]; exact fun h=>h34 (ch_inj h)),.brF (ch a = "\\") (by rw [b_ch]; exact fun h=>h92 (ch_inj h)),(cx prog w (k+3) m1 nx).addS true tok (ch a) _ rfl (by rw [ch_len,sizeLine_eq]; omega)] (by kernel_rfl)
  rw [d1] at body
  obtain ⟨V9,ih⟩:=quote_loop hcn hcj hcq hmc items (Vg n c (tok ++ ch a)) (tok ++ ch a) L rest (.refl _) (fun x hx=>hi x (List.mem_cons_of_mem _ hx)) (by rw [str_len,ch_len]; omega) X1 hok.tail
  exact ⟨V9,.step hcn (hm0 _ _) call (hm0 _ _) (by kernel_rfl) e (body.pre s2) (.inl rfl) ih⟩
end
end
section
section
variable {prog:Program} {w:World} {k:Nat} {m:Nat->MO} {nx:Nat} {n j p s t q p' c:Nat} {L:Int} {cs:List Nat} {push:List D}
noncomputable def wsB (c:Nat):Bool:=Txt.contains wsS (ch c)
theorem wsB_92:wsB 92=false:=by decide +kernel
theorem wsB_32:wsB 32=true:=by decide +kernel
theorem wsB_34:wsB 34=false:=by decide +kernel
theorem wsB_10:wsB 10=true:=by decide +kernel
theorem bare_loop (hcn:c < nx) (hcj:c ≠ j) (hcq:c ≠ q) (hmc:m c=.citer (.bm (rcA w) n) Str.empty) (d:Nat) (hd:wsB d=true) (hd10:d ≠ 10):∀ (items:Items) (V0:List (Str × AV)) (tok:Str) (L:Int) (rest:List Nat),VSub (Vg n c tok) V0->(∀ x ∈ items,x.2 ≠ 10 /\ (x.1=false->wsB x.2=false /\ x.2 ≠ 92))->tok.length+items.length<=1000 ->
  LexAt w (lexUp m j p s q L (encI items ++ d :: rest)) nx n j p s t q p' L (encI items ++ d :: rest) push->OkCs (encI items ++ d :: rest) ->
  ∃ V9,ForCi prog w (KK w) bt (k+2) (gtF w) (forTgt (gtU w)) (forBody (gtU w)) c n (rcA w) Str.empty items.length ⟨V0,[],lexUp m j p s q L (encI items ++ d :: rest),nx⟩ (.ret (.d (.str (tokI tok items)))) ⟨V9,[],lexUp m j p s q L rest,nx⟩
 | [],V0,tok,L,rest,hV,hi,hz,X,hok=>by
  have hjq:=X.ne.2.2.1
  have call:=rc_go (prog:=prog) (k:=k) d rest X hok hd10
  have X1:=X.next rest
  obtain ⟨V2,e,s2⟩:=takes_nameN (φ:=gtF w) (t:=forTgt (gtU w)) (d:=.str (ch d)) (V:=Vg n c tok) "ch" (by kernel_rfl) (by kernel_rfl) V0 [] (lexUp m j p s q L rest) nx hV
  have hm0:∀ L cs,lexUp m j p s q L cs c=.citer (.bm (rcA w) n) Str.empty:=fun L cs=>(lexUp_ne hcj hcq).trans hmc
  obtain ⟨m1,d1⟩ : ∃ x,x=lexUp m j p s q L rest:=⟨_,rfl⟩
  have i1:=X1.i1
  have i2:=X1.i2
  rw [<- d1] at i1 i2
  have body:BTr prog w (KK w) bt (k+3) (gtF w) (forBody (gtU w)) ⟨("ch",.d (.str (ch d))) :: Vg n c tok,[],m1,nx⟩ (.ret (.d (.str tok))) ⟨[],[],m1,nx⟩:=
   BTr.runS 40 [(cx prog w (k+3) m1 nx).getA n j (netC w) (lexNs L (.loc s) p) "whitespace" (.d (.str wsS)) X1.ln i1 i2 (by kernel_rfl) rfl (by kernel_rfl),(cx prog w (k+3) m1 nx).inS (ch d) wsS,.br (Txt.contains wsS (ch d)) true hd] (by kernel_rfl)
  rw [d1] at body
  exact ⟨[],.stop hcn (hm0 _ _) call (hm0 _ _) (by kernel_rfl) e (body.pre s2)⟩
 | (true,a) :: items,V0,tok,L,rest,hV,hi,hz,X,hok=>by
  have hjq:=X.ne.2.2.1
  have ec:encI ((true,a) :: items) ++ d :: rest=92 :: a :: (encI items ++ d :: rest):=rfl
  rw [ec] at X hok ⊢
  obtain ⟨h10,-⟩:=hi _ (List.mem_cons_self ..)
  have call:=rc_go (prog:=prog) (k:=k) 92 _ X hok (by decide)
  have X1:=X.next (a :: (encI items ++ d :: rest))
  have call2:=rc_go (prog:=prog) (k:=k+1) a _ X1 hok.tail h10
  have X2:=X1.next (encI items ++ d :: rest)
  obtain ⟨V2,e,s2⟩:=takes_nameN (φ:=gtF w) (t:=forTgt (gtU w)) (d:=.str (ch 92)) (V:=Vg n c tok) "ch" (by kernel_rfl) (by kernel_rfl) V0 [] (lexUp m j p s q L (a :: (encI items ++ d :: rest))) nx hV
  have hm0:∀ L cs,lexUp m j p s q L cs c=.citer (.bm (rcA w) n) Str.empty:=fun L cs=>(lexUp_ne hcj hcq).trans hmc
  have hz':tok.length+items.length+1<=1000:=by rw [List.length_cons] at hz; omega
  obtain ⟨m1,d1⟩ : ∃ x,x=lexUp m j p s q L (a :: (encI items ++ d :: rest)):=⟨_,rfl⟩
  obtain ⟨m2,d2⟩ : ∃ x,x=lexUp m j p s q L (encI items ++ d :: rest):=⟨_,rfl⟩
  have i1:=X1.i1
  have i2:=X1.i2
  have ih:=bare_loop hcn hcj hcq hmc d hd hd10 items (Vg n c (tok ++ ch a)) (tok ++ ch a) L rest (.refl _) (fun x hx=>hi x (List.mem_cons_of_mem _ hx)) (by rw [str_len,ch_len]; omega) X2 hok.tail.tail
  rw [<- d1] at call2 i1 i2
  rw [<- d2] at call2
  have body:BTr prog w (KK w) bt (k+3) (gtF w) (forBody (gtU w)) ⟨("ch",.d (.str (ch 92))) :: Vg n c tok,[],m1,nx⟩ .next ⟨Vg n c (tok ++ ch a),[],m2,nx⟩:=
   BTr.runS 40 [(cx prog w (k+3) m1 nx).getA n j (netC w) (lexNs L (.loc s) p) "whitespace" (.d (.str wsS)) X1.ln i1 i2 (by kernel_rfl) rfl (by kernel_rfl),(cx prog w (k+3) m1 nx).inS (ch 92) wsS,.br (Txt.contains wsS (ch 92)) false wsB_92,
    .brT (ch 92 = "\\") b_ch.symm, (cx prog w (k + 3) m1 nx).mFn n j (netC w) (rcA w) (lexNs L (.loc s) p) "_read_char" X1.ln i1 i2 (by kernel_rfl) (by kernel_rfl),
    .call (CodeTr.call call2), (cx prog w (k + 3) m2 nx).addS true tok (ch a) _ rfl (by rw [ch_len, sizeLine_eq]; omega)] (by kernel_rfl)
  rw [d1, d2] at body
  obtain ⟨V9, ih⟩ := ih
  exact ⟨V9, .step hcn (hm0 _ _) call (hm0 _ _) (by kernel_rfl) e (body.pre s2) (.inl rfl) ih⟩
 | (false, a) :: items, V0, tok, L, rest, hV, hi, hz, X, hok => by
  have hjq := X.ne.2.2.1
  have ec : encI ((false, a) :: items) ++ d :: rest = a :: (encI items ++ d :: rest) := rfl
  rw [ec] at X hok ⊢
  obtain ⟨h10, hb⟩ := hi _ (List.mem_cons_self ..)
  obtain ⟨hws, h92⟩ := hb rfl
  have call := rc_go (prog := prog) (k := k) a _ X hok h10
  have X1 := X.next (encI items ++ d :: rest)
  obtain ⟨V2, e, s2⟩ := takes_nameN (φ := gtF w) (t := forTgt (gtU w)) (d := .str (ch a)) (V := Vg n c tok) "ch" (by kernel_rfl) (by kernel_rfl) V0 [] (lexUp m j p s q L (encI items ++ d :: rest)) nx hV
  have hm0 : ∀ L cs, lexUp m j p s q L cs c = .citer (.bm (rcA w) n) Str.empty := fun L cs => (lexUp_ne hcj hcq).trans hmc
  have hz' : tok.length + items.length + 1 <= 1000 := by rw [List.length_cons] at hz; omega
  obtain ⟨m1, d1⟩ : ∃ x, x = lexUp m j p s q L (encI items ++ d :: rest) := ⟨_, rfl⟩
  have i1 := X1.i1
  have i2 := X1.i2
  rw [<- d1] at i1 i2
  have body : BTr prog w (KK w) bt (k + 3) (gtF w) (forBody (gtU w)) ⟨("ch", .d (.str (ch a))) :: Vg n c tok, [], m1, nx⟩ .next ⟨Vg n c (tok ++ ch a), [], m1, nx⟩ :=
   BTr.runS 40 [(cx prog w (k + 3) m1 nx).getA n j (netC w) (lexNs L (.loc s) p) "whitespace" (.d (.str wsS)) X1.ln i1 i2 (by kernel_rfl) rfl (by kernel_rfl), (cx prog w (k + 3) m1 nx).inS (ch a) wsS, .br (Txt.contains wsS (ch a)) false hws,
    .brF (ch a = "\\") (by rw [b_ch]; exact fun h=>h92 (ch_inj h)),(cx prog w (k+3) m1 nx).addS true tok (ch a) _ rfl (by rw [ch_len,sizeLine_eq]; omega)] (by kernel_rfl)
  rw [d1] at body
  obtain ⟨V9,ih⟩:=bare_loop hcn hcj hcq hmc d hd hd10 items (Vg n c (tok ++ ch a)) (tok ++ ch a) L rest (.refl _) (fun x hx=>hi x (List.mem_cons_of_mem _ hx)) (by rw [str_len,ch_len]; omega) X1 hok.tail
  exact ⟨V9,.step hcn (hm0 _ _) call (hm0 _ _) (by kernel_rfl) e (body.pre s2) (.inl rfl) ih⟩
structure Word where
 quoted:Bool
 items:Items
noncomputable def Word.ok (x:Word):Prop:=x.items.length<=500 /\ (if x.quoted then ∀ y ∈ x.items,y.2 ≠ 10 /\ (y.1=false->y.2 ≠ 34 /\ y.2 ≠ 92) else
 (∀ y ∈ x.items,y.2 ≠ 10 /\ (y.1=false->wsB y.2=false /\ y.2 ≠ 92)) /\ (Ex2 fun y r=>x.items=y :: r /\ (y.1=false->y.2 ≠ 34)))
noncomputable def Word.enc (x:Word):List Nat:=if x.quoted then 34 :: (encI x.items ++ [34]) else encI x.items ++ [32]
noncomputable def Word.tok (x:Word):Str:=tokI Str.empty x.items
end
end
section
theorem STr.forCiP {prog:Program} {w:World} {K:Frag} {btab:List (Str × Value)} {k:Nat} {φ:Fm} {s:Stmt} {st st':St} {fl:Fl} {c n:Nat} {f:Addr} {stop:Str} {N:Nat} (hs:(forChk s && noSet (forIter s) && isNm (forTgt s))=true) (hf:fnIn K f=true)
  (e:evI prog w K btab (k+1) 20 φ (forIter s) st (evsOf [])=some (.loc c,st,[],obsOf [])) (hc:c < st.nx) (hm:st.m c=.citer (.bm f n) stop \/ st.m c=.cdone) (loop:ForCi prog w K btab k φ (forTgt s) (forBody s) c n f stop N st fl st'):STr prog w K btab (k+1) φ s st fl st':=by
 rw [Bool.and_eq_true,Bool.and_eq_true] at hs
 exact STr.forCiE hs.1.1 hs.1.2 hs.2 hf 20 [] e hc hm loop
section
variable {prog:Program} {w:World} {k:Nat} {m:Nat->MO} {nx:Nat} {n j p s t q p' c:Nat} {L:Int} {cs:List Nat} {push:List D}
noncomputable def nls (l:List Nat):Int:=(l.map nlOf).sum
theorem nls_cons (a:Nat) (l:List Nat):nls (a :: l)=nlOf a+nls l:=by unfold nls; simp
theorem Vg_ch (n c:Nat) (tok:Str) (a:AV):VSub (Vg n c tok) (("ch",a) :: Vg n c tok):=cons_sub (by kernel_rfl)
theorem word_turn (hcn:c < nx) (hcj:c ≠ j) (hcq:c ≠ q) (hmc:m c=.citer (.bm (rcA w) n) Str.empty) (x:Word) (hx:x.ok) (V0:List (Str × AV)) (L:Int) (rest:List Nat) (hV:VSub (Vg n c Str.empty) V0)
  (X:LexAt w (lexUp m j p s q L (x.enc ++ rest)) nx n j p s t q p' L (x.enc ++ rest) push) (hok:OkCs (x.enc ++ rest)) :
  ∃ V9,ForCi prog w (KK w) bt (k+2) (gtF w) (forTgt (gtO w)) (forBody (gtO w)) c n (rcA w) Str.empty 0 ⟨V0,[],lexUp m j p s q L (x.enc ++ rest),nx⟩ (.ret (.d (.str x.tok))) ⟨V9,[],lexUp m j p s q L rest,nx⟩:=by
 obtain ⟨hl,hx⟩:=hx
 have hjq:=X.ne.2.2.1
 have hm0:∀ L cs,lexUp m j p s q L cs c=.citer (.bm (rcA w) n) Str.empty:=fun L cs=>(lexUp_ne hcj hcq).trans hmc
 obtain ⟨qd,items⟩:=x
 induction qd using Bool.casesOn with
 | true=>
  simp only [if_true] at hx
  have ec:Word.enc ⟨true,items⟩ ++ rest=34 :: (encI items ++ 34 :: rest):=by unfold Word.enc; simp
  rw [ec] at X hok ⊢
  have call:=rc_go (prog:=prog) (k:=k) 34 _ X hok (by decide)
  have X1:=X.next (encI items ++ 34 :: rest)
  obtain ⟨V2,e,s2⟩:=takes_nameN (φ:=gtF w) (t:=forTgt (gtO w)) (d:=.str (ch 34)) (V:=Vg n c Str.empty) "ch" (by kernel_rfl) (by kernel_rfl) V0 [] (lexUp m j p s q L (encI items ++ 34 :: rest)) nx hV
  obtain ⟨V9,loop⟩:=quote_loop (prog:=prog) (k:=k) hcn hcj hcq hmc items (("ch",.d (.str (ch 34))) :: Vg n c Str.empty) Str.empty L rest (Vg_ch _ _ _ _) hx (by have:Str.empty.length=0:=rfl; have hl':items.length<=500:=hl; omega) X1 hok.tail
  have st:=STr.forCiP (s:=gtQ w) (by kernel_rfl) (by kernel_rfl) (by kernel_rfl) hcn (.inl (hm0 _ _)) loop
  obtain ⟨m1,d1⟩ : ∃ x,x=lexUp m j p s q L (encI items ++ 34 :: rest):=⟨_,rfl⟩
  obtain ⟨m2,d2⟩ : ∃ x,x=lexUp m j p s q L rest:=⟨_,rfl⟩
  have i1:=X1.i1
  have i2:=X1.i2
  rw [<- d1] at i1 i2 st
  rw [<- d2] at st
  obtain ⟨tk,htk⟩ : ∃ x,x=tokI Str.empty items:=⟨_,rfl⟩
  rw [<- htk] at st
  have body:BTr prog w (KK w) bt (k+3) (gtF w) (forBody (gtO w)) ⟨("ch",.d (.str (ch 34))) :: Vg n c Str.empty,[],m1,nx⟩ (.ret (.d (.str tk))) ⟨[],[],m2,nx⟩:=
   BTr.runS 40 [(cx prog w (k+3) m1 nx).getA n j (netC w) (lexNs L (.loc s) p) "whitespace" (.d (.str wsS)) X1.ln i1 i2 (by kernel_rfl) rfl (by kernel_rfl),(cx prog w (k+3) m1 nx).inS (ch 34) wsS,.br (Txt.contains wsS (ch 34)) false wsB_34,
    .brT (ch 34 = "\"") q_ch.symm,.stm st] (by kernel_rfl)
  rw [d1,d2,htk] at body
  exact ⟨[],.stop hcn (hm0 _ _) call (hm0 _ _) (by kernel_rfl) e (body.pre s2)⟩
 | false=>
  simp only [Bool.false_eq_true,if_false] at hx
  obtain ⟨hx,y,r,rfl,h34⟩:=hx
  have hl':r.length+1<=500:=hl
  obtain ⟨ye,a⟩:=y
  induction ye using Bool.casesOn with
  | true=>
   have ec:Word.enc ⟨false,(true,a) :: r⟩ ++ rest=92 :: a :: (encI r ++ 32 :: rest):=by unfold Word.enc encI; simp
   rw [ec] at X hok ⊢
   obtain ⟨h10,-⟩:=hx _ (List.mem_cons_self ..)
   have call:=rc_go (prog:=prog) (k:=k) 92 _ X hok (by decide)
   have X1:=X.next (a :: (encI r ++ 32 :: rest))
   have call2:=rc_go (prog:=prog) (k:=k+1) a _ X1 hok.tail h10
   have X2:=X1.next (encI r ++ 32 :: rest)
   obtain ⟨V2,e,s2⟩:=takes_nameN (φ:=gtF w) (t:=forTgt (gtO w)) (d:=.str (ch 92)) (V:=Vg n c Str.empty) "ch" (by kernel_rfl) (by kernel_rfl) V0 [] (lexUp m j p s q L (a :: (encI r ++ 32 :: rest))) nx hV
   have hvs:VSub (Vg n c (Str.empty ++ ch a)) (("ch",.d (.str (ch a))) :: Vg n c (Str.empty ++ ch a)):=Vg_ch _ _ _ _
   obtain ⟨V9,loop⟩:=bare_loop (prog:=prog) (k:=k) hcn hcj hcq hmc 32 wsB_32 (by decide) r (("ch",.d (.str (ch a))) :: Vg n c (Str.empty ++ ch a)) (Str.empty ++ ch a) L rest hvs (fun z hz=>hx z (List.mem_cons_of_mem _ hz)) (by have:Str.empty.length=0:=rfl; rw [str_len,ch_len]; omega) X2 hok.tail.tail
   have st:=STr.forCiP (s:=gtU w) (by kernel_rfl) (by kernel_rfl) (by kernel_rfl) hcn (.inl (hm0 _ _)) loop
   obtain ⟨m1,d1⟩ : ∃ x,x=lexUp m j p s q L (a :: (encI r ++ 32 :: rest)):=⟨_,rfl⟩
   obtain ⟨m2,d2⟩ : ∃ x,x=lexUp m j p s q L (encI r ++ 32 :: rest):=⟨_,rfl⟩
   obtain ⟨m3,d3⟩ : ∃ x,x=lexUp m j p s q L rest:=⟨_,rfl⟩
   have i1:=X1.i1
   have i2:=X1.i2
   rw [<- d1] at i1 i2 call2
   rw [<- d2] at st call2
   rw [<- d3] at st
   obtain ⟨tk,htk⟩ : ∃ x,x=tokI (Str.empty ++ ch a) r:=⟨_,rfl⟩
   rw [<- htk] at st
   have body:BTr prog w (KK w) bt (k+3) (gtF w) (forBody (gtO w)) ⟨("ch",.d (.str (ch 92))) :: Vg n c Str.empty,[],m1,nx⟩ (.ret (.d (.str tk))) ⟨[],[],m3,nx⟩:=
    BTr.runS 40 [(cx prog w (k+3) m1 nx).getA n j (netC w) (lexNs L (.loc s) p) "whitespace" (.d (.str wsS)) X1.ln i1 i2 (by kernel_rfl) rfl (by kernel_rfl),(cx prog w (k+3) m1 nx).inS (ch 92) wsS,.br (Txt.contains wsS (ch 92)) false wsB_92,
     .brF (ch 92 = "\"") (by rw [q_ch]; exact fun h=>by have:=ch_inj h; omega),.brT (ch 92 = "\\") b_ch.symm, (cx prog w (k + 3) m1 nx).mFn n j (netC w) (rcA w) (lexNs L (.loc s) p) "_read_char" X1.ln i1 i2 (by kernel_rfl) (by kernel_rfl),
     .call (CodeTr.call call2), (cx prog w (k + 3) m2 nx).addS true Str.empty (ch a) _ rfl (by rw [ch_len, sizeLine_eq]; decide +kernel), .stm st] (by kernel_rfl)
   rw [d1, d3, htk] at body
   exact ⟨[], .stop hcn (hm0 _ _) call (hm0 _ _) (by kernel_rfl) e (body.pre s2)⟩
  | false =>
   have ec : Word.enc ⟨false, (false, a) :: r⟩ ++ rest = a :: (encI r ++ 32 :: rest) := by unfold Word.enc encI; simp
   rw [ec] at X hok ⊢
   obtain ⟨h10, hb⟩ := hx _ (List.mem_cons_self ..)
   obtain ⟨hws, h92⟩ := hb rfl
   have h34 := h34 rfl
   have call := rc_go (prog := prog) (k := k) a _ X hok h10
   have X1 := X.next (encI r ++ 32 :: rest)
   obtain ⟨V2, e, s2⟩ := takes_nameN (φ := gtF w) (t := forTgt (gtO w)) (d := .str (ch a)) (V := Vg n c Str.empty) "ch" (by kernel_rfl) (by kernel_rfl) V0 [] (lexUp m j p s q L (encI r ++ 32 :: rest)) nx hV
   have hvs : VSub (Vg n c (Str.empty ++ ch a)) (("ch", .d (.str (ch a))) :: Vg n c (Str.empty ++ ch a)) := Vg_ch _ _ _ _
   obtain ⟨V9, loop⟩ := bare_loop (prog := prog) (k := k) hcn hcj hcq hmc 32 wsB_32 (by decide) r (("ch", .d (.str (ch a))) :: Vg n c (Str.empty ++ ch a)) (Str.empty ++ ch a) L rest hvs (fun z hz => hx z (List.mem_cons_of_mem _ hz)) (by have : Str.empty.length = 0 := rfl; rw [str_len, ch_len]; omega) X1 hok.tail
   have st := STr.forCiP (s := gtU w) (by kernel_rfl) (by kernel_rfl) (by kernel_rfl) hcn (.inl (hm0 _ _)) loop
   obtain ⟨m1, d1⟩ : ∃ x, x = lexUp m j p s q L (encI r ++ 32 :: rest) := ⟨_, rfl⟩
   obtain ⟨m3, d3⟩ : ∃ x, x = lexUp m j p s q L rest := ⟨_, rfl⟩
   have i1 := X1.i1
   have i2 := X1.i2
   rw [<- d1] at i1 i2 st
   rw [<- d3] at st
   obtain ⟨tk, htk⟩ : ∃ x, x = tokI (Str.empty ++ ch a) r := ⟨_, rfl⟩
   rw [<- htk] at st
   have body : BTr prog w (KK w) bt (k + 3) (gtF w) (forBody (gtO w)) ⟨("ch", .d (.str (ch a))) :: Vg n c Str.empty, [], m1, nx⟩ (.ret (.d (.str tk))) ⟨[], [], m3, nx⟩ :=
    BTr.runS 40 [(cx prog w (k + 3) m1 nx).getA n j (netC w) (lexNs L (.loc s) p) "whitespace" (.d (.str wsS)) X1.ln i1 i2 (by kernel_rfl) rfl (by kernel_rfl), (cx prog w (k + 3) m1 nx).inS (ch a) wsS, .br (Txt.contains wsS (ch a)) false hws,
     .brF (ch a = "\"") (by rw [q_ch]; exact fun h=>h34 (ch_inj h)),.brF (ch a = "\\") (by rw [b_ch]; exact fun h=>h92 (ch_inj h)),(cx prog w (k+3) m1 nx).addS true Str.empty (ch a) _ rfl (by rw [ch_len,sizeLine_eq]; decide +kernel),.stm st] (by kernel_rfl)
   rw [d1,d3,htk] at body
   exact ⟨[],.stop hcn (hm0 _ _) call (hm0 _ _) (by kernel_rfl) e (body.pre s2)⟩
theorem lead_turns (hcn:c < nx) (hcj:c ≠ j) (hcq:c ≠ q) (hmc:m c=.citer (.bm (rcA w) n) Str.empty) {fl:Fl} {rest:List Nat} {L1:Int} {st9:St} {Qv:List (Str × AV)->Prop} (hend:∀ V0,VSub (Vg n c Str.empty) V0->LexAt w (lexUp m j p s q L1 rest) nx n j p s t q p' L1 rest push->OkCs rest->(Ex2 fun V9 N=>Qv V9 /\ ForCi prog w (KK w) bt (k+2) (gtF w) (forTgt (gtO w)) (forBody (gtO w)) c n (rcA w) Str.empty N ⟨V0,[],lexUp m j p s q L1 rest,nx⟩ fl ⟨V9,[],st9.m,st9.nx⟩)) :
  ∀ (lead:List Nat) (V0:List (Str × AV)) (L:Int),(∀ a ∈ lead,wsB a=true)->L1=L+nls lead->VSub (Vg n c Str.empty) V0->LexAt w (lexUp m j p s q L (lead ++ rest)) nx n j p s t q p' L (lead ++ rest) push->OkCs (lead ++ rest) ->
  (Ex2 fun V9 N=>Qv V9 /\ ForCi prog w (KK w) bt (k+2) (gtF w) (forTgt (gtO w)) (forBody (gtO w)) c n (rcA w) Str.empty N ⟨V0,[],lexUp m j p s q L (lead ++ rest),nx⟩ fl ⟨V9,[],st9.m,st9.nx⟩)
 | [],V0,L,_,hL,hV,X,hok=>by
  have:L1=L:=by rw [hL]; unfold nls; simp
  subst this
  exact hend V0 hV X hok
 | a :: lead,V0,L,hw,hL,hV,X,hok=>by
  have hjq:=X.ne.2.2.1
  have hm0:∀ L cs,lexUp m j p s q L cs c=.citer (.bm (rcA w) n) Str.empty:=fun L cs=>(lexUp_ne hcj hcq).trans hmc
  rw [List.cons_append] at X hok ⊢
  have call:=rc_cons (prog:=prog) (k:=k) a _ X hok
  rw [lexUp_up _ _ _ _ _ hjq] at call
  have X1:=X.up (L+nlOf a) (lead ++ rest)
  rw [lexUp_up _ _ _ _ _ hjq] at X1
  rcases takes_nameN (φ:=gtF w) (t:=forTgt (gtO w)) (d:=.str (ch a)) (V:=Vg n c Str.empty) "ch" (by kernel_rfl) (by kernel_rfl) V0 [] (lexUp m j p s q (L+nlOf a) (lead ++ rest)) nx hV with ⟨V2,e,s2⟩
  obtain ⟨V9,N,hq9,ih⟩:=lead_turns hcn hcj hcq hmc hend lead (Vg n c Str.empty) (L+nlOf a) (fun b hb=>hw b (List.mem_cons_of_mem _ hb)) (by rw [hL,nls_cons]; omega) (.refl _) X1 hok.tail
  obtain ⟨m1,d1⟩ : ∃ x,x=lexUp m j p s q (L+nlOf a) (lead ++ rest):=⟨_,rfl⟩
  have i1:=X1.i1
  have i2:=X1.i2
  rw [<- d1] at i1 i2
  have body:BTr prog w (KK w) bt (k+3) (gtF w) (forBody (gtO w)) ⟨("ch",.d (.str (ch a))) :: Vg n c Str.empty,[],m1,nx⟩ .cont ⟨Vg n c Str.empty,[],m1,nx⟩:=
   BTr.runS 40 [(cx prog w (k+3) m1 nx).getA n j (netC w) (lexNs (L+nlOf a) (.loc s) p) "whitespace" (.d (.str wsS)) X1.ln i1 i2 (by kernel_rfl) rfl (by kernel_rfl),(cx prog w (k+3) m1 nx).inS (ch a) wsS,.br (Txt.contains wsS (ch a)) true (hw a (List.mem_cons_self ..))] (by kernel_rfl)
  rw [d1] at body
  exact ⟨V9,N+1,hq9,.step hcn (hm0 _ _) call (hm0 _ _) (by kernel_rfl) e (body.pre s2) (.inr rfl) ih⟩
end
end
section
section
variable {prog:Program} {w:World} {k:Nat} {m:Nat->MO} {nx:Nat} {n j p s t q p' c:Nat} {L:Int} {cs:List Nat} {push:List D}
theorem LexAt.lay (X:LexAt w m nx n j p s t q p' L cs push) (mo:MO):LexAt w (upd m nx mo) (nx+1) n j p s t q p' L cs push:=
 ⟨Nat.lt_succ_of_lt X.ln,Nat.lt_succ_of_lt X.lj,Nat.lt_succ_of_lt X.lp,Nat.lt_succ_of_lt X.ls,Nat.lt_succ_of_lt X.lt,Nat.lt_succ_of_lt X.lq,
  (upd_ne _ _ _ (Nat.ne_of_lt X.ln)).trans X.i1,(upd_ne _ _ _ (Nat.ne_of_lt X.lj)).trans X.i2,(upd_ne _ _ _ (Nat.ne_of_lt X.lp)).trans X.i3,(upd_ne _ _ _ (Nat.ne_of_lt X.ls)).trans X.i4,(upd_ne _ _ _ (Nat.ne_of_lt X.lt)).trans X.i5,(upd_ne _ _ _ (Nat.ne_of_lt X.lq)).trans X.i6,X.jt,X.pq⟩
theorem lexNs_bd {N:Nat} (hs:s < N) (hp:p < N):MBd N (.ns (lexNs L (.loc s) p)):=by
 intro x av e
 have hm:=mem_of_lookup e
 unfold lexNs at hm
 simp only [List.mem_cons,Prod.mk.injEq,List.not_mem_nil,or_false] at hm
 rcases hm with ⟨_,rfl⟩ | ⟨_,rfl⟩ | ⟨_,rfl⟩ | ⟨_,rfl⟩
 ·exact .d _
 ·exact .loc hs
 ·exact .d _
 ·exact .loc hp
theorem low_lex {m':Nat->MO} {nx':Nat} {L0:Int} {cs0:List Nat} (X:LexAt w m nx n j p s t q p' L0 cs0 push) (hn:nx<=nx') (h:∀ i,i < nx->m' i=lexUp m j p s q L cs i):Low m nx m' nx' (lexUp m j p s q L cs) nx:=by
 refine ⟨Nat.le_refl _,hn,h,fun i hi=>?_⟩
 by_cases h1:i=j
 ·subst h1
  right
  unfold lexUp
  rw [upd_at]
  exact lexNs_bd X.ls X.lp
 ·by_cases h2:i=q
  ·subst h2
   right
   unfold lexUp
   rw [upd_ne _ _ _ h1,upd_at]
   trivial
  ·left
   exact ⟨hi,lexUp_ne h1 h2⟩
theorem lexUp_lay (i:Nat) (mo:MO) (hi:i < nx):lexUp (upd m nx mo) j p s q L cs i=lexUp m j p s q L cs i:=by
 unfold lexUp
 by_cases h1:i=j
 ·subst h1; rw [upd_at,upd_at]
 ·rw [upd_ne _ _ _ h1,upd_ne _ _ _ h1]
  by_cases h2:i=q
  ·subst h2; rw [upd_at,upd_at]
  ·rw [upd_ne _ _ _ h2,upd_ne _ _ _ h2,upd_ne _ _ _ (Nat.ne_of_lt hi)]
noncomputable abbrev itM (w:World) (m:Nat->MO) (nx n:Nat):Nat->MO:=upd m nx (.citer (.bm (rcA w) n) Str.empty)
theorem gt_ret {a:D} {m':Nat->MO} {nx':Nat} {V':List (Str × AV)} (X:LexAt w m nx n j p s t q p' L cs []) (st:STr prog w (KK w) bt (k+3) (gtF w) (gtO w) ⟨Vg n nx Str.empty,[],itM w m nx n,nx+1⟩ (.ret (.d a)) ⟨V',[],m',nx'⟩) :
  CodeTr prog w (KK w) bt (k+4) (.k (.ref (gtA w))) [.loc n] [] m nx (.d a) m' nx':=
 codeR ["self"] (.ret (.d a)) m' nx' [] [(cx prog w (k+3) m nx).getA n j (netC w) (lexNs L (.loc s) p) "pushback" (.loc p) X.ln X.i1 X.i2 (by kernel_rfl) rfl (by kernel_rfl),(cx prog w (k+3) m nx).truthL (.loc p) [] false rfl ⟨X.lp,X.i3⟩ trivial (by decide),
  (cx prog w (k+3) m nx).boundA n j (netC w) (rcA w) (lexNs L (.loc s) p) "_read_char" X.ln X.i1 X.i2 (by kernel_rfl) (by kernel_rfl),(cx prog w (k+3) m nx).callM (.k (.builtin "iter")) [.bm (rcA w) n,.d (.str Str.empty)] (.loc nx) (itM w m nx n) (nx+1) c_iter,
  .stm st] (by kernel_rfl) (bindq1 fun S a=>by kernel_rfl) rfl (by kernel_rfl)
theorem gt_next {m':Nat->MO} {nx':Nat} (X:LexAt w m nx n j p s t q p' L cs []) (st:STr prog w (KK w) bt (k+3) (gtF w) (gtO w) ⟨Vg n nx Str.empty,[],itM w m nx n,nx+1⟩ .next ⟨Vg n nx Str.empty,[],m',nx'⟩) :
  CodeTr prog w (KK w) bt (k+4) (.k (.ref (gtA w))) [.loc n] [] m nx (.d (.str Str.empty)) m' nx':=
 codeR ["self"] (.ret (.d (.str Str.empty))) m' nx' [] [(cx prog w (k+3) m nx).getA n j (netC w) (lexNs L (.loc s) p) "pushback" (.loc p) X.ln X.i1 X.i2 (by kernel_rfl) rfl (by kernel_rfl),(cx prog w (k+3) m nx).truthL (.loc p) [] false rfl ⟨X.lp,X.i3⟩ trivial (by decide),
  (cx prog w (k+3) m nx).boundA n j (netC w) (rcA w) (lexNs L (.loc s) p) "_read_char" X.ln X.i1 X.i2 (by kernel_rfl) (by kernel_rfl),(cx prog w (k+3) m nx).callM (.k (.builtin "iter")) [.bm (rcA w) n,.d (.str Str.empty)] (.loc nx) (itM w m nx n) (nx+1) c_iter,
  .stm st] (by kernel_rfl) (bindq1 fun S a=>by kernel_rfl) rfl (by kernel_rfl)
theorem gt_word (lead:List Nat) (x:Word) (rest:List Nat) (hlead:∀ a ∈ lead,wsB a=true) (hx:x.ok) (X:LexAt w m nx n j p s t q p' L (lead ++ (x.enc ++ rest)) []) (hok:OkCs (lead ++ (x.enc ++ rest))) :
  CodeTr prog w (KK w) bt (k+4) (.k (.ref (gtA w))) [.loc n] [] m nx (.d (.str x.tok)) (lexUp m j p s q (L+nls lead) rest) nx:=by
 have Xi:=X.lay (.citer (.bm (rcA w) n) Str.empty)
 have hjq:=X.ne.2.2.1
 have hid:=Xi.id
 obtain ⟨mi,di⟩ : ∃ y,y=itM w m nx n:=⟨_,rfl⟩
 have Xi':LexAt w (lexUp mi j p s q L (lead ++ (x.enc ++ rest))) (nx+1) n j p s t q p' L (lead ++ (x.enc ++ rest)) []:=by rw [di,hid]; exact Xi
 obtain ⟨V9,N,-,loop⟩:=lead_turns (prog:=prog) (k:=k) (c:=nx) (m:=mi) (nx:=nx+1) (Qv:=fun _=>True) (rest:=x.enc ++ rest) (L1:=L+nls lead) (fl:=.ret (.d (.str x.tok))) (st9:=⟨[],[],lexUp mi j p s q (L+nls lead) rest,nx+1⟩) (Nat.lt_succ_self _) (Nat.ne_of_gt X.lj) (Nat.ne_of_gt X.lq) (by rw [di]; exact upd_at _ _ _)
  (fun V0 hV X1 hok1=>by
   obtain ⟨V9,h9⟩:=word_turn (prog:=prog) (k:=k) (c:=nx) (Nat.lt_succ_self _) (Nat.ne_of_gt X.lj) (Nat.ne_of_gt X.lq) (by rw [di]; exact upd_at _ _ _) x hx V0 (L+nls lead) rest hV X1 hok1
   exact ⟨V9,0,trivial,h9⟩) lead (Vg n nx Str.empty) L hlead rfl (.refl _) Xi' hok
 have st:=STr.forCiP (s:=gtO w) (by kernel_rfl) (by kernel_rfl) (by kernel_rfl) (Nat.lt_succ_self nx) (.inl (by rw [di,hid]; exact upd_at _ _ _)) loop
 have e2:lexUp mi j p s q L (lead ++ (x.enc ++ rest))=itM w m nx n:=by rw [di,hid]
 rw [e2] at st
 have h:=gt_ret X st
 rw [di] at h
 exact h.low (low_lex X (Nat.le_succ _) fun i hi=>lexUp_lay i _ hi) (.d _)
theorem gt_end (lead:List Nat) (hlead:∀ a ∈ lead,wsB a=true) (X:LexAt w m nx n j p s t q p' L lead []) (hok:OkCs lead) :
  CodeTr prog w (KK w) bt (k+4) (.k (.ref (gtA w))) [.loc n] [] m nx (.d (.str Str.empty)) (lexUp m j p s q (L+nls lead) []) nx:=by
 have Xi:=X.lay (.citer (.bm (rcA w) n) Str.empty)
 have hjq:=X.ne.2.2.1
 have hid:=Xi.id
 obtain ⟨mi,di⟩ : ∃ y,y=itM w m nx n:=⟨_,rfl⟩
 have Xi':LexAt w (lexUp mi j p s q L (lead ++ [])) (nx+1) n j p s t q p' L (lead ++ []) []:=by rw [List.append_nil,di,hid]; exact Xi
 have hok':OkCs (lead ++ []):=by rw [List.append_nil]; exact hok
 obtain ⟨V9,N,hV9,loop⟩:=lead_turns (prog:=prog) (k:=k) (c:=nx) (m:=mi) (nx:=nx+1) (Qv:=fun V=>VSub (Vg n nx Str.empty) V) (rest:=[]) (L1:=L+nls lead) (fl:=.next) (st9:=⟨[],[],upd (lexUp mi j p s q (L+nls lead) []) nx .cdone,nx+1⟩) (Nat.lt_succ_self _) (Nat.ne_of_gt X.lj) (Nat.ne_of_gt X.lq) (by rw [di]; exact upd_at _ _ _)
  (fun V0 hV X1 hok1=>by
   have hm0:lexUp mi j p s q (L+nls lead) [] nx=.citer (.bm (rcA w) n) Str.empty:=(lexUp_ne (Nat.ne_of_gt X.lj) (Nat.ne_of_gt X.lq)).trans (by rw [di]; exact upd_at _ _ _)
   exact ⟨V0,0,hV,.done (Nat.lt_succ_self _) hm0 (rc_nil (prog:=prog) (k:=k) X1) hm0⟩) lead (Vg n nx Str.empty) L hlead rfl (.refl _) Xi' hok'
 have st:=STr.forCiP (s:=gtO w) (by kernel_rfl) (by kernel_rfl) (by kernel_rfl) (Nat.lt_succ_self nx) (.inl (by rw [List.append_nil,di,hid]; exact upd_at _ _ _)) loop
 have st:=STr.post st hV9
 have e2:lexUp mi j p s q L (lead ++ [])=itM w m nx n:=by rw [List.append_nil,di,hid]
 rw [e2] at st
 have h:=gt_next X st
 rw [di] at h
 exact h.low (low_lex X (Nat.le_succ _) fun i hi=>(upd_ne _ _ _ (Nat.ne_of_lt hi)).trans (lexUp_lay i _ hi)) (.d _)
theorem gt_push (d:D) (ds:List D) (X:LexAt w m nx n j p s t q p' L cs (d :: ds)) (hz:ds.length < 100000) :
  CodeTr prog w (KK w) bt (k+1) (.k (.ref (gtA w))) [.loc n] [] m nx (.d d) (upd m p (.list ds)) nx:=by
 exact codeR ["self"] (.ret (.d d)) (upd m p (.list ds)) nx [] [(cx prog w k m nx).getA n j (netC w) (lexNs L (.loc s) p) "pushback" (.loc p) X.ln X.i1 X.i2 (by kernel_rfl) rfl (by kernel_rfl),(cx prog w k m nx).truthL (.loc p) (d :: ds) true rfl ⟨X.lp,X.i3⟩ trivial (by rw [List.length_cons]; omega),
  (cx prog w k m nx).getA n j (netC w) (lexNs L (.loc s) p) "pushback" (.loc p) X.ln X.i1 X.i2 (by kernel_rfl) rfl (by kernel_rfl),
  (cx prog w k m nx).mPop (.loc p) (d :: ds) ⟨X.lp,X.i3⟩ trivial,(cx prog w k m nx).cPopAt p 0 [] ds d rfl X.lp X.i3 (by rw [List.length_nil]; omega) (upd m p (.list ds)) rfl] (by kernel_rfl) (bindq1 fun S a=>by kernel_rfl) rfl (by kernel_rfl)
theorem pt_tr (d:D) (X:LexAt w m nx n j p s t q p' L cs push) (hz:push.length<=100000) :
  CodeTr prog w (KK w) bt (k+1) (.k (.ref (ca w "_netrclex" "push_token"))) [.loc n,.d d] [] m nx (.d .none) (upd m p (.list (push ++ [d]))) nx:=by
 exact codeR ["self", "token"] .next (upd m p (.list (push ++ [d]))) nx [] [(cx prog w k m nx).getA n j (netC w) (lexNs L (.loc s) p) "pushback" (.loc p) X.ln X.i1 X.i2 (by kernel_rfl) rfl (by kernel_rfl),
  (cx prog w k m nx).mAppend (.loc p) push ⟨X.lp,X.i3⟩ trivial,(cx prog w k m nx).cAppend p push d X.lp X.i3 hz (upd m p (.list (push ++ [d]))) rfl] (by kernel_rfl) (bindq2 fun S a b=>by kernel_rfl) rfl (by kernel_rfl)
end
end
section
section
variable {prog:Program} {w:World} {k:Nat} {m:Nat->MO} {nx:Nat} {n j l:Nat}
noncomputable abbrev hdC (w:World):Addr:=fa w "Headers"
noncomputable def kvD (kv:Str × Str):D:=.tup [.str kv.1,.str kv.2]
noncomputable def kvsD (l:List (Str × Str)):List D:=l.map kvD
structure HdAt (w:World) (m:Nat->MO) (nx n j l:Nat) (kvs:List (Str × Str)):Prop where
 ln:n < nx
 lj:j < nx
 ll:l < nx
 i1:m n=.inst (hdC w) j
 i2:m j=.ns [("_headers",.loc l)]
 i3:m l=.list (kvsD kvs)
theorem pat_name:Pat (KK w) (fa w "_name_disallowed_re") (patCa (KK w) (fa w "_name_disallowed_re")) (patCs (KK w) (fa w "_name_disallowed_re")):=
 pat_of (by kernel_rfl) fun m h=>by unfold Sre.M.hasFirstSet; rw [h]; kernel_rfl
theorem pat_value:Pat (KK w) (fa w "_value_disallowed_re") (patCa (KK w) (fa w "_value_disallowed_re")) (patCs (KK w) (fa w "_value_disallowed_re")):=
 pat_of (by kernel_rfl) fun m h=>by unfold Sre.M.hasFirstSet; rw [h]; kernel_rfl
theorem none_name {x:Str} (hx:Prn x):NoneIn (((patCs (KK w) (fa w "_name_disallowed_re")).map Builtin.Re.reRawOf).map (·.toNat)) x.cps x.cps.size:=noneIn_of (fun seen=>by kernel_rfl) hx
theorem none_value {x:Str} (hx:Prn x):NoneIn (((patCs (KK w) (fa w "_value_disallowed_re")).map Builtin.Re.reRawOf).map (·.toNat)) x.cps x.cps.size:=noneIn_of (fun seen=>by kernel_rfl) hx
noncomputable abbrev cvA (w:World):Addr:=ca w "Headers" "_convert_string_type"
theorem conv_tr (n:Nat) (x:Str) (b:Bool) (hx:Prn x):CodeTr prog w (KK w) bt (k+1) (.k (.ref (cvA w))) [.loc n,.d (.str x)] [("name",.d (.bool b))] m nx (.d (.str x)) m nx:=by
 induction b using Bool.casesOn with
 | true=>
  exact codeD [("self",.loc n),("value",.d (.str x)),("name",.d (.bool true))] (.ret (.d (.str x))) m nx [] [(cx prog w k m nx).type_ (.str x) rfl,(cx prog w k m nx).isType "str" "str",.br (Value.type "str" == Value.type "str") true (by decide),.br true true rfl,
   (cx prog w k m nx).mSearch (fa w "_name_disallowed_re") pat_name,(cx prog w k m nx).cSearch (fa w "_name_disallowed_re") pat_name x (none_name hx)] (by kernel_rfl) (bindqk fun S a b c=>by kernel_rfl) (by kernel_rfl) (by kernel_rfl) (by kernel_rfl) (by kernel_rfl)
 | false=>
  exact codeD [("self",.loc n),("value",.d (.str x)),("name",.d (.bool false))] (.ret (.d (.str x))) m nx [] [(cx prog w k m nx).type_ (.str x) rfl,(cx prog w k m nx).isType "str" "str",.br (Value.type "str" == Value.type "str") true (by decide),.br false false rfl,
   (cx prog w k m nx).mSearch (fa w "_value_disallowed_re") pat_value,(cx prog w k m nx).cSearch (fa w "_value_disallowed_re") pat_value x (none_value hx)] (by kernel_rfl) (bindqk fun S a b c=>by kernel_rfl) (by kernel_rfl) (by kernel_rfl) (by kernel_rfl) (by kernel_rfl)
end
end
section
section
variable {prog:Program} {w:World} {k:Nat} {m:Nat->MO} {nx:Nat} {n j l:Nat}
noncomputable abbrev hiA (w:World):Addr:=ca w "Headers" "__init__"
theorem hd_init (n j:Nat) (hn:n < nx) (h1:m n=.inst (hdC w) j) (h2:m j=.ns []) (hj:j < nx) (hnj:n ≠ j) :
  CodeTr prog w (KK w) bt (k+1) (.k (.ref (hiA w))) [.loc n] [] m nx (.d .none) (upd (upd m nx (.list [])) j (.ns [("_headers",.loc nx)])) (nx+1):=by
 obtain ⟨m1,d1⟩ : ∃ x',x'=upd m nx (.list []):=⟨_,rfl⟩
 obtain ⟨m2,d2⟩ : ∃ x',x'=upd m1 j (.ns [("_headers",.loc nx)]):=⟨_,rfl⟩
 have a1:m1 nx=.list []:=by rw [d1,upd_at]
 have a2:m2 nx=.list []:=by rw [d2,upd_ne _ _ _ (Nat.ne_of_gt hj),a1]
 have loop:STr prog w (KK w) bt k (phA w (hiA w)) (nthS (ifB (nthS (bdA w (hiA w)) 3)) 0) ⟨[("self",.loc n),("headers",.loc nx)],[],m2,nx+1⟩ .next ⟨[("self",.loc n),("headers",.loc nx)],[],m2,nx+1⟩:=
  STr.forP (.loc nx) [] 20 [] (by kernel_rfl) (by kernel_rfl) ⟨Nat.lt_succ_self _,a2⟩ ⟨_,.refl _,.done ⟨Nat.lt_succ_self _,a2⟩⟩
 rw [<- d1,<- d2]
 exact codeD [("self",.loc n),("headers",.d .none)] .next m2 (nx+1) [] [(cx prog w k m nx).isNotNone (.d .none) true rfl,.br (!true) false rfl,.lst [] true (by decide),(cx prog w k (upd m nx (.list [])) (nx+1)).typeL nx [] (Nat.lt_succ_self _) (upd_at _ _ _),
  (cx prog w k (upd m nx (.list [])) (nx+1)).isNotType "list" "list",.br (!(Value.type "list" == Value.type "list")) false (by decide),
  (cx prog w k (upd m nx (.list [])) (nx+1)).setA n j (hdC w) [] [("_headers",.loc nx)] "_headers" (.loc nx) m2 (Nat.lt_succ_of_lt hn) ((upd_ne _ _ _ (Nat.ne_of_lt hn)).trans h1) ((upd_ne _ _ _ (Nat.ne_of_lt hj)).trans h2) rfl (by kernel_rfl) (by kernel_rfl) (by rw [d2,d1]),
  .br true true rfl,.stm loop] (by kernel_rfl) (bindq1 fun S a=>by kernel_rfl) (by kernel_rfl) (by kernel_rfl) (by kernel_rfl) (by kernel_rfl)
noncomputable def mkHd (w:World) (m:Nat->MO) (nx:Nat):Nat->MO:=upd (upd (upd m nx (.ns [("_headers",.loc (nx+2))])) (nx+1) (.inst (hdC w) nx)) (nx+2) (.list [])
theorem hd_make:CallTr prog w (KK w) bt (k+2) (fn w "Headers") [] [] m nx (.loc (nx+1)) (mkHd w m nx) (nx+3):=by
 have hi:=hd_init (prog:=prog) (w:=w) (k:=k) (m:=upd (upd m nx (.ns [])) (nx+1) (.inst (hdC w) nx)) (nx:=nx+1+1) (nx+1) nx (Nat.lt_succ_self _) (upd_at _ _ _) (by rw [upd_ne _ _ _ (Nat.ne_of_lt (Nat.lt_succ_self _)),upd_at]) (by omega) (by omega)
 have e:upd (upd (upd (upd m nx (.ns [])) (nx+1) (.inst (hdC w) nx)) (nx+1+1) (.list [])) nx (.ns [("_headers",.loc (nx+1+1))])=mkHd w m nx:=by
  unfold mkHd
  funext i
  simp only [upd]
  by_cases h0:i=nx
  ·subst h0
   have a:¬ i=i+2:=by omega
   have b:¬ i=i+1:=by omega
   simp
  ·simp only [h0,if_false]
 rw [e] at hi
 exact (code_make (st':=⟨[],[],m,nx⟩) (by kernel_rfl) (by kernel_rfl) (by kernel_rfl) hi).call
theorem mkHd_at:HdAt w (mkHd w m nx) (nx+3) (nx+1) nx (nx+2) []:=
 ⟨by omega,by omega,by omega,by unfold mkHd; rw [upd_ne _ _ _ (by omega),upd_at],by unfold mkHd; rw [upd_ne _ _ _ (by omega),upd_ne _ _ _ (by omega),upd_at],by unfold mkHd; rw [upd_at]; rfl⟩
theorem mkHd_ne {i:Nat} (h:i < nx):mkHd w m nx i=m i:=by
 unfold mkHd
 rw [upd_ne _ _ _ (by omega),upd_ne _ _ _ (by omega),upd_ne _ _ _ (by omega)]
noncomputable abbrev hgA (w:World):Addr:=ca w "Headers" "get"
noncomputable def getF (kvs:List (Str × Str)) (x:Str):Option Str:=(kvs.find? fun kv=>decide (Txt.lower kv.1=Txt.lower x)).map (·.2)
noncomputable def optD:Option Str->D
 | some v=>.str v
 | none=>.none
theorem hd_get {kvs:List (Str × Str)} (X:HdAt w m nx n j l kvs) (x:Str) (hx:x.length<=1000) (hp:Prn (Txt.lower x)) (hk:∀ kv ∈ kvs,kv.1.length<=1000) :
  CodeTr prog w (KK w) bt (k+2) (.k (.ref (hgA w))) [.loc n,.d (.str x)] [] m nx (.d (optD (getF kvs x))) m nx:=by
 obtain ⟨y,hy⟩ : ∃ y,y=Txt.lower x:=⟨_,rfl⟩
 obtain ⟨V,hV⟩ : ∃ V:List (Str × AV),V=([("self",.loc n),("name",.d (.str y)),("default",.d .none)]:List (Str × AV)):=⟨_,rfl⟩
 have loop:∃ V9,VSub V V9 /\ ForTr prog w (KK w) bt (k+1) (phA w (hgA w)) (forTgt (nthS (bdA w (hgA w)) 1)) (forBody (nthS (bdA w (hgA w)) 1)) (.loc l) (kvsD kvs) (kvsD kvs) ⟨V,[],m,nx⟩ (findFl (fun kv:Str × Str=>.d (.str kv.2)) (kvs.find? fun kv=>decide (Txt.lower kv.1=y))) ⟨V9,[],m,nx⟩:=by
  refine for_find (V:=V) (gD:=kvD) (VX:=fun kv=>([("v",.d (.str kv.2)),("k",.d (.str kv.1))]:List (Str × AV)) ++ V) (p:=fun kv=>decide (Txt.lower kv.1=y)) (g:=fun kv=>.d (.str kv.2)) (show DSrc m nx (.loc l) (kvsD kvs) from ⟨X.ll,X.i3⟩) kvs V (.refl _) fun kv hkv=>⟨takes_tupN ["k", "v"] (by kernel_rfl) (by kernel_rfl) rfl,fun hf=>?_,fun ht=>?_⟩
  ·refine ⟨.next,V,.inl rfl,?_,.refl _⟩
   have hf':¬ Txt.lower kv.1=y:=by simpa using hf
   obtain ⟨z,hz⟩ : ∃ z,z=Txt.lower kv.1:=⟨_,rfl⟩
   rw [<- hz] at hf'
   subst hV
   exact BTr.runS 20 [(cx prog w (k+1) m nx).mLower kv.1,(cx prog w (k+1) m nx).cLower kv.1 z hz.symm (by have:=hk kv hkv; omega),.brF (z=y) hf'] (by kernel_rfl)
  ·refine ⟨V,?_,.refl _⟩
   have hf':Txt.lower kv.1=y:=by simpa using ht
   obtain ⟨z,hz⟩ : ∃ z,z=Txt.lower kv.1:=⟨_,rfl⟩
   rw [<- hz] at hf'
   subst hV
   exact BTr.runS 20 [(cx prog w (k+1) m nx).mLower kv.1,(cx prog w (k+1) m nx).cLower kv.1 z hz.symm (by have:=hk kv hkv; omega),.brT (z=y) hf'] (by kernel_rfl)
 have st:=STr.forP (.loc l) (kvsD kvs) 20 [(cx prog w (k+1) m nx).getA n j (hdC w) [("_headers",.loc l)] "_headers" (.loc l) X.ln X.i1 X.i2 (by kernel_rfl) rfl (by kernel_rfl)] (by kernel_rfl) (by subst hV; kernel_rfl) ⟨X.ll,X.i3⟩ loop
 have conv:=conv_tr (prog:=prog) (w:=w) (k:=k) (m:=m) (nx:=nx) n y true (by rw [hy]; exact hp)
 unfold getF
 rw [<- hy]
 cases q:kvs.find? fun kv=>decide (Txt.lower kv.1=y) with
 | none=>
  rw [q] at st
  dsimp only [findFl] at st
  subst hV
  exact codeD [("self",.loc n),("name",.d (.str x)),("default",.d .none)] (.ret (.d .none)) m nx [] [(cx prog w (k+1) m nx).mFn n j (hdC w) (cvA w) [("_headers",.loc l)] "_convert_string_type" X.ln X.i1 X.i2 (by kernel_rfl) (by kernel_rfl),(cx prog w (k+1) m nx).mLower x,(cx prog w (k+1) m nx).cLower x y hy.symm (by omega),.call conv.call,.stm st] (by kernel_rfl) (bindq2 fun S a b=>by kernel_rfl) (by kernel_rfl) (by kernel_rfl) (by kernel_rfl) (by kernel_rfl)
 | some kv=>
  rw [q] at st
  dsimp only [findFl] at st
  subst hV
  exact codeD [("self",.loc n),("name",.d (.str x)),("default",.d .none)] (.ret (.d (.str kv.2))) m nx [] [(cx prog w (k+1) m nx).mFn n j (hdC w) (cvA w) [("_headers",.loc l)] "_convert_string_type" X.ln X.i1 X.i2 (by kernel_rfl) (by kernel_rfl),(cx prog w (k+1) m nx).mLower x,(cx prog w (k+1) m nx).cLower x y hy.symm (by omega),.call conv.call,.stm st] (by kernel_rfl) (bindq2 fun S a b=>by kernel_rfl) (by kernel_rfl) (by kernel_rfl) (by kernel_rfl) (by kernel_rfl)
noncomputable abbrev hsA (w:World):Addr:=ca w "Headers" "setdefault"
theorem hd_old {kvs:List (Str × Str)} (X:HdAt w m nx n j l kvs) (x y v:Str) (hx:x.length<=1000) (hp:Prn (Txt.lower x)) (hk:∀ kv ∈ kvs,kv.1.length<=1000) (hv:getF kvs x=some v) :
  CodeTr prog w (KK w) bt (k+3) (.k (.ref (hsA w))) [.loc n,.d (.str x),.d (.str y)] [] m nx (.d (.str v)) m nx:=by
 have g:=hd_get (prog:=prog) (k:=k) X x hx hp hk
 rw [hv] at g
 exact codeA (hsA w) ["self", "name", "value"] [.loc n,.d (.str x),.d (.str y)] (.ret (.d (.str v))) m nx [] [(cx prog w (k+2) m nx).mFn n j (hdC w) (hgA w) [("_headers",.loc l)] "get" X.ln X.i1 X.i2 (by kernel_rfl) (by kernel_rfl),.call g.call,(cx prog w (k+2) m nx).isNone (.d (.str v)) false rfl,.br false false rfl] (by kernel_rfl) (bindq3 fun S a b c=>by kernel_rfl) (by rfl) (by kernel_rfl)
theorem hd_new {kvs:List (Str × Str)} (X:HdAt w m nx n j l kvs) (x y:Str) (hx:x.length<=1000) (hp:Prn (Txt.lower x)) (hpx:Prn x) (hpy:Prn y) (hk:∀ kv ∈ kvs,kv.1.length<=1000) (hv:getF kvs x=none) (hz:kvs.length<=10000) :
  CodeTr prog w (KK w) bt (k+3) (.k (.ref (hsA w))) [.loc n,.d (.str x),.d (.str y)] [] m nx (.d (.str y)) (upd m l (.list (kvsD (kvs ++ [(x,y)])))) nx:=by
 have g:=hd_get (prog:=prog) (k:=k) X x hx hp hk
 rw [hv] at g
 have c1:=conv_tr (prog:=prog) (w:=w) (k:=k+1) (m:=m) (nx:=nx) n x true hpx
 have c2:=conv_tr (prog:=prog) (w:=w) (k:=k+1) (m:=m) (nx:=nx) n y false hpy
 have e:kvsD (kvs ++ [(x,y)])=kvsD kvs ++ [.tup [.str x,.str y]]:=by unfold kvsD; rw [List.map_append]; rfl
 have hlen:(kvsD kvs).length<=100000:=by unfold kvsD; rw [List.length_map]; omega
 rw [e]
 have i3:=X.i3
 generalize hds9:kvsD kvs=ds at i3 hlen ⊢
 have hds:=hds9.symm
 clear hds9
 exact codeA (hsA w) ["self", "name", "value"] [.loc n,.d (.str x),.d (.str y)] (.ret (.d (.str y))) (upd m l (.list (ds ++ [.tup [.str x,.str y]]))) nx [] [(cx prog w (k+2) m nx).mFn n j (hdC w) (hgA w) [("_headers",.loc l)] "get" X.ln X.i1 X.i2 (by kernel_rfl) (by kernel_rfl),.call g.call,(cx prog w (k+2) m nx).isNone (.d .none) true rfl,.br true true rfl,
  (cx prog w (k+2) m nx).getA n j (hdC w) [("_headers",.loc l)] "_headers" (.loc l) X.ln X.i1 X.i2 (by kernel_rfl) rfl (by kernel_rfl),(cx prog w (k+2) m nx).mAppend (.loc l) ds ⟨X.ll,i3⟩ trivial,
  (cx prog w (k+2) m nx).mFn n j (hdC w) (cvA w) [("_headers",.loc l)] "_convert_string_type" X.ln X.i1 X.i2 (by kernel_rfl) (by kernel_rfl),.call c1.call,(cx prog w (k+2) m nx).mFn n j (hdC w) (cvA w) [("_headers",.loc l)] "_convert_string_type" X.ln X.i1 X.i2 (by kernel_rfl) (by kernel_rfl),.call c2.call,
  .tup [.str x,.str y] (show 2<=1000 by decide),(cx prog w (k+2) m nx).cAppend l ds (.tup [.str x,.str y]) X.ll i3 hlen (upd m l (.list (ds ++ [.tup [.str x,.str y]]))) rfl] (by kernel_rfl) (bindq3 fun S a b c=>by kernel_rfl) (by rfl) (by kernel_rfl)
noncomputable abbrev hkA (w:World):Addr:=ca w "Headers" "keys"
theorem hd_keys {kvs:List (Str × Str)} (X:HdAt w m nx n j l kvs) (hz:kvs.length<=10000):CodeTr prog w (KK w) bt (k+1) (.k (.ref (hkA w))) [.loc n] [] m nx (.d (.lst (strDs (kvs.map (·.1))))) m nx:=by
 obtain ⟨V,hV⟩ : ∃ V:List (Str × AV),V=([("self",.loc n)]:List (Str × AV)):=⟨_,rfl⟩
 have hd:DSrc m nx (.loc l) (kvs.map fun kv=>.tup [.str kv.1,.str kv.2]):=⟨X.ll,X.i3⟩
 have comp:ETr prog w (KK w) bt k (phA w (hkA w)) (retE (nthS (bdA w (hkA w)) 0)) ⟨V,[],m,nx⟩ (.d (.lst (strDs (kvs.map (·.1))))) ⟨V,[],m,nx⟩:=by
  unfold strDs
  rw [List.map_map]
  refine ETr.ofLoop (by kernel_rfl) (a:=.loc l) (ds:=kvs.map fun kv=>.tup [.str kv.1,.str kv.2]) (ETr.runE 20 [(cx prog w k m nx).getA n j (hdC w) [("_headers",.loc l)] "_headers" (.loc l) X.ln X.i1 X.i2 (by kernel_rfl) rfl (by kernel_rfl)] (by subst hV; kernel_rfl)) hd
   (loop1n (st:=⟨V,[],m,nx⟩) (a:=.loc l) (xs:=kvs) (gD:=fun kv=>.tup [.str kv.1,.str kv.2]) (by kernel_rfl) (by kernel_rfl) hd (tgt_tupN (gs:=fun kv:Str × Str=>[.str kv.1,.str kv.2]) ["k", "v"] (by kernel_rfl) (by kernel_rfl) (by subst hV; kernel_rfl) (fun x hx=>rfl)) (fun kv hkv l=>?_) (by omega))
  subst hV
  exact ETr.runE 20 [] (by kernel_rfl)
 exact codeA (hkA w) ["self"] [.loc n] (.ret (.d (.lst (strDs (kvs.map (·.1)))))) m nx [] [.comp comp] (by kernel_rfl) (bindq1 fun S a=>by kernel_rfl) (by rfl) (by subst hV; kernel_rfl)
end
end
section
noncomputable def tokTab:List (Str × Int):=([("!",54),("!=",28),("%",24),("%=",40),("&",19),("&=",41),("(",7),(")",8),("*",16),("**",35),("**=",46),("*=",38),("+",14),("+=",36),(",",12),("-",15),("-=",37),("->",51),(".",23),("...",52),("/",17),("//",47),("//=",48),("/=",39),(":",11),(":=",53),(";",13),("<",20),("<<",33),("<<=",44),("<=",29),("=",22),("==",27),(">",21),(">=",30),(">>",34),(">>=",45),("@",49),("@=",50),("[",9),("]",10),("^",32),("^=",43),("{",25),("|",18),("|=",42),("}",26),("~",31)]:List (String × Int)).map fun p=>(Str.ofString p.1,p.2)
section
variable {prog:Program} {w:World} {k:Nat} {m:Nat->MO} {nx:Nat}
theorem tok_top:TopD w (KK w) (fa w "EXACT_TOKEN_TYPES") tokTab:=⟨by kernel_rfl,by kernel_rfl,by kernel_rfl,by kernel_rfl⟩
theorem isterm_tr (i:Int):CodeTr prog w (KK w) bt (k+1) (fn w "ISTERMINAL") [.d (.int i)] [] m nx (.d (.bool (decide (i < 256)))) m nx:=
 codeA (fa w "ISTERMINAL") ["x"] [.d (.int i)] (.ret (.d (.bool (decide (i < 256))))) m nx [] [] (by kernel_rfl) (bindq1 fun S a=>by kernel_rfl) rfl (by kernel_rfl)
theorem isnon_tr (i:Int):CodeTr prog w (KK w) bt (k+1) (fn w "ISNONTERMINAL") [.d (.int i)] [] m nx (.d (.bool (decide (i >= 256)))) m nx:=
 codeA (fa w "ISNONTERMINAL") ["x"] [.d (.int i)] (.ret (.d (.bool (decide (i >= 256))))) m nx [] [] (by kernel_rfl) (bindq1 fun S a=>by kernel_rfl) rfl (by kernel_rfl)
theorem iseof_tr (i:Int):CodeTr prog w (KK w) bt (k+1) (fn w "ISEOF") [.d (.int i)] [] m nx (.d (.bool (decide (i=0)))) m nx:=
 codeA (fa w "ISEOF") ["x"] [.d (.int i)] (.ret (.d (.bool (decide (i=0))))) m nx [] [] (by kernel_rfl) (bindq1 fun S a=>by kernel_rfl) rfl (by kernel_rfl)
noncomputable def decS (n:Nat):Str:=Str.ofString (toString (n:Int))
noncomputable def decChk (n:Nat):Bool:=(PySem.intText? (decS n) == some (n:Int)) && (decS n).cps.toList.all (fun c=>Nat.ble 48 c && Nat.ble c 57) && Nat.ble (decS n).length 3 && Nat.ble 1 (decS n).length
theorem dec_all:((List.range 600).all decChk)=true:=by kernel_rfl
theorem dec_ok {n:Nat} (h:n < 600):PySem.intText? (decS n)=some (n:Int) /\ (∀ c ∈ (decS n).cps.toList,48<=c /\ c<=57) /\ (decS n).length<=3 /\ 1<=(decS n).length:=by
 have:=List.all_eq_true.mp dec_all n (List.mem_range.mpr h)
 unfold decChk at this
 rw [Bool.and_eq_true,Bool.and_eq_true,Bool.and_eq_true] at this
 obtain ⟨⟨⟨h1,h2⟩,h3⟩,h4⟩:=this
 refine ⟨eq_of_beq h1,fun c hc=>?_,Nat.le_of_ble_eq_true h3,Nat.le_of_ble_eq_true h4⟩
 have:=List.all_eq_true.mp h2 c hc
 rw [Bool.and_eq_true] at this
 exact ⟨Nat.le_of_ble_eq_true this.1,Nat.le_of_ble_eq_true this.2⟩
theorem dec_prn {n:Nat} (h:n < 600):Prn (decS n):=fun c hc=>by have:=(dec_ok h).2.1 c hc; omega
end
end
section
structure Ix where
 n:Nat
 j:Nat
 p:Nat
 s:Nat
 t:Nat
 q:Nat
 p':Nat
 h:Nat
 g:Nat
 l:Nat
noncomputable def Ix.all (x:Ix):List Nat:=[x.n,x.j,x.p,x.s,x.t,x.q,x.h,x.g,x.l]
structure Good (w:World) (x:Ix) (m:Nat->MO) (nx:Nat):Prop where
 nd:x.all.Nodup
 lt:∀ i ∈ x.all,i < nx
 i1:m x.n=.inst (netC w) x.j
 i4:m x.s=.inst (netC w) x.t
 i5:m x.t=.ns (srcNs w x.p' x.q)
 k1:m x.h=.inst (hdC w) x.g
 k2:m x.g=.ns [("_headers",.loc x.l)]
noncomputable def vw (x:Ix) (m:Nat->MO) (L:Int) (cs:List Nat) (push:List D) (kvs:List (Str × Str)):Nat->MO:=
 upd (upd (upd (upd m x.q (.list (leftD cs))) x.j (.ns (lexNs L (.loc x.s) x.p))) x.p (.list push)) x.l (.list (kvsD kvs))
section
variable {w:World} {x:Ix} {m:Nat->MO} {nx:Nat} {L L':Int} {cs cs':List Nat} {push push':List D} {kvs kvs':List (Str × Str)}
theorem vw_l:vw x m L cs push kvs x.l=.list (kvsD kvs):=upd_at _ _ _
theorem vw_p (h:x.p ≠ x.l):vw x m L cs push kvs x.p=.list push:=by unfold vw; rw [upd_ne _ _ _ h,upd_at]
theorem vw_j (h:x.j ≠ x.l) (h2:x.j ≠ x.p):vw x m L cs push kvs x.j=.ns (lexNs L (.loc x.s) x.p):=by unfold vw; rw [upd_ne _ _ _ h,upd_ne _ _ _ h2,upd_at]
theorem vw_q (h:x.q ≠ x.l) (h2:x.q ≠ x.p) (h3:x.q ≠ x.j):vw x m L cs push kvs x.q=.list (leftD cs):=by unfold vw; rw [upd_ne _ _ _ h,upd_ne _ _ _ h2,upd_ne _ _ _ h3,upd_at]
theorem vw_ne {i:Nat} (h:i ≠ x.l) (h2:i ≠ x.p) (h3:i ≠ x.j) (h4:i ≠ x.q):vw x m L cs push kvs i=m i:=by unfold vw; rw [upd_ne _ _ _ h,upd_ne _ _ _ h2,upd_ne _ _ _ h3,upd_ne _ _ _ h4]
structure Sep (x:Ix):Prop where
 jl:x.j ≠ x.l
 jp:x.j ≠ x.p
 ql:x.q ≠ x.l
 qp:x.q ≠ x.p
 qj:x.q ≠ x.j
 pl:x.p ≠ x.l
theorem Good.ij (G:Good w x m nx) {a b:Nat} (i j:Nat) (hi:x.all[i]? = some a) (hj:x.all[j]? = some b) (n:(i == j)=false):a ≠ b:=
 fun e=>ne_of_beq_false n ((List.getElem?_inj (List.getElem?_eq_some_iff.mp hi).1 G.nd).mp (hi.trans (e ▸ hj.symm)))
theorem Good.at (G:Good w x m nx) {a:Nat} (i:Nat) (h:x.all[i]? = some a):a < nx:=G.lt a (List.mem_of_getElem? h)
theorem out_ne {i a:Nat} (hi:i ∉ x.all) (k:Nat) (h:x.all[k]? = some a):i ≠ a:=fun e=>hi (e ▸ List.mem_of_getElem? h)
theorem Good.sep (G:Good w x m nx):Sep x:=⟨(G.ij 1 8 rfl rfl rfl),(G.ij 1 2 rfl rfl rfl),(G.ij 5 8 rfl rfl rfl),(G.ij 5 2 rfl rfl rfl),(G.ij 5 1 rfl rfl rfl),(G.ij 2 8 rfl rfl rfl)⟩
theorem vw_ext {m':Nat->MO} (S:Sep x) (h1:m' x.l=.list (kvsD kvs)) (h2:m' x.p=.list push) (h3:m' x.j=.ns (lexNs L (.loc x.s) x.p)) (h4:m' x.q=.list (leftD cs)) (h5:∀ i,i ≠ x.l->i ≠ x.p->i ≠ x.j->i ≠ x.q->m' i=m i):m'=vw x m L cs push kvs:=by
 funext i
 by_cases a:i=x.l
 ·rw [a,h1,vw_l]
 ·by_cases b:i=x.p
  ·rw [b,h2,vw_p S.pl]
  ·by_cases c:i=x.j
   ·rw [c,h3,vw_j S.jl S.jp]
   ·by_cases d:i=x.q
    ·rw [d,h4,vw_q S.ql S.qp S.qj]
    ·rw [h5 i a b c d,vw_ne a b c d]
theorem vw_lex (S:Sep x):lexUp (vw x m L cs push kvs) x.j x.p x.s x.q L' cs'=vw x m L' cs' push kvs:=by
 apply vw_ext S
 ·unfold lexUp; rw [upd_ne _ _ _ (Ne.symm S.jl),upd_ne _ _ _ (Ne.symm S.ql),vw_l]
 ·unfold lexUp; rw [upd_ne _ _ _ (Ne.symm S.jp),upd_ne _ _ _ (Ne.symm S.qp),vw_p S.pl]
 ·unfold lexUp; rw [upd_at]
 ·unfold lexUp; rw [upd_ne _ _ _ S.qj,upd_at]
 ·intro i a b c d; unfold lexUp; rw [upd_ne _ _ _ c,upd_ne _ _ _ d,vw_ne a b c d]
theorem vw_push (S:Sep x):upd (vw x m L cs push kvs) x.p (.list push')=vw x m L cs push' kvs:=by
 apply vw_ext S
 ·rw [upd_ne _ _ _ (Ne.symm S.pl),vw_l]
 ·rw [upd_at]
 ·rw [upd_ne _ _ _ S.jp,vw_j S.jl S.jp]
 ·rw [upd_ne _ _ _ S.qp,vw_q S.ql S.qp S.qj]
 ·intro i a b c d; rw [upd_ne _ _ _ b,vw_ne a b c d]
theorem vw_hd (S:Sep x):upd (vw x m L cs push kvs) x.l (.list (kvsD kvs'))=vw x m L cs push kvs':=by
 apply vw_ext S
 ·rw [upd_at]
 ·rw [upd_ne _ _ _ S.pl,vw_p S.pl]
 ·rw [upd_ne _ _ _ S.jl,vw_j S.jl S.jp]
 ·rw [upd_ne _ _ _ S.ql,vw_q S.ql S.qp S.qj]
 ·intro i a b c d; rw [upd_ne _ _ _ a,vw_ne a b c d]
theorem vw_upd (S:Sep x) {i:Nat} {mo:MO} (a:i ≠ x.l) (b:i ≠ x.p) (c:i ≠ x.j) (d:i ≠ x.q):upd (vw x m L cs push kvs) i mo=vw x (upd m i mo) L cs push kvs:=by
 apply vw_ext S
 ·rw [upd_ne _ _ _ (Ne.symm a),vw_l]
 ·rw [upd_ne _ _ _ (Ne.symm b),vw_p S.pl]
 ·rw [upd_ne _ _ _ (Ne.symm c),vw_j S.jl S.jp]
 ·rw [upd_ne _ _ _ (Ne.symm d),vw_q S.ql S.qp S.qj]
 ·intro y a' b' c' d'
  by_cases e:y=i
  ·rw [e,upd_at,upd_at]
  ·rw [upd_ne _ _ _ e,upd_ne _ _ _ e,vw_ne a' b' c' d']
theorem Good.lex (G:Good w x m nx):LexAt w (vw x m L cs push kvs) nx x.n x.j x.p x.s x.t x.q x.p' L cs push:=
 have S:=G.sep
 ⟨G.at 0 rfl,G.at 1 rfl,G.at 2 rfl,G.at 3 rfl,G.at 4 rfl,G.at 5 rfl,(vw_ne (G.ij 0 8 rfl rfl rfl) (G.ij 0 2 rfl rfl rfl) (G.ij 0 1 rfl rfl rfl) (G.ij 0 5 rfl rfl rfl)).trans G.i1,vw_j S.jl S.jp,vw_p S.pl,(vw_ne (G.ij 3 8 rfl rfl rfl) (G.ij 3 2 rfl rfl rfl) (G.ij 3 1 rfl rfl rfl) (G.ij 3 5 rfl rfl rfl)).trans G.i4,(vw_ne (G.ij 4 8 rfl rfl rfl) (G.ij 4 2 rfl rfl rfl) (G.ij 4 1 rfl rfl rfl) (G.ij 4 5 rfl rfl rfl)).trans G.i5,vw_q S.ql S.qp S.qj,(G.ij 1 4 rfl rfl rfl),Ne.symm S.qp⟩
theorem Good.hd (G:Good w x m nx):HdAt w (vw x m L cs push kvs) nx x.h x.g x.l kvs:=
 ⟨G.at 6 rfl,G.at 7 rfl,G.at 8 rfl,(vw_ne (G.ij 6 8 rfl rfl rfl) (G.ij 6 2 rfl rfl rfl) (G.ij 6 1 rfl rfl rfl) (G.ij 6 5 rfl rfl rfl)).trans G.k1,(vw_ne (G.ij 7 8 rfl rfl rfl) (G.ij 7 2 rfl rfl rfl) (G.ij 7 1 rfl rfl rfl) (G.ij 7 5 rfl rfl rfl)).trans G.k2,vw_l⟩
theorem Good.other (G:Good w x m nx) {i:Nat} (hi:i ∉ x.all) (mo:MO) {nx':Nat} (hn:nx<=nx'):Good w x (upd m i mo) nx':=
 have ne:=fun {a} k h=>Ne.symm (out_ne (a:=a) hi k h)
 ⟨G.nd,fun y hy=>Nat.lt_of_lt_of_le (G.lt y hy) hn,(upd_ne _ _ _ (ne 0 rfl)).trans G.i1,(upd_ne _ _ _ (ne 3 rfl)).trans G.i4,(upd_ne _ _ _ (ne 4 rfl)).trans G.i5,(upd_ne _ _ _ (ne 6 rfl)).trans G.k1,(upd_ne _ _ _ (ne 7 rfl)).trans G.k2⟩
theorem Good.notin (G:Good w x m nx) {i:Nat} (h:nx<=i):i ∉ x.all:=fun hi=>absurd (G.lt i hi) (Nat.not_lt_of_le h)
theorem Good.ne4 {i:Nat} (hi:i ∉ x.all):i ≠ x.l /\ i ≠ x.p /\ i ≠ x.j /\ i ≠ x.q:=⟨out_ne hi 8 rfl,out_ne hi 2 rfl,out_ne hi 1 rfl,out_ne hi 5 rfl⟩
theorem Good.vupd (G:Good w x m nx) {i:Nat} (hi:i ∉ x.all) (mo:MO):upd (vw x m L cs push kvs) i mo=vw x (upd m i mo) L cs push kvs:=
 let ⟨a,b,c,d⟩:=Good.ne4 hi; vw_upd G.sep a b c d
theorem Good.vat (G:Good w x m nx) {i:Nat} (hi:i ∉ x.all):vw x m L cs push kvs i=m i:=
 let ⟨a,b,c,d⟩:=Good.ne4 hi; vw_ne a b c d
theorem Good.low (G:Good w x m nx) {m':Nat->MO} {nx':Nat} (hn:nx<=nx') (h:∀ i,i < nx->m' i=vw x m L' cs' push' kvs' i):Low (vw x m L cs push kvs) nx m' nx' (vw x m L' cs' push' kvs') nx:=by
 refine ⟨Nat.le_refl _,hn,h,fun i hi=>?_⟩
 have S:=G.sep
 by_cases a:i=x.l
 ·right; rw [a,vw_l]; trivial
 ·by_cases b:i=x.p
  ·right; rw [b,vw_p S.pl]; trivial
  ·by_cases c:i=x.j
   ·right; rw [c,vw_j S.jl S.jp]; exact lexNs_bd (G.at 3 rfl) (G.at 2 rfl)
   ·by_cases d:i=x.q
    ·right; rw [d,vw_q S.ql S.qp S.qj]; trivial
    ·left; exact ⟨hi,by rw [vw_ne a b c d,vw_ne a b c d]⟩
end
end
section
noncomputable def kvsFrom:Nat->List Str->List (Str × Str)
 | _,[]=>[]
 | i,y :: r=>(y,decS (256+i)) :: kvsFrom (i+1) r
noncomputable def idxF (ks:List Str) (tok:Str):Option Nat:=ks.findIdx? fun y=>decide (Txt.lower y=Txt.lower tok)
theorem kvsFrom_get (tok:Str):∀ (ks:List Str) (i:Nat),getF (kvsFrom i ks) tok=(idxF ks tok).map fun a=>decS (256+i+a)
 | [],_=>rfl
 | y :: r,i=>by
  unfold getF idxF kvsFrom
  rw [List.findIdx?_cons,List.find?_cons]
  cases q:decide (Txt.lower y=Txt.lower tok) with
  | true=>simp
  | false=>
   dsimp only
   have:=kvsFrom_get tok r (i+1)
   unfold getF idxF at this
   rw [this]
   simp only [Option.map_map,Function.comp_def,Bool.false_eq_true,if_false]
   congr 1
   funext a
   rw [show 256+(i+1)+a=256+i+(a+1) by omega]
theorem kvsFrom_app (y:Str):∀ (ks:List Str) (i:Nat),kvsFrom i (ks ++ [y])=kvsFrom i ks ++ [(y,decS (256+i+ks.length))]
 | [],i=>rfl
 | z :: r,i=>by
  show (z,decS (256+i)) :: kvsFrom (i+1) (r ++ [y])=_
  rw [kvsFrom_app y r (i+1),List.length_cons,show 256+i+(r.length+1)=256+(i+1)+r.length by omega]
  rfl
theorem kvsFrom_fst:∀ (ks:List Str) (i:Nat),(kvsFrom i ks).map (·.1)=ks
 | [],_=>rfl
 | y :: r,i=>by show y :: _=_; rw [kvsFrom_fst r (i+1)]
theorem kvsFrom_len (ks:List Str) (i:Nat):(kvsFrom i ks).length=ks.length:=by rw [<- List.length_map (f:=(·.1)),kvsFrom_fst]
noncomputable def kvsOf (ks:List Str):List (Str × Str):=kvsFrom 0 ks
noncomputable def readK (z:List Str × List Nat) (tok:Str):List Str × List Nat:=match tokTab.lookup tok with
 | some v=>(z.1,z.2 ++ [v.toNat])
 | none=>match idxF z.1 tok with
  | some i=>(z.1,z.2 ++ [256+i])
  | none=>(z.1 ++ [tok],z.2 ++ [256+z.1.length])
noncomputable def TokOk (tok:Str):Prop:=tok ≠ Str.empty /\ tok.length<=1000 /\ (((∃ (v:Nat),A3 (tokTab.lookup tok=some (v:Int)) (7<=v) (v < 256))) \/ (tokTab.lookup tok=none /\ Prn tok /\ Prn (Txt.lower tok)))
noncomputable def encP (ps:List (List Nat × Word)) (last:List Nat):List Nat:=ps.flatMap (fun p=>p.1 ++ p.2.enc) ++ last
noncomputable def nlsP (ps:List (List Nat × Word)) (last:List Nat):Int:=(ps.map fun p=>nls p.1).sum+nls last
theorem natsD_app (l:List Nat) (a:Nat):natsD (l ++ [a])=natsD l ++ [.int a]:=by unfold natsD; rw [List.map_append]; rfl
theorem log_small {n:Nat} (h:n < 1024):((n:Nat):Int).natAbs.log2 < 1920:=by
 show n.log2 < 1920
 by_cases h0:n=0
 ·subst h0; decide
 ·exact Nat.lt_of_lt_of_le ((Nat.log2_lt h0).mpr (show n < 2 ^ 10 from h)) (by decide)
section
variable {prog:Program} {w:World} {k:Nat} {m:Nat->MO} {nx:Nat} {x:Ix} {L:Int}
noncomputable abbrev rdW (w:World):Stmt:=nthS (bd w "_law_read") 1
noncomputable def Vr (x:Ix) (nx:Nat):List (Str × AV):=[("lexer",.loc x.n),("known",.loc x.h),("kinds",.loc nx)]
theorem read_true {st:St}:TTr prog w (KK w) bt k (ph w "_law_read") (whTest (rdW w)) st true st:=TTr.runE 20 [.br true true rfl] (by kernel_rfl)
noncomputable abbrev rdM (x:Ix) (m:Nat->MO) (nx:Nat) (L:Int) (cs:List Nat) (z:List Str × List Nat):Nat->MO:=vw x (upd m nx (.list (natsD z.2))) L cs [] (kvsOf z.1)
theorem rd_append (G:Good w x m nx) (cs:List Nat) (z:List Str × List Nat) (ks:List Str) (a:Nat):upd (vw x (upd m nx (.list (natsD z.2))) L cs [] (kvsOf ks)) nx (.list (natsD z.2 ++ [.int a]))=rdM x m nx L cs (ks,z.2 ++ [a]):=by
 rw [(G.other (G.notin (Nat.le_refl _)) (.list (natsD z.2)) (Nat.le_succ nx)).vupd (G.notin (Nat.le_refl _)),upd_same,<- natsD_app]
theorem rd_turn (G:Good w x m nx) (lead:List Nat) (wd:Word) (rest:List Nat) (hlead:∀ a ∈ lead,wsB a=true) (hw:wd.ok) (hok:OkCs (lead ++ (wd.enc ++ rest))) (z:List Str × List Nat) (ht:TokOk wd.tok) (hz1:z.1.length<=300) (hz2:z.2.length<=10000) (hk:∀ y ∈ z.1,y.length<=1000) :
  BTr prog w (KK w) bt (k+4) (ph w "_law_read") (forBody (rdW w)) ⟨Vr x nx,[],rdM x m nx L (lead ++ (wd.enc ++ rest)) z,nx+1⟩ .next ⟨Vr x nx,[],rdM x m nx (L+nls lead) rest (readK z wd.tok),nx+1⟩:=by
 have G1:=G.other (G.notin (Nat.le_refl _)) (.list (natsD z.2)) (Nat.le_succ nx)
 have S:=G.sep
 have X:=G1.lex (L:=L) (cs:=lead ++ (wd.enc ++ rest)) (push:=[]) (kvs:=kvsOf z.1)
 have gt:=gt_word (prog:=prog) (k:=k) lead wd rest hlead hw X hok
 rw [vw_lex S] at gt
 generalize htk9:wd.tok=tok at gt ht ⊢
 have htk:=htk9.symm
 clear htk9
 obtain ⟨h0,hlen,ht⟩:=ht
 obtain ⟨M2,d2⟩ : ∃ y,y=vw x (upd m nx (.list (natsD z.2))) (L+nls lead) rest [] (kvsOf z.1):=⟨_,rfl⟩
 have x1:=X.i1
 have x2:=X.i2
 have c2:M2 nx=.list (natsD z.2):=by rw [d2,G1.vat (G.notin (Nat.le_refl _)),upd_at]
 have hd2:=G1.hd (L:=L+nls lead) (cs:=rest) (push:=[]) (kvs:=kvsOf z.1)
 have hzl:(natsD z.2).length<=100000:=by unfold natsD; rw [List.length_map]; omega
 show BTr prog w (KK w) bt (k+4) (ph w "_law_read") (forBody (rdW w)) ⟨Vr x nx,[],vw x (upd m nx (.list (natsD z.2))) L (lead ++ (wd.enc ++ rest)) [] (kvsOf z.1),nx+1⟩ .next _
 generalize d19:vw x (upd m nx (.list (natsD z.2))) L (lead ++ (wd.enc ++ rest)) [] (kvsOf z.1)=M1 at gt x1 x2 ⊢
 have d1:=d19.symm
 clear d19
 rw [<- d2] at gt hd2
 have hne:(!decide (tok=Str.empty))=true:=by rw [decide_eq_false h0]; rfl
 have e0:(natsD z.2).length=z.2.length:=by unfold natsD; rw [List.length_map]
 rcases ht with ⟨v,hv,hv7,hv256⟩ | ⟨hv,hp,hpl⟩
 ·have e:readK z tok=(z.1,z.2 ++ [v]):=by unfold readK; rw [hv]; rfl
  rw [e]
  have em:=rd_append (L:=L+nls lead) G rest z z.1 v
  rw [<- d2] at em
  generalize d39:rdM x m nx (L+nls lead) rest (z.1,z.2 ++ [v])=M3 at em ⊢
  have d3:=d39.symm
  clear d39
  exact BTr.runS 60 [(cx prog w (k+4) M1 (nx+1)).mFn x.n x.j (netC w) (gtA w) (lexNs L (.loc x.s) x.p) "get_token" X.ln x1 x2 (by kernel_rfl) (by kernel_rfl),.call gt.call,.br (!decide (tok=Str.empty)) true hne,
   (cx prog w (k+4) M2 (nx+1)).mGetTop (fa w "EXACT_TOKEN_TYPES") tokTab tok_top,(cx prog w (k+4) M2 (nx+1)).cGetTop (fa w "EXACT_TOKEN_TYPES") tokTab tok_top tok 256 v (by rw [hv]; rfl),
   .call (CodeTr.call (isnon_tr (prog:=prog) (w:=w) (k:=k+3) (m:=M2) (nx:=nx+1) v)),.brF ((v:Int) >= 256) (by omega),
   (cx prog w (k+4) M2 (nx+1)).mAppend (.loc nx) (natsD z.2) ⟨Nat.lt_succ_self _,c2⟩ trivial,(cx prog w (k+4) M2 (nx+1)).cAppend nx (natsD z.2) (.int v) (Nat.lt_succ_self _) c2 hzl M3 em,
   .call (CodeTr.call (iseof_tr (prog:=prog) (w:=w) (k:=k+3) (m:=M3) (nx:=nx+1) v)),.brF ((v:Int)=0) (by omega)] (by kernel_rfl)
 ·have hkk:∀ kv ∈ kvsOf z.1,kv.1.length<=1000:=fun kv hkv=>hk _ (by rw [<- kvsFrom_fst z.1 0]; exact List.mem_map_of_mem hkv)
  have hg:=kvsFrom_get tok z.1 0
  have hkl:(kvsOf z.1).length=z.1.length:=kvsFrom_len _ _
  have keys:=hd_keys (prog:=prog) (k:=k+3) hd2 (by rw [hkl]; omega)
  have hks:(kvsOf z.1).map (·.1)=z.1:=kvsFrom_fst _ _
  rw [hks] at keys
  have i1:=hd2.i1
  have i2:=hd2.i2
  cases q:idxF z.1 tok with
  | some i=>
   have e:readK z tok=(z.1,z.2 ++ [256+i]):=by unfold readK; rw [hv]; dsimp only; rw [q]
   rw [e]
   rw [q] at hg
   have hi:i < z.1.length:=by
    unfold idxF at q
    have:=List.findIdx?_eq_some_iff_findIdx_eq.mp q
    omega
   have hs:=hd_old (prog:=prog) (k:=k+1) hd2 tok (decS (256+z.1.length)) (decS (256+i)) hlen hpl hkk (by unfold kvsOf; rw [hg]; rfl)
   have hdi:=dec_ok (n:=256+i) (by omega)
   have em:=rd_append (L:=L+nls lead) G rest z z.1 (256+i)
   rw [<- d2] at em
   generalize d39:rdM x m nx (L+nls lead) rest (z.1,z.2 ++ [256+i])=M3 at em ⊢
   have d3:=d39.symm
   clear d39
   exact BTr.runS 60 [(cx prog w (k+4) M1 (nx+1)).mFn x.n x.j (netC w) (gtA w) (lexNs L (.loc x.s) x.p) "get_token" X.ln x1 x2 (by kernel_rfl) (by kernel_rfl),.call gt.call,.br (!decide (tok=Str.empty)) true hne,
    (cx prog w (k+4) M2 (nx+1)).mGetTop (fa w "EXACT_TOKEN_TYPES") tokTab tok_top,(cx prog w (k+4) M2 (nx+1)).cGetTop (fa w "EXACT_TOKEN_TYPES") tokTab tok_top tok 256 256 (by rw [hv]; rfl),
    .call (CodeTr.call (isnon_tr (prog:=prog) (w:=w) (k:=k+3) (m:=M2) (nx:=nx+1) 256)),.brT ((256:Int) >= 256) (by omega),
    (cx prog w (k+4) M2 (nx+1)).mFn x.h x.g (hdC w) (hsA w) [("_headers",.loc x.l)] "setdefault" hd2.ln i1 i2 (by kernel_rfl) (by kernel_rfl),
    (cx prog w (k+4) M2 (nx+1)).mFn x.h x.g (hdC w) (hkA w) [("_headers",.loc x.l)] "keys" hd2.ln i1 i2 (by kernel_rfl) (by kernel_rfl),.call keys.call,
    .call (show (cx prog w (k+4) M2 (nx+1)).Call (.k (.builtin "len")) [.d (.lst (strDs z.1))] (.d (.int z.1.length)) M2 (nx+1) from strDs_len z.1 ▸ c_len rfl trivial (by rw [strDs_len]; omega)),
    .call (show (cx prog w (k+4) M2 (nx+1)).Call (.k (.type "str")) [.d (.int (256+z.1.length:Nat))] (.d (.str (decS (256+z.1.length)))) M2 (nx+1) from c_str (log_small (by omega))),.call hs.call,
    (cx prog w (k+4) M2 (nx+1)).intS (decS (256+i)) (256+i:Nat) hdi.1 (by have:=hdi.2.2.1; omega),
    (cx prog w (k+4) M2 (nx+1)).mAppend (.loc nx) (natsD z.2) ⟨Nat.lt_succ_self _,c2⟩ trivial,(cx prog w (k+4) M2 (nx+1)).cAppend nx (natsD z.2) (.int (256+i:Nat)) (Nat.lt_succ_self _) c2 hzl M3 em,
    .call (CodeTr.call (iseof_tr (prog:=prog) (w:=w) (k:=k+3) (m:=M3) (nx:=nx+1) (256+i:Nat))),.brF (((256+i:Nat):Int)=0) (by omega)] (by kernel_rfl)
  | none=>
   have e:readK z tok=(z.1 ++ [tok],z.2 ++ [256+z.1.length]):=by unfold readK; rw [hv]; dsimp only; rw [q]
   rw [e]
   rw [q] at hg
   have hdi:=dec_ok (n:=256+z.1.length) (by omega)
   have hs:=hd_new (prog:=prog) (k:=k+1) hd2 tok (decS (256+z.1.length)) hlen hpl hp (dec_prn (by omega)) hkk (by unfold kvsOf; rw [hg]; rfl) (by rw [hkl]; omega)
   have ek:kvsOf z.1 ++ [(tok,decS (256+z.1.length))]=kvsOf (z.1 ++ [tok]):=by
    unfold kvsOf
    rw [kvsFrom_app]
   rw [ek] at hs
   obtain ⟨M2',d2'⟩ : ∃ y,y=vw x (upd m nx (.list (natsD z.2))) (L+nls lead) rest [] (kvsOf (z.1 ++ [tok])):=⟨_,rfl⟩
   have eh:upd M2 x.l (.list (kvsD (kvsOf (z.1 ++ [tok]))))=M2':=by rw [d2,d2',vw_hd S]
   rw [eh] at hs
   have c2':M2' nx=.list (natsD z.2):=by rw [d2',G1.vat (G.notin (Nat.le_refl _)),upd_at]
   have em:=rd_append (L:=L+nls lead) G rest z (z.1 ++ [tok]) (256+z.1.length)
   rw [<- d2'] at em
   generalize d39:rdM x m nx (L+nls lead) rest (z.1 ++ [tok],z.2 ++ [256+z.1.length])=M3 at em ⊢
   have d3:=d39.symm
   clear d39
   exact BTr.runS 60 [(cx prog w (k+4) M1 (nx+1)).mFn x.n x.j (netC w) (gtA w) (lexNs L (.loc x.s) x.p) "get_token" X.ln x1 x2 (by kernel_rfl) (by kernel_rfl),.call gt.call,.br (!decide (tok=Str.empty)) true hne,
    (cx prog w (k+4) M2 (nx+1)).mGetTop (fa w "EXACT_TOKEN_TYPES") tokTab tok_top,(cx prog w (k+4) M2 (nx+1)).cGetTop (fa w "EXACT_TOKEN_TYPES") tokTab tok_top tok 256 256 (by rw [hv]; rfl),
    .call (CodeTr.call (isnon_tr (prog:=prog) (w:=w) (k:=k+3) (m:=M2) (nx:=nx+1) 256)),.brT ((256:Int) >= 256) (by omega),
    (cx prog w (k+4) M2 (nx+1)).mFn x.h x.g (hdC w) (hsA w) [("_headers",.loc x.l)] "setdefault" hd2.ln i1 i2 (by kernel_rfl) (by kernel_rfl),
    (cx prog w (k+4) M2 (nx+1)).mFn x.h x.g (hdC w) (hkA w) [("_headers",.loc x.l)] "keys" hd2.ln i1 i2 (by kernel_rfl) (by kernel_rfl),.call keys.call,
    .call (show (cx prog w (k+4) M2 (nx+1)).Call (.k (.builtin "len")) [.d (.lst (strDs z.1))] (.d (.int z.1.length)) M2 (nx+1) from strDs_len z.1 ▸ c_len rfl trivial (by rw [strDs_len]; omega)),
    .call (show (cx prog w (k+4) M2 (nx+1)).Call (.k (.type "str")) [.d (.int (256+z.1.length:Nat))] (.d (.str (decS (256+z.1.length)))) M2 (nx+1) from c_str (log_small (by omega))),.call hs.call,
    (cx prog w (k+4) M2' (nx+1)).intS (decS (256+z.1.length)) (256+z.1.length:Nat) hdi.1 (by have:=hdi.2.2.1; omega),
    (cx prog w (k+4) M2' (nx+1)).mAppend (.loc nx) (natsD z.2) ⟨Nat.lt_succ_self _,c2'⟩ trivial,(cx prog w (k+4) M2' (nx+1)).cAppend nx (natsD z.2) (.int (256+z.1.length:Nat)) (Nat.lt_succ_self _) c2' hzl M3 em,
    .call (CodeTr.call (iseof_tr (prog:=prog) (w:=w) (k:=k+3) (m:=M3) (nx:=nx+1) (256+z.1.length:Nat))),.brF (((256+z.1.length:Nat):Int)=0) (by omega)] (by kernel_rfl)
end
end
section
section
variable {prog:Program} {w:World} {k:Nat} {m:Nat->MO} {nx:Nat} {x:Ix} {L:Int}
theorem rd_last (G:Good w x m nx) (last:List Nat) (hlast:∀ a ∈ last,wsB a=true) (hok:OkCs last) (z:List Str × List Nat) (hz2:z.2.length<=10000) :
  BTr prog w (KK w) bt (k+4) (ph w "_law_read") (forBody (rdW w)) ⟨Vr x nx,[],rdM x m nx L last z,nx+1⟩ (.ret (.d (.lst (natsD (z.2 ++ [0]))))) ⟨[],[],upd (rdM x m nx (L+nls last) [] (z.1,z.2 ++ [0])) nx .junk,nx+1⟩:=by
 have G1:=G.other (G.notin (Nat.le_refl _)) (.list (natsD z.2)) (Nat.le_succ nx)
 have S:=G.sep
 have X:=G1.lex (L:=L) (cs:=last) (push:=[]) (kvs:=kvsOf z.1)
 have gt:=gt_end (prog:=prog) (k:=k) last hlast X hok
 rw [vw_lex S] at gt
 obtain ⟨M2,d2⟩ : ∃ y,y=vw x (upd m nx (.list (natsD z.2))) (L+nls last) [] [] (kvsOf z.1):=⟨_,rfl⟩
 have x1:=X.i1
 have x2:=X.i2
 have c2:M2 nx=.list (natsD z.2):=by rw [d2,G1.vat (G.notin (Nat.le_refl _)),upd_at]
 have hzl:(natsD z.2).length<=100000:=by unfold natsD; rw [List.length_map]; omega
 show BTr prog w (KK w) bt (k+4) (ph w "_law_read") (forBody (rdW w)) ⟨Vr x nx,[],vw x (upd m nx (.list (natsD z.2))) L last [] (kvsOf z.1),nx+1⟩ _ _
 generalize d19:vw x (upd m nx (.list (natsD z.2))) L last [] (kvsOf z.1)=M1 at gt x1 x2 ⊢
 have d1:=d19.symm
 clear d19
 rw [<- d2] at gt
 have em:=rd_append (L:=L+nls last) G [] z z.1 0
 rw [<- d2] at em
 generalize d39:rdM x m nx (L+nls last) [] (z.1,z.2 ++ [0])=M3 at em ⊢
 have d3:=d39.symm
 clear d39
 have c3:M3 nx=.list (natsD (z.2 ++ [0])):=by rw [<- em,upd_at,natsD_app]
 generalize hR9:natsD (z.2 ++ [0])=R at c3 ⊢
 have hR:=hR9.symm
 clear hR9
 exact BTr.runS 60 [(cx prog w (k+4) M1 (nx+1)).mFn x.n x.j (netC w) (gtA w) (lexNs L (.loc x.s) x.p) "get_token" X.ln x1 x2 (by kernel_rfl) (by kernel_rfl),.call gt.call,.br (!decide (Str.empty=Str.empty)) false rfl,
  .call (CodeTr.call (isnon_tr (prog:=prog) (w:=w) (k:=k+3) (m:=M2) (nx:=nx+1) 0)),.brF ((0:Int) >= 256) (by omega),
  (cx prog w (k+4) M2 (nx+1)).mAppend (.loc nx) (natsD z.2) ⟨Nat.lt_succ_self _,c2⟩ trivial,(cx prog w (k+4) M2 (nx+1)).cAppend nx (natsD z.2) (.int 0) (Nat.lt_succ_self _) c2 hzl M3 em,
  .call (CodeTr.call (iseof_tr (prog:=prog) (w:=w) (k:=k+3) (m:=M3) (nx:=nx+1) 0)),.brT ((0:Int)=0) rfl,.fz M3 (nx+1) nx R c3 (Nat.lt_succ_self _)] (by kernel_rfl)
theorem readK_len (z:List Str × List Nat) (tok:Str):(readK z tok).1.length<=z.1.length+1 /\ (readK z tok).2.length=z.2.length+1:=by
 unfold readK
 split
 ·exact ⟨by dsimp only; omega,by simp⟩
 ·split
  ·exact ⟨by dsimp only; omega,by simp⟩
  ·exact ⟨by simp,by simp⟩
theorem readK_short (z:List Str × List Nat) (tok:Str) (ht:tok.length<=1000) (h:∀ y ∈ z.1,y.length<=1000):∀ y ∈ (readK z tok).1,y.length<=1000:=by
 unfold readK
 split
 ·exact h
 ·split
  ·exact h
  ·intro y hy
   rcases List.mem_append.mp hy with hy | hy
   ·exact h y hy
   ·rw [List.mem_singleton.mp hy]; exact ht
theorem rd_loop (G:Good w x m nx) (last:List Nat) (hlast:∀ a ∈ last,wsB a=true):∀ (ps:List (List Nat × Word)) (z:List Str × List Nat) (L:Int),(∀ q ∈ ps,(∀ a ∈ q.1,wsB a=true) /\ q.2.ok /\ TokOk q.2.tok)->OkCs (encP ps last)->z.1.length+ps.length<=300->z.2.length+ps.length<=10000->(∀ y ∈ z.1,y.length<=1000) ->
  WhTr prog w (KK w) bt (k+4) (ph w "_law_read") (whTest (rdW w)) (forBody (rdW w)) ps.length ⟨Vr x nx,[],rdM x m nx L (encP ps last) z,nx+1⟩ (.ret (.d (.lst (natsD (((ps.map (·.2.tok)).foldl readK z).2 ++ [0])))))
   ⟨[],[],upd (rdM x m nx (L+nlsP ps last) [] (((ps.map (·.2.tok)).foldl readK z).1,((ps.map (·.2.tok)).foldl readK z).2 ++ [0])) nx .junk,nx+1⟩
 | [],z,L,_,hok,h1,h2,h3=>by
  have e:nlsP [] last=nls last:=by unfold nlsP; simp
  rw [e]
  exact .stop read_true (rd_last G last hlast hok z (by omega))
 | q :: ps,z,L,hps,hok,h1,h2,h3=>by
  obtain ⟨a1,a2,a3⟩:=hps q (List.mem_cons_self ..)
  have ec:encP (q :: ps) last=q.1 ++ (q.2.enc ++ encP ps last):=by unfold encP; simp
  rw [ec] at hok ⊢
  rw [List.length_cons] at h1 h2
  have b:=rd_turn (prog:=prog) (k:=k) (L:=L) G q.1 q.2 (encP ps last) a1 a2 hok z a3 (by omega) (by omega) h3
  obtain ⟨l1,l2⟩:=readK_len z q.2.tok
  have ih:=rd_loop G last hlast ps (readK z q.2.tok) (L+nls q.1) (fun y hy=>hps y (List.mem_cons_of_mem _ hy)) hok.app.app (by omega) (by omega) (readK_short z _ a3.2.1 h3)
  have en:L+nlsP (q :: ps) last=L+nls q.1+nlsP ps last:=by unfold nlsP; simp; omega
  rw [en,List.map_cons,List.foldl_cons]
  exact .step read_true b (.inl rfl) ih
theorem read_tr (G:Good w x m nx) (ps:List (List Nat × Word)) (last:List Nat) (hlast:∀ a ∈ last,wsB a=true) (hps:∀ q ∈ ps,(∀ a ∈ q.1,wsB a=true) /\ q.2.ok /\ TokOk q.2.tok) (hok:OkCs (encP ps last)) (hz:ps.length<=300) :
  CallTr prog w (KK w) bt (k+5) (fn w "_law_read") [.loc x.n,.loc x.h] [] (vw x m L (encP ps last) [] []) nx (.d (.lst (natsD (((ps.map (·.2.tok)).foldl readK ([],[])).2 ++ [0]))))
   (vw x m (L+nlsP ps last) [] [] (kvsOf ((ps.map (·.2.tok)).foldl readK ([],[])).1)) nx:=by
 have loop:=rd_loop (prog:=prog) (k:=k) G last hlast ps ([],[]) L hps hok (by simpa using hz) (by simp; omega) (fun y hy=>by cases hy)
 have st:=STr.while_ (c:=rdW w) (by kernel_rfl) loop
 have e0:rdM x m nx L (encP ps last) ([],[])=upd (vw x m L (encP ps last) [] []) nx (.list []):=by rw [G.vupd (G.notin (Nat.le_refl _))]; rfl
 rw [e0] at st
 generalize hz99:(ps.map (·.2.tok)).foldl readK ([],[])=z at st ⊢
 have hz9:=hz99.symm
 clear hz99
 obtain ⟨R,hR⟩ : ∃ y,y=natsD (z.2 ++ [0]):=⟨_,rfl⟩
 obtain ⟨M0,d0⟩ : ∃ y,y=vw x m L (encP ps last) [] []:=⟨_,rfl⟩
 obtain ⟨M9,d9⟩ : ∃ y,y=upd (rdM x m nx (L+nlsP ps last) [] (z.1,z.2 ++ [0])) nx .junk:=⟨_,rfl⟩
 have h:CodeTr prog w (KK w) bt (k+5) (fn w "_law_read") [.loc x.n,.loc x.h] [] M0 nx (.d (.lst R)) M9 (nx+1):=by
  rw [<- d0,<- d9,<- hR] at st
  exact codeA (fa w "_law_read") ["lexer", "known"] [.loc x.n,.loc x.h] (.ret (.d (.lst R))) M9 (nx+1) [] [.lst [] true (by decide),.stm st] (by kernel_rfl) (bindq2 fun S a b=>by kernel_rfl) rfl (by kernel_rfl)
 rw [d0] at h
 rw [<- hR,<- d0]
 rw [<- d0] at h
 refine (h.call).low ?_ (.d _)
 rw [d0,d9]
 refine G.low (Nat.le_succ _) fun i hi=>?_
 rw [upd_ne _ _ _ (Nat.ne_of_lt hi)]
 have:=G.vupd (L:=L+nlsP ps last) (cs:=[]) (push:=[]) (kvs:=kvsOf z.1) (G.notin (Nat.le_refl nx)) (.list (natsD (z.2 ++ [0])))
 rw [show rdM x m nx (L+nlsP ps last) [] (z.1,z.2 ++ [0])=upd (vw x m (L+nlsP ps last) [] [] (kvsOf z.1)) nx (.list (natsD (z.2 ++ [0]))) from this.symm,upd_ne _ _ _ (Nat.ne_of_lt hi)]
end
end
section
noncomputable def encT (ts:List T4):List Nat:=ts.flatMap fun t=>[t.1,t.2.1,t.2.2.1,t.2.2.2]
noncomputable def encE (o:Nat) (es:List E2):List Nat:=es.flatMap fun e=>[o,e.1,e.2]
noncomputable def tL (t:T4):D:=.lst (natsD [t.1,t.2.1,t.2.2.1,t.2.2.2])
noncomputable def eL (e:E2):D:=.lst (natsD [e.1,e.2])
section
variable {prog:Program} {w:World} {k:Nat} {m:Nat->MO} {nx:Nat}
noncomputable abbrev paW (w:World):Stmt:=nthS (bd w "_law_parted") 3
noncomputable abbrev paM (m:Nat->MO) (nx:Nat) (A B:List D):Nat->MO:=upd (upd m nx (.list A)) (nx+1) (.list B)
noncomputable def Vp (ks:List Nat) (nx:Nat) (place:Nat):List (Str × AV):=[("kinds",.d (.lst (natsD ks))),("terms",.loc nx),("pairs",.loc (nx+1)),("place",.d (.int place))]
theorem natsD_get {l:List Nat} {i a:Nat} (h:l[i]? = some a):(natsD l)[i]? = some (.int a):=by unfold natsD; rw [List.getElem?_map,h]; rfl
theorem natsD_len (l:List Nat):(natsD l).length=l.length:=List.length_map _
theorem pick_nats (l:List Nat) (i n:Nat) (h:i+n<=l.length):pickD (natsD l) (some i) (some (i+n:Nat))=natsD ((l.drop i).take n):=by
 rw [pick_ij (natsD l) i (i+n) (by rw [natsD_len]; omega) (by rw [natsD_len]; omega),Nat.add_sub_cancel_left]
 unfold natsD
 rw [List.map_take,List.map_drop]
theorem pa_test {ks:List Nat} {i a:Nat} {A B:List D} (h:ks[i]? = some a) (hi:i < 100000) (b:Bool) (hb:decide ((a:Int)=0)=b):TTr prog w (KK w) bt (k+1) (ph w "_law_parted") (whTest (paW w)) ⟨Vp ks nx i,[],paM m nx A B,nx+2⟩ (!b) ⟨Vp ks nx i,[],paM m nx A B,nx+2⟩:=by
 induction b using Bool.casesOn with
 | true=>exact TTr.runE 20 [(cx prog w (k+1) (paM m nx A B) (nx+2)).item (natsD ks) i i (.int a) rfl (natsD_get h) (by omega),.call (CodeTr.call (iseof_tr (prog:=prog) (w:=w) (k:=k) (m:=paM m nx A B) (nx:=nx+2) a)),.br _ true hb] (by kernel_rfl)
 | false=>exact TTr.runE 20 [(cx prog w (k+1) (paM m nx A B) (nx+2)).item (natsD ks) i i (.int a) rfl (natsD_get h) (by omega),.call (CodeTr.call (iseof_tr (prog:=prog) (w:=w) (k:=k) (m:=paM m nx A B) (nx:=nx+2) a)),.br _ false hb] (by kernel_rfl)
theorem pa_loop (o:Nat) (ho:o < 256) (ho0:o ≠ 0) (ks:List Nat) (hks:ks.length<=10000):∀ (ts:List T4) (es:List E2) (pre:List Nat) (A B:List D),ks=pre ++ (encT ts ++ (encE o es ++ [0]))->(∀ t ∈ ts,256<=t.1)->A.length+ts.length<=1000->B.length+es.length<=1000 ->
  WhTr prog w (KK w) bt (k+1) (ph w "_law_parted") (whTest (paW w)) (forBody (paW w)) (ts.length+es.length) ⟨Vp ks nx pre.length,[],paM m nx A B,nx+2⟩ .next ⟨Vp ks nx (ks.length - 1),[],paM m nx (A ++ ts.map tL) (B ++ es.map eL),nx+2⟩:=by
 intro ts
 induction ts with
 | nil=>
  intro es
  induction es with
  | nil=>
   intro pre A B hk _ _ _
   have h0:ks[pre.length]? = some 0:=by rw [hk]; simp [encT,encE]
   have hl:ks.length - 1=pre.length:=by rw [hk]; simp [encT,encE]
   rw [hl,List.map_nil,List.append_nil,List.map_nil,List.append_nil]
   exact .done (pa_test h0 (by omega) true rfl)
  | cons e es ih=>
   intro pre A B hk h1 h2 h3
   rw [List.length_cons] at h3
   have h0:ks[pre.length]? = some o:=by rw [hk]; simp [encT,encE]
   have hlen:pre.length+3<=ks.length:=by rw [hk]; simp [encT,encE]
   have hp:pickD (natsD ks) (some (pre.length+1:Nat)) (some (pre.length+1+2:Nat))=natsD [e.1,e.2]:=by
    rw [pick_nats ks (pre.length+1) 2 (by omega),hk,<- List.drop_drop,List.drop_left]
    simp [encT,encE]
   have ih':=ih (pre ++ [o,e.1,e.2]) A (B ++ [eL e]) (by rw [hk]; simp [encT,encE]) h1 h2 (by simp; omega)
   have el:(pre ++ [o,e.1,e.2]).length=pre.length+3:=by simp
   rw [el] at ih'
   have eb:B ++ (e :: es).map eL=B ++ [eL e] ++ es.map eL:=by simp
   rw [eb]
   have b:BTr prog w (KK w) bt (k+1) (ph w "_law_parted") (forBody (paW w)) ⟨Vp ks nx pre.length,[],paM m nx A B,nx+2⟩ .next ⟨Vp ks nx (pre.length+3),[],paM m nx A (B ++ [eL e]),nx+2⟩:=by
    generalize ha9:pre.length=a at h0 hlen hp ⊢
    have ha:=ha9.symm
    clear ha9
    have hb:(paM m nx A B) (nx+1)=.list B:=upd_at _ _ _
    have sl:SliceTr prog w (KK w) bt (k+1) (.d (.lst (natsD ks))) (.d (.int ((a:Int)+1))) (.d (.int ((a:Int)+3))) (paM m nx A B) (nx+2) (.d (eL e)) (paM m nx A B) (nx+2):=by
     have:=s_lst (prog:=prog) (w:=w) (K:=KK w) (btab:=bt) (k:=k+1) (m:=paM m nx A B) (nx:=nx+2) (a:=.d (.lst (natsD ks))) (l:=.d (.int ((a:Int)+1))) (u:=.d (.int ((a:Int)+3))) (ds:=natsD ks) (lo:=some ((a+1:Nat):Int)) (hi:=some ((a+1+2:Nat):Int)) rfl trivial rfl rfl (by rw [natsD_len]; omega)
     rw [hp] at this
     exact this
    exact BTr.runS 60 [(cx prog w (k+1) (paM m nx A B) (nx+2)).item (natsD ks) a a (.int o) rfl (natsD_get h0) (by omega),.call (CodeTr.call (isterm_tr (prog:=prog) (w:=w) (k:=k) (m:=paM m nx A B) (nx:=nx+2) o)),.brT ((o:Int) < 256) (by omega),
     (cx prog w (k+1) (paM m nx A B) (nx+2)).mAppend (.loc (nx+1)) B ⟨by show nx+1 < nx+2; omega,hb⟩ trivial,.slice sl,
     (cx prog w (k+1) (paM m nx A B) (nx+2)).cAppend (nx+1) B (eL e) (by show nx+1 < nx+2; omega) hb (by omega) (paM m nx A (B ++ [eL e])) (upd_same _ _ _ _)] (by kernel_rfl)
   exact .step (pa_test h0 (by omega) false (decide_eq_false (by omega))) b (.inl rfl) ih'
 | cons t ts ih=>
  intro es pre A B hk h1 h2 h3
  rw [List.length_cons] at h2
  have h0:ks[pre.length]? = some t.1:=by rw [hk]; simp [encT]
  have hlen:pre.length+4<=ks.length:=by rw [hk]; simp [encT]
  have ht:=h1 t (List.mem_cons_self ..)
  have hp:pickD (natsD ks) (some (pre.length:Nat)) (some (pre.length+4:Nat))=natsD [t.1,t.2.1,t.2.2.1,t.2.2.2]:=by
   rw [pick_nats ks pre.length 4 (by omega),hk,List.drop_left]
   simp [encT]
  have ih':=ih es (pre ++ [t.1,t.2.1,t.2.2.1,t.2.2.2]) (A ++ [tL t]) B (by rw [hk]; simp [encT]) (fun y hy=>h1 y (List.mem_cons_of_mem _ hy)) (by simp; omega) h3
  have el:(pre ++ [t.1,t.2.1,t.2.2.1,t.2.2.2]).length=pre.length+4:=by simp
  rw [el] at ih'
  have eb:A ++ (t :: ts).map tL=A ++ [tL t] ++ ts.map tL:=by simp
  have en:(t :: ts).length+es.length=ts.length+es.length+1:=by simp; omega
  rw [eb,en]
  have b:BTr prog w (KK w) bt (k+1) (ph w "_law_parted") (forBody (paW w)) ⟨Vp ks nx pre.length,[],paM m nx A B,nx+2⟩ .next ⟨Vp ks nx (pre.length+4),[],paM m nx (A ++ [tL t]) B,nx+2⟩:=by
   generalize ha9:pre.length=a at h0 hlen hp ⊢
   have ha:=ha9.symm
   clear ha9
   have hb:(paM m nx A B) nx=.list A:=(upd_ne _ _ _ (by omega)).trans (upd_at _ _ _)
   have sl:SliceTr prog w (KK w) bt (k+1) (.d (.lst (natsD ks))) (.d (.int (a:Int))) (.d (.int ((a:Int)+4))) (paM m nx A B) (nx+2) (.d (tL t)) (paM m nx A B) (nx+2):=by
    have:=s_lst (prog:=prog) (w:=w) (K:=KK w) (btab:=bt) (k:=k+1) (m:=paM m nx A B) (nx:=nx+2) (a:=.d (.lst (natsD ks))) (l:=.d (.int (a:Int))) (u:=.d (.int ((a:Int)+4))) (ds:=natsD ks) (lo:=some (a:Int)) (hi:=some ((a+4:Nat):Int)) rfl trivial rfl rfl (by rw [natsD_len]; omega)
    rw [hp] at this
    exact this
   exact BTr.runS 60 [(cx prog w (k+1) (paM m nx A B) (nx+2)).item (natsD ks) a a (.int t.1) rfl (natsD_get h0) (by omega),.call (CodeTr.call (isterm_tr (prog:=prog) (w:=w) (k:=k) (m:=paM m nx A B) (nx:=nx+2) t.1)),.brF ((t.1:Int) < 256) (by omega),
    (cx prog w (k+1) (paM m nx A B) (nx+2)).mAppend (.loc nx) A ⟨by show nx < nx+2; omega,hb⟩ trivial,.slice sl,
    (cx prog w (k+1) (paM m nx A B) (nx+2)).cAppend nx A (tL t) (by show nx < nx+2; omega) hb (by omega) (paM m nx (A ++ [tL t]) B) (by show upd (upd (upd m nx (.list A)) (nx+1) (.list B)) nx _=upd (upd m nx _) (nx+1) _; rw [upd_comm _ (by omega),upd_same])] (by kernel_rfl)
  exact .step (pa_test h0 (by omega) false (decide_eq_false (by omega))) b (.inl rfl) ih'
noncomputable def tsD (l:List T4):List D:=l.map tL
noncomputable def esD (l:List E2):List D:=l.map eL
theorem parted_tr (o:Nat) (ho:o < 256) (ho0:o ≠ 0) (ts:List T4) (es:List E2) (ht:∀ t ∈ ts,256<=t.1) (h1:ts.length<=1000) (h2:es.length<=1000) (hz:(encT ts ++ (encE o es ++ [0])).length<=10000) :
  CallTr prog w (KK w) bt (k+2) (fn w "_law_parted") [.d (.lst (natsD (encT ts ++ (encE o es ++ [0]))))] [] m nx (.d (.tup [.lst (tsD ts),.lst (esD es)])) m nx:=by
 have loop:=pa_loop (prog:=prog) (w:=w) (k:=k) (m:=m) (nx:=nx) o ho ho0 _ hz ts es [] [] [] rfl ht (by simpa using h1) (by simpa using h2)
 have st:=STr.while_ (c:=paW w) (by kernel_rfl) loop
 obtain ⟨ks,hks⟩ : ∃ y,y=encT ts ++ (encE o es ++ [0]):=⟨_,rfl⟩
 rw [List.nil_append,List.nil_append] at st
 have eA:ts.map tL=tsD ts:=rfl
 have eB:es.map eL=esD es:=rfl
 rw [eA,eB,<- hks] at st
 have la:(tsD ts).length<=1000:=by unfold tsD; rw [List.length_map]; exact h1
 have lb:(esD es).length<=1000:=by unfold esD; rw [List.length_map]; exact h2
 obtain ⟨A,hA⟩ : ∃ y,y=tsD ts:=⟨_,rfl⟩
 obtain ⟨B,hB⟩ : ∃ y,y=esD es:=⟨_,rfl⟩
 rw [<- hks,<- hA,<- hB]
 rw [<- hA,<- hB] at st
 have h:CodeTr prog w (KK w) bt (k+2) (fn w "_law_parted") [.d (.lst (natsD ks))] [] m nx (.d (.tup [.lst A,.lst B])) (upd (upd (paM m nx A B) nx .junk) (nx+1) .junk) (nx+2):=
  codeA (fa w "_law_parted") ["kinds"] [.d (.lst (natsD ks))] (.ret (.d (.tup [.lst A,.lst B]))) (upd (upd (paM m nx A B) nx .junk) (nx+1) .junk) (nx+2) [] [.lst [] true (by decide),.lst [] true (by decide),.stm st,
   .fz (paM m nx A B) (nx+2) nx A ((upd_ne _ _ _ (by omega)).trans (upd_at _ _ _)) (by omega),.fz (upd (paM m nx A B) nx .junk) (nx+2) (nx+1) B ((upd_ne _ _ _ (by omega)).trans (upd_at _ _ _)) (by omega),.tup [.lst A,.lst B] (show 2<=1000 by decide)] (by kernel_rfl) (bindq1 fun S a=>by kernel_rfl) rfl (by kernel_rfl)
 refine (h.call).low (.same (by omega) fun i hi=>?_) (.d _)
 rw [upd_ne _ _ _ (by omega),upd_ne _ _ _ (by omega)]
 show upd (upd m nx (.list A)) (nx+1) (.list B) i=m i
 rw [upd_ne _ _ _ (by omega),upd_ne _ _ _ (by omega)]
end
end
section
section
variable {prog:Program} {w:World} {k:Nat} {m:Nat->MO} {nx:Nat}
noncomputable abbrev blW (w:World):Stmt:=nthS (ifE (nthS (bd w "bisect_left") 2)) 0
noncomputable abbrev brW (w:World):Stmt:=nthS (ifE (nthS (bd w "bisect_right") 2)) 0
noncomputable def Vb (a key:AV) (x:Int) (lo hi:Nat):List (Str × AV):=[("a",a),("x",.d (.int x)),("lo",.d (.int lo)),("hi",.d (.int hi)),("key",key)]
noncomputable def KeyOk (prog:Program) (w:World) (k:Nat) (m:Nat->MO) (nx:Nat) (key:AV) (row:List Int) (f:Int->Int):Prop:=((Ex4 fun ps e sc caps=>key=.fn ps e sc caps)) /\ ∀ y ∈ row,CallTr prog w (KK w) bt k key [.d (.int y)] [] m nx (.d (.int (f y))) m nx
theorem row_get {row:List Int} {i:Nat} (h:i < row.length):(row.map D.int)[i]? = some (.int (row.getD i 0)):=by simp [List.getElem?_eq_getElem h]
theorem row_mem {row:List Int} {i:Nat} (h:i < row.length):row.getD i 0 ∈ row:=by rw [List.getD_eq_getElem?_getD,List.getElem?_eq_getElem h]; simp
section
variable {lo hi c N n:Nat}
theorem bs1 (hN:hi - lo<=0) (a:lo<=c) (b:c<=hi):lo=c:=Nat.le_antisymm a (Nat.le_trans b (Nat.le_of_sub_eq_zero (Nat.le_zero.mp hN)))
theorem bs2 (hN:hi - lo<=0) (a:lo<=c) (b:c<=hi):hi=c:=Nat.le_antisymm (Nat.le_trans (Nat.le_of_sub_eq_zero (Nat.le_zero.mp hN)) a) b
theorem bs3 (h:¬ lo < hi) (a:lo<=c) (b:c<=hi):lo=c:=Nat.le_antisymm a (Nat.le_trans b (Nat.le_of_not_lt h))
theorem bs4 (h:¬ lo < hi) (a:lo<=c) (b:c<=hi):hi=c:=Nat.le_antisymm (Nat.le_trans (Nat.le_of_not_lt h) a) b
theorem bs5:((lo:Int)+hi) / 2=((lo+hi) / 2:Nat):=by omega
theorem bs6 (h:lo < hi) (l:hi<=n):(lo+hi) / 2 < n:=by omega
theorem bs7 (h:lo < hi) (hN:hi - lo<=N+1):hi - ((lo+hi) / 2+1)<=N:=by omega
theorem bs8 (h:lo < hi) (hN:hi - lo<=N+1):(lo+hi) / 2 - lo<=N:=by omega
end
theorem bl_loop {a key:AV} {row:List Int} {f:Int->Int} {x:Int} (hs:DSrc m nx a (row.map D.int)) (hl:isLst a) (K:KeyOk prog w k m nx key row f) (hz:row.length<=1000) (c:Nat) (hc:c<=row.length) (h1:∀ i,i < c->f (row.getD i 0) < x) (h2:∀ i,c<=i->i < row.length->¬ f (row.getD i 0) < x) :
  ∀ (N lo hi:Nat),hi - lo<=N->lo<=c->c<=hi->hi<=row.length->WhTr prog w (KK w) bt k (ph w "bisect_left") (whTest (blW w)) (forBody (blW w)) N ⟨Vb a key x lo hi,[],m,nx⟩ .next ⟨Vb a key x c c,[],m,nx⟩:=by
 obtain ⟨⟨ps,e,sc,caps,rfl⟩,K⟩:=K
 intro N
 induction N with
 | zero=>
  intro lo hi hN hlo hhi hle
  rw [bs1 hN hlo hhi,bs2 hN hlo hhi]
  exact .done (TTr.runE 20 [.brF ((c:Int) < (c:Int)) (Int.lt_irrefl _)] (by kernel_rfl))
 | succ N ih=>
  intro lo hi hN hlo hhi hle
  by_cases hlt:lo < hi
  ·have test:TTr prog w (KK w) bt k (ph w "bisect_left") (whTest (blW w)) ⟨Vb a (.fn ps e sc caps) x lo hi,[],m,nx⟩ true ⟨Vb a (.fn ps e sc caps) x lo hi,[],m,nx⟩:=TTr.runE 20 [.brT ((lo:Int) < (hi:Int)) (by omega)] (by kernel_rfl)
   obtain ⟨mid,hmid⟩ : ∃ y,y=(lo+hi) / 2:=⟨_,rfl⟩
   have hm:mid < row.length:=hmid ▸ bs6 hlt hle
   have em:((lo:Int)+hi) / 2=(mid:Int):=hmid ▸ bs5
   have kc:=K _ (row_mem hm)
   by_cases hp:f (row.getD mid 0) < x
   ·have hmc:mid < c:=by
     rcases Nat.lt_or_ge mid c with h | h
     ·exact h
     ·exact absurd hp (h2 mid h hm)
    have b:BTr prog w (KK w) bt k (ph w "bisect_left") (forBody (blW w)) ⟨Vb a (.fn ps e sc caps) x lo hi,[],m,nx⟩ .next ⟨Vb a (.fn ps e sc caps) x (mid+1) hi,[],m,nx⟩:=by
     subst hmid
     exact BTr.runS 40 [.obl (show (0:Int) < 2 /\ (2:Int) < 1073741824 by decide),(cx prog w k m nx).itemL a (row.map D.int) (((lo:Int)+hi) / 2) ((lo+hi) / 2) (.int (row.getD ((lo+hi) / 2) 0)) em hs hl (row_get hm) (lc1 hm hz (by decide)),.call kc,.brT (f (row.getD ((lo+hi) / 2) 0) < x) hp] (by kernel_rfl)
    exact .step test b (.inl rfl) (ih (mid+1) hi (hmid ▸ bs7 hlt hN) hmc hhi hle)
   ·have hmc:c<=mid:=by
     rcases Nat.lt_or_ge mid c with h | h
     ·exact absurd (h1 mid h) hp
     ·exact h
    have b:BTr prog w (KK w) bt k (ph w "bisect_left") (forBody (blW w)) ⟨Vb a (.fn ps e sc caps) x lo hi,[],m,nx⟩ .next ⟨Vb a (.fn ps e sc caps) x lo mid,[],m,nx⟩:=by
     subst hmid
     exact BTr.runS 40 [.obl (show (0:Int) < 2 /\ (2:Int) < 1073741824 by decide),(cx prog w k m nx).itemL a (row.map D.int) (((lo:Int)+hi) / 2) ((lo+hi) / 2) (.int (row.getD ((lo+hi) / 2) 0)) em hs hl (row_get hm) (lc1 hm hz (by decide)),.call kc,.brF (f (row.getD ((lo+hi) / 2) 0) < x) hp] (by kernel_rfl)
    exact .step test b (.inl rfl) (ih lo mid (hmid ▸ bs8 hlt hN) hlo hmc (Nat.le_of_lt hm))
  ·rw [bs3 hlt hlo hhi,bs4 hlt hlo hhi]
   exact .done (TTr.runE 20 [.brF ((c:Int) < (c:Int)) (Int.lt_irrefl _)] (by kernel_rfl))
theorem br_loop {a key:AV} {row:List Int} {f:Int->Int} {x:Int} (hs:DSrc m nx a (row.map D.int)) (hl:isLst a) (K:KeyOk prog w k m nx key row f) (hz:row.length<=1000) (c:Nat) (hc:c<=row.length) (h1:∀ i,i < c->¬ x < f (row.getD i 0)) (h2:∀ i,c<=i->i < row.length->x < f (row.getD i 0)) :
  ∀ (N lo hi:Nat),hi - lo<=N->lo<=c->c<=hi->hi<=row.length->WhTr prog w (KK w) bt k (ph w "bisect_right") (whTest (brW w)) (forBody (brW w)) N ⟨Vb a key x lo hi,[],m,nx⟩ .next ⟨Vb a key x c c,[],m,nx⟩:=by
 obtain ⟨⟨ps,e,sc,caps,rfl⟩,K⟩:=K
 intro N
 induction N with
 | zero=>
  intro lo hi hN hlo hhi hle
  rw [bs1 hN hlo hhi,bs2 hN hlo hhi]
  exact .done (TTr.runE 20 [.brF ((c:Int) < (c:Int)) (Int.lt_irrefl _)] (by kernel_rfl))
 | succ N ih=>
  intro lo hi hN hlo hhi hle
  by_cases hlt:lo < hi
  ·have test:TTr prog w (KK w) bt k (ph w "bisect_right") (whTest (brW w)) ⟨Vb a (.fn ps e sc caps) x lo hi,[],m,nx⟩ true ⟨Vb a (.fn ps e sc caps) x lo hi,[],m,nx⟩:=TTr.runE 20 [.brT ((lo:Int) < (hi:Int)) (by omega)] (by kernel_rfl)
   obtain ⟨mid,hmid⟩ : ∃ y,y=(lo+hi) / 2:=⟨_,rfl⟩
   have hm:mid < row.length:=hmid ▸ bs6 hlt hle
   have em:((lo:Int)+hi) / 2=(mid:Int):=hmid ▸ bs5
   have kc:=K _ (row_mem hm)
   by_cases hp:x < f (row.getD mid 0)
   ·have hmc:c<=mid:=by
     rcases Nat.lt_or_ge mid c with h | h
     ·exact absurd hp (h1 mid h)
     ·exact h
    have b:BTr prog w (KK w) bt k (ph w "bisect_right") (forBody (brW w)) ⟨Vb a (.fn ps e sc caps) x lo hi,[],m,nx⟩ .next ⟨Vb a (.fn ps e sc caps) x lo mid,[],m,nx⟩:=by
     subst hmid
     exact BTr.runS 40 [.obl (show (0:Int) < 2 /\ (2:Int) < 1073741824 by decide),(cx prog w k m nx).itemL a (row.map D.int) (((lo:Int)+hi) / 2) ((lo+hi) / 2) (.int (row.getD ((lo+hi) / 2) 0)) em hs hl (row_get hm) (lc1 hm hz (by decide)),.call kc,.brT (x < f (row.getD ((lo+hi) / 2) 0)) hp] (by kernel_rfl)
    exact .step test b (.inl rfl) (ih lo mid (hmid ▸ bs8 hlt hN) hlo hmc (Nat.le_of_lt hm))
   ·have hmc:mid < c:=by
     rcases Nat.lt_or_ge mid c with h | h
     ·exact h
     ·exact absurd (h2 mid h hm) hp
    have b:BTr prog w (KK w) bt k (ph w "bisect_right") (forBody (brW w)) ⟨Vb a (.fn ps e sc caps) x lo hi,[],m,nx⟩ .next ⟨Vb a (.fn ps e sc caps) x (mid+1) hi,[],m,nx⟩:=by
     subst hmid
     exact BTr.runS 40 [.obl (show (0:Int) < 2 /\ (2:Int) < 1073741824 by decide),(cx prog w k m nx).itemL a (row.map D.int) (((lo:Int)+hi) / 2) ((lo+hi) / 2) (.int (row.getD ((lo+hi) / 2) 0)) em hs hl (row_get hm) (lc1 hm hz (by decide)),.call kc,.brF (x < f (row.getD ((lo+hi) / 2) 0)) hp] (by kernel_rfl)
    exact .step test b (.inl rfl) (ih (mid+1) hi (hmid ▸ bs7 hlt hN) hmc hhi hle)
  ·rw [bs3 hlt hlo hhi,bs4 hlt hlo hhi]
   exact .done (TTr.runE 20 [.brF ((c:Int) < (c:Int)) (Int.lt_irrefl _)] (by kernel_rfl))
theorem bl_tr {a key:AV} {row:List Int} {f:Int->Int} {x:Int} (hs:DSrc m nx a (row.map D.int)) (hl:isLst a) (K:KeyOk prog w k m nx key row f) (hz:row.length<=1000) (c:Nat) (hc:c<=row.length) (h1:∀ i,i < c->f (row.getD i 0) < x) (h2:∀ i,c<=i->i < row.length->¬ f (row.getD i 0) < x) :
  CodeTr prog w (KK w) bt (k+1) (fn w "bisect_left") [a,.d (.int x)] [("key",key)] m nx (.d (.int c)) m nx:=by
 have st:=STr.while_ (c:=blW w) (by kernel_rfl) (bl_loop hs hl K hz c hc h1 h2 row.length 0 row.length (by omega) (Nat.zero_le _) hc (Nat.le_refl _))
 obtain ⟨⟨ps,e,sc,caps,rfl⟩,K⟩:=K
 have hlen:(row.map D.int).length=row.length:=List.length_map _
 have ln:=c_len (prog:=prog) (w:=w) (K:=KK w) (btab:=bt) (k:=k) hs hl (by rw [hlen]; omega)
 rw [hlen] at ln
 exact codeD [("a",a),("x",.d (.int x)),("lo",.d (.int 0)),("hi",.d .none),("key",.fn ps e sc caps)] (.ret (.d (.int c))) m nx [] [.brF ((0:Int) < 0) (by decide),(cx prog w k m nx).isNone (.d .none) true rfl,.br true true rfl,.call ln,
  (cx prog w k m nx).isNone (.fn ps e sc caps) false rfl,.br false false rfl,.stm st] (by kernel_rfl) (bindqk fun S a b c=>by kernel_rfl) (by kernel_rfl) (by kernel_rfl) (by kernel_rfl) (by kernel_rfl)
theorem br_tr {a key:AV} {row:List Int} {f:Int->Int} {x:Int} (hs:DSrc m nx a (row.map D.int)) (hl:isLst a) (K:KeyOk prog w k m nx key row f) (hz:row.length<=1000) (c:Nat) (hc:c<=row.length) (h1:∀ i,i < c->¬ x < f (row.getD i 0)) (h2:∀ i,c<=i->i < row.length->x < f (row.getD i 0)) :
  CodeTr prog w (KK w) bt (k+1) (fn w "bisect_right") [a,.d (.int x)] [("key",key)] m nx (.d (.int c)) m nx:=by
 have st:=STr.while_ (c:=brW w) (by kernel_rfl) (br_loop hs hl K hz c hc h1 h2 row.length 0 row.length (by omega) (Nat.zero_le _) hc (Nat.le_refl _))
 obtain ⟨⟨ps,e,sc,caps,rfl⟩,K⟩:=K
 have hlen:(row.map D.int).length=row.length:=List.length_map _
 have ln:=c_len (prog:=prog) (w:=w) (K:=KK w) (btab:=bt) (k:=k) hs hl (by rw [hlen]; omega)
 rw [hlen] at ln
 exact codeD [("a",a),("x",.d (.int x)),("lo",.d (.int 0)),("hi",.d .none),("key",.fn ps e sc caps)] (.ret (.d (.int c))) m nx [] [.brF ((0:Int) < 0) (by decide),(cx prog w k m nx).isNone (.d .none) true rfl,.br true true rfl,.call ln,
  (cx prog w k m nx).isNone (.fn ps e sc caps) false rfl,.br false false rfl,.stm st] (by kernel_rfl) (bindqk fun S a b c=>by kernel_rfl) (by kernel_rfl) (by kernel_rfl) (by kernel_rfl) (by kernel_rfl)
theorem br4_tr {a key:AV} {row:List Int} {f:Int->Int} {x:Int} (hs:DSrc m nx a (row.map D.int)) (hl:isLst a) (K:KeyOk prog w k m nx key row f) (hz:row.length<=1000) (c:Nat) (hc:c<=row.length) (h1:∀ i,i < c->¬ x < f (row.getD i 0)) (h2:∀ i,c<=i->i < row.length->x < f (row.getD i 0)) :
  CodeTr prog w (KK w) bt (k+1) (fn w "bisect_right") [a,.d (.int x),.d (.int 0),.d .none] [("key",key)] m nx (.d (.int c)) m nx:=by
 have st:=STr.while_ (c:=brW w) (by kernel_rfl) (br_loop hs hl K hz c hc h1 h2 row.length 0 row.length (by omega) (Nat.zero_le _) hc (Nat.le_refl _))
 obtain ⟨⟨ps,e,sc,caps,rfl⟩,K⟩:=K
 have hlen:(row.map D.int).length=row.length:=List.length_map _
 have ln:=c_len (prog:=prog) (w:=w) (K:=KK w) (btab:=bt) (k:=k) hs hl (by rw [hlen]; omega)
 rw [hlen] at ln
 exact codeD [("a",a),("x",.d (.int x)),("lo",.d (.int 0)),("hi",.d .none),("key",.fn ps e sc caps)] (.ret (.d (.int c))) m nx [] [.brF ((0:Int) < 0) (by decide),(cx prog w k m nx).isNone (.d .none) true rfl,.br true true rfl,.call ln,
  (cx prog w k m nx).isNone (.fn ps e sc caps) false rfl,.br false false rfl,.stm st] (by kernel_rfl) (bindq4k fun S a b c d e=>by kernel_rfl) (by kernel_rfl) (by kernel_rfl) (by kernel_rfl) (by kernel_rfl)
theorem ir_tr {r:Nat} {key:AV} {row:List Int} {f:Int->Int} {y:Int} (hr:r < nx) (hm:m r=.list (row.map D.int)) (K:KeyOk prog w k m nx key row f) (K1:CallTr prog w (KK w) bt (k+1) key [.d (.int y)] [] m nx (.d (.int (f y))) m nx) (hz:row.length<=1000) (c:Nat) (hc:c<=row.length) (h1:∀ i,i < c->¬ f y < f (row.getD i 0)) (h2:∀ i,c<=i->i < row.length->f y < f (row.getD i 0)) :
  CodeTr prog w (KK w) bt (k+2) (fn w "insort_right") [.loc r,.d (.int y)] [("key",key)] m nx (.d .none) (upd m r (.list ((row.take c ++ y :: row.drop c).map D.int))) nx:=by
 have br:=br4_tr (prog:=prog) (w:=w) (k:=k) (a:=.loc r) (x:=f y) ⟨hr,hm⟩ trivial K hz c hc h1 h2
 obtain ⟨⟨ps,e,sc,caps,rfl⟩,K⟩:=K
 have es:row.map D.int=(row.take c).map D.int ++ (row.drop c).map D.int:=by rw [<- List.map_append,List.take_append_drop]
 have el:((row.take c).map D.int).length=c:=by rw [List.length_map,List.length_take]; omega
 have em:upd m r (.list ((row.take c).map D.int ++ .int y :: (row.drop c).map D.int))=upd m r (.list ((row.take c ++ y :: row.drop c).map D.int)):=by rw [List.map_append,List.map_cons]
 exact codeD [("a",.loc r),("x",.d (.int y)),("lo",.d (.int 0)),("hi",.d .none),("key",.fn ps e sc caps)] .next (upd m r (.list ((row.take c ++ y :: row.drop c).map D.int))) nx [] [(cx prog w (k+1) m nx).isNone (.fn ps e sc caps) false rfl,.br false false rfl,.call K1,.call br.call,
  (cx prog w (k+1) m nx).mInsert (.loc r) (row.map D.int) ⟨hr,hm⟩ trivial,(cx prog w (k+1) m nx).cInsert r c ((row.take c).map D.int) ((row.drop c).map D.int) (.int y) (by rw [el]) hr (by rw [<- es]; exact hm) (by rw [el,List.length_map,List.length_drop]; omega) _ em] (by kernel_rfl) (bindqk fun S a b c=>by kernel_rfl) (by kernel_rfl) (by kernel_rfl) (by kernel_rfl) (by kernel_rfl)
end
end
theorem lowerOf_low:((List.range 33).all fun i=>Unicode.lowerOf (i+32) == [i+32])=true:=by kernel_rfl
theorem lower_id {x:Str} (h:∀ c ∈ x.cps.toList,32<=c /\ c<=64):Txt.lower x=x:=by
 have e:(x.cps.mapIdx fun i _=>(Unicode.lowerAt x.cps i).toArray)=x.cps.map fun c=>#[c]:=by
  apply Array.ext
  ·simp
  ·intro i h1 h2
   simp only [Array.getElem_mapIdx,Array.getElem_map]
   have hi:i < x.cps.size:=by simpa using h1
   obtain ⟨c1,c2⟩:=h x.cps[i] (by simp)
   have hl:=List.all_eq_true.mp lowerOf_low (x.cps[i] - 32) (List.mem_range.mpr (by omega))
   rw [show x.cps[i] - 32+32=x.cps[i] by omega] at hl
   unfold Unicode.lowerAt
   rw [Array.getElem?_eq_getElem hi]
   dsimp only
   have:(x.cps[i] == 0x3A3)=false:=by
    cases q:x.cps[i] == 0x3A3 with
    | false=>rfl
    | true=>have:=eq_of_beq q; omega
   rw [this,Bool.false_and,if_neg Bool.false_ne_true,eq_of_beq hl]
 have e2:(x.cps.map fun c=>#[c]).flatten=x.cps:=by
  apply Array.ext'
  rw [Array.toList_flatten,Array.toList_map,List.map_map]
  generalize x.cps.toList=l
  induction l with
  | nil=>rfl
  | cons a l ih=>simpa using ih
 show (⟨(x.cps.mapIdx fun i _=>(Unicode.lowerAt x.cps i).toArray).flatten⟩ : Str)=x
 rw [e,e2]
theorem dec_inj {a b:Nat} (ha:a < 600) (hb:b < 600) (h:decS a=decS b):a=b:=by
 have h1:=(dec_ok ha).1
 have h2:=(dec_ok hb).1
 rw [h,h2] at h1
 have:=Option.some.inj h1
 omega
theorem dec3:((List.range 500).all fun i=>(decS (i+100)).length == 3)=true:=by kernel_rfl
theorem dec_len3 {a:Nat} (h1:100<=a) (h2:a < 600):(decS a).cps.toList.length=3:=by
 have:=List.all_eq_true.mp dec3 (a - 100) (List.mem_range.mpr (by omega))
 rw [show a - 100+100=a by omega] at this
 rw [Array.length_toList]
 exact eq_of_beq this
noncomputable def sigS (k a b:Nat):Str:=Txt.join " " [decS k,decS a,decS b]
theorem sp_cps:(" " : Str).cps = #[32]:=by decide +kernel
theorem sig_cps (k a b:Nat):(sigS k a b).cps.toList=(decS k).cps.toList ++ (32 :: ((decS a).cps.toList ++ (32 :: (decS b).cps.toList))):=by
 show (((decS k).cps ++ (" " : Str).cps ++ (decS a).cps) ++ (" " : Str).cps ++ (decS b).cps).toList=_
 rw [sp_cps]
 simp
theorem str_ext {a b:Str} (h:a.cps.toList=b.cps.toList):a=b:=by
 obtain ⟨a⟩:=a
 obtain ⟨b⟩:=b
 have:a=b:=Array.ext' h
 rw [this]
theorem sig_inj {k a b k' a' b':Nat} (hk:k < 600) (hk':k' < 600) (ha:100<=a /\ a < 600) (hb:100<=b /\ b < 600) (ha':100<=a' /\ a' < 600) (hb':100<=b' /\ b' < 600) (h:sigS k a b=sigS k' a' b'):k=k' /\ a=a' /\ b=b':=by
 have e:(sigS k a b).cps.toList=(sigS k' a' b').cps.toList:=by rw [h]
 rw [sig_cps,sig_cps] at e
 have l1:=dec_len3 ha.1 ha.2
 have l2:=dec_len3 hb.1 hb.2
 have l1':=dec_len3 ha'.1 ha'.2
 have l2':=dec_len3 hb'.1 hb'.2
 obtain ⟨e1,e2⟩:=List.append_inj' e (by simp [l1,l2,l1',l2'])
 obtain ⟨-,e3⟩:=List.cons.inj e2
 obtain ⟨e4,e5⟩:=List.append_inj e3 (by rw [l1,l1'])
 obtain ⟨-,e6⟩:=List.cons.inj e5
 exact ⟨dec_inj hk hk' (str_ext e1),dec_inj ha.2 ha'.2 (str_ext e4),dec_inj hb.2 hb'.2 (str_ext e6)⟩
theorem sig_chars {k a b:Nat} (hk:k < 600) (ha:a < 600) (hb:b < 600):∀ c ∈ (sigS k a b).cps.toList,32<=c /\ c<=57:=by
 intro c hc
 rw [sig_cps] at hc
 simp only [List.mem_append,List.mem_cons] at hc
 rcases hc with hc | rfl | hc | rfl | hc
 ·have:=(dec_ok hk).2.1 c hc; omega
 ·omega
 ·have:=(dec_ok ha).2.1 c hc; omega
 ·omega
 ·have:=(dec_ok hb).2.1 c hc; omega
theorem sig_lower {k a b:Nat} (hk:k < 600) (ha:a < 600) (hb:b < 600):Txt.lower (sigS k a b)=sigS k a b:=lower_id fun c hc=>by have:=sig_chars hk ha hb c hc; omega
theorem sig_prn {k a b:Nat} (hk:k < 600) (ha:a < 600) (hb:b < 600):Prn (sigS k a b):=fun c hc=>by have:=sig_chars hk ha hb c hc; omega
theorem sig_len {k a b:Nat} (hk:k < 600) (ha:a < 600) (hb:b < 600):(sigS k a b).length<=11:=by
 have e:(sigS k a b).length=(sigS k a b).cps.toList.length:=by rw [Array.length_toList]; rfl
 rw [e,sig_cps]
 have h1:(decS k).cps.toList.length<=3:=by rw [Array.length_toList]; exact (dec_ok hk).2.2.1
 have h2:(decS a).cps.toList.length<=3:=by rw [Array.length_toList]; exact (dec_ok ha).2.2.1
 have h3:(decS b).cps.toList.length<=3:=by rw [Array.length_toList]; exact (dec_ok hb).2.2.1
 simp only [List.length_append,List.length_cons]
 omega
noncomputable abbrev Tbl:=List ((Nat × Nat × Nat) × Nat)
noncomputable def tblKv (T:Tbl):List (Str × Str):=T.map fun e=>(sigS e.1.1 e.1.2.1 e.1.2.2,decS e.2)
noncomputable def SgOk (s:Nat × Nat × Nat):Prop:=s.1 < 600 /\ (100<=s.2.1 /\ s.2.1 < 600) /\ (100<=s.2.2 /\ s.2.2 < 600)
noncomputable def TblOk (T:Tbl):Prop:=∀ e ∈ T,SgOk e.1 /\ 256<=e.2 /\ e.2 < 600
theorem tbl_get {T:Tbl} (hT:TblOk T) {s:Nat × Nat × Nat} (hs:SgOk s):getF (tblKv T) (sigS s.1 s.2.1 s.2.2)=(T.lookup s).map decS:=by
 induction T with
 | nil=>rfl
 | cons e T ih=>
  obtain ⟨he,-⟩:=hT e (List.mem_cons_self ..)
  have ih:=ih fun y hy=>hT y (List.mem_cons_of_mem _ hy)
  unfold getF tblKv at ih ⊢
  rw [List.map_cons,List.find?_cons,List.lookup_cons]
  have l1:=sig_lower he.1 he.2.1.2 he.2.2.2
  have l2:=sig_lower hs.1 hs.2.1.2 hs.2.2.2
  dsimp only
  rw [l1,l2] at ⊢
  by_cases q:s=e.1
  ·subst q
   simp
  ·have hne:¬ sigS e.1.1 e.1.2.1 e.1.2.2=sigS s.1 s.2.1 s.2.2:=fun h=>q (by
    obtain ⟨a1,a2,a3⟩:=sig_inj he.1 hs.1 he.2.1 he.2.2 hs.2.1 hs.2.2 h
    obtain ⟨s1,s2,s3⟩:=s
    obtain ⟨⟨e1,e2,e3⟩,v⟩:=e
    simp only at a1 a2 a3
    rw [a1,a2,a3])
   rw [decide_eq_false hne,beq_false_of_ne q]
   rw [l2] at ih
   exact ih
noncomputable def hdFrom:Nat->List Nat->List (Int × D)
 | _,[]=>[]
 | i,v :: r=>((256+i:Nat),.int v) :: hdFrom (i+1) r
noncomputable def hdD (H:List Nat):List (Int × D):=hdFrom 0 H
noncomputable def hAt (H:List Nat) (a:Nat):Nat:=H.getD (a - 256) 0
theorem hdFrom_look:∀ (H:List Nat) (i j:Nat),j < H.length->(hdFrom i H).lookup ((256+(i+j):Nat):Int)=some (.int (H.getD j 0))
 | [],_,_,h=>absurd h (Nat.not_lt_zero _)
 | v :: r,i,0,_=>by
  show List.lookup _ ((((256+i:Nat):Int),D.int v) :: hdFrom (i+1) r)=_
  rw [List.lookup_cons,Nat.add_zero,beq_self_eq_true]
  rfl
 | v :: r,i,j+1,h=>by
  show List.lookup _ ((((256+i:Nat):Int),D.int v) :: hdFrom (i+1) r)=_
  have ne:((256+(i+(j+1)):Nat):Int) ≠ ((256+i:Nat):Int):=by omega
  rw [List.lookup_cons,beq_false_of_ne ne]
  have:=hdFrom_look r (i+1) j (by simpa using h)
  rw [show i+1+j=i+(j+1) by omega] at this
  rw [this]
  simp
theorem hd_look {H:List Nat} {a:Nat} (h1:256<=a) (h2:a < 256+H.length):(hdD H).lookup (a:Int)=some (.int (hAt H a)):=by
 have:=hdFrom_look H 0 (a - 256) (by omega)
 rw [show 256+(0+(a - 256))=a by omega] at this
 exact this
section
noncomputable abbrev Que:=List (Nat × Nat)
noncomputable def pairT (a b:Nat):Str:=decS a ++ " " ++ decS b
noncomputable def pushD (Q:Que):List D:=Q.map fun q=>.str (pairT q.1 q.2)
noncomputable def sgOf (H:List Nat) (t:T4):Nat × Nat × Nat:=(t.2.1,hAt H t.2.2.1,hAt H t.2.2.2)
noncomputable def noteStep (H:List Nat) (z:Tbl × Que) (t:T4):Tbl × Que:=match z.1.lookup (sgOf H t) with
 | some o=>(z.1,if hAt H o=hAt H t.1 then z.2 else z.2 ++ [(o,t.1)])
 | none=>(z.1 ++ [(sgOf H t,t.1)],z.2)
noncomputable def noteF (H:List Nat) (ts:List T4) (z:Tbl × Que):Tbl × Que:=ts.foldl (noteStep H) z
noncomputable def NmOk (H:List Nat) (a:Nat):Prop:=256<=a /\ a < 256+H.length
noncomputable def HOk (H:List Nat):Prop:=H.length<=100 /\ ∀ v ∈ H,NmOk H v
noncomputable def TermOk (H:List Nat) (t:T4):Prop:=NmOk H t.1 /\ t.2.1 < 600 /\ NmOk H t.2.2.1 /\ NmOk H t.2.2.2
noncomputable def ZOk (H:List Nat) (z:Tbl × Que):Prop:=(∀ e ∈ z.1,SgOk e.1 /\ NmOk H e.2) /\ ∀ q ∈ z.2,NmOk H q.1 /\ NmOk H q.2
theorem hAt_ok {H:List Nat} (h:HOk H) {a:Nat} (ha:NmOk H a):NmOk H (hAt H a):=by
 refine h.2 _ ?_
 unfold hAt
 have:a - 256 < H.length:=by have:=ha.1; have:=ha.2; omega
 rw [List.getD_eq_getElem?_getD,List.getElem?_eq_getElem this]
 simp
theorem nm600 {H:List Nat} (h:HOk H) {a:Nat} (ha:NmOk H a):100<=a /\ a < 600:=by have:=h.1; have:=ha.1; have:=ha.2; omega
theorem sg_ok {H:List Nat} (h:HOk H) {t:T4} (ht:TermOk H t):SgOk (sgOf H t):=⟨ht.2.1,nm600 h (hAt_ok h ht.2.2.1),nm600 h (hAt_ok h ht.2.2.2)⟩
theorem lookup_mem {κ β:Type} [BEq κ] [LawfulBEq κ] {x:κ} {v:β}:∀ {l:List (κ × β)},l.lookup x=some v->(x,v) ∈ l
 | p :: r,h=>by
  rw [List.lookup_cons] at h
  cases q:x == p.1 with
  | true=>
   rw [q] at h
   cases h
   rw [eq_of_beq q]
   exact List.mem_cons_self ..
  | false=>
   rw [q] at h
   exact List.mem_cons_of_mem _ (lookup_mem h)
set_option tactic.hygienic true in
theorem note_ok {H:List Nat} (h:HOk H) {z:Tbl × Que} (hz:ZOk H z) {t:T4} (ht:TermOk H t):ZOk H (noteStep H z t):=by
 unfold noteStep
 split
 ·rename_i o e
  refine ⟨hz.1,?_⟩
  dsimp only
  split
  ·exact hz.2
  ·intro q hq
   rcases List.mem_append.mp hq with hq | hq
   ·exact hz.2 q hq
   ·rw [List.mem_singleton.mp hq]; exact ⟨(hz.1 _ (lookup_mem e)).2,ht.1⟩
 ·refine ⟨?_,hz.2⟩
  intro e he
  rcases List.mem_append.mp he with he | he
  ·exact hz.1 e he
  ·rw [List.mem_singleton.mp he]; exact ⟨sg_ok h ht,ht.1⟩
theorem note_len (H:List Nat) (z:Tbl × Que) (t:T4):(noteStep H z t).1.length<=z.1.length+1 /\ (noteStep H z t).2.length<=z.2.length+1:=by
 unfold noteStep
 split
 ·dsimp only
  split
  ·exact ⟨by omega,by omega⟩
  ·exact ⟨by omega,by simp⟩
 ·exact ⟨by simp,by dsimp only; omega⟩
theorem fold_inv {α σ:Type} {step:σ->α->σ} {I:σ->Prop}:∀ (xs:List α) (s:σ),I s->(∀ x ∈ xs,∀ s,I s->I (step s x))->I (xs.foldl step s)
 | [],_,h,_=>h
 | x :: xs,s,h,hs=>fold_inv xs (step s x) (hs x (List.mem_cons_self ..) s h) fun y hy=>hs y (List.mem_cons_of_mem _ hy)
theorem noteF_ok {H:List Nat} (h:HOk H) {z:Tbl × Que} (hz:ZOk H z) {ts:List T4} (ht:∀ t ∈ ts,TermOk H t):ZOk H (noteF H ts z):=fold_inv ts z hz fun t htm s hs=>note_ok h hs (ht t htm)
theorem noteF_len (H:List Nat) (ts:List T4) (z:Tbl × Que):(noteF H ts z).1.length<=z.1.length+ts.length /\ (noteF H ts z).2.length<=z.2.length+ts.length:=by
 have h1:=fold_bound (μ:=fun z:Tbl × Que=>z.1.length) (c:=1) (step:=noteStep H) ts z fun t _ s=>(note_len H s t).1
 have h2:=fold_bound (μ:=fun z:Tbl × Que=>z.2.length) (c:=1) (step:=noteStep H) ts z fun t _ s=>(note_len H s t).2
 unfold noteF
 omega
section
variable {prog:Program} {w:World} {k:Nat} {m:Nat->MO} {nx:Nat} {x:Ix} {L:Int} {cs:List Nat}
noncomputable def Vn (x:Ix) (hd:Nat) (ts:List T4):List (Str × AV):=[("lexer",.loc x.n),("terms",.d (.lst (tsD ts))),("heads",.loc hd),("table",.loc x.h)]
noncomputable abbrev ntF (w:World):Stmt:=nthS (bd w "_law_note") 0
noncomputable abbrev ptA (w:World):Addr:=ca w "_netrclex" "push_token"
theorem note_turn (G:Good w x m nx) {hd:Nat} {H:List Nat} (hH:HOk H) (h1:hd ∉ x.all) (h2:hd < nx) (h3:m hd=.dictI (hdD H)) (ts:List T4) (z:Tbl × Que) (hz:ZOk H z) (l1:z.1.length<=9000) (l2:z.2.length<=9000) (t:T4) (ht:TermOk H t) :
  BTr prog w (KK w) bt (k+4) (ph w "_law_note") (forBody (ntF w)) ⟨([("two",.d (.int t.2.2.2)),("one",.d (.int t.2.2.1)),("kind",.d (.int t.2.1)),("term",.d (.int t.1))]:List (Str × AV)) ++ Vn x hd ts,[],vw x m L cs (pushD z.2) (tblKv z.1),nx⟩ .next ⟨Vn x hd ts,[],vw x m L cs (pushD (noteStep H z t).2) (tblKv (noteStep H z t).1),nx⟩:=by
 have S:=G.sep
 obtain ⟨t1,t2,t3,t4⟩:=ht
 have hsg:=sg_ok hH ⟨t1,t2,t3,t4⟩
 have T0:TblOk z.1:=fun e he=>⟨(hz.1 e he).1,(hz.1 e he).2.1,(nm600 hH (hz.1 e he).2).2⟩
 obtain ⟨M1,d1⟩ : ∃ y,y=vw x m L cs (pushD z.2) (tblKv z.1):=⟨_,rfl⟩
 have X:=G.lex (L:=L) (cs:=cs) (push:=pushD z.2) (kvs:=tblKv z.1)
 have Y:=G.hd (L:=L) (cs:=cs) (push:=pushD z.2) (kvs:=tblKv z.1)
 have mh:M1 hd=.dictI (hdD H):=by rw [d1,G.vat h1,h3]
 have a1:=nm600 hH t1
 have b1:=nm600 hH (hAt_ok hH t3)
 have b2:=nm600 hH (hAt_ok hH t4)
 have e1:=hd_look t3.1 t3.2
 have e2:=hd_look t4.1 t4.2
 have e3:=hd_look t1.1 t1.2
 have hk0:∀ kv ∈ tblKv z.1,kv.1.length<=1000:=fun kv hkv=>by
  unfold tblKv at hkv
  obtain ⟨e,he,rfl⟩:=List.mem_map.mp hkv
  obtain ⟨q1,q2,q3⟩:=(hz.1 e he).1
  have:=sig_len q1 q2.2 q3.2
  dsimp only
  omega
 have hg:=tbl_get T0 hsg
 obtain ⟨sg,hsgS⟩ : ∃ y,y=sigS t.2.1 (hAt H t.2.2.1) (hAt H t.2.2.2):=⟨_,rfl⟩
 have hg':getF (tblKv z.1) sg=(z.1.lookup (sgOf H t)).map decS:=by rw [hsgS]; exact hg
 have sl:sg.length<=11:=by rw [hsgS]; exact sig_len t2 b1.2 b2.2
 have sp:Prn sg:=by rw [hsgS]; exact sig_prn t2 b1.2 b2.2
 have slo:Prn (Txt.lower sg):=by rw [hsgS,sig_lower t2 b1.2 b2.2]; exact sig_prn t2 b1.2 b2.2
 have jn:(cx prog w (k+4) M1 nx).Call (.k (.builtin "str.join")) [.d (.str " "),.d (.lst (strDs [decS t.2.1,decS (hAt H t.2.2.1),decS (hAt H t.2.2.2)]))] (.d (.str sg)) M1 nx:=by
  have q:Txt.join " " [decS t.2.1,decS (hAt H t.2.2.1),decS (hAt H t.2.2.2)]=sg:=hsgS.symm
  rw [<- q]
  refine c_join rfl trivial ?_
  have f1:=(dec_ok t2).2.2.1
  have f2:=(dec_ok b1.2).2.2.1
  have f3:=(dec_ok b2.2).2.2.1
  have f4:(" " : Str).length=1:=by decide +kernel
  rw [f4]
  simp
  omega
 rw [<- d1]
 rw [<- d1] at X Y
 obtain ⟨T,Qu⟩:=z
 unfold noteStep
 dsimp only at *
 have y1:=Y.i1
 have y2:=Y.i2
 have x1:=X.i1
 have x2:=X.i2
 cases q:T.lookup (sgOf H t) with
 | none=>
  rw [q] at hg'
  dsimp only
  have st:=hd_new (prog:=prog) (k:=k+1) Y sg (decS t.1) (by omega) slo sp (dec_prn (by omega)) hk0 hg' (by unfold tblKv; rw [List.length_map]; omega)
  have ek:tblKv T ++ [(sg,decS t.1)]=tblKv (T ++ [(sgOf H t,t.1)]):=by unfold tblKv; rw [List.map_append,hsgS]; rfl
  rw [ek] at st
  have em:upd M1 x.l (.list (kvsD (tblKv (T ++ [(sgOf H t,t.1)]))))=vw x m L cs (pushD Qu) (tblKv (T ++ [(sgOf H t,t.1)])):=by rw [d1,vw_hd S]
  rw [em] at st
  generalize d29:vw x m L cs (pushD Qu) (tblKv (T ++ [(sgOf H t,t.1)]))=M2 at st ⊢
  have d2:=d29.symm
  clear d29
  have mh2:M2 hd=.dictI (hdD H):=by rw [d2,G.vat h1,h3]
  exact BTr.runS 60 [(cx prog w (k+4) M1 nx).mFn x.h x.g (hdC w) (hsA w) [("_headers",.loc x.l)] "setdefault" Y.ln y1 y2 (by kernel_rfl) (by kernel_rfl),(cx prog w (k+4) M1 nx).mJoin " ",
   .call (show (cx prog w (k+4) M1 nx).Call (.k (.type "str")) [.d (.int t.2.1)] (.d (.str (decS t.2.1))) M1 nx from c_str (log_small (by omega))),(cx prog w (k+4) M1 nx).itemDI hd (hdD H) t.2.2.1 (.int (hAt H t.2.2.1)) h2 mh e1,
   .call (show (cx prog w (k+4) M1 nx).Call (.k (.type "str")) [.d (.int (hAt H t.2.2.1))] (.d (.str (decS (hAt H t.2.2.1)))) M1 nx from c_str (log_small (by omega))),(cx prog w (k+4) M1 nx).itemDI hd (hdD H) t.2.2.2 (.int (hAt H t.2.2.2)) h2 mh e2,
   .call (show (cx prog w (k+4) M1 nx).Call (.k (.type "str")) [.d (.int (hAt H t.2.2.2))] (.d (.str (decS (hAt H t.2.2.2)))) M1 nx from c_str (log_small (by omega))),.lst (strDs [decS t.2.1,decS (hAt H t.2.2.1),decS (hAt H t.2.2.2)]) false (show 3<=1000 by decide),.call jn,
   .call (show (cx prog w (k+4) M1 nx).Call (.k (.type "str")) [.d (.int t.1)] (.d (.str (decS t.1))) M1 nx from c_str (log_small (by omega))),.call st.call,
   (cx prog w (k+4) M2 nx).intS (decS t.1) t.1 (dec_ok a1.2).1 (by have:=(dec_ok a1.2).2.2.1; omega),(cx prog w (k+4) M2 nx).itemDI hd (hdD H) t.1 (.int (hAt H t.1)) h2 mh2 e3,(cx prog w (k+4) M2 nx).itemDI hd (hdD H) t.1 (.int (hAt H t.1)) h2 mh2 e3,
   .br (!decide ((hAt H t.1:Int)=(hAt H t.1:Int))) false (by simp)] (by kernel_rfl)
 | some o=>
  rw [q] at hg'
  dsimp only
  have ho:NmOk H o:=(hz.1 _ (lookup_mem q)).2
  have o6:=nm600 hH ho
  have eo:=hd_look ho.1 ho.2
  have st:=hd_old (prog:=prog) (k:=k+1) Y sg (decS t.1) (decS o) (by omega) slo hk0 hg'
  by_cases he:hAt H o=hAt H t.1
  ·rw [if_pos he,<- d1]
   exact BTr.runS 60 [(cx prog w (k+4) M1 nx).mFn x.h x.g (hdC w) (hsA w) [("_headers",.loc x.l)] "setdefault" Y.ln y1 y2 (by kernel_rfl) (by kernel_rfl),(cx prog w (k+4) M1 nx).mJoin " ",
    .call (show (cx prog w (k+4) M1 nx).Call (.k (.type "str")) [.d (.int t.2.1)] (.d (.str (decS t.2.1))) M1 nx from c_str (log_small (by omega))),(cx prog w (k+4) M1 nx).itemDI hd (hdD H) t.2.2.1 (.int (hAt H t.2.2.1)) h2 mh e1,
    .call (show (cx prog w (k+4) M1 nx).Call (.k (.type "str")) [.d (.int (hAt H t.2.2.1))] (.d (.str (decS (hAt H t.2.2.1)))) M1 nx from c_str (log_small (by omega))),(cx prog w (k+4) M1 nx).itemDI hd (hdD H) t.2.2.2 (.int (hAt H t.2.2.2)) h2 mh e2,
    .call (show (cx prog w (k+4) M1 nx).Call (.k (.type "str")) [.d (.int (hAt H t.2.2.2))] (.d (.str (decS (hAt H t.2.2.2)))) M1 nx from c_str (log_small (by omega))),.lst (strDs [decS t.2.1,decS (hAt H t.2.2.1),decS (hAt H t.2.2.2)]) false (show 3<=1000 by decide),.call jn,
    .call (show (cx prog w (k+4) M1 nx).Call (.k (.type "str")) [.d (.int t.1)] (.d (.str (decS t.1))) M1 nx from c_str (log_small (by omega))),.call st.call,
    (cx prog w (k+4) M1 nx).intS (decS o) o (dec_ok o6.2).1 (by have:=(dec_ok o6.2).2.2.1; omega),(cx prog w (k+4) M1 nx).itemDI hd (hdD H) o (.int (hAt H o)) h2 mh eo,(cx prog w (k+4) M1 nx).itemDI hd (hdD H) t.1 (.int (hAt H t.1)) h2 mh e3,
    .br (!decide ((hAt H o:Int)=(hAt H t.1:Int))) false (by rw [he]; simp)] (by kernel_rfl)
  ·rw [if_neg he]
   have pt:=pt_tr (prog:=prog) (k:=k+3) (.str (pairT o t.1)) X (by unfold pushD; rw [List.length_map]; omega)
   have ep:pushD Qu ++ [.str (pairT o t.1)]=pushD (Qu ++ [(o,t.1)]):=by unfold pushD; rw [List.map_append]; rfl
   have em:upd M1 x.p (.list (pushD (Qu ++ [(o,t.1)])))=vw x m L cs (pushD (Qu ++ [(o,t.1)])) (tblKv T):=by rw [d1,vw_push S]
   rw [ep,em] at pt
   generalize d29:vw x m L cs (pushD (Qu ++ [(o,t.1)])) (tblKv T)=M2 at pt ⊢
   have d2:=d29.symm
   clear d29
   have f1:=(dec_ok o6.2).2.2.1
   have f2:=(dec_ok a1.2).2.2.1
   have f4:(" " : Str).length=1:=by decide +kernel
   exact BTr.runS 60 [(cx prog w (k+4) M1 nx).mFn x.h x.g (hdC w) (hsA w) [("_headers",.loc x.l)] "setdefault" Y.ln y1 y2 (by kernel_rfl) (by kernel_rfl),(cx prog w (k+4) M1 nx).mJoin " ",
    .call (show (cx prog w (k+4) M1 nx).Call (.k (.type "str")) [.d (.int t.2.1)] (.d (.str (decS t.2.1))) M1 nx from c_str (log_small (by omega))),(cx prog w (k+4) M1 nx).itemDI hd (hdD H) t.2.2.1 (.int (hAt H t.2.2.1)) h2 mh e1,
    .call (show (cx prog w (k+4) M1 nx).Call (.k (.type "str")) [.d (.int (hAt H t.2.2.1))] (.d (.str (decS (hAt H t.2.2.1)))) M1 nx from c_str (log_small (by omega))),(cx prog w (k+4) M1 nx).itemDI hd (hdD H) t.2.2.2 (.int (hAt H t.2.2.2)) h2 mh e2,
    .call (show (cx prog w (k+4) M1 nx).Call (.k (.type "str")) [.d (.int (hAt H t.2.2.2))] (.d (.str (decS (hAt H t.2.2.2)))) M1 nx from c_str (log_small (by omega))),.lst (strDs [decS t.2.1,decS (hAt H t.2.2.1),decS (hAt H t.2.2.2)]) false (show 3<=1000 by decide),.call jn,
    .call (show (cx prog w (k+4) M1 nx).Call (.k (.type "str")) [.d (.int t.1)] (.d (.str (decS t.1))) M1 nx from c_str (log_small (by omega))),.call st.call,
    (cx prog w (k+4) M1 nx).intS (decS o) o (dec_ok o6.2).1 (by omega),(cx prog w (k+4) M1 nx).itemDI hd (hdD H) o (.int (hAt H o)) h2 mh eo,(cx prog w (k+4) M1 nx).itemDI hd (hdD H) t.1 (.int (hAt H t.1)) h2 mh e3,
    .br (!decide ((hAt H o:Int)=(hAt H t.1:Int))) true (by rw [decide_eq_false (by omega)]; rfl),
    (cx prog w (k+4) M1 nx).mFn x.n x.j (netC w) (ptA w) (lexNs L (.loc x.s) x.p) "push_token" X.ln x1 x2 (by kernel_rfl) (by kernel_rfl),(cx prog w (k+4) M1 nx).addS false (decS o) " " _ rfl (by rw [f4,sizeLine_eq]; omega),
    .call (show (cx prog w (k+4) M1 nx).Call (.k (.type "str")) [.d (.int t.1)] (.d (.str (decS t.1))) M1 nx from c_str (log_small (by omega))),(cx prog w (k+4) M1 nx).addS false (decS o ++ " ") (decS t.1) _ rfl (by rw [str_len,f4,sizeLine_eq]; omega),.call pt.call] (by kernel_rfl)
theorem note_tr (G:Good w x m nx) {hd:Nat} {H:List Nat} (hH:HOk H) (h1:hd ∉ x.all) (h2:hd < nx) (h3:m hd=.dictI (hdD H)) (ts:List T4) (z:Tbl × Que) (hz:ZOk H z) (l1:z.1.length+ts.length<=9000) (l2:z.2.length+ts.length<=9000) (ht:∀ t ∈ ts,TermOk H t) :
  CallTr prog w (KK w) bt (k+5) (fn w "_law_note") [.loc x.n,.d (.lst (tsD ts)),.loc hd,.loc x.h] [] (vw x m L cs (pushD z.2) (tblKv z.1)) nx (.d .none) (vw x m L cs (pushD (noteF H ts z).2) (tblKv (noteF H ts z).1)) nx:=by
 have loop:=for_fold (prog:=prog) (w:=w) (K:=KK w) (btab:=bt) (k:=k+4) (φ:=ph w "_law_note") (t:=forTgt (ntF w)) (b:=forBody (ntF w)) (a:=.d (.lst (tsD ts))) (ds0:=tsD ts) (fz:=[]) (nx:=nx) (V:=fun _:Tbl × Que=>Vn x hd ts) (M:=fun s=>vw x m L cs (pushD s.2) (tblKv s.1)) (step:=noteStep H)
  (gD:=tL) (VX:=fun _ t=>([("two",.d (.int t.2.2.2)),("one",.d (.int t.2.2.1)),("kind",.d (.int t.2.1)),("term",.d (.int t.1))]:List (Str × AV)) ++ Vn x hd ts) ts z (Vn x hd ts) (.refl _) (fun pre t post he=>by
   have htm:t ∈ ts:=by rw [he]; simp
   have hp:pre.length<=ts.length:=by have:=congrArg List.length he; simp at this; omega
   have hz':ZOk H (pre.foldl (noteStep H) z):=fold_inv pre z hz fun y hy s hs=>note_ok hH hs (ht y (by rw [he]; simp [hy]))
   obtain ⟨q1,q2⟩:=noteF_len H pre z
   unfold noteF at q1 q2
   refine ⟨rfl,takes_lstN (ds:=natsD [t.1,t.2.1,t.2.2.1,t.2.2.2]) ["term", "kind", "one", "two"] (by kernel_rfl) (by kernel_rfl) rfl,.next,Vn x hd ts,.inl rfl,?_,.refl _⟩
   exact note_turn G hH h1 h2 h3 ts _ hz' (by omega) (by omega) t (ht t htm)) rfl
 have st:=STr.forP (c:=ntF w) (V:=Vn x hd ts) (.d (.lst (tsD ts))) (tsD ts) 20 [] (by kernel_rfl) (by kernel_rfl) rfl loop
 obtain ⟨M1,d1⟩ : ∃ y,y=vw x m L cs (pushD z.2) (tblKv z.1):=⟨_,rfl⟩
 obtain ⟨M2,d2⟩ : ∃ y,y=vw x m L cs (pushD (noteF H ts z).2) (tblKv (noteF H ts z).1):=⟨_,rfl⟩
 unfold noteF at d2
 rw [<- d1,<- d2] at st
 unfold noteF
 rw [<- d1,<- d2]
 exact CodeTr.call (codeA (fa w "_law_note") ["lexer", "terms", "heads", "table"] [.loc x.n,.d (.lst (tsD ts)),.loc hd,.loc x.h] .next M2 nx [] [.stm st] (by kernel_rfl) (bindq4 fun S a b c d=>by kernel_rfl) rfl (by kernel_rfl))
end
end
section
set_option backward.match.sparseCases false in
noncomputable def kwE:Stmt->PySem.Expr
 | .Expr e _=>e
 | .Assign _ e _=>e
 | _=>.Constant .none 0 default
section
variable {prog:Program} {w:World} {k:Nat} {m:Nat->MO} {nx:Nat} {x:Ix} {L:Int} {cs:List Nat}
noncomputable abbrev clF (w:World):Fm:=ph w "_law_closed"
noncomputable abbrev clW (w:World):Stmt:=nthS (bd w "_law_closed") 4
noncomputable abbrev clB (w:World):List Stmt:=forBody (clW w)
noncomputable abbrev clI (w:World):List Stmt:=ifB (nthS (clB w) 3)
@[irreducible] noncomputable def keyE (w:World) (i:Nat):PySem.Expr:=if i=2 then kwV 0 (kwE (nthS (forBody (nthS (clI w) 3)) 1)) else kwV 0 (kwE (nthS (clI w) i))
noncomputable abbrev keyAV (w:World) (i hd:Nat):AV:=.fn (lamPs (keyE w i)) (lamB (keyE w i)) (lamS (keyE w i)) [("heads",.loc hd)]
theorem lamBind_key0:LamBind (lamPs (keyE w 0)) "name" := by
 intro fd v h1 h2 h3
 obtain ⟨a1,a2,a3,a4,a5,a6,a7,a8,a9⟩:=fd
 subst h1 h2 h3
 kernel_rfl
theorem lamBind_key1:LamBind (lamPs (keyE w 1)) "name" := by
 intro fd v h1 h2 h3
 obtain ⟨a1,a2,a3,a4,a5,a6,a7,a8,a9⟩:=fd
 subst h1 h2 h3
 kernel_rfl
theorem lamBind_key2:LamBind (lamPs (keyE w 2)) "name" := by
 intro fd v h1 h2 h3
 obtain ⟨a1,a2,a3,a4,a5,a6,a7,a8,a9⟩:=fd
 subst h1 h2 h3
 kernel_rfl
theorem key_call {hd:Nat} {H:List Nat} (h2:hd < nx) (h3:m hd=.dictI (hdD H)) {a:Nat} (ha:NmOk H a) (i:Nat) (hi:i=0 \/ i=1 \/ i=2):CallTr prog w (KK w) bt (k+1) (keyAV w i hd) [.d (.int a)] [] m nx (.d (.int (hAt H a))) m nx:=by
 have e:=hd_look ha.1 ha.2
 rcases hi with rfl | rfl | rfl
 ·exact CodeTr.call (code_lam (st':=⟨[("name",.d (.int a))],[],m,nx⟩) lamBind_key0 (by kernel_rfl) (ETr.runE 20 [(cx prog w k m nx).itemDI hd (hdD H) a (.int (hAt H a)) h2 h3 e] (by kernel_rfl)))
 ·exact CodeTr.call (code_lam (st':=⟨[("name",.d (.int a))],[],m,nx⟩) lamBind_key1 (by kernel_rfl) (ETr.runE 20 [(cx prog w k m nx).itemDI hd (hdD H) a (.int (hAt H a)) h2 h3 e] (by kernel_rfl)))
 ·exact CodeTr.call (code_lam (st':=⟨[("name",.d (.int a))],[],m,nx⟩) lamBind_key2 (by kernel_rfl) (ETr.runE 20 [(cx prog w k m nx).itemDI hd (hdD H) a (.int (hAt H a)) h2 h3 e] (by kernel_rfl)))
noncomputable def rowI (row:List Nat):List Int:=row.map fun n:Nat=>(n:Int)
theorem rowI_D (row:List Nat):(rowI row).map D.int=natsD row:=by unfold rowI natsD; rw [List.map_map]; rfl
theorem rowI_len (row:List Nat):(rowI row).length=row.length:=List.length_map _
theorem rowI_get (row:List Nat) {i:Nat} (h:i < row.length):(rowI row).getD i 0=(row.getD i 0:Nat):=by
 unfold rowI
 rw [List.getD_eq_getElem?_getD,List.getD_eq_getElem?_getD,List.getElem?_map,List.getElem?_eq_getElem h]
 rfl
noncomputable def keyF (H:List Nat) (y:Int):Int:=hAt H y.toNat
theorem key_ok {hd:Nat} {H:List Nat} (h2:hd < nx) (h3:m hd=.dictI (hdD H)) {row:List Nat} (hr:∀ y ∈ row,NmOk H y) (i:Nat) (hi:i=0 \/ i=1 \/ i=2):KeyOk prog w (k+1) m nx (keyAV w i hd) (rowI row) (keyF H):=by
 refine ⟨⟨_,_,_,_,rfl⟩,fun y hy=>?_⟩
 unfold rowI at hy
 obtain ⟨a,ha,rfl⟩:=List.mem_map.mp hy
 exact key_call h2 h3 (hr a ha) i hi
noncomputable def RowOk (H:List Nat) (row:List Nat):Prop:=row.Nodup /\ (∀ y ∈ row,NmOk H y) /\ row.Pairwise fun a b=>hAt H a<=hAt H b
theorem count_cut {p:Nat->Bool}:∀ (row:List Nat),row.Pairwise (fun a b=>p b=true->p a=true)->(∀ i,i < row.countP p->p (row.getD i 0)=true) /\ (∀ i,row.countP p<=i->i < row.length->p (row.getD i 0)=false)
 | [],_=>⟨fun i h=>by simp at h,fun i _ h=>by simp at h⟩
 | a :: r,h=>by
  rw [List.pairwise_cons] at h
  obtain ⟨ih1,ih2⟩:=count_cut r h.2
  cases q:p a with
  | true=>
   rw [List.countP_cons_of_pos q]
   refine ⟨fun i hi=>?_,fun i h1 h2=>?_⟩
   ·cases i with
    | zero=>exact q
    | succ i=>exact ih1 i (by omega)
   ·cases i with
    | zero=>omega
    | succ i=>exact ih2 i (by omega) (by simpa using h2)
  | false=>
   have hz:r.countP p=0:=List.countP_eq_zero.mpr fun b hb hpb=>by
    have:=h.1 b hb hpb
    rw [q] at this; cases this
   have hz2:(a :: r).countP p=0:=by rw [List.countP_cons_of_neg (by rw [q]; exact Bool.false_ne_true),hz]
   rw [hz2]
   refine ⟨fun i hi=>absurd hi (Nat.not_lt_zero _),fun i _ h2=>?_⟩
   cases i with
   | zero=>exact q
   | succ i=>exact ih2 i (by omega) (by simpa using h2)
noncomputable def cLt (H:List Nat) (row:List Nat) (v:Nat):Nat:=row.countP fun y=>decide (hAt H y < v)
noncomputable def cLe (H:List Nat) (row:List Nat) (v:Nat):Nat:=row.countP fun y=>decide (hAt H y<=v)
theorem cut_lt {H row:List Nat} (h:row.Pairwise fun a b=>hAt H a<=hAt H b) (v:Nat):(∀ i,i < cLt H row v->hAt H (row.getD i 0) < v) /\ (∀ i,cLt H row v<=i->i < row.length->¬ hAt H (row.getD i 0) < v):=by
 obtain ⟨h1,h2⟩:=count_cut (p:=fun y=>decide (hAt H y < v)) row (h.imp fun {a b} hab hb=>by simp at hb ⊢; omega)
 exact ⟨fun i hi=>of_decide_eq_true (h1 i hi),fun i a b=>of_decide_eq_false (h2 i a b)⟩
theorem cut_le {H row:List Nat} (h:row.Pairwise fun a b=>hAt H a<=hAt H b) (v:Nat):(∀ i,i < cLe H row v->hAt H (row.getD i 0)<=v) /\ (∀ i,cLe H row v<=i->i < row.length->¬ hAt H (row.getD i 0)<=v):=by
 obtain ⟨h1,h2⟩:=count_cut (p:=fun y=>decide (hAt H y<=v)) row (h.imp fun {a b} hab hb=>by simp at hb ⊢; omega)
 exact ⟨fun i hi=>of_decide_eq_true (h1 i hi),fun i a b=>of_decide_eq_false (h2 i a b)⟩
theorem keyF_row (H row:List Nat) {i:Nat} (h:i < row.length):keyF H ((rowI row).getD i 0)=(hAt H (row.getD i 0):Nat):=by rw [rowI_get row h]; rfl
theorem bl_row {r hd:Nat} {H row:List Nat} (hr:r < nx) (h2:hd < nx) (h3:m hd=.dictI (hdD H)) (h4:m r=.list (natsD row)) (hR:RowOk H row) (hz:row.length<=1000) (v i:Nat) (hi:i=0 \/ i=1 \/ i=2) :
  CallTr prog w (KK w) bt (k+2) (fn w "bisect_left") [.loc r,.d (.int v)] [("key",keyAV w i hd)] m nx (.d (.int (cLt H row v))) m nx:=by
 obtain ⟨c1,c2⟩:=cut_lt hR.2.2 v
 refine CodeTr.call (bl_tr (f:=keyF H) (row:=rowI row) (a:=.loc r) ⟨hr,by rw [rowI_D]; exact h4⟩ trivial (key_ok (k:=k) h2 h3 hR.2.1 i hi) (by rw [rowI_len]; exact hz) _ (by rw [rowI_len]; exact List.countP_le_length) (fun j hj=>?_) fun j hj hl=>?_)
 ·have hjl:j < row.length:=Nat.lt_of_lt_of_le hj List.countP_le_length
  rw [keyF_row H row hjl]
  have:=c1 j hj
  omega
 ·rw [rowI_len] at hl
  rw [keyF_row H row hl]
  have:=c2 j hj hl
  omega
theorem br_row {r hd:Nat} {H row:List Nat} (hr:r < nx) (h2:hd < nx) (h3:m hd=.dictI (hdD H)) (h4:m r=.list (natsD row)) (hR:RowOk H row) (hz:row.length<=1000) (v i:Nat) (hi:i=0 \/ i=1 \/ i=2) :
  CallTr prog w (KK w) bt (k+2) (fn w "bisect_right") [.loc r,.d (.int v)] [("key",keyAV w i hd)] m nx (.d (.int (cLe H row v))) m nx:=by
 obtain ⟨c1,c2⟩:=cut_le hR.2.2 v
 refine CodeTr.call (br_tr (f:=keyF H) (row:=rowI row) (a:=.loc r) ⟨hr,by rw [rowI_D]; exact h4⟩ trivial (key_ok (k:=k) h2 h3 hR.2.1 i hi) (by rw [rowI_len]; exact hz) _ (by rw [rowI_len]; exact List.countP_le_length) (fun j hj=>?_) fun j hj hl=>?_)
 ·have hjl:j < row.length:=Nat.lt_of_lt_of_le hj List.countP_le_length
  rw [keyF_row H row hjl]
  have:=c1 j hj
  omega
 ·rw [rowI_len] at hl
  rw [keyF_row H row hl]
  have:=c2 j hj hl
  omega
noncomputable def insF (H row:List Nat) (y:Nat):List Nat:=row.take (cLe H row (hAt H y)) ++ y :: row.drop (cLe H row (hAt H y))
theorem ir_row {r hd:Nat} {H row:List Nat} (hr:r < nx) (h2:hd < nx) (h3:m hd=.dictI (hdD H)) (h4:m r=.list (natsD row)) (hR:RowOk H row) (hz:row.length<=1000) (y i:Nat) (hy:NmOk H y) (hi:i=0 \/ i=1 \/ i=2) :
  CallTr prog w (KK w) bt (k+3) (fn w "insort_right") [.loc r,.d (.int y)] [("key",keyAV w i hd)] m nx (.d .none) (upd m r (.list (natsD (insF H row y)))) nx:=by
 obtain ⟨c1,c2⟩:=cut_le hR.2.2 (hAt H y)
 have ky:=key_call (prog:=prog) (w:=w) (k:=k+1) (m:=m) (nx:=nx) h2 h3 hy i hi
 have e:=ir_tr (prog:=prog) (w:=w) (k:=k+1) (f:=keyF H) (row:=rowI row) (r:=r) (y:=(y:Int)) hr (by rw [rowI_D]; exact h4) (key_ok (k:=k) h2 h3 hR.2.1 i hi) ky (by rw [rowI_len]; exact hz) (cLe H row (hAt H y)) (by rw [rowI_len]; exact List.countP_le_length) (fun j hj=>?_) fun j hj hl=>?_
 ·have e2:((rowI row).take (cLe H row (hAt H y)) ++ (y:Int) :: (rowI row).drop (cLe H row (hAt H y))).map D.int=natsD (insF H row y):=by
   rw [<- rowI_D]
   unfold rowI insF
   simp only [List.map_append,List.map_cons,List.map_take,List.map_drop]
  rw [e2] at e
  exact e.call
 ·have hjl:j < row.length:=Nat.lt_of_lt_of_le hj List.countP_le_length
  have:=c1 j hj
  rw [keyF_row H row hjl]
  show ¬ ((hAt H y:Nat):Int) < _
  omega
 ·rw [rowI_len] at hl
  have:=c2 j hj hl
  rw [keyF_row H row hl]
  show ((hAt H y:Nat):Int) < _
  omega
end
end
section
noncomputable def setH (H:List Nat) (y v:Nat):List Nat:=H.set (y - 256) v
theorem setH_len (H:List Nat) (y v:Nat):(setH H y v).length=H.length:=List.length_set ..
theorem hAt_set {H:List Nat} {y v:Nat} (hy:NmOk H y):hAt (setH H y v) y=v:=by
 unfold hAt setH
 have:y - 256 < H.length:=by have:=hy.1; have:=hy.2; omega
 rw [List.getD_eq_getElem?_getD,List.getElem?_set_self this]
 rfl
theorem hAt_set_ne {H:List Nat} {y v z:Nat} (hy:256<=y) (hz:256<=z) (hne:z ≠ y):hAt (setH H y v) z=hAt H z:=by
 unfold hAt setH
 rw [List.getD_eq_getElem?_getD,List.getElem?_set_ne (by omega),<- List.getD_eq_getElem?_getD]
theorem storeH:∀ (H:List Nat) (i j v:Nat),j < H.length->storeD (hdFrom i H) ((256+(i+j):Nat):Int) (.int v)=hdFrom i (H.set j v):=by
 intro H i j v hj
 have key:∀ (H:List Nat) (i a:Nat),256+i > a->(hdFrom i H).map (fun kv=>if kv.1=(a:Int) then (kv.1,D.int v) else kv)=hdFrom i H:=by
  intro H
  induction H with
  | nil=>intro i a _; rfl
  | cons u r ih=>
   intro i a h
   show ((((256+i:Nat):Int),D.int u) :: hdFrom (i+1) r).map (fun kv=>if kv.1=(a:Int) then (kv.1,D.int v) else kv)=_
   rw [List.map_cons,ih (i+1) a (by omega)]
   rw [if_neg (by dsimp only; omega)]
   rfl
 have hany:∀ (H:List Nat) (i j:Nat),j < H.length->(hdFrom i H).any (fun kv=>kv.1=((256+(i+j):Nat):Int))=true:=by
  intro H
  induction H with
  | nil=>intro i j h; exact absurd h (Nat.not_lt_zero _)
  | cons u r ih=>
   intro i j h
   show ((((256+i:Nat):Int),D.int u) :: hdFrom (i+1) r).any (fun kv=>kv.1=((256+(i+j):Nat):Int))=_
   rw [List.any_cons]
   cases j with
   | zero=>simp
   | succ j=>
    have:=ih (i+1) j (by simpa using h)
    rw [show i+1+j=i+(j+1) by omega] at this
    rw [this,Bool.or_true]
 unfold storeD
 rw [hany H i j hj,if_pos rfl]
 revert i j
 induction H with
 | nil=>intro i j h; exact absurd h (Nat.not_lt_zero _)
 | cons u r ih=>
  intro i j hj
  show ((((256+i:Nat):Int),D.int u) :: hdFrom (i+1) r).map (fun kv=>if kv.1=((256+(i+j):Nat):Int) then (kv.1,D.int v) else kv)=_
  rw [List.map_cons]
  cases j with
  | zero=>
   rw [if_pos (by simp),key r (i+1) (256+(i+0)) (by omega)]
   rfl
  | succ j=>
   rw [if_neg (by dsimp only; omega)]
   have:=ih (i+1) j (by simpa using hj)
   rw [show i+1+j=i+(j+1) by omega] at this
   rw [this]
   rfl
theorem store_hd {H:List Nat} {y v:Nat} (hy:NmOk H y):storeD (hdD H) (y:Int) (.int v)=hdD (setH H y v):=by
 have:=storeH H 0 (y - 256) v (by have:=hy.1; have:=hy.2; omega)
 rw [show 256+(0+(y - 256))=y by have:=hy.1; omega] at this
 exact this
theorem hdFrom_len:∀ (H:List Nat) (i:Nat),(hdFrom i H).length=H.length
 | [],_=>rfl
 | _ :: r,i=>by show (hdFrom (i+1) r).length+1=_; rw [hdFrom_len r]; rfl
structure ClAt (x:Ix) (m:Nat->MO) (nx hd r tb:Nat) (cA:Addr):Prop where
 h1:hd ∉ x.all
 r1:r ∉ x.all
 t1:tb ∉ x.all
 hr:hd ≠ r
 ht:tb ≠ hd
 rt:tb ≠ r
 lh:hd < nx
 lr:r < nx
 lt:tb < nx
 tab:m tb=.tab cA
noncomputable def clM (m:Nat->MO) (hd r:Nat) (H row:List Nat):Nat->MO:=upd (upd m hd (.dictI (hdD H))) r (.list (natsD row))
section
variable {prog:Program} {w:World} {k:Nat} {m:Nat->MO} {nx:Nat} {x:Ix} {L:Int} {cs:List Nat} {hd r tb:Nat} {cA:Addr} {H row:List Nat} {push:List D} {kvs:List (Str × Str)}
theorem ClAt.good (C:ClAt x m nx hd r tb cA) (G:Good w x m nx):Good w x (clM m hd r H row) nx:=(G.other C.h1 _ (Nat.le_refl _)).other C.r1 _ (Nat.le_refl _)
theorem ClAt.athd (C:ClAt x m nx hd r tb cA) (G:Good w x m nx):vw x (clM m hd r H row) L cs push kvs hd=.dictI (hdD H):=by
 rw [(C.good G).vat C.h1]; unfold clM; rw [upd_ne _ _ _ C.hr,upd_at]
theorem ClAt.atr (C:ClAt x m nx hd r tb cA) (G:Good w x m nx):vw x (clM m hd r H row) L cs push kvs r=.list (natsD row):=by
 rw [(C.good G).vat C.r1]; unfold clM; rw [upd_at]
theorem ClAt.attb (C:ClAt x m nx hd r tb cA) (G:Good w x m nx):vw x (clM m hd r H row) L cs push kvs tb=.tab cA:=by
 rw [(C.good G).vat C.t1]; unfold clM; rw [upd_ne _ _ _ C.rt,upd_ne _ _ _ C.ht,C.tab]
theorem ClAt.sethd (C:ClAt x m nx hd r tb cA) (G:Good w x m nx) (H':List Nat):upd (vw x (clM m hd r H row) L cs push kvs) hd (.dictI (hdD H'))=vw x (clM m hd r H' row) L cs push kvs:=by
 rw [(C.good G).vupd C.h1]
 congr 1
 unfold clM
 rw [upd_comm _ (Ne.symm C.hr),upd_same]
theorem ClAt.setr (C:ClAt x m nx hd r tb cA) (G:Good w x m nx) (row':List Nat):upd (vw x (clM m hd r H row) L cs push kvs) r (.list (natsD row'))=vw x (clM m hd r H row') L cs push kvs:=by
 rw [(C.good G).vupd C.r1]
 congr 1
 unfold clM
 rw [upd_same]
theorem ClAt.low (C:ClAt x m nx hd r tb cA) (G:Good w x m nx) {m':Nat->MO} {nx':Nat} {L':Int} {cs':List Nat} {push':List D} {kvs':List (Str × Str)} {H' row':List Nat} (hn:nx<=nx') (h:∀ i,i < nx->m' i=vw x (clM m hd r H' row') L' cs' push' kvs' i) :
  Low (vw x (clM m hd r H row) L cs push kvs) nx m' nx' (vw x (clM m hd r H' row') L' cs' push' kvs') nx:=by
 refine ⟨Nat.le_refl _,hn,h,fun i hi=>?_⟩
 by_cases e1:i=hd
 ·right; rw [e1,C.athd G]; trivial
 ·by_cases e2:i=r
  ·right; rw [e2,C.atr G]; trivial
  ·rcases ((C.good G (H:=H') (row:=row')).low (L:=L) (cs:=cs) (push:=push) (kvs:=kvs) (L':=L') (cs':=cs') (push':=push') (kvs':=kvs') (Nat.le_refl nx) fun i _=>rfl).bd i hi with ⟨a,b⟩ | b
   ·left
    refine ⟨a,b.trans ?_⟩
    have S:=G.sep
    by_cases a1:i=x.l
    ·rw [a1,vw_l,vw_l]
    ·by_cases a2:i=x.p
     ·rw [a2,vw_p S.pl,vw_p S.pl]
     ·by_cases a3:i=x.j
      ·rw [a3,vw_j S.jl S.jp,vw_j S.jl S.jp]
      ·by_cases a4:i=x.q
       ·rw [a4,vw_q S.ql S.qp S.qj,vw_q S.ql S.qp S.qj]
       ·rw [vw_ne a1 a2 a3 a4,vw_ne a1 a2 a3 a4]
        unfold clM
        rw [upd_ne _ _ _ e2,upd_ne _ _ _ e1,upd_ne _ _ _ e2,upd_ne _ _ _ e1]
   ·exact .inr b
theorem acc_nats (mv:List Nat):∀ (xs:List Nat) (i:Nat) (l:List D),i+xs.length<=mv.length->(xs.foldl (fun (z:Nat × List D) (_:Nat)=>(z.1+1,z.2 ++ [D.int (mv.getD z.1 0:Nat)])) (i,l)).2=l ++ natsD ((mv.drop i).take xs.length)
 | [],i,l,_=>by simp [natsD]
 | a :: xs,i,l,h=>by
  rw [List.length_cons] at h
  have hi:i < mv.length:=by omega
  rw [List.foldl_cons,acc_nats mv xs (i+1) _ (by omega),List.length_cons,List.drop_eq_getElem_cons hi,List.take_succ_cons]
  unfold natsD
  rw [List.map_cons,List.append_assoc,List.getD_eq_getElem?_getD,List.getElem?_eq_getElem hi]
  rfl
noncomputable def Vm (x:Ix) (hd r:Nat) (ts ps:List D) (word:Str) (le gr c1 c2:Nat):List (Str × AV):=[("lexer",.loc x.n),("terms",.d (.lst ts)),("pairs",.d (.lst ps)),("heads",.loc hd),("row",.loc r),("table",.loc x.h),("word",.d (.str word)),("lesser",.d (.int le)),("greater",.d (.int gr)),("low",.d (.int c1)),("high",.d (.int c2))]
theorem foldl_succ:∀ (l:List Nat) (s:Nat),l.foldl (fun i (_:Nat)=>i+1) s=s+l.length
 | [],_=>rfl
 | _ :: l,s=>(foldl_succ l (s+1)).trans (Nat.succ_add_eq_add_succ s l.length)
theorem small1000 {n:Nat} (hn:n<=1000):Builtin.Range.small 0 (n:Int) 1=true:=
 List.all_eq_true.mp (show ((List.range 1001).all fun n=>Builtin.Range.small 0 ((n:Nat):Int) 1)=true by kernel_rfl) n (List.mem_range.mpr (Nat.lt_succ_of_le hn))
theorem mv_drop {mv:List Nat} {i:Nat} (h:i < mv.length):mv.drop i=mv.getD i 0 :: mv.drop (i+1):=by
 rw [List.drop_eq_getElem_cons h,List.getD_eq_getElem?_getD,List.getElem?_eq_getElem h]; rfl
theorem nats_app (X Y:List Nat):natsD (X ++ Y)=natsD X ++ natsD Y:=List.map_append
theorem nats3 {A X B:List Nat}:natsD (A ++ X ++ B)=natsD A ++ natsD (X ++ B):=List.append_assoc A X B ▸ nats_app A (X ++ B)
theorem nats4 {A X B:List Nat} {y:Nat}:natsD (A ++ y :: X ++ B)=natsD A ++ .int y :: natsD (X ++ B):=nats3
theorem mid_lt {pre post:List Nat} {y n:Nat} (he:List.range n=pre ++ y :: post):pre.length < n:=by
 have h:=congrArg List.length he
 rw [List.length_range,List.length_append] at h
 exact h ▸ Nat.lt_add_of_pos_right (Nat.succ_pos _)
theorem moved_str (C:ClAt x m nx hd r tb cA) (G:Good w x m nx) (ts ps:List D) (word:Str) (le gr:Nat) (A mv B:List Nat) (hz:(A ++ mv ++ B).length<=1000) (fz:List Str) (hfz:fz=(["heads", "heads"]:List Str) \/ fz=(["heads", "heads", "heads"]:List Str)) :
  STr prog w (KK w) bt (k+1) (clF w) (nthS (clI w) 2) ⟨Vm x hd r ts ps word le gr A.length (A.length+mv.length),fz,vw x (clM m hd r H (A ++ mv ++ B)) L cs push kvs,nx⟩ .next
   ⟨setv "moved" (.d (.lst (natsD mv))) (Vm x hd r ts ps word le gr A.length (A.length+mv.length)),fz,vw x (clM m hd r H (A ++ B)) L cs push kvs,nx⟩:=by
 rw [List.length_append,List.length_append] at hz
 obtain ⟨a,ha⟩ : ∃ y,y=A.length:=⟨_,rfl⟩
 obtain ⟨n,hn⟩ : ∃ y,y=mv.length:=⟨_,rfl⟩
 rw [<- ha,<- hn] at hz ⊢
 have en:((a+n:Nat):Int) - (a:Int)=(n:Int):=by omega
 generalize hV9:Vm x hd r ts ps word le gr a (a+n)=V
 have hV:=hV9.symm
 clear hV9
 obtain ⟨M,hM⟩ : ∃ M:Nat->Nat->MO,M=fun i=>vw x (clM m hd r H (A ++ mv.drop i ++ B)) L cs push kvs:=⟨_,rfl⟩
 have e0:vw x (clM m hd r H (A ++ mv ++ B)) L cs push kvs=M 0:=by rw [hM]; rfl
 have e9:vw x (clM m hd r H (A ++ B)) L cs push kvs=M n:=by rw [hM,hn]; simp
 rw [e0,e9]
 have hsm:=small1000 (Nat.le_trans (Nat.le_trans (Nat.le_add_left n a) (Nat.le_add_right _ _)) hz)
 have hd':∀ (mm:Nat->MO) (nn:Nat),DSrc mm nn (.d (.rng 0 (((a+n:Nat):Int) - (a:Int)) 1)) ((List.range n).map fun i:Nat=>D.int i):=fun mm nn=>by rw [en]; exact dsrc_rng hsm
 have first:ETr prog w (KK w) bt (k+1) (clF w) (lcFirst (asVal (nthS (clI w) 2))).iter ⟨V,fz,M 0,nx⟩ (.d (.rng 0 (((a+n:Nat):Int) - (a:Int)) 1)) ⟨V,fz,M 0,nx⟩:=by
  subst hV
  rcases hfz with rfl | rfl
  ·exact ETr.runE 20 [(cx prog w (k+1) (M 0) nx).range1 (((a+n:Nat):Int) - (a:Int))] (by kernel_rfl)
  ·exact ETr.runE 20 [(cx prog w (k+1) (M 0) nx).range1 (((a+n:Nat):Int) - (a:Int))] (by kernel_rfl)
 have loop:=cloop_st (step:=CStep prog w (KK w) bt (k+1) (compFm (clF w) (lcScope (asVal (nthS (clI w) 2)))) (lcFirst (asVal (nthS (clI w) 2))) (CInner prog w (KK w) bt (k+1) (compFm (clF w) (lcScope (asVal (nthS (clI w) 2)))) nx (lcElt (asVal (nthS (clI w) 2))) (lcRest (asVal (nthS (clI w) 2))))) (a:=.d (.rng 0 (((a+n:Nat):Int) - (a:Int)) 1)) (ds0:=(List.range n).map fun i:Nat=>D.int i)
  (V0:=compVars (clF w) V (lcScope (asVal (nthS (clI w) 2)))) (fz:=compFz (clF w) (lcScope (asVal (nthS (clI w) 2)))) (M:=M) (n0:=nx) (gD:=fun i:Nat=>D.int i) (next:=fun i _=>i+1) (f:=fun i _=>D.int (mv.getD i 0:Nat)) (fun s=>hd' _ _) (List.range n) 0 (compVars (clF w) V (lcScope (asVal (nthS (clI w) 2)))) [] (.refl _) (by rw [List.length_nil,List.length_range]; omega)
  (fun pre y post he V1 l hV1 hl=>by
   rw [(foldl_succ pre 0).trans (Nat.zero_add _)]
   have hp:pre.length < n:=mid_lt he
   generalize hii9:pre.length=i at hp ⊢
   have hii:=hii9.symm
   clear hii9
   obtain ⟨V2,e,s2⟩:=takes_nameN (φ:=compFm (clF w) (lcScope (asVal (nthS (clI w) 2)))) (t:=(lcFirst (asVal (nthS (clI w) 2))).target) (d:=.int y) (V:=compVars (clF w) V (lcScope (asVal (nthS (clI w) 2)))) "step" (by kernel_rfl) (by kernel_rfl) V1 (compFz (clF w) (lcScope (asVal (nthS (clI w) 2)))) (upd (M i) nx (.list l)) (nx+1) hV1
   have edrop:=mv_drop (Nat.lt_of_lt_of_eq hp hn)
   have hr:(upd (M i) nx (.list l)) r=.list (natsD A ++ .int (mv.getD i 0:Nat) :: natsD (mv.drop (i+1) ++ B)):=by
    rw [upd_ne _ _ _ (Nat.ne_of_lt C.lr),hM]
    show vw x (clM m hd r H (A ++ mv.drop i ++ B)) L cs push kvs r=_
    rw [C.atr G,edrop]
    exact congrArg MO.list nats4
   have em:upd (upd (M i) nx (.list l)) r (.list (natsD A ++ natsD (mv.drop (i+1) ++ B)))=upd (M (i+1)) nx (.list l):=by
    rw [upd_comm _ (Nat.ne_of_gt C.lr),hM]
    show upd (upd (vw x (clM m hd r H (A ++ mv.drop i ++ B)) L cs push kvs) r _) nx _=upd (vw x (clM m hd r H (A ++ mv.drop (i+1) ++ B)) L cs push kvs) nx _
    rw [<- nats3,C.setr G]
   have el:ETr prog w (KK w) bt (k+1) (compFm (clF w) (lcScope (asVal (nthS (clI w) 2)))) (lcElt (asVal (nthS (clI w) 2))) ⟨("step",.d (.int y)) :: compVars (clF w) V (lcScope (asVal (nthS (clI w) 2))),compFz (clF w) (lcScope (asVal (nthS (clI w) 2))),upd (M i) nx (.list l),nx+1⟩ (.d (.int (mv.getD i 0:Nat)))
     ⟨("step",.d (.int y)) :: compVars (clF w) V (lcScope (asVal (nthS (clI w) 2))),compFz (clF w) (lcScope (asVal (nthS (clI w) 2))),upd (M (i+1)) nx (.list l),nx+1⟩:=by
    subst hV
    exact ETr.runE 20 [(cx prog w (k+1) (upd (M i) nx (.list l)) (nx+1)).mPop (.loc r) (natsD A ++ .int (mv.getD i 0:Nat) :: natsD (mv.drop (i+1) ++ B)) ⟨Nat.lt_succ_of_lt C.lr,hr⟩ trivial,
     (cx prog w (k+1) (upd (M i) nx (.list l)) (nx+1)).cPopAt r a (natsD A) (natsD (mv.drop (i+1) ++ B)) (.int (mv.getD i 0:Nat)) (by rw [natsD_len,<- ha]) (Nat.lt_succ_of_lt C.lr) hr (by rw [natsD_len,natsD_len]; simp; omega) _ em] (by kernel_rfl)
   have h0:VSub (compVars (clF w) V (lcScope (asVal (nthS (clI w) 2)))) (("step",.d (.int y)) :: compVars (clF w) V (lcScope (asVal (nthS (clI w) 2)))):=cons_sub (freshB_is (by subst hV; kernel_rfl))
   refine ⟨("step",.d (.int y)) :: compVars (clF w) V (lcScope (asVal (nthS (clI w) 2))),h0,_,e,.inl ⟨by kernel_rfl,?_⟩⟩
   have hrest:lcRest (asVal (nthS (clI w) 2)) = []:=by kernel_rfl
   rw [hrest]
   exact ⟨_,_,l,el.pre s2,Nat.lt_succ_self _,upd_at _ _ _,by omega,by rw [upd_same]⟩)
 obtain ⟨V2,acc,-,hacc,loop⟩:=loop
 have hfold:=(foldl_succ (List.range n) 0).trans ((Nat.zero_add _).trans List.length_range)
 rw [acc_nats mv (List.range n) 0 [] (by rw [List.length_range,Nat.zero_add,hn]; exact Nat.le_refl _),List.nil_append,List.drop_zero,List.length_range,hn,List.take_length] at hacc
 rw [hfold,hacc] at loop
 refine (STr.comp_ (st':=⟨setv "moved" (.d (.lst (natsD mv))) V,fz,upd (upd (M n) nx (.list (natsD mv))) nx .junk,nx+1⟩) (by kernel_rfl) (by kernel_rfl) first (hd' _ _) loop (upd_at _ _ _) true ?_).gc ?_ rfl (.set (.d _)) trivial
 ·subst hV
  rcases hfz with rfl | rfl
  ·kernel_rfl
  ·kernel_rfl
 ·have e9':M n=vw x (clM m hd r H (A ++ B)) L cs push kvs:=e9.symm
  have e0':M 0=vw x (clM m hd r H (A ++ mv ++ B)) L cs push kvs:=e0.symm
  show Low (M 0) nx (upd (upd (M n) nx (.list (natsD mv))) nx .junk) (nx+1) (M n) nx
  rw [e9',e0']
  exact C.low G (Nat.le_succ _) fun i hi=>by rw [upd_ne _ _ _ (Nat.ne_of_lt hi),upd_ne _ _ _ (Nat.ne_of_lt hi)]
end
end
section
noncomputable def stepJ (v:Nat) (z:List Nat × List Nat) (y:Nat):List Nat × List Nat:=(setH z.1 y v,insF (setH z.1 y v) z.2 y)
noncomputable def JOk (z:List Nat × List Nat):Prop:=HOk z.1 /\ RowOk z.1 z.2
theorem set_ok {H:List Nat} (h:HOk H) {y v:Nat} (hv:NmOk H v):HOk (setH H y v):=by
 refine ⟨by rw [setH_len]; exact h.1,fun u hu=>?_⟩
 unfold NmOk
 rw [setH_len]
 unfold setH at hu
 rcases List.mem_or_eq_of_mem_set hu with hu | rfl
 ·exact h.2 u hu
 ·exact hv
theorem nm_set {H:List Nat} {y v a:Nat}:NmOk (setH H y v) a ↔ NmOk H a:=by unfold NmOk; rw [setH_len]
theorem row_set {H row:List Nat} (h:RowOk H row) {y v:Nat} (hy:NmOk H y) (hn:y ∉ row):RowOk (setH H y v) row:=by
 refine ⟨h.1,fun z hz=>nm_set.mpr (h.2.1 z hz),?_⟩
 have e:∀ z ∈ row,hAt (setH H y v) z=hAt H z:=fun z hz=>hAt_set_ne hy.1 (h.2.1 z hz).1 fun q=>hn (q ▸ hz)
 exact h.2.2.imp_of_mem fun {a b} ha hb hab=>by rw [e a ha,e b hb]; exact hab
theorem mem_ins {H row:List Nat} {y z:Nat}:z ∈ insF H row y ↔ z=y \/ z ∈ row:=by
 unfold insF
 rw [List.mem_append,List.mem_cons]
 constructor
 ·rintro (h | h | h)
  ·exact .inr (List.mem_of_mem_take h)
  ·exact .inl h
  ·exact .inr (List.mem_of_mem_drop h)
 ·rintro (h | h)
  ·exact .inr (.inl h)
  ·have:z ∈ row.take (cLe H row (hAt H y)) ++ row.drop (cLe H row (hAt H y)):=by rw [List.take_append_drop]; exact h
   rcases List.mem_append.mp this with h | h
   ·exact .inl h
   ·exact .inr (.inr h)
theorem row_ins {H row:List Nat} (h:RowOk H row) {y:Nat} (hy:NmOk H y) (hn:y ∉ row):RowOk H (insF H row y):=by
 obtain ⟨c1,c2⟩:=cut_le h.2.2 (hAt H y)
 have et:=List.take_append_drop (cLe H row (hAt H y)) row
 refine ⟨?_,fun z hz=>?_,?_⟩
 ·have hnd:(row.take (cLe H row (hAt H y)) ++ row.drop (cLe H row (hAt H y))).Nodup:=by rw [et]; exact h.1
  unfold insF
  rw [List.nodup_append] at hnd ⊢
  obtain ⟨n1,n2,n3⟩:=hnd
  refine ⟨n1,List.nodup_cons.mpr ⟨fun q=>hn (List.mem_of_mem_drop q),n2⟩,fun a ha b hb=>?_⟩
  rcases List.mem_cons.mp hb with rfl | hb
  ·exact fun q=>hn (q ▸ List.mem_of_mem_take ha)
  ·exact n3 a ha b hb
 ·rcases mem_ins.mp hz with rfl | hz
  ·exact hy
  ·exact h.2.1 z hz
 ·have hp:(row.take (cLe H row (hAt H y)) ++ row.drop (cLe H row (hAt H y))).Pairwise fun a b=>hAt H a<=hAt H b:=by rw [et]; exact h.2.2
  unfold insF
  rw [List.pairwise_append] at hp ⊢
  obtain ⟨p1,p2,p3⟩:=hp
  have ht:∀ a ∈ row.take (cLe H row (hAt H y)),hAt H a<=hAt H y:=fun a ha=>by
   obtain ⟨i,hi,e⟩:=List.getElem_of_mem ha
   rw [List.length_take] at hi
   have hi1:i < cLe H row (hAt H y):=by omega
   have hi2:i < row.length:=by omega
   have:=c1 i hi1
   rw [List.getD_eq_getElem?_getD,List.getElem?_eq_getElem hi2] at this
   rw [List.getElem_take] at e
   rw [<- e]; exact this
  have hd:∀ a ∈ row.drop (cLe H row (hAt H y)),hAt H y<=hAt H a:=fun a ha=>by
   obtain ⟨i,hi,e⟩:=List.getElem_of_mem ha
   rw [List.length_drop] at hi
   have hi2:cLe H row (hAt H y)+i < row.length:=by omega
   have:=c2 (cLe H row (hAt H y)+i) (by omega) hi2
   rw [List.getD_eq_getElem?_getD,List.getElem?_eq_getElem hi2] at this
   rw [List.getElem_drop] at e
   rw [<- e]
   simp only [Option.getD_some] at this
   omega
  refine ⟨p1,List.pairwise_cons.mpr ⟨hd,p2⟩,fun a ha b hb=>?_⟩
  rcases List.mem_cons.mp hb with rfl | hb
  ·exact ht a ha
  ·exact p3 a ha b hb
theorem ins_len (H row:List Nat) (y:Nat):(insF H row y).length=row.length+1:=by
 unfold insF
 rw [List.length_append,List.length_cons,<- Nat.add_assoc,<- List.length_append,List.take_append_drop]
theorem stepJ_ok {z:List Nat × List Nat} (h:JOk z) {v y:Nat} (hy:NmOk z.1 y) (hv:NmOk z.1 v) (hn:y ∉ z.2):JOk (stepJ v z y):=
 ⟨set_ok h.1 hv,row_ins (row_set h.2 hy hn) (nm_set.mpr hy) hn⟩
theorem foldJ_ok (v:Nat):∀ (mv:List Nat) (z:List Nat × List Nat),JOk z->NmOk z.1 v->(∀ y ∈ mv,NmOk z.1 y)->mv.Nodup->(∀ y ∈ mv,y ∉ z.2)->JOk (mv.foldl (stepJ v) z) /\ (mv.foldl (stepJ v) z).1.length=z.1.length /\ (mv.foldl (stepJ v) z).2.length=z.2.length+mv.length /\ ∀ y,y ∈ (mv.foldl (stepJ v) z).2 ↔ y ∈ z.2 \/ y ∈ mv
 | [],z,h,_,_,_,_=>⟨h,rfl,rfl,fun y=>by simp⟩
 | a :: mv,z,h,hv,hm,hnd,hdis=>by
  rw [List.nodup_cons] at hnd
  have ha:=hm a (List.mem_cons_self ..)
  have h1:=stepJ_ok h ha hv (hdis a (List.mem_cons_self ..))
  obtain ⟨q1,q2,q3,q4⟩:=foldJ_ok v mv (stepJ v z a) h1 (nm_set.mpr hv) (fun y hy=>nm_set.mpr (hm y (List.mem_cons_of_mem _ hy))) hnd.2 fun y hy hy2=>by
   rcases mem_ins.mp hy2 with rfl | hy2
   ·exact hnd.1 hy
   ·exact hdis y (List.mem_cons_of_mem _ hy) hy2
  rw [List.foldl_cons]
  refine ⟨q1,by rw [q2]; exact setH_len ..,by rw [q3]; show (insF _ _ _).length+_=_; rw [ins_len,List.length_cons]; omega,fun y=>?_⟩
  rw [q4]
  show y ∈ insF _ _ _ \/ _ ↔ _
  rw [mem_ins,List.mem_cons]
  constructor
  ·rintro ((h | h) | h)
   ·exact .inr (.inl h)
   ·exact .inl h
   ·exact .inr (.inr h)
  ·rintro (h | h | h)
   ·exact .inl (.inr h)
   ·exact .inl (.inl h)
   ·exact .inr h
section
variable {prog:Program} {w:World} {k:Nat} {m:Nat->MO} {nx:Nat} {x:Ix} {L:Int} {cs:List Nat} {hd r tb:Nat} {cA:Addr} {H row:List Nat} {push:List D} {kvs:List (Str × Str)}
theorem join_body (C:ClAt x m nx hd r tb cA) (G:Good w x m nx) (hc:(clF w).code=some cA) (ts ps mvd:List D) (word:Str) (v gr c1 c2:Nat) (fz:List Str) (hfz:fz=(["heads", "heads"]:List Str) \/ fz=(["heads", "heads", "heads"]:List Str)) (y:Nat) (hJ:JOk (H,row)) (hy:NmOk H y) (hv:NmOk H v) (hn:y ∉ row) (hz:row.length<=500) :
  BTr prog w (KK w) bt (k+5) (clF w) (forBody (nthS (clI w) 3)) ⟨("other",.d (.int y)) :: setv "moved" (.d (.lst mvd)) (Vm x hd r ts ps word v gr c1 c2),fz,vw x (clM m hd r H row) L cs push kvs,nx⟩ .next
   ⟨setv "moved" (.d (.lst mvd)) (Vm x hd r ts ps word v gr c1 c2),fz,vw x (clM m hd r (stepJ v (H,row) y).1 (stepJ v (H,row) y).2) L cs push kvs,nx⟩:=by
 have hset:=set_ok (y:=y) hJ.1 hv
 have hrow:=row_set (v:=v) hJ.2 hy hn
 obtain ⟨M1,d1⟩ : ∃ z,z=vw x (clM m hd r H row) L cs push kvs:=⟨_,rfl⟩
 obtain ⟨M2,d2⟩ : ∃ z,z=vw x (clM m hd r (setH H y v) row) L cs push kvs:=⟨_,rfl⟩
 obtain ⟨M3,d3⟩ : ∃ z,z=vw x (clM m hd r (setH H y v) (insF (setH H y v) row y)) L cs push kvs:=⟨_,rfl⟩
 have a1:M1 hd=.dictI (hdD H):=by rw [d1,C.athd G]
 have a2:M2 hd=.dictI (hdD (setH H y v)):=by rw [d2,C.athd G]
 have a3:M2 r=.list (natsD row):=by rw [d2,C.atr G]
 have a4:M2 tb=.tab cA:=by rw [d2,C.attb G]
 have e1:upd M1 hd (.dictI (hdD (setH H y v)))=M2:=by rw [d1,d2,C.sethd G]
 have ir:=ir_row (prog:=prog) (w:=w) (k:=k+2) (m:=M2) (nx:=nx) C.lr C.lh a2 a3 hrow (by omega) y 2 (nm_set.mpr hy) (.inr (.inr rfl))
 have e2:upd M2 r (.list (natsD (insF (setH H y v) row y)))=M3:=by rw [d2,d3,C.setr G]
 rw [e2] at ir
 show BTr prog w (KK w) bt (k+5) (clF w) (forBody (nthS (clI w) 3)) _ _ ⟨_,fz,vw x (clM m hd r (setH H y v) (insF (setH H y v) row y)) L cs push kvs,nx⟩
 rw [<- d1,<- d3]
 have hdl:(hdD H).length<=100000:=by
  have:(hdD H).length=H.length:=hdFrom_len H 0
  rw [this]
  have:=hJ.1.1
  dsimp only at this
  omega
 have st:=(cx prog w (k+5) M1 nx).setDI hd (hdD H) (hdD (setH H y v)) y (.int v) (store_hd hy) C.lh a1 hdl M2 e1
 rcases hfz with rfl | rfl
 ·have lam:ETr prog w (KK w) bt (k+5) (clF w) (keyE w 2) ⟨("other",.d (.int y)) :: setv "moved" (.d (.lst mvd)) (Vm x hd r ts ps word v gr c1 c2),["heads", "heads"],M2,nx⟩ (keyAV w 2 hd) ⟨("other",.d (.int y)) :: setv "moved" (.d (.lst mvd)) (Vm x hd r ts ps word v gr c1 c2),["heads", "heads", "heads"],M2,nx⟩:=
   ETr.lamE (by kernel_rfl) (by kernel_rfl) hc C.lt a4 (by kernel_rfl) (by kernel_rfl) _ (by kernel_rfl)
  refine BTr.refz (fz:=["heads", "heads", "heads"]) (BTr.runS 60 [(cx prog w (k+5) M1 nx).setDI hd (hdD H) (hdD (setH H y v)) y (.int v) (store_hd hy) C.lh a1 hdl M2 e1,.lam lam,.call ir] (by kernel_rfl)) (by intro z; simp)
 ·have lam:ETr prog w (KK w) bt (k+5) (clF w) (keyE w 2) ⟨("other",.d (.int y)) :: setv "moved" (.d (.lst mvd)) (Vm x hd r ts ps word v gr c1 c2),["heads", "heads", "heads"],M2,nx⟩ (keyAV w 2 hd) ⟨("other",.d (.int y)) :: setv "moved" (.d (.lst mvd)) (Vm x hd r ts ps word v gr c1 c2),["heads", "heads", "heads", "heads"],M2,nx⟩:=
   ETr.lamE (by kernel_rfl) (by kernel_rfl) hc C.lt a4 (by kernel_rfl) (by kernel_rfl) _ (by kernel_rfl)
  refine BTr.refz (fz:=["heads", "heads", "heads", "heads"]) (BTr.runS 60 [(cx prog w (k+5) M1 nx).setDI hd (hdD H) (hdD (setH H y v)) y (.int v) (store_hd hy) C.lh a1 hdl M2 e1,.lam lam,.call ir] (by kernel_rfl)) (by intro z; simp)
theorem join_str (C:ClAt x m nx hd r tb cA) (G:Good w x m nx) (hc:(clF w).code=some cA) (ts ps:List D) (word:Str) (v gr c1 c2:Nat) (fz:List Str) (hfz:fz=(["heads", "heads"]:List Str) \/ fz=(["heads", "heads", "heads"]:List Str)) (mv:List Nat) (hJ:JOk (H,row)) (hv:NmOk H v) (hm:∀ y ∈ mv,NmOk H y) (hnd:mv.Nodup) (hdis:∀ y ∈ mv,y ∉ row) (hz:row.length+mv.length<=500) :
  STr prog w (KK w) bt (k+5) (clF w) (nthS (clI w) 3) ⟨setv "moved" (.d (.lst (natsD mv))) (Vm x hd r ts ps word v gr c1 c2),fz,vw x (clM m hd r H row) L cs push kvs,nx⟩ .next
   ⟨setv "moved" (.d (.lst (natsD mv))) (Vm x hd r ts ps word v gr c1 c2),fz,vw x (clM m hd r (mv.foldl (stepJ v) (H,row)).1 (mv.foldl (stepJ v) (H,row)).2) L cs push kvs,nx⟩:=by
 refine STr.forP (.d (.lst (natsD mv))) (natsD mv) 20 [] (by kernel_rfl) (by rcases hfz with rfl | rfl <;> kernel_rfl) rfl ?_
 refine for_fold (V:=fun _=>setv "moved" (.d (.lst (natsD mv))) (Vm x hd r ts ps word v gr c1 c2)) (M:=fun z:List Nat × List Nat=>vw x (clM m hd r z.1 z.2) L cs push kvs) (step:=stepJ v) (gD:=fun y:Nat=>.int y) (VX:=fun _ y=>("other",.d (.int y)) :: setv "moved" (.d (.lst (natsD mv))) (Vm x hd r ts ps word v gr c1 c2)) mv (H,row) _ (.refl _) (fun pre y post he=>?_) rfl
 have hpm:∀ z ∈ pre,z ∈ mv:=fun z hz=>by rw [he]; simp [hz]
 have hnd':(pre ++ y :: post).Nodup:=he ▸ hnd
 rw [List.nodup_append] at hnd'
 obtain ⟨n1,n2,n3⟩:=hnd'
 obtain ⟨q1,q2,q3,q4⟩:=foldJ_ok v pre (H,row) hJ hv (fun z hz=>hm z (hpm z hz)) n1 fun z hz=>hdis z (hpm z hz)
 have hpl:pre.length<=mv.length:=by have:=congrArg List.length he; simp at this; omega
 refine ⟨rfl,takes_nameN "other" (by kernel_rfl) (by kernel_rfl),.next,_,.inl rfl,?_,.refl _⟩
 have hym:y ∈ mv:=by rw [he]; simp
 generalize hz99:pre.foldl (stepJ v) (H,row)=z at q1 q2 q3 q4 ⊢
 have hz9:=hz99.symm
 clear hz99
 obtain ⟨H',row'⟩:=z
 dsimp only at *
 have nm:∀ a,NmOk H a->NmOk H' a:=fun a ha=>by unfold NmOk at ha ⊢; rw [q2]; exact ha
 exact join_body C G hc ts ps (natsD mv) word v gr c1 c2 fz hfz y q1 (nm _ (hm y hym)) (nm _ hv) (fun hy2=>by
  rcases (q4 y).mp hy2 with h | h
  ·exact hdis y hym h
  ·exact n3 y h y (List.mem_cons_self ..) rfl) (by omega)
end
end
section
noncomputable def splitChk (a b:Nat):Bool:=decide (Txt.split (pairT a b) " " = [decS a,decS b]) && Nat.ble (Builtin.Str.partsBetween (pairT a b) (Builtin.Str.occurrences (pairT a b) " " 0 (pairT a b).length ((pairT a b).length+1)) (" " : Str).length).length 100 && Nat.ble (pairT a b).length 100 && !(decide (pairT a b=Str.empty))
theorem split_all:((List.range 7).all fun i=>(List.range 7).all fun j=>splitChk (i+256) (j+256))=true:=by kernel_rfl
theorem split_ok {a b:Nat} (ha:256<=a /\ a < 263) (hb:256<=b /\ b < 263):splitChk a b=true:=by
 have h1:=List.all_eq_true.mp split_all (a - 256) (List.mem_range.mpr (by omega))
 have h2:=List.all_eq_true.mp h1 (b - 256) (List.mem_range.mpr (by omega))
 rw [show a - 256+256=a by omega,show b - 256+256=b by omega] at h2
 exact h2
structure PS where
 H:List Nat
 row:List Nat
 T:Tbl
 Q:Que
noncomputable def mvOf (H row:List Nat) (v:Nat):List Nat:=(row.drop (cLt H row v)).take (cLe H row v - cLt H row v)
noncomputable def joinF (H row:List Nat) (le gr:Nat):List Nat × List Nat:=(mvOf H row gr).foldl (stepJ le) (H,row.take (cLt H row gr) ++ row.drop (cLe H row gr))
noncomputable def stepC (ts:List T4) (s:PS):PS:=match s.Q with
 | []=>s
 | (a,b) :: Q'=>if hAt s.H a=hAt s.H b then ⟨s.H,s.row,s.T,Q'⟩ else
  ⟨(joinF s.H s.row (min (hAt s.H a) (hAt s.H b)) (max (hAt s.H a) (hAt s.H b))).1,(joinF s.H s.row (min (hAt s.H a) (hAt s.H b)) (max (hAt s.H a) (hAt s.H b))).2,
   (noteF (joinF s.H s.row (min (hAt s.H a) (hAt s.H b)) (max (hAt s.H a) (hAt s.H b))).1 ts (s.T,Q')).1,(noteF (joinF s.H s.row (min (hAt s.H a) (hAt s.H b)) (max (hAt s.H a) (hAt s.H b))).1 ts (s.T,Q')).2⟩
structure POk (ts:List T4) (s:PS):Prop where
 j:JOk (s.H,s.row)
 z:ZOk s.H (s.T,s.Q)
 n:s.H.length<=7
 t:∀ t ∈ ts,TermOk s.H t
 l:s.row.length<=100
theorem cLt_le (H row:List Nat) (v:Nat):cLt H row v<=cLe H row v:=List.countP_mono_left fun x _ h=>by simp at h ⊢; omega
theorem cLe_len (H row:List Nat) (v:Nat):cLe H row v<=row.length:=List.countP_le_length
theorem row_cut (H row:List Nat) (v:Nat):row=row.take (cLt H row v) ++ mvOf H row v ++ row.drop (cLe H row v):=by
 have h:=cLt_le H row v
 have e:row.drop (cLe H row v)=(row.drop (cLt H row v)).drop (cLe H row v - cLt H row v):=by rw [List.drop_drop,Nat.add_sub_of_le h]
 unfold mvOf
 rw [e,List.append_assoc,List.take_append_drop,List.take_append_drop]
theorem mv_len (H row:List Nat) (v:Nat):(mvOf H row v).length=cLe H row v - cLt H row v:=by
 unfold mvOf
 rw [List.length_take,List.length_drop]
 exact Nat.min_eq_left (Nat.sub_le_sub_right (cLe_len H row v) _)
theorem cut_facts {H row:List Nat} (h:RowOk H row) (v:Nat):(mvOf H row v).Nodup /\ (∀ y ∈ mvOf H row v,y ∈ row) /\ (∀ y ∈ mvOf H row v,y ∉ row.take (cLt H row v) ++ row.drop (cLe H row v)) /\ RowOk H (row.take (cLt H row v) ++ row.drop (cLe H row v)):=by
 have e:=row_cut H row v
 have hnd:=h.1
 rw [e] at hnd
 rw [List.nodup_append,List.nodup_append] at hnd
 obtain ⟨⟨n1,n2,n3⟩,n4,n5⟩:=hnd
 have hsub:(row.take (cLt H row v) ++ row.drop (cLe H row v)).Sublist row:=by
  conv=>rhs; rw [e]
  exact (List.sublist_append_left _ _).append (List.Sublist.refl _)
 refine ⟨n2,fun y hy=>List.mem_of_mem_drop (List.mem_of_mem_take hy),fun y hy hy2=>?_,hsub.nodup h.1,fun y hy=>h.2.1 y (hsub.subset hy),h.2.2.sublist hsub⟩
 rcases List.mem_append.mp hy2 with q | q
 ·exact n3 y q y hy rfl
 ·exact n5 y (List.mem_append.mpr (.inr hy)) y q rfl
theorem nm_min {H:List Nat} {a b:Nat} (ha:NmOk H a) (hb:NmOk H b):NmOk H (min a b) /\ NmOk H (max a b):=⟨(Nat.le_total a b).elim (fun h=>(Nat.min_eq_left h).symm ▸ ha) fun h=>(Nat.min_eq_right h).symm ▸ hb,(Nat.le_total a b).elim (fun h=>(Nat.max_eq_right h).symm ▸ hb) fun h=>(Nat.max_eq_left h).symm ▸ ha⟩
theorem join_ok {H row:List Nat} (hJ:JOk (H,row)) {le gr:Nat} (hle:NmOk H le):JOk (joinF H row le gr) /\ (joinF H row le gr).1.length=H.length /\ (joinF H row le gr).2.length=row.length /\ ∀ y,y ∈ (joinF H row le gr).2 ↔ y ∈ row:=by
 obtain ⟨c1,c2,c3,c4⟩:=cut_facts hJ.2 gr
 obtain ⟨q1,q2,q3,q4⟩:=foldJ_ok le (mvOf H row gr) (H,row.take (cLt H row gr) ++ row.drop (cLe H row gr)) ⟨hJ.1,c4⟩ hle (fun y hy=>hJ.2.2.1 y (c2 y hy)) c1 c3
 refine ⟨q1,q2,?_,fun y=>?_⟩
 ·unfold joinF
  rw [q3]
  have:=congrArg List.length (row_cut H row gr)
  simp only [List.length_append] at this ⊢
  omega
 ·unfold joinF
  rw [q4]
  conv=>rhs; rw [row_cut H row gr]
  simp only [List.mem_append]
  constructor
  ·rintro ((h | h) | h)
   ·exact .inl (.inl h)
   ·exact .inr h
   ·exact .inl (.inr h)
  ·rintro ((h | h) | h)
   ·exact .inl (.inl h)
   ·exact .inr h
   ·exact .inl (.inr h)
theorem zok_len {H H':List Nat} (h:H'.length=H.length) {z:Tbl × Que} (hz:ZOk H z):ZOk H' z:=by
 have e:∀ a,NmOk H' a ↔ NmOk H a:=fun a=>by unfold NmOk; rw [h]
 exact ⟨fun y hy=>⟨(hz.1 y hy).1,(e _).mpr (hz.1 y hy).2⟩,fun q hq=>⟨(e _).mpr (hz.2 q hq).1,(e _).mpr (hz.2 q hq).2⟩⟩
theorem term_len {H H':List Nat} (h:H'.length=H.length) {t:T4} (ht:TermOk H t):TermOk H' t:=by
 have e:∀ a,NmOk H' a ↔ NmOk H a:=fun a=>by unfold NmOk; rw [h]
 exact ⟨(e _).mpr ht.1,ht.2.1,(e _).mpr ht.2.2.1,(e _).mpr ht.2.2.2⟩
theorem stepC_ok {ts:List T4} {s:PS} (h:POk ts s):POk ts (stepC ts s) /\ (stepC ts s).H.length=s.H.length /\ (stepC ts s).T.length<=s.T.length+ts.length /\ (stepC ts s).Q.length<=s.Q.length+ts.length:=by
 obtain ⟨H,row,T,Q⟩:=s
 unfold stepC
 induction Q using List.casesOn with
 | nil=>exact ⟨h,rfl,Nat.le_add_right _ _,Nat.le_add_right _ _⟩
 | cons q Q'=>
  obtain ⟨a,b⟩:=q
  dsimp only
  obtain ⟨j,z,n,t,l⟩:=h
  dsimp only at j z n t l
  have hz':ZOk H (T,Q'):=⟨z.1,fun q hq=>z.2 q (List.mem_cons_of_mem _ hq)⟩
  split
  ·exact ⟨⟨j,hz',n,t,l⟩,rfl,Nat.le_add_right _ _,by dsimp only; rw [List.length_cons]; omega⟩
  ·obtain ⟨ha,hb⟩:=z.2 (a,b) (List.mem_cons_self ..)
   have hle:=(nm_min (hAt_ok j.1 ha) (hAt_ok j.1 hb)).1
   obtain ⟨q1,q2,q3,q4⟩:=join_ok (gr:=max (hAt H a) (hAt H b)) j hle
   obtain ⟨w1,w2⟩:=noteF_len (joinF H row (min (hAt H a) (hAt H b)) (max (hAt H a) (hAt H b))).1 ts (T,Q')
   refine ⟨⟨q1,?_,by dsimp only; rw [q2]; exact n,fun y hy=>term_len q2 (t y hy),by dsimp only; rw [q3]; exact l⟩,q2,w1,?_⟩
   ·exact noteF_ok q1.1 (zok_len q2 hz') fun y hy=>term_len q2 (t y hy)
   ·dsimp only at w2 ⊢
    rw [List.length_cons]
    omega
section
variable {prog:Program} {w:World} {k:Nat} {m:Nat->MO} {nx:Nat} {x:Ix} {L:Int} {cs:List Nat} {hd r tb:Nat} {cA:Addr}
noncomputable def Vc (x:Ix) (hd r:Nat) (ts ps:List D):List (Str × AV):=[("lexer",.loc x.n),("terms",.d (.lst ts)),("pairs",.d (.lst ps)),("heads",.loc hd),("row",.loc r),("table",.loc x.h)]
noncomputable abbrev clS (x:Ix) (m:Nat->MO) (hd r:Nat) (L:Int) (cs:List Nat) (s:PS):Nat->MO:=vw x (clM m hd r s.H s.row) L cs (pushD s.Q) (tblKv s.T)
theorem pair_comp {M:Nat->MO} {H:List Nat} {a b:Nat} (hlh:hd < nx) (hM:M hd=.dictI (hdD H)) (hn:H.length<=7) (ha:NmOk H a) (hb:NmOk H b) (ts ps:List D) (fz:List Str) (hfz:fz=([]:List Str) \/ fz=(["heads"]:List Str)) :
  ETr prog w (KK w) bt k (clF w) (cArg 0 (asVal (nthS (clB w) 2))) ⟨Vc x hd r ts ps ++ ([("word",.d (.str (pairT a b)))]:List (Str × AV)),fz,M,nx⟩ (.d (.lst [.int (hAt H a),.int (hAt H b)])) ⟨Vc x hd r ts ps ++ ([("word",.d (.str (pairT a b)))]:List (Str × AV)),fz,M,nx⟩:=by
 have hs:=split_ok (a:=a) (b:=b) (by have:=ha.1; have:=ha.2; omega) (by have:=hb.1; have:=hb.2; omega)
 unfold splitChk at hs
 rw [Bool.and_eq_true,Bool.and_eq_true,Bool.and_eq_true] at hs
 obtain ⟨⟨⟨s1,s2⟩,s3⟩,s4⟩:=hs
 have s1:=of_decide_eq_true s1
 have s2:=Nat.le_of_ble_eq_true s2
 have s3:=Nat.le_of_ble_eq_true s3
 generalize hwd9:pairT a b=wd at s1 s2 s3 ⊢
 have hwd:=hwd9.symm
 clear hwd9
 generalize hV9:Vc x hd r ts ps ++ ([("word",.d (.str wd))]:List (Str × AV))=V
 have hV:=hV9.symm
 clear hV9
 have e:([D.int (hAt H a),.int (hAt H b)]:List D) = [a,b].map fun y=>D.int (hAt H y:Nat):=rfl
 rw [e]
 have first:ETr prog w (KK w) bt k (clF w) (lcFirst (cArg 0 (asVal (nthS (clB w) 2)))).iter ⟨V,fz,M,nx⟩ (.d (.lst (strDs [decS a,decS b]))) ⟨V,fz,M,nx⟩:=by
  subst hV
  rcases hfz with rfl | rfl
  ·exact ETr.runE 20 [(cx prog w k M nx).mSplit wd,(cx prog w k M nx).cSplit wd " " [decS a,decS b] s1 (by kernel_rfl) (by rw [sizeLine_eq]; omega) (by rw [sizeLine_eq]; omega)] (by kernel_rfl)
  ·exact ETr.runE 20 [(cx prog w k M nx).mSplit wd,(cx prog w k M nx).cSplit wd " " [decS a,decS b] s1 (by kernel_rfl) (by rw [sizeLine_eq]; omega) (by rw [sizeLine_eq]; omega)] (by kernel_rfl)
 refine ETr.ofLoop (by kernel_rfl) first rfl (loop1n (st:=⟨V,fz,M,nx⟩) (a:=.d (.lst (strDs [decS a,decS b]))) (xs:=[a,b]) (gD:=fun y=>.str (decS y)) (by kernel_rfl) (by kernel_rfl) rfl (tgt_nameN "part" (by kernel_rfl) (by kernel_rfl) (by subst hV; kernel_rfl)) (fun y hy l=>?_) (show 2<=100000 by decide))
 have hy':NmOk H y:=by
  simp only [List.mem_cons,List.not_mem_nil,or_false] at hy
  rcases hy with rfl | rfl
  ·exact ha
  ·exact hb
 have y6:y < 600:=by have:=hy'.2; omega
 have hM':(upd M nx (.list l)) hd=.dictI (hdD H):=(upd_ne _ _ _ (Nat.ne_of_lt hlh)).trans hM
 subst hV
 exact ETr.runE 20 [(cx prog w k (upd M nx (.list l)) (nx+1)).intS (decS y) y (dec_ok y6).1 (by have:=(dec_ok y6).2.2.1; omega),(cx prog w k (upd M nx (.list l)) (nx+1)).itemDI hd (hdD H) y (.int (hAt H y)) (Nat.lt_succ_of_lt hlh) hM' (hd_look hy'.1 hy'.2)] (by kernel_rfl)
theorem sort2 (a b:Nat):([(a:Int),(b:Int)].mergeSort (fun x y=>decide (x<=y))) = [((min a b:Nat):Int),((max a b:Nat):Int)]:=by
 refine sorted_eq ?_ ?_
 ·by_cases h:a<=b
  ·rw [Nat.min_eq_left h,Nat.max_eq_right h]
  ·rw [Nat.min_eq_right (by omega),Nat.max_eq_left (by omega)]
   exact List.Perm.swap ..
 ·simp
  omega
theorem c_sort2 {M:Nat->MO} (a b:Nat):CallTr prog w (KK w) bt k (.k (.builtin "sorted")) [.d (.lst [.int a,.int b])] [] M nx (.d (.lst [.int (min a b:Nat),.int (max a b:Nat)])) M nx:=by
 have:=c_sorted (prog:=prog) (w:=w) (K:=KK w) (btab:=bt) (k:=k) (m:=M) (nx:=nx) (a:=.d (.lst [.int a,.int b])) (ns:=[(a:Int),(b:Int)]) rfl trivial (show 2 < 64 by decide)
 rw [sort2] at this
 exact this
end
end
section
section
variable {prog:Program} {w:World} {k:Nat} {m:Nat->MO} {nx:Nat} {x:Ix} {L:Int} {hd r tb:Nat} {cA:Addr}
theorem cl_true {st:St}:TTr prog w (KK w) bt k (clF w) (whTest (clW w)) st true st:=TTr.runE 20 [.br true true rfl] (by kernel_rfl)
theorem pair_ne {a b:Nat} (ha:256<=a /\ a < 263) (hb:256<=b /\ b < 263):pairT a b ≠ Str.empty:=by
 have hs:=split_ok ha hb
 unfold splitChk at hs
 rw [Bool.and_eq_true] at hs
 have:=hs.2
 simpa using this
theorem cl_skip (C:ClAt x m nx hd r tb cA) (G:Good w x m nx) (ts:List T4) (ps:List D) (s:PS) (h:POk ts s) {a b:Nat} {Q':Que} (hQ:s.Q=(a,b) :: Q') (he:hAt s.H a=hAt s.H b) (hq:Q'.length<=9000) (fz:List Str) (hfz:fz=([]:List Str) \/ fz=(["heads"]:List Str)) :
  BTr prog w (KK w) bt (k+6) (clF w) (clB w) ⟨Vc x hd r (tsD ts) ps,fz,clS x m hd r L [] s,nx⟩ .next ⟨Vc x hd r (tsD ts) ps,fz,clS x m hd r L [] (stepC ts s),nx⟩:=by
 rcases s with ⟨H,row,T,Q⟩
 dsimp only at hQ he
 subst hQ
 rcases h with ⟨hj,hz,hn,ht,hl⟩
 dsimp only at hj hz hn ht hl
 obtain ⟨ha,hb⟩:=hz.2 (a,b) (List.mem_cons_self ..)
 have e:stepC ts ⟨H,row,T,(a,b) :: Q'⟩ = ⟨H,row,T,Q'⟩:=by unfold stepC; dsimp only; rw [if_pos he]
 rw [e]
 have G1:=C.good G (H:=H) (row:=row)
 have S:=G.sep
 have X:=G1.lex (L:=L) (cs:=[]) (push:=pushD ((a,b) :: Q')) (kvs:=tblKv T)
 have gp:=gt_push (prog:=prog) (k:=k+5) (.str (pairT a b)) (pushD Q') X (by unfold pushD; rw [List.length_map]; omega)
 rw [vw_push S] at gp
 have x1:=X.i1
 have x2:=X.i2
 show BTr prog w (KK w) bt (k+6) (clF w) (clB w) ⟨_,fz,vw x (clM m hd r H row) L [] (pushD ((a,b) :: Q')) (tblKv T),nx⟩ .next ⟨_,fz,vw x (clM m hd r H row) L [] (pushD Q') (tblKv T),nx⟩
 generalize d19:vw x (clM m hd r H row) L [] (pushD ((a,b) :: Q')) (tblKv T)=M1 at x1 x2 gp ⊢
 have d1:=d19.symm
 clear d19
 generalize d29:vw x (clM m hd r H row) L [] (pushD Q') (tblKv T)=M2 at gp ⊢
 have d2:=d29.symm
 clear d29
 have m2:M2 hd=.dictI (hdD H):=by rw [d2,C.athd G]
 have pc:=pair_comp (prog:=prog) (w:=w) (k:=k+6) (x:=x) (r:=r) C.lh m2 hn ha hb (tsD ts) ps fz hfz
 have sr:=c_sort2 (prog:=prog) (w:=w) (k:=k+6) (M:=M2) (nx:=nx) (hAt H a) (hAt H b)
 have pn:=pair_ne (a:=a) (b:=b) (by have:=ha.1; have:=ha.2; omega) (by have:=hb.1; have:=hb.2; omega)
 have em:min (hAt H a) (hAt H b)=max (hAt H a) (hAt H b):=by rw [he]; omega
 obtain ⟨le,hle⟩ : ∃ y,y=min (hAt H a) (hAt H b):=⟨_,rfl⟩
 rw [<- em,<- hle] at sr
 obtain ⟨wd,hwd⟩ : ∃ y,y=pairT a b:=⟨_,rfl⟩
 rw [<- hwd] at pn gp pc
 rcases hfz with rfl | rfl
 ·exact BTr.runS 60 [(cx prog w (k+6) M1 nx).mFn x.n x.j (netC w) (gtA w) (lexNs L (.loc x.s) x.p) "get_token" X.ln x1 x2 (by kernel_rfl) (by kernel_rfl),.call gp.call,.brF (wd=Str.empty) pn,.comp pc,.call sr,.br (!decide ((le:Int)=(le:Int))) false (by simp)] (by kernel_rfl)
 ·exact BTr.runS 60 [(cx prog w (k+6) M1 nx).mFn x.n x.j (netC w) (gtA w) (lexNs L (.loc x.s) x.p) "get_token" X.ln x1 x2 (by kernel_rfl) (by kernel_rfl),.call gp.call,.brF (wd=Str.empty) pn,.comp pc,.call sr,.br (!decide ((le:Int)=(le:Int))) false (by simp)] (by kernel_rfl)
theorem cl_join (C:ClAt x m nx hd r tb cA) (G:Good w x m nx) (hc:(clF w).code=some cA) (ts:List T4) (ps:List D) (s:PS) (h:POk ts s) {a b:Nat} {Q':Que} (hQ:s.Q=(a,b) :: Q') (he:¬ hAt s.H a=hAt s.H b) (hq:Q'.length+ts.length<=9000) (ht9:s.T.length+ts.length<=9000) (fz:List Str) (hfz:fz=([]:List Str) \/ fz=(["heads"]:List Str)) :
  BTr prog w (KK w) bt (k+6) (clF w) (clB w) ⟨Vc x hd r (tsD ts) ps,fz,clS x m hd r L [] s,nx⟩ .next ⟨Vc x hd r (tsD ts) ps,["heads"],clS x m hd r L [] (stepC ts s),nx⟩:=by
 rcases s with ⟨H,row,T,Q⟩
 dsimp only at hQ he ht9
 subst hQ
 rcases h with ⟨hj,hz,hn,ht,hl⟩
 dsimp only at hj hz hn ht hl
 obtain ⟨ha,hb⟩:=hz.2 (a,b) (List.mem_cons_self ..)
 obtain ⟨le,hle⟩ : ∃ y,y=min (hAt H a) (hAt H b):=⟨_,rfl⟩
 obtain ⟨gr,hgr⟩ : ∃ y,y=max (hAt H a) (hAt H b):=⟨_,rfl⟩
 have nle:NmOk H le:=by rw [hle]; exact (nm_min (hAt_ok hj.1 ha) (hAt_ok hj.1 hb)).1
 obtain ⟨z,hzj⟩ : ∃ y,y=joinF H row le gr:=⟨_,rfl⟩
 have e:stepC ts ⟨H,row,T,(a,b) :: Q'⟩ = ⟨z.1,z.2,(noteF z.1 ts (T,Q')).1,(noteF z.1 ts (T,Q')).2⟩:=by unfold stepC; dsimp only; rw [if_neg he,<- hle,<- hgr,<- hzj]
 rw [e]
 have hne:(le:Int) ≠ (gr:Int):=by rw [hle,hgr]; omega
 obtain ⟨c1,c2,c3,c4⟩:=cut_facts hj.2 gr
 obtain ⟨q1,q2,q3,q4⟩:=join_ok (gr:=gr) hj nle
 rw [<- hzj] at q1 q2 q3 q4
 have G1:=C.good G (H:=H) (row:=row)
 have S:=G.sep
 have X:=G1.lex (L:=L) (cs:=[]) (push:=pushD ((a,b) :: Q')) (kvs:=tblKv T)
 have gp:=gt_push (prog:=prog) (k:=k+5) (.str (pairT a b)) (pushD Q') X (by unfold pushD; rw [List.length_map]; omega)
 rw [vw_push S] at gp
 obtain ⟨lo,hlo⟩ : ∃ y,y=cLt H row gr:=⟨_,rfl⟩
 obtain ⟨hi,hhi⟩ : ∃ y,y=cLe H row gr:=⟨_,rfl⟩
 have hlh:lo<=hi:=by rw [hlo,hhi]; exact cLt_le H row gr
 have hhl:hi<=row.length:=by rw [hhi]; exact cLe_len H row gr
 obtain ⟨A,hA⟩ : ∃ y,y=row.take lo:=⟨_,rfl⟩
 obtain ⟨B,hB⟩ : ∃ y,y=row.drop hi:=⟨_,rfl⟩
 obtain ⟨mv,hmv⟩ : ∃ y,y=mvOf H row gr:=⟨_,rfl⟩
 have hrow:row=A ++ mv ++ B:=by
  have:=row_cut H row gr
  rw [<- hlo,<- hhi,<- hA,<- hB,<- hmv] at this
  exact this
 have lA:A.length=lo:=by rw [hA,List.length_take]; omega
 have lm:lo+mv.length=hi:=by rw [hmv,mv_len,<- hlo,<- hhi]; omega
 have zJ:z=mv.foldl (stepJ le) (H,A ++ B):=by rw [hzj,hmv,hA,hB,hlo,hhi]; rfl
 rw [<- hlo,<- hhi,<- hA,<- hB] at c3 c4
 rw [<- hmv] at c1 c2 c3
 obtain ⟨M2,d2⟩ : ∃ y,y=vw x (clM m hd r H row) L [] (pushD Q') (tblKv T):=⟨_,rfl⟩
 obtain ⟨M3,d3⟩ : ∃ y,y=vw x (clM m hd r H (A ++ B)) L [] (pushD Q') (tblKv T):=⟨_,rfl⟩
 obtain ⟨M4,d4⟩ : ∃ y,y=vw x (clM m hd r z.1 z.2) L [] (pushD Q') (tblKv T):=⟨_,rfl⟩
 have x1:=X.i1
 have x2:=X.i2
 show BTr prog w (KK w) bt (k+6) (clF w) (clB w) ⟨_,fz,vw x (clM m hd r H row) L [] (pushD ((a,b) :: Q')) (tblKv T),nx⟩ .next ⟨_,_,vw x (clM m hd r z.1 z.2) L [] (pushD (noteF z.1 ts (T,Q')).2) (tblKv (noteF z.1 ts (T,Q')).1),nx⟩
 generalize d19:vw x (clM m hd r H row) L [] (pushD ((a,b) :: Q')) (tblKv T)=M1 at x1 x2 gp ⊢
 have d1:=d19.symm
 clear d19
 rw [<- d2] at gp
 generalize d59:vw x (clM m hd r z.1 z.2) L [] (pushD (noteF z.1 ts (T,Q')).2) (tblKv (noteF z.1 ts (T,Q')).1)=M5
 have d5:=d59.symm
 clear d59
 have m2:M2 hd=.dictI (hdD H):=by rw [d2,C.athd G]
 have r2:M2 r=.list (natsD row):=by rw [d2,C.atr G]
 have t2:M2 tb=.tab cA:=by rw [d2,C.attb G]
 have pc:=pair_comp (prog:=prog) (w:=w) (k:=k+6) (x:=x) (r:=r) C.lh m2 hn ha hb (tsD ts) ps fz hfz
 have sr:=c_sort2 (prog:=prog) (w:=w) (k:=k+6) (M:=M2) (nx:=nx) (hAt H a) (hAt H b)
 rw [<- hle,<- hgr] at sr
 have pn:=pair_ne (a:=a) (b:=b) (by have:=ha.1; have:=ha.2; omega) (by have:=hb.1; have:=hb.2; omega)
 have bl:=bl_row (prog:=prog) (w:=w) (k:=k+4) (m:=M2) (nx:=nx) C.lr C.lh m2 r2 hj.2 (by omega) gr 0 (.inl rfl)
 have br:=br_row (prog:=prog) (w:=w) (k:=k+4) (m:=M2) (nx:=nx) C.lr C.lh m2 r2 hj.2 (by omega) gr 1 (.inr (.inl rfl))
 rw [<- hlo] at bl
 rw [<- hhi] at br
 have nt:=note_tr (prog:=prog) (w:=w) (k:=k+1) (x:=x) (m:=clM m hd r z.1 z.2) (nx:=nx) (L:=L) (cs:=[]) (C.good G) (H:=z.1) q1.1 C.h1 C.lh (by unfold clM; rw [upd_ne _ _ _ C.hr,upd_at]) ts (T,Q') (zok_len q2 ⟨hz.1,fun q hq=>hz.2 q (List.mem_cons_of_mem _ hq)⟩) ht9 hq (fun t htm=>term_len q2 (ht t htm))
 rw [<- d4,<- d5] at nt
 obtain ⟨wd,hwd⟩ : ∃ y,y=pairT a b:=⟨_,rfl⟩
 rw [<- hwd] at pn gp pc
 rcases hfz with rfl | rfl
 ·have mst:=moved_str (prog:=prog) (w:=w) (k:=k+5) (L:=L) (cs:=[]) (push:=pushD Q') (kvs:=tblKv T) (H:=H) C G (tsD ts) ps wd le gr A mv B (by rw [<- hrow]; omega) ["heads", "heads"] (.inl rfl)
  rw [<- hrow,lA,lm,<- d2,<- d3] at mst
  have jst:=join_str (prog:=prog) (w:=w) (k:=k+1) (L:=L) (cs:=[]) (push:=pushD Q') (kvs:=tblKv T) (H:=H) (row:=A ++ B) C G hc (tsD ts) ps wd le gr lo hi ["heads", "heads"] (.inl rfl) mv ⟨hj.1,c4⟩ nle (fun y hy=>hj.2.2.1 y (c2 y hy)) c1 c3 (by have:=congrArg List.length hrow; simp only [List.length_append] at this ⊢; omega)
  rw [<- zJ,<- d3,<- d4] at jst
  have lam0:ETr prog w (KK w) bt (k+6) (clF w) (keyE w 0) ⟨Vc x hd r (tsD ts) ps ++ ([("word",.d (.str wd)),("lesser",.d (.int le)),("greater",.d (.int gr))]:List (Str × AV)),[],M2,nx⟩ (keyAV w 0 hd) ⟨Vc x hd r (tsD ts) ps ++ ([("word",.d (.str wd)),("lesser",.d (.int le)),("greater",.d (.int gr))]:List (Str × AV)),["heads"],M2,nx⟩:=
   ETr.lamE (by kernel_rfl) (by kernel_rfl) hc C.lt t2 (by kernel_rfl) (by kernel_rfl) _ (by kernel_rfl)
  have lam1:ETr prog w (KK w) bt (k+6) (clF w) (keyE w 1) ⟨Vc x hd r (tsD ts) ps ++ ([("word",.d (.str wd)),("lesser",.d (.int le)),("greater",.d (.int gr)),("low",.d (.int lo))]:List (Str × AV)),["heads"],M2,nx⟩ (keyAV w 1 hd) ⟨Vc x hd r (tsD ts) ps ++ ([("word",.d (.str wd)),("lesser",.d (.int le)),("greater",.d (.int gr)),("low",.d (.int lo))]:List (Str × AV)),["heads", "heads"],M2,nx⟩:=
   ETr.lamE (by kernel_rfl) (by kernel_rfl) hc C.lt t2 (by kernel_rfl) (by kernel_rfl) _ (by kernel_rfl)
  refine BTr.refz (fz:=["heads", "heads"]) (BTr.runS 80 [(cx prog w (k+6) M1 nx).mFn x.n x.j (netC w) (gtA w) (lexNs L (.loc x.s) x.p) "get_token" X.ln x1 x2 (by kernel_rfl) (by kernel_rfl),.call gp.call,.brF (wd=Str.empty) pn,.comp pc,.call sr,.br (!decide ((le:Int)=(gr:Int))) true (by rw [decide_eq_false hne]; rfl),
   .lam lam0,.call bl,.lam lam1,.call br,.stm mst,.stm jst,.call nt] (by kernel_rfl)) (by intro z; simp)
 ·have mst:=moved_str (prog:=prog) (w:=w) (k:=k+5) (L:=L) (cs:=[]) (push:=pushD Q') (kvs:=tblKv T) (H:=H) C G (tsD ts) ps wd le gr A mv B (by rw [<- hrow]; omega) ["heads", "heads", "heads"] (.inr rfl)
  rw [<- hrow,lA,lm,<- d2,<- d3] at mst
  have jst:=join_str (prog:=prog) (w:=w) (k:=k+1) (L:=L) (cs:=[]) (push:=pushD Q') (kvs:=tblKv T) (H:=H) (row:=A ++ B) C G hc (tsD ts) ps wd le gr lo hi ["heads", "heads", "heads"] (.inr rfl) mv ⟨hj.1,c4⟩ nle (fun y hy=>hj.2.2.1 y (c2 y hy)) c1 c3 (by have:=congrArg List.length hrow; simp only [List.length_append] at this ⊢; omega)
  rw [<- zJ,<- d3,<- d4] at jst
  have lam0:ETr prog w (KK w) bt (k+6) (clF w) (keyE w 0) ⟨Vc x hd r (tsD ts) ps ++ ([("word",.d (.str wd)),("lesser",.d (.int le)),("greater",.d (.int gr))]:List (Str × AV)),["heads"],M2,nx⟩ (keyAV w 0 hd) ⟨Vc x hd r (tsD ts) ps ++ ([("word",.d (.str wd)),("lesser",.d (.int le)),("greater",.d (.int gr))]:List (Str × AV)),["heads", "heads"],M2,nx⟩:=
   ETr.lamE (by kernel_rfl) (by kernel_rfl) hc C.lt t2 (by kernel_rfl) (by kernel_rfl) _ (by kernel_rfl)
  have lam1:ETr prog w (KK w) bt (k+6) (clF w) (keyE w 1) ⟨Vc x hd r (tsD ts) ps ++ ([("word",.d (.str wd)),("lesser",.d (.int le)),("greater",.d (.int gr)),("low",.d (.int lo))]:List (Str × AV)),["heads", "heads"],M2,nx⟩ (keyAV w 1 hd) ⟨Vc x hd r (tsD ts) ps ++ ([("word",.d (.str wd)),("lesser",.d (.int le)),("greater",.d (.int gr)),("low",.d (.int lo))]:List (Str × AV)),["heads", "heads", "heads"],M2,nx⟩:=
   ETr.lamE (by kernel_rfl) (by kernel_rfl) hc C.lt t2 (by kernel_rfl) (by kernel_rfl) _ (by kernel_rfl)
  refine BTr.refz (fz:=["heads", "heads", "heads"]) (BTr.runS 80 [(cx prog w (k+6) M1 nx).mFn x.n x.j (netC w) (gtA w) (lexNs L (.loc x.s) x.p) "get_token" X.ln x1 x2 (by kernel_rfl) (by kernel_rfl),.call gp.call,.brF (wd=Str.empty) pn,.comp pc,.call sr,.br (!decide ((le:Int)=(gr:Int))) true (by rw [decide_eq_false hne]; rfl),
   .lam lam0,.call bl,.lam lam1,.call br,.stm mst,.stm jst,.call nt] (by kernel_rfl)) (by intro z; simp)
end
end
section
noncomputable def runC (ts:List T4):Nat->PS->PS
 | 0,s=>s
 | n+1,s=>runC ts n (stepC ts s)
theorem stepC_nil {ts:List T4} {s:PS} (h:s.Q = []):stepC ts s=s:=by
 obtain ⟨H,row,T,Q⟩:=s
 dsimp only at h
 subst h
 rfl
theorem runC_nil {ts:List T4}:∀ (n:Nat) {s:PS},s.Q = []->runC ts n s=s
 | 0,_,_=>rfl
 | n+1,s,h=>by show runC ts n (stepC ts s)=s; rw [stepC_nil h,runC_nil n h]
noncomputable def initH (n:Nat):List Nat:=(List.range n).map fun i=>256+i
theorem initH_len (n:Nat):(initH n).length=n:=by unfold initH; simp
theorem initH_mem {n a:Nat}:a ∈ initH n ↔ 256<=a /\ a < 256+n:=by
 unfold initH
 simp only [List.mem_map,List.mem_range]
 constructor
 ·rintro ⟨i,hi,rfl⟩; omega
 ·intro h; exact ⟨a - 256,by omega,by omega⟩
theorem initH_ok {n:Nat} (hn:n<=7):HOk (initH n):=⟨by rw [initH_len]; omega,fun v hv=>by unfold NmOk; rw [initH_len]; exact initH_mem.mp hv⟩
theorem hAt_init {n a:Nat} (h:256<=a /\ a < 256+n):hAt (initH n) a=a:=by
 unfold hAt initH
 have:a - 256 < n:=by omega
 rw [List.getD_eq_getElem?_getD,List.getElem?_map,List.getElem?_range this]
 show 256+(a - 256)=a
 omega
theorem initH_row {n:Nat}:RowOk (initH n) (initH n):=by
 have hp:(initH n).Pairwise (· < ·):=by
  unfold initH
  rw [List.pairwise_map]
  exact List.pairwise_lt_range.imp fun {a b} h=>by omega
 refine ⟨hp.imp fun {a b} h=>Nat.ne_of_lt h,fun y hy=>by unfold NmOk; rw [initH_len]; exact initH_mem.mp hy,?_⟩
 exact hp.imp_of_mem fun {a b} ha hb h=>by rw [hAt_init (initH_mem.mp ha),hAt_init (initH_mem.mp hb)]; exact Nat.le_of_lt h
theorem hdFrom_keys:∀ (H:List Nat) (i:Nat),(hdFrom i H).map (·.1)=(List.range H.length).map fun j:Nat=>((256+(i+j):Nat):Int)
 | [],_=>rfl
 | v :: r,i=>by
  show ((256+i:Nat):Int) :: (hdFrom (i+1) r).map (·.1)=_
  rw [hdFrom_keys r (i+1),List.length_cons,List.range_succ_eq_map,List.map_cons,List.map_map]
  congr 1
  apply List.map_congr_left
  intro j _
  simp only [Function.comp]
  rw [show i+1+j=i+(j+1) by omega]
theorem sorted_keys (H:List Nat):(((hdD H).map (·.1)).mergeSort (fun x y=>decide (x<=y))).map D.int=natsD (initH H.length):=by
 have e:(hdD H).map (·.1)=(initH H.length).map fun n:Nat=>(n:Int):=by
  unfold hdD initH
  rw [hdFrom_keys,List.map_map]
  apply List.map_congr_left
  intro j _
  simp only [Function.comp]
  rw [Nat.zero_add]
 rw [e,sorted_eq (List.Perm.refl _) ?_] at ⊢
 ·unfold natsD; rw [List.map_map] at ⊢; rfl
 ·rw [List.pairwise_map]
  unfold initH
  rw [List.pairwise_map]
  exact List.pairwise_lt_range.imp fun {a b} h=>by omega
section
variable {prog:Program} {w:World} {k:Nat} {m:Nat->MO} {nx:Nat} {x:Ix} {L:Int} {hd r tb:Nat} {cA:Addr}
theorem cl_end (C:ClAt x m nx hd r tb cA) (G:Good w x m nx) (ts:List T4) (ps:List D) (s:PS) (hQ:s.Q = []) (fz:List Str) (hfz:fz=([]:List Str) \/ fz=(["heads"]:List Str)) :
  BTr prog w (KK w) bt (k+6) (clF w) (clB w) ⟨Vc x hd r (tsD ts) ps,fz,clS x m hd r L [] s,nx⟩ (.ret (.d (.lst (natsD s.row)))) ⟨[],fz,upd (clS x m hd r L [] s) r .junk,nx⟩:=by
 obtain ⟨H,row,T,Q⟩:=s
 dsimp only at hQ
 subst hQ
 have G1:=C.good G (H:=H) (row:=row)
 have S:=G.sep
 have X:=G1.lex (L:=L) (cs:=[]) (push:=[]) (kvs:=tblKv T)
 have gt:=gt_end (prog:=prog) (k:=k+2) [] (fun a h=>by cases h) X ⟨Nat.zero_le _,fun c h=>by cases h⟩
 have en:L+nls []=L:=by unfold nls; simp
 rw [en,vw_lex S] at gt
 have x1:=X.i1
 have x2:=X.i2
 show BTr prog w (KK w) bt (k+6) (clF w) (clB w) ⟨_,fz,vw x (clM m hd r H row) L [] [] (tblKv T),nx⟩ _ ⟨_,fz,upd (vw x (clM m hd r H row) L [] [] (tblKv T)) r .junk,nx⟩
 generalize d19:vw x (clM m hd r H row) L [] [] (tblKv T)=M1 at x1 x2 gt ⊢
 have d1:=d19.symm
 clear d19
 have r1:M1 r=.list (natsD row):=by rw [d1,C.atr G]
 generalize hR9:natsD row=R at r1 ⊢
 have hR:=hR9.symm
 clear hR9
 rcases hfz with rfl | rfl
 ·exact BTr.runS 60 [(cx prog w (k+6) M1 nx).mFn x.n x.j (netC w) (gtA w) (lexNs L (.loc x.s) x.p) "get_token" X.ln x1 x2 (by kernel_rfl) (by kernel_rfl),.call gt.call,.brT (Str.empty=Str.empty) rfl,.fz M1 nx r R r1 C.lr] (by kernel_rfl)
 ·exact BTr.runS 60 [(cx prog w (k+6) M1 nx).mFn x.n x.j (netC w) (gtA w) (lexNs L (.loc x.s) x.p) "get_token" X.ln x1 x2 (by kernel_rfl) (by kernel_rfl),.call gt.call,.brT (Str.empty=Str.empty) rfl,.fz M1 nx r R r1 C.lr] (by kernel_rfl)
theorem cl_loop (C:ClAt x m nx hd r tb cA) (G:Good w x m nx) (hc:(clF w).code=some cA) (ts:List T4) (ps:List D):∀ (n:Nat) (s:PS) (fz:List Str),POk ts s->(fz=([]:List Str) \/ fz=(["heads"]:List Str))->(runC ts n s).Q = []->s.T.length+(n+1) * ts.length<=9000->s.Q.length+(n+1) * ts.length<=9000 ->
  ∃ fz9,WhTr prog w (KK w) bt (k+6) (clF w) (whTest (clW w)) (clB w) n ⟨Vc x hd r (tsD ts) ps,fz,clS x m hd r L [] s,nx⟩ (.ret (.d (.lst (natsD (runC ts n s).row)))) ⟨[],fz9,upd (clS x m hd r L [] (runC ts n s)) r .junk,nx⟩
 | 0,s,fz,h,hfz,hQ,h1,h2=>⟨fz,.stop cl_true (cl_end C G ts ps s hQ fz hfz)⟩
 | n+1,s,fz,h,hfz,hQ,h1,h2=>by
  cases q:s.Q with
  | nil=>
   rw [runC_nil (n+1) q]
   exact ⟨fz,.stop cl_true (cl_end C G ts ps s q fz hfz)⟩
  | cons p Q'=>
   obtain ⟨a,b⟩:=p
   obtain ⟨o1,o2,o3,o4⟩:=stepC_ok h
   have hz:s.Q.length=Q'.length+1:=by rw [q]; rfl
   rw [Nat.add_mul] at h1 h2
   have hone:1 * ts.length=ts.length:=Nat.one_mul _
   rw [hone] at h1 h2
   by_cases he:hAt s.H a=hAt s.H b
   ·obtain ⟨fz9,ih⟩:=cl_loop C G hc ts ps n (stepC ts s) fz o1 hfz hQ (by omega) (by omega)
    exact ⟨fz9,.step cl_true (cl_skip C G ts ps s h q he (by omega) fz hfz) (.inl rfl) ih⟩
   ·obtain ⟨fz9,ih⟩:=cl_loop C G hc ts ps n (stepC ts s) ["heads"] o1 (.inr rfl) hQ (by omega) (by omega)
    have hn1:ts.length<=(n+1) * ts.length:=Nat.le_mul_of_pos_left _ (Nat.succ_pos _)
    exact ⟨fz9,.step cl_true (cl_join C G hc ts ps s h q he (by omega) (by omega) fz hfz) (.inl rfl) ih⟩
theorem push_str (C:ClAt x m nx hd r tb cA) (G:Good w x m nx) (H row:List Nat) (ts:List D) (es:List E2) (he:∀ e ∈ es,e.1 < 600 /\ e.2 < 600) (hz:es.length<=1000) :
  STr prog w (KK w) bt (k+6) (clF w) (nthS (bd w "_law_closed") 2) ⟨Vc x hd r ts (esD es),[],vw x (clM m hd r H row) L [] (pushD []) (tblKv []),nx⟩ .next ⟨Vc x hd r ts (esD es),[],vw x (clM m hd r H row) L [] (pushD es) (tblKv []),nx⟩:=by
 refine STr.forP (.d (.lst (esD es))) (esD es) 20 [] (by kernel_rfl) (by kernel_rfl) rfl ?_
 have key:∀ (l:List E2) (Q:Que),l.foldl (fun (Q:Que) (e:E2)=>Q ++ [(e.1,e.2)]) Q=Q ++ l:=by
  intro l
  induction l with
  | nil=>intro Q; simp
  | cons a l ih=>intro Q; rw [List.foldl_cons,ih]; simp
 have loop:=for_fold (prog:=prog) (w:=w) (K:=KK w) (btab:=bt) (k:=k+6) (φ:=clF w) (t:=forTgt (nthS (bd w "_law_closed") 2)) (b:=forBody (nthS (bd w "_law_closed") 2)) (a:=.d (.lst (esD es))) (ds0:=esD es) (fz:=[]) (nx:=nx) (V:=fun _:Que=>Vc x hd r ts (esD es)) (M:=fun Q=>vw x (clM m hd r H row) L [] (pushD Q) (tblKv []))
  (step:=fun (Q:Que) (e:E2)=>Q ++ [(e.1,e.2)]) (gD:=eL) (VX:=fun _ e=>([("two",.d (.int e.2)),("one",.d (.int e.1))]:List (Str × AV)) ++ Vc x hd r ts (esD es)) es [] (Vc x hd r ts (esD es)) (.refl _) (fun pre e post hh=>by
   have hem:e ∈ es:=by rw [hh]; simp
   obtain ⟨e1,e2⟩:=he e hem
   have hp:pre.length<=es.length:=by have:=congrArg List.length hh; simp at this; omega
   rw [key pre [],List.nil_append]
   refine ⟨rfl,takes_lstN (ds:=natsD [e.1,e.2]) ["one", "two"] (by kernel_rfl) (by kernel_rfl) rfl,.next,_,.inl rfl,?_,.refl _⟩
   have G1:=C.good G (H:=H) (row:=row)
   have X:=G1.lex (L:=L) (cs:=[]) (push:=pushD pre) (kvs:=tblKv [])
   have pt:=pt_tr (prog:=prog) (k:=k+5) (.str (pairT e.1 e.2)) X (by unfold pushD; rw [List.length_map]; omega)
   have ep:pushD pre ++ [.str (pairT e.1 e.2)]=pushD (pre ++ [(e.1,e.2)]):=by unfold pushD; rw [List.map_append]; rfl
   rw [ep,vw_push G.sep] at pt
   have x1:=X.i1
   have x2:=X.i2
   generalize d19:vw x (clM m hd r H row) L [] (pushD pre) (tblKv [])=M1 at x1 x2 pt ⊢
   have d1:=d19.symm
   clear d19
   generalize d29:vw x (clM m hd r H row) L [] (pushD (pre ++ [(e.1,e.2)])) (tblKv [])=M2 at pt ⊢
   have d2:=d29.symm
   clear d29
   have f1:=(dec_ok e1).2.2.1
   have f2:=(dec_ok e2).2.2.1
   have f4:(" " : Str).length=1:=by decide +kernel
   exact BTr.runS 60 [(cx prog w (k+6) M1 nx).mFn x.n x.j (netC w) (ptA w) (lexNs L (.loc x.s) x.p) "push_token" X.ln x1 x2 (by kernel_rfl) (by kernel_rfl),
    .call (show (cx prog w (k+6) M1 nx).Call (.k (.type "str")) [.d (.int e.1)] (.d (.str (decS e.1))) M1 nx from c_str (log_small (by omega))),(cx prog w (k+6) M1 nx).addS false (decS e.1) " " _ rfl (by rw [f4,sizeLine_eq]; omega),
    .call (show (cx prog w (k+6) M1 nx).Call (.k (.type "str")) [.d (.int e.2)] (.d (.str (decS e.2))) M1 nx from c_str (log_small (by omega))),(cx prog w (k+6) M1 nx).addS false (decS e.1 ++ " ") (decS e.2) _ rfl (by rw [str_len,f4,sizeLine_eq]; omega),.call pt.call] (by kernel_rfl)) rfl
 rw [key es [],List.nil_append] at loop
 exact loop
end
end
section
section
variable {prog:Program} {w:World} {k:Nat} {m:Nat->MO} {nx:Nat} {L:Int} {n j p s t q p' hd tb:Nat} {cA:Addr}
theorem nodup9 {n j p s t q h g l N:Nat} (h1:n < N) (h2:j < N) (h3:p < N) (h4:s < N) (h5:t < N) (h6:q < N) (g1:g=N+1) (g2:h=N+2) (g3:l=N+3) (a1:n ≠ j) (a2:n ≠ p) (a3:n ≠ s) (a4:n ≠ t) (a5:n ≠ q) (b1:j ≠ p) (b2:j ≠ s) (b3:j ≠ t) (b4:j ≠ q) (c1:p ≠ s) (c2:p ≠ t) (c3:p ≠ q) (d1:s ≠ t) (d2:s ≠ q) (e1:t ≠ q):[n,j,p,s,t,q,h,g,l].Nodup:=by
 subst g1 g2 g3
 have lt:∀ {x y:Nat},x < N->N<=y->x ≠ y:=fun h h' e=>Nat.lt_irrefl _ (Nat.lt_of_lt_of_le (e ▸ h) h')
 have u1:N<=N+1:=Nat.le_add_right _ _
 have u2:N<=N+2:=Nat.le_add_right _ _
 have u3:N<=N+3:=Nat.le_add_right _ _
 have k12:N+2 ≠ N+1:=fun e=>nomatch Nat.add_left_cancel e
 have k23:N+2 ≠ N+3:=fun e=>nomatch Nat.add_left_cancel e
 have k13:N+1 ≠ N+3:=fun e=>nomatch Nat.add_left_cancel e
 have c1':∀ {x:Nat} {l:List Nat},l.all (fun y=>!Nat.beq x y)=true->l.Nodup->(x :: l).Nodup:=fun h hl=>List.nodup_cons.mpr ⟨fun hm=>absurd (List.all_eq_true.mp h _ hm) (by rw [Nat.beq_refl]; exact Bool.false_ne_true),hl⟩
 have ne:∀ {x y:Nat},x ≠ y->(!Nat.beq x y)=true:=fun {x y} h=>by
  cases q:Nat.beq x y with
  | false=>rfl
  | true=>exact (h (Nat.eq_of_beq_eq_true q)).elim
 have al:∀ {x y:Nat} {l:List Nat},x ≠ y->l.all (fun y=>!Nat.beq x y)=true->(y :: l).all (fun y=>!Nat.beq x y)=true:=fun h hl=>by rw [List.all_cons,ne h,hl]; rfl
 exact c1' (al a1 (al a2 (al a3 (al a4 (al a5 (al (lt h1 u2) (al (lt h1 u1) (al (lt h1 u3) rfl)))))))) (c1' (al b1 (al b2 (al b3 (al b4 (al (lt h2 u2) (al (lt h2 u1) (al (lt h2 u3) rfl))))))) (c1' (al c1 (al c2 (al c3 (al (lt h3 u2) (al (lt h3 u1) (al (lt h3 u3) rfl))))))
  (c1' (al d1 (al d2 (al (lt h4 u2) (al (lt h4 u1) (al (lt h4 u3) rfl))))) (c1' (al e1 (al (lt h5 u2) (al (lt h5 u1) (al (lt h5 u3) rfl)))) (c1' (al (lt h6 u2) (al (lt h6 u1) (al (lt h6 u3) rfl))) (c1' (al k12 (al k23 rfl)) (c1' (al k13 rfl) (c1' rfl List.nodup_nil))))))))
theorem notin9 {v a b c d e f g h i:Nat} (ha:v ≠ a) (hb:v ≠ b) (hc:v ≠ c) (hd:v ≠ d) (he:v ≠ e) (hf:v ≠ f) (hg:v ≠ g) (hh:v ≠ h) (hi:v ≠ i):v ∉ [a,b,c,d,e,f,g,h,i]:=
 List.not_mem_cons_of_ne_of_not_mem ha (List.not_mem_cons_of_ne_of_not_mem hb (List.not_mem_cons_of_ne_of_not_mem hc (List.not_mem_cons_of_ne_of_not_mem hd (List.not_mem_cons_of_ne_of_not_mem he (List.not_mem_cons_of_ne_of_not_mem hf (List.not_mem_cons_of_ne_of_not_mem hg (List.not_mem_cons_of_ne_of_not_mem hh (List.not_mem_cons_of_ne_of_not_mem hi List.not_mem_nil))))))))
theorem all9 {a b c d e f g h i N:Nat} (ha:a < N) (hb:b < N) (hc:c < N) (hd:d < N) (he:e < N) (hf:f < N) (hg:g < N) (hh:h < N) (hi:i < N):∀ v ∈ [a,b,c,d,e,f,g,h,i],v < N:=
 List.forall_mem_cons.mpr ⟨ha,List.forall_mem_cons.mpr ⟨hb,List.forall_mem_cons.mpr ⟨hc,List.forall_mem_cons.mpr ⟨hd,List.forall_mem_cons.mpr ⟨he,List.forall_mem_cons.mpr ⟨hf,List.forall_mem_cons.mpr ⟨hg,List.forall_mem_cons.mpr ⟨hh,List.forall_mem_cons.mpr ⟨hi,fun _ h=>nomatch h⟩⟩⟩⟩⟩⟩⟩⟩⟩
noncomputable def clX (n j p s t q p' nx:Nat):Ix:=⟨n,j,p,s,t,q,p',nx+2,nx+1,nx+3⟩
theorem dict_ne {i hd:Nat} {H:List (Int × D)} {mo:MO} (hm:m hd=.dictI H) (e:m i=mo) (h:∀ l,mo ≠ .dictI l):hd ≠ i:=fun z=>h H (e.symm.trans (z ▸ hm))
theorem tab_ne {i tb:Nat} {cA:Addr} {mo:MO} (hm:m tb=.tab cA) (e:m i=mo) (h:∀ l,mo ≠ .tab l):tb ≠ i:=fun z=>h cA (e.symm.trans (z ▸ hm))
theorem mo_ne {i j:Nat} {a b:MO} (e1:m i=a) (e2:m j=b) (h:a ≠ b):i ≠ j:=fun z=>h (e1.symm.trans (z ▸ e2))
theorem closed_good {H0:List Nat} (X:LexAt w m nx n j p s t q p' L [] []) (hns:n ≠ s) (hlh:hd < nx) (hm:m hd=.dictI (hdD H0)) (hlt:tb < nx) (ht:m tb=.tab cA) :
  A4 (Good w (clX n j p s t q p' nx) (mkHd w (upd m nx (.list (natsD H0))) (nx+1)) (nx+4)) (ClAt (clX n j p s t q p' nx) (mkHd w (upd m nx (.list (natsD H0))) (nx+1)) (nx+4) hd nx tb cA)
   (mkHd w (upd m nx (.list (natsD H0))) (nx+1)=vw (clX n j p s t q p' nx) (clM (mkHd w (upd m nx (.list (natsD H0))) (nx+1)) hd nx H0 H0) L [] (pushD []) (tblKv [])) (∀ i,i < nx->mkHd w (upd m nx (.list (natsD H0))) (nx+1) i=m i):=by
 have o2:∀ i,i < nx->mkHd w (upd m nx (.list (natsD H0))) (nx+1) i=m i:=fun i hi=>(mkHd_ne (Nat.lt_succ_of_lt hi)).trans (upd_ne _ _ _ (Nat.ne_of_lt hi))
 have r2:mkHd w (upd m nx (.list (natsD H0))) (nx+1) nx=.list (natsD H0):=(mkHd_ne (Nat.lt_succ_self nx)).trans (upd_at _ _ _)
 have hdat:=mkHd_at (w:=w) (m:=upd m nx (.list (natsD H0))) (nx:=nx+1)
 generalize mkHd w (upd m nx (.list (natsD H0))) (nx+1)=m2 at *
 obtain ⟨a1,a2,a3,a4,a5,a6,a7,a8,a9,a10⟩:=X.ne
 have lt:=fun {i} (h:i < nx)=>(Nat.lt_of_lt_of_le h (Nat.le_add_right nx 4):i < nx+4)
 have l2:nx+2 < nx+4:=Nat.add_lt_add_left (by decide) nx
 have l1:nx+1 < nx+4:=Nat.add_lt_add_left (by decide) nx
 have l3:nx+3 < nx+4:=Nat.add_lt_add_left (by decide) nx
 have gt:=fun {i} k (h:i < nx)=>(Nat.ne_of_lt (Nat.lt_of_lt_of_le h (Nat.le_add_right nx k)):i ≠ nx+k)
 have G:Good w (clX n j p s t q p' nx) m2 (nx+4):=⟨nodup9 X.ln X.lj X.lp X.ls X.lt X.lq rfl rfl rfl a1 a8 hns (mo_ne X.i1 X.i5 fun h=>nomatch h) a2 (Ne.symm a7) (Ne.symm a4) X.jt a3 (Ne.symm a9) (Ne.symm a10) X.pq (mo_ne X.i4 X.i5 fun h=>nomatch h) a5 a6,
  all9 (lt X.ln) (lt X.lj) (lt X.lp) (lt X.ls) (lt X.lt) (lt X.lq) l2 l1 l3,(o2 n X.ln).trans X.i1,(o2 s X.ls).trans X.i4,(o2 t X.lt).trans X.i5,hdat.i1,hdat.i2⟩
 refine ⟨G,⟨notin9 (dict_ne hm X.i1 (fun _ h=>nomatch h)) (dict_ne hm X.i2 (fun _ h=>nomatch h)) (dict_ne hm X.i3 (fun _ h=>nomatch h)) (dict_ne hm X.i4 (fun _ h=>nomatch h)) (dict_ne hm X.i5 (fun _ h=>nomatch h)) (dict_ne hm X.i6 (fun _ h=>nomatch h)) (gt 2 hlh) (gt 1 hlh) (gt 3 hlh),
  notin9 (Nat.ne_of_gt X.ln) (Nat.ne_of_gt X.lj) (Nat.ne_of_gt X.lp) (Nat.ne_of_gt X.ls) (Nat.ne_of_gt X.lt) (Nat.ne_of_gt X.lq) nf1 nf1 nf1,
  notin9 (tab_ne ht X.i1 (fun _ h=>nomatch h)) (tab_ne ht X.i2 (fun _ h=>nomatch h)) (tab_ne ht X.i3 (fun _ h=>nomatch h)) (tab_ne ht X.i4 (fun _ h=>nomatch h)) (tab_ne ht X.i5 (fun _ h=>nomatch h)) (tab_ne ht X.i6 (fun _ h=>nomatch h)) (gt 2 hlt) (gt 1 hlt) (gt 3 hlt),
  Nat.ne_of_lt hlh,mo_ne ht hm (fun h=>nomatch h),Nat.ne_of_lt hlt,lt hlh,(Nat.lt_add_of_pos_right (by decide):nx < nx+4),lt hlt,(o2 tb hlt).trans ht⟩,
  vw_ext G.sep hdat.i3 ((o2 p X.lp).trans X.i3) ((o2 j X.lj).trans X.i2) ((o2 q X.lq).trans X.i6) fun i _ _ _ _=>?_,o2⟩
 unfold clM
 by_cases e1:i=nx
 ·rw [e1,upd_at,r2]
 ·rw [upd_ne _ _ _ e1]
  by_cases e2:i=hd
  ·rw [e2,upd_at,o2 hd hlh,hm]
  ·rw [upd_ne _ _ _ e2]
theorem closed_tr (X:LexAt w m nx n j p s t q p' L [] []) (hns:n ≠ s) (hnn:Nat) (hn7:hnn<=7) (hlh:hd < nx) (hm:m hd=.dictI (hdD (initH hnn))) (hlt:tb < nx) (ht:m tb=.tab cA) (hc:(clF w).code=some cA) (ts:List T4) (es:List E2) (hts:∀ t ∈ ts,TermOk (initH hnn) t) (hes:∀ e ∈ es,NmOk (initH hnn) e.1 /\ NmOk (initH hnn) e.2)
  (N:Nat) (s0:PS) (hs0:s0 = ⟨initH hnn,initH hnn,(noteF (initH hnn) ts ([],es)).1,(noteF (initH hnn) ts ([],es)).2⟩) (hQ:(runC ts N s0).Q = []) (z1:(N+2) * ts.length<=9000) (z2:es.length+(N+2) * ts.length<=9000) (z3:es.length<=1000) :
  CallTr prog w (KK w) bt (k+7) (fn w "_law_closed") [.loc n,.d (.lst (tsD ts)),.d (.lst (esD es)),.loc hd] [] m nx (.d (.lst (natsD (runC ts N s0).row))) (upd m hd (.dictI (hdD (runC ts N s0).H))) nx:=by
 obtain ⟨G,C,h0,o2⟩:=closed_good (H0:=initH hnn) X hns hlh hm hlt ht
 have S:=G.sep
 have hE:=X.i3
 have hJ:=X.i2
 have hQ6:=X.i6
 have c2:=hd_make (prog:=prog) (w:=w) (k:=k+4) (m:=upd m nx (.list (natsD (initH hnn)))) (nx:=nx+1)
 generalize mkHd w (upd m nx (.list (natsD (initH hnn)))) (nx+1)=m2 at G C h0 o2 c2
 obtain ⟨x,dx⟩ : ∃ x,x=clX n j p s t q p' nx:=⟨_,rfl⟩
 rw [<- dx] at G C h0 S
 have hH:=initH_ok hn7
 have c1:=c_sortedD (prog:=prog) (w:=w) (K:=KK w) (btab:=bt) (k:=k+6) (m:=m) (nx:=nx) hlh hm (by rw [show (hdD (initH hnn)).length=_ from hdFrom_len _ _,initH_len]; omega)
 rw [sorted_keys,initH_len] at c1
 generalize upd m nx (.list (natsD (initH hnn)))=m1 at c1 c2
 have st1:=push_str (prog:=prog) (w:=w) (k:=k) (L:=L) C G (initH hnn) (initH hnn) (tsD ts) es (fun e he=>⟨(nm600 hH (hes e he).1).2,(nm600 hH (hes e he).2).2⟩) z3
 rw [<- h0] at st1
 obtain ⟨m3,d3⟩ : ∃ y,y=vw x (clM m2 hd nx (initH hnn) (initH hnn)) L [] (pushD es) (tblKv []):=⟨_,rfl⟩
 rw [<- d3] at st1
 have hz0:ZOk (initH hnn) ([],es):=⟨fun e he=>(by cases he),fun q hq=>hes q hq⟩
 have h2N:2 * ts.length<=(N+2) * ts.length:=Nat.mul_le_mul_right _ (by omega)
 have nt:=note_tr (prog:=prog) (w:=w) (k:=k+1) (x:=x) (m:=clM m2 hd nx (initH hnn) (initH hnn)) (nx:=nx+4) (L:=L) (cs:=[]) (C.good G) (H:=initH hnn) hH C.h1 C.lh (by unfold clM; rw [upd_ne _ _ _ C.hr,upd_at]) ts ([],es) hz0 (by simp; omega) (by dsimp only; omega) hts
 have e4:clS x m2 hd nx L [] s0=vw x (clM m2 hd nx (initH hnn) (initH hnn)) L [] (pushD (noteF (initH hnn) ts ([],es)).2) (tblKv (noteF (initH hnn) ts ([],es)).1):=by rw [hs0]
 rw [<- e4,<- d3] at nt
 have P0:POk ts s0:=by
  rw [hs0]
  exact ⟨⟨hH,initH_row⟩,noteF_ok hH hz0 hts,by rw [initH_len]; exact hn7,hts,by rw [initH_len]; omega⟩
 obtain ⟨nl1,nl2⟩:=noteF_len (initH hnn) ts ([],es)
 have hNN:(N+2) * ts.length=(N+1) * ts.length+ts.length:=by rw [Nat.add_mul,Nat.add_mul]; omega
 obtain ⟨fz9,loop⟩:=cl_loop (prog:=prog) (w:=w) (k:=k) (L:=L) C G hc ts (esD es) N s0 [] P0 (.inl rfl) hQ (by rw [hs0]; dsimp only; simp at nl1; omega) (by rw [hs0]; dsimp only at nl2 ⊢; omega)
 have st:=STr.while_ (c:=clW w) (by kernel_rfl) loop
 obtain ⟨R,hR⟩ : ∃ y,y=natsD (runC ts N s0).row:=⟨_,rfl⟩
 obtain ⟨m4,d4⟩ : ∃ y,y=clS x m2 hd nx L [] s0:=⟨_,rfl⟩
 obtain ⟨m5,d5⟩ : ∃ y,y=upd (clS x m2 hd nx L [] (runC ts N s0)) nx .junk:=⟨_,rfl⟩
 rw [<- d4] at nt st
 rw [<- d5,<- hR] at st
 rw [<- hR]
 have hxn:x.n=n:=by rw [dx]; rfl
 have hxh:x.h=nx+2:=by rw [dx]; rfl
 have body:CodeTr prog w (KK w) bt (k+7) (fn w "_law_closed") [.loc n,.d (.lst (tsD ts)),.d (.lst (esD es)),.loc hd] [] m nx (.d (.lst R)) m5 (nx+4):=by
  unfold Vc at st1 st
  rw [hxn,hxh] at st1 st nt
  exact codeA (fa w "_law_closed") ["lexer", "terms", "pairs", "heads"] [.loc n,.d (.lst (tsD ts)),.d (.lst (esD es)),.loc hd] (.ret (.d (.lst R))) m5 (nx+4) fz9 [.call c1,.call c2,.stm st1,.call nt,.stm st] (by kernel_rfl) (bindq4 fun S a b c d=>by kernel_rfl) rfl (by kernel_rfl)
 refine (body.call).low ⟨Nat.le_refl _,by omega,fun i hi=>?_,fun i hi=>?_⟩ (.d _)
 ·rw [d5,upd_ne _ _ _ (Nat.ne_of_lt hi)]
  by_cases e1:i=hd
  ·rw [e1,upd_at]; exact C.athd G
  ·rw [upd_ne _ _ _ e1]
   show vw x (clM m2 hd nx (runC ts N s0).H (runC ts N s0).row) L [] (pushD (runC ts N s0).Q) (tblKv (runC ts N s0).T) i=m i
   rw [hQ]
   by_cases b2:i=x.p
   ·rw [b2,vw_p S.pl,dx]; exact X.i3.symm
   ·by_cases b3:i=x.j
    ·rw [b3,vw_j S.jl S.jp,dx]; exact X.i2.symm
    ·by_cases b4:i=x.q
     ·rw [b4,vw_q S.ql S.qp S.qj,dx]; exact X.i6.symm
     ·rw [vw_ne (by rw [dx]; show i ≠ nx+3; omega) b2 b3 b4]
      unfold clM
      rw [upd_ne _ _ _ (Nat.ne_of_lt hi),upd_ne _ _ _ e1,o2 i hi]
 ·by_cases e1:i=hd
  ·right; rw [e1,upd_at]; trivial
  ·left; exact ⟨hi,upd_ne _ _ _ e1⟩
end
end
section
noncomputable def mk (marks:List Nat) (a:Nat):Nat:=marks.getD a 0
noncomputable def alikeB (marks:List Nat) (a b:T4):Bool:=decide (a.1 < b.1) && (decide (a.2.1=b.2.1) && (decide (mk marks a.2.2.1=mk marks b.2.2.1) && decide (mk marks a.2.2.2=mk marks b.2.2.2)))
noncomputable def dueT (ts:List T4) (marks:List Nat):List E2:=ts.flatMap fun a=>(ts.filter (alikeB marks a)).map fun b=>(a.1,b.1)
noncomputable def dueF (es:List E2) (ts:List T4) (marks:List Nat):List E2:=(es ++ dueT ts marks).filter fun e=>!decide (mk marks e.1=mk marks e.2)
noncomputable def stepM (es:List E2) (ts:List T4) (marks:List Nat):List Nat:=match dueF es ts marks with
 | []=>marks
 | e :: _=>marks.map fun x=>if x=mk marks e.1 then mk marks e.2 else x
noncomputable def runM (es:List E2) (ts:List T4):Nat->List Nat->List Nat
 | 0,marks=>marks
 | n+1,marks=>runM es ts n (stepM es ts marks)
theorem stepM_len (es:List E2) (ts:List T4) (marks:List Nat):(stepM es ts marks).length=marks.length:=by
 unfold stepM
 split
 ·rfl
 ·rw [List.length_map]
theorem stepM_nil {es:List E2} {ts:List T4} {marks:List Nat} (h:dueF es ts marks = []):stepM es ts marks=marks:=by unfold stepM; rw [h]
theorem runM_nil {es:List E2} {ts:List T4}:∀ (n:Nat) {marks:List Nat},dueF es ts marks = []->runM es ts n marks=marks
 | 0,_,_=>rfl
 | n+1,marks,h=>by show runM es ts n (stepM es ts marks)=_; rw [stepM_nil h,runM_nil n h]
noncomputable def T7 (t:T4):Prop:=t.1 < 7 /\ t.2.2.1 < 7 /\ t.2.2.2 < 7
theorem natsD_at {l:List Nat} {i:Nat} (h:i < l.length):(natsD l)[i]? = some (.int (l.getD i 0:Nat)):=natsD_get (by rw [List.getD_eq_getElem?_getD,List.getElem?_eq_getElem h]; rfl)
theorem due_mem {es:List E2} {ts:List T4} {marks:List Nat} (he:∀ e ∈ es,e.1 < 7 /\ e.2 < 7) (ht:∀ t ∈ ts,T7 t):∀ e ∈ es ++ dueT ts marks,e.1 < 7 /\ e.2 < 7:=by
 intro e h
 rcases List.mem_append.mp h with h | h
 ·exact he e h
 ·unfold dueT at h
  obtain ⟨a,ha,h⟩:=List.mem_flatMap.mp h
  obtain ⟨b,hb,rfl⟩:=List.mem_map.mp h
  exact ⟨(ht a ha).1,(ht b (List.mem_filter.mp hb).1).1⟩
section
variable {prog:Program} {w:World} {k:Nat} {m:Nat->MO} {nx:Nat}
noncomputable abbrev mkF (w:World):Fm:=ph w "_law_marks"
noncomputable abbrev mkW (w:World):Stmt:=nthS (bd w "_law_marks") 1
noncomputable abbrev mkB (w:World):List Stmt:=forBody (mkW w)
noncomputable def Vk (ts:List T4) (es:List E2) (marks:List Nat):List (Str × AV):=[("terms",.d (.lst (termsD ts))),("equations",.d (.lst (pairsD es))),("marks",.d (.lst (natsD marks)))]
theorem mk_true {st:St}:TTr prog w (KK w) bt k (mkF w) (whTest (mkW w)) st true st:=TTr.runE 20 [.br true true rfl] (by kernel_rfl)
noncomputable abbrev duC (w:World):PySem.Expr:=binR (asVal (nthS (mkB w) 0))
theorem alike_test (ts:List T4) (es:List E2) (marks:List Nat) (hl:marks.length=7) (V:List (Str × AV)) (hV:V=Vk ts es marks \/ ∃ d,V=Vk ts es marks ++ ([("due",d)]:List (Str × AV))) (M:Nat->MO) (n0:Nat) (a b:T4) (ha:T7 a) (hb:T7 b) :
  TTr prog w (KK w) bt k (compFm (mkF w) (lcScope (duC w))) (((lcRest (duC w)).headD ⟨.Constant .none 0 default,.Constant .none 0 default,[],0⟩).ifs.headD (.Constant .none 0 default)) ⟨("b",.d (.tup (tD b))) :: ("a",.d (.tup (tD a))) :: compVars (mkF w) (Vk ts es marks) (lcScope (duC w)),compFz (mkF w) (lcScope (duC w)),M,n0⟩ (alikeB marks a b)
   ⟨("b",.d (.tup (tD b))) :: ("a",.d (.tup (tD a))) :: compVars (mkF w) (Vk ts es marks) (lcScope (duC w)),compFz (mkF w) (lcScope (duC w)),M,n0⟩:=by
 have i0:∀ t:T4,(tD t)[0]? = some (.int t.1):=fun t=>rfl
 have i1:∀ t:T4,(tD t)[1]? = some (.int t.2.1):=fun t=>rfl
 have i2:∀ t:T4,(tD t)[2]? = some (.int t.2.2.1):=fun t=>rfl
 have i3:∀ t:T4,(tD t)[3]? = some (.int t.2.2.2):=fun t=>rfl
 obtain ⟨a1,a2,a3⟩:=ha
 obtain ⟨b1,b2,b3⟩:=hb
 have ma2:=natsD_at (l:=marks) (i:=a.2.2.1) (by omega)
 have mb2:=natsD_at (l:=marks) (i:=b.2.2.1) (by omega)
 have ma3:=natsD_at (l:=marks) (i:=a.2.2.2) (by omega)
 have mb3:=natsD_at (l:=marks) (i:=b.2.2.2) (by omega)
 unfold alikeB
 by_cases h1:a.1 < b.1
 ·rw [decide_eq_true h1,Bool.true_and]
  by_cases h2:a.2.1=b.2.1
  ·rw [decide_eq_true h2,Bool.true_and]
   by_cases h3:mk marks a.2.2.1=mk marks b.2.2.1
   ·rw [decide_eq_true h3,Bool.true_and]
    by_cases h4:mk marks a.2.2.2=mk marks b.2.2.2
    ·rw [decide_eq_true h4]
     exact TTr.runE 30 [(cx prog w k M n0).itemT (tD a) 0 0 _ rfl (i0 a) (by decide),(cx prog w k M n0).itemT (tD b) 0 0 _ rfl (i0 b) (by decide),.brT ((a.1:Int) < b.1) (by omega),(cx prog w k M n0).itemT (tD a) 1 1 _ rfl (i1 a) (by decide),(cx prog w k M n0).itemT (tD b) 1 1 _ rfl (i1 b) (by decide),.brT ((a.2.1:Int)=b.2.1) (by omega),
      (cx prog w k M n0).itemT (tD a) 2 2 _ rfl (i2 a) (by decide),(cx prog w k M n0).item (natsD marks) a.2.2.1 a.2.2.1 _ rfl ma2 (by omega),(cx prog w k M n0).itemT (tD b) 2 2 _ rfl (i2 b) (by decide),(cx prog w k M n0).item (natsD marks) b.2.2.1 b.2.2.1 _ rfl mb2 (by omega),.brT (((mk marks a.2.2.1:Nat):Int)=(mk marks b.2.2.1:Nat)) (by omega),
      (cx prog w k M n0).itemT (tD a) 3 3 _ rfl (i3 a) (by decide),(cx prog w k M n0).item (natsD marks) a.2.2.2 a.2.2.2 _ rfl ma3 (by omega),(cx prog w k M n0).itemT (tD b) 3 3 _ rfl (i3 b) (by decide),(cx prog w k M n0).item (natsD marks) b.2.2.2 b.2.2.2 _ rfl mb3 (by omega),.brT (((mk marks a.2.2.2:Nat):Int)=(mk marks b.2.2.2:Nat)) (by omega)] (by kernel_rfl)
    ·rw [decide_eq_false h4]
     exact TTr.runE 30 [(cx prog w k M n0).itemT (tD a) 0 0 _ rfl (i0 a) (by decide),(cx prog w k M n0).itemT (tD b) 0 0 _ rfl (i0 b) (by decide),.brT ((a.1:Int) < b.1) (by omega),(cx prog w k M n0).itemT (tD a) 1 1 _ rfl (i1 a) (by decide),(cx prog w k M n0).itemT (tD b) 1 1 _ rfl (i1 b) (by decide),.brT ((a.2.1:Int)=b.2.1) (by omega),
      (cx prog w k M n0).itemT (tD a) 2 2 _ rfl (i2 a) (by decide),(cx prog w k M n0).item (natsD marks) a.2.2.1 a.2.2.1 _ rfl ma2 (by omega),(cx prog w k M n0).itemT (tD b) 2 2 _ rfl (i2 b) (by decide),(cx prog w k M n0).item (natsD marks) b.2.2.1 b.2.2.1 _ rfl mb2 (by omega),.brT (((mk marks a.2.2.1:Nat):Int)=(mk marks b.2.2.1:Nat)) (by omega),
      (cx prog w k M n0).itemT (tD a) 3 3 _ rfl (i3 a) (by decide),(cx prog w k M n0).item (natsD marks) a.2.2.2 a.2.2.2 _ rfl ma3 (by omega),(cx prog w k M n0).itemT (tD b) 3 3 _ rfl (i3 b) (by decide),(cx prog w k M n0).item (natsD marks) b.2.2.2 b.2.2.2 _ rfl mb3 (by omega),.brF (((mk marks a.2.2.2:Nat):Int)=(mk marks b.2.2.2:Nat)) (by omega)] (by kernel_rfl)
   ·rw [decide_eq_false h3,Bool.false_and]
    exact TTr.runE 30 [(cx prog w k M n0).itemT (tD a) 0 0 _ rfl (i0 a) (by decide),(cx prog w k M n0).itemT (tD b) 0 0 _ rfl (i0 b) (by decide),.brT ((a.1:Int) < b.1) (by omega),(cx prog w k M n0).itemT (tD a) 1 1 _ rfl (i1 a) (by decide),(cx prog w k M n0).itemT (tD b) 1 1 _ rfl (i1 b) (by decide),.brT ((a.2.1:Int)=b.2.1) (by omega),
     (cx prog w k M n0).itemT (tD a) 2 2 _ rfl (i2 a) (by decide),(cx prog w k M n0).item (natsD marks) a.2.2.1 a.2.2.1 _ rfl ma2 (by omega),(cx prog w k M n0).itemT (tD b) 2 2 _ rfl (i2 b) (by decide),(cx prog w k M n0).item (natsD marks) b.2.2.1 b.2.2.1 _ rfl mb2 (by omega),.brF (((mk marks a.2.2.1:Nat):Int)=(mk marks b.2.2.1:Nat)) (by omega)] (by kernel_rfl)
  ·rw [decide_eq_false h2,Bool.false_and]
   exact TTr.runE 30 [(cx prog w k M n0).itemT (tD a) 0 0 _ rfl (i0 a) (by decide),(cx prog w k M n0).itemT (tD b) 0 0 _ rfl (i0 b) (by decide),.brT ((a.1:Int) < b.1) (by omega),(cx prog w k M n0).itemT (tD a) 1 1 _ rfl (i1 a) (by decide),(cx prog w k M n0).itemT (tD b) 1 1 _ rfl (i1 b) (by decide),.brF ((a.2.1:Int)=b.2.1) (by omega)] (by kernel_rfl)
 ·rw [decide_eq_false h1,Bool.false_and]
  exact TTr.runE 30 [(cx prog w k M n0).itemT (tD a) 0 0 _ rfl (i0 a) (by decide),(cx prog w k M n0).itemT (tD b) 0 0 _ rfl (i0 b) (by decide),.brF ((a.1:Int) < b.1) (by omega)] (by kernel_rfl)
theorem dueT_len (ts:List T4) (marks:List Nat):(dueT ts marks).length<=ts.length * ts.length:=by
 unfold dueT
 refine Nat.le_trans (flat_le (n:=ts.length) fun a _=>?_) (Nat.le_refl _)
 rw [List.length_map]
 exact List.length_filter_le _ _
theorem due_comp (ts:List T4) (es:List E2) (marks:List Nat) (hl:marks.length=7) (ht:∀ t ∈ ts,T7 t) (hz:ts.length<=30) :
  ETr prog w (KK w) bt k (mkF w) (duC w) ⟨Vk ts es marks,[],m,nx⟩ (.d (.lst (pairsD (dueT ts marks)))) ⟨Vk ts es marks,[],m,nx⟩:=by
 have e:pairsD (dueT ts marks)=ts.flatMap fun a=>(ts.filter (alikeB marks a)).map fun b=>D.tup [.int a.1,.int b.1]:=by
  unfold pairsD dueT
  rw [List.map_flatMap]
  simp only [List.map_map]
  rfl
 have hlen:=dueT_len ts marks
 have hsq:ts.length * ts.length<=900:=Nat.mul_le_mul hz hz
 have hsz:(ts.flatMap fun a=>(ts.filter (alikeB marks a)).map fun b=>D.tup [.int a.1,.int b.1]).length<=100000:=by
  rw [<- e]; unfold pairsD; rw [List.length_map]; omega
 rw [e]
 have hi:((lcRest (duC w)).headD ⟨.Constant .none 0 default,.Constant .none 0 default,[],0⟩).ifs = [((lcRest (duC w)).headD ⟨.Constant .none 0 default,.Constant .none 0 default,[],0⟩).ifs.headD (.Constant .none 0 default)]:=by kernel_rfl
 refine ETr.ofLoop (by kernel_rfl) (a:=.d (.lst (termsD ts))) (ds:=termsD ts) (ETr.runE 20 [] (by kernel_rfl)) rfl
  (loop2 (st:=⟨Vk ts es marks,[],m,nx⟩) (a:=.d (.lst (termsD ts))) (xs:=ts) (ys:=fun _=>ts) (gD:=fun t=>.tup (tD t)) (gD2:=fun _ t=>.tup (tD t)) (p:=alikeB marks) (g:=(lcRest (duC w)).headD ⟨.Constant .none 0 default,.Constant .none 0 default,[],0⟩) (a2:=fun _=>.d (.lst (termsD ts)))
   (by kernel_rfl) rfl (tgt_nameN "a" (by kernel_rfl) (by kernel_rfl) (by kernel_rfl)) (by kernel_rfl) (by kernel_rfl) (by kernel_rfl) (fun a ha l=>ETr.runE 20 [] (by kernel_rfl)) (fun a ha=>rfl)
   (fun a ha=>tgt_nameN "b" (by kernel_rfl) (by kernel_rfl) (by kernel_rfl)) (fun a ha=>.inr ⟨_,hi,fun b hb l=>alike_test ts es marks hl _ (.inl rfl) _ _ a b (ht a ha) (ht b hb)⟩) (fun a ha b hb hp l=>?_) hsz)
 exact ETr.runE 20 [(cx prog w k (upd m nx (.list l)) (nx+1)).itemT (tD a) 0 0 (.int a.1) rfl rfl (by decide),(cx prog w k (upd m nx (.list l)) (nx+1)).itemT (tD b) 0 0 (.int b.1) rfl rfl (by decide),.tup [.int a.1,.int b.1] (show 2<=1000 by decide)] (by kernel_rfl)
theorem due_str (ts:List T4) (es ds:List E2) (marks:List Nat) (hl:marks.length=7) (hd:∀ e ∈ ds,e.1 < 7 /\ e.2 < 7) (hz:ds.length<=10000) :
  STr prog w (KK w) bt k (mkF w) (nthS (mkB w) 1) ⟨Vk ts es marks ++ ([("due",.d (.lst (pairsD ds)))]:List (Str × AV)),[],m,nx⟩ .next ⟨setv "due" (.d (.lst (pairsD (ds.filter fun e=>!decide (mk marks e.1=mk marks e.2))))) (Vk ts es marks ++ ([("due",.d (.lst (pairsD ds)))]:List (Str × AV))),[],m,nx⟩:=by
 generalize hV9:Vk ts es marks ++ ([("due",.d (.lst (pairsD ds)))]:List (Str × AV))=V
 have hV:=hV9.symm
 clear hV9
 have hi:(lcFirst (asVal (nthS (mkB w) 1))).ifs = [(lcFirst (asVal (nthS (mkB w) 1))).ifs.headD (.Constant .none 0 default)]:=by kernel_rfl
 have ee:pairsD (ds.filter fun e=>!decide (mk marks e.1=mk marks e.2))=(ds.filter fun e=>!decide (mk marks e.1=mk marks e.2)).map fun e=>.tup [.int e.1,.int e.2]:=rfl
 rw [ee]
 refine STr.ofLoopP (by kernel_rfl) (by kernel_rfl) (by kernel_rfl) (a:=.d (.lst (pairsD ds))) (ds:=pairsD ds) (ETr.runE 20 [] (by subst hV; kernel_rfl)) rfl
  (loop1 (st:=⟨V,[],m,nx⟩) (a:=.d (.lst (pairsD ds))) (xs:=ds) (gD:=fun e:E2=>.tup [.int e.1,.int e.2]) (p:=fun e=>!decide (mk marks e.1=mk marks e.2)) (by kernel_rfl) rfl (tgt_tupN (gs:=fun e:E2=>[.int e.1,.int e.2]) ["one", "two"] (by kernel_rfl) (by kernel_rfl) (by subst hV; kernel_rfl) (fun x hx=>rfl))
   (.inr ⟨_,hi,fun e he l=>?_⟩) (fun e he hp l=>?_) (by omega))
 ·obtain ⟨e1,e2⟩:=hd e he
  have m1:=natsD_at (l:=marks) (i:=e.1) (by omega)
  have m2:=natsD_at (l:=marks) (i:=e.2) (by omega)
  subst hV
  show TTr _ _ _ _ _ _ _ _ (!decide (mk marks e.1=mk marks e.2)) _
  by_cases h:mk marks e.1=mk marks e.2
  ·rw [decide_eq_true h,Bool.not_true]
   exact TTr.runE 30 [(cx prog w k (upd m nx (.list l)) (nx+1)).item (natsD marks) e.1 e.1 _ rfl m1 (by omega),(cx prog w k (upd m nx (.list l)) (nx+1)).item (natsD marks) e.2 e.2 _ rfl m2 (by omega),.br (!decide (((mk marks e.1:Nat):Int)=(mk marks e.2:Nat))) false (by rw [h]; simp)] (by kernel_rfl)
  ·rw [decide_eq_false h,Bool.not_false]
   exact TTr.runE 30 [(cx prog w k (upd m nx (.list l)) (nx+1)).item (natsD marks) e.1 e.1 _ rfl m1 (by omega),(cx prog w k (upd m nx (.list l)) (nx+1)).item (natsD marks) e.2 e.2 _ rfl m2 (by omega),.br (!decide (((mk marks e.1:Nat):Int)=(mk marks e.2:Nat))) true (by rw [decide_eq_false (by omega)]; rfl)] (by kernel_rfl)
 ·subst hV
  exact ETr.runE 30 [.tup [.int e.1,.int e.2] (show 2<=1000 by decide)] (by kernel_rfl)
theorem pairs_flat (l:List E2):Flat (.lst (pairsD l)):=flat_lst fun x hx=>by
 unfold pairsD at hx
 obtain ⟨e,-,rfl⟩:=List.mem_map.mp hx
 exact ⟨rfl,by show max 0 (max 0 0)+1<=2; decide⟩
end
end
section
section
variable {prog:Program} {w:World} {k:Nat} {m:Nat->MO} {nx:Nat}
noncomputable def mapM (o n:Nat) (marks:List Nat):List Nat:=marks.map fun x=>if x=o then n else x
theorem marks_str (ts:List T4) (es ds:List E2) (marks:List Nat) (o n:Nat) (hl:marks.length=7) :
  STr prog w (KK w) bt k (mkF w) (nthS (mkB w) 5) ⟨Vk ts es marks ++ ([("due",.d (.lst (pairsD ds))),("old",.d (.int o)),("new",.d (.int n))]:List (Str × AV)),[],m,nx⟩ .next ⟨Vk ts es (mapM o n marks),[],m,nx⟩:=by
 generalize hV9:Vk ts es marks ++ ([("due",.d (.lst (pairsD ds))),("old",.d (.int o)),("new",.d (.int n))]:List (Str × AV))=V
 have hV:=hV9.symm
 clear hV9
 have ee:natsD (mapM o n marks)=marks.map fun x=>D.int (if x=o then n else x:Nat):=by unfold natsD mapM; rw [List.map_map]; rfl
 have h:STr prog w (KK w) bt k (mkF w) (nthS (mkB w) 5) ⟨V,[],m,nx⟩ .next ⟨setv "marks" (.d (.lst (natsD (mapM o n marks)))) V,[],m,nx⟩:=by
  rw [ee]
  refine STr.ofLoopC (by kernel_rfl) (by kernel_rfl) (by kernel_rfl) rfl (a:=.d (.lst (natsD marks))) (ds:=natsD marks) (ETr.runE 20 [] (by subst hV; kernel_rfl)) rfl
   (loop1n (st:=⟨V,[],m,nx⟩) (a:=.d (.lst (natsD marks))) (xs:=marks) (gD:=fun x:Nat=>.int x) (by kernel_rfl) (by kernel_rfl) rfl (tgt_nameN "mark" (by kernel_rfl) (by kernel_rfl) (by subst hV; kernel_rfl)) (fun x hx l=>?_) (by omega))
  subst hV
  by_cases h:x=o
  ·rw [if_pos h]
   exact ETr.runE 30 [.brT ((x:Int)=o) (by omega)] (by kernel_rfl)
  ·rw [if_neg h]
   exact ETr.runE 30 [.brF ((x:Int)=o) (by omega)] (by kernel_rfl)
 refine STr.post h ?_
 subst hV
 intro y av hy
 unfold Vk at *
 rw [setv_lookup]
 simp only [List.lookup_cons,List.cons_append,List.nil_append] at hy ⊢
 by_cases q:y=("marks" : Str)
 ·rw [if_pos q]
  subst q
  have e1:(("marks" : Str) == "terms")=false:=by decide +kernel
  have e2:(("marks" : Str) == "equations")=false:=by decide +kernel
  rw [e1,e2] at hy
  simpa using hy
 ·rw [if_neg q]
  have e3:(y == ("marks" : Str))=false:=beq_false_of_ne q
  rw [e3] at hy ⊢
  cases q1:y == ("terms" : Str) with
  | true=>rw [q1] at hy; exact hy
  | false=>
   rw [q1] at hy
   cases q2:y == ("equations" : Str) with
   | true=>rw [q2] at hy; exact hy
   | false=>rw [q2] at hy; simp at hy
theorem lst_nil_ne {ds:List D} (h:ds ≠ []):(false=true ↔ D.lst ds=D.lst []):=⟨fun h=>(by cases h),fun e=>absurd (D.lst.inj e) h⟩
theorem pairsD_len (l:List E2):(pairsD l).length=l.length:=List.length_map _
theorem pairsD_app (a b:List E2):pairsD a ++ pairsD b=pairsD (a ++ b):=by unfold pairsD; rw [List.map_append]
theorem mk_turn_end (ts:List T4) (es:List E2) (marks:List Nat) (hl:marks.length=7) (ht:∀ t ∈ ts,T7 t) (he:∀ e ∈ es,e.1 < 7 /\ e.2 < 7) (hz:ts.length<=30) (hz2:es.length<=1000) (hd:dueF es ts marks = []) :
  BTr prog w (KK w) bt k (mkF w) (mkB w) ⟨Vk ts es marks,[],m,nx⟩ (.ret (.d (.lst (natsD marks)))) ⟨[],[],m,nx⟩:=by
 have hlen:=dueT_len ts marks
 have hsq:ts.length * ts.length<=900:=Nat.mul_le_mul hz hz
 have c1:=due_comp (prog:=prog) (w:=w) (k:=k) (m:=m) (nx:=nx) ts es marks hl ht hz
 have c2:=due_str (prog:=prog) (w:=w) (k:=k) (m:=m) (nx:=nx) ts es (es ++ dueT ts marks) marks hl (due_mem he ht) (by rw [List.length_append]; omega)
 change STr _ _ _ _ _ _ _ _ _ ⟨setv "due" (.d (.lst (pairsD (dueF es ts marks)))) _,_,_,_⟩ at c2
 rw [hd] at c2
 have ad:=(cx prog w k m nx).addL (.d (.lst (pairsD es))) (.d (.lst (pairsD (dueT ts marks)))) (pairsD es) (pairsD (dueT ts marks)) rfl trivial rfl trivial (by rw [pairsD_len,pairsD_len]; omega)
 have pa:=pairsD_app es (dueT ts marks)
 obtain ⟨A,hA⟩ : ∃ y,y=pairsD es:=⟨_,rfl⟩
 obtain ⟨B,hB⟩ : ∃ y,y=pairsD (dueT ts marks):=⟨_,rfl⟩
 have lA:A.length<=1000:=by rw [hA,pairsD_len]; exact hz2
 have lB:B.length<=900:=by rw [hB,pairsD_len]; omega
 unfold Vk at c1 c2 ⊢
 rw [<- pa] at c2
 rw [<- hA,<- hB] at c1 c2
 rw [<- hA]
 have ff:Flat (.lst (pairsD [])):=pairs_flat []
 generalize hR9:natsD marks=R at c1 c2 ⊢
 have hR:=hR9.symm
 clear hR9
 exact BTr.runS 60 [.comp c1,(cx prog w k m nx).addL (.d (.lst A)) (.d (.lst B)) A B rfl trivial rfl trivial (by omega),.stm c2,.lst [] false (by decide),
  (cx prog w k m nx).eqF (.d (.lst (pairsD []))) (.d (.lst [])) (.lst (pairsD [])) (.lst []) true ⟨fun _=>rfl,fun _=>rfl⟩ (.inl rfl) (.inl rfl) ff ff,.br true true rfl] (by kernel_rfl)
theorem mk_turn (ts:List T4) (es:List E2) (marks:List Nat) (hl:marks.length=7) (ht:∀ t ∈ ts,T7 t) (he:∀ e ∈ es,e.1 < 7 /\ e.2 < 7) (hz:ts.length<=30) (hz2:es.length<=1000) {e:E2} {rest:List E2} (hd:dueF es ts marks=e :: rest) :
  BTr prog w (KK w) bt k (mkF w) (mkB w) ⟨Vk ts es marks,[],m,nx⟩ .next ⟨Vk ts es (stepM es ts marks),[],m,nx⟩:=by
 have hlen:=dueT_len ts marks
 have hsq:ts.length * ts.length<=900:=Nat.mul_le_mul hz hz
 have c1:=due_comp (prog:=prog) (w:=w) (k:=k) (m:=m) (nx:=nx) ts es marks hl ht hz
 have c2:=due_str (prog:=prog) (w:=w) (k:=k) (m:=m) (nx:=nx) ts es (es ++ dueT ts marks) marks hl (due_mem he ht) (by rw [List.length_append]; omega)
 change STr _ _ _ _ _ _ _ _ _ ⟨setv "due" (.d (.lst (pairsD (dueF es ts marks)))) _,_,_,_⟩ at c2
 have hem:e ∈ es ++ dueT ts marks:=by
  have:e ∈ dueF es ts marks:=by rw [hd]; exact List.mem_cons_self ..
  unfold dueF at this
  exact (List.mem_filter.mp this).1
 obtain ⟨e1,e2⟩:=due_mem he ht e hem
 have es1:stepM es ts marks=mapM (mk marks e.1) (mk marks e.2) marks:=by unfold stepM; rw [hd]; rfl
 have c3:=marks_str (prog:=prog) (w:=w) (k:=k) (m:=m) (nx:=nx) ts es (dueF es ts marks) marks (mk marks e.1) (mk marks e.2) hl
 rw [es1]
 have pa:=pairsD_app es (dueT ts marks)
 have fl:=pairs_flat (dueF es ts marks)
 have i1:=natsD_at (l:=marks) (i:=e.1) (by omega)
 have i2:=natsD_at (l:=marks) (i:=e.2) (by omega)
 rw [hd] at c2 c3 fl
 have hp:pairsD (e :: rest)=D.tup [.int e.1,.int e.2] :: pairsD rest:=rfl
 obtain ⟨A,hA⟩ : ∃ y,y=pairsD es:=⟨_,rfl⟩
 obtain ⟨B,hB⟩ : ∃ y,y=pairsD (dueT ts marks):=⟨_,rfl⟩
 obtain ⟨C,hC⟩ : ∃ y,y=pairsD rest:=⟨_,rfl⟩
 have lA:A.length<=1000:=by rw [hA,pairsD_len]; exact hz2
 have lB:B.length<=900:=by rw [hB,pairsD_len]; omega
 unfold Vk at c1 c2 c3 ⊢
 rw [<- pa] at c2
 rw [hp] at c2 c3 fl
 rw [<- hA,<- hB] at c1 c2
 rw [<- hC] at c2 c3 fl
 rw [<- hA] at c3 ⊢
 generalize hR9:natsD marks=R at c1 c2 c3 i1 i2 ⊢
 have hR:=hR9.symm
 clear hR9
 generalize hR29:natsD (mapM (mk marks e.1) (mk marks e.2) marks)=R2 at c3 ⊢
 have hR2:=hR29.symm
 clear hR29
 have ff:Flat (.lst (pairsD [])):=pairs_flat []
 exact BTr.runS 60 [.comp c1,(cx prog w k m nx).addL (.d (.lst A)) (.d (.lst B)) A B rfl trivial rfl trivial (by omega),.stm c2,.lst [] false (by decide),
  (cx prog w k m nx).eqF (.d (.lst (D.tup [.int e.1,.int e.2] :: C))) (.d (.lst [])) (.lst (D.tup [.int e.1,.int e.2] :: C)) (.lst []) false (lst_nil_ne (by simp)) (.inl rfl) (.inl rfl) fl ff,.br false false rfl,
  (cx prog w k m nx).item (D.tup [.int e.1,.int e.2] :: C) 0 0 _ rfl rfl (by decide),(cx prog w k m nx).itemT [.int e.1,.int e.2] 0 0 _ rfl rfl (by decide),(cx prog w k m nx).item R e.1 e.1 (.int (mk marks e.1)) rfl i1 (by omega),
  (cx prog w k m nx).item (D.tup [.int e.1,.int e.2] :: C) 0 0 _ rfl rfl (by decide),(cx prog w k m nx).itemT [.int e.1,.int e.2] 1 1 _ rfl rfl (by decide),(cx prog w k m nx).item R e.2 e.2 (.int (mk marks e.2)) rfl i2 (by omega),.stm c3] (by kernel_rfl)
theorem mk_loop (ts:List T4) (es:List E2) (ht:∀ t ∈ ts,T7 t) (he:∀ e ∈ es,e.1 < 7 /\ e.2 < 7) (hz:ts.length<=30) (hz2:es.length<=1000):∀ (n:Nat) (marks:List Nat),marks.length=7->dueF es ts (runM es ts n marks) = [] ->
  WhTr prog w (KK w) bt k (mkF w) (whTest (mkW w)) (mkB w) n ⟨Vk ts es marks,[],m,nx⟩ (.ret (.d (.lst (natsD (runM es ts n marks))))) ⟨[],[],m,nx⟩
 | 0,marks,hl,hd=>.stop mk_true (mk_turn_end ts es marks hl ht he hz hz2 hd)
 | n+1,marks,hl,hd=>by
  cases q:dueF es ts marks with
  | nil=>
   rw [runM_nil (n+1) q]
   exact .stop mk_true (mk_turn_end ts es marks hl ht he hz hz2 q)
  | cons e rest=>exact .step mk_true (mk_turn ts es marks hl ht he hz hz2 q) (.inl rfl) (mk_loop ts es ht he hz hz2 n (stepM es ts marks) ((stepM_len es ts marks).trans hl) hd)
theorem marks_tr (ts:List T4) (es:List E2) (ht:∀ t ∈ ts,T7 t) (he:∀ e ∈ es,e.1 < 7 /\ e.2 < 7) (hz:ts.length<=30) (hz2:es.length<=1000) (n:Nat) (hd:dueF es ts (runM es ts n (List.range 7)) = []) :
  CallTr prog w (KK w) bt (k+1) (fn w "_law_marks") [.d (.lst (termsD ts)),.d (.lst (pairsD es))] [] m nx (.d (.lst (natsD (runM es ts n (List.range 7))))) m nx:=by
 have loop:=mk_loop (prog:=prog) (w:=w) (k:=k) (m:=m) (nx:=nx) ts es ht he hz hz2 n (List.range 7) (by simp) hd
 have st:=STr.while_ (c:=mkW w) (by kernel_rfl) loop
 have comp:STr prog w (KK w) bt k (mkF w) (nthS (bd w "_law_marks") 0) ⟨([("terms",.d (.lst (termsD ts))),("equations",.d (.lst (pairsD es)))]:List (Str × AV)),[],m,nx⟩ .next ⟨setv "marks" (.d (.lst (natsD (List.range 7)))) ([("terms",.d (.lst (termsD ts))),("equations",.d (.lst (pairsD es)))]:List (Str × AV)),[],m,nx⟩:=by
  generalize hV9:([("terms",.d (.lst (termsD ts))),("equations",.d (.lst (pairsD es)))]:List (Str × AV))=V
  have hV:=hV9.symm
  clear hV9
  unfold natsD
  refine STr.ofLoopC (by kernel_rfl) (by kernel_rfl) (by kernel_rfl) rfl (a:=.d (.rng 0 7 1)) (ds:=(List.range 7).map fun i:Nat=>D.int i) (ETr.runE 20 [(cx prog w k m nx).range1 7] (by subst hV; kernel_rfl)) (dsrc_rng (n:=7) (by kernel_rfl))
   (loop1n (st:=⟨V,[],m,nx⟩) (by kernel_rfl) (by kernel_rfl) (dsrc_rng (n:=7) (by kernel_rfl)) (tgt_nameN "place" (by kernel_rfl) (by kernel_rfl) (by subst hV; kernel_rfl)) (fun i hi l=>?_) (by decide))
  subst hV
  exact ETr.runE 20 [] (by kernel_rfl)
 unfold Vk at st
 generalize hR9:natsD (runM es ts n (List.range 7))=R at st ⊢
 have hR:=hR9.symm
 clear hR9
 exact CodeTr.call (codeA (fa w "_law_marks") ["terms", "equations"] [.d (.lst (termsD ts)),.d (.lst (pairsD es))] (.ret (.d (.lst R))) m nx [] [.stm comp,.stm st] (by kernel_rfl) (bindq2 fun S a b=>by kernel_rfl) rfl (by kernel_rfl))
end
end
section
theorem store_new (H:List Nat) (v:Nat):storeD (hdD H) ((256+H.length:Nat):Int) (.int v)=hdD (H ++ [v]):=by
 have hany:∀ (H:List Nat) (i a:Nat),i+H.length<=a->(hdFrom i H).any (fun kv=>kv.1=((256+a:Nat):Int))=false:=by
  intro H
  induction H with
  | nil=>intro i a _; rfl
  | cons u r ih=>
   intro i a h
   rw [List.length_cons] at h
   show ((((256+i:Nat):Int),D.int u) :: hdFrom (i+1) r).any (fun kv=>kv.1=((256+a:Nat):Int))=_
   rw [List.any_cons,ih (i+1) a (by omega),Bool.or_false]
   exact decide_eq_false (by dsimp only; omega)
 have happ:∀ (H:List Nat) (i:Nat),hdFrom i H ++ [(((256+(i+H.length):Nat):Int),D.int v)]=hdFrom i (H ++ [v]):=by
  intro H
  induction H with
  | nil=>intro i; rfl
  | cons u r ih=>
   intro i
   show ((((256+i:Nat):Int),D.int u) :: hdFrom (i+1) r) ++ _=(((256+i:Nat):Int),D.int u) :: hdFrom (i+1) (r ++ [v])
   rw [<- ih (i+1),List.length_cons,show i+1+r.length=i+(r.length+1) by omega]
   rfl
 unfold storeD hdD
 rw [hany H 0 H.length (by omega),if_neg Bool.false_ne_true]
 have:=happ H 0
 rw [Nat.zero_add] at this
 exact this
noncomputable def mkO (order:List Str) (marks:List Nat) (i:Nat):Nat:=mk marks (namesL.idxOf (order.getD i Str.empty))
noncomputable def likeL (order:List Str) (marks:List Nat) (p:Nat):List Nat:=(List.range order.length).filter fun o=>decide (mkO order marks o=mkO order marks p)
noncomputable def headOf (order:List Str) (marks:List Nat) (p:Nat):Nat:=256+(likeL order marks p).headD 0
noncomputable def headsH (order:List Str) (marks:List Nat):List Nat:=(List.range order.length).map (headOf order marks)
theorem like_cons (order:List Str) (marks:List Nat) {p:Nat} (hp:p < order.length):∃ a r,likeL order marks p=a :: r:=by
 have:p ∈ likeL order marks p:=List.mem_filter.mpr ⟨List.mem_range.mpr hp,decide_eq_true rfl⟩
 cases h:likeL order marks p with
 | nil=>rw [h] at this; cases this
 | cons a r=>exact ⟨a,r,rfl⟩
section
variable {prog:Program} {w:World} {k:Nat} {m:Nat->MO} {nx:Nat}
noncomputable abbrev hsF (w:World):Fm:=ph w "_law_heads"
noncomputable abbrev hsW (w:World):Stmt:=nthS (bd w "_law_heads") 2
noncomputable def Vh (order:List Str) (marks:List Nat) (nx:Nat):List (Str × AV):=[("order",.d (.lst (strDs order))),("marks",.d (.lst (natsD marks))),("names",.d (.lst (strDs namesL))),("heads",.loc nx)]
theorem idx7 {x:Str} (h:x ∈ namesL):namesL.idxOf x < 7:=by have:=List.idxOf_lt_length_iff.mpr h; rw [nlen] at this; exact this
theorem getD_mem' {l:List Str} {i:Nat} (h:i < l.length):l.getD i Str.empty ∈ l:=by rw [List.getD_eq_getElem?_getD,List.getElem?_eq_getElem h]; simp
theorem len_strs (l:List Str) (h:l.length<=100000):(cx prog w k m nx).Call (.k (.builtin "len")) [.d (.lst (strDs l))] (.d (.int (l.length:Nat))) m nx:=by
 have:=c_len (prog:=prog) (w:=w) (K:=KK w) (btab:=bt) (k:=k) (m:=m) (nx:=nx) (a:=.d (.lst (strDs l))) (ds:=strDs l) rfl trivial (by rw [strDs_len]; omega)
 rw [strDs_len] at this
 exact this
theorem like_str (order:List Str) (marks:List Nat) (hl:marks.length=7) (ho:∀ x ∈ order,x ∈ namesL) (hz:order.length<=100) (M:Nat->MO) (hd:Nat) (p:Nat) :
  STr prog w (KK w) bt k (hsF w) (nthS (forBody (hsW w)) 1) ⟨(("place",.d (.int p)):Str × AV) :: (Vh order marks hd ++ ([("mark",.d (.int (mkO order marks p)))]:List (Str × AV))),[],M,nx⟩ .next ⟨setv "like" (.d (.lst (natsD (likeL order marks p)))) ((("place",.d (.int p)):Str × AV) :: (Vh order marks hd ++ ([("mark",.d (.int (mkO order marks p)))]:List (Str × AV)))),[],M,nx⟩:=by
 generalize hV9:((("place",.d (.int p)):Str × AV) :: (Vh order marks hd ++ ([("mark",.d (.int (mkO order marks p)))]:List (Str × AV))):List (Str × AV))=V
 have hV:=hV9.symm
 clear hV9
 have hi:(lcFirst (asVal (nthS (forBody (hsW w)) 1))).ifs = [(lcFirst (asVal (nthS (forBody (hsW w)) 1))).ifs.headD (.Constant .none 0 default)]:=by kernel_rfl
 have ee:natsD (likeL order marks p)=((List.range order.length).filter fun o=>decide (mkO order marks o=mkO order marks p)).map fun n:Nat=>D.int n:=rfl
 have sm:Builtin.Range.small 0 (order.length:Int) 1=true:=by
  have:∀ n:Nat,n<=100->Builtin.Range.small 0 (n:Int) 1=true:=by
   intro n hn
   have:((List.range 101).all fun n=>Builtin.Range.small 0 ((n:Nat):Int) 1)=true:=by kernel_rfl
   exact List.all_eq_true.mp this n (List.mem_range.mpr (by omega))
  exact this _ hz
 rw [ee]
 refine STr.ofLoopP (by kernel_rfl) (by kernel_rfl) (by kernel_rfl) (a:=.d (.rng 0 (order.length:Nat) 1)) (ds:=(List.range order.length).map fun i:Nat=>D.int i)
  (ETr.runE 20 [.call (len_strs (prog:=prog) (w:=w) (k:=k) (m:=M) (nx:=nx) order (by omega)),(cx prog w k M nx).range1 (order.length:Nat)] (by subst hV; kernel_rfl)) (dsrc_rng sm)
  (loop1 (st:=⟨V,[],M,nx⟩) (xs:=List.range order.length) (gD:=fun i:Nat=>.int i) (p:=fun o=>decide (mkO order marks o=mkO order marks p)) (by kernel_rfl) (dsrc_rng sm) (tgt_nameN "other" (by kernel_rfl) (by kernel_rfl) (by subst hV; kernel_rfl)) (.inr ⟨_,hi,fun o ho' l=>?_⟩) (fun o ho' hp l=>?_) (by rw [List.length_range]; omega))
 ·have hol:o < order.length:=List.mem_range.mp ho'
  have hm:=ho _ (getD_mem' hol)
  have h7:=idx7 hm
  have i1:=strDs_get (l:=order) hol
  have i2:=natsD_at (l:=marks) (i:=namesL.idxOf (order.getD o Str.empty)) (by omega)
  subst hV
  show TTr _ _ _ _ _ _ _ _ (decide (mkO order marks o=mkO order marks p)) _
  have b1:decide (((mkO order marks o:Nat):Int)=(mkO order marks p:Nat))=decide (mkO order marks o=mkO order marks p):=by
   by_cases h:mkO order marks o=mkO order marks p
   ·rw [decide_eq_true h,h]; simp
   ·rw [decide_eq_false h]; exact decide_eq_false (by omega)
  obtain ⟨y,hy⟩ : ∃ y,y=order.getD o Str.empty:=⟨_,rfl⟩
  have hmo:marks.getD (namesL.idxOf y) 0=mkO order marks o:=by rw [hy]; rfl
  rw [<- hy] at hm h7 i1 i2
  rw [hmo] at i2
  generalize hb9:decide (mkO order marks o=mkO order marks p)=b at b1 ⊢
  have hb:=hb9.symm
  clear hb9
  induction b using Bool.casesOn with
  | true=>exact TTr.runE 30 [(cx prog w k (upd M nx (.list l)) (nx+1)).mIndex (.d (.lst (strDs namesL))) (strDs namesL) rfl trivial,(cx prog w k (upd M nx (.list l)) (nx+1)).item (strDs order) o o _ rfl i1 (by omega),
    (cx prog w k (upd M nx (.list l)) (nx+1)).cIndex (.d (.lst (strDs namesL))) y namesL rfl trivial hm (by rw [nlen]; omega),(cx prog w k (upd M nx (.list l)) (nx+1)).item (natsD marks) (namesL.idxOf y:Nat) (namesL.idxOf y) _ rfl i2 (by omega),.br _ true b1] (by kernel_rfl)
  | false=>exact TTr.runE 30 [(cx prog w k (upd M nx (.list l)) (nx+1)).mIndex (.d (.lst (strDs namesL))) (strDs namesL) rfl trivial,(cx prog w k (upd M nx (.list l)) (nx+1)).item (strDs order) o o _ rfl i1 (by omega),
    (cx prog w k (upd M nx (.list l)) (nx+1)).cIndex (.d (.lst (strDs namesL))) y namesL rfl trivial hm (by rw [nlen]; omega),(cx prog w k (upd M nx (.list l)) (nx+1)).item (natsD marks) (namesL.idxOf y:Nat) (namesL.idxOf y) _ rfl i2 (by omega),.br _ false b1] (by kernel_rfl)
 ·subst hV
  exact ETr.runE 30 [] (by kernel_rfl)
theorem small100 (n:Nat) (hn:n<=100):Builtin.Range.small 0 (n:Int) 1=true:=small1000 (Nat.le_trans hn (by decide))
theorem heads_tr (order:List Str) (marks:List Nat) (hl:marks.length=7) (ho:∀ x ∈ order,x ∈ namesL) (hz:order.length<=100) :
  CallTr prog w (KK w) bt (k+2) (fn w "_law_heads") [.d (.lst (strDs order)),.d (.lst (natsD marks))] [] m nx (.loc nx) (upd m nx (.dictI (hdD (headsH order marks)))) (nx+1):=by
 have sm:=small100 order.length hz
 have lenF:∀ (l:List Nat) (s:List Nat),(l.foldl (fun H p=>H ++ [headOf order marks p]) s)=s ++ l.map (headOf order marks):=by
  intro l
  induction l with
  | nil=>intro s; simp
  | cons a l ih=>intro s; rw [List.foldl_cons,ih]; simp
 have loop:=for_fold (prog:=prog) (w:=w) (K:=KK w) (btab:=bt) (k:=k+1) (φ:=hsF w) (t:=forTgt (hsW w)) (b:=forBody (hsW w)) (a:=.d (.rng 0 (order.length:Nat) 1)) (ds0:=(List.range order.length).map fun i:Nat=>D.int i) (fz:=[]) (nx:=nx+1)
  (V:=fun _:List Nat=>Vh order marks nx) (M:=fun H=>upd m nx (.dictI (hdD H))) (step:=fun H p=>H ++ [headOf order marks p]) (gD:=fun i:Nat=>.int i) (VX:=fun _ p=>("place",.d (.int p)) :: Vh order marks nx) (List.range order.length) [] (Vh order marks nx) (.refl _) (fun pre p post he=>by
   have hpl:pre.length=p:=by
    have h1:(List.range order.length)[pre.length]? = some p:=by rw [he]; simp
    have h2:pre.length < order.length:=by
     have:=congrArg List.length he
     simp at this
     omega
    rw [List.getElem?_range h2] at h1
    exact Option.some.inj h1
   have hp:p < order.length:=by
    have:p ∈ List.range order.length:=by rw [he]; simp
    exact List.mem_range.mp this
   generalize hH9:pre.foldl (fun H p=>H ++ [headOf order marks p]) []=H
   have hH:=hH9.symm
   clear hH9
   have lH:H.length=p:=by rw [hH,lenF]; simp [hpl]
   refine ⟨dsrc_rng sm,takes_nameN "place" (by kernel_rfl) (by kernel_rfl),.next,Vh order marks nx,.inl rfl,?_,.refl _⟩
   have hm:=ho _ (getD_mem' hp)
   have h7:=idx7 hm
   have i1:=strDs_get (l:=order) hp
   have i2:=natsD_at (l:=marks) (i:=namesL.idxOf (order.getD p Str.empty)) (by omega)
   obtain ⟨a,r,hlk⟩:=like_cons order marks hp
   have st:=like_str (prog:=prog) (w:=w) (k:=k+1) (nx:=nx+1) order marks hl ho hz (upd m nx (.dictI (hdD H))) nx p
   have hho:headOf order marks p=256+a:=by unfold headOf; rw [hlk]; rfl
   have stn:=store_new H (256+a)
   rw [lH] at stn
   rw [hho]
   rw [hlk] at st
   obtain ⟨y,hy⟩ : ∃ y,y=order.getD p Str.empty:=⟨_,rfl⟩
   have hmo:marks.getD (namesL.idxOf y) 0=mkO order marks p:=by rw [hy]; rfl
   rw [<- hy] at hm h7 i1 i2
   rw [hmo] at i2
   unfold Vh at st ⊢
   obtain ⟨O,hO⟩ : ∃ y,y=strDs order:=⟨_,rfl⟩
   obtain ⟨K,hK⟩ : ∃ y,y=natsD marks:=⟨_,rfl⟩
   obtain ⟨q,hq⟩ : ∃ y,y=mkO order marks p:=⟨_,rfl⟩
   rw [<- hO,<- hK,<- hq] at st
   rw [<- hO] at i1
   rw [<- hK,<- hq] at i2
   rw [<- hO,<- hK]
   have hdl:(hdD H).length<=100000:=by rw [show (hdD H).length=H.length from hdFrom_len H 0]; omega
   have e1:natsD (a :: r)=D.int a :: natsD r:=rfl
   rw [e1] at st
   obtain ⟨M1,d1⟩ : ∃ y,y=upd m nx (.dictI (hdD H)):=⟨_,rfl⟩
   have mm:M1 nx=.dictI (hdD H):=by rw [d1,upd_at]
   have em:upd M1 nx (.dictI (hdD (H ++ [256+a])))=upd m nx (.dictI (hdD (H ++ [256+a]))):=by rw [d1,upd_same]
   rw [<- d1] at st ⊢
   rw [<- em]
   generalize d29:upd M1 nx (.dictI (hdD (H ++ [256+a])))=M2
   have d2:=d29.symm
   clear d29
   have stn':storeD (hdD H) (256+(p:Int)) (.int (256+(a:Int)))=hdD (H ++ [256+a]):=stn
   exact BTr.runS 60 [(cx prog w (k+1) M1 (nx+1)).mIndex (.d (.lst (strDs namesL))) (strDs namesL) rfl trivial,(cx prog w (k+1) M1 (nx+1)).item O p p _ rfl i1 (by omega),
    (cx prog w (k+1) M1 (nx+1)).cIndex (.d (.lst (strDs namesL))) y namesL rfl trivial hm (by rw [nlen]; omega),(cx prog w (k+1) M1 (nx+1)).item K (namesL.idxOf y:Nat) (namesL.idxOf y) _ rfl i2 (by omega),.stm st,
    (cx prog w (k+1) M1 (nx+1)).item (D.int a :: natsD r) 0 0 (.int a) rfl rfl (by decide),(cx prog w (k+1) M1 (nx+1)).setDI nx (hdD H) (hdD (H ++ [256+a])) (256+(p:Int)) (.int (256+(a:Int))) stn' (Nat.lt_succ_self _) mm hdl M2 d2.symm] (by kernel_rfl)) (dsrc_rng sm)
 rw [lenF,List.nil_append] at loop
 change ∃ V9,VSub (Vh order marks nx) V9 /\ ForTr prog w (KK w) bt (k+1) (hsF w) (forTgt (hsW w)) (forBody (hsW w)) _ _ _ _ .next ⟨V9,[],upd m nx (.dictI (hdD (headsH order marks))),nx+1⟩ at loop
 have st:=STr.forP (c:=hsW w) (.d (.rng 0 (order.length:Nat) 1)) _ 20 [.call (len_strs (prog:=prog) (w:=w) (k:=k+1) (m:=upd m nx (.dictI (hdD []))) (nx:=nx+1) order (by omega)),(cx prog w (k+1) (upd m nx (.dictI (hdD []))) (nx+1)).range1 (order.length:Nat)] (by kernel_rfl) (by kernel_rfl) (dsrc_rng sm) loop
 unfold Vh at st
 generalize d19:upd m nx (.dictI (hdD (headsH order marks)))=M1 at st ⊢
 have d1:=d19.symm
 clear d19
 obtain ⟨O,hO⟩ : ∃ y,y=strDs order:=⟨_,rfl⟩
 obtain ⟨K,hK⟩ : ∃ y,y=natsD marks:=⟨_,rfl⟩
 rw [<- hO,<- hK] at st ⊢
 exact CodeTr.call (codeA (fa w "_law_heads") ["order", "marks"] [.d (.lst O),.d (.lst K)] (.ret (.loc nx)) M1 (nx+1) [] [.call (names_tr (prog:=prog) (w:=w) (k:=k) (m:=m) (nx:=nx)),.pick false,.stm st,.keep] (by kernel_rfl) (bindq2 fun S a b=>by kernel_rfl) rfl (by kernel_rfl))
end
end
section
structure Eqv (R:Nat->Nat->Prop):Prop where
 r:∀ a,R a a
 s:∀ {a b},R a b->R b a
 t:∀ {a b c},R a b->R b c->R a c
structure Clo (es:List E2) (ts:List T4) (R:Nat->Nat->Prop):Prop where
 e:Eqv R
 eqs:∀ e ∈ es,R e.1 e.2
 cong:∀ a ∈ ts,∀ b ∈ ts,a.2.1=b.2.1->R a.2.2.1 b.2.2.1->R a.2.2.2 b.2.2.2->R a.1 b.1
theorem countP_lt {α:Type} {p q:α->Bool}:∀ {l:List α},(∀ x ∈ l,p x=true->q x=true)->(∃ y ∈ l,q y=true /\ p y=false)->l.countP p < l.countP q
 | [],_,h=>by obtain ⟨y,hy,-⟩:=h; cases hy
 | a :: l,h,h2=>by
  have hm:l.countP p<=l.countP q:=List.countP_mono_left fun x hx=>h x (List.mem_cons_of_mem _ hx)
  obtain ⟨y,hy,h3,h4⟩:=h2
  rw [List.countP_cons,List.countP_cons]
  rcases List.mem_cons.mp hy with rfl | hy
  ·rw [h3,h4]; simp; omega
  ·have:=countP_lt (fun x hx=>h x (List.mem_cons_of_mem _ hx)) ⟨y,hy,h3,h4⟩
   have ha:=h a (List.mem_cons_self ..)
   cases pa:p a with
   | true=>rw [ha pa]; simp; omega
   | false=>cases qa:q a <;> simp <;> omega
theorem mk_map {marks:List Nat} {f:Nat->Nat} {i:Nat} (hi:i < marks.length):mk (marks.map f) i=f (mk marks i):=by
 unfold mk
 rw [List.getD_eq_getElem?_getD,List.getD_eq_getElem?_getD,List.getElem?_map,List.getElem?_eq_getElem hi]
 rfl
theorem mk_mem {marks:List Nat} {i:Nat} (hi:i < marks.length):mk marks i ∈ marks:=by
 unfold mk
 rw [List.getD_eq_getElem?_getD,List.getElem?_eq_getElem hi]
 simp
noncomputable def E7 (e:E2):Prop:=e.1 < 7 /\ e.2 < 7
theorem due_R {es:List E2} {ts:List T4} {R:Nat->Nat->Prop} (hR:Clo es ts R) {marks:List Nat} (ht:∀ t ∈ ts,T7 t) (h:∀ i j,i < 7->j < 7->mk marks i=mk marks j->R i j) {e:E2} (he:e ∈ dueF es ts marks):R e.1 e.2:=by
 unfold dueF at he
 rcases List.mem_append.mp (List.mem_filter.mp he).1 with h1 | h1
 ·exact hR.eqs e h1
 ·unfold dueT at h1
  obtain ⟨a,ha,h1⟩:=List.mem_flatMap.mp h1
  obtain ⟨b,hb,rfl⟩:=List.mem_map.mp h1
  obtain ⟨hb,hab⟩:=List.mem_filter.mp hb
  unfold alikeB at hab
  simp only [Bool.and_eq_true,decide_eq_true_eq] at hab
  obtain ⟨-,h2,h3,h4⟩:=hab
  obtain ⟨-,a2,a3⟩:=ht a ha
  obtain ⟨-,b2,b3⟩:=ht b hb
  exact hR.cong a ha b hb h2 (h _ _ a2 b2 h3) (h _ _ a3 b3 h4)
theorem stepM_cons {es:List E2} {ts:List T4} {marks:List Nat} {e:E2} {r:List E2} (h:dueF es ts marks=e :: r):stepM es ts marks=marks.map fun x=>if x=mk marks e.1 then mk marks e.2 else x:=by unfold stepM; rw [h]
theorem stepM_sound {es:List E2} {ts:List T4} {R:Nat->Nat->Prop} (hR:Clo es ts R) {marks:List Nat} (hl:marks.length=7) (ht:∀ t ∈ ts,T7 t) (he7:∀ e ∈ es,E7 e) (h:∀ i j,i < 7->j < 7->mk marks i=mk marks j->R i j) :
  ∀ i j,i < 7->j < 7->mk (stepM es ts marks) i=mk (stepM es ts marks) j->R i j:=by
 intro i j hi hj hij
 cases q:dueF es ts marks with
 | nil=>rw [stepM_nil q] at hij; exact h i j hi hj hij
 | cons e r=>
  have hem:e ∈ dueF es ts marks:=by rw [q]; exact List.mem_cons_self ..
  have hRe:=due_R hR ht h hem
  have h7:=due_mem he7 ht e (List.mem_filter.mp hem).1
  rw [stepM_cons q,mk_map (by omega),mk_map (by omega)] at hij
  by_cases h1:mk marks i=mk marks e.1
  ·rw [if_pos h1] at hij
   by_cases h2:mk marks j=mk marks e.1
   ·exact h i j hi hj (h1.trans h2.symm)
   ·rw [if_neg h2] at hij
    exact hR.e.t (h i e.1 hi h7.1 h1) (hR.e.t hRe (h e.2 j h7.2 hj hij))
  ·rw [if_neg h1] at hij
   by_cases h2:mk marks j=mk marks e.1
   ·rw [if_pos h2] at hij
    exact hR.e.t (h i e.2 hi h7.2 hij) (hR.e.t (hR.e.s hRe) (h e.1 j h7.1 hj h2.symm))
   ·rw [if_neg h2] at hij
    exact h i j hi hj hij
theorem runM_len (es:List E2) (ts:List T4):∀ (n:Nat) (marks:List Nat),(runM es ts n marks).length=marks.length
 | 0,_=>rfl
 | n+1,marks=>(runM_len es ts n (stepM es ts marks)).trans (stepM_len es ts marks)
theorem runM_sound {es:List E2} {ts:List T4} {R:Nat->Nat->Prop} (hR:Clo es ts R) (ht:∀ t ∈ ts,T7 t) (he7:∀ e ∈ es,E7 e):∀ (n:Nat) (marks:List Nat),marks.length=7->(∀ i j,i < 7->j < 7->mk marks i=mk marks j->R i j) ->
  ∀ i j,i < 7->j < 7->mk (runM es ts n marks) i=mk (runM es ts n marks) j->R i j
 | 0,_,_,h=>h
 | n+1,marks,hl,h=>runM_sound hR ht he7 n (stepM es ts marks) ((stepM_len es ts marks).trans hl) (stepM_sound hR hl ht he7 h)
noncomputable def muM (marks:List Nat):Nat:=(List.range 7).countP fun v=>decide (v ∈ marks)
theorem stepM_mu {es:List E2} {ts:List T4} {marks:List Nat} (hl:marks.length=7) (hm:∀ x ∈ marks,x < 7) (ht:∀ t ∈ ts,T7 t) (he7:∀ e ∈ es,E7 e) {e:E2} {r:List E2} (h:dueF es ts marks=e :: r) :
  muM (stepM es ts marks) < muM marks /\ ∀ x ∈ stepM es ts marks,x < 7:=by
 have hem:e ∈ dueF es ts marks:=by rw [h]; exact List.mem_cons_self ..
 have h7:=due_mem he7 ht e (List.mem_filter.mp hem).1
 have hne:mk marks e.1 ≠ mk marks e.2:=by
  have:=(List.mem_filter.mp hem).2
  simpa using this
 have m1:mk marks e.1 ∈ marks:=mk_mem (by omega)
 have m2:mk marks e.2 ∈ marks:=mk_mem (by omega)
 have sub:∀ x ∈ stepM es ts marks,x ∈ marks /\ x ≠ mk marks e.1:=by
  intro x hx
  rw [stepM_cons h] at hx
  obtain ⟨y,hy,rfl⟩:=List.mem_map.mp hx
  by_cases q:y=mk marks e.1
  ·rw [if_pos q]; exact ⟨m2,fun z=>hne z.symm⟩
  ·rw [if_neg q]; exact ⟨hy,q⟩
 refine ⟨countP_lt (fun x _ hx=>decide_eq_true (sub x (of_decide_eq_true hx)).1) ⟨mk marks e.1,List.mem_range.mpr (hm _ m1),decide_eq_true m1,decide_eq_false fun z=>(sub _ z).2 rfl⟩,fun x hx=>hm x (sub x hx).1⟩
theorem runM_ends {es:List E2} {ts:List T4} (ht:∀ t ∈ ts,T7 t) (he7:∀ e ∈ es,E7 e):∀ (n:Nat) (marks:List Nat),marks.length=7->(∀ x ∈ marks,x < 7)->muM marks<=n->dueF es ts (runM es ts n marks) = []
 | 0,marks,hl,hm,hmu=>by
  show dueF es ts marks = []
  cases q:dueF es ts marks with
  | nil=>rfl
  | cons e r=>have:=(stepM_mu hl hm ht he7 q).1; omega
 | n+1,marks,hl,hm,hmu=>by
  cases q:dueF es ts marks with
  | nil=>rw [runM_nil (n+1) q]; exact q
  | cons e r=>
   obtain ⟨h1,h2⟩:=stepM_mu hl hm ht he7 q
   exact runM_ends ht he7 n (stepM es ts marks) ((stepM_len es ts marks).trans hl) h2 (by omega)
theorem due_clo {es:List E2} {ts:List T4} {marks:List Nat} (h:dueF es ts marks = []):Clo es ts fun i j=>mk marks i=mk marks j:=by
 have key:∀ e ∈ es ++ dueT ts marks,mk marks e.1=mk marks e.2:=by
  intro e he
  by_cases q:mk marks e.1=mk marks e.2
  ·exact q
  ·have:e ∈ dueF es ts marks:=List.mem_filter.mpr ⟨he,by simpa using q⟩
   rw [h] at this; cases this
 have half:∀ a ∈ ts,∀ b ∈ ts,a.1 < b.1->a.2.1=b.2.1->mk marks a.2.2.1=mk marks b.2.2.1->mk marks a.2.2.2=mk marks b.2.2.2->mk marks a.1=mk marks b.1:=by
  intro a ha b hb h0 h1 h2 h3
  refine key (a.1,b.1) (List.mem_append.mpr (.inr (List.mem_flatMap.mpr ⟨a,ha,List.mem_map.mpr ⟨b,List.mem_filter.mpr ⟨hb,?_⟩,rfl⟩⟩)))
  unfold alikeB
  simp only [Bool.and_eq_true,decide_eq_true_eq]
  exact ⟨h0,h1,h2,h3⟩
 refine ⟨⟨fun _=>rfl,fun h=>h.symm,fun h1 h2=>h1.trans h2⟩,fun e he=>key e (List.mem_append.mpr (.inl he)),fun a ha b hb h1 h2 h3=>?_⟩
 rcases Nat.lt_trichotomy a.1 b.1 with h0 | h0 | h0
 ·exact half a ha b hb h0 h1 h2 h3
 ·rw [h0]
 ·exact (half b hb a ha h0 h1.symm h2.symm h3.symm).symm
theorem mk_range {i:Nat} (h:i < 7):mk (List.range 7) i=i:=by
 unfold mk
 rw [List.getD_eq_getElem?_getD,List.getElem?_range h]
 rfl
noncomputable def finM (es:List E2) (ts:List T4):List Nat:=runM es ts 7 (List.range 7)
theorem finM_due {es:List E2} {ts:List T4} (ht:∀ t ∈ ts,T7 t) (he7:∀ e ∈ es,E7 e):dueF es ts (finM es ts) = []:=
 runM_ends ht he7 7 (List.range 7) (by simp) (fun x hx=>List.mem_range.mp hx) (by
  have:muM (List.range 7)<=(List.range 7).length:=List.countP_le_length
  simpa using this)
theorem finM_least {es:List E2} {ts:List T4} {R:Nat->Nat->Prop} (hR:Clo es ts R) (ht:∀ t ∈ ts,T7 t) (he7:∀ e ∈ es,E7 e) {i j:Nat} (hi:i < 7) (hj:j < 7) (h:mk (finM es ts) i=mk (finM es ts) j):R i j:=
 runM_sound hR ht he7 7 (List.range 7) (by simp) (fun i j hi hj h=>by rw [mk_range hi,mk_range hj] at h; rw [h]; exact hR.e.r _) i j hi hj h
theorem finM_len (es:List E2) (ts:List T4):(finM es ts).length=7:=(runM_len es ts 7 (List.range 7)).trans (by simp)
structure Sup (H:List Nat) (Q:Que) (R:Nat->Nat->Prop):Prop where
 e:Eqv R
 h:∀ a b,NmOk H a->NmOk H b->hAt H a=hAt H b->R a b
 q:∀ p ∈ Q,R p.1 p.2
theorem lookup_app {κ β:Type} [BEq κ] {x:κ} {v:β}:∀ {l r:List (κ × β)},l.lookup x=some v->(l ++ r).lookup x=some v
 | p :: l,r,h=>by
  rw [List.cons_append]
  rw [List.lookup_cons] at h ⊢
  cases q:x == p.1 with
  | true=>rw [q] at h; exact h
  | false=>rw [q] at h; exact lookup_app h
theorem lookup_end {κ β:Type} [BEq κ] [LawfulBEq κ] {x:κ} {v:β}:∀ {l:List (κ × β)},l.lookup x=none->(l ++ [(x,v)]).lookup x=some v
 | [],_=>by simp
 | p :: l,h=>by
  rw [List.cons_append]
  rw [List.lookup_cons] at h ⊢
  cases q:x == p.1 with
  | true=>rw [q] at h; cases h
  | false=>rw [q] at h; exact lookup_end h
set_option tactic.hygienic true in
theorem note_spec (H:List Nat):∀ (ts:List T4) (z:Tbl × Que),(∀ q ∈ z.2,q ∈ (noteF H ts z).2) /\ (∀ s o,z.1.lookup s=some o->(noteF H ts z).1.lookup s=some o) /\
  ∀ t ∈ ts,∃ o,(noteF H ts z).1.lookup (sgOf H t)=some o /\ (hAt H o=hAt H t.1 \/ (o,t.1) ∈ (noteF H ts z).2)
 | [],z=>⟨fun _ h=>h,fun _ _ h=>h,fun t h=>by cases h⟩
 | t :: ts,z=>by
  obtain ⟨h1,h2,h3⟩:=note_spec H ts (noteStep H z t)
  have e:noteF H (t :: ts) z=noteF H ts (noteStep H z t):=rfl
  rw [e]
  have g1:∀ q ∈ z.2,q ∈ (noteStep H z t).2:=by
   intro q hq
   unfold noteStep
   split
   ·dsimp only
    split
    ·exact hq
    ·exact List.mem_append.mpr (.inl hq)
   ·exact hq
  have g2:∀ s o,z.1.lookup s=some o->(noteStep H z t).1.lookup s=some o:=by
   intro s o hs
   unfold noteStep
   split
   ·exact hs
   ·exact lookup_app hs
  have g3:∃ o,(noteStep H z t).1.lookup (sgOf H t)=some o /\ (hAt H o=hAt H t.1 \/ (o,t.1) ∈ (noteStep H z t).2):=by
   unfold noteStep
   split
   ·rename_i o ho
    refine ⟨o,ho,?_⟩
    by_cases q:hAt H o=hAt H t.1
    ·exact .inl q
    ·right; dsimp only; rw [if_neg q]; exact List.mem_append.mpr (.inr (List.mem_singleton.mpr rfl))
   ·rename_i ho
    exact ⟨t.1,lookup_end ho,.inl rfl⟩
  refine ⟨fun q hq=>h1 q (g1 q hq),fun s o hs=>h2 s o (g2 s o hs),fun t' ht'=>?_⟩
  rcases List.mem_cons.mp ht' with rfl | ht'
  ·obtain ⟨o,ho,hq⟩:=g3
   exact ⟨o,h2 _ _ ho,hq.imp id fun hq=>h1 _ hq⟩
  ·exact h3 t' ht'
structure SndI (ts:List T4) (R:Nat->Nat->Prop) (H:List Nat) (z:Tbl × Que):Prop where
 h:∀ a,NmOk H a->R (hAt H a) a
 q:∀ p ∈ z.2,R p.1 p.2
 t:∀ e ∈ z.1,∃ t ∈ ts,t.1=e.2 /\ t.2.1=e.1.1 /\ R e.1.2.1 t.2.2.1 /\ R e.1.2.2 t.2.2.2
set_option tactic.hygienic true in
theorem note_sound {es:List E2} {ts:List T4} {R:Nat->Nat->Prop} (hR:Clo es ts R) {H:List Nat} (ht:∀ t ∈ ts,TermOk H t):∀ (us:List T4) (z:Tbl × Que),(∀ t ∈ us,t ∈ ts)->SndI ts R H z->SndI ts R H (noteF H us z)
 | [],_,_,h=>h
 | t :: us,z,hu,h=>by
  refine note_sound hR ht us (noteStep H z t) (fun y hy=>hu y (List.mem_cons_of_mem _ hy)) ?_
  have htm:=hu t (List.mem_cons_self ..)
  obtain ⟨-,-,k3,k4⟩:=ht t htm
  unfold noteStep
  split
  ·rename_i o ho
   refine ⟨h.h,?_,h.t⟩
   dsimp only
   split
   ·exact h.q
   ·intro p hp
    rcases List.mem_append.mp hp with hp | hp
    ·exact h.q p hp
    ·rw [List.mem_singleton.mp hp]
     obtain ⟨t',ht',e1,e2,e3,e4⟩:=h.t _ (lookup_mem ho)
     dsimp only at e1 e2 e3 e4 ⊢
     rw [<- e1]
     unfold sgOf at e2 e3 e4
     dsimp only at e2 e3 e4
     exact hR.cong t' ht' t htm e2 (hR.e.t (hR.e.s e3) (h.h _ k3)) (hR.e.t (hR.e.s e4) (h.h _ k4))
  ·refine ⟨h.h,h.q,fun e he=>?_⟩
   rcases List.mem_append.mp he with he | he
   ·exact h.t e he
   ·rw [List.mem_singleton.mp he]
    exact ⟨t,htm,rfl,rfl,h.h _ k3,h.h _ k4⟩
theorem foldJ_hAt (v:Nat):∀ (mv:List Nat) (z:List Nat × List Nat),(∀ y ∈ mv,NmOk z.1 y)->∀ y,256<=y->hAt (mv.foldl (stepJ v) z).1 y=if y ∈ mv then v else hAt z.1 y
 | [],z,_,y,_=>by simp
 | a :: mv,z,hm,y,hy=>by
  have ha:=hm a (List.mem_cons_self ..)
  rw [List.foldl_cons,foldJ_hAt v mv (stepJ v z a) (fun u hu=>by unfold stepJ; exact nm_set.mpr (hm u (List.mem_cons_of_mem _ hu))) y hy]
  by_cases h1:y ∈ mv
  ·rw [if_pos h1,if_pos (List.mem_cons_of_mem _ h1)]
  ·rw [if_neg h1]
   unfold stepJ
   dsimp only
   by_cases h2:y=a
   ·subst h2; rw [hAt_set ha,if_pos (List.mem_cons_self ..)]
   ·rw [hAt_set_ne ha.1 hy h2,if_neg (by rw [List.mem_cons]; exact fun q=>q.elim h2 h1)]
theorem mem_mv {H row:List Nat} (h:RowOk H row) (v:Nat) {y:Nat} (hy:y ∈ row):y ∈ mvOf H row v ↔ hAt H y=v:=by
 obtain ⟨l1,l2⟩:=cut_lt h.2.2 v
 obtain ⟨e1,e2⟩:=cut_le h.2.2 v
 have hle:=cLt_le H row v
 have hll:=cLe_len H row v
 constructor
 ·intro hm
  unfold mvOf at hm
  obtain ⟨i,hi,he⟩:=List.getElem_of_mem hm
  rw [List.length_take,List.length_drop] at hi
  have hg:row.getD (cLt H row v+i) 0=y:=by
   rw [List.getElem_take,List.getElem_drop] at he
   rw [List.getD_eq_getElem?_getD,List.getElem?_eq_getElem (by omega),Option.getD_some]
   exact he
  have a1:=l2 (cLt H row v+i) (by omega) (by omega)
  have a2:=e1 (cLt H row v+i) (by omega)
  rw [hg] at a1 a2
  omega
 ·intro hv
  rw [row_cut H row v] at hy
  rcases List.mem_append.mp hy with hy | hy
  ·rcases List.mem_append.mp hy with hy | hy
   ·exfalso
    obtain ⟨i,hi,he⟩:=List.getElem_of_mem hy
    rw [List.length_take] at hi
    have hg:row.getD i 0=y:=by
     rw [List.getElem_take] at he
     rw [List.getD_eq_getElem?_getD,List.getElem?_eq_getElem (by omega),Option.getD_some]
     exact he
    have:=l1 i (by omega)
    rw [hg] at this
    omega
   ·exact hy
  ·exfalso
   obtain ⟨i,hi,he⟩:=List.getElem_of_mem hy
   rw [List.length_drop] at hi
   have hg:row.getD (cLe H row v+i) 0=y:=by
    rw [List.getElem_drop] at he
    rw [List.getD_eq_getElem?_getD,List.getElem?_eq_getElem (by omega),Option.getD_some]
    exact he
   have:=e2 (cLe H row v+i) (by omega) (by omega)
   rw [hg] at this
   omega
theorem join_hAt {H row:List Nat} (hJ:JOk (H,row)) (hall:∀ y,NmOk H y->y ∈ row) (le gr:Nat) {y:Nat} (hy:NmOk H y):hAt (joinF H row le gr).1 y=if hAt H y=gr then le else hAt H y:=by
 obtain ⟨c1,c2,c3,c4⟩:=cut_facts hJ.2 gr
 unfold joinF
 rw [foldJ_hAt le (mvOf H row gr) (H,row.take (cLt H row gr) ++ row.drop (cLe H row gr)) (fun u hu=>hJ.2.2.1 u (c2 u hu)) y hy.1]
 by_cases q:hAt H y=gr
 ·rw [if_pos q,if_pos ((mem_mv hJ.2 gr (hall y hy)).mpr q)]
 ·rw [if_neg q,if_neg fun z=>q ((mem_mv hJ.2 gr (hall y hy)).mp z)]
structure CI (es:List E2) (ts:List T4) (s:PS):Prop where
 p:POk ts s
 all:∀ y,NmOk s.H y->y ∈ s.row
 mn:∀ a,NmOk s.H a->hAt s.H a<=a /\ hAt s.H (hAt s.H a)=hAt s.H a
 eqs:∀ e ∈ es,∀ R,Sup s.H s.Q R->R e.1 e.2
 con:∀ a ∈ ts,∀ b ∈ ts,sgOf s.H a=sgOf s.H b->∀ R,Sup s.H s.Q R->R a.1 b.1
 snd:∀ R,Clo es ts R->SndI ts R s.H (s.T,s.Q)
noncomputable def nuH (H:List Nat):Nat:=(List.range H.length).countP fun i=>decide (hAt H (256+i)=256+i)
theorem con_note {ts:List T4} {H:List Nat} (hH:HOk H) (ht:∀ t ∈ ts,TermOk H t) (z:Tbl × Que) (hz:ZOk H z):∀ a ∈ ts,∀ b ∈ ts,sgOf H a=sgOf H b->∀ R,Sup H (noteF H ts z).2 R->R a.1 b.1:=by
 intro a ha b hb hab R hR
 obtain ⟨-,-,h3⟩:=note_spec H ts z
 obtain ⟨o,o1,o2⟩:=h3 a ha
 obtain ⟨o',o1',o2'⟩:=h3 b hb
 rw [<- hab,o1] at o1'
 cases o1'
 have hz':=noteF_ok hH hz ht
 have no:NmOk H o:=(hz'.1 _ (lookup_mem o1)).2
 have key:∀ c ∈ ts,(hAt H o=hAt H c.1 \/ (o,c.1) ∈ (noteF H ts z).2)->R o c.1:=fun c hc h=>h.elim (hR.h _ _ no (ht c hc).1) (hR.q (o,c.1))
 exact hR.e.t (hR.e.s (key a ha o2)) (key b hb o2')
section
variable {a b g l:Nat}
theorem mm_lt (h:¬ a=b):min a b < max a b:=by omega
theorem mm_min:min a b=a \/ min a b=b:=by omega
theorem mm_max:max a b=a \/ max a b=b:=by omega
theorem mm_l (hl:l=min a b) (hg:g=max a b) (h:a=g):l=b:=by omega
theorem mm_r (hl:l=min a b) (hg:g=max a b) (h:¬ a=g):b=g /\ l=a:=by omega
theorem mm_s {q n u v k:Nat} (hlen:u<=q+n) (h1:(n+1) * v+(n+1) * 1<=k):u+(n+1) * v < q+1+k:=by omega
end
theorem CI.step {es:List E2} {ts:List T4} {s:PS} (h:CI es ts s) (hne:s.Q ≠ []):CI es ts (stepC ts s) /\ (stepC ts s).Q.length+(ts.length+1) * nuH (stepC ts s).H < s.Q.length+(ts.length+1) * nuH s.H:=by
 obtain ⟨hp',hl',-,-⟩:=stepC_ok h.p
 obtain ⟨H,row,T,Q⟩:=s
 induction Q using List.casesOn with
 | nil=>exact absurd rfl hne
 | cons p Q'=>
  obtain ⟨a,b⟩:=p
  obtain ⟨hp,all,min',eqs,con,snd⟩:=h
  obtain ⟨j,z,n,t,l⟩:=hp
  dsimp only at j z n t l all min' eqs con snd
  obtain ⟨na,nb⟩:=z.2 (a,b) (List.mem_cons_self ..)
  dsimp only at na nb
  by_cases he:hAt H a=hAt H b
  ·have e:stepC ts ⟨H,row,T,(a,b) :: Q'⟩ = ⟨H,row,T,Q'⟩:=by unfold stepC; dsimp only; rw [if_pos he]
   rw [e] at hp' ⊢
   have up:∀ R,Sup H Q' R->Sup H ((a,b) :: Q') R:=fun R hR=>⟨hR.e,hR.h,fun p hp=>by
    rcases List.mem_cons.mp hp with rfl | hp
    ·exact hR.h _ _ na nb he
    ·exact hR.q p hp⟩
   refine ⟨⟨hp',all,min',fun e he R hR=>eqs e he R (up R hR),fun x hx y hy hxy R hR=>con x hx y hy hxy R (up R hR),fun R hR=>?_⟩,by dsimp only; rw [List.length_cons]; omega⟩
   obtain ⟨s1,s2,s3⟩:=snd R hR
   exact ⟨s1,fun p hp=>s2 p (List.mem_cons_of_mem _ hp),s3⟩
  ·obtain ⟨le,hle⟩ : ∃ y,y=min (hAt H a) (hAt H b):=⟨_,rfl⟩
   obtain ⟨gr,hgr⟩ : ∃ y,y=max (hAt H a) (hAt H b):=⟨_,rfl⟩
   obtain ⟨H',hH'⟩ : ∃ y,y=(joinF H row le gr).1:=⟨_,rfl⟩
   have e:stepC ts ⟨H,row,T,(a,b) :: Q'⟩ = ⟨H',(joinF H row le gr).2,(noteF H' ts (T,Q')).1,(noteF H' ts (T,Q')).2⟩:=by unfold stepC; dsimp only; rw [if_neg he,<- hle,<- hgr,<- hH']
   rw [e] at hp' hl' ⊢
   dsimp only at hl'
   have hAt':∀ y,NmOk H y->hAt H' y=if hAt H y=gr then le else hAt H y:=fun y hy=>by rw [hH']; exact join_hAt j all le gr hy
   have nle:NmOk H le:=by rw [hle]; exact (nm_min (hAt_ok j.1 na) (hAt_ok j.1 nb)).1
   have ngr:NmOk H gr:=by rw [hgr]; exact (nm_min (hAt_ok j.1 na) (hAt_ok j.1 nb)).2
   have hlg:le < gr:=hle ▸ hgr ▸ mm_lt he
   have fix:∀ y,y=hAt H a \/ y=hAt H b->hAt H y=y:=fun y hy=>by
    rcases hy with rfl | rfl
    ·exact (min' a na).2
    ·exact (min' b nb).2
   have fle:hAt H le=le:=fix le (hle ▸ mm_min)
   have fgr:hAt H gr=gr:=fix gr (hgr ▸ mm_max)
   have nmI:∀ y,NmOk H' y ↔ NmOk H y:=fun y=>by unfold NmOk; rw [hl']
   obtain ⟨q1,q2,q3,q4⟩:=join_ok (gr:=gr) j nle
   have q1:HOk H':=by rw [hH']; exact q1.1
   rw [<- hH'] at q2
   have t':∀ x ∈ ts,TermOk H' x:=fun x hx=>term_len q2 (t x hx)
   have z':ZOk H' (T,Q'):=zok_len q2 ⟨z.1,fun q hq=>z.2 q (List.mem_cons_of_mem _ hq)⟩
   obtain ⟨p1,p2,p3⟩:=note_spec H' ts (T,Q')
   dsimp only at p1
   have up:∀ R,Sup H' (noteF H' ts (T,Q')).2 R->Sup H ((a,b) :: Q') R:=fun R hR=>⟨hR.e,fun x y hx hy hxy=>hR.h x y ((nmI x).mpr hx) ((nmI y).mpr hy) (by rw [hAt' x hx,hAt' y hy,hxy]),fun p hp=>by
    rcases List.mem_cons.mp hp with rfl | hp
    ·refine hR.h a b ((nmI a).mpr na) ((nmI b).mpr nb) ?_
     rw [hAt' a na,hAt' b nb]
     by_cases h1:hAt H a=gr
     ·rw [if_pos h1,if_neg fun h2=>he (h1.trans h2.symm)]
      exact mm_l hle hgr h1
     ·rw [if_neg h1,if_pos (mm_r hle hgr h1).1]
      exact (mm_r hle hgr h1).2.symm
    ·exact hR.q p (p1 p hp)⟩
   have minN:∀ y,NmOk H' y->hAt H' y<=y /\ hAt H' (hAt H' y)=hAt H' y:=fun y hy=>by
    have hy:=(nmI y).mp hy
    obtain ⟨m1,m2⟩:=min' y hy
    rw [hAt' y hy]
    by_cases h1:hAt H y=gr
    ·rw [if_pos h1]
     refine ⟨Nat.le_trans (Nat.le_of_lt hlg) (h1 ▸ m1),?_⟩
     rw [hAt' le nle,if_neg fun h=>Nat.ne_of_lt hlg (fle.symm.trans h),fle]
    ·rw [if_neg h1]
     refine ⟨m1,?_⟩
     rw [hAt' _ (hAt_ok j.1 hy),m2,if_neg h1]
   refine ⟨⟨hp',fun y hy=>(q4 y).mpr (all y ((nmI y).mp hy)),minN,fun e he R hR=>eqs e he R (up R hR),con_note q1 t' (T,Q') z',fun R hR=>?_⟩,?_⟩
   ·obtain ⟨s1,s2,s3⟩:=snd R hR
    have sab:=s2 (a,b) (List.mem_cons_self ..)
    dsimp only at s2 s3 sab
    refine note_sound hR t' ts (T,Q') (fun _ h=>h) ⟨fun y hy=>?_,fun p hp=>s2 p (List.mem_cons_of_mem _ hp),s3⟩
    have hy:=(nmI y).mp hy
    have hRy:=s1 y hy
    rw [hAt' y hy]
    by_cases h1:hAt H y=gr
    ·rw [if_pos h1]
     rw [h1] at hRy
     refine hR.e.t ?_ hRy
     have sa:=s1 a na
     have sb:=s1 b nb
     have hab:R (hAt H a) (hAt H b):=hR.e.t sa (hR.e.t sab (hR.e.s sb))
     rcases Nat.le_total (hAt H a) (hAt H b) with hc | hc
     ·rw [hle,hgr,Nat.min_eq_left hc,Nat.max_eq_right hc]; exact hab
     ·rw [hle,hgr,Nat.min_eq_right hc,Nat.max_eq_left hc]; exact hR.e.s hab
    ·rw [if_neg h1]; exact hRy
   ·have hlen:=(noteF_len H' ts (T,Q')).2
    dsimp only at hlen ⊢
    rw [List.length_cons]
    have hnu:nuH H' < nuH H:=by
     unfold nuH
     rw [hl']
     refine countP_lt (fun i hi h=>?_) ⟨gr - 256,List.mem_range.mpr (Nat.sub_lt_left_of_lt_add ngr.1 ngr.2),?_,?_⟩
     ·have hi:=List.mem_range.mp hi
      have hn:NmOk H (256+i):=⟨Nat.le_add_right _ _,Nat.add_lt_add_left hi _⟩
      have h:=of_decide_eq_true h
      rw [hAt' _ hn] at h
      refine decide_eq_true ?_
      by_cases h1:hAt H (256+i)=gr
      ·rw [if_pos h1] at h
       rw [<- h,fle] at h1
       exact absurd h1 (Nat.ne_of_lt hlg)
      ·rw [if_neg h1] at h; exact h
     ·rw [Nat.add_sub_of_le ngr.1]; exact decide_eq_true fgr
     ·rw [Nat.add_sub_of_le ngr.1]
      refine decide_eq_false ?_
      rw [hAt' gr ngr,if_pos fgr]
      exact Nat.ne_of_lt hlg
    have h1:(ts.length+1) * (nuH H'+1)<=(ts.length+1) * nuH H:=Nat.mul_le_mul_left _ hnu
    rw [Nat.mul_add] at h1
    exact mm_s hlen h1
theorem CI.run {es:List E2} {ts:List T4}:∀ (N:Nat) {s:PS},CI es ts s->s.Q.length+(ts.length+1) * nuH s.H<=N->CI es ts (runC ts N s) /\ (runC ts N s).Q = []
 | 0,s,h,hN=>by
  refine ⟨h,?_⟩
  show s.Q = []
  exact List.length_eq_zero_iff.mp (by omega)
 | N+1,s,h,hN=>by
  by_cases q:s.Q = []
  ·rw [runC_nil (N+1) q]; exact ⟨h,q⟩
  ·obtain ⟨h1,h2⟩:=h.step q
   exact CI.run N h1 (by omega)
noncomputable def s0F (n:Nat) (ts:List T4) (es:List E2):PS:=⟨initH n,initH n,(noteF (initH n) ts ([],es)).1,(noteF (initH n) ts ([],es)).2⟩
theorem ci0 {n:Nat} (hn:n<=7) {es:List E2} {ts:List T4} (ht:∀ t ∈ ts,TermOk (initH n) t) (he:∀ e ∈ es,NmOk (initH n) e.1 /\ NmOk (initH n) e.2):CI es ts (s0F n ts es):=by
 have hH:=initH_ok hn
 have hz0:ZOk (initH n) ([],es):=⟨fun e he=>(by cases he),fun q hq=>he q hq⟩
 have hnm:∀ y,NmOk (initH n) y->256<=y /\ y < 256+n:=fun y hy=>by unfold NmOk at hy; rw [initH_len] at hy; exact hy
 obtain ⟨p1,-,-⟩:=note_spec (initH n) ts ([],es)
 refine ⟨⟨⟨hH,initH_row⟩,noteF_ok hH hz0 ht,by show (initH n).length<=7; rw [initH_len]; exact hn,ht,by show (initH n).length<=100; rw [initH_len]; omega⟩,fun y hy=>initH_mem.mpr (hnm y hy),fun a ha=>?_,fun e hem R hR=>?_,con_note hH ht ([],es) hz0,fun R hR=>?_⟩
 ·show hAt (initH n) a<=a /\ hAt (initH n) (hAt (initH n) a)=hAt (initH n) a
  rw [hAt_init (hnm a ha),hAt_init (hnm a ha)]
  exact ⟨Nat.le_refl _,rfl⟩
 ·exact hR.q e (p1 e hem)
 ·refine note_sound hR ht ts ([],es) (fun _ h=>h) ⟨fun a ha=>?_,fun p hp=>hR.eqs p hp,fun e he=>by cases he⟩
  rw [hAt_init (hnm a ha)]; exact hR.e.r a
noncomputable def stN (ts:List T4) (es:List E2):Nat:=es.length+ts.length+(ts.length+1) * 7
theorem nu_le (H:List Nat):nuH H<=H.length:=by
 have:nuH H<=(List.range H.length).length:=List.countP_le_length
 simpa using this
theorem ci_fin {n:Nat} (hn:n<=7) {es:List E2} {ts:List T4} (ht:∀ t ∈ ts,TermOk (initH n) t) (he:∀ e ∈ es,NmOk (initH n) e.1 /\ NmOk (initH n) e.2):CI es ts (runC ts (stN ts es) (s0F n ts es)) /\ (runC ts (stN ts es) (s0F n ts es)).Q = []:=by
 refine CI.run _ (ci0 hn ht he) ?_
 have h1:=(noteF_len (initH n) ts ([],es)).2
 have h2:=nu_le (initH n)
 rw [initH_len] at h2
 have h3:(ts.length+1) * nuH (initH n)<=(ts.length+1) * 7:=Nat.mul_le_mul_left _ (by omega)
 unfold stN s0F
 dsimp only at h1 ⊢
 omega
theorem CI.clo {es:List E2} {ts:List T4} {s:PS} (h:CI es ts s) (hQ:s.Q = []):Clo es ts fun a b=>hAt s.H a=hAt s.H b:=by
 have eq:Eqv fun a b=>hAt s.H a=hAt s.H b:=⟨fun _=>rfl,fun h=>h.symm,fun h1 h2=>h1.trans h2⟩
 have S:Sup s.H s.Q fun a b=>hAt s.H a=hAt s.H b:=⟨eq,fun _ _ _ _ h=>h,fun p hp=>by rw [hQ] at hp; cases hp⟩
 refine ⟨eq,fun e he=>h.eqs e he _ S,fun a ha b hb h1 h2 h3=>h.con a ha b hb ?_ _ S⟩
 unfold sgOf
 rw [h1,h2,h3]
theorem CI.least {es:List E2} {ts:List T4} {s:PS} (h:CI es ts s) {R:Nat->Nat->Prop} (hR:Clo es ts R) {a b:Nat} (ha:NmOk s.H a) (hb:NmOk s.H b) (hab:hAt s.H a=hAt s.H b):R a b:=by
 have:=(h.snd R hR).h
 have h1:=this a ha
 have h2:=this b hb
 rw [hab] at h1
 exact hR.e.t (hR.e.s h1) h2
end
section
theorem getD_eq {l:List Str} {i:Nat} (h:i < l.length):l.getD i Str.empty=l[i]:=by rw [List.getD_eq_getElem?_getD,List.getElem?_eq_getElem h]; rfl
theorem idx_get {l:List Str} (hn:l.Nodup) {i:Nat} (h:i < l.length):l.idxOf (l.getD i Str.empty)=i:=by rw [getD_eq h]; exact List.Nodup.idxOf_getElem hn i h
theorem get_idx {l:List Str} {x:Str} (h:x ∈ l):l.getD (l.idxOf x) Str.empty=x:=by
 have hl:=List.idxOf_lt_length_iff.mpr h
 rw [getD_eq hl]; exact List.getElem_idxOf hl
theorem names_nd:namesL.Nodup:=by decide +kernel
noncomputable def numO (order:List Str) (p:Nat):Nat:=256+order.idxOf (namesL.getD p Str.empty)
noncomputable def kindO (letters:List Str) (x:Nat):Nat:=7+signsL.idxOf (letters.getD x Str.empty)
noncomputable def tsN (order letters:List Str) (ts:List T4):List T4:=ts.map fun t=>(numO order t.1,kindO letters t.2.1,numO order t.2.2.1,numO order t.2.2.2)
noncomputable def esN (order:List Str) (es:List E2):List E2:=es.map fun e=>(numO order e.1,numO order e.2)
noncomputable def Used (order:List Str) (p:Nat):Prop:=p < 7 /\ namesL.getD p Str.empty ∈ order
structure OrdOk (order letters:List Str) (ts:List T4) (es:List E2):Prop where
 nd:order.Nodup
 sub:∀ x ∈ order,x ∈ namesL
 len:order.length<=7
 t:∀ t ∈ ts,Used order t.1 /\ t.2.1 < 2 /\ Used order t.2.2.1 /\ Used order t.2.2.2
 e:∀ e ∈ es,Used order e.1 /\ Used order e.2
 l:kindO letters 0 ≠ kindO letters 1
theorem kindO_lt (letters:List Str) (x:Nat):kindO letters x < 600:=by
 unfold kindO
 have:signsL.idxOf (letters.getD x Str.empty)<=signsL.length:=List.idxOf_le_length
 rw [signs_len] at this
 omega
section
variable {order letters:List Str} {ts:List T4} {es:List E2}
theorem OrdOk.kind (h:OrdOk order letters ts es) {x y:Nat} (hx:x < 2) (hy:y < 2) (e:kindO letters x=kindO letters y):x=y:=by
 have h0:=h.l
 have hx':x=0 \/ x=1:=by omega
 have hy':y=0 \/ y=1:=by omega
 rcases hx' with rfl | rfl <;> rcases hy' with rfl | rfl
 ·rfl
 ·exact absurd e h0
 ·exact absurd e.symm h0
 ·rfl
theorem num_nm {p:Nat} (h:Used order p):NmOk (initH order.length) (numO order p):=by
 unfold NmOk numO
 rw [initH_len]
 have:=List.idxOf_lt_length_iff.mpr h.2
 omega
theorem OrdOk.terms (h:OrdOk order letters ts es):∀ t ∈ tsN order letters ts,TermOk (initH order.length) t:=by
 intro t ht
 obtain ⟨u,hu,rfl⟩:=List.mem_map.mp ht
 obtain ⟨h1,h2,h3,h4⟩:=h.t u hu
 exact ⟨num_nm h1,kindO_lt _ _,num_nm h3,num_nm h4⟩
theorem OrdOk.eqs (h:OrdOk order letters ts es):∀ e ∈ esN order es,NmOk (initH order.length) e.1 /\ NmOk (initH order.length) e.2:=by
 intro e he
 obtain ⟨u,hu,rfl⟩:=List.mem_map.mp he
 obtain ⟨h1,h2⟩:=h.e u hu
 exact ⟨num_nm h1,num_nm h2⟩
theorem OrdOk.t7 (h:OrdOk order letters ts es):∀ t ∈ ts,T7 t:=fun t ht=>let ⟨h1,_,h3,h4⟩:=h.t t ht; ⟨h1.1,h3.1,h4.1⟩
theorem OrdOk.e7 (h:OrdOk order letters ts es):∀ e ∈ es,E7 e:=fun e he=>let ⟨h1,h2⟩:=h.e e he; ⟨h1.1,h2.1⟩
theorem mkO_num (marks:List Nat) {p:Nat} (h:Used order p):mkO order marks (numO order p - 256)=mk marks p:=by
 unfold mkO numO
 rw [Nat.add_sub_cancel_left,get_idx h.2,idx_get names_nd (by rw [nlen]; exact h.1)]
theorem num_at (h:OrdOk order letters ts es) {o:Nat} (ho:o < order.length):namesL.idxOf (order.getD o Str.empty) < 7 /\ Used order (namesL.idxOf (order.getD o Str.empty)) /\ numO order (namesL.idxOf (order.getD o Str.empty))=256+o:=by
 have hm:=getD_mem' ho
 have hn:=h.sub _ hm
 have h7:=idx7 hn
 have e:=get_idx hn
 refine ⟨h7,⟨h7,by rw [e]; exact hm⟩,?_⟩
 unfold numO
 rw [e,idx_get h.nd ho]
noncomputable def finS (order letters:List Str) (ts:List T4) (es:List E2):PS:=runC (tsN order letters ts) (stN (tsN order letters ts) (esN order es)) (s0F order.length (tsN order letters ts) (esN order es))
theorem OrdOk.fin (h:OrdOk order letters ts es):CI (esN order es) (tsN order letters ts) (finS order letters ts es) /\ (finS order letters ts es).Q = []:=ci_fin h.len h.terms h.eqs
theorem runC_len {ts:List T4}:∀ (N:Nat) {s:PS},POk ts s->(runC ts N s).H.length=s.H.length
 | 0,_,_=>rfl
 | N+1,_,h=>by
  obtain ⟨h1,h2,-⟩:=stepC_ok h
  exact (runC_len N h1).trans h2
theorem OrdOk.hlen (h:OrdOk order letters ts es):(finS order letters ts es).H.length=order.length:=
 (runC_len _ (ci0 h.len h.terms h.eqs).p).trans (initH_len _)
theorem OrdOk.same_aux (h:OrdOk order letters ts es) (M:List Nat) (hm:Clo es ts fun i j=>Internal.mk M i=Internal.mk M j) (lM:∀ f:Nat->Nat,Clo es ts (fun i j=>f i=f j)->∀ i j,i < 7->j < 7->Internal.mk M i=Internal.mk M j->f i=f j)
  (H:List Nat) (cl:Clo (esN order es) (tsN order letters ts) fun a b=>hAt H a=hAt H b) (lH:∀ f:Nat->Nat,Clo (esN order es) (tsN order letters ts) (fun i j=>f i=f j)->∀ a b,NmOk H a->NmOk H b->hAt H a=hAt H b->f a=f b) (hl:H.length=order.length)
  {o p:Nat} (ho:o < order.length) (hp:p < order.length):mkO order M o=mkO order M p ↔ hAt H (256+o)=hAt H (256+p):=by
 obtain ⟨a1,a2,a3⟩:=num_at h ho
 obtain ⟨b1,b2,b3⟩:=num_at h hp
 constructor
 ·intro e
  obtain ⟨g,hg⟩ : ∃ g:Nat->Nat,g=fun x=>if namesL.getD x Str.empty ∈ order then hAt H (numO order x) else x:=⟨_,rfl⟩
  have gu:∀ x,Used order x->g x=hAt H (numO order x):=fun x hx=>by rw [hg]; dsimp only; rw [if_pos hx.2]
  have R:Clo es ts fun x y=>g x=g y:=by
   refine ⟨⟨fun _=>rfl,fun h=>h.symm,fun h1 h2=>h1.trans h2⟩,fun e he=>?_,fun a ha b hb k1 k2 k3=>?_⟩
   ·obtain ⟨u1,u2⟩:=h.e e he
    rw [gu _ u1,gu _ u2]
    exact cl.eqs (numO order e.1,numO order e.2) (List.mem_map.mpr ⟨e,he,rfl⟩)
   ·obtain ⟨u1,-,u3,u4⟩:=h.t a ha
    obtain ⟨v1,-,v3,v4⟩:=h.t b hb
    rw [gu _ u3,gu _ v3] at k2
    rw [gu _ u4,gu _ v4] at k3
    rw [gu _ u1,gu _ v1]
    exact cl.cong (numO order a.1,kindO letters a.2.1,numO order a.2.2.1,numO order a.2.2.2) (List.mem_map.mpr ⟨a,ha,rfl⟩) (numO order b.1,kindO letters b.2.1,numO order b.2.2.1,numO order b.2.2.2) (List.mem_map.mpr ⟨b,hb,rfl⟩) (by dsimp only; rw [k1]) k2 k3
  have:=lM g R _ _ a1 b1 e
  rw [gu _ a2,gu _ b2,a3,b3] at this
  exact this
 ·intro e
  obtain ⟨g,hg⟩ : ∃ g:Nat->Nat,g=fun x=>mkO order M (x - 256):=⟨_,rfl⟩
  have gu:∀ x,Used order x->g (numO order x)=Internal.mk M x:=fun x hx=>by rw [hg]; dsimp only; rw [mkO_num _ hx]
  have R:Clo (esN order es) (tsN order letters ts) fun x y=>g x=g y:=by
   refine ⟨⟨fun _=>rfl,fun h=>h.symm,fun h1 h2=>h1.trans h2⟩,fun e he=>?_,fun a ha b hb k1 k2 k3=>?_⟩
   ·obtain ⟨u,hu,rfl⟩:=List.mem_map.mp he
    obtain ⟨u1,u2⟩:=h.e u hu
    dsimp only
    rw [gu _ u1,gu _ u2]
    exact hm.eqs u hu
   ·obtain ⟨u,hu,rfl⟩:=List.mem_map.mp ha
    obtain ⟨v,hv,rfl⟩:=List.mem_map.mp hb
    obtain ⟨u1,u2,u3,u4⟩:=h.t u hu
    obtain ⟨v1,v2,v3,v4⟩:=h.t v hv
    dsimp only at k1 k2 k3 ⊢
    rw [gu _ u3,gu _ v3] at k2
    rw [gu _ u4,gu _ v4] at k3
    rw [gu _ u1,gu _ v1]
    exact hm.cong u hu v hv (h.kind u2 v2 k1) k2 k3
  have:=lH g R (256+o) (256+p) ⟨by omega,by omega⟩ ⟨by omega,by omega⟩ e
  rw [hg] at this
  dsimp only at this
  rw [Nat.add_sub_cancel_left,Nat.add_sub_cancel_left] at this
  exact this
theorem OrdOk.same (h:OrdOk order letters ts es) {o p:Nat} (ho:o < order.length) (hp:p < order.length):mkO order (finM es ts) o=mkO order (finM es ts) p ↔ hAt (finS order letters ts es).H (256+o)=hAt (finS order letters ts es).H (256+p):=
 h.same_aux (finM es ts) (due_clo (finM_due h.t7 h.e7)) (fun f R i j hi hj e=>finM_least R h.t7 h.e7 hi hj e) (finS order letters ts es).H (h.fin.1.clo h.fin.2) (fun f R a b ha hb e=>h.fin.1.least R ha hb e) h.hlen ho hp
theorem OrdOk.heads (h:OrdOk order letters ts es):(finS order letters ts es).H=headsH order (finM es ts):=by
 obtain ⟨C,hQ⟩:=h.fin
 have hl:=h.hlen
 apply List.ext_getElem
 ·rw [hl]; simp [headsH]
 ·intro p h1 h2
  have hp:p < order.length:=Nat.lt_of_lt_of_eq h1 hl
  have e1:(headsH order (finM es ts))[p]=headOf order (finM es ts) p:=by simp [headsH]
  rw [e1]
  have e0:(finS order letters ts es).H[p]=hAt (finS order letters ts es).H (256+p):=by
   unfold hAt
   rw [Nat.add_sub_cancel_left,List.getD_eq_getElem?_getD,List.getElem?_eq_getElem h1]
   rfl
  rw [e0]
  have np:NmOk (finS order letters ts es).H (256+p):=⟨Nat.le_add_right _ _,Nat.add_lt_add_left h1 _⟩
  obtain ⟨m1,m2⟩:=C.mn _ np
  have nq:=hAt_ok C.p.j.1 np
  obtain ⟨q,hq⟩ : ∃ q,q=hAt (finS order letters ts es).H (256+p) - 256:=⟨_,rfl⟩
  have eq:hAt (finS order letters ts es).H (256+p)=256+q:=hq ▸ (Nat.add_sub_of_le nq.1).symm
  have hqn:q < order.length:=Nat.lt_of_lt_of_eq (hq ▸ Nat.sub_lt_left_of_lt_add nq.1 nq.2) hl
  rw [eq] at m2 ⊢
  unfold headOf
  have find:(List.range order.length).find? (fun o=>decide (mkO order (finM es ts) o=mkO order (finM es ts) p))=some q:=by
   rw [List.find?_range_eq_some]
   refine ⟨decide_eq_true ((h.same hqn hp).mpr (by rw [m2,eq])),List.mem_range.mpr hqn,fun j hj=>?_⟩
   rw [Bool.not_eq_true',decide_eq_false_iff_not]
   intro hm
   have hjn:=Nat.lt_trans hj hqn
   have this:=((h.same hjn hp).mp hm).trans eq
   have mj:=(C.mn (256+j) ⟨Nat.le_add_right _ _,Nat.add_lt_add_left (Nat.lt_of_lt_of_eq hjn hl.symm) _⟩).1
   exact absurd (Nat.le_of_add_le_add_left (Nat.le_trans (Nat.le_of_eq this.symm) mj)) (Nat.not_le_of_lt hj)
  have:(likeL order (finM es ts) p).headD 0=q:=by
   unfold likeL
   rw [List.headD_eq_head?_getD,List.head?_filter,find]
   rfl
  rw [this]
theorem OrdOk.row (h:OrdOk order letters ts es):((rowI (finS order letters ts es).row).mergeSort (fun x y=>decide (x<=y))).map D.int=natsD (initH order.length):=by
 obtain ⟨C,hQ⟩:=h.fin
 have hl:=h.hlen
 have hp:(finS order letters ts es).row.Perm (initH order.length):=by
  refine (List.perm_ext_iff_of_nodup C.p.j.2.1 initH_row.1).mpr fun a=>?_
  rw [initH_mem]
  constructor
  ·intro ha
   have:=C.p.j.2.2.1 a ha
   unfold NmOk at this
   dsimp only at this
   rw [hl] at this
   exact this
  ·intro ha
   exact C.all a (by unfold NmOk; rw [hl]; exact ha)
 have hs:((initH order.length).map fun n:Nat=>(n:Int)).Pairwise (· <= ·):=by
  rw [List.pairwise_map]
  unfold initH
  rw [List.pairwise_map]
  exact List.pairwise_lt_range.imp fun {a b} h=>by omega
 rw [sorted_eq (ns:=rowI (finS order letters ts es).row) (ns':=(initH order.length).map fun n:Nat=>(n:Int)) (hp.symm.map _) hs]
 unfold natsD
 rw [List.map_map]
 rfl
noncomputable def toldL (s:PS):List Nat:=s.row.map (hAt s.H)
theorem OrdOk.told (h:OrdOk order letters ts es):((rowI (toldL (finS order letters ts es))).mergeSort (fun x y=>decide (x<=y))).map D.int=natsD (toldL (finS order letters ts es)):=by
 obtain ⟨C,hQ⟩:=h.fin
 rw [sorted_eq (List.Perm.refl _) ?_] at ⊢
 ·exact rowI_D _
 ·unfold rowI toldL
  rw [List.pairwise_map,List.pairwise_map]
  exact C.p.j.2.2.2.imp fun {a b} h=>by dsimp only at h; omega
end
end
noncomputable def sty (u:Bool) (word:Str):Str:=if u=true then Txt.upper word else word
noncomputable def escN (s:Int) (c:Nat):Bool:=if s=0 then Txt.contains "\"\\" (ch c) else if s = 1 then true else Txt.contains " \"\\" (ch c)
noncomputable def wdOf (word:Str) (s:Int):Word:=⟨decide (s=0),word.cps.toList.map fun c=>(escN s c,c)⟩
noncomputable def okB (x:Word):Bool:=Nat.ble x.items.length 500 && (if x.quoted=true then x.items.all fun y=>y.2 != 10 && (y.1 || (y.2 != 34 && y.2 != 92)) else
 (x.items.all fun y=>y.2 != 10 && (y.1 || (!wsB y.2 && y.2 != 92))) && (match x.items with | y :: _=>y.1 || y.2 != 34 | []=>false))
theorem ok_of {x:Word} (h:okB x=true):x.ok:=by
 unfold okB at h
 rw [Bool.and_eq_true] at h
 refine ⟨Nat.le_of_ble_eq_true h.1,?_⟩
 have h2:=h.2
 cases q:x.quoted with
 | true=>
  rw [q,if_pos rfl] at h2
  rw [if_pos rfl]
  intro y hy
  have:=List.all_eq_true.mp h2 y hy
  simp only [Bool.and_eq_true,Bool.or_eq_true,bne_iff_ne] at this
  refine ⟨this.1,fun h1=>?_⟩
  rcases this.2 with h3 | h3
  ·rw [h1] at h3; cases h3
  ·exact h3
 | false=>
  rw [q,if_neg Bool.false_ne_true,Bool.and_eq_true] at h2
  rw [if_neg Bool.false_ne_true]
  refine ⟨fun y hy=>?_,?_⟩
  ·have:=List.all_eq_true.mp h2.1 y hy
   simp only [Bool.and_eq_true,Bool.or_eq_true,bne_iff_ne,Bool.not_eq_true'] at this
   refine ⟨this.1,fun h1=>?_⟩
   rcases this.2 with h3 | h3
   ·rw [h1] at h3; cases h3
   ·exact h3
  ·have h3:=h2.2
   cases e:x.items with
   | nil=>rw [e] at h3; cases h3
   | cons y r=>
    rw [e] at h3
    refine ⟨y,r,rfl,fun h1=>?_⟩
    simp only [Bool.or_eq_true,bne_iff_ne] at h3
    rcases h3 with h3 | h3
    ·rw [h1] at h3; cases h3
    ·exact h3
noncomputable def prnB (x:Str):Bool:=x.cps.toList.all fun c=>Nat.ble 32 c && Nat.blt c 127
theorem prn_of {x:Str} (h:prnB x=true):Prn x:=fun c hc=>by
 have:=List.all_eq_true.mp h c hc
 rw [Bool.and_eq_true] at this
 exact ⟨Nat.le_of_ble_eq_true this.1,Nat.le_of_ble_eq_true this.2⟩
noncomputable def chkW (word:Str) (u:Bool) (s:Int):Bool:=okB (wdOf (sty u word) s) && decide ((wdOf (sty u word) s).tok=sty u word) && decide ((writtenF (sty u word) s).cps.toList ++ [32]=(wdOf (sty u word) s).enc ++ (if s=0 then [32] else [])) &&
 (decide (sty u word ≠ Str.empty)) && Nat.ble (sty u word).length 10 && (sty u word).cps.toList.all (fun c=>Nat.blt c 1114112)
noncomputable def chkN (word:Str) (u:Bool) (s:Int):Bool:=chkW word u s && (tokTab.lookup (sty u word)).isNone && prnB (sty u word) && prnB (Txt.lower (sty u word)) && decide (Txt.lower (sty u word)=Txt.lower word)
noncomputable def chkS (word:Str) (u:Bool) (s:Int):Bool:=chkW word u s && decide (tokTab.lookup (sty u word)=some ((7+signsL.idxOf word:Nat):Int))
theorem all_names:(namesL.all fun x=>[true,false].all fun u=>([0,1,2]:List Int).all fun s=>chkN x u s)=true:=by kernel_rfl
theorem all_signs:(signsL.all fun x=>[true,false].all fun u=>([0,1,2]:List Int).all fun s=>chkS x u s)=true:=by kernel_rfl
theorem apart_ns:(namesL.all fun x=>signsL.all fun y=>!decide (x=y))=true:=by kernel_rfl
theorem lower_names:(namesL.all fun x=>namesL.all fun y=>!decide (Txt.lower x=Txt.lower y) || decide (x=y))=true:=by kernel_rfl
theorem u_mem (u:Bool):u ∈ [true,false]:=by cases u <;> simp
noncomputable def St3 (s:Int):Prop:=s=0 \/ s=1 \/ s=2
theorem st3_mem {s:Int} (h:St3 s):s ∈ ([0,1,2]:List Int):=by rcases h with rfl | rfl | rfl <;> simp
theorem st3_mod (s:Int):St3 (s % 3):=by unfold St3; omega
theorem chk_name {x:Str} (h:x ∈ namesL) (u:Bool) {s:Int} (hs:St3 s):chkN x u s=true:=List.all_eq_true.mp (List.all_eq_true.mp (List.all_eq_true.mp all_names x h) u (u_mem u)) s (st3_mem hs)
theorem chk_sign {x:Str} (h:x ∈ signsL) (u:Bool) {s:Int} (hs:St3 s):chkS x u s=true:=List.all_eq_true.mp (List.all_eq_true.mp (List.all_eq_true.mp all_signs x h) u (u_mem u)) s (st3_mem hs)
theorem not_sign {x:Str} (h:x ∈ namesL):x ∉ signsL:=fun h2=>by
 have:=List.all_eq_true.mp (List.all_eq_true.mp apart_ns x h) x h2
 simp at this
theorem lower_inj {x y:Str} (hx:x ∈ namesL) (hy:y ∈ namesL) (h:Txt.lower x=Txt.lower y):x=y:=by
 have:=List.all_eq_true.mp (List.all_eq_true.mp lower_names x hx) y hy
 rw [Bool.or_eq_true] at this
 rcases this with h1 | h1
 ·simp [h] at h1
 ·exact of_decide_eq_true h1
noncomputable def Voc (x:Str):Prop:=x ∈ namesL \/ x ∈ signsL
structure WFact (x:Str) (u:Bool) (s:Int):Prop where
 ok:(wdOf (sty u x) s).ok
 tok:(wdOf (sty u x) s).tok=sty u x
 enc:(writtenF (sty u x) s).cps.toList ++ [32]=(wdOf (sty u x) s).enc ++ (if s=0 then [32] else [])
 ne:sty u x ≠ Str.empty
 len:(sty u x).length<=10
 cp:∀ c ∈ (sty u x).cps.toList,c < 1114112
theorem wfact_of {x:Str} {u:Bool} {s:Int} (h:chkW x u s=true):WFact x u s:=by
 unfold chkW at h
 simp only [Bool.and_eq_true] at h
 obtain ⟨⟨⟨⟨⟨h1,h2⟩,h3⟩,h4⟩,h5⟩,h6⟩:=h
 exact ⟨ok_of h1,of_decide_eq_true h2,of_decide_eq_true h3,of_decide_eq_true h4,Nat.le_of_ble_eq_true h5,fun c hc=>Nat.le_of_ble_eq_true (List.all_eq_true.mp h6 c hc)⟩
theorem voc_fact {x:Str} (h:Voc x) (u:Bool) {s:Int} (hs:St3 s):WFact x u s:=by
 rcases h with h | h
 ·have:=chk_name h u hs
  unfold chkN at this
  simp only [Bool.and_eq_true] at this
  exact wfact_of this.1.1.1.1
 ·have:=chk_sign h u hs
  unfold chkS at this
  rw [Bool.and_eq_true] at this
  exact wfact_of this.1
theorem name_fact {x:Str} (h:x ∈ namesL) (u:Bool):tokTab.lookup (sty u x)=none /\ Prn (sty u x) /\ Prn (Txt.lower (sty u x)) /\ Txt.lower (sty u x)=Txt.lower x:=by
 have:=chk_name h u (s:=0) (.inl rfl)
 unfold chkN at this
 simp only [Bool.and_eq_true] at this
 obtain ⟨⟨⟨⟨-,h1⟩,h2⟩,h3⟩,h4⟩:=this
 exact ⟨by simpa using h1,prn_of h2,prn_of h3,of_decide_eq_true h4⟩
theorem sign_fact {x:Str} (h:x ∈ signsL) (u:Bool):tokTab.lookup (sty u x)=some ((7+signsL.idxOf x:Nat):Int):=by
 have:=chk_sign h u (s:=0) (.inl rfl)
 unfold chkS at this
 rw [Bool.and_eq_true] at this
 exact of_decide_eq_true this.2
theorem tok_ok {x:Str} (h:Voc x) (u:Bool):TokOk (sty u x):=by
 have f:=voc_fact h u (s:=0) (.inl rfl)
 refine ⟨f.ne,by have:=f.len; omega,?_⟩
 rcases h with h | h
 ·obtain ⟨h1,h2,h3,-⟩:=name_fact h u
  exact .inr ⟨h1,h2,h3⟩
 ·have h1:=sign_fact h u
  have h2:=List.idxOf_lt_length_iff.mpr h
  rw [signs_len] at h2
  exact .inl ⟨_,h1,by omega,by omega⟩
theorem voc_short {x:Str} (h:Voc x):Short x:=by
 have h1:=(voc_fact h false (s:=0) (.inl rfl)).len
 have h2:=(voc_fact h true (s:=0) (.inl rfl)).len
 exact ⟨h1,h2⟩
structure Itm where
 lead:List Nat
 u:Bool
 s:Int
 word:Str
noncomputable def psOf (l:List Itm):List (List Nat × Word):=l.map fun i=>(i.lead,wdOf (sty i.u i.word) i.s)
noncomputable abbrev Pz:=(List Nat × List Itm) × Int
noncomputable def pW (z:Pz) (word:Str):Pz:=((if z.2 % 3=0 then [32] else [],z.1.2 ++ [⟨z.1.1,decide (z.2 % 2=1),z.2 % 3,word⟩]),z.2+1)
noncomputable def pR (z:Pz) (row:List Str):Pz:=(((row.foldl pW z).1.1 ++ [10],(row.foldl pW z).1.2),(row.foldl pW z).2)
structure PI (s:Str × Int) (z:Pz) (N:Int):Prop where
 st:s.2=z.2
 tx:s.1.cps.toList=encP (psOf z.1.2) z.1.1
 ws:∀ a ∈ z.1.1,wsB a=true
 it:∀ i ∈ z.1.2,(∀ a ∈ i.lead,wsB a=true) /\ St3 i.s /\ Voc i.word
 nl:nlsP (psOf z.1.2) z.1.1=N
 cp:∀ c ∈ s.1.cps.toList,c < 1114112
theorem str_cps (a b:Str):(a ++ b).cps.toList=a.cps.toList ++ b.cps.toList:=by
 show (a.cps ++ b.cps).toList=_
 simp
theorem nl_cps:("\n" : Str).cps.toList = [10] := by decide +kernel
theorem sp_cps2 : (" " : Str).cps.toList = [32]:=by decide +kernel
theorem encP_app (l:List Itm) (i:Itm) (last:List Nat):encP (psOf (l ++ [i])) last=encP (psOf l) i.lead ++ ((wdOf (sty i.u i.word) i.s).enc ++ last):=by
 unfold encP psOf
 simp
theorem nlsP_app (l:List Itm) (i:Itm) (last:List Nat):nlsP (psOf (l ++ [i])) last=nlsP (psOf l) i.lead+nls last:=by
 unfold nlsP psOf
 simp
theorem nls_app (a b:List Nat):nls (a ++ b)=nls a+nls b:=by unfold nls; simp
theorem encP_last (l:List Itm) (a b:List Nat):encP (psOf l) (a ++ b)=encP (psOf l) a ++ b:=by unfold encP; simp
theorem nlsP_last (l:List Itm) (a b:List Nat):nlsP (psOf l) (a ++ b)=nlsP (psOf l) a+nls b:=by
 unfold nlsP
 rw [nls_app]; omega
theorem written_cp {x:Str} {u:Bool} {s:Int} (h:(writtenF (sty u x) s).cps.toList ++ [32]=(wdOf (sty u x) s).enc ++ (if s=0 then [32] else [])) (hc:∀ c ∈ (sty u x).cps.toList,c < 1114112):∀ c ∈ (writtenF (sty u x) s).cps.toList,c < 1114112:=by
 intro c hm
 have hm2:c ∈ (wdOf (sty u x) s).enc ++ (if s=0 then [32] else []):=by rw [<- h]; exact List.mem_append.mpr (.inl hm)
 have hi:∀ c ∈ encI (wdOf (sty u x) s).items,c < 1114112:=by
  intro c hc2
  unfold encI at hc2
  obtain ⟨y,hy,hc3⟩:=List.mem_flatMap.mp hc2
  unfold wdOf at hy
  obtain ⟨d,hd,rfl⟩:=List.mem_map.mp hy
  have:=hc d hd
  dsimp only at hc3
  split at hc3
  ·simp at hc3; omega
  ·simp at hc3; omega
 rcases List.mem_append.mp hm2 with h1 | h1
 ·unfold Word.enc at h1
  split at h1
  ·simp only [List.mem_cons,List.mem_append,List.not_mem_nil,or_false] at h1
   rcases h1 with h1 | h1 | h1
   ·omega
   ·exact hi c h1
   ·omega
  ·simp only [List.mem_append,List.mem_singleton] at h1
   rcases h1 with h1 | h1
   ·exact hi c h1
   ·omega
 ·split at h1
  ·simp at h1; omega
  ·cases h1
theorem PI.word {s:Str × Int} {z:Pz} {N:Int} (h:PI s z N) {word:Str} (hw:Voc word):PI (stepW s word) (pW z word) N:=by
 have hst:=h.st
 have s3:=st3_mod z.2
 have f:=voc_fact hw (decide (z.2 % 2=1)) s3
 have eu:(if s.2 % 2=1 then Txt.upper word else word)=sty (decide (z.2 % 2=1)) word:=by
  unfold sty
  rw [hst]
  by_cases q:z.2 % 2=1
  ·rw [if_pos q,decide_eq_true q,if_pos rfl]
  ·rw [if_neg q,decide_eq_false q,if_neg Bool.false_ne_true]
 have ew:((if z.2 % 3=0 then [32] else []):List Nat)=if z.2 % 3=0 then [32] else []:=rfl
 refine ⟨?_,?_,?_,?_,?_,?_⟩
 ·show s.2+1=z.2+1; rw [hst]
 ·unfold stepW pW
  dsimp only
  rw [eu,hst,str_cps,str_cps,h.tx,encP_app,sp_cps2]
  dsimp only
  rw [<- f.enc]
 ·intro a ha
  unfold pW at ha
  dsimp only at ha
  split at ha
  ·rw [List.mem_singleton.mp ha]; exact wsB_32
  ·cases ha
 ·intro i hi
  unfold pW at hi
  rcases List.mem_append.mp hi with hi | hi
  ·exact h.it i hi
  ·rw [List.mem_singleton.mp hi]
   exact ⟨h.ws,s3,hw⟩
 ·unfold pW
  dsimp only
  rw [nlsP_app,h.nl]
  split
  ·have:nls [32]=0:=by decide
   rw [this]; omega
  ·have:nls []=0:=by decide
   rw [this]; omega
 ·intro c hc
  unfold stepW at hc
  dsimp only at hc
  rw [eu,hst,str_cps,str_cps,sp_cps2] at hc
  rcases List.mem_append.mp hc with hc | hc
  ·exact h.cp c hc
  ·rcases List.mem_append.mp hc with hc | hc
   ·exact written_cp f.enc f.cp c hc
   ·rw [List.mem_singleton.mp hc]; omega
theorem PI.words:∀ {row:List Str} {s:Str × Int} {z:Pz} {N:Int},PI s z N->(∀ x ∈ row,Voc x)->PI (row.foldl stepW s) (row.foldl pW z) N
 | [],_,_,_,h,_=>h
 | x :: row,_,_,_,h,hw=>PI.words (row:=row) (h.word (hw x (List.mem_cons_self ..))) fun y hy=>hw y (List.mem_cons_of_mem _ hy)
theorem PI.row {s:Str × Int} {z:Pz} {N:Int} (h:PI s z N) {row:List Str} (hw:∀ x ∈ row,Voc x):PI (stepR s row) (pR z row) (N+1):=by
 have g:=h.words hw
 refine ⟨g.st,?_,?_,g.it,?_,?_⟩
 ·unfold stepR pR
  dsimp only
  rw [str_cps,g.tx,nl_cps,encP_last]
 ·intro a ha
  unfold pR at ha
  rcases List.mem_append.mp ha with ha | ha
  ·exact g.ws a ha
  ·rw [List.mem_singleton.mp ha]; exact wsB_10
 ·unfold pR
  dsimp only
  rw [nlsP_last,g.nl]
  have:nls [10]=1:=by decide
  rw [this]
 ·intro c hc
  unfold stepR at hc
  dsimp only at hc
  rw [str_cps,nl_cps] at hc
  rcases List.mem_append.mp hc with hc | hc
  ·exact g.cp c hc
  ·rw [List.mem_singleton.mp hc]; omega
theorem PI.rows:∀ {rows:List (List Str)} {s:Str × Int} {z:Pz} {N:Int},PI s z N->(∀ r ∈ rows,∀ x ∈ r,Voc x)->PI (rows.foldl stepR s) (rows.foldl pR z) (N+rows.length)
 | [],_,_,_,h,_=>by simpa using h
 | r :: rows,_,_,N,h,hw=>by
  have:=PI.rows (h.row (hw r (List.mem_cons_self ..))) fun y hy=>hw y (List.mem_cons_of_mem _ hy)
  rw [List.length_cons]
  rw [show N+((rows.length+1:Nat):Int)=N+1+(rows.length:Nat) by omega]
  exact this
theorem pW_words:∀ (row:List Str) (z:Pz),(row.foldl pW z).1.2.map (·.word)=z.1.2.map (·.word) ++ row
 | [],z=>by simp
 | x :: row,z=>by
  rw [List.foldl_cons,pW_words row]
  unfold pW
  simp
theorem pR_words:∀ (rows:List (List Str)) (z:Pz),(rows.foldl pR z).1.2.map (·.word)=z.1.2.map (·.word) ++ rows.flatten
 | [],z=>by simp
 | r :: rows,z=>by
  rw [List.foldl_cons,pR_words rows]
  unfold pR
  dsimp only
  rw [pW_words]
  simp
section
theorem idxF_map (ks:List Str) (tok:Str):idxF ks tok=(ks.map Txt.lower).findIdx? fun y=>decide (y=Txt.lower tok):=by
 unfold idxF
 rw [List.findIdx?_map]
 rfl
theorem any_mem (o:List Str) (x:Str):o.any (· == x)=decide (x ∈ o):=by
 cases q:decide (x ∈ o) with
 | true=>exact List.any_eq_true.mpr ⟨x,of_decide_eq_true q,beq_self_eq_true x⟩
 | false=>
  rw [List.any_eq_false]
  intro y hy e
  exact of_decide_eq_false q (eq_of_beq e ▸ hy)
theorem ordW_eq (o:List Str) (x:Str):ordW o x=if x ∈ namesL /\ x ∉ o then o ++ [x] else o:=by
 unfold ordW
 rw [any_mem,any_mem]
 by_cases h1:x ∈ namesL
 ·by_cases h2:x ∈ o
  ·simp [h1,h2]
  ·simp [h1,h2]
 ·simp [h1]
theorem idxF_name:∀ (o:List Str) (x:Str),(∀ y ∈ o,y ∈ namesL)->x ∈ namesL->idxF o x=if x ∈ o then some (o.idxOf x) else none
 | [],x,_,_=>rfl
 | a :: o,x,ho,hx=>by
  have ih:=idxF_name o x (fun y hy=>ho y (List.mem_cons_of_mem _ hy)) hx
  have ha:=ho a (List.mem_cons_self ..)
  unfold idxF at ih ⊢
  rw [List.findIdx?_cons]
  by_cases h:a=x
  ·subst h
   rw [decide_eq_true rfl,if_pos rfl,if_pos (List.mem_cons_self ..),List.idxOf_cons_self]
  ·have hl:¬ Txt.lower a=Txt.lower x:=fun e=>h (lower_inj ha hx e)
   rw [decide_eq_false hl,ih]
   have hb:(a == x)=false:=beq_false_of_ne h
   by_cases h2:x ∈ o
   ·rw [if_pos h2,if_pos (List.mem_cons_of_mem _ h2),List.idxOf_cons,hb]
    rfl
   ·rw [if_neg h2,if_neg Bool.false_ne_true,if_neg (by rw [List.mem_cons]; exact fun q=>q.elim (fun e=>h e.symm) h2)]
    rfl
structure OI (o:List Str):Prop where
 nd:o.Nodup
 sub:∀ x ∈ o,x ∈ namesL
theorem OI.step {o:List Str} (h:OI o) (x:Str):OI (ordW o x):=by
 rw [ordW_eq]
 by_cases q:x ∈ namesL /\ x ∉ o
 ·rw [if_pos q]
  refine ⟨?_,fun y hy=>?_⟩
  ·rw [List.nodup_append]
   exact ⟨h.nd,by simp,fun a ha b hb e=>q.2 (by rw [List.mem_singleton.mp hb] at e; exact e ▸ ha)⟩
  ·rcases List.mem_append.mp hy with hy | hy
   ·exact h.sub y hy
   ·rw [List.mem_singleton.mp hy]; exact q.1
 ·rw [if_neg q]; exact h
theorem OI.fold:∀ (ws:List Str) {o:List Str},OI o->OI (ws.foldl ordW o)
 | [],_,h=>h
 | x :: ws,_,h=>OI.fold ws (h.step x)
theorem ord_pre:∀ (ws:List Str) (o:List Str),∃ r,ws.foldl ordW o=o ++ r
 | [],o=>⟨[],by simp⟩
 | x :: ws,o=>by
  obtain ⟨r,hr⟩:=ord_pre ws (ordW o x)
  rw [List.foldl_cons,hr,ordW_eq]
  split
  ·exact ⟨[x] ++ r,by simp⟩
  ·exact ⟨r,rfl⟩
theorem ord_mem (ws:List Str) (o:List Str) {x:Str} (hx:x ∈ ws) (hn:x ∈ namesL):x ∈ ws.foldl ordW o:=by
 induction ws generalizing o with
 | nil=>cases hx
 | cons a ws ih=>
  rw [List.foldl_cons]
  rcases List.mem_cons.mp hx with rfl | hx
  ·obtain ⟨r,hr⟩:=ord_pre ws (ordW o x)
   rw [hr]
   refine List.mem_append.mpr (.inl ?_)
   rw [ordW_eq]
   by_cases q:x ∈ o
   ·rw [if_neg (fun z=>z.2 q)]; exact q
   ·rw [if_pos ⟨hn,q⟩]; simp
  ·exact ih _ hx
theorem kindN_name {o r:List Str} {x:Str} (h:x ∈ o):kindN (o ++ r) x=kindN o x:=by
 unfold kindN
 rw [any_mem,any_mem,decide_eq_true h,decide_eq_true (List.mem_append.mpr (.inl h)),if_pos rfl,if_pos rfl,List.idxOf_append,if_pos h]
theorem kindN_sign {o:List Str} (h:OI o) {x:Str} (hx:x ∈ signsL):kindN o x=7+signsL.idxOf x:=by
 unfold kindN
 rw [any_mem,decide_eq_false (fun q=>not_sign (h.sub x q) hx),if_neg Bool.false_ne_true]
theorem read_sim:∀ (l:List Itm) (z:List Str × List Nat) (o:List Str),OI o->z.1.map Txt.lower=o.map Txt.lower->(∀ i ∈ l,Voc i.word) ->
  ((l.map fun i=>sty i.u i.word).foldl readK z).1.map Txt.lower=((l.map (·.word)).foldl ordW o).map Txt.lower /\ ((l.map fun i=>sty i.u i.word).foldl readK z).2=z.2 ++ (l.map (·.word)).map (kindN ((l.map (·.word)).foldl ordW o))
 | [],z,o,_,h,_=>⟨h,by simp⟩
 | i :: l,z,o,ho,h,hw=>by
  have hi:=hw i (List.mem_cons_self ..)
  have hlen:z.1.length=o.length:=by have:=congrArg List.length h; simpa using this
  have key:(readK z (sty i.u i.word)).1.map Txt.lower=(ordW o i.word).map Txt.lower /\ (readK z (sty i.u i.word)).2=z.2 ++ [kindN (ordW o i.word) i.word] /\ (i.word ∈ ordW o i.word \/ i.word ∈ signsL):=by
   rcases hi with hn | hn
   ·obtain ⟨h1,-,-,h4⟩:=name_fact hn i.u
    have hx:idxF z.1 (sty i.u i.word)=if i.word ∈ o then some (o.idxOf i.word) else none:=by
     rw [idxF_map,h,h4,<- idxF_map]
     exact idxF_name o i.word ho.sub hn
    unfold readK
    rw [h1,hx,ordW_eq]
    by_cases q:i.word ∈ o
    ·rw [if_pos q,if_neg (fun z=>z.2 q)]
     refine ⟨h,?_,.inl q⟩
     dsimp only
     unfold kindN
     rw [any_mem,decide_eq_true q,if_pos rfl]
    ·rw [if_neg q,if_pos ⟨hn,q⟩]
     refine ⟨?_,?_,.inl (by simp)⟩
     ·dsimp only
      rw [List.map_append,List.map_append,h,List.map_singleton,List.map_singleton,h4]
     ·dsimp only
      unfold kindN
      rw [any_mem,decide_eq_true (by simp),if_pos rfl,List.idxOf_append,if_neg q,hlen]
      simp
   ·have h1:=sign_fact hn i.u
    have e:ordW o i.word=o:=by rw [ordW_eq,if_neg (fun z=>not_sign z.1 hn)]
    unfold readK
    rw [h1,e]
    refine ⟨h,?_,.inr hn⟩
    dsimp only
    rw [kindN_sign ho hn]
    rfl
  obtain ⟨k1,k2,k3⟩:=key
  obtain ⟨a1,a2⟩:=read_sim l (readK z (sty i.u i.word)) (ordW o i.word) (ho.step _) k1 fun y hy=>hw y (List.mem_cons_of_mem _ hy)
  refine ⟨a1,?_⟩
  rw [List.map_cons,List.foldl_cons,a2,k2,List.map_cons,List.foldl_cons,List.map_cons,List.append_assoc]
  obtain ⟨r,hr⟩:=ord_pre (l.map (·.word)) (ordW o i.word)
  have:kindN ((l.map (·.word)).foldl ordW (ordW o i.word)) i.word=kindN (ordW o i.word) i.word:=by
   rcases k3 with k3 | k3
   ·rw [hr,kindN_name k3]
   ·rw [kindN_sign ((ho.step _).fold _) k3,kindN_sign (ho.step _) k3]
  rw [this]
  rfl
theorem orderF_flat (rows:List (List Str)):orderF rows=rows.flatten.foldl ordW []:=by
 have:∀ (rows:List (List Str)) (o:List Str),rows.foldl ordR o=rows.flatten.foldl ordW o:=by
  intro rows
  induction rows with
  | nil=>intro o; rfl
  | cons r rows ih=>intro o; rw [List.foldl_cons,ih,List.flatten_cons,List.foldl_append]; rfl
 exact this rows []
theorem kindsB_flat (rows:List (List Str)) (o:List Str):kindsB rows o=rows.flatten.map (kindN o):=by
 unfold kindsB
 rw [List.flatMap_def,List.map_flatten]
theorem oi_order (rows:List (List Str)):OI (orderF rows):=by
 rw [orderF_flat]
 exact OI.fold _ ⟨List.nodup_nil,fun x h=>by cases h⟩
theorem oi_len {o:List Str} (h:OI o):o.length<=7:=by
 have hp:(namesL.filter fun x=>decide (x ∈ o)).Perm o:=by
  refine (List.perm_ext_iff_of_nodup (names_nd.filter _) h.nd).mpr fun a=>?_
  rw [List.mem_filter]
  exact ⟨fun q=>of_decide_eq_true q.2,fun q=>⟨h.sub a q,decide_eq_true q⟩⟩
 rw [<- hp.length_eq]
 have:=List.length_filter_le (fun x=>decide (x ∈ o)) namesL
 rw [nlen] at this
 exact this
theorem text_read (rows:List (List Str)) (style:Int) (hv:∀ r ∈ rows,∀ x ∈ r,Voc x):(Ex2 fun (ps:List (List Nat × Word)) (last:List Nat)=>A7 ((textF rows style).cps.toList=encP ps last) ((∀ a ∈ last,wsB a=true)) ((∀ q ∈ ps,(∀ a ∈ q.1,wsB a=true) /\ q.2.ok /\ TokOk q.2.tok)) (ps.length=rows.flatten.length) (nlsP ps last=(rows.length:Nat)) (((ps.map (·.2.tok)).foldl readK ([],[])).2=kindsB rows (orderF rows)) (∀ c ∈ encP ps last,c < 1114112)):=by
 have h0:PI (Str.empty,style) (([],[]),style) 0:=⟨rfl,rfl,fun a h=>(by cases h),fun i h=>(by cases h),rfl,fun c h=>(by cases h)⟩
 have h:=h0.rows hv
 have hw:=pR_words rows (([],[]),style)
 obtain ⟨z,hz⟩ : ∃ z,z=rows.foldl pR (([],[]),style):=⟨_,rfl⟩
 rw [<- hz] at h hw
 rw [List.map_nil,List.nil_append] at hw
 have et:(textF rows style)=(rows.foldl stepR (Str.empty,style)).1:=rfl
 refine ⟨psOf z.1.2,z.1.1,h.tx,h.ws,fun q hq=>?_,?_,?_,?_,fun c hc=>h.cp c (by rw [h.tx]; exact hc)⟩
 ·unfold psOf at hq
  obtain ⟨i,hi,rfl⟩:=List.mem_map.mp hq
  obtain ⟨i1,i2,i3⟩:=h.it i hi
  have f:=voc_fact i3 i.u i2
  exact ⟨i1,f.ok,by dsimp only; rw [f.tok]; exact tok_ok i3 i.u⟩
 ·unfold psOf
  rw [List.length_map,<- hw,List.length_map]
 ·rw [h.nl,Int.zero_add]
 ·have ht:(psOf z.1.2).map (·.2.tok)=z.1.2.map fun i=>sty i.u i.word:=by
   unfold psOf
   rw [List.map_map]
   apply List.map_congr_left
   intro i hi
   obtain ⟨i1,i2,i3⟩:=h.it i hi
   exact (voc_fact i3 i.u i2).tok
  rw [ht,(read_sim z.1.2 ([],[]) [] ⟨List.nodup_nil,fun x h=>by cases h⟩ rfl fun i hi=>(h.it i hi).2.2).2,hw,List.nil_append,kindsB_flat,orderF_flat]
structure TOk (ts:List T4) (es:List E2) (letters:List Str):Prop where
 t:∀ t ∈ ts,t.1 < 7 /\ t.2.1 < 2 /\ t.2.2.1 < 7 /\ t.2.2.2 < 7
 e:∀ e ∈ es,e.1 < 7 /\ e.2 < 7
 l:∀ i,i < 2->letters.getD i Str.empty ∈ signsL
 d:letters.getD 0 Str.empty ≠ letters.getD 1 Str.empty
theorem name_mem {p:Nat} (h:p < 7):namesL.getD p Str.empty ∈ namesL:=getD_mem' (by rw [nlen]; exact h)
theorem eqeq:("==" : Str) ∈ signsL /\ signsL.idxOf ("==" : Str)=20:=by decide +kernel
section
variable {ts:List T4} {es:List E2} {letters:List Str}
theorem TOk.voc (h:TOk ts es letters):∀ r ∈ rowsL ts es letters,∀ x ∈ r,Voc x:=by
 intro r hr x hx
 unfold rowsL at hr
 rcases List.mem_append.mp hr with hr | hr
 ·obtain ⟨t,ht,rfl⟩:=List.mem_map.mp hr
  obtain ⟨t1,t2,t3,t4⟩:=h.t t ht
  unfold termRow at hx
  simp only [List.mem_cons,List.not_mem_nil,or_false] at hx
  rcases hx with rfl | rfl | rfl | rfl
  ·exact .inl (name_mem t1)
  ·exact .inr (h.l _ t2)
  ·exact .inl (name_mem t3)
  ·exact .inl (name_mem t4)
 ·obtain ⟨e,he,rfl⟩:=List.mem_map.mp hr
  obtain ⟨e1,e2⟩:=h.e e he
  unfold eqRow at hx
  simp only [List.mem_cons,List.not_mem_nil,or_false] at hx
  rcases hx with rfl | rfl | rfl
  ·exact .inr eqeq.1
  ·exact .inl (name_mem e1)
  ·exact .inl (name_mem e2)
theorem row_used {rows:List (List Str)} {r:List Str} (hr:r ∈ rows) {p:Nat} (hp:p < 7) (hx:namesL.getD p Str.empty ∈ r):Used (orderF rows) p:=by
 refine ⟨hp,?_⟩
 rw [orderF_flat]
 exact ord_mem _ _ (List.mem_flatten.mpr ⟨r,hr,hx⟩) (name_mem hp)
theorem sign_inj {x y:Str} (hx:x ∈ signsL) (hy:y ∈ signsL) (h:signsL.idxOf x=signsL.idxOf y):x=y:=by
 have:=get_idx hx
 rw [h,get_idx hy] at this
 exact this.symm
theorem TOk.ord (h:TOk ts es letters):OrdOk (orderF (rowsL ts es letters)) letters ts es:=by
 have ho:=oi_order (rowsL ts es letters)
 refine ⟨ho.nd,ho.sub,oi_len ho,fun t ht=>?_,fun e he=>?_,fun q=>h.d (sign_inj (h.l 0 (by omega)) (h.l 1 (by omega)) (by unfold kindO at q; omega))⟩
 ·obtain ⟨t1,t2,t3,t4⟩:=h.t t ht
  have hr:termRow letters t ∈ rowsL ts es letters:=List.mem_append.mpr (.inl (List.mem_map.mpr ⟨t,ht,rfl⟩))
  exact ⟨row_used hr t1 (by unfold termRow; simp),t2,row_used hr t3 (by unfold termRow; simp),row_used hr t4 (by unfold termRow; simp)⟩
 ·obtain ⟨e1,e2⟩:=h.e e he
  have hr:eqRow e ∈ rowsL ts es letters:=List.mem_append.mpr (.inr (List.mem_map.mpr ⟨e,he,rfl⟩))
  exact ⟨row_used hr e1 (by unfold eqRow; simp),row_used hr e2 (by unfold eqRow; simp)⟩
theorem kindN_used {order:List Str} {p:Nat} (h:Used order p):kindN order (namesL.getD p Str.empty)=numO order p:=by
 unfold kindN numO
 rw [any_mem,decide_eq_true h.2,if_pos rfl]
theorem TOk.kinds (h:TOk ts es letters):kindsB (rowsL ts es letters) (orderF (rowsL ts es letters)) ++ [0]=encT (tsN (orderF (rowsL ts es letters)) letters ts) ++ (encE 27 (esN (orderF (rowsL ts es letters)) es) ++ [0]):=by
 have O:=h.ord
 have ho:=oi_order (rowsL ts es letters)
 generalize hoo9:orderF (rowsL ts es letters)=o at O ho ⊢
 have hoo:=hoo9.symm
 clear hoo9
 rw [<- List.append_assoc]
 congr 1
 unfold kindsB rowsL encT encE tsN esN
 rw [List.flatMap_append,List.flatMap_map,List.flatMap_map,List.flatMap_map,List.flatMap_map]
 congr 1
 ·rw [List.flatMap_def,List.flatMap_def]
  congr 1
  apply List.map_congr_left
  intro t ht
  obtain ⟨u1,u2,u3,u4⟩:=O.t t ht
  unfold termRow
  simp only [List.map_cons,List.map_nil]
  rw [kindN_used u1,kindN_used u3,kindN_used u4,kindN_sign ho (h.l _ u2)]
  rfl
 ·rw [List.flatMap_def,List.flatMap_def]
  congr 1
  apply List.map_congr_left
  intro e he
  obtain ⟨u1,u2⟩:=O.e e he
  unfold eqRow
  simp only [List.map_cons,List.map_nil]
  rw [kindN_used u1,kindN_used u2,kindN_sign ho eqeq.1,eqeq.2]
end
theorem signs_nd:signsL.Nodup:=by decide +kernel
theorem tok_law (ns:List Int) (v:List Nat):TOk (termsL v) (eqsL v) (lettersL ns):=by
 have hl:=signs_len
 have hlt:=sumN_lt ns
 have g0:(lettersL ns).getD 0 Str.empty=signsL.getD (sumN ns / 47) Str.empty:=rfl
 have g1:(lettersL ns).getD 1 Str.empty=signsL.getD (if sumN ns / 47<=sumN ns % 47 then sumN ns % 47+1 else sumN ns % 47) Str.empty:=rfl
 have i1:(if sumN ns / 47<=sumN ns % 47 then sumN ns % 47+1 else sumN ns % 47) < 48:=by split <;> omega
 refine ⟨fun t ht=>?_,fun e he=>?_,fun i hi=>?_,fun q=>?_⟩
 ·unfold termsL at ht
  obtain ⟨p,hp,rfl⟩:=List.mem_map.mp ht
  have hp':3<=p /\ p<=6:=by simp at hp; omega
  unfold termOf
  have a1:=Nat.mod_lt (v.getD (p - 3) 0 / 2) (show 0 < p by omega)
  have a2:=Nat.mod_lt (v.getD (p - 3) 0 / 2 / p) (show 0 < p by omega)
  dsimp only
  refine ⟨by omega,by omega,by omega,by omega⟩
 ·unfold eqsL at he
  obtain ⟨x,hx,rfl⟩:=List.mem_map.mp he
  dsimp only
  omega
 ·have hi':i=0 \/ i=1:=by omega
  rcases hi' with rfl | rfl
  ·rw [g0]; exact getD_mem' (by omega)
  ·rw [g1]; exact getD_mem' (by omega)
 ·rw [g0,g1] at q
  have:=congrArg signsL.idxOf q
  rw [idx_get signs_nd (by omega),idx_get signs_nd (by omega)] at this
  split at this <;> omega
end
section
theorem natsD_flat (l:List Nat):Flat (.lst (natsD l)):=flat_lst fun x hx=>by
 unfold natsD at hx
 obtain ⟨e,-,rfl⟩:=List.mem_map.mp hx
 exact ⟨rfl,Nat.zero_le _⟩
theorem initH_succ (n:Nat):initH (n+1)=initH n ++ [256+n]:=by
 unfold initH
 rw [List.range_succ,List.map_append]
 rfl
theorem init_dict:∀ n:Nat,(List.range n).foldl (fun l (p:Nat)=>storeD l ((256:Int)+p) (.int (256+p))) []=hdD (initH n)
 | 0=>rfl
 | n+1=>by
  rw [List.range_succ,List.foldl_append,init_dict n,initH_succ]
  have:=store_new (initH n) (256+n)
  rw [initH_len] at this
  exact this
theorem hdFrom_mem:∀ (H:List Nat) (i:Nat) {p:Int × D},p ∈ hdFrom i H->∃ j,j < H.length /\ p=(((256+(i+j):Nat):Int),.int (H.getD j 0))
 | v :: r,i,p,h=>by
  rcases List.mem_cons.mp (show p ∈ (((256+i:Nat):Int),D.int v) :: hdFrom (i+1) r from h) with rfl | h
  ·exact ⟨0,by simp,rfl⟩
  ·obtain ⟨j,hj,rfl⟩:=hdFrom_mem r (i+1) h
   refine ⟨j+1,by simpa using hj,?_⟩
   rw [show i+1+j=i+(j+1) by omega]
   simp
theorem hd_alike (H:List Nat):∀ p ∈ hdD H,∃ i,p.2=D.int i /\ (hdD H).lookup p.1=some (.int i):=by
 intro p hp
 obtain ⟨j,hj,rfl⟩:=hdFrom_mem H 0 hp
 exact ⟨_,rfl,hdFrom_look H 0 j hj⟩
section
variable {prog:Program} {w:World} {k:Nat} {m:Nat->MO} {nx:Nat}
noncomputable abbrev lwF (w:World):Fm:=ph w "law"
theorem heads_str (V:List (Str × AV)) (o:List Str) (ho:o.length<=7) (M:Nat->MO) (n0:Nat) (first:ETr prog w (KK w) bt k (lwF w) (dcGen (asVal (nthS (bd w "law") 10))).iter ⟨V,[],M,n0⟩ (.d (.rng 0 (o.length:Nat) 1)) ⟨V,[],M,n0⟩)
  (ht:TgtOk (compFm (lwF w) (dcScope (asVal (nthS (bd w "law") 10)))) (dcGen (asVal (nthS (bd w "law") 10))).target (fun i:Nat=>D.int i) (compVars (lwF w) V (dcScope (asVal (nthS (bd w "law") 10)))) (fun x:Nat=>("place",.d (.int x)) :: compVars (lwF w) V (dcScope (asVal (nthS (bd w "law") 10)))) (List.range o.length))
  (hst:∀ x,gStore (lwF w) (asName (nthS (bd w "law") 10)) (.loc n0) ⟨V,[],upd M n0 (.dictI x),n0+1⟩ []=some ((),⟨setv "heads" (.loc n0) V,[],upd M n0 (.dictI x),n0+1⟩,[],[])) :
  STr prog w (KK w) bt k (lwF w) (nthS (bd w "law") 10) ⟨V,[],M,n0⟩ .next ⟨setv "heads" (.loc n0) V,[],upd M n0 (.dictI (hdD (initH o.length))),n0+1⟩:=by
 have sm:=small100 o.length (by omega)
 obtain ⟨V2,loop⟩:=dloop1 (prog:=prog) (w:=w) (K:=KK w) (btab:=bt) (k:=k) (φ:=lwF w) (c:=asVal (nthS (bd w "law") 10)) (st:=⟨V,[],M,n0⟩) (a:=.d (.rng 0 (o.length:Nat) 1)) (xs:=List.range o.length) (gD:=fun i:Nat=>D.int i) (kf:=fun p:Nat=>(256:Int)+p) (vf:=fun p:Nat=>.int (256+p)) (V:=fun x:Nat=>("place",.d (.int x)) :: compVars (lwF w) V (dcScope (asVal (nthS (bd w "law") 10)))) (dsrc_rng sm) (by kernel_rfl) ht
  (fun p hp l=>ETr.runE 20 [] (by kernel_rfl)) (fun p hp l=>ETr.runE 20 [] (by kernel_rfl)) (by rw [List.length_range]; omega)
 rw [init_dict] at loop
 exact STr.dcomp (st0:=⟨V,[],M,n0⟩) (by kernel_rfl) (by kernel_rfl) first (dsrc_rng sm) loop (hst _)
theorem told_str (V:List (Str × AV)) (row H:List Nat) (hr:∀ y ∈ row,NmOk H y) (hz:row.length<=100) (M:Nat->MO) (n0 hd:Nat) (hlt:hd < n0) (hm:M hd=.dictI (hdD H))
  (first:ETr prog w (KK w) bt k (lwF w) (lcFirst (asVal (nthS (bd w "law") 13))).iter ⟨V,[],M,n0⟩ (.d (.lst (natsD row))) ⟨V,[],M,n0⟩)
  (ht:TgtOk (compFm (lwF w) (lcScope (asVal (nthS (bd w "law") 13)))) (lcFirst (asVal (nthS (bd w "law") 13))).target (fun i:Nat=>D.int i) (compVars (lwF w) V (lcScope (asVal (nthS (bd w "law") 13)))) (fun x:Nat=>("name",.d (.int x)) :: compVars (lwF w) V (lcScope (asVal (nthS (bd w "law") 13)))) row)
  (hh:(compVars (lwF w) V (lcScope (asVal (nthS (bd w "law") 13))))=([("heads",.loc hd)]:List (Str × AV))) :
  STr prog w (KK w) bt k (lwF w) (nthS (bd w "law") 13) ⟨V,[],M,n0⟩ .next ⟨setv "told" (.d (.lst (natsD (row.map (hAt H))))) V,[],M,n0⟩:=by
 have e:natsD (row.map (hAt H))=row.map fun y=>D.int (hAt H y:Nat):=by unfold natsD; rw [List.map_map]; rfl
 rw [e]
 refine STr.ofLoopP (by kernel_rfl) (by kernel_rfl) (by kernel_rfl) first rfl (loop1n (st:=⟨V,[],M,n0⟩) (a:=.d (.lst (natsD row))) (xs:=row) (gD:=fun y:Nat=>.int y) (by kernel_rfl) (by kernel_rfl) rfl ht (fun y hy l=>?_) (by omega))
 have hy':=hr y hy
 have hm':(upd M n0 (.list l)) hd=.dictI (hdD H):=(upd_ne _ _ _ (Nat.ne_of_lt hlt)).trans hm
 rw [hh]
 exact ETr.runE 20 [(cx prog w k (upd M n0 (.list l)) (n0+1)).itemDI hd (hdD H) y (.int (hAt H y)) (Nat.lt_succ_of_lt hlt) hm' (hd_look hy'.1 hy'.2)] (by kernel_rfl)
theorem eq_iff {x y:D} (h:x=y):true=true ↔ x=y:=⟨fun _=>h,fun _=>rfl⟩
theorem numsN_len (ns:List Int):(numsN ns).length=7:=by unfold numsN; simp
theorem termsL_len (v:List Nat):(termsL v).length=4:=rfl
theorem eqsL_len (v:List Nat) (h:v.length=7):(eqsL v).length=3:=by unfold eqsL; simp [h]
theorem off_nodup (nx:Nat):∀ (l:List Nat),l.Nodup->(l.map (nx + ·)).Nodup:=fun l h=>List.pairwise_map.mpr (h.imp fun n e=>n (Nat.add_left_cancel e))
theorem off_mem {nx i:Nat} {l:List Nat} (h:i ∈ l.map (nx + ·)):nx<=i /\ ((∀ j ∈ l,j < 10)->i < nx+10):=by
 obtain ⟨j,hj,rfl⟩:=List.mem_map.mp h
 exact ⟨Nat.le_add_right _ _,fun k=>Nat.add_lt_add_left (k j hj) nx⟩
theorem law_run {S0 N T E LE R K TT EE MK:List D} {o:List Str} {row H:List Nat} {tx:Str} {sm:Int} {m1 m2 m3 m5 m6 m7:Nat->MO} {ss ps:Nat} (ho:o.length<=7)
 (e0:CallTr prog w (KK w) bt (k+7) (fn w "_law_numbers") [.d (.lst S0)] [] m nx (.d (.lst N)) m nx)
 (e1:CallTr prog w (KK w) bt (k+7) (fn w "_law_terms") [.d (.lst N)] [] m nx (.d (.lst T)) m nx)
 (e2:CallTr prog w (KK w) bt (k+7) (fn w "_law_equations") [.d (.lst N)] [] m nx (.d (.lst E)) m nx)
 (e3:CallTr prog w (KK w) bt (k+7) (fn w "_law_letters") [.d (.lst S0)] [] m nx (.d (.lst LE)) m nx)
 (e4:CallTr prog w (KK w) bt (k+7) (fn w "_law_rows") [.d (.lst T),.d (.lst E),.d (.lst LE)] [] m nx (.d (.lst R)) m nx)
 (e5:CallTr prog w (KK w) bt (k+7) (fn w "_law_order") [.d (.lst R)] [] m nx (.d (.lst (strDs o))) m nx)
 (es:CallTr prog w (KK w) bt (k+7) (.k (.builtin "sum")) [.d (.lst S0)] [] m nx (.d (.int sm)) m nx)
 (e6:CallTr prog w (KK w) bt (k+7) (fn w "_law_text") [.d (.lst R),.d (.int sm)] [] m nx (.d (.str tx)) m nx)
 (e7:CallTr prog w (KK w) bt (k+7) (fn w "_law_lexer") [.d (.str tx)] [] m nx (.loc (nx+5)) m1 (nx+7))
 (e8:CallTr prog w (KK w) bt (k+7) (fn w "Headers") [] [] m1 (nx+7) (.loc (nx+8)) m2 (nx+10))
 (e9:CallTr prog w (KK w) bt (k+7) (fn w "_law_read") [.loc (nx+5),.loc (nx+8)] [] m2 (nx+10) (.d (.lst K)) m3 (nx+10))
 (e10:CallTr prog w (KK w) bt (k+7) (fn w "_law_kinds") [.d (.lst R),.d (.lst (strDs o))] [] m3 (nx+10) (.d (.lst K)) m3 (nx+10))
 (e11:CallTr prog w (KK w) bt (k+7) (fn w "_law_parted") [.d (.lst K)] [] m3 (nx+10) (.d (.tup [.lst TT,.lst EE])) m3 (nx+10))
 (x1:m3 (nx+5)=.inst (netC w) (nx+4)) (x2:m3 (nx+4)=.ns (lexNs 8 (.loc ss) ps))
 (e12:CallTr prog w (KK w) bt (k+7) (fn w "_law_closed") [.loc (nx+5),.d (.lst TT),.d (.lst EE),.loc (nx+10)] [] (upd m3 (nx+10) (.dictI (hdD (initH o.length)))) (nx+11) (.d (.lst (natsD row))) m5 (nx+11))
 (e13:CallTr prog w (KK w) bt (k+7) (fn w "_law_marks") [.d (.lst T),.d (.lst E)] [] m5 (nx+11) (.d (.lst MK)) m5 (nx+11))
 (e14:CallTr prog w (KK w) bt (k+7) (fn w "_law_heads") [.d (.lst (strDs o)),.d (.lst MK)] [] m5 (nx+11) (.loc (nx+11)) m6 (nx+12))
 (ene:CmpTr prog w (KK w) bt (k+7) CmpOp.NotEq (.loc (nx+10)) (.loc (nx+11)) m6 (nx+12) false m6 (nx+12)) (hrn:∀ y ∈ row,NmOk H y) (hz:row.length<=100) (m6a:m6 (nx+10)=.dictI (hdD H))
 (e15:CallTr prog w (KK w) bt (k+7) (.k (.builtin "sorted")) [.d (.lst (natsD row))] [] m6 (nx+12) (.d (.lst (natsD (initH o.length)))) m6 (nx+12))
 (e16:CallTr prog w (KK w) bt (k+7) (.k (.builtin "sorted")) [.loc (nx+10)] [] m6 (nx+12) (.loc (nx+12)) m7 (nx+13))
 (m7a:m7 (nx+12)=.list (natsD (initH o.length)))
 (e17:CallTr prog w (KK w) bt (k+7) (.k (.builtin "sorted")) [.d (.lst (natsD (row.map (hAt H))))] [] m7 (nx+13) (.d (.lst (natsD (row.map (hAt H))))) m7 (nx+13))
 (fK:Flat (.lst K)):CodeTr prog w (KK w) bt (k+8) (fn w "law") [.d (.lst S0)] [] m nx (.d (.bool true)) m7 (nx+13):=by
 obtain ⟨V,hV⟩ : ∃ V:List (Str × AV),V=([("script",.d (.lst S0)),("numbers",.d (.lst N)),("drawn",.d (.lst T)),("equations",.d (.lst E)),("rows",.d (.lst R)),("order",.d (.lst (strDs o))),("lexer",.loc (nx+5)),("known",.loc (nx+8)),("kinds",.d (.lst K)),("terms",.d (.lst TT)),("pairs",.d (.lst EE))]:List (Str × AV)):=⟨_,rfl⟩
 have sH:=heads_str (prog:=prog) (w:=w) (k:=k+7) V o ho m3 (nx+10) (ETr.runE 20 [.call (len_strs (prog:=prog) (w:=w) (k:=k+7) (m:=m3) (nx:=nx+10) o (by omega)),(cx prog w (k+7) m3 (nx+10)).range1 (o.length:Nat)] (by subst hV; kernel_rfl))
  (tgt_nameN "place" (by kernel_rfl) (by kernel_rfl) (by subst hV; kernel_rfl)) (fun y=>by subst hV; kernel_rfl)
 have sT:=told_str (prog:=prog) (w:=w) (k:=k+7) (setv "line" (.d (.lst (natsD row))) (setv "heads" (.loc (nx+10)) V)) row H hrn hz m6 (nx+12) (nx+10) (Nat.lt_add_of_pos_right (k:=2) (by decide)) m6a (ETr.runE 20 [] (by subst hV; kernel_rfl)) (tgt_nameN "name" (by kernel_rfl) (by kernel_rfl) (by subst hV; kernel_rfl)) (by subst hV; kernel_rfl)
 have fI:=natsD_flat (initH o.length)
 have fT:=natsD_flat (row.map (hAt H))
 generalize natsD (initH o.length)=IN at *
 generalize natsD (row.map (hAt H))=TL at *
 generalize natsD row=RW at *
 subst hV
 exact codeA (fa w "law") ["script"] [.d (.lst S0)] (.ret (.d (.bool true))) m7 (nx+13) [] [.call e0,.call e1,.call e2,.call e3,.call e4,.call e5,.call es,.call e6,.call e7,.call e8,.call e9,.call e10,
  (cx prog w (k+7) m3 (nx+10)).neF (.d (.lst K)) (.d (.lst K)) (.lst K) (.lst K) true (eq_iff rfl) (.inl rfl) (.inl rfl) fK fK,.br (!true) false rfl,
  (cx prog w (k+7) m3 (nx+10)).getA (nx+5) (nx+4) (netC w) (lexNs 8 (.loc ss) ps) "lineno" (.d (.int 8)) (Nat.add_lt_add_left (by decide) nx) x1 x2 rfl rfl (by kernel_rfl),.br (!decide ((8:Int)=8)) false rfl,
  .call e11,.stm sH,.call e12,.call e13,.call e14,.cmp ene,.br false false rfl,.stm sT,.call e15,.call e16,
  (cx prog w (k+7) m7 (nx+13)).eqF (.d (.lst IN)) (.loc (nx+12)) (.lst IN) (.lst IN) true (eq_iff rfl) (.inl rfl) (.inr ⟨IN,rfl,trivial,Nat.lt_succ_self (nx+12),m7a⟩) fI fI,.br true true rfl,
  .call e17,(cx prog w (k+7) m7 (nx+13)).eqF (.d (.lst TL)) (.d (.lst TL)) (.lst TL) (.lst TL) true (eq_iff rfl) (.inl rfl) (.inl rfl) fT fT] (by kernel_rfl) (bindq1 fun S a=>by kernel_rfl) rfl (by kernel_rfl)
theorem flat_le10:∀ l:List (List Str),(∀ r ∈ l,r.length<=10)->l.flatten.length<=10 * l.length
 | [],_=>Nat.le_refl _
 | r :: l,h=>by
  have:=flat_le10 l fun y hy=>h y (List.mem_cons_of_mem _ hy)
  have:=h r (List.mem_cons_self ..)
  rw [List.flatten_cons,List.length_append,List.length_cons]
  omega
theorem mkLex_ne {m:Nat->MO} {nx i:Nat} {x:AV} (h0:i ≠ nx) (h1:i ≠ nx+1) (h2:i ≠ nx+2):mkLex w m nx x i=m i:=(upd_ne _ _ _ h2).trans ((upd_ne _ _ _ h1).trans (upd_ne _ _ _ h0))
section
variable {cs:List Nat}
theorem lexM_0:lexM w m nx cs nx=.list (leftD cs):=by
 unfold lexM
 rw [mkLex_ne (by omega) (by omega) (by omega),upd_ne _ _ _ (by omega),mkLex_ne (by omega) (by omega) (by omega),upd_at]
theorem lexM_1:lexM w m nx cs (nx+1)=.ns (srcNs w (nx+3) nx):=by
 unfold lexM
 rw [mkLex_ne (by omega) (by omega) (by omega),upd_at]
theorem lexM_2:lexM w m nx cs (nx+2)=.inst (netC w) (nx+1):=by
 unfold lexM
 rw [mkLex_ne (by omega) (by omega) (by omega),upd_ne _ _ _ (by omega)]
 unfold mkLex
 rw [upd_ne _ _ _ (by omega),upd_at]
theorem lexM_4:lexM w m nx cs (nx+4)=.ns (lexNs 1 (.loc (nx+2)) (nx+6)):=by
 unfold lexM
 conv=>lhs; unfold mkLex
 rw [upd_ne _ _ _ (by omega),upd_ne _ _ _ (by omega),upd_at]
theorem lexM_5:lexM w m nx cs (nx+5)=.inst (netC w) (nx+4):=by
 unfold lexM
 conv=>lhs; unfold mkLex
 rw [upd_ne _ _ _ (by omega),upd_at]
theorem lexM_6:lexM w m nx cs (nx+6)=.list []:=by
 unfold lexM
 conv=>lhs; unfold mkLex
 rw [upd_at]
theorem lexM_lt {i:Nat} (h:i < nx):lexM w m nx cs i=m i:=by
 unfold lexM
 rw [mkLex_ne (by omega) (by omega) (by omega),upd_ne _ _ _ (by omega),mkLex_ne (by omega) (by omega) (by omega),upd_ne _ _ _ (by omega)]
noncomputable def lwX (nx:Nat):Ix:=⟨nx+5,nx+4,nx+6,nx+2,nx+1,nx,nx+3,nx+8,nx+7,nx+9⟩
theorem lwX_all (nx:Nat):(lwX nx).all = [5,4,6,2,1,0,8,7,9].map (nx + ·):=rfl
theorem law_good:A3 (Good w (lwX nx) (mkHd w (lexM w m nx cs) (nx+7)) (nx+10)) (mkHd w (lexM w m nx cs) (nx+7)=vw (lwX nx) (mkHd w (lexM w m nx cs) (nx+7)) 1 cs [] []) (∀ i,i < nx->mkHd w (lexM w m nx cs) (nx+7) i=m i):=by
 have l0:=lexM_0 (w:=w) (m:=m) (nx:=nx) (cs:=cs)
 have l1:=lexM_1 (w:=w) (m:=m) (nx:=nx) (cs:=cs)
 have l2:=lexM_2 (w:=w) (m:=m) (nx:=nx) (cs:=cs)
 have l4:=lexM_4 (w:=w) (m:=m) (nx:=nx) (cs:=cs)
 have l5:=lexM_5 (w:=w) (m:=m) (nx:=nx) (cs:=cs)
 have l6:=lexM_6 (w:=w) (m:=m) (nx:=nx) (cs:=cs)
 have lt:=fun i h=>lexM_lt (w:=w) (m:=m) (nx:=nx) (cs:=cs) (i:=i) h
 have hdat:=mkHd_at (w:=w) (m:=lexM w m nx cs) (nx:=nx+7)
 have o2:∀ j,j < 7->mkHd w (lexM w m nx cs) (nx+7) (nx+j)=lexM w m nx cs (nx+j):=fun j hj=>mkHd_ne (Nat.add_lt_add_left hj nx)
 have o3:∀ i,i < nx->mkHd w (lexM w m nx cs) (nx+7) i=lexM w m nx cs i:=fun i hi=>mkHd_ne (Nat.lt_of_lt_of_le hi (Nat.le_add_right nx 7))
 generalize mkHd w (lexM w m nx cs) (nx+7)=m2 at *
 generalize lexM w m nx cs=m1 at *
 have G:Good w (lwX nx) m2 (nx+10):=⟨by rw [lwX_all]; exact off_nodup nx _ (by decide),fun i hi=>(off_mem (lwX_all nx ▸ hi)).2 (by decide),(o2 5 (by decide)).trans l5,(o2 2 (by decide)).trans l2,(o2 1 (by decide)).trans l1,hdat.i1,hdat.i2⟩
 exact ⟨G,vw_ext G.sep hdat.i3 ((o2 6 (by decide)).trans l6) ((o2 4 (by decide)).trans l4) ((o2 0 (by decide)).trans l0) fun i _ _ _ _=>rfl,fun i hi=>(o3 i hi).trans (lt i hi)⟩
end
theorem law_tr (ns:List Int) (hz:ns.length<=63) (j1 j2:Nat) (cA1 cA2:Addr) (h1:j1 < nx) (h2:j2 < nx) (t1:m j1=.tab cA1) (t2:m j2=.tab cA2) (hc1:(ph w "_law_lexer").code=some cA1) (hc2:(clF w).code=some cA2) :
  CallTr prog w (KK w) bt (k+8) (fn w "law") [.d (.lst (ns.map D.int))] [] m nx (.d (.bool true)) m nx:=by
 have hv7:=numsN_len ns
 have e0:=numbers_tr (prog:=prog) (w:=w) (k:=k+6) (m:=m) (nx:=nx) ns (by omega)
 obtain ⟨v,hv⟩ : ∃ v,v=numsN ns:=⟨_,rfl⟩
 rw [<- hv] at e0 hv7
 have TK:=tok_law ns v
 have lt4:=termsL_len v
 have le3:=eqsL_len v hv7
 have e1:=terms_tr (prog:=prog) (w:=w) (k:=k+6) (m:=m) (nx:=nx) v hv7
 have e2:=equations_tr (prog:=prog) (w:=w) (k:=k+6) (m:=m) (nx:=nx) v hv7
 have e3:=letters_tr (prog:=prog) (w:=w) (k:=k+5) (m:=m) (nx:=nx) ns
 obtain ⟨ts,hts⟩ : ∃ y,y=termsL v:=⟨_,rfl⟩
 obtain ⟨es,hes⟩ : ∃ y,y=eqsL v:=⟨_,rfl⟩
 obtain ⟨le,hle⟩ : ∃ y,y=lettersL ns:=⟨_,rfl⟩
 have hll:le.length=2:=by rw [hle]; rfl
 rw [<- hts] at e1 lt4 TK
 rw [<- hes] at e2 le3 TK
 rw [<- hle] at e3 TK
 have e4:=rows_tr (prog:=prog) (w:=w) (k:=k+5) (m:=m) (nx:=nx) ts es le (fun t ht=>by have:=TK.t t ht; rw [hll]; exact ⟨this.1,this.2.1,this.2.2.1,this.2.2.2⟩) TK.e (by omega) (by omega) (by omega)
 have O:=TK.ord
 have hvoc:=TK.voc
 have hkk:=TK.kinds
 have hrl:(rowsL ts es le).length=7:=by unfold rowsL; rw [List.length_append,List.length_map,List.length_map]; omega
 have hr4:∀ r ∈ rowsL ts es le,r.length<=10:=by
  intro r hr
  unfold rowsL at hr
  rcases List.mem_append.mp hr with hr | hr
  ·obtain ⟨t,ht,rfl⟩:=List.mem_map.mp hr; exact show 4<=10 by decide
  ·obtain ⟨t,ht,rfl⟩:=List.mem_map.mp hr; exact show 3<=10 by decide
 obtain ⟨rows,hrows⟩ : ∃ y,y=rowsL ts es le:=⟨_,rfl⟩
 rw [<- hrows] at e4 O hvoc hkk hrl hr4
 have hfl:=flat_le10 rows hr4
 have e5:=order_tr (prog:=prog) (w:=w) (k:=k+5) (m:=m) (nx:=nx) rows hr4 (by omega)
 have hshort:∀ r ∈ rows,r.length<=10 /\ ∀ x ∈ r,Short x:=fun r hr=>⟨hr4 r hr,fun x hx=>voc_short (hvoc r hr x hx)⟩
 have e6:=text_tr (prog:=prog) (w:=w) (k:=k+5) (m:=m) (nx:=nx) rows ns.sum hshort (by omega)
 have htl:(textF rows ns.sum).length<=231 * 7:=by
  have:=fold_bound (μ:=fun s:Str × Int=>s.1.length) (c:=231) (step:=stepR) rows (Str.empty,ns.sum) fun y hy s=>stepR_len y (hshort y hy).2 (hshort y hy).1 s
  rw [hrl] at this
  have e:((Str.empty,ns.sum):Str × Int).1.length=0:=rfl
  rw [e] at this
  unfold textF
  omega
 obtain ⟨ps,last,p1,p2,p3,p4,p5,p6,p7⟩:=text_read rows ns.sum hvoc
 obtain ⟨tx,htx⟩ : ∃ y,y=textF rows ns.sum:=⟨_,rfl⟩
 rw [<- htx] at e6 htl p1
 have htl2:tx.cps.size<=10000:=by have:tx.cps.size=tx.length:=rfl; omega
 have e7:=lexer_tr (prog:=prog) (w:=w) (k:=k+4) (m:=m) (nx:=nx) tx htl2 j1 cA1 h1 t1 hc1
 rw [p1] at e7
 have hok:OkCs (encP ps last):=⟨by rw [<- p1,Array.length_toList]; exact htl2,p7⟩
 obtain ⟨G,v0,gm⟩:=law_good (w:=w) (m:=m) (nx:=nx) (cs:=encP ps last)
 have e8:=hd_make (prog:=prog) (w:=w) (k:=k+5) (m:=lexM w m nx (encP ps last)) (nx:=nx+7)
 generalize mkHd w (lexM w m nx (encP ps last)) (nx+7)=m2 at e8 G v0 gm
 generalize lexM w m nx (encP ps last)=m1 at e7 e8
 have e9:=read_tr (prog:=prog) (w:=w) (k:=k+2) (L:=1) G ps last p2 p3 hok (by omega)
 rw [<- v0,p6,hkk] at e9
 have hL:(1:Int)+nlsP ps last=8:=by rw [p5,hrl]; rfl
 rw [hL] at e9
 obtain ⟨kvs,hkv⟩ : ∃ y,y=kvsOf ((ps.map (·.2.tok)).foldl readK ([],[])).1:=⟨_,rfl⟩
 rw [<- hkv] at e9
 have X3:=G.lex (L:=8) (cs:=[]) (push:=[]) (kvs:=kvs)
 have v3:∀ i,i < nx->vw (lwX nx) m2 8 [] [] kvs i=m i:=fun i hi=>by
  rw [G.vat (by rw [lwX_all]; exact fun z=>absurd (off_mem z).1 (Nat.not_le_of_lt hi)),gm i hi]
 obtain ⟨m3,d3⟩ : ∃ y,y=vw (lwX nx) m2 8 [] [] kvs:=⟨_,rfl⟩
 rw [<- d3] at e9 X3 v3
 have hord:=O.len
 have e10:=kinds_tr (prog:=prog) (w:=w) (k:=k+5) (m:=m3) (nx:=nx+10) rows (orderF rows) (fun r hr y hy=>by
  rcases hvoc r hr y hy with q | q
  ·left; rw [orderF_flat]; exact ord_mem _ _ (List.mem_flatten.mpr ⟨r,hr,hy⟩) q
  ·exact .inr q) (by rw [kindsB_flat,List.length_map]; omega) (by omega)
 rw [hkk] at e10
 obtain ⟨o,ho⟩ : ∃ y,y=orderF rows:=⟨_,rfl⟩
 rw [<- ho] at O hord e5 e9 e10
 have lts:(tsN o le ts).length=4:=by unfold tsN; rw [List.length_map]; exact lt4
 have les:(esN o es).length=3:=by unfold esN; rw [List.length_map]; exact le3
 have okt:=O.terms
 have oke:=O.eqs
 have hnum:(encT (tsN o le ts) ++ (encE 27 (esN o es) ++ [0])).length<=10000:=by
  rw [ho,<- hkk,List.length_append,kindsB_flat,List.length_map,List.length_cons,List.length_nil]; omega
 have e11:=parted_tr (prog:=prog) (w:=w) (k:=k+5) (m:=m3) (nx:=nx+10) 27 (by decide) (by decide) (tsN o le ts) (esN o es) (fun t ht=>(okt t ht).1.1) (by omega) (by omega) hnum
 have m4h:(upd m3 (nx+10) (.dictI (hdD (initH o.length)))) (nx+10)=.dictI (hdD (initH o.length)):=upd_at _ _ _
 have X4:=X3.lay (.dictI (hdD (initH o.length)))
 have n3:j2 ≠ nx+10:=by omega
 have t4:(upd m3 (nx+10) (.dictI (hdD (initH o.length)))) j2=.tab cA2:=by rw [upd_ne _ _ _ n3,v3 j2 h2,t2]
 have hns:(lwX nx).n ≠ (lwX nx).s:=fun e=>absurd (Nat.add_left_cancel (n:=nx) e) (by decide)
 have hfin:=O.fin
 have e12:=closed_tr (prog:=prog) (w:=w) (k:=k) X4 hns o.length hord (Nat.lt_succ_self _) m4h (by omega) t4 hc2 (tsN o le ts) (esN o es) okt oke (stN (tsN o le ts) (esN o es)) (s0F o.length (tsN o le ts) (esN o es)) rfl hfin.2 (by unfold stN; rw [lts,les]; decide) (by unfold stN; rw [lts,les]; decide) (by omega)
 have efS:runC (tsN o le ts) (stN (tsN o le ts) (esN o es)) (s0F o.length (tsN o le ts) (esN o es))=finS o le ts es:=rfl
 rw [efS] at e12
 obtain ⟨C,hQ⟩:=hfin
 have hlen:=O.hlen
 have hheads:=O.heads
 have hrow:=O.row
 have htold:=O.told
 have hrn:∀ y ∈ (finS o le ts es).row,NmOk (finS o le ts es).H y:=C.p.j.2.2.1
 have hrl2:(finS o le ts es).row.length<=7:=by
  have:=congrArg List.length hrow
  rw [List.length_map,List.length_mergeSort,rowI_len,natsD_len,initH_len] at this
  omega
 obtain ⟨fs,hfs⟩ : ∃ y,y=finS o le ts es:=⟨_,rfl⟩
 rw [<- hfs] at e12 hlen hheads hrow htold hrn hrl2
 obtain ⟨m5,d5⟩ : ∃ y,y=upd (upd m3 (nx+10) (.dictI (hdD (initH o.length)))) (nx+10) (.dictI (hdD fs.H)):=⟨_,rfl⟩
 have m5h:m5 (nx+10)=.dictI (hdD fs.H):=by rw [d5,upd_at]
 rw [<- d5] at e12
 have e13:=marks_tr (prog:=prog) (w:=w) (k:=k+6) (m:=m5) (nx:=nx+11) ts es (O.t7) TK.e (by omega) (by omega) 7 (finM_due O.t7 O.e7)
 have e14:=heads_tr (prog:=prog) (w:=w) (k:=k+5) (m:=m5) (nx:=nx+11) o (finM es ts) (finM_len es ts) O.sub (by omega)
 rw [<- hheads] at e14
 have efM:runM es ts 7 (List.range 7)=finM es ts:=rfl
 rw [efM] at e13
 obtain ⟨m6,d6⟩ : ∃ y,y=upd m5 (nx+11) (.dictI (hdD fs.H)):=⟨_,rfl⟩
 have m6a:m6 (nx+10)=.dictI (hdD fs.H):=by rw [d6,upd_ne _ _ _ (by omega),m5h]
 have m6b:m6 (nx+11)=.dictI (hdD fs.H):=by rw [d6,upd_at]
 rw [<- d6] at e14
 have ene:=q_neDict (prog:=prog) (w:=w) (K:=KK w) (btab:=bt) (k:=k+7) (m:=m6) (nx:=nx+12) (n1:=nx+10) (n2:=nx+11) (by omega) (by omega) m6a m6b rfl (hd_alike fs.H)
 have e15:=c_sorted (prog:=prog) (w:=w) (K:=KK w) (btab:=bt) (k:=k+7) (m:=m6) (nx:=nx+12) (a:=.d (.lst (natsD fs.row))) (ns:=rowI fs.row) (show _=_ from rowI_D _) trivial (by rw [rowI_len]; omega)
 rw [hrow] at e15
 have e16:=c_sortedD (prog:=prog) (w:=w) (K:=KK w) (btab:=bt) (k:=k+7) (m:=m6) (nx:=nx+12) (n:=nx+10) (by omega) m6a (by rw [show (hdD fs.H).length=fs.H.length from hdFrom_len _ _]; omega)
 rw [sorted_keys,hlen] at e16
 have e17:=c_sorted (prog:=prog) (w:=w) (K:=KK w) (btab:=bt) (k:=k+7) (m:=upd m6 (nx+12) (.list (natsD (initH o.length)))) (nx:=nx+12+1) (a:=.d (.lst (natsD (toldL fs)))) (ns:=rowI (toldL fs)) (show _=_ from rowI_D _) trivial (by rw [rowI_len]; unfold toldL; rw [List.length_map]; omega)
 rw [htold] at e17
 have eSum:=c_sum (prog:=prog) (w:=w) (K:=KK w) (btab:=bt) (k:=k+7) (m:=m) (nx:=nx) (a:=.d (.lst (ns.map D.int))) (ns:=ns) rfl trivial
 have m7a:(upd m6 (nx+12) (.list (natsD (initH o.length)))) (nx+12)=.list (natsD (initH o.length)):=upd_at _ _ _
 have h:=law_run (prog:=prog) (w:=w) (k:=k) hord e0 e1 e2 e3 e4 e5 eSum e6 e7 e8 e9 e10 e11 X3.i1 X3.i2 e12 e13 e14 ene hrn (Nat.le_trans hrl2 (by decide)) m6a e15 e16 m7a e17 (natsD_flat _)
 refine (h.call).low (.same (by omega) fun i hi=>?_) (.d _)
 rw [upd_ne _ _ _ (by omega),d6,upd_ne _ _ _ (by omega),d5,upd_ne _ _ _ (by omega),upd_ne _ _ _ (by omega),v3 i hi]
end
end
noncomputable def baseB (h:Heap) (tabs:List (Addr × Addr)):BM:=fun a=>(ghostOf h tabs).get? a
theorem vds_of_ints {B:BM} {vs:List Value} {ns:List Int} (h:IntsAre vs ns):VDs B (ns.map D.int) vs:=
 IntsAre.rec (motive:=fun vs ns _=>VDs B (ns.map D.int) vs) .nil (fun _ _ {_ _} _ r=>.cons (.int _ _) r) h
theorem bmain_of {p:Program} {loose:List Str} {mean:ExcName->Option Value} {mg mb:Str->Option Value} {h:Heap} (T:Top p loose mean mg mb h):BMain h:=
 let ⟨bm,ob,h1,h2,h3,h4,h5,h6⟩:=T.bmain; ⟨mg,bm,ob,T.g,h1,h2,h3,h4,h5,h6⟩
theorem sta_of {K:Frag} {btab:List (Str × Value)} {p:Program} {loose:List Str} {mean:ExcName->Option Value} {mg mb:Str->Option Value} {h:Heap} {tabs:List (Addr × Addr)} (hT:TabsAt tabs h) (T:Top p loose mean mg mb h) (KX:K.In h) (hK:noTabs K=true)
  (hb:∀ q ∈ btab,q.1 ≠ "__name__" /\ bootBuiltins q.1=some q.2):Sta K btab (baseB h tabs):=by
 have T2:=ghost_top hT T
 have K2:=ghost_K hT KX hK
 refine ⟨fun h' hk=>?_⟩
 have hk':∀ b o,(ghostOf h tabs).get? b=some o->h'.get? b=some o:=hk
 have T3:=T2.keeps hk'
 exact ⟨fun a o e=>hk' a o (K2 a o e),T3.nolimit,⟨mb,T3.b,fun q hq=>by rw [T3.builtins q.1 (hb q hq).1]; exact (hb q hq).2⟩,bmain_of T3⟩
noncomputable def wd0 (h:Heap) (tabs:List (Addr × Addr)):Wd:=⟨baseB h tabs,fun _=>none,fun n=>(tabs.getD n (0,0)).2⟩
noncomputable def tabM (tabs:List (Addr × Addr)):Nat->MO:=fun n=>.tab (tabs.getD n (0,0)).1
theorem tab_at {prog:Program} {w:World} {h:Heap} {tabs:List (Addr × Addr)} (hT:TabsAt tabs h) {n nx:Nat} (hn:n < tabs.length):MOat prog w (wd0 h tabs) nx (tabM tabs n) ((wd0 h tabs).ι n) h:=by
 have hm:tabs.getD n (0,0) ∈ tabs:=by rw [List.getD_eq_getElem?_getD,List.getElem?_eq_getElem hn]; simp
 have hg:=(hT _ hm).2
 obtain ⟨o,vs,file,tf,flags,tg,inF,text,tt,e1,e2,e3,e4,e5,e6,e7,e8,e9,e10⟩:=(hT _ hm).1
 have e1:(ghostOf h tabs).get? (tabs.getD n (0,0)).1=some o:=ghost_get hT e1 (fun q=>by rw [q] at e2; cases e2)
 exact ⟨#[],o,e1,⟨vs,file,tf,flags,tg,inF,text,tt,e2,e3,e4,e5,e6,e7,e8,e9⟩,e10,hg,trivial,fun pos c' q=>by cases q⟩
theorem sinv0 {prog:Program} {w:World} {K:Frag} {btab:List (Str × Value)} {h:Heap} {tabs:List (Addr × Addr)} (hT:TabsAt tabs h) (hS:Sta K btab (baseB h tabs)) (hnd:(tabs.map (·.2)).Nodup):SInv prog w K btab (wd0 h tabs) (tabM tabs) tabs.length h:=by
 have hget:∀ n,n < tabs.length->(wd0 h tabs).ι n=(tabs.map (·.2)).getD n 0:=fun n hn=>by
  show (tabs.getD n (0,0)).2=_
  rw [List.getD_eq_getElem?_getD,List.getD_eq_getElem?_getD,List.getElem?_map,List.getElem?_eq_getElem hn]
  rfl
 refine ⟨fun a o e=>of_hideAll _ e,fun a o e=>(by cases e),fun a o e=>(by cases e),fun n hn=>tab_at hT hn,fun n hn _=>?_,fun _ _ _=>rfl,fun n n' hn hn' _ _ e=>?_,hS⟩
 ·show (ghostOf h tabs).get? _=none
  rw [hget n hn]
  have hn2:n < (tabs.map (·.2)).length:=by rw [List.length_map]; exact hn
  refine hideAll_none _ ?_
  rw [List.getD_eq_getElem?_getD,List.getElem?_eq_getElem hn2]
  exact List.getElem_mem _
 ·rw [hget n hn,hget n' hn'] at e
  have hn2:n < (tabs.map (·.2)).length:=by rw [List.length_map]; exact hn
  have hn3:n' < (tabs.map (·.2)).length:=by rw [List.length_map]; exact hn'
  rw [List.getD_eq_getElem?_getD,List.getElem?_eq_getElem hn2,List.getD_eq_getElem?_getD,List.getElem?_eq_getElem hn3] at e
  exact (List.getElem_inj hnd).mp e
theorem keep_tab {prog:Program} {w:World} {K:Frag} {btab:List (Str × Value)} {h h':Heap} {tabs:List (Addr × Addr)} (hT:TabsAt tabs h) {W':Wd} (hl:Wd.le tabs.length (wd0 h tabs) W') (S:SInv prog w K btab W' (tabM tabs) tabs.length h') :
  OldK h h':=by
 have key:∀ b o,b ∉ tabs.map (·.2)->h.get? b=some o->h'.get? b=some o:=fun b o hb e=>S.base b o (hl.B b o (ghost_ne e hb))
 have grown:∀ b o,b ∈ tabs.map (·.2)->h.get? b=some o->isCodeTable h b /\ o=tabObj #[] /\ ∃ ps,h'.get? b=some (tabObj ps):=fun b o hb e=>by
  obtain ⟨q,hq,rfl⟩:=List.mem_map.mp hb
  obtain ⟨n,hn,hqe⟩:=List.getElem_of_mem hq
  have e2:=(hT q hq).2
  rw [e] at e2
  obtain ⟨ps,oc,-,-,-,hP,-⟩:=S.obj n hn
  rw [hl.ι n hn] at hP
  have eq:(wd0 h tabs).ι n=q.2:=by
   show (tabs.getD n (0,0)).2=_
   rw [List.getD_eq_getElem?_getD,List.getElem?_eq_getElem hn,Option.getD_some,hqe]
  rw [eq] at hP
  exact ⟨((hT q hq).1.tab (hT q hq).2).isCodeTable,Option.some.inj e2,ps,hP⟩
 refine ⟨fun b o e=>?_,fun b o e=>?_⟩
 ·by_cases hb:b ∈ tabs.map (·.2)
  ·obtain ⟨ht,rfl,ps,hP⟩:=grown b o hb e
   exact .inr (.inl ⟨ht,rfl,#[],ps,rfl,by rw [Array.empty_append]; exact hP⟩)
  ·exact .inl (key b o hb e)
 ·by_cases hb:b ∈ tabs.map (·.2)
  ·obtain ⟨_,_,ps,hP⟩:=grown b o hb e
   exact ⟨_,hP⟩
  ·exact ⟨o,key b o hb e⟩
set_option tactic.hygienic true in
theorem well_list {P:Params} {h:Heap} {a:Addr} {ns:List Int} (hw:Well P h (.ref a) (ofPy (.list (ns.map PyData.int)))):∃ vs,h.get? a=some (lstObj vs 0) /\ IntsAre vs ns:=by
 have e:ofPy (.list (ns.map PyData.int))=.list (ns.map WData.int):=by
  simp only [ofPy]
  rw [ofPys_eq,List.map_map]
  rfl
 rw [e] at hw
 cases hw with
 | list ho hv=>
  refine ⟨_,ho,?_⟩
  clear ho e
  rename_i vs
  induction ns generalizing vs with
  | nil=>cases hv; exact .nil
  | cons x ns ih=>
   cases hv with
   | cons h1 h2=>
    cases h1
    exact .cons _ _ (ih h2)
theorem enter2 {prog:Program} {w:World} {s₁:Shared} {fv a:Addr} {p:Program} {loose:List Str} {mean:ExcName->Option Value} {mg mb:Str->Option Value} {ns:List Int} {Q E:Value->Shared->Prop}
  (KX:(Mine.kk.heap_1 w.params).In s₁.heap) (hT:TabsAt [(365,363),(339,337)] s₁.heap) (T:Top p loose mean mg mb s₁.heap) (hmg:mg "law" = some (.ref fv)) (hlen:ns.length<=63) (hw:Well w.params s₁.heap (.ref a) (ofPy (.list (ns.map PyData.int))))
  (post:∀ h' tk,OldK s₁.heap h'->Q (.bool true) { s₁ with heap:=h',toks:=tk }):wpAny (model prog w) callerA (call (.ref fv) [.ref a]) Q E s₁:=by
 have KX':(KK w).In s₁.heap:=by unfold KK; exact KX
 have e:=mg_of KX' T.g (show nsIn (KK w) mainGlobals "law" = some (some (.ref (Internal.fa w "law"))) by kernel_rfl)
 rw [hmg] at e
 obtain rfl:fv=Internal.fa w "law" := by injection e with e; injection e
 have hS:Sta (KK w) bt (baseB s₁.heap [(365,363),(339,337)]):=sta_of hT T KX' (by kernel_rfl) (by decide +kernel)
 have S0:=sinv0 (prog:=prog) (w:=w) hT hS (by decide)
 obtain ⟨vs,ho,hi⟩:=well_list hw
 have hoB:baseB s₁.heap [(365,363),(339,337)] a=some (lstObj vs 0):=ghost_get hT ho (fun q=>by cases q)
 have L:=law_tr (prog:=prog) (w:=w) (k:=0) (m:=tabM [(365,363),(339,337)]) (nx:=2) ns hlen 1 0 339 365 (by decide) (by decide) rfl rfl (by kernel_rfl) (by kernel_rfl)
 refine L (wd0 s₁.heap [(365,363),(339,337)]) callerA s₁ _ Q E ⟨by decide +kernel,by decide +kernel,rfl⟩ S0 trivial ⟨.ref (Internal.fa w "law"),[.ref a],[],.k _,.cons (.d (.lst hoB (vds_of_ints hi))) .nil,.nil,rfl⟩ fun W' h' tk' v _ hl S r=>?_
 cases r with
 | d r=>
  cases r
  exact post h' tk' (keep_tab hT hl S)
end
end
end Mine.Internal
namespace Mine
set_option tactic.hygienic false
theorem all.tw10168888151487559394:True:=⟨⟩
theorem all.tw10793401674749092046:True:=⟨⟩
theorem all.tw4430775014708722610:True:=⟨⟩
theorem all.tw4631590275013254457:True:=⟨⟩
theorem all.tw10156424416328317940:True:=⟨⟩
theorem all.tw15158558636265767147:True:=⟨⟩
theorem all.tw13900070722340429276:True:=⟨⟩
theorem all.tw8616835277999145119:True:=⟨⟩
theorem all.tw17800948086707717751:True:=⟨⟩
theorem all.tw5247617807198155932:True:=⟨⟩
theorem all.tw397829171339713761:True:=⟨⟩
theorem all.tw262894865840223594:True:=⟨⟩
theorem all.tw4818641064637329869:True:=⟨⟩
theorem all.tw10407399669362838719:True:=⟨⟩
theorem all.tw3357559941945735724:True:=⟨⟩
theorem all.tw16424727738075169484:True:=⟨⟩
theorem all.tw6686757251022233349:True:=⟨⟩
theorem all.tw14549113301119539810:True:=⟨⟩
theorem all.tw5002070824922625533:True:=⟨⟩
theorem all.tw4244794441018138637:True:=⟨⟩
theorem all.tw9600454056292803967:True:=⟨⟩
theorem all.tw1750280776747563624:True:=⟨⟩
theorem all.tw7960206165438813502:True:=⟨⟩
theorem all.tw17360653242477243975:True:=⟨⟩
theorem all.tw927500100414286832:True:=⟨⟩
theorem all.tw5008143988079351144:True:=⟨⟩
theorem all.tw7317653850160689691:True:=⟨⟩
theorem all.tw17523770736405063376:True:=⟨⟩
theorem all.tw6946980451890315270:True:=⟨⟩
theorem all.tw15612066896164977022:True:=⟨⟩
theorem all.tw16183010546200382306:True:=⟨⟩
theorem all.tw232116979997021311:True:=⟨⟩
theorem all.tw5456101476828105407:True:=⟨⟩
theorem all.tw8968355716326206664:True:=⟨⟩
theorem all.tw13596499734656872166:True:=⟨⟩
theorem all.tw3630066180865283129:True:=⟨⟩
theorem all.tw15248031165874397040:True:=⟨⟩
theorem all.tw5718967094426423161:True:=⟨⟩
theorem all.tw5615151462926910227:True:=⟨⟩
theorem all.tw4214497047443048748:True:=⟨⟩
theorem all.tw2690882624139800689:True:=⟨⟩
theorem all.tw16296590348105434372:True:=⟨⟩
theorem all.tw11158953913317867288:True:=⟨⟩
theorem all.tw4831860214510110302:True:=⟨⟩
theorem all.tw6950096446663180783:True:=⟨⟩
theorem all.tw6495733333828780514:True:=⟨⟩
theorem all.tw10677670038743541358:True:=⟨⟩
theorem all.tw10323370424266482742:True:=⟨⟩
theorem all.tw2286941943676669977:True:=⟨⟩
theorem all.tw13215351417096909983:True:=⟨⟩
theorem all.tw4726450323565452186:True:=⟨⟩
theorem all.tw7072849832022388479:True:=⟨⟩
theorem all.tw795402444562892265:True:=⟨⟩
theorem all.tw11925040711228000680:True:=⟨⟩
theorem all.tw8076105961534405009:True:=⟨⟩
theorem all.tw29985565223642888:True:=⟨⟩
theorem all.tw5191467471856622273:True:=⟨⟩
theorem all.tw10649901628825759099:True:=⟨⟩
theorem all.tw16002472330686219879:True:=⟨⟩
theorem all.tw16740921855470316824:True:=⟨⟩
theorem all.tw10921597071642053482:True:=⟨⟩
theorem all.tw6836359950869179439:True:=⟨⟩
theorem all.tw1326175403826912198:True:=⟨⟩
theorem all.tw9833964599435250050:True:=⟨⟩
theorem all.tw11961059351148515626:True:=⟨⟩
theorem all.tw13423135486485445016:True:=⟨⟩
theorem all.tw15298119835317213847:True:=⟨⟩
theorem all.tw11951307492845570281:True:=⟨⟩
theorem all.tw16857469709051444266:True:=⟨⟩
theorem all.tw10393596885623623503:True:=⟨⟩
theorem all.tw2531900633515307401:True:=⟨⟩
theorem all.tw10289937546816008636:True:=⟨⟩
theorem all.tw13113687655016186724:True:=⟨⟩
theorem all.tw7660858615051961871:True:=⟨⟩
theorem all.tw201708328148552895:True:=⟨⟩
theorem all.tw3767518503533802614:True:=⟨⟩
theorem all.tw4338314545742005754:True:=⟨⟩
theorem all.tw18120535436291149196:True:=⟨⟩
theorem all.tw9496632788025766839:True:=⟨⟩
theorem all.tw9609096358927944886:True:=⟨⟩
theorem all.tw14590377763556992278:True:=⟨⟩
theorem all.tw12428716410969305734:True:=⟨⟩
theorem all.tw7888970235439995493:True:=⟨⟩
theorem all.tw11113120797386210373:True:=⟨⟩
theorem all.tw3764707466689467706:True:=⟨⟩
theorem all.tw7755422918602135030:True:=⟨⟩
theorem all.tw2638793534194840904:True:=⟨⟩
theorem all.tw15651733941924773997:True:=⟨⟩
theorem all.tw8600759836979252552:True:=⟨⟩
theorem all.tw11091474679367250208:True:=⟨⟩
theorem all.tw14721843458392949018:True:=⟨⟩
theorem all.tw4154878040674242839:True:=⟨⟩
theorem all.tw11931918283646908614:True:=⟨⟩
theorem all.tw15059917014629022394:True:=⟨⟩
theorem all.tw5657931515703916248:True:=⟨⟩
theorem all.tw7205895575636617080:True:=⟨⟩
theorem all.tw13135058765949404771:True:=⟨⟩
theorem all.tw6651456455751515877:True:=⟨⟩
theorem all.tw1088589479996732829:True:=⟨⟩
theorem all.tw9022205114861038860:True:=⟨⟩
theorem all.tw11051709101105081487:True:=⟨⟩
theorem all.tw13370487131934946175:True:=⟨⟩
theorem all.tw11165177232955272329:True:=⟨⟩
theorem all.tw5216885473575582988:True:=⟨⟩
theorem all.tw5007245332940595331:True:=⟨⟩
theorem all.tw232827808551559825:True:=⟨⟩
theorem all.tw2479237469882504799:True:=⟨⟩
theorem all.tw174643672710455865:True:=⟨⟩
theorem all.tw11084693905056812178:True:=⟨⟩
theorem all.tw15014361466247048854:True:=⟨⟩
theorem all.tw525001674005675781:True:=⟨⟩
theorem all.tw3298683737301795645:True:=⟨⟩
theorem all.tw8111057081096800836:True:=⟨⟩
theorem all.tw13172091369480311280:True:=⟨⟩
theorem all.tw7753768549220779765:True:=⟨⟩
theorem all.tw886047313143998090:True:=⟨⟩
theorem all.tw6853843781069519680:True:=⟨⟩
theorem all.tw15389465554420088467:True:=⟨⟩
theorem all.tw3239841934065285509:True:=⟨⟩
theorem all.tw18291108133853008933:True:=⟨⟩
theorem all.tw7957553974722075628:True:=⟨⟩
theorem all.tw14076077854437140390:True:=⟨⟩
theorem all.tw2412950195513398651:True:=⟨⟩
theorem all.tw14822214895437561417:True:=⟨⟩
theorem all.tw1644255569911684797:True:=⟨⟩
theorem all.tw18369841484834026144:True:=⟨⟩
theorem all.tw14883968960377749705:True:=⟨⟩
theorem all.tw9448091282758670523:True:=⟨⟩
theorem all.tw1734884918528286522:True:=⟨⟩
theorem all.tw13283931332471535325:True:=⟨⟩
theorem all.tw8386163355432598545:True:=⟨⟩
theorem all.tw11573567738276184859:True:=⟨⟩
theorem all.tw10600613889749566790:True:=⟨⟩
theorem all.tw18124843273605240230:True:=⟨⟩
theorem all.tw15575253945988166476:True:=⟨⟩
theorem all.tw6223034424235540279:True:=⟨⟩
theorem all.tw5747321363474778693:True:=⟨⟩
theorem all.tw17740860788197283744:True:=⟨⟩
theorem all.tw4965207536615798822:True:=⟨⟩
theorem all.tw8013882960148741844:True:=⟨⟩
theorem all.tw4814944892674192296:True:=⟨⟩
theorem all.tw12885334096101347146:True:=⟨⟩
theorem all.tw5888963250497168203:True:=⟨⟩
theorem all.tw11928815663860865973:True:=⟨⟩
theorem all.tw7918374967389245632:True:=⟨⟩
theorem all.tw10410964818681591666:True:=⟨⟩
theorem all.tw3108443244893856389:True:=⟨⟩
theorem all.tw3185962312253278316:True:=⟨⟩
theorem all.tw3390864358609898268:True:=⟨⟩
theorem all.tw9392369929188813261:True:=⟨⟩
theorem all.tw1585303152785439333:True:=⟨⟩
theorem all.tw282994513109133150:True:=⟨⟩
theorem all.tw9241353231930656577:True:=⟨⟩
theorem all.tw3832104259330054055:True:=⟨⟩
theorem all.tw5289271124799399775:True:=⟨⟩
theorem all.tw11446199593928302625:True:=⟨⟩
theorem all.tw6271033356711949733:True:=⟨⟩
theorem all.tw11584583377287094653:True:=⟨⟩
theorem all.tw4645612490112672357:True:=⟨⟩
theorem all.tw7848317997028865603:True:=⟨⟩
theorem all.tw18111398738982083773:True:=⟨⟩
theorem all.tw3804168243799541492:True:=⟨⟩
theorem all.tw1075291646940621582:True:=⟨⟩
theorem all.tw13132907815185506690:True:=⟨⟩
theorem all.tw561872325786274548:True:=⟨⟩
theorem all.tw12304872625307995750:True:=⟨⟩
theorem all.tw8398887430952950212:True:=⟨⟩
theorem all.tw11242623580682996947:True:=⟨⟩
theorem all.tw4049413732980777947:True:=⟨⟩
theorem all.tw9700507354520375304:True:=⟨⟩
theorem all.tw12985212532813657682:True:=⟨⟩
theorem all.tw7946034326556018432:True:=⟨⟩
theorem all.tw1668396487359607927:True:=⟨⟩
theorem all.tw8166991320080258738:True:=⟨⟩
theorem all.tw12580110897883145167:True:=⟨⟩
theorem all.tw14274756557212989909:True:=⟨⟩
theorem all.tw8728704332973717658:True:=⟨⟩
theorem all.tw4874642235004048027:True:=⟨⟩
theorem all.tw17368901067910498557:True:=⟨⟩
theorem all.tw6178583632892115015:True:=⟨⟩
theorem all.tw2972125363121769464:True:=⟨⟩
theorem all.tw15541118713287057729:True:=⟨⟩
theorem all.tw7347661181068853997:True:=⟨⟩
theorem all.tw6169999212503205497:True:=⟨⟩
theorem all.tw15200021829711423265:True:=⟨⟩
theorem all.tw4382491568596388571:True:=⟨⟩
theorem all.tw9090173269774583996:True:=⟨⟩
theorem all.tw474206656176753078:True:=⟨⟩
theorem all.tw7686242042924871683:True:=⟨⟩
theorem all.tw13467292715098799918:True:=⟨⟩
theorem all.tw12899656968702213925:True:=⟨⟩
theorem all.tw4786962568827011835:True:=⟨⟩
theorem all.tw785864177541677141:True:=⟨⟩
theorem all.tw4350801690150286559:True:=⟨⟩
theorem all.tw8543756510809834644:True:=⟨⟩
theorem all.tw2627396739876165418:True:=⟨⟩
theorem all.tw3138800457800853586:True:=⟨⟩
theorem all.tw3949192924188805160:True:=⟨⟩
theorem all.tw8670540905479144303:True:=⟨⟩
theorem all.tw1216898108829112853:True:=⟨⟩
theorem all.tw4983024317834737482:True:=⟨⟩
theorem all.tw12540455083557110006:True:=⟨⟩
theorem all.tw13185015893256467352:True:=⟨⟩
theorem all.tw6888782338466086140:True:=⟨⟩
theorem all.tw7159026401054745538:True:=⟨⟩
theorem all.tw12139988101201813748:True:=⟨⟩
theorem all.tw4515135292898193881:True:=⟨⟩
theorem all.tw7785168158365692624:True:=⟨⟩
theorem all.tw13042374122123996364:True:=⟨⟩
theorem all.tw6849123771955923804:True:=⟨⟩
theorem all.tw5761313309558253367:True:=⟨⟩
theorem all.tw6405578165278201989:True:=⟨⟩
theorem all.tw12784588452913835247:True:=⟨⟩
theorem all.tw12981892083367582941:True:=⟨⟩
theorem all.tw1298631472846954095:True:=⟨⟩
theorem all.tw10681620039792923934:True:=⟨⟩
theorem all.tw4781444607860559946:True:=⟨⟩
theorem all.tw18433669859833586122:True:=⟨⟩
theorem all.tw14737169218283336635:True:=⟨⟩
theorem all.tw2750322548573693319:True:=⟨⟩
theorem all.tw16788233547135642414:True:=⟨⟩
theorem all.tw2442836877315861853:True:=⟨⟩
theorem all.tw3980043528481558573:True:=⟨⟩
theorem all.tw7654578318931278690:True:=⟨⟩
theorem all.tw3477183460249832127:True:=⟨⟩
theorem all.tw5854907428364158380:True:=⟨⟩
theorem all.tw10277526245819850656:True:=⟨⟩
theorem all.tw3925080978404028047:True:=⟨⟩
theorem all.tw15284455985751111415:True:=⟨⟩
theorem all.tw9592678889267232940:True:=⟨⟩
theorem all.tw17106608494224303150:True:=⟨⟩
theorem all.tw5162543521180666497:True:=⟨⟩
theorem all.tw14849280956162755979:True:=⟨⟩
theorem all.tw3153289441736887298:True:=⟨⟩
theorem all.tw13270532327374429287:True:=⟨⟩
theorem all.tw16288533217561068507:True:=⟨⟩
theorem all.tw16232008947845578158:True:=⟨⟩
theorem all.tw596421839371371174:True:=⟨⟩
theorem all.tw12819504698909858696:True:=⟨⟩
theorem all.tw14204109254541194217:True:=⟨⟩
theorem all.tw2316775634158704177:True:=⟨⟩
theorem all.tw7779866328928976063:True:=⟨⟩
theorem all.tw14539000326390715668:True:=⟨⟩
theorem all.tw7062720368445256129:True:=⟨⟩
theorem all.tw8486076525276431931:True:=⟨⟩
theorem all.tw14081932915414352519:True:=⟨⟩
theorem all.tw7238125184777875665:True:=⟨⟩
theorem all.tw4801688742562958406:True:=⟨⟩
theorem all.tw2235618017368140517:True:=⟨⟩
theorem all.tw14310873030558110092:True:=⟨⟩
theorem all.tw15906484144062456574:True:=⟨⟩
theorem all.tw17983917188297756147:True:=⟨⟩
theorem all.tw14899674885815798178:True:=⟨⟩
theorem all.tw17394647144938102915:True:=⟨⟩
theorem all.tw12254430714555821875:True:=⟨⟩
theorem all.tw7824222052329908659:True:=⟨⟩
theorem all.tw6873541528101158377:True:=⟨⟩
theorem all.tw8838840417862019655:True:=⟨⟩
theorem all.tw2013830700403712203:True:=⟨⟩
theorem all.tw14984247238865676675:True:=⟨⟩
theorem all.tw10705108097460422218:True:=⟨⟩
theorem all.tw3165661143165402847:True:=⟨⟩
theorem all.tw9305783451064888827:True:=⟨⟩
theorem all.tw18107237968055405019:True:=⟨⟩
theorem all.tw16136937179128050694:True:=⟨⟩
theorem all.tw4156143147478942181:True:=⟨⟩
theorem all.tw8026366407565007962:True:=⟨⟩
theorem all.tw10073190252686323273:True:=⟨⟩
theorem all.tw13930999109560414629:True:=⟨⟩
theorem all.tw5543487718492105064:True:=⟨⟩
theorem all.tw6656463916972431421:True:=⟨⟩
theorem all.tw4907521953547317329:True:=⟨⟩
theorem all.tw3527972740633252992:True:=⟨⟩
theorem all.tw10034031380863371641:True:=⟨⟩
theorem all.tw18094267598192979275:True:=⟨⟩
theorem all.tw9131408386013701786:True:=⟨⟩
theorem all.tw16838893715234930207:True:=⟨⟩
theorem all.tw5648471030971768203:True:=⟨⟩
theorem all.tw11412402557560025602:True:=⟨⟩
theorem all.tw17772726858579744284:True:=⟨⟩
theorem all.tw11038128598146805730:True:=⟨⟩
theorem all.tw7272270352196073673:True:=⟨⟩
theorem all.tw14953325984322379511:True:=⟨⟩
theorem all.tw281770217567036725:True:=⟨⟩
theorem all.tw4899250830898163692:True:=⟨⟩
theorem all.tw14124840197023413450:True:=⟨⟩
theorem all.tw10252965763247687682:True:=⟨⟩
theorem all.tw7916160540357663616:True:=⟨⟩
theorem all.tw12926333453430215753:True:=⟨⟩
theorem all.tw200202858802481044:True:=⟨⟩
theorem all.tw16773635481313006432:True:=⟨⟩
theorem all.tw14182124309207785167:True:=⟨⟩
theorem all.tw14288127532215574351:True:=⟨⟩
theorem all.tw12563031120210811263:True:=⟨⟩
theorem all.tw8593244855664925795:True:=⟨⟩
theorem all.tw16576222957257545530:True:=⟨⟩
theorem all.tw7514489123796633772:True:=⟨⟩
theorem all.tw4258606087713283508:True:=⟨⟩
theorem all.tw10658958392246782621:True:=⟨⟩
theorem all.tw5750698986362780913:True:=⟨⟩
theorem all.tw14848961488311411958:True:=⟨⟩
theorem all.tw10268101183197098196:True:=⟨⟩
theorem all.tw15888951733556516598:True:=⟨⟩
theorem all.tw15105651507014581045:True:=⟨⟩
theorem all.tw9526568234960664165:True:=⟨⟩
theorem all.tw2891402810631288588:True:=⟨⟩
theorem all.tw3835962111665225711:True:=⟨⟩
theorem all.tw4716985721665009587:True:=⟨⟩
theorem all.tw15451204947285891726:True:=⟨⟩
theorem all.tw15393178847056368160:True:=⟨⟩
theorem all.tw1973140245219671491:True:=⟨⟩
theorem all.tw9514876090768664877:True:=⟨⟩
theorem all.tw15766547542915688834:True:=⟨⟩
theorem all.tw1604050991321148793:True:=⟨⟩
theorem all.tw11931136993785318394:True:=⟨⟩
theorem all.tw8857914048673524507:True:=⟨⟩
theorem all.tw10312239555926195531:True:=⟨⟩
theorem all.tw17590515576409907731:True:=⟨⟩
theorem all.tw1694654335647164047:True:=⟨⟩
theorem all.tw7193976414177721783:True:=⟨⟩
theorem all.tw13027540482245733427:True:=⟨⟩
theorem all.tw884644925536651315:True:=⟨⟩
theorem all.tw10316705163991428254:True:=⟨⟩
theorem all.tw10640303290150162726:True:=⟨⟩
theorem all.tw15151187641303801864:True:=⟨⟩
theorem all.tw6719982252746284739:True:=⟨⟩
theorem all.tw17259241986408110582:True:=⟨⟩
theorem all.tw497388943360791162:True:=⟨⟩
theorem all.tw15097909243742831393:True:=⟨⟩
theorem all.tw9351078540693612215:True:=⟨⟩
theorem all.tw7347299435816893626:True:=⟨⟩
theorem all.tw13100642850353945058:True:=⟨⟩
theorem all.tw6516363680345034613:True:=⟨⟩
theorem all.tw17933553581876595578:True:=⟨⟩
theorem all.tw1639981616727947583:True:=⟨⟩
theorem all.tw16444899576201249432:True:=⟨⟩
theorem all.tw16739083755425606968:True:=⟨⟩
theorem all.tw10636018739910865072:True:=⟨⟩
theorem all.tw14701963045326077753:True:=⟨⟩
theorem all.tw18433079168191953831:True:=⟨⟩
theorem all.tw4198835854440487071:True:=⟨⟩
theorem all.tw8689057759390064058:True:=⟨⟩
theorem all.tw11456633543110993741:True:=⟨⟩
theorem all.tw10773934983489079739:True:=⟨⟩
theorem all.tw4847766330237268548:True:=⟨⟩
theorem all.tw7234240908195146063:True:=⟨⟩
set_option Elab.async true in
theorem all : PySem.Challenge.rw_us0026_02.Holds := by
  w_on
  o_law
  k_head
  (case hw => w_witness2)
  k_fill
  intro w s₀ s₁ mg mb G Y fa o pm cd doc dV kV ho hd hcd hD hmg hg args vals as hpre hlay hrd hwl hlo
  have KX := km_in_of Y
  km_tabs Y
  refine Ground.open G ?_
  intro T B D TE TW
  km_lay T hmg ho hd cd
  clear ho hd hcd hD
  wrow_args hpre hlay hrd hwl hlo
  all_goals (
    refine Internal.enter2 (ns := ?zns) KX hT9 T hmg ?zl ?zw (fun h' tk hk => ?zp)
    case zw => assumption
    case zl => omega
    refine ⟨.inl ⟨.bool true, .bool true, [], rfl, fun _ => rfl, .bool _, by kernel_rfl, fun _ => ⟨List.nodup_nil, fun _ h => nomatch h⟩⟩, hk, rfl, .of_eq hg⟩)
end Mine
theorem PySem.Challenge.cw_us0026_02_holds : PySem.Challenge.rw_us0026_02.Holds :=
  Mine.all
