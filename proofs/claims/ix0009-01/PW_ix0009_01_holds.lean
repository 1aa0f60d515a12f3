import PyProof.Rows.All
import Wide.All
import OpenK.AllK
import Wide.FinOn
import Open.Tops
import Lean
import PySem.Challenge.RW_ix0009_01
open PySem PySem.W PyProof.Rows PySem.Calls
open PySem.Str (ofString)
open PySem.Builtin (bitAnd bitOr bitXor bitNot)
open PySem.W.KBy (picked)
set_option Elab.async false
set_option maxRecDepth 100000
set_option maxHeartbeats 8000000
set_option rowWalk.seconds 0
set_option linter.all false
set_option compiler.extract_closed false
namespace Mine.Internal
theorem cLt {i k:Nat} {m:Int} (h:i<k) (d:(k:Int)≤m):(i:Int)<m:=Int.lt_of_lt_of_le (Int.ofNat_lt.mpr h) d
theorem cLe {i k:Nat} {m:Int} (h:i≤k) (d:(k:Int)≤m):(i:Int)≤m:=Int.le_trans (Int.ofNat_le.mpr h) d
theorem cNon {i:Nat} {m:Int} (d:m≤0):m≤(i:Int):=Int.le_trans d (Int.natCast_nonneg i)
theorem iLt {x k m:Int} (h:x<k) (d:k≤m):x<m:=Int.lt_of_lt_of_le h d
theorem iLtE {x k m:Int} (h:x≤k) (d:k<m):x<m:=Int.lt_of_le_of_lt h d
theorem iLe {x k m:Int} (h:x≤k) (d:k≤m):x≤m:=Int.le_trans h d
theorem iGe {x k m:Int} (h:k≤x) (d:m≤k):m≤x:=Int.le_trans d h
theorem jyq {i:Nat} (h:i<2):i=0∨i=1:=match i,h with | 0,_=>.inl rfl | 1,_=>.inr rfl
theorem inN {i k:Nat} {c d:Int} (h:i<k) (d1:c≤0) (d2:(k:Int)≤d):c≤(i:Int)∧(i:Int)<d:=⟨cNon d1,cLt h d2⟩
theorem jbj {α:Type _} {P:α->Prop} {a:α} {l:List α} (h1:P a) (h2:∀ p∈l,P p):∀ p∈a::l,P p:=List.forall_mem_cons.mpr ⟨h1,h2⟩
theorem jgw {α:Type _} {P:α->Prop} {a:α} (h:P a):∀ p∈[a],P p:=jbj h fun zz h=>nomatch h
theorem noC {α:Type _} {x a:α} {l:List α} (h1:x≠a) (h2:x∉l):x∉a::l:=fun h=>by
 cases h with
 | head=>exact h1 rfl
 | tail _ h=>exact h2 h
theorem noN {α:Type _} {x:α}:x∉([]:List α):=fun h=>nomatch h
section
variable {α:Type _} {x b0 b1 b2 b3 b4 b5 b6 b7 b8 b9 b10 b11 b12 b13 b14 b15 b16 b17 b18 b19 b20 b21 b22 b23:α} {l:List α}
theorem me1:x∈b0::x::l:=.tail _ (.head _)
theorem me2:x∈b0::b1::x::l:=.tail _ (.tail _ (.head _))
theorem me3:x∈b0::b1::b2::x::l:=.tail _ (.tail _ (.tail _ (.head _)))
theorem me4:x∈b0::b1::b2::b3::x::l:=.tail _ (.tail _ (.tail _ (.tail _ (.head _))))
theorem me5:x∈b0::b1::b2::b3::b4::x::l:=.tail _ (.tail _ (.tail _ (.tail _ (.tail _ (.head _)))))
theorem me6:x∈b0::b1::b2::b3::b4::b5::x::l:=.tail _ (.tail _ (.tail _ (.tail _ (.tail _ (.tail _ (.head _))))))
theorem me7:x∈b0::b1::b2::b3::b4::b5::b6::x::l:=.tail _ (.tail _ (.tail _ (.tail _ (.tail _ (.tail _ (.tail _ (.head _)))))))
theorem me8:x∈b0::b1::b2::b3::b4::b5::b6::b7::x::l:=.tail _ (.tail _ (.tail _ (.tail _ (.tail _ (.tail _ (.tail _ (.tail _ (.head _))))))))
theorem me9:x∈b0::b1::b2::b3::b4::b5::b6::b7::b8::x::l:=.tail _ (.tail _ (.tail _ (.tail _ (.tail _ (.tail _ (.tail _ (.tail _ (.tail _ (.head _)))))))))
theorem me10:x∈b0::b1::b2::b3::b4::b5::b6::b7::b8::b9::x::l:=.tail _ (.tail _ (.tail _ (.tail _ (.tail _ (.tail _ (.tail _ (.tail _ (.tail _ (.tail _ (.head _))))))))))
theorem me11:x∈b0::b1::b2::b3::b4::b5::b6::b7::b8::b9::b10::x::l:=.tail _ (.tail _ (.tail _ (.tail _ (.tail _ (.tail _ (.tail _ (.tail _ (.tail _ (.tail _ (.tail _ (.head _)))))))))))
theorem me12:x∈b0::b1::b2::b3::b4::b5::b6::b7::b8::b9::b10::b11::x::l:=.tail _ (.tail _ (.tail _ (.tail _ (.tail _ (.tail _ (.tail _ (.tail _ (.tail _ (.tail _ (.tail _ (.tail _ (.head _))))))))))))
theorem me13:x∈b0::b1::b2::b3::b4::b5::b6::b7::b8::b9::b10::b11::b12::x::l:=.tail _ (.tail _ (.tail _ (.tail _ (.tail _ (.tail _ (.tail _ (.tail _ (.tail _ (.tail _ (.tail _ (.tail _ (.tail _ (.head _)))))))))))))
theorem me14:x∈b0::b1::b2::b3::b4::b5::b6::b7::b8::b9::b10::b11::b12::b13::x::l:=.tail _ (.tail _ (.tail _ (.tail _ (.tail _ (.tail _ (.tail _ (.tail _ (.tail _ (.tail _ (.tail _ (.tail _ (.tail _ (.tail _ (.head _))))))))))))))
theorem me15:x∈b0::b1::b2::b3::b4::b5::b6::b7::b8::b9::b10::b11::b12::b13::b14::x::l:=.tail _ (.tail _ (.tail _ (.tail _ (.tail _ (.tail _ (.tail _ (.tail _ (.tail _ (.tail _ (.tail _ (.tail _ (.tail _ (.tail _ (.tail _ (.head _)))))))))))))))
theorem mt2 (h:x∈l):x∈b0::b1::l:=.tail _ (.tail _ (h))
theorem mt3 (h:x∈l):x∈b0::b1::b2::l:=.tail _ (.tail _ (.tail _ (h)))
theorem mt4 (h:x∈l):x∈b0::b1::b2::b3::l:=.tail _ (.tail _ (.tail _ (.tail _ (h))))
theorem mt8 (h:x∈l):x∈b0::b1::b2::b3::b4::b5::b6::b7::l:=.tail _ (.tail _ (.tail _ (.tail _ (.tail _ (.tail _ (.tail _ (.tail _ (h))))))))
end
theorem xA {P0:Prop} {P1:Prop} {G:Prop} (h:P0∧P1) (k:P0->P1->G):G:=k h.1 h.2
theorem xE {α0:Type _} {P1:α0->Prop} {G:Prop} (h:∃ a0,P1 a0) (k:∀ a0,P1 a0->G):G:=h.elim fun a0 q0=>k a0 q0
theorem xAA {P0:Prop} {P1:Prop} {P2:Prop} {G:Prop} (h:P0∧P1∧P2) (k:P0->P1->P2->G):G:=k h.1 h.2.1 h.2.2
theorem xAE {α1:Type _} {P0:Prop} {P2:α1->Prop} {G:Prop} (h:P0∧∃ a1,P2 a1) (k:P0->∀ a1,P2 a1->G):G:=h.2.elim fun a1 q1=>k h.1 a1 q1
theorem xEA {α0:Type _} {P1:α0->Prop} {P2:α0->Prop} {G:Prop} (h:∃ a0,P1 a0∧P2 a0) (k:∀ a0,P1 a0->P2 a0->G):G:=h.elim fun a0 q0=>k a0 q0.1 q0.2
theorem xEE {α0 α1:Type _} {P2:α0->α1->Prop} {G:Prop} (h:∃ a0,∃ a1,P2 a0 a1) (k:∀ a0,∀ a1,P2 a0 a1->G):G:=h.elim fun a0 q0=>q0.elim fun a1 q1=>k a0 a1 q1
theorem jv1 {P0:Prop} {P1:Prop} {P2:Prop} {P3:Prop} {G:Prop} (h:P0∧P1∧P2∧P3) (k:P0->P1->P2->P3->G):G:=k h.1 h.2.1 h.2.2.1 h.2.2.2
theorem xAEE {α1 α2:Type _} {P0:Prop} {P3:α1->α2->Prop} {G:Prop} (h:P0∧∃ a1,∃ a2,P3 a1 a2) (k:P0->∀ a1,∀ a2,P3 a1 a2->G):G:=h.2.elim fun a1 q1=>q1.elim fun a2 q2=>k h.1 a1 a2 q2
theorem jg2 {α0:Type _} {P1:α0->Prop} {P2:α0->Prop} {P3:α0->Prop} {G:Prop} (h:∃ a0,P1 a0∧P2 a0∧P3 a0) (k:∀ a0,P1 a0->P2 a0->P3 a0->G):G:=h.elim fun a0 q0=>k a0 q0.1 q0.2.1 q0.2.2
theorem xEAE {α0 α2:Type _} {P1:α0->Prop} {P3:α0->α2->Prop} {G:Prop} (h:∃ a0,P1 a0∧∃ a2,P3 a0 a2) (k:∀ a0,P1 a0->∀ a2,P3 a0 a2->G):G:=h.elim fun a0 q0=>q0.2.elim fun a2 q2=>k a0 q0.1 a2 q2
theorem je4 {α0 α1:Type _} {P2:α0->α1->Prop} {P3:α0->α1->Prop} {G:Prop} (h:∃ a0,∃ a1,P2 a0 a1∧P3 a0 a1) (k:∀ a0,∀ a1,P2 a0 a1->P3 a0 a1->G):G:=h.elim fun a0 q0=>q0.elim fun a1 q1=>k a0 a1 q1.1 q1.2
theorem xEEE {α0 α1 α2:Type _} {P3:α0->α1->α2->Prop} {G:Prop} (h:∃ a0,∃ a1,∃ a2,P3 a0 a1 a2) (k:∀ a0,∀ a1,∀ a2,P3 a0 a1 a2->G):G:=h.elim fun a0 q0=>q0.elim fun a1 q1=>q1.elim fun a2 q2=>k a0 a1 a2 q2
theorem jq8 {P0:Prop} {P1:Prop} {P2:Prop} {P3:Prop} {P4:Prop} {G:Prop} (h:P0∧P1∧P2∧P3∧P4) (k:P0->P1->P2->P3->P4->G):G:=k h.1 h.2.1 h.2.2.1 h.2.2.2.1 h.2.2.2.2
theorem xAEAA {α1:Type _} {P0:Prop} {P2:α1->Prop} {P3:α1->Prop} {P4:α1->Prop} {G:Prop} (h:P0∧∃ a1,P2 a1∧P3 a1∧P4 a1) (k:P0->∀ a1,P2 a1->P3 a1->P4 a1->G):G:=h.2.elim fun a1 q1=>k h.1 a1 q1.1 q1.2.1 q1.2.2
theorem xEAAA {α0:Type _} {P1:α0->Prop} {P2:α0->Prop} {P3:α0->Prop} {P4:α0->Prop} {G:Prop} (h:∃ a0,P1 a0∧P2 a0∧P3 a0∧P4 a0) (k:∀ a0,P1 a0->P2 a0->P3 a0->P4 a0->G):G:=h.elim fun a0 q0=>k a0 q0.1 q0.2.1 q0.2.2.1 q0.2.2.2
theorem xEAAE {α0 α3:Type _} {P1:α0->Prop} {P2:α0->Prop} {P4:α0->α3->Prop} {G:Prop} (h:∃ a0,P1 a0∧P2 a0∧∃ a3,P4 a0 a3) (k:∀ a0,P1 a0->P2 a0->∀ a3,P4 a0 a3->G):G:=h.elim fun a0 q0=>q0.2.2.elim fun a3 q3=>k a0 q0.1 q0.2.1 a3 q3
theorem jl5 {α0 α1:Type _} {P2:α0->α1->Prop} {P3:α0->α1->Prop} {P4:α0->α1->Prop} {G:Prop} (h:∃ a0,∃ a1,P2 a0 a1∧P3 a0 a1∧P4 a0 a1) (k:∀ a0,∀ a1,P2 a0 a1->P3 a0 a1->P4 a0 a1->G):G:=h.elim fun a0 q0=>q0.elim fun a1 q1=>k a0 a1 q1.1 q1.2.1 q1.2.2
theorem km2 {α0 α1 α2:Type _} {P3:α0->α1->α2->Prop} {P4:α0->α1->α2->Prop} {G:Prop} (h:∃ a0,∃ a1,∃ a2,P3 a0 a1 a2∧P4 a0 a1 a2) (k:∀ a0,∀ a1,∀ a2,P3 a0 a1 a2->P4 a0 a1 a2->G):G:=h.elim fun a0 q0=>q0.elim fun a1 q1=>q1.elim fun a2 q2=>k a0 a1 a2 q2.1 q2.2
theorem xAEEAA {α1 α2:Type _} {P0:Prop} {P3:α1->α2->Prop} {P4:α1->α2->Prop} {P5:α1->α2->Prop} {G:Prop} (h:P0∧∃ a1,∃ a2,P3 a1 a2∧P4 a1 a2∧P5 a1 a2) (k:P0->∀ a1,∀ a2,P3 a1 a2->P4 a1 a2->P5 a1 a2->G):G:=h.2.elim fun a1 q1=>q1.elim fun a2 q2=>k h.1 a1 a2 q2.1 q2.2.1 q2.2.2
theorem krv {α0:Type _} {P1:α0->Prop} {P2:α0->Prop} {P3:α0->Prop} {P4:α0->Prop} {P5:α0->Prop} {G:Prop} (h:∃ a0,P1 a0∧P2 a0∧P3 a0∧P4 a0∧P5 a0) (k:∀ a0,P1 a0->P2 a0->P3 a0->P4 a0->P5 a0->G):G:=h.elim fun a0 q0=>k a0 q0.1 q0.2.1 q0.2.2.1 q0.2.2.2.1 q0.2.2.2.2
theorem jsx {α0 α1:Type _} {P2:α0->α1->Prop} {P3:α0->α1->Prop} {P4:α0->α1->Prop} {P5:α0->α1->Prop} {G:Prop} (h:∃ a0,∃ a1,P2 a0 a1∧P3 a0 a1∧P4 a0 a1∧P5 a0 a1) (k:∀ a0,∀ a1,P2 a0 a1->P3 a0 a1->P4 a0 a1->P5 a0 a1->G):G:=h.elim fun a0 q0=>q0.elim fun a1 q1=>k a0 a1 q1.1 q1.2.1 q1.2.2.1 q1.2.2.2
theorem xEEEAA {α0 α1 α2:Type _} {P3:α0->α1->α2->Prop} {P4:α0->α1->α2->Prop} {P5:α0->α1->α2->Prop} {G:Prop} (h:∃ a0,∃ a1,∃ a2,P3 a0 a1 a2∧P4 a0 a1 a2∧P5 a0 a1 a2) (k:∀ a0,∀ a1,∀ a2,P3 a0 a1 a2->P4 a0 a1 a2->P5 a0 a1 a2->G):G:=h.elim fun a0 q0=>q0.elim fun a1 q1=>q1.elim fun a2 q2=>k a0 a1 a2 q2.1 q2.2.1 q2.2.2
theorem jx5 {α0 α1 α2 α3:Type _} {P4:α0->α1->α2->α3->Prop} {P5:α0->α1->α2->α3->Prop} {G:Prop} (h:∃ a0,∃ a1,∃ a2,∃ a3,P4 a0 a1 a2 a3∧P5 a0 a1 a2 a3) (k:∀ a0,∀ a1,∀ a2,∀ a3,P4 a0 a1 a2 a3->P5 a0 a1 a2 a3->G):G:=h.elim fun a0 q0=>q0.elim fun a1 q1=>q1.elim fun a2 q2=>q2.elim fun a3 q3=>k a0 a1 a2 a3 q3.1 q3.2
theorem kv0 {P0:Prop} {P1:Prop} {P2:Prop} {P3:Prop} {P4:Prop} {P5:Prop} {P6:Prop} {G:Prop} (h:P0∧P1∧P2∧P3∧P4∧P5∧P6) (k:P0->P1->P2->P3->P4->P5->P6->G):G:=k h.1 h.2.1 h.2.2.1 h.2.2.2.1 h.2.2.2.2.1 h.2.2.2.2.2.1 h.2.2.2.2.2.2
theorem kek {α4:Type _} {P0:Prop} {P1:Prop} {P2:Prop} {P3:Prop} {P5:α4->Prop} {P6:α4->Prop} {G:Prop} (h:P0∧P1∧P2∧P3∧∃ a4,P5 a4∧P6 a4) (k:P0->P1->P2->P3->∀ a4,P5 a4->P6 a4->G):G:=h.2.2.2.2.elim fun a4 q4=>k h.1 h.2.1 h.2.2.1 h.2.2.2.1 a4 q4.1 q4.2
theorem kvw {α1 α2:Type _} {P0:Prop} {P3:α1->α2->Prop} {P4:α1->α2->Prop} {P5:α1->α2->Prop} {P6:α1->α2->Prop} {G:Prop} (h:P0∧∃ a1,∃ a2,P3 a1 a2∧P4 a1 a2∧P5 a1 a2∧P6 a1 a2) (k:P0->∀ a1,∀ a2,P3 a1 a2->P4 a1 a2->P5 a1 a2->P6 a1 a2->G):G:=h.2.elim fun a1 q1=>q1.elim fun a2 q2=>k h.1 a1 a2 q2.1 q2.2.1 q2.2.2.1 q2.2.2.2
theorem jd2 {α1 α2 α3:Type _} {P0:Prop} {P4:α1->α2->α3->Prop} {P5:α1->α2->α3->Prop} {P6:α1->α2->α3->Prop} {G:Prop} (h:P0∧∃ a1,∃ a2,∃ a3,P4 a1 a2 a3∧P5 a1 a2 a3∧P6 a1 a2 a3) (k:P0->∀ a1,∀ a2,∀ a3,P4 a1 a2 a3->P5 a1 a2 a3->P6 a1 a2 a3->G):G:=h.2.elim fun a1 q1=>q1.elim fun a2 q2=>q2.elim fun a3 q3=>k h.1 a1 a2 a3 q3.1 q3.2.1 q3.2.2
theorem kev {α0:Type _} {P1:α0->Prop} {P2:α0->Prop} {P3:α0->Prop} {P4:α0->Prop} {P5:α0->Prop} {P6:α0->Prop} {G:Prop} (h:∃ a0,P1 a0∧P2 a0∧P3 a0∧P4 a0∧P5 a0∧P6 a0) (k:∀ a0,P1 a0->P2 a0->P3 a0->P4 a0->P5 a0->P6 a0->G):G:=h.elim fun a0 q0=>k a0 q0.1 q0.2.1 q0.2.2.1 q0.2.2.2.1 q0.2.2.2.2.1 q0.2.2.2.2.2
theorem jv4 {α0 α1:Type _} {P2:α0->α1->Prop} {P3:α0->α1->Prop} {P4:α0->α1->Prop} {P5:α0->α1->Prop} {P6:α0->α1->Prop} {G:Prop} (h:∃ a0,∃ a1,P2 a0 a1∧P3 a0 a1∧P4 a0 a1∧P5 a0 a1∧P6 a0 a1) (k:∀ a0,∀ a1,P2 a0 a1->P3 a0 a1->P4 a0 a1->P5 a0 a1->P6 a0 a1->G):G:=h.elim fun a0 q0=>q0.elim fun a1 q1=>k a0 a1 q1.1 q1.2.1 q1.2.2.1 q1.2.2.2.1 q1.2.2.2.2
theorem jv3 {α0 α1 α2:Type _} {P3:α0->α1->α2->Prop} {P4:α0->α1->α2->Prop} {P5:α0->α1->α2->Prop} {P6:α0->α1->α2->Prop} {G:Prop} (h:∃ a0,∃ a1,∃ a2,P3 a0 a1 a2∧P4 a0 a1 a2∧P5 a0 a1 a2∧P6 a0 a1 a2) (k:∀ a0,∀ a1,∀ a2,P3 a0 a1 a2->P4 a0 a1 a2->P5 a0 a1 a2->P6 a0 a1 a2->G):G:=h.elim fun a0 q0=>q0.elim fun a1 q1=>q1.elim fun a2 q2=>k a0 a1 a2 q2.1 q2.2.1 q2.2.2.1 q2.2.2.2
theorem jkj {α0 α1 α2 α3 α4:Type _} {P5:α0->α1->α2->α3->α4->Prop} {P6:α0->α1->α2->α3->α4->Prop} {G:Prop} (h:∃ a0,∃ a1,∃ a2,∃ a3,∃ a4,P5 a0 a1 a2 a3 a4∧P6 a0 a1 a2 a3 a4) (k:∀ a0,∀ a1,∀ a2,∀ a3,∀ a4,P5 a0 a1 a2 a3 a4->P6 a0 a1 a2 a3 a4->G):G:=h.elim fun a0 q0=>q0.elim fun a1 q1=>q1.elim fun a2 q2=>q2.elim fun a3 q3=>q3.elim fun a4 q4=>k a0 a1 a2 a3 a4 q4.1 q4.2
theorem km6 {P0:Prop} {P1:Prop} {P2:Prop} {P3:Prop} {P4:Prop} {P5:Prop} {P6:Prop} {P7:Prop} {G:Prop} (h:P0∧P1∧P2∧P3∧P4∧P5∧P6∧P7) (k:P0->P1->P2->P3->P4->P5->P6->P7->G):G:=k h.1 h.2.1 h.2.2.1 h.2.2.2.1 h.2.2.2.2.1 h.2.2.2.2.2.1 h.2.2.2.2.2.2.1 h.2.2.2.2.2.2.2
theorem km5 {α1 α2 α3:Type _} {P0:Prop} {P4:α1->α2->α3->Prop} {P5:α1->α2->α3->Prop} {P6:α1->α2->α3->Prop} {P7:α1->α2->α3->Prop} {G:Prop} (h:P0∧∃ a1,∃ a2,∃ a3,P4 a1 a2 a3∧P5 a1 a2 a3∧P6 a1 a2 a3∧P7 a1 a2 a3) (k:P0->∀ a1,∀ a2,∀ a3,P4 a1 a2 a3->P5 a1 a2 a3->P6 a1 a2 a3->P7 a1 a2 a3->G):G:=h.2.elim fun a1 q1=>q1.elim fun a2 q2=>q2.elim fun a3 q3=>k h.1 a1 a2 a3 q3.1 q3.2.1 q3.2.2.1 q3.2.2.2
theorem km4 {α1 α2 α3 α4 α5:Type _} {P0:Prop} {P6:α1->α2->α3->α4->α5->Prop} {P7:α1->α2->α3->α4->α5->Prop} {G:Prop} (h:P0∧∃ a1,∃ a2,∃ a3,∃ a4,∃ a5,P6 a1 a2 a3 a4 a5∧P7 a1 a2 a3 a4 a5) (k:P0->∀ a1,∀ a2,∀ a3,∀ a4,∀ a5,P6 a1 a2 a3 a4 a5->P7 a1 a2 a3 a4 a5->G):G:=h.2.elim fun a1 q1=>q1.elim fun a2 q2=>q2.elim fun a3 q3=>q3.elim fun a4 q4=>q4.elim fun a5 q5=>k h.1 a1 a2 a3 a4 a5 q5.1 q5.2
theorem km3 {α0 α1:Type _} {P2:α0->α1->Prop} {P3:α0->α1->Prop} {P4:α0->α1->Prop} {P5:α0->α1->Prop} {P6:α0->α1->Prop} {P7:α0->α1->Prop} {G:Prop} (h:∃ a0,∃ a1,P2 a0 a1∧P3 a0 a1∧P4 a0 a1∧P5 a0 a1∧P6 a0 a1∧P7 a0 a1) (k:∀ a0,∀ a1,P2 a0 a1->P3 a0 a1->P4 a0 a1->P5 a0 a1->P6 a0 a1->P7 a0 a1->G):G:=h.elim fun a0 q0=>q0.elim fun a1 q1=>k a0 a1 q1.1 q1.2.1 q1.2.2.1 q1.2.2.2.1 q1.2.2.2.2.1 q1.2.2.2.2.2
theorem km1 {α0 α1 α2:Type _} {P3:α0->α1->α2->Prop} {P4:α0->α1->α2->Prop} {P5:α0->α1->α2->Prop} {P6:α0->α1->α2->Prop} {P7:α0->α1->α2->Prop} {G:Prop} (h:∃ a0,∃ a1,∃ a2,P3 a0 a1 a2∧P4 a0 a1 a2∧P5 a0 a1 a2∧P6 a0 a1 a2∧P7 a0 a1 a2) (k:∀ a0,∀ a1,∀ a2,P3 a0 a1 a2->P4 a0 a1 a2->P5 a0 a1 a2->P6 a0 a1 a2->P7 a0 a1 a2->G):G:=h.elim fun a0 q0=>q0.elim fun a1 q1=>q1.elim fun a2 q2=>k a0 a1 a2 q2.1 q2.2.1 q2.2.2.1 q2.2.2.2.1 q2.2.2.2.2
theorem jmx {α0 α1 α2 α3:Type _} {P4:α0->α1->α2->α3->Prop} {P5:α0->α1->α2->α3->Prop} {P6:α0->α1->α2->α3->Prop} {P7:α0->α1->α2->α3->Prop} {G:Prop} (h:∃ a0,∃ a1,∃ a2,∃ a3,P4 a0 a1 a2 a3∧P5 a0 a1 a2 a3∧P6 a0 a1 a2 a3∧P7 a0 a1 a2 a3) (k:∀ a0,∀ a1,∀ a2,∀ a3,P4 a0 a1 a2 a3->P5 a0 a1 a2 a3->P6 a0 a1 a2 a3->P7 a0 a1 a2 a3->G):G:=h.elim fun a0 q0=>q0.elim fun a1 q1=>q1.elim fun a2 q2=>q2.elim fun a3 q3=>k a0 a1 a2 a3 q3.1 q3.2.1 q3.2.2.1 q3.2.2.2
theorem jsz {P0:Prop} {P1:Prop} {P2:Prop} {P3:Prop} {P4:Prop} {P5:Prop} {P6:Prop} {P7:Prop} {P8:Prop} {G:Prop} (h:P0∧P1∧P2∧P3∧P4∧P5∧P6∧P7∧P8) (k:P0->P1->P2->P3->P4->P5->P6->P7->P8->G):G:=k h.1 h.2.1 h.2.2.1 h.2.2.2.1 h.2.2.2.2.1 h.2.2.2.2.2.1 h.2.2.2.2.2.2.1 h.2.2.2.2.2.2.2.1 h.2.2.2.2.2.2.2.2
theorem jjk {α1 α2 α5 α6:Type _} {P0:Prop} {P3:α1->α2->Prop} {P4:α1->α2->Prop} {P7:α1->α2->α5->α6->Prop} {P8:α1->α2->α5->α6->Prop} {G:Prop} (h:P0∧∃ a1,∃ a2,P3 a1 a2∧P4 a1 a2∧∃ a5,∃ a6,P7 a1 a2 a5 a6∧P8 a1 a2 a5 a6) (k:P0->∀ a1,∀ a2,P3 a1 a2->P4 a1 a2->∀ a5,∀ a6,P7 a1 a2 a5 a6->P8 a1 a2 a5 a6->G):G:=h.2.elim fun a1 q1=>q1.elim fun a2 q2=>q2.2.2.elim fun a5 q5=>q5.elim fun a6 q6=>k h.1 a1 a2 q2.1 q2.2.1 a5 a6 q6.1 q6.2
theorem jm5 {α1 α2 α3 α4:Type _} {P0:Prop} {P5:α1->α2->α3->α4->Prop} {P6:α1->α2->α3->α4->Prop} {P7:α1->α2->α3->α4->Prop} {P8:α1->α2->α3->α4->Prop} {G:Prop} (h:P0∧∃ a1,∃ a2,∃ a3,∃ a4,P5 a1 a2 a3 a4∧P6 a1 a2 a3 a4∧P7 a1 a2 a3 a4∧P8 a1 a2 a3 a4) (k:P0->∀ a1,∀ a2,∀ a3,∀ a4,P5 a1 a2 a3 a4->P6 a1 a2 a3 a4->P7 a1 a2 a3 a4->P8 a1 a2 a3 a4->G):G:=h.2.elim fun a1 q1=>q1.elim fun a2 q2=>q2.elim fun a3 q3=>q3.elim fun a4 q4=>k h.1 a1 a2 a3 a4 q4.1 q4.2.1 q4.2.2.1 q4.2.2.2
theorem jsq {α0 α1 α2:Type _} {P3:α0->α1->α2->Prop} {P4:α0->α1->α2->Prop} {P5:α0->α1->α2->Prop} {P6:α0->α1->α2->Prop} {P7:α0->α1->α2->Prop} {P8:α0->α1->α2->Prop} {G:Prop} (h:∃ a0,∃ a1,∃ a2,P3 a0 a1 a2∧P4 a0 a1 a2∧P5 a0 a1 a2∧P6 a0 a1 a2∧P7 a0 a1 a2∧P8 a0 a1 a2) (k:∀ a0,∀ a1,∀ a2,P3 a0 a1 a2->P4 a0 a1 a2->P5 a0 a1 a2->P6 a0 a1 a2->P7 a0 a1 a2->P8 a0 a1 a2->G):G:=h.elim fun a0 q0=>q0.elim fun a1 q1=>q1.elim fun a2 q2=>k a0 a1 a2 q2.1 q2.2.1 q2.2.2.1 q2.2.2.2.1 q2.2.2.2.2.1 q2.2.2.2.2.2
theorem jf8 {α0 α1 α2 α3:Type _} {P4:α0->α1->α2->α3->Prop} {P5:α0->α1->α2->α3->Prop} {P6:α0->α1->α2->α3->Prop} {P7:α0->α1->α2->α3->Prop} {P8:α0->α1->α2->α3->Prop} {G:Prop} (h:∃ a0,∃ a1,∃ a2,∃ a3,P4 a0 a1 a2 a3∧P5 a0 a1 a2 a3∧P6 a0 a1 a2 a3∧P7 a0 a1 a2 a3∧P8 a0 a1 a2 a3) (k:∀ a0,∀ a1,∀ a2,∀ a3,P4 a0 a1 a2 a3->P5 a0 a1 a2 a3->P6 a0 a1 a2 a3->P7 a0 a1 a2 a3->P8 a0 a1 a2 a3->G):G:=h.elim fun a0 q0=>q0.elim fun a1 q1=>q1.elim fun a2 q2=>q2.elim fun a3 q3=>k a0 a1 a2 a3 q3.1 q3.2.1 q3.2.2.1 q3.2.2.2.1 q3.2.2.2.2
theorem jm4 {α0 α1 α2 α3 α4:Type _} {P5:α0->α1->α2->α3->α4->Prop} {P6:α0->α1->α2->α3->α4->Prop} {P7:α0->α1->α2->α3->α4->Prop} {P8:α0->α1->α2->α3->α4->Prop} {G:Prop} (h:∃ a0,∃ a1,∃ a2,∃ a3,∃ a4,P5 a0 a1 a2 a3 a4∧P6 a0 a1 a2 a3 a4∧P7 a0 a1 a2 a3 a4∧P8 a0 a1 a2 a3 a4) (k:∀ a0,∀ a1,∀ a2,∀ a3,∀ a4,P5 a0 a1 a2 a3 a4->P6 a0 a1 a2 a3 a4->P7 a0 a1 a2 a3 a4->P8 a0 a1 a2 a3 a4->G):G:=h.elim fun a0 q0=>q0.elim fun a1 q1=>q1.elim fun a2 q2=>q2.elim fun a3 q3=>q3.elim fun a4 q4=>k a0 a1 a2 a3 a4 q4.1 q4.2.1 q4.2.2.1 q4.2.2.2
theorem kej {α0 α1 α2 α3 α4 α5:Type _} {P6:α0->α1->α2->α3->α4->α5->Prop} {P7:α0->α1->α2->α3->α4->α5->Prop} {P8:α0->α1->α2->α3->α4->α5->Prop} {G:Prop} (h:∃ a0,∃ a1,∃ a2,∃ a3,∃ a4,∃ a5,P6 a0 a1 a2 a3 a4 a5∧P7 a0 a1 a2 a3 a4 a5∧P8 a0 a1 a2 a3 a4 a5) (k:∀ a0,∀ a1,∀ a2,∀ a3,∀ a4,∀ a5,P6 a0 a1 a2 a3 a4 a5->P7 a0 a1 a2 a3 a4 a5->P8 a0 a1 a2 a3 a4 a5->G):G:=h.elim fun a0 q0=>q0.elim fun a1 q1=>q1.elim fun a2 q2=>q2.elim fun a3 q3=>q3.elim fun a4 q4=>q4.elim fun a5 q5=>k a0 a1 a2 a3 a4 a5 q5.1 q5.2.1 q5.2.2
theorem jd5 {α0 α1 α2 α3 α4 α5 α6:Type _} {P7:α0->α1->α2->α3->α4->α5->α6->Prop} {P8:α0->α1->α2->α3->α4->α5->α6->Prop} {G:Prop} (h:∃ a0,∃ a1,∃ a2,∃ a3,∃ a4,∃ a5,∃ a6,P7 a0 a1 a2 a3 a4 a5 a6∧P8 a0 a1 a2 a3 a4 a5 a6) (k:∀ a0,∀ a1,∀ a2,∀ a3,∀ a4,∀ a5,∀ a6,P7 a0 a1 a2 a3 a4 a5 a6->P8 a0 a1 a2 a3 a4 a5 a6->G):G:=h.elim fun a0 q0=>q0.elim fun a1 q1=>q1.elim fun a2 q2=>q2.elim fun a3 q3=>q3.elim fun a4 q4=>q4.elim fun a5 q5=>q5.elim fun a6 q6=>k a0 a1 a2 a3 a4 a5 a6 q6.1 q6.2
theorem je8 {α0 α1 α2 α3 α4 α5 α6 α7:Type _} {P8:α0->α1->α2->α3->α4->α5->α6->α7->Prop} {G:Prop} (h:∃ a0,∃ a1,∃ a2,∃ a3,∃ a4,∃ a5,∃ a6,∃ a7,P8 a0 a1 a2 a3 a4 a5 a6 a7) (k:∀ a0,∀ a1,∀ a2,∀ a3,∀ a4,∀ a5,∀ a6,∀ a7,P8 a0 a1 a2 a3 a4 a5 a6 a7->G):G:=h.elim fun a0 q0=>q0.elim fun a1 q1=>q1.elim fun a2 q2=>q2.elim fun a3 q3=>q3.elim fun a4 q4=>q4.elim fun a5 q5=>q5.elim fun a6 q6=>q6.elim fun a7 q7=>k a0 a1 a2 a3 a4 a5 a6 a7 q7
theorem kb5 {α0 α3:Type _} {P1:α0->Prop} {P2:α0->Prop} {P4:α0->α3->Prop} {P5:α0->α3->Prop} {P6:α0->α3->Prop} {P7:α0->α3->Prop} {P8:α0->α3->Prop} {P9:α0->α3->Prop} {G:Prop} (h:∃ a0,P1 a0∧P2 a0∧∃ a3,P4 a0 a3∧P5 a0 a3∧P6 a0 a3∧P7 a0 a3∧P8 a0 a3∧P9 a0 a3) (k:∀ a0,P1 a0->P2 a0->∀ a3,P4 a0 a3->P5 a0 a3->P6 a0 a3->P7 a0 a3->P8 a0 a3->P9 a0 a3->G):G:=h.elim fun a0 q0=>q0.2.2.elim fun a3 q3=>k a0 q0.1 q0.2.1 a3 q3.1 q3.2.1 q3.2.2.1 q3.2.2.2.1 q3.2.2.2.2.1 q3.2.2.2.2.2
theorem jkv {α0 α1:Type _} {P2:α0->α1->Prop} {P3:α0->α1->Prop} {P4:α0->α1->Prop} {P5:α0->α1->Prop} {P6:α0->α1->Prop} {P7:α0->α1->Prop} {P8:α0->α1->Prop} {P9:α0->α1->Prop} {G:Prop} (h:∃ a0,∃ a1,P2 a0 a1∧P3 a0 a1∧P4 a0 a1∧P5 a0 a1∧P6 a0 a1∧P7 a0 a1∧P8 a0 a1∧P9 a0 a1) (k:∀ a0,∀ a1,P2 a0 a1->P3 a0 a1->P4 a0 a1->P5 a0 a1->P6 a0 a1->P7 a0 a1->P8 a0 a1->P9 a0 a1->G):G:=h.elim fun a0 q0=>q0.elim fun a1 q1=>k a0 a1 q1.1 q1.2.1 q1.2.2.1 q1.2.2.2.1 q1.2.2.2.2.1 q1.2.2.2.2.2.1 q1.2.2.2.2.2.2.1 q1.2.2.2.2.2.2.2
theorem jv5 {α0 α2 α3 α4 α5 α6 α7 α8:Type _} {P1:α0->Prop} {P9:α0->α2->α3->α4->α5->α6->α7->α8->Prop} {P10:α0->α2->α3->α4->α5->α6->α7->α8->Prop} {G:Prop} (h:∃ a0,P1 a0∧∃ a2,∃ a3,∃ a4,∃ a5,∃ a6,∃ a7,∃ a8,P9 a0 a2 a3 a4 a5 a6 a7 a8∧P10 a0 a2 a3 a4 a5 a6 a7 a8) (k:∀ a0,P1 a0->∀ a2,∀ a3,∀ a4,∀ a5,∀ a6,∀ a7,∀ a8,P9 a0 a2 a3 a4 a5 a6 a7 a8->P10 a0 a2 a3 a4 a5 a6 a7 a8->G):G:=h.elim fun a0 q0=>q0.2.elim fun a2 q2=>q2.elim fun a3 q3=>q3.elim fun a4 q4=>q4.elim fun a5 q5=>q5.elim fun a6 q6=>q6.elim fun a7 q7=>q7.elim fun a8 q8=>k a0 q0.1 a2 a3 a4 a5 a6 a7 a8 q8.1 q8.2
theorem jg1 {α0 α1 α2 α3 α4:Type _} {P5:α0->α1->α2->α3->α4->Prop} {P6:α0->α1->α2->α3->α4->Prop} {P7:α0->α1->α2->α3->α4->Prop} {P8:α0->α1->α2->α3->α4->Prop} {P9:α0->α1->α2->α3->α4->Prop} {P10:α0->α1->α2->α3->α4->Prop} {G:Prop} (h:∃ a0,∃ a1,∃ a2,∃ a3,∃ a4,P5 a0 a1 a2 a3 a4∧P6 a0 a1 a2 a3 a4∧P7 a0 a1 a2 a3 a4∧P8 a0 a1 a2 a3 a4∧P9 a0 a1 a2 a3 a4∧P10 a0 a1 a2 a3 a4) (k:∀ a0,∀ a1,∀ a2,∀ a3,∀ a4,P5 a0 a1 a2 a3 a4->P6 a0 a1 a2 a3 a4->P7 a0 a1 a2 a3 a4->P8 a0 a1 a2 a3 a4->P9 a0 a1 a2 a3 a4->P10 a0 a1 a2 a3 a4->G):G:=h.elim fun a0 q0=>q0.elim fun a1 q1=>q1.elim fun a2 q2=>q2.elim fun a3 q3=>q3.elim fun a4 q4=>k a0 a1 a2 a3 a4 q4.1 q4.2.1 q4.2.2.1 q4.2.2.2.1 q4.2.2.2.2.1 q4.2.2.2.2.2
theorem jg0 {α0 α1 α2 α3 α4 α5:Type _} {P6:α0->α1->α2->α3->α4->α5->Prop} {P7:α0->α1->α2->α3->α4->α5->Prop} {P8:α0->α1->α2->α3->α4->α5->Prop} {P9:α0->α1->α2->α3->α4->α5->Prop} {P10:α0->α1->α2->α3->α4->α5->Prop} {G:Prop} (h:∃ a0,∃ a1,∃ a2,∃ a3,∃ a4,∃ a5,P6 a0 a1 a2 a3 a4 a5∧P7 a0 a1 a2 a3 a4 a5∧P8 a0 a1 a2 a3 a4 a5∧P9 a0 a1 a2 a3 a4 a5∧P10 a0 a1 a2 a3 a4 a5) (k:∀ a0,∀ a1,∀ a2,∀ a3,∀ a4,∀ a5,P6 a0 a1 a2 a3 a4 a5->P7 a0 a1 a2 a3 a4 a5->P8 a0 a1 a2 a3 a4 a5->P9 a0 a1 a2 a3 a4 a5->P10 a0 a1 a2 a3 a4 a5->G):G:=h.elim fun a0 q0=>q0.elim fun a1 q1=>q1.elim fun a2 q2=>q2.elim fun a3 q3=>q3.elim fun a4 q4=>q4.elim fun a5 q5=>k a0 a1 a2 a3 a4 a5 q5.1 q5.2.1 q5.2.2.1 q5.2.2.2.1 q5.2.2.2.2
theorem jlq {α0 α1 α2 α3 α4 α5 α6 α7 α8:Type _} {P9:α0->α1->α2->α3->α4->α5->α6->α7->α8->Prop} {P10:α0->α1->α2->α3->α4->α5->α6->α7->α8->Prop} {P11:α0->α1->α2->α3->α4->α5->α6->α7->α8->Prop} {G:Prop} (h:∃ a0,∃ a1,∃ a2,∃ a3,∃ a4,∃ a5,∃ a6,∃ a7,∃ a8,P9 a0 a1 a2 a3 a4 a5 a6 a7 a8∧P10 a0 a1 a2 a3 a4 a5 a6 a7 a8∧P11 a0 a1 a2 a3 a4 a5 a6 a7 a8) (k:∀ a0,∀ a1,∀ a2,∀ a3,∀ a4,∀ a5,∀ a6,∀ a7,∀ a8,P9 a0 a1 a2 a3 a4 a5 a6 a7 a8->P10 a0 a1 a2 a3 a4 a5 a6 a7 a8->P11 a0 a1 a2 a3 a4 a5 a6 a7 a8->G):G:=h.elim fun a0 q0=>q0.elim fun a1 q1=>q1.elim fun a2 q2=>q2.elim fun a3 q3=>q3.elim fun a4 q4=>q4.elim fun a5 q5=>q5.elim fun a6 q6=>q6.elim fun a7 q7=>q7.elim fun a8 q8=>k a0 a1 a2 a3 a4 a5 a6 a7 a8 q8.1 q8.2.1 q8.2.2
theorem kb4 {α0 α1 α2 α3:Type _} {P4:α0->α1->α2->α3->Prop} {P5:α0->α1->α2->α3->Prop} {P6:α0->α1->α2->α3->Prop} {P7:α0->α1->α2->α3->Prop} {P8:α0->α1->α2->α3->Prop} {P9:α0->α1->α2->α3->Prop} {G:Prop} (h:∃ a0,∃ a1,∃ a2,∃ a3,P4 a0 a1 a2 a3∧P5 a0 a1 a2 a3∧P6 a0 a1 a2 a3∧P7 a0 a1 a2 a3∧P8 a0 a1 a2 a3∧P9 a0 a1 a2 a3) (k:∀ a0,∀ a1,∀ a2,∀ a3,P4 a0 a1 a2 a3->P5 a0 a1 a2 a3->P6 a0 a1 a2 a3->P7 a0 a1 a2 a3->P8 a0 a1 a2 a3->P9 a0 a1 a2 a3->G):G:=h.elim fun a0 q0=>q0.elim fun a1 q1=>q1.elim fun a2 q2=>q2.elim fun a3 q3=>k a0 a1 a2 a3 q3.1 q3.2.1 q3.2.2.1 q3.2.2.2.1 q3.2.2.2.2.1 q3.2.2.2.2.2
theorem iAA {P0:Prop} {P1:Prop} {P2:Prop} (h0:P0) (h1:P1) (h2:P2):P0∧P1∧P2:=⟨h0,h1,h2⟩
theorem iAE {α1:Type _} {P0:Prop} {P2:α1->Prop} (h0:P0) (a1:α1) (h2:P2 a1):P0∧∃ a1,P2 a1:=⟨h0,a1,h2⟩
theorem iEA {α0:Type _} {P1:α0->Prop} {P2:α0->Prop} (a0:α0) (h1:P1 a0) (h2:P2 a0):∃ a0,P1 a0∧P2 a0:=⟨a0,h1,h2⟩
theorem iEE {α0 α1:Type _} {P2:α0->α1->Prop} (a0:α0) (a1:α1) (h2:P2 a0 a1):∃ a0,∃ a1,P2 a0 a1:=⟨a0,a1,h2⟩
theorem jn2 {P0:Prop} {P1:Prop} {P2:Prop} {P3:Prop} (h0:P0) (h1:P1) (h2:P2) (h3:P3):P0∧P1∧P2∧P3:=⟨h0,h1,h2,h3⟩
theorem iAEE {α1 α2:Type _} {P0:Prop} {P3:α1->α2->Prop} (h0:P0) (a1:α1) (a2:α2) (h3:P3 a1 a2):P0∧∃ a1,∃ a2,P3 a1 a2:=⟨h0,a1,a2,h3⟩
theorem jjv {α0:Type _} {P1:α0->Prop} {P2:α0->Prop} {P3:α0->Prop} (a0:α0) (h1:P1 a0) (h2:P2 a0) (h3:P3 a0):∃ a0,P1 a0∧P2 a0∧P3 a0:=⟨a0,h1,h2,h3⟩
theorem iEAE {α0 α2:Type _} {P1:α0->Prop} {P3:α0->α2->Prop} (a0:α0) (h1:P1 a0) (a2:α2) (h3:P3 a0 a2):∃ a0,P1 a0∧∃ a2,P3 a0 a2:=⟨a0,h1,a2,h3⟩
theorem jhj {α0 α1:Type _} {P2:α0->α1->Prop} {P3:α0->α1->Prop} (a0:α0) (a1:α1) (h2:P2 a0 a1) (h3:P3 a0 a1):∃ a0,∃ a1,P2 a0 a1∧P3 a0 a1:=⟨a0,a1,h2,h3⟩
theorem iEEE {α0 α1 α2:Type _} {P3:α0->α1->α2->Prop} (a0:α0) (a1:α1) (a2:α2) (h3:P3 a0 a1 a2):∃ a0,∃ a1,∃ a2,P3 a0 a1 a2:=⟨a0,a1,a2,h3⟩
theorem iAAAA {P0:Prop} {P1:Prop} {P2:Prop} {P3:Prop} {P4:Prop} (h0:P0) (h1:P1) (h2:P2) (h3:P3) (h4:P4):P0∧P1∧P2∧P3∧P4:=⟨h0,h1,h2,h3,h4⟩
theorem iAAEA {α2:Type _} {P0:Prop} {P1:Prop} {P3:α2->Prop} {P4:α2->Prop} (h0:P0) (h1:P1) (a2:α2) (h3:P3 a2) (h4:P4 a2):P0∧P1∧∃ a2,P3 a2∧P4 a2:=⟨h0,h1,a2,h3,h4⟩
theorem iAEAA {α1:Type _} {P0:Prop} {P2:α1->Prop} {P3:α1->Prop} {P4:α1->Prop} (h0:P0) (a1:α1) (h2:P2 a1) (h3:P3 a1) (h4:P4 a1):P0∧∃ a1,P2 a1∧P3 a1∧P4 a1:=⟨h0,a1,h2,h3,h4⟩
theorem iAEAE {α1 α3:Type _} {P0:Prop} {P2:α1->Prop} {P4:α1->α3->Prop} (h0:P0) (a1:α1) (h2:P2 a1) (a3:α3) (h4:P4 a1 a3):P0∧∃ a1,P2 a1∧∃ a3,P4 a1 a3:=⟨h0,a1,h2,a3,h4⟩
theorem kdv {α1 α2:Type _} {P0:Prop} {P3:α1->α2->Prop} {P4:α1->α2->Prop} (h0:P0) (a1:α1) (a2:α2) (h3:P3 a1 a2) (h4:P4 a1 a2):P0∧∃ a1,∃ a2,P3 a1 a2∧P4 a1 a2:=⟨h0,a1,a2,h3,h4⟩
theorem iEAAA {α0:Type _} {P1:α0->Prop} {P2:α0->Prop} {P3:α0->Prop} {P4:α0->Prop} (a0:α0) (h1:P1 a0) (h2:P2 a0) (h3:P3 a0) (h4:P4 a0):∃ a0,P1 a0∧P2 a0∧P3 a0∧P4 a0:=⟨a0,h1,h2,h3,h4⟩
theorem kx7 {α0 α3:Type _} {P1:α0->Prop} {P2:α0->Prop} {P4:α0->α3->Prop} (a0:α0) (h1:P1 a0) (h2:P2 a0) (a3:α3) (h4:P4 a0 a3):∃ a0,P1 a0∧P2 a0∧∃ a3,P4 a0 a3:=⟨a0,h1,h2,a3,h4⟩
theorem ki0 {α0 α1:Type _} {P2:α0->α1->Prop} {P3:α0->α1->Prop} {P4:α0->α1->Prop} (a0:α0) (a1:α1) (h2:P2 a0 a1) (h3:P3 a0 a1) (h4:P4 a0 a1):∃ a0,∃ a1,P2 a0 a1∧P3 a0 a1∧P4 a0 a1:=⟨a0,a1,h2,h3,h4⟩
theorem ji4 {α0 α1 α2:Type _} {P3:α0->α1->α2->Prop} {P4:α0->α1->α2->Prop} (a0:α0) (a1:α1) (a2:α2) (h3:P3 a0 a1 a2) (h4:P4 a0 a1 a2):∃ a0,∃ a1,∃ a2,P3 a0 a1 a2∧P4 a0 a1 a2:=⟨a0,a1,a2,h3,h4⟩
theorem ks0 {P0:Prop} {P1:Prop} {P2:Prop} {P3:Prop} {P4:Prop} {P5:Prop} (h0:P0) (h1:P1) (h2:P2) (h3:P3) (h4:P4) (h5:P5):P0∧P1∧P2∧P3∧P4∧P5:=⟨h0,h1,h2,h3,h4,h5⟩
theorem ksw {α1 α2:Type _} {P0:Prop} {P3:α1->α2->Prop} {P4:α1->α2->Prop} {P5:α1->α2->Prop} (h0:P0) (a1:α1) (a2:α2) (h3:P3 a1 a2) (h4:P4 a1 a2) (h5:P5 a1 a2):P0∧∃ a1,∃ a2,P3 a1 a2∧P4 a1 a2∧P5 a1 a2:=⟨h0,a1,a2,h3,h4,h5⟩
theorem iEAAAA {α0:Type _} {P1:α0->Prop} {P2:α0->Prop} {P3:α0->Prop} {P4:α0->Prop} {P5:α0->Prop} (a0:α0) (h1:P1 a0) (h2:P2 a0) (h3:P3 a0) (h4:P4 a0) (h5:P5 a0):∃ a0,P1 a0∧P2 a0∧P3 a0∧P4 a0∧P5 a0:=⟨a0,h1,h2,h3,h4,h5⟩
theorem ksk {α0 α1:Type _} {P2:α0->α1->Prop} {P3:α0->α1->Prop} {P4:α0->α1->Prop} {P5:α0->α1->Prop} (a0:α0) (a1:α1) (h2:P2 a0 a1) (h3:P3 a0 a1) (h4:P4 a0 a1) (h5:P5 a0 a1):∃ a0,∃ a1,P2 a0 a1∧P3 a0 a1∧P4 a0 a1∧P5 a0 a1:=⟨a0,a1,h2,h3,h4,h5⟩
theorem iEEEAA {α0 α1 α2:Type _} {P3:α0->α1->α2->Prop} {P4:α0->α1->α2->Prop} {P5:α0->α1->α2->Prop} (a0:α0) (a1:α1) (a2:α2) (h3:P3 a0 a1 a2) (h4:P4 a0 a1 a2) (h5:P5 a0 a1 a2):∃ a0,∃ a1,∃ a2,P3 a0 a1 a2∧P4 a0 a1 a2∧P5 a0 a1 a2:=⟨a0,a1,a2,h3,h4,h5⟩
theorem ksv {α0 α1 α2 α3:Type _} {P4:α0->α1->α2->α3->Prop} {P5:α0->α1->α2->α3->Prop} (a0:α0) (a1:α1) (a2:α2) (a3:α3) (h4:P4 a0 a1 a2 a3) (h5:P5 a0 a1 a2 a3):∃ a0,∃ a1,∃ a2,∃ a3,P4 a0 a1 a2 a3∧P5 a0 a1 a2 a3:=⟨a0,a1,a2,a3,h4,h5⟩
theorem ki4 {P0:Prop} {P1:Prop} {P2:Prop} {P3:Prop} {P4:Prop} {P5:Prop} {P6:Prop} (h0:P0) (h1:P1) (h2:P2) (h3:P3) (h4:P4) (h5:P5) (h6:P6):P0∧P1∧P2∧P3∧P4∧P5∧P6:=⟨h0,h1,h2,h3,h4,h5,h6⟩
theorem kx8 {α4:Type _} {P0:Prop} {P1:Prop} {P2:Prop} {P3:Prop} {P5:α4->Prop} {P6:α4->Prop} (h0:P0) (h1:P1) (h2:P2) (h3:P3) (a4:α4) (h5:P5 a4) (h6:P6 a4):P0∧P1∧P2∧P3∧∃ a4,P5 a4∧P6 a4:=⟨h0,h1,h2,h3,a4,h5,h6⟩
theorem ki3 {α1 α2:Type _} {P0:Prop} {P3:α1->α2->Prop} {P4:α1->α2->Prop} {P5:α1->α2->Prop} {P6:α1->α2->Prop} (h0:P0) (a1:α1) (a2:α2) (h3:P3 a1 a2) (h4:P4 a1 a2) (h5:P5 a1 a2) (h6:P6 a1 a2):P0∧∃ a1,∃ a2,P3 a1 a2∧P4 a1 a2∧P5 a1 a2∧P6 a1 a2:=⟨h0,a1,a2,h3,h4,h5,h6⟩
theorem jjz {α1 α2 α3:Type _} {P0:Prop} {P4:α1->α2->α3->Prop} {P5:α1->α2->α3->Prop} {P6:α1->α2->α3->Prop} (h0:P0) (a1:α1) (a2:α2) (a3:α3) (h4:P4 a1 a2 a3) (h5:P5 a1 a2 a3) (h6:P6 a1 a2 a3):P0∧∃ a1,∃ a2,∃ a3,P4 a1 a2 a3∧P5 a1 a2 a3∧P6 a1 a2 a3:=⟨h0,a1,a2,a3,h4,h5,h6⟩
theorem ki2 {α0:Type _} {P1:α0->Prop} {P2:α0->Prop} {P3:α0->Prop} {P4:α0->Prop} {P5:α0->Prop} {P6:α0->Prop} (a0:α0) (h1:P1 a0) (h2:P2 a0) (h3:P3 a0) (h4:P4 a0) (h5:P5 a0) (h6:P6 a0):∃ a0,P1 a0∧P2 a0∧P3 a0∧P4 a0∧P5 a0∧P6 a0:=⟨a0,h1,h2,h3,h4,h5,h6⟩
theorem kx6 {α0 α1:Type _} {P2:α0->α1->Prop} {P3:α0->α1->Prop} {P4:α0->α1->Prop} {P5:α0->α1->Prop} {P6:α0->α1->Prop} (a0:α0) (a1:α1) (h2:P2 a0 a1) (h3:P3 a0 a1) (h4:P4 a0 a1) (h5:P5 a0 a1) (h6:P6 a0 a1):∃ a0,∃ a1,P2 a0 a1∧P3 a0 a1∧P4 a0 a1∧P5 a0 a1∧P6 a0 a1:=⟨a0,a1,h2,h3,h4,h5,h6⟩
theorem jxv {α0 α1 α2 α3:Type _} {P4:α0->α1->α2->α3->Prop} {P5:α0->α1->α2->α3->Prop} {P6:α0->α1->α2->α3->Prop} (a0:α0) (a1:α1) (a2:α2) (a3:α3) (h4:P4 a0 a1 a2 a3) (h5:P5 a0 a1 a2 a3) (h6:P6 a0 a1 a2 a3):∃ a0,∃ a1,∃ a2,∃ a3,P4 a0 a1 a2 a3∧P5 a0 a1 a2 a3∧P6 a0 a1 a2 a3:=⟨a0,a1,a2,a3,h4,h5,h6⟩
theorem kx5 {α0 α1 α2 α3 α4:Type _} {P5:α0->α1->α2->α3->α4->Prop} {P6:α0->α1->α2->α3->α4->Prop} (a0:α0) (a1:α1) (a2:α2) (a3:α3) (a4:α4) (h5:P5 a0 a1 a2 a3 a4) (h6:P6 a0 a1 a2 a3 a4):∃ a0,∃ a1,∃ a2,∃ a3,∃ a4,P5 a0 a1 a2 a3 a4∧P6 a0 a1 a2 a3 a4:=⟨a0,a1,a2,a3,a4,h5,h6⟩
theorem ko3 {α1 α2 α3:Type _} {P0:Prop} {P4:α1->α2->α3->Prop} {P5:α1->α2->α3->Prop} {P6:α1->α2->α3->Prop} {P7:α1->α2->α3->Prop} (h0:P0) (a1:α1) (a2:α2) (a3:α3) (h4:P4 a1 a2 a3) (h5:P5 a1 a2 a3) (h6:P6 a1 a2 a3) (h7:P7 a1 a2 a3):P0∧∃ a1,∃ a2,∃ a3,P4 a1 a2 a3∧P5 a1 a2 a3∧P6 a1 a2 a3∧P7 a1 a2 a3:=⟨h0,a1,a2,a3,h4,h5,h6,h7⟩
theorem jc3 {α0 α1 α2 α3:Type _} {P4:α0->α1->α2->α3->Prop} {P5:α0->α1->α2->α3->Prop} {P6:α0->α1->α2->α3->Prop} {P7:α0->α1->α2->α3->Prop} (a0:α0) (a1:α1) (a2:α2) (a3:α3) (h4:P4 a0 a1 a2 a3) (h5:P5 a0 a1 a2 a3) (h6:P6 a0 a1 a2 a3) (h7:P7 a0 a1 a2 a3):∃ a0,∃ a1,∃ a2,∃ a3,P4 a0 a1 a2 a3∧P5 a0 a1 a2 a3∧P6 a0 a1 a2 a3∧P7 a0 a1 a2 a3:=⟨a0,a1,a2,a3,h4,h5,h6,h7⟩
theorem ki1 {α0 α3:Type _} {P1:α0->Prop} {P2:α0->Prop} {P4:α0->α3->Prop} {P5:α0->α3->Prop} {P6:α0->α3->Prop} {P7:α0->α3->Prop} {P8:α0->α3->Prop} (a0:α0) (h1:P1 a0) (h2:P2 a0) (a3:α3) (h4:P4 a0 a3) (h5:P5 a0 a3) (h6:P6 a0 a3) (h7:P7 a0 a3) (h8:P8 a0 a3):∃ a0,P1 a0∧P2 a0∧∃ a3,P4 a0 a3∧P5 a0 a3∧P6 a0 a3∧P7 a0 a3∧P8 a0 a3:=⟨a0,h1,h2,a3,h4,h5,h6,h7,h8⟩
theorem kiw {α0 α1 α5 α6 α7:Type _} {P2:α0->α1->Prop} {P3:α0->α1->Prop} {P4:α0->α1->Prop} {P8:α0->α1->α5->α6->α7->Prop} (a0:α0) (a1:α1) (h2:P2 a0 a1) (h3:P3 a0 a1) (h4:P4 a0 a1) (a5:α5) (a6:α6) (a7:α7) (h8:P8 a0 a1 a5 a6 a7):∃ a0,∃ a1,P2 a0 a1∧P3 a0 a1∧P4 a0 a1∧∃ a5,∃ a6,∃ a7,P8 a0 a1 a5 a6 a7:=⟨a0,a1,h2,h3,h4,a5,a6,a7,h8⟩
theorem kik {α0 α1 α3 α4 α5:Type _} {P2:α0->α1->Prop} {P6:α0->α1->α3->α4->α5->Prop} {P7:α0->α1->α3->α4->α5->Prop} {P8:α0->α1->α3->α4->α5->Prop} (a0:α0) (a1:α1) (h2:P2 a0 a1) (a3:α3) (a4:α4) (a5:α5) (h6:P6 a0 a1 a3 a4 a5) (h7:P7 a0 a1 a3 a4 a5) (h8:P8 a0 a1 a3 a4 a5):∃ a0,∃ a1,P2 a0 a1∧∃ a3,∃ a4,∃ a5,P6 a0 a1 a3 a4 a5∧P7 a0 a1 a3 a4 a5∧P8 a0 a1 a3 a4 a5:=⟨a0,a1,h2,a3,a4,a5,h6,h7,h8⟩
theorem jtv {α0 α1 α2:Type _} {P3:α0->α1->α2->Prop} {P4:α0->α1->α2->Prop} {P5:α0->α1->α2->Prop} {P6:α0->α1->α2->Prop} {P7:α0->α1->α2->Prop} {P8:α0->α1->α2->Prop} (a0:α0) (a1:α1) (a2:α2) (h3:P3 a0 a1 a2) (h4:P4 a0 a1 a2) (h5:P5 a0 a1 a2) (h6:P6 a0 a1 a2) (h7:P7 a0 a1 a2) (h8:P8 a0 a1 a2):∃ a0,∃ a1,∃ a2,P3 a0 a1 a2∧P4 a0 a1 a2∧P5 a0 a1 a2∧P6 a0 a1 a2∧P7 a0 a1 a2∧P8 a0 a1 a2:=⟨a0,a1,a2,h3,h4,h5,h6,h7,h8⟩
theorem jtj {α0 α1 α2 α3:Type _} {P4:α0->α1->α2->α3->Prop} {P5:α0->α1->α2->α3->Prop} {P6:α0->α1->α2->α3->Prop} {P7:α0->α1->α2->α3->Prop} {P8:α0->α1->α2->α3->Prop} (a0:α0) (a1:α1) (a2:α2) (a3:α3) (h4:P4 a0 a1 a2 a3) (h5:P5 a0 a1 a2 a3) (h6:P6 a0 a1 a2 a3) (h7:P7 a0 a1 a2 a3) (h8:P8 a0 a1 a2 a3):∃ a0,∃ a1,∃ a2,∃ a3,P4 a0 a1 a2 a3∧P5 a0 a1 a2 a3∧P6 a0 a1 a2 a3∧P7 a0 a1 a2 a3∧P8 a0 a1 a2 a3:=⟨a0,a1,a2,a3,h4,h5,h6,h7,h8⟩
theorem kiv {α0 α1 α2 α3 α4:Type _} {P5:α0->α1->α2->α3->α4->Prop} {P6:α0->α1->α2->α3->α4->Prop} {P7:α0->α1->α2->α3->α4->Prop} {P8:α0->α1->α2->α3->α4->Prop} (a0:α0) (a1:α1) (a2:α2) (a3:α3) (a4:α4) (h5:P5 a0 a1 a2 a3 a4) (h6:P6 a0 a1 a2 a3 a4) (h7:P7 a0 a1 a2 a3 a4) (h8:P8 a0 a1 a2 a3 a4):∃ a0,∃ a1,∃ a2,∃ a3,∃ a4,P5 a0 a1 a2 a3 a4∧P6 a0 a1 a2 a3 a4∧P7 a0 a1 a2 a3 a4∧P8 a0 a1 a2 a3 a4:=⟨a0,a1,a2,a3,a4,h5,h6,h7,h8⟩
theorem jtz {α0 α1 α2 α3 α4 α5:Type _} {P6:α0->α1->α2->α3->α4->α5->Prop} {P7:α0->α1->α2->α3->α4->α5->Prop} {P8:α0->α1->α2->α3->α4->α5->Prop} (a0:α0) (a1:α1) (a2:α2) (a3:α3) (a4:α4) (a5:α5) (h6:P6 a0 a1 a2 a3 a4 a5) (h7:P7 a0 a1 a2 a3 a4 a5) (h8:P8 a0 a1 a2 a3 a4 a5):∃ a0,∃ a1,∃ a2,∃ a3,∃ a4,∃ a5,P6 a0 a1 a2 a3 a4 a5∧P7 a0 a1 a2 a3 a4 a5∧P8 a0 a1 a2 a3 a4 a5:=⟨a0,a1,a2,a3,a4,a5,h6,h7,h8⟩
theorem jcq {α0 α1 α2 α3 α4 α5 α6:Type _} {P7:α0->α1->α2->α3->α4->α5->α6->Prop} {P8:α0->α1->α2->α3->α4->α5->α6->Prop} (a0:α0) (a1:α1) (a2:α2) (a3:α3) (a4:α4) (a5:α5) (a6:α6) (h7:P7 a0 a1 a2 a3 a4 a5 a6) (h8:P8 a0 a1 a2 a3 a4 a5 a6):∃ a0,∃ a1,∃ a2,∃ a3,∃ a4,∃ a5,∃ a6,P7 a0 a1 a2 a3 a4 a5 a6∧P8 a0 a1 a2 a3 a4 a5 a6:=⟨a0,a1,a2,a3,a4,a5,a6,h7,h8⟩
theorem jh4 {α0 α1 α2 α3 α4 α5 α6 α7:Type _} {P8:α0->α1->α2->α3->α4->α5->α6->α7->Prop} (a0:α0) (a1:α1) (a2:α2) (a3:α3) (a4:α4) (a5:α5) (a6:α6) (a7:α7) (h8:P8 a0 a1 a2 a3 a4 a5 a6 a7):∃ a0,∃ a1,∃ a2,∃ a3,∃ a4,∃ a5,∃ a6,∃ a7,P8 a0 a1 a2 a3 a4 a5 a6 a7:=⟨a0,a1,a2,a3,a4,a5,a6,a7,h8⟩
theorem jik {α0 α1:Type _} {P2:α0->α1->Prop} {P3:α0->α1->Prop} {P4:α0->α1->Prop} {P5:α0->α1->Prop} {P6:α0->α1->Prop} {P7:α0->α1->Prop} {P8:α0->α1->Prop} {P9:α0->α1->Prop} (a0:α0) (a1:α1) (h2:P2 a0 a1) (h3:P3 a0 a1) (h4:P4 a0 a1) (h5:P5 a0 a1) (h6:P6 a0 a1) (h7:P7 a0 a1) (h8:P8 a0 a1) (h9:P9 a0 a1):∃ a0,∃ a1,P2 a0 a1∧P3 a0 a1∧P4 a0 a1∧P5 a0 a1∧P6 a0 a1∧P7 a0 a1∧P8 a0 a1∧P9 a0 a1:=⟨a0,a1,h2,h3,h4,h5,h6,h7,h8,h9⟩
theorem jg9 {α0 α1 α2 α3 α4:Type _} {P5:α0->α1->α2->α3->α4->Prop} {P6:α0->α1->α2->α3->α4->Prop} {P7:α0->α1->α2->α3->α4->Prop} {P8:α0->α1->α2->α3->α4->Prop} {P9:α0->α1->α2->α3->α4->Prop} {P10:α0->α1->α2->α3->α4->Prop} (a0:α0) (a1:α1) (a2:α2) (a3:α3) (a4:α4) (h5:P5 a0 a1 a2 a3 a4) (h6:P6 a0 a1 a2 a3 a4) (h7:P7 a0 a1 a2 a3 a4) (h8:P8 a0 a1 a2 a3 a4) (h9:P9 a0 a1 a2 a3 a4) (h10:P10 a0 a1 a2 a3 a4):∃ a0,∃ a1,∃ a2,∃ a3,∃ a4,P5 a0 a1 a2 a3 a4∧P6 a0 a1 a2 a3 a4∧P7 a0 a1 a2 a3 a4∧P8 a0 a1 a2 a3 a4∧P9 a0 a1 a2 a3 a4∧P10 a0 a1 a2 a3 a4:=⟨a0,a1,a2,a3,a4,h5,h6,h7,h8,h9,h10⟩
theorem jfx {α0 α1 α2 α3 α4 α5:Type _} {P6:α0->α1->α2->α3->α4->α5->Prop} {P7:α0->α1->α2->α3->α4->α5->Prop} {P8:α0->α1->α2->α3->α4->α5->Prop} {P9:α0->α1->α2->α3->α4->α5->Prop} {P10:α0->α1->α2->α3->α4->α5->Prop} (a0:α0) (a1:α1) (a2:α2) (a3:α3) (a4:α4) (a5:α5) (h6:P6 a0 a1 a2 a3 a4 a5) (h7:P7 a0 a1 a2 a3 a4 a5) (h8:P8 a0 a1 a2 a3 a4 a5) (h9:P9 a0 a1 a2 a3 a4 a5) (h10:P10 a0 a1 a2 a3 a4 a5):∃ a0,∃ a1,∃ a2,∃ a3,∃ a4,∃ a5,P6 a0 a1 a2 a3 a4 a5∧P7 a0 a1 a2 a3 a4 a5∧P8 a0 a1 a2 a3 a4 a5∧P9 a0 a1 a2 a3 a4 a5∧P10 a0 a1 a2 a3 a4 a5:=⟨a0,a1,a2,a3,a4,a5,h6,h7,h8,h9,h10⟩
section
section
open Lean
def lnN (k:String) (l:List Syntax):Syntax:=.node .none (if k.front == '!' then (k.drop 1).toName else ("Lean.Parser.T" ++ k).toName) l.toArray
def lnA (s:String):Syntax:=.atom .none s
def khq (c s:String):List (List String):=(s.splitOn "\n").map (·.splitOn c)
def khz (w:String) (l:List (List String)):List String:=(l.find? (·.headD "" == w)).getD []
def khj:List (List String):=khq "~" "intro~( actic.intro \"intro ( L * ) )
clear~( actic.clear \"clear ( L * ) )
name_kind~( !PyProof.Rows.tacticName_kind_ \"name_kind ( L * ) )
fail~( actic.fail \"fail ( L * ) )
try~( actic.tacticTry_ \"try ( S * ) )
wr~( actic.withReducible \"with_reducible ( S * ) )
wu~( actic.withUnfoldingAll \"with_unfolding_all ( S * ) )
repeat'~( actic.repeat' \"repeat' ( S * ) )
repeat~( actic.tacticRepeat_ \"repeat ( S * ) )
by~( erm.byTactic \"by ( S * ) )
exact~( actic.exact \"exact ( A * ) )
refine'~( actic.refine' \"refine' ( A * ) )
show~( actic.show \"show ( A * ) )
kd~( !PySem.W.tacticK_dflt_ \"k_dflt * )
walk_at~( !PyProof.Rows.tacticWalk_at_ \"walk_at * )
k_lt~( !PySem.W.tacticK_lt_ \"k_lt * )
k_lt2~( !PySem.W.tacticK_lt2_ \"k_lt2 * )
;~( actic.paren \"( ( S * ) \") )
first~( actic.first \"first ( L ( B * ) ) )
case~( actic.case \"case ( L ( actic.caseArg ( !Lean.binderIdent 1 ) ( L ) ) ) \"=> ( S + ) )
rw~( actic.rwSeq \"rw ( actic.optConfig ( L ) ) ( actic.rwRuleSeq \"[ ( L ( R * ) ) \"] ) ( L ) )
simp~( actic.simp \"simp ( actic.optConfig ( L ) ) ( L ) ( L \"only ) ( L \"[ ( L ( P * ) ) \"] ) ( L ) )
dsimp~( actic.dsimp \"dsimp ( actic.optConfig ( L ) ) ( L ) ( L \"only ) ( L \"[ ( L ( P * ) ) \"] ) ( L ) )
simpAt~( actic.simp \"simp ( actic.optConfig ( L ) ) ( L ) ( L \"only ) ( L \"[ ( L ( P + ) ) \"] ) ( L ( T 1 ) ) )
dsimpAt~( actic.dsimp \"dsimp ( actic.optConfig ( L ) ) ( L ) ( L \"only ) ( L \"[ ( L ( P + ) ) \"] ) ( L ( T 1 ) ) )
cases~( actic.cases \"cases ( L ( actic.elimTarget ( L ) * ) ) ( L ) ( L ) )
:=~( erm.namedArgument \"( 1 \":= + \") )
⟨~( erm.anonymousCtor \"⟨ ( L ( C * ) ) \"⟩ )
_~( erm.hole \"_ )
?_~( erm.syntheticHole \"? ( erm.hole \"_ ) )
decide~( actic.decide \"decide ( actic.optConfig ( L ) ) )
omega~( actic.omega \"omega ( actic.optConfig ( L ) ) )
dsimp!~( actic.dsimp \"dsimp ( actic.optConfig ( L ) ) ( L ) ( L \"only ) ( L ) ( L ) )
simp!~( actic.simp \"simp ( actic.optConfig ( L ) ) ( L ) ( L ) ( L ) ( L ) )"
def lnKw:List (List String):=khq " " "assumption Lean.Parser.Tactic.assumption
kernel_rfl! PyProof.Rows.tacticKernel_rfl!
rfl! Lean.Parser.Tactic.tacticRfl
boot_by_name PyProof.Rows.tacticBoot_by_name
constructor Lean.Parser.Tactic.constructor
done Lean.Parser.Tactic.done
is_list PyProof.Rows.tacticIs_list
l_ints PySem.W.tacticL_ints
name_is_builtin PyProof.Rows.tacticName_is_builtin
wrow_close PySem.W.tacticWrow_close
walk1 PyProof.Rows.tacticWalk1"
def lnL (l:List Syntax):Syntax:=.node .none `null l.toArray
def kw7 (c:String) (l:List Syntax):List Syntax:=l.intersperse (lnA c)
def lnSq (l:List Syntax):Syntax:=lnN "actic.tacticSeq" [lnN "actic.tacticSeq1Indented" [lnL (kw7 ";" l)]]
def lnApp:List Syntax->Syntax
 | [a]=>a
 | l=>lnN "erm.app" [l.headD .missing,lnL l.tail]
def kw8 (f:Syntax->Syntax) (l:List Syntax):List Syntax:=l.map f
def kw6 (k:String->List Syntax->List Syntax) (f:String->List Syntax) (s:String):List Syntax :=
 match (s.splitOn " ").foldl (fun st w=>match st with
  | (a,l)::t =>
   if w == "(" then ("", [])::st
   else if w == ")" then match t with
    | (b,m)::t=>(b,m++k a l)::t
    | []=>st
   else if a == "" then (w,l)::t
   else (a,l++f w)::t
  | []=>[]) [(".", [])] with
 | (_,l)::_=>l
 | _=>[]
def lnK (h:String) (a:List Syntax):List Syntax :=
 if h == "L" then [lnL a]
 else if h == "S" then [lnSq a]
 else if h == "A" then [lnApp a]
 else if h == "R" then kw8 (fun x=>lnN "actic.rwRule" [lnL [],x]) a
 else if h == "P" then kw7 "," (kw8 (fun x=>lnN "actic.simpLemma" [lnL [],lnL [],x]) a)
 else if h == "B" then kw8 (fun x=>lnN "!group" [lnA "|", lnSq [x]]) a
 else if h == "C" then kw7 "," a
 else if h == "T" then [lnN "actic.location" [lnA "at", lnN "actic.locationHyp" [lnL a,lnL []]]]
 else [lnN h a]
def lnF (a:List Syntax) (w:String):List Syntax :=
 if w == "*" then a else if w == "1" then a.take 1 else if w == "+" then a.tail else [lnA (w.drop 1).toString]
def lnMk (h:String) (a:List Syntax):List Syntax :=
 match khz h khj with
 | [_,t]=>kw6 lnK (lnF a) t
 | _=>[lnApp (mkIdent h.toName::a)]
def lnWord (sc:Name->Name) (w:String):List Syntax :=
 let c:=w.front
 let i:=mkIdent (sc (w.drop 1).toName)
 if c.isUpper then [mkIdent w.toName] else
 match khz w khj with
 | [_,t]=>kw6 lnK (lnF []) t
 | _=>[if c == '?' then lnN "erm.syntheticHole" [lnA "?", i]
  else if c == '$' then i
  else if c == '\'' then Syntax.mkStrLit (w.drop 1).toString
  else if c.isDigit then Syntax.mkNumLit w
  else if w.startsWith "k_" || w.startsWith "kn_" then lnN ("!PySem.W.tacticK" ++ (w.drop 1).toString) [lnA w]
  else match khz w lnKw with
   | [_,k]=>lnN ("!" ++ k) [lnA w]
   | _=>mkIdent w.toName]
def koj (sc:Name->Name) (s:String):Syntax:=(kw6 lnMk (lnWord sc) s).headD .missing
def lnWays:List (List String):=khq "~" "a~k_asm
m~k_mem
h~assumption
H~( wr assumption )
z~( walk_at 'SZ )
k~kernel_rfl!
i~k_is
r~( exact rfl )
d~decide
u~k_upd
n~k_inst
b~boot_by_name
c~( exact jav.deeper ( jav.le ( by assumption ) ( by decide ) ) )
C~constructor
g~( exact News.get ( by k_asm ) ( by k_mem ) )
G~( exact News.isList ( by k_asm ) ( by k_mem ) )
q~( walk_at 'RF )
Q~( ; ( intro _ ) ( walk_at 'RF ) )
s~( ; ( try ( simp jk0 Array.size_append ) ) ( walk_at 'SZ ) )
t~( ; ( try ( simp jd4 Array.size_append ) ) ( walk_at 'SL ) )
l~( ; ( rw PySem.sizeLine_eq ) ( walk_at 'SZ ) )
v~( first ( walk_at 'SZ ) ( ; ( simp jdk Array.size_append ) ( walk_at 'SZ ) ) )
V~( ; ( simp jdk Array.size_append List.size_toArray List.length_map List.length_cons List.length_nil ) ( walk_at 'SZ ) )
w~( ; ( rw sizeLine_eq ) ( simp List.length_cons List.length_nil ) ( walk_at 'SZ ) )
B~( first assumption ( walk_at 'SZ ) )
D~( first ( exact ( ⟨ _ rfl ) ) ( exact ( ⟨ _ ( by assumption ) ) ) )
X~( exact ( ⟨ _ ( Fr.keep ( by k_asm ) _ _ ( by ( wr assumption ) ) ) rfl 0 rfl ) )
U~( exact ( ⟨ _ ( by assumption ) rfl 0 rfl ) )
N~( exact Or.inl ( ⟨ rfl _ rfl ) )
P~( exact Or.inr ( ⟨ rfl rfl ) )
F~( exact rfl )
e~( exact Fr.keep ( by k_asm ) _ _ ( by assumption ) )
S~( exact Sub.trans' ( by assumption ) ( Fr.keep ( by k_asm ) ) )
y~( first decide ( wr assumption ) )
x~( first ( exact ku_of ( by assumption ) ( by assumption ) ) ( exact ku_of' ( by assumption ) ( by assumption ) ) )
L~is_list
I~l_ints
Z~( ; ( rw PySem.sizeLine_eq ) simp! )
R~( ; simp! done )
M~( ; ( intro $n $e ) ( cases ( List.mem_singleton.mp $e ) ) ( walk_at 'SZ ) )
E~( first ( exact BA.m_byte _ _ ) ( exact BA.m_and _ _ ( by decide ) ) )
o~( ; ( intro $z ) ( cases $z ) )
O~( ; ( intro _ _ _ ) rfl! )"
def lnEnds:List (List String):=khq "~" "1~( try ( k_lt $l1 ) )
2~( try ( k_lt2 $l2 ) )
n~( try ( dsimpAt $N' List.nil_append List.cons_append ) )
N~( try ( dsimpAt $N' ) )
d~( try dsimp! )
s~( try k_sweep )
c~( clear $H' )
A~( try ( simpAt $l1' krj and_true ) )"
def lnPrem (w:String) (p:List String×List String×List String×List String):List String×List String×List String×List String :=
 let (ws,a,b,c):=p
 if w.front == '?' && w != "?_" then
  let n := "h" ++ toString ws.length
  let t := "( case $" ++ n ++ " " ++ ((khz (w.drop 1 |>.take 1).toString lnWays).getD 1 "") ++ " )"
  let ws:=("?" ++ n)::ws
  if w == "?a" then (ws,t::a,b,c) else if w.endsWith "!" then (ws,a,t::b,c) else (ws,a,b,t::c)
 else (w::ws,a,b,c)
def jxx (l:List Char) (c:Char):Bool:=l.elem c
def lnLine (sc:Name->Name) (s:String):Syntax :=
 match s.splitOn "|" with
 | [fl,fits,lem,names] =>
  let f:=fl.toList
  let (ws,a,b,c):=(lem.splitOn " ").foldr lnPrem ([],[],[],[])
  let q := "( refine' " ++ " ".intercalate ws ++ " )"
  let q:=if jxx f 'r' then "( wr " ++ q ++ " )" else q
  let body:=(if jxx f 'R' then "( wr ( ; " else if jxx f 'P' then "( ; ( ; " else "( kd ( ; ") ++ " ".intercalate (q::a++b++c)++(if jxx f 'w' then " k_whole ) )" else " ) )")
  let pre:=if fits == "" then "( ; " else "( ; ( wr ( show wpAny _ _ ( " ++ fits ++ " ) _ _ _ ) ) "
  let post:=if names == "" then "" else " ( intro " ++ names ++ " )"
  koj sc (pre++body++post++String.join (f.map fun c=>match khz (String.singleton c) lnEnds with | [_,e] => " " ++ e | _ => "") ++ " )")
 | _=>koj sc s
def lnBook:String := "A~GO~( repeat' ( first ( ; k_end wrow_close ) ( ; walk1 ( try dsimp! ) ) ( fail 'stop ) ) )
A~LK~( wr ( repeat' ( first ( exact lkH ) ( exact kxx ) ( ; ( show Lk _ _ _ ) assumption ) ( ; ( refine' lkM ?e ?_ ) ( case $e kernel_rfl! ) ) ( ; ( refine' jjq ?e ?_ ) ( case $e kernel_rfl! ) ) ) ) )
A~LKd~( ; ( walk_at 'LK ) done )
A~RF~( first kernel_rfl! ( wu rfl! ) )
A~SL~( first ( walk_at 'SZ ) ( ; ( rw PySem.sizeLine_eq ) ( walk_at 'SZ ) ) )
A~SZ~( first decide ( exact Nat.le_trans ( by ( wr assumption ) ) ( by decide ) ) ( exact Nat.lt_of_le_of_lt ( by ( wr assumption ) ) ( by decide ) ) ( exact Nat.le_trans ( Nat.le_of_eq ( by ( wr assumption ) ) ) ( by decide ) ) ( exact Nat.lt_of_le_of_lt ( Nat.le_of_eq ( by ( wr assumption ) ) ) ( by decide ) ) ( walk_at 'OM ) omega )
B~eval Name~( ; ( name_kind 'local ) ( wr ( first ( refine' ldF ?F ?v ?_ ?a ) ( refine' ldC ?F ?v ?_ ?a ) ) ) ( case $F k_asm ) ( case $v ( first ( walk_at 'LKd ) ( ; ( simp chain je5 String.reduceEq reduceIte ) ( exact rfl ) ) ) ) ( case $a kernel_rfl! ) )
C~getMethod type:int~R||jzv ?a ?a ?a ?_|$x' $h' $F' $N' $l1
C~call ref~D|call ( Value.ref 364 ) _|kd9 ?a ?a ( kfx ?h ( Fr.keep ?a ) ?c ) ?_|$h' $tk' $F' $l' $t1' $t2' $N'
C~subscriptTail~D|subscriptTail _ _ ( Value.ref 355 ) ( Value.bytes _ _ )|js9 ?a ( labs0 ?a ) ?h ?_ ?q|
C~subscriptTail~D|subscriptTail _ _ ( Value.ref 356 ) ( Value.bytes _ _ )|js9 ?a ( labs1 ?a ) ?h ?_ ?q|
C~subscriptTail~D|subscriptTail _ _ ( Value.ref 357 ) ( Value.int 0 _ )|jzx ( := x ( Value.ref 355 ) ) ?a ?a ?d ?d ?r ?_ ?q ?Q|
C~subscriptTail~D|subscriptTail _ _ ( Value.ref 357 ) ( Value.int 1 _ )|jzx ( := x ( Value.ref 356 ) ) ?a ?a ?d ?d ?r ?_ ?q ?Q|
D~call ref~D|call ( Value.ref _ ) ( List.cons ( Value.bytes _ _ ) ( List.cons ( Value.str _ _ ) List.nil ) )|jo5 ?a ?m ?B ?_|$t' $k'
E~call builtin:int.to_bytes~D|call ( Value.builtin 'int.to_bytes ) ( List.cons ( Value.int _ _ ) ( List.cons ( Value.int _ _ ) ( List.cons ( Value.str _ _ ) List.nil ) ) )|jsk ?z ?z ?z ?z ?_|$t' $tk'
F~call builtin:sum~D|call ( Value.builtin 'sum ) ( List.cons ( Value.bytes _ _ ) List.nil )|ke8 ?r ?a ?a ?h ?_|$h' $tk' $t' $F' $N'
F~eval Name~D|eval ( Expr.Name ( ofString 'sum ) _ ) ( compEnvC _ _ _ _ )|kh0 ?a ?a ?a ?i boot_sum ?d ?_ ?r ?r ?r ?r ?d|
G~call builtin:len~D|call ( Value.builtin 'len ) ( List.cons ( Value.ref _ ) List.nil )|kr8 ?a ?m ?z ?_|
H~binaryOp Add bytes bytes~D|binaryOp Operator.Add ( Value.bytes _ _ ) ( Value.bytes _ _ )|KBy.add_bytes ?v ?_|$t' $k'
I~call builtin:list.append~Dw|call ( Value.builtin _ ) ( List.cons ( Value.ref _ ) ( List.cons _ List.nil ) )|append_K ?a ?a ?u ?_ ?l|$h' $F' $N'
J~eval Name~( ; ( name_kind 'local ) ( wr ( first ( refine' ldF ?F ?v ?_ ?a ) ( refine' ldC ?F ?v ?_ ?a ) ( refine' ldX ?F ?v ?_ ?a ) ) ) ( case $F k_asm ) ( case $v ( first ( walk_at 'LKd ) ( ; ( simp chain je5 String.reduceEq reduceIte ) ( exact rfl ) ) ) ) ( case $a kernel_rfl! ) )
K~callWith ref~D||jjj ?a ?H ?D ?_ ?r ?r|
K~And~( ; ( wr ( show And ( FnP _ _ ) _ ) ) ( refine' And.intro ( by ( refine' FnP.of_fr ?F ?h ?d ) ( case $F k_asm ) ( case $h ( wr assumption ) ) ( case $d ( exact rfl ) ) ) ?_ ) ( try ( dsimp List.nil_append List.cons_append ) ) )
L~eval Name~( ; ( name_kind 'free ) ( wr ( ; ( refine' koq ?F ?c ?v ?d ?_ ?k ?x ?b ?n ) ( case $F k_asm ) ( case $c assumption ) ( case $v assumption ) ( case $d assumption ) ( case $k kernel_rfl! ) ( case $x kernel_rfl! ) ( case $b kernel_rfl! ) ( case $n kernel_rfl! ) ) ) )
M~call builtin:len~D|call ( Value.builtin 'len ) ( List.cons ( Value.ref _ ) List.nil )|len_L5 ?a ?m ?z ?_|
M~subscriptTail Name Slice ref ref~D|subscriptTail _ ( Expr.Slice Option.none ( Option.some _ ) Option.none _ ) ( Value.ref _ ) ( Value.ref _ )|slice5 ( := s ( Shared.mk _ _ _ _ _ ) ) ?a ?a ?X ?_ ?q ?Q|$D' $h' $F' $N' $l1
M~subscriptTail Name Constant ref int~D|subscriptTail _ _ ( Value.ref _ ) ( Value.int 5 _ )|item_tuple ( := j 5 ) ?X ?d ?d ?r ?r ?_|
M~compareOp Eq ref ref~D|compareOp CmpOp.Eq ( Value.ref _ ) ( Value.ref _ )|eq5 ( jav.ud ?h ) ?g ?g ?_|
N~spliced~( wr ( ; ( first ( refine' argsF ?F ?X ?_ ) ( refine' argsC ?F ?X ?_ ) ) ( case $F k_asm ) ( case $X ( repeat' ( first ( exact SA.nil ) ( ; ( refine' SA.nm ?v ?k ?_ ) ( case $v ( walk_at 'LKd ) ) ( case $k kernel_rfl! ) ) ( refine' SA.byt ?_ ) ( refine' SA.int ?_ ) ( refine' SA.str ?_ ) ) ) done ) ) )
O~callWith ref~D||jjj ?a ?H ?D ?_ ?r ?r|
P~And~( ; ( wr ( show And ( FnP _ _ ) _ ) ) ( refine' And.intro ( by ( refine' FnP.of_fr ?F ?h ?d ) ( case $F k_asm ) ( case $h ( wr assumption ) ) ( case $d ( first ( exact rfl ) assumption ) ) ) ?_ ) ( try ( dsimp List.nil_append List.cons_append ) ) )
Q~eval Name~( ; ( name_kind 'globalImplicit ) ( wr ( first ( refine' name_K ?F ?X ?T ?e ?_ ?a ?b ?c ) ( refine' nameX_K ?F ?X ?T ?e ?_ ?a ?b ?c ) ) ) ( wr ( ; ( case $F k_asm ) ( case $X k_asm ) ( case $T k_asm ) ( case $e k_is ) ( case $a kernel_rfl! ) ( case $b kernel_rfl! ) ( case $c kernel_rfl! ) ) ) )
R~getMethod ref~Dw||kmu_own ?a ?a ?n! ?i ?i! ?_|
S~compareOp NotIn bytes ref~D||notin3 ?g ?h ?_|
S~getMethod type:int~R1||jzv ?a ?a ?a ?_|$x' $h' $F' $N' $l1
T~call ref~D|call ( Value.ref 69 ) _|jeq ?a ?a ( kex ?h ( Fr.keep ?a ) ?c ( Fr.keep ?a _ _ ?h ) ( Fr.keep ?a _ _ ?h ) ?h ?h ) ?_|$h' $tk' $F' $N' $t'
U~call ref~D|call ( Value.ref _ ) ( List.cons ( Value.str _ _ ) ( List.cons ( Value.bytes _ _ ) ( List.cons ( Value.bytes _ _ ) ( List.cons ( Value.bytes _ _ ) ( List.cons ( Value.bytes _ _ ) ( List.cons ( Value.bytes _ _ ) List.nil ) ) ) ) ) )|kd7 ?a ?a ( kf9 ?h ?S ?c ( jb6.keeps ( jaz.of_sub ( Fr.keep ?a ) ) ?h! ) ( Fr.keep ?a _ _ ?h! ) ?h! ( jbv.keeps ( jaz.of_sub ( Fr.keep ?a ) ) ?h ) ) ?_ ?_|
V~eval Name~( ; ( name_kind 'globalImplicit ) name_is_builtin ( wr ( first ( refine' name_B ?F ?X ?T ?e ?v ?n ?_ ?a ?b ?c ) ( refine' nameX_B ?F ?X ?T ?e ?v ?n ?_ ?a ?b ?c ) ) ) ( wr ( ; ( case $F k_asm ) ( case $X k_asm ) ( case $T k_asm ) ( case $e k_is ) ( case $v boot_by_name ) ( case $n decide ) ( case $a kernel_rfl! ) ( case $b kernel_rfl! ) ( case $c kernel_rfl! ) ) ) )
W~binaryOp BitAnd int int~R||kzq ?h ?_|
W~binaryOp Add int int~R||kzx ?h ?_|
W~binaryOp Sub int int~R||kv4 ?h ?_|
W~call builtin:len~D|call ( Value.builtin 'len ) ( List.cons ( Value.bytes _ _ ) List.nil )|len_is ?h ?z ?_|
W~subscriptTail Name Constant bytes int~( walk_at 'BI )
W~subscriptTail Name BinOp bytes int~( walk_at 'BI )
W~BI~D||jxj ?s ?s ?_ ?q ?Q|
W~BI~Dr||item_by4 ?s ?s ?_ ?q ?Q|
W~BI~Dr||item_by3 ?s ?s ?_ ?q ?Q|
W~BI~Dr||item_by2 ?s ?s ?_ ?q ?Q|
W~BI~Dr||item_by1 ?s ?s ?_ ?q ?Q|
W~BI~Dr||ko1 ?s ?s ?_ ?q ?Q|
W~subscriptTail Name Constant ref int~( walk_at 'RI )
W~subscriptTail Name BinOp ref int~( walk_at 'RI )
W~RI~D||BA.item_baN ?g ?t ?t ?_ ?q ?Q|
W~RI~Dr||BA.item_ba0 ?g ?t ?t ?_ ?q ?Q|
W~getItem ref int~D||BA.getItem_baN ?g ?t ?t ?_|
W~getItem ref int~Dr||BA.getItem_ba0 ?g ?t ?t ?_|
W~setItem ref int~D||BA.setItem_xN ?a ?a ?u ?t ?t ?E ?_|$h' $F' $N'
W~setItem ref int~Dr||BA.setItem_x0 ?a ?a ?u ?t ?t ?E ?_|$h' $F' $N'
W~subscriptTail Name Slice bytes ref~D||kfj ( := s ( Shared.mk _ _ _ _ _ ) ) ?a ?a ?C ?C ?s ?_ ?q ?Q|$h' $t' $k' $F' $N'
W~exec AugAssign Subscript~P||wpAny_AugAssign_Subscript_any ?_ ?O|
W~call type:bytes~D||BA.bytes_ba ?g ?t ?_|
X~call ref~D|call ( Value.ref 111 ) _|jeq ?a ?a ( kx9 ?h ( Fr.keep ?a ) ?c ( jb6.keeps ( jaz.of_sub ( Fr.keep ?a ) ) ?h ) ( Fr.keep ?a _ _ ?h ) ( Fr.keep ?a _ _ ?h ) ?h ?h ?B ) ?_|$h' $tk' $F' $N' $t'
X~SZ~( first decide ( wr assumption ) ( exact Nat.le_trans ( by ( wr assumption ) ) ( by decide ) ) ( exact Nat.lt_of_le_of_lt ( by ( wr assumption ) ) ( by decide ) ) ( exact Nat.le_trans ( Nat.le_of_eq ( by ( wr assumption ) ) ) ( by decide ) ) ( exact Nat.lt_of_le_of_lt ( Nat.le_of_eq ( by ( wr assumption ) ) ) ( by decide ) ) ( ; ( try ( simp Array.size_append ) ) ( wr assumption ) ) ( walk_at 'OM ) omega )
Y~compareOp Gt int int~R||gt_f ?h ?_|
Y~binaryOp LShift int int~R||lshift_int_small ?d ?d ?h ?_|
Y~subscriptTail Name Slice ref ref~D||BA.slice_ba ( := s ( Shared.mk _ _ _ _ _ ) ) ?a ?a ?m ?l ?_ ?q ?Q|$D' $h' $F' $N' $l1'
Z~call ref~D|call ( Value.ref 167 ) _|jeq ?a ?a ( csh ?h ( Fr.keep ?a ) ?c ) ?_|$h' $tk' $F' $N' $t'
!~call ref~D|call ( Value.ref 174 ) _|jeq ?a ?a ( hkdf ( := lab 2 ) ?h ( Fr.keep ?a ) ?c ( jb6.keeps ( jaz.of_sub ( Fr.keep ?a ) ) ?h ) ?h ?h ?d ?d ?d ?r ) ?_|$h' $tk' $F' $N' $t'
!~call ref~D|call ( Value.ref 174 ) _|jeq ?a ?a ( hkdf ( := lab 1 ) ?h ( Fr.keep ?a ) ?c ( jb6.keeps ( jaz.of_sub ( Fr.keep ?a ) ) ?h ) ?h ?h ?d ?d ?d ?r ) ?_|$h' $tk' $F' $N' $t'
!~call ref~D|call ( Value.ref 174 ) _|jeq ?a ?a ( hkdf ( := lab 0 ) ?h ( Fr.keep ?a ) ?c ( jb6.keeps ( jaz.of_sub ( Fr.keep ?a ) ) ?h ) ?h ?h ?d ?d ?d ?r ) ?_|$h' $tk' $F' $N' $t'
a~callWith ref~D|callWith _ ( Value.ref _ ) _ ( backTo _ ( starEach ( List.cons _ _ ) _ ) ) List.nil|jjj ?a ?H ?D ?_ ?r ?r|
a~assign Tuple~Ds|assign ( Expr.Tuple _ _ _ ) _ ( Value.ref _ )|unpackN_ ?a ?a ?X ?r ?r ?r ?_|$h' $F' $N'
a~callWith ref~R|callWith _ ( Value.ref _ ) _ ( backTo _ ( starEach ( List.cons _ _ ) _ ) ) ( backToKw _ ( keywordEach ( List.cons _ _ ) _ ) )|callWith_KW ?a ?i ?k ?_ ?k ?k|
a~callWith ref~R|callWith _ ( Value.ref _ ) _ ( backTo _ ( starEach List.nil _ ) ) ( backToKw _ ( keywordEach ( List.cons _ _ ) _ ) )|callWith_KW0 ?a ?i ?k ?_ ?k|
b~callWith~R|callWith _ ( Value.builtin _ ) ( List.cons _ _ ) ( backTo _ ( starEach ( List.cons _ _ ) _ ) ) List.nil|callWith_method1 ?_ ?k ?k|
b~callWith~R|callWith _ ( Value.builtin _ ) List.nil ( backTo _ ( starEach ( List.cons _ _ ) _ ) ) List.nil|PyProof.Rows.callWith_builtin1 ?_ ?k ?k|
b~callWith ref~R|callWith _ ( Value.ref _ ) _ ( backTo _ ( starEach ( List.cons _ _ ) _ ) ) List.nil|callWith_K ?a ?i ?_ ?k ?k|
c~call ref~DA|call ( Value.ref 204 ) _ _|kd8 ?a ?a ( kpx ?h ( Fr.keep ?a ) ?c ( jb6.keeps ( jaz.of_sub ( Fr.keep ?a ) ) ?h ) ?h ?h ) ?_|$h' $tk' $F' $l' $t1' $t2' $t3' $l1' $N'
c~call ref~D12|call ( Value.ref 72 ) _ _|kg7 ?h ?c ?a ?a ( kmq _ ) ( jdk _ _ ) ?h ?_|$x' $d' $T' $u' $h' $tk' $F' $N' $l1 $l2
c~call ref~D12|call ( Value.ref 114 ) _ _|kw4 ?h ?c ?a ?a ( kyx _ ) ?_|$x' $d' $T' $h' $tk' $F' $N' $l1 $l2
c~subscriptTail Name Name ref int~D|subscriptTail _ _ ( Value.ref 175 ) ( Value.int _ _ )|jwj ?a ?a ?h ?_ ?q|$tp' $u1' $u2' $htp'
d~call ref~D12|call ( Value.ref 257 ) _ _|kg6 ?h ?c ?a ?a ?_|$x' $d' $T' $h' $tk' $F' $N' $l1 $l2 $q1 $q2
d~call ref~D|call ( Value.ref 174 ) _|jeq ?a ?a ( kyj ?h ( Fr.keep ?a ) ?c ( jb6.keeps ( jaz.of_sub ( Fr.keep ?a ) ) ?h ) ?h ?h ?x ) ?_|$h' $tk' $F' $N' $t'
e~call ref~D|call ( Value.ref 240 ) _|jk7 ?a ?a ( jj8 ( := b true ) ?h ( Fr.keep ?a ) ?c ( Fr.keep ?a _ _ ?h ) ( Fr.keep ?a _ _ ?h ) ?N ) ?_|$h' $tk' $F' $N'
f~call ref~D|call ( Value.ref 139 ) _|jeq ?a ?a ( klj ?h ( Fr.keep ?a ) ?c ?z ?z ) ?_|$h' $tk' $F' $N' $t'
f~call ref~D|call ( Value.ref 146 ) _|jk7 ?a ?a ( kx4 ?h ( Fr.keep ?a ) ?c ) ?_|$h' $tk' $F' $N'
f~compareOp IsNot ref ref~D|compareOp _ ( Value.ref _ ) ( Value.ref _ )|wpAny_isNot_ref_other ?h ?g ?e ?o ?_|
g~call ref~D|call ( Value.ref 240 ) _|jk7 ?a ?a ( jj8 ( := b false ) ?h ( Fr.keep ?a ) ?c ( Fr.keep ?a _ _ ?h ) ( Fr.keep ?a _ _ ?h ) ?P ) ?_|$h' $tk' $F' $N'
h~call ref~D12|call ( Value.ref 257 ) _ _|kg5 ?h ?c ?a ?a ?_|$x' $d' $T' $h' $tk' $F' $N' $l1 $l2 $q1 $q2
j~call ref~D12|call ( Value.ref 343 ) _ _|kc8 ?h ?c ?a ?a ?_|$x' $d' $o' $r' $dr' $c' $dc' $h' $tk' $F' $N' $l1 $l2 $q1 $q2 $sb' $e' $pi' $z1 $z2 $z3 $z4 $y1 $y2 $y3 $y4
i~eval Lambda~( ; ( kd ( ; ( refine' kla_eval ?d0 ?_ ) ( case $d0 ( exact rfl ) ) ) ) ( first ( ; ( kd ( ; ( refine' kla_nest ?F ?N ?T ?C ?cd ?U ?t ?n ?cl ?_ ) ( case $F k_asm ) ( case $N k_asm ) ( case $T assumption ) ( case $cd ( exact rfl ) ) ( case $C assumption ) ( case $U k_updF ) ( case $t kn_triples ) ( case $n kn_among ) ( case $cl ( exact rfl ) ) ) ) ( intro $f' $c' $oc' $vs' $t' $ct' $h' $tk' $F' $N' $d1' $d2' $l1 $l2 ) ( try ( dsimpAt $N' ) ) ( try ( k_lt $l1 ) ) ( try ( k_lt2 $l2 ) ) ) ( ; ( kd ( ; ( refine' kla_hit ?F ?N ?T ?C ?cd ?mem ?t ?n ?cl ?_ ) ( case $F k_asm ) ( case $N k_asm ) ( case $T assumption ) ( case $cd ( exact rfl ) ) ( case $C assumption ) ( case $mem k_mem ) ( case $t kn_triples ) ( case $n kn_hit ) ( case $cl ( exact rfl ) ) ) ) ( intro $f' $ct' $h' $tk' $F' $N' $l1 ) ( try ( dsimpAt $N' ) ) ( try ( k_lt $l1 ) ) ) ) )
k~eval Lambda~( ; ( kd ( ; ( refine' kla_eval ?d0 ?_ ) ( case $d0 ( exact rfl ) ) ) ) ( kd ( ; ( refine' kla_hit ?F ?N ?T ?C ?cd ?mem ?t ?n ?cl ?_ ) ( case $F k_asm ) ( case $N k_asm ) ( case $T assumption ) ( case $cd ( exact rfl ) ) ( case $C assumption ) ( case $mem k_mem ) ( case $t ( exact of_eq_true ( jvk.t ( by assumption ) ) ) ) ( case $n ( first ( wr ( exact jvk.h0 ( by assumption ) _ _ ) ) ( wr ( exact jvk.h1 ( by assumption ) _ _ ) ) ( wr ( exact jvk.h2 ( by assumption ) _ _ ) ) ( wr ( exact jvk.h3 ( by assumption ) _ _ ) ) ( wr ( exact jvk.h4 ( by assumption ) _ _ ) ) ) ) ( case $cl ( exact rfl ) ) ) ) ( intro $f' $ct' $h' $tk' $F' $N' $l1 ) ( try ( dsimpAt $N' ) ) ( try ( k_lt $l1 ) ) )
l~call ref~D|call ( Value.ref 354 ) _|jx1 ?a ?a ( jwv ?h ( Fr.keep ?a ) ?c ) ?_|$h' $tk' $F' $l' $t1' $t2' $t3' $N'
l~subscriptTail~D||kdz ?a ?m ?h ?_ ?q|$t'
l~subscriptTail~D|subscriptTail _ _ ( Value.ref _ ) ( Value.int ( Int.fmod _ 3 ) _ )|kdx ?a ?m ?_ ?q|$t'
l~binaryOp Mult bytes int~D||kw2 ?_|$c' $t' $k' $hc'
l~call type:bytes~D|call ( Value.type 'bytes ) ( List.cons ( Value.ref _ ) List.nil )|bytes_K ?a ?a ?L ?I ?R ?Z ?r ?_|$h' $t' $k' $F' $N' $hb'
m~subscriptTail~D|subscriptTail _ _ ( Value.ref _ ) ( Value.int ( Nat.cast _ ) _ )|ko0 ?a ?m ?h ?_ ?q|
n~call type:range~Pd|call ( Value.type 'range ) ( List.cons ( Value.int _ _ ) List.nil )|jmj ( := n 2 ) ?d ?_|$it' $h' $tk' $hi' $hk' $hn'
o~call type:range~Pd|call ( Value.type 'range ) ( List.cons ( Value.int _ _ ) List.nil )|jmj ( := n 2 ) ?d ?_|$it' $h' $tk' $hi' $hk' $hn' $hz'
p~subscriptTail~D|subscriptTail _ _ ( Value.ref _ ) ( Value.int ( Nat.cast _ ) _ )|kiq ?a ?h ?h ?_ ?q|
p~compareOp NotEq ref ref~D||kn8 ?a ?h ?h ?h ?h ?_|
p~getAttr ref~Dc|getAttr ( Value.ref _ ) ( ofString 'key_phase ) _|kc0 ?a ?a ?h ?h ?h ?_|$t' $h' $tk' $F' $N' $H'
q~binaryOp Mod int int~Pd|binaryOp Operator.Mod ( Value.int _ _ ) ( Value.int _ _ )|kr5 ?d ?H ?_|
r~setItem ref int~Dn|setItem ( Value.ref _ ) ( Value.int ( Nat.cast _ ) _ ) _|kv6 ?a ?a ?h ?u ?_|$h' $F' $N'
s~binaryOp Mod int int~Pd|binaryOp Operator.Mod ( Value.int _ _ ) ( Value.int _ _ )|kr5 ?y ?H ?_|
s~call type:bytes~D|call ( Value.type 'bytes ) ( List.cons ( Value.ref _ ) List.nil )|bytes_K ?a ?a ?L ?I ?M ?Z ?r ?_|$h' $t' $k' $F' $N' $hb'
s~binaryOp Add bytes bytes~D|binaryOp Operator.Add ( Value.bytes _ _ ) ( Value.bytes _ _ )|KBy.add_bytes ?V ?_|$t' $k'
t~binaryOp Pow int int~Pd|binaryOp Operator.Pow ( Value.int _ _ ) ( Value.int ( Nat.cast _ ) _ )|kwx ?H ?_|
t~call builtin:int.to_bytes~Pd|call ( Value.builtin 'int.to_bytes ) ( List.cons ( Value.int ( Nat.cast _ ) _ ) ( List.cons ( Value.int ( Nat.cast _ ) _ ) ( List.cons ( Value.str _ _ ) List.nil ) ) )|jlk ?z ?H ?_|$t' $tk'
t~getAttr ref~Dc|getAttr ( Value.ref _ ) ( ofString 'key_phase ) _|jw7 ?a ?a ?h ?h ?h ?_|$t' $h' $tk' $F' $N' $H'
u~binaryOp Add ref ref~D1s|binaryOp _ ( Value.ref _ ) ( Value.ref _ )|kmk_add_lit ?a ?a ?G ?G ?r ?_ ?w|$D' $h' $F' $N' $l1
v~call builtin:list.append~Dn|call ( Value.builtin _ ) ( List.cons ( Value.ref _ ) ( List.cons _ List.nil ) )|keq ?a ?a ?u ?H ?_|$h' $F' $N'
w~call builtin:len~D|call ( Value.builtin 'len ) ( List.cons ( Value.ref _ ) List.nil )|kr8 ?a ?m ?H ?_|
x~subscriptTail~D|subscriptTail _ _ ( Value.ref _ ) ( Value.int ( Nat.cast _ ) _ )|ko2 ?a ?m ?H ?H ?_ ?q|
x~assign Tuple~Dd|assign ( Expr.Tuple _ _ _ ) _ ( Value.ref _ )|unpackN_ ?a ?a ?U ?r ?r ?r ?_|$h' $F' $N'
x~subscriptTail Name Name bytes int~D||jxj ?z ?z ?_ ?q ?Q|
x~subscriptTail Name Slice bytes ref~D||kfj ( := s ( Shared.mk _ _ _ _ _ ) ) ?a ?a ?C ?C ?z ?_ ?q ?Q|$h' $t' $k' $F' $N'
x~binaryOp BitXor int int~R||xor_int ?_|
y~compareOp NotEq ref ref~D||kw1 ?a ?m ?m ?h ?_|
z~compareOp NotEq ref ref~D||kg3 ?h ?h ?h ?h ?_|
z~call type:bytes~Pd|call ( Value.type 'bytes ) ( List.cons ( Value.int _ _ ) List.nil )|jo6 ?d ?d ?_|$t' $k'
A~NO~( first ( walk_at 'NE ) ( walk_at 'OM ) omega )
A~LN~( ; ( try dsimp! ) ( repeat' ( first ( exact lkN0 ) ( ; ( refine' lkCNn ?e ?_ ) ( case $e kernel_rfl! ) ) ( ; ( refine' lkNn ?e ?_ ) ( case $e kernel_rfl! ) ) ) ) )
A~k_ne~( first assumption ( ; ( refine' neN ?_ ) ( try dsimp! ) ( first ( walk_at 'NE ) ( walk_at 'OM ) omega ) ) )
@~k_ne~assumption
J~k_inst~( first ( ; ( refine' InstAt.of_fr ?F ?h1 ?h2 ) ( case $F k_asm ) ( case $h1 ( wr assumption ) ) ( case $h2 ( wr assumption ) ) ) ( ; ( refine' InstAt.of_frN ?F ?N ?h1 ?h2 ) ( case $F k_asm ) ( case $N k_asm ) ( case $h1 ( wr assumption ) ) ( case $h2 k_mem ) ) )
^~k_inst~( ; ( refine' InstAt.of_raw ?h1 ?h2 ) ( case $h1 assumption ) ( case $h2 assumption ) )
%~k_all~assumption
&~k_all~( first assumption ( exact List.forall_mem_nil _ ) ( ; ( refine' List.forall_mem_cons.mpr ( ⟨ ?a ?b ) ) ( case $a k_ne ) ( case $b k_all ) ) )"
def kw9:List (List String):=khq "~" lnBook
def jm1 (k:Nat) (s:String):String:=k.repeat (fun s => "( And.right " ++ s ++ " )") s
def kov (k n:Nat) (f:Nat->String):String:=String.join ((List.range' k n).map f)
def lnNE:String :=
 let both:=fun s => "( exact Nat.ne_of_gt " ++ s ++ " ) ( exact Nat.ne_of_lt " ++ s ++ " ) "
 let rep := "( repeat ( first assumption ( refine' Nat.lt_trans ( by assumption ) ?_ ) ) ) done ) "
 "( wr ( first ( ; ( refine' Nat.ne_of_lt ?_ ) " ++ rep ++ "( ; ( refine' Nat.ne_of_gt ?_ ) " ++ rep++kov 0 14 (fun k=>both ("( And.left " ++ jm1 k "( by assumption )" ++ " )"))++kov 1 5 (fun k=>both (jm1 k "( by assumption )")) ++ ") )"
def lnNE2:String :=
 "( wr ( first ( exact Nat.ne_of_gt ( Nat.lt_add_right _ ( by assumption ) ) ) " ++ kov 6 8 (fun k => "( exact Nat.ne_of_gt " ++ jm1 k "( by assumption )" ++ " ) ")++kov 0 14 (fun k => "( exact Nat.ne_of_gt ( ltT2 ( by assumption ) " ++ jm1 k "( by assumption )" ++ " ) ) ") ++ ") )"
def jo2 (gs k:String):MacroM Syntax:=do
 let c ← read
 let sc:=fun n=>addMacroScope c.quotContext n c.currMacroScope
 let g:=gs.toList
 if k == "NE" then return koj sc (if jxx g 'i' then lnNE2 else lnNE)
 match kw9.foldl (fun l s=>match s with
   | [a,b,s]=>if b==k&&jxx g a.front then lnLine sc s::l else l
   | _=>l) [] with
 | []=>Macro.throwUnsupported
 | [t]=>return t
 | l=>return (lnMk "first" l).headD .missing
def khx (a b s:String):String:=b.intercalate (s.splitOn a)
def lnOm (pre s last:String):MacroM Syntax:=do
 let c ← read
 let a := "( by ( wr assumption ) )"
 let l:=(s.splitOn ";").map fun e=>if jxx e.toList '*' then " ) ( exact ".intercalate [khx "*" "@" e,khx "*" "( And.left @ )" e,khx "*" "( And.right @ )" e] else e
 return koj (fun n=>addMacroScope c.quotContext n c.currMacroScope) ("( first ( wr ( first " ++ pre ++ "( exact " ++ khx "^" "( by decide )" (khx "@" a (" ) ( exact ".intercalate l)) ++ " ) ) ) " ++ last ++ " )")
def jex (gs:String) (s:Syntax):MacroM Syntax:=jo2 gs (s[1].isStrLit?.getD "")
end
end
section
theorem oI1 {i:Int}:0+i*1=i:=(Int.zero_add _).trans (Int.mul_one _)
theorem oM2 {t:Nat}:((t % 2:Nat):Int)=0∨((t % 2:Nat):Int)=1:=(Nat.mod_two_eq_zero_or_one t).imp (fun e=>congrArg _ e) (fun e=>congrArg _ e)
theorem oNe {a b:Nat} (h:¬ a=b):(a:Int)≠b:=fun e=>h (Int.ofNat.inj e)
theorem oEq {a b:Nat} (h:(a:Int)=b):a=b:=Int.ofNat.inj h
theorem oAb {a b:Nat} {P:Prop} (h:((a:Nat):Int)≠(b:Int)) (e:a=b):P:=absurd (congrArg _ e) h
theorem oD1 {a n r:Nat} (h:a+(n+1)<r):a+1+n<r:=by rwa [Nat.add_assoc,Nat.add_comm 1]
theorem oD2 {a n r:Nat} (h:a+8*(n+1)<r):a+1+8*n<r:=Nat.lt_of_le_of_lt (by rw [Nat.mul_add,Nat.add_assoc,Nat.add_comm 1];exact Nat.add_le_add_left (Nat.add_le_add_left (by decide) _) _) h
theorem oD3 {a n r:Nat} (h:a+8*(n+1)<r):a+3+8*n<r:=Nat.lt_of_le_of_lt (by rw [Nat.mul_add,Nat.add_assoc,Nat.add_comm 3];exact Nat.add_le_add_left (Nat.add_le_add_left (by decide) _) _) h
theorem oD4 {a n r:Nat} (h:a+(n+1)<r):a+n<r:=Nat.lt_of_succ_lt h
theorem oD5 {a n r:Nat} (h:a+n<r):a<r:=Nat.lt_of_le_of_lt (Nat.le_add_right _ _) h
theorem oD6 {a d n r:Nat} (h:a+n<r) (k:d≤n):a+d<r:=Nat.lt_of_le_of_lt (Nat.add_le_add_left k _) h
theorem oT {a:Nat} (h:2≤a) (k:a≤4):a=2∨a=3∨a=4:=match a,h,k with | 2,_,_=>.inl rfl | 3,_,_=>.inr (.inl rfl) | 4,_,_=>.inr (.inr rfl)
theorem oN1 {n m:Nat} (h:n<m) (d:((4*m+1:Nat):Int)≤2 ^ 64):(0:Int)≤((4*n+1:Nat):Int)∧((4*n+1:Nat):Int)<2 ^ 64:=⟨Int.natCast_nonneg _,Int.lt_of_lt_of_le (Int.ofNat_lt.mpr (Nat.add_lt_add_right (Nat.mul_lt_mul_of_pos_left h (by decide)) 1)) d⟩
theorem oN2 {n m:Nat} (h:n+1<m) (d:((4*m+1:Nat):Int)≤2 ^ 64):(0:Int)≤((4*n+1:Nat):Int)∧((4*n+1:Nat):Int)<2 ^ 64:=oN1 (Nat.lt_of_succ_lt h) d
theorem oL {a b c d:Nat} (h:a≤b+c) (k:c≤d):a≤b+d:=Nat.le_trans h (Nat.add_le_add_left k _)
theorem oL2 {a b c d:Nat} (h:a≤b+2*c) (k:c≤d):a≤b+2*d:=Nat.le_trans h (Nat.add_le_add_left (Nat.mul_le_mul_left _ k) _)
theorem oS {a b c:Nat} (e:a=b) (h:b≤c):a≤c:=e▸h
theorem o1m {x:Nat} (h:x<2):1-x<2:=Nat.lt_of_le_of_lt (Nat.sub_le _ _) (by decide)
theorem o1c {x:Nat} (h:x<2):(1:Int)-(x:Int)=((1-x:Nat):Int):=(Int.ofNat_sub (Nat.le_of_lt_succ h)).symm
theorem o1s {x:Nat} (h:x<2):1-(1-x)=x:=Nat.sub_sub_self (Nat.le_of_lt_succ h)
theorem oP {a:Nat} (h:1≤a):(0:Int)<(a:Int):=Int.ofNat_lt.mpr h
theorem oP' {a:Nat} (h:0<a):(a:Int)≠0:=Int.ne_of_gt (Int.ofNat_lt.mpr h)
theorem oG {a b:Nat} (h:a≤b) (k:¬ a<b):a=b:=Nat.le_antisymm h (Nat.le_of_not_lt k)
theorem oK {a b k:Nat} (h:a≤k) (d:k+b≤c):a+b≤c:=Nat.le_trans (Nat.add_le_add_right h _) d
theorem oK' {a b k:Nat} (h:a≤k) (d:b+k≤c):b+a≤c:=Nat.le_trans (Nat.add_le_add_left h _) d
theorem oK2 {a b k:Nat} (h:a<k) (d:4*k+b≤c):4*a+b<c:=Nat.lt_of_lt_of_le (Nat.add_lt_add_right (Nat.mul_lt_mul_of_pos_left h (by decide)) _) d
section
open Lean
def lnO:MacroM Syntax:=lnOm "assumption " "Int.natCast_nonneg _;oI1;Int.sub_zero _;oM2;Nat.le_refl _;Nat.lt_succ_self _;Nat.lt_irrefl _;Nat.le_succ _;jyq *;Nat.le_trans * ^;Nat.lt_of_le_of_lt * ^;Nat.lt_of_lt_of_le * ^;cLt * ^;cLe * ^;cNon ^;iLt * ^;iLtE * ^;iLe * ^;iGe * ^;inN @ ^ ^;And.intro ( And.left @ ) ( iLt ( And.right @ ) ^ );oN1 * ^;oN2 * ^;Eq.symm ( Int.toNat_of_nonneg @ );Int.toNat_of_nonneg ( And.left @ );oNe *;oEq *;oD1 *;oD2 *;oD3 *;oD4 *;oD5 *;oD6 @ @;oT @ @;oL @ @;oL2 @ @;Nat.le_trans @ @;oS @ @;Nat.le_of_lt @;Nat.lt_of_succ_lt @;Nat.le_of_succ_le @;Nat.ne_of_gt @;Nat.ne_of_gt ( Nat.lt_of_succ_lt @ );Nat.le_of_not_lt @;Nat.le_of_not_gt @;o1m @;o1c @;o1s @;oP @;oP' @;oG @ @;oK @ ^;oK' @ ^;oK2 @ ^;Int.ofNat_lt.mpr @;Int.ofNat_le.mpr @;Nat.lt_trans @ @;Nat.ne_of_lt ( Nat.lt_trans @ @ );Nat.ne_of_gt ( Nat.lt_trans @ @ );Nat.le_trans ( Nat.le_of_eq @ ) ( Nat.le_trans @ ^ );Nat.lt_of_le_of_lt ( Nat.le_of_eq @ ) ( Nat.lt_of_le_of_lt @ ^ );Nat.lt_of_le_of_lt ( Nat.le_of_eq @ ) ( Nat.lt_of_lt_of_le @ ^ );Nat.le_trans ( Nat.le_of_eq @ ) @;Nat.lt_of_le_of_lt ( Nat.le_of_eq @ ) @;Nat.le_trans ( Nat.le_of_eq ( Eq.symm @ ) ) ( Nat.le_trans @ ^ );Nat.lt_of_le_of_lt ( Nat.le_of_eq ( Eq.symm @ ) ) ( Nat.lt_of_le_of_lt @ ^ );Nat.lt_of_le_of_lt ( Nat.le_of_eq ( Eq.symm @ ) ) ( Nat.lt_of_lt_of_le @ ^ );Nat.le_trans ( Nat.le_of_eq ( Eq.symm @ ) ) @;Nat.lt_of_le_of_lt ( Nat.le_of_eq ( Eq.symm @ ) ) @;absurd @ @;oAb @ @" "omega"
end
end
section
theorem oH0 (t k:Nat):(64+4*t+k) % 4=k % 4:=by rw [show 64+4*t+k=4*(16+t)+k from by rw [Nat.mul_add],Nat.mul_add_mod]
theorem oH1 {t L:Nat} (h:2≤L) (k:L≤4):(64+4*t+L-1) % 4+1=L:=by
 rcases oT h k with rfl | rfl | rfl
 ·exact congrArg (· + 1) (oH0 t 1)
 ·exact congrArg (· + 1) (oH0 t 2)
 ·exact congrArg (· + 1) (oH0 t 3)
theorem oH2 {t L:Nat} (h:t≤1) (k:L≤4):64+4*t+L-1≤71:=Nat.sub_le_sub_right (Nat.add_le_add (Nat.add_le_add_left (Nat.mul_le_mul_left 4 h) 64) k) 1
theorem oH3 {t L:Nat} (k:L≤4):64+4*(t % 2)+L-1<128:=Nat.lt_of_le_of_lt (oH2 (Nat.le_of_lt_succ (Nat.mod_lt t (by decide))) k) (by decide)
theorem oH4 {x L:Nat} (h:x<2) (k:L≤4):(0:Int)≤64+4*(x:Int)+(L:Int)-1∧64+4*(x:Int)+(L:Int)-1<256:=by
 have e:64+4*(x:Int)+(L:Int)-1=((64+4*x+L-1:Nat):Int):=(Int.ofNat_sub (Nat.le_trans (by decide:1≤64) (Nat.le_trans (Nat.le_add_right 64 _) (Nat.le_add_right _ _)))).symm
 rw [e]
 exact ⟨Int.natCast_nonneg _,Int.ofNat_lt.mpr (Nat.lt_of_le_of_lt (oH2 (Nat.le_of_lt_succ h) k) (by decide))⟩
theorem oH5 {x L:Nat} (k:L≤4):(0:Int)≤64+4*((x % 2:Nat):Int)+(L:Int)-1∧64+4*((x % 2:Nat):Int)+(L:Int)-1<256:=oH4 (Nat.mod_lt x (by decide)) k
theorem oA1 {i:Nat} (h:i<2):(1000+5000*(1-(i:Int))).toNat=1000+5000*(1-i):=by rw [o1c h];rfl
theorem oA2 {i:Nat}:(1000+5000*(i:Int)).toNat=1000+5000*i:=rfl
theorem oA4 {i:Nat} (h:i<2):(1000+5000*(i:Int)).toNat<2 ^ 50:=by
 rw [oA2];exact Nat.lt_of_le_of_lt (Nat.add_le_add_left (Nat.mul_le_mul_left 5000 (Nat.le_of_lt_succ h)) 1000) (by decide)
theorem oA3 {i:Nat} (h:i<2):(1000+5000*(1-(i:Int))).toNat<2 ^ 50:=by
 rw [oA1 h];exact Nat.lt_of_le_of_lt (Nat.add_le_add_left (Nat.mul_le_mul_left 5000 (Nat.sub_le 1 i)) 1000) (by decide)
theorem oB1 {L lo:Nat} (h:L≤4) (e:4-L=lo):(4:Int)-(L:Int)=(lo:Int):=e▸(Int.ofNat_sub h).symm
theorem oB2 {L lo hi:Nat} (h:L≤4) (e:(4:Int)-(L:Int)=(lo:Int)) (e2:20-L=hi):(lo:Int)+16=(hi:Int):=by
 rw [← e,← e2,Int.ofNat_sub (Nat.le_trans h (by decide)),Int.sub_eq_add_neg,Int.sub_eq_add_neg,Int.add_right_comm];rfl
theorem oC {i j:Nat} (h:i<2) (k:j<2) (n:i≠j):(i=0∧j=1)∨(i=1∧j=0) :=
 (jyq h).elim (fun e=>(jyq k).elim (fun f=>absurd (e.trans f.symm) n) fun f=>.inl ⟨e,f⟩) fun e=>(jyq k).elim (fun f=>.inr ⟨e,f⟩) fun f=>absurd (e.trans f.symm) n
theorem oM3 {t:Nat}:(1:Int)-((t % 2:Nat):Int)=(((t+1) % 2:Nat):Int):=by
 rw [Nat.add_mod];rcases Nat.mod_two_eq_zero_or_one t with e | e <;> rw [e] <;> rfl
theorem oM4 {t:Nat} (e:t % 2=0):(t+1) % 2=1:=by rw [Nat.add_mod,e]
theorem oM5 {t:Nat} (e:t % 2=1):(t+1) % 2=0:=by rw [Nat.add_mod,e]
theorem oM6 {t:Nat} (h:(((t+1) % 2:Nat):Int)≠((t:Int)+1) % 2):False:=h rfl
theorem oM7 {t:Nat} (h:(((t+0) % 2:Nat):Int)≠((t:Int)+0) % 2):False:=h (by rw [Int.add_zero];rfl)
theorem oM8 {t:Nat}:(t:Int) % 2=((t % 2:Nat):Int):=rfl
theorem oF1 {k n:Nat} (h:k≤n):(max 0 (min (k:Int) (n:Int))).toNat=k:=by rw [Int.min_eq_left (Int.ofNat_le.mpr h),Int.max_eq_right (Int.natCast_nonneg k)];rfl
theorem oF2 {lo n b:Nat} (h:lo+n≤b):min n (b-lo)=n:=Nat.min_eq_left (Nat.le_sub_of_add_le' h)
theorem oG1 {n:Nat}:((n:Int)+2-1) / 2=(((n+1) / 2:Nat):Int):=by rw [Int.add_sub_assoc];rfl
theorem oI2 {f j:Nat} (h:f<2) (e:1-f=j):f=1-j:=e▸(o1s h).symm
theorem oJ {n l:Nat}:(4*(n:Int)+(l:Int)).toNat=4*n+l:=rfl
theorem oK3 {L:Nat} (h:L≤4):20-4=20-L-(4-L):=(Nat.sub_sub_sub_cancel_right h).symm
theorem oN3 {a L:Nat} (e:a % 4+1=L):L≤4:=e▸Nat.mod_lt a (by decide)
theorem oN4 {a L:Nat} (e:a % 4+1=L):(L:Int)*8≤64:=Int.le_trans (Int.mul_le_mul_of_nonneg_right (Int.ofNat_le.mpr (oN3 e)) (by decide)) (by decide)
theorem oN6 {L:Nat}:(0:Int)≤(L:Int)*8:=Int.mul_nonneg (Int.natCast_nonneg _) (by decide)
theorem oP1 {x:Int} (h:0≤x∧x<6):x.toNat≤5:=Int.toNat_le.mpr (Int.le_of_lt_add_one (b:=5) h.2)
theorem oP2 {x y:Int} (h:0≤y∧y<2) (e:x=y):x=0∨x=1:=by
 subst e;rcases Int.lt_or_eq_of_le (Int.le_of_lt_add_one (b:=1) h.2) with q | q
 ·exact .inl (Int.le_antisymm (Int.le_of_lt_add_one (b:=0) q) h.1)
 ·exact .inr q
theorem oP5 {y:Int} (h:0≤y∧y<2):y=0∨y=1:=oP2 h rfl
theorem oP6 {y:Int} (h:0≤y∧y<3):y=0∨y=1∨y=2:=(Int.lt_or_eq_of_le (Int.le_of_lt_add_one (b:=2) h.2)).elim (fun q=>(oP5 ⟨h.1,q⟩).imp id Or.inl) fun q=>.inr (.inr q)
theorem oP3 {L:Nat} {y:Int} (h:0≤y∧y<3) (e:(L:Int)=2+y):2≤L:=Int.ofNat_le.mp (e▸Int.le_add_of_nonneg_right h.1)
theorem oP4 {L:Nat} {y:Int} (h:0≤y∧y<3) (e:(L:Int)=2+y):L≤4:=Int.ofNat_le.mp (Int.le_trans (Int.le_of_eq e) (Int.add_le_add_left (Int.le_of_lt_add_one (b:=2) h.2) 2))
theorem oP7 {y:Int} (h:0≤y∧y<3):((2+y).toNat:Int)=2+y:=Int.toNat_of_nonneg (Int.add_nonneg (by decide) h.1)
theorem oQ1 {k p:Nat} (h:k<p):k+1+(p-(k+1))=p:=Nat.add_sub_of_le h
theorem oQ2 {k q:Nat} (h:¬ q<k+1):k+1+(q-(k+1))=q:=Nat.add_sub_of_le (Nat.le_of_not_lt h)
theorem oQ3 {k q:Nat} (n:q≠k) (h:q<k+1):q<k:=Nat.lt_of_le_of_ne (Nat.le_of_lt_succ h) n
theorem oQ4 {k q p:Nat} (n:¬ q<k+1) (h:q<p):q-(k+1)<p-(k+1):=Nat.sub_lt_sub_right (Nat.le_of_not_lt n) h
theorem oQ5 {k q p:Nat} (h:¬ q<p):¬ q-k<p-k:=Nat.not_lt_of_le (Nat.sub_le_sub_right (Nat.le_of_not_lt h) k)
theorem oR1 {p a b:Nat} (e:p=a+b+16):1≤p:=e▸Nat.le_trans (by decide:1≤16) (Nat.le_add_left _ _)
theorem oR2 {p a b:Nat} (e:p=a+b+16):(0:Int)<(p:Int):=Int.ofNat_lt.mpr (oR1 e)
theorem oR3 {p c l o:Nat} (e:p=1+c+l+o+16) (h1:c≤5) (h2:l≤4) (h3:o≤10):p≤36:=e▸Nat.add_le_add_right (Nat.add_le_add (Nat.add_le_add (Nat.add_le_add_left h1 1) h2) h3) 16
theorem oS1 {n e:Nat} (h:(n:Int)+1 > (e:Int)):(n:Int)+1=((max e (n+1):Nat):Int):=by rw [Nat.max_eq_right (Nat.le_of_lt (Int.ofNat_lt.mp h))];rfl
theorem oS2 {n e:Nat} (h:¬ (n:Int)+1 > (e:Int)):(e:Int)=((max e (n+1):Nat):Int):=by rw [Nat.max_eq_left (Int.ofNat_le.mp (Int.not_lt.mp h))]
theorem oS3 {i l:Nat} (h:i≥l) (e:i-l=0):i=l:=Nat.le_antisymm (Nat.le_of_sub_eq_zero e) h
theorem oT1 {s n i:Nat} (e:s=n) (h:i<(s+1) / 2):2*i<n:=by
 subst e
 have:=(Nat.le_div_iff_mul_le (by decide:0<2)).mp h
 rw [Nat.succ_mul,Nat.mul_comm] at this
 exact Nat.le_of_succ_le_succ this
theorem oT2 {s n:Nat} (e:s=n) (h:n≤48):(s+1) / 2≤24:=by subst e;exact Nat.le_of_lt_succ (Nat.div_lt_of_lt_mul (Nat.lt_of_le_of_lt (Nat.succ_le_succ h) (by decide)))
theorem oU1 {i n:Nat} (h:i<n):n-(i+1)<n-i:=Nat.sub_lt_sub_left h (Nat.lt_succ_self i)
theorem oV1 {x:Int} {n:Nat} (e:x=(n:Int)):(x-0).toNat=n:=by rw [Int.sub_zero,e];rfl
theorem oE {f b s t:Nat} (h:t≤31) (k:s≤30) (e:4*(1000+5000*f+s)=4*(1000+5000*b+t)):f=b∧s=t:=by
 have e2:5000*f+s=5000*b+t:=Nat.add_left_cancel (n:=1000) (by rw [← Nat.add_assoc,← Nat.add_assoc];exact Nat.eq_of_mul_eq_mul_left (by decide) e)
 have es:s=t:=(Nat.mod_eq_of_lt (Nat.lt_of_le_of_lt k (by decide))).symm.trans ((Nat.mul_add_mod 5000 f s).symm.trans ((congrArg (· % 5000) e2).trans ((Nat.mul_add_mod 5000 b t).trans (Nat.mod_eq_of_lt (Nat.lt_of_le_of_lt h (by decide))))))
 exact ⟨Nat.eq_of_mul_eq_mul_left (by decide:0<5000) (Nat.add_right_cancel (es▸e2)),es⟩
section
open Lean
def lnO2:MacroM Syntax:=lnOm "" "oH1 @ @;oH3 @;oH4 @ @;oH5 @;oA1 @;oA2;oA3 @;oA4 @;oB1 @ @;oB2 @ @ @;oC @ @ @;oM3;oM4 @;oM5 @;oM6 @;oM7 @;oM8;oF1 @;oF2 @;oG1;oI2 @ @;oJ;oK3 @;oN3 @;oN4 @;oN6;oP1 @;oP2 @ @;oP5 @;oP6 @;oP3 @ @;oP4 @ @;oP7 @;oQ1 @;oQ2 @;oQ3 @ @;oQ4 @ @;oQ5 @;oR1 @;oR2 @;Nat.le_trans ( oR3 @ @ @ @ ) ^;oS1 @;oS2 @;oS3 @ @;oT1 @ @;oT2 @ @;oU1 @;oV1 @;oE @ @ @;Nat.le_add_right _ _;Nat.le_add_left _ _" "( walk_at 'OM1 )"
end
end
section
theorem oJ2 {n:Nat}:((n:Int)+1).toNat=n+1:=rfl
theorem oJ3 {i:Nat}:0+(i:Int)*2=((2*i:Nat):Int):=by rw [Int.zero_add,Int.mul_comm];rfl
theorem oY1 {c x k:Nat} (h:c<24) (e:x≤2+2*c) (d:48≤k):x≤k:=Nat.le_trans e (Nat.le_trans (Nat.add_le_add_left (Nat.mul_le_mul_left 2 (Nat.le_of_lt_succ h)) 2) d)
theorem oY2 {c x f k:Nat} (h:c<24) (e:x≤f+c) (d:24≤k):x<f+k:=Nat.lt_of_le_of_lt e (Nat.add_lt_add_left (Nat.lt_of_lt_of_le h d) f)
theorem oY3 {c x k:Nat} (h:c<24) (e:x≤c) (d:24≤k):x≤k:=Nat.le_trans e (Nat.le_trans (Nat.le_of_lt h) d)
theorem oY4 {a b c:Nat} {m:Int} (h:c<24) (e:a=b) (k:b≤c) (d:(24:Int)≤m):(a:Int)<m:=Int.lt_of_lt_of_le (Int.ofNat_lt.mpr (Nat.lt_of_le_of_lt (e▸k) h)) d
theorem oY6 {b:Nat} (k:¬ b=0):(0:Int)<(b:Int):=Int.ofNat_lt.mpr (Nat.pos_of_ne_zero k)
theorem oZ1 {x:Int} {m k:Nat} {d:Int} (e:x=(m:Int)) (h:m<k) (q:(k:Int)≤d):0≤x∧x<d:=e▸⟨Int.natCast_nonneg _,Int.lt_of_lt_of_le (Int.ofNat_lt.mpr h) q⟩
theorem oZ2 {a b c:Nat} (e:a=b+c) (h:1≤b):0<a:=e▸Nat.lt_of_lt_of_le h (Nat.le_add_right _ _)
theorem oZ4 {a b c r:Nat} (h:a+b+c<r):a<r:=Nat.lt_of_le_of_lt (Nat.le_trans (Nat.le_add_right a b) (Nat.le_add_right _ c)) h
theorem oZ5 {a b:Nat} (h:a=b+1):(a:Int)=(b:Int)+1:=congrArg _ h
theorem oZ6 {a b:Nat} (h:¬ a=b+1):(a:Int)≠(b:Int)+1:=fun e=>h (Int.ofNat.inj e)
theorem oZ8 {t b:Nat} {k:Nat} (h:b<2) (e:t≤k) (d:k≤31):4*(1000+5000*b+t)<2 ^ 40:=Nat.lt_of_le_of_lt (Nat.mul_le_mul_left 4 (Nat.add_le_add (Nat.add_le_add_left (Nat.mul_le_mul_left 5000 (Nat.le_of_lt_succ h)) 1000) (Nat.le_trans e d))) (by decide)
theorem oZ9 {a b:Nat} (e:a % 4+1=b):((a % 4:Nat):Int)+1=(b:Int):=e▸rfl
theorem oX1 {x y:Int} {m:Nat} (hx:0≤x) (hy:0≤y) (h1:m≤x.toNat) (h2:m≤y.toNat):0≤x+y-2*(m:Int)∧x+y-2*(m:Int)≤x+y:=by
 have e1:(m:Int)≤x:=(Int.toNat_of_nonneg hx)▸Int.ofNat_le.mpr h1
 have e2:(m:Int)≤y:=(Int.toNat_of_nonneg hy)▸Int.ofNat_le.mpr h2
 exact ⟨Int.sub_nonneg_of_le (by rw [Int.two_mul];exact Int.add_le_add e1 e2),Int.sub_le_self _ (Int.mul_nonneg (by decide) (Int.natCast_nonneg m))⟩
theorem oX5 {a r n:Int} (h:0≤r∧r≤255*n) (k:0≤a∧a<256):0≤a+r∧a+r≤255*(n+1):=⟨Int.add_nonneg k.1 h.1,by rw [Int.mul_add,Int.add_comm];exact Int.add_le_add h.2 (Int.le_of_lt_add_one (b:=255) k.2)⟩
theorem oX7 {a n:Nat} (h:a<2 ^ (n+1)):a / 2<2 ^ n:=Nat.div_lt_of_lt_mul (by rw [Nat.mul_comm,← Nat.pow_succ];exact h)
theorem oW3 {x y:Nat} (h:(y=0)↔x<128):((y:Int)=0)↔x<128:=⟨fun e=>h.mp (Int.ofNat.inj e),fun e=>congrArg _ (h.mpr e)⟩
theorem oW4 {a b x y:Nat} (e:a+b=x+2*y):(a:Int)+(b:Int)-2*(y:Int)=(x:Int):=by
 rw [show (a:Int)+(b:Int)=(x:Int)+2*(y:Int) from congrArg Int.ofNat e,Int.add_sub_cancel]
theorem oW5 {q off k:Nat} (e:q=off+k):q-off=k:=by rw [e,Nat.add_sub_cancel_left]
theorem oW6 {P:Prop} {q off k:Nat} (e:q=off+k∧P):q-off=k:=oW5 e.1
theorem oW7 {P:Prop} {q off k:Nat} (e:q=off+k∧P):off≤q∧q<off+(k+1)∧P:=⟨e.1▸Nat.le_add_right _ _,e.1▸Nat.lt_succ_self _,e.2⟩
theorem oW8 {P:Prop} {q off k:Nat} (e:off≤q∧q<off+k∧P):off≤q∧q<off+(k+1)∧P:=⟨e.1,Nat.lt_succ_of_lt e.2.1,e.2.2⟩
theorem oW9 {P:Prop} {q off k:Nat} (n1:¬ (q=off+k∧P)) (n2:¬ (off≤q∧q<off+k∧P)):¬ (off≤q∧q<off+(k+1)∧P):=fun e=>(Nat.lt_or_eq_of_le (Nat.le_of_lt_succ e.2.1)).elim (fun l=>n2 ⟨e.1,l,e.2.2⟩) fun q=>n1 ⟨q,e.2.2⟩
theorem oV3 {a b c:Nat} {k:Nat} (e:a=b) (h:c<24) (l:b≤c) (d:24≤k):a≤k:=e▸oY3 h l d
section
open Lean
def lnO3:MacroM Syntax:=lnOm "" "oJ2;oJ3;oY1 @ @ ^;oY2 @ @ ^;oY3 @ @ ^;oY4 @ @ @ ^;oY6 @;oZ1 @ @ ^;oZ2 @ @;oZ4 @;oZ5 @;oZ6 @;oZ8 @ @ ^;oZ9 @;oX1 @ @ @ @;oX5 @ @;oX7 @;oW3 @;oW4 @;oW6 @;oW7 @;oW8 @;oW9 @ @;oV3 @ @ @ ^;oN4 @" "( walk_at 'OM2 )"
end
end
section
theorem oc1 {a b:Nat} (h:a+1<b):b≠a:=Nat.ne_of_gt (Nat.lt_of_succ_lt h)
theorem oc4 {n m a r:Nat} (h:n≤m) (k:a+8*m<r):a+8*n<r:=Nat.lt_of_le_of_lt (Nat.add_le_add_left (Nat.mul_le_mul_left 8 h) a) k
theorem oc5 {n m a r:Nat} (h:n≤m) (k:a+m<r):a+n<r:=Nat.lt_of_le_of_lt (Nat.add_le_add_left h a) k
theorem oc6 {q k:Nat} (h:q<k):k-1-q<k:=Nat.lt_of_le_of_lt (Nat.sub_le _ _) (Nat.sub_lt (Nat.lt_of_le_of_lt (Nat.zero_le q) h) (by decide))
theorem oc7 {lo hi b:Nat} (h:lo≤hi) (k:hi≤b):lo+(hi-lo)≤b:=by rwa [Nat.add_sub_of_le h]
theorem oc8 {a b q:Nat} (h:¬ q<a) (k:¬ q<a+b):b≤q-a:=Nat.le_sub_of_add_le' (Nat.le_of_not_lt k)
theorem oc9 {a b q:Nat} (h:¬ q<a) (k:q<a+b):q-a<b:=Nat.sub_lt_left_of_lt_add (Nat.le_of_not_lt h) k
theorem od1 {n l:Nat} {m:Int} (d:m≤0):m≤4*(n:Int)+(l:Int):=Int.le_trans d (Int.add_nonneg (Int.mul_nonneg (by decide) (Int.natCast_nonneg _)) (Int.natCast_nonneg _))
theorem od2 {n l k j:Nat} {m:Int} (h:n<k) (e:l<j) (d:4*(k:Int)+(j:Int)≤m):4*(n:Int)+(l:Int)<m:=Int.lt_of_lt_of_le (Int.add_lt_add_of_le_of_lt (Int.mul_le_mul_of_nonneg_left (Int.ofNat_le.mpr (Nat.le_of_lt h)) (by decide)) (Int.ofNat_lt.mpr e)) d
theorem od3 {b t:Nat} (h:b≤1) (k:t≤100):1000+5000*b+t+1<2 ^ 50:=Nat.lt_of_le_of_lt (Nat.succ_le_succ (Nat.add_le_add (Nat.add_le_add_left (Nat.mul_le_mul_left 5000 h) 1000) k)) (by decide)
theorem od4 {s t:Nat} (e:s=t+1) (h:s % 2=t % 2):False:=by subst e;rw [Nat.add_mod] at h;rcases Nat.mod_two_eq_zero_or_one t with q | q <;> rw [q] at h <;> exact absurd h (by decide)
theorem od5 {s t:Nat} (e:s=t+1):s % 2≠t % 2:=od4 e
theorem od6 {a b x y z:Nat} (e:a+x=b+y):z+a+x=z+b+y:=by rw [Nat.add_assoc,e,Nat.add_assoc]
theorem od7 {a x y:Nat}:x+a+y=y+a+x:=by rw [Nat.add_right_comm,Nat.add_comm (x+y) a,Nat.add_comm x y,← Nat.add_assoc,Nat.add_comm a y]
theorem od8 {a b i j:Nat} (e:a+(j+1)=b+(i+1)) (h:j<i):a=b+(i-j):=Nat.add_right_cancel (m:=j+1) (by rw [e,Nat.add_assoc,← Nat.add_assoc (i-j),Nat.sub_add_cancel (Nat.le_of_lt h)])
theorem od9 {n m:Nat} (h:n≤m):n+(m-n)=m:=Nat.add_sub_of_le h
theorem oe2 {j b l m:Nat} (h:j<b) (e:l=b):min m l≤b:=e▸Nat.min_le_right _ _
theorem oe3 {i:Int} {s:Nat} (h:0≤i) (k:i<(s:Int)):i.toNat<s:=Int.ofNat_lt.mp (by rw [Int.toNat_of_nonneg h];exact k)
theorem nn (x:Int) : -(x-1)-1 = -x:=by rw [Int.neg_sub,Int.sub_eq_add_neg,Int.sub_eq_add_neg,Int.add_right_comm];exact Int.zero_add _
theorem sb {a b x:Nat} (e:a+b=x):(x:Int)-(b:Int)=(a:Int):=by subst e;rw [Int.natCast_add,Int.add_sub_cancel]
theorem ab0 {a b:Nat}:(b:Int)+(a:Int)-((0:Nat):Int)=((a+b:Nat):Int):=by rw [Int.natCast_add,Int.add_comm];exact Int.sub_zero _
theorem ab1 {a b:Nat}:(a:Int)+(b:Int)-((0:Nat):Int)=((a+b:Nat):Int):=by rw [Int.natCast_add];exact Int.sub_zero _
theorem half {W:Nat} (hW:2 ^ 16≤W):(1000:Int)≤(W:Int) / 2:=Int.le_trans (by decide:(1000:Int)≤32768) (Int.le_ediv_of_mul_le (by decide) (Int.ofNat_le.mpr hW))
theorem dl1 {N ex W:Nat} {P:Prop} (h:ex<N+1000) (hW:2 ^ 16≤W):¬ ((N:Int)≤(ex:Int)-(W:Int) / 2∧P):=fun q =>
 absurd (Int.le_trans (Int.add_le_add_left (half hW) _) (Int.add_le_of_le_sub_right q.1)) (Int.not_le.mpr (Int.ofNat_lt.mpr h))
theorem dl2 {N ex W:Nat} {P:Prop} (h:N<ex+1000) (hW:2 ^ 16≤W):¬ ((ex:Int)+(W:Int) / 2<(N:Int)∧P):=fun q =>
 absurd (Int.lt_of_le_of_lt (Int.add_le_add_left (half hW) _) q.1) (Int.not_lt.mpr (Int.le_of_lt (Int.ofNat_lt.mpr h)))
theorem md7 {s d:Nat} {z:Int} (hd:0<d) (hd2:d<256):¬ (7*((s+d:Nat):Int)+z+31*1) % 256=(7*(s:Int)+z+31*1) % 256:=fun e=>by
 have e2:=Int.emod_eq_emod_iff_emod_sub_eq_zero.mp e
 rw [Int.natCast_add,Int.mul_add,Int.add_right_comm (7*(s:Int)),Int.add_right_comm (7*(s:Int)+z),Int.add_comm (7*(s:Int)+z+31*1),Int.add_sub_cancel] at e2
 exact (by decide +kernel:∀ d:Fin 256,0<d.val->¬ (7*d.val) % 256=0) ⟨d,hd2⟩ hd (Int.ofNat.inj e2)
theorem fo {W x y r N N' first:Nat} (hW:65536≤W) (d1:W*x+r=N) (d2:W*y+r=N') (h1:first≤N) (h2:N'<first+30) (t:W*x+W*1≤W*y):False:=by
 have a:N+W≤N':=by rw [← d1,← d2,Nat.add_right_comm];rw [Nat.mul_one] at t;exact Nat.add_le_add_right t r
 exact absurd (Nat.lt_of_add_lt_add_left (Nat.lt_of_le_of_lt a (Nat.lt_of_lt_of_le h2 (Nat.add_le_add_right h1 30)))) (Nat.not_lt.mpr (Nat.le_trans (by decide:30≤65536) hW))
theorem dr0 {ex y tr z:Nat} (h1:ex<2 ^ 40) (h2:y≤ex) (h3:tr<z) (h4:z≤2 ^ 32):y+tr+z<2 ^ 64 :=
 Nat.lt_of_le_of_lt (Nat.add_le_add (Nat.add_le_add (Nat.le_trans h2 (Nat.le_of_lt h1)) (Nat.le_trans (Nat.le_of_lt h3) h4)) h4) (by decide)
theorem dr1 {ex y tr z:Nat} (h1:ex<2 ^ 40) (h2:y≤ex) (h3:tr<z) (h4:z≤2 ^ 32):0≤((y+tr:Nat):Int)+(z:Int)∧((y+tr:Nat):Int)+(z:Int)<2 ^ 64 :=
 ⟨Int.natCast_nonneg (y+tr+z),Int.ofNat_lt.mpr (dr0 h1 h2 h3 h4)⟩
theorem dr3 {ex y tr z:Nat} (h1:ex<2 ^ 40) (h2:y≤ex) (h3:tr<z) (h4:z≤2 ^ 32):0≤((y+tr:Nat):Int)∧((y+tr:Nat):Int)<2 ^ 64 :=
 ⟨Int.natCast_nonneg _,Int.ofNat_lt.mpr (Nat.lt_of_le_of_lt (Nat.le_add_right _ _) (dr0 h1 h2 h3 h4))⟩
theorem dr2 {ex y tr z:Nat} {P:Prop} (h1:ex<2 ^ 40) (h2:y≤ex) (h3:tr<z) (h4:z≤2 ^ 32) (q:P∧(z:Int)≤((y+tr:Nat):Int)):0≤((y+tr:Nat):Int)-(z:Int)∧((y+tr:Nat):Int)-(z:Int)<2 ^ 64 :=
 ⟨Int.sub_nonneg_of_le q.2,Int.lt_of_le_of_lt (Int.sub_le_self _ (Int.natCast_nonneg z)) (dr3 h1 h2 h3 h4).2⟩
theorem hv (a b:Nat):a+b=2*(a / 2+b / 2)+(a % 2+b % 2):=by rw [Nat.mul_add,Nat.add_add_add_comm,Nat.div_add_mod,Nat.div_add_mod]
theorem hx2 (a b:Nat):2*(a / 2+2*(b / 2))+(a % 2+2*(b % 2))=a+2*b:=by rw [Nat.mul_add,Nat.add_add_add_comm,Nat.div_add_mod,← Nat.mul_add,Nat.div_add_mod]
theorem mA {x:Nat} {k:Int} (hk:0≤k∧k<256) (h:x≤k.toNat):0≤(x:Int)∧(x:Int)<256:=⟨Int.natCast_nonneg _,Int.lt_of_le_of_lt (Int.ofNat_le.mpr h) (by rw [Int.toNat_of_nonneg hk.1];exact hk.2)⟩
theorem pr {G X:Nat} {p z:Int} (hg:G<256) (hx:X≤G) (ih:0≤p∧p<z):0≤(G:Int)+p*256-(X:Int)∧(G:Int)+p*256-(X:Int)<z*256:=by
 refine ⟨Int.sub_nonneg_of_le (Int.le_trans (Int.ofNat_le.mpr hx) (Int.le_add_of_nonneg_right (Int.mul_nonneg ih.1 (by decide)))),Int.lt_of_le_of_lt (Int.sub_le_self _ (Int.natCast_nonneg X)) (Int.lt_of_lt_of_le (Int.add_lt_add_right (Int.ofNat_lt.mpr hg) _) ?_)⟩
 have t:(p+1)*256≤z*256:=Int.mul_le_mul_of_nonneg_right ih.2 (by decide)
 rw [Int.add_mul,Int.one_mul,Int.add_comm] at t
 exact t
theorem ra5 {x:Int} {no:Nat} (e:2+x=(no:Int)) (h:0≤x) (k:x<9):2≤no∧no≤10 :=
 ⟨Int.ofNat_le.mp (by rw [← e];exact Int.le_add_of_nonneg_right h),Int.ofNat_le.mp (by rw [← e];exact Int.add_le_add_left (Int.le_of_lt_add_one (b:=8) k) 2)⟩
theorem ra1 {x:Int} (h:0≤x):2+x=((2+x).toNat:Int):=(Int.toNat_of_nonneg (Int.add_nonneg (by decide) h)).symm
theorem ra6 {x:Int} {no:Nat} (e:2+x=(no:Int)) (h:2≤no∧no≤10):(2+x-0).toNat≤16777216:=by rw [Int.sub_zero,e,Int.toNat_natCast];exact Nat.le_trans h.2 (by decide)
theorem ra7 {a b:Nat} (e:a=b) (h:b≤900):a+(0+1+1)≤16777216:=Nat.le_trans (Nat.add_le_add_right (Nat.le_trans (Nat.le_of_eq e) h) 2) (by decide)
theorem ra9 {u m k c:Nat} (h:u+m<c) (d:k≤m):u+k<c:=Nat.lt_of_le_of_lt (Nat.add_le_add_left d u) h
theorem rb1 {u n c:Nat} (h:u+8*(n+1)<c):u+3<c:=ra9 h (Nat.le_trans (by decide:3≤8*1) (Nat.mul_le_mul_left 8 (Nat.le_add_left 1 n)))
theorem rb2 {l c:Nat} (h:l≤48) (k:2*c<l):c<24:=Nat.lt_of_mul_lt_mul_left (a:=2) (Nat.lt_of_lt_of_le k h)
theorem rb3 {x:Int} {c q:Nat} (e:x=(c:Int)) (h:x<(q:Int)):c<q:=Int.ofNat_lt.mp (e▸h)
theorem rb4 {c:Nat} (h:c<255):1+c<2 ^ 8:=Nat.add_lt_add_left h 1
theorem rb5 {f n:Nat} (e:(f:Int)=((n:Nat):Int)):f=n:=Int.ofNat.inj e
theorem rb6 {x:Int} (h:0≤x) (k:x≤1000):x.toNat≤16777216:=Nat.le_trans (Int.toNat_le.mpr k) (by decide)
theorem rb7 {k n:Nat}:0*k+n=n:=by rw [Nat.zero_mul,Nat.zero_add]
theorem rb8 {lo s:Nat} (h:lo≤s):lo+(s-lo)≤s:=Nat.le_of_eq (Nat.add_sub_of_le h)
theorem rb9 {a b c d:Nat}:a+b+c+d=a+b+(c+d):=Nat.add_assoc _ _ _
section
open Lean
def lnO4:MacroM Syntax:=lnOm "( ; ( repeat ( first assumption ( refine' Nat.lt_trans ( by assumption ) ?_ ) ) ) done ) ( ; ( refine' oc1 ?_ ) ( repeat ( first assumption ( refine' Nat.lt_trans ( by assumption ) ?_ ) ) ) done ) " "oc4 @ @;oc5 @ @;oc6 @;oc7 @ @;oc8 @ @;oc9 @ @;od1 ^;od2 @ @ ^;od3 @ @;od5 @;od6 @;od7;od8 @ @;od9 @;oe2 @ @;oe3 @ @;ra1 @;ra5 @ @ @;ra6 @ @;ra7 @ @;ra9 @ ^;rb1 @;rb2 @ @;rb3 @ @;rb4 @;rb5 @;rb6 @ @;rb7;rb8 @;Nat.add_right_comm _ _ _;And.intro @ @" "( walk_at 'OM3 )"
end
end
local macro_rules | `(tactic| walk_at "OM1")=>lnO
local macro_rules | `(tactic| walk_at "OM2")=>lnO2
local macro_rules | `(tactic| walk_at "OM3")=>lnO3
local macro_rules | `(tactic| walk_at "OM")=>lnO4
section
noncomputable abbrev ent (P:Params) (n:String) (t:Tok) (v:Value):DictEntry:=⟨PyData.keyHash P (ofString n),.str (ofString n) t,v⟩
noncomputable abbrev PO:=Params->Obj
noncomputable abbrev lf (o:Obj):BT:=.node o .nil .nil
open PySem.Str (ofString)
open PySem.PyData (keyHash)
noncomputable def sts (k n:Nat):List Stmt:=(PySem.Challenge.pw_ix0009_01.main.body.drop k).take n
noncomputable abbrev noE:Expr:=.Constant .none 0 ⟨0,0,0,0⟩
noncomputable abbrev noS:Stmt:=.Pass ⟨0,0,0,0⟩
noncomputable def jb7 (k:Nat):Stmt:=(PySem.Challenge.pw_ix0009_01.main.body.drop k).headD noS
noncomputable def unS:Stmt->Arguments×Scope×List Stmt×List Stmt×Expr
 | .FunctionDef _ a b _ _ _ s _ _ _=>(a,s,b,[],noE)
 | .ClassDef _ _ _ b _ _ _ _ _ _ _=>(default,default,b,[],noE)
 | .If _ b o _=>(default,default,b,o,noE)
 | .For t _ b _ _=>(default,default,b,[],t)
 | .Try b _ _ _ _=>(default,default,b,[],noE)
 | .Return r _=>(default,default,[],[],r.getD noE)
 | _=>(default,default,[],[],noE)
noncomputable def ja2 (c:Stmt):Arguments:=(unS c).1
noncomputable def jbx (c:Stmt):Scope:=(unS c).2.1
noncomputable def jb3 (c:Stmt):List Stmt:=(unS c).2.2.1
noncomputable def jbk (c:Stmt) (k:Nat):Stmt:=((jb3 c).drop k).headD noS
noncomputable abbrev jaj {α:Type} (a:α) {b:α} (_:a=b:=by conv=>lhs;whnf):α:=b
noncomputable abbrev fpar0:=jaj (ja2 (jb7 0))
noncomputable abbrev ktq:=jaj (jb3 (jb7 0))
noncomputable abbrev kjv:=jaj (jbx (jb7 0))
noncomputable abbrev kj7:=jaj (ja2 (jbk (jb7 6) 0))
noncomputable abbrev kbz:=jaj (jb3 (jbk (jb7 6) 0))
noncomputable abbrev jt6:=jaj (jbx (jbk (jb7 6) 0))
noncomputable abbrev kj6:=jaj (ja2 (jbk (jb7 6) 1))
noncomputable abbrev kbx:=jaj (jb3 (jbk (jb7 6) 1))
noncomputable abbrev jt5:=jaj (jbx (jbk (jb7 6) 1))
noncomputable abbrev kj5:=jaj (ja2 (jbk (jb7 6) 2))
noncomputable abbrev kbq:=jaj (jb3 (jbk (jb7 6) 2))
noncomputable abbrev jt4:=jaj (jbx (jbk (jb7 6) 2))
noncomputable abbrev kj4:=jaj (ja2 (jbk (jb7 6) 3))
noncomputable abbrev ka9:=jaj (jb3 (jbk (jb7 6) 3))
noncomputable abbrev jt3:=jaj (jbx (jbk (jb7 6) 3))
noncomputable abbrev kj3:=jaj (ja2 (jbk (jb7 7) 0))
noncomputable abbrev ka8:=jaj (jb3 (jbk (jb7 7) 0))
noncomputable abbrev jt2:=jaj (jbx (jbk (jb7 7) 0))
noncomputable abbrev kj2:=jaj (ja2 (jbk (jb7 7) 1))
noncomputable abbrev ka7:=jaj (jb3 (jbk (jb7 7) 1))
noncomputable abbrev jt1:=jaj (jbx (jbk (jb7 7) 1))
noncomputable abbrev kj1:=jaj (ja2 (jbk (jb7 7) 2))
noncomputable abbrev ka6:=jaj (jb3 (jbk (jb7 7) 2))
noncomputable abbrev jt0:=jaj (jbx (jbk (jb7 7) 2))
noncomputable abbrev kj0:=jaj (ja2 (jbk (jb7 7) 3))
noncomputable abbrev ka5:=jaj (jb3 (jbk (jb7 7) 3))
noncomputable abbrev jtw:=jaj (jbx (jbk (jb7 7) 3))
noncomputable abbrev ks9:=jaj (ja2 (jb7 11))
noncomputable abbrev kk3:=jaj (jb3 (jb7 11))
noncomputable abbrev jz6:=jaj (jbx (jb7 11))
noncomputable abbrev ks8:=jaj (ja2 (jb7 12))
noncomputable abbrev kk2:=jaj (jb3 (jb7 12))
noncomputable abbrev jz5:=jaj (jbx (jb7 12))
noncomputable abbrev ks7:=jaj (ja2 (jb7 15))
noncomputable abbrev kk0:=jaj (jb3 (jb7 15))
noncomputable abbrev jz4:=jaj (jbx (jb7 15))
noncomputable abbrev ks6:=jaj (ja2 (jb7 16))
noncomputable abbrev kkw:=jaj (jb3 (jb7 16))
noncomputable abbrev jz3:=jaj (jbx (jb7 16))
noncomputable abbrev ks5:=jaj (ja2 (jb7 18))
noncomputable abbrev kkk:=jaj (jb3 (jb7 18))
noncomputable abbrev jz2:=jaj (jbx (jb7 18))
noncomputable abbrev ks4:=jaj (ja2 (jb7 20))
noncomputable abbrev kkv:=jaj (jb3 (jb7 20))
noncomputable abbrev jz1:=jaj (jbx (jb7 20))
noncomputable abbrev ka4:=jaj (ja2 (jbk (jb7 21) 0))
noncomputable abbrev ju2:=jaj (jb3 (jbk (jb7 21) 0))
noncomputable abbrev jqw:=jaj (jbx (jbk (jb7 21) 0))
noncomputable abbrev ka3:=jaj (ja2 (jbk (jb7 21) 1))
noncomputable abbrev jj5:=jaj (jb3 (jbk (jb7 21) 1))
noncomputable abbrev jgv:=jaj (jbx (jbk (jb7 21) 1))
noncomputable abbrev ka2:=jaj (ja2 (jbk (jb7 21) 2))
noncomputable abbrev ju1:=jaj (jb3 (jbk (jb7 21) 2))
noncomputable abbrev jqk:=jaj (jbx (jbk (jb7 21) 2))
noncomputable abbrev ka1:=jaj (ja2 (jbk (jb7 21) 3))
noncomputable abbrev ju0:=jaj (jb3 (jbk (jb7 21) 3))
noncomputable abbrev jqv:=jaj (jbx (jbk (jb7 21) 3))
noncomputable abbrev ka0:=jaj (ja2 (jbk (jb7 21) 4))
noncomputable abbrev juw:=jaj (jb3 (jbk (jb7 21) 4))
noncomputable abbrev jqj:=jaj (jbx (jbk (jb7 21) 4))
noncomputable abbrev kaw:=jaj (ja2 (jbk (jb7 21) 5))
noncomputable abbrev juk:=jaj (jb3 (jbk (jb7 21) 5))
noncomputable abbrev jqz:=jaj (jbx (jbk (jb7 21) 5))
noncomputable abbrev ks3:=jaj (ja2 (jb7 22))
noncomputable abbrev kkj:=jaj (jb3 (jb7 22))
noncomputable abbrev jz0:=jaj (jbx (jb7 22))
noncomputable abbrev ks2:=jaj (ja2 (jb7 23))
noncomputable abbrev kkz:=jaj (jb3 (jb7 23))
noncomputable abbrev jzw:=jaj (jbx (jb7 23))
noncomputable abbrev kak:=jaj (ja2 (jbk (jb7 24) 0))
noncomputable abbrev juv:=jaj (jb3 (jbk (jb7 24) 0))
noncomputable abbrev jqx:=jaj (jbx (jbk (jb7 24) 0))
noncomputable abbrev kav:=jaj (ja2 (jbk (jb7 24) 1))
noncomputable abbrev juj:=jaj (jb3 (jbk (jb7 24) 1))
noncomputable abbrev jqq:=jaj (jbx (jbk (jb7 24) 1))
noncomputable abbrev kaj:=jaj (ja2 (jbk (jb7 24) 2))
noncomputable abbrev juz:=jaj (jb3 (jbk (jb7 24) 2))
noncomputable abbrev jp9:=jaj (jbx (jbk (jb7 24) 2))
noncomputable abbrev kaz:=jaj (ja2 (jbk (jb7 24) 3))
noncomputable abbrev jux:=jaj (jb3 (jbk (jb7 24) 3))
noncomputable abbrev jp8:=jaj (jbx (jbk (jb7 24) 3))
noncomputable abbrev kax:=jaj (ja2 (jbk (jb7 24) 4))
noncomputable abbrev juq:=jaj (jb3 (jbk (jb7 24) 4))
noncomputable abbrev jp7:=jaj (jbx (jbk (jb7 24) 4))
noncomputable abbrev kaq:=jaj (ja2 (jbk (jb7 24) 5))
noncomputable abbrev jt9:=jaj (jb3 (jbk (jb7 24) 5))
noncomputable abbrev jp6:=jaj (jbx (jbk (jb7 24) 5))
noncomputable abbrev jz9:=jaj (ja2 (jbk (jb7 24) 6))
noncomputable abbrev jt8:=jaj (jb3 (jbk (jb7 24) 6))
noncomputable abbrev jp5:=jaj (jbx (jbk (jb7 24) 6))
noncomputable abbrev jz8:=jaj (ja2 (jbk (jb7 24) 7))
noncomputable abbrev jt7:=jaj (jb3 (jbk (jb7 24) 7))
noncomputable abbrev jp4:=jaj (jbx (jbk (jb7 24) 7))
noncomputable abbrev ks1:=jaj (ja2 (jb7 26))
noncomputable abbrev kkx:=jaj (jb3 (jb7 26))
noncomputable abbrev jzk:=jaj (jbx (jb7 26))
noncomputable def Y1:PO:=fun P=>⟨.type "tuple", none,.seq #[],#[]⟩
noncomputable def Y2:PO:=fun P=>⟨.none,none,.fields #[],#[]⟩
noncomputable def Y3:PO:=fun P=>⟨.type "code", none,.fields #[.str "<module>" 182,.str "<module>" 183,.str "/claim/cut.py" 184,.int 1 0,.int 0 0,.int 0 0,.int 0 0,.int 0 0,.ref 11,.bool false,.int 181 0,.ref 12,.none,.none,.none,.none,.int 185 0,.int 1 0,.str "/claim/cut.py" 186],#[]⟩
noncomputable def Y4:PO:=fun P=>{ cls:=.type "frame", slots:=#[some (.ref 13),some (.ref 3),some (.ref 3),none,some (.str "__main__" 164),none,some (.ref 0)] }
noncomputable def top.tree_4 (P:Params):BT:=.node (boot_o_0 P) (.node (boot_o_1 P) (.node (boot_o_3 P) (lf (boot_o_7 P)) (lf (Y1 P))) (.node (boot_o_5 P) (lf (boot_o_9 P)) (lf (Y3 P)))) (.node (boot_o_2 P) (.node (boot_o_4 P) (lf (boot_o_8 P)) (lf (Y2 P))) (.node (boot_o_6 P) (lf (boot_o_10 P)) (lf (Y4 P))))
noncomputable def Y5:PO:=fun P=>⟨.type "dict", none,.dict #[ent P "__name__" 165 (.str "aioquic._crypto" 194),ent P "__doc__" 166 .none,ent P "__package__" 167 .none,ent P "__loader__" 168 (.builtin "__main__.__loader__#opaque"),ent P "__spec__" 169 .none,ent P "__annotations__" 170 (.ref 6),ent P "__builtins__" 171 (.ref 4),ent P "__file__" 173 (.str "/claim/cut.py" 172),ent P "__cached__" 174 .none,ent P "_wall" 193 (.ref 21),ent P "AEAD_NONCE_LENGTH" 197 (.int 12 196),ent P "PACKET_NUMBER_LENGTH_MAX" 199 (.int 4 198),ent P "SAMPLE_LENGTH" 201 (.int 16 200),ent P "CryptoError" 219 (.ref 31)] 14,#[]⟩
noncomputable def Y6:PO:=fun P=>⟨.none,none,.fields #[.int 1 0,.int 0 0,.ref 20,.int 8 0,.int 0 0,.ref 27],#[]⟩
noncomputable def Y7:PO:=fun P=>⟨.type "tuple", none,.seq #[],#[]⟩
noncomputable def Y8:PO:=fun P=>⟨.none,none,.fields #[],#[]⟩
noncomputable def Y9:PO:=fun P=>⟨.type "tuple", none,.seq #[.str "k" 190],#[]⟩
noncomputable def Y10:PO:=fun P=>⟨.type "tuple", none,.seq #[],#[]⟩
noncomputable def Y11:PO:=fun P=>⟨.none,none,.func ⟨"_wall", "_wall", fpar0,.stmts ktq,kjv,0,[],.none,.none,.none,.none,none,.none,.none,0⟩,#[]⟩
noncomputable def Y12:PO:=fun P=>⟨.type "code", none,.fields #[.str "_wall" 187,.str "_wall" 188,.str "/claim/cut.py" 189,.int 1 0,.int 1 0,.int 0 0,.int 0 0,.int 3 0,.ref 15,.bool true,.int 181 0,.ref 16,.none,.ref 17,.ref 18,.ref 19,.int 191 0,.int 1 0,.str "/claim/cut.py" 192],#[]⟩
noncomputable def Y13:PO:=fun P=>⟨.type "function", none,.func ⟨"_wall", "_wall", fpar0,.stmts ktq,kjv,3,[],.none,.none,.none,.str "__main__" 164,none,.ref 20,.none,0⟩,#[]⟩
noncomputable def Y14:PO:=fun P=>⟨.type "tuple", none,.seq #[.type "ValueError"],#[]⟩
noncomputable def Y15:PO:=fun P=>⟨.type "builtin_function_or_method", none,.fields #[.builtin "type.__prepare__", .type "type"],#[]⟩
noncomputable def Y16:PO:=fun P=>⟨.type "dict", none,.dict #[ent P "__module__" 209 (.str "aioquic._crypto" 194),ent P "__qualname__" 211 (.str "CryptoError" 210),ent P "__firstlineno__" 213 (.int 8 212),ent P "__static_attributes__" 214 (.ref 29)] 4,#[]⟩
noncomputable def Y17:PO:=fun P=>⟨.type "tuple", none,.seq #[],#[]⟩
noncomputable def Y18:PO:=fun P=>⟨.none,none,.fields #[],#[]⟩
noncomputable def Y19:PO:=fun P=>⟨.type "code", none,.fields #[.str "CryptoError" 204,.str "CryptoError" 205,.str "/claim/cut.py" 206,.int 8 0,.int 0 0,.int 0 0,.int 0 0,.int 0 0,.ref 25,.bool false,.int 181 0,.ref 26,.none,.none,.none,.none,.int 207 0,.int 8 0,.str "/claim/cut.py" 208],#[]⟩
noncomputable def Y20:PO:=fun P=>{ cls:=.type "frame", slots:=#[some (.ref 27),some (.ref 3),some (.ref 24),none,some (.str "aioquic._crypto" 194),none,some (.ref 0)] }
noncomputable def Y21:PO:=fun P=>⟨.type "tuple", none,.seq #[],#[]⟩
noncomputable def Y22:PO:=fun P=>⟨.type "dict", none,.dict #[ent P "__module__" 209 (.str "aioquic._crypto" 194),ent P "__firstlineno__" 213 (.int 8 212),ent P "__static_attributes__" 214 (.ref 29),ent P "__weakref__" 216 (.ref 32),ent P "__doc__" 217 .none] 3,#[]⟩
noncomputable def Y23:PO:=fun P=>⟨.type "type", none,Data.cls { name := "CryptoError", bases:=[.type "ValueError"],mro:=[.ref 31,.type "ValueError", .type "Exception", .type "BaseException", .type "object"],ns:=30,qualname := "CryptoError" },#[some (.ref 22),none,some (.str "CryptoError" 202),some (.str "CryptoError" 210),some (.builtin "ValueError.__new__"),some (.bool true)]⟩
noncomputable def Y24:PO:=fun P=>⟨.type "getset_descriptor", none,.fields #[.str "__weakref__" 215,.ref 31,.builtin "ExceptionGroup.__weakref__", .none],#[]⟩
noncomputable def Y25:PO:=fun P=>⟨.type "super", none,.fields #[.ref 31,.ref 31,.ref 31],#[]⟩
noncomputable def Y26:PO:=fun P=>⟨.type "builtin_function_or_method", none,.fields #[.builtin "object.__init_subclass__", .ref 31],#[]⟩
noncomputable def top.tree_26 (P:Params):BT:=.node (boot_o_0 P) (.node (boot_o_1 P) (.node (Y5 P) (.node (boot_o_7 P) (.node (Y7 P) (lf (Y23 P)) .nil) (lf (Y15 P))) (.node (Y1 P) (lf (Y11 P)) (lf (Y19 P)))) (.node (boot_o_5 P) (.node (boot_o_9 P) (.node (Y9 P) (lf (Y25 P)) .nil) (lf (Y17 P))) (.node (Y3 P) (lf (Y13 P)) (lf (Y21 P))))) (.node (boot_o_2 P) (.node (boot_o_4 P) (.node (boot_o_8 P) (.node (Y8 P) (lf (Y24 P)) .nil) (lf (Y16 P))) (.node (Y6 P) (lf (Y12 P)) (lf (Y20 P)))) (.node (boot_o_6 P) (.node (boot_o_10 P) (.node (Y10 P) (lf (Y26 P)) .nil) (lf (Y18 P))) (.node (Y4 P) (lf (Y14 P)) (lf (Y22 P)))))
noncomputable def Y28:PO:=fun P=>⟨.type "dict", none,.dict #[ent P "__name__" 165 (.str "aioquic._crypto" 194),ent P "__doc__" 166 .none,ent P "__package__" 167 .none,ent P "__loader__" 168 (.builtin "__main__.__loader__#opaque"),ent P "__spec__" 169 .none,ent P "__annotations__" 170 (.ref 6),ent P "__builtins__" 171 (.ref 4),ent P "__file__" 173 (.str "/claim/cut.py" 172),ent P "__cached__" 174 .none,ent P "_wall" 193 (.ref 21),ent P "AEAD_NONCE_LENGTH" 197 (.int 12 196),ent P "PACKET_NUMBER_LENGTH_MAX" 199 (.int 4 198),ent P "SAMPLE_LENGTH" 201 (.int 16 200),ent P "CryptoError" 219 (.ref 31),ent P "AEAD" 283 (.ref 72)] 15,#[]⟩
noncomputable def Y29:PO:=fun P=>⟨.none,none,.fields #[.int 1 0,.int 0 0,.ref 20,.int 8 0,.int 0 0,.ref 27,.int 10 0,.int 0 0,.ref 40],#[]⟩
noncomputable def Y30:PO:=fun P=>⟨.type "tuple", none,.seq #[],#[]⟩
noncomputable def Y31:PO:=fun P=>⟨.type "builtin_function_or_method", none,.fields #[.builtin "type.__prepare__", .type "type"],#[]⟩
noncomputable def Y32:PO:=fun P=>⟨.type "dict", none,.dict #[ent P "__module__" 227 (.str "aioquic._crypto" 194),ent P "__qualname__" 229 (.str "AEAD" 228),ent P "__firstlineno__" 231 (.int 10 230),ent P "__init__" 242 (.ref 48),ent P "decrypt" 253 (.ref 55),ent P "encrypt" 263 (.ref 62),ent P "_nonce" 271 (.ref 69),ent P "__static_attributes__" 276 (.ref 70)] 8,#[]⟩
noncomputable def Y33:PO:=fun P=>⟨.type "tuple", none,.seq #[],#[]⟩
noncomputable def Y34:PO:=fun P=>⟨.none,none,.fields #[.int 12 0,.int 4 0,.ref 47,.int 22 0,.int 4 0,.ref 54,.int 28 0,.int 4 0,.ref 61,.int 31 0,.int 4 0,.ref 68],#[]⟩
noncomputable def Y35:PO:=fun P=>⟨.type "code", none,.fields #[.str "AEAD" 222,.str "AEAD" 223,.str "/claim/cut.py" 224,.int 10 0,.int 0 0,.int 0 0,.int 0 0,.int 0 0,.ref 38,.bool false,.int 181 0,.ref 39,.none,.none,.none,.none,.int 225 0,.int 10 0,.str "/claim/cut.py" 226],#[]⟩
noncomputable def Y36:PO:=fun P=>{ cls:=.type "frame", slots:=#[some (.ref 40),some (.ref 3),some (.ref 37),none,some (.str "aioquic._crypto" 194),none,some (.ref 0)] }
noncomputable def Y37:PO:=fun P=>⟨.type "tuple", none,.seq #[],#[]⟩
noncomputable def Y38:PO:=fun P=>⟨.none,none,.fields #[],#[]⟩
noncomputable def Y39:PO:=fun P=>⟨.type "tuple", none,.seq #[.str "self" 235,.str "cipher_name" 236,.str "key" 237,.str "iv" 238,.str "primitives" 239],#[]⟩
noncomputable def Y40:PO:=fun P=>⟨.type "tuple", none,.seq #[],#[]⟩
noncomputable def Y41:PO:=fun P=>⟨.none,none,.func ⟨"__init__", "AEAD.__init__", kj7,.stmts kbz,jt6,0,[],.none,.none,.none,.none,none,.none,.none,0⟩,#[]⟩
noncomputable def Y42:PO:=fun P=>⟨.type "code", none,.fields #[.str "__init__" 232,.str "AEAD.__init__" 233,.str "/claim/cut.py" 234,.int 12 0,.int 5 0,.int 0 0,.int 0 0,.int 3 0,.ref 42,.bool true,.int 181 0,.ref 43,.none,.ref 44,.ref 45,.ref 46,.int 240 0,.int 12 0,.str "/claim/cut.py" 241],#[]⟩
noncomputable def Y43:PO:=fun P=>⟨.type "function", none,.func ⟨"__init__", "AEAD.__init__", kj7,.stmts kbz,jt6,3,[],.none,.none,.none,.str "aioquic._crypto" 194,none,.ref 47,.none,0⟩,#[]⟩
noncomputable def Y44:PO:=fun P=>⟨.type "tuple", none,.seq #[],#[]⟩
noncomputable def Y45:PO:=fun P=>⟨.none,none,.fields #[],#[]⟩
noncomputable def Y46:PO:=fun P=>⟨.type "tuple", none,.seq #[.str "self" 246,.str "data" 247,.str "associated_data" 248,.str "packet_number" 249,.str "opened" 250],#[]⟩
noncomputable def Y47:PO:=fun P=>⟨.type "tuple", none,.seq #[],#[]⟩
noncomputable def Y48:PO:=fun P=>⟨.none,none,.func ⟨"decrypt", "AEAD.decrypt", kj6,.stmts kbx,jt5,0,[],.none,.none,.none,.none,none,.none,.none,0⟩,#[]⟩
noncomputable def Y49:PO:=fun P=>⟨.type "code", none,.fields #[.str "decrypt" 243,.str "AEAD.decrypt" 244,.str "/claim/cut.py" 245,.int 22 0,.int 4 0,.int 0 0,.int 0 0,.int 3 0,.ref 49,.bool true,.int 181 0,.ref 50,.none,.ref 51,.ref 52,.ref 53,.int 251 0,.int 22 0,.str "/claim/cut.py" 252],#[]⟩
noncomputable def Y50:PO:=fun P=>⟨.type "function", none,.func ⟨"decrypt", "AEAD.decrypt", kj6,.stmts kbx,jt5,3,[],.none,.none,.none,.str "aioquic._crypto" 194,none,.ref 54,.none,0⟩,#[]⟩
noncomputable def Y51:PO:=fun P=>⟨.type "tuple", none,.seq #[],#[]⟩
noncomputable def Y52:PO:=fun P=>⟨.none,none,.fields #[],#[]⟩
noncomputable def Y53:PO:=fun P=>⟨.type "tuple", none,.seq #[.str "self" 257,.str "data" 258,.str "associated_data" 259,.str "packet_number" 260],#[]⟩
noncomputable def Y54:PO:=fun P=>⟨.type "tuple", none,.seq #[],#[]⟩
noncomputable def Y55:PO:=fun P=>⟨.none,none,.func ⟨"encrypt", "AEAD.encrypt", kj5,.stmts kbq,jt4,0,[],.none,.none,.none,.none,none,.none,.none,0⟩,#[]⟩
noncomputable def Y56:PO:=fun P=>⟨.type "code", none,.fields #[.str "encrypt" 254,.str "AEAD.encrypt" 255,.str "/claim/cut.py" 256,.int 28 0,.int 4 0,.int 0 0,.int 0 0,.int 3 0,.ref 56,.bool true,.int 181 0,.ref 57,.none,.ref 58,.ref 59,.ref 60,.int 261 0,.int 28 0,.str "/claim/cut.py" 262],#[]⟩
noncomputable def Y57:PO:=fun P=>⟨.type "function", none,.func ⟨"encrypt", "AEAD.encrypt", kj5,.stmts kbq,jt4,3,[],.none,.none,.none,.str "aioquic._crypto" 194,none,.ref 61,.none,0⟩,#[]⟩
noncomputable def Y58:PO:=fun P=>⟨.type "tuple", none,.seq #[],#[]⟩
noncomputable def Y59:PO:=fun P=>⟨.none,none,.fields #[],#[]⟩
noncomputable def Y60:PO:=fun P=>⟨.type "tuple", none,.seq #[.str "self" 267,.str "packet_number" 268],#[]⟩
noncomputable def Y61:PO:=fun P=>⟨.type "tuple", none,.seq #[],#[]⟩
noncomputable def Y62:PO:=fun P=>⟨.none,none,.func ⟨"_nonce", "AEAD._nonce", kj4,.stmts ka9,jt3,0,[],.none,.none,.none,.none,none,.none,.none,0⟩,#[]⟩
noncomputable def Y63:PO:=fun P=>⟨.type "code", none,.fields #[.str "_nonce" 264,.str "AEAD._nonce" 265,.str "/claim/cut.py" 266,.int 31 0,.int 2 0,.int 0 0,.int 0 0,.int 3 0,.ref 63,.bool true,.int 181 0,.ref 64,.none,.ref 65,.ref 66,.ref 67,.int 269 0,.int 31 0,.str "/claim/cut.py" 270],#[]⟩
noncomputable def Y64:PO:=fun P=>⟨.type "function", none,.func ⟨"_nonce", "AEAD._nonce", kj4,.stmts ka9,jt3,3,[],.none,.none,.none,.str "aioquic._crypto" 194,none,.ref 68,.none,0⟩,#[]⟩
noncomputable def Y65:PO:=fun P=>⟨.type "tuple", none,.seq #[.str "_cipher_name" 272,.str "_iv" 273,.str "_key" 274,.str "_primitives" 275],#[]⟩
noncomputable def Y66:PO:=fun P=>⟨.type "dict", none,.dict #[ent P "__module__" 227 (.str "aioquic._crypto" 194),ent P "__firstlineno__" 231 (.int 10 230),ent P "__init__" 242 (.ref 48),ent P "decrypt" 253 (.ref 55),ent P "encrypt" 263 (.ref 62),ent P "_nonce" 271 (.ref 69),ent P "__static_attributes__" 276 (.ref 70),ent P "__dict__" 278 (.ref 73),ent P "__weakref__" 280 (.ref 74),ent P "__doc__" 281 .none] 4,#[]⟩
noncomputable def Y67:PO:=fun P=>⟨.type "type", none,Data.cls { name := "AEAD", bases:=[.type "object"],mro:=[.ref 72,.type "object"],ns:=71,qualname := "AEAD" },#[none,none,some (.str "AEAD" 220),some (.str "AEAD" 228),some (.builtin "object.__new__"),some (.bool true)]⟩
noncomputable def Y68:PO:=fun P=>⟨.type "getset_descriptor", none,.fields #[.str "__dict__" 277,.ref 72,.builtin "function.__dict__", .builtin "function.__dict__#set"],#[]⟩
noncomputable def Y69:PO:=fun P=>⟨.type "getset_descriptor", none,.fields #[.str "__weakref__" 279,.ref 72,.builtin "ExceptionGroup.__weakref__", .none],#[]⟩
noncomputable def Y70:PO:=fun P=>⟨.type "super", none,.fields #[.ref 72,.ref 72,.ref 72],#[]⟩
noncomputable def Y71:PO:=fun P=>⟨.type "builtin_function_or_method", none,.fields #[.builtin "object.__init_subclass__", .ref 72],#[]⟩
noncomputable def top.tree_71 (P:Params):BT:=.node (boot_o_0 P) (.node (boot_o_1 P) (.node (Y28 P) (.node (boot_o_7 P) (.node (Y7 P) (.node (Y23 P) (lf (Y58 P)) .nil) (lf (Y42 P))) (.node (Y15 P) (.node (Y34 P) (lf (Y66 P)) .nil) (lf (Y50 P)))) (.node (Y1 P) (.node (Y11 P) (.node (Y30 P) (lf (Y62 P)) .nil) (lf (Y46 P))) (.node (Y19 P) (.node (Y38 P) (lf (Y70 P)) .nil) (lf (Y54 P))))) (.node (boot_o_5 P) (.node (boot_o_9 P) (.node (Y9 P) (.node (Y25 P) (lf (Y60 P)) .nil) (lf (Y44 P))) (.node (Y17 P) (.node (Y36 P) (lf (Y68 P)) .nil) (lf (Y52 P)))) (.node (Y3 P) (.node (Y13 P) (.node (Y32 P) (lf (Y64 P)) .nil) (lf (Y48 P))) (.node (Y21 P) (lf (Y40 P)) (lf (Y56 P)))))) (.node (boot_o_2 P) (.node (boot_o_4 P) (.node (boot_o_8 P) (.node (Y8 P) (.node (Y24 P) (lf (Y59 P)) .nil) (lf (Y43 P))) (.node (Y16 P) (.node (Y35 P) (lf (Y67 P)) .nil) (lf (Y51 P)))) (.node (Y29 P) (.node (Y12 P) (.node (Y31 P) (lf (Y63 P)) .nil) (lf (Y47 P))) (.node (Y20 P) (.node (Y39 P) (lf (Y71 P)) .nil) (lf (Y55 P))))) (.node (boot_o_6 P) (.node (boot_o_10 P) (.node (Y10 P) (.node (Y26 P) (lf (Y61 P)) .nil) (lf (Y45 P))) (.node (Y18 P) (.node (Y37 P) (lf (Y69 P)) .nil) (lf (Y53 P)))) (.node (Y4 P) (.node (Y14 P) (.node (Y33 P) (lf (Y65 P)) .nil) (lf (Y49 P))) (.node (Y22 P) (lf (Y41 P)) (lf (Y57 P))))))
noncomputable def Y73:PO:=fun P=>⟨.type "dict", none,.dict #[ent P "__name__" 165 (.str "aioquic.quic.packet" 355),ent P "__doc__" 166 .none,ent P "__package__" 167 .none,ent P "__loader__" 168 (.builtin "__main__.__loader__#opaque"),ent P "__spec__" 169 .none,ent P "__annotations__" 170 (.ref 6),ent P "__builtins__" 171 (.ref 4),ent P "__file__" 173 (.str "/claim/cut.py" 172),ent P "__cached__" 174 .none,ent P "_wall" 193 (.ref 21),ent P "AEAD_NONCE_LENGTH" 197 (.int 12 196),ent P "PACKET_NUMBER_LENGTH_MAX" 199 (.int 4 198),ent P "SAMPLE_LENGTH" 201 (.int 16 200),ent P "CryptoError" 219 (.ref 31),ent P "AEAD" 283 (.ref 72),ent P "HeaderProtection" 354 (.ref 114),ent P "PACKET_LONG_HEADER" 358 (.int 128 357)] 17,#[]⟩
noncomputable def Y74:PO:=fun P=>⟨.none,none,.fields #[.int 1 0,.int 0 0,.ref 20,.int 8 0,.int 0 0,.ref 27,.int 10 0,.int 0 0,.ref 40,.int 33 0,.int 0 0,.ref 82],#[]⟩
noncomputable def Y75:PO:=fun P=>⟨.type "tuple", none,.seq #[],#[]⟩
noncomputable def Y76:PO:=fun P=>⟨.type "builtin_function_or_method", none,.fields #[.builtin "type.__prepare__", .type "type"],#[]⟩
noncomputable def Y77:PO:=fun P=>⟨.type "dict", none,.dict #[ent P "__module__" 291 (.str "aioquic._crypto" 194),ent P "__qualname__" 293 (.str "HeaderProtection" 292),ent P "__firstlineno__" 295 (.int 33 294),ent P "__init__" 305 (.ref 90),ent P "apply" 320 (.ref 97),ent P "remove" 335 (.ref 104),ent P "_mask" 343 (.ref 111),ent P "__static_attributes__" 347 (.ref 112)] 8,#[]⟩
noncomputable def Y78:PO:=fun P=>⟨.type "tuple", none,.seq #[],#[]⟩
noncomputable def Y79:PO:=fun P=>⟨.none,none,.fields #[.int 35 0,.int 4 0,.ref 89,.int 42 0,.int 4 0,.ref 96,.int 56 0,.int 4 0,.ref 103,.int 73 0,.int 4 0,.ref 110],#[]⟩
noncomputable def Y80:PO:=fun P=>⟨.type "code", none,.fields #[.str "HeaderProtection" 286,.str "HeaderProtection" 287,.str "/claim/cut.py" 288,.int 33 0,.int 0 0,.int 0 0,.int 0 0,.int 0 0,.ref 80,.bool false,.int 181 0,.ref 81,.none,.none,.none,.none,.int 289 0,.int 33 0,.str "/claim/cut.py" 290],#[]⟩
noncomputable def Y81:PO:=fun P=>{ cls:=.type "frame", slots:=#[some (.ref 82),some (.ref 3),some (.ref 79),none,some (.str "aioquic._crypto" 194),none,some (.ref 0)] }
noncomputable def Y82:PO:=fun P=>⟨.type "tuple", none,.seq #[],#[]⟩
noncomputable def Y83:PO:=fun P=>⟨.none,none,.fields #[],#[]⟩
noncomputable def Y84:PO:=fun P=>⟨.type "tuple", none,.seq #[.str "self" 299,.str "cipher_name" 300,.str "key" 301,.str "primitives" 302],#[]⟩
noncomputable def Y85:PO:=fun P=>⟨.type "tuple", none,.seq #[],#[]⟩
noncomputable def Y86:PO:=fun P=>⟨.none,none,.func ⟨"__init__", "HeaderProtection.__init__", kj3,.stmts ka8,jt2,0,[],.none,.none,.none,.none,none,.none,.none,0⟩,#[]⟩
noncomputable def Y87:PO:=fun P=>⟨.type "code", none,.fields #[.str "__init__" 296,.str "HeaderProtection.__init__" 297,.str "/claim/cut.py" 298,.int 35 0,.int 4 0,.int 0 0,.int 0 0,.int 3 0,.ref 84,.bool true,.int 181 0,.ref 85,.none,.ref 86,.ref 87,.ref 88,.int 303 0,.int 35 0,.str "/claim/cut.py" 304],#[]⟩
noncomputable def Y88:PO:=fun P=>⟨.type "function", none,.func ⟨"__init__", "HeaderProtection.__init__", kj3,.stmts ka8,jt2,3,[],.none,.none,.none,.str "aioquic._crypto" 194,none,.ref 89,.none,0⟩,#[]⟩
noncomputable def Y89:PO:=fun P=>⟨.type "tuple", none,.seq #[],#[]⟩
noncomputable def Y90:PO:=fun P=>⟨.none,none,.fields #[],#[]⟩
noncomputable def Y91:PO:=fun P=>⟨.type "tuple", none,.seq #[.str "self" 309,.str "plain_header" 310,.str "protected_payload" 311,.str "pn_length" 312,.str "pn_offset" 313,.str "sample_offset" 314,.str "mask" 315,.str "buffer" 316,.str "i" 317],#[]⟩
noncomputable def Y92:PO:=fun P=>⟨.type "tuple", none,.seq #[],#[]⟩
noncomputable def Y93:PO:=fun P=>⟨.none,none,.func ⟨"apply", "HeaderProtection.apply", kj2,.stmts ka7,jt1,0,[],.none,.none,.none,.none,none,.none,.none,0⟩,#[]⟩
noncomputable def Y94:PO:=fun P=>⟨.type "code", none,.fields #[.str "apply" 306,.str "HeaderProtection.apply" 307,.str "/claim/cut.py" 308,.int 42 0,.int 3 0,.int 0 0,.int 0 0,.int 3 0,.ref 91,.bool true,.int 181 0,.ref 92,.none,.ref 93,.ref 94,.ref 95,.int 318 0,.int 42 0,.str "/claim/cut.py" 319],#[]⟩
noncomputable def Y95:PO:=fun P=>⟨.type "function", none,.func ⟨"apply", "HeaderProtection.apply", kj2,.stmts ka7,jt1,3,[],.none,.none,.none,.str "aioquic._crypto" 194,none,.ref 96,.none,0⟩,#[]⟩
noncomputable def Y96:PO:=fun P=>⟨.type "tuple", none,.seq #[],#[]⟩
noncomputable def Y97:PO:=fun P=>⟨.none,none,.fields #[],#[]⟩
noncomputable def Y98:PO:=fun P=>⟨.type "tuple", none,.seq #[.str "self" 324,.str "packet" 325,.str "pn_offset" 326,.str "sample_offset" 327,.str "mask" 328,.str "buffer" 329,.str "pn_length" 330,.str "pn_truncated" 331,.str "i" 332],#[]⟩
noncomputable def Y99:PO:=fun P=>⟨.type "tuple", none,.seq #[],#[]⟩
noncomputable def krz:PO:=fun P=>⟨.none,none,.func ⟨"remove", "HeaderProtection.remove", kj1,.stmts ka6,jt0,0,[],.none,.none,.none,.none,none,.none,.none,0⟩,#[]⟩
noncomputable def kmw:PO:=fun P=>⟨.type "code", none,.fields #[.str "remove" 321,.str "HeaderProtection.remove" 322,.str "/claim/cut.py" 323,.int 56 0,.int 3 0,.int 0 0,.int 0 0,.int 3 0,.ref 98,.bool true,.int 181 0,.ref 99,.none,.ref 100,.ref 101,.ref 102,.int 333 0,.int 56 0,.str "/claim/cut.py" 334],#[]⟩
noncomputable def kmk:PO:=fun P=>⟨.type "function", none,.func ⟨"remove", "HeaderProtection.remove", kj1,.stmts ka6,jt0,3,[],.none,.none,.none,.str "aioquic._crypto" 194,none,.ref 103,.none,0⟩,#[]⟩
noncomputable def krx:PO:=fun P=>⟨.type "tuple", none,.seq #[],#[]⟩
noncomputable def krq:PO:=fun P=>⟨.none,none,.fields #[],#[]⟩
noncomputable def kq9:PO:=fun P=>⟨.type "tuple", none,.seq #[.str "self" 339,.str "sample" 340],#[]⟩
noncomputable def kq8:PO:=fun P=>⟨.type "tuple", none,.seq #[],#[]⟩
noncomputable def kq7:PO:=fun P=>⟨.none,none,.func ⟨"_mask", "HeaderProtection._mask", kj0,.stmts ka5,jtw,0,[],.none,.none,.none,.none,none,.none,.none,0⟩,#[]⟩
noncomputable def kmv:PO:=fun P=>⟨.type "code", none,.fields #[.str "_mask" 336,.str "HeaderProtection._mask" 337,.str "/claim/cut.py" 338,.int 73 0,.int 2 0,.int 0 0,.int 0 0,.int 3 0,.ref 105,.bool true,.int 181 0,.ref 106,.none,.ref 107,.ref 108,.ref 109,.int 341 0,.int 73 0,.str "/claim/cut.py" 342],#[]⟩
noncomputable def kmj:PO:=fun P=>⟨.type "function", none,.func ⟨"_mask", "HeaderProtection._mask", kj0,.stmts ka5,jtw,3,[],.none,.none,.none,.str "aioquic._crypto" 194,none,.ref 110,.none,0⟩,#[]⟩
noncomputable def kq6:PO:=fun P=>⟨.type "tuple", none,.seq #[.str "_cipher_name" 344,.str "_key" 345,.str "_primitives" 346],#[]⟩
noncomputable def kmz:PO:=fun P=>⟨.type "dict", none,.dict #[ent P "__module__" 291 (.str "aioquic._crypto" 194),ent P "__firstlineno__" 295 (.int 33 294),ent P "__init__" 305 (.ref 90),ent P "apply" 320 (.ref 97),ent P "remove" 335 (.ref 104),ent P "_mask" 343 (.ref 111),ent P "__static_attributes__" 347 (.ref 112),ent P "__dict__" 349 (.ref 115),ent P "__weakref__" 351 (.ref 116),ent P "__doc__" 352 .none] 4,#[]⟩
noncomputable def kmx:PO:=fun P=>⟨.type "type", none,Data.cls { name := "HeaderProtection", bases:=[.type "object"],mro:=[.ref 114,.type "object"],ns:=113,qualname := "HeaderProtection" },#[none,none,some (.str "HeaderProtection" 284),some (.str "HeaderProtection" 292),some (.builtin "object.__new__"),some (.bool true)]⟩
noncomputable def kq5:PO:=fun P=>⟨.type "getset_descriptor", none,.fields #[.str "__dict__" 348,.ref 114,.builtin "function.__dict__", .builtin "function.__dict__#set"],#[]⟩
noncomputable def kq4:PO:=fun P=>⟨.type "getset_descriptor", none,.fields #[.str "__weakref__" 350,.ref 114,.builtin "ExceptionGroup.__weakref__", .none],#[]⟩
noncomputable def kq3:PO:=fun P=>⟨.type "super", none,.fields #[.ref 114,.ref 114,.ref 114],#[]⟩
noncomputable def kq2:PO:=fun P=>⟨.type "builtin_function_or_method", none,.fields #[.builtin "object.__init_subclass__", .ref 114],#[]⟩
noncomputable def top.tree_116 (P:Params):BT:=.node (boot_o_0 P) (.node (boot_o_1 P) (.node (Y73 P) (.node (boot_o_7 P) (.node (Y7 P) (.node (Y23 P) (lf (Y58 P)) (lf (Y93 P))) (.node (Y42 P) (lf (Y77 P)) (lf (kmj P)))) (.node (Y15 P) (.node (Y34 P) (lf (Y66 P)) (lf (kmw P))) (.node (Y50 P) (lf (Y85 P)) .nil))) (.node (Y1 P) (.node (Y11 P) (.node (Y30 P) (lf (Y62 P)) (lf (Y97 P))) (.node (Y46 P) (lf (Y81 P)) (lf (kq5 P)))) (.node (Y19 P) (.node (Y38 P) (lf (Y70 P)) (lf (kq9 P))) (.node (Y54 P) (lf (Y89 P)) .nil)))) (.node (boot_o_5 P) (.node (boot_o_9 P) (.node (Y9 P) (.node (Y25 P) (lf (Y60 P)) (lf (Y95 P))) (.node (Y44 P) (lf (Y79 P)) (lf (kmz P)))) (.node (Y17 P) (.node (Y36 P) (lf (Y68 P)) (lf (krx P))) (.node (Y52 P) (lf (Y87 P)) .nil))) (.node (Y3 P) (.node (Y13 P) (.node (Y32 P) (lf (Y64 P)) (lf (Y99 P))) (.node (Y48 P) (lf (Y83 P)) (lf (kq3 P)))) (.node (Y21 P) (.node (Y40 P) (lf (Y75 P)) (lf (kq7 P))) (.node (Y56 P) (lf (Y91 P)) .nil))))) (.node (boot_o_2 P) (.node (boot_o_4 P) (.node (boot_o_8 P) (.node (Y8 P) (.node (Y24 P) (lf (Y59 P)) (lf (Y94 P))) (.node (Y43 P) (lf (Y78 P)) (lf (kq6 P)))) (.node (Y16 P) (.node (Y35 P) (lf (Y67 P)) (lf (kmk P))) (.node (Y51 P) (lf (Y86 P)) .nil))) (.node (Y74 P) (.node (Y12 P) (.node (Y31 P) (lf (Y63 P)) (lf (Y98 P))) (.node (Y47 P) (lf (Y82 P)) (lf (kq4 P)))) (.node (Y20 P) (.node (Y39 P) (lf (Y71 P)) (lf (kq8 P))) (.node (Y55 P) (lf (Y90 P)) .nil)))) (.node (boot_o_6 P) (.node (boot_o_10 P) (.node (Y10 P) (.node (Y26 P) (lf (Y61 P)) (lf (Y96 P))) (.node (Y45 P) (lf (Y80 P)) (lf (kmx P)))) (.node (Y18 P) (.node (Y37 P) (lf (Y69 P)) (lf (krq P))) (.node (Y53 P) (lf (Y88 P)) .nil))) (.node (Y4 P) (.node (Y14 P) (.node (Y33 P) (lf (Y65 P)) (lf (krz P))) (.node (Y49 P) (lf (Y84 P)) (lf (kq2 P)))) (.node (Y22 P) (.node (Y41 P) (lf (Y76 P)) (lf (kmv P))) (.node (Y57 P) (lf (Y92 P)) .nil)))))
noncomputable def Y118:PO:=fun P=>⟨.type "dict", none,.dict #[ent P "__name__" 165 (.str "aioquic.quic.crypto" 404),ent P "__doc__" 166 .none,ent P "__package__" 167 .none,ent P "__loader__" 168 (.builtin "__main__.__loader__#opaque"),ent P "__spec__" 169 .none,ent P "__annotations__" 170 (.ref 6),ent P "__builtins__" 171 (.ref 4),ent P "__file__" 173 (.str "/claim/cut.py" 172),ent P "__cached__" 174 .none,ent P "_wall" 193 (.ref 21),ent P "AEAD_NONCE_LENGTH" 197 (.int 12 196),ent P "PACKET_NUMBER_LENGTH_MAX" 199 (.int 4 198),ent P "SAMPLE_LENGTH" 201 (.int 16 200),ent P "CryptoError" 219 (.ref 31),ent P "AEAD" 283 (.ref 72),ent P "HeaderProtection" 354 (.ref 114),ent P "PACKET_LONG_HEADER" 358 (.int 128 357),ent P "QuicProtocolVersion" 384 (.ref 128),ent P "decode_packet_number" 396 (.ref 139),ent P "is_long_header" 403 (.ref 146)] 20,#[]⟩
noncomputable def Y119:PO:=fun P=>⟨.none,none,.fields #[.int 1 0,.int 0 0,.ref 20,.int 8 0,.int 0 0,.ref 27,.int 10 0,.int 0 0,.ref 40,.int 33 0,.int 0 0,.ref 82,.int 77 0,.int 0 0,.ref 124,.int 81 0,.int 0 0,.ref 138,.int 91 0,.int 0 0,.ref 145],#[]⟩
noncomputable def kvz:PO:=fun P=>⟨.type "tuple", none,.seq #[],#[]⟩
noncomputable def kvx:PO:=fun P=>⟨.type "builtin_function_or_method", none,.fields #[.builtin "type.__prepare__", .type "type"],#[]⟩
noncomputable def kvq:PO:=fun P=>⟨.type "dict", none,.dict #[ent P "__module__" 366 (.str "aioquic.quic.packet" 355),ent P "__qualname__" 368 (.str "QuicProtocolVersion" 367),ent P "__firstlineno__" 370 (.int 77 369),ent P "NEGOTIATION" 372 (.int 0 371),ent P "VERSION_1" 374 (.int 1 373),ent P "VERSION_2" 376 (.int 1798521807 375),ent P "__static_attributes__" 377 (.ref 126)] 7,#[]⟩
noncomputable def ku9:PO:=fun P=>⟨.type "tuple", none,.seq #[],#[]⟩
noncomputable def ku8:PO:=fun P=>⟨.none,none,.fields #[],#[]⟩
noncomputable def ku7:PO:=fun P=>⟨.type "code", none,.fields #[.str "QuicProtocolVersion" 361,.str "QuicProtocolVersion" 362,.str "/claim/cut.py" 363,.int 77 0,.int 0 0,.int 0 0,.int 0 0,.int 0 0,.ref 122,.bool false,.int 181 0,.ref 123,.none,.none,.none,.none,.int 364 0,.int 77 0,.str "/claim/cut.py" 365],#[]⟩
noncomputable def ku6:PO:=fun P=>{ cls:=.type "frame", slots:=#[some (.ref 124),some (.ref 3),some (.ref 121),none,some (.str "aioquic.quic.packet" 355),none,some (.ref 0)] }
noncomputable def ku5:PO:=fun P=>⟨.type "tuple", none,.seq #[],#[]⟩
noncomputable def kq1:PO:=fun P=>⟨.type "dict", none,.dict #[ent P "__module__" 366 (.str "aioquic.quic.packet" 355),ent P "__firstlineno__" 370 (.int 77 369),ent P "NEGOTIATION" 372 (.int 0 371),ent P "VERSION_1" 374 (.int 1 373),ent P "VERSION_2" 376 (.int 1798521807 375),ent P "__static_attributes__" 377 (.ref 126),ent P "__dict__" 379 (.ref 129),ent P "__weakref__" 381 (.ref 130),ent P "__doc__" 382 .none] 4,#[]⟩
noncomputable def kq0:PO:=fun P=>⟨.type "type", none,Data.cls { name := "QuicProtocolVersion", bases:=[.type "object"],mro:=[.ref 128,.type "object"],ns:=127,qualname := "QuicProtocolVersion" },#[none,none,some (.str "QuicProtocolVersion" 359),some (.str "QuicProtocolVersion" 367),some (.builtin "object.__new__"),some (.bool true)]⟩
noncomputable def ku4:PO:=fun P=>⟨.type "getset_descriptor", none,.fields #[.str "__dict__" 378,.ref 128,.builtin "function.__dict__", .builtin "function.__dict__#set"],#[]⟩
noncomputable def ku3:PO:=fun P=>⟨.type "getset_descriptor", none,.fields #[.str "__weakref__" 380,.ref 128,.builtin "ExceptionGroup.__weakref__", .none],#[]⟩
noncomputable def ku2:PO:=fun P=>⟨.type "super", none,.fields #[.ref 128,.ref 128,.ref 128],#[]⟩
noncomputable def ku1:PO:=fun P=>⟨.type "builtin_function_or_method", none,.fields #[.builtin "object.__init_subclass__", .ref 128],#[]⟩
noncomputable def ku0:PO:=fun P=>⟨.type "tuple", none,.seq #[],#[]⟩
noncomputable def kuw:PO:=fun P=>⟨.none,none,.fields #[],#[]⟩
noncomputable def kuk:PO:=fun P=>⟨.type "tuple", none,.seq #[.str "truncated" 388,.str "num_bits" 389,.str "expected" 390,.str "window" 391,.str "half_window" 392,.str "candidate" 393],#[]⟩
noncomputable def kuv:PO:=fun P=>⟨.type "tuple", none,.seq #[],#[]⟩
noncomputable def kuj:PO:=fun P=>⟨.none,none,.func ⟨"decode_packet_number", "decode_packet_number", ks9,.stmts kk3,jz6,0,[],.none,.none,.none,.none,none,.none,.none,0⟩,#[]⟩
noncomputable def kqw:PO:=fun P=>⟨.type "code", none,.fields #[.str "decode_packet_number" 385,.str "decode_packet_number" 386,.str "/claim/cut.py" 387,.int 81 0,.int 3 0,.int 0 0,.int 0 0,.int 3 0,.ref 133,.bool true,.int 181 0,.ref 134,.none,.ref 135,.ref 136,.ref 137,.int 394 0,.int 81 0,.str "/claim/cut.py" 395],#[]⟩
noncomputable def kqk:PO:=fun P=>⟨.type "function", none,.func ⟨"decode_packet_number", "decode_packet_number", ks9,.stmts kk3,jz6,3,[],.none,.none,.none,.str "aioquic.quic.packet" 355,none,.ref 138,.none,0⟩,#[]⟩
noncomputable def kuz:PO:=fun P=>⟨.type "tuple", none,.seq #[],#[]⟩
noncomputable def kux:PO:=fun P=>⟨.none,none,.fields #[],#[]⟩
noncomputable def kuq:PO:=fun P=>⟨.type "tuple", none,.seq #[.str "first_byte" 400],#[]⟩
noncomputable def kt9:PO:=fun P=>⟨.type "tuple", none,.seq #[],#[]⟩
noncomputable def kt8:PO:=fun P=>⟨.none,none,.func ⟨"is_long_header", "is_long_header", ks8,.stmts kk2,jz5,0,[],.none,.none,.none,.none,none,.none,.none,0⟩,#[]⟩
noncomputable def kqv:PO:=fun P=>⟨.type "code", none,.fields #[.str "is_long_header" 397,.str "is_long_header" 398,.str "/claim/cut.py" 399,.int 91 0,.int 1 0,.int 0 0,.int 0 0,.int 3 0,.ref 140,.bool true,.int 181 0,.ref 141,.none,.ref 142,.ref 143,.ref 144,.int 401 0,.int 91 0,.str "/claim/cut.py" 402],#[]⟩
noncomputable def kqj:PO:=fun P=>⟨.type "function", none,.func ⟨"is_long_header", "is_long_header", ks8,.stmts kk2,jz5,3,[],.none,.none,.none,.str "aioquic.quic.packet" 355,none,.ref 145,.none,0⟩,#[]⟩
noncomputable def top.tree_147 (P:Params):BT:=.node (boot_o_0 P) (.node (boot_o_1 P) (.node (Y118 P) (.node (boot_o_7 P) (.node (Y7 P) (.node (Y23 P) (.node (Y58 P) (lf (kq1 P)) .nil) (lf (Y93 P))) (.node (Y42 P) (.node (Y77 P) (lf (kt9 P)) .nil) (lf (kmj P)))) (.node (Y15 P) (.node (Y34 P) (.node (Y66 P) (lf (kuk P)) .nil) (lf (kmw P))) (.node (Y50 P) (lf (Y85 P)) (lf (kvz P))))) (.node (Y1 P) (.node (Y11 P) (.node (Y30 P) (.node (Y62 P) (lf (ku2 P)) .nil) (lf (Y97 P))) (.node (Y46 P) (lf (Y81 P)) (lf (kq5 P)))) (.node (Y19 P) (.node (Y38 P) (.node (Y70 P) (lf (kqk P)) .nil) (lf (kq9 P))) (.node (Y54 P) (lf (Y89 P)) (lf (ku8 P)))))) (.node (boot_o_5 P) (.node (boot_o_9 P) (.node (Y9 P) (.node (Y25 P) (.node (Y60 P) (lf (ku4 P)) .nil) (lf (Y95 P))) (.node (Y44 P) (.node (Y79 P) (lf (kqv P)) .nil) (lf (kmz P)))) (.node (Y17 P) (.node (Y36 P) (.node (Y68 P) (lf (kuj P)) .nil) (lf (krx P))) (.node (Y52 P) (lf (Y87 P)) (lf (kvq P))))) (.node (Y3 P) (.node (Y13 P) (.node (Y32 P) (.node (Y64 P) (lf (ku0 P)) .nil) (lf (Y99 P))) (.node (Y48 P) (lf (Y83 P)) (lf (kq3 P)))) (.node (Y21 P) (.node (Y40 P) (.node (Y75 P) (lf (kux P)) .nil) (lf (kq7 P))) (.node (Y56 P) (lf (Y91 P)) (lf (ku6 P))))))) (.node (boot_o_2 P) (.node (boot_o_4 P) (.node (boot_o_8 P) (.node (Y8 P) (.node (Y24 P) (.node (Y59 P) (lf (kq0 P)) .nil) (lf (Y94 P))) (.node (Y43 P) (.node (Y78 P) (lf (kt8 P)) .nil) (lf (kq6 P)))) (.node (Y16 P) (.node (Y35 P) (.node (Y67 P) (lf (kuv P)) .nil) (lf (kmk P))) (.node (Y51 P) (lf (Y86 P)) (lf (kvx P))))) (.node (Y119 P) (.node (Y12 P) (.node (Y31 P) (.node (Y63 P) (lf (ku1 P)) .nil) (lf (Y98 P))) (.node (Y47 P) (lf (Y82 P)) (lf (kq4 P)))) (.node (Y20 P) (.node (Y39 P) (.node (Y71 P) (lf (kuz P)) .nil) (lf (kq8 P))) (.node (Y55 P) (lf (Y90 P)) (lf (ku7 P)))))) (.node (boot_o_6 P) (.node (boot_o_10 P) (.node (Y10 P) (.node (Y26 P) (.node (Y61 P) (lf (ku3 P)) .nil) (lf (Y96 P))) (.node (Y45 P) (.node (Y80 P) (lf (kqj P)) .nil) (lf (kmx P)))) (.node (Y18 P) (.node (Y37 P) (.node (Y69 P) (lf (kqw P)) .nil) (lf (krq P))) (.node (Y53 P) (lf (Y88 P)) (lf (ku9 P))))) (.node (Y4 P) (.node (Y14 P) (.node (Y33 P) (.node (Y65 P) (lf (kuw P)) .nil) (lf (krz P))) (.node (Y49 P) (lf (Y84 P)) (lf (kq2 P)))) (.node (Y22 P) (.node (Y41 P) (.node (Y76 P) (lf (kuq P)) .nil) (lf (kmv P))) (.node (Y57 P) (lf (Y92 P)) (lf (ku5 P)))))))
noncomputable def Y149:PO:=fun P=>⟨.type "dict", none,.dict #[ent P "__name__" 165 (.str "aioquic.quic.crypto" 404),ent P "__doc__" 166 .none,ent P "__package__" 167 .none,ent P "__loader__" 168 (.builtin "__main__.__loader__#opaque"),ent P "__spec__" 169 .none,ent P "__annotations__" 170 (.ref 6),ent P "__builtins__" 171 (.ref 4),ent P "__file__" 173 (.str "/claim/cut.py" 172),ent P "__cached__" 174 .none,ent P "_wall" 193 (.ref 21),ent P "AEAD_NONCE_LENGTH" 197 (.int 12 196),ent P "PACKET_NUMBER_LENGTH_MAX" 199 (.int 4 198),ent P "SAMPLE_LENGTH" 201 (.int 16 200),ent P "CryptoError" 219 (.ref 31),ent P "AEAD" 283 (.ref 72),ent P "HeaderProtection" 354 (.ref 114),ent P "PACKET_LONG_HEADER" 358 (.int 128 357),ent P "QuicProtocolVersion" 384 (.ref 128),ent P "decode_packet_number" 396 (.ref 139),ent P "is_long_header" 403 (.ref 146),ent P "CipherSuite" 431 (.ref 156),ent P "cipher_suite_hash" 438 (.ref 167),ent P "hkdf_expand_label" 450 (.ref 174),ent P "CIPHER_SUITES" 463 (.ref 175),ent P "NoCallback" 470 (.ref 185)] 25,#[]⟩
noncomputable def Y150:PO:=fun P=>⟨.none,none,.fields #[.int 1 0,.int 0 0,.ref 20,.int 8 0,.int 0 0,.ref 27,.int 10 0,.int 0 0,.ref 40,.int 33 0,.int 0 0,.ref 82,.int 77 0,.int 0 0,.ref 124,.int 81 0,.int 0 0,.ref 138,.int 91 0,.int 0 0,.ref 145,.int 94 0,.int 0 0,.ref 152,.int 98 0,.int 0 0,.ref 166,.int 102 0,.int 0 0,.ref 173,.int 105 0,.int 0 0,.ref 184],#[]⟩
noncomputable def va9:PO:=fun P=>⟨.type "tuple", none,.seq #[],#[]⟩
noncomputable def va8:PO:=fun P=>⟨.type "builtin_function_or_method", none,.fields #[.builtin "type.__prepare__", .type "type"],#[]⟩
noncomputable def va7:PO:=fun P=>⟨.type "dict", none,.dict #[ent P "__module__" 413 (.str "aioquic.quic.crypto" 404),ent P "__qualname__" 415 (.str "CipherSuite" 414),ent P "__firstlineno__" 417 (.int 94 416),ent P "AES_128_GCM_SHA256" 419 (.int 4865 418),ent P "AES_256_GCM_SHA384" 421 (.int 4866 420),ent P "CHACHA20_POLY1305_SHA256" 423 (.int 4867 422),ent P "__static_attributes__" 424 (.ref 154)] 7,#[]⟩
noncomputable def va6:PO:=fun P=>⟨.type "tuple", none,.seq #[],#[]⟩
noncomputable def va5:PO:=fun P=>⟨.none,none,.fields #[],#[]⟩
noncomputable def va4:PO:=fun P=>⟨.type "code", none,.fields #[.str "CipherSuite" 408,.str "CipherSuite" 409,.str "/claim/cut.py" 410,.int 94 0,.int 0 0,.int 0 0,.int 0 0,.int 0 0,.ref 150,.bool false,.int 181 0,.ref 151,.none,.none,.none,.none,.int 411 0,.int 94 0,.str "/claim/cut.py" 412],#[]⟩
noncomputable def va3:PO:=fun P=>{ cls:=.type "frame", slots:=#[some (.ref 152),some (.ref 3),some (.ref 149),none,some (.str "aioquic.quic.crypto" 404),none,some (.ref 0)] }
noncomputable def va2:PO:=fun P=>⟨.type "tuple", none,.seq #[],#[]⟩
noncomputable def kt7:PO:=fun P=>⟨.type "dict", none,.dict #[ent P "__module__" 413 (.str "aioquic.quic.crypto" 404),ent P "__firstlineno__" 417 (.int 94 416),ent P "AES_128_GCM_SHA256" 419 (.int 4865 418),ent P "AES_256_GCM_SHA384" 421 (.int 4866 420),ent P "CHACHA20_POLY1305_SHA256" 423 (.int 4867 422),ent P "__static_attributes__" 424 (.ref 154),ent P "__dict__" 426 (.ref 157),ent P "__weakref__" 428 (.ref 158),ent P "__doc__" 429 .none] 4,#[]⟩
noncomputable def kt6:PO:=fun P=>⟨.type "type", none,Data.cls { name := "CipherSuite", bases:=[.type "object"],mro:=[.ref 156,.type "object"],ns:=155,qualname := "CipherSuite" },#[none,none,some (.str "CipherSuite" 406),some (.str "CipherSuite" 414),some (.builtin "object.__new__"),some (.bool true)]⟩
noncomputable def va1:PO:=fun P=>⟨.type "getset_descriptor", none,.fields #[.str "__dict__" 425,.ref 156,.builtin "function.__dict__", .builtin "function.__dict__#set"],#[]⟩
noncomputable def va0:PO:=fun P=>⟨.type "getset_descriptor", none,.fields #[.str "__weakref__" 427,.ref 156,.builtin "ExceptionGroup.__weakref__", .none],#[]⟩
noncomputable def vaw:PO:=fun P=>⟨.type "super", none,.fields #[.ref 156,.ref 156,.ref 156],#[]⟩
noncomputable def vak:PO:=fun P=>⟨.type "builtin_function_or_method", none,.fields #[.builtin "object.__init_subclass__", .ref 156],#[]⟩
noncomputable def vav:PO:=fun P=>⟨.type "tuple", none,.seq #[],#[]⟩
noncomputable def vaj:PO:=fun P=>⟨.none,none,.fields #[],#[]⟩
noncomputable def vaz:PO:=fun P=>⟨.type "tuple", none,.seq #[.str "cipher_suite" 435],#[]⟩
noncomputable def vax:PO:=fun P=>⟨.type "tuple", none,.seq #[],#[]⟩
noncomputable def vaq:PO:=fun P=>⟨.none,none,.func ⟨"cipher_suite_hash", "cipher_suite_hash", ks7,.stmts kk0,jz4,0,[],.none,.none,.none,.none,none,.none,.none,0⟩,#[]⟩
noncomputable def kt5:PO:=fun P=>⟨.type "code", none,.fields #[.str "cipher_suite_hash" 432,.str "cipher_suite_hash" 433,.str "/claim/cut.py" 434,.int 98 0,.int 1 0,.int 0 0,.int 0 0,.int 3 0,.ref 161,.bool true,.int 181 0,.ref 162,.none,.ref 163,.ref 164,.ref 165,.int 436 0,.int 98 0,.str "/claim/cut.py" 437],#[]⟩
noncomputable def kt4:PO:=fun P=>⟨.type "function", none,.func ⟨"cipher_suite_hash", "cipher_suite_hash", ks7,.stmts kk0,jz4,3,[],.none,.none,.none,.str "aioquic.quic.crypto" 404,none,.ref 166,.none,0⟩,#[]⟩
noncomputable def kz9:PO:=fun P=>⟨.type "tuple", none,.seq #[],#[]⟩
noncomputable def kz8:PO:=fun P=>⟨.none,none,.fields #[],#[]⟩
noncomputable def kz7:PO:=fun P=>⟨.type "tuple", none,.seq #[.str "primitives" 442,.str "algorithm" 443,.str "secret" 444,.str "label" 445,.str "hash_value" 446,.str "length" 447],#[]⟩
noncomputable def kz6:PO:=fun P=>⟨.type "tuple", none,.seq #[],#[]⟩
noncomputable def kz5:PO:=fun P=>⟨.none,none,.func ⟨"hkdf_expand_label", "hkdf_expand_label", ks6,.stmts kkw,jz3,0,[],.none,.none,.none,.none,none,.none,.none,0⟩,#[]⟩
noncomputable def kt3:PO:=fun P=>⟨.type "code", none,.fields #[.str "hkdf_expand_label" 439,.str "hkdf_expand_label" 440,.str "/claim/cut.py" 441,.int 102 0,.int 6 0,.int 0 0,.int 0 0,.int 3 0,.ref 168,.bool true,.int 181 0,.ref 169,.none,.ref 170,.ref 171,.ref 172,.int 448 0,.int 102 0,.str "/claim/cut.py" 449],#[]⟩
noncomputable def kt2:PO:=fun P=>⟨.type "function", none,.func ⟨"hkdf_expand_label", "hkdf_expand_label", ks6,.stmts kkw,jz3,3,[],.none,.none,.none,.str "aioquic.quic.crypto" 404,none,.ref 173,.none,0⟩,#[]⟩
noncomputable def kqz:PO:=fun P=>⟨.type "dict", none,.dict #[⟨4865,.int 4865 451,.ref 176⟩,⟨4866,.int 4866 454,.ref 177⟩,⟨4867,.int 4867 457,.ref 178⟩] 3,#[]⟩
noncomputable def kt1:PO:=fun P=>⟨.type "tuple", none,.seq #[Value.bytes #[97,101,115,45,49,50,56,45,101,99,98] 452,Value.bytes #[97,101,115,45,49,50,56,45,103,99,109] 453],#[]⟩
noncomputable def kt0:PO:=fun P=>⟨.type "tuple", none,.seq #[Value.bytes #[97,101,115,45,50,53,54,45,101,99,98] 455,Value.bytes #[97,101,115,45,50,53,54,45,103,99,109] 456],#[]⟩
noncomputable def ktw:PO:=fun P=>⟨.type "tuple", none,.seq #[Value.bytes #[99,104,97,99,104,97,50,48] 458,Value.bytes #[99,104,97,99,104,97,50,48,45,112,111,108,121,49,51,48,53] 459],#[]⟩
noncomputable def kz4:PO:=fun P=>⟨.type "tuple", none,.seq #[],#[]⟩
noncomputable def kz3:PO:=fun P=>⟨.none,none,.fields #[],#[]⟩
noncomputable def kz2:PO:=fun P=>⟨.type "tuple", none,.seq #[.str "trigger" 467],#[]⟩
noncomputable def kz1:PO:=fun P=>⟨.type "tuple", none,.seq #[],#[]⟩
noncomputable def kz0:PO:=fun P=>⟨.none,none,.func ⟨"NoCallback", "NoCallback", ks5,.stmts kkk,jz2,0,[],.none,.none,.none,.none,none,.none,.none,0⟩,#[]⟩
noncomputable def ktk:PO:=fun P=>⟨.type "code", none,.fields #[.str "NoCallback" 464,.str "NoCallback" 465,.str "/claim/cut.py" 466,.int 105 0,.int 1 0,.int 0 0,.int 0 0,.int 3 0,.ref 179,.bool true,.int 181 0,.ref 180,.none,.ref 181,.ref 182,.ref 183,.int 468 0,.int 105 0,.str "/claim/cut.py" 469],#[]⟩
noncomputable def ktv:PO:=fun P=>⟨.type "function", none,.func ⟨"NoCallback", "NoCallback", ks5,.stmts kkk,jz2,3,[],.none,.none,.none,.str "aioquic.quic.crypto" 404,none,.ref 184,.none,0⟩,#[]⟩
noncomputable def top.tree_189 (P:Params):BT:=.node (boot_o_0 P) (.node (boot_o_1 P) (.node (Y149 P) (.node (boot_o_7 P) (.node (Y7 P) (.node (Y23 P) (.node (Y58 P) (lf (kq1 P)) .nil) (.node (Y93 P) (lf (vaw P)) .nil)) (.node (Y42 P) (.node (Y77 P) (lf (kt9 P)) .nil) (.node (kmj P) (lf (kqz P)) .nil))) (.node (Y15 P) (.node (Y34 P) (.node (Y66 P) (lf (kuk P)) .nil) (.node (kmw P) (lf (kt4 P)) .nil)) (.node (Y50 P) (.node (Y85 P) (lf (va5 P)) .nil) (.node (kvz P) (lf (kz0 P)) .nil)))) (.node (Y1 P) (.node (Y11 P) (.node (Y30 P) (.node (Y62 P) (lf (ku2 P)) .nil) (.node (Y97 P) (lf (vaz P)) .nil)) (.node (Y46 P) (.node (Y81 P) (lf (va9 P)) .nil) (.node (kq5 P) (lf (kz4 P)) .nil))) (.node (Y19 P) (.node (Y38 P) (.node (Y70 P) (lf (kqk P)) .nil) (.node (kq9 P) (lf (kz6 P)) .nil)) (.node (Y54 P) (.node (Y89 P) (lf (kt7 P)) .nil) (lf (ku8 P)))))) (.node (boot_o_5 P) (.node (boot_o_9 P) (.node (Y9 P) (.node (Y25 P) (.node (Y60 P) (lf (ku4 P)) .nil) (.node (Y95 P) (lf (vav P)) .nil)) (.node (Y44 P) (.node (Y79 P) (lf (kqv P)) .nil) (.node (kmz P) (lf (kt0 P)) .nil))) (.node (Y17 P) (.node (Y36 P) (.node (Y68 P) (lf (kuj P)) .nil) (.node (krx P) (lf (kz8 P)) .nil)) (.node (Y52 P) (.node (Y87 P) (lf (va3 P)) .nil) (.node (kvq P) (lf (ktv P)) .nil)))) (.node (Y3 P) (.node (Y13 P) (.node (Y32 P) (.node (Y64 P) (lf (ku0 P)) .nil) (.node (Y99 P) (lf (vaq P)) .nil)) (.node (Y48 P) (.node (Y83 P) (lf (va7 P)) .nil) (.node (kq3 P) (lf (kz2 P)) .nil))) (.node (Y21 P) (.node (Y40 P) (.node (Y75 P) (lf (kux P)) .nil) (.node (kq7 P) (lf (kt3 P)) .nil)) (.node (Y56 P) (.node (Y91 P) (lf (va1 P)) .nil) (lf (ku6 P))))))) (.node (boot_o_2 P) (.node (boot_o_4 P) (.node (boot_o_8 P) (.node (Y8 P) (.node (Y24 P) (.node (Y59 P) (lf (kq0 P)) .nil) (.node (Y94 P) (lf (vak P)) .nil)) (.node (Y43 P) (.node (Y78 P) (lf (kt8 P)) .nil) (.node (kq6 P) (lf (kt1 P)) .nil))) (.node (Y16 P) (.node (Y35 P) (.node (Y67 P) (lf (kuv P)) .nil) (.node (kmk P) (lf (kz9 P)) .nil)) (.node (Y51 P) (.node (Y86 P) (lf (va4 P)) .nil) (.node (kvx P) (lf (ktk P)) .nil)))) (.node (Y150 P) (.node (Y12 P) (.node (Y31 P) (.node (Y63 P) (lf (ku1 P)) .nil) (.node (Y98 P) (lf (vax P)) .nil)) (.node (Y47 P) (.node (Y82 P) (lf (va8 P)) .nil) (.node (kq4 P) (lf (kz3 P)) .nil))) (.node (Y20 P) (.node (Y39 P) (.node (Y71 P) (lf (kuz P)) .nil) (.node (kq8 P) (lf (kz5 P)) .nil)) (.node (Y55 P) (.node (Y90 P) (lf (kt6 P)) .nil) (lf (ku7 P)))))) (.node (boot_o_6 P) (.node (boot_o_10 P) (.node (Y10 P) (.node (Y26 P) (.node (Y61 P) (lf (ku3 P)) .nil) (.node (Y96 P) (lf (vaj P)) .nil)) (.node (Y45 P) (.node (Y80 P) (lf (kqj P)) .nil) (.node (kmx P) (lf (ktw P)) .nil))) (.node (Y18 P) (.node (Y37 P) (.node (Y69 P) (lf (kqw P)) .nil) (.node (krq P) (lf (kz7 P)) .nil)) (.node (Y53 P) (.node (Y88 P) (lf (va2 P)) .nil) (lf (ku9 P))))) (.node (Y4 P) (.node (Y14 P) (.node (Y33 P) (.node (Y65 P) (lf (kuw P)) .nil) (.node (krz P) (lf (kt5 P)) .nil)) (.node (Y49 P) (.node (Y84 P) (lf (va6 P)) .nil) (.node (kq2 P) (lf (kz1 P)) .nil))) (.node (Y22 P) (.node (Y41 P) (.node (Y76 P) (lf (kuq P)) .nil) (.node (kmv P) (lf (kt2 P)) .nil)) (.node (Y57 P) (.node (Y92 P) (lf (va0 P)) .nil) (lf (ku5 P)))))))
noncomputable def Y193:PO:=fun P=>⟨.type "dict", none,.dict #[ent P "__name__" 165 (.str "aioquic.quic.crypto" 404),ent P "__doc__" 166 .none,ent P "__package__" 167 .none,ent P "__loader__" 168 (.builtin "__main__.__loader__#opaque"),ent P "__spec__" 169 .none,ent P "__annotations__" 170 (.ref 6),ent P "__builtins__" 171 (.ref 4),ent P "__file__" 173 (.str "/claim/cut.py" 172),ent P "__cached__" 174 .none,ent P "_wall" 193 (.ref 21),ent P "AEAD_NONCE_LENGTH" 197 (.int 12 196),ent P "PACKET_NUMBER_LENGTH_MAX" 199 (.int 4 198),ent P "SAMPLE_LENGTH" 201 (.int 16 200),ent P "CryptoError" 219 (.ref 31),ent P "AEAD" 283 (.ref 72),ent P "HeaderProtection" 354 (.ref 114),ent P "PACKET_LONG_HEADER" 358 (.int 128 357),ent P "QuicProtocolVersion" 384 (.ref 128),ent P "decode_packet_number" 396 (.ref 139),ent P "is_long_header" 403 (.ref 146),ent P "CipherSuite" 431 (.ref 156),ent P "cipher_suite_hash" 438 (.ref 167),ent P "hkdf_expand_label" 450 (.ref 174),ent P "CIPHER_SUITES" 463 (.ref 175),ent P "NoCallback" 470 (.ref 185),ent P "KeyUnavailableError" 486 (.ref 195),ent P "derive_key_iv_hp" 498 (.ref 204)] 27,#[]⟩
noncomputable def Y194:PO:=fun P=>⟨.none,none,.fields #[.int 1 0,.int 0 0,.ref 20,.int 8 0,.int 0 0,.ref 27,.int 10 0,.int 0 0,.ref 40,.int 33 0,.int 0 0,.ref 82,.int 77 0,.int 0 0,.ref 124,.int 81 0,.int 0 0,.ref 138,.int 91 0,.int 0 0,.ref 145,.int 94 0,.int 0 0,.ref 152,.int 98 0,.int 0 0,.ref 166,.int 102 0,.int 0 0,.ref 173,.int 105 0,.int 0 0,.ref 184,.int 107 0,.int 0 0,.ref 191,.int 109 0,.int 0 0,.ref 203],#[]⟩
noncomputable def kzw:PO:=fun P=>⟨.type "type", none,Data.cls { name := "CryptoError", bases:=[.type "ValueError"],mro:=[.ref 31,.type "ValueError", .type "Exception", .type "BaseException", .type "object"],ns:=30,qualname := "CryptoError", subclasses:=[.ref 195] },#[some (.ref 22),none,some (.str "CryptoError" 202),some (.str "CryptoError" 210),some (.builtin "ValueError.__new__"),some (.bool true)]⟩
noncomputable def Y196:PO:=fun P=>⟨.type "tuple", none,.seq #[.ref 31],#[]⟩
noncomputable def Y197:PO:=fun P=>⟨.type "builtin_function_or_method", none,.fields #[.builtin "type.__prepare__", .type "type"],#[]⟩
noncomputable def Y198:PO:=fun P=>⟨.type "dict", none,.dict #[ent P "__module__" 478 (.str "aioquic.quic.crypto" 404),ent P "__qualname__" 480 (.str "KeyUnavailableError" 479),ent P "__firstlineno__" 482 (.int 107 481),ent P "__static_attributes__" 483 (.ref 193)] 4,#[]⟩
noncomputable def Y199:PO:=fun P=>⟨.type "tuple", none,.seq #[],#[]⟩
noncomputable def Y200:PO:=fun P=>⟨.none,none,.fields #[],#[]⟩
noncomputable def Y201:PO:=fun P=>⟨.type "code", none,.fields #[.str "KeyUnavailableError" 473,.str "KeyUnavailableError" 474,.str "/claim/cut.py" 475,.int 107 0,.int 0 0,.int 0 0,.int 0 0,.int 0 0,.ref 189,.bool false,.int 181 0,.ref 190,.none,.none,.none,.none,.int 476 0,.int 107 0,.str "/claim/cut.py" 477],#[]⟩
noncomputable def Y202:PO:=fun P=>{ cls:=.type "frame", slots:=#[some (.ref 191),some (.ref 3),some (.ref 188),none,some (.str "aioquic.quic.crypto" 404),none,some (.ref 0)] }
noncomputable def Y203:PO:=fun P=>⟨.type "tuple", none,.seq #[],#[]⟩
noncomputable def kzk:PO:=fun P=>⟨.type "dict", none,.dict #[ent P "__module__" 478 (.str "aioquic.quic.crypto" 404),ent P "__firstlineno__" 482 (.int 107 481),ent P "__static_attributes__" 483 (.ref 193),ent P "__doc__" 484 .none] 2,#[]⟩
noncomputable def kzv:PO:=fun P=>⟨.type "type", none,Data.cls { name := "KeyUnavailableError", bases:=[.ref 31],mro:=[.ref 195,.ref 31,.type "ValueError", .type "Exception", .type "BaseException", .type "object"],ns:=194,qualname := "KeyUnavailableError" },#[some (.ref 186),none,some (.str "KeyUnavailableError" 471),some (.str "KeyUnavailableError" 479),some (.builtin "ValueError.__new__"),some (.bool true)]⟩
noncomputable def Y206:PO:=fun P=>⟨.type "super", none,.fields #[.ref 195,.ref 195,.ref 195],#[]⟩
noncomputable def Y207:PO:=fun P=>⟨.type "builtin_function_or_method", none,.fields #[.builtin "object.__init_subclass__", .ref 195],#[]⟩
noncomputable def Y208:PO:=fun P=>⟨.type "tuple", none,.seq #[],#[]⟩
noncomputable def Y209:PO:=fun P=>⟨.none,none,.fields #[],#[]⟩
noncomputable def Y210:PO:=fun P=>⟨.type "tuple", none,.seq #[.str "primitives" 490,.str "cipher_suite" 491,.str "secret" 492,.str "version" 493,.str "algorithm" 494,.str "key_size" 495],#[]⟩
noncomputable def Y211:PO:=fun P=>⟨.type "tuple", none,.seq #[],#[]⟩
noncomputable def Y212:PO:=fun P=>⟨.none,none,.func ⟨"derive_key_iv_hp", "derive_key_iv_hp", ks4,.stmts kkv,jz1,0,[],.none,.none,.none,.none,none,.none,.none,0⟩,#[]⟩
noncomputable def kzj:PO:=fun P=>⟨.type "code", none,.fields #[.str "derive_key_iv_hp" 487,.str "derive_key_iv_hp" 488,.str "/claim/cut.py" 489,.int 109 0,.int 1 0,.int 0 0,.int 3 0,.int 3 0,.ref 198,.bool true,.int 181 0,.ref 199,.none,.ref 200,.ref 201,.ref 202,.int 496 0,.int 109 0,.str "/claim/cut.py" 497],#[]⟩
noncomputable def kzz:PO:=fun P=>⟨.type "function", none,.func ⟨"derive_key_iv_hp", "derive_key_iv_hp", ks4,.stmts kkv,jz1,3,[],.none,.none,.none,.str "aioquic.quic.crypto" 404,none,.ref 203,.none,0⟩,#[]⟩
noncomputable def top.tree_214 (P:Params):BT:=.node (boot_o_0 P) (.node (boot_o_1 P) (.node (Y193 P) (.node (boot_o_7 P) (.node (Y7 P) (.node (kzw P) (.node (Y58 P) (lf (kq1 P)) (lf (Y201 P))) (.node (Y93 P) (lf (vaw P)) .nil)) (.node (Y42 P) (.node (Y77 P) (lf (kt9 P)) .nil) (.node (kmj P) (lf (kqz P)) .nil))) (.node (Y15 P) (.node (Y34 P) (.node (Y66 P) (lf (kuk P)) (lf (Y209 P))) (.node (kmw P) (lf (kt4 P)) .nil)) (.node (Y50 P) (.node (Y85 P) (lf (va5 P)) .nil) (.node (kvz P) (lf (kz0 P)) .nil)))) (.node (Y1 P) (.node (Y11 P) (.node (Y30 P) (.node (Y62 P) (lf (ku2 P)) (lf (kzv P))) (.node (Y97 P) (lf (vaz P)) .nil)) (.node (Y46 P) (.node (Y81 P) (lf (va9 P)) .nil) (.node (kq5 P) (lf (kz4 P)) .nil))) (.node (Y19 P) (.node (Y38 P) (.node (Y70 P) (lf (kqk P)) (lf (kzj P))) (.node (kq9 P) (lf (kz6 P)) .nil)) (.node (Y54 P) (.node (Y89 P) (lf (kt7 P)) .nil) (.node (ku8 P) (lf (Y197 P)) .nil))))) (.node (boot_o_5 P) (.node (boot_o_9 P) (.node (Y9 P) (.node (Y25 P) (.node (Y60 P) (lf (ku4 P)) (lf (Y203 P))) (.node (Y95 P) (lf (vav P)) .nil)) (.node (Y44 P) (.node (Y79 P) (lf (kqv P)) .nil) (.node (kmz P) (lf (kt0 P)) .nil))) (.node (Y17 P) (.node (Y36 P) (.node (Y68 P) (lf (kuj P)) (lf (Y211 P))) (.node (krx P) (lf (kz8 P)) .nil)) (.node (Y52 P) (.node (Y87 P) (lf (va3 P)) .nil) (.node (kvq P) (lf (ktv P)) .nil)))) (.node (Y3 P) (.node (Y13 P) (.node (Y32 P) (.node (Y64 P) (lf (ku0 P)) (lf (Y207 P))) (.node (Y99 P) (lf (vaq P)) .nil)) (.node (Y48 P) (.node (Y83 P) (lf (va7 P)) .nil) (.node (kq3 P) (lf (kz2 P)) .nil))) (.node (Y21 P) (.node (Y40 P) (.node (Y75 P) (lf (kux P)) .nil) (.node (kq7 P) (lf (kt3 P)) .nil)) (.node (Y56 P) (.node (Y91 P) (lf (va1 P)) .nil) (.node (ku6 P) (lf (Y199 P)) .nil)))))) (.node (boot_o_2 P) (.node (boot_o_4 P) (.node (boot_o_8 P) (.node (Y8 P) (.node (Y24 P) (.node (Y59 P) (lf (kq0 P)) (lf (Y202 P))) (.node (Y94 P) (lf (vak P)) .nil)) (.node (Y43 P) (.node (Y78 P) (lf (kt8 P)) .nil) (.node (kq6 P) (lf (kt1 P)) .nil))) (.node (Y16 P) (.node (Y35 P) (.node (Y67 P) (lf (kuv P)) (lf (Y210 P))) (.node (kmk P) (lf (kz9 P)) .nil)) (.node (Y51 P) (.node (Y86 P) (lf (va4 P)) .nil) (.node (kvx P) (lf (ktk P)) .nil)))) (.node (Y194 P) (.node (Y12 P) (.node (Y31 P) (.node (Y63 P) (lf (ku1 P)) (lf (Y206 P))) (.node (Y98 P) (lf (vax P)) .nil)) (.node (Y47 P) (.node (Y82 P) (lf (va8 P)) .nil) (.node (kq4 P) (lf (kz3 P)) .nil))) (.node (Y20 P) (.node (Y39 P) (.node (Y71 P) (lf (kuz P)) (lf (kzz P))) (.node (kq8 P) (lf (kz5 P)) .nil)) (.node (Y55 P) (.node (Y90 P) (lf (kt6 P)) .nil) (.node (ku7 P) (lf (Y198 P)) .nil))))) (.node (boot_o_6 P) (.node (boot_o_10 P) (.node (Y10 P) (.node (Y26 P) (.node (Y61 P) (lf (ku3 P)) (lf (kzk P))) (.node (Y96 P) (lf (vaj P)) .nil)) (.node (Y45 P) (.node (Y80 P) (lf (kqj P)) .nil) (.node (kmx P) (lf (ktw P)) .nil))) (.node (Y18 P) (.node (Y37 P) (.node (Y69 P) (lf (kqw P)) (lf (Y212 P))) (.node (krq P) (lf (kz7 P)) .nil)) (.node (Y53 P) (.node (Y88 P) (lf (va2 P)) .nil) (.node (ku9 P) (lf (Y196 P)) .nil)))) (.node (Y4 P) (.node (Y14 P) (.node (Y33 P) (.node (Y65 P) (lf (kuw P)) (lf (Y208 P))) (.node (krz P) (lf (kt5 P)) .nil)) (.node (Y49 P) (.node (Y84 P) (lf (va6 P)) .nil) (.node (kq2 P) (lf (kz1 P)) .nil))) (.node (Y22 P) (.node (Y41 P) (.node (Y76 P) (lf (kuq P)) .nil) (.node (kmv P) (lf (kt2 P)) .nil)) (.node (Y57 P) (.node (Y92 P) (lf (va0 P)) .nil) (.node (ku5 P) (lf (Y200 P)) .nil))))))
noncomputable def Y216:PO:=fun P=>⟨.type "dict", none,.dict #[ent P "__name__" 165 (.str "aioquic.quic.crypto" 404),ent P "__doc__" 166 .none,ent P "__package__" 167 .none,ent P "__loader__" 168 (.builtin "__main__.__loader__#opaque"),ent P "__spec__" 169 .none,ent P "__annotations__" 170 (.ref 6),ent P "__builtins__" 171 (.ref 4),ent P "__file__" 173 (.str "/claim/cut.py" 172),ent P "__cached__" 174 .none,ent P "_wall" 193 (.ref 21),ent P "AEAD_NONCE_LENGTH" 197 (.int 12 196),ent P "PACKET_NUMBER_LENGTH_MAX" 199 (.int 4 198),ent P "SAMPLE_LENGTH" 201 (.int 16 200),ent P "CryptoError" 219 (.ref 31),ent P "AEAD" 283 (.ref 72),ent P "HeaderProtection" 354 (.ref 114),ent P "PACKET_LONG_HEADER" 358 (.int 128 357),ent P "QuicProtocolVersion" 384 (.ref 128),ent P "decode_packet_number" 396 (.ref 139),ent P "is_long_header" 403 (.ref 146),ent P "CipherSuite" 431 (.ref 156),ent P "cipher_suite_hash" 438 (.ref 167),ent P "hkdf_expand_label" 450 (.ref 174),ent P "CIPHER_SUITES" 463 (.ref 175),ent P "NoCallback" 470 (.ref 185),ent P "KeyUnavailableError" 486 (.ref 195),ent P "derive_key_iv_hp" 498 (.ref 204),ent P "CryptoContext" 596 (.ref 257)] 28,#[]⟩
noncomputable def Y217:PO:=fun P=>⟨.none,none,.fields #[.int 1 0,.int 0 0,.ref 20,.int 8 0,.int 0 0,.ref 27,.int 10 0,.int 0 0,.ref 40,.int 33 0,.int 0 0,.ref 82,.int 77 0,.int 0 0,.ref 124,.int 81 0,.int 0 0,.ref 138,.int 91 0,.int 0 0,.ref 145,.int 94 0,.int 0 0,.ref 152,.int 98 0,.int 0 0,.ref 166,.int 102 0,.int 0 0,.ref 173,.int 105 0,.int 0 0,.ref 184,.int 107 0,.int 0 0,.ref 191,.int 109 0,.int 0 0,.ref 203,.int 119 0,.int 0 0,.ref 210],#[]⟩
noncomputable def Y218:PO:=fun P=>⟨.type "tuple", none,.seq #[],#[]⟩
noncomputable def Y219:PO:=fun P=>⟨.type "builtin_function_or_method", none,.fields #[.builtin "type.__prepare__", .type "type"],#[]⟩
noncomputable def Y220:PO:=fun P=>⟨.type "dict", none,.dict #[ent P "__module__" 506 (.str "aioquic.quic.crypto" 404),ent P "__qualname__" 508 (.str "CryptoContext" 507),ent P "__firstlineno__" 510 (.int 119 509),ent P "__init__" 522 (.ref 219),ent P "decrypt_packet" 539 (.ref 226),ent P "encrypt_packet" 550 (.ref 233),ent P "is_valid" 557 (.ref 240),ent P "setup" 572 (.ref 247),ent P "teardown" 579 (.ref 254),ent P "__static_attributes__" 589 (.ref 255)] 10,#[]⟩
noncomputable def Y221:PO:=fun P=>⟨.type "tuple", none,.seq #[],#[]⟩
noncomputable def Y222:PO:=fun P=>⟨.none,none,.fields #[.int 121 0,.int 4 0,.ref 218,.int 132 0,.int 4 0,.ref 225,.int 147 0,.int 4 0,.ref 232,.int 152 0,.int 4 0,.ref 239,.int 155 0,.int 4 0,.ref 246,.int 165 0,.int 4 0,.ref 253],#[]⟩
noncomputable def Y223:PO:=fun P=>⟨.type "code", none,.fields #[.str "CryptoContext" 501,.str "CryptoContext" 502,.str "/claim/cut.py" 503,.int 119 0,.int 0 0,.int 0 0,.int 0 0,.int 0 0,.ref 208,.bool false,.int 181 0,.ref 209,.none,.none,.none,.none,.int 504 0,.int 119 0,.str "/claim/cut.py" 505],#[]⟩
noncomputable def Y224:PO:=fun P=>{ cls:=.type "frame", slots:=#[some (.ref 210),some (.ref 3),some (.ref 207),none,some (.str "aioquic.quic.crypto" 404),none,some (.ref 0)] }
noncomputable def Y225:PO:=fun P=>⟨.type "tuple", none,.seq #[.int 0 511,.ref 185,.ref 185],#[]⟩
noncomputable def Y226:PO:=fun P=>⟨.type "tuple", none,.seq #[],#[]⟩
noncomputable def Y227:PO:=fun P=>⟨.none,none,.fields #[],#[]⟩
noncomputable def Y228:PO:=fun P=>⟨.type "tuple", none,.seq #[.str "self" 515,.str "primitives" 516,.str "key_phase" 517,.str "setup_cb" 518,.str "teardown_cb" 519],#[]⟩
noncomputable def Y229:PO:=fun P=>⟨.type "tuple", none,.seq #[],#[]⟩
noncomputable def Y230:PO:=fun P=>⟨.none,none,.func ⟨"__init__", "CryptoContext.__init__", ka4,.stmts ju2,jqw,0,[],.none,.none,.none,.none,none,.none,.none,0⟩,#[]⟩
noncomputable def Y231:PO:=fun P=>⟨.type "code", none,.fields #[.str "__init__" 512,.str "CryptoContext.__init__" 513,.str "/claim/cut.py" 514,.int 121 0,.int 5 0,.int 0 0,.int 0 0,.int 3 0,.ref 213,.bool true,.int 181 0,.ref 214,.none,.ref 215,.ref 216,.ref 217,.int 520 0,.int 121 0,.str "/claim/cut.py" 521],#[]⟩
noncomputable def Y232:PO:=fun P=>⟨.type "function", none,.func ⟨"__init__", "CryptoContext.__init__", ka4,.stmts ju2,jqw,3,[],.ref 212,.none,.none,.str "aioquic.quic.crypto" 404,none,.ref 218,.none,0⟩,#[]⟩
noncomputable def Y233:PO:=fun P=>⟨.type "tuple", none,.seq #[],#[]⟩
noncomputable def Y234:PO:=fun P=>⟨.none,none,.fields #[],#[]⟩
noncomputable def Y235:PO:=fun P=>⟨.type "tuple", none,.seq #[.str "self" 526,.str "packet" 527,.str "encrypted_offset" 528,.str "expected_packet_number" 529,.str "plain_header" 530,.str "packet_number" 531,.str "first_byte" 532,.str "pn_length" 533,.str "crypto" 534,.str "key_phase" 535,.str "payload" 536],#[]⟩
noncomputable def Y236:PO:=fun P=>⟨.type "tuple", none,.seq #[],#[]⟩
noncomputable def Y237:PO:=fun P=>⟨.none,none,.func ⟨"decrypt_packet", "CryptoContext.decrypt_packet", ka3,.stmts jj5,jgv,0,[],.none,.none,.none,.none,none,.none,.none,0⟩,#[]⟩
noncomputable def Y238:PO:=fun P=>⟨.type "code", none,.fields #[.str "decrypt_packet" 523,.str "CryptoContext.decrypt_packet" 524,.str "/claim/cut.py" 525,.int 132 0,.int 4 0,.int 0 0,.int 0 0,.int 3 0,.ref 220,.bool true,.int 181 0,.ref 221,.none,.ref 222,.ref 223,.ref 224,.int 537 0,.int 132 0,.str "/claim/cut.py" 538],#[]⟩
noncomputable def Y239:PO:=fun P=>⟨.type "function", none,.func ⟨"decrypt_packet", "CryptoContext.decrypt_packet", ka3,.stmts jj5,jgv,3,[],.none,.none,.none,.str "aioquic.quic.crypto" 404,none,.ref 225,.none,0⟩,#[]⟩
noncomputable def Y240:PO:=fun P=>⟨.type "tuple", none,.seq #[],#[]⟩
noncomputable def Y241:PO:=fun P=>⟨.none,none,.fields #[],#[]⟩
noncomputable def Y242:PO:=fun P=>⟨.type "tuple", none,.seq #[.str "self" 543,.str "plain_header" 544,.str "plain_payload" 545,.str "packet_number" 546,.str "protected_payload" 547],#[]⟩
noncomputable def Y243:PO:=fun P=>⟨.type "tuple", none,.seq #[],#[]⟩
noncomputable def Y244:PO:=fun P=>⟨.none,none,.func ⟨"encrypt_packet", "CryptoContext.encrypt_packet", ka2,.stmts ju1,jqk,0,[],.none,.none,.none,.none,none,.none,.none,0⟩,#[]⟩
noncomputable def Y245:PO:=fun P=>⟨.type "code", none,.fields #[.str "encrypt_packet" 540,.str "CryptoContext.encrypt_packet" 541,.str "/claim/cut.py" 542,.int 147 0,.int 4 0,.int 0 0,.int 0 0,.int 3 0,.ref 227,.bool true,.int 181 0,.ref 228,.none,.ref 229,.ref 230,.ref 231,.int 548 0,.int 147 0,.str "/claim/cut.py" 549],#[]⟩
noncomputable def Y246:PO:=fun P=>⟨.type "function", none,.func ⟨"encrypt_packet", "CryptoContext.encrypt_packet", ka2,.stmts ju1,jqk,3,[],.none,.none,.none,.str "aioquic.quic.crypto" 404,none,.ref 232,.none,0⟩,#[]⟩
noncomputable def Y247:PO:=fun P=>⟨.type "tuple", none,.seq #[],#[]⟩
noncomputable def Y248:PO:=fun P=>⟨.none,none,.fields #[],#[]⟩
noncomputable def Y249:PO:=fun P=>⟨.type "tuple", none,.seq #[.str "self" 554],#[]⟩
noncomputable def Y250:PO:=fun P=>⟨.type "tuple", none,.seq #[],#[]⟩
noncomputable def Y251:PO:=fun P=>⟨.none,none,.func ⟨"is_valid", "CryptoContext.is_valid", ka1,.stmts ju0,jqv,0,[],.none,.none,.none,.none,none,.none,.none,0⟩,#[]⟩
noncomputable def Y252:PO:=fun P=>⟨.type "code", none,.fields #[.str "is_valid" 551,.str "CryptoContext.is_valid" 552,.str "/claim/cut.py" 553,.int 152 0,.int 1 0,.int 0 0,.int 0 0,.int 3 0,.ref 234,.bool true,.int 181 0,.ref 235,.none,.ref 236,.ref 237,.ref 238,.int 555 0,.int 152 0,.str "/claim/cut.py" 556],#[]⟩
noncomputable def Y253:PO:=fun P=>⟨.type "function", none,.func ⟨"is_valid", "CryptoContext.is_valid", ka1,.stmts ju0,jqv,3,[],.none,.none,.none,.str "aioquic.quic.crypto" 404,none,.ref 239,.none,0⟩,#[]⟩
noncomputable def Y254:PO:=fun P=>⟨.type "tuple", none,.seq #[],#[]⟩
noncomputable def Y255:PO:=fun P=>⟨.none,none,.fields #[],#[]⟩
noncomputable def Y256:PO:=fun P=>⟨.type "tuple", none,.seq #[.str "self" 561,.str "cipher_suite" 562,.str "secret" 563,.str "version" 564,.str "hp_cipher_name" 565,.str "aead_cipher_name" 566,.str "key" 567,.str "iv" 568,.str "hp" 569],#[]⟩
noncomputable def Y257:PO:=fun P=>⟨.type "tuple", none,.seq #[],#[]⟩
noncomputable def Y258:PO:=fun P=>⟨.none,none,.func ⟨"setup", "CryptoContext.setup", ka0,.stmts juw,jqj,0,[],.none,.none,.none,.none,none,.none,.none,0⟩,#[]⟩
noncomputable def Y259:PO:=fun P=>⟨.type "code", none,.fields #[.str "setup" 558,.str "CryptoContext.setup" 559,.str "/claim/cut.py" 560,.int 155 0,.int 1 0,.int 0 0,.int 3 0,.int 3 0,.ref 241,.bool true,.int 181 0,.ref 242,.none,.ref 243,.ref 244,.ref 245,.int 570 0,.int 155 0,.str "/claim/cut.py" 571],#[]⟩
noncomputable def Y260:PO:=fun P=>⟨.type "function", none,.func ⟨"setup", "CryptoContext.setup", ka0,.stmts juw,jqj,3,[],.none,.none,.none,.str "aioquic.quic.crypto" 404,none,.ref 246,.none,0⟩,#[]⟩
noncomputable def Y261:PO:=fun P=>⟨.type "tuple", none,.seq #[],#[]⟩
noncomputable def Y262:PO:=fun P=>⟨.none,none,.fields #[],#[]⟩
noncomputable def Y263:PO:=fun P=>⟨.type "tuple", none,.seq #[.str "self" 576],#[]⟩
noncomputable def Y264:PO:=fun P=>⟨.type "tuple", none,.seq #[],#[]⟩
noncomputable def Y265:PO:=fun P=>⟨.none,none,.func ⟨"teardown", "CryptoContext.teardown", kaw,.stmts juk,jqz,0,[],.none,.none,.none,.none,none,.none,.none,0⟩,#[]⟩
noncomputable def Y266:PO:=fun P=>⟨.type "code", none,.fields #[.str "teardown" 573,.str "CryptoContext.teardown" 574,.str "/claim/cut.py" 575,.int 165 0,.int 1 0,.int 0 0,.int 0 0,.int 3 0,.ref 248,.bool true,.int 181 0,.ref 249,.none,.ref 250,.ref 251,.ref 252,.int 577 0,.int 165 0,.str "/claim/cut.py" 578],#[]⟩
noncomputable def Y267:PO:=fun P=>⟨.type "function", none,.func ⟨"teardown", "CryptoContext.teardown", kaw,.stmts juk,jqz,3,[],.none,.none,.none,.str "aioquic.quic.crypto" 404,none,.ref 253,.none,0⟩,#[]⟩
noncomputable def Y268:PO:=fun P=>⟨.type "tuple", none,.seq #[.str "_setup_cb" 580,.str "_teardown_cb" 581,.str "aead" 582,.str "cipher_suite" 583,.str "hp" 584,.str "key_phase" 585,.str "primitives" 586,.str "secret" 587,.str "version" 588],#[]⟩
noncomputable def Y269:PO:=fun P=>⟨.type "dict", none,.dict #[ent P "__module__" 506 (.str "aioquic.quic.crypto" 404),ent P "__firstlineno__" 510 (.int 119 509),ent P "__init__" 522 (.ref 219),ent P "decrypt_packet" 539 (.ref 226),ent P "encrypt_packet" 550 (.ref 233),ent P "is_valid" 557 (.ref 240),ent P "setup" 572 (.ref 247),ent P "teardown" 579 (.ref 254),ent P "__static_attributes__" 589 (.ref 255),ent P "__dict__" 591 (.ref 258),ent P "__weakref__" 593 (.ref 259),ent P "__doc__" 594 .none] 4,#[]⟩
noncomputable def Y270:PO:=fun P=>⟨.type "type", none,Data.cls { name := "CryptoContext", bases:=[.type "object"],mro:=[.ref 257,.type "object"],ns:=256,qualname := "CryptoContext" },#[none,none,some (.str "CryptoContext" 499),some (.str "CryptoContext" 507),some (.builtin "object.__new__"),some (.bool true)]⟩
noncomputable def Y271:PO:=fun P=>⟨.type "getset_descriptor", none,.fields #[.str "__dict__" 590,.ref 257,.builtin "function.__dict__", .builtin "function.__dict__#set"],#[]⟩
noncomputable def Y272:PO:=fun P=>⟨.type "getset_descriptor", none,.fields #[.str "__weakref__" 592,.ref 257,.builtin "ExceptionGroup.__weakref__", .none],#[]⟩
noncomputable def Y273:PO:=fun P=>⟨.type "super", none,.fields #[.ref 257,.ref 257,.ref 257],#[]⟩
noncomputable def Y274:PO:=fun P=>⟨.type "builtin_function_or_method", none,.fields #[.builtin "object.__init_subclass__", .ref 257],#[]⟩
noncomputable def top.tree_274 (P:Params):BT:=.node (boot_o_0 P) (.node (boot_o_1 P) (.node (Y216 P) (.node (boot_o_7 P) (.node (Y7 P) (.node (kzw P) (.node (Y58 P) (.node (kq1 P) (lf (Y268 P)) .nil) (lf (Y201 P))) (.node (Y93 P) (lf (vaw P)) (lf (Y236 P)))) (.node (Y42 P) (.node (Y77 P) (lf (kt9 P)) (lf (Y220 P))) (.node (kmj P) (lf (kqz P)) (lf (Y252 P))))) (.node (Y15 P) (.node (Y34 P) (.node (Y66 P) (lf (kuk P)) (lf (Y209 P))) (.node (kmw P) (lf (kt4 P)) (lf (Y244 P)))) (.node (Y50 P) (.node (Y85 P) (lf (va5 P)) (lf (Y228 P))) (.node (kvz P) (lf (kz0 P)) (lf (Y260 P)))))) (.node (Y1 P) (.node (Y11 P) (.node (Y30 P) (.node (Y62 P) (.node (ku2 P) (lf (Y272 P)) .nil) (lf (kzv P))) (.node (Y97 P) (lf (vaz P)) (lf (Y240 P)))) (.node (Y46 P) (.node (Y81 P) (lf (va9 P)) (lf (Y224 P))) (.node (kq5 P) (lf (kz4 P)) (lf (Y256 P))))) (.node (Y19 P) (.node (Y38 P) (.node (Y70 P) (lf (kqk P)) (lf (kzj P))) (.node (kq9 P) (lf (kz6 P)) (lf (Y248 P)))) (.node (Y54 P) (.node (Y89 P) (lf (kt7 P)) (lf (Y232 P))) (.node (ku8 P) (lf (Y197 P)) (lf (Y264 P))))))) (.node (boot_o_5 P) (.node (boot_o_9 P) (.node (Y9 P) (.node (Y25 P) (.node (Y60 P) (.node (ku4 P) (lf (Y270 P)) .nil) (lf (Y203 P))) (.node (Y95 P) (lf (vav P)) (lf (Y238 P)))) (.node (Y44 P) (.node (Y79 P) (lf (kqv P)) (lf (Y222 P))) (.node (kmz P) (lf (kt0 P)) (lf (Y254 P))))) (.node (Y17 P) (.node (Y36 P) (.node (Y68 P) (lf (kuj P)) (lf (Y211 P))) (.node (krx P) (lf (kz8 P)) (lf (Y246 P)))) (.node (Y52 P) (.node (Y87 P) (lf (va3 P)) (lf (Y230 P))) (.node (kvq P) (lf (ktv P)) (lf (Y262 P)))))) (.node (Y3 P) (.node (Y13 P) (.node (Y32 P) (.node (Y64 P) (.node (ku0 P) (lf (Y274 P)) .nil) (lf (Y207 P))) (.node (Y99 P) (lf (vaq P)) (lf (Y242 P)))) (.node (Y48 P) (.node (Y83 P) (lf (va7 P)) (lf (Y226 P))) (.node (kq3 P) (lf (kz2 P)) (lf (Y258 P))))) (.node (Y21 P) (.node (Y40 P) (.node (Y75 P) (lf (kux P)) (lf (Y218 P))) (.node (kq7 P) (lf (kt3 P)) (lf (Y250 P)))) (.node (Y56 P) (.node (Y91 P) (lf (va1 P)) (lf (Y234 P))) (.node (ku6 P) (lf (Y199 P)) (lf (Y266 P)))))))) (.node (boot_o_2 P) (.node (boot_o_4 P) (.node (boot_o_8 P) (.node (Y8 P) (.node (Y24 P) (.node (Y59 P) (.node (kq0 P) (lf (Y269 P)) .nil) (lf (Y202 P))) (.node (Y94 P) (lf (vak P)) (lf (Y237 P)))) (.node (Y43 P) (.node (Y78 P) (lf (kt8 P)) (lf (Y221 P))) (.node (kq6 P) (lf (kt1 P)) (lf (Y253 P))))) (.node (Y16 P) (.node (Y35 P) (.node (Y67 P) (lf (kuv P)) (lf (Y210 P))) (.node (kmk P) (lf (kz9 P)) (lf (Y245 P)))) (.node (Y51 P) (.node (Y86 P) (lf (va4 P)) (lf (Y229 P))) (.node (kvx P) (lf (ktk P)) (lf (Y261 P)))))) (.node (Y217 P) (.node (Y12 P) (.node (Y31 P) (.node (Y63 P) (.node (ku1 P) (lf (Y273 P)) .nil) (lf (Y206 P))) (.node (Y98 P) (lf (vax P)) (lf (Y241 P)))) (.node (Y47 P) (.node (Y82 P) (lf (va8 P)) (lf (Y225 P))) (.node (kq4 P) (lf (kz3 P)) (lf (Y257 P))))) (.node (Y20 P) (.node (Y39 P) (.node (Y71 P) (lf (kuz P)) (lf (kzz P))) (.node (kq8 P) (lf (kz5 P)) (lf (Y249 P)))) (.node (Y55 P) (.node (Y90 P) (lf (kt6 P)) (lf (Y233 P))) (.node (ku7 P) (lf (Y198 P)) (lf (Y265 P))))))) (.node (boot_o_6 P) (.node (boot_o_10 P) (.node (Y10 P) (.node (Y26 P) (.node (Y61 P) (.node (ku3 P) (lf (Y271 P)) .nil) (lf (kzk P))) (.node (Y96 P) (lf (vaj P)) (lf (Y239 P)))) (.node (Y45 P) (.node (Y80 P) (lf (kqj P)) (lf (Y223 P))) (.node (kmx P) (lf (ktw P)) (lf (Y255 P))))) (.node (Y18 P) (.node (Y37 P) (.node (Y69 P) (lf (kqw P)) (lf (Y212 P))) (.node (krq P) (lf (kz7 P)) (lf (Y247 P)))) (.node (Y53 P) (.node (Y88 P) (lf (va2 P)) (lf (Y231 P))) (.node (ku9 P) (lf (Y196 P)) (lf (Y263 P)))))) (.node (Y4 P) (.node (Y14 P) (.node (Y33 P) (.node (Y65 P) (lf (kuw P)) (lf (Y208 P))) (.node (krz P) (lf (kt5 P)) (lf (Y243 P)))) (.node (Y49 P) (.node (Y84 P) (lf (va6 P)) (lf (Y227 P))) (.node (kq2 P) (lf (kz1 P)) (lf (Y259 P))))) (.node (Y22 P) (.node (Y41 P) (.node (Y76 P) (lf (kuq P)) (lf (Y219 P))) (.node (kmv P) (lf (kt2 P)) (lf (Y251 P)))) (.node (Y57 P) (.node (Y92 P) (lf (va0 P)) (lf (Y235 P))) (.node (ku5 P) (lf (Y200 P)) (lf (Y267 P))))))))
noncomputable def Y276:PO:=fun P=>⟨.type "dict", none,.dict #[ent P "__name__" 165 (.str "aioquic.quic.crypto" 404),ent P "__doc__" 166 .none,ent P "__package__" 167 .none,ent P "__loader__" 168 (.builtin "__main__.__loader__#opaque"),ent P "__spec__" 169 .none,ent P "__annotations__" 170 (.ref 6),ent P "__builtins__" 171 (.ref 4),ent P "__file__" 173 (.str "/claim/cut.py" 172),ent P "__cached__" 174 .none,ent P "_wall" 193 (.ref 21),ent P "AEAD_NONCE_LENGTH" 197 (.int 12 196),ent P "PACKET_NUMBER_LENGTH_MAX" 199 (.int 4 198),ent P "SAMPLE_LENGTH" 201 (.int 16 200),ent P "CryptoError" 219 (.ref 31),ent P "AEAD" 283 (.ref 72),ent P "HeaderProtection" 354 (.ref 114),ent P "PACKET_LONG_HEADER" 358 (.int 128 357),ent P "QuicProtocolVersion" 384 (.ref 128),ent P "decode_packet_number" 396 (.ref 139),ent P "is_long_header" 403 (.ref 146),ent P "CipherSuite" 431 (.ref 156),ent P "cipher_suite_hash" 438 (.ref 167),ent P "hkdf_expand_label" 450 (.ref 174),ent P "CIPHER_SUITES" 463 (.ref 175),ent P "NoCallback" 470 (.ref 185),ent P "KeyUnavailableError" 486 (.ref 195),ent P "derive_key_iv_hp" 498 (.ref 204),ent P "CryptoContext" 596 (.ref 257),ent P "apply_key_phase" 605 (.ref 268),ent P "next_key_phase" 615 (.ref 275)] 30,#[]⟩
noncomputable def Y277:PO:=fun P=>⟨.none,none,.fields #[.int 1 0,.int 0 0,.ref 20,.int 8 0,.int 0 0,.ref 27,.int 10 0,.int 0 0,.ref 40,.int 33 0,.int 0 0,.ref 82,.int 77 0,.int 0 0,.ref 124,.int 81 0,.int 0 0,.ref 138,.int 91 0,.int 0 0,.ref 145,.int 94 0,.int 0 0,.ref 152,.int 98 0,.int 0 0,.ref 166,.int 102 0,.int 0 0,.ref 173,.int 105 0,.int 0 0,.ref 184,.int 107 0,.int 0 0,.ref 191,.int 109 0,.int 0 0,.ref 203,.int 119 0,.int 0 0,.ref 210,.int 171 0,.int 0 0,.ref 267,.int 176 0,.int 0 0,.ref 274],#[]⟩
noncomputable def Y278:PO:=fun P=>⟨.type "tuple", none,.seq #[],#[]⟩
noncomputable def Y279:PO:=fun P=>⟨.none,none,.fields #[],#[]⟩
noncomputable def Y280:PO:=fun P=>⟨.type "tuple", none,.seq #[.str "self" 600,.str "crypto" 601,.str "trigger" 602],#[]⟩
noncomputable def Y281:PO:=fun P=>⟨.type "tuple", none,.seq #[],#[]⟩
noncomputable def Y282:PO:=fun P=>⟨.none,none,.func ⟨"apply_key_phase", "apply_key_phase", ks3,.stmts kkj,jz0,0,[],.none,.none,.none,.none,none,.none,.none,0⟩,#[]⟩
noncomputable def Y283:PO:=fun P=>⟨.type "code", none,.fields #[.str "apply_key_phase" 597,.str "apply_key_phase" 598,.str "/claim/cut.py" 599,.int 171 0,.int 3 0,.int 0 0,.int 0 0,.int 3 0,.ref 262,.bool true,.int 181 0,.ref 263,.none,.ref 264,.ref 265,.ref 266,.int 603 0,.int 171 0,.str "/claim/cut.py" 604],#[]⟩
noncomputable def Y284:PO:=fun P=>⟨.type "function", none,.func ⟨"apply_key_phase", "apply_key_phase", ks3,.stmts kkj,jz0,3,[],.none,.none,.none,.str "aioquic.quic.crypto" 404,none,.ref 267,.none,0⟩,#[]⟩
noncomputable def Y285:PO:=fun P=>⟨.type "tuple", none,.seq #[],#[]⟩
noncomputable def Y286:PO:=fun P=>⟨.none,none,.fields #[],#[]⟩
noncomputable def Y287:PO:=fun P=>⟨.type "tuple", none,.seq #[.str "self" 609,.str "algorithm" 610,.str "label" 611,.str "crypto" 612],#[]⟩
noncomputable def Y288:PO:=fun P=>⟨.type "tuple", none,.seq #[],#[]⟩
noncomputable def Y289:PO:=fun P=>⟨.none,none,.func ⟨"next_key_phase", "next_key_phase", ks2,.stmts kkz,jzw,0,[],.none,.none,.none,.none,none,.none,.none,0⟩,#[]⟩
noncomputable def Y290:PO:=fun P=>⟨.type "code", none,.fields #[.str "next_key_phase" 606,.str "next_key_phase" 607,.str "/claim/cut.py" 608,.int 176 0,.int 1 0,.int 0 0,.int 0 0,.int 3 0,.ref 269,.bool true,.int 181 0,.ref 270,.none,.ref 271,.ref 272,.ref 273,.int 613 0,.int 176 0,.str "/claim/cut.py" 614],#[]⟩
noncomputable def Y291:PO:=fun P=>⟨.type "function", none,.func ⟨"next_key_phase", "next_key_phase", ks2,.stmts kkz,jzw,3,[],.none,.none,.none,.str "aioquic.quic.crypto" 404,none,.ref 274,.none,0⟩,#[]⟩
noncomputable def top.tree_291 (P:Params):BT:=.node (boot_o_0 P) (.node (boot_o_1 P) (.node (Y276 P) (.node (boot_o_7 P) (.node (Y7 P) (.node (kzw P) (.node (Y58 P) (.node (kq1 P) (lf (Y268 P)) .nil) (lf (Y201 P))) (.node (Y93 P) (lf (vaw P)) (lf (Y236 P)))) (.node (Y42 P) (.node (Y77 P) (.node (kt9 P) (lf (Y287 P)) .nil) (lf (Y220 P))) (.node (kmj P) (lf (kqz P)) (lf (Y252 P))))) (.node (Y15 P) (.node (Y34 P) (.node (Y66 P) (.node (kuk P) (lf (Y279 P)) .nil) (lf (Y209 P))) (.node (kmw P) (lf (kt4 P)) (lf (Y244 P)))) (.node (Y50 P) (.node (Y85 P) (lf (va5 P)) (lf (Y228 P))) (.node (kvz P) (lf (kz0 P)) (lf (Y260 P)))))) (.node (Y1 P) (.node (Y11 P) (.node (Y30 P) (.node (Y62 P) (.node (ku2 P) (lf (Y272 P)) .nil) (lf (kzv P))) (.node (Y97 P) (lf (vaz P)) (lf (Y240 P)))) (.node (Y46 P) (.node (Y81 P) (.node (va9 P) (lf (Y291 P)) .nil) (lf (Y224 P))) (.node (kq5 P) (lf (kz4 P)) (lf (Y256 P))))) (.node (Y19 P) (.node (Y38 P) (.node (Y70 P) (.node (kqk P) (lf (Y283 P)) .nil) (lf (kzj P))) (.node (kq9 P) (lf (kz6 P)) (lf (Y248 P)))) (.node (Y54 P) (.node (Y89 P) (lf (kt7 P)) (lf (Y232 P))) (.node (ku8 P) (lf (Y197 P)) (lf (Y264 P))))))) (.node (boot_o_5 P) (.node (boot_o_9 P) (.node (Y9 P) (.node (Y25 P) (.node (Y60 P) (.node (ku4 P) (lf (Y270 P)) .nil) (lf (Y203 P))) (.node (Y95 P) (lf (vav P)) (lf (Y238 P)))) (.node (Y44 P) (.node (Y79 P) (.node (kqv P) (lf (Y289 P)) .nil) (lf (Y222 P))) (.node (kmz P) (lf (kt0 P)) (lf (Y254 P))))) (.node (Y17 P) (.node (Y36 P) (.node (Y68 P) (.node (kuj P) (lf (Y281 P)) .nil) (lf (Y211 P))) (.node (krx P) (lf (kz8 P)) (lf (Y246 P)))) (.node (Y52 P) (.node (Y87 P) (lf (va3 P)) (lf (Y230 P))) (.node (kvq P) (lf (ktv P)) (lf (Y262 P)))))) (.node (Y3 P) (.node (Y13 P) (.node (Y32 P) (.node (Y64 P) (.node (ku0 P) (lf (Y274 P)) .nil) (lf (Y207 P))) (.node (Y99 P) (lf (vaq P)) (lf (Y242 P)))) (.node (Y48 P) (.node (Y83 P) (lf (va7 P)) (lf (Y226 P))) (.node (kq3 P) (lf (kz2 P)) (lf (Y258 P))))) (.node (Y21 P) (.node (Y40 P) (.node (Y75 P) (.node (kux P) (lf (Y285 P)) .nil) (lf (Y218 P))) (.node (kq7 P) (lf (kt3 P)) (lf (Y250 P)))) (.node (Y56 P) (.node (Y91 P) (lf (va1 P)) (lf (Y234 P))) (.node (ku6 P) (lf (Y199 P)) (lf (Y266 P)))))))) (.node (boot_o_2 P) (.node (boot_o_4 P) (.node (boot_o_8 P) (.node (Y8 P) (.node (Y24 P) (.node (Y59 P) (.node (kq0 P) (lf (Y269 P)) .nil) (lf (Y202 P))) (.node (Y94 P) (lf (vak P)) (lf (Y237 P)))) (.node (Y43 P) (.node (Y78 P) (.node (kt8 P) (lf (Y288 P)) .nil) (lf (Y221 P))) (.node (kq6 P) (lf (kt1 P)) (lf (Y253 P))))) (.node (Y16 P) (.node (Y35 P) (.node (Y67 P) (.node (kuv P) (lf (Y280 P)) .nil) (lf (Y210 P))) (.node (kmk P) (lf (kz9 P)) (lf (Y245 P)))) (.node (Y51 P) (.node (Y86 P) (lf (va4 P)) (lf (Y229 P))) (.node (kvx P) (lf (ktk P)) (lf (Y261 P)))))) (.node (Y277 P) (.node (Y12 P) (.node (Y31 P) (.node (Y63 P) (.node (ku1 P) (lf (Y273 P)) .nil) (lf (Y206 P))) (.node (Y98 P) (lf (vax P)) (lf (Y241 P)))) (.node (Y47 P) (.node (Y82 P) (lf (va8 P)) (lf (Y225 P))) (.node (kq4 P) (lf (kz3 P)) (lf (Y257 P))))) (.node (Y20 P) (.node (Y39 P) (.node (Y71 P) (.node (kuz P) (lf (Y284 P)) .nil) (lf (kzz P))) (.node (kq8 P) (lf (kz5 P)) (lf (Y249 P)))) (.node (Y55 P) (.node (Y90 P) (lf (kt6 P)) (lf (Y233 P))) (.node (ku7 P) (lf (Y198 P)) (lf (Y265 P))))))) (.node (boot_o_6 P) (.node (boot_o_10 P) (.node (Y10 P) (.node (Y26 P) (.node (Y61 P) (.node (ku3 P) (lf (Y271 P)) .nil) (lf (kzk P))) (.node (Y96 P) (lf (vaj P)) (lf (Y239 P)))) (.node (Y45 P) (.node (Y80 P) (.node (kqj P) (lf (Y290 P)) .nil) (lf (Y223 P))) (.node (kmx P) (lf (ktw P)) (lf (Y255 P))))) (.node (Y18 P) (.node (Y37 P) (.node (Y69 P) (.node (kqw P) (lf (Y282 P)) .nil) (lf (Y212 P))) (.node (krq P) (lf (kz7 P)) (lf (Y247 P)))) (.node (Y53 P) (.node (Y88 P) (lf (va2 P)) (lf (Y231 P))) (.node (ku9 P) (lf (Y196 P)) (lf (Y263 P)))))) (.node (Y4 P) (.node (Y14 P) (.node (Y33 P) (.node (Y65 P) (.node (kuw P) (lf (Y278 P)) .nil) (lf (Y208 P))) (.node (krz P) (lf (kt5 P)) (lf (Y243 P)))) (.node (Y49 P) (.node (Y84 P) (lf (va6 P)) (lf (Y227 P))) (.node (kq2 P) (lf (kz1 P)) (lf (Y259 P))))) (.node (Y22 P) (.node (Y41 P) (.node (Y76 P) (.node (kuq P) (lf (Y286 P)) .nil) (lf (Y219 P))) (.node (kmv P) (lf (kt2 P)) (lf (Y251 P)))) (.node (Y57 P) (.node (Y92 P) (lf (va0 P)) (lf (Y235 P))) (.node (ku5 P) (lf (Y200 P)) (lf (Y267 P))))))))
noncomputable def Y293:PO:=fun P=>⟨.type "dict", none,.dict #[ent P "__name__" 165 (.str "aioquic.quic.crypto" 404),ent P "__doc__" 166 .none,ent P "__package__" 167 .none,ent P "__loader__" 168 (.builtin "__main__.__loader__#opaque"),ent P "__spec__" 169 .none,ent P "__annotations__" 170 (.ref 6),ent P "__builtins__" 171 (.ref 4),ent P "__file__" 173 (.str "/claim/cut.py" 172),ent P "__cached__" 174 .none,ent P "_wall" 193 (.ref 21),ent P "AEAD_NONCE_LENGTH" 197 (.int 12 196),ent P "PACKET_NUMBER_LENGTH_MAX" 199 (.int 4 198),ent P "SAMPLE_LENGTH" 201 (.int 16 200),ent P "CryptoError" 219 (.ref 31),ent P "AEAD" 283 (.ref 72),ent P "HeaderProtection" 354 (.ref 114),ent P "PACKET_LONG_HEADER" 358 (.int 128 357),ent P "QuicProtocolVersion" 384 (.ref 128),ent P "decode_packet_number" 396 (.ref 139),ent P "is_long_header" 403 (.ref 146),ent P "CipherSuite" 431 (.ref 156),ent P "cipher_suite_hash" 438 (.ref 167),ent P "hkdf_expand_label" 450 (.ref 174),ent P "CIPHER_SUITES" 463 (.ref 175),ent P "NoCallback" 470 (.ref 185),ent P "KeyUnavailableError" 486 (.ref 195),ent P "derive_key_iv_hp" 498 (.ref 204),ent P "CryptoContext" 596 (.ref 257),ent P "apply_key_phase" 605 (.ref 268),ent P "next_key_phase" 615 (.ref 275),ent P "CryptoPair" 716 (.ref 343)] 31,#[]⟩
noncomputable def Y294:PO:=fun P=>⟨.none,none,.fields #[.int 1 0,.int 0 0,.ref 20,.int 8 0,.int 0 0,.ref 27,.int 10 0,.int 0 0,.ref 40,.int 33 0,.int 0 0,.ref 82,.int 77 0,.int 0 0,.ref 124,.int 81 0,.int 0 0,.ref 138,.int 91 0,.int 0 0,.ref 145,.int 94 0,.int 0 0,.ref 152,.int 98 0,.int 0 0,.ref 166,.int 102 0,.int 0 0,.ref 173,.int 105 0,.int 0 0,.ref 184,.int 107 0,.int 0 0,.ref 191,.int 109 0,.int 0 0,.ref 203,.int 119 0,.int 0 0,.ref 210,.int 171 0,.int 0 0,.ref 267,.int 176 0,.int 0 0,.ref 274,.int 185 0,.int 0 0,.ref 281],#[]⟩
noncomputable def Y295:PO:=fun P=>⟨.type "tuple", none,.seq #[],#[]⟩
noncomputable def Y296:PO:=fun P=>⟨.type "builtin_function_or_method", none,.fields #[.builtin "type.__prepare__", .type "type"],#[]⟩
noncomputable def Y297:PO:=fun P=>⟨.type "dict", none,.dict #[ent P "__module__" 623 (.str "aioquic.quic.crypto" 404),ent P "__qualname__" 625 (.str "CryptoPair" 624),ent P "__firstlineno__" 627 (.int 185 626),ent P "__init__" 639 (.ref 290),ent P "decrypt_packet" 653 (.ref 297),ent P "encrypt_packet" 663 (.ref 304),ent P "setup_initial" 673 (.ref 311),ent P "teardown" 680 (.ref 318),ent P "update_key" 687 (.ref 325),ent P "key_phase" 695 (.ref 333),ent P "_update_key" 703 (.ref 340),ent P "__static_attributes__" 709 (.ref 341)] 12,#[]⟩
noncomputable def Y298:PO:=fun P=>⟨.type "tuple", none,.seq #[],#[]⟩
noncomputable def Y299:PO:=fun P=>⟨.none,none,.fields #[.int 187 0,.int 4 0,.ref 289,.int 194 0,.int 4 0,.ref 296,.int 200 0,.int 4 0,.ref 303,.int 205 0,.int 4 0,.ref 310,.int 208 0,.int 4 0,.ref 317,.int 212 0,.int 4 0,.ref 324,.int 216 0,.int 4 0,.ref 331,.int 222 0,.int 4 0,.ref 339],#[]⟩
noncomputable def Y300:PO:=fun P=>⟨.type "code", none,.fields #[.str "CryptoPair" 618,.str "CryptoPair" 619,.str "/claim/cut.py" 620,.int 185 0,.int 0 0,.int 0 0,.int 0 0,.int 0 0,.ref 279,.bool false,.int 181 0,.ref 280,.none,.none,.none,.none,.int 621 0,.int 185 0,.str "/claim/cut.py" 622],#[]⟩
noncomputable def Y301:PO:=fun P=>{ cls:=.type "frame", slots:=#[some (.ref 281),some (.ref 3),some (.ref 278),none,some (.str "aioquic.quic.crypto" 404),none,some (.ref 0)] }
noncomputable def Y302:PO:=fun P=>⟨.type "tuple", none,.seq #[.ref 185,.ref 185,.ref 185,.ref 185],#[]⟩
noncomputable def Y303:PO:=fun P=>⟨.type "tuple", none,.seq #[],#[]⟩
noncomputable def Y304:PO:=fun P=>⟨.none,none,.fields #[],#[]⟩
noncomputable def Y305:PO:=fun P=>⟨.type "tuple", none,.seq #[.str "self" 631,.str "primitives" 632,.str "recv_setup_cb" 633,.str "recv_teardown_cb" 634,.str "send_setup_cb" 635,.str "send_teardown_cb" 636],#[]⟩
noncomputable def Y306:PO:=fun P=>⟨.type "tuple", none,.seq #[],#[]⟩
noncomputable def Y307:PO:=fun P=>⟨.none,none,.func ⟨"__init__", "CryptoPair.__init__", kak,.stmts juv,jqx,0,[],.none,.none,.none,.none,none,.none,.none,0⟩,#[]⟩
noncomputable def Y308:PO:=fun P=>⟨.type "code", none,.fields #[.str "__init__" 628,.str "CryptoPair.__init__" 629,.str "/claim/cut.py" 630,.int 187 0,.int 6 0,.int 0 0,.int 0 0,.int 3 0,.ref 284,.bool true,.int 181 0,.ref 285,.none,.ref 286,.ref 287,.ref 288,.int 637 0,.int 187 0,.str "/claim/cut.py" 638],#[]⟩
noncomputable def Y309:PO:=fun P=>⟨.type "function", none,.func ⟨"__init__", "CryptoPair.__init__", kak,.stmts juv,jqx,3,[],.ref 283,.none,.none,.str "aioquic.quic.crypto" 404,none,.ref 289,.none,0⟩,#[]⟩
noncomputable def Y310:PO:=fun P=>⟨.type "tuple", none,.seq #[],#[]⟩
noncomputable def Y311:PO:=fun P=>⟨.none,none,.fields #[],#[]⟩
noncomputable def Y312:PO:=fun P=>⟨.type "tuple", none,.seq #[.str "self" 643,.str "packet" 644,.str "encrypted_offset" 645,.str "expected_packet_number" 646,.str "plain_header" 647,.str "payload" 648,.str "packet_number" 649,.str "update_key" 650],#[]⟩
noncomputable def Y313:PO:=fun P=>⟨.type "tuple", none,.seq #[],#[]⟩
noncomputable def Y314:PO:=fun P=>⟨.none,none,.func ⟨"decrypt_packet", "CryptoPair.decrypt_packet", kav,.stmts juj,jqq,0,[],.none,.none,.none,.none,none,.none,.none,0⟩,#[]⟩
noncomputable def Y315:PO:=fun P=>⟨.type "code", none,.fields #[.str "decrypt_packet" 640,.str "CryptoPair.decrypt_packet" 641,.str "/claim/cut.py" 642,.int 194 0,.int 4 0,.int 0 0,.int 0 0,.int 3 0,.ref 291,.bool true,.int 181 0,.ref 292,.none,.ref 293,.ref 294,.ref 295,.int 651 0,.int 194 0,.str "/claim/cut.py" 652],#[]⟩
noncomputable def Y316:PO:=fun P=>⟨.type "function", none,.func ⟨"decrypt_packet", "CryptoPair.decrypt_packet", kav,.stmts juj,jqq,3,[],.none,.none,.none,.str "aioquic.quic.crypto" 404,none,.ref 296,.none,0⟩,#[]⟩
noncomputable def Y317:PO:=fun P=>⟨.type "tuple", none,.seq #[],#[]⟩
noncomputable def Y318:PO:=fun P=>⟨.none,none,.fields #[],#[]⟩
noncomputable def Y319:PO:=fun P=>⟨.type "tuple", none,.seq #[.str "self" 657,.str "plain_header" 658,.str "plain_payload" 659,.str "packet_number" 660],#[]⟩
noncomputable def Y320:PO:=fun P=>⟨.type "tuple", none,.seq #[],#[]⟩
noncomputable def Y321:PO:=fun P=>⟨.none,none,.func ⟨"encrypt_packet", "CryptoPair.encrypt_packet", kaj,.stmts juz,jp9,0,[],.none,.none,.none,.none,none,.none,.none,0⟩,#[]⟩
noncomputable def Y322:PO:=fun P=>⟨.type "code", none,.fields #[.str "encrypt_packet" 654,.str "CryptoPair.encrypt_packet" 655,.str "/claim/cut.py" 656,.int 200 0,.int 4 0,.int 0 0,.int 0 0,.int 3 0,.ref 298,.bool true,.int 181 0,.ref 299,.none,.ref 300,.ref 301,.ref 302,.int 661 0,.int 200 0,.str "/claim/cut.py" 662],#[]⟩
noncomputable def Y323:PO:=fun P=>⟨.type "function", none,.func ⟨"encrypt_packet", "CryptoPair.encrypt_packet", kaj,.stmts juz,jp9,3,[],.none,.none,.none,.str "aioquic.quic.crypto" 404,none,.ref 303,.none,0⟩,#[]⟩
noncomputable def Y324:PO:=fun P=>⟨.type "tuple", none,.seq #[],#[]⟩
noncomputable def Y325:PO:=fun P=>⟨.none,none,.fields #[],#[]⟩
noncomputable def Y326:PO:=fun P=>⟨.type "tuple", none,.seq #[.str "self" 667,.str "cid" 668,.str "is_client" 669,.str "version" 670],#[]⟩
noncomputable def Y327:PO:=fun P=>⟨.type "tuple", none,.seq #[],#[]⟩
noncomputable def Y328:PO:=fun P=>⟨.none,none,.func ⟨"setup_initial", "CryptoPair.setup_initial", kaz,.stmts jux,jp8,0,[],.none,.none,.none,.none,none,.none,.none,0⟩,#[]⟩
noncomputable def Y329:PO:=fun P=>⟨.type "code", none,.fields #[.str "setup_initial" 664,.str "CryptoPair.setup_initial" 665,.str "/claim/cut.py" 666,.int 205 0,.int 4 0,.int 0 0,.int 0 0,.int 3 0,.ref 305,.bool true,.int 181 0,.ref 306,.none,.ref 307,.ref 308,.ref 309,.int 671 0,.int 205 0,.str "/claim/cut.py" 672],#[]⟩
noncomputable def Y330:PO:=fun P=>⟨.type "function", none,.func ⟨"setup_initial", "CryptoPair.setup_initial", kaz,.stmts jux,jp8,3,[],.none,.none,.none,.str "aioquic.quic.crypto" 404,none,.ref 310,.none,0⟩,#[]⟩
noncomputable def Y331:PO:=fun P=>⟨.type "tuple", none,.seq #[],#[]⟩
noncomputable def Y332:PO:=fun P=>⟨.none,none,.fields #[],#[]⟩
noncomputable def Y333:PO:=fun P=>⟨.type "tuple", none,.seq #[.str "self" 677],#[]⟩
noncomputable def Y334:PO:=fun P=>⟨.type "tuple", none,.seq #[],#[]⟩
noncomputable def Y335:PO:=fun P=>⟨.none,none,.func ⟨"teardown", "CryptoPair.teardown", kax,.stmts juq,jp7,0,[],.none,.none,.none,.none,none,.none,.none,0⟩,#[]⟩
noncomputable def Y336:PO:=fun P=>⟨.type "code", none,.fields #[.str "teardown" 674,.str "CryptoPair.teardown" 675,.str "/claim/cut.py" 676,.int 208 0,.int 1 0,.int 0 0,.int 0 0,.int 3 0,.ref 312,.bool true,.int 181 0,.ref 313,.none,.ref 314,.ref 315,.ref 316,.int 678 0,.int 208 0,.str "/claim/cut.py" 679],#[]⟩
noncomputable def Y337:PO:=fun P=>⟨.type "function", none,.func ⟨"teardown", "CryptoPair.teardown", kax,.stmts juq,jp7,3,[],.none,.none,.none,.str "aioquic.quic.crypto" 404,none,.ref 317,.none,0⟩,#[]⟩
noncomputable def Y338:PO:=fun P=>⟨.type "tuple", none,.seq #[],#[]⟩
noncomputable def Y339:PO:=fun P=>⟨.none,none,.fields #[],#[]⟩
noncomputable def Y340:PO:=fun P=>⟨.type "tuple", none,.seq #[.str "self" 684],#[]⟩
noncomputable def Y341:PO:=fun P=>⟨.type "tuple", none,.seq #[],#[]⟩
noncomputable def Y342:PO:=fun P=>⟨.none,none,.func ⟨"update_key", "CryptoPair.update_key", kaq,.stmts jt9,jp6,0,[],.none,.none,.none,.none,none,.none,.none,0⟩,#[]⟩
noncomputable def Y343:PO:=fun P=>⟨.type "code", none,.fields #[.str "update_key" 681,.str "CryptoPair.update_key" 682,.str "/claim/cut.py" 683,.int 212 0,.int 1 0,.int 0 0,.int 0 0,.int 3 0,.ref 319,.bool true,.int 181 0,.ref 320,.none,.ref 321,.ref 322,.ref 323,.int 685 0,.int 212 0,.str "/claim/cut.py" 686],#[]⟩
noncomputable def Y344:PO:=fun P=>⟨.type "function", none,.func ⟨"update_key", "CryptoPair.update_key", kaq,.stmts jt9,jp6,3,[],.none,.none,.none,.str "aioquic.quic.crypto" 404,none,.ref 324,.none,0⟩,#[]⟩
noncomputable def Y345:PO:=fun P=>⟨.type "tuple", none,.seq #[],#[]⟩
noncomputable def Y346:PO:=fun P=>⟨.none,none,.fields #[],#[]⟩
noncomputable def Y347:PO:=fun P=>⟨.type "tuple", none,.seq #[.str "self" 691],#[]⟩
noncomputable def Y348:PO:=fun P=>⟨.type "tuple", none,.seq #[],#[]⟩
noncomputable def Y349:PO:=fun P=>⟨.none,none,.func ⟨"key_phase", "CryptoPair.key_phase", jz9,.stmts jt8,jp5,0,[],.none,.none,.none,.none,none,.none,.none,0⟩,#[]⟩
noncomputable def Y350:PO:=fun P=>⟨.type "code", none,.fields #[.str "key_phase" 688,.str "CryptoPair.key_phase" 689,.str "/claim/cut.py" 690,.int 215 0,.int 1 0,.int 0 0,.int 0 0,.int 3 0,.ref 326,.bool true,.int 181 0,.ref 327,.none,.ref 328,.ref 329,.ref 330,.int 692 0,.int 215 0,.str "/claim/cut.py" 693],#[]⟩
noncomputable def Y351:PO:=fun P=>⟨.type "function", none,.func ⟨"key_phase", "CryptoPair.key_phase", jz9,.stmts jt8,jp5,3,[],.none,.none,.none,.str "aioquic.quic.crypto" 404,none,.ref 331,.none,0⟩,#[]⟩
noncomputable def Y352:PO:=fun P=>⟨.type "property", none,.fields #[.ref 332,.none,.none,.none,.str "key_phase" 695,.bool false],#[]⟩
noncomputable def Y353:PO:=fun P=>⟨.type "tuple", none,.seq #[],#[]⟩
noncomputable def Y354:PO:=fun P=>⟨.none,none,.fields #[],#[]⟩
noncomputable def Y355:PO:=fun P=>⟨.type "tuple", none,.seq #[.str "self" 699,.str "trigger" 700],#[]⟩
noncomputable def Y356:PO:=fun P=>⟨.type "tuple", none,.seq #[],#[]⟩
noncomputable def Y357:PO:=fun P=>⟨.none,none,.func ⟨"_update_key", "CryptoPair._update_key", jz8,.stmts jt7,jp4,0,[],.none,.none,.none,.none,none,.none,.none,0⟩,#[]⟩
noncomputable def Y358:PO:=fun P=>⟨.type "code", none,.fields #[.str "_update_key" 696,.str "CryptoPair._update_key" 697,.str "/claim/cut.py" 698,.int 222 0,.int 2 0,.int 0 0,.int 0 0,.int 3 0,.ref 334,.bool true,.int 181 0,.ref 335,.none,.ref 336,.ref 337,.ref 338,.int 701 0,.int 222 0,.str "/claim/cut.py" 702],#[]⟩
noncomputable def Y359:PO:=fun P=>⟨.type "function", none,.func ⟨"_update_key", "CryptoPair._update_key", jz8,.stmts jt7,jp4,3,[],.none,.none,.none,.str "aioquic.quic.crypto" 404,none,.ref 339,.none,0⟩,#[]⟩
noncomputable def Y360:PO:=fun P=>⟨.type "tuple", none,.seq #[.str "_update_key_requested" 704,.str "aead_tag_size" 705,.str "primitives" 706,.str "recv" 707,.str "send" 708],#[]⟩
noncomputable def Y361:PO:=fun P=>⟨.type "dict", none,.dict #[ent P "__module__" 623 (.str "aioquic.quic.crypto" 404),ent P "__firstlineno__" 627 (.int 185 626),ent P "__init__" 639 (.ref 290),ent P "decrypt_packet" 653 (.ref 297),ent P "encrypt_packet" 663 (.ref 304),ent P "setup_initial" 673 (.ref 311),ent P "teardown" 680 (.ref 318),ent P "update_key" 687 (.ref 325),ent P "key_phase" 695 (.ref 333),ent P "_update_key" 703 (.ref 340),ent P "__static_attributes__" 709 (.ref 341),ent P "__dict__" 711 (.ref 344),ent P "__weakref__" 713 (.ref 345),ent P "__doc__" 714 .none] 4,#[]⟩
noncomputable def Y362:PO:=fun P=>⟨.type "type", none,Data.cls { name := "CryptoPair", bases:=[.type "object"],mro:=[.ref 343,.type "object"],ns:=342,qualname := "CryptoPair" },#[none,none,some (.str "CryptoPair" 616),some (.str "CryptoPair" 624),some (.builtin "object.__new__"),some (.bool true)]⟩
noncomputable def Y363:PO:=fun P=>⟨.type "getset_descriptor", none,.fields #[.str "__dict__" 710,.ref 343,.builtin "function.__dict__", .builtin "function.__dict__#set"],#[]⟩
noncomputable def Y364:PO:=fun P=>⟨.type "getset_descriptor", none,.fields #[.str "__weakref__" 712,.ref 343,.builtin "ExceptionGroup.__weakref__", .none],#[]⟩
noncomputable def Y365:PO:=fun P=>⟨.type "super", none,.fields #[.ref 343,.ref 343,.ref 343],#[]⟩
noncomputable def Y366:PO:=fun P=>⟨.type "builtin_function_or_method", none,.fields #[.builtin "object.__init_subclass__", .ref 343],#[]⟩
noncomputable def top.tree_366 (P:Params):BT:=.node (boot_o_0 P) (.node (boot_o_1 P) (.node (Y293 P) (.node (boot_o_7 P) (.node (Y7 P) (.node (kzw P) (.node (Y58 P) (.node (kq1 P) (lf (Y268 P)) .nil) (.node (Y201 P) (lf (Y338 P)) .nil)) (.node (Y93 P) (.node (vaw P) (lf (Y306 P)) .nil) (lf (Y236 P)))) (.node (Y42 P) (.node (Y77 P) (.node (kt9 P) (lf (Y287 P)) .nil) (.node (Y220 P) (lf (Y354 P)) .nil)) (.node (kmj P) (.node (kqz P) (lf (Y322 P)) .nil) (lf (Y252 P))))) (.node (Y15 P) (.node (Y34 P) (.node (Y66 P) (.node (kuk P) (lf (Y279 P)) .nil) (.node (Y209 P) (lf (Y346 P)) .nil)) (.node (kmw P) (.node (kt4 P) (lf (Y314 P)) .nil) (lf (Y244 P)))) (.node (Y50 P) (.node (Y85 P) (.node (va5 P) (lf (Y298 P)) .nil) (.node (Y228 P) (lf (Y362 P)) .nil)) (.node (kvz P) (.node (kz0 P) (lf (Y330 P)) .nil) (lf (Y260 P)))))) (.node (Y1 P) (.node (Y11 P) (.node (Y30 P) (.node (Y62 P) (.node (ku2 P) (lf (Y272 P)) .nil) (.node (kzv P) (lf (Y342 P)) .nil)) (.node (Y97 P) (.node (vaz P) (lf (Y310 P)) .nil) (lf (Y240 P)))) (.node (Y46 P) (.node (Y81 P) (.node (va9 P) (lf (Y291 P)) .nil) (.node (Y224 P) (lf (Y358 P)) .nil)) (.node (kq5 P) (.node (kz4 P) (lf (Y326 P)) .nil) (lf (Y256 P))))) (.node (Y19 P) (.node (Y38 P) (.node (Y70 P) (.node (kqk P) (lf (Y283 P)) .nil) (.node (kzj P) (lf (Y350 P)) .nil)) (.node (kq9 P) (.node (kz6 P) (lf (Y318 P)) .nil) (lf (Y248 P)))) (.node (Y54 P) (.node (Y89 P) (.node (kt7 P) (lf (Y302 P)) .nil) (.node (Y232 P) (lf (Y366 P)) .nil)) (.node (ku8 P) (.node (Y197 P) (lf (Y334 P)) .nil) (lf (Y264 P))))))) (.node (boot_o_5 P) (.node (boot_o_9 P) (.node (Y9 P) (.node (Y25 P) (.node (Y60 P) (.node (ku4 P) (lf (Y270 P)) .nil) (.node (Y203 P) (lf (Y340 P)) .nil)) (.node (Y95 P) (.node (vav P) (lf (Y308 P)) .nil) (lf (Y238 P)))) (.node (Y44 P) (.node (Y79 P) (.node (kqv P) (lf (Y289 P)) .nil) (.node (Y222 P) (lf (Y356 P)) .nil)) (.node (kmz P) (.node (kt0 P) (lf (Y324 P)) .nil) (lf (Y254 P))))) (.node (Y17 P) (.node (Y36 P) (.node (Y68 P) (.node (kuj P) (lf (Y281 P)) .nil) (.node (Y211 P) (lf (Y348 P)) .nil)) (.node (krx P) (.node (kz8 P) (lf (Y316 P)) .nil) (lf (Y246 P)))) (.node (Y52 P) (.node (Y87 P) (.node (va3 P) (lf (Y300 P)) .nil) (.node (Y230 P) (lf (Y364 P)) .nil)) (.node (kvq P) (.node (ktv P) (lf (Y332 P)) .nil) (lf (Y262 P)))))) (.node (Y3 P) (.node (Y13 P) (.node (Y32 P) (.node (Y64 P) (.node (ku0 P) (lf (Y274 P)) .nil) (.node (Y207 P) (lf (Y344 P)) .nil)) (.node (Y99 P) (.node (vaq P) (lf (Y312 P)) .nil) (lf (Y242 P)))) (.node (Y48 P) (.node (Y83 P) (.node (va7 P) (lf (Y296 P)) .nil) (.node (Y226 P) (lf (Y360 P)) .nil)) (.node (kq3 P) (.node (kz2 P) (lf (Y328 P)) .nil) (lf (Y258 P))))) (.node (Y21 P) (.node (Y40 P) (.node (Y75 P) (.node (kux P) (lf (Y285 P)) .nil) (.node (Y218 P) (lf (Y352 P)) .nil)) (.node (kq7 P) (.node (kt3 P) (lf (Y320 P)) .nil) (lf (Y250 P)))) (.node (Y56 P) (.node (Y91 P) (.node (va1 P) (lf (Y304 P)) .nil) (lf (Y234 P))) (.node (ku6 P) (.node (Y199 P) (lf (Y336 P)) .nil) (lf (Y266 P)))))))) (.node (boot_o_2 P) (.node (boot_o_4 P) (.node (boot_o_8 P) (.node (Y8 P) (.node (Y24 P) (.node (Y59 P) (.node (kq0 P) (lf (Y269 P)) .nil) (.node (Y202 P) (lf (Y339 P)) .nil)) (.node (Y94 P) (.node (vak P) (lf (Y307 P)) .nil) (lf (Y237 P)))) (.node (Y43 P) (.node (Y78 P) (.node (kt8 P) (lf (Y288 P)) .nil) (.node (Y221 P) (lf (Y355 P)) .nil)) (.node (kq6 P) (.node (kt1 P) (lf (Y323 P)) .nil) (lf (Y253 P))))) (.node (Y16 P) (.node (Y35 P) (.node (Y67 P) (.node (kuv P) (lf (Y280 P)) .nil) (.node (Y210 P) (lf (Y347 P)) .nil)) (.node (kmk P) (.node (kz9 P) (lf (Y315 P)) .nil) (lf (Y245 P)))) (.node (Y51 P) (.node (Y86 P) (.node (va4 P) (lf (Y299 P)) .nil) (.node (Y229 P) (lf (Y363 P)) .nil)) (.node (kvx P) (.node (ktk P) (lf (Y331 P)) .nil) (lf (Y261 P)))))) (.node (Y294 P) (.node (Y12 P) (.node (Y31 P) (.node (Y63 P) (.node (ku1 P) (lf (Y273 P)) .nil) (.node (Y206 P) (lf (Y343 P)) .nil)) (.node (Y98 P) (.node (vax P) (lf (Y311 P)) .nil) (lf (Y241 P)))) (.node (Y47 P) (.node (Y82 P) (.node (va8 P) (lf (Y295 P)) .nil) (.node (Y225 P) (lf (Y359 P)) .nil)) (.node (kq4 P) (.node (kz3 P) (lf (Y327 P)) .nil) (lf (Y257 P))))) (.node (Y20 P) (.node (Y39 P) (.node (Y71 P) (.node (kuz P) (lf (Y284 P)) .nil) (.node (kzz P) (lf (Y351 P)) .nil)) (.node (kq8 P) (.node (kz5 P) (lf (Y319 P)) .nil) (lf (Y249 P)))) (.node (Y55 P) (.node (Y90 P) (.node (kt6 P) (lf (Y303 P)) .nil) (lf (Y233 P))) (.node (ku7 P) (.node (Y198 P) (lf (Y335 P)) .nil) (lf (Y265 P))))))) (.node (boot_o_6 P) (.node (boot_o_10 P) (.node (Y10 P) (.node (Y26 P) (.node (Y61 P) (.node (ku3 P) (lf (Y271 P)) .nil) (.node (kzk P) (lf (Y341 P)) .nil)) (.node (Y96 P) (.node (vaj P) (lf (Y309 P)) .nil) (lf (Y239 P)))) (.node (Y45 P) (.node (Y80 P) (.node (kqj P) (lf (Y290 P)) .nil) (.node (Y223 P) (lf (Y357 P)) .nil)) (.node (kmx P) (.node (ktw P) (lf (Y325 P)) .nil) (lf (Y255 P))))) (.node (Y18 P) (.node (Y37 P) (.node (Y69 P) (.node (kqw P) (lf (Y282 P)) .nil) (.node (Y212 P) (lf (Y349 P)) .nil)) (.node (krq P) (.node (kz7 P) (lf (Y317 P)) .nil) (lf (Y247 P)))) (.node (Y53 P) (.node (Y88 P) (.node (va2 P) (lf (Y301 P)) .nil) (.node (Y231 P) (lf (Y365 P)) .nil)) (.node (ku9 P) (.node (Y196 P) (lf (Y333 P)) .nil) (lf (Y263 P)))))) (.node (Y4 P) (.node (Y14 P) (.node (Y33 P) (.node (Y65 P) (.node (kuw P) (lf (Y278 P)) .nil) (.node (Y208 P) (lf (Y345 P)) .nil)) (.node (krz P) (.node (kt5 P) (lf (Y313 P)) .nil) (lf (Y243 P)))) (.node (Y49 P) (.node (Y84 P) (.node (va6 P) (lf (Y297 P)) .nil) (.node (Y227 P) (lf (Y361 P)) .nil)) (.node (kq2 P) (.node (kz1 P) (lf (Y329 P)) .nil) (lf (Y259 P))))) (.node (Y22 P) (.node (Y41 P) (.node (Y76 P) (.node (kuq P) (lf (Y286 P)) .nil) (.node (Y219 P) (lf (Y353 P)) .nil)) (.node (kmv P) (.node (kt2 P) (lf (Y321 P)) .nil) (lf (Y251 P)))) (.node (Y57 P) (.node (Y92 P) (.node (va0 P) (lf (Y305 P)) .nil) (lf (Y235 P))) (.node (ku5 P) (.node (Y200 P) (lf (Y337 P)) .nil) (lf (Y267 P))))))))
noncomputable def Y368:PO:=fun P=>⟨.type "dict", none,.dict #[ent P "__name__" 165 (.str "law_ix0009_01" 717),ent P "__doc__" 166 .none,ent P "__package__" 167 .none,ent P "__loader__" 168 (.builtin "__main__.__loader__#opaque"),ent P "__spec__" 169 .none,ent P "__annotations__" 170 (.ref 6),ent P "__builtins__" 171 (.ref 4),ent P "__file__" 173 (.str "/claim/cut.py" 172),ent P "__cached__" 174 .none,ent P "_wall" 193 (.ref 21),ent P "AEAD_NONCE_LENGTH" 197 (.int 12 196),ent P "PACKET_NUMBER_LENGTH_MAX" 199 (.int 4 198),ent P "SAMPLE_LENGTH" 201 (.int 16 200),ent P "CryptoError" 219 (.ref 31),ent P "AEAD" 283 (.ref 72),ent P "HeaderProtection" 354 (.ref 114),ent P "PACKET_LONG_HEADER" 358 (.int 128 357),ent P "QuicProtocolVersion" 384 (.ref 128),ent P "decode_packet_number" 396 (.ref 139),ent P "is_long_header" 403 (.ref 146),ent P "CipherSuite" 431 (.ref 156),ent P "cipher_suite_hash" 438 (.ref 167),ent P "hkdf_expand_label" 450 (.ref 174),ent P "CIPHER_SUITES" 463 (.ref 175),ent P "NoCallback" 470 (.ref 185),ent P "KeyUnavailableError" 486 (.ref 195),ent P "derive_key_iv_hp" 498 (.ref 204),ent P "CryptoContext" 596 (.ref 257),ent P "apply_key_phase" 605 (.ref 268),ent P "next_key_phase" 615 (.ref 275),ent P "CryptoPair" 716 (.ref 343),ent P "_law_suites" 724 (.ref 354)] 32,#[]⟩
noncomputable def Y369:PO:=fun P=>⟨.none,none,.fields #[.int 1 0,.int 0 0,.ref 20,.int 8 0,.int 0 0,.ref 27,.int 10 0,.int 0 0,.ref 40,.int 33 0,.int 0 0,.ref 82,.int 77 0,.int 0 0,.ref 124,.int 81 0,.int 0 0,.ref 138,.int 91 0,.int 0 0,.ref 145,.int 94 0,.int 0 0,.ref 152,.int 98 0,.int 0 0,.ref 166,.int 102 0,.int 0 0,.ref 173,.int 105 0,.int 0 0,.ref 184,.int 107 0,.int 0 0,.ref 191,.int 109 0,.int 0 0,.ref 203,.int 119 0,.int 0 0,.ref 210,.int 171 0,.int 0 0,.ref 267,.int 176 0,.int 0 0,.ref 274,.int 185 0,.int 0 0,.ref 281,.int 227 0,.int 0 0,.ref 353],#[]⟩
noncomputable def Y370:PO:=fun P=>⟨.type "tuple", none,.seq #[],#[]⟩
noncomputable def Y371:PO:=fun P=>⟨.none,none,.fields #[],#[]⟩
noncomputable def Y372:PO:=fun P=>⟨.type "tuple", none,.seq #[],#[]⟩
noncomputable def Y373:PO:=fun P=>⟨.type "tuple", none,.seq #[],#[]⟩
noncomputable def Y374:PO:=fun P=>⟨.none,none,.func ⟨"_law_suites", "_law_suites", ks1,.stmts kkx,jzk,0,[],.none,.none,.none,.none,none,.none,.none,0⟩,#[]⟩
noncomputable def Y375:PO:=fun P=>⟨.type "code", none,.fields #[.str "_law_suites" 719,.str "_law_suites" 720,.str "/claim/cut.py" 721,.int 227 0,.int 0 0,.int 0 0,.int 0 0,.int 3 0,.ref 348,.bool true,.int 181 0,.ref 349,.none,.ref 350,.ref 351,.ref 352,.int 722 0,.int 227 0,.str "/claim/cut.py" 723],#[]⟩
noncomputable def Y376:PO:=fun P=>⟨.type "function", none,.func ⟨"_law_suites", "_law_suites", ks1,.stmts kkx,jzk,3,[],.none,.none,.none,.str "law_ix0009_01" 717,none,.ref 353,.none,0⟩,#[]⟩
noncomputable def top.tree_376 (P:Params):BT:=.node (boot_o_0 P) (.node (boot_o_1 P) (.node (Y368 P) (.node (boot_o_7 P) (.node (Y7 P) (.node (kzw P) (.node (Y58 P) (.node (kq1 P) (lf (Y268 P)) .nil) (.node (Y201 P) (lf (Y338 P)) .nil)) (.node (Y93 P) (.node (vaw P) (lf (Y306 P)) .nil) (.node (Y236 P) (lf (Y373 P)) .nil))) (.node (Y42 P) (.node (Y77 P) (.node (kt9 P) (lf (Y287 P)) .nil) (.node (Y220 P) (lf (Y354 P)) .nil)) (.node (kmj P) (.node (kqz P) (lf (Y322 P)) .nil) (lf (Y252 P))))) (.node (Y15 P) (.node (Y34 P) (.node (Y66 P) (.node (kuk P) (lf (Y279 P)) .nil) (.node (Y209 P) (lf (Y346 P)) .nil)) (.node (kmw P) (.node (kt4 P) (lf (Y314 P)) .nil) (lf (Y244 P)))) (.node (Y50 P) (.node (Y85 P) (.node (va5 P) (lf (Y298 P)) .nil) (.node (Y228 P) (lf (Y362 P)) .nil)) (.node (kvz P) (.node (kz0 P) (lf (Y330 P)) .nil) (lf (Y260 P)))))) (.node (Y1 P) (.node (Y11 P) (.node (Y30 P) (.node (Y62 P) (.node (ku2 P) (lf (Y272 P)) .nil) (.node (kzv P) (lf (Y342 P)) .nil)) (.node (Y97 P) (.node (vaz P) (lf (Y310 P)) .nil) (lf (Y240 P)))) (.node (Y46 P) (.node (Y81 P) (.node (va9 P) (lf (Y291 P)) .nil) (.node (Y224 P) (lf (Y358 P)) .nil)) (.node (kq5 P) (.node (kz4 P) (lf (Y326 P)) .nil) (lf (Y256 P))))) (.node (Y19 P) (.node (Y38 P) (.node (Y70 P) (.node (kqk P) (lf (Y283 P)) .nil) (.node (kzj P) (lf (Y350 P)) .nil)) (.node (kq9 P) (.node (kz6 P) (lf (Y318 P)) .nil) (lf (Y248 P)))) (.node (Y54 P) (.node (Y89 P) (.node (kt7 P) (lf (Y302 P)) .nil) (.node (Y232 P) (lf (Y366 P)) .nil)) (.node (ku8 P) (.node (Y197 P) (lf (Y334 P)) .nil) (lf (Y264 P))))))) (.node (boot_o_5 P) (.node (boot_o_9 P) (.node (Y9 P) (.node (Y25 P) (.node (Y60 P) (.node (ku4 P) (lf (Y270 P)) .nil) (.node (Y203 P) (lf (Y340 P)) .nil)) (.node (Y95 P) (.node (vav P) (lf (Y308 P)) .nil) (.node (Y238 P) (lf (Y375 P)) .nil))) (.node (Y44 P) (.node (Y79 P) (.node (kqv P) (lf (Y289 P)) .nil) (.node (Y222 P) (lf (Y356 P)) .nil)) (.node (kmz P) (.node (kt0 P) (lf (Y324 P)) .nil) (lf (Y254 P))))) (.node (Y17 P) (.node (Y36 P) (.node (Y68 P) (.node (kuj P) (lf (Y281 P)) .nil) (.node (Y211 P) (lf (Y348 P)) .nil)) (.node (krx P) (.node (kz8 P) (lf (Y316 P)) .nil) (lf (Y246 P)))) (.node (Y52 P) (.node (Y87 P) (.node (va3 P) (lf (Y300 P)) .nil) (.node (Y230 P) (lf (Y364 P)) .nil)) (.node (kvq P) (.node (ktv P) (lf (Y332 P)) .nil) (lf (Y262 P)))))) (.node (Y3 P) (.node (Y13 P) (.node (Y32 P) (.node (Y64 P) (.node (ku0 P) (lf (Y274 P)) .nil) (.node (Y207 P) (lf (Y344 P)) .nil)) (.node (Y99 P) (.node (vaq P) (lf (Y312 P)) .nil) (lf (Y242 P)))) (.node (Y48 P) (.node (Y83 P) (.node (va7 P) (lf (Y296 P)) .nil) (.node (Y226 P) (lf (Y360 P)) .nil)) (.node (kq3 P) (.node (kz2 P) (lf (Y328 P)) .nil) (lf (Y258 P))))) (.node (Y21 P) (.node (Y40 P) (.node (Y75 P) (.node (kux P) (lf (Y285 P)) .nil) (.node (Y218 P) (lf (Y352 P)) .nil)) (.node (kq7 P) (.node (kt3 P) (lf (Y320 P)) .nil) (lf (Y250 P)))) (.node (Y56 P) (.node (Y91 P) (.node (va1 P) (lf (Y304 P)) .nil) (.node (Y234 P) (lf (Y371 P)) .nil)) (.node (ku6 P) (.node (Y199 P) (lf (Y336 P)) .nil) (lf (Y266 P)))))))) (.node (boot_o_2 P) (.node (boot_o_4 P) (.node (boot_o_8 P) (.node (Y8 P) (.node (Y24 P) (.node (Y59 P) (.node (kq0 P) (lf (Y269 P)) .nil) (.node (Y202 P) (lf (Y339 P)) .nil)) (.node (Y94 P) (.node (vak P) (lf (Y307 P)) .nil) (.node (Y237 P) (lf (Y374 P)) .nil))) (.node (Y43 P) (.node (Y78 P) (.node (kt8 P) (lf (Y288 P)) .nil) (.node (Y221 P) (lf (Y355 P)) .nil)) (.node (kq6 P) (.node (kt1 P) (lf (Y323 P)) .nil) (lf (Y253 P))))) (.node (Y16 P) (.node (Y35 P) (.node (Y67 P) (.node (kuv P) (lf (Y280 P)) .nil) (.node (Y210 P) (lf (Y347 P)) .nil)) (.node (kmk P) (.node (kz9 P) (lf (Y315 P)) .nil) (lf (Y245 P)))) (.node (Y51 P) (.node (Y86 P) (.node (va4 P) (lf (Y299 P)) .nil) (.node (Y229 P) (lf (Y363 P)) .nil)) (.node (kvx P) (.node (ktk P) (lf (Y331 P)) .nil) (lf (Y261 P)))))) (.node (Y369 P) (.node (Y12 P) (.node (Y31 P) (.node (Y63 P) (.node (ku1 P) (lf (Y273 P)) .nil) (.node (Y206 P) (lf (Y343 P)) .nil)) (.node (Y98 P) (.node (vax P) (lf (Y311 P)) .nil) (lf (Y241 P)))) (.node (Y47 P) (.node (Y82 P) (.node (va8 P) (lf (Y295 P)) .nil) (.node (Y225 P) (lf (Y359 P)) .nil)) (.node (kq4 P) (.node (kz3 P) (lf (Y327 P)) .nil) (lf (Y257 P))))) (.node (Y20 P) (.node (Y39 P) (.node (Y71 P) (.node (kuz P) (lf (Y284 P)) .nil) (.node (kzz P) (lf (Y351 P)) .nil)) (.node (kq8 P) (.node (kz5 P) (lf (Y319 P)) .nil) (lf (Y249 P)))) (.node (Y55 P) (.node (Y90 P) (.node (kt6 P) (lf (Y303 P)) .nil) (.node (Y233 P) (lf (Y370 P)) .nil)) (.node (ku7 P) (.node (Y198 P) (lf (Y335 P)) .nil) (lf (Y265 P))))))) (.node (boot_o_6 P) (.node (boot_o_10 P) (.node (Y10 P) (.node (Y26 P) (.node (Y61 P) (.node (ku3 P) (lf (Y271 P)) .nil) (.node (kzk P) (lf (Y341 P)) .nil)) (.node (Y96 P) (.node (vaj P) (lf (Y309 P)) .nil) (.node (Y239 P) (lf (Y376 P)) .nil))) (.node (Y45 P) (.node (Y80 P) (.node (kqj P) (lf (Y290 P)) .nil) (.node (Y223 P) (lf (Y357 P)) .nil)) (.node (kmx P) (.node (ktw P) (lf (Y325 P)) .nil) (lf (Y255 P))))) (.node (Y18 P) (.node (Y37 P) (.node (Y69 P) (.node (kqw P) (lf (Y282 P)) .nil) (.node (Y212 P) (lf (Y349 P)) .nil)) (.node (krq P) (.node (kz7 P) (lf (Y317 P)) .nil) (lf (Y247 P)))) (.node (Y53 P) (.node (Y88 P) (.node (va2 P) (lf (Y301 P)) .nil) (.node (Y231 P) (lf (Y365 P)) .nil)) (.node (ku9 P) (.node (Y196 P) (lf (Y333 P)) .nil) (lf (Y263 P)))))) (.node (Y4 P) (.node (Y14 P) (.node (Y33 P) (.node (Y65 P) (.node (kuw P) (lf (Y278 P)) .nil) (.node (Y208 P) (lf (Y345 P)) .nil)) (.node (krz P) (.node (kt5 P) (lf (Y313 P)) .nil) (lf (Y243 P)))) (.node (Y49 P) (.node (Y84 P) (.node (va6 P) (lf (Y297 P)) .nil) (.node (Y227 P) (lf (Y361 P)) .nil)) (.node (kq2 P) (.node (kz1 P) (lf (Y329 P)) .nil) (lf (Y259 P))))) (.node (Y22 P) (.node (Y41 P) (.node (Y76 P) (.node (kuq P) (lf (Y286 P)) .nil) (.node (Y219 P) (lf (Y353 P)) .nil)) (.node (kmv P) (.node (kt2 P) (lf (Y321 P)) .nil) (lf (Y251 P)))) (.node (Y57 P) (.node (Y92 P) (.node (va0 P) (lf (Y305 P)) .nil) (.node (Y235 P) (lf (Y372 P)) .nil)) (.node (ku5 P) (.node (Y200 P) (lf (Y337 P)) .nil) (lf (Y267 P))))))))
noncomputable def top.env_1:Env:={ scope:=PySem.Challenge.pw_ix0009_01.main.scope,locals:=mainNs,globals:=mainNs,cells:=[],code:=Value.ref 13,frame:=some 14 }
noncomputable def top.sts_4:List Stmt:=sts 0 6
noncomputable def top.sts_28:List Stmt:=sts 6 1
noncomputable def top.sts_73:List Stmt:=sts 7 3
noncomputable def top.sts_118:List Stmt:=sts 10 4
noncomputable def top.sts_149:List Stmt:=sts 14 5
noncomputable def top.sts_193:List Stmt:=sts 19 2
noncomputable def top.sts_216:List Stmt:=sts 21 1
noncomputable def top.sts_276:List Stmt:=sts 22 2
noncomputable def top.sts_293:List Stmt:=sts 24 1
noncomputable def top.sts_368:List Stmt:=sts 25 2
theorem piece0 (w:World) (p:Program) (b:List Stmt) (os:OsState):segRunT treeTable p w 11 (some (.ref 6)) 1 252 { tree:=top.tree_4 w.params,n:=15,life:={ },gens:={ toList:=[] },drawn:={ },toks:=187,os:=os } (piecesOf top.sts_4 top.env_1 (Code.body b top.env_1) ⟨0,0,0,0⟩ [topFrame ⟨0,0,0,0⟩])=some (Flow.next,{ tree:=top.tree_26 w.params,n:=35,life:={ },gens:={ toList:=[] },drawn:={ },toks:=220,os:=os },Code.body b top.env_1,⟨8,0,9,8⟩):=by
 rw [Fast.te10110043849684766642,Fast.te14364793385576792824]
 kernel_rfl
theorem piece1 (w:World) (p:Program) (b:List Stmt) (os:OsState):segRunT treeTable p w 11 (some (.ref 6)) 1 330 { tree:=top.tree_26 w.params,n:=35,life:={ },gens:={ toList:=[] },drawn:={ },toks:=220,os:=os } (piecesOf top.sts_28 top.env_1 (Code.body b top.env_1) ⟨8,0,9,8⟩ [topFrame ⟨0,0,0,0⟩])=some (Flow.next,{ tree:=top.tree_71 w.params,n:=77,life:={ },gens:={ toList:=[] },drawn:={ },toks:=284,os:=os },Code.body b top.env_1,⟨10,0,32,76⟩):=by
 rw [Fast.te10110043849684766642,Fast.te14364793385576792824]
 kernel_rfl
theorem piece2 (w:World) (p:Program) (b:List Stmt) (os:OsState):segRunT treeTable p w 11 (some (.ref 6)) 1 355 { tree:=top.tree_71 w.params,n:=77,life:={ },gens:={ toList:=[] },drawn:={ },toks:=284,os:=os } (piecesOf top.sts_73 top.env_1 (Code.body b top.env_1) ⟨10,0,32,76⟩ [topFrame ⟨0,0,0,0⟩])=some (Flow.next,{ tree:=top.tree_116 w.params,n:=119,life:={ },gens:={ toList:=[] },drawn:={ },toks:=359,os:=os },Code.body b top.env_1,⟨76,0,76,18⟩):=by
 rw [Fast.te10110043849684766642,Fast.te14364793385576792824]
 kernel_rfl
theorem piece3 (w:World) (p:Program) (b:List Stmt) (os:OsState):segRunT treeTable p w 11 (some (.ref 6)) 1 292 { tree:=top.tree_116 w.params,n:=119,life:={ },gens:={ toList:=[] },drawn:={ },toks:=359,os:=os } (piecesOf top.sts_118 top.env_1 (Code.body b top.env_1) ⟨76,0,76,18⟩ [topFrame ⟨0,0,0,0⟩])=some (Flow.next,{ tree:=top.tree_147 w.params,n:=147,life:={ },gens:={ toList:=[] },drawn:={ },toks:=406,os:=os },Code.body b top.env_1,⟨93,0,93,8⟩):=by
 rw [Fast.te10110043849684766642,Fast.te14364793385576792824]
 kernel_rfl
theorem kwj (w:World) (p:Program) (b:List Stmt) (os:OsState):segRunT treeTable p (w.withFollow "special-get-raises" false) 11 (some (.ref 6)) 1 370 { tree:=top.tree_147 (w.withFollow "special-get-raises" false).params,n:=147,life:={ },gens:={ toList:=[] },drawn:={ },toks:=406,os:=os } (piecesOf top.sts_149 top.env_1 (Code.body b top.env_1) ⟨93,0,93,8⟩ [topFrame ⟨0,0,0,0⟩])=some (Flow.next,{ tree:=top.tree_189 (w.withFollow "special-get-raises" false).params,n:=186,life:={ },gens:={ toList:=[] },drawn:={ },toks:=471,os:=os },Code.body b top.env_1,⟨105,0,106,8⟩):=by
 rw [Fast.te10110043849684766642,Fast.te14364793385576792824]
 kernel_rfl
theorem kwz (w:World) (p:Program) (b:List Stmt) (os:OsState):segRunT treeTable p (w.withFollow "special-get-raises" true) 11 (some (.ref 6)) 1 370 { tree:=top.tree_147 (w.withFollow "special-get-raises" true).params,n:=147,life:={ },gens:={ toList:=[] },drawn:={ },toks:=406,os:=os } (piecesOf top.sts_149 top.env_1 (Code.body b top.env_1) ⟨93,0,93,8⟩ [topFrame ⟨0,0,0,0⟩])=some (Flow.next,{ tree:=top.tree_189 (w.withFollow "special-get-raises" true).params,n:=186,life:={ },gens:={ toList:=[] },drawn:={ },toks:=471,os:=os },Code.body b top.env_1,⟨105,0,106,8⟩):=by
 rw [Fast.te10110043849684766642,Fast.te14364793385576792824]
 kernel_rfl
theorem piece4 (w:World) (p:Program) (b:List Stmt) (os:OsState):segRunT treeTable p w 11 (some (.ref 6)) 1 370 { tree:=top.tree_147 w.params,n:=147,life:={ },gens:={ toList:=[] },drawn:={ },toks:=406,os:=os } (piecesOf top.sts_149 top.env_1 (Code.body b top.env_1) ⟨93,0,93,8⟩ [topFrame ⟨0,0,0,0⟩])=some (Flow.next,{ tree:=top.tree_189 w.params,n:=186,life:={ },gens:={ toList:=[] },drawn:={ },toks:=471,os:=os },Code.body b top.env_1,⟨105,0,106,8⟩) :=
 byRow2 "special-get-raises" (P:=fun w=>segRunT treeTable p w 11 (some (.ref 6)) 1 370 { tree:=top.tree_147 w.params,n:=147,life:={ },gens:={ toList:=[] },drawn:={ },toks:=406,os:=os } (piecesOf top.sts_149 top.env_1 (Code.body b top.env_1) ⟨93,0,93,8⟩ [topFrame ⟨0,0,0,0⟩])=some (Flow.next,{ tree:=top.tree_189 w.params,n:=186,life:={ },gens:={ toList:=[] },drawn:={ },toks:=471,os:=os },Code.body b top.env_1,⟨105,0,106,8⟩)) (fun w=>kwj w p b os) (fun w=>kwz w p b os) w
theorem piece5 (w:World) (p:Program) (b:List Stmt) (os:OsState):segRunT treeTable p w 11 (some (.ref 6)) 1 248 { tree:=top.tree_189 w.params,n:=186,life:={ },gens:={ toList:=[] },drawn:={ },toks:=471,os:=os } (piecesOf top.sts_193 top.env_1 (Code.body b top.env_1) ⟨105,0,106,8⟩ [topFrame ⟨0,0,0,0⟩])=some (Flow.next,{ tree:=top.tree_214 w.params,n:=205,life:={ },gens:={ toList:=[] },drawn:={ },toks:=499,os:=os },Code.body b top.env_1,⟨109,0,118,241⟩):=by
 rw [Fast.te10110043849684766642,Fast.te14364793385576792824]
 kernel_rfl
theorem piece6 (w:World) (p:Program) (b:List Stmt) (os:OsState):segRunT treeTable p w 11 (some (.ref 6)) 1 421 { tree:=top.tree_214 w.params,n:=205,life:={ },gens:={ toList:=[] },drawn:={ },toks:=499,os:=os } (piecesOf top.sts_216 top.env_1 (Code.body b top.env_1) ⟨109,0,118,241⟩ [topFrame ⟨0,0,0,0⟩])=some (Flow.next,{ tree:=top.tree_274 w.params,n:=262,life:={ },gens:={ toList:=[] },drawn:={ },toks:=597,os:=os },Code.body b top.env_1,⟨119,0,170,32⟩):=by
 rw [Fast.te10110043849684766642,Fast.te14364793385576792824]
 kernel_rfl
theorem piece7 (w:World) (p:Program) (b:List Stmt) (os:OsState):segRunT treeTable p w 11 (some (.ref 6)) 1 64 { tree:=top.tree_274 w.params,n:=262,life:={ },gens:={ toList:=[] },drawn:={ },toks:=597,os:=os } (piecesOf top.sts_276 top.env_1 (Code.body b top.env_1) ⟨119,0,170,32⟩ [topFrame ⟨0,0,0,0⟩])=some (Flow.next,{ tree:=top.tree_291 w.params,n:=276,life:={ },gens:={ toList:=[] },drawn:={ },toks:=616,os:=os },Code.body b top.env_1,⟨176,0,184,17⟩):=by
 rw [Fast.te10110043849684766642,Fast.te14364793385576792824]
 kernel_rfl
theorem piece8 (w:World) (p:Program) (b:List Stmt) (os:OsState):segRunT treeTable p w 11 (some (.ref 6)) 1 537 { tree:=top.tree_291 w.params,n:=276,life:={ },gens:={ toList:=[] },drawn:={ },toks:=616,os:=os } (piecesOf top.sts_293 top.env_1 (Code.body b top.env_1) ⟨176,0,184,17⟩ [topFrame ⟨0,0,0,0⟩])=some (Flow.next,{ tree:=top.tree_366 w.params,n:=348,life:={ },gens:={ toList:=[] },drawn:={ },toks:=717,os:=os },Code.body b top.env_1,⟨185,0,225,42⟩):=by
 rw [Fast.te10110043849684766642,Fast.te14364793385576792824]
 kernel_rfl
theorem piece9 (w:World) (p:Program) (b:List Stmt) (os:OsState):segRunT treeTable p w 11 (some (.ref 6)) 1 38 { tree:=top.tree_366 w.params,n:=348,life:={ },gens:={ toList:=[] },drawn:={ },toks:=717,os:=os } (piecesOf top.sts_368 top.env_1 (Code.body b top.env_1) ⟨185,0,225,42⟩ [topFrame ⟨0,0,0,0⟩])=some (Flow.next,{ tree:=top.tree_376 w.params,n:=355,life:={ },gens:={ toList:=[] },drawn:={ },toks:=725,os:=os },Code.body b top.env_1,⟨227,0,228,29⟩):=by
 rw [Fast.te10110043849684766642,Fast.te14364793385576792824]
 kernel_rfl
theorem top.chain (p:Program) (b:List Stmt) (w:World) (os:OsState) (rest:List Stmt) (N:Nat) (r:Shared)
  (h:topRun treeTable p w 11 (some (.ref 6)) N (SharedT.abs { tree:=top.tree_376 w.params,n:=355,life:={ },gens:={ toList:=[] },drawn:={ },toks:=725,os:=os }) (restOf rest top.env_1 (Code.body b top.env_1) ⟨227,0,228,29⟩ [topFrame ⟨0,0,0,0⟩])=some r) :
  topRun treeTable p w 11 (some (.ref 6)) (Nat.add 252 (Nat.add 330 (Nat.add 355 (Nat.add 292 (Nat.add 370 (Nat.add 248 (Nat.add 421 (Nat.add 64 (Nat.add 537 (Nat.add 38 N)))))))))) (SharedT.abs { tree:=top.tree_4 w.params,n:=15,life:={ },gens:={ toList:=[] },drawn:={ },toks:=187,os:=os }) (restOf (top.sts_4++(top.sts_28++(top.sts_73++(top.sts_118++(top.sts_149++(top.sts_193++(top.sts_216++(top.sts_276++(top.sts_293++(top.sts_368++rest)))))))))) top.env_1 (Code.body b top.env_1) ⟨0,0,0,0⟩ [topFrame ⟨0,0,0,0⟩])=some r :=
 piece_app (segRun_of (piece0 w p b os)) (piece_app (segRun_of (piece1 w p b os)) (piece_app (segRun_of (piece2 w p b os)) (piece_app (segRun_of (piece3 w p b os)) (piece_app (segRun_of (piece4 w p b os)) (piece_app (segRun_of (piece5 w p b os)) (piece_app (segRun_of (piece6 w p b os)) (piece_app (segRun_of (piece7 w p b os)) (piece_app (segRun_of (piece8 w p b os)) (piece_app (segRun_of (piece9 w p b os)) (h))))))))))
end
noncomputable abbrev pw:=PySem.Challenge.pw_ix0009_01
noncomputable abbrev p0:Pos:=⟨0,0,0,0⟩
noncomputable abbrev cB (b:List Stmt):Code:=Code.body b top.env_1
def ja7 {α:Type} (w:World) (b:List Stmt) (n:Nat) (x:Sem α) (s:SharedT) (a:α) (s':SharedT):Prop :=
 ∀ (K:α->Sem Fin) (H:Value->Sem Fin) (gd:Bool->Bool) (lv:List Value->List Value) (q:Pos),∃ q',∀ N r,
  topRun treeTable pw w 11 (some (.ref 6)) N s'.abs ⟨K a,cB b,q',[topFrame p0]⟩=some r →
  topRun treeTable pw w 11 (some (.ref 6)) (n+N) s.abs ⟨x.wrap K H gd lv,cB b,q,[topFrame p0]⟩=some r
section
variable {α β:Type} {w:World} {b:List Stmt}
theorem ja7.mono {n k:Nat} {x:Sem α} {s s':SharedT} {a:α} (h:ja7 w b n x s a s'):ja7 w b (n+k) x s a s':=fun K H gd lv q =>
 let ⟨q',h'⟩:=h K H gd lv q
 ⟨q',fun N r e=>by
  rw [show n+k+N=n+N+k by walk_at "OM"]
  exact topRun_mono k _ _ _ _ (h' N r e)⟩
theorem ja7.le {n m:Nat} {x:Sem α} {s s':SharedT} {a:α} (hm:n≤m) (h:ja7 w b n x s a s'):ja7 w b m x s a s':=by
 have:=h.mono (k:=m-n)
 rwa [show n+(m-n)=m by walk_at "OM"] at this
theorem ja7.pure {s:SharedT} {a:α}:ja7 w b 0 (Sem.pure a) s a s:=fun K H gd lv q=>⟨q,fun N r e=>by rw [Nat.zero_add];exact e⟩
theorem ja7.bind {n m:Nat} {x:Sem α} {f:α->Sem β} {s s₁ s':SharedT} {a:α} {c:β} (h:ja7 w b n x s a s₁) (k:ja7 w b m (f a) s₁ c s'):ja7 w b (n+m) (x >>= f) s c s':=fun K H gd lv q=>by
 refine xE (h (fun y=>(f y).wrap K H gd lv) (fun e=>(Sem.raise e:Sem β).wrap K H gd lv) (fun g=>gd (id g)) (fun l=>lv (id l)) q) fun q₁ h₁=>?_
 refine xE (k K H gd lv q₁) fun q₂ h₂=>?_
 refine ⟨q₂,fun N r e=>?_⟩
 rw [Sem.bind_eq_wrap',Sem.wrap_wrap,Nat.add_assoc]
 exact h₁ _ _ (h₂ _ _ e)
theorem ja7.keep {n:Nat} {x:Sem α} {s s':SharedT} {a:α} (vs:List Value) (h:ja7 w b n x s a s'):ja7 w b n (x.keep vs) s a s':=fun K H gd lv q=>by
 refine xE (h (fun a=>(Sem.pure a).wrap K H gd lv) (fun e=>(Sem.raise e:Sem α).wrap K H gd lv) (fun g=>gd (id g)) (fun l=>lv (vs++l)) q) fun q' h'=>?_
 refine ⟨q',fun N r e=>?_⟩
 rw [Sem.keep_eq_wrap,Sem.wrap_wrap]
 exact h' _ _ e
theorem ja7.eval {n:Nat} {x:Sem α} {s s':SharedT} {a:α} (res:α->Flow) (hres:∀ a',res a'=res a->a'=a)
  (h:∀ (gd:Bool->Bool) (lv:List Value->List Value) (q:Pos),(segRunT treeTable pw w 11 (some (.ref 6)) 1 n s ⟨x.wrap (fun a=>.pure (.done (res a))) deadEnd gd lv,cB b,q,[topFrame p0]⟩).map (fun r=>(r.1,r.2.1,r.2.2.1))=some (res a,s',cB b)):ja7 w b n x s a s':=fun K H gd lv q=>by
 refine xEA (Option.map_eq_some_iff.mp (h gd lv q)) fun zq134 e e'=>?_
 obtain ⟨f,s₂,c₂,q₂⟩:=zq134
 simp only [Prod.mk.injEq] at e'
 refine xAA e' fun zq131 zq132 zq133=>?_
 try clear e'
 obtain rfl:=zq131
 obtain rfl:=zq132
 obtain rfl:=zq133
 refine xEA (seg_top (res:=res) (K':=K) (H':=H) (gd:=gd) (lv:=lv) (B:=[topFrame p0]) rfl n s.abs ⟨x.wrap (fun a=>.pure (.done (res a))) deadEnd gd lv,cB b,q,[topFrame p0]⟩ ⟨x.wrap K H gd lv,cB b,q,[topFrame p0]⟩ _ _ _ _ (iAA rfl rfl (.inl (iAAEA rfl rfl _ rfl rfl))) (segRun_of e)) fun a' ha k=>?_
 obtain rfl:=hres _ ha
 exact ⟨q₂,k⟩
noncomputable def hB (P:Params) (a:Array UInt8):Int:=if (a.map (·.toNat)).isEmpty then 0 else reduceHash (P.strHash (a.map (·.toNat)))
theorem jhz (i:Int) : -(2 ^ 63)≤reduceHash i∧reduceHash i<2 ^ 63∧reduceHash i ≠ -1:=by
 unfold reduceHash
 split
 ·rename_i h
  simp only [Bool.and_eq_true,decide_eq_true_eq] at h
  split
  ·decide
  ·rename_i h2
   simp only [beq_iff_eq] at h2
   exact ⟨h.1,h.2,h2⟩
 ·dsimp only
  have:(i.natAbs:Int) % (2 ^ 61-1)<2 ^ 61-1:=Int.emod_lt_of_pos _ (by decide)
  have:0≤(i.natAbs:Int) % (2 ^ 61-1):=Int.emod_nonneg _ (by decide)
  generalize (i.natAbs:Int) % (2 ^ 61-1)=z at *
  split <;> split <;> simp_all <;> walk_at "OM"
theorem ko5 (P:Params) (a:Array UInt8) : -(2 ^ 63)≤hB P a∧hB P a<2 ^ 63∧hB P a ≠ -1:=by
 unfold hB
 split
 ·decide
 ·exact jhz _
theorem kcv {P:Params} {a:Array UInt8}:pyHashByItsType.reduced (hB P a)=(Sem.pure (hB P a):Sem Int):=by
 refine xAA (ko5 P a) fun h1 h2 h3=>?_
 unfold pyHashByItsType.reduced
 rw [if_pos (by simp only [Bool.and_eq_true,decide_eq_true_eq];exact ⟨h1,h2⟩)]
 rw [if_neg (by simpa using h3)]
 rfl
noncomputable def jkw:Option Value->Flow
 | none=>.next
 | some v=>.ret v
theorem ji9 {a:Option Value}:∀ a',jkw a'=jkw a->a'=a:=by
 intro a' h
 cases a' <;> cases a <;> first | rfl | (cases h;done) | (cases h;rfl)
theorem ki9 {T:BT} {n:Nat} {lf:Life} {gs:Array GenState} {dr:Drawn} {tk:Nat} {os:OsState} {a:Array UInt8} {t:Tok} :
  ja7 w b 135 (pyHash (.bytes a t)) ⟨T,n,lf,gs,dr,tk,os⟩ (hB w.params a) ⟨T,n,lf,gs,dr,tk+1,os⟩:=by
 show ja7 w b 135 (pyHashByItsType (.bytes a t)) _ _ _
 unfold pyHashByItsType
 refine ja7.bind (n:=20) (m:=115) (a:=()) (s₁:=⟨T,n,lf,gs,dr,tk,os⟩) (ja7.eval (fun _=>.next) (fun _ _=>rfl) (fun gd lv q=>by kernel_rfl)) ?_
 refine ja7.bind (n:=10) (m:=105) (a:=some (.builtin "bytes.__hash__")) (s₁:=⟨T,n,lf,gs,dr,tk,os⟩) (ja7.eval jkw ji9 (fun gd lv q=>by kernel_rfl)) ?_
 try dsimp only
 rw [if_neg (by decide)]
 refine ja7.bind (n:=5) (m:=100) (a:=some (.builtin "bytes.__hash__")) (s₁:=⟨T,n,lf,gs,dr,tk,os⟩) (ja7.eval jkw ji9 (fun gd lv q=>by kernel_rfl)) ?_
 try dsimp only
 rw [if_neg (by decide)]
 refine ja7.bind (n:=100) (m:=0) (a:=some (.int (hB w.params a) tk)) (s₁:=⟨T,n,lf,gs,dr,tk+1,os⟩) (ja7.eval jkw ji9 (fun gd lv q=>?_)) ?_
 ·refine byRow2 "special-get-raises" (P:=fun w=>Option.map _ (segRunT treeTable pw w _ _ _ _ _ _)=some (jkw (some (.int (hB w.params a) tk)),_)) (fun w=>?_) (fun w=>?_) w
  ·kernel_rfl
  ·kernel_rfl
 show ja7 w b 0 (pyHashByItsType.reduced (hB w.params a)) _ _ _
 rw [kcv]
 exact ja7.pure
end
section
variable {α β:Type} {w:World} {b:List Stmt}
theorem ja7.load {s:SharedT} {a:Addr} {p:Option Value} {o:Obj} (h:s.abs.heap.get? a=some o):ja7 w b 1 (loadPart a p) s o s:=fun K H gd lv q=>⟨q,fun N r e=>by
 rw [show 1+N=N+1 by omega]
 unfold topRun
 show (match stepOk 11 (some (.ref 6)) ⟨.load a p (fun x=>(Sem.pure x).wrap K H gd lv),cB b,q,[topFrame p0]⟩ with | false=>none | true=>match step (denote treeTable) pw w s.abs ⟨.load a p (fun x=>(Sem.pure x).wrap K H gd lv),cB b,q,[topFrame p0]⟩ with | .go s' t'=>topRun treeTable pw w 11 (some (.ref 6)) N s' t' | .halt _ _=>none)=_
 have e1:stepOk 11 (some (.ref 6)) ⟨.load a p (fun x=>(Sem.pure x).wrap K H gd lv),cB b,q,[topFrame p0]⟩=true:=by kernel_rfl
 have e2:step (denote treeTable) pw w s.abs ⟨.load a p (fun x=>(Sem.pure x).wrap K H gd lv),cB b,q,[topFrame p0]⟩=.go s.abs ⟨K o,cB b,q,[topFrame p0]⟩:=by
  obtain ⟨T,n,lf,gs,dr,tk,os⟩:=s
  simp only [SharedT.abs] at h ⊢
  simp only [step,h]
  rfl
 rw [e1,e2]
 exact e⟩
theorem ja7.update {s:SharedT} {a:Addr} {p:Option Value} {f:Obj->Obj} {o:Obj} (h:s.tree.get a=some o) (hl:alive o=some o) (ha:11≤a) (hn:a<s.n):ja7 w b 1 (updatePart a p f) s () { s with tree:=s.tree.set a f }:=fun K H gd lv q=>⟨q,fun N r e=>by
 rw [show 1+N=N+1 by omega]
 unfold topRun
 show (match stepOk 11 (some (.ref 6)) ⟨.update a p f (fun x=>(Sem.pure x).wrap K H gd lv),cB b,q,[topFrame p0]⟩ with | false=>none | true=>match step (denote treeTable) pw w s.abs ⟨.update a p f (fun x=>(Sem.pure x).wrap K H gd lv),cB b,q,[topFrame p0]⟩ with | .go s' t'=>topRun treeTable pw w 11 (some (.ref 6)) N s' t' | .halt _ _=>none)=_
 have e1:stepOk 11 (some (.ref 6)) ⟨.update a p f (fun x=>(Sem.pure x).wrap K H gd lv),cB b,q,[topFrame p0]⟩=true:=by
  show (true&&(Nat.ble 11 a || a==mainNs || a==cStatics || some (Value.ref 6)==some (.ref a)))=true
  rw [Nat.ble_eq_true_of_le ha];rfl
 have e2:step (denote treeTable) pw w s.abs ⟨.update a p f (fun x=>(Sem.pure x).wrap K H gd lv),cB b,q,[topFrame p0]⟩=.go (SharedT.abs { s with tree:=s.tree.set a f }) ⟨K (),cB b,q,[topFrame p0]⟩:=by
  obtain ⟨T,n,lf,gs,dr,tk,os⟩:=s
  have hg:(absHeap T n lf).get? a=some o:=(abs_get hn h).trans hl
  simp only [SharedT.abs] at h ⊢
  simp only [step,hg,Option.isSome_some,if_true]
  rw [absHeap_set h]
  rfl
 rw [e1,e2]
 exact e⟩
theorem ja7.rule {s:SharedT} {t:String}:ja7 w b 2 (PySem.rule t) s () s:=ja7.eval (fun zz=>.next) (fun zz zz=>rfl) (fun gd lv q=>by kernel_rfl)
theorem jtk {s:SharedT} {d:Addr} {p:Option Value} {c:Value} {od:Option Addr} {es:Array DictEntry} {n:Nat} {sl:Array (Option Value)} (h:s.abs.heap.get? d=some ⟨c,od,.dict es n,sl⟩):ja7 w b 1 (dictEntries d p) s es s :=
 ja7.bind (m:=0) (ja7.load h) ja7.pure
theorem jpw {s:SharedT} {d:Addr} {p:Option Value} {c:Value} {od:Option Addr} {es:Array DictEntry} {n:Nat} {sl:Array (Option Value)} (h:s.abs.heap.get? d=some ⟨c,od,.dict es n,sl⟩):ja7 w b 1 (dictEpoch d p) s n s :=
 ja7.bind (m:=0) (ja7.load h) ja7.pure
theorem ki7 {s:SharedT} {d:Addr} {key:Value} {h:Int} {c:Value} {od:Option Addr} {es:Array DictEntry} {n:Nat} {sl:Array (Option Value)} (hd:s.abs.heap.get? d=some ⟨c,od,.dict es n,sl⟩)
  (hq:∀ e∈es,ja7 w b 100 (eqBool e.key key) s false s):∀ places:List Nat,ja7 w b (110*places.length) (dictWalkPlain d key h es places) s none s:=by
 intro places
 unfold dictWalkPlain
 refine ja7.bind (n:=110*places.length) (m:=0) (a:=(none,())) (s₁:=s) ?_ ja7.pure
 induction places with
 | nil=>exact ja7.pure
 | cons i r ih =>
  rw [List.forIn_cons,show 110*(i::r).length=110+110*r.length by simp;omega]
  refine ja7.bind (a:=(ForInStep.yield (none,()):ForInStep (Option (Option Nat)×Unit))) (s₁:=s) ?_ (by exact ih)
  cases he:es[i]? with
  | none=>exact ja7.pure.le (by decide)
  | some e =>
   have hm:e∈es:=Array.mem_of_getElem? he
   try dsimp only
   by_cases hh:(e.hash==h)=true
   ·rw [if_pos hh]
    refine ja7.bind (n:=1) (m:=109) (jpw hd) ?_
    refine ja7.bind (n:=100) (m:=9) (hq e hm) ?_
    refine ja7.bind (n:=1) (m:=8) (jpw hd) ?_
    try dsimp only
    rw [if_neg (by simp),if_neg (by decide)]
    exact ja7.bind (n:=2) (m:=6) ja7.rule (ja7.pure.le (by decide))
   ·rw [if_neg hh]
    exact ja7.pure.le (by decide)
theorem kjq {s:SharedT} {d:Addr} {a:Array UInt8} {t:Tok} {h:Int} {c:Value} {od:Option Addr} {es:Array DictEntry} {n:Nat} {sl:Array (Option Value)} (hd:s.abs.heap.get? d=some ⟨c,od,.dict es n,sl⟩)
  (hb:∀ e∈es,∃ b' t',e.key=.bytes b' t') (hs:es.size≤3)
  (hq:∀ e∈es,ja7 w b 100 (eqBool e.key (.bytes a t)) s false s):ja7 w b 400 (dictFind d (.bytes a t) h) s none s:=by
 show ja7 w b 400 (dictEntries d (keyPart (.bytes a t)) >>= fun es=>_) s none s
 refine ja7.bind (n:=1) (m:=399) (jtk hd) ?_
 have hc:((Value.bytes a t::(placesWithHash es.size (fun i=>es[i]?.map (·.hash)) h).filterMap fun i=>es[i]?.map (·.key)).all carriedByValue)=true:=by
  rw [List.all_cons,Bool.and_eq_true]
  refine ⟨rfl,List.all_eq_true.mpr fun k hk=>?_⟩
  refine xEA (List.mem_filterMap.mp hk) fun i _ hi=>?_
  refine xEA (Option.map_eq_some_iff.mp hi) fun e he zq135=>?_
  obtain rfl:=zq135
  refine xEE (hb e (Array.mem_of_getElem? he)) fun b' t' hb'=>?_
  rw [hb'];rfl
 rw [if_pos hc]
 have hl:(placesWithHash es.size (fun i=>es[i]?.map (·.hash)) h).length≤3:=by
  unfold placesWithHash
  exact Nat.le_trans (List.length_filter_le _ _) (by rw [List.length_range];exact hs)
 exact (ki7 hd hq _).le (by omega)
theorem jr3 {T:BT} {m:Nat} {lf:Life} {gs:Array GenState} {dr:Drawn} {tk:Nat} {os:OsState} {d:Addr} {a:Array UInt8} {t t':Tok} {i:Int} {c:Value} {od:Option Addr} {es:Array DictEntry} {n:Nat} {sl:Array (Option Value)}
  (hd:T.get d=some ⟨c,od,.dict es n,sl⟩) (ha:11≤d) (hn:d<m) (hb:∀ e∈es,∃ b' t',e.key=.bytes b' t') (hs:es.size≤3)
  (hq:∀ e∈es,∀ s,ja7 w b 100 (eqBool e.key (.bytes a t)) s false s) :
  ja7 w b 600 (dictSet d (.bytes a t) (.int i t')) ⟨T,m,lf,gs,dr,tk,os⟩ () ⟨T.set d (Obj.mapDictKeys (·.push ⟨hB w.params a,.bytes a t,.int i t'⟩)),m,lf,gs,dr,tk+1,os⟩:=by
 have hd':∀ tk,(SharedT.abs ⟨T,m,lf,gs,dr,tk,os⟩).heap.get? d=some ⟨c,od,.dict es n,sl⟩:=fun tk=>abs_get hn hd
 show ja7 w b 600 (pyHash (.bytes a t) >>= fun h=>dictSetHashed d (.bytes a t) h (.int i t')) _ _ _
 refine ja7.bind (n:=135) (m:=465) ki9 ?_
 show ja7 w b 465 (dictFind d (.bytes a t) (hB w.params a) >>= fun r=>_) _ _ _
 refine ja7.bind (n:=400) (m:=65) (kjq (hd' _) hb hs fun e he=>hq e he _) ?_
 show ja7 w b 65 (PySem.rule _ >>= fun zz=>updateDictKeys d _ _) _ _ _
 refine ja7.bind (n:=2) (m:=63) ja7.rule ?_
 show ja7 w b 63 (loadPart d _ >>= fun o=>_) _ _ _
 refine ja7.bind (n:=1) (m:=62) (ja7.load (hd' _)) ?_
 dsimp only
 refine ja7.bind (n:=1) (m:=61) (ja7.update hd rfl ha hn) ?_
 show ja7 w b 61 (lookBehind d _) _ _ _
 have hg:(SharedT.abs ⟨T.set d (Obj.mapDictKeys (·.push ⟨hB w.params a,.bytes a t,.int i t'⟩)),m,lf,gs,dr,tk+1,os⟩).heap.get? d=some ⟨c,od,.dict (es.push ⟨hB w.params a,.bytes a t,.int i t'⟩) (n+1),sl⟩:=by
  exact abs_get (o:=⟨c,od,.dict (es.push ⟨hB w.params a,.bytes a t,.int i t'⟩) (n+1),sl⟩) hn (by rw [BT.get_set,if_pos rfl,hd];rfl)
 refine ja7.bind (n:=1) (m:=60) (ja7.load hg) ?_
 dsimp only
 rw [show Data.pastItsLine (.dict (es.push ⟨hB w.params a,.bytes a t,.int i t'⟩) (n+1))=none from by
  exact if_neg (by rw [Array.size_push];unfold sizeLine;omega)]
 exact ja7.pure.le (by decide)
end
section
variable {α β:Type} {w:World} {b:List Stmt}
theorem ja7.holding {n:Nat} {x:Sem α} {s s':SharedT} {a:α} (vs:List Value) (h:ja7 w b n x s a s'):ja7 w b n (PySem.holding vs x) s a s':=by
 unfold PySem.holding
 split
 ·exact h
 ·exact h.keep _
theorem ja7.alloc {s:SharedT} {o:Obj} (h:((s.tree.ins s.n o).get s.n).isSome=true):ja7 w b 1 (PySem.alloc o) s s.n { s with tree:=s.tree.ins s.n o,n:=s.n+1 }:=fun K H gd lv q=>⟨q,fun N r e=>by
 rw [show 1+N=N+1 by omega]
 unfold topRun
 show (match stepOk 11 (some (.ref 6)) ⟨.alloc o (fun x=>(Sem.pure x).wrap K H gd lv),cB b,q,[topFrame p0]⟩ with | false=>none | true=>match step (denote treeTable) pw w s.abs ⟨.alloc o (fun x=>(Sem.pure x).wrap K H gd lv),cB b,q,[topFrame p0]⟩ with | .go s' t'=>topRun treeTable pw w 11 (some (.ref 6)) N s' t' | .halt _ _=>none)=_
 have e1:stepOk 11 (some (.ref 6)) ⟨.alloc o (fun x=>(Sem.pure x).wrap K H gd lv),cB b,q,[topFrame p0]⟩=true:=by kernel_rfl
 have e2:step (denote treeTable) pw w s.abs ⟨.alloc o (fun x=>(Sem.pure x).wrap K H gd lv),cB b,q,[topFrame p0]⟩=.go (SharedT.abs { s with tree:=s.tree.ins s.n o,n:=s.n+1 }) ⟨K s.n,cB b,q,[topFrame p0]⟩:=by
  obtain ⟨T,n,lf,gs,dr,tk,os⟩:=s
  simp only [SharedT.abs] at h ⊢
  rw [absHeap_ins h]
  simp only [step]
  rw [absHeap_size]
  rfl
 rw [e1,e2]
 exact e⟩
theorem jgj {n1 n2 n3:Nat} {k v:Sem Value} {rest:List (Sem Value×Sem Value)} {s s1 s2 s3:SharedT} {kv vv:Value} {l:List (Value×Value)} (h1:ja7 w b n1 k s kv s1) (h2:ja7 w b n2 v s1 vv s2) (h3:ja7 w b n3 (evalPairs rest) s2 l s3) :
  ja7 w b (n1+(n2+n3)) (evalPairs ((k,v)::rest)) s ((kv,vv)::l) s3:=by
 unfold evalPairs
 refine ja7.bind h1 (ja7.bind (h2.holding _) ?_)
 exact ja7.bind (m:=0) (h3.holding _) ja7.pure
noncomputable abbrev jtq (P:Params) (a:Array UInt8) (t:Tok) (i:Int) (t':Tok):DictEntry:=⟨hB P a,.bytes a t,.int i t'⟩
noncomputable abbrev jn8 (es:Array DictEntry) (n:Nat):Obj:={ cls:=.type "dict", data:=.dict es n }
theorem kl4 {a:Bool}:∀ a',(if a'=true then Flow.brk else Flow.next)=(if a=true then Flow.brk else Flow.next)->a'=a:=by
 intro a' h;cases a' <;> cases a <;> simp_all
theorem kf3 {a:Value}:∀ a',Flow.ret a'=Flow.ret a->a'=a:=fun zz h=>Flow.ret.inj h
end
noncomputable abbrev st27:Stmt:=match PySem.Challenge.pw_ix0009_01.main.body.drop 27 with | x::_=>x | []=>.Pass p0
section
variable {α β:Type} {w:World} {b:List Stmt}
theorem kbj {T:BT} {n:Nat} {es:Array DictEntry} {k:Nat} (h:T.get n=some (jn8 es k)) (e:DictEntry):(T.set n (Obj.mapDictKeys (·.push e))).get n=some (jn8 (es.push e) (k+1)):=by
 rw [BT.get_set,if_pos rfl,h];rfl
theorem jp0 {np:Nat} {pairs:List (Sem Value×Sem Value)} {T:BT} {n:Nat} {lf:Life} {gs:Array GenState} {dr:Drawn} {tk tk':Nat} {os:OsState} {a1 a2 a3:Array UInt8} {t1 t2 t3 u1 u2 u3:Tok} {i1 i2 i3:Int}
  (hn:((T.ins n (jn8 #[] 0)).get n).isSome=true) (h11:11≤n) (hl:pairs.length=3)
  (hp:ja7 w b np (evalPairs pairs) ⟨T.ins n (jn8 #[] 0),n+1,lf,gs,dr,tk,os⟩ [(.bytes a1 t1,.int i1 u1),(.bytes a2 t2,.int i2 u2),(.bytes a3 t3,.int i3 u3)] ⟨T.ins n (jn8 #[] 0),n+1,lf,gs,dr,tk',os⟩)
  (q12:∀ s,ja7 w b 100 (eqBool (.bytes a1 t1) (.bytes a2 t2)) s false s) (q13:∀ s,ja7 w b 100 (eqBool (.bytes a1 t1) (.bytes a3 t3)) s false s) (q23:∀ s,ja7 w b 100 (eqBool (.bytes a2 t2) (.bytes a3 t3)) s false s) :
  ja7 w b (1+(np+1800)) (subDict pairs) ⟨T,n,lf,gs,dr,tk,os⟩ n
   ⟨(((T.ins n (jn8 #[] 0)).set n (Obj.mapDictKeys (·.push (jtq w.params a1 t1 i1 u1)))).set n (Obj.mapDictKeys (·.push (jtq w.params a2 t2 i2 u2)))).set n (Obj.mapDictKeys (·.push (jtq w.params a3 t3 i3 u3))),n+1,lf,gs,dr,tk'+3,os⟩:=by
 unfold subDict
 refine ja7.bind (ja7.alloc hn) ?_
 refine ja7.bind (m:=0) (n:=np+1800) (a:=()) (ja7.holding _ ?_) ja7.pure
 rw [if_pos (by rw [hl];decide)]
 refine ja7.bind hp (ja7.holding _ ?_)
 have g0:(T.ins n (jn8 #[] 0)).get n=some (jn8 #[] 0):=by rw [BT.get_ins _ _ _ hn,if_pos rfl]
 have g1:=kbj g0 (jtq w.params a1 t1 i1 u1)
 have g2:=kbj g1 (jtq w.params a2 t2 i2 u2)
 refine ja7.bind (n:=1800) (m:=0) (a:=PUnit.unit) ?_ ja7.pure
 rw [List.forIn_cons]
 refine ja7.bind (n:=600) (m:=1200) (a:=(ForInStep.yield PUnit.unit:ForInStep PUnit)) (ja7.bind (m:=0) (jr3 g0 h11 (by exact Nat.lt_succ_self n) (fun e he=>by simp at he) (by decide) (fun e he=>by simp at he)) ja7.pure) ?_
 dsimp only
 rw [List.forIn_cons]
 refine ja7.bind (n:=600) (m:=600) (a:=(ForInStep.yield PUnit.unit:ForInStep PUnit)) (ja7.bind (m:=0) (jr3 g1 h11 (by exact Nat.lt_succ_self n) (fun e he=>?_) (by simp) (fun e he=>?_)) ja7.pure) ?_
 ·simp at he;subst he;exact ⟨_,_,rfl⟩
 ·simp at he;subst he;exact q12
 dsimp only
 rw [List.forIn_cons]
 refine ja7.bind (n:=600) (m:=0) (a:=(ForInStep.yield PUnit.unit:ForInStep PUnit)) (ja7.bind (m:=0) (jr3 g2 h11 (by exact Nat.lt_succ_self n) (fun e he=>?_) (by simp) (fun e he=>?_)) ja7.pure) ja7.pure
 ·simp at he;rcases he with rfl | rfl <;> exact ⟨_,_,rfl⟩
 ·simp at he;rcases he with rfl | rfl
  ·exact q13
  ·exact q23
theorem kyv {a a':Array UInt8} {t t':Tok} (h:∀ (s:SharedT) (gd:Bool->Bool) (lv:List Value->List Value) (q:Pos),(segRunT treeTable pw w 11 (some (.ref 6)) 1 100 s ⟨(eqBool (.bytes a t) (.bytes a' t')).wrap (fun a=>.pure (.done (if a=true then Flow.brk else Flow.next))) deadEnd gd lv,cB b,q,[topFrame p0]⟩).map (fun r=>(r.1,r.2.1,r.2.2.1))=some (Flow.next,s,cB b)):∀ s,ja7 w b 100 (eqBool (.bytes a t) (.bytes a' t')) s false s :=
 fun s=>ja7.eval (fun a=>if a=true then Flow.brk else Flow.next) kl4 (h s)
end
noncomputable def S27 (w:World) (os:OsState):SharedT:={ tree:=top.tree_376 w.params,n:=355,life:={ },gens:={ toList:=[] },drawn:={ },toks:=725,os:=os }
noncomputable abbrev ksx:Array UInt8:=#[113,117,105,99,32,107,101,121]
noncomputable abbrev ivA:Array UInt8:=#[113,117,105,99,32,105,118]
noncomputable abbrev hpA:Array UInt8:=#[113,117,105,99,32,104,112]
noncomputable abbrev ksq:Array UInt8:=#[113,117,105,99,118,50,32,107,101,121]
noncomputable abbrev ivB:Array UInt8:=#[113,117,105,99,118,50,32,105,118]
noncomputable abbrev hpB:Array UInt8:=#[113,117,105,99,118,50,32,104,112]
noncomputable def put3 (T:BT) (n:Nat) (a b c:DictEntry):BT:=(((T.ins n (jn8 #[] 0)).set n (Obj.mapDictKeys (·.push a))).set n (Obj.mapDictKeys (·.push b))).set n (Obj.mapDictKeys (·.push c))
noncomputable def jrq (P:Params):BT:=put3 (top.tree_376 P) 355 (jtq P ksx 725 0 726) (jtq P ivA 727 1 728) (jtq P hpA 729 2 730)
noncomputable def jm9 (P:Params):BT:=put3 (jrq P) 356 (jtq P ksq 734 0 735) (jtq P ivB 736 1 737) (jtq P hpB 738 2 739)
noncomputable def ke7 (P:Params):BT:=(jm9 P).ins 357 { cls:=.type "list", data:=.seq #[.ref 355,.ref 356] }
noncomputable def tree28 (P:Params):BT:=(ke7 P).set mainNs (Obj.putName "_law_labels" (PyData.keyHash P "_law_labels") (Value.str "_law_labels" 743) (Value.ref 357))
noncomputable def S28 (w:World) (os:OsState):SharedT:={ tree:=tree28 w.params,n:=358,life:={ },gens:={ toList:=[] },drawn:={ },toks:=744,os:=os }
section
variable {w:World} {b:List Stmt}
theorem jp1 {x:Sem Value} {s s':SharedT} {v:Value} (h:∀ (gd:Bool->Bool) (lv:List Value->List Value) (q:Pos),(segRunT treeTable pw w 11 (some (.ref 6)) 1 4 s ⟨x.wrap (fun a=>.pure (.done (.ret a))) deadEnd gd lv,cB b,q,[topFrame p0]⟩).map (fun r=>(r.1,r.2.1,r.2.2.1))=some (Flow.ret v,s',cB b)):ja7 w b 4 x s v s':=ja7.eval Flow.ret kf3 h
theorem je7 {a a':Array UInt8} {t t':Tok} (h0:∀ (w:World) (s:SharedT) (gd:Bool->Bool) (lv:List Value->List Value) (q:Pos),(segRunT treeTable pw (w.withFollow "special-get-raises" false) 11 (some (.ref 6)) 1 100 s ⟨(eqBool (.bytes a t) (.bytes a' t')).wrap (fun a=>.pure (.done (if a=true then Flow.brk else Flow.next))) deadEnd gd lv,cB b,q,[topFrame p0]⟩).map (fun r=>(r.1,r.2.1,r.2.2.1))=some (Flow.next,s,cB b))
  (h1:∀ (w:World) (s:SharedT) (gd:Bool->Bool) (lv:List Value->List Value) (q:Pos),(segRunT treeTable pw (w.withFollow "special-get-raises" true) 11 (some (.ref 6)) 1 100 s ⟨(eqBool (.bytes a t) (.bytes a' t')).wrap (fun a=>.pure (.done (if a=true then Flow.brk else Flow.next))) deadEnd gd lv,cB b,q,[topFrame p0]⟩).map (fun r=>(r.1,r.2.1,r.2.2.1))=some (Flow.next,s,cB b)) :
  ∀ s,ja7 w b 100 (eqBool (.bytes a t) (.bytes a' t')) s false s :=
 kyv fun s gd lv q=>byRow2 "special-get-raises" (P:=fun w=>Option.map _ (segRunT treeTable pw w _ _ _ _ _ _)=some (_,_)) (fun w=>h0 w s gd lv q) (fun w=>h1 w s gd lv q) w
theorem jk3 {T:BT} {n:Nat} {lf:Life} {gs:Array GenState} {dr:Drawn} {tk:Nat} {os:OsState} {l:List UInt8} {k:Nat} {pos:Pos} {env:Env}:ja7 w b 4 (eval (.Constant (.bytes l) k pos) env) ⟨T,n,lf,gs,dr,tk,os⟩ (.bytes l.toArray tk) ⟨T,n,lf,gs,dr,tk+1,os⟩:=jp1 fun gd lv q=>by kernel_rfl
theorem jk2 {T:BT} {n:Nat} {lf:Life} {gs:Array GenState} {dr:Drawn} {tk:Nat} {os:OsState} {i:Int} {k:Nat} {pos pos':Pos} {env:Env}:ja7 w b 4 ((fun v=>do let x ← v;standAt pos';pure x) (eval (.Constant (.int i) k pos) env)) ⟨T,n,lf,gs,dr,tk,os⟩ (.int i tk) ⟨T,n,lf,gs,dr,tk+1,os⟩:=jp1 fun gd lv q=>by kernel_rfl
theorem ki8 (os:OsState):ja7 w b 4000 (exec st27 top.env_1) (S27 w os) .next (S28 w os):=by
 show ja7 w b 4000 (standAt _ >>= fun zz=>swapsWithSole _ _ _ _ >>= fun b=>_) _ _ _
 refine ja7.bind (n:=3) (m:=3997) (a:=()) (s₁:=S27 w os) (ja7.eval (fun _=>.next) (fun _ _=>rfl) (fun gd lv q=>by kernel_rfl)) ?_
 refine ja7.bind (n:=3) (m:=3994) (a:=false) (s₁:=S27 w os) (ja7.eval (fun a=>if a=true then Flow.brk else Flow.next) kl4 (fun gd lv q=>by kernel_rfl)) ?_
 rw [if_neg (by decide)]
 refine ja7.bind (n:=3900) (m:=94) (a:=.ref 357) (s₁:=⟨ke7 w.params,358,{},{ toList:=[] },{},743,os⟩) ?_ ?_
 ·show ja7 w b 3900 (standAt _ >>= fun zz=>spliced ((false,eval _ _)::(false,eval _ _)::[]) >>= fun l=>newList l) _ _ _
  refine ja7.bind (n:=3) (m:=3897) (a:=()) (s₁:=S27 w os) (ja7.eval (fun _=>.next) (fun _ _=>rfl) (fun gd lv q=>by kernel_rfl)) ?_
  refine ja7.bind (n:=3880) (m:=17) (a:=[.ref 355,.ref 356]) (s₁:=⟨jm9 w.params,357,{},{ toList:=[] },{},743,os⟩) ?_ (ja7.eval Flow.ret kf3 (fun gd lv q=>by kernel_rfl))
  show ja7 w b 3880 (eval _ _ >>= fun v=>_) _ _ _
  refine ja7.bind (n:=1900) (m:=1980) (a:=.ref 355) (s₁:=⟨jrq w.params,356,{},{ toList:=[] },{},734,os⟩) ?_ ?_
  ·show ja7 w b 1900 (standAt _ >>= fun zz=>dictDisplay ((some _,_)::(some _,_)::(some _,_)::[])) _ _ _
   refine ja7.bind (n:=3) (m:=1897) (a:=()) (s₁:=S27 w os) (ja7.eval (fun _=>.next) (fun _ _=>rfl) (fun gd lv q=>by kernel_rfl)) ?_
   show ja7 w b 1897 ((subDict ((_,_)::(_,_)::(_,_)::[]) >>= fun d=>Sem.pure (some d)) >>= fun r=>_) _ _ _
   refine ja7.bind (n:=1897) (m:=0) (a:=some 355) (s₁:=⟨jrq w.params,356,{},{ toList:=[] },{},734,os⟩) (ja7.bind (n:=1897) (m:=0) (ja7.le (n:=1825) (by decide) (jp0 (np:=24) (by kernel_rfl) (by decide) rfl (jgj jk3 jk2 (jgj jk3 jk2 (jgj (n3:=0) jk3 jk2 ja7.pure))) (je7 (fun w s gd lv q=>by kernel_rfl) (fun w s gd lv q=>by kernel_rfl)) (je7 (fun w s gd lv q=>by kernel_rfl) (fun w s gd lv q=>by kernel_rfl)) (je7 (fun w s gd lv q=>by kernel_rfl) (fun w s gd lv q=>by kernel_rfl)))) ja7.pure) ja7.pure
  refine ja7.bind (n:=0) (m:=1980) (a:=[.ref 355]) ja7.pure ?_
  refine ja7.bind (n:=1980) (m:=0) (a:=[.ref 356]) (s₁:=⟨jm9 w.params,357,{},{ toList:=[] },{},743,os⟩) (ja7.holding _ ?_) ja7.pure
  show ja7 w b 1980 (eval _ _ >>= fun v=>_) _ _ _
  refine ja7.bind (n:=1900) (m:=80) (a:=.ref 356) (s₁:=⟨jm9 w.params,357,{},{ toList:=[] },{},743,os⟩) ?_ ?_
  ·show ja7 w b 1900 (standAt _ >>= fun zz=>dictDisplay ((some _,_)::(some _,_)::(some _,_)::[])) _ _ _
   refine ja7.bind (n:=3) (m:=1897) (a:=()) (s₁:=⟨jrq w.params,356,{},{ toList:=[] },{},734,os⟩) (ja7.eval (fun _=>.next) (fun _ _=>rfl) (fun gd lv q=>by kernel_rfl)) ?_
   show ja7 w b 1897 ((subDict ((_,_)::(_,_)::(_,_)::[]) >>= fun d=>Sem.pure (some d)) >>= fun r=>_) _ _ _
   refine ja7.bind (n:=1897) (m:=0) (a:=some 356) (s₁:=⟨jm9 w.params,357,{},{ toList:=[] },{},743,os⟩) (ja7.bind (n:=1897) (m:=0) (ja7.le (n:=1825) (by decide) (jp0 (np:=24) (by kernel_rfl) (by decide) rfl (jgj jk3 jk2 (jgj jk3 jk2 (jgj (n3:=0) jk3 jk2 ja7.pure))) (je7 (fun w s gd lv q=>by kernel_rfl) (fun w s gd lv q=>by kernel_rfl)) (je7 (fun w s gd lv q=>by kernel_rfl) (fun w s gd lv q=>by kernel_rfl)) (je7 (fun w s gd lv q=>by kernel_rfl) (fun w s gd lv q=>by kernel_rfl)))) ja7.pure) ja7.pure
  refine ja7.bind (n:=0) (m:=80) (a:=[.ref 356]) ja7.pure ?_
  refine ja7.bind (n:=0) (m:=80) (a:=[]) (ja7.holding _ ja7.pure) (ja7.pure.le (by decide))
 ·show ja7 w b 94 (swappedStores _ _ _ >>= fun r=>_) _ _ _
  refine ja7.bind (n:=0) (m:=94) (a:=none) ja7.pure ?_
  exact ja7.eval id (fun zz h=>h) (fun gd lv q=>by kernel_rfl)
end
noncomputable abbrev kf2:=jaj (jbx (jb7 28))
noncomputable abbrev ktj:=jaj (jb3 (jb7 28))
noncomputable abbrev jy3:=jaj (ja2 (jb7 28))
noncomputable abbrev jw2:=jaj (jbx (jb7 29))
noncomputable abbrev jvx:=jaj (jb3 (jb7 29))
noncomputable abbrev jy2:=jaj (ja2 (jb7 29))
noncomputable abbrev jw1:=jaj (jbx (jb7 30))
noncomputable abbrev je2:=jaj (jb3 (jb7 30))
noncomputable abbrev jy1:=jaj (ja2 (jb7 30))
noncomputable abbrev jnq:=jaj (jbx (jb7 31))
noncomputable abbrev ktz:=jaj (jb3 (jb7 31))
noncomputable abbrev jy0:=jaj (ja2 (jb7 31))
noncomputable abbrev jaq:=jaj (jbx (jb7 32))
noncomputable abbrev jdv:=jaj (jb3 (jb7 32))
noncomputable abbrev jmv:=jaj (ja2 (jb7 32))
noncomputable def o358:Obj:={ cls:=.type "tuple", data:=.seq #[] 0 }
noncomputable def o359:Obj:={ cls:=.none,data:=.fields #[] }
noncomputable def o360:Obj:={ cls:=.type "tuple", data:=.seq #[] 0 }
noncomputable def o361:Obj:={ cls:=.type "tuple", data:=.seq #[] 0 }
noncomputable def o362:Obj:={ cls:=.none,data:=.func { name := "_law_next", qualname := "_law_next", params:=jy3,body:=.stmts ktj,scope:=kf2,globals:=0,closure:=[],defaults:=.none,kwdefaults:=.none,doc:=.none,pyModule:=.none,annotations:=none,code:=.none,closureTuple:=.none,builtins:=0 } }
noncomputable def o363:Obj:={ cls:=.type "code", data:=.fields #[.str "_law_next" 744,.str "_law_next" 745,.str "/claim/cut.py" 746,.int 230 0,.int 0 0,.int 0 0,.int 0 0,.int 3 0,.ref 358,.bool true,.int 181 0,.ref 359,.none,.ref 360,.ref 361,.ref 362,.int 747 0,.int 230 0,.str "/claim/cut.py" 748] }
noncomputable def o364:Obj:={ cls:=.type "function", data:=.func { name := "_law_next", qualname := "_law_next", params:=jy3,body:=.stmts ktj,scope:=kf2,globals:=3,closure:=[],defaults:=.none,kwdefaults:=.none,doc:=.none,pyModule:=.str "law_ix0009_01" 717,annotations:=none,code:=.ref 363,closureTuple:=.none,builtins:=0 } }
noncomputable def o365:Obj:={ cls:=.type "tuple", data:=.seq #[] 0 }
noncomputable def o366:Obj:={ cls:=.none,data:=.fields #[] }
noncomputable def o367:Obj:={ cls:=.none,data:=.func { name := "_law_keys", qualname := "_law_keys", params:=jy2,body:=.stmts jvx,scope:=jw2,globals:=0,closure:=[],defaults:=.none,kwdefaults:=.none,doc:=.none,pyModule:=.none,annotations:=none,code:=.none,closureTuple:=.none,builtins:=0 } }
noncomputable def o368:Obj:={ cls:=.type "code", data:=.fields #[.str "_law_keys" 750,.str "_law_keys" 751,.str "/claim/cut.py" 752,.int 232 0,.int 8 0,.int 0 0,.int 0 0,.int 3 0,.ref 365,.bool true,.int 181 0,.ref 366,.none,.none,.none,.ref 367,.int 753 0,.int 232 0,.str "/claim/cut.py" 754] }
noncomputable def o369:Obj:={ cls:=.type "function", data:=.func { name := "_law_keys", qualname := "_law_keys", params:=jy2,body:=.stmts jvx,scope:=jw2,globals:=3,closure:=[],defaults:=.none,kwdefaults:=.none,doc:=.none,pyModule:=.str "law_ix0009_01" 717,annotations:=none,code:=.ref 368,closureTuple:=.none,builtins:=0 } }
noncomputable def o370:Obj:={ cls:=.type "tuple", data:=.seq #[] 0 }
noncomputable def o371:Obj:={ cls:=.none,data:=.fields #[] }
noncomputable def o372:Obj:={ cls:=.type "tuple", data:=.seq #[.str "rows" 759,.str "second" 760,.str "heard" 761] 0 }
noncomputable def o373:Obj:={ cls:=.type "tuple", data:=.seq #[.str "rows" 762,.str "second" 763,.str "heard" 764] 0 }
noncomputable def o374:Obj:={ cls:=.none,data:=.func { name := "_law_pair", qualname := "_law_pair", params:=jy1,body:=.stmts je2,scope:=jw1,globals:=0,closure:=[],defaults:=.none,kwdefaults:=.none,doc:=.none,pyModule:=.none,annotations:=none,code:=.none,closureTuple:=.none,builtins:=0 } }
noncomputable def o375:Obj:={ cls:=.type "code", data:=.fields #[.str "_law_pair" 756,.str "_law_pair" 757,.str "/claim/cut.py" 758,.int 248 0,.int 3 0,.int 0 0,.int 0 0,.int 3 0,.ref 370,.bool true,.int 181 0,.ref 371,.none,.ref 372,.ref 373,.ref 374,.int 765 0,.int 248 0,.str "/claim/cut.py" 766] }
noncomputable def o376:Obj:={ cls:=.type "function", data:=.func { name := "_law_pair", qualname := "_law_pair", params:=jy1,body:=.stmts je2,scope:=jw1,globals:=3,closure:=[],defaults:=.none,kwdefaults:=.none,doc:=.none,pyModule:=.str "law_ix0009_01" 717,annotations:=none,code:=.ref 375,closureTuple:=.none,builtins:=0 } }
noncomputable def o377:Obj:={ cls:=.type "tuple", data:=.seq #[] 0 }
noncomputable def o378:Obj:={ cls:=.none,data:=.fields #[] }
noncomputable def o379:Obj:={ cls:=.type "tuple", data:=.seq #[.str "ends" 771,.str "heard" 772,.str "due" 773,.str "turns" 774,.str "wishes" 775,.str "which" 776] 0 }
noncomputable def o380:Obj:={ cls:=.type "tuple", data:=.seq #[] 0 }
noncomputable def o381:Obj:={ cls:=.none,data:=.func { name := "_law_stands", qualname := "_law_stands", params:=jy0,body:=.stmts ktz,scope:=jnq,globals:=0,closure:=[],defaults:=.none,kwdefaults:=.none,doc:=.none,pyModule:=.none,annotations:=none,code:=.none,closureTuple:=.none,builtins:=0 } }
noncomputable def o382:Obj:={ cls:=.type "code", data:=.fields #[.str "_law_stands" 768,.str "_law_stands" 769,.str "/claim/cut.py" 770,.int 255 0,.int 5 0,.int 0 0,.int 0 0,.int 3 0,.ref 377,.bool true,.int 181 0,.ref 378,.none,.ref 379,.ref 380,.ref 381,.int 777 0,.int 255 0,.str "/claim/cut.py" 778] }
noncomputable def o383:Obj:={ cls:=.type "function", data:=.func { name := "_law_stands", qualname := "_law_stands", params:=jy0,body:=.stmts ktz,scope:=jnq,globals:=3,closure:=[],defaults:=.none,kwdefaults:=.none,doc:=.none,pyModule:=.str "law_ix0009_01" 717,annotations:=none,code:=.ref 382,closureTuple:=.none,builtins:=0 } }
noncomputable def o384:Obj:={ cls:=.type "tuple", data:=.seq #[] 0 }
noncomputable def o385:Obj:={ cls:=.none,data:=.fields #[] }
noncomputable def o386:Obj:={ cls:=.none,data:=.func { name := "law", qualname := "law", params:=jmv,body:=.stmts jdv,scope:=jaq,globals:=0,closure:=[],defaults:=.none,kwdefaults:=.none,doc:=.none,pyModule:=.none,annotations:=none,code:=.none,closureTuple:=.none,builtins:=0 } }
noncomputable def o387:Obj:={ cls:=.type "code", data:=.fields #[.str "law" 780,.str "law" 781,.str "/claim/cut.py" 782,.int 260 0,.int 1 0,.int 0 0,.int 0 0,.int 3 0,.ref 384,.bool true,.int 181 0,.ref 385,.none,.none,.none,.ref 386,.int 783 0,.int 260 0,.str "/claim/cut.py" 784] }
noncomputable def o388:Obj:={ cls:=.type "function", data:=.func { name := "law", qualname := "law", params:=jmv,body:=.stmts jdv,scope:=jaq,globals:=3,closure:=[],defaults:=.none,kwdefaults:=.none,doc:=.none,pyModule:=.str "law_ix0009_01" 717,annotations:=none,code:=.ref 387,closureTuple:=.none,builtins:=0 } }
noncomputable def o3 (P:Params):Obj:={ cls:=.type "dict", data:=.dict #[⟨PyData.keyHash P "__name__", .str "__name__" 165,.str "law_ix0009_01" 717⟩,⟨PyData.keyHash P "__doc__", .str "__doc__" 166,.none⟩,⟨PyData.keyHash P "__package__", .str "__package__" 167,.none⟩,⟨PyData.keyHash P "__loader__", .str "__loader__" 168,.builtin "__main__.__loader__#opaque"⟩,⟨PyData.keyHash P "__spec__", .str "__spec__" 169,.none⟩,⟨PyData.keyHash P "__annotations__", .str "__annotations__" 170,.ref 6⟩,⟨PyData.keyHash P "__builtins__", .str "__builtins__" 171,.ref 4⟩,⟨PyData.keyHash P "__file__", .str "__file__" 173,.str "/claim/cut.py" 172⟩,⟨PyData.keyHash P "__cached__", .str "__cached__" 174,.none⟩,⟨PyData.keyHash P "_wall", .str "_wall" 193,.ref 21⟩,⟨PyData.keyHash P "AEAD_NONCE_LENGTH", .str "AEAD_NONCE_LENGTH" 197,.int 12 196⟩,⟨PyData.keyHash P "PACKET_NUMBER_LENGTH_MAX", .str "PACKET_NUMBER_LENGTH_MAX" 199,.int 4 198⟩,⟨PyData.keyHash P "SAMPLE_LENGTH", .str "SAMPLE_LENGTH" 201,.int 16 200⟩,⟨PyData.keyHash P "CryptoError", .str "CryptoError" 219,.ref 31⟩,⟨PyData.keyHash P "AEAD", .str "AEAD" 283,.ref 72⟩,⟨PyData.keyHash P "HeaderProtection", .str "HeaderProtection" 354,.ref 114⟩,⟨PyData.keyHash P "PACKET_LONG_HEADER", .str "PACKET_LONG_HEADER" 358,.int 128 357⟩,⟨PyData.keyHash P "QuicProtocolVersion", .str "QuicProtocolVersion" 384,.ref 128⟩,⟨PyData.keyHash P "decode_packet_number", .str "decode_packet_number" 396,.ref 139⟩,⟨PyData.keyHash P "is_long_header", .str "is_long_header" 403,.ref 146⟩,⟨PyData.keyHash P "CipherSuite", .str "CipherSuite" 431,.ref 156⟩,⟨PyData.keyHash P "cipher_suite_hash", .str "cipher_suite_hash" 438,.ref 167⟩,⟨PyData.keyHash P "hkdf_expand_label", .str "hkdf_expand_label" 450,.ref 174⟩,⟨PyData.keyHash P "CIPHER_SUITES", .str "CIPHER_SUITES" 463,.ref 175⟩,⟨PyData.keyHash P "NoCallback", .str "NoCallback" 470,.ref 185⟩,⟨PyData.keyHash P "KeyUnavailableError", .str "KeyUnavailableError" 486,.ref 195⟩,⟨PyData.keyHash P "derive_key_iv_hp", .str "derive_key_iv_hp" 498,.ref 204⟩,⟨PyData.keyHash P "CryptoContext", .str "CryptoContext" 596,.ref 257⟩,⟨PyData.keyHash P "apply_key_phase", .str "apply_key_phase" 605,.ref 268⟩,⟨PyData.keyHash P "next_key_phase", .str "next_key_phase" 615,.ref 275⟩,⟨PyData.keyHash P "CryptoPair", .str "CryptoPair" 716,.ref 343⟩,⟨PyData.keyHash P "_law_suites", .str "_law_suites" 724,.ref 354⟩,⟨PyData.keyHash P "_law_labels", .str "_law_labels" 743,.ref 357⟩,⟨PyData.keyHash P "_law_next", .str "_law_next" 749,.ref 364⟩,⟨PyData.keyHash P "_law_keys", .str "_law_keys" 755,.ref 369⟩,⟨PyData.keyHash P "_law_pair", .str "_law_pair" 767,.ref 376⟩,⟨PyData.keyHash P "_law_stands", .str "_law_stands" 779,.ref 383⟩,⟨PyData.keyHash P "law", .str "law" 785,.ref 388⟩] 38 }
noncomputable def o12:Obj:={ cls:=.none,data:=.fields #[.int 1 0,.int 0 0,.ref 20,.int 8 0,.int 0 0,.ref 27,.int 10 0,.int 0 0,.ref 40,.int 33 0,.int 0 0,.ref 82,.int 77 0,.int 0 0,.ref 124,.int 81 0,.int 0 0,.ref 138,.int 91 0,.int 0 0,.ref 145,.int 94 0,.int 0 0,.ref 152,.int 98 0,.int 0 0,.ref 166,.int 102 0,.int 0 0,.ref 173,.int 105 0,.int 0 0,.ref 184,.int 107 0,.int 0 0,.ref 191,.int 109 0,.int 0 0,.ref 203,.int 119 0,.int 0 0,.ref 210,.int 171 0,.int 0 0,.ref 267,.int 176 0,.int 0 0,.ref 274,.int 185 0,.int 0 0,.ref 281,.int 227 0,.int 0 0,.ref 353,.int 230 0,.int 0 0,.ref 363,.int 232 0,.int 0 0,.ref 368,.int 248 0,.int 0 0,.ref 375,.int 255 0,.int 0 0,.ref 382,.int 260 0,.int 0 0,.ref 387] }
noncomputable def o355 (P:Params):Obj:=jn8 #[jtq P ksx 725 0 726,jtq P ivA 727 1 728,jtq P hpA 729 2 730] 3
noncomputable def o356 (P:Params):Obj:=jn8 #[jtq P ksq 734 0 735,jtq P ivB 736 1 737,jtq P hpB 738 2 739] 3
noncomputable def o357:Obj:={ cls:=.type "list", data:=.seq #[.ref 355,.ref 356] }
noncomputable def sub7 (P:Params):BT:=(.node (boot_o_7 P) (.node (Y7 P) (.node (kzw P) (.node (Y58 P) (.node (kq1 P) (.node (Y268 P) .nil .nil) (.node o383 .nil .nil)) (.node (Y201 P) (.node (Y338 P) .nil .nil) .nil)) (.node (Y93 P) (.node (vaw P) (.node (Y306 P) .nil .nil) .nil) (.node (Y236 P) (.node (Y373 P) .nil .nil) .nil))) (.node (Y42 P) (.node (Y77 P) (.node (kt9 P) (.node (Y287 P) .nil .nil) .nil) (.node (Y220 P) (.node (Y354 P) .nil .nil) .nil)) (.node (kmj P) (.node (kqz P) (.node (Y322 P) .nil .nil) .nil) (.node (Y252 P) (.node o367 .nil .nil) .nil)))) (.node (Y15 P) (.node (Y34 P) (.node (Y66 P) (.node (kuk P) (.node (Y279 P) .nil .nil) .nil) (.node (Y209 P) (.node (Y346 P) .nil .nil) .nil)) (.node (kmw P) (.node (kt4 P) (.node (Y314 P) .nil .nil) .nil) (.node (Y244 P) (.node o359 .nil .nil) .nil))) (.node (Y50 P) (.node (Y85 P) (.node (va5 P) (.node (Y298 P) .nil .nil) .nil) (.node (Y228 P) (.node (Y362 P) .nil .nil) .nil)) (.node (kvz P) (.node (kz0 P) (.node (Y330 P) .nil .nil) .nil) (.node (Y260 P) (.node o375 .nil .nil) .nil)))))
noncomputable def sub11 (P:Params):BT:=(.node (Y1 P) (.node (Y11 P) (.node (Y30 P) (.node (Y62 P) (.node (ku2 P) (.node (Y272 P) .nil .nil) (.node o387 .nil .nil)) (.node (kzv P) (.node (Y342 P) .nil .nil) .nil)) (.node (Y97 P) (.node (vaz P) (.node (Y310 P) .nil .nil) .nil) (.node (Y240 P) (.node (o355 P) .nil .nil) .nil))) (.node (Y46 P) (.node (Y81 P) (.node (va9 P) (.node (Y291 P) .nil .nil) .nil) (.node (Y224 P) (.node (Y358 P) .nil .nil) .nil)) (.node (kq5 P) (.node (kz4 P) (.node (Y326 P) .nil .nil) .nil) (.node (Y256 P) (.node o371 .nil .nil) .nil)))) (.node (Y19 P) (.node (Y38 P) (.node (Y70 P) (.node (kqk P) (.node (Y283 P) .nil .nil) .nil) (.node (kzj P) (.node (Y350 P) .nil .nil) .nil)) (.node (kq9 P) (.node (kz6 P) (.node (Y318 P) .nil .nil) .nil) (.node (Y248 P) (.node o363 .nil .nil) .nil))) (.node (Y54 P) (.node (Y89 P) (.node (kt7 P) (.node (Y302 P) .nil .nil) .nil) (.node (Y232 P) (.node (Y366 P) .nil .nil) .nil)) (.node (ku8 P) (.node (Y197 P) (.node (Y334 P) .nil .nil) .nil) (.node (Y264 P) (.node o379 .nil .nil) .nil)))))
noncomputable def sub9 (P:Params):BT:=(.node (boot_o_9 P) (.node (Y9 P) (.node (Y25 P) (.node (Y60 P) (.node (ku4 P) (.node (Y270 P) .nil .nil) (.node o385 .nil .nil)) (.node (Y203 P) (.node (Y340 P) .nil .nil) .nil)) (.node (Y95 P) (.node (vav P) (.node (Y308 P) .nil .nil) .nil) (.node (Y238 P) (.node (Y375 P) .nil .nil) .nil))) (.node (Y44 P) (.node (Y79 P) (.node (kqv P) (.node (Y289 P) .nil .nil) .nil) (.node (Y222 P) (.node (Y356 P) .nil .nil) .nil)) (.node (kmz P) (.node (kt0 P) (.node (Y324 P) .nil .nil) .nil) (.node (Y254 P) (.node o369 .nil .nil) .nil)))) (.node (Y17 P) (.node (Y36 P) (.node (Y68 P) (.node (kuj P) (.node (Y281 P) .nil .nil) .nil) (.node (Y211 P) (.node (Y348 P) .nil .nil) .nil)) (.node (krx P) (.node (kz8 P) (.node (Y316 P) .nil .nil) .nil) (.node (Y246 P) (.node o361 .nil .nil) .nil))) (.node (Y52 P) (.node (Y87 P) (.node (va3 P) (.node (Y300 P) .nil .nil) .nil) (.node (Y230 P) (.node (Y364 P) .nil .nil) .nil)) (.node (kvq P) (.node (ktv P) (.node (Y332 P) .nil .nil) .nil) (.node (Y262 P) (.node o377 .nil .nil) .nil)))))
noncomputable def sub13 (P:Params):BT:=(.node (Y3 P) (.node (Y13 P) (.node (Y32 P) (.node (Y64 P) (.node (ku0 P) (.node (Y274 P) .nil .nil) .nil) (.node (Y207 P) (.node (Y344 P) .nil .nil) .nil)) (.node (Y99 P) (.node (vaq P) (.node (Y312 P) .nil .nil) .nil) (.node (Y242 P) (.node o357 .nil .nil) .nil))) (.node (Y48 P) (.node (Y83 P) (.node (va7 P) (.node (Y296 P) .nil .nil) .nil) (.node (Y226 P) (.node (Y360 P) .nil .nil) .nil)) (.node (kq3 P) (.node (kz2 P) (.node (Y328 P) .nil .nil) .nil) (.node (Y258 P) (.node o373 .nil .nil) .nil)))) (.node (Y21 P) (.node (Y40 P) (.node (Y75 P) (.node (kux P) (.node (Y285 P) .nil .nil) .nil) (.node (Y218 P) (.node (Y352 P) .nil .nil) .nil)) (.node (kq7 P) (.node (kt3 P) (.node (Y320 P) .nil .nil) .nil) (.node (Y250 P) (.node o365 .nil .nil) .nil))) (.node (Y56 P) (.node (Y91 P) (.node (va1 P) (.node (Y304 P) .nil .nil) .nil) (.node (Y234 P) (.node (Y371 P) .nil .nil) .nil)) (.node (ku6 P) (.node (Y199 P) (.node (Y336 P) .nil .nil) .nil) (.node (Y266 P) (.node o381 .nil .nil) .nil)))))
noncomputable def sub8 (P:Params):BT:=(.node (boot_o_8 P) (.node (Y8 P) (.node (Y24 P) (.node (Y59 P) (.node (kq0 P) (.node (Y269 P) .nil .nil) (.node o384 .nil .nil)) (.node (Y202 P) (.node (Y339 P) .nil .nil) .nil)) (.node (Y94 P) (.node (vak P) (.node (Y307 P) .nil .nil) .nil) (.node (Y237 P) (.node (Y374 P) .nil .nil) .nil))) (.node (Y43 P) (.node (Y78 P) (.node (kt8 P) (.node (Y288 P) .nil .nil) .nil) (.node (Y221 P) (.node (Y355 P) .nil .nil) .nil)) (.node (kq6 P) (.node (kt1 P) (.node (Y323 P) .nil .nil) .nil) (.node (Y253 P) (.node o368 .nil .nil) .nil)))) (.node (Y16 P) (.node (Y35 P) (.node (Y67 P) (.node (kuv P) (.node (Y280 P) .nil .nil) .nil) (.node (Y210 P) (.node (Y347 P) .nil .nil) .nil)) (.node (kmk P) (.node (kz9 P) (.node (Y315 P) .nil .nil) .nil) (.node (Y245 P) (.node o360 .nil .nil) .nil))) (.node (Y51 P) (.node (Y86 P) (.node (va4 P) (.node (Y299 P) .nil .nil) .nil) (.node (Y229 P) (.node (Y363 P) .nil .nil) .nil)) (.node (kvx P) (.node (ktk P) (.node (Y331 P) .nil .nil) .nil) (.node (Y261 P) (.node o376 .nil .nil) .nil)))))
noncomputable def sub12 (P:Params):BT:=(.node o12 (.node (Y12 P) (.node (Y31 P) (.node (Y63 P) (.node (ku1 P) (.node (Y273 P) .nil .nil) (.node o388 .nil .nil)) (.node (Y206 P) (.node (Y343 P) .nil .nil) .nil)) (.node (Y98 P) (.node (vax P) (.node (Y311 P) .nil .nil) .nil) (.node (Y241 P) (.node (o356 P) .nil .nil) .nil))) (.node (Y47 P) (.node (Y82 P) (.node (va8 P) (.node (Y295 P) .nil .nil) .nil) (.node (Y225 P) (.node (Y359 P) .nil .nil) .nil)) (.node (kq4 P) (.node (kz3 P) (.node (Y327 P) .nil .nil) .nil) (.node (Y257 P) (.node o372 .nil .nil) .nil)))) (.node (Y20 P) (.node (Y39 P) (.node (Y71 P) (.node (kuz P) (.node (Y284 P) .nil .nil) .nil) (.node (kzz P) (.node (Y351 P) .nil .nil) .nil)) (.node (kq8 P) (.node (kz5 P) (.node (Y319 P) .nil .nil) .nil) (.node (Y249 P) (.node o364 .nil .nil) .nil))) (.node (Y55 P) (.node (Y90 P) (.node (kt6 P) (.node (Y303 P) .nil .nil) .nil) (.node (Y233 P) (.node (Y370 P) .nil .nil) .nil)) (.node (ku7 P) (.node (Y198 P) (.node (Y335 P) .nil .nil) .nil) (.node (Y265 P) (.node o380 .nil .nil) .nil)))))
noncomputable def sub10 (P:Params):BT:=(.node (boot_o_10 P) (.node (Y10 P) (.node (Y26 P) (.node (Y61 P) (.node (ku3 P) (.node (Y271 P) .nil .nil) (.node o386 .nil .nil)) (.node (kzk P) (.node (Y341 P) .nil .nil) .nil)) (.node (Y96 P) (.node (vaj P) (.node (Y309 P) .nil .nil) .nil) (.node (Y239 P) (.node (Y376 P) .nil .nil) .nil))) (.node (Y45 P) (.node (Y80 P) (.node (kqj P) (.node (Y290 P) .nil .nil) .nil) (.node (Y223 P) (.node (Y357 P) .nil .nil) .nil)) (.node (kmx P) (.node (ktw P) (.node (Y325 P) .nil .nil) .nil) (.node (Y255 P) (.node o370 .nil .nil) .nil)))) (.node (Y18 P) (.node (Y37 P) (.node (Y69 P) (.node (kqw P) (.node (Y282 P) .nil .nil) .nil) (.node (Y212 P) (.node (Y349 P) .nil .nil) .nil)) (.node (krq P) (.node (kz7 P) (.node (Y317 P) .nil .nil) .nil) (.node (Y247 P) (.node o362 .nil .nil) .nil))) (.node (Y53 P) (.node (Y88 P) (.node (va2 P) (.node (Y301 P) .nil .nil) .nil) (.node (Y231 P) (.node (Y365 P) .nil .nil) .nil)) (.node (ku9 P) (.node (Y196 P) (.node (Y333 P) .nil .nil) .nil) (.node (Y263 P) (.node o378 .nil .nil) .nil)))))
noncomputable def sub14 (P:Params):BT:=(.node (Y4 P) (.node (Y14 P) (.node (Y33 P) (.node (Y65 P) (.node (kuw P) (.node (Y278 P) .nil .nil) .nil) (.node (Y208 P) (.node (Y345 P) .nil .nil) .nil)) (.node (krz P) (.node (kt5 P) (.node (Y313 P) .nil .nil) .nil) (.node (Y243 P) (.node o358 .nil .nil) .nil))) (.node (Y49 P) (.node (Y84 P) (.node (va6 P) (.node (Y297 P) .nil .nil) .nil) (.node (Y227 P) (.node (Y361 P) .nil .nil) .nil)) (.node (kq2 P) (.node (kz1 P) (.node (Y329 P) .nil .nil) .nil) (.node (Y259 P) (.node o374 .nil .nil) .nil)))) (.node (Y22 P) (.node (Y41 P) (.node (Y76 P) (.node (kuq P) (.node (Y286 P) .nil .nil) .nil) (.node (Y219 P) (.node (Y353 P) .nil .nil) .nil)) (.node (kmv P) (.node (kt2 P) (.node (Y321 P) .nil .nil) .nil) (.node (Y251 P) (.node o366 .nil .nil) .nil))) (.node (Y57 P) (.node (Y92 P) (.node (va0 P) (.node (Y305 P) .nil .nil) .nil) (.node (Y235 P) (.node (Y372 P) .nil .nil) .nil)) (.node (ku5 P) (.node (Y200 P) (.node (Y337 P) .nil .nil) .nil) (.node (Y267 P) (.node o382 .nil .nil) .nil)))))
noncomputable def jo9 (P:Params):BT:=(.node (boot_o_0 P) (.node (boot_o_1 P) (.node (o3 P) (sub7 P) (sub11 P)) (.node (boot_o_5 P) (sub9 P) (sub13 P))) (.node (boot_o_2 P) (.node (boot_o_4 P) (sub8 P) (sub12 P)) (.node (boot_o_6 P) (sub10 P) (sub14 P))))
noncomputable def S33 (w:World) (os:OsState):SharedT:={ tree:=jo9 w.params,n:=389,life:={ },gens:={ toList:=[] },drawn:={ },toks:=786,os:=os }
theorem run33 (w:World) (os:OsState) (b:List Stmt) (q:Pos):segRunT treeTable pw w 11 (some (.ref 6)) 1 600 (S28 w os) (piecesOf (sts 28 5) top.env_1 (cB b) q [topFrame p0])=some (.next,S33 w os,cB b,⟨260,0,332,15⟩):=by kernel_rfl
theorem runEnd (w:World) (os:OsState) (b:List Stmt):topRun treeTable pw w 11 (some (.ref 6)) 10 (S33 w os).abs ⟨doneF .next,cB b,⟨260,0,332,15⟩,[topFrame p0]⟩=some (S33 w os).abs:=by kernel_rfl
noncomputable def S4 (w:World) (os:OsState):SharedT:={ tree:=top.tree_4 w.params,n:=15,life:={ },gens:={ toList:=[] },drawn:={ },toks:=187,os:=os }
theorem runPre (w:World) (os:OsState):topGo treeTable pw w 11 (some (.ref 6)) 12 ⟨boot_heap w.params,{ toList:=[] },boot_drawn,boot_toks,os⟩ (topStub pw)=some ((S4 w os).abs,⟨denote treeTable (.body (behindTheImports pw) top.env_1),cB (behindTheImports pw),p0,[topFrame p0]⟩):=by kernel_rfl
theorem knv (w:World) (os:OsState):segRun treeTable pw w 11 (some (.ref 6)) 1 5 (S4 w os).abs (blockOf (behindTheImports pw) top.env_1 (cB (behindTheImports pw)) p0 [topFrame p0])=some (.next,(S4 w os).abs,cB (behindTheImports pw),p0):=by kernel_rfl
noncomputable def H1 (P:Params):Heap:=absHeap (jo9 P) 389 {}
noncomputable abbrev kp8 (l:List Stmt):List Stmt:=top.sts_4++(top.sts_28++(top.sts_73++(top.sts_118++(top.sts_149++(top.sts_193++(top.sts_216++(top.sts_276++(top.sts_293++(top.sts_368++l)))))))))
theorem ky8:behindTheImports pw=kp8 (st27::(sts 28 5++[])):=by kernel_rfl
theorem kv8 (w:World) (os:OsState):topRun treeTable pw w 11 (some (.ref 6)) (12+(5+(252+(330+(355+(292+(370+(248+(421+(64+(537+(38+(4000+(600+10)))))))))))))) ⟨boot_heap w.params,{ toList:=[] },boot_drawn,boot_toks,os⟩ (topStub pw)=some ⟨H1 w.params,{ toList:=[] },{},786,os⟩:=by
 refine go_top (runPre w os) (piece_block (knv w os) ?_)
 rw [ky8]
 refine top.chain pw _ w os _ _ _ ?_
 obtain ⟨q',h⟩:=ki8 (w:=w) (b:=kp8 (st27::(sts 28 5++[])))
  os (fun f=>match f with | .next=>(execs (sts 28 5++[]) top.env_1).wrap doneF (leaveH top.env_1) id id | f=>doneF f) (leaveH top.env_1) id id ⟨227,0,228,29⟩
 have e:restOf (st27::(sts 28 5++[])) top.env_1 (cB (kp8 (st27::(sts 28 5++[])))) ⟨227,0,228,29⟩ [topFrame p0]=⟨(exec st27 top.env_1).wrap (fun f=>match f with | .next=>(execs (sts 28 5++[]) top.env_1).wrap doneF (leaveH top.env_1) id id | f=>doneF f) (leaveH top.env_1) id id,cB (kp8 (st27::(sts 28 5++[]))),⟨227,0,228,29⟩,[topFrame p0]⟩:=by
  unfold restOf
  rw [execs_cons_wrap]
  rfl
 rw [e]
 refine h _ _ ?_
 exact piece_app (segRun_of (run33 w os _ q')) (piece_nil (runEnd w os _))
noncomputable def keepL:List Nat:=[0,2,3,4,5,6,7,9,10,11,12,14,15,16,17,18,19,20,21,22,23,24,26,27,28,29,30,31,32]
noncomputable def qv:Program:={ PySem.Challenge.pw_ix0009_01 with main:={ PySem.Challenge.pw_ix0009_01.main with body:=keepL.filterMap fun i=>PySem.Challenge.pw_ix0009_01.main.body[i]? } }
noncomputable def jdj:List Str:=["QuicProtocolVersion", "CipherSuite", "CIPHER_SUITES", "CryptoContext", "CryptoPair", "_law_labels"]
noncomputable abbrev shE (w:World) (os:OsState):Shared:=⟨H1 w.params,{ toList:=[] },{},786,os⟩
theorem kxq (w:World):((boot_heap w.params).isNs mainGlobals&&(#[]:Array GenState).size==0,(boot_heap w.params).objs.size,(boot_heap w.params).nsMap mainGlobals "__annotations__")=(true,11,some (.ref 6)):=by kernel_rfl
theorem lk1 (w:World):staticsOk (importedModules pw.main.body) (boot_heap w.params) (H1 w.params)=true:=by kernel_rfl
theorem lk2 (w:World):namesBound pw (H1 w.params)=true:=by kernel_rfl
theorem lk3 (w:World) (os:OsState):gensDone (shE w os)=true:=by kernel_rfl
theorem lk4 (w:World):laidKept (boot_heap w.params) (H1 w.params)=true:=by kernel_rfl
theorem lk5 (w:World) (os:OsState):seen ((recsOf qv).map (·.name)) (ownsOf qv) [] { shE w os with gens:=#[] } = expectedOf qv:=by kernel_rfl
theorem lk6 (w:World) (os:OsState):(shE w os).heap.bltView=bltViewBooted:=by kernel_rfl
theorem lk7a (w:World) (os:OsState):(shE w os).heap.keysOk (looseW qv jdj) ((recsOf qv).map (·.name)) ((litsOf qv).map (·.1)) ((clssOf qv (looseW qv jdj)).map (·.name))=true:=by kernel_rfl
theorem lk7b (w:World) (os:OsState):((shE w os).heap.accountedOkI (importedModules pw.main.body)&&(shE w os).heap.isNs mainGlobals&&(shE w os).heap.isNs builtinsNs)=true:=by kernel_rfl
theorem lk7c (w:World) (os:OsState):tablesOk qv (shE w os).heap=true:=by kernel_rfl
theorem lk7d (w:World) (os:OsState):(xlAt qv [] (shE w os)&&recOk [] (shE w os))=true:=by kernel_rfl
theorem lk8 (w:World) (os:OsState):tabsOk qv (shE w os)=true:=by kernel_rfl
theorem lk9 (w:World) (os:OsState):pinSeenD qv (drecsOf qv) (shE w os)=pinGoodD (drecsOf qv):=by kernel_rfl
theorem lk10 (w:World) (os:OsState):plainSeenE qv (looseW qv jdj) (shE w os)=plainGoodE qv (looseW qv jdj):=by kernel_rfl
theorem lk11 (w:World) (os:OsState):plainSeenD qv jdj (shE w os)=plainGoodD qv jdj:=by kernel_rfl
theorem lk12 (w:World) (os:OsState):wideSeen qv (shE w os)=wideGood qv:=by kernel_rfl
theorem lk13 (w:World) (os:OsState):clsSeenW qv jdj (shE w os)=clsGoodW qv jdj:=by kernel_rfl
theorem ky7 (w:World):(fencedOpening treeTable pw w 20000).map (fun s=>(s.heap,s.gens,s.drawn,s.toks))=some (boot_heap w.params,{ toList:=[] },boot_drawn,boot_toks) :=
 boot_open (by kernel_rfl) (by kernel_rfl) (fun s=>by rfl) w
theorem kv7 (w:World) (os:OsState):openSeen qv jdj (importedModules pw.main.body) (fun s=>xlAt qv [] s&&recOk [] s) true (shE w os)=openGood qv jdj:=by
 have h:=lk7b w os
 simp only [Bool.and_eq_true] at h
 unfold openSeen openGood
 rw [lk5,lk6,lk7a,h.1.1,h.1.2,h.2,lk7c,show (fun s=>xlAt qv [] s&&recOk [] s) (shE w os)=true from lk7d w os,lk8,lk9,lk10,lk11,lk12,lk13]
 have h2:(if (true:Bool)=true then (shE w os).gens.size==0 else !leftWithCleanup (shE w os).gens)=true:=rfl
 rw [h2]
 rfl
theorem kxz:LeftO pw qv jdj (fun s=>xlAt qv [] s&&recOk [] s) (fun s=>s.heap) (fun w=>H1 w.params) 20000 :=
 LeftO.of_pieces ky7 kxq (fun w os=>kv8 w os) (by decide) fun w=>funext fun os=>by
  rw [lk1,lk2,lk3,lk4]
  exact congrArg (fun x=>(true,x,H1 w.params)) (kv7 w os)
def YP (w:World) (h:Heap):Prop:=∀ b o,(H1 w.params).get? b=some o->h.get? b=some o
theorem YP.keeps (w:World) (h h':Heap) (x:YP w h) (k:∀ b o,h.get? b=some o->h'.get? b=some o):YP w h':=fun b o e=>k b o (x b o e)
noncomputable abbrev rowR:RowW:=PySem.Challenge.rw_ix0009_01.row.toRowW
noncomputable abbrev jgz:DefRec:={ name := "law", params:=jmv,body:=jdv,scope:=jaq,pos:=⟨260,0,332,15⟩ }
noncomputable def K (P:Params):Frag:=(nat_lit 3,o3 P)::(nat_lit 257,Y270 P)::(nat_lit 256,Y269 P)::(nat_lit 343,Y362 P)::(nat_lit 342,Y361 P)::(nat_lit 72,Y67 P)::(nat_lit 71,Y66 P)::(nat_lit 114,kmx P)::(nat_lit 113,kmz P)::(nat_lit 31,kzw P)::(nat_lit 30,Y22 P)::(nat_lit 195,kzv P)::(nat_lit 194,kzk P)::(nat_lit 156,kt6 P)::(nat_lit 155,kt7 P)::(nat_lit 128,kq0 P)::(nat_lit 127,kq1 P)::(nat_lit 48,Y43 P)::(nat_lit 55,Y50 P)::(nat_lit 62,Y57 P)::(nat_lit 69,Y64 P)::(nat_lit 90,Y88 P)::(nat_lit 97,Y95 P)::(nat_lit 104,kmk P)::(nat_lit 111,kmj P)::(nat_lit 139,kqk P)::(nat_lit 146,kqj P)::(nat_lit 167,kt4 P)::(nat_lit 174,kt2 P)::(nat_lit 185,ktv P)::(nat_lit 204,kzz P)::(nat_lit 219,Y232 P)::(nat_lit 226,Y239 P)::(nat_lit 233,Y246 P)::(nat_lit 240,Y253 P)::(nat_lit 247,Y260 P)::(nat_lit 254,Y267 P)::(nat_lit 268,Y284 P)::(nat_lit 275,Y291 P)::(nat_lit 290,Y309 P)::(nat_lit 297,Y316 P)::(nat_lit 304,Y323 P)::(nat_lit 311,Y330 P)::(nat_lit 318,Y337 P)::(nat_lit 325,Y344 P)::(nat_lit 332,Y351 P)::(nat_lit 340,Y359 P)::(nat_lit 354,Y376 P)::(nat_lit 364,o364)::(nat_lit 369,o369)::(nat_lit 376,o376)::(nat_lit 383,o383)::(nat_lit 388,o388)::(nat_lit 47,Y42 P)::(nat_lit 54,Y49 P)::(nat_lit 61,Y56 P)::(nat_lit 68,Y63 P)::(nat_lit 89,Y87 P)::(nat_lit 96,Y94 P)::(nat_lit 103,kmw P)::(nat_lit 110,kmv P)::(nat_lit 138,kqw P)::(nat_lit 145,kqv P)::(nat_lit 166,kt5 P)::(nat_lit 173,kt3 P)::(nat_lit 184,ktk P)::(nat_lit 203,kzj P)::(nat_lit 218,Y231 P)::(nat_lit 225,Y238 P)::(nat_lit 232,Y245 P)::(nat_lit 239,Y252 P)::(nat_lit 246,Y259 P)::(nat_lit 253,Y266 P)::(nat_lit 267,Y283 P)::(nat_lit 274,Y290 P)::(nat_lit 289,Y308 P)::(nat_lit 296,Y315 P)::(nat_lit 303,Y322 P)::(nat_lit 310,Y329 P)::(nat_lit 317,Y336 P)::(nat_lit 324,Y343 P)::(nat_lit 331,Y350 P)::(nat_lit 339,Y358 P)::(nat_lit 353,Y375 P)::(nat_lit 363,o363)::(nat_lit 368,o368)::(nat_lit 375,o375)::(nat_lit 382,o382)::(nat_lit 387,o387)::(nat_lit 212,Y225 P)::(nat_lit 283,Y302 P)::(nat_lit 333,Y352 P)::(nat_lit 175,kqz P)::(nat_lit 176,kt1 P)::(nat_lit 177,kt0 P)::(nat_lit 178,ktw P)::(nat_lit 355,o355 P)::(nat_lit 356,o356 P)::(nat_lit 357,o357)::(nat_lit 0,boot_o_0 P)::(nat_lit 1,boot_o_1 P)::(nat_lit 2,boot_o_2 P)::(nat_lit 4,boot_o_4 P)::(nat_lit 5,boot_o_5 P)::[]
noncomputable def ksj:List Nat:=[3,257,256,343,342,72,71,114,113,31,30,195,194,156,155,128,127,48,55,62,69,90,97,104,111,139,146,167,174,185,204,219,226,233,240,247,254,268,275,290,297,304,311,318,325,332,340,354,364,369,376,383,388,47,54,61,68,89,96,103,110,138,145,166,173,184,203,218,225,232,239,246,253,267,274,289,296,303,310,317,324,331,339,353,363,368,375,382,387,212,283,333,175,176,177,178,355,356,357,0,1,2,4,5]
theorem K_at (P:Params):ksj.map (jo9 P).get=(K P).map (fun p=>some p.2):=by kernel_rfl
theorem K_addr (P:Params):ksj=(K P).map (·.1):=by kernel_rfl
theorem vbv (P:Params):(K P).all (fun p=>(alive p.2).isSome&&Nat.blt p.1 389)=true:=by kernel_rfl
theorem kb0 {o:Obj} (h:(alive o).isSome=true):alive o=some o:=by
 obtain ⟨c,d,dt,sl⟩:=o
 cases dt <;> first | rfl | cases h
theorem kc7 {α β:Type} {f:α->β} {l:List (α×γ)} {g:α×γ->β} (h:(l.map (·.1)).map f=l.map g):∀ p∈l,f p.1=g p:=by
 intro p hp
 rw [List.map_map] at h
 exact (List.map_inj_left.mp h) p hp
theorem jnw {β:Type} {x:Nat} {d:β}:∀ {l:List (Nat×β)},l.lookup x=some d->(x,d)∈l
 | (y,e)::r,h=>by
  simp only [List.lookup] at h
  split at h
  ·rename_i q;cases h;rw [beq_iff_eq.mp q];exact .head _
  ·exact .tail _ (jnw h)
theorem K_in {w:World} {h:Heap} (Y:YP w h):(K w.params).In (h.hide 371):=by
 intro a o e
 have hm:(a,o)∈K w.params:=jnw e
 have h1:(jo9 w.params).get a=some o:=kc7 (l:=K w.params) (f:=(jo9 w.params).get) (g:=fun p=>some p.2) ((K_addr w.params)▸K_at w.params) _ hm
 have h2:=List.all_eq_true.mp (vbv w.params) _ hm
 simp only [Bool.and_eq_true] at h2
 have h3:a<389:=by simpa [Nat.blt_eq] using h2.2
 have h4:(H1 w.params).get? a=some o:=by
  unfold H1
  rw [abs_get h3 h1]
  exact kb0 h2.1
 rw [Heap.hide_ne]
 ·exact Y _ _ h4
 ·rintro rfl
  have:(K w.params).lookup 371=none:=by kernel_rfl
  rw [this] at e;cases e
structure jbw (w:World) (mg mb:Str->Option Value) (hb:Heap):Prop where
 k:(K w.params).In hb
 t:TopRead qv jdj mg mb hb
theorem jbw.keeps {w:World} {mg mb:Str->Option Value} {h h':Heap} (B:jbw w mg mb h) (k:∀ b o,h.get? b=some o->h'.get? b=some o):jbw w mg mb h':=⟨B.k.keeps k,B.t.keeps k⟩
theorem fillK:(fun (_:Type) (_:Params->Frag) (_:OpenLaw)=>True) Unit K PySem.Challenge.rw_ix0009_01:=by
 k_fill
 trivial
abbrev Sub (h h':Heap):Prop:=∀ b o,h.get? b=some o->h'.get? b=some o
abbrev jb8 (h:Heap) (as:List Addr) (h':Heap):Prop:=∀ b o,h.get? b=some o->b∉as->h'.get? b=some o
abbrev Has (hb h:Heap) (news:List (Addr×Obj)):Prop:=∀ p∈news,h.get? p.1=some p.2∧hb.get? p.1=none
section
variable {w:World} {mg mb:Str->Option Value} {hb:Heap} {s:Shared} {A:Around} {R:Result->Shared->Prop} {news:List (Addr×Obj)}
 {name qual:Str} {params:Arguments} {body:List Stmt} {scope:Scope} {dV kV doc pm cdv ct oc:Value} {an od:Option Addr} {osl:Array (Option Value)} {f:Addr} {args:Args} {binds:List (Str×Value)}
theorem enter (B:jbw w mg mb hb) (S:Sub hb s.heap) (N:Has hb s.heap news)
  (ho:(K w.params).lookup f=some ⟨oc,od,.func (fnOf name qual params body scope dV kV doc pm an cdv ct),osl⟩) (hcd:codeIn (K w.params) cdv qual=true) (hroom:A.depth<recursionLimit)
  (hbind:BindsTo s (fnOf name qual params body scope dV kV doc pm an cdv ct) args binds) (hloc:∀ y∈binds,scope.names.lookup y.1=some .local)
  (h:∀ g L' h₁ tk,jbw w mg mb g->Fr g L' h₁ (fun y=>binds.reverse.lookup y)->News g L' h₁ news->(∀ b o,s.heap.get? b=some o->b∉news.map (·.1)->g.get? b=some o)->Sub g s.heap->(∀ p∈news,p.1<L') →
   wpAny (model pw w) (A.deeper (envOf qual scope L' f cdv)) (execs body (envOf qual scope L' f cdv))
    (fun fl s'=>R (.ok (.ret (match fl with | .ret v=>v | _=>.none))) s')
    (fun e s'=>wpAny (model pw w) (A.deeper (envOf qual scope L' f cdv)) («leaving» (envOf qual scope L' f cdv) e) (fun zz s''=>R (.error e) s'') (fun e' s''=>R (.error e') s'') s')
    { s with heap:=h₁,toks:=tk })
  (hco:scope.isCoroutine=false) (hgen:scope.isGenerator=false) (hk:scope.kind=.function)
  (hcell:∀ x∈scope.names,x.2≠.cell):codeAny (model pw w) A (.call (.ref f) args) R s:=by
 have X:=B.k.keeps S
 have nm:∀ b o,hb.get? b=some o->b∉news.map (·.1):=fun b o e q=>by
  refine xEA (List.mem_map.mp q) fun p hp zq136=>?_
  obtain rfl:=zq136
  rw [(N p hp).2] at e;cases e
 have st:Sub hb (hideAll s.heap (news.map (·.1))):=fun b o e=>hideAll_get _ (S b o e) (nm b o e)
 refine codeAny_call_def (fd:=fnOf name qual params body scope dV kV doc pm an cdv ct) (body:=body) (binds:=binds) hroom (X _ _ ho) rfl (B.t.nolimit.keeps S) (codeRec_of X hcd) rfl hbind hcell hloc (fun h₁ hns hk₁=>?_) hco hgen hk
 exact h (hideAll s.heap (news.map (·.1))) s.heap.objs.size h₁ _ (B.keeps st) ⟨hns,fun b o e=>hk₁ b o (of_hideAll _ e),Nat.le_of_eq (hideAll_size _ _)⟩
  (fun p hp=>⟨hk₁ _ _ (N p hp).1,Nat.ne_of_lt (Heap.lt_size (N p hp).1),hideAll_none _ (List.mem_map_of_mem hp)⟩) (fun b o e n=>hideAll_get _ e n) (fun b o e=>of_hideAll _ e) (fun p hp=>Heap.lt_size (N p hp).1)
theorem ja5 {h g h':Heap} {as:List Addr} {L:Addr} {m:Str->Option Value} (hg:∀ b o,h.get? b=some o->b∉as->g.get? b=some o) (F:Fr g L h' m):jb8 h as h':=fun b o e n=>F.keep b o (hg b o e n)
end
def jb4 (w:World) (A:Around) (s:Shared) (c:Code) (as:List Addr) (Post:Value->Heap->Prop):Prop :=
 ∀ R:Result->Shared->Prop,(∀ v h' tk,jb8 s.heap as h'->Post v h'->R (.ok (.ret v)) { s with heap:=h',toks:=tk })->codeAny (model pw w) A c R s
section
variable {w:World} {mg mb:Str->Option Value} {g h h':Heap} {L:Addr} {m:Str->Option Value} {news news':List (Addr×Obj)} {as:List Addr} {s:Shared} {A:Around}
theorem jc0 (F:Fr g L h m) (H:jb8 h as h') (ha:∀ a∈as,a≠L∧g.get? a=none):Fr g L h' m:=by
 refine km2 F.ns fun oL es ep hL r=>?_
 exact ⟨⟨oL,es,ep,H L oL hL fun q=>(ha L q).1 rfl,r⟩,fun b o e=>H b o (F.keep b o e) (fun q=>by rw [(ha b q).2] at e;cases e),F.above⟩
theorem jj1 (N:News g L h news) (H:jb8 h as h') (hs:∀ p∈news',p∈news∧p.1∉as):News g L h' news':=fun p hp=>⟨H _ _ (N p (hs p hp).1).1 (hs p hp).2,(N p (hs p hp).1).2⟩
theorem jc7 (N:News g L h news) (H:jb8 h [] h'):News g L h' news:=jj1 N H fun zz hp=>⟨hp,fun q=>nomatch q⟩
theorem jc9 (F:Fr g L h m) (H:jb8 h [] h'):Fr g L h' m:=jc0 F H fun zz ha=>nomatch ha
theorem jgk {E:Value->Shared->Prop} {Q:Value->Shared->Prop} {f:Addr} {pos:List Value} {kw:List (Str×Value)} {Post:Value->Heap->Prop} (F:Fr g L s.heap m) (N:News g L s.heap news)
  (sp:jb4 w A s (.call (.ref f) ⟨pos,kw⟩) [] Post)
  (h:∀ v h' tk,Fr g L h' m->News g L h' news->jb8 s.heap [] h'->Post v h'->Q v { s with heap:=h',toks:=tk }):wpAny (model pw w) A (call (.ref f) pos kw) Q E s :=
 wpAny_call (sp _ fun v h' tk H P=>h v h' tk (jc9 F H) (jc7 N H) H P)
theorem jeq {E:Value->Shared->Prop} {Q:Value->Shared->Prop} {f:Addr} {pos:List Value} {kw:List (Str×Value)} {V:Tok->Value} (F:Fr g L s.heap m) (N:News g L s.heap news)
  (sp:jb4 w A s (.call (.ref f) ⟨pos,kw⟩) [] (fun v zz=>∃ t,v=V t))
  (h:∀ h' tk,Fr g L h' m->News g L h' news->∀ t,Q (V t) { s with heap:=h',toks:=tk }):wpAny (model pw w) A (call (.ref f) pos kw) Q E s :=
 jgk F N sp fun v h' tk F N zz P=>P.elim fun t e=>e▸h h' tk F N t
theorem jk7 {E:Value->Shared->Prop} {Q:Value->Shared->Prop} {f:Addr} {pos:List Value} {kw:List (Str×Value)} {V:Value} (F:Fr g L s.heap m) (N:News g L s.heap news)
  (sp:jb4 w A s (.call (.ref f) ⟨pos,kw⟩) [] (fun v zz=>v=V))
  (h:∀ h' tk,Fr g L h' m->News g L h' news->Q V { s with heap:=h',toks:=tk }):wpAny (model pw w) A (call (.ref f) pos kw) Q E s :=
 jgk F N sp fun v h' tk F N zz e=>e▸h h' tk F N
end
noncomputable def BE (k n:Nat):Array UInt8:=(KTBy.low (n:Int) k).reverse.toArray
noncomputable def natBE (b:Array UInt8):Nat:=b.toList.foldl (fun (acc:Nat) (x:UInt8)=>acc*256+x.toNat) 0
theorem kg9 {n k:Nat} (h:n<256 ^ k):(KTBy.low (n:Int) k).map (fun c=>c.toNat)=(List.range k).map fun i=>n / 256 ^ i % 256:=by
 have e:=KTBy.low_ints (x:=(n:Int)) (n:=k) (by walk_at "OM") (by rw [KTBy.p256];exact Int.ofNat_lt.mpr h)
 refine List.map_inj_right (f:=fun (x:Nat)=>(x:Int)) (fun a b q=>Int.ofNat.inj q) |>.mp ?_
 rw [List.map_map,List.map_map]
 refine Eq.trans ?_ (e.trans (List.map_congr_left fun i _=>?_))
 ·rfl
 ·rw [KTBy.p256];rfl
theorem jq0 (n:Nat):∀ (k a:Nat),((List.range k).map fun i=>n / 256 ^ i % 256).reverse.foldl (fun (acc x:Nat)=>acc*256+x) a=a*256 ^ k+n % 256 ^ k
 | 0,a=>by simp [Nat.mod_one]
 | k+1,a=>by
  rw [List.range_succ,List.map_append,List.reverse_append,List.map_cons,List.map_nil,List.reverse_cons,List.reverse_nil,List.nil_append,List.cons_append,List.nil_append,List.foldl_cons,jq0 n k,Nat.mod_pow_succ,Nat.pow_succ]
  generalize n / 256 ^ k % 256=d
  generalize 256 ^ k=p
  generalize n % p=r
  rw [Nat.add_mul,Nat.mul_assoc,Nat.mul_comm 256 p,Nat.mul_comm d p]
  rw [Nat.add_assoc,Nat.add_comm (p*d)]
theorem jm0 {k n:Nat} (h:n<256 ^ k):natBE (BE k n)=n:=by
 unfold natBE BE
 have:(KTBy.low (n:Int) k).reverse.foldl (fun (acc:Nat) (x:UInt8)=>acc*256+x.toNat) 0=((KTBy.low (n:Int) k).map (fun c=>c.toNat)).reverse.foldl (fun (acc x:Nat)=>acc*256+x) 0:=by
  rw [← List.map_reverse,List.foldl_map]
 rw [List.toList_toArray,this,kg9 h,jq0]
 rw [Nat.mod_eq_of_lt h];walk_at "OM"
theorem jdk (k n:Nat):(BE k n).size=k:=by unfold BE;rw [List.size_toArray,List.length_reverse,KTBy.low_length]
theorem kvk {k n n':Nat} (h:n<256 ^ k) (h':n'<256 ^ k) (e:BE k n=BE k n'):n=n':=by rw [← jm0 h,e,jm0 h']
section
variable {prog:Program} {w:World} {M:Model} {A:Around} {E:Value->Shared->Prop} {s:Shared} {g:Heap} {L:Addr} {m:Str->Option Value} {news:List (Addr×Obj)}
theorem jlk {n k:Nat} {t u v:Tok} {Q:Value->Shared->Prop} (hk:k≤64) (h1:n<256 ^ k) (h:∀ t' tk,Q (.bytes (BE k n) t') { s with toks:=tk }) :
  wpAny (model prog w) A (call (.builtin "int.to_bytes") [.int (n:Int) t,.int (k:Int) u,.str "big" v]) Q E s:=by
 refine wpAny_call_entry KTBy.slot (typeIs_int s (n:Int) t) KTBy.entry ?_ (KTBy.args _ _ _)
 have hb:PySem.Builtin.Int.intBits (n:Int)≤8*k:=KTBy.bits_le rfl (by walk_at "OM") (by rw [KTBy.p256];exact Int.ofNat_lt.mpr h1)
 show wpAny _ _ (PySem.Builtin.Int.intOfSelf (.int (n:Int) t) >>= fun y=>_) _ _ s
 refine wpAny_bind (wpAny_of_eq (a:=(n:Int)) rfl ?_)
 show wpAny _ _ (PySem.Builtin.Int.intBindNamed "to_bytes" ["length", "byteorder", "signed"] 0 2 [.int (k:Int) u,.str "big" v] [] >>= fun l=>_) _ _ s
 refine wpAny_bind (wpAny_of_eq (a:=[some (.int (k:Int) u),some (.str "big" v),none]) (by kernel_rfl) ?_)
 show wpAny _ _ (PySem.Builtin.Int.intIndex "int.to_bytes" (.int (k:Int) u) >>= fun n=>_) _ _ s
 refine wpAny_bind (wpAny_of_eq (a:=(k:Int)) rfl ?_)
 refine KTBy.if_not (by show (decide ((k:Int) < -(2 ^ 63:Int)) || decide ((k:Int)≥2 ^ 63))=false;rw [decide_eq_false (show ¬ ((k:Int) < -(2 ^ 63:Int)) by walk_at "OM"),decide_eq_false (show ¬ ((k:Int)≥2 ^ 63) by walk_at "OM")];rfl) ?_
 refine wpAny_bind (wpAny_of_eq (a:=ofString "big") (by kernel_rfl) ?_)
 refine wpAny_bind (wpAny_of_eq (a:=false) rfl ?_)
 refine wpAny_bind (wpAny_of_eq (a:=false) (by kernel_rfl) ?_)
 refine wpAny_ite_false (decide_eq_false (show ¬ ((k:Int)<0) by walk_at "OM")) ?_
 refine wpAny_ite_false (decide_eq_false (show ¬ ((k:Int) > 2 ^ 63-1-33) by walk_at "OM")) ?_
 refine wpAny_ite_false (decide_eq_false (show ¬ ((k:Int) > (sizeLine:Int)) by rw [sizeLine_eq];walk_at "OM")) ?_
 refine KTBy.if_not (by show (decide ((n:Int)<0) && !false)=false;rw [decide_eq_false (show ¬ (n:Int)<0 by walk_at "OM")];rfl) ?_
 refine KTBy.if_not (by show (_&&decide ((PySem.Builtin.Int.intBits (n:Int):Int) > 8*(k:Int)))=false;rw [decide_eq_false (show ¬ ((PySem.Builtin.Int.intBits (n:Int):Int) > 8*(k:Int)) by walk_at "OM"),Bool.and_false]) ?_
 have e:∀ t',(Value.bytes (List.reverse (KTBy.low (n:Int) (Int.toNat (k:Int)))).toArray t')=.bytes (BE k n) t':=fun t'=>by rw [Int.toNat_natCast];rfl
 refine wpAny_bind (wpAny_mkBytes (wpAny_pure ⟨_,rfl,by have:=e s.toks;exact this▸h _ _⟩) (by show (List.reverse (KTBy.low (n:Int) (Int.toNat (k:Int)))).length≤sizeLine;rw [List.length_reverse,KTBy.low_length,Int.toNat_natCast,sizeLine_eq];walk_at "OM"))
theorem kjk {b:Array UInt8} {t u:Tok} {P:Fin->Shared->Prop} (hn:natBE b<2 ^ 64) (h:P (.done (.ret (.int (natBE b:Int) s.toks))) { s with toks:=s.toks+1 }) :
  wpAny M A (PySem.Builtin.«int.from_bytes» ⟨[.type "int", .bytes b t,.str "big" u],[]⟩) P E s:=by
 unfold PySem.Builtin.«int.from_bytes»
 refine wpAny_bind (wpAny_of_eq (a:=true) KFB.type_int ?_)
 refine KTBy.if_not rfl ?_
 refine wpAny_bind (wpAny_of_eq (a:=true) F.conv_sub_int ?_)
 refine KTBy.if_not rfl ?_
 refine wpAny_bind (wpAny_of_eq (a:=[some (.bytes b t),some (.str "big" u),none]) (by kernel_rfl) ?_)
 refine wpAny_bind (wpAny_of_eq (a:=ofString "big") (by kernel_rfl) ?_)
 refine wpAny_bind (wpAny_of_eq (a:=false) rfl ?_)
 refine wpAny_bind (wpAny_of_eq (a:=false) (by kernel_rfl) ?_)
 refine wpAny_bind (wpAny_of_eq (a:=b) rfl ?_)
 show wpAny _ _ (mkIntGrown (b.toList.foldl (fun (acc:Int) (b:UInt8)=>acc*256+(b.toNat:Int)) ((0:Nat):Int)) >>= fun v=>_) _ _ _
 rw [KFB.foldI_eq]
 refine wpAny_bind (KFB.grown hn ?_)
 refine KFB.if_so (by decide +kernel) ?_
 exact wpAny_bind (wpAny_pure (wpAny_pure h))
theorem jo5 {x:Addr} {b:Array UInt8} {t u:Tok} {Q:Value->Shared->Prop} (N:News g L s.heap news) (hm:(x,KFB.bound)∈news) (hb:natBE b<2 ^ 64)
  (h:∀ t' k,Q (.int (natBE b:Int) t') { s with toks:=k }):wpAny (model prog w) A (call (.ref x) [.bytes b t,.str "big" u]) Q E s :=
 KFB.call_of (KFB.at_of N hm) (fun z=>kjk hb z) (h _ _)
end
section
variable {w:World} {mg mb:Str->Option Value} {hb:Heap} {s:Shared} {A:Around} {R:Result->Shared->Prop} {news:List (Addr×Obj)}
 {name qual:Str} {params:Arguments} {body:List Stmt} {scope:Scope} {dV kV doc pm cdv ct oc:Value} {an od:Option Addr} {osl:Array (Option Value)} {f:Addr} {args:Args} {binds:List (Str×Value)}
theorem enterC (B:jbw w mg mb hb) (S:Sub hb s.heap) (N:Has hb s.heap news)
  (ho:(K w.params).lookup f=some ⟨oc,od,.func (fnOf name qual params body scope dV kV doc pm an cdv ct),osl⟩) (hcd:codeIn (K w.params) cdv qual=true) (hroom:A.depth<recursionLimit)
  (hbind:BindsTo s (fnOf name qual params body scope dV kV doc pm an cdv ct) args binds)
  (hkind:(binds.all fun y=>scope.names.lookup y.1==some .local || scope.names.lookup y.1==some .cell)=true)
  (hnd:((cellsFrom 0 scope.names []).map (·.1)).Nodup)
  (h:∀ g L' h₁ tk cells,jbw w mg mb g->Fr g L' h₁ (bindL (envOfC qual scope L' f cdv).kindOf binds fun zz=>none)->News g L' h₁ (cells++news) →
   CellsAre (bindC (envOfC qual scope L' f cdv).kindOf binds fun zz=>none) (cellsFrom (L'+1) scope.names []) cells->(∀ b o,s.heap.get? b=some o->b∉news.map (·.1)->g.get? b=some o)->Sub g s.heap->(∀ p∈news,p.1<L') →
   wpAny (model pw w) (A.deeper (envOfC qual scope L' f cdv)) (execs body (envOfC qual scope L' f cdv))
    (fun fl s'=>R (.ok (.ret (match fl with | .ret v=>v | _=>.none))) s')
    (fun e s'=>wpAny (model pw w) (A.deeper (envOfC qual scope L' f cdv)) («leaving» (envOfC qual scope L' f cdv) e) (fun zz s''=>R (.error e) s'') (fun e' s''=>R (.error e') s'') s')
    { s with heap:=h₁,toks:=tk })
  (hco:scope.isCoroutine=false) (hgen:scope.isGenerator=false) (hk:scope.kind=.function):codeAny (model pw w) A (.call (.ref f) args) R s:=by
 have X:=B.k.keeps S
 have nm:∀ b o,hb.get? b=some o->b∉news.map (·.1):=fun b o e q=>by
  refine xEA (List.mem_map.mp q) fun p hp zq138=>?_
  obtain rfl:=zq138
  rw [(N p hp).2] at e;cases e
 have st:Sub hb (hideAll s.heap (news.map (·.1))):=fun b o e=>hideAll_get _ (S b o e) (nm b o e)
 refine codeAny_call_function hroom (X _ _ ho) rfl hco hgen rfl (codeRec_of X hcd) (hbind _ _ _ _ ?_)
 refine wpAny_newFunctionEnv_cells hk (kindsX hkind _) fun env' he s' x=>?_
 subst he
 refine ⟨(B.t.nolimit.keeps S).keeps x.toInCall.keep,codeAny_func ?_⟩
 refine je4 x.done fun h₁ tk zq137 _=>?_
 obtain rfl:=zq137
 have hk₁:=x.toInCall.keep
 refine xEA (Cl.news (h₀:=s.heap) (Nat.le_refl _) fun n c hm=>⟨x.cell n c (lookup_of_mem_nodup (cellsFrom_names scope.names 0 (s.heap.objs.size+1) [] [] rfl▸hnd) hm),x.above n c hm⟩) fun cells NC Y=>?_
 refine h (hideAll s.heap (news.map (·.1))) s.heap.objs.size h₁ tk cells (B.keeps st) ⟨x.toInCall.ns,fun b o e=>hk₁ b o (of_hideAll _ e),Nat.le_of_eq (hideAll_size _ _)⟩ (fun p hp=>?_) Y (fun b o e n=>hideAll_get _ e n) (fun b o e=>of_hideAll _ e) (fun p hp=>Heap.lt_size (N p hp).1)
 rcases List.mem_append.mp hp with hp | hp
 ·refine ⟨(NC p hp).1,(NC p hp).2.1,?_⟩
  cases q:(hideAll s.heap (news.map (·.1))).get? p.1 with
  | none=>rfl
  | some o=>have:=(NC p hp).2.2;rw [of_hideAll _ q] at this;cases this
 ·exact ⟨hk₁ _ _ (N p hp).1,Nat.ne_of_lt (Heap.lt_size (N p hp).1),hideAll_none _ (List.mem_map_of_mem hp)⟩
end
section
open PySem.Sem (wp)
noncomputable def jl8:Code->Bool
 | .builtin id _=>!(Builtin.Bytes.decodersThatHold.contains id)
 | _=>true
def Fine (Γ:Ctx):Prop:=∀ x∈Γ.below,jl8 x.1=true
def wpG {α:Type} (M:Model) (A:Around) (t:Sem α) (Q:α->Shared->Prop) (E:Value->Shared->Prop) (s:Shared):Prop :=
 ∀ Γ p,Γ.In A->jl8 Γ.code=true->Fine Γ->wp M Γ t (fun a zz s'=>Q a s') (fun e zz s'=>E e s') p s
def jf5 (M:Model) (A:Around) (c:Code) (R:Result->Shared->Prop) (s:Shared):Prop :=
 ∀ Γ p,Γ.code=c->Γ.Below A->Fine Γ->wpCode M Γ R p s
section
variable {α β:Type} {M:Model} {A:Around} {E:Value->Shared->Prop} {s:Shared} {env:Env}
theorem jcz {t:Sem α} {Q:α->Shared->Prop} (h:wpAny M A t Q E s):wpG M A t Q E s:=fun Γ p hΓ _ _=>h Γ p hΓ
theorem jb0 {a:α} {Q:α->Shared->Prop} (h:Q a s):wpG M A (pure a) Q E s:=fun zz zz zz zz zz=>h
theorem jb9 {t:Sem α} {Q Q':α->Shared->Prop} {E':Value->Shared->Prop} (h:wpG M A t Q E s)
  (hQ:∀ a s,Q a s->Q' a s) (hE:∀ e s,E e s->E' e s):wpG M A t Q' E' s :=
 fun Γ p hΓ h1 h2=>Sem.wp_mono M Γ t (fun a zz s=>hQ a s) (fun e zz s=>hE e s) p s (h Γ p hΓ h1 h2)
theorem jc2 {m:Sem α} {f:α->Sem β} {Q:β->Shared->Prop} (h:wpG M A m (fun a s'=>wpG M A (f a) Q E s') E s) :
  wpG M A (m >>= f) Q E s:=fun Γ p hΓ h1 h2=>by
 rw [Sem.wp_bind']
 exact Sem.wp_mono M Γ m (fun a p' s' h'=>h' Γ p' hΓ h1 h2) (fun zz zz zz h'=>h') p s (h Γ p hΓ h1 h2)
theorem jax {m:Sem α} {f:α->Sem β} {Q:β->Shared->Prop} (h:wpAny M A m (fun a s'=>wpG M A (f a) Q E s') E s) :
  wpG M A (m >>= f) Q E s:=jc2 (jcz h)
theorem ji7 {m:Sem α} {k:Value->Sem Unit} {Q:α->Shared->Prop}
  (h:wpG M A m Q (fun e s'=>wpG M A (k e) (fun zz s''=>E e s'') E s') s):wpG M A (m.onRaise k) Q E s:=fun Γ p hΓ h1 h2=>by
 rw [Sem.wp_onRaise]
 exact Sem.wp_mono M Γ m (fun zz zz zz h'=>h') (fun e p' s' h'=>h' Γ p' hΓ h1 h2) p s (h Γ p hΓ h1 h2)
theorem jv8 {m:Sem α} {Q:Except Value α->Shared->Prop} (h:wpG M A m (fun a=>Q (.ok a)) (fun e=>Q (.error e)) s) :
  wpG M A m.attempt Q E s:=fun Γ p hΓ h1 h2=>by rw [Sem.wp_attempt];exact h Γ p hΓ h1 h2
theorem jm6 {vs:List Value} {m:Sem α} {Q:α->Shared->Prop} (h:wpG M A m Q E s):wpG M A (holding vs m) Q E s :=
 fun Γ p hΓ h1 h2=>by rw [Sem.wp_holding];exact h Γ p hΓ h1 h2
theorem jx6 {vs:List Value} {m:Sem α} {Q:α->Shared->Prop} (h:wpG M A m Q E s):wpG M A (m.keep vs) Q E s :=
 fun Γ p hΓ h1 h2=>by rw [Sem.wp_keep];exact h Γ p hΓ h1 h2
theorem jq2 {Γ:Ctx} {c:Code} {h:Option Value} {p:Pos} (h1:jl8 Γ.code=true) (h2:Fine Γ):Fine (Γ.enter c h p):=by
 intro x hx
 rcases List.mem_cons.mp (show x∈(Γ.code,p)::Γ.below from hx) with rfl | hx
 ·exact h1
 ·exact h2 x hx
theorem kv1 {c:Code} {h:Option Value} {Q:Flow->Shared->Prop}
  (hc:jf5 M (A.mark h) c (fun r s'=>match r with | .ok f=>Q f s' | .error e=>E e s') s) (hnb:h≠some byPass) :
  wpG M A (run c h) Q E s :=
 fun Γ p hΓ h1 h2=>by rw [Sem.wp_run];exact hc _ p rfl (hΓ.enter c h p hnb) (jq2 h1 h2)
theorem jsj {c:Code} {Q:Value->Shared->Prop}
  (hc:jf5 M A c (fun r s'=>match r with | .ok (.ret v)=>Q v s' | .ok _=>False | .error e=>E e s') s) :
  wpG M A (runValue c) Q E s:=fun Γ p hΓ h1 h2=>by rw [Sem.wp_runValue];exact hc _ p rfl (hΓ.enter c none p (by intro x;cases x)) (jq2 h1 h2)
theorem jmz {f:Value} {pos:List Value} {kw:List (Str×Value)} {Q:Value->Shared->Prop}
  (hc:jf5 M A (.call f ⟨pos,kw⟩) (fun r s'=>match r with | .ok (.ret v)=>Q v s' | .ok _=>False | .error e=>E e s') s) :
  wpG M A (call f pos kw) Q E s:=jsj hc
theorem jc4 {c:Code} {R:Result->Shared->Prop} (hf:jl8 c=true)
  (h:wpG M (A.under c) (M.den c) (fun fin s'=>match fin with | .done f=>R (.ok f) s' | .again c'=>c'.quiet=true∧jf5 M A c' R s')
   (fun e s'=>R (.error e) s') s):jf5 M A c R s:=fun Γ p hc hΓ h2=>by
 rw [wpCode_iff_wp,hc]
 refine Sem.wp_mono M Γ _ (fun fin p' s' h'=>?_) (fun zz zz zz h'=>h') p s (h Γ p (hc▸hΓ.in) (hc▸hf) h2)
 cases fin with
 | done f=>exact h'
 | again c'=>exact ⟨h'.1,h'.2 (Γ.goto c') p' rfl (hΓ.goto c') h2⟩
theorem jxw {c:Code} {R:Result->Shared->Prop} (hq:c.quiet=true) (hf:jl8 c=true) (I:Nat->Shared->Prop)
  (turn:∀ n s,I n s->wpG M (A.under c) (M.den c)
   (fun fin s'=>match fin with
    | .done f=>R (.ok f) s'
    | .again c'=>(c'=c∧∃ m,m<n∧I m s')∨(c'.quiet=true∧jf5 M A c' R s')) (fun e s'=>R (.error e) s') s)
  (n:Nat) (h:I n s):jf5 M A c R s:=by
 induction n using Nat.strongRecOn generalizing s with
 | ind n ih =>
  refine jc4 hf (jb9 (turn n s h) (fun fin s' hf=>?_) fun zz zz h'=>h')
  cases fin with
  | done f=>exact hf
  | again c' =>
   rcases hf with ⟨rfl,m,hm,hI⟩ | hf
   ·exact ⟨hq,ih m hm hI⟩
   ·exact hf
theorem jlx {Γ:Ctx} {a b:List Stmt} {Q:Flow->Pos->Shared->Prop} {E':Value->Pos->Shared->Prop}:∀ {p:Pos} {s:Shared},
  wp M Γ (execs a env) (fun f p' s'=>match f with | .next=>wp M Γ (execs b env) Q E' p' s' | f=>Q f p' s') E' p s->wp M Γ (execs (a++b) env) Q E' p s:=by
 induction a with
 | nil=>intro p s h;exact h
 | cons st rest ih =>
  intro p s h
  rw [List.cons_append,execs_cons,Sem.wp_bind']
  rw [execs_cons,Sem.wp_bind'] at h
  refine Sem.wp_mono M Γ _ (fun f p' s' q=>?_) (fun zz zz zz q=>q) p s h
  cases f with
  | next=>exact ih q
  | _=>exact q
theorem jg3 {a b:List Stmt} {Q:Flow->Shared->Prop}
  (h:wpG M A (execs a env) (fun f s'=>match f with | .next=>wpG M A (execs b env) Q E s' | f=>Q f s') E s):wpG M A (execs (a++b) env) Q E s:=by
 refine fun Γ p h0 h1 h2=>jlx (Sem.wp_mono M Γ _ (fun f p' s' q=>?_) (fun zz zz zz q=>q) p s (h Γ p h0 h1 h2))
 cases f with
 | next=>exact q Γ p' h0 h1 h2
 | _=>exact q
theorem jf9 (k:Nat) {l:List Stmt} {Q:Flow->Shared->Prop}
  (h:wpAny M A (execs (l.take k) env) (fun f s'=>match f with | .next=>wpG M A (execs (l.drop k) env) Q E s' | f=>Q f s') E s):wpG M A (execs l env) Q E s:=by
 rw [← List.take_append_drop k l]
 exact jg3 (jcz h)
theorem ja4 {st:Stmt} {rest:List Stmt} {Q:Flow->Shared->Prop}
  (h:wpG M A (exec st env) (fun f s'=>match f with | .next=>wpG M A (execs rest env) Q E s' | f=>Q f s') E s):wpG M A (execs (st::rest) env) Q E s:=by
 rw [execs_cons]
 refine jc2 (jb9 h (fun f s' q=>?_) fun zz zz q=>q)
 cases f with
 | next=>exact q
 | _=>exact jb0 q
theorem kew {test body orelse pos} {Q:Flow->Shared->Prop}
  (h:wpAny M A (isTrue test env (eval test env)) (fun b s'=>if b then wpG M A (execs body env) Q E s' else wpG M A (execs orelse env) Q E s') E s) :
  wpG M A (exec (.If test body orelse pos) env) Q E s:=by
 rw [exec_If]
 refine jax (wpAny_standAt (jax (wpAny_mono h (fun b s' q=>?_) fun zz zz q=>q)))
 cases b <;> exact q
theorem jo8 {e pos} {Q:Flow->Shared->Prop} (h:wpG M A (eval e env) (fun v=>Q (.ret v)) E s) :
  wpG M A (exec (.Return (some e) pos) env) Q E s:=by
 rw [exec_Return_some]
 exact jax (wpAny_standAt (jc2 (jb9 h (fun v s' q=>jb0 q) fun zz zz q=>q)))
theorem kb6 {c:Code} {h:Option Value} {Q:Flow->Shared->Prop}
  (hc:jf5 M (A.mark h) c (fun r s'=>match r with | .ok f=>Q f s' | .error e=>cameBackBy M A env E e s') s) (hnb:h≠some byPass) :
  wpG M A (runOwn c env h) Q E s:=by
 unfold runOwn
 exact ji7 (jb9 (kv1 hc hnb) (fun zz zz q=>q) fun zz zz q=>jcz q)
theorem jsv {m:Sem α} {Q:α->Shared->Prop} (h:wpG M A m Q (notedBy M A env E) s):wpG M A (m.onRaise fun x=>do noteFrame x env;theTreesLotGoes x) Q E s :=
 ji7 (jb9 h (fun zz zz q=>q) fun zz zz hx=>jcz (wpAny_bind (wpAny_mono hx (fun zz zz e=>wpAny_theTreesLotGoes e) fun zz zz e=>e)))
end
section
variable {prog:Program} {w:World} {A:Around} {E:Value->Shared->Prop} {R:Result->Shared->Prop} {s:Shared} {env:Env}
theorem jq4 {body:List Stmt}
  (h:wpG (model prog w) (A.deeper env) (execs body env) (fun f s'=>R (.ok (.ret (match f with | .ret v=>v | _=>.none))) s')
   (fun e s'=>wpAny (model prog w) (A.deeper env) («leaving» env e) (fun zz s''=>R (.error e) s'') (fun e' s''=>R (.error e') s'') s') s) :
  jf5 (model prog w) A (.func body env) R s:=by
 refine jc4 rfl ?_
 show wpG _ (A.deeper env) (do point;match ← (execs body env).onRaise («leaving» env) with | .ret v=>ret v | _=>ret .none) _ _ s
 refine jax (wpAny_point (jc2 (ji7 (jb9 h (fun f s' h'=>?_) fun zz zz h'=>jcz h'))))
 cases f <;> exact jb0 h'
theorem jx0 {stmts:List Stmt}
  (h:wpG (model prog w) A (execs stmts env) (fun f s'=>R (.ok f) s') (notedBy (model prog w) A env fun e s'=>R (.error e) s') s):jf5 (model prog w) A (.block stmts env) R s:=by
 refine jc4 rfl ?_
 show wpG _ _ (do return Fin.done (← (execs stmts env).onRaise (fun x=>do noteFrame x env;theTreesLotGoes x))) _ _ s
 exact jc2 (jsv (jb9 h (fun f s' h'=>jb0 h') fun zz zz h'=>h'))
theorem jfz {a:Addr} {args:Args} {o:Obj} {fd:FuncData} {body:List Stmt} (hroom:A.depth<recursionLimit)
  (ho:s.heap.get? a=some o)
  (hd':o.data=.func fd) (hco:fd.scope.isCoroutine=false) (hgen:fd.scope.isGenerator=false) (hbody:fd.body=.stmts body) (hcd:s.heap.CodeRec fd.code fd.qualname)
  (h:wpAny (model prog w) A.in1 (bindArgs fd args) (fun binds s₁ =>
   wpAny (model prog w) A.in1 (newFunctionEnv fd.scope fd.globals fd.closure binds (fd.qualname ++ ".<locals>.") (some a) fd.code none fd.builtins)
    (fun env s₂=>s₂.heap.NoLimit∧jf5 (model prog w) A (.func body env) R s₂) (fun e s'=>R (.error e) s') s₁) (fun e s'=>R (.error e) s') s) :
  jf5 (model prog w) A (.call (.ref a) args) R s:=by
 refine jc4 rfl ?_
 show wpG _ A.in1 (callAny (.ref a) args) _ _ s
 simp -iota only [callAny]
 refine jax (wpAny_load ho ?_)
 refine jmx hcd fun c oc vs tq hc hoc hdc hq=>?_
 try clear hcd
 simp -iota only [hd']
 dsimp only
 simp -iota only [callFunction,hco,hgen,hbody,hc]
 dsimp only
 rw [hc] at h
 refine jax (m:=field (.ref c) 1) (wpAny_field hoc hdc hq (jax (wpAny_pure ?_)))
 exact jax (wpAny_mono h (fun binds s₁ h₁=>jax (wpAny_mono h₁ (fun env s₂ h₂=>jax (wpAny_enterFrame h₂.1 hroom
  (jb0 (And.intro rfl h₂.2)))) fun zz zz h'=>h')) fun zz zz h'=>h')
theorem jwx {target iter body orelse pos} {Q:Flow->Shared->Prop}
  (h:wpAny (model prog w) A (eval iter env) (fun x s₁=>wpAny (model prog w) A (pyIter x) (fun it s₂ =>
   jf5 (model prog w) A (.forLoop target it body orelse env) (fun r s'=>match r with | .ok f=>Q f s' | .error e=>cameBackBy (model prog w) A env E e s') s₂) E s₁) E s)
  (hs:∀ x,foldedSetIterable iter env x=pure x) :
  wpG (model prog w) A (exec (.For target iter body orelse pos) env) Q E s:=by
 rw [exec_For]
 exact jax (wpAny_standAt (jax (wpAny_mono h (fun x s₁ h₁=>jax (wpAny_of_eq (hs x) (jax (wpAny_standAt (jax (wpAny_holding
  (wpAny_mono h₁ (fun it s₂ h₂=>kb6 h₂ fun x=>nomatch x) fun zz zz h'=>h'))))))) fun zz zz h'=>h')))
theorem jr6 {target it body orelse} (I:Nat->Shared->Prop)
  (turn:∀ n s,I n s->wpAny (model prog w) A (pyNext it) (fun r s₁=>match r with
   | none=>wpG (model prog w) A (execs orelse env) (fun f s₃=>R (.ok f) s₃) (notedBy (model prog w) A env fun e s'=>R (.error e) s') s₁
   | some v=>wpAny (model prog w) A (assign target env v) (fun zz s₂=>wpG (model prog w) A (execs body env) (fun f s₃=>match f with
     | .next | .cont=>∃ m,m<n∧I m s₃
     | .brk=>R (.ok .next) s₃
     | .ret v=>R (.ok (.ret v)) s₃) (notedBy (model prog w) A env fun e s'=>R (.error e) s') s₂) (notedBy (model prog w) A env fun e s'=>R (.error e) s') s₁) (notedBy (model prog w) A env fun e s'=>R (.error e) s') s)
  (n:Nat) (h:I n s) (ht:∀ v,letOwnedTupleGo target it v=pure ()):jf5 (model prog w) A (.forLoop target it body orelse env) R s:=by
 refine jxw rfl rfl I (fun n s hI=>?_) n h
 show wpG _ _ ((forTurn target it body orelse env).onRaise (fun x=>do noteFrame x env;theTreesLotGoes x)) _ _ s
 refine jsv ?_
 simp -iota only [forTurn]
 refine jax (wpAny_standAt (jax (wpAny_onRaise (wpAny_mono (turn n s hI) (fun r s₁ h₁=>?_) fun zz zz h'=>wpAny_standAt h'))))
 cases r with
 | none=>exact jb0 (.inr ⟨rfl,jx0 h₁⟩)
 | some v =>
  refine jax (wpAny_of_eq (ht v) ?_)
  refine jax (wpAny_mono h₁ (fun _ s₂ h₂=>jc2 (jb9 h₂ (fun f s₃ h₃=>?_) fun zz zz h'=>h')) fun zz zz h'=>h')
  cases f with
  | next=>exact jb0 (.inl ⟨rfl,h₃⟩)
  | cont=>exact jb0 (.inl ⟨rfl,h₃⟩)
  | brk=>exact jb0 h₃
  | ret v=>exact jb0 h₃
theorem jv6 {body orelse:Sem Flow} {h₀:ExceptHandler} {hs:List ExceptHandler} {Q:Flow->Shared->Prop}
  (h:wpG (model prog w) A body (fun f s₁=>match f with | .next=>wpG (model prog w) A orelse Q E s₁ | f=>Q f s₁)
   (fun e s₁=>wpAny (model prog w) A (noteFrame e env) (fun zz s₂=>wpAny (model prog w) A (setFlight e none) (fun zz s₃=>wpAny (model prog w) A (handleBy e env (h₀::hs)) Q E s₃) E s₂) E s₁) s) :
  wpG (model prog w) A (tryStmt false body (h₀::hs) orelse [] env) Q E s:=by
 unfold tryStmt
 simp -iota only [List.isEmpty_nil,if_true,List.isEmpty_cons,Bool.false_and,Bool.false_eq_true,if_false]
 refine jc2 (jv8 (jb9 h (fun f s₁ h₁=>?_) fun e s₁ h₁=>?_))
 ·cases f <;> first | exact h₁ | exact jb0 h₁
 ·exact jax (wpAny_mono h₁ (fun zz zz h₂=>jax (wpAny_mono h₂ (fun zz zz h₃=>jcz h₃) fun zz zz x=>x)) fun zz zz x=>x)
theorem jwq {body orelse:List Stmt} {h₀:ExceptHandler} {hs:List ExceptHandler} {pos:Pos} {Q:Flow->Shared->Prop}
  (h:wpG (model prog w) A (execs body env) (fun f s₁=>match f with | .next=>wpG (model prog w) A (execs orelse env) Q E s₁ | f=>Q f s₁)
   (fun e s₁=>wpAny (model prog w) A (noteFrame e env) (fun zz s₂=>wpAny (model prog w) A (setFlight e none) (fun zz s₃=>wpAny (model prog w) A (handleBy e env (h₀::hs)) Q E s₃) E s₂) E s₁) s) :
  wpG (model prog w) A (exec (.Try body (h₀::hs) orelse [] pos) env) Q E s:=by
 rw [arm_exec_Try]
 exact jax (wpAny_standAt (jv6 h))
end
end
section
open PySem.Sem (wp)
theorem jwz {prog:Program} {w:World} {t:Sem Fin} {s:Shared} {R:Result->Shared->Prop} (hreg:s.asleep)
  (h:wpG (model prog w) callerA t (fun fin s'=>∃ f,fin=.done f∧(R (.ok f) s'∧leftWithCleanup s'.gens=false)) (fun e s'=>R (.error e) s'∧leftWithCleanup s'.gens=false) s) :
  ∃ n r s' s'',runN (denote table) prog w n s ⟨t,.builtin "claim.caller" {},default,[]⟩=.halted (outcomeOf r) s' ∧
   schedN (denote table) prog w n (.single s ⟨t,.builtin "claim.caller" {},default,[]⟩)=.halted (outcomeOf r) s'∧s'.forget=s''.forget∧R r s'':=by
 obtain ⟨n,r,s₁,s₂,hs,hn,hfo,hR⟩:=wp_halts_full (M:=model prog w) (R:=R) hreg (by
  refine Sem.wp_mono (model prog w) _ t (fun fin p' s' h'=>?_) (fun zz zz zz h'=>h') default s (h _ default caller_in (by decide +kernel) (fun x hx=>nomatch hx))
  refine xEA h' fun f zq140 hf=>?_
  try clear h'
  obtain rfl:=zq140
  exact hf)
 exact (jc3 n r s₂ s₁ hn hs hfo hR)
theorem kp4 {c:ClaimW} {tree:List Value->Sem Fin} {w:World} {s:Shared} {free:Addr->Prop} {gens:Prop} {kept:Heap->Prop} (hz:s.asleep) (hgens:s.gens=#[])
  (hspec:∀ args,c.pre args=true->WData.layableAll args=true →
   ∀ ord:List DictEntry->List DictEntry,(∀ l,(ord l).Perm l) →
   ∃ vs s₁,layAllW c.records (classAt s.heap) w.params ord args s=some (vs,s₁) ∧
    wpG (model c.prog w) callerA (tree vs) (fun fin s'=>∃ f,fin=.done f∧(c.Ends s args vs s₁ (.ok f) s'∧s'.os=s.os∧AllBare s'.gens∧kept s'.heap))
     (fun e s'=>c.Ends s args vs s₁ (.error e) s'∧s'.os=s.os∧AllBare s'.gens∧kept s'.heap) s₁) :
  c.CallFrom (fun vs=>⟨tree vs,.builtin "claim.caller" {},default,[]⟩) w free gens kept s:=by
 intro args hpre hlay ord hord
 refine je4 (hspec args hpre hlay ord hord) fun vs s₁ hlaid hcode=>?_
 have hal:=layAllW_rest _ _ _ hlaid
 refine kb4 (jwz (prog:=c.prog) (w:=w) (t:=tree vs) (s:=s₁)
  (R:=fun r s'=>c.Ends s args vs s₁ r s'∧s'.os=s.os∧kept s'.heap)
  (Shared.asleep_of_life hal.2.2.2 hz)
  (jb9 hcode (by
   rintro fin s' ⟨f,e,h1,h2,h3,h4⟩
   exact (jjv f e (iAA h1 h2 h4) (leftWithCleanup_false_of_bare h3))) (by
   rintro e s' ⟨h1,h2,h3,h4⟩
   exact ⟨(iAA h1 h2 h4),leftWithCleanup_false_of_bare h3⟩))) fun k r s' s'' hrun hsched hfo hcase hos hkp=>?_
 refine jq8 (Shared.forget_eq hfo) fun eh _ _ eo _=>?_
 have hcase:=hcase.congr eh
 have hkp:kept s'.heap:=by first | exact eh▸hkp | (rw [eh] at hkp;exact hkp) | (rw [← eh] at hkp;exact hkp)
 rw [← eo] at hos
 have hlife:s'.heap.life=s.heap.life:=(runN_life _ _ _ hrun).trans hal.2.2.2
 refine (kik vs s₁ hlaid k _ s' hsched (?_) (jn2 (fun zz i x hx=>by rw [hgens] at hx;simp at hx) hkp (by rw [hlife]) (Shared.rest_eq hos)))
 rcases hcase with hcase | hcase
 ·refine kev hcase fun v zq1 d1 d2 d3 d4 d5=>?_
  obtain rfl:=zq1
  exact .inl (ki2 v rfl d1 d2 d3 (fun b o y zz=>d4 b o y) d5)
 ·refine jsq hcase fun e ob cls zq1 d1 d2 d3 d4 d5=>?_
  obtain rfl:=zq1
  exact .inr (jtv e ob cls rfl d1 d2 d3 d4 (fun b o y zz=>d5 b o y))
theorem kn4 {r:RowW} {run:Value->List Value->Sem Value} {tree:List Value->Sem Fin} {q:Program} {loose defs kps:List Str} {writes:Bool} {Xt:Shared->Bool} {XP:(Str->Option Value)->Heap->Prop} {α:Type} {Yf:Shared->α} {Ya:World->α} {YP:World->Heap->Prop} {N:Nat}
  (left:LeftO r.prog q loose Xt Yf Ya N) (hY:∀ w s,Yf s=Ya w->YP w s.heap) (hYk:∀ w h h',YP w h->(∀ b o,h.get? b=some o->h'.get? b=some o)->YP w h') (hX:∀ s,Xt s=true->XP (s.heap.nsMap mainGlobals) s.heap) (hXk:∀ mg h h',XP mg h->(∀ b o,h.get? b=some o->h'.get? b=some o)->XP mg h')
  (hRf:∀ s,Xt s=true->RecFacts r.records s.heap) (hwr:(!writes || r.records.isEmpty)=true) (ok:(chainsOk q&&opensWell r.prog&&(frees r&&r.within.isEmpty))=true) (hb:r.prog.bare) (hw:r.promised)
  (ht:∀ vs (w:World) (s:Shared) mg f (Q:Fin->Shared->Prop) (E:Value->Shared->Prop),s.heap.Ns mainGlobals mg->mg r.name=some f->wpG (model r.prog w) callerA (run f vs) (fun v s'=>Q (.done (.ret v)) s') E s->wpG (model r.prog w) callerA (tree vs) Q E s)
  (pin:∀ w s,s.heap.isNs mainGlobals=true->Ground q loose [] XP w s (s.heap.nsMap mainGlobals) (s.heap.nsMap builtinsNs) s.heap->∀ n∈defs,isTheDefsW r.prog s.heap n)
  (call:∀ (w:World) (s₀ s₁:Shared) (mg mb:Str->Option Value),Ground q loose r.records XP w s₀ mg mb s₁.heap->YP w s₁.heap->∀ (args:List WData) (vs:List Value) (as:List Addr),
   r.claim.pre args=true->WData.layableAll args=true->Laid r.records w s₀ s₁ args vs as->sysModules<s₀.heap.objs.size->∃ f,mg r.name=some f ∧
    wpG (model r.prog w) callerA (run f vs) (fun v s'=>GoodWG r.claim (classAt s₀.heap) (ExcName.means s₀.heap) args s₁ (.ok (.ret v)) s')
     (fun e s'=>GoodWG r.claim (classAt s₀.heap) (ExcName.means s₀.heap) args s₁ (.error e) s') s₁):r.claim.HoldsOpenBy (fun vs=>⟨tree vs,.builtin "claim.caller" {},default,[]⟩) defs kps writes:=by
 refine xA (Bool.and_eq_true_iff.mp ok) fun ok k5=>?_
 refine xA (Bool.and_eq_true_iff.mp ok) fun hch o1=>?_
 refine xA (Bool.and_eq_true_iff.mp k5) fun k5 k6=>?_
 refine jq8 (frees_parts k5) fun hsame hu ha hap hm=>?_
 refine (iAA (iAA hb o1 (by show r.makers.map _=[];rw [hm];rfl)) hw.witness (fun w=>⟨(left.behind hX hch w).1,fun s' hs'=>?_⟩))
 refine kb5 ((left.behind (XP:=fun mg h=>XP mg h∧RecFacts r.records h) (fun s hs=>⟨hX s hs,hRf s hs⟩) hch w).2 s' hs') fun s₀ hf hg0 s hT hz hgens hg G00 y=>?_
 have G0:Ground q loose [] XP w s (s.heap.nsMap mainGlobals) (s.heap.nsMap builtinsNs) s.heap:=⟨G00.T,G00.B,G00.D,G00.TE,G00.TD,G00.W,G00.X.1,G00.cls,G00.has,G00.apart,G00.once,G00.K⟩
 have RF:=G00.X.2
 have hT':=hT
 refine (ki1 s₀ hf hg0 s hT (pin w s hg G0) RF.1 RF.2.1 (?_))
 have hgens:s.gens=#[]:=Array.eq_empty_of_size_eq_zero (beq_iff_eq.mp hgens)
 have G:Ground q loose r.records XP w s _ _ s.heap:=RF.ground G0
 refine kp4 (c:=r.claim) hz hgens fun args hpre hlay ord hord=>?_
 refine xE (Option.isSome_iff_exists.mp (layAllW_isSome (P:=w.params) (ord:=ord) G.has args r.args s (pre_splitW hpre).1)) fun zq139 hlaid=>?_
 obtain ⟨vs,s₁⟩:=zq139
 have keeps:=layAllW_keeps _ _ _ hlaid
 have hal:=layAllW_rest _ _ _ hlaid
 refine jg2 (reads_layAllW hord _ _ _ hlaid hlay s₁.heap (fun _ _ e=>e)) fun as hrd hin hold=>?_
 have L:Laid r.records w s s₁ args vs as:=⟨(iEA ord hord hlaid),hrd,hin,hold,keeps,hal.1.trans hgens,hal.2.2.1⟩
 have G₁:=G.keeps hXk keeps
 refine xEA (call w s s₁ _ _ G₁ (hYk _ _ _ (hY w s y) keeps) args vs as hpre hlay L G.low) fun f hf h=>?_
 have hi:=ident_freeW hu ha hap
 have hwi:r.claim.within=[]:=List.isEmpty_iff.mp k6
 exact (jhj vs s₁ hlaid (ht vs w s₁ _ f _ _ G₁.T.g hf (jb9 h (fun v s' g=>(iEA _ rfl (have z:=g.laid (c:=r.claim) hsame hwi hi L;(jn2 z.1 z.2.1 z.2.2 (fun q=>⟨namesKept_of hT' hg kps keeps g.2.1.old,noTable hwr q⟩))))) fun e s' g=>have z:=g.laid (c:=r.claim) hsame hwi hi L;(jn2 z.1 z.2.1 z.2.2 (fun q=>⟨namesKept_of hT' hg kps keeps g.2.1.old,noTable hwr q⟩)))))
abbrev vbq (q:Program) (loose:List Str) (XP:(Str->Option Value)->Heap->Prop) (YP:World->Heap->Prop) (r:RowW) (d:DefRec) (kwd:List (Str×Expr)) (run:Value->List Value->Sem Value):Prop :=
 ∀ (w:World) (s₀ s₁:Shared) (mg mb:Str->Option Value),Ground q loose r.records XP w s₀ mg mb s₁.heap->YP w s₁.heap->∀ (a:Addr) (o:Obj) (pm cd doc dV kV:Value),s₁.heap.get? a=some o →
  o.data=.func { docDef d.name d.params d.body d.scope pm cd doc with defaults:=dV,kwdefaults:=kV }->s₁.heap.CodeRec cd d.name->Dflts mg s₁.heap d.params kwd dV kV->mg d.name=some (.ref a)->s₁.gens=#[] →
  ∀ (args:List WData) (vals:List Value) (as:List Addr),r.claim.pre args=true->WData.layableAll args=true->ReadsAllW r.records (classAt s₀.heap) s₁.heap vals args as->WellAll w.params s₁.heap vals args->(∀ a∈as,(a==sysModules)=false) →
   wpG (model r.prog w) callerA (run (.ref a) vals) (fun v s'=>GoodWG r.claim (classAt s₀.heap) (ExcName.means s₀.heap) args s₁ (.ok (.ret v)) s')
    (fun e s'=>GoodWG r.claim (classAt s₀.heap) (ExcName.means s₀.heap) args s₁ (.error e) s') s₁
theorem kyz {r:OpenRow} {q:Program} {loose:List Str} {Xt:Shared->Bool} {XP:(Str->Option Value)->Heap->Prop} {α:Type} {Yf:Shared->α} {Ya:World->α} {YP:World->Heap->Prop} {d:DefRec} {kwd:List (Str×Expr)} {N:Nat}
  (left:LeftO r.prog q loose Xt Yf Ya N) (hY:∀ w s,Yf s=Ya w->YP w s.heap) (hYk:∀ w h h',YP w h->(∀ b o,h.get? b=some o->h'.get? b=some o)->YP w h')
  (hX:∀ s,Xt s=true->XP (s.heap.nsMap mainGlobals) s.heap) (hXk:∀ mg h h',XP mg h->(∀ b o,h.get? b=some o->h'.get? b=some o)->XP mg h')
  (hdef:defOf q r.name=some (d,kwd)) (hp:r.prog.theDef r.name=some (d.params,d.body,d.scope)) (hk:kwWritten? d.params.kwonlyargs d.params.kw_defaults=some kwd) (hRf:∀ s,Xt s=true->RecFacts r.records s.heap) (hwr:(!r.writes || r.records.isEmpty)=true)
  (k1:r.wellSaid=true) (ok:(chainsOk q&&opensWell r.prog&&(frees r.toRowW&&r.within.isEmpty))=true) (hb:r.prog.bare) (hw:r.toRowW.promised)
  (call:vbq q loose XP YP r.toRowW d kwd fun f vs=>PySem.call f vs):r.Holds:=by
 refine (iAA k1 hw (kn4 (r:=r.toRowW) (run:=fun f vs=>PySem.call f vs) (tree:=fun vs=>do match ← nsGet mainNs r.name with
   | some f=>do ret (← PySem.call f vs)
   | none=>unsupported "claim.caller:no-such-global") left hY hYk hX hXk hRf hwr ok hb hw
  (fun vs w s mg f Q E hg hf h=>jax (wpAny_nsGet hg (by rw [hf];exact jc2 (jb9 h (fun zz zz x=>jb0 x) fun zz zz x=>x))))
  (fun w s hg G n hn=>?_) fun w s₀ s₁ mg mb G Y args vs as hpre hlay L low=>?_))
 ·obtain rfl:n=r.name:=by split at hn <;> simp_all
  exact pinned_of_view hg G hdef hp hk
 ·refine jd5 (G.fn hdef) fun a o pm cd doc dV kV h1 zr12=>?_
  refine jv1 zr12 fun h2 h3 h4 h5=>?_
  exact (iEA (.ref a) h1 (call w s₀ s₁ mg mb G Y a o pm cd doc dV kV h2 h3 h4 h5 (defOf_name hdef▸h1) L.gens args vs as hpre hlay L.reads L.well (L.low low)))
theorem head_G (walk:vbq qv jdj (XL qv []) YP rowR jgz [] fun f vs=>call f vs):PySem.Challenge.rw_ix0009_01.Holds:=by
 w_on
 refine holds_law (by kernel_rfl) fun said=>?_
 refine kyz (q:=qv) (loose:=jdj) (Xt:=fun s=>xlAt qv [] s&&recOk (RowW.records rowR) s) (XP:=XL qv []) (Yf:=fun s=>s.heap) (Ya:=fun w=>H1 w.params) (YP:=YP) (N:=20000) (d:=jgz) (kwd:=[]) kxz (fun w s e b o q=>by rw [e];exact q) YP.keeps (fun s e=>xl_of s (Bool.and_eq_true_iff.mp e).1) XL.keeps (by rfl) (by rfl) (by rfl) (fun s e=>recFacts_of (Bool.and_eq_true_iff.mp e).2) (by rfl) (by first | assumption | decide +kernel) (by decide +kernel) (ks0 rfl rfl rfl rfl rfl (by decide +kernel)) ?hw walk
 case hw=>exact (iEA ([.list []]) (by decide +kernel) (by decide +kernel))
end
section
open PySem.Sem (wp)
section
variable {α:Type} {M:Model} {A:Around} {E:Value->Shared->Prop} {s:Shared} {env:Env}
theorem jez {x pos' value pos} {Q:Flow->Shared->Prop}
  (h:wpG M A (eval value env) (fun v s₁=>wpAny M A (storeName env x v) (fun zz=>Q .next) E s₁) E s)
  (hs:swapsWith value (some (.Name x pos')) pos.line env=pure false) :
  wpG M A (exec (.Assign [.Name x pos'] value pos) env) Q E s:=by
 rw [exec_Assign_Name env x pos' value pos hs]
 exact jax (wpAny_standAt (jc2 (jb9 h (fun v s₁ h₁=>jax (wpAny_standAt (jax (wpAny_bindName (wpAny_mono h₁ (fun zz zz q=>jb0 q) fun zz zz q=>q))))) fun zz zz q=>q)))
theorem jhx {elts k tpos value pos} {Q:Flow->Shared->Prop}
  (h:wpG M A (eval value env) (fun v s₁=>wpAny M A (assign (.Tuple elts k tpos) env v) (fun zz=>Q .next) E s₁) E s)
  (hs:swapsWithSole [.Tuple elts k tpos] value pos.line env=pure false)
  (hw:swappedStores [.Tuple elts k tpos] value env=pure none) :
  wpG M A (exec (.Assign [.Tuple elts k tpos] value pos) env) Q E s:=by
 rw [exec_Assign]
 refine jax (wpAny_standAt ?_)
 rw [hs]
 refine jax (wpAny_pure ?_)
 rw [if_neg (by decide)]
 refine jc2 (jb9 h (fun v s₁ h₁=>?_) fun zz zz x=>x)
 rw [hw]
 refine jax (wpAny_pure ?_)
 show wpG M A (do assignAll v [assign (.Tuple elts k tpos) env];pure .next) Q E s₁
 exact jax (wpAny_mono h₁ (fun zz zz x=>jb0 x) fun zz zz x=>x)
theorem jc6 {o:Expr} {name:Str} {apos pos:Pos} {args:List Expr} {pl:Sem Bool} {Q:Value->Shared->Prop}
  (h:wpAny M A (eval o env) (fun ov s₁=>wpAny M A (getMethod ov name pl) (fun fx s₂=>wpG M A (callWith pos fx.1 fx.2 (backTo pos (starEach args env)) []) Q E s₂) E s₁) E s)
  (he:eval (.Call (.Attribute o name apos) args [] pos) env=(do
   let ov ← eval o env
   standAt apos.atName
   let (f,first) ← holding [ov] (getMethod ov name pl)
   callWith pos f first (backTo pos (starEach args env)) [])) :
  wpG M A (eval (.Call (.Attribute o name apos) args [] pos) env) Q E s:=by
 rw [he]
 refine jax (wpAny_mono h (fun ov s₁ h₁=>jax (wpAny_standAt (jax (wpAny_holding (wpAny_mono h₁ (fun fx s₂ h₂=>?_) fun zz zz x=>x))))) fun zz zz x=>x)
 exact h₂
theorem jlz {id:Str} {p pos:Pos} {args:List Expr} {Q:Value->Shared->Prop}
  (h:wpAny M A (eval (.Name id p) env) (fun f s₁=>wpG M A (callWith pos f [] (backTo pos (starEach args env)) []) Q E s₁) E s) :
  wpG M A (eval (.Call (.Name id p) args [] pos) env) Q E s:=by
 show wpG M A (do callWith pos (← eval (.Name id p) env) [] (backTo pos (starEach args env)) (backToKw pos (keywordEach [] env))) Q E s
 exact jax h
theorem jl6 {pos:Pos} {a:Addr} {first:List Value} {args:List (Bool×Sem Value)} {Q:Value->Shared->Prop}
  (h:wpAny M A (evalArgs (.ref a) true args []) (fun x s₁=>(∃ o fd,s₁.heap.get? a=some o∧o.data=.func fd)∧wpG M A (call (.ref a) (first++x.pos) x.kw) Q E s₁) E s) :
  wpG M A (callWith pos (.ref a) first args []) Q E s:=by
 unfold callWith
 refine jax (wpAny_holding (wpAny_mono h (fun x s₁ h₁=>jax (wpAny_standAt ?_)) fun zz zz x=>x))
 have tail:∀ {t:Sem Value},wpG M A t Q E s₁->wpG M A (t >>= fun r=>holding [r] point >>= fun zz=>pure r) Q E s₁ :=
  fun ht=>jc2 (jb9 ht (fun r s₂ hr=>jax (wpAny_holding (wpAny_point (jb0 hr)))) fun zz zz x=>x)
 obtain ⟨⟨o,fd,ho,hd⟩,h₂⟩:=h₁
 cases hs:args.any (·.1) <;> simp -iota only [List.any_nil,Bool.or_false] <;>
  refine jax (m:=keeperOf (.ref a)) ?_ <;> unfold keeperOf <;>
  refine wpAny_bind (wpAny_load ho ?_) <;> rw [hd] <;> refine wpAny_pure ?_
 ·dsimp only
  split <;> first
   | exact tail h₂
   | exact tail (by unfold callMarked;exact jx6 h₂)
 ·first
   | exact tail (by unfold callMarked;exact jx6 h₂)
   | exact tail h₂
theorem jkk {pos:Pos} {T:String} {first:List Value} {args:List (Bool×Sem Value)} {Q:Value->Shared->Prop} (hs:args.any (·.1)=false)
  (h:wpAny M A (evalArgs (.type T) true args []) (fun x s₁=>wpG M A (call (.type T) (first++x.pos) x.kw) Q E s₁) E s) :
  wpG M A (callWith pos (.type T) first args []) Q E s:=by
 unfold callWith
 refine jax (wpAny_holding (wpAny_mono h (fun x s₁ h₁=>jax (wpAny_standAt ?_)) fun zz zz x=>x))
 simp -iota only [hs,List.any_nil,Bool.or_false]
 refine jax (m:=keeperOf (.type T)) (wpAny_of_eq (a:=Keeper.machine) rfl ?_)
 exact jc2 (jb9 h₁ (fun r s₂ hr=>jax (wpAny_holding (wpAny_point (jb0 hr)))) fun zz zz x=>x)
theorem jcv {c:Bool} {a b:Sem α} {Q:α->Shared->Prop} (hc:c=false) (h:wpG M A b Q E s):wpG M A (if c=true then a else b) Q E s:=by
 subst hc
 exact h
end
section
variable {prog:Program} {w:World} {A:Around} {E:Value->Shared->Prop} {s:Shared}
theorem jkq {id:String} {args:Args} {b:Builtin} {R:Result->Shared->Prop} (hf:jl8 (.builtin id args)=true) (hb:entryFor table id=some b)
  (h:wpG (model prog w) (A.under (.builtin id args)) (b args)
   (fun fin s'=>match fin with | .done f=>R (.ok f) s' | .again c'=>c'.quiet=true∧jf5 (model prog w) A c' R s') (fun e s'=>R (.error e) s') s) :
  jf5 (model prog w) A (.builtin id args) R s:=by
 refine jc4 hf ?_
 show wpG _ _ (match entryFor table id with | some b=>b args | none=>unsupported ((withoutEnding? id "#data").getD id)) _ _ s
 rw [hb]
 exact h
noncomputable def exf (a:Addr):Code×Pos->Bool:=fun
  | (.builtin "bytearray.__contains__" ⟨v::_,_⟩,_) | (.builtin "bytearray.__mod__" ⟨v::_,_⟩,_)
  | (.builtin "bytearray.__rmod__" ⟨_::v::_,_⟩,_) | (.builtin "_struct.pack_into.held" ⟨v::_,_⟩,_)=>Builtin.Bytes.sameRef v (.ref a)
  | (.builtin "bytearray.find.held" ⟨_::_::held,_⟩,_)=>held.any (Builtin.Bytes.sameRef (.ref a))
  | (.builtin id ⟨v::_,_⟩,_)=>Builtin.Bytes.sameRef v (.ref a)&&Builtin.Bytes.decodersThatHold.contains id
  | _=>false
theorem kk6 {a:Addr} (id:String) (pos:List Value) (kw:_) (q:Pos) (h1:id ≠ "bytearray.__contains__") (h2:id ≠ "bytearray.__mod__") (h3:id ≠ "bytearray.__rmod__") (h4:id ≠ "_struct.pack_into.held") (h5:id ≠ "bytearray.find.held") (hd:Builtin.Bytes.decodersThatHold.contains id=false):exf a (.builtin id ⟨pos,kw⟩,q)=false:=by
 delta exf exf.match_1
 first | dsimp only [exf._sparseCasesOn_1] | dsimp only [jl8._sparseCasesOn_1] | dsimp only [jl8._sparseCasesOn_2]
 rw [dif_neg h1,dif_neg h2,dif_neg h3,dif_neg h4,dif_neg h5]
 cases pos with
 | nil=>rfl
 | cons v r=>exact (congrArg (Bool.and _) hd).trans (Bool.and_false _)
theorem exf_no {a:Addr} {c:Code} {q:Pos} (hf:jl8 c=true) (hng:c.isGuard=false):exf a (c,q)=false:=by
 cases c with
 | builtin id args =>
  obtain ⟨pos,kw⟩:=args
  have ng:∀ i,guardIds.contains i=true->id≠i:=fun i hi e=>by
   subst e
   exact Bool.false_ne_true (hng.symm.trans hi)
  refine kk6 id pos kw q (ng _ (by decide)) (ng _ (by decide)) (ng _ (by decide)) (ng _ (by decide)) (ng _ (by decide)) ?_
  simpa only [jl8,Bool.not_eq_true'] using hf
 | _=>rfl
theorem ju3 {a:Addr} {Q:Bool->Shared->Prop} (hg:A.guards=some []) (h:Q false s):wpG (model prog w) A (Builtin.Bytes.exported (.ref a)) Q E s:=by
 intro Γ p hΓ h1 h2
 show Q (List.any _ (exf a)) s
 have:∀ l:List (Code×Pos),(∀ x∈l,jl8 x.1=true)->guardsOf l=[]->l.any (exf a)=false:=by
  intro l hl hgl
  rw [List.any_eq_false]
  intro x hx hc
  have hng:x.1.isGuard=false:=by
   cases hc':x.1.isGuard with
   | false=>rfl
   | true =>
    have:x.1∈guardsOf l:=by
     unfold guardsOf
     exact List.mem_filter.mpr ⟨List.mem_map_of_mem hx,hc'⟩
    rw [hgl] at this;cases this
  exact Bool.false_ne_true ((exf_no (hl _ hx) hng).symm.trans hc)
 have e:=this ((Γ.code,p)::Γ.below) (fun x hx=>by
  rcases List.mem_cons.mp hx with rfl | hx
  ·exact h1
  ·exact h2 x hx) (by rw [guardsOf_cons];exact hΓ.2.2.2.1 [] hg)
 exact (congrArg (fun b=>Q b s) e).mpr h
end
end
section
open PySem.Sem (wp)
noncomputable abbrev jc5 (b:Array UInt8):Obj:={ cls:=.type "bytearray", data:=.bytearray b }
namespace BA
theorem mro:mroOf (.type "bytearray")=pure [.type "bytearray", .type "object"]:=by rw [mroOf_type];kernel_rfl
theorem kc9:typeLookup (.type "bytearray") "__new__" = pure (some (.builtin "bytearray.__new__")):=by rw [typeLookup_type,builtinLookup_eq_fast];kernel_rfl
theorem kfz:Slot "bytearray" "__init__" "bytearray.__init__" :=
 .of (owner := "bytearray") (n := "__init__") (by rw [typeLookup_type,builtinLookup_eq_fast];kernel_rfl) (by decide +kernel) (by decide +kernel) (by decide +kernel)
  (by first | exact .inl (by decide +kernel) | exact .inr (by decide +kernel)) (by rw [isSubtype_type];kernel_rfl)
theorem joj:TypeCalled "bytearray" "bytearray.__new__" "bytearray.__init__" :=
 ⟨by decide +kernel,by decide +kernel,(iEE _ _ mro),madeBy_type mro kc9 (by decide +kernel),by decide +kernel,by rw [isSubtype_type];kernel_rfl,kfz⟩
theorem km8 (a:Value):checkTypeCall "bytearray" ⟨[a],[]⟩=pure ():=by kernel_rfl
theorem kw0 (a:Value):checkBuiltinCall "bytearray.__new__" ⟨[.type "bytearray", a],[]⟩=pure ():=by kernel_rfl
theorem kk8:entryFor table "bytearray.__new__" = some Builtin.«list.__new__»:=entryFor_alias (id' := "list.__new__") (by kernel_rfl) (by decide +kernel) (by decide +kernel) (by kernel_rfl)
theorem kd0:entryFor table "bytearray.__init__" = some Builtin.«bytearray.__init__»:=by first | exact entryFor_of_fast (by kernel_rfl) | exact entryFor_of_tree (by kernel_rfl)
theorem js3:plainId "bytearray.__new__" = true:=by decide +kernel
theorem jpz:plainId "bytearray.__init__" = true:=by decide +kernel
theorem jpv:typeLookup (.type "bytearray") "__release_buffer__" = pure (some (.builtin "bytearray.__release_buffer__")):=by rw [typeLookup_type,builtinLookup_eq_fast];kernel_rfl
theorem bind (v:Value):Builtin.Bytes.bindOptional "bytearray.__init__" "bytearray" ["source", "encoding", "errors"] [v] []=pure [some v,none,none]:=by kernel_rfl
theorem kwk:typeLookup (.type "bytes") "__index__" = pure none:=by rw [typeLookup_type,builtinLookup_eq_fast];kernel_rfl
theorem buf:typeLookup (.type "bytes") "__buffer__" = pure (some (.builtin "bytes.__buffer__")):=by rw [typeLookup_type,builtinLookup_eq_fast];kernel_rfl
theorem js6:typeLookup (.type "bytes") "__release_buffer__" = pure none:=by rw [typeLookup_type,builtinLookup_eq_fast];kernel_rfl
theorem jyv:isSubtype (.type "bytearray") (.type "bytearray")=pure true:=by rw [isSubtype_type];kernel_rfl
theorem sub_b:isSubtype (.type "bytes") (.type "bytes")=pure true:=by rw [isSubtype_type];kernel_rfl
theorem kg0:("bytearray.__new__".splitOn ".__new__").headD "" = "bytearray" := by simp +decide [String.splitOn,String.splitOnAux]
section
variable {prog:Program} {w:World} {A:Around} {E:Value->Shared->Prop} {s:Shared}
theorem kp3 (a:Value) {Q₁:Value->Shared->Prop}
  (h:Q₁ (.ref s.heap.objs.size) { s with heap:=s.heap.push (jc5 #[]) }) :
  codeAny (model prog w) A (.call (.builtin "bytearray.__new__") ⟨[.type "bytearray", a],[]⟩) (wants Q₁ E) s:=by
 refine codeAny_of_tree ?_
 show wpAny _ A.in1 (do checkBuiltinCall "bytearray.__new__" ⟨[.type "bytearray", a],[]⟩;again (.builtin "bytearray.__new__" ⟨[.type "bytearray", a],[]⟩)) _ _ s
 refine wpAny_bind (wpAny_of_eq (kw0 a) (wpAny_pure ⟨plainId_quiet js3 _,codeAny_builtin_stack kk8 rfl fun p st=>?_⟩))
 rw [Around.under_plainId js3 _]
 have hsub:=jyv
 have hown:=kg0
 obtain ⟨hp,g,d,tk,os⟩:=s
 dsimp only
 simp -iota only [hown]
 wp_walk
 exact h
theorem kg2 {M:Model} {v:Value} {T id:String} {Q:Bool->Shared->Prop} (hT:s.TypeIs v T) (hl:typeLookup (.type T) "__release_buffer__" = pure (some (.builtin id)))
  (h1:id.endsWith ("." ++ "__release_buffer__")=true) (h2:id.dropRight ("__release_buffer__".length+1)=T) (hs:isSubtype (.type T) (.type T)=pure true) (h:Q false s):wpAny M A (Builtin.Bytes.ownRelease v) Q E s:=by
 unfold Builtin.Bytes.ownRelease Builtin.Bytes.slotIsOwn
 refine wpAny_bind (wpAny_bind (wpAny_specialOf hT hl ?_))
 dsimp only
 rw [h1,h2]
 refine bm_if_false rfl ?_
 exact wpAny_isInstance hT hs (wpAny_pure h)
theorem kn5 {M:Model} {v:Value} {T:String} {Q:Bool->Shared->Prop} (hT:s.TypeIs v T) (hl:typeLookup (.type T) "__release_buffer__" = pure none) (h:Q false s):wpAny M A (Builtin.Bytes.ownRelease v) Q E s:=by
 unfold Builtin.Bytes.ownRelease Builtin.Bytes.slotIsOwn
 refine wpAny_bind (wpAny_bind (wpAny_specialOf hT hl ?_))
 dsimp only
 exact wpAny_pure (wpAny_pure h)
theorem kf5 : "bytearray.__release_buffer__".endsWith ("." ++ "__release_buffer__")=true:=by decide +kernel
theorem kf4 : "bytearray.__release_buffer__".dropRight ("__release_buffer__".length+1) = "bytearray" := by decide +kernel
theorem ky6 : "bytes.__buffer__".endsWith ("." ++ "__buffer__")=true:=by decide +kernel
theorem ky5 : "bytes.__buffer__".dropRight ("__buffer__".length+1) = "bytes" := by decide +kernel
theorem jq9 {M:Model} {a:Addr} {b:Array UInt8} {f:Array UInt8->Array UInt8} {Q:Unit->Shared->Prop} (ho:s.heap.get? a=some (jc5 b)) (hz:(f b).size≤sizeLine)
  (h:∀ h',h'.get? a=some (jc5 (f b))->Heap.SameBut a s.heap h'->Q () { s with heap:=h' }):wpAny M A (Builtin.Bytes.write (.ref a) f) Q E s:=by
 show wpAny M A (updateBytearray a f) _ _ _
 unfold updateBytearray
 refine wpAny_bind (wpAny_load ho ?_)
 show wpAny _ _ (update a (Obj.mapBytearray f) >>= fun zz=>lookBehind a) _ _ _
 refine wpAny_bind (wpAny_update ho ?_)
 have h2:(s.heap.update a (Obj.mapBytearray f)).get? a=some (jc5 (f b)):=Heap.get?_update_self (Obj.mapBytearray f) ho rfl
 refine wpAny_lookBehind h2 ?_ (h _ h2 (Heap.SameBut.update ..))
 show (if (f b).size > sizeLine then some "bytearray:memory" else none)=none
 rw [if_neg (Nat.not_lt.mpr hz)]
theorem jvq {id:String} {b:Array UInt8} {t:Tok} {full:Bool} {Q:Option (Array UInt8)->Shared->Prop} {M:Model} (h:Q (some b) s):wpAny M A (Builtin.Bytes.buffer? id (.bytes b t) full) Q E s:=by
 have hT:s.TypeIs (.bytes b t) "bytes" := PySem.W.typeIs_bytes _ _ _
 unfold Builtin.Bytes.buffer?
 refine wpAny_bind (wpAny_specialOf hT buf ?_)
 dsimp only
 refine wpAny_bind ?_
 unfold Builtin.Bytes.slotIsOwn
 refine wpAny_bind (wpAny_specialOf hT buf ?_)
 dsimp only
 rw [ky6,ky5]
 refine bm_if_false rfl ?_
 refine wpAny_isInstance hT sub_b ?_
 refine bm_if_false rfl ?_
 refine wpAny_bind (wpAny_specialOf hT buf ?_)
 show wpAny _ _ (Builtin.Bytes.ownRelease (.bytes b t) >>= _) _ _ _
 refine wpAny_bind (kn5 hT js6 ?_)
 refine bm_if_false rfl ?_
 exact wpAny_bind (wpAny_of_eq (a:=b) rfl (wpAny_pure h))
end
end BA
end
section
open PySem.Sem (wp)
namespace BA
section
variable {prog:Program} {w:World} {A:Around} {E:Value->Shared->Prop} {s:Shared}
theorem kj9 {id:String} {args:Args} (h:Builtin.Bytes.decodersThatHold.contains id=false):jl8 (.builtin id args)=true:=by
 show (!(Builtin.Bytes.decodersThatHold.contains id))=true
 rw [h];rfl
theorem ky9 (v a:Value):argsOk "bytearray.__init__" ⟨[v,a],[]⟩:=by kernel_rfl
theorem kij {a:Addr} {b:Array UInt8} {t:Tok} {Q:Fin->Shared->Prop} (hg:A.guards=some []) (ho:s.heap.get? a=some (jc5 #[])) (hz:b.size≤sizeLine)
  (h:∀ h',h'.get? a=some (jc5 b)->Heap.SameBut a s.heap h'->Q (.done (.ret .none)) { s with heap:=h' }) :
  wpG (model prog w) A (Builtin.«bytearray.__init__» ⟨[.ref a,.bytes b t],[]⟩) Q E s:=by
 have hT:s.TypeIs (.ref a) "bytearray" := (iEA _ ho rfl)
 unfold Builtin.«bytearray.__init__»
 dsimp only
 refine jax (kg2 hT jpv kf5 kf4 jyv ?_)
 refine jcv rfl ?_
 refine jax (wpAny_of_eq (bind _) ?_)
 dsimp only
 refine jax (wpAny_of_eq (a:=()) rfl ?_)
 refine jax (wpAny_of_eq (a:=()) rfl ?_)
 refine jc2 ?_
 show wpG _ _ (Builtin.Bytes.exported (.ref a) >>= _) _ _ _
 refine jc2 (ju3 hg ?_)
 show wpG _ _ (Builtin.Bytes.exportsOf (.ref a) >>= _) _ _ _
 refine jax ?_
 show wpAny _ _ (load a >>= _) _ _ _
 refine wpAny_bind (wpAny_load ho ?_)
 refine wpAny_pure (jb0 ?_)
 refine jcv rfl ?_
 refine jax (jq9 (f:=fun _=>#[]) ho (Nat.zero_le _) fun h1 e1 k1=>?_)
 refine jax (wpAny_of_eq (a:=none) rfl ?_)
 refine jcv rfl ?_
 refine jax (bm_if_false rfl (bm_if_false rfl (wpAny_pure ?_)))
 refine jax (wpAny_specialOf (PySem.W.typeIs_bytes _ _ _) kwk ?_)
 refine jcv rfl ?_
 refine jax (jvq ?_)
 refine jax (wpAny_rule ?_)
 refine jax (jq9 (f:=fun _=>b) e1 hz fun h2 e2 k2=>?_)
 exact jb0 (h h2 e2 (k1.trans k2))
theorem call_ba {b:Array UInt8} {t:Tok} {Q:Value->Shared->Prop} (hg:A.guards=some []) (hz:b.size≤sizeLine)
  (h:∀ h',h'.get? s.heap.objs.size=some (jc5 b)->(∀ x o,s.heap.get? x=some o->h'.get? x=some o)->Q (.ref s.heap.objs.size) { s with heap:=h' }) :
  wpG (model prog w) A (call (.type "bytearray") [.bytes b t]) Q E s:=by
 have hmro:=mro
 have hmade:=joj.made
 have hsub:=joj.sub
 have h1:=joj.notType
 have h2:=joj.canCreate
 have hct:=km8 (.bytes b t)
 refine jmz (jc4 rfl ?_)
 show wpG _ _ (callAny (.type "bytearray") _) _ _ _
 refine jb0 ⟨Code.quiet_builtin _ (by decide +kernel),jkq (kj9 (by decide +kernel)) F.entry_type_call ?_⟩
 rw [Around.under_plain (weight_type_call_type "bytearray" [.bytes b t] []) rfl]
 unfold Builtin.«type.__call__»
 dsimp only
 refine jcv rfl ?_
 refine jcv h2 ?_
 refine jax (wpAny_of_eq hct ?_)
 refine jax (wpAny_of_eq hmro ?_)
 refine jcv rfl ?_
 refine jax (wpAny_of_eq hmade ?_)
 refine jax (wpAny_pure ?_)
 refine jax (wpAny_holding (wpAny_call (codeAny_mono (kp3 (A:=A.in1) (Q₁:=fun v s'=>v=.ref s.heap.objs.size∧s' = { s with heap:=s.heap.push (jc5 #[]) }) (E:=fun _ _=>False) _ ⟨rfl,rfl⟩) fun r s₁ hr=>?_)))
 cases r with
 | error e=>exact hr.elim
 | ok fl =>
  cases fl with
  | ret obj =>
   refine xA hr fun zq144 zq145=>?_
   try clear hr
   obtain rfl:=zq144
   obtain rfl:=zq145
   have ho:(s.heap.push (jc5 #[])).get? s.heap.objs.size=some (jc5 #[]):=Heap.get?_push_size _ rfl
   have hT:({ s with heap:=s.heap.push (jc5 #[]) }:Shared).TypeIs (.ref s.heap.objs.size) "bytearray" := (iEA _ ho rfl)
   refine jax (wpAny_isInstance hT hsub ?_)
   refine jcv rfl ?_
   refine jc2 (jm6 ?_)
   simp -iota only [callSpecial?]
   refine jax (wpAny_specialOf hT joj.init.lookup ?_)
   dsimp only
   simp -iota only [joj.init.bind]
   refine jm6 (jax (wpAny_pure (jc2 (jmz (jc4 rfl ?_)))))
   show wpG _ A.in1.in1 (do checkBuiltinCall "bytearray.__init__" ⟨[.ref s.heap.objs.size,.bytes b t],[]⟩;again (.builtin "bytearray.__init__" ⟨[.ref s.heap.objs.size,.bytes b t],[]⟩)) _ _ _
   refine jax (joj.init.check _ _ _ _ _ _ _ _ hT (ky9 _ _) (jb0 ⟨plainId_quiet jpz _,jkq (kj9 (by decide +kernel)) kd0 ?_⟩))
   rw [Around.under_plainId jpz _]
   refine jb9 (kij (A:=A.in1.in1) (Q:=fun v s'=>v=.done (.ret .none)∧∃ h',s' = { s with heap:=h' }∧h'.get? s.heap.objs.size=some (jc5 b)∧∀ x o,s.heap.get? x=some o->h'.get? x=some o) (E:=fun _ _=>False) hg ho hz fun h' e k=>(iAEAA rfl h' rfl e (fun x o q=>k.extBut x o (Nat.ne_of_lt (Heap.lt_size q)) (Heap.get?_push_of_some _ q)))) (fun fin s' hf=>?_) fun e s' hf=>hf.elim
   refine xAEAA hf fun zq142 h' zq143 e k=>?_
   try clear hf
   obtain rfl:=zq142
   obtain rfl:=zq143
   exact jb0 (jcv rfl (jb0 (h h' e k)))
  | _=>exact hr.elim
end
end BA
end
theorem jj2:∀ {a b:List Char},a.map Char.toNat=b.map Char.toNat->a=b
 | [],[],_=>rfl
 | [],_::_,h=>by cases h
 | _::_,[],h=>by cases h
 | x::a,y::b,h=>by
  simp -iota only [List.map_cons,List.cons.injEq] at h
  rw [Char.toNat_inj.mp h.1,jj2 h.2]
theorem je5 (a b:String):(ofString a=ofString b)=(a=b):=by
 refine propext ⟨fun h=>?_,fun h=>by rw [h]⟩
 rw [Str.ofString_eq_toList,Str.ofString_eq_toList] at h
 have h1:a.toList.map Char.toNat=b.toList.map Char.toNat:=by
  have:=congrArg (fun s:Str=>s.cps.toList) h
  simpa -iota using this
 have h2:a.toList=b.toList:=jj2 h1
 exact String.toList_inj.mp h2
noncomputable def chain:List (Str×Value)->Str->Option Value
 | [],_=>none
 | (n,v)::r,y=>if y=n then some v else chain r y
theorem ji1 (n:Str) (v:Value) (r:List (Str×Value)) (y:Str):chain ((n,v)::r) y=if y=n then some v else chain r y:=rfl
theorem ju8 (y:Str):chain [] y=none:=rfl
theorem jh6 (l:List (Str×Value)) (y:Str):l.lookup y=chain l y:=by
 induction l with
 | nil=>rfl
 | cons p r ih =>
  obtain ⟨n,v⟩:=p
  simp -iota only [List.lookup,chain]
  by_cases h:y=n
  ·subst h;simp
  ·rw [if_neg h,show (y==n)=false from beq_eq_false_iff_ne.mpr h,ih]
theorem ju9 (a b:List (Str×Value)) (y:Str):chain (a++b) y=(chain a y).or (chain b y):=by
 induction a with
 | nil=>rfl
 | cons p r ih =>
  obtain ⟨n,v⟩:=p
  rw [List.cons_append,ji1,ji1]
  split
  ·rfl
  ·exact ih
theorem jok (kd:Str->Option NameKind):∀ (l:List (Str×Value)) (m:Str->Option Value),bindL kd l m=fun y=>(chain ((l.filter fun p=>kd p.1==some .local).reverse) y).or (m y)
 | [],m=>by funext y;rfl
 | (n,v)::r,m=>by
  rw [bindL,jok kd r]
  funext y
  by_cases h:kd n=some .local
  ·rw [if_pos h,List.filter_cons_of_pos (by simpa -iota using h),List.reverse_cons,ju9,Option.or_assoc]
   congr 1
   rw [ji1,ju8]
   split <;> rfl
  ·rw [if_neg h,List.filter_cons_of_neg (by simpa -iota using h)]
theorem jow (kd:Str->Option NameKind):∀ (l:List (Str×Value)) (m:Str->Option Value),bindC kd l m=fun y=>(chain ((l.filter fun p=>!(kd p.1==some .local)).reverse) y).or (m y)
 | [],m=>by funext y;rfl
 | (n,v)::r,m=>by
  rw [bindC,jow kd r]
  funext y
  by_cases h:kd n=some .local
  ·rw [if_pos h,List.filter_cons_of_neg (by simpa -iota using h)]
  ·rw [if_neg h,List.filter_cons_of_pos (by simpa -iota using h),List.reverse_cons,ju9,Option.or_assoc]
   congr 1
   rw [ji1,ju8]
   split <;> rfl
section
variable {w:World} {mg mb:Str->Option Value} {hb:Heap} {s:Shared} {A:Around} {R:Result->Shared->Prop} {news:List (Addr×Obj)}
 {name qual:Str} {params:Arguments} {body:List Stmt} {scope:Scope} {dV kV doc pm cdv ct oc:Value} {an od:Option Addr} {osl:Array (Option Value)} {f:Addr} {args:Args} {binds bl bc:List (Str×Value)} {cs:Addr->List (Str×Addr)}
abbrev retP (R:Result->Shared->Prop):Flow->Shared->Prop:=fun fl s'=>R (.ok (.ret (match fl with | .ret v=>v | _=>.none))) s'
abbrev ko8 (w:World) (A:Around) (env:Env) (R:Result->Shared->Prop):Value->Shared->Prop:=fun e s'=>wpAny (model pw w) (A.deeper env) («leaving» env e) (fun zz s''=>R (.error e) s'') (fun e' s''=>R (.error e') s'') s'
theorem jcj (B:jbw w mg mb hb) (S:Sub hb s.heap) (N:Has hb s.heap news)
  (ho:(K w.params).lookup f=some ⟨oc,od,.func (fnOf name qual params body scope dV kV doc pm an cdv ct),osl⟩) (hcd:codeIn (K w.params) cdv qual=true) (hroom:A.depth<recursionLimit)
  (hbind:BindsTo s (fnOf name qual params body scope dV kV doc pm an cdv ct) args binds) (hbl:binds.reverse=bl) (hloc:(binds.all fun y=>scope.names.lookup y.1==some .local)=true)
  (h:∀ g L' h₁ tk,jbw w mg mb g->Fr g L' h₁ (fun y=>chain bl y)->News g L' h₁ news->(∀ b o,s.heap.get? b=some o->b∉news.map (·.1)->g.get? b=some o)->Sub g s.heap->(∀ p∈news,p.1<L') →
   wpAny (model pw w) (A.deeper (envOf qual scope L' f cdv)) (execs body (envOf qual scope L' f cdv)) (retP R) (ko8 w A (envOf qual scope L' f cdv) R) { s with heap:=h₁,toks:=tk })
  (hco:scope.isCoroutine=false) (hgen:scope.isGenerator=false) (hk:scope.kind=.function)
  (hcell:(scope.names.all fun x=>!(x.2==.cell))=true):codeAny (model pw w) A (.call (.ref f) args) R s:=by
 refine enter B S N ho hcd hroom hbind (fun y hy=>?_) (fun g L' h₁ tk B' F N' hg hs hl=>?_) hco hgen hk (fun x hx e=>?_)
 ·have:=List.all_eq_true.mp hloc y hy
  simpa -iota using this
 ·have e:(fun y=>binds.reverse.lookup y)=fun y=>chain bl y:=by funext y;rw [jh6,hbl]
  exact h g L' h₁ tk B' (e▸F) N' hg hs hl
 ·have:=List.all_eq_true.mp hcell x hx
  rw [e] at this
  exact absurd this (by decide)
theorem jhq (B:jbw w mg mb hb) (S:Sub hb s.heap) (N:Has hb s.heap news)
  (ho:(K w.params).lookup f=some ⟨oc,od,.func (fnOf name qual params body scope dV kV doc pm an cdv ct),osl⟩) (hcd:codeIn (K w.params) cdv qual=true) (hroom:A.depth<recursionLimit)
  (hbind:BindsTo s (fnOf name qual params body scope dV kV doc pm an cdv ct) args binds)
  (hkind:(binds.all fun y=>scope.names.lookup y.1==some .local || scope.names.lookup y.1==some .cell)=true)
  (hnd:((cellsFrom 0 scope.names []).map (·.1)).Nodup)
  (hbl:(binds.filter fun p=>scope.names.lookup p.1==some .local).reverse=bl) (hbc:(binds.filter fun p=>!(scope.names.lookup p.1==some .local)).reverse=bc) (hcs:∀ L,cellsFrom (L+1) scope.names []=cs L)
  (h:∀ g L' h₁ tk cells,jbw w mg mb g->Fr g L' h₁ (fun y=>chain bl y)->News g L' h₁ (cells++news) →
   CellsAre (fun y=>chain bc y) (cs L') cells->(∀ b o,s.heap.get? b=some o->b∉news.map (·.1)->g.get? b=some o)->Sub g s.heap->(∀ p∈news,p.1<L') →
   wpAny (model pw w) (A.deeper (envOfC qual scope L' f cdv)) (execs body (envOfC qual scope L' f cdv)) (retP R) (ko8 w A (envOfC qual scope L' f cdv) R) { s with heap:=h₁,toks:=tk })
  (hco:scope.isCoroutine=false) (hgen:scope.isGenerator=false) (hk:scope.kind=.function):codeAny (model pw w) A (.call (.ref f) args) R s:=by
 refine enterC B S N ho hcd hroom hbind hkind hnd (fun g L' h₁ tk cells B' F N' Y hg hs hl=>?_) hco hgen hk
 have e1:bindL (envOfC qual scope L' f cdv).kindOf binds (fun zz=>none)=fun y=>chain bl y:=by
  rw [jok]
  subst hbl
  funext y
  show (chain ((binds.filter fun p=>scope.names.lookup p.1==some .local).reverse) y).or none=_
  cases chain ((binds.filter fun p=>scope.names.lookup p.1==some .local).reverse) y <;> rfl
 have e2:bindC (envOfC qual scope L' f cdv).kindOf binds (fun zz=>none)=fun y=>chain bc y:=by
  rw [jow]
  subst hbc
  funext y
  show (chain ((binds.filter fun p=>!(scope.names.lookup p.1==some .local)).reverse) y).or none=_
  cases chain ((binds.filter fun p=>!(scope.names.lookup p.1==some .local)).reverse) y <;> rfl
 rw [e1] at F
 rw [e2,hcs] at Y
 exact h g L' h₁ tk cells B' F N' Y hg hs hl
end
section
variable {M:Model} {A:Around} {E:Value->Shared->Prop} {s:Shared} {g:Heap} {m:Str->Option Value} {name:Str} {scope:Scope} {L a:Addr} {cd:Value}
abbrev Lk (m:Str->Option Value) (x:Str) (v:Value):Prop:=m x=some v
noncomputable def nmNe (a b:Str):Bool:=!(a==b)
theorem jc8 {a b:Str} (h:nmNe a b=true):a≠b:=fun e=>by subst e;simp -iota [nmNe] at h
theorem lkH {n:Str} {v:Value} {b:Str->Option Value}:Lk (fun y=>if y=n then some v else b y) n v:=if_pos rfl
theorem lkM {n x:Str} {o:Option Value} {v:Value} {b:Str->Option Value} (e:nmNe x n=true) (h:Lk b x v):Lk (fun y=>if y=n then o else b y) x v:=(if_neg (jc8 e)).trans h
theorem kxx {n:Str} {v:Value} {l:List (Str×Value)}:Lk (fun y=>chain ((n,v)::l) y) n v:=if_pos rfl
theorem jjq {n x:Str} {a v:Value} {l:List (Str×Value)} (e:nmNe x n=true) (h:Lk (fun y=>chain l y) x v):Lk (fun y=>chain ((n,a)::l) y) x v:=(if_neg (jc8 e)).trans h
noncomputable def kc5 (scope:Scope) (x:Str):Bool:=(match scope.kind with | .function=>true | _=>false)&&(match scope.names.lookup x with | some .local=>true | _=>false) && !(x==("__debug__" : Str))
theorem jrj {scope:Scope} {x:Str} (h:kc5 scope x=true):scope.kind=.function∧scope.names.lookup x=some .local∧(x==("__debug__" : Str))=false:=by
 simp -iota only [kc5,Bool.and_eq_true,Bool.not_eq_true'] at h
 obtain ⟨⟨a,b⟩,c⟩:=h
 refine ⟨?_,?_,c⟩
 ·split at a
  ·assumption
  ·cases a
 ·split at b
  ·assumption
  ·cases b
theorem ldC {x:Str} {pos:Pos} {v:Value} {Q:Value->Shared->Prop} (F:Fr g L s.heap m) (hv:Lk m x v) (h:Q v s) (ok:kc5 scope x=true) :
  wpAny M A (eval (.Name x pos) (envOfC name scope L a cd)) Q E s:=let ⟨hk,hl,hd⟩:=jrj ok;wpAny_Name (wpAny_loadName_local (env:=envOfC name scope L a cd) hk hl F.ns hv h) hd
theorem ldF {x:Str} {pos:Pos} {v:Value} {Q:Value->Shared->Prop} (F:Fr g L s.heap m) (hv:Lk m x v) (h:Q v s) (ok:kc5 scope x=true) :
  wpAny M A (eval (.Name x pos) (envOf name scope L a cd)) Q E s:=let ⟨hk,hl,hd⟩:=jrj ok;wpAny_Name (wpAny_loadName_local (env:=envOf name scope L a cd) hk hl F.ns hv h) hd
end
structure jav (A:Around) (n:Nat):Prop where
 h:A.handled=none
 g:A.guards=some []
 d:A.depth+n<recursionLimit
 u:A.units+8*n<cLine
theorem jav.room {A:Around} {n:Nat} (c:jav A n):A.depth<recursionLimit:=Nat.lt_of_le_of_lt (Nat.le_add_right _ _) c.d
theorem jav.deeper {A:Around} {n:Nat} {env:Env} (c:jav A (n+1)):jav (A.deeper env) n :=
 ⟨c.h,by show A.guards=_;exact c.g,by have:=c.d;show A.depth+1+n<_;walk_at "OM", by have:=c.u;show A.units+3+8*n<_;walk_at "OM"⟩
theorem jav.le {A:Around} {n m:Nat} (c:jav A m) (h:n≤m):jav A n:=⟨c.h,c.g,by have:=c.d;walk_at "OM", by have:=c.u;walk_at "OM"⟩
theorem jd9 {o:Obj} {l:List (Str×Value)} {x:Str} {v:Value} (d:o.data=.cell (chain l x)) (h:Lk (fun y=>chain l y) x v):o.data=.cell (some v):=d.trans (congrArg _ h)
theorem lkCNn {n x:Str} {a:Value} {l:List (Str×Value)} (e:nmNe x n=true) (h:chain l x=none):chain ((n,a)::l) x=none:=(if_neg (jc8 e)).trans h
theorem lkN0 {x:Str}:chain [] x=none:=rfl
theorem ctN {a b:Data} (h:Nat.beq a.ctorIdx b.ctorIdx=false):a≠b:=fun e=>Nat.ne_of_beq_eq_false h (congrArg Data.ctorIdx e)
theorem jh0 {h:Heap} {a b:Addr} {o o':Obj} (e:h.get? a=some o) (e':h.get? b=some o') (n:Nat.beq o.data.ctorIdx o'.data.ctorIdx=false):a≠b:=fun q=>ctN n (congrArg Obj.data (Option.some.inj (e.symm.trans (q▸e'))))
@[elab_as_elim] theorem openA {P:Around->Prop} (A:Around) {n:Nat} (hC:jav A n) (h:∀ dp fr un,jav ⟨none,dp,fr,some [],un⟩ n->P ⟨none,dp,fr,some [],un⟩):P A:=by
 obtain ⟨hd,dp,fr,gs,un⟩:=A
 obtain ⟨rfl,rfl⟩:hd=none∧gs=some []:=⟨hC.h,hC.g⟩
 exact h dp fr un hC
inductive SA (m:Str->Option Value) (scope:Scope):List Expr->Nat->List Value->Nat->Prop
 | nil {t:Nat}:SA m scope [] t [] t
 | nm {x:Str} {pos:Pos} {v:Value} {es:List Expr} {t:Nat} {vs:List Value} {t':Nat} (hv:Lk m x v) (ok:kc5 scope x=true) (h:SA m scope es t vs t'):SA m scope (.Name x pos::es) t (v::vs) t'
 | byt {x:List UInt8} {k:Nat} {pos:Pos} {es:List Expr} {t:Nat} {vs:List Value} {t':Nat} (h:SA m scope es (t+1) vs t'):SA m scope (.Constant (.bytes x) k pos::es) t (.bytes x.toArray t::vs) t'
 | int {i:Int} {k:Nat} {pos:Pos} {es:List Expr} {t:Nat} {vs:List Value} {t':Nat} (h:SA m scope es (t+1) vs t'):SA m scope (.Constant (.int i) k pos::es) t (.int i t::vs) t'
 | str {x:Str} {k:Nat} {pos:Pos} {es:List Expr} {t:Nat} {vs:List Value} {t':Nat} (h:SA m scope es (t+1) vs t'):SA m scope (.Constant (.str x) k pos::es) t (.str x t::vs) t'
section
variable {M:Model} {A:Around} {E:Value->Shared->Prop} {g:Heap} {L a:Addr} {m:Str->Option Value} {name:Str} {scope:Scope} {cd:Value} {es:List Expr} {pos:Pos}
theorem argsC' {t:Nat} {vs:List Value} {t':Nat} (X:SA m scope es t vs t'):∀ {s:Shared} {Q:List Value->Shared->Prop},s.toks=t->Fr g L s.heap m->Q vs { s with toks:=t' }->wpAny M A (spliced (backTo pos (starEach es (envOfC name scope L a cd)))) Q E s:=by
 induction X with
 | nil=>intro s Q e F h;subst e;exact args_nil h
 | nm hv ok _ ih=>intro s Q e F h;exact args_cons (ldC F hv (ih e F h) ok)
 | byt _ ih=>intro s Q e F h;subst e;exact args_cons (Constant_bytes (ih rfl F h))
 | int _ ih=>intro s Q e F h;subst e;exact args_cons (wpAny_Constant_int (ih rfl F h))
 | str _ ih=>intro s Q e F h;subst e;exact args_cons (Constant_str (ih rfl F h))
theorem argsF' {t:Nat} {vs:List Value} {t':Nat} (X:SA m scope es t vs t'):∀ {s:Shared} {Q:List Value->Shared->Prop},s.toks=t->Fr g L s.heap m->Q vs { s with toks:=t' }->wpAny M A (spliced (backTo pos (starEach es (envOf name scope L a cd)))) Q E s:=by
 induction X with
 | nil=>intro s Q e F h;subst e;exact args_nil h
 | nm hv ok _ ih=>intro s Q e F h;exact args_cons (ldF F hv (ih e F h) ok)
 | byt _ ih=>intro s Q e F h;subst e;exact args_cons (Constant_bytes (ih rfl F h))
 | int _ ih=>intro s Q e F h;subst e;exact args_cons (wpAny_Constant_int (ih rfl F h))
 | str _ ih=>intro s Q e F h;subst e;exact args_cons (Constant_str (ih rfl F h))
theorem argsC {s:Shared} {vs:List Value} {t':Nat} {Q:List Value->Shared->Prop} (F:Fr g L s.heap m) (X:SA m scope es s.toks vs t') (h:Q vs { s with toks:=t' }):wpAny M A (spliced (backTo pos (starEach es (envOfC name scope L a cd)))) Q E s:=argsC' X rfl F h
theorem argsF {s:Shared} {vs:List Value} {t':Nat} {Q:List Value->Shared->Prop} (F:Fr g L s.heap m) (X:SA m scope es s.toks vs t') (h:Q vs { s with toks:=t' }):wpAny M A (spliced (backTo pos (starEach es (envOf name scope L a cd)))) Q E s:=argsF' X rfl F h
end
theorem jmw {g h h':Heap} {L l:Addr} {m:Str->Option Value} {o:Obj} {news:List (Addr×Obj)} (F:Fr g L h m) (N:News g L h' news) (hl:h'.get? l=some o) (hn:h.get? l=none):News g L h' ((l,o)::news):=by
 intro p hp
 rcases List.mem_cons.mp hp with rfl | hp
 ·refine ⟨hl,?_,?_⟩
  ·rintro rfl
   obtain ⟨_,_,_,e,_⟩:=F.ns
   rw [hn] at e;cases e
  ·cases q:g.get? l with
   | none=>rfl
   | some o=>rw [F.keep _ _ q] at hn;cases hn
 ·exact N p hp
section
variable {w:World} {g:Heap} {L:Addr} {m:Str->Option Value} {news:List (Addr×Obj)} {s:Shared} {A:Around} {E:Value->Shared->Prop} {Q:Value->Shared->Prop} {f:Addr} {pos:List Value} {kw:List (Str×Value)}
theorem kd9 {O:Tok->Tok->Obj} (F:Fr g L s.heap m) (N:News g L s.heap news)
  (sp:jb4 w A s (.call (.ref f) ⟨pos,kw⟩) [] (fun v h'=>∃ l t1 t2,v=.ref l∧h'.get? l=some (O t1 t2)∧s.heap.get? l=none))
  (h:∀ h' tk,Fr g L h' m->∀ l t1 t2,News g L h' ((l,O t1 t2)::news)->Q (.ref l) { s with heap:=h',toks:=tk }):wpAny (model pw w) A (call (.ref f) pos kw) Q E s :=
 jgk F N sp fun v h' tk F' N zz P=>P.elim fun l P=>P.elim fun t1 P=>P.elim fun t2 P=>P.1▸h h' tk F' l t1 t2 (jmw F N P.2.1 P.2.2)
theorem jx1 {O:Tok->Tok->Tok->Obj} (F:Fr g L s.heap m) (N:News g L s.heap news)
  (sp:jb4 w A s (.call (.ref f) ⟨pos,kw⟩) [] (fun v h'=>∃ l t1 t2 t3,v=.ref l∧h'.get? l=some (O t1 t2 t3)∧s.heap.get? l=none))
  (h:∀ h' tk,Fr g L h' m->∀ l t1 t2 t3,News g L h' ((l,O t1 t2 t3)::news)->Q (.ref l) { s with heap:=h',toks:=tk }):wpAny (model pw w) A (call (.ref f) pos kw) Q E s :=
 jgk F N sp fun v h' tk F' N zz P=>P.elim fun l P=>P.elim fun t1 P=>P.elim fun t2 P=>P.elim fun t3 P=>P.1▸h h' tk F' l t1 t2 t3 (jmw F N P.2.1 P.2.2)
theorem kd7 {α:Type} {C:α->Prop} {V:α->Tok->Value} {D:Prop} {V0:Value} (F:Fr g L s.heap m) (N:News g L s.heap news)
  (sp:jb4 w A s (.call (.ref f) ⟨pos,kw⟩) [] (fun v zz=>(∃ r t,C r∧v=V r t)∨(D∧v=V0)))
  (h1:∀ h' tk,Fr g L h' m->News g L h' news->∀ r t,C r->Q (V r t) { s with heap:=h',toks:=tk }) (h2:∀ h' tk,Fr g L h' m->News g L h' news->D->Q V0 { s with heap:=h',toks:=tk }):wpAny (model pw w) A (call (.ref f) pos kw) Q E s :=
 jgk F N sp fun v h' tk F N zz P=>P.elim (fun P=>P.elim fun r P=>P.elim fun t P=>P.2▸h1 h' tk F N r t P.1) (fun P=>P.2▸h2 h' tk F N P.1)
end
theorem jd7 {h g:Heap} {as:List Addr} {a:Addr} (hg:∀ b o,h.get? b=some o->b∉as->g.get? b=some o) (hn:g.get? a=none) (ha:a∉as):h.get? a=none:=by
 cases q:h.get? a with
 | none=>rfl
 | some o=>rw [hg _ _ q ha] at hn;cases hn
theorem jzv {w:World} {A:Around} {E:Value->Shared->Prop} {s:Shared} {g:Heap} {L:Addr} {m:Str->Option Value} {news:List (Addr×Obj)} {pl:Sem Bool} {Q:Value×List Value->Shared->Prop} (F:Fr g L s.heap m) (N:News g L s.heap news) (X:(K w.params).In g)
  (h:∀ x h',Fr g L h' m->News g L h' ((x,KFB.bound)::news)->(∀ p∈news,p.1<x)->Q (.ref x,[]) { s with heap:=h',toks:=s.toks+1 }):wpAny (model pw w) A (getMethod (.type "int") "from_bytes" pl) Q E s :=
 KFB.getm F N X (by k_is) h
noncomputable abbrev kuA:Array UInt8:=#[113,117,105,99,32,107,117]
noncomputable abbrev kuB:Array UInt8:=#[113,117,105,99,118,50,32,107,117]
noncomputable def kx2 (sec:Int) (lab:Nat):Array UInt8 :=
 if sec=0 then (match lab with | 0=>ksx | 1=>ivA | 2=>hpA | _=>kuA) else (match lab with | 0=>ksq | 1=>ivB | 2=>hpB | _=>kuB)
noncomputable def labN (lab n:Nat):Nat:=if lab<3 then 4*n+lab else n+1
theorem jk1 (P:Params) (a:Array UInt8):hashW P (.bytes a.toList)=hB P a:=by
 have e:∀ i:Int,reduceHash (reduceHash i)=reduceHash i:=fun i=>by
  obtain ⟨h1,h2,h3⟩:=jhz i
  generalize reduceHash i=j at *
  unfold reduceHash
  rw [if_pos (by simp -iota only [Bool.and_eq_true,decide_eq_true_eq];exact ⟨h1,h2⟩),if_neg (by simpa -iota using h3)]
 show reduceHash (PyData.keyHash P ⟨a.map (·.toNat)⟩)=hB P a
 unfold PyData.keyHash hB
 split
 ·decide
 ·exact e _
theorem labs0 {w:World} {h:Heap} (X:(K w.params).In h):h.MapOf (bytesKind pw w) 355 (fun k=>if k=ksx.toList then some (.int 0 726) else if k=ivA.toList then some (.int 1 728) else if k=hpA.toList then some (.int 2 730) else none):=by
 refine ⟨o355 w.params,_,_,X 355 _ (by k_is),⟨rfl,rfl,rfl⟩,rfl,?_,?_⟩
 ·intro e he
  simp -iota only [List.mem_cons,Array.mem_def] at he
  rcases he with rfl | rfl | rfl | h
  ·exact ⟨ksx.toList,by simp [bytesKind,isBytes],(jk1 _ _).symm⟩
  ·exact ⟨ivA.toList,by simp [bytesKind,isBytes],(jk1 _ _).symm⟩
  ·exact ⟨hpA.toList,by simp [bytesKind,isBytes],(jk1 _ _).symm⟩
  ·cases h
 ·intro k
  show findBy isBytes _ k=_
  unfold findBy
  simp -iota only [List.find?_toArray,List.find?_cons,List.find?_nil,isBytes]
  by_cases h1:k=ksx.toList
  ·subst h1;rfl
  by_cases h2:k=ivA.toList
  ·subst h2;rfl
  by_cases h3:k=hpA.toList
  ·subst h3;rfl
  have z:∀ {b:List UInt8},k≠b->(b==k)=false:=fun h=>beq_eq_false_iff_ne.mpr (Ne.symm h)
  rw [if_neg h1,if_neg h2,if_neg h3]
  simp only [z h1,z h2,z h3,Option.map_none]
theorem labs1 {w:World} {h:Heap} (X:(K w.params).In h):h.MapOf (bytesKind pw w) 356 (fun k=>if k=ksq.toList then some (.int 0 735) else if k=ivB.toList then some (.int 1 737) else if k=hpB.toList then some (.int 2 739) else none):=by
 refine ⟨o356 w.params,_,_,X 356 _ (by k_is),⟨rfl,rfl,rfl⟩,rfl,?_,?_⟩
 ·intro e he
  simp -iota only [List.mem_cons,Array.mem_def] at he
  rcases he with rfl | rfl | rfl | h
  ·exact ⟨ksq.toList,by simp [bytesKind,isBytes],(jk1 _ _).symm⟩
  ·exact ⟨ivB.toList,by simp [bytesKind,isBytes],(jk1 _ _).symm⟩
  ·exact ⟨hpB.toList,by simp [bytesKind,isBytes],(jk1 _ _).symm⟩
  ·cases h
 ·intro k
  show findBy isBytes _ k=_
  unfold findBy
  simp -iota only [List.find?_toArray,List.find?_cons,List.find?_nil,isBytes]
  by_cases h1:k=ksq.toList
  ·subst h1;rfl
  by_cases h2:k=ivB.toList
  ·subst h2;rfl
  by_cases h3:k=hpB.toList
  ·subst h3;rfl
  have z:∀ {b:List UInt8},k≠b->(b==k)=false:=fun h=>beq_eq_false_iff_ne.mpr (Ne.symm h)
  rw [if_neg h1,if_neg h2,if_neg h3]
  simp only [z h1,z h2,z h3,Option.map_none]
theorem js9 {w:World} {A:Around} {E:Value->Shared->Prop} {s:Shared} {g:Heap} {L:Addr} {m:Str->Option Value} {value slice:Expr} {d:Addr} {key:Array UInt8} {t v:Tok} {i:Int} {f:List UInt8->Option Value} {Q:Value->Shared->Prop}
  (F:Fr g L s.heap m) (hm:g.MapOf (bytesKind pw w) d f) (hf:f key.toList=some (.int i v)) (h:Q (.int i v) { s with toks:=s.toks+1 })
  (hs:subscripted slice false (.ref d) (.bytes key t)=operate [.ref d,.bytes key t] (getItem (.ref d) (.bytes key t))) :
  wpAny (model pw w) A (subscriptTail value slice (.ref d) (.bytes key t)) Q E s:=by
 obtain ⟨o,es,ep,h1,h2,h3,h4,h5⟩:=hm
 have hm':s.heap.MapOf (bytesKind pw w) d f:=⟨o,es,ep,F.keep _ _ h1,h2,h3,h4,h5⟩
 exact tail_any hm'.typeIs slot_dict_getitem.lookup (wpAny_getItem_of (bytesKind_is pw w key.toList t) hm' hf h) hs
theorem jzx {w:World} {A:Around} {E:Value->Shared->Prop} {s:Shared} {g:Heap} {L:Addr} {m:Str->Option Value} {value slice:Expr} {k:Int} {u:Tok} {x:Value} {Q:Value->Shared->Prop}
  (F:Fr g L s.heap m) (X:(K w.params).In g) (h0:0≤k) (h1:k<2 ^ 63) (hx:(#[Value.ref 355,.ref 356]:Array Value)[k.toNat]?=some x) (h:Q x s)
  (hs:subscripted slice false (.ref 357) (.int k u)=operate [.ref 357,.int k u] (getItem (.ref 357) (.int k u))) (hg:∀ r,letTemporaryGo value (.ref 357) r=pure ()) :
  wpAny (model pw w) A (subscriptTail value slice (.ref 357) (.int k u)) Q E s :=
 item_list ⟨_,F.keep _ _ (X 357 _ (show _=some o357 by k_is)),rfl,0,rfl⟩ h0 h1 hx h hs hg
section
variable {prog:Program} {w:World} {M:Model} {A:Around} {E:Value->Shared->Prop} {s:Shared}
theorem jsk {i k:Int} {t u v:Tok} {Q:Value->Shared->Prop} (h0:0≤i) (k0:12≤k) (hk:k≤64) (h1:i<2 ^ 96) (h:∀ t' tk,Q (.bytes (BE k.toNat i.toNat) t') { s with toks:=tk }) :
  wpAny (model prog w) A (call (.builtin "int.to_bytes") [.int i t,.int k u,.str "big" v]) Q E s:=by
 obtain ⟨n,rfl⟩:=Int.eq_ofNat_of_zero_le h0
 obtain ⟨m,rfl⟩:=Int.eq_ofNat_of_zero_le (show 0≤k by walk_at "OM")
 refine jlk (by walk_at "OM") ?_ h
 have:(256:Nat) ^ 12≤256 ^ m:=Nat.pow_le_pow_right (by decide) (by walk_at "OM")
 have e:(256:Nat) ^ 12=2 ^ 96:=by decide
 have:n<2 ^ 96:=by exact_mod_cast h1
 walk_at "OM"
end
theorem fl1:True:=by first|walk1|trivial
local macro_rules | `(tactic| k_ne)=>jo2 "A" "k_ne"
section
local macro_rules (kind:=PyProof.Rows.tacticWalk_at_) | s=>jex "ABCDE" s
section
variable {w:World} {mg mb:Str->Option Value} {hb:Heap} {s:Shared} {A:Around}
theorem kfx (B:jbw w mg mb hb) (S:Sub hb s.heap) (hC:jav A 1) :
  jb4 w A s (.call (.ref 364) ⟨[],[]⟩) [] (fun v h'=>∃ l t1 t2,v=.ref l∧h'.get? l=some (listOf #[.bytes kuA t1,.bytes kuB t2] 0)∧s.heap.get? l=none):=by
 intro R hR
 refine openA A hC fun dp fr un hC=>?_
 refine jcj (news:=[]) (binds:=[]) (bl:=[])
  B S (fun p hp=>nomatch hp) (by k_is) (by k_is) hC.room (BindsTo.of_eq rfl) (by kernel_rfl!) (by kernel_rfl!) ?_ (by kernel_rfl!) (by kernel_rfl!) (by kernel_rfl!) (by kernel_rfl!)
 intro g L' h₁ tk B' F N hg hs hl
 have KX:=B'.k
 have TR:=B'.t
 walk_at "GO"
 rename_i l' h' F' N' _
 exact hR _ _ _ (ja5 hg F') (iEEEAA _ _ _ rfl (N'.get (.head _)) (jd7 hg (N'.fresh (.head _)) (by simp)))
theorem jwv (B:jbw w mg mb hb) (S:Sub hb s.heap) (hC:jav A 1) :
  jb4 w A s (.call (.ref 354) ⟨[],[]⟩) [] (fun v h'=>∃ l t1 t2 t3,v=.ref l∧h'.get? l=some (listOf #[.int 4865 t1,.int 4866 t2,.int 4867 t3] 0)∧s.heap.get? l=none):=by
 intro R hR
 refine openA A hC fun dp fr un hC=>?_
 refine jcj (news:=[]) (binds:=[]) (bl:=[])
  B S (fun p hp=>nomatch hp) (by k_is) (by k_is) hC.room (BindsTo.of_eq rfl) (by kernel_rfl!) (by kernel_rfl!) ?_ (by kernel_rfl!) (by kernel_rfl!) (by kernel_rfl!) (by kernel_rfl!)
 intro g L' h₁ tk B' F N hg hs hl
 have KX:=B'.k
 have TR:=B'.t
 walk_at "GO"
 rename_i l' h' F' N' _
 exact hR _ _ _ (ja5 hg F') (jxv _ _ _ _ rfl (N'.get (.head _)) (jd7 hg (N'.fresh (.head _)) (by simp)))
theorem kk5 {sec k:Int} {rows name two:Value} {key one:Array UInt8} {t0 t1 t2 t3 t4:Tok} (B:jbw w mg mb hb) (S:Sub hb s.heap) (hC:jav A 3)
  (hsec:sec=0∨sec=1) (hn:natBE key<2 ^ 64) (hk:k≤64) (hk4:12≤k) (hone:one=kx2 sec 3) :
  jb4 w A s (.call (.ref 369) ⟨[rows,.int sec t0,.str "expand" t1,name,.bytes key t2,.bytes one t3,two,.int k t4],[]⟩) [] (fun v _=>∃ t,v=.bytes (BE k.toNat (natBE key+1)) t):=by
 intro R hR
 refine openA A hC fun dp fr un hC=>?_
 have E1:∀ n:Nat,((n:Int)+1).toNat=n+1:=fun n=>by walk_at "OM"
 rcases hsec with rfl | rfl
 ·obtain rfl:one=kuA:=hone.trans rfl
  refine jhq (news:=[]) (binds:=[("rows", rows),("second", .int 0 t0),("what", .str "expand" t1),("name", name),("key", .bytes key t2),("one", .bytes kuA t3),("two", two),("three", .int k t4)])
   (bl:=[("three", .int k t4),("two", two),("name", name),("what", .str "expand" t1),("second", .int 0 t0),("rows", rows)])
   (bc:=[("one", .bytes kuA t3),("key", .bytes key t2)])
   (cs:=fun L=>[("one", L+2),("key", L+1)])
   B S (fun p hp=>nomatch hp) (by k_is) (by k_is) hC.room (BindsTo.of_eq rfl) (by kernel_rfl!) (by decide +kernel) (by kernel_rfl!) (by kernel_rfl!) (by intro L;kernel_rfl!) ?_ (by kernel_rfl!) (by kernel_rfl!) (by kernel_rfl!)
  intro g L' h₁ tk cells B' F N Y hg hs hl
  have KX:=B'.k
  have TR:=B'.t
  refine jl5 (CellsAre.two Y) fun o1 o2 zq164 d1 d2=>?_
  obtain rfl:=zq164
  clear Y
  simp only [List.cons_append,List.nil_append] at N
  replace d1:=jd9 d1 (by walk_at "LKd")
  replace d2:=jd9 d2 (by walk_at "LKd")
  walk_at "GO"
  exact hR _ _ _ (ja5 hg (by assumption)) ⟨_,by rw [E1]⟩
 ·obtain rfl:one=kuB:=hone.trans rfl
  refine jhq (news:=[]) (binds:=[("rows", rows),("second", .int 1 t0),("what", .str "expand" t1),("name", name),("key", .bytes key t2),("one", .bytes kuB t3),("two", two),("three", .int k t4)])
   (bl:=[("three", .int k t4),("two", two),("name", name),("what", .str "expand" t1),("second", .int 1 t0),("rows", rows)])
   (bc:=[("one", .bytes kuB t3),("key", .bytes key t2)])
   (cs:=fun L=>[("one", L+2),("key", L+1)])
   B S (fun p hp=>nomatch hp) (by k_is) (by k_is) hC.room (BindsTo.of_eq rfl) (by kernel_rfl!) (by decide +kernel) (by kernel_rfl!) (by kernel_rfl!) (by intro L;kernel_rfl!) ?_ (by kernel_rfl!) (by kernel_rfl!) (by kernel_rfl!)
  intro g L' h₁ tk cells B' F N Y hg hs hl
  have KX:=B'.k
  have TR:=B'.t
  refine jl5 (CellsAre.two Y) fun o1 o2 zq163 d1 d2=>?_
  obtain rfl:=zq163
  clear Y
  simp only [List.cons_append,List.nil_append] at N
  replace d1:=jd9 d1 (by walk_at "LKd")
  replace d2:=jd9 d2 (by walk_at "LKd")
  walk_at "GO"
  exact hR _ _ _ (ja5 hg (by assumption)) ⟨_,by rw [E1]⟩
theorem ne_ku0 {l:List UInt8} {v:Value} (h:(if l=ksx.toList then some (Value.int 0 726) else if l=ivA.toList then some (.int 1 728) else if l=hpA.toList then some (.int 2 730) else none)=some v):(l==kuA.toList)=false:=by
 apply beq_eq_false_iff_ne.mpr
 rintro rfl
 simp at h
theorem ne_ku1 {l:List UInt8} {v:Value} (h:(if l=ksq.toList then some (Value.int 0 735) else if l=ivB.toList then some (.int 1 737) else if l=hpB.toList then some (.int 2 739) else none)=some v):(l==kuB.toList)=false:=by
 apply beq_eq_false_iff_ne.mpr
 rintro rfl
 simp at h
theorem kdw {sec k:Int} {lab:Nat} {rows name two:Value} {key one:Array UInt8} {t0 t1 t2 t3 t4:Tok} (B:jbw w mg mb hb) (S:Sub hb s.heap) (hC:jav A 3)
  (hsec:sec=0∨sec=1) (hn:natBE key<2 ^ 64) (hk:k≤64) (hk4:12≤k) (hlab:lab<3) (hone:one=kx2 sec lab) :
  jb4 w A s (.call (.ref 369) ⟨[rows,.int sec t0,.str "expand" t1,name,.bytes key t2,.bytes one t3,two,.int k t4],[]⟩) [] (fun v _=>∃ t,v=.bytes (BE k.toNat (4*natBE key+lab)) t):=by
 intro R hR
 refine openA A hC fun dp fr un hC=>?_
 have E1:∀ n:Nat,(4*(n:Int)+(lab:Int)).toNat=4*n+lab:=fun n=>by walk_at "OM"
 rcases hsec with rfl | rfl
 ·obtain ⟨v,hf⟩:∃ v,(if one.toList=ksx.toList then some (Value.int 0 726) else if one.toList=ivA.toList then some (.int 1 728) else if one.toList=hpA.toList then some (.int 2 730) else none)=some (.int (lab:Int) v):=by
   subst hone
   rcases lab with _ | _ | _ | lab
   ·exact ⟨_,rfl⟩
   ·exact ⟨_,rfl⟩
   ·exact ⟨_,rfl⟩
   ·exact absurd hlab (Nat.not_lt_of_le (Nat.le_add_left 3 lab))
  have hne:=ne_ku0 hf
  clear hone
  refine jhq (news:=[]) (binds:=[("rows", rows),("second", .int 0 t0),("what", .str "expand" t1),("name", name),("key", .bytes key t2),("one", .bytes one t3),("two", two),("three", .int k t4)])
   (bl:=[("three", .int k t4),("two", two),("name", name),("what", .str "expand" t1),("second", .int 0 t0),("rows", rows)])
   (bc:=[("one", .bytes one t3),("key", .bytes key t2)])
   (cs:=fun L=>[("one", L+2),("key", L+1)])
   B S (fun p hp=>nomatch hp) (by k_is) (by k_is) hC.room (BindsTo.of_eq rfl) (by kernel_rfl!) (by decide +kernel) (by kernel_rfl!) (by kernel_rfl!) (by intro L;kernel_rfl!) ?_ (by kernel_rfl!) (by kernel_rfl!) (by kernel_rfl!)
  intro g L' h₁ tk cells B' F N Y hg hs hl
  have KX:=B'.k
  have TR:=B'.t
  refine jl5 (CellsAre.two Y) fun o1 o2 zq162 d1 d2=>?_
  obtain rfl:=zq162
  clear Y
  simp only [List.cons_append,List.nil_append] at N
  replace d1:=jd9 d1 (by walk_at "LKd")
  replace d2:=jd9 d2 (by walk_at "LKd")
  walk_at "GO"
  exact hR _ _ _ (ja5 hg (by assumption)) ⟨_,by rw [E1]⟩
 ·obtain ⟨v,hf⟩:∃ v,(if one.toList=ksq.toList then some (Value.int 0 735) else if one.toList=ivB.toList then some (.int 1 737) else if one.toList=hpB.toList then some (.int 2 739) else none)=some (.int (lab:Int) v):=by
   subst hone
   rcases lab with _ | _ | _ | lab
   ·exact ⟨_,rfl⟩
   ·exact ⟨_,rfl⟩
   ·exact ⟨_,rfl⟩
   ·exact absurd hlab (Nat.not_lt_of_le (Nat.le_add_left 3 lab))
  have hne:=ne_ku1 hf
  clear hone
  refine jhq (news:=[]) (binds:=[("rows", rows),("second", .int 1 t0),("what", .str "expand" t1),("name", name),("key", .bytes key t2),("one", .bytes one t3),("two", two),("three", .int k t4)])
   (bl:=[("three", .int k t4),("two", two),("name", name),("what", .str "expand" t1),("second", .int 1 t0),("rows", rows)])
   (bc:=[("one", .bytes one t3),("key", .bytes key t2)])
   (cs:=fun L=>[("one", L+2),("key", L+1)])
   B S (fun p hp=>nomatch hp) (by k_is) (by k_is) hC.room (BindsTo.of_eq rfl) (by kernel_rfl!) (by decide +kernel) (by kernel_rfl!) (by kernel_rfl!) (by intro L;kernel_rfl!) ?_ (by kernel_rfl!) (by kernel_rfl!) (by kernel_rfl!)
  intro g L' h₁ tk cells B' F N Y hg hs hl
  have KX:=B'.k
  have TR:=B'.t
  refine jl5 (CellsAre.two Y) fun o1 o2 zq161 d1 d2=>?_
  obtain rfl:=zq161
  clear Y
  simp only [List.cons_append,List.nil_append] at N
  replace d1:=jd9 d1 (by walk_at "LKd")
  replace d2:=jd9 d2 (by walk_at "LKd")
  walk_at "GO"
  exact hR _ _ _ (ja5 hg (by assumption)) ⟨_,by rw [E1]⟩
end
end
theorem fl2:True:=by first|walk1|trivial
section
local macro_rules (kind:=PyProof.Rows.tacticWalk_at_) | s=>jex "ABF" s
theorem kh0 {M:Model} {A:Around} {E:Value->Shared->Prop} {s:Shared} {K:Frag} {h₀:Heap} {L C:Addr} {m mg mb:Str->Option Value} {p:Program} {loose:List Str} {scope:Scope} {cl:List (Str×Addr)} {env:Env} {x:Str} {pos:Pos} {v:Value} {Q:Value->Shared->Prop}
  (F:Fr h₀ L s.heap m) (X:K.In h₀) (T:TopRead p loose mg mb h₀) (e:nsIn K mainGlobals x=some none) (hv:bootBuiltins x=some v) (hn:x ≠ "__name__") (h:Q v s) (hg:env.globals=mainGlobals) (hb:env.builtins=builtinsNs)
  (hk:(compEnvC scope cl C env).scope.kind=.function) (hx:(compEnvC scope cl C env).kindOf x=some .globalImplicit) (hd:(x==("__debug__" : Str))=false) :
  wpAny M A (eval (.Name x pos) (compEnvC scope cl C env)) Q E s :=
 Name_function_global hk hx (loadGlobal_builtin (env:=compEnvC scope cl C env) (show s.heap.Ns env.globals mg from hg▸(T.keeps F.keep).g) (mg_none_of X T.g e) (show s.heap.Ns env.builtins mb from hb▸(T.keeps F.keep).b) ((T.builtins x hn).trans hv) h) hd
theorem jpx (l:List Int):∀ n,n≤l.length->preSum (fun i=>l.getD i 0) n=(l.take n).sum:=by
 intro n
 induction n with
 | zero=>intro _;simp [preSum]
 | succ n ih =>
  intro h
  have e:l[n]?=some (l.getD n 0):=by rw [List.getD_eq_getElem?_getD,List.getElem?_eq_getElem (show n<l.length by walk_at "OM")];rfl
  rw [preSum,ih (by walk_at "OM"),List.take_add_one,e,List.sum_append]
  simp
theorem jsw:∀ {l:List Int},(∀ k∈l,0≤k∧k<256)->0≤l.sum∧l.sum≤255*l.length
 | [],_=>by simp
 | a::r,h=>by
  have:=jsw (l:=r) fun k hk=>h k (.tail _ hk)
  have:=h a (.head _)
  rw [List.sum_cons,List.length_cons]
  push_cast
  walk_at "OM"
theorem ke8 {prog:Program} {w:World} {A:Around} {E:Value->Shared->Prop} {s:Shared} {b:Array UInt8} {t:Tok} {g:Heap} {L:Addr} {m:Str->Option Value} {news:List (Addr×Obj)} {Q:Value->Shared->Prop} (hh:A.handled=none) (F:Fr g L s.heap m) (N:News g L s.heap news) (hz:b.size≤1099511627776)
  (h:∀ h' tk t',Fr g L h' m->News g L h' news->Q (.int (KBw.bInts b).sum t') { s with heap:=h',toks:=tk }):wpAny (model prog w) A (call (.builtin "sum") [.bytes b t]) Q E s:=by
 refine call_sum_walk (KBw.pyIter_bytes ?_)
 refine (jcq _ _ _ _ _ _ (fun i=>(KBw.bInts b).getD i 0) rfl (ks0 (KBw.walks (A:=A.in1) hh _ b t) (jjv _ (Heap.get?_push_size _ rfl) rfl rfl) (?_) (?_) (?_) (?_)))
 ·intro x hx
  rw [List.mem_singleton.mp hx]
  show _<(s.heap.push _).objs.size
  rw [Heap.size_push];exact Nat.lt_succ_self _
 ·rintro i v ⟨c,u,hc,rfl⟩
  refine ⟨u,?_⟩
  have:=KBw.ints_get hc
  show _=Value.int ((KBw.bInts b).getD i 0) u
  rw [List.getD_eq_getElem?_getD,this];rfl
 ·intro j hj
  have hl:=KBw.ints_length b
  have hin:∀ k∈KBw.bInts b,0≤k∧k<256:=fun k hk=>KBw.ints_in hk
  constructor
  ·have:=KBw.getD_in (ks:=KBw.bInts b) (j:=j) hin
   show InLong ((KBw.bInts b).getD j 0)
   unfold InLong;walk_at "OM"
  ·rw [jpx _ _ (by walk_at "OM")]
   have:=jsw (l:=(KBw.bInts b).take (j+1)) fun k hk=>hin k (List.mem_of_mem_take hk)
   have h2:((KBw.bInts b).take (j+1)).length≤b.size:=by rw [List.length_take];walk_at "OM"
   unfold InLong;walk_at "OM"
 ·intro h' tk t' hk
  rw [jpx _ _ (by rw [KBw.ints_length];exact Nat.le_refl _),List.take_of_length_le (by rw [KBw.ints_length];exact Nat.le_refl _)]
  have hk':∀ x o,s.heap.get? x=some o->h'.get? x=some o:=fun x o e=>hk x o (fun hx=>by
   rw [List.mem_singleton.mp hx] at e
   exact absurd (Heap.lt_size e) (Nat.lt_irrefl _)) (Heap.get?_push_of_some _ e)
  exact h h' tk t' (F.keeps hk') fun p hp=>⟨hk' _ _ (N p hp).1,(N p hp).2⟩
section
variable {w:World} {mg mb:Str->Option Value} {hb:Heap} {s:Shared} {A:Around}
noncomputable def kx1 (key:Array UInt8):Int:=(KBw.bInts key).getD (-1+((KBw.bInts key).length:Int)).toNat 0
noncomputable def ji3 (key one:Array UInt8) (k:Int):Int:=(7*(KBw.bInts one).sum+5*kx1 key+31*k).fmod 256
noncomputable def jg8 (key one:Array UInt8):Array UInt8:=byteArr ((rangeKs 0 5).map (ji3 key one))
theorem kh8 {sec:Int} {rows name two three:Value} {key one:Array UInt8} {t0 t1 t2 t3:Tok} (B:jbw w mg mb hb) (S:Sub hb s.heap) (hC:jav A 3)
  (hk:0<key.size) (hk2:key.size≤1000) (ho:one.size≤1000) :
  jb4 w A s (.call (.ref 369) ⟨[rows,.int sec t0,.str "mask" t1,name,.bytes key t2,.bytes one t3,two,three],[]⟩) [] (fun v _=>∃ t,v=.bytes (jg8 key one) t):=by
 intro R hR
 refine openA A hC fun dp fr un hC=>?_
 have hz:one.size≤1099511627776:=by walk_at "OM"
 obtain ⟨ks,hks⟩:∃ ks,KBw.bInts key=ks:=⟨_,rfl⟩
 have hkl:ks.length=key.size:=by rw [← hks,KBw.ints_length]
 refine jhq (news:=[]) (binds:=[("rows", rows),("second", .int sec t0),("what", .str "mask" t1),("name", name),("key", .bytes key t2),("one", .bytes one t3),("two", two),("three", three)])
  (bl:=[("three", three),("two", two),("name", name),("what", .str "mask" t1),("second", .int sec t0),("rows", rows)])
  (bc:=[("one", .bytes one t3),("key", .bytes key t2)])
  (cs:=fun L=>[("one", L+2),("key", L+1)])
  B S (fun p hp=>nomatch hp) (by k_is) (by k_is) hC.room (BindsTo.of_eq rfl) (by kernel_rfl!) (by decide +kernel) (by kernel_rfl!) (by kernel_rfl!) (by intro L;kernel_rfl!) ?_ (by kernel_rfl!) (by kernel_rfl!) (by kernel_rfl!)
 intro g L' h₁ tk cells B' F N Y hg hs hl
 have KX:=B'.k
 have TR:=B'.t
 refine jl5 (CellsAre.two Y) fun o1 o2 zq166 d1 d2=>?_
 obtain rfl:=zq166
 clear Y
 simp only [List.cons_append,List.nil_append] at N
 replace d1:=jd9 d1 (by walk_at "LKd")
 replace d2:=jd9 d2 (by walk_at "LKd")
 walk_at "GO"
 show R (.ok (.ret (.bytes _ _))) _
 refine hR _ _ _ (ja5 hg (by assumption)) ⟨_,congrArg (Value.bytes · _) ?_⟩
 have hin:0≤ks.getD (-1+(ks.length:Int)).toNat 0∧ks.getD (-1+(ks.length:Int)).toNat 0<256:=KBw.getD_in (by rw [← hks];exact fun k hk=>KBw.ints_in hk)
 simp only [if_pos hin]
 show _=byteArr ((rangeKs 0 5).map (ji3 key one))
 refine congrArg byteArr (List.map_congr_left fun k _=>?_)
 unfold ji3 kx1
 rw [hks]
end
end
theorem fl3:True:=by first|walk1|trivial
set_option genInjectivity false
set_option genSizeOf false
section
local macro_rules (kind:=PyProof.Rows.tacticWalk_at_) | s=>jex "ABGHIE" s
theorem kr8 {prog:Program} {w:World} {A:Around} {E:Value->Shared->Prop} {s:Shared} {g:Heap} {L D:Addr} {news:List (Addr×Obj)} {its:Array Value} {c:Nat} {Q:Value->Shared->Prop} (N:News g L s.heap news) (hm:(D,listOf its c)∈news) (hf:its.size<2 ^ 62) (h:Q (.int (its.size:Nat) (s.toks+1)) { s with toks:=s.toks+1+1 }) :
  wpAny (model prog w) A (call (.builtin "len") [.ref D]) Q E s:=Calls.call_len_list (News.isList N hm) (by walk_at "OM") h
noncomputable abbrev jl7 (its:Array Value):Obj:={ cls:=.type "tuple", data:=.seq its }
structure Row where
 name:Array UInt8
 key:Array UInt8
 one:Array UInt8
 three:Array UInt8
 sealed:Array UInt8
 two:Array UInt8
def jvw (h:Heap) (v:Value) (r:Row):Prop:=∃ a t1 t2 t3 t4 t5 t6,v=.ref a∧h.get? a=some (jl7 #[.bytes r.name t1,.bytes r.key t2,.bytes r.one t3,.bytes r.three t4,.bytes r.sealed t5,.bytes r.two t6])
section
variable {w:World} {mg mb:Str->Option Value} {hb:Heap} {s:Shared} {A:Around}
theorem kh6 {sec:Int} {rl:Addr} {its:Array Value} {n:Nat} {name key one two three:Array UInt8} {t0 t1 t2 t3 t4 t5 t6:Tok} (B:jbw w mg mb hb) (S:Sub hb s.heap) (hC:jav A 3)
  (hr:s.heap.get? rl=some (listOf its n)) (hrb:hb.get? rl=none) (hz:its.size≤1000) (h2:two.size≤1000) :
  jb4 w A s (.call (.ref 369) ⟨[.ref rl,.int sec t0,.str "seal" t1,.bytes name t2,.bytes key t3,.bytes one t4,.bytes two t5,.bytes three t6],[]⟩) [rl]
   (fun v h'=>∃ t tp,v=.bytes (two++BE 16 (its.size+1)) t∧s.heap.get? tp=none∧h'.get? rl=some (listOf (its.push (.ref tp)) (n+1))∧jvw h' (.ref tp) ⟨name,key,one,three,two++BE 16 (its.size+1),two⟩):=by
 intro R hR
 refine openA A hC fun dp fr un hC=>?_
 refine jhq (news:=[(rl,listOf its n)]) (binds:=[("rows", .ref rl),("second", .int sec t0),("what", .str "seal" t1),("name", .bytes name t2),("key", .bytes key t3),("one", .bytes one t4),("two", .bytes two t5),("three", .bytes three t6)])
  (bl:=[("three", .bytes three t6),("two", .bytes two t5),("name", .bytes name t2),("what", .str "seal" t1),("second", .int sec t0),("rows", .ref rl)])
  (bc:=[("one", .bytes one t4),("key", .bytes key t3)])
  (cs:=fun L=>[("one", L+2),("key", L+1)])
  B S (fun p hp=>by obtain rfl:=List.mem_singleton.mp hp;exact ⟨hr,hrb⟩) (by k_is) (by k_is) hC.room (BindsTo.of_eq rfl) (by kernel_rfl!) (by decide +kernel) (by kernel_rfl!) (by kernel_rfl!) (by intro L;kernel_rfl!) ?_ (by kernel_rfl!) (by kernel_rfl!) (by kernel_rfl!)
 intro g L' h₁ tk cells B' F N Y hg hs hl
 have KX:=B'.k
 have TR:=B'.t
 refine jl5 (CellsAre.two Y) fun o1 o2 zq167 d1 d2=>?_
 obtain rfl:=zq167
 clear Y
 simp only [List.cons_append,List.nil_append] at N
 replace d1:=jd9 d1 (by walk_at "LKd")
 replace d2:=jd9 d2 (by walk_at "LKd")
 have hl1:@LT.lt Nat instLTNat rl L':=hl _ (.head _)
 walk_at "GO"
 rename_i D' _ _ _ l1 h' F' N'
 have e:BE (Int.toNat 16) ((its.size:Int)+1).toNat=BE 16 (its.size+1):=by rw [show ((its.size:Int)+1).toNat=its.size+1 by walk_at "OM"];rfl
 show R (.ok (.ret (.bytes _ _))) _
 rw [e] at N' ⊢
 refine hR _ _ _ (ja5 hg F') (kiw _ D' rfl (jd7 hg (N'.fresh (.head _)) ?_) (N'.get me3) D' _ _ (ksv _ _ _ _ rfl (N'.get (.head _))))
 intro hm
 exact Nat.ne_of_gt l1.2.2 (List.mem_singleton.mp hm)
end
end
noncomputable def jak (o:Obj):Bool:=match o.data with
 | .seq _ _=>(match o.cls with | .type n=>n == "tuple" | _=>false)
 | .dict es _=>(es.size==3 || es.size==4)&&(nsFind es "_cipher_name").isSome
 | _=>true
def jaz (h h':Heap):Prop:=∀ b o,h.get? b=some o->jak o=true->h'.get? b=some o
theorem jaz.trans {h h' h'':Heap} (a:jaz h h') (b:jaz h' h''):jaz h h'':=fun x o e f=>b x o (a x o e f) f
theorem jaz.of_sub {h h':Heap} (a:Sub h h'):jaz h h':=fun x o e zz=>a x o e
theorem jb8.keeps {h h':Heap} {as:List Addr} (H:jb8 h as h') (ha:∀ a∈as,∃ o,h.get? a=some o∧jak o=false):jaz h h':=fun b o e f=>H b o e fun hm=>by
 refine xEA (ha b hm) fun o' e' f'=>?_
 rw [e] at e';cases e';rw [f] at f';cases f'
theorem toG {hb h g:Heap} {news:List (Addr×Obj)} (N:Has hb h news) (hg:∀ b o,h.get? b=some o->b∉news.map (·.1)->g.get? b=some o) (hf:∀ p∈news,jak p.2=false):jaz h g:=fun b o e f=>hg b o e fun hm=>by
 refine xEA (List.mem_map.mp hm) fun p hp zq154=>?_
 obtain rfl:=zq154
 have:=(N p hp).1
 rw [e] at this;cases this
 rw [hf p hp] at f;cases f
theorem Sub.trans' {a b c:Heap} (x:Sub a b) (y:Sub b c):Sub a c:=fun p o e=>y p o (x p o e)
theorem jb8.mono {h h':Heap} {as bs:List Addr} (H:jb8 h as h') (hs:∀ a∈as,a∈bs):jb8 h bs h':=fun b o e n=>H b o e fun q=>n (hs b q)
theorem jb8.trans {h h' h'':Heap} {as:List Addr} (H:jb8 h as h') (H':jb8 h' as h''):jb8 h as h'':=fun b o e n=>H' b o (H b o e n) n
theorem jb8.of_sub {h0 h h':Heap} {as:List Addr} (S:Sub h0 h) (H:jb8 h as h'):jb8 h0 as h':=fun b o e n=>H b o (S b o e) n
theorem jiw {w:World} {A:Around} {s:Shared} {c:Code} {as as':List Addr} {P P':Value->Heap->Prop} (h:jb4 w A s c as P) (ha:∀ a∈as,a∈as') (hP:∀ v h',jb8 s.heap as h'->P v h'->P' v h'):jb4 w A s c as' P' :=
 fun R hR=>h R fun v h' tk H p=>hR v h' tk (jb8.mono H ha) (hP v h' H p)
noncomputable abbrev jx2 (P:Params) (T:Nat->Tok) (name key prim iv:Value):Obj:=dictOf [ent P "_cipher_name" (T 0) name,ent P "_key" (T 1) key,ent P "_primitives" (T 2) prim,ent P "_iv" (T 3) iv] 4
noncomputable abbrev hpD (P:Params) (T:Nat->Tok) (name key prim:Value):Obj:=dictOf [ent P "_cipher_name" (T 0) name,ent P "_key" (T 1) key,ent P "_primitives" (T 2) prim] 3
noncomputable abbrev ctxD (P:Params) (T:Nat->Tok) (aead cs hp kp sec ver scb tcb prim:Value):Obj :=
 dictOf [ent P "aead" (T 0) aead,ent P "cipher_suite" (T 1) cs,ent P "hp" (T 2) hp,ent P "key_phase" (T 3) kp,ent P "secret" (T 4) sec,ent P "version" (T 5) ver,ent P "_setup_cb" (T 6) scb,ent P "_teardown_cb" (T 7) tcb,ent P "primitives" (T 8) prim] 9
noncomputable abbrev jhk (P:Params) (T:Nat->Tok) (prim recv send upd:Value):Obj :=
 dictOf [ent P "aead_tag_size" (T 0) (.int 16 (T 5)),ent P "primitives" (T 1) prim,ent P "recv" (T 2) recv,ent P "send" (T 3) send,ent P "_update_key_requested" (T 4) upd] 5
theorem InstAt.of_fr {h₀ h:Heap} {L x C dx:Addr} {m:Str->Option Value} {od:Obj} (F:Fr h₀ L h m) (h1:h₀.get? x=some (instObj C dx)) (h2:h₀.get? dx=some od):InstAt h x (instObj C dx) C (some od) :=
 ⟨F.keep _ _ h1,rfl,rfl,F.keep _ _ h2⟩
theorem InstAt.of_frN {h₀ h:Heap} {L x C dx:Addr} {m:Str->Option Value} {od:Obj} {news:List (Addr×Obj)} (F:Fr h₀ L h m) (N:News h₀ L h news) (h1:h₀.get? x=some (instObj C dx)) (h2:(dx,od)∈news):InstAt h x (instObj C dx) C (some od) :=
 ⟨F.keep _ _ h1,rfl,rfl,(N _ h2).1⟩
def FnP (a:Addr) (h:Heap):Prop:=∃ o fd,h.get? a=some o∧o.data=.func fd
theorem FnP.of_fr {h₀ h:Heap} {L a:Addr} {m:Str->Option Value} {o:Obj} {fd:FuncData} (F:Fr h₀ L h m) (h1:h₀.get? a=some o) (h2:o.data=.func fd):FnP a h:=⟨o,fd,F.keep _ _ h1,h2⟩
theorem kow {M:Model} {a:Addr} (h:Heap) (X:FnP a h):∃ k,(k=Keeper.frame∨k=Keeper.machine∨k=Keeper.boundFrame)∧Looks M h (keeperOf (.ref a)) k:=by
 refine je4 X fun o fd ho hd=>?_
 try clear X
 refine ⟨.frame,.inl rfl,(Looks.ld (part:=none) ho).andThen ?_⟩
 rw [hd];exact .now
section
variable {M:Model} {A:Around} {E:Value->Shared->Prop} {s:Shared} {env:Env} {pos:Pos} {a:Addr} {first:List Value} {Q:Value->Shared->Prop}
theorem jjj {h₀:Heap} {L:Addr} {m:Str->Option Value} {o:Obj} {e:Expr} {rest:List Expr} (_F:Fr h₀ L s.heap m) (_h:h₀.get? a=some o) (_d:∃ fd,o.data=.func fd) (h:wpAny M A (spliced (backTo pos (starEach (e::rest) env))) (fun vs s₁=>FnP a s₁.heap∧wpAny M A (call (.ref a) (first++vs)) Q E s₁) E s)
  (he:starEach (e::rest) env=(false,eval e env)::starEach rest env) (hplain:(backTo pos (starEach rest env)).any (·.1)=false) :
  wpAny M A (callWith pos (.ref a) first (backTo pos (starEach (e::rest) env)) []) Q E s:=by
 rw [he] at h ⊢
 exact callWith_of (by show ((false || (backTo pos (starEach rest env)).any (·.1)) || false)=false;rw [hplain];rfl) kow (evalArgs_plain h)
end
section
variable {M:Model} {A:Around} {E:Value->Shared->Prop} {s:Shared} {g:Heap} {m:Str->Option Value} {name:Str} {scope:Scope} {L a c:Addr} {cd:Value} {cl:List (Str×Addr)}
theorem ldX {x:Str} {pos:Pos} {v:Value} {Q:Value->Shared->Prop} (F:Fr g L s.heap m) (hv:Lk m x v) (h:Q v s) (ok:kc5 scope x=true) :
  wpAny M A (eval (.Name x pos) (envX name scope L a cd cl)) Q E s:=let ⟨hk,hl,hd⟩:=jrj ok;wpAny_Name (wpAny_loadName_local (env:=envX name scope L a cd cl) hk hl F.ns hv h) hd
theorem koq {x:Str} {pos:Pos} {v:Value} {oc:Obj} {Q:Value->Shared->Prop} (F:Fr g L s.heap m) (hc:cl.lookup x=some c) (hv:g.get? c=some oc) (hd:oc.data=.cell (some v)) (h:Q v s)
  (hk:scope.kind=.function) (hx:scope.names.lookup x=some .free) (hb:(x==("__debug__" : Str))=false) (hn:(x==("__classdict__" : Str))=false) :
  wpAny M A (eval (.Name x pos) (envX name scope L a cd cl)) Q E s:=wpAny_Name (wpAny_loadName_free (env:=envX name scope L a cd cl) hk hx hc ⟨_,F.keep _ _ hv,hd⟩ h hn) hb
end
section
variable {w:World} {mg mb:Str->Option Value} {hb:Heap} {s:Shared} {A:Around} {R:Result->Shared->Prop} {news:List (Addr×Obj)}
 {name qual:Str} {params:Arguments} {body:Expr} {scope:Scope} {cl:List (Str×Addr)} {pm ctv:Value} {c' f:Addr} {args:Args} {binds bl:List (Str×Value)}
theorem jj6 (B:jbw w mg mb hb) (S:Sub hb s.heap) (N:Has hb s.heap news)
  (ho:s.heap.get? f=some (kla_obj name qual params body scope cl pm c' ctv)) (hcd:s.heap.CodeRec (.ref c') qual) (hroom:A.depth<recursionLimit)
  (hbind:bindArgs (kla_fn name qual params body scope cl pm (.ref c') ctv) args=pure binds) (hbl:binds.reverse=bl) (hloc:(binds.all fun y=>scope.names.lookup y.1==some .local)=true)
  (h:∀ g L' h₁ tk,jbw w mg mb g->Fr g L' h₁ (fun y=>chain bl y)->News g L' h₁ news->(∀ b o,s.heap.get? b=some o->b∉news.map (·.1)->g.get? b=some o)->Sub g s.heap->(∀ p∈news,p.1<L')->Sub s.heap h₁ →
   wpAny (model pw w) (A.deeper (envX qual scope L' f (.ref c') cl)) (eval body (envX qual scope L' f (.ref c') cl)) (fun v s'=>R (.ok (.ret v)) s') (ko8 w A (envX qual scope L' f (.ref c') cl) R) { s with heap:=h₁,toks:=tk })
  (hco:scope.isCoroutine=false) (hgen:scope.isGenerator=false) (hk:scope.kind=.function)
  (hcell:(scope.names.all fun x=>!(x.2==.cell))=true):codeAny (model pw w) A (.call (.ref f) args) R s:=by
 have nm:∀ b o,hb.get? b=some o->b∉news.map (·.1):=fun b o e q=>by
  refine xEA (List.mem_map.mp q) fun p hp zq153=>?_
  obtain rfl:=zq153
  rw [(N p hp).2] at e;cases e
 have st:Sub hb (hideAll s.heap (news.map (·.1))):=fun b o e=>hideAll_get _ (S b o e) (nm b o e)
 refine kla_callFunE hroom ho rfl hco hgen rfl hcd ?_
 rw [hbind]
 refine wpAny_pure (wpAny_newFunctionEnv (fun x hx e=>?_) (fun y hy=>?_) (fun h₁ hns hsb=>⟨(B.t.nolimit.keeps S).fresh _ hsb,?_⟩) hk)
 ·have:=List.all_eq_true.mp hcell x hx
  rw [e] at this
  exact absurd this (by decide)
 ·have:=List.all_eq_true.mp hloc y hy
  simpa using this
 show codeAny _ _ (.expr body (envX qual scope s.heap.objs.size f (.ref c') cl)) _ _
 have hk₁:∀ b o,s.heap.get? b=some o->h₁.get? b=some o:=fun b o e=>hsb.extBut b o (Nat.ne_of_lt (Heap.lt_size e)) (Heap.get?_push_of_some _ e)
 refine kla_codeExpr ?_
 have e:(fun y=>binds.reverse.lookup y)=fun y=>chain bl y:=by funext y;rw [jh6,hbl]
 have F:Fr (hideAll s.heap (news.map (·.1))) s.heap.objs.size h₁ (fun y=>binds.reverse.lookup y):=⟨hns,fun b o e=>hk₁ b o (of_hideAll _ e),Nat.le_of_eq (hideAll_size _ _)⟩
 exact h (hideAll s.heap (news.map (·.1))) s.heap.objs.size h₁ _ (B.keeps st) (e▸F)
  (fun p hp=>⟨hk₁ _ _ (N p hp).1,Nat.ne_of_lt (Heap.lt_size (N p hp).1),hideAll_none _ (List.mem_map_of_mem hp)⟩) (fun b o e n=>hideAll_get _ e n) (fun b o e=>of_hideAll _ e) (fun p hp=>Heap.lt_size (N p hp).1) hk₁
end
theorem fr_mut {g h h':Heap} {L:Addr} {m:Str->Option Value} {as:List Addr} {news:List (Addr×Obj)} (F:Fr g L h m) (N:News g L h news) (H:jb8 h as h') (ha:∀ a∈as,∃ o,(a,o)∈news):Fr g L h' m :=
 jc0 F H fun a hm=>by obtain ⟨o,ho⟩:=ha a hm;exact ⟨(N _ ho).2.1,(N _ ho).2.2⟩
theorem kn7 {g h h':Heap} {L:Addr} {as:List Addr} {news news':List (Addr×Obj)} (N:News g L h news) (H:jb8 h as h')
  (hs:∀ p∈news',(p∈news∧p.1∉as)∨(h'.get? p.1=some p.2∧∃ o,(p.1,o)∈news)):News g L h' news':=fun p hp=>by
 rcases hs p hp with ⟨h1,h2⟩ | ⟨h1,o,h2⟩
 ·exact ⟨H _ _ (N p h1).1 h2,(N p h1).2⟩
 ·exact ⟨h1,(N _ h2).2⟩
theorem ja0 {w:World} {A:Around} {s:Shared} {f:Addr} {pos:List Value} {kw:List (Str×Value)} {as:List Addr} {Post:Value->Heap->Prop} {E:Value->Shared->Prop} {Q:Value->Shared->Prop} (sp:jb4 w A s (.call (.ref f) ⟨pos,kw⟩) as Post)
  (h:∀ v h' tk,jb8 s.heap as h'->Post v h'->Q v { s with heap:=h',toks:=tk }):wpAny (model pw w) A (call (.ref f) pos kw) Q E s :=
 wpAny_call (sp _ fun v h' tk H P=>h v h' tk H P)
theorem fl4:True:=by first|walk1|trivial
local macro_rules | `(tactic| k_inst)=>jo2 "J" "k_inst"
noncomputable def unE:Expr->Arguments×Expr×List Expr×List Keyword
 | .Lambda a b _ _=>(a,b,[],[])
 | .Call _ a k _=>(default,noE,a,k)
 | _=>(default,noE,[],[])
noncomputable def callOf (c:Expr):List Expr:=(unE c).2.2.1++(unE c).2.2.2.map (·.value)
noncomputable def jjx (b:List Stmt) (k:Nat):Expr:=(callOf (unS (b.headD noS)).2.2.2.2).getD k noE
noncomputable def jh1 (c:Expr):Arguments:=(unE c).1
noncomputable def jn1 (c:Expr):Expr:=(unE c).2.1
noncomputable def jj3:Expr->Scope | .Lambda _ _ s _=>s | _=>default
noncomputable abbrev lp0:=jaj (jh1 (jjx je2 0))
noncomputable abbrev lb0:=jaj (jn1 (jjx je2 0))
noncomputable abbrev ls0:=jaj (jj3 (jjx je2 0))
noncomputable abbrev lp1:=jaj (jh1 (jjx je2 1))
noncomputable abbrev lb1:=jaj (jn1 (jjx je2 1))
noncomputable abbrev ls1:=jaj (jj3 (jjx je2 1))
noncomputable abbrev lp2:=jaj (jh1 (jjx je2 2))
noncomputable abbrev lb2:=jaj (jn1 (jjx je2 2))
noncomputable abbrev ls2:=jaj (jj3 (jjx je2 2))
noncomputable abbrev lp3:=jaj (jh1 (jjx je2 3))
noncomputable abbrev lb3:=jaj (jn1 (jjx je2 3))
noncomputable abbrev ls3:=jaj (jj3 (jjx je2 3))
noncomputable abbrev lp4:=jaj (jh1 (jjx je2 4))
noncomputable abbrev lb4:=jaj (jn1 (jjx je2 4))
noncomputable abbrev ls4:=jaj (jj3 (jjx je2 4))
section
local macro_rules (kind:=PyProof.Rows.tacticWalk_at_) | s=>jex "AJKL" s
def jb6 (h:Heap) (lam rl:Addr) (sec:Int):Prop :=
 ∃ qual pm c' ctv cl cr cs orr os t,h.get? lam=some (kla_obj "<lambda>" qual lp0 lb0 ls0 cl pm c' ctv)∧h.CodeRec (.ref c') qual ∧
  cl.lookup (ofString "rows")=some cr∧h.get? cr=some orr∧orr.data=.cell (some (.ref rl)) ∧
  cl.lookup (ofString "second")=some cs∧h.get? cs=some os∧os.data=.cell (some (.int sec t))
theorem ja6 {h h':Heap} {c q:_} (k:jaz h h') (x:h.CodeRec c q):h'.CodeRec c q:=by
 refine jmx x fun c oc vs t e ho hd hv=>?_
 try clear x
 exact (jc3 c oc vs t e (k _ _ ho (by unfold jak;rw [hd])) hd hv)
theorem jb6.keeps {h h':Heap} {lam rl:Addr} {sec:Int} (k:jaz h h') (x:jb6 h lam rl sec):jb6 h' lam rl sec:=by
 refine je8 x fun qual pm c' ctv cl cr cs orr zr18=>?_
 refine jkv zr18 fun os t h1 h2 h3 h4 h5 h6 h7 h8=>?_
 try clear x
 exact (jh4 qual pm c' ctv cl cr cs orr (jik os t (k _ _ h1 rfl) (ja6 k h2) h3 (k _ _ h4 (by unfold jak;rw [h5])) h5 h6 (k _ _ h7 (by unfold jak;rw [h8])) h8))
theorem jb6.fn {h:Heap} {lam rl:Addr} {sec:Int} (x:jb6 h lam rl sec):∃ o,h.get? lam=some o∧∃ fd,o.data=.func fd:=by
 refine je8 x fun qual pm c' ctv cl cr cs orr zr12=>?_
 refine je4 zr12 fun os t h1 _=>?_
 try clear x
 exact (iEAE _ h1 _ rfl)
section
variable {w:World} {mg mb:Str->Option Value} {hb:Heap} {s:Shared} {A:Around}
theorem jjw {lam rl:Addr} {sec:Int} {what name key one two three:Value} {n:Nat} {as:List Addr} {Post:Value->Heap->Prop} (B:jbw w mg mb hb) (S:Sub hb s.heap) (hC:jav A (n+1)) (P:jb6 s.heap lam rl sec)
  (sp:∀ s' A' t,Sub s.heap s'.heap->jav A' n->jb4 w A' s' (.call (.ref 369) ⟨[.ref rl,.int sec t,what,name,key,one,two,three],[]⟩) as Post) :
  jb4 w A s (.call (.ref lam) ⟨[what,name,key,one,two,three],[]⟩) as Post:=by
 intro R hR
 refine je8 P fun qual pm c' ctv cl cr cs orr zr18=>?_
 refine jkv zr18 fun os t h1 h2 h3 h4 h5 h6 h7 h8=>?_
 try clear P
 refine jj6 (news:=[]) (binds:=[("what", what),("name", name),("key", key),("one", one),("two", two),("three", three)])
  (bl:=[("three", three),("two", two),("one", one),("key", key),("name", name),("what", what)])
  B S (fun p hp=>nomatch hp) h1 h2 hC.room rfl (by kernel_rfl!) (by kernel_rfl!) ?_ (by kernel_rfl!) (by kernel_rfl!) (by kernel_rfl!) (by kernel_rfl!)
 intro g L' h₁ tk B' F N hg hs hl hS
 have KX:=B'.k
 have TR:=B'.t
 have g4:=hg _ _ h4 (by simp)
 have g7:=hg _ _ h7 (by simp)
 have hC':=hC.deeper (env:=envX qual ls0 L' lam (.ref c') cl)
 walk_at "GO"
 exact ja0 (sp _ _ t hS hC') fun v h' tk H P=>hR v h' tk (jb8.of_sub hS H) P
end
end
section
variable {prog:Program} {w:World} {A:Around} {E:Value->Shared->Prop} {s:Shared} {h₀:Heap} {L:Addr} {m:Str->Option Value} {news:List (Addr×Obj)}
theorem kqq {sl:Addr} {u:Tok} {Q:Int×Int×Nat->Shared->Prop} (hs:s.heap.IsSliceOf sl .none (.int 5 u) .none) (h:Q (0,1,5) s) :
  wpAny (model prog w) A (Builtin.Slice.sliceApplied (.ref sl) (pure (6:Int))) Q E s:=by
 refine jg2 (id hs) fun os hos hcs hds=>?_
 unfold Builtin.Slice.sliceApplied Builtin.Slice.sliceFields
 refine wpAny_bind (wpAny_bind (wpAny_field hos hds (x:=.none) rfl (wpAny_bind (wpAny_field hos hds (x:=.int 5 u) rfl (wpAny_bind (wpAny_field hos hds (x:=.none) rfl (wpAny_pure ?_)))))))
 refine wpAny_bind (slicePart_none ?_)
 show wpAny _ _ (if ((1:Int)==0)=true then _ else _) _ _ s
 rw [if_neg (by decide)]
 refine wpAny_bind (slicePart_none (wpAny_bind (slicePart_int (wpAny_bind (wpAny_pure ?_)))))
 exact wpAny_pure h
theorem get5 {t sl:Addr} {v0 v1 v2 v3 v4 v5:Value} {u:Tok} {Q:Value->Shared->Prop} (ht:IsTup s.heap t #[v0,v1,v2,v3,v4,v5]) (hs:s.heap.IsSliceOf sl .none (.int 5 u) .none)
  (h:Q (.ref s.heap.objs.size) { s with heap:=s.heap.push (jl7 #[v0,v1,v2,v3,v4]) }):wpAny (model prog w) A (getItem (.ref t) (.ref sl)) Q E s:=by
 have hd:sizeOk (.seq #[v0,v1,v2,v3,v4]):=by show 5≤sizeLine;rw [sizeLine_eq];walk_at "OM"
 refine jg2 (id hs) fun os hos hcs hds=>?_
 have hTs:s.TypeIs (.ref sl) "slice" := ⟨os,hos,hcs⟩
 unfold getItem
 try with_reducible refine wpAny_holding ?_
 first | refine wpAny_bind (wpAny_pure ?_) | skip
 refine wpAny_bind (wpAny_sequenceKey ht.typeIs (by decide) ?_)
 refine wpAny_bind (wpAny_callSpecial?_slot (name := "__getitem__") ht.typeIs slot_tuple_getitem
  (wpAny_call_entry slot_tuple_getitem ht.typeIs entry_tuple_getitem ?_ (args_tuple_getitem _ _)))
 show wpAny _ _ (Builtin.Tuple.tupleItemsOf (.ref t) >>= _) _ _ s
 refine wpAny_bind (tupleItemsOf_ ht ?_)
 refine wpAny_bind (wpAny_typeOf hTs ?_)
 rw [if_pos (by decide)]
 refine wpAny_bind (kqq hs ?_)
 show wpAny _ _ (if ((0:Int)==0&&(1:Int)==1&&(5:Nat)==6)=true then _ else _) _ _ s
 rw [if_neg (by decide)]
 have e:((List.range 5).filterMap fun (k:Nat)=>(#[v0,v1,v2,v3,v4,v5]:Array Value)[((0:Int)+(k:Int)*1).toNat]?).toArray=#[v0,v1,v2,v3,v4]:=rfl
 rw [e]
 first
  | exact wpAny_bind (m:=Builtin.Tuple.tupleExact _) (wpAny_newObj_type (wpAny_pure ⟨_,rfl,wpAny_pure h⟩) hd)
  | exact wpAny_bind (m:=Builtin.Tuple.tupleExact _) (wpAny_newObj_type (wpAny_bind (wpAny_pure (wpAny_pure ⟨_,rfl,wpAny_pure h⟩))) hd)
  | exact wpAny_bind (wpAny_bind (m:=Builtin.Tuple.tupleExact _) (wpAny_newObj_type (wpAny_pure (wpAny_pure ⟨_,rfl,wpAny_pure h⟩)) hd))
  | exact wpAny_bind (wpAny_bind (m:=Builtin.Tuple.tupleExact _) (wpAny_newObj_type (wpAny_pure ⟨_,rfl,wpAny_pure h⟩) hd))
theorem slice5 {value slice:Expr} {t:Addr} {v0 v1 v2 v3 v4 v5:Value} {u:Tok} {Q:Value->Shared->Prop}
  (F:Fr h₀ L s.heap m) (N:News h₀ L s.heap news) (ht:IsTup s.heap t #[v0,v1,v2,v3,v4,v5])
  (h:∀ D h',Fr h₀ L h' m->News h₀ L h' ((D,jl7 #[v0,v1,v2,v3,v4])::news)->(∀ p∈news,p.1<D)->Q (.ref D) { s with heap:=h' })
  (hs:subscripted slice false (.ref t) (.ref s.heap.objs.size)=operate [.ref s.heap.objs.size,.ref t] (getItem (.ref t) (.ref s.heap.objs.size)))
  (hg:∀ r,letTemporaryGo value (.ref t) r=pure ()) :
  wpAny (model prog w) A (subscriptTail value slice (.ref t) (.ref s.heap.objs.size)) Q E { s with heap:=s.heap.push { cls:=.type "slice", data:=.fields #[.none,.int 5 u,.none] } }:=by
 have ht':IsTup (s.heap.push { cls:=.type "slice", data:=.fields #[.none,.int 5 u,.none] }) t #[v0,v1,v2,v3,v4,v5]:=ht.keeps fun _ _ e=>Heap.get?_push_of_some _ e
 refine subscriptTail_ops (s:={ s with heap:=s.heap.push { cls:=.type "slice", data:=.fields #[.none,.int 5 u,.none] } }) ht'.typeIs slot_tuple_getitem.lookup
  (get5 ht' (Heap.IsSliceOf.new ..) ?_) hs hg
 have N1:=News.push (F.push { cls:=.type "slice", data:=.fields #[.none,.int 5 u,.none] }) (N.grown fun _ _ e=>Heap.get?_push_of_some _ e) (jl7 #[v0,v1,v2,v3,v4])
 exact h _ _ ((F.push _).push _) N1 fun p hp=>by
  rw [Heap.size_push]
  exact Nat.lt_succ_of_lt (Heap.lt_size (N p hp).1)
theorem jd8 (b c:Array UInt8) (t u:Tok):PySem.SeqAt.EqAt A s (.bytes b t) (.bytes c u) (b==c):=fun prog w E Q h=>by
 refine eqBool_bytes ?_
 have e:decide (b.toList=c.toList)=(b==c):=by
  rw [Bool.eq_iff_iff]
  simp [Array.toList_inj]
 rw [e];exact h
theorem eq5 {l b:Addr} {a0 a1 a2 a3 a4 b0 b1 b2 b3 b4:Array UInt8} {t0 t1 t2 t3 t4 u0 u1 u2 u3 u4:Tok} {Q:Value->Shared->Prop} (hu:A.units<cLine)
  (hl:s.heap.get? l=some (jl7 #[.bytes a0 t0,.bytes a1 t1,.bytes a2 t2,.bytes a3 t3,.bytes a4 t4])) (hb:s.heap.get? b=some (jl7 #[.bytes b0 u0,.bytes b1 u1,.bytes b2 u2,.bytes b3 u3,.bytes b4 u4]))
  (h:Q (.bool (a0==b0&&a1==b1&&a2==b2&&a3==b3&&a4==b4)) s):wpAny (model prog w) A (compareOp .Eq (.ref l) (.ref b)) Q E s:=by
 refine PySem.SeqAt.eq_tupleAt (e:=fun j=>([a0==b0,a1==b1,a2==b2,a3==b3,a4==b4]:List Bool).getD j true) ⟨_,hl,rfl,0,rfl⟩ ⟨_,hb,rfl,0,rfl⟩ hu ?_ ?_
 ·intro j h1 h2
  rcases j with _ | _ | _ | _ | _ | j
  ·exact jd8 _ _ _ _
  ·exact jd8 _ _ _ _
  ·exact jd8 _ _ _ _
  ·exact jd8 _ _ _ _
  ·exact jd8 _ _ _ _
  ·exact absurd h1 (Nat.not_lt_of_le (Nat.le_add_left 5 j))
 ·have e:((List.range (min (#[Value.bytes a0 t0,.bytes a1 t1,.bytes a2 t2,.bytes a3 t3,.bytes a4 t4]:Array Value).size (#[Value.bytes b0 u0,.bytes b1 u1,.bytes b2 u2,.bytes b3 u3,.bytes b4 u4]:Array Value).size)).all (fun j=>([a0==b0,a1==b1,a2==b2,a3==b3,a4==b4]:List Bool).getD j true)&&(#[Value.bytes a0 t0,.bytes a1 t1,.bytes a2 t2,.bytes a3 t3,.bytes a4 t4]:Array Value).size==(#[Value.bytes b0 u0,.bytes b1 u1,.bytes b2 u2,.bytes b3 u3,.bytes b4 u4]:Array Value).size)=(a0==b0&&a1==b1&&a2==b2&&a3==b3&&a4==b4):=by
   show ((a0==b0&&(a1==b1&&(a2==b2&&(a3==b3&&(a4==b4&&true)))))&&true)=_
   simp only [Bool.and_true,Bool.and_assoc]
  rw [e];exact h
end
theorem fl5:True:=by first|walk1|trivial
section
local macro_rules (kind:=PyProof.Rows.tacticWalk_at_) | s=>jex "AJKMHI" s
def jl2 (P:Prop):Prop:=P
theorem jl2.go {P:Prop} (h:P):jl2 P:=h
theorem jg4 {M:Model} {A:Around} {E:Value->Shared->Prop} {s:Shared} {env:Env} (k:Nat) {l:List Stmt} {Q:Flow->Shared->Prop}
  (h:wpAny M A (execs (l.take k) env) (fun f s'=>match f with | .next=>jl2 (wpAny M A (execs (l.drop k) env) Q E s') | f=>Q f s') E s):wpAny M A (execs l env) Q E s:=by
 rw [← List.take_append_drop k l]
 refine fun Γ p h0=>jlx (Sem.wp_mono M Γ _ (fun f p' s' q=>?_) (fun zz zz zz q=>q) p s (h Γ p h0))
 cases f with
 | next=>exact q Γ p' h0
 | _=>exact q
theorem jav.ud {A:Around} {n:Nat} {env:Env} (c:jav A (n+1)):(A.deeper env).units<cLine:=by have:=c.u;show A.units+3<_;walk_at "OM"
theorem kkq {α:Type} {p:α->Bool} {r:α}:∀ {l:List α} {i:Nat},l[i]?=some r->p r=true->(∀ x∈l.take i,p x=false)->l.find? p=some r
 | a::l,0,h,hp,_=>by
  rw [List.getElem?_cons_zero,Option.some.injEq] at h
  subst h
  rw [List.find?_cons,hp]
 | a::l,i+1,h,hp,hn=>by
  rw [List.getElem?_cons_succ] at h
  rw [List.find?_cons,hn a (by rw [List.take_succ_cons];exact .head _)]
  exact kkq h hp fun x hx=>hn x (by rw [List.take_succ_cons];exact .tail _ hx)
 | [],_,h,_,_=>by simp at h
noncomputable def jpk (l:List Stmt):List Stmt:=jb3 (l.headD noS)
noncomputable def jyx (l:List Stmt):Expr:=(unS (l.headD noS)).2.2.2.2
def jbv (h:Heap):List Value->List Row->Prop
 | [],[]=>True
 | v::vs,r::rs=>jvw h v r∧jbv h vs rs
 | _,_=>False
theorem jbv.len {h:Heap}:∀ {vs:List Value} {rs:List Row},jbv h vs rs->vs.length=rs.length
 | [],[],_=>rfl
 | _::_,_::_,x=>by rw [List.length_cons,List.length_cons,jbv.len x.2]
 | [],_::_,x=>x.elim
 | _::_,[],x=>x.elim
theorem jbv.at {h:Heap}:∀ {vs:List Value} {rs:List Row} {i:Nat} {v:Value},jbv h vs rs->vs[i]?=some v->∃ r,rs[i]?=some r∧jvw h v r
 | [],[],_,_,_,e=>by simp at e
 | v::vs,r::rs,0,_,x,e=>by
  simp only [List.getElem?_cons_zero,Option.some.injEq] at e
  subst e
  exact (iEA r rfl x.1)
 | v::vs,r::rs,i+1,w,x,e=>by
  simp only [List.getElem?_cons_succ] at e ⊢
  exact jbv.at x.2 e
 | [],_::_,_,_,x,_=>x.elim
 | _::_,[],_,_,x,_=>x.elim
theorem jbv.moved {h h':Heap} (k:∀ (b:Addr) (its:Array Value),h.get? b=some (jl7 its)->h'.get? b=some (jl7 its)):∀ {vs:List Value} {rs:List Row},jbv h vs rs->jbv h' vs rs
 | [],[],_=>trivial
 | _::_,_::_,x=>⟨by obtain ⟨a,t1,t2,t3,t4,t5,t6,e,q⟩:=x.1;exact (jcq a t1 t2 t3 t4 t5 t6 e (k _ _ q)),jbv.moved k x.2⟩
 | [],_::_,x=>x.elim
 | _::_,[],x=>x.elim
noncomputable def jh3 (name key one three two:Array UInt8) (r:Row):Bool:=r.name==name&&r.key==key&&r.one==one&&r.three==three&&r.sealed==two
section
variable {w:World} {mg mb:Str->Option Value} {hb:Heap} {s:Shared} {A:Around}
noncomputable abbrev envK (L':Addr):Env:=envOfC "_law_keys" jw2 L' 369 (.ref 368)
theorem kg1 {R:Result->Shared->Prop} {g:Heap} {L' rl I:Addr} {its:Array Value} {n:Nat} {rows:List Row} {name key one two three:Array UInt8} {sec:Value} {w2:Value} {t2 t3 t4 t5 t6:Tok} {o1 o2:Obj} (hC:jav A 2)
  (KX:(K w.params).In g) (TR:TopRead qv jdj mg mb g)
  (F:Fr g L' s.heap (fun y=>chain [("three", .bytes three t6),("two", .bytes two t5),("name", .bytes name t2),("what", w2),("second", sec),("rows", .ref rl)] y))
  (N:News g L' s.heap [(L'+2,o1),(L'+1,o2),(rl,listOf its n)]) (d1:o1.data=.cell (some (.bytes one t4))) (d2:o2.data=.cell (some (.bytes key t3))) (hl1:@LT.lt Nat instLTNat rl L')
  (hrg:jbv g its.toList rows) (hI:s.heap.IsListIter I rl 0) (hIL:@LT.lt Nat instLTNat (L'+2) I) (hIg:g.get? I=none)
  (h1:∀ r h' tk t m',rows.find? (jh3 name key one three two)=some r->Fr g L' h' m'->News g L' h' [(rl,listOf its n)]->R (.ok (.ret (.bytes r.two t))) { s with heap:=h',toks:=tk })
  (h2:∀ h' tk m',rows.find? (jh3 name key one three two)=none->Fr g L' h' m'->News g L' h' [(rl,listOf its n)]->R (.ok .next) { s with heap:=h',toks:=tk }) :
  codeAny (model pw w) (A.deeper (envK L')) (.forLoop (jyx (jvx.drop 3)) (.ref I) (jpk (jvx.drop 3)) [] (envK L')) R s:=by
 refine openA A hC fun dp fr un hC=>?_
 have hne:rl≠I:=by intro e;subst e;exact Nat.lt_irrefl _ (Nat.lt_trans hl1 (Nat.lt_of_le_of_lt (Nat.le_add_right _ 2) hIL))
 conv in jyx _=>whnf
 conv in jpk _=>whnf
 refine codeAny_forLoop_fr3 (h₀:=g) (n:=its.size) (news:=[(L'+2,o1),(L'+1,o2),(rl,listOf its n)]) (Walks.list rfl I rl hne its) (by kernel_rfl!) rfl ?_ ?_ ?_ ⟨hI,News.isList N (by k_mem)⟩ F N
  (fun i m' nw=>nw=[(L'+2,o1),(L'+1,o2),(rl,listOf its n)]∧(∃ r0,m'=fun y=>if y=ofString "row" then r0 else chain [("three", .bytes three t6),("two", .bytes two t5),("name", .bytes name t2),("what", w2),("second", sec),("rows", .ref rl)] y)∧∀ r∈rows.take i,jh3 name key one three two r=false)
  (iAA rfl ⟨none,?_⟩ (fun r hr=>by simp at hr)) ?_ ?_
 ·intro hm
  rcases List.mem_cons.mp hm with e | hm
  ·have e':L'=I:=e
   rw [e'] at hIL
   exact absurd hIL (by intro h;exact Nat.lt_irrefl _ (Nat.lt_of_le_of_lt (Nat.le_add_right _ 2) h))
  ·have e':L'=rl:=List.mem_singleton.mp hm
   rw [e'] at hl1
   exact Nat.lt_irrefl _ hl1
 ·intro b hb
  rw [List.mem_singleton.mp hb];exact hIg
 ·intro p hp hm
  have e:=List.mem_singleton.mp hm
  rcases List.mem_cons.mp hp with rfl | hp
  ·exact Nat.ne_of_lt hIL e
  rcases List.mem_cons.mp hp with rfl | hp
  ·exact Nat.ne_of_lt (Nat.lt_trans (Nat.lt_succ_self _) hIL) e
  ·rw [List.mem_singleton.mp hp] at e
   exact hne e
 ·funext y
  by_cases hy:y=ofString "row"
  ·subst hy
   simp only [chain,je5,String.reduceEq,reduceIte]
  ·rw [if_neg hy]
 ·intro i v m₁ news₁ s₁ own hs1 hi hP hJ hmap hown1 hown2 F1 N1
  refine xEE hs1 fun h tk zq160=>?_
  try clear hs1
  obtain rfl:=zq160
  refine xAA hJ fun zq158 zq159 hno=>?_
  try clear hJ
  obtain rfl:=zq158
  obtain ⟨r0,rfl⟩:=zq159
  refine jv5 (jbv.at hrg (show its.toList[i]?=some v by simpa using hP)) fun r hri a u1 u2 u3 u4 u5 u6 zq157 ha=>?_
  obtain rfl:=zq157
  have F2:Fr g L' h (fun y=>if y=ofString "row" then some (.ref a) else chain [("three", .bytes three t6),("two", .bytes two t5),("name", .bytes name t2),("what", w2),("second", sec),("rows", .ref rl)] y):=by
   refine Eq.mp (congrArg (Fr g L' h) ?_) F1
   funext y
   by_cases hy:y=ofString "row"
   ·simp only [if_pos hy]
   ·simp only [if_neg hy]
  have N2:News g L' h ((L'+2,o1)::(L'+1,o2)::(rl,listOf its n)::own):=fun p hp=>N1 p (by simp only [List.mem_append,List.mem_cons] at hp ⊢;rcases hp with h | h | h | h <;> simp [h])
  clear F1 N1 hown1 hown2 hmap
  repeat' (first | (walk1;try dsimp only) | fail "no step")
  ·rename_i h5 F5 N5 l5 hq
   exact h1 r h5 _ _ _ (kkq hri hq hno) F5 fun p hp=>N5 p (by rw [List.mem_singleton.mp hp];exact .tail _ me3)
  ·rename_i h5 F5 N5 l5 hq
   refine LoopStep3.next (LoopStep2.intro F5 (news₂:=[(L'+2,o1),(L'+1,o2),(rl,listOf its n)]) (fun p hp=>N5 p ?_) rfl (iAA rfl ⟨some (.ref a),rfl⟩ (fun x hx=>?_)))
   ·simp only [List.mem_append,List.mem_cons,List.not_mem_nil,or_false] at hp ⊢
    rcases hp with h | h | h | h <;> simp [h]
   ·rw [List.take_add_one,hri] at hx
    rcases List.mem_append.mp hx with hx | hx
    ·exact hno x hx
    ·rw [List.mem_singleton.mp (show x∈[r] from hx)];exact hq
 ·intro h' tk m' news' F' N' hmap hJ
  refine xAA hJ fun zq156 _ hno=>?_
  try clear hJ
  obtain rfl:=zq156
  refine h2 h' tk m' ?_ F' (fun p hp=>N' p (mt2 hp))
  have e:its.size=rows.length:=by have:=jbv.len hrg;simpa using this
  rw [e,List.take_length] at hno
  rw [List.find?_eq_none]
  intro x hx hc
  rw [hno x hx] at hc
  cases hc
end
end
theorem fl6:True:=by first|walk1|trivial
section
local macro_rules (kind:=PyProof.Rows.tacticWalk_at_) | s=>jex "AJK" s
section
variable {w:World} {mg mb:Str->Option Value} {hb:Heap} {s:Shared} {A:Around}
theorem jbv.keeps {h h':Heap} (k:jaz h h') {vs:List Value} {rs:List Row} (x:jbv h vs rs):jbv h' vs rs:=jbv.moved (fun _ _ e=>k _ _ e rfl) x
theorem kh7 {sec:Int} {rl:Addr} {its:Array Value} {n:Nat} {rows:List Row} {name key one two three:Array UInt8} {t0 t1 t2 t3 t4 t5 t6:Tok} (B:jbw w mg mb hb) (S:Sub hb s.heap) (hC:jav A 3)
  (hr:s.heap.get? rl=some (listOf its n)) (hrb:hb.get? rl=none) (hrows:jbv s.heap its.toList rows) :
  jb4 w A s (.call (.ref 369) ⟨[.ref rl,.int sec t0,.str "open" t1,.bytes name t2,.bytes key t3,.bytes one t4,.bytes two t5,.bytes three t6],[]⟩) []
   (fun v _=>(∃ r t,rows.find? (jh3 name key one three two)=some r∧v=.bytes r.two t)∨(rows.find? (jh3 name key one three two)=none∧v=.none)):=by
 intro R hR
 refine openA A hC fun dp fr un hC=>?_
 have hN:Has hb s.heap [(rl,listOf its n)]:=fun p hp=>by obtain rfl:=List.mem_singleton.mp hp;exact ⟨hr,hrb⟩
 refine jhq (news:=[(rl,listOf its n)]) (binds:=[("rows", .ref rl),("second", .int sec t0),("what", .str "open" t1),("name", .bytes name t2),("key", .bytes key t3),("one", .bytes one t4),("two", .bytes two t5),("three", .bytes three t6)])
  (bl:=[("three", .bytes three t6),("two", .bytes two t5),("name", .bytes name t2),("what", .str "open" t1),("second", .int sec t0),("rows", .ref rl)])
  (bc:=[("one", .bytes one t4),("key", .bytes key t3)])
  (cs:=fun L=>[("one", L+2),("key", L+1)])
  B S hN (by k_is) (by k_is) hC.room (BindsTo.of_eq rfl) (by kernel_rfl!) (by decide +kernel) (by kernel_rfl!) (by kernel_rfl!) (by intro L;kernel_rfl!) ?_ (by kernel_rfl!) (by kernel_rfl!) (by kernel_rfl!)
 intro g L' h₁ tk cells B' F N Y hg hs hl
 have KX:=B'.k
 have TR:=B'.t
 refine jl5 (CellsAre.two Y) fun o1 o2 zq168 d1 d2=>?_
 obtain rfl:=zq168
 clear Y
 simp only [List.cons_append,List.nil_append] at N
 replace d1:=jd9 d1 (by walk_at "LKd")
 replace d2:=jd9 d2 (by walk_at "LKd")
 have hl1:@LT.lt Nat instLTNat rl L':=hl _ (.head _)
 have hrg:jbv g its.toList rows:=jbv.keeps (toG hN hg fun p hp=>by obtain rfl:=List.mem_singleton.mp hp;rfl) hrows
 have fin:∀ h',News g L' h' [(rl,listOf its n)]->(∀ b o,g.get? b=some o->h'.get? b=some o)->jb8 s.heap [] h':=fun h' N' k b o e _=>by
  by_cases hb:b=rl
  ·subst hb
   rw [hr] at e;cases e
   exact (N' _ (.head _)).1
  ·exact k b o (hg b o e fun q=>hb (List.mem_singleton.mp q))
 refine jg4 3 ?_
 simp only [jvx,List.take_succ_cons,List.take_zero,List.drop_succ_cons,List.drop_zero]
 walk_at "GO"
 refine jl2.go ?_
 refine wpAny_execs_cons (wpAny_For ?_)
 walk1
 try dsimp only
 refine wpAny_pyIter_list (News.isList (by k_asm) (by k_mem)) ?_
 have N2:=N.push F { cls:=.type "list_iterator", data:=.fields #[.ref rl,.int 0 0] }
 have F2:=F.push { cls:=.type "list_iterator", data:=.fields #[.ref rl,.int 0 0] }
 have lt2:@LT.lt Nat instLTNat (L'+2) h₁.objs.size:=Heap.lt_size (N (L'+2,o1) (.head _)).1
 refine kg1 (rows:=rows) (name:=name) (key:=key) (one:=one) (two:=two) (three:=three) (its:=its) (n:=n) (t4:=t4) (t3:=t3) (hC.le (by decide)) KX TR F2 (fun p hp=>N2 p (.tail _ hp)) d1 d2 hl1 hrg (jjv _ (Heap.get?_push_size _ rfl) rfl rfl) lt2 ?_ ?_ ?_
 ·cases q:g.get? h₁.objs.size with
  | none=>rfl
  | some o=>exact absurd (Heap.lt_size (F.keep _ _ q)) (Nat.lt_irrefl _)
 ·intro r h' tk' t m' hf F' N'
  exact hR _ _ _ (fin _ N' F'.keep) (.inl (jhj r t hf rfl))
 ·intro h' tk' m' hf F' N'
  show wpAny _ _ _ _ _ _
  walk_at "GO"
  exact hR _ _ _ (fin _ (by assumption) (Fr.keep (by assumption))) (.inr ⟨hf,rfl⟩)
end
end
theorem fl7:True:=by first|walk1|trivial
section
local macro_rules (kind:=PyProof.Rows.tacticWalk_at_) | s=>jex "ANJOPGHE" s
section
variable {w:World} {mg mb:Str->Option Value} {hb:Heap} {s:Shared} {A:Around}
theorem kn0 {lam rl:Addr} {sec k:Int} {lab:Nat} {name two:Value} {key one:Array UInt8} {t1 t2 t3 t4:Tok} (B:jbw w mg mb hb) (S:Sub hb s.heap) (hC:jav A 4) (P:jb6 s.heap lam rl sec)
  (hsec:sec=0∨sec=1) (hn:natBE key<2 ^ 64) (hk:k≤64) (hk4:12≤k) (hlab:lab<4) (hone:one=kx2 sec lab) :
  jb4 w A s (.call (.ref lam) ⟨[.str "expand" t1,name,.bytes key t2,.bytes one t3,two,.int k t4],[]⟩) [] (fun v zz=>∃ t,v=.bytes (BE k.toNat (labN lab (natBE key))) t):=by
 refine jjw B S hC P fun s' A' t hS hC'=>?_
 by_cases h:lab<3
 ·rw [show labN lab (natBE key)=4*natBE key+lab from if_pos h]
  exact kdw B (Sub.trans' S hS) hC' hsec hn hk hk4 h hone
 ·obtain rfl:lab=3:=by omega
  exact kk5 B (Sub.trans' S hS) hC' hsec hn hk hk4 hone
theorem kgq {lam rl:Addr} {sec:Int} {name two three:Value} {key one:Array UInt8} {t1 t2 t3:Tok} (B:jbw w mg mb hb) (S:Sub hb s.heap) (hC:jav A 4) (P:jb6 s.heap lam rl sec)
  (hk:0<key.size) (hk2:key.size≤1000) (ho:one.size≤1000) :
  jb4 w A s (.call (.ref lam) ⟨[.str "mask" t1,name,.bytes key t2,.bytes one t3,two,three],[]⟩) [] (fun v zz=>∃ t,v=.bytes (jg8 key one) t) :=
 jjw B S hC P fun s' A' t hS hC'=>kh8 B (Sub.trans' S hS) hC' hk hk2 ho
theorem jbz {h h':Heap} {a:Addr} (S:Sub h h') (e:h'.get? a=none):h.get? a=none:=by
 cases q:h.get? a with
 | none=>rfl
 | some o=>rw [S _ _ q] at e;cases e
theorem kf8 {lam rl:Addr} {sec:Int} {its:Array Value} {n:Nat} {name key one two three:Array UInt8} {t1 t2 t3 t4 t5 t6:Tok} (B:jbw w mg mb hb) (S:Sub hb s.heap) (hC:jav A 4) (P:jb6 s.heap lam rl sec)
  (hr:s.heap.get? rl=some (listOf its n)) (hrb:hb.get? rl=none) (hz:its.size≤1000) (h2:two.size≤1000) :
  jb4 w A s (.call (.ref lam) ⟨[.str "seal" t1,.bytes name t2,.bytes key t3,.bytes one t4,.bytes two t5,.bytes three t6],[]⟩) [rl]
   (fun v h'=>∃ t tp,v=.bytes (two++BE 16 (its.size+1)) t∧s.heap.get? tp=none∧h'.get? rl=some (listOf (its.push (.ref tp)) (n+1))∧jvw h' (.ref tp) ⟨name,key,one,three,two++BE 16 (its.size+1),two⟩) :=
 jjw B S hC P fun s' A' t hS hC'=>jiw (kh6 B (Sub.trans' S hS) hC' (hS _ _ hr) hrb hz h2) (fun zz h=>h) fun v h' zz p=>jl5 p fun t tp h1 h2 h3=>⟨t,tp,h1,jbz hS h2,h3⟩
theorem kf9 {lam rl:Addr} {sec:Int} {its:Array Value} {n:Nat} {rows:List Row} {name key one two three:Array UInt8} {t1 t2 t3 t4 t5 t6:Tok} (B:jbw w mg mb hb) (S:Sub hb s.heap) (hC:jav A 4) (P:jb6 s.heap lam rl sec)
  (hr:s.heap.get? rl=some (listOf its n)) (hrb:hb.get? rl=none) (hrows:jbv s.heap its.toList rows) :
  jb4 w A s (.call (.ref lam) ⟨[.str "open" t1,.bytes name t2,.bytes key t3,.bytes one t4,.bytes two t5,.bytes three t6],[]⟩) []
   (fun v zz=>(∃ r t,rows.find? (jh3 name key one three two)=some r∧v=.bytes r.two t)∨(rows.find? (jh3 name key one three two)=none∧v=.none)) :=
 jjw B S hC P fun s' A' t hS hC'=>kh7 B (Sub.trans' S hS) hC' (hS _ _ hr) hrb (jbv.keeps (jaz.of_sub hS) hrows)
theorem hkdf {lam rl:Addr} {sec k:Int} {lab:Nat} {alg hash:Value} {key one:Array UInt8} {t2 t3 t4:Tok} (B:jbw w mg mb hb) (S:Sub hb s.heap) (hC:jav A 5) (P:jb6 s.heap lam rl sec)
  (hsec:sec=0∨sec=1) (hn:natBE key<2 ^ 64) (hk:k≤64) (hk4:12≤k) (hlab:lab<4) (hone:one=kx2 sec lab) :
  jb4 w A s (.call (.ref 174) ⟨[.ref lam,alg,.bytes key t2,.bytes one t3,hash,.int k t4],[]⟩) [] (fun v zz=>∃ t,v=.bytes (BE k.toNat (labN lab (natBE key))) t):=by
 intro R hR
 refine openA A hC fun dp fr un hC=>?_
 refine xEAE P.fn fun ol hol fd hfd=>?_
 refine jcj (news:=[]) (binds:=[("primitives", .ref lam),("algorithm", alg),("secret", .bytes key t2),("label", .bytes one t3),("hash_value", hash),("length", .int k t4)]) (bl:=[("length", .int k t4),("hash_value", hash),("label", .bytes one t3),("secret", .bytes key t2),("algorithm", alg),("primitives", .ref lam)])
  B S (fun p hp=>nomatch hp) (by k_is) (by k_is) hC.room (BindsTo.of_eq rfl) (by kernel_rfl!) (by kernel_rfl!) ?_ (by kernel_rfl!) (by kernel_rfl!) (by kernel_rfl!) (by kernel_rfl!)
 intro g L' h₁ tk B' F N hg hs hl
 have KX:=B'.k
 have TR:=B'.t
 have gl:=hg _ _ hol (by simp)
 walk_at "GO"
 exact ja0 (kn0 B' (Fr.keep F) (hC.deeper) (P.keeps (jaz.of_sub fun b o e=>F.keep b o (hg b o e noN))) hsec hn hk hk4 hlab hone) fun v h' tk H p=>hR v h' tk (fun b o e n=>H b o (F.keep b o (hg b o e noN)) n) p
theorem csh {c:Int} {k:Tok} (B:jbw w mg mb hb) (S:Sub hb s.heap) (hC:jav A 1) :
  jb4 w A s (.call (.ref 167) ⟨[.int c k],[]⟩) [] (fun v zz=>∃ k,v=.int (if c=4866 then 48 else 32) k):=by
 intro R hR
 refine openA A hC fun dp fr un hC=>?_
 refine jcj (news:=[]) (binds:=[("cipher_suite", .int c k)]) (bl:=[("cipher_suite", .int c k)])
  B S (fun p hp=>nomatch hp) (by k_is) (by k_is) hC.room (BindsTo.of_eq rfl) (by kernel_rfl!) (by kernel_rfl!) ?_ (by kernel_rfl!) (by kernel_rfl!) (by kernel_rfl!) (by kernel_rfl!)
 intro g L' h₁ tk B' F N hg hs hl
 have KX:=B'.k
 have TR:=B'.t
 walk_at "GO"
 all_goals refine hR _ _ _ ?_ ?_
 all_goals first | exact ja5 hg (by assumption) | skip
 ·exact ⟨_,congrArg (Value.int · _) (if_pos (by assumption)).symm⟩
 ·exact ⟨_,congrArg (Value.int · _) (if_neg (by assumption)).symm⟩
end
end
theorem fl8:True:=by first|walk1|trivial
section
local macro_rules (kind:=PyProof.Rows.tacticWalk_at_) | s=>jex "AJOPGHEQRSDT" s
theorem jfq {hb h g h':Heap} {L:Addr} {m:Str->Option Value} {news news':List (Addr×Obj)} (N:Has hb h news) (hg:∀ b o,h.get? b=some o->b∉news.map (·.1)->g.get? b=some o) (F:Fr g L h' m) (N':News g L h' news') (hs:∀ p∈news,p∈news'):Sub h h':=fun b o e=>by
 by_cases hm:b∈news.map (·.1)
 ·refine xEA (List.mem_map.mp hm) fun p hp zq152=>?_
  obtain rfl:=zq152
  have:=(N p hp).1
  rw [e] at this;cases this
  exact (N' p (hs p hp)).1
 ·exact F.keep b o (hg b o e hm)
noncomputable abbrev nmA:Array UInt8:=#[97,101,115,45,49,50,56,45,103,99,109]
noncomputable abbrev nmB:Array UInt8:=#[97,101,115,45,50,53,54,45,103,99,109]
noncomputable abbrev nmC:Array UInt8:=#[99,104,97,99,104,97,50,48,45,112,111,108,121,49,51,48,53]
noncomputable abbrev hmA:Array UInt8:=#[97,101,115,45,49,50,56,45,101,99,98]
noncomputable abbrev hmB:Array UInt8:=#[97,101,115,45,50,53,54,45,101,99,98]
noncomputable abbrev hmC:Array UInt8:=#[99,104,97,99,104,97,50,48]
noncomputable def jlv (l:List Tok):Nat->Tok:=fun i=>l.getD i 0
theorem notin3 {prog:Program} {w:World} {A:Around} {E:Value->Shared->Prop} {s:Shared} {l:Addr} {x b1 b2 b3:Array UInt8} {t u1 u2 u3:Tok} {Q:Value->Shared->Prop}
  (hl:s.heap.get? l=some (jl7 #[.bytes b1 u1,.bytes b2 u2,.bytes b3 u3])) (hx:x=b1∨x=b2∨x=b3) (h:Q (.bool false) s):wpAny (model prog w) A (compareOp .NotIn (.bytes x t) (.ref l)) Q E s:=by
 refine PySem.SeqAt.notIn_tupleAt (fun y=>match y with | .bytes b _=>b==x | _=>false) (kx7 _ hl rfl 0 rfl) (fun y hy=>?_) ?_
 ·simp only [Array.mem_def,List.mem_cons,List.not_mem_nil,or_false] at hy
  rcases hy with rfl | rfl | rfl <;> exact jd8 _ _ _ _
 ·have e:(!(#[Value.bytes b1 u1,.bytes b2 u2,.bytes b3 u3]:Array Value).any fun y=>match y with | .bytes b _=>b==x | _=>false)=false:=by
   rcases hx with rfl | rfl | rfl <;> simp -iota only [List.any_toArray,List.any_cons,List.any_nil] <;> dsimp only <;> simp
  rw [e];exact h
section
variable {w:World} {mg mb:Str->Option Value} {hb:Heap} {s:Shared} {A:Around}
theorem kl9 {x d:Addr} {name iv:Array UInt8} {key prim:Value} {t1 t2:Tok} (B:jbw w mg mb hb) (S:Sub hb s.heap) (hC:jav A 1)
  (hx:s.heap.get? x=some (instObj 72 d)) (hd:s.heap.get? d=some (dictOf [] 0)) (hdb:hb.get? d=none) (hname:name=nmA∨name=nmB∨name=nmC) (hiv:iv.size=12) (hiv2:natBE iv<2 ^ 64) :
  jb4 w A s (.call (.ref 48) ⟨[.ref x,.bytes name t1,key,.bytes iv t2,prim],[]⟩) [d] (fun v h'=>v=.none∧∃ T u1,h'.get? d=some (jx2 w.params T (.bytes name t1) key prim (.int (natBE iv:Int) u1))):=by
 intro R hR
 refine openA A hC fun dp fr un hC=>?_
 have hN:Has hb s.heap [(d,dictOf [] 0)]:=fun p hp=>by obtain rfl:=List.mem_singleton.mp hp;exact ⟨hd,hdb⟩
 refine jcj (news:=[(d,dictOf [] 0)]) (binds:=[("self", .ref x),("cipher_name", .bytes name t1),("key", key),("iv", .bytes iv t2),("primitives", prim)]) (bl:=[("primitives", prim),("iv", .bytes iv t2),("key", key),("cipher_name", .bytes name t1),("self", .ref x)])
  B S hN (by k_is) (by k_is) hC.room (BindsTo.of_eq rfl) (by kernel_rfl!) (by kernel_rfl!) ?_ (by kernel_rfl!) (by kernel_rfl!) (by kernel_rfl!) (by kernel_rfl!)
 intro g L' h₁ tk B' F N hg hs hl
 have KX:=B'.k
 have TR:=B'.t
 have hl1:@LT.lt Nat instLTNat d L':=hl _ (.head _)
 have gx:=hg _ _ hx (fun q=>jh0 hx hd rfl (List.mem_singleton.mp q))
 walk_at "GO"
 ·exfalso;walk_at "OM"
 ·rename_i h5 F5 N5
  exact hR _ _ _ (ja5 hg F5) (iAEE rfl (jlv [_,_,_,_]) _ (N5.get me2))
theorem kyq {x d:Addr} {name:Array UInt8} {key prim:Value} {t1:Tok} (B:jbw w mg mb hb) (S:Sub hb s.heap) (hC:jav A 1)
  (hx:s.heap.get? x=some (instObj 114 d)) (hd:s.heap.get? d=some (dictOf [] 0)) (hdb:hb.get? d=none) (hname:name=hmA∨name=hmB∨name=hmC) :
  jb4 w A s (.call (.ref 90) ⟨[.ref x,.bytes name t1,key,prim],[]⟩) [d] (fun v h'=>v=.none∧∃ T,h'.get? d=some (hpD w.params T (.bytes name t1) key prim)):=by
 intro R hR
 refine openA A hC fun dp fr un hC=>?_
 have hN:Has hb s.heap [(d,dictOf [] 0)]:=fun p hp=>by obtain rfl:=List.mem_singleton.mp hp;exact ⟨hd,hdb⟩
 refine jcj (news:=[(d,dictOf [] 0)]) (binds:=[("self", .ref x),("cipher_name", .bytes name t1),("key", key),("primitives", prim)]) (bl:=[("primitives", prim),("key", key),("cipher_name", .bytes name t1),("self", .ref x)])
  B S hN (by k_is) (by k_is) hC.room (BindsTo.of_eq rfl) (by kernel_rfl!) (by kernel_rfl!) ?_ (by kernel_rfl!) (by kernel_rfl!) (by kernel_rfl!) (by kernel_rfl!)
 intro g L' h₁ tk B' F N hg hs hl
 have KX:=B'.k
 have TR:=B'.t
 have hl1:@LT.lt Nat instLTNat d L':=hl _ (.head _)
 have gx:=hg _ _ hx (fun q=>jh0 hx hd rfl (List.mem_singleton.mp q))
 walk_at "GO"
 rename_i h5 F5 N5
 exact hR _ _ _ (ja5 hg F5) (iAE rfl (jlv [_,_,_]) (N5.get me1))
theorem jvz {x y:Int} (hx:0≤x) (hy:0≤y):0≤bitXor x y∧bitXor x y≤x+y:=by
 rw [bitXor_and,bitAnd_pp hx hy]
 have h1:x.toNat &&& y.toNat≤x.toNat:=Nat.and_le_left
 have h2:x.toNat &&& y.toNat≤y.toNat:=Nat.and_le_right
 walk_at "OM"
theorem kex {x d:Addr} {T:Nat->Tok} {name key prim:Value} {iv pn:Int} {t1 t2:Tok} (B:jbw w mg mb hb) (S:Sub hb s.heap) (hC:jav A 1)
  (hx:s.heap.get? x=some (instObj 72 d)) (hd:s.heap.get? d=some (jx2 w.params T name key prim (.int iv t1))) (h0:0≤iv∧iv<2 ^ 64) (h1:0≤pn∧pn<2 ^ 64) :
  jb4 w A s (.call (.ref 69) ⟨[.ref x,.int pn t2],[]⟩) [] (fun v h'=>∃ t,v=.bytes (BE 12 (bitXor iv pn).toNat) t):=by
 intro R hR
 have hxr:=jvz h0.1 h1.1
 have hxr1:=hxr.1
 have hxr2:bitXor iv pn<2 ^ 96:=by walk_at "OM"
 clear hxr
 refine openA A hC fun dp fr un hC=>?_
 refine jcj (news:=[]) (binds:=[("self", .ref x),("packet_number", .int pn t2)]) (bl:=[("packet_number", .int pn t2),("self", .ref x)])
  B S (fun p hp=>nomatch hp) (by k_is) (by k_is) hC.room (BindsTo.of_eq rfl) (by kernel_rfl!) (by kernel_rfl!) ?_ (by kernel_rfl!) (by kernel_rfl!) (by kernel_rfl!) (by kernel_rfl!)
 intro g L' h₁ tk B' F N hg hs hl
 have KX:=B'.k
 have TR:=B'.t
 have gx:=hg _ _ hx (by simp)
 have gd:=hg _ _ hd (by simp)
 walk_at "GO"
 exact hR _ _ _ (ja5 hg F) ⟨_,rfl⟩
theorem kqx {x d lam rl:Addr} {sec:Int} {its:Array Value} {n:Nat} {T:Nat->Tok} {name key data ad:Array UInt8} {iv pn:Int} {t1 t2 t3 t4 t5 t6:Tok} (B:jbw w mg mb hb) (S:Sub hb s.heap) (hC:jav A 5) (P:jb6 s.heap lam rl sec)
  (hx:s.heap.get? x=some (instObj 72 d)) (hd:s.heap.get? d=some (jx2 w.params T (.bytes name t3) (.bytes key t4) (.ref lam) (.int iv t1))) (h0:0≤iv∧iv<2 ^ 64) (h1:0≤pn∧pn<2 ^ 64)
  (hr:s.heap.get? rl=some (listOf its n)) (hrb:hb.get? rl=none) (hz:its.size≤1000) (h2:data.size≤1000) :
  jb4 w A s (.call (.ref 62) ⟨[.ref x,.bytes data t5,.bytes ad t6,.int pn t2],[]⟩) [rl]
   (fun v h'=>∃ t tp,v=.bytes (data++BE 16 (its.size+1)) t∧s.heap.get? tp=none∧h'.get? rl=some (listOf (its.push (.ref tp)) (n+1))∧jvw h' (.ref tp) ⟨name,key,BE 12 (bitXor iv pn).toNat,ad,data++BE 16 (its.size+1),data⟩):=by
 intro R hR
 refine openA A hC fun dp fr un hC=>?_
 refine xEAE P.fn fun ol hol fd hfd=>?_
 have hN:Has hb s.heap [(rl,listOf its n)]:=fun p hp=>by obtain rfl:=List.mem_singleton.mp hp;exact ⟨hr,hrb⟩
 refine jcj (news:=[(rl,listOf its n)]) (binds:=[("self", .ref x),("data", .bytes data t5),("associated_data", .bytes ad t6),("packet_number", .int pn t2)]) (bl:=[("packet_number", .int pn t2),("associated_data", .bytes ad t6),("data", .bytes data t5),("self", .ref x)])
  B S hN (by k_is) (by k_is) hC.room (BindsTo.of_eq rfl) (by kernel_rfl!) (by kernel_rfl!) ?_ (by kernel_rfl!) (by kernel_rfl!) (by kernel_rfl!) (by kernel_rfl!)
 intro g L' h₁ tk B' F N hg hs hl
 have KX:=B'.k
 have TR:=B'.t
 have TG:jaz s.heap g:=toG hN hg fun p hp=>by obtain rfl:=List.mem_singleton.mp hp;rfl
 have gx:=TG _ _ hx rfl
 have gd:=TG _ _ hd rfl
 have gl:=TG _ _ hol (by unfold jak;rw [hfd])
 have P':=P.keeps TG
 walk_at "GO"
 rename_i F5 N5 _
 exact ja0 (kf8 B' (Fr.keep F5) (hC.deeper) (P'.keeps (jaz.of_sub F5.keep)) (N5.get (.head _)) (N5.fresh (.head _)) hz h2) fun v h' tk H p=>by
  refine jl5 p fun t tp p1 p2 p3=>?_
  try clear p
  exact hR v h' tk (jb8.of_sub (jfq hN hg F5 N5 (by simp)) H) (ki0 t tp p1 (jbz (jfq hN hg F5 N5 (by simp)) p2) p3)
end
end
theorem fl9:True:=by first|walk1|trivial
section
local macro_rules (kind:=PyProof.Rows.tacticWalk_at_) | s=>jex "ANJOPGHEQRTU" s
structure Fly (A:Around) (base:Heap) (outer:List Env) (h:Heap):Prop where
 st:A.frames=some outer
 sub:Sub base h
 fr:h.FunFrames base outer
theorem Fly.later {A:Around} {base:Heap} {outer:List Env} {h h':Heap} (x:Fly A base outer h) (k:Sub h h'):Fly A base outer h':=⟨x.st,Sub.trans' x.sub k,x.fr.of_keeps fun b o e zz=>(iEA o (k b o e) rfl)⟩
theorem Fly.push {A:Around} {base g:Heap} {outer:List Env} {h:Heap} {env:Env} {L:Addr} {m:Str->Option Value} (x:Fly A base outer h) (F:Fr g L h m) (hn:base.get? L=none) (hf:env.frame=some L) (hk:env.scope.kind=.function):Fly (A.deeper env) base (env::outer) h :=
 ⟨Around.frames_deeper x.st,x.sub,.cons (by rw [hk];decide) hf F.ns hn x.fr⟩
def jv0 (w:World) (A:Around) (s:Shared) (c:Code) (as:List Addr) (Post:Value->Heap->Prop) (C:Value) (base:Heap) (outer:List Env) (Cond:Prop):Prop :=
 ∀ R:Result->Shared->Prop,(∀ v h' tk,jb8 s.heap as h'->Post v h'->R (.ok (.ret v)) { s with heap:=h',toks:=tk }) →
  (∀ e a0 h' tk,Cond->Heap.FlyingW base outer e C a0 h'->s.heap.UpToSlots h'->R (.error (.ref e)) { s with heap:=h',toks:=tk })->codeAny (model pw w) A c R s
theorem jfj {w:World} {A:Around} {s:Shared} {f:Addr} {pos:List Value} {kw:List (Str×Value)} {as:List Addr} {Post:Value->Heap->Prop} {C:Value} {base:Heap} {outer:List Env} {Cond:Prop} {E:Value->Shared->Prop} {Q:Value->Shared->Prop} (sp:jv0 w A s (.call (.ref f) ⟨pos,kw⟩) as Post C base outer Cond)
  (h:∀ v h' tk,jb8 s.heap as h'->Post v h'->Q v { s with heap:=h',toks:=tk })
  (hE:∀ e a0 h' tk,Cond->Heap.FlyingW base outer e C a0 h'->s.heap.UpToSlots h'->E (.ref e) { s with heap:=h',toks:=tk }):wpAny (model pw w) A (call (.ref f) pos kw) Q E s :=
 wpAny_call (sp _ (fun v h' tk H P=>h v h' tk H P) (fun e a0 h' tk c x u=>hE e a0 h' tk c x u))
theorem js8 {w:World} {A:Around} {base h:Heap} {outer:List Env} {env:Env} {L e:Addr} {cls:Value} {args:List Value} {s:Shared} {R:Result->Shared->Prop} (X:Fly (A.deeper env) base (env::outer) h) (hf:env.frame=some L) (hx:Heap.MadeExcOf h s.heap e cls args)
  (hR:∀ a0 h',Heap.FlyingW base outer e cls a0 h'->h.UpToSlots h'->R (.error (.ref e)) { s with heap:=h' }):ko8 w A env R (.ref e) s :=
 wpAny_leaves_madeW X.st hf X.sub X.fr hx fun h' t x1 zz zz x4=>hR (.ref t) h' x1 ((Heap.UpToSlots.of_keeps hx.keeps).trans x4)
theorem jm2 {w:World} {A:Around} {base:Heap} {outer:List Env} {env:Env} {L e:Addr} {cls a0:Value} {s:Shared} {R:Result->Shared->Prop} (hfr:(A.deeper env).frames=some (env::outer)) (hf:env.frame=some L) (hx:Heap.FlyingW base (env::outer) e cls a0 s.heap)
  (hR:∀ h',Heap.FlyingW base outer e cls a0 h'->s.heap.UpToSlots h'->R (.error (.ref e)) { s with heap:=h' }):ko8 w A env R (.ref e) s :=
 wpAny_leaves_onW hfr hf hx fun h' x1 x4=>hR h' x1 x4
section
variable {w:World} {mg mb:Str->Option Value} {hb:Heap} {s:Shared} {A:Around}
theorem kb1 {x d lam rl:Addr} {sec:Int} {its:Array Value} {n:Nat} {rows:List Row} {T:Nat->Tok} {name key data ad:Array UInt8} {iv pn:Int} {t1 t2 t3 t4 t5 t6:Tok} {base:Heap} {outer:List Env} (B:jbw w mg mb hb) (S:Sub hb s.heap) (hC:jav A 5) (P:jb6 s.heap lam rl sec)
  (hx:s.heap.get? x=some (instObj 72 d)) (hd:s.heap.get? d=some (jx2 w.params T (.bytes name t3) (.bytes key t4) (.ref lam) (.int iv t1))) (h0:0≤iv∧iv<2 ^ 64) (h1:0≤pn∧pn<2 ^ 64)
  (hr:s.heap.get? rl=some (listOf its n)) (hrb:hb.get? rl=none) (hrows:jbv s.heap its.toList rows) (Y:Fly A base outer s.heap) :
  jv0 w A s (.call (.ref 55) ⟨[.ref x,.bytes data t5,.bytes ad t6,.int pn t2],[]⟩) []
   (fun v zz=>∃ r t,rows.find? (jh3 name key (BE 12 (bitXor iv pn).toNat) ad data)=some r∧v=.bytes r.two t) (.ref 31) base outer (rows.find? (jh3 name key (BE 12 (bitXor iv pn).toNat) ad data)=none):=by
 intro R hR hE
 obtain ⟨hd,dp,fr,gs,un⟩:=A
 obtain ⟨rfl,rfl⟩:hd=none∧gs=some []:=⟨hC.h,hC.g⟩
 refine xEAE P.fn fun ol hol fd hfd=>?_
 refine jcj (news:=[]) (binds:=[("self", .ref x),("data", .bytes data t5),("associated_data", .bytes ad t6),("packet_number", .int pn t2)]) (bl:=[("packet_number", .int pn t2),("associated_data", .bytes ad t6),("data", .bytes data t5),("self", .ref x)])
  B S (fun p hp=>nomatch hp) (by k_is) (by k_is) hC.room (BindsTo.of_eq rfl) (by kernel_rfl!) (by kernel_rfl!) ?_ (by kernel_rfl!) (by kernel_rfl!) (by kernel_rfl!) (by kernel_rfl!)
 intro g L' h₁ tk B' F N hg hs hl
 have KX:=B'.k
 have TR:=B'.t
 have hsg:Sub s.heap g:=fun b o e=>hg b o e noN
 have hbg:Sub hb g:=Sub.trans' S hsg
 have gx:=hsg _ _ hx
 have gd:=hsg _ _ hd
 have gl:=hsg _ _ hol
 have gr:=hsg _ _ hr
 have P':=P.keeps (jaz.of_sub hsg)
 have hrows':=jbv.keeps (jaz.of_sub hsg) hrows
 have hLb:base.get? L'=none:=by
  cases q:base.get? L' with
  | none=>rfl
  | some o=>exact absurd (Nat.lt_of_lt_of_le (Heap.lt_size (hsg _ _ (Y.sub _ _ q))) F.above) (Nat.lt_irrefl _)
 walk_at "GO"
 ·exact hR _ _ _ (ja5 hg (by assumption)) (jhj _ _ (by assumption) rfl)
 ·skip
  rename_i h5 F5 N5 h6 e6 X6
  have k5:Sub s.heap h5:=fun b o e=>F5.keep b o (hsg b o e)
  exact js8 (Fly.push (Y.later k5) F5 hLb rfl rfl) rfl X6 fun a0 h' x u=>hE e6 a0 h' _ (by assumption) x ((Heap.UpToSlots.of_keeps k5).trans u)
end
end
section
open PySem.Sem (wp)
noncomputable def gB (b:Array UInt8) (j:Nat):Nat:=(b.getD j 0).toNat
theorem jo4 (b:Array UInt8) (j:Nat):gB b j<256:=UInt8.toNat_lt _
namespace BA
theorem jiq:Slot "bytearray" "__getitem__" "bytearray.__getitem__" :=
 .of (owner := "bytearray") (n := "__getitem__") (by rw [typeLookup_type,builtinLookup_eq_fast];kernel_rfl) (by decide +kernel) (by decide +kernel) (by decide +kernel)
  (by first | exact .inl (by decide +kernel) | exact .inr (by decide +kernel)) (by rw [isSubtype_type];kernel_rfl)
theorem jyk:Slot "bytearray" "__setitem__" "bytearray.__setitem__" :=
 .of (owner := "bytearray") (n := "__setitem__") (by rw [typeLookup_type,builtinLookup_eq_fast];kernel_rfl) (by decide +kernel) (by decide +kernel) (by decide +kernel)
  (by first | exact .inl (by decide +kernel) | exact .inr (by decide +kernel)) (by rw [isSubtype_type];kernel_rfl)
theorem ju4:entryFor table "bytearray.__getitem__" = some Builtin.«bytearray.__getitem__»:=by first | exact entryFor_of_fast (by kernel_rfl) | exact entryFor_of_tree (by kernel_rfl)
theorem kk7:entryFor table "bytearray.__setitem__" = some Builtin.«bytearray.__setitem__»:=by first | exact entryFor_of_fast (by kernel_rfl) | exact entryFor_of_tree (by kernel_rfl)
theorem kbk (a b:Value):argsOk "bytearray.__getitem__" ⟨[a,b],[]⟩:=by unfold argsOk;kernel_rfl
theorem kp9 (a b c:Value):argsOk "bytearray.__setitem__" ⟨[a,b,c],[]⟩:=by unfold argsOk;kernel_rfl
theorem kww:typeLookup (.type "bytearray") "__bytes__" = pure none:=by rw [typeLookup_type,builtinLookup_eq_fast];kernel_rfl
theorem noIdx:typeLookup (.type "bytearray") "__index__" = pure none:=by rw [typeLookup_type,builtinLookup_eq_fast];kernel_rfl
theorem kl3:typeLookup (.type "bytearray") "__buffer__" = pure (some (.builtin "bytearray.__buffer__")):=by rw [typeLookup_type,builtinLookup_eq_fast];kernel_rfl
theorem kl1 : "bytearray.__buffer__".endsWith ("." ++ "__buffer__")=true:=by decide +kernel
theorem kl0 : "bytearray.__buffer__".dropRight ("__buffer__".length+1) = "bytearray" := by decide +kernel
section
variable {prog:Program} {w:World} {A:Around} {E:Value->Shared->Prop} {s:Shared} {a:Addr} {b:Array UInt8}
theorem fits {i:Int} (h0:0≤i) (h1:i<2 ^ 63):Builtin.Bytes.fitsIndex i=true:=by simp only [Builtin.Bytes.fitsIndex,Bool.and_eq_true,decide_eq_true_eq];walk_at "OM"
theorem sub_int {i:Int} {u:Tok} {M:Model} {Q:Option Int->Shared->Prop} (h0:0≤i) (h1:i<2 ^ 63) (h:Q (some i) s):wpAny M A (Builtin.Bytes.subscript? (.int i u)) Q E s:=by
 unfold Builtin.Bytes.subscript?
 refine wpAny_bind (wpAny_specialOf (T := "int") (typeIs_int _ _ _) F.slot_int_index.lookup ?_)
 dsimp only
 refine bm_if_false rfl ?_
 refine wpAny_bind (wpAny_of_eq (rfl:asIndex (.int i u)=pure i) ?_)
 rw [fits h0 h1]
 exact bm_if_false rfl (wpAny_pure h)
theorem jix {M:Model} {Q:Array UInt8->Shared->Prop} (ho:s.heap.get? a=some (jc5 b)) (h:Q b s):wpAny M A (Builtin.Bytes.payload (.ref a)) Q E s:=by
 unfold Builtin.Bytes.payload Builtin.Bytes.payload?
 exact wpAny_bind (wpAny_bind (wpAny_load ho (wpAny_pure (wpAny_pure h))))
theorem idx {i:Int} (h0:0≤i) (h1:i<b.size):seqIndex? i b.size=some i.toNat:=by
 have hn:¬ i<0:=by walk_at "OM"
 simp [seqIndex?,hn,h0,h1]
theorem jp2 {i:Int} {u:Tok} {Q:Value->Shared->Prop} (ho:s.heap.get? a=some (jc5 b)) (h0:0≤i) (h1:i<b.size) (hz:b.size≤1099511627776)
  (h:Q (.int (gB b i.toNat:Nat) s.toks) { s with toks:=s.toks+1 }):wpAny (model prog w) A (getItem (.ref a) (.int i u)) Q E s:=by
 have hT:s.TypeIs (.ref a) "bytearray" := ⟨_,ho,rfl⟩
 refine wpAny_getItem_slot hT (by decide) jiq (wpAny_call_entry jiq hT ju4 ?_ (kbk _ _))
 show wpAny _ _ (Builtin.Bytes.subscript? (.int i u) >>= _) _ _ s
 refine wpAny_bind (sub_int h0 (by walk_at "OM") ?_)
 dsimp only
 refine wpAny_bind (jix ho ?_)
 have e:(seqIndex? i b.size).bind (b[·]?)=some (b.getD i.toNat 0):=by
  rw [idx h0 h1]
  have hl:i.toNat<b.size:=by walk_at "OM"
  simp [Array.getD,hl]
 rw [e]
 show wpAny _ _ (mkInt _ >>= _) _ _ _
 exact wpAny_bind (wpAny_mkInt (wpAny_pure ⟨_,rfl,h⟩))
theorem kx3 {i:Int} {u:Tok} {value slice:Expr} {Q:Value->Shared->Prop} (ho:s.heap.get? a=some (jc5 b)) (h0:0≤i) (h1:i<b.size) (hz:b.size≤1099511627776)
  (h:Q (.int (gB b i.toNat:Nat) s.toks) { s with toks:=s.toks+1 })
  (hs:subscripted slice false (.ref a) (.int i u)=operate [.ref a,.int i u] (getItem (.ref a) (.int i u)))
  (ht:∀ r,letTemporaryGo value (.ref a) r=pure ()):wpAny (model prog w) A (subscriptTail value slice (.ref a) (.int i u)) Q E s :=
 tail_of_ItemOn ⟨"bytearray", _,jiq.lookup,⟨_,ho,rfl⟩,jp2 ho h0 h1 hz h⟩ hs ht
theorem kcz {i n:Int} {u v:Tok} {Q:Unit->Shared->Prop} (ho:s.heap.get? a=some (jc5 b)) (h0:0≤i) (h1:i<b.size) (hz:b.size≤sizeLine) (n0:0≤n) (n1:n<256)
  (h:∀ h',h'.get? a=some (jc5 (b.setIfInBounds i.toNat n.toNat.toUInt8))->Heap.SameBut a s.heap h'->Q () { s with heap:=h' }):wpAny (model prog w) A (setItem (.ref a) (.int i u) (.int n v)) Q E s:=by
 have hT:s.TypeIs (.ref a) "bytearray" := ⟨_,ho,rfl⟩
 unfold setItem
 refine wpAny_holding ?_
 refine wpAny_bind (wpAny_sequenceKey hT (by decide) ?_)
 refine wpAny_bind (wpAny_callSpecial?_slot (name := "__setitem__") hT jyk (wpAny_call_entry jyk hT kk7 ?_ (kp9 _ _ _)))
 show wpAny _ _ (Builtin.Bytes.subscript? (.int i u) >>= _) _ _ s
 refine wpAny_bind (sub_int h0 (by rw [sizeLine_eq] at hz;walk_at "OM") ?_)
 dsimp only
 refine wpAny_bind ?_
 unfold Builtin.Bytes.byteValue
 refine wpAny_bind (wpAny_of_eq (rfl:asIndex (.int n v)=pure n) ?_)
 refine bm_if_false (by simp only [Bool.or_eq_false_iff,decide_eq_false_iff_not];walk_at "OM") (wpAny_pure ?_)
 refine wpAny_bind (jix ho ?_)
 rw [idx h0 h1]
 dsimp only
 refine wpAny_bind (jq9 ho (by rw [Array.size_setIfInBounds];exact hz) fun h' e k=>?_)
 exact wpAny_bind (wpAny_pure (wpAny_pure ⟨_,rfl,wpAny_pure (h h' e k)⟩))
theorem klw {id:String} {full:Bool} {Q:Option (Array UInt8)->Shared->Prop} {M:Model} (ho:s.heap.get? a=some (jc5 b)) (h:Q (some b) s):wpAny M A (Builtin.Bytes.buffer? id (.ref a) full) Q E s:=by
 have hT:s.TypeIs (.ref a) "bytearray" := ⟨_,ho,rfl⟩
 unfold Builtin.Bytes.buffer?
 refine wpAny_bind (wpAny_specialOf hT kl3 ?_)
 dsimp only
 refine wpAny_bind ?_
 unfold Builtin.Bytes.slotIsOwn
 refine wpAny_bind (wpAny_specialOf hT kl3 ?_)
 dsimp only
 rw [kl1,kl0]
 refine bm_if_false rfl ?_
 refine wpAny_isInstance hT jyv ?_
 refine bm_if_false rfl ?_
 refine wpAny_bind (wpAny_specialOf hT kl3 ?_)
 show wpAny _ _ (Builtin.Bytes.ownRelease (.ref a) >>= _) _ _ _
 refine wpAny_bind (kg2 hT jpv kf5 kf4 jyv ?_)
 refine bm_if_false rfl ?_
 exact wpAny_bind (jix ho (wpAny_pure h))
theorem kd4 {Q:Value->Shared->Prop} (ho:s.heap.get? a=some (jc5 b)) (hz:b.size≤sizeLine)
  (hQ:Q (.bytes b s.toks) { s with toks:=s.toks+1 }) :
  codeAny (model prog w) A (.call (.builtin "bytes.__new__") ⟨[.type "bytes", .ref a],[]⟩) (wants Q E) s:=by
 refine codeAny_of_tree ?_
 show wpAny _ A.in1 (do checkBuiltinCall "bytes.__new__" ⟨[.type "bytes", .ref a],[]⟩;again (.builtin "bytes.__new__" ⟨[.type "bytes", .ref a],[]⟩)) _ _ s
 refine wpAny_bind (wpAny_of_eq (F.bm_newCall _) (wpAny_pure ⟨plainId_quiet F.bm_plain _,codeAny_builtin F.bm_entry ?_⟩))
 rw [Around.under_plainId F.bm_plain _]
 have hT:s.TypeIs (.ref a) "bytearray" := ⟨_,ho,rfl⟩
 unfold Builtin.«bytes.__new__»
 refine wpAny_bind (wpAny_of_eq (a:=true) rfl ?_)
 refine bm_if_false rfl ?_
 refine wpAny_bind (wpAny_of_eq F.bm_sub ?_)
 refine bm_if_false rfl ?_
 refine wpAny_bind (wpAny_of_eq (F.bm_bind _) ?_)
 refine wpAny_bind (wpAny_of_eq (a:=()) rfl ?_)
 refine wpAny_bind (wpAny_of_eq (a:=()) rfl ?_)
 refine bm_if_false rfl ?_
 refine wpAny_bind (wpAny_specialOf hT kww ?_)
 refine wpAny_bind (wpAny_bind ?_)
 show wpAny _ _ (load a >>= _) _ _ _
 refine wpAny_bind (wpAny_load ho ?_)
 refine wpAny_pure (wpAny_pure ?_)
 refine bm_if_false rfl ?_
 refine wpAny_bind (wpAny_specialOf hT noIdx ?_)
 refine bm_if_true rfl ?_
 refine wpAny_bind (klw ho ?_)
 dsimp only
 refine wpAny_bind (wpAny_rule ?_)
 refine wpAny_bind (wpAny_mkBytes ?_ hz)
 show wpAny _ _ (if (Value.type "bytes" == Value.type "bytes")=true then _ else _) _ _ _
 refine bm_if_true (by decide) ?_
 first
  | exact wpAny_pure hQ
  | exact wpAny_bind (wpAny_pure (wpAny_pure hQ))
theorem bytes_ba {Q:Value->Shared->Prop} (ho:s.heap.get? a=some (jc5 b)) (hz:b.size≤sizeLine)
  (hQ:Q (.bytes b s.toks) { s with toks:=s.toks+1 }):wpAny (model prog w) A (call (.type "bytes") [.ref a]) Q E s:=by
 refine callType_codes (Q₁:=fun obj s₁=>s₁.TypeIs obj "bytes" ∧ Q obj s₁) F.bm_called (F.bm_typeCall _) F.entry_object_init
  (kd4 ho hz ⟨PySem.W.typeIs_bytes _ _ _,hQ⟩) fun obj s₁ h₁=>?_
 exact ⟨h₁.1,F.args_object_init_2 obj _,object_init_meets F.bm_called.init.lookup F.bm_called.made (by decide) prog w A.in1 _ s₁ ⟨h₁.1,rfl,h₁.2⟩⟩
end
end BA
end
section
open PySem.Sem (wp)
def jq7 (w:World) (A:Around) (s:Shared) (c:Code) (as:List Addr) (Post:Value->Heap->Prop):Prop :=
 ∀ R:Result->Shared->Prop,(∀ v h' tk,jb8 s.heap as h'->Post v h'->R (.ok (.ret v)) { s with heap:=h',toks:=tk })->jf5 (model pw w) A c R s
def jx4 (w:World) (A:Around) (s:Shared) (c:Code) (as:List Addr) (Post:Value->Heap->Prop) (C:Value) (base:Heap) (outer:List Env) (Cond:Prop):Prop :=
 ∀ R:Result->Shared->Prop,(∀ v h' tk,jb8 s.heap as h'->Post v h'->R (.ok (.ret v)) { s with heap:=h',toks:=tk }) →
  (∀ e a0 h' tk,Cond->Heap.FlyingW base outer e C a0 h'->s.heap.UpToSlots h'->R (.error (.ref e)) { s with heap:=h',toks:=tk })->jf5 (model pw w) A c R s
theorem jfv {w:World} {A:Around} {s:Shared} {f:Addr} {pos:List Value} {kw:List (Str×Value)} {as:List Addr} {Post:Value->Heap->Prop} {E:Value->Shared->Prop} {Q:Value->Shared->Prop} (sp:jq7 w A s (.call (.ref f) ⟨pos,kw⟩) as Post)
  (h:∀ v h' tk,jb8 s.heap as h'->Post v h'->Q v { s with heap:=h',toks:=tk }):wpG (model pw w) A (call (.ref f) pos kw) Q E s :=
 jmz (sp _ fun v h' tk H P=>h v h' tk H P)
theorem jl1 {w:World} {A:Around} {s:Shared} {f:Addr} {pos:List Value} {kw:List (Str×Value)} {as:List Addr} {Post:Value->Heap->Prop} {C:Value} {base:Heap} {outer:List Env} {Cond:Prop} {E:Value->Shared->Prop} {Q:Value->Shared->Prop} (sp:jx4 w A s (.call (.ref f) ⟨pos,kw⟩) as Post C base outer Cond)
  (h:∀ v h' tk,jb8 s.heap as h'->Post v h'->Q v { s with heap:=h',toks:=tk })
  (hE:∀ e a0 h' tk,Cond->Heap.FlyingW base outer e C a0 h'->s.heap.UpToSlots h'->E (.ref e) { s with heap:=h',toks:=tk }):wpG (model pw w) A (call (.ref f) pos kw) Q E s :=
 jmz (sp _ (fun v h' tk H P=>h v h' tk H P) (fun e a0 h' tk c x u=>hE e a0 h' tk c x u))
section
variable {w:World} {mg mb:Str->Option Value} {hb:Heap} {s:Shared} {A:Around} {R:Result->Shared->Prop} {news:List (Addr×Obj)}
 {name qual:Str} {params:Arguments} {body:List Stmt} {scope:Scope} {dV kV doc pm cdv ct oc:Value} {an od:Option Addr} {osl:Array (Option Value)} {f:Addr} {args:Args} {binds bl:List (Str×Value)}
theorem jq3 (B:jbw w mg mb hb) (S:Sub hb s.heap) (N:Has hb s.heap news)
  (ho:(K w.params).lookup f=some ⟨oc,od,.func (fnOf name qual params body scope dV kV doc pm an cdv ct),osl⟩) (hcd:codeIn (K w.params) cdv qual=true) (hroom:A.depth<recursionLimit)
  (hbind:BindsTo s (fnOf name qual params body scope dV kV doc pm an cdv ct) args binds) (hbl:binds.reverse=bl) (hloc:(binds.all fun y=>scope.names.lookup y.1==some .local)=true)
  (h:∀ g L' h₁ tk,jbw w mg mb g->Fr g L' h₁ (fun y=>chain bl y)->News g L' h₁ news->(∀ b o,s.heap.get? b=some o->b∉news.map (·.1)->g.get? b=some o)->Sub g s.heap->(∀ p∈news,p.1<L') →
   wpG (model pw w) (A.deeper (envOf qual scope L' f cdv)) (execs body (envOf qual scope L' f cdv)) (retP R) (ko8 w A (envOf qual scope L' f cdv) R) { s with heap:=h₁,toks:=tk })
  (hco:scope.isCoroutine=false) (hgen:scope.isGenerator=false) (hk:scope.kind=.function)
  (hcell:(scope.names.all fun x=>!(x.2==.cell))=true):jf5 (model pw w) A (.call (.ref f) args) R s:=by
 have X:=B.k.keeps S
 have nm:∀ b o,hb.get? b=some o->b∉news.map (·.1):=fun b o e q=>by
  refine xEA (List.mem_map.mp q) fun p hp zq151=>?_
  obtain rfl:=zq151
  rw [(N p hp).2] at e;cases e
 have st:Sub hb (hideAll s.heap (news.map (·.1))):=fun b o e=>hideAll_get _ (S b o e) (nm b o e)
 refine jfz hroom (X _ _ ho) rfl hco hgen rfl (codeRec_of X hcd) (hbind _ _ _ _ ?_)
 refine wpAny_newFunctionEnv (fun x hx e=>?_) (fun y hy=>?_) (fun h₁ hns hsb=>⟨(B.t.nolimit.keeps S).fresh _ hsb,jq4 ?_⟩) hk
 ·have:=List.all_eq_true.mp hcell x hx
  rw [e] at this
  exact absurd this (by decide)
 ·have:=List.all_eq_true.mp hloc y hy
  simpa using this
 have hk₁:∀ b o,s.heap.get? b=some o->h₁.get? b=some o:=fun b o e=>hsb.extBut b o (Nat.ne_of_lt (Heap.lt_size e)) (Heap.get?_push_of_some _ e)
 have e:(fun y=>binds.reverse.lookup y)=fun y=>chain bl y:=by funext y;rw [jh6,hbl]
 have F:Fr (hideAll s.heap (news.map (·.1))) s.heap.objs.size h₁ (fun y=>binds.reverse.lookup y):=⟨hns,fun b o e=>hk₁ b o (of_hideAll _ e),Nat.le_of_eq (hideAll_size _ _)⟩
 exact h (hideAll s.heap (news.map (·.1))) s.heap.objs.size h₁ _ (B.keeps st) (e▸F)
  (fun p hp=>(iAA (hk₁ _ _ (N p hp).1) (Nat.ne_of_lt (Heap.lt_size (N p hp).1)) (hideAll_none _ (List.mem_map_of_mem hp)))) (fun b o e n=>hideAll_get _ e n) (fun b o e=>of_hideAll _ e) (fun p hp=>Heap.lt_size (N p hp).1)
end
namespace BA
section
variable {prog:Program} {w:World} {A:Around} {E:Value->Shared->Prop} {s:Shared} {h₀:Heap} {L:Addr} {m:Str->Option Value} {news:List (Addr×Obj)} {b:Array UInt8} {a sl:Addr}
theorem kgx (b:Array UInt8) (k:Int):(picked b none (some k)).size≤b.size:=by
 unfold picked Builtin.Bytes.sliced sliceBounds
 simp only [List.size_toArray]
 refine Nat.le_trans (List.length_filterMap_le _ _) ?_
 unfold sliceRange
 simp
 omega
theorem jxk {l u:Value} {lo hi:Option Int} {Q:Value->Shared->Prop} (ho:s.heap.get? a=some (jc5 b)) (hs:s.heap.IsSliceOf sl l u .none) (hl:IsPart l lo) (hu:IsPart u hi) (hz:(picked b lo hi).size≤sizeLine)
  (h:Q (.ref s.heap.objs.size) { s with heap:=s.heap.push (jc5 (picked b lo hi)) }):wpAny (model prog w) A (getItem (.ref a) (.ref sl)) Q E s:=by
 have hTa:s.TypeIs (.ref a) "bytearray" := (iEA _ ho rfl)
 refine jg2 (id hs) fun o hos hc hd=>?_
 have hT:s.TypeIs (.ref sl) "slice" := (iEA o hos hc)
 refine wpAny_getItem_slot hTa (by decide) jiq (wpAny_call_entry jiq hTa ju4 ?_ (kbk _ _))
 show wpAny _ _ (Builtin.Bytes.subscript? (.ref sl) >>= fun r=>_) _ _ s
 refine wpAny_bind ?_
 unfold Builtin.Bytes.subscript?
 refine wpAny_bind (wpAny_specialOf hT slice_no_index (wpAny_pure ?_))
 dsimp only
 refine wpAny_bind (wpAny_typeOf hT ?_)
 show wpAny _ _ (Builtin.Bytes.sliceParts (.ref sl) >>= fun r=>_) _ _ s
 refine wpAny_bind ?_
 unfold Builtin.Bytes.sliceParts
 refine wpAny_bind (wpAny_field (x:=.none) hos hd rfl ?_)
 kby_none
 refine wpAny_ite (KBy.ite_no (show ¬ ((Value.none==rawInt 0)=true) from Bool.false_ne_true) ?_)
 refine wpAny_bind (wpAny_field (x:=l) hos hd rfl ?_)
 have go:∀ A':Around,wpAny (model prog w) A' (sliceIndices (rawPart lo) (rawPart hi) (rawPart none) b.size) (fun r s'=>r=sliceBounds lo hi none b.size∧s'=s) (fun zz zz=>False) s:=fun A' =>
  wpAny_of_eq (sliceIndices_raw lo hi none b.size (fun e=>nomatch e)) ⟨rfl,rfl⟩
 cases hl <;> cases hu <;> (first
  | (kby_none;(refine wpAny_bind (wpAny_field (x:=.none) hos hd rfl ?_));kby_none)
  | (kby_none;(refine wpAny_bind (wpAny_field (x:=.int _ _) hos hd rfl ?_));kby_int)
  | (kby_int;(refine wpAny_bind (wpAny_field (x:=.none) hos hd rfl ?_));kby_none)
  | (kby_int;(refine wpAny_bind (wpAny_field (x:=.int _ _) hos hd rfl ?_));kby_int)) <;> refine wpAny_pure ?_
 all_goals
  refine wpAny_bind (jix ho ?_)
  refine wpAny_bind (wpAny_mono (go _) (fun r s' hr=>?_) fun zz zz e=>e.elim)
  refine xA hr fun hr1 hr2=>?_
  try clear hr
  subst hr1 hr2
  exact wpAny_bind (m:=Builtin.Bytes.newBytearray _) (wpAny_newObj_type (wpAny_pure (iEA _ rfl h)) hz)
theorem slice_ba {value slice:Expr} {k:Int} {u:Tok} {Q:Value->Shared->Prop}
  (F:Fr h₀ L s.heap m) (N:News h₀ L s.heap news) (ho:(a,jc5 b)∈news) (hz:b.size≤sizeLine)
  (h:∀ D h',Fr h₀ L h' m->News h₀ L h' ((D,jc5 (picked b none (some k)))::news)->(∀ p∈news,p.1<D)->Q (.ref D) { s with heap:=h' })
  (hs:subscripted slice false (.ref a) (.ref s.heap.objs.size)=operate [.ref s.heap.objs.size,.ref a] (getItem (.ref a) (.ref s.heap.objs.size)))
  (hg:∀ r,letTemporaryGo value (.ref a) r=pure ()) :
  wpAny (model prog w) A (subscriptTail value slice (.ref a) (.ref s.heap.objs.size)) Q E { s with heap:=s.heap.push { cls:=.type "slice", data:=.fields #[.none,.int k u,.none] } }:=by
 have ho':=Heap.get?_push_of_some { cls:=.type "slice", data:=.fields #[.none,.int k u,.none] } (N _ ho).1
 refine tail_of_ItemOn (ki0 ("bytearray") _ jiq.lookup (iEA _ ho' rfl) (jxk (s:={ s with heap:=s.heap.push { cls:=.type "slice", data:=.fields #[.none,.int k u,.none] } }) ho' (Heap.IsSliceOf.new ..) .none (.int k u) (Nat.le_trans (kgx b k) hz) ?_)) hs hg
 have N1:=News.push (F.push { cls:=.type "slice", data:=.fields #[.none,.int k u,.none] }) (N.grown fun _ _ e=>Heap.get?_push_of_some _ e) (jc5 (picked b none (some k)))
 exact h _ _ ((F.push _).push _) N1 fun p hp=>by
  rw [Heap.size_push]
  exact Nat.lt_succ_of_lt (Heap.lt_size (N p hp).1)
end
end BA
end
theorem fl10:True:=by first|walk1|trivial
section
local macro_rules (kind:=PyProof.Rows.tacticWalk_at_) | s=>jex "ANJOPGHEQRVW" s
theorem jm3:∀ n a b:Nat,a<2 ^ n->b<2 ^ n->a+b=(a ^^^ b)+2*(a &&& b)
 | 0,a,b,ha,hb=>by
  obtain rfl:a=0:=Nat.lt_one_iff.mp ha
  obtain rfl:b=0:=Nat.lt_one_iff.mp hb
  rfl
 | n+1,a,b,ha,hb=>by
  have ih:=jm3 n (a / 2) (b / 2) (by walk_at "OM") (by walk_at "OM")
  have e1:(a ^^^ b) / 2=a / 2 ^^^ b / 2:=Nat.xor_div_two
  have e2:(a &&& b) / 2=a / 2 &&& b / 2:=Nat.and_div_two
  have e3:(a ^^^ b) % 2=a % 2 ^^^ b % 2:=Nat.xor_mod_two_pow (n:=1)
  have e4:(a &&& b) % 2=a % 2 &&& b % 2:=Nat.and_mod_two_pow (n:=1)
  have h2:(a % 2 ^^^ b % 2)+2*(a % 2 &&& b % 2)=a % 2+b % 2:=by
   rcases Nat.mod_two_eq_zero_or_one a with h | h <;> rcases Nat.mod_two_eq_zero_or_one b with h' | h' <;> rw [h,h'] <;> rfl
  rw [← e1,← e2] at ih
  rw [← e3,← e4] at h2
  rw [hv a b,ih,← h2,hx2]
theorem jk8 (a b:Nat):bitXor (a:Int) (b:Int)=((a ^^^ b:Nat):Int):=by
 rw [bitXor_and,bitAnd_pp (Int.natCast_nonneg a) (Int.natCast_nonneg b)]
 obtain ⟨n,ha,hb⟩:∃ n,a<2 ^ n∧b<2 ^ n:=(iEA (a+b) (Nat.lt_of_lt_of_le Nat.lt_two_pow_self (Nat.pow_le_pow_right (by decide) (Nat.le_add_right _ _))) (Nat.lt_of_lt_of_le Nat.lt_two_pow_self (Nat.pow_le_pow_right (by decide) (Nat.le_add_left _ _))))
 have:=jm3 n a b ha hb
 simp only [Int.toNat_natCast]
 walk_at "OM"
theorem bx256 {a:Nat} {m:Int} (ha:a<256) (h0:0≤m) (h1:m<256):0≤bitXor (a:Int) m∧bitXor (a:Int) m<256:=by
 refine xE (Int.eq_ofNat_of_zero_le h0) fun k zq134=>?_
 obtain rfl:=zq134
 rw [jk8]
 have:a ^^^ k<2 ^ 8:=Nat.xor_lt_two_pow ha (by walk_at "OM")
 walk_at "OM"
theorem jk0 (key one:Array UInt8):(jg8 key one).size=5:=by unfold jg8;rw [byteArr_size,List.length_map];rfl
noncomputable def jl4 (b:Array UInt8) (j:Nat) (m:Int):Array UInt8:=b.setIfInBounds j (bitXor (gB b j:Nat) m).toNat.toUInt8
theorem jd4 (b:Array UInt8) (j:Nat) (m:Int):(jl4 b j m).size=b.size:=Array.size_setIfInBounds
noncomputable def jc1 (b:Array UInt8) (off:Nat) (mask:Array UInt8):Nat->Array UInt8
 | 0=>b
 | k+1=>jl4 (jc1 b off mask k) (off+k) (gB mask (1+k):Nat)
theorem jdx (b:Array UInt8) (off:Nat) (mask:Array UInt8):∀ k,(jc1 b off mask k).size=b.size
 | 0=>rfl
 | k+1=>by rw [jc1,jd4,jdx b off mask k]
section
variable {prog:Program} {w:World} {A:Around} {E:Value->Shared->Prop} {s:Shared}
theorem kzq {a b c:Int} {t u:Tok} {Q:Value->Shared->Prop} (e:bitAnd a b=c) (h:Q (.int c s.toks) { s with toks:=s.toks+1 }):wpAny (model prog w) A (binaryOp .BitAnd (.int a t) (.int b u)) Q E s:=and_int (e▸h)
theorem kzx {a b c:Int} {t u:Tok} {Q:Value->Shared->Prop} (e:a+b=c) (h:Q (.int c s.toks) { s with toks:=s.toks+1 }):wpAny (model prog w) A (binaryOp .Add (.int a t) (.int b u)) Q E s:=add_int (e▸h)
theorem kv4 {a b c:Int} {t u:Tok} {Q:Value->Shared->Prop} (e:a-b=c) (h:Q (.int c s.toks) { s with toks:=s.toks+1 }):wpAny (model prog w) A (binaryOp .Sub (.int a t) (.int b u)) Q E s:=sub_int (e▸h)
theorem len_is {b:Array UInt8} {t:Tok} {n:Nat} {Q:Value->Shared->Prop} (e:b.size=n) (hz:n≤1000000) (h:Q (.int (n:Nat) (s.toks+1)) { s with toks:=s.toks+1+1 }):wpAny (model prog w) A (call (.builtin "len") [.bytes b t]) Q E s:=by
 subst e
 exact len_bytes (by walk_at "OM") h
theorem jxj {b:Array UInt8} {t u:Tok} {j:Nat} {value slice:Expr} {Q:Value->Shared->Prop} (h1:j<b.size) (hz:b.size≤1000000) (h:Q (.int (gB b j:Nat) s.toks) { s with toks:=s.toks+1 })
  (hs:subscripted slice false (.bytes b t) (.int j u)=operate [.bytes b t,.int j u] (getItem (.bytes b t) (.int j u)))
  (ht:∀ r,letTemporaryGo value (.bytes b t) r=pure ()):wpAny (model prog w) A (subscriptTail value slice (.bytes b t) (.int j u)) Q E s:=by
 have e:b.toList.toArray=b:=Array.toArray_toList
 have g:wpAny (model prog w) A (getItem (.bytes b.toList.toArray t) (.int j u)) Q E s:=by
  refine getItem_bytes (l:=b.toList) (by simp;walk_at "OM") (by walk_at "OM") (by simpa using h1) ?_
  have:b.toList.getD (Int.toNat (j:Int)) 0=b.getD j 0:=by
   rw [Int.toNat_natCast]
   simp [List.getD_eq_getElem?_getD,Array.getD_eq_getD_getElem?]
  rw [this];exact h
 rw [e] at g
 exact tail_of_ItemOn (ki0 ("bytes") _ FB.slot_bytes_getitem.lookup (PySem.W.typeIs_bytes _ _ _) g) hs ht
theorem ko1 {b:Array UInt8} {t u:Tok} {value slice:Expr} {Q:Value->Shared->Prop} (h1:0<b.size) (hz:b.size≤1000000) (h:Q (.int (gB b 0:Nat) s.toks) { s with toks:=s.toks+1 })
  (hs:subscripted slice false (.bytes b t) (.int 0 u)=operate [.bytes b t,.int 0 u] (getItem (.bytes b t) (.int 0 u)))
  (ht:∀ r,letTemporaryGo value (.bytes b t) r=pure ()):wpAny (model prog w) A (subscriptTail value slice (.bytes b t) (.int 0 u)) Q E s:=jxj (j:=0) h1 hz h hs ht
theorem kfj {h₀:Heap} {L:Addr} {m:Str->Option Value} {news:List (Addr×Obj)} {b:Array UInt8} {t:Tok} {value slice:Expr} {l u:Value} {lo hi:Option Int} {Q:Value->Shared->Prop} (hF:Fr h₀ L s.heap m) (hN:News h₀ L s.heap news) (hl:IsPart l lo) (hu:IsPart u hi) (hz:b.size≤16777216)
  (h:∀ h' t' k,Fr h₀ L h' m->News h₀ L h' news->Q (.bytes (picked b lo hi) t') { s with heap:=h',toks:=k })
  (hs:subscripted slice false (.bytes b t) (.ref s.heap.objs.size)=operate [.ref s.heap.objs.size,.bytes b t] (getItem (.bytes b t) (.ref s.heap.objs.size)))
  (ht:∀ r,letTemporaryGo value (.bytes b t) r=pure ()) :
  wpAny (model prog w) A (subscriptTail value slice (.bytes b t) (.ref s.heap.objs.size)) Q E { s with heap:=s.heap.push { cls:=.type "slice", data:=.fields #[l,u,.none] } } :=
 KBc.slice_K hF hN rfl hl hu (by rw [KBw.ints_length];exact hz) (fun h' t' k F N _=>h h' t' k F N) hs ht
end
namespace BA
section
variable {prog:Program} {w:World} {A:Around} {E:Value->Shared->Prop} {s:Shared} {a:Addr} {b:Array UInt8} {h₀:Heap} {L:Addr} {m:Str->Option Value} {news news':List (Addr×Obj)}
theorem getItem_baN {j:Nat} {u:Tok} {Q:Value->Shared->Prop} (ho:s.heap.get? a=some (jc5 b)) (h1:j<b.size) (hz:b.size≤1000000)
  (h:Q (.int (gB b j:Nat) s.toks) { s with toks:=s.toks+1 }):wpAny (model prog w) A (getItem (.ref a) (.int j u)) Q E s:=jp2 ho (by walk_at "OM") (by walk_at "OM") (by walk_at "OM") (by rw [Int.toNat_natCast];exact h)
theorem item_baN {j:Nat} {u:Tok} {value slice:Expr} {Q:Value->Shared->Prop} (ho:s.heap.get? a=some (jc5 b)) (h1:j<b.size) (hz:b.size≤1000000)
  (h:Q (.int (gB b j:Nat) s.toks) { s with toks:=s.toks+1 })
  (hs:subscripted slice false (.ref a) (.int j u)=operate [.ref a,.int j u] (getItem (.ref a) (.int j u)))
  (ht:∀ r,letTemporaryGo value (.ref a) r=pure ()):wpAny (model prog w) A (subscriptTail value slice (.ref a) (.int j u)) Q E s :=
 kx3 ho (by walk_at "OM") (by walk_at "OM") (by walk_at "OM") (by rw [Int.toNat_natCast];exact h) hs ht
theorem getItem_ba0 {u:Tok} {Q:Value->Shared->Prop} (ho:s.heap.get? a=some (jc5 b)) (h1:0<b.size) (hz:b.size≤1000000)
  (h:Q (.int (gB b 0:Nat) s.toks) { s with toks:=s.toks+1 }):wpAny (model prog w) A (getItem (.ref a) (.int 0 u)) Q E s:=getItem_baN (j:=0) ho h1 hz h
theorem item_ba0 {u:Tok} {value slice:Expr} {Q:Value->Shared->Prop} (ho:s.heap.get? a=some (jc5 b)) (h1:0<b.size) (hz:b.size≤1000000)
  (h:Q (.int (gB b 0:Nat) s.toks) { s with toks:=s.toks+1 })
  (hs:subscripted slice false (.ref a) (.int 0 u)=operate [.ref a,.int 0 u] (getItem (.ref a) (.int 0 u)))
  (ht:∀ r,letTemporaryGo value (.ref a) r=pure ()):wpAny (model prog w) A (subscriptTail value slice (.ref a) (.int 0 u)) Q E s:=item_baN (j:=0) ho h1 hz h hs ht
theorem m_byte (b:Array UInt8) (j:Nat):0≤((gB b j:Nat):Int)∧((gB b j:Nat):Int)<256:=by have:=jo4 b j;walk_at "OM"
theorem m_and (b:Array UInt8) (j:Nat) {k:Int} (hk:0≤k∧k<256):0≤bitAnd (gB b j:Nat) k∧bitAnd (gB b j:Nat) k<256:=by
 rw [bitAnd_pp (Int.natCast_nonneg _) hk.1]
 have h2:(Int.toNat (gB b j:Nat)) &&& k.toNat≤k.toNat:=Nat.and_le_right
 exact mA hk h2
theorem setItem_xN {j:Nat} {mm:Int} {u v:Tok} {Q:Unit->Shared->Prop} (F:Fr h₀ L s.heap m) (N:News h₀ L s.heap news) (U:Upd a (jc5 b) (jc5 (jl4 b j mm)) news news') (h1:j<b.size) (hz:b.size≤sizeLine) (hm:0≤mm∧mm<256)
  (h:∀ h',Fr h₀ L h' m->News h₀ L h' news'->Q () { s with heap:=h' }):wpAny (model prog w) A (setItem (.ref a) (.int j u) (.int (bitXor (gB b j:Nat) mm) v)) Q E s:=by
 refine jsx U.split fun pre post zq132 zq133 h3 h4=>?_
 obtain rfl:=zq132
 obtain rfl:=zq133
 have hmem:=N (a,jc5 b) (List.mem_append_right _ (.head _))
 have hx:=bx256 (jo4 b j) hm.1 hm.2
 refine kcz hmem.1 (by walk_at "OM") (by walk_at "OM") hz hx.1 hx.2 fun h' e k=>h h' ⟨F.ns.sameBut k (Ne.symm hmem.2.1),fun x o q=>(k.2 x (fun z=>?_)).trans (F.keep x o q),F.above⟩ (N.setAt h3 h4 k (by rw [Int.toNat_natCast] at e;exact e))
 rw [z,hmem.2.2] at q;cases q
theorem setItem_x0 {mm:Int} {u v:Tok} {Q:Unit->Shared->Prop} (F:Fr h₀ L s.heap m) (N:News h₀ L s.heap news) (U:Upd a (jc5 b) (jc5 (jl4 b 0 mm)) news news') (h1:0<b.size) (hz:b.size≤sizeLine) (hm:0≤mm∧mm<256)
  (h:∀ h',Fr h₀ L h' m->News h₀ L h' news'->Q () { s with heap:=h' }):wpAny (model prog w) A (setItem (.ref a) (.int 0 u) (.int (bitXor (gB b 0:Nat) mm) v)) Q E s:=setItem_xN (j:=0) F N U h1 hz hm h
end
end BA
section
variable {w:World} {mg mb:Str->Option Value} {hb:Heap} {s:Shared} {A:Around}
theorem kx9 {x d lam rl:Addr} {sec:Int} {T:Nat->Tok} {name key one:Array UInt8} {t1 t2 t3:Tok} (B:jbw w mg mb hb) (S:Sub hb s.heap) (hC:jav A 5) (P:jb6 s.heap lam rl sec)
  (hx:s.heap.get? x=some (instObj 114 d)) (hd:s.heap.get? d=some (hpD w.params T (.bytes name t1) (.bytes key t2) (.ref lam))) (hk:0<key.size) (hk2:key.size≤1000) (ho:one.size≤1000) :
  jb4 w A s (.call (.ref 111) ⟨[.ref x,.bytes one t3],[]⟩) [] (fun v _=>∃ t,v=.bytes (jg8 key one) t):=by
 intro R hR
 refine openA A hC fun dp fr un hC=>?_
 refine xEAE P.fn fun ol hol fd hfd=>?_
 refine jcj (news:=[]) (binds:=[("self", .ref x),("sample", .bytes one t3)]) (bl:=[("sample", .bytes one t3),("self", .ref x)])
  B S (fun p hp=>nomatch hp) (by k_is) (by k_is) hC.room (BindsTo.of_eq rfl) (by kernel_rfl!) (by kernel_rfl!) ?_ (by kernel_rfl!) (by kernel_rfl!) (by kernel_rfl!) (by kernel_rfl!)
 intro g L' h₁ tk B' F N hg hs hl
 have KX:=B'.k
 have TR:=B'.t
 have hsg:Sub s.heap g:=fun b o e=>hg b o e noN
 have gx:=hsg _ _ hx
 have gd:=hsg _ _ hd
 have gl:=hsg _ _ hol
 walk_at "GO"
 exact ja0 (kgq B' (Fr.keep F) (hC.deeper) (P.keeps (jaz.of_sub (Sub.trans' hsg F.keep))) hk hk2 ho) fun v h' tk H p=>hR v h' tk (jb8.of_sub (Sub.trans' hsg F.keep) H) p
end
end
def vbx (g:Heap) (L:Addr) (own news₁:List (Addr×Obj)) (Jn:(Str->Option Value)->List (Addr×Obj)->Prop) (s₁:Shared) (Qr:Value->Shared->Prop) (f:Flow) (s₂:Shared):Prop :=
 match f with
 | .ret v=>Qr v s₂
 | .brk=>False
 | _=>∃ h' tk m₂ news₂,s₂ = { s₁ with heap:=h',toks:=tk }∧Fr g L h' m₂∧News g L h' (news₂++own)∧news₂.map (·.1)=news₁.map (·.1)∧Jn m₂ news₂
section
variable {prog:Program} {w:World} {A:Around} {E:Value->Shared->Prop} {s:Shared} {env:Env} {g:Heap} {R:Result->Shared->Prop} {m:Str->Option Value} {news:List (Addr×Obj)} {x:Str} {px:Pos} {body:List Stmt}
theorem jpq {n:Nat} {t:Tok} (hh:A.handled=none) (F:Fr g env.locals s.heap m) (N:News g env.locals s.heap news) (hx:env.kindOf x=some .local)
  (hp:(env.scope.kind==.class || (env.scope.kind==.module&&env.locals != env.globals))=false) (hn:n<1000000)
  (J:Nat->(Str->Option Value)->List (Addr×Obj)->Prop) (h0:J 0 m news)
  (step:∀ i u m₁ news₁ h tk own,i<n->(∀ p∈own,p.1∉news.map (·.1))->J i m₁ news₁->news₁.map (·.1)=news.map (·.1)->Fr g env.locals h (fun y=>if y=x then some (.int (i:Int) u) else m₁ y)->News g env.locals h (news₁++own) →
   wpAny (model prog w) A (execs body env) (vbx g env.locals own news₁ (J (i+1)) { s with heap:=h,toks:=tk } fun v s'=>R (.ok (.ret v)) s') (notedBy (model prog w) A env fun e s'=>R (.error e) s') { s with heap:=h,toks:=tk })
  (done:∀ h' tk m' news',Fr g env.locals h' m'->News g env.locals h' news'->news'.map (·.1)=news.map (·.1)->J n m' news'->R (.ok .next) { s with heap:=h',toks:=tk }) :
  wpAny (model prog w) A (call (.type "range") [.int (n:Int) t]) (fun v s₁=>wpAny (model prog w) A (pyIter v) (fun it s₂=>codeAny (model prog w) A (.forLoop (.Name x px) it body [] env) R s₂) E s₁) E s:=by
 refine call_range_1 ?_
 refine wpAny_pyIter_range (IsRange.new ..) (small_one (by decide) (by decide) (by walk_at "OM") (by walk_at "OM")) ?_
 have hsz:Builtin.Range.rangeSize 0 (n:Int) 1=(n:Int):=by rw [rangeSize_one];split <;> walk_at "OM"
 have hLs:env.locals<s.heap.objs.size:=F.ns.lt
 have F2:=(F.push { cls:=.type "range", data:=.fields #[.int 0 s.toks,.int (n:Int) t,.int 1 (s.toks+1)] }).push { cls:=.type "range_iterator", data:=.fields #[rawInt 0,rawInt (Builtin.Range.rangeSize 0 (n:Int) 1),rawInt 1] }
 have N2:News g env.locals ((s.heap.push { cls:=.type "range", data:=.fields #[.int 0 s.toks,.int (n:Int) t,.int 1 (s.toks+1)] }).push { cls:=.type "range_iterator", data:=.fields #[rawInt 0,rawInt (Builtin.Range.rangeSize 0 (n:Int) 1),rawInt 1] }) news :=
  fun p hp=>⟨Heap.get?_push_of_some _ (Heap.get?_push_of_some _ (N p hp).1),(N p hp).2⟩
 have hI:(s.heap.push { cls:=.type "range", data:=.fields #[.int 0 s.toks,.int (n:Int) t,.int 1 (s.toks+1)] }).objs.size=s.heap.objs.size+1:=Heap.size_push _ _
 refine codeAny_forLoop_fr3 (h₀:=g) (n:=n) (news:=news) (Walks.range hh _ 0 1 n) hx hp ?_ ?_ ?_ ?_ F2 N2 J h0 ?_ ?_
 ·exact notIn_one (by rw [hI];exact Nat.ne_of_lt (Nat.lt_succ_of_lt hLs))
 ·intro b hb
  rw [List.mem_singleton.mp hb,hI]
  cases q:g.get? (s.heap.objs.size+1) with
  | none=>rfl
  | some o=>exact absurd (Heap.lt_size (F.keep _ _ q)) (Nat.not_lt.mpr (Nat.le_succ _))
 ·intro p hp
  refine notIn_one ?_
  rw [hI]
  exact Nat.ne_of_lt (Nat.lt_succ_of_lt (Heap.lt_size (N p hp).1))
 ·have e1:(0+((0:Nat):Int)*1)=0:=by simp
  have e2:((n:Int)-((0:Nat):Int))=Builtin.Range.rangeSize 0 (n:Int) 1:=by rw [hsz];simp
  rw [e1,e2]
  exact Heap.get?_push_size _ rfl
 ·intro i v m₁ news₁ s₁ own hs1 hi hP hJ hmap hown1 hown2 F1 N1
  refine xEE hs1 fun h tk zq150=>?_
  try clear hs1
  obtain rfl:=zq150
  refine xE hP fun u zq149=>?_
  try clear hP
  obtain rfl:=zq149
  rw [show (0:Int)+(i:Int)*1=(i:Int) by walk_at "OM"] at F1
  refine wpAny_mono (step i u m₁ news₁ h tk own hi (fun p hp hm=>by
   refine xEA (List.mem_map.mp hm) fun q hq e=>?_
   have e1:=List.mem_singleton.mp (hown1 p hp)
   rw [hI] at e1
   exact Nat.ne_of_lt (Nat.lt_succ_of_lt (Heap.lt_size (N q hq).1)) (e.trans e1)) hJ hmap F1 (fun p hp=>N1 p (List.mem_append.mpr ((List.mem_append.mp hp).symm)))) (fun f s' hf=>?_) fun zz zz e=>e
  cases f with
  | next =>
   refine jf8 hf fun h' tk' m₂ news₂ zq148 F5 N5 hn5 hJ5=>?_
   try clear hf
   obtain rfl:=zq148
   exact LoopStep3.next (LoopStep2.intro F5 (fun p hp=>N5 p (List.mem_append.mpr ((List.mem_append.mp hp).symm))) hn5 hJ5)
  | cont =>
   refine jf8 hf fun h' tk' m₂ news₂ zq147 F5 N5 hn5 hJ5=>?_
   try clear hf
   obtain rfl:=zq147
   exact (LoopStep2.intro F5 (fun p hp=>N5 p (List.mem_append.mpr ((List.mem_append.mp hp).symm))) hn5 hJ5)
  | brk=>exact hf.elim
  | ret v=>exact hf
 ·intro h' tk m' news' F' N' hmap hJ
  exact done h' tk m' news' F' N' hmap hJ
theorem jnz {n:Nat} {t:Tok} (nw:Nat->List (Addr×Obj)) (hh:A.handled=none) (F:Fr g env.locals s.heap m) (N:News g env.locals s.heap news) (hx:env.kindOf x=some .local)
  (hp:(env.scope.kind==.class || (env.scope.kind==.module&&env.locals != env.globals))=false) (hn:n<1000000) (h0:nw 0=news) (ha:∀ i,(nw (i+1)).map (·.1)=(nw i).map (·.1))
  (step:∀ i u h tk own,i<n->(∀ p∈own,p.1∉news.map (·.1))->Fr g env.locals h (fun y=>if y=x then some (.int (i:Int) u) else m y)->News g env.locals h (nw i++own) →
   wpAny (model prog w) A (execs body env) (fun f s'=>jl2 (f=.next∧∃ h' tk',s' = { s with heap:=h',toks:=tk' }∧Fr g env.locals h' (fun y=>if y=x then some (.int (i:Int) u) else m y)∧News g env.locals h' (nw (i+1)++own))) (notedBy (model prog w) A env fun e s'=>R (.error e) s') { s with heap:=h,toks:=tk })
  (done:∀ h' tk r0,Fr g env.locals h' (fun y=>if y=x then r0 else m y)->News g env.locals h' (nw n)->R (.ok .next) { s with heap:=h',toks:=tk }) :
  wpAny (model prog w) A (call (.type "range") [.int (n:Int) t]) (fun v s₁=>wpAny (model prog w) A (pyIter v) (fun it s₂=>codeAny (model prog w) A (.forLoop (.Name x px) it body [] env) R s₂) E s₁) E s:=by
 refine jpq hh F N hx hp hn (fun i m' nw'=>nw'=nw i∧∃ r0,m'=fun y=>if y=x then r0 else m y) ⟨h0.symm,m x,?_⟩ ?_ ?_
 ·funext y
  by_cases hy:y=x
  ·rw [if_pos hy,hy]
  ·rw [if_neg hy]
 ·intro i u m₁ news₁ h tk own hi ho hJ hmap F1 N1
  refine xAE hJ fun zq145 r0 zq146=>?_
  try clear hJ
  obtain rfl:=zq145
  obtain rfl:=zq146
  have e:(fun y=>if y=x then some (Value.int (i:Int) u) else (fun y=>if y=x then r0 else m y) y)=fun y=>if y=x then some (Value.int (i:Int) u) else m y:=by
   funext y
   by_cases hy:y=x
   ·simp only [if_pos hy]
   ·simp only [if_neg hy]
  refine wpAny_mono (step i u h tk own hi ho (e▸F1) N1) (fun f s' hf=>?_) fun zz zz e=>e
  refine xAEEAA hf fun zq143 h' tk' zq144 F5 N5=>?_
  try clear hf
  obtain rfl:=zq143
  obtain rfl:=zq144
  exact ⟨h',tk',_,_,rfl,F5,N5,ha i,rfl,_,rfl⟩
 ·intro h' tk m' news' F' N' hmap hJ
  refine xAE hJ fun zq141 r0 zq142=>?_
  try clear hJ
  obtain rfl:=zq141
  obtain rfl:=zq142
  exact done h' tk r0 F' N'
theorem jw4 {n:Nat} {t:Tok} {x2:Str} {t0:Tok} (nw:Nat->List (Addr×Obj)) (v2:Nat->Int) (hh:A.handled=none) (F:Fr g env.locals s.heap m) (N:News g env.locals s.heap news) (hx:env.kindOf x=some .local)
  (hp:(env.scope.kind==.class || (env.scope.kind==.module&&env.locals != env.globals))=false) (hn:n<1000000) (h0:nw 0=news) (ha:∀ i,(nw (i+1)).map (·.1)=(nw i).map (·.1)) (hne:x2≠x) (hm2:m x2=some (.int (v2 0) t0))
  (step:∀ i u t2 h tk own,i<n->(∀ p∈own,p.1∉news.map (·.1))->Fr g env.locals h (fun y=>if y=x then some (.int (i:Int) u) else if y=x2 then some (.int (v2 i) t2) else m y)->News g env.locals h (nw i++own) →
   wpAny (model prog w) A (execs body env) (fun f s'=>jl2 (f=.next∧∃ h' tk' t3,s' = { s with heap:=h',toks:=tk' }∧Fr g env.locals h' (fun y=>if y=x2 then some (.int (v2 (i+1)) t3) else if y=x then some (.int (i:Int) u) else if y=x2 then some (.int (v2 i) t2) else m y)∧News g env.locals h' (nw (i+1)++own))) (notedBy (model prog w) A env fun e s'=>R (.error e) s') { s with heap:=h,toks:=tk })
  (done:∀ h' tk r0 t3,Fr g env.locals h' (fun y=>if y=x2 then some (.int (v2 n) t3) else if y=x then r0 else m y)->News g env.locals h' (nw n)->R (.ok .next) { s with heap:=h',toks:=tk }) :
  wpAny (model prog w) A (call (.type "range") [.int (n:Int) t]) (fun v s₁=>wpAny (model prog w) A (pyIter v) (fun it s₂=>codeAny (model prog w) A (.forLoop (.Name x px) it body [] env) R s₂) E s₁) E s:=by
 refine jpq hh F N hx hp hn (fun i m' nw'=>nw'=nw i∧∃ r0 t3,m'=fun y=>if y=x2 then some (.int (v2 i) t3) else if y=x then r0 else m y) ⟨h0.symm,m x,t0,?_⟩ ?_ ?_
 ·funext y
  by_cases hy:y=x2
  ·rw [if_pos hy,hy];exact hm2
  ·rw [if_neg hy]
   by_cases hz:y=x
   ·rw [if_pos hz,hz]
   ·rw [if_neg hz]
 ·intro i u m₁ news₁ h tk own hi ho hJ hmap F1 N1
  refine xAEE hJ fun zq139 r0 t3 zq140=>?_
  try clear hJ
  obtain rfl:=zq139
  obtain rfl:=zq140
  have e:(fun y=>if y=x then some (Value.int (i:Int) u) else (fun y=>if y=x2 then some (.int (v2 i) t3) else if y=x then r0 else m y) y)=fun y=>if y=x then some (Value.int (i:Int) u) else if y=x2 then some (.int (v2 i) t3) else m y:=by
   funext y
   by_cases hy:y=x
   ·simp only [if_pos hy]
   ·simp only [if_neg hy]
  refine wpAny_mono (step i u t3 h tk own hi ho (e▸F1) N1) (fun f s' hf=>?_) fun zz zz e=>e
  refine jd2 hf fun zq137 h' tk' t4 zq138 F5 N5=>?_
  try clear hf
  obtain rfl:=zq137
  obtain rfl:=zq138
  refine ⟨h',tk',_,_,rfl,F5,N5,ha i,rfl,some (.int (i:Int) u),t4,?_⟩
  funext y
  by_cases hy:y=x2
  ·simp only [if_pos hy]
  ·simp only [if_neg hy]
 ·intro h' tk m' news' F' N' hmap hJ
  refine xAEE hJ fun zq135 r0 t3 zq136=>?_
  try clear hJ
  obtain rfl:=zq135
  obtain rfl:=zq136
  exact done h' tk r0 t3 F' N'
end
theorem fl11:True:=by first|walk1|trivial
section
local macro_rules (kind:=PyProof.Rows.tacticWalk_at_) | s=>jex "AJOPGHEQRVWX%" s
local macro_rules | `(tactic| k_all)=>jo2 "%" "k_all"
theorem BA.call_baN {prog:Program} {w:World} {A:Around} {E:Value->Shared->Prop} {s:Shared} {h₀:Heap} {L:Addr} {m:Str->Option Value} {news:List (Addr×Obj)} {b:Array UInt8} {t:Tok} {Q:Value->Shared->Prop} (hg:A.guards=some []) (F:Fr h₀ L s.heap m) (N:News h₀ L s.heap news) (hz:b.size≤sizeLine)
  (h:∀ D h',Fr h₀ L h' m->News h₀ L h' ((D,jc5 b)::news)->(∀ p∈news,p.1<D)->Q (.ref D) { s with heap:=h' }) :
  wpG (model prog w) A (call (.type "bytearray") [.bytes b t]) Q E s :=
 BA.call_ba hg hz fun h' e k=>h _ h' (F.keeps k) (jmw F (fun p hp=>⟨k _ _ (N p hp).1,(N p hp).2⟩) e (Heap.get?_none_of_le (Nat.le_refl _))) fun p hp=>Heap.lt_size (N p hp).1
theorem jfw {M:Model} {A:Around} {E:Value->Shared->Prop} {s:Shared} {env:Env} {pos:Pos} {T:String} {first:List Value} {Q:Value->Shared->Prop} {e:Expr} {rest:List Expr}
  (h:wpAny M A (spliced (backTo pos (starEach (e::rest) env))) (fun vs s₁=>wpG M A (call (.type T) (first++vs)) Q E s₁) E s)
  (he:starEach (e::rest) env=(false,eval e env)::starEach rest env) (hplain:(backTo pos (starEach rest env)).any (·.1)=false) :
  wpG M A (callWith pos (.type T) first (backTo pos (starEach (e::rest) env)) []) Q E s:=by
 rw [he] at h ⊢
 exact jkk (by show (false || (backTo pos (starEach rest env)).any (·.1))=false;rw [hplain];rfl) (evalArgs_plain h)
section
variable {w:World} {mg mb:Str->Option Value} {hb:Heap} {s:Shared} {A:Around}
theorem ko4 {x d lam rl:Addr} {sec:Int} {T:Nat->Tok} {name key hdr pl:Array UInt8} {off L:Nat} {t1 t2 t3 t4:Tok} (B:jbw w mg mb hb) (S:Sub hb s.heap) (hC:jav A 6) (P:jb6 s.heap lam rl sec)
  (hx:s.heap.get? x=some (instObj 114 d)) (hd:s.heap.get? d=some (hpD w.params T (.bytes name t1) (.bytes key t2) (.ref lam))) (hk:0<key.size) (hk2:key.size≤1000)
  (hsz:hdr.size=off+L) (hoff:1≤off) (hoff2:off≤100) (hL:1≤L) (hL4:L≤4) (hb0:bitAnd (gB hdr 0:Nat) 3=(L:Int)-1) (hb7:bitAnd (gB (hdr++pl) 0:Nat) 128=0) (hp:pl.size≤1000) :
  jq7 w A s (.call (.ref 97) ⟨[.ref x,.bytes hdr t3,.bytes pl t4],[]⟩) [] (fun v zz=>∃ t mask,mask=jg8 key (picked pl (some ((4-L:Nat):Int)) (some ((20-L:Nat):Int)))∧v=.bytes (jc1 (jl4 (hdr++pl) 0 (bitAnd (gB mask 0:Nat) 31)) off mask L) t):=by
 intro R hR
 refine openA A hC fun dp fr un hC=>?_
 refine xEAE P.fn fun ol hol fd hfd=>?_
 refine jq3 (news:=[]) (binds:=[("self", .ref x),("plain_header", .bytes hdr t3),("protected_payload", .bytes pl t4)]) (bl:=[("protected_payload", .bytes pl t4),("plain_header", .bytes hdr t3),("self", .ref x)])
  B S (fun p hp=>nomatch hp) (by k_is) (by k_is) hC.room (BindsTo.of_eq rfl) (by kernel_rfl!) (by kernel_rfl!) ?_ (by kernel_rfl!) (by kernel_rfl!) (by kernel_rfl!) (by kernel_rfl!)
 intro g L' h₁ tk B' F N hg hs hl
 have KX:=B'.k
 have TR:=B'.t
 have hsg:Sub s.heap g:=fun b o e=>hg b o e (by simp)
 have gx:=hsg _ _ hx
 have gd:=hsg _ _ hd
 have P':=P.keeps (jaz.of_sub hsg)
 have q2:((L:Int)-1)+1=(L:Nat):=by walk_at "OM"
 have q3:((off+L:Nat):Int)-(L:Nat)=(off:Nat):=by walk_at "OM"
 have r0:∀ i:Nat,(1:Int)+(i:Nat)=((1+i:Nat):Int):=fun i=>(Int.natCast_add 1 i).symm
 have p0:∀ i:Nat,((off:Nat):Int)+(i:Nat)=((off+i:Nat):Int):=fun i=>(Int.natCast_add off i).symm
 have z1:hdr.size≤104:=hsz▸Nat.add_le_add hoff2 hL4
 have z2:hdr.size+pl.size≤1104:=Nat.add_le_add z1 hp
 have z3:off+L≤104:=Nat.add_le_add hoff2 hL4
 have z4:0<hdr.size:=hsz▸Nat.lt_of_lt_of_le hoff (Nat.le_add_right _ _)
 have z5:0<hdr.size+pl.size:=Nat.lt_of_lt_of_le z4 (Nat.le_add_right _ _)
 obtain ⟨mk,hmk⟩:∃ mk,mk=jg8 key (picked pl (some ((4-L:Nat):Int)) (some ((20-L:Nat):Int))):=⟨_,rfl⟩
 have hms:mk.size=5:=by rw [hmk,jk0]
 rw [← hmk] at hR
 obtain ⟨lo,hlo⟩:∃ lo,4-L=lo:=⟨_,rfl⟩
 obtain ⟨hi,hhi⟩:∃ hi,20-L=hi:=⟨_,rfl⟩
 rw [hlo,hhi] at hmk
 have s0:(4:Int)-(L:Nat)=((lo:Nat):Int):=by walk_at "OM"
 have s1:((lo:Nat):Int)+16=((hi:Nat):Int):=by walk_at "OM"
 clear hlo hhi
 have hpk:(picked pl (some ((lo:Nat):Int)) (some ((hi:Nat):Int))).size≤1000:=Nat.le_trans (KBc.size_picked_le _ _ _) hp
 refine jf9 4 ?_
 try dsimp only [List.take,List.drop]
 walk_at "GO"
 rename_i h5 F5 N5
 rw [← hmk] at F5
 clear hmk
 refine ja4 (jez (jlz ?_) (by rfl))
 walk1
 try dsimp only
 refine jfw ?_ (by rfl) (by rfl)
 walk_at "GO"
 refine' BA.call_baN rfl ?F ?N ?z ?_
 case F=>k_asm
 case N=>k_asm
 case z=>(rw [PySem.sizeLine_eq];simp only [Array.size_append];walk_at "OM")
 intro D h6 F6 N6 l6
 walk1
 try dsimp only
 refine jcz (jg4 1 ?_)
 try dsimp only [List.take,List.drop]
 walk_at "GO"
 refine jl2.go (wpAny_execs_cons (wpAny_For ?_))
 walk1
 try dsimp only
 walk1
 try dsimp only
 walk1
 try dsimp only
 walk1
 try dsimp only
 walk1
 try dsimp only
 walk1
 try dsimp only
 refine' jnz (fun i=>[(D,jc5 (jc1 (jl4 (hdr++pl) 0 (bitAnd (gB mk 0:Nat) 31)) off mk i))]) rfl ?F ?N ?hx ?hp (by walk_at "OM") rfl (fun _=>rfl) ?_ ?_
 case F=>k_asm
 case N=>k_asm
 case hx=>kernel_rfl!
 case hp=>rfl
 ·intro i u h7 tk7 own hi9 hoff7 F7 N7
  have hoff8:∀ p∈own,p.1≠D:=fun p hp e=>hoff7 p hp (by simp [e])
  have r0':=r0 i
  have p0':=p0 i
  have hsz7:(jc1 (jl4 (hdr++pl) 0 (bitAnd (gB mk 0:Nat) 31)) off mk i).size=hdr.size+pl.size:=by rw [jdx,jd4,Array.size_append]
  have hsz8:(jc1 (jl4 (hdr++pl) 0 (bitAnd (gB mk 0:Nat) 31)) off mk i).size≤1104:=hsz7▸z2
  have hsz9:off+i<(jc1 (jl4 (hdr++pl) 0 (bitAnd (gB mk 0:Nat) 31)) off mk i).size:=by rw [hsz7,hsz];exact Nat.lt_of_lt_of_le (Nat.add_lt_add_left hi9 off) (Nat.le_add_right _ _)
  have hm9:1+i<mk.size:=by rw [hms];exact Nat.add_lt_add_left (Nat.lt_of_lt_of_le hi9 hL4) 1
  simp only [List.cons_append,List.nil_append] at N7
  walk_at "GO"
  rename_i h8 F8 N8
  exact jl2.go (ksw rfl h8 _ rfl F8 N8)
 ·intro h7 tk7 r7 F7 N7
  have hsz7:(jc1 (jl4 (hdr++pl) 0 (bitAnd (gB mk 0:Nat) 31)) off mk L).size=hdr.size+pl.size:=by rw [jdx,jd4,Array.size_append]
  have hsz8:(jc1 (jl4 (hdr++pl) 0 (bitAnd (gB mk 0:Nat) 31)) off mk L).size≤1104:=hsz7▸z2
  show wpAny _ _ _ _ _ _
  walk_at "GO"
  exact hR _ _ _ (ja5 hg (by assumption)) (jhj _ _ rfl rfl)
end
end
theorem fl12:True:=by first|walk1|trivial
section
local macro_rules (kind:=PyProof.Rows.tacticWalk_at_) | s=>jex "AJOPGHEQRVWX%Y" s
local macro_rules | `(tactic| k_all)=>jo2 "%" "k_all"
noncomputable def pnT (b:Array UInt8) (off:Nat) (mk:Array UInt8):Nat->Int
 | 0=>0
 | k+1=>bitOr (gB (jc1 b off mk (k+1)) (off+k):Nat) (pnT b off mk k*2 ^ (8:Int).toNat)
theorem jnj (b:Array UInt8) (off:Nat) (mk:Array UInt8):∀ k,0≤pnT b off mk k∧pnT b off mk k<256 ^ k
 | 0=>⟨Int.le_refl _,by show (0:Int)<256 ^ 0;decide⟩
 | k+1=>by
  have ih:=jnj b off mk k
  have hg:=jo4 (jc1 b off mk (k+1)) (off+k)
  rw [pnT,bitOr_and,bitAnd_pp (Int.natCast_nonneg _) (by have:=ih.1;show 0≤pnT b off mk k*256;exact Int.mul_nonneg this (by decide))]
  have h2:(Int.toNat (gB (jc1 b off mk (k+1)) (off+k):Nat)) &&& (pnT b off mk k*2 ^ (8:Int).toNat).toNat≤(Int.toNat (gB (jc1 b off mk (k+1)) (off+k):Nat)):=Nat.and_le_left
  have e:pnT b off mk k*2 ^ (8:Int).toNat=pnT b off mk k*256:=rfl
  have e2:(256:Int) ^ (k+1)=256 ^ k*256:=Int.pow_succ ..
  rw [e2]
  rw [e] at h2 ⊢
  generalize (256:Int) ^ k=z at *
  exact pr hg h2 ih
theorem if_cut {α:Type} {prog:Program} {w:World} {A:Around} {E:Value->Shared->Prop} {s:Shared} {env:Env} {g:Heap} {L:Addr} {m:Str->Option Value} {news:List (Addr×Obj)} {st:Stmt} {rest:List Stmt} {Q:Flow->Shared->Prop} (nw:α->List (Addr×Obj)) (P:α->Prop) (F:Fr g L s.heap m) (N:News g L s.heap news)
  (h1:Fr g L s.heap m->News g L s.heap news->wpAny (model prog w) A (exec st env) (fun f s'=>jl2 (f=.next∧∃ h' tk a,s' = { s with heap:=h',toks:=tk }∧Fr g L h' m∧News g L h' (nw a)∧P a)) E s)
  (h2:∀ h' tk a,Fr g L h' m->News g L h' (nw a)->P a->wpAny (model prog w) A (execs rest env) Q E { s with heap:=h',toks:=tk }):wpAny (model prog w) A (execs (st::rest) env) Q E s:=by
 refine wpAny_execs_cons (wpAny_mono (h1 F N) (fun f s' hf=>?_) fun zz zz e=>e)
 refine km5 hf fun zq121 h' tk a zq122 F' N' hp=>?_
 try clear hf
 obtain rfl:=zq121
 obtain rfl:=zq122
 exact h2 h' tk a F' N' hp
theorem gt_f {prog:Program} {w:World} {A:Around} {E:Value->Shared->Prop} {s:Shared} {a b:Int} {t u:Tok} {Q:Value->Shared->Prop} (e:¬ (b<a)) (h:Q (.bool false) s):wpAny (model prog w) A (compareOp .Gt (.int a t) (.int b u)) Q E s:=gt_int (by rw [decide_eq_false e];exact h)
noncomputable def m0I (p mk:Array UInt8):Int:=if bitAnd (gB p 0:Nat) 128=0 then bitAnd (gB mk 0:Nat) 31 else bitAnd (gB mk 0:Nat) 15
theorem m0I_in (p mk:Array UInt8):0≤m0I p mk∧m0I p mk<256:=by
 unfold m0I
 split
 ·exact BA.m_and _ _ (by decide)
 ·exact BA.m_and _ _ (by decide)
noncomputable def ji2 (p mk:Array UInt8) (off:Nat):Array UInt8:=picked (jc1 (jl4 p 0 (m0I p mk)) off mk (gB (jl4 p 0 (m0I p mk)) 0 % 4+1)) none (some ((off+(gB (jl4 p 0 (m0I p mk)) 0 % 4+1):Nat):Int))
noncomputable def jyw (p mk:Array UInt8) (off:Nat):Int:=pnT (jl4 p 0 (m0I p mk)) off mk (gB (jl4 p 0 (m0I p mk)) 0 % 4+1)
section
variable {w:World} {mg mb:Str->Option Value} {hb:Heap} {s:Shared} {A:Around}
theorem ki5 {x d lam rl:Addr} {sec:Int} {T:Nat->Tok} {name key p:Array UInt8} {off:Nat} {t1 t2 t3 t4:Tok} (B:jbw w mg mb hb) (S:Sub hb s.heap) (hC:jav A 6) (P:jb6 s.heap lam rl sec)
  (hx:s.heap.get? x=some (instObj 114 d)) (hd:s.heap.get? d=some (hpD w.params T (.bytes name t1) (.bytes key t2) (.ref lam))) (hk:0<key.size) (hk2:key.size≤1000)
  (hsz:off+20≤p.size) (hp:p.size≤1000) :
  jq7 w A s (.call (.ref 104) ⟨[.ref x,.bytes p t3,.int (off:Nat) t4],[]⟩) [] (fun v h'=>∃ mk a u1 u2,mk=jg8 key (picked p (some ((off+4:Nat):Int)) (some ((off+20:Nat):Int)))∧v=.ref a∧s.heap.get? a=none∧h'.get? a=some (jl7 #[.bytes (ji2 p mk off) u1,.int (jyw p mk off) u2])):=by
 intro R hR
 refine openA A hC fun dp fr un hC=>?_
 refine xEAE P.fn fun ol hol fd hfd=>?_
 refine jq3 (news:=[]) (binds:=[("self", .ref x),("packet", .bytes p t3),("pn_offset", .int (off:Nat) t4)]) (bl:=[("pn_offset", .int (off:Nat) t4),("packet", .bytes p t3),("self", .ref x)])
  B S (fun p hp=>nomatch hp) (by k_is) (by k_is) hC.room (BindsTo.of_eq rfl) (by kernel_rfl!) (by kernel_rfl!) ?_ (by kernel_rfl!) (by kernel_rfl!) (by kernel_rfl!) (by kernel_rfl!)
 intro g L' h₁ tk B' F N hg hs hl
 have KX:=B'.k
 have TR:=B'.t
 have hsg:Sub s.heap g:=fun b o e=>hg b o e (by simp)
 have gx:=hsg _ _ hx
 have gd:=hsg _ _ hd
 have P':=P.keeps (jaz.of_sub hsg)
 have s0:((off:Nat):Int)+4=((off+4:Nat):Int):=(Int.natCast_add off 4).symm
 have s1:((off+4:Nat):Int)+16=((off+20:Nat):Int):=(Int.natCast_add (off+4) 16).symm
 have s2:¬ (((p.size:Nat):Int)<((off+20:Nat):Int)):=Int.not_lt.mpr (Int.ofNat_le.mpr hsz)
 have y0:0<p.size:=Nat.lt_of_lt_of_le (Nat.lt_of_lt_of_le (by decide) (Nat.le_add_left 20 off)) hsz
 obtain ⟨pz,hpz⟩:∃ pz,p.size=pz:=⟨_,rfl⟩
 rw [hpz] at s2
 have y1:pz≤1000:=hpz▸hp
 have hpk:(picked p (some ((off+4:Nat):Int)) (some ((off+20:Nat):Int))).size≤1000:=Nat.le_trans (KBc.size_picked_le _ _ _) hp
 obtain ⟨mk,hmk⟩:∃ mk,mk=jg8 key (picked p (some ((off+4:Nat):Int)) (some ((off+20:Nat):Int))):=⟨_,rfl⟩
 have hms:mk.size=5:=by rw [hmk,jk0]
 rw [← hmk] at hR
 refine jf9 3 ?_
 try dsimp only [List.take,List.drop]
 walk_at "GO"
 rename_i h5 F5 N5
 rw [← hmk] at F5
 clear hmk
 refine ja4 (jez (jlz ?_) (by rfl))
 walk1
 try dsimp only
 refine jfw ?_ (by rfl) (by rfl)
 walk_at "GO"
 refine' BA.call_baN rfl ?F ?N ?z ?_
 case F=>k_asm
 case N=>k_asm
 case z=>(rw [PySem.sizeLine_eq];walk_at "OM")
 intro D h6 F6 N6 l6
 walk1
 try dsimp only
 refine jcz ?_
 refine' if_cut (fun _:Unit=>[(D,jc5 (jl4 p 0 (m0I p mk)))]) (fun zz=>True) ?F ?N ?h1 ?h2
 case F=>k_asm
 case N=>k_asm
 case h1 =>
  intro F9 N9
  walk_at "GO"
  all_goals (rename_i h8 F8 N8;first | have e:m0I p mk=bitAnd (gB mk 0:Nat) 15:=if_neg (by assumption) | have e:m0I p mk=bitAnd (gB mk 0:Nat) 31:=if_pos (by assumption))
  all_goals (rw [← e] at N8;exact jl2.go (ko3 rfl h8 _ () rfl F8 N8 trivial))
 case h2 =>
  intro h7 tk7 _ F7 N7 _
  have hq:=m0I_in p mk
  obtain ⟨b0,hb0⟩:∃ b0,jl4 p 0 (m0I p mk)=b0:=⟨_,rfl⟩
  have hbs:b0.size=p.size:=by rw [← hb0,jd4]
  have y2:b0.size≤1000:=hbs▸hp
  have y3:0<b0.size:=hbs▸y0
  have hR':∀ (a:Addr) (u1 u2:Tok) (h':Heap) (tk:Nat),jb8 s.heap [] h'->s.heap.get? a=none->h'.get? a=some (jl7 #[.bytes (picked (jc1 b0 off mk (gB b0 0 % 4+1)) none (some ((off+(gB b0 0 % 4+1):Nat):Int))) u1,.int (pnT b0 off mk (gB b0 0 % 4+1)) u2])->R (.ok (.ret (.ref a))) { s with heap:=h',toks:=tk }:=fun a u1 u2 h' tk H e1 e2=>hR _ h' tk H (jc3 mk a u1 u2 rfl rfl e1 (by unfold ji2 jyw;rw [hb0];exact e2))
  rw [hb0] at N7
  clear hR
  obtain ⟨Ln,hLn⟩:∃ Ln,Ln=gB b0 0 % 4+1:=⟨_,rfl⟩
  have hL1:1≤Ln∧Ln≤4:=hLn▸⟨Nat.succ_le_succ (Nat.zero_le _),Nat.mod_lt _ (by decide)⟩
  have y4:Ln≤4:=hL1.2
  have q1:bitAnd (gB b0 0:Nat) 3=((gB b0 0 % 4:Nat):Int):=bitAnd_m2 _
  have q2:((gB b0 0 % 4:Nat):Int)+1=(Ln:Nat):=by rw [hLn];exact (Int.natCast_add _ 1).symm
  have q3:((off:Nat):Int)+(Ln:Nat)=((off+Ln:Nat):Int):=(Int.natCast_add off Ln).symm
  rw [← hLn] at hR'
  clear hLn
  have r0:∀ i:Nat,(1:Int)+(i:Nat)=((1+i:Nat):Int):=fun i=>(Int.natCast_add 1 i).symm
  have p0:∀ i:Nat,((off:Nat):Int)+(i:Nat)=((off+i:Nat):Int):=fun i=>(Int.natCast_add off i).symm
  refine jg4 2 ?_
  try dsimp only [List.take,List.drop]
  walk_at "GO"
  refine jl2.go (wpAny_execs_cons (wpAny_For ?_))
  walk1
  try dsimp only
  walk1
  try dsimp only
  walk1
  try dsimp only
  walk1
  try dsimp only
  walk1
  try dsimp only
  walk1
  try dsimp only
  refine' jw4 (x2 := "pn_truncated") (fun i=>[(D,jc5 (jc1 b0 off mk i))]) (pnT b0 off mk) rfl ?F ?N ?hx ?hp (by walk_at "OM") rfl (fun _=>rfl) ?hne ?hm ?_ ?_
  case F=>k_asm
  case N=>k_asm
  case hx=>kernel_rfl!
  case hp=>rfl
  case hne=>decide
  case hm=>(simp only [chain,je5,String.reduceEq,reduceIte];exact rfl)
  ·intro i u t2 h7 tk7 own hi hoff7 F7 N7
   have hoff8:∀ p∈own,p.1≠D:=fun p hp e=>hoff7 p hp (by simp [e])
   have r0':=r0 i
   have p0':=p0 i
   have hT:=jnj b0 off mk i
   have hT4:(256:Int) ^ i≤256 ^ 4:=by
    have:(256:Nat) ^ i≤256 ^ 4:=Nat.pow_le_pow_right (by decide) (Nat.le_trans (Nat.le_of_lt hi) y4)
    exact_mod_cast this
   have hT2:(pnT b0 off mk i).natAbs<2 ^ 64:=by walk_at "OM"
   have hsz7:(jc1 b0 off mk i).size=p.size:=by rw [jdx,hbs]
   have y5:(jc1 b0 off mk i).size≤1000:=hsz7▸hp
   have y6:off+i<(jc1 b0 off mk i).size:=by rw [hsz7];exact Nat.lt_of_lt_of_le (Nat.add_lt_add_left (Nat.lt_of_lt_of_le hi (Nat.le_trans y4 (by decide))) off) hsz
   have y7:1+i<mk.size:=by rw [hms];exact Nat.add_lt_add_left (Nat.lt_of_lt_of_le hi y4) 1
   have y8:i≤4:=Nat.le_trans (Nat.le_of_lt hi) y4
   simp only [List.cons_append,List.nil_append] at N7
   clear hT4
   walk_at "GO"
   rename_i h8 F8 N8
   exact jl2.go (jjz rfl h8 _ _ rfl F8 N8)
  ·intro h7 tk7 r7 t7 F7 N7
   have hsz7:(jc1 b0 off mk Ln).size=p.size:=by rw [jdx,hbs]
   have y5:(jc1 b0 off mk Ln).size≤1000:=hsz7▸hp
   have hpk2:(picked (jc1 b0 off mk Ln) none (some ((off+Ln:Nat):Int))).size≤1000:=Nat.le_trans (KBc.size_picked_le _ _ _) (by rw [hsz7];exact hp)
   show wpAny _ _ _ _ _ _
   walk_at "GO"
   rename_i D8 h8 F8 N8 l8
   exact hR' D8 _ _ h8 _ (ja5 hg F8) (jd7 hg (N8.fresh (.head _)) (by simp)) (N8.get (.head _))
end
end
theorem fl13:True:=by first|walk1|trivial
section
local macro_rules (kind:=PyProof.Rows.tacticWalk_at_) | s=>jex "AJOPGHEQRV" s
noncomputable def jl9 (tr n ex:Int):Int:=bitOr (bitAnd ex (bitNot (1*2 ^ n.toNat-1))) tr
noncomputable def jv2 (tr n ex:Int):Int :=
 if jl9 tr n ex≤ex-(1*2 ^ n.toNat:Int).fdiv 2∧jl9 tr n ex<1*2 ^ Int.toNat 62-1*2 ^ n.toNat then jl9 tr n ex+1*2 ^ n.toNat
 else if ex+(1*2 ^ n.toNat:Int).fdiv 2<jl9 tr n ex∧1*2 ^ n.toNat≤jl9 tr n ex then jl9 tr n ex-1*2 ^ n.toNat else jl9 tr n ex
section
variable {w:World} {mg mb:Str->Option Value} {hb:Heap} {s:Shared} {A:Around}
theorem klj {tr n ex:Int} {t1 t2 t3:Tok} (B:jbw w mg mb hb) (S:Sub hb s.heap) (hC:jav A 1) (hn:0≤n) (hn2:n≤64) :
  jb4 w A s (.call (.ref 139) ⟨[.int tr t1,.int n t2,.int ex t3],[]⟩) [] (fun v zz=>∃ t,v=.int (jv2 tr n ex) t):=by
 intro R hR
 refine openA A hC fun dp fr un hC=>?_
 refine jcj (news:=[]) (binds:=[("truncated", .int tr t1),("num_bits", .int n t2),("expected", .int ex t3)]) (bl:=[("expected", .int ex t3),("num_bits", .int n t2),("truncated", .int tr t1)])
  B S (fun p hp=>nomatch hp) (by k_is) (by k_is) hC.room (BindsTo.of_eq rfl) (by kernel_rfl!) (by kernel_rfl!) ?_ (by kernel_rfl!) (by kernel_rfl!) (by kernel_rfl!) (by kernel_rfl!)
 intro g L' h₁ tk B' F N hg hs hl
 have KX:=B'.k
 have TR:=B'.t
 walk_at "GO"
 all_goals (refine hR _ _ _ (ja5 hg (by assumption)) ⟨_,congrArg (Value.int · _) ?_⟩)
 all_goals (unfold jv2 jl9;generalize (1:Int)*2 ^ Int.toNat 62=V at *;generalize (1:Int)*2 ^ n.toNat=W at *;generalize bitOr (bitAnd ex (bitNot (W-1))) tr=C at *;generalize W.fdiv 2=H at *;split <;> (try split) <;> first | rfl | (exfalso;first | exact absurd ⟨by assumption,by assumption⟩ ‹¬(C≤ex-H∧C<V-W)› | exact absurd ⟨by assumption,by assumption⟩ ‹¬(ex+H<C∧W≤C)› | exact absurd (‹C≤ex-H∧C<V-W›).1 (by assumption) | exact absurd (‹C≤ex-H∧C<V-W›).2 (by assumption) | exact absurd (‹ex+H<C∧W≤C›).1 (by assumption) | exact absurd (‹ex+H<C∧W≤C›).2 (by assumption)))
theorem kx4 {f:Int} {t1:Tok} (B:jbw w mg mb hb) (S:Sub hb s.heap) (hC:jav A 1) :
  jb4 w A s (.call (.ref 146) ⟨[.int f t1],[]⟩) [] (fun v zz=>v=.bool (bitAnd f 128 != 0)):=by
 intro R hR
 refine openA A hC fun dp fr un hC=>?_
 refine jcj (news:=[]) (binds:=[("first_byte", .int f t1)]) (bl:=[("first_byte", .int f t1)])
  B S (fun p hp=>nomatch hp) (by k_is) (by k_is) hC.room (BindsTo.of_eq rfl) (by kernel_rfl!) (by kernel_rfl!) ?_ (by kernel_rfl!) (by kernel_rfl!) (by kernel_rfl!) (by kernel_rfl!)
 intro g L' h₁ tk B' F N hg hs hl
 have KX:=B'.k
 have TR:=B'.t
 walk_at "GO"
 exact hR _ _ _ (ja5 hg (by assumption)) rfl
theorem jw8 {x:Value} (B:jbw w mg mb hb) (S:Sub hb s.heap) (hC:jav A 1) :
  jb4 w A s (.call (.ref 185) ⟨[x],[]⟩) [] (fun v zz=>v=.none):=by
 intro R hR
 refine openA A hC fun dp fr un hC=>?_
 refine jcj (news:=[]) (binds:=[("trigger", x)]) (bl:=[("trigger", x)])
  B S (fun p hp=>nomatch hp) (by k_is) (by k_is) hC.room (BindsTo.of_eq rfl) (by kernel_rfl!) (by kernel_rfl!) ?_ (by kernel_rfl!) (by kernel_rfl!) (by kernel_rfl!) (by kernel_rfl!)
 intro g L' h₁ tk B' F N hg hs hl
 have KX:=B'.k
 have TR:=B'.t
 walk_at "GO"
 exact hR _ _ _ (ja5 hg F) rfl
end
end
theorem fl14:True:=by first|walk1|trivial
section
local macro_rules (kind:=PyProof.Rows.tacticWalk_at_) | s=>jex "ANJOPGHEQZ!" s
noncomputable def ksz (suite:Int):Int:=if suite=4866∨suite=4867 then 32 else 16
theorem ksz_t {suite:Int} (h:(([4866,4867]:List Int).any fun x=>x==suite)=true):ksz suite=32:=if_pos (by simp only [List.any_cons,List.any_nil,Bool.or_false,Bool.or_eq_true,beq_iff_eq] at h;exact h.imp Eq.symm Eq.symm)
theorem ksz_f {suite:Int} (h:(([4866,4867]:List Int).any fun x=>x==suite)=false):ksz suite=16:=if_neg (by simp only [List.any_cons,List.any_nil,Bool.or_false,Bool.or_eq_false_iff,beq_eq_false_iff_ne] at h;exact fun q=>q.elim (fun e=>h.1 e.symm) fun e=>h.2 e.symm)
noncomputable def asz (suite:Int):Int:=if suite=4866 then 48 else 32
noncomputable def jx7 (sec:Int):Int:=if sec=0 then 1 else 1798521807
section
variable {w:World} {mg mb:Str->Option Value} {hb:Heap} {s:Shared} {A:Around}
theorem derive {lam rl:Addr} {sec suite:Int} {key:Array UInt8} {t1 t2 t3:Tok} (B:jbw w mg mb hb) (S:Sub hb s.heap) (hC:jav A 6) (P:jb6 s.heap lam rl sec)
  (hsec:sec=0∨sec=1) (hn:natBE key<2 ^ 64) :
  jb4 w A s (.call (.ref 204) ⟨[],[("primitives", .ref lam),("cipher_suite", .int suite t1),("secret", .bytes key t2),("version", .int (jx7 sec) t3)]⟩) []
   (fun v h'=>∃ a u1 u2 u3,v=.ref a∧s.heap.get? a=none∧h'.get? a=some (jl7 #[.bytes (BE (ksz suite).toNat (4*natBE key)) u1,.bytes (BE 12 (4*natBE key+1)) u2,.bytes (BE (ksz suite).toNat (4*natBE key+2)) u3])):=by
 intro R hR
 refine openA A hC fun dp fr un hC=>?_
 have hsec':=hsec
 rcases hsec' with rfl | rfl
 ·refine jcj (news:=[]) (binds:=[("primitives", .ref lam),("cipher_suite", .int suite t1),("secret", .bytes key t2),("version", .int 1 t3)]) (bl:=[("version", .int 1 t3),("secret", .bytes key t2),("cipher_suite", .int suite t1),("primitives", .ref lam)])
   B S (fun p hp=>nomatch hp) (by k_is) (by k_is) hC.room (BindsTo.of_eq rfl) (by kernel_rfl!) (by kernel_rfl!) ?_ (by kernel_rfl!) (by kernel_rfl!) (by kernel_rfl!) (by kernel_rfl!)
  intro g L' h₁ tk B' F N hg hs hl
  have KX:=B'.k
  have TR:=B'.t
  have P':jb6 g lam rl 0:=P.keeps (jaz.of_sub fun b o e=>hg b o e noN)
  walk_at "GO"
  all_goals (rename_i D5 h5 F5 N5 l5;(first | have hk:ksz suite=32:=ksz_t (by assumption) | have hk:ksz suite=16:=ksz_f (by assumption));rw [hk] at hR;exact hR _ _ _ (ja5 hg F5) (jxv D5 _ _ _ rfl (jd7 hg (N5.fresh (.head _)) (by simp)) (N5.get (.head _))))
 ·refine jcj (news:=[]) (binds:=[("primitives", .ref lam),("cipher_suite", .int suite t1),("secret", .bytes key t2),("version", .int 1798521807 t3)]) (bl:=[("version", .int 1798521807 t3),("secret", .bytes key t2),("cipher_suite", .int suite t1),("primitives", .ref lam)])
   B S (fun p hp=>nomatch hp) (by k_is) (by k_is) hC.room (BindsTo.of_eq rfl) (by kernel_rfl!) (by kernel_rfl!) ?_ (by kernel_rfl!) (by kernel_rfl!) (by kernel_rfl!) (by kernel_rfl!)
  intro g L' h₁ tk B' F N hg hs hl
  have KX:=B'.k
  have TR:=B'.t
  have P':jb6 g lam rl 1:=P.keeps (jaz.of_sub fun b o e=>hg b o e noN)
  walk_at "GO"
  all_goals (rename_i D5 h5 F5 N5 l5;(first | have hk:ksz suite=32:=ksz_t (by assumption) | have hk:ksz suite=16:=ksz_f (by assumption));rw [hk] at hR;exact hR _ _ _ (ja5 hg F5) (jxv D5 _ _ _ rfl (jd7 hg (N5.fresh (.head _)) (by simp)) (N5.get (.head _))))
end
end
theorem fl15:True:=by first|walk1|trivial
section
local macro_rules (kind:=PyProof.Rows.tacticWalk_at_) | s=>jex "AJOPGHEQRV" s
theorem jav.under {A:Around} {n:Nat} {C:Addr} {pos:List Value} {kw:List (Str×Value)} (c:jav A (n+1)):jav (A.under (.builtin "type.__call__" ⟨.ref C::pos,kw⟩)) n:=by
 obtain ⟨hd,dp,fr,gs,un⟩:=A
 obtain ⟨rfl,rfl⟩:hd=none∧gs=some []:=⟨c.h,c.g⟩
 exact ⟨rfl,rfl,by have:=c.d;show dp+1+n<_;dsimp only at this;walk_at "OM", by have:=c.u;show un+1+8*n<_;dsimp only at this;walk_at "OM"⟩
theorem jav.in1 {A:Around} {n:Nat} (c:jav A (n+1)):jav A.in1 n:=⟨c.h,c.g,by have:=c.d;show A.depth+n<_;walk_at "OM", by have:=c.u;show A.units+1+8*n<_;walk_at "OM"⟩
theorem jgx {w:World} {g:Heap} {s:Shared} {A:Around} {E:Value->Shared->Prop} {L C fI:Addr} {m:Str->Option Value} {news:List (Addr×Obj)} {pos:List Value} {kw:List (Str×Value)} {n:Nat} {P:Addr->Addr->Obj->Heap->Prop} {Q:Value->Shared->Prop}
  (hC:jav A (n+1)) (F:Fr g L s.heap m) (X:(K w.params).In g) (N:News g L s.heap news) (hm:makesIn (K w.params) C=true) (hi:findIn (K w.params) (.ref C) "__init__" = some (some (.ref fI))) (hf:isFn (K w.params) (.ref fI)=true)
  (sp:∀ x dx h',Sub s.heap h'->h'.get? x=some (instObj C dx)->h'.get? dx=some (dictOf [] 0)->s.heap.get? x=none->s.heap.get? dx=none->g.get? dx=none →
   jb4 w (A.under (.builtin "type.__call__" ⟨.ref C::pos,kw⟩)) { s with heap:=h' } (.call (.ref fI) ⟨.ref x::pos,kw⟩) [dx] (fun v h''=>v=.none∧∃ o,h''.get? dx=some o∧P x dx o h''))
  (h:∀ x dx o h' tk,Fr g L h' m->News g L h' ((x,instObj C dx)::(dx,o)::news)->(∀ p∈news,p.1<dx)->dx<x->s.heap.get? x=none->s.heap.get? dx=none->Sub s.heap h'->h'.get? dx=some o->P x dx o h'->Q (.ref x) { s with heap:=h',toks:=tk }) :
  wpAny (model pw w) A (call (.ref C) pos kw) Q E s:=by
 have hlt:∀ b o,s.heap.get? b=some o->b<s.heap.objs.size:=fun b o e=>Heap.lt_size e
 refine wpAny_call ?_
 obtain ⟨hh,gg,dd,tt,os⟩:=s
 refine make_core (makes_of (X.keeps F.keep) hm) (looks_findIn (X.keeps F.keep) hi) (fun self=>bind_fn (X.keeps F.keep) self (beq_iff_eq.mp hf)) (.inl rfl) ?_
 have N':=(N.push F emptyDict).push (F.push _) (instObj C hh.objs.size)
 rw [Heap.size_push] at N'
 have F':=(F.push emptyDict).push (instObj C hh.objs.size)
 have k:Sub hh ((hh.push emptyDict).push (instObj C hh.objs.size)):=fun b o e=>Heap.get?_push_of_some _ (Heap.get?_push_of_some _ e)
 have fx:hh.get? (hh.objs.size+1)=none:=Heap.get?_none_of_le (Nat.le_succ _)
 have fd:hh.get? hh.objs.size=none:=Heap.get?_none_of_le (Nat.le_refl _)
 refine sp (hh.objs.size+1) hh.objs.size _ k (N' _ (.head _)).1 (N' _ me1).1 fx fd (N' _ me1).2.2 _ fun v h'' tk H P'=>?_
 obtain ⟨rfl,o,ho,P'⟩:=P'
 have hx2:h''.get? (hh.objs.size+1)=some (instObj C hh.objs.size):=H _ _ (N' _ (.head _)).1 (fun q=>absurd (List.mem_singleton.mp q) (Nat.ne_of_gt (Nat.lt_succ_self _)))
 have F'':Fr g L h'' m:=jc0 F' H fun a ha=>by rw [List.mem_singleton.mp ha];exact (N' _ me1).2
 refine ⟨rfl,?_⟩
 exact h (hh.objs.size+1) hh.objs.size o h'' tk F'' (fun p hp=>by
   rcases List.mem_cons.mp hp with rfl | hp
   ·exact ⟨hx2,(N' _ (.head _)).2⟩
   rcases List.mem_cons.mp hp with rfl | hp
   ·exact ⟨ho,(N' _ me1).2⟩
   ·have n1:=N' p (mt2 hp)
    exact ⟨H _ _ n1.1 fun q=>absurd (List.mem_singleton.mp q) (Nat.ne_of_lt (hlt _ _ (N p hp).1)),n1.2⟩) (fun p hp=>hlt _ _ (N p hp).1) (Nat.lt_succ_self _) fx fd (fun b o e=>H b o (k b o e) fun q=>absurd (List.mem_singleton.mp q) (Nat.ne_of_lt (hlt _ _ e))) ho P'
noncomputable def je3 (suite:Int):Array UInt8:=if suite=4866 then nmB else if suite=4867 then nmC else nmA
noncomputable def hpNm (suite:Int):Array UInt8:=if suite=4866 then hmB else if suite=4867 then hmC else hmA
theorem kmq (suite:Int):je3 suite=nmA∨je3 suite=nmB∨je3 suite=nmC:=by
 unfold je3
 split
 ·exact .inr (.inl rfl)
 ·split
  ·exact .inr (.inr rfl)
  ·exact .inl rfl
theorem kyx (suite:Int):hpNm suite=hmA∨hpNm suite=hmB∨hpNm suite=hmC:=by
 unfold hpNm
 split
 ·exact .inr (.inl rfl)
 ·split
  ·exact .inr (.inr rfl)
  ·exact .inl rfl
theorem kb8 {w:World} {h:Heap} (X:(K w.params).In h):h.MapOf (intKind pw w) 175 (fun k=>if k=4865 then some (.ref 176) else if k=4866 then some (.ref 177) else if k=4867 then some (.ref 178) else none):=by
 refine ⟨kqz w.params,_,_,X 175 _ (by k_is),⟨rfl,rfl,rfl⟩,rfl,?_,?_⟩
 ·intro e he
  simp -iota only [List.mem_cons,Array.mem_def] at he
  rcases he with rfl | rfl | rfl | h
  ·exact ⟨4865,by simp [intKind,Value.isInt],rfl⟩
  ·exact ⟨4866,by simp [intKind,Value.isInt],rfl⟩
  ·exact ⟨4867,by simp [intKind,Value.isInt],rfl⟩
  ·cases h
 ·intro k
  show findBy Value.isInt _ k=_
  unfold findBy
  simp -iota only [List.find?_toArray,List.find?_cons,List.find?_nil,Value.isInt]
  by_cases h1:k=4865
  ·subst h1;rfl
  by_cases h2:k=4866
  ·subst h2;rfl
  by_cases h3:k=4867
  ·subst h3;rfl
  have z:∀ {b:Int},k≠b->(b==k)=false:=fun h=>beq_eq_false_iff_ne.mpr (Ne.symm h)
  rw [if_neg h1,if_neg h2,if_neg h3]
  simp only [z h1,z h2,z h3,Option.map_none]
theorem jwj {w:World} {A:Around} {E:Value->Shared->Prop} {s:Shared} {g:Heap} {L:Addr} {m:Str->Option Value} {value slice:Expr} {suite:Int} {u:Tok} {Q:Value->Shared->Prop}
  (F:Fr g L s.heap m) (X:(K w.params).In g) (hs:suite=4865∨suite=4866∨suite=4867)
  (h:∀ tp u1 u2,g.get? tp=some (jl7 #[.bytes (hpNm suite) u1,.bytes (je3 suite) u2])->Q (.ref tp) { s with toks:=s.toks+1 })
  (hsub:subscripted slice false (.ref 175) (.int suite u)=operate [.ref 175,.int suite u] (getItem (.ref 175) (.int suite u))) :
  wpAny (model pw w) A (subscriptTail value slice (.ref 175) (.int suite u)) Q E s:=by
 refine km1 (kb8 X) fun o es ep h1 h2 h3 h4 h5=>?_
 have hm':s.heap.MapOf (intKind pw w) 175 _:=⟨o,es,ep,F.keep _ _ h1,h2,h3,h4,h5⟩
 rcases hs with rfl | rfl | rfl
 ·exact tail_any hm'.typeIs slot_dict_getitem.lookup (wpAny_getItem_of (intKind_is pw w 4865 u) hm' (by rfl) (h 176 452 453 (X 176 _ (by k_is)))) hsub
 ·exact tail_any hm'.typeIs slot_dict_getitem.lookup (wpAny_getItem_of (intKind_is pw w 4866 u) hm' (by rfl) (h 177 455 456 (X 177 _ (by k_is)))) hsub
 ·exact tail_any hm'.typeIs slot_dict_getitem.lookup (wpAny_getItem_of (intKind_is pw w 4867 u) hm' (by rfl) (h 178 458 459 (X 178 _ (by k_is)))) hsub
section
variable {w:World} {mg mb:Str->Option Value} {hb g:Heap} {s:Shared} {A:Around} {E:Value->Shared->Prop} {L:Addr} {m:Str->Option Value} {news:List (Addr×Obj)} {Q:Value->Shared->Prop}
theorem kg7 {name iv key:Array UInt8} {lam:Addr} {t1 t2 t3:Tok} (B:jbw w mg mb g) (hC:jav A 2) (F:Fr g L s.heap m) (N:News g L s.heap news) (hname:name=nmA∨name=nmB∨name=nmC) (hiv:iv.size=12) (hiv2:natBE iv<2 ^ 64)
  (h:∀ x dx T u1 h' tk,Fr g L h' m->News g L h' ((x,instObj 72 dx)::(dx,jx2 w.params T (.bytes name t1) (.bytes key t2) (.ref lam) (.int (natBE iv:Int) u1))::news)->(∀ p∈news,p.1<dx)->dx<x->Q (.ref x) { s with heap:=h',toks:=tk }) :
  wpAny (model pw w) A (call (.ref 72) [.bytes name t1,.bytes key t2,.bytes iv t3,.ref lam]) Q E s :=
 jgx (n:=1) (fI:=48) (P:=fun zz dx o zz=>∃ T u1,o=jx2 w.params T (.bytes name t1) (.bytes key t2) (.ref lam) (.int (natBE iv:Int) u1)) hC F B.k N (by k_is) (by k_is) (by k_is)
  (fun x dx h' k e1 e2 f1 f2 f3=>jiw (kl9 B (Sub.trans' F.keep k) hC.under e1 e2 f3 hname hiv hiv2) (fun zz h=>h) fun v h'' zz p=>xAEE p fun hv T u1 hd=>⟨hv,_,hd,T,u1,rfl⟩)
  fun x dx o h' tk F' N' l1 l2 zz zz zz zz P=>by
   refine xEE P fun T u1 zq16=>?_
   try clear P
   obtain rfl:=zq16
   exact h x dx T u1 h' tk F' N' l1 l2
theorem kw4 {name key:Array UInt8} {lam:Addr} {t1 t2:Tok} (B:jbw w mg mb g) (hC:jav A 2) (F:Fr g L s.heap m) (N:News g L s.heap news) (hname:name=hmA∨name=hmB∨name=hmC)
  (h:∀ x dx T h' tk,Fr g L h' m->News g L h' ((x,instObj 114 dx)::(dx,hpD w.params T (.bytes name t1) (.bytes key t2) (.ref lam))::news)->(∀ p∈news,p.1<dx)->dx<x->Q (.ref x) { s with heap:=h',toks:=tk }) :
  wpAny (model pw w) A (call (.ref 114) [.bytes name t1,.bytes key t2,.ref lam]) Q E s :=
 jgx (n:=1) (fI:=90) (P:=fun zz dx o zz=>∃ T,o=hpD w.params T (.bytes name t1) (.bytes key t2) (.ref lam)) hC F B.k N (by k_is) (by k_is) (by k_is)
  (fun x dx h' k e1 e2 f1 f2 f3=>jiw (kyq B (Sub.trans' F.keep k) hC.under e1 e2 f3 hname) (fun zz h=>h) fun v h'' zz p=>xAE p fun hv T hd=>⟨hv,_,hd,T,rfl⟩)
  fun x dx o h' tk F' N' l1 l2 zz zz zz zz P=>by
   refine xE P fun T zq15=>?_
   try clear P
   obtain rfl:=zq15
   exact h x dx T h' tk F' N' l1 l2
end
end
theorem fl16:True:=by first|walk1|trivial
section
local macro_rules (kind:=PyProof.Rows.tacticWalk_at_) | s=>jex "AJaPGHEQRVbc" s
theorem js7 {suite:Int} {n:Nat} (h:n<2 ^ 60):natBE (BE (asz suite).toNat n)=n:=by
 refine jm0 ?_
 unfold asz
 split
 ·exact Nat.lt_of_lt_of_le h (by show 2 ^ 60≤256 ^ 48;decide)
 ·exact Nat.lt_of_lt_of_le h (by show 2 ^ 60≤256 ^ 32;decide)
theorem kn9 {n:Nat} (h:n<2 ^ 60):natBE (BE 12 n)=n:=jm0 (Nat.lt_of_lt_of_le h (by decide))
theorem kr9 (suite:Int):ksz suite=32∨ksz suite=16:=by
 unfold ksz
 split
 ·exact .inl rfl
 ·exact .inr rfl
noncomputable abbrev jb2 (P:Params) (T:Nat->Tok) (suite sec:Int) (a hp:Addr) (kp:Int) (n:Nat) (scb tcb lam:Addr):Obj :=
 ctxD P T (.ref a) (.int suite (T 9)) (.ref hp) (.int kp (T 10)) (.bytes (BE (asz suite).toNat n) (T 11)) (.int (jx7 sec) (T 12)) (.ref scb) (.ref tcb) (.ref lam)
noncomputable abbrev jf4 (P:Params) (T:Nat->Tok) (kp:Int) (scb tcb lam:Addr):Obj :=
 ctxD P T .none .none .none (.int kp (T 10)) .none .none (.ref scb) (.ref tcb) (.ref lam)
def jhv (P:Params) (h:Heap) (a:Addr) (suite:Int) (n:Nat) (lam:Addr):Prop:=∃ d T t1 t2 t3,h.get? a=some (instObj 72 d)∧h.get? d=some (jx2 P T (.bytes (je3 suite) t1) (.bytes (BE (ksz suite).toNat (4*n)) t2) (.ref lam) (.int ((4*n+1:Nat):Int) t3))
def km0 (P:Params) (h:Heap) (a:Addr) (suite:Int) (n:Nat) (lam:Addr):Prop:=∃ d T t1 t2,h.get? a=some (instObj 114 d)∧h.get? d=some (hpD P T (.bytes (hpNm suite) t1) (.bytes (BE (ksz suite).toNat (4*n+2)) t2) (.ref lam))
theorem jhv.keeps {P:Params} {h h':Heap} {a:Addr} {suite:Int} {n:Nat} {lam:Addr} (k:jaz h h') (x:jhv P h a suite n lam):jhv P h' a suite n lam:=by
 refine jkj x fun d T t1 t2 t3 h1 h2=>?_
 try clear x
 exact ⟨d,T,t1,t2,t3,k _ _ h1 rfl,k _ _ h2 rfl⟩
theorem km0.keeps {P:Params} {h h':Heap} {a:Addr} {suite:Int} {n:Nat} {lam:Addr} (k:jaz h h') (x:km0 P h a suite n lam):km0 P h' a suite n lam:=by
 refine jx5 x fun d T t1 t2 h1 h2=>?_
 try clear x
 exact ⟨d,T,t1,t2,k _ _ h1 rfl,k _ _ h2 rfl⟩
def krj (d:Addr):List (Addr×Obj)->Prop
 | []=>True
 | p::r => @Ne Nat p.1 d∧krj d r
theorem jz7 {g h:Heap} {L a:Addr} (e:h.get? a=none):∀ {news:List (Addr×Obj)},News g L h news->krj a news
 | [],_=>trivial
 | p::r,N=>And.intro (fun q=>by
   have q':p.1=a:=q
   have:=(N p (.head _)).1
   rw [q',e] at this
   exact absurd this (by simp)) (jz7 e fun q hq=>N q (.tail _ hq))
theorem kd8 {w:World} {g:Heap} {L:Addr} {m:Str->Option Value} {news:List (Addr×Obj)} {s:Shared} {A:Around} {E:Value->Shared->Prop} {Q:Value->Shared->Prop} {f:Addr} {pos:List Value} {kw:List (Str×Value)} {O:Tok->Tok->Tok->Obj} (F:Fr g L s.heap m) (N:News g L s.heap news)
  (sp:jb4 w A s (.call (.ref f) ⟨pos,kw⟩) [] (fun v h'=>∃ l t1 t2 t3,v=.ref l∧s.heap.get? l=none∧h'.get? l=some (O t1 t2 t3)))
  (h:∀ h' tk,Fr g L h' m->∀ l t1 t2 t3,krj l news->News g L h' ((l,O t1 t2 t3)::news)->Q (.ref l) { s with heap:=h',toks:=tk }):wpAny (model pw w) A (call (.ref f) pos kw) Q E s :=
 jgk F N sp fun v h' tk F' N' _ P=>P.elim fun l P=>P.elim fun t1 P=>P.elim fun t2 P=>P.elim fun t3 P=>P.1▸h h' tk F' l t1 t2 t3 (jz7 P.2.1 N) (jmw F N' P.2.2 P.2.1)
section
variable {w:World} {mg mb:Str->Option Value} {hb:Heap} {s:Shared} {A:Around}
theorem kpx {lam rl:Addr} {sec suite:Int} {n:Nat} {t1 t2 t3:Tok} (B:jbw w mg mb hb) (S:Sub hb s.heap) (hC:jav A 6) (P:jb6 s.heap lam rl sec)
  (hsec:sec=0∨sec=1) (hn:n<2 ^ 50) :
  jb4 w A s (.call (.ref 204) ⟨[],[("primitives", .ref lam),("cipher_suite", .int suite t1),("secret", .bytes (BE (asz suite).toNat n) t2),("version", .int (jx7 sec) t3)]⟩) []
   (fun v h'=>∃ a u1 u2 u3,v=.ref a∧s.heap.get? a=none∧h'.get? a=some (jl7 #[.bytes (BE (ksz suite).toNat (4*n)) u1,.bytes (BE 12 (4*n+1)) u2,.bytes (BE (ksz suite).toNat (4*n+2)) u3])):=by
 have e:natBE (BE (asz suite).toNat n)=n:=js7 (by walk_at "OM")
 have:=derive (suite:=suite) (key:=BE (asz suite).toNat n) (t1:=t1) (t2:=t2) (t3:=t3) B S hC P hsec (by walk_at "OM")
 rw [e] at this
 exact this
theorem jox {x dx cb lam rl:Addr} {sec suite kp:Int} {T:Nat->Tok} {n:Nat} {tcb:Addr} {t1 t2 t3:Tok} {asC:List Addr} {PostC:Value->Heap->Prop} (B:jbw w mg mb hb) (S:Sub hb s.heap) (hC:jav A 8) (P:jb6 s.heap lam rl sec)
  (hsec:sec=0∨sec=1) (hsuite:suite=4865∨suite=4866∨suite=4867) (hn:n<2 ^ 50)
  (hx:s.heap.get? x=some (instObj 257 dx)) (hd:s.heap.get? dx=some (jf4 w.params T kp cb tcb lam)) (hdb:hb.get? dx=none) (hcb:∃ o fd,s.heap.get? cb=some o∧o.data=.func fd)
  (hasC:∀ a∈asC,∃ its k,s.heap.get? a=some (listOf its k)) (cbs:∀ (s':Shared) (A':Around) (t:Tok),jb8 s.heap [dx] s'.heap->jav A' 7->jb4 w A' s' (.call (.ref cb) ⟨[.str "tls" t],[]⟩) asC PostC) :
  jb4 w A s (.call (.ref 247) ⟨[.ref x],[("cipher_suite", .int suite t1),("secret", .bytes (BE (asz suite).toNat n) t2),("version", .int (jx7 sec) t3)]⟩) (dx::asC)
   (fun v h'=>v=.none∧∃ T a hp v',h'.get? dx=some (jb2 w.params T suite sec a hp kp n cb tcb lam)∧s.heap.get? a=none∧s.heap.get? hp=none∧(∀ d,h'.get? a=some (instObj 72 d)->s.heap.get? d=none)∧jhv w.params h' a suite n lam∧km0 w.params h' hp suite n lam∧PostC v' h'):=by
 intro R hR
 refine openA A hC fun dp fr un hC=>?_
 refine je4 hcb fun ocb fcb hcb1 hcb2=>?_
 try clear hcb
 have hiv:natBE (BE 12 (4*n+1))=4*n+1:=kn9 (by walk_at "OM")
 have hi2:natBE (BE 12 (4*n+1))<2 ^ 64:=by rw [hiv];walk_at "OM"
 have hN:Has hb s.heap [(dx,jf4 w.params T kp cb tcb lam)]:=fun p hp=>by obtain rfl:=List.mem_singleton.mp hp;exact ⟨hd,hdb⟩
 refine jcj (news:=[(dx,jf4 w.params T kp cb tcb lam)]) (binds:=[("self", .ref x),("cipher_suite", .int suite t1),("secret", .bytes (BE (asz suite).toNat n) t2),("version", .int (jx7 sec) t3)]) (bl:=[("version", .int (jx7 sec) t3),("secret", .bytes (BE (asz suite).toNat n) t2),("cipher_suite", .int suite t1),("self", .ref x)])
  B S hN (by k_is) (by k_is) hC.room (BindsTo.of_eq rfl) (by kernel_rfl!) (by kernel_rfl!) ?_ (by kernel_rfl!) (by kernel_rfl!) (by kernel_rfl!) (by kernel_rfl!)
 intro g L' h₁ tk B' F N hg hs hl
 have KX:=B'.k
 have TR:=B'.t
 have hl1:@LT.lt Nat instLTNat dx L':=hl _ (.head _)
 have TG:jaz s.heap g:=toG hN hg fun p hp=>by obtain rfl:=List.mem_singleton.mp hp;rfl
 have gx:=TG _ _ hx rfl
 have gcb:=TG _ _ hcb1 (by unfold jak;rw [hcb2])
 have P':=P.keeps TG
 walk_at "GO"
 rename_i h5 F5 N5
 have k5:jb8 s.heap [dx] h5:=ja5 hg F5
 have hne:dx∉asC:=fun q=>by
  refine xEE (hasC _ q) fun its k e=>?_
  exact jh0 hd e rfl rfl
 have kC:∀ h',jb8 h5 asC h'->jaz h5 h':=fun h' H=>jb8.keeps H fun a ha=>by
  refine xEE (hasC a ha) fun its k e=>?_
  exact ⟨_,k5 a _ e (fun q=>hne (List.mem_singleton.mp q▸ha)),rfl⟩
 refine ja0 (cbs _ _ _ k5 hC.deeper) fun v' h' tk' H p=>?_
 have k6:=kC _ H
 have N6:h'.get? dx=_:=H _ _ (N5.get me5) hne
 have fr:∀ a,g.get? a=none->a≠dx->s.heap.get? a=none:=fun a e hne=>jd7 hg e (fun q=>hne (List.mem_singleton.mp q))
 have A1:=k6 _ _ (N5.get me2) rfl
 have A2:=k6 _ _ (N5.get me3) rfl
 have B1:=k6 _ _ (N5.get (.head _)) rfl
 have B2:=k6 _ _ (N5.get me1) rfl
 rw [hiv] at A2
 have fA:=fr _ (N5.fresh me2) (by k_ne)
 have fB:=fr _ (N5.fresh (.head _)) (by k_ne)
 have fD:=fr _ (N5.fresh me3) (by k_ne)
 walk_at "GO"
 exact hR _ _ _ (fun b o e hb=>H b o (k5 b o e (fun q=>hb (List.mem_singleton.mp q▸List.mem_cons_self ..))) (fun q=>hb (List.mem_cons_of_mem _ q)))
  ⟨rfl,jlv [_,_,_,_,_,_,_,_,_,_,_,_,_],_,_,v',N6,fA,fB,(fun d e=>by rw [A1] at e;cases e;exact fD),⟨_,_,_,_,_,A1,A2⟩,⟨_,_,_,_,B1,B2⟩,p⟩
end
end
theorem fl17:True:=by first|walk1|trivial
section
local macro_rules (kind:=PyProof.Rows.tacticWalk_at_) | s=>jex "AJaPGHEQRVb" s
theorem kr3 {h:Heap} {a b:Addr} {o o':Obj} (e:h.get? a=some o) (e':h.get? b=some o') (hn:o≠o'):a≠b:=fun q=>hn (by subst q;exact Option.some.inj (e.symm.trans e'))
section
variable {w:World} {mg mb:Str->Option Value} {hb:Heap} {s:Shared} {A:Around}
theorem klk {x d:Addr} {lam:Addr} {kp:Int} {t1:Tok} (B:jbw w mg mb hb) (S:Sub hb s.heap) (hC:jav A 1)
  (hx:s.heap.get? x=some (instObj 257 d)) (hd:s.heap.get? d=some (dictOf [] 0)) (hdb:hb.get? d=none) :
  jb4 w A s (.call (.ref 219) ⟨[.ref x,.ref lam],[("key_phase", .int kp t1)]⟩) [d] (fun v h'=>v=.none∧∃ o,h'.get? d=some o∧∃ T,o=jf4 w.params T kp 185 185 lam):=by
 intro R hR
 refine openA A hC fun dp fr un hC=>?_
 have hN:Has hb s.heap [(d,dictOf [] 0)]:=fun p hp=>by obtain rfl:=List.mem_singleton.mp hp;exact ⟨hd,hdb⟩
 refine jcj (news:=[(d,dictOf [] 0)]) (binds:=[("self", .ref x),("primitives", .ref lam),("key_phase", .int kp t1),("setup_cb", .ref 185),("teardown_cb", .ref 185)]) (bl:=[("teardown_cb", .ref 185),("setup_cb", .ref 185),("key_phase", .int kp t1),("primitives", .ref lam),("self", .ref x)])
  B S hN (by k_is) (by k_is) hC.room (by first | exact BindsTo.of_eq rfl | exact binds_K (B.k.keeps S) rfl (by k_is) rfl rfl rfl) (by kernel_rfl!) (by kernel_rfl!) ?_ (by kernel_rfl!) (by kernel_rfl!) (by kernel_rfl!) (by kernel_rfl!)
 intro g L' h₁ tk B' F N hg hs hl
 have KX:=B'.k
 have TR:=B'.t
 have hl1:@LT.lt Nat instLTNat d L':=hl _ (.head _)
 have gx:=hg _ _ hx (fun q=>jh0 hx hd rfl (List.mem_singleton.mp q))
 walk_at "GO"
 rename_i h5 F5 N5
 exact hR _ _ _ (ja5 hg F5) (iAEAE rfl _ (N5.get (.head _)) (jlv [_,_,_,_,_,_,_,_,_,0,_]) rfl)
theorem klv {x d:Addr} {lam scb tcb:Addr} (B:jbw w mg mb hb) (S:Sub hb s.heap) (hC:jav A 1)
  (hx:s.heap.get? x=some (instObj 257 d)) (hd:s.heap.get? d=some (dictOf [] 0)) (hdb:hb.get? d=none) :
  jb4 w A s (.call (.ref 219) ⟨[.ref x,.ref lam],[("setup_cb", .ref scb),("teardown_cb", .ref tcb)]⟩) [d] (fun v h'=>v=.none∧∃ o,h'.get? d=some o∧∃ T,o=jf4 w.params T 0 scb tcb lam):=by
 intro R hR
 refine openA A hC fun dp fr un hC=>?_
 have hN:Has hb s.heap [(d,dictOf [] 0)]:=fun p hp=>by obtain rfl:=List.mem_singleton.mp hp;exact ⟨hd,hdb⟩
 refine jcj (news:=[(d,dictOf [] 0)]) (binds:=[("self", .ref x),("primitives", .ref lam),("key_phase", .int 0 511),("setup_cb", .ref scb),("teardown_cb", .ref tcb)]) (bl:=[("teardown_cb", .ref tcb),("setup_cb", .ref scb),("key_phase", .int 0 511),("primitives", .ref lam),("self", .ref x)])
  B S hN (by k_is) (by k_is) hC.room (by first | exact BindsTo.of_eq rfl | exact binds_K (B.k.keeps S) rfl (by k_is) rfl rfl rfl) (by kernel_rfl!) (by kernel_rfl!) ?_ (by kernel_rfl!) (by kernel_rfl!) (by kernel_rfl!) (by kernel_rfl!)
 intro g L' h₁ tk B' F N hg hs hl
 have KX:=B'.k
 have TR:=B'.t
 have hl1:@LT.lt Nat instLTNat d L':=hl _ (.head _)
 have gx:=hg _ _ hx (fun q=>jh0 hx hd rfl (List.mem_singleton.mp q))
 walk_at "GO"
 rename_i h5 F5 N5
 exact hR _ _ _ (ja5 hg F5) (iAEAE rfl _ (N5.get (.head _)) (jlv [_,_,_,_,_,_,_,_,_,0,_]) rfl)
end
section
variable {w:World} {mg mb:Str->Option Value} {hb g:Heap} {s:Shared} {A:Around} {E:Value->Shared->Prop} {L:Addr} {m:Str->Option Value} {news:List (Addr×Obj)} {Q:Value->Shared->Prop}
theorem kg6 {lam:Addr} {kp:Int} {t1:Tok} (B:jbw w mg mb g) (hC:jav A 2) (F:Fr g L s.heap m) (N:News g L s.heap news)
  (h:∀ x dx T h' tk,Fr g L h' m->News g L h' ((x,instObj 257 dx)::(dx,jf4 w.params T kp 185 185 lam)::news)->(∀ p∈news,p.1<dx)->dx<x->s.heap.get? x=none->s.heap.get? dx=none->Q (.ref x) { s with heap:=h',toks:=tk }) :
  wpAny (model pw w) A (call (.ref 257) [.ref lam] [("key_phase", .int kp t1)]) Q E s :=
 jgx (n:=1) (fI:=219) (P:=fun zz dx o zz=>∃ T,o=jf4 w.params T kp 185 185 lam) hC F B.k N (by k_is) (by k_is) (by k_is)
  (fun x dx h' k e1 e2 f1 f2 f3=>klk B (Sub.trans' F.keep k) hC.under e1 e2 f3)
  fun x dx o h' tk F' N' l1 l2 q1 q2 zz zz P=>by
   refine xE P fun T zq128=>?_
   try clear P
   obtain rfl:=zq128
   exact h x dx T h' tk F' N' l1 l2 q1 q2
theorem kg5 {lam scb tcb:Addr} (B:jbw w mg mb g) (hC:jav A 2) (F:Fr g L s.heap m) (N:News g L s.heap news)
  (h:∀ x dx T h' tk,Fr g L h' m->News g L h' ((x,instObj 257 dx)::(dx,jf4 w.params T 0 scb tcb lam)::news)->(∀ p∈news,p.1<dx)->dx<x->s.heap.get? x=none->s.heap.get? dx=none->Q (.ref x) { s with heap:=h',toks:=tk }) :
  wpAny (model pw w) A (call (.ref 257) [.ref lam] [("setup_cb", .ref scb),("teardown_cb", .ref tcb)]) Q E s :=
 jgx (n:=1) (fI:=219) (P:=fun zz dx o zz=>∃ T,o=jf4 w.params T 0 scb tcb lam) hC F B.k N (by k_is) (by k_is) (by k_is)
  (fun x dx h' k e1 e2 f1 f2 f3=>klv B (Sub.trans' F.keep k) hC.under e1 e2 f3)
  fun x dx o h' tk F' N' l1 l2 q1 q2 zz zz P=>by
   refine xE P fun T zq127=>?_
   try clear P
   obtain rfl:=zq127
   exact h x dx T h' tk F' N' l1 l2 q1 q2
end
end
theorem fl18:True:=by first|walk1|trivial
section
local macro_rules (kind:=PyProof.Rows.tacticWalk_at_) | s=>jex "ANJaPGHEQRVbZd" s
section
variable {w:World} {mg mb:Str->Option Value} {hb:Heap} {s:Shared} {A:Around}
theorem kn6 {g h h':Heap} {L a b:Addr} {o1 o2 o1' o2':Obj} (N:News g L h [(a,o1),(b,o2)]) (e1:h'.get? a=some o1') (e2:h'.get? b=some o2'):News g L h' [(a,o1'),(b,o2')]:=fun p hp=>by
 rcases List.mem_cons.mp hp with rfl | hp
 ·exact ⟨e1,(N _ (.head _)).2⟩
 ·rw [List.mem_singleton.mp hp];exact ⟨e2,(N _ me1).2⟩
theorem kyj {lam rl:Addr} {sec suite:Int} {n:Nat} {alg hash:Value} {one:Array UInt8} {t2 t3 t4:Tok} (B:jbw w mg mb hb) (S:Sub hb s.heap) (hC:jav A 5) (P:jb6 s.heap lam rl sec)
  (hsec:sec=0∨sec=1) (hn:n<2 ^ 50) (hone:one=kx2 sec 3) :
  jb4 w A s (.call (.ref 174) ⟨[.ref lam,alg,.bytes (BE (asz suite).toNat n) t2,.bytes one t3,hash,.int (asz suite) t4],[]⟩) [] (fun v zz=>∃ t,v=.bytes (BE (asz suite).toNat (n+1)) t):=by
 have e:natBE (BE (asz suite).toNat n)=n:=js7 (by walk_at "OM")
 have z:asz suite=48∨asz suite=32:=by
  unfold asz
  split
  ·exact .inl rfl
  ·exact .inr rfl
 have:=hkdf (alg:=alg) (hash:=hash) (key:=BE (asz suite).toNat n) (k:=asz suite) (lab:=3) (t2:=t2) (t3:=t3) (t4:=t4) B S hC P hsec (by walk_at "OM") (by walk_at "OM") (by walk_at "OM") (by decide) hone
 rw [e] at this
 exact this
theorem ku_of {sec:Int} (hsec:sec=0∨sec=1) (h:jx7 sec=1798521807):kuB=kx2 sec 3:=by
 rcases hsec with rfl | rfl
 ·exact absurd h (by decide)
 ·rfl
theorem ku_of' {sec:Int} (hsec:sec=0∨sec=1) (h:jx7 sec≠1798521807):kuA=kx2 sec 3:=by
 rcases hsec with rfl | rfl
 ·rfl
 ·exact absurd rfl h
theorem jw9 {x dx lam rl scb tcb a hp:Addr} {sec suite kp:Int} {T:Nat->Tok} {n:Nat} (B:jbw w mg mb hb) (S:Sub hb s.heap) (hC:jav A 9) (P:jb6 s.heap lam rl sec)
  (hsec:sec=0∨sec=1) (hsuite:suite=4865∨suite=4866∨suite=4867) (hn:n+1<2 ^ 50) (hkp:kp=0∨kp=1)
  (hx:s.heap.get? x=some (instObj 257 dx)) (hd:s.heap.get? dx=some (jb2 w.params T suite sec a hp kp n scb tcb lam)) :
  jb4 w A s (.call (.ref 275) ⟨[.ref x],[]⟩) []
   (fun v h'=>∃ y dy T' a' hp',v=.ref y∧s.heap.get? y=none∧s.heap.get? dy=none∧h'.get? y=some (instObj 257 dy)∧h'.get? dy=some (jb2 w.params T' suite sec a' hp' (1-kp) (n+1) 185 185 lam)∧s.heap.get? a'=none∧(∀ d,h'.get? a'=some (instObj 72 d)->s.heap.get? d=none)∧jhv w.params h' a' suite (n+1) lam):=by
 intro R hR
 refine openA A hC fun dp fr un hC=>?_
 refine jcj (news:=[]) (binds:=[("self", .ref x)]) (bl:=[("self", .ref x)])
  B S (fun p hp=>nomatch hp) (by k_is) (by k_is) hC.room (BindsTo.of_eq rfl) (by kernel_rfl!) (by kernel_rfl!) ?_ (by kernel_rfl!) (by kernel_rfl!) (by kernel_rfl!) (by kernel_rfl!)
 intro g L' h₁ tk B' F N hg hs hl
 have KX:=B'.k
 have TR:=B'.t
 have hsg:Sub s.heap g:=fun b o e=>hg b o e noN
 have gx:=hsg _ _ hx
 have gd:=hsg _ _ hd
 have P':=P.keeps (jaz.of_sub hsg)
 have hn':n<2 ^ 50:=by walk_at "OM"
 have hkp2:(if (!kp != 0)=true then (1:Int) else 0)=1-kp:=by rcases hkp with rfl | rfl <;> rfl
 walk_at "GO"
 all_goals
  rename_i h5 tk5 F5 N5 t8
  have P5:=P'.keeps (jaz.of_sub F5.keep)
  have s5:Sub s.heap _:=fun b o e=>F5.keep b o (hsg b o e)
  have d9:=N5.fresh me1
  refine ja0 (jox (n:=n+1) (asC:=[]) (PostC:=fun v _=>v=.none) B' F5.keep (hC.deeper.le (by decide)) P5 hsec hsuite (by walk_at "OM") (N5.get (.head _)) (N5.get me1) d9 (jhj _ _ (F5.keep _ _ (KX 185 _ (by k_is))) rfl) (fun a ha=>nomatch ha) (fun s' A' t hS hC'=>jw8 B' (fun b o e=>hS b o (F5.keep _ _ e) (fun q=>by rw [List.mem_singleton.mp q] at e;rw [d9] at e;cases e)) (hC'.le (by decide)))) fun v h6 tk6 H6 p6=>?_
  refine jm5 p6 fun zq119 T6 a6 hp6 v6 e6 f6 f7 zr12=>?_
  refine jv1 zr12 fun f8 i6 i7 zq120=>?_
  try clear p6
  obtain rfl:=zq119
  obtain rfl:=zq120
  have y8:=H6 _ _ (N5.get (.head _)) (fun q=>absurd (List.mem_singleton.mp q) (kr3 (N5.get (.head _)) (N5.get me1) (fun z=>by have:=congrArg Obj.data z;cases this)))
  rw [hkp2] at e6
  have F6:=jc0 F5 H6 (fun a ha=>by rw [List.mem_singleton.mp ha];exact (N5 _ me1).2)
  have N6:=kn6 N5 y8 e6
  clear F5 N5
  walk_at "GO"
  exact hR _ _ _ (fun b o e zz=>F6.keep b o (hsg b o e)) (kiv _ _ T6 a6 hp6 rfl (jbz hsg (N6.fresh (.head _))) (jbz hsg (N6.fresh me1)) (iAAAA (N6.get (.head _)) (N6.get me1) (jbz s5 f6) (fun d e=>jbz s5 (f8 d e)) i6))
end
end
theorem fl19:True:=by first|walk1|trivial
section
local macro_rules (kind:=PyProof.Rows.tacticWalk_at_) | s=>jex "AJaPGHEQRVb" s
noncomputable abbrev jj9 (P:Params) (T:Nat->Tok) (sec kp:Int) (scb tcb lam:Addr):Obj :=
 ctxD P T .none .none .none (.int kp (T 10)) .none (.int (jx7 sec) (T 12)) (.ref scb) (.ref tcb) (.ref lam)
section
variable {w:World} {mg mb:Str->Option Value} {hb:Heap} {s:Shared} {A:Around}
theorem kbw {x dx y dy lam scb tcb scb' tcb' a hp a' hp':Addr} {sec suite kp kp':Int} {T T':Nat->Tok} {n n':Nat} {tr:Str} {t1:Tok} {asC:List Addr} {PostC:Value->Heap->Prop} (B:jbw w mg mb hb) (S:Sub hb s.heap) (hC:jav A 8)
  (hx:s.heap.get? x=some (instObj 257 dx)) (hd:s.heap.get? dx=some (jb2 w.params T suite sec a hp kp n scb tcb lam)) (hdb:hb.get? dx=none)
  (hy:s.heap.get? y=some (instObj 257 dy)) (hyd:s.heap.get? dy=some (jb2 w.params T' suite sec a' hp' kp' n' scb' tcb' lam)) (hne:dy≠dx) (hcb:∃ o fd,s.heap.get? scb=some o∧o.data=.func fd)
  (hasC:∀ a∈asC,∃ its k,s.heap.get? a=some (listOf its k)) (cbs:∀ (s':Shared) (A':Around),jb8 s.heap [dx] s'.heap->jav A' 7->jb4 w A' s' (.call (.ref scb) ⟨[.str tr t1],[]⟩) asC PostC) :
  jb4 w A s (.call (.ref 268) ⟨[.ref x,.ref y],[("trigger", .str tr t1)]⟩) (dx::asC)
   (fun v h'=>v=.none∧∃ T'' v',h'.get? dx=some (jb2 w.params T'' suite sec a' hp kp' n' scb tcb lam)∧PostC v' h'):=by
 intro R hR
 refine openA A hC fun dp fr un hC=>?_
 refine je4 hcb fun ocb fcb hcb1 hcb2=>?_
 try clear hcb
 have hN:Has hb s.heap [(dx,jb2 w.params T suite sec a hp kp n scb tcb lam)]:=fun p hp=>by obtain rfl:=List.mem_singleton.mp hp;exact ⟨hd,hdb⟩
 refine jcj (news:=[(dx,jb2 w.params T suite sec a hp kp n scb tcb lam)]) (binds:=[("self", .ref x),("crypto", .ref y),("trigger", .str tr t1)]) (bl:=[("trigger", .str tr t1),("crypto", .ref y),("self", .ref x)])
  B S hN (by k_is) (by k_is) hC.room (BindsTo.of_eq rfl) (by kernel_rfl!) (by kernel_rfl!) ?_ (by kernel_rfl!) (by kernel_rfl!) (by kernel_rfl!) (by kernel_rfl!)
 intro g L' h₁ tk B' F N hg hs hl
 have KX:=B'.k
 have TR:=B'.t
 have hl1:@LT.lt Nat instLTNat dx L':=hl _ (.head _)
 have TG:jaz s.heap g:=toG hN hg fun p hp=>by obtain rfl:=List.mem_singleton.mp hp;rfl
 have gx:=TG _ _ hx rfl
 have gy:=TG _ _ hy rfl
 have gyd:=hg _ _ hyd (fun q=>hne (List.mem_singleton.mp q))
 have gcb:=TG _ _ hcb1 (by unfold jak;rw [hcb2])
 walk_at "GO"
 rename_i h5 F5 N5
 have k5:jb8 s.heap [dx] h5:=ja5 hg F5
 have hne2:dx∉asC:=fun q=>by
  refine xEE (hasC _ q) fun its k e=>?_
  exact jh0 hd e rfl rfl
 refine ja0 (cbs _ _ k5 hC.deeper) fun v' h' tk' H p=>?_
 have N6:h'.get? dx=_:=H _ _ (N5.get (.head _)) hne2
 walk_at "GO"
 exact hR _ _ _ (fun b o e hb=>H b o (k5 b o e (fun q=>hb (List.mem_singleton.mp q▸List.mem_cons_self ..))) (fun q=>hb (List.mem_cons_of_mem _ q)))
  (kdv rfl (jlv [_,_,_,_,_,_,_,_,_,_,_,_,_]) v' N6 p)
theorem jj8 {x dx:Addr} {T:Nat->Tok} {aead cs hp kp sec ver scb tcb prim:Value} {b:Bool} (B:jbw w mg mb hb) (S:Sub hb s.heap) (hC:jav A 1)
  (hx:s.heap.get? x=some (instObj 257 dx)) (hd:s.heap.get? dx=some (ctxD w.params T aead cs hp kp sec ver scb tcb prim)) (hb:(b=true∧∃ a,aead=.ref a)∨(b=false∧aead=.none)) :
  jb4 w A s (.call (.ref 240) ⟨[.ref x],[]⟩) [] (fun v _=>v=.bool b):=by
 intro R hR
 refine openA A hC fun dp fr un hC=>?_
 refine jcj (news:=[]) (binds:=[("self", .ref x)]) (bl:=[("self", .ref x)])
  B S (fun p hp=>nomatch hp) (by k_is) (by k_is) hC.room (BindsTo.of_eq rfl) (by kernel_rfl!) (by kernel_rfl!) ?_ (by kernel_rfl!) (by kernel_rfl!) (by kernel_rfl!) (by kernel_rfl!)
 intro g L' h₁ tk B' F N hg hs hl
 have KX:=B'.k
 have TR:=B'.t
 have gx:=hg _ _ hx (by simp)
 have gd:=hg _ _ hd (by simp)
 rcases hb with ⟨rfl,a,rfl⟩ | ⟨rfl,rfl⟩
 ·walk_at "GO"
  exact hR _ _ _ (ja5 hg F) rfl
 ·walk_at "GO"
  exact hR _ _ _ (ja5 hg F) rfl
theorem jl0 {x dx lam scb tcb a hp:Addr} {sec suite kp:Int} {T:Nat->Tok} {n:Nat} {asC:List Addr} {PostC:Value->Heap->Prop} (B:jbw w mg mb hb) (S:Sub hb s.heap) (hC:jav A 8)
  (hx:s.heap.get? x=some (instObj 257 dx)) (hd:s.heap.get? dx=some (jb2 w.params T suite sec a hp kp n scb tcb lam)) (hdb:hb.get? dx=none) (hcb:∃ o fd,s.heap.get? tcb=some o∧o.data=.func fd)
  (hasC:∀ a∈asC,∃ its k,s.heap.get? a=some (listOf its k)) (cbs:∀ (s':Shared) (A':Around) (t:Tok),jb8 s.heap [dx] s'.heap->jav A' 7->jb4 w A' s' (.call (.ref tcb) ⟨[.str "tls" t],[]⟩) asC PostC) :
  jb4 w A s (.call (.ref 254) ⟨[.ref x],[]⟩) (dx::asC)
   (fun v h'=>v=.none∧∃ T'' v',h'.get? dx=some (jj9 w.params T'' sec kp scb tcb lam)∧PostC v' h'):=by
 intro R hR
 refine openA A hC fun dp fr un hC=>?_
 refine je4 hcb fun ocb fcb hcb1 hcb2=>?_
 try clear hcb
 have hN:Has hb s.heap [(dx,jb2 w.params T suite sec a hp kp n scb tcb lam)]:=fun p hp=>by obtain rfl:=List.mem_singleton.mp hp;exact ⟨hd,hdb⟩
 refine jcj (news:=[(dx,jb2 w.params T suite sec a hp kp n scb tcb lam)]) (binds:=[("self", .ref x)]) (bl:=[("self", .ref x)])
  B S hN (by k_is) (by k_is) hC.room (BindsTo.of_eq rfl) (by kernel_rfl!) (by kernel_rfl!) ?_ (by kernel_rfl!) (by kernel_rfl!) (by kernel_rfl!) (by kernel_rfl!)
 intro g L' h₁ tk B' F N hg hs hl
 have KX:=B'.k
 have TR:=B'.t
 have hl1:@LT.lt Nat instLTNat dx L':=hl _ (.head _)
 have TG:jaz s.heap g:=toG hN hg fun p hp=>by obtain rfl:=List.mem_singleton.mp hp;rfl
 have gx:=TG _ _ hx rfl
 have gcb:=TG _ _ hcb1 (by unfold jak;rw [hcb2])
 walk_at "GO"
 rename_i h5 F5 N5
 have k5:jb8 s.heap [dx] h5:=ja5 hg F5
 have hne2:dx∉asC:=fun q=>by
  refine xEE (hasC _ q) fun its k e=>?_
  exact jh0 hd e rfl rfl
 refine ja0 (cbs _ _ _ k5 hC.deeper) fun v' h' tk' H p=>?_
 have N6:h'.get? dx=_:=H _ _ (N5.get (.head _)) hne2
 walk_at "GO"
 exact hR _ _ _ (fun b o e hb=>H b o (k5 b o e (fun q=>hb (List.mem_singleton.mp q▸List.mem_cons_self ..))) (fun q=>hb (List.mem_cons_of_mem _ q)))
  (kdv rfl (jlv [_,_,_,_,_,_,_,_,_,0,_,0,_]) v' N6 p)
end
end
theorem fl20:True:=by first|walk1|trivial
section
local macro_rules (kind:=PyProof.Rows.tacticWalk_at_) | s=>jex "AJaPGHEQRVbLI" s
def jo0 (lp:Arguments) (lb:Expr) (ls:Scope) (h:Heap) (cb hl:Addr):Prop :=
 ∃ qual pm c' ctv cl ch oh,h.get? cb=some (kla_obj "<lambda>" qual lp lb ls cl pm c' ctv)∧h.CodeRec (.ref c') qual ∧
  cl.lookup (ofString "heard")=some ch∧h.get? ch=some oh∧oh.data=.cell (some (.ref hl))
theorem jo0.keeps {lp:Arguments} {lb:Expr} {ls:Scope} {h h':Heap} {cb hl:Addr} (k:jaz h h') (x:jo0 lp lb ls h cb hl):jo0 lp lb ls h' cb hl:=by
 refine jd5 x fun qual pm c' ctv cl ch oh h1 zr12=>?_
 refine jv1 zr12 fun h2 h3 h4 h5=>?_
 try clear x
 exact (jcq qual pm c' ctv cl ch oh (k _ _ h1 rfl) (jn2 (ja6 k h2) h3 (k _ _ h4 (by unfold jak;rw [h5])) h5))
theorem jo0.fn {lp:Arguments} {lb:Expr} {ls:Scope} {h:Heap} {cb hl:Addr} (x:jo0 lp lb ls h cb hl):∃ o fd,h.get? cb=some o∧o.data=.func fd:=by
 refine jd5 x fun qual pm c' ctv cl ch oh h1 _=>?_
 try clear x
 exact (jhj _ _ h1 rfl)
def vbk (h:Heap) (v:Value) (x:String×String):Prop:=∃ a t1 t2,v=.ref a∧h.get? a=some (jl7 #[.str (ofString x.1) t1,.str (ofString x.2) t2])
def ja9 (h:Heap):List Value->List (String×String)->Prop
 | [],[]=>True
 | v::vs,x::xs=>vbk h v x∧ja9 h vs xs
 | _,_=>False
def ja3 (h:Heap) (hl:Addr) (l:List (String×String)):Prop:=∃ its k,h.get? hl=some (listOf its k)∧ja9 h its.toList l
theorem ja9.keeps {h h':Heap} (k:jaz h h'):∀ {vs:List Value} {xs:List (String×String)},ja9 h vs xs->ja9 h' vs xs
 | [],[],_=>trivial
 | _::_,_::_,x=>⟨by obtain ⟨a,t1,t2,e,q⟩:=x.1;exact (ji4 a t1 t2 e (k _ _ q rfl)),ja9.keeps k x.2⟩
 | [],_::_,x=>x.elim
 | _::_,[],x=>x.elim
theorem ja9.len {h:Heap}:∀ {vs:List Value} {xs:List (String×String)},ja9 h vs xs->vs.length=xs.length
 | [],[],_=>rfl
 | _::_,_::_,x=>by rw [List.length_cons,List.length_cons,ja9.len x.2]
 | [],_::_,x=>x.elim
 | _::_,[],x=>x.elim
theorem ja9.snoc {h:Heap} {v:Value} {x:String×String} (e:vbk h v x):∀ {vs:List Value} {xs:List (String×String)},ja9 h vs xs->ja9 h (vs++[v]) (xs++[x])
 | [],[],_=>⟨e,trivial⟩
 | _::_,_::_,y=>⟨y.1,ja9.snoc e y.2⟩
 | [],_::_,y=>y.elim
 | _::_,[],y=>y.elim
section
variable {w:World} {mg mb:Str->Option Value} {hb:Heap} {s:Shared} {A:Around}
theorem cb_1 {cb hl:Addr} {l:List (String×String)} {tr:String} {t:Tok} (B:jbw w mg mb hb) (S:Sub hb s.heap) (hC:jav A 2) (P:jo0 lp1 lb1 ls1 s.heap cb hl) (H:ja3 s.heap hl l) (hlb:hb.get? hl=none) (hz:l.length≤1000) :
  jb4 w A s (.call (.ref cb) ⟨[.str (ofString tr) t],[]⟩) [hl] (fun v h'=>v=.none∧ja3 h' hl (l++[("read", tr)])):=by
 intro R hR
 refine openA A hC fun dp fr un hC=>?_
 refine jd5 P fun qual pm c' ctv cl ch oh h1 zr12=>?_
 refine jv1 zr12 fun h2 h3 h4 h5=>?_
 try clear P
 refine je4 H fun its k hr hi=>?_
 try clear H
 have hz':its.size≤1000:=by have:=ja9.len hi;rw [← this] at hz;simpa using hz
 have hN:Has hb s.heap [(hl,listOf its k)]:=fun p hp=>by obtain rfl:=List.mem_singleton.mp hp;exact ⟨hr,hlb⟩
 refine jj6 (news:=[(hl,listOf its k)]) (binds:=[("trigger", .str (ofString tr) t)]) (bl:=[("trigger", .str (ofString tr) t)])
  B S hN h1 h2 hC.room rfl (by kernel_rfl!) (by kernel_rfl!) ?_ (by kernel_rfl!) (by kernel_rfl!) (by kernel_rfl!) (by kernel_rfl!)
 intro g L' h₁ tk B' F N hg hs hl' hS
 have KX:=B'.k
 have TR:=B'.t
 have TG:jaz s.heap g:=toG hN hg fun p hp=>by obtain rfl:=List.mem_singleton.mp hp;rfl
 have g4:=TG _ _ h4 (by unfold jak;rw [h5])
 have hi':=ja9.keeps TG hi
 walk_at "GO"
 rename_i h6 F6 N6
 exact hR _ _ _ (ja5 hg F6) (kdv rfl _ _ (N6.get me1) (by rw [Array.toList_push];exact ja9.snoc (ji4 _ _ _ rfl (N6.get (.head _))) (ja9.keeps (jaz.of_sub F6.keep) hi')))
theorem cb_2 {cb hl:Addr} {l:List (String×String)} {tr:String} {t:Tok} (B:jbw w mg mb hb) (S:Sub hb s.heap) (hC:jav A 2) (P:jo0 lp2 lb2 ls2 s.heap cb hl) (H:ja3 s.heap hl l) (hlb:hb.get? hl=none) (hz:l.length≤1000) :
  jb4 w A s (.call (.ref cb) ⟨[.str (ofString tr) t],[]⟩) [hl] (fun v h'=>v=.none∧ja3 h' hl (l++[("read no more", tr)])):=by
 intro R hR
 refine openA A hC fun dp fr un hC=>?_
 refine jd5 P fun qual pm c' ctv cl ch oh h1 zr12=>?_
 refine jv1 zr12 fun h2 h3 h4 h5=>?_
 try clear P
 refine je4 H fun its k hr hi=>?_
 try clear H
 have hz':its.size≤1000:=by have:=ja9.len hi;rw [← this] at hz;simpa using hz
 have hN:Has hb s.heap [(hl,listOf its k)]:=fun p hp=>by obtain rfl:=List.mem_singleton.mp hp;exact ⟨hr,hlb⟩
 refine jj6 (news:=[(hl,listOf its k)]) (binds:=[("trigger", .str (ofString tr) t)]) (bl:=[("trigger", .str (ofString tr) t)])
  B S hN h1 h2 hC.room rfl (by kernel_rfl!) (by kernel_rfl!) ?_ (by kernel_rfl!) (by kernel_rfl!) (by kernel_rfl!) (by kernel_rfl!)
 intro g L' h₁ tk B' F N hg hs hl' hS
 have KX:=B'.k
 have TR:=B'.t
 have TG:jaz s.heap g:=toG hN hg fun p hp=>by obtain rfl:=List.mem_singleton.mp hp;rfl
 have g4:=TG _ _ h4 (by unfold jak;rw [h5])
 have hi':=ja9.keeps TG hi
 walk_at "GO"
 rename_i h6 F6 N6
 exact hR _ _ _ (ja5 hg F6) (kdv rfl _ _ (N6.get me1) (by rw [Array.toList_push];exact ja9.snoc (ji4 _ _ _ rfl (N6.get (.head _))) (ja9.keeps (jaz.of_sub F6.keep) hi')))
theorem cb_3 {cb hl:Addr} {l:List (String×String)} {tr:String} {t:Tok} (B:jbw w mg mb hb) (S:Sub hb s.heap) (hC:jav A 2) (P:jo0 lp3 lb3 ls3 s.heap cb hl) (H:ja3 s.heap hl l) (hlb:hb.get? hl=none) (hz:l.length≤1000) :
  jb4 w A s (.call (.ref cb) ⟨[.str (ofString tr) t],[]⟩) [hl] (fun v h'=>v=.none∧ja3 h' hl (l++[("send", tr)])):=by
 intro R hR
 refine openA A hC fun dp fr un hC=>?_
 refine jd5 P fun qual pm c' ctv cl ch oh h1 zr12=>?_
 refine jv1 zr12 fun h2 h3 h4 h5=>?_
 try clear P
 refine je4 H fun its k hr hi=>?_
 try clear H
 have hz':its.size≤1000:=by have:=ja9.len hi;rw [← this] at hz;simpa using hz
 have hN:Has hb s.heap [(hl,listOf its k)]:=fun p hp=>by obtain rfl:=List.mem_singleton.mp hp;exact ⟨hr,hlb⟩
 refine jj6 (news:=[(hl,listOf its k)]) (binds:=[("trigger", .str (ofString tr) t)]) (bl:=[("trigger", .str (ofString tr) t)])
  B S hN h1 h2 hC.room rfl (by kernel_rfl!) (by kernel_rfl!) ?_ (by kernel_rfl!) (by kernel_rfl!) (by kernel_rfl!) (by kernel_rfl!)
 intro g L' h₁ tk B' F N hg hs hl' hS
 have KX:=B'.k
 have TR:=B'.t
 have TG:jaz s.heap g:=toG hN hg fun p hp=>by obtain rfl:=List.mem_singleton.mp hp;rfl
 have g4:=TG _ _ h4 (by unfold jak;rw [h5])
 have hi':=ja9.keeps TG hi
 walk_at "GO"
 rename_i h6 F6 N6
 exact hR _ _ _ (ja5 hg F6) (kdv rfl _ _ (N6.get me1) (by rw [Array.toList_push];exact ja9.snoc (ji4 _ _ _ rfl (N6.get (.head _))) (ja9.keeps (jaz.of_sub F6.keep) hi')))
theorem cb_4 {cb hl:Addr} {l:List (String×String)} {tr:String} {t:Tok} (B:jbw w mg mb hb) (S:Sub hb s.heap) (hC:jav A 2) (P:jo0 lp4 lb4 ls4 s.heap cb hl) (H:ja3 s.heap hl l) (hlb:hb.get? hl=none) (hz:l.length≤1000) :
  jb4 w A s (.call (.ref cb) ⟨[.str (ofString tr) t],[]⟩) [hl] (fun v h'=>v=.none∧ja3 h' hl (l++[("send no more", tr)])):=by
 intro R hR
 refine openA A hC fun dp fr un hC=>?_
 refine jd5 P fun qual pm c' ctv cl ch oh h1 zr12=>?_
 refine jv1 zr12 fun h2 h3 h4 h5=>?_
 try clear P
 refine je4 H fun its k hr hi=>?_
 try clear H
 have hz':its.size≤1000:=by have:=ja9.len hi;rw [← this] at hz;simpa using hz
 have hN:Has hb s.heap [(hl,listOf its k)]:=fun p hp=>by obtain rfl:=List.mem_singleton.mp hp;exact ⟨hr,hlb⟩
 refine jj6 (news:=[(hl,listOf its k)]) (binds:=[("trigger", .str (ofString tr) t)]) (bl:=[("trigger", .str (ofString tr) t)])
  B S hN h1 h2 hC.room rfl (by kernel_rfl!) (by kernel_rfl!) ?_ (by kernel_rfl!) (by kernel_rfl!) (by kernel_rfl!) (by kernel_rfl!)
 intro g L' h₁ tk B' F N hg hs hl' hS
 have KX:=B'.k
 have TR:=B'.t
 have TG:jaz s.heap g:=toG hN hg fun p hp=>by obtain rfl:=List.mem_singleton.mp hp;rfl
 have g4:=TG _ _ h4 (by unfold jak;rw [h5])
 have hi':=ja9.keeps TG hi
 walk_at "GO"
 rename_i h6 F6 N6
 exact hR _ _ _ (ja5 hg F6) (kdv rfl _ _ (N6.get me1) (by rw [Array.toList_push];exact ja9.snoc (ji4 _ _ _ rfl (N6.get (.head _))) (ja9.keeps (jaz.of_sub F6.keep) hi')))
end
end
theorem fl21:True:=by first|walk1|trivial
section
local macro_rules (kind:=PyProof.Rows.tacticWalk_at_) | s=>jex "ANJaPGHEQRVe" s
noncomputable def jr5 (key hdr sealed:Array UInt8) (off L:Nat):Array UInt8 :=
 jc1 (jl4 (hdr++sealed) 0 (bitAnd (gB (jg8 key (picked sealed (some ((4-L:Nat):Int)) (some ((20-L:Nat):Int)))) 0:Nat) 31)) off (jg8 key (picked sealed (some ((4-L:Nat):Int)) (some ((20-L:Nat):Int)))) L
theorem jcx {M:Model} {A:Around} {E:Value->Shared->Prop} {s:Shared} {env:Env} {pos:Pos} {a:Addr} {first:List Value} {Q:Value->Shared->Prop} {e:Expr} {rest:List Expr}
  (h:wpAny M A (spliced (backTo pos (starEach (e::rest) env))) (fun vs s₁=>jl2 ((∃ o fd,s₁.heap.get? a=some o∧o.data=.func fd)∧wpG M A (call (.ref a) (first++vs)) Q E s₁)) E s)
  (he:starEach (e::rest) env=(false,eval e env)::starEach rest env) :
  wpG M A (callWith pos (.ref a) first (backTo pos (starEach (e::rest) env)) []) Q E s:=by
 rw [he] at h ⊢
 exact jl6 (evalArgs_plain h)
theorem kh9 (suite:Int) (n:Nat):0<(BE (ksz suite).toNat n).size∧(BE (ksz suite).toNat n).size≤1000:=by
 rw [jdk]
 rcases kr9 suite with h | h <;> rw [h] <;> decide
theorem kyk {a b:Array UInt8} (h:0<a.size):gB (a++b) 0=gB a 0:=by
 unfold gB
 have h2:0<a.size+b.size:=by walk_at "OM"
 simp [Array.getD,h,h2,Array.getElem_append_left h]
theorem jf0 {g h h':Heap} {L a:Addr} {m:Str->Option Value} {o:Obj} (F:Fr g L h m) (hn:h.get? a=none) (ho:h'.get? a=some o):h'.get? a=some o∧a≠L∧g.get? a=none:=by
 refine km2 F.ns fun oL es ep hL r=>?_
 refine (iAA ho (fun e=>?_) (?_))
 ·subst e;rw [hn] at hL;cases hL
 ·exact jbz F.keep hn
noncomputable def isFn (o:Obj):Bool:=match o.data with | .func _=>true | _=>false
theorem kdk {w:World} {h:Heap} {a:Addr} (KX:(K w.params).In h) (hf:((K w.params).lookup a).any isFn=true):∃ o fd,h.get? a=some o∧o.data=.func fd:=by
 cases ho:(K w.params).lookup a with
 | none=>rw [ho] at hf;cases hf
 | some o =>
  rw [ho] at hf
  have h2:isFn o=true:=hf
  unfold isFn at h2
  split at h2
  ·exact (jhj o _ (KX _ _ ho) (by assumption))
  ·cases h2
section
variable {w:World} {mg mb:Str->Option Value} {hb:Heap} {s:Shared} {A:Around}
theorem ky3 {x dx lam rl scb tcb a hp:Addr} {sec suite kp pn:Int} {T:Nat->Tok} {n n0 off L:Nat} {its:Array Value} {k:Nat} {hdr pay:Array UInt8} {t1 t2 t3:Tok} (B:jbw w mg mb hb) (S:Sub hb s.heap) (hC:jav A 8) (P:jb6 s.heap lam rl sec)
  (hn:n<2 ^ 50) (hn0:n0<2 ^ 50) (hx:s.heap.get? x=some (instObj 257 dx)) (hd:s.heap.get? dx=some (jb2 w.params T suite sec a hp kp n scb tcb lam)) (hdr_:dx≠rl)
  (hA:jhv w.params s.heap a suite n lam) (hH:km0 w.params s.heap hp suite n0 lam) (hr:s.heap.get? rl=some (listOf its k)) (hrb:hb.get? rl=none) (hz:its.size≤1000)
  (hsz:hdr.size=off+L) (hoff:1≤off) (hoff2:off≤100) (hL:1≤L) (hL4:L≤4) (hb0:bitAnd (gB hdr 0:Nat) 3=(L:Int)-1) (hb7:bitAnd (gB hdr 0:Nat) 128=0) (hp1:pay.size≤100) (hpn:0≤pn∧pn<2 ^ 62) :
  jq7 w A s (.call (.ref 233) ⟨[.ref x,.bytes hdr t1,.bytes pay t2,.int pn t3],[]⟩) [rl]
   (fun v h'=>∃ t tp,v=.bytes (jr5 (BE (ksz suite).toNat (4*n0+2)) hdr (pay++BE 16 (its.size+1)) off L) t∧s.heap.get? tp=none∧h'.get? rl=some (listOf (its.push (.ref tp)) (k+1)) ∧
    jvw h' (.ref tp) ⟨je3 suite,BE (ksz suite).toNat (4*n),BE 12 (bitXor ((4*n+1:Nat):Int) pn).toNat,hdr,pay++BE 16 (its.size+1),pay⟩):=by
 intro R hR
 refine openA A hC fun dp fr un hC=>?_
 have hN:Has hb s.heap [(rl,listOf its k)]:=fun p hp=>by obtain rfl:=List.mem_singleton.mp hp;exact ⟨hr,hrb⟩
 refine jq3 (news:=[(rl,listOf its k)]) (binds:=[("self", .ref x),("plain_header", .bytes hdr t1),("plain_payload", .bytes pay t2),("packet_number", .int pn t3)]) (bl:=[("packet_number", .int pn t3),("plain_payload", .bytes pay t2),("plain_header", .bytes hdr t1),("self", .ref x)])
  B S hN (by k_is) (by k_is) hC.room (BindsTo.of_eq rfl) (by kernel_rfl!) (by kernel_rfl!) ?_ (by kernel_rfl!) (by kernel_rfl!) (by kernel_rfl!) (by kernel_rfl!)
 intro g L' h₁ tk B' F N hg hs hl
 have KX:=B'.k
 have TR:=B'.t
 have TG:jaz s.heap g:=toG hN hg fun p hp=>by obtain rfl:=List.mem_singleton.mp hp;rfl
 have gx:=TG _ _ hx rfl
 have gd:=hg _ _ hd (fun q=>hdr_ (List.mem_singleton.mp q))
 have P':=P.keeps TG
 refine jkj (hA.keeps TG) fun da Ta u1 u2 u3 ga1 ga2=>?_
 refine jx5 (hH.keeps TG) fun dh Th u4 u5 gh1 gh2=>?_
 have i1:(0:Int)≤((4*n+1:Nat):Int)∧((4*n+1:Nat):Int)<2 ^ 64:=by walk_at "OM"
 refine jf9 2 ?_
 try dsimp only [List.take,List.drop]
 walk_at "GO"
 rename_i F5 N5
 refine ja0 (kqx B' F5.keep (hC.deeper.le (by decide)) (P'.keeps (jaz.of_sub F5.keep)) (F5.keep _ _ ga1) (F5.keep _ _ ga2) i1 ⟨hpn.1,by walk_at "OM"⟩ (N5.get (.head _)) (N5.fresh (.head _)) hz (by walk_at "OM")) fun v h6 tk6 H6 p6=>?_
 refine jsx p6 fun t6 tp zq114 hf6 hr6 hrow=>?_
 try clear p6
 obtain rfl:=zq114
 have F6:=fr_mut F5 N5 H6 fun a ha=>by obtain rfl:=List.mem_singleton.mp ha;exact ⟨_,.head _⟩
 have N6':News g L' h6 [(rl,listOf (its.push (.ref tp)) (k+1))]:=kn7 N5 H6 fun p hp=>.inr (by obtain rfl:=List.mem_singleton.mp hp;exact (iAE hr6 _ (.head _)))
 refine jd5 hrow fun ta q1 q2 q3 q4 q5 q6 eta htp=>?_
 try clear hrow
 cases eta
 have N6:News g L' h6 [(rl,listOf (its.push (.ref tp)) (k+1)),(tp,_)]:=jbj (N6' _ (.head _)) (jgw (jf0 F5 hf6 htp))
 clear N6'
 have ftp:s.heap.get? tp=none:=jbz (jfq hN hg F5 N5 (by simp)) hf6
 have L6:jb8 s.heap [rl] h6:=jb8.of_sub (jfq hN hg F5 N5 (by simp)) H6
 clear F5 N5
 walk_at "GO"
 rename_i h8 F8 N8
 have P8:=(P'.keeps (jaz.of_sub F8.keep))
 have f97:=kdk (a:=97) KX (by kernel_rfl!)
 have q7:bitAnd (gB (hdr++(pay++BE 16 (its.size+1))) 0:Nat) 128=0:=by rw [kyk (by walk_at "OM")];exact hb7
 have hzz:(pay++BE 16 (its.size+1)).size≤1000:=by rw [Array.size_append,jdk];walk_at "OM"
 refine ja4 (jo8 (jc6 ?_ (by rfl)))
 walk_at "GO"
 refine jcx ?_ (by rfl)
 walk_at "GO"
 refine je4 f97 fun o97 d97 e97 k97=>?_
 try clear f97
 refine jl2.go ⟨(jhj _ _ (F8.keep _ _ e97) k97),?_⟩
 have key0:=kh9 suite (4*n0+2)
 refine jfv (ko4 B' F8.keep (hC.deeper.le (by decide)) (P'.keeps (jaz.of_sub F8.keep)) (F8.keep _ _ gh1) (F8.keep _ _ gh2) key0.1 key0.2 hsz hoff hoff2 hL hL4 hb0 q7 hzz) fun v h10 tk10 H10 p10=>?_
 refine je4 p10 fun t10 m10 zq112 zq113=>?_
 try clear p10
 obtain rfl:=zq112
 obtain rfl:=zq113
 have hfin:=H10.mono (bs:=[rl]) (fun a ha=>nomatch ha)
 exact hR _ _ _ ((ja5 hg F8).trans hfin) (ksk _ tp rfl ftp (H10 _ _ (N8.get (.head _)) (fun q=>nomatch q)) (jcq _ q1 q2 q3 q4 q5 q6 rfl (H10 _ _ (N8.get me1) (fun q=>nomatch q))))
end
end
theorem fl22:True:=by first|walk1|trivial
section
local macro_rules (kind:=PyProof.Rows.tacticWalk_at_) | s=>jex "ANJaPGHEQRVbWf" s
theorem new4 {g h h':Heap} {L a b c d:Addr} {m:Str->Option Value} {o1 o2 o3 o4:Obj} (F:Fr g L h m) (n1:h.get? a=none) (e1:h'.get? a=some o1) (n2:h.get? b=none) (e2:h'.get? b=some o2) (n3:h.get? c=none) (e3:h'.get? c=some o3) (n4:h.get? d=none) (e4:h'.get? d=some o4):News g L h' [(a,o1),(b,o2),(c,o3),(d,o4)]:=jbj (jf0 F n1 e1) (jbj (jf0 F n2 e2) (jbj (jf0 F n3 e3) (jgw (jf0 F n4 e4))))
section
variable {w:World} {mg mb:Str->Option Value} {hb:Heap} {s:Shared} {A:Around}
theorem kbv {g:Heap} {L':Addr} {m:Str->Option Value} {x dx lam rl scb tcb a hp:Addr} {sec suite kp pn:Int} {T:Nat->Tok} {n:Nat} {its:Array Value} {rows:List Row} {k:Nat} {p hdr:Array UInt8} {t1 u1 u3:Tok} {base h5:Heap} {tk5:Nat} {outer:List Env} {R:Result->Shared->Prop} (B:jbw w mg mb hb) (S:Sub hb g) (B':jbw w mg mb g) (hC:jav A 12) (P':jb6 g lam rl sec)
  (gx:g.get? x=some (instObj 257 dx)) (gd:g.get? dx=some (jb2 w.params T suite sec a hp kp n scb tcb lam)) (hA:jhv w.params g a suite n lam) (gr:g.get? rl=some (listOf its k)) (hrb:hb.get? rl=none) (hrows':jbv g its.toList rows)
  (hp1:p.size≤1000) (hh1:0<hdr.size) (hh2:hdr.size≤1000) (i1:(0:Int)≤((4*n+1:Nat):Int)∧((4*n+1:Nat):Int)<2 ^ 64) (hpn2:0≤pn∧pn<2 ^ 64) (Y:Fly A base outer g) (hLb:base.get? L'=none)
  (F5:Fr g L' h5 m) (l1:Lk m "crypto" (.ref x)) (l2:Lk m "packet" (.bytes p t1)) (l3:Lk m "plain_header" (.bytes hdr u1)) (l4:Lk m "packet_number" (.int pn u3)) (l5:Lk m "self" (.ref x))
  (hR:∀ r D h' tk u1 u2 u3,rows.find? (jh3 (je3 suite) (BE (ksz suite).toNat (4*n)) (BE 12 (bitXor ((4*n+1:Nat):Int) pn).toNat) hdr (picked p (some (hdr.size:Nat)) none))=some r->Sub g h'->g.get? D=none->h'.get? D=some (jl7 #[.bytes hdr u1,.bytes r.two u2,.int pn u3,.bool false])->R (.ok (.ret (.ref D))) { s with heap:=h',toks:=tk })
  (hE:∀ e a0 h' tk,rows.find? (jh3 (je3 suite) (BE (ksz suite).toNat (4*n)) (BE 12 (bitXor ((4*n+1:Nat):Int) pn).toNat) hdr (picked p (some (hdr.size:Nat)) none))=none->Heap.FlyingW base outer e (.ref 31) a0 h'->g.UpToSlots h'->R (.error (.ref e)) { s with heap:=h',toks:=tk }) :
  wpAny (model pw w) (A.deeper (envOf "CryptoContext.decrypt_packet" jgv L' 226 (.ref 225))) (execs (jj5.drop 7) (envOf "CryptoContext.decrypt_packet" jgv L' 226 (.ref 225))) (retP R) (ko8 w A (envOf "CryptoContext.decrypt_packet" jgv L' 226 (.ref 225)) R) { s with heap:=h5,toks:=tk5 }:=by
 obtain ⟨hd,dp,fr,gs,un⟩:=A
 obtain ⟨rfl,rfl⟩:hd=none∧gs=some []:=⟨hC.h,hC.g⟩
 have KX:=B'.k
 have TR:=B'.t
 refine jkj hA fun da Ta u4 u5 u7 ga1 ga2=>?_
 have N5:News g L' h5 []:=fun q hq=>nomatch hq
 dsimp only [jj5,jaj,List.drop]
 walk_at "GO"
 rename_i h5 _ _ F5 N5
 refine jfj (kb1 B (Sub.trans' S F5.keep) (hC.deeper.le (by decide)) (P'.keeps (jaz.of_sub F5.keep)) (F5.keep _ _ ga1) (F5.keep _ _ ga2) i1 hpn2 (F5.keep _ _ gr) hrb (jbv.keeps (jaz.of_sub F5.keep) hrows') (Fly.push (Y.later F5.keep) F5 hLb rfl rfl)) (fun v h6 tk6 H6 p6=>?_) (fun e a0 h6 tk6 c X6 u6=>?_)
 ·refine je4 p6 fun r t6 hf6 zq102=>?_
  try clear p6
  obtain rfl:=zq102
  have F6:=jc9 F5 H6
  have N6:=jc7 N5 H6
  clear F5 N5 H6
  walk_at "GO"
  rename_i D7 h7 F7 N7 l7
  exact hR r D7 _ _ _ _ _ hf6 F7.keep (N7.fresh (.head _)) (N7.get (.head _))
 ·exact jm2 (Around.frames_deeper Y.st) rfl X6 fun h' X u=>hE e a0 h' _ c X ((Heap.UpToSlots.of_keeps F5.keep).trans (u6.trans u))
theorem ky4 {x dx lam rl scb tcb a hp:Addr} {sec suite kp ex pn:Int} {T:Nat->Tok} {n n0 off Ln:Nat} {its:Array Value} {rows:List Row} {k:Nat} {p hdr mk:Array UInt8} {t1 t2 t3:Tok} {base:Heap} {outer:List Env} (B:jbw w mg mb hb) (S:Sub hb s.heap) (hC:jav A 12) (P:jb6 s.heap lam rl sec)
  (hsec:sec=0∨sec=1) (hsuite:suite=4865∨suite=4866∨suite=4867) (hn:n+1<2 ^ 50) (hkp:kp=0∨kp=1)
  (hx:s.heap.get? x=some (instObj 257 dx)) (hd:s.heap.get? dx=some (jb2 w.params T suite sec a hp kp n scb tcb lam))
  (hA:jhv w.params s.heap a suite n lam) (hH:km0 w.params s.heap hp suite n0 lam) (hr:s.heap.get? rl=some (listOf its k)) (hrb:hb.get? rl=none) (hrows:jbv s.heap its.toList rows)
  (hsz:off+20≤p.size) (hp1:p.size≤1000) (hmk:mk=jg8 (BE (ksz suite).toNat (4*n0+2)) (picked p (some ((off+4:Nat):Int)) (some ((off+20:Nat):Int)))) (hhd:ji2 p mk off=hdr) (hh1:0<hdr.size) (hh2:hdr.size≤1000)
  (hLn:gB hdr 0 % 4+1=Ln) (hpn:jv2 (jyw p mk off) ((Ln:Int)*8) ex=pn) (hpn2:0≤pn∧pn<2 ^ 64) (Y:Fly A base outer s.heap) :
  jx4 w A s (.call (.ref 226) ⟨[.ref x,.bytes p t1,.int (off:Nat) t2,.int ex t3],[]⟩) []
   (fun v h'=>∃ r up tp u1 u2 u3,rows.find? (jh3 (je3 suite) (BE (ksz suite).toNat (4*(if up then n+1 else n))) (BE 12 (bitXor ((4*(if up then n+1 else n)+1:Nat):Int) pn).toNat) hdr (picked p (some (hdr.size:Nat)) none))=some r∧v=.ref tp∧s.heap.get? tp=none ∧
    h'.get? tp=some (jl7 #[.bytes hdr u1,.bytes r.two u2,.int pn u3,.bool up])∧up=(!(bitAnd (gB hdr 0:Nat) 128 != 0)&&((bitAnd (gB hdr 0:Nat) 4).fdiv (2 ^ Int.toNat 2) != kp))) (.ref 31) base outer
   (∃ up,up=(!(bitAnd (gB hdr 0:Nat) 128 != 0)&&((bitAnd (gB hdr 0:Nat) 4).fdiv (2 ^ Int.toNat 2) != kp))∧rows.find? (jh3 (je3 suite) (BE (ksz suite).toNat (4*(if up then n+1 else n))) (BE 12 (bitXor ((4*(if up then n+1 else n)+1:Nat):Int) pn).toNat) hdr (picked p (some (hdr.size:Nat)) none))=none):=by
 intro R hR hE
 obtain ⟨hd,dp,fr,gs,un⟩:=A
 obtain ⟨rfl,rfl⟩:hd=none∧gs=some []:=⟨hC.h,hC.g⟩
 refine jq3 (news:=[]) (binds:=[("self", .ref x),("packet", .bytes p t1),("encrypted_offset", .int (off:Nat) t2),("expected_packet_number", .int ex t3)]) (bl:=[("expected_packet_number", .int ex t3),("encrypted_offset", .int (off:Nat) t2),("packet", .bytes p t1),("self", .ref x)])
  B S (fun p hp=>nomatch hp) (by k_is) (by k_is) hC.room (BindsTo.of_eq rfl) (by kernel_rfl!) (by kernel_rfl!) ?_ (by kernel_rfl!) (by kernel_rfl!) (by kernel_rfl!) (by kernel_rfl!)
 intro g L' h₁ tk B' F N hg hs hl
 have KX:=B'.k
 have TR:=B'.t
 have hsg:Sub s.heap g:=fun b o e=>hg b o e (by simp)
 have gx:=hsg _ _ hx
 have gd:=hsg _ _ hd
 have gr:=hsg _ _ hr
 have P':=P.keeps (jaz.of_sub hsg)
 have hrows':=jbv.keeps (jaz.of_sub hsg) hrows
 refine jkj (hA.keeps (jaz.of_sub hsg)) fun da Ta u1 u2 u3 ga1 ga2=>?_
 refine jx5 (hH.keeps (jaz.of_sub hsg)) fun dh Th u4 u5 gh1 gh2=>?_
 have hLb:base.get? L'=none:=by
  cases q:base.get? L' with
  | none=>rfl
  | some o=>exact absurd (Nat.lt_of_lt_of_le (Heap.lt_size (hsg _ _ (Y.sub _ _ q))) F.above) (Nat.lt_irrefl _)
 have f104:=kdk (a:=104) KX (by kernel_rfl!)
 refine je4 f104 fun o104 d104 e104 k104=>?_
 try clear f104
 have key0:=kh9 suite (4*n0+2)
 refine jf9 1 ?_
 try dsimp only [List.take,List.drop]
 walk_at "GO"
 refine ja4 (jhx (jc6 ?_ (by rfl)) (by rfl) (by rfl))
 walk_at "GO"
 refine jcx ?_ (by rfl)
 walk_at "GO"
 refine jl2.go ⟨(jhj _ _ (F.keep _ _ e104) k104),?_⟩
 refine jfv (ki5 B' F.keep (hC.deeper.le (by decide)) (P'.keeps (jaz.of_sub F.keep)) (F.keep _ _ gh1) (F.keep _ _ gh2) key0.1 key0.2 hsz hp1) fun v h9 tk9 H9 p9=>?_
 refine jmx p9 fun mk' tp9 u8 u9 hmk' zq103 hf9 htp=>?_
 try clear p9
 obtain rfl:=zq103
 rw [← hmk] at hmk'
 subst hmk'
 rw [hhd] at htp
 have F9:=jc9 F H9
 have N9:News g L' h9 [(tp9,_)]:=fun q hq=>by
  obtain rfl:=List.mem_singleton.mp hq
  exact jf0 F hf9 htp
 clear N F H9 htp hf9 hmk
 walk_at "GO"
 refine jcz ?_
 have z1:bitAnd (gB hdr 0:Nat) 3=((gB hdr 0 % 4:Nat):Int):=bitAnd_m2 _
 have z2:((gB hdr 0 % 4:Nat):Int)+1=(Ln:Nat):=by walk_at "OM"
 have i1:(0:Int)≤((4*n+1:Nat):Int)∧((4*n+1:Nat):Int)<2 ^ 64:=by walk_at "OM"
 have i2:(0:Int)≤((4*(n+1)+1:Nat):Int)∧((4*(n+1)+1:Nat):Int)<2 ^ 64:=by walk_at "OM"
 refine jg4 5 ?_
 try dsimp only [List.take]
 walk_at "GO"
 ·rename_i h5 _ F5 N5 _
  have k5:Sub s.heap h5:=fun b o e=>F5.keep b o (hsg b o e)
  have up:(!(bitAnd (gB hdr 0:Nat) 128 != 0)&&((bitAnd (gB hdr 0:Nat) 4).fdiv (2 ^ Int.toNat 2) != kp))=false:=by
   have e1:bitAnd (gB hdr 0:Nat) 128≠0:=by assumption
   rw [bne_iff_ne.mpr e1]
   rfl
  refine jl2.go ?_
  exact kbv (pn:=jv2 (jyw p mk' off) ((Ln:Int)*8) ex) B (Sub.trans' S hsg) B' hC P' gx gd (hA.keeps (jaz.of_sub hsg)) gr hrb hrows' hp1 hh1 hh2 i1 (by rw [hpn];exact hpn2) (Y.later hsg) hLb F5 (by walk_at "LKd") (by walk_at "LKd") (by walk_at "LKd") (by walk_at "LKd") (by walk_at "LKd")
   (fun r D h' tk u1 u2 u3 f S' d1 d2=>hR _ _ _ (fun b o e zz=>S' b o (hsg b o e)) (jfx r false D _ _ _ (by rw [hpn] at f;simp only [Bool.false_eq_true,if_false];exact f) rfl (jbz hsg d1) (by rw [hpn] at d2;exact d2) up.symm))
   (fun e a0 h' tk c X u=>hE e a0 h' _ (iEA false up.symm (by rw [hpn] at c;simp only [Bool.false_eq_true,if_false];exact c)) X ((Heap.UpToSlots.of_keeps hsg).trans u))
 ·rename_i F4 N4 _ _
  have k4:Sub s.heap _:=fun b o e=>F4.keep b o (hsg b o e)
  have up:(!(bitAnd (gB hdr 0:Nat) 128 != 0)&&((bitAnd (gB hdr 0:Nat) 4).fdiv (2 ^ Int.toNat 2) != kp))=true:=by
   have e1:bitAnd (gB hdr 0:Nat) 128=0:=by assumption
   have e2:(bitAnd (gB hdr 0:Nat) 4).fdiv (2 ^ Int.toNat 2)≠kp:=by assumption
   rw [e1,bne_iff_ne.mpr e2]
   rfl
  refine ja0 (jw9 B' F4.keep (hC.deeper.le (by decide)) (P'.keeps (jaz.of_sub F4.keep)) hsec hsuite hn hkp (F4.keep _ _ gx) (F4.keep _ _ gd)) fun v h4 tk4 H4 p4=>?_
  refine jm4 p4 fun y dy T4 a4 hp4 zq101 f1 f2 zr13=>?_
  refine jq8 zr13 fun e1 e2 f3 f4 i4=>?_
  try clear p4
  obtain rfl:=zq101
  refine jkj i4 fun d4 T6 v1 v2 v3 b1 b2=>?_
  try clear i4
  have P4:=(P'.keeps (jaz.of_sub F4.keep)).keeps (jaz.of_sub (fun b o e=>H4 b o e (fun q=>nomatch q)))
  have F4':=jc9 F4 H4
  have N4':=new4 F4 f1 e1 f2 e2 f3 b1 (f4 _ b1) b2
  have hyx:y≠x:=fun q=>by rw [q,F4.keep _ _ gx] at f1;cases f1
  clear F4 N4 f4
  walk_at "GO"
  refine jl2.go ?_
  dsimp only [List.drop]
  walk_at "GO"
  rename_i h5 _ _ F5 N5
  have k5:Sub s.heap h5:=fun b o e=>F5.keep b o (hsg b o e)
  refine jfj (kb1 B (Sub.trans' S k5) (hC.deeper.le (by decide)) (P'.keeps (jaz.of_sub F5.keep)) (N5.get me2) (N5.get me3) i2 (by rw [hpn];exact hpn2) (F5.keep _ _ gr) hrb (jbv.keeps (jaz.of_sub F5.keep) hrows') (Fly.push (Y.later k5) F5 hLb rfl rfl)) (fun v h6 tk6 H6 p6=>?_) (fun e a0 h6 tk6 c X6 u6=>?_)
  ·refine je4 p6 fun r t6 hf6 zq100=>?_
   try clear p6
   obtain rfl:=zq100
   rw [hpn] at hf6
   have F6:=jc9 F5 H6
   have N6:=jc7 N5 H6
   clear F5 N5 H6
   walk_at "GO"
   rename_i D7 h7 F7 N7 l7
   rw [hpn] at N7
   exact hR _ _ _ (fun b o e zz=>F7.keep b o (hsg b o e)) (jfx r true D7 _ _ _ (by simp only [if_true,Bool.false_eq_true,if_false];exact hf6) rfl (jbz hsg (N7.fresh (.head _))) (N7.get (.head _)) up.symm)
  ·rw [hpn] at c
   exact jm2 (Around.frames_deeper Y.st) rfl X6 fun h' X u=>hE e a0 h' _ (iEA true up.symm (by simp only [if_true,Bool.false_eq_true,if_false];exact c)) X ((Heap.UpToSlots.of_keeps k5).trans (u6.trans u))
 ·rename_i h5 F5 N5 _ _
  have k5:Sub s.heap h5:=fun b o e=>F5.keep b o (hsg b o e)
  have up:(!(bitAnd (gB hdr 0:Nat) 128 != 0)&&((bitAnd (gB hdr 0:Nat) 4).fdiv (2 ^ Int.toNat 2) != kp))=false:=by
   have e1:bitAnd (gB hdr 0:Nat) 128=0:=by assumption
   have e2:(bitAnd (gB hdr 0:Nat) 4).fdiv (2 ^ Int.toNat 2)=kp:=by assumption
   rw [e1,e2]
   simp
  refine jl2.go ?_
  exact kbv (pn:=jv2 (jyw p mk' off) ((Ln:Int)*8) ex) B (Sub.trans' S hsg) B' hC P' gx gd (hA.keeps (jaz.of_sub hsg)) gr hrb hrows' hp1 hh1 hh2 i1 (by rw [hpn];exact hpn2) (Y.later hsg) hLb F5 (by walk_at "LKd") (by walk_at "LKd") (by walk_at "LKd") (by walk_at "LKd") (by walk_at "LKd")
   (fun r D h' tk u1 u2 u3 f S' d1 d2=>hR _ _ _ (fun b o e zz=>S' b o (hsg b o e)) (jfx r false D _ _ _ (by rw [hpn] at f;simp only [Bool.false_eq_true,if_false];exact f) rfl (jbz hsg d1) (by rw [hpn] at d2;exact d2) up.symm))
   (fun e a0 h' tk c X u=>hE e a0 h' _ (iEA false up.symm (by rw [hpn] at c;simp only [Bool.false_eq_true,if_false];exact c)) X ((Heap.UpToSlots.of_keeps hsg).trans u))
end
end
theorem fl23:True:=by first|walk1|trivial
section
local macro_rules (kind:=PyProof.Rows.tacticWalk_at_) | s=>jex "AJaPGHEQRVbg" s
theorem kdq {w:World} {A:Around} {base h:Heap} {outer:List Env} {env:Env} {L e:Addr} {cls:String} {s:Shared} {R:Result->Shared->Prop} (X:Fly (A.deeper env) base (env::outer) h) (hf:env.frame=some L) (hx:Heap.NewExc h s.heap e cls)
  (hR:∀ a0 h',Heap.FlyingW base outer e (.type cls) a0 h'->h.UpToSlots h'->R (.error (.ref e)) { s with heap:=h' }):ko8 w A env R (.ref e) s:=by
 refine jl5 hx.there fun ob tp he hcls hd=>?_
 have hen:base.get? e=none:=jbz X.sub hx.new
 refine wpAny_leaving_firstW (a0:=tp) X.st (X.fr.of_keeps fun b o hb _=>(iEA o (hx.keeps b o hb) rfl)) hf he (fun b o hb=>hx.keeps b o (X.sub b o hb)) hen hd rfl rfl fun h' hL=>?_
 refine jv1 hL fun k1 zq155 k3 k4=>?_
 try clear hL
 obtain ⟨_,_,k2⟩:=zq155
 exact hR tp h' (jn2 k1 hen k2 (by rw [← hcls];exact k3)) ((Heap.UpToSlots.of_keeps hx.keeps).trans k4)
section
variable {w:World} {mg mb:Str->Option Value} {hb:Heap} {s:Shared} {A:Around}
theorem ju6 {x dx lam scb tcb:Addr} {sec kp:Int} {T:Nat->Tok} {v1 v2 v3:Value} {base:Heap} {outer:List Env} (B:jbw w mg mb hb) (S:Sub hb s.heap) (hC:jav A 3)
  (hx:s.heap.get? x=some (instObj 257 dx)) (hd:s.heap.get? dx=some (jj9 w.params T sec kp scb tcb lam)) (Y:Fly A base outer s.heap) :
  jv0 w A s (.call (.ref 226) ⟨[.ref x,v1,v2,v3],[]⟩) [] (fun zz zz=>False) (.ref 195) base outer True:=by
 intro R hR hE
 obtain ⟨hd,dp,fr,gs,un⟩:=A
 obtain ⟨rfl,rfl⟩:hd=none∧gs=some []:=⟨hC.h,hC.g⟩
 refine jcj (news:=[]) (binds:=[("self", .ref x),("packet", v1),("encrypted_offset", v2),("expected_packet_number", v3)]) (bl:=[("expected_packet_number", v3),("encrypted_offset", v2),("packet", v1),("self", .ref x)])
  B S (fun p hp=>nomatch hp) (by k_is) (by k_is) hC.room (BindsTo.of_eq rfl) (by kernel_rfl!) (by kernel_rfl!) ?_ (by kernel_rfl!) (by kernel_rfl!) (by kernel_rfl!) (by kernel_rfl!)
 intro g L' h₁ tk B' F N hg hs hl
 have KX:=B'.k
 have TR:=B'.t
 have hsg:Sub s.heap g:=fun b o e=>hg b o e noN
 have gx:=hsg _ _ hx
 have gd:=hsg _ _ hd
 have hLb:base.get? L'=none:=by
  cases q:base.get? L' with
  | none=>rfl
  | some o=>exact absurd (Nat.lt_of_lt_of_le (Heap.lt_size (hsg _ _ (Y.sub _ _ q))) F.above) (Nat.lt_irrefl _)
 walk_at "GO"
 rename_i h6 e6 X6
 have k5:Sub s.heap h₁:=fun b o e=>F.keep b o (hsg b o e)
 exact js8 (Fly.push (Y.later k5) F hLb rfl rfl) rfl X6 fun a0 h' x u=>hE e6 a0 h' _ trivial x ((Heap.UpToSlots.of_keeps k5).trans u)
theorem ju5 {x dx lam scb tcb:Addr} {sec kp:Int} {T:Nat->Tok} {v1 v2 v3:Value} {base:Heap} {outer:List Env} (B:jbw w mg mb hb) (S:Sub hb s.heap) (hC:jav A 3)
  (hx:s.heap.get? x=some (instObj 257 dx)) (hd:s.heap.get? dx=some (jj9 w.params T sec kp scb tcb lam)) (Y:Fly A base outer s.heap) :
  jv0 w A s (.call (.ref 233) ⟨[.ref x,v1,v2,v3],[]⟩) [] (fun zz zz=>False) (.type "AssertionError") base outer True:=by
 intro R hR hE
 obtain ⟨hd,dp,fr,gs,un⟩:=A
 obtain ⟨rfl,rfl⟩:hd=none∧gs=some []:=⟨hC.h,hC.g⟩
 refine jcj (news:=[]) (binds:=[("self", .ref x),("plain_header", v1),("plain_payload", v2),("packet_number", v3)]) (bl:=[("packet_number", v3),("plain_payload", v2),("plain_header", v1),("self", .ref x)])
  B S (fun p hp=>nomatch hp) (by k_is) (by k_is) hC.room (BindsTo.of_eq rfl) (by kernel_rfl!) (by kernel_rfl!) ?_ (by kernel_rfl!) (by kernel_rfl!) (by kernel_rfl!) (by kernel_rfl!)
 intro g L' h₁ tk B' F N hg hs hl
 have KX:=B'.k
 have TR:=B'.t
 have hsg:Sub s.heap g:=fun b o e=>hg b o e noN
 have gx:=hsg _ _ hx
 have gd:=hsg _ _ hd
 have hLb:base.get? L'=none:=by
  cases q:base.get? L' with
  | none=>rfl
  | some o=>exact absurd (Nat.lt_of_lt_of_le (Heap.lt_size (hsg _ _ (Y.sub _ _ q))) F.above) (Nat.lt_irrefl _)
 walk_at "GO"
 rename_i h5 _ F5 N5 h6 e6 X6
 have k5:Sub s.heap h5:=fun b o e=>F5.keep b o (hsg b o e)
 exact kdq (Fly.push (Y.later k5) F5 hLb rfl rfl) rfl X6 fun a0 h' x u=>hE e6 a0 h' _ trivial x ((Heap.UpToSlots.of_keeps k5).trans u)
end
end
theorem fl24:True:=by first|walk1|trivial
set_option genInjectivity false
set_option genSizeOf false
section
local macro_rules (kind:=PyProof.Rows.tacticWalk_at_) | s=>jex "AJaPGHEQRVb@%" s
local macro_rules | `(tactic| k_ne)=>jo2 "@" "k_ne"
local macro_rules | `(tactic| k_all)=>jo2 "%" "k_all"
structure kb2 (g h:Heap) (L:Addr) (as:List Addr) (rest:List (Addr×Obj)):Prop where
 all:∀ b o,h.get? b=some o->b≠L->b∉as->g.get? b=none->(b,o)∈rest
 news:∀ p∈rest,h.get? p.1=some p.2∧p.1≠L∧g.get? p.1=none
 off:∀ p∈rest,p.1∉as
theorem jck (g h:Heap) (L:Addr) (as:List Addr):∃ rest,kb2 g h L as rest:=by
 classical
 refine ⟨(List.range h.objs.size).filterMap (fun b=>match h.get? b with | some o=>if b≠L∧b∉as∧g.get? b=none then some (b,o) else none | none=>none),fun b o e n1 n2 n3=>?_,fun p hp=>?_,fun p hp=>?_⟩
 ·refine List.mem_filterMap.mpr (iEA b (List.mem_range.mpr (Heap.lt_size e)) (?_))
  rw [e]
  exact if_pos (iAA n1 n2 n3)
 all_goals
  refine xEA (List.mem_filterMap.mp hp) fun b _ hb=>?_
  cases e:h.get? b with
  | none=>rw [e] at hb;cases hb
  | some o =>
   rw [e] at hb
   dsimp only at hb
   split at hb
   ·rename_i hc
    cases hb
    first | exact (iAA e hc.1 hc.2.2) | exact hc.2.1
   ·cases hb
theorem kb2.ne {g h:Heap} {L a:Addr} {as:List Addr} {rest:List (Addr×Obj)} (R:kb2 g h L as rest) (ha:a∈as):∀ p∈rest,p.1≠a:=fun p hp q=>R.off p hp (q▸ha)
theorem jg7 {h:Heap} {L:Addr} {m:Str->Option Value} {o:Obj} (hn:h.Ns L m) (hm:m "_cipher_name" = none) (e:h.get? L=some o):jak o=false:=by
 refine jv3 hn fun o' es ep h1 h2 h3 h4=>?_
 try clear hn
 rw [e] at h1;cases h1
 unfold jak
 rw [h2]
 show ((es.size==3 || es.size==4)&&(nsFind es "_cipher_name").isSome)=false
 rw [h4,hm]
 exact Bool.and_false _
theorem kb2.keeps {g h h2:Heap} {L:Addr} {m m2:Str->Option Value} {as:List Addr} {rest news2:List (Addr×Obj)} (R:kb2 g h L as rest) (F:Fr g L h m) (hm:m "_cipher_name" = none) (F2:Fr g L h2 m2) (N2:News g L h2 news2) (hs:∀ p∈rest,p∈news2)
  (has:∀ a∈as,∃ o,h.get? a=some o∧jak o=false):jaz h h2:=fun b o e f=>by
 by_cases n1:b=L
 ·subst n1;rw [jg7 F.ns hm e] at f;cases f
 by_cases n2:b∈as
 ·refine xEA (has b n2) fun o' e' f'=>?_
  rw [e] at e';cases e';rw [f] at f';cases f'
 cases q:g.get? b with
 | none=>exact (N2 _ (hs _ (R.all b o e n1 n2 q))).1
 | some o'=>have:=F.keep b o' q;rw [e] at this;cases this;exact F2.keep b o q
theorem fz {h:Heap} {a:Addr} {o1:Obj} (e1:h.get? a=some o1) (f:jak o1=false) (o:Obj) (e:h.get? a=some o):jak o=false:=by rw [e1] at e;cases e;exact f
structure EA where
 (x dx r dr c dc lam rl hl k1 k2 k3 k4:Addr)
def jo7 (P:Params) (h:Heap) (x dx:Addr) (suite sec kp:Int) (n n0:Nat) (scb tcb lam:Addr):Prop :=
 h.get? x=some (instObj 257 dx)∧∃ T a hp,h.get? dx=some (jb2 P T suite sec a hp kp n scb tcb lam)∧jhv P h a suite n lam∧km0 P h hp suite n0 lam
theorem jo7.keeps {P:Params} {h h':Heap} {x dx:Addr} {suite sec kp:Int} {n n0:Nat} {scb tcb lam:Addr} (k:jaz h h') (k2:∀ o,h.get? dx=some o->h'.get? dx=some o) (X:jo7 P h x dx suite sec kp n n0 scb tcb lam):jo7 P h' x dx suite sec kp n n0 scb tcb lam:=by
 refine jd2 X fun h1 T a hp h2 h3 h4=>?_
 try clear X
 exact (jjz (k _ _ h1 rfl) T a hp (k2 _ h2) (h3.keeps k) (h4.keeps k))
structure jh9 (h:Heap) (e:EA) (sec:Int):Prop where
 px:h.get? e.x=some (instObj 343 e.dx)
 pr:jb6 h e.lam e.rl sec
 c1:jo0 lp1 lb1 ls1 h e.k1 e.hl
 c2:jo0 lp2 lb2 ls2 h e.k2 e.hl
 c3:jo0 lp3 lb3 ls3 h e.k3 e.hl
 c4:jo0 lp4 lb4 ls4 h e.k4 e.hl
theorem jh9.keeps {h h':Heap} {e:EA} {sec:Int} (k:jaz h h') (X:jh9 h e sec):jh9 h' e sec:=⟨k _ _ X.px rfl,X.pr.keeps k,X.c1.keeps k,X.c2.keeps k,X.c3.keeps k,X.c4.keeps k⟩
theorem ja3.keeps {h h':Heap} {hl:Addr} {l:List (String×String)} (k:jaz h h') (k2:∀ o,h.get? hl=some o->h'.get? hl=some o) (X:ja3 h hl l):ja3 h' hl l:=by
 refine je4 X fun its n h1 h2=>?_
 try clear X
 exact (jhj its n (k2 _ h1) (ja9.keeps k h2))
structure jev (P:Params) (h:Heap) (e:EA) (suite sec:Int) (nr ns turn:Nat) (wish:Bool) (heard:List (String×String)):Prop where
 fx:jh9 h e sec
 pd:∃ T,h.get? e.dx=some (jhk P T (.ref e.lam) (.ref e.r) (.ref e.c) (.bool wish))
 cr:jo7 P h e.r e.dr suite sec ((turn % 2:Nat):Int) (nr+turn) nr e.k1 e.k2 e.lam
 cs:jo7 P h e.c e.dc suite sec ((turn % 2:Nat):Int) (ns+turn) ns e.k3 e.k4 e.lam
 hd:ja3 h e.hl heard
theorem jev.keeps {P:Params} {h h':Heap} {e:EA} {suite sec:Int} {nr ns turn:Nat} {wish:Bool} {heard:List (String×String)} (k:jaz h h') (k1:∀ o,h.get? e.dx=some o->h'.get? e.dx=some o) (k2:∀ o,h.get? e.dr=some o->h'.get? e.dr=some o) (k3:∀ o,h.get? e.dc=some o->h'.get? e.dc=some o) (k4:∀ o,h.get? e.hl=some o->h'.get? e.hl=some o)
  (X:jev P h e suite sec nr ns turn wish heard):jev P h' e suite sec nr ns turn wish heard :=
 ⟨X.fx.keeps k,X.pd.imp fun zz q=>k1 _ q,X.cr.keeps k k2,X.cs.keeps k k3,X.hd.keeps k k4⟩
structure Off (hb:Heap) (e:EA):Prop where
 a1:hb.get? e.dx=none
 a2:hb.get? e.dr=none
 a3:hb.get? e.dc=none
 a4:hb.get? e.hl=none
 ne:e.dr≠e.dc
end
theorem fl25:True:=by first|walk1|trivial
section
local macro_rules (kind:=PyProof.Rows.tacticWalk_at_) | s=>jex "AJaPGHEQRVb&" s
local macro_rules | `(tactic| k_all)=>jo2 "&" "k_all"
theorem jmk {g h:Heap} {L:Addr} {as:List Addr} {a b:List (Addr×Obj)} (N:News g L h a) (R:kb2 g h L as b):News g L h (a++b):=N.append fun p hp=>R.news p hp
theorem ja1 {h:Heap} {a b:Addr} {o o':Obj} (e:h.get? a=some o) (e':h.get? b=some o') (hn:o.data≠o'.data):a≠b:=kr3 e e' fun q=>hn (congrArg Obj.data q)
noncomputable def dsz:Data->Nat
 | .dict es _=>es.size
 | _=>0
theorem jnk {h:Heap} {a b:Addr} {o:Obj} (e:h.get? a=none) (e':h.get? b=some o):a≠b:=fun q=>by rw [q,e'] at e;cases e
theorem kb2.mem_new {g h h':Heap} {L y:Addr} {m:Str->Option Value} {as:List Addr} {rest:List (Addr×Obj)} {o:Obj} (r:kb2 g h' L as rest) (F:Fr g L h m) (hn:h.get? y=none) (ho:h'.get? y=some o) (has:∀ a∈as,∃ o,h.get? a=some o):(y,o)∈rest:=by
 refine xAA (jf0 F hn ho) fun h1 h2 h3=>?_
 exact r.all y o h1 h2 (fun q=>by obtain ⟨o',e⟩:=has y q;rw [hn] at e;cases e) h3
theorem live4 {g h:Heap} {L a b c d:Addr} {o1 o2 o3 o4:Obj} {rest:List (Addr×Obj)} (N:News g L h ((a,o1)::(b,o2)::(c,o3)::(d,o4)::rest)):∀ x∈[a,b,c,d],∃ o,h.get? x=some o:=jbj (⟨_,N.get (.head _)⟩) (jbj (⟨_,N.get me1⟩) (jbj (⟨_,N.get me2⟩) (jgw (⟨_,N.get me3⟩))))
theorem kv5 {g h:Heap} {L a b c d:Addr} {o1 o2 o3 o4:Obj} {rest:List (Addr×Obj)} (N:News g L h ((a,o1)::(b,o2)::(c,o3)::(d,o4)::rest)) (f1:jak o1=false) (f2:jak o2=false) (f3:jak o3=false) (f4:jak o4=false) :
  ∀ x∈[a,b,c,d],∃ o,h.get? x=some o∧jak o=false:=jbj ((iEA _ (N.get (.head _)) f1)) (jbj ((iEA _ (N.get me1) f2)) (jbj ((iEA _ (N.get me2) f3)) (jgw ((iEA _ (N.get me3) f4)))))
theorem re4 {g h h':Heap} {L a b c d:Addr} {o1 o2 o3 o4 p1 p2 p3 p4:Obj} {rest:List (Addr×Obj)} (N:News g L h ((a,o1)::(b,o2)::(c,o3)::(d,o4)::rest)) (e1:h'.get? a=some p1) (e2:h'.get? b=some p2) (e3:h'.get? c=some p3) (e4:h'.get? d=some p4):News g L h' [(a,p1),(b,p2),(c,p3),(d,p4)]:=jbj (⟨e1,(N _ (.head _)).2⟩) (jbj (⟨e2,(N _ me1).2⟩) (jbj (⟨e3,(N _ me2).2⟩) (jgw (⟨e4,(N _ me3).2⟩))))
section
variable {w:World} {mg mb:Str->Option Value} {hb:Heap} {s:Shared} {A:Around}
theorem jx9 {e:EA} {suite sec:Int} {nr ns turn:Nat} {wish:Bool} {heard:List (String×String)} {tr:String} {t1:Tok} (B:jbw w mg mb hb) (S:Sub hb s.heap) (hC:jav A 11) (X:jev w.params s.heap e suite sec nr ns turn wish heard) (O:Off hb e)
  (hsec:sec=0∨sec=1) (hsuite:suite=4865∨suite=4866∨suite=4867) (hn:nr+turn+1<2 ^ 50) (hn2:ns+turn+1<2 ^ 50) (hz:heard.length≤900) :
  jb4 w A s (.call (.ref 340) ⟨[.ref e.x,.str (ofString tr) t1],[]⟩) [e.dx,e.dr,e.dc,e.hl]
   (fun v h'=>v=.none∧jev w.params h' e suite sec nr ns (turn+1) false (heard++[("read", tr)]++[("send", tr)])):=by
 intro R hR
 refine openA A hC fun dp fr un hC=>?_
 obtain ⟨xF,zs1,zs2,zs3,zs4⟩:=X
 refine xE zs1 fun Tp xP=>?_
 try clear zs1
 refine jd2 zs2 fun xR1 TR0 ar hpr xR2 xR3 xR4=>?_
 try clear zs2
 refine jd2 zs3 fun xS1 TS0 as hps xS2 xS3 xS4=>?_
 try clear zs3
 refine je4 zs4 fun its kh xH1 xH2=>?_
 try clear zs4
 have n1:e.dx≠e.dr:=ja1 xP xR2 (fun z=>absurd (show (5:Nat)=9 from congrArg dsz z) (by decide))
 have n2:e.dx≠e.dc:=ja1 xP xS2 (fun z=>absurd (show (5:Nat)=9 from congrArg dsz z) (by decide))
 have n3:e.dx≠e.hl:=ja1 xP xH1 (ctN rfl)
 have n4:e.dr≠e.hl:=ja1 xR2 xH1 (ctN rfl)
 have n5:e.dc≠e.hl:=ja1 xS2 xH1 (ctN rfl)
 have n6:=O.ne
 have hN:Has hb s.heap [(e.dx,jhk w.params Tp (.ref e.lam) (.ref e.r) (.ref e.c) (.bool wish)),(e.dr,jb2 w.params TR0 suite sec ar hpr ((turn % 2:Nat):Int) (nr+turn) e.k1 e.k2 e.lam),(e.dc,jb2 w.params TS0 suite sec as hps ((turn % 2:Nat):Int) (ns+turn) e.k3 e.k4 e.lam),(e.hl,listOf its kh)]:=jbj (⟨xP,O.a1⟩) (jbj (⟨xR2,O.a2⟩) (jbj (⟨xS2,O.a3⟩) (jgw (⟨xH1,O.a4⟩))))
 have hsoft:∀ p∈[(e.dx,jhk w.params Tp (.ref e.lam) (.ref e.r) (.ref e.c) (.bool wish)),(e.dr,jb2 w.params TR0 suite sec ar hpr ((turn % 2:Nat):Int) (nr+turn) e.k1 e.k2 e.lam),(e.dc,jb2 w.params TS0 suite sec as hps ((turn % 2:Nat):Int) (ns+turn) e.k3 e.k4 e.lam),(e.hl,listOf its kh)],jak p.2=false:=jbj rfl (jbj rfl (jbj rfl (jgw rfl)))
 refine jcj (news:=[(e.dx,jhk w.params Tp (.ref e.lam) (.ref e.r) (.ref e.c) (.bool wish)),(e.dr,jb2 w.params TR0 suite sec ar hpr ((turn % 2:Nat):Int) (nr+turn) e.k1 e.k2 e.lam),(e.dc,jb2 w.params TS0 suite sec as hps ((turn % 2:Nat):Int) (ns+turn) e.k3 e.k4 e.lam),(e.hl,listOf its kh)]) (binds:=[("self", .ref e.x),("trigger", .str (ofString tr) t1)]) (bl:=[("trigger", .str (ofString tr) t1),("self", .ref e.x)])
  B S hN (by k_is) (by k_is) hC.room (BindsTo.of_eq rfl) (by kernel_rfl!) (by kernel_rfl!) ?_ (by kernel_rfl!) (by kernel_rfl!) (by kernel_rfl!) (by kernel_rfl!)
 intro g L' h₁ tk B' F N hg hs hl
 have KX:=B'.k
 have TR:=B'.t
 have TG:jaz s.heap g:=toG hN hg hsoft
 have gF:=xF.keeps TG
 have P':=gF.pr
 have gx:=gF.px
 have gr:=TG _ _ xR1 rfl
 have gc:=TG _ _ xS1 rfl
 have gi:=ja9.keeps TG xH2
 have gHr:=xR4.keeps TG
 have gHs:=xS4.keeps TG
 have hkp:((turn % 2:Nat):Int)=0∨((turn % 2:Nat):Int)=1:=by walk_at "OM"
 have hkp2:(1:Int)-((turn % 2:Nat):Int)=(((turn+1) % 2:Nat):Int):=by walk_at "OM"
 walk_at "GO"
 refine ja0 (jw9 B' F.keep (hC.deeper.le (by decide)) (P'.keeps (jaz.of_sub F.keep)) hsec hsuite hn hkp (F.keep _ _ gr) (N.get me1)) fun v h3 tk3 H3 p3=>?_
 refine jm4 p3 fun y dy T4 a4 hp4 zq109 f1 f2 zr13=>?_
 refine jq8 zr13 fun e1 e2 f3 f4 i4=>?_
 try clear p3
 obtain rfl:=zq109
 have F3:=jc9 F H3
 refine xE (jck g h3 L' [e.dx,e.dr,e.dc,e.hl]) fun R3 r3=>?_
 have lv2:=live4 N
 have my:=r3.mem_new F f1 e1 lv2
 have mdy:=r3.mem_new F f2 e2 lv2
 have N3:=jmk (jc7 N H3) r3
 simp only [List.cons_append,List.nil_append] at N3
 have q31:=r3.ne (a:=e.dx) (by first | k_mem | simp)
 have nyr:dy≠e.dr:=jnk f2 (N.get me1)
 have s3:=kv5 N3 rfl rfl rfl rfl
 rw [hkp2] at mdy
 walk_at "GO"
 have sub4:∀ s':Shared,jb8 h3 [e.dr] s'.heap->Sub g s'.heap:=fun s' hS b o eb=>hS b o (F3.keep _ _ eb) (fun q=>by rw [List.mem_singleton.mp q,N3.fresh me1] at eb;cases eb)
 refine ja0 (kbw (asC:=[e.hl]) (PostC:=fun v h=>v=.none∧ja3 h e.hl (heard++[("read", tr)])) B' F3.keep (hC.deeper.le (by decide)) (F3.keep _ _ gr) (N3.get me1) (N3.fresh me1)
  (N3.get (mt4 my)) (N3.get (mt4 mdy)) nyr (gF.c1.keeps (jaz.of_sub F3.keep)).fn (fun a ha=>(iEE its kh (by rw [List.mem_singleton.mp ha];exact N3.get me3)))
  (fun s' A' hS hC'=>cb_1 B' (sub4 s' hS) (hC'.le (by decide)) (gF.c1.keeps (jaz.of_sub (sub4 s' hS))) (jhj its kh (hS _ _ (N3.get me3) (fun q=>n4 (List.mem_singleton.mp q).symm)) (ja9.keeps (jaz.of_sub (sub4 s' hS)) gi)) (N3.fresh me3) (by walk_at "OM"))) fun v h5 tk5 H5 p5=>?_
 refine jjk p5 fun zq107 T5 v5 e5 zq108 its5 k5 q5 i5=>?_
 try clear p5
 obtain rfl:=zq107
 obtain rfl:=zq108
 have F5:=jc0 F3 H5 (jbj ((N3 _ me1).2) (jgw ((N3 _ me3).2)))
 have N5:=re4 N3 (H5 _ _ (N3.get (.head _)) (by simp [n1,n3])) e5 (H5 _ _ (N3.get me2) (by simp [n5,n6.symm])) q5
 have k35:jaz h3 h5:=jb8.keeps H5 fun a ha=>s3 a (by
  rcases List.mem_cons.mp ha with rfl | ha
  ·simp
  ·obtain rfl:=List.mem_singleton.mp ha
   simp)
 have i5a:=i4.keeps k35
 have hz5:(heard++[("read", tr)]).length≤901:=by rw [List.length_append];simp;walk_at "OM"
 clear H5 N3 r3 F3 s3 sub4 q31 nyr my mdy i4 f3 f4 e1 e2 f1 f2
 walk_at "GO"
 refine ja0 (jw9 B' F5.keep (hC.deeper.le (by decide)) (P'.keeps (jaz.of_sub F5.keep)) hsec hsuite hn2 hkp (F5.keep _ _ gc) (N5.get me2)) fun v h7 tk7 H7 p7=>?_
 refine jm4 p7 fun z dz T8 a8 hp8 zq106 f1 f2 zr13=>?_
 refine jq8 zr13 fun e1 e2 f3 f4 i8=>?_
 try clear p7
 obtain rfl:=zq106
 have F7:=jc9 F5 H7
 refine xE (jck g h7 L' [e.dx,e.dr,e.dc,e.hl]) fun R7 r7=>?_
 have lv5:=live4 N5
 have mz:=r7.mem_new F5 f1 e1 lv5
 have mdz:=r7.mem_new F5 f2 e2 lv5
 have N7:=jmk (jc7 N5 H7) r7
 simp only [List.cons_append,List.nil_append] at N7
 have nzc:dz≠e.dc:=jnk f2 (N5.get me2)
 have s7:=kv5 N7 rfl rfl rfl rfl
 have k57:jaz h5 h7:=jb8.keeps H7 fun a ha=>nomatch ha
 have i7:=ja9.keeps k57 i5
 have i7a:=i5a.keeps k57
 rw [hkp2] at mdz
 walk_at "GO"
 have sub7:∀ s':Shared,jb8 h7 [e.dc] s'.heap->Sub g s'.heap:=fun s' hS b o eb=>hS b o (F7.keep _ _ eb) (fun q=>by rw [List.mem_singleton.mp q,N7.fresh me2] at eb;cases eb)
 refine ja0 (kbw (asC:=[e.hl]) (PostC:=fun v h=>v=.none∧ja3 h e.hl (heard++[("read", tr)]++[("send", tr)])) B' F7.keep (hC.deeper.le (by decide)) (F7.keep _ _ gc) (N7.get me2) (N7.fresh me2)
  (N7.get (mt4 mz)) (N7.get (mt4 mdz)) nzc (gF.c3.keeps (jaz.of_sub F7.keep)).fn (fun a ha=>(iEE its5 k5 (by rw [List.mem_singleton.mp ha];exact N7.get me3)))
  (fun s' A' hS hC'=>cb_3 B' (sub7 s' hS) (hC'.le (by decide)) (gF.c3.keeps (jaz.of_sub (sub7 s' hS))) (jhj its5 k5 (hS _ _ (N7.get me3) (fun q=>n5 (List.mem_singleton.mp q).symm)) (ja9.keeps (jb8.keeps hS fun a ha=>s7 a (by rw [List.mem_singleton.mp ha];simp)) i7)) (N7.fresh me3) (by walk_at "OM"))) fun v h9 tk9 H9 p9=>?_
 refine jjk p9 fun zq104 T9 v9 e9 zq105 its9 k9 q9 i9=>?_
 try clear p9
 obtain rfl:=zq104
 obtain rfl:=zq105
 have F9:=jc0 F7 H9 (jbj ((N7 _ me2).2) (jgw ((N7 _ me3).2)))
 have N9':=re4 N7 (H9 _ _ (N7.get (.head _)) (by simp [n2,n3])) (H9 _ _ (N7.get me1) (by simp [n4,n6])) e9 q9
 have k79:jaz h7 h9:=jb8.keeps H9 fun a ha=>s7 a (by
  rcases List.mem_cons.mp ha with rfl | ha
  ·simp
  ·obtain rfl:=List.mem_singleton.mp ha
   simp)
 have i9a:=i7a.keeps k79
 have i9b:=i8.keeps k79
 refine xE (jck g h9 L' [e.dx,e.dr,e.dc,e.hl]) fun R9 r9=>?_
 have N9:=jmk N9' r9
 simp only [List.cons_append,List.nil_append] at N9
 have s9:=kv5 N9 rfl rfl rfl rfl
 have q91:=r9.ne (a:=e.dx) (by first | k_mem | simp)
 have n1':=n1.symm
 have n2':=n2.symm
 have n3':=n3.symm
 have kf:∀ h2 m2 news2,Fr g L' h2 m2->News g L' h2 news2->(∀ p∈R9,p∈news2)->jaz h9 h2:=fun h2 m2 n2 a b c=>r9.keeps F9 (by walk_at "LN") a b c s9
 clear H9 N7 r7 F7 s7 sub7 nzc mz mdz i8 f3 f4 e1 e2 f1 f2 H7 N5 F5 N9' i7 i7a i5 i5a
 walk_at "GO"
 rename_i h10 F10 N10
 have kA:=kf _ _ _ F10 N10 (fun p hp=>.tail _ (mt3 hp))
 have kS:jaz s.heap h10:=TG.trans (jaz.of_sub F10.keep)
 exact hR _ _ _ (ja5 hg F10) ⟨rfl,xF.keeps kS,⟨Tp,N10.get (.head _)⟩,(jjz (kS _ _ xR1 rfl) T5 a4 hpr (N10.get me1) (i9a.keeps kA) (xR4.keeps kS)),(jjz (kS _ _ xS1 rfl) T9 a8 hps (N10.get me2) (i9b.keeps kA) (xS4.keeps kS)),(jhj its9 k9 (N10.get me3) (ja9.keeps kA i9))⟩
end
end
theorem fl26:True:=by first|walk1|trivial
section
local macro_rules (kind:=PyProof.Rows.tacticWalk_at_) | s=>jex "ANJaPGHEQRVb&" s
local macro_rules | `(tactic| k_all)=>jo2 "&" "k_all"
theorem khw {h h':Heap} {as:List Addr} {x:Addr} (H:jb8 h as h') (live:∀ a∈as,∃ o,h'.get? a=some o) (hn:h'.get? x=none):h.get? x=none:=by
 cases q:h.get? x with
 | none=>rfl
 | some o =>
  by_cases hx:x∈as
  ·refine xE (live x hx) fun o' e=>?_
   rw [hn] at e;cases e
  ·have:=H x o q hx
   rw [hn] at this;cases this
theorem jev.live {P:Params} {h:Heap} {e:EA} {suite sec:Int} {nr ns turn:Nat} {wish:Bool} {heard:List (String×String)} (X:jev P h e suite sec nr ns turn wish heard):∀ a∈[e.dx,e.dr,e.dc,e.hl],∃ o,h.get? a=some o∧jak o=false:=jbj (by obtain ⟨_,q⟩:=X.pd;exact (iEA _ q rfl)) (jbj (by obtain ⟨_,_,_,_,q,_⟩:=X.cr;exact (iEA _ q rfl)) (jbj (by obtain ⟨_,_,_,_,q,_⟩:=X.cs;exact (iEA _ q rfl)) (jgw (by obtain ⟨_,_,q,_⟩:=X.hd;exact (iEA _ q rfl)))))
theorem Off.up {hb h:Heap} {e:EA} (O:Off hb e) (h1:h.get? e.dx=none) (h2:h.get? e.dr=none) (h3:h.get? e.dc=none) (h4:h.get? e.hl=none):Off h e:=⟨h1,h2,h3,h4,O.ne⟩
theorem off4 {g h:Heap} {L a b c d:Addr} {o1 o2 o3 o4:Obj} {rest:List (Addr×Obj)} (N:News g L h ((a,o1)::(b,o2)::(c,o3)::(d,o4)::rest)):∀ x∈[a,b,c,d],x≠L∧g.get? x=none:=jbj ((N _ (.head _)).2) (jbj ((N _ me1).2) (jbj ((N _ me2).2) (jgw ((N _ me3).2))))
section
variable {w:World} {mg mb:Str->Option Value} {hb:Heap} {s:Shared} {A:Around}
theorem kn2 {e:EA} {suite sec pn:Int} {nr ns turn off L:Nat} {wish:Bool} {heard:List (String×String)} {rows:Array Value} {kr:Nat} {hdr pay:Array UInt8} {t1 t2 t3:Tok} (B:jbw w mg mb hb) (S:Sub hb s.heap) (hC:jav A 13) (X:jev w.params s.heap e suite sec nr ns turn wish heard) (O:Off hb e)
  (hr:s.heap.get? e.rl=some (listOf rows kr)) (hrb:hb.get? e.rl=none) (hrl:e.rl≠e.hl) (hrz:rows.size≤1000)
  (hsec:sec=0∨sec=1) (hsuite:suite=4865∨suite=4866∨suite=4867) (hn:nr+turn+1<2 ^ 50) (hn2:ns+turn+1<2 ^ 50) (hz:heard.length≤900)
  (hsz:hdr.size=off+L) (hoff:1≤off) (hoff2:off≤100) (hL:1≤L) (hL4:L≤4) (hb0:bitAnd (gB hdr 0:Nat) 3=(L:Int)-1) (hb7:bitAnd (gB hdr 0:Nat) 128=0) (hp1:pay.size≤100) (hpn:0≤pn∧pn<2 ^ 62) :
  jq7 w A s (.call (.ref 304) ⟨[.ref e.x,.bytes hdr t1,.bytes pay t2,.int pn t3],[]⟩) [e.dx,e.dr,e.dc,e.hl,e.rl]
   (fun v h'=>∃ t tp turn',turn'=(if wish then turn+1 else turn)∧v=.bytes (jr5 (BE (ksz suite).toNat (4*ns+2)) hdr (pay++BE 16 (rows.size+1)) off L) t∧s.heap.get? tp=none∧h'.get? e.rl=some (listOf (rows.push (.ref tp)) (kr+1)) ∧
    jvw h' (.ref tp) ⟨je3 suite,BE (ksz suite).toNat (4*(ns+turn')),BE 12 (bitXor ((4*(ns+turn')+1:Nat):Int) pn).toNat,hdr,pay++BE 16 (rows.size+1),pay⟩ ∧
    jev w.params h' e suite sec nr ns turn' false (if wish then heard++[("read", "local_update")]++[("send", "local_update")] else heard)):=by
 intro R hR
 refine openA A hC fun dp fr un hC=>?_
 have xx:=X
 obtain ⟨xF,zs1,zs2,zs3,zs4⟩:=X
 refine xE zs1 fun Tp xP=>?_
 try clear zs1
 refine jd2 zs2 fun xR1 TR0 ar hpr xR2 xR3 xR4=>?_
 try clear zs2
 refine jd2 zs3 fun xS1 TS0 as hps xS2 xS3 xS4=>?_
 try clear zs3
 refine je4 zs4 fun its kh xH1 xH2=>?_
 try clear zs4
 have n1:e.dx≠e.dr:=ja1 xP xR2 (fun z=>absurd (show (5:Nat)=9 from congrArg dsz z) (by decide))
 have n2:e.dx≠e.dc:=ja1 xP xS2 (fun z=>absurd (show (5:Nat)=9 from congrArg dsz z) (by decide))
 have n3:e.dx≠e.hl:=ja1 xP xH1 (ctN rfl)
 have n4:e.dr≠e.hl:=ja1 xR2 xH1 (ctN rfl)
 have n5:e.dc≠e.hl:=ja1 xS2 xH1 (ctN rfl)
 have n6:=O.ne
 have n7:e.dx≠e.rl:=ja1 xP hr (ctN rfl)
 have n8:e.dr≠e.rl:=ja1 xR2 hr (ctN rfl)
 have n9:e.dc≠e.rl:=ja1 xS2 hr (ctN rfl)
 have hN:Has hb s.heap [(e.dx,jhk w.params Tp (.ref e.lam) (.ref e.r) (.ref e.c) (.bool wish)),(e.dr,jb2 w.params TR0 suite sec ar hpr ((turn % 2:Nat):Int) (nr+turn) e.k1 e.k2 e.lam),(e.dc,jb2 w.params TS0 suite sec as hps ((turn % 2:Nat):Int) (ns+turn) e.k3 e.k4 e.lam),(e.hl,listOf its kh),(e.rl,listOf rows kr)]:=jbj (⟨xP,O.a1⟩) (jbj (⟨xR2,O.a2⟩) (jbj (⟨xS2,O.a3⟩) (jbj (⟨xH1,O.a4⟩) (jgw (⟨hr,hrb⟩)))))
 have hsoft:∀ p∈[(e.dx,jhk w.params Tp (.ref e.lam) (.ref e.r) (.ref e.c) (.bool wish)),(e.dr,jb2 w.params TR0 suite sec ar hpr ((turn % 2:Nat):Int) (nr+turn) e.k1 e.k2 e.lam),(e.dc,jb2 w.params TS0 suite sec as hps ((turn % 2:Nat):Int) (ns+turn) e.k3 e.k4 e.lam),(e.hl,listOf its kh),(e.rl,listOf rows kr)],jak p.2=false:=jbj rfl (jbj rfl (jbj rfl (jbj rfl (jgw rfl))))
 refine jq3 (news:=[(e.dx,jhk w.params Tp (.ref e.lam) (.ref e.r) (.ref e.c) (.bool wish)),(e.dr,jb2 w.params TR0 suite sec ar hpr ((turn % 2:Nat):Int) (nr+turn) e.k1 e.k2 e.lam),(e.dc,jb2 w.params TS0 suite sec as hps ((turn % 2:Nat):Int) (ns+turn) e.k3 e.k4 e.lam),(e.hl,listOf its kh),(e.rl,listOf rows kr)]) (binds:=[("self", .ref e.x),("plain_header", .bytes hdr t1),("plain_payload", .bytes pay t2),("packet_number", .int pn t3)]) (bl:=[("packet_number", .int pn t3),("plain_payload", .bytes pay t2),("plain_header", .bytes hdr t1),("self", .ref e.x)])
  B S hN (by k_is) (by k_is) hC.room (BindsTo.of_eq rfl) (by kernel_rfl!) (by kernel_rfl!) ?_ (by kernel_rfl!) (by kernel_rfl!) (by kernel_rfl!) (by kernel_rfl!)
 intro g L' h₁ tk B' F N hg hs hl
 have KX:=B'.k
 have TR:=B'.t
 have TG:jaz s.heap g:=toG hN hg hsoft
 have gx:=TG _ _ xF.px rfl
 have gc:=TG _ _ xS1 rfl
 have sub1:=jfq hN hg F N (by simp)
 have O':Off g e:=O.up (N.fresh (.head _)) (N.fresh me1) (N.fresh me2) (N.fresh me3)
 have gl:g.get? e.rl=none:=N.fresh me4
 have XA:jev w.params h₁ e suite sec nr ns turn wish heard:=xx.keeps (jaz.of_sub sub1) (sub1 _) (sub1 _) (sub1 _) (sub1 _)
 have rA:=sub1 _ _ hr
 have nl:=off4 N
 obtain ⟨turn',ht⟩:∃ t,t=(if wish then turn+1 else turn):=⟨_,rfl⟩
 obtain ⟨heard',hh⟩:∃ t,t=(if wish then heard++[("read", "local_update")]++[("send", "local_update")] else heard):=⟨_,rfl⟩
 have ht':turn'≤turn+1:=by rw [ht];split <;> walk_at "OM"
 rw [← hh] at hR
 refine ja4 (jb9 (Q:=fun f s'=>jl2 (f=.next∧∃ h3 tk3,s' = { s with heap:=h3,toks:=tk3 }∧Fr g L' h3 (fun y=>chain [("packet_number", .int pn t3),("plain_payload", .bytes pay t2),("plain_header", .bytes hdr t1),("self", .ref e.x)] y)∧jb8 h₁ [e.dx,e.dr,e.dc,e.hl] h3 ∧
   jev w.params h3 e suite sec nr ns turn' false heard')) (jcz ?_) ?_ (fun zz zz q=>q))
 ·cases wish with
  | true =>
   walk_at "GO"
   refine ja0 (jx9 (tr := "local_update") B' F.keep (hC.deeper.le (by decide)) XA O' hsec hsuite hn hn2 hz) fun v h3 tk3 H3 p3=>?_
   refine xA p3 fun zq118 X3=>?_
   try clear p3
   obtain rfl:=zq118
   have F3:=jc0 F H3 nl
   have N3:News g L' h3 []:=News.nil
   rw [if_pos rfl] at ht hh
   subst ht hh
   clear N F
   walk_at "GO"
   exact jl2.go (ki3 rfl h3 _ rfl F3 H3 X3)
  | false =>
   rw [if_neg Bool.false_ne_true] at ht hh
   subst ht hh
   walk_at "GO"
   exact jl2.go (ki3 rfl h₁ _ rfl F (fun b o eb zz=>eb) XA)
 ·intro f s' q
  refine kvw q fun zq116 h3 tk3 zq117 F3 H3 X3=>?_
  try clear q
  obtain rfl:=zq116
  obtain rfl:=zq117
  dsimp only
  refine xE X3.pd fun Tp3 xP3=>?_
  have r3:=H3 _ _ rA (by simp [n7.symm,n8.symm,n9.symm,hrl])
  refine jd2 X3.cs fun c1 TS a3 hp3 c2 c3 c4=>?_
  have N3:News g L' h3 [(e.dx,_),(e.dc,_)]:=jbj (⟨xP3,nl _ (by first | k_mem | simp)⟩) (jgw (⟨c2,nl _ (by first | k_mem | simp)⟩))
  have f233:=kdk (a:=233) KX (by kernel_rfl!)
  refine je4 f233 fun o233 d233 e233 k233=>?_
  try clear f233
  clear N F
  refine ja4 (jo8 (jc6 ?_ (by rfl)))
  walk_at "GO"
  refine jcx ?_ (by rfl)
  walk_at "GO"
  refine jl2.go ⟨(jhj _ _ (F3.keep _ _ e233) k233),?_⟩
  refine jfv (ky3 B' F3.keep (hC.deeper.le (by decide)) X3.fx.pr (by walk_at "OM") (by walk_at "OM") c1 c2 n9 c3 c4 r3 gl hrz hsz hoff hoff2 hL hL4 hb0 hb7 hp1 hpn) fun v h5 tk5 H5 p5=>?_
  refine jsx p5 fun t5 tp5 zq115 f5 r5 row5=>?_
  try clear p5
  obtain rfl:=zq115
  have k5:jaz h3 h5:=jb8.keeps H5 fun a ha=>by obtain rfl:=List.mem_singleton.mp ha;exact (iEA _ r3 rfl)
  have kk:∀ a,a≠e.rl->∀ o,h3.get? a=some o->h5.get? a=some o:=fun a na o q=>H5 a o q (fun z=>na (List.mem_singleton.mp z))
  have L3:jb8 s.heap [e.dx,e.dr,e.dc,e.hl] h3:=jb8.of_sub sub1 H3
  have L5:jb8 s.heap [e.dx,e.dr,e.dc,e.hl,e.rl] h5:=(L3.mono (by first | k_mem | simp)).trans (H5.mono (by first | k_mem | simp))
  exact hR _ _ _ L5 (jtv t5 tp5 turn' ht rfl (khw L3 (fun a ha=>(X3.live a ha).imp fun zz q=>q.1) f5) r5 row5 (X3.keeps k5 (kk _ n7) (kk _ n8) (kk _ n9) (kk _ hrl.symm)))
end
end
theorem fl27:True:=by first|walk1|trivial
section
local macro_rules (kind:=PyProof.Rows.tacticWalk_at_) | s=>jex "ANJaPGHEQRVb&" s
local macro_rules | `(tactic| k_all)=>jo2 "&" "k_all"
noncomputable def kb7 (hdr:Array UInt8) (kp:Int):Bool:=!(bitAnd (gB hdr 0:Nat) 128 != 0)&&((bitAnd (gB hdr 0:Nat) 4).fdiv (2 ^ Int.toNat 2) != kp)
noncomputable def je1 (rows:List Row) (suite:Int) (m:Nat) (pn:Int) (hdr p:Array UInt8):Option Row :=
 rows.find? (jh3 (je3 suite) (BE (ksz suite).toNat (4*m)) (BE 12 (bitXor ((4*m+1:Nat):Int) pn).toNat) hdr (picked p (some (hdr.size:Nat)) none))
theorem kb2.left {g h h2:Heap} {L:Addr} {m m2:Str->Option Value} {as:List Addr} {rest news2:List (Addr×Obj)} (R:kb2 g h L as rest) (F:Fr g L h m) (F2:Fr g L h2 m2) (N2:News g L h2 news2) (hs:∀ p∈rest,p∈news2):jb8 h (L::as) h2:=fun b o e n=>by
 cases q:g.get? b with
 | none=>exact (N2 _ (hs _ (R.all b o e (fun z=>n (z▸List.mem_cons_self ..)) (fun z=>n (List.mem_cons_of_mem _ z)) q))).1
 | some o'=>have:=F.keep b o' q;rw [e] at this;cases this;exact F2.keep b o q
theorem jy5 {h:Heap} {as:List Addr} {a:Addr} {o:Obj} (live:∀ a∈as,∃ o,h.get? a=some o∧jak o=false) (e:h.get? a=some o) (f:jak o=true):a∉as:=fun q=>by
 refine xEA (live a q) fun o' e' f'=>?_
 rw [e] at e';cases e';rw [f] at f';cases f'
section
variable {w:World} {mg mb:Str->Option Value} {hb:Heap} {s:Shared} {A:Around}
theorem kn3 {e:EA} {suite sec ex pn:Int} {nr ns turn off Ln:Nat} {wish:Bool} {heard:List (String×String)} {rws:Array Value} {rows:List Row} {kr:Nat} {p hdr mk:Array UInt8} {t1 t2 t3:Tok} {base:Heap} {outer:List Env} (B:jbw w mg mb hb) (S:Sub hb s.heap) (hC:jav A 15) (X:jev w.params s.heap e suite sec nr ns turn wish heard) (O:Off hb e)
  (hr:s.heap.get? e.rl=some (listOf rws kr)) (hrb:hb.get? e.rl=none) (hrl:e.rl≠e.hl) (hrows:jbv s.heap rws.toList rows)
  (hsec:sec=0∨sec=1) (hsuite:suite=4865∨suite=4866∨suite=4867) (hn:nr+turn+1<2 ^ 50) (hn2:ns+turn+1<2 ^ 50) (hz:heard.length≤900)
  (hsz:off+20≤p.size) (hp1:p.size≤1000) (hmk:mk=jg8 (BE (ksz suite).toNat (4*nr+2)) (picked p (some ((off+4:Nat):Int)) (some ((off+20:Nat):Int)))) (hhd:ji2 p mk off=hdr) (hh1:0<hdr.size) (hh2:hdr.size≤1000)
  (hLn:gB hdr 0 % 4+1=Ln) (hpn:jv2 (jyw p mk off) ((Ln:Int)*8) ex=pn) (hpn2:0≤pn∧pn<2 ^ 64) (Y:Fly A base outer s.heap) :
  jx4 w A s (.call (.ref 297) ⟨[.ref e.x,.bytes p t1,.int (off:Nat) t2,.int ex t3],[]⟩) [e.dx,e.dr,e.dc,e.hl]
   (fun v h'=>∃ r up tp u1 u2 u3,up=kb7 hdr ((turn % 2:Nat):Int)∧je1 rows suite (if up then nr+turn+1 else nr+turn) pn hdr p=some r∧v=.ref tp∧s.heap.get? tp=none∧h'.get? tp=some (jl7 #[.bytes hdr u1,.bytes r.two u2,.int pn u3]) ∧
    jev w.params h' e suite sec nr ns (if up then turn+1 else turn) (if up then false else wish) (if up then heard++[("read", "remote_update")]++[("send", "remote_update")] else heard)) (.ref 31) base outer
   (∃ up,up=kb7 hdr ((turn % 2:Nat):Int)∧je1 rows suite (if up then nr+turn+1 else nr+turn) pn hdr p=none):=by
 intro R hR hE
 obtain ⟨hd,dp,fr,gs,un⟩:=A
 obtain ⟨rfl,rfl⟩:hd=none∧gs=some []:=⟨hC.h,hC.g⟩
 have xx:=X
 obtain ⟨xF,zs1,zs2,zs3,zs4⟩:=X
 refine xE zs1 fun Tp xP=>?_
 try clear zs1
 refine jd2 zs2 fun xR1 TR0 ar hpr xR2 xR3 xR4=>?_
 try clear zs2
 refine jd2 zs3 fun xS1 TS0 as hps xS2 xS3 xS4=>?_
 try clear zs3
 refine je4 zs4 fun its kh xH1 xH2=>?_
 try clear zs4
 have n1:e.dx≠e.dr:=ja1 xP xR2 (fun z=>absurd (show (5:Nat)=9 from congrArg dsz z) (by decide))
 have n2:e.dx≠e.dc:=ja1 xP xS2 (fun z=>absurd (show (5:Nat)=9 from congrArg dsz z) (by decide))
 have n3:e.dx≠e.hl:=ja1 xP xH1 (ctN rfl)
 have n4:e.dr≠e.hl:=ja1 xR2 xH1 (ctN rfl)
 have n5:e.dc≠e.hl:=ja1 xS2 xH1 (ctN rfl)
 have n6:=O.ne
 have n7:e.rl≠e.dx:=(ja1 xP hr (ctN rfl)).symm
 have n8:e.rl≠e.dr:=(ja1 xR2 hr (ctN rfl)).symm
 have n9:e.rl≠e.dc:=(ja1 xS2 hr (ctN rfl)).symm
 have hN:Has hb s.heap [(e.dx,jhk w.params Tp (.ref e.lam) (.ref e.r) (.ref e.c) (.bool wish)),(e.dr,jb2 w.params TR0 suite sec ar hpr ((turn % 2:Nat):Int) (nr+turn) e.k1 e.k2 e.lam),(e.dc,jb2 w.params TS0 suite sec as hps ((turn % 2:Nat):Int) (ns+turn) e.k3 e.k4 e.lam),(e.hl,listOf its kh)]:=jbj (⟨xP,O.a1⟩) (jbj (⟨xR2,O.a2⟩) (jbj (⟨xS2,O.a3⟩) (jgw (⟨xH1,O.a4⟩))))
 have hsoft:∀ p∈[(e.dx,jhk w.params Tp (.ref e.lam) (.ref e.r) (.ref e.c) (.bool wish)),(e.dr,jb2 w.params TR0 suite sec ar hpr ((turn % 2:Nat):Int) (nr+turn) e.k1 e.k2 e.lam),(e.dc,jb2 w.params TS0 suite sec as hps ((turn % 2:Nat):Int) (ns+turn) e.k3 e.k4 e.lam),(e.hl,listOf its kh)],jak p.2=false:=jbj rfl (jbj rfl (jbj rfl (jgw rfl)))
 refine jq3 (news:=[(e.dx,jhk w.params Tp (.ref e.lam) (.ref e.r) (.ref e.c) (.bool wish)),(e.dr,jb2 w.params TR0 suite sec ar hpr ((turn % 2:Nat):Int) (nr+turn) e.k1 e.k2 e.lam),(e.dc,jb2 w.params TS0 suite sec as hps ((turn % 2:Nat):Int) (ns+turn) e.k3 e.k4 e.lam),(e.hl,listOf its kh)]) (binds:=[("self", .ref e.x),("packet", .bytes p t1),("encrypted_offset", .int (off:Nat) t2),("expected_packet_number", .int ex t3)]) (bl:=[("expected_packet_number", .int ex t3),("encrypted_offset", .int (off:Nat) t2),("packet", .bytes p t1),("self", .ref e.x)])
  B S hN (by k_is) (by k_is) hC.room (BindsTo.of_eq rfl) (by kernel_rfl!) (by kernel_rfl!) ?_ (by kernel_rfl!) (by kernel_rfl!) (by kernel_rfl!) (by kernel_rfl!)
 intro g L' h₁ tk B' F N hg hs hl
 have KX:=B'.k
 have TR:=B'.t
 have TG:jaz s.heap g:=toG hN hg hsoft
 have gx:=TG _ _ xF.px rfl
 have gr:=TG _ _ xR1 rfl
 have gP:=xF.pr.keeps TG
 have sub1:=jfq hN hg F N (by simp)
 have O':Off g e:=O.up (N.fresh (.head _)) (N.fresh me1) (N.fresh me2) (N.fresh me3)
 have nl:=off4 N
 have hkp:((turn % 2:Nat):Int)=0∨((turn % 2:Nat):Int)=1:=by walk_at "OM"
 have hLb:base.get? L'=none:=by
  cases q:base.get? L' with
  | none=>rfl
  | some o =>
   have z:=hg _ _ (Y.sub _ _ q) (fun hm=>by
    refine xEA (List.mem_map.mp hm) fun p' hp' e'=>?_
    exact absurd (hl p' hp') (by rw [e'];exact Nat.lt_irrefl _))
   exact absurd (Nat.lt_of_lt_of_le (Heap.lt_size z) F.above) (Nat.lt_irrefl _)
 refine je4 (kdk (a:=226) KX (by kernel_rfl!)) fun o226 d226 e226 k226=>?_
 refine ja4 (jhx (jc6 ?_ (by rfl)) (by rfl) (by rfl))
 walk_at "GO"
 refine jcx ?_ (by rfl)
 walk_at "GO"
 refine jl2.go ⟨(jhj _ _ (F.keep _ _ e226) k226),?_⟩
 refine jl1 (ky4 B (Sub.trans' S sub1) (hC.deeper.le (by decide)) (gP.keeps (jaz.of_sub F.keep)) hsec hsuite hn hkp (F.keep _ _ gr) (N.get me1) (xR3.keeps (jaz.of_sub sub1)) (xR4.keeps (jaz.of_sub sub1)) (sub1 _ _ hr) hrb (jbv.keeps (jaz.of_sub sub1) hrows) hsz hp1 hmk hhd hh1 hh2 hLn hpn hpn2 (Fly.push (Y.later sub1) F hLb rfl rfl)) (fun v h6 tk6 H6 p6=>?_) (fun e' a0 h6 tk6 c X6 u6=>?_)
 ·refine jg0 p6 fun r up tp u1 u2 u3 hf6 zq111 f6 e6 hup=>?_
  try clear p6
  obtain rfl:=zq111
  have F6:=jc9 F H6
  have N6:=(jc7 N H6).append (fun q hq=>by obtain rfl:=List.mem_singleton.mp hq;exact jf0 F f6 e6:News g L' h6 [(tp,_)])
  simp only [List.cons_append,List.nil_append] at N6
  clear N F
  walk_at "GO"
  refine jcz ?_
  rename_i h7 F7 N7
  have E7:jev w.params h7 e suite sec nr ns turn wish heard:=xx.keeps (TG.trans (jaz.of_sub F7.keep)) (fun o q=>Option.some.inj (xP.symm.trans q)▸N7.get (.head _)) (fun o q=>Option.some.inj (xR2.symm.trans q)▸N7.get me1) (fun o q=>Option.some.inj (xS2.symm.trans q)▸N7.get me2) (fun o q=>Option.some.inj (xH1.symm.trans q)▸N7.get me3)
  have c4:∀ a∈[e.dx,e.dr,e.dc,e.hl],∃ o,h7.get? a=some o:=fun a ha=>(E7.live a ha).imp fun zz q=>q.1
  cases up with
  | true =>
   walk_at "GO"
   refine ja0 (jx9 (tr := "remote_update") B' F7.keep (hC.deeper.le (by decide)) E7 O' hsec hsuite hn hn2 hz) fun v h8 tk8 H8 p8=>?_
   refine xA p8 fun zq110 X8=>?_
   try clear p8
   obtain rfl:=zq110
   have F8:=jc0 F7 H8 nl
   refine xE (jck g h8 L' []) fun R8 r8=>?_
   have N8:News g L' h8 R8:=fun q hq=>r8.news q hq
   have kl:=fun h2 m2 news2 (a:Fr g L' h2 m2) (b:News g L' h2 news2) (c:∀ p∈R8,p∈news2)=>r8.left F8 a b c
   have kf:∀ h2 m2 news2,Fr g L' h2 m2->News g L' h2 news2->(∀ p∈R8,p∈news2)->jaz h8 h2:=fun h2 m2 n2 a b c=>r8.keeps F8 (by walk_at "LN") a b c (fun a ha=>nomatch ha)
   clear N7 F7
   walk_at "GO"
   rename_i D9 h9 F9 N9 l9
   have kA:=kf _ _ _ F9 N9 (fun p hp=>.tail _ hp)
   have kB:=kl _ _ _ F9 N9 (fun p hp=>.tail _ hp)
   have kn:∀ a∈[e.dx,e.dr,e.dc,e.hl],∀ o,h8.get? a=some o->h9.get? a=some o:=fun a ha o q=>kB a o q (fun z=>(nl a ha).1 (List.mem_singleton.mp z))
   have X9:=X8.keeps kA (kn _ (by first | k_mem | simp)) (kn _ (by first | k_mem | simp)) (kn _ (by first | k_mem | simp)) (kn _ (by first | k_mem | simp))
   exact hR _ _ _ (ja5 hg F9) (jtz r true D9 _ _ _ hup (by rw [if_pos rfl];rw [if_pos rfl] at hf6;exact hf6) (jn2 rfl (jd7 hg (N9.fresh (.head _)) (jy5 X9.live (N9.get (.head _)) rfl)) (N9.get (.head _)) (by rw [if_pos rfl,if_pos rfl,if_pos rfl];exact X9)))
  | false =>
   walk_at "GO"
   rename_i D9 h9 F9 N9 l9
   have X9:jev w.params h9 e suite sec nr ns turn wish heard:=xx.keeps (TG.trans (jaz.of_sub F9.keep)) (fun o q=>Option.some.inj (xP.symm.trans q)▸N9.get me1) (fun o q=>Option.some.inj (xR2.symm.trans q)▸N9.get me2) (fun o q=>Option.some.inj (xS2.symm.trans q)▸N9.get me3) (fun o q=>Option.some.inj (xH1.symm.trans q)▸N9.get me4)
   exact hR _ _ _ (ja5 hg F9) (jtz r false D9 _ _ _ hup (by rw [if_neg Bool.false_ne_true];rw [if_neg Bool.false_ne_true] at hf6;exact hf6) (jn2 rfl (jd7 hg (N9.fresh (.head _)) (jy5 X9.live (N9.get (.head _)) rfl)) (N9.get (.head _)) (by rw [if_neg Bool.false_ne_true,if_neg Bool.false_ne_true,if_neg Bool.false_ne_true];exact X9)))
 ·refine xEA c fun up hup c2=>?_
  try clear c
  exact jm2 (Around.frames_deeper Y.st) rfl X6 fun h' X u=>hE e' a0 h' _ (iEA up hup c2) X ((Heap.UpToSlots.of_keeps sub1).trans (u6.trans u))
end
end
theorem fl28:True:=by first|walk1|trivial
section
local macro_rules (kind:=PyProof.Rows.tacticWalk_at_) | s=>jex "AJaPGHEQRVb&" s
local macro_rules | `(tactic| k_all)=>jo2 "&" "k_all"
structure jk9 (P:Params) (h:Heap) (e:EA) (sec:Int) (heard:List (String×String)):Prop where
 fx:jh9 h e sec
 pd:∃ T wish,h.get? e.dx=some (jhk P T (.ref e.lam) (.ref e.r) (.ref e.c) (.bool wish))
 r1:h.get? e.r=some (instObj 257 e.dr)
 r2:∃ T kp,h.get? e.dr=some (jj9 P T sec kp e.k1 e.k2 e.lam)
 c1:h.get? e.c=some (instObj 257 e.dc)
 c2:∃ T kp,h.get? e.dc=some (jj9 P T sec kp e.k3 e.k4 e.lam)
 hd:ja3 h e.hl heard
theorem kgz (turn:Nat):(if (!((turn % 2:Nat):Int) != 0)=true then (1:Int) else 0)=(((turn+1) % 2:Nat):Int):=by
 rcases Nat.mod_two_eq_zero_or_one turn with h | h
 ·rw [h,show (turn+1) % 2=1 by walk_at "OM"];rfl
 ·rw [h,show (turn+1) % 2=0 by walk_at "OM"];rfl
section
variable {w:World} {mg mb:Str->Option Value} {hb:Heap} {s:Shared} {A:Around}
theorem kn1 {e:EA} {suite sec:Int} {nr ns turn:Nat} {wish:Bool} {heard:List (String×String)} (B:jbw w mg mb hb) (S:Sub hb s.heap) (hC:jav A 2) (X:jev w.params s.heap e suite sec nr ns turn wish heard) (O:Off hb e) :
  jb4 w A s (.call (.ref 325) ⟨[.ref e.x],[]⟩) [e.dx] (fun v h'=>v=.none∧jev w.params h' e suite sec nr ns turn true heard):=by
 intro R hR
 obtain ⟨hd,dp,fr,gs,un⟩:=A
 obtain ⟨rfl,rfl⟩:hd=none∧gs=some []:=⟨hC.h,hC.g⟩
 have xx:=X
 obtain ⟨xF,zs1,zs2,zs3,zs4⟩:=X
 refine xE zs1 fun Tp xP=>?_
 try clear zs1
 refine jd2 zs2 fun xR1 TR0 ar hpr xR2 xR3 xR4=>?_
 try clear zs2
 refine jd2 zs3 fun xS1 TS0 as hps xS2 xS3 xS4=>?_
 try clear zs3
 refine je4 zs4 fun its kh xH1 xH2=>?_
 try clear zs4
 have n1:e.dx≠e.dr:=ja1 xP xR2 (fun z=>absurd (show (5:Nat)=9 from congrArg dsz z) (by decide))
 have n2:e.dx≠e.dc:=ja1 xP xS2 (fun z=>absurd (show (5:Nat)=9 from congrArg dsz z) (by decide))
 have n3:e.dx≠e.hl:=ja1 xP xH1 (ctN rfl)
 have n4:e.dr≠e.hl:=ja1 xR2 xH1 (ctN rfl)
 have n5:e.dc≠e.hl:=ja1 xS2 xH1 (ctN rfl)
 have n6:=O.ne
 have hN:Has hb s.heap [(e.dx,jhk w.params Tp (.ref e.lam) (.ref e.r) (.ref e.c) (.bool wish))]:=fun p hp=>by
  obtain rfl:=List.mem_singleton.mp hp
  exact ⟨xP,O.a1⟩
 have hsoft:∀ p∈[(e.dx,jhk w.params Tp (.ref e.lam) (.ref e.r) (.ref e.c) (.bool wish))],jak p.2=false:=fun p hp=>by
  obtain rfl:=List.mem_singleton.mp hp
  rfl
 refine jcj (news:=[(e.dx,jhk w.params Tp (.ref e.lam) (.ref e.r) (.ref e.c) (.bool wish))]) (binds:=[("self", .ref e.x)]) (bl:=[("self", .ref e.x)])
  B S hN (by k_is) (by k_is) hC.room (BindsTo.of_eq rfl) (by kernel_rfl!) (by kernel_rfl!) ?_ (by kernel_rfl!) (by kernel_rfl!) (by kernel_rfl!) (by kernel_rfl!)
 intro g L' h₁ tk B' F N hg hs hl
 have KX:=B'.k
 have TR:=B'.t
 have TG:jaz s.heap g:=toG hN hg hsoft
 have gx:=TG _ _ xF.px rfl
 have hl1:@LT.lt Nat instLTNat e.dx L':=hl _ (.head _)
 walk_at "GO"
 rename_i h5 F5 N5
 have k5:=ja5 hg F5
 have kS:jaz s.heap h5:=TG.trans (jaz.of_sub F5.keep)
 exact hR _ _ _ k5 ⟨rfl,xF.keeps kS,⟨Tp,N5.get (.head _)⟩,xx.cr.keeps kS (fun o q=>k5 _ o q (by simpa using n1.symm)),xx.cs.keeps kS (fun o q=>k5 _ o q (by simpa using n2.symm)),xx.hd.keeps kS (fun o q=>k5 _ o q (by simpa using n3.symm))⟩
theorem jpj {e:EA} {suite sec:Int} {nr ns turn:Nat} {wish:Bool} {heard:List (String×String)} (B:jbw w mg mb hb) (S:Sub hb s.heap) (hC:jav A 2) (X:jev w.params s.heap e suite sec nr ns turn wish heard) :
  jb4 w A s (.call (.ref 332) ⟨[.ref e.x],[]⟩) [] (fun v zz=>∃ t,v=.int (((turn+(if wish then 1 else 0)) % 2:Nat):Int) t):=by
 intro R hR
 obtain ⟨hd,dp,fr,gs,un⟩:=A
 obtain ⟨rfl,rfl⟩:hd=none∧gs=some []:=⟨hC.h,hC.g⟩
 have xx:=X
 obtain ⟨xF,zs5,zs6,zs7,zs8⟩:=X
 refine xE zs5 fun Tp xP=>?_
 try clear zs5
 refine jd2 zs6 fun xR1 TR0 ar hpr xR2 xR3 xR4=>?_
 try clear zs6
 refine jd2 zs7 fun xS1 TS0 as hps xS2 xS3 xS4=>?_
 try clear zs7
 refine je4 zs8 fun its kh xH1 xH2=>?_
 try clear zs8
 have n1:e.dx≠e.dr:=ja1 xP xR2 (fun z=>absurd (show (5:Nat)=9 from congrArg dsz z) (by decide))
 have n2:e.dx≠e.dc:=ja1 xP xS2 (fun z=>absurd (show (5:Nat)=9 from congrArg dsz z) (by decide))
 have n3:e.dx≠e.hl:=ja1 xP xH1 (ctN rfl)
 have n4:e.dr≠e.hl:=ja1 xR2 xH1 (ctN rfl)
 have n5:e.dc≠e.hl:=ja1 xS2 xH1 (ctN rfl)
 refine jcj (news:=[]) (binds:=[("self", .ref e.x)]) (bl:=[("self", .ref e.x)])
  B S (fun p hp=>nomatch hp) (by k_is) (by k_is) hC.room (BindsTo.of_eq rfl) (by kernel_rfl!) (by kernel_rfl!) ?_ (by kernel_rfl!) (by kernel_rfl!) (by kernel_rfl!) (by kernel_rfl!)
 intro g L' h₁ tk B' F N hg hs hl
 have KX:=B'.k
 have TR:=B'.t
 have hsg:Sub s.heap g:=fun b o e=>hg b o e noN
 have gx:=hsg _ _ xF.px
 have gd:=hsg _ _ xP
 have gr:=hsg _ _ xR1
 have gr2:=hsg _ _ xR2
 cases wish with
 | true =>
  walk_at "GO"
  rw [kgz]
  exact hR _ _ _ (ja5 hg F) ⟨_,rfl⟩
 | false =>
  walk_at "GO"
  exact hR _ _ _ (ja5 hg F) ⟨_,rfl⟩
theorem jrx {e:EA} {sec:Int} {heard:List (String×String)} {v1 v2 v3:Value} {base:Heap} {outer:List Env} (B:jbw w mg mb hb) (S:Sub hb s.heap) (hC:jav A 5) (X:jk9 w.params s.heap e sec heard) (Y:Fly A base outer s.heap) :
  jv0 w A s (.call (.ref 297) ⟨[.ref e.x,v1,v2,v3],[]⟩) [] (fun zz zz=>False) (.ref 195) base outer True:=by
 intro R hR hE
 obtain ⟨hd,dp,fr,gs,un⟩:=A
 obtain ⟨rfl,rfl⟩:hd=none∧gs=some []:=⟨hC.h,hC.g⟩
 obtain ⟨xF,zs9,xR1,zs10,xC1,xC2,xH⟩:=X
 refine xEE zs9 fun Tp wish xP=>?_
 try clear zs9
 refine xEE zs10 fun TR kp xR2=>?_
 try clear zs10
 refine jcj (news:=[]) (binds:=[("self", .ref e.x),("packet", v1),("encrypted_offset", v2),("expected_packet_number", v3)]) (bl:=[("expected_packet_number", v3),("encrypted_offset", v2),("packet", v1),("self", .ref e.x)])
  B S (fun p hp=>nomatch hp) (by k_is) (by k_is) hC.room (BindsTo.of_eq rfl) (by kernel_rfl!) (by kernel_rfl!) ?_ (by kernel_rfl!) (by kernel_rfl!) (by kernel_rfl!) (by kernel_rfl!)
 intro g L' h₁ tk B' F N hg hs hl
 have KX:=B'.k
 have TR:=B'.t
 have hsg:Sub s.heap g:=fun b o e=>hg b o e noN
 have gx:=hsg _ _ xF.px
 have gd:=hsg _ _ xP
 have gr:=hsg _ _ xR1
 have gr2:=hsg _ _ xR2
 have hLb:base.get? L'=none:=by
  cases q:base.get? L' with
  | none=>rfl
  | some o=>exact absurd (Nat.lt_of_lt_of_le (Heap.lt_size (hsg _ _ (Y.sub _ _ q))) F.above) (Nat.lt_irrefl _)
 walk_at "GO"
 have k5:Sub s.heap h₁:=fun b o e=>F.keep b o (hsg b o e)
 exact jfj (ju6 B (Sub.trans' S k5) (hC.deeper.le (by decide)) (F.keep _ _ gr) (F.keep _ _ gr2) (Fly.push (Y.later k5) F hLb rfl rfl)) (fun v h6 tk6 H6 p6=>p6.elim) (fun e' a0 h6 tk6 c X6 u6=>jm2 (Around.frames_deeper Y.st) rfl X6 fun h' X u=>hE e' a0 h' _ trivial X ((Heap.UpToSlots.of_keeps k5).trans (u6.trans u)))
end
end
theorem fl29:True:=by first|walk1|trivial
section
local macro_rules (kind:=PyProof.Rows.tacticWalk_at_) | s=>jex "AJaPGHEQRVb&" s
local macro_rules | `(tactic| k_all)=>jo2 "&" "k_all"
theorem re3 {g h h':Heap} {L a b c:Addr} {o1 o2 o3 p1 p2 p3:Obj} {rest:List (Addr×Obj)} (N:News g L h ((a,o1)::(b,o2)::(c,o3)::rest)) (e1:h'.get? a=some p1) (e2:h'.get? b=some p2) (e3:h'.get? c=some p3):News g L h' [(a,p1),(b,p2),(c,p3)]:=jbj (⟨e1,(N _ (.head _)).2⟩) (jbj (⟨e2,(N _ me1).2⟩) (jgw (⟨e3,(N _ me2).2⟩)))
section
variable {w:World} {mg mb:Str->Option Value} {hb:Heap} {s:Shared} {A:Around}
theorem kgw {e:EA} {suite sec:Int} {nr ns turn:Nat} {wish:Bool} {heard:List (String×String)} (B:jbw w mg mb hb) (S:Sub hb s.heap) (hC:jav A 11) (X:jev w.params s.heap e suite sec nr ns turn wish heard) (O:Off hb e) (hz:heard.length≤900) :
  jb4 w A s (.call (.ref 318) ⟨[.ref e.x],[]⟩) [e.dr,e.dc,e.hl] (fun v h'=>v=.none∧jk9 w.params h' e sec (heard++[("read no more", "tls")]++[("send no more", "tls")])):=by
 intro R hR
 refine openA A hC fun dp fr un hC=>?_
 have xx:=X
 obtain ⟨xF,zs1,zs2,zs3,zs4⟩:=X
 refine xE zs1 fun Tp xP=>?_
 try clear zs1
 refine jd2 zs2 fun xR1 TR0 ar hpr xR2 xR3 xR4=>?_
 try clear zs2
 refine jd2 zs3 fun xS1 TS0 as hps xS2 xS3 xS4=>?_
 try clear zs3
 refine je4 zs4 fun its kh xH1 xH2=>?_
 try clear zs4
 have n1:e.dx≠e.dr:=ja1 xP xR2 (fun z=>absurd (show (5:Nat)=9 from congrArg dsz z) (by decide))
 have n2:e.dx≠e.dc:=ja1 xP xS2 (fun z=>absurd (show (5:Nat)=9 from congrArg dsz z) (by decide))
 have n3:e.dx≠e.hl:=ja1 xP xH1 (ctN rfl)
 have n4:e.dr≠e.hl:=ja1 xR2 xH1 (ctN rfl)
 have n5:e.dc≠e.hl:=ja1 xS2 xH1 (ctN rfl)
 have n6:=O.ne
 have hN:Has hb s.heap [(e.dr,jb2 w.params TR0 suite sec ar hpr ((turn % 2:Nat):Int) (nr+turn) e.k1 e.k2 e.lam),(e.dc,jb2 w.params TS0 suite sec as hps ((turn % 2:Nat):Int) (ns+turn) e.k3 e.k4 e.lam),(e.hl,listOf its kh)]:=jbj (⟨xR2,O.a2⟩) (jbj (⟨xS2,O.a3⟩) (jgw (⟨xH1,O.a4⟩)))
 have hsoft:∀ p∈[(e.dr,jb2 w.params TR0 suite sec ar hpr ((turn % 2:Nat):Int) (nr+turn) e.k1 e.k2 e.lam),(e.dc,jb2 w.params TS0 suite sec as hps ((turn % 2:Nat):Int) (ns+turn) e.k3 e.k4 e.lam),(e.hl,listOf its kh)],jak p.2=false:=jbj rfl (jbj rfl (jgw rfl))
 refine jcj (news:=[(e.dr,jb2 w.params TR0 suite sec ar hpr ((turn % 2:Nat):Int) (nr+turn) e.k1 e.k2 e.lam),(e.dc,jb2 w.params TS0 suite sec as hps ((turn % 2:Nat):Int) (ns+turn) e.k3 e.k4 e.lam),(e.hl,listOf its kh)]) (binds:=[("self", .ref e.x)]) (bl:=[("self", .ref e.x)])
  B S hN (by k_is) (by k_is) hC.room (BindsTo.of_eq rfl) (by kernel_rfl!) (by kernel_rfl!) ?_ (by kernel_rfl!) (by kernel_rfl!) (by kernel_rfl!) (by kernel_rfl!)
 intro g L' h₁ tk B' F N hg hs hl
 have KX:=B'.k
 have TR:=B'.t
 have TG:jaz s.heap g:=toG hN hg hsoft
 have gF:=xF.keeps TG
 have gx:=gF.px
 have gd:=hg _ _ xP (by simp [n1,n2,n3])
 have gr:=TG _ _ xR1 rfl
 have gc:=TG _ _ xS1 rfl
 have gi:=ja9.keeps TG xH2
 walk_at "GO"
 have sub1:∀ s':Shared,jb8 h₁ [e.dr] s'.heap->Sub g s'.heap:=fun s' hS b o eb=>hS b o (F.keep _ _ eb) (fun q=>by rw [List.mem_singleton.mp q,N.fresh (.head _)] at eb;cases eb)
 refine ja0 (jl0 (asC:=[e.hl]) (PostC:=fun v h=>v=.none∧ja3 h e.hl (heard++[("read no more", "tls")])) B' F.keep (hC.deeper.le (by decide)) (F.keep _ _ gr) (N.get (.head _)) (N.fresh (.head _))
  (gF.c2.keeps (jaz.of_sub F.keep)).fn (fun a ha=>(iEE its kh (by rw [List.mem_singleton.mp ha];exact N.get me2)))
  (fun s' A' t hS hC'=>cb_2 B' (sub1 s' hS) (hC'.le (by decide)) (gF.c2.keeps (jaz.of_sub (sub1 s' hS))) (jhj its kh (hS _ _ (N.get me2) (fun q=>n4 (List.mem_singleton.mp q).symm)) (ja9.keeps (jaz.of_sub (sub1 s' hS)) gi)) (N.fresh me2) (by walk_at "OM"))) fun v h5 tk5 H5 p5=>?_
 refine jjk p5 fun zq125 T5 v5 e5 zq126 its5 k5 q5 i5=>?_
 try clear p5
 obtain rfl:=zq125
 obtain rfl:=zq126
 have F5:=jc0 F H5 (jbj ((N _ (.head _)).2) (jgw ((N _ me2).2)))
 have N5:=re3 N e5 (H5 _ _ (N.get me1) (by simp [n5,n6.symm])) q5
 have hz5:(heard++[("read no more", "tls")]).length≤901:=by rw [List.length_append];simp;walk_at "OM"
 clear H5 N F sub1
 walk_at "GO"
 have sub5:∀ s':Shared,jb8 h5 [e.dc] s'.heap->Sub g s'.heap:=fun s' hS b o eb=>hS b o (F5.keep _ _ eb) (fun q=>by rw [List.mem_singleton.mp q,N5.fresh me1] at eb;cases eb)
 refine ja0 (jl0 (asC:=[e.hl]) (PostC:=fun v h=>v=.none∧ja3 h e.hl (heard++[("read no more", "tls")]++[("send no more", "tls")])) B' F5.keep (hC.deeper.le (by decide)) (F5.keep _ _ gc) (N5.get me1) (N5.fresh me1)
  (gF.c4.keeps (jaz.of_sub F5.keep)).fn (fun a ha=>(iEE its5 k5 (by rw [List.mem_singleton.mp ha];exact N5.get me2)))
  (fun s' A' t hS hC'=>cb_4 B' (sub5 s' hS) (hC'.le (by decide)) (gF.c4.keeps (jaz.of_sub (sub5 s' hS))) (jhj its5 k5 (hS _ _ (N5.get me2) (fun q=>n5 (List.mem_singleton.mp q).symm)) (ja9.keeps (jb8.keeps hS fun a ha=>by obtain rfl:=List.mem_singleton.mp ha;exact (iEA _ (N5.get me1) rfl)) i5)) (N5.fresh me2) (by walk_at "OM"))) fun v h9 tk9 H9 p9=>?_
 refine jjk p9 fun zq123 T9 v9 e9 zq124 its9 k9 q9 i9=>?_
 try clear p9
 obtain rfl:=zq123
 obtain rfl:=zq124
 have F9:=jc0 F5 H9 (jbj ((N5 _ me1).2) (jgw ((N5 _ me2).2)))
 have N9:=re3 N5 (H9 _ _ (N5.get (.head _)) (by simp [n4,n6])) e9 q9
 have kS:jaz s.heap h9:=TG.trans (jaz.of_sub F9.keep)
 clear H9 N5 F5 sub5
 have N9':=N9
 clear N9
 have d1:=N9'.get (.head _)
 have d2:=N9'.get me1
 have d3:=N9'.get me2
 have L9:=ja5 hg F9
 have d4:=F9.keep _ _ gd
 walk_at "GO"
 exact hR _ _ _ L9 ⟨rfl,xF.keeps kS,(iEE Tp wish d4),kS _ _ xR1 rfl,(iEE _ _ d1),kS _ _ xS1 rfl,(iEE _ _ d2),(jhj _ _ d3 i9)⟩
end
end
theorem fl30:True:=by first|walk1|trivial
section
local macro_rules (kind:=PyProof.Rows.tacticWalk_at_) | s=>jex "ANJaPGHEQRVbh" s
section
variable {w:World} {mg mb:Str->Option Value} {hb:Heap} {s:Shared} {A:Around}
def jkz (P:Params) (h:Heap) (x dx scb tcb lam:Addr):Prop:=h.get? x=some (instObj 257 dx)∧∃ T,h.get? dx=some (jf4 P T 0 scb tcb lam)
def jr8 (P:Params) (h:Heap) (dx lam k1 k2 k3 k4 r dr c dc:Addr) (o:Obj):Prop :=
 ∃ T,o=jhk P T (.ref lam) (.ref r) (.ref c) (.bool false)∧jkz P h r dr k1 k2 lam∧jkz P h c dc k3 k4 lam∧dr≠dc
theorem kgk {x d:Addr} {lam k1 k2 k3 k4:Addr} (B:jbw w mg mb hb) (S:Sub hb s.heap) (hC:jav A 4)
  (hx:s.heap.get? x=some (instObj 343 d)) (hd:s.heap.get? d=some (dictOf [] 0)) (hdb:hb.get? d=none) :
  jb4 w A s (.call (.ref 290) ⟨[.ref x,.ref lam],[("recv_setup_cb", .ref k1),("recv_teardown_cb", .ref k2),("send_setup_cb", .ref k3),("send_teardown_cb", .ref k4)]⟩) [d]
   (fun v h'=>v=.none∧∃ o,h'.get? d=some o∧∃ r dr c dc,jr8 w.params h' d lam k1 k2 k3 k4 r dr c dc o∧s.heap.get? r=none∧s.heap.get? dr=none∧s.heap.get? c=none∧s.heap.get? dc=none):=by
 intro R hR
 refine openA A hC fun dp fr un hC=>?_
 have hN:Has hb s.heap [(d,dictOf [] 0)]:=fun p hp=>by obtain rfl:=List.mem_singleton.mp hp;exact ⟨hd,hdb⟩
 refine jcj (news:=[(d,dictOf [] 0)]) (binds:=[("self", .ref x),("primitives", .ref lam),("recv_setup_cb", .ref k1),("recv_teardown_cb", .ref k2),("send_setup_cb", .ref k3),("send_teardown_cb", .ref k4)]) (bl:=[("send_teardown_cb", .ref k4),("send_setup_cb", .ref k3),("recv_teardown_cb", .ref k2),("recv_setup_cb", .ref k1),("primitives", .ref lam),("self", .ref x)])
  B S hN (by k_is) (by k_is) hC.room (by first | exact BindsTo.of_eq rfl | exact binds_K (B.k.keeps S) rfl (by k_is) rfl rfl rfl) (by kernel_rfl!) (by kernel_rfl!) ?_ (by kernel_rfl!) (by kernel_rfl!) (by kernel_rfl!) (by kernel_rfl!)
 intro g L' h₁ tk B' F N hg hs hl
 have KX:=B'.k
 have TR:=B'.t
 have hl1:@LT.lt Nat instLTNat d L':=hl _ (.head _)
 have gx:=hg _ _ hx (fun q=>jh0 hx hd rfl (List.mem_singleton.mp q))
 walk_at "GO"
 rename_i h5 F5 N5
 have fr:∀ a,g.get? a=none->a≠d->s.heap.get? a=none:=fun a e hne=>jd7 hg e (fun q=>hne (List.mem_singleton.mp q))
 exact hR _ _ _ (ja5 hg F5) ⟨rfl,_,N5.get me4,_,_,_,_,⟨jlv [_,_,_,_,_,_],rfl,⟨N5.get me2,_,N5.get me3⟩,⟨N5.get (.head _),_,N5.get me1⟩,by k_ne⟩,
  fr _ (N5.fresh me2) (by k_ne),fr _ (N5.fresh me3) (by k_ne),fr _ (N5.fresh (.head _)) (by k_ne),fr _ (N5.fresh me1) (by k_ne)⟩
end
section
variable {w:World} {mg mb:Str->Option Value} {g:Heap} {s:Shared} {A:Around} {L:Addr} {m:Str->Option Value} {news:List (Addr×Obj)} {E:Value->Shared->Prop} {Q:Value->Shared->Prop}
theorem kg4 {lam k1 k2 k3 k4:Addr} (B:jbw w mg mb g) (hC:jav A 5) (F:Fr g L s.heap m) (N:News g L s.heap news)
  (h:∀ x dx o r dr c dc h' tk,Fr g L h' m->News g L h' ((x,instObj 343 dx)::(dx,o)::news)->(∀ p∈news,p.1<dx)->dx<x->s.heap.get? x=none->s.heap.get? dx=none->Sub s.heap h'->h'.get? dx=some o->jr8 w.params h' dx lam k1 k2 k3 k4 r dr c dc o →
   s.heap.get? r=none->s.heap.get? dr=none->s.heap.get? c=none->s.heap.get? dc=none->Q (.ref x) { s with heap:=h',toks:=tk }) :
  wpAny (model pw w) A (call (.ref 343) [.ref lam] [("recv_setup_cb", .ref k1),("recv_teardown_cb", .ref k2),("send_setup_cb", .ref k3),("send_teardown_cb", .ref k4)]) Q E s :=
 jgx (n:=4) (fI:=290) (P:=fun zz dx o h''=>∃ r dr c dc,jr8 w.params h'' dx lam k1 k2 k3 k4 r dr c dc o∧s.heap.get? r=none∧s.heap.get? dr=none∧s.heap.get? c=none∧s.heap.get? dc=none) hC F B.k N (by k_is) (by k_is) (by k_is)
  (fun x dx h' k e1 e2 f1 f2 f3=>jiw (kgk B (Sub.trans' F.keep k) hC.under e1 e2 f3) (fun zz h=>h) fun v h'' zz p=>⟨p.1,p.2.imp fun o p=>⟨p.1,p.2.imp fun r p=>p.imp fun dr p=>p.imp fun c p=>p.imp fun dc p=>⟨p.1,jbz k p.2.1,jbz k p.2.2.1,jbz k p.2.2.2.1,jbz k p.2.2.2.2⟩⟩⟩)
  fun x dx o h' tk F' N' l1 l2 q1 q2 k e P=>by
   refine jf8 P fun r dr c dc z z1 z2 z3 z4=>?_
   try clear P
   exact h x dx o r dr c dc h' tk F' N' l1 l2 q1 q2 k e z z1 z2 z3 z4
end
end
theorem fl31:True:=by first|walk1|trivial
section
local macro_rules (kind:=PyProof.Rows.tacticWalk_at_) | s=>jex "AiJaPGHEQRVbj" s
theorem ltT2 {n m k:Nat} (h2:m<k) (h1:n<m):n<k:=Nat.lt_trans h1 h2
noncomputable def pX:Program:={ qv with main:={ qv.main with body:=[.Import [⟨"sys", none,⟨0,0,0,0⟩⟩] ⟨0,0,0,0⟩] } }
noncomputable def looseX:List Str:=jdj++((recsOf qv).map (·.name)++((litsOf qv).map (·.1)++(clssOf qv jdj).map (·.name)))
structure Ext (mg:Str->Option Value) (h:Heap):Prop where
 bm:∃ bm ob,mg "__builtins__" = some (.ref bm)∧bm≠builtinsNs∧h.get? bm=some ob∧ob.cls=.type "module" ∧ ob.dict=some builtinsNs∧ob.data=.plain
 nd:∃ mc,h.Ns cStatics mc∧mc "sys.int_max_str_digits" = none
theorem Ext.keeps {mg:Str->Option Value} {h h':Heap} (x:Ext mg h) (k:Sub h h'):Ext mg h':=by
 obtain ⟨⟨bm,ob,h1,h2,h3,r⟩,⟨mc,q1,q2⟩⟩:=x
 exact ⟨(ksk bm ob h1 h2 (k _ _ h3) r),(iEA mc (q1.keeps k) q2)⟩
theorem topX {mg mb:Str->Option Value} {h:Heap} (T:TopRead qv jdj mg mb h) (E:Ext mg h):Top pX looseX (fun zz=>none) mg mb h where
 g:=T.g
 b:=T.b
 nolimit:=T.nolimit
 nodigits:=E.nd
 fn:=fun d hd=>absurd (show d∈([]:List DefRec) from hd) (by simp)
 own:=fun d hd=>absurd (show d∈([]:List OwnSpec) from hd) (by simp)
 const:=fun x d hd=>absurd (show (none:Option PyData)=some d from hd) (by simp)
 free:=fun x h1 h2 zz zz zz=>T.free x h1 (fun q=>h2 (List.mem_append_left _ q)) (fun q=>h2 (List.mem_append_right _ (List.mem_append_left _ q))) (fun q=>h2 (List.mem_append_right _ (List.mem_append_right _ (List.mem_append_left _ q)))) (fun q=>h2 (List.mem_append_right _ (List.mem_append_right _ (List.mem_append_right _ q))))
 builtins:=T.builtins
 tab:=fun d hd=>absurd (show d∈([]:List DefRec) from hd) (by simp)
 bmain:=E.bm
 seer:=fun q=>absurd (show false=true from q) (by simp)
theorem joz {w:World} {h:Heap} (X:(K w.params).In h):CodeHd h 375 371:=by
 refine (jh4 _ _ "/claim/cut.py" 766 3 0 true 181 (iEAAA 0 (X 375 _ (by k_is)) rfl rfl (?_)))
 exact (ki4 rfl rfl rfl rfl rfl rfl (by decide))
theorem kc8 {w:World} {mg mb:Str->Option Value} {g:Heap} {s:Shared} {A:Around} {L:Addr} {m:Str->Option Value} {news:List (Addr×Obj)} {E:Value->Shared->Prop} {Q:Value->Shared->Prop} {lam k1 k2 k3 k4:Addr} (B:jbw w mg mb g) (hC:jav A 5) (F:Fr g L s.heap m) (N:News g L s.heap news)
  (h:∀ x dx o r dr c dc h' tk,Fr g L h' m->News g L h' ((x,instObj 343 dx)::(dx,o)::news)->(∀ p∈news,p.1<dx)->dx<x->s.heap.get? x=none->s.heap.get? dx=none->Sub s.heap h'->h'.get? dx=some o->jr8 w.params h' dx lam k1 k2 k3 k4 r dr c dc o →
   s.heap.get? r=none->s.heap.get? dr=none->s.heap.get? c=none->s.heap.get? dc=none->g.get? r=none->g.get? dr=none->g.get? c=none->g.get? dc=none->Q (.ref x) { s with heap:=h',toks:=tk }) :
  wpAny (model pw w) A (call (.ref 343) [.ref lam] [("recv_setup_cb", .ref k1),("recv_teardown_cb", .ref k2),("send_setup_cb", .ref k3),("send_teardown_cb", .ref k4)]) Q E s :=
 kg4 B hC F N fun x dx o r dr c dc h' tk F' N' l1 l2 q1 q2 sb e pi z1 z2 z3 z4=>h x dx o r dr c dc h' tk F' N' l1 l2 q1 q2 sb e pi z1 z2 z3 z4 (jbz F.keep z1) (jbz F.keep z2) (jbz F.keep z3) (jbz F.keep z4)
structure jh8 (P:Params) (h:Heap) (e:EA) (sec:Int):Prop where
 fx:jh9 h e sec
 pd:∃ T,h.get? e.dx=some (jhk P T (.ref e.lam) (.ref e.r) (.ref e.c) (.bool false))
 cr:jkz P h e.r e.dr e.k1 e.k2 e.lam
 cs:jkz P h e.c e.dc e.k3 e.k4 e.lam
 ne:e.dr≠e.dc
structure kvv (h:Heap) (e:EA):Prop where
 x:h.get? e.x=none
 dx:h.get? e.dx=none
 dr:h.get? e.dr=none
 dc:h.get? e.dc=none
noncomputable abbrev knz (c0 c1 c2 c3 c4:Addr):Array Value:=#[]++#[rawInt ((250:Nat):Int),rawInt ((0:Nat):Int),.ref c0]++#[rawInt ((251:Nat):Int),rawInt ((0:Nat):Int),.ref c1]++#[rawInt ((252:Nat):Int),rawInt ((0:Nat):Int),.ref c2]++#[rawInt ((253:Nat):Int),rawInt ((0:Nat):Int),.ref c3]++#[rawInt ((254:Nat):Int),rawInt ((0:Nat):Int),.ref c4]
noncomputable def lamQ:Str:=(envOfC "_law_pair" jw1 0 376 (Value.ref 375)).qual ++ "<lambda>"
def jhw (h:Heap):Prop:=∃ c0 c1 c2 c3 c4,h.get? 371=some (tabObj (knz c0 c1 c2 c3 c4))∧h.CodeRec (.ref c0) lamQ∧h.CodeRec (.ref c1) lamQ∧h.CodeRec (.ref c2) lamQ∧h.CodeRec (.ref c3) lamQ∧h.CodeRec (.ref c4) lamQ
section
variable {w:World} {mg mb:Str->Option Value} {hb:Heap} {s:Shared} {A:Around}
theorem kh2 {rl hdl:Addr} {sec:Int} {t1:Tok} (B:jbw w mg mb hb) (S:Sub hb s.heap) (hC:jav A 6) (EX:Ext mg hb) (h371:s.heap.get? 371=some (tabObj #[])) (hb371:hb.get? 371=none) :
  jb4 w A s (.call (.ref 376) ⟨[.ref rl,.int sec t1,.ref hdl],[]⟩) [371] (fun v h'=>∃ e:EA,v=.ref e.x∧e.rl=rl∧e.hl=hdl∧jh8 w.params h' e sec∧kvv s.heap e∧jhw h'):=by
 intro R hR
 refine openA A hC fun dp fr un hC=>?_
 have hN:Has hb s.heap [(371,tabObj #[])]:=fun p hp=>by obtain rfl:=List.mem_singleton.mp hp;exact ⟨h371,hb371⟩
 refine jhq (news:=[(371,tabObj #[])]) (binds:=[("rows", .ref rl),("second", .int sec t1),("heard", .ref hdl)])
  (bl:=[])
  (bc:=[("heard", .ref hdl),("second", .int sec t1),("rows", .ref rl)])
  (cs:=fun L=>[("heard", L+3),("second", L+2),("rows", L+1)])
  B S hN (by k_is) (by k_is) hC.room (BindsTo.of_eq rfl) (by kernel_rfl!) (by decide +kernel) (by kernel_rfl!) (by kernel_rfl!) (by intro L;kernel_rfl!) ?_ (by kernel_rfl!) (by kernel_rfl!) (by kernel_rfl!)
 intro g L' h₁ tk cells B' F N Y hg hs hl
 have KX:=B'.k
 have TR:=B'.t
 refine jv3 (CellsAre.three Y) fun o1 o2 o3 zq23 d1 d2 d3=>?_
 obtain rfl:=zq23
 clear Y
 simp only [List.cons_append,List.nil_append] at N
 replace d1:=jd9 d1 (by walk_at "LKd")
 replace d2:=jd9 d2 (by walk_at "LKd")
 replace d3:=jd9 d3 (by walk_at "LKd")
 have TX:=topX TR (EX.keeps (fun b o e=>hg b o (S b o e) (fun q=>by rw [List.mem_singleton.mp q,hb371] at e;cases e)))
 have hl1:@LT.lt Nat instLTNat 371 L':=hl _ (.head _)
 have CX:=joz KX
 walk_at "GO"
 rename_i x9 d9 o9 r9 dr9 c9 dc9 h9 tk9 F5 N5 q1 q2 sb e5 pi z1 z2 z3 z4 y1 y2 y3 y4 l1 l2
 refine xEAAA pi fun T zq22 pi1 pi2 pi3=>?_
 try clear pi
 obtain rfl:=zq22
 have pr2:=pi1.2
 have pc2:=pi2.2
 obtain ⟨Tr,pr2⟩:=pr2
 obtain ⟨Tc,pc2⟩:=pc2
 have t371:=N5.get me15
 have fr:∀ a,g.get? a=none->a≠371->s.heap.get? a=none:=fun a e hne=>jd7 hg e (fun q=>hne (List.mem_singleton.mp q))
 have kp:jb6 _ _ rl sec:=(jh4 _ _ _ _ _ _ _ _ (jik _ _ (N5.get me10) (jc3 _ _ _ _ rfl (N5.get me11) (by assumption) (by assumption)) (by rfl) (N5.get me14) d3 (by rfl) (N5.get me13) d2))
 have kc1:jo0 lp1 lb1 ls1 _ _ hdl:=(jcq _ _ _ _ _ _ _ (N5.get me8) (jn2 (jc3 _ _ _ _ rfl (N5.get me9) (by assumption) (by assumption)) (by rfl) (N5.get me12) d1))
 have kc2:jo0 lp2 lb2 ls2 _ _ hdl:=(jcq _ _ _ _ _ _ _ (N5.get me6) (jn2 (jc3 _ _ _ _ rfl (N5.get me7) (by assumption) (by assumption)) (by rfl) (N5.get me12) d1))
 have kc3:jo0 lp3 lb3 ls3 _ _ hdl:=(jcq _ _ _ _ _ _ _ (N5.get me4) (jn2 (jc3 _ _ _ _ rfl (N5.get me5) (by assumption) (by assumption)) (by rfl) (N5.get me12) d1))
 have kc4:jo0 lp4 lb4 ls4 _ _ hdl:=(jcq _ _ _ _ _ _ _ (N5.get me2) (jn2 (jc3 _ _ _ _ rfl (N5.get me3) (by assumption) (by assumption)) (by rfl) (N5.get me12) d1))
 have kt:jhw _:=(jg9 _ _ _ _ _ t371 (jc3 _ _ _ _ rfl (N5.get me11) (by assumption) (by assumption)) (jc3 _ _ _ _ rfl (N5.get me9) (by assumption) (by assumption)) (jc3 _ _ _ _ rfl (N5.get me7) (by assumption) (by assumption)) (jc3 _ _ _ _ rfl (N5.get me5) (by assumption) (by assumption)) (jc3 _ _ _ _ rfl (N5.get me3) (by assumption) (by assumption)))
 have ke:jh8 w.params h9 ⟨x9,d9,r9,dr9,c9,dc9,_,rl,hdl,_,_,_,_⟩ sec:=⟨⟨N5.get (.head _),kp,kc1,kc2,kc3,kc4⟩,⟨T,N5.get me1⟩,pi1,pi2,pi3⟩
 have kf:s.heap.get? x9=none∧s.heap.get? d9=none∧s.heap.get? dr9=none∧s.heap.get? dc9=none:=(jn2 (fr x9 (N5.fresh (.head _)) (by k_ne)) (fr d9 (N5.fresh me1) (by k_ne)) (fr _ y2 (ja1 pr2 t371 (ctN rfl))) (fr _ y4 (ja1 pc2 t371 (ctN rfl))))
 exact hR _ _ _ (ja5 hg F5) (ki2 _ rfl rfl rfl ke ⟨kf.1,kf.2.1,kf.2.2.1,kf.2.2.2⟩ kt)
end
end
theorem fl32:True:=by first|walk1|trivial
section
local macro_rules (kind:=PyProof.Rows.tacticWalk_at_) | s=>jex "AiJaPGHEQRVkj" s
theorem tab_ok (c0 c1 c2 c3 c4:Addr):TriplesOk (knz c0 c1 c2 c3 c4).toList=True:=by kernel_rfl!
theorem hit0 (c0 c1 c2 c3 c4:Addr) (a d:Nat):codeAmong ⟨250,0,a,d⟩ (knz c0 c1 c2 c3 c4).toList=some (.ref c0):=by kernel_rfl!
theorem hit1 (c0 c1 c2 c3 c4:Addr) (a d:Nat):codeAmong ⟨251,0,a,d⟩ (knz c0 c1 c2 c3 c4).toList=some (.ref c1):=by kernel_rfl!
theorem hit2 (c0 c1 c2 c3 c4:Addr) (a d:Nat):codeAmong ⟨252,0,a,d⟩ (knz c0 c1 c2 c3 c4).toList=some (.ref c2):=by kernel_rfl!
theorem hit3 (c0 c1 c2 c3 c4:Addr) (a d:Nat):codeAmong ⟨253,0,a,d⟩ (knz c0 c1 c2 c3 c4).toList=some (.ref c3):=by kernel_rfl!
theorem hit4 (c0 c1 c2 c3 c4:Addr) (a d:Nat):codeAmong ⟨254,0,a,d⟩ (knz c0 c1 c2 c3 c4).toList=some (.ref c4):=by kernel_rfl!
structure jvk (tab:Array Value) (c0 c1 c2 c3 c4:Addr):Prop where
 t:TriplesOk tab.toList=True
 h0:∀ a d:Nat,codeAmong ⟨250,0,a,d⟩ tab.toList=some (.ref c0)
 h1:∀ a d:Nat,codeAmong ⟨251,0,a,d⟩ tab.toList=some (.ref c1)
 h2:∀ a d:Nat,codeAmong ⟨252,0,a,d⟩ tab.toList=some (.ref c2)
 h3:∀ a d:Nat,codeAmong ⟨253,0,a,d⟩ tab.toList=some (.ref c3)
 h4:∀ a d:Nat,codeAmong ⟨254,0,a,d⟩ tab.toList=some (.ref c4)
theorem kv3 (c0 c1 c2 c3 c4:Addr):jvk (knz c0 c1 c2 c3 c4) c0 c1 c2 c3 c4:=⟨tab_ok _ _ _ _ _,hit0 _ _ _ _ _,hit1 _ _ _ _ _,hit2 _ _ _ _ _,hit3 _ _ _ _ _,hit4 _ _ _ _ _⟩
section
variable {w:World} {mg mb:Str->Option Value} {hb:Heap} {s:Shared} {A:Around}
theorem kh1 {rl hdl:Addr} {sec:Int} {t1:Tok} (B:jbw w mg mb hb) (S:Sub hb s.heap) (hC:jav A 6) (EX:Ext mg hb) (TT:jhw s.heap) (hb371:hb.get? 371=none) :
  jb4 w A s (.call (.ref 376) ⟨[.ref rl,.int sec t1,.ref hdl],[]⟩) [] (fun v h'=>∃ e:EA,v=.ref e.x∧e.rl=rl∧e.hl=hdl∧jh8 w.params h' e sec∧kvv s.heap e):=by
 intro R hR
 refine openA A hC fun dp fr un hC=>?_
 refine jg1 TT fun c0 c1 c2 c3 c4 h371 k0 k1 k2 k3 k4=>?_
 try clear TT
 obtain ⟨tab,htab⟩:∃ t,t=knz c0 c1 c2 c3 c4:=⟨_,rfl⟩
 have HT:jvk tab c0 c1 c2 c3 c4:=htab▸kv3 c0 c1 c2 c3 c4
 rw [← htab] at h371
 clear htab
 have hN:Has hb s.heap [(371,tabObj tab)]:=fun p hp=>by obtain rfl:=List.mem_singleton.mp hp;exact ⟨h371,hb371⟩
 refine jhq (news:=[(371,tabObj tab)]) (binds:=[("rows", .ref rl),("second", .int sec t1),("heard", .ref hdl)])
  (bl:=[])
  (bc:=[("heard", .ref hdl),("second", .int sec t1),("rows", .ref rl)])
  (cs:=fun L=>[("heard", L+3),("second", L+2),("rows", L+1)])
  B S hN (by k_is) (by k_is) hC.room (BindsTo.of_eq rfl) (by kernel_rfl!) (by decide +kernel) (by kernel_rfl!) (by kernel_rfl!) (by intro L;kernel_rfl!) ?_ (by kernel_rfl!) (by kernel_rfl!) (by kernel_rfl!)
 intro g L' h₁ tk cells B' F N Y hg hs hl
 have KX:=B'.k
 have TR:=B'.t
 refine jv3 (CellsAre.three Y) fun o1 o2 o3 zq25 d1 d2 d3=>?_
 obtain rfl:=zq25
 clear Y
 simp only [List.cons_append,List.nil_append] at N
 replace d1:=jd9 d1 (by walk_at "LKd")
 replace d2:=jd9 d2 (by walk_at "LKd")
 replace d3:=jd9 d3 (by walk_at "LKd")
 have TX:=topX TR (EX.keeps (fun b o e=>hg b o (S b o e) (fun q=>by rw [List.mem_singleton.mp q,hb371] at e;cases e)))
 have hl1:@LT.lt Nat instLTNat 371 L':=hl _ (.head _)
 have CX:=joz KX
 have sub1:=jfq hN hg F N (by simp)
 walk_at "GO"
 rename_i x9 d9 o9 r9 dr9 c9 dc9 h9 tk9 F5 N5 q1 q2 sb e5 pi z1 z2 z3 z4 y1 y2 y3 y4 l1 l2
 refine xEAAA pi fun T zq24 pi1 pi2 pi3=>?_
 try clear pi
 obtain rfl:=zq24
 have pr2:=pi1.2
 have pc2:=pi2.2
 obtain ⟨Tr,pr2⟩:=pr2
 obtain ⟨Tc,pc2⟩:=pc2
 have t371:=N5.get me10
 have L9:jb8 s.heap [371] h9:=ja5 hg F5
 have kS:Sub s.heap h9:=fun b o e=>by
  by_cases hb:b=371
  ·subst hb;rw [h371] at e;cases e;exact t371
  ·exact L9 b o e (fun q=>hb (List.mem_singleton.mp q))
 have kA:=jaz.of_sub kS
 have fr:∀ a,g.get? a=none->a≠371->s.heap.get? a=none:=fun a e hne=>jd7 hg e (fun q=>hne (List.mem_singleton.mp q))
 have kp:jb6 h9 _ rl sec:=(jh4 _ _ _ _ _ _ _ _ (jik _ _ (N5.get me6) (ja6 kA k0) (by rfl) (N5.get me9) d3 (by rfl) (N5.get me8) d2))
 have kc1:jo0 lp1 lb1 ls1 h9 _ hdl:=(jcq _ _ _ _ _ _ _ (N5.get me5) (jn2 (ja6 kA k1) (by rfl) (N5.get me7) d1))
 have kc2:jo0 lp2 lb2 ls2 h9 _ hdl:=(jcq _ _ _ _ _ _ _ (N5.get me4) (jn2 (ja6 kA k2) (by rfl) (N5.get me7) d1))
 have kc3:jo0 lp3 lb3 ls3 h9 _ hdl:=(jcq _ _ _ _ _ _ _ (N5.get me3) (jn2 (ja6 kA k3) (by rfl) (N5.get me7) d1))
 have kc4:jo0 lp4 lb4 ls4 h9 _ hdl:=(jcq _ _ _ _ _ _ _ (N5.get me2) (jn2 (ja6 kA k4) (by rfl) (N5.get me7) d1))
 have ke:jh8 w.params h9 ⟨x9,d9,r9,dr9,c9,dc9,_,rl,hdl,_,_,_,_⟩ sec:=⟨⟨N5.get (.head _),kp,kc1,kc2,kc3,kc4⟩,⟨T,N5.get me1⟩,pi1,pi2,pi3⟩
 have kf:s.heap.get? x9=none∧s.heap.get? d9=none∧s.heap.get? dr9=none∧s.heap.get? dc9=none:=(jn2 (fr x9 (N5.fresh (.head _)) (by k_ne)) (fr d9 (N5.fresh me1) (by k_ne)) (fr _ y2 (ja1 pr2 t371 (ctN rfl))) (fr _ y4 (ja1 pc2 t371 (ctN rfl))))
 exact hR _ _ _ (jb8.of_sub kS (fun b o e _=>e)) (iEAAAA _ rfl rfl rfl ke ⟨kf.1,kf.2.1,kf.2.2.1,kf.2.2.2⟩)
end
end
theorem je0 {b:Array UInt8} {q:Nat} (h:q<b.size):gB b q=(b[q]).toNat:=by unfold gB;simp [Array.getD,h]
theorem ji0 {b:Array UInt8} {q:Nat} (h:b.size≤q):gB b q=0:=by unfold gB;simp [Array.getD,Nat.not_lt.mpr h]
theorem jn4 {a b:Array UInt8} (hs:a.size=b.size) (h:∀ q,q<a.size->gB a q=gB b q):a=b:=by
 refine Array.ext hs fun q h1 h2=>?_
 have:=h q h1
 rw [je0 h1,je0 h2] at this
 exact UInt8.toNat_inj.mp this
theorem jh5 (a b:Array UInt8) (q:Nat):gB (a++b) q=if q<a.size then gB a q else gB b (q-a.size):=by
 by_cases h:q<a.size
 ·rw [if_pos h,je0 (show q<(a++b).size by rw [Array.size_append];walk_at "OM"),je0 h,Array.getElem_append_left h]
 ·rw [if_neg h]
  by_cases h2:q<(a++b).size
  ·rw [je0 h2,je0 (show q-a.size<b.size by rw [Array.size_append] at h2;walk_at "OM"),Array.getElem_append_right (by walk_at "OM")]
  ·rw [ji0 (by walk_at "OM"),ji0 (by rw [Array.size_append] at h2;walk_at "OM")]
theorem jr9 {a m:Nat} (ha:a<256) (hm:m<256):a ^^^ m<256:=Nat.xor_lt_two_pow (n:=8) ha hm
theorem jn3 (b:Array UInt8) (j m q:Nat) (hm:m<256):gB (jl4 b j (m:Int)) q=if q=j∧q<b.size then gB b q ^^^ m else gB b q:=by
 unfold jl4
 rw [jk8,Int.toNat_natCast]
 have hx:=jr9 (jo4 b j) hm
 by_cases h:q<b.size
 ·rw [je0 (show q<(b.setIfInBounds j (gB b j ^^^ m).toUInt8).size by rw [Array.size_setIfInBounds];exact h),Array.getElem_setIfInBounds]
  by_cases hq:j=q
  ·subst hq
   rw [if_pos rfl,if_pos ⟨rfl,h⟩]
   show (gB b j ^^^ m) % 256=_
   exact Nat.mod_eq_of_lt hx
  ·rw [if_neg hq,if_neg (fun c=>hq c.1.symm),← je0 h]
  ·exact h
 ·rw [ji0 (by rw [Array.size_setIfInBounds];walk_at "OM"),if_neg (fun c=>h c.2),ji0 (by walk_at "OM")]
theorem jj4 (b:Array UInt8) (off:Nat) (mk:Array UInt8) (q:Nat):∀ k,gB (jc1 b off mk k) q=if off≤q∧q<off+k∧q<b.size then gB b q ^^^ gB mk (1+(q-off)) else gB b q
 | 0=>by rw [jc1,if_neg (by walk_at "OM")]
 | k+1=>by
  rw [jc1,jn3 _ _ _ _ (jo4 _ _),jdx,jj4 b off mk q k]
  by_cases h:q=off+k∧q<b.size
  ·rw [if_pos h,if_neg (by walk_at "OM"),if_pos (by walk_at "OM"),show q-off=k by walk_at "OM"]
  ·rw [if_neg h]
   by_cases h2:off≤q∧q<off+k∧q<b.size
   ·rw [if_pos h2,if_pos (by walk_at "OM")]
   ·rw [if_neg h2,if_neg (by walk_at "OM")]
theorem jk4 (b:Array UInt8) (q:Nat):gB b q=(b.toList.getD q 0).toNat:=by
 unfold gB
 simp [Array.getD_eq_getD_getElem?,List.getD_eq_getElem?_getD]
theorem jkx {n k:Nat} (h:k≤n):clipAt n (k:Int)=k:=by
 unfold clipAt
 split <;> walk_at "OM"
theorem ji8 {b:Array UInt8} {lo n:Nat} {l h:Option Int} (hl:l.elim 0 (clipAt b.size)=lo) (hh:h.elim b.size (clipAt b.size)-lo=n) (hz:lo+n≤b.size) :
  (picked b l h).size=n∧∀ q,gB (picked b l h) q=if q<n then gB b (lo+q) else 0:=by
 rw [PySem.W.KBc.picked_eq,hl,hh]
 have e:(List.take n (List.drop lo b.toList)).toArray.size=n:=by
  rw [List.size_toArray,List.length_take,List.length_drop,Array.length_toList];walk_at "OM"
 refine ⟨e,fun q=>?_⟩
 by_cases h:q<n
 ·rw [if_pos h,jk4,jk4]
  congr 1
  rw [List.getD_eq_getElem?_getD,List.getD_eq_getElem?_getD,List.getElem?_take_of_lt h,List.getElem?_drop]
 ·rw [if_neg h,ji0 (by rw [e];walk_at "OM")]
theorem jgq {b:Array UInt8} {lo hi:Nat} (h1:lo≤hi) (h2:hi≤b.size):(picked b (some (lo:Int)) (some (hi:Int))).size=hi-lo∧∀ q,gB (picked b (some (lo:Int)) (some (hi:Int))) q=if q<hi-lo then gB b (lo+q) else 0 :=
 ji8 (by show clipAt b.size (lo:Int)=lo;exact jkx (by walk_at "OM")) (by show clipAt b.size (hi:Int)-lo=_;rw [jkx h2]) (by walk_at "OM")
theorem jnv {b:Array UInt8} {lo:Nat} (h2:lo≤b.size):(picked b (some (lo:Int)) none).size=b.size-lo∧∀ q,gB (picked b (some (lo:Int)) none) q=if q<b.size-lo then gB b (lo+q) else 0 :=
 ji8 (by show clipAt b.size (lo:Int)=lo;exact jkx h2) rfl (by walk_at "OM")
theorem js5 {b:Array UInt8} {hi:Nat} (h2:hi≤b.size):(picked b none (some (hi:Int))).size=hi∧∀ q,gB (picked b none (some (hi:Int))) q=if q<hi then gB b q else 0:=by
 have:=ji8 (b:=b) (l:=none) (h:=some (hi:Int)) (lo:=0) (n:=hi) rfl (by show clipAt b.size (hi:Int)-0=_;rw [jkx h2];rfl) (by walk_at "OM")
 simpa using this
theorem jn5 {k n q:Nat} (h:n<256 ^ k) (hq:q<k):gB (BE k n) q=n / 256 ^ (k-1-q) % 256:=by
 have e:((BE k n).toList.map fun c=>c.toNat)=((List.range k).map fun i=>n / 256 ^ i % 256).reverse:=by
  unfold BE
  rw [List.toList_toArray,List.map_reverse,kg9 h]
 have hs:q<(BE k n).size:=by rw [jdk];exact hq
 rw [je0 hs]
 have h2:((BE k n).toList.map fun c=>c.toNat)[q]?=some ((BE k n)[q]).toNat:=by
  rw [List.getElem?_map,Array.getElem?_toList,Array.getElem?_eq_getElem hs];rfl
 rw [e] at h2
 rw [List.getElem?_reverse (by simpa using hq)] at h2
 simp only [List.length_map,List.length_range] at h2
 rw [List.getElem?_map,List.getElem?_range (by walk_at "OM")] at h2
 simp only [Option.map_some,Option.some.injEq] at h2
 exact h2.symm
theorem jk5 {l:List Int} {q:Nat} (hq:q<l.length) (hl:∀ k∈l,0≤k∧k<256):gB (byteArr l) q=(l.getD q 0).toNat:=by
 have hs:q<(byteArr l).size:=by rw [byteArr_size];exact hq
 rw [je0 hs]
 have hm:=hl _ (List.getElem_mem hq)
 simp only [byteArr,List.getElem_toArray,List.getElem_map]
 rw [List.getD_eq_getElem?_getD,List.getElem?_eq_getElem hq,Option.getD_some]
 show (l[q]).toNat.toUInt8.toNat=_
 simp;walk_at "OM"
noncomputable def sumB (b:Array UInt8):Nat:=(b.toList.map fun c=>c.toNat).sum
theorem js0 (b:Array UInt8):(KBw.bInts b).sum=(sumB b:Int):=by
 unfold sumB KBw.bInts
 induction b.toList with
 | nil=>rfl
 | cons x r ih=>rw [List.map_cons,List.map_cons,List.sum_cons,List.sum_cons,ih];lia
theorem jrw (key one:Array UInt8) (k:Int):0≤ji3 key one k∧ji3 key one k<256:=by
 unfold ji3
 exact ⟨Int.fmod_nonneg_of_pos _ (by decide),Int.fmod_lt_of_pos _ (by decide)⟩
theorem kjz (key one:Array UInt8) {q:Nat} (hq:q<5):gB (jg8 key one) q=(ji3 key one q).toNat:=by
 unfold jg8
 rw [jk5 (by rw [List.length_map];exact hq) (fun k hk=>by obtain ⟨j,_,rfl⟩:=List.mem_map.mp hk;exact jrw key one j)]
 congr 1
 rcases q with _ | _ | _ | _ | _ | q
 ·rfl
 ·rfl
 ·rfl
 ·rfl
 ·rfl
 ·exact absurd hq (Nat.not_lt_of_le (Nat.le_add_left 5 q))
theorem ji6 (a b:Nat):(a ^^^ b) ^^^ b=a:=by rw [Nat.xor_assoc,Nat.xor_self,Nat.xor_zero]
theorem jq5 (x n:Nat):bitAnd (x:Int) ((2 ^ n-1:Nat):Int)=((x % 2 ^ n:Nat):Int):=by
 rw [bitAnd_pp (Int.natCast_nonneg _) (Int.natCast_nonneg _),Int.toNat_natCast,Int.toNat_natCast,Nat.and_two_pow_sub_one_eq_mod]
theorem jvv (x:Nat):bitAnd (x:Int) 31=((x % 32:Nat):Int):=jq5 x 5
theorem kl7 (x:Nat):bitAnd (x:Int) 15=((x % 16:Nat):Int):=jq5 x 4
theorem jq6 {x:Nat} (h:x<256):bitAnd (x:Int) 128=0↔x<128:=by
 rw [show (128:Int)=((128:Nat):Int) from rfl,bitAnd_pp (Int.natCast_nonneg _) (Int.natCast_nonneg _),Int.toNat_natCast,Int.toNat_natCast]
 have:∀ x:Fin 256,(x.val &&& 128=0↔x.val<128):=by decide +kernel
 have:=this ⟨x,h⟩
 dsimp only at this
 walk_at "OM"
noncomputable abbrev jxq (hk sealed:Array UInt8) (L:Nat):Array UInt8:=jg8 hk (picked sealed (some ((4-L:Nat):Int)) (some ((20-L:Nat):Int)))
theorem jj7 (hk hdr sealed:Array UInt8) (off L:Nat):(jr5 hk hdr sealed off L).size=hdr.size+sealed.size:=by
 unfold jr5
 rw [jdx,jd4,Array.size_append]
theorem jp3 {hk hdr sealed:Array UInt8} {off L:Nat} (ho:1≤off) (hs:hdr.size=off+L) (q:Nat) :
  gB (jr5 hk hdr sealed off L) q=if q=0 then gB hdr 0 ^^^ (gB (jxq hk sealed L) 0 % 32) else if off≤q∧q<off+L then gB hdr q ^^^ gB (jxq hk sealed L) (1+(q-off)) else gB (hdr++sealed) q:=by
 unfold jr5
 rw [jj4,jvv,jn3 _ _ _ _ (Nat.lt_trans (Nat.mod_lt _ (by decide)) (by decide)),jd4,Array.size_append,jh5]
 have sz0:0<hdr.size:=by rw [hs];exact Nat.lt_of_lt_of_le ho (Nat.le_add_right _ _)
 by_cases h0:q=0
 ·subst h0
  rw [if_neg (fun c=>absurd (Nat.le_trans ho c.1) (by decide)),if_pos ⟨rfl,Nat.lt_of_lt_of_le sz0 (Nat.le_add_right _ _)⟩,if_pos rfl,if_pos sz0]
 ·rw [if_neg h0,if_neg (show ¬ (q=0∧q<hdr.size+sealed.size) from fun c=>h0 c.1)]
  by_cases h1:off≤q∧q<off+L
  ·rw [if_pos ⟨h1.1,h1.2,Nat.lt_of_lt_of_le (hs.symm▸h1.2) (Nat.le_add_right _ _)⟩,if_pos h1,if_pos (hs.symm▸h1.2)]
  ·rw [if_neg (fun c=>h1 ⟨c.1,c.2.1⟩),if_neg h1]
noncomputable def m0n (p mk:Array UInt8):Nat:=if gB p 0<128 then gB mk 0 % 32 else gB mk 0 % 16
theorem kg8 (p mk:Array UInt8):m0I p mk=(m0n p mk:Int):=by
 unfold m0I m0n
 by_cases h:gB p 0<128
 ·rw [if_pos ((jq6 (jo4 p 0)).mpr h),if_pos h,jvv]
 ·rw [if_neg (fun c=>h ((jq6 (jo4 p 0)).mp c)),if_neg h,kl7]
theorem jy8 (p mk:Array UInt8):m0n p mk<32:=by
 unfold m0n;split
 ·exact Nat.mod_lt _ (by decide)
 ·exact Nat.lt_trans (Nat.mod_lt _ (by decide)) (by decide)
noncomputable def jzq (p mk:Array UInt8):Nat:=(gB p 0 ^^^ m0n p mk) % 4+1
theorem khk (p mk:Array UInt8):1≤jzq p mk∧jzq p mk≤4:=⟨Nat.succ_le_succ (Nat.zero_le _),Nat.mod_lt _ (by decide)⟩
theorem jxz {p mk:Array UInt8} (hp:0<p.size):gB (jl4 p 0 (m0I p mk)) 0 % 4+1=jzq p mk:=by
 rw [kg8,jn3 _ _ _ _ (Nat.lt_trans (jy8 ..) (by decide)),if_pos ⟨rfl,hp⟩];rfl
theorem kwq {p mk:Array UInt8} {off:Nat} (ho:1≤off) (hp:off+4≤p.size) :
  (ji2 p mk off).size=off+jzq p mk∧∀ q,gB (ji2 p mk off) q=if q<off+jzq p mk then (if q=0 then gB p 0 ^^^ m0n p mk else if off≤q then gB p q ^^^ gB mk (1+(q-off)) else gB p q) else 0:=by
 have hl:=khk p mk
 have p0:0<p.size:=Nat.lt_of_lt_of_le (Nat.lt_of_lt_of_le ho (Nat.le_add_right off 4)) hp
 have pl:off+jzq p mk≤p.size:=Nat.le_trans (Nat.add_le_add_left hl.2 off) hp
 unfold ji2
 rw [jxz p0]
 have h:=js5 (b:=jc1 (jl4 p 0 (m0I p mk)) off mk (jzq p mk)) (hi:=off+jzq p mk) (by rw [jdx,jd4];exact pl)
 refine ⟨h.1,fun q=>?_⟩
 rw [h.2 q]
 by_cases hq:q<off+jzq p mk
 ·rw [if_pos hq,if_pos hq,jj4,kg8,jn3 _ _ _ _ (Nat.lt_trans (jy8 ..) (by decide)),jd4]
  by_cases h0:q=0
  ·subst h0
   rw [if_neg (fun c=>absurd (Nat.le_trans ho c.1) (by decide)),if_pos ⟨rfl,p0⟩,if_pos rfl]
  ·rw [if_neg h0,if_neg (show ¬ (q=0∧q<p.size) from fun c=>h0 c.1)]
   by_cases h1:off≤q
   ·rw [if_pos ⟨h1,hq,Nat.lt_of_lt_of_le hq pl⟩,if_pos h1]
   ·rw [if_neg (fun c=>h1 c.1),if_neg h1]
 ·rw [if_neg hq,if_neg hq]
theorem s16 {off L:Nat} (hL4:L≤4):off+20-(off+4)=20-L-(4-L):=by
 rw [Nat.add_sub_add_left];walk_at "OM"
theorem i4 {off L:Nat} (hL4:L≤4) (q:Nat):off+4+q=off+L+(4-L+q):=by
 rw [Nat.add_assoc off L,← Nat.add_assoc L,Nat.add_sub_cancel' hL4,Nat.add_assoc]
theorem kd1 {p mk hk pl sealed:Array UInt8} {off L:Nat} (ho:1≤off) (hp:off+20≤p.size) (hL:1≤L) (hL4:L≤4)
  (hmk:mk=jg8 hk (picked p (some ((off+4:Nat):Int)) (some ((off+20:Nat):Int)))) (hh:ji2 p mk off=pl) (hd:picked p (some (pl.size:Nat)) none=sealed)
  (hs:pl.size=off+L) (h7:gB pl 0<128):p=jr5 hk pl sealed off L:=by
 refine xA (kwq (p:=p) (mk:=mk) ho (Nat.le_trans (Nat.add_le_add_left (by decide) off) hp)) fun z1 z2=>?_
 rw [hh] at z1 z2
 have hlen:jzq p mk=L:=Nat.add_left_cancel (z1.symm.trans hs)
 rw [hlen] at z2
 have hpl:pl.size≤p.size:=by rw [hs];exact Nat.le_trans (Nat.add_le_add_left (Nat.le_trans hL4 (by decide)) off) hp
 refine xA (jnv (b:=p) (lo:=pl.size) hpl) fun d1 d2=>?_
 rw [hd] at d1 d2
 have q0:=z2 0
 rw [if_pos (Nat.lt_of_lt_of_le ho (Nat.le_add_right _ _)),if_pos rfl] at q0
 have h128:gB p 0<128:=by
  have e:gB p 0=gB pl 0 ^^^ m0n p mk:=by rw [q0,ji6]
  rw [e]
  exact Nat.xor_lt_two_pow (n:=7) h7 (Nat.lt_trans (jy8 ..) (by decide))
 have hm0:m0n p mk=gB mk 0 % 32:=by unfold m0n;rw [if_pos h128]
 have h20:20-L≤sealed.size:=by rw [d1,hs];exact Nat.add_sub_add_left off 20 L▸Nat.sub_le_sub_right hp (off+L)
 have hmk2:jxq hk sealed L=mk:=by
  rw [hmk]
  unfold jxq
  congr 1
  refine xA (jgq (b:=sealed) (lo:=4-L) (hi:=20-L) (Nat.sub_le_sub_right (by decide) L) h20) fun a1 a2=>?_
  refine xA (jgq (b:=p) (lo:=off+4) (hi:=off+20) (Nat.add_le_add_left (by decide) off) hp) fun b1 b2=>?_
  refine jn4 (a1.trans ((s16 hL4).symm.trans b1.symm)) fun q hq=>?_
  rw [a1] at hq
  rw [a2,b2,if_pos hq,if_pos ((s16 (off:=off) hL4).symm▸hq),d2,if_pos (Nat.lt_of_lt_of_le (Nat.add_lt_of_lt_sub' hq) (Nat.le_trans h20 (Nat.le_of_eq d1))),i4 hL4,hs]
 refine jn4 (by rw [jj7,d1,Nat.add_sub_cancel' hpl]) fun q hq=>?_
 rw [jp3 ho hs,hmk2]
 by_cases h0:q=0
 ·subst h0;rw [if_pos rfl,q0,hm0,ji6]
 rw [if_neg h0]
 by_cases h1:off≤q∧q<off+L
 ·have:=z2 q
  rw [if_pos h1.2,if_neg h0,if_pos h1.1] at this
  rw [if_pos h1,this,ji6]
 rw [if_neg h1,jh5]
 by_cases h2:q<pl.size
 ·have:=z2 q
  rw [if_pos (hs▸h2),if_neg h0,if_neg (fun c=>h1 ⟨c,hs▸h2⟩)] at this
  rw [if_pos h2,this]
 ·rw [if_neg h2,d2,if_pos (Nat.sub_lt_sub_right (Nat.le_of_not_lt h2) hq),Nat.add_sub_cancel' (Nat.le_of_not_lt h2)]
theorem kl6 {v b:Nat} (hb:b<256):bitOr (b:Int) ((v*256:Nat):Int)=((v*256+b:Nat):Int):=by
 rw [bitOr_and,bitAnd_pp (Int.natCast_nonneg _) (Int.natCast_nonneg _),Int.toNat_natCast,Int.toNat_natCast]
 have:b &&& v*256=0:=by
  apply Nat.eq_of_testBit_eq
  intro i
  rw [Nat.testBit_and,Nat.zero_testBit]
  by_cases h:i<8
  ·have:(v*256).testBit i=false:=by
    rw [show v*256=v <<< 8 from (Nat.shiftLeft_eq v 8).symm,Nat.testBit_shiftLeft]
    simp;walk_at "OM"
   rw [this,Bool.and_false]
  ·have:b.testBit i=false:=Nat.testBit_lt_two_pow (Nat.lt_of_lt_of_le hb (Nat.pow_le_pow_right (n:=2) (by decide) (Nat.le_of_not_lt h)))
   rw [this,Bool.false_and]
 rw [this];walk_at "OM"
noncomputable def pnN (f:Nat->Nat):Nat->Nat
 | 0=>0
 | k+1=>pnN f k*256+f k
theorem kr0 {b:Array UInt8} {off:Nat} {mk:Array UInt8} {f:Nat->Nat}:∀ k,(∀ j,j<k->gB b (off+j) ^^^ gB mk (1+j)=f j∧off+j<b.size)->pnT b off mk k=(pnN f k:Int)
 | 0,_=>rfl
 | k+1,h=>by
  rw [pnT,kr0 k fun j hj=>h j (Nat.lt_succ_of_lt hj),jj4,if_pos ⟨Nat.le_add_right _ _,Nat.lt_succ_self (off+k),(h k (Nat.lt_succ_self k)).2⟩,Nat.add_sub_cancel_left,(h k (Nat.lt_succ_self k)).1]
  have hf:f k<256:=by rw [← (h k (Nat.lt_succ_self k)).1];exact jr9 (jo4 _ _) (jo4 _ _)
  show bitOr (f k:Int) ((pnN f k:Int)*256)=_
  rw [show (pnN f k:Int)*256=((pnN f k*256:Nat):Int) from (Int.natCast_mul _ 256).symm,kl6 hf]
  rfl
theorem be0 {y:Nat} (h:y<256):0*256+y % 256=y:=by rw [Nat.zero_mul,Nat.zero_add,Nat.mod_eq_of_lt h]
theorem beS {a y:Nat} (h:a=y / 256):a*256+y % 256=y:=by rw [h];exact Nat.div_add_mod' y 256
theorem pnN_BE {x:Nat} {L:Nat} (h2:2≤L) (h4:L≤4) (h:x<256 ^ L):pnN (fun j=>gB (BE L x) j) L=x:=by
 rcases oT h2 h4 with rfl | rfl | rfl
 ·show (0*256+gB (BE 2 x) 0)*256+gB (BE 2 x) 1=x
  rw [jn5 h (by decide),jn5 h (by decide)]
  have:x<65536:=h
  show (0*256+x / 256 % 256)*256+x / 1 % 256=x
  rw [Nat.div_one]
  exact beS (be0 (Nat.div_lt_of_lt_mul this))
 ·show ((0*256+gB (BE 3 x) 0)*256+gB (BE 3 x) 1)*256+gB (BE 3 x) 2=x
  rw [jn5 h (by decide),jn5 h (by decide),jn5 h (by decide)]
  have:x<16777216:=h
  show ((0*256+x / 65536 % 256)*256+x / 256 % 256)*256+x / 1 % 256=x
  rw [Nat.div_one]
  exact beS (beS ((be0 (Nat.div_lt_of_lt_mul this)).trans (Nat.div_div_eq_div_mul x 256 256).symm))
 ·show (((0*256+gB (BE 4 x) 0)*256+gB (BE 4 x) 1)*256+gB (BE 4 x) 2)*256+gB (BE 4 x) 3=x
  rw [jn5 h (by decide),jn5 h (by decide),jn5 h (by decide),jn5 h (by decide)]
  have:x<4294967296:=h
  show (((0*256+x / 16777216 % 256)*256+x / 65536 % 256)*256+x / 256 % 256)*256+x / 1 % 256=x
  rw [Nat.div_one]
  exact beS (beS ((beS ((be0 (Nat.div_lt_of_lt_mul this)).trans (Nat.div_div_eq_div_mul x 65536 256).symm)).trans (Nat.div_div_eq_div_mul x 256 256).symm))
theorem jvj {a b n:Nat} (hb:b<2 ^ n):bitOr ((a*2 ^ n:Nat):Int) (b:Int)=((a*2 ^ n+b:Nat):Int):=by
 rw [bitOr_and,bitAnd_pp (Int.natCast_nonneg _) (Int.natCast_nonneg _),Int.toNat_natCast,Int.toNat_natCast]
 have:a*2 ^ n &&& b=0:=by
  apply Nat.eq_of_testBit_eq
  intro i
  rw [Nat.testBit_and,Nat.zero_testBit]
  by_cases h:i<n
  ·have:(a*2 ^ n).testBit i=false:=by
    rw [← Nat.shiftLeft_eq,Nat.testBit_shiftLeft]
    simp;walk_at "OM"
   rw [this,Bool.false_and]
  ·have:b.testBit i=false:=Nat.testBit_lt_two_pow (Nat.lt_of_lt_of_le hb (Nat.pow_le_pow_right (n:=2) (by decide) (Nat.le_of_not_lt h)))
   rw [this,Bool.and_false]
 rw [this];walk_at "OM"
theorem jov (x n:Nat):bitAnd (x:Int) (bitNot ((2 ^ n:Nat)-1:Int))=((x / 2 ^ n*2 ^ n:Nat):Int):=by
 have hp:1≤2 ^ n:=Nat.one_le_two_pow
 have e:bitNot ((2 ^ n:Nat)-1:Int)<0:=by show -(((2 ^ n:Nat):Int)-1)-1<0;rw [nn];exact Int.neg_neg_of_pos (Int.ofNat_lt.mpr hp)
 unfold bitAnd
 rw [decide_eq_true (Int.natCast_nonneg x),decide_eq_false (Int.not_le.mpr e)]
 show (x:Int)-((Int.toNat (x:Int) &&& (-(-(((2 ^ n:Nat):Int)-1)-1)-1).toNat:Nat):Int)=_
 rw [show (-(-(((2 ^ n:Nat):Int)-1)-1)-1)=((2 ^ n-1:Nat):Int) by rw [nn,Int.neg_neg];exact (Int.ofNat_sub hp).symm,Int.toNat_natCast,Int.toNat_natCast,Nat.and_two_pow_sub_one_eq_mod]
 have:=Nat.div_add_mod x (2 ^ n)
 rw [Nat.mul_comm] at this
 exact sb this
theorem ky1 {tr n ex N:Nat} (hn:16≤n) (hn2:n≤32) (htr:tr=N % 2 ^ n) (he:ex / 2 ^ n=N / 2 ^ n) (h1:N<ex+1000) (h2:ex<N+1000):jv2 (tr:Int) (n:Int) (ex:Int)=(N:Int):=by
 have hp:2 ^ 16≤2 ^ n:=Nat.pow_le_pow_right (by decide) hn
 have hp2:2 ^ n≤2 ^ 32:=Nat.pow_le_pow_right (by decide) hn2
 have hlt:tr<2 ^ n:=by rw [htr];exact Nat.mod_lt _ (Nat.two_pow_pos n)
 have e1:(1*2 ^ (Int.toNat (n:Int)):Int)=((2 ^ n:Nat):Int):=by rw [Int.toNat_natCast,Int.one_mul];push_cast;rfl
 have c:jl9 (tr:Int) (n:Int) (ex:Int)=(N:Int):=by
  unfold jl9
  rw [e1,jov,jvj hlt,he,htr]
  have:=Nat.div_add_mod N (2 ^ n)
  rw [Nat.mul_comm] at this
  rw [this]
 unfold jv2
 rw [c,e1]
 have f:(((2 ^ n:Nat):Int)).fdiv 2=((2 ^ n:Nat):Int) / 2:=Int.fdiv_eq_ediv_of_nonneg _ (by decide)
 rw [f]
 generalize 2 ^ n=W at *
 rw [if_neg (dl1 h2 hp),if_neg (dl2 h1 hp)]
set_option genInjectivity false
set_option genSizeOf false
structure jf7 where
 frm:Nat
 turn:Nat
 number:Nat
 plain:Array UInt8
 octets:Array UInt8
 packet:Array UInt8
noncomputable abbrev jdq (b:Nat):Nat:=1000+5000*b
noncomputable abbrev jo3 (suite:Int) (b:Nat):Array UInt8:=BE (ksz suite).toNat (4*jdq b+2)
noncomputable def jw3 (suite:Int) (i:Nat) (S:jf7):Row:=⟨je3 suite,BE (ksz suite).toNat (4*(jdq S.frm+S.turn)),BE 12 (bitXor ((4*(jdq S.frm+S.turn)+1:Nat):Int) (S.number:Int)).toNat,S.plain,S.octets++BE 16 (i+1),S.octets⟩
structure jh7 (suite:Int) (off L first i:Nat) (S:jf7):Prop where
 b:S.frm<2
 t:S.turn≤30
 n1:first≤S.number
 n2:S.number<first+30
 ps:S.plain.size=off+L
 p0:gB S.plain 0=64+4*(S.turn % 2)+L-1
 pn:∀ q,q<L->gB S.plain (off+q)=gB (BE L (S.number % 256 ^ L)) q
 o1:2≤S.octets.size
 o2:S.octets.size≤10
 pk:S.packet=jr5 (jo3 suite S.frm) S.plain (S.octets++BE 16 (i+1)) off L
structure jf6 (suite:Int) (off L first:Nat) (rows:List Row) (sent:List jf7):Prop where
 len:rows.length=sent.length
 le:sent.length≤30
 ok:∀ i S,sent[i]?=some S->jh7 suite off L first i S
 row:∀ i S,sent[i]?=some S->rows[i]?=some (jw3 suite i S)
 inj:∀ (i j:Nat) (S S':jf7),sent[i]?=some S->sent[j]?=some S'->S.frm=S'.frm->S.number=S'.number->i=j
theorem kh5 (suite:Int):(ksz suite).toNat=32∨(ksz suite).toNat=16:=by
 rcases kr9 suite with h | h <;> rw [h]
 ·exact .inl rfl
 ·exact .inr rfl
theorem kr7 {n k:Nat} (hk:k=32∨k=16) (h:n<2 ^ 40):n<256 ^ k:=by
 rcases hk with rfl | rfl
 ·exact Nat.lt_of_lt_of_le h (by decide)
 ·exact Nat.lt_of_lt_of_le h (by decide)
section
variable {suite:Int} {off L first:Nat} {rows:List Row} {sent:List jf7}
theorem kfk {i:Nat} {S:jf7} (A:jf6 suite off L first rows sent) (h:sent[i]?=some S):i<30:=by
 have:=(List.getElem?_eq_some_iff.mp h).1
 have:=A.le
 walk_at "OM"
theorem jn7 {p mk hdr:Array UInt8} {b t:Nat} {pn:Int} {r:Row} (A:jf6 suite off L first rows sent) (ho:1≤off) (hL:2≤L) (hL4:L≤4) (hp:off+20≤p.size) (hb:b<2) (ht:t≤31)
  (hmk:mk=jg8 (jo3 suite b) (picked p (some ((off+4:Nat):Int)) (some ((off+20:Nat):Int)))) (hh:ji2 p mk off=hdr) (h:je1 rows suite (jdq b+t) pn hdr p=some r) :
  ∃ i S,sent[i]?=some S∧r=jw3 suite i S∧S.frm=b∧S.turn=t∧p=S.packet:=by
 unfold je1 at h
 have hm:=List.mem_of_find?_eq_some h
 have hq:=List.find?_some h
 refine xE (List.mem_iff_getElem?.mp hm) fun i hi=>?_
 have hlt:i<sent.length:=by rw [← A.len];exact (List.getElem?_eq_some_iff.mp hi).1
 have hS:sent[i]?=some sent[i]:=List.getElem?_eq_getElem hlt
 generalize sent[i]=S at hS
 have hr:=A.row i S hS
 rw [hi] at hr
 obtain rfl:=Option.some.inj hr
 have ok:=A.ok i S hS
 unfold jh3 jw3 at hq
 simp only [Bool.and_eq_true,beq_iff_eq] at hq
 refine xA hq fun zq147 h4=>?_
 try clear hq
 obtain ⟨⟨⟨_,hk⟩,_⟩,h3⟩:=zq147
 have b1:=ok.b
 have t1:=ok.t
 have hk2:=kvk (kr7 (kh5 suite) (by unfold jdq;walk_at "OM")) (kr7 (kh5 suite) (by unfold jdq;walk_at "OM")) hk
 have hbb:S.frm=b∧S.turn=t:=by unfold jdq at hk2;walk_at "OM"
 refine (kx6 i S hS rfl hbb.1 hbb.2 (?_))
 rw [ok.pk,hbb.1]
 refine kd1 ho hp (by walk_at "OM") hL4 hmk (hh.trans h3.symm) ?_ ok.ps ?_
 ·rw [← h3] at h4;exact h4.symm
 ·rw [ok.p0];walk_at "OM"
theorem jyj:∀ (a b:List UInt8) (k:Nat),a.length=b.length->(∀ q,q≠k->a.getD q 0=b.getD q 0)->(a.map fun c=>c.toNat).sum+(b.getD k 0).toNat=(b.map fun c=>c.toNat).sum+(a.getD k 0).toNat
 | [],[],k,_,_=>rfl
 | [],_::_,_,h,_=>by cases h
 | _::_,[],_,h,_=>by cases h
 | x::a,y::b,0,h,hq=>by
  have e:a=b:=by
   refine List.ext_getElem (by simpa using h) fun q h1 h2=>?_
   have:=hq (q+1) (by walk_at "OM")
   simpa [List.getD_eq_getElem?_getD,h1,h2] using this
  subst e
  simp only [List.map_cons,List.sum_cons,List.getD_cons_zero]
  walk_at "OM"
 | x::a,y::b,k+1,h,hq=>by
  have ih:=jyj a b k (by simpa using h) fun q hk=>by
   have:=hq (q+1) (by walk_at "OM")
   simpa using this
  have e:x=y:=by simpa using hq 0 (by walk_at "OM")
  subst e
  simp only [List.map_cons,List.sum_cons,List.getD_cons_succ]
  walk_at "OM"
theorem ke9 {a b:Array UInt8} {k:Nat} (hs:a.size=b.size) (h:∀ q,q≠k->gB a q=gB b q):sumB a+gB b k=sumB b+gB a k:=by
 unfold sumB
 rw [jk4,jk4]
 refine jyj _ _ _ (by simpa using hs) fun q hq=>?_
 have:=h q hq
 rw [jk4,jk4] at this
 exact UInt8.toNat_inj.mp this
theorem kc6 {key a b:Array UInt8} {d:Nat} (h:sumB a=sumB b+d) (hd:0<d) (hd2:d<256):ji3 key a 1≠ji3 key b 1:=by
 unfold ji3
 rw [js0,js0,h,Int.fmod_eq_emod_of_nonneg _ (by decide),Int.fmod_eq_emod_of_nonneg _ (by decide)]
 generalize 5*kx1 key=z
 exact md7 hd hd2
theorem jq1 {first n:Nat} (hf:first=0∨first=51200∨first=1048576) (h1:first≤n) (h2:n<first+30):n % 65536 / 256 % 256=first % 65536 / 256 % 256:=by
 refine xE (Nat.exists_eq_add_of_le h1) fun k zq146=>?_
 obtain rfl:=zq146
 have hk:k<30:=Nat.lt_of_add_lt_add_left h2
 rcases hf with rfl | rfl | rfl
 ·exact (by decide +kernel:∀ k:Fin 30,(0+k.val) % 65536 / 256 % 256=0 % 65536 / 256 % 256) ⟨k,hk⟩
 ·exact (by decide +kernel:∀ k:Fin 30,(51200+k.val) % 65536 / 256 % 256=51200 % 65536 / 256 % 256) ⟨k,hk⟩
 ·exact (by decide +kernel:∀ k:Fin 30,(1048576+k.val) % 65536 / 256 % 256=1048576 % 65536 / 256 % 256) ⟨k,hk⟩
theorem nm1 {off L q:Nat} (ho:1≤off):¬ off+L+q=0:=fun e=>absurd (Nat.le_trans ho (Nat.le_trans (Nat.le_add_right off L) (Nat.le_add_right _ q))) (by rw [e];decide)
theorem nm2 {off L q:Nat}:¬ (off≤off+L+q∧off+L+q<off+L):=fun e=>absurd e.2 (Nat.not_lt_of_le (Nat.le_add_right _ _))
theorem kjj {a b:Array UInt8} {n q:Nat} (h:a.size=n):gB (a++b) (n+q)=gB b q:=by
 rw [jh5,h,if_neg (Nat.not_lt_of_le (Nat.le_add_right _ _)),Nat.add_sub_cancel_left]
theorem ko6 {hk hdr sealed:Array UInt8} (ho:1≤off) (hs:hdr.size=off+L) (q:Nat):gB (jr5 hk hdr sealed off L) (off+L+q)=gB sealed q:=by
 rw [jp3 ho hs,if_neg (nm1 ho),if_neg nm2,kjj hs]
theorem kh4 {o:Array UInt8} {n i:Nat} (hn:o.size=n) (li:i<30):gB (o++BE 16 (i+1)) (n+15)=i+1:=by
 have l2:i+1<256:=Nat.lt_of_le_of_lt (Nat.succ_le_of_lt li) (by decide)
 rw [kjj hn,jn5 (Nat.lt_of_lt_of_le l2 (by decide)) (by decide)]
 simp only [Nat.reduceSub,Nat.pow_zero,Nat.div_one]
 exact Nat.mod_eq_of_lt l2
theorem kjx {hk hdr sealed:Array UInt8} {q:Nat} (ho:1≤off) (hs:hdr.size=off+L) (h2:q<L):gB (jr5 hk hdr sealed off L) (off+q)=gB hdr (off+q) ^^^ gB (jxq hk sealed L) (1+q):=by
 rw [jp3 ho hs,if_neg (fun e=>absurd (Nat.le_trans ho (Nat.le_add_right off q)) (by rw [e];decide)),if_pos ⟨Nat.le_add_right _ _,Nat.add_lt_add_left h2 _⟩,Nat.add_sub_cancel_left]
theorem lo_hi {n:Nat} (hn:2≤n) (hL:2≤L):4-L≤20-L∧20-L≤n+16:=⟨Nat.sub_le_sub_right (by decide) L,Nat.le_trans (Nat.sub_le_sub_left hL 20) (Nat.add_le_add_right hn 16)⟩
theorem gB_num {hk hdr sealed:Array UInt8} {q:Nat} (ho:1≤off) (hs:hdr.size=off+L) (h1:off≤q) (h2:q<off+L):gB (jr5 hk hdr sealed off L) q=gB hdr q ^^^ gB (jxq hk sealed L) (1+(q-off)):=by
 rw [jp3 ho hs,if_neg (by walk_at "OM"),if_pos ⟨h1,h2⟩]
theorem jy7 {key a b:Array UInt8} {i j:Nat} (h:sumB a+(j+1)=sumB b+(i+1)) (hij:j<i) (li:i<30):ji3 key a 1≠ji3 key b 1:=by
 refine kc6 (d:=i-j) ?_ (Nat.sub_pos_of_lt hij) (Nat.lt_of_le_of_lt (Nat.sub_le i j) (Nat.lt_trans li (by decide)))
 walk_at "OM"
theorem kk4 {W x y r N N':Nat} (hW:65536≤W) (d1:W*x+r=N) (d2:W*y+r=N') (h1:first≤N) (h2:N'<first+30):¬ x<y:=fun h=>by
 have:W*(x+1)≤W*y:=Nat.mul_le_mul_left _ h
 rw [Nat.mul_add] at this
 exact fo hW d1 d2 h1 h2 this
theorem apart {i j:Nat} {S S':jf7} {k0:Nat} (A:jf6 suite off L first rows sent) (ho:1≤off) (hL:2≤L) (hL4:L≤4) (hf:first=0∨first=51200∨first=1048576)
  (hS:sent[i]?=some S) (hS':sent[j]?=some S') (hb:S.frm=S'.frm) (hs:S.packet.size=S'.packet.size) (hq:∀ q,q≠k0->gB S.packet q=gB S'.packet q):i=j:=by
 have li:=kfk A hS
 have lj:=kfk A hS'
 have a:=A.ok i S hS
 have c:=A.ok j S' hS'
 by_cases hij:i=j
 ·exact hij
 exfalso
 have sz:S.octets.size=S'.octets.size:=by
  rw [a.pk,c.pk,jj7,jj7,Array.size_append,Array.size_append,jdk,jdk,a.ps,c.ps] at hs
  exact Nat.add_right_cancel (Nat.add_left_cancel hs)
 obtain ⟨n,hn⟩:∃ n,S.octets.size=n:=⟨_,rfl⟩
 have hn':S'.octets.size=n:=sz.symm.trans hn
 have o1:=a.o1
 have o2:=a.o2
 have g1:∀ q,gB S.packet q=gB (jr5 (jo3 suite S.frm) S.plain (S.octets++BE 16 (i+1)) off L) q:=fun q=>by rw [a.pk]
 have g2:∀ q,gB S'.packet q=gB (jr5 (jo3 suite S'.frm) S'.plain (S'.octets++BE 16 (j+1)) off L) q:=fun q=>by rw [c.pk]
 obtain ⟨se,hse⟩:∃ x,S.octets++BE 16 (i+1)=x:=⟨_,rfl⟩
 obtain ⟨se',hse'⟩:∃ x,S'.octets++BE 16 (j+1)=x:=⟨_,rfl⟩
 rw [hse] at g1
 rw [hse'] at g2
 have z1:se.size=n+16:=by rw [← hse,Array.size_append,jdk,hn]
 have z2:se'.size=n+16:=by rw [← hse',Array.size_append,jdk,hn']
 have s1:∀ q,gB S.packet (off+L+q)=gB se q:=fun q=>by
  rw [g1,ko6 ho a.ps]
 have s2:∀ q,gB S'.packet (off+L+q)=gB se' q:=fun q=>by
  rw [g2,ko6 ho c.ps]
 have last1:gB se (n+15)=i+1:=by rw [← hse];exact kh4 hn li
 have last2:gB se' (n+15)=j+1:=by rw [← hse'];exact kh4 hn' lj
 have hk0:k0=off+L+(n+15):=by
  by_cases e:off+L+(n+15)=k0
  ·exact e.symm
  ·have:=hq _ e
   rw [s1,s2,last1,last2] at this
   exact absurd (Nat.succ.inj this) hij
 have sd:∀ q,q≠n+15->gB se q=gB se' q:=fun q h=>by rw [← s1,← s2];exact hq _ (fun e=>h (Nat.add_left_cancel (e.trans hk0)))
 have lh:=lo_hi (hn▸o1) hL
 refine xA (jgq (b:=se) (lo:=4-L) (hi:=20-L) lh.1 (z1▸lh.2)) fun p1 p2=>?_
 refine xA (jgq (b:=se') (lo:=4-L) (hi:=20-L) lh.1 (z2▸lh.2)) fun p3 p4=>?_
 by_cases hin:n+15<20-L
 ·
  have hn2':2≤n:=hn▸o1
  have hL2:L=2:=Nat.le_antisymm (Nat.le_of_not_lt fun q:2<L=>absurd (Nat.lt_of_lt_of_le hin (Nat.sub_le_sub_left q 20)) (Nat.not_lt_of_le (Nat.add_le_add_right hn2' 15))) hL
  subst hL2
  have hn2:n=2:=Nat.le_antisymm (Nat.le_of_lt_succ (Nat.lt_of_add_lt_add_right (show n+15<3+15 from hin))) hn2'
  subst hn2
  have sm:=ke9 (k:=15) (a:=picked se (some ((4-2:Nat):Int)) (some ((20-2:Nat):Int))) (b:=picked se' (some ((4-2:Nat):Int)) (some ((20-2:Nat):Int))) (by rw [p1,p3]) fun q h=>by
   rw [p2,p4]
   by_cases hq16:q<20-2-(4-2)
   ·rw [if_pos hq16,if_pos hq16];exact sd _ (fun e=>h (Nat.add_left_cancel (n:=2) e))
   ·rw [if_neg hq16,if_neg hq16]
  rw [p2,p4,if_pos (by decide),if_pos (by decide),show 4-2+15=2+15 from rfl,last1,last2] at sm
  have e:=hq (off+0) (fun e=>absurd (Nat.add_left_cancel (n:=off) ((e.trans hk0).trans (Nat.add_assoc ..))) (by decide))
  rw [g1,g2,kjx ho a.ps (by decide),kjx ho c.ps (by decide)] at e
  have f1:=a.pn 0 (by decide)
  have f2:=c.pn 0 (by decide)
  rw [jn5 (Nat.mod_lt _ (by decide)) (by decide)] at f1 f2
  rw [Nat.add_zero] at f1 f2 e
  have h1:=jq1 hf a.n1 a.n2
  have h2:=jq1 hf c.n1 c.n2
  have f3:gB S.plain off=gB S'.plain off:=by rw [f1,f2];exact h1.trans h2.symm
  rw [f3] at e
  have e2:gB (jxq (jo3 suite S.frm) se 2) 1=gB (jxq (jo3 suite S'.frm) se' 2) 1:=by
   have:=congrArg (fun x=>gB S'.plain off ^^^ x) e
   simpa only [← Nat.xor_assoc,Nat.xor_self,Nat.zero_xor] using this
  rw [hb,kjz _ _ (by decide),kjz _ _ (by decide)] at e2
  have e3:ji3 (jo3 suite S'.frm) (picked se (some ((4-2:Nat):Int)) (some ((20-2:Nat):Int))) 1=ji3 (jo3 suite S'.frm) (picked se' (some ((4-2:Nat):Int)) (some ((20-2:Nat):Int))) 1:=by
   have y1:=(jrw (jo3 suite S'.frm) (picked se (some ((4-2:Nat):Int)) (some ((20-2:Nat):Int))) ((1:Nat):Int)).1
   have y2:=(jrw (jo3 suite S'.frm) (picked se' (some ((4-2:Nat):Int)) (some ((20-2:Nat):Int))) ((1:Nat):Int)).1
   show ji3 _ _ ((1:Nat):Int)=ji3 _ _ ((1:Nat):Int)
   rw [← Int.toNat_of_nonneg y1,← Int.toNat_of_nonneg y2,e2]
  rcases Nat.lt_or_gt_of_ne hij with h | h
  ·exact jy7 sm.symm h lj e3.symm
  ·exact jy7 sm h li e3
 ·
  have hm:jxq (jo3 suite S.frm) se L=jxq (jo3 suite S'.frm) se' L:=by
   rw [hb]
   unfold jxq
   congr 1
   refine jn4 (p1.trans p3.symm) fun q h=>?_
   rw [p1] at h
   rw [p2,p4,if_pos h,if_pos h]
   exact sd _ (Nat.ne_of_lt (Nat.lt_of_lt_of_le (Nat.add_lt_of_lt_sub' h) (Nat.le_of_not_lt hin)))
  have hnum:BE L (S.number % 256 ^ L)=BE L (S'.number % 256 ^ L):=by
   refine jn4 (by rw [jdk,jdk]) fun q h=>?_
   rw [jdk] at h
   rw [← a.pn q h,← c.pn q h]
   have e:=hq (off+q) (fun e=>absurd (Nat.add_left_cancel (n:=off) ((e.trans hk0).trans (Nat.add_assoc ..))) (Nat.ne_of_lt (Nat.lt_of_lt_of_le h (Nat.le_add_right _ _))))
   rw [g1,g2,kjx ho a.ps h,kjx ho c.ps h,hm] at e
   have:=congrArg (fun x=>x ^^^ gB (jxq (jo3 suite S'.frm) se' L) (1+q)) e
   simpa only [ji6] using this
  have hW:65536≤256 ^ L:=Nat.le_trans (by decide) (Nat.pow_le_pow_right (n:=256) (by decide) hL)
  have hW0:=Nat.lt_of_lt_of_le (by decide:0<65536) hW
  have e:=kvk (Nat.mod_lt _ hW0) (Nat.mod_lt _ hW0) hnum
  have n1:=a.n1
  have n2:=a.n2
  have n3:=c.n1
  have n4:=c.n2
  have d1:=Nat.div_add_mod S.number (256 ^ L)
  have d2:=Nat.div_add_mod S'.number (256 ^ L)
  have en:S.number=S'.number:=by
   rw [e] at d1
   generalize hA:S.number / 256 ^ L=x at d1
   generalize hB:S'.number / 256 ^ L=y at d2
   generalize 256 ^ L=W at *
   rcases Nat.lt_trichotomy x y with h | h | h
   ·exact absurd h (kk4 hW d1 d2 n1 n4)
   ·rw [h] at d1;exact d1.symm.trans d2
   ·exact absurd h (kk4 hW d2 d1 n3 n2)
  exact hij (A.inj i j S S' hS hS' hb en)
end
section
variable {suite:Int} {off L first:Nat} {rows:List Row} {sent:List jf7}
noncomputable abbrev jdz (suite:Int) (b off:Nat) (p:Array UInt8):Array UInt8:=jg8 (jo3 suite b) (picked p (some ((off+4:Nat):Int)) (some ((off+20:Nat):Int)))
theorem jcw {i:Nat} {S:jf7} (a:jh7 suite off L first i S):S.packet.size=off+L+S.octets.size+16:=by
 rw [a.pk,jj7,Array.size_append,jdk,a.ps];walk_at "OM"
theorem kr1 {i:Nat} {S:jf7} (a:jh7 suite off L first i S) (hL:2≤L):off+20≤S.packet.size:=by
 rw [jcw a];exact Nat.add_le_add_right (Nat.add_le_add (Nat.add_le_add_left hL off) a.o1) 16
theorem l234 (hL:2≤L) (hL4:L≤4):L=2∨L=3∨L=4:=by walk_at "OM"
theorem jrk {i:Nat} {S:jf7} (a:jh7 suite off L first i S) (ho:1≤off) (hL:2≤L) (hL4:L≤4):jdz suite S.frm off S.packet=jxq (jo3 suite S.frm) (S.octets++BE 16 (i+1)) L:=by
 have sz:=jcw a
 have o1:=a.o1
 have zs:(S.octets++BE 16 (i+1)).size=S.octets.size+16:=by rw [Array.size_append,jdk]
 unfold jdz jxq
 congr 1
 refine xA (jgq (b:=S.packet) (lo:=off+4) (hi:=off+20) (Nat.add_le_add_left (by decide) off) (kr1 a hL)) fun a1 a2=>?_
 have lh:=lo_hi o1 hL
 refine xA (jgq (b:=S.octets++BE 16 (i+1)) (lo:=4-L) (hi:=20-L) lh.1 (zs▸lh.2)) fun b1 b2=>?_
 refine jn4 (a1.trans ((s16 hL4).trans b1.symm)) fun q hq=>?_
 rw [a1] at hq
 rw [a2,b2,if_pos hq,if_pos (s16 (off:=off) hL4▸hq),a.pk,i4 hL4,ko6 ho a.ps]
theorem kr6 {i:Nat} {S:jf7} (a:jh7 suite off L first i S) (ho:1≤off) (hL:2≤L) (hL4:L≤4):gB S.packet 0 ^^^ m0n S.packet (jdz suite S.frm off S.packet)=gB S.plain 0:=by
 have g0:gB S.packet 0=gB S.plain 0 ^^^ (gB (jxq (jo3 suite S.frm) (S.octets++BE 16 (i+1)) L) 0 % 32):=by rw [a.pk,jp3 ho a.ps,if_pos rfl]
 have h7:gB S.plain 0<128:=by rw [a.p0];walk_at "OM"
 have h8:gB S.packet 0<128:=by rw [g0];exact Nat.xor_lt_two_pow (n:=7) h7 (Nat.lt_trans (Nat.mod_lt _ (by decide)) (by decide))
 unfold m0n
 rw [if_pos h8,jrk a ho hL hL4,g0,ji6]
theorem khv {i:Nat} {S:jf7} (a:jh7 suite off L first i S) (ho:1≤off) (hL:2≤L) (hL4:L≤4):jzq S.packet (jdz suite S.frm off S.packet)=L:=by
 unfold jzq
 rw [kr6 a ho hL hL4,a.p0];walk_at "OM"
theorem jr2 {i:Nat} {S:jf7} (a:jh7 suite off L first i S) (ho:1≤off) (hL:2≤L) (hL4:L≤4):ji2 S.packet (jdz suite S.frm off S.packet) off=S.plain:=by
 have sz:=jcw a
 refine xA (kwq (p:=S.packet) (mk:=jdz suite S.frm off S.packet) ho (Nat.le_trans (Nat.add_le_add_left (by decide) off) (kr1 a hL))) fun z1 z2=>?_
 rw [khv a ho hL hL4] at z1 z2
 refine jn4 (by rw [z1,a.ps]) fun q hq=>?_
 rw [z1] at hq
 rw [z2,if_pos hq]
 by_cases h0:q=0
 ·subst h0;rw [if_pos rfl,kr6 a ho hL hL4]
 rw [if_neg h0]
 by_cases h1:off≤q
 ·rw [if_pos h1,jrk a ho hL hL4,a.pk,gB_num ho a.ps h1 hq,ji6]
 ·rw [if_neg h1,a.pk,jp3 ho a.ps,if_neg h0,if_neg (fun c=>h1 c.1),jh5,a.ps,if_pos hq]
theorem kp0 {i:Nat} {S:jf7} (a:jh7 suite off L first i S) (ho:1≤off):picked S.packet (some (S.plain.size:Nat)) none=S.octets++BE 16 (i+1):=by
 have sz:=jcw a
 obtain ⟨d1,d2⟩:=jnv (b:=S.packet) (lo:=S.plain.size) (by rw [a.ps,sz,Nat.add_assoc];exact Nat.le_add_right _ _)
 refine jn4 (by rw [d1,a.ps,Array.size_append,jdk,sz,Nat.add_assoc,Nat.add_sub_cancel_left]) fun q hq=>?_
 rw [d1] at hq
 rw [d2,if_pos hq,a.ps,a.pk,ko6 ho a.ps]
theorem pn_own {i:Nat} {S:jf7} (a:jh7 suite off L first i S) (ho:1≤off) (hL:2≤L) (hL4:L≤4):jyw S.packet (jdz suite S.frm off S.packet) off=((S.number % 256 ^ L:Nat):Int):=by
 have sz:=jcw a
 unfold jyw
 have e:gB (jl4 S.packet 0 (m0I S.packet (jdz suite S.frm off S.packet))) 0 % 4+1=L:=by rw [jxz (Nat.lt_of_lt_of_le (by decide) (Nat.le_trans (Nat.le_add_left 20 off) (kr1 a hL))),khv a ho hL hL4]
 rw [e,kr0 (f:=fun j=>gB (BE L (S.number % 256 ^ L)) j) L fun j hj=>?_,pnN_BE hL hL4 (Nat.mod_lt _ (Nat.pow_pos (by decide)))]
 refine ⟨?_,by rw [jd4,sz,Nat.add_assoc];exact Nat.lt_of_lt_of_le (Nat.add_lt_add_left hj off) (Nat.le_add_right _ _)⟩
 rw [kg8,jn3 _ _ _ _ (Nat.lt_trans (jy8 ..) (by decide)),if_neg (fun c=>absurd (Nat.le_trans ho (Nat.le_add_right off j)) (by rw [c.1];decide)),jrk a ho hL hL4,a.pk,kjx ho a.ps hj,ji6,a.pn j hj]
theorem je6 {F D ex N:Nat} (h:∀ k:Fin 60,(F+k.val) / D=F / D) (h1:F≤ex) (h2:ex<F+60) (h3:F≤N) (h4:N<F+60):ex / D=N / D:=by
 refine xE (Nat.exists_eq_add_of_le h1) fun k zq152=>?_
 obtain rfl:=zq152
 refine xE (Nat.exists_eq_add_of_le h3) fun k' zq151=>?_
 obtain rfl:=zq151
 exact (h ⟨k,Nat.lt_of_add_lt_add_left h2⟩).trans (h ⟨k',Nat.lt_of_add_lt_add_left h4⟩).symm
theorem kwv {L ex N:Nat} (hL:2≤L) (hL4:L≤4) (hf:first=0∨first=51200∨first=1048576) (h1:first≤ex) (h2:ex<first+60) (h3:first≤N) (h4:N<first+60):ex / 2 ^ (8*L)=N / 2 ^ (8*L):=by
 rcases l234 hL hL4 with rfl | rfl | rfl <;> rcases hf with rfl | rfl | rfl
 ·exact je6 (by decide +kernel:∀ k:Fin 60,(0+k.val) / 2 ^ (8*2)=0 / 2 ^ (8*2)) h1 h2 h3 h4
 ·exact je6 (by decide +kernel:∀ k:Fin 60,(51200+k.val) / 2 ^ (8*2)=51200 / 2 ^ (8*2)) h1 h2 h3 h4
 ·exact je6 (by decide +kernel:∀ k:Fin 60,(1048576+k.val) / 2 ^ (8*2)=1048576 / 2 ^ (8*2)) h1 h2 h3 h4
 ·exact je6 (by decide +kernel:∀ k:Fin 60,(0+k.val) / 2 ^ (8*3)=0 / 2 ^ (8*3)) h1 h2 h3 h4
 ·exact je6 (by decide +kernel:∀ k:Fin 60,(51200+k.val) / 2 ^ (8*3)=51200 / 2 ^ (8*3)) h1 h2 h3 h4
 ·exact je6 (by decide +kernel:∀ k:Fin 60,(1048576+k.val) / 2 ^ (8*3)=1048576 / 2 ^ (8*3)) h1 h2 h3 h4
 ·exact je6 (by decide +kernel:∀ k:Fin 60,(0+k.val) / 2 ^ (8*4)=0 / 2 ^ (8*4)) h1 h2 h3 h4
 ·exact je6 (by decide +kernel:∀ k:Fin 60,(51200+k.val) / 2 ^ (8*4)=51200 / 2 ^ (8*4)) h1 h2 h3 h4
 ·exact je6 (by decide +kernel:∀ k:Fin 60,(1048576+k.val) / 2 ^ (8*4)=1048576 / 2 ^ (8*4)) h1 h2 h3 h4
theorem ky0 {i ex:Nat} {S:jf7} (a:jh7 suite off L first i S) (ho:1≤off) (hL:2≤L) (hL4:L≤4) (hf:first=0∨first=51200∨first=1048576) (h1:first≤ex) (h2:ex<first+60) :
  jv2 (jyw S.packet (jdz suite S.frm off S.packet) off) ((L:Int)*8) (ex:Int)=(S.number:Int):=by
 have n1:=a.n1
 have n2:=a.n2
 have e:(256:Nat) ^ L=2 ^ (8*L):=by rw [Nat.pow_mul]
 rw [pn_own a ho hL hL4,show (L:Int)*8=((8*L:Nat):Int) from (Int.mul_comm _ _).trans (Int.natCast_mul 8 L).symm,e]
 exact ky1 (Nat.mul_le_mul_left 8 hL) (Nat.mul_le_mul_left 8 hL4) rfl (kwv hL hL4 hf h1 h2 n1 (Nat.lt_trans n2 (Nat.add_lt_add_left (by decide) first))) (Nat.lt_of_lt_of_le n2 (Nat.add_le_add h1 (by decide))) (Nat.lt_of_lt_of_le h2 (Nat.add_le_add n1 (by decide)))
theorem krw {i T:Nat} {S:jf7} (a:jh7 suite off L first i S) (hL:2≤L) (hL4:L≤4):kb7 S.plain ((T % 2:Nat):Int)=decide (S.turn % 2≠T % 2):=by
 unfold kb7
 rw [a.p0]
 rcases l234 hL hL4 with rfl | rfl | rfl <;> rcases Nat.mod_two_eq_zero_or_one S.turn with h | h <;> rcases Nat.mod_two_eq_zero_or_one T with h' | h' <;> rw [h,h'] <;> decide +kernel
theorem kv9 {i:Nat} {S:jf7} (A:jf6 suite off L first rows sent) (hS:sent[i]?=some S) (ho:1≤off) (hL:2≤L) (hL4:L≤4) (hf:first=0∨first=51200∨first=1048576) :
  je1 rows suite (jdq S.frm+S.turn) (S.number:Int) S.plain S.packet=some (jw3 suite i S):=by
 have a:=A.ok i S hS
 have sz:=jcw a
 have o1:=a.o1
 have hr:=A.row i S hS
 have q:jh3 (je3 suite) (BE (ksz suite).toNat (4*(jdq S.frm+S.turn))) (BE 12 (bitXor ((4*(jdq S.frm+S.turn)+1:Nat):Int) (S.number:Int)).toNat) S.plain (picked S.packet (some (S.plain.size:Nat)) none) (jw3 suite i S)=true:=by
  rw [kp0 a ho]
  unfold jh3 jw3
  simp
 cases h:je1 rows suite (jdq S.frm+S.turn) (S.number:Int) S.plain S.packet with
 | none =>
  have:=List.find?_eq_none.mp h _ (List.mem_of_getElem? hr)
  exact absurd q this
 | some r =>
  refine jv4 (jn7 A ho hL hL4 (kr1 a hL) a.b (Nat.le_succ_of_le a.t) rfl (jr2 a ho hL hL4) h) fun j S' hS' zq150 hb ht hp=>?_
  obtain rfl:=zq150
  obtain rfl:=apart (k0:=0) A ho hL hL4 hf hS hS' hb.symm (by rw [hp]) (fun q _=>by rw [hp])
  rw [hS] at hS'
  rw [Option.some.inj hS']
theorem jw6 {i T:Nat} {S:jf7} (A:jf6 suite off L first rows sent) (hS:sent[i]?=some S) (ho:1≤off) (hL:2≤L) (hL4:L≤4) (hf:first=0∨first=51200∨first=1048576) (hr:S.turn=T∨S.turn=T+1) :
  kb7 S.plain ((T % 2:Nat):Int)=decide (S.turn≠T)∧je1 rows suite (if kb7 S.plain ((T % 2:Nat):Int) then jdq S.frm+T+1 else jdq S.frm+T) (S.number:Int) S.plain S.packet=some (jw3 suite i S):=by
 have a:=A.ok i S hS
 have h:=kv9 A hS ho hL hL4 hf
 rw [krw a hL hL4]
 rcases hr with hr | hr
 ·subst hr
  have e1:decide (S.turn % 2≠S.turn % 2)=false:=by simp
  have e2:decide (S.turn≠S.turn)=false:=by simp
  rw [e1,e2]
  exact ⟨rfl,h⟩
 ·rw [decide_eq_true (show S.turn % 2≠T % 2 by walk_at "OM"),decide_eq_true (show S.turn≠T from hr▸Nat.succ_ne_self T)]
  refine ⟨rfl,?_⟩
  rw [hr,← Nat.add_assoc] at h
  exact h
theorem jw5 {i T:Nat} {S:jf7} (A:jf6 suite off L first rows sent) (hS:sent[i]?=some S) (ho:1≤off) (hL:2≤L) (hL4:L≤4) (hf:first=0∨first=51200∨first=1048576) (hT:T≤30) (hr:¬ (S.turn=T∨S.turn=T+1)) (pn:Int) :
  je1 rows suite (if kb7 S.plain ((T % 2:Nat):Int) then jdq S.frm+T+1 else jdq S.frm+T) pn S.plain S.packet=none:=by
 have a:=A.ok i S hS
 have sz:=jcw a
 have o1:=a.o1
 rw [krw a hL hL4]
 have key:∀ t,t≤31->S.turn≠t->je1 rows suite (jdq S.frm+t) pn S.plain S.packet=none:=fun t ht hne=>by
  cases h:je1 rows suite (jdq S.frm+t) pn S.plain S.packet with
  | none=>rfl
  | some r =>
   refine jv4 (jn7 A ho hL hL4 (kr1 a hL) a.b ht rfl (jr2 a ho hL hL4) h) fun j S' hS' zq149 hb ht' hp=>?_
   obtain rfl:=zq149
   obtain rfl:=apart (k0:=0) A ho hL hL4 hf hS hS' hb.symm (by rw [hp]) (fun q _=>by rw [hp])
   rw [hS] at hS'
   rw [← Option.some.inj hS'] at ht'
   exact absurd ht' hne
 split
 ·rw [Nat.add_assoc];exact key (T+1) (Nat.succ_le_succ hT) (fun e=>hr (.inr e))
 ·exact key T (Nat.le_succ_of_le hT) (fun e=>hr (.inl e))
theorem js2 {i T k0:Nat} {S:jf7} {p:Array UInt8} (A:jf6 suite off L first rows sent) (hS:sent[i]?=some S) (ho:1≤off) (hL:2≤L) (hL4:L≤4) (hf:first=0∨first=51200∨first=1048576) (hT:T≤30)
  (hs:p.size=S.packet.size) (hne:gB p k0≠gB S.packet k0) (hq:∀ q,q≠k0->gB p q=gB S.packet q) (pn:Int) (up:Bool) :
  je1 rows suite (if up then jdq S.frm+T+1 else jdq S.frm+T) pn (ji2 p (jdz suite S.frm off p) off) p=none:=by
 have a:=A.ok i S hS
 have sz:=jcw a
 have o1:=a.o1
 have key:∀ t,t≤31->je1 rows suite (jdq S.frm+t) pn (ji2 p (jdz suite S.frm off p) off) p=none:=fun t ht=>by
  cases h:je1 rows suite (jdq S.frm+t) pn (ji2 p (jdz suite S.frm off p) off) p with
  | none=>rfl
  | some r =>
   refine jv4 (jn7 A ho hL hL4 (hs▸kr1 a hL) a.b ht rfl rfl h) fun j S' hS' zq148 hb ht' hp=>?_
   obtain rfl:=zq148
   subst hp
   obtain rfl:=apart (k0:=k0) A ho hL hL4 hf hS hS' hb.symm hs.symm (fun q h=>(hq q h).symm)
   rw [hS] at hS'
   rw [Option.some.inj hS'] at hne
   exact absurd rfl hne
 cases up
 ·exact key T (by walk_at "OM")
 ·rw [if_pos rfl,Nat.add_assoc];exact key (T+1) (by walk_at "OM")
end
section
variable {w:World} {mg mb:Str->Option Value} {hb:Heap} {s:Shared} {A:Around} {R:Result->Shared->Prop} {news:List (Addr×Obj)}
theorem ko9 {fa sA:Addr} {o:Obj} {pm cd doc:Value} (B:jbw w mg mb hb) (S:Sub hb s.heap) (N:Has hb s.heap news)
  (ho:s.heap.get? fa=some o) (hd:o.data=.func { docDef jgz.name jgz.params jgz.body jgz.scope pm cd doc with defaults:=.none,kwdefaults:=.none }) (hcd:s.heap.CodeRec cd jgz.name) (hroom:A.depth<recursionLimit)
  (h:∀ g L' h₁ tk oc,jbw w mg mb g->Fr g L' h₁ (fun y=>chain [("script", .ref sA)] y)->News g L' h₁ ((L'+1,oc)::news)->oc.data=.cell none →
   (∀ b o,s.heap.get? b=some o->b∉news.map (·.1)->g.get? b=some o)->Sub g s.heap->(∀ p∈news,p.1<L') →
   wpG (model pw w) (A.deeper (envOfC "law" jaq L' fa cd)) (execs jdv (envOfC "law" jaq L' fa cd)) (retP R) (ko8 w A (envOfC "law" jaq L' fa cd) R) { s with heap:=h₁,toks:=tk }) :
  jf5 (model pw w) A (.call (.ref fa) ⟨[.ref sA],[]⟩) R s:=by
 have nm:∀ b o,hb.get? b=some o->b∉news.map (·.1):=fun b o e q=>by
  refine xEA (List.mem_map.mp q) fun p hp zq155=>?_
  obtain rfl:=zq155
  rw [(N p hp).2] at e;cases e
 have st:Sub hb (hideAll s.heap (news.map (·.1))):=fun b o e=>hideAll_get _ (S b o e) (nm b o e)
 have hd':o.data=.func (fnOf "law" "law" jmv jdv jaq .none .none doc pm none cd .none):=hd
 refine jfz (body:=jdv) hroom ho hd' (by kernel_rfl!) (by kernel_rfl!) rfl hcd ?_
 refine (BindsTo.of_eq (binds:=[("script", .ref sA)]) rfl) _ _ _ _ ?_
 refine wpAny_newFunctionEnv_cells (scope:=jaq) (by kernel_rfl!) (kindsX (by kernel_rfl!) _) fun env' he s' x=>?_
 subst he
 refine ⟨(B.t.nolimit.keeps S).keeps x.toInCall.keep,jq4 ?_⟩
 refine je4 x.done fun h₁ tk zq154 _=>?_
 obtain rfl:=zq154
 have hk₁:=x.toInCall.keep
 refine xEA (Cl.news (h₀:=s.heap) (Nat.le_refl _) fun n c hm=>⟨x.cell n c (lookup_of_mem_nodup (cellsFrom_names jaq.names 0 (s.heap.objs.size+1) [] [] rfl▸(by decide +kernel)) hm),x.above n c hm⟩) fun cells NC Y=>?_
 refine xEA (CellsAre.one Y) fun oc zq153 hoc=>?_
 obtain rfl:=zq153
 refine h (hideAll s.heap (news.map (·.1))) s.heap.objs.size h₁ tk oc (B.keeps st) ⟨x.toInCall.ns,fun b o e=>hk₁ b o (of_hideAll _ e),Nat.le_of_eq (hideAll_size _ _)⟩ (fun p hp=>?_) hoc (fun b o e n=>hideAll_get _ e n) (fun b o e=>of_hideAll _ e) (fun p hp=>Heap.lt_size (N p hp).1)
 rcases List.mem_cons.mp hp with rfl | hp
 ·have z:=NC _ (.head _)
  refine ⟨z.1,z.2.1,?_⟩
  cases q:(hideAll s.heap (news.map (·.1))).get? (s.heap.objs.size+1) with
  | none=>rfl
  | some o=>have:=z.2.2;rw [of_hideAll _ q] at this;cases this
 ·exact ⟨hk₁ _ _ (N p hp).1,Nat.ne_of_lt (Heap.lt_size (N p hp).1),hideAll_none _ (List.mem_map_of_mem hp)⟩
end
noncomputable def two {α:Type} (f:Nat->α):Array α:=#[f 0,f 1]
theorem ke2 {α:Type} {f:Nat->α} {i:Nat} (h:i<2):(two f)[i]?=some (f i):=by
 rcases (show i=0∨i=1 by walk_at "OM") with rfl | rfl <;> rfl
theorem kv2 {α:Type} {f:Nat->α} {i:Nat} {v:α} (h:i<2):(two f).setIfInBounds i v=two (fun j=>if j=i then v else f j):=by
 rcases (show i=0∨i=1 by walk_at "OM") with rfl | rfl <;> rfl
theorem km9 {α:Type} (f:Nat->α):(two f).size=2:=rfl
section
variable {prog:Program} {w:World} {A:Around} {E:Value->Shared->Prop} {s:Shared} {g:Heap} {L D:Addr} {m:Str->Option Value} {news news':List (Addr×Obj)} {value slice:Expr} {u:Tok}
theorem jh2 {vs:Array Value} {k:Int} {v:Value} {Q:Value->Shared->Prop} (hl:s.heap.IsList D vs) (h0:0≤k) (hk:k<2 ^ 63) (hx:vs[k.toNat]?=some v) (h:Q v s)
  (hs:subscripted slice false (.ref D) (.int k u)=operate [.ref D,.int k u] (getItem (.ref D) (.int k u))) :
  wpAny (model prog w) A (subscriptTail value slice (.ref D) (.int k u)) Q E s :=
 tail_any hl.typeIs slot_list_getitem.lookup (wpAny_getItem_list hl h0 hk hx h) hs
theorem jk6 (x:Int) {k:Int} (hk:0<k):0≤x.fmod k∧x.fmod k<k:=⟨Int.fmod_nonneg_of_pos _ hk,Int.fmod_lt_of_pos _ hk⟩
noncomputable def knj (a b c i:Int):Int:=if i=0 then a else if i=1 then b else c
noncomputable def sel2 (a b i:Int):Int:=if i=0 then a else b
theorem kdx {a b c x:Int} {ta tb tc:Tok} {n:Nat} {Q:Value->Shared->Prop} (N:News g L s.heap news) (hm:(D,listOf #[.int a ta,.int b tb,.int c tc] n)∈news)
  (h:∀ t,Q (.int (knj a b c (x.fmod 3)) t) s)
  (hs:subscripted slice false (.ref D) (.int (x.fmod 3) u)=operate [.ref D,.int (x.fmod 3) u] (getItem (.ref D) (.int (x.fmod 3) u))) :
  wpAny (model prog w) A (subscriptTail value slice (.ref D) (.int (x.fmod 3) u)) Q E s:=by
 have hb:=jk6 x (k:=3) (by decide)
 generalize x.fmod 3=i at *
 rcases (show i=0∨i=1∨i=2 by walk_at "OM") with rfl | rfl | rfl
 ·exact jh2 (N.isList hm) (by decide) (by decide) rfl (h ta) hs
 ·exact jh2 (N.isList hm) (by decide) (by decide) rfl (h tb) hs
 ·exact jh2 (N.isList hm) (by decide) (by decide) rfl (h tc) hs
theorem kdz {a b i:Int} {ta tb:Tok} {n:Nat} {Q:Value->Shared->Prop} (N:News g L s.heap news) (hm:(D,listOf #[.int a ta,.int b tb] n)∈news) (hi:i=0∨i=1)
  (h:∀ t,Q (.int (sel2 a b i) t) s)
  (hs:subscripted slice false (.ref D) (.int i u)=operate [.ref D,.int i u] (getItem (.ref D) (.int i u))) :
  wpAny (model prog w) A (subscriptTail value slice (.ref D) (.int i u)) Q E s:=by
 rcases hi with rfl | rfl
 ·exact jh2 (N.isList hm) (by decide) (by decide) rfl (h ta) hs
 ·exact jh2 (N.isList hm) (by decide) (by decide) rfl (h tb) hs
theorem ko0 {f:Nat->Value} {i:Nat} {n:Nat} {Q:Value->Shared->Prop} (N:News g L s.heap news) (hm:(D,listOf (two f) n)∈news) (hi:i<2) (h:Q (f i) s)
  (hs:subscripted slice false (.ref D) (.int (i:Int) u)=operate [.ref D,.int (i:Int) u] (getItem (.ref D) (.int (i:Int) u))) :
  wpAny (model prog w) A (subscriptTail value slice (.ref D) (.int (i:Int) u)) Q E s :=
 jh2 (N.isList hm) (by walk_at "OM") (by walk_at "OM") (by rw [Int.toNat_natCast];exact ke2 hi) h hs
theorem kiq {f:Nat->Value} {i:Nat} {n:Nat} {Q:Value->Shared->Prop} (F:Fr g L s.heap m) (hm:g.get? D=some (listOf (two f) n)) (hi:i<2) (h:Q (f i) s)
  (hs:subscripted slice false (.ref D) (.int (i:Int) u)=operate [.ref D,.int (i:Int) u] (getItem (.ref D) (.int (i:Int) u))) :
  wpAny (model prog w) A (subscriptTail value slice (.ref D) (.int (i:Int) u)) Q E s :=
 jh2 ⟨_,F.keep _ _ hm,rfl,_,rfl⟩ (by walk_at "OM") (by walk_at "OM") (by rw [Int.toNat_natCast];exact ke2 hi) h hs
theorem kw2 {x:Int} {t u:Tok} {Q:Value->Shared->Prop} (h:∀ c t' k,c.size=((x.fmod 6).toNat)->Q (.bytes c t') { s with toks:=k }) :
  wpAny (model prog w) A (binaryOp .Mult (.bytes (List.map (fun (n:Int)=>n.toNat.toUInt8) [200]).toArray t) (.int (x.fmod 6) u)) Q E s:=by
 have hb:=jk6 x (k:=6) (by decide)
 refine bytes_mul_any (by simp) (by walk_at "OM") (by walk_at "OM") (by simp) fun t' k=>h _ _ _ ?_
 simp
end
theorem fl33:True:=by first|walk1|trivial
local macro_rules | `(tactic| k_all)=>jo2 "&" "k_all"
section
local macro_rules (kind:=PyProof.Rows.tacticWalk_at_) | s=>jex "ANJaPGHEQRV&l" s
section
variable {w:World} {mg mb:Str->Option Value} {g:Heap} {s:Shared} {A:Around} {E:Value->Shared->Prop} {Q:Flow->Shared->Prop}
theorem jb1 {g h:Heap} {L:Addr} {x:Addr×Obj} {r:List (Addr×Obj)} (N:News g L h (x::r)):News g L h r:=fun p hp=>N p (.tail _ hp)
theorem law_s0 {fa sA L:Addr} {cd:Value} {oc:Obj} {vs:List Value} {ns:List Int} {tab:Obj} (B':jbw w mg mb g) (hC:jav A 8) (F:Fr g L s.heap (fun y=>chain [("script", .ref sA)] y)) (N:News g L s.heap [(L+1,oc),(371,tab)])
  (hl:g.IsList sA vs.toArray) (hI:IntsAre vs ns) (hz:ns.length≤63)
  (h:∀ h' tk t0,Fr g L h' (fun y=>chain [("head", .int (ns.getD 0 0) t0),("script", .ref sA)] y)->News g L h' [(L+1,oc),(371,tab)]->Q .next { s with heap:=h',toks:=tk }) :
  wpAny (model pw w) (A.deeper (envOfC "law" jaq L fa cd)) (execs ((jdv.drop 0).take 1) (envOfC "law" jaq L fa cd)) Q E s:=by
 refine openA A hC fun dp fr un hC=>?_
 have KX:=B'.k
 have TR:=B'.t
 have hlen:=hI.length
 try dsimp only [List.take,List.drop]
 walk_at "GO"
 ·exact h _ _ _ (by assumption) (by assumption)
 ·rename_i h5 F5 N5
  have e:ns.getD 0 0=0:=by
   have hn:¬ 0<ns.length:=by assumption
   have:ns=[]:=List.length_eq_zero_iff.mp (by walk_at "OM")
   rw [this];rfl
  exact h _ _ _ (by rw [e];exact F5) N5
noncomputable abbrev m1 (sA:Addr) (head:Int) (t0 t1 t2 t3 t4 t5 t6:Tok) (cid:Array UInt8):List (Str×Value):=[("version", .int (jx7 ((head.fdiv 3).fmod 2)) t6),("cid", .bytes cid t5),("length", .int (2+(head.fdiv 6).fmod 3) t4),("first", .int (knj 0 51200 1048576 ((head.fdiv 18).fmod 3)) t3),("suite", .int (knj 4865 4866 4867 (head.fmod 3)) t1),("second", .int ((head.fdiv 3).fmod 2) t2),("head", .int head t0),("script", .ref sA)]
theorem law_s1 {fa sA L:Addr} {cd:Value} {oc:Obj} {vs:List Value} {ns:List Int} {tab:Obj} {head:Int} {t0:Tok} (B':jbw w mg mb g) (hC:jav A 8) (F:Fr g L s.heap (fun y=>chain [("head", .int head t0),("script", .ref sA)] y)) (N:News g L s.heap [(L+1,oc),(371,tab)])
  (h:∀ h' tk t1 t2 t3 t4 t5 t6 cid,cid.size=((head.fdiv 2).fmod 6).toNat->Fr g L h' (fun y=>chain (m1 sA head t0 t1 t2 t3 t4 t5 t6 cid) y)->News g L h' [(L+1,oc),(371,tab)]->Q .next { s with heap:=h',toks:=tk }) :
  wpAny (model pw w) (A.deeper (envOfC "law" jaq L fa cd)) (execs ((jdv.drop 1).take 4) (envOfC "law" jaq L fa cd)) Q E s:=by
 refine openA A hC fun dp fr un hC=>?_
 have KX:=B'.k
 have TR:=B'.t
 have hsec:(head.fdiv 3).fmod 2=0∨(head.fdiv 3).fmod 2=1:=by have:=jk6 (head.fdiv 3) (k:=2) (by decide);walk_at "OM"
 try dsimp only [List.take,List.drop]
 walk_at "GO"
 rename_i h5 F5 N5
 exact h _ _ _ _ _ _ _ _ _ (by assumption) F5 (jb1 (jb1 (jb1 (jb1 (jb1 (jb1 N5))))))
end
end
theorem fl34:True:=by first|walk1|trivial
section
local macro_rules (kind:=PyProof.Rows.tacticWalk_at_) | s=>jex "AJaPGHEQRV&" s
section
variable {w:World} {mg mb:Str->Option Value} {g:Heap} {s:Shared} {A:Around} {E:Value->Shared->Prop} {Q:Flow->Shared->Prop}
noncomputable abbrev m2 (sA:Addr) (suite sec len first:Int) (t0 t1 t2 t3 t4 t5 t6 t7:Tok) (head:Int) (cid:Array UInt8):List (Str×Value):=[(ofString "size", .int (asz suite) t7),(ofString "version", .int (jx7 sec) t6),(ofString "cid", .bytes cid t5),(ofString "length", .int len t4),(ofString "first", .int first t3),(ofString "suite", .int suite t1),(ofString "second", .int sec t2),(ofString "head", .int head t0),(ofString "script", .ref sA)]
theorem law_s5 {fa sA L:Addr} {cd:Value} {oc:Obj} {vs:List Value} {ns:List Int} {tab:Obj} {suite sec len first head:Int} {t0 t1 t2 t3 t4 t5 t6:Tok} {cid:Array UInt8} (B':jbw w mg mb g) (hC:jav A 8) (F:Fr g L s.heap (fun y=>chain ([(ofString "version", .int (jx7 sec) t6),(ofString "cid", .bytes cid t5),(ofString "length", .int len t4),(ofString "first", .int first t3),(ofString "suite", .int suite t1),(ofString "second", .int sec t2),(ofString "head", .int head t0),(ofString "script", .ref sA)]) y)) (N:News g L s.heap [(L+1,oc),(371,tab)])
  (h:∀ h' tk t7,Fr g L h' (fun y=>chain (m2 sA suite sec len first t0 t1 t2 t3 t4 t5 t6 t7 head cid) y)->News g L h' [(L+1,oc),(371,tab)]->Q .next { s with heap:=h',toks:=tk }) :
  wpAny (model pw w) (A.deeper (envOfC (ofString "law") jaq L fa cd)) (execs ((jdv.drop 5).take 1) (envOfC (ofString "law") jaq L fa cd)) Q E s:=by
 refine openA A hC fun dp fr un hC=>?_
 have KX:=B'.k
 have TR:=B'.t
 try dsimp only [List.take,List.drop]
 walk_at "GO"
 ·rename_i h5 F5 N5
  have e:asz suite=48:=if_pos (by assumption)
  have F6:Fr g L h5 (fun y=>if y=ofString "size" then some (.int (asz suite) (s.toks+1)) else chain [(ofString "version", .int (jx7 sec) t6),(ofString "cid", .bytes cid t5),(ofString "length", .int len t4),(ofString "first", .int first t3),(ofString "suite", .int suite t1),(ofString "second", .int sec t2),(ofString "head", .int head t0),(ofString "script", .ref sA)] y):=by rw [e];exact F5
  exact h _ _ _ F6 N5
 ·rename_i h5 F5 N5
  have e:asz suite=32:=if_neg (by assumption)
  have F6:Fr g L h5 (fun y=>if y=ofString "size" then some (.int (asz suite) (s.toks+1)) else chain [(ofString "version", .int (jx7 sec) t6),(ofString "cid", .bytes cid t5),(ofString "length", .int len t4),(ofString "first", .int first t3),(ofString "suite", .int suite t1),(ofString "second", .int sec t2),(ofString "head", .int head t0),(ofString "script", .ref sA)] y):=by rw [e];exact F5
  exact h _ _ _ F6 N5
noncomputable def pickE (e0 e1:EA):Nat->EA
 | 0=>e0
 | _=>e1
structure jo1 (a b:EA):Prop where
 n1:a.dx≠b.dx
 n2:a.dr≠b.dr
 n3:a.dr≠b.dc
 n4:a.dc≠b.dr
 n5:a.dc≠b.dc
 n6:a.hl≠b.hl
structure Ini8 (P:Params) (g h:Heap) (L rl hO eO:Addr) (e:Nat->EA) (sec:Int):Prop where
 ini:∀ i,i<2->jh8 P h (e i) sec
 rls:∀ i,i<2->(e i).rl=rl
 ho:h.get? hO=some (listOf (two fun i=>.ref (e i).hl) 0)
 eo:h.get? eO=some (listOf (two fun i=>.ref (e i).x) 0)
 ro:h.get? rl=some (listOf #[] 0)
 hd:∀ i,i<2->h.get? (e i).hl=some (listOf #[] 0)
 ta:jhw h
 off:∀ i,i<2->Off g (e i)
 orl:g.get? rl=none
 oho:g.get? hO=none
 oeo:g.get? eO=none
 ap:jo1 (e 0) (e 1)
 l1:@LT.lt Nat instLTNat (L+1) rl
 l2:∀ i,i<2->@LT.lt Nat instLTNat rl (e i).hl
 l3:∀ i,i<2->@LT.lt Nat instLTNat (e i).hl hO
 l4:@LT.lt Nat instLTNat hO eO
 nl:∀ i,i<2->(e i).dx≠L∧(e i).dr≠L∧(e i).dc≠L
theorem je9 {P:Nat->Prop} (h0:P 0) (h1:P 1):∀ i,i<2->P i:=fun i hi=>by
 rcases (show i=0∨i=1 by walk_at "OM") with rfl | rfl
 ·exact h0
 ·exact h1
theorem jhw.keeps {h h':Heap} (k:Sub h h') (x:jhw h):jhw h':=by
 refine jg1 x fun c0 c1 c2 c3 c4 h0 k0 k1 k2 k3 k4=>?_
 try clear x
 have kk:=jaz.of_sub k
 exact (jg9 c0 c1 c2 c3 c4 (k _ _ h0) (ja6 kk k0) (ja6 kk k1) (ja6 kk k2) (ja6 kk k3) (ja6 kk k4))
theorem jkz.keeps {P:Params} {h h':Heap} {x dx scb tcb lam:Addr} (k:Sub h h') (X:jkz P h x dx scb tcb lam):jkz P h' x dx scb tcb lam:=⟨k _ _ X.1,X.2.imp fun zz q=>k _ _ q⟩
theorem jh8.keeps {P:Params} {h h':Heap} {e:EA} {sec:Int} (k:Sub h h') (X:jh8 P h e sec):jh8 P h' e sec:=⟨X.fx.keeps (jaz.of_sub k),X.pd.imp fun zz q=>k _ _ q,X.cr.keeps k,X.cs.keeps k,X.ne⟩
theorem jhw.keepsL {h h':Heap} (kk:jaz h h') (x:jhw h):jhw h':=by
 refine jg1 x fun c0 c1 c2 c3 c4 h0 k0 k1 k2 k3 k4=>?_
 try clear x
 exact (jg9 c0 c1 c2 c3 c4 (kk _ _ h0 rfl) (ja6 kk k0) (ja6 kk k1) (ja6 kk k2) (ja6 kk k3) (ja6 kk k4))
theorem jh8.keepsL {P:Params} {h h':Heap} {e:EA} {sec:Int} (k:jaz h h') (k1:∀ o,h.get? e.dx=some o->h'.get? e.dx=some o) (k2:∀ o,h.get? e.dr=some o->h'.get? e.dr=some o) (k3:∀ o,h.get? e.dc=some o->h'.get? e.dc=some o) (X:jh8 P h e sec):jh8 P h' e sec :=
 ⟨X.fx.keeps k,X.pd.imp fun zz q=>k1 _ q,⟨k _ _ X.cr.1 rfl,X.cr.2.imp fun zz q=>k2 _ q⟩,⟨k _ _ X.cs.1 rfl,X.cs.2.imp fun zz q=>k3 _ q⟩,X.ne⟩
theorem jiz {g h:Heap} {L a:Addr} {m:Str->Option Value} (F:Fr g L h m) (q:h.get? a=none):a≠L:=fun e=>by
 refine km2 F.ns fun oL es ep hL r=>?_
 rw [e,hL] at q;cases q
theorem jzz {g h h2:Heap} {L:Addr} {m m2:Str->Option Value} {expl R news2:List (Addr×Obj)} (r:kb2 g h L (expl.map (·.1)) R) (F:Fr g L h m) (N:News g L h (expl++R)) (F2:Fr g L h2 m2) (N2:News g L h2 news2) (hs:∀ p∈expl++R,p∈news2):jb8 h [L] h2:=fun b o e n=>by
 by_cases hb:b∈expl.map (·.1)
 ·refine xEA (List.mem_map.mp hb) fun zq19 ho' hbe=>?_
  obtain ⟨b',o'⟩:=zq19
  dsimp only at hbe
  subst hbe
  have:=(N _ (List.mem_append_left _ ho')).1
  rw [e] at this
  cases this
  exact (N2 _ (hs _ (List.mem_append_left _ ho'))).1
 ·cases q:g.get? b with
  | none=>exact (N2 _ (hs _ (List.mem_append_right _ (r.all b o e (fun z=>n (z▸List.mem_singleton.mpr rfl)) hb q)))).1
  | some o'=>have:=F.keep b o' q;rw [e] at this;cases this;exact F2.keep b o q
theorem law_s8 {fa sA L:Addr} {cd:Value} {oc:Obj} {vs:List Value} {ns:List Int} {tab:Obj} {suite sec len first head:Int} {t0 t1 t2 t3 t4 t5 t6 t7:Tok} {cid:Array UInt8} (B':jbw w mg mb g) (hC:jav A 8) (EX:Ext mg g) (F:Fr g L s.heap (fun y=>chain (m2 sA suite sec len first t0 t1 t2 t3 t4 t5 t6 t7 head cid) y)) (N:News g L s.heap [(L+1,oc),(371,tabObj #[])]) (hoc:oc.data=.cell none)
  (h:∀ h' tk rl hO eO e,Ini8 w.params g h' L rl hO eO e sec->Fr g L h' (fun y=>chain ([(ofString "ends", .ref eO),(ofString "heard", .ref hO),(ofString "rows", .ref rl)]++m2 sA suite sec len first t0 t1 t2 t3 t4 t5 t6 t7 head cid) y)->News g L h' [(L+1,oc)]->Q .next { s with heap:=h',toks:=tk }) :
  wpAny (model pw w) (A.deeper (envOfC (ofString "law") jaq L fa cd)) (execs ((jdv.drop 6).take 3) (envOfC (ofString "law") jaq L fa cd)) Q E s:=by
 refine openA A hC fun dp fr un hC=>?_
 have KX:=B'.k
 have TR:=B'.t
 try dsimp only [List.take,List.drop]
 walk_at "GO"
 rename_i rl _ q1 _ _ hl0 _ q2 hl1 _ q3 hO _ q4 h5 F5 N5
 have m371:((371:Addr),tabObj #[])∈[(hO,listOf #[.ref hl0,.ref hl1] 0),(hl1,listOf #[] 0),(hl0,listOf #[] 0),(rl,listOf #[] 0),(L+1,oc),((371:Addr),tabObj #[])]:=.tail _ me4
 have b371:g.get? 371=none:=N5.fresh m371
 have z1:@LT.lt Nat instLTNat (L+1) rl:=q1.1
 have z2:@LT.lt Nat instLTNat 371 rl:=q1.2
 have z3:@LT.lt Nat instLTNat rl hl0:=q2.1
 have z4:@LT.lt Nat instLTNat hl0 hl1:=q3.1
 have z5:@LT.lt Nat instLTNat hl1 hO:=q4.1
 refine ja0 (kh2 B' F5.keep (hC.deeper.le (by decide)) EX (N5.get m371) b371) fun v h6 tk6 H6 p6=>?_
 refine kev p6 fun e0 zq18 r0 w0 i0 f0 T6=>?_
 try clear p6
 obtain rfl:=zq18
 have F6:=jc0 F5 H6 (fun a ha=>by obtain rfl:=List.mem_singleton.mp ha;exact (N5 _ m371).2)
 have ncell:L+1≠371:=fun q=>by
  have e1:=N5.get me4
  rw [q,N5.get m371] at e1
  have e2:=congrArg Obj.data (Option.some.inj e1)
  rw [hoc] at e2;cases e2
 have N6:News g L h6 [(hO,listOf #[.ref hl0,.ref hl1] 0),(hl1,listOf #[] 0),(hl0,listOf #[] 0),(rl,listOf #[] 0),(L+1,oc)]:=jj1 N5 H6 (jbj (⟨.head _,fun q=>(show _≠(371:Addr) by k_ne) (List.mem_singleton.mp q)⟩) (jbj (⟨.tail _ (.head _),fun q=>(show _≠(371:Addr) by k_ne) (List.mem_singleton.mp q)⟩) (jbj (⟨.tail _ me1,fun q=>(show _≠(371:Addr) by k_ne) (List.mem_singleton.mp q)⟩) (jbj (⟨.tail _ me2,fun q=>(show _≠(371:Addr) by k_ne) (List.mem_singleton.mp q)⟩) (jgw (⟨.tail _ me3,fun q=>ncell (List.mem_singleton.mp q)⟩))))))
 clear m371
 have g5:∀ a,h5.get? a=none->g.get? a=none:=fun a q=>jbz F5.keep q
 have nL5:∀ a,h5.get? a=none->a≠L:=fun a q=>jiz F5 q
 clear F5 N5 H6 q1 q2 q3 q4
 walk_at "GO"
 refine ja0 (kh1 B' F6.keep (hC.deeper.le (by decide)) EX T6 b371) fun v h7 tk7 H7 p7=>?_
 refine krv p7 fun e1 zq17 r1 w1 i1 f1=>?_
 try clear p7
 obtain rfl:=zq17
 have k67:Sub h6 h7:=fun b o q=>H7 b o q (fun z=>nomatch z)
 have F7:=jc9 F6 H7
 refine xE (jck g h7 L [hO,hl1,hl0,rl,L+1]) fun R7 r7=>?_
 have N7:=jmk (jc7 N6 H7) r7
 simp only [List.cons_append,List.nil_append] at N7
 have g6:∀ a,h6.get? a=none->g.get? a=none:=fun a q=>jbz F6.keep q
 have nL6:∀ a,h6.get? a=none->a≠L:=fun a q=>jiz F6 q
 have kl2:∀ h2 m2 news2,Fr g L h2 m2->News g L h2 news2->(∀ p∈(hO,listOf #[.ref hl0,.ref hl1] 0)::(hl1,listOf #[] 0)::(hl0,listOf #[] 0)::(rl,listOf #[] 0)::(L+1,oc)::R7,p∈news2)->jb8 h7 [L] h2:=fun h2 m2 n2 a b c=>jzz (expl:=[(hO,listOf #[.ref hl0,.ref hl1] 0),(hl1,listOf #[] 0),(hl0,listOf #[] 0),(rl,listOf #[] 0),(L+1,oc)]) r7 F7 N7 a b c
 have soft7:∀ o,h7.get? L=some o->jak o=false:=fun o=>jg7 F7.ns (by walk_at "LN")
 have oO:g.get? hO=none:=N7.fresh (.head _)
 have o1:g.get? hl1=none:=N7.fresh me1
 have o0:g.get? hl0=none:=N7.fresh me2
 have oR:g.get? rl=none:=N7.fresh me3
 clear F6 N6 H7
 walk_at "GO"
 rename_i eO _ q8 h8 F8 N8
 have LL:=kl2 _ _ _ F8 N8 (fun p hp=>.tail _ hp)
 have z6:@LT.lt Nat instLTNat hO eO:=q8.1
 have kp:jaz h7 h8:=fun b o e1 f1=>LL b o e1 fun q=>by
  obtain rfl:=List.mem_singleton.mp q
  rw [soft7 _ e1] at f1;cases f1
 have kL:∀ a,a≠L->∀ o,h7.get? a=some o->h8.get? a=some o:=fun a na o q=>LL a o q fun z=>na (List.mem_singleton.mp z)
 have i0':=i0.keeps k67
 have dx0:=i0.pd
 obtain ⟨_,dx0⟩:=dx0
 have dr0:=i0.cr.2
 obtain ⟨_,dr0⟩:=dr0
 have dc0:=i0.cs.2
 obtain ⟨_,dc0⟩:=dc0
 refine h h8 _ rl hO eO (pickE e0 e1) ⟨je9 (i0'.keepsL kp (kL _ (nL5 _ f0.dx)) (kL _ (nL5 _ f0.dr)) (kL _ (nL5 _ f0.dc))) (i1.keepsL kp (kL _ (nL6 _ f1.dx)) (kL _ (nL6 _ f1.dr)) (kL _ (nL6 _ f1.dc))),je9 r0 r1,?_,N8.get (.head _),N8.get me4,?_,?_,
  je9 ⟨g5 _ f0.dx,g5 _ f0.dr,g5 _ f0.dc,w0▸o0,i0.ne⟩ ⟨g6 _ f1.dx,g6 _ f1.dr,g6 _ f1.dc,w1▸o1,i1.ne⟩,oR,oO,N8.fresh (.head _),⟨(jnk f1.dx dx0).symm,(jnk f1.dr dr0).symm,(jnk f1.dc dr0).symm,(jnk f1.dr dc0).symm,(jnk f1.dc dc0).symm,?_⟩,z1,?_,?_,z6,je9 (iAA (nL5 _ f0.dx) (nL5 _ f0.dr) (nL5 _ f0.dc)) (iAA (nL6 _ f1.dx) (nL6 _ f1.dr) (nL6 _ f1.dc))⟩ F8 (fun p hp=>N8 p (.tail _ (.tail _ (.tail _ (.tail _ (.tail _ (by obtain rfl:=List.mem_singleton.mp hp;exact .head _)))))))
 ·have:=N8.get me1
  rw [← w0,← w1] at this
  exact this
 ·refine je9 ?_ ?_
  ·show h8.get? e0.hl=_
   rw [w0];exact N8.get me3
  ·show h8.get? e1.hl=_
   rw [w1];exact N8.get me2
 ·exact (T6.keeps k67).keepsL kp
 ·show e0.hl≠e1.hl
  rw [w0,w1];k_ne
 ·refine je9 ?_ ?_
  ·show @LT.lt Nat instLTNat rl e0.hl
   rw [w0];exact z3
  ·show @LT.lt Nat instLTNat rl e1.hl
   rw [w1];exact Nat.lt_trans z3 z4
 ·refine je9 ?_ ?_
  ·show @LT.lt Nat instLTNat e0.hl hO
   rw [w0];exact Nat.lt_trans z4 z5
  ·show @LT.lt Nat instLTNat e1.hl hO
   rw [w1];exact z5
end
end
section
variable {prog:Program} {w:World} {A:Around} {E:Value->Shared->Prop} {R:Result->Shared->Prop} {env:Env}
theorem jn6 {x:Str} {px:Pos} {body:List Stmt} {it:Addr} {a c:Int} {n:Nat} (hh:A.handled=none) (J:Nat->Shared->Prop)
  (hit:∀ i s,i≤n->J i s->IsRangeIter s.heap it (a+(i:Nat)*c) ((n:Int)-(i:Nat)) c)
  (step:∀ i s h',i<n->J i s->Heap.SameBut it s.heap h'->IsRangeIter h' it (a+((i+1:Nat):Int)*c) ((n:Int)-((i+1:Nat):Int)) c →
   wpAny (model prog w) A (assign (.Name x px) env (.int (a+(i:Nat)*c) s.toks)) (fun zz s₂=>wpG (model prog w) A (execs body env) (fun f s₃=>match f with | .next | .cont=>J (i+1) s₃ | .brk=>False | .ret v=>R (.ok (.ret v)) s₃) (notedBy (model prog w) A env fun e s'=>R (.error e) s') s₂) (notedBy (model prog w) A env fun e s'=>R (.error e) s') { s with heap:=h',toks:=s.toks+1 })
  (done:∀ s h',J n s->Heap.ExtBut it s.heap h'->R (.ok .next) { s with heap:=h' })
  {s:Shared} (h:J 0 s):jf5 (model prog w) A (.forLoop (.Name x px) (.ref it) body [] env) R s:=by
 refine jr6 (fun k s=>∃ i,i≤n∧k=n-i∧J i s) (fun k s hI=>?_) n ⟨0,Nat.zero_le _,rfl,h⟩ fun zz=>rfl
 refine jg2 hI fun i hi zq156 hJ=>?_
 try clear hI
 obtain rfl:=zq156
 have it0:=hit i s hi hJ
 by_cases hlt:i<n
 ·refine wpAny_pyNext_range_item it0 (by walk_at "OM") fun h' hit' hs'=>?_
  have e1:a+((i+1:Nat):Int)*c=a+(i:Int)*c+c:=by push_cast;rw [Int.add_mul,Int.one_mul,Int.add_assoc]
  have e2:(n:Int)-((i+1:Nat):Int)=(n:Int)-(i:Int)-1:=by push_cast;walk_at "OM"
  refine wpAny_mono (step i s h' hlt hJ hs' (by rw [e1,e2];exact hit')) (fun _ s₂ h₂=>jb9 h₂ (fun f s₃ h₃=>?_) fun zz zz q=>q) fun zz zz q=>q
  cases f with
  | next=>exact ⟨n-(i+1),by walk_at "OM", i+1,hlt,rfl,h₃⟩
  | cont=>exact ⟨n-(i+1),by walk_at "OM", i+1,hlt,rfl,h₃⟩
  | brk=>exact h₃.elim
  | ret v=>exact h₃
 ·have:i=n:=by walk_at "OM"
  subst this
  exact wpAny_pyNext_range_end hh it0 (by walk_at "OM") fun h' he'=>jb0 (done s h' hJ he')
end
theorem fl35:True:=by first|walk1|trivial
section
local macro_rules (kind:=PyProof.Rows.tacticWalk_at_) | s=>jex "AJaPGHEQRV&^m" s
local macro_rules | `(tactic| k_inst)=>jo2 "J^" "k_inst"
noncomputable def ki6 (o:Obj):Bool:=jak o&&(match o.data with | .fields _=>false | .cell _=>false | _=>true)
def Hards (h h':Heap):Prop:=∀ b o,h.get? b=some o->ki6 o=true->h'.get? b=some o
theorem Hards.of_left {h h':Heap} {as:List Addr} (H:jb8 h as h') (ha:∀ a∈as,∀ o,h.get? a=some o->jak o=false):Hards h h':=fun b o e f=>H b o e fun hm=>by
 have:=ha b hm o e
 unfold ki6 at f
 rw [this] at f;cases f
theorem Hards.of_iter {h h':Heap} {it:Addr} {x y z:Int} (H:Heap.SameBut it h h') (hi:IsRangeIter h it x y z):Hards h h':=fun b o e f=>H.extBut b o (fun q=>by
 subst q
 rw [hi] at e;cases e;cases f) e
theorem jhv.hd {P:Params} {h h':Heap} {a:Addr} {suite:Int} {n:Nat} {lam:Addr} (k:Hards h h') (x:jhv P h a suite n lam):jhv P h' a suite n lam:=by
 refine jkj x fun d T t1 t2 t3 h1 h2=>?_
 try clear x
 exact (kx5 d T t1 t2 t3 (k _ _ h1 rfl) (k _ _ h2 rfl))
theorem km0.hd {P:Params} {h h':Heap} {a:Addr} {suite:Int} {n:Nat} {lam:Addr} (k:Hards h h') (x:km0 P h a suite n lam):km0 P h' a suite n lam:=by
 refine jx5 x fun d T t1 t2 h1 h2=>?_
 try clear x
 exact (ksv d T t1 t2 (k _ _ h1 rfl) (k _ _ h2 rfl))
theorem jo7.hd {P:Params} {h h':Heap} {x dx:Addr} {suite sec kp:Int} {n n0:Nat} {scb tcb lam:Addr} (k:Hards h h') (k2:∀ o,h.get? dx=some o->h'.get? dx=some o) (X:jo7 P h x dx suite sec kp n n0 scb tcb lam):jo7 P h' x dx suite sec kp n n0 scb tcb lam:=by
 refine jd2 X fun h1 T a hp h2 h3 h4=>?_
 try clear X
 exact (jjz (k _ _ h1 rfl) T a hp (k2 _ h2) (h3.hd k) (h4.hd k))
theorem ja9.hd {h h':Heap} (k:Hards h h'):∀ {vs:List Value} {xs:List (String×String)},ja9 h vs xs->ja9 h' vs xs
 | [],[],_=>trivial
 | _::_,_::_,x=>⟨by obtain ⟨a,t1,t2,e,q⟩:=x.1;exact (ji4 a t1 t2 e (k _ _ q rfl)),ja9.hd k x.2⟩
 | [],_::_,x=>x.elim
 | _::_,[],x=>x.elim
theorem ja3.hd {h h':Heap} {hl:Addr} {l:List (String×String)} (k:Hards h h') (k2:∀ o,h.get? hl=some o->h'.get? hl=some o) (X:ja3 h hl l):ja3 h' hl l:=by
 refine je4 X fun its n h1 h2=>?_
 try clear X
 exact (jhj its n (k2 _ h1) (ja9.hd k h2))
structure jd1 (P:Params) (h:Heap) (e:EA) (suite sec:Int) (nr ns turn:Nat) (wish:Bool) (heard:List (String×String)):Prop where
 pd:∃ T,h.get? e.dx=some (jhk P T (.ref e.lam) (.ref e.r) (.ref e.c) (.bool wish))
 cr:jo7 P h e.r e.dr suite sec ((turn % 2:Nat):Int) (nr+turn) nr e.k1 e.k2 e.lam
 cs:jo7 P h e.c e.dc suite sec ((turn % 2:Nat):Int) (ns+turn) ns e.k3 e.k4 e.lam
 hd:ja3 h e.hl heard
section
variable {P:Params} {h h':Heap} {e:EA} {suite sec:Int} {nr ns turn:Nat} {wish:Bool} {heard:List (String×String)}
theorem jd1.keep (k:Hards h h') (k1:∀ o,h.get? e.dx=some o->h'.get? e.dx=some o) (k2:∀ o,h.get? e.dr=some o->h'.get? e.dr=some o) (k3:∀ o,h.get? e.dc=some o->h'.get? e.dc=some o) (k4:∀ o,h.get? e.hl=some o->h'.get? e.hl=some o)
  (X:jd1 P h e suite sec nr ns turn wish heard):jd1 P h' e suite sec nr ns turn wish heard:=⟨X.pd.imp fun zz q=>k1 _ q,X.cr.hd k k2,X.cs.hd k k3,X.hd.hd k k4⟩
theorem jd1.up (X:jd1 P h e suite sec nr ns turn wish heard) (F:jh9 h e sec):jev P h e suite sec nr ns turn wish heard:=⟨F,X.pd,X.cr,X.cs,X.hd⟩
theorem jev.mu (X:jev P h e suite sec nr ns turn wish heard):jd1 P h e suite sec nr ns turn wish heard:=⟨X.pd,X.cr,X.cs,X.hd⟩
end
structure jl3 (P:Params) (h:Heap) (e:EA):Prop where
 pd:∃ T,h.get? e.dx=some (jhk P T (.ref e.lam) (.ref e.r) (.ref e.c) (.bool false))
 cr:jkz P h e.r e.dr e.k1 e.k2 e.lam
 cs:jkz P h e.c e.dc e.k3 e.k4 e.lam
 hd:h.get? e.hl=some (listOf #[] 0)
theorem jl3.keep {P:Params} {h h':Heap} {e:EA} (k:Hards h h') (k1:∀ o,h.get? e.dx=some o->h'.get? e.dx=some o) (k2:∀ o,h.get? e.dr=some o->h'.get? e.dr=some o) (k3:∀ o,h.get? e.dc=some o->h'.get? e.dc=some o) (k4:∀ o,h.get? e.hl=some o->h'.get? e.hl=some o) (X:jl3 P h e):jl3 P h' e :=
 ⟨X.pd.imp fun zz q=>k1 _ q,⟨k _ _ X.cr.1 rfl,X.cr.2.imp fun zz q=>k2 _ q⟩,⟨k _ _ X.cs.1 rfl,X.cs.2.imp fun zz q=>k3 _ q⟩,k4 _ X.hd⟩
theorem InstAt.of_raw {h:Heap} {x C dx:Addr} {od:Obj} (h1:h.get? x=some (instObj C dx)) (h2:h.get? dx=some od):InstAt h x (instObj C dx) C (some od):=⟨h1,rfl,rfl,h2⟩
theorem asz_in (suite:Int):12≤asz suite∧asz suite≤64:=by
 unfold asz
 split <;> walk_at "OM"
noncomputable def setB:List Stmt:=jpk (jdv.drop 9)
noncomputable abbrev kfv:=jaj setB
section
variable {w:World} {mg mb:Str->Option Value} {g:Heap} {s:Shared} {A:Around} {E:Value->Shared->Prop} {Q:Flow->Shared->Prop}
theorem kcq {fa sA L:Addr} {cd:Value} {rl hO eO:Addr} {e:Nat->EA} {suite sec len first head:Int} {t0 t1 t2 t3 t4 t5 t6 t7:Tok} {cid:Array UInt8} {i:Nat} {u:Tok} (B':jbw w mg mb g) (hC:jav A 10) (hi:i<2) (F:Fr g L s.heap (fun y=>if y=ofString "which" then some (.int (i:Int) u) else chain ([(ofString "ends", .ref eO),(ofString "heard", .ref hO),(ofString "rows", .ref rl)]++m2 sA suite sec len first t0 t1 t2 t3 t4 t5 t6 t7 head cid) y))
  (N:News g L s.heap [(eO,listOf (two fun j=>.ref (e j).x) 0)]) (fx:jh9 s.heap (e i) sec) (I:jl3 w.params s.heap (e i)) (O:Off g (e i)) (hsec:sec=0∨sec=1) (hsuite:suite=4865∨suite=4866∨suite=4867) (nLr:(e i).dr≠L) (nLc:(e i).dc≠L) (nLh:(e i).hl≠L) (neo:eO≠(e i).hl)
  (h:∀ h2 tk2,Fr g L h2 (fun y=>if y=ofString "which" then some (.int (i:Int) u) else chain ([(ofString "ends", .ref eO),(ofString "heard", .ref hO),(ofString "rows", .ref rl)]++m2 sA suite sec len first t0 t1 t2 t3 t4 t5 t6 t7 head cid) y)->jb8 s.heap [(e i).dr,(e i).dc,(e i).hl] h2->jd1 w.params h2 (e i) suite sec (jdq (1-i)) (jdq i) 0 false [("read", "tls"),("send", "tls")]->Q .next { s with heap:=h2,toks:=tk2 }) :
  wpAny (model pw w) (A.deeper (envOfC (ofString "law") jaq L fa cd)) (execs kfv (envOfC (ofString "law") jaq L fa cd)) Q E s:=by
 refine openA A hC fun dp fr un hC=>?_
 have KX:=B'.k
 have TR:=B'.t
 have hsz:=asz_in suite
 obtain ⟨zs1,zs2,zs3,hd⟩:=I
 refine xE zs1 fun Tp pd=>?_
 try clear zs1
 refine xAE zs2 fun r1 Tr r2=>?_
 try clear zs2
 refine xAE zs3 fun c1 Tc c2=>?_
 try clear zs3
 have px:=fx.px
 have n1:(e i).dr≠(e i).hl:=ja1 r2 hd (ctN rfl)
 have n2:(e i).dc≠(e i).hl:=ja1 c2 hd (ctN rfl)
 have n3:=O.ne
 have en1:(1000+5000*(1-(i:Int))).toNat=jdq (1-i):=by unfold jdq;walk_at "OM"
 have en2:(1000+5000*(i:Int)).toNat=jdq i:=by unfold jdq;walk_at "OM"
 walk_at "GO"
 have sub1:∀ s':Shared,jb8 s.heap [(e i).dr] s'.heap->Sub g s'.heap:=fun s' hS b o eb=>hS b o (F.keep _ _ eb) (fun q=>by rw [List.mem_singleton.mp q,O.a2] at eb;cases eb)
 have so1:∀ a∈[(e i).dr],∃ o,s.heap.get? a=some o∧jak o=false:=fun a ha=>by rw [List.mem_singleton.mp ha];exact (iEA _ r2 rfl)
 refine ja0 (jox (n:=(1000+5000*(1-(i:Int))).toNat) (asC:=[(e i).hl]) (PostC:=fun v h=>v=.none∧ja3 h (e i).hl [("read", "tls")]) B' F.keep (hC.deeper.le (by decide)) fx.pr hsec hsuite (by walk_at "OM") r1 r2 O.a2 fx.c1.fn (fun a ha=>(iEE (#[]) 0 (by rw [List.mem_singleton.mp ha];exact hd)))
  (fun s' A' t hS hC'=>cb_1 (tr := "tls") (l:=[]) B' (sub1 s' hS) (hC'.le (by decide)) (fx.c1.keeps (jb8.keeps hS so1)) (jhj (#[]) 0 (hS _ _ hd (fun q=>n1 (List.mem_singleton.mp q).symm)) trivial) O.a4 (by decide))) fun v h1 tk1 H1 p1=>?_
 refine jm5 p1 fun zq105 T1 a1 hp1 v1 e1 fa1 fb1 zr13=>?_
 refine jq8 zr13 fun fc1 i1 j1 zq106 q1=>?_
 try clear p1
 obtain rfl:=zq105
 obtain rfl:=zq106
 rw [en1] at e1 i1 j1
 have so2:∀ a∈[(e i).dr,(e i).hl],∃ o,s.heap.get? a=some o∧jak o=false:=jbj ((iEA _ r2 rfl)) (jgw ((iEA _ hd rfl)))
 have k1:=jb8.keeps H1 so2
 have F1:=jc0 F H1 (jbj (⟨nLr,O.a2⟩) (jgw (⟨nLh,O.a4⟩)))
 have N1:News g L h1 [(eO,listOf (two fun j=>.ref (e j).x) 0)]:=jj1 N H1 (fun p hp=>by
  obtain rfl:=List.mem_singleton.mp hp
  refine ⟨.head _,fun q=>?_⟩
  rcases List.mem_cons.mp q with q | q
  ·exact ja1 (N.get (.head _)) r2 (ctN rfl) q
  ·exact neo (List.mem_singleton.mp q))
 have hk:∀ a,a≠(e i).dr->a≠(e i).hl->∀ o,s.heap.get? a=some o->h1.get? a=some o:=fun a na nb o q=>H1 a o q (fun z=>by
  rcases List.mem_cons.mp z with z | z
  ·exact na z
  ·exact nb (List.mem_singleton.mp z))
 have fx1:=fx.keeps k1
 have px1:=fx1.px
 have pd1:=hk _ (ja1 pd r2 (fun z=>absurd (show (5:Nat)=9 from congrArg dsz z) (by decide))) (ja1 pd hd (ctN rfl)) _ pd
 have c11:=k1 _ _ c1 rfl
 have r11:=k1 _ _ r1 rfl
 have c21:=hk _ n3.symm n2 _ c2
 have L1:=H1
 clear H1 F N sub1 so1 so2 px
 walk_at "GO"
 refine je4 q1 fun its1 kk1 q11 q12=>?_
 try clear q1
 have sub2:∀ s':Shared,jb8 h1 [(e i).dc] s'.heap->Sub g s'.heap:=fun s' hS b o eb=>hS b o (F1.keep _ _ eb) (fun q=>by rw [List.mem_singleton.mp q,O.a3] at eb;cases eb)
 have so1:∀ a∈[(e i).dc],∃ o,h1.get? a=some o∧jak o=false:=fun a ha=>by rw [List.mem_singleton.mp ha];exact (iEA _ c21 rfl)
 refine ja0 (jox (n:=(1000+5000*(i:Int)).toNat) (asC:=[(e i).hl]) (PostC:=fun v h=>v=.none∧ja3 h (e i).hl ([("read", "tls")]++[("send", "tls")])) B' F1.keep (hC.deeper.le (by decide)) fx1.pr hsec hsuite (by walk_at "OM") c11 c21 O.a3 fx1.c3.fn (fun a ha=>(iEE its1 kk1 (by rw [List.mem_singleton.mp ha];exact q11)))
  (fun s' A' t hS hC'=>cb_3 (tr := "tls") (l:=[("read", "tls")]) B' (sub2 s' hS) (hC'.le (by decide)) (fx1.c3.keeps (jb8.keeps hS so1)) (jhj its1 kk1 (hS _ _ q11 (fun q=>n2 (List.mem_singleton.mp q).symm)) (ja9.keeps (jb8.keeps hS so1) q12)) O.a4 (by decide))) fun v h3 tk3 H3 p3=>?_
 refine jm5 p3 fun zq103 T3 a3 hp3 v3 e3 fa3 fb3 zr13=>?_
 refine jq8 zr13 fun fc3 i3 j3 zq104 q3=>?_
 try clear p3
 obtain rfl:=zq103
 obtain rfl:=zq104
 rw [en2] at e3 i3 j3
 have so3:∀ a∈[(e i).dc,(e i).hl],∃ o,h1.get? a=some o∧jak o=false:=jbj ((iEA _ c21 rfl)) (jgw ((iEA _ q11 rfl)))
 have k3:=jb8.keeps H3 so3
 have F3:=jc0 F1 H3 (jbj (⟨nLc,O.a3⟩) (jgw (⟨nLh,O.a4⟩)))
 have hk3:∀ a,a≠(e i).dc->a≠(e i).hl->∀ o,h1.get? a=some o->h3.get? a=some o:=fun a na nb o q=>H3 a o q (fun z=>by
  rcases List.mem_cons.mp z with z | z
  ·exact na z
  ·exact nb (List.mem_singleton.mp z))
 have N3:News g L h3 []:=News.nil
 have pd3:=hk3 _ (ja1 pd1 c21 (fun z=>absurd (show (5:Nat)=9 from congrArg dsz z) (by decide))) (ja1 pd1 q11 (ctN rfl)) _ pd1
 have e13:=hk3 _ n3 n1 _ e1
 have r13:=k3 _ _ r11 rfl
 have c13:=k3 _ _ c11 rfl
 have i13:=i1.keeps k3
 have j13:=j1.keeps k3
 have LL:jb8 s.heap [(e i).dr,(e i).dc,(e i).hl] h3:=(L1.mono (by simp)).trans (H3.mono (by simp))
 clear N1 F1 H3 sub2 so1 so3
 walk_at "GO"
 exact h _ _ F3 LL ⟨⟨Tp,pd3⟩,(jjz r13 T1 a1 hp1 e13 i13 j13),(jjz c13 T3 a3 hp3 e3 i3 j3),q3⟩
end
end
theorem fl36:True:=by first|walk1|trivial
section
local macro_rules (kind:=PyProof.Rows.tacticWalk_at_) | s=>jex "AJaPGHEQRV&n" s
theorem kix {h h':Heap} {lam rl:Addr} {sec:Int} (k:∀ b o,h.get? b=some o->jak o=true->o.data≠.cell none->h'.get? b=some o) (x:jb6 h lam rl sec):jb6 h' lam rl sec:=by
 refine je8 x fun qual pm c' ctv cl cr cs orr zr18=>?_
 refine jkv zr18 fun os t h1 zq158 h3 h4 h5 h6 h7 h8=>?_
 try clear x
 obtain ⟨c,oc,vs,t2,e,ho,hd,hv⟩:=zq158
 exact (jh4 qual pm c' ctv cl cr cs orr (jik os t (k _ _ h1 rfl (by intro q;cases q)) (jc3 c oc vs t2 e (k _ _ ho (by unfold jak;rw [hd]) (by rw [hd];intro q;cases q)) hd hv) h3 (k _ _ h4 (by unfold jak;rw [h5]) (by rw [h5];intro q;cases q)) h5 h6 (k _ _ h7 (by unfold jak;rw [h8]) (by rw [h8];intro q;cases q)) h8))
theorem jr0 {lp:Arguments} {lb:Expr} {ls:Scope} {h h':Heap} {cb hl:Addr} (k:∀ b o,h.get? b=some o->jak o=true->o.data≠.cell none->h'.get? b=some o) (x:jo0 lp lb ls h cb hl):jo0 lp lb ls h' cb hl:=by
 refine jd5 x fun qual pm c' ctv cl ch oh h1 zr12=>?_
 refine jv1 zr12 fun zq157 h3 h4 h5=>?_
 try clear x
 obtain ⟨c,oc,vs,t2,e,ho,hd,hv⟩:=zq157
 exact (jcq qual pm c' ctv cl ch oh (k _ _ h1 rfl (by intro q;cases q)) (jn2 (jc3 c oc vs t2 e (k _ _ ho (by unfold jak;rw [hd]) (by rw [hd];intro q;cases q)) hd hv) h3 (k _ _ h4 (by unfold jak;rw [h5]) (by rw [h5];intro q;cases q)) h5))
theorem jd6 {h h':Heap} {e:EA} {sec:Int} (k:∀ b o,h.get? b=some o->jak o=true->o.data≠.cell none->h'.get? b=some o) (X:jh9 h e sec):jh9 h' e sec:=⟨k _ _ X.px rfl (by intro q;cases q),kix k X.pr,jr0 k X.c1,jr0 k X.c2,jr0 k X.c3,jr0 k X.c4⟩
theorem jyz {h h':Heap} (k:∀ b o,h.get? b=some o->jak o=true->o.data≠.cell none->h'.get? b=some o) (x:jhw h):jhw h':=by
 refine jg1 x fun c0 c1 c2 c3 c4 h0 k0 k1 k2 k3 k4=>?_
 try clear x
 have kk:∀ {c q:_},h.CodeRec c q->h'.CodeRec c q:=fun x=>by
  refine jmx x fun c oc vs t2 e ho hd hv=>?_
  try clear x
  exact (jc3 c oc vs t2 e (k _ _ ho (by unfold jak;rw [hd]) (by rw [hd];intro q;cases q)) hd hv)
 exact (jg9 c0 c1 c2 c3 c4 (k _ _ h0 rfl (by intro q;cases q)) (kk k0) (kk k1) (kk k2) (kk k3) (kk k4))
section
variable {prog:Program} {w:World} {A:Around} {E:Value->Shared->Prop} {s:Shared} {env:Env}
theorem kfq {g:Heap} {m:Str->Option Value} {x:Str} {px:Pos} {v:Value} {Q:Unit->Shared->Prop} (F:Fr g env.locals s.heap m) (hx:env.kindOf x=some .local) (hp:(env.scope.kind==.class || (env.scope.kind==.module&&env.locals != env.globals))=false)
  (h:∀ h',Fr g env.locals h' (fun y=>if y=x then some v else m y)->Heap.SameBut env.locals s.heap h'->Q () { s with heap:=h',toks:=s.toks+1 }):wpAny (model prog w) A (assign (.Name x px) env v) Q E s :=
 wpAny_assign_Name (wpAny_storeName_local hx F.ns (fun h' hn hs=>h h' (F.set hn hs) hs) hp)
theorem jmj {n:Nat} {t:Tok} {Qf:Value->Shared->Prop} (hn:n<1000000)
  (h:∀ it h' tk,IsRangeIter h' it 0 (n:Int) 1->Sub s.heap h'->s.heap.get? it=none->@LE.le Nat instLENat s.heap.objs.size it->Qf (.ref it) { s with heap:=h',toks:=tk }) :
  wpAny (model prog w) A (call (.type "range") [.int (n:Int) t]) (fun v s₁=>wpAny (model prog w) A (pyIter v) Qf E s₁) E s:=by
 refine call_range_1 ?_
 refine wpAny_pyIter_range (IsRange.new ..) (small_one (by decide) (by decide) (by walk_at "OM") (by walk_at "OM")) ?_
 have hsz:Builtin.Range.rangeSize 0 (n:Int) 1=(n:Int):=by rw [rangeSize_one];split <;> walk_at "OM"
 have hI:(s.heap.push { cls:=.type "range", data:=.fields #[.int 0 s.toks,.int (n:Int) t,.int 1 (s.toks+1)] }).objs.size=s.heap.objs.size+1:=Heap.size_push _ _
 obtain ⟨H,hH⟩:∃ H,H=(s.heap.push { cls:=.type "range", data:=.fields #[.int 0 s.toks,.int (n:Int) t,.int 1 (s.toks+1)] }).push { cls:=.type "range_iterator", data:=.fields #[rawInt 0,rawInt (Builtin.Range.rangeSize 0 (n:Int) 1),rawInt 1] }:=⟨_,rfl⟩
 have key:IsRangeIter H ((s.heap.push { cls:=.type "range", data:=.fields #[.int 0 s.toks,.int (n:Int) t,.int 1 (s.toks+1)] }).objs.size) 0 (Builtin.Range.rangeSize 0 (n:Int) 1) 1:=by
  rw [hH]
  exact Heap.get?_push_size _ rfl
 rw [hsz] at key
 have:=h _ H (s.toks+1+1) key (fun b o e=>by rw [hH];exact Heap.get?_push_of_some _ (Heap.get?_push_of_some _ e)) (Heap.get?_none_of_le (by rw [hI];exact Nat.le_succ _)) (by rw [hI];exact Nat.le_succ _)
 rw [hH] at this
 exact this
end
theorem if_if {x:Str} {a r0:Option Value} {m:Str->Option Value}:(fun y=>if y=x then a else (fun y=>if y=x then r0 else m y) y)=fun y=>if y=x then a else m y:=by
 funext y
 by_cases h:y=x
 ·simp only [if_pos h]
 ·simp only [if_neg h]
theorem kjw {g h h':Heap} {L:Addr} {m:Str->Option Value} (F:Fr g L h m) (k:Sub h h'):Fr g L h' m:=F.keeps k
theorem kyw {g h h':Heap} {L it:Addr} {m:Str->Option Value} (F:Fr g L h m) (H:Heap.SameBut it h h') (n:it≠L) (hg:g.get? it=none):Fr g L h' m :=
 jc0 F (as:=[it]) (fun b o e hb=>H.extBut b o (fun q=>hb (List.mem_singleton.mpr q)) e) fun a ha=>by rw [List.mem_singleton.mp ha];exact ⟨n,hg⟩
structure jb5 (w:World) (g hs:Heap) (L rl hO eO:Addr) (e:Nat->EA) (sec:Int):Prop where
 fx:∀ i,i<2->jh9 hs (e i) sec
 rls:∀ i,i<2->(e i).rl=rl
 off:∀ i,i<2->Off g (e i)
 orl:g.get? rl=none
 oho:g.get? hO=none
 oeo:g.get? eO=none
 ap:jo1 (e 0) (e 1)
 l1:@LT.lt Nat instLTNat (L+1) rl
 l2:∀ i,i<2->@LT.lt Nat instLTNat rl (e i).hl
 l3:∀ i,i<2->@LT.lt Nat instLTNat (e i).hl hO
 l4:@LT.lt Nat instLTNat hO eO
 hL:hs.get? L=none
 hc:hs.get? (L+1)=none
 ta:jhw hs
 nl:∀ i,i<2->(e i).dx≠L∧(e i).dr≠L∧(e i).dc≠L
end
theorem fl37:True:=by first|walk1|trivial
theorem krk {α1 α2 α3:Type _} {P0:Prop} {P4:α1->α2->α3->Prop} {P5:α1->α2->α3->Prop} {G:Prop} (h:P0∧∃ a1,∃ a2,∃ a3,P4 a1 a2 a3∧P5 a1 a2 a3) (k:P0->∀ a1,∀ a2,∀ a3,P4 a1 a2 a3->P5 a1 a2 a3->G):G:=h.2.elim fun a1 q1=>q1.elim fun a2 q2=>q2.elim fun a3 q3=>k h.1 a1 a2 a3 q3.1 q3.2
section
local macro_rules (kind:=PyProof.Rows.tacticWalk_at_) | s=>jex "AJaPGHEQRV&" s
structure jx3 (h:Heap) (e:EA):Prop where
 k1:∃ o,h.get? e.dx=some o∧dsz o.data=5∧jak o=false
 k2:∃ o,h.get? e.dr=some o∧dsz o.data=9∧jak o=false
 k3:∃ o,h.get? e.dc=some o∧dsz o.data=9∧jak o=false
 k4:∃ o,h.get? e.hl=some o∧dsz o.data=0∧jak o=false
theorem jd1.kind {P:Params} {h:Heap} {e:EA} {suite sec:Int} {nr ns turn:Nat} {wish:Bool} {heard:List (String×String)} (X:jd1 P h e suite sec nr ns turn wish heard):jx3 h e:=by
 obtain ⟨zs1,zs2,zs3,zs4⟩:=X
 refine xE zs1 fun T p=>?_
 try clear zs1
 refine krk zs2 fun _ T2 _ _ p2 _=>?_
 try clear zs2
 refine krk zs3 fun _ T3 _ _ p3 _=>?_
 try clear zs3
 refine je4 zs4 fun _ _ p4 _=>?_
 try clear zs4
 exact ⟨(jjv _ p rfl rfl),(jjv _ p2 rfl rfl),(jjv _ p3 rfl rfl),(jjv _ p4 rfl rfl)⟩
theorem jl3.kind {P:Params} {h:Heap} {e:EA} (X:jl3 P h e):jx3 h e:=by
 obtain ⟨zs5,zs6,zs7,p4⟩:=X
 refine xE zs5 fun T p=>?_
 try clear zs5
 refine xAE zs6 fun _ T2 p2=>?_
 try clear zs6
 refine xAE zs7 fun _ T3 p3=>?_
 try clear zs7
 exact ⟨(jjv _ p rfl rfl),(jjv _ p2 rfl rfl),(jjv _ p3 rfl rfl),(jjv _ p4 rfl rfl)⟩
theorem jd3 {o:Obj} (h:jak o=false):∀ vs,o.data≠.fields vs:=fun vs q=>by
 unfold jak at h
 rw [q] at h;cases h
theorem jf1 {h:Heap} {a b:Addr} {o o':Obj} (e:h.get? a=some o) (e':h.get? b=some o') (hn:dsz o.data≠dsz o'.data):a≠b:=fun q=>hn (by subst q;rw [Option.some.inj (e.symm.trans e')])
theorem jo1.sym {a b:EA} (X:jo1 a b):jo1 b a:=⟨X.n1.symm,X.n2.symm,X.n4.symm,X.n3.symm,X.n5.symm,X.n6.symm⟩
theorem jx3.ne {h:Heap} {a b:EA} {rl:Addr} (Ka:jx3 h a) (Kb:jx3 h b) (AP:jo1 a b) (hr:∃ o,h.get? rl=some o∧dsz o.data=0∧jak o=false) (nr:b.hl≠rl):∀ x∈[b.dx,b.dr,b.dc,b.hl],x∉[a.dx,a.dr,a.dc,a.hl,rl]:=by
 obtain ⟨zs8,zs9,zs10,zs11⟩:=Ka
 refine jg2 zs8 fun o1 a1 s1 _=>?_
 try clear zs8
 refine jg2 zs9 fun o2 a2 s2 _=>?_
 try clear zs9
 refine jg2 zs10 fun o3 a3 s3 _=>?_
 try clear zs10
 refine jg2 zs11 fun o4 a4 s4 _=>?_
 try clear zs11
 obtain ⟨zs12,zs13,zs14,zs15⟩:=Kb
 refine jg2 zs12 fun p1 b1 u1 _=>?_
 try clear zs12
 refine jg2 zs13 fun p2 b2 u2 _=>?_
 try clear zs13
 refine jg2 zs14 fun p3 b3 u3 _=>?_
 try clear zs14
 refine jg2 zs15 fun p4 b4 u4 _=>?_
 try clear zs15
 refine jg2 hr fun p5 b5 u5 _=>?_
 try clear hr
 have N:∀ {x y:Addr} {o o':Obj} {k k':Nat},h.get? x=some o->h.get? y=some o'->dsz o.data=k->dsz o'.data=k'->k≠k'->x≠y:=fun e e' s s' n=>jf1 e e' (by rw [s,s'];exact n)
 exact jbj (noC AP.n1.symm (noC (N b1 a2 u1 s2 (by decide)) (noC (N b1 a3 u1 s3 (by decide)) (noC (N b1 a4 u1 s4 (by decide)) (noC (N b1 b5 u1 u5 (by decide)) noN))))) (jbj (noC (N b2 a1 u2 s1 (by decide)) (noC AP.n2.symm (noC AP.n4.symm (noC (N b2 a4 u2 s4 (by decide)) (noC (N b2 b5 u2 u5 (by decide)) noN))))) (jbj (noC (N b3 a1 u3 s1 (by decide)) (noC AP.n3.symm (noC AP.n5.symm (noC (N b3 a4 u3 s4 (by decide)) (noC (N b3 b5 u3 u5 (by decide)) noN))))) (jgw (noC (N b4 a1 u4 s1 (by decide)) (noC (N b4 a2 u4 s2 (by decide)) (noC (N b4 a3 u4 s3 (by decide)) (noC AP.n6.symm (noC nr noN))))))))
theorem jx3.soft {h:Heap} {a:EA} {rl:Addr} (Ka:jx3 h a) (hr:∃ o,h.get? rl=some o∧dsz o.data=0∧jak o=false):∀ x∈[a.dx,a.dr,a.dc,a.hl,rl],∀ o,h.get? x=some o->jak o=false:=by
 obtain ⟨zs16,zs17,zs18,zs19⟩:=Ka
 refine jg2 zs16 fun o1 a1 _ f1=>?_
 try clear zs16
 refine jg2 zs17 fun o2 a2 _ f2=>?_
 try clear zs17
 refine jg2 zs18 fun o3 a3 _ f3=>?_
 try clear zs18
 refine jg2 zs19 fun o4 a4 _ f4=>?_
 try clear zs19
 refine jg2 hr fun p5 b5 _ f5=>?_
 try clear hr
 exact jbj (fz a1 f1) (jbj (fz a2 f2) (jbj (fz a3 f3) (jbj (fz a4 f4) (jgw (fz b5 f5)))))
section
variable {w:World} {g hs:Heap} {L rl hO eO:Addr} {e:Nat->EA} {sec:Int}
theorem jb5.apart (S:jb5 w g hs L rl hO eO e sec) {i j:Nat} (hi:i<2) (hj:j<2) (h:i≠j):jo1 (e i) (e j):=by
 rcases (show (i=0∧j=1)∨(i=1∧j=0) by walk_at "OM") with ⟨rfl,rfl⟩ | ⟨rfl,rfl⟩
 ·exact S.ap
 ·exact S.ap.sym
theorem ltN {a b:Addr} (h:@LT.lt Nat instLTNat a b):a≠b:=fun q=>by subst q;exact Nat.lt_irrefl _ h
theorem jb5.nrl (S:jb5 w g hs L rl hO eO e sec) {i:Nat} (hi:i<2):(e i).hl≠rl:=(ltN (S.l2 i hi)).symm
theorem jb5.hlL (S:jb5 w g hs L rl hO eO e sec) {i:Nat} (hi:i<2):(e i).hl≠L:=(ltN (Nat.lt_trans (Nat.lt_succ_self L) (Nat.lt_trans S.l1 (S.l2 i hi)))).symm
theorem jb5.eOL (S:jb5 w g hs L rl hO eO e sec):eO≠L:=(ltN (Nat.lt_trans (Nat.lt_succ_self L) (Nat.lt_trans S.l1 (Nat.lt_trans (S.l2 0 (by decide)) (Nat.lt_trans (S.l3 0 (by decide)) S.l4))))).symm
theorem jb5.hOL (S:jb5 w g hs L rl hO eO e sec):hO≠L:=(ltN (Nat.lt_trans (Nat.lt_succ_self L) (Nat.lt_trans S.l1 (Nat.lt_trans (S.l2 0 (by decide)) (S.l3 0 (by decide)))))).symm
theorem jb5.rlL (S:jb5 w g hs L rl hO eO e sec):rl≠L:=(ltN (Nat.lt_trans (Nat.lt_succ_self L) S.l1)).symm
theorem jb5.eOhl (S:jb5 w g hs L rl hO eO e sec) {i:Nat} (hi:i<2):eO≠(e i).hl:=(ltN (Nat.lt_trans (S.l3 i hi) S.l4)).symm
theorem jb5.hOhl (S:jb5 w g hs L rl hO eO e sec) {i:Nat} (hi:i<2):hO≠(e i).hl:=(ltN (S.l3 i hi)).symm
end
structure SetJ (w:World) (g hs h:Heap) (L rl hO eO it:Addr) (e:Nat->EA) (suite sec:Int) (m:Str->Option Value) (i:Nat):Prop where
 fr:∃ r0,Fr g L h (fun y=>if y=ofString "which" then r0 else m y)
 kp:jaz hs h
 eo:h.get? eO=some (listOf (two fun i=>.ref (e i).x) 0)
 ho:h.get? hO=some (listOf (two fun i=>.ref (e i).hl) 0)
 ro:h.get? rl=some (listOf #[] 0)
 up:∀ j,j<2->j<i->jd1 w.params h (e j) suite sec (jdq (1-j)) (jdq j) 0 false [("read", "tls"),("send", "tls")]
 dn:∀ j,j<2->i≤j->jl3 w.params h (e j)
 it:IsRangeIter h it (0+(i:Nat)*1) (((2:Nat):Int)-(i:Nat)) 1
 ce:∃ oc,h.get? (L+1)=some oc∧oc.data=.cell none
section
variable {w:World} {mg mb:Str->Option Value} {g:Heap} {s:Shared} {A:Around} {E:Value->Shared->Prop} {R:Result->Shared->Prop}
theorem kcx {fa sA L:Addr} {cd:Value} {rl hO eO:Addr} {e:Nat->EA} {suite sec len first head:Int} {t0 t1 t2 t3 t4 t5 t6 t7:Tok} {cid:Array UInt8} {hs:Heap} {it:Addr} {i:Nat} {h h':Heap} {px:Pos} {tk:Nat} (B':jbw w mg mb g) (hC:jav A 10) (S:jb5 w g hs L rl hO eO e sec) (hsec:sec=0∨sec=1) (hsuite:suite=4865∨suite=4866∨suite=4867)
  (nit:it≠L) (git:g.get? it=none) (hit:hs.get? it=none) (hi:i<2) (X:SetJ w g hs h L rl hO eO it e suite sec (fun y=>chain ([(ofString "ends", .ref eO),(ofString "heard", .ref hO),(ofString "rows", .ref rl)]++m2 sA suite sec len first t0 t1 t2 t3 t4 t5 t6 t7 head cid) y) i) (H:Heap.SameBut it h h') (Hi:IsRangeIter h' it (0+((i+1:Nat):Int)*1) (((2:Nat):Int)-((i+1:Nat):Int)) 1) :
  wpAny (model pw w) (A.deeper (envOfC (ofString "law") jaq L fa cd)) (assign (.Name (ofString "which") px) (envOfC (ofString "law") jaq L fa cd) (.int (0+(i:Nat)*1) tk)) (fun _ s₂=>wpG (model pw w) (A.deeper (envOfC (ofString "law") jaq L fa cd)) (execs kfv (envOfC (ofString "law") jaq L fa cd)) (fun f s₃=>match f with
   | .next | .cont=>∃ h₃ tk₃,s₃ = { s with heap:=h₃,toks:=tk₃ }∧SetJ w g hs h₃ L rl hO eO it e suite sec (fun y=>chain ([(ofString "ends", .ref eO),(ofString "heard", .ref hO),(ofString "rows", .ref rl)]++m2 sA suite sec len first t0 t1 t2 t3 t4 t5 t6 t7 head cid) y) (i+1)
   | .brk=>False
   | .ret v=>R (.ok (.ret v)) s₃) E s₂) E { s with heap:=h',toks:=tk+1 }:=by
 obtain ⟨zs20,kp,eo,ho,ro,up,dn,it0,zs21⟩:=X
 refine xE zs20 fun r0 F=>?_
 try clear zs20
 refine xEA zs21 fun oc ce hoc=>?_
 try clear zs21
 have F1:=kyw F H nit git
 have nI:∀ b o,h.get? b=some o->(∀ vs,o.data≠.fields vs)->h'.get? b=some o:=fun b o q hn=>H.extBut b o (fun z=>by
  subst z
  rw [it0] at q;cases q;exact hn _ rfl) q
 have kp1:jaz hs h':=fun b o q f=>H.extBut b o (fun z=>by subst z;rw [hit] at q;cases q) (kp b o q f)
 rw [show (0:Int)+(i:Nat)*1=(i:Int) by walk_at "OM"]
 refine kfq (env:=(envOfC (ofString "law") jaq L fa cd)) F1 (by kernel_rfl!) (by kernel_rfl!) fun h2 F2 H2=>jcz ?_
 rw [if_if] at F2
 have nL:∀ b o,h'.get? b=some o->b≠L->h2.get? b=some o:=fun b o q n=>H2.extBut b o n q
 have sL:∀ o,h'.get? L=some o->jak o=false:=fun o=>jg7 F1.ns (by simp only [chain,m2,List.cons_append,List.nil_append,je5,String.reduceEq,reduceIte])
 have hd2:Hards h h2:=fun b o q f=>by
  have q1:=Hards.of_iter H it0 b o q f
  refine nL b o q1 fun z=>?_
  subst z
  unfold ki6 at f
  rw [sL _ q1] at f;cases f
 have kp2:jaz hs h2:=fun b o q f=>H2.extBut b o (fun z=>by subst z;rw [S.hL] at q;cases q) (kp1 b o q f)
 have kIL:∀ a,a≠L->∀ o,h.get? a=some o->jak o=false->h2.get? a=some o:=fun a n o q f=>nL a o (nI a o q (jd3 f)) n
 have hri:∃ o,h.get? rl=some o∧dsz o.data=0∧jak o=false:=(jjv _ ro rfl rfl)
 have nl:∀ j,j<2->∀ x∈[(e j).dx,(e j).dr,(e j).dc,(e j).hl],x≠L:=fun j hj=>jbj (S.nl j hj).1 (jbj (S.nl j hj).2.1 (jbj (S.nl j hj).2.2 (jgw (S.hlL hj))))
 have up2:∀ j,j<2->j<i->jd1 w.params h2 (e j) suite sec (jdq (1-j)) (jdq j) 0 false [("read", "tls"),("send", "tls")]:=fun j hj hji=>by
  have X:=up j hj hji
  have sf:=X.kind.soft hri
  have kk:∀ x∈[(e j).dx,(e j).dr,(e j).dc,(e j).hl],∀ o,h.get? x=some o->h2.get? x=some o:=fun x hx o q=>kIL x (nl j hj x hx) o q (sf x (List.mem_append_left [rl] hx) o q)
  exact X.keep hd2 (kk _ (by first | k_mem | simp)) (kk _ (by first | k_mem | simp)) (kk _ (by first | k_mem | simp)) (kk _ (by first | k_mem | simp))
 have dn2:∀ j,j<2->i≤j->jl3 w.params h2 (e j):=fun j hj hji=>by
  have X:=dn j hj hji
  have sf:=X.kind.soft hri
  have kk:∀ x∈[(e j).dx,(e j).dr,(e j).dc,(e j).hl],∀ o,h.get? x=some o->h2.get? x=some o:=fun x hx o q=>kIL x (nl j hj x hx) o q (sf x (List.mem_append_left [rl] hx) o q)
  exact X.keep hd2 (kk _ (by first | k_mem | simp)) (kk _ (by first | k_mem | simp)) (kk _ (by first | k_mem | simp)) (kk _ (by first | k_mem | simp))
 have eo2:=kIL _ S.eOL _ eo rfl
 have ho2:=kIL _ S.hOL _ ho rfl
 have ro2:=kIL _ S.rlL _ ro rfl
 have hr2:∃ o,h2.get? rl=some o∧dsz o.data=0∧jak o=false:=(jjv _ ro2 rfl rfl)
 have it2:IsRangeIter h2 it (0+((i+1:Nat):Int)*1) (((2:Nat):Int)-((i+1:Nat):Int)) 1:=nL _ _ Hi nit
 have ce2:h2.get? (L+1)=some oc:=nL _ _ (nI _ _ ce (fun vs q=>by rw [hoc] at q;cases q)) (Nat.succ_ne_self L)
 have I2:=dn2 i hi (Nat.le_refl i)
 have N2:News g L h2 [(eO,listOf (two fun j=>.ref (e j).x) 0)]:=fun p hp=>by
  obtain rfl:=List.mem_singleton.mp hp
  exact (iAA eo2 S.eOL S.oeo)
 have OO:=S.off i hi
 refine kcq B' hC hi F2 N2 (jd6 (fun b o q f _=>kp2 b o q f) (S.fx i hi)) I2 OO hsec hsuite (S.nl i hi).2.1 (S.nl i hi).2.2 (S.hlL hi) (S.eOhl hi) fun h3 tk3 F3 L3 M3=>?_
 have sf2:=I2.kind.soft hr2
 have L5:jb8 h2 [(e i).dx,(e i).dr,(e i).dc,(e i).hl,rl] h3:=L3.mono (by first | k_mem | simp)
 have hd3:Hards h2 h3:=Hards.of_left L5 sf2
 have s3:∀ a∈[(e i).dr,(e i).dc,(e i).hl],∀ o,h2.get? a=some o->jak o=false:=fun a ha=>sf2 a (.tail _ (List.mem_append_left [rl] ha))
 have dd:∀ a o,h2.get? a=some o->dsz o.data=0->a≠(e i).hl->h3.get? a=some o:=fun a o q d n=>L3 a o q (by
  obtain ⟨_,zs22,zs23,_⟩:=I2.kind
  refine jg2 zs22 fun p2 b2 u2 _=>?_
  try clear zs22
  refine jg2 zs23 fun p3 b3 u3 _=>?_
  try clear zs23
  exact noC (jf1 q b2 (by rw [d,u2];decide)) (noC (jf1 q b3 (by rw [d,u3];decide)) (noC n noN)))
 refine (jhj h3 tk3 rfl ⟨⟨_,F3⟩,fun b o q f=>L3 b o (kp2 b o q f) (fun z=>by rw [s3 b z o (kp2 b o q f)] at f;cases f),dd _ _ eo2 rfl (S.eOhl hi),dd _ _ ho2 rfl (S.hOhl hi),dd _ _ ro2 rfl (S.nrl hi).symm,fun j hj hji=>?_,fun j hj hji=>?_,L3 _ _ it2 (fun z=>by have:=s3 _ z _ it2;cases this),(iEA oc (L3 _ _ ce2 (fun z=>by have:=s3 _ z _ ce2;unfold jak at this;rw [hoc] at this;cases this)) hoc)⟩)
 ·by_cases hji2:j=i
  ·subst hji2;exact M3
  ·have X:=up2 j hj (by walk_at "OM")
   have nn:=I2.kind.ne X.kind (S.apart hi hj (fun z=>hji2 z.symm)) hr2 (S.nrl hj)
   exact X.keep hd3 (fun o q=>L5 _ o q (nn _ (by first | k_mem | simp))) (fun o q=>L5 _ o q (nn _ (by first | k_mem | simp))) (fun o q=>L5 _ o q (nn _ (by first | k_mem | simp))) (fun o q=>L5 _ o q (nn _ (by first | k_mem | simp)))
 ·have X:=dn2 j hj (by walk_at "OM")
  have nn:=I2.kind.ne X.kind (S.apart hi hj (by walk_at "OM")) hr2 (S.nrl hj)
  exact X.keep hd3 (fun o q=>L5 _ o q (nn _ (by first | k_mem | simp))) (fun o q=>L5 _ o q (nn _ (by first | k_mem | simp))) (fun o q=>L5 _ o q (nn _ (by first | k_mem | simp))) (fun o q=>L5 _ o q (nn _ (by first | k_mem | simp)))
theorem SetJ.fin {w:World} {g hs h h':Heap} {L rl hO eO it:Addr} {e:Nat->EA} {suite sec:Int} {m:Str->Option Value} (S:jb5 w g hs L rl hO eO e sec) (X:SetJ w g hs h L rl hO eO it e suite sec m 2) (H:Heap.ExtBut it h h') (nit:it≠L) (git:g.get? it=none) (hit:hs.get? it=none) :
  (∃ r0,Fr g L h' (fun y=>if y=ofString "which" then r0 else m y))∧jaz hs h'∧h'.get? eO=some (listOf (two fun i=>.ref (e i).x) 0)∧h'.get? hO=some (listOf (two fun i=>.ref (e i).hl) 0)∧h'.get? rl=some (listOf #[] 0)∧(∃ oc,h'.get? (L+1)=some oc∧oc.data=.cell none) ∧
   ∀ j,j<2->jd1 w.params h' (e j) suite sec (jdq (1-j)) (jdq j) 0 false [("read", "tls"),("send", "tls")]:=by
 obtain ⟨zs24,kp,eo,ho,ro,up,dn,it0,zs25⟩:=X
 refine xE zs24 fun r0 F=>?_
 try clear zs24
 refine xEA zs25 fun oc ce hoc=>?_
 try clear zs25
 have nI:∀ b o,h.get? b=some o->(∀ vs,o.data≠.fields vs)->h'.get? b=some o:=fun b o q hn=>H b o (fun z=>by
  subst z
  rw [it0] at q;cases q;exact hn _ rfl) q
 have hd:Hards h h':=fun b o q f=>H b o (fun z=>by
  subst z
  rw [it0] at q;cases q;cases f) q
 have hri:∃ o,h.get? rl=some o∧dsz o.data=0∧jak o=false:=(jjv _ ro rfl rfl)
 refine (ki4 ⟨r0,jc0 F (as:=[it]) (fun b o q n=>H b o (fun z=>n (List.mem_singleton.mpr z)) q) fun a ha=>by rw [List.mem_singleton.mp ha];exact ⟨nit,git⟩⟩ (fun b o q f=>H b o (fun z=>by subst z;rw [hit] at q;cases q) (kp b o q f)) (nI _ _ eo (jd3 rfl)) (nI _ _ ho (jd3 rfl)) (nI _ _ ro (jd3 rfl)) (iEA oc (nI _ _ ce (fun vs q=>by rw [hoc] at q;cases q)) hoc) (fun j hj=>?_))
 have X:=up j hj hj
 have sf:=X.kind.soft hri
 exact X.keep hd (fun o q=>nI _ o q (jd3 (sf _ (by first | k_mem | simp) o q))) (fun o q=>nI _ o q (jd3 (sf _ (by first | k_mem | simp) o q))) (fun o q=>nI _ o q (jd3 (sf _ (by first | k_mem | simp) o q))) (fun o q=>nI _ o q (jd3 (sf _ (by first | k_mem | simp) o q)))
end
end
theorem fl38:True:=by first|walk1|trivial
section
local macro_rules (kind:=PyProof.Rows.tacticWalk_at_) | s=>jex "AJaPGHEQRV&o" s
noncomputable abbrev stm9:=jaj (match jdv.drop 9 with | x::_=>x | []=>.Pass ⟨0,0,0,0⟩)
section
variable {w:World} {mg mb:Str->Option Value} {g:Heap} {s:Shared} {A:Around} {E:Value->Shared->Prop} {Q:Flow->Shared->Prop}
theorem Ini8.stat {rl hO eO:Addr} {e:Nat->EA} {sec:Int} {h:Heap} {L:Addr} {oc:Obj} {m:Str->Option Value} (I:Ini8 w.params g h L rl hO eO e sec) (F:Fr g L h m) (hm:m (ofString "_cipher_name")=none) (hc:h.get? (L+1)=some oc) (hoc:oc.data=.cell none) :
  ∃ hs,jb5 w g hs L rl hO eO e sec∧Sub hs h∧∀ b o,h.get? b=some o->jak o=true->o.data≠.cell none->hs.get? b=some o:=by
 have k:∀ b o,h.get? b=some o->jak o=true->o.data≠.cell none->(hideAll h [L,L+1]).get? b=some o:=fun b o q f n=>hideAll_get _ q (fun z=>by
  rcases List.mem_cons.mp z with rfl | z
  ·rw [jg7 F.ns hm q] at f;cases f
  ·obtain rfl:=List.mem_singleton.mp z
   rw [hc] at q;cases q;exact n hoc)
 exact (jjv (hideAll h [L,L+1]) ⟨fun i hi=>jd6 k (I.ini i hi).fx,I.rls,I.off,I.orl,I.oho,I.oeo,I.ap,I.l1,I.l2,I.l3,I.l4,hideAll_none _ (by first | k_mem | simp),hideAll_none _ (by first | k_mem | simp),jyz k I.ta,I.nl⟩ (fun b o q=>of_hideAll _ q) k)
theorem law_s9 {fa sA L:Addr} {cd:Value} {oc:Obj} {rl hO eO:Addr} {e:Nat->EA} {suite sec len first head:Int} {t0 t1 t2 t3 t4 t5 t6 t7:Tok} {cid:Array UInt8} (B':jbw w mg mb g) (hC:jav A 10) (F:Fr g L s.heap (fun y=>chain ([(ofString "ends", .ref eO),(ofString "heard", .ref hO),(ofString "rows", .ref rl)]++m2 sA suite sec len first t0 t1 t2 t3 t4 t5 t6 t7 head cid) y)) (I:Ini8 w.params g s.heap L rl hO eO e sec) (hc:s.heap.get? (L+1)=some oc) (hoc:oc.data=.cell none) (gc:g.get? (L+1)=none) (hsec:sec=0∨sec=1) (hsuite:suite=4865∨suite=4866∨suite=4867)
  (h:∀ h' tk hs r0 oc',jb5 w g hs L rl hO eO e sec->Fr g L h' (fun y=>if y=ofString "which" then r0 else chain ([(ofString "ends", .ref eO),(ofString "heard", .ref hO),(ofString "rows", .ref rl)]++m2 sA suite sec len first t0 t1 t2 t3 t4 t5 t6 t7 head cid) y)->jaz hs h'->h'.get? eO=some (listOf (two fun i=>.ref (e i).x) 0)->h'.get? hO=some (listOf (two fun i=>.ref (e i).hl) 0)->h'.get? rl=some (listOf #[] 0)->h'.get? (L+1)=some oc'->oc'.data=.cell none →
   (∀ j,j<2->jd1 w.params h' (e j) suite sec (jdq (1-j)) (jdq j) 0 false [("read", "tls"),("send", "tls")])->Q .next { s with heap:=h',toks:=tk }) :
  wpG (model pw w) (A.deeper (envOfC (ofString "law") jaq L fa cd)) (exec stm9 (envOfC (ofString "law") jaq L fa cd)) Q E s:=by
 refine openA A hC fun dp fr un hC=>?_
 have KX:=B'.k
 have TR:=B'.t
 refine jg2 (I.stat F (by simp only [chain,m2,List.cons_append,List.nil_append,je5,String.reduceEq,reduceIte]) hc hoc) fun hs S sub kto=>?_
 have N:News g L s.heap []:=News.nil
 refine jwx ?_ fun zz=>rfl
 repeat ((fail_if_success (with_reducible show wpAny _ _ (call (Value.type "range") _) _ _ _));walk1;try dsimp only)
 refine jmj (n:=2) (by decide) fun it h1 tk1 hi1 k1 n1 z1=>?_
 have nit:it≠L:=jiz F n1
 have git:g.get? it=none:=jbz F.keep n1
 have hit:hs.get? it=none:=jbz sub n1
 refine jn6 (n:=2) (a:=0) (c:=1) rfl (fun i s'=>∃ h tk,s' = { s with heap:=h,toks:=tk }∧SetJ w g hs h L rl hO eO it e suite sec (fun y=>chain ([(ofString "ends", .ref eO),(ofString "heard", .ref hO),(ofString "rows", .ref rl)]++m2 sA suite sec len first t0 t1 t2 t3 t4 t5 t6 t7 head cid) y) i) ?_ ?_ ?_ (jhj h1 tk1 rfl (?_))
 ·rintro i s' hi ⟨h2,tk2,rfl,X⟩
  exact X.it
 ·rintro i s' h' hi ⟨h2,tk2,rfl,X⟩ H Hi
  refine wpAny_mono (kcx (s:={ s with heap:=h2,toks:=tk2 }) (R:=fun r s'=>match r with | .ok f=>Q f s' | .error e=>cameBackBy (model pw w) ((⟨none,dp,fr,some [],un⟩:Around).deeper (envOfC (ofString "law") jaq L fa cd)) (envOfC (ofString "law") jaq L fa cd) E e s') B' hC S hsec hsuite nit git hit hi X H Hi) (fun _ s₂ h₂=>jb9 h₂ (fun f s₃ h₃=>?_) fun zz zz q=>q) fun zz zz q=>q
  cases f with
  | next=>exact h₃
  | cont=>exact h₃
  | brk=>exact h₃
  | ret v=>exact h₃
 ·rintro s' h' ⟨h2,tk2,rfl,X⟩ H
  refine kv0 (X.fin S H nit git hit) fun zq159 kp eo ho ro zq160 up=>?_
  obtain ⟨r0,F0⟩:=zq159
  obtain ⟨oc',ce,hoc'⟩:=zq160
  exact h h' tk2 hs r0 oc' S F0 kp eo ho ro ce hoc' up
 ·refine ⟨⟨chain ([(ofString "ends", .ref eO),(ofString "heard", .ref hO),(ofString "rows", .ref rl)]++m2 sA suite sec len first t0 t1 t2 t3 t4 t5 t6 t7 head cid) (ofString "which"),?_⟩,fun b o q f=>k1 _ _ (sub b o q),k1 _ _ I.eo,k1 _ _ I.ho,k1 _ _ I.ro,fun j _ hj=>absurd hj (Nat.not_lt_zero _),fun j hj _=>?_,hi1,(iEA oc (k1 _ _ hc) hoc)⟩
  ·have e:(fun y=>if y=ofString "which" then chain ([(ofString "ends", .ref eO),(ofString "heard", .ref hO),(ofString "rows", .ref rl)]++m2 sA suite sec len first t0 t1 t2 t3 t4 t5 t6 t7 head cid) (ofString "which") else (fun y=>chain ([(ofString "ends", .ref eO),(ofString "heard", .ref hO),(ofString "rows", .ref rl)]++m2 sA suite sec len first t0 t1 t2 t3 t4 t5 t6 t7 head cid) y) y)=fun y=>chain ([(ofString "ends", .ref eO),(ofString "heard", .ref hO),(ofString "rows", .ref rl)]++m2 sA suite sec len first t0 t1 t2 t3 t4 t5 t6 t7 head cid) y:=by
    funext y
    by_cases hy:y=ofString "which"
    ·rw [if_pos hy,hy]
    ·rw [if_neg hy]
   rw [e]
   exact kjw F k1
  ·have X:=(I.ini j hj).keeps k1
   exact ⟨X.pd,X.cr,X.cs,k1 _ _ (I.hd j hj)⟩
end
end
theorem fl39:True:=by first|walk1|trivial
set_option genInjectivity false
set_option genSizeOf false
section
local macro_rules (kind:=PyProof.Rows.tacticWalk_at_) | s=>jex "ANJaPGHEQRV&" s
structure LA where
 (dO tO wO cO xO sO nO:Addr)
structure ja8 (m:Str->Option Value) (a:LA) (eO hO:Addr) (cid:Array UInt8) (len:Int):Prop where
 n1:m "numbers" = some (.ref a.nO)
 n2:m "sent" = some (.ref a.sO)
 n3:m "expected" = some (.ref a.xO)
 n4:m "count" = some (.ref a.cO)
 n5:m "wishes" = some (.ref a.wO)
 n6:m "turns" = some (.ref a.tO)
 n7:m "due" = some (.ref a.dO)
 n8:m "ends" = some (.ref eO)
 n9:m "heard" = some (.ref hO)
 n10:∃ t,m "cid" = some (.bytes cid t)
 n11:∃ t,m "length" = some (.int len t)
 n12:m "_cipher_name" = none
structure vbj (a:LA) (L eO d0 d1:Addr):Prop where
 o1:@LT.lt Nat instLTNat eO d0
 o2:@LT.lt Nat instLTNat d0 d1
 o3:@LT.lt Nat instLTNat d1 a.dO
 o4:@LT.lt Nat instLTNat a.dO a.tO
 o5:@LT.lt Nat instLTNat a.tO a.wO
 o6:@LT.lt Nat instLTNat a.wO a.cO
 o7:@LT.lt Nat instLTNat a.cO a.xO
 o8:@LT.lt Nat instLTNat a.xO a.sO
 o9:@LT.lt Nat instLTNat a.sO a.nO
theorem kl8 {d:Nat} {p:Addr×Obj} {l:List (Addr×Obj)} (h:AllLt d l) (m:p∈l):@LT.lt Nat instLTNat p.1 d:=by
 induction m with
 | head=>exact h.1
 | tail _ _ ih=>exact ih h.2
section
variable {w:World} {mg mb:Str->Option Value} {g:Heap} {s:Shared} {A:Around} {E:Value->Shared->Prop} {Q:Flow->Shared->Prop}
theorem kxk {fa sA L:Addr} {cd:Value} {oc:Obj} {rl hO eO:Addr} {len first:Int} {t3:Tok} {cid:Array UInt8} {vs:List Value} {ns:List Int} {m0:Str->Option Value} {R0:List (Addr×Obj)} (B':jbw w mg mb g) (hC:jav A 10) (F:Fr g L s.heap m0) (N:News g L s.heap ((L+1,oc)::R0))
  (k1:m0 "first" = some (.int first t3)) (k2:m0 "script" = some (.ref sA)) (k3:m0 "ends" = some (.ref eO)) (k4:m0 "heard" = some (.ref hO)) (k5:∃ t,m0 "cid" = some (.bytes cid t)) (k6:∃ t,m0 "length" = some (.int len t)) (k7:m0 "_cipher_name" = none)
  (hl:g.IsList sA vs.toArray) (hI:IntsAre vs ns) (hz:ns.length≤63)
  (hEO:∃ o,(eO,o)∈R0)
  (h:∀ h' tk a d0 d1 (m:Str->Option Value) its nums,vbj a L eO d0 d1->ja8 m a eO hO cid len->Fr g L h' m->(∀ p∈(L+1,oc)::R0,h'.get? p.1=some p.2) →
   (∀ p∈[(a.nO,listOf its 0),(a.sO,listOf #[] 0),(a.xO,listOf #[.int first t3,.int first t3] 0),(a.cO,listOf #[.int first t3,.int first t3] 0),(a.wO,listOf #[.bool false,.bool false] 0),(a.dO,listOf #[.ref d0,.ref d1] 0)],h'.get? p.1=some p.2∧g.get? p.1=none∧p.1≠L) →
   (∃ ta tb,h'.get? a.tO=some (listOf #[.int 0 ta,.int 0 tb] 0))->g.get? a.tO=none->a.tO≠L->ja3 h' d0 [("read", "tls"),("send", "tls")]->ja3 h' d1 [("read", "tls"),("send", "tls")]->g.get? d0=none->g.get? d1=none->d0≠L->d1≠L->nums.length≤48->IntsAre its.toList nums->Q .next { s with heap:=h',toks:=tk }) :
  wpAny (model pw w) (A.deeper (envOfC "law" jaq L fa cd)) (execs ((jdv.drop 10).take 4) (envOfC "law" jaq L fa cd)) Q E s:=by
 refine openA A hC fun dp fr un hC=>?_
 have KX:=B'.k
 have TR:=B'.t
 have hlen:=hI.length
 try dsimp only [List.take,List.drop]
 walk_at "GO"
 rename_i Da _ _ Db _ _ d0 _ y2 Dc _ _ Dd _ _ d1 _ y5 dO _ y6 _ _ tO _ w6 wO _ w7 cO _ w8 xO _ w9 D9 _ w10 _ _ _ _ _ _ sO _ w11 h5 F5 N5
 have hl5:h5.IsList sA vs.toArray:=by
  refine xEA hl fun o e1 e2=>?_
  try clear hl
  exact (iEA o (F5.keep _ _ e1) e2)
 have z9:@LT.lt Nat instLTNat sO (h5.objs.size+1):=Nat.lt_succ_of_lt (Heap.lt_size (N5 _ (.head _)).1)
 refine slice_list (s:=⟨h5,s.gens,s.drawn,_,s.os⟩) F5 N5 hl5 (.int 1 _) (.int 49 _) (fun h6 F6 N6=>?_)
 clear F5 N5
 refine xE hEO fun o9 m9=>?_
 try clear hEO
 have z1:=kl8 y2.2.2.2 m9
 have hn:=slice_ints_plain hI 1 49
 have hlen9:((ns.drop (clipAt ns.length 1)).take (clipAt ns.length 49-clipAt ns.length 1)).length≤48:=by
  have c2:=clipAt_cast ns.length 49
  rw [if_neg (by decide)] at c2
  refine Nat.le_trans (List.length_take_le _ _) ?_
  rcases Nat.eq_zero_or_pos ns.length with e | e
  ·rw [e];decide
  ·rw [show clipAt ns.length 1=1 from jkx (k:=1) e]
   exact Nat.sub_le_sub_right (Int.ofNat_le.mp (c2▸Int.max_le.mpr ⟨by decide,Int.min_le_left _ _⟩):clipAt ns.length 49≤49) 1
 dsimp only at F6 N6 ⊢
 walk_at "GO"
 rename_i h7 F7 N7
 have H0:ja3 h7 d0 [("read", "tls"),("send", "tls")]:=(jhj _ _ ((N7 _ me11).1) ⟨(ji4 Da _ _ rfl ((N7 _ me13).1)),(ji4 Db _ _ rfl ((N7 _ me12).1)),trivial⟩)
 have H1:ja3 h7 d1 [("read", "tls"),("send", "tls")]:=(jhj _ _ ((N7 _ me8).1) ⟨(ji4 Dc _ _ rfl ((N7 _ me10).1)),(ji4 Dd _ _ rfl ((N7 _ me9).1)),trivial⟩)
 have mt:=(N7 _ me6).1
 refine' h h7 _ ⟨dO,tO,wO,cO,xO,sO,h5.objs.size+1⟩ d0 d1 _ _ _ ⟨z1,y5.2.2.1,y6.1,w6.1,w7.1,w8.1,w9.1,w11.2.1,z9⟩ ⟨(lkH),(lkM (by kernel_rfl!) (lkH)),(lkM (by kernel_rfl!) (lkM (by kernel_rfl!) (lkH))),(lkM (by kernel_rfl!) (lkM (by kernel_rfl!) (lkM (by kernel_rfl!) (lkH)))),(lkM (by kernel_rfl!) (lkM (by kernel_rfl!) (lkM (by kernel_rfl!) (lkM (by kernel_rfl!) (lkH))))),(lkM (by kernel_rfl!) (lkM (by kernel_rfl!) (lkM (by kernel_rfl!) (lkM (by kernel_rfl!) (lkM (by kernel_rfl!) (lkH)))))),(lkM (by kernel_rfl!) (lkM (by kernel_rfl!) (lkM (by kernel_rfl!) (lkM (by kernel_rfl!) (lkM (by kernel_rfl!) (lkM (by kernel_rfl!) (lkH))))))),(lkM (by kernel_rfl!) (lkM (by kernel_rfl!) (lkM (by kernel_rfl!) (lkM (by kernel_rfl!) (lkM (by kernel_rfl!) (lkM (by kernel_rfl!) (lkM (by kernel_rfl!) (k3)))))))),(lkM (by kernel_rfl!) (lkM (by kernel_rfl!) (lkM (by kernel_rfl!) (lkM (by kernel_rfl!) (lkM (by kernel_rfl!) (lkM (by kernel_rfl!) (lkM (by kernel_rfl!) (k4)))))))),k5.imp fun _ q=>(lkM (by kernel_rfl!) (lkM (by kernel_rfl!) (lkM (by kernel_rfl!) (lkM (by kernel_rfl!) (lkM (by kernel_rfl!) (lkM (by kernel_rfl!) (lkM (by kernel_rfl!) (q)))))))),k6.imp fun _ q=>(lkM (by kernel_rfl!) (lkM (by kernel_rfl!) (lkM (by kernel_rfl!) (lkM (by kernel_rfl!) (lkM (by kernel_rfl!) (lkM (by kernel_rfl!) (lkM (by kernel_rfl!) (q)))))))),(if_neg (jc8 (by kernel_rfl!))).trans ((if_neg (jc8 (by kernel_rfl!))).trans ((if_neg (jc8 (by kernel_rfl!))).trans ((if_neg (jc8 (by kernel_rfl!))).trans ((if_neg (jc8 (by kernel_rfl!))).trans ((if_neg (jc8 (by kernel_rfl!))).trans ((if_neg (jc8 (by kernel_rfl!))).trans (k7)))))))⟩ F7 ?c1 ?c2 (iEE _ _ mt) (N7 _ me6).2.2 (N7 _ me6).2.1 H0 H1 ?c3 ?c4 ?c5 ?c6 hlen9 hn
 case c1 =>
  intro p hp
  exact (N7 p (.tail _ (.tail _ (.tail _ (.tail _ (.tail _ (.tail _ (.tail _ (.tail _ (.tail _ (.tail _ (.tail _ (.tail _ (.tail _ (.tail _ (hp)))))))))))))))).1
 case c2 =>
  intro p hp
  rcases List.mem_cons.mp hp with rfl | hp
  ·exact (iAA ((N7 _ (.head _)).1) ((N7 _ (.head _)).2.2) ((N7 _ (.head _)).2.1))
  rcases List.mem_cons.mp hp with rfl | hp
  ·exact (iAA ((N7 _ me1).1) ((N7 _ me1).2.2) ((N7 _ me1).2.1))
  rcases List.mem_cons.mp hp with rfl | hp
  ·exact (iAA ((N7 _ me3).1) ((N7 _ me3).2.2) ((N7 _ me3).2.1))
  rcases List.mem_cons.mp hp with rfl | hp
  ·exact (iAA ((N7 _ me4).1) ((N7 _ me4).2.2) ((N7 _ me4).2.1))
  rcases List.mem_cons.mp hp with rfl | hp
  ·exact (iAA ((N7 _ me5).1) ((N7 _ me5).2.2) ((N7 _ me5).2.1))
  obtain rfl:=List.mem_singleton.mp hp
  exact (iAA ((N7 _ me7).1) ((N7 _ me7).2.2) ((N7 _ me7).2.1))
 case c3=>exact (N7 _ me11).2.2
 case c4=>exact (N7 _ me8).2.2
 case c5=>exact (N7 _ me11).2.1
 case c6=>exact (N7 _ me8).2.1
end
end
theorem fl40:True:=by first|walk1|trivial
section
local macro_rules (kind:=PyProof.Rows.tacticWalk_at_) | s=>jex "AJaPGHEQRV&p" s
noncomputable def kdj (x:String×String):PyData:=.tuple [.str (ofString x.1),.str (ofString x.2)]
noncomputable def jek (l:List (String×String)):PyData:=.list (l.map kdj)
theorem kck {h:Heap} {v:Value} {x:String×String} (X:vbk h v x):Reads h v (kdj x) []:=by
 refine km2 X fun a t1 t2 zq118 q=>?_
 try clear X
 obtain rfl:=zq118
 exact .tuple q rfl rfl (.cons (as:=[]) (.str _ _) (.cons (as:=[]) (.str _ _) .nil))
theorem jnx {h:Heap}:∀ {vs:List Value} {l:List (String×String)},ja9 h vs l->ReadsAll h vs (l.map kdj) []
 | [],[],_=>.nil
 | _::_,_::_,X=>.cons (as:=[]) (bs:=[]) (kck X.1) (jnx X.2)
 | [],_::_,X=>X.elim
 | _::_,[],X=>X.elim
theorem jg6 {h:Heap} {hl:Addr} {l:List (String×String)} (X:ja3 h hl l):Reads h (.ref hl) (jek l) [hl]:=by
 refine je4 X fun its k h1 h2=>?_
 try clear X
 exact .list h1 rfl rfl (jnx h2)
theorem jn9:∀ l:List (String×String),PyData.depthAll (l.map kdj)≤1
 | []=>by decide
 | x::r=>by
  rw [List.map_cons,PyData.depthAll]
  have:=jn9 r
  have:(kdj x).depth=1:=rfl
  walk_at "OM"
theorem joq (l:List (String×String)):(jek l).depth≤8:=by
 unfold jek
 rw [PyData.depth]
 have:=jn9 l
 walk_at "OM"
theorem jev.subs {P:Params} {h h':Heap} {e:EA} {suite sec:Int} {nr ns turn:Nat} {wish:Bool} {heard:List (String×String)} (k:Sub h h') (X:jev P h e suite sec nr ns turn wish heard):jev P h' e suite sec nr ns turn wish heard:=X.keeps (jaz.of_sub k) (k _) (k _) (k _) (k _)
section
variable {prog:Program} {w:World} {A:Around} {E:Value->Shared->Prop} {s:Shared} {g:Heap} {L:Addr} {m:Str->Option Value}
theorem kn8 {a b:Addr} {l:List (String×String)} {Q:Value->Shared->Prop} (F:Fr g L s.heap m) (ha:ja3 g a l) (hb:ja3 g b l) (hk:(jek l).canLay0=true) (hu:A.units+8<cLine) (h:Q (.bool false) s) :
  wpAny (model prog w) A (compareOp .NotEq (.ref a) (.ref b)) Q E s:=by
 have ra:=jg6 (ha.keeps (jaz.of_sub F.keep) (F.keep _))
 have rb:=jg6 (hb.keeps (jaz.of_sub F.keep) (F.keep _))
 have:=joq l
 have R:=PySem.SeqAt.rcNeAt_reads (A:=A) (s:=s) ra rb hk hk (by rw [Nat.min_self];walk_at "OM")
 rw [PySem.SeqAt.eqv_refl _ hk] at R
 exact R prog w E Q h
theorem kgj {t:Nat} {b:Bool} (hb:b=true) (h:(((t+(if b then 1 else 0)) % 2:Nat):Int)≠((t:Int)+1).fmod 2):False:=by
 subst hb
 rw [Int.fmod_eq_emod_of_nonneg _ (by decide)] at h
 simp only [if_true] at h
 walk_at "OM"
theorem kgv {t:Nat} {b:Bool} (hb:b=false) (h:(((t+(if b then 1 else 0)) % 2:Nat):Int)≠((t:Int)+0).fmod 2):False:=by
 subst hb
 rw [Int.fmod_eq_emod_of_nonneg _ (by decide)] at h
 simp only [Bool.false_eq_true,if_false] at h
 walk_at "OM"
theorem kc0 {mg mb:Str->Option Value} {news:List (Addr×Obj)} {e:EA} {suite sec:Int} {nr ns turn:Nat} {wish:Bool} {heard:List (String×String)} {expr:Bool} {Q:Value->Shared->Prop} (F:Fr g L s.heap m) (N:News g L s.heap news) (B:jbw w mg mb g) (hC:jav A 3) (X:jev w.params g e suite sec nr ns turn wish heard)
  (h:∀ t h' tk,Fr g L h' m->News g L h' news->jb8 s.heap [] h'->Q (.int (((turn+(if wish then 1 else 0)) % 2:Nat):Int) t) { s with heap:=h',toks:=tk }):wpAny (model pw w) A (getAttr (.ref e.x) "key_phase" expr) Q E s:=by
 have X':=X.subs F.keep
 refine xE X'.pd fun Tp pd=>?_
 refine get_prop (p:=333) (fget:=332) F B.k (InstAt.of_raw X'.fx.px pd) (by k_is) (by k_is) (by k_is) (by k_is) (by k_is) (by k_is) ?_
 have hC1:jav A.in1 2:=hC.in1
 refine jpj (s:={ s with toks:=s.toks+1 }) B F.keep hC1 X' _ fun v h' tk H P=>?_
 refine xE P fun t zq117=>?_
 try clear P
 obtain rfl:=zq117
 exact handed_on rfl (h t h' tk (jc9 F H) (jc7 N H) H)
end
section
variable {w:World} {mg mb:Str->Option Value} {hb:Heap} {s:Shared} {A:Around}
theorem jwk {eO hO dO tO wO:Addr} {e:Nat->EA} {d:Nat->Addr} {suite sec:Int} {nr ns turn:Nat->Nat} {wish:Nat->Bool} {heard:Nat->List (String×String)} {T:Nat->Tok} {n1 n2 n3 n4 n5:Nat} (B:jbw w mg mb hb) (S:Sub hb s.heap) (hC:jav A 4)
  (h1:s.heap.get? eO=some (listOf (two fun i=>.ref (e i).x) n1)) (h2:s.heap.get? hO=some (listOf (two fun i=>.ref (e i).hl) n2)) (h3:s.heap.get? dO=some (listOf (two fun i=>.ref (d i)) n3)) (h4:s.heap.get? tO=some (listOf (two fun i=>.int ((turn i:Nat):Int) (T i)) n4)) (h5:s.heap.get? wO=some (listOf (two fun i=>.bool (wish i)) n5))
  (X:∀ i,i<2->jev w.params s.heap (e i) suite sec (nr i) (ns i) (turn i) (wish i) (heard i)) (D:∀ i,i<2->ja3 s.heap (d i) (heard i)) (hk:∀ i,i<2->(jek (heard i)).canLay0=true) :
  jb4 w A s (.call (.ref 383) ⟨[.ref eO,.ref hO,.ref dO,.ref tO,.ref wO],[]⟩) [] (fun v zz=>v=.bool true):=by
 intro R hR
 refine openA A hC fun dp fr un hC=>?_
 refine jcj (news:=[]) (binds:=[("ends", .ref eO),("heard", .ref hO),("due", .ref dO),("turns", .ref tO),("wishes", .ref wO)]) (bl:=[("wishes", .ref wO),("turns", .ref tO),("due", .ref dO),("heard", .ref hO),("ends", .ref eO)])
  B S (fun p hp=>nomatch hp) (by k_is) (by k_is) hC.room (BindsTo.of_eq rfl) (by kernel_rfl!) (by kernel_rfl!) ?_ (by kernel_rfl!) (by kernel_rfl!) (by kernel_rfl!) (by kernel_rfl!)
 intro g L' h₁ tk B' F N hg hs hl
 have KX:=B'.k
 have TR:=B'.t
 have hsg:Sub s.heap g:=fun b o e=>hg b o e noN
 have g1:=hsg _ _ h1
 have g2:=hsg _ _ h2
 have g3:=hsg _ _ h3
 have g4:=hsg _ _ h4
 have g5:=hsg _ _ h5
 have hu:(Around.deeper ⟨none,dp,fr,some [],un⟩ (envOf "_law_stands" jnq L' 383 (Value.ref 382))).units+8<cLine:=by
  have:=(hC.deeper (n:=3) (env:=envOf "_law_stands" jnq L' 383 (Value.ref 382))).u
  walk_at "OM"
 have hC':jav (Around.deeper ⟨none,dp,fr,some [],un⟩ (envOf "_law_stands" jnq L' 383 (Value.ref 382))) 3:=hC.deeper
 refine wpAny_execs_cons (wpAny_For ?_)
 repeat ((fail_if_success (with_reducible show wpAny _ _ (call (Value.type "range") _) _ _ _));walk1;try dsimp only)
 refine' jnz (n:=2) (fun _=>[]) ?hh ?F ?N ?hx ?hp ?hn ?h0 ?ha ?_ ?_
 case hh=>rfl
 case F=>k_asm
 case N=>k_asm
 case hx=>kernel_rfl!
 case hp=>kernel_rfl!
 case hn=>decide
 case h0=>rfl
 case ha=>exact fun zz=>rfl
 ·intro i u h7 tk7 own hi hoff7 F7 N7
  have Xi:=(X i hi).subs hsg
  have Di:=(D i hi).keeps (jaz.of_sub hsg) (hsg _)
  have ki:=hk i hi
  have Hi:=Xi.hd
  have px:=Xi.fx.px
  have pd:=Xi.pd
  refine xE pd fun Tp pd=>?_
  try clear pd
  dsimp only [List.nil_append] at N7
  walk_at "GO"
  all_goals first
   | exact jl2.go (ksw rfl _ _ rfl (by assumption) (by assumption))
   | exact (kgj (t:=turn i) (b:=wish i) (by assumption) (by assumption)).elim
   | exact (kgv (t:=turn i) (b:=wish i) (by assumption) (by assumption)).elim
 ·intro h7 tk7 r7 F7 N7
  walk_at "GO"
  exact hR _ _ _ (ja5 hg F7) rfl
end
end
theorem fl41:True:=by first|walk1|trivial
set_option genInjectivity false
set_option genSizeOf false
section
local macro_rules (kind:=PyProof.Rows.tacticWalk_at_) | s=>jex "A" s
def vbz (h:Heap) (v:Value) (S:jf7):Prop:=∃ a t1 t2 t3 t4 t5 t6,v=.ref a∧h.get? a=some (jl7 #[.int ((S.frm:Nat):Int) t1,.int ((S.turn:Nat):Int) t2,.int ((S.number:Nat):Int) t3,.bytes S.plain t4,.bytes S.octets t5,.bytes S.packet t6])
def jd0 (h:Heap):List Value->List jf7->Prop
 | [],[]=>True
 | v::vs,x::xs=>vbz h v x∧jd0 h vs xs
 | _,_=>False
theorem jd0.hd {h h':Heap} (k:Hards h h'):∀ {vs:List Value} {xs:List jf7},jd0 h vs xs->jd0 h' vs xs
 | [],[],_=>trivial
 | _::_,_::_,x=>⟨by obtain ⟨a,t1,t2,t3,t4,t5,t6,e,q⟩:=x.1;exact (jcq a t1 t2 t3 t4 t5 t6 e (k _ _ q rfl)),jd0.hd k x.2⟩
 | [],_::_,x=>x.elim
 | _::_,[],x=>x.elim
theorem jd0.len {h:Heap}:∀ {vs:List Value} {xs:List jf7},jd0 h vs xs->vs.length=xs.length
 | [],[],_=>rfl
 | _::_,_::_,x=>by rw [List.length_cons,List.length_cons,jd0.len x.2]
 | [],_::_,x=>x.elim
 | _::_,[],x=>x.elim
theorem jd0.snoc {h:Heap} {v:Value} {x:jf7} (e:vbz h v x):∀ {vs:List Value} {xs:List jf7},jd0 h vs xs->jd0 h (vs++[v]) (xs++[x])
 | [],[],_=>⟨e,trivial⟩
 | _::_,_::_,y=>⟨y.1,jd0.snoc e y.2⟩
 | [],_::_,y=>y.elim
 | _::_,[],y=>y.elim
theorem jd0.get {h:Heap}:∀ {vs:List Value} {xs:List jf7} {i:Nat},jd0 h vs xs->i<xs.length->∃ v S,vs[i]?=some v∧xs[i]?=some S∧vbz h v S
 | v::_,x::_,0,y,_=>(ki0 v x rfl rfl y.1)
 | _::_,_::xs,i+1,y,hi=>by
  refine jl5 (jd0.get (i:=i) y.2 (by simpa using hi)) fun v S h1 h2 h3=>?_
  exact (ki0 v S (by simpa using h1) (by simpa using h2) h3)
 | [],[],_,_,hi=>absurd hi (Nat.not_lt_zero _)
 | [],_::_,_,x,_=>x.elim
 | _::_,[],_,x,_=>x.elim
theorem jbv.hd {h h':Heap} (k:Hards h h'):∀ {vs:List Value} {xs:List Row},jbv h vs xs->jbv h' vs xs
 | [],[],_=>trivial
 | _::_,_::_,x=>⟨by obtain ⟨a,t1,t2,t3,t4,t5,t6,e,q⟩:=x.1;exact (jcq a t1 t2 t3 t4 t5 t6 e (k _ _ q rfl)),jbv.hd k x.2⟩
 | [],_::_,x=>x.elim
 | _::_,[],x=>x.elim
theorem jbv.snoc {h:Heap} {v:Value} {x:Row} (e:jvw h v x):∀ {vs:List Value} {xs:List Row},jbv h vs xs->jbv h (vs++[v]) (xs++[x])
 | [],[],_=>⟨e,trivial⟩
 | _::_,_::_,y=>⟨y.1,jbv.snoc e y.2⟩
 | [],_::_,y=>y.elim
 | _::_,[],y=>y.elim
structure St where
 turn:Nat->Nat
 wish:Nat->Bool
 count:Nat->Nat
 expect:Nat->Nat
 heard:Nat->List (String×String)
 sent:List jf7
 rows:List Row
noncomputable abbrev jy4 (L:Addr) (a:LA):List Addr:=[L,L+1,a.dO,a.tO,a.wO,a.cO,a.xO,a.sO]
structure LK (w:World) (hs h:Heap) (L rl hO eO it:Addr) (a:LA) (e:Nat->EA) (suite sec:Int) (its:Array Value) (n:Nat) (d:Nat->Addr) (turn:Nat->Nat) (wish:Nat->Bool) (heard dueL:Nat->List (String×String)) (rows:List Row) (i:Nat):Prop where
 kp:jaz hs h
 eo:h.get? eO=some (listOf (two fun i=>.ref (e i).x) 0)
 ho:h.get? hO=some (listOf (two fun i=>.ref (e i).hl) 0)
 no:h.get? a.nO=some (listOf its 0)
 ro:∃ rs k,h.get? rl=some (listOf rs k)∧jbv h rs.toList rows
 mu:∀ j,j<2->jd1 w.params h (e j) suite sec (jdq (1-j)) (jdq j) (turn j) (wish j) (heard j)
 du:∀ j,j<2->ja3 h (d j) (dueL j)
 it:IsRangeIter h it (0+(i:Nat)*2) ((n:Int)-(i:Nat)) 2
structure kb3 (L rl hO eO:Addr) (a:LA) (e:Nat->EA) (d:Nat->Addr):Prop where
 l0:@LT.lt Nat instLTNat (L+1) rl
 l1:∀ j,j<2->@LT.lt Nat instLTNat rl (e j).hl
 l2:∀ j,j<2->@LT.lt Nat instLTNat (e j).hl hO
 l3:@LT.lt Nat instLTNat hO eO
 l4:@LT.lt Nat instLTNat eO a.dO
 l5:@LT.lt Nat instLTNat a.dO a.tO
 l6:@LT.lt Nat instLTNat a.tO a.wO
 l7:@LT.lt Nat instLTNat a.wO a.cO
 l8:@LT.lt Nat instLTNat a.cO a.xO
 l9:@LT.lt Nat instLTNat a.xO a.sO
 l10:@LT.lt Nat instLTNat a.sO a.nO
 nd:∀ j,j<2->∀ x∈[L,L+1,a.dO,a.tO,a.wO,a.cO,a.xO,a.sO,rl,(e 0).hl,(e 1).hl],d j≠x
 nl:∀ j,j<2->(e j).dx≠L∧(e j).dr≠L∧(e j).dc≠L
section
variable {w:World} {hs h h':Heap} {L rl hO eO it:Addr} {a:LA} {e:Nat->EA} {suite sec:Int} {its:Array Value} {n:Nat} {d:Nat->Addr} {turn:Nat->Nat} {wish:Nat->Bool} {heard dueL:Nat->List (String×String)} {rows:List Row} {i:Nat}
structure kvj (h:Heap) (L:Addr) (a:LA):Prop where
 lst:∀ x∈[a.dO,a.tO,a.wO,a.cO,a.xO,a.sO],∃ o,h.get? x=some o∧dsz o.data=0∧jak o=false
 frm:∀ o,h.get? L=some o->jak o=false
 cel:∃ oc v,h.get? (L+1)=some oc∧oc.data=.cell v
theorem kvj.soft (S:kvj h L a) {x:Addr} {o:Obj} (q:h.get? x=some o) (f:jak o=true) (nc:∀ v,o.data≠.cell v):x∉jy4 L a:=fun z=>by
 rcases List.mem_cons.mp z with rfl | z
 ·rw [S.frm _ q] at f;cases f
 rcases List.mem_cons.mp z with rfl | z
 ·refine je4 S.cel fun oc v c1 c2=>?_
  rw [c1] at q;cases q;exact nc v c2
 ·refine jg2 (S.lst x z) fun o' e1 _ e3=>?_
  rw [q] at e1;cases e1;rw [e3] at f;cases f
theorem kvj.dict (S:kvj h L a) {x:Addr} {o:Obj} (q:h.get? x=some o) (f:dsz o.data≠0) (nL:x≠L):x∉jy4 L a:=fun z=>by
 rcases List.mem_cons.mp z with z | z
 ·exact nL z
 rcases List.mem_cons.mp z with rfl | z
 ·refine je4 S.cel fun oc v c1 c2=>?_
  rw [c1] at q;cases q;rw [c2] at f;exact f rfl
 ·refine jg2 (S.lst x z) fun o' e1 e2 _=>?_
  rw [q] at e1;cases e1;exact f e2
theorem kb3.big (O:kb3 L rl hO eO a e d) {x:Addr} (h1:@LT.lt Nat instLTNat (L+1) x) (h2:@LT.lt Nat instLTNat x a.dO):x∉jy4 L a:=fun z=>by
 have o5:=O.l5
 have o6:=O.l6
 have o7:=O.l7
 have o8:=O.l8
 have o9:=O.l9
 have hL:@LT.lt Nat instLTNat L x:=Nat.lt_of_succ_lt h1
 simp only [jy4,List.mem_cons,List.not_mem_nil,or_false] at z
 rcases z with z | z | z | z | z | z | z | z <;> exact absurd z (neN (by walk_at "NE"))
theorem kb3.nO (O:kb3 L rl hO eO a e d):a.nO∉jy4 L a:=fun z=>by
 have o0:=O.l0
 have h10:=O.l1 0 (by decide)
 have h20:=O.l2 0 (by decide)
 have o3:=O.l3
 have o4:=O.l4
 have o5:=O.l5
 have o6:=O.l6
 have o7:=O.l7
 have o8:=O.l8
 have o9:=O.l9
 have o10:=O.l10
 have hL:@LT.lt Nat instLTNat L rl:=Nat.lt_of_succ_lt o0
 simp only [jy4,List.mem_cons,List.not_mem_nil,or_false] at z
 rcases z with z | z | z | z | z | z | z | z <;> exact absurd z (neN (by walk_at "NE"))
theorem LK.left (X:LK w hs h L rl hO eO it a e suite sec its n d turn wish heard dueL rows i) (O:kb3 L rl hO eO a e d) (hL:hs.get? L=none) (hc:hs.get? (L+1)=none) (S:kvj h L a) (H:jb8 h (jy4 L a) h') :
  LK w hs h' L rl hO eO it a e suite sec its n d turn wish heard dueL rows i:=by
 obtain ⟨kp,eo,ho,no,zs1,mu,du,it0⟩:=X
 refine je4 zs1 fun rs k ro rr=>?_
 try clear zs1
 have hd:Hards h h':=fun b o q f=>H b o q (S.soft q (by unfold ki6 at f;exact (Bool.and_eq_true_iff.mp f).1) (fun v c=>by unfold ki6 at f;rw [c,Bool.and_false] at f;cases f))
 have o0:=O.l0
 have o3:=O.l3
 have o4:=O.l4
 have h10:=O.l1 0 (by decide)
 have h20:=O.l2 0 (by decide)
 refine ⟨fun b o q f=>H b o (kp b o q f) (fun z=>?_),H _ _ eo (O.big (by walk_at "OM") (by walk_at "OM")),H _ _ ho (O.big (by walk_at "OM") (by walk_at "OM")),H _ _ no O.nO,(jhj rs k (H _ _ ro (O.big (by walk_at "OM") (by walk_at "OM"))) (rr.hd hd)),fun j hj=>?_,fun j hj=>(du j hj).hd hd (fun o q=>H _ o q (fun z=>?_)),H _ _ it0 (S.soft it0 rfl (by intro v c;cases c))⟩
 ·by_cases hb:b=L+1
  ·subst hb;rw [hc] at q;cases q
  by_cases hb2:b=L
  ·subst hb2;rw [hL] at q;cases q
  simp only [jy4,List.mem_cons] at z
  rcases z with z | z | z
  ·exact hb2 z
  ·exact hb z
  ·refine jg2 (S.lst b (by simpa using z)) fun o' e1 _ e3=>?_
   rw [kp b o q f] at e1;cases e1;rw [e3] at f;cases f
 ·have Y:=mu j hj
  obtain ⟨zs2,zs3,zs4,_⟩:=Y.kind
  refine jg2 zs2 fun o1 a1 s1 _=>?_
  try clear zs2
  refine jg2 zs3 fun o2 a2 s2 _=>?_
  try clear zs3
  refine jg2 zs4 fun o5 a3 s3 _=>?_
  try clear zs4
  have nl:=O.nl j hj
  have z1:=O.l1 j hj
  have z2:=O.l2 j hj
  have dc:∀ x o k,h.get? x=some o->dsz o.data=k->k≠0->x≠L->∀ o',h.get? x=some o'->h'.get? x=some o':=fun x o k q hz hk n o' q'=>by
   rw [q] at q';cases q'
   exact H x o q (S.dict q (by rw [hz];exact hk) n)
  exact Y.keep hd (dc _ _ 5 a1 s1 (by decide) nl.1) (dc _ _ 9 a2 s2 (by decide) nl.2.1) (dc _ _ 9 a3 s3 (by decide) nl.2.2) (fun o q=>H _ o q (O.big (by walk_at "OM") (by walk_at "OM")))
 ·have:=O.nd j hj
  simp only [jy4,List.mem_cons,List.not_mem_nil,or_false] at z
  rcases z with z | z | z | z | z | z | z | z <;> exact this _ (by first | k_mem | simp) z
theorem LK.next (X:LK w hs h L rl hO eO it a e suite sec its n d turn wish heard dueL rows i) (hit:hs.get? it=none) (H:Heap.SameBut it h h') (Hi:IsRangeIter h' it (0+((i+1:Nat):Int)*2) ((n:Int)-((i+1:Nat):Int)) 2) :
  LK w hs h' L rl hO eO it a e suite sec its n d turn wish heard dueL rows (i+1):=by
 obtain ⟨kp,eo,ho,no,zs5,mu,du,it0⟩:=X
 refine je4 zs5 fun rs k ro rr=>?_
 try clear zs5
 have hd:Hards h h':=Hards.of_iter H it0
 have nI:∀ b o,h.get? b=some o->jak o=false->h'.get? b=some o:=fun b o q f=>H.extBut b o (fun z=>by
  subst z
  rw [it0] at q;cases q;cases f) q
 refine ⟨fun b o q f=>H.extBut b o (fun z=>by subst z;rw [hit] at q;cases q) (kp b o q f),nI _ _ eo rfl,nI _ _ ho rfl,nI _ _ no rfl,(jhj rs k (nI _ _ ro rfl) (rr.hd hd)),fun j hj=>?_,fun j hj=>?_,Hi⟩
 ·have Y:=mu j hj
  have hri:∃ o,h.get? rl=some o∧dsz o.data=0∧jak o=false:=(jjv _ ro rfl rfl)
  have sf:=Y.kind.soft hri
  exact Y.keep hd (fun o q=>nI _ o q (sf _ (by first | k_mem | simp) o q)) (fun o q=>nI _ o q (sf _ (by first | k_mem | simp) o q)) (fun o q=>nI _ o q (sf _ (by first | k_mem | simp) o q)) (fun o q=>nI _ o q (sf _ (by first | k_mem | simp) o q))
 ·refine je4 (du j hj) fun ds kd d1 d2=>?_
  exact (jhj ds kd (nI _ _ d1 rfl) (ja9.hd hd d2))
noncomputable abbrev ko7 (b:EA) (rl:Addr):List Addr:=[b.dx,b.dr,b.dc,b.hl,rl]
noncomputable def upd {α:Type} (f:Nat->α) (i:Nat) (v:α):Nat->α:=fun j=>if j=i then v else f j
theorem jlj {α:Type} {f:Nat->α} {i:Nat} {v:α}:upd f i v i=v:=if_pos rfl
theorem jx8 {α:Type} {f:Nat->α} {i j:Nat} {v:α} (h:j≠i):upd f i v j=f j:=if_neg h
theorem LK.ne5 (X:LK w hs h L rl hO eO it a e suite sec its n d turn wish heard dueL rows i) {j:Nat} (hj:j<2) {x:Addr} {o:Obj} (q:h.get? x=some o) (z:dsz o.data=0) (n1:x≠(e j).hl) (n2:x≠rl):x∉ko7 (e j) rl:=fun hx=>by
 obtain ⟨zs6,zs7,zs8,_⟩:=(X.mu j hj).kind
 refine jg2 zs6 fun o1 a1 s1 _=>?_
 try clear zs6
 refine jg2 zs7 fun o2 a2 s2 _=>?_
 try clear zs7
 refine jg2 zs8 fun o3 a3 s3 _=>?_
 try clear zs8
 simp only [ko7,List.mem_cons,List.not_mem_nil,or_false] at hx
 rcases hx with hx | hx | hx | hx | hx
 ·exact jf1 q a1 (by rw [z,s1];decide) hx
 ·exact jf1 q a2 (by rw [z,s2];decide) hx
 ·exact jf1 q a3 (by rw [z,s3];decide) hx
 ·exact n1 hx
 ·exact n2 hx
theorem LK.call {g:Heap} {i0 t':Nat} {w':Bool} {l':List (String×String)} {rows':List Row} (X:LK w hs h L rl hO eO it a e suite sec its n d turn wish heard dueL rows i) (O:kb3 L rl hO eO a e d) (Z:jb5 w g hs L rl hO eO e sec) (hi:i0<2) (H:jb8 h (ko7 (e i0) rl) h')
  (Y:jd1 w.params h' (e i0) suite sec (jdq (1-i0)) (jdq i0) t' w' l') (R':∃ rs k,h'.get? rl=some (listOf rs k)∧jbv h' rs.toList rows') :
  LK w hs h' L rl hO eO it a e suite sec its n d (upd turn i0 t') (upd wish i0 w') (upd heard i0 l') dueL rows' i:=by
 have X0:=X
 obtain ⟨kp,eo,ho,no,zs9,mu,du,it0⟩:=X
 refine je4 zs9 fun rs k ro rr=>?_
 try clear zs9
 have hri:∃ o,h.get? rl=some o∧dsz o.data=0∧jak o=false:=(jjv _ ro rfl rfl)
 have sf:=(mu i0 hi).kind.soft hri
 have hd:Hards h h':=Hards.of_left H sf
 have z1:=O.l1 i0 hi
 have z2:=O.l2 i0 hi
 have o0:=O.l0
 have o3:=O.l3
 have o4:=O.l4
 have o5:=O.l5
 have o6:=O.l6
 have o7:=O.l7
 have o8:=O.l8
 have o9:=O.l9
 have o10:=O.l10
 have nd0:=fun j hj=>O.nd j hj (e i0).hl (by rcases (show i0=0∨i0=1 by walk_at "OM") with rfl | rfl <;> simp)
 have nd1:=fun j hj=>O.nd j hj rl (by first | k_mem | simp)
 refine ⟨fun b o q f=>H b o (kp b o q f) (fun z=>by rw [sf b z o (kp b o q f)] at f;cases f),H _ _ eo (X0.ne5 hi eo rfl (ltN z2 |> fun _=>neN (by walk_at "OM")) (neN (by walk_at "OM"))),H _ _ ho (X0.ne5 hi ho rfl (neN (by walk_at "OM")) (neN (by walk_at "OM"))),H _ _ no (X0.ne5 hi no rfl (neN (by walk_at "OM")) (neN (by walk_at "OM"))),R',fun j hj=>?_,fun j hj=>?_,H _ _ it0 (fun z=>by have:=sf _ z _ it0;cases this)⟩
 ·by_cases hji:j=i0
  ·subst hji
   rw [jlj,jlj,jlj];exact Y
  ·rw [jx8 hji,jx8 hji,jx8 hji]
   have Yj:=mu j hj
   have nn:=(mu i0 hi).kind.ne Yj.kind (Z.apart hi hj (fun z=>hji z.symm)) hri (Z.nrl hj)
   exact Yj.keep hd (fun o q=>H _ o q (nn _ (by first | k_mem | simp))) (fun o q=>H _ o q (nn _ (by first | k_mem | simp))) (fun o q=>H _ o q (nn _ (by first | k_mem | simp))) (fun o q=>H _ o q (nn _ (by first | k_mem | simp)))
 ·refine je4 (du j hj) fun ds kd d1 d2=>?_
  exact (jhj ds kd (H _ _ d1 (X0.ne5 hi d1 rfl (nd0 j hj) (nd1 j hj))) (ja9.hd hd d2))
end
end
theorem fl42:True:=by first|walk1|trivial
section
local macro_rules (kind:=PyProof.Rows.tacticWalk_at_) | s=>jex "AJaPGHEQRV&" s
theorem jej {x:Str} {v:Value} {r:Option Value}:(if x=x then some v else r)=some v:=if_pos rfl
theorem jaw {x n:Str} {a r o:Option Value} (h:x≠n) (e:r=o):(if x=n then a else r)=o:=(if_neg h).trans e
theorem jbq {a b:String} (h:(a==b)=false):ofString a≠ofString b:=fun q=>by
 rw [je5] at q
 subst q
 simp at h
theorem _root_.PyProof.Rows.News.rest {g h:Heap} {L:Addr} {as:List Addr} {l R:List (Addr×Obj)} (N:News g L h l) (r:kb2 g h L as R):News g L h (l++R):=fun p hp=>by
 rcases List.mem_append.mp hp with hp | hp
 ·exact N p hp
 ·exact r.news p hp
theorem kw3 {p:Addr×Obj} {l R:List (Addr×Obj)} (h:p∈l++[]):p∈l++R:=by
 rw [List.append_nil] at h
 exact List.mem_append_left _ h
theorem jij {p a1 a2 a3 a4 a5 a6 a7 a8 a9:Addr×Obj} {R:List (Addr×Obj)} (h:p∈a1::a2::a3::a4::a5::a6::a7::a8::a9::[]):p∈a1::a2::a3::a4::a5::a6::a7::a8::a9::R:=kw3 (l:=[a1,a2,a3,a4,a5,a6,a7,a8,a9]) h
noncomputable def free12 (x:String):Bool:=["numbers", "sent", "expected", "count", "wishes", "turns", "due", "ends", "heard", "cid", "length", "_cipher_name"].all fun n=>!(n==x)
theorem ja8.set {m:Str->Option Value} {a:LA} {eO hO:Addr} {cid:Array UInt8} {len:Int} {x:String} {r:Option Value} (X:ja8 m a eO hO cid len) (hx:free12 x=true):ja8 (fun y=>if y=ofString x then r else m y) a eO hO cid len:=by
 have hx':(∀ n∈["numbers", "sent", "expected", "count", "wishes", "turns", "due", "ends", "heard", "cid", "length", "_cipher_name"],(n==x)=false):=fun n hn=>by
  have:=List.all_eq_true.mp hx n hn
  cases h:(n==x)
  ·rfl
  ·rw [h] at this;cases this
 have k:∀ n∈["numbers", "sent", "expected", "count", "wishes", "turns", "due", "ends", "heard", "cid", "length", "_cipher_name"],∀ o,m (ofString n)=o->(fun y=>if y=ofString x then r else m y) (ofString n)=o:=fun n hn o ho=>jaw (jbq (hx' n hn)) ho
 obtain ⟨n1,n2,n3,n4,n5,n6,n7,n8,n9,⟨tc,n10⟩,⟨tl,n11⟩,n12⟩:=X
 exact ⟨k _ (by first | k_mem | simp) _ n1,k _ (by first | k_mem | simp) _ n2,k _ (by first | k_mem | simp) _ n3,k _ (by first | k_mem | simp) _ n4,k _ (by first | k_mem | simp) _ n5,k _ (by first | k_mem | simp) _ n6,k _ (by first | k_mem | simp) _ n7,k _ (by first | k_mem | simp) _ n8,k _ (by first | k_mem | simp) _ n9,⟨tc,k _ (by first | k_mem | simp) _ n10⟩,⟨tl,k _ (by first | k_mem | simp) _ n11⟩,k _ (by first | k_mem | simp) _ n12⟩
section
variable {prog:Program} {w:World} {A:Around} {E:Value->Shared->Prop} {s:Shared} {g:Heap} {env:Env}
theorem js1 {h h2:Heap} {L eO nO:Addr} {m m2:Str->Option Value} {as:List Addr} {R news2:List (Addr×Obj)} {on oe:Obj} (r:kb2 g h L (nO::eO::as) R) (F:Fr g L h m) (F2:Fr g L h2 m2) (N2:News g L h2 news2) (hs:∀ p∈R,p∈news2) (hn:h.get? nO=some on) (he:h.get? eO=some oe) (hn2:h2.get? nO=some on) (he2:h2.get? eO=some oe):jb8 h (L::as) h2:=fun b o q n=>by
 by_cases b1:b=nO
 ·subst b1;rw [hn] at q;cases q;exact hn2
 by_cases b2:b=eO
 ·subst b2;rw [he] at q;cases q;exact he2
 refine r.left F F2 N2 hs b o q (fun z=>?_)
 rcases List.mem_cons.mp z with z | z
 ·exact n (z▸List.mem_cons_self ..)
 rcases List.mem_cons.mp z with z | z
 ·exact b1 z
 rcases List.mem_cons.mp z with z | z
 ·exact b2 z
 ·exact n (List.mem_cons_of_mem _ z)
end
theorem jdw {h:Heap} {L eO:Addr} {m:Str->Option Value} {a:LA} {R:List (Addr×Obj)} {xn xe x1 x2 x3 x4 x5 x6 x7:Obj} (r:kb2 g h L [a.nO,eO,L+1,a.dO,a.tO,a.wO,a.cO,a.xO,a.sO] R) (F:Fr g L h m) (N:News g L h ((a.nO,xn)::(eO,xe)::(L+1,x1)::(a.dO,x2)::(a.tO,x3)::(a.wO,x4)::(a.cO,x5)::(a.xO,x6)::(a.sO,x7)::[])) :
  ∀ (h2:Heap) (m2:Str->Option Value) (y1 y2 y3 y4 y5 y6 y7:Obj),Fr g L h2 m2->News g L h2 ((a.nO,xn)::(eO,xe)::(L+1,y1)::(a.dO,y2)::(a.tO,y3)::(a.wO,y4)::(a.cO,y5)::(a.xO,y6)::(a.sO,y7)::R)->jb8 h (jy4 L a) h2:=fun h2 m2 y1 y2 y3 y4 y5 y6 y7 F2 N2 =>
 js1 r F F2 N2 (fun p hp=>.tail _ (mt8 hp)) (N _ (.head _)).1 (N _ me1).1 (N2 _ (.head _)).1 (N2 _ me1).1
noncomputable def jy9:List Stmt:=jpk (jdv.drop 14)
noncomputable abbrev koz:=jaj jy9
section
variable {w:World} {mg mb:Str->Option Value} {g:Heap} {s:Shared} {A:Around} {E:Value->Shared->Prop} {Q:Flow->Shared->Prop}
theorem ke4 {fa L rl hO eO it:Addr} {cd:Value} {a:LA} {e:Nat->EA} {d:Nat->Addr} {cid:Array UInt8} {len suite sec:Int} {its:Array Value}{T1 T2 T3:Nat->Tok} {kk:Nat} {vs:List Value} {oc:Obj} {vc:Option Value} {turn count expect:Nat->Nat} {wish:Nat->Bool} {m:Str->Option Value} {nums:List Int} {i n0:Nat} {u:Tok} (B':jbw w mg mb g) (hC:jav A 16) (NM:ja8 m a eO hO cid len) (O:kb3 L rl hO eO a e d)
  (F:Fr g L s.heap (fun y=>if y = "at" then some (.int (((2*i:Nat):Nat):Int) u) else m y)) (N:News g L s.heap ((a.nO,listOf its 0)::(eO,listOf (two fun j=>.ref (e j).x) 0)::(L+1,oc)::(a.dO,listOf (two fun j=>.ref (d j)) 0)::(a.tO,listOf (two fun j=>.int ((turn j:Nat):Int) (T1 j)) 0)::(a.wO,listOf (two fun j=>.bool (wish j)) 0)::(a.cO,listOf (two fun j=>.int ((count j:Nat):Int) (T2 j)) 0)::(a.xO,listOf (two fun j=>.int ((expect j:Nat):Int) (T3 j)) 0)::(a.sO,listOf vs.toArray kk)::[])) (hoc:oc.data=.cell vc) (hI:IntsAre its.toList nums) (hz:nums.length≤48) (hi:2*i<nums.length)
  (h:∀ h' tk oc' u1 u2 u3 wv tw,oc'.data=.cell (some (.int wv tw))->Fr g L h' (fun y=>if y = "which" then some (.int (((nums.getD (2*i) 0).fmod 6).fmod 2) u1) else if y = "what" then some (.int ((nums.getD (2*i) 0).fmod 6) u2) else if y = "more" then some (.int ((nums.getD (2*i) 0).fdiv 6) u3) else if y = "at" then some (.int (((2*i:Nat):Nat):Int) u) else m y) →
   News g L h' ((a.nO,listOf its 0)::(eO,listOf (two fun j=>.ref (e j).x) 0)::(L+1,oc')::(a.dO,listOf (two fun j=>.ref (d j)) 0)::(a.tO,listOf (two fun j=>.int ((turn j:Nat):Int) (T1 j)) 0)::(a.wO,listOf (two fun j=>.bool (wish j)) 0)::(a.cO,listOf (two fun j=>.int ((count j:Nat):Int) (T2 j)) 0)::(a.xO,listOf (two fun j=>.int ((expect j:Nat):Int) (T3 j)) 0)::(a.sO,listOf vs.toArray kk)::[])->jb8 s.heap (jy4 L a) h'->Q .next { s with heap:=h',toks:=tk }) :
  wpAny (model pw w) (A.deeper (envOfC "law" jaq L fa cd)) (execs (koz.take 3) (envOfC "law" jaq L fa cd)) Q E s:=by
 refine openA A hC fun dp fr un hC=>?_
 have KX:=B'.k
 have TR:=B'.t
 have hlen:=hI.length
 have NM0:=NM
 obtain ⟨n1,n2,n3,n4,n5,n6,n7,n8,n9,⟨tc,n10⟩,⟨tl,n11⟩,n12⟩:=NM
 obtain ⟨R,r⟩:=jck g s.heap L [a.nO,eO,L+1,a.dO,a.tO,a.wO,a.cO,a.xO,a.sO]
 have N0:News g L s.heap ((a.nO,listOf its 0)::(eO,listOf (two fun j=>.ref (e j).x) 0)::(L+1,oc)::(a.dO,listOf (two fun j=>.ref (d j)) 0)::(a.tO,listOf (two fun j=>.int ((turn j:Nat):Int) (T1 j)) 0)::(a.wO,listOf (two fun j=>.bool (wish j)) 0)::(a.cO,listOf (two fun j=>.int ((count j:Nat):Int) (T2 j)) 0)::(a.xO,listOf (two fun j=>.int ((expect j:Nat):Int) (T3 j)) 0)::(a.sO,listOf vs.toArray kk)::R):=N.rest r
 have o0:=O.l0
 have o1:=O.l1 0 (by decide)
 have o2:=O.l2 0 (by decide)
 have o3:=O.l3
 have o4:=O.l4
 have o5:=O.l5
 have o6:=O.l6
 have o7:=O.l7
 have o8:=O.l8
 have o9:=O.l9
 have o10:=O.l10
 have r1:=r.ne (a:=L+1) (by first | k_mem | simp)
 have hold:=jdw r F N
 try simp only [List.take_succ_cons,List.take_zero,List.drop_succ_cons,List.drop_zero]
 walk_at "GO"
 all_goals
  rename_i F2 N2
  rw [Int.toNat_natCast] at F2
  have N3:News g L _ _:=jb1 N2
  refine h _ _ _ _ _ _ _ _ (by assumption) F2 (fun p hp=>N3 p (jij hp)) (hold _ _ _ _ _ _ _ _ _ F2 N3)
end
end
theorem fl43:True:=by first|walk1|trivial
section
local macro_rules (kind:=PyProof.Rows.tacticWalk_at_) | s=>jex "AJaPGHEQRV&qrm^" s
local macro_rules | `(tactic| k_inst)=>jo2 "J^" "k_inst"
structure jmq (w:World) (g hs:Heap) (L rl hO eO it:Addr) (a:LA) (e:Nat->EA) (suite sec:Int) (its:Array Value) (n:Nat) (vc:Option Value) (S W:St) (dueL:Nat->List (String×String)) (d:Nat->Addr) (i:Nat) (h:Heap):Prop where
 lk:LK w hs h L rl hO eO it a e suite sec its n d S.turn S.wish S.heard dueL S.rows i
 ord:kb3 L rl hO eO a e d
 dg:∀ j,j<2->g.get? (d j)=none
 own:∃ (T1 T2 T3:Nat->Tok) (kk:Nat) (vs:List Value) (oc:Obj),oc.data=.cell vc∧jd0 h vs W.sent∧News g L h ((a.nO,listOf its 0)::(eO,listOf (two fun j=>.ref (e j).x) 0)::(L+1,oc)::(a.dO,listOf (two fun j=>.ref (d j)) 0)::(a.tO,listOf (two fun j=>.int ((W.turn j:Nat):Int) (T1 j)) 0)::(a.wO,listOf (two fun j=>.bool (W.wish j)) 0)::(a.cO,listOf (two fun j=>.int ((W.count j:Nat):Int) (T2 j)) 0)::(a.xO,listOf (two fun j=>.int ((W.expect j:Nat):Int) (T3 j)) 0)::(a.sO,listOf vs.toArray kk)::[])
abbrev Mid (w:World) (g hs:Heap) (L rl hO eO it:Addr) (a:LA) (e:Nat->EA) (suite sec:Int) (its:Array Value) (n:Nat) (vc:Option Value) (S:St) (dueL:Nat->List (String×String)) (d:Nat->Addr) (i:Nat) (h:Heap):Prop:=jmq w g hs L rl hO eO it a e suite sec its n vc S S dueL d i h
theorem jg5 {α:Type} {f:Nat->α} {j:Nat}:upd f j (f j)=f:=by
 funext x
 unfold upd
 split
 ·rename_i h;rw [h]
 ·rfl
section
variable {w:World} {g hs h h':Heap} {L rl hO eO it:Addr} {a:LA} {e:Nat->EA} {suite sec:Int} {its:Array Value} {n:Nat} {d:Nat->Addr} {turn:Nat->Nat} {wish:Nat->Bool} {heard dueL:Nat->List (String×String)} {rows:List Row} {i:Nat}
theorem jr4 (Z:jb5 w g hs L rl hO eO e sec) {j:Nat} (hj:j<2):∀ x∈ko7 (e j) rl,x≠L∧g.get? x=none:=fun x hx=>by
 refine xAA (Z.nl j hj) fun q1 q2 q3=>?_
 have O:=Z.off j hj
 simp only [ko7,List.mem_cons,List.not_mem_nil,or_false] at hx
 rcases hx with rfl | rfl | rfl | rfl | rfl
 ·exact ⟨q1,O.a1⟩
 ·exact ⟨q2,O.a2⟩
 ·exact ⟨q3,O.a3⟩
 ·exact ⟨Z.hlL hj,O.a4⟩
 ·have:=Z.l1;exact ⟨(ltN (show @LT.lt Nat instLTNat L _ by walk_at "OM")).symm,Z.orl⟩
theorem jrz (X:LK w hs h L rl hO eO it a e suite sec its n d turn wish heard dueL rows i) (O:kb3 L rl hO eO a e d) {j:Nat} (hj:j<2) {its' sv:Array Value} {f1 f2 f3 f4 f5 f6:Nat->Value} {kk:Nat} {oc:Obj} {vc:Option Value} (hoc:oc.data=.cell vc) (H:jb8 h (ko7 (e j) rl) h')
  (N:News g L h [(a.nO,listOf its' 0),(eO,listOf (two f1) 0),(L+1,oc),(a.dO,listOf (two f2) 0),(a.tO,listOf (two f3) 0),(a.wO,listOf (two f4) 0),(a.cO,listOf (two f5) 0),(a.xO,listOf (two f6) 0),(a.sO,listOf sv kk)]) :
  News g L h' [(a.nO,listOf its' 0),(eO,listOf (two f1) 0),(L+1,oc),(a.dO,listOf (two f2) 0),(a.tO,listOf (two f3) 0),(a.wO,listOf (two f4) 0),(a.cO,listOf (two f5) 0),(a.xO,listOf (two f6) 0),(a.sO,listOf sv kk)]:=by
 have o0:=O.l0
 have o1:=O.l1 0 (by decide)
 have o2:=O.l2 0 (by decide)
 have o3:=O.l3
 have o4:=O.l4
 have o5:=O.l5
 have o6:=O.l6
 have o7:=O.l7
 have o8:=O.l8
 have o9:=O.l9
 have o10:=O.l10
 have z1:=O.l1 j hj
 have z2:=O.l2 j hj
 have z9:∀ p∈[(a.nO,listOf its' 0),(eO,listOf (two f1) 0),(L+1,oc),(a.dO,listOf (two f2) 0),(a.tO,listOf (two f3) 0),(a.wO,listOf (two f4) 0),(a.cO,listOf (two f5) 0),(a.xO,listOf (two f6) 0),(a.sO,listOf sv kk)],p.1∉ko7 (e j) rl:=jbj (X.ne5 hj (N _ (.head _)).1 rfl (neN (by first | walk_at "NE" | omega)) (neN (by first | walk_at "NE" | omega))) (jbj (X.ne5 hj (N _ me1).1 rfl (neN (by first | walk_at "NE" | omega)) (neN (by first | walk_at "NE" | omega))) (jbj (X.ne5 hj (N _ me2).1 (by show dsz oc.data=0;rw [hoc];rfl) (neN (by first | walk_at "NE" | omega)) (neN (by first | walk_at "NE" | omega))) (jbj (X.ne5 hj (N _ me3).1 rfl (neN (by first | walk_at "NE" | omega)) (neN (by first | walk_at "NE" | omega))) (jbj (X.ne5 hj (N _ me4).1 rfl (neN (by first | walk_at "NE" | omega)) (neN (by first | walk_at "NE" | omega))) (jbj (X.ne5 hj (N _ me5).1 rfl (neN (by first | walk_at "NE" | omega)) (neN (by first | walk_at "NE" | omega))) (jbj (X.ne5 hj (N _ me6).1 rfl (neN (by first | walk_at "NE" | omega)) (neN (by first | walk_at "NE" | omega))) (jbj (X.ne5 hj (N _ me7).1 rfl (neN (by first | walk_at "NE" | omega)) (neN (by first | walk_at "NE" | omega))) (jgw (X.ne5 hj (N _ me8).1 rfl (neN (by first | walk_at "NE" | omega)) (neN (by first | walk_at "NE" | omega)))))))))))
 exact jj1 N H fun p hp=>⟨hp,z9 p hp⟩
theorem _root_.Mine.Internal.Hards.of_own {a:LA} {h h':Heap} {L:Addr} (S:kvj h L a) (H:jb8 h (jy4 L a) h'):Hards h h':=fun b o q f=>H b o q (S.soft q (by unfold ki6 at f;exact (Bool.and_eq_true_iff.mp f).1) (fun v c=>by unfold ki6 at f;rw [c,Bool.and_false] at f;cases f))
theorem jj0 {m:Str->Option Value} {x2 x3 x4 x5 x6 x7 xn xe:Array Value} {kk:Nat} {oc:Obj} {vc:Option Value} (F:Fr g L h m) (hm:m "_cipher_name" = none) (hoc:oc.data=.cell vc) (N:News g L h ((a.nO,listOf xn 0)::(eO,listOf xe 0)::(L+1,oc)::(a.dO,listOf x2 0)::(a.tO,listOf x3 0)::(a.wO,listOf x4 0)::(a.cO,listOf x5 0)::(a.xO,listOf x6 0)::(a.sO,listOf x7 kk)::[])):kvj h L a:=by
 refine ⟨jbj ((jjv _ ((N (a.dO,listOf x2 0) (by first | k_mem | simp)).1) rfl rfl)) (jbj ((jjv _ ((N (a.tO,listOf x3 0) (by first | k_mem | simp)).1) rfl rfl)) (jbj ((jjv _ ((N (a.wO,listOf x4 0) (by first | k_mem | simp)).1) rfl rfl)) (jbj ((jjv _ ((N (a.cO,listOf x5 0) (by first | k_mem | simp)).1) rfl rfl)) (jbj ((jjv _ ((N (a.xO,listOf x6 0) (by first | k_mem | simp)).1) rfl rfl)) (jgw ((jjv _ ((N (a.sO,listOf x7 kk) (by first | k_mem | simp)).1) rfl rfl))))))),fun o q=>jg7 F.ns hm q,oc,vc,(N (L+1,oc) (by first | k_mem | simp)).1,hoc⟩
end
section
variable {prog:Program} {w:World} {A:Around} {E:Value->Shared->Prop} {s:Shared} {g:Heap} {L D:Addr} {m:Str->Option Value} {news news':List (Addr×Obj)}
theorem kr5 {x y z:Int} {u u':Tok} {Q:Value->Shared->Prop} (hy:y≠0) (e:x.fmod y=z) (h:Q (.int z s.toks) { s with toks:=s.toks+1 }):wpAny (model prog w) A (binaryOp .Mod (.int x u) (.int y u')) Q E s:=by
 refine mod_int' hy ?_
 rw [e]
 exact h
theorem kv6 {f:Nat->Value} {i k:Nat} {u:Tok} {v:Value} {Q:Unit->Shared->Prop} (F:Fr g L s.heap m) (N:News g L s.heap news) (hi:i<2) (U:Upd D (listOf (two f) k) (listOf (two (upd f i v)) k) news news')
  (h:∀ h',Fr g L h' m->News g L h' news'->Q () { s with heap:=h' }):wpAny (model prog w) A (setItem (.ref D) (.int (i:Int) u) v) Q E s:=by
 refine jsx U.split fun pre post zq113 zq114 a b=>?_
 obtain rfl:=zq113
 obtain rfl:=zq114
 have z:=N (D,listOf (two f) k) (List.mem_append.mpr (.inr (.head _)))
 refine ki_setAt z.1 (by walk_at "OM") (by walk_at "OM") (by rw [km9];walk_at "OM") (h _ (F.change (Heap.SameBut.update ..) z.2.1 z.2.2) (ki_turn _ N a b ?_ ?_))
 ·rw [Int.toNat_natCast];exact kv2 hi
 ·rfl
end
noncomputable def ifs (l:List Stmt):List Stmt×List Stmt:=((unS (l.headD noS)).2.2.1,(unS (l.headD noS)).2.2.2.1)
noncomputable def updBo:List Stmt:=(ifs (ifs (jy9.drop 3)).2).1
noncomputable abbrev updB:=jaj updBo
section
variable {w:World} {mg mb:Str->Option Value} {g:Heap} {s:Shared} {A:Around} {E:Value->Shared->Prop} {Q:Flow->Shared->Prop}
theorem kpk {fa L rl hO eO it:Addr} {cd:Value} {a:LA} {e:Nat->EA} {d:Nat->Addr} {cid:Array UInt8} {len suite sec:Int} {its:Array Value} {hs:Heap} {n i:Nat} {S:St} {dueL:Nat->List (String×String)} {vc:Option Value} {m:Str->Option Value} {x:Int} {um:Tok} {j:Nat} (B':jbw w mg mb g) (hC:jav A 16) (NM:ja8 m a eO hO cid len) (Z:jb5 w g hs L rl hO eO e sec) (M:Mid w g hs L rl hO eO it a e suite sec its n vc S dueL d i s.heap)
  (F:Fr g L s.heap m) (hm:m "more" = some (.int x um)) (hx:x.fmod 2=((j:Nat):Int)) (hj:j<2)
  (h:∀ h' tk,Fr g L h' m->Mid w g hs L rl hO eO it a e suite sec its n vc { S with wish:=upd S.wish j true } dueL d i h'->Q .next { s with heap:=h',toks:=tk }) :
  wpAny (model pw w) (A.deeper (envOfC "law" jaq L fa cd)) (execs updB (envOfC "law" jaq L fa cd)) Q E s:=by
 refine openA A hC fun dp fr un hC=>?_
 have KX:=B'.k
 have TR:=B'.t
 obtain ⟨X,O,DG,T1,T2,T3,kk,vs,oc,hoc,hsv,N⟩:=M
 have NM0:=NM
 obtain ⟨n1,n2,n3,n4,n5,n6,n7,n8,n9,zs1,zs2,n12⟩:=NM
 refine xE zs1 fun tc n10=>?_
 try clear zs1
 refine xE zs2 fun tl n11=>?_
 try clear zs2
 have o0:=O.l0
 have o1:=O.l1 0 (by decide)
 have o2:=O.l2 0 (by decide)
 have o3:=O.l3
 have o4:=O.l4
 have o5:=O.l5
 have o6:=O.l6
 have o7:=O.l7
 have o8:=O.l8
 have o9:=O.l9
 have o10:=O.l10
 have Ej:=(X.mu j hj).up (jd6 (fun b o q f _=>X.kp b o q f) (Z.fx j hj))
 have px:=Ej.fx.px
 refine xE Ej.pd fun Tp pd=>?_
 walk_at "GO"
 refine ja0 (kn1 B' F.keep (hC.deeper.le (by decide)) Ej (Z.off j hj)) fun v h1 tk1 H1 p1=>?_
 refine xA p1 fun zq112 E1=>?_
 try clear p1
 obtain rfl:=zq112
 have H5:jb8 s.heap (ko7 (e j) rl) h1:=H1.mono (by first | k_mem | simp)
 refine je4 X.ro fun rs kr ro rr=>?_
 have nrl:rl≠(e j).dx:=fun q=>by
  refine jg2 ((X.mu j hj).kind.k1) fun od q1 q2 _=>?_
  rw [q] at ro
  exact jf1 ro q1 (by rw [q2];exact (by decide:(0:Nat)≠5)) rfl
 have hd5:Hards s.heap h1:=Hards.of_left H5 ((X.mu j hj).kind.soft (jjv _ ro rfl rfl))
 have X1:=X.call O Z hj H5 E1.mu (jhj rs kr (H1 _ _ ro (fun z=>nrl (List.mem_singleton.mp z))) (rr.hd hd5))
 rw [jg5,jg5] at X1
 have F1:=jc0 F H5 (jr4 Z hj)
 have N1:=jrz X O hj hoc H5 N
 have sv1:=hsv.hd hd5
 refine xE (jck g h1 L [a.nO,eO,L+1,a.dO,a.tO,a.wO,a.cO,a.xO,a.sO]) fun R r=>?_
 have hold:=jdw r F1 N1
 have S1:=jj0 F1 n12 hoc N1
 have N0:=N1.rest r
 have rw1:=r.ne (a:=a.wO) (by first | k_mem | simp)
 try dsimp only [List.nil_append,List.cons_append] at N0
 clear N N1 H1 F px pd
 walk_at "GO"
 rename_i h3 F3 N3
 have LL:=hold _ _ _ _ _ _ _ _ _ F3 N3
 have X3:=X1.left O Z.hL Z.hc S1 LL
 have hd3:Hards h1 h3:=Hards.of_own S1 LL
 refine h h3 _ F3 ⟨X3,O,DG,T1,T2,T3,kk,vs,oc,hoc,sv1.hd hd3,fun p hp=>?_⟩
 have ew:(fun i=>Value.bool (upd S.wish j true i))=upd (fun i=>Value.bool (S.wish i)) j (Value.bool true):=by
  funext i;unfold upd;split <;> rfl
 dsimp only at hp
 rw [ew] at hp
 exact N3 p (jij hp)
end
end
theorem fl44:True:=by first|walk1|trivial
section
local macro_rules (kind:=PyProof.Rows.tacticWalk_at_) | s=>jex "AJaPGHEQRV&stm" s
noncomputable def jew (cid:Array UInt8) (Ln ph c:Nat):Array UInt8:=(([64+4*((ph:Nat):Int)+((Ln:Nat):Int)-1].map fun n=>n.toNat.toUInt8).toArray++cid)++BE Ln (c % 256 ^ Ln)
theorem jlw {cid:Array UInt8} {Ln ph c:Nat}:(jew cid Ln ph c).size=1+cid.size+Ln:=by
 unfold jew
 simp only [Array.size_append,jdk,List.size_toArray,List.length_map,List.length_cons,List.length_nil]
theorem js4 {cid:Array UInt8} {Ln ph c:Nat} (h1:1≤Ln) (hL:Ln≤4) (hp:ph<2):gB (jew cid Ln ph c) 0=64+4*ph+Ln-1:=by
 unfold jew
 rw [jh5,if_pos (by simp only [Array.size_append,List.size_toArray,List.length_map,List.length_cons,List.length_nil];lia),jh5,if_pos (by first | k_mem | simp)]
 show gB (byteArr [64+4*((ph:Nat):Int)+((Ln:Nat):Int)-1]) 0=_
 rw [jk5 (by first | k_mem | simp) (fun k hk=>by obtain rfl:=List.mem_singleton.mp hk;walk_at "OM")]
 show (64+4*((ph:Nat):Int)+((Ln:Nat):Int)-1).toNat=_
 lia
theorem kcw {cid:Array UInt8} {Ln ph c q:Nat}:gB (jew cid Ln ph c) (1+cid.size+q)=gB (BE Ln (c % 256 ^ Ln)) q:=by
 unfold jew
 have e:(([64+4*((ph:Nat):Int)+((Ln:Nat):Int)-1].map fun n=>n.toNat.toUInt8).toArray++cid).size=1+cid.size:=by
  simp only [Array.size_append,List.size_toArray,List.length_map,List.length_cons,List.length_nil]
 rw [jh5,e,if_neg (by lia),Nat.add_sub_cancel_left]
section
variable {prog:Program} {w:World} {A:Around} {E:Value->Shared->Prop} {s:Shared} {g:Heap} {L:Addr} {m:Str->Option Value}
theorem kwx {Ln:Nat} {t u:Tok} {Q:Value->Shared->Prop} (hl:Ln≤4) (h:Q (.int ((256 ^ Ln:Nat):Int) s.toks) { s with toks:=s.toks+1 }):wpAny (model prog w) A (binaryOp .Pow (.int 256 t) (.int ((Ln:Nat):Int) u)) Q E s:=by
 refine pow_int_small (by walk_at "OM") (by walk_at "OM") (by decide) ?_
 rw [Int.toNat_natCast]
 have e:(256:Int) ^ Ln=((256 ^ Ln:Nat):Int):=by push_cast;rfl
 rw [e]
 exact h
theorem jw7 {mg mb:Str->Option Value} {news:List (Addr×Obj)} {e:EA} {suite sec:Int} {nr ns turn:Nat} {wish:Bool} {heard:List (String×String)} {expr:Bool} {Q:Value->Shared->Prop} (F:Fr g L s.heap m) (N:News g L s.heap news) (B:jbw w mg mb g) (hC:jav A 3) (X:jev w.params s.heap e suite sec nr ns turn wish heard)
  (h:∀ t h' tk,Fr g L h' m->News g L h' news->jb8 s.heap [] h'->Q (.int (((turn+(if wish then 1 else 0)) % 2:Nat):Int) t) { s with heap:=h',toks:=tk }):wpAny (model pw w) A (getAttr (.ref e.x) "key_phase" expr) Q E s:=by
 refine xE X.pd fun Tp pd=>?_
 refine get_prop (p:=333) (fget:=332) F B.k (InstAt.of_raw X.fx.px pd) (by k_is) (by k_is) (by k_is) (by k_is) (by k_is) (by k_is) ?_
 have hC1:jav A.in1 2:=hC.in1
 refine jpj (s:={ s with toks:=s.toks+1 }) B F.keep hC1 X _ fun v h' tk H P=>?_
 refine xE P fun t zq2=>?_
 try clear P
 obtain rfl:=zq2
 exact handed_on rfl (h t h' tk (jc9 F H) (jc7 N H) H)
end
section
variable {w:World} {g hs h h':Heap} {L rl hO eO it:Addr} {a:LA} {e:Nat->EA} {suite sec:Int} {its:Array Value} {n i kk:Nat} {d:Nat->Addr} {dueL:Nat->List (String×String)} {S:St} {vc:Option Value} {oc:Obj} {vs:List Value} {T1 T2 T3:Nat->Tok}
theorem Mid.same (X:LK w hs h L rl hO eO it a e suite sec its n d S.turn S.wish S.heard dueL S.rows i) (O:kb3 L rl hO eO a e d) (DG:∀ j,j<2->g.get? (d j)=none) (Z:jb5 w g hs L rl hO eO e sec) (S1:kvj h L a) (hsv:jd0 h vs S.sent) (hoc:oc.data=.cell vc) (LL:jb8 h (jy4 L a) h')
  (N:News g L h' ((a.nO,listOf its 0)::(eO,listOf (two fun j=>.ref (e j).x) 0)::(L+1,oc)::(a.dO,listOf (two fun j=>.ref (d j)) 0)::(a.tO,listOf (two fun j=>.int ((S.turn j:Nat):Int) (T1 j)) 0)::(a.wO,listOf (two fun j=>.bool (S.wish j)) 0)::(a.cO,listOf (two fun j=>.int ((S.count j:Nat):Int) (T2 j)) 0)::(a.xO,listOf (two fun j=>.int ((S.expect j:Nat):Int) (T3 j)) 0)::(a.sO,listOf vs.toArray kk)::[])):Mid w g hs L rl hO eO it a e suite sec its n vc S dueL d i h':=⟨X.left O Z.hL Z.hc S1 LL,O,DG,T1,T2,T3,kk,vs,oc,hoc,hsv.hd (Hards.of_own S1 LL),N⟩
end
noncomputable def sendBo:List Stmt:=(ifs (jy9.drop 3)).1
noncomputable abbrev jw0:=jaj sendBo
section
variable {w:World} {mg mb:Str->Option Value} {g:Heap} {s:Shared} {A:Around} {E:Value->Shared->Prop} {Q:Flow->Shared->Prop}
theorem kcj {fa L rl hO eO it:Addr} {cd:Value} {a:LA} {e:Nat->EA} {d:Nat->Addr} {cid:Array UInt8} {suite sec:Int} {its:Array Value} {hs:Heap} {n i:Nat} {S:St} {dueL:Nat->List (String×String)} {vc:Option Value} {m:Str->Option Value} {uw:Tok} {j Ln:Nat} (B':jbw w mg mb g) (hC:jav A 16) (NM:ja8 m a eO hO cid ((Ln:Nat):Int)) (Z:jb5 w g hs L rl hO eO e sec) (M:Mid w g hs L rl hO eO it a e suite sec its n vc S dueL d i s.heap) (F:Fr g L s.heap m) (hj:j<2) (hw:m "which" = some (.int ((j:Nat):Int) uw)) (hL:2≤Ln) (hL4:Ln≤4) (hcs:cid.size≤5)
  (h:∀ h' tk tp,Fr g L h' (fun y=>if y = "plain" then some (.bytes (jew cid Ln ((S.turn j+(if S.wish j then 1 else 0)) % 2) (S.count j)) tp) else m y)->Mid w g hs L rl hO eO it a e suite sec its n vc S dueL d i h'->Q .next { s with heap:=h',toks:=tk }) :
  wpAny (model pw w) (A.deeper (envOfC "law" jaq L fa cd)) (execs (jw0.take 1) (envOfC "law" jaq L fa cd)) Q E s:=by
 refine openA A hC fun dp fr un hC=>?_
 have KX:=B'.k
 have TR:=B'.t
 obtain ⟨X,O,DG,T1,T2,T3,kk,vs,oc,hoc,hsv,N⟩:=M
 have NM0:=NM
 obtain ⟨n1,n2,n3,n4,n5,n6,n7,n8,n9,zs1,zs2,n12⟩:=NM
 refine xE zs1 fun tc n10=>?_
 try clear zs1
 refine xE zs2 fun tl n11=>?_
 try clear zs2
 have o0:=O.l0
 have o1:=O.l1 0 (by decide)
 have o2:=O.l2 0 (by decide)
 have o3:=O.l3
 have o4:=O.l4
 have o5:=O.l5
 have o6:=O.l6
 have o7:=O.l7
 have o8:=O.l8
 have o9:=O.l9
 have o10:=O.l10
 have Ej:=(X.mu j hj).up (jd6 (fun b o q f zz=>X.kp b o q f) (Z.fx j hj))
 have px:=Ej.fx.px
 refine xE (jck g s.heap L [a.nO,eO,L+1,a.dO,a.tO,a.wO,a.cO,a.xO,a.sO]) fun R r=>?_
 have hold:=jdw r F N
 have S1:=jj0 F n12 hoc N
 have N0:=N.rest r
 have rw1:=r.ne (a:=a.wO) (by first | k_mem | simp)
 have rt1:=r.ne (a:=a.tO) (by first | k_mem | simp)
 have rd1:=r.ne (a:=a.dO) (by first | k_mem | simp)
 have rc1:=r.ne (a:=a.cO) (by first | k_mem | simp)
 have rx1:=r.ne (a:=a.xO) (by first | k_mem | simp)
 have rs1:=r.ne (a:=a.sO) (by first | k_mem | simp)
 try dsimp only [List.nil_append,List.cons_append] at N0
 clear N
 have hC3:jav (Around.deeper ⟨none,dp,fr,some [],un⟩ (envOfC "law" jaq L fa cd)) 3:=hC.deeper.le (by decide)
 obtain ⟨ph,hph⟩:∃ ph,ph=(S.turn j+(if S.wish j then 1 else 0)) % 2:=⟨_,rfl⟩
 have ph2:ph<2:=by rw [hph];exact Nat.mod_lt _ (by decide)
 have pz:0<256 ^ Ln:=Nat.pow_pos (by decide)
 have pmod:((S.count j:Nat):Int).fmod ((256 ^ Ln:Nat):Int)=((S.count j % 256 ^ Ln:Nat):Int):=by
  rw [Int.fmod_eq_emod_of_nonneg _ (by walk_at "OM")];push_cast;rfl
 have pne:((256 ^ Ln:Nat):Int)≠0:=by walk_at "OM"
 have plt:S.count j % 256 ^ Ln<256 ^ Ln:=Nat.mod_lt _ pz
 try dsimp only [List.take,List.drop]
 walk_at "GO"
 rename_i t8 k8 h2 F2 N2
 have N3:=(jb1 N2)
 exact h h2 _ _ F2 (Mid.same X O DG Z S1 hsv hoc (hold _ _ _ _ _ _ _ _ _ F2 N3) (fun p hp=>N3 p (jij hp)))
theorem jww {fa L rl hO eO it:Addr} {cd:Value} {a:LA} {e:Nat->EA} {d:Nat->Addr} {cid:Array UInt8} {len suite sec:Int} {its:Array Value} {hs:Heap} {n i:Nat} {S:St} {dueL:Nat->List (String×String)} {vc:Option Value} {m:Str->Option Value} {wv:Int} {tw:Tok} (B':jbw w mg mb g) (hC:jav A 16) (NM:ja8 m a eO hO cid len) (Z:jb5 w g hs L rl hO eO e sec) (M:Mid w g hs L rl hO eO it a e suite sec its n vc S dueL d i s.heap) (F:Fr g L s.heap m) (hvc:vc=some (.int wv tw))
  (h:∀ h' tk ob tp,2≤Array.size ob->Array.size ob≤10->Fr g L h' (fun y=>if y = "octets" then some (.bytes ob tp) else m y)->Mid w g hs L rl hO eO it a e suite sec its n vc S dueL d i h'->Q .next { s with heap:=h',toks:=tk }) :
  wpAny (model pw w) (A.deeper (envOfC "law" jaq L fa cd)) (execs ((jw0.drop 1).take 1) (envOfC "law" jaq L fa cd)) Q E s:=by
 obtain ⟨no,hno⟩:∃ no:Nat,2+wv.fmod 9=((no:Nat):Int):=⟨(2+wv.fmod 9).toNat,by have:=Int.fmod_nonneg_of_pos wv (by decide:(0:Int)<9);walk_at "OM"⟩
 have hno2:2≤no∧no≤10:=by
  have h1:=Int.fmod_nonneg_of_pos wv (by decide:(0:Int)<9)
  have h2:=Int.fmod_lt_of_pos wv (by decide:(0:Int)<9)
  walk_at "OM"
 refine openA A hC fun dp fr un hC=>?_
 have KX:=B'.k
 have TR:=B'.t
 obtain ⟨X,O,DG,T1,T2,T3,kk,vs,oc,hoc,hsv,N⟩:=M
 have NM0:=NM
 obtain ⟨n1,n2,n3,n4,n5,n6,n7,n8,n9,zs3,zs4,n12⟩:=NM
 refine xE zs3 fun tc n10=>?_
 try clear zs3
 refine xE zs4 fun tl n11=>?_
 try clear zs4
 have o0:=O.l0
 have o1:=O.l1 0 (by decide)
 have o2:=O.l2 0 (by decide)
 have o3:=O.l3
 have o4:=O.l4
 have o5:=O.l5
 have o6:=O.l6
 have o7:=O.l7
 have o8:=O.l8
 have o9:=O.l9
 have o10:=O.l10
 refine xE (jck g s.heap L [a.nO,eO,L+1,a.dO,a.tO,a.wO,a.cO,a.xO,a.sO]) fun R r=>?_
 have hold:=jdw r F N
 have S1:=jj0 F n12 hoc N
 have N0:=N.rest r
 have rw1:=r.ne (a:=a.wO) (by first | k_mem | simp)
 have rt1:=r.ne (a:=a.tO) (by first | k_mem | simp)
 have rd1:=r.ne (a:=a.dO) (by first | k_mem | simp)
 have rc1:=r.ne (a:=a.cO) (by first | k_mem | simp)
 have rx1:=r.ne (a:=a.xO) (by first | k_mem | simp)
 have rs1:=r.ne (a:=a.sO) (by first | k_mem | simp)
 try dsimp only [List.nil_append,List.cons_append] at N0
 clear N
 subst hvc
 try dsimp only [List.take,List.drop]
 walk_at "GO"
 rename_i h2 F2 N2
 have N3:=(jb1 N2)
 have ez:(byteArr (List.map (fun k'=>(wv+3*k').fmod 256) (rangeKs 0 (2+wv.fmod 9-0).toNat))).size=no:=by
  unfold byteArr
  simp only [List.size_toArray,List.length_map,rangeKs_length]
  walk_at "OM"
 exact h h2 _ _ _ (by rw [ez];exact hno2.1) (by rw [ez];exact hno2.2) F2 (Mid.same X O DG Z S1 hsv hoc (hold _ _ _ _ _ _ _ _ _ F2 N3) (fun p hp=>N3 p (jij hp)))
end
end
theorem fl45:True:=by first|walk1|trivial
section
local macro_rules (kind:=PyProof.Rows.tacticWalk_at_) | s=>jex "ANJaPGHEQRV&m^" s
local macro_rules | `(tactic| k_inst)=>jo2 "J^" "k_inst"
theorem upd_eq {α:Type} {f:Nat->α} {j:Nat} {v:α} (h:f j=v):upd f j v=f:=by rw [← h];exact jg5
theorem kl5 {x ph Ln:Nat} (hx:x=64+4*ph+Ln-1) (hp:ph<2) (hL:2≤Ln) (hL4:Ln≤4):bitAnd (x:Nat) 3=(Ln:Int)-1∧bitAnd (x:Nat) 128=0:=by
 subst hx
 rcases (show ph=0∨ph=1 by walk_at "OM") with rfl | rfl <;> rcases (show Ln=2∨Ln=3∨Ln=4 by walk_at "OM") with rfl | rfl | rfl <;> decide +kernel
noncomputable def St.sealed (S:St) (suite:Int) (j turn':Nat) (P ob:Array UInt8):St:={ S with
 turn:=upd S.turn j turn',wish:=upd S.wish j false,heard:=upd S.heard j (if S.wish j then S.heard j++[("read", "local_update")]++[("send", "local_update")] else S.heard j),
 rows:=S.rows++[⟨je3 suite,BE (ksz suite).toNat (4*(jdq j+turn')),BE 12 (bitXor ((4*(jdq j+turn')+1:Nat):Int) ((S.count j:Nat):Int)).toNat,P,ob++BE 16 (S.rows.length+1),ob⟩] }
theorem nsLt {b t:Nat} (hb:b≤1) (ht:t≤100):jdq b+t+1<2 ^ 50:=by unfold jdq;walk_at "OM"
section
variable {w:World} {mg mb:Str->Option Value} {g:Heap} {s:Shared} {A:Around} {E:Value->Shared->Prop} {Q:Flow->Shared->Prop}
theorem kf1 {fa L rl hO eO it:Addr} {cd:Value} {a:LA} {e:Nat->EA} {d:Nat->Addr} {cid:Array UInt8} {len suite sec:Int} {its:Array Value} {hs:Heap} {n i:Nat} {S:St} {dueL:Nat->List (String×String)} {vc:Option Value} {m:Str->Option Value} {uw tp to:Tok} {j Ln ph:Nat} {P ob:Array UInt8} (B':jbw w mg mb g) (hC:jav A 16) (NM:ja8 m a eO hO cid len) (Z:jb5 w g hs L rl hO eO e sec) (M:Mid w g hs L rl hO eO it a e suite sec its n vc S dueL d i s.heap) (F:Fr g L s.heap m) (hsuite:suite=4865∨suite=4866∨suite=4867) (hsec:sec=0∨sec=1) (hj:j<2) (hw:m "which" = some (.int ((j:Nat):Int) uw)) (hp:m "plain" = some (.bytes P tp)) (ho:m "octets" = some (.bytes ob to))
  (hL:2≤Ln) (hL4:Ln≤4) (hcs:cid.size≤5) (hph:ph<2) (pz:P.size=1+cid.size+Ln) (p0:gB P 0=64+4*ph+Ln-1) (oz:ob.size≤10) (hbr:S.rows.length≤100) (hbt:S.turn j≤100) (hbh:(S.heard j).length≤900) (hbc:S.count j<2 ^ 40)
  (h:∀ h' tk tq turn',turn'=(if S.wish j then S.turn j+1 else S.turn j)->Fr g L h' (fun y=>if y = "packet" then some (.bytes (jr5 (jo3 suite j) P (ob++BE 16 (S.rows.length+1)) (1+cid.size) Ln) tq) else m y) →
   jmq w g hs L rl hO eO it a e suite sec its n vc (S.sealed suite j turn' P ob) S dueL d i h'->Q .next { s with heap:=h',toks:=tk }) :
  wpG (model pw w) (A.deeper (envOfC "law" jaq L fa cd)) (execs ((jw0.drop 2).take 1) (envOfC "law" jaq L fa cd)) Q E s:=by
 refine openA A hC fun dp fr un hC=>?_
 have KX:=B'.k
 have TR:=B'.t
 obtain ⟨X,O,DG,T1,T2,T3,kk,vs,oc,hoc,hsv,N⟩:=M
 have NM0:=NM
 obtain ⟨n1,n2,n3,n4,n5,n6,n7,n8,n9,zs1,zs2,n12⟩:=NM
 refine xE zs1 fun tc n10=>?_
 try clear zs1
 refine xE zs2 fun tl n11=>?_
 try clear zs2
 have o0:=O.l0
 have o1:=O.l1 0 (by decide)
 have o2:=O.l2 0 (by decide)
 have o3:=O.l3
 have o4:=O.l4
 have o5:=O.l5
 have o6:=O.l6
 have o7:=O.l7
 have o8:=O.l8
 have o9:=O.l9
 have o10:=O.l10
 have Ej:=(X.mu j hj).up (jd6 (fun b o q f zz=>X.kp b o q f) (Z.fx j hj))
 have px:=Ej.fx.px
 refine xE Ej.pd fun Tp pd=>?_
 refine je4 X.ro fun rs kr ro rr=>?_
 have rl1:=jbv.len rr
 have rl2:rs.size=S.rows.length:=by rw [← rl1,Array.length_toList]
 have erl:=Z.rls j hj
 have nrl:=Z.nrl hj
 refine xA (kl5 p0 hph hL hL4) fun b3 b7=>?_
 have f304:=kdk (a:=304) KX (by kernel_rfl!)
 refine je4 f304 fun o304 d304 e304 k304=>?_
 try clear f304
 have n50:jdq (1-j)+S.turn j+1<2 ^ 50:=nsLt (Nat.sub_le 1 j) hbt
 have n51:jdq j+S.turn j+1<2 ^ 50:=nsLt (Nat.le_of_lt_succ hj) hbt
 try dsimp only [List.take,List.drop]
 refine ja4 (jez (jc6 ?_ (by rfl)) (by rfl))
 walk_at "GO"
 refine jcx ?_ (by rfl)
 walk_at "GO"
 refine jl2.go ⟨(jhj _ _ (F.keep _ _ e304) k304),?_⟩
 refine jfv (kn2 (off:=1+cid.size) (L:=Ln) B' F.keep (hC.deeper.le (by decide)) Ej (Z.off j hj) (by rw [erl];exact ro) (by rw [erl];exact Z.orl) (by rw [erl];exact nrl.symm) (by walk_at "OM") hsec hsuite n50 n51 hbh (by walk_at "OM") (by walk_at "OM") (by walk_at "OM") (by walk_at "OM") hL4 b3 b7 (by walk_at "OM") (by walk_at "OM")) fun v h1 tk1 H1 p1=>?_
 refine jsq p1 fun tq tr turn' ht zq115 tn r1 row1 E1=>?_
 try clear p1
 obtain rfl:=zq115
 rw [erl] at H1 r1
 rw [rl2] at row1 ⊢
 have hd5:Hards s.heap h1:=Hards.of_left H1 ((X.mu j hj).kind.soft (jjv _ ro rfl rfl))
 have rr1:=jbv.snoc row1 (rr.hd hd5)
 rw [← Array.toList_push] at rr1
 have X1:=X.call O Z hj H1 E1.mu (jhj _ _ r1 rr1)
 have F1:=jc0 F H1 (jr4 Z hj)
 have N1:=jrz X O hj hoc H1 N
 have sv1:=hsv.hd hd5
 refine xE (jck g h1 L [a.nO,eO,L+1,a.dO,a.tO,a.wO,a.cO,a.xO,a.sO]) fun R r=>?_
 have hold:=jdw r F1 N1
 have S1:=jj0 F1 n12 hoc N1
 have N0:=N1.rest r
 try dsimp only [List.nil_append,List.cons_append] at N0
 clear N N1 H1 F px pd
 walk_at "GO"
 rename_i h3 F3 N3
 have LL:=hold _ _ _ _ _ _ _ _ _ F3 N3
 have M3:jmq w g hs L rl hO eO it a e suite sec its n vc (S.sealed suite j turn' P ob) S dueL d i h3:=⟨X1.left O Z.hL Z.hc S1 LL,O,DG,T1,T2,T3,kk,vs,oc,hoc,sv1.hd (Hards.of_own S1 LL),fun p hp=>N3 p (jij hp)⟩
 refine jcz ?_
 walk_at "GO"
 exact h h3 _ tq turn' ht F3 M3
end
end
theorem fl46:True:=by first|walk1|trivial
section
local macro_rules (kind:=PyProof.Rows.tacticWalk_at_) | s=>jex "ANJaPGHEQRV&m^ru" s
local macro_rules | `(tactic| k_inst)=>jo2 "J^" "k_inst"
theorem kr4 {g h:Heap} {L:Addr} {a1 a2 a3 a4 a5 a6 a7 a8 a9:Addr×Obj} {R:List (Addr×Obj)} (N:News g L h (a1::a2::a3::a4::a5::a6::a7::a8::a9::R)):News g L h [a1,a2,a3,a4,a5,a6,a7,a8,a9]:=fun p hp=>N p (jij hp)
theorem jm8 {α β:Type} {φ:α->β} {f:Nat->α} {j:Nat} {v:α}:(fun x=>φ (upd f j v x))=upd (fun x=>φ (f x)) j (φ v):=by
 funext x;unfold upd;split <;> rfl
theorem ke1 {f:Nat->Nat} {T:Nat->Tok} {j:Nat} {k:Nat} {t:Tok}:(fun x=>Value.int ((upd f j (k+1) x:Nat):Int) (upd T j t x))=upd (fun x=>Value.int ((f x:Nat):Int) (T x)) j (Value.int (((k:Nat):Int)+1) t):=by
 funext x;unfold upd;split <;> rfl
theorem ktx {g:Heap} {d:Nat->Addr} {j:Nat} {D:Addr} (h:∀ j,j<2->g.get? (d j)=none) (hD:g.get? D=none):∀ x,x<2->g.get? (upd d j D x)=none:=fun x hx=>by
 unfold upd;split
 ·exact hD
 ·exact h x hx
section
variable {w:World} {hs h:Heap} {L rl hO eO it:Addr} {a:LA} {e:Nat->EA} {suite sec:Int} {its:Array Value} {n:Nat} {d:Nat->Addr} {turn:Nat->Nat} {wish:Nat->Bool} {heard dueL:Nat->List (String×String)} {rows:List Row} {i j:Nat} {D:Addr} {l:List (String×String)}
theorem LK.due (X:LK w hs h L rl hO eO it a e suite sec its n d turn wish heard dueL rows i) (H:ja3 h D l):LK w hs h L rl hO eO it a e suite sec its n (upd d j D) turn wish heard (upd dueL j l) rows i :=
 ⟨X.kp,X.eo,X.ho,X.no,X.ro,X.mu,fun x hx=>by
  unfold upd
  by_cases q:x=j
  ·rw [if_pos q,if_pos q];exact H
  ·rw [if_neg q,if_neg q];exact X.du x hx,X.it⟩
theorem kb3.due (O:kb3 L rl hO eO a e d) (H:∀ x∈[L,L+1,a.dO,a.tO,a.wO,a.cO,a.xO,a.sO,rl,(e 0).hl,(e 1).hl],D≠x):kb3 L rl hO eO a e (upd d j D) :=
 ⟨O.l0,O.l1,O.l2,O.l3,O.l4,O.l5,O.l6,O.l7,O.l8,O.l9,O.l10,fun x hx=>by
  unfold upd;split
  ·exact H
  ·exact O.nd x hx,O.nl⟩
end
noncomputable def St.took (W:St) (j:Nat):St:={ W with wish:=upd W.wish j false,turn:=upd W.turn j (W.turn j+1) }
section
variable {w:World} {mg mb:Str->Option Value} {g:Heap} {s:Shared} {A:Around} {E:Value->Shared->Prop} {Q:Flow->Shared->Prop}
theorem kfw {fa L rl hO eO it:Addr} {cd:Value} {a:LA} {e:Nat->EA} {d:Nat->Addr} {cid:Array UInt8} {len suite sec:Int} {its:Array Value} {hs:Heap} {n i:Nat} {S:St} {dueL:Nat->List (String×String)} {vc:Option Value} {W:St} {m:Str->Option Value} {uw:Tok} {j:Nat} (B':jbw w mg mb g) (hC:jav A 16) (NM:ja8 m a eO hO cid len) (Z:jb5 w g hs L rl hO eO e sec) (M:jmq w g hs L rl hO eO it a e suite sec its n vc S W dueL d i s.heap) (F:Fr g L s.heap m) (hj:j<2) (hw:m "which" = some (.int ((j:Nat):Int) uw)) (hdl:(dueL j).length≤900)
  (h:∀ h' tk d',Fr g L h' m->jmq w g hs L rl hO eO it a e suite sec its n vc S (if W.wish j then W.took j else W) (if W.wish j then upd dueL j (dueL j++[("read", "local_update")]++[("send", "local_update")]) else dueL) d' i h'->Q .next { s with heap:=h',toks:=tk }) :
  wpAny (model pw w) (A.deeper (envOfC "law" jaq L fa cd)) (execs ((jw0.drop 3).take 1) (envOfC "law" jaq L fa cd)) Q E s:=by
 refine openA A hC fun dp fr un hC=>?_
 have M0:=M
 have hF:True->Fr g L s.heap m:=fun _=>F
 have KX:=B'.k
 have TR:=B'.t
 obtain ⟨X,O,DG,T1,T2,T3,kk,vs,oc,hoc,hsv,N⟩:=M
 have NM0:=NM
 obtain ⟨n1,n2,n3,n4,n5,n6,n7,n8,n9,zs1,zs2,n12⟩:=NM
 refine xE zs1 fun tc n10=>?_
 try clear zs1
 refine xE zs2 fun tl n11=>?_
 try clear zs2
 have o0:=O.l0
 have o1:=O.l1 0 (by decide)
 have o2:=O.l2 0 (by decide)
 have o3:=O.l3
 have o4:=O.l4
 have o5:=O.l5
 have o6:=O.l6
 have o7:=O.l7
 have o8:=O.l8
 have o9:=O.l9
 have o10:=O.l10
 have o11:=O.l1 1 (by decide)
 have o21:=O.l2 1 (by decide)
 refine je4 (X.du j hj) fun dits dk dq dr=>?_
 have dlen:=ja9.len dr
 have hdj:∀ x∈[L,L+1,a.dO,a.tO,a.wO,a.cO,a.xO,a.sO,rl,(e 0).hl,(e 1).hl],d j≠x:=O.nd j hj
 refine xE (jck g s.heap L [a.nO,eO,L+1,a.dO,a.tO,a.wO,a.cO,a.xO,a.sO]) fun R r=>?_
 have hold:=jdw r F N
 have S1:=jj0 F n12 hoc N
 have gd:=DG j hj
 have N0:News g L s.heap ((d j,listOf dits dk)::(a.nO,listOf its 0)::(eO,listOf (two fun j=>.ref (e j).x) 0)::(L+1,oc)::(a.dO,listOf (two fun j=>.ref (d j)) 0)::(a.tO,listOf (two fun j=>.int ((W.turn j:Nat):Int) (T1 j)) 0)::(a.wO,listOf (two fun j=>.bool (W.wish j)) 0)::(a.cO,listOf (two fun j=>.int ((W.count j:Nat):Int) (T2 j)) 0)::(a.xO,listOf (two fun j=>.int ((W.expect j:Nat):Int) (T3 j)) 0)::(a.sO,listOf vs.toArray kk)::R):=jbj ((iAA dq (hdj _ (by first | k_mem | simp)) gd)) (fun p hp=>(N.rest r p hp))
 have nd1:d j≠a.wO:=hdj _ (by first | k_mem | simp)
 have nd2:d j≠a.tO:=hdj _ (by first | k_mem | simp)
 have nd3:d j≠a.dO:=hdj _ (by first | k_mem | simp)
 have rw1:=r.ne (a:=a.wO) (by first | k_mem | simp)
 have rt1:=r.ne (a:=a.tO) (by first | k_mem | simp)
 have rd1:=r.ne (a:=a.dO) (by first | k_mem | simp)
 clear N
 try dsimp only [List.take,List.drop]
 cases hwj:W.wish j with
 | false =>
  walk_at "GO"
  rw [if_neg (by rw [hwj];decide),if_neg (by rw [hwj];decide)] at h
  exact h s.heap s.toks d (hF trivial) M0
 | true =>
  walk_at "GO"
  rename_i D2 _ _ D1 _ _ lA _ _ D0 _ _ _ l0 h2 F2 N2
  rw [if_pos hwj,if_pos hwj] at h
  refine jsz l0 fun _ _ _ l3 l4 l5 l6 l7 zr13=>?_
  refine jq8 zr13 fun l8 l9 l10 l11 _=>?_
  try clear l0
  have nD:=(N2 _ (.head _))
  have N3:=(jb1 (jb1 (jb1 (jb1 (jb1 N2)))))
  have LL:=hold _ _ _ _ _ _ _ _ _ F2 N3
  have X3:=X.left O Z.hL Z.hc S1 LL
  have hd3:Hards s.heap h2:=Hards.of_own S1 LL
  have HD:ja3 h2 D0 (dueL j++[("read", "local_update")]++[("send", "local_update")]):=(jhj _ _ nD.1 (by
   rw [show dits.toList++[Value.ref D2,Value.ref D1]=dits.toList++[Value.ref D2]++[Value.ref D1] by rw [List.append_assoc];rfl]
   exact ja9.snoc (ji4 _ _ _ rfl ((N2 _ me2).1)) (ja9.snoc (ji4 _ _ _ rfl ((N2 _ me3).1)) (dr.hd hd3))))
  have N9:=kr4 N3
  rw [← jm8 (φ:=Value.ref),← jm8 (φ:=Value.bool),← ke1] at N9
  exact h h2 _ (upd d j D0) F2 ⟨X3.due HD,O.due (jbj (neN (by walk_at "NO")) (jbj (neN (by walk_at "NO")) (jbj (neN (by walk_at "NO")) (jbj (neN (by walk_at "NO")) (jbj (neN (by walk_at "NO")) (jbj (neN (by walk_at "NO")) (jbj (neN (by walk_at "NO")) (jbj (neN (by walk_at "NO")) (jbj (neN (by walk_at "NO")) (jbj (neN (by walk_at "NO")) (jgw (neN (by walk_at "NO"))))))))))))),ktx DG nD.2.2,_,T2,T3,kk,vs,oc,hoc,hsv.hd hd3,N9⟩
end
end
theorem fl47:True:=by first|walk1|trivial
section
local macro_rules (kind:=PyProof.Rows.tacticWalk_at_) | s=>jex "AJaPGHEQRV&m^rv" s
local macro_rules | `(tactic| k_inst)=>jo2 "J^" "k_inst"
section
variable {prog:Program} {w:World} {A:Around} {E:Value->Shared->Prop} {s:Shared} {g:Heap} {L D:Addr} {m:Str->Option Value} {news news':List (Addr×Obj)}
theorem jm7 {M:Model} {E:Value->Shared->Prop} {env:Env} (k:Nat) {l:List Stmt} {Q:Flow->Shared->Prop} (h:wpAny M A (execs (l.take k) env) (fun f s'=>match f with | .next=>wpG M A (execs (l.drop k) env) Q E s' | f=>Q f s') E s):wpG M A (execs l env) Q E s:=jf9 k h
theorem ji5 {M:Model} {E:Value->Shared->Prop} {env:Env} (n k:Nat) {l:List Stmt} {Q:Flow->Shared->Prop} (h:wpAny M A (execs ((l.drop n).take k) env) (fun f s'=>match f with | .next=>wpG M A (execs (l.drop (n+k)) env) Q E s' | f=>Q f s') E s):wpG M A (execs (l.drop n) env) Q E s:=by
 refine jf9 k ?_
 rw [List.drop_drop]
 exact h
theorem jv9 {M:Model} {E:Value->Shared->Prop} {env:Env} (n k:Nat) {l:List Stmt} {Q:Flow->Shared->Prop} (h:wpG M A (execs ((l.drop n).take k) env) (fun f s'=>match f with | .next=>wpG M A (execs (l.drop (n+k)) env) Q E s' | f=>Q f s') E s):wpG M A (execs (l.drop n) env) Q E s:=by
 rw [← List.take_append_drop k (l.drop n)]
 refine jg3 ?_
 rw [List.drop_drop]
 exact h
theorem keq {vs:List Value} {k:Nat} {v:Value} {Q:Value->Shared->Prop} (F:Fr g L s.heap m) (N:News g L s.heap news) (U:Upd D (listOf vs.toArray k) (listOf (vs++[v]).toArray (k+1)) news news') (hz:vs.length≤sizeLine)
  (h:∀ h',Fr g L h' m->News g L h' news'->Q .none { s with heap:=h' }):wpAny (model prog w) A (call (.builtin "list.append") [.ref D,v]) Q E s:=by
 refine jsx U.split fun pre post zq110 zq111 a b=>?_
 obtain rfl:=zq110
 obtain rfl:=zq111
 have z:=N (D,listOf vs.toArray k) (List.mem_append.mpr (.inr (.head _)))
 refine append_at z.1 (fun h' hs ho=>h h' (F.change hs z.2.1 z.2.2) (news_set N a b hs (ho.trans ?_))) (by simpa using hz)
 simp
end
noncomputable def St.told (W:St) (j:Nat) (P ob pk:Array UInt8):St:={ W with sent:=W.sent++[⟨j,W.turn j,W.count j,P,ob,pk⟩],count:=upd W.count j (W.count j+1) }
section
variable {w:World} {mg mb:Str->Option Value} {g:Heap} {s:Shared} {A:Around} {E:Value->Shared->Prop} {Q:Flow->Shared->Prop}
theorem kf0 {fa L rl hO eO it:Addr} {cd:Value} {a:LA} {e:Nat->EA} {d:Nat->Addr} {cid:Array UInt8} {len suite sec:Int} {its:Array Value} {hs:Heap} {n i:Nat} {S:St} {dueL:Nat->List (String×String)} {vc:Option Value} {W:St} {m:Str->Option Value} {uw tp to tq:Tok} {j:Nat} {P ob pk:Array UInt8} (B':jbw w mg mb g) (hC:jav A 16) (NM:ja8 m a eO hO cid len) (Z:jb5 w g hs L rl hO eO e sec) (M:jmq w g hs L rl hO eO it a e suite sec its n vc S W dueL d i s.heap) (F:Fr g L s.heap m) (hj:j<2) (hw:m "which" = some (.int ((j:Nat):Int) uw)) (hp:m "plain" = some (.bytes P tp)) (ho:m "octets" = some (.bytes ob to)) (hq:m "packet" = some (.bytes pk tq)) (hsz:W.sent.length≤100)
  (h:∀ h' tk,Fr g L h' m->jmq w g hs L rl hO eO it a e suite sec its n vc S (W.told j P ob pk) dueL d i h'->Q .next { s with heap:=h',toks:=tk }) :
  wpAny (model pw w) (A.deeper (envOfC "law" jaq L fa cd)) (execs (jw0.drop 4) (envOfC "law" jaq L fa cd)) Q E s:=by
 refine openA A hC fun dp fr un hC=>?_
 have KX:=B'.k
 have TR:=B'.t
 obtain ⟨X,O,DG,T1,T2,T3,kk,vs,oc,hoc,hsv,N⟩:=M
 have NM0:=NM
 obtain ⟨n1,n2,n3,n4,n5,n6,n7,n8,n9,zs1,zs2,n12⟩:=NM
 refine xE zs1 fun tc n10=>?_
 try clear zs1
 refine xE zs2 fun tl n11=>?_
 try clear zs2
 have o0:=O.l0
 have o1:=O.l1 0 (by decide)
 have o2:=O.l2 0 (by decide)
 have o3:=O.l3
 have o4:=O.l4
 have o5:=O.l5
 have o6:=O.l6
 have o7:=O.l7
 have o8:=O.l8
 have o9:=O.l9
 have o10:=O.l10
 refine xE (jck g s.heap L [a.nO,eO,L+1,a.dO,a.tO,a.wO,a.cO,a.xO,a.sO]) fun R r=>?_
 have hold:=jdw r F N
 have S1:=jj0 F n12 hoc N
 have N0:=N.rest r
 have rw1:=r.ne (a:=a.wO) (by first | k_mem | simp)
 have rt1:=r.ne (a:=a.tO) (by first | k_mem | simp)
 have rd1:=r.ne (a:=a.dO) (by first | k_mem | simp)
 have rc1:=r.ne (a:=a.cO) (by first | k_mem | simp)
 have rx1:=r.ne (a:=a.xO) (by first | k_mem | simp)
 have rs1:=r.ne (a:=a.sO) (by first | k_mem | simp)
 try dsimp only [List.nil_append,List.cons_append] at N0
 clear N
 have slen:=jd0.len hsv
 have vlen:vs.length≤sizeLine:=by rw [sizeLine_eq];walk_at "OM"
 try dsimp only [List.take,List.drop]
 walk_at "GO"
 rename_i h2 F2 N2
 have N3:=(jb1 N2)
 have LL:=hold _ _ _ _ _ _ _ _ _ F2 N3
 have hd3:Hards s.heap h2:=Hards.of_own S1 LL
 have N9:=kr4 N3
 rw [← ke1] at N9
 exact h h2 _ F2 ⟨X.left O Z.hL Z.hc S1 LL,O,DG,T1,_,T3,_,_,oc,hoc,jd0.snoc (jcq _ _ _ _ _ _ _ rfl ((N2 _ (.head _)).1)) (hsv.hd hd3),N9⟩
end
section
variable {w:World} {g hs h:Heap} {L rl hO eO it:Addr} {a:LA} {e:Nat->EA} {suite sec:Int} {its:Array Value} {n i:Nat} {d:Nat->Addr} {dueL:Nat->List (String×String)} {S W S' W':St} {vc:Option Value}
theorem jmq.to (M:jmq w g hs L rl hO eO it a e suite sec its n vc S W dueL d i h) (e1:S'.turn=S.turn) (e2:S'.wish=S.wish) (e3:S'.heard=S.heard) (e4:S'.rows=S.rows) (f1:W'.turn=W.turn) (f2:W'.wish=W.wish) (f3:W'.count=W.count) (f4:W'.expect=W.expect) (f5:W'.sent=W.sent):jmq w g hs L rl hO eO it a e suite sec its n vc S' W' dueL d i h:=by
 obtain ⟨X,O,DG,own⟩:=M
 refine ⟨?_,O,DG,?_⟩
 ·rw [e1,e2,e3,e4];exact X
 ·rw [f1,f2,f3,f4,f5];exact own
end
noncomputable def St.went (S:St) (suite:Int) (j turn' off Ln:Nat) (P ob:Array UInt8):St:={ S with
 turn:=upd S.turn j turn',wish:=upd S.wish j false,count:=upd S.count j (S.count j+1),heard:=upd S.heard j (if S.wish j then S.heard j++[("read", "local_update")]++[("send", "local_update")] else S.heard j),
 sent:=S.sent++[⟨j,turn',S.count j,P,ob,jr5 (jo3 suite j) P (ob++BE 16 (S.rows.length+1)) off Ln⟩],
 rows:=S.rows++[⟨je3 suite,BE (ksz suite).toNat (4*(jdq j+turn')),BE 12 (bitXor ((4*(jdq j+turn')+1:Nat):Int) ((S.count j:Nat):Int)).toNat,P,ob++BE 16 (S.rows.length+1),ob⟩] }
section
variable {w:World} {mg mb:Str->Option Value} {g:Heap} {s:Shared} {A:Around} {E:Value->Shared->Prop} {Q:Flow->Shared->Prop}
theorem klz {fa L rl hO eO it:Addr} {cd:Value} {a:LA} {e:Nat->EA} {d:Nat->Addr} {cid:Array UInt8} {suite sec:Int} {its:Array Value} {hs:Heap} {n i:Nat} {S:St} {vc:Option Value} {m:Str->Option Value} {uw tw:Tok} {wv:Int} {j Ln:Nat} (B':jbw w mg mb g) (hC:jav A 16) (NM:ja8 m a eO hO cid ((Ln:Nat):Int)) (Z:jb5 w g hs L rl hO eO e sec) (M:Mid w g hs L rl hO eO it a e suite sec its n vc S S.heard d i s.heap) (F:Fr g L s.heap m) (hvc:vc=some (.int wv tw)) (hsuite:suite=4865∨suite=4866∨suite=4867) (hsec:sec=0∨sec=1) (hj:j<2) (hw:m "which" = some (.int ((j:Nat):Int) uw)) (hL:2≤Ln) (hL4:Ln≤4) (hcs:cid.size≤5)
  (hbr:S.rows.length≤100) (hbs:S.sent.length≤100) (hbt:S.turn j≤100) (hbh:(S.heard j).length≤900) (hbc:S.count j<2 ^ 40)
  (h:∀ h' tk m' d' turn' P ob,turn'=(if S.wish j then S.turn j+1 else S.turn j)->Array.size P=1+cid.size+Ln->gB P 0=64+4*(turn' % 2)+Ln-1->(∀ q,q<Ln->gB P (1+cid.size+q)=gB (BE Ln (S.count j % 256 ^ Ln)) q)->2≤Array.size ob->Array.size ob≤10->Fr g L h' m'->ja8 m' a eO hO cid ((Ln:Nat):Int) →
   Mid w g hs L rl hO eO it a e suite sec its n vc (S.went suite j turn' (1+cid.size) Ln P ob) (S.went suite j turn' (1+cid.size) Ln P ob).heard d' i h'->Q .next { s with heap:=h',toks:=tk }) :
  wpG (model pw w) (A.deeper (envOfC "law" jaq L fa cd)) (execs jw0 (envOfC "law" jaq L fa cd)) Q E s:=by
 obtain ⟨tn,htn⟩:∃ tn,tn=(if S.wish j then S.turn j+1 else S.turn j):=⟨_,rfl⟩
 have eph:(S.turn j+(if S.wish j then 1 else 0)) % 2=tn % 2:=by rw [htn];split <;> rfl
 refine jm7 1 (kcj B' hC NM Z M F hj hw hL hL4 hcs fun h1 tk1 tp F1 M1=>?_)
 rw [eph] at F1
 have NM1:=NM.set (x := "plain") (r:=some (.bytes (jew cid Ln (tn % 2) (S.count j)) tp)) (by decide)
 refine ji5 1 1 (jww (s:={ s with heap:=h1,toks:=tk1 }) B' hC NM1 Z M1 F1 hvc fun h2 tk2 ob to z1 z2 F2 M2=>?_)
 have NM2:=NM1.set (x := "octets") (r:=some (.bytes ob to)) (by decide)
 refine jv9 2 1 (kf1 (s:={ s with heap:=h2,toks:=tk2 }) (uw:=uw) (tp:=tp) (P:=jew cid Ln (tn % 2) (S.count j)) (ph:=tn % 2) B' hC NM2 Z M2 F2 hsuite hsec hj ?_ ?_ (jej) hL hL4 hcs (Nat.mod_lt _ (by decide)) jlw (js4 (by walk_at "OM") hL4 (Nat.mod_lt _ (by decide))) z2 hbr hbt hbh hbc fun h3 tk3 tq turn' ht F3 M3=>?_)
 ·exact jaw (jbq (by decide)) (jaw (jbq (by decide)) hw)
 ·exact jaw (jbq (by decide)) jej
 obtain rfl:turn'=tn:=ht.trans htn.symm
 have NM3:=NM2.set (x := "packet") (r:=some (.bytes (jr5 (jo3 suite j) (jew cid Ln (turn' % 2) (S.count j)) (ob++BE 16 (S.rows.length+1)) (1+cid.size) Ln) tq)) (by decide)
 have w3:(fun y=>if y=ofString "packet" then some (.bytes (jr5 (jo3 suite j) (jew cid Ln (turn' % 2) (S.count j)) (ob++BE 16 (S.rows.length+1)) (1+cid.size) Ln) tq) else if y=ofString "octets" then some (.bytes ob to) else if y=ofString "plain" then some (.bytes (jew cid Ln (turn' % 2) (S.count j)) tp) else m y) "which" = some (.int ((j:Nat):Int) uw) :=
  jaw (jbq (by decide)) (jaw (jbq (by decide)) (jaw (jbq (by decide)) hw))
 refine ji5 3 1 (kfw (s:={ s with heap:=h3,toks:=tk3 }) B' hC NM3 Z M3 F3 hj w3 hbh fun h4 tk4 d' F4 M4=>?_)
 have hs:(if S.wish j then S.took j else S).sent.length≤100:=by split <;> exact hbs
 refine jcz (kf0 (s:={ s with heap:=h4,toks:=tk4 }) B' hC NM3 Z M4 F4 hj w3 (jaw (jbq (by decide)) (jaw (jbq (by decide)) jej)) (jaw (jbq (by decide)) jej) jej hs fun h5 tk5 F5 M5=>?_)
 refine h h5 tk5 _ d' turn' _ ob ht jlw (js4 (by walk_at "OM") hL4 (Nat.mod_lt _ (by decide))) (fun q _=>kcw) z1 z2 F5 NM3 ?_
 have eD:(S.went suite j turn' (1+cid.size) Ln (jew cid Ln (turn' % 2) (S.count j)) ob).heard=(if S.wish j then upd S.heard j (S.heard j++[("read", "local_update")]++[("send", "local_update")]) else S.heard):=by
  unfold St.went
  dsimp only
  cases hwj:S.wish j with
  | true=>rw [if_pos rfl,if_pos rfl]
  | false=>rw [if_neg (by decide),if_neg (by decide),jg5]
 rw [eD]
 refine M5.to rfl rfl rfl rfl ?_ ?_ ?_ ?_ ?_ <;> unfold St.went St.told <;> dsimp only <;> cases hwj:S.wish j
 all_goals (try rw [hwj] at ht)
 all_goals (first | rw [if_neg (by decide)] at ht | rw [if_pos rfl] at ht)
 all_goals (first | rw [if_neg (by decide)] | rw [if_pos rfl])
 ·rw [ht,jg5]
 ·rw [ht];rfl
 ·rw [upd_eq hwj]
 ·rfl
 ·rfl
 ·rfl
 ·rw [ht]
 ·rw [ht];unfold St.took;dsimp only;rw [jlj]
end
end
theorem fl48:True:=by first|walk1|trivial
section
local macro_rules (kind:=PyProof.Rows.tacticWalk_at_) | s=>jex "AJaPGHEQRV&swmx" s
section
variable {prog:Program} {w:World} {A:Around} {E:Value->Shared->Prop} {s:Shared} {g:Heap} {L D:Addr} {m:Str->Option Value} {news news':List (Addr×Obj)} {value slice:Expr} {u:Tok}
theorem ko2 {vs:List Value} {k i:Nat} {v:Value} {Q:Value->Shared->Prop} (N:News g L s.heap news) (hm:(D,listOf vs.toArray k)∈news) (hi:i<1000000) (hv:vs[i]?=some v) (h:Q v s)
  (hs:subscripted slice false (.ref D) (.int (i:Int) u)=operate [.ref D,.int (i:Int) u] (getItem (.ref D) (.int (i:Int) u))) :
  wpAny (model prog w) A (subscriptTail value slice (.ref D) (.int (i:Int) u)) Q E s :=
 jh2 (N.isList hm) (by walk_at "OM") (by walk_at "OM") (by rw [Int.toNat_natCast];simpa using hv) h hs
end
theorem ke3 {p A B:Array UInt8} {k0 z:Nat} (zA:A.size=k0) (gA:∀ q,gB A q=if q<k0 then gB p q else 0) (zB:B.size=p.size-(k0+1)) (gB':∀ q,gB B q=if q<p.size-(k0+1) then gB p (k0+1+q) else 0) (hk:k0<p.size) (hz:z<256) (hn:z≠gB p k0) :
  (A++(List.map (fun (n:Int)=>n.toNat.toUInt8) [((z:Nat):Int)]).toArray++B).size=p.size∧gB (A++(List.map (fun (n:Int)=>n.toNat.toUInt8) [((z:Nat):Int)]).toArray++B) k0≠gB p k0∧∀ q,q≠k0->gB (A++(List.map (fun (n:Int)=>n.toNat.toUInt8) [((z:Nat):Int)]).toArray++B) q=gB p q:=by
 have eM:(List.map (fun (n:Int)=>n.toNat.toUInt8) [((z:Nat):Int)]).toArray.size=1:=by simp
 have gM:gB (List.map (fun (n:Int)=>n.toNat.toUInt8) [((z:Nat):Int)]).toArray 0=z:=by
  show gB (byteArr [((z:Nat):Int)]) 0=z
  rw [jk5 (by first | k_mem | simp) (fun k hk=>by obtain rfl:=List.mem_singleton.mp hk;walk_at "OM")]
  simp
 generalize hM:(List.map (fun (n:Int)=>n.toNat.toUInt8) [((z:Nat):Int)]).toArray=Mm at eM gM
 have eA:(A++Mm).size=k0+1:=by rw [Array.size_append,zA,eM]
 refine ⟨by rw [Array.size_append,eA,zB];walk_at "OM", ?_,fun q hq=>?_⟩
 ·rw [jh5,eA,if_pos (by walk_at "OM"),jh5,zA,if_neg (by walk_at "OM"),Nat.sub_self,gM]
  exact hn
 ·rw [jh5,eA]
  by_cases h1:q<k0+1
  ·rw [if_pos h1,jh5,zA,if_pos (by walk_at "OM"),gA,if_pos (by walk_at "OM")]
  ·rw [if_neg h1,gB']
   by_cases h2:q<p.size
   ·rw [if_pos (by walk_at "OM")]
    congr 1;walk_at "OM"
   ·rw [if_neg (by walk_at "OM"),ji0 (by walk_at "OM")]
noncomputable def delBo:List Stmt:=(ifs (ifs (ifs (jy9.drop 3)).2).2).1
noncomputable abbrev delB:=jaj delBo
section
variable {w:World} {mg mb:Str->Option Value} {g:Heap} {s:Shared} {A:Around} {E:Value->Shared->Prop} {Q:Flow->Shared->Prop}
theorem kpj {fa L rl hO eO it:Addr} {cd:Value} {a:LA} {e:Nat->EA} {d:Nat->Addr} {cid:Array UInt8} {len suite sec:Int} {its:Array Value} {hs:Heap} {n i:Nat} {S:St} {dueL:Nat->List (String×String)} {vc:Option Value} {m:Str->Option Value} {tw:Tok} {wv:Int} {q:Nat} {x:jf7} (B':jbw w mg mb g) (hC:jav A 16) (NM:ja8 m a eO hO cid len) (Z:jb5 w g hs L rl hO eO e sec) (M:Mid w g hs L rl hO eO it a e suite sec its n vc S dueL d i s.heap) (F:Fr g L s.heap m) (hvc:vc=some (.int wv tw)) (hq:wv.fmod ((S.sent.length:Nat):Int)=((q:Nat):Int)) (hx:S.sent[q]?=some x) (hxf:x.frm<2) (hsz:S.sent.length≤100)
  (h:∀ h' tk v1 v2 v3 v4 v5 v6 ue b,b=decide (x.turn=S.turn (1-x.frm)∨x.turn=S.turn (1-x.frm)+1)->Fr g L h' (fun y=>if y=ofString "right" then some (.bool b) else if y=ofString "end" then some (.int ((1-x.frm:Nat):Int) ue) else if y=ofString "packet" then some (.bytes x.packet v6) else if y=ofString "octets" then some (.bytes x.octets v5) else if y=ofString "plain" then some (.bytes x.plain v4) else if y=ofString "number" then some (.int ((x.number:Nat):Int) v3) else if y=ofString "turn" then some (.int ((x.turn:Nat):Int) v2) else if y=ofString "by" then some (.int ((x.frm:Nat):Int) v1) else m y)->Mid w g hs L rl hO eO it a e suite sec its n vc S dueL d i h'->Q .next { s with heap:=h',toks:=tk }) :
  wpAny (model pw w) (A.deeper (envOfC "law" jaq L fa cd)) (execs (delB.take 3) (envOfC "law" jaq L fa cd)) Q E s:=by
 refine openA A hC fun dp fr un hC=>?_
 have KX:=B'.k
 have TR:=B'.t
 obtain ⟨X,O,DG,T1,T2,T3,kk,vs,oc,hoc,hsv,N⟩:=M
 have NM0:=NM
 obtain ⟨n1,n2,n3,n4,n5,n6,n7,n8,n9,⟨tc,n10⟩,⟨tl,n11⟩,n12⟩:=NM
 have o0:=O.l0
 have o1:=O.l1 0 (by decide)
 have o2:=O.l2 0 (by decide)
 have o3:=O.l3
 have o4:=O.l4
 have o5:=O.l5
 have o6:=O.l6
 have o7:=O.l7
 have o8:=O.l8
 have o9:=O.l9
 have o10:=O.l10
 refine xE (jck g s.heap L [a.nO,eO,L+1,a.dO,a.tO,a.wO,a.cO,a.xO,a.sO]) fun R r=>?_
 have hold:=jdw r F N
 have S1:=jj0 F n12 hoc N
 have N0:=N.rest r
 have rw1:=r.ne (a:=a.wO) (by first | k_mem | simp)
 have rt1:=r.ne (a:=a.tO) (by first | k_mem | simp)
 have rd1:=r.ne (a:=a.dO) (by first | k_mem | simp)
 have rc1:=r.ne (a:=a.cO) (by first | k_mem | simp)
 have rx1:=r.ne (a:=a.xO) (by first | k_mem | simp)
 have rs1:=r.ne (a:=a.sO) (by first | k_mem | simp)
 try dsimp only [List.nil_append,List.cons_append] at N0
 clear N
 subst hvc
 have slen:=jd0.len hsv
 have hz62:vs.toArray.size<2 ^ 62:=by rw [List.size_toArray];walk_at "OM"
 have hqlt:q<S.sent.length:=by
  rcases Nat.lt_or_ge q S.sent.length with z | z
  ·exact z
  ·rw [List.getElem?_eq_none z] at hx;cases hx
 refine jl5 (jd0.get hsv hqlt) fun v x' hv hx' hsx=>?_
 rw [hx] at hx'
 obtain rfl:x=x':=Option.some.inj hx'
 refine jd5 hsx fun ax t1 t2 t3 t4 t5 t6 zq26 hax=>?_
 try clear hsx
 obtain rfl:=zq26
 have hq':wv.fmod ((vs.toArray.size:Nat):Int)=((q:Nat):Int):=by rw [List.size_toArray,slen];exact hq
 have hne:((vs.toArray.size:Nat):Int)≠0:=by rw [List.size_toArray,slen];lia
 have hqm:q<1000000:=by lia
 have e1:(1:Int)-((x.frm:Nat):Int)=((1-x.frm:Nat):Int):=by walk_at "OM"
 have hj:1-x.frm<2:=by walk_at "OM"
 try dsimp only [List.take,List.drop]
 walk_at "GO"
 rename_i h2 F2 N2
 rw [e1] at F2 ⊢
 walk_at "GO"
 all_goals
  rename_i F3 N3
  refine h _ _ _ _ _ _ _ _ _ _ ?_ F3 (Mid.same X O DG Z S1 hsv hoc (hold _ _ _ _ _ _ _ _ _ F3 N3) (kr4 N3))
 ·rename_i hc _
  rw [decide_eq_true (Or.inl (by walk_at "OM"))]
  exact beq_iff_eq.mpr (by walk_at "OM")
 ·rename_i hc _
  by_cases hd:x.turn=S.turn (1-x.frm)+1
  ·rw [decide_eq_true (Or.inr hd)]
   exact beq_iff_eq.mpr (by walk_at "OM")
  ·rw [decide_eq_false (fun z=>by lia)]
   exact beq_eq_false_iff_ne.mpr (by walk_at "OM")
theorem kpz {fa L rl hO eO it:Addr} {cd:Value} {a:LA} {e:Nat->EA} {d:Nat->Addr} {cid:Array UInt8} {len suite sec:Int} {its:Array Value} {hs:Heap} {n i:Nat} {S:St} {dueL:Nat->List (String×String)} {vc:Option Value} {m:Str->Option Value} {tw u1 u2 u3:Tok} {wv wh mo:Int} {b:Bool} {p:Array UInt8} {k0:Nat} (B':jbw w mg mb g) (hC:jav A 16) (NM:ja8 m a eO hO cid len) (Z:jb5 w g hs L rl hO eO e sec) (M:Mid w g hs L rl hO eO it a e suite sec its n vc S dueL d i s.heap) (F:Fr g L s.heap m) (hvc:vc=some (.int wv tw)) (h1:m "what" = some (.int wh u1)) (h2:m "more" = some (.int mo u2)) (h3:m "packet" = some (.bytes p u3)) (h4:m "right" = some (.bool b))
  (hpz:1≤p.size) (hpz2:p.size≤1000) (hk:mo.fmod ((p.size:Nat):Int)=((k0:Nat):Int))
  (h:∀ h' tk m' p' b' u5,(∀ n,n≠ofString "place"->n≠ofString "turned"->n≠ofString "packet"->n≠ofString "right"->m' n=m n)->m' "packet" = some (.bytes p' u5)->m' "right" = some (.bool b') →
   ((p'=p∧b'=b)∨(b'=false∧∃ k0,p'.size=p.size∧gB p' k0≠gB p k0∧∀ q,q≠k0->gB p' q=gB p q))->Fr g L h' m'->Mid w g hs L rl hO eO it a e suite sec its n vc S dueL d i h'->Q .next { s with heap:=h',toks:=tk }) :
  wpAny (model pw w) (A.deeper (envOfC "law" jaq L fa cd)) (execs ((delB.drop 3).take 1) (envOfC "law" jaq L fa cd)) Q E s:=by
 refine openA A hC fun dp fr un hC=>?_
 have M0:=M
 have hF:True->Fr g L s.heap m:=fun zz=>F
 have KX:=B'.k
 have TR:=B'.t
 obtain ⟨X,O,DG,T1,T2,T3,kk,vs,oc,hoc,hsv,N⟩:=M
 have NM0:=NM
 obtain ⟨n1,n2,n3,n4,n5,n6,n7,n8,n9,⟨tc,n10⟩,⟨tl,n11⟩,n12⟩:=NM
 have o0:=O.l0
 have o1:=O.l1 0 (by decide)
 have o2:=O.l2 0 (by decide)
 have o3:=O.l3
 have o4:=O.l4
 have o5:=O.l5
 have o6:=O.l6
 have o7:=O.l7
 have o8:=O.l8
 have o9:=O.l9
 have o10:=O.l10
 refine xE (jck g s.heap L [a.nO,eO,L+1,a.dO,a.tO,a.wO,a.cO,a.xO,a.sO]) fun R r=>?_
 have hold:=jdw r F N
 have S1:=jj0 F n12 hoc N
 have N0:=N.rest r
 have rw1:=r.ne (a:=a.wO) (by first | k_mem | simp)
 have rt1:=r.ne (a:=a.tO) (by first | k_mem | simp)
 have rd1:=r.ne (a:=a.dO) (by first | k_mem | simp)
 have rc1:=r.ne (a:=a.cO) (by first | k_mem | simp)
 have rx1:=r.ne (a:=a.xO) (by first | k_mem | simp)
 have rs1:=r.ne (a:=a.sO) (by first | k_mem | simp)
 try dsimp only [List.nil_append,List.cons_append] at N0
 clear N
 subst hvc
 have pne:((p.size:Nat):Int)≠0:=by walk_at "OM"
 have k0lt:k0<p.size:=by have:=Int.fmod_lt_of_pos mo (show (0:Int)<((p.size:Nat):Int) by walk_at "OM");walk_at "OM"
 try dsimp only [List.take,List.drop]
 obtain ⟨c0,hc0⟩:∃ c:Nat,wv.fmod 255=((c:Nat):Int):=⟨(wv.fmod 255).toNat,by have:=Int.fmod_nonneg_of_pos wv (by decide:(0:Int)<255);walk_at "OM"⟩
 have c0lt:c0<255:=by have:=Int.fmod_lt_of_pos wv (by decide:(0:Int)<255);walk_at "OM"
 have gk:=jo4 p k0
 have ex:bitXor ((gB p k0:Nat):Int) (1+((c0:Nat):Int))=((gB p k0 ^^^ (1+c0):Nat):Int):=by
  rw [show (1:Int)+((c0:Nat):Int)=((1+c0:Nat):Int) by lia,jk8]
 have xl:gB p k0 ^^^ (1+c0)<256:=Nat.xor_lt_two_pow (n:=8) gk (by walk_at "OM")
 have xn:gB p k0 ^^^ (1+c0)≠gB p k0:=fun q=>by
  have:=congrArg (gB p k0 ^^^ ·) q
  simp only [← Nat.xor_assoc,Nat.xor_self,Nat.zero_xor] at this
  walk_at "OM"
 have zA:=(js5 (b:=p) (hi:=k0) (by walk_at "OM"))
 have zB:(picked p (some (((k0:Nat):Int)+1)) none).size=p.size-(k0+1)∧∀ q,gB (picked p (some (((k0:Nat):Int)+1)) none) q=if q<p.size-(k0+1) then gB p (k0+1+q) else 0:=jnv (b:=p) (lo:=k0+1) (by lia)
 obtain ⟨zA,gA⟩:=zA
 obtain ⟨zB,gB'⟩:=zB
 walk_at "GO"
 ·rename_i h3 F3 N3
  have N4:=(jb1 N3)
  have hT:=ke3 zA gA zB gB' k0lt xl xn
  rw [← ex] at hT
  exact h _ _ _ _ _ _ (fun n q1 q2 q3 q4=>jaw q4 (jaw q3 (jaw q2 (jaw q1 rfl)))) (jaw (jbq (by decide)) jej) jej (.inr ⟨rfl,k0,hT⟩) F3 (Mid.same X O DG Z S1 hsv hoc (hold _ _ _ _ _ _ _ _ _ F3 N4) (kr4 N4))
 ·exact h _ _ m p b _ (fun n zz zz zz zz=>rfl) h3 h4 (.inl ⟨rfl,rfl⟩) (hF trivial) M0
end
end
theorem fl49:True:=by first|walk1|trivial
section
local macro_rules (kind:=PyProof.Rows.tacticWalk_at_) | s=>jex "AJaPGHEQRV&" s
section
variable {w:World} {mg mb:Str->Option Value} {g G base:Heap} {s:Shared} {A:Around} {E:Value->Shared->Prop} {Q:Flow->Shared->Prop}
theorem kd5 {fa L e:Addr} {cd a0:Value} {m:Str->Option Value} {np pos:Pos} {b₀:Stmt} {suite:List Stmt} {rest:List ExceptHandler} (B':jbw w mg mb g) (hfr:A.frames=some []) (F:Fr g L G m) (hL:base.get? L=none) (hB:∀ b o,G.get? b=some o->b≠L->base.get? b=some o)
  (hfl:Heap.FlyingW base [(envOfC "law" jaq L fa cd)] e (.ref 31) a0 s.heap) (hsm:G.UpToSlots s.heap)
  (k:∀ h',Fr g L h' m->jb8 G [L] h'->∀ E',wpAny (model pw w) ((A.deeper (envOfC "law" jaq L fa cd)).mark (some (.ref e))) (execs (b₀::suite) (envOfC "law" jaq L fa cd)) Q E' { s with heap:=h' }) :
  wpAny (model pw w) (A.deeper (envOfC "law" jaq L fa cd)) (noteFrame (.ref e) (envOfC "law" jaq L fa cd))
   (fun zz s₂=>wpAny (model pw w) (A.deeper (envOfC "law" jaq L fa cd)) (setFlight (.ref e) none) (fun zz s₃ =>
    wpAny (model pw w) (A.deeper (envOfC "law" jaq L fa cd)) (handleBy (.ref e) (envOfC "law" jaq L fa cd) (.ExceptHandler (some (.Name "CryptoError" np)) none (b₀::suite) pos::rest)) Q E s₃) E s₂) E s:=by
 have KX:=B'.k
 have TR:=B'.t
 have ground:∀ h',base.StaysIn h'->G.UpToSlots h'->Fr g L h' m:=fun h' k u=>⟨u.ns F.ns,fun b o q=>k b o (hB b o (F.keep b o q) (fun z=>by rw [z,kts_self F] at q;cases q)),F.above⟩
 refine wpAny_looks_onW (Around.frames_deeper hfr) rfl hfl fun h₄ hheld₄ hsm₄=>?_
 refine wpAny_landsW hheld₄ fun h₅ hheld hsm₅'=>?_
 have hsm₅:=(hsm.trans hsm₄).trans hsm₅'
 have F₅:=ground h₅ hheld.1 hsm₅
 refine xEA hheld.there fun ob hob hobc=>?_
 refine je8 (kts_cls (C:=31) (T := "BaseException") KX (by kernel_rfl!)) fun nm q' N bs bm hdct sn sub zr20=>?_
 refine jlq zr20 fun ab col dd k0 k1 k2 k3 k5 newId hC hbase hbT=>?_
 have hC₅:=F₅.keep _ _ hC
 refine wpAny_handleBy_cons (codeAny_handlers_test ?_) (by intro q;cases q)
 walk1
 refine wpAny_excMatches_sub_self hC₅ hob hobc hbase (codeAny_handlers_suite ?_)
 refine lands_againW hheld fun h₆ hfl₆ hsm₆=>?_
 exact k h₆ (ground h₆ hfl₆.1 (hsm₅.trans hsm₆)) (fun b o q n=>hfl₆.1 b o (hB b o q (fun z=>n (List.mem_singleton.mpr z)))) _
end
end
theorem fl50:True:=by first|walk1|trivial
section
local macro_rules (kind:=PyProof.Rows.tacticWalk_at_) | s=>jex "AJaPGHEQRV&m^" s
local macro_rules | `(tactic| k_inst)=>jo2 "J^" "k_inst"
noncomputable def St.read (S:St) (j:Nat) (up:Bool):St:={ S with
 turn:=upd S.turn j (if up then S.turn j+1 else S.turn j),wish:=upd S.wish j (if up then false else S.wish j),heard:=upd S.heard j (if up then S.heard j++[("read", "remote_update")]++[("send", "remote_update")] else S.heard j) }
noncomputable def tryBo:List Stmt:=jpk (delBo.drop 4)
noncomputable abbrev tryB:=jaj tryBo
section
variable {w:World} {mg mb:Str->Option Value} {g:Heap} {s:Shared} {A:Around} {E:Value->Shared->Prop} {Q:Flow->Shared->Prop}
theorem kpv {fa L rl hO eO it:Addr} {cd:Value} {a:LA} {e:Nat->EA} {d:Nat->Addr} {cid:Array UInt8} {len suite sec:Int} {its:Array Value} {hs:Heap} {n i:Nat} {S:St} {dueL:Nat->List (String×String)} {vc:Option Value} {m:Str->Option Value} {u1 u2:Tok} {j Lp:Nat} {p hdr:Array UInt8} {pn:Int} (hfr:A.frames=some []) (B':jbw w mg mb g) (hC:jav A 16) (NM:ja8 m a eO hO cid len) (Z:jb5 w g hs L rl hO eO e sec) (M:Mid w g hs L rl hO eO it a e suite sec its n vc S dueL d i s.heap) (F:Fr g L s.heap m) (hsuite:suite=4865∨suite=4866∨suite=4867) (hsec:sec=0∨sec=1) (hj:j<2) (h1:m "end" = some (.int ((j:Nat):Int) u1)) (h2:m "packet" = some (.bytes p u2))
  (hcs:cid.size≤5) (hpz:1+cid.size+20≤p.size) (hp1:p.size≤1000) (hhd:ji2 p (jdz suite (1-j) (1+cid.size) p) (1+cid.size)=hdr) (hh1:0<hdr.size) (hh2:hdr.size≤1000) (hLn:gB hdr 0 % 4+1=Lp)
  (hpn:jv2 (jyw p (jdz suite (1-j) (1+cid.size) p) (1+cid.size)) ((Lp:Int)*8) ((S.expect j:Nat):Int)=pn) (hpn2:0≤pn∧pn<2 ^ 64) (hbt:S.turn j≤100) (hbh:(S.heard j).length≤900)
  (h:∀ h' tk r tp u1 u2 u3,je1 S.rows suite (if kb7 hdr ((S.turn j % 2:Nat):Int) then jdq (1-j)+S.turn j+1 else jdq (1-j)+S.turn j) pn hdr p=some r->Fr g L h' (fun y=>if y = "told" then some (.ref tp) else m y)->News g L h' [(tp,jl7 #[.bytes hdr u1,.bytes r.two u2,.int pn u3])] →
   jmq w g hs L rl hO eO it a e suite sec its n vc (S.read j (kb7 hdr ((S.turn j % 2:Nat):Int))) S dueL d i h'->Q .next { s with heap:=h',toks:=tk })
  (hE:∀ e' a0 h' tk,je1 S.rows suite (if kb7 hdr ((S.turn j % 2:Nat):Int) then jdq (1-j)+S.turn j+1 else jdq (1-j)+S.turn j) pn hdr p=none->Heap.FlyingW (hideAll s.heap [L]) [(envOfC "law" jaq L fa cd)] e' (.ref 31) a0 h'->s.heap.UpToSlots h'->E (.ref e') { s with heap:=h',toks:=tk }) :
  wpG (model pw w) (A.deeper (envOfC "law" jaq L fa cd)) (execs (tryB.take 1) (envOfC "law" jaq L fa cd)) Q E s:=by
 obtain ⟨hd,dp,fr,gs,un⟩:=A
 obtain ⟨rfl,rfl⟩:hd=none∧gs=some []:=⟨hC.h,hC.g⟩
 have KX:=B'.k
 have TR:=B'.t
 obtain ⟨X,O,DG,T1,T2,T3,kk,vs,oc,hoc,hsv,N⟩:=M
 have NM0:=NM
 obtain ⟨n1,n2,n3,n4,n5,n6,n7,n8,n9,⟨tc,n10⟩,⟨tl,n11⟩,n12⟩:=NM
 have o0:=O.l0
 have o1:=O.l1 0 (by decide)
 have o2:=O.l2 0 (by decide)
 have o3:=O.l3
 have o4:=O.l4
 have o5:=O.l5
 have o6:=O.l6
 have o7:=O.l7
 have o8:=O.l8
 have o9:=O.l9
 have o10:=O.l10
 have Ej:=(X.mu j hj).up (jd6 (fun b o q f zz=>X.kp b o q f) (Z.fx j hj))
 have px:=Ej.fx.px
 refine xE Ej.pd fun Tp pd=>?_
 refine je4 X.ro fun rs kr ro rr=>?_
 have erl:=Z.rls j hj
 have nrl:=Z.nrl hj
 have e1:(1:Int)+((cid.size:Nat):Int)=((1+cid.size:Nat):Int):=by omega
 have f297:=kdk (a:=297) KX (by kernel_rfl!)
 refine je4 f297 fun o297 d297 e297 k297=>?_
 try clear f297
 have n50:jdq (1-j)+S.turn j+1<2 ^ 50:=nsLt (Nat.sub_le 1 j) hbt
 have n51:jdq j+S.turn j+1<2 ^ 50:=nsLt (Nat.le_of_lt_succ hj) hbt
 have hY:Fly (Around.deeper ⟨none,dp,fr,some [],un⟩ (envOfC "law" jaq L fa cd)) (hideAll s.heap [L]) [(envOfC "law" jaq L fa cd)] s.heap:=⟨Around.frames_deeper hfr,fun b o q=>of_hideAll _ q,Heap.FunFrames.cons (fun q=>absurd (show jaq.kind=.module from q) (by decide)) rfl F.ns (hideAll_none _ (by first | k_mem | simp)) trivial⟩
 try simp only [List.take_succ_cons,List.take_zero,List.drop_succ_cons,List.drop_zero]
 refine ja4 (jez (jc6 ?_ (by rfl)) (by rfl))
 walk_at "GO"
 refine jcx ?_ (by rfl)
 walk_at "GO"
 refine jl2.go ⟨(jhj _ _ (F.keep _ _ e297) k297),?_⟩
 rw [e1]
 refine jl1 (kn3 (s:={ s with heap:=s.heap,toks:=s.toks+1+1+1+1 }) (off:=1+cid.size) (Ln:=Lp) B' F.keep (hC.deeper.le (by decide)) Ej (Z.off j hj) (by rw [erl];exact ro) (by rw [erl];exact Z.orl) (by rw [erl];exact nrl.symm) rr hsec hsuite n50 n51 hbh hpz hp1 rfl hhd hh1 hh2 hLn hpn hpn2 hY) (fun v h1 tk1 H1 p1=>?_) (fun e' a0 h6 tk6 c X6 u6=>?_)
 ·refine kej p1 fun r up tp v1 v2 v3 zq20 hrow zr12=>?_
  refine jv1 zr12 fun zq21 tn tup E1=>?_
  try clear p1
  obtain rfl:=zq20
  obtain rfl:=zq21
  have H5:jb8 s.heap (ko7 (e j) rl) h1:=H1.mono (by first | k_mem | simp)
  have hd5:Hards s.heap h1:=Hards.of_left H5 ((X.mu j hj).kind.soft (jjv _ ro rfl rfl))
  have nrl4:rl∉[(e j).dx,(e j).dr,(e j).dc,(e j).hl]:=by
   obtain ⟨⟨o1,a1,s1,_⟩,⟨o2,a2,s2,_⟩,⟨o3,a3,s3,_⟩,_⟩:=(X.mu j hj).kind
   exact noC (jf1 ro a1 (by rw [s1];exact (by decide:(0:Nat)≠5))) (noC (jf1 ro a2 (by rw [s2];exact (by decide:(0:Nat)≠9))) (noC (jf1 ro a3 (by rw [s3];exact (by decide:(0:Nat)≠9))) (noC nrl.symm noN)))
  have X1:=X.call O Z hj H5 E1.mu (jhj rs kr (H1 _ _ ro nrl4) (rr.hd hd5))
  have F1:=jc0 F H5 (jr4 Z hj)
  have N1:=jrz X O hj hoc H5 N
  have sv1:=hsv.hd hd5
  have gtp:g.get? tp=none:=jbz F.keep tn
  have tpL:tp≠L:=jiz F tn
  refine xE (jck g h1 L [a.nO,eO,L+1,a.dO,a.tO,a.wO,a.cO,a.xO,a.sO]) fun R r1=>?_
  have hold:=jdw r1 F1 N1
  have S1:=jj0 F1 n12 hoc N1
  have N0:News g L h1 ((tp,jl7 #[.bytes hdr v1,.bytes r.two v2,.int pn v3])::(a.nO,listOf its 0)::(eO,listOf (two fun j=>.ref (e j).x) 0)::(L+1,oc)::(a.dO,listOf (two fun j=>.ref (d j)) 0)::(a.tO,listOf (two fun j=>.int ((S.turn j:Nat):Int) (T1 j)) 0)::(a.wO,listOf (two fun j=>.bool (S.wish j)) 0)::(a.cO,listOf (two fun j=>.int ((S.count j:Nat):Int) (T2 j)) 0)::(a.xO,listOf (two fun j=>.int ((S.expect j:Nat):Int) (T3 j)) 0)::(a.sO,listOf vs.toArray kk)::R):=fun q hq=>by
   rcases List.mem_cons.mp hq with rfl | hq
   ·exact (iAA tup tpL gtp)
   ·exact N1.rest r1 q hq
  clear N N1 H1 F px pd
  walk_at "GO"
  rename_i h3 F3 N3
  have N4:=(jb1 N3)
  have LL:=hold _ _ _ _ _ _ _ _ _ F3 N4
  refine jcz ?_
  walk_at "GO"
  exact h h3 _ r tp v1 v2 v3 hrow F3 (fun q hq=>by obtain rfl:=List.mem_singleton.mp hq;exact N3 _ (.head _)) ⟨X1.left O Z.hL Z.hc S1 LL,O,DG,T1,T2,T3,kk,vs,oc,hoc,sv1.hd (Hards.of_own S1 LL),kr4 N4⟩
 ·obtain ⟨up,rfl,c⟩:=c
  exact hE e' a0 h6 tk6 c X6 u6
end
end
theorem fl51:True:=by first|walk1|trivial
section
local macro_rules (kind:=PyProof.Rows.tacticWalk_at_) | s=>jex "ANJaPGHEQRV&m^ruy" s
local macro_rules | `(tactic| k_inst)=>jo2 "J^" "k_inst"
section
variable {prog:Program} {w:World} {A:Around} {E:Value->Shared->Prop} {s:Shared} {g:Heap} {L D:Addr} {m:Str->Option Value} {news:List (Addr×Obj)}
theorem kw1 {la lb:Addr} {P O:Array UInt8} {n:Int} {t1 t2 t3 v1 v2 v3:Tok} {Q:Value->Shared->Prop} (N:News g L s.heap news) (ha:(la,jl7 #[.bytes P t1,.bytes O t2,.int n t3])∈news) (hb:(lb,jl7 #[.bytes P v1,.bytes O v2,.int n v3])∈news) (hu:A.units+8<cLine) (h:Q (.bool false) s) :
  wpAny (model prog w) A (compareOp .NotEq (.ref la) (.ref lb)) Q E s:=by
 have R:=PySem.SeqAt.RcNeAt.tuples (A:=A) (s:=s) (e:=fun zz=>true) (kx7 _ (N.get ha) rfl 0 rfl) (kx7 _ (N.get hb) rfl 0 rfl) (by walk_at "OM") (fun j h1 h2=>by
  rcases j with _ | _ | _ | j
  ·have:=jd8 (A:=A.in1) (s:=s) P P t1 v1;rw [beq_self_eq_true] at this;exact this
  ·have:=jd8 (A:=A.in1) (s:=s) O O t2 v2;rw [beq_self_eq_true] at this;exact this
  ·have:=PySem.SeqAt.EqAt.int_int (A:=A.in1) (s:=s) n t3 n v3;rw [beq_self_eq_true] at this;exact this
  ·exact absurd h1 (Nat.not_lt_of_le (Nat.le_add_left 3 j)))
 exact R prog w E Q h
end
theorem ke0 {f:Nat->Nat} {T:Nat->Tok} {j:Nat} {k:Nat} {t:Tok}:(fun x=>Value.int ((upd f j k x:Nat):Int) (upd T j t x))=upd (fun x=>Value.int ((f x:Nat):Int) (T x)) j (Value.int ((k:Nat):Int) t):=by
 funext x;unfold upd;split <;> rfl
noncomputable def St.followed (W:St) (j t:Nat):St:={ W with wish:=upd W.wish j false,turn:=upd W.turn j t }
section
variable {w:World} {mg mb:Str->Option Value} {g:Heap} {s:Shared} {A:Around} {E:Value->Shared->Prop} {Q:Flow->Shared->Prop}
theorem kf7 {fa L rl hO eO it:Addr} {cd:Value} {a:LA} {e:Nat->EA} {d:Nat->Addr} {cid:Array UInt8} {len suite sec:Int} {its:Array Value} {hs:Heap} {n i:Nat} {S:St} {dueL:Nat->List (String×String)} {vc:Option Value} {W:St} {m:Str->Option Value} {x:jf7} {tp:Addr} {u1 u2 u3 v3 v4 v5:Tok} (B':jbw w mg mb g) (hC:jav A 16) (NM:ja8 m a eO hO cid len) (Z:jb5 w g hs L rl hO eO e sec) (M:jmq w g hs L rl hO eO it a e suite sec its n vc S W dueL d i s.heap) (F:Fr g L s.heap m) (h1:m "right" = some (.bool true)) (h2:m "told" = some (.ref tp)) (h3:m "plain" = some (.bytes x.plain v4)) (h4:m "octets" = some (.bytes x.octets v5)) (h5:m "number" = some (.int ((x.number:Nat):Int) v3))
  (NT:News g L s.heap [(tp,jl7 #[.bytes x.plain u1,.bytes x.octets u2,.int ((x.number:Nat):Int) u3])])
  (h:∀ h' tk,Fr g L h' m->jmq w g hs L rl hO eO it a e suite sec its n vc S W dueL d i h'->Q .next { s with heap:=h',toks:=tk }) :
  wpAny (model pw w) (A.deeper (envOfC "law" jaq L fa cd)) (execs ((tryB.drop 1).take 1) (envOfC "law" jaq L fa cd)) Q E s:=by
 refine openA A hC fun dp fr un hC=>?_
 have KX:=B'.k
 have TR:=B'.t
 obtain ⟨X,O,DG,T1,T2,T3,kk,vs,oc,hoc,hsv,N⟩:=M
 have NM0:=NM
 obtain ⟨n1,n2,n3,n4,n5,n6,n7,n8,n9,zs1,zs2,n12⟩:=NM
 refine xE zs1 fun tc n10=>?_
 try clear zs1
 refine xE zs2 fun tl n11=>?_
 try clear zs2
 have o0:=O.l0
 have o1:=O.l1 0 (by decide)
 have o2:=O.l2 0 (by decide)
 have o3:=O.l3
 have o4:=O.l4
 have o5:=O.l5
 have o6:=O.l6
 have o7:=O.l7
 have o8:=O.l8
 have o9:=O.l9
 have o10:=O.l10
 refine xE (jck g s.heap L [a.nO,eO,L+1,a.dO,a.tO,a.wO,a.cO,a.xO,a.sO]) fun R r=>?_
 have hold:=jdw r F N
 have S1:=jj0 F n12 hoc N
 have hu:(Around.deeper ⟨none,dp,fr,some [],un⟩ (envOfC "law" jaq L fa cd)).units+8<cLine:=by
  have:=(hC.deeper (n:=15) (env:=(envOfC "law" jaq L fa cd))).u
  walk_at "OM"
 have N0:News g L s.heap ((tp,jl7 #[.bytes x.plain u1,.bytes x.octets u2,.int ((x.number:Nat):Int) u3])::(a.nO,listOf its 0)::(eO,listOf (two fun j=>.ref (e j).x) 0)::(L+1,oc)::(a.dO,listOf (two fun j=>.ref (d j)) 0)::(a.tO,listOf (two fun j=>.int ((W.turn j:Nat):Int) (T1 j)) 0)::(a.wO,listOf (two fun j=>.bool (W.wish j)) 0)::(a.cO,listOf (two fun j=>.int ((W.count j:Nat):Int) (T2 j)) 0)::(a.xO,listOf (two fun j=>.int ((W.expect j:Nat):Int) (T3 j)) 0)::(a.sO,listOf vs.toArray kk)::R):=jbj (NT _ (.head _)) (fun q hq=>(N.rest r q hq))
 clear N NT
 try dsimp only [List.take,List.drop]
 walk_at "GO"
 rename_i h2 F2 N2 _
 have N3:=(jb1 (jb1 N2))
 have LL:=hold _ _ _ _ _ _ _ _ _ F2 N3
 exact h h2 _ F2 ⟨X.left O Z.hL Z.hc S1 LL,O,DG,T1,T2,T3,kk,vs,oc,hoc,hsv.hd (Hards.of_own S1 LL),kr4 N3⟩
theorem kf6 {fa L rl hO eO it:Addr} {cd:Value} {a:LA} {e:Nat->EA} {d:Nat->Addr} {cid:Array UInt8} {len suite sec:Int} {its:Array Value} {hs:Heap} {n i:Nat} {S:St} {dueL:Nat->List (String×String)} {vc:Option Value} {W:St} {m:Str->Option Value} {x:jf7} {j:Nat} {u1 u2:Tok} (B':jbw w mg mb g) (hC:jav A 16) (NM:ja8 m a eO hO cid len) (Z:jb5 w g hs L rl hO eO e sec) (M:jmq w g hs L rl hO eO it a e suite sec its n vc S W dueL d i s.heap) (F:Fr g L s.heap m) (hj:j<2) (h1:m "end" = some (.int ((j:Nat):Int) u1)) (h2:m "turn" = some (.int ((x.turn:Nat):Int) u2)) (hdl:(dueL j).length≤900)
  (h:∀ h' tk d',Fr g L h' m->jmq w g hs L rl hO eO it a e suite sec its n vc S (if x.turn=W.turn j then W else W.followed j x.turn) (if x.turn=W.turn j then dueL else upd dueL j (dueL j++[("read", "remote_update")]++[("send", "remote_update")])) d' i h'->Q .next { s with heap:=h',toks:=tk }) :
  wpAny (model pw w) (A.deeper (envOfC "law" jaq L fa cd)) (execs ((tryB.drop 2).take 1) (envOfC "law" jaq L fa cd)) Q E s:=by
 refine openA A hC fun dp fr un hC=>?_
 have M0:=M
 have hF:True->Fr g L s.heap m:=fun zz=>F
 have KX:=B'.k
 have TR:=B'.t
 obtain ⟨X,O,DG,T1,T2,T3,kk,vs,oc,hoc,hsv,N⟩:=M
 have NM0:=NM
 obtain ⟨n1,n2,n3,n4,n5,n6,n7,n8,n9,zs3,zs4,n12⟩:=NM
 refine xE zs3 fun tc n10=>?_
 try clear zs3
 refine xE zs4 fun tl n11=>?_
 try clear zs4
 have o0:=O.l0
 have o1:=O.l1 0 (by decide)
 have o2:=O.l2 0 (by decide)
 have o3:=O.l3
 have o4:=O.l4
 have o5:=O.l5
 have o6:=O.l6
 have o7:=O.l7
 have o8:=O.l8
 have o9:=O.l9
 have o10:=O.l10
 have o11:=O.l1 1 (by decide)
 have o21:=O.l2 1 (by decide)
 refine je4 (X.du j hj) fun dits dk dq dr=>?_
 have dlen:=ja9.len dr
 have hdj:∀ x∈[L,L+1,a.dO,a.tO,a.wO,a.cO,a.xO,a.sO,rl,(e 0).hl,(e 1).hl],d j≠x:=O.nd j hj
 refine xE (jck g s.heap L [a.nO,eO,L+1,a.dO,a.tO,a.wO,a.cO,a.xO,a.sO]) fun R r=>?_
 have hold:=jdw r F N
 have S1:=jj0 F n12 hoc N
 have gd:=DG j hj
 have N0:News g L s.heap ((d j,listOf dits dk)::(a.nO,listOf its 0)::(eO,listOf (two fun j=>.ref (e j).x) 0)::(L+1,oc)::(a.dO,listOf (two fun j=>.ref (d j)) 0)::(a.tO,listOf (two fun j=>.int ((W.turn j:Nat):Int) (T1 j)) 0)::(a.wO,listOf (two fun j=>.bool (W.wish j)) 0)::(a.cO,listOf (two fun j=>.int ((W.count j:Nat):Int) (T2 j)) 0)::(a.xO,listOf (two fun j=>.int ((W.expect j:Nat):Int) (T3 j)) 0)::(a.sO,listOf vs.toArray kk)::R):=jbj ((iAA dq (hdj _ (by first | k_mem | simp)) gd)) (fun p hp=>(N.rest r p hp))
 have nd1:d j≠a.wO:=hdj _ (by first | k_mem | simp)
 have nd2:d j≠a.tO:=hdj _ (by first | k_mem | simp)
 have nd3:d j≠a.dO:=hdj _ (by first | k_mem | simp)
 have rw1:=r.ne (a:=a.wO) (by first | k_mem | simp)
 have rt1:=r.ne (a:=a.tO) (by first | k_mem | simp)
 have rd1:=r.ne (a:=a.dO) (by first | k_mem | simp)
 clear N
 try dsimp only [List.take,List.drop]
 by_cases hxt:x.turn=W.turn j
 ·have hx1:((x.turn:Nat):Int)=((W.turn j:Nat):Int):=by rw [hxt]
  walk_at "GO"
  all_goals first | (exfalso;walk_at "OM") | skip
  rw [if_pos hxt,if_pos hxt] at h
  exact h s.heap s.toks d (hF trivial) M0
 ·have hx1:((x.turn:Nat):Int)≠((W.turn j:Nat):Int):=by walk_at "OM"
  walk_at "GO"
  all_goals first | (exfalso;walk_at "OM") | skip
  rename_i D2 _ _ D1 _ _ lA _ _ D0 _ _ _ l0 h2 F2 N2
  rw [if_neg hxt,if_neg hxt] at h
  refine jsz l0 fun _ _ _ l3 l4 l5 l6 l7 zr13=>?_
  refine jq8 zr13 fun l8 l9 l10 l11 _=>?_
  try clear l0
  have nD:=(N2 _ (.head _))
  have N3:=(jb1 (jb1 (jb1 (jb1 (jb1 N2)))))
  have LL:=hold _ _ _ _ _ _ _ _ _ F2 N3
  have X3:=X.left O Z.hL Z.hc S1 LL
  have hd3:Hards s.heap h2:=Hards.of_own S1 LL
  have HD:ja3 h2 D0 (dueL j++[("read", "remote_update")]++[("send", "remote_update")]):=(jhj _ _ nD.1 (by
   rw [show dits.toList++[Value.ref D2,Value.ref D1]=dits.toList++[Value.ref D2]++[Value.ref D1] by rw [List.append_assoc];rfl]
   exact ja9.snoc (ji4 _ _ _ rfl ((N2 _ me2).1)) (ja9.snoc (ji4 _ _ _ rfl ((N2 _ me3).1)) (dr.hd hd3))))
  have N9:=kr4 N3
  rw [← jm8 (φ:=Value.ref),← jm8 (φ:=Value.bool),← ke0] at N9
  exact h h2 _ (upd d j D0) F2 ⟨X3.due HD,O.due (jbj (neN (by walk_at "NO")) (jbj (neN (by walk_at "NO")) (jbj (neN (by walk_at "NO")) (jbj (neN (by walk_at "NO")) (jbj (neN (by walk_at "NO")) (jbj (neN (by walk_at "NO")) (jbj (neN (by walk_at "NO")) (jbj (neN (by walk_at "NO")) (jbj (neN (by walk_at "NO")) (jbj (neN (by walk_at "NO")) (jgw (neN (by walk_at "NO"))))))))))))),ktx DG nD.2.2,_,T2,T3,kk,vs,oc,hoc,hsv.hd hd3,N9⟩
theorem knk {fa L rl hO eO it:Addr} {cd:Value} {a:LA} {e:Nat->EA} {d:Nat->Addr} {cid:Array UInt8} {len suite sec:Int} {its:Array Value} {hs:Heap} {n i:Nat} {S:St} {dueL:Nat->List (String×String)} {vc:Option Value} {W:St} {m:Str->Option Value} {x:jf7} {j:Nat} {u1 u2:Tok} (B':jbw w mg mb g) (hC:jav A 16) (NM:ja8 m a eO hO cid len) (Z:jb5 w g hs L rl hO eO e sec) (M:jmq w g hs L rl hO eO it a e suite sec its n vc S W dueL d i s.heap) (F:Fr g L s.heap m) (hj:j<2) (h1:m "end" = some (.int ((j:Nat):Int) u1)) (h2:m "number" = some (.int ((x.number:Nat):Int) u2))
  (h:∀ h' tk,Fr g L h' m->jmq w g hs L rl hO eO it a e suite sec its n vc S { W with expect:=upd W.expect j (max (W.expect j) (x.number+1)) } dueL d i h'->Q .next { s with heap:=h',toks:=tk }) :
  wpAny (model pw w) (A.deeper (envOfC "law" jaq L fa cd)) (execs (tryB.drop 3) (envOfC "law" jaq L fa cd)) Q E s:=by
 refine openA A hC fun dp fr un hC=>?_
 have KX:=B'.k
 have TR:=B'.t
 obtain ⟨X,O,DG,T1,T2,T3,kk,vs,oc,hoc,hsv,N⟩:=M
 have NM0:=NM
 obtain ⟨n1,n2,n3,n4,n5,n6,n7,n8,n9,zs5,zs6,n12⟩:=NM
 refine xE zs5 fun tc n10=>?_
 try clear zs5
 refine xE zs6 fun tl n11=>?_
 try clear zs6
 have o0:=O.l0
 have o1:=O.l1 0 (by decide)
 have o2:=O.l2 0 (by decide)
 have o3:=O.l3
 have o4:=O.l4
 have o5:=O.l5
 have o6:=O.l6
 have o7:=O.l7
 have o8:=O.l8
 have o9:=O.l9
 have o10:=O.l10
 refine xE (jck g s.heap L [a.nO,eO,L+1,a.dO,a.tO,a.wO,a.cO,a.xO,a.sO]) fun R r=>?_
 have hold:=jdw r F N
 have S1:=jj0 F n12 hoc N
 have N0:=N.rest r
 have rw1:=r.ne (a:=a.wO) (by first | k_mem | simp)
 have rt1:=r.ne (a:=a.tO) (by first | k_mem | simp)
 have rd1:=r.ne (a:=a.dO) (by first | k_mem | simp)
 have rc1:=r.ne (a:=a.cO) (by first | k_mem | simp)
 have rx1:=r.ne (a:=a.xO) (by first | k_mem | simp)
 have rs1:=r.ne (a:=a.sO) (by first | k_mem | simp)
 try dsimp only [List.nil_append,List.cons_append] at N0
 clear N
 try dsimp only [List.take,List.drop]
 walk_at "GO"
 rename_i h2 F2 N2
 have N9:=kr4 N2
 have em:(if ((x.number:Nat):Int)+1 > ((W.expect j:Nat):Int) then ((x.number:Nat):Int)+1 else ((W.expect j:Nat):Int))=((max (W.expect j) (x.number+1):Nat):Int):=by
  split <;> walk_at "OM"
 rw [em,← ke0] at N9
 have LL:=hold _ _ _ _ _ _ _ _ _ F2 N2
 exact h h2 _ F2 ⟨X.left O Z.hL Z.hc S1 LL,O,DG,T1,T2,_,kk,vs,oc,hoc,hsv.hd (Hards.of_own S1 LL),N9⟩
end
end
section
open PySem PySem.Spec PySem.W PyProof.Rows
theorem kd3 {tr n ex:Nat} (hn2:n≤32) (hlt:tr<2 ^ n) (hex:ex<2 ^ 40):0≤jv2 (tr:Int) (n:Int) (ex:Int)∧jv2 (tr:Int) (n:Int) (ex:Int)<2 ^ 64:=by
 have hp2:2 ^ n≤2 ^ 32:=Nat.pow_le_pow_right (by decide) hn2
 have e1:(1*2 ^ (Int.toNat (n:Int)):Int)=((2 ^ n:Nat):Int):=by rw [Int.toNat_natCast,Int.one_mul];push_cast;rfl
 have c:jl9 (tr:Int) (n:Int) (ex:Int)=((ex / 2 ^ n*2 ^ n+tr:Nat):Int):=by
  unfold jl9
  rw [e1,jov,jvj hlt]
 have h3:ex / 2 ^ n*2 ^ n≤ex:=Nat.div_mul_le_self _ _
 unfold jv2
 rw [c,e1]
 generalize ex / 2 ^ n*2 ^ n=y at *
 generalize 2 ^ n=z at *
 split
 ·exact dr1 hex h3 hlt hp2
 ·split
  ·exact dr2 hex h3 hlt hp2 (by assumption)
  ·exact dr3 hex h3 hlt hp2
theorem ky2 {p mk:Array UInt8} {off ex Lp:Nat} {hdr:Array UInt8} (hh:ji2 p mk off=hdr) (ho:1≤off) (hp:off+4≤p.size) (hL:gB hdr 0 % 4+1=Lp) (hex:ex<2 ^ 40) :
  (0<hdr.size∧hdr.size≤off+4)∧0≤jv2 (jyw p mk off) ((Lp:Int)*8) (ex:Int)∧jv2 (jyw p mk off) ((Lp:Int)*8) (ex:Int)<2 ^ 64:=by
 have hl:=khk p mk
 refine xA (kwq (p:=p) (mk:=mk) ho hp) fun z1 z2=>?_
 rw [hh] at z1 z2
 have z0:=z2 0
 have zo:0<off+jzq p mk:=Nat.lt_of_lt_of_le ho (Nat.le_add_right _ _)
 rw [if_pos zo,if_pos rfl] at z0
 refine ⟨⟨z1▸zo,z1▸Nat.add_le_add_left hl.2 off⟩,?_⟩
 have eL:Lp=jzq p mk:=by rw [← hL,z0];rfl
 unfold jyw
 rw [jxz (Nat.lt_of_lt_of_le (Nat.lt_of_lt_of_le ho (Nat.le_add_right off 4)) hp),← eL]
 refine xA (jnj (jl4 p 0 (m0I p mk)) off mk Lp) fun t0 t1=>?_
 refine xE (Int.eq_ofNat_of_zero_le t0) fun tr ht=>?_
 rw [ht] at t1 ⊢
 have e:(256:Nat) ^ Lp=2 ^ (8*Lp):=by rw [Nat.pow_mul]
 have t2:tr<2 ^ (8*Lp):=by rw [← e];exact_mod_cast t1
 rw [show (Lp:Int)*8=((8*Lp:Nat):Int) from (Int.mul_comm _ _).trans (Int.natCast_mul 8 Lp).symm]
 exact kd3 (eL▸Nat.mul_le_mul_left 8 hl.2) t2 hex
structure Made (suite:Int) (off:Nat) (rows:List Row) (x:jf7) (T ex:Nat) (p:Array UInt8) (b:Bool) (hdr:Array UInt8) (pn:Int) (Lp:Nat):Prop where
 hd:ji2 p (jdz suite x.frm off p) off=hdr
 ln:gB hdr 0 % 4+1=Lp
 dn:jv2 (jyw p (jdz suite x.frm off p) off) ((Lp:Int)*8) (ex:Int)=pn
 s0:0<hdr.size
 s1:hdr.size≤1000
 p0:0≤pn∧pn<2 ^ 64
 z0:off+20≤p.size
 z1:p.size≤1000
 yes:b=true->hdr=x.plain∧pn=(x.number:Int)∧kb7 hdr ((T % 2:Nat):Int)=decide (x.turn≠T)∧(x.turn=T∨x.turn=T+1)∧∃ r,je1 rows suite (if kb7 hdr ((T % 2:Nat):Int) then jdq x.frm+T+1 else jdq x.frm+T) pn hdr p=some r∧r.two=x.octets
 no:b=false->je1 rows suite (if kb7 hdr ((T % 2:Nat):Int) then jdq x.frm+T+1 else jdq x.frm+T) pn hdr p=none
section
variable {suite:Int} {off L first:Nat} {rows:List Row} {sent:List jf7}
theorem kw5 {i T ex:Nat} {x:jf7} {p:Array UInt8} {b b0:Bool} (A:jf6 suite off L first rows sent) (hx:sent[i]?=some x) (ho:1≤off) (ho2:off≤100) (hL:2≤L) (hL4:L≤4) (hf:first=0∨first=51200∨first=1048576) (hT:T≤30) (h1:first≤ex) (h2:ex<first+60)
  (hb0:b0=decide (x.turn=T∨x.turn=T+1)) (hp:(p=x.packet∧b=b0)∨(b=false∧∃ k0,p.size=x.packet.size∧gB p k0≠gB x.packet k0∧∀ q,q≠k0->gB p q=gB x.packet q)) :
  ∃ hdr pn Lp,Made suite off rows x T ex p b hdr pn Lp:=by
 have a:=A.ok i x hx
 have sz:=jcw a
 have o1:=a.o1
 have o2:=a.o2
 have hex:ex<2 ^ 40:=Nat.lt_of_lt_of_le h2 (by rcases hf with rfl | rfl | rfl <;> decide)
 have ez:p.size=x.packet.size:=by
  rcases hp with ⟨rfl,_⟩ | ⟨_,k0,e,_⟩
  ·rfl
  ·exact e
 refine xA (ky2 (p:=p) (mk:=jdz suite x.frm off p) (off:=off) (ex:=ex) rfl ho (ez.symm▸Nat.le_trans (Nat.add_le_add_left (by decide) off) (kr1 a hL)) rfl hex) fun zq161 p0=>?_
 obtain ⟨s0,s1⟩:=zq161
 refine (iEEE _ _ _ ⟨rfl,rfl,rfl,s0,Nat.le_trans s1 (Nat.le_trans (Nat.add_le_add_right ho2 4) (by decide)),p0,ez.symm▸kr1 a hL,by rw [ez,sz];exact Nat.le_trans (Nat.add_le_add_right (Nat.add_le_add (Nat.add_le_add ho2 hL4) o2) 16) (by decide),fun hb=>?_,fun hb=>?_⟩)
 ·rcases hp with ⟨rfl,rfl⟩ | ⟨hb',_⟩
  ·have hr:x.turn=T∨x.turn=T+1:=of_decide_eq_true (hb0.symm.trans hb)
   have e:=jr2 a ho hL hL4
   rw [e]
   have eL:gB x.plain 0 % 4+1=L:=by rw [a.p0];walk_at "OM"
   rw [eL,ky0 a ho hL hL4 hf h1 h2]
   refine xA (jw6 A hx ho hL hL4 hf hr) fun q1 q2=>?_
   exact (kx8 rfl rfl q1 hr _ q2 rfl)
  ·rw [hb] at hb';cases hb'
 ·rcases hp with ⟨rfl,rfl⟩ | ⟨_,k0,q1,q2,q3⟩
  ·have hr:¬ (x.turn=T∨x.turn=T+1):=of_decide_eq_false (hb0.symm.trans hb)
   rw [jr2 a ho hL hL4]
   exact jw5 A hx ho hL hL4 hf hT hr _
  ·exact js2 A hx ho hL hL4 hf hT q1 q2 q3 _ _
end
end
theorem fl52:True:=by first|walk1|trivial
section
local macro_rules (kind:=PyProof.Rows.tacticWalk_at_) | s=>jex "AJaPGHEQRV&" s
theorem km7 {M:Model} {A:Around} {E:Value->Shared->Prop} {s:Shared} {env:Env} (k:Nat) {l:List Stmt} {Q:Flow->Shared->Prop} (h:wpG M A (execs (l.take k) env) (fun f s'=>match f with | .next=>wpG M A (execs (l.drop k) env) Q E s' | f=>Q f s') E s):wpG M A (execs l env) Q E s:=by
 rw [← List.take_append_drop k l]
 exact jg3 h
theorem ja8.but {m m2:Str->Option Value} {a:LA} {eO hO:Addr} {cid:Array UInt8} {len:Int} (X:ja8 m a eO hO cid len) (h:∀ n,n≠ofString "place"->n≠ofString "turned"->n≠ofString "packet"->n≠ofString "right"->m2 n=m n):ja8 m2 a eO hO cid len:=by
 obtain ⟨n1,n2,n3,n4,n5,n6,n7,n8,n9,zs1,zs2,n12⟩:=X
 refine xE zs1 fun tc n10=>?_
 try clear zs1
 refine xE zs2 fun tl n11=>?_
 try clear zs2
 have k:∀ (x:String) (o:Option Value),(x == "place")=false->(x == "turned")=false->(x == "packet")=false->(x == "right")=false->m (ofString x)=o->m2 (ofString x)=o:=fun x o a b c d e=>(h _ (jbq a) (jbq b) (jbq c) (jbq d)).trans e
 exact ⟨k _ _ rfl rfl rfl rfl n1,k _ _ rfl rfl rfl rfl n2,k _ _ rfl rfl rfl rfl n3,k _ _ rfl rfl rfl rfl n4,k _ _ rfl rfl rfl rfl n5,k _ _ rfl rfl rfl rfl n6,k _ _ rfl rfl rfl rfl n7,k _ _ rfl rfl rfl rfl n8,k _ _ rfl rfl rfl rfl n9,⟨tc,k _ _ rfl rfl rfl rfl n10⟩,⟨tl,k _ _ rfl rfl rfl rfl n11⟩,k _ _ rfl rfl rfl rfl n12⟩
section
variable {w:World} {g hs h h':Heap} {L rl hO eO it:Addr} {a:LA} {e:Nat->EA} {suite sec:Int} {its:Array Value} {n i:Nat} {d:Nat->Addr} {dueL:Nat->List (String×String)} {S W:St} {vc:Option Value} {m:Str->Option Value}
theorem jmq.kept (M:jmq w g hs L rl hO eO it a e suite sec its n vc S W dueL d i h) (F:Fr g L h m) (hm:m "_cipher_name" = none) (Z:jb5 w g hs L rl hO eO e sec) (H:jb8 h [L] h'):jmq w g hs L rl hO eO it a e suite sec its n vc S W dueL d i h':=by
 obtain ⟨X,O,DG,T1,T2,T3,kk,vs,oc,hoc,hsv,N⟩:=M
 have S1:=jj0 F hm hoc N
 have LL:jb8 h (jy4 L a) h':=H.mono (by first | k_mem | simp)
 exact ⟨X.left O Z.hL Z.hc S1 LL,O,DG,T1,T2,T3,kk,vs,oc,hoc,hsv.hd (Hards.of_own S1 LL),fun p hp=>⟨H _ _ (N p hp).1 (fun q=>(N p hp).2.1 (List.mem_singleton.mp q)),(N p hp).2⟩⟩
end
noncomputable def St.heardIt (S:St) (j:Nat) (x:jf7):St:={ S with
 turn:=upd S.turn j x.turn,wish:=upd S.wish j (if x.turn=S.turn j then S.wish j else false),expect:=upd S.expect j (max (S.expect j) (x.number+1)),
 heard:=upd S.heard j (if x.turn=S.turn j then S.heard j else S.heard j++[("read", "remote_update")]++[("send", "remote_update")]) }
section
variable {w:World} {mg mb:Str->Option Value} {g:Heap} {s:Shared} {A:Around} {E:Value->Shared->Prop} {Q:Flow->Shared->Prop}
theorem kpw {fa L rl hO eO it:Addr} {cd:Value} {a:LA} {e:Nat->EA} {d:Nat->Addr} {cid:Array UInt8} {len suite sec:Int} {its:Array Value} {hs:Heap} {n i:Nat} {S:St} {vc:Option Value} {m:Str->Option Value} {tw u1 u2:Tok} {wv wh mo:Int} {q Ln first:Nat} {x:jf7} (hfr:A.frames=some []) (B':jbw w mg mb g) (hC:jav A 16) (NM:ja8 m a eO hO cid len) (Z:jb5 w g hs L rl hO eO e sec) (M:Mid w g hs L rl hO eO it a e suite sec its n vc S S.heard d i s.heap) (F:Fr g L s.heap m) (hvc:vc=some (.int wv tw)) (hsuite:suite=4865∨suite=4866∨suite=4867) (hsec:sec=0∨sec=1)
  (h1:m "what" = some (.int wh u1)) (h2:m "more" = some (.int mo u2)) (hq:wv.fmod ((S.sent.length:Nat):Int)=((q:Nat):Int)) (hx:S.sent[q]?=some x)
  (AS:jf6 suite (1+cid.size) Ln first S.rows S.sent) (hL:2≤Ln) (hL4:Ln≤4) (hcs:cid.size≤5) (hf:first=0∨first=51200∨first=1048576) (hT:∀ j,j<2->S.turn j≤30) (hex:∀ j,j<2->first≤S.expect j∧S.expect j<first+60) (hbh:∀ j,j<2->(S.heard j).length≤900)
  (h:∀ h' tk m' d' S',(S'=S∨((x.turn=S.turn (1-x.frm)∨x.turn=S.turn (1-x.frm)+1)∧S'=S.heardIt (1-x.frm) x))->Fr g L h' m'->ja8 m' a eO hO cid len->Mid w g hs L rl hO eO it a e suite sec its n vc S' S'.heard d' i h'->Q .next { s with heap:=h',toks:=tk }) :
  wpG (model pw w) (A.deeper (envOfC "law" jaq L fa cd)) (execs delB (envOfC "law" jaq L fa cd)) Q E s:=by
 have ak:=AS.ok q x hx
 have psz:=jcw ak
 have o1:=ak.o1
 have o2:=ak.o2
 have hxf:=ak.b
 have hj:1-x.frm<2:=by walk_at "OM"
 have ej:1-(1-x.frm)=x.frm:=by walk_at "OM"
 have hle:=AS.le
 refine jm7 3 (kpj B' hC NM Z M F hvc hq hx hxf (by walk_at "OM") fun h3 tk3 v1 v2 v3 v4 v5 v6 ue b0 hb0 F3 M3=>?_)
 have NM3:ja8 (fun y=>if y=ofString "right" then some (.bool b0) else if y=ofString "end" then some (.int ((1-x.frm:Nat):Int) ue) else if y=ofString "packet" then some (.bytes x.packet v6) else if y=ofString "octets" then some (.bytes x.octets v5) else if y=ofString "plain" then some (.bytes x.plain v4) else if y=ofString "number" then some (.int ((x.number:Nat):Int) v3) else if y=ofString "turn" then some (.int ((x.turn:Nat):Int) v2) else if y=ofString "by" then some (.int ((x.frm:Nat):Int) v1) else m y) a eO hO cid len:=(((((((NM.set (x := "by") (by decide)).set (x := "turn") (by decide)).set (x := "number") (by decide)).set (x := "plain") (by decide)).set (x := "octets") (by decide)).set (x := "packet") (by decide)).set (x := "end") (by decide)).set (x := "right") (by decide)
 obtain ⟨k0,hk0⟩:∃ k:Nat,mo.fmod ((x.packet.size:Nat):Int)=((k:Nat):Int):=⟨(mo.fmod ((x.packet.size:Nat):Int)).toNat,by have:=Int.fmod_nonneg_of_pos mo (show (0:Int)<((x.packet.size:Nat):Int) by walk_at "OM");walk_at "OM"⟩
 have w1:(fun y=>if y=ofString "right" then some (.bool b0) else if y=ofString "end" then some (.int ((1-x.frm:Nat):Int) ue) else if y=ofString "packet" then some (.bytes x.packet v6) else if y=ofString "octets" then some (.bytes x.octets v5) else if y=ofString "plain" then some (.bytes x.plain v4) else if y=ofString "number" then some (.int ((x.number:Nat):Int) v3) else if y=ofString "turn" then some (.int ((x.turn:Nat):Int) v2) else if y=ofString "by" then some (.int ((x.frm:Nat):Int) v1) else m y) "what" = some (.int wh u1):=(jaw (jbq (by decide)) (jaw (jbq (by decide)) (jaw (jbq (by decide)) (jaw (jbq (by decide)) (jaw (jbq (by decide)) (jaw (jbq (by decide)) (jaw (jbq (by decide)) (jaw (jbq (by decide)) h1))))))))
 have w2:(fun y=>if y=ofString "right" then some (.bool b0) else if y=ofString "end" then some (.int ((1-x.frm:Nat):Int) ue) else if y=ofString "packet" then some (.bytes x.packet v6) else if y=ofString "octets" then some (.bytes x.octets v5) else if y=ofString "plain" then some (.bytes x.plain v4) else if y=ofString "number" then some (.int ((x.number:Nat):Int) v3) else if y=ofString "turn" then some (.int ((x.turn:Nat):Int) v2) else if y=ofString "by" then some (.int ((x.frm:Nat):Int) v1) else m y) "more" = some (.int mo u2):=(jaw (jbq (by decide)) (jaw (jbq (by decide)) (jaw (jbq (by decide)) (jaw (jbq (by decide)) (jaw (jbq (by decide)) (jaw (jbq (by decide)) (jaw (jbq (by decide)) (jaw (jbq (by decide)) h2))))))))
 have w3:(fun y=>if y=ofString "right" then some (.bool b0) else if y=ofString "end" then some (.int ((1-x.frm:Nat):Int) ue) else if y=ofString "packet" then some (.bytes x.packet v6) else if y=ofString "octets" then some (.bytes x.octets v5) else if y=ofString "plain" then some (.bytes x.plain v4) else if y=ofString "number" then some (.int ((x.number:Nat):Int) v3) else if y=ofString "turn" then some (.int ((x.turn:Nat):Int) v2) else if y=ofString "by" then some (.int ((x.frm:Nat):Int) v1) else m y) "packet" = some (.bytes x.packet v6):=(jaw (jbq (by decide)) (jaw (jbq (by decide)) jej))
 have w4:(fun y=>if y=ofString "right" then some (.bool b0) else if y=ofString "end" then some (.int ((1-x.frm:Nat):Int) ue) else if y=ofString "packet" then some (.bytes x.packet v6) else if y=ofString "octets" then some (.bytes x.octets v5) else if y=ofString "plain" then some (.bytes x.plain v4) else if y=ofString "number" then some (.int ((x.number:Nat):Int) v3) else if y=ofString "turn" then some (.int ((x.turn:Nat):Int) v2) else if y=ofString "by" then some (.int ((x.frm:Nat):Int) v1) else m y) "end" = some (.int ((1-x.frm:Nat):Int) ue):=(jaw (jbq (by decide)) jej)
 have w5:(fun y=>if y=ofString "right" then some (.bool b0) else if y=ofString "end" then some (.int ((1-x.frm:Nat):Int) ue) else if y=ofString "packet" then some (.bytes x.packet v6) else if y=ofString "octets" then some (.bytes x.octets v5) else if y=ofString "plain" then some (.bytes x.plain v4) else if y=ofString "number" then some (.int ((x.number:Nat):Int) v3) else if y=ofString "turn" then some (.int ((x.turn:Nat):Int) v2) else if y=ofString "by" then some (.int ((x.frm:Nat):Int) v1) else m y) "turn" = some (.int ((x.turn:Nat):Int) v2):=(jaw (jbq (by decide)) (jaw (jbq (by decide)) (jaw (jbq (by decide)) (jaw (jbq (by decide)) (jaw (jbq (by decide)) (jaw (jbq (by decide)) jej))))))
 have w6:(fun y=>if y=ofString "right" then some (.bool b0) else if y=ofString "end" then some (.int ((1-x.frm:Nat):Int) ue) else if y=ofString "packet" then some (.bytes x.packet v6) else if y=ofString "octets" then some (.bytes x.octets v5) else if y=ofString "plain" then some (.bytes x.plain v4) else if y=ofString "number" then some (.int ((x.number:Nat):Int) v3) else if y=ofString "turn" then some (.int ((x.turn:Nat):Int) v2) else if y=ofString "by" then some (.int ((x.frm:Nat):Int) v1) else m y) "number" = some (.int ((x.number:Nat):Int) v3):=(jaw (jbq (by decide)) (jaw (jbq (by decide)) (jaw (jbq (by decide)) (jaw (jbq (by decide)) (jaw (jbq (by decide)) jej)))))
 have w7:(fun y=>if y=ofString "right" then some (.bool b0) else if y=ofString "end" then some (.int ((1-x.frm:Nat):Int) ue) else if y=ofString "packet" then some (.bytes x.packet v6) else if y=ofString "octets" then some (.bytes x.octets v5) else if y=ofString "plain" then some (.bytes x.plain v4) else if y=ofString "number" then some (.int ((x.number:Nat):Int) v3) else if y=ofString "turn" then some (.int ((x.turn:Nat):Int) v2) else if y=ofString "by" then some (.int ((x.frm:Nat):Int) v1) else m y) "plain" = some (.bytes x.plain v4):=(jaw (jbq (by decide)) (jaw (jbq (by decide)) (jaw (jbq (by decide)) (jaw (jbq (by decide)) jej))))
 have w8:(fun y=>if y=ofString "right" then some (.bool b0) else if y=ofString "end" then some (.int ((1-x.frm:Nat):Int) ue) else if y=ofString "packet" then some (.bytes x.packet v6) else if y=ofString "octets" then some (.bytes x.octets v5) else if y=ofString "plain" then some (.bytes x.plain v4) else if y=ofString "number" then some (.int ((x.number:Nat):Int) v3) else if y=ofString "turn" then some (.int ((x.turn:Nat):Int) v2) else if y=ofString "by" then some (.int ((x.frm:Nat):Int) v1) else m y) "octets" = some (.bytes x.octets v5):=(jaw (jbq (by decide)) (jaw (jbq (by decide)) (jaw (jbq (by decide)) jej)))
 refine ji5 3 1 (kpz (s:={ s with heap:=h3,toks:=tk3 }) B' hC NM3 Z M3 F3 hvc w1 w2 w3 jej (by walk_at "OM") (by walk_at "OM") hk0 fun h4 tk4 m4 p b u5 hm4 hp4 hr4 hcase F4 M4=>?_)
 have NM4:=NM3.but hm4
 have y4:m4 "end" = _:=(hm4 _ (jbq (by decide)) (jbq (by decide)) (jbq (by decide)) (jbq (by decide))).trans w4
 have y5:m4 "turn" = _:=(hm4 _ (jbq (by decide)) (jbq (by decide)) (jbq (by decide)) (jbq (by decide))).trans w5
 have y6:m4 "number" = _:=(hm4 _ (jbq (by decide)) (jbq (by decide)) (jbq (by decide)) (jbq (by decide))).trans w6
 have y7:m4 "plain" = _:=(hm4 _ (jbq (by decide)) (jbq (by decide)) (jbq (by decide)) (jbq (by decide))).trans w7
 have y8:m4 "octets" = _:=(hm4 _ (jbq (by decide)) (jbq (by decide)) (jbq (by decide)) (jbq (by decide))).trans w8
 clear w1 w2 w3 w4 w5 w6 w7 w8 hm4
 refine xEEE (kw5 (off:=1+cid.size) (T:=S.turn (1-x.frm)) (ex:=S.expect (1-x.frm)) AS hx (by walk_at "OM") (by walk_at "OM") hL hL4 hf (hT _ hj) (hex _ hj).1 (hex _ hj).2 hb0 hcase) fun hdr pn Lp MD=>?_
 obtain ⟨j,hjj⟩:∃ j,1-x.frm=j:=⟨_,rfl⟩
 rw [hjj] at hj y4 MD h
 have efr:x.frm=1-j:=by walk_at "OM"
 obtain ⟨m1,m2,m3,m5,m6,m7,m8,m9,myes,mno⟩:=MD
 have h30:=hT j hj
 have hbhj:=hbh j hj
 refine ja4 (jwq ?_)
 show wpG _ _ (execs tryB _) _ _ _
 rw [efr] at m1 m3 myes mno
 refine km7 1 (kpv (s:={ s with heap:=h4,toks:=tk4 }) hfr B' hC NM4 Z M4 F4 hsuite hsec hj y4 hp4 hcs m8 m9 m1 m5 m6 m2 m3 m7 (by walk_at "OM") hbhj (fun h5 tk5 r tp z1 z2 z3 hrow F5 NT M5=>?_) (fun e' a0 h5 tk5 hrow X5 U5=>?_))
 ·cases b with
  | false=>rw [mno rfl] at hrow;cases hrow
  | true =>
   refine kek (myes rfl) fun zq101 zq102 hup hrt r0 hr0 hr2=>?_
   obtain rfl:=zq101
   obtain rfl:=zq102
   rw [hr0] at hrow
   obtain rfl:=Option.some.inj hrow
   rw [hr2] at NT
   have NM5:=NM4.set (x := "told") (r:=some (.ref tp)) (by decide)
   have q4:=jaw (n:=ofString "told") (a:=some (.ref tp)) (jbq (a := "end") (by decide)) y4
   have q5:=jaw (n:=ofString "told") (a:=some (.ref tp)) (jbq (a := "turn") (by decide)) y5
   have q6:=jaw (n:=ofString "told") (a:=some (.ref tp)) (jbq (a := "number") (by decide)) y6
   have q7:=jaw (n:=ofString "told") (a:=some (.ref tp)) (jbq (a := "plain") (by decide)) y7
   have q8:=jaw (n:=ofString "told") (a:=some (.ref tp)) (jbq (a := "octets") (by decide)) y8
   have q9:=jaw (n:=ofString "told") (a:=some (.ref tp)) (jbq (a := "right") (by decide)) hr4
   refine ji5 1 1 (kf7 (s:={ s with heap:=h5,toks:=tk5 }) (x:=x) B' hC NM5 Z M5 F5 q9 jej q7 q8 q6 NT fun h6 tk6 F6 M6=>?_)
   refine ji5 2 1 (kf6 (s:={ s with heap:=h6,toks:=tk6 }) (x:=x) B' hC NM5 Z M6 F6 hj q4 q5 hbhj fun h7 tk7 d7 F7 M7=>?_)
   refine jcz (knk (s:={ s with heap:=h7,toks:=tk7 }) (x:=x) B' hC NM5 Z M7 F7 hj q4 q6 fun h8 tk8 F8 M8=>?_)
   refine jcz ?_
   walk_at "GO"
   refine jcz ?_
   walk_at "GO"
   have eD:(S.heardIt j x).heard=(if x.turn=S.turn j then S.heard else upd S.heard j (S.heard j++[("read", "remote_update")]++[("send", "remote_update")])):=by
    unfold St.heardIt
    dsimp only
    split
    ·exact jg5
    ·rfl
   rw [← eD] at M8
   refine h h8 _ _ d7 (S.heardIt j x) (.inr ⟨hrt,rfl⟩) F8 NM5 (M8.to ?_ ?_ ?_ rfl ?_ ?_ ?_ ?_ ?_)
   all_goals unfold St.heardIt
   all_goals (try unfold St.read)
   all_goals dsimp only
   all_goals (try rw [hup])
   all_goals by_cases hxt:x.turn=S.turn j
   all_goals first
    | (have hx1:=Or.resolve_left hrt hxt;simp [hx1,St.followed];done)
    | (simp [hxt,jg5];done)
 ·cases b with
  | true =>
   refine kek (myes rfl) fun _ _ _ _ r0 hr0 _=>?_
   rw [hr0] at hrow;cases hrow
  | false =>
   refine kd5 (G:=h4) (base:=hideAll h4 [L]) B' hfr F4 (hideAll_none _ (by first | k_mem | simp)) (fun b o q n=>hideAll_get _ q (by simpa using n)) X5 U5 (fun h6 F6 L6 E'=>?_)
   walk_at "GO"
   refine jcz ?_
   walk_at "GO"
   exact h h6 _ m4 d S (.inl rfl) F6 NM4 (M4.kept F4 NM4.n12 Z L6)
end
end
theorem fl53:True:=by first|walk1|trivial
section
local macro_rules (kind:=PyProof.Rows.tacticWalk_at_) | s=>jex "ANJaPGHEQRV&" s
section
variable {w:World} {mg mb:Str->Option Value} {g:Heap} {s:Shared} {A:Around} {E:Value->Shared->Prop} {Q:Flow->Shared->Prop}
theorem kb9 {fa L rl hO eO it:Addr} {cd:Value} {a:LA} {e:Nat->EA} {d:Nat->Addr} {cid:Array UInt8} {len suite sec:Int} {its:Array Value} {hs:Heap} {n i:Nat} {S:St} {vc:Option Value} {m:Str->Option Value} (B':jbw w mg mb g) (hC:jav A 16) (NM:ja8 m a eO hO cid len) (Z:jb5 w g hs L rl hO eO e sec) (M:Mid w g hs L rl hO eO it a e suite sec its n vc S S.heard d i s.heap) (F:Fr g L s.heap m) (hk:∀ j,j<2->(jek (S.heard j)).canLay0=true)
  (h:∀ h' tk,Fr g L h' m->Mid w g hs L rl hO eO it a e suite sec its n vc S S.heard d i h'->Q .next { s with heap:=h',toks:=tk }) :
  wpAny (model pw w) (A.deeper (envOfC "law" jaq L fa cd)) (execs (koz.drop 4) (envOfC "law" jaq L fa cd)) Q E s:=by
 refine openA A hC fun dp fr un hC=>?_
 have M0:=M
 have hF:True->Fr g L s.heap m:=fun zz=>F
 have KX:=B'.k
 have TR:=B'.t
 obtain ⟨X,O,DG,T1,T2,T3,kk,vs,oc,hoc,hsv,N⟩:=M
 have NM0:=NM
 obtain ⟨n1,n2,n3,n4,n5,n6,n7,n8,n9,zs1,zs2,n12⟩:=NM
 refine xE zs1 fun tc n10=>?_
 try clear zs1
 refine xE zs2 fun tl n11=>?_
 try clear zs2
 have o0:=O.l0
 have o1:=O.l1 0 (by decide)
 have o2:=O.l2 0 (by decide)
 have o3:=O.l3
 have o4:=O.l4
 have o5:=O.l5
 have o6:=O.l6
 have o7:=O.l7
 have o8:=O.l8
 have o9:=O.l9
 have o10:=O.l10
 try dsimp only [List.take,List.drop]
 walk_at "GO"
 refine ja0 (jwk (s:=s) (suite:=suite) (sec:=sec) (nr:=fun j=>jdq (1-j)) (ns:=jdq) (turn:=S.turn) (wish:=S.wish) (heard:=S.heard) B' F.keep (hC.deeper.le (by decide)) X.eo X.ho (N _ me3).1 (N _ me4).1 (N _ me5).1
  (fun j hj=>(X.mu j hj).up (jd6 (fun b o q f _=>X.kp b o q f) (Z.fx j hj))) X.du hk) fun v h1 tk1 H1 p1=>?_
 subst p1
 have F1:=jc9 F H1
 clear N F
 walk_at "GO"
 exact h h1 _ F1 (M0.kept (hF trivial) n12 Z (H1.mono (by simp)))
end
end
theorem jn0:∀ (l:List PyData) (x:PyData),PyData.canLayAll0 l=true->x.canLay0=true->PyData.canLayAll0 (l++[x])=true
 | [],x,_,h=>by show PyData.canLayAll0 [x]=true;unfold PyData.canLayAll0;rw [h];rfl
 | y::r,x,h,hx=>by
  rw [List.cons_append]
  unfold PyData.canLayAll0 at h ⊢
  refine xA (Bool.and_eq_true_iff.mp h) fun a b=>?_
  rw [a,jn0 r x b hx];rfl
theorem jiv {l:List (String×String)} {x:String×String} (h:(jek l).canLay0=true) (hx:(kdj x).canLay0=true):(jek (l++[x])).canLay0=true:=by
 unfold jek at h ⊢
 unfold PyData.canLay0 at h ⊢
 rw [List.map_append]
 exact jn0 _ _ h hx
structure jfk (suite:Int) (off Ln first c:Nat) (S:St):Prop where
 all:jf6 suite off Ln first S.rows S.sent
 sl:S.sent.length≤c
 tn:∀ j,j<2->S.turn j≤c
 c0:∀ j,j<2->first≤S.count j
 c1:∀ j,j<2->S.count j≤first+c
 x0:∀ j,j<2->first≤S.expect j
 x1:∀ j,j<2->S.expect j≤first+c
 nm:∀ (i:Nat) (x:jf7),S.sent[i]?=some x->x.number<S.count x.frm
 hd:∀ j,j<2->(S.heard j).length≤2+2*c
 lay:∀ j,j<2->(jek (S.heard j)).canLay0=true
theorem hd2 {n c:Nat} (h:n≤2+2*c):n≤2+2*(c+1):=Nat.le_trans h (Nat.add_le_add_left (Nat.mul_le_mul_left 2 (Nat.le_succ c)) 2)
theorem hd3 {n c:Nat} (h:n≤2+2*c):n+1+1≤2+2*(c+1):=Nat.succ_le_succ (Nat.succ_le_succ h)
theorem len2 {α:Type _} {l:List α} {x y:α} {c:Nat} (h:l.length≤2+2*c):(l++[x]++[y]).length≤2+2*(c+1):=by
 rw [List.length_append,List.length_append];exact hd3 h
section
variable {suite:Int} {off Ln first c:Nat} {S:St}
theorem jfk.more (P:jfk suite off Ln first c S):jfk suite off Ln first (c+1) S :=
 ⟨P.all,Nat.le_succ_of_le P.sl,fun j h=>Nat.le_succ_of_le (P.tn j h),P.c0,fun j h=>Nat.le_succ_of_le (P.c1 j h),P.x0,fun j h=>Nat.le_succ_of_le (P.x1 j h),P.nm,fun j h=>hd2 (P.hd j h),P.lay⟩
theorem jfk.asked (P:jfk suite off Ln first c S) {f:Nat->Bool}:jfk suite off Ln first c { S with wish:=f }:=⟨P.all,P.sl,P.tn,P.c0,P.c1,P.x0,P.x1,P.nm,P.hd,P.lay⟩
theorem jf3 {α:Type} {f:Nat->α} {j:Nat} {v:α} {C:Nat->α->Prop} (h:∀ x,x<2->C x (f x)) (hv:C j v):∀ x,x<2->C x (upd f j v x):=fun x hx=>by
 unfold upd
 by_cases q:x=j
 ·rw [if_pos q,q];exact hv
 ·rw [if_neg q];exact h x hx
theorem jfk.went (P:jfk suite off Ln first c S) (hc:c<24) {j turn':Nat} {Pl ob:Array UInt8} (hj:j<2) (ht:turn'=(if S.wish j then S.turn j+1 else S.turn j)) (z:Pl.size=off+Ln) (p0:gB Pl 0=64+4*(turn' % 2)+Ln-1)
  (pn:∀ q,q<Ln->gB Pl (off+q)=gB (BE Ln (S.count j % 256 ^ Ln)) q) (o1:2≤ob.size) (o2:ob.size≤10):jfk suite off Ln first (c+1) (S.went suite j turn' off Ln Pl ob):=by
 have A:=P.all
 have hl:=A.len
 have s1:=P.sl
 have t1:=P.tn j hj
 have k0:=P.c0 j hj
 have k1:=P.c1 j hj
 have ht1:turn'≤c+1:=by
  rw [ht];split
  ·exact Nat.succ_le_succ t1
  ·exact Nat.le_succ_of_le t1
 unfold St.went
 have old:∀ (i:Nat) (x:jf7),(S.sent++[⟨j,turn',S.count j,Pl,ob,jr5 (jo3 suite j) Pl (ob++BE 16 (S.rows.length+1)) off Ln⟩])[i]?=some x->(i<S.sent.length∧S.sent[i]?=some x)∨(i=S.sent.length∧x=⟨j,turn',S.count j,Pl,ob,jr5 (jo3 suite j) Pl (ob++BE 16 (S.rows.length+1)) off Ln⟩):=fun i x hx=>by
  rcases Nat.lt_or_ge i S.sent.length with q | q
  ·rw [List.getElem?_append_left q] at hx;exact .inl ⟨q,hx⟩
  ·rw [List.getElem?_append_right q] at hx
   obtain ⟨k,hk⟩:∃ k,i-S.sent.length=k:=⟨_,rfl⟩
   rw [hk] at hx
   cases k with
   | zero=>exact .inr ⟨by walk_at "OM", by simpa using hx.symm⟩
   | succ k=>simp at hx
 refine ⟨⟨?_,?_,fun i x hx=>?_,fun i x hx=>?_,fun i i' x x' hx hx' e1 e2=>?_⟩,?_,jf3 (f:=S.turn) (C:=fun _ v=>v≤c+1) (fun x hx=>Nat.le_succ_of_le (P.tn x hx)) ht1,jf3 (f:=S.count) (C:=fun _ v=>first≤v) P.c0 (Nat.le_succ_of_le k0),jf3 (f:=S.count) (C:=fun _ v=>v≤first+(c+1)) (fun x hx=>Nat.le_succ_of_le (P.c1 x hx)) (Nat.succ_le_succ k1),P.x0,fun x hx=>Nat.le_succ_of_le (P.x1 x hx),fun i x hx=>?_,jf3 (f:=S.heard) (C:=fun _ v=>v.length≤2+2*(c+1)) (fun x hx=>hd2 (P.hd x hx)) ?_,jf3 (f:=S.heard) (C:=fun _ v=>(jek v).canLay0=true) P.lay ?_⟩
 ·rw [List.length_append,List.length_append,hl];rfl
 ·rw [List.length_append];exact Nat.le_trans (Nat.succ_le_succ s1) (Nat.le_trans hc (by decide))
 ·rcases old i x hx with ⟨_,q⟩ | ⟨rfl,rfl⟩
  ·exact A.ok i x q
  ·exact ⟨hj,Nat.le_trans ht1 (Nat.le_trans hc (by decide)),k0,Nat.lt_of_le_of_lt k1 (Nat.add_lt_add_left (Nat.lt_trans hc (by decide)) first),z,p0,pn,o1,o2,by dsimp only;rw [hl]⟩
 ·rcases old i x hx with ⟨q0,q⟩ | ⟨rfl,rfl⟩
  ·rw [List.getElem?_append_left (hl▸q0)];exact A.row i x q
  ·rw [List.getElem?_append_right (Nat.le_of_eq hl),hl,Nat.sub_self]
   rfl
 ·rcases old i x hx with ⟨q0,q⟩ | ⟨rfl,rfl⟩ <;> rcases old i' x' hx' with ⟨q0',q'⟩ | ⟨rfl,rfl⟩
  ·exact A.inj i i' x x' q q' e1 e2
  ·have:=P.nm i x q
   dsimp only at e1 e2
   rw [e1,e2] at this;exact absurd this (Nat.lt_irrefl _)
  ·have:=P.nm i' x' q'
   dsimp only at e1 e2
   rw [← e1,← e2] at this;exact absurd this (Nat.lt_irrefl _)
  ·rfl
 ·rw [List.length_append];exact Nat.succ_le_succ s1
 ·rcases old i x hx with ⟨_,q⟩ | ⟨rfl,rfl⟩
  ·have:=P.nm i x q
   dsimp only
   unfold upd
   split
   ·rename_i e;rw [e] at this;exact Nat.lt_succ_of_lt this
   ·exact this
  ·dsimp only
   rw [jlj];exact Nat.lt_succ_self _
 ·have:=P.hd j hj
  split
  ·exact len2 this
  ·exact hd2 this
 ·split
  ·exact jiv (jiv (P.lay j hj) (by decide +kernel)) (by decide +kernel)
  ·exact P.lay j hj
theorem jfk.heardIt (P:jfk suite off Ln first c S) {q:Nat} {x:jf7} (hx:S.sent[q]?=some x) (hr:x.turn=S.turn (1-x.frm)∨x.turn=S.turn (1-x.frm)+1):jfk suite off Ln first (c+1) (S.heardIt (1-x.frm) x):=by
 have hb:=(P.all.ok q x hx).b
 have hj:1-x.frm<2:=Nat.lt_of_le_of_lt (Nat.sub_le 1 x.frm) (by decide)
 have nm:=P.nm q x hx
 have k1:=P.c1 x.frm hb
 have x0:=P.x0 _ hj
 have x1:=P.x1 _ hj
 have t1:=P.tn _ hj
 have h1:=P.hd _ hj
 unfold St.heardIt
 refine ⟨P.all,Nat.le_succ_of_le P.sl,jf3 (f:=S.turn) (C:=fun _ v=>v≤c+1) (fun j h=>Nat.le_succ_of_le (P.tn j h)) (hr.elim (fun e=>e▸Nat.le_succ_of_le t1) (fun e=>e▸Nat.succ_le_succ t1)),P.c0,fun j h=>Nat.le_succ_of_le (P.c1 j h),jf3 (f:=S.expect) (C:=fun _ v=>first≤v) P.x0 (Nat.le_trans x0 (Nat.le_max_left _ _)),jf3 (f:=S.expect) (C:=fun _ v=>v≤first+(c+1)) (fun j h=>Nat.le_succ_of_le (P.x1 j h)) (Nat.max_le.mpr ⟨Nat.le_succ_of_le x1,Nat.succ_le_succ (Nat.le_trans (Nat.le_of_lt nm) k1)⟩),P.nm,jf3 (f:=S.heard) (C:=fun _ v=>v.length≤2+2*(c+1)) (fun j h=>hd2 (P.hd j h)) ?_,jf3 (f:=S.heard) (C:=fun _ v=>(jek v).canLay0=true) P.lay ?_⟩
 ·split
  ·exact hd2 h1
  ·exact len2 h1
 ·split
  ·exact P.lay _ hj
  ·exact jiv (jiv (P.lay _ hj) (by decide +kernel)) (by decide +kernel)
end
theorem fl54:True:=by first|walk1|trivial
section
local macro_rules (kind:=PyProof.Rows.tacticWalk_at_) | s=>jex "AJaPGHEQRV&" s
section
variable {w:World} {mg mb:Str->Option Value} {g:Heap} {s:Shared} {A:Around} {E:Value->Shared->Prop} {Q:Flow->Shared->Prop}
theorem ke5 {fa L rl hO eO it:Addr} {cd:Value} {a:LA} {e:Nat->EA} {d:Nat->Addr} {cid:Array UInt8} {suite sec:Int} {its:Array Value} {hs:Heap} {n i:Nat} {S:St} {vc:Option Value} {m:Str->Option Value} {tw u1 u2 u3:Tok} {wv mo:Int} {wn Ln first c:Nat} (hfr:A.frames=some []) (B':jbw w mg mb g) (hC:jav A 16) (NM:ja8 m a eO hO cid ((Ln:Nat):Int)) (Z:jb5 w g hs L rl hO eO e sec) (M:Mid w g hs L rl hO eO it a e suite sec its n vc S S.heard d i s.heap) (F:Fr g L s.heap m) (hvc:vc=some (.int wv tw)) (hsuite:suite=4865∨suite=4866∨suite=4867) (hsec:sec=0∨sec=1)
  (h1:m "what" = some (.int ((wn:Nat):Int) u1)) (h2:m "more" = some (.int mo u2)) (h3:m "which" = some (.int ((wn % 2:Nat):Int) u3)) (P:jfk suite (1+cid.size) Ln first c S) (hc:c<24) (hL:2≤Ln) (hL4:Ln≤4) (hcs:cid.size≤5) (hf:first=0∨first=51200∨first=1048576)
  (h:∀ h' tk m' d' S',Fr g L h' m'->ja8 m' a eO hO cid ((Ln:Nat):Int)->Mid w g hs L rl hO eO it a e suite sec its n vc S' S'.heard d' i h'->jfk suite (1+cid.size) Ln first (c+1) S'->Q .next { s with heap:=h',toks:=tk }) :
  wpG (model pw w) (A.deeper (envOfC "law" jaq L fa cd)) (execs ((koz.drop 3).take 1) (envOfC "law" jaq L fa cd)) Q E s:=by
 have KX:=B'.k
 have TR:=B'.t
 have M0:=M
 obtain ⟨X,O,DG,T1,T2,T3,kk,vs,oc,hoc,hsv,N⟩:=M
 have slen:=jd0.len hsv
 have NM0:=NM
 obtain ⟨n1,n2,n3,n4,n5,n6,n7,n8,n9,zs1,zs2,n12⟩:=NM
 refine xE zs1 fun tc n10=>?_
 try clear zs1
 refine xE zs2 fun tl n11=>?_
 try clear zs2
 have hF:True->Fr g L s.heap m:=fun zz=>F
 have hj:wn % 2<2:=Nat.mod_lt _ (by decide)
 have b1:=P.sl
 have b2:=P.all.len
 have b3:=P.tn _ hj
 have b4:=P.hd _ hj
 have b5:=P.c1 _ hj
 try dsimp only [List.take,List.drop]
 refine ja4 (kew ?_)
 walk_at "GO"
 ·show wpG _ _ (execs jw0 _) _ _ _
  refine klz (s:={ s with toks:=s.toks+1 }) B' hC NM0 Z M0 (hF trivial) hvc hsuite hsec hj h3 hL hL4 hcs (by walk_at "OM") (by walk_at "OM") (by walk_at "OM") (by walk_at "OM") (by lia) fun h4 tk4 m4 d4 turn' Pl ob q1 q2 q3 q4 q5 q6 F4 NM4 M4=>?_
  refine jcz ?_
  walk_at "GO"
  exact h h4 _ m4 d4 _ F4 NM4 M4 (P.went hc hj q1 q2 q3 q4 q5 q6)
 ·refine ja4 (kew ?_)
  walk_at "GO"
  ·show wpG _ _ (execs updB _) _ _ _
   obtain ⟨j,hj2⟩:∃ j:Nat,mo.fmod 2=((j:Nat):Int):=⟨(mo.fmod 2).toNat,by have:=Int.fmod_nonneg_of_pos mo (by decide:(0:Int)<2);walk_at "OM"⟩
   have hj3:j<2:=by have:=Int.fmod_lt_of_pos mo (by decide:(0:Int)<2);walk_at "OM"
   refine jcz (kpk (s:={ s with toks:=_ }) B' hC NM0 Z M0 (hF trivial) h2 hj2 hj3 fun h4 tk4 F4 M4=>?_)
   refine jcz ?_
   walk_at "GO"
   refine jcz ?_
   walk_at "GO"
   exact h h4 _ m d _ F4 NM0 M4 P.asked.more
  ·refine ja4 (kew ?_)
   walk_at "GO"
   refine wpAny_truthy_list (News.isList N me8) (by rw [List.size_toArray];walk_at "OM") ?_
   by_cases hz:S.sent.length=0
   ·have ev:vs=[]:=List.eq_nil_of_length_eq_zero (by lia)
    subst ev
    repeat (refine jcz ?_;walk_at "GO")
    exact h s.heap _ m d S (hF trivial) NM0 M0 P.more
   ·have ev:(!vs.toArray.isEmpty)=true:=by
     cases vs with
     | nil=>exact absurd slen.symm hz
     | cons _ _=>rfl
    rw [if_pos ev]
    obtain ⟨q,hq⟩:∃ q:Nat,wv.fmod ((S.sent.length:Nat):Int)=((q:Nat):Int):=⟨(wv.fmod ((S.sent.length:Nat):Int)).toNat,by have:=Int.fmod_nonneg_of_pos wv (show (0:Int)<((S.sent.length:Nat):Int) by walk_at "OM");walk_at "OM"⟩
    have hq2:q<S.sent.length:=by have:=Int.fmod_lt_of_pos wv (show (0:Int)<((S.sent.length:Nat):Int) by lia);walk_at "OM"
    have hx:=List.getElem?_eq_getElem hq2
    show wpG _ _ (execs delB _) _ _ _
    refine kpw (s:={ s with toks:=_ }) (first:=first) hfr B' hC NM0 Z M0 (hF trivial) hvc hsuite hsec h1 h2 hq hx P.all hL hL4 hcs hf (fun j hj=>by have:=P.tn j hj;lia) (fun j hj=>⟨P.x0 j hj,by have:=P.x1 j hj;walk_at "OM"⟩) (fun j hj=>by have:=P.hd j hj;walk_at "OM") fun h4 tk4 m4 d4 S4 hS4 F4 NM4 M4=>?_
    have P4:jfk suite (1+cid.size) Ln first (c+1) S4:=by
     rcases hS4 with rfl | ⟨hr,rfl⟩
     ·exact P.more
     ·exact P.heardIt hx hr
    repeat (refine jcz ?_;walk_at "GO")
    exact h h4 _ m4 d4 S4 F4 NM4 M4 P4
end
end
section
variable {w:World} {g hs h h':Heap} {L rl hO eO it:Addr} {a:LA} {e:Nat->EA} {suite sec:Int} {its:Array Value} {n i:Nat} {d:Nat->Addr} {dueL:Nat->List (String×String)} {S W:St} {vc:Option Value} {m:Str->Option Value}
theorem jmq.next (M:jmq w g hs L rl hO eO it a e suite sec its n vc S W dueL d i h) (hit:hs.get? it=none) (H:Heap.SameBut it h h') (Hi:IsRangeIter h' it (0+((i+1:Nat):Int)*2) ((n:Int)-((i+1:Nat):Int)) 2) :
  jmq w g hs L rl hO eO it a e suite sec its n vc S W dueL d (i+1) h':=by
 obtain ⟨X,O,DG,T1,T2,T3,kk,vs,oc,hoc,hsv,N⟩:=M
 have it0:=X.it
 refine ⟨X.next hit H Hi,O,DG,T1,T2,T3,kk,vs,oc,hoc,hsv.hd (Hards.of_iter H it0),fun p hp=>⟨H.extBut _ _ (fun z=>?_) (N p hp).1,(N p hp).2⟩⟩
 have q:=(N p hp).1
 rw [z,it0] at q
 have q2:=congrArg Obj.data (Option.some.inj q)
 simp only [List.mem_cons,List.not_mem_nil,or_false] at hp
 rcases hp with rfl | rfl | rfl | rfl | rfl | rfl | rfl | rfl | rfl
 ·cases q2
 ·cases q2
 ·dsimp only at q2
  rw [hoc] at q2;cases q2
 all_goals cases q2
end
section
variable {w:World} {mg mb:Str->Option Value} {g:Heap} {s:Shared} {A:Around} {E:Value->Shared->Prop} {Q:Flow->Shared->Prop}
theorem ke6 {fa L rl hO eO it:Addr} {cd:Value} {a:LA} {e:Nat->EA} {d:Nat->Addr} {cid:Array UInt8} {suite sec:Int} {its:Array Value} {hs:Heap} {n i:Nat} {S:St} {vc:Option Value} {m:Str->Option Value} {u:Tok} {Ln first c:Nat} {nums:List Int} (hfr:A.frames=some []) (B':jbw w mg mb g) (hC:jav A 16) (NM:ja8 m a eO hO cid ((Ln:Nat):Int)) (Z:jb5 w g hs L rl hO eO e sec) (M:Mid w g hs L rl hO eO it a e suite sec its n vc S S.heard d i s.heap) (F:Fr g L s.heap (fun y=>if y = "at" then some (.int (((2*c:Nat):Nat):Int) u) else m y)) (hsuite:suite=4865∨suite=4866∨suite=4867) (hsec:sec=0∨sec=1)
  (hI:IntsAre its.toList nums) (hz:nums.length≤48) (hi:2*c<nums.length) (P:jfk suite (1+cid.size) Ln first c S) (hL:2≤Ln) (hL4:Ln≤4) (hcs:cid.size≤5) (hf:first=0∨first=51200∨first=1048576)
  (h:∀ h' tk m' d' vc' S',Fr g L h' m'->ja8 m' a eO hO cid ((Ln:Nat):Int)->Mid w g hs L rl hO eO it a e suite sec its n vc' S' S'.heard d' i h'->jfk suite (1+cid.size) Ln first (c+1) S'->Q .next { s with heap:=h',toks:=tk }) :
  wpG (model pw w) (A.deeper (envOfC "law" jaq L fa cd)) (execs koz (envOfC "law" jaq L fa cd)) Q E s:=by
 obtain ⟨X,O,DG,T1,T2,T3,kk,vs,oc,hoc,hsv,N⟩:=M
 have n12:=(NM.set (x := "at") (r:=some (.int (((2*c:Nat):Nat):Int) u)) (by decide)).n12
 have S1:=jj0 F n12 hoc N
 obtain ⟨x0,hx0⟩:∃ x0,x0=nums.getD (2*c) 0:=⟨_,rfl⟩
 obtain ⟨wn,hwn⟩:∃ k:Nat,x0.fmod 6=((k:Nat):Int):=⟨(x0.fmod 6).toNat,by have:=Int.fmod_nonneg_of_pos x0 (by decide:(0:Int)<6);walk_at "OM"⟩
 have hw2:(((wn:Nat):Int)).fmod 2=((wn % 2:Nat):Int):=by rw [Int.fmod_eq_emod_of_nonneg _ (by decide)];walk_at "OM"
 refine jm7 3 (ke4 (s:=s) (n0:=0) (sec:=sec) (suite:=suite) (it:=it) B' hC NM O F N hoc hI hz hi fun h1 tk1 oc1 u1 u2 u3 wv tw hoc1 F1 N1 LL=>?_)
 rw [← hx0,hwn,hw2] at F1
 have M1:Mid w g hs L rl hO eO it a e suite sec its n (some (.int wv tw)) S S.heard d i h1:=⟨X.left O Z.hL Z.hc S1 LL,O,DG,T1,T2,T3,kk,vs,oc1,hoc1,hsv.hd (Hards.of_own S1 LL),N1⟩
 have NM1:=(((NM.set (x := "at") (r:=some (.int (((2*c:Nat):Nat):Int) u)) (by decide)).set (x := "more") (r:=some (.int (x0.fdiv 6) u3)) (by decide)).set (x := "what") (r:=some (.int ((wn:Nat):Int) u2)) (by decide)).set (x := "which") (r:=some (.int ((wn % 2:Nat):Int) u1)) (by decide)
 refine jv9 3 1 (ke5 (s:={ s with heap:=h1,toks:=tk1 }) (wv:=wv) (tw:=tw) (u1:=u2) (u2:=u3) (u3:=u1) (mo:=x0.fdiv 6) (wn:=wn) hfr B' hC NM1 Z M1 F1 rfl hsuite hsec (jaw (jbq (by decide)) jej) (jaw (jbq (by decide)) (jaw (jbq (by decide)) jej)) jej P (by walk_at "OM") hL hL4 hcs hf fun h2 tk2 m2 d2 S2 F2 NM2 M2 P2=>?_)
 refine jcz (kb9 (s:={ s with heap:=h2,toks:=tk2 }) B' hC NM2 Z M2 F2 P2.lay fun h3 tk3 F3 M3=>?_)
 exact h h3 tk3 m2 d2 _ S2 F3 NM2 M3 P2
end
theorem fl55:True:=by first|walk1|trivial
section
local macro_rules (kind:=PyProof.Rows.tacticWalk_at_) | s=>jex "ANJaPGHEQRV&w" s
section
variable {prog:Program} {w:World} {A:Around} {E:Value->Shared->Prop} {s:Shared}
theorem knw {len:Nat} {t0 t t2:Tok} {Qf:Value->Shared->Prop} (hn:len≤48)
  (h:∀ it h' tk,IsRangeIter h' it (0+((0:Nat):Int)*2) ((((len+1) / 2:Nat):Int)-((0:Nat):Int)) 2->Sub s.heap h'->s.heap.get? it=none->Qf (.ref it) { s with heap:=h',toks:=tk }) :
  wpAny (model prog w) A (call (.type "range") [.int 0 t0,.int (len:Int) t,.int 2 t2]) (fun v s₁=>wpAny (model prog w) A (pyIter v) Qf E s₁) E s:=by
 refine call_range_3 (by decide) ?_ (Or.inl (PyProof.noPylong_small (by walk_at "OM")))
 refine wpAny_pyIter_range (IsRange.new ..) ?_ ?_
 ·exact (by decide +kernel:∀ k:Fin 49,Builtin.Range.small 0 ((k.val:Nat):Int) 2=true) ⟨len,by walk_at "OM"⟩
 have hsz:Builtin.Range.rangeSize 0 (len:Int) 2=(((len+1) / 2:Nat):Int):=by
  rw [rangeSize_pos (by decide) (by walk_at "OM")];walk_at "OM"
 have hI:(s.heap.push { cls:=.type "range", data:=.fields #[.int 0 t0,.int (len:Int) t,.int 2 t2] }).objs.size=s.heap.objs.size+1:=Heap.size_push _ _
 obtain ⟨H,hH⟩:∃ H,H=(s.heap.push { cls:=.type "range", data:=.fields #[.int 0 t0,.int (len:Int) t,.int 2 t2] }).push { cls:=.type "range_iterator", data:=.fields #[rawInt 0,rawInt (Builtin.Range.rangeSize 0 (len:Int) 2),rawInt 2] }:=⟨_,rfl⟩
 have key:IsRangeIter H ((s.heap.push { cls:=.type "range", data:=.fields #[.int 0 t0,.int (len:Int) t,.int 2 t2] }).objs.size) 0 (Builtin.Range.rangeSize 0 (len:Int) 2) 2:=by
  rw [hH]
  exact Heap.get?_push_size _ rfl
 rw [hsz] at key
 have key2:IsRangeIter H ((s.heap.push { cls:=.type "range", data:=.fields #[.int 0 t0,.int (len:Int) t,.int 2 t2] }).objs.size) (0+((0:Nat):Int)*2) ((((len+1) / 2:Nat):Int)-((0:Nat):Int)) 2:=by
  show IsRangeIter H _ 0 ((((len+1) / 2:Nat):Int)-0) 2
  rw [Int.sub_zero];exact key
 have:=h _ H s.toks key2 (fun b o e=>by rw [hH];exact Heap.get?_push_of_some _ (Heap.get?_push_of_some _ e)) (Heap.get?_none_of_le (by rw [hI];exact Nat.le_succ _))
 rw [hH] at this
 exact this
end
theorem jb5.rebase {w:World} {g hs h:Heap} {L rl hO eO:Addr} {e:Nat->EA} {sec:Int} (Z:jb5 w g hs L rl hO eO e sec) (k:jaz hs h):jb5 w g (hideAll h [L,L+1]) L rl hO eO e sec:=by
 have kk:∀ b o,hs.get? b=some o->jak o=true->o.data≠.cell none->(hideAll h [L,L+1]).get? b=some o:=fun b o q f zz=>hideAll_get _ (k b o q f) (fun z=>by
  rcases List.mem_cons.mp z with rfl | z
  ·rw [Z.hL] at q;cases q
  ·obtain rfl:=List.mem_singleton.mp z
   rw [Z.hc] at q;cases q)
 exact ⟨fun i hi=>jd6 kk (Z.fx i hi),Z.rls,Z.off,Z.orl,Z.oho,Z.oeo,Z.ap,Z.l1,Z.l2,Z.l3,Z.l4,hideAll_none _ (by first | k_mem | simp),hideAll_none _ (by first | k_mem | simp),jyz kk Z.ta,Z.nl⟩
noncomputable abbrev stm14:=jaj (match jdv.drop 14 with | x::_=>x | []=>.Pass ⟨0,0,0,0⟩)
noncomputable def St0 (first:Nat):St:=⟨fun zz=>0,fun zz=>false,fun zz=>first,fun zz=>first,fun zz=>[("read", "tls"),("send", "tls")],[],[]⟩
theorem jy6 {g h h':Heap} {L:Addr} {l:List (Addr×Obj)} (N:News g L h l) (k:Sub h h'):News g L h' l:=fun p hp=>⟨k _ _ (N p hp).1,(N p hp).2⟩
theorem plain0 {suite:Int} {off Ln first:Nat} (_:first=0∨first=51200∨first=1048576):jfk suite off Ln first 0 (St0 first):=by
 refine ⟨⟨rfl,Nat.zero_le _,fun i x hx=>?_,fun i x hx=>?_,fun i j x x' hx=>?_⟩,Nat.zero_le _,fun _ _=>Nat.le_refl _,fun _ _=>Nat.le_refl _,fun _ _=>Nat.le_refl _,fun _ _=>Nat.le_refl _,fun _ _=>Nat.le_refl _,fun i x hx=>?_,fun zz zz=>by show (2:Nat)≤2+2*0;decide,fun zz zz=>show (jek [("read", "tls"),("send", "tls")]).canLay0=true by decide +kernel⟩
 all_goals
  unfold St0 at hx
  simp at hx
theorem jfk.le {suite:Int} {off Ln first c c':Nat} {S:St} (P:jfk suite off Ln first c S) (h:c≤c'):jfk suite off Ln first c' S :=
 ⟨P.all,by have:=P.sl;walk_at "OM", fun j h=>by have:=P.tn j h;walk_at "OM", P.c0,fun j h=>by have:=P.c1 j h;walk_at "OM", P.x0,fun j h=>by have:=P.x1 j h;walk_at "OM", P.nm,fun j h=>by have:=P.hd j h;walk_at "OM", P.lay⟩
noncomputable def two2 {α:Type} (x y:α):Nat->α:=fun j=>if j=0 then x else y
section
variable {w:World} {mg mb:Str->Option Value} {g:Heap} {s:Shared} {A:Around} {E:Value->Shared->Prop} {Q:Flow->Shared->Prop}
theorem kxv {fa L rl hO eO d0 d1:Addr} {cd:Value} {a:LA} {e:Nat->EA} {cid:Array UInt8} {suite sec:Int} {its:Array Value} {hs:Heap} {m:Str->Option Value} {Ln first:Nat} {nums:List Int} {oc:Obj} {t3 ta tb:Tok} (hfr:A.frames=some []) (B':jbw w mg mb g) (hC:jav A 16) (NM:ja8 m a eO hO cid ((Ln:Nat):Int)) (Z0:jb5 w g hs L rl hO eO e sec) (F:Fr g L s.heap m)
  (kp:jaz hs s.heap) (eo:s.heap.get? eO=some (listOf (two fun i=>.ref (e i).x) 0)) (ho:s.heap.get? hO=some (listOf (two fun i=>.ref (e i).hl) 0)) (ro:s.heap.get? rl=some (listOf #[] 0)) (up:∀ j,j<2->jd1 w.params s.heap (e j) suite sec (jdq (1-j)) (jdq j) 0 false [("read", "tls"),("send", "tls")])
  (OO:vbj a L eO d0 d1) (N:News g L s.heap [(L+1,oc),(a.nO,listOf its 0),(a.sO,listOf #[] 0),(a.xO,listOf #[.int ((first:Nat):Int) t3,.int ((first:Nat):Int) t3] 0),(a.cO,listOf #[.int ((first:Nat):Int) t3,.int ((first:Nat):Int) t3] 0),(a.wO,listOf #[.bool false,.bool false] 0),(a.dO,listOf #[.ref d0,.ref d1] 0),(a.tO,listOf #[.int 0 ta,.int 0 tb] 0)]) (hoc:oc.data=.cell none)
  (HD0:ja3 s.heap d0 [("read", "tls"),("send", "tls")]) (HD1:ja3 s.heap d1 [("read", "tls"),("send", "tls")]) (g0:g.get? d0=none) (g1:g.get? d1=none) (neo:g.get? eO=none)
  (hsuite:suite=4865∨suite=4866∨suite=4867) (hsec:sec=0∨sec=1) (hI:IntsAre its.toList nums) (hz:nums.length≤48) (hL:2≤Ln) (hL4:Ln≤4) (hcs:cid.size≤5) (hf:first=0∨first=51200∨first=1048576)
  (h:∀ hs' it n i h0 h' tk m' d' vc' S',jb5 w g hs' L rl hO eO e sec->Fr g L h' m'->ja8 m' a eO hO cid ((Ln:Nat):Int)->hs'.get? it=none->Heap.ExtBut it h0 h'->Mid w g hs' L rl hO eO it a e suite sec its n vc' S' S'.heard d' i h0->jfk suite (1+cid.size) Ln first 24 S'->Q .next { s with heap:=h',toks:=tk }) :
  wpG (model pw w) (A.deeper (envOfC "law" jaq L fa cd)) (exec stm14 (envOfC "law" jaq L fa cd)) Q E s:=by
 obtain ⟨hd,dp,fr,gs,un⟩:=A
 obtain ⟨rfl,rfl⟩:hd=none∧gs=some []:=⟨hC.h,hC.g⟩
 have KX:=B'.k
 have TR:=B'.t
 have NM0:=NM
 obtain ⟨n1,n2,n3,n4,n5,n6,n7,n8,n9,zs1,zs2,n12⟩:=NM
 refine xE zs1 fun tc n10=>?_
 try clear zs1
 refine xE zs2 fun tl n11=>?_
 try clear zs2
 have Z:=Z0.rebase kp
 have slen:its.toList.length=nums.length:=hI.length
 have slen2:its.size=nums.length:=by rw [← slen,Array.length_toList]
 have hz62:its.size<2 ^ 62:=by walk_at "OM"
 have eL:eO≠L:=(ltN (Nat.lt_trans (Nat.lt_succ_self L) (Nat.lt_trans Z.l1 (Nat.lt_trans (Z.l2 0 (by decide)) (Nat.lt_trans (Z.l3 0 (by decide)) Z.l4))))).symm
 refine jwx ?_ fun zz=>rfl
 repeat ((fail_if_success (with_reducible show wpAny _ _ (call (Value.type "range") _) _ _ _));walk1;try dsimp only)
 refine knw (len:=its.size) (by walk_at "OM") fun it h1 tk1 hi1 k1 n1=>?_
 have nit:it≠L:=jiz F n1
 have git:g.get? it=none:=jbz F.keep n1
 have hit:(hideAll s.heap [L,L+1]).get? it=none:=jbz (fun b o q=>of_hideAll _ q) n1
 have o0:=Z.l1
 have o1:=Z.l2 0 (by decide)
 have o11:=Z.l2 1 (by decide)
 have o2:=Z.l3 0 (by decide)
 have o21:=Z.l3 1 (by decide)
 have o3:=Z.l4
 obtain ⟨p1,p2,p3,p4,p5,p6,p7,p8,p9⟩:=OO
 have OL:kb3 L rl hO eO a e (two2 d0 d1):=⟨Z.l1,Z.l2,Z.l3,Z.l4,by walk_at "OM", p4,p5,p6,p7,p8,p9,fun j hj=>by
  unfold two2
  split
  ·exact jbj (neN (by walk_at "NO")) (jbj (neN (by walk_at "NO")) (jbj (neN (by walk_at "NO")) (jbj (neN (by walk_at "NO")) (jbj (neN (by walk_at "NO")) (jbj (neN (by walk_at "NO")) (jbj (neN (by walk_at "NO")) (jbj (neN (by walk_at "NO")) (jbj (neN (by walk_at "NO")) (jbj (neN (by walk_at "NO")) (jgw (neN (by walk_at "NO"))))))))))))
  ·exact jbj (neN (by walk_at "NO")) (jbj (neN (by walk_at "NO")) (jbj (neN (by walk_at "NO")) (jbj (neN (by walk_at "NO")) (jbj (neN (by walk_at "NO")) (jbj (neN (by walk_at "NO")) (jbj (neN (by walk_at "NO")) (jbj (neN (by walk_at "NO")) (jbj (neN (by walk_at "NO")) (jbj (neN (by walk_at "NO")) (jgw (neN (by walk_at "NO")))))))))))),Z.nl⟩
 have Nm:=fun p hp=>N p hp
 have ke:∀ b o,s.heap.get? b=some o->h1.get? b=some o:=k1
 refine jn6 (n:=(its.size+1) / 2) (a:=0) (c:=2) rfl (fun i s'=>∃ h tk m d vc S',s' = { s with heap:=h,toks:=tk }∧Fr g L h m∧ja8 m a eO hO cid ((Ln:Nat):Int)∧Mid w g (hideAll s.heap [L,L+1]) L rl hO eO it a e suite sec its ((its.size+1) / 2) vc S' S'.heard d i h∧jfk suite (1+cid.size) Ln first i S') ?_ ?_ ?_ (jfx h1 tk1 m (two2 d0 d1) none (St0 first) rfl (kjw F k1) NM0 (?_) (?_))
 ·intro i s' hi zp
  refine jg0 zp fun h2 tk2 m2 d2 vc2 S2 zq9 F2 NM2 M2 P2=>?_
  obtain rfl:=zq9
  exact M2.lk.it
 ·intro i s' h' hi zp H Hi
  refine jg0 zp fun h2 tk2 m2 d2 vc2 S2 zq9 F2 NM2 M2 P2=>?_
  obtain rfl:=zq9
  have M3:=M2.next hit H Hi
  have F3:=kyw F2 H nit git
  rw [show (0:Int)+(i:Nat)*2=((2*i:Nat):Int) by walk_at "OM"]
  refine kfq (env:=(envOfC "law" jaq L fa cd)) F3 (by kernel_rfl!) (by kernel_rfl!) fun h4 F4 H4=>?_
  have M4:=M3.kept F3 NM2.n12 Z (h':=h4) (fun b o q n=>H4.extBut b o (fun z=>n (List.mem_singleton.mpr z)) q)
  exact ke6 (s:={ s with heap:=h4,toks:=tk2+1+1 }) hfr B' hC NM2 Z M4 F4 hsuite hsec hI hz (by walk_at "OM") P2 hL hL4 hcs hf fun h5 tk5 m5 d5 vc5 S5 F5 NM5 M5 P5=>(jfx h5 tk5 m5 d5 vc5 S5 rfl F5 NM5 M5 P5)
 ·intro s' h' zp H
  refine jg0 zp fun h2 tk2 m2 d2 vc2 S2 zq9 F2 NM2 M2 P2=>?_
  obtain rfl:=zq9
  exact h _ it _ _ h2 h' tk2 m2 d2 vc2 S2 Z (jc0 F2 (as:=[it]) (fun b o e n=>H b o (fun z=>n (List.mem_singleton.mpr z)) e) fun x hx=>by rw [List.mem_singleton.mp hx];exact ⟨nit,git⟩) NM2 hit H M2 (P2.le (by walk_at "OM"))
 ·have N1:=jy6 N k1
  have hd1:Hards s.heap h1:=fun b o q zz=>k1 b o q
  refine ⟨⟨fun b o q _=>k1 b o (of_hideAll _ q),k1 _ _ eo,k1 _ _ ho,(N1 _ me1).1,(jhj (#[]) 0 (k1 _ _ ro) trivial),fun j hj=>(up j hj).keep hd1 (k1 _) (k1 _) (k1 _) (k1 _),fun j hj=>?_,hi1⟩,OL,fun j hj=>?_,two2 ta tb,fun _=>t3,fun _=>t3,0,[],oc,hoc,trivial,fun p hp=>?_⟩
  ·rcases (show j=0∨j=1 by walk_at "OM") with rfl | rfl
   ·exact HD0.keeps (jaz.of_sub k1) (k1 _)
   ·exact HD1.keeps (jaz.of_sub k1) (k1 _)
  ·rcases (show j=0∨j=1 by walk_at "OM") with rfl | rfl
   ·exact g0
   ·exact g1
  ·revert hp;revert p;exact jbj (N1 _ me1) (jbj ((iAA (k1 _ _ eo) eL neo)) (jbj (N1 _ (.head _)) (jbj (N1 _ me6) (jbj (N1 _ me7) (jbj (N1 _ me5) (jbj (N1 _ me4) (jbj (N1 _ me3) (jgw (N1 _ me2)))))))))
 ·exact plain0 hf
end
end
theorem fl56:True:=by first|walk1|trivial
section
local macro_rules (kind:=PyProof.Rows.tacticWalk_at_) | s=>jex "AJaPGHEQRV&" s
section
variable {w:World} {mg mb:Str->Option Value} {g G base:Heap} {s:Shared} {A:Around} {E:Value->Shared->Prop} {Q:Flow->Shared->Prop}
theorem kd6 {fa L e:Addr} {cd a0:Value} {m:Str->Option Value} {np pos:Pos} {b₀:Stmt} {suite:List Stmt} {rest:List ExceptHandler} (B':jbw w mg mb g) (hfr:A.frames=some []) (F:Fr g L G m) (hL:base.get? L=none) (hB:∀ b o,G.get? b=some o->b≠L->base.get? b=some o)
  (hfl:Heap.FlyingW base [(envOfC "law" jaq L fa cd)] e (.ref 195) a0 s.heap) (hsm:G.UpToSlots s.heap)
  (k:∀ h',Fr g L h' m->jb8 G [L] h'->∀ E',wpAny (model pw w) ((A.deeper (envOfC "law" jaq L fa cd)).mark (some (.ref e))) (execs (b₀::suite) (envOfC "law" jaq L fa cd)) Q E' { s with heap:=h' }) :
  wpAny (model pw w) (A.deeper (envOfC "law" jaq L fa cd)) (noteFrame (.ref e) (envOfC "law" jaq L fa cd))
   (fun zz s₂=>wpAny (model pw w) (A.deeper (envOfC "law" jaq L fa cd)) (setFlight (.ref e) none) (fun zz s₃ =>
    wpAny (model pw w) (A.deeper (envOfC "law" jaq L fa cd)) (handleBy (.ref e) (envOfC "law" jaq L fa cd) (.ExceptHandler (some (.Name "KeyUnavailableError" np)) none (b₀::suite) pos::rest)) Q E s₃) E s₂) E s:=by
 have KX:=B'.k
 have TR:=B'.t
 have ground:∀ h',base.StaysIn h'->G.UpToSlots h'->Fr g L h' m:=fun h' k u=>⟨u.ns F.ns,fun b o q=>k b o (hB b o (F.keep b o q) (fun z=>by rw [z,kts_self F] at q;cases q)),F.above⟩
 refine wpAny_looks_onW (Around.frames_deeper hfr) rfl hfl fun h₄ hheld₄ hsm₄=>?_
 refine wpAny_landsW hheld₄ fun h₅ hheld hsm₅'=>?_
 have hsm₅:=(hsm.trans hsm₄).trans hsm₅'
 have F₅:=ground h₅ hheld.1 hsm₅
 refine xEA hheld.there fun ob hob hobc=>?_
 refine je8 (kts_cls (C:=195) (T := "BaseException") KX (by kernel_rfl!)) fun nm q' N bs bm hdct sn sub zr20=>?_
 refine jlq zr20 fun ab col dd k0 k1 k2 k3 k5 newId hC hbase hbT=>?_
 have hC₅:=F₅.keep _ _ hC
 refine wpAny_handleBy_cons (codeAny_handlers_test ?_) (by intro q;cases q)
 walk1
 refine wpAny_excMatches_sub_self hC₅ hob hobc hbase (codeAny_handlers_suite ?_)
 refine lands_againW hheld fun h₆ hfl₆ hsm₆=>?_
 exact k h₆ (ground h₆ hfl₆.1 (hsm₅.trans hsm₆)) (fun b o q n=>hfl₆.1 b o (hB b o q (fun z=>n (List.mem_singleton.mpr z)))) _
theorem jr7 {fa L e:Addr} {cd a0:Value} {m:Str->Option Value} {np pos:Pos} {b₀:Stmt} {suite:List Stmt} {rest:List ExceptHandler} (B':jbw w mg mb g) (hfr:A.frames=some []) (F:Fr g L G m) (hL:base.get? L=none) (hB:∀ b o,G.get? b=some o->b≠L->base.get? b=some o)
  (hfl:Heap.FlyingW base [(envOfC "law" jaq L fa cd)] e (.type "AssertionError") a0 s.heap) (hsm:G.UpToSlots s.heap)
  (k:∀ h',Fr g L h' m->jb8 G [L] h'->∀ E',wpAny (model pw w) ((A.deeper (envOfC "law" jaq L fa cd)).mark (some (.ref e))) (execs (b₀::suite) (envOfC "law" jaq L fa cd)) Q E' { s with heap:=h' }) :
  wpAny (model pw w) (A.deeper (envOfC "law" jaq L fa cd)) (noteFrame (.ref e) (envOfC "law" jaq L fa cd))
   (fun zz s₂=>wpAny (model pw w) (A.deeper (envOfC "law" jaq L fa cd)) (setFlight (.ref e) none) (fun zz s₃ =>
    wpAny (model pw w) (A.deeper (envOfC "law" jaq L fa cd)) (handleBy (.ref e) (envOfC "law" jaq L fa cd) (.ExceptHandler (some (.Name "AssertionError" np)) none (b₀::suite) pos::rest)) Q E s₃) E s₂) E s:=by
 have KX:=B'.k
 have TR:=B'.t
 have ground:∀ h',base.StaysIn h'->G.UpToSlots h'->Fr g L h' m:=fun h' k u=>⟨u.ns F.ns,fun b o q=>k b o (hB b o (F.keep b o q) (fun z=>by rw [z,kts_self F] at q;cases q)),F.above⟩
 refine wpAny_looks_onW (Around.frames_deeper hfr) rfl hfl fun h₄ hheld₄ hsm₄=>?_
 refine wpAny_landsW hheld₄ fun h₅ hheld hsm₅'=>?_
 have hsm₅:=(hsm.trans hsm₄).trans hsm₅'
 have F₅:=ground h₅ hheld.1 hsm₅
 refine xEA hheld.there fun ob hob hobc=>?_
 refine wpAny_handleBy_cons (codeAny_handlers_test ?_) (by intro q;cases q)
 walk1
 refine wpAny_excMatches_type (X := "AssertionError") (b:=true) (iEA ob hob hobc) (by rw [isSubtype_type];kernel_rfl!) (by rw [isSubtype_type];kernel_rfl!) (by rw [isSubtype_type];kernel_rfl!) (codeAny_handlers_suite ?_)
 refine lands_againW hheld fun h₆ hfl₆ hsm₆=>?_
 exact k h₆ (ground h₆ hfl₆.1 (hsm₅.trans hsm₆)) (fun b o q n=>hfl₆.1 b o (hB b o q (fun z=>n (List.mem_singleton.mpr z)))) _
end
section
variable {prog:Program} {w:World} {A:Around} {E:Value->Shared->Prop} {s:Shared}
theorem kg3 {a b:Addr} {l:List (String×String)} {Q:Value->Shared->Prop} (ha:ja3 s.heap a l) (hb:ja3 s.heap b l) (hk:(jek l).canLay0=true) (hu:A.units+8<cLine) (h:Q (.bool false) s) :
  wpAny (model prog w) A (compareOp .NotEq (.ref a) (.ref b)) Q E s:=by
 have ra:=jg6 ha
 have rb:=jg6 hb
 have:=joq l
 have R:=PySem.SeqAt.rcNeAt_reads (A:=A) (s:=s) ra rb hk hk (by rw [Nat.min_self];walk_at "OM")
 rw [PySem.SeqAt.eqv_refl _ hk] at R
 exact R prog w E Q h
theorem jk9.keep {P:Params} {h h':Heap} {e:EA} {sec:Int} {heard:List (String×String)} (k:Hards h h') (kf:∀ b o,h.get? b=some o->jak o=true->o.data≠.cell none->h'.get? b=some o) (k1:∀ o,h.get? e.dx=some o->h'.get? e.dx=some o) (k2:∀ o,h.get? e.dr=some o->h'.get? e.dr=some o) (k3:∀ o,h.get? e.dc=some o->h'.get? e.dc=some o) (k4:∀ o,h.get? e.hl=some o->h'.get? e.hl=some o) (X:jk9 P h e sec heard):jk9 P h' e sec heard :=
 ⟨jd6 kf X.fx,X.pd.imp fun zz q=>q.imp fun zz q=>k1 _ q,k _ _ X.r1 rfl,X.r2.imp fun zz q=>q.imp fun zz q=>k2 _ q,k _ _ X.c1 rfl,X.c2.imp fun zz q=>q.imp fun zz q=>k3 _ q,X.hd.hd k k4⟩
end
end
section
open PySem PySem.Spec PySem.W PyProof.Rows PySem.Calls
theorem jtx:typeLookup (.type "int") "__bytes__" = pure none:=by rw [typeLookup_type,builtinLookup_eq_fast];kernel_rfl
theorem kiz:typeLookup (.type "int") "__index__" = pure (some (.builtin "int.__index__")):=by rw [typeLookup_type,builtinLookup_eq_fast];kernel_rfl
section
variable {prog:Program} {w:World} {A:Around} {E:Value->Shared->Prop} {s:Shared}
theorem bn_new {x:Int} {u:Tok} {Q:Value->Shared->Prop} (h0:0≤x) (h1:x≤1000) (hQ:∀ t k,Q (.bytes (Array.replicate x.toNat 0) t) { s with toks:=k }) :
  codeAny (model prog w) A (.call (.builtin "bytes.__new__") ⟨[.type "bytes", .int x u],[]⟩) (wants Q E) s:=by
 refine codeAny_of_tree ?_
 show wpAny _ A.in1 (do checkBuiltinCall "bytes.__new__" ⟨[.type "bytes", .int x u],[]⟩;again (.builtin "bytes.__new__" ⟨[.type "bytes", .int x u],[]⟩)) _ _ s
 refine wpAny_bind (wpAny_of_eq (F.bm_newCall _) (wpAny_pure ⟨plainId_quiet F.bm_plain _,codeAny_builtin F.bm_entry ?_⟩))
 rw [Around.under_plainId F.bm_plain _]
 have hT:s.TypeIs (.int x u) "int" := typeIs_int s _ _
 unfold Builtin.«bytes.__new__»
 refine wpAny_bind (wpAny_of_eq (a:=true) rfl ?_)
 refine bm_if_false rfl ?_
 refine wpAny_bind (wpAny_of_eq F.bm_sub ?_)
 refine bm_if_false rfl ?_
 refine wpAny_bind (wpAny_of_eq (F.bm_bind _) ?_)
 refine wpAny_bind (wpAny_of_eq (a:=()) rfl ?_)
 refine wpAny_bind (wpAny_of_eq (a:=()) rfl ?_)
 refine bm_if_false rfl ?_
 refine wpAny_bind (wpAny_specialOf hT jtx ?_)
 refine wpAny_bind (wpAny_bind (wpAny_of_eq (a:=none) rfl (wpAny_pure ?_)))
 refine bm_if_false rfl ?_
 refine wpAny_bind (wpAny_specialOf hT kiz ?_)
 refine bm_if_false rfl ?_
 refine wpAny_bind (wpAny_attempt (wpAny_of_eq (rfl:asIndex (.int x u)=pure x) ?_))
 dsimp only
 refine bm_if_false ?_ ?_
 ·have e:Builtin.Bytes.fitsIndex x=true:=by
   unfold Builtin.Bytes.fitsIndex
   rw [Bool.and_eq_true_iff]
   exact ⟨decide_eq_true (by walk_at "OM"),decide_eq_true (by walk_at "OM")⟩
  rw [e];rfl
 rw [if_neg (by walk_at "OM"),if_neg (by walk_at "OM")]
 refine bm_if_false ?_ ?_
 ·unfold Builtin.Bytes.tooLong
  exact decide_eq_false (by rw [sizeLine_eq];walk_at "OM")
 refine wpAny_bind (wpAny_rule ?_)
 refine wpAny_bind (wpAny_mkBytes ?_ (by rw [Array.size_replicate,sizeLine_eq];walk_at "OM"))
 show wpAny _ _ (if (Value.type "bytes" == Value.type "bytes")=true then _ else _) _ _ _
 refine bm_if_true (by decide) ?_
 first
  | exact wpAny_pure (hQ _ _)
  | exact wpAny_bind (wpAny_pure (wpAny_pure (hQ _ _)))
theorem jo6 {x:Int} {u:Tok} {Q:Value->Shared->Prop} (h0:0≤x) (h1:x≤1000) (hQ:∀ t k,Q (.bytes (Array.replicate x.toNat 0) t) { s with toks:=k }):wpAny (model prog w) A (call (.type "bytes") [.int x u]) Q E s:=by
 refine callType_codes (Q₁:=fun obj s₁=>s₁.TypeIs obj "bytes" ∧ Q obj s₁) F.bm_called (F.bm_typeCall _) F.entry_object_init
  (bn_new h0 h1 fun t k=>⟨PySem.W.typeIs_bytes _ _ _,hQ t k⟩) fun obj s₁ h₁=>?_
 exact (iAA h₁.1 (F.args_object_init_2 obj _) (object_init_meets F.bm_called.init.lookup F.bm_called.made (by decide) prog w A.in1 _ s₁ (iAA h₁.1 rfl h₁.2)))
end
end
theorem fl57:True:=by first|walk1|trivial
section
local macro_rules (kind:=PyProof.Rows.tacticWalk_at_) | s=>jex "ANJaPGHEQRV&m^ruz" s
local macro_rules | `(tactic| k_inst)=>jo2 "J^" "k_inst"
structure DK (w:World) (g hs:Heap) (L hO eO:Addr) (a:LA) (e:Nat->EA) (sec:Int) (j:Nat) (d:Nat->Addr) (l ld:List (String×String)) (h:Heap):Prop where
 kp:jaz hs h
 nw:News g L h [(eO,listOf (two fun i=>.ref (e i).x) 0),(hO,listOf (two fun i=>.ref (e i).hl) 0),(a.dO,listOf (two fun i=>.ref (d i)) 0)]
 dn:jk9 w.params h (e j) sec l
 du:ja3 h (d j) ld
 dg:g.get? (d j)=none
 od:∀ x∈[L,a.dO],d j≠x
section
variable {w:World} {g hs h h':Heap} {L rl hO eO:Addr} {a:LA} {e:Nat->EA} {sec:Int} {j:Nat} {d:Nat->Addr} {l ld:List (String×String)} {m:Str->Option Value}
theorem DK.left (M:DK w g hs L hO eO a e sec j d l ld h) (F:Fr g L h m) (hm:m "_cipher_name" = none) (Z:jb5 w g hs L rl hO eO e sec) (hj:j<2) (H:jb8 h [L] h'):DK w g hs L hO eO a e sec j d l ld h':=by
 have nl:=Z.nl j hj
 have sL:∀ b o,h.get? b=some o->jak o=true->h'.get? b=some o:=fun b o q f=>H b o q (fun z=>by
  obtain rfl:=List.mem_singleton.mp z
  rw [jg7 F.ns hm q] at f;cases f)
 have at':∀ b,b≠L->∀ o,h.get? b=some o->h'.get? b=some o:=fun b n o q=>H b o q (fun z=>n (List.mem_singleton.mp z))
 have hd:Hards h h':=fun b o q f=>sL b o q (by unfold ki6 at f;exact (Bool.and_eq_true_iff.mp f).1)
 exact ⟨fun b o q f=>sL b o (M.kp b o q f) f,fun p hp=>⟨at' _ (M.nw p hp).2.1 _ (M.nw p hp).1,(M.nw p hp).2⟩,M.dn.keep hd (fun b o q f zz=>sL b o q f) (at' _ nl.1) (at' _ nl.2.1) (at' _ nl.2.2) (at' _ (Z.hlL hj)),M.du.hd hd (at' _ (M.od _ (by first | k_mem | simp))),M.dg,M.od⟩
end
theorem kj8 {g h:Heap} {L fa:Addr} {cd:Value} {m:Str->Option Value} {A:Around} (hfr:A.frames=some []) (F:Fr g L h m):Fly (A.deeper (envOfC "law" jaq L fa cd)) (hideAll h [L]) [(envOfC "law" jaq L fa cd)] h:=⟨Around.frames_deeper hfr,fun b o q=>of_hideAll _ q,Heap.FunFrames.cons (fun q=>absurd (show jaq.kind=.module from q) (by decide)) rfl F.ns (hideAll_none _ (by first | k_mem | simp)) trivial⟩
noncomputable def dwnBo:List Stmt:=jpk (jdv.drop 15)
noncomputable abbrev dwnB:=jaj dwnBo
section
variable {w:World} {mg mb:Str->Option Value} {g:Heap} {s:Shared} {A:Around} {E:Value->Shared->Prop} {Q:Flow->Shared->Prop}
theorem kpq {fa L rl hO eO:Addr} {cd:Value} {a:LA} {e:Nat->EA} {d:Nat->Addr} {cid:Array UInt8} {len sec:Int} {hs:Heap} {j:Nat} {l:List (String×String)} {m:Str->Option Value} {uw:Tok} (B':jbw w mg mb g) (hC:jav A 16) (NM:ja8 m a eO hO cid len) (Z:jb5 w g hs L rl hO eO e sec) (hj:j<2) (o4:@LT.lt Nat instLTNat eO a.dO) (M:DK w g hs L hO eO a e sec j d l l s.heap) (F:Fr g L s.heap m) (hw:m "which" = some (.int ((j:Nat):Int) uw)) (hk:(jek l).canLay0=true)
  (h:∀ h' tk,Fr g L h' m->jb8 s.heap [L] h'->Q .next { s with heap:=h',toks:=tk }) :
  wpAny (model pw w) (A.deeper (envOfC "law" jaq L fa cd)) (execs ((dwnB.drop 2).take 1) (envOfC "law" jaq L fa cd)) Q E s:=by
 obtain ⟨hd,dp,fr,gs,un⟩:=A
 obtain ⟨rfl,rfl⟩:hd=none∧gs=some []:=⟨hC.h,hC.g⟩
 have KX:=B'.k
 have TR:=B'.t
 have NM0:=NM
 obtain ⟨n1,n2,n3,n4,n5,n6,n7,n8,n9,zs1,zs2,n12⟩:=NM
 refine xE zs1 fun tc n10=>?_
 try clear zs1
 refine xE zs2 fun tl n11=>?_
 try clear zs2
 obtain ⟨kp,N,dn,du,dg,od⟩:=M
 have px:=dn.fx.px
 refine xEE dn.pd fun Tp wsh pd=>?_
 have hh:=dn.hd
 have hu:(Around.deeper ⟨none,dp,fr,some [],un⟩ (envOfC "law" jaq L fa cd)).units+8<cLine:=by
  have:=(hC.deeper (n:=15) (env:=(envOfC "law" jaq L fa cd))).u
  omega
 have r1:=dn.r1
 refine xEE dn.r2 fun Tr kr r2=>?_
 have c1:=dn.c1
 refine xEE dn.c2 fun Tc kc c2=>?_
 try dsimp only [List.take,List.drop]
 walk_at "GO"
 refine ja0 (jj8 (b:=false) B' F.keep (hC.deeper.le (by decide)) r1 r2 (.inr ⟨rfl,rfl⟩)) fun v h1 tk1 H1 p1=>?_
 subst p1
 have k1:Sub s.heap h1:=fun b o q=>H1 b o q (fun z=>nomatch z)
 have F1:=jc9 F H1
 have N1:=jc7 N H1
 have px1:=k1 _ _ px
 have pd1:=k1 _ _ pd
 have c11:=k1 _ _ c1
 have c21:=k1 _ _ c2
 clear N F px pd r1 r2 c1 c2 hh
 walk_at "GO"
 refine ja0 (jj8 (b:=false) B' F1.keep (hC.deeper.le (by decide)) c11 c21 (.inr ⟨rfl,rfl⟩)) fun v h2 tk2 H2 p2=>?_
 subst p2
 have k2:Sub h1 h2:=fun b o q=>H2 b o q (fun z=>nomatch z)
 have F2:=jc9 F1 H2
 clear N1 F1
 walk_at "GO"
 exact h h2 _ F2 (fun b o q zz=>k2 _ _ (k1 _ _ q))
theorem kk9 {fa L rl hO eO:Addr} {cd:Value} {a:LA} {e:Nat->EA} {d:Nat->Addr} {cid:Array UInt8} {len sec:Int} {hs:Heap} {j:Nat} {l ld:List (String×String)} {m:Str->Option Value} {uw:Tok} (hfr:A.frames=some []) (B':jbw w mg mb g) (hC:jav A 16) (NM:ja8 m a eO hO cid len) (Z:jb5 w g hs L rl hO eO e sec) (hj:j<2) (o4:@LT.lt Nat instLTNat eO a.dO) (M:DK w g hs L hO eO a e sec j d l ld s.heap) (F:Fr g L s.heap m) (hw:m "which" = some (.int ((j:Nat):Int) uw))
  (h:∀ h' tk,Fr g L h' m->jb8 s.heap [L] h'->Q .next { s with heap:=h',toks:=tk }) :
  wpG (model pw w) (A.deeper (envOfC "law" jaq L fa cd)) (execs ((dwnB.drop 3).take 1) (envOfC "law" jaq L fa cd)) Q E s:=by
 obtain ⟨hd,dp,fr,gs,un⟩:=A
 obtain ⟨rfl,rfl⟩:hd=none∧gs=some []:=⟨hC.h,hC.g⟩
 have M0:=M
 have KX:=B'.k
 have TR:=B'.t
 have NM0:=NM
 obtain ⟨n1,n2,n3,n4,n5,n6,n7,n8,n9,zs3,zs4,n12⟩:=NM
 refine xE zs3 fun tc n10=>?_
 try clear zs3
 refine xE zs4 fun tl n11=>?_
 try clear zs4
 obtain ⟨kp,N,dn,du,dg,od⟩:=M
 have px:=dn.fx.px
 refine xEE dn.pd fun Tp wsh pd=>?_
 have c1:=dn.c1
 refine xEE dn.c2 fun Tc kc c2=>?_
 refine xE (jck g s.heap L [eO,hO,a.dO]) fun R r=>?_
 have hold:=fun h2 m2 news2 (F2:Fr g L h2 m2) (N2:News g L h2 news2) hs=>jzz (expl:=[(eO,listOf (two fun i=>.ref (e i).x) 0),(hO,listOf (two fun i=>.ref (e i).hl) 0),(a.dO,listOf (two fun i=>.ref (d i)) 0)]) r F (N.rest r) F2 N2 hs
 have hM:=fun h2 (H:jb8 s.heap [L] h2)=>M0.left F n12 Z hj H
 have N0:=N.rest r
 try dsimp only [List.nil_append,List.cons_append] at N0
 clear N
 try dsimp only [List.take,List.drop]
 refine ja4 (jwq (jcz ?_))
 walk_at "GO"
 rename_i F2 N2 _ _ _ _ _ _
 have H2:=hold _ _ _ F2 N2 (fun p hp=>.tail _ hp)
 have M2:=hM _ H2
 refine xEE M2.dn.c2 fun Tc2 kc2 c22=>?_
 refine jfj (ju5 B' F2.keep (hC.deeper.le (by decide)) M2.dn.c1 c22 (kj8 hfr F2)) (fun v h' tk' H P=>P.elim) (fun e' a0 h6 tk6 _ X6 u6=>?_)
 refine jr7 B' hfr F2 (hideAll_none _ (by first | k_mem | simp)) (fun b o q n=>hideAll_get _ q (by simpa using n)) X6 u6 (fun h7 F7 L7 E'=>?_)
 walk_at "GO"
 repeat (refine jcz ?_;walk_at "GO")
 exact h h7 _ F7 (H2.trans L7)
theorem klq {fa L rl hO eO:Addr} {cd:Value} {a:LA} {e:Nat->EA} {d:Nat->Addr} {cid:Array UInt8} {len sec:Int} {hs:Heap} {j:Nat} {l ld:List (String×String)} {m:Str->Option Value} {uw:Tok} (hfr:A.frames=some []) (B':jbw w mg mb g) (hC:jav A 16) (NM:ja8 m a eO hO cid len) (Z:jb5 w g hs L rl hO eO e sec) (hj:j<2) (o4:@LT.lt Nat instLTNat eO a.dO) (M:DK w g hs L hO eO a e sec j d l ld s.heap) (F:Fr g L s.heap m) (hw:m "which" = some (.int ((j:Nat):Int) uw))
  (h:∀ h' tk,Fr g L h' m->jb8 s.heap [L] h'->Q .next { s with heap:=h',toks:=tk }) :
  wpG (model pw w) (A.deeper (envOfC "law" jaq L fa cd)) (execs (dwnB.drop 4) (envOfC "law" jaq L fa cd)) Q E s:=by
 obtain ⟨hd,dp,fr,gs,un⟩:=A
 obtain ⟨rfl,rfl⟩:hd=none∧gs=some []:=⟨hC.h,hC.g⟩
 have KX:=B'.k
 have TR:=B'.t
 have NM0:=NM
 obtain ⟨n1,n2,n3,n4,n5,n6,n7,n8,n9,zs5,zs6,n12⟩:=NM
 refine xE zs5 fun tc n10=>?_
 try clear zs5
 refine xE zs6 fun tl n11=>?_
 try clear zs6
 obtain ⟨kp,N,dn,du,dg,od⟩:=M
 have px:=dn.fx.px
 refine xEE dn.pd fun Tp wsh pd=>?_
 try dsimp only [List.take,List.drop]
 refine ja4 (jwq (jcz ?_))
 walk_at "GO"
 refine jfj (jrx B' F.keep (hC.deeper.le (by decide)) dn (kj8 hfr F)) (fun v h' tk' H P=>P.elim) (fun e' a0 h6 tk6 _ X6 u6=>?_)
 refine kd6 B' hfr F (hideAll_none _ (by first | k_mem | simp)) (fun b o q n=>hideAll_get _ q (by simpa using n)) X6 u6 (fun h7 F7 L7 E'=>?_)
 walk_at "GO"
 repeat (refine jcz ?_;walk_at "GO")
 exact h h7 _ F7 L7
end
end
theorem fl58:True:=by first|walk1|trivial
section
local macro_rules (kind:=PyProof.Rows.tacticWalk_at_) | s=>jex "ANJaPGHEQRV&m^ru" s
local macro_rules | `(tactic| k_inst)=>jo2 "J^" "k_inst"
section
variable {w:World} {mg mb:Str->Option Value} {g:Heap} {s:Shared} {A:Around} {E:Value->Shared->Prop} {Q:Flow->Shared->Prop}
theorem kd2 {fa L rl hO eO:Addr} {cd:Value} {a:LA} {e:Nat->EA} {d:Nat->Addr} {cid:Array UInt8} {len sec suite:Int} {hs:Heap} {j turn:Nat} {wish:Bool} {l:List (String×String)} {m:Str->Option Value} {uw:Tok} (B':jbw w mg mb g) (hC:jav A 16) (NM:ja8 m a eO hO cid len) (Z:jb5 w g hs L rl hO eO e sec) (hj:j<2) (o4:@LT.lt Nat instLTNat eO a.dO) (F:Fr g L s.heap m) (hw:m "which" = some (.int ((j:Nat):Int) uw))
  (kp:jaz hs s.heap) (N:News g L s.heap [(eO,listOf (two fun i=>.ref (e i).x) 0),(hO,listOf (two fun i=>.ref (e i).hl) 0),(a.dO,listOf (two fun i=>.ref (d i)) 0)]) (up:jd1 w.params s.heap (e j) suite sec (jdq (1-j)) (jdq j) turn wish l) (du:ja3 s.heap (d j) l) (dg:g.get? (d j)=none) (od:∀ x∈[L,a.dO,(e j).hl],d j≠x) (hl:l.length≤900)
  (h:∀ h' tk D0,Fr g L h' m->jb8 s.heap [L,a.dO,(e j).dr,(e j).dc,(e j).hl] h'->DK w g hs L hO eO a e sec j (upd d j D0) (l++[("read no more", "tls")]++[("send no more", "tls")]) (l++[("read no more", "tls")]++[("send no more", "tls")]) h'->Q .next { s with heap:=h',toks:=tk }) :
  wpAny (model pw w) (A.deeper (envOfC "law" jaq L fa cd)) (execs (dwnB.take 2) (envOfC "law" jaq L fa cd)) Q E s:=by
 refine openA A hC fun dp fr un hC=>?_
 have KX:=B'.k
 have TR:=B'.t
 have NM0:=NM
 obtain ⟨n1,n2,n3,n4,n5,n6,n7,n8,n9,zs1,zs2,n12⟩:=NM
 refine xE zs1 fun tc n10=>?_
 try clear zs1
 refine xE zs2 fun tl n11=>?_
 try clear zs2
 have Ej:=up.up (jd6 (fun b o q f _=>kp b o q f) (Z.fx j hj))
 have px:=Ej.fx.px
 refine xE Ej.pd fun Tp pd=>?_
 have o1:=Z.l2 j hj
 have o2:=Z.l3 j hj
 have o3:=Z.l4
 have o0:=Z.l1
 have nl:=Z.nl j hj
 have nhL:=Z.hlL hj
 have OF:=Z.off j hj
 try simp only [List.take_succ_cons,List.take_zero,List.drop_succ_cons,List.drop_zero]
 walk_at "GO"
 refine ja0 (kgw B' F.keep (hC.deeper.le (by decide)) Ej OF hl) fun v h1 tk1 H1 p1=>?_
 refine xA p1 fun zq116 dn=>?_
 try clear p1
 obtain rfl:=zq116
 obtain ⟨zs3,zs4,zs5,zs6⟩:=up.kind
 refine jg2 zs3 fun ox x1 x2 x3=>?_
 try clear zs3
 refine jg2 zs4 fun or y1 y2 y3=>?_
 try clear zs4
 refine jg2 zs5 fun ocx z1 z2 z3=>?_
 try clear zs5
 refine jg2 zs6 fun oh u1 u2 u3=>?_
 try clear zs6
 have soft:∀ x∈[(e j).dr,(e j).dc,(e j).hl],∀ o,s.heap.get? x=some o->jak o=false:=jbj (fz y1 y3) (jbj (fz z1 z3) (jgw (fz u1 u3)))
 have hd1:Hards s.heap h1:=Hards.of_left H1 soft
 have F1:=jc0 F H1 (jbj ⟨nl.2.1,OF.a2⟩ (jbj ⟨nl.2.2,OF.a3⟩ (jgw ⟨nhL,OF.a4⟩)))
 have lstk:∀ x o,s.heap.get? x=some o->dsz o.data=0->x≠(e j).hl->h1.get? x=some o:=fun x o q z n=>H1 x o q (noC (jf1 q y1 (by rw [z,y2];decide)) (noC (jf1 q z1 (by rw [z,z2];decide)) (noC n noN)))
 have N1:News g L h1 [(eO,listOf (two fun i=>.ref (e i).x) 0),(hO,listOf (two fun i=>.ref (e i).hl) 0),(a.dO,listOf (two fun i=>.ref (d i)) 0)]:=fun p hp=>⟨(jbj (lstk _ _ (N _ (.head _)).1 rfl (neN (by first | walk_at "NE" | omega))) (jbj (lstk _ _ (N _ me1).1 rfl (neN (by first | walk_at "NE" | omega))) (jgw (lstk _ _ (N _ me2).1 rfl (neN (by first | walk_at "NE" | omega))))):∀ p∈[(eO,listOf (two fun i=>.ref (e i).x) 0),(hO,listOf (two fun i=>.ref (e i).hl) 0),(a.dO,listOf (two fun i=>.ref (d i)) 0)],h1.get? p.1=some p.2) p hp,(N p hp).2⟩
 refine je4 du fun dits dkk dq dr=>?_
 try clear du
 have dq1:=lstk _ _ dq rfl (od _ (by first | k_mem | simp))
 have dr1:=dr.hd hd1
 have dlen:=ja9.len dr1
 refine xE (jck g h1 L [eO,hO,a.dO]) fun R r=>?_
 have kpt:jaz hs h1:=fun b o q f=>H1 b o (kp b o q f) (fun z=>by rw [soft b z o (kp b o q f)] at f;cases f)
 have N0:News g L h1 ((d j,listOf dits dkk)::(eO,listOf (two fun i=>.ref (e i).x) 0)::(hO,listOf (two fun i=>.ref (e i).hl) 0)::(a.dO,listOf (two fun i=>.ref (d i)) 0)::R):=jbj ((iAA dq1 (od _ (by first | k_mem | simp)) dg)) (fun p hp=>(N1.rest r p hp))
 have nd3:d j≠a.dO:=od _ (by first | k_mem | simp)
 have rd1:=r.ne (a:=a.dO) (by first | k_mem | simp)
 have hold:∀ (h2:Heap) (m2:Str->Option Value) (yd:Obj),Fr g L h2 m2->News g L h2 ((eO,listOf (two fun i=>.ref (e i).x) 0)::(hO,listOf (two fun i=>.ref (e i).hl) 0)::(a.dO,yd)::R)->jb8 h1 [L,a.dO] h2:=fun h2 m2 yd F2 N2=>js1 r F1 F2 N2 (fun p hp=>.tail _ (mt2 hp)) (N1 _ (.head _)).1 (N1 _ me1).1 (N2 _ (.head _)).1 (N2 _ me1).1
 have hsf:∀ o,h1.get? L=some o->jak o=false:=fun o q=>jg7 F1.ns n12 q
 have hdO:=(N1 _ me2).1
 clear N N1 F px pd
 walk_at "GO"
 rename_i D2 _ _ D1 _ _ lA _ _ D0 _ _ _ l0 h2 F2 N2
 refine km6 l0 fun _ _ _ l3 l4 l5 l6 _=>?_
 try clear l0
 have N3:=(jb1 (jb1 (jb1 (jb1 (jb1 N2)))))
 have LL:=hold _ _ _ F2 N3
 have nD:=N2 _ (.head _)
 have at2:∀ x,x≠L->x≠a.dO->∀ o,h1.get? x=some o->h2.get? x=some o:=fun x n1 n2 o q=>LL x o q (fun z=>by
  rcases List.mem_cons.mp z with z | z
  ·exact n1 z
  ·exact n2 (List.mem_singleton.mp z))
 have sF:∀ b o,h1.get? b=some o->jak o=true->h2.get? b=some o:=fun b o q f=>at2 b (fun z=>by rw [z] at q;rw [hsf o q] at f;cases f) (fun z=>by rw [z,hdO] at q;cases q;cases f) o q
 have hd2:Hards h1 h2:=fun b o q f=>sF b o q (by unfold ki6 at f;exact (Bool.and_eq_true_iff.mp f).1)
 refine xEE dn.pd fun Tq wq pq=>?_
 refine xEE dn.r2 fun Tr2 kr2 rq=>?_
 refine xEE dn.c2 fun Tc2 kc2 cq=>?_
 have dn2:=dn.keep hd2 (fun b o q f _=>sF b o q f) (at2 _ nl.1 (fun z=>by rw [z,hdO] at pq;cases congrArg Obj.data (Option.some.inj pq))) (at2 _ nl.2.1 (fun z=>by rw [z,hdO] at rq;cases congrArg Obj.data (Option.some.inj rq))) (at2 _ nl.2.2 (fun z=>by rw [z,hdO] at cq;cases congrArg Obj.data (Option.some.inj cq))) (at2 _ nhL (neN (by walk_at "OM")))
 have HD:ja3 h2 D0 (l++[("read no more", "tls")]++[("send no more", "tls")]):=(jhj _ _ nD.1 (by
  rw [show dits.toList++[Value.ref D2,Value.ref D1]=dits.toList++[Value.ref D2]++[Value.ref D1] by rw [List.append_assoc];rfl]
  exact ja9.snoc (ji4 _ _ _ rfl ((N2 _ me2).1)) (ja9.snoc (ji4 _ _ _ rfl ((N2 _ me3).1)) (dr1.hd hd2))))
 have N4:News g L h2 [(eO,listOf (two fun i=>.ref (e i).x) 0),(hO,listOf (two fun i=>.ref (e i).hl) 0),(a.dO,listOf (two (upd (fun i=>.ref (d i)) j (.ref D0))) 0)]:=fun p hp=>N3 p (by
  simp only [List.mem_cons,List.not_mem_nil,or_false] at hp
  rcases hp with rfl | rfl | rfl
  ·exact .head _
  ·exact .tail _ (.head _)
  ·exact .tail _ me1)
 rw [← jm8 (φ:=Value.ref)] at N4
 refine h h2 _ D0 F2 ((H1.mono (by first | k_mem | simp)).trans (LL.mono (by first | k_mem | simp))) ⟨fun b o q f=>sF b o (kpt b o q f) f,N4,dn2,by rw [jlj];exact HD,by rw [jlj];exact nD.2.2,fun x hx=>?_⟩
 rw [jlj]
 simp only [List.mem_cons,List.not_mem_nil,or_false] at hx
 rcases hx with rfl | rfl
 ·exact nD.2.1
 ·exact neN (by walk_at "OM")
end
end
theorem fl59:True:=by first|walk1|trivial
section
local macro_rules (kind:=PyProof.Rows.tacticWalk_at_) | s=>jex "AJaPGHEQRV&o" s
theorem Hards.of_ext {h h':Heap} {it:Addr} {a c:Int} {k:Int} (H:Heap.ExtBut it h h') (Hi:IsRangeIter h it a k c):Hards h h':=fun b o q f=>H b o (fun z=>by
 subst z
 have Hi':h.get? b=some _:=Hi
 rw [Hi'] at q;cases q;cases f) q
theorem jf2 {h h':Heap} {it:Addr} {a c k:Int} (H:Heap.ExtBut it h h') (Hi:IsRangeIter h it a k c) {b:Addr} {o:Obj} (q:h.get? b=some o) (hn:∀ vs,o.data≠.fields vs):h'.get? b=some o:=H b o (fun z=>by
 subst z
 have Hi':h.get? b=some _:=Hi
 rw [Hi'] at q;cases q;exact hn _ rfl) q
structure kez (w:World) (g hs:Heap) (L hO eO:Addr) (a:LA) (e:Nat->EA) (suite sec:Int) (S:St) (d:Nat->Addr) (i:Nat) (h:Heap):Prop where
 kp:jaz hs h
 nw:News g L h [(eO,listOf (two fun i=>.ref (e i).x) 0),(hO,listOf (two fun i=>.ref (e i).hl) 0),(a.dO,listOf (two fun i=>.ref (d i)) 0)]
 up:∀ j,j<2->i≤j->(jd1 w.params h (e j) suite sec (jdq (1-j)) (jdq j) (S.turn j) (S.wish j) (S.heard j)∧ja3 h (d j) (S.heard j)∧g.get? (d j)=none∧∀ x∈[L,a.dO,(e 0).hl,(e 1).hl],d j≠x)
section
variable {w:World} {g hs h h':Heap} {L rl hO eO it:Addr} {a:LA} {e:Nat->EA} {suite sec:Int} {its:Array Value} {n i k:Nat} {d:Nat->Addr} {S:St} {vc:Option Value} {m:Str->Option Value}
theorem jmq.fin (M:jmq w g hs L rl hO eO it a e suite sec its n vc S S S.heard d i h) (Z:jb5 w g hs L rl hO eO e sec) (hit:hs.get? it=none) (H:Heap.ExtBut it h h'):kez w g hs L hO eO a e suite sec S d 0 h':=by
 obtain ⟨X,O,DG,T1,T2,T3,kk,vs,oc,hoc,hsv,N⟩:=M
 have it0:=X.it
 have hd:=Hards.of_ext H it0
 have o0:=O.l0
 have o1:=O.l1 0 (by decide)
 have o2:=O.l2 0 (by decide)
 refine je4 X.ro fun rs kr ro rr=>?_
 refine ⟨fun b o q f=>H b o (fun z=>by subst z;rw [hit] at q;cases q) (X.kp b o q f),fun p hp=>?_,fun j hj _=>?_⟩
 ·simp only [List.mem_cons,List.not_mem_nil,or_false] at hp
  rcases hp with rfl | rfl | rfl
  ·exact ⟨jf2 H it0 X.eo (fun vs=>ctN rfl),(N _ me1).2⟩
  ·exact (iAA (jf2 H it0 X.ho (fun vs=>ctN rfl)) (neN (by dsimp only;walk_at "OM")) Z.oho)
  ·exact ⟨jf2 H it0 (N _ me3).1 (fun vs=>ctN rfl),(N _ me3).2⟩
 ·have Y:=X.mu j hj
  have sf:=Y.kind.soft (jjv _ ro rfl rfl)
  have D:=X.du j hj
  refine (jn2 (Y.keep hd (fun o q=>jf2 H it0 q (jd3 (sf _ (by first | k_mem | simp) o q))) (fun o q=>jf2 H it0 q (jd3 (sf _ (by first | k_mem | simp) o q))) (fun o q=>jf2 H it0 q (jd3 (sf _ (by first | k_mem | simp) o q))) (fun o q=>jf2 H it0 q (jd3 (sf _ (by first | k_mem | simp) o q)))) (D.hd hd (fun o q=>?_)) (DG j hj) (fun x hx=>O.nd j hj x ?_))
  ·refine je4 D fun ds kd d1 d2=>?_
   try clear D
   rw [d1] at q;cases q
   exact jf2 H it0 d1 (fun vs=>ctN rfl)
  ·simp only [List.mem_cons,List.not_mem_nil,or_false] at hx ⊢
   rcases hx with rfl | rfl | rfl | rfl <;> simp
end
section
variable {w:World} {mg mb:Str->Option Value} {g:Heap} {s:Shared} {A:Around} {E:Value->Shared->Prop} {Q:Flow->Shared->Prop}
theorem klx {fa L rl hO eO:Addr} {cd:Value} {a:LA} {e:Nat->EA} {d:Nat->Addr} {cid:Array UInt8} {len sec suite:Int} {hs:Heap} {j turn:Nat} {wish:Bool} {l:List (String×String)} {m:Str->Option Value} {uw:Tok} (hfr:A.frames=some []) (B':jbw w mg mb g) (hC:jav A 16) (NM:ja8 m a eO hO cid len) (Z:jb5 w g hs L rl hO eO e sec) (hj:j<2) (o4:@LT.lt Nat instLTNat eO a.dO) (F:Fr g L s.heap m) (hw:m "which" = some (.int ((j:Nat):Int) uw))
  (kp:jaz hs s.heap) (N:News g L s.heap [(eO,listOf (two fun i=>.ref (e i).x) 0),(hO,listOf (two fun i=>.ref (e i).hl) 0),(a.dO,listOf (two fun i=>.ref (d i)) 0)]) (up:jd1 w.params s.heap (e j) suite sec (jdq (1-j)) (jdq j) turn wish l) (du:ja3 s.heap (d j) l) (dg:g.get? (d j)=none) (od:∀ x∈[L,a.dO,(e j).hl],d j≠x) (hl:l.length≤900) (hk:(jek l).canLay0=true)
  (h:∀ h' tk D0,Fr g L h' m->jb8 s.heap [L,a.dO,(e j).dr,(e j).dc,(e j).hl] h'->jaz hs h'->News g L h' [(eO,listOf (two fun i=>.ref (e i).x) 0),(hO,listOf (two fun i=>.ref (e i).hl) 0),(a.dO,listOf (two fun i=>.ref (upd d j D0 i)) 0)]->Q .next { s with heap:=h',toks:=tk }) :
  wpG (model pw w) (A.deeper (envOfC "law" jaq L fa cd)) (execs dwnB (envOfC "law" jaq L fa cd)) Q E s:=by
 have hk2:(jek (l++[("read no more", "tls")]++[("send no more", "tls")])).canLay0=true:=jiv (jiv hk (by decide +kernel)) (by decide +kernel)
 refine jm7 2 (kd2 B' hC NM Z hj o4 F hw kp N up du dg od hl fun h1 tk1 D0 F1 L1 K1=>?_)
 refine ji5 2 1 (kpq (s:={ s with heap:=h1,toks:=tk1 }) B' hC NM Z hj o4 K1 F1 hw hk2 fun h2 tk2 F2 L2=>?_)
 have K2:=K1.left F1 NM.n12 Z hj L2
 refine jv9 3 1 (kk9 (s:={ s with heap:=h2,toks:=tk2 }) hfr B' hC NM Z hj o4 K2 F2 hw fun h3 tk3 F3 L3=>?_)
 have K3:=K2.left F2 NM.n12 Z hj L3
 refine klq (s:={ s with heap:=h3,toks:=tk3 }) hfr B' hC NM Z hj o4 K3 F3 hw fun h4 tk4 F4 L4=>?_
 have K4:=K3.left F3 NM.n12 Z hj L4
 exact h h4 tk4 D0 F4 (((L1.trans (L2.mono (by first | k_mem | simp))).trans (L3.mono (by first | k_mem | simp))).trans (L4.mono (by first | k_mem | simp))) K4.kp K4.nw
end
end
theorem fl60:True:=by first|walk1|trivial
section
local macro_rules (kind:=PyProof.Rows.tacticWalk_at_) | s=>jex "AJaPGHEQRV&o" s
noncomputable abbrev stm15:=jaj (match jdv.drop 15 with | x::_=>x | []=>.Pass ⟨0,0,0,0⟩)
section
variable {w:World} {mg mb:Str->Option Value} {g hs h h':Heap} {L rl hO eO it:Addr} {a:LA} {e:Nat->EA} {suite sec:Int} {i j:Nat} {d d':Nat->Addr} {S:St}
theorem kez.left (T:kez w g hs L hO eO a e suite sec S d i h) (Z:jb5 w g hs L rl hO eO e sec) (H:jb8 h [L] h') (hLf:∀ o,h.get? L=some o->jak o=false):kez w g hs L hO eO a e suite sec S d i h':=by
 have at':∀ b,b≠L->∀ o,h.get? b=some o->h'.get? b=some o:=fun b n o q=>H b o q (fun z=>n (List.mem_singleton.mp z))
 have hd:Hards h h':=fun b o q f=>at' b (fun z=>by subst z;unfold ki6 at f;rw [hLf o q] at f;cases f) o q
 refine ⟨fun b o q f=>at' b (fun z=>by subst z;rw [Z.hL] at q;cases q) o (T.kp b o q f),fun p hp=>⟨at' _ (T.nw p hp).2.1 _ (T.nw p hp).1,(T.nw p hp).2⟩,fun j hj hij=>?_⟩
 refine jv1 (T.up j hj hij) fun U D gx ox=>?_
 have nl:=Z.nl j hj
 exact (jn2 (U.keep hd (at' _ nl.1) (at' _ nl.2.1) (at' _ nl.2.2) (at' _ (Z.hlL hj))) (D.hd hd (at' _ (ox _ (by first | k_mem | simp)))) gx ox)
theorem kez.ext {b c k:Int} (T:kez w g hs L hO eO a e suite sec S d i h) (hit:hs.get? it=none) (H:Heap.ExtBut it h h') (Hi:IsRangeIter h it b k c):kez w g hs L hO eO a e suite sec S d i h':=by
 have hd:=Hards.of_ext H Hi
 have rlk:∃ o,h.get? a.dO=some o∧dsz o.data=0∧jak o=false:=(jjv _ ((T.nw _ me2).1) rfl rfl)
 refine ⟨fun b o q f=>H b o (fun z=>by subst z;rw [hit] at q;cases q) (T.kp b o q f),fun p hp=>⟨?_,(T.nw p hp).2⟩,fun j hj hij=>?_⟩
 ·have q:=(T.nw p hp).1
  simp only [List.mem_cons,List.not_mem_nil,or_false] at hp
  rcases hp with rfl | rfl | rfl <;> exact jf2 H Hi q (fun vs=>ctN rfl)
 ·refine jv1 (T.up j hj hij) fun U D gx ox=>?_
  have sf:=U.kind.soft rlk
  refine (jn2 (U.keep hd (fun o q=>jf2 H Hi q (jd3 (sf _ (by first | k_mem | simp) o q))) (fun o q=>jf2 H Hi q (jd3 (sf _ (by first | k_mem | simp) o q))) (fun o q=>jf2 H Hi q (jd3 (sf _ (by first | k_mem | simp) o q))) (fun o q=>jf2 H Hi q (jd3 (sf _ (by first | k_mem | simp) o q)))) (D.hd hd (fun o q=>?_)) gx ox)
  refine je4 D fun ds kd d1 d2=>?_
  try clear D
  rw [d1] at q;cases q
  exact jf2 H Hi d1 (fun vs=>ctN rfl)
theorem kez.next (T:kez w g hs L hO eO a e suite sec S d j h) (Z:jb5 w g hs L rl hO eO e sec) (O4:@LT.lt Nat instLTNat eO a.dO) (hj:j<2) (H:jb8 h [L,a.dO,(e j).dr,(e j).dc,(e j).hl] h') (hLf:∀ o,h.get? L=some o->jak o=false) (kp:jaz hs h')
  {D0:Addr} (nw:News g L h' [(eO,listOf (two fun i=>.ref (e i).x) 0),(hO,listOf (two fun i=>.ref (e i).hl) 0),(a.dO,listOf (two fun i=>.ref (upd d j D0 i)) 0)]):kez w g hs L hO eO a e suite sec S (upd d j D0) (j+1) h':=by
 refine ⟨kp,nw,fun x hx hjx=>?_⟩
 refine jv1 (T.up j hj (Nat.le_refl _)) fun Uj _ _ _=>?_
 refine jv1 (T.up x hx (by walk_at "OM")) fun Ux Dx gx ox=>?_
 have hne:x≠j:=by walk_at "OM"
 have hdO:=(T.nw _ me2).1
 have rlk:∃ o,h.get? a.dO=some o∧dsz o.data=0∧jak o=false:=(jjv _ hdO rfl rfl)
 have o3:=Z.l4
 have oj:=Z.l3 j hj
 have ox2:=Z.l3 x hx
 have kj:=Uj.kind
 have sfj:=kj.soft rlk
 have kx:=Ux.kind
 have nn:=kj.ne kx (Z.apart hj hx (fun q=>hne q.symm)) rlk (neN (by walk_at "OM"))
 have soft:∀ b∈[L,a.dO,(e j).dr,(e j).dc,(e j).hl],∀ o,h.get? b=some o->jak o=false:=jbj hLf (jbj (sfj _ (by k_mem)) (jbj (sfj _ (by k_mem)) (jbj (sfj _ (by k_mem)) (jgw (sfj _ (by k_mem))))))
 have hd:Hards h h':=Hards.of_left H soft
 have nl:=Z.nl x hx
 have at':∀ b∈[(e x).dx,(e x).dr,(e x).dc,(e x).hl],b≠L->∀ o,h.get? b=some o->h'.get? b=some o:=fun b hb n o q=>H b o q (fun z=>by
  have z2:=nn b hb
  simp only [List.mem_cons,List.not_mem_nil,or_false] at z z2
  rcases z with z | z | z | z | z
  ·exact n z
  ·exact z2 (.inr (.inr (.inr (.inr z))))
  ·exact z2 (.inr (.inl z))
  ·exact z2 (.inr (.inr (.inl z)))
  ·exact z2 (.inr (.inr (.inr (.inl z)))))
 rw [jx8 hne]
 refine (jn2 (Ux.keep hd (at' _ (by first | k_mem | simp) nl.1) (at' _ (by first | k_mem | simp) nl.2.1) (at' _ (by first | k_mem | simp) nl.2.2) (at' _ (by first | k_mem | simp) (Z.hlL hx))) (Dx.hd hd (fun o q=>H _ o q (fun z=>?_))) gx ox)
 refine je4 Dx fun ds kd d1 d2=>?_
 try clear Dx
 obtain ⟨zs1,zs2,zs3,_⟩:=kj
 refine jg2 zs1 fun o1 a1 s1 _=>?_
 try clear zs1
 refine jg2 zs2 fun o2 a2 s2 _=>?_
 try clear zs2
 refine jg2 zs3 fun o5 a3 s3 _=>?_
 try clear zs3
 simp only [List.mem_cons,List.not_mem_nil,or_false] at z
 rcases z with z | z | z | z | z
 ·exact ox _ (by first | k_mem | simp) z
 ·exact ox _ (by first | k_mem | simp) z
 ·exact jf1 d1 a2 (by rw [s2];exact (by decide:(0:Nat)≠9)) z
 ·exact jf1 d1 a3 (by rw [s3];exact (by decide:(0:Nat)≠9)) z
 ·rcases (show j=0∨j=1 by walk_at "OM") with rfl | rfl
  ·exact ox (e 0).hl (by first | k_mem | simp) z
  ·exact ox (e 1).hl (by first | k_mem | simp) z
end
section
variable {w:World} {mg mb:Str->Option Value} {g:Heap} {s:Shared} {A:Around} {E:Value->Shared->Prop} {Q:Flow->Shared->Prop}
theorem kxj {fa L rl hO eO:Addr} {cd:Value} {a:LA} {e:Nat->EA} {d:Nat->Addr} {cid:Array UInt8} {len sec suite:Int} {hs:Heap} {S:St} {m:Str->Option Value} (hfr:A.frames=some []) (B':jbw w mg mb g) (hC:jav A 16) (NM:ja8 m a eO hO cid len) (Z0:jb5 w g hs L rl hO eO e sec) (o4:@LT.lt Nat instLTNat eO a.dO) (F:Fr g L s.heap m)
  (T0:kez w g hs L hO eO a e suite sec S d 0 s.heap) (hl:∀ j,j<2->(S.heard j).length≤900) (hk:∀ j,j<2->(jek (S.heard j)).canLay0=true)
  (h:∀ h' tk m',Fr g L h' m'->jhw h'->Q .next { s with heap:=h',toks:=tk }) :
  wpG (model pw w) (A.deeper (envOfC "law" jaq L fa cd)) (exec stm15 (envOfC "law" jaq L fa cd)) Q E s:=by
 obtain ⟨hd,dp,fr,gs,un⟩:=A
 obtain ⟨rfl,rfl⟩:hd=none∧gs=some []:=⟨hC.h,hC.g⟩
 have KX:=B'.k
 have TR:=B'.t
 have NM0:=NM
 obtain ⟨n1,n2,n3,n4,n5,n6,n7,n8,n9,zs4,zs5,n12⟩:=NM
 refine xE zs4 fun tc n10=>?_
 try clear zs4
 refine xE zs5 fun tl n11=>?_
 try clear zs5
 have N:News g L s.heap []:=News.nil
 have Z:=Z0.rebase T0.kp
 have T:kez w g (hideAll s.heap [L,L+1]) L hO eO a e suite sec S d 0 s.heap:=⟨fun b o q zz=>of_hideAll _ q,T0.nw,T0.up⟩
 have hLf:∀ (h:Heap) (m:Str->Option Value),Fr g L h m->ja8 m a eO hO cid len->∀ o,h.get? L=some o->jak o=false:=fun h m F' M' o q=>jg7 F'.ns M'.n12 q
 refine jwx ?_ fun zz=>rfl
 repeat ((fail_if_success (with_reducible show wpAny _ _ (call (Value.type "range") _) _ _ _));walk1;try dsimp only)
 refine jmj (n:=2) (by decide) fun it h1 tk1 hi1 k1 n1 z1=>?_
 have nit:it≠L:=jiz F n1
 have git:g.get? it=none:=jbz F.keep n1
 have hit:(hideAll s.heap [L,L+1]).get? it=none:=jbz (fun b o q=>of_hideAll _ q) n1
 refine jn6 (n:=2) (a:=0) (c:=1) rfl (fun i s'=>∃ h tk m d,s' = { s with heap:=h,toks:=tk }∧Fr g L h m∧ja8 m a eO hO cid len∧kez w g (hideAll s.heap [L,L+1]) L hO eO a e suite sec S d i h∧IsRangeIter h it (0+(i:Nat)*1) (((2:Nat):Int)-(i:Nat)) 1) ?_ ?_ ?_ (jtj h1 tk1 m d rfl (kjw F k1) NM0 (?_) hi1)
 ·intro i s' hi zp
  refine jf8 zp fun h2 tk2 m2 d2 zq9 F2 NM2 T2 I2=>?_
  obtain rfl:=zq9
  exact I2
 ·intro i s' h' hi zp H Hi
  refine jf8 zp fun h2 tk2 m2 d2 zq9 F2 NM2 T2 I2=>?_
  obtain rfl:=zq9
  have T3:=T2.ext hit H.extBut I2
  have F3:=kyw F2 H nit git
  rw [show (0:Int)+(i:Nat)*1=((i:Nat):Int) by walk_at "OM"]
  refine kfq (env:=(envOfC "law" jaq L fa cd)) F3 (by kernel_rfl!) (by kernel_rfl!) fun h4 F4 H4=>?_
  have L4:jb8 h' [L] h4:=fun b o q n=>H4.extBut b o (fun z=>n (List.mem_singleton.mpr z)) q
  have T4:=T3.left Z L4 (hLf _ _ F3 NM2)
  have NM4:=NM2.set (x := "which") (r:=some (.int ((i:Nat):Int) tk2)) (by decide)
  refine jv1 (T4.up i hi (Nat.le_refl _)) fun U D gx ox=>?_
  have I4:IsRangeIter h4 it (0+((i+1:Nat):Int)*1) (((2:Nat):Int)-((i+1:Nat):Int)) 1:=L4 _ _ Hi (fun z=>nit (List.mem_singleton.mp z))
  refine klx (s:={ s with heap:=h4,toks:=tk2+1+1 }) hfr B' hC NM4 Z hi o4 F4 jej T4.kp T4.nw U D gx (fun x hx=>ox x ?_) (hl i hi) (hk i hi) fun h5 tk5 D0 F5 L5 K5 W5=>(jtj h5 tk5 _ _ rfl F5 NM4 (T4.next Z o4 hi L5 (hLf _ _ F4 NM4) K5 W5) (?_))
  ·simp only [List.mem_cons,List.not_mem_nil,or_false] at hx ⊢
   rcases hx with rfl | rfl | rfl
   ·exact .inl rfl
   ·exact .inr (.inl rfl)
   ·rcases (show i=0∨i=1 by walk_at "OM") with rfl | rfl <;> simp
  ·refine L5 _ _ I4 (fun z=>?_)
   have hdO:=(T4.nw _ me2).1
   have sf:=U.kind.soft (jjv _ hdO rfl rfl)
   have I4':h4.get? it=some _:=I4
   rcases List.mem_cons.mp z with z | z
   ·exact nit z
   ·have:=sf it (by
     simp only [List.mem_cons,List.not_mem_nil,or_false] at z ⊢
     rcases z with z | z | z | z <;> simp [z]) _ I4'
    cases this
 ·intro s' h' zp H
  refine jf8 zp fun h2 tk2 m2 d2 zq9 F2 NM2 T2 I2=>?_
  obtain rfl:=zq9
  exact h h' tk2 m2 (jc0 F2 (as:=[it]) (fun b o e n=>H b o (fun z=>n (List.mem_singleton.mpr z)) e) fun x hx=>by rw [List.mem_singleton.mp hx];exact ⟨nit,git⟩) (jhw.keepsL (T2.ext hit H I2).kp Z.ta)
 ·exact ⟨fun b o q f=>k1 _ _ (T.kp b o q f),jy6 T.nw k1,fun j hj hij=>by
   refine jv1 (T.up j hj hij) fun U D gx ox=>?_
   exact (jn2 (U.keep (fun b o q zz=>k1 b o q) (k1 _) (k1 _) (k1 _) (k1 _)) (D.keeps (jaz.of_sub k1) (k1 _)) gx ox)⟩
end
end
theorem fl61:True:=by first|walk1|trivial
section
local macro_rules (kind:=PyProof.Rows.tacticWalk_at_) | s=>jex "AJaPGHEQRV&" s
theorem jv7 {M:Model} {A:Around} {E:Value->Shared->Prop} {s:Shared} {env:Env} {st:Stmt} {l l':List Stmt} {Q:Flow->Shared->Prop} (he:l=st::l') (h:wpG M A (exec st env) (fun f s'=>match f with | .next=>wpG M A (execs l' env) Q E s' | f=>Q f s') E s):wpG M A (execs l env) Q E s:=by
 subst he
 exact ja4 h
section
variable {w:World} {mg mb:Str->Option Value} {g:Heap} {s:Shared} {A:Around} {E:Value->Shared->Prop} {Q:Flow->Shared->Prop}
theorem kx0 {fa L:Addr} {cd:Value} {m:Str->Option Value} (B':jbw w mg mb g) (hC:jav A 1) (F:Fr g L s.heap m) (h:∀ tk,Q (.ret (.bool true)) { s with toks:=tk }) :
  wpAny (model pw w) (A.deeper (envOfC "law" jaq L fa cd)) (execs (jdv.drop 16) (envOfC "law" jaq L fa cd)) Q E s:=by
 refine openA A hC fun dp fr un hC=>?_
 have KX:=B'.k
 have TR:=B'.t
 have N:News g L s.heap []:=News.nil
 try dsimp only [List.take,List.drop]
 walk_at "GO"
 exact h _
theorem kok {fa L rl hO eO d0 d1:Addr} {cd:Value} {a:LA} {e:Nat->EA} {cid:Array UInt8} {suite sec:Int} {its:Array Value} {hs:Heap} {m:Str->Option Value} {Ln first:Nat} {nums:List Int} {oc:Obj} {t3 ta tb:Tok} (hfr:A.frames=some []) (B':jbw w mg mb g) (hC:jav A 16) (NM:ja8 m a eO hO cid ((Ln:Nat):Int)) (Z0:jb5 w g hs L rl hO eO e sec) (F:Fr g L s.heap m)
  (kp:jaz hs s.heap) (eo:s.heap.get? eO=some (listOf (two fun i=>.ref (e i).x) 0)) (ho:s.heap.get? hO=some (listOf (two fun i=>.ref (e i).hl) 0)) (ro:s.heap.get? rl=some (listOf #[] 0)) (up:∀ j,j<2->jd1 w.params s.heap (e j) suite sec (jdq (1-j)) (jdq j) 0 false [("read", "tls"),("send", "tls")])
  (OO:vbj a L eO d0 d1) (N:News g L s.heap [(L+1,oc),(a.nO,listOf its 0),(a.sO,listOf #[] 0),(a.xO,listOf #[.int ((first:Nat):Int) t3,.int ((first:Nat):Int) t3] 0),(a.cO,listOf #[.int ((first:Nat):Int) t3,.int ((first:Nat):Int) t3] 0),(a.wO,listOf #[.bool false,.bool false] 0),(a.dO,listOf #[.ref d0,.ref d1] 0),(a.tO,listOf #[.int 0 ta,.int 0 tb] 0)]) (hoc:oc.data=.cell none)
  (HD0:ja3 s.heap d0 [("read", "tls"),("send", "tls")]) (HD1:ja3 s.heap d1 [("read", "tls"),("send", "tls")]) (g0:g.get? d0=none) (g1:g.get? d1=none) (neo:g.get? eO=none)
  (hsuite:suite=4865∨suite=4866∨suite=4867) (hsec:sec=0∨sec=1) (hI:IntsAre its.toList nums) (hz:nums.length≤48) (hL:2≤Ln) (hL4:Ln≤4) (hcs:cid.size≤5) (hf:first=0∨first=51200∨first=1048576)
  (h:∀ h' tk m',Fr g L h' m'->jhw h'->Q (.ret (.bool true)) { s with heap:=h',toks:=tk }) :
  wpG (model pw w) (A.deeper (envOfC "law" jaq L fa cd)) (execs (jdv.drop 14) (envOfC "law" jaq L fa cd)) Q E s:=by
 refine jv7 (st:=stm14) (l':=jdv.drop 15) (by kernel_rfl!) ?_
 refine kxv hfr B' hC NM Z0 F kp eo ho ro up OO N hoc HD0 HD1 g0 g1 neo hsuite hsec hI hz hL hL4 hcs hf ?_
 intro hs' it n i h0 h7 tk7 m7 d7 vc7 S7 Z7 F7 NM7 hit7 X7 M7 P7
 have T7:=M7.fin Z7 hit7 X7
 refine jv7 (st:=stm15) (l':=jdv.drop 16) (by kernel_rfl!) ?_
 refine kxj hfr B' hC NM7 Z7 (Nat.lt_trans OO.o1 (Nat.lt_trans OO.o2 OO.o3)) F7 T7 (fun j hj=>by have:=P7.hd j hj;walk_at "OM") P7.lay ?_
 intro h8 tk8 m8 F8 TB8
 refine jcz ?_
 exact kx0 B' (hC.le (by decide)) F8 fun tk=>h _ _ _ F8 TB8
end
end
section
variable {w:World} {mg mb:Str->Option Value} {g:Heap} {s:Shared} {A:Around} {E:Value->Shared->Prop} {Q:Flow->Shared->Prop}
theorem kxw {fa sA L:Addr} {cd:Value} {oc:Obj} {rl hO eO:Addr} {e:Nat->EA} {suite sec head:Int} {Ln first:Nat} {t0 t1 t2 t3 t4 t5 t6 t7:Tok} {cid:Array UInt8} {vs:List Value} {ns:List Int} {r0:Option Value} {hs:Heap} (hfr:A.frames=some []) (B':jbw w mg mb g) (hC:jav A 16) (Z:jb5 w g hs L rl hO eO e sec)
  (F:Fr g L s.heap (fun y=>if y=ofString "which" then r0 else chain ([(ofString "ends", .ref eO),(ofString "heard", .ref hO),(ofString "rows", .ref rl)]++m2 sA suite sec ((Ln:Nat):Int) ((first:Nat):Int) t0 t1 t2 t3 t4 t5 t6 t7 head cid) y))
  (kp5:jaz hs s.heap) (eo5:s.heap.get? eO=some (listOf (two fun i=>.ref (e i).x) 0)) (ho5:s.heap.get? hO=some (listOf (two fun i=>.ref (e i).hl) 0)) (ro5:s.heap.get? rl=some (listOf #[] 0)) (ce5:s.heap.get? (L+1)=some oc) (hcL:L+1≠L∧g.get? (L+1)=none) (hoc:oc.data=.cell none)
  (up5:∀ j,j<2->jd1 w.params s.heap (e j) suite sec (jdq (1-j)) (jdq j) 0 false [("read", "tls"),("send", "tls")])
  (hl:g.IsList sA vs.toArray) (hI:IntsAre vs ns) (hz:ns.length≤63)
  (hsuite:suite=4865∨suite=4866∨suite=4867) (hsec:sec=0∨sec=1) (hL:2≤Ln) (hL4:Ln≤4) (hcs:cid.size≤5) (hf:first=0∨first=51200∨first=1048576)
  (h:∀ h' tk m',Fr g L h' m'->jhw h'->Q (.ret (.bool true)) { s with heap:=h',toks:=tk }) :
  wpG (model pw w) (A.deeper (envOfC (ofString "law") jaq L fa cd)) (execs (jdv.drop 10) (envOfC (ofString "law") jaq L fa cd)) Q E s:=by
 obtain ⟨R0,r5⟩:=jck g s.heap L [L+1]
 have N5:News g L s.heap ((L+1,oc)::R0):=fun p hp=>by
  rcases List.mem_cons.mp hp with rfl | hp
  ·exact ⟨ce5,hcL⟩
  ·exact r5.news p hp
 have q0:=Z.l1
 have q1:=Z.l2 0 (by decide)
 have q2:=Z.l3 0 (by decide)
 have q3:=Z.l4
 have rlLt:@LT.lt Nat instLTNat (L+1) eO:=Nat.lt_trans q0 (Nat.lt_trans q1 (Nat.lt_trans q2 q3))
 have eoC:eO≠L+1:=neN (Nat.ne_of_gt rlLt)
 have eoL:eO≠L:=neN (Nat.ne_of_gt (Nat.lt_of_succ_lt rlLt))
 have hLf5:∀ o,s.heap.get? L=some o->jak o=false:=fun o q=>jg7 F.ns (by simp only [chain,m2,List.cons_append,List.nil_append,je5,String.reduceEq,reduceIte]) q
 have hEO:∃ o,(eO,o)∈R0:=⟨_,r5.all _ _ eo5 eoL (fun z=>eoC (List.mem_singleton.mp z)) Z.oeo⟩
 have A10:jav A 10:=hC.le (by decide)
 refine ji5 10 4 ?_
 refine @kxk w mg mb g s A _ _ fa sA L cd oc rl hO eO ((Ln:Nat):Int) ((first:Nat):Int) t3 cid vs ns _ R0 B' A10 F N5 (lkM (by kernel_rfl!) (jjq (by kernel_rfl!) (jjq (by kernel_rfl!) (jjq (by kernel_rfl!) (jjq (by kernel_rfl!) (jjq (by kernel_rfl!) (jjq (by kernel_rfl!) (jjq (by kernel_rfl!) (kxx))))))))) (lkM (by kernel_rfl!) (jjq (by kernel_rfl!) (jjq (by kernel_rfl!) (jjq (by kernel_rfl!) (jjq (by kernel_rfl!) (jjq (by kernel_rfl!) (jjq (by kernel_rfl!) (jjq (by kernel_rfl!) (jjq (by kernel_rfl!) (jjq (by kernel_rfl!) (jjq (by kernel_rfl!) (jjq (by kernel_rfl!) (kxx))))))))))))) (lkM (by kernel_rfl!) (kxx)) (lkM (by kernel_rfl!) (jjq (by kernel_rfl!) (kxx))) ⟨t5,(lkM (by kernel_rfl!) (jjq (by kernel_rfl!) (jjq (by kernel_rfl!) (jjq (by kernel_rfl!) (jjq (by kernel_rfl!) (jjq (by kernel_rfl!) (kxx)))))))⟩ ⟨t4,(lkM (by kernel_rfl!) (jjq (by kernel_rfl!) (jjq (by kernel_rfl!) (jjq (by kernel_rfl!) (jjq (by kernel_rfl!) (jjq (by kernel_rfl!) (jjq (by kernel_rfl!) (kxx))))))))⟩ (by simp only [chain,m2,List.cons_append,List.nil_append,je5,String.reduceEq,reduceIte]) hl hI hz hEO ?_
 intro h6 tk6 a d0 d1 m its nums OO NM6 F6 kp6 L6 tO6 tg6 tL6 HD0 HD1 g0 g1 n0 n1 hz6 hI6
 have LL:jb8 s.heap [L] h6:=fun b o q n=>by
  have n':b≠L:=fun z=>n (List.mem_singleton.mpr z)
  by_cases hb':b=L+1
  ·subst hb'
   rw [ce5] at q;cases q
   exact kp6 _ (.head _)
  ·cases qg:g.get? b with
   | none=>exact kp6 _ (.tail _ (r5.all b o q n' (fun z=>hb' (List.mem_singleton.mp z)) qg))
   | some o' =>
    have:=F.keep b o' qg
    rw [q] at this;cases this
    exact F6.keep b o qg
 have hd6:Hards s.heap h6:=fun b o q f=>LL b o q (fun z=>by
  obtain rfl:=List.mem_singleton.mp z
  unfold ki6 at f
  rw [hLf5 o q] at f;cases f)
 have nLk:∀ b,b≠L->∀ o,s.heap.get? b=some o->h6.get? b=some o:=fun b n o q=>LL b o q (fun z=>n (List.mem_singleton.mp z))
 have kp7:jaz hs h6:=fun b o q f=>nLk b (fun z=>by subst z;rw [Z.hL] at q;cases q) o (kp5 b o q f)
 have up6:∀ j,j<2->jd1 w.params h6 (e j) suite sec (jdq (1-j)) (jdq j) 0 false [("read", "tls"),("send", "tls")]:=fun j hj=>by
  have nl:=Z.nl j hj
  exact (up5 j hj).keep hd6 (nLk _ nl.1) (nLk _ nl.2.1) (nLk _ nl.2.2) (nLk _ (Z.hlL hj))
 obtain ⟨ta,tb',tO6⟩:=tO6
 have N6:News g L h6 [(L+1,oc),(a.nO,listOf its 0),(a.sO,listOf #[] 0),(a.xO,listOf #[.int ((first:Nat):Int) t3,.int ((first:Nat):Int) t3] 0),(a.cO,listOf #[.int ((first:Nat):Int) t3,.int ((first:Nat):Int) t3] 0),(a.wO,listOf #[.bool false,.bool false] 0),(a.dO,listOf #[.ref d0,.ref d1] 0),(a.tO,listOf #[.int 0 ta,.int 0 tb'] 0)]:=by
  have mk:∀ q∈[(a.nO,listOf its 0),(a.sO,listOf #[] 0),(a.xO,listOf #[.int ((first:Nat):Int) t3,.int ((first:Nat):Int) t3] 0),(a.cO,listOf #[.int ((first:Nat):Int) t3,.int ((first:Nat):Int) t3] 0),(a.wO,listOf #[.bool false,.bool false] 0),(a.dO,listOf #[.ref d0,.ref d1] 0)],h6.get? q.1=some q.2∧q.1≠L∧g.get? q.1=none:=fun q hq=>⟨(L6 q hq).1,(L6 q hq).2.2,(L6 q hq).2.1⟩
  intro p hp
  rcases List.mem_cons.mp hp with rfl | hp
  ·exact ⟨kp6 _ (.head _),hcL⟩
  rcases List.mem_append.mp (show p∈[(a.nO,listOf its 0),(a.sO,listOf #[] 0),(a.xO,listOf #[.int ((first:Nat):Int) t3,.int ((first:Nat):Int) t3] 0),(a.cO,listOf #[.int ((first:Nat):Int) t3,.int ((first:Nat):Int) t3] 0),(a.wO,listOf #[.bool false,.bool false] 0),(a.dO,listOf #[.ref d0,.ref d1] 0)]++[(a.tO,listOf #[.int 0 ta,.int 0 tb'] 0)] from hp) with hp | hp
  ·exact mk p hp
  ·obtain rfl:=List.mem_singleton.mp hp
   exact ⟨tO6,tL6,tg6⟩
 have hoN:hO≠L:=neN (Nat.ne_of_gt (Nat.lt_of_succ_lt (Nat.lt_trans q0 (Nat.lt_trans q1 q2))))
 have rlN:rl≠L:=neN (Nat.ne_of_gt (Nat.lt_of_succ_lt q0))
 exact kok hfr B' hC NM6 Z F6 kp7 (nLk _ eoL _ eo5) (nLk _ hoN _ ho5) (nLk _ rlN _ ro5) up6 OO N6 hoc HD0 HD1 g0 g1 Z.oeo hsuite hsec hI6 hz6 hL hL4 hcs hf h
end
section
variable {w:World} {mg mb:Str->Option Value} {hb:Heap} {s:Shared} {A:Around}
theorem kh3 {fa sA:Addr} {o:Obj} {pm cd doc:Value} {vs:List Value} {ns:List Int} (B:jbw w mg mb hb) (S:Sub hb s.heap) (EX:Ext mg hb) (tb:s.heap.get? 371=some (tabObj #[])) (tn:hb.get? 371=none)
  (ho:s.heap.get? fa=some o) (hd:o.data=.func { docDef jgz.name jgz.params jgz.body jgz.scope pm cd doc with defaults:=.none,kwdefaults:=.none }) (hcd:s.heap.CodeRec cd jgz.name) (hC:jav A 17) (hfr:A.frames=some [])
  (hl:hb.IsList sA vs.toArray) (hI:IntsAre vs ns) (hz:ns.length≤63):jq7 w A s (.call (.ref fa) ⟨[.ref sA],[]⟩) [371] (fun v h'=>v=.bool true∧jhw h'):=by
 intro R hR
 refine ko9 (news:=[(371,tabObj #[])]) B S (fun p hp=>by obtain rfl:=List.mem_singleton.mp hp;exact ⟨tb,tn⟩) ho hd hcd hC.room ?_
 intro g L h₁ tk oc B' F N hoc hg hsub hlt
 have hC16:jav A 16:=hC.le (by decide)
 have hbg:Sub hb g:=fun b o q=>hg b o (S b o q) (fun z=>by obtain rfl:=List.mem_singleton.mp z;rw [tn] at q;cases q)
 have hlg:g.IsList sA vs.toArray:=by obtain ⟨o',q1,q2⟩:=hl;exact (iEA o' (hbg _ _ q1) q2)
 have EXg:=EX.keeps hbg
 have hcL:=(N _ (.head _)).2
 refine jm7 1 (law_s0 (s:={ s with heap:=h₁,toks:=tk }) B' (hC.le (by decide)) F N hlg hI hz fun h1 tk1 t0 F1 N1=>?_)
 refine ji5 1 4 (law_s1 (s:={ s with heap:=h1,toks:=tk1 }) (vs:=vs) (ns:=ns) B' (hC.le (by decide)) F1 N1 fun h2 tk2 t1 t2 t3 t4 t5 t6 cid hcid F2 N2=>?_)
 obtain ⟨head,hhead⟩:∃ x,x=ns.getD 0 0:=⟨_,rfl⟩
 rw [← hhead] at F2 hcid
 have f3:=jk6 (head.fdiv 3) (k:=2) (by decide)
 have f6:=jk6 (head.fdiv 6) (k:=3) (by decide)
 have f2:=jk6 (head.fdiv 2) (k:=6) (by decide)
 obtain ⟨suite,hsu⟩:∃ x,x=knj 4865 4866 4867 (head.fmod 3):=⟨_,rfl⟩
 obtain ⟨sec,hse⟩:∃ x,x=(head.fdiv 3).fmod 2:=⟨_,rfl⟩
 obtain ⟨Ln,hLn⟩:∃ n:Nat,((n:Nat):Int)=2+(head.fdiv 6).fmod 3:=⟨(2+(head.fdiv 6).fmod 3).toNat,by walk_at "OM"⟩
 obtain ⟨first,hfi⟩:∃ n:Nat,((n:Nat):Int)=knj 0 51200 1048576 ((head.fdiv 18).fmod 3):=⟨(knj 0 51200 1048576 ((head.fdiv 18).fmod 3)).toNat,by unfold knj;split <;> (try split) <;> rfl⟩
 unfold m1 at F2
 rw [← hsu,← hse,← hLn,← hfi] at F2
 have hsuite:suite=4865∨suite=4866∨suite=4867:=by
  rw [hsu];unfold knj;split
  ·exact .inl rfl
  ·split
   ·exact .inr (.inl rfl)
   ·exact .inr (.inr rfl)
 have hsec:sec=0∨sec=1:=by walk_at "OM"
 have hf:first=0∨first=51200∨first=1048576:=by
  unfold knj at hfi;split at hfi
  ·exact .inl (by walk_at "OM")
  ·split at hfi
   ·exact .inr (.inl (by walk_at "OM"))
   ·exact .inr (.inr (by walk_at "OM"))
 have hcs:cid.size≤5:=by rw [hcid];walk_at "OM"
 refine ji5 5 1 (law_s5 (s:={ s with heap:=h2,toks:=tk2 }) (vs:=vs) (ns:=ns) (tab:=tabObj #[]) B' (hC.le (by decide)) F2 N2 fun h3 tk3 t7 F3 N3=>?_)
 refine ji5 6 3 (law_s8 (s:={ s with heap:=h3,toks:=tk3 }) (vs:=vs) (ns:=ns) (tab:=tabObj #[]) B' (hC.le (by decide)) EXg F3 N3 hoc fun h4 tk4 rl hO eO e I4 F4 N4=>?_)
 refine jv7 (st:=stm9) (l':=jdv.drop 10) (by kernel_rfl!) (law_s9 (s:={ s with heap:=h4,toks:=tk4 }) B' (hC.le (by decide)) F4 I4 (N4 _ (.head _)).1 hoc hcL.2 hsec hsuite fun h5 tk5 hs r0 oc5 Z5 F5 kp5 eo5 ho5 ro5 ce5 hoc5 up5=>?_)
 refine @kxw w mg mb g { s with heap:=h5,toks:=tk5 } A _ _ fa sA L cd oc5 rl hO eO e suite sec head Ln first t0 t1 t2 t3 t4 t5 t6 t7 cid vs ns r0 hs hfr B' hC16 Z5 F5 kp5 eo5 ho5 ro5 ce5 hcL hoc5 up5 hlg hI hz hsuite hsec (by walk_at "OM") (by walk_at "OM") hcs hf ?_
 intro h8 tk8 m8 F8 TB8
 exact hR _ _ _ (ja5 hg F8) ⟨rfl,TB8⟩
end
theorem knx (P:Params):(jo9 P).get 371=some (tabObj #[]):=by kernel_rfl!
theorem tab_H1 (P:Params):(H1 P).get? 371=some (tabObj #[]):=by
 unfold H1
 rw [abs_get (by decide) (knx P)]
 exact kb0 rfl
theorem jzj {h:Heap} {b:Addr} {o:Obj} (e:(h.hide 371).get? b=some o):h.get? b=some o:=by
 by_cases hb:b=371
 ·subst hb;rw [Heap.hide_self] at e;cases e
 ·rwa [Heap.hide_ne _ hb] at e
theorem jr1 {h:Heap} {b:Addr} {o:Obj} {vs:Array Value} (t:h.get? 371=some (tabObj vs)) (e:h.get? b=some o) (n:o.data≠.fields vs):(h.hide 371).get? b=some o:=by
 rw [Heap.hide_ne]
 ·exact e
 ·rintro rfl
  rw [t] at e;cases e
  exact n rfl
theorem jrv {h:Heap} {b:Addr} {m:Str->Option Value} {vs:Array Value} (t:h.get? 371=some (tabObj vs)) (x:h.Ns b m):(h.hide 371).Ns b m:=by
 refine xEEEAA x fun o es ep e d r=>?_
 try clear x
 exact ⟨o,es,ep,jr1 t e (by rw [d];intro q;cases q),d,r⟩
theorem knq {mg mb:Str->Option Value} {h:Heap} {vs:Array Value} (t:h.get? 371=some (tabObj vs)) (T:TopRead qv jdj mg mb h):TopRead qv jdj mg mb (h.hide 371) :=
 ⟨jrv t T.g,jrv t T.b,let ⟨mc,a,b⟩:=T.nolimit;⟨mc,jrv t a,b⟩,T.builtins,T.free⟩
theorem ju7:jav callerA 17:=⟨rfl,rfl,by decide,by decide⟩
theorem kox:looseW qv jdj=jdj:=by kernel_rfl!
theorem walk_ok:vbq qv jdj (XL qv []) YP rowR jgz [] fun f vs=>call f vs:=by
 intro w s₀ s₁ mg mb G Y a o pm cd doc dV kV ho hd hcd hD hmg hgens args vals as hpre hlay hrd hwl hlo
 have T:=G.T
 rw [kox] at T
 obtain rfl:dV=.none:=by
  rcases hD.pos with ⟨_,e⟩ | ⟨n,_⟩
  ·exact e
  ·exact absurd (by kernel_rfl!) n
 obtain rfl:kV=.none:=by
  rcases hD.kw with ⟨_,e⟩ | ⟨n,_⟩
  ·exact e
  ·exact absurd rfl n
 have t371:=Y _ _ (tab_H1 w.params)
 wrow_args hpre hlay hrd hwl hlo
 rename_i ns _ _ _ _ _ _ _ sA vs _ hL _ _ _ hI _ hc _
 have hlen:ns.length≤63:=by omega
 have hKin:(K w.params).In (s₁.heap.hide 371):=K_in Y
 have hLh:(s₁.heap.hide 371).IsList sA vs.toArray:=by
  refine xEAAE hL fun o q1 q2 n q3=>?_
  try clear hL
  exact ⟨o,jr1 t371 q1 (by rw [q3];intro q;cases q),q2,n,q3⟩
 have EX:Ext mg (s₁.heap.hide 371):=by
  refine km3 T.bmain fun bm ob h1 h2 h3 h4 h5 h6=>?_
  refine xEA T.nodigits fun mc h7 h8=>?_
  exact ⟨⟨bm,ob,h1,h2,jr1 t371 h3 (by rw [h6];intro q;cases q),h4,h5,h6⟩,⟨mc,jrv t371 h7,h8⟩⟩
 refine jfv (kh3 (mb:=mb) (hb:=s₁.heap.hide 371) ⟨hKin,knq t371 (topRead_of T)⟩ (fun b o e=>jzj e) EX t371 (Heap.hide_self _ _) ho hd hcd ju7 rfl hLh hI hlen) ?_
 intro v h' tk Lf P
 refine km4 P fun zq162 c0 c1 c2 c3 c4 TB _=>?_
 try clear P
 obtain rfl:=zq162
 have kt:isCodeTable s₁.heap 371:=by
  refine je8 (joz hKin) fun o vs _ _ _ _ _ _ zr14=>?_
  refine krv zr14 fun _ e1 e2 e3 e4 _=>?_
  exact ⟨375,o,vs,jzj e1,e2,e3,e4⟩
 refine ⟨.inl ⟨.bool true,.bool true,[],rfl,raisesW_false allW_false_nil,ReadsW.bool _,postW_of (by rfl) (by wtm_val) (by w_fin),fun _=>⟨List.nodup_nil,fun a ha=>nomatch ha⟩⟩,⟨fun b o e=>?_,fun b o e=>?_⟩,rfl,AllBare.of_eq hgens⟩
 ·by_cases hb:b=371
  ·subst hb
   obtain rfl:o=tabObj #[]:=Option.some.inj (e.symm.trans t371)
   exact .inr (.inl ⟨kt,rfl,#[],_,rfl,TB.trans (by rw [Array.empty_append])⟩)
  ·exact .inl (Lf b o e fun q=>hb (List.mem_singleton.mp q))
 ·by_cases hb:b=371
  ·exact ⟨_,hb▸TB⟩
  ·exact ⟨_,Lf b o e fun q=>hb (List.mem_singleton.mp q)⟩
end Mine.Internal
theorem PySem.Challenge.cw_ix0009_01_holds : PySem.Challenge.rw_ix0009_01.Holds :=
 Mine.Internal.head_G Mine.Internal.walk_ok
