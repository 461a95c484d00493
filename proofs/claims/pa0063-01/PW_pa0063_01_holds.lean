import PyProof.Rows.All
import Wide.All
import OpenK.AllK
import Wide.FinOn
import KE.BitLaws
import Lean
import PySem.Challenge.RW_pa0063_01
set_option Elab.async false
set_option linter.all false
open List (mem_singleton getElem?_eq_getElem length_take append_assoc mem_append getElem?_append_left getD_eq_getElem?_getD size_toArray length_cons map_cons all_eq_true mem_range mem_cons lookup_cons mem_map nil_append mem_cons_of_mem mem_cons_self nodup_cons getElem?_append_right getElem?_eq_none getElem_of_mem getElem?_eq_none_iff drop_of_length_le getElem?_map map_map map_congr_left length_map length_set getElem?_set_self getElem?_set_ne any_eq_false not_mem_nil any_eq_true mem_of_getElem? length_append append_nil map_append nodup_append nodup_nil length_singleton filterMap_cons_none filterMap_cons_some filterMap_map take_add_one foldl_append take_length mem_append_left foldl_cons mem_of_mem_take nodup_range filter_congr mem_filter mem_append_right filter_cons_of_pos filter_cons_of_neg take_append_of_le_length filter_eq_nil_iff filter_append filter_nil range_succ length_filter_le mem_map_of_mem length_range getElem?_range)
open Bool (and_eq_true_iff)
open Option (map_eq_some_iff bind_eq_some_iff)
section
open PySem PySem.W PyProof.Rows
namespace Mine
theorem sJ {α:Type _} {a b:α} (h:some a=some b):a=b:=Option.some.inj h
theorem mS {α:Type _} {a b:α} (h:a∈ [b]):a=b:=mem_singleton.mp h
theorem bT {a b:Nat} (h:Nat.ble a b=true):a≤b:=Nat.le_of_ble_eq_true h
theorem gS {α:Type _} {l:List α} {i:Nat} {a:α} (h:l[i]?=some a):∃h:i<l.length,l[i]=a:=List.getElem?_eq_some_iff.mp h
theorem wB {M:Model} {A:Around} {α β:Type} {m:Sem α} {f:α→Sem β} {Q:β→Shared→Prop} {E:Value→Shared→Prop} {s:Shared} (h:wpAny M A m (fun a s'=>wpAny M A (f a) Q E s') E s):wpAny M A (m>>=f) Q E s:=wpAny_bind h
theorem wP {M:Model} {A:Around} {α:Type} {a:α} {Q:α→Shared→Prop} {E:Value→Shared→Prop} {s:Shared} (h:Q a s):wpAny M A (pure a) Q E s:=wpAny_pure h
end Mine
end
section
set_option tactic.hygienic false
namespace Mine
universe u1 u2 u3 u4 u5 u6 u7 u8 u9 u10 u11 u12
theorem elA {p1 p2 P:Prop} (h:p1∧p2) (k:p1→p2→P):P:=by obtain ⟨h0,h1⟩:=h;exact k h0 h1
theorem elE {α1:Sort u1} {p1:α1→Prop} {P:Prop} (h:∃x1,p1 x1) (k:∀x1,p1 x1→P):P:=by obtain ⟨x1,h1⟩:=h;exact k x1 h1
theorem iC {p1 p2 p3 P:Prop} (h:p1∧p2∧p3) (k:p1→p2→p3→P):P:=by obtain ⟨h0,h1,h2⟩:=h;exact k h0 h1 h2
theorem aUe {α1:Sort u1} {p1:Prop} {p2:α1→Prop} {P:Prop} (h:p1∧∃x1,p2 x1) (k:p1→∀x1,p2 x1→P):P:=by obtain ⟨h0,x1,h2⟩:=h;exact k h0 x1 h2
theorem aJ {α1:Sort u1} {p1 p2:α1→Prop} {P:Prop} (h:∃x1,p1 x1∧p2 x1) (k:∀x1,p1 x1→p2 x1→P):P:=by obtain ⟨x1,h1,h2⟩:=h;exact k x1 h1 h2
theorem yO {α1:Sort u1} {α2:Sort u2} {p1:α1→α2→Prop} {P:Prop} (h:∃x1,∃x2,p1 x1 x2) (k:∀x1,∀x2,p1 x1 x2→P):P:=by obtain ⟨x1,x2,h2⟩:=h;exact k x1 x2 h2
theorem gW {p1 p2 p3 p4 P:Prop} (h:p1∧p2∧p3∧p4) (k:p1→p2→p3→p4→P):P:=by obtain ⟨h0,h1,h2,h3⟩:=h;exact k h0 h1 h2 h3
theorem kG {α1:Sort u1} {p1:Prop} {p2 p3:α1→Prop} {P:Prop} (h:p1∧∃x1,p2 x1∧p3 x1) (k:p1→∀x1,p2 x1→p3 x1→P):P:=by obtain ⟨h0,x1,h2,h3⟩:=h;exact k h0 x1 h2 h3
theorem bG {α1:Sort u1} {p1 p2 p3:α1→Prop} {P:Prop} (h:∃x1,p1 x1∧p2 x1∧p3 x1) (k:∀x1,p1 x1→p2 x1→p3 x1→P):P:=by obtain ⟨x1,h1,h2,h3⟩:=h;exact k x1 h1 h2 h3
theorem cJ {α1:Sort u1} {α2:Sort u2} {p1 p2:α1→α2→Prop} {P:Prop} (h:∃x1,∃x2,p1 x1 x2∧p2 x1 x2) (k:∀x1,∀x2,p1 x1 x2→p2 x1 x2→P):P:=by obtain ⟨x1,x2,h2,h3⟩:=h;exact k x1 x2 h2 h3
theorem aFc {p1 p2 p3 p4 p5 P:Prop} (h:p1∧p2∧p3∧p4∧p5) (k:p1→p2→p3→p4→p5→P):P:=by obtain ⟨h0,h1,h2,h3,h4⟩:=h;exact k h0 h1 h2 h3 h4
theorem aQg {α1:Sort u1} {p1 p2:Prop} {p3 p4:α1→Prop} {P:Prop} (h:p1∧p2∧∃x1,p3 x1∧p4 x1) (k:p1→p2→∀x1,p3 x1→p4 x1→P):P:=by obtain ⟨h0,h1,x1,h3,h4⟩:=h;exact k h0 h1 x1 h3 h4
theorem oA {α1:Sort u1} {p1:Prop} {p2 p3 p4:α1→Prop} {P:Prop} (h:p1∧∃x1,p2 x1∧p3 x1∧p4 x1) (k:p1→∀x1,p2 x1→p3 x1→p4 x1→P):P:=by obtain ⟨h0,x1,h2,h3,h4⟩:=h;exact k h0 x1 h2 h3 h4
theorem uA {α1:Sort u1} {p1 p2 p3 p4:α1→Prop} {P:Prop} (h:∃x1,p1 x1∧p2 x1∧p3 x1∧p4 x1) (k:∀x1,p1 x1→p2 x1→p3 x1→p4 x1→P):P:=by obtain ⟨x1,h1,h2,h3,h4⟩:=h;exact k x1 h1 h2 h3 h4
theorem fJ {α1:Sort u1} {α2:Sort u2} {p1 p2:α1→Prop} {p3:α1→α2→Prop} {P:Prop} (h:∃x1,p1 x1∧p2 x1∧∃x2,p3 x1 x2) (k:∀x1,p1 x1→p2 x1→∀x2,p3 x1 x2→P):P:=by obtain ⟨x1,h1,h2,x2,h4⟩:=h;exact k x1 h1 h2 x2 h4
theorem cD {α1:Sort u1} {α2:Sort u2} {p1 p2 p3:α1→α2→Prop} {P:Prop} (h:∃x1,∃x2,p1 x1 x2∧p2 x1 x2∧p3 x1 x2) (k:∀x1,∀x2,p1 x1 x2→p2 x1 x2→p3 x1 x2→P):P:=by obtain ⟨x1,x2,h2,h3,h4⟩:=h;exact k x1 x2 h2 h3 h4
theorem iD {α1:Sort u1} {α2:Sort u2} {α3:Sort u3} {p1 p2:α1→α2→α3→Prop} {P:Prop} (h:∃x1,∃x2,∃x3,p1 x1 x2 x3∧p2 x1 x2 x3) (k:∀x1,∀x2,∀x3,p1 x1 x2 x3→p2 x1 x2 x3→P):P:=by obtain ⟨x1,x2,x3,h3,h4⟩:=h;exact k x1 x2 x3 h3 h4
theorem aKd {p1 p2 p3 p4 p5 p6 P:Prop} (h:p1∧p2∧p3∧p4∧p5∧p6) (k:p1→p2→p3→p4→p5→p6→P):P:=by obtain ⟨h0,h1,h2,h3,h4,h5⟩:=h;exact k h0 h1 h2 h3 h4 h5
theorem aAz {α1:Sort u1} {α2:Sort u2} {p1 p2:Prop} {p3 p4:α1→α2→Prop} {P:Prop} (h:p1∧p2∧∃x1,∃x2,p3 x1 x2∧p4 x1 x2) (k:p1→p2→∀x1,∀x2,p3 x1 x2→p4 x1 x2→P):P:=by obtain ⟨h0,h1,x1,x2,h4,h5⟩:=h;exact k h0 h1 x1 x2 h4 h5
theorem aBa {α1:Sort u1} {α2:Sort u2} {α3:Sort u3} {p1:Prop} {p2 p3:α1→α2→α3→Prop} {P:Prop} (h:p1∧∃x1,∃x2,∃x3,p2 x1 x2 x3∧p3 x1 x2 x3) (k:p1→∀x1,∀x2,∀x3,p2 x1 x2 x3→p3 x1 x2 x3→P):P:=by obtain ⟨h0,x1,x2,x3,h4,h5⟩:=h;exact k h0 x1 x2 x3 h4 h5
theorem mX {α1:Sort u1} {p1 p2 p3 p4 p5:α1→Prop} {P:Prop} (h:∃x1,p1 x1∧p2 x1∧p3 x1∧p4 x1∧p5 x1) (k:∀x1,p1 x1→p2 x1→p3 x1→p4 x1→p5 x1→P):P:=by obtain ⟨x1,h1,h2,h3,h4,h5⟩:=h;exact k x1 h1 h2 h3 h4 h5
theorem aBb {α1:Sort u1} {α2:Sort u2} {p1 p2:α1→Prop} {p3 p4:α1→α2→Prop} {P:Prop} (h:∃x1,p1 x1∧p2 x1∧∃x2,p3 x1 x2∧p4 x1 x2) (k:∀x1,p1 x1→p2 x1→∀x2,p3 x1 x2→p4 x1 x2→P):P:=by obtain ⟨x1,h1,h2,x2,h4,h5⟩:=h;exact k x1 h1 h2 x2 h4 h5
theorem mY {α1:Sort u1} {α2:Sort u2} {p1:α1→Prop} {p2 p3 p4:α1→α2→Prop} {P:Prop} (h:∃x1,p1 x1∧∃x2,p2 x1 x2∧p3 x1 x2∧p4 x1 x2) (k:∀x1,p1 x1→∀x2,p2 x1 x2→p3 x1 x2→p4 x1 x2→P):P:=by obtain ⟨x1,h1,x2,h3,h4,h5⟩:=h;exact k x1 h1 x2 h3 h4 h5
theorem aKe {α1:Sort u1} {α2:Sort u2} {α3:Sort u3} {α4:Sort u4} {p1:α1→Prop} {p2:α1→α2→α3→α4→Prop} {P:Prop} (h:∃x1,p1 x1∧∃x2,∃x3,∃x4,p2 x1 x2 x3 x4) (k:∀x1,p1 x1→∀x2,∀x3,∀x4,p2 x1 x2 x3 x4→P):P:=by obtain ⟨x1,h1,x2,x3,x4,h5⟩:=h;exact k x1 h1 x2 x3 x4 h5
theorem bL {α1:Sort u1} {α2:Sort u2} {p1 p2 p3 p4:α1→α2→Prop} {P:Prop} (h:∃x1,∃x2,p1 x1 x2∧p2 x1 x2∧p3 x1 x2∧p4 x1 x2) (k:∀x1,∀x2,p1 x1 x2→p2 x1 x2→p3 x1 x2→p4 x1 x2→P):P:=by obtain ⟨x1,x2,h2,h3,h4,h5⟩:=h;exact k x1 x2 h2 h3 h4 h5
theorem mZ {α1:Sort u1} {α2:Sort u2} {α3:Sort u3} {p1 p2 p3:α1→α2→α3→Prop} {P:Prop} (h:∃x1,∃x2,∃x3,p1 x1 x2 x3∧p2 x1 x2 x3∧p3 x1 x2 x3) (k:∀x1,∀x2,∀x3,p1 x1 x2 x3→p2 x1 x2 x3→p3 x1 x2 x3→P):P:=by obtain ⟨x1,x2,x3,h3,h4,h5⟩:=h;exact k x1 x2 x3 h3 h4 h5
theorem aBc {α1:Sort u1} {α2:Sort u2} {α3:Sort u3} {α4:Sort u4} {p1 p2:α1→α2→α3→α4→Prop} {P:Prop} (h:∃x1,∃x2,∃x3,∃x4,p1 x1 x2 x3 x4∧p2 x1 x2 x3 x4) (k:∀x1,∀x2,∀x3,∀x4,p1 x1 x2 x3 x4→p2 x1 x2 x3 x4→P):P:=by obtain ⟨x1,x2,x3,x4,h4,h5⟩:=h;exact k x1 x2 x3 x4 h4 h5
theorem aKf {α1:Sort u1} {α2:Sort u2} {α3:Sort u3} {α4:Sort u4} {α5:Sort u5} {p1:α1→α2→α3→α4→α5→Prop} {P:Prop} (h:∃x1,∃x2,∃x3,∃x4,∃x5,p1 x1 x2 x3 x4 x5) (k:∀x1,∀x2,∀x3,∀x4,∀x5,p1 x1 x2 x3 x4 x5→P):P:=by obtain ⟨x1,x2,x3,x4,x5,h5⟩:=h;exact k x1 x2 x3 x4 x5 h5
theorem aFd {p1 p2 p3 p4 p5 p6 p7 P:Prop} (h:p1∧p2∧p3∧p4∧p5∧p6∧p7) (k:p1→p2→p3→p4→p5→p6→p7→P):P:=by obtain ⟨h0,h1,h2,h3,h4,h5,h6⟩:=h;exact k h0 h1 h2 h3 h4 h5 h6
theorem eT {α1:Sort u1} {p1 p2 p3 p4 p5 p6:α1→Prop} {P:Prop} (h:∃x1,p1 x1∧p2 x1∧p3 x1∧p4 x1∧p5 x1∧p6 x1) (k:∀x1,p1 x1→p2 x1→p3 x1→p4 x1→p5 x1→p6 x1→P):P:=by obtain ⟨x1,h1,h2,h3,h4,h5,h6⟩:=h;exact k x1 h1 h2 h3 h4 h5 h6
theorem aFe {α1:Sort u1} {α2:Sort u2} {p1 p2 p3:α1→Prop} {p4 p5:α1→α2→Prop} {P:Prop} (h:∃x1,p1 x1∧p2 x1∧p3 x1∧∃x2,p4 x1 x2∧p5 x1 x2) (k:∀x1,p1 x1→p2 x1→p3 x1→∀x2,p4 x1 x2→p5 x1 x2→P):P:=by obtain ⟨x1,h1,h2,h3,x2,h5,h6⟩:=h;exact k x1 h1 h2 h3 x2 h5 h6
theorem aFf {α1:Sort u1} {α2:Sort u2} {α3:Sort u3} {p1 p2:α1→Prop} {p3 p4:α1→α2→α3→Prop} {P:Prop} (h:∃x1,p1 x1∧p2 x1∧∃x2,∃x3,p3 x1 x2 x3∧p4 x1 x2 x3) (k:∀x1,p1 x1→p2 x1→∀x2,∀x3,p3 x1 x2 x3→p4 x1 x2 x3→P):P:=by obtain ⟨x1,h1,h2,x2,x3,h5,h6⟩:=h;exact k x1 h1 h2 x2 x3 h5 h6
theorem jF {α1:Sort u1} {α2:Sort u2} {p1 p2 p3 p4 p5:α1→α2→Prop} {P:Prop} (h:∃x1,∃x2,p1 x1 x2∧p2 x1 x2∧p3 x1 x2∧p4 x1 x2∧p5 x1 x2) (k:∀x1,∀x2,p1 x1 x2→p2 x1 x2→p3 x1 x2→p4 x1 x2→p5 x1 x2→P):P:=by obtain ⟨x1,x2,h2,h3,h4,h5,h6⟩:=h;exact k x1 x2 h2 h3 h4 h5 h6
theorem nA {α1:Sort u1} {α2:Sort u2} {α3:Sort u3} {p1 p2 p3 p4:α1→α2→α3→Prop} {P:Prop} (h:∃x1,∃x2,∃x3,p1 x1 x2 x3∧p2 x1 x2 x3∧p3 x1 x2 x3∧p4 x1 x2 x3) (k:∀x1,∀x2,∀x3,p1 x1 x2 x3→p2 x1 x2 x3→p3 x1 x2 x3→p4 x1 x2 x3→P):P:=by obtain ⟨x1,x2,x3,h3,h4,h5,h6⟩:=h;exact k x1 x2 x3 h3 h4 h5 h6
theorem aFg {α1:Sort u1} {α2:Sort u2} {α3:Sort u3} {α4:Sort u4} {p1 p2 p3:α1→α2→α3→α4→Prop} {P:Prop} (h:∃x1,∃x2,∃x3,∃x4,p1 x1 x2 x3 x4∧p2 x1 x2 x3 x4∧p3 x1 x2 x3 x4) (k:∀x1,∀x2,∀x3,∀x4,p1 x1 x2 x3 x4→p2 x1 x2 x3 x4→p3 x1 x2 x3 x4→P):P:=by obtain ⟨x1,x2,x3,x4,h4,h5,h6⟩:=h;exact k x1 x2 x3 x4 h4 h5 h6
theorem aDd {p1 p2 p3 p4 p5 p6 p7 p8 P:Prop} (h:p1∧p2∧p3∧p4∧p5∧p6∧p7∧p8) (k:p1→p2→p3→p4→p5→p6→p7→p8→P):P:=by obtain ⟨h0,h1,h2,h3,h4,h5,h6,h7⟩:=h;exact k h0 h1 h2 h3 h4 h5 h6 h7
theorem sT {α1:Sort u1} {α2:Sort u2} {α3:Sort u3} {p1:Prop} {p2 p3 p4 p5:α1→α2→α3→Prop} {P:Prop} (h:p1∧∃x1,∃x2,∃x3,p2 x1 x2 x3∧p3 x1 x2 x3∧p4 x1 x2 x3∧p5 x1 x2 x3) (k:p1→∀x1,∀x2,∀x3,p2 x1 x2 x3→p3 x1 x2 x3→p4 x1 x2 x3→p5 x1 x2 x3→P):P:=by obtain ⟨h0,x1,x2,x3,h4,h5,h6,h7⟩:=h;exact k h0 x1 x2 x3 h4 h5 h6 h7
theorem fF {α1:Sort u1} {α2:Sort u2} {α3:Sort u3} {p1 p2 p3:α1→Prop} {p4 p5:α1→α2→α3→Prop} {P:Prop} (h:∃x1,p1 x1∧p2 x1∧p3 x1∧∃x2,∃x3,p4 x1 x2 x3∧p5 x1 x2 x3) (k:∀x1,p1 x1→p2 x1→p3 x1→∀x2,∀x3,p4 x1 x2 x3→p5 x1 x2 x3→P):P:=by obtain ⟨x1,h1,h2,h3,x2,x3,h6,h7⟩:=h;exact k x1 h1 h2 h3 x2 x3 h6 h7
theorem lH {α1:Sort u1} {α2:Sort u2} {p1 p2 p3 p4 p5 p6:α1→α2→Prop} {P:Prop} (h:∃x1,∃x2,p1 x1 x2∧p2 x1 x2∧p3 x1 x2∧p4 x1 x2∧p5 x1 x2∧p6 x1 x2) (k:∀x1,∀x2,p1 x1 x2→p2 x1 x2→p3 x1 x2→p4 x1 x2→p5 x1 x2→p6 x1 x2→P):P:=by obtain ⟨x1,x2,h2,h3,h4,h5,h6,h7⟩:=h;exact k x1 x2 h2 h3 h4 h5 h6 h7
theorem hY {α1:Sort u1} {α2:Sort u2} {α3:Sort u3} {p1 p2 p3 p4 p5:α1→α2→α3→Prop} {P:Prop} (h:∃x1,∃x2,∃x3,p1 x1 x2 x3∧p2 x1 x2 x3∧p3 x1 x2 x3∧p4 x1 x2 x3∧p5 x1 x2 x3) (k:∀x1,∀x2,∀x3,p1 x1 x2 x3→p2 x1 x2 x3→p3 x1 x2 x3→p4 x1 x2 x3→p5 x1 x2 x3→P):P:=by obtain ⟨x1,x2,x3,h3,h4,h5,h6,h7⟩:=h;exact k x1 x2 x3 h3 h4 h5 h6 h7
theorem aDe {α1:Sort u1} {α2:Sort u2} {α3:Sort u3} {α4:Sort u4} {α5:Sort u5} {p1 p2 p3:α1→α2→α3→α4→α5→Prop} {P:Prop} (h:∃x1,∃x2,∃x3,∃x4,∃x5,p1 x1 x2 x3 x4 x5∧p2 x1 x2 x3 x4 x5∧p3 x1 x2 x3 x4 x5) (k:∀x1,∀x2,∀x3,∀x4,∀x5,p1 x1 x2 x3 x4 x5→p2 x1 x2 x3 x4 x5→p3 x1 x2 x3 x4 x5→P):P:=by obtain ⟨x1,x2,x3,x4,x5,h5,h6,h7⟩:=h;exact k x1 x2 x3 x4 x5 h5 h6 h7
theorem jG {α1:Sort u1} {α2:Sort u2} {α3:Sort u3} {α4:Sort u4} {α5:Sort u5} {α6:Sort u6} {p1 p2:α1→α2→α3→α4→α5→α6→Prop} {P:Prop} (h:∃x1,∃x2,∃x3,∃x4,∃x5,∃x6,p1 x1 x2 x3 x4 x5 x6∧p2 x1 x2 x3 x4 x5 x6) (k:∀x1,∀x2,∀x3,∀x4,∀x5,∀x6,p1 x1 x2 x3 x4 x5 x6→p2 x1 x2 x3 x4 x5 x6→P):P:=by obtain ⟨x1,x2,x3,x4,x5,x6,h6,h7⟩:=h;exact k x1 x2 x3 x4 x5 x6 h6 h7
theorem yP {α1:Sort u1} {α2:Sort u2} {α3:Sort u3} {p1:α1→Prop} {p2 p3 p4 p5 p6:α1→α2→α3→Prop} {P:Prop} (h:∃x1,p1 x1∧∃x2,∃x3,p2 x1 x2 x3∧p3 x1 x2 x3∧p4 x1 x2 x3∧p5 x1 x2 x3∧p6 x1 x2 x3) (k:∀x1,p1 x1→∀x2,∀x3,p2 x1 x2 x3→p3 x1 x2 x3→p4 x1 x2 x3→p5 x1 x2 x3→p6 x1 x2 x3→P):P:=by obtain ⟨x1,h1,x2,x3,h4,h5,h6,h7,h8⟩:=h;exact k x1 h1 x2 x3 h4 h5 h6 h7 h8
theorem iE {α1:Sort u1} {α2:Sort u2} {α3:Sort u3} {p1 p2 p3 p4:α1→α2→Prop} {p5 p6:α1→α2→α3→Prop} {P:Prop} (h:∃x1,∃x2,p1 x1 x2∧p2 x1 x2∧p3 x1 x2∧p4 x1 x2∧∃x3,p5 x1 x2 x3∧p6 x1 x2 x3) (k:∀x1,∀x2,p1 x1 x2→p2 x1 x2→p3 x1 x2→p4 x1 x2→∀x3,p5 x1 x2 x3→p6 x1 x2 x3→P):P:=by obtain ⟨x1,x2,h2,h3,h4,h5,x3,h7,h8⟩:=h;exact k x1 x2 h2 h3 h4 h5 x3 h7 h8
theorem iF {α1:Sort u1} {α2:Sort u2} {α3:Sort u3} {p1 p2 p3 p4 p5 p6:α1→α2→α3→Prop} {P:Prop} (h:∃x1,∃x2,∃x3,p1 x1 x2 x3∧p2 x1 x2 x3∧p3 x1 x2 x3∧p4 x1 x2 x3∧p5 x1 x2 x3∧p6 x1 x2 x3) (k:∀x1,∀x2,∀x3,p1 x1 x2 x3→p2 x1 x2 x3→p3 x1 x2 x3→p4 x1 x2 x3→p5 x1 x2 x3→p6 x1 x2 x3→P):P:=by obtain ⟨x1,x2,x3,h3,h4,h5,h6,h7,h8⟩:=h;exact k x1 x2 x3 h3 h4 h5 h6 h7 h8
theorem qE {α1:Sort u1} {α2:Sort u2} {α3:Sort u3} {α4:Sort u4} {p1 p2 p3 p4 p5:α1→α2→α3→α4→Prop} {P:Prop} (h:∃x1,∃x2,∃x3,∃x4,p1 x1 x2 x3 x4∧p2 x1 x2 x3 x4∧p3 x1 x2 x3 x4∧p4 x1 x2 x3 x4∧p5 x1 x2 x3 x4) (k:∀x1,∀x2,∀x3,∀x4,p1 x1 x2 x3 x4→p2 x1 x2 x3 x4→p3 x1 x2 x3 x4→p4 x1 x2 x3 x4→p5 x1 x2 x3 x4→P):P:=by obtain ⟨x1,x2,x3,x4,h4,h5,h6,h7,h8⟩:=h;exact k x1 x2 x3 x4 h4 h5 h6 h7 h8
theorem iT {α1:Sort u1} {α2:Sort u2} {α3:Sort u3} {p1 p2 p3 p4 p5 p6 p7:α1→α2→α3→Prop} {P:Prop} (h:∃x1,∃x2,∃x3,p1 x1 x2 x3∧p2 x1 x2 x3∧p3 x1 x2 x3∧p4 x1 x2 x3∧p5 x1 x2 x3∧p6 x1 x2 x3∧p7 x1 x2 x3) (k:∀x1,∀x2,∀x3,p1 x1 x2 x3→p2 x1 x2 x3→p3 x1 x2 x3→p4 x1 x2 x3→p5 x1 x2 x3→p6 x1 x2 x3→p7 x1 x2 x3→P):P:=by obtain ⟨x1,x2,x3,h3,h4,h5,h6,h7,h8,h9⟩:=h;exact k x1 x2 x3 h3 h4 h5 h6 h7 h8 h9
theorem lZ {α1:Sort u1} {α2:Sort u2} {α3:Sort u3} {α4:Sort u4} {α5:Sort u5} {p1 p2:Prop} {p3 p4 p5 p6 p7:α1→α2→α3→α4→α5→Prop} {P:Prop} (h:p1∧p2∧∃x1,∃x2,∃x3,∃x4,∃x5,p3 x1 x2 x3 x4 x5∧p4 x1 x2 x3 x4 x5∧p5 x1 x2 x3 x4 x5∧p6 x1 x2 x3 x4 x5∧p7 x1 x2 x3 x4 x5) (k:p1→p2→∀x1,∀x2,∀x3,∀x4,∀x5,p3 x1 x2 x3 x4 x5→p4 x1 x2 x3 x4 x5→p5 x1 x2 x3 x4 x5→p6 x1 x2 x3 x4 x5→p7 x1 x2 x3 x4 x5→P):P:=by obtain ⟨h0,h1,x1,x2,x3,x4,x5,h7,h8,h9,h10,h11⟩:=h;exact k h0 h1 x1 x2 x3 x4 x5 h7 h8 h9 h10 h11
theorem kL {α1:Sort u1} {α2:Sort u2} {α3:Sort u3} {α4:Sort u4} {α5:Sort u5} {p1 p2 p3 p4 p5 p6 p7 p8:α1→α2→α3→α4→α5→Prop} {P:Prop} (h:∃x1,∃x2,∃x3,∃x4,∃x5,p1 x1 x2 x3 x4 x5∧p2 x1 x2 x3 x4 x5∧p3 x1 x2 x3 x4 x5∧p4 x1 x2 x3 x4 x5∧p5 x1 x2 x3 x4 x5∧p6 x1 x2 x3 x4 x5∧p7 x1 x2 x3 x4 x5∧p8 x1 x2 x3 x4 x5) (k:∀x1,∀x2,∀x3,∀x4,∀x5,p1 x1 x2 x3 x4 x5→p2 x1 x2 x3 x4 x5→p3 x1 x2 x3 x4 x5→p4 x1 x2 x3 x4 x5→p5 x1 x2 x3 x4 x5→p6 x1 x2 x3 x4 x5→p7 x1 x2 x3 x4 x5→p8 x1 x2 x3 x4 x5→P):P:=by obtain ⟨x1,x2,x3,x4,x5,h5,h6,h7,h8,h9,h10,h11,h12⟩:=h;exact k x1 x2 x3 x4 x5 h5 h6 h7 h8 h9 h10 h11 h12
theorem qF {α1:Sort u1} {α2:Sort u2} {α3:Sort u3} {α4:Sort u4} {α5:Sort u5} {α6:Sort u6} {α7:Sort u7} {α8:Sort u8} {p1 p2 p3 p4 p5:α1→α2→α3→α4→α5→α6→α7→α8→Prop} {P:Prop} (h:∃x1,∃x2,∃x3,∃x4,∃x5,∃x6,∃x7,∃x8,p1 x1 x2 x3 x4 x5 x6 x7 x8∧p2 x1 x2 x3 x4 x5 x6 x7 x8∧p3 x1 x2 x3 x4 x5 x6 x7 x8∧p4 x1 x2 x3 x4 x5 x6 x7 x8∧p5 x1 x2 x3 x4 x5 x6 x7 x8) (k:∀x1,∀x2,∀x3,∀x4,∀x5,∀x6,∀x7,∀x8,p1 x1 x2 x3 x4 x5 x6 x7 x8→p2 x1 x2 x3 x4 x5 x6 x7 x8→p3 x1 x2 x3 x4 x5 x6 x7 x8→p4 x1 x2 x3 x4 x5 x6 x7 x8→p5 x1 x2 x3 x4 x5 x6 x7 x8→P):P:=by obtain ⟨x1,x2,x3,x4,x5,x6,x7,x8,h8,h9,h10,h11,h12⟩:=h;exact k x1 x2 x3 x4 x5 x6 x7 x8 h8 h9 h10 h11 h12
theorem jH {α1:Sort u1} {α2:Sort u2} {α3:Sort u3} {α4:Sort u4} {α5:Sort u5} {p1 p2 p3 p4:α1→α2→α3→Prop} {p5 p6 p7 p8 p9 p10:α1→α2→α3→α4→α5→Prop} {P:Prop} (h:∃x1,∃x2,∃x3,p1 x1 x2 x3∧p2 x1 x2 x3∧p3 x1 x2 x3∧p4 x1 x2 x3∧∃x4,∃x5,p5 x1 x2 x3 x4 x5∧p6 x1 x2 x3 x4 x5∧p7 x1 x2 x3 x4 x5∧p8 x1 x2 x3 x4 x5∧p9 x1 x2 x3 x4 x5∧p10 x1 x2 x3 x4 x5) (k:∀x1,∀x2,∀x3,p1 x1 x2 x3→p2 x1 x2 x3→p3 x1 x2 x3→p4 x1 x2 x3→∀x4,∀x5,p5 x1 x2 x3 x4 x5→p6 x1 x2 x3 x4 x5→p7 x1 x2 x3 x4 x5→p8 x1 x2 x3 x4 x5→p9 x1 x2 x3 x4 x5→p10 x1 x2 x3 x4 x5→P):P:=by obtain ⟨x1,x2,x3,h3,h4,h5,h6,x4,x5,h9,h10,h11,h12,h13,h14⟩:=h;exact k x1 x2 x3 h3 h4 h5 h6 x4 x5 h9 h10 h11 h12 h13 h14
theorem fB {α1:Sort u1} {α2:Sort u2} {α3:Sort u3} {α4:Sort u4} {α5:Sort u5} {α6:Sort u6} {p1 p2 p3 p4 p5 p6 p7 p8 p9 p10 p11:α1→α2→α3→α4→α5→α6→Prop} {P:Prop} (h:∃x1,∃x2,∃x3,∃x4,∃x5,∃x6,p1 x1 x2 x3 x4 x5 x6∧p2 x1 x2 x3 x4 x5 x6∧p3 x1 x2 x3 x4 x5 x6∧p4 x1 x2 x3 x4 x5 x6∧p5 x1 x2 x3 x4 x5 x6∧p6 x1 x2 x3 x4 x5 x6∧p7 x1 x2 x3 x4 x5 x6∧p8 x1 x2 x3 x4 x5 x6∧p9 x1 x2 x3 x4 x5 x6∧p10 x1 x2 x3 x4 x5 x6∧p11 x1 x2 x3 x4 x5 x6) (k:∀x1,∀x2,∀x3,∀x4,∀x5,∀x6,p1 x1 x2 x3 x4 x5 x6→p2 x1 x2 x3 x4 x5 x6→p3 x1 x2 x3 x4 x5 x6→p4 x1 x2 x3 x4 x5 x6→p5 x1 x2 x3 x4 x5 x6→p6 x1 x2 x3 x4 x5 x6→p7 x1 x2 x3 x4 x5 x6→p8 x1 x2 x3 x4 x5 x6→p9 x1 x2 x3 x4 x5 x6→p10 x1 x2 x3 x4 x5 x6→p11 x1 x2 x3 x4 x5 x6→P):P:=by obtain ⟨x1,x2,x3,x4,x5,x6,h6,h7,h8,h9,h10,h11,h12,h13,h14,h15,h16⟩:=h;exact k x1 x2 x3 x4 x5 x6 h6 h7 h8 h9 h10 h11 h12 h13 h14 h15 h16
theorem aP {α:Type u1} {a:α} {P:Prop} (h:none=some a):P:=nomatch h
theorem iS {α:Type u1} {a:α} {P:Prop} (h:some a=none):P:=nomatch h
theorem jI {P:Prop} (h:false=true):P:=nomatch h
theorem aRw {P:Prop} (h:true=false):P:=nomatch h
end Mine
end
section
open PySem PySem.W PyProof.Rows
set_option tactic.hygienic false
namespace Mine
theorem aX (h:True:=by rfl):True:=h
theorem dL (h:True:=by intro _;rfl):True:=h
theorem nB (h:True:=by intro _ _;rfl):True:=h
inductive MV where
 | none
 | bool (b:Bool)
 | int (i:Int)
 | bytes (l:List Int)
 | tup (l:List MV)
 | lst (l:List MV)
 | cell (n:Nat)
 | nxt (n:Nat)
 | ty (n:String)
deriving Inhabited
inductive MO where
 | list (l:List MV)
 | inst (c:Nat) (d:Nat)
 | attrs (l:List (Nat×MV))
 | slots (c d:Nat) (l:List (Option MV))
 | dict (ep:Nat) (l:List (Int×MV))
 | set (l:List Int)
 | iter (l:Nat) (i:Nat)
 | dead
deriving Inhabited
structure St where
 r:List (Nat×MV)
 H:List MO
deriving Inhabited
inductive R (α:Type) where
 | ok (a:α)
 | exc (k:Nat)
noncomputable def M (α:Type):Type:=St→Option (R α×St)
namespace M
noncomputable abbrev pure {α:Type} (a:α):M α:=fun σ=>some (.ok a,σ)
noncomputable def bind {α β:Type} (f:M α) (g:α→M β):M β:=fun σ=>match f σ with
 | none=>none
 | some (.exc k,σ')=>some (.exc k,σ')
 | some (.ok a,σ')=>g a σ'
noncomputable def fail {α:Type}:M α:=fun _=>none
noncomputable def lift {α:Type} (o:Option α):M α:=fun σ=>match o with
 | none=>none
 | some a=>some (.ok a,σ)
noncomputable def liftR {α:Type} (o:Option (R α)):M α:=fun σ=>match o with
 | none=>none
 | some a=>some (a,σ)
theorem bind_some {α β:Type} {f:M α} {g:α→M β} {σ σ':St} {r:R β} (h:M.bind f g σ=some (r,σ')):
  (∃k,f σ=some (.exc k,σ')∧r= .exc k)∨(∃a σ₁,f σ=some (.ok a,σ₁)∧g a σ₁=some (r,σ')):=by
 delta M.bind at h
 generalize f σ=o at h ⊢
 rcases o with _|⟨a|k,σ₁⟩
 ·exact aP h
 ·exact .inr ⟨a,σ₁,rfl,h⟩
 ·have q:=sJ h;exact .inl ⟨k,congrArg (fun z=>some (R.exc k,z)) (congrArg Prod.snd q:σ₁=σ'),(congrArg Prod.fst q).symm⟩
theorem lift_some {α:Type} {o:Option α} {σ σ':St} {r:R α} (h:M.lift o σ=some (r,σ')):∃a,o=some a∧r= .ok a∧σ'=σ:=by
 cases o with
 | none=>exact aP h
 | some a=>have q:=sJ h;exact ⟨a,rfl,(congrArg Prod.fst q).symm,(congrArg Prod.snd q).symm⟩
end M
theorem nof {α:Type} {a:α} (e:(none:Option α)=some a):False:=nomatch e
theorem aZ {α β:Type} {a r:α} {s t:β} (e:some (a,s)=some (r,t)):a=r∧s=t:=⟨congrArg Prod.fst (sJ e),congrArg Prod.snd (sJ e)⟩
theorem M.lift_exc {α:Type} {o:Option α} {σ σ':St} {k:Nat} (h:M.lift o σ=some (.exc k,σ')):False:=by
 refine bG (M.lift_some h) fun _ _ q _=>?_;cases q
section
variable {β:Type}
noncomputable def oI (x:MV) (f:Int→Option β):Option β:=match x with| .int i=>f i|_=>none
@[elab_as_elim] theorem yQ {x:MV} {f:Int→Option β} {b:β} (e:oI x f=some b) {P:MV→Prop} (k:∀i,f i=some b→P (.int i)):P x:=by
 cases x <;> first|exact aP e|exact k _ e
noncomputable def oB (x:MV) (f:List Int→Option β):Option β:=match x with| .bytes i=>f i|_=>none
@[elab_as_elim] theorem aRx {x:MV} {f:List Int→Option β} {b:β} (e:oB x f=some b) {P:MV→Prop} (k:∀i,f i=some b→P (.bytes i)):P x:=by
 cases x <;> first|exact aP e|exact k _ e
noncomputable def oL (x:MV) (f:List MV→Option β):Option β:=match x with| .lst i=>f i|_=>none
@[elab_as_elim] theorem aKg {x:MV} {f:List MV→Option β} {b:β} (e:oL x f=some b) {P:MV→Prop} (k:∀i,f i=some b→P (.lst i)):P x:=by
 cases x <;> first|exact aP e|exact k _ e
noncomputable def oT (x:MV) (f:List MV→Option β):Option β:=match x with| .tup i=>f i|_=>none
@[elab_as_elim] theorem aUf {x:MV} {f:List MV→Option β} {b:β} (e:oT x f=some b) {P:MV→Prop} (k:∀i,f i=some b→P (.tup i)):P x:=by
 cases x <;> first|exact aP e|exact k _ e
noncomputable def oC (x:MV) (f:Nat→Option β):Option β:=match x with| .cell i=>f i|_=>none
@[elab_as_elim] theorem kN {x:MV} {f:Nat→Option β} {b:β} (e:oC x f=some b) {P:MV→Prop} (k:∀i,f i=some b→P (.cell i)):P x:=by
 cases x <;> first|exact aP e|exact k _ e
noncomputable def oN (x:MV) (f:Nat→Option β):Option β:=match x with| .nxt i=>f i|_=>none
@[elab_as_elim] theorem aRy {x:MV} {f:Nat→Option β} {b:β} (e:oN x f=some b) {P:MV→Prop} (k:∀i,f i=some b→P (.nxt i)):P x:=by
 cases x <;> first|exact aP e|exact k _ e
noncomputable def oY (x:MV) (f:String→Option β):Option β:=match x with| .ty i=>f i|_=>none
@[elab_as_elim] theorem aUg {x:MV} {f:String→Option β} {b:β} (e:oY x f=some b) {P:MV→Prop} (k:∀i,f i=some b→P (.ty i)):P x:=by
 cases x <;> first|exact aP e|exact k _ e
noncomputable def pL (x:Option MO) (f:List MV→Option β):Option β:=match x with|some (.list a)=>f a|_=>none
theorem qG {x:Option MO} {f:List MV→Option β} {r:β} (e:pL x f=some r) {P:Prop} (k:∀a,x=some (.list a)→f a=some r→P):P:=by
 rcases x with _|x
 ·exact aP e
 ·cases x <;> first|exact aP e|exact k _ rfl e
noncomputable def pD (x:Option MO) (f:Nat→List (Int×MV)→Option β):Option β:=match x with|some (.dict a b)=>f a b|_=>none
theorem wF {x:Option MO} {f:Nat→List (Int×MV)→Option β} {r:β} (e:pD x f=some r) {P:Prop} (k:∀a b,x=some (.dict a b)→f a b=some r→P):P:=by
 rcases x with _|x
 ·exact aP e
 ·cases x <;> first|exact aP e|exact k _ _ rfl e
noncomputable def pS (x:Option MO) (f:List Int→Option β):Option β:=match x with|some (.set a)=>f a|_=>none
theorem aRz {x:Option MO} {f:List Int→Option β} {r:β} (e:pS x f=some r) {P:Prop} (k:∀a,x=some (.set a)→f a=some r→P):P:=by
 rcases x with _|x
 ·exact aP e
 ·cases x <;> first|exact aP e|exact k _ rfl e
noncomputable def pI (x:Option MO) (f:Nat→Nat→Option β):Option β:=match x with|some (.inst a b)=>f a b|_=>none
theorem aQh {x:Option MO} {f:Nat→Nat→Option β} {r:β} (e:pI x f=some r) {P:Prop} (k:∀a b,x=some (.inst a b)→f a b=some r→P):P:=by
 rcases x with _|x
 ·exact aP e
 ·cases x <;> first|exact aP e|exact k _ _ rfl e
noncomputable def pZ (x:Option MO) (f:Nat→Nat→List (Option MV)→Option β):Option β:=match x with|some (.slots a b c)=>f a b c|_=>none
theorem aSa {x:Option MO} {f:Nat→Nat→List (Option MV)→Option β} {r:β} (e:pZ x f=some r) {P:Prop} (k:∀a b c,x=some (.slots a b c)→f a b c=some r→P):P:=by
 rcases x with _|x
 ·exact aP e
 ·cases x <;> first|exact aP e|exact k _ _ _ rfl e
noncomputable def pT (x:Option MO) (f:Nat→Nat→Option β):Option β:=match x with|some (.iter a b)=>f a b|_=>none
theorem aSb {x:Option MO} {f:Nat→Nat→Option β} {r:β} (e:pT x f=some r) {P:Prop} (k:∀a b,x=some (.iter a b)→f a b=some r→P):P:=by
 rcases x with _|x
 ·exact aP e
 ·cases x <;> first|exact aP e|exact k _ _ rfl e
noncomputable def pA (x:Option MO) (f:List (Nat×MV)→Option β):Option β:=match x with|some (.attrs a)=>f a|_=>none
theorem aQi {x:Option MO} {f:List (Nat×MV)→Option β} {r:β} (e:pA x f=some r) {P:Prop} (k:∀a,x=some (.attrs a)→f a=some r→P):P:=by
 rcases x with _|x
 ·exact aP e
 ·cases x <;> first|exact aP e|exact k _ rfl e
noncomputable def l1 (l:List MV) (f:MV→Option β):Option β:=match l with| [a]=>f a|_=>none
@[elab_as_elim] theorem aQj {l:List MV} {f:MV→Option β} {b:β} (e:l1 l f=some b) {P:List MV→Prop} (k:∀x,f x=some b→P [x]):P l:=by
 rcases l with _|⟨x,_|⟨y,l⟩⟩ <;> first|exact aP e|exact k _ e
noncomputable def l2 (l:List MV) (f:MV→MV→Option β):Option β:=match l with| [a,b]=>f a b|_=>none
@[elab_as_elim] theorem aKh {l:List MV} {f:MV→MV→Option β} {b:β} (e:l2 l f=some b) {P:List MV→Prop} (k:∀x y,f x y=some b→P [x,y]):P l:=by
 rcases l with _|⟨x,_|⟨y,_|⟨z,l⟩⟩⟩ <;> first|exact aP e|exact k _ _ e
noncomputable def okO {α:Type} (o:Option (R α×St)) (f:α→St→Option β):Option β:=match o with
 | none=>none
 | some (x,σ)=>(match x with| .ok a=>f a σ| .exc _=>none)
theorem aNp {α:Type} {o:Option (R α×St)} {f:α→St→Option β} {b:β} (e:okO o f=some b) {P:Prop} (k:∀a σ,o=some (.ok a,σ)→f a σ=some b→P):P:=by
 rcases o with _|⟨_|_,_⟩
 ·exact aP e
 ·exact k _ _ rfl e
 ·exact aP e
theorem uC {α:Type} {o:Option (R α×St)} {f:α→St→Option β} {a:α} {σ:St} (h:o=some (.ok a,σ)):okO o f=f a σ:=by rw [h];rfl
theorem dG {c:Prop} {dc:Decidable c} {o:Option β} {b:β} (e:(if c then o else none)=some b) {P:Prop} (k:c→o=some b→P):P:=by
 by_cases q:c
 ·rw [if_pos q] at e;exact k q e
 ·rw [if_neg q] at e;exact aP e
noncomputable def gd {α:Type} (c:Bool) (o:Option α):Option α:=match c with|true=>o|false=>none
theorem aFh {c:Bool} {o:Option β} {r:β} (e:gd c o=some r) {P:Prop} (k:c=true→o=some r→P):P:=by
 cases c with
 | true=>exact k rfl e
 | false=>exact aP e
end
structure Gh where
 W:Addr→Prop
 own:Addr→Prop
 frs:Addr→Prop
 phi:List Addr
noncomputable abbrev bInts (b:Array UInt8):List Int:=KBw.bInts b
noncomputable abbrev qH (a:Addr):Obj:={ cls:= .type "method-wrapper",data:= .fields #[.builtin "list_iterator.__next__",.ref a] }
mutual
inductive aI (G:Gh) (h:Heap):MV→Value→Prop
 | none:aI G h .none .none
 | bool (b:Bool):aI G h (.bool b) (.bool b)
 | int (i:Int) (t:Tok):aI G h (.int i) (.int i t)
 | bytes (b:Array UInt8) (t:Tok):aI G h (.bytes (bInts b)) (.bytes b t)
 | ty (n:String):aI G h (.ty n) (.type n)
 | tup {l:List MV} {vs:List Value} {a:Addr}:h.IsTuple a vs.toArray→¬G.W a→aK G h l vs→aI G h (.tup l) (.ref a)
 | lst {l:List MV} {vs:List Value} {a:Addr}:h.IsList a vs.toArray→¬G.W a→aK G h l vs→aI G h (.lst l) (.ref a)
 | cell {n:Nat} {a:Addr}:G.phi[n]?=some a→aI G h (.cell n) (.ref a)
 | nxt {n:Nat} {a it:Addr}:h.get? a=some (qH it)→¬G.W a→G.phi[n]?=some it→aI G h (.nxt n) (.ref a)
inductive aK (G:Gh) (h:Heap):List MV→List Value→Prop
 | nil:aK G h [] []
 | cons {x:MV} {v:Value} {l:List MV} {vs:List Value}:aI G h x v→aK G h l vs→aK G h (x::l) (v::vs)
end
section
variable {G:Gh} {h:Heap} {v:Value}
@[elab_as_elim] theorem aK.cons_e {x:MV} {l:List MV} {vs:List Value} (r:aK G h (x::l) vs) {Q:List Value→Prop} (k:∀v vs',aI G h x v→aK G h l vs'→Q (v::vs')):Q vs:=by
 cases r with|cons a b=>exact k _ _ a b
@[elab_as_elim] theorem aK.nil_e {vs:List Value} (r:aK G h [] vs) {Q:List Value→Prop} (k:Q []):Q vs:=by cases r;exact k
@[elab_as_elim] theorem aI.int_e {i:Int} (r:aI G h (.int i) v) {Q:Value→Prop} (k:∀t,Q (.int i t)):Q v:=by cases r;exact k _
@[elab_as_elim] theorem aI.bool_e {b:Bool} (r:aI G h (.bool b) v) {Q:Value→Prop} (k:Q (.bool b)):Q v:=by cases r;exact k
@[elab_as_elim] theorem aI.none_e (r:aI G h .none v) {Q:Value→Prop} (k:Q .none):Q v:=by cases r;exact k
@[elab_as_elim] theorem aI.ty_e {n:String} (r:aI G h (.ty n) v) {Q:Value→Prop} (k:Q (.type n)):Q v:=by cases r;exact k
@[elab_as_elim] theorem aI.bytes_e {l:List Int} (r:aI G h (.bytes l) v) {Q:List Int→Value→Prop} (k:∀b t,Q (bInts b) (.bytes b t)):Q l v:=by cases r;exact k _ _
@[elab_as_elim] theorem aI.lst_e {l:List MV} (r:aI G h (.lst l) v) {Q:Value→Prop} (k:∀vs a,h.IsList a (List.toArray vs)→¬G.W a→aK G h l vs→Q (.ref a)):Q v:=by cases r with|lst a b c=>exact k _ _ a b c
@[elab_as_elim] theorem aI.tup_e {l:List MV} (r:aI G h (.tup l) v) {Q:Value→Prop} (k:∀vs a,h.IsTuple a (List.toArray vs)→¬G.W a→aK G h l vs→Q (.ref a)):Q v:=by cases r with|tup a b c=>exact k _ _ a b c
@[elab_as_elim] theorem aI.cell_e {n:Nat} (r:aI G h (.cell n) v) {Q:Value→Prop} (k:∀a,G.phi[n]?=some a→Q (.ref a)):Q v:=by cases r with|cell a=>exact k _ a
end
section
variable {β:Type} {G:Gh} {h:Heap} {x:MV} {v:Value} {r:β}
@[elab_as_elim] theorem kO {f:Int→Option β} (e:oI x f=some r) (q:aI G h x v) {P:MV→Value→Prop} (k:∀i t,f i=some r→P (.int i) (.int i t)):P x v:=by
 revert q;exact yQ e fun i e q=>aI.int_e q fun t=>k i t e
@[elab_as_elim] theorem aSc {f:List Int→Option β} (e:oB x f=some r) (q:aI G h x v) {P:MV→Value→Prop} (k:∀b t,f (bInts b)=some r→P (.bytes (bInts b)) (.bytes b t)):P x v:=by
 revert q;refine aRx e fun i e q=>?_;revert e;exact aI.bytes_e q (Q:=fun i v=>f i=some r→P (.bytes i) v) fun b t e=>k b t e
@[elab_as_elim] theorem aKi {f:List MV→Option β} (e:oL x f=some r) (q:aI G h x v) {P:MV→Value→Prop} (k:∀l vs a,h.IsList a (List.toArray vs)→¬G.W a→aK G h l vs→f l=some r→P (.lst l) (.ref a)):P x v:=by
 revert q;exact aKg e fun i e q=>aI.lst_e q fun vs a h1 h2 h3=>k i vs a h1 h2 h3 e
@[elab_as_elim] theorem aUh {f:List MV→Option β} (e:oT x f=some r) (q:aI G h x v) {P:MV→Value→Prop} (k:∀l vs a,h.IsTuple a (List.toArray vs)→¬G.W a→aK G h l vs→f l=some r→P (.tup l) (.ref a)):P x v:=by
 revert q;exact aUf e fun i e q=>aI.tup_e q fun vs a h1 h2 h3=>k i vs a h1 h2 h3 e
@[elab_as_elim] theorem aUi {f:Nat→Option β} (e:oC x f=some r) (q:aI G h x v) {P:MV→Value→Prop} (k:∀n a,G.phi[n]?=some a→f n=some r→P (.cell n) (.ref a)):P x v:=by
 revert q;exact kN e fun i e q=>aI.cell_e q fun a ha=>k i a ha e
@[elab_as_elim] theorem aQk {f:String→Option β} (e:oY x f=some r) (q:aI G h x v) {P:MV→Value→Prop} (k:∀n,f n=some r→P (.ty n) (.type n)):P x v:=by
 revert q;exact aUg e fun i e q=>aI.ty_e q (k i e)
end
theorem aK.li {G:Gh} {h:Heap} {P:List MV→List Value→Prop} (h0:P [] []) (h1:∀{x v l vs},aI G h x v→aK G h l vs→P l vs→P (x::l) (v::vs)) {l:List MV} {vs:List Value} (r:aK G h l vs):P l vs:=
 aK.rec (motive_1:=fun _ _ _=>True) (motive_2:=fun l vs _=>P l vs) trivial (fun _=>trivial) (fun _ _=>trivial) (fun _ _=>trivial) (fun _=>trivial) (fun _ _ _ _=>trivial) (fun _ _ _ _=>trivial) (fun _=>trivial) (fun _ _ _=>trivial) h0 (fun a b _ i=>h1 a b i) r
theorem aK.length {G:Gh} {h:Heap} {l:List MV} {vs:List Value} (r:aK G h l vs):l.length=vs.length:=
 r.li (P:=fun l vs=>l.length=vs.length) rfl fun _ _ e=>congrArg (· +1) e
theorem aK.get {G:Gh} {h:Heap} {l:List MV} {vs:List Value} (r:aK G h l vs):∀{i:Nat} {x:MV},l[i]?=some x→∃v,vs[i]?=some v∧aI G h x v:=
 r.li (P:=fun l vs=>∀{i:Nat} {x:MV},l[i]?=some x→∃v,vs[i]?=some v∧aI G h x v) (fun {i x} e=>by exact aP e) fun {x v l vs} hx _ ih i y e=>by
  cases i with
  | zero=>exact ⟨v,rfl,sJ e ▸ hx⟩
  | succ i=>exact ih (i:=i) e
theorem aK.get' {G:Gh} {h:Heap} {l:List MV} {vs:List Value} (r:aK G h l vs) {i:Nat} {v:Value} (e:vs[i]?=some v):∃x,l[i]?=some x∧aI G h x v:=by
 have lt:i < l.length:=by rw [r.length];exact (gS e).1
 refine aJ (r.get (getElem?_eq_getElem lt)) fun w h1 h2=>?_
 rw [e] at h1;rw [sJ h1];exact ⟨_,getElem?_eq_getElem lt,h2⟩
theorem aK.map1 {G G':Gh} {h h':Heap} (m:∀y v,aI G h y v→aI G' h' y v) {l:List MV} {vs:List Value} (r:aK G h l vs):aK G' h' l vs:=
 r.li (P:=fun l vs=>aK G' h' l vs) .nil fun hx _ t=> .cons (m _ _ hx) t
theorem aK.append {G:Gh} {h:Heap} {l:List MV} {vs:List Value} {l':List MV} {vs':List Value} (r:aK G h l vs) (y:aK G h l' vs'):aK G h (l++l') (vs++vs'):=
 r.li (P:=fun l vs=>aK G h (l++l') (vs++vs')) y fun hx _ t=> .cons hx t
theorem aK.mk' {G:Gh} {h:Heap} {l:List MV}:∀{vs:List Value},l.length=vs.length→(∀(i:Nat) x v,l[i]?=some x→vs[i]?=some v→aI G h x v)→aK G h l vs:=by
 induction l with
 | nil=>intro vs e _;cases vs with
  | nil=>exact .nil
  | cons=>exact absurd e.symm (Nat.succ_ne_zero _)
 | cons x l ih=>intro vs e f;cases vs with
  | nil=>exact absurd e (Nat.succ_ne_zero _)
  | cons v vs=>exact .cons (f 0 x v rfl rfl) (ih (Nat.succ.inj e) fun i=>f (i+1))
theorem aK.take {G:Gh} {h:Heap} {l:List MV} {vs:List Value} (n:Nat) (r:aK G h l vs):aK G h (l.take n) (vs.take n):=by
 refine .mk' (by rw [length_take,length_take,r.length]) fun i x v a b=>?_
 rw [List.getElem?_take] at a b
 by_cases q:i < n
 ·rw [if_pos q] at a b;refine aJ (r.get a) fun w h1 h2=>?_;rw [b] at h1;exact sJ h1 ▸ h2
 ·rw [if_neg q] at a;exact aP a
theorem aK.drop {G:Gh} {h:Heap} {l:List MV} {vs:List Value} (n:Nat) (r:aK G h l vs):aK G h (l.drop n) (vs.drop n):=by
 refine .mk' (by rw [List.length_drop,List.length_drop,r.length]) fun i x v a b=>?_
 rw [List.getElem?_drop] at a b
 refine aJ (r.get a) fun w h1 h2=>?_;rw [b] at h1;exact sJ h1 ▸ h2
structure bB (G:Gh) (s:Shared) (G':Gh) (s':Shared):Prop where
 keep:∀a o,s.heap.get? a=some o→¬G.own a→¬G.frs a→s'.heap.get? a=some o
 slots:∀a o,s.heap.get? a=some o→¬G.own a→∃sl,s'.heap.get? a=some { o with slots:=sl }
 alive:∀a o,s.heap.get? a=some o→∃o',s'.heap.get? a=some o'
 W:∀a,G.W a→G'.W a
 W':∀a,G'.W a→G.W a∨s.heap.get? a=none
 own:∀a,G.own a→G'.own a
 own':∀a,G'.own a→G.own a∨s.heap.get? a=none
 frs:G'.frs=G.frs
 phi:∃l,G'.phi=G.phi++l∧∀a∈l,s.heap.get? a=none
 gens:s'.gens=s.gens
 os:s'.os=s.os
structure GOk (G:Gh) (h:Heap):Prop where
 own:∀a,G.own a→G.W a
 frs:∀a,G.frs a→G.W a
 lt:∀a,G.W a→∃o,h.get? a=some o
theorem bB.refl (G:Gh) (s:Shared):bB G s G s:=
 ⟨fun _ _ e _ _=>e,fun _ o e _=>⟨o.slots,e⟩,fun _ o e=>⟨o,e⟩,fun _ x=>x,fun _ x=> .inl x,fun _ x=>x,fun _ x=> .inl x,rfl,⟨[],by simp⟩,rfl,rfl⟩
theorem bB.trans {G G' G'':Gh} {s s' s'':Shared} (x:bB G s G' s') (y:bB G' s' G'' s''):bB G s G'' s'':=by
 have no:∀a o,s.heap.get? a=some o→¬G.own a→¬G'.own a:=fun a o e n m=>by
  rcases x.own' a m with q|q
  ·exact n q
  ·rw [e] at q;exact iS q
 refine ⟨fun a o e n f=>y.keep a o (x.keep a o e n f) (no a o e n) (by rw [x.frs];exact f),fun a o e n=>?_,fun a o e=>?_,fun a q=>y.W a (x.W a q),fun a q=>?_,fun a q=>y.own a (x.own a q),fun a q=>?_,y.frs.trans x.frs,?_,y.gens.trans x.gens,y.os.trans x.os⟩
 ·refine elE (x.slots a o e n) fun sl e'=>?_
  refine elE (y.slots a _ e' (no a o e n)) fun sl' e''=>?_
  exact ⟨sl',e''⟩
 ·refine elE (x.alive a o e) fun o' e'=>?_
  exact y.alive a o' e'
 ·rcases y.W' a q with q|q
  ·exact x.W' a q
  ·cases e:s.heap.get? a with
   | none=>exact .inr rfl
   | some o=>
    refine elE (x.alive a o e) fun o' e'=>?_
    rw [e'] at q;exact iS q
 ·rcases y.own' a q with q|q
  ·exact x.own' a q
  ·cases e:s.heap.get? a with
   | none=>exact .inr rfl
   | some o=>
    refine elE (x.alive a o e) fun o' e'=>?_
    rw [e'] at q;exact iS q
 ·refine aJ (x.phi) fun l e f=>?_
  refine aJ (y.phi) fun l' e' f'=>?_
  refine ⟨l++l',by rw [e',e,append_assoc],fun a ha=>?_⟩
  rcases mem_append.mp ha with q|q
  ·exact f a q
  ·cases e:s.heap.get? a with
   | none=>rfl
   | some o=>
    refine elE (x.alive a o e) fun o' e'=>?_
    have:=f' a q
    rw [e'] at this;exact iS this
theorem getElem?_prefix {α:Type} {l l':List α} {n:Nat} {a:α} (h:l[n]?=some a):(l++l')[n]?=some a:=by
 have:=(gS h).1
 rw [getElem?_append_left this];exact h
theorem fX {h h':Heap} {a:Addr} {xs:Array Value} (x:h.IsTuple a xs) (k:∀o,h.get? a=some o→h'.get? a=some o):h'.IsTuple a xs:=
 let ⟨o,e,r⟩:=x;⟨o,k o e,r⟩
theorem hZ {h h':Heap} {a:Addr} {xs:Array Value} (x:h.IsList a xs) (k:∀o,h.get? a=some o→h'.get? a=some o):h'.IsList a xs:=
 let ⟨o,e,r⟩:=x;⟨o,k o e,r⟩
theorem gM {h:Heap} {a:Addr} {xs:Array Value} (x:h.IsTuple a xs):∃o,h.get? a=some o:=let ⟨o,e,_⟩:=x;⟨o,e⟩
theorem fY {h:Heap} {a:Addr} {xs:Array Value} (x:h.IsList a xs):∃o,h.get? a=some o:=let ⟨o,e,_⟩:=x;⟨o,e⟩
theorem aI.go {G G':Gh} {h h':Heap} (hk:∀a o,h.get? a=some o→¬G.W a→h'.get? a=some o∧¬G'.W a) (hp:∀(m:Nat) a,G.phi[m]?=some a→G'.phi[m]?=some a) {x:MV} {v:Value} (r:aI G h x v):aI G' h' x v:=
 aI.rec (motive_1:=fun x v _=>aI G' h' x v) (motive_2:=fun l vs _=>aK G' h' l vs) .none .bool .int .bytes .ty
  (fun hl hw _ ih=> .tup (fX hl fun o e=>(hk _ o e hw).1) (elE (gM hl) fun o e=>(hk _ o e hw).2) ih)
  (fun hl hw _ ih=> .lst (hZ hl fun o e=>(hk _ o e hw).1) (elE (fY hl) fun o e=>(hk _ o e hw).2) ih)
  (fun e=> .cell (hp _ _ e)) (fun ho hw e=> .nxt (hk _ _ ho hw).1 (hk _ _ ho hw).2 (hp _ _ e)) .nil (fun _ _ a b=> .cons a b) r
theorem aK.go {G G':Gh} {h h':Heap} (hk:∀a o,h.get? a=some o→¬G.W a→h'.get? a=some o∧¬G'.W a) (hp:∀(m:Nat) a,G.phi[m]?=some a→G'.phi[m]?=some a) {l:List MV} {vs:List Value} (r:aK G h l vs):aK G' h' l vs:=
 r.map1 fun _ _ r=>r.go hk hp
theorem aI.step {G G':Gh} {s s':Shared} (g:GOk G s.heap) (t:bB G s G' s') {x:MV} {v:Value} (r:aI G s.heap x v):aI G' s'.heap x v:=
 r.go (fun a o e n=>⟨t.keep a o e (fun q=>n (g.own _ q)) (fun q=>n (g.frs _ q)),fun q=>(t.W' _ q).elim n fun q=>by rw [e] at q;exact iS q⟩)
  fun m a e=>aJ t.phi fun l q _=>by rw [q];exact getElem?_prefix e
theorem aK.step {G G':Gh} {s s':Shared} (g:GOk G s.heap) (t:bB G s G' s') {l:List MV} {vs:List Value} (r:aK G s.heap l vs):aK G' s'.heap l vs:=
 r.map1 fun _ _ r=>r.step g t
theorem aI.weakW {G G':Gh} {h:Heap} (hW:∀a,G'.W a→G.W a) (hp:G'.phi=G.phi) {x:MV} {v:Value} (r:aI G h x v):aI G' h x v:=
 r.go (fun a o e n=>⟨e,fun q=>n (hW a q)⟩) fun m a e=>by rw [hp];exact e
theorem aK.weakW {G G':Gh} {h:Heap} (hW:∀a,G'.W a→G.W a) (hp:G'.phi=G.phi) {l:List MV} {vs:List Value} (r:aK G h l vs):aK G' h l vs:=
 r.map1 fun _ _ r=>r.weakW hW hp
theorem aI.keep {G:Gh} {h h':Heap} (hk:∀a o,h.get? a=some o→¬G.W a→h'.get? a=some o) {x:MV} {v:Value} (r:aI G h x v):aI G h' x v:=
 r.go (fun a o e n=>⟨hk a o e n,n⟩) fun _ _ e=>e
theorem aK.keep {G:Gh} {h h':Heap} (hk:∀a o,h.get? a=some o→¬G.W a→h'.get? a=some o) {l:List MV} {vs:List Value} (r:aK G h l vs):aK G h' l vs:=
 r.map1 fun _ _ r=>r.keep hk
end Mine
end
section
set_option tactic.hygienic false
namespace Mine
theorem nC {α:Type} {a:α} {k:Nat} {P:Prop} (h:R.ok a=R.exc k):P:=nomatch h
theorem lU {α:Type} {a:α} {k:Nat} {P:Prop} (h:R.exc k=R.ok a):P:=nomatch h
theorem eU {α:Type} {a b:α} (h:R.ok a=R.ok b):a=b:=R.ok.inj h
theorem oD {α:Type} {j k:Nat} (h:(R.exc j:R α)=R.exc k):j=k:=R.exc.inj h
theorem elrAEoEEEEAA.{ua1,ub1,ub2,ub3,ub4} {αa1:Sort ua1} {αb1:Sort ub1} {αb2:Sort ub2} {αb3:Sort ub3} {αb4:Sort ub4} {pa1:Prop} {pa2:αa1→Prop} {pb1 pb2 pb3:αb1→αb2→αb3→αb4→Prop} {P:Prop} (h:(pa1∧∃x1,pa2 x1)∨(∃x1,∃x2,∃x3,∃x4,pb1 x1 x2 x3 x4∧pb2 x1 x2 x3 x4∧pb3 x1 x2 x3 x4)) (k0:pa1→∀x1,pa2 x1→P) (k1:∀x1,∀x2,∀x3,∀x4,pb1 x1 x2 x3 x4→pb2 x1 x2 x3 x4→pb3 x1 x2 x3 x4→P):P:=by
 rcases h with ⟨h0,x1,h2⟩|⟨x1,x2,x3,x4,h4,h5,h6⟩
 ·exact k0 h0 x1 h2
 ·exact k1 x1 x2 x3 x4 h4 h5 h6
theorem elrAEoEEEEAAAA.{ua1,ub1,ub2,ub3,ub4} {αa1:Sort ua1} {αb1:Sort ub1} {αb2:Sort ub2} {αb3:Sort ub3} {αb4:Sort ub4} {pa1:Prop} {pa2:αa1→Prop} {pb1 pb2 pb3 pb4 pb5:αb1→αb2→αb3→αb4→Prop} {P:Prop} (h:(pa1∧∃x1,pa2 x1)∨(∃x1,∃x2,∃x3,∃x4,pb1 x1 x2 x3 x4∧pb2 x1 x2 x3 x4∧pb3 x1 x2 x3 x4∧pb4 x1 x2 x3 x4∧pb5 x1 x2 x3 x4)) (k0:pa1→∀x1,pa2 x1→P) (k1:∀x1,∀x2,∀x3,∀x4,pb1 x1 x2 x3 x4→pb2 x1 x2 x3 x4→pb3 x1 x2 x3 x4→pb4 x1 x2 x3 x4→pb5 x1 x2 x3 x4→P):P:=by
 rcases h with ⟨h0,x1,h2⟩|⟨x1,x2,x3,x4,h4,h5,h6,h7,h8⟩
 ·exact k0 h0 x1 h2
 ·exact k1 x1 x2 x3 x4 h4 h5 h6 h7 h8
theorem fZ {pa1 pa2 pb1 pb2 P:Prop} (h:(pa1∧pa2)∨(pb1∧pb2)) (k0:pa1→pa2→P) (k1:pb1→pb2→P):P:=by
 rcases h with ⟨h0,h1⟩|⟨h0,h1⟩
 ·exact k0 h0 h1
 ·exact k1 h0 h1
theorem elrEAAoEEAAA.{ua1,ub1,ub2} {αa1:Sort ua1} {αb1:Sort ub1} {αb2:Sort ub2} {pa1 pa2 pa3:αa1→Prop} {pb1 pb2 pb3 pb4:αb1→αb2→Prop} {P:Prop} (h:(∃x1,pa1 x1∧pa2 x1∧pa3 x1)∨(∃x1,∃x2,pb1 x1 x2∧pb2 x1 x2∧pb3 x1 x2∧pb4 x1 x2)) (k0:∀x1,pa1 x1→pa2 x1→pa3 x1→P) (k1:∀x1,∀x2,pb1 x1 x2→pb2 x1 x2→pb3 x1 x2→pb4 x1 x2→P):P:=by
 rcases h with ⟨x1,h1,h2,h3⟩|⟨x1,x2,h2,h3,h4,h5⟩
 ·exact k0 x1 h1 h2 h3
 ·exact k1 x1 x2 h2 h3 h4 h5
theorem elrEAoEEA.{ua1,ub1,ub2} {αa1:Sort ua1} {αb1:Sort ub1} {αb2:Sort ub2} {pa1 pa2:αa1→Prop} {pb1 pb2:αb1→αb2→Prop} {P:Prop} (h:(∃x1,pa1 x1∧pa2 x1)∨(∃x1,∃x2,pb1 x1 x2∧pb2 x1 x2)) (k0:∀x1,pa1 x1→pa2 x1→P) (k1:∀x1,∀x2,pb1 x1 x2→pb2 x1 x2→P):P:=by
 rcases h with ⟨x1,h1,h2⟩|⟨x1,x2,h2,h3⟩
 ·exact k0 x1 h1 h2
 ·exact k1 x1 x2 h2 h3
theorem elrEoZ.{ua1} {αa1:Sort ua1} {pa1:αa1→Prop} {pb1 P:Prop} (h:(∃x1,pa1 x1)∨(pb1)) (k0:∀x1,pa1 x1→P) (k1:pb1→P):P:=by
 rcases h with ⟨x1,h1⟩|h0
 ·exact k0 x1 h1
 ·exact k1 h0
theorem kP {pa1 pb1 pb2 P:Prop} (h:(pa1)∨(pb1∧pb2)) (k0:pa1→P) (k1:pb1→pb2→P):P:=by
 rcases h with h0|⟨h0,h1⟩
 ·exact k0 h0
 ·exact k1 h0 h1
theorem elrZoE.{ub1} {αb1:Sort ub1} {pa1:Prop} {pb1:αb1→Prop} {P:Prop} (h:(pa1)∨(∃x1,pb1 x1)) (k0:pa1→P) (k1:∀x1,pb1 x1→P):P:=by
 rcases h with h0|⟨x1,h1⟩
 ·exact k0 h0
 ·exact k1 x1 h1
theorem elrZoEAAAE.{ub1,ub2} {αb1:Sort ub1} {αb2:Sort ub2} {pa1:Prop} {pb1 pb2 pb3:αb1→Prop} {pb4:αb1→αb2→Prop} {P:Prop} (h:(pa1)∨(∃x1,pb1 x1∧pb2 x1∧pb3 x1∧∃x2,pb4 x1 x2)) (k0:pa1→P) (k1:∀x1,pb1 x1→pb2 x1→pb3 x1→∀x2,pb4 x1 x2→P):P:=by
 rcases h with h0|⟨x1,h1,h2,h3,x2,h5⟩
 ·exact k0 h0
 ·exact k1 x1 h1 h2 h3 x2 h5
theorem elrZoEEAA.{ub1,ub2} {αb1:Sort ub1} {αb2:Sort ub2} {pa1:Prop} {pb1 pb2 pb3:αb1→αb2→Prop} {P:Prop} (h:(pa1)∨(∃x1,∃x2,pb1 x1 x2∧pb2 x1 x2∧pb3 x1 x2)) (k0:pa1→P) (k1:∀x1,∀x2,pb1 x1 x2→pb2 x1 x2→pb3 x1 x2→P):P:=by
 rcases h with h0|⟨x1,x2,h2,h3,h4⟩
 ·exact k0 h0
 ·exact k1 x1 x2 h2 h3 h4
theorem elrZoZoE.{uc1} {αc1:Sort uc1} {pa1 pb1:Prop} {pc1:αc1→Prop} {P:Prop} (h:(pa1)∨(pb1)∨(∃x1,pc1 x1)) (k0:pa1→P) (k1:pb1→P) (k2:∀x1,pc1 x1→P):P:=by
 rcases h with h0|h0|⟨x1,h1⟩
 ·exact k0 h0
 ·exact k1 h0
 ·exact k2 x1 h1
theorem elrZoZoZoE.{ud1} {αd1:Sort ud1} {pa1 pb1 pc1:Prop} {pd1:αd1→Prop} {P:Prop} (h:(pa1)∨(pb1)∨(pc1)∨(∃x1,pd1 x1)) (k0:pa1→P) (k1:pb1→P) (k2:pc1→P) (k3:∀x1,pd1 x1→P):P:=by
 rcases h with h0|h0|h0|⟨x1,h1⟩
 ·exact k0 h0
 ·exact k1 h0
 ·exact k2 h0
 ·exact k3 x1 h1
end Mine
end
section
open PySem PySem.W PyProof.Rows
set_option tactic.hygienic false
namespace Mine
noncomputable def NM:List Str:=
 (["a","actual","alphabet","altchars","ascii_data","at","b","bin_data","c","calls"]:List Str)++
 (["cell","count","cycle","data","e","encoded","expected","figure","figures","first"]:List Str)++
 (["fresh","gone","graph","i","item","itstack","j","k","leftbits","leftchar"]:List Str)++
 (["missing","mixed","n2i","newline","node","node2stacki","nodeinfo","nodes","numbers","octet"]:List Str)++
 (["octets","old","out","p","pads","part","patch","patches","places","plan"]:List Str)++
 (["pred","pred_info","predecessors","q","quad_pos","result","row","rows","s","script"]:List Str)++
 (["second","seen","self","sign","signs","stack","stages","stat","step","strict_mode"]:List Str)++
 (["successor","successor_info","t","text","texts","this_ch","tickets","turn","unexpected","v"]:List Str)++
 (["validate","value","waiting","walk","x"]:List Str)
noncomputable def nm (i:Nat):Str:=NM.getD i (Str.ofString "")
theorem aFi:NM.Nodup:=by decide+kernel
theorem aFj:NM.length=85:=by decide+kernel
theorem uD {i j:Nat} (hi:i < 85) (hj:j < 85) (h:nm i=nm j):i=j:=by
 have hi':i < NM.length:=by rw [aFj];exact hi
 have hj':j < NM.length:=by rw [aFj];exact hj
 unfold nm at h
 rw [getD_eq_getElem?_getD,getD_eq_getElem?_getD,getElem?_eq_getElem hi',getElem?_eq_getElem hj'] at h
 have key:=List.pairwise_iff_getElem.mp aFi
 rcases Nat.lt_trichotomy i j with q|q|q
 ·exact absurd h (key i j hi' hj' q)
 ·exact q
 ·exact absurd h.symm (key j i hj' hi' q)
structure Cx where
 prog:Program
 w:World
 h₀:Heap
 gens:Array GenState
 os:OsState
 mg:Str→Option Value
 mb:Str→Option Value
 K:Frag
 cls:Nat→Addr
structure SC where
 vs:List (Nat×NameKind)
 gs:List Str
 hm:Bool:=false
noncomputable def SC.lookup (sc:SC) (x:Nat):Option NameKind:=sc.vs.lookup x
structure aFk (sc:SC) (env:Env):Prop where
 kind:env.scope.kind= .function
 glob:env.globals=mainGlobals
 blt:env.builtins=builtinsNs
 small:∀x k,sc.lookup x=some k→x < 85
 kinds':∀x k,sc.lookup x=some k→env.kindOf (nm x)=some k∨(k= .free∧env.kindOf (nm x)=some .cell)
 globs:∀(i:Nat) z,sc.gs[i]?=some z→env.kindOf z=some .globalImplicit
 frame:∃L,env.frame=some L
theorem aFk.kinds {sc:SC} {env:Env} (ok:aFk sc env) (x:Nat) (k:NameKind) (h:sc.lookup x=some k) (hk:k≠ .free):env.kindOf (nm x)=some k:=(ok.kinds' x k h).resolve_right fun q=>hk q.1
structure aKj (sc:SC) (env:Env) (G:Gh) (r:List (Nat×MV)) (h:Heap):Prop where
 loc:∃m,h.Ns env.locals m∧∀x y,sc.lookup x=some .local→r.lookup x=some y→∃v,m (nm x)=some v∧aI G h y v
 cel:∀x k,sc.lookup x=some k→(k= .cell∨k= .free)→∃c ov,env.cells.lookup (nm x)=some c∧h.IsCell c ov∧∀y,r.lookup x=some y→∃v,ov=some v∧aI G h y v
 ownL:G.own env.locals
 ownC:∀x c,sc.lookup x=some .cell→env.cells.lookup (nm x)=some c→G.own c
 apart:∀x y c,env.cells.lookup (nm x)=some c→env.cells.lookup (nm y)=some c→x < 85→y < 85→x=y
noncomputable def AN:List Str:= ["_node2info","_ready_nodes","_npassedout","_nfinished"]
noncomputable def an (i:Nat):Str:=AN.getD i (Str.ofString "")
noncomputable def OIs (C:Cx) (G:Gh) (h:Heap) (o:Obj):MO→Prop
 | .list l=>(o.dict=none∧o.slots= #[])∧o.cls= .type "list"∧∃vs n,o.data= .seq (List.toArray vs) n∧aK G h l vs
 | .inst c d=>o.cls= .ref (C.cls c)∧o.data= .plain∧∃a,o.dict=some a∧G.phi[d]?=some a
 | .attrs l=>∃es ep,o.data= .dict es ep∧StrKeys es∧UniqKeys es∧(∀x y,l.lookup x=some y→x < 4∧∃v,nsFind es (an x)=some v∧aI G h y v)∧(∀z,(∀x y,l.lookup x=some y→an x≠z)→nsFind es z=none)
 | .slots c d l=>o.cls= .ref (C.cls c)∧(∃a,o.dict=some a∧G.phi[d]?=some a)∧o.data= .plain∧o.slots.size=l.length∧∀(i:Nat) y,l[i]?=some (some y)→∃v,o.slots[i]?=some (some v)∧aI G h y v
 | .dict ep l=>∃kvs:List (Int×Value),KdkAt (intKind C.prog C.w) o kvs ep∧kvs.map (·.1)=l.map (·.1)∧aK G h (l.map (·.2)) (kvs.map (·.2))
 | .set l=>o.SetObjOf (intKind C.prog C.w) (fun k=>l.contains k) l.length
 | .iter l i=>(o.cls= .type "list_iterator"∧o.dict=none)∧∃a,o.data= .fields #[.ref a,.int i 0]∧G.phi[l]?=some a
 | .dead=>∀v,o.data≠ .cell v
structure nD (C:Cx) (G:Gh) (H:List MO) (h:Heap):Prop where
 len:G.phi.length=H.length
 own:∀(n:Nat) a,G.phi[n]?=some a→G.own a
 inj:∀(n n':Nat) a,G.phi[n]?=some a→G.phi[n']?=some a→n=n'
 nfr:∀(n:Nat) a,G.phi[n]?=some a→¬G.frs a
 at':∀(n:Nat) a x,G.phi[n]?=some a→H[n]?=some x→∃o,h.get? a=some o∧OIs C G h o x
noncomputable def mJ (A:Around) (G:Gh) (h:Heap):Prop:=∃e o vs,A.handled=some (.ref e)∧h.get? e=some o∧o.data= .fields vs∧vs[2]?=some .none∧G.W e∧¬G.own e∧¬G.frs e
theorem mJ.step {A:Around} {G G':Gh} {s s':Shared} (x:mJ A G s.heap) (t:bB G s G' s'):mJ A G' s'.heap:=by
 (refine iT x fun e o vs h1 h2 h3 h4 h5 h6 h7=>?_;try clear x)
 refine ⟨e,o,vs,h1,t.keep e o h2 h6 h7,h3,h4,t.W e h5,fun q=>?_,by rw [t.frs];exact h7⟩
 rcases t.own' e q with q|q
 ·exact h6 q
 ·rw [h2] at q;exact iS q
theorem mJ.none {A:Around} {G:Gh} {h:Heap} (x:mJ A G h) (hh:A.handled= .none):False:=by
 (refine iD x fun e o vs h1 _=>?_;try clear x)
 rw [hh] at h1;exact aP h1
structure Inv (C:Cx) (sc:SC) (A:Around) (env:Env) (G:Gh) (σ:St) (s:Shared):Prop where
 x0:∀a o,C.h₀.get? a=some o→s.heap.get? a=some o
 baseW:∀a,G.W a→C.h₀.get? a=none
 gens:s.gens=C.gens
 os:s.os=C.os
 ok:aFk sc env
 g:GOk G s.heap
 vars:aKj sc env G σ.r s.heap
 cells:nD C G σ.H s.heap
 apart:∀(n:Nat) a,G.phi[n]?=some a→a≠env.locals∧∀x c,sc.lookup x=some .cell→env.cells.lookup (nm x)=some c→a≠c
 lnk:∃l,A.frames=some l∧(∀e∈l,e.scope.kind= .function∧∃L,e.frame=some L∧G.frs L)∧∃e r,l=e::r∧e.frame=env.frame
 frs:∀a,G.frs a→∃m,s.heap.Ns a m
 held:sc.hm=true→mJ A G s.heap
structure AOk (hd:Bool) (n:Nat) (A:Around):Prop where
 depth:A.depth+n≤900
 units:A.units+100 * n≤9000
 handled:hd=true→A.handled=none
theorem OIs.mono {C:Cx} {G G':Gh} {h h':Heap} {o:Obj} {x:MO} (y:OIs C G h o x) (m:∀z v,aI G h z v→aI G' h' z v) (p:∀(n:Nat) a,G.phi[n]?=some a→G'.phi[n]?=some a):OIs C G' h' o x:=by
 cases x with
 | list l=>(refine aAz y fun e c vs n d r=>?_;try clear y);exact ⟨e,c,vs,n,d,r.map1 m⟩
 | inst c d=>(refine aQg y fun e f a g q=>?_;try clear y);exact ⟨e,f,a,g,p _ _ q⟩
 | attrs l=>(refine jF y fun es ep e f g q r=>?_;try clear y);exact ⟨es,ep,e,f,g,fun x y hx=>let ⟨a,v,hv,rv⟩:=q x y hx;⟨a,v,hv,m _ _ rv⟩,r⟩
 | slots c d l=>(refine aFc y fun e t_4 g q r=>?_;try clear y;(refine aJ t_4 fun a f f'=>?_;try clear t_4));exact ⟨e,⟨a,f,p _ _ f'⟩,g,q,fun i z hz=>let ⟨v,hv,rv⟩:=r i z hz;⟨v,hv,m _ _ rv⟩⟩
 | dict ep l=>(refine bG y fun kvs e f r=>?_;try clear y);exact ⟨kvs,e,f,r.map1 m⟩
 | set l=>exact y
 | iter l i=>(refine kG y fun e a f q=>?_;try clear y);exact ⟨e,a,f,p _ _ q⟩
 | dead=>exact y
noncomputable def Ext (s s':Shared):Prop:=(∀b o,s.heap.get? b=some o→s'.heap.get? b=some o)∧s'.gens=s.gens∧s'.os=s.os
theorem Ext.refl (s:Shared):Ext s s:=⟨fun _ _ e=>e,rfl,rfl⟩
theorem Ext.trans {s s' s'':Shared} (x:Ext s s') (y:Ext s' s''):Ext s s'':=⟨fun b o e=>y.1 b o (x.1 b o e),y.2.1.trans x.2.1,y.2.2.trans x.2.2⟩
theorem Ext.step {s s':Shared} (G:Gh) (x:Ext s s'):bB G s G s':=
 ⟨fun a o e _ _=>x.1 a o e,fun a o e _=>⟨o.slots,x.1 a o e⟩,fun a o e=>⟨o,x.1 a o e⟩,fun _ q=>q,fun _ q=> .inl q,fun _ q=>q,fun _ q=> .inl q,rfl,⟨[],by simp⟩,x.2.1,x.2.2⟩
theorem Ext.toks (s:Shared) (t:Nat):Ext s { s with toks:=t }:=⟨fun _ _ e=>e,rfl,rfl⟩
theorem Ext.push (s:Shared) (o:Obj):Ext s { s with heap:=s.heap.push o }:=⟨fun _ _ e=>Heap.get?_push_of_some o e,rfl,rfl⟩
theorem Ext.mk' {s:Shared} {h':Heap} {t:Nat} (k:∀b o,s.heap.get? b=some o→h'.get? b=some o):Ext s { s with heap:=h',toks:=t }:=⟨k,rfl,rfl⟩
theorem aI.ext {G:Gh} {s s':Shared} (g:GOk G s.heap) (x:Ext s s') {y:MV} {v:Value} (r:aI G s.heap y v):aI G s'.heap y v:=r.step g (x.step G)
theorem aK.ext {G:Gh} {s s':Shared} (g:GOk G s.heap) (x:Ext s s') {y:List MV} {v:List Value} (r:aK G s.heap y v):aK G s'.heap y v:=r.step g (x.step G)
theorem Inv.ext {C:Cx} {sc:SC} {A:Around} {env:Env} {G:Gh} {σ:St} {s s':Shared} (I:Inv C sc A env G σ s) (x:Ext s s'):Inv C sc A env G σ s' where
 x0:=fun a o e=>x.1 a o (I.x0 a o e)
 baseW:=I.baseW
 gens:=x.2.1.trans I.gens
 os:=x.2.2.trans I.os
 ok:=I.ok
 g:=⟨I.g.own,I.g.frs,fun a q=>let ⟨o,e⟩:=I.g.lt a q;⟨o,x.1 a o e⟩⟩
 vars:=⟨let ⟨m,hn,hm⟩:=I.vars.loc;⟨m,hn.keeps x.1,fun a y e e'=>let ⟨v,hv,r⟩:=hm a y e e';⟨v,hv,r.ext I.g x⟩⟩,
  fun a k e e'=>let ⟨c,ov,hc,hi,hr⟩:=I.vars.cel a k e e';⟨c,ov,hc,hi.keeps x.1,fun y q=>let ⟨v,hv,r⟩:=hr y q;⟨v,hv,r.ext I.g x⟩⟩,
  I.vars.ownL,I.vars.ownC,I.vars.apart⟩
 cells:=⟨I.cells.len,I.cells.own,I.cells.inj,I.cells.nfr,fun n a y e e'=>let ⟨o,ho,r⟩:=I.cells.at' n a y e e';⟨o,x.1 a o ho,r.mono (fun _ _ z=>z.ext I.g x) fun _ _ q=>q⟩⟩
 apart:=I.apart
 lnk:=I.lnk
 frs:=fun a q=>let ⟨m,y⟩:=I.frs a q;⟨m,y.keeps x.1⟩
 held:=fun q=>(I.held q).step (x.step G)
noncomputable def lV:Nat→String
 | 0=> "IndexError"
 | 1=> "StopIteration"
 | n+2=>lV n
noncomputable def XIs (G:Gh) (h:Heap) (e:Addr) (k:Nat) (vs:Array Value):Prop:=∃o,h.get? e=some o∧o.cls= .type (lV k)∧o.data= .fields vs∧4 < vs.size∧G.own e∧e∉G.phi
noncomputable def aQl (G:Gh) (h:Heap) (T:Addr) (fl:Value):Prop:=∃o ts,h.get? T=some o∧o.cls= .type "traceback"∧o.data= .fields ts∧ts[3]?=some fl∧G.own T∧T∉G.phi
noncomputable def kQ (G:Gh) (h:Heap) (env:Env) (m:Bool) (x:Value) (k:Nat):Prop:=
 ∃e vs,x= .ref e∧XIs G h e k vs∧(m=false→k < 2→vs[2]?=some .none)∧(vs[1]?=some .none∨∃T L,vs[1]?=some (.ref T)∧env.frame=some L∧aQl G h T (rawInt L))
noncomputable abbrev TrQ (C:Cx) (sc:SC) (A:Around) (env:Env) (G:Gh) (s:Shared) (σ':St) {α β:Type} (r:R β) (P:Gh→Heap→β→α→Prop):α→Shared→Prop:=
 fun a s'=>∃b G',r= .ok b∧bB G s G' s'∧Inv C sc A env G' σ' s'∧P G' s'.heap b a
noncomputable abbrev TrE (C:Cx) (sc:SC) (A:Around) (env:Env) (G:Gh) (s:Shared) (σ':St) {β:Type} (r:R β):Value→Shared→Prop:=
 fun x s'=>∃k G',r= .exc k∧bB G s G' s'∧Inv C sc A env G' σ' s'∧kQ G' s'.heap env sc.hm x k
noncomputable def Tr (C:Cx) (sc:SC) (A:Around) (env:Env) (G:Gh) (σ:St) (s:Shared) {α β:Type} (t:Sem α) (f:M β) (P:Gh→Heap→β→α→Prop):Prop:=
 ∀r σ',f σ=some (r,σ')→wpAny (model C.prog C.w) A t (TrQ C sc A env G s σ' r P) (TrE C sc A env G s σ' r) s
theorem trq {C:Cx} {sc:SC} {A:Around} {env:Env} {G:Gh} {s s':Shared} {σ':St} {α β:Type} {b:β} {P:Gh→Heap→β→α→Prop} {a:α} (h:TrQ C sc A env G s σ' (.ok b) P a s'):∃G',bB G s G' s'∧Inv C sc A env G' σ' s'∧P G' s'.heap b a:=by
 (refine cJ h fun _ G' q r=>?_;try clear h);(obtain rfl:=eU q);exact ⟨G',r⟩
theorem tre {C:Cx} {sc:SC} {A:Around} {env:Env} {G:Gh} {s s':Shared} {σ':St} {β:Type} {k:Nat} {x:Value} (h:TrE C sc A env G s σ' (.exc k:R β) x s'):∃G',bB G s G' s'∧Inv C sc A env G' σ' s'∧kQ G' s'.heap env sc.hm x k:=by
 (refine cJ h fun _ G' q r=>?_;try clear h);(obtain rfl:=oD q);exact ⟨G',r⟩
theorem mK {C:Cx} {sc:SC} {A:Around} {env:Env} {G:Gh} {s s':Shared} {σ':St} {α β:Type} {k:Nat} {P:Gh→Heap→β→α→Prop} {a:α} (h:TrQ C sc A env G s σ' (.exc k) P a s'):False:=by
 (refine cJ h fun _ _ q _=>?_;try clear h);exact lU q
theorem fI {C:Cx} {sc:SC} {A:Around} {env:Env} {G:Gh} {s s':Shared} {σ':St} {β:Type} {b:β} {x:Value} (h:TrE C sc A env G s σ' (.ok b) x s'):False:=by
 (refine cJ h fun _ _ q _=>?_;try clear h);exact nC q
section
variable {C:Cx} {sc:SC} {A:Around} {env:Env} {G:Gh} {σ:St} {s:Shared} {α β γ δ:Type}
theorem Tr.bind {t:Sem α} {k:α→Sem γ} {f:M β} {g:β→M δ} {P:Gh→Heap→β→α→Prop} {P':Gh→Heap→δ→γ→Prop}
  (x:Tr C sc A env G σ s t f P)
  (y:∀b a G' σ' s',bB G s G' s'→Inv C sc A env G' σ' s'→P G' s'.heap b a→Tr C sc A env G' σ' s' (k a) (g b) P'):
  Tr C sc A env G σ s (t >>=k) (M.bind f g) P':=by
 intro r σ' e
 focus (refine elrEAoEEA (M.bind_some e) (fun j e1 r_1=>?_) fun b σ₁ e1 e2=>?_;obtain rfl:=r_1;rotate_left;rotate_left)
 ·refine wB (wpAny_mono (x _ _ e1) (fun a s' h=>?_) fun a s' h=>?_)
  ·exact (mK h).elim
  ·(refine cJ h fun k G' q r=>?_;try clear h);(obtain rfl:=oD q);exact ⟨j,G',rfl,r⟩
 ·refine wB (wpAny_mono (x _ _ e1) (fun a s' h=>?_) fun a s' h=>?_)
  ·(refine bL h fun b' G' q st I p=>?_;try clear h)
   (obtain rfl:=eU q)
   refine wpAny_mono (y b a G' σ₁ s' st I p r σ' e2) (fun c s'' h=>?_) fun c s'' h=>?_
   ·(refine bL h fun d G'' q st' I' p'=>?_;try clear h);exact ⟨d,G'',q,st.trans st',I',p'⟩
   ·(refine bL h fun d G'' q st' I' p'=>?_;try clear h);exact ⟨d,G'',q,st.trans st',I',p'⟩
  ·exact (fI h).elim
theorem Tr.of_ext {t:Sem α} {o:Option β} {P:Gh→Heap→β→α→Prop} (I:Inv C sc A env G σ s)
  (h:∀b,o=some b→∀(Q:α→Shared→Prop) (E:Value→Shared→Prop),(∀a s',Ext s s'→P G s'.heap b a→Q a s')→wpAny (model C.prog C.w) A t Q E s):
  Tr C sc A env G σ s t (M.lift o) P:=by
 intro r σ' e
 (refine bG (M.lift_some e) fun a e_1 e_2 e_3=>?_;obtain rfl:=e_1;obtain rfl:=e_2;obtain rfl:=e_3)
 exact h a rfl _ _ fun c s' x p=>⟨a,G,rfl,x.step G,I.ext x,p⟩
theorem Tr.pure {a:α} {b:β} {P:Gh→Heap→β→α→Prop} (I:Inv C sc A env G σ s) (h:P G s.heap b a):Tr C sc A env G σ s (Pure.pure a) (M.pure b) P:=by
 intro r σ' e;cases e
 exact wP ⟨b,G,rfl,bB.refl G s,I,h⟩
theorem Tr.fail {t:Sem α} {P:Gh→Heap→β→α→Prop}:Tr C sc A env G σ s t M.fail P:=fun _ _ e=>by exact aP e
theorem Tr.of_wp {t t':Sem α} {f:M β} {P:Gh→Heap→β→α→Prop} (h:∀(Q:α→Shared→Prop) (E:Value→Shared→Prop),wpAny (model C.prog C.w) A t Q E s→wpAny (model C.prog C.w) A t' Q E s)
  (x:Tr C sc A env G σ s t f P):Tr C sc A env G σ s t' f P:=fun r σ' e=>h _ _ (x r σ' e)
theorem Tr.holding {vs:List Value} {t:Sem α} {f:M β} {P:Gh→Heap→β→α→Prop} (x:Tr C sc A env G σ s t f P):Tr C sc A env G σ s (holding vs t) f P:=
 .of_wp (fun _ _ h=>wpAny_holding h) x
theorem Tr.operate {vs:List Value} {t:Sem Value} {f:M β} {P:Gh→Heap→β→Value→Prop} (x:Tr C sc A env G σ s t f P):Tr C sc A env G σ s (operate vs t) f P:=
 .of_wp (fun _ _ h=>wpAny_operate' h) x
theorem Tr.stand {p:Pos} {k:Unit→Sem α} {f:M β} {P:Gh→Heap→β→α→Prop} (x:Tr C sc A env G σ s (k ()) f P):Tr C sc A env G σ s (standAt p >>=k) f P:=
 .of_wp (fun _ _ h=>wB (wpAny_standAt h)) x
end
noncomputable def aV (C:Cx) (hd:Bool) (n:Nat) (sc:SC) (e:Expr) (f:M MV):Prop:=
 ∀A env G σ s,AOk hd n A→Inv C sc A env G σ s→Tr C sc A env G σ s (eval e env) f (fun G h x v=>aI G h x v)
noncomputable def mL (C:Cx) (hd:Bool) (n:Nat) (sc:SC) (e:Expr) (f:M Bool):Prop:=
 ∀A env G σ s,AOk hd n A→Inv C sc A env G σ s→Tr C sc A env G σ s (isTrue e env (eval e env)) f (fun _ _ x v=>x=v)
inductive Fl where
 | next|brk|cont
 | ret (v:MV)
inductive uE (G:Gh) (h:Heap):Fl→Flow→Prop
 | next:uE G h .next .next
 | brk:uE G h .brk .brk
 | cont:uE G h .cont .cont
 | ret {x:MV} {v:Value}:aI G h x v→uE G h (.ret x) (.ret v)
noncomputable def fK (C:Cx) (hd:Bool) (n:Nat) (sc:SC) (t:Stmt) (f:M Fl):Prop:=
 ∀A env G σ s,AOk hd n A→Inv C sc A env G σ s→Tr C sc A env G σ s (exec t env) f uE
noncomputable def bQ (C:Cx) (hd:Bool) (n:Nat) (sc:SC) (t:List Stmt) (f:M Fl):Prop:=
 ∀A env G σ s,AOk hd n A→Inv C sc A env G σ s→Tr C sc A env G σ s (execs t env) f uE
section
variable {C:Cx} {hd:Bool} {n:Nat} {sc:SC} {A:Around} {env:Env} {G:Gh} {σ:St} {s:Shared} {Q E:Value→Shared→Prop}
noncomputable def small (x:Int):Bool:=decide (-18446744073709551616 < x) && decide (x < 18446744073709551616)
theorem fG {x:Int}:small x=true ↔ -18446744073709551616 < x∧x < 18446744073709551616:=by
 unfold small;rw [Bool.and_eq_true,decide_eq_true_iff,decide_eq_true_iff]
theorem wG {x:Int} (h1: -18446744073709551616 < x) (h2:x < 18446744073709551616):small x=true:=fG.mpr ⟨h1,h2⟩
noncomputable def cC (n:Nat):Bool:=Nat.ble n 1000000
theorem bN {n:Nat}:cC n=true ↔ n≤1000000:=by unfold cC;exact ⟨bT,Nat.ble_eq_true_of_le⟩
theorem bK {n:Nat} (h:n≤1000000):cC n=true:=bN.mpr h
noncomputable def aSd (op:Operator) (a b:Int):Option Int:=match op with
 | .Add=>some (a+b)
 | .Sub=>some (a - b)
 | .Mult=>if small b then some (a * b) else none
 | .FloorDiv=>if decide (b≠0) && small b then some (a.fdiv b) else none
 | .Mod=>if decide (b≠0) then some (a.fmod b) else none
 | .Pow=>if decide (0≤b) && decide (b≤1000) && small a then some (a ^ b.toNat) else none
 | .LShift=>if decide (0≤b) && decide (b≤1000) && small a then some (a * 2 ^ b.toNat) else none
 | .RShift=>if decide (0≤b) then some (a.fdiv (2 ^ b.toNat)) else none
 | .BitOr=>some (Builtin.bitOr a b)
 | .BitAnd=>some (Builtin.bitAnd a b)
 | _=>none
theorem yR {b:Int} (h:small b=true):b.natAbs.log2 < 9000:=by
 obtain ⟨h1,h2⟩:=fG.mp h
 by_cases h0:b.natAbs=0
 ·rw [h0];decide+kernel
 ·have:b.natAbs.log2 < 64:=(Nat.log2_lt h0).mpr (by lia)
  lia
theorem aDf {op:Operator} {a b c:Int} {t u:Tok} (e:aSd op a b=some c) (h:∀t' k,Q (.int c t') { s with toks:=k }):
  wpAny (model C.prog C.w) A (binaryOp op (.int a t) (.int b u)) Q E s:=by
 cases op <;> first|exact aP e|skip
 ·rw [←sJ e] at h;exact add_int (h _ _)
 ·rw [←sJ e] at h;exact sub_int (h _ _)
 ·refine dG e fun hs e=>?_
  rw [←sJ e] at h
  exact mul_int (h _ _) (elA (fG.mp hs) fun h1 h2=>IntMulOk.of_right (intBits_le_64 h1 h2))
 ·refine dG e fun hs e=>?_
  rw [←sJ e] at h
  exact mod_int (of_decide_eq_true hs) (h _ _)
 ·refine dG e fun hs e=>?_
  rw [←sJ e] at h
  obtain ⟨hs,ha⟩:=and_eq_true_iff.mp hs
  obtain ⟨h0,h1⟩:=and_eq_true_iff.mp hs
  obtain ⟨q1,q2⟩:=fG.mp ha
  have h0:=of_decide_eq_true h0
  have h1:=of_decide_eq_true h1
  exact pow_int_small h0 (by lia) (by lia) (h _ _)
 ·refine dG e fun hs e=>?_
  rw [←sJ e] at h
  obtain ⟨hs,ha⟩:=and_eq_true_iff.mp hs
  obtain ⟨h0,h1⟩:=and_eq_true_iff.mp hs
  obtain ⟨q1,q2⟩:=fG.mp ha
  have h0:=of_decide_eq_true h0
  have h1:=of_decide_eq_true h1
  exact lshift_int_small h0 (by lia) (by lia) (h _ _)
 ·refine dG e fun hs e=>?_
  rw [←sJ e] at h
  exact rshift_int (of_decide_eq_true hs) (h _ _)
 ·rw [←sJ e] at h;exact or_int (h _ _)
 ·rw [←sJ e] at h;exact and_int (h _ _)
 ·refine dG e fun hs e=>?_
  rw [←sJ e] at h
  obtain ⟨h0,hs⟩:=and_eq_true_iff.mp hs
  exact floordiv_int (of_decide_eq_true h0) (h _ _) (.inl (PyProof.noPylong_of_log2 (yR hs)))
noncomputable def aSe (op:CmpOp) (a b:Int):Option Bool:=match op with
 | .Eq=>some (a==b)
 | .NotEq=>some (a !=b)
 | .Lt=>some (decide (a < b))
 | .LtE=>some (decide (a≤b))
 | .Gt=>some (decide (b < a))
 | .GtE=>some (decide (b≤a))
 | _=>none
theorem yS {op:CmpOp} {a b:Int} {c:Bool} {t u:Tok} (e:aSe op a b=some c) (h:Q (.bool c) s):
  wpAny (model C.prog C.w) A (compareOp op (.int a t) (.int b u)) Q E s:=by
 cases op <;> first|exact aP e|rw [←sJ e] at h
 ·exact eq_int h
 ·exact ne_int h
 ·exact lt_int h
 ·exact PyProof.Rows.le_int h
 ·exact gt_int h
 ·exact PyProof.Rows.ge_int h
noncomputable def kM:Const→Option MV
 | .none=>some .none
 | .bool b=>some (.bool b)
 | .int i=>some (.int i)
 | .bytes b=>some (.bytes (b.map fun c=>(c.toNat:Int)))
 | _=>none
set_option tactic.hygienic true in
theorem aD {c:Const} {k:Nat} {pos:Pos}:aV C hd n sc (.Constant c k pos) (M.lift (kM c)):=by
 intro A env G σ s hA I
 refine Tr.of_ext I fun b e Q E h=>?_
 cases c <;> first|exact aP e|obtain rfl:=sJ e
 ·exact fun _ _ _=>h _ _ (Ext.refl s) .none
 ·exact fun _ _ _=>h _ _ (Ext.refl s) (.bool _)
 ·exact wpAny_Constant_int (h _ _ (Ext.toks s _) (.int _ _))
 ·rename_i x
  refine Constant_bytes (h _ _ (Ext.toks s _) ?_)
  exact .bytes x.toArray _
noncomputable def aF (x:Nat):M MV:=fun σ=>match σ.r.lookup x with
 | some y=>some (.ok y,σ)
 | none=>none
theorem sU {x:Nat} {σ σ':St} {r:R MV} (h:aF x σ=some (r,σ')):∃y,σ.r.lookup x=some y∧r= .ok y∧σ'=σ:=by
 delta aF at h
 cases e:σ.r.lookup x with
 | none=>rw [e] at h;exact aP h
 | some y=>rw [e] at h;have q:=sJ h;exact ⟨y,rfl,(congrArg Prod.fst q).symm,(congrArg Prod.snd q).symm⟩
theorem qI {x:Nat} {k:NameKind} {y:MV} (I:Inv C sc A env G σ s) (hk:sc.lookup x=some k) (hk':k= .local∨k= .cell∨k= .free) (hy:σ.r.lookup x=some y)
  (hc:(nm x==("__classdict__":Str))=false) (h:∀v,aI G s.heap y v→Q v s):wpAny (model C.prog C.w) A (loadName env (nm x)) Q E s:=by
 rcases hk' with rfl|rfl|rfl
 ·refine aJ (I.vars.loc) fun m hn hm=>?_
  refine aJ (hm x y hk hy) fun v hv r=>?_
  exact wpAny_loadName_local I.ok.kind (I.ok.kinds x _ hk (by decide)) hn hv (h v r)
 ·refine cD (I.vars.cel x _ hk (.inl rfl)) fun c ov hc' hi hr=>?_
  (refine aJ (hr y hy) fun v e_4 r=>?_;obtain rfl:=e_4)
  exact wpAny_loadName_cell I.ok.kind (I.ok.kinds x _ hk (by decide)) hc' hi (h v r)
 ·refine cD (I.vars.cel x _ hk (.inr rfl)) fun c ov hc' hi hr=>?_
  (refine aJ (hr y hy) fun v e_3 r=>?_;obtain rfl:=e_3)
  refine kP (I.ok.kinds' x _ hk) (fun hkk=>?_) fun _ hkk=>?_
  ·exact wpAny_loadName_free I.ok.kind hkk hc' hi (h v r) hc
  ·exact wpAny_loadName_cell I.ok.kind hkk hc' hi (h v r)
noncomputable def aSf:Option NameKind→Bool
 | some .local=>true|some .cell=>true|some .free=>true|_=>false
theorem aFl:∀x,x < 85→((nm x==("__debug__":Str))=false∧(nm x==("__classdict__":Str))=false):=by decide+kernel
theorem aB (x:Nat) {z:Str} {pos:Pos} (hz:autoParam (nm x=z) aX._auto_1) (hk:autoParam (aSf (sc.lookup x)=true) aX._auto_1):aV C hd n sc (.Name z pos) (aF x):=by
 subst hz
 intro A env G σ s hA I r σ' e
 (refine bG (sU e) fun y hy e_1 e_2=>?_;obtain rfl:=e_1;obtain rfl:=e_2)
 obtain ⟨k,hkx⟩:∃k,sc.lookup x=some k:=by cases q:sc.lookup x with
  | none=>rw [q] at hk;exact jI hk
  | some k=>exact ⟨k,rfl⟩
 have hk':k= .local∨k= .cell∨k= .free:=by rw [hkx] at hk;cases k <;> first|exact .inl rfl|exact .inr (.inl rfl)|exact .inr (.inr rfl)|exact jI hk
 have hs:=aFl x (I.ok.small x k hkx)
 exact wpAny_Name (qI I hkx hk' hy hs.2 fun v r=>⟨y,G,rfl,bB.refl G s,I,r⟩) hs.1
end
section
variable {C:Cx} {hd:Bool} {n:Nat} {sc:SC} {A:Around} {env:Env} {G:Gh} {σ:St} {s:Shared} {Q E:Value→Shared→Prop}
theorem Inv.fresh_notW (I:Inv C sc A env G σ s) {a:Addr} (h:s.heap.get? a=none):¬G.W a:=fun q=>by
 refine elE (I.g.lt a q) fun o e=>?_;rw [h] at e;exact aP e
theorem bD (h:Heap):h.get? h.objs.size=none:=Heap.get?_none_of_le (Nat.le_refl _)
theorem Inv.newLst (I:Inv C sc A env G σ s) {l:List MV} {vs:List Value} {n:Nat} (r:aK G s.heap l vs):
  aI G (s.heap.push { cls:= .type "list",data:= .seq vs.toArray n }) (.lst l) (.ref s.heap.objs.size):=
 .lst ⟨_,Heap.get?_push_size _ rfl,rfl,n,rfl⟩ (I.fresh_notW (bD _)) (r.ext I.g (Ext.push s _))
theorem Inv.newTup (I:Inv C sc A env G σ s) {l:List MV} {vs:List Value} {n:Nat} (r:aK G s.heap l vs):
  aI G (s.heap.push { cls:= .type "tuple",data:= .seq vs.toArray n }) (.tup l) (.ref s.heap.objs.size):=
 .tup ⟨_,Heap.get?_push_size _ rfl,rfl,n,rfl⟩ (I.fresh_notW (bD _)) (r.ext I.g (Ext.push s _))
theorem aKk {l b:Addr} {vs ws:List Value} (hl:s.heap.IsList l vs.toArray) (hb:s.heap.IsList b ws.toArray)
  (h:Q (.ref s.heap.objs.size) { s with heap:=s.heap.push { cls:= .type "list",data:= .seq (vs++ws).toArray } }) (hsz:vs.length+ws.length≤1000000):
  wpAny (model C.prog C.w) A (binaryOp .Add (.ref l) (.ref b)) Q E s:=by
 (refine fJ (id hl) fun t_3 ho hc n hd=>?_;obtain ⟨cls,dd,data,sl⟩:=t_3)
 (refine fJ (id hb) fun t_2 ho2 hc2 n2 hd2=>?_;obtain ⟨cls2,dd2,data2,sl2⟩:=t_2)
 simp only at hc hd hc2 hd2
 subst hc hd hc2 hd2
 have e:vs.toArray++ws.toArray=(vs++ws).toArray:=by simp
 refine concat_meets ⟨_,ho,rfl⟩ ⟨_,ho2,rfl⟩ noFill_list_add seq_list_add PySem.F.slot_list_add PySem.F.entry_list_add (PySem.F.args_list_add_2 _ _) (list_addW l b vs.toArray ws.toArray n n2 dd dd2 sl sl2 (by rw [size_toArray,size_toArray];show _≤16777216;lia)) ⟨ho,ho2,?_⟩
 rw [e];exact h
noncomputable def adM {α:Type} (op:Operator) (o:Option α):Option α:=match op with| .Add=>o|_=>none
theorem aNq {α:Type} {op:Operator} {o:Option α} {r:α} (e:adM op o=some r) {P:Prop} (k:op= .Add→o=some r→P):P:=by
 cases op <;> first|exact aP e|exact k rfl e
noncomputable def bM (op:Operator) (x y:MV):Option MV:=match x with
 | .int a=>oI y fun b=>(aSd op a b).map .int
 | .lst a=>oL y fun b=>adM op (if cC (a.length+b.length) then some (.lst (a++b)) else none)
 | .bytes a=>oB y fun b=>adM op (if cC (a.length+b.length) then some (.bytes (a++b)) else none)
 | _=>none
set_option maxHeartbeats 2000000 in
theorem aDg {op:Operator} {x y z:MV} {v u:Value} (I:Inv C sc A env G σ s) (e:bM op x y=some z) (hx:aI G s.heap x v) (hy:aI G s.heap y u)
  (h:∀a s',Ext s s'→aI G s'.heap z a→Q a s'):wpAny (model C.prog C.w) A (binaryOp op v u) Q E s:=by
 cases hx with
 | int a ta=>
  refine kO e hy fun b t e=>?_
  refine aJ (map_eq_some_iff.mp e) fun c e1 e_1=>?_
  rw [←e_1] at h
  refine aDf e1 fun t' k=>?_
  exact h _ _ (Ext.toks s _) (.int c t')
 | bytes b1 t1=>
  replace e:oB y (fun b=>adM op (if cC ((bInts b1).length+b.length) then some (.bytes (bInts b1++b)) else none))=some z:=e
  refine aSc e hy fun b2 t2 e1=>aNq e1 fun q e2=>dG e2 fun hs e3=>?_
  rw [q]
  rw [←sJ e3] at h
  have hz:=bN.mp hs
  rw [KBw.ints_length,KBw.ints_length] at hz
  refine KBy.add_bytes (Nat.le_trans hz (by decide)) fun t' k=>h _ _ (Ext.toks s _) ?_
  rw [←KBw.ints_app (b:=b1) (c:=b2) rfl rfl]
  exact .bytes _ _
 | lst h1 h2 h3=>
  refine aKi e hy fun b vs l g1 g2 g3 e=>aNq e fun q e=>dG e fun hs e=>?_
  rw [q];rw [←sJ e] at h
  refine aKk h1 g1 ?_ (by rw [←h3.length,←g3.length];exact bN.mp hs)
  exact h _ _ (Ext.push s _) (I.newLst (h3.append g3))
 | _=>exact aP e
theorem aR {l r:Expr} {op:Operator} {pos:Pos} {f g:M MV} (hl:aV C hd n sc l f) (hr:aV C hd n sc r g):
  aV C hd n sc (.BinOp l op r pos) (M.bind f fun x=>M.bind g fun y=>M.lift (bM op x y)):=by
 intro A env G σ s hA I
 rw [eval_BinOp]
 refine Tr.bind (hl A env G σ s hA I) fun x v G' σ' s' st I' p=>Tr.bind (Tr.holding (hr A env G' σ' s' hA I')) fun y u G'' σ'' s'' st' I'' p'=>Tr.stand (Tr.operate ?_)
 exact Tr.of_ext I'' fun b e Q E h=>aDg I'' e (p.step I'.g st') p' h
noncomputable def unM (op:UnaryOp) (x:MV):Option MV:=match op with
 | .USub=>oI x fun a=>some (.int (-a))
 | _=>none
theorem qJ {x:Expr} {op:UnaryOp} {pos:Pos} {f:M MV} (hx:aV C hd n sc x f):aV C hd n sc (.UnaryOp op x pos) (M.bind f fun x=>M.lift (unM op x)):=by
 intro A env G σ s hA I
 show Tr C sc A env G σ s (eval x env >>=fun v=>standAt pos >>=fun _=>holding [v] (unaryOp op v)) _ _
 refine Tr.bind (hx A env G σ s hA I) fun x v G' σ' s' st I' p=>Tr.stand (Tr.holding ?_)
 refine Tr.of_ext I' fun b e Q E h=>?_
 cases op <;> first|exact aP e|skip
 refine kO e p fun a t e=>PyProof.Rows.neg_int (h _ _ (Ext.toks s' _) (sJ e ▸ .int _ _))
noncomputable def aO:List (M MV)→M (List MV)
 | []=>M.pure []
 | f::r=>M.bind f fun x=>M.bind (aO r) fun l=>M.pure (x::l)
inductive dD (C:Cx) (hd:Bool) (n:Nat) (sc:SC):List Expr→List (M MV)→Prop
 | nil:dD C hd n sc [] []
 | cons {e:Expr} {f:M MV} {es:List Expr} {fs:List (M MV)} (he:∀env lY,starEach (e::lY) env=(false,eval e env)::starEach lY env):aV C hd n sc e f→dD C hd n sc es fs→dD C hd n sc (e::es) (f::fs)
theorem eK {es:List Expr} {fs:List (M MV)} {pos:Pos} (h:dD C hd n sc es fs):∀{A:Around} {env:Env} {G:Gh} {σ:St} {s:Shared},AOk hd n A→Inv C sc A env G σ s→
  Tr C sc A env G σ s (spliced (backTo pos (starEach es env))) (aO fs) (fun G h l vs=>aK G h l vs):=by
 induction h with
 | nil=>intro A env G σ s hA I;exact Tr.pure I .nil
 | @cons e f es fs he hf _ ih=>
  intro A env G σ s hA I
  rw [he]
  show Tr C sc A env G σ s (eval e env >>=fun v=>(pure [v]:Sem (List Value)) >>=fun here=>(holding here (spliced (backTo pos (starEach es env)))) >>=fun lY=>pure (here++lY)) _ _
  refine Tr.bind (hf A env G σ s hA I) fun x v G' σ' s' st I' p=>?_
  refine Tr.of_wp (fun Q E h=>wB (wP h)) ?_
  refine Tr.bind (Tr.holding (ih hA I')) fun l vs G'' σ'' s'' st' I'' p'=>Tr.pure I'' (.cons (p.step I'.g st') p')
noncomputable def uF (l:List MV):Option MV:=if cC l.length then some (.lst l) else none
noncomputable def pQ (l:List MV):Option MV:=if cC l.length then some (.tup l) else none
theorem jS {T:String} {vs:List Value} (h:Q (.ref s.heap.objs.size) { s with heap:=s.heap.push { cls:= .type T,data:= .seq vs.toArray } }) (hz:vs.length≤1000000):
  wpAny (model C.prog C.w) A (newObj (.type T) (.seq vs.toArray)) Q E s:=
 wpAny_newObj_type h (by show vs.toArray.size≤16777216;rw [size_toArray];lia)
theorem iG {es:List Expr} {fs:List (M MV)} {pos:Pos} (h:dD C hd n sc es fs):aV C hd n sc (.List es pos) (M.bind (aO fs) fun l=>M.lift (uF l)):=by
 intro A env G σ s hA I
 rw [arm_eval_List]
 refine Tr.stand (Tr.bind (eK h hA I) fun l vs G' σ' s' st I' p=>?_)
 refine Tr.of_ext I' fun b e Q E h=>?_
 refine dG e fun hz e=>?_
 rw [←sJ e] at h
 exact jS (h _ _ (Ext.push s' _) (I'.newLst p)) (p.length ▸ bN.mp hz)
theorem eG {es:List Expr} {fs:List (M MV)} {k:Nat} {pos:Pos} (h:dD C hd n sc es fs):aV C hd n sc (.Tuple es k pos) (M.bind (aO fs) fun l=>M.lift (pQ l)):=by
 intro A env G σ s hA I
 rw [arm_eval_Tuple]
 refine Tr.stand (Tr.bind (eK h hA I) fun l vs G' σ' s' st I' p=>?_)
 refine Tr.of_ext I' fun b e Q E h=>?_
 refine dG e fun hz e=>?_
 rw [←sJ e] at h
 exact jS (h _ _ (Ext.push s' _) (I'.newTup p)) (p.length ▸ bN.mp hz)
end
end Mine
end
section
open PySem PySem.W PyProof.Rows PySem.SeqAt
set_option tactic.hygienic false
namespace Mine
noncomputable def eqL (f:MV→MV→Option Bool):List MV→List MV→Option Bool
 | [],m=>(match m with| []=>some true|_::_=>none)
 | x::l,m=>(match m with| []=>none|y::m=>(f x y).bind fun a=>(eqL f l m).map (a && ·))
noncomputable def eqF (r:MV→MV→Option Bool) (x y:MV):Option Bool:=match x with
 | .int a=>(match y with| .int b=>some (a==b)|_=>none)
 | .bytes a=>(match y with| .bytes b=>some (a==b)|_=>none)
 | .none=>(match y with| .none=>some true|_=>none)
 | .bool a=>(match y with| .bool b=>some (a==b)|_=>none)
 | .lst a=>(match y with| .lst b=>if a.length==b.length then eqL r a b else some false|_=>none)
 | .tup a=>(match y with| .tup b=>eqL r a b|_=>none)
 | _=>none
noncomputable def eqD:Nat→MV→MV→Option Bool
 | 0=>fun _ _=>none
 | k+1=>eqF (eqD k)
theorem aFm {r:MV→MV→Option Bool} {P:MV→MV→Bool→Prop} (hi:∀a b,P (.int a) (.int b) (a==b)) (hb:∀a b,P (.bytes a) (.bytes b) (a==b)) (hn:P .none .none true) (ho:∀a b,P (.bool a) (.bool b) (a==b))
  (hl:∀a b c,(if a.length==b.length then eqL r a b else some false)=some c→P (.lst a) (.lst b) c) (ht:∀a b c,eqL r a b=some c→P (.tup a) (.tup b) c) {x y:MV} {b:Bool} (e:eqF r x y=some b):P x y b:=by
 cases x <;> first|exact aP e|skip
 ·cases y <;> first|exact aP e|(rw [←sJ e];exact hn)
 ·cases y <;> first|exact aP e|(rw [←sJ e];exact ho ..)
 ·cases y <;> first|exact aP e|(rw [←sJ e];exact hi ..)
 ·cases y <;> first|exact aP e|(rw [←sJ e];exact hb ..)
 ·cases y <;> first|exact aP e|exact ht _ _ _ e
 ·cases y <;> first|exact aP e|exact hl _ _ _ e
theorem uG {f:MV→MV→Option Bool} {l:List MV}:∀{m:List MV} {b:Bool},eqL f l m=some b→l.length=m.length∧∃g:Nat→Bool,(∀(i:Nat) x y,l[i]?=some x→m[i]?=some y→f x y=some (g i))∧b=(List.range l.length).all g:=by
 induction l with
 | nil=>intro m b e;cases m with
  | nil=>exact ⟨rfl,fun _=>true,fun i x y a=>aP a,(sJ e).symm⟩
  | cons=>exact aP e
 | cons x l ih=>intro m b e;cases m with
  | nil=>exact aP e
  | cons y m=>
   refine aJ (bind_eq_some_iff.mp e) fun a e1 e2=>?_
   refine aJ (map_eq_some_iff.mp e2) fun c e3 e4=>?_
   refine kG (ih e3) fun hl g hg hb=>?_
   refine ⟨congrArg (· +1) hl,fun i=>match i with|0=>a|i+1=>g i,fun i x' y' q r=>?_,?_⟩
   ·cases i with
    | zero=>rw [←sJ q,←sJ r];exact e1
    | succ i=>exact hg i x' y' q r
   ·rw [length_cons,List.range_succ_eq_map,List.all_cons,List.all_map,←e4,hb];rfl
theorem aDh {a b:Array UInt8} (h:bInts a=bInts b):a=b:=by
 have:∀l m:List UInt8,l.map (fun u=>(u.toNat:Int))=m.map (fun u=>(u.toNat:Int))→l=m:=by
  intro l
  induction l with
  | nil=>intro m h;cases m with
   | nil=>rfl
   | cons _ _=>simp at h
  | cons x l ih=>
   intro m h
   cases m with
   | nil=>simp at h
   | cons y m=>
    simp only [map_cons,List.cons.injEq] at h
    have e:x=y:=UInt8.toNat_inj.mp (by have:=h.1;lia)
    rw [e,ih m h.2]
 have:=this a.toList b.toList h
 exact Array.toList_inj.mp this
theorem rZ {h:Heap} {a:Addr} {xs ys:Array Value} (x:h.IsList a xs) (y:h.IsList a ys):xs=ys:=by
 (refine fJ x fun o e _ n d=>?_;try clear x)
 (refine fJ y fun o' e' _ n' d'=>?_;try clear y)
 rw [e] at e';(obtain rfl:=sJ e');rw [d] at d';cases d';rfl
theorem qK {h:Heap} {a:Addr} {xs ys:Array Value} (x:h.IsTuple a xs) (y:h.IsTuple a ys):xs=ys:=by
 (refine fJ x fun o e _ n d=>?_;try clear x)
 (refine fJ y fun o' e' _ n' d'=>?_;try clear y)
 rw [e] at e';(obtain rfl:=sJ e');rw [d] at d';cases d';rfl
theorem wH {G G':Gh} {h:Heap} {f:MV→MV→Option Bool} (hf:∀x y v b,aI G h x v→aI G' h y v→f x y=some b→b=true) {l m:List MV} {vs:List Value} {b:Bool} (r:aK G h l vs) (r':aK G' h m vs) (e:eqL f l m=some b):b=true:=by
 refine kG (uG e) fun hl g hg hb=>?_
 rw [hb,all_eq_true]
 intro i hi
 have hi:=getElem?_eq_getElem (mem_range.mp hi)
 refine aJ (r.get hi) fun v hv rx=>?_
 refine aJ (r'.get' hv) fun y hy ry=>?_
 exact hf _ _ _ _ rx ry (hg i _ _ hi hy)
theorem aFn {G G':Gh} {h:Heap}:∀(k:Nat) (x y:MV) (v:Value) (b:Bool),aI G h x v→aI G' h y v→eqD k x y=some b→b=true:=by
 intro k
 induction k with
 | zero=>intro x y v b _ _ e;exact aP e
 | succ k ih=>
  intro x y v b hx hy e
  revert hx hy
  refine aFm (P:=fun x y b=>aI G h x v→aI G' h y v→b=true) ?_ ?_ (fun _ _=>rfl) ?_ ?_ ?_ e
  ·intro a b hx;refine aI.int_e hx fun t hy=>?_;generalize hz:MV.int b=z at hy;cases hy;rw [MV.int.inj hz,beq_self_eq_true]
  ·intro a b hx;refine aI.bytes_e hx fun c t hy=>?_;generalize hz:MV.bytes b=z at hy;cases hy;rw [MV.bytes.inj hz,beq_self_eq_true]
  ·intro a b hx;refine aI.bool_e hx fun hy=>?_;generalize hz:MV.bool b=z at hy;cases hy;rw [MV.bool.inj hz,beq_self_eq_true]
  ·intro l m c e hx
   refine aI.lst_e hx fun vs a h1 h2 h3 hy=>?_
   generalize hz:Value.ref a=w at hy
   revert hz;refine aI.lst_e hy fun us a' g1 g2 g3 hz=>?_
   rw [←Value.ref.inj hz] at g1
   have q:us=vs:=congrArg Array.toList (rZ g1 h1)
   rw [q] at g3
   rw [if_pos (by rw [h3.length,g3.length,beq_self_eq_true])] at e
   exact wH ih h3 g3 e
  ·intro l m c e hx
   refine aI.tup_e hx fun vs a h1 h2 h3 hy=>?_
   generalize hz:Value.ref a=w at hy
   revert hz;refine aI.tup_e hy fun us a' g1 g2 g3 hz=>?_
   rw [←Value.ref.inj hz] at g1
   have q:us=vs:=congrArg Array.toList (qK g1 h1)
   rw [q] at g3
   exact wH ih h3 g3 e
theorem qL {A:Around} {s:Shared} {b c:Array UInt8} {t u:Tok}:RcAt A s (.bytes b t) (.bytes c u) (bInts b==bInts c)∧RcNeAt A s (.bytes b t) (.bytes c u) (!(bInts b==bInts c)):=by
 have e:(bInts b==bInts c)=(b.toList==c.toList):=by
  by_cases h:b=c
  ·subst h;simp
  ·have h1:¬bInts b=bInts c:=fun q=>h (aDh q)
   have h2:¬b.toList=c.toList:=fun q=>h (Array.toList_inj.mp q)
   rw [beq_eq_false_iff_ne.mpr h1,beq_eq_false_iff_ne.mpr h2]
 rw [e]
 exact ⟨fun prog w E Q h=>eq_bytes h,fun prog w E Q h=>ne_bytes (by simpa [bne] using h)⟩
theorem wI {A:Around} {s:Shared} {b c:Array UInt8} {t u:Tok}:EqAt A s (.bytes b t) (.bytes c u) (bInts b==bInts c):=fun prog w E Q hq=>by
 unfold eqBool
 refine wpAny_holding ?_
 refine wpAny_ite_split (fun hab=>?_) (fun _=>?_)
 ·have:=eq_of_beq hab
  injection this with e1 e2
  subst e1
  rw [beq_self_eq_true] at hq
  exact wB (wpAny_rule (wP hq))
 ·exact wB (qL.1 prog w E _ (wpAny_truthy_bool hq))
noncomputable def aFo (A:Around) (s:Shared) (v u:Value) (b:Bool):Prop:=EqAt A s v u b∧RcAt A s v u b∧RcNeAt A s v u (!b)
theorem aFp:∀(k:Nat) {G G':Gh} {x y:MV} {b:Bool},eqD k x y=some b→∀{A:Around} {s:Shared} {v u:Value},aI G s.heap x v→aI G' s.heap y u→A.units+k < cLine→aFo A s v u b:=by
 intro k
 induction k with
 | zero=>intro G G' x y b e;exact aP e
 | succ k ih=>
  intro G G' x y b e A s v u hx hy hA
  have sm:v=u→b=true:=fun q=>aFn (k+1) _ _ _ _ hx (q ▸ hy) e
  have hA1:A.units < cLine:=Nat.lt_of_le_of_lt (Nat.le_add_right ..) hA
  have hk:A.in1.units+k < cLine:=by show A.units+1+k < cLine;rw [Nat.add_right_comm];exact hA
  have fin:∀{l m:Addr} {b:Bool},(Value.ref l= .ref m→b=true)→RcAt A s (.ref l) (.ref m) b∧RcNeAt A s (.ref l) (.ref m) (!b)→aFo A s (.ref l) (.ref m) b:=fun {l m b} sm main=>by
   refine ⟨?_,main⟩
   by_cases hlm:l=m
   ·rw [hlm,sm (congrArg _ hlm)];exact EqAt.same _
   ·exact EqAt.of_refs hlm main.1
  have items:∀{a c:List MV} {vs us:List Value} {g:Nat→Bool},aK G s.heap a vs→aK G' s.heap c us→(∀(i:Nat) x y,a[i]?=some x→c[i]?=some y→eqD k x y=some (g i))→
    ∀j (w1:j < vs.toArray.size) (w2:j < us.toArray.size),EqAt A.in1 s vs.toArray[j] us.toArray[j] (g j):=fun {a c vs us g} h3 g3 hg j w1 w2=>by
   refine aJ (h3.get' (getElem?_eq_getElem (show j < vs.length by simpa using w1))) fun x' hx' rx=>?_
   refine aJ (g3.get' (getElem?_eq_getElem (show j < us.length by simpa using w2))) fun y' hy' ry=>?_
   exact (ih (hg j x' y' hx' hy') rx ry hk).1
  revert sm hx hy
  refine aFm (P:=fun x y b=>aI G s.heap x v→aI G' s.heap y u→(v=u→b=true)→aFo A s v u b) ?_ ?_ ?_ ?_ ?_ ?_ e
  ·intro a b hx hy _;refine aI.int_e hx fun t=>?_;refine aI.int_e hy fun t'=>?_;exact ⟨EqAt.int_int _ _ _ _,RcAt.int_int _ _ _ _,RcNeAt.int_int _ _ _ _⟩
  ·intro a b hx hy _;refine aI.bytes_e hx fun c t=>?_;refine aI.bytes_e hy fun c' t'=>?_;exact ⟨wI,qL⟩
  ·intro hx hy _;refine aI.none_e hx ?_;refine aI.none_e hy ?_;exact ⟨EqAt.same _,RcAt.none_none,RcNeAt.none_none⟩
  ·intro a b hx hy _;refine aI.bool_e hx ?_;refine aI.bool_e hy ?_;exact ⟨EqAt.bool_bool _ _,RcAt.bool_bool _ _,RcNeAt.bool_bool _ _⟩
  ·intro a c b e hx hy
   refine aI.lst_e hx fun vs l h1 h2 h3=>?_
   refine aI.lst_e hy fun us m g1 g2 g3 sm=>fin sm ?_
   have q1:vs.toArray.size=a.length:=h3.length.symm
   have q2:us.toArray.size=c.length:=g3.length.symm
   by_cases hl:a.length=c.length
   ·rw [if_pos (beq_iff_eq.mpr hl)] at e
    refine kG (uG e) fun _ g hg e_2=>?_
    have z1:=RcAt.lists h1 g1 (q1.trans (hl.trans q2.symm)) hA1 (items h3 g3 hg)
    have z2:=RcNeAt.lists h1 g1 (q1.trans (hl.trans q2.symm)) hA1 (items h3 g3 hg)
    rw [q1,←e_2] at z1 z2
    exact ⟨z1,z2⟩
   ·rw [if_neg (fun q=>hl (beq_iff_eq.mp q))] at e
    rw [←sJ e]
    have hsz:(vs.toArray.size !=us.toArray.size)=true:=by rw [q1,q2];exact bne_iff_ne.mpr hl
    exact ⟨RcAt.lists_lengths h1 g1 hsz hA1,RcNeAt.lists_lengths h1 g1 hsz hA1⟩
  ·intro a c b e hx hy
   refine aI.tup_e hx fun vs l h1 h2 h3=>?_
   refine aI.tup_e hy fun us m g1 g2 g3 sm=>fin sm ?_
   refine kG (uG e) fun hl g hg e_1=>?_
   have z1:=RcAt.tuples h1 g1 hA1 (items h3 g3 hg)
   have z2:=RcNeAt.tuples h1 g1 hA1 (items h3 g3 hg)
   rw [show vs.toArray.size=a.length from h3.length.symm,show us.toArray.size=a.length from g3.length.symm.trans hl.symm,Nat.min_self,beq_self_eq_true,Bool.and_true,←e_1] at z1 z2
   exact ⟨z1,z2⟩
theorem jT {prog:Program} {w:World} {A:Around} {E:Value→Shared→Prop} {s:Shared} {a b:Int} {t u:Tok} {Q:Bool→Shared→Prop} (h:Q (a==b) s):wpAny (model prog w) A (eqBool (.int a t) (.int b u)) Q E s:=EqAt.int_int _ _ _ _ prog w E Q h
theorem wJ {prog:Program} {w:World} {A:Around} {E:Value→Shared→Prop} {s:Shared} {a b:Int} {t u:Tok} {Q:Value→Shared→Prop} (h:Q (.bool (decide (a < b))) s):wpAny (model prog w) A (richCompare .Lt (.int a t) (.int b u)) Q E s:=lt_int (prog:=prog) (w:=w) h
theorem wK {prog:Program} {w:World} {A:Around} {E:Value→Shared→Prop} {s:Shared} {a b:Int} {t u:Tok} {Q:Value→Shared→Prop} (h:Q (.bool (decide (b < a))) s):wpAny (model prog w) A (richCompare .Gt (.int a t) (.int b u)) Q E s:=gt_int (prog:=prog) (w:=w) h
theorem sA (l b:Addr) (x0 x1 y0 y1:Int) (t0 t1 u0 u1:Tok) (n n2:Nat) (dd dd2:Option Addr) (sl sl2:Array (Option Value)):
  Meets (Builtin.«tuple.__lt__» ⟨[.ref l,.ref b],[]⟩)
   (fun A R s=>s.heap.get? l=some { cls:= .type "tuple",dict:=dd,data:= .seq #[.int x0 t0,.int x1 t1] n,slots:=sl }∧s.heap.get? b=some { cls:= .type "tuple",dict:=dd2,data:= .seq #[.int y0 u0,.int y1 u1] n2,slots:=sl2 }∧
    R (.ok (.ret (.bool (if x0=y0 then decide (x1 < y1) else decide (x0 < y0))))) s):=
 .of_wp fun prog w A R s h=>by
  obtain ⟨hp,g,d,tk,os⟩:=s;obtain ⟨hl,hb,h⟩:=h
  have f2:=AutoSeq1.sub_tuple_tuple
  wp_walk using wpAny_loadPart' hl,wpAny_loadPart' hb,jT
  cases e0:x0==y0 with
  | true=>
   rw [if_pos (by simpa using e0)] at h
   wp_walk using jT
   cases e1:x1==y1 with
   | true=>
    have e1:x1=y1:=by simpa using e1
    subst e1
    wp_walk
    rw [show decide (x1 < x1)=false from by simp] at h
    exact ⟨_,rfl,h⟩
   | false=>wp_walk using wJ;exact ⟨_,rfl,h⟩
  | false=>
   rw [if_neg (by simpa using e0)] at h
   wp_walk using wJ;exact ⟨_,rfl,h⟩
theorem sB (l b:Addr) (x0 x1 y0 y1:Int) (t0 t1 u0 u1:Tok) (n n2:Nat) (dd dd2:Option Addr) (sl sl2:Array (Option Value)):
  Meets (Builtin.«tuple.__gt__» ⟨[.ref l,.ref b],[]⟩)
   (fun A R s=>s.heap.get? l=some { cls:= .type "tuple",dict:=dd,data:= .seq #[.int x0 t0,.int x1 t1] n,slots:=sl }∧s.heap.get? b=some { cls:= .type "tuple",dict:=dd2,data:= .seq #[.int y0 u0,.int y1 u1] n2,slots:=sl2 }∧
    R (.ok (.ret (.bool (if x0=y0 then decide (y1 < x1) else decide (y0 < x0))))) s):=
 .of_wp fun prog w A R s h=>by
  obtain ⟨hp,g,d,tk,os⟩:=s;obtain ⟨hl,hb,h⟩:=h
  have f2:=AutoSeq1.sub_tuple_tuple
  wp_walk using wpAny_loadPart' hl,wpAny_loadPart' hb,jT
  cases e0:x0==y0 with
  | true=>
   rw [if_pos (by simpa using e0)] at h
   wp_walk using jT
   cases e1:x1==y1 with
   | true=>
    have e1:x1=y1:=by simpa using e1
    subst e1
    wp_walk
    rw [show decide (x1 < x1)=false from by simp] at h
    exact ⟨_,rfl,h⟩
   | false=>wp_walk using wK;exact ⟨_,rfl,h⟩
  | false=>
   rw [if_neg (by simpa using e0)] at h
   wp_walk using wK;exact ⟨_,rfl,h⟩
section
variable {C:Cx} {hd:Bool} {n:Nat} {sc:SC} {A:Around} {env:Env} {G:Gh} {σ:St} {s:Shared} {Q E:Value→Shared→Prop}
noncomputable def yT (i:Int):List MV→Option Bool
 | []=>some false
 | x::l=>oI x fun j=>(yT i l).map fun b=>j==i||b
noncomputable def uH:MV→Bool
 | .none=>true
 | _=>false
noncomputable def asI:MV→Option Int
 | .int i=>some i
 | _=>none
noncomputable def asP (x:MV):Option (Int×Int):=oT x fun l=>l2 l fun x y=>(asI x).bind fun a=>(asI y).map fun b=>(a,b)
noncomputable def aFq (op:CmpOp) (x y:MV):Option Bool:=(asI x).bind fun a=>(asI y).bind fun b=>aSe op a b
noncomputable def isM (x y:MV):Option Bool:=match y with
 | .none=>some (uH x)
 | .ty b=>oY x fun a=>some (a==b)
 | _=>none
noncomputable def aSg (x y:MV):Option Bool:=match y with
 | .none=>some (!uH x)
 | _=>none
noncomputable def inL (x y:MV):Option Bool:=oL y fun l=>(asI x).bind fun i=>yT i l
noncomputable def ltM (x y:MV):Option Bool:=match asP x with
 | some p=>(asP y).bind fun q=>some (if p.1=q.1 then decide (p.2 < q.2) else decide (p.1 < q.1))
 | none=>aFq .Lt x y
noncomputable def gtM (x y:MV):Option Bool:=match asP x with
 | some p=>(asP y).bind fun q=>some (if p.1=q.1 then decide (q.2 < p.2) else decide (q.1 < p.1))
 | none=>aFq .Gt x y
noncomputable def cG (op:CmpOp) (x y:MV):Option Bool:=match op with
 | .Is=>isM x y
 | .IsNot=>aSg x y
 | .In=>inL x y
 | .NotIn=>(inL x y).map (!·)
 | .Eq=>eqD 5 x y
 | .NotEq=>(eqD 5 x y).map (!·)
 | .Lt=>ltM x y
 | .Gt=>gtM x y
 | .LtE=>aFq .LtE x y
 | .GtE=>aFq .GtE x y
theorem aFr {x:MV} {i:Int} (e:asI x=some i):x= .int i:=by
 cases x <;> first|cases e;rfl|cases e
theorem nE {G:Gh} {h:Heap} {x:MV} {v:Value} {i:Int} (e:asI x=some i) (r:aI G h x v):∃t,v= .int i t:=by
 rw [aFr e] at r
 cases r;exact ⟨_,rfl⟩
theorem aFs {G:Gh} {h:Heap} {i:Int} {l:List MV} {vs:List Value} (r:aK G h l vs):∀{b:Bool},yT i l=some b→(∀v∈vs,∃j t,v= .int j t)∧b=vs.any (fun v=>match v with| .int j _=>j==i|_=>false):=
 r.li (P:=fun l vs=>∀{b:Bool},yT i l=some b→(∀v∈vs,∃j t,v= .int j t)∧b=vs.any (fun v=>match v with| .int j _=>j==i|_=>false)) (fun e=>⟨fun _ h=>(nomatch h),(sJ e).symm⟩) fun {x v l vs} hx t ih b e=>by
  refine kO e hx fun j tk e=>?_
  refine aJ (map_eq_some_iff.mp e) fun c e1 e2=>elA (ih e1) fun h1 h2=>⟨fun v hv=>(mem_cons.mp hv).elim (fun q=>⟨j,tk,q⟩) (h1 v),?_⟩
  rw [List.any_cons,←h2,e2]
theorem qM {G:Gh} {h:Heap} {x:MV} {v:Value} (r:aI G h x v):(v== .none)=uH x:=by
 cases r <;> rfl
theorem nF {a b:Int} {x:MV} {v:Value} (e:asP x=some (a,b)) (hx:aI G s.heap x v):∃l dd n sl t u,v= .ref l∧s.heap.get? l=some { cls:= .type "tuple",dict:=dd,data:= .seq #[.int a t,.int b u] n,slots:=sl }:=by
 refine aUh e hx fun l vs q h1 _ h3 e=>?_
 revert h1 h3
 refine aKh e fun y z e h1 h3=>?_
 revert h1
 refine aK.cons_e h3 fun v0 vs r0 h3=>?_
 refine aK.cons_e h3 fun v1 vs r1 h3=>?_
 refine aK.nil_e h3 fun h1=>?_
 refine aJ (bind_eq_some_iff.mp e) fun c e1 e2=>?_
 refine aJ (map_eq_some_iff.mp e2) fun d e3 e4=>?_
 obtain ⟨t,q0⟩:=nE e1 r0
 obtain ⟨u,q1⟩:=nE e3 r1
 rw [q0,q1,show c=a from congrArg Prod.fst e4,show d=b from congrArg Prod.snd e4] at h1
 refine fJ h1 fun o ho hc n hd=>?_
 obtain ⟨cls,dd,data,sl⟩:=o
 rw [show cls= .type "tuple" from hc,show data=_ from hd] at ho
 exact ⟨_,dd,n,sl,t,u,rfl,ho⟩
theorem jU {op:CmpOp} {x y:MV} {b:Bool} {v u:Value} (e:aFq op x y=some b) (hx:aI G s.heap x v) (hy:aI G s.heap y u) (h:Q (.bool b) s):wpAny (model C.prog C.w) A (compareOp op v u) Q E s:=by
 refine aJ (bind_eq_some_iff.mp e) fun i e1 e2=>?_
 refine aJ (bind_eq_some_iff.mp e2) fun j e3 e4=>?_
 obtain ⟨t,rfl⟩:=nE e1 hx
 obtain ⟨t',rfl⟩:=nE e3 hy
 exact yS e4 h
theorem aBd {x y:MV} {b:Bool} {v u:Value} (e:inL x y=some b) (hx:aI G s.heap x v) (hy:aI G s.heap y u):∃i t a vs,v= .int i t∧u= .ref a∧s.heap.IsList a (List.toArray vs)∧(∀w∈vs,∃j t,w= .int j t)∧b=vs.any (fun v=>match v with| .int j _=>j==i|_=>false):=by
 refine aKi e hy fun l vs a h1 _ h3 e=>?_
 refine aJ (bind_eq_some_iff.mp e) fun i e1 e2=>?_
 obtain ⟨t,q⟩:=nE e1 hx
 exact elA (aFs h3 e2) fun q1 q2=>⟨i,t,a,vs,q,rfl,h1,q1,q2⟩
theorem aFt {i:Int} {t:Tok} {vs:List Value} (h:∀w∈vs,∃j t,w= .int j t):∀y∈vs.toArray,EqAt A s y (.int i t) ((fun v=>match v with| .int j _=>j==i|_=>false) y):=fun y hy=>by
 (refine yO (h y (by simpa using hy)) fun j t' e_19=>?_;obtain rfl:=e_19)
 exact EqAt.int_int _ _ _ _
theorem aDi {x y:MV} {b:Bool} {v u:Value} (hu:A.units+5 < cLine) (e:ltM x y=some b) (hx:aI G s.heap x v) (hy:aI G s.heap y u) (h:Q (.bool b) s):wpAny (model C.prog C.w) A (compareOp .Lt v u) Q E s:=by
 cases e1:asP x with
 | none=>delta ltM at e;rw [e1] at e;exact jU e hx hy h
 | some p=>
  delta ltM at e;rw [e1] at e
  refine aJ (bind_eq_some_iff.mp e) fun q e2 e=>?_
  (refine jG (nF e1 hx) fun l dd n sl t w e_18 ho=>?_;obtain rfl:=e_18)
  (refine jG (nF e2 hy) fun l2 dd2 n2 sl2 t2 w2 e_17 ho2=>?_;obtain rfl:=e_17)
  rw [←sJ e] at h
  exact richCompare_meets_room (op:= .Lt) ⟨_,ho,rfl⟩ ⟨_,ho2,rfl⟩ F.slot_tuple_lt F.entry_tuple_lt (F.args_tuple_lt_2 _ _) (sA l l2 _ _ _ _ t w t2 w2 n n2 dd dd2 sl sl2) ⟨ho,ho2,⟨(fun x=>nomatch x),h⟩⟩ (by lia)
theorem aDj {x y:MV} {b:Bool} {v u:Value} (hu:A.units+5 < cLine) (e:gtM x y=some b) (hx:aI G s.heap x v) (hy:aI G s.heap y u) (h:Q (.bool b) s):wpAny (model C.prog C.w) A (compareOp .Gt v u) Q E s:=by
 cases e1:asP x with
 | none=>delta gtM at e;rw [e1] at e;exact jU e hx hy h
 | some p=>
  delta gtM at e;rw [e1] at e
  refine aJ (bind_eq_some_iff.mp e) fun q e2 e=>?_
  (refine jG (nF e1 hx) fun l dd n sl t w e_16 ho=>?_;obtain rfl:=e_16)
  (refine jG (nF e2 hy) fun l2 dd2 n2 sl2 t2 w2 e_15 ho2=>?_;obtain rfl:=e_15)
  rw [←sJ e] at h
  exact richCompare_meets_room (op:= .Gt) ⟨_,ho,rfl⟩ ⟨_,ho2,rfl⟩ F.slot_tuple_gt F.entry_tuple_gt (F.args_tuple_gt_2 _ _) (sB l l2 _ _ _ _ t w t2 w2 n n2 dd dd2 sl sl2) ⟨ho,ho2,⟨(fun x=>nomatch x),h⟩⟩ (by lia)
theorem aQm (a b:String):(Value.type a==Value.type b)=(a==b):=by
 by_cases q:a=b
 ·subst q;simp
 ·have:¬Value.type a=Value.type b:=fun e=>q (Value.type.inj e)
  rw [beq_eq_false_iff_ne.mpr q,beq_eq_false_iff_ne.mpr this]
theorem aDk {x y:MV} {b:Bool} {v u:Value} (e:isM x y=some b) (hx:aI G s.heap x v) (hy:aI G s.heap y u) (h:Q (.bool b) s):wpAny (model C.prog C.w) A (compareOp .Is v u) Q E s:=by
 cases hy <;> first|exact aP e|skip
 ·rw [←sJ e,←qM hx] at h;exact is_none h
 ·refine aQk e hx fun a e=>?_
  refine wpAny_is_plain rfl ?_
  rw [aQm,sJ e];exact h
theorem jJ {op:CmpOp} {x y:MV} {b:Bool} {v u:Value} (hA:A.units≤9000) (e:cG op x y=some b) (hx:aI G s.heap x v) (hy:aI G s.heap y u)
  (h:Q (.bool b) s):wpAny (model C.prog C.w) A (compareOp op v u) Q E s:=by
 have hu:A.units+5 < cLine:=by show _ < 9900;lia
 cases op with
 | Is=>exact aDk e hx hy h
 | IsNot=>
  have e:aSg x y=some b:=e
  cases hy <;> first|exact aP e|skip
  rw [←sJ e,←qM hx] at h;exact isNot_none h
 | In=>
  (refine qE (aBd e hx hy) fun i t a vs e_12 e_13 h1 h2 e_14=>?_;obtain rfl:=e_12;obtain rfl:=e_13;obtain rfl:=e_14)
  exact in_listAt (fun v=>match v with| .int j _=>j==i|_=>false) h1 (aFt h2) (by rw [List.any_toArray];exact h)
 | NotIn=>
  (refine aJ (map_eq_some_iff.mp e) fun c e1 e_11=>?_;obtain rfl:=e_11)
  (refine qE (aBd e1 hx hy) fun i t a vs e_8 e_9 h1 h2 e_10=>?_;obtain rfl:=e_8;obtain rfl:=e_9;obtain rfl:=e_10)
  exact notIn_listAt (fun v=>match v with| .int j _=>j==i|_=>false) h1 (aFt h2) (by rw [List.any_toArray];exact h)
 | Eq=>exact (aFp 5 e hx hy hu).2.1 _ _ _ _ h
 | NotEq=>
  (refine aJ (map_eq_some_iff.mp e) fun c e1 e_7=>?_;obtain rfl:=e_7)
  exact (aFp 5 e1 hx hy hu).2.2 _ _ _ _ h
 | Lt=>exact aDi hu e hx hy h
 | Gt=>exact aDj hu e hx hy h
 | LtE=>exact jU e hx hy h
 | GtE=>exact jU e hx hy h
theorem AOk.u {A:Around} (h:AOk hd n A):A.units≤9000:=by have:=h.units;lia
theorem uI {l r:Expr} {op:CmpOp} {pos:Pos} {f g:M MV} (hl:aV C hd n sc l f) (hr:aV C hd n sc r g) (hb:autoParam (behindInMarks op r=false) aX._auto_1):
  aV C hd n sc (.Compare l [op] [r] pos) (M.bind f fun x=>M.bind g fun y=>M.bind (M.lift (cG op x y)) fun b=>M.pure (.bool b)):=by
 intro A env G σ s hA I
 rw [eval_Compare1,markedBehindIn_of_false hb]
 refine Tr.bind (hl A env G σ s hA I) fun x v G' σ' s' st I' p=>Tr.bind (Tr.holding (hr A env G' σ' s' hA I')) fun y u G'' σ'' s'' st' I'' p'=>Tr.stand (Tr.operate ?_)
 intro r σ₁ e
 focus (refine elrEAoEEA (M.bind_some e) (fun k e1 r_2=>?_) fun b σ₂ e1 e2=>?_;obtain rfl:=r_2;rotate_left;rotate_left)
 ·exact (M.lift_exc e1).elim
 ·(refine bG (M.lift_some e1) fun c ec q e_6=>?_;obtain rfl:=e_6)
  cases q;cases e2
  exact jJ hA.u ec (p.step I'.g st') p' ⟨_,G'',rfl,bB.refl _ _,I'',.bool _⟩
theorem aM {l r:Expr} {op:CmpOp} {pos:Pos} {f g:M MV} (hl:aV C hd n sc l f) (hr:aV C hd n sc r g) (hb:autoParam (behindInMarks op r=false) aX._auto_1):
  mL C hd n sc (.Compare l [op] [r] pos) (M.bind f fun x=>M.bind g fun y=>M.lift (cG op x y)):=by
 intro A env G σ s hA I
 rw [isTrue_Compare1,markedBehindIn_of_false hb]
 refine Tr.bind (hl A env G σ s hA I) fun x v G' σ' s' st I' p=>?_
 refine Tr.bind (Tr.holding (hr A env G' σ' s' hA I')) fun y u G'' σ'' s'' st' I'' p'=>Tr.stand ?_
 intro r σ₁ e
 (refine bG (M.lift_some e) fun c ec e_4 e_5=>?_;obtain rfl:=e_4;obtain rfl:=e_5)
 refine wB (wpAny_operate' (jJ hA.u ec (p.step I'.g st') p' ?_))
 exact wpAny_holding (wpAny_truthy_bool ⟨c,G'',rfl,bB.refl _ _,I'',rfl⟩)
theorem oE {l r₁ r₂:Expr} {o₁ o₂:CmpOp} {pos:Pos} {f g k:M MV} (hl:aV C hd n sc l f) (h1:aV C hd n sc r₁ g) (h2:aV C hd n sc r₂ k) (hb:autoParam (lastMarks [o₁,o₂] [r₁,r₂]=false) aX._auto_1):
  mL C hd n sc (.Compare l [o₁,o₂] [r₁,r₂] pos) (M.bind f fun x=>M.bind g fun y=>M.bind (M.lift (cG o₁ x y)) fun b=>match b with|true=>M.bind k fun z=>M.lift (cG o₂ y z)|false=>M.pure false):=by
 intro A env G σ s hA I
 show Tr C sc A env G σ s (eval l env >>=fun v=>testChain pos v [o₁,o₂] (markedEach [o₁,o₂] [r₁,r₂] (evalEach [r₁,r₂] env))) _ _
 rw [markedEach_of_false _ _ _ hb]
 refine Tr.bind (hl A env G σ s hA I) fun x v G' σ' s' st I' p=>?_
 show Tr C sc A env G' σ' s' (holding [v] (eval r₁ env) >>=fun rv=>standAt pos >>=fun _=>holding [v,rv] (compareOp o₁ v rv) >>=fun c=>release [v,rv] [c] >>=fun _=>holding [c,rv] (truthy c) >>=fun t=>
  if t=true then testChain pos rv [o₂] [eval r₂ env] else pure false) _ _
 refine Tr.bind (Tr.holding (h1 A env G' σ' s' hA I')) fun y u G'' σ'' s'' st' I'' p'=>Tr.stand ?_
 intro r σ₁ e
 focus (refine elrEAoEEA (M.bind_some e) (fun k e1 r_1=>?_) fun b σ₂ e1 e2=>?_;obtain rfl:=r_1;rotate_left;rotate_left)
 ·exact (M.lift_exc e1).elim
 ·(refine bG (M.lift_some e1) fun c ec q e_3=>?_;obtain rfl:=e_3)
  (obtain rfl:=eU q)
  refine wB (wpAny_holding (jJ hA.u ec (p.step I'.g st') p' (wB (wpAny_release' (wB (wpAny_holding (wpAny_truthy_bool ?_)))))))
  cases b with
  | false=>cases e2;exact wP ⟨_,G'',rfl,bB.refl _ _,I'',rfl⟩
  | true=>
   rw [if_pos rfl]
   show wpAny _ A (holding [u] (eval r₂ env) >>=fun rv=>standAt pos >>=fun _=>operate [u,rv] (compareOp o₂ u rv) >>=fun c=>holding [c] (truthy c)) _ _ s''
   have key:Tr C sc A env G'' σ₂ s'' (holding [u] (eval r₂ env) >>=fun rv=>standAt pos >>=fun _=>operate [u,rv] (compareOp o₂ u rv) >>=fun c=>holding [c] (truthy c)) (M.bind k fun z=>M.lift (cG o₂ y z)) (fun _ _ x v=>x=v):=by
    refine Tr.bind (Tr.holding (h2 A env G'' σ₂ s'' hA I'')) fun z w G3 σ3 s3 st3 I3 p3=>Tr.stand ?_
    intro r σ₁ e
    (refine bG (M.lift_some e) fun c ec e_1 e_2=>?_;obtain rfl:=e_1;obtain rfl:=e_2)
    refine wB (wpAny_operate' (jJ hA.u ec (p'.step I''.g st3) p3 ?_))
    exact wpAny_holding (wpAny_truthy_bool ⟨c,G3,rfl,bB.refl _ _,I3,rfl⟩)
   exact key r σ₁ e2
noncomputable def trM (x:MV):Option Bool:=match x with
 | .none=>some false
 | .bool b=>some b
 | .int i=>some (i !=0)
 | .lst l=>if cC l.length then some (l.length !=0) else none
 | _=>none
set_option tactic.hygienic true in
theorem qN {x:MV} {b:Bool} {v:Value} {Q:Bool→Shared→Prop} (e:trM x=some b) (hx:aI G s.heap x v) (h:∀s',Ext s s'→Q b s'):wpAny (model C.prog C.w) A (truthy v) Q E s:=by
 cases hx <;> first|exact aP e|skip
 ·rw [←sJ e] at h;exact truthy_none (h _ (Ext.refl s))
 ·rw [←sJ e] at h;exact wpAny_truthy_bool (h _ (Ext.refl s))
 ·rw [←sJ e] at h;exact PyProof.Rows.truthy_int (h _ (Ext.refl s))
 ·rename_i l vs a h1 h2 h3
  by_cases hz:cC l.length=true
  ·rw [show trM (.lst l)=some (l.length !=0) from if_pos hz] at e
   have:=bN.mp hz
   have q:=h3.length
   refine wpAny_truthy_list h1 (by rw [size_toArray];lia) ?_
   have e':(!vs.toArray.isEmpty)=(l.length !=0):=by rw [q];cases vs <;> rfl
   rw [e',sJ e];exact h _ (Ext.toks s _)
  ·exact aP ((if_neg hz:trM (.lst l)=none).symm.trans e)
theorem cO {e:Expr} {f:M MV} (he:aV C hd n sc e f) (hw:autoParam (∀env (w:Sem Value),isTrue e env w=(w >>=fun v=>standAt e.pos >>=fun _=>holding [v] (truthy v))) nB._auto_1):
  mL C hd n sc e (M.bind f fun x=>M.lift (trM x)):=by
 intro A env G σ s hA I
 rw [hw]
 refine Tr.bind (he A env G σ s hA I) fun x v G' σ' s' st I' p=>Tr.stand (Tr.holding ?_)
 exact Tr.of_ext I' fun b e Q E h=>qN e p fun s'' x=>h _ _ x rfl
theorem kR {e:Expr} {pos:Pos} {f:M Bool} (he:mL C hd n sc e f):mL C hd n sc (.UnaryOp .Not e pos) (M.bind f fun b=>M.pure (!b)):=by
 intro A env G σ s hA I
 show Tr C sc A env G σ s (isTrue e env (eval e env) >>=fun b=>pure (!b)) _ _
 exact Tr.bind (he A env G σ s hA I) fun x v G' σ' s' st I' p=>Tr.pure I' (by rw [p])
noncomputable def andM (f g:M Bool):M Bool:=M.bind f fun b=>match b with|true=>g|false=>M.pure false
noncomputable def orM (f g:M Bool):M Bool:=M.bind f fun b=>match b with|true=>M.pure true|false=>g
noncomputable def aDl (C:Cx) (hd:Bool) (n:Nat) (sc:SC) (op:BoolOp) (es:List Expr) (f:M Bool):Prop:=
 ∀A env G σ s,AOk hd n A→Inv C sc A env G σ s→Tr C sc A env G σ s (allTrue op es env) f (fun _ _ x v=>x=v)
theorem iH {op:BoolOp}:aDl C hd n sc op [] (M.pure (op== .And)):=fun A env G σ s hA I=>Tr.pure I rfl
theorem eV {e:Expr} {es:List Expr} {f g:M Bool} (he:mL C hd n sc e f) (hes:aDl C hd n sc .And es g):aDl C hd n sc .And (e::es) (andM f g):=by
 intro A env G σ s hA I
 show Tr C sc A env G σ s (isTrue e env (eval e env) >>=fun b=>match BoolOp.And,b with| .And,false=>pure false| .Or,true=>pure true|_,_=>allTrue .And es env) _ _
 refine Tr.bind (he A env G σ s hA I) fun x v G' σ' s' st I' p=>?_
 subst p
 cases x
 ·exact Tr.pure I' rfl
 ·exact hes A env G' σ' s' hA I'
theorem dN {e:Expr} {es:List Expr} {f g:M Bool} (he:mL C hd n sc e f) (hes:aDl C hd n sc .Or es g):aDl C hd n sc .Or (e::es) (orM f g):=by
 intro A env G σ s hA I
 show Tr C sc A env G σ s (isTrue e env (eval e env) >>=fun b=>match BoolOp.Or,b with| .And,false=>pure false| .Or,true=>pure true|_,_=>allTrue .Or es env) _ _
 refine Tr.bind (he A env G σ s hA I) fun x v G' σ' s' st I' p=>?_
 subst p
 cases x
 ·exact hes A env G' σ' s' hA I'
 ·exact Tr.pure I' rfl
theorem gA {op:BoolOp} {es:List Expr} {pos:Pos} {f:M Bool} (h:aDl C hd n sc op es f):mL C hd n sc (.BoolOp op es pos) f:=h
theorem aKl {a b:Expr} {pos:Pos} {f g:M MV} (ha:aV C hd n sc a f) (hb:aV C hd n sc b g):aV C hd n sc (.BoolOp .And [a,b] pos) (M.bind f fun x=>M.bind (M.lift (trM x)) fun t=>match t with|true=>g|false=>M.pure x):=by
 intro A env G σ s hA I
 show Tr C sc A env G σ s (eval a env >>=fun v=>standAt pos >>=fun _=>holding [v] (truthy v) >>=fun t=>match BoolOp.And,t with| .And,false=>pure v| .Or,true=>pure v|_,_=>eval b env) _ _
 refine Tr.bind (ha A env G σ s hA I) fun x v G' σ' s' st I' p=>Tr.stand (Tr.bind (P:=fun _ _ (x y:Bool)=>x=y) (Tr.holding (Tr.of_ext I' fun b e Q E h=>qN e p fun s'' x=>h b _ x rfl)) fun t u G'' σ'' s'' st' I'' p'=>?_)
 subst p'
 cases t
 ·exact Tr.pure I'' (p.step I'.g st')
 ·exact hb A env G'' σ'' s'' hA I''
theorem aQn {a b:Expr} {pos:Pos} {f g:M MV} (ha:aV C hd n sc a f) (hb:aV C hd n sc b g):aV C hd n sc (.BoolOp .Or [a,b] pos) (M.bind f fun x=>M.bind (M.lift (trM x)) fun t=>match t with|true=>M.pure x|false=>g):=by
 intro A env G σ s hA I
 show Tr C sc A env G σ s (eval a env >>=fun v=>standAt pos >>=fun _=>holding [v] (truthy v) >>=fun t=>match BoolOp.Or,t with| .And,false=>pure v| .Or,true=>pure v|_,_=>eval b env) _ _
 refine Tr.bind (ha A env G σ s hA I) fun x v G' σ' s' st I' p=>Tr.stand (Tr.bind (P:=fun _ _ (x y:Bool)=>x=y) (Tr.holding (Tr.of_ext I' fun b e Q E h=>qN e p fun s'' x=>h b _ x rfl)) fun t u G'' σ'' s'' st' I'' p'=>?_)
 subst p'
 cases t
 ·exact hb A env G'' σ'' s'' hA I''
 ·exact Tr.pure I'' (p.step I'.g st')
theorem sV {t a b:Expr} {pos:Pos} {c:M Bool} {f g:M MV} (ht:mL C hd n sc t c) (ha:aV C hd n sc a f) (hb:aV C hd n sc b g):
  aV C hd n sc (.IfExp t a b pos) (M.bind c fun x=>match x with|true=>f|false=>g):=by
 intro A env G σ s hA I
 show Tr C sc A env G σ s (isTrue t env (eval t env) >>=fun x=>if x=true then eval a env else eval b env) _ _
 refine Tr.bind (ht A env G σ s hA I) fun x v G' σ' s' st I' p=>?_
 subst p
 cases x
 ·exact hb A env G' σ' s' hA I'
 ·exact ha A env G' σ' s' hA I'
end
section
variable {C:Cx} {hd:Bool} {n:Nat} {sc:SC} {A:Around} {env:Env} {G:Gh} {σ:St} {s:Shared} {Q E:Value→Shared→Prop}
noncomputable def aL (x:Nat) (y:MV):List (Nat×MV)→List (Nat×MV)
 | []=> [(x,y)]
 | p::r=>match Nat.beq p.1 x with
  | true=>(x,y)::r
  | false=>p::aL x y r
theorem aS (x:Nat) (y:MV) (z:Nat):∀r:List (Nat×MV),(aL x y r).lookup z=if z=x then some y else r.lookup z
 | []=>by
  show List.lookup z [(x,y)]=_
  rw [lookup_cons]
  by_cases h:z=x
  ·subst h;simp
  ·simp [h,beq_eq_false_iff_ne.mpr h]
 | p::r=>by
  unfold aL
  cases q:Nat.beq p.1 x with
  | true=>
   have q:p.1=x:=Nat.eq_of_beq_eq_true q
   simp only [lookup_cons]
   by_cases h:z=x
   ·subst h;simp
   ·have h':(z==p.1)=false:=beq_eq_false_iff_ne.mpr (by rw [q];exact h)
    obtain ⟨p1,p2⟩:=p
    simp only at q
    subst q
    simp [h,beq_eq_false_iff_ne.mpr h,lookup_cons]
  | false=>
   have q:p.1≠x:=Nat.ne_of_beq_eq_false q
   obtain ⟨p1,p2⟩:=p
   simp only [lookup_cons]
   simp only at q
   by_cases h:z=p1
   ·subst h;simp [q]
   ·rw [beq_eq_false_iff_ne.mpr h];exact aS x y z r
theorem bB.upd {a:Addr} {h':Heap} {t:Nat} (ho:G.own a) (hs:Heap.SameBut a s.heap h') (ha:∃o',h'.get? a=some o'):bB G s G { s with heap:=h',toks:=t } where
 keep:=fun b o e n _=>(hs.2 b (fun q=>n (q ▸ ho))).trans e
 slots:=fun b o e n=>⟨o.slots,(hs.2 b (fun q=>n (q ▸ ho))).trans e⟩
 alive:=fun b o e=>by
  by_cases q:b=a
  ·subst q;exact ha
  ·exact ⟨o,(hs.2 b q).trans e⟩
 W:=fun _ q=>q
 W':=fun _ q=> .inl q
 own:=fun _ q=>q
 own':=fun _ q=> .inl q
 frs:=rfl
 phi:=⟨[],by simp⟩
 gens:=rfl
 os:=rfl
theorem bB.gok {G G':Gh} {s s':Shared} (g:GOk G s.heap) (t:bB G s G' s') (hG:G'=G):GOk G' s'.heap:=by
 subst hG
 exact ⟨g.own,g.frs,fun a q=>let ⟨o,e⟩:=g.lt a q;t.alive a o e⟩
theorem nG {h:Heap} {a:Addr} {m:Str→Option Value} {v:Option Value} (x:h.Ns a m) (y:h.IsCell a v):False:=by
 (refine mZ x fun o es ep e d _=>?_;try clear x)
 (refine aJ y fun o' e' d'=>?_;try clear y)
 rw [e] at e';(obtain rfl:=sJ e');rw [d] at d';cases d'
theorem wL {x:Nat} {k:NameKind} {y:MV} {v:Value} {Q:Unit→Shared→Prop} (I:Inv C sc A env G σ s) (hk:sc.lookup x=some k) (hk':k= .local∨k= .cell) (r:aI G s.heap y v)
  (h:∀s',bB G s G s'→Inv C sc A env G { σ with r:=aL x y σ.r } s'→Q () s'):wpAny (model C.prog C.w) A (storeName env (nm x) v) Q E s:=by
 have hkk:=I.ok.kinds x k hk (by rcases hk' with rfl|rfl <;> decide)
 have hx:=I.ok.small x k hk
 rcases hk' with rfl|rfl
 ·refine aJ (I.vars.loc) fun m hn hm=>?_
  refine wpAny_storeName_local hkk hn (fun h' hn' hs'=>?_) (by rw [I.ok.kind];rfl)
  have st:bB G s G { s with heap:=h',toks:=s.toks+1 }:=bB.upd I.vars.ownL hs' (let ⟨o,_,_,e,_⟩:=hn';⟨o,e⟩)
  have ne:∀c ov,s.heap.IsCell c ov→c≠env.locals:=fun c ov q e=>nG hn (e ▸ q)
  refine h _ st ⟨fun a o e=>(hs'.2 a (fun q=>by rw [q,I.baseW _ (I.g.own _ I.vars.ownL)] at e;exact aP e)).trans (I.x0 a o e),I.baseW,I.gens,I.os,I.ok,st.gok I.g rfl,⟨?_,?_,I.vars.ownL,I.vars.ownC,I.vars.apart⟩,?_,I.apart,I.lnk,fun a q=>?_,fun q=>(I.held q).step st⟩
  ·refine ⟨_,hn',fun z w hz hw=>?_⟩
   rw [aS] at hw
   by_cases q:z=x
   ·subst q
    rw [if_pos rfl] at hw;(obtain rfl:=sJ hw)
    exact ⟨v,by simp,r.step I.g st⟩
   ·rw [if_neg q] at hw
    refine aJ (hm z w hz hw) fun u hu ru=>?_
    have:nm z≠nm x:=fun e=>q (uD (I.ok.small z _ hz) hx e)
    exact ⟨u,by simp [this,hu],ru.step I.g st⟩
  ·intro z kz hz hkz
   refine cD (I.vars.cel z kz hz hkz) fun c ov hc hi hr=>?_
   refine ⟨c,ov,hc,hi.sameBut hs' (ne c ov hi),fun w hw=>?_⟩
   rw [aS] at hw
   have q:z≠x:=by rintro rfl;rw [hk] at hz;(obtain rfl:=sJ hz);rcases hkz with q|q <;> cases q
   rw [if_neg q] at hw
   refine aJ (hr w hw) fun u hu ru=>?_
   exact ⟨u,hu,ru.step I.g st⟩
  ·exact ⟨I.cells.len,I.cells.own,I.cells.inj,I.cells.nfr,fun n a x e e'=>let ⟨o,ho,q⟩:=I.cells.at' n a x e e';⟨o,(hs'.2 a (I.apart n a e).1).trans ho,q.mono (fun _ _ z=>z.step I.g st) fun _ _ q=>q⟩⟩
  ·by_cases e:a=env.locals
   ·exact e ▸ ⟨_,hn'⟩
   ·obtain ⟨m,y⟩:=I.frs a q;exact ⟨m,y.sameBut hs' e⟩
 ·refine cD (I.vars.cel x _ hk (.inl rfl)) fun c ov hc hi hr=>?_
  refine wpAny_storeName_cell I.ok.kind hkk hc hi fun h' hc' hs'=>?_
  have oc:=I.vars.ownC x c hk hc
  have st:bB G s G { s with heap:=h' }:=bB.upd oc hs' (let ⟨o,e,_⟩:=hc';⟨o,e⟩)
  refine aJ (I.vars.loc) fun m hn hm=>?_
  have ne:env.locals≠c:=fun e=>nG hn (e ▸ hi)
  refine h _ st ⟨fun a o e=>(hs'.2 a (fun q=>by rw [q,I.baseW _ (I.g.own _ oc)] at e;exact aP e)).trans (I.x0 a o e),I.baseW,I.gens,I.os,I.ok,st.gok I.g rfl,⟨?_,?_,I.vars.ownL,I.vars.ownC,I.vars.apart⟩,?_,I.apart,I.lnk,fun a q=>?_,fun q=>(I.held q).step st⟩
  ·refine ⟨m,hn.sameBut hs' ne,fun z w hz hw=>?_⟩
   rw [aS] at hw
   have q:z≠x:=by rintro rfl;rw [hk] at hz;cases hz
   rw [if_neg q] at hw
   refine aJ (hm z w hz hw) fun u hu ru=>?_
   exact ⟨u,hu,ru.step I.g st⟩
  ·intro z kz hz hkz
   by_cases q:z=x
   ·subst q
    refine ⟨c,some v,hc,hc',fun w hw=>?_⟩
    rw [aS,if_pos rfl] at hw;(obtain rfl:=sJ hw)
    exact ⟨v,rfl,r.step I.g st⟩
   ·refine cD (I.vars.cel z kz hz hkz) fun c' ov' hc'' hi' hr'=>?_
    have:c'≠c:=fun e=>q (I.vars.apart z x c (e ▸ hc'') hc (I.ok.small z _ hz) hx)
    refine ⟨c',ov',hc'',hi'.sameBut hs' this,fun w hw=>?_⟩
    rw [aS,if_neg q] at hw
    refine aJ (hr' w hw) fun u hu ru=>?_
    exact ⟨u,hu,ru.step I.g st⟩
  ·exact ⟨I.cells.len,I.cells.own,I.cells.inj,I.cells.nfr,fun n a x' e e'=>let ⟨o,ho,q⟩:=I.cells.at' n a x' e e';⟨o,(hs'.2 a ((I.apart n a e).2 x c hk hc)).trans ho,q.mono (fun _ _ z=>z.step I.g st) fun _ _ q=>q⟩⟩
  ·obtain ⟨m,y⟩:=I.frs a q
   exact ⟨m,y.sameBut hs' fun e=>nG (e ▸ y) hi⟩
noncomputable def bE (x:Nat) (y:MV):M Unit:=fun σ=>some (.ok (),{ σ with r:=aL x y σ.r })
noncomputable def cZ:Option NameKind→Bool
 | some .local=>true|some .cell=>true|_=>false
theorem sW {o:Option NameKind} (h:cZ o=true):∃k,o=some k∧(k= .local∨k= .cell):=by
 cases o with
 | none=>exact jI h
 | some k=>cases k <;> first|exact ⟨_,rfl,.inl rfl⟩|exact ⟨_,rfl,.inr rfl⟩|exact jI h
theorem eM {x:Nat} {y:MV} {v:Value} (I:Inv C sc A env G σ s) (hk:cZ (sc.lookup x)=true) (r:aI G s.heap y v):
  Tr C sc A env G σ s (bindName env (nm x) v) (bE x y) (fun _ _ _ _=>True):=by
 intro r' σ' e
 (have q_:=aZ e;clear e;obtain ⟨rfl,rfl⟩:=q_)
 refine aJ (sW hk) fun k hk hk'=>?_
 exact wpAny_bindName (wL I hk hk' r fun s' st I'=>⟨(),G,rfl,st,I',trivial⟩)
end
section
variable {C:Cx} {hd:Bool} {n:Nat} {sc:SC} {A:Around} {env:Env} {G:Gh} {σ:St} {s:Shared} {Q E:Value→Shared→Prop}
theorem Tr.then_pure {α β γ δ:Type} {t:Sem α} {f:M β} {P:Gh→Heap→β→α→Prop} {P':Gh→Heap→δ→γ→Prop} {a:γ} {b:δ} (x:Tr C sc A env G σ s t f P) (h:∀G h,P' G h b a):
  Tr C sc A env G σ s (t >>=fun _=>Pure.pure a) (M.bind f fun _=>M.pure b) P':=
 Tr.bind x fun _ _ G' σ' s' _ I' _=>Tr.pure I' (h _ _)
noncomputable def bS (f g:M Fl):M Fl:=M.bind f fun fl=>match fl with
 | .next=>g
 | o=>M.pure o
theorem aN:bQ C hd n sc [] (M.pure .next):=fun A env G σ s hA I=>Tr.pure I .next
theorem aC {t:Stmt} {ts:List Stmt} {f g:M Fl} (h:fK C hd n sc t f) (hs:bQ C hd n sc ts g):bQ C hd n sc (t::ts) (bS f g):=by
 intro A env G σ s hA I
 rw [execs_cons]
 refine Tr.bind (h A env G σ s hA I) fun x v G' σ' s' st I' p=>?_
 cases p with
 | next=>exact hs A env G' σ' s' hA I'
 | brk=>exact Tr.pure I' .brk
 | cont=>exact Tr.pure I' .cont
 | ret q=>exact Tr.pure I' (.ret q)
theorem aE {t:Stmt} {f:M Fl} (h:fK C hd n sc t f):bQ C hd n sc [t] f:=by
 intro A env G σ s hA I
 rw [execs_cons]
 intro r σ' e
 refine wB (wpAny_mono (h A env G σ s hA I r σ' e) (fun a s' x=>?_) fun _ _ x=>x)
 cases a <;> exact wP x
theorem jV {pos:Pos}:fK C hd n sc (.Break pos) (M.pure .brk):=fun A env G σ s hA I=>Tr.stand (Tr.pure I .brk)
theorem gI {pos:Pos}:fK C hd n sc (.Continue pos) (M.pure .cont):=fun A env G σ s hA I=>Tr.stand (Tr.pure I .cont)
theorem aQ {e:Expr} {pos:Pos} {f:M MV} (h:aV C hd n sc e f):fK C hd n sc (.Return (some e) pos) (M.bind f fun x=>M.pure (.ret x)):=by
 intro A env G σ s hA I
 rw [exec_Return_some]
 exact Tr.stand (Tr.bind (h A env G σ s hA I) fun x v G' σ' s' st I' p=>Tr.pure I' (.ret p))
theorem aT {t:Expr} {a b:List Stmt} {pos:Pos} {c:M Bool} {f g:M Fl} (ht:mL C hd n sc t c) (ha:bQ C hd n sc a f) (hb:bQ C hd n sc b g):
  fK C hd n sc (.If t a b pos) (M.bind c fun x=>match x with|true=>f|false=>g):=by
 intro A env G σ s hA I
 rw [exec_If]
 refine Tr.stand (Tr.bind (ht A env G σ s hA I) fun x v G' σ' s' st I' p=>?_)
 subst p
 cases x
 ·exact hb A env G' σ' s' hA I'
 ·exact ha A env G' σ' s' hA I'
theorem aH (x:Nat) {z:Str} {e:Expr} {p pos:Pos} {f:M MV} (h:aV C hd n sc e f) (hz:autoParam (nm x=z) aX._auto_1) (hk:autoParam (cZ (sc.lookup x)=true) aX._auto_1)
  (hs:autoParam (∀env,swapsWith e (some (.Name z p)) pos.line env=pure false) dL._auto_1):fK C hd n sc (.Assign [.Name z p] e pos) (M.bind f fun y=>M.bind (bE x y) fun _=>M.pure .next):=by
 subst hz
 intro A env G σ s hA I
 rw [PySem.exec_Assign_Name (hs:=hs env)]
 refine Tr.stand (Tr.bind (h A env G σ s hA I) fun y v G' σ' s' st I' q=>Tr.stand ?_)
 exact Tr.then_pure (eM I' hk q) fun _ _=> .next
theorem uJ (x y:Nat) {z z':Str} {e:Expr} {p p' pos:Pos} {f:M MV} (h:aV C hd n sc e f) (hz:autoParam (nm x=z) aX._auto_1) (hz':autoParam (nm y=z') aX._auto_1)
  (hk:autoParam (cZ (sc.lookup x)=true) aX._auto_1) (hk':autoParam (cZ (sc.lookup y)=true) aX._auto_1) (hw:autoParam (∀env,swappedStores [.Name z p,.Name z' p'] e env=pure none) dL._auto_1):
  fK C hd n sc (.Assign [.Name z p,.Name z' p'] e pos) (M.bind f fun v=>M.bind (bE x v) fun _=>M.bind (bE y v) fun _=>M.pure .next):=by
 subst hz hz'
 intro A env G σ s hA I
 rw [arm_exec_Assign]
 refine Tr.stand ?_
 show Tr C sc A env G σ s ((pure false:Sem Bool) >>=fun b=>if b=true then _ else _) _ _
 refine Tr.of_wp (fun Q E h=>wB (wP h)) ?_
 rw [if_neg (by decide)]
 refine Tr.bind (h A env G σ s hA I) fun v u G' σ' s' st I' q=>?_
 rw [hw]
 refine Tr.of_wp (fun Q E h=>wB (wP h)) ?_
 show Tr C sc A env G' σ' s' ((holding [u] (standAt p >>=fun _=>bindName env (nm x) u) >>=fun _=>(standAt p' >>=fun _=>bindName env (nm y) u)) >>=fun _=>pure Flow.next) _ _
 refine Tr.of_wp (t:=holding [u] (standAt p >>=fun _=>bindName env (nm x) u) >>=fun _=>(standAt p' >>=fun _=>bindName env (nm y) u) >>=fun _=>pure Flow.next) (fun Q E h=>by rw [bind_assoc];exact h) ?_
 refine Tr.bind (Tr.holding (Tr.stand (eM I' hk q))) fun _ _ G'' σ'' s'' st' I'' _=>?_
 exact Tr.then_pure (Tr.stand (eM I'' hk' (q.step I'.g st'))) fun _ _=> .next
noncomputable def aUj (op:Operator) (a b:Int):Option Int:=match op with
 | .Add=>some (a+b)
 | .Sub=>some (a - b)
 | _=>none
noncomputable def sC (op:Operator) (x y:MV):Option MV:=oI x fun a=>oI y fun b=>(aUj op a b).map .int
theorem sX {op:Operator} {x y z:MV} {v u:Value} (e:sC op x y=some z) (hx:aI G s.heap x v) (hy:aI G s.heap y u)
  (h:∀a s',Ext s s'→aI G s'.heap z a→Q a s'):wpAny (model C.prog C.w) A (inplaceOp op v u) Q E s:=by
 refine kO e hx fun a t e=>?_
 refine kO e hy fun b t' e=>?_
 refine aJ (map_eq_some_iff.mp e) fun c e1 e_3=>?_
 rw [←e_3] at h
 cases op with
 | Add=>rw [←sJ e1] at h;exact iadd_int (h _ _ (Ext.toks s _) (.int _ _))
 | Sub=>rw [←sJ e1] at h;exact isub_int (h _ _ (Ext.toks s _) (.int _ _))
 | _=>exact aP e1
theorem eW (x:Nat) {z:Str} {op:Operator} {e:Expr} {p pos:Pos} {f:M MV} (h:aV C hd n sc e f) (hz:autoParam (nm x=z) aX._auto_1) (hk:autoParam (cZ (sc.lookup x)=true) aX._auto_1):
  fK C hd n sc (.AugAssign (.Name z p) op e pos) (M.bind (aF x) fun a=>M.bind f fun b=>M.bind (M.lift (sC op a b)) fun c=>M.bind (bE x c) fun _=>M.pure .next):=by
 subst hz
 intro A env G σ s hA I
 rw [exec_AugAssign_Name]
 refine Tr.stand (Tr.bind (P:=fun G h x v=>aI G h x v) ?_ fun a v G' σ' s' st I' q=>Tr.bind (Tr.holding (h A env G' σ' s' hA I')) fun b u G'' σ'' s'' st' I'' q'=>Tr.stand (Tr.bind (P:=fun G h x v=>aI G h x v) (Tr.operate ?_) fun c w G3 σ3 s3 st3 I3 q3=>Tr.stand ?_))
 ·intro r σ' e
  (refine bG (sU e) fun y hy e_1 e_2=>?_;obtain rfl:=e_1;obtain rfl:=e_2)
  refine aJ (sW hk) fun k hkx hk'=>?_
  have hs:=aFl x (I.ok.small x k hkx)
  exact qI I hkx (hk'.imp id .inl) hy hs.2 fun v r=>⟨y,G,rfl,bB.refl G s,I,r⟩
 ·exact Tr.of_ext I'' fun b e Q E h=>sX e (q.step I'.g st') q' h
 ·exact Tr.then_pure (eM I3 hk q3) fun _ _=> .next
theorem bF {e:Expr} {pos:Pos} {f:M MV} (h:aV C hd n sc e f) (hs:autoParam (∀env,swapsWith e none pos.line env=pure false) dL._auto_1):
  fK C hd n sc (.Expr e pos) (M.bind f fun _=>M.pure .next):=by
 intro A env G σ s hA I
 rw [PySem.exec_Expr (hi:=by unfold interactive;rw [I.ok.kind];rfl) (hs:=hs env)]
 refine Tr.stand (Tr.bind (h A env G σ s hA I) fun x v G' σ' s' st I' q=>?_)
 intro r σ₁ e1
 (have q_:=aZ e1;clear e1;(refine elA q_ fun e3_1 e3_2=>?_;try clear q_;obtain rfl:=e3_1;obtain rfl:=e3_2))
 exact wpAny_dropValue ⟨_,G',rfl,bB.refl _ _,I',.next⟩
end
structure cH (C:Cx):Prop where
 g:C.h₀.Ns mainGlobals C.mg
 b:C.h₀.Ns builtinsNs C.mb
 lim:C.h₀.NoLimit
 kin:C.K.In C.h₀
 sysm:∃o,C.h₀.get? sysModules=some o
section
variable {C:Cx} {hd:Bool} {n:Nat} {sc:SC} {A:Around} {env:Env} {G:Gh} {σ:St} {s:Shared} {Q E:Value→Shared→Prop}
theorem gB {z:Str} {pos:Pos} {v:Value} (B:cH C) (I:Inv C sc A env G σ s) (hk:env.kindOf z=some .globalImplicit) (hv:C.mg z=some v) (hdb:(z==("__debug__":Str))=false) (h:Q v s):
  wpAny (model C.prog C.w) A (eval (.Name z pos) env) Q E s:=by
 refine wpAny_Name ?_ hdb
 unfold loadName
 rw [show env.scope.kind.isAnnotationScope=false by rw [I.ok.kind];rfl,show env.blockKind= .function by unfold Env.blockKind;rw [I.ok.kind];rfl,hk]
 exact Calls.loadGlobal_global (by rw [I.ok.glob];exact B.g.keeps I.x0) hv h
theorem gC {z:Str} {pos:Pos} {v:Value} (B:cH C) (I:Inv C sc A env G σ s) (hk:env.kindOf z=some .globalImplicit) (hm:C.mg z=none) (hv:C.mb z=some v) (hdb:(z==("__debug__":Str))=false) (h:Q v s):
  wpAny (model C.prog C.w) A (eval (.Name z pos) env) Q E s:=by
 refine wpAny_Name ?_ hdb
 unfold loadName
 rw [show env.scope.kind.isAnnotationScope=false by rw [I.ok.kind];rfl,show env.blockKind= .function by unfold Env.blockKind;rw [I.ok.kind];rfl,hk]
 exact Calls.loadGlobal_builtin (by rw [I.ok.glob];exact B.g.keeps I.x0) hm (by rw [I.ok.blt];exact B.b.keeps I.x0) hv h
theorem wM (i:Nat) {z:Str} {pos:Pos} {x:MV} {v:Value} (B:cH C) (hz:sc.gs[i]?=some z) (hv:C.mg z=some v) (hx:∀G h,aI G h x v) (hdb:(z==("__debug__":Str))=false):aV C hd n sc (.Name z pos) (M.pure x):=by
 intro A env G σ s hA I r σ' e
 (have q_:=aZ e;clear e;obtain ⟨rfl,rfl⟩:=q_)
 exact gB B I (I.ok.globs i z hz) hv hdb ⟨x,G,rfl,bB.refl _ _,I,hx _ _⟩
theorem dY (i:Nat) {z:Str} {pos:Pos} {T:String} (B:cH C) (hz:sc.gs[i]?=some z) (hm:C.mg z=none) (hv:C.mb z=some (.type T)) (hdb:(z==("__debug__":Str))=false):aV C hd n sc (.Name z pos) (M.pure (.ty T)):=by
 intro A env G σ s hA I r σ' e
 (have q_:=aZ e;clear e;obtain ⟨rfl,rfl⟩:=q_)
 exact gC B I (I.ok.globs i z hz) hm hv hdb ⟨_,G,rfl,bB.refl _ _,I,.ty T⟩
theorem Tr.after {α β:Type} {pos:Pos} {t:Sem α} {f:M β} {P:Gh→Heap→β→α→Prop} (x:Tr C sc A env G σ s t f P):Tr C sc A env G σ s (t >>=fun v=>standAt pos >>=fun _=>Pure.pure v) f P:=
 fun r σ' e=>wB (wpAny_mono (x r σ' e) (fun a s' h=>wB (wpAny_standAt (wP h))) fun _ _ h=>h)
inductive mA (C:Cx) (hd:Bool) (n:Nat) (sc:SC):List Keyword→List Str→List (M MV)→Prop
 | nil:mA C hd n sc [] [] []
 | cons {z:Str} {e:Expr} {p:Pos} {f:M MV} {ks:List Keyword} {zs:List Str} {fs:List (M MV)}:aV C hd n sc e f→mA C hd n sc ks zs fs→mA C hd n sc (⟨some z,e,p⟩::ks) (z::zs) (f::fs)
theorem lI {ks:List Keyword} {zs:List Str} {fs:List (M MV)} {pos:Pos} (h:mA C hd n sc ks zs fs):∀{A:Around} {env:Env} {G:Gh} {σ:St} {s:Shared},AOk hd n A→Inv C sc A env G σ s→
  (backToKw pos (keywordEach ks env)).all (·.1.isSome)=true∧(backToKw pos (keywordEach ks env)).filterMap (·.1)=zs∧
  Tr C sc A env G σ s (evalAll ((backToKw pos (keywordEach ks env)).map (·.2))) (aO fs) (fun G h l vs=>aK G h l vs):=by
 induction h with
 | nil=>intro A env G σ s hA I;exact ⟨rfl,rfl,Tr.pure I .nil⟩
 | @cons z e p f ks zs fs hf _ ih=>
  intro A env G σ s hA I
  refine iC (ih (env:=env) hA I) fun h1 h2 _=>?_
  refine ⟨h1,congrArg (z::·) h2,?_⟩
  show Tr C sc A env G σ s ((eval e env >>=fun v=>standAt pos >>=fun _=>pure v) >>=fun v=>holding [v] (evalAll ((backToKw pos (keywordEach ks env)).map (·.2))) >>=fun r=>pure (v::r)) _ _
  refine Tr.bind (Tr.after (hf A env G σ s hA I)) fun x v G' σ' s' st I' q=>?_
  refine Tr.bind (Tr.holding (ih hA I').2.2) fun l vs G'' σ'' s'' st' I'' q'=>Tr.pure I'' (.cons (q.step I'.g st') q')
theorem gY {es:List Expr} {fs:List (M MV)} {ks:List Keyword} {zs:List Str} {gs:List (M MV)} {pos:Pos} {f:Value} (he:dD C hd n sc es fs) (hk:mA C hd n sc ks zs gs) (hA:AOk hd n A) (I:Inv C sc A env G σ s):
  Tr C sc A env G σ s (evalArgs f true (backTo pos (starEach es env)) (backToKw pos (keywordEach ks env))) (M.bind (aO fs) fun l=>M.bind (aO gs) fun m=>M.pure (l,m))
   (fun G h p a=>aK G h p.1 a.pos∧∃kv,a.kw=zs.zip kv∧aK G h p.2 kv):=by
 intro r σ' e
 have hk1:=(lI (pos:=pos) hk hA I).1
 have hk2:=(lI (pos:=pos) hk hA I).2.1
 have main:wpAny (model C.prog C.w) A (spliced (backTo pos (starEach es env))) (fun vs s₁=>wpAny (model C.prog C.w) A (evalAll ((backToKw pos (keywordEach ks env)).map (·.2))) (fun kv s₂=>
   ∃b G',r=R.ok b∧bB G s G' s₂∧Inv C sc A env G' σ' s₂∧(aK G' s₂.heap b.1 vs∧∃kv',zs.zip kv=zs.zip kv'∧aK G' s₂.heap b.2 kv'))
   (fun x s'=>∃k G',r=R.exc k∧bB G s G' s'∧Inv C sc A env G' σ' s'∧kQ G' s'.heap env sc.hm x k) s₁)
   (fun x s'=>∃k G',r=R.exc k∧bB G s G' s'∧Inv C sc A env G' σ' s'∧kQ G' s'.heap env sc.hm x k) s:=by
  focus (refine elrEAoEEA (M.bind_some e) (fun k e1 r_2=>?_) fun l σ₁ e1 e2=>?_;obtain rfl:=r_2;rotate_left;rotate_left)
  ·refine wpAny_mono (eK (pos:=pos) he hA I _ _ e1) (fun a s' h=>?_) fun a s' h=>?_
   ·exact (mK h).elim
   ·obtain ⟨b,G',q,h⟩:=h;(obtain rfl:=oD q);exact ⟨k,G',rfl,h⟩
  ·refine wpAny_mono (eK (pos:=pos) he hA I _ _ e1) (fun vs s₁ h=>?_) fun a s' h=>?_
   ·(refine bG (trq h) fun G' st I' p=>?_)
    focus (refine elrEAoEEA (M.bind_some e2) (fun k e3 r_1=>?_) fun m σ₂ e3 e4=>?_;obtain rfl:=r_1;rotate_left;rotate_left)
    ·refine wpAny_mono ((lI (pos:=pos) hk hA I').2.2 _ _ e3) (fun a s' h=>?_) fun a s' h=>?_
     ·exact (mK h).elim
     ·obtain ⟨b,G'',q,st',h⟩:=h;(obtain rfl:=oD q);exact ⟨k,G'',rfl,st.trans st',h⟩
    ·(have q_:=aZ e4;clear e4;obtain ⟨rfl,rfl⟩:=q_)
     refine wpAny_mono ((lI (pos:=pos) hk hA I').2.2 _ _ e3) (fun kv s₂ h=>?_) fun a s' h=>?_
     ·(refine bG (trq h) fun G'' st' I'' p'=>?_)
      exact ⟨_,G'',rfl,st.trans st',I'',p.step I'.g st',kv,rfl,p'⟩
     ·exact (fI h).elim
   ·exact (fI h).elim
 cases he with
 | nil=>
  refine evalArgs_kw_nil hk1 ?_
  rw [hk2]
  intro Γ p hΓ
  exact main Γ p hΓ Γ p hΓ
 | cons h0 h1 h2=>
  rw [h0] at main ⊢
  refine evalArgs_kw hk1 ?_
  rw [hk2]
  exact main
end
mutual
noncomputable def clo:MV→Bool
 | .cell _=>false
 | .nxt _=>false
 | .tup l=>dZ l
 | .lst l=>dZ l
 | _=>true
noncomputable def dZ:List MV→Bool
 | []=>true
 | x::l=>clo x && dZ l
end
theorem gN:∀l:List MV,dZ l=l.all clo
 | []=>by unfold dZ;rfl
 | x::l=>by unfold dZ;rw [gN l];rfl
theorem cU {l:List MV} (h:∀x∈l,clo x=true):dZ l=true:=by rw [gN,all_eq_true];exact h
theorem gO (l m:List MV):dZ (l++m)=(dZ l && dZ m):=by rw [gN,gN,gN,List.all_append]
theorem wN (l:List Int):dZ (l.map MV.int)=true:=cU fun x hx=>by
 (refine aJ (mem_map.mp hx) fun i _ e_4=>?_;obtain rfl:=e_4);rfl
theorem aI.mv {G G':Gh} {h h':Heap} (hk:∀a o,h.get? a=some o→¬G.W a→h'.get? a=some o∧¬G'.W a) {x:MV} {v:Value} (r:aI G h x v):clo x=true→aI G' h' x v:=
 aI.rec (motive_1:=fun x v _=>clo x=true→aI G' h' x v) (motive_2:=fun l vs _=>dZ l=true→aK G' h' l vs) (fun _=> .none) (fun b _=> .bool b) (fun i t _=> .int i t) (fun b t _=> .bytes b t) (fun t _=> .ty t)
  (fun hl hw _ ih c=> .tup (fX hl fun o e=>(hk _ o e hw).1) (elE (gM hl) fun o e=>(hk _ o e hw).2) (ih c))
  (fun hl hw _ ih c=> .lst (hZ hl fun o e=>(hk _ o e hw).1) (elE (fY hl) fun o e=>(hk _ o e hw).2) (ih c))
  (fun _ c=>jI c) (fun _ _ _ c=>jI c) (fun _=> .nil) (fun _ _ a b c=>elA (and_eq_true_iff.mp c) fun c1 c2=> .cons (a c1) (b c2)) r
theorem aI.move {G G':Gh} {h h':Heap} (hk:∀a o,h.get? a=some o→¬G.W a→h'.get? a=some o∧¬G'.W a) {x:MV} {v:Value} (r:aI G h x v) (c:clo x=true):aI G' h' x v:=r.mv hk c
theorem aK.move {G G':Gh} {h h':Heap} (hk:∀a o,h.get? a=some o→¬G.W a→h'.get? a=some o∧¬G'.W a) {l:List MV} {vs:List Value} (r:aK G h l vs):dZ l=true→aK G' h' l vs:=
 r.li (P:=fun l vs=>dZ l=true→aK G' h' l vs) (fun _=> .nil) fun hx _ ih c=>elA (and_eq_true_iff.mp c) fun c1 c2=> .cons (hx.move hk c1) (ih c2)
structure kS (G:Gh) (s s':Shared):Prop where
 keep:∀a o,s.heap.get? a=some o→¬G.frs a→s'.heap.get? a=some o
 slots:∀a o,s.heap.get? a=some o→∃sl,s'.heap.get? a=some { o with slots:=sl }
 gens:s'.gens=s.gens
 os:s'.os=s.os
theorem kS.step {G:Gh} {s s':Shared} (q:kS G s s'):bB G s G s':=
 ⟨fun a o e _ f=>q.keep a o e f,fun a o e _=>q.slots a o e,fun a o e=>let ⟨_,z⟩:=q.slots a o e;⟨_,z⟩,fun _ x=>x,fun _ x=> .inl x,fun _ x=>x,fun _ x=> .inl x,rfl,⟨[],by simp⟩,q.gens,q.os⟩
theorem kT {h h':Heap} {a:Addr} {m:Str→Option Value} (x:h.Ns a m) (k:∀o,h.get? a=some o→∃sl,h'.get? a=some { o with slots:=sl }):h'.Ns a m:=by
 (refine mZ x fun o es ep e d r=>?_;try clear x)
 obtain ⟨sl,e'⟩:=k o e
 exact ⟨_,es,ep,e',d,r⟩
theorem yU {h h':Heap} {a:Addr} {v:Option Value} (x:h.IsCell a v) (k:∀o,h.get? a=some o→∃sl,h'.get? a=some { o with slots:=sl }):h'.IsCell a v:=by
 (refine aJ x fun o e d=>?_;try clear x)
 obtain ⟨sl,e'⟩:=k o e
 exact ⟨_,e',d⟩
section
variable {C:Cx} {hd:Bool} {n:Nat} {sc:SC} {A:Around} {env:Env} {G:Gh} {σ:St} {s:Shared} {Q E:Value→Shared→Prop}
theorem Inv.quiet {s':Shared} (I:Inv C sc A env G σ s) (q:kS G s s'):Inv C sc A env G σ s' where
 x0:=fun a o e=>q.keep a o (I.x0 a o e) fun f=>by rw [I.baseW a (I.g.frs a f)] at e;exact aP e
 baseW:=I.baseW
 gens:=q.gens.trans I.gens
 os:=q.os.trans I.os
 ok:=I.ok
 g:=⟨I.g.own,I.g.frs,fun a z=>let ⟨o,e⟩:=I.g.lt a z;let ⟨_,e'⟩:=q.slots a o e;⟨_,e'⟩⟩
 vars:=⟨let ⟨m,hn,hm⟩:=I.vars.loc;⟨m,kT hn fun o e=>q.slots _ o e,fun a y e e'=>let ⟨v,hv,r⟩:=hm a y e e';⟨v,hv,r.step I.g q.step⟩⟩,
  fun a k e e'=>let ⟨c,ov,hc,hi,hr⟩:=I.vars.cel a k e e';⟨c,ov,hc,yU hi fun o e=>q.slots _ o e,fun y z=>let ⟨v,hv,r⟩:=hr y z;⟨v,hv,r.step I.g q.step⟩⟩,
  I.vars.ownL,I.vars.ownC,I.vars.apart⟩
 cells:=⟨I.cells.len,I.cells.own,I.cells.inj,I.cells.nfr,fun n a y e e'=>let ⟨o,ho,r⟩:=I.cells.at' n a y e e';⟨o,q.keep a o ho (I.cells.nfr n a e),r.mono (fun _ _ z=>z.step I.g q.step) fun _ _ q=>q⟩⟩
 apart:=I.apart
 lnk:=I.lnk
 frs:=fun a z=>let ⟨m,y⟩:=I.frs a z;⟨m,kT y fun o e=>q.slots _ o e⟩
 held:=fun z=>(I.held z).step q.step
structure sE (C:Cx) (A:Around) (G:Gh) (s:Shared):Prop where
 x0:∀a o,C.h₀.get? a=some o→s.heap.get? a=some o
 baseW:∀a,G.W a→C.h₀.get? a=none
 gens:s.gens=C.gens
 os:s.os=C.os
 g:GOk G s.heap
 lnk:∃l,A.frames=some l∧∀e∈l,e.scope.kind= .function∧∃L,e.frame=some L∧G.frs L
 frs:∀a,G.frs a→∃m,s.heap.Ns a m
theorem Inv.b (I:Inv C sc A env G σ s):sE C A G s:=⟨I.x0,I.baseW,I.gens,I.os,I.g,(let ⟨l,h1,h2,_⟩:=I.lnk;⟨l,h1,h2⟩),I.frs⟩
noncomputable def cV (C:Cx) (n:Nat) (a:Addr) (zs:List Str) (Φ:List MV→List MV→Option MV):Prop:=
 (∃o fd,C.h₀.get? a=some o∧o.data= .func fd)∧
 ∀A G s args kws vals kvs r,AOk true n A→sE C A G s→aK G s.heap args vals→aK G s.heap kws kvs→dZ args=true→dZ kws=true→Φ args kws=some r→
  codeAny (model C.prog C.w) A (.call (.ref a) ⟨vals,zs.zip kvs⟩) (fun res s'=>∃v,res= .ok (.ret v)∧kS G s s'∧aI G s'.heap r v) s
noncomputable def bV (Φ:List MV→List MV→Option MV) (args kws:List MV):Option MV:=if dZ args && dZ kws then Φ args kws else none
theorem AOk.le {m:Nat} (h:AOk hd n A) (hm:m≤n):AOk hd m A:=⟨by have:=h.depth;lia,by have:=h.units;lia,h.handled⟩
theorem bR (i:Nat) {z:Str} {p pos:Pos} {a:Addr} {es:List Expr} {fs:List (M MV)} {ks:List Keyword} {zs:List Str} {gs:List (M MV)} {Φ:List MV→List MV→Option MV} {m:Nat}
  (B:cH C) (hz:sc.gs[i]?=some z) (hv:C.mg z=some (.ref a)) (hdb:(z==("__debug__":Str))=false) (hp:cV C m a zs Φ) (hm:m≤n) (he:dD C true n sc es fs) (hk:mA C true n sc ks zs gs):
  aV C true n sc (.Call (.Name z p) es ks pos) (M.bind (M.bind (aO fs) fun l=>M.bind (aO gs) fun m=>M.pure (l,m)) fun q=>M.lift (bV Φ q.1 q.2)):=by
 intro A env G σ s hA I r σ' e
 refine wpAny_Call_Name_kw (gB B I (I.ok.globs i z hz) hv hdb ?_)
 obtain ⟨⟨o,fd,ho,hd⟩,hp⟩:=hp
 focus (refine elrEAoEEA (M.bind_some e) (fun k e1 r_1=>?_) fun q σ₁ e1 e2=>?_;obtain rfl:=r_1;rotate_left;rotate_left)
 ·refine callWith_function_kw (o:=o) (fd:=fd) (wpAny_mono (gY he hk hA I _ _ e1) (fun a s' h=>?_) fun a s' h=>?_)
  ·exact (mK h).elim
  ·obtain ⟨b,G',q,h⟩:=h;(obtain rfl:=oD q);exact ⟨k,G',rfl,h⟩
 ·refine callWith_function_kw (o:=o) (fd:=fd) (wpAny_mono (gY he hk hA I _ _ e1) (fun x s' h=>?_) fun a s' h=>?_)
  ·(refine iE h fun b G' q' st I' p1 kv p2 p3=>?_;try clear h)
   (obtain rfl:=eU q')
   (refine bG (M.lift_some e2) fun c ec e_2 e_3=>?_;obtain rfl:=e_2;obtain rfl:=e_3)
   unfold bV at ec
   split at ec
   ·rename_i hc
    obtain ⟨c1,c2⟩:=and_eq_true_iff.mp hc
    refine ⟨⟨I'.x0 a o ho,hd⟩,?_⟩
    refine wpAny_call ?_
    rw [nil_append,p2]
    refine codeAny_mono (hp A G' s' q.1 q.2 x.pos kv c (hA.le hm) I'.b p1 p3 c1 c2 ec) fun res s'' h=>?_
    (refine bG h fun v e_1 hq hr=>?_;try clear h;obtain rfl:=e_1)
    exact ⟨c,G',rfl,st.trans hq.step,I'.quiet hq,hr⟩
   ·exact aP ec
  ·exact (fI h).elim
end
structure FnD (C:Cx) (a:Addr) (fd:FuncData) (body:List Stmt):Prop where
 at':∃o,C.h₀.get? a=some o∧o.data= .func fd
 body:fd.body= .stmts body
 glob:fd.globals=mainGlobals
 blt:fd.builtins=builtinsNs
 clos:fd.closure= []
 co:fd.scope.isCoroutine=false
 gen:fd.scope.isGenerator=false
 kind:fd.scope.kind= .function
 code:C.h₀.CodeRec fd.code fd.qualname
structure yV (sc:SC) (scope:Scope) (ps:List Nat):Prop where
 small:∀x k,sc.lookup x=some k→x < 85
 kinds:∀x k,sc.lookup x=some k→scope.names.lookup (nm x)=some k
 globs:∀(i:Nat) z,sc.gs[i]?=some z→scope.names.lookup z=some .globalImplicit
 nofree:∀x k,sc.lookup x=some k→k≠ .free
 par:∀x∈ps,sc.lookup x=some .local∨sc.lookup x=some .cell
 nodup:ps.Nodup
 hm:sc.hm=false
theorem dP:∀(names:List (Str×NameKind)) (n:Nat) (acc:List (Str×Addr)) (x:Str),((∃c,acc.lookup x=some c)∨(x,NameKind.cell)∈names)→∃c,(cellsFrom n names acc).lookup x=some c
 | [],n,acc,x,h=>by
  unfold cellsFrom
  rcases h with h|h
  ·exact h
  ·cases h
 | (y,k)::r,n,acc,x,h=>by
  unfold cellsFrom
  split
  ·rename_i hk
   refine dP r _ _ x ?_
   rcases h with ⟨c,h⟩|h
   ·refine .inl ?_
    rw [lookup_cons]
    cases q:x==y with
    | true=>exact ⟨_,rfl⟩
    | false=>exact ⟨c,h⟩
   ·rcases mem_cons.mp h with h|h
    ·cases h;exact .inl ⟨n,by rw [lookup_cons];simp⟩
    ·exact .inr h
  ·rename_i hk
   refine dP r _ _ x ?_
   rcases h with h|h
   ·exact .inl h
   ·rcases mem_cons.mp h with h|h
    ·cases h;exact absurd (by decide) hk
    ·exact .inr h
theorem wO (kind:Str→Option NameKind):∀(b:List (Str×Value)) (m:Str→Option Value) (y:Str),(∀v,(y,v)∉b)→bindL kind b m y=m y
 | [],m,y,_=>rfl
 | (z,v)::r,m,y,h=>by
  unfold bindL
  rw [wO kind r _ y fun v hv=>h v (mem_cons_of_mem _ hv)]
  split
  ·have:y≠z:=fun e=>h v (e ▸ mem_cons_self)
   simp [this]
  ·rfl
theorem wQ (kind:Str→Option NameKind):∀(b:List (Str×Value)) (m:Str→Option Value) (y:Str),(∀v,(y,v)∉b)→bindC kind b m y=m y
 | [],m,y,_=>rfl
 | (z,v)::r,m,y,h=>by
  unfold bindC
  rw [wQ kind r _ y fun v hv=>h v (mem_cons_of_mem _ hv)]
  split
  ·rfl
  ·have:y≠z:=fun e=>h v (e ▸ mem_cons_self)
   simp [this]
theorem aDm {ps:List Nat} {ws:List Value} {x:Nat} (hs:∀y∈ps,y < 85) (hx:x < 85) (h:x∉ps):∀v,(nm x,v)∉(ps.map nm).zip ws:=fun v hv=>by
 have:=(List.of_mem_zip hv).1
 refine aJ (mem_map.mp this) fun y hy e=>?_
 exact h (uD (hs y hy) hx e ▸ hy)
theorem sY {G:Gh} {h:Heap} (kind:Str→Option NameKind):∀{ps:List Nat} {xs:List MV} {ws:List Value} (m:Str→Option Value),aK G h xs ws→ps.Nodup→(∀y∈ps,y < 85)→∀x y,(ps.zip xs).lookup x=some y→
  (kind (nm x)=some .local→∃v,bindL kind ((ps.map nm).zip ws) m (nm x)=some v∧aI G h y v)∧(kind (nm x)≠some .local→∃v,bindC kind ((ps.map nm).zip ws) m (nm x)=some v∧aI G h y v)
 | [],xs,ws,m,r,nd,hs,x,y,e=>by simp at e
 | p::ps,_,_,m,.nil,nd,hs,x,y,e=>by simp at e
 | p::ps,_,_,m,.cons (x:=x0) (v:=v0) hx ht,nd,hs,x,y,e=>by
  rw [List.zip_cons_cons,lookup_cons] at e
  have nd':=nodup_cons.mp nd
  have hs':∀y∈ps,y < 85:=fun y hy=>hs y (mem_cons_of_mem _ hy)
  rw [map_cons,List.zip_cons_cons]
  cases q:x==p with
  | true=>
   have q:x=p:=by simpa using q
   subst q
   simp only [beq_self_eq_true] at e
   (obtain rfl:=sJ e)
   have out:=fun ws=>aDm (ws:=ws) hs' (hs x mem_cons_self) nd'.1
   constructor
   ·intro hk
    refine ⟨v0,?_,hx⟩
    unfold bindL
    rw [if_pos hk,wO _ _ _ _ (out _)]
    simp
   ·intro hk
    refine ⟨v0,?_,hx⟩
    unfold bindC
    rw [if_neg hk,wQ _ _ _ _ (out _)]
    simp
  | false=>
   rw [q] at e
   have ih:=fun m=>sY kind m ht nd'.2 hs' x y e
   exact ⟨fun hk=>by unfold bindL;exact (ih _).1 hk,fun hk=>by unfold bindC;exact (ih _).2 hk⟩
theorem eY:∀{l:List (Str×NameKind)} {x:Str},l.lookup x=some .cell→(x,NameKind.cell)∈l:=fun h=>mem_of_lookup h
section
variable {C:Cx} {n:Nat} {A:Around} {G:Gh} {s:Shared}
noncomputable def Gin (G:Gh) (L:Addr) (cs:List (Str×Addr)) (phi:List Addr) (own:Addr→Prop):Gh where
 W:=fun a=>G.W a∨a=L∨∃x,cs.lookup x=some a
 own:=fun a=>own a∨a=L∨∃x,cs.lookup x=some a
 frs:=fun a=>G.frs a∨a=L
 phi:=phi
theorem sZ {fd:FuncData} {a:Addr} {body:List Stmt} {sc:SC} {ps:List Nat} {xs:List MV} {ws:List Value} {s₁:Shared} {H:List MO} {phi:List Addr} {own:Addr→Prop}
  (F:FnD C a fd body) (S:yV sc fd.scope ps) (b:sE C A G s) (r:aK G s.heap xs ws)
  (hr:∀G':Gh,∀s':Shared,(∀a o,s.heap.get? a=some o→¬G.W a→s'.heap.get? a=some o∧¬G'.W a)→G'.phi=phi→aK G' s'.heap xs ws)
  (hown:∀a,own a→G.W a∧¬G.frs a) (hH:∀G':Gh,∀s':Shared,(∀a o,s.heap.get? a=some o→s'.heap.get? a=some o)→(∀a o,s.heap.get? a=some o→¬G.W a→¬G'.W a)→G'.phi=phi→(∀a,own a→G'.own a)→(∀a o,s.heap.get? a=some o→G'.frs a→G.frs a)→nD C G' H s'.heap)
  (hphi:∀(n:Nat) a,phi[n]?=some a→own a)
  (x:InCallC s (callEnvC fd s.heap.objs.size a).locals (bindL (callEnvC fd s.heap.objs.size a).kindOf ((ps.map nm).zip ws) fun _=>none) (callEnvC fd s.heap.objs.size a).cells
    (bindC (callEnvC fd s.heap.objs.size a).kindOf ((ps.map nm).zip ws) fun _=>none) s₁):
  Inv C sc (A.deeper (callEnvC fd s.heap.objs.size a)) (callEnvC fd s.heap.objs.size a) (Gin G s.heap.objs.size (callEnvC fd s.heap.objs.size a).cells phi own) ⟨ps.zip xs,H⟩ s₁:=by
 have hL:(callEnvC fd s.heap.objs.size a).locals=s.heap.objs.size:=rfl
 have fresh:∀c,s.heap.objs.size≤c→s.heap.get? c=none:=fun c hc=>Heap.get?_none_of_le hc
 have keep:=x.toInCall.keep
 have same:∃h tk,s₁={ s with heap:=h,toks:=tk }:=x.toInCall.same
 have above:∀z c,(z,c)∈(callEnvC fd s.heap.objs.size a).cells→s.heap.objs.size < c:=fun z c hm=>x.above z c hm
 have newW:∀c,(c=s.heap.objs.size∨∃z,(callEnvC fd s.heap.objs.size a).cells.lookup z=some c)→s.heap.get? c=none:=fun c hc=>by
  focus (refine elrZoE hc (fun r_1=>?_) fun z hz=>?_;try clear hc;obtain rfl:=r_1;rotate_left;try clear hc;rotate_left)
  ·exact fresh _ (Nat.le_refl _)
  ·exact fresh _ (Nat.le_of_lt (above z c (mem_of_lookup hz)))
 have noW:∀a' o,s.heap.get? a'=some o→¬G.W a'→¬(Gin G s.heap.objs.size (callEnvC fd s.heap.objs.size a).cells phi own).W a':=fun a' o e nW q=>by
  rcases q with q|q
  ·exact nW q
  ·rw [newW a' q] at e;exact aP e
 have rel:=hr (Gin G s.heap.objs.size (callEnvC fd s.heap.objs.size a).cells phi own) s₁ (fun a' o e nW=>⟨keep a' o e,noW a' o e nW⟩) rfl
 have small:∀y∈ps,y < 85:=fun y hy=>by rcases S.par y hy with q|q <;> exact S.small y _ q
 have brel:=fun m=>sY (callEnvC fd s.heap.objs.size a).kindOf (ps:=ps) m rel S.nodup small
 refine ⟨fun a' o e=>keep a' o (b.x0 a' o e),?_,?_,?_,⟨F.kind,F.glob,F.blt,S.small,fun x k h=> .inl (S.kinds x k h),S.globs,⟨_,rfl⟩⟩,⟨?_,?_,?_⟩,⟨?_,?_,.inr (.inl rfl),?_,?_⟩,?_,?_,?_,?_,fun q=>by rw [S.hm] at q;exact jI q⟩
 ·intro c q
  rcases q with q|q
  ·exact b.baseW c q
  ·cases e:C.h₀.get? c with
   | none=>rfl
   | some o=>have:=b.x0 c o e;rw [newW c q] at this;exact aP this
 ·(refine yO same fun h tk e_3=>?_;try clear same;obtain rfl:=e_3);exact b.gens
 ·(refine yO same fun h tk e_2=>?_;try clear same;obtain rfl:=e_2);exact b.os
 ·intro c q
  rcases q with q|q
  ·exact .inl (hown c q).1
  ·exact .inr q
 ·intro c q
  rcases q with q|q
  ·exact .inl (b.g.frs c q)
  ·exact .inr (.inl q)
 ·intro c q
  rcases q with q|q|⟨z,q⟩
  ·refine elE (b.g.lt c q) fun o e=>?_;exact ⟨o,keep c o e⟩
  ·subst q;refine iD (x.toInCall.ns) fun o _ _ e _=>?_;exact ⟨o,e⟩
  ·refine aJ (x.cell z c q) fun o e _=>?_;exact ⟨o,e⟩
 ·refine ⟨_,x.toInCall.ns,fun y z hy hz=>?_⟩
  exact (brel (fun _=>none) y z hz).1 (S.kinds y _ hy)
 ·intro y k hy hk
  have hk:k= .cell:=hk.resolve_right (S.nofree y k hy)
  subst hk
  have hm:=S.kinds y _ hy
  refine elE (dP fd.scope.names (s.heap.objs.size+1) [] (nm y) (.inr (eY hm))) fun c hc=>?_
  refine ⟨c,_,hc,x.cell _ c hc,fun z hz=>?_⟩
  exact (brel (fun _=>none) y z hz).2 (by rw [show (callEnvC fd s.heap.objs.size a).kindOf (nm y)=some .cell from hm];intro q;cases q)
 ·intro y c hy hc
  exact .inr (.inr ⟨_,hc⟩)
 ·intro y z c hy hz hy' hz'
  exact uD hy' hz' (name_of_addr x.apart (mem_of_lookup hy) (mem_of_lookup hz))
 ·exact hH _ s₁ keep (fun a' o e nW=>noW a' o e nW) rfl (fun a' q=> .inl q) fun a' o e q=>by
   rcases q with q|q
   ·exact q
   ·rw [newW a' (.inl q)] at e;exact aP e
 ·intro m c hc
  have ho:=hphi m c hc
  refine elE (b.g.lt c (hown c ho).1) fun o e=>?_
  refine ⟨fun q=>?_,fun y c' hy hc' q=>?_⟩
  ·rw [newW c (.inl q)] at e;exact aP e
  ·rw [newW c (.inr ⟨_,q ▸ hc'⟩)] at e;exact aP e
 ·refine aJ (b.lnk) fun l hl hf=>?_
  refine ⟨_::l,by show A.frames.map _=_;rw [hl];rfl,fun e he=>?_,_,_,rfl,rfl⟩
  rcases mem_cons.mp he with rfl|he
  ·exact ⟨F.kind,_,rfl,.inr rfl⟩
  ·refine kG (hf e he) fun h1 L h2 h3=>?_
   exact ⟨h1,L,h2,.inl h3⟩
 ·intro c q
  rcases q with q|q
  ·refine elE (b.frs c q) fun m y=>?_;exact ⟨m,y.keeps keep⟩
  ·subst q;exact ⟨_,x.toInCall.ns⟩
noncomputable def wR (H:List MO):MV→Option MV
 | .cell n=>pL H[n]? fun l=>if dZ l then some (.lst l) else none
 | x=>if clo x then some x else none
noncomputable def yW (H:List MO):List MV→Option (List MV)
 | []=>some []
 | x::l=>(wR H x).bind fun y=>(yW H l).map (y::·)
noncomputable def frz (H:List MO) (x:MV):Option MV:=match x with
 | .tup l=>(yW H l).map .tup
 | x=>wR H x
theorem wS {G G':Gh} {H:List MO} {h:Heap} (hh:nD C G' H h) (hW:∀a,G.W a→G'.W a) (hn:∀(n:Nat) a,G'.phi[n]?=some a→¬G.W a) {x y:MV} {v:Value} (e:wR H x=some y) (r:aI G' h x v):aI G h y v:=by
 have mv:∀a o,h.get? a=some o→¬G'.W a→h.get? a=some o∧¬G.W a:=fun a o e n=>⟨e,fun q=>n (hW a q)⟩
 have gen:∀{x:MV},aI G' h x v→(if clo x then some x else none)=some y→aI G h y v:=fun {x} r e=>dG e fun hc e=>by rw [←sJ e];exact r.move mv hc
 cases x with
 | cell n=>
  refine aI.cell_e r fun a hp=>qG e fun {l} hl e=>dG e fun hc e=>?_
  rw [←sJ e]
  exact fF (hh.at' n a _ hp hl) fun o ho _ c vs k d q=> .lst ⟨o,ho,c,k,d⟩ (hn n a hp) (q.move mv hc)
 | _=>exact gen r e
theorem aFu {G G':Gh} {H:List MO} {h:Heap} (hh:nD C G' H h) (hW:∀a,G.W a→G'.W a) (hn:∀(n:Nat) a,G'.phi[n]?=some a→¬G.W a) {l:List MV} {vs:List Value} (r:aK G' h l vs):∀{m:List MV},yW H l=some m→aK G h m vs:=
 r.li (P:=fun l vs=>∀{m:List MV},yW H l=some m→aK G h m vs) (fun e=>by rw [←sJ e];exact .nil) fun hx _ ih m e=>by
  refine aJ (bind_eq_some_iff.mp e) fun y e1 e=>?_
  refine aJ (map_eq_some_iff.mp e) fun m' e2 e=>?_
  rw [←e]
  exact .cons (wS hh hW hn e1 hx) (ih e2)
theorem aBe {G G':Gh} {H:List MO} {h:Heap} (hh:nD C G' H h) (hW:∀a,G.W a→G'.W a) (hn:∀(n:Nat) a,G'.phi[n]?=some a→¬G.W a) {x y:MV} {v:Value} (e:frz H x=some y) (r:aI G' h x v):aI G h y v:=by
 cases x with
 | tup l=>
  refine aJ (map_eq_some_iff.mp e) fun m e1 e_1=>?_
  rw [←e_1]
  exact aI.tup_e r fun _ _ h1 h2 h3=> .tup h1 (fun q=>h2 (hW _ q)) (aFu hh hW hn h3 e1)
 | _=>refine wS hh hW hn ?_ r;exact e
noncomputable def uK {β:Type} (o:Option (R Fl×St)) (a:MV→St→Option β) (b:St→Option β):Option β:=match o with
 | some (x,σ)=>(match x with| .ok fl=>(match fl with| .ret v=>a v σ| .next=>b σ|_=>none)| .exc _=>none)
 | none=>none
theorem aFv {β:Type} {o:Option (R Fl×St)} {a:MV→St→Option β} {b:St→Option β} {r:β} (e:uK o a b=some r) {P:Prop}
  (h1:∀v σ,o=some (.ok (.ret v),σ)→a v σ=some r→P) (h2:∀σ,o=some (.ok .next,σ)→b σ=some r→P):P:=by
 rcases o with _|⟨fl|k,σ⟩
 ·exact aP e
 ·cases fl with
  | ret v=>exact h1 _ _ rfl e
  | next=>exact h2 _ rfl e
  | _=>exact aP e
 ·exact aP e
noncomputable def eJ (f:M Fl) (ps:List Nat) (xs:List MV):Option MV:=uK (f ⟨ps.zip xs,[]⟩) (fun x σ'=>frz σ'.H x) fun _=>some .none
noncomputable def mB (C:Cx) (fd:FuncData) (zs:List Str) (ps:List Nat) (pm:List MV→List MV→Option (List MV)):Prop:=
 ∀G s args kws vals kvs xs,(∀a o,C.h₀.get? a=some o→s.heap.get? a=some o)→GOk G s.heap→aK G s.heap args vals→aK G s.heap kws kvs→pm args kws=some xs→
  (dZ args=true→dZ kws=true→dZ xs=true)∧∀(A:Around) (E:Value→Shared→Prop) (Q:List (Str×Value)→Shared→Prop),(∀ws s',Ext s s'→aK G s'.heap xs ws→Q ((ps.map nm).zip ws) s')→wpAny (model C.prog C.w) A (bindArgs fd ⟨vals,zs.zip kvs⟩) Q E s
theorem sE.ext {s':Shared} (b:sE C A G s) (x:Ext s s'):sE C A G s':=
 ⟨fun a o e=>x.1 a o (b.x0 a o e),b.baseW,x.2.1.trans b.gens,x.2.2.trans b.os,⟨b.g.own,b.g.frs,fun a q=>let ⟨o,e⟩:=b.g.lt a q;⟨o,x.1 a o e⟩⟩,b.lnk,fun a q=>let ⟨m,y⟩:=b.frs a q;⟨m,y.keeps x.1⟩⟩
theorem kS.pre {s₀ s':Shared} (x:Ext s s₀) (q:kS G s₀ s'):kS G s s':=
 ⟨fun a o e f=>q.keep a o (x.1 a o e) f,fun a o e=>q.slots a o (x.1 a o e),q.gens.trans x.2.1,q.os.trans x.2.2⟩
theorem wT {fd:FuncData} {a:Addr} {body:List Stmt} {sc:SC} {ps:List Nat} {f:M Fl} {xs:List MV} {ws:List Value} {r:MV} {E:Value→Shared→Prop} (B:cH C) (F:FnD C a fd body) (S:yV sc fd.scope ps)
  (hS:bQ C true n sc body f) (hA:AOk true (n+1) A) (b:sE C A G s) (rx:aK G s.heap xs ws) (cx:dZ xs=true) (e2:eJ f ps xs=some r):
  wpAny (model C.prog C.w) A.in1 (newFunctionEnv fd.scope fd.globals [] ((ps.map nm).zip ws) (fd.qualname++ ".<locals>.") (some a) fd.code none fd.builtins)
   (fun env s₂=>s₂.heap.NoLimit∧codeAny (model C.prog C.w) A (.func body env) (fun res s'=>∃v,res= .ok (.ret v)∧kS G s s'∧aI G s'.heap r v) s₂) E s:=by
 have hkind:∀x∈(ps.map nm).zip ws,fd.scope.names.lookup x.1=some .local∨(fd.scope.names.lookup x.1=some .cell∧((cellsFrom (s.heap.objs.size+1) fd.scope.names []).lookup x.1).isSome=true):=by
  intro x hx
  refine aJ (mem_map.mp (List.of_mem_zip (show (x.1,x.2)∈_ from hx)).1) fun y hy ey=>?_
  rw [←ey]
  rcases S.par y hy with q|q
  ·exact .inl (S.kinds y _ q)
  ·have:=S.kinds y _ q
   refine elE (dP fd.scope.names (s.heap.objs.size+1) [] (nm y) (.inr (eY this))) fun c hc=>?_
   exact .inr ⟨this,by rw [hc];rfl⟩
 refine wpAny_newFunctionEnv_cells F.kind hkind fun env he s₁ x=>?_
 subst he
 refine ⟨(B.lim.keeps b.x0).keeps x.toInCall.keep,codeAny_func ?_⟩
 have I:=sZ (H:= []) (phi:= []) (own:=fun _=>False) F S b rx (fun G' s' hk hp=>rx.move hk cx) (fun _ q=>q.elim)
  (fun G' s' h1 h2 hp h3 h4=>⟨by rw [hp];rfl,fun m c q=>by rw [hp] at q;simp at q,fun m m' c q=>by rw [hp] at q;simp at q,fun m c q=>by rw [hp] at q;simp at q,fun m c y q=>by rw [hp] at q;simp at q⟩)
  (fun m c q=>by simp at q) x
 have hA':AOk true n (A.deeper (callEnvC fd s.heap.objs.size a)):=⟨by show A.depth+1+n≤900;have:=hA.depth;lia,by show A.units+3+100 * n≤9000;have:=hA.units;lia,hA.handled⟩
 have run:=hS _ _ _ _ _ hA' I
 unfold eJ at e2
 have keepAll:∀{G':Gh} {s':Shared},bB (Gin G s.heap.objs.size (callEnvC fd s.heap.objs.size a).cells [] fun _=>False) s₁ G' s'→kS G s s':=by
  intro G' s' st
  have no:∀c o,s.heap.get? c=some o→¬(Gin G s.heap.objs.size (callEnvC fd s.heap.objs.size a).cells [] fun _=>False).own c:=fun c o e q=>by
   rcases q with q|q|⟨z,q⟩
   ·exact q.elim
   ·rw [q,bD] at e;exact aP e
   ·have:=x.above z c (mem_of_lookup q)
    rw [Heap.get?_none_of_le (Nat.le_of_lt this)] at e;exact aP e
  refine yO (x.toInCall.same) fun h tk hs=>?_
  refine ⟨fun c o e nf=>st.keep c o (x.toInCall.keep c o e) (no c o e) fun q=>?_,fun c o e=>st.slots c o (x.toInCall.keep c o e) (no c o e),st.gens.trans (by rw [hs]),st.os.trans (by rw [hs])⟩
  rcases q with q|q
  ·exact nf q
  ·rw [q,bD] at e;exact aP e
 have hWW:∀{G':Gh} {s':Shared},bB (Gin G s.heap.objs.size (callEnvC fd s.heap.objs.size a).cells [] fun _=>False) s₁ G' s'→∀c,G.W c→G'.W c:=fun st c q=>st.W c (.inl q)
 have hPP:∀{σ':St} {G':Gh} {s':Shared},bB (Gin G s.heap.objs.size (callEnvC fd s.heap.objs.size a).cells [] fun _=>False) s₁ G' s'→nD C G' σ'.H s'.heap→∀(m:Nat) c,G'.phi[m]?=some c→¬G.W c:=by
  intro σ' G' s' st hh m c hc q
  rcases st.own' c (hh.own m c hc) with z|z
  ·refine elE (b.g.lt c q) fun o e=>?_
   rcases z with z|z|⟨y,z⟩
   ·exact z
   ·rw [z,bD] at e;exact aP e
   ·have:=x.above y c (mem_of_lookup z)
    rw [Heap.get?_none_of_le (Nat.le_of_lt this)] at e;exact aP e
  ·refine elE (b.g.lt c q) fun o e=>?_
   rw [x.toInCall.keep c o e] at z;exact iS z
 refine aFv e2 (fun y σ' er e2=>?_) fun σ' er e2=>?_
 ·refine wpAny_mono (run _ _ er) (fun fl s' h=>?_) fun y s' h=>?_
  ·(refine bG (trq h) fun G' st I' p=>?_)
   cases p with|ret p=>?_
   exact ⟨_,rfl,keepAll st,aBe I'.cells (hWW st) (hPP st I'.cells) e2 p⟩
  ·exact (fI h).elim
 ·obtain rfl:=sJ e2
  refine wpAny_mono (run _ _ er) (fun fl s' h=>?_) fun y s' h=>?_
  ·(refine bG (trq h) fun G' st I' p=>?_)
   cases p
   exact ⟨_,rfl,keepAll st,.none⟩
  ·exact (fI h).elim
theorem cI {fd:FuncData} {a:Addr} {body:List Stmt} {sc:SC} {ps:List Nat} {zs:List Str} {pm:List MV→List MV→Option (List MV)} {f:M Fl} (B:cH C) (F:FnD C a fd body) (S:yV sc fd.scope ps)
  (hb:mB C fd zs ps pm) (hS:bQ C true n sc body f):cV C (n+1) a zs (fun args kws=>(pm args kws).bind fun xs=>eJ f ps xs):=by
 refine aJ (F.at') fun o ho hd=>?_
 refine ⟨⟨o,fd,ho,hd⟩,fun A G s args kws vals kvs r hA b ra rk ca ck e=>?_⟩
 refine aJ (bind_eq_some_iff.mp e) fun xs e1 e2=>?_
 refine elA (hb G s args kws vals kvs xs b.x0 b.g ra rk e1) fun cx hbind=>?_
 have hd1:A.depth < recursionLimit:=by have:=hA.depth;show _ < 1000;lia
 refine codeAny_call_function hd1 (b.x0 a o ho) hd F.co F.gen F.body (F.code.keeps b.x0) (hbind _ _ _ fun ws s₀ x₀ rx=>?_)
 rw [F.clos]
 refine wpAny_mono (wT B F S hS hA (b.ext x₀) rx (cx ca ck) e2) (fun env s₂ h=>⟨h.1,codeAny_mono h.2 fun res s' h'=>?_⟩) fun _ _ h=>h
 (refine bG h' fun v q1 q2 q3=>?_;try clear h')
 exact ⟨v,q1,q2.pre x₀,q3⟩
end
noncomputable def Gh.add (G:Gh) (a:Addr):Gh:={ G with W:=fun b=>G.W b∨b=a,own:=fun b=>G.own b∨b=a }
noncomputable def Gh.addC (G:Gh) (a:Addr):Gh:={ G with W:=fun b=>G.W b∨b=a,own:=fun b=>G.own b∨b=a,phi:=G.phi++ [a] }
section
variable {C:Cx} {hd:Bool} {n:Nat} {sc:SC} {A:Around} {env:Env} {G:Gh} {σ:St} {s:Shared} {Q E:Value→Shared→Prop}
theorem bB.add {s':Shared} {a:Addr} (x:Ext s s') (ha:s.heap.get? a=none):bB G s (G.add a) s':=
 ⟨fun b o e _ _=>x.1 b o e,fun b o e _=>⟨o.slots,x.1 b o e⟩,fun b o e=>⟨o,x.1 b o e⟩,fun b q=> .inl q,fun b q=>q.elim .inl fun q=> .inr (q ▸ ha),fun b q=> .inl q,fun b q=>q.elim .inl fun q=> .inr (q ▸ ha),rfl,⟨[],by simp [Gh.add]⟩,x.2.1,x.2.2⟩
theorem bB.addC {s':Shared} {a:Addr} (x:Ext s s') (ha:s.heap.get? a=none):bB G s (G.addC a) s':=
 ⟨fun b o e _ _=>x.1 b o e,fun b o e _=>⟨o.slots,x.1 b o e⟩,fun b o e=>⟨o,x.1 b o e⟩,fun b q=> .inl q,fun b q=>q.elim .inl fun q=> .inr (q ▸ ha),fun b q=> .inl q,fun b q=>q.elim .inl fun q=> .inr (q ▸ ha),rfl,⟨[a],rfl,by simpa using ha⟩,x.2.1,x.2.2⟩
theorem lJ (I:Inv C sc A env G σ s) {a:Addr} (ha:s.heap.get? a=none):C.h₀.get? a=none:=by
 cases e:C.h₀.get? a with
 | none=>rfl
 | some o=>have:=I.x0 a o e;rw [ha] at this;exact aP this
theorem Inv.add {s':Shared} {a:Addr} {o:Obj} (I:Inv C sc A env G σ s) (x:Ext s s') (ha:s.heap.get? a=none) (ha':s'.heap.get? a=some o):Inv C sc A env (G.add a) σ s':=by
 have st:=bB.add (G:=G) x ha
 have J:=I.ext x
 exact ⟨J.x0,fun b q=>q.elim (J.baseW b) fun q=>q ▸ lJ I ha,J.gens,J.os,J.ok,⟨fun b q=>q.elim (fun q=> .inl (I.g.own b q)) .inr,fun b q=> .inl (I.g.frs b q),fun b q=>q.elim (J.g.lt b) fun q=>⟨o,q ▸ ha'⟩⟩,
  ⟨let ⟨m,hn,hm⟩:=I.vars.loc;⟨m,hn.keeps x.1,fun z y e e'=>let ⟨v,hv,r⟩:=hm z y e e';⟨v,hv,r.step I.g st⟩⟩,
   fun z k e e'=>let ⟨c,ov,hc,hi,hr⟩:=I.vars.cel z k e e';⟨c,ov,hc,hi.keeps x.1,fun y q=>let ⟨v,hv,r⟩:=hr y q;⟨v,hv,r.step I.g st⟩⟩,
   .inl I.vars.ownL,fun z c e e'=> .inl (I.vars.ownC z c e e'),I.vars.apart⟩,
  ⟨I.cells.len,fun m b q=> .inl (I.cells.own m b q),I.cells.inj,I.cells.nfr,fun m b y e e'=>let ⟨o,ho,r⟩:=I.cells.at' m b y e e';⟨o,x.1 b o ho,r.mono (fun _ _ z=>z.step I.g st) fun _ _ q=>q⟩⟩,
  J.apart,J.lnk,J.frs,fun q=>(I.held q).step st⟩
theorem Inv.addC {s':Shared} {a:Addr} {o:Obj} {y:MO} (I:Inv C sc A env G σ s) (x:Ext s s') (ha:s.heap.get? a=none) (ha':s'.heap.get? a=some o) (hy:OIs C (G.addC a) s'.heap o y):
  Inv C sc A env (G.addC a) { σ with H:=σ.H++ [y] } s':=by
 have st:=bB.addC (G:=G) x ha
 have J:=I.ext x
 have old:∀(m:Nat) b,(G.addC a).phi[m]?=some b→(m < G.phi.length∧G.phi[m]?=some b)∨(m=G.phi.length∧b=a):=by
  intro m b q
  have q:(G.phi++ [a])[m]?=some b:=q
  rcases Nat.lt_trichotomy m G.phi.length with h|h|h
  ·rw [getElem?_append_left h] at q;exact .inl ⟨h,q⟩
  ·subst h;simp at q;exact .inr ⟨rfl,q.symm⟩
  ·rw [getElem?_append_right (Nat.le_of_lt h),getElem?_eq_none (by simp;lia)] at q;exact aP q
 have na:∀(m:Nat) b,G.phi[m]?=some b→b≠a:=fun m b q e=>by
  refine elE (I.g.lt b (I.g.own b (I.cells.own m b q))) fun o ho=>?_;rw [e,ha] at ho;exact aP ho
 refine ⟨J.x0,fun b q=>q.elim (J.baseW b) fun q=>q ▸ lJ I ha,J.gens,J.os,J.ok,⟨fun b q=>q.elim (fun q=> .inl (I.g.own b q)) .inr,fun b q=> .inl (I.g.frs b q),fun b q=>q.elim (J.g.lt b) fun q=>⟨o,q ▸ ha'⟩⟩,
  ⟨let ⟨m,hn,hm⟩:=I.vars.loc;⟨m,hn.keeps x.1,fun z y e e'=>let ⟨v,hv,r⟩:=hm z y e e';⟨v,hv,r.step I.g st⟩⟩,
   fun z k e e'=>let ⟨c,ov,hc,hi,hr⟩:=I.vars.cel z k e e';⟨c,ov,hc,hi.keeps x.1,fun y q=>let ⟨v,hv,r⟩:=hr y q;⟨v,hv,r.step I.g st⟩⟩,
   .inl I.vars.ownL,fun z c e e'=> .inl (I.vars.ownC z c e e'),I.vars.apart⟩,
  ⟨?_,?_,?_,?_,?_⟩,?_,J.lnk,J.frs,fun q=>(I.held q).step st⟩
 ·show (G.phi++ [a]).length=(σ.H++ [y]).length
  simp [I.cells.len]
 ·intro m b q
  refine fZ (old m b q) (fun _ q=>?_) fun _ q=>?_
  ·exact .inl (I.cells.own m b q)
  ·exact .inr q
 ·intro m m' b q q'
  refine fZ (old m b q) (fun h1 q1=>?_) fun h1 q1=>?_ <;> refine fZ (old m' b q') (fun h2 q2=>?_) fun h2 q2=>?_
  ·exact I.cells.inj m m' b q1 q2
  ·exact absurd q2 (na m b q1)
  ·exact absurd q1 (na m' b q2)
  ·rw [h1,h2]
 ·intro m b q f
  refine fZ (old m b q) (fun _ q=>?_) fun _ q=>?_
  ·exact I.cells.nfr m b q f
  ·refine elE (I.g.lt b (I.g.frs b f)) fun o' ho'=>?_;rw [q,ha] at ho';exact aP ho'
 ·intro m b z q e
  refine fZ (old m b q) (fun h1 q=>?_) fun h1 q=>?_
  ·have e:(σ.H++ [y])[m]?=some z:=e
   rw [getElem?_append_left (by rw [←I.cells.len];exact h1)] at e
   refine aJ (I.cells.at' m b z q e) fun o ho r=>?_
   exact ⟨o,x.1 b o ho,r.mono (fun _ _ w=>w.step I.g st) fun _ _ q=>getElem?_prefix q⟩
  ·have e:(σ.H++ [y])[m]?=some z:=e
   rw [h1,I.cells.len] at e
   simp at e
   subst e
   exact ⟨o,q ▸ ha',hy⟩
 ·intro m b q
  refine fZ (old m b q) (fun _ q=>?_) fun _ q=>?_
  ·exact I.apart m b q
  ·subst q
   refine ⟨fun e=>?_,fun z c hz hc e=>?_⟩
   ·refine elE (I.g.lt _ (I.g.own _ I.vars.ownL)) fun o' ho'=>?_;rw [←e,ha] at ho';exact aP ho'
   ·refine elE (I.g.lt _ (I.g.own _ (I.vars.ownC z c hz hc))) fun o' ho'=>?_;rw [←e,ha] at ho';exact aP ho'
theorem Inv.raiseOf {h':Heap} {e:Addr} {k tk:Nat} {ob:Obj} {vs:Array Value} (I:Inv C sc A env G σ s) (hk:∀b o,s.heap.get? b=some o→h'.get? b=some o) (hn:s.heap.get? e=none)
  (ho:h'.get? e=some ob) (hc:ob.cls= .type (lV k)) (hdt:ob.data= .fields vs) (hz:4 < vs.size) (h1:vs[1]?=some .none) (h2:sc.hm=false→k < 2→vs[2]?=some .none):
  ∃G',bB G s G' { s with heap:=h',toks:=tk }∧Inv C sc A env G' σ { s with heap:=h',toks:=tk }∧kQ G' h' env sc.hm (.ref e) k:=by
 have X:Ext s { s with heap:=h',toks:=tk }:=⟨hk,rfl,rfl⟩
 refine ⟨G.add e,bB.add X hn,I.add X hn ho,e,vs,rfl,⟨ob,ho,hc,hdt,hz,.inr rfl,fun q=>?_⟩,h2,.inl h1⟩
 obtain ⟨i,hi,e1⟩:=getElem_of_mem q
 refine elE (I.g.lt e (I.g.own e (I.cells.own i e (by rw [←e1];exact getElem?_eq_getElem hi)))) fun o ho'=>?_;rw [hn] at ho';exact aP ho'
theorem Inv.raise {h':Heap} {e:Addr} {k tk:Nat} (I:Inv C sc A env G σ s) (x:Heap.NewExc s.heap h' e (lV k)):
  ∃G',bB G s G' { s with heap:=h',toks:=tk }∧Inv C sc A env G' σ { s with heap:=h',toks:=tk }∧kQ G' h' env sc.hm (.ref e) k:=by
 refine cD (x.there) fun ob t ho hc hdt=>?_
 exact I.raiseOf x.keeps x.new ho hc hdt (by simp) rfl fun _ _=>rfl
noncomputable def aKm (i:Int):Bool:=decide (-9223372036854775808≤i) && decide (i < 9223372036854775808)
theorem fM {i:Int}:aKm i=true ↔ -9223372036854775808≤i∧i < 9223372036854775808:=by
 unfold aKm;rw [Bool.and_eq_true,decide_eq_true_iff,decide_eq_true_iff]
noncomputable def idxL (l:List MV) (i:Int):Option (R MV):=
 if aKm i then
  if decide (0≤i) then (match l[i.toNat]? with|some x=>some (.ok x)|none=>some (.exc 0))
  else if decide (-(l.length:Int)≤i) then (match l[(i+l.length).toNat]? with|some x=>some (.ok x)|none=>none) else none
 else none
noncomputable def aKn (l:List MV) (i:Int):Option (R MV):=
 if aKm i && decide (0≤i) then (match l[i.toNat]? with|some x=>some (.ok x)|none=>none) else none
noncomputable def idxB (l:List Int) (i:Int):Option (R MV):=
 if decide (0≤i) && cC l.length then (match l[i.toNat]? with|some x=>some (.ok (.int x))|none=>none) else none
noncomputable def cA (x y:MV):M MV:=fun σ=>match x with
 | .lst l=>oI y fun i=>M.liftR (idxL l i) σ
 | .cell n=>oI y fun i=>pL σ.H[n]? fun l=>M.liftR (idxL l i) σ
 | .tup l=>oI y fun i=>M.liftR (aKn l i) σ
 | .bytes l=>oI y fun i=>M.liftR (idxB l i) σ
 | _=>none
theorem jW {α:Type} {o:Option (R α)} {σ σ':St} {r:R α} (h:M.liftR o σ=some (r,σ')):o=some r∧σ'=σ:=by
 cases o with
 | none=>exact aP h
 | some a=>have q:=sJ h;exact ⟨congrArg some (congrArg Prod.fst q),(congrArg Prod.snd q).symm⟩
theorem wU {l:List MV} {vs:List Value} {a:Addr} {i:Int} {t:Tok} {r:R MV} (hl:s.heap.IsList a vs.toArray) (hr:aK G s.heap l vs) (e:idxL l i=some r)
  (hok:∀x v,r= .ok x→aI G s.heap x v→Q v s) (hout:r= .exc 0→ -9223372036854775808≤i→i < 9223372036854775808→0≤i→((vs.toArray.size:Nat):Int)≤i→wpAny (model C.prog C.w) A (getItem (.ref a) (.int i t)) Q E s):
  wpAny (model C.prog C.w) A (getItem (.ref a) (.int i t)) Q E s:=by
 have hlen:=hr.length
 refine dG e fun hi e=>elA (fM.mp hi) fun h1 h2=>?_
 by_cases h0:0≤i
 ·rw [if_pos (decide_eq_true h0)] at e
  cases hx:l[i.toNat]? with
  | some x=>
   rw [hx] at e
   exact aJ (hr.get hx) fun v hv rv=>wpAny_getItem_list hl h0 (by lia) (by simpa using hv) (hok x v (sJ e).symm rv)
  | none=>
   rw [hx] at e
   refine hout (sJ e).symm (by lia) (by lia) h0 ?_
   have:=getElem?_eq_none_iff.mp hx
   rw [size_toArray]
   lia
 ·rw [if_neg (fun q=>h0 (of_decide_eq_true q))] at e
  refine dG e fun hb e=>?_
  have hb:=of_decide_eq_true hb
  cases hx:l[(i+l.length).toNat]? with
  | some x=>
   rw [hx] at e
   refine aJ (hr.get hx) fun v hv rv=>?_
   refine wpAny_getItem_list_neg hl (by lia) (by rw [size_toArray,←hlen];exact hb) (by lia) ?_ (hok x v (sJ e).symm rv)
   rw [size_toArray,←hlen];simpa using hv
  | none=>rw [hx] at e;exact aP e
theorem aDn {l:List MV} {vs:List Value} {a:Addr} {i:Int} {t:Tok} {r:R MV} (hA:A.handled=none) (hl:s.heap.IsList a vs.toArray) (hr:aK G s.heap l vs) (e:idxL l i=some r)
  (hok:∀x v,r= .ok x→aI G s.heap x v→Q v s) (hex:r= .exc 0→∀h' tk x,Heap.NewExc s.heap h' x "IndexError"→E (.ref x) { s with heap:=h',toks:=tk }):
  wpAny (model C.prog C.w) A (getItem (.ref a) (.int i t)) Q E s:=
 wU hl hr e hok fun q h1 h2 _ hn=>wpAny_getItem_list_out hA hl (.inr hn) (by lia) (by lia) (hex q)
theorem yX {b:Array UInt8} {t ti:Tok} {i:Int} {r:R MV} (e1:idxB (bInts b) i=some r) (h:∀x t' k,r= .ok (.int x)→Q (.int x t') { s with toks:=k }):
  wpAny (model C.prog C.w) A (getItem (.bytes b t) (.int i ti)) Q E s:=by
 refine dG e1 fun hi e1=>elA (and_eq_true_iff.mp hi) fun h0 hz=>?_
 have h0:=of_decide_eq_true h0
 have hz:=bN.mp hz
 cases hx:(bInts b)[i.toNat]? with
 | none=>rw [hx] at e1;exact aP e1
 | some x=>
  rw [hx] at e1
  have hlt:=(gS hx).1
  have e:b.toList.toArray=b:=Array.toArray_toList
  rw [KBw.ints_length] at hz hlt
  have g:wpAny (model C.prog C.w) A (getItem (.bytes b.toList.toArray t) (.int i ti)) Q E s:=by
   refine getItem_bytes (l:=b.toList) (Nat.le_trans hz (by decide)) h0 (by simp;lia) ?_
   rw [KBw.getD_ints]
   have hx':(KBw.bInts b).getD i.toNat 0=x:=by rw [getD_eq_getElem?_getD,hx];rfl
   rw [show (b.toList.map fun c=>(c.toNat:Int))=KBw.bInts b from rfl,hx']
   exact h _ _ _ (sJ e1).symm
  rw [e] at g
  exact g
theorem bH {value slice:Expr} {pos:Pos} {f g:M MV} (hv:aV C true n sc value f) (hs:aV C true n sc slice g)
  (hsub:autoParam (∀o i,subscripted slice false o i=operate [o,i] (getItem o i)) nB._auto_1):aV C true n sc (.Subscript value slice pos) (M.bind f fun x=>M.bind g fun y=>cA x y):=by
 intro A env G σ s hA I
 rw [eval_Subscript]
 refine Tr.bind (hv A env G σ s hA I) fun x v G' σ' s' st I' p=>Tr.bind (Tr.holding (hs A env G' σ' s' hA I')) fun y u G'' σ'' s'' st' I'' p'=>Tr.stand ?_
 show Tr C sc A env G'' σ'' s'' (subscriptTail value slice v u) _ _
 have p:=p.step I'.g st'
 have hh:=hA.handled rfl
 intro r σ₁ e
 have lst:∀{l:List MV} {vs:List Value} {a:Addr} {i:Int} {t:Tok},s''.heap.IsList a vs.toArray→aK G'' s''.heap l vs→Tr C sc A env G'' σ'' s'' (subscriptTail value slice (.ref a) (.int i t)) (M.liftR (idxL l i)) (fun G h x v=>aI G h x v):=fun {l vs a i t} h1 h3 r σ₁ e=>by
  refine elA (jW e) fun e1 q=>?_
  rw [q]
  refine tail_any h1.typeIs slot_list_getitem.lookup (aDn hh h1 h3 e1 (fun x v q r=>⟨x,G'',q,bB.refl _ _,I'',r⟩) fun q h' tk x hx=>?_) (hsub _ _)
  exact bG (I''.raise (k:=0) (tk:=tk) hx) fun G3 a1 a2 a3=>⟨0,G3,q,a1,a2,a3⟩
 cases p with
 | lst h1 h2 h3=>exact kO e p' fun i t e=>lst h1 h3 r σ₁ e
 | cell hp=>
  refine kO e p' fun i t e=>qG e fun {l} hl e=>?_
  exact fF (I''.cells.at' _ _ _ hp hl) fun o ho _ hc vs k hdt h3=>lst (vs:=vs) ⟨o,ho,hc,k,hdt⟩ h3 r σ₁ e
 | @tup l vs a h1 h2 h3=>
  refine kO e p' fun i t e=>elA (jW e) fun e1 q=>dG e1 fun hi e1=>?_
  rw [q]
  refine elA (and_eq_true_iff.mp hi) fun hi h0=>elA (fM.mp hi) fun q1 q2=>?_
  have h0:=of_decide_eq_true h0
  cases hx:l[i.toNat]? with
  | none=>rw [hx] at e1;exact aP e1
  | some x=>
   rw [hx] at e1
   refine aJ (h3.get hx) fun v hv rv=>?_
   have hlt:=(gS hv).1
   refine tail_any (Heap.IsTuple.typeIs h1) slot_tuple_getitem.lookup (getItem_tuple h1 (by lia) (by lia) (j:=_) ?_ (by simpa using hv) ⟨x,G'',(sJ e1).symm,bB.refl _ _,I'',rv⟩) (hsub _ _)
   rw [size_toArray]
   have hn:¬(_:Int) < 0:=Int.not_lt.mpr h0
   simp [seqIndex?,hn,h0];lia
 | bytes b t=>
  refine kO e p' fun i t e=>elA (jW e) fun e1 q=>?_
  rw [q]
  refine tail_any (typeIs_bytes s'' b _) FB.slot_bytes_getitem.lookup (yX e1 fun x t' k q=>?_) (hsub _ _)
  exact ⟨_,G'',q,(Ext.toks s'' _).step _,I''.ext (Ext.toks s'' _),.int _ _⟩
 | _=>exact aP e
end
section
variable {C:Cx} {hd:Bool} {n:Nat} {sc:SC} {A:Around} {env:Env} {G:Gh} {σ:St} {s:Shared} {Q E:Value→Shared→Prop}
noncomputable def kU (x y:MV):Option MV:=match x with
 | .lst l=>oI y fun i=>if decide (0≤i) && cC l.length then some (.lst (l.take i.toNat)) else none
 | .bytes l=>oI y fun i=>if decide (0≤i) && cC l.length then some (.bytes (l.take i.toNat)) else none
 | _=>none
noncomputable def kW (x y:MV):Option MV:=match x with
 | .lst l=>oI y fun i=>if decide (0≤i) && cC l.length then some (.lst (l.drop i.toNat)) else none
 | .bytes l=>oI y fun i=>if decide (0≤i) && cC l.length then some (.bytes (l.drop i.toNat)) else none
 | _=>none
theorem pE {slice:Expr} {l:Addr} {vs:List Value} {sl:Addr} {vl vu:Value} {lo hi:Option Int} {ws:List Value} (hl:s.heap.IsList l vs.toArray) (hz:vs.length≤1000000) (hs:s.heap.IsSliceOf sl vl vu .none) (pl:IsPart vl lo) (pu:IsPart vu hi)
  (hw:slicePick vs.toArray lo hi none=ws.toArray)
  (h:Q (.ref s.heap.objs.size) { s with heap:=s.heap.push { cls:= .type "list",data:= .seq ws.toArray } }):wpAny (model C.prog C.w) A (getItem (.ref l) (.ref sl)) Q E s:=by
 refine wpAny_getItem_list_slice hl hs pl pu .none (by simp) ?_ (by rw [size_toArray];show _≤16777216;lia)
 rw [hw];exact h
theorem pF {b:Array UInt8} {t:Tok} {sl:Addr} {vl vu:Value} {lo hi:Option Int} {ks:List Int} (hz:(bInts b).length≤1000000) (hs:s.heap.IsSliceOf sl vl vu .none) (pl:IsPart vl lo) (pu:IsPart vu hi)
  (hw:bInts (KBy.picked b lo hi)=ks) (h:∀b' t' k,bInts b'=ks→Q (.bytes b' t') { s with toks:=k }):wpAny (model C.prog C.w) A (getItem (.bytes b t) (.ref sl)) Q E s:=
 getItem_meets (typeIs_bytes _ _ _) (by decide) FB.slot_bytes_getitem FB.entry_bytes_getitem (FB.args_bytes_getitem_2 _ _) (KBc.meets_slice2 b t _ pl pu)
  ⟨hs,Nat.le_trans (KBc.size_picked_le b lo hi) (by rw [←KBw.ints_length b];show (bInts b).length≤16777216;lia),fun t' k=>h _ _ _ hw⟩
theorem yY {slice value:Expr} {x y z:MV} {v w:Value} {a:Addr} (I:Inv C sc A env G σ s) (e:kU x y=some z) (hx:aI G s.heap x v) (hy:aI G s.heap y w) (hs:s.heap.IsSliceOf a .none w .none)
  (hsub:∀o i,subscripted slice false o i=operate [i,o] (getItem o i)) (h:∀u s',Ext s s'→aI G s'.heap z u→Q u s'):wpAny (model C.prog C.w) A (subscriptTail value slice v (.ref a)) Q E s:=by
 cases hx with
 | @lst l vs _ h1 h2 h3=>
  ·revert hs
   refine kO e hy fun i ti e hs=>dG e fun hi e=>?_
   rw [←sJ e] at h
   refine elA (and_eq_true_iff.mp hi) fun h0 hz=>?_
   have h0:=of_decide_eq_true h0
   have hz:=bN.mp hz
   have q:=h3.length
   refine tail_any h1.typeIs slot_list_getitem.lookup (pE (slice:=slice) (ws:=vs.take i.toNat) h1 (by lia) hs .none (.int i _) ?_ (h _ _ (Ext.push s _) (I.newLst (h3.take _)))) (hsub _ _)
   (refine elE (Int.eq_ofNat_of_zero_le h0) fun j e3_6=>?_;obtain rfl:=e3_6)
   exact slicePick_upto' _ j
 | bytes b t=>
  ·revert hs
   refine kO e hy fun i ti e hs=>dG e fun hi e=>?_
   rw [←sJ e] at h
   refine elA (and_eq_true_iff.mp hi) fun h0 hz=>?_
   have h0:=of_decide_eq_true h0
   have hz:=bN.mp hz
   refine tail_any (typeIs_bytes s b t) FB.slot_bytes_getitem.lookup (pF (ks:=(bInts b).take i.toNat) hz hs .none (.int i _) ?_ fun b' t' k q=>?_) (hsub _ _)
   ·show KBw.bInts _=_
    rw [KBc.ints_picked rfl]
    (refine elE (Int.eq_ofNat_of_zero_le h0) fun j e3_5=>?_;obtain rfl:=e3_5)
    simp only [Option.elim,clipAt_nat,List.drop_zero,Nat.sub_zero,Int.toNat_natCast]
    rw [List.take_eq_take_iff];lia
   ·refine h _ _ (Ext.toks s _) ?_
    rw [←q];exact .bytes _ _
 | _=>exact aP e
theorem yZ {slice value:Expr} {x y z:MV} {v w:Value} {a:Addr} (I:Inv C sc A env G σ s) (e:kW x y=some z) (hx:aI G s.heap x v) (hy:aI G s.heap y w) (hs:s.heap.IsSliceOf a w .none .none)
  (hsub:∀o i,subscripted slice false o i=operate [i,o] (getItem o i)) (h:∀u s',Ext s s'→aI G s'.heap z u→Q u s'):wpAny (model C.prog C.w) A (subscriptTail value slice v (.ref a)) Q E s:=by
 cases hx with
 | @lst l vs _ h1 h2 h3=>
  ·revert hs
   refine kO e hy fun i ti e hs=>dG e fun hi e=>?_
   rw [←sJ e] at h
   refine elA (and_eq_true_iff.mp hi) fun h0 hz=>?_
   have h0:=of_decide_eq_true h0
   have hz:=bN.mp hz
   have q:=h3.length
   refine tail_any h1.typeIs slot_list_getitem.lookup (pE (slice:=slice) (ws:=vs.drop i.toNat) h1 (by lia) hs (.int i _) .none ?_ (h _ _ (Ext.push s _) (I.newLst (h3.drop _)))) (hsub _ _)
   (refine elE (Int.eq_ofNat_of_zero_le h0) fun j e3_4=>?_;obtain rfl:=e3_4)
   exact slicePick_from' _ j
 | bytes b t=>
  ·revert hs
   refine kO e hy fun i ti e hs=>dG e fun hi e=>?_
   rw [←sJ e] at h
   refine elA (and_eq_true_iff.mp hi) fun h0 hz=>?_
   have h0:=of_decide_eq_true h0
   have hz:=bN.mp hz
   refine tail_any (typeIs_bytes s b t) FB.slot_bytes_getitem.lookup (pF (ks:=(bInts b).drop i.toNat) hz hs (.int i _) .none ?_ fun b' t' k q=>?_) (hsub _ _)
   ·show KBw.bInts _=_
    rw [KBc.ints_picked rfl]
    (refine elE (Int.eq_ofNat_of_zero_le h0) fun j e3_3=>?_;obtain rfl:=e3_3)
    simp only [Option.elim,clipAt_nat,Int.toNat_natCast]
    rw [List.take_of_length_le (by simp)]
    rcases Nat.le_total j (bInts b).length with hj|hj
    ·rw [Nat.min_eq_left hj]
    ·rw [Nat.min_eq_right hj,drop_of_length_le (Nat.le_refl _),drop_of_length_le hj]
   ·refine h _ _ (Ext.toks s _) ?_
    rw [←q];exact .bytes _ _
 | _=>exact aP e
theorem aKo {e:Expr} {p:Pos} {g:M MV} (he:aV C hd n sc e g) (hA:AOk hd n A) (I:Inv C sc A env G σ s):
  Tr C sc A env G σ s (eval (.Slice none (some e) none p) env) g (fun G h y u=>∃a v,u= .ref a∧h.IsSliceOf a .none v .none∧aI G h y v):=by
 intro r σ' e'
 refine wpAny_Slice ?_
 rw [evalPart_none,evalPart_some]
 refine wP (wpAny_mono (he A env G σ s hA I r σ' e') (fun v s' h=>?_) fun _ _ h=>h)
 (refine bL h fun b G' q st I' pr=>?_;try clear h)
 refine wP ⟨b,G',q,st.trans ((Ext.push s' _).step G'),I'.ext (Ext.push s' _),_,v,rfl,Heap.IsSliceOf.new _ _ _ _,pr.ext I'.g (Ext.push s' _)⟩
theorem aKp {e:Expr} {p:Pos} {g:M MV} (he:aV C hd n sc e g) (hA:AOk hd n A) (I:Inv C sc A env G σ s):
  Tr C sc A env G σ s (eval (.Slice (some e) none none p) env) g (fun G h y u=>∃a v,u= .ref a∧h.IsSliceOf a v .none .none∧aI G h y v):=by
 intro r σ' e'
 refine wpAny_Slice ?_
 rw [evalPart_none,evalPart_some]
 refine wpAny_mono (he A env G σ s hA I r σ' e') (fun v s' h=>?_) fun _ _ h=>h
 (refine bL h fun b G' q st I' pr=>?_;try clear h)
 refine wP (wP ⟨b,G',q,st.trans ((Ext.push s' _).step G'),I'.ext (Ext.push s' _),_,v,rfl,Heap.IsSliceOf.new _ _ _ _,pr.ext I'.g (Ext.push s' _)⟩)
theorem kX {value e:Expr} {p pos:Pos} {f g:M MV} (hv:aV C hd n sc value f) (he:aV C hd n sc e g):aV C hd n sc (.Subscript value (.Slice none (some e) none p) pos) (M.bind f fun x=>M.bind g fun y=>M.lift (kU x y)):=by
 intro A env G σ s hA I
 rw [eval_Subscript]
 refine Tr.bind (hv A env G σ s hA I) fun x v G' σ' s' st I' px=>Tr.bind (Tr.holding (aKo he hA I')) fun y u G'' σ'' s'' st' I'' py=>Tr.stand ?_
 (refine cD py fun a w e_3 hs hw=>?_;try clear py;obtain rfl:=e_3)
 show Tr C sc A env G'' σ'' s'' (subscriptTail value (.Slice none (some e) none p) v (.ref a)) _ _
 exact Tr.of_ext I'' fun b eb Q E h=>yY I'' eb (px.step I'.g st') hw hs (fun _ _=>rfl) h
theorem kY {value e:Expr} {p pos:Pos} {f g:M MV} (hv:aV C hd n sc value f) (he:aV C hd n sc e g):aV C hd n sc (.Subscript value (.Slice (some e) none none p) pos) (M.bind f fun x=>M.bind g fun y=>M.lift (kW x y)):=by
 intro A env G σ s hA I
 rw [eval_Subscript]
 refine Tr.bind (hv A env G σ s hA I) fun x v G' σ' s' st I' px=>Tr.bind (Tr.holding (aKp he hA I')) fun y u G'' σ'' s'' st' I'' py=>Tr.stand ?_
 (refine cD py fun a w e_2 hs hw=>?_;try clear py;obtain rfl:=e_2)
 show Tr C sc A env G'' σ'' s'' (subscriptTail value (.Slice (some e) none none p) v (.ref a)) _ _
 exact Tr.of_ext I'' fun b eb Q E h=>yZ I'' eb (px.step I'.g st') hw hs (fun _ _=>rfl) h
noncomputable def oF (y:MO):M MV:=fun σ=>some (.ok (.cell σ.H.length),{ σ with H:=σ.H++ [y] })
theorem aKq {vs:List Value} {l:List MV} {k:Nat} (I:Inv C sc A env G σ s) (r:aK G s.heap l vs):
  ∃G',bB G s G' { s with heap:=s.heap.push { cls:= .type "list",data:= .seq vs.toArray k } }∧Inv C sc A env G' { σ with H:=σ.H++ [.list l] } { s with heap:=s.heap.push { cls:= .type "list",data:= .seq vs.toArray k } }∧
   aI G' (s.heap.push { cls:= .type "list",data:= .seq vs.toArray k }) (.cell σ.H.length) (.ref s.heap.objs.size):=by
 have x:=Ext.push s { cls:= .type "list",data:= .seq vs.toArray k }
 have st:=bB.addC (G:=G) x (bD _)
 refine ⟨_,st,I.addC x (bD _) (Heap.get?_push_size _ rfl) ⟨⟨rfl,rfl⟩,rfl,vs,k,rfl,r.step I.g st⟩,.cell ?_⟩
 show (G.phi++ [s.heap.objs.size])[σ.H.length]?=_
 rw [←I.cells.len];simp
theorem cW {es:List Expr} {fs:List (M MV)} {pos:Pos} (h:dD C hd n sc es fs):aV C hd n sc (.List es pos) (M.bind (aO fs) fun l=>M.bind (M.lift (if cC l.length then some () else none)) fun _=>oF (.list l)):=by
 intro A env G σ s hA I
 rw [arm_eval_List]
 refine Tr.stand (Tr.bind (eK h hA I) fun l vs G' σ' s' st I' p=>?_)
 intro r σ₁ e
 focus (refine elrEAoEEA (M.bind_some e) (fun k e1 r_1=>?_) fun _ σ₂ e1 e2=>?_;obtain rfl:=r_1;rotate_left;rotate_left)
 ·exact (M.lift_exc e1).elim
 ·(refine bG (M.lift_some e1) fun _ ec _ e_1=>?_;obtain rfl:=e_1)
  ·refine dG ec fun hz _=>?_
   (have q_:=aZ e2;clear e2;(refine elA q_ fun e3_1 e3_2=>?_;try clear q_;obtain rfl:=e3_1;obtain rfl:=e3_2))
   refine bG (aKq (k:=0) I' p) fun G'' a1 a2 a3=>?_
   exact jS ⟨_,G'',rfl,a1,a2,a3⟩ (by have:=p.length;have:=bN.mp hz;lia)
end
noncomputable def Gh.addW (G:Gh) (wr:List Addr):Gh:={ G with W:=fun b=>G.W b∨b∈wr }
noncomputable def Gh.subW (G:Gh) (wr:List Addr):Gh:={ G with W:=fun b=>G.W b∧b∉wr }
noncomputable def M.ne {α:Type} (f:M α):M α:=fun σ=>match f σ with
 | some (.ok a,σ')=>some (.ok a,σ')
 | _=>none
theorem M.ne_some {α:Type} {f:M α} {σ σ':St} {r:R α} (h:M.ne f σ=some (r,σ')):∃a,r= .ok a∧f σ=some (.ok a,σ'):=by
 delta M.ne at h
 generalize f σ=o at h ⊢
 rcases o with _|⟨a|k,σ₁⟩
 ·exact aP h
 ·have q:=sJ h;exact ⟨a,(congrArg Prod.fst q).symm,congrArg (fun z=>some (R.ok a,z)) (congrArg Prod.snd q:σ₁=σ')⟩
 ·exact aP h
theorem M.ne_exc {α:Type} {f:M α} {σ σ':St} {k:Nat} (h:M.ne f σ=some (.exc k,σ')):False:=by
 refine aJ (M.ne_some h) fun _ q _=>?_;exact lU q
noncomputable abbrev Nxt:=Nat→List MO→Option (Option MV)
structure Apt (sc:SC) (env:Env) (G:Gh) (I:Addr):Prop where
 own:¬G.own I
 frs:¬G.frs I
 loc:I≠env.locals
 cel:∀x k c,sc.lookup x=some k→(k= .cell∨k= .free)→env.cells.lookup (nm x)=some c→I≠c
section
variable {C:Cx} {hd:Bool} {n:Nat} {sc:SC} {A:Around} {env:Env} {G:Gh} {σ:St} {s:Shared} {Q E:Value→Shared→Prop}
theorem Inv.addW {s':Shared} {wr:List Addr} (I:Inv C sc A env G σ s) (x:Ext s s') (ha:∀a∈wr,s.heap.get? a=none) (ha':∀a∈wr,∃o,s'.heap.get? a=some o):
  bB G s (G.addW wr) s'∧Inv C sc A env (G.addW wr) σ s'∧∀a∈wr,(G.addW wr).W a∧Apt sc env (G.addW wr) a:=by
 have st:bB G s (G.addW wr) s':=⟨fun b o e _ _=>x.1 b o e,fun b o e _=>⟨o.slots,x.1 b o e⟩,fun b o e=>⟨o,x.1 b o e⟩,fun b q=> .inl q,fun b q=>q.elim .inl fun q=> .inr (ha b q),fun b q=>q,fun b q=> .inl q,rfl,⟨[],by simp [Gh.addW]⟩,x.2.1,x.2.2⟩
 have J:=I.ext x
 refine ⟨st,⟨J.x0,fun b q=>q.elim (J.baseW b) fun q=>lJ I (ha b q),J.gens,J.os,J.ok,⟨fun b q=> .inl (I.g.own b q),fun b q=> .inl (I.g.frs b q),fun b q=>q.elim (J.g.lt b) fun q=>ha' b q⟩,
  ⟨let ⟨m,hn,hm⟩:=I.vars.loc;⟨m,hn.keeps x.1,fun z y e e'=>let ⟨v,hv,r⟩:=hm z y e e';⟨v,hv,r.step I.g st⟩⟩,
   fun z k e e'=>let ⟨c,ov,hc,hi,hr⟩:=I.vars.cel z k e e';⟨c,ov,hc,hi.keeps x.1,fun y q=>let ⟨v,hv,r⟩:=hr y q;⟨v,hv,r.step I.g st⟩⟩,
   I.vars.ownL,I.vars.ownC,I.vars.apart⟩,
  ⟨I.cells.len,I.cells.own,I.cells.inj,I.cells.nfr,fun m b y e e'=>let ⟨o,ho,r⟩:=I.cells.at' m b y e e';⟨o,x.1 b o ho,r.mono (fun _ _ z=>z.step I.g st) fun _ _ q=>q⟩⟩,
  J.apart,J.lnk,J.frs,fun q=>(I.held q).step st⟩,fun a hm=>⟨.inr hm,?_⟩⟩
 have dead:∀b o,s.heap.get? b=some o→a≠b:=fun b o e q=>by rw [←q,ha a hm] at e;exact aP e
 refine ⟨fun q=>?_,fun q=>?_,?_,fun z k c hz hk hc=>?_⟩
 ·obtain ⟨o,e⟩:=I.g.lt a (I.g.own a q);exact dead a o e rfl
 ·obtain ⟨o,e⟩:=I.g.lt a (I.g.frs a q);exact dead a o e rfl
 ·(refine aJ (I.vars.loc) fun m t_3 _=>?_;obtain ⟨o,_,_,e,_⟩:=t_3);exact dead _ o e
 ·(refine cD (I.vars.cel z k hz hk) fun c' ov hc' t_2 _=>?_;obtain ⟨o,e,_⟩:=t_2)
  rw [hc] at hc';(obtain rfl:=sJ hc')
  exact dead _ o e
structure Mod (wr:List Addr) (s s':Shared):Prop where
 keep:∀b o,b∉wr→s.heap.get? b=some o→s'.heap.get? b=some o
 gens:s'.gens=s.gens
 os:s'.os=s.os
theorem Mod.vk {wr:List Addr} {s':Shared} (hW:∀b∈wr,G.W b) (m:Mod wr s s'):∀a o,s.heap.get? a=some o→¬G.W a→s'.heap.get? a=some o:=fun a o e n=>m.keep a o (fun q=>n (hW a q)) e
theorem Apt.step {G':Gh} {s':Shared} {I:Addr} (ap:Apt sc env G I) (al:∃o,s.heap.get? I=some o) (st:bB G s G' s'):Apt sc env G' I:=by
 refine ⟨fun q=>?_,by rw [st.frs];exact ap.frs,ap.loc,ap.cel⟩
 rcases st.own' I q with q|q
 ·exact ap.own q
 ·obtain ⟨o,e⟩:=al;rw [e] at q;exact iS q
noncomputable def eS (sc:SC) (env:Env) (G:Gh) (wr:List Addr):Prop:=∀b∈wr,G.W b∧Apt sc env G b
theorem eS.step {G':Gh} {s':Shared} {wr:List Addr} (d:eS sc env G wr) (g:GOk G s.heap) (st:bB G s G' s'):eS sc env G' wr:=fun b hb=>⟨st.W b (d b hb).1,(d b hb).2.step (g.lt b (d b hb).1) st⟩
theorem Inv.mod {wr:List Addr} {s':Shared} (hh:A.handled=none) (J:Inv C sc A env G σ s) (d:eS sc env G wr) (m:Mod wr s s') (ha:∀b∈wr,∃o,s'.heap.get? b=some o):Inv C sc A env G σ s' where
 x0:=fun a o e=>m.keep a o (fun q=>by rw [J.baseW a (d a q).1] at e;exact aP e) (J.x0 a o e)
 baseW:=J.baseW
 gens:=m.gens.trans J.gens
 os:=m.os.trans J.os
 ok:=J.ok
 g:=⟨J.g.own,J.g.frs,fun a q=>by
  by_cases h:a∈wr
  ·exact ha a h
  ·obtain ⟨o,e⟩:=J.g.lt a q;exact ⟨o,m.keep a o h e⟩⟩
 vars:=⟨let ⟨mm,hn,hm⟩:=J.vars.loc;⟨mm,(by (refine iD hn fun o es ep e r=>?_;try clear hn);exact ⟨o,es,ep,m.keep _ o (fun q=>(d _ q).2.loc rfl) e,r⟩),fun a y e e'=>let ⟨v,hv,r⟩:=hm a y e e';⟨v,hv,r.keep (m.vk fun b hb=>(d b hb).1)⟩⟩,
  fun a k e e'=>let ⟨c,ov,hc,hi,hr⟩:=J.vars.cel a k e e';⟨c,ov,hc,(let ⟨o,ho,d'⟩:=hi;⟨o,m.keep _ o (fun q=>(d _ q).2.cel a k c e e' hc rfl) ho,d'⟩),fun y z=>let ⟨v,hv,r⟩:=hr y z;⟨v,hv,r.keep (m.vk fun b hb=>(d b hb).1)⟩⟩,
  J.vars.ownL,J.vars.ownC,J.vars.apart⟩
 cells:=⟨J.cells.len,J.cells.own,J.cells.inj,J.cells.nfr,fun k a y e e'=>let ⟨o,ho,r⟩:=J.cells.at' k a y e e';⟨o,m.keep a o (fun q=>(d _ q).2.own (J.cells.own k a e)) ho,r.mono (fun _ _ z=>z.keep (m.vk fun b hb=>(d b hb).1)) fun _ _ q=>q⟩⟩
 apart:=J.apart
 lnk:=J.lnk
 frs:=fun a z=>let ⟨mm,⟨o,es,ep,e,r⟩⟩:=J.frs a z;⟨mm,⟨o,es,ep,m.keep _ o (fun q=>(d _ q).2.frs z) e,r⟩⟩
 held:=fun q=>((J.held q).none hh).elim
theorem Inv.modEnd {wr:List Addr} {s':Shared} (hh:A.handled=none) (J:Inv C sc A env G σ s) (d:eS sc env G wr) (m:Mod wr s s'):Inv C sc A env (G.subW wr) σ s':=by
 have hW:∀b∈wr,G.W b:=fun b hb=>(d b hb).1
 have wk:∀{l:List MV} {vs:List Value},aK G s.heap l vs→aK (G.subW wr) s'.heap l vs:=fun r=>aK.weakW (G':=G.subW wr) (fun _ q=>And.left q) rfl (r.keep (m.vk hW))
 have wk1:∀{x:MV} {v:Value},aI G s.heap x v→aI (G.subW wr) s'.heap x v:=fun r=>aI.weakW (G':=G.subW wr) (fun _ q=>And.left q) rfl (r.keep (m.vk hW))
 exact {
  x0:=fun a o e=>m.keep a o (fun q=>by rw [J.baseW a (hW a q)] at e;exact aP e) (J.x0 a o e)
  baseW:=fun a q=>J.baseW a q.1
  gens:=m.gens.trans J.gens
  os:=m.os.trans J.os
  ok:=J.ok
  g:=⟨fun a q=>⟨J.g.own a q,fun e=>(d a e).2.own q⟩,fun a q=>⟨J.g.frs a q,fun e=>(d a e).2.frs q⟩,fun a q=>let ⟨o,e⟩:=J.g.lt a q.1;⟨o,m.keep a o q.2 e⟩⟩
  vars:=⟨let ⟨mm,hn,hm⟩:=J.vars.loc;⟨mm,(by (refine iD hn fun o es ep e r=>?_;try clear hn);exact ⟨o,es,ep,m.keep _ o (fun q=>(d _ q).2.loc rfl) e,r⟩),fun a y e e'=>let ⟨v,hv,r⟩:=hm a y e e';⟨v,hv,wk1 r⟩⟩,
   fun a k e e'=>let ⟨c,ov,hc,hi,hr⟩:=J.vars.cel a k e e';⟨c,ov,hc,(let ⟨o,ho,d'⟩:=hi;⟨o,m.keep _ o (fun q=>(d _ q).2.cel a k c e e' hc rfl) ho,d'⟩),fun y z=>let ⟨v,hv,r⟩:=hr y z;⟨v,hv,wk1 r⟩⟩,
   J.vars.ownL,J.vars.ownC,J.vars.apart⟩
  cells:=⟨J.cells.len,J.cells.own,J.cells.inj,J.cells.nfr,fun k a y e e'=>let ⟨o,ho,r⟩:=J.cells.at' k a y e e';⟨o,m.keep a o (fun q=>(d _ q).2.own (J.cells.own k a e)) ho,r.mono (fun _ _ z=>wk1 z) fun _ _ q=>q⟩⟩
  apart:=J.apart
  lnk:=J.lnk
  frs:=fun a z=>let ⟨mm,⟨o,es,ep,e,r⟩⟩:=J.frs a z;⟨mm,⟨o,es,ep,m.keep _ o (fun q=>(d _ q).2.frs z) e,r⟩⟩
  held:=fun q=>((J.held q).none hh).elim }
theorem bB.mod {G₀:Gh} {s₀ s':Shared} {wr:List Addr} (st:bB G₀ s₀ G s) (hI:∀b∈wr,s₀.heap.get? b=none) (m:Mod wr s s'):bB G₀ s₀ G s' where
 keep:=fun a o e n f=>m.keep a o (fun q=>by rw [hI a q] at e;exact aP e) (st.keep a o e n f)
 slots:=fun a o e n=>let ⟨sl,z⟩:=st.slots a o e n;⟨sl,m.keep a _ (fun q=>by rw [hI a q] at e;exact aP e) z⟩
 alive:=fun a o e=>let ⟨o',z⟩:=st.alive a o e;⟨o',m.keep a _ (fun q=>by rw [hI a q] at e;exact aP e) z⟩
 W:=st.W
 W':=st.W'
 own:=st.own
 own':=st.own'
 frs:=st.frs
 phi:=st.phi
 gens:=m.gens.trans st.gens
 os:=m.os.trans st.os
theorem bB.modEnd {G₀:Gh} {s₀ s':Shared} {wr:List Addr} (g:GOk G₀ s₀.heap) (st:bB G₀ s₀ G s) (hI:∀b∈wr,s₀.heap.get? b=none) (m:Mod wr s s'):bB G₀ s₀ (G.subW wr) s':=
 { bB.mod st hI m with
  W:=fun a q=>⟨st.W a q,fun e=>by obtain ⟨o,z⟩:=g.lt a q;rw [hI a e] at z;exact aP z⟩
  W':=fun a q=>st.W' a q.1 }
structure fV (C:Cx) (A:Around) (I:Addr) (wr:List Addr) (okT:Expr→Bool) (nx:Nxt) (Pos:Nat→Gh→Heap→Prop):Prop where
 frame:∀i G G' s s',GOk G s.heap→(∀b∈wr,G.W b∧¬G.own b∧¬G.frs b)→Pos i G s.heap→bB G s G' s'→Pos i G' s'.heap
 turn:∀i G H s x t (Q:Option Value→Shared→Prop) (E:Value→Shared→Prop),okT t=true→GOk G s.heap→nD C G H s.heap→(∀b∈wr,G.W b∧¬G.own b∧¬G.frs b)→Pos i G s.heap→nx i H=some (some x)→
  (∀v s₁,(∀(Q':Unit→Shared→Prop) (E':Value→Shared→Prop),(∀s',aI G s'.heap x v→Mod wr s s'→(∀b∈wr,∃o,s'.heap.get? b=some o)→Pos (i+1) G s'.heap→Q' () s')→
   wpAny (model C.prog C.w) A (letOwnedTupleGo t (.ref I) v) Q' E' s₁)→Q (some v) s₁)→wpAny (model C.prog C.w) A (pyNext (.ref I)) Q E s
 fin:∀i G H s (Q:Option Value→Shared→Prop) (E:Value→Shared→Prop),nD C G H s.heap→(∀b∈wr,G.W b∧¬G.own b∧¬G.frs b)→Pos i G s.heap→nx i H=some none→
  (∀s',Mod wr s s'→Q none s')→wpAny (model C.prog C.w) A (pyNext (.ref I)) Q E s
 self:∀i G s (Q:Value→Shared→Prop) (E:Value→Shared→Prop),Pos i G s.heap→Q (.ref I) s→wpAny (model C.prog C.w) A (pyIter (.ref I)) Q E s
 ghost:∀i G (own':Addr→Prop) h,Pos i G h→Pos i ⟨G.W,own',G.frs,G.phi⟩ h
 other:∀i G h h',(∀a o,¬G.W a∨a∈wr→h.get? a=some o→h'.get? a=some o)→Pos i G h→Pos i G h'
theorem eS.g {wr:List Addr} (d:eS sc env G wr):∀b∈wr,G.W b∧¬G.own b∧¬G.frs b:=fun b hb=>⟨(d b hb).1,(d b hb).2.own,(d b hb).2.frs⟩
theorem bB.kp {G G':Gh} {s s':Shared} (g:GOk G s.heap) (st:bB G s G' s') {c:Addr} {o:Obj} (hc:¬G.W c) (e:s.heap.get? c=some o):s'.heap.get? c=some o:=st.keep _ o e (fun q=>hc (g.own _ q)) (fun q=>hc (g.frs _ q))
theorem bB.nW {G G':Gh} {s s':Shared} (st:bB G s G' s') {c:Addr} {o:Obj} (e:s.heap.get? c=some o) (hc:¬G.W c):¬G'.W c:=fun q=>by
 rcases st.W' _ q with q|q
 ·exact hc q
 ·rw [e] at q;exact iS q
noncomputable abbrev SIQ (C:Cx) (sc:SC) (A:Around) (okT:Expr→Bool) (env:Env) (G:Gh) (s:Shared) (σ':St) (r:R (Nat×Nxt)):Value→Shared→Prop:=
 fun it s₂=>∃p G' I wr Pos,r= .ok p∧it= .ref I∧bB G s G' s₂∧Inv C sc A env G' σ' s₂∧(∀b∈wr,s.heap.get? b=none)∧eS sc env G' wr∧fV C A I wr okT p.2 Pos∧Pos 0 G' s₂.heap
noncomputable abbrev SIP (C:Cx) (sc:SC) (A:Around) (okT:Expr→Bool) (env:Env) (G:Gh) (s:Shared) (σ':St) (r:R (Nat×Nxt)):Value→Shared→Prop:=
 fun x s₁=>wpAny (model C.prog C.w) A (pyIter x) (SIQ C sc A okT env G s σ' r) (TrE C sc A env G s σ' r) s₁
noncomputable def sF (C:Cx) (n:Nat) (sc:SC) (okT:Expr→Bool) (e:Expr) (f:M (Nat×Nxt)):Prop:=
 ∀A env G σ s,AOk true n A→Inv C sc A env G σ s→∀r σ',f σ=some (r,σ')→wpAny (model C.prog C.w) A (eval e env) (SIP C sc A okT env G s σ' r) (TrE C sc A env G s σ' r) s
noncomputable def wV (C:Cx) (n:Nat) (sc:SC) (t:Expr) (f:MV→M Unit):Prop:=
 ∀A env G σ s x v,AOk true n A→Inv C sc A env G σ s→aI G s.heap x v→Tr C sc A env G σ s (assign t env v) (f x) (fun _ _ _ _=>True)
theorem bC (x:Nat) {z:Str} {p:Pos} (hz:autoParam (nm x=z) aX._auto_1) (hk:autoParam (cZ (sc.lookup x)=true) aX._auto_1):wV C n sc (.Name z p) (bE x):=by
 subst hz
 intro A env G σ s y v hA I r
 exact Tr.stand (eM I hk r)
noncomputable def iI (nx:Nxt) (tg:MV→M Unit) (body:M Fl):Nat→Nat→M Fl
 | 0,_=>M.fail
 | k+1,i=>fun σ=>match nx i σ.H with
  | none=>none
  | some none=>some (.ok .next,σ)
  | some (some x)=>(M.bind (M.ne (tg x)) fun _=>M.bind (M.ne body) fun fl=>match fl with
   | .next=>iI nx tg body k (i+1)
   | .cont=>iI nx tg body k (i+1)
   | .brk=>M.pure .next
   | .ret v=>M.pure (.ret v)) σ
set_option tactic.hygienic true in
theorem cS {t e:Expr} {body:List Stmt} {pos:Pos} {fi:M (Nat×Nxt)} {tg:MV→M Unit} {fb:M Fl} {okT:Expr→Bool} (hi:sF C n sc okT e fi) (ht:wV C n sc t tg) (hb:bQ C true n sc body fb)
  (hT:autoParam (okT t=true) aX._auto_1) (hs:autoParam (∀env x,foldedSetIterable e env x=pure x) nB._auto_1):fK C true n sc (.For t e body [] pos) (M.bind (M.ne fi) fun p=>iI p.2 tg fb p.1 0):=by
 intro A env G σ s hA I r σ' er
 have key:∀k i σ₁ nx,∀fl,iI nx tg fb k i σ₁=some (fl,σ')→(∃a,fl= .ok a):=by
  intro k
  induction k with
  | zero=>intro i σ₁ nx fl e;exact aP e
  | succ k ih=>
   intro i σ₁ nx fl e
   unfold iI at e
   split at e
   ·exact (nof e).elim
   ·cases e;exact ⟨_,rfl⟩
   ·focus (refine elrEAoEEA (M.bind_some e) (fun j e1 r_3=>?_) fun _ σ₂ e1 e2=>?_;obtain rfl:=r_3;rotate_left;rotate_left)
    ·exact (M.ne_exc e1).elim
    ·focus (refine elrEAoEEA (M.bind_some e2) (fun j e3 r_2=>?_) fun fl' σ₃ e3 e4=>?_;obtain rfl:=r_2;rotate_left;rotate_left)
     ·exact (M.ne_exc e3).elim
     ·cases fl' <;> first|exact ih _ _ _ _ e4|(cases e4;exact ⟨_,rfl⟩)
 focus (refine elrEAoEEA (M.bind_some er) (fun j e1 r_1=>?_) fun p σ₁ e1 e2=>?_;obtain rfl:=r_1;rotate_left;rotate_left)
 ·exact (M.ne_exc e1).elim
 ·refine aJ (M.ne_some e1) fun p' q e1=>?_
  (obtain rfl:=eU q)
  obtain ⟨fl,rfl⟩:=key _ _ _ _ _ e2
  refine wpAny_For (wpAny_mono (hi A env G σ s hA I _ _ e1) (fun x s₁ h₁=>wpAny_mono h₁ (fun it s₂ h₂=>?_) fun y s' h=>?_) fun y s' h=>?_) (hs env)
  ·(refine kL h₂ fun p'' G₁ Ia wr Pos q e_1 st I₁ hfr sd it hp=>?_;try clear h₂;obtain rfl:=e_1)
   (obtain rfl:=eU q)
   refine codeAny_forLoop_any (fun m s'=>∃i G' σ₂,iI p.2 tg fb m i σ₂=some (.ok fl,σ')∧bB G s G' s'∧Inv C sc A env G' σ₂ s'∧eS sc env G' wr∧Pos i G' s'.heap) ?_ p.1 ⟨0,G₁,σ₁,e2,st,I₁,sd,hp⟩
   rintro m s' ⟨i,G',σ₂,ef,st',I',sd',hp'⟩
   cases m with
   | zero=>exact aP ef
   | succ m=>
    unfold iI at ef
    split at ef
    ·exact aP ef
    ·rename_i hn
     cases ef
     refine it.fin i G' σ'.H s' _ _ I'.cells sd'.g hp' hn fun s₃ md=>?_
     refine wpAny_execs_nil ?_
     exact ⟨_,G'.subW wr,rfl,st'.modEnd I.g hfr md,Inv.modEnd (hA.handled rfl) I' sd' md,.next⟩
    ·rename_i y hn
     refine it.turn i G' σ₂.H s' y t _ _ hT I'.g I'.cells sd'.g hp' hn fun v s₁ go=>go _ _ fun s₃ rv md al hp3=>?_
     have st3:=st'.mod hfr md
     have I3:=Inv.mod (hA.handled rfl) I' sd' md al
     refine elrEAoEEA (M.bind_some ef) (fun j e3 q=>?_) fun _ σ₃ e3 e4=>?_
     ·refine aJ (M.ne_some e3) fun a q' _=>?_;exact lU q'
     ·refine aJ (M.ne_some e3) fun _ q e3=>?_
      refine wpAny_mono (ht A env G' σ₂ s₃ y v hA I3 rv _ _ e3) (fun _ s₄ h=>?_) fun z s₄ h=>?_
      ·(refine bL h fun _ G4 q4 st4 I4 _=>?_;try clear h)
       have hp4:=it.frame (i+1) G' G4 s₃ s₄ I3.g sd'.g hp3 st4
       have sd4:eS sc env G4 wr:=sd'.step I3.g st4
       refine elrEAoEEA (M.bind_some e4) (fun j e5 q=>?_) fun fl' σ4 e5 e6=>?_
       ·refine aJ (M.ne_some e5) fun a q' _=>?_;exact lU q'
       ·refine aJ (M.ne_some e5) fun fl'' q5 e5=>?_
        (obtain rfl:=eU q5)
        refine wpAny_mono (hb A env G4 σ₃ s₄ hA I4 _ _ e5) (fun fw s5 h=>?_) fun z s5 h=>?_
        ·(refine bG (trq h) fun G5 st5 I5 p5=>?_)
         have hp5:=it.frame (i+1) G4 G5 s₄ s5 I4.g sd4.g hp4 st5
         have sd5:eS sc env G5 wr:=sd4.step I4.g st5
         have stA:=st3.trans (st4.trans st5)
         cases p5 with
         | next=>exact ⟨m,Nat.lt_succ_self m,i+1,G5,σ4,e6,stA,I5,sd5,hp5⟩
         | cont=>exact ⟨m,Nat.lt_succ_self m,i+1,G5,σ4,e6,stA,I5,sd5,hp5⟩
         | brk=>cases e6;exact ⟨_,G5,rfl,stA,I5,.next⟩
         | ret rv5=>cases e6;exact ⟨_,G5,rfl,stA,I5,.ret rv5⟩
        ·exact (fI h).elim
      ·exact (fI h).elim
  ·exact (fI h).elim
  ·exact (fI h).elim
end
section
variable {C:Cx} {hd:Bool} {n:Nat} {sc:SC} {A:Around} {env:Env} {G:Gh} {σ:St} {s:Shared} {Q E:Value→Shared→Prop}
theorem dQ {t:Expr} {I:Addr} {v:Value} {o:Obj} {T:String} {Q:Unit→Shared→Prop} {M:Model} (ho:s.heap.get? I=some o) (hc:o.cls= .type T)
  (hT: ["enumerate","zip","dict_itemiterator","dict_reverseitemiterator","odict_iterator","itertools.zip_longest","itertools.pairwise"].contains T=false) (h:Q () s):wpAny M A (letOwnedTupleGo t (.ref I) v) Q E s:=by
 have body:wpAny M A (do
   let (.ref r,.ref a):=((.ref I:Value),v)|return
   let o ←load r
   match o.cls,o.data with
   | .type n,.fields vs=>
    if ["enumerate","zip","dict_itemiterator","dict_reverseitemiterator","odict_iterator","itertools.zip_longest","itertools.pairwise"].contains n && vs[0]?==some (rawInt a) then
     rule "for.unpacks-the-owned-tuple"
     updateField r 0 .none
   | _,_=>pure ()) Q E s:=by
  cases v with
  | ref a=>
   obtain ⟨c,d,data,sl⟩:=o
   refine wB (wpAny_load ho ?_)
   rw [hc]
   cases data with
   | fields vs=>dsimp only;rw [hT];exact wP h
   | _=>exact wP h
  | _=>exact wP h
 cases t with
 | Tuple=>exact body
 | List=>exact body
 | _=>exact wP h
noncomputable def pR:Expr→Bool:=fun _=>true
theorem fV.ofWalks {I:Addr} {k:Nat} {P:Nat→Value→Prop} {St':Nat→Heap→Prop} {T:String} (items:List MV) (W:Walks C.prog C.w A I [I] [I] k P St') (hk:items.length=k)
  (hP:∀i v x,P i v→items[i]?=some x→∀G h,aI G h x v) (hT:∀i h,St' i h→∃o,h.get? I=some o∧o.cls= .type T)
  (hc: ["enumerate","zip","dict_itemiterator","dict_reverseitemiterator","odict_iterator","itertools.zip_longest","itertools.pairwise"].contains T=false):
  fV C A I [I] pR (fun i _=>some items[i]?) (fun i _ h=>i≤k∧St' i h) where
 frame:=fun i G G' s s' g hW hp st=>⟨hp.1,W.frame i _ _ hp.2 fun b hb o e=>st.keep b o e (hW b hb).2.1 (hW b hb).2.2⟩
 turn:=fun i G H s x t Q E _ g hH hW hp hn hQ=>by
  simp only [Option.some.injEq] at hn
  have hi:i < k:=by rw [←hk];exact (gS hn).1
  refine W.item i s Q E hi hp.2 fun v h' tk hPv hst hkp=>?_
  refine aJ (hT _ _ hst) fun o e c=>?_
  refine hQ v _ fun Q' E' hq=>dQ (s:={ s with heap:=h',toks:=tk }) e c hc (hq _ (hP i v x hPv hn _ _) ⟨fun b o hb e=>hkp b o hb e,rfl,rfl⟩ (fun b hb=>?_) ⟨hi,hst⟩)
  rw [mS hb];exact ⟨o,e⟩
 fin:=fun i G H s Q E hH hW hp hn hQ=>by
  simp only [Option.some.injEq] at hn
  have hi:i=k:=by have:=getElem?_eq_none_iff.mp hn;have:=hp.1;lia
  subst hi
  exact W.done s Q E hp.2 fun h' tk hkp=>hQ _ ⟨fun b o hb e=>hkp b o hb e,rfl,rfl⟩
 self:=fun i G s Q E hp h=>W.self i s Q E hp.2 h
 ghost:=fun i G own' h hp=>hp
 other:=fun i G h h' k hp=>⟨hp.1,W.frame i _ _ hp.2 fun b hb o e=>k b o (.inr hb) e⟩
theorem cN {a b:Addr} (h:a∉ [b]):a≠b:=fun e=>h (e ▸ mem_singleton.mpr rfl)
theorem fV.list {I l:Addr} (items:List MV) (hh:A.handled=none) (hne:l≠I):
  fV C A I [I] pR (fun i _=>some items[i]?) (fun i G h=>h.IsListIter I l i∧∃vs,h.IsList l vs.toArray∧¬G.W l∧aK G h items vs) where
 frame:=fun i G G' s s' g hW hp st=>by
  (refine oA hp fun h1 vs h2 h3 h4=>?_;try clear hp)
  have hI:=hW I (mem_singleton.mpr rfl)
  refine ⟨let ⟨o,e,r⟩:=h1;⟨o,st.keep _ o e hI.2.1 hI.2.2,r⟩,vs,hZ h2 fun o e=>st.keep _ o e (fun q=>h3 (g.own _ q)) (fun q=>h3 (g.frs _ q)),fun q=>?_,h4.step g st⟩
  rcases st.W' _ q with q|q
  ·exact h3 q
  ·obtain ⟨o,e⟩:=fY h2;rw [e] at q;exact iS q
 turn:=fun i G H s x t Q E _ g hH hW hp hn hQ=>by
  (refine oA hp fun h1 vs h2 h3 h4=>?_;try clear hp)
  simp only [Option.some.injEq] at hn
  refine aJ (h4.get hn) fun v hv rv=>?_
  refine wpAny_pyNext_list_item h1 h2 (x:=v) (by simpa using hv) fun h' hit' hs'=>?_
  have md:Mod [I] s { s with heap:=h' }:=⟨fun b o hb e=>hs'.extBut b o (cN hb) e,rfl,rfl⟩
  have vk:=md.vk fun b hb=>(hW b hb).1
  refine bG (id hit') fun o e c _=>?_
  refine hQ v _ fun Q' E' hq=>dQ (s:={ s with heap:=h' }) e c (by decide+kernel) (hq _ (rv.keep vk) md (fun b hb=>?_) ⟨hit',vs,h2.extBut hs'.extBut hne,h3,h4.keep vk⟩)
  rw [mS hb];exact ⟨o,e⟩
 fin:=fun i G H s Q E hH hW hp hn hQ=>by
  (refine oA hp fun h1 vs h2 h3 h4=>?_;try clear hp)
  simp only [Option.some.injEq] at hn
  refine wpAny_pyNext_list_end hh h1 h2 (by have:=getElem?_eq_none_iff.mp hn;simp;rw [←h4.length];exact this) fun h' he'=>?_
  exact hQ _ ⟨fun b o hb e=>he' b o (cN hb) e,rfl,rfl⟩
 self:=fun i G s Q E hp h=>wpAny_pyIter_listiter hp.1 h
 ghost:=fun i G own' h hp=>let ⟨h1,vs,h2,h3,h4⟩:=hp;⟨h1,vs,h2,h3,aK.weakW (G:=G) (G':=⟨G.W,own',G.frs,G.phi⟩) (fun _ q=>q) rfl h4⟩
 other:=fun i G h h' k hp=>let ⟨⟨o,e,r⟩,vs,h2,h3,h4⟩:=hp;⟨⟨o,k _ o (.inr (mem_singleton.mpr rfl)) e,r⟩,vs,hZ h2 fun o e=>k _ o (.inl h3) e,h3,h4.keep fun a o e q=>k a o (.inl q) e⟩
noncomputable def nxC (m:Nat):Nxt:=fun i H=>pL H[m]? fun l=>some l[i]?
theorem fV.cell {I:Addr} (m:Nat) (hh:A.handled=none):
  fV C A I [I] pR (nxC m) (fun i G h=>∃l,G.phi[m]?=some l∧h.IsListIter I l i) where
 frame:=fun i G G' s s' g hW hp st=>by
  (refine aJ hp fun l h0 h1=>?_;try clear hp)
  have hI:=hW I (mem_singleton.mpr rfl)
  exact ⟨l,(by refine aJ (st.phi) fun z q _=>?_;rw [q];exact getElem?_prefix h0),let ⟨o,e,r⟩:=h1;⟨o,st.keep _ o e hI.2.1 hI.2.2,r⟩⟩
 turn:=fun i G H s x t Q E _ g hH hW hp hn hQ=>by
  (refine aJ hp fun l h0 h1=>?_;try clear hp)
  ·refine qG hn fun {items} hm hn=>?_
   replace hn:=sJ hn
   refine fF (hH.at' m l _ h0 hm) fun o ho _ hc vs k hdt h4=>?_
   have h2:s.heap.IsList l vs.toArray:=⟨o,ho,hc,k,hdt⟩
   refine aJ (h4.get hn) fun v hv rv=>?_
   refine wpAny_pyNext_list_item h1 h2 (x:=v) (by simpa using hv) fun h' hit' hs'=>?_
   have md:Mod [I] s { s with heap:=h' }:=⟨fun b o hb e=>hs'.extBut b o (cN hb) e,rfl,rfl⟩
   have vk:=md.vk fun b hb=>(hW b hb).1
   refine bG (id hit') fun o e c _=>?_
   refine hQ v _ fun Q' E' hq=>dQ (s:={ s with heap:=h' }) e c (by decide+kernel) (hq _ (rv.keep vk) md (fun b hb=>?_) ⟨l,h0,hit'⟩)
   rw [mS hb];exact ⟨o,e⟩
 fin:=fun i G H s Q E hH hW hp hn hQ=>by
  (refine aJ hp fun l h0 h1=>?_;try clear hp)
  ·refine qG hn fun {items} hm hn=>?_
   replace hn:=sJ hn
   refine fF (hH.at' m l _ h0 hm) fun o ho _ hc vs k hdt h4=>?_
   have h2:s.heap.IsList l vs.toArray:=⟨o,ho,hc,k,hdt⟩
   refine wpAny_pyNext_list_end hh h1 h2 (by have:=getElem?_eq_none_iff.mp hn;simp;rw [←h4.length];exact this) fun h' he'=>?_
   exact hQ _ ⟨fun b o hb e=>he' b o (cN hb) e,rfl,rfl⟩
 self:=fun i G s Q E hp h=>let ⟨l,_,h1⟩:=hp;wpAny_pyIter_listiter h1 h
 ghost:=fun i G own' h hp=>hp
 other:=fun i G h h' k hp=>let ⟨l,h0,⟨o,e,r⟩⟩:=hp;⟨l,h0,⟨o,k _ o (.inr (mem_singleton.mpr rfl)) e,r⟩⟩
theorem uL {it t:Addr} {i:Nat} (hit:s.heap.IsTupleIter it t i) (h:Q (.ref it) s):wpAny (model C.prog C.w) A (pyIter (.ref it)) Q E s:=by
 refine wpAny_pyIter_slot hit.typeIs F.slot_tuple_iterator_iter (wpAny_call_entry F.slot_tuple_iterator_iter hit.typeIs F.entry_tuple_iterator_iter ?_ (F.args_tuple_iterator_iter_1 _))
 show wpAny _ _ (ret (.ref it)) _ _ s
 exact wP ⟨_,rfl,"tuple_iterator",_,hit.typeIs,F.slot_tuple_iterator_next.lookup,h⟩
theorem fV.tuple {I l:Addr} (items:List MV) (hh:A.handled=none) (hne:l≠I):
  fV C A I [I] pR (fun i _=>some items[i]?) (fun i G h=>h.IsTupleIter I l i∧∃vs,h.IsTuple l vs.toArray∧¬G.W l∧aK G h items vs) where
 frame:=fun i G G' s s' g hW hp st=>by
  (refine oA hp fun h1 vs h2 h3 h4=>?_;try clear hp)
  have hI:=hW I (mem_singleton.mpr rfl)
  refine ⟨let ⟨o,e,r⟩:=h1;⟨o,st.keep _ o e hI.2.1 hI.2.2,r⟩,vs,fX h2 fun o e=>st.keep _ o e (fun q=>h3 (g.own _ q)) (fun q=>h3 (g.frs _ q)),fun q=>?_,h4.step g st⟩
  rcases st.W' _ q with q|q
  ·exact h3 q
  ·obtain ⟨o,e⟩:=gM h2;rw [e] at q;exact iS q
 turn:=fun i G H s x t Q E _ g hH hW hp hn hQ=>by
  (refine oA hp fun h1 vs h2 h3 h4=>?_;try clear hp)
  simp only [Option.some.injEq] at hn
  refine aJ (h4.get hn) fun v hv rv=>?_
  refine wpAny_pyNext_tuple_item h1 h2 (x:=v) (by simpa using hv) fun h' hit' hs'=>?_
  have md:Mod [I] s { s with heap:=h' }:=⟨fun b o hb e=>hs'.extBut b o (cN hb) e,rfl,rfl⟩
  have vk:=md.vk fun b hb=>(hW b hb).1
  refine bG (id hit') fun o e c _=>?_
  refine hQ v _ fun Q' E' hq=>dQ (s:={ s with heap:=h' }) e c (by decide+kernel) (hq _ (rv.keep vk) md (fun b hb=>?_) ⟨hit',vs,h2.extBut hs'.extBut hne,h3,h4.keep vk⟩)
  rw [mS hb];exact ⟨o,e⟩
 fin:=fun i G H s Q E hH hW hp hn hQ=>by
  (refine oA hp fun h1 vs h2 h3 h4=>?_;try clear hp)
  simp only [Option.some.injEq] at hn
  refine wpAny_pyNext_tuple_end hh h1 h2 (by have:=getElem?_eq_none_iff.mp hn;simp;rw [←h4.length];exact this) fun h' he'=>?_
  exact hQ _ ⟨fun b o hb e=>he' b o (cN hb) e,rfl,rfl⟩
 self:=fun i G s Q E hp h=>uL hp.1 h
 ghost:=fun i G own' h hp=>let ⟨h1,vs,h2,h3,h4⟩:=hp;⟨h1,vs,h2,h3,aK.weakW (G:=G) (G':=⟨G.W,own',G.frs,G.phi⟩) (fun _ q=>q) rfl h4⟩
 other:=fun i G h h' k hp=>let ⟨⟨o,e,r⟩,vs,h2,h3,h4⟩:=hp;⟨⟨o,k _ o (.inr (mem_singleton.mpr rfl)) e,r⟩,vs,fX h2 fun o e=>k _ o (.inl h3) e,h3,h4.keep fun a o e q=>k a o (.inl q) e⟩
noncomputable def gZ (x:MV):M (Nat×Nxt):=fun σ=>match x with
 | .lst l=>some (.ok (l.length+1,fun i _=>some l[i]?),σ)
 | .tup l=>some (.ok (l.length+1,fun i _=>some l[i]?),σ)
 | .bytes l=>some (.ok (l.length+1,fun i _=>some (l.map MV.int)[i]?),σ)
 | .cell m=>pL σ.H[m]? fun l=>some (.ok (l.length+1,nxC m),σ)
 | _=>none
theorem aDo {x:MV} {v:Value} {p:Nat×Nxt} {G₀:Gh} {s₀:Shared} (hh:A.handled=none) (I:Inv C sc A env G σ s) (st₀:bB G₀ s₀ G s) (e:gZ x σ=some (.ok p,σ)) (hx:aI G s.heap x v)
  (h:∀s₂ G' Ia wr Pos,bB G₀ s₀ G' s₂→Inv C sc A env G' σ s₂→(∀b∈wr,s₀.heap.get? b=none)→eS sc env G' wr→fV C A Ia wr pR p.2 Pos→Pos 0 G' s₂.heap→Q (.ref Ia) s₂):
  wpAny (model C.prog C.w) A (pyIter v) Q E s:=by
 have fr:∀b∈ [s.heap.objs.size],s₀.heap.get? b=none:=fun b hb=>by
  rw [mS hb]
  cases q:s₀.heap.get? s.heap.objs.size with
  | none=>rfl
  | some o=>obtain ⟨o',q'⟩:=st₀.alive _ o q;rw [bD] at q';exact aP q'
 have fr':∀b∈ [s.heap.objs.size],s.heap.get? b=none:=fun b hb=>by rw [mS hb];exact bD _
 have al:∀o:Obj,o.isFreed=false→∀b∈ [s.heap.objs.size],∃o',(s.heap.push o).get? b=some o':=fun o ho b hb=>by rw [mS hb];exact ⟨_,Heap.get?_push_size _ ho⟩
 cases hx with
 | @lst items vs l h1 h2 h3=>
  rw [←R.ok.inj (congrArg Prod.fst (sJ e))] at h
  have hne:l≠s.heap.objs.size:=fun q=>by obtain ⟨o,e⟩:=fY h1;rw [q,bD] at e;exact aP e
  refine wpAny_pyIter_list h1 ?_
  refine iC (I.addW (Ext.push s { cls:= .type "list_iterator",data:= .fields #[.ref l,.int 0 0] }) fr' (al _ rfl)) fun st I' sd=>?_
  refine h _ _ _ _ _ (st₀.trans st) I' fr sd (fV.list items hh hne) ⟨⟨_,Heap.get?_push_size _ rfl,rfl,rfl⟩,vs,h1.push _,?_,h3.step I.g st⟩
  rintro (q|q)
  ·exact h2 q
  ·exact hne (mS q)
 | @tup items vs l h1 h2 h3=>
  rw [←R.ok.inj (congrArg Prod.fst (sJ e))] at h
  have hne:l≠s.heap.objs.size:=fun q=>by obtain ⟨o,e⟩:=gM h1;rw [q,bD] at e;exact aP e
  refine wpAny_pyIter_tuple h1 ?_
  refine iC (I.addW (Ext.push s { cls:= .type "tuple_iterator",data:= .fields #[.ref l,.int 0 0] }) fr' (al _ rfl)) fun st I' sd=>?_
  refine h _ _ _ _ _ (st₀.trans st) I' fr sd (fV.tuple items hh hne) ⟨⟨_,Heap.get?_push_size _ rfl,rfl,rfl⟩,vs,h1.push _,?_,h3.step I.g st⟩
  rintro (q|q)
  ·exact h2 q
  ·exact hne (mS q)
 | bytes b t=>
  rw [←R.ok.inj (congrArg Prod.fst (sJ e))] at h
  refine KBw.pyIter_bytes ?_
  refine iC (I.addW (Ext.push s { cls:= .type "bytes_iterator",data:= .fields #[.bytes b t,.int 0 0] }) fr' (al _ rfl)) fun st I' sd=>?_
  refine h _ _ _ _ _ (st₀.trans st) I' fr sd (fV.ofWalks ((bInts b).map MV.int) (KBw.walks hh s.heap.objs.size b t) (by simp [KBw.bInts]) (T:= "bytes_iterator") ?_ ?_ (by decide+kernel)) ⟨Nat.zero_le _,_,Heap.get?_push_size _ rfl,rfl,rfl⟩
  ·rintro i v x ⟨c,u,hc,rfl⟩ hx G h
   have:(bInts b)[i]?=some (c.toNat:Int):=KBw.ints_get hc
   rw [getElem?_map,this] at hx
   cases hx
   exact .int _ _
  ·rintro i h ⟨o,e,c,_⟩;exact ⟨o,e,c⟩
 | @cell m a hp=>
  ·refine qG e fun {l} hm e=>?_
   rw [←R.ok.inj (congrArg Prod.fst (sJ e))] at h
   refine fF (I.cells.at' m a _ hp hm) fun o ho _ hc vs k hdt h4=>?_
   refine wpAny_pyIter_list ⟨o,ho,hc,k,hdt⟩ ?_
   refine iC (I.addW (Ext.push s { cls:= .type "list_iterator",data:= .fields #[.ref a,.int 0 0] }) fr' (al _ rfl)) fun st I' sd=>?_
   exact h _ _ _ _ _ (st₀.trans st) I' fr sd (fV.cell m hh) ⟨a,hp,⟨_,Heap.get?_push_size _ rfl,rfl,rfl⟩⟩
 | _=>exact aP e
theorem aKr {x:MV} {r:R (Nat×Nxt)} {σ':St} (e:gZ x σ=some (r,σ')):σ'=σ∧∃p,r= .ok p:=by
 have fin:∀{z:Nat×Nxt},some (R.ok z,σ)=some (r,σ')→σ'=σ∧∃p,r= .ok p:=fun e=>⟨(congrArg Prod.snd (sJ e)).symm,_,(congrArg Prod.fst (sJ e)).symm⟩
 cases x with
 | lst l=>exact fin e
 | tup l=>exact fin e
 | bytes l=>exact fin e
 | cell m=>exact qG e fun {_} _ e=>fin e
 | _=>exact aP e
theorem bX {e:Expr} {f:M MV} (h:aV C true n sc e f):sF C n sc pR e (M.bind f gZ):=by
 intro A env G σ s hA I r σ' er
 focus (refine elrEAoEEA (M.bind_some er) (fun k e1 r_1=>?_) fun x σ₁ e1 e2=>?_;obtain rfl:=r_1;rotate_left;rotate_left)
 ·refine wpAny_mono (h A env G σ s hA I _ _ e1) (fun v s' q=>?_) fun y s' q=>?_
  ·obtain ⟨_,_,q,_⟩:=q;exact lU q
  ·obtain ⟨j,G',q,z⟩:=q;(obtain rfl:=oD q);exact ⟨k,G',rfl,z⟩
 ·refine wpAny_mono (h A env G σ s hA I _ _ e1) (fun v s' q=>?_) fun y s' q=>?_
  ·obtain ⟨b,G',q,st,I',p⟩:=q
   (obtain rfl:=eU q)
   obtain ⟨rfl,p',rfl⟩:=aKr e2
   exact aDo (hA.handled rfl) I' st e2 p fun s₂ G'' Ia wr Pos a1 a2 a3 a4 a5 a6=>⟨p',G'',Ia,wr,Pos,rfl,rfl,a1,a2,a3,a4,a5,a6⟩
  ·obtain ⟨_,_,q,_⟩:=q;exact nC q
end
section
variable {C:Cx} {hd:Bool} {n:Nat} {sc:SC} {A:Around} {env:Env} {G:Gh} {σ:St} {s:Shared} {Q E:Value→Shared→Prop}
noncomputable def BOp (C:Cx) (hd:Bool) (f:Value) (g:List MV→M MV):Prop:=
 ∀(sc:SC) (A:Around) (env:Env) (G:Gh) (σ:St) (s:Shared) (l:List MV) (vs:List Value),(hd=true→A.handled=none)→A.units≤9000→Inv C sc A env G σ s→aK G s.heap l vs→Tr C sc A env G σ s (call f vs) (g l) (fun G h x v=>aI G h x v)
theorem hC {es:List Expr} {fs:List (M MV)} {pos:Pos} (h:dD C hd n sc es fs):(backTo pos (starEach es env)).any (·.1)=false:=by
 induction h with
 | nil=>rfl
 | cons he _ _ ih=>rw [he];simpa [backTo] using ih
theorem gD {f:Value} {es:List Expr} {fs:List (M MV)} {pos cpos:Pos} {first:List Value} {fm:List MV} {g:List MV→M MV} (hf:keeperOf f=pure .machine) (he:dD C hd n sc es fs) (hA:AOk hd n A) (I:Inv C sc A env G σ s)
  (hfirst:aK G s.heap fm first) (hop:BOp C hd f g):
  Tr C sc A env G σ s (callWith cpos f first (backTo pos (starEach es env)) []) (M.bind (aO fs) fun l=>g (fm++l)) (fun G h x v=>aI G h x v):=by
 have hk:mA C hd n sc [] [] []:= .nil
 intro r σ' e
 unfold callWith
 focus (refine elrEAoEEA (M.bind_some e) (fun k e1 r_3=>?_) fun l σ₁ e1 e2=>?_;obtain rfl:=r_3;rotate_left;rotate_left)
 ·have e1':(M.bind (aO fs) fun l=>M.bind (aO []) fun m=>M.pure (l,m)) σ=some (.exc k,σ'):=by unfold M.bind;rw [e1]
  refine wB (wpAny_holding (wpAny_mono (gY (pos:=pos) he hk hA I _ _ e1') (fun a s' h=>?_) fun a s' h=>?_))
  ·exact (mK h).elim
  ·obtain ⟨b,G',q,h⟩:=h;(obtain rfl:=oD q);exact ⟨k,G',rfl,h⟩
 ·have e1':(M.bind (aO fs) fun l=>M.bind (aO []) fun m=>M.pure (l,m)) σ=some (.ok (l,[]),σ₁):=by unfold M.bind;rw [e1];rfl
  refine wB (wpAny_holding (wpAny_mono (gY (pos:=pos) he hk hA I _ _ e1') (fun x s' h=>?_) fun a s' h=>?_))
  ·(refine iE h fun b G' q' st I' p1 kv p2 p3=>?_;try clear h)
   (obtain rfl:=eU q')
   have kw0:x.kw= []:=by rw [p2];rfl
   refine wB (wpAny_standAt ?_)
   rw [hC he]
   refine wB (wpAny_of_eq hf ?_)
   have main:=hop sc A env G' σ₁ s' (fm++l) (first++x.pos) hA.handled hA.u I' ((hfirst.step I.g st).append p1) r σ' e2
   rw [kw0]
   have main:wpAny (model C.prog C.w) A (call f (first++x.pos) []) (fun a s'_1=>∃b G'_1,r=R.ok b∧bB G s G'_1 s'_1∧Inv C sc A env G'_1 σ' s'_1∧aI G'_1 s'_1.heap b a)
     (fun x s'_1=>∃k G'_1,r=R.exc k∧bB G s G'_1 s'_1∧Inv C sc A env G'_1 σ' s'_1∧kQ G'_1 s'_1.heap env sc.hm x k) s':=by
    refine wpAny_mono main (fun v s'' h=>?_) fun y s'' h=>?_
    ·(refine bL h fun b G'' q st' I'' p=>?_;try clear h);exact ⟨b,G'',q,st.trans st',I'',p⟩
    ·(refine bL h fun b G'' q st' I'' p=>?_;try clear h);exact ⟨b,G'',q,st.trans st',I'',p⟩
   show wpAny _ A (call f (first++x.pos) [] >>=fun r=>holding [r] point >>=fun _=>pure r) _ _ s'
   exact wB (wpAny_mono main (fun v s'' h=>wB (wpAny_holding (wpAny_point (wP h)))) fun _ _ h=>h)
  ·exact (fI h).elim
theorem bP (i:Nat) {z:Str} {f:Value} {p pos:Pos} {es:List Expr} {fs:List (M MV)} {g:List MV→M MV} (B:cH C) (hz:sc.gs[i]?=some z) (hm:C.mg z=none) (hv:C.mb z=some f) (hdb:(z==("__debug__":Str))=false)
  (hop:BOp C hd f g) (he:dD C hd n sc es fs) (hf:autoParam (keeperOf f=pure .machine) aX._auto_1):aV C hd n sc (.Call (.Name z p) es [] pos) (M.bind (aO fs) g):=by
 intro A env G σ s hA I r σ' e
 refine wpAny_Call_Name_kw (gC B I (I.ok.globs i z hz) hm hv hdb ?_)
 exact gD (first:= []) (fm:= []) hf he hA I .nil hop r σ' e
noncomputable def fC:List MV→Option (List Int)
 | []=>some []
 | .int i::l=>(fC l).map (i::·)
 | _::_=>none
theorem fE:∀l:List Int,fC (l.map MV.int)=some l
 | []=>rfl
 | i::l=>by show (fC (l.map MV.int)).map (i::·)=_;rw [fE l];rfl
theorem iJ {G:Gh} {h:Heap}:∀{l:List MV} {vs:List Value} {ns:List Int},aK G h l vs→fC l=some ns→IntsAre vs ns
 | _,_,_,.nil,e=>by cases e;exact .nil
 | _,_,ns,.cons hx t,e=>by
  cases hx <;> simp only [fC] at e <;> first|cases e|skip
  (refine aJ (map_eq_some_iff.mp e) fun m e1 e_7=>?_;obtain rfl:=e_7)
  exact .cons _ _ (iJ t e1)
noncomputable def cK (x:MV):M (List MV):=fun σ=>match x with
 | .lst l=>some (.ok l,σ)
 | .cell m=>pL σ.H[m]? fun l=>some (.ok l,σ)
 | _=>none
theorem mM {x:MV} {v:Value} {r:R (List MV)} {σ':St} (I:Inv C sc A env G σ s) (hx:aI G s.heap x v) (e:cK x σ=some (r,σ')):σ'=σ∧∃l a vs,r= .ok l∧v= .ref a∧s.heap.IsList a (List.toArray vs)∧aK G s.heap l vs:=by
 cases hx with
 | lst h1 h2 h3=>have q:=sJ e;exact ⟨(congrArg Prod.snd q).symm,_,_,_,(congrArg Prod.fst q).symm,rfl,h1,h3⟩
 | cell hp=>
  refine qG e fun {l} hl e=>?_
  have q:=sJ e
  exact fF (I.cells.at' _ _ _ hp hl) fun o ho _ hc vs k hdt h4=>⟨(congrArg Prod.snd q).symm,_,_,vs,(congrArg Prod.fst q).symm,rfl,⟨o,ho,hc,k,hdt⟩,h4⟩
 | _=>exact aP e
theorem Tr.items {α β:Type} {x:MV} {v:Value} {t:Sem α} {f:List MV→M β} {P:Gh→Heap→β→α→Prop} (I:Inv C sc A env G σ s) (hx:aI G s.heap x v)
  (h:∀l a vs,v= .ref a→s.heap.IsList a (List.toArray vs)→aK G s.heap l vs→Tr C sc A env G σ s t (f l) P):Tr C sc A env G σ s t (M.bind (cK x) f) P:=by
 intro r σ' e
 focus (refine elrEAoEEA (M.bind_some e) (fun k e1 r_2=>?_) fun l σ₁ e1 e2=>?_;obtain rfl:=r_2;rotate_left;rotate_left)
 ·refine aBa (mM I hx e1) fun _ l a vs q _=>?_;exact lU q
 ·(refine sT (mM I hx e1) fun e_5 l' a vs q e_6 h1 h2=>?_;obtain rfl:=e_5;obtain rfl:=e_6)
  (obtain rfl:=eU q)
  exact h l a vs rfl h1 h2 r σ' e2
noncomputable def M.l1 {β:Type} (l:List MV) (F:MV→M β):M β:=fun σ=>Mine.l1 l fun x=>F x σ
noncomputable def M.l2 {β:Type} (l:List MV) (F:MV→MV→M β):M β:=fun σ=>Mine.l2 l fun x y=>F x y σ
noncomputable def M.oI {β:Type} (x:MV) (F:Int→M β):M β:=fun σ=>Mine.oI x fun i=>F i σ
theorem Tr.l1 {β:Type} {l:List MV} {vs:List Value} {f:Value} {F:MV→M β} {P:Gh→Heap→β→Value→Prop} (r:aK G s.heap l vs)
  (k:∀x v,aI G s.heap x v→Tr C sc A env G σ s (call f [v]) (F x) P):Tr C sc A env G σ s (call f vs) (M.l1 l F) P:=fun b σ' e=>by
 revert r
 exact aQj e fun x e r=>aK.cons_e r fun v vs hx r=>aK.nil_e r (k x v hx b σ' e)
theorem Tr.l2 {β:Type} {l:List MV} {vs:List Value} {f:Value} {F:MV→MV→M β} {P:Gh→Heap→β→Value→Prop} (r:aK G s.heap l vs)
  (k:∀x y v u,aI G s.heap x v→aI G s.heap y u→Tr C sc A env G σ s (call f [v,u]) (F x y) P):Tr C sc A env G σ s (call f vs) (M.l2 l F) P:=fun b σ' e=>by
 revert r
 exact aKh e fun x y e r=>aK.cons_e r fun v vs hx r=>aK.cons_e r fun u vs hy r=>aK.nil_e r (k x y v u hx hy b σ' e)
theorem Tr.oI {α β:Type} {x:MV} {v:Value} (t:Value→Sem α) {F:Int→M β} {P:Gh→Heap→β→α→Prop} (r:aI G s.heap x v)
  (k:∀i j,Tr C sc A env G σ s (t (.int i j)) (F i) P):Tr C sc A env G σ s (t v) (M.oI x F) P:=fun b σ' e=>kO e r fun i j e=>k i j b σ' e
theorem Tr.li {β:Type} {l:List MV} {vs:List Value} {f:Value} {F:List MV→M β} {P:Gh→Heap→β→Value→Prop} (I:Inv C sc A env G σ s) (r:aK G s.heap l vs)
  (k:∀l a vs,s.heap.IsList a (List.toArray vs)→aK G s.heap l vs→Tr C sc A env G σ s (call f [.ref a]) (F l) P):Tr C sc A env G σ s (call f vs) (M.l1 l fun x=>M.bind (cK x) F) P:=
 Tr.l1 r fun x v hx=>Tr.items I hx fun l a vs e h1 h3=>by rw [e];exact k l a vs h1 h3
noncomputable def nH (l:List MV):M MV:=M.l1 l fun x=>match x with
  | .tup l=>M.lift (if cC l.length then some (.int l.length) else none)
  | .bytes l=>M.lift (if cC l.length then some (.int l.length) else none)
  | x=>M.bind (cK x) fun l=>M.lift (if cC l.length then some (.int l.length) else none)
theorem eZ:BOp C hd (.builtin "len") nH:=by
 intro sc A env G σ s l vs hh hu I r
 refine Tr.l1 r fun x v hx=>?_
 have itm:∀{x v},aI G s.heap x v→Tr C sc A env G σ s (call (.builtin "len") [v] []) (M.bind (cK x) fun l=>M.lift (if cC l.length then some (.int l.length) else none)) (fun G h x v=>aI G h x v):=fun {x v} hx=>by
  refine Tr.items I hx fun l a vs ha h1 h3=>?_
  rw [ha]
  refine Tr.of_ext I fun b e Q E h=>dG e fun hz e=>?_
  rw [←sJ e] at h
  refine len_list h1 (by rw [size_toArray,←h3.length];have:=bN.mp hz;lia) ?_
  rw [size_toArray,←h3.length]
  exact h _ _ (Ext.toks s _) (.int _ _)
 cases hx with
 | tup h1 h2 h3=>
  refine Tr.of_ext I fun b e Q E h=>dG e fun hz e=>?_
  rw [←sJ e] at h
  refine len_tuple h1 (by rw [size_toArray,←h3.length];have:=bN.mp hz;lia) ?_
  rw [size_toArray,←h3.length]
  exact h _ _ (Ext.toks s _) (.int _ _)
 | bytes b t=>
  refine Tr.of_ext I fun y e Q E h=>dG e fun hz e=>?_
  rw [←sJ e,KBw.ints_length] at h
  have:=bN.mp hz
  rw [KBw.ints_length] at this
  exact len_bytes (by lia) (h (.int b.size (s.toks+1)) { s with toks:=s.toks+1+1 } (Ext.toks s _) (.int _ _))
 | none=>exact itm .none
 | bool b=>exact itm (.bool b)
 | int i t=>exact itm (.int i t)
 | ty n=>exact itm (.ty n)
 | lst h1 h2 h3=>exact itm (.lst h1 h2 h3)
 | cell h=>exact itm (.cell h)
 | nxt h1 h2 h3=>exact itm (.nxt h1 h2 h3)
noncomputable def aFw (l:List Int):Bool:=l.all fun i=>decide (0≤i) && decide (i < 256)
noncomputable def mN (l:List MV):M MV:=M.l1 l fun x=>M.bind (cK x) fun l=>M.lift ((fC l).bind fun ns=>if aFw ns && cC l.length then some (.bytes ns) else none)
theorem uM {ns:List Int} (h:∀n∈ns,0≤n∧n < 256):bInts (byteArr ns)=ns:=by
 show (byteArr ns).toList.map _=ns
 unfold byteArr
 rw [List.toList_toArray,map_map]
 conv=>rhs;rw [←List.map_id ns]
 refine map_congr_left fun i hi=>?_
 exact byte_back (h i hi).1 (h i hi).2
theorem iA:BOp C true (.type "bytes") mN:=by
 intro sc A env G σ s l vs hh hu I r
 have hh:=hh rfl
 refine Tr.li I r fun l a vs h1 h3=>?_
 refine Tr.of_ext I fun b e Q E h=>?_
 refine aJ (bind_eq_some_iff.mp e) fun ns e1 e2=>?_
 ·refine dG e2 fun hz e2=>?_
  obtain rfl:=sJ e2
  obtain ⟨hb,hz⟩:=and_eq_true_iff.mp hz
  have hz:=bN.mp hz
  have hb:∀i∈ns,0≤i∧i < 256:=fun i hi=>by
   have:=all_eq_true.mp hb i hi
   rw [Bool.and_eq_true,decide_eq_true_iff,decide_eq_true_iff] at this
   exact this
  refine call_bytes_ints h1 (iJ h3 e1) hb (by rw [←h3.length];show _≤16777216;lia) hh fun h' t k hk=>h _ _ (Ext.mk' hk) ?_
  have:=aI.bytes (G:=G) (h:=h') (byteArr ns) t
  rw [uM hb] at this
  exact this
noncomputable def aDp (l:List MV):M MV:=M.l1 l fun x=>M.bind (cK x) fun l=>M.lift ((fC l).map fun ns=> .int ns.sum)
theorem aBf:BOp C true (.builtin "sum") aDp:=by
 intro sc A env G σ s l vs hh hu I r
 have hh:=hh rfl
 refine Tr.li I r fun l a vs h1 h3=>?_
 refine Tr.of_ext I fun b e Q E h=>?_
 (refine aJ (map_eq_some_iff.mp e) fun ns e1 e_4=>?_;obtain rfl:=e_4)
 have hi:=iJ h3 e1
 obtain ⟨xs,ex⟩:=hi.allInts.items
 have hns:ns=xs.toList.map (·.1):=by rw [←hi.numsOf,←nums_intItems,←ex]
 rw [ex] at h1
 refine sum_intListG hh h1 fun h' tk t' hk=>?_
 have:=h (.int ns.sum t') _ (Ext.mk' (t:=tk) hk) (.int _ _)
 rw [preSum_eq,List.take_of_length_le (by simp),←hns]
 exact this
noncomputable def aQo:List Int→Option Int
 | []=>none
 | x::l=>some (l.foldl max x)
theorem tA:∀(l:List Int) (x:Int),(x≤l.foldl max x∧∀a∈l,a≤l.foldl max x)∧(l.foldl max x=x∨l.foldl max x∈l)
 | [],x=>⟨⟨Int.le_refl _,fun _ h=>(by cases h)⟩,.inl rfl⟩
 | y::l,x=>by
  obtain ⟨⟨h1,h2⟩,h3⟩:=tA l (max x y)
  show ((x≤l.foldl max (max x y))∧∀a∈y::l,a≤l.foldl max (max x y))∧(l.foldl max (max x y)=x∨l.foldl max (max x y)∈y::l)
  refine ⟨⟨by lia,fun a ha=>?_⟩,?_⟩
  ·rcases mem_cons.mp ha with rfl|ha
   ·lia
   ·exact h2 a ha
  ·rcases h3 with h3|h3
   ·rw [h3]
    rcases Int.le_total x y with q|q
    ·rw [Int.max_eq_right q];exact .inr (mem_cons_self ..)
    ·rw [Int.max_eq_left q];exact .inl rfl
   ·exact .inr (mem_cons_of_mem _ h3)
noncomputable def aKs (l:List MV):M MV:=M.l1 l fun x=>M.bind (cK x) fun l=>M.lift ((fC l).bind fun ns=>(aQo ns).map .int)
theorem aKt:BOp C true (.builtin "max") aKs:=by
 intro sc A env G σ s l vs hh hu I r
 have hh:=hh rfl
 refine Tr.li I r fun l a vs h1 h3=>?_
 refine Tr.of_ext I fun b e Q E h=>?_
 refine aJ (bind_eq_some_iff.mp e) fun ns e1 e2=>?_
 (refine aJ (map_eq_some_iff.mp e2) fun M' e3 e_3=>?_;obtain rfl:=e_3)
 have hi:=iJ h3 e1
 obtain ⟨xs,ex⟩:=hi.allInts.items
 have hns:ns=xs.toList.map (·.1):=by rw [←hi.numsOf,←nums_intItems,←ex]
 have hne:0 < xs.size:=by
  cases ns with
  | nil=>exact aP e3
  | cons y z=>
   have:(xs.toList.map (·.1)).length=z.length+1:=by rw [←hns];rfl
   rw [length_map,Array.length_toList] at this;lia
 rw [ex] at h1
 refine max_intList hh h1 hne fun v h' tk hv hk=>?_
 obtain ⟨t,rfl⟩:=intItems_at hv
 obtain ⟨q1,q2⟩:=argBest_gt (numAt xs) (xs.size - 1)
 have mem:numAt xs (argBest (fun i j=>decide (numAt xs i > numAt xs j)) (xs.size - 1))∈ns:=by
  rw [hns,numAt_eq];exact getD_mem (by rw [length_map,Array.length_toList];lia)
 have top:∀a∈ns,a≤numAt xs (argBest (fun i j=>decide (numAt xs i > numAt xs j)) (xs.size - 1)):=by
  intro a ha
  rw [hns] at ha
  (refine aJ (mem_getD ha) fun j hj e_2=>?_;obtain rfl:=e_2)
  rw [length_map,Array.length_toList] at hj
  rw [←numAt_eq];exact q2 j (by lia)
 have:M'=numAt xs (argBest (fun i j=>decide (numAt xs i > numAt xs j)) (xs.size - 1)):=by
  cases ns with
  | nil=>exact aP e3
  | cons y z=>
   cases e3
   obtain ⟨⟨w1,w2⟩,w3⟩:=tA z y
   have a1:=top (z.foldl max y) (w3.elim (fun w3=>by rw [w3];exact mem_cons_self ..) fun w3=>mem_cons_of_mem _ w3)
   rcases mem_cons.mp mem with m|m
   ·lia
   ·have:=w2 _ m;lia
 rw [←this]
 exact h _ _ (Ext.mk' (t:=tk) hk) (.int _ _)
noncomputable def zA (l:List MV):M MV:=M.l1 l fun x=>M.oI x fun i=>M.pure (.int i)
theorem aKu:BOp C hd (.type "int") zA:=by
 intro sc A env G σ s l vs hh hu I r
 refine Tr.l1 r fun x v hx r σ' e=>kO e hx fun i t e=>?_
 have q:=aZ e
 rw [←q.1,←q.2]
 exact call_int_int ⟨_,G,rfl,bB.refl _ _,I,.int _ _⟩
noncomputable def qO (l:List MV):M MV:=M.l1 l fun x=>M.bind (cK x) fun l=>M.bind (M.lift (if cC l.length then some () else none)) fun _=>oF (.list l)
theorem aDq:BOp C hd (.type "list") qO:=by
 intro sc A env G σ s l vs hh hu I r
 refine Tr.li I r fun l a vs h1 h3=>?_
 (refine fJ h1 fun o ho hc k hdt=>?_;try clear h1)
 intro r σ' e
 focus (refine elrEAoEEA (M.bind_some e) (fun j e1 r_1=>?_) fun _ σ₁ e1 e2=>?_;obtain rfl:=r_1;rotate_left;rotate_left)
 ·exact (M.lift_exc e1).elim
 ·(refine bG (M.lift_some e1) fun _ ec _ e_1=>?_;obtain rfl:=e_1)
  ·refine dG ec fun hz _=>?_
   have:=bN.mp hz
   (have q_:=aZ e2;clear e2;obtain ⟨rfl,rfl⟩:=q_)
   refine call_list_seq a (.inl rfl) ho hc hdt (fun h' c' hk hn=>?_) (by rw [size_toArray,←h3.length];show _≤16777216;lia)
   have x:Ext s { s with heap:=h' }:=⟨hk,rfl,rfl⟩
   have st:=bB.addC (G:=G) x (bD _)
   refine ⟨_,_,rfl,st,I.addC x (bD _) hn ⟨⟨rfl,rfl⟩,rfl,vs,c',rfl,h3.step I.g st⟩,.cell ?_⟩
   show (G.phi++ [s.heap.objs.size])[_]?=_
   rw [←I.cells.len];simp
noncomputable def aFx (l:List MV):M MV:=M.l1 l fun x=>M.bind (cK x) fun l=>M.lift (if cC l.length then some (.tup l) else none)
theorem aDr:BOp C hd (.type "tuple") aFx:=by
 intro sc A env G σ s l vs hh hu I r
 refine Tr.li I r fun l a vs h1 h3=>?_
 refine Tr.of_ext I fun b e Q E h=>?_
 ·refine dG e fun hz e=>?_
  obtain rfl:=sJ e
  have:=bN.mp hz
  refine call_tuple_list h1 (fun h' hk=>?_) (by rw [size_toArray,←h3.length];show _≤16777216;lia)
  have x:Ext s { s with heap:=h' }:=⟨hk,rfl,rfl⟩
  have J:=I.ext x
  exact h _ _ (x.trans (Ext.push _ _)) (J.newTup (h3.ext I.g x))
end
section
variable {C:Cx} {hd:Bool} {n:Nat} {sc:SC} {A:Around} {env:Env} {G:Gh} {σ:St} {s:Shared} {Q E:Value→Shared→Prop}
theorem OIs.ncell {h:Heap} {o:Obj} {x:MO} (y:OIs C G h o x):∀v,o.data≠ .cell v:=by
 intro v e
 cases x with
 | list l=>(refine aAz y fun _ _ vs k d _=>?_;try clear y);rw [d] at e;cases e
 | inst c d=>(refine iC y fun _ f _=>?_;try clear y);rw [f] at e;cases e
 | attrs l=>(refine cJ y fun es ep f _=>?_;try clear y);rw [f] at e;cases e
 | slots c d l=>(refine gW y fun _ _ g _=>?_;try clear y);rw [g] at e;cases e
 | dict ep l=>(refine aJ y fun kvs t_4 _=>?_;try clear y;(refine bG t_4 fun es _ f _=>?_;try clear t_4));rw [f] at e;cases e
 | set l=>(refine aBa y fun _ es ep t f _=>?_;try clear y);rw [f] at e;cases e
 | iter l i=>(refine kG y fun _ a f _=>?_;try clear y);rw [f] at e;cases e
 | dead=>exact y v e
theorem get?_some_of_lt {α:Type} {l:List α} {i:Nat} (h:i < l.length):∃x,l[i]?=some x:=⟨l[i],getElem?_eq_getElem h⟩
theorem Inv.updC {h':Heap} {tk m:Nat} {a:Addr} {o':Obj} {y:MO} (I:Inv C sc A env G σ s) (hp:G.phi[m]?=some a) (hs:Heap.SameBut a s.heap h') (ho:h'.get? a=some o')
  (hy:(∀z v,aI G s.heap z v→aI G h' z v)→OIs C G h' o' y):
  bB G s G { s with heap:=h',toks:=tk }∧Inv C sc A env G { σ with H:=σ.H.set m y } { s with heap:=h',toks:=tk }:=by
 have hown:=I.cells.own m a hp
 have st:bB G s G { s with heap:=h',toks:=tk }:=bB.upd hown hs ⟨o',ho⟩
 have hm:m < σ.H.length:=by rw [←I.cells.len];exact (gS hp).1
 refine elE (get?_some_of_lt hm) fun x0 hx0=>?_
 refine aJ (I.cells.at' m a x0 hp hx0) fun o0 ho0 r0=>?_
 have ncell:∀c ov,s.heap.IsCell c ov→c≠a:=fun c ov q e=>by
  (refine aJ q fun o e1 e2=>?_;try clear q)
  rw [e,ho0] at e1;(obtain rfl:=sJ e1)
  exact r0.ncell _ e2
 refine ⟨st,⟨fun b o e=>(hs.2 b (fun q=>by rw [q,I.baseW _ (I.g.own _ hown)] at e;exact aP e)).trans (I.x0 b o e),I.baseW,I.gens,I.os,I.ok,st.gok I.g rfl,⟨?_,?_,I.vars.ownL,I.vars.ownC,I.vars.apart⟩,?_,I.apart,I.lnk,fun b q=>?_,fun q=>(I.held q).step st⟩⟩
 ·refine aJ (I.vars.loc) fun mm hn hm'=>?_
  refine ⟨mm,hn.sameBut hs (Ne.symm (I.apart m a hp).1),fun z w hz hw=>?_⟩
  refine aJ (hm' z w hz hw) fun u hu ru=>?_
  exact ⟨u,hu,ru.step I.g st⟩
 ·intro z kz hz hkz
  refine cD (I.vars.cel z kz hz hkz) fun c ov hc hi hr=>?_
  refine ⟨c,ov,hc,hi.sameBut hs (ncell c ov hi),fun w hw=>?_⟩
  refine aJ (hr w hw) fun u hu ru=>?_
  exact ⟨u,hu,ru.step I.g st⟩
 ·refine ⟨by show G.phi.length=(σ.H.set m y).length;rw [length_set];exact I.cells.len,I.cells.own,I.cells.inj,I.cells.nfr,fun k b z e e'=>?_⟩
  by_cases q:k=m
  ·subst q
   rw [hp] at e;(obtain rfl:=sJ e)
   have e':(σ.H.set k y)[k]?=some z:=e'
   rw [getElem?_set_self hm] at e';(obtain rfl:=sJ e')
   exact ⟨o',ho,hy fun l vs r=>r.step I.g st⟩
  ·have e':(σ.H.set m y)[k]?=some z:=e'
   rw [getElem?_set_ne (Ne.symm q)] at e'
   refine aJ (I.cells.at' k b z e e') fun o ho' r=>?_
   have nb:b≠a:=fun e2=>q (I.cells.inj k m a (e2 ▸ e) hp)
   exact ⟨o,(hs.2 b nb).trans ho',r.mono (fun _ _ w=>w.step I.g st) fun _ _ q=>q⟩
 ·refine elE (I.frs b q) fun mm yy=>?_
  exact ⟨mm,yy.sameBut hs fun e=>I.cells.nfr m a hp (e ▸ q)⟩
theorem oG {m:Nat} {v:Value} {l:List MV} (I:Inv C sc A env G σ s) (hx:aI G s.heap (.cell m) v) (hl:σ.H[m]?=some (.list l)):
  ∃a vs k,v= .ref a∧G.phi[m]?=some a∧IsL s.heap a (List.toArray vs) k∧aK G s.heap l vs:=by
 refine aI.cell_e hx fun a hp=>?_
 (refine fF (I.cells.at' _ _ _ hp hl) fun t_2 ho t_3 hc vs k hdt h4=>?_;obtain ⟨cls,dd,data,sl⟩:=t_2;(refine elA t_3 fun h1 h2=>?_;try clear t_3))
 simp only at h1 h2 hc hdt
 subst h1 h2 hc hdt
 exact ⟨a,vs,k,rfl,hp,ho,h4⟩
theorem Inv.updL {m:Nat} {a:Addr} {vs ws:List Value} {l':List MV} {k:Nat} {f:Array Value→Array Value} (tk:Nat) (I:Inv C sc A env G σ s) (hp:G.phi[m]?=some a) (hl:IsL s.heap a vs.toArray k)
  (hf:f vs.toArray=ws.toArray) (hr:aK G s.heap l' ws):
  bB G s G { s with heap:=s.heap.update a (Obj.mapSeq f),toks:=tk }∧Inv C sc A env G { σ with H:=σ.H.set m (.list l') } { s with heap:=s.heap.update a (Obj.mapSeq f),toks:=tk }:=by
 have q:=hl.update f
 rw [hf] at q
 exact I.updC hp (Heap.SameBut.update ..) q fun hh=>⟨⟨rfl,rfl⟩,rfl,ws,_,rfl,hr.map1 hh⟩
noncomputable def gX (x:MV) (f:Nat→List MV→M MV):M MV:=fun σ=>oC x fun m=>pL σ.H[m]? fun l=>if cC l.length then f m l σ else none
noncomputable def lW (m:Nat) (l:List MV) (x:MV):M MV:=fun σ=>some (.ok x,{ σ with H:=σ.H.set m (.list l) })
theorem Tr.cell {α:Type} {x:MV} {v:Value} {t:Sem α} {f:Nat→List MV→M MV} {P:Gh→Heap→MV→α→Prop} (I:Inv C sc A env G σ s) (hx:aI G s.heap x v)
  (h:∀m l a vs k,v= .ref a→σ.H[m]?=some (.list l)→G.phi[m]?=some a→IsL s.heap a (List.toArray vs) k→aK G s.heap l vs→vs.length≤1000000→Tr C sc A env G σ s t (f m l) P):Tr C sc A env G σ s t (gX x f) P:=by
 intro r σ' e
 revert hx
 refine kN e fun m e hx=>qG e fun {l} hl e=>dG e fun hz e=>?_
 exact nA (oG I hx hl) fun a vs k ha h1 h2 h3=>h _ l a vs k ha hl h1 h2 h3 (by rw [←h3.length];exact bN.mp hz) r σ' e
theorem iU {vs:List Value} (h:vs.length≤1000000):vs.toArray.size≤sizeLine:=by rw [size_toArray];show _≤16777216;lia
noncomputable def cQ (l:List MV):M MV:=M.l2 l fun x y=>gX x fun m l=>lW m (l++ [y]) .none
theorem zB:BOp C hd (.builtin "list.append") cQ:=by
 intro sc A env G σ s l vs hh hu I r
 refine Tr.l2 r fun _ _ _ w hx hy=>?_
 refine Tr.cell I hx fun m l a vs k ha hl hp h1 h3 hz=>?_
 subst ha
 intro r σ' e
 (have q_:=aZ e;clear e;(refine elA q_ fun e3_7 e3_8=>?_;try clear q_;obtain rfl:=e3_7;obtain rfl:=e3_8))
 refine elA (I.updL (f:=fun x=>x.push w) (ws:=vs++ [_]) s.toks hp h1 (by simp) (h3.append (.cons hy .nil))) fun st I'=>?_
 exact call_meets PySem.F.slot_list_append ⟨_,h1,rfl⟩ PySem.F.entry_list_append (PySem.F.args_list_append_2 _ _) (list_append a vs.toArray k _ (iU hz)) ⟨h1,⟨_,G,rfl,st,I',.none⟩⟩
theorem zC (vs:List Value):vs.toArray.eraseIdxIfInBounds (vs.toArray.size - 1)=(vs.take (vs.length - 1)).toArray:=by
 rw [size_toArray]
 apply Array.toList_inj.mp
 rw [Array.toList_eraseIdxIfInBounds,←List.dropLast_eq_take]
 simp [List.eraseIdx_eq_take_drop_succ,List.dropLast_eq_take]
 cases vs with
 | nil=>simp
 | cons x l=>simp
theorem wW (vs:List Value) (i:Nat):vs.toArray.eraseIdxIfInBounds i=(vs.eraseIdx i).toArray:=by
 apply Array.toList_inj.mp
 rw [Array.toList_eraseIdxIfInBounds]
theorem aK.eraseIdx {h:Heap} {l:List MV} {vs:List Value} (i:Nat) (r:aK G h l vs):aK G h (l.eraseIdx i) (vs.eraseIdx i):=by
 rw [List.eraseIdx_eq_take_drop_succ,List.eraseIdx_eq_take_drop_succ];exact (r.take i).append (r.drop (i+1))
noncomputable def aUk (x:MV):M MV:=gX x fun m l=>(match l[l.length - 1]? with
  | some y=>lW m (l.take (l.length - 1)) y
  | none=>M.fail)
noncomputable def aUl (x y:MV):M MV:=M.oI y fun i=>gX x fun m l=>if decide (0≤i) then (match l[i.toNat]? with
  | some y=>lW m (l.eraseIdx i.toNat) y
  | none=>M.fail) else M.fail
noncomputable def wX (l:List MV):M MV:=match l with
 | []=>M.fail
 | x::l=>(match l with| []=>aUk x|y::l=>(match l with| []=>aUl x y|_::_=>M.fail))
theorem aKv:BOp C hd (.builtin "list.pop") wX:=by
 intro sc A env G σ s l vs hh hu I r
 refine aK.li (P:=fun l vs=>Tr C sc A env G σ s (call (.builtin "list.pop") vs) (wX l) (fun G h x v=>aI G h x v)) Tr.fail (fun hx t _=>?_) r
 cases t with
 | nil=>
  refine Tr.cell I hx fun m l a vs k ha hl hp h1 h3 hz=>?_
  subst ha
  cases hy:l[l.length - 1]? with
  | none=>exact Tr.fail
  | some y=>
   refine aJ (h3.get hy) fun v hv rv=>?_
   intro r σ' e
   (have q_:=aZ e;clear e;(refine elA q_ fun e3_5 e3_6=>?_;try clear q_;obtain rfl:=e3_5;obtain rfl:=e3_6))
   refine elA (I.updL (f:=fun xs=>xs.eraseIdxIfInBounds (vs.toArray.size - 1)) (ws:=vs.take (vs.length - 1)) s.toks hp h1 (zC vs) (h3.take _)) fun st I'=>?_
   rw [←h3.length] at I'
   exact call_meets PySem.F.slot_list_pop ⟨_,h1,rfl⟩ PySem.F.entry_list_pop (PySem.F.args_list_pop_1 _) (MeetsSeq.list_pop_last a vs.toArray k v (by rw [size_toArray,←h3.length];simpa using hv) (iU hz)) ⟨h1,⟨_,G,rfl,st,I',rv.step I.g st⟩⟩
 | cons hy t=>cases t with
 | cons _ _=>exact Tr.fail
 | nil=>
  refine Tr.oI (fun u=>call (.builtin "list.pop") [_,u]) hy fun i t=>?_
  refine Tr.cell I hx fun m l a vs k ha hl hp h1 h3 hz=>?_
  subst ha
  by_cases h0:decide (0≤i)=true
  ·rw [if_pos h0]
   have h0:=of_decide_eq_true h0
   cases hy:l[i.toNat]? with
   | none=>exact Tr.fail
   | some y=>
    refine aJ (h3.get hy) fun v hv rv=>?_
    have hlt:=(gS hv).1
    intro r σ' e
    (have q_:=aZ e;clear e;(refine elA q_ fun e3_3 e3_4=>?_;try clear q_;obtain rfl:=e3_3;obtain rfl:=e3_4))
    refine elA (I.updL (f:=fun xs=>xs.eraseIdxIfInBounds i.toNat) (ws:=vs.eraseIdx i.toNat) s.toks hp h1 (wW vs _) (h3.eraseIdx _)) fun st I'=>?_
    refine call_meets PySem.F.slot_list_pop ⟨_,h1,rfl⟩ PySem.F.entry_list_pop (PySem.F.args_list_pop_2 _ _) (MeetsSeq.list_pop_at a vs.toArray k i _ i.toNat v ?_ ?_ (by simpa using hv) (iU hz)) ⟨h1,⟨_,G,rfl,st,I',rv.step I.g st⟩⟩
    ·unfold Builtin.List.listFitsIndex;simp;lia
    ·have hn:¬i < 0:=by lia
     rw [size_toArray]
     simp [seqIndex?,hn];lia
  ·rw [if_neg h0];exact Tr.fail
noncomputable def aFy (l:List MV):M MV:=M.l1 l fun x=>gX x fun m l=>lW m [] .none
theorem aDs:BOp C hd (.builtin "list.clear") aFy:=by
 intro sc A env G σ s l vs hh hu I r
 refine Tr.l1 r fun _ _ hx=>?_
 refine Tr.cell I hx fun m l a vs k ha hl hp h1 h3 hz=>?_
 subst ha
 intro r σ' e
 (have q_:=aZ e;clear e;(refine elA q_ fun e3_1 e3_2=>?_;try clear q_;obtain rfl:=e3_1;obtain rfl:=e3_2))
 refine elA (I.updL (f:=fun _=> #[]) (ws:= []) s.toks hp h1 rfl .nil) fun st I'=>?_
 exact call_meets PySem.F.slot_list_clear ⟨_,h1,rfl⟩ PySem.F.entry_list_clear (PySem.F.args_list_clear_1 _) (AutoSeq1.list_clear_list_0 a vs.toArray k (iU hz)) ⟨h1,⟨_,G,rfl,st,I',.none⟩⟩
theorem nJ (l:Addr) (items:Array Value) (n:Nat) (b:Addr) (items2:Array Value) (n2:Nat) (dd:Option Addr) (sl:Array (Option Value)) (hc0:¬(!items.isEmpty && Builtin.List.listTooLong (items.size+items2.size))=true) (hc1:items.size≤sizeLine) (hs2:items.size+items2.size≤sizeLine+1):
  Meets (Builtin.«list.extend» ⟨[.ref l,.ref b],[]⟩) (fun _ R s=>s.heap.get? l=some { cls:= .type "list",dict:=none,data:= .seq items n,slots:= #[] }∧s.heap.get? b=some { cls:= .type "list",dict:=dd,data:= .seq items2 n2,slots:=sl }∧R (.ok (.ret Value.none)) { s with heap:=s.heap.update l (Obj.mapSeq fun x=>x++items2),toks:=s.toks }):=
 .of_wp fun prog w A R s h=>by
  obtain ⟨hp,g,d,tk,os⟩:=s;obtain ⟨hl,hb,h⟩:=h;have f1:=AutoSeq1.idx_int;have f2:=AutoSeq1.sub_tuple_tuple;have f3:=AutoSeq1.sub_list_list;have f4:=AutoSeq1.sub_tuple_list;have f5:=AutoSeq1.sub_list_tuple;
  have hz':(items++items2).size≤sizeLine+1:=by rw [Array.size_append];exact hs2
  wp_walk using (wpAny_updateSeq hl rfl (hz:=hc1) (_hz':=hz')),wpAny_loadPart' hl,wpAny_loadPart' hb;exact ⟨_,rfl,h⟩
theorem mO (l:Addr) (items:Array Value) (n:Nat) (b:Addr) (items2:Array Value) (n2:Nat) (dd:Option Addr) (sl:Array (Option Value)) (hc0:¬(!items.isEmpty && Builtin.List.listTooLong (items.size+items2.size))=true) (hc1:items.size≤sizeLine) (hs2:items.size+items2.size≤sizeLine+1):
  Meets (Builtin.«list.extend» ⟨[.ref l,.ref b],[]⟩) (fun _ R s=>s.heap.get? l=some { cls:= .type "list",dict:=none,data:= .seq items n,slots:= #[] }∧s.heap.get? b=some { cls:= .type "tuple",dict:=dd,data:= .seq items2 n2,slots:=sl }∧R (.ok (.ret Value.none)) { s with heap:=s.heap.update l (Obj.mapSeq fun x=>x++items2),toks:=s.toks }):=
 .of_wp fun prog w A R s h=>by
  obtain ⟨hp,g,d,tk,os⟩:=s;obtain ⟨hl,hb,h⟩:=h;have f1:=AutoSeq1.idx_int;have f2:=AutoSeq1.sub_tuple_tuple;have f3:=AutoSeq1.sub_list_list;have f4:=AutoSeq1.sub_tuple_list;have f5:=AutoSeq1.sub_list_tuple;
  have hz':(items++items2).size≤sizeLine+1:=by rw [Array.size_append];exact hs2
  wp_walk using (wpAny_updateSeq hl rfl (hz:=hc1) (_hz':=hz')),wpAny_loadPart' hl,wpAny_loadPart' hb;exact ⟨_,rfl,h⟩
end
section
variable {C:Cx} {hd:Bool} {n:Nat} {sc:SC} {A:Around} {env:Env} {G:Gh} {σ:St} {s:Shared} {Q E:Value→Shared→Prop}
noncomputable def wY (y:MV):M (List MV):=match y with
 | .tup l=>M.pure l
 | y=>cK y
theorem qP {y:MV} {v:Value} {r:R (List MV)} {σ':St} (I:Inv C sc A env G σ s) (hy:aI G s.heap y v) (e:wY y σ=some (r,σ')) {P:Prop}
  (k:∀l b ws T n d sl,r= .ok l→σ'=σ→v= .ref b→(T= "tuple"∨T= "list")→s.heap.get? b=some { cls:= .type T,dict:=d,data:= .seq (List.toArray ws) n,slots:=sl }→aK G s.heap l ws→P):P:=by
 have fin:∀{l:List MV} {b:Addr} {ws:List Value} {T:String},r= .ok l→σ'=σ→v= .ref b→(T= "tuple"∨T= "list")→(∃o,s.heap.get? b=some o∧o.cls= .type T∧∃n,o.data= .seq (List.toArray ws) n)→aK G s.heap l ws→P:=fun {l b ws T} h1 h2 h3 h4 h5 h6=>by
  refine fJ h5 fun o ho hc n hd=>?_
  obtain ⟨cls,d,data,sl⟩:=o
  rw [show cls=_ from hc,show data=_ from hd] at ho
  exact k l b ws T n d sl h1 h2 h3 h4 ho h6
 have itm:cK y σ=some (r,σ')→P:=fun e=>sT (mM I hy e) fun q l b ws h1 h2 h3 h4=>fin h1 q h2 (.inr rfl) h3 h4
 cases hy with
 | tup h1 h2 h3=>exact fin (aZ e).1.symm (aZ e).2.symm rfl (.inl rfl) h1 h3
 | _=>exact itm e
noncomputable def lK (l:List MV):M MV:=M.l2 l fun x y=>M.bind (wY y) fun l2=>gX x fun m l=>if cC (l.length+l2.length) then lW m (l++l2) .none else M.fail
theorem zD:BOp C hd (.builtin "list.extend") lK:=by
 intro sc A env G σ s l vs hh hu I r
 refine Tr.l2 r fun x y v w hx hy r σ' e=>?_
 refine elrEAoEEA (M.bind_some e) (fun k e1 _=>?_) fun l2 σ₁ e1 e2=>?_
 ·exact qP I hy e1 fun _ _ _ _ _ _ _ q=>lU q
 ·refine qP I hy e1 fun l2' b ws T k2 d2 sl q q1 q2 hT ho g3=>?_
  rw [q1,eU q] at e2
  rw [q2]
  revert e2
  refine Tr.cell I hx (fun m l a vs k ha hl hp h1 h3 hz=>?_) r σ'
  rw [ha]
  by_cases hz2:cC (l.length+l2'.length)=true
  ·rw [if_pos hz2]
   have hz2:=bN.mp hz2
   rw [h3.length,g3.length] at hz2
   intro r σ' e
   rw [← (aZ e).1,← (aZ e).2]
   refine elA (I.updL (f:=fun x=>x++ws.toArray) (ws:=vs++ws) s.toks hp h1 (by simp) (h3.append g3)) fun st I'=>?_
   have hzz:vs.toArray.size+ws.toArray.size≤sizeLine:=by rw [size_toArray,size_toArray];show _≤16777216;lia
   rcases hT with hT|hT
   ·rw [hT] at ho
    exact call_meets PySem.F.slot_list_extend ⟨_,h1,rfl⟩ PySem.F.entry_list_extend (PySem.F.args_list_extend_2 _ _) (mO a vs.toArray k b ws.toArray k2 d2 sl (extend_door hzz) (iU hz) (Nat.le_succ_of_le hzz)) ⟨h1,ho,⟨_,G,rfl,st,I',.none⟩⟩
   ·rw [hT] at ho
    exact call_meets PySem.F.slot_list_extend ⟨_,h1,rfl⟩ PySem.F.entry_list_extend (PySem.F.args_list_extend_2 _ _) (nJ a vs.toArray k b ws.toArray k2 d2 sl (extend_door hzz) (iU hz) (Nat.le_succ_of_le hzz)) ⟨h1,ho,⟨_,G,rfl,st,I',.none⟩⟩
  ·rw [if_neg hz2];exact Tr.fail
theorem wZ {vs:List Value} {ns:List Int} (h:IntsAre vs ns):vs.length=ns.length∧∀(j:Nat) v,vs[j]?=some v→∃i t,v= .int i t∧ns[j]?=some i:=by
 induction h with
 | nil=>exact ⟨rfl,fun j v e=>by exact aP e⟩
 | cons b t r ih=>
  refine ⟨congrArg (· +1) ih.1,fun j v e=>?_⟩
  cases j with
  | zero=>exact ⟨b,t,(sJ e).symm,rfl⟩
  | succ j=>exact ih.2 j v e
noncomputable def aNr (i:Int):Value→Bool
 | .int b _=>b==i
 | _=>false
noncomputable def pV (l:List MV):M MV:=M.l2 l fun x y=>M.oI y fun i=>gX x fun m l=>(match fC l with
  | some ns=>if decide (ns.findIdx (· ==i) < ns.length) then lW m (l.eraseIdx (ns.findIdx (· ==i))) .none else M.fail
  | none=>M.fail)
theorem zE:BOp C hd (.builtin "list.remove") pV:=by
 intro sc A env G σ s l vs hh hu I r
 refine Tr.l2 r fun x y v w hx hy=>Tr.oI (fun u=>call (.builtin "list.remove") [_,u]) hy fun i ti=>?_
 refine Tr.cell I hx fun m l a vs k ha hl hp h1 h3 hz=>?_
 rw [ha]
 cases e1:fC l with
 | none=>exact Tr.fail
 | some ns=>
   by_cases hj:decide (ns.findIdx (· ==i) < ns.length)=true
   ·show Tr C sc A env G σ s _ (if decide (ns.findIdx (· ==i) < ns.length) then _ else _) _
    rw [if_pos hj]
    have hj:=of_decide_eq_true hj
    intro r σ' e
    rw [← (aZ e).1,← (aZ e).2]
    have hi:=iJ h3 e1
    obtain ⟨hlen,hat⟩:=wZ hi
    have hjj:ns.findIdx (· ==i) < vs.toArray.size:=by rw [size_toArray,hlen];exact hj
    obtain ⟨st,I'⟩:=I.updL (f:=fun xs=>xs.eraseIdxIfInBounds (ns.findIdx (· ==i))) (ws:=vs.eraseIdx (ns.findIdx (· ==i))) s.toks hp h1 (wW vs _) (h3.eraseIdx _)
    refine call_meets PySem.F.slot_list_remove ⟨_,h1,rfl⟩ PySem.F.entry_list_remove (PySem.F.args_list_remove_2 _ _) (MeetsSeq.list_remove a vs.toArray k _ (aNr i) ?_ (ns.findIdx (· ==i)) hjj ?_ ?_ (iU hz)) ⟨h1,⟨_,G,rfl,st,I',.none⟩⟩
    ·intro y hy
     obtain ⟨j,hj',rfl⟩:=getElem_of_mem (Array.mem_toList_iff.mpr hy)
     refine cJ (hat j _ (getElem?_eq_getElem hj')) fun b t e2 e3=>?_
     rw [e2]
     exact MeetsSeq.EqGives.int _ _ _ _
    ·refine cJ (hat (ns.findIdx (· ==i)) _ (getElem?_eq_getElem (by rw [hlen];exact hj))) fun b t e2 e3=>?_
     rw [List.getElem_toArray,e2]
     have:=List.findIdx_getElem (w:=hj)
     rw [getElem?_eq_getElem hj] at e3
     (obtain rfl:=sJ e3)
     exact this
    ·intro m hm hlt
     have hm':m < vs.length:=by simpa using hm
     refine cJ (hat m _ (getElem?_eq_getElem hm')) fun b t e2 e3=>?_
     show aNr i vs[m]=false
     rw [e2]
     have:=List.not_of_lt_findIdx hlt
     rw [getElem?_eq_getElem (by lia)] at e3
     (obtain rfl:=sJ e3)
     show (ns[m]==i)=false
     simpa using this
   ·show Tr C sc A env G σ s _ (if decide (ns.findIdx (· ==i) < ns.length) then _ else _) _
    rw [if_neg hj];exact Tr.fail
noncomputable def lstCk (x:MV):M Unit:=fun σ=>oC x fun m=>pL σ.H[m]? fun _=>some (.ok (),σ)
theorem aBg {x:MV} {v:Value} {r:R Unit} {σ':St} (I:Inv C sc A env G σ s) (hx:aI G s.heap x v) (e:lstCk x σ=some (r,σ')) {P:Prop} (k:∀a vs n,v= .ref a→IsL s.heap a (List.toArray vs) n→r= .ok ()→σ'=σ→P):P:=by
 revert hx
 exact kN e fun m e hx=>qG e fun {l} hl e=>nA (oG I hx hl) fun a vs n q _ h2 _=>k a vs n q h2 (aZ e).1.symm (aZ e).2.symm
theorem zF {es:List Expr} {fs:List (M MV)} {pos:Pos} (h:dD C hd n sc es fs) (hl:decide (es.length < 30)=true):((backTo pos (starEach es env)).all (fun x=> !x.1) && (backToKw pos (keywordEach [] env)).all (fun x=>x.1.isSome)
   && decide (es.length+([]:List Keyword).length+(if ([]:List Keyword).isEmpty then 0 else 1) < 30))=true:=by
 have:=hC (env:=env) (pos:=pos) h
 rw [any_eq_false] at this
 have h1:(backTo pos (starEach es env)).all (fun x=> !x.1)=true:=all_eq_true.mpr fun x hx=>by simpa using this x hx
 rw [h1]
 exact hl
theorem jK {o:Expr} {name:Str} {apos pos:Pos} {args:List Expr} {id:String} {f:M MV} {fs:List (M MV)} {g:List MV→M MV} (slot:Slot "list" name id) (hty:typeOf (.builtin id)=pure (.type "method_descriptor"))
  (hop:BOp C hd (.builtin id) g) (ho:aV C hd n sc o f) (he:dD C hd n sc args fs)
  (hbase:autoParam (∀env,attributeBase o name env (eval o env)=eval o env) dL._auto_1) (hline:autoParam ((apos.endLine==pos.line)=true) aX._auto_1) (hlen:autoParam (decide (args.length < 30)=true) aX._auto_1) (hf:autoParam (keeperOf (.builtin id)=pure .machine) aX._auto_1):
  aV C hd n sc (.Call (.Attribute o name apos) args [] pos) (M.bind f fun x=>M.bind (lstCk x) fun _=>M.bind (aO fs) fun l=>g (x::l)):=by
 intro A env G σ s hA I r σ' e
 refine wpAny_Call_method (hbase env) (zF he hlen) hline PySem.F.plainAttrs_list slot hty ?_
 focus (refine elrEAoEEA (M.bind_some e) (fun k e1 r_2=>?_) fun x σ₁ e1 e2=>?_;obtain rfl:=r_2;rotate_left;rotate_left)
 ·refine wpAny_mono (ho A env G σ s hA I _ _ e1) (fun a s' h=>?_) fun a s' h=>?_
  ·exact (mK h).elim
  ·obtain ⟨b,G',q,h⟩:=h;(obtain rfl:=oD q);exact ⟨k,G',rfl,h⟩
 ·refine wpAny_mono (ho A env G σ s hA I _ _ e1) (fun v s' h=>?_) fun a s' h=>?_
  ·(refine bG (trq h) fun G' st I' rv=>?_)
   focus (refine elrEAoEEA (M.bind_some e2) (fun k e3 r_1=>?_) fun _ σ₂ e3 e4=>?_;obtain rfl:=r_1;rotate_left;rotate_left)
   ·exact aBg I' rv e3 fun _ _ _ _ _ q=>lU q
   ·refine aBg I' rv e3 fun a vs k q h2 _ q2=>?_
    rw [q2] at e4
    subst q
    refine ⟨⟨_,h2,rfl⟩,fun b hb=>by obtain rfl:=Value.ref.inj hb;exact ⟨_,h2,rfl⟩,?_⟩
    have:=gD (cpos:=pos) (pos:=pos) hf he hA I' (aK.cons rv .nil) hop r σ' e4
    refine wpAny_mono this (fun v s'' h=>?_) fun y s'' h=>?_
    ·(refine bL h fun b G'' q st' I'' p=>?_;try clear h);exact ⟨b,G'',q,st.trans st',I'',p⟩
    ·(refine bL h fun b G'' q st' I'' p=>?_;try clear h);exact ⟨b,G'',q,st.trans st',I'',p⟩
  ·exact (fI h).elim
theorem bO {o:Expr} {name:Str} {apos pos:Pos} {args:List Expr} {f:M MV} {fs:List (M MV)} (ho:aV C hd n sc o f) (he:dD C hd n sc args fs) (hz:autoParam (name= "append") aX._auto_1)
  (hbase:autoParam (∀env,attributeBase o name env (eval o env)=eval o env) dL._auto_1) (hline:autoParam ((apos.endLine==pos.line)=true) aX._auto_1) (hlen:autoParam (decide (args.length < 30)=true) aX._auto_1):
  aV C hd n sc (.Call (.Attribute o name apos) args [] pos) (M.bind f fun x=>M.bind (lstCk x) fun _=>M.bind (aO fs) fun l=>cQ (x::l)):=by
 subst hz;exact jK PySem.F.slot_list_append PySem.F.type_list_append zB ho he hbase hline hlen
theorem mP {o:Expr} {name:Str} {apos pos:Pos} {args:List Expr} {f:M MV} {fs:List (M MV)} (ho:aV C hd n sc o f) (he:dD C hd n sc args fs) (hz:autoParam (name= "extend") aX._auto_1)
  (hbase:autoParam (∀env,attributeBase o name env (eval o env)=eval o env) dL._auto_1) (hline:autoParam ((apos.endLine==pos.line)=true) aX._auto_1) (hlen:autoParam (decide (args.length < 30)=true) aX._auto_1):
  aV C hd n sc (.Call (.Attribute o name apos) args [] pos) (M.bind f fun x=>M.bind (lstCk x) fun _=>M.bind (aO fs) fun l=>lK (x::l)):=by
 subst hz;exact jK PySem.F.slot_list_extend PySem.F.type_list_extend zD ho he hbase hline hlen
theorem pW {o:Expr} {name:Str} {apos pos:Pos} {args:List Expr} {f:M MV} {fs:List (M MV)} (ho:aV C hd n sc o f) (he:dD C hd n sc args fs) (hz:autoParam (name= "pop") aX._auto_1)
  (hbase:autoParam (∀env,attributeBase o name env (eval o env)=eval o env) dL._auto_1) (hline:autoParam ((apos.endLine==pos.line)=true) aX._auto_1) (hlen:autoParam (decide (args.length < 30)=true) aX._auto_1):
  aV C hd n sc (.Call (.Attribute o name apos) args [] pos) (M.bind f fun x=>M.bind (lstCk x) fun _=>M.bind (aO fs) fun l=>wX (x::l)):=by
 subst hz;exact jK PySem.F.slot_list_pop PySem.F.type_list_pop aKv ho he hbase hline hlen
theorem zG {o:Expr} {name:Str} {apos pos:Pos} {args:List Expr} {f:M MV} {fs:List (M MV)} (ho:aV C hd n sc o f) (he:dD C hd n sc args fs) (hz:autoParam (name= "remove") aX._auto_1)
  (hbase:autoParam (∀env,attributeBase o name env (eval o env)=eval o env) dL._auto_1) (hline:autoParam ((apos.endLine==pos.line)=true) aX._auto_1) (hlen:autoParam (decide (args.length < 30)=true) aX._auto_1):
  aV C hd n sc (.Call (.Attribute o name apos) args [] pos) (M.bind f fun x=>M.bind (lstCk x) fun _=>M.bind (aO fs) fun l=>pV (x::l)):=by
 subst hz;exact jK PySem.F.slot_list_remove PySem.F.type_list_remove zE ho he hbase hline hlen
theorem aDt {o:Expr} {name:Str} {apos pos:Pos} {args:List Expr} {f:M MV} {fs:List (M MV)} (ho:aV C hd n sc o f) (he:dD C hd n sc args fs) (hz:autoParam (name= "clear") aX._auto_1)
  (hbase:autoParam (∀env,attributeBase o name env (eval o env)=eval o env) dL._auto_1) (hline:autoParam ((apos.endLine==pos.line)=true) aX._auto_1) (hlen:autoParam (decide (args.length < 30)=true) aX._auto_1):
  aV C hd n sc (.Call (.Attribute o name apos) args [] pos) (M.bind f fun x=>M.bind (lstCk x) fun _=>M.bind (aO fs) fun l=>aFy (x::l)):=by
 subst hz;exact jK PySem.F.slot_list_clear PySem.F.type_list_clear aDs ho he hbase hline hlen
end
section
variable {C:Cx} {hd:Bool} {n:Nat} {sc:SC} {A:Around} {env:Env} {G:Gh} {σ:St} {s:Shared} {Q E:Value→Shared→Prop}
theorem jX {f:Value} {es:List Expr} {fs:List (M MV)} {pos cpos:Pos} {l:List MV} {σ₁:St} (hf:keeperOf f=pure .machine) (he:dD C hd n sc es fs) (hA:AOk hd n A) (I:Inv C sc A env G σ s)
  (e1:aO fs σ=some (.ok l,σ₁))
  (h:∀vs G' s',bB G s G' s'→Inv C sc A env G' σ₁ s'→aK G' s'.heap l vs→wpAny (model C.prog C.w) A (call f vs []) Q E s'):
  wpAny (model C.prog C.w) A (callWith cpos f [] (backTo pos (starEach es env)) []) Q E s:=by
 have hk:mA C hd n sc [] [] []:= .nil
 unfold callWith
 have e1':(M.bind (aO fs) fun l=>M.bind (aO []) fun m=>M.pure (l,m)) σ=some (.ok (l,[]),σ₁):=by unfold M.bind;rw [e1];rfl
 refine wB (wpAny_holding (wpAny_mono (gY (pos:=pos) he hk hA I _ _ e1') (fun x s' h'=>?_) fun a s' h'=>?_))
 ·(refine iE h' fun b G' q' st I' p1 kv p2 p3=>?_;try clear h')
  (obtain rfl:=eU q')
  have kw0:x.kw= []:=by rw [p2];rfl
  refine wB (wpAny_standAt ?_)
  rw [hC he]
  refine wB (wpAny_of_eq hf ?_)
  rw [kw0]
  show wpAny _ A (call f ([]++x.pos) [] >>=fun r=>holding [r] point >>=fun _=>pure r) _ _ s'
  exact wB (wpAny_mono (h x.pos G' s' st I' p1) (fun v s'' h=>wB (wpAny_holding (wpAny_point (wP h)))) fun _ _ h=>h)
 ·exact (fI h').elim
theorem mC (a b:Int):Builtin.Range.rangeSize a b (-1)=((a - b).toNat:Nat):=by
 unfold Builtin.Range.rangeSize
 simp only [show ¬(-1:Int) > 0 by decide,if_false,Int.neg_neg,Int.ediv_one]
 split <;> (lia)
theorem sG (b:Int):Builtin.Range.rangeSize 0 b 1=(b.toNat:Nat):=by
 rw [rangeSize_one];split <;> (lia)
theorem aDu {a b:Int} (ha: -(2 ^ 62)≤a) (ha':a < 2 ^ 62) (hb: -(2 ^ 62)≤b) (hb':b < 2 ^ 62):Builtin.Range.small a b (-1)=true:=by
 unfold Builtin.Range.small
 rw [mC]
 simp only [Builtin.Range.rangeFitsLong,Bool.and_eq_true,Bool.or_eq_true,decide_eq_true_eq,beq_iff_eq,show ¬(-1:Int) > 0 by decide,if_false]
 lia
noncomputable def eB (a c:Int) (k:Nat):List MV:=(List.range k).map fun (i:Nat)=> .int (a+(i:Int) * c)
noncomputable def rOk (a:Int):Bool:=decide (-1000000≤a) && decide (a≤1000000)
theorem nK {a:Int}:rOk a=true ↔ -1000000≤a∧a≤1000000:=by unfold rOk;rw [Bool.and_eq_true,decide_eq_true_iff,decide_eq_true_iff]
noncomputable def fN (l:List MV):Option (List MV):=match l with
 | []=>none
 | x::l=>(match l with
  | []=>oI x fun b=>if rOk b then some (eB 0 1 b.toNat) else none
  | y::l=>l1 l fun z=>oI x fun a=>oI y fun b=>oI z fun c=>if rOk a && rOk b && decide (c= -1) then some (eB a (-1) (a - b).toNat) else none)
theorem xA {l items:List MV} (e3:fN l=some items):(∃b,l= [.int b]∧(-1000000≤b∧b≤1000000)∧items=eB 0 1 b.toNat)∨
  (∃a b,l= [.int a,.int b,.int (-1)]∧(-1000000≤a∧a≤1000000)∧(-1000000≤b∧b≤1000000)∧items=eB a (-1) (a - b).toNat):=by
 rcases l with _|⟨x,_|⟨y,l⟩⟩
 ·exact aP e3
 ·exact yQ e3 fun b e=>dG e fun hb e=> .inl ⟨b,rfl,nK.mp hb,(sJ e).symm⟩
 ·refine aQj e3 fun z e=>yQ e fun a e=>yQ e fun b e=>yQ e fun c e=>dG e fun hb e=>?_
  obtain ⟨hb,hc⟩:=and_eq_true_iff.mp hb
  obtain ⟨ha,hb'⟩:=and_eq_true_iff.mp hb
  rw [of_decide_eq_true hc]
  exact .inr ⟨a,b,rfl,nK.mp ha,nK.mp hb',(sJ e).symm⟩
noncomputable def nxL (l:List MV):Nat×Nxt:=(l.length+1,fun i _=>some l[i]?)
theorem tB {r:Addr} {a b c:Int} {t u v:Tok} {k:Nat} {G₀:Gh} {s₀:Shared} {Q:Value→Shared→Prop} (hh:A.handled=none) (I:Inv C sc A env G σ s) (st₀:bB G₀ s₀ G s) (hr:IsRange s.heap r a b c t u v)
  (hs:Builtin.Range.small a b c=true) (hk:Builtin.Range.rangeSize a b c=(k:Nat))
  (h:∀s₂ G' Ia wr Pos,bB G₀ s₀ G' s₂→Inv C sc A env G' σ s₂→(∀b∈wr,s₀.heap.get? b=none)→eS sc env G' wr→fV C A Ia wr pR (nxL (eB a c k)).2 Pos→Pos 0 G' s₂.heap→Q (.ref Ia) s₂):
  wpAny (model C.prog C.w) A (pyIter (.ref r)) Q E s:=by
 refine wpAny_pyIter_range hr hs ?_
 have fr:∀b∈ [s.heap.objs.size],s₀.heap.get? b=none:=fun b hb=>by
  rw [mS hb]
  cases q:s₀.heap.get? s.heap.objs.size with
  | none=>rfl
  | some o=>obtain ⟨o',q'⟩:=st₀.alive _ o q;rw [bD] at q';exact aP q'
 have fr':∀b∈ [s.heap.objs.size],s.heap.get? b=none:=fun b hb=>by rw [mS hb];exact bD _
 refine iC (I.addW (Ext.push s { cls:= .type "range_iterator",data:= .fields #[rawInt a,rawInt (Builtin.Range.rangeSize a b c),rawInt c] }) fr' (fun b hb=>by rw [mS hb];exact ⟨_,Heap.get?_push_size _ rfl⟩)) fun st I' sd=>?_
 refine h _ _ _ _ _ (st₀.trans st) I' fr sd (fV.ofWalks (eB a c k) (Walks.range hh s.heap.objs.size a c k) (by simp [eB]) (T:= "range_iterator") ?_ ?_ (by decide+kernel)) ⟨Nat.zero_le _,?_⟩
 ·rintro i v x ⟨t,rfl⟩ hx G h
  unfold eB at hx
  rw [getElem?_map] at hx
  (refine aJ (map_eq_some_iff.mp hx) fun j hj e_8=>?_;obtain rfl:=e_8)
  obtain ⟨h1,h2⟩:=gS hj
  simp at h2;subst h2
  exact .int _ _
 ·intro i h e;exact ⟨_,e,rfl⟩
 ·show IsRangeIter _ _ _ _ _
  rw [hk]
  simp
  exact Heap.get?_push_size _ rfl
theorem cL (i:Nat) {z:Str} {p pos:Pos} {es:List Expr} {fs:List (M MV)} (B:cH C) (hz:sc.gs[i]?=some z) (hm:C.mg z=none) (hv:C.mb z=some (.type "range")) (hdb:(z==("__debug__":Str))=false)
  (he:dD C true n sc es fs):sF C n sc pR (.Call (.Name z p) es [] pos) (M.bind (M.ne (aO fs)) fun l=>M.bind (M.lift (fN l)) fun l=>M.pure (nxL l)):=by
 intro A env G σ s hA I r σ' er
 refine wpAny_Call_Name_kw (gC B I (I.ok.globs i z hz) hm hv hdb ?_)
 focus (refine elrEAoEEA (M.bind_some er) (fun k e1 r_8=>?_) fun l σ₁ e1 e2=>?_;obtain rfl:=r_8;rotate_left;rotate_left)
 ·exact (M.ne_exc e1).elim
 refine aJ (M.ne_some e1) fun l' q e1=>?_
 (obtain rfl:=eU q)
 focus (refine elrEAoEEA (M.bind_some e2) (fun k e3 r_7=>?_) fun items σ₂ e3 e4=>?_;obtain rfl:=r_7;rotate_left;rotate_left)
 ·refine bG (M.lift_some e3) fun _ _ w _=>?_;exact lU w
 (refine bG (M.lift_some e3) fun items' e3' w e_7=>?_;obtain rfl:=e_7)
 (obtain rfl:=eU w)
 (have q_:=aZ e4;clear e4;obtain ⟨rfl,rfl⟩:=q_)
 clear e3 er e2
 refine jX (by rfl) he hA I e1 fun vs G' s' st I' rl=>?_
 have hh:=hA.handled rfl
 focus (refine elrEAAoEEAAA (xA e3') (fun b r_3 hb r_4=>?_) fun a b r_5 ha hb r_6=>?_;obtain rfl:=r_3;obtain rfl:=r_4;rotate_left;obtain rfl:=r_5;obtain rfl:=r_6;rotate_left)
 ·cases rl with|cons hx t=>?_
  refine aK.nil_e t ?_
  cases hx with|int _ tb=>?_
  refine call_range_1 ?_
  have X:Ext s' { s' with heap:=s'.heap.push { cls:= .type "range",data:= .fields #[.int 0 s'.toks,.int b tb,.int 1 (s'.toks+1)] },toks:=s'.toks+1+1 }:=⟨(Ext.push s' _).1,rfl,rfl⟩
  exact tB hh (I'.ext X) (st.trans (X.step G')) (IsRange.new ..) (small_one (by lia) (by lia) (by lia) (by lia)) (sG b) fun s₂ G'' Ia wr Pos a1 a2 a3 a4 a5 a6=>⟨_,G'',Ia,wr,Pos,rfl,rfl,a1,a2,a3,a4,a5,a6⟩
 ·cases rl with|cons hx t=>?_
  refine aK.cons_e t fun _ _ hy t=>?_
  refine aK.cons_e t fun _ _ hz t=>?_
  cases t;cases hx;cases hy;cases hz
  refine call_range_3 (by decide) ?_ (.inl (PyProof.noPylong_of_log2 (by decide+kernel)))
  exact tB hh (I'.ext (Ext.push s' _)) (st.trans ((Ext.push s' _).step G')) (IsRange.new ..) (aDu (by lia) (by lia) (by lia) (by lia)) (mC a b) fun s₂ G'' Ia wr Pos a1 a2 a3 a4 a5 a6=>⟨_,G'',Ia,wr,Pos,rfl,rfl,a1,a2,a3,a4,a5,a6⟩
noncomputable def aNs:Expr→Bool
 | .Tuple _ _ _=>true
 | _=>false
noncomputable def fO (l m:List MV):List MV:=List.zipWith (fun x y=> .tup [x,y]) l m
noncomputable def aSh (l:List MV):Option (List MV):=l2 l fun x y=>oL x fun a=>oL y fun b=>some (fO a b)
noncomputable abbrev ZSt (z TI TO i1 i2 l1 l2:Addr) (vs ws:List Value) (i:Nat) (h:Heap):Prop:=
 IsZip h z TI TO .none∧IsPair h TI (.ref i1) (.ref i2)∧(∃a b,IsPair h TO a b)∧h.IsListIter i1 l1 i∧h.IsListIter i2 l2 i∧h.IsList l1 vs.toArray∧h.IsList l2 ws.toArray
structure ZP (z TI TO i1 i2 l1 l2:Addr) (xs ys:List MV) (vs ws:List Value) (i:Nat) (G:Gh) (h:Heap):Prop where
 hi:i≤min vs.length ws.length
 hst:ZSt z TI TO i1 i2 l1 l2 vs ws i h
 w1:¬G.W TI
 w2:¬G.W l1
 w3:¬G.W l2
 r1:aK G h xs vs
 r2:aK G h ys ws
theorem aBh {c z TI TO i1 i2 l1 l2:Addr} (hc:c∈ [z,TI,TO,i1,i2,l1,l2]) (q:c∉ [z,TO,i1,i2]):c=TI∨c=l1∨c=l2:=by
 simp only [mem_cons,not_mem_nil,or_false,not_or] at hc q
 rcases hc with h|h|h|h|h|h|h
 ·exact absurd h q.1
 ·exact .inl h
 ·exact absurd h q.2.1
 ·exact absurd h q.2.2.1
 ·exact absurd h q.2.2.2
 ·exact .inr (.inl h)
 ·exact .inr (.inr h)
theorem ZP.far {c z TI TO i1 i2 l1 l2:Addr} {xs ys:List MV} {vs ws:List Value} {i:Nat} {G:Gh} {h:Heap} (p:ZP z TI TO i1 i2 l1 l2 xs ys vs ws i G h) (hc:c=TI∨c=l1∨c=l2):¬G.W c:=by
 rcases hc with h|h|h
 ·rw [h];exact p.w1
 ·rw [h];exact p.w2
 ·rw [h];exact p.w3
theorem aDv {xs ys:List MV} {i:Nat} {x:MV} (hn:(fO xs ys)[i]?=some x):∃a b,xs[i]?=some a∧ys[i]?=some b∧x= .tup [a,b]:=by
 refine cD (List.getElem?_zipWith_eq_some.mp hn) fun a b h1 h2 h3=>?_
 exact ⟨a,b,h1,h2,h3.symm⟩
theorem aDw {G:Gh} {h:Heap} {xs ys:List MV} {vs ws:List Value} {i:Nat} (r1:aK G h xs vs) (r2:aK G h ys ws) (hi:i≤min vs.length ws.length) (hn:(fO xs ys)[i]?=none):i=min vs.length ws.length:=by
 have:=getElem?_eq_none_iff.mp hn
 unfold fO at this
 rw [List.length_zipWith,r1.length,r2.length] at this
 exact Nat.le_antisymm hi this
theorem aQp {z TI TO i1 i2 l1 l2:Addr} {vs ws:List Value} {i:Nat} {h:Heap} (p:ZSt z TI TO i1 i2 l1 l2 vs ws i h) {c:Addr} (hc:c∈ [z,TO,i1,i2]):∃o,h.get? c=some o:=by
 (refine aFd p fun hz _ t_4 t_5 t_6 _ _=>?_;try clear p;obtain ⟨_,_,hTO⟩:=t_4;obtain ⟨o1,h1,_⟩:=t_5;obtain ⟨o2,h2,_⟩:=t_6)
 simp only [mem_cons,not_mem_nil,or_false] at hc
 rcases hc with h|h|h|h
 ·rw [h];exact ⟨_,hz⟩
 ·rw [h];exact ⟨_,hTO⟩
 ·rw [h];exact ⟨_,h1⟩
 ·rw [h];exact ⟨_,h2⟩
theorem aNt {vs:List Value} {i:Nat} {x v:Value} (h:vs.toArray[i]?=some x) (h':vs[i]?=some v):x=v:=by
 rw [List.getElem?_toArray,h'] at h
 exact (sJ h).symm
theorem fV.zip {z TI TO i1 i2 l1 l2:Addr} (hh:A.handled=none) (D:ZipApart z TI TO i1 i2 l1 l2) (xs ys:List MV) (vs ws:List Value):
  fV C A z [z,TO,i1,i2] aNs (fun i _=>some (fO xs ys)[i]?) (ZP z TI TO i1 i2 l1 l2 xs ys vs ws):=
 have W:=WalksT.zip2 (prog:=C.prog) (w:=C.w) hh z TI TO i1 i2 l1 l2 D vs.toArray ws.toArray
 {
  frame:=fun i G G' s s' g hW hp st=>by
   refine ⟨hp.hi,W.frame i _ _ hp.hst fun c hc o e=>?_,st.nW hp.hst.2.1 hp.w1,?_,?_,hp.r1.step g st,hp.r2.step g st⟩
   ·by_cases q:c∈ [z,TO,i1,i2]
    ·exact st.keep c o e (hW c q).2.1 (hW c q).2.2
    ·exact st.kp g (hp.far (aBh hc q)) e
   ·obtain ⟨o,e⟩:=fY hp.hst.2.2.2.2.2.1;exact st.nW e hp.w2
   ·obtain ⟨o,e⟩:=fY hp.hst.2.2.2.2.2.2;exact st.nW e hp.w3
  turn:=fun i G H s x t Q E ht g hH hW hp hn hQ=>by
   (refine cD (aDv (sJ hn)) fun a b ha hb e_3=>?_;obtain rfl:=e_3)
   refine aJ (hp.r1.get ha) fun va hva ra=>?_
   refine aJ (hp.r2.get hb) fun vb hvb rb=>?_
   have hlt:i < min vs.length ws.length:=Nat.lt_min.mpr ⟨(gS hva).1,(gS hvb).1⟩
   refine W.item i s Q E (by simpa using hlt) hp.hst fun T vals h' tk hPt hT hTup hMid hk=>?_
   (refine cD hPt fun x y hx hy e_2=>?_;try clear hPt;obtain rfl:=e_2)
   refine hQ (.ref T) _ fun Q' E' hq=>?_
   cases t <;> first|exact jI ht|skip
   refine W.go _ _ _ i T _ _ _ hMid fun h'' hst' hk'=>?_
   have md:Mod [z,TO,i1,i2] s { s with heap:=h'',toks:=tk }:=⟨fun c o hc e=>hk' c o hc (hk c o hc e),rfl,rfl⟩
   have vk:=md.vk fun b hb=>(hW b hb).1
   have hTn:¬G.W T:=fun q=>by
    obtain ⟨o,e⟩:=g.lt T q
    rw [Heap.get?_none_of_le hT] at e;exact nof e
   exact hq _ (.tup (vs:= [x,y]) (fX hTup fun o e=>hk' T o (W.apart i T _ hMid) e) hTn (.cons (aNt hx hva ▸ ra.keep vk) (.cons (aNt hy hvb ▸ rb.keep vk) .nil))) md (fun c hc=>aQp hst' hc) ⟨hlt,hst',hp.w1,hp.w2,hp.w3,hp.r1.keep vk,hp.r2.keep vk⟩
  fin:=fun i G H s Q E hH hW hp hn hQ=>by
   have hi':=aDw hp.r1 hp.r2 hp.hi (sJ hn)
   exact W.done s Q E (by rw [size_toArray,size_toArray,←hi'];exact hp.hst) fun h' tk hk=>hQ _ ⟨fun c o hc e=>hk c o hc e,rfl,rfl⟩
  self:=fun i G s Q E hp h=>W.self i s Q E hp.hst h
  ghost:=fun i G own' h hp=>⟨hp.hi,hp.hst,hp.w1,hp.w2,hp.w3,aK.weakW (G:=G) (G':=⟨G.W,own',G.frs,G.phi⟩) (fun _ q=>q) rfl hp.r1,aK.weakW (G:=G) (G':=⟨G.W,own',G.frs,G.phi⟩) (fun _ q=>q) rfl hp.r2⟩
  other:=fun i G h h' k hp=>by
   refine ⟨hp.hi,W.frame i _ _ hp.hst fun c hc o e=>?_,hp.w1,hp.w2,hp.w3,hp.r1.keep fun a o e q=>k a o (.inl q) e,hp.r2.keep fun a o e q=>k a o (.inl q) e⟩
   by_cases q:c∈ [z,TO,i1,i2]
   ·exact k c o (.inr q) e
   ·exact k c o (.inl (hp.far (aBh hc q))) e }
theorem aFz (i:Nat) {z:Str} {p pos:Pos} {es:List Expr} {fs:List (M MV)} (B:cH C) (hz:sc.gs[i]?=some z) (hm:C.mg z=none) (hv:C.mb z=some (.type "zip")) (hdb:(z==("__debug__":Str))=false)
  (he:dD C true n sc es fs):sF C n sc aNs (.Call (.Name z p) es [] pos) (M.bind (M.ne (aO fs)) fun l=>M.bind (M.lift (aSh l)) fun l=>M.pure (nxL l)):=by
 intro A env G σ s hA I r σ' er
 refine wpAny_Call_Name_kw (gC B I (I.ok.globs i z hz) hm hv hdb ?_)
 focus (refine elrEAoEEA (M.bind_some er) (fun k e1 r_2=>?_) fun l σ₁ e1 e2=>?_;obtain rfl:=r_2;rotate_left;rotate_left)
 ·exact (M.ne_exc e1).elim
 refine aJ (M.ne_some e1) fun l' q e1=>?_
 (obtain rfl:=eU q)
 focus (refine elrEAoEEA (M.bind_some e2) (fun k e3 r_1=>?_) fun items σ₂ e3 e4=>?_;obtain rfl:=r_1;rotate_left;rotate_left)
 ·refine bG (M.lift_some e3) fun _ _ w _=>?_;exact lU w
 (refine bG (M.lift_some e3) fun items' e3' w e_1=>?_;obtain rfl:=e_1)
 (obtain rfl:=eU w)
 (have q_:=aZ e4;clear e4;obtain ⟨rfl,rfl⟩:=q_)
 clear e3 er e2
 have hh:=hA.handled rfl
 obtain ⟨xs,ys,rfl,rfl⟩:∃xs ys,l= [.lst xs,.lst ys]∧items=fO xs ys:=by
  exact aKh e3' fun x y e=>aKg (P:=fun x=>∃xs ys,[x,y]= [MV.lst xs,.lst ys]∧items=fO xs ys) e fun a e=>aKg (P:=fun y=>∃xs ys,[.lst a,y]= [MV.lst xs,.lst ys]∧items=fO xs ys) e fun b e=>⟨_,_,rfl,(sJ e).symm⟩
 refine jX (by rfl) he hA I e1 fun us G' s' st I' rl=>?_
 cases rl with|cons hx t=>?_
 refine aK.cons_e t fun _ _ hy t=>?_
 refine aK.nil_e t ?_
 refine aI.lst_e hx fun vs l1 g1 g2 g3=>?_
 refine aI.lst_e hy fun ws l2 k1 k2 k3=>?_
 have lt1:l1 < s'.heap.objs.size:=by (refine aJ g1 fun _ e _=>?_;try clear g1);exact Heap.lt_size e
 have lt2:l2 < s'.heap.objs.size:=by (refine aJ k1 fun _ e _=>?_;try clear k1);exact Heap.lt_size e
 refine call_zip_2 g1 k1 fun h' hz hTI hTO hi1 hi2 hsz hk=>?_
 have x:Ext s' { s' with heap:=h' }:=⟨hk,rfl,rfl⟩
 have fr':∀b∈ [s'.heap.objs.size+4,s'.heap.objs.size+3,s'.heap.objs.size,s'.heap.objs.size+1],s'.heap.get? b=none:=fun b hb=>by
  apply Heap.get?_none_of_le
  simp only [mem_cons,not_mem_nil,or_false] at hb
  rcases hb with rfl|rfl|rfl|rfl <;> simp
 have fr:∀b∈ [s'.heap.objs.size+4,s'.heap.objs.size+3,s'.heap.objs.size,s'.heap.objs.size+1],s.heap.get? b=none:=fun b hb=>by
  cases q:s.heap.get? b with
  | none=>rfl
  | some o=>obtain ⟨o',q'⟩:=st.alive _ o q;rw [fr' b hb] at q';exact aP q'
 have al:∀b∈ [s'.heap.objs.size+4,s'.heap.objs.size+3,s'.heap.objs.size,s'.heap.objs.size+1],∃o,h'.get? b=some o:=fun b hb=>by
  (refine aJ hi1 fun o1 h1 _=>?_;try clear hi1)
  (refine aJ hi2 fun o2 h2 _=>?_;try clear hi2)
  simp only [mem_cons,not_mem_nil,or_false] at hb
  rcases hb with rfl|rfl|rfl|rfl
  ·exact ⟨_,hz⟩
  ·exact ⟨_,hTO⟩
  ·exact ⟨_,h1⟩
  ·exact ⟨_,h2⟩
 refine iC (I'.addW x fr' al) fun st2 I2 sd=>?_
 have D:=zipApart_new lt1 lt2
 have it:=fV.zip (C:=C) hh D xs ys vs ws
 have nW:∀c,¬G'.W c→c∉ [s'.heap.objs.size+4,s'.heap.objs.size+3,s'.heap.objs.size,s'.heap.objs.size+1]→¬(G'.addW [s'.heap.objs.size+4,s'.heap.objs.size+3,s'.heap.objs.size,s'.heap.objs.size+1]).W c:=fun c hc hn q=>q.elim hc hn
 have lo:∀c,c < s'.heap.objs.size→c∉ [s'.heap.objs.size+4,s'.heap.objs.size+3,s'.heap.objs.size,s'.heap.objs.size+1]:=fun c hc hm=>by
  simp only [mem_cons,not_mem_nil,or_false] at hm
  rcases hm with h|h|h|h <;> (rw [h] at hc;revert hc;simp)
 have pos:ZP (s'.heap.objs.size+4) (s'.heap.objs.size+2) (s'.heap.objs.size+3) s'.heap.objs.size (s'.heap.objs.size+1) l1 l2 xs ys vs ws 0 (G'.addW [s'.heap.objs.size+4,s'.heap.objs.size+3,s'.heap.objs.size,s'.heap.objs.size+1]) h':=
  ⟨Nat.zero_le _,⟨hz,hTI,⟨_,_,hTO⟩,hi1,hi2,hZ g1 fun o e=>hk _ o e,hZ k1 fun o e=>hk _ o e⟩,
   nW _ (I'.fresh_notW (Heap.get?_none_of_le (by simp))) (by simp),nW _ g2 (lo _ lt1),nW _ k2 (lo _ lt2),g3.step I'.g st2,k3.step I'.g st2⟩
 refine it.self 0 _ _ _ _ pos ⟨_,_,_,_,_,rfl,rfl,st.trans st2,I2,fr,sd,it,pos⟩
end
section
variable {C:Cx} {hd:Bool} {n:Nat} {sc:SC} {A:Around} {env:Env} {G:Gh} {σ:St} {s:Shared} {Q E:Value→Shared→Prop}
theorem mD {h':Heap} (h:Heap.ExtBut s.heap.objs.size s.heap h'):Ext s { s with heap:=h' }:=⟨fun b o e=>h b o (Nat.ne_of_lt (Heap.lt_size e)) e,rfl,rfl⟩
noncomputable def qQ (x y:Nat):MV→M Unit
 | .tup [a,b]=>M.bind (bE x a) fun _=>M.bind (bE y b) fun _=>M.pure ()
 | _=>M.fail
theorem aGa {x y:Nat} {a b:MV} {va vb:Value} {p q:Pos} (I:Inv C sc A env G σ s) (hk:cZ (sc.lookup x)=true) (hk':cZ (sc.lookup y)=true) (ra:aI G s.heap a va) (rb:aI G s.heap b vb):
  Tr C sc A env G σ s (do holding [vb] (assign (.Name (nm x) p) env va);do holding [] (assign (.Name (nm y) q) env vb);pure ()) (M.bind (bE x a) fun _=>M.bind (bE y b) fun _=>M.pure ()) (fun _ _ _ _=>True):=by
 refine Tr.bind (Tr.holding (Tr.stand (eM I hk ra))) fun _ _ G' σ' s' st I' _=>?_
 exact Tr.then_pure (Tr.holding (Tr.stand (eM I' hk' (rb.step I.g st)))) fun _ _=>trivial
set_option tactic.hygienic true in
theorem zH {x y:Nat} {v:MV} {r:R Unit} {σ σ':St} (e:qQ x y v σ=some (r,σ')):∃a b,v= .tup [a,b]∧(M.bind (bE x a) fun _=>M.bind (bE y b) fun _=>M.pure ()) σ=some (r,σ'):=by
 cases v <;> first|exact aP e|skip
 rename_i l
 rcases l with _|⟨a,_|⟨b,_|⟨c,l⟩⟩⟩ <;> first|exact aP e|exact ⟨_,_,rfl,e⟩
theorem jL (x y:Nat) {z z':Str} {k:Nat} {p q tp:Pos} (hz:autoParam (nm x=z) aX._auto_1) (hz':autoParam (nm y=z') aX._auto_1) (hk:autoParam (cZ (sc.lookup x)=true) aX._auto_1) (hk':autoParam (cZ (sc.lookup y)=true) aX._auto_1):
  wV C n sc (.Tuple [.Name z p,.Name z' q] k tp) (qQ x y):=by
 subst hz hz'
 intro A env G σ s v u hA I r
 intro r' σ' e
 refine cJ (zH e) fun a b e_1 e=>?_
 subst e_1
 ·cases r with|tup h1 h2 h3=>?_
  cases h3 with|cons ra h3=>?_
  cases h3 with|cons rb h3=>?_
  cases h3
  refine wpAny_assign_Tuple (hA.handled rfl) h1 rfl rfl fun h' he=>?_
  have x':=mD he
  refine wpAny_mono (aGa (p:=p) (q:=q) (I.ext x') hk hk' (ra.ext I.g x') (rb.ext I.g x') r' σ' e) (fun _ s' h=>?_) fun _ s' h=>?_
  ·(refine bL h fun b G' q st I' t=>?_;try clear h);exact ⟨b,G',q,(x'.step G).trans st,I',t⟩
  ·(refine bL h fun b G' q st I' t=>?_;try clear h);exact ⟨b,G',q,(x'.step G).trans st,I',t⟩
theorem xB (x y:Nat) {z z':Str} {k:Nat} {p q tp pos:Pos} {e:Expr} {f:M MV} (h:aV C true n sc e f) (hz:autoParam (nm x=z) aX._auto_1) (hz':autoParam (nm y=z') aX._auto_1) (hk:autoParam (cZ (sc.lookup x)=true) aX._auto_1) (hk':autoParam (cZ (sc.lookup y)=true) aX._auto_1)
  (hs:autoParam (∀env,swapsWithSole [.Tuple [.Name z p,.Name z' q] k tp] e pos.line env=pure false) dL._auto_1) (hw:autoParam (∀env,swappedStores [.Tuple [.Name z p,.Name z' q] k tp] e env=pure none) dL._auto_1):
  fK C true n sc (.Assign [.Tuple [.Name z p,.Name z' q] k tp] e pos) (M.bind f fun v=>M.bind (qQ x y v) fun _=>M.pure .next):=by
 intro A env G σ s hA I r σ' er
 refine Assign_Tuple ?_ (hs env) (hw env)
 focus (refine elrEAoEEA (M.bind_some er) (fun j e1 r_4=>?_) fun v σ₁ e1 e2=>?_;obtain rfl:=r_4;rotate_left;rotate_left)
 ·refine wpAny_mono (h A env G σ s hA I _ _ e1) (fun v s' q=>?_) fun y s' q=>?_
  ·obtain ⟨_,_,q,_⟩:=q;exact lU q
  ·obtain ⟨j,G',q,z⟩:=q;(obtain rfl:=oD q);exact ⟨_,G',rfl,z⟩
 ·refine wpAny_mono (h A env G σ s hA I _ _ e1) (fun v s' hv=>?_) fun y s' q=>?_
  ·(refine bL hv fun b G' q' st I' rv=>?_;try clear hv)
   (obtain rfl:=eU q')
   focus (refine elrEAoEEA (M.bind_some e2) (fun j e3 r_3=>?_) fun _ σ₂ e3 e4=>?_;obtain rfl:=r_3;rotate_left;rotate_left)
   ·refine wpAny_mono (jL x y hz hz' hk hk' A env G' σ₁ s' _ v hA I' rv _ _ e3) (fun v s' q=>?_) fun y s' q=>?_
    ·obtain ⟨_,_,q,_⟩:=q;exact lU q
    ·obtain ⟨j,G'',q,st',z⟩:=q;(obtain rfl:=oD q);exact ⟨_,G'',rfl,st.trans st',z⟩
   ·(have q_:=aZ e4;clear e4;obtain ⟨rfl,rfl⟩:=q_)
    refine wpAny_mono (jL x y hz hz' hk hk' A env G' σ₁ s' _ v hA I' rv _ _ e3) (fun v s' q=>?_) fun y s' q=>?_
    ·(refine bL q fun _ G'' q st' I'' _=>?_;try clear q);exact ⟨_,G'',rfl,st.trans st',I'',.next⟩
    ·obtain ⟨_,_,q,_⟩:=q;exact nC q
  ·obtain ⟨_,_,q,_⟩:=q;exact nC q
noncomputable def swp (env:Env) (z z':Str):Sem (Option (List Str)):=do
 if env.blockKind != .function then return none
 let names:= [z,z'].filterMap fun id=>if env.kindOf id==some .local && true then some id else none
 if names.length !=2||names.eraseDups.length !=names.length then return none
 return some names
theorem aGb {z z':Str} (hkind:env.scope.kind= .function) (h1:env.kindOf z=some .local) (h2:env.kindOf z'=some .local) (hne:(z==z')=false):swp env z z'=pure (some [z,z']):=by
 have hb:env.blockKind= .function:=by unfold Env.blockKind;rw [hkind];rfl
 have hne3:(z'==z)=false:=by simpa using Ne.symm (show z≠z' by simpa using hne)
 simp [swp,hb,h1,h2,hne3,List.eraseDups,List.eraseDupsBy,List.eraseDupsBy.loop]
noncomputable def aGc (x y:Nat):MV→M Unit
 | .tup [a,b]=>M.bind (bE y b) fun _=>M.bind (bE x a) fun _=>M.pure ()
 | _=>M.fail
set_option tactic.hygienic true in
theorem qR {x y:Nat} {v:MV} {r:R Unit} {σ':St} (e:aGc x y v σ=some (r,σ')):∃a b,v= .tup [a,b]∧r= .ok ()∧(M.bind (bE y b) fun _=>M.bind (bE x a) fun _=>M.pure ()) σ=some (r,σ'):=by
 cases v <;> first|exact aP e|skip
 rename_i l
 rcases l with _|⟨a,_|⟨b,_|⟨c,l⟩⟩⟩ <;> first|exact aP e|exact ⟨_,_,rfl,(aZ e).1.symm,e⟩
noncomputable def aBi:Option NameKind→Bool
 | some .local=>true|_=>false
theorem oH {o:Option NameKind} (h:aBi o=true):o=some .local:=by
 cases o with
 | none=>exact jI h
 | some k=>cases k <;> first|rfl|exact jI h
theorem jM (x y:Nat) {z z':Str} {k k':Nat} {p q tp vp pos:Pos} {v v':Expr} {fs:List (M MV)} (h:dD C true n sc [v,v'] fs) (hz:autoParam (nm x=z) aX._auto_1) (hz':autoParam (nm y=z') aX._auto_1) (hk:autoParam (aBi (sc.lookup x)=true) aX._auto_1) (hk':autoParam (aBi (sc.lookup y)=true) aX._auto_1)
  (hne:autoParam ((nm x==nm y)=false) aX._auto_1) (hw:autoParam (∀env,swappedStores [.Tuple [.Name z p,.Name z' q] k tp] (.Tuple [v,v'] k' vp) env=swp env z z') dL._auto_1)
  (hs:autoParam (∀env,swapsWithSole [.Tuple [.Name z p,.Name z' q] k tp] (.Tuple [v,v'] k' vp) pos.line env=pure false) dL._auto_1):
  fK C true n sc (.Assign [.Tuple [.Name z p,.Name z' q] k tp] (.Tuple [v,v'] k' vp) pos) (M.bind (M.ne (M.bind (aO fs) fun l=>M.lift (pQ l))) fun v=>M.bind (aGc x y v) fun _=>M.pure .next):=by
 subst hz hz'
 intro A env G σ s hA I r σ' er
 have kx:=oH hk
 have ky:=oH hk'
 refine Assign_Tuple_swapped ?_ (hs env) ((hw env).trans (aGb I.ok.kind (I.ok.kinds x _ kx (by decide)) (I.ok.kinds y _ ky (by decide)) hne))
 focus (refine elrEAoEEA (M.bind_some er) (fun j e1 r_2=>?_) fun u σ₁ e1 e2=>?_;obtain rfl:=r_2;rotate_left;rotate_left)
 ·exact (M.ne_exc e1).elim
 refine aJ (M.ne_some e1) fun u' qu e1=>?_
 (obtain rfl:=eU qu)
 refine wpAny_mono (eG h A env G σ s hA I _ _ e1) (fun w s' hw=>?_) fun y s' q=>?_
 ·(refine bL hw fun b G' q' st I' rv=>?_;try clear hw)
  (obtain rfl:=eU q')
  clear e1
  focus (refine elrEAoEEA (M.bind_some e2) (fun j e3 r_1=>?_) fun _ σ₂ e3 e4=>?_;obtain rfl:=r_1;rotate_left;rotate_left)
  ·refine cD (qR e3) fun _ _ _ q _=>?_;exact lU q
  ·(have q_:=aZ e4;clear e4;obtain ⟨rfl,rfl⟩:=q_)
   (refine cD (qR e3) fun a b e_1 _ e3=>?_;obtain rfl:=e_1)
   ·cases rv with| @tup _ vs t h1 h2 h3=>?_
    cases h3 with| @cons _ va _ _ ra h3=>?_
    cases h3 with| @cons _ vb _ _ rb h3=>?_
    cases h3
    rw [show [nm x,nm y].length= [va,vb].toArray.size by simp]
    refine unpackItems_tuple (hA.handled rfl) h1 fun h' he=>?_
    have x':=mD he
    show wpAny _ A (do holding [va] (bindName env (nm y) vb);do holding [] (bindName env (nm x) va);pure ()) _ _ _
    have main:Tr C sc A env G' σ₁ { s' with heap:=h' } (do holding [va] (bindName env (nm y) vb);do holding [] (bindName env (nm x) va);pure ()) (M.bind (bE y b) fun _=>M.bind (bE x a) fun _=>M.pure ()) (fun _ _ _ _=>True):=by
     refine Tr.bind (Tr.holding (eM (I'.ext x') (by rw [ky];rfl) (rb.ext I'.g x'))) fun _ _ G2 σ2 s2 st2 I2 _=>?_
     exact Tr.then_pure (Tr.holding (eM I2 (by rw [kx];rfl) ((ra.ext I'.g x').step (I'.ext x').g st2))) fun _ _=>trivial
    refine wpAny_mono (main _ _ e3) (fun _ s'' q=>?_) fun _ s'' q=>?_
    ·(refine bL q fun _ G'' q st' I'' _=>?_;try clear q);exact ⟨_,G'',rfl,st.trans ((x'.step G').trans st'),I'',.next⟩
    ·obtain ⟨_,_,q,_⟩:=q;exact nC q
 ·obtain ⟨_,_,q,_⟩:=q;exact nC q
end
structure jY (sc sc':SC) (scope:Scope) (loc:List Nat):Prop where
 small:∀x k,sc'.lookup x=some k→x < 85
 kinds:∀x k,sc'.lookup x=some k→scope.names.lookup (nm x)=some k
 three:∀x k,sc'.lookup x=some k→k= .free∨((k= .local∨k= .cell)∧x∈loc)
 free:∀x,sc'.lookup x=some .free→sc.lookup x=some .cell∨sc.lookup x=some .free
 allfree:∀z,(z,NameKind.free)∈scope.names→∃x,sc'.lookup x=some .free∧nm x=z
 globs:∀(i:Nat) z,sc'.gs[i]?=some z→scope.names.lookup z=some .globalImplicit
 kind:scope.kind= .function
 names:∀y∈scope.names,y.2= .local→scope.names.lookup y.1=some .local
 cells:∀y∈scope.names,y.2= .cell→scope.names.lookup y.1=some .cell
 hm:sc'.hm=false
noncomputable def aSi:NameKind→NameKind→Bool
 | .local,.local=>true| .cell,.cell=>true| .free,.free=>true| .globalImplicit,.globalImplicit=>true|_,_=>false
noncomputable def gE (k:NameKind):Option NameKind→Bool
 | some k'=>aSi k k'
 | none=>false
theorem dB {k:NameKind} {o:Option NameKind} (h:gE k o=true):o=some k:=by
 cases o with
 | none=>exact jI h
 | some k'=>cases k <;> cases k' <;> first|rfl|exact jI h
noncomputable def qS (sc sc':SC) (scope:Scope) (loc:List Nat):Bool:=
 (sc'.vs.all fun p=>decide (p.1 < 85) && gE p.2 (scope.names.lookup (nm p.1)) && (match p.2 with
  | .free=>gE .cell (sc.lookup p.1)||gE .free (sc.lookup p.1)
  | .local=>loc.contains p.1
  | .cell=>loc.contains p.1
  | _=>false)) &&
 (scope.names.all fun p=>(match p.2 with
  | .free=>sc'.vs.any fun q=>gE .free (sc'.lookup q.1) && (nm q.1==p.1)
  | .local=>gE .local (scope.names.lookup p.1)
  | .cell=>gE .cell (scope.names.lookup p.1)
  | _=>true)) &&
 (sc'.gs.all fun z=>gE .globalImplicit (scope.names.lookup z)) &&
 (match scope.kind with| .function=> !sc'.hm|_=>false)
theorem iK {α:Type}:∀{l:List (Nat×α)} {x:Nat} {k:α},l.lookup x=some k→(x,k)∈l
 | (y,v)::r,x,k,h=>by
  rw [lookup_cons] at h
  cases hb:x==y with
  | true=>rw [hb] at h;(obtain rfl:=sJ h);rw [beq_iff_eq.mp hb];exact mem_cons_self
  | false=>rw [hb] at h;exact mem_cons_of_mem _ (iK h)
theorem oJ {sc sc':SC} {scope:Scope} {loc:List Nat} (h:qS sc sc' scope loc=true):jY sc sc' scope loc:=by
 unfold qS at h
 rw [Bool.and_eq_true,Bool.and_eq_true,Bool.and_eq_true] at h
 obtain ⟨⟨⟨h1,h2⟩,h3⟩,h4⟩:=h
 rw [all_eq_true] at h1 h2 h3
 have key:∀x k,sc'.lookup x=some k→x < 85∧scope.names.lookup (nm x)=some k∧(k= .free∧(sc.lookup x=some .cell∨sc.lookup x=some .free)∨((k= .local∨k= .cell)∧x∈loc)):=by
  intro x k hx
  have:=h1 (x,k) (iK hx)
  rw [Bool.and_eq_true,Bool.and_eq_true] at this
  obtain ⟨⟨a,b⟩,c⟩:=this
  refine ⟨of_decide_eq_true a,dB b,?_⟩
  cases k <;> simp only at c <;> first|cases c|skip
  ·exact .inr ⟨.inl rfl,by simpa using c⟩
  ·exact .inr ⟨.inr rfl,by simpa using c⟩
  ·rcases Bool.or_eq_true_iff.mp c with c|c
   ·exact .inl ⟨rfl,.inl (dB c)⟩
   ·exact .inl ⟨rfl,.inr (dB c)⟩
 refine ⟨fun x k hx=>(key x k hx).1,fun x k hx=>(key x k hx).2.1,fun x k hx=>(key x k hx).2.2.imp (fun q=>q.1) id,fun x hx=>?_,fun z hz=>?_,fun i z hz=>?_,?_,fun y hy hl=>?_,fun y hy hl=>?_,?_⟩
 ·refine fZ ((key x _ hx).2.2) (fun _ q=>?_) fun q _=>?_
  ·exact q
  ·rcases q with q|q <;> cases q
 ·have:=h2 (z,.free) hz
  simp only [any_eq_true,Bool.and_eq_true] at this
  (refine bG this fun q _ a b=>?_;try clear this)
  exact ⟨q.1,dB a,by simpa using b⟩
 ·exact dB (h3 z (mem_of_getElem? hz))
 ·cases e:scope.kind <;> rw [e] at h4 <;> (exact jI h4)
 ·have:=h2 y hy
  rw [hl] at this
  exact dB this
 ·have:=h2 y hy
  rw [hl] at this
  exact dB this
 ·cases e:scope.kind <;> rw [e] at h4 <;> (simpa using h4)
section
variable {C:Cx} {hd:Bool} {n:Nat} {sc:SC} {A:Around} {env:Env} {G:Gh} {σ:St} {s:Shared} {Q E:Value→Shared→Prop}
noncomputable def kH (cells:List (Str×Addr)):List (Str×NameKind)→List (Str×Addr)→List (Str×Addr)
 | [],acc=>acc
 | (z,k)::r,acc=>if k== .free then kH cells r ((z,(cells.lookup z).getD 0)::acc) else kH cells r acc
theorem kZ (f:Str×NameKind→List (Str×Addr)→Sem (ForInStep (List (Str×Addr))))
  (hf:∀name kind cs,f (name,kind) cs=if kind== .free then (do let a ←cellOf env name;pure (.yield ((name,a)::cs))) else pure (.yield cs)):
  ∀(names:List (Str×NameKind)) (acc:List (Str×Addr)),(∀z,(z,NameKind.free)∈names→∃c,env.cells.lookup z=some c)→forIn names acc f=pure (kH env.cells names acc)
 | [],acc,h=>by rw [List.forIn_nil];rfl
 | (z,k)::r,acc,h=>by
  rw [List.forIn_cons,hf]
  have hr:∀z,(z,NameKind.free)∈r→∃c,env.cells.lookup z=some c:=fun z hz=>h z (mem_cons_of_mem _ hz)
  unfold kH
  split
  ·rename_i hk
   have hk':k= .free:=by simpa using hk
   subst hk'
   obtain ⟨c,hc⟩:=h z mem_cons_self
   unfold cellOf
   rw [hc]
   simp only [pure_bind,Option.getD_some]
   exact kZ f hf r _ hr
  ·simp only [pure_bind]
   exact kZ f hf r _ hr
theorem sH {scope:Scope} (h:∀z,(z,NameKind.free)∈scope.names→∃c,env.cells.lookup z=some c):closureFor scope env=pure (kH env.cells scope.names []):=by
 unfold closureFor
 dsimp only
 rw [kZ (env:=env) _ (fun name kind cs=>by cases hk:kind==NameKind.free <;> simp [hk]) scope.names [] h]
 rfl
theorem hJ {cells:List (Str×Addr)}:∀(names:List (Str×NameKind)) (acc:List (Str×Addr)) (z:Str) (c:Addr),(kH cells names acc).lookup z=some c→acc.lookup z=some c∨((z,NameKind.free)∈names∧(cells.lookup z).getD 0=c)
 | [],acc,z,c,h=> .inl h
 | (y,k)::r,acc,z,c,h=>by
  unfold kH at h
  split at h
  ·rename_i hk
   have hk':k= .free:=by simpa using hk
   subst hk'
   refine kP (hJ r _ z c h) (fun q=>?_) fun q e=>?_
   ·rw [lookup_cons] at q
    cases hb:z==y with
    | true=>rw [hb] at q;(obtain rfl:=sJ q);have:=beq_iff_eq.mp hb;subst this;exact .inr ⟨mem_cons_self,rfl⟩
    | false=>rw [hb] at q;exact .inl q
   ·exact .inr ⟨mem_cons_of_mem _ q,e⟩
  ·refine kP (hJ r _ z c h) (fun q=>?_) fun q e=>?_
   ·exact .inl q
   ·exact .inr ⟨mem_cons_of_mem _ q,e⟩
theorem mQ {cells:List (Str×Addr)}:∀(names:List (Str×NameKind)) (acc:List (Str×Addr)) (z:Str),((z,NameKind.free)∈names∨∃c,acc.lookup z=some c)→∃c,(kH cells names acc).lookup z=some c
 | [],acc,z,h=>by
  rcases h with h|h
  ·cases h
  ·exact h
 | (y,k)::r,acc,z,h=>by
  unfold kH
  split
  ·refine mQ r _ z ?_
   rw [lookup_cons]
   cases hb:z==y with
   | true=>exact .inr ⟨_,rfl⟩
   | false=>
    rcases h with h|h
    ·rcases mem_cons.mp h with q|q
     ·cases q;simp at hb
     ·exact .inl q
    ·exact .inr h
  ·rename_i hk
   refine mQ r _ z ?_
   rcases h with h|h
   ·rcases mem_cons.mp h with q|q
    ·cases q;simp at hk
    ·exact .inl q
   ·exact .inr h
theorem eN:∀(names:List (Str×NameKind)) (m:Nat) (acc:List (Str×Addr)),cellsFrom m names acc=cellsFrom m names []++acc
 | [],m,acc=>rfl
 | (z,k)::r,m,acc=>by
  unfold cellsFrom
  split
  ·rw [eN r (m+1) ((z,m)::acc),eN r (m+1) [(z,m)]];simp
  ·exact eN r m acc
theorem gJ {α:Type} {x:Str}:∀{l m:List (Str×α)},(l++m).lookup x=match l.lookup x with|some c=>some c|none=>m.lookup x
 | [],m=>rfl
 | (y,c)::l,m=>by
  rw [List.cons_append,lookup_cons,lookup_cons]
  cases x==y
  ·exact gJ
  ·rfl
theorem jA:∀(names:List (Str×NameKind)) (m:Nat) (acc:List (Str×Addr)) (z:Str) (c:Addr),(z,c)∈cellsFrom m names acc→(z,c)∈acc∨(z,NameKind.cell)∈names
 | [],m,acc,z,c,h=> .inl h
 | (y,k)::r,m,acc,z,c,h=>by
  unfold cellsFrom at h
  split at h
  ·rename_i hk
   have hk':k= .cell:=by simpa using hk
   rcases jA r _ _ z c h with q|q
   ·rcases mem_cons.mp q with q|q
    ·cases q;subst hk';exact .inr mem_cons_self
    ·exact .inl q
   ·exact .inr (mem_cons_of_mem _ q)
  ·rcases jA r _ _ z c h with q|q
   ·exact .inl q
   ·exact .inr (mem_cons_of_mem _ q)
theorem mE {names:List (Str×NameKind)} {x:Str} {k:NameKind} (hk:k≠ .free) (h:names.lookup x=some k):
  (names.map fun (n,k)=>if (k==NameKind.free && env.scope.kind== .function && env.kindOf n==some .cell) then (n,NameKind.cell) else (n,k)).lookup x=some k:=by
 induction names with
 | nil=>exact aP h
 | cons p r ih=>
  obtain ⟨y,j⟩:=p
  show List.lookup x ((if (j==NameKind.free && env.scope.kind== .function && env.kindOf y==some .cell)=true then (y,NameKind.cell) else (y,j))::_)=_
  rw [lookup_cons] at h
  cases hx:x==y with
  | true=>
   rw [hx] at h
   have hj:j=k:=by injection h
   subst hj
   have:(j==NameKind.free)=false:=by simpa using hk
   rw [this,Bool.false_and,Bool.false_and,if_neg (by decide),lookup_cons,hx]
  | false=>
   rw [hx] at h
   split <;> (rw [lookup_cons,hx];exact ih h)
theorem uN {names:List (Str×NameKind)} {x:Str} (h:names.lookup x=some .free):
  (names.map fun (n,k)=>if (k==NameKind.free && env.scope.kind== .function && env.kindOf n==some .cell) then (n,NameKind.cell) else (n,k)).lookup x=some .free∨
  (names.map fun (n,k)=>if (k==NameKind.free && env.scope.kind== .function && env.kindOf n==some .cell) then (n,NameKind.cell) else (n,k)).lookup x=some .cell:=by
 induction names with
 | nil=>exact aP h
 | cons p r ih=>
  obtain ⟨y,j⟩:=p
  show List.lookup x ((if (j==NameKind.free && env.scope.kind== .function && env.kindOf y==some .cell)=true then (y,NameKind.cell) else (y,j))::_)=_∨List.lookup x ((if (j==NameKind.free && env.scope.kind== .function && env.kindOf y==some .cell)=true then (y,NameKind.cell) else (y,j))::_)=_
  rw [lookup_cons] at h
  cases hx:x==y with
  | true=>
   rw [hx] at h;(obtain rfl:=sJ h)
   split
   ·right;rw [lookup_cons,hx]
   ·left;rw [lookup_cons,hx]
  | false=>
   rw [hx] at h
   split <;> (rw [lookup_cons,hx];exact ih h)
end
section
variable {C:Cx} {hd:Bool} {n:Nat} {sc:SC} {A:Around} {env:Env} {G:Gh} {σ:St} {s:Shared} {Q E:Value→Shared→Prop}
theorem xC {M:Model} {scope:Scope} {globals builtins:Addr} {cl:List (Str×Addr)} {qual:Str} {code:Value} {outer:Env} {Q:Env→Shared→Prop}
  (hQ:Q (newEnv scope s.heap.objs.size globals (cellsFrom (s.heap.objs.size+1) scope.names cl) qual none code (some outer) builtins)
   { s with heap:=pushCells (s.heap.push { cls:= .type "dict",data:= .dict #[] }) scope.names }):
  wpAny M A (newFunctionEnv scope globals cl [] qual none code (some outer) builtins) Q E s:=by
 simp only [newFunctionEnv,Option.isSome_some,if_true]
 refine wB (wpAny_alloc ?_)
 refine wB (wpAny_layCells _ (fun name kind cells=>by cases hkc:kind==NameKind.cell <;> simp [hkc]) _ _ _ _ ?_)
 rw [show ({ s with heap:=s.heap.push { cls:= .type "dict",data:= .dict #[] } }:Shared).heap.objs.size=s.heap.objs.size+1 from Heap.size_push ..]
 simp only [List.forIn_nil]
 exact wB (wP (wP hQ))
noncomputable def iV (loc:List Nat):List (Nat×MV)→List (Nat×MV)
 | []=> []
 | p::r=>match loc.any (Nat.beq p.1) with
  | true=>iV loc r
  | false=>p::iV loc r
theorem eO {loc:List Nat} {x:Nat}:∀{r:List (Nat×MV)},(x∈loc→(iV loc r).lookup x=none)∧(x∉loc→(iV loc r).lookup x=r.lookup x)
 | []=>⟨fun _=>rfl,fun _=>rfl⟩
 | p::r=>by
  refine elA (@eO loc x r) fun ih1 ih2=>?_
  obtain ⟨y,v⟩:=p
  unfold iV
  cases h:loc.any (Nat.beq y) with
  | true=>
   simp only
   refine ⟨ih1,fun hx=>?_⟩
   have hy:x≠y:=by
    rintro rfl
    rw [any_eq_true] at h
    (refine aJ h fun z hz e=>?_;try clear h)
    exact hx (Nat.eq_of_beq_eq_true e ▸ hz)
   rw [lookup_cons,beq_eq_false_iff_ne.mpr hy];exact ih2 hx
  | false=>
   simp only
   constructor
   ·intro hx
    have hy:x≠y:=by
     rintro rfl
     rw [any_eq_false] at h
     exact h x hx (Nat.beq_refl x)
    rw [lookup_cons,beq_eq_false_iff_ne.mpr hy];exact ih1 hx
   ·intro hx
    rw [lookup_cons,lookup_cons]
    cases x==y
    ·exact ih2 hx
    ·rfl
noncomputable def lA (G:Gh) (D L:Addr) (cs:List (Str×Addr)):Gh where
 W:=fun a=>G.W a∨a=D∨a=L∨∃x,cs.lookup x=some a
 own:=fun a=>a∈G.phi∨a=L∨∃x,cs.lookup x=some a
 frs:=G.frs
 phi:=G.phi
noncomputable def aGd (G:Gh):Gh:=⟨G.W,fun a=>a∈G.phi,G.frs,G.phi⟩
theorem Inv.phi_own (I:Inv C sc A env G σ s) {a:Addr} (h:a∈G.phi):G.own a:=by
 obtain ⟨i,hi,rfl⟩:=getElem_of_mem h
 exact I.cells.own i _ (getElem?_eq_getElem hi)
theorem Inv.gphi (I:Inv C sc A env G σ s):GOk (aGd G) s.heap:=⟨fun a ha=>I.g.own _ (I.phi_own ha),I.g.frs,I.g.lt⟩
noncomputable def fP (scope:Scope) (L:Addr) (env:Env):Env:=compEnvC scope (cellsFrom (L+1) scope.names (kH env.cells scope.names [])) L env
structure iW (scope:Scope) (s:Shared) (env:Env) (D:Addr) (k:Nat) (L:Addr) (s₁:Shared):Prop where
 eD:D=s.heap.objs.size
 eL:L=s.heap.objs.size+1
 keep:∀b o,s.heap.get? b=some o→s₁.heap.get? b=some o
 gens:s₁.gens=s.gens
 os:s₁.os=s.os
 ns:s₁.heap.Ns L fun _=>none
 acc:s₁.heap.get? D=some { cls:= .type "list",data:= .seq #[] k }
 ok:CellsOk s₁.heap (L+1) (cellsFrom (L+1) scope.names [])
theorem zI (scope:Scope) (s:Shared) (env:Env):
  iW scope s env s.heap.objs.size 0 (s.heap.objs.size+1) { s with heap:=pushCells ((s.heap.push { cls:= .type "list",data:= .seq #[] }).push { cls:= .type "dict",data:= .dict #[] }) scope.names }:=by
 have ok:=cellsFrom_ok scope.names ((s.heap.push { cls:= .type "list",data:= .seq #[] }).push { cls:= .type "dict",data:= .dict #[] }) (s.heap.objs.size+1+1) [] ⟨fun _ _ hm=>(nomatch hm),List.Pairwise.nil⟩ (by rw [Heap.size_push,Heap.size_push];exact Nat.le_refl _)
 rw [Heap.size_push,Heap.size_push] at ok
 refine ⟨rfl,rfl,fun b o e=>pushCells_keeps _ _ b o (Heap.get?_push_of_some _ (Heap.get?_push_of_some _ e)),rfl,rfl,?_,?_,ok⟩
 ·have:=(Heap.Ns.new (s.heap.push { cls:= .type "list",data:= .seq #[] }) (.type "dict")).keeps (pushCells_keeps scope.names _)
  rw [Heap.size_push] at this
  exact this
 ·exact pushCells_keeps _ _ _ _ (Heap.get?_push_of_some _ (Heap.get?_push_size _ rfl))
theorem jZ {sc':SC} {scope:Scope} {loc:List Nat} {D L:Addr} {k:Nat} {s₁:Shared} (S:jY sc sc' scope loc) (I:Inv C sc A env G σ s) (x:iW scope s env D k L s₁):
  (∀y,sc'.lookup y=some .cell→∃c,(fP scope L env).cells.lookup (nm y)=some c∧(cellsFrom (L+1) scope.names []).lookup (nm y)=some c)∧
  (∀y,sc'.lookup y=some .free→∃c,(fP scope L env).cells.lookup (nm y)=some c∧env.cells.lookup (nm y)=some c)∧
  (∀z c,(fP scope L env).cells.lookup z=some c→(cellsFrom (L+1) scope.names []).lookup z=some c∨(∃y,sc'.lookup y=some .free∧nm y=z∧env.cells.lookup z=some c∧∃o,s.heap.get? c=some o))∧
  (∀z c,(cellsFrom (L+1) scope.names []).lookup z=some c→s₁.heap.IsCell c none∧L < c):=by
 have e:(fP scope L env).cells=cellsFrom (L+1) scope.names []++kH env.cells scope.names []:=eN ..
 have fr:∀y,sc'.lookup y=some .free→∃c,env.cells.lookup (nm y)=some c∧∃o,s.heap.get? c=some o:=fun y hy=>by
  obtain ⟨c,ov,hc,⟨o,ho,_⟩,_⟩:∃c ov,env.cells.lookup (nm y)=some c∧s.heap.IsCell c ov∧_:=by
   rcases S.free y hy with q|q
   ·exact I.vars.cel y _ q (.inl rfl)
   ·exact I.vars.cel y _ q (.inr rfl)
  exact ⟨c,hc,o,ho⟩
 refine ⟨fun y hy=>?_,fun y hy=>?_,fun z c hz=>?_,fun z c hz=>?_⟩
 ·refine elE (dP scope.names (L+1) [] (nm y) (.inr (eY (S.kinds y _ hy)))) fun c hc=>?_
  exact ⟨c,by rw [e,gJ,hc],hc⟩
 ·refine aJ (fr y hy) fun c hc _=>?_
  refine ⟨c,?_,hc⟩
  rw [e,gJ]
  cases q:(cellsFrom (L+1) scope.names []).lookup (nm y) with
  | some c'=>
   rcases jA _ _ _ _ _ (mem_of_lookup q) with w|w
   ·cases w
   ·have:=S.cells _ w rfl
    rw [S.kinds y _ hy] at this;cases this
  | none=>
   simp only
   refine elE (mQ (cells:=env.cells) scope.names [] (nm y) (.inl (mem_of_lookup (S.kinds y _ hy)))) fun c' hc'=>?_
   refine kP (hJ _ _ _ _ hc') (fun w=>?_) fun _ w=>?_
   ·exact aP w
   ·rw [hc] at w;rw [hc',←w];rfl
 ·rw [e,gJ] at hz
  cases q:(cellsFrom (L+1) scope.names []).lookup z with
  | some c'=>rw [q] at hz;(obtain rfl:=sJ hz);exact .inl rfl
  | none=>
   rw [q] at hz
   refine kP (hJ _ _ _ _ hz) (fun w=>?_) fun w1 w2=>?_
   ·exact aP w
   ·(refine aJ (S.allfree z w1) fun y hy e_1=>?_;obtain rfl:=e_1)
    refine aJ (fr y hy) fun c' hc' ho=>?_
    rw [hc'] at w2
    have:c'=c:=w2
    subst this
    exact .inr ⟨y,hy,rfl,hc',ho⟩
 ·have:=x.ok.empty z c (mem_of_lookup hz)
  exact ⟨this.1,this.2⟩
theorem uO {sc':SC} {scope:Scope} {loc:List Nat} (S:jY sc sc' scope loc) {y:Nat} {k:NameKind} (h:sc'.lookup y=some k) {L:Addr}:
  (fP scope L env).kindOf (nm y)=some k∨(k= .free∧(fP scope L env).kindOf (nm y)=some .cell):=by
 have hk:=S.kinds y k h
 refine kP (S.three y k h) (fun q=>?_) fun q _=>?_
 ·subst q
  exact (uN (env:=env) hk).imp id fun w=>⟨rfl,w⟩
 ·exact .inl (mE (env:=env) (by rcases q with rfl|rfl <;> decide) hk)
theorem lL {sc':SC} {scope:Scope} {loc:List Nat} {D L:Addr} {k:Nat} {s₁:Shared} (S:jY sc sc' scope loc) (I:Inv C sc A env G σ s) (x:iW scope s env D k L s₁):
  (∀a,(a=D∨a=L∨∃z,(cellsFrom (L+1) scope.names []).lookup z=some a)→s.heap.get? a=none)∧bB (aGd G) s (lA G D L (cellsFrom (L+1) scope.names [])) s₁:=by
 refine gW (jZ S I x) fun c1 c2 c3 c4=>?_
 have gt:∀a,s.heap.objs.size≤a→s.heap.get? a=none:=fun a h=>Heap.get?_none_of_le h
 have newW:∀a,(a=D∨a=L∨∃z,(cellsFrom (L+1) scope.names []).lookup z=some a)→s.heap.get? a=none:=fun a h=>by
  rcases h with rfl|rfl|⟨z,h⟩
  ·exact gt _ (by rw [x.eD];exact Nat.le_refl _)
  ·exact gt _ (by rw [x.eL];exact Nat.le_succ _)
  ·exact gt a (by have:=(c4 z a h).2;rw [x.eL] at this;exact Nat.le_of_lt (Nat.lt_of_succ_lt this))
 exact ⟨newW,fun a o e _ _=>x.keep a o e,fun a o e _=>⟨o.slots,x.keep a o e⟩,fun a o e=>⟨o,x.keep a o e⟩,fun _ q=> .inl q,fun a q=>q.elim .inl fun q=> .inr (newW a q),fun _ q=> .inl q,fun a q=>q.elim .inl fun q=> .inr (newW a (.inr q)),rfl,⟨[],by simp [lA,aGd]⟩,x.gens,x.os⟩
theorem aKw {sc':SC} {scope:Scope} {loc:List Nat} {D L:Addr} {k:Nat} {s₁:Shared} (S:jY sc sc' scope loc) (I:Inv C sc A env G σ s) (x:iW scope s env D k L s₁) {y:MV} {v:Value} (r:aI G s.heap y v):
  aI (lA G D L (cellsFrom (L+1) scope.names [])) s₁.heap y v:=
 (aI.weakW (G:=G) (G':=aGd G) (fun _ q=>q) rfl r).step I.gphi (lL S I x).2
theorem zJ {sc':SC} {scope:Scope} {loc:List Nat} {D L:Addr} {k:Nat} {s₁:Shared} (S:jY sc sc' scope loc) (I:Inv C sc A env G σ s) (x:iW scope s env D k L s₁):
  Inv C sc' A (fP scope L env) (lA G D L (cellsFrom (L+1) scope.names [])) ⟨iV loc σ.r,σ.H⟩ s₁:=by
 refine gW (jZ S I x) fun c1 c2 c3 c4=>?_
 have X:Ext s s₁:=⟨x.keep,x.gens,x.os⟩
 have J:=I.ext X
 have gt:∀a,s.heap.objs.size≤a→s.heap.get? a=none:=fun a h=>Heap.get?_none_of_le h
 have fD:s.heap.get? D=none:=gt D (by rw [x.eD];exact Nat.le_refl _)
 have fL:s.heap.get? L=none:=gt L (by rw [x.eL];exact Nat.le_succ _)
 have fc:∀z c,(cellsFrom (L+1) scope.names []).lookup z=some c→s.heap.get? c=none:=fun z c h=>gt c (by have:=(c4 z c h).2;rw [x.eL] at this;exact Nat.le_of_lt (Nat.lt_of_succ_lt this))
 have newW:∀a,(a=D∨a=L∨∃z,(cellsFrom (L+1) scope.names []).lookup z=some a)→s.heap.get? a=none:=fun a h=>by
  rcases h with rfl|rfl|⟨z,h⟩
  ·exact fD
  ·exact fL
  ·exact fc z a h
 have noW:∀a o,s.heap.get? a=some o→¬G.W a→¬(lA G D L (cellsFrom (L+1) scope.names [])).W a:=fun a o e n q=>by
  rcases q with q|q
  ·exact n q
  ·rw [newW a q] at e;exact aP e
 have mv:∀{y:MV} {v:Value},aI G s.heap y v→aI (lA G D L (cellsFrom (L+1) scope.names [])) s₁.heap y v:=fun r=>aKw S I x r
 have mvs:∀{y:List MV} {v:List Value},aK G s.heap y v→aK (lA G D L (cellsFrom (L+1) scope.names [])) s₁.heap y v:=by
  intro y v r
  refine aK.mk' r.length fun i a b h1 h2=>?_
  refine aJ (r.get h1) fun w hw rw'=>?_
  rw [h2] at hw;(obtain rfl:=sJ hw)
  exact mv rw'
 refine ⟨J.x0,?_,J.gens,J.os,⟨S.kind,I.ok.glob,I.ok.blt,S.small,fun y k' h=>uO S h,?_,I.ok.frame⟩,⟨?_,?_,?_⟩,⟨?_,?_,?_,?_,?_⟩,⟨I.cells.len,?_,I.cells.inj,I.cells.nfr,?_⟩,?_,J.lnk,J.frs,fun q=>by rw [S.hm] at q;exact jI q⟩
 ·intro a q
  rcases q with q|q
  ·exact I.baseW a q
  ·exact lJ I (newW a q)
 ·intro i z hz
  exact mE (env:=env) (by decide) (S.globs i z hz)
 ·intro a q
  rcases q with q|q
  ·obtain ⟨i,hi,rfl⟩:=getElem_of_mem q
   exact .inl (I.g.own _ (I.cells.own i _ (getElem?_eq_getElem hi)))
  ·exact .inr (.inr q)
 ·intro a q;exact .inl (I.g.frs a q)
 ·intro a q
  rcases q with q|rfl|rfl|⟨z,q⟩
  ·exact J.g.lt a q
  ·exact ⟨_,x.acc⟩
  ·refine iD (x.ns) fun o _ _ e _=>?_;exact ⟨o,e⟩
  ·refine aJ ((c4 z a q).1) fun o e _=>?_;exact ⟨o,e⟩
 ·refine ⟨_,x.ns,fun y z hy hz=>?_⟩
  have:y∈loc:=kP (S.three y _ hy) (fun q=>by cases q) fun _ q=>q
  rw [show ({ r:=iV loc σ.r,H:=σ.H }:St).r.lookup y=none from (eO).1 this] at hz;exact aP hz
 ·intro y k' hy hk
  rcases hk with rfl|rfl
  ·refine aJ (c1 y hy) fun c h1 h2=>?_
   refine ⟨c,none,h1,(c4 _ c h2).1,fun z hz=>?_⟩
   have:y∈loc:=kP (S.three y _ hy) (fun q=>by cases q) fun _ q=>q
   rw [show ({ r:=iV loc σ.r,H:=σ.H }:St).r.lookup y=none from (eO).1 this] at hz;exact aP hz
  ·refine aJ (c2 y hy) fun c h1 h2=>?_
   obtain ⟨c',ov,hc',hi,hr⟩:∃c ov,env.cells.lookup (nm y)=some c∧s.heap.IsCell c ov∧∀z,σ.r.lookup y=some z→∃v,ov=some v∧aI G s.heap z v:=by
    rcases S.free y hy with q|q
    ·exact I.vars.cel y _ q (.inl rfl)
    ·exact I.vars.cel y _ q (.inr rfl)
   rw [h2] at hc';(obtain rfl:=sJ hc')
   refine ⟨c,ov,h1,hi.keeps x.keep,fun z hz=>?_⟩
   by_cases hl:y∈loc
   ·rw [show ({ r:=iV loc σ.r,H:=σ.H }:St).r.lookup y=none from (eO).1 hl] at hz;exact aP hz
   ·rw [show ({ r:=iV loc σ.r,H:=σ.H }:St).r.lookup y=σ.r.lookup y from (eO).2 hl] at hz
    refine aJ (hr z hz) fun v hv r=>?_
    exact ⟨v,hv,mv r⟩
 ·exact .inr (.inl rfl)
 ·intro y c hy hc
  refine aJ (c1 y hy) fun c' h1 h2=>?_
  rw [hc] at h1;(obtain rfl:=sJ h1)
  exact .inr (.inr ⟨_,h2⟩)
 ·intro y z c hy hz hy' hz'
  refine elrZoEAAAE (c3 _ c hy) (fun q=>?_) fun y1 _ e1 q o ho=>?_ <;> refine elrZoEAAAE (c3 _ c hz) (fun w=>?_) fun z1 _ e2 w o' ho'=>?_
  ·exact uD hy' hz' (name_of_addr x.ok.apart (mem_of_lookup q) (mem_of_lookup w))
  ·rw [fc _ c q] at ho';exact aP ho'
  ·rw [fc _ c w] at ho;exact aP ho
  ·exact I.vars.apart y z c q w hy' hz'
 ·intro m a h
  exact .inl (mem_of_getElem? h)
 ·intro m a y h e
  refine aJ (I.cells.at' m a y h e) fun o ho r=>?_
  exact ⟨o,x.keep a o ho,r.mono (fun _ _ z=>mv z) fun _ _ q=>q⟩
 ·intro m a h
  refine elE (I.g.lt a (I.g.own a (I.cells.own m a h))) fun o ho=>?_
  refine ⟨fun e=>?_,fun y c hy hc e=>?_⟩
  ·have:a=L:=e
   rw [this,fL] at ho;exact aP ho
  ·refine aJ (c1 y hy) fun c' h1 h2=>?_
   rw [hc] at h1;(obtain rfl:=sJ h1)
   rw [e,fc _ c h2] at ho;exact aP ho
end
section
variable {C:Cx} {hd:Bool} {n:Nat} {sc:SC} {A:Around} {env:Env} {G:Gh} {σ:St} {s:Shared} {Q E:Value→Shared→Prop}
noncomputable def kI (nx:Nxt) (tg:MV→M Unit) (cond:M Bool) (elt:M MV):Nat→Nat→List MV→M (List MV)
 | 0,_,_=>M.fail
 | k+1,i,acc=>fun σ=>match nx i σ.H with
  | none=>none
  | some none=>if cC acc.length then some (.ok acc,σ) else none
  | some (some x)=>(M.bind (M.ne (tg x)) fun _=>M.bind (M.ne cond) fun b=>match b with
   | true=>M.bind (M.ne elt) fun y=>kI nx tg cond elt k (i+1) (acc++ [y])
   | false=>kI nx tg cond elt k (i+1) acc) σ
noncomputable def dH (loc:List Nat) (fi:M (Nat×Nxt)) (tg:MV→M Unit) (cond:M Bool) (elt:M MV):M (List MV):=fun σ=>okO (M.ne fi σ) fun p σ₁=>okO (kI p.2 tg cond elt p.1 0 [] ⟨iV loc σ₁.r,σ₁.H⟩) fun l σ₂=>some (.ok l,⟨σ₁.r,σ₂.H⟩)
theorem oK {nx:Nxt} {tg:MV→M Unit} {cond:M Bool} {elt:M MV}:∀{k i:Nat} {acc l:List MV} {σ σ':St},kI nx tg cond elt k i acc σ=some (.ok l,σ')→acc.length≤1000000
 | 0,_,_,_,_,_,e=>by exact aP e
 | k+1,i,acc,l,σ,σ',e=>by
  unfold kI at e
  split at e
  ·exact (nof e).elim
  ·split at e
   ·rename_i hz;exact bN.mp hz
   ·exact (nof e).elim
  ·refine elrEAoEEA (M.bind_some e) (fun j e3 q=>?_) fun _ σ₃ e3 e4=>?_
   ·exact nC q
   refine elrEAoEEA (M.bind_some e4) (fun j e5 q=>?_) fun b σ4 e5 e6=>?_
   ·exact nC q
   cases b with
   | false=>exact oK e6
   | true=>
    refine elrEAoEEA (M.bind_some e6) (fun j e7 q=>?_) fun z σ5 e7 e8=>?_
    ·exact nC q
    have:=oK e8
    rw [length_append] at this
    exact Nat.le_trans (Nat.le_add_right ..) this
noncomputable def zK (C:Cx) (n:Nat) (sc:SC) (ifs:List Expr) (f:M Bool):Prop:=
 ∀A env G σ s,AOk true n A→Inv C sc A env G σ s→Tr C sc A env G σ s (forIn ifs true fun c r=>if r=true then do let ok ←isTrue c env (eval c env);pure (ForInStep.yield ok) else pure (ForInStep.yield r)) f (fun _ _ x v=>x=v)
theorem dR:zK C n sc [] (M.pure true):=fun A env G σ s hA I=>by
 rw [List.forIn_nil];exact Tr.pure I rfl
theorem fQ {c:Expr} {f:M Bool} (h:mL C true n sc c f):zK C n sc [c] f:=fun A env G σ s hA I=>by
 intro r σ' e
 exact wpAny_tests_one (h A env G σ s hA I r σ' e)
theorem uP {elt target iter:Expr} {ifs:List Expr} {scope:Scope} {pos:Pos} {it acc:Value} {env:Env} {R:Result→Shared→Prop} {M:Program×World} (J:Nat→Shared→Prop)
  (turn:∀n s,J n s→wpAny (model M.1 M.2) A (pyNext it) (fun r s₁=>match r with
   | none=>R (.ok .next) s₁
   | some v=>wpAny (model M.1 M.2) A (letOwnedTupleGo target it v) (fun _ s₁=>wpAny (model M.1 M.2) A (assign target env v) (fun _ s₂=>
     wpAny (model M.1 M.2) A (forIn ifs true fun c r=>if r=true then do let ok ←isTrue c env (eval c env);pure (ForInStep.yield ok) else pure (ForInStep.yield r)) (fun ok s₃=>
      if ok=true then wpAny (model M.1 M.2) A (eval elt env) (fun x s₄=>
       wpAny (model M.1 M.2) A (call (.builtin "list.append") [acc,x]) (fun _ s₅=>∃m,m < n∧J m s₅) (notedBy (model M.1 M.2) A env fun e s'=>R (.error e) s') s₄) (notedBy (model M.1 M.2) A env fun e s'=>R (.error e) s') s₃
      else ∃m,m < n∧J m s₃) (notedBy (model M.1 M.2) A env fun e s'=>R (.error e) s') s₂) (notedBy (model M.1 M.2) A env fun e s'=>R (.error e) s') s₁) (notedBy (model M.1 M.2) A env fun e s'=>R (.error e) s') s₁)
       (notedBy (model M.1 M.2) A env fun e s'=>R (.error e) s') s)
  (n:Nat) (h:J n s):
  codeAny (model M.1 M.2) A (.compLoop (.ListComp elt [⟨target,iter,ifs,0⟩] scope pos) 0 it acc env) R s:=by
 refine codeAny_loop rfl J (fun n s hI=>?_) n h
 show wpAny _ A ((compTurn (.ListComp elt [⟨target,iter,ifs,0⟩] scope pos) 0 it acc env).onRaise (fun x=>do noteFrame x env;theTreesLotGoes x)) _ _ s
 refine wpAny_noted ?_
 rw [compTurn_list]
 refine wB (wpAny_standAt (wB (wpAny_mono (turn n s hI) (fun r s₁ h₁=>?_) fun _ _ h'=>h')))
 cases r with
 | none=>exact wP h₁
 | some v=>
  refine wB (wpAny_mono h₁ (fun _ s₁ h₁=>?_) fun _ _ h'=>h')
  refine wB (wpAny_mono h₁ (fun _ s₂ h₂=>wB (wpAny_mono h₂ (fun ok s₃ h₃=>?_) fun _ _ h'=>h')) fun _ _ h'=>h')
  cases ok with
  | false=>exact wP ⟨rfl,h₃⟩
  | true=>
   exact wB (wB (wpAny_mono h₃ (fun x s₄ h₄=>wB (wpAny_mono h₄ (fun _ s₅ h₅=>wP (wP ⟨rfl,h₅⟩)) fun _ _ h'=>h')) fun _ _ h'=>h'))
theorem Inv.ncell_phi (I:Inv C sc A env G σ s) {c:Addr} {ov:Option Value} (h:s.heap.IsCell c ov):c∉G.phi:=fun q=>by
 obtain ⟨m,hm,e⟩:=getElem_of_mem q
 have hp:G.phi[m]?=some c:=by rw [getElem?_eq_getElem hm,e]
 obtain ⟨x0,hx0⟩:=get?_some_of_lt (show m < σ.H.length by rw [←I.cells.len];exact hm)
 refine aJ (I.cells.at' m c x0 hp hx0) fun o0 ho0 r0=>?_
 (refine aJ h fun o e1 e2=>?_;try clear h)
 rw [ho0] at e1;(obtain rfl:=sJ e1)
 exact r0.ncell _ e2
structure pU (X:List Addr) (G:Gh) (s:Shared) (G':Gh) (s':Shared):Prop where
 keep:∀a o,a∉X→s.heap.get? a=some o→¬G.own a→¬G.frs a→s'.heap.get? a=some o
 slots:∀a o,a∉X→s.heap.get? a=some o→¬G.own a→∃sl,s'.heap.get? a=some { o with slots:=sl }
 alive:∀a o,s.heap.get? a=some o→∃o',s'.heap.get? a=some o'
 W:∀a,G.W a→G'.W a
 W':∀a,G'.W a→G.W a∨s.heap.get? a=none
 own:∀a,G.own a→G'.own a
 own':∀a,G'.own a→G.own a∨s.heap.get? a=none
 frs:G'.frs=G.frs
 phi:∃l,G'.phi=G.phi++l∧∀a∈l,s.heap.get? a=none
 gens:s'.gens=s.gens
 os:s'.os=s.os
theorem pU.refl (X:List Addr) (G:Gh) (s:Shared):pU X G s G s:=
 let x:=bB.refl G s
 ⟨fun a o _=>x.keep a o,fun a o _=>x.slots a o,x.alive,x.W,x.W',x.own,x.own',x.frs,x.phi,x.gens,x.os⟩
theorem pU.step {X:List Addr} {G G' G'':Gh} {s s' s'':Shared} (x:pU X G s G' s') (y:bB G' s' G'' s'') (hX:∀a∈X,¬G'.own a):pU X G s G'' s'':=by
 have no:∀a o,s.heap.get? a=some o→¬G.own a→¬G'.own a:=fun a o e n m=>by
  rcases x.own' a m with q|q
  ·exact n q
  ·rw [e] at q;exact iS q
 have dead:∀a,s'.heap.get? a=none→s.heap.get? a=none:=fun a q=>by
  cases e:s.heap.get? a with
  | none=>rfl
  | some o=>obtain ⟨o',e'⟩:=x.alive a o e;rw [e'] at q;exact iS q
 refine ⟨fun a o h e n f=>y.keep a o (x.keep a o h e n f) (no a o e n) (by rw [x.frs];exact f),fun a o h e n=>?_,fun a o e=>?_,fun a q=>y.W a (x.W a q),fun a q=>?_,fun a q=>y.own a (x.own a q),fun a q=>?_,y.frs.trans x.frs,?_,y.gens.trans x.gens,y.os.trans x.os⟩
 ·obtain ⟨sl,e'⟩:=x.slots a o h e n
  obtain ⟨sl',e''⟩:=y.slots a _ e' (no a o e n)
  exact ⟨sl',e''⟩
 ·obtain ⟨o',e'⟩:=x.alive a o e
  exact y.alive a o' e'
 ·rcases y.W' a q with q|q
  ·exact x.W' a q
  ·exact .inr (dead a q)
 ·rcases y.own' a q with q|q
  ·exact x.own' a q
  ·exact .inr (dead a q)
 ·refine aJ (x.phi) fun l e f=>?_
  refine aJ (y.phi) fun l' e' f'=>?_
  refine ⟨l++l',by rw [e',e,append_assoc],fun a ha=>?_⟩
  rcases mem_append.mp ha with q|q
  ·exact f a q
  ·exact dead a (f' a q)
theorem pU.mod {X wr:List Addr} {G G':Gh} {s s' s'':Shared} (x:pU X G s G' s') (m:Mod wr s' s'') (hX:∀a∈wr,a∈X) (al:∀b∈wr,∃o,s''.heap.get? b=some o):pU X G s G' s'':=
 ⟨fun a o h e n f=>m.keep a o (fun q=>h (hX a q)) (x.keep a o h e n f),fun a o h e n=>let ⟨sl,z⟩:=x.slots a o h e n;⟨sl,m.keep a _ (fun q=>h (hX a q)) z⟩,
  fun a o e=>by
   by_cases h:a∈wr
   ·exact al a h
   ·obtain ⟨o',z⟩:=x.alive a o e;exact ⟨o',m.keep a o' h z⟩,
  x.W,x.W',x.own,x.own',x.frs,x.phi,m.gens.trans x.gens,m.os.trans x.os⟩
structure Acc (sc:SC) (env:Env) (D:Addr) (wr:List Addr) (G:Gh) (s:Shared) (l:List MV):Prop where
 side:eS sc env G [D]
 nwr:D∉wr
 isl:∃vs k,IsL s.heap D (List.toArray vs) k∧aK G s.heap l vs
theorem Acc.step {D:Addr} {wr:List Addr} {G':Gh} {s':Shared} {l:List MV} (x:Acc sc env D wr G s l) (g:GOk G s.heap) (st:bB G s G' s'):Acc sc env D wr G' s' l:=by
 refine cJ (x.isl) fun vs kk h1 h2=>?_
 have hd:=(x.side D (mem_singleton.mpr rfl)).2
 exact ⟨x.side.step g st,x.nwr,vs,kk,st.keep D _ h1 hd.own hd.frs,h2.step g st⟩
theorem Acc.mod {D:Addr} {wr:List Addr} {s':Shared} {l:List MV} (x:Acc sc env D wr G s l) (hW:∀b∈wr,G.W b) (m:Mod wr s s'):Acc sc env D wr G s' l:=by
 refine cJ (x.isl) fun vs kk h1 h2=>?_
 exact ⟨x.side,x.nwr,vs,kk,m.keep D _ x.nwr h1,h2.keep (m.vk hW)⟩
theorem zL (hh:A.handled=none) {D:Addr} {wr:List Addr} {l:List MV} {y:MV} {v:Value} {Q:Value→Shared→Prop} (x:Acc sc env D wr G s l) (I:Inv C sc A env G σ s) (hy:aI G s.heap y v) (hz:l.length≤1000000)
  (h:∀s',Inv C sc A env G σ s'→Mod [D] s s'→Acc sc env D wr G s' (l++ [y])→Q .none s'):wpAny (model C.prog C.w) A (call (.builtin "list.append") [.ref D,v]) Q E s:=by
 refine cJ (x.isl) fun vs k h1 h2=>?_
 have q:=h1.update fun z=>z.push v
 rw [show vs.toArray.push v=(vs++ [v]).toArray by simp] at q
 have md:Mod [D] s { s with heap:=s.heap.update D (Obj.mapSeq fun z=>z.push v),toks:=s.toks }:=⟨fun b o hb e=>((Heap.SameBut.update ..).2 b fun q=>hb (q ▸ mem_singleton.mpr rfl)).trans e,rfl,rfl⟩
 have hW:∀b∈ [D],G.W b:=fun b hb=>(x.side b hb).1
 refine call_meets PySem.F.slot_list_append ⟨_,h1,rfl⟩ PySem.F.entry_list_append (PySem.F.args_list_append_2 _ _) (list_append D vs.toArray k _ (iU (by rw [←h2.length];exact hz))) ⟨h1,?_⟩
 exact h _ (Inv.mod hh I x.side md fun b hb=>by rw [mS hb];exact ⟨_,q⟩) md ⟨x.side,x.nwr,vs++ [v],_,q,(h2.append (.cons hy .nil)).keep (md.vk hW)⟩
set_option tactic.hygienic true in
theorem aDx {elt target iter:Expr} {ifs:List Expr} {scope:Scope} {pos:Pos} {D Ia:Addr} {wr:List Addr} {okT:Expr→Bool} {p:Nat×Nxt} {Pos:Nat→Gh→Heap→Prop} {tg:MV→M Unit} {cond:M Bool} {f:M MV} {R:Result→Shared→Prop} {l:List MV} {σ':St}
  (ht:wV C n sc target tg) (hc:zK C n sc ifs cond) (he:aV C true n sc elt f) (hT:okT target=true) (hA:AOk true n A) (I:Inv C sc A env G σ s) (sd:eS sc env G wr) (it:fV C A Ia wr okT p.2 Pos) (hp:Pos 0 G s.heap)
  (ac:Acc sc env D wr G s []) (e:kI p.2 tg cond f p.1 0 [] σ=some (.ok l,σ'))
  (h:∀G' s₁ s₂,pU (D::wr) G s G' s₁→Inv C sc A env G' σ' s₁→eS sc env G' wr→Acc sc env D wr G' s₁ l→l.length≤1000000→Mod wr s₁ s₂→R (.ok .next) s₂):
  codeAny (model C.prog C.w) A (.compLoop (.ListComp elt [⟨target,iter,ifs,0⟩] scope pos) 0 (.ref Ia) (.ref D) env) R s:=by
 refine uP (M:=(C.prog,C.w)) (fun m s'=>∃i G' σ₂ acc,kI p.2 tg cond f m i acc σ₂=some (.ok l,σ')∧pU (D::wr) G s G' s'∧Inv C sc A env G' σ₂ s'∧eS sc env G' wr∧Acc sc env D wr G' s' acc∧Pos i G' s'.heap) ?_ p.1
  ⟨0,G,σ,[],e,pU.refl _ G s,I,sd,ac,hp⟩
 rintro m s' ⟨i,G',σ₂,acc,ef,up,I',sd',ac',hp'⟩
 have nX:∀{G':Gh} {s':Shared} {acc:List MV},eS sc env G' wr→Acc sc env D wr G' s' acc→∀a∈D::wr,¬G'.own a:=fun sd ac a ha=>by
  rcases mem_cons.mp ha with rfl|ha
  ·exact (ac.side a (mem_singleton.mpr rfl)).2.own
  ·exact (sd a ha).2.own
 cases m with
 | zero=>exact aP ef
 | succ m=>
  unfold kI at ef
  split at ef
  ·exact aP ef
  ·rename_i hn
   split at ef
   ·rename_i hz
    cases ef
    exact it.fin i G' σ'.H s' _ _ I'.cells sd'.g hp' hn fun s₃ md=>h G' s' s₃ up I' sd' ac' (bN.mp hz) md
   ·exact aP ef
  ·rename_i y hn
   refine it.turn i G' σ₂.H s' y target _ _ hT I'.g I'.cells sd'.g hp' hn fun v s₁ go=>go _ _ fun s₃ rv md al hp3=>?_
   have I3:=Inv.mod (hA.handled rfl) I' sd' md al
   have up3:=up.mod md (fun a ha=>mem_cons_of_mem _ ha) al
   have ac3:=ac'.mod (fun b hb=>(sd' b hb).1) md
   refine elrEAoEEA (M.bind_some ef) (fun j e3 q=>?_) fun _ σ₃ e3 e4=>?_
   ·exact nC q
   refine aJ (M.ne_some e3) fun _ q e3=>?_
   refine wpAny_mono (ht A env G' σ₂ s₃ y v hA I3 rv _ _ e3) (fun _ s₄ h'=>?_) fun z s₄ h'=>?_
   ·(refine bL h' fun _ G4 q4 st4 I4 _=>?_;try clear h')
    have hp4:=it.frame (i+1) G' G4 s₃ s₄ I3.g sd'.g hp3 st4
    have sd4:eS sc env G4 wr:=sd'.step I3.g st4
    have ac4:=ac3.step I3.g st4
    have up4:=up3.step st4 (nX sd' ac3)
    refine elrEAoEEA (M.bind_some e4) (fun j e5 q=>?_) fun b σ4 e5 e6=>?_
    ·exact nC q
    refine aJ (M.ne_some e5) fun b' q5 e5=>?_
    (obtain rfl:=eU q5)
    refine wpAny_mono (hc A env G4 σ₃ s₄ hA I4 _ _ e5) (fun ok s5 h'=>?_) fun z s5 h'=>?_
    ·(refine bG (trq h') fun G5 st5 I5 p5=>?_)
     subst p5
     have hp5:=it.frame (i+1) G4 G5 s₄ s5 I4.g sd4.g hp4 st5
     have sd5:eS sc env G5 wr:=sd4.step I4.g st5
     have ac5:=ac4.step I4.g st5
     have up5:=up4.step st5 (nX sd4 ac4)
     cases b with
     | false=>rw [if_neg (by decide)];exact ⟨m,Nat.lt_succ_self m,i+1,G5,σ4,acc,e6,up5,I5,sd5,ac5,hp5⟩
     | true=>
      rw [if_pos rfl]
      refine elrEAoEEA (M.bind_some e6) (fun j e7 q=>?_) fun z σ5 e7 e8=>?_
      ·exact nC q
      refine aJ (M.ne_some e7) fun z' q7 e7=>?_
      (obtain rfl:=eU q7)
      have hz:acc.length≤1000000:=by
       have:=oK e8
       rw [length_append] at this
       exact Nat.le_trans (Nat.le_add_right ..) this
      refine wpAny_mono (he A env G5 σ4 s5 hA I5 _ _ e7) (fun x s6 h'=>?_) fun z s5 h'=>?_
      ·(refine bG (trq h') fun G6 st6 I6 r6=>?_)
       have hp6:=it.frame (i+1) G5 G6 s5 s6 I5.g sd5.g hp5 st6
       have sd6:eS sc env G6 wr:=sd5.step I5.g st6
       have ac6:=ac5.step I5.g st6
       have up6:=up5.step st6 (nX sd5 ac5)
       refine zL (hA.handled rfl) ac6 I6 r6 hz fun s7 I7 md7 ac7=>?_
       refine ⟨m,Nat.lt_succ_self m,i+1,G6,σ5,_,e8,up6.mod md7 (fun a ha=>by rw [mS ha];exact mem_cons_self ..) (fun b hb=>?_),I7,sd6,ac7,it.other _ _ _ _ (fun a o hw e=>md7.keep a o (fun q=>?_) e) hp6⟩
       ·refine cJ (ac7.isl) fun vs k e1 _=>?_
        rw [mS hb];exact ⟨_,e1⟩
       ·rw [mS q] at hw
        rcases hw with hw|hw
        ·exact hw (ac6.side D (mem_singleton.mpr rfl)).1
        ·exact ac6.nwr hw
      ·exact (fI h').elim
    ·exact (fI h').elim
   ·exact (fI h').elim
end
section
variable {C:Cx} {hd:Bool} {n:Nat} {sc:SC} {A:Around} {env:Env} {G:Gh} {σ:St} {s:Shared} {Q E:Value→Shared→Prop}
noncomputable def gF (G G':Gh) (wr:List Addr):Gh:=⟨fun a=>G'.W a∧a∉wr,fun a=>G.own a∨a∈G'.phi,G.frs,G'.phi⟩
theorem zM {sc':SC} {scope:Scope} {loc:List Nat} {D L:Addr} {k:Nat} {s₄ s₅ s₆:Shared} {G':Gh} {σ₂:St} {wr:List Addr} {l:List MV} (hh:A.handled=none) (S:jY sc sc' scope loc) (I:Inv C sc A env G σ s) (x:iW scope s env D k L s₄)
  (sd:eS sc env G wr) (up:pU (D::wr) (lA G D L (cellsFrom (L+1) scope.names [])) s₄ G' s₅) (I₅:Inv C sc' A (fP scope L env) G' σ₂ s₅) (sd5:eS sc' (fP scope L env) G' wr) (ac:Acc sc' (fP scope L env) D wr G' s₅ l) (md:Mod wr s₅ s₆):
  Inv C sc A env (gF G G' wr) ⟨σ.r,σ₂.H⟩ s₆∧eS sc env (gF G G' wr) [D,L]∧(∃vs k,IsL s₆.heap D (List.toArray vs) k∧aK (gF G G' wr) s₆.heap l vs)∧(∃m,s₆.heap.Ns L m)∧
   (∀G₀ s₀,bB G₀ s₀ G s→GOk G₀ s₀.heap→(∀b∈wr,s₀.heap.get? b=none)→bB G₀ s₀ (gF G G' wr) s₆)∧D≠L∧s.heap.get? D=none∧s.heap.get? L=none:=by
 refine gW (jZ S I x) fun c1 c2 c3 c4=>?_
 refine elA (lL S I x) fun newW st0=>?_
 have fD:=newW D (.inl rfl)
 have fL:=newW L (.inr (.inl rfl))
 have dead4:∀a,s₄.heap.get? a=none→s.heap.get? a=none:=fun a q=>by
  cases e:s.heap.get? a with
  | none=>rfl
  | some o=>rw [x.keep a o e] at q;exact iS q
 have hX:∀a,s.heap.get? a≠none→a≠D:=fun a h q=>h (q ▸ fD)
 have ownc:∀a o,s.heap.get? a=some o→a∉G.phi→¬(lA G D L (cellsFrom (L+1) scope.names [])).own a:=fun a o e n q=>by
  rcases q with q|q
  ·exact n q
  ·rw [newW a (.inr q)] at e;exact aP e
 have Wf:∀a,G.W a→a∉wr→(gF G G' wr).W a:=fun a h n=>⟨up.W a (.inl h),n⟩
 have wrW:∀b∈wr,G.W b:=fun b hb=>(sd b hb).1
 have phi':∀a,a∈G'.phi→a∈G.phi∨s.heap.get? a=none:=fun a ha=>by
  refine aJ (up.phi) fun l e f=>?_
  rw [e] at ha
  rcases mem_append.mp ha with q|q
  ·exact .inl q
  ·exact .inr (dead4 a (f a q))
 have phig:∀(m:Nat) a,G.phi[m]?=some a→G'.phi[m]?=some a:=fun m a h=>by
  refine aJ (up.phi) fun l e f=>?_
  rw [e];exact getElem?_prefix h
 have nW5:∀a,G'.W a→G.W a∨s.heap.get? a=none:=fun a h=>by
  rcases up.W' a h with q|q
  ·rcases q with q|q
   ·exact .inl q
   ·exact .inr (newW a q)
  ·exact .inr (dead4 a q)
 have vk5:=md.vk fun b hb=>(sd5 b hb).1
 have mv5:∀{y:MV} {v:Value},aI G' s₅.heap y v→aI (gF G G' wr) s₆.heap y v:=fun r=>aI.weakW (G:=G') (G':=gF G G' wr) (fun _ q=>q.1) rfl (r.keep vk5)
 have mvs5:∀{y:List MV} {v:List Value},aK G' s₅.heap y v→aK (gF G G' wr) s₆.heap y v:=fun r=>aK.weakW (G:=G') (G':=gF G G' wr) (fun _ q=>q.1) rfl (r.keep vk5)
 have keep5:∀a o,s.heap.get? a=some o→a∉wr→a∉G.phi→¬G.frs a→s₆.heap.get? a=some o:=fun a o e h1 h2 h3=>
  md.keep a o h1 (up.keep a o (fun q=>(mem_cons.mp q).elim (fun q=>hX a (by rw [e];simp) q) fun q=>h1 q) (x.keep a o e) (ownc a o e h2) h3)
 have slots5:∀a o,s.heap.get? a=some o→a∉wr→a∉G.phi→∃sl,s₆.heap.get? a=some { o with slots:=sl }:=fun a o e h1 h2=>by
  obtain ⟨sl,z⟩:=up.slots a o (fun q=>(mem_cons.mp q).elim (fun q=>hX a (by rw [e];simp) q) fun q=>h1 q) (x.keep a o e) (ownc a o e h2)
  exact ⟨sl,md.keep a _ h1 z⟩
 have noWf:∀a o,s.heap.get? a=some o→¬G.W a→¬(gF G G' wr).W a:=fun a o e n q=>by
  rcases nW5 a q.1 with w|w
  ·exact n w
  ·rw [e] at w;exact iS w
 have hk5:∀a o,s.heap.get? a=some o→¬G.W a→s₆.heap.get? a=some o∧¬(gF G G' wr).W a:=fun a o e n=>
  ⟨keep5 a o e (fun q=>n (wrW a q)) (fun q=>n (I.g.own a (I.phi_own q))) (fun q=>n (I.g.frs a q)),noWf a o e n⟩
 have mvU:∀{y:MV} {v:Value},aI G s.heap y v→aI (gF G G' wr) s₆.heap y v:=fun r=>r.go hk5 phig
 have al6:∀a,G'.W a→a∉wr→∃o,s₆.heap.get? a=some o:=fun a h n=>let ⟨o,e⟩:=I₅.g.lt a h;⟨o,md.keep a o n e⟩
 have exW:∀a,G.own a→G.W a∧a∉wr:=fun a h=>⟨I.g.own a h,fun q=>(sd a q).2.own h⟩
 have locO:∃o,s.heap.get? env.locals=some o:=I.g.lt _ (I.g.own _ I.vars.ownL)
 have locphi:env.locals∉G.phi:=fun q=>by
  obtain ⟨m,hm,e⟩:=getElem_of_mem q
  exact (I.apart m env.locals (by rw [getElem?_eq_getElem hm,e])).1 rfl
 have celO:∀y ky c ov,sc.lookup y=some ky→(ky= .cell∨ky= .free)→env.cells.lookup (nm y)=some c→s.heap.IsCell c ov→s₆.heap.IsCell c ov:=fun y ky c ov h1 h2 h3 h4=>by
  refine aJ (id h4) fun o e d=>?_
  refine ⟨o,keep5 c o e (fun q=>(sd c q).2.cel y ky c h1 h2 h3 rfl) (I.ncell_phi h4) (fun q=>?_),d⟩
  refine elE (I.frs c q) fun m z=>?_
  exact nG z h4
 have D4:∃o,s₄.heap.get? D=some o:=⟨_,x.acc⟩
 have L4:∃o,s₄.heap.get? L=some o:=let ⟨o,_,_,e,_⟩:=x.ns;⟨o,e⟩
 have nphiL:L∉G'.phi:=fun q=>by
  obtain ⟨m,hm,e⟩:=getElem_of_mem q
  exact (I₅.apart m L (by rw [getElem?_eq_getElem hm,e])).1 rfl
 have nphiD:D∉G'.phi:=fun q=>(ac.side D (mem_singleton.mpr rfl)).2.own (I₅.phi_own q)
 have own1:∀a,a∈G'.phi→G'.W a∧a∉wr:=fun a h=>⟨I₅.g.own a (I₅.phi_own h),fun q=>(sd5 a q).2.own (I₅.phi_own h)⟩
 have aptf:∀a,s.heap.get? a=none→a∉G'.phi→Apt sc env (gF G G' wr) a:=fun a fa np=>by
  refine ⟨fun q=>?_,fun q=>?_,fun q=>?_,fun y ky c h1 h2 h3 q=>?_⟩
  ·rcases q with q|q
   ·refine elE (I.g.lt a (I.g.own a q)) fun o e=>?_;rw [fa] at e;exact aP e
   ·exact np q
  ·refine elE (I.g.lt a (I.g.frs a q)) fun o e=>?_;rw [fa] at e;exact aP e
  ·(refine elE locO fun o e=>?_;try clear locO);rw [←q,fa] at e;exact aP e
  ·(refine cD (I.vars.cel y ky h1 h2) fun c' ov hc' t_2 _=>?_;(refine aJ t_2 fun o e _=>?_;try clear t_2))
   rw [h3] at hc';(obtain rfl:=sJ hc')
   rw [←q,fa] at e;exact aP e
 refine cJ (ac.isl) fun vs kk hl hr=>?_
 have hfrs:G'.frs=G.frs:=up.frs
 refine ⟨⟨?_,?_,?_,?_,I.ok,⟨?_,?_,?_⟩,⟨?_,?_,.inl I.vars.ownL,fun y c h1 h2=> .inl (I.vars.ownC y c h1 h2),I.vars.apart⟩,⟨I₅.cells.len,fun m a h=> .inr (mem_of_getElem? h),I₅.cells.inj,?_,?_⟩,?_,I.lnk,?_,fun q=>((I.held q).none hh).elim⟩,?_,?_,?_,?_,?_,fD,fL⟩
 ·intro a o e
  exact md.keep a o (fun q=>by rw [I.baseW a (wrW a q)] at e;exact aP e) (I₅.x0 a o e)
 ·intro a q;exact I₅.baseW a q.1
 ·exact md.gens.trans I₅.gens
 ·exact md.os.trans I₅.os
 ·intro a q
  rcases q with q|q
  ·exact Wf a (exW a q).1 (exW a q).2
  ·exact own1 a q
 ·intro a q
  exact Wf a (I.g.frs a q) fun h=>(sd a h).2.frs q
 ·intro a q;exact al6 a q.1 q.2
 ·refine aJ (I.vars.loc) fun m hn hm=>?_
  (refine elE locO fun o ho=>?_;try clear locO)
  refine ⟨m,kT hn fun o e=>slots5 _ o e (fun q=>(sd _ q).2.loc rfl) locphi,fun y z h1 h2=>?_⟩
  refine aJ (hm y z h1 h2) fun v hv r=>?_
  exact ⟨v,hv,mvU r⟩
 ·intro y ky h1 h2
  refine cD (I.vars.cel y ky h1 h2) fun c ov hc hi hr=>?_
  refine ⟨c,ov,hc,celO y ky c ov h1 h2 hc hi,fun z hz=>?_⟩
  refine aJ (hr z hz) fun v hv r=>?_
  exact ⟨v,hv,mvU r⟩
 ·intro m a h q
  refine I₅.cells.nfr m a h ?_
  rw [hfrs];exact q
 ·intro m a y h e
  refine aJ (I₅.cells.at' m a y h e) fun o ho r=>?_
  exact ⟨o,md.keep a o (fun q=>(sd5 a q).2.own (I₅.cells.own m a h)) ho,r.mono (fun _ _ z=>mv5 z) fun _ _ q=>q⟩
 ·intro m a h
  have ha:a∈G'.phi:=mem_of_getElem? h
  refine ⟨fun q=>?_,fun y c h1 h2 q=>?_⟩
  ·rcases phi' a ha with w|w
   ·exact locphi (q ▸ w)
   ·(refine elE locO fun o e=>?_;try clear locO);rw [←q,w] at e;exact aP e
  ·refine cD (I.vars.cel y _ h1 (.inl rfl)) fun c' ov hc' hi _=>?_
   rw [h2] at hc';(obtain rfl:=sJ hc')
   rcases phi' a ha with w|w
   ·exact I.ncell_phi hi (q ▸ w)
   ·(refine aJ hi fun o e _=>?_;try clear hi);rw [←q,w] at e;exact aP e
 ·intro a q
  have q':G'.frs a:=by rw [hfrs];exact q
  refine aBc (I₅.frs a q') fun m o es ep e r=>?_
  exact ⟨m,o,es,ep,md.keep a o (fun w=>(sd5 a w).2.frs q') e,r⟩
 ·intro b hb
  rcases mem_cons.mp hb with rfl|hb
  ·exact ⟨⟨(ac.side b (mem_singleton.mpr rfl)).1,ac.nwr⟩,aptf b fD nphiD⟩
  ·rw [mS hb]
   refine ⟨⟨up.W L (.inr (.inr (.inl rfl))),fun q=>?_⟩,aptf L fL nphiL⟩
   refine elE (I.g.lt L (wrW L q)) fun o e=>?_;rw [fL] at e;exact aP e
 ·exact ⟨vs,kk,md.keep D _ ac.nwr hl,mvs5 hr⟩
 ·(refine aJ (I₅.vars.loc) fun m t_1 _=>?_;(refine iD t_1 fun o es ep e r=>?_;try clear t_1))
  exact ⟨m,o,es,ep,md.keep L o (fun q=>(sd5 L q).2.loc rfl) e,r⟩
 ·intro G₀ s₀ st g hwr
  have own0:∀a o,s₀.heap.get? a=some o→¬G₀.own a→¬G.own a:=fun a o e n q=>by
   rcases st.own' a q with w|w
   ·exact n w
   ·rw [e] at w;exact iS w
  have nw:∀a o,s₀.heap.get? a=some o→a∉wr:=fun a o e q=>by rw [hwr a q] at e;exact aP e
  have dead0:∀a,s.heap.get? a=none→s₀.heap.get? a=none:=fun a q=>by
   cases e:s₀.heap.get? a with
   | none=>rfl
   | some o=>refine elE (st.alive a o e) fun o' e'=>?_;rw [e'] at q;exact iS q
  refine ⟨fun a o e n f=>?_,fun a o e n=>?_,fun a o e=>?_,fun a q=>?_,fun a q=>?_,fun a q=> .inl (st.own a q),fun a q=>?_,st.frs,?_,(md.gens.trans (up.gens.trans x.gens)).trans st.gens,(md.os.trans (up.os.trans x.os)).trans st.os⟩
  ·exact keep5 a o (st.keep a o e n f) (nw a o e) (fun q=>own0 a o e n (I.phi_own q)) (by rw [st.frs];exact f)
  ·refine elE (st.slots a o e n) fun sl e'=>?_
   refine elE (slots5 a _ e' (nw a o e) (fun q=>own0 a o e n (I.phi_own q))) fun sl' e''=>?_
   exact ⟨sl',e''⟩
  ·refine elE (st.alive a o e) fun o' e'=>?_
   refine elE (up.alive a o' (x.keep a o' e')) fun o'' e''=>?_
   exact ⟨o'',md.keep a o'' (nw a o e) e''⟩
  ·refine elE (g.lt a q) fun o e=>?_
   exact Wf a (st.W a q) (nw a o e)
  ·rcases nW5 a q.1 with w|w
   ·exact st.W' a w
   ·exact .inr (dead0 a w)
  ·rcases q with q|q
   ·exact st.own' a q
   ·rcases phi' a q with w|w
    ·exact st.own' a (I.phi_own w)
    ·exact .inr (dead0 a w)
  ·refine aJ (st.phi) fun l1 e1 f1=>?_
   refine aJ (up.phi) fun l2 e2 f2=>?_
   refine ⟨l1++l2,by show G'.phi=_;rw [e2];show G.phi++l2=_;rw [e1,append_assoc],fun a ha=>?_⟩
   rcases mem_append.mp ha with q|q
   ·exact f1 a q
   ·exact dead0 a (dead4 a (f2 a q))
 ·rw [x.eD,x.eL];exact Nat.ne_of_lt (Nat.lt_succ_self _)
end
section
variable {C:Cx} {hd:Bool} {n:Nat} {sc:SC} {A:Around} {env:Env} {G:Gh} {σ:St} {s:Shared} {Q E:Value→Shared→Prop}
theorem aDy {sc':SC} {scope:Scope} {loc:List Nat} {D L:Addr} {k:Nat} {s₁:Shared} {wr:List Addr} (S:jY sc sc' scope loc) (I:Inv C sc A env G σ s) (x:iW scope s env D k L s₁) (sd:eS sc env G wr):
  eS sc' (fP scope L env) (lA G D L (cellsFrom (L+1) scope.names [])) wr∧(k=0→Acc sc' (fP scope L env) D wr (lA G D L (cellsFrom (L+1) scope.names [])) s₁ []):=by
 refine gW (jZ S I x) fun c1 c2 c3 c4=>?_
 obtain ⟨newW,st0⟩:=lL S I x
 have fD:=newW D (.inl rfl)
 have cel:∀b,(s.heap.get? b=none∨∀y ky c,sc.lookup y=some ky→(ky= .cell∨ky= .free)→env.cells.lookup (nm y)=some c→b≠c)→(∀z c,(cellsFrom (L+1) scope.names []).lookup z=some c→b≠c)→
   ∀y ky c,sc'.lookup y=some ky→(ky= .cell∨ky= .free)→(fP scope L env).cells.lookup (nm y)=some c→b≠c:=by
  intro b h1 h2 y ky c hy hk hc
  refine elrZoEAAAE (c3 _ c hc) (fun q=>?_) fun y' hy' e q o ho=>?_
  ·exact h2 _ c q
  ·rcases h1 with h1|h1
   ·intro w;rw [←w,h1] at ho;exact aP ho
   ·rcases S.free y' hy' with w|w
    ·exact h1 y' _ c w (.inl rfl) (by rw [e];exact q)
    ·exact h1 y' _ c w (.inr rfl) (by rw [e];exact q)
 constructor
 ·intro b hb
  obtain ⟨o,e⟩:=I.g.lt b (sd b hb).1
  have ex:s.heap.get? b≠none:=by rw [e];simp
  have ap:=(sd b hb).2
  refine ⟨.inl (sd b hb).1,fun q=>?_,ap.frs,fun q=>?_,cel b (.inr fun y ky c h1 h2 h3=>ap.cel y ky c h1 h2 h3) fun z c hz q=>?_⟩
  ·rcases q with q|q
   ·exact ap.own (I.phi_own q)
   ·exact ex (newW b (.inr q))
  ·exact ex (newW b (.inr (.inl q)))
  ·exact ex (newW b (.inr (.inr ⟨z,q ▸ hz⟩)))
 ·rintro rfl
  have nDL:D≠L:=by rw [x.eD,x.eL];exact Nat.ne_of_lt (Nat.lt_succ_self _)
  have nDc:∀z c,(cellsFrom (L+1) scope.names []).lookup z=some c→D≠c:=fun z c hz q=>by
   have:=(c4 z c hz).2
   rw [←q,x.eD,x.eL] at this
   exact absurd this (Nat.not_lt.mpr (Nat.le_succ _))
  refine ⟨fun b hb=>?_,fun q=>?_,[],0,x.acc,.nil⟩
  ·rw [mS hb]
   refine ⟨.inr (.inl rfl),fun q=>?_,fun q=>?_,nDL,cel D (.inl fD) nDc⟩
   ·rcases q with q|q|⟨z,q⟩
    ·obtain ⟨o,e⟩:=I.g.lt D (I.g.own D (I.phi_own q));rw [fD] at e;exact aP e
    ·exact nDL q
    ·exact nDc z D q rfl
   ·obtain ⟨o,e⟩:=I.g.lt D (I.g.frs D q);rw [fD] at e;exact aP e
  ·obtain ⟨o,e⟩:=I.g.lt D (sd D q).1;rw [fD] at e;exact aP e
theorem qT {sc':SC} {scope:Scope} {loc:List Nat} {elt target iter:Expr} {ifs:List Expr} {pos p':Pos} {okT:Expr→Bool} {fi:M (Nat×Nxt)} {tg:MV→M Unit} {cond:M Bool} {f:M MV} {l:List MV} {σ':St} {use:Option (Value→Sem Unit)}
  (S:jY sc sc' scope loc) (hi:sF C n sc okT iter fi) (ht:wV C n sc' target tg) (hc:zK C n sc' ifs cond) (he:aV C true n sc' elt f) (hT:okT target=true) (hs:∀x,foldedSetIterable iter env x=pure x)
  (hA:AOk true n A) (I:Inv C sc A env G σ s) (e:dH loc fi tg cond f σ=some (.ok l,σ'))
  (h:∀D L G' s',bB G s G' s'→Inv C sc A env G' σ' s'→eS sc env G' [D,L]→(∃vs k,IsL s'.heap D (List.toArray vs) k∧aK G' s'.heap l vs)→(∃m,s'.heap.Ns L m)→s.heap.get? D=none→s.heap.get? L=none→D≠L→l.length≤1000000→
   compPost (model C.prog C.w) A E use Q (.ref D) L (.ok .next) s'):
  wpAny (model C.prog C.w) A (comprehension (.ListComp elt [⟨target,iter,ifs,0⟩] scope pos) scope env p' (newList []) false (eval iter env) use) Q E s:=by
 refine aNp e fun p σ₁ e1 e=>?_
 ·refine aNp e fun l' σ₂ e2 e=>?_
  ·cases e
   refine aJ (M.ne_some e1) fun _ q e1=>?_
   (obtain rfl:=eU q)
   have hclos:closureFor scope env=pure (kH env.cells scope.names []):=sH fun z hz=>by
    (refine aJ (S.allfree z hz) fun x hx e_2=>?_;obtain rfl:=e_2)
    rcases S.free x hx with q|q
    ·refine cJ (I.vars.cel x _ q (.inl rfl)) fun c ov hc _=>?_;exact ⟨c,hc⟩
    ·refine cJ (I.vars.cel x _ q (.inr rfl)) fun c ov hc _=>?_;exact ⟨c,hc⟩
   refine wpAny_comprehension_free rfl hs hclos S.kind S.names (wpAny_mono (hi A env G σ s hA I _ _ e1) (fun xv s₁ h₁=>wpAny_mono h₁ (fun it s₂ h₂=>?_) fun y s' q=>?_) fun y s' q=>?_)
   ·(refine kL h₂ fun p' G₁ Ia wr Pos q e_1 st I₁ hfr sd itr hp=>?_;try clear h₂;obtain rfl:=e_1)
    (obtain rfl:=eU q)
    refine jS (vs:= []) ?_ (Nat.zero_le _)
    refine xC ?_
    have x:=zI scope s₂ env
    have key:∀(s₄:Shared) (D L:Addr),iW scope s₂ env D 0 L s₄→codeAny (model C.prog C.w) A (.compStart (.ListComp elt [⟨target,iter,ifs,0⟩] scope pos) 0 (.ref Ia) (.ref D) (fP scope L env))
      (compPost (model C.prog C.w) A E use Q (.ref D) L) s₄:=by
     intro s₄ D L x
     have I4:=zJ S I₁ x
     obtain ⟨sd4,ac4⟩:=aDy S I₁ x sd
     have hp4:Pos 0 _ s₄.heap:=itr.frame 0 (aGd G₁) _ s₂ s₄ I₁.gphi (fun b hb=>⟨(sd b hb).1,fun q=>(sd b hb).2.own (I₁.phi_own q),(sd b hb).2.frs⟩) (itr.ghost 0 G₁ (fun a=>a∈G₁.phi) s₂.heap hp) (lL S I₁ x).2
     have loop:=aDx (pos:=pos) (iter:=iter) (scope:=scope) (R:=compPost (model C.prog C.w) A E use Q (.ref D) L) ht hc he hT hA I4 sd4 itr hp4 (ac4 rfl) e2 fun G' s₅ s₆ up I5 sd5 ac5 hz md=>by
      refine aDd (zM (hA.handled rfl) S I₁ x sd up I5 sd5 ac5 md) fun r1 r2 r3 r4 r5 r6 r7 r8=>?_
      have dead:∀a,s₂.heap.get? a=none→s.heap.get? a=none:=fun a q=>by
       cases e:s.heap.get? a with
       | none=>rfl
       | some o=>obtain ⟨o',e'⟩:=st.alive a o e;rw [e'] at q;exact iS q
      exact h D L _ s₆ (r5 G s st I.g hfr) r1 r2 r3 r4 (dead D r7) (dead L r8) r6 hz
     exact codeAny_compStart_list loop (itr.self 0 _ _ _ _ hp4 loop)
    have:=key _ _ _ x
    rw [show s₂.heap.objs.size+1=({ s₂ with heap:=s₂.heap.push { cls:= .type "list",data:= .seq ([]:List Value).toArray } }:Shared).heap.objs.size from (Heap.size_push ..).symm] at this
    exact this
   ·obtain ⟨_,_,q,_⟩:=q;exact nC q
   ·obtain ⟨_,_,q,_⟩:=q;exact nC q
theorem cT {sc':SC} {scope:Scope} (loc:List Nat) {elt target iter:Expr} {ifs:List Expr} {pos:Pos} {okT:Expr→Bool} {fi:M (Nat×Nxt)} {tg:MV→M Unit} {cond:M Bool} {f:M MV}
  (hi:sF C n sc okT iter fi) (ht:wV C n sc' target tg) (hc:zK C n sc' ifs cond) (he:aV C true n sc' elt f) (S:autoParam (qS sc sc' scope loc=true) aX._auto_1) (hT:autoParam (okT target=true) aX._auto_1) (hs:autoParam (∀env x,foldedSetIterable iter env x=pure x) nB._auto_1):
  aV C true n sc (.ListComp elt [⟨target,iter,ifs,0⟩] scope pos) (M.bind (M.ne (dH loc fi tg cond f)) fun l=>M.pure (.lst l)):=by
 intro A env G σ s hA I r σ' e
 focus (refine elrEAoEEA (M.bind_some e) (fun j e1 r_2=>?_) fun l σ₁ e1 e2=>?_;obtain rfl:=r_2;rotate_left;rotate_left)
 ·exact (M.ne_exc e1).elim
 refine aJ (M.ne_some e1) fun l' q e1=>?_
 (obtain rfl:=eU q)
 (have q_:=aZ e2;clear e2;obtain ⟨rfl,rfl⟩:=q_)
 rw [eval_ListComp]
 refine qT (use:=none) (oJ S) hi ht hc he hT (hs env) hA I e1 fun D L G' s' st I' sd hl hns fD fL nDL hz=>?_
 obtain ⟨m,hn⟩:=hns
 (refine cJ hl fun vs k h1 h2=>?_;try clear hl)
 refine ⟨m,hn,fun h' hs'=>?_⟩
 have md:Mod [D,L] s' { s' with heap:=h' }:=⟨fun b o hb e=>(hs'.2 b fun q=>hb (by rw [q];simp)).trans e,rfl,rfl⟩
 have fr:∀b∈ [D,L],s.heap.get? b=none:=fun b hb=>by
  rcases mem_cons.mp hb with rfl|hb
  ·exact fD
  ·rw [mS hb];exact fL
 have hk:h'.get? D=_:=(hs'.2 D nDL).trans h1
 refine ⟨_,_,rfl,st.modEnd I.g fr md,Inv.modEnd (hA.handled rfl) I' sd md,.lst ⟨_,hk,rfl,k,rfl⟩ (fun q=>q.2 (mem_cons_self ..)) ?_⟩
 exact aK.weakW (G:=G') (G':=G'.subW [D,L]) (fun _ q=>q.1) rfl (h2.keep (md.vk fun b hb=>(sd b hb).1))
theorem eP (x:Nat) {z:Str} {p ps:Pos} {sc':SC} {scope:Scope} (loc:List Nat) {elt target iter:Expr} {ifs:List Expr} {pos:Pos} {okT:Expr→Bool} {fi:M (Nat×Nxt)} {tg:MV→M Unit} {cond:M Bool} {f:M MV}
  (hi:sF C n sc okT iter fi) (ht:wV C n sc' target tg) (hc:zK C n sc' ifs cond) (he:aV C true n sc' elt f) (hz:autoParam (nm x=z) aX._auto_1) (hk:autoParam (aBi (sc.lookup x)=true) aX._auto_1) (S:autoParam (qS sc sc' scope loc=true) aX._auto_1) (hT:autoParam (okT target=true) aX._auto_1) (hs:autoParam (∀env x,foldedSetIterable iter env x=pure x) nB._auto_1)
  (hln:autoParam ((p.line==pos.line)=true) aX._auto_1) (hnn:autoParam ((scope.names.any fun y=>y.1==z && (y.2== .local||y.2== .cell))=false) aX._auto_1):
  fK C true n sc (.Assign [.Name z p] (.ListComp elt [⟨target,iter,ifs,0⟩] scope pos) ps) (M.bind (M.ne (dH loc fi tg cond f)) fun l=>M.bind (bE x (.lst l)) fun _=>M.pure .next):=by
 subst hz
 intro A env G σ s hA I r σ' e
 focus (refine elrEAoEEA (M.bind_some e) (fun j e1 r_1=>?_) fun l σ₁ e1 e2=>?_;obtain rfl:=r_1;rotate_left;rotate_left)
 ·exact (M.ne_exc e1).elim
 refine aJ (M.ne_some e1) fun l' q e1=>?_
 (obtain rfl:=eU q)
 have kx:=oH hk
 rw [exec_Assign_Name_used (hs:=by
  unfold swapsWith
  have hb:env.blockKind= .function:=by unfold Env.blockKind;rw [I.ok.kind];rfl
  have hk':=I.ok.kinds x _ kx (by decide)
  have hln':(p.line==(Expr.ListComp elt [⟨target,iter,ifs,0⟩] scope pos).pos.line)=true:=hln
  simp only [hb,hk',hnn,hln']
  rfl)]
 refine wB (wpAny_standAt (wB ?_))
 show wpAny _ A (do let _ ←comprehension (.ListComp elt [⟨target,iter,ifs,0⟩] scope pos) scope env (firstIterPos [⟨target,iter,ifs,0⟩] pos) (newList []) false (eval iter env) (some (assign (.Name (nm x) p) env));pure ()) _ _ s
 refine wB ?_
 refine qT (use:=some (assign (.Name (nm x) p) env)) (oJ S) hi ht hc he hT (hs env) hA I e1 fun D L G' s' st I' sd hl hns fD fL nDL hz=>?_
 (refine cJ hl fun vs k h1 h2=>?_;try clear hl)
 have md0:Mod [D] s' s':=⟨fun b o _ e=>e,rfl,rfl⟩
 have sdD:eS sc env G' [D]:=fun b hb=>sd b (by rw [mS hb];simp)
 have fr:∀b,b∈ [D]→s.heap.get? b=none:=fun b hb=>by rw [mS hb];exact fD
 have fr':∀b,b∈ [L]→s.heap.get? b=none:=fun b hb=>by rw [mS hb];exact fL
 have I1:=Inv.modEnd (hA.handled rfl) I' sdD md0
 have st1:=st.modEnd I.g fr md0
 have rl:aI (G'.subW [D]) s'.heap (.lst l) (.ref D):= .lst ⟨_,h1,rfl,k,rfl⟩ (fun q=>q.2 (mem_cons_self ..)) (aK.weakW (G:=G') (G':=G'.subW [D]) (fun _ q=>q.1) rfl h2)
 have sdL:eS sc env (G'.subW [D]) [L]:=fun b hb=>by
  rw [mS hb]
  have:=sd L (by simp)
  exact ⟨⟨this.1,fun q=>nDL (mS q).symm⟩,this.2.own,this.2.frs,this.2.loc,this.2.cel⟩
 have bt:Tr C sc A env (G'.subW [D]) σ₁ s' (assign (.Name (nm x) p) env (.ref D)) (bE x (.lst l)) (fun _ _ _ _=>True):=Tr.stand (eM I1 (by rw [kx];rfl) rl)
 show wpAny _ A (assign (.Name (nm x) p) env (.ref D)) _ _ s'
 refine wpAny_mono (bt _ _ rfl) (fun _ s'' h'=>?_) fun _ s'' h'=>?_
 ·(refine bL h' fun _ G2 _ st2 I2 _=>?_;try clear h')
  have sd2:=sdL.step I1.g st2
  obtain ⟨m,hn⟩:=hns
  refine ⟨m,kT hn fun o e=>st2.slots L o e (sdL L (mem_cons_self ..)).2.own,fun h' hs'=>?_⟩
  have md:Mod [L] s'' { s'' with heap:=h' }:=⟨fun b o hb e=>(hs'.2 b fun q=>hb (by rw [q];simp)).trans e,rfl,rfl⟩
  (have q_:=aZ e2;clear e2;obtain ⟨rfl,rfl⟩:=q_)
  exact wP (wP ⟨_,_,rfl,(st1.trans st2).modEnd I.g fr' md,Inv.modEnd (hA.handled rfl) I2 sd2 md,.next⟩)
 ·exact (fI h').elim
end
section
variable {C:Cx} {hd:Bool} {n:Nat} {sc:SC} {A:Around} {env:Env} {G:Gh} {σ:St} {s:Shared} {Q E:Value→Shared→Prop}
theorem iB {h:Heap} {a:Addr} {m:Str→Option Value} {o:Obj} {vs:Array Value} (x:h.Ns a m) (e:h.get? a=some o) (d:o.data= .fields vs):False:=by
 (refine mZ x fun o' es ep e' d' _=>?_;try clear x)
 rw [e] at e';(obtain rfl:=sJ e');rw [d] at d';cases d'
theorem Inv.updF {D:Addr} {h':Heap} {o o':Obj} {vs:Array Value} (I:Inv C sc A env G σ s) (hD:G.own D) (hn:D∉G.phi) (ho:s.heap.get? D=some o) (hd:o.data= .fields vs)
  (hs:Heap.SameBut D s.heap h') (ho':h'.get? D=some o'):bB G s G { s with heap:=h' }∧Inv C sc A env G σ { s with heap:=h' }:=by
 have st:bB G s G { s with heap:=h' }:=bB.upd hD hs ⟨o',ho'⟩
 have hf:¬G.frs D:=fun q=>by refine elE (I.frs D q) fun m y=>?_;exact iB y ho hd
 have hl:env.locals≠D:=fun q=>by refine aJ (I.vars.loc) fun m y _=>?_;exact iB (q ▸ y) ho hd
 have hc:∀c ov,s.heap.IsCell c ov→c≠D:=fun c ov q e=>by
  (refine aJ q fun o2 e1 e2=>?_;try clear q)
  rw [e,ho] at e1;(obtain rfl:=sJ e1);rw [hd] at e2;cases e2
 refine ⟨st,⟨fun b o e=>(hs.2 b (fun q=>by rw [q,I.baseW _ (I.g.own _ hD)] at e;exact aP e)).trans (I.x0 b o e),I.baseW,I.gens,I.os,I.ok,st.gok I.g rfl,⟨?_,?_,I.vars.ownL,I.vars.ownC,I.vars.apart⟩,?_,I.apart,I.lnk,fun b q=>?_,fun q=>(I.held q).step st⟩⟩
 ·refine aJ (I.vars.loc) fun mm hn hm'=>?_
  refine ⟨mm,hn.sameBut hs hl,fun z w hz hw=>?_⟩
  refine aJ (hm' z w hz hw) fun u hu ru=>?_
  exact ⟨u,hu,ru.step I.g st⟩
 ·intro z kz hz hkz
  refine cD (I.vars.cel z kz hz hkz) fun c ov hcc hi hr=>?_
  refine ⟨c,ov,hcc,hi.sameBut hs (hc c ov hi),fun w hw=>?_⟩
  refine aJ (hr w hw) fun u hu ru=>?_
  exact ⟨u,hu,ru.step I.g st⟩
 ·refine ⟨I.cells.len,I.cells.own,I.cells.inj,I.cells.nfr,fun k b z e e'=>?_⟩
  refine aJ (I.cells.at' k b z e e') fun o ho' r=>?_
  have nb:b≠D:=fun e2=>hn (e2 ▸ mem_of_getElem? e)
  exact ⟨o,(hs.2 b nb).trans ho',r.mono (fun _ _ w=>w.step I.g st) fun _ _ q=>q⟩
 ·refine elE (I.frs b q) fun mm yy=>?_
  exact ⟨mm,yy.sameBut hs fun e=>hf (e ▸ q)⟩
noncomputable def XAt (G:Gh) (h:Heap) (m:Bool) (fl:Value) (x:Value) (k:Nat):Prop:=
 ∃e vs T,x= .ref e∧XIs G h e k vs∧(m=false→k < 2→vs[2]?=some .none)∧vs[1]?=some (.ref T)∧aQl G h T fl
theorem XAt.rel {h:Heap} {m:Bool} {x:Value} {k:Nat} {L:Addr} (y:XAt G h m (rawInt L) x k) (hL:env.frame=some L):kQ G h env m x k:=by
 (refine hY y fun e vs T a b c d f=>?_;try clear y)
 exact ⟨e,vs,a,b,c,.inr ⟨T,L,d,hL,f⟩⟩
theorem aDz {vs:Array Value} {i j:Nat} {v:Value} (h:i≠j):(vs.setIfInBounds i v)[j]?=vs[j]?:=Array.getElem?_setIfInBounds_ne h
theorem fR {m:Bool} {fl x:Value} {k:Nat} {f:Option Addr} {Q:Unit→Shared→Prop} (I:Inv C sc A env G σ s) (y:XAt G s.heap m fl x k)
  (h:∀s',bB G s G s'→Inv C sc A env G σ s'→XAt G s'.heap m (f.elim .none fun f=>rawInt f) x k→Q () s'):wpAny (model C.prog C.w) A (setFlight x f) Q E s:=by
 (refine jH y fun e vs T e_8 t_9 h2 h1 oT ts hT hcT hdT h3 hoT hpT=>?_;try clear y;obtain rfl:=e_8;(refine eT t_9 fun oe he hc hd hz how hph=>?_;try clear t_9))
 unfold setFlight
 refine wB (wpAny_field he hd h1 ?_)
 rw [if_pos (show (Value.ref T !=Value.none)=true from by simp)]
 have sz:=(Array.getElem?_eq_some_iff.mp h3).1
 refine wpAny_setField hT hdT sz ?_
 have hd':=Obj.data_mapFields hdT (·.setIfInBounds 3 (f.elim Value.none fun f=>rawInt f))
 have hT':=Heap.get?_update_self (Obj.mapFields (·.setIfInBounds 3 (f.elim Value.none fun f=>rawInt f))) hT (Obj.isFreed_of_fields hd')
 have hne:e≠T:=fun q=>by
  rw [q,hT] at he;(obtain rfl:=sJ he);rw [hcT] at hc
  have:∀k,lV k≠ "traceback":=by
   intro k
   induction k using lV.induct with
   | case1=>decide
   | case2=>decide
   | case3 n ih=>exact ih
  exact this k (Value.type.inj hc).symm
 have he':(s.heap.update T (Obj.mapFields (·.setIfInBounds 3 (f.elim Value.none fun f=>rawInt f)))).get? e=some oe:=(Heap.get?_update_other _ _ (Ne.symm hne)).trans he
 refine elA (I.updF hoT hpT hT hdT (Heap.SameBut.update ..) hT') fun st I'=>?_
 exact h _ st I' ⟨e,vs,T,rfl,⟨oe,he',hc,hd,hz,how,hph⟩,h2,h1,_,_,hT',(Obj.cls_mapFields _ _).trans hcT,hd',by simp [sz],hoT,hpT⟩
theorem aEa (I:Inv C sc A env G σ s) {l:List Env} (hl:∀e∈l,e.scope.kind= .function∧∃L,e.frame=some L∧G.frs L):s.heap.FunFrames C.h₀ l:=by
 induction l with
 | nil=>trivial
 | cons e r ih=>
  refine kG (hl e (mem_cons_self ..)) fun h1 L h2 h3=>?_
  refine aFg (I.frs L h3) fun m o es ep ho hd _=>?_
  exact ⟨by rw [h1];decide,⟨L,o,h2,I.baseW L (I.g.frs L h3),ho,fun vs q=>by rw [hd] at q;cases q⟩,ih fun e' he=>hl e' (mem_cons_of_mem _ he)⟩
theorem xD {Q:Value→Shared→Prop} {L:Addr} (I:Inv C sc A env G σ s) (hL:env.frame=some L) (h:∀s',kS G s s'→Inv C sc A env G σ s'→Q (.ref L) s'):wpAny (model C.prog C.w) A (PySem.frameOf env) Q E s:=by
 (refine aFf (I.lnk) fun l hfr hl e r e_7 he=>?_;obtain rfl:=e_7)
 unfold PySem.frameOf
 refine wB (wpAny_frameEnvs hfr ?_)
 have hdw:((e::r).dropWhile fun x=>x.frame !=env.frame)=e::r:=by simp [List.dropWhile,he]
 rw [hdw]
 unfold frameObject
 refine wB (wB (wpAny_readyFrames_fun (aEa I hl) fun h₁ hs₁=>wP ?_))
 rw [he,hL]
 have q:kS G s { s with heap:=h₁ }:=by
  refine ⟨fun a o ho nf=>(hs₁.2.1 a fun hm=>?_).trans ho,fun a o ho=>hs₁.2.2 a o ho,rfl,rfl⟩
  refine aJ (List.mem_filterMap.mp hm) fun e' he' hf'=>?_
  refine kG (hl e' he') fun _ L' h2 h3=>?_
  rw [h2] at hf';(obtain rfl:=sJ hf')
  exact nf h3
 exact wP (h _ q (I.quiet q))
theorem iL {m:Bool} {x:Value} {k:Nat} {Q:Unit→Shared→Prop} (I:Inv C sc A env G σ s) (y:kQ G s.heap env m x k)
  (h:∀G' s' L,env.frame=some L→bB G s G' s'→Inv C sc A env G' σ s'→XAt G' s'.heap m (rawInt L) x k→Q () s'):wpAny (model C.prog C.w) A (noteFrame x env) Q E s:=by
 (refine bL y fun e vs e_5 t_6 h2 h1=>?_;try clear y;obtain rfl:=e_5;(refine eT t_6 fun oe he hc hd hz how hph=>?_;try clear t_6))
 refine elE (I.ok.frame) fun L hL=>?_
 unfold noteFrame
 simp only [hL]
 rcases h1 with h1|⟨T,L',h1,hL',hT⟩
 ·refine wB (wpAny_field he hd h1 ?_)
  rw [if_neg (by decide)]
  refine wB (xD I hL fun s₁ q₁ I₁=>?_)
  refine wB (wpAny_entryPlaceOf fun pl hpl=>?_)
  unfold EntryCells.newEntry newFields
  refine wB (wpAny_newObj_type ?_ (hpl.sizeOk5 _ _ _ _ _))
  have he₁:s₁.heap.get? e=some oe:=q₁.keep e oe he fun q=>by refine elE (I.frs e q) fun m z=>?_;exact iB z he hd
  have X:=Ext.push s₁ { cls:= .type "traceback",dict:=none,data:= .fields ([Value.none,.ref L,.none,rawInt L,.none]++(if pl.isEmpty then List.replicate 6 Value.none else pl)).toArray }
  have hTn:=Heap.get?_push_size s₁.heap (o:={ cls:= .type "traceback",dict:=none,data:= .fields ([Value.none,.ref L,.none,rawInt L,.none]++(if pl.isEmpty then List.replicate 6 Value.none else pl)).toArray }) rfl
  have I₂:=I₁.add X (bD _) hTn
  have st₂:=bB.add (G:=G) X (bD _)
  have he₂:=X.1 e oe he₁
  refine wpAny_setField he₂ hd (Nat.lt_trans (by decide) hz) ?_
  have hne:e≠s₁.heap.objs.size:=Nat.ne_of_lt (Heap.lt_size he₁)
  have hd₃:=Obj.data_mapFields hd (·.setIfInBounds 1 (Value.ref s₁.heap.objs.size))
  have he₃:=Heap.get?_update_self (Obj.mapFields (·.setIfInBounds 1 (Value.ref s₁.heap.objs.size))) he₂ (Obj.isFreed_of_fields hd₃)
  refine elA (I₂.updF (.inl how) (show e∉(G.add s₁.heap.objs.size).phi from hph) he₂ hd (Heap.SameBut.update ..) he₃) fun st₃ I₃=>?_
  refine h _ _ L hL (q₁.step.trans (st₂.trans st₃)) I₃ ⟨e,_,s₁.heap.objs.size,rfl,⟨_,he₃,(Obj.cls_mapFields _ _).trans hc,hd₃,by simpa using hz,.inl how,hph⟩,fun hm hk=>by rw [aDz (by decide)];exact h2 hm hk,
   by simp only [Array.getElem?_setIfInBounds_self_of_lt (Nat.lt_trans (by decide) hz:1 < vs.size)],?_⟩
  refine ⟨_,_,(Heap.get?_update_other _ _ hne).trans hTn,rfl,rfl,by simp,.inr rfl,fun q=>?_⟩
  have q:s₁.heap.objs.size∈G.phi:=q
  refine elE (I₁.g.lt _ (I₁.g.own _ (I₁.phi_own q))) fun o ho=>?_
  rw [bD] at ho;exact aP ho
 ·refine lH (id hT) fun oT ts hT1 hT2 hT3 hT4 hT5 hT6=>?_
  have hLL:L'=L:=by rw [hL] at hL';exact (sJ hL').symm
  subst hLL
  refine wB (wpAny_field he hd h1 ?_)
  rw [if_pos (show (Value.ref T !=Value.none)=true from by simp)]
  refine wB (wpAny_field hT1 hT3 hT4 ?_)
  rw [if_pos (show (rawInt L'==rawInt L')=true from by (simp;done))]
  exact wP (h G s L' hL (bB.refl G s) I ⟨e,vs,T,rfl,⟨oe,he,hc,hd,hz,how,hph⟩,h2,h1,hT⟩)
theorem qU {m:Bool} {fl x:Value} {k:Nat} (I:Inv C sc A env G σ s) (y:XAt G s.heap m fl x k)
  (h:∀s',bB G s G s'→Inv C sc A env G σ s'→kQ G s'.heap env m x k→E x s'):cameBackBy (model C.prog C.w) A env E x s:=by
 (refine hY (id y) fun e vs T e_3 t_4 h2 h1 hT=>?_;obtain rfl:=e_3;(refine eT t_4 fun oe he hc hd hz how hph=>?_;try clear t_4))
 refine elE (I.ok.frame) fun L hL=>?_
 unfold cameBackBy
 refine wB (wpAny_field he hd h1 ?_)
 rw [if_neg (by simp)]
 refine fR I y fun s' st I' y'=>h s' st I' ?_
 rw [hL] at y'
 exact y'.rel hL
theorem uQ {α:Type} {Q:α→Shared→Prop} {m:Bool} {fl x:Value} {k:Nat} {what:String} (I:Inv C sc A env G σ s) (y:XAt G s.heap m fl x k)
  (h:∀s',bB G s G s'→Inv C sc A env G σ s'→kQ G s'.heap env m x k→E x s'):wpAny (model C.prog C.w) A (PySem.passOn what x env:Sem α) Q E s:=by
 (refine hY (id y) fun e vs T e_1 t_2 h2 h1 hT=>?_;obtain rfl:=e_1;(refine eT t_2 fun oe he hc hd hz how hph=>?_;try clear t_2))
 refine elE (I.ok.frame) fun L hL=>?_
 unfold PySem.passOn
 refine wB (wpAny_field he hd h1 ?_)
 rw [if_neg (by simp)]
 refine wB (fR I y fun s' st I' y'=>wpAny_throw (h s' st I' ?_))
 rw [hL] at y'
 exact y'.rel hL
theorem pG {m:Bool} {x:Value} {k:Nat} (I:Inv C sc A env G σ s) (y:kQ G s.heap env m x k)
  (h:∀G' s',bB G s G' s'→Inv C sc A env G' σ s'→kQ G' s'.heap env m x k→E x s'):notedBy (model C.prog C.w) A env (fun e s'=>cameBackBy (model C.prog C.w) A env E e s') x s:=by
 unfold notedBy
 refine iL I y fun G' s' L hL st I' y'=>?_
 exact qU I' y' fun s'' st' I'' y''=>h G' s'' (st.trans st') I'' y''
noncomputable def bW (test:M Bool) (body orelse:M Fl):Nat→M Fl
 | 0=>M.fail
 | k+1=>M.bind test fun b=>match b with
  | false=>orelse
  | true=>M.bind body fun fl=>match fl with
   | .next=>bW test body orelse k
   | .cont=>bW test body orelse k
   | .brk=>M.pure .next
   | .ret v=>M.pure (.ret v)
theorem dK (N:Nat) {t:Expr} {body orelse:List Stmt} {pos:Pos} {c:M Bool} {f g:M Fl} (ht:mL C hd n sc t c) (hb:bQ C hd n sc body f) (ho:bQ C hd n sc orelse g):fK C hd n sc (.While t body orelse pos) (bW c f g N):=by
 intro A env G σ s hA I r σ' e
 refine wpAny_While (codeAny_whileLoop (fun m s'=>∃G' σ₂,bW c f g m σ₂=some (r,σ')∧bB G s G' s'∧Inv C sc A env G' σ₂ s') ?_ N ⟨G,σ,e,bB.refl G s,I⟩)
 rintro m s₁ ⟨G₁,σ₁,e1,st1,I1⟩
 have exc:∀{k:Nat} {G₂:Gh} {s₂:Shared} {x:Value},r= .exc k→bB G s G₂ s₂→Inv C sc A env G₂ σ' s₂→kQ G₂ s₂.heap env sc.hm x k→
   notedBy (model C.prog C.w) A env (fun e s'=>cameBackBy (model C.prog C.w) A env (fun x s'=>∃k G',r= .exc k∧bB G s G' s'∧Inv C sc A env G' σ' s'∧kQ G' s'.heap env sc.hm x k) e s') x s₂:=by
  intro k G₂ s₂ x hr st I x'
  exact pG I x' fun G3 s3 st3 I3 x3=>⟨k,G3,hr,st.trans st3,I3,x3⟩
 cases m with
 | zero=>exact aP e1
 | succ m=>
  unfold bW at e1
  focus (refine elrEAoEEA (M.bind_some e1) (fun k e2 r_2=>?_) fun b σ₂ e2 e3=>?_;obtain rfl:=r_2;rotate_left;rotate_left)
  ·refine wpAny_mono (ht A env G₁ σ₁ s₁ hA I1 _ _ e2) (fun a s' h=>?_) fun x s' h=>?_
   ·exact (mK h).elim
   ·(refine bG (tre h) fun G' st I' x'=>?_)
    exact exc rfl (st1.trans st) I' x'
  ·refine wpAny_mono (ht A env G₁ σ₁ s₁ hA I1 _ _ e2) (fun a s' h=>?_) fun x s' h=>?_
   ·(refine bG (trq h) fun G₂ st2 I2 p=>?_)
    subst p
    cases b with
    | false=>
     rw [if_neg (by decide)]
     refine wpAny_mono (ho A env G₂ σ₂ s' hA I2 _ _ e3) (fun fl s'' h=>?_) fun x s'' h=>?_
     ·(refine bL h fun b' G3 q st3 I3 p=>?_;try clear h)
      exact ⟨b',G3,q,st1.trans (st2.trans st3),I3,p⟩
     ·(refine bL h fun j G3 q st3 I3 x3=>?_;try clear h)
      exact exc q (st1.trans (st2.trans st3)) I3 x3
    | true=>
     rw [if_pos rfl]
     focus (refine elrEAoEEA (M.bind_some e3) (fun k e4 r_1=>?_) fun fl σ3 e4 e5=>?_;obtain rfl:=r_1;rotate_left;rotate_left)
     ·refine wpAny_mono (hb A env G₂ σ₂ s' hA I2 _ _ e4) (fun a s' h=>?_) fun x s' h=>?_
      ·exact (mK h).elim
      ·(refine bG (tre h) fun G' st I' x'=>?_)
       exact exc rfl (st1.trans (st2.trans st)) I' x'
     ·refine wpAny_mono (hb A env G₂ σ₂ s' hA I2 _ _ e4) (fun a s'' h=>?_) fun x s'' h=>?_
      ·(refine bG (trq h) fun G3 st3 I3 p=>?_)
       have st:=st1.trans (st2.trans st3)
       cases p with
       | next=>exact ⟨m,Nat.lt_succ_self m,G3,σ3,e5,st,I3⟩
       | cont=>exact ⟨m,Nat.lt_succ_self m,G3,σ3,e5,st,I3⟩
       | brk=>cases e5;exact ⟨_,G3,rfl,st,I3,.next⟩
       | ret rv=>cases e5;exact ⟨_,G3,rfl,st,I3,.ret rv⟩
      ·exact (fI h).elim
   ·exact (fI h).elim
end
section
variable {C:Cx} {hd:Bool} {n:Nat} {sc:SC} {A:Around} {env:Env} {G:Gh} {σ:St} {s:Shared} {Q E:Value→Shared→Prop}
theorem qV:∀k,lV k=lV (k % 2)
 | 0=>rfl
 | 1=>rfl
 | n+2=>by rw [Nat.add_mod_right];exact qV n
structure aGe (T:String):Prop where
 exc:isSubtype (.type T) (.type "BaseException")=pure true
 nt:isSubtype (.type ((Manifest.find? T).elim "type" fun x=>x.metatype)) (.type "tuple")=pure false
 self:isSubtype (.type T) (.type T)=pure true
theorem aKx:aGe (lV 0):=⟨by rw [isSubtype_type];kernel_rfl,by rw [isSubtype_type];kernel_rfl,by rw [isSubtype_type];kernel_rfl⟩
theorem aKy:aGe (lV 1):=⟨by rw [isSubtype_type];kernel_rfl,by rw [isSubtype_type];kernel_rfl,by rw [isSubtype_type];kernel_rfl⟩
theorem aSj (k:Nat):aGe (lV k):=by
 rw [qV]
 rcases (by lia:k % 2=0∨k % 2=1) with h|h <;> rw [h]
 ·exact aKx
 ·exact aKy
theorem Inv.mark {A':Around} (I:Inv C sc A env G σ s) (hf:A'.frames=A.frames) (hm:sc.hm=false):Inv C sc A' env G σ s:=
 ⟨I.x0,I.baseW,I.gens,I.os,I.ok,I.g,I.vars,I.cells,I.apart,by rw [hf];exact I.lnk,I.frs,fun q=>by rw [hm] at q;exact jI q⟩
noncomputable def mR (j:Nat) (f g:M Fl):M Fl:=fun σ=>match f σ with
 | some (.exc k,σ')=>(match Nat.beq (k % 2) j with
  | true=>M.ne g σ'
  | false=>none)
 | o=>o
theorem AOk.mark (h:AOk hd n A) (e:Value):AOk false n (A.mark (some e)):=⟨h.depth,h.units,fun q=>by exact jI q⟩
theorem xE (j i:Nat) {z:Str} {p hp pos:Pos} {body suite:List Stmt} {b₀:Stmt} {f g:M Fl} (B:cH C) (hz:sc.gs[i]?=some z) (hmg:C.mg z=none) (hv:C.mb z=some (.type (lV j))) (hdb:(z==("__debug__":Str))=false)
  (hb:bQ C hd n sc body f) (hs:bQ C false n sc (b₀::suite) g) (hmf:autoParam (sc.hm=false) aX._auto_1) (hj:autoParam (Nat.ble j 1=true) aX._auto_1):
  fK C hd n sc (.Try body [.ExceptHandler (some (.Name z p)) none (b₀::suite) hp] [] [] pos) (mR j f g):=by
 intro A env G σ s hA I r σ' e
 have norm:∀fl σ',f σ=some (.ok fl,σ')→r= .ok fl∧mR j f g σ=some (.ok fl,σ'):=fun fl σ' e1=>by
  unfold mR at e ⊢
  rw [e1] at e ⊢
  cases e;exact ⟨rfl,rfl⟩
 cases e0:f σ with
 | none=>unfold mR at e;rw [e0] at e;exact aP e
 | some q=>
  obtain ⟨r0,σ₁⟩:=q
  cases r0 with
  | ok fl=>
   have:some (R.ok fl,σ₁)=some (r,σ'):=by unfold mR at e;rw [e0] at e;exact e
   cases this
   refine wpAny_Try_except (wpAny_mono (hb A env G σ s hA I _ _ e0) (fun fw s' h=>?_) fun x s' h=>?_)
   ·(refine bL h fun b G' q st I' p=>?_;try clear h)
    cases p with
    | next=>exact wpAny_execs_nil ⟨_,G',q,st,I',.next⟩
    | brk=>exact ⟨_,G',q,st,I',.brk⟩
    | cont=>exact ⟨_,G',q,st,I',.cont⟩
    | ret rv=>exact ⟨_,G',q,st,I',.ret rv⟩
   ·exact (fI h).elim
  | exc k=>
   unfold mR at e
   rw [e0] at e
   simp only at e
   split at e
   ·rename_i hk
    have hk:k % 2=j:=Nat.eq_of_beq_eq_true hk
    have hT:lV k=lV j:=by rw [qV,hk]
    (refine aJ (M.ne_some e) fun fl e_6 eg=>?_;obtain rfl:=e_6)
    refine wpAny_Try_except (wpAny_mono (hb A env G σ s hA I _ _ e0) (fun fw s' h=>?_) fun x s' h=>?_)
    ·exact (mK h).elim
    ·(refine bG (tre h) fun G' st I' x'=>?_)
     refine iL I' x' fun G2 s2 L hL st2 I2 x2=>?_
     refine fR I2 x2 fun s3 st3 I3 x3=>?_
     (refine iD (id x3) fun ea vs T e_5 lY=>?_;obtain rfl:=e_5)
     have hX:=aSj j
     refine wpAny_handleBy_builtin (X:=lV k) (T:=lV j) (b:=true) hX.exc hX.nt (by rw [hT];exact hX.self) ?_
     have I3':Inv C sc (A.mark (some (.ref ea))) env G2 σ₁ s3:=I3.mark rfl hmf
     refine gC B I3' (I3'.ok.globs i z hz) hmg hv hdb ⟨rfl,?_,?_⟩
     ·(refine elA lY fun t3_1 _=>?_;try clear lY;obtain ⟨oe,he,hc,_⟩:=t3_1)
      exact ⟨oe,he,hc⟩
     ·rw [if_pos rfl]
      refine fR I3' x3 fun s4 st4 I4 x4=>?_
      refine wpAny_mono (hs (A.mark (some (.ref ea))) env G2 σ₁ s4 (hA.mark _) I4 _ _ eg) (fun fw s5 h=>?_) fun x s5 h=>?_
      ·(refine bG (trq h) fun G5 st5 I5 p=>?_)
       exact ⟨_,G5,rfl,st.trans (st2.trans (st3.trans (st4.trans st5))),I5.mark rfl hmf,p⟩
      ·exact (fI h).elim
   ·exact (nof e).elim
noncomputable def qW (o:Option (R Fl×St)) (a:St→Option (R Fl×St)) (b:Nat→St→Option (R Fl×St)):Option (R Fl×St):=match o with
 | some (x,σ₂)=>(match x with| .ok fl=>(match fl with| .next=>a σ₂|_=>none)| .exc k=>b k σ₂)
 | none=>none
theorem xF {o:Option (R Fl×St)} {a:St→Option (R Fl×St)} {b:Nat→St→Option (R Fl×St)} {r:R Fl×St} (e:qW o a b=some r) {P:Prop}
  (h1:∀σ₂,o=some (.ok .next,σ₂)→a σ₂=some r→P) (h2:∀k σ₂,o=some (.exc k,σ₂)→b k σ₂=some r→P):P:=by
 rcases o with _|⟨fl|k,σ₂⟩
 ·exact aP e
 ·cases fl <;> first|exact aP e|exact h1 _ rfl e
 ·exact h2 _ _ rfl e
noncomputable def zN (f g g':M Fl):M Fl:=fun σ=>match f σ with
 | none=>none
 | some (x,σ₁)=>(match x with
  | .ok fl=>qW (g σ₁) (fun σ₂=>some (.ok fl,σ₂)) fun k σ₂=>some (.exc k,σ₂)
  | .exc k=>(match Nat.ble 2 k with
   | true=>none
   | false=>qW (g' σ₁) (fun σ₂=>some (.exc k,σ₂)) fun k' σ₂=>some (.exc (k'+2),σ₂)))
noncomputable abbrev SC.h (sc:SC):SC:=⟨sc.vs,sc.gs,true⟩
noncomputable def Gh.less (G:Gh) (e T:Addr):Gh:=⟨G.W,fun a=>G.own a∧a≠e∧a≠T,G.frs,G.phi⟩
noncomputable def Gh.more (G:Gh) (e T:Addr):Gh:=⟨G.W,fun a=>G.own a∨a=e∨a=T,G.frs,G.phi⟩
theorem aGf {A':Around} {e T:Addr} {m:Bool} {fl:Value} {k:Nat} {vs:Array Value} (I:Inv C sc A env G σ s) (hf:A'.frames=A.frames) (hh:A'.handled=some (.ref e)) (x:XIs G s.heap e k vs) (h2:vs[2]?=some .none) (t:aQl G s.heap T fl):Inv C sc.h A' env (G.less e T) σ s:=by
 (refine eT x fun oe he hc hd hz how hph=>?_;try clear x)
 (refine lH t fun oT ts hT hcT hdT h3 hoT hpT=>?_;try clear t)
 have mv:∀z v,aI G s.heap z v→aI (G.less e T) s.heap z v:=fun z v r=>aI.weakW (G:=G) (G':=G.less e T) (fun _ q=>q) rfl r
 have nl:∀a o ws,s.heap.get? a=some o→o.data= .fields ws→env.locals≠a:=fun a o ws h1 h2 q=>by refine aJ (I.vars.loc) fun m y _=>?_;exact iB (q ▸ y) h1 h2
 have nc:∀a o ws,s.heap.get? a=some o→o.data= .fields ws→∀c ov,s.heap.IsCell c ov→c≠a:=fun a o ws h1 h2 c ov q e=>by
  (refine aJ q fun o2 e1 e2=>?_;try clear q)
  rw [e,h1] at e1;(obtain rfl:=sJ e1);rw [h2] at e2;cases e2
 refine ⟨I.x0,I.baseW,I.gens,I.os,⟨I.ok.kind,I.ok.glob,I.ok.blt,I.ok.small,I.ok.kinds',I.ok.globs,I.ok.frame⟩,⟨fun a q=>I.g.own a q.1,I.g.frs,I.g.lt⟩,⟨?_,?_,⟨I.vars.ownL,nl e oe _ he hd,nl T oT _ hT hdT⟩,?_,I.vars.apart⟩,⟨I.cells.len,fun m a h=>⟨I.cells.own m a h,fun q=>hph (q ▸ mem_of_getElem? h),fun q=>hpT (q ▸ mem_of_getElem? h)⟩,I.cells.inj,I.cells.nfr,fun m a y h h'=>?_⟩,I.apart,by rw [hf];exact I.lnk,I.frs,fun _=>?_⟩
 ·refine aJ (I.vars.loc) fun m hn hm=>?_
  exact ⟨m,hn,fun y z h1 h2=>let ⟨v,hv,r⟩:=hm y z h1 h2;⟨v,hv,mv _ _ r⟩⟩
 ·intro y ky h1 h2
  refine cD (I.vars.cel y ky h1 h2) fun c ov hc hi hr=>?_
  exact ⟨c,ov,hc,hi,fun z hz=>let ⟨v,hv,r⟩:=hr z hz;⟨v,hv,mv _ _ r⟩⟩
 ·intro y c h1 h2
  refine cD (I.vars.cel y _ h1 (.inl rfl)) fun c' ov hc' hi _=>?_
  rw [h2] at hc';(obtain rfl:=sJ hc')
  exact ⟨I.vars.ownC y c h1 h2,nc e oe _ he hd c ov hi,nc T oT _ hT hdT c ov hi⟩
 ·refine aJ (I.cells.at' m a y h h') fun o ho r=>?_
  exact ⟨o,ho,r.mono mv fun _ _ q=>q⟩
 ·exact ⟨e,oe,vs,hh,he,hd,h2,I.g.own e how,fun q=>q.2.1 rfl,fun q=>by refine elE (I.frs e q) fun m y=>?_;exact iB y he hd⟩
theorem xG {A':Around} {e T:Addr} (I:Inv C sc.h A' env G σ s) (hf:A'.frames=A.frames) (hm:sc.hm=false) (he:G.W e) (hT:G.W T):Inv C sc A env (G.more e T) σ s:=by
 have mv:∀z v,aI G s.heap z v→aI (G.more e T) s.heap z v:=fun z v r=>aI.weakW (G:=G) (G':=G.more e T) (fun _ q=>q) rfl r
 refine ⟨I.x0,I.baseW,I.gens,I.os,⟨I.ok.kind,I.ok.glob,I.ok.blt,I.ok.small,I.ok.kinds',I.ok.globs,I.ok.frame⟩,⟨fun a q=>q.elim (I.g.own a) fun q=>q.elim (fun q=>q ▸ he) fun q=>q ▸ hT,I.g.frs,I.g.lt⟩,⟨?_,?_,.inl I.vars.ownL,fun y c h1 h2=> .inl (I.vars.ownC y c h1 h2),I.vars.apart⟩,⟨I.cells.len,fun m a h=> .inl (I.cells.own m a h),I.cells.inj,I.cells.nfr,fun m a y h h'=>?_⟩,I.apart,by rw [←hf];exact I.lnk,I.frs,fun q=>by rw [hm] at q;exact jI q⟩
 ·refine aJ (I.vars.loc) fun m hn hm=>?_
  exact ⟨m,hn,fun y z h1 h2=>let ⟨v,hv,r⟩:=hm y z h1 h2;⟨v,hv,mv _ _ r⟩⟩
 ·intro y ky h1 h2
  refine cD (I.vars.cel y ky h1 h2) fun c ov hc hi hr=>?_
  exact ⟨c,ov,hc,hi,fun z hz=>let ⟨v,hv,r⟩:=hr z hz;⟨v,hv,mv _ _ r⟩⟩
 ·refine aJ (I.cells.at' m a y h h') fun o ho r=>?_
  exact ⟨o,ho,r.mono mv fun _ _ q=>q⟩
theorem tC {G':Gh} {s':Shared} {e T:Addr} (st:bB (G.less e T) s G' s') (he:G.own e) (hT:G.own T):bB G s (G'.more e T) s':=
 ⟨fun a o h n f=>st.keep a o h (fun q=>n q.1) f,fun a o h n=>st.slots a o h fun q=>n q.1,st.alive,st.W,st.W',fun a q=>by
  by_cases h1:a=e
  ·exact .inr (.inl h1)
  ·by_cases h2:a=T
   ·exact .inr (.inr h2)
   ·exact .inl (st.own a ⟨q,h1,h2⟩),
  fun a q=>q.elim (fun q=>(st.own' a q).imp (fun q=>q.1) id) fun q=>q.elim (fun q=> .inl (q ▸ he)) fun q=> .inl (q ▸ hT),st.frs,st.phi,st.gens,st.os⟩
theorem XAt.more {h:Heap} {x:Value} {k:Nat} {e T:Addr} {fl:Value} (y:XAt G h true fl x k):XAt (G.more e T) h sc.hm fl x (k+2):=by
 (refine jH y fun e' vs T' e_3 t_4 h2 h1 oT ts hT hcT hdT h3 hoT hpT=>?_;try clear y;obtain rfl:=e_3;(refine eT t_4 fun oe he hc hd hz how hph=>?_;try clear t_4))
 exact ⟨e',vs,T',rfl,⟨oe,he,hc,hd,hz,.inl how,hph⟩,fun _ q=>absurd q (by lia),h1,oT,ts,hT,hcT,hdT,h3,.inl hoT,hpT⟩
theorem uR {body fs:List Stmt} {f₀:Stmt} {pos:Pos} {f g g':M Fl} (hb:bQ C hd n sc body f) (hn:bQ C hd n sc (f₀::fs) g) (hr:bQ C false n sc.h (f₀::fs) g') (hmf:autoParam (sc.hm=false) aX._auto_1):
  fK C hd n sc (.Try body [] [] (f₀::fs) pos) (zN f g g'):=by
 intro A env G σ s hA I r σ' e
 cases e0:f σ with
 | none=>unfold zN at e;rw [e0] at e;exact aP e
 | some q=>
  obtain ⟨r0,σ₁⟩:=q
  cases r0 with
  | ok fl=>
   unfold zN at e
   rw [e0] at e
   simp only at e
   have fin:∀(fw:Flow) (G':Gh) (s':Shared),bB G s G' s'→Inv C sc A env G' σ₁ s'→uE G' s'.heap fl fw→
     wpAny (model C.prog C.w) A (execs (f₀::fs) env) (fun gf s'=>match gf with
      | .next=>(fun a s'=>∃b G',r=R.ok b∧bB G s G' s'∧Inv C sc A env G' σ' s'∧uE G' s'.heap b a) fw s'
      | gf=>(fun a s'=>∃b G',r=R.ok b∧bB G s G' s'∧Inv C sc A env G' σ' s'∧uE G' s'.heap b a) gf s')
      (notedBy (model C.prog C.w) A env (cameBackBy (model C.prog C.w) A env (fun x s'=>∃k G',r=R.exc k∧bB G s G' s'∧Inv C sc A env G' σ' s'∧kQ G' s'.heap env sc.hm x k))) s':=by
    intro fw G' s' st I' p
    refine xF e (fun σ₂ eg e=>?_) fun kk σ₂ eg e=>?_
    ·(refine elA (aZ e) fun z1 z2=>?_;obtain rfl:=z1;obtain rfl:=z2)
     refine wpAny_mono (hn A env G' σ₁ s' hA I' _ _ eg) (fun gf s'' h=>?_) fun x s'' h=>?_
     ·(refine bG (trq h) fun G2 st2 I2 p2=>?_)
      cases p2
      refine ⟨fl,G2,rfl,st.trans st2,I2,?_⟩
      cases p with
      | next=>exact .next
      | brk=>exact .brk
      | cont=>exact .cont
      | ret rv=>exact .ret (rv.step I'.g st2)
     ·exact (fI h).elim
    ·(refine elA (aZ e) fun z1 z2=>?_;obtain rfl:=z1;obtain rfl:=z2)
     refine wpAny_mono (hn A env G' σ₁ s' hA I' _ _ eg) (fun gf s'' h=>?_) fun x s'' h=>?_
     ·exact (mK h).elim
     ·(refine bG (tre h) fun G2 st2 I2 x2=>?_)
      exact pG I2 x2 fun G3 s3 st3 I3 x3=>⟨kk,G3,rfl,st.trans (st2.trans st3),I3,x3⟩
   refine wpAny_Try_finally (wpAny_mono (hb A env G σ s hA I _ _ e0) (fun fw s' h=>?_) fun x s' h=>?_)
   ·(refine bG (trq h) fun G' st I' p=>?_)
    cases fw with
    | next=>exact wpAny_execs_nil (fin _ G' s' st I' p)
    | brk=>exact fin _ G' s' st I' p
    | cont=>exact fin _ G' s' st I' p
    | ret v=>exact fin _ G' s' st I' p
   ·exact (fI h).elim
  | exc k=>
   delta zN at e
   rw [e0] at e
   dsimp only at e
   cases hk:Nat.ble 2 k with
   | true=>rw [hk] at e;exact aP e
   | false=>
   rw [hk] at e
   dsimp only at e
   have hk2:k < 2:=by
    by_cases q:2≤k
    ·rw [Nat.ble_eq_true_of_le q] at hk;exact aRw hk
    ·lia
   refine wpAny_Try_finally (wpAny_mono (hb A env G σ s hA I _ _ e0) (fun fw s' h=>?_) fun x s' h=>?_)
   ·exact (mK h).elim
   ·(refine bG (tre h) fun G' st I' x'=>?_)
    refine iL I' x' fun G1 s1 L hL st1 I1 x1=>?_
    refine ⟨(by (refine iD x1 fun ea _ _ e_2 _=>?_;try clear x1;obtain rfl:=e_2);exact ref_ne_byPass ea),?_⟩
    refine iL I1 (x1.rel hL) fun G2 s2 L2 hL2 st2 I2 x2=>?_
    refine fR I2 x2 fun s3 st3 I3 x3=>?_
    (refine hY x3 fun ea vs T e_1 hX h2 h1 hT=>?_;try clear x3;obtain rfl:=e_1)
    have hwX:G2.own ea:=hX.choose_spec.2.2.2.2.1
    have hwT:G2.own T:=by (refine lH hT fun _ _ _ _ _ _ q _=>?_;try clear hT);exact q
    have Ih:Inv C sc.h (A.mark (some (.ref ea))) env (G2.less ea T) σ₁ s3:=aGf (A':=A.mark (some (.ref ea))) (m:=false) I3 rfl rfl hX (h2 hmf hk2) hT
    have stA:=st.trans (st1.trans (st2.trans st3))
    have after:∀{G4:Gh} {s4:Shared},bB (G2.less ea T) s3 G4 s4→G4.W ea∧G4.W T:=fun st4=>⟨st4.W _ (I3.g.own _ hwX),st4.W _ (I3.g.own _ hwT)⟩
    refine xF e (fun σ₂ eg e=>?_) fun kk σ₂ eg e=>?_
    ·(refine elA (aZ e) fun z1 z2=>?_;obtain rfl:=z1;obtain rfl:=z2)
     refine wpAny_mono (hr (A.mark (some (.ref ea))) env _ σ₁ s3 (hA.mark _) Ih _ _ eg) (fun gf s4 h=>?_) fun x s4 h=>?_
     ·(refine bG (trq h) fun G4 st4 I4 p4=>?_)
      cases p4
      have I5:Inv C sc A env (G4.more ea T) σ₂ s4:=xG (A':=A.mark (some (.ref ea))) I4 rfl hmf (after st4).1 (after st4).2
      have st5:=tC st4 hwX hwT
      (refine eT hX fun oe he hc hd' hz how hph=>?_;try clear hX)
      (refine lH hT fun oT ts hT1 hT2 hT3 hT4 hT5 hT6=>?_;try clear hT)
      have phi4:∀a o,s3.heap.get? a=some o→a∉G2.phi→a∉G4.phi:=fun a o ha hn q=>by
       refine aJ (st4.phi) fun l e1 f1=>?_
       rw [e1] at q
       rcases mem_append.mp q with q|q
       ·exact hn q
       ·rw [f1 a q] at ha;exact aP ha
      have nf:∀a o ws,s3.heap.get? a=some o→o.data= .fields ws→¬G2.frs a:=fun a o ws h1 h2 q=>by refine elE (I3.frs a q) fun m y=>?_;exact iB y h1 h2
      refine uQ I5 (m:=sc.hm) (k:=k) (fl:=none.elim .none fun f:Addr=>rawInt f) ⟨ea,vs,T,rfl,⟨oe,st4.keep ea oe he (fun q=>q.2.1 rfl) (nf ea oe _ he hd'),hc,hd',hz,.inr (.inl rfl),phi4 ea oe he hph⟩,h2,h1,oT,ts,st4.keep T oT hT1 (fun q=>q.2.2 rfl) (nf T oT _ hT1 hT3),hT2,hT3,hT4,.inr (.inr rfl),phi4 T oT hT1 hT6⟩ fun s6 st6 I6 x6=>?_
      exact ⟨k,_,rfl,stA.trans (st5.trans st6),I6,x6⟩
     ·exact (fI h).elim
    ·(refine elA (aZ e) fun z1 z2=>?_;obtain rfl:=z1;obtain rfl:=z2)
     refine wpAny_mono (hr (A.mark (some (.ref ea))) env _ σ₁ s3 (hA.mark _) Ih _ _ eg) (fun gf s4 h=>?_) fun x s4 h=>?_
     ·exact (mK h).elim
     ·(refine bG (tre h) fun G4 st4 I4 x4=>?_)
      unfold notedBy
      refine iL I4 x4 fun G5 s5 L5 hL5 st5 I5 x5=>?_
      have st45:=st4.trans st5
      have I6:Inv C sc A env (G5.more ea T) σ₂ s5:=xG (A':=A.mark (some (.ref ea))) I5 rfl hmf (after st45).1 (after st45).2
      refine qU I6 (m:=sc.hm) (k:=kk+2) (x5.more (sc:=sc) (e:=ea) (T:=T)) fun s6 st6 I7 x7=>?_
      exact ⟨kk+2,_,rfl,stA.trans ((tC st45 hwX hwT).trans st6),I7,x7⟩
end
section
variable {C:Cx} {hd:Bool} {n:Nat} {sc:SC} {A:Around} {env:Env} {G:Gh} {σ:St} {s:Shared} {Q E:Value→Shared→Prop}
theorem cB {ts:List Stmt}:bQ C hd n sc ts M.fail:=fun _ _ _ _ _ _ _=>Tr.fail
theorem dS {t:Stmt}:fK C hd n sc t M.fail:=fun _ _ _ _ _ _ _=>Tr.fail
theorem sK:entryFor table "proto.unchain"=some Builtin.«proto.unchain»:=entryFor_of_tree (by kernel_rfl)
theorem kA {α:Type} {cls msg:String} {Q:α→Shared→Prop} {e₁:Addr} {o:Obj} {vs:Array Value} (hp:PlainExc cls) (hh:A.handled=some (.ref e₁)) (ho:s.heap.get? e₁=some o) (hd:o.data= .fields vs) (h2:vs[2]?=some .none)
  (h:∀h' tk e ob ws,(∀b o,s.heap.get? b=some o→h'.get? b=some o)→s.heap.get? e=none→h'.get? e=some ob→ob.cls= .type cls→ob.data= .fields ws→4 < ws.size→ws[1]?=some .none→E (.ref e) { s with heap:=h',toks:=tk }):
  wpAny (model C.prog C.w) A (raiseErrorWords cls msg:Sem α) Q E s:=by
 unfold raiseErrorWords
 refine wB (wpAny_mkText (wB ?_))
 unfold newExc newTuple
 refine wB (wpAny_newObj_type ?_)
 refine wB (m:=firstArgMember _ _) (wpAny_of_eq (a:=Value.none) (by simp only [firstArgMember,hp.first];rfl) ?_)
 rw [hp.own]
 refine wpAny_newObj_type ?_
 unfold raiseNew
 refine wB (wpAny_handled ?_)
 rw [hh]
 have lt:=Heap.lt_size ho
 have hne:e₁≠(s.heap.push { cls:= .type "tuple",data:= .seq ([Value.str msg s.toks]:List Value).toArray }).objs.size:=by rw [Heap.size_push];exact Nat.ne_of_lt (Nat.lt_succ_of_lt lt)
 have hold:((s.heap.push { cls:= .type "tuple",data:= .seq ([Value.str msg s.toks]:List Value).toArray }).push
  { cls:= .type cls,data:= .fields (#[Value.ref s.heap.objs.size,.none,.none,.none,.bool false,.none]++ #[]) }).get? e₁=some o:=Heap.get?_push_of_some _ (Heap.get?_push_of_some _ ho)
 have hnew:((s.heap.push { cls:= .type "tuple",data:= .seq ([Value.str msg s.toks]:List Value).toArray }).push
  { cls:= .type cls,data:= .fields (#[Value.ref s.heap.objs.size,.none,.none,.none,.bool false,.none]++ #[]) }).get? (s.heap.push { cls:= .type "tuple",data:= .seq ([Value.str msg s.toks]:List Value).toArray }).objs.size
   =some { cls:= .type cls,data:= .fields (#[Value.ref s.heap.objs.size,.none,.none,.none,.bool false,.none]++ #[]) }:=Heap.get?_push_size _ rfl
 dsimp only
 rw [if_pos (bne_iff_ne.mpr fun q=>hne (Value.ref.inj q))]
 refine wB (wpAny_holding (wpAny_runValue (codeAny_builtin sK ?_)))
 unfold Builtin.«proto.unchain»
 refine wB (wpAny_field hold hd h2 ?_)
 rw [if_pos (by decide)]
 refine wB (wP (wP ?_))
 show wpAny _ _ _ _ _ _
 unfold updateField
 refine wB (wB (wpAny_load hnew ?_))
 dsimp only
 rw [if_pos (by simp)]
 refine wpAny_update hnew (wpAny_throw ?_)
 have hd':=Obj.data_mapFields (o:={ cls:= .type cls,data:= .fields (#[Value.ref s.heap.objs.size,.none,.none,.none,.bool false,.none]++ #[]) }) rfl (·.setIfInBounds 2 (Value.ref e₁))
 have hu:=Heap.get?_update_self (Obj.mapFields (·.setIfInBounds 2 (Value.ref e₁))) hnew (Obj.isFreed_of_fields hd')
 refine h _ s.toks.succ _ _ _ (fun b o' hb=>?_) (Heap.get?_none_of_le (by simp)) hu (Obj.cls_mapFields _ _) hd' (by simp) (by simp)
 have lb:=Heap.lt_size hb
 rw [Heap.get?_update_other _ _ (by rw [Heap.size_push];exact Ne.symm (Nat.ne_of_lt (Nat.lt_succ_of_lt lb)))]
 exact Heap.get?_push_of_some _ (Heap.get?_push_of_some _ hb)
theorem sL {l:Addr} {items:Array Value} {k:Int} {t:Tok} {Q:Value→Shared→Prop} {e₁:Addr} {o₁:Obj} {vs:Array Value} (hh:A.handled=some (.ref e₁)) (ho₁:s.heap.get? e₁=some o₁) (hd₁:o₁.data= .fields vs) (h2:vs[2]?=some .none)
  (hl:s.heap.IsList l items) (h0:0≤k) (hout:(items.size:Int)≤k) (hhi:k < 2 ^ 63)
  (h:∀h' tk e ob ws,(∀b o,s.heap.get? b=some o→h'.get? b=some o)→s.heap.get? e=none→h'.get? e=some ob→ob.cls= .type "IndexError"→ob.data= .fields ws→4 < ws.size→ws[1]?=some .none→E (.ref e) { s with heap:=h',toks:=tk }):
  wpAny (model C.prog C.w) A (getItem (.ref l) (.int k t)) Q E s:=by
 refine fJ (id hl) fun o ho hc ne hd=>?_
 unfold getItem
 try with_reducible refine wpAny_holding ?_
 first|refine wB (wP ?_)|skip
 refine wB (wpAny_sequenceKey hl.typeIs (by decide) ?_)
 refine wB (wpAny_callSpecial?_slot (name:=Str.ofString "__getitem__") hl.typeIs slot_list_getitem
  (wpAny_call_entry slot_list_getitem hl.typeIs entry_list_getitem ?_ (args_list_getitem _ _)))
 show wpAny _ _ (Builtin.List.listSubscript? (.int k t) >>=_) _ _ s
 refine wB (wpAny_listSubscript_int (fitsIndex_both (by lia) hhi) ?_)
 (refine elE (Int.eq_ofNat_of_zero_le h0) fun j e3_4=>?_;obtain rfl:=e3_4)
 have hx:items[j]?=none:=Array.getElem?_eq_none (by lia)
 show wpAny _ _ ((seqItemAt l j >>=fun r=>pure (r.map (j,·))) >>=_) _ _ s
 refine wB (wB (wpAny_seqItemAt ho hd (wP ?_)))
 rw [hx]
 first
  | exact wB (wpAny_rule (kA plainExc_IndexError hh ho₁ hd₁ h2 h))
  | exact wB (wpAny_rule (wB (kA plainExc_IndexError hh ho₁ hd₁ h2 h)))
  | exact wB (wB (wpAny_rule (kA plainExc_IndexError hh ho₁ hd₁ h2 h)))
  | exact wpAny_rule (kA plainExc_IndexError hh ho₁ hd₁ h2 h)
theorem qX {l:List MV} {vs:List Value} {a:Addr} {i:Int} {t:Tok} {r:R MV} (hA:mJ A G s.heap) (hl:s.heap.IsList a vs.toArray) (hr:aK G s.heap l vs) (e:idxL l i=some r)
  (hok:∀x v,r= .ok x→aI G s.heap x v→Q v s) (hex:r= .exc 0→∀h' tk e ob ws,(∀b o,s.heap.get? b=some o→h'.get? b=some o)→s.heap.get? e=none→h'.get? e=some ob→ob.cls= .type "IndexError"→ob.data= .fields ws→4 < ws.size→ws[1]?=some .none→E (.ref e) { s with heap:=h',toks:=tk }):
  wpAny (model C.prog C.w) A (getItem (.ref a) (.int i t)) Q E s:=
 wU hl hr e hok fun q h1 h2 h0 hn=>hY hA fun e₁ o₁ ws hh ho hd hw _=>sL hh ho hd hw hl h0 hn (by lia) (hex q)
theorem zO {value slice:Expr} {pos:Pos} {f g:M MV} (hv:aV C hd n sc.h value f) (hs:aV C hd n sc.h slice g)
  (hsub:autoParam (∀o i,subscripted slice false o i=operate [o,i] (getItem o i)) nB._auto_1):aV C hd n sc.h (.Subscript value slice pos) (M.bind f fun x=>M.bind g fun y=>fun σ=>oL x fun l=>oI y fun i=>M.liftR (idxL l i) σ):=by
 intro A env G σ s hA I
 rw [eval_Subscript]
 refine Tr.bind (hv A env G σ s hA I) fun x v G' σ' s' st I' p=>Tr.bind (Tr.holding (hs A env G' σ' s' hA I')) fun y u G'' σ'' s'' st' I'' p'=>Tr.stand ?_
 show Tr C sc.h A env G'' σ'' s'' (subscriptTail value slice v u) _ _
 have p:=p.step I'.g st'
 have hh:=I''.held rfl
 ·intro r σ₁ e
  refine aKi e p fun l vs a h1 h2 h3 e=>?_
  refine kO e p' fun i t e=>?_
  refine elA (jW e) fun e1 q2=>?_
  rw [q2]
  refine tail_any h1.typeIs slot_list_getitem.lookup (qX hh h1 h3 e1 (fun x v q r=>⟨x,G'',q,bB.refl _ _,I'',r⟩) fun q h' tk e ob ws k1 k2 k3 k4 k5 k6 k7=>?_) (hsub _ _)
  refine bG (I''.raiseOf (k:=0) (tk:=tk) k1 k2 k3 k4 k5 k6 k7 (fun q=>by exact aRw q)) fun G3 a1 a2 a3=>?_
  exact ⟨0,G3,q,a1,a2,a3⟩
noncomputable def tyM:MV→Option String
 | .bytes _=>some "bytes"
 | .int _=>some "int"
 | .bool _=>some "bool"
 | .tup _=>some "tuple"
 | .lst _=>some "list"
 | .none=>some "NoneType"
 | _=>none
set_option tactic.hygienic true in
theorem aQq {x:MV} {T:String} {v:Value} (e:tyM x=some T) (r:aI G s.heap x v):s.TypeIs v T:=by
 cases r <;> cases e
 ·rfl
 ·rfl
 ·rfl
 ·rfl
 ·rename_i h _ _;exact Heap.IsTuple.typeIs h
 ·rename_i h _ _;exact h.typeIs
noncomputable def aSk (l:List MV):M MV:=M.l1 l fun x=>M.lift ((tyM x).map .ty)
theorem qY:BOp C hd (.type "type") aSk:=by
 intro sc A env G σ s l vs hh hu I r
 refine Tr.l1 r fun x v hx=>Tr.of_ext I fun b e Q E h=>?_
 refine aJ (map_eq_some_iff.mp e) fun T e1 e_6=>?_
 rw [←e_6] at h
 refine call_type_of (aQq e1 hx) ?_ (h _ _ (Ext.refl s) (.ty T))
 cases x <;> first|exact aP e1|(rw [←sJ e1];decide)
noncomputable def aSl (T:String):M MV:=M.lift ((kitOne [] (.type "bytes") (.type T)).map .bool)
noncomputable def aSm (T U:String):M MV:=M.lift ((kitAny [] (.type "bytes") [.type T,.type U]).map .bool)
noncomputable def aUm (l:List MV):M MV:=M.l2 l fun x y=>fun σ=>oB x fun _=>match y with
 | .ty T=>aSl T σ
 | .tup l=>l2 l fun t u=>oY t fun T=>oY u fun U=>aSm T U σ
 | _=>none
theorem aBj:BOp C hd (.builtin "isinstance") aUm:=by
 intro sc A env G σ s l vs hh hu I r
 have X:Frag.In [] s.heap:=fun a o e=>by exact aP e
 refine Tr.l2 r fun x y v u hx hy r σ' e=>?_
 refine aSc e hx fun b t e=>?_
 cases hy with
 | ty T=>
  refine (Tr.of_ext I fun y e Q E h=>?_:Tr C sc A env G σ s _ (aSl T) _) r σ' e
  refine aJ (map_eq_some_iff.mp e) fun T e1 e_5=>?_
  rw [←e_5] at h
  exact kia_one kitx_bytes X trivial e1 (by intro q;cases q) fun tk=>h _ _ (Ext.toks s tk) (.bool _)
 | tup h1 h2 h3=>
  revert h1 h3
  refine aKh e fun t u e h1 h3=>?_
  revert h1
  refine aK.cons_e h3 fun va vs ra h3=>aK.cons_e h3 fun vb vs rb h3=>aK.nil_e h3 ?_
  refine aQk e ra fun T e=>aQk e rb fun U e h1=>?_
  refine (Tr.of_ext I fun y e Q E h=>?_:Tr C sc A env G σ s _ (aSm T U) _) r σ' e
  refine fJ h1 fun o ho hc k hdt=>?_
  obtain ⟨cls,dd,data,sl⟩:=o
  rw [show cls=_ from hc,show data=_ from hdt] at ho
  refine aJ (map_eq_some_iff.mp e) fun T e1 e_3=>?_
  rw [←e_3] at h
  exact kia_tup kitx_bytes X trivial ho e1 (by intro q;cases q) fun tk=>h _ _ (Ext.toks s tk) (.bool _)
 | _=>exact aP e
theorem aEb (i:Nat) {z:Str} {pos:Pos} {a:Addr} {T U:String} (B:cH C) (hz:sc.gs[i]?=some z) (hv:C.mg z=some (.ref a)) (ha:C.h₀.IsTuple a #[.type T,.type U]) (hdb:(z==("__debug__":Str))=false):aV C hd n sc (.Name z pos) (M.pure (.tup [.ty T,.ty U])):=by
 intro A env G σ s hA I r σ' e
 (have q_:=aZ e;clear e;(refine elA q_ fun e3_1 e3_2=>?_;try clear q_;obtain rfl:=e3_1;obtain rfl:=e3_2))
 refine gB B I (I.ok.globs i z hz) hv hdb ⟨_,G,rfl,bB.refl _ _,I,.tup (fX ha fun o e=>I.x0 _ o e) (fun q=>?_) (.cons (.ty T) (.cons (.ty U) .nil))⟩
 refine elE (gM ha) fun o e=>?_
 rw [I.baseW _ q] at e;exact aP e
noncomputable def gNo (G:Gh):Gh:=⟨fun _=>False,G.own,G.frs,G.phi⟩
noncomputable def aGg (op:CmpOp) (x y:MV):M Bool:=fun σ=>(frz σ.H x).bind fun x'=>(frz σ.H y).bind fun y'=>M.lift (cG op x' y') σ
theorem xH {x y:MV} {v:Value} (I:Inv C sc A env G σ s) (e:frz σ.H x=some y) (r:aI G s.heap x v):aI (gNo G) s.heap y v:=
 aBe (G:=gNo G) I.cells (fun _ q=>q.elim) (fun _ _ _ q=>q) e r
theorem tD {l r:Expr} {op:CmpOp} {pos:Pos} {f g:M MV} (hl:aV C hd n sc l f) (hr:aV C hd n sc r g) (hb:autoParam (behindInMarks op r=false) aX._auto_1):
  mL C hd n sc (.Compare l [op] [r] pos) (M.bind f fun x=>M.bind g fun y=>aGg op x y):=by
 intro A env G σ s hA I
 rw [isTrue_Compare1,markedBehindIn_of_false hb]
 refine Tr.bind (hl A env G σ s hA I) fun x v G' σ' s' st I' p=>?_
 refine Tr.bind (Tr.holding (hr A env G' σ' s' hA I')) fun y u G'' σ'' s'' st' I'' p'=>Tr.stand ?_
 intro r σ₁ e
 ·refine aJ (bind_eq_some_iff.mp e) fun x' ex e=>?_
  refine aJ (bind_eq_some_iff.mp e) fun y' ey e=>?_
  (refine bG (M.lift_some e) fun c ec e_1 e_2=>?_;obtain rfl:=e_1;obtain rfl:=e_2)
  refine wB (wpAny_operate' (jJ hA.u ec (xH I'' ex (p.step I'.g st')) (xH I'' ey p') ?_))
  exact wpAny_holding (wpAny_truthy_bool ⟨c,G'',rfl,bB.refl _ _,I'',rfl⟩)
end
section
variable {C:Cx} {hd:Bool} {n:Nat} {sc:SC} {A:Around} {env:Env} {G:Gh} {σ:St} {s:Shared} {Q E:Value→Shared→Prop}
structure aSn (G:Gh) (s:Shared) (G':Gh) (s':Shared):Prop where
 keep:∀a o,s.heap.get? a=some o→a∉G.phi→¬G.frs a→s'.heap.get? a=some o
 slots:∀a o,s.heap.get? a=some o→a∉G.phi→∃sl,s'.heap.get? a=some { o with slots:=sl }
 alive:∀a o,s.heap.get? a=some o→∃o',s'.heap.get? a=some o'
 W:∀a,G.W a→G'.W a
 W':∀a,G'.W a→G.W a∨s.heap.get? a=none
 phi:∃l,G'.phi=G.phi++l∧∀a∈l,s.heap.get? a=none
 frs:G'.frs=G.frs
 gens:s'.gens=s.gens
 os:s'.os=s.os
noncomputable def pH (G G':Gh):Gh:=⟨G'.W,fun a=>G.own a∨a∈G'.phi,G.frs,G'.phi⟩
structure zP (C:Cx) (G:Gh) (s:Shared) (G':Gh) (H':List MO) (s':Shared):Prop where
 st:aSn G s G' s'
 x0:∀a o,C.h₀.get? a=some o→s'.heap.get? a=some o
 baseW:∀a,G'.W a→C.h₀.get? a=none
 lt:∀a,G'.W a→∃o,s'.heap.get? a=some o
 cells:nD C G' H' s'.heap
 sub:∀a,a∈G'.phi→G'.W a
 frs:∀a,G'.frs a→∃m,s'.heap.Ns a m
theorem Inv.opened {G':Gh} {s':Shared} {H':List MO} (I:Inv C sc A env G σ s) (x:zP C G s G' H' s'):
  bB G s (pH G G') s'∧Inv C sc A env (pH G G') ⟨σ.r,H'⟩ s'∧∀z v,aI G' s'.heap z v→aI (pH G G') s'.heap z v:=by
 obtain ⟨t,x0,baseW,lt,cells,sub,frs⟩:=x
 have pown:∀a,a∈G.phi→G.own a:=fun a h=>I.phi_own h
 have phi':∀a,a∈G'.phi→a∈G.phi∨s.heap.get? a=none:=fun a ha=>by
  refine aJ (t.phi) fun l e f=>?_
  rw [e] at ha
  exact (mem_append.mp ha).imp id (f a)
 have mv0:∀z v,aI G' s'.heap z v→aI (pH G G') s'.heap z v:=fun z v r=>aI.weakW (G:=G') (G':=pH G G') (fun _ q=>q) rfl r
 have hk:∀a o,s.heap.get? a=some o→¬G.W a→s'.heap.get? a=some o∧¬(pH G G').W a:=fun a o e n=>
  ⟨t.keep a o e (fun q=>n (I.g.own a (pown a q))) (fun q=>n (I.g.frs a q)),fun q=>by
   rcases t.W' a q with q|q
   ·exact n q
   ·rw [e] at q;exact iS q⟩
 have phig:∀(m:Nat) a,G.phi[m]?=some a→(pH G G').phi[m]?=some a:=fun m a h=>by
  refine aJ (t.phi) fun l e f=>?_
  show G'.phi[m]?=_
  rw [e];exact getElem?_prefix h
 have st:bB G s (pH G G') s':=by
  refine ⟨fun a o e n f=>t.keep a o e (fun q=>n (pown a q)) f,fun a o e n=>t.slots a o e fun q=>n (pown a q),t.alive,t.W,t.W',fun a q=> .inl q,fun a q=>?_,rfl,t.phi,t.gens,t.os⟩
  rcases q with q|q
  ·exact .inl q
  ·exact (phi' a q).imp (pown a) id
 have locphi:env.locals∉G.phi:=fun q=>by
  obtain ⟨m,hm,e⟩:=getElem_of_mem q
  exact (I.apart m env.locals (by rw [getElem?_eq_getElem hm,e])).1 rfl
 have locO:∃o,s.heap.get? env.locals=some o:=I.g.lt _ (I.g.own _ I.vars.ownL)
 have celK:∀c ov,s.heap.IsCell c ov→s'.heap.IsCell c ov:=fun c ov h4=>by
  refine aJ (id h4) fun o e d=>?_
  refine ⟨o,t.keep c o e (I.ncell_phi h4) (fun q=>?_),d⟩
  obtain ⟨m,z⟩:=I.frs c q
  exact nG z h4
 refine ⟨st,⟨x0,baseW,t.gens.trans I.gens,t.os.trans I.os,I.ok,⟨?_,fun a q=>t.W a (I.g.frs a q),lt⟩,⟨?_,?_,.inl I.vars.ownL,fun y c h1 h2=> .inl (I.vars.ownC y c h1 h2),I.vars.apart⟩,⟨cells.len,fun m a h=> .inr (mem_of_getElem? h),cells.inj,?_,?_⟩,?_,I.lnk,?_,fun q=>(I.held q).step st⟩,mv0⟩
 ·intro a q
  rcases q with q|q
  ·exact t.W a (I.g.own a q)
  ·exact sub a q
 ·refine aJ (I.vars.loc) fun m hn hm=>?_
  refine ⟨m,kT hn fun o e=>t.slots _ o e locphi,fun y z h1 h2=>?_⟩
  refine aJ (hm y z h1 h2) fun v hv r=>?_
  exact ⟨v,hv,r.go hk phig⟩
 ·intro y ky h1 h2
  refine cD (I.vars.cel y ky h1 h2) fun c ov hc hi hr=>?_
  refine ⟨c,ov,hc,celK c ov hi,fun z hz=>?_⟩
  refine aJ (hr z hz) fun v hv r=>?_
  exact ⟨v,hv,r.go hk phig⟩
 ·intro m a h q
  exact cells.nfr m a h (by rw [t.frs];exact q)
 ·intro m a y h e
  refine aJ (cells.at' m a y h e) fun o ho r=>?_
  exact ⟨o,ho,r.mono mv0 fun _ _ q=>q⟩
 ·intro m a h
  have ha:a∈G'.phi:=mem_of_getElem? h
  refine ⟨fun q=>?_,fun y c h1 h2 q=>?_⟩
  ·rcases phi' a ha with w|w
   ·exact locphi (q ▸ w)
   ·obtain ⟨o,e⟩:=locO;rw [←q,w] at e;exact aP e
  ·refine cD (I.vars.cel y _ h1 (.inl rfl)) fun c' ov hc' hi _=>?_
   rw [h2] at hc';(obtain rfl:=sJ hc')
   rcases phi' a ha with w|w
   ·exact I.ncell_phi hi (q ▸ w)
   ·(refine aJ hi fun o e _=>?_;try clear hi);rw [←q,w] at e;exact aP e
 ·intro a q
  exact frs a (by rw [t.frs];exact q)
noncomputable def eC (C:Cx) (n:Nat) (a:Addr) (zs:List Str) (Φ:List MV→List MV→List MO→Option (MV×List MO)):Prop:=
 (∃o fd,C.h₀.get? a=some o∧o.data= .func fd)∧
 ∀A G s H args kws vals kvs r H',AOk true n A→sE C A G s→nD C G H s.heap→aK G s.heap args vals→aK G s.heap kws kvs→Φ args kws H=some (r,H')→
  codeAny (model C.prog C.w) A (.call (.ref a) ⟨vals,zs.zip kvs⟩) (fun res s'=>∃v G',res= .ok (.ret v)∧zP C G s G' H' s'∧aI G' s'.heap r v) s
noncomputable def kB (f:M Fl) (ps:List Nat) (xs:List MV) (H:List MO):Option (MV×List MO):=uK (f ⟨ps.zip xs,H⟩) (fun x σ'=>some (x,σ'.H)) fun σ'=>some (.none,σ'.H)
theorem xI {fd:FuncData} {a:Addr} {body:List Stmt} {ps:List Nat} {f:M Fl} {xs:List MV} {ws:List Value} {r:MV} {H H':List MO} {E:Value→Shared→Prop} (B:cH C) (F:FnD C a fd body) (S:yV sc fd.scope ps)
  (hS:bQ C true n sc body f) (hA:AOk true (n+1) A) (b:sE C A G s) (hh:nD C G H s.heap) (rx:aK G s.heap xs ws) (e2:kB f ps xs H=some (r,H')):
  wpAny (model C.prog C.w) A.in1 (newFunctionEnv fd.scope fd.globals [] ((ps.map nm).zip ws) (fd.qualname++ ".<locals>.") (some a) fd.code none fd.builtins)
   (fun env s₂=>s₂.heap.NoLimit∧codeAny (model C.prog C.w) A (.func body env) (fun res s'=>∃v G',res= .ok (.ret v)∧zP C G s G' H' s'∧aI G' s'.heap r v) s₂) E s:=by
 have hkind:∀x∈(ps.map nm).zip ws,fd.scope.names.lookup x.1=some .local∨(fd.scope.names.lookup x.1=some .cell∧((cellsFrom (s.heap.objs.size+1) fd.scope.names []).lookup x.1).isSome=true):=by
  intro x hx
  refine aJ (mem_map.mp (List.of_mem_zip (show (x.1,x.2)∈_ from hx)).1) fun y hy ey=>?_
  rw [←ey]
  rcases S.par y hy with q|q
  ·exact .inl (S.kinds y _ q)
  ·have:=S.kinds y _ q
   obtain ⟨c,hc⟩:=dP fd.scope.names (s.heap.objs.size+1) [] (nm y) (.inr (eY this))
   exact .inr ⟨this,by rw [hc];rfl⟩
 refine wpAny_newFunctionEnv_cells F.kind hkind fun env he s₁ x=>?_
 subst he
 refine ⟨(B.lim.keeps b.x0).keeps x.toInCall.keep,codeAny_func ?_⟩
 have pown:∀a,a∈G.phi→G.own a:=fun a h=>by
  obtain ⟨i,hi,rfl⟩:=getElem_of_mem h
  exact hh.own i _ (getElem?_eq_getElem hi)
 have pnfr:∀a,a∈G.phi→¬G.frs a:=fun a h=>by
  obtain ⟨i,hi,rfl⟩:=getElem_of_mem h
  exact hh.nfr i _ (getElem?_eq_getElem hi)
 have I:=sZ (H:=H) (phi:=G.phi) (own:=fun a=>a∈G.phi) F S b rx (fun G' s' hk hp=>rx.go hk fun m a q=>by rw [hp];exact q) (fun c q=>⟨b.g.own c (pown c q),pnfr c q⟩)
  (fun G' s' h1 h2 hp h3 h4=>⟨by rw [hp];exact hh.len,fun m c q=>h3 c (by rw [hp] at q;exact mem_of_getElem? q),fun m m' c q q'=>by rw [hp] at q q';exact hh.inj m m' c q q',
   fun m c q f=>by
    rw [hp] at q
    have hc:c∈G.phi:=mem_of_getElem? q
    obtain ⟨o,e⟩:=b.g.lt c (b.g.own c (pown c hc))
    exact pnfr c hc (h4 c o e f),
   fun m c y q e=>by
    rw [hp] at q
    refine aJ (hh.at' m c y q e) fun o ho r=>?_
    exact ⟨o,h1 c o ho,r.mono (fun z v w=>w.go (fun a o e n=>⟨h1 a o e,h2 a o e n⟩) fun m a q=>by rw [hp];exact q) fun m a q=>by rw [hp];exact q⟩⟩)
  (fun m c q=>mem_of_getElem? q) x
 have hA':AOk true n (A.deeper (callEnvC fd s.heap.objs.size a)):=⟨by show A.depth+1+n≤900;have:=hA.depth;lia,by show A.units+3+100 * n≤9000;have:=hA.units;lia,hA.handled⟩
 have run:=hS _ _ _ _ _ hA' I
 unfold kB at e2
 have fresh:∀c,(c=s.heap.objs.size∨∃z,(callEnvC fd s.heap.objs.size a).cells.lookup z=some c)→s.heap.get? c=none:=fun c hc=>by
  focus (refine elrZoE hc (fun r_2=>?_) fun z hz=>?_;try clear hc;obtain rfl:=r_2;rotate_left;try clear hc;rotate_left)
  ·exact bD _
  ·have:=x.above z c (mem_of_lookup hz)
   exact Heap.get?_none_of_le (Nat.le_of_lt this)
 have dead1:∀c,s₁.heap.get? c=none→s.heap.get? c=none:=fun c q=>by
  cases e:s.heap.get? c with
  | none=>rfl
  | some o=>rw [x.toInCall.keep c o e] at q;exact iS q
 have leave:∀{σ':St} {G':Gh} {s':Shared},bB (Gin G s.heap.objs.size (callEnvC fd s.heap.objs.size a).cells G.phi fun a=>a∈G.phi) s₁ G' s'→Inv C sc (A.deeper (callEnvC fd s.heap.objs.size a)) (callEnvC fd s.heap.objs.size a) G' σ' s'→
   zP C G s ⟨G'.W,fun a=>a∈G'.phi,G.frs,G'.phi⟩ σ'.H s':=by
  intro σ' G' s' st I'
  refine yO (x.toInCall.same) fun h tk hs=>?_
  have no:∀c o,s.heap.get? c=some o→c∉G.phi→¬(Gin G s.heap.objs.size (callEnvC fd s.heap.objs.size a).cells G.phi fun a=>a∈G.phi).own c:=fun c o e n q=>by
   rcases q with q|q
   ·exact n q
   ·rw [fresh c q] at e;exact aP e
  refine ⟨⟨fun c o e n f=>st.keep c o (x.toInCall.keep c o e) (no c o e n) fun q=>?_,fun c o e n=>st.slots c o (x.toInCall.keep c o e) (no c o e n),fun c o e=>st.alive c o (x.toInCall.keep c o e),fun c q=>st.W c (.inl q),fun c q=>?_,?_,rfl,st.gens.trans (by rw [hs]),st.os.trans (by rw [hs])⟩,
   I'.x0,I'.baseW,I'.g.lt,⟨I'.cells.len,fun m c q=>mem_of_getElem? q,I'.cells.inj,fun m c q f=>?_,fun m c y q e=>?_⟩,fun c q=>I'.g.own c (I'.phi_own q),fun c q=>I'.frs c ?_⟩
  ·rcases q with q|q
   ·exact f q
   ·rw [fresh c (.inl q)] at e;exact aP e
  ·rcases st.W' c q with q|q
   ·rcases q with q|q
    ·exact .inl q
    ·exact .inr (fresh c q)
   ·exact .inr (dead1 c q)
  ·refine aJ (st.phi) fun l e f=>?_
   exact ⟨l,e,fun c hc=>dead1 c (f c hc)⟩
  ·refine I'.cells.nfr m c q ?_
   rw [st.frs];exact .inl f
  ·refine aJ (I'.cells.at' m c y q e) fun o ho r=>?_
   exact ⟨o,ho,r.mono (fun z v w=>aI.weakW (G:=G') (G':=⟨G'.W,fun a=>a∈G'.phi,G.frs,G'.phi⟩) (fun _ q=>q) rfl w) fun _ _ q=>q⟩
  ·rw [st.frs];exact .inl q
 refine aFv e2 (fun y σ' er e2=>?_) fun σ' er e2=>?_
 ·(refine elA (aZ e2) fun z1 z2=>?_;obtain rfl:=z1;obtain rfl:=z2)
  refine wpAny_mono (run _ _ er) (fun fl s' h=>?_) fun y s' h=>?_
  ·(refine bG (trq h) fun G' st I' p=>?_)
   cases p with|ret p=>?_
   exact ⟨_,_,rfl,leave st I',aI.weakW (G:=G') (G':=⟨G'.W,fun a=>a∈G'.phi,G.frs,G'.phi⟩) (fun _ q=>q) rfl p⟩
  ·exact (fI h).elim
 ·(refine elA (aZ e2) fun z1 z2=>?_;obtain rfl:=z1;obtain rfl:=z2)
  refine wpAny_mono (run _ _ er) (fun fl s' h=>?_) fun y s' h=>?_
  ·(refine bG (trq h) fun G' st I' p=>?_)
   cases p
   exact ⟨_,_,rfl,leave st I',.none⟩
  ·exact (fI h).elim
theorem zP.pre {s₀ s':Shared} {G':Gh} {H':List MO} (x:Ext s s₀) (q:zP C G s₀ G' H' s'):zP C G s G' H' s':=by
 have dead:∀a,s₀.heap.get? a=none→s.heap.get? a=none:=fun a q=>by
  cases e:s.heap.get? a with
  | none=>rfl
  | some o=>rw [x.1 a o e] at q;exact iS q
 obtain ⟨t,q2,q3,q4,q5,q6,q7⟩:=q
 exact ⟨⟨fun a o e n f=>t.keep a o (x.1 a o e) n f,fun a o e n=>t.slots a o (x.1 a o e) n,fun a o e=>t.alive a o (x.1 a o e),t.W,fun a q=>(t.W' a q).imp id (dead a),let ⟨l,e,f⟩:=t.phi;⟨l,e,fun a h=>dead a (f a h)⟩,t.frs,t.gens.trans x.2.1,t.os.trans x.2.2⟩,q2,q3,q4,q5,q6,q7⟩
theorem nD.ext {s₀:Shared} {H:List MO} (g:GOk G s.heap) (x:Ext s s₀) (h:nD C G H s.heap):nD C G H s₀.heap:=
 ⟨h.len,h.own,h.inj,h.nfr,fun m a y e e'=>let ⟨o,ho,r⟩:=h.at' m a y e e';⟨o,x.1 a o ho,r.mono (fun _ _ z=>z.ext g x) fun _ _ q=>q⟩⟩
theorem fS {fd:FuncData} {a:Addr} {body:List Stmt} {ps:List Nat} {zs:List Str} {pm:List MV→List MV→Option (List MV)} {f:M Fl} (B:cH C) (F:FnD C a fd body) (S:yV sc fd.scope ps)
  (hb:mB C fd zs ps pm) (hS:bQ C true n sc body f):eC C (n+1) a zs (fun args kws H=>(pm args kws).bind fun xs=>kB f ps xs H):=by
 refine aJ (F.at') fun o ho hd=>?_
 refine ⟨⟨o,fd,ho,hd⟩,fun A G s H args kws vals kvs r H' hA b hh ra rk e=>?_⟩
 refine aJ (bind_eq_some_iff.mp e) fun xs e1 e2=>?_
 obtain ⟨_,hbind⟩:=hb G s args kws vals kvs xs b.x0 b.g ra rk e1
 have hd1:A.depth < recursionLimit:=by have:=hA.depth;show _ < 1000;lia
 refine codeAny_call_function hd1 (b.x0 a o ho) hd F.co F.gen F.body (F.code.keeps b.x0) (hbind _ _ _ fun ws s₀ x₀ rx=>?_)
 rw [F.clos]
 refine wpAny_mono (xI B F S hS hA (b.ext x₀) (hh.ext b.g x₀) rx e2) (fun env s₂ h=>⟨h.1,codeAny_mono h.2 fun res s' h'=>?_⟩) fun _ _ h=>h
 (refine cD h' fun v G' q1 q2 q3=>?_;try clear h')
 exact ⟨v,G',q1,q2.pre x₀,q3⟩
noncomputable def gP (Φ:List MV→List MV→List MO→Option (MV×List MO)) (args kws:List MV):M MV:=fun σ=>match Φ args kws σ.H with
 | some (r,H')=>some (.ok r,⟨σ.r,H'⟩)
 | none=>none
theorem aBk {Φ:List MV→List MV→List MO→Option (MV×List MO)} {args kws:List MV} {r:R MV} {σ':St} (e:gP Φ args kws σ=some (r,σ')) {P:Prop} (k:∀y H',Φ args kws σ.H=some (y,H')→r= .ok y→σ'=⟨σ.r,H'⟩→P):P:=by
 delta gP at e
 cases h:Φ args kws σ.H with
 | none=>rw [h] at e;exact aP e
 | some p=>rw [h] at e;exact k p.1 p.2 h (aZ e).1.symm (aZ e).2.symm
theorem aBl {a:Addr} {zs:List Str} {Φ:List MV→List MV→List MO→Option (MV×List MO)} {m:Nat} {args kws:List MV} {vals kvs:List Value} (hp:eC C m a zs Φ) (hm:m≤n) (hA:AOk true n A) (I:Inv C sc A env G σ s) (ra:aK G s.heap args vals) (rk:aK G s.heap kws kvs):
  Tr C sc A env G σ s (call (.ref a) vals (zs.zip kvs)) (gP Φ args kws) (fun G h x v=>aI G h x v):=by
 intro r σ' e
 refine aBk e fun y H' e1 z1 z2=>?_
 ·rw [z1,z2]
  refine wpAny_call (codeAny_mono (hp.2 A G s σ.H args kws vals kvs y H' (hA.le hm) I.b I.cells ra rk e1) fun res s' h=>?_)
  (refine cD h fun v G' e_1 hl rv=>?_;try clear h;obtain rfl:=e_1)
  refine iC (I.opened hl) fun st I' mv=>?_
  exact ⟨y,_,rfl,st,I',mv _ _ rv⟩
theorem tE (i:Nat) {z:Str} {p pos:Pos} {a:Addr} {es:List Expr} {fs:List (M MV)} {ks:List Keyword} {zs:List Str} {gs:List (M MV)} {Φ:List MV→List MV→List MO→Option (MV×List MO)} {m:Nat}
  (B:cH C) (hz:sc.gs[i]?=some z) (hv:C.mg z=some (.ref a)) (hdb:(z==("__debug__":Str))=false) (hp:eC C m a zs Φ) (hm:m≤n) (he:dD C true n sc es fs) (hk:mA C true n sc ks zs gs):
  aV C true n sc (.Call (.Name z p) es ks pos) (M.bind (M.bind (aO fs) fun l=>M.bind (aO gs) fun m=>M.pure (l,m)) fun q=>gP Φ q.1 q.2):=by
 intro A env G σ s hA I r σ' e
 refine wpAny_Call_Name_kw (gB B I (I.ok.globs i z hz) hv hdb ?_)
 refine cJ (hp.1) fun o fd ho hd=>?_
 focus (refine elrEAoEEA (M.bind_some e) (fun k e1 r_1=>?_) fun q σ₁ e1 e2=>?_;obtain rfl:=r_1;rotate_left;rotate_left)
 ·refine callWith_function_kw (o:=o) (fd:=fd) (wpAny_mono (gY he hk hA I _ _ e1) (fun a s' h=>?_) fun a s' h=>?_)
  ·exact (mK h).elim
  ·obtain ⟨b,G',q,h⟩:=h;(obtain rfl:=oD q);exact ⟨k,G',rfl,h⟩
 ·refine callWith_function_kw (o:=o) (fd:=fd) (wpAny_mono (gY he hk hA I _ _ e1) (fun x s' h=>?_) fun a s' h=>?_)
  ·(refine iE h fun b G' q' st I' p1 kv p2 p3=>?_;try clear h)
   (obtain rfl:=eU q')
   refine ⟨⟨I'.x0 a o ho,hd⟩,?_⟩
   rw [nil_append,p2]
   refine wpAny_mono (aBl hp hm hA I' p1 p3 r σ' e2) (fun v s'' h=>?_) fun y s'' h=>?_
   ·(refine bL h fun b G'' q st' I'' p=>?_;try clear h);exact ⟨b,G'',q,st.trans st',I'',p⟩
   ·(refine bL h fun b G'' q st' I'' p=>?_;try clear h);exact ⟨b,G'',q,st.trans st',I'',p⟩
  ·exact (fI h).elim
end
end Mine
end
section
open PySem PySem.W PyProof.Rows PySem.SeqAt PySem.Calls Builtin Builtin.ObjectAttr
set_option maxRecDepth 10000
set_option tactic.hygienic false
namespace Mine
section
variable {C:Cx} {hd:Bool} {n:Nat} {sc:SC} {A:Around} {env:Env} {G:Gh} {σ:St} {s:Shared} {Q E:Value→Shared→Prop}
structure gQ (C:Cx) (c:Nat):Prop where
 ga:findIn C.K (.ref (C.cls c)) "__getattribute__"=some (some (.builtin "object.__getattribute__"))
 gn:findIn C.K (.ref (C.cls c)) "__getattr__"=some none
 sa:findIn C.K (.ref (C.cls c)) "__setattr__"=some (some (.builtin "object.__setattr__"))
 pl:plainOver C.K (C.cls c)=true
 mak:makesIn C.K (C.cls c)=true
structure kC (C:Cx) (c:Nat) (z:Str):Prop where
 no:findIn C.K (.ref (C.cls c)) z=some none
 hd:(clsIn C.K (C.cls c)).any (·.hasDict)=true
noncomputable def kD (C:Cx) (c:Nat) (z:Str) (i:Nat):Prop:=
 ∃p,findIn C.K (.ref (C.cls c)) z=some (some (.ref p))∧typeIn C.K (.ref p)=some (.type "member_descriptor")∧specialIn C.K (.ref p) "__get__"=some (some (.builtin "member_descriptor.__get__"))∧takesIn C.K (.ref p)=some true∧slotIn C.K p (C.cls c)=some i∧(clsIn C.K (C.cls c)).isSome=true
theorem oM {o:Obj} {es:Array DictEntry} {ep:Nat} {z:Str} (hd:o.data= .dict es ep) (hk:StrKeys es):lookIn z o=some (nsFind es z):=by
 unfold lookIn nsFind findBy
 rw [hd]
 dsimp only
 rw [←Array.find?_toList]
 cases hf:es.toList.find? (·.key.isStr z) with
 | some e=>rfl
 | none=>
  have:es.toList.any (·.refKey)=false:=by
   rw [any_eq_false]
   intro e he
   refine yO (hk e (Array.mem_toList_iff.mp he)) fun n t h=>?_
   simp [DictEntry.refKey,h]
  dsimp only
  rw [this];rfl
theorem Inv.kin (I:Inv C sc A env G σ s) (B:cH C):C.K.In s.heap:=B.kin.keeps I.x0
theorem uS {m c d:Nat} {v:Value} (I:Inv C sc A env G σ s) (hx:aI G s.heap (.cell m) v) (hm:σ.H[m]?=some (.inst c d)) {l:List (Nat×MV)} (hl:σ.H[d]?=some (.attrs l)):
  ∃x dx ox od es ep,v= .ref x∧G.phi[m]?=some x∧G.phi[d]?=some dx∧InstAt s.heap x ox (C.cls c) (some od)∧ox.dict=some dx∧s.heap.get? dx=some od∧od.data= .dict es ep∧StrKeys es∧UniqKeys es∧
   (∀x y,l.lookup x=some y→x < 4∧∃v,nsFind es (an x)=some v∧aI G s.heap y v)∧(∀z,(∀x y,l.lookup x=some y→an x≠z)→nsFind es z=none):=by
 refine aI.cell_e hx fun x hp=>?_
 refine aFe (I.cells.at' m x _ hp hm) fun ox ho hc hdt a hd hda=>?_
 refine yP (I.cells.at' d a _ hda hl) fun od hod es ep h1 h2 h3 h4 h5=>?_
 exact ⟨x,a,ox,od,es,ep,rfl,hp,hda,⟨ho,hc,by unfold notCls;rw [hdt],by rw [hd];exact hod⟩,hd,hod,h1,h2,h3,h4,h5⟩
theorem xJ {m c d:Nat} {l:List (Option MV)} {v:Value} (I:Inv C sc A env G σ s) (hx:aI G s.heap (.cell m) v) (hm:σ.H[m]?=some (.slots c d l)):
  ∃x ox od,v= .ref x∧G.phi[m]?=some x∧InstAt s.heap x ox (C.cls c) (some od)∧ox.data= .plain∧ox.slots.size=l.length∧(∃a,ox.dict=some a∧G.phi[d]?=some a)∧∀(i:Nat) y,l[i]?=some (some y)→∃v,ox.slots[i]?=some (some v)∧aI G s.heap y v:=by
 refine aI.cell_e hx fun x hp=>?_
 (refine eT (I.cells.at' m x _ hp hm) fun ox ho hc t_3 hdt hz hs=>?_;(refine aJ t_3 fun a hd hda=>?_;try clear t_3))
 obtain ⟨od,hod⟩:∃od,s.heap.get? a=some od:=I.g.lt a (I.g.own a (I.cells.own d a hda))
 exact ⟨x,ox,od,rfl,hp,⟨ho,hc,by unfold notCls;rw [hdt],by rw [hd];exact hod⟩,hdt,hz,⟨a,hd,hda⟩,hs⟩
noncomputable def kJ (c x:Nat) (v:MV):M MV:=fun σ=>oC v fun m=>pI σ.H[m]? fun c' d=>gd (Nat.beq c' c) (pA σ.H[d]? fun l=>(l.lookup x).map fun y=>(.ok y,σ))
noncomputable def fH (c i:Nat) (v:MV):M MV:=fun σ=>oC v fun m=>pZ σ.H[m]? fun c' _ l=>gd (Nat.beq c' c) ((l[i]?).bind fun o=>o.map fun y=>(.ok y,σ))
theorem qZ {y:MV} {v:Value} {h:Heap} (r:aI G h y v):handedIn v=true:=by cases r <;> rfl
theorem aBm {c x:Nat} {z:Str} {y:MV} {v:Value} (B:cH C) (K:gQ C c) (O:kC C c z) (hz:an x=z) (I:Inv C sc A env G σ s) (hx:aI G s.heap y v):
  Tr C sc A env G σ s (getAttr v z true) (kJ c x y) (fun G h x v=>aI G h x v):=by
 subst hz
 intro r σ' e
 revert hx
 refine kN e fun m za hx=>aQh za fun {c' d} hm zb=>aFh zb fun hb zc=>aQi zc fun {l} hl e4=>?_
 have hc:c'=c:=Nat.eq_of_beq_eq_true hb
 subst hc
 ·refine aJ (map_eq_some_iff.mp e4) fun w hw e5=>?_
  (refine elA (Prod.mk.inj e5) fun e3_3 e3_4=>?_;obtain rfl:=e3_3;obtain rfl:=e3_4)
  (refine fB (uS I hx hm hl) fun xa dx ox od es ep e_2 hp hd IA hdd hod h1 h2 h3 h4 h5=>?_;obtain rfl:=e_2)
  refine kG (h4 x w hw) fun _ u hu ru=>?_
  refine aJ (any_some O.hd) fun cd hcd hdd'=>?_
  refine get_value (I.kin B) IA K.ga (v:=u) ?_ (qZ ru) ⟨w,G,rfl,(Ext.toks s _).step G,I.ext (Ext.toks s _),ru.ext I.g (Ext.toks s _)⟩
  unfold findObj
  rw [hcd,Option.bind_some,O.no,Option.bind_some]
  show (W.ownOf cd _ _).bind _=_;unfold W.ownOf;rw [hdd',if_pos rfl];dsimp only;rw [oM h1 h2,hu];rfl
theorem aBn {c i:Nat} {z:Str} {y:MV} {v:Value} (B:cH C) (K:gQ C c) (O:kD C c z i) (I:Inv C sc A env G σ s) (hx:aI G s.heap y v):
  Tr C sc A env G σ s (getAttr v z true) (fH c i y) (fun G h x v=>aI G h x v):=by
 intro r σ' e
 revert hx
 refine kN e fun m za hx=>aSa za fun {c' d l} hm zb=>aFh zb fun hb e4=>?_
 refine aJ (bind_eq_some_iff.mp e4) fun wo hl e5=>?_
 refine aJ (map_eq_some_iff.mp e5) fun w hw e6=>?_
 rw [hw] at hl
 have hc:c'=c:=Nat.eq_of_beq_eq_true hb
 subst hc
 (refine elA (Prod.mk.inj e6) fun e3_1 e3_2=>?_;obtain rfl:=e3_1;obtain rfl:=e3_2)
 (refine iT (xJ I hx hm) fun xa ox od e_1 hp IA hdt hz _ hs=>?_;obtain rfl:=e_1)
 refine aJ (hs i w hl) fun u hu ru=>?_
 (refine eT O fun p p1 p2 p3 p4 p5 p6=>?_;try clear O)
 refine elE (Option.isSome_iff_exists.mp p6) fun cd hcd=>?_
 refine get_bind (g:= .builtin "member_descriptor.__get__") (a:= .ref p) (I.kin B) IA K.ga ?_ K.gn ?_
 ·unfold findObj
  rw [hcd,Option.bind_some,p1,Option.bind_some]
  dsimp only;rw [p3,Option.bind_some];show (takesIn C.K (.ref p)).bind _=_;rw [p4];rfl
 ·refine wpAny_call (slot_get (s:={ s with toks:=s.toks+1 }) (I.kin B) IA p5 (v:=u) (by rw [hu];rfl) ?_)
  show wpAny _ _ (handedOut u) _ _ _
  rw [handedOut_of (qZ ru)]
  exact wP ⟨w,G,rfl,(Ext.toks s _).step G,I.ext (Ext.toks s _),ru.ext I.g (Ext.toks s _)⟩
theorem uU {value:Expr} {attr:Str} {pos:Pos} {f:M MV} {g:MV→M MV} (hA:AOk hd n A) (hv:aV C hd n sc value f)
  (hg:∀G σ s y v,Inv C sc A env G σ s→aI G s.heap y v→Tr C sc A env G σ s (getAttr v attr true) (g y) (fun G h x v=>aI G h x v))
  (he:eval (.Attribute value attr pos) env=(do
    let o ←eval value env
    standAt pos.atName
    let r ←holding [o] (getAttr o attr true)
    letTemporaryGo value o r
    pure r)) (I:Inv C sc A env G σ s):
  Tr C sc A env G σ s (eval (.Attribute value attr pos) env) (M.bind f g) (fun G h x v=>aI G h x v):=by
 rw [he]
 refine Tr.bind (hv A env G σ s hA I) fun y v G' σ' s' st I' p=>Tr.stand ?_
 intro r σ₁ e
 refine wB (wpAny_holding (wpAny_mono (hg G' σ' s' y v I' p r σ₁ e) (fun u s'' h=>?_) fun _ _ h=>h))
 exact wB (wpAny_letTemporaryGo (wP h))
theorem cE (c x:Nat) {value:Expr} {attr:Str} {pos:Pos} {f:M MV} (B:cH C) (K:gQ C c) (O:kC C c attr) (hv:aV C hd n sc value f) (hz:autoParam (an x=attr) aX._auto_1)
  (he:∀env,eval (.Attribute value attr pos) env=(do
    let o ←eval value env
    standAt pos.atName
    let r ←holding [o] (getAttr o attr true)
    letTemporaryGo value o r
    pure r):=by intro _;with_unfolding_all rfl):
  aV C hd n sc (.Attribute value attr pos) (M.bind f (kJ c x)):=fun A env G σ s hA I=>
 uU hA hv (fun _ _ _ _ _ I r=>aBm B K O hz I r) (he env) I
theorem gG (c i:Nat) {value:Expr} {attr:Str} {pos:Pos} {f:M MV} (B:cH C) (K:gQ C c) (O:kD C c attr i) (hv:aV C hd n sc value f)
  (he:∀env,eval (.Attribute value attr pos) env=(do
    let o ←eval value env
    standAt pos.atName
    let r ←holding [o] (getAttr o attr true)
    letTemporaryGo value o r
    pure r):=by intro _;with_unfolding_all rfl):
  aV C hd n sc (.Attribute value attr pos) (M.bind f (fH c i)):=fun A env G σ s hA I=>
 uU hA hv (fun _ _ _ _ _ I r=>aBn B K O I r) (he env) I
end
end Mine
end
section
open PySem PySem.W PyProof.Rows PySem.SeqAt PySem.Calls Builtin Builtin.ObjectAttr Builtin.Getset_descriptor
set_option maxRecDepth 10000
set_option tactic.hygienic false
namespace Mine
section
variable {C:Cx} {hd:Bool} {n:Nat} {sc:SC} {A:Around} {env:Env} {G:Gh} {σ:St} {s:Shared} {Q E:Value→Shared→Prop}
noncomputable def aBo (c x:Nat) (o v:MV):M Unit:=fun σ=>oC o fun m=>pI σ.H[m]? fun c' d=>gd (Nat.beq c' c) (pA σ.H[d]? fun l=>some (.ok (),{ σ with H:=σ.H.set d (.attrs (aL x v l)) }))
noncomputable def pJ (c i:Nat) (o v:MV):M Unit:=fun σ=>oC o fun m=>pZ σ.H[m]? fun c' d l=>gd (Nat.beq c' c) (some (.ok (),{ σ with H:=σ.H.set m (.slots c' d ((l++List.replicate (i+1 - l.length) none).set i (some v))) }))
theorem aQr {i j:Nat} (hi:i < 4) (hj:j < 4) (h:an i=an j):i=j:=by
 have:AN.Nodup:=by decide+kernel
 have hi':i < AN.length:=hi
 have hj':j < AN.length:=hj
 unfold an at h
 rw [getD_eq_getElem?_getD,getD_eq_getElem?_getD,getElem?_eq_getElem hi',getElem?_eq_getElem hj'] at h
 have key:=List.pairwise_iff_getElem.mp this
 rcases Nat.lt_trichotomy i j with q|q|q
 ·exact absurd h (key i j hi' hj' q)
 ·exact q
 ·exact absurd h.symm (key j i hj' hi' q)
theorem aBp {c x:Nat} {z:Str} {y w:MV} {v u:Value} (B:cH C) (K:gQ C c) (O:kC C c z) (hz:an x=z) (hx4:x < 4) (I:Inv C sc A env G σ s) (hx:aI G s.heap y v) (hw:aI G s.heap w u):
  Tr C sc A env G σ s (setAttr v z u) (aBo c x y w) (fun _ _ _ _=>True):=by
 subst hz
 intro r σ' e
 revert hx
 refine kN e fun m za hx=>aQh za fun {c' d} hm zb=>aFh zb fun hb zc=>aQi zc fun {l} hl e4=>?_
 have hc:c'=c:=Nat.eq_of_beq_eq_true hb
 subst hc
 (refine elA (aZ e4) fun z1 z2=>?_;obtain rfl:=z1;obtain rfl:=z2)
 (refine fB (uS I hx hm hl) fun xa dx ox od es ep e_4 hp hd IA hdd hod h1 h2 h3 h4 h5=>?_;obtain rfl:=e_4)
 refine aJ (any_some O.hd) fun cd hcd hdd'=>?_
 refine set_plain (I.kin B) IA K.sa ?_
 have tk:takerIn C.K (C.cls c') (an x)=some none:=by unfold takerIn;rw [O.no];rfl
 refine osa_open (s:={ s with toks:=s.toks+1 }) (I.kin B) IA K.pl tk fun b=>?_
 obtain ⟨hxa,hcl,hnc, -⟩:=IA
 obtain ⟨oc,odi,oda,osl⟩:=ox
 dsimp only at hcl hdd
 subst hcl hdd
 refine wB (wP (wB (wB (wpAny_loadPart hxa (wB (Looks.here (s:={ s with toks:=s.toks+1 }) (looks_clsIn (M:=model C.prog C.w) (I.kin B) hcd) ?_))))))
 rw [hdd']
 refine wP (a:=some dx) (wB (wP (wB ?_)))
 have hn1:s.heap.Ns1 dx (nsFind es):=⟨od,es,ep,hod,h1,h2,h3,fun _=>rfl⟩
 refine wpAny_nsSet1 (s:={ s with toks:=s.toks+1 }) hn1 fun h' hn' hs'=>?_
 have wi:Within (fun z=>if z=an x then some u else nsFind es z) (AN):=by
  intro z hz
  by_cases q:z=an x
  ·rw [q];unfold an
   rw [getD_eq_getElem?_getD,getElem?_eq_getElem (show x < AN.length from hx4)]
   exact List.getElem_mem _
  ·simp only [if_neg q] at hz
   by_cases w:∃x' y',l.lookup x'=some y'∧an x'=z
   ·(refine cJ w fun x' y' e1 e_3=>?_;try clear w;obtain rfl:=e_3)
    have:=(h4 x' y' e1).1
    unfold an
    rw [getD_eq_getElem?_getD,getElem?_eq_getElem (show x' < AN.length from this)]
    exact List.getElem_mem _
   ·exact absurd (h5 z fun x' y' e1 e2=>w ⟨x',y',e1,e2⟩) hz
 refine mZ (hn'.count wi) fun o2 es2 ep2 ho2 hd2 hz2=>?_
 refine wB (wpAny_lookBehind ho2 (by rw [hd2];exact pastItsLine_dict (Nat.le_trans hz2 (by rw [sizeLine_eq];decide))) ?_)
 (refine hY hn' fun o3 es3 ep3 ho3 hd3 hk3 hu3 hf3=>?_;try clear hn')
 have hy:(∀z v,aI G s.heap z v→aI G h' z v)→OIs C G h' o3 (.attrs (aL x w l)):=fun mv=>by
  refine ⟨es3,ep3,hd3,hk3,hu3,fun x' y' e1=>?_,fun z hz=>?_⟩
  ·rw [aS] at e1
   by_cases q:x'=x
   ·subst q
    rw [if_pos rfl] at e1;(obtain rfl:=sJ e1)
    exact ⟨hx4,u,(hf3 _).trans (if_pos rfl),mv _ _ hw⟩
   ·rw [if_neg q] at e1
    refine kG (h4 x' y' e1) fun a1 v1 e2 r1=>?_
    exact ⟨a1,v1,(hf3 _).trans ((if_neg (fun w=>q (aQr a1 hx4 w))).trans e2),mv _ _ r1⟩
  ·have n1:z≠an x:=fun q=>hz x w (by rw [aS,if_pos rfl]) q.symm
   refine (hf3 _).trans ((if_neg n1).trans ?_)
   refine h5 z fun x' y' e1 e2=>?_
   by_cases q:x'=x
   ·subst q;exact n1 e2.symm
   ·exact hz x' y' (by rw [aS,if_neg q];exact e1) e2
 obtain ⟨st,I'⟩:=I.updC (tk:=s.toks+1+1) (y:= .attrs (aL x w l)) hd hs' ho3 hy
 exact wP ⟨(),G,rfl,st,I',trivial⟩
theorem aGh {ox:Obj} {od:Option Obj} {v:Value} {p i x Ca:Nat} {R:Result→Shared→Prop} (X:C.K.In s.heap) (I:InstAt s.heap x ox Ca od) (hp:slotIn C.K p Ca=some i) (hi:i < 1000)
  (h:R (.ok (.ret .none)) { s with heap:=s.heap.update x fun o=>{ o with slots:=(o.slots++Array.replicate (i+1 - o.slots.size) none).setIfInBounds i (some v) } }):
  codeAny (model C.prog C.w) A (.call (.builtin "member_descriptor.__set__") ⟨[.ref p,.ref x,v],[]⟩) R s:=by
 (refine qF (slot_of X hp) fun n tn owner behind tb d sl cd ho hc hm hb e_2=>?_;obtain rfl:=e_2)
 obtain ⟨hh,g,dr,t,os⟩:=s
 have L0:=I.type (M:=model C.prog C.w)
 have L1:=looks_mroIn (M:=model C.prog C.w) X hm
 have L2:Looks (model C.prog C.w) hh (Slots.slotNamesOf (.ref Ca)) cd.slotNames:=(looks_clsIn X hc).andThen .now
 have hx:=I.at_
 dsimp only at ho hx L0 L1
 have f0:=looks_field (M:=model C.prog C.w) ho 0 (v:= .str n tn) rfl
 have f1:=looks_field (M:=model C.prog C.w) ho 1 (v:=owner) rfl
 have f3:=looks_field (M:=model C.prog C.w) ho 3 (v:= .builtin "proto.slot#set") rfl
 have f4:=looks_field (M:=model C.prog C.w) ho 4 (v:= .int behind tb) rfl
 refine codeAny_call_builtin KF.slot_mset.plain KF.entry_mset (KF.slot_mset.check _ _ _ _ _ _ _ _ ⟨_,ho,rfl⟩ (KF.args_mset _ _ _) ?_)
 unfold Builtin.«member_descriptor.__set__» descrSet descrStoreThrough descrCheckInstance descrNameAndClass isInstance
 have f5:Looks (model C.prog C.w) hh (descrItself (.ref p)) [.ref p]:=((Looks.ld (part:=none) ho).andThen .now).andThen (Looks.of_pure (by kernel_rfl))
 repeat lk
 refine ⟨Code.quiet_builtin _ (by decide+kernel),codeAny_builtin KF.entry_slotset ?_⟩
 unfold Builtin.«proto.slot#set» Slots.target
 repeat lk
 rw [if_neg hb]
 refine wP (wB ?_)
 unfold setSlotAt
 dsimp only
 rw [if_neg (by rw [sizeLine_eq];lia)]
 exact wpAny_updatePart hx (wP h)
theorem aBq {c i:Nat} {z:Str} {y w:MV} {v u:Value} (B:cH C) (K:gQ C c) (O:kD C c z i) (hi:i < 1000) (I:Inv C sc A env G σ s) (hx:aI G s.heap y v) (hw:aI G s.heap w u):
  Tr C sc A env G σ s (setAttr v z u) (pJ c i y w) (fun _ _ _ _=>True):=by
 intro r σ' e
 revert hx
 refine kN e fun m za hx=>aSa za fun {c' d l} hm zb=>aFh zb fun hb e4=>?_
 have hc:c'=c:=Nat.eq_of_beq_eq_true hb
 subst hc
 (refine elA (aZ e4) fun z1 z2=>?_;obtain rfl:=z1;obtain rfl:=z2)
 (refine iT (xJ I hx hm) fun xa ox od e_1 hp IA hdt hz hdd hs=>?_;obtain rfl:=e_1)
 (refine eT O fun p p1 p2 p3 p4 p5 p6=>?_;try clear O)
 refine set_plain (I.kin B) IA K.sa ?_
 have tk:takerIn C.K (C.cls c') z=some (some (.ref p)):=by unfold takerIn;rw [p1,Option.bind_some];dsimp only;rw [p4];rfl
 refine osa_descr (s:={ s with toks:=s.toks+1 }) KF.slot_mset (I.kin B) IA K.pl tk p2 ?_
 refine aGh (s:={ s with toks:=s.toks+1 }) (I.kin B) IA p5 hi ?_
 obtain ⟨hxa,hcl,hnc, -⟩:=IA
 obtain ⟨oc,odi,oda,osl⟩:=ox
 dsimp only at hcl hdt hz hs hdd
 subst hcl hdt
 have hu:=Heap.get?_update_self (fun o:Obj=>{ o with slots:=(o.slots++Array.replicate (i+1 - o.slots.size) none).setIfInBounds i (some u) }) hxa rfl
 obtain ⟨st,I'⟩:=I.updC (tk:=s.toks+1) (y:= .slots c' d ((l++List.replicate (i+1 - l.length) none).set i (some w))) hp (Heap.SameBut.update ..) hu fun mv=>by
  refine ⟨rfl,hdd,rfl,?_,fun j z' hj=>?_⟩
  ·simp [hz]
  ·rw [List.getElem?_set] at hj
   split at hj
   ·rename_i q
    subst q
    split at hj
    ·rename_i hlt
     cases hj
     refine ⟨u,?_,mv _ _ hw⟩
     show ((osl++Array.replicate (i+1 - osl.size) none).setIfInBounds i (some u))[i]?=_
     rw [Array.getElem?_setIfInBounds_self_of_lt]
     simp at hlt ⊢
     lia
    ·exact aP hj
   ·rename_i q
    have hjl:j < l.length:=by
     by_cases q2:j < l.length
     ·exact q2
     ·rw [getElem?_append_right (Nat.le_of_not_lt q2),List.getElem?_replicate] at hj
      split at hj <;> simp at hj
    rw [getElem?_append_left hjl] at hj
    refine aJ (hs j z' hj) fun v' hv' rv'=>?_
    refine ⟨v',?_,mv _ _ rv'⟩
    show ((osl++Array.replicate (i+1 - osl.size) none).setIfInBounds i (some u))[j]?=_
    rw [Array.getElem?_setIfInBounds_ne q,Array.getElem?_append_left (by rw [hz];exact hjl)]
    exact hv'
 exact ⟨(),G,rfl,st,I',trivial⟩
theorem Tr.thenQ {α β δ:Type} {t:Sem α} {f:M β} {g:β→M δ} {r:R δ} {σ':St} {P:Gh→Heap→β→α→Prop} {Q:α→Shared→Prop} (x:Tr C sc A env G σ s t f P) (e:M.bind f g σ=some (r,σ'))
  (hexc:∀k G' s' y,r= .exc k→bB G s G' s'→Inv C sc A env G' σ' s'→kQ G' s'.heap env sc.hm y k→E y s')
  (hok:∀b σ₁ G' s' a,g b σ₁=some (r,σ')→bB G s G' s'→Inv C sc A env G' σ₁ s'→P G' s'.heap b a→Q a s'):wpAny (model C.prog C.w) A t Q E s:=by
 focus (refine elrEAoEEA (M.bind_some e) (fun k e1 r_1=>?_) fun b σ₁ e1 e2=>?_;obtain rfl:=r_1;rotate_left;rotate_left)
 ·refine wpAny_mono (x _ _ e1) (fun a s' h=>?_) fun y s' h=>?_
  ·exact (mK h).elim
  ·(refine bL h fun k' G' q st I' x'=>?_;try clear h);(obtain rfl:=oD q);exact hexc k G' s' y rfl st I' x'
 ·refine wpAny_mono (x _ _ e1) (fun a s' h=>?_) fun y s' h=>?_
  ·(refine bL h fun b' G' q st I' p=>?_;try clear h);(obtain rfl:=eU q);exact hok b σ₁ G' s' a e2 st I' p
  ·exact (fI h).elim
theorem lB {o e:Expr} {attr:Str} {p pos:Pos} {f g:M MV} {w:MV→MV→M Unit} (hw:∀A env G σ s y v z u,Inv C sc A env G σ s→aI G s.heap y v→aI G s.heap z u→Tr C sc A env G σ s (setAttr v attr u) (w y z) (fun _ _ _ _=>True))
  (he:aV C hd n sc e f) (ho:aV C hd n sc o g) (hs:∀env,swapsWith e (some (.Attribute o attr p)) pos.line env=pure false):
  fK C hd n sc (.Assign [.Attribute o attr p] e pos) (M.bind f fun z=>M.bind g fun y=>M.bind (w y z) fun _=>M.pure .next):=by
 intro A env G σ s hA I r σ' er
 refine plainObj_wpAny_Assign_Attribute ?_ (hs env)
 refine (he A env G σ s hA I).thenQ er (fun k G' s' y q st I' x=>⟨k,G',q,st,I',x⟩) fun z σ₁ G₁ s₁ u e1 st1 I1 p1=>?_
 refine (ho A env G₁ σ₁ s₁ hA I1).thenQ e1 (fun k G' s' y q st I' x=>⟨k,G',q,st1.trans st,I',x⟩) fun y σ₂ G₂ s₂ v e2 st2 I2 p2=>?_
 refine (hw A env G₂ σ₂ s₂ y v z u I2 p2 (p1.step I1.g st2)).thenQ e2 (fun k G' s' y q st I' x=>⟨k,G',q,st1.trans (st2.trans st),I',x⟩) fun _ σ₃ G₃ s₃ _ e3 st3 I3 _=>?_
 (have q_:=aZ e3;clear e3;obtain ⟨rfl,rfl⟩:=q_)
 exact ⟨.next,G₃,rfl,st1.trans (st2.trans st3),I3,.next⟩
theorem jN (c x:Nat) {o e:Expr} {attr:Str} {p pos:Pos} {f g:M MV} (B:cH C) (K:gQ C c) (O:kC C c attr) (he:aV C hd n sc e f) (ho:aV C hd n sc o g) (hz:autoParam (an x=attr) aX._auto_1) (hx4:autoParam (Nat.ble x 3=true) aX._auto_1)
  (hs:autoParam (∀env,swapsWith e (some (.Attribute o attr p)) pos.line env=pure false) dL._auto_1):
  fK C hd n sc (.Assign [.Attribute o attr p] e pos) (M.bind f fun z=>M.bind g fun y=>M.bind (aBo c x y z) fun _=>M.pure .next):=
 lB (fun _ _ _ _ _ _ _ _ _ I r1 r2=>aBp B K O hz (Nat.lt_succ_of_le (bT hx4)) I r1 r2) he ho hs
theorem jO (c i:Nat) {o e:Expr} {attr:Str} {p pos:Pos} {f g:M MV} (B:cH C) (K:gQ C c) (O:kD C c attr i) (he:aV C hd n sc e f) (ho:aV C hd n sc o g) (hi:autoParam (Nat.ble i 999=true) aX._auto_1)
  (hs:autoParam (∀env,swapsWith e (some (.Attribute o attr p)) pos.line env=pure false) dL._auto_1):
  fK C hd n sc (.Assign [.Attribute o attr p] e pos) (M.bind f fun z=>M.bind g fun y=>M.bind (pJ c i y z) fun _=>M.pure .next):=
 lB (fun _ _ _ _ _ _ _ _ _ I r1 r2=>aBq B K O (Nat.lt_succ_of_le (bT hi)) I r1 r2) he ho hs
theorem pK {o e:Expr} {attr:Str} {op:Operator} {p pos:Pos} {f g:M MV} {gt:MV→M MV} {w:MV→MV→M Unit}
  (hg:∀A env G σ s y v,Inv C sc A env G σ s→aI G s.heap y v→Tr C sc A env G σ s (getAttr v attr true) (gt y) (fun G h x v=>aI G h x v))
  (hw:∀A env G σ s y v z u,Inv C sc A env G σ s→aI G s.heap y v→aI G s.heap z u→Tr C sc A env G σ s (setAttr v attr u) (w y z) (fun _ _ _ _=>True))
  (he:aV C hd n sc e f) (ho:aV C hd n sc o g):
  fK C hd n sc (.AugAssign (.Attribute o attr p) op e pos) (M.bind g fun y=>M.bind (gt y) fun a=>M.bind f fun b=>M.bind (M.lift (sC op a b)) fun c=>M.bind (w y c) fun _=>M.pure .next):=by
 intro A env G σ s hA I r σ' er
 refine wpAny_AugAssign_AttributeAny ?_
 refine (ho A env G σ s hA I).thenQ er (fun k G' s' y q st I' x=>⟨k,G',q,st,I',x⟩) fun y σ₁ G₁ s₁ v e1 st1 I1 p1=>?_
 refine (hg A env G₁ σ₁ s₁ y v I1 p1).thenQ e1 (fun k G' s' y q st I' x=>⟨k,G',q,st1.trans st,I',x⟩) fun a σ₂ G₂ s₂ va e2 st2 I2 p2=>?_
 refine (he A env G₂ σ₂ s₂ hA I2).thenQ e2 (fun k G' s' y q st I' x=>⟨k,G',q,st1.trans (st2.trans st),I',x⟩) fun b σ₃ G₃ s₃ vb e3 st3 I3 p3=>?_
 have ta:Tr C sc A env G₃ σ₃ s₃ (inplaceOp op va vb) (M.lift (sC op a b)) (fun G h x v=>aI G h x v):=Tr.of_ext I3 fun b e Q E h=>sX e (p2.step I2.g st3) p3 h
 refine ta.thenQ e3 (fun k G' s' y q st I' x=>⟨k,G',q,st1.trans (st2.trans (st3.trans st)),I',x⟩) fun c σ₄ G₄ s₄ vc e4 st4 I4 p4=>?_
 have pv:=((p1.step I1.g st2).step I2.g st3).step I3.g st4
 refine (hw A env G₄ σ₄ s₄ y v c vc I4 pv p4).thenQ e4 (fun k G' s' y q st I' x=>⟨k,G',q,st1.trans (st2.trans (st3.trans (st4.trans st))),I',x⟩) fun _ σ₅ G₅ s₅ _ e5 st5 I5 _=>?_
 (have q_:=aZ e5;clear e5;obtain ⟨rfl,rfl⟩:=q_)
 exact ⟨.next,G₅,rfl,st1.trans (st2.trans (st3.trans (st4.trans st5))),I5,.next⟩
theorem tF (c x:Nat) {o e:Expr} {attr:Str} {op:Operator} {p pos:Pos} {f g:M MV} (B:cH C) (K:gQ C c) (O:kC C c attr) (he:aV C hd n sc e f) (ho:aV C hd n sc o g) (hz:autoParam (an x=attr) aX._auto_1) (hx4:autoParam (Nat.ble x 3=true) aX._auto_1):
  fK C hd n sc (.AugAssign (.Attribute o attr p) op e pos) (M.bind g fun y=>M.bind (kJ c x y) fun a=>M.bind f fun b=>M.bind (M.lift (sC op a b)) fun d=>M.bind (aBo c x y d) fun _=>M.pure .next):=
 pK (fun _ _ _ _ _ _ _ I r=>aBm B K O hz I r) (fun _ _ _ _ _ _ _ _ _ I r1 r2=>aBp B K O hz (Nat.lt_succ_of_le (bT hx4)) I r1 r2) he ho
theorem tG (c i:Nat) {o e:Expr} {attr:Str} {op:Operator} {p pos:Pos} {f g:M MV} (B:cH C) (K:gQ C c) (O:kD C c attr i) (he:aV C hd n sc e f) (ho:aV C hd n sc o g) (hi:autoParam (Nat.ble i 999=true) aX._auto_1):
  fK C hd n sc (.AugAssign (.Attribute o attr p) op e pos) (M.bind g fun y=>M.bind (fH c i y) fun a=>M.bind f fun b=>M.bind (M.lift (sC op a b)) fun d=>M.bind (pJ c i y d) fun _=>M.pure .next):=
 pK (fun _ _ _ _ _ _ _ I r=>aBn B K O I r) (fun _ _ _ _ _ _ _ _ _ I r1 r2=>aBq B K O (Nat.lt_succ_of_le (bT hi)) I r1 r2) he ho
end
end Mine
end
section
open PySem PySem.W PyProof.Rows PySem.SeqAt PySem.Calls Builtin Builtin.ObjectAttr
set_option maxRecDepth 10000
set_option tactic.hygienic false
namespace Mine
section
variable {C:Cx} {hd:Bool} {n:Nat} {sc:SC} {A:Around} {env:Env} {G:Gh} {σ:St} {s:Shared} {Q E:Value→Shared→Prop}
structure jB (C:Cx) (c:Nat) (z:Str) (a:Addr):Prop where
 fnd:findIn C.K (.ref (C.cls c)) z=some (some (.ref a))
 fn:typeIn C.K (.ref a)=some (.type "function")
 no:∀x,x < 4→an x≠z
noncomputable def instCk (c:Nat) (v:MV):M Unit:=fun σ=>oC v fun m=>pI σ.H[m]? fun c' d=>gd (Nat.beq c' c) (pA σ.H[d]? fun _=>some (.ok (),σ))
theorem iX {c:Nat} {y:MV} {r:R Unit} {σ':St} {v:Value} (I:Inv C sc A env G σ s) (hx:aI G s.heap y v) (e:instCk c y σ=some (r,σ')):
  r= .ok ()∧σ'=σ∧∃x ox od es ep,v= .ref x∧InstAt s.heap x ox (C.cls c) (some od)∧od.data= .dict es ep∧StrKeys es∧∀z,(∀x,x < 4→an x≠z)→nsFind es z=none:=by
 revert hx
 refine kN e fun m za hx=>aQh za fun {c' d} hm zb=>aFh zb fun hb zc=>aQi zc fun {l} hl e4=>?_
 have hc:c'=c:=Nat.eq_of_beq_eq_true hb
 subst hc
 (refine elA (aZ e4) fun z1 z2=>?_;obtain rfl:=z1;obtain rfl:=z2)
 (refine fB (uS I hx hm hl) fun xa dx ox od es ep e_6 hp hd IA hdd hod h1 h2 h3 h4 h5=>?_;obtain rfl:=e_6)
 exact ⟨rfl,rfl,xa,ox,od,es,ep,rfl,IA,h1,h2,fun z hz=>h5 z fun x y e=>hz x (h4 x y e).1⟩
theorem iM (c:Nat) {o:Expr} {name:Str} {apos pos:Pos} {es:List Expr} {a:Addr} {f:M MV} {fs:List (M MV)} {Φ:List MV→List MV→List MO→Option (MV×List MO)} {m:Nat} (B:cH C) (K:gQ C c) (T:jB C c name a)
  (hp:eC C m a [] Φ) (hm:m≤n) (ho:aV C true n sc o f) (he:dD C true n sc es fs)
  (hev:autoParam (∀env,eval (.Call (.Attribute o name apos) es [] pos) env=(do
   let ov ←eval o env
   standAt apos.atName
   let (f,first) ←holding [ov] (getMethod ov name (do return (←importBound o env).getD true))
   callWith pos f first (backTo pos (starEach es env)) (backToKw pos (keywordEach [] env)))) dL._auto_1):
  aV C true n sc (.Call (.Attribute o name apos) es [] pos) (M.bind f fun x=>M.bind (instCk c x) fun _=>M.bind (aO fs) fun l=>gP Φ (x::l) []):=by
 intro A env G σ s hA I r σ' e
 refine methodCall_KW (pl:=do return (←importBound o env).getD true) ?_ (hev env)
 refine (ho A env G σ s hA I).thenQ e (fun k G' s' y q st I' x=>⟨k,G',q,st,I',x⟩) fun y σ₁ G₁ s₁ v e1 st1 I1 p1=>?_
 focus (refine elrEAoEEA (M.bind_some e1) (fun k e2 r_4=>?_) fun _ σ₂ e2 e3=>?_;obtain rfl:=r_4;rotate_left;rotate_left)
 ·obtain ⟨q,_⟩:=iX I1 p1 e2;exact lU q
 (refine lZ (iX I1 p1 e2) fun _ e_4 x ox od ess ep e_5 IA h1 h2 h3=>?_;obtain rfl:=e_4;obtain rfl:=e_5)
 refine method_fn (I1.kin B) IA K.ga K.gn T.fnd T.fn (by unfold shadowIn;dsimp only;rw [oM h1 h2,h3 name T.no];rfl) ?_
 refine cJ (hp.1) fun of fd hof hfd=>?_
 have hk:mA C true n sc [] [] []:= .nil
 focus (refine elrEAoEEA (M.bind_some e3) (fun k e4 r_3=>?_) fun l σ₃ e4 e5=>?_;obtain rfl:=r_3;rotate_left;rotate_left)
 ·have e1':(M.bind (aO fs) fun l=>M.bind (aO []) fun m=>M.pure (l,m)) σ₂=some (.exc k,σ'):=by unfold M.bind;rw [e4]
  refine callWith_function_kw (o:=of) (fd:=fd) (wpAny_mono (gY he hk hA I1 _ _ e1') (fun a s' h=>?_) fun a s' h=>?_)
  ·exact (mK h).elim
  ·obtain ⟨b,G',q,st,h⟩:=h;(obtain rfl:=oD q);exact ⟨k,G',rfl,st1.trans st,h⟩
 ·have e1':(M.bind (aO fs) fun l=>M.bind (aO []) fun m=>M.pure (l,m)) σ₂=some (.ok (l,[]),σ₃):=by unfold M.bind;rw [e4];rfl
  refine callWith_function_kw (o:=of) (fd:=fd) (wpAny_mono (gY he hk hA I1 _ _ e1') (fun ar s' h=>?_) fun a s' h=>?_)
  ·(refine iE h fun b G' q' st I' q1 kv q2 q3=>?_;try clear h)
   (obtain rfl:=eU q')
   refine ⟨⟨I'.x0 a of hof,hfd⟩,?_⟩
   have kw0:ar.kw=([]:List Str).zip []:=by rw [q2];rfl
   rw [kw0]
   refine wpAny_mono (aBl hp hm hA I' (kvs:= []) (.cons (p1.step I1.g st) q1) .nil r σ' e5) (fun v s'' h=>?_) fun y s'' h=>?_
   ·(refine bL h fun b G'' q st' I'' p=>?_;try clear h);exact ⟨b,G'',q,st1.trans (st.trans st'),I'',p⟩
   ·(refine bL h fun b G'' q st' I'' p=>?_;try clear h);exact ⟨b,G'',q,st1.trans (st.trans st'),I'',p⟩
  ·exact (fI h).elim
noncomputable def aBr (x:MV):M (List MV):=fun σ=>oL x fun l=>if cC l.length then some (.ok l,σ) else none
theorem aKz {y:MV} {v:Value} (I:Inv C sc A env G σ s) (hy:aI G s.heap y v) {l:List MV} (e:aBr y σ=some (.ok l,σ)) {Q:List Value→Shared→Prop}
  (h:∀vs s',Ext s s'→aK G s'.heap l vs→Q vs s'):StarOf (model C.prog C.w) A E v Q s:=by
 refine aKi e hy fun l' vs a h1 h2 h3 e=>dG e fun hz e=>?_
 have q:l'=l:=R.ok.inj (aZ e).1
 rw [q] at h3 hz
 refine fJ (id h1) fun o ho hc k hd=>?_
 have hT':s.TypeIs (.ref a) "list":=⟨o,ho,hc⟩
 have z:wpAny (model C.prog C.w) A (collect (.ref a)) Q E s:=by
  refine wpAny_collect_seq a (.inl rfl) ho hc hd (fun h' hk=>?_) (by rw [size_toArray,←h3.length];have:=bN.mp hz;show _≤16777216;lia)
  rw [List.toList_toArray]
  have X:Ext s { s with heap:=h' }:=⟨hk,rfl,rfl⟩
  exact h vs _ X (h3.ext I.g X)
 unfold StarOf notIterableAtAll
 exact wB (wpAny_specialOf hT' PySem.F.slot_list_iter.lookup (wP ⟨rfl,z⟩))
structure uV (C:Cx) (c:Nat) (z:Str) (a:Addr):Prop where
 get:specialIn C.K (.ref a) "__get__"=some (some (.builtin "function.__get__"))
 tk:takesIn C.K (.ref a)=some false
 fn:fnIn C.K a=true
 cp:copiedNames.contains z=false
theorem zQ {c:Nat} {name:Str} {a:Addr} {cd:ClassData} {od:Obj} {ess:Array DictEntry} {ep:Nat} (T:jB C c name a) (T':uV C c name a) (hcl:clsIn C.K (C.cls c)=some cd) (hdd:cd.hasDict=true)
  (q1:od.data= .dict ess ep) (q2:StrKeys ess) (q3:∀z,(∀x,x < 4→an x≠z)→nsFind ess z=none):findObj C.K (C.cls c) (some od) name=some (.bind (.builtin "function.__get__") (.ref a)):=by
 unfold findObj
 rw [hcl,Option.bind_some,T.fnd,Option.bind_some]
 dsimp only;rw [T'.get,Option.bind_some];show (takesIn C.K (.ref a)).bind _=_;rw [T'.tk,Option.bind_some];show (W.ownOf cd _ _).bind _=_
 rw [show W.ownOf cd (some od) name=some none by unfold W.ownOf;rw [hdd,if_pos rfl];dsimp only;rw [oM q1 q2,q3 name T.no],Option.bind_some];dsimp only;rw [T'.cp];rfl
theorem uW (c:Nat) {o e₁ e₂:Expr} {name:Str} {apos pos p₂:Pos} {a:Addr} {f g g₂:M MV} {Φ:List MV→List MV→List MO→Option (MV×List MO)} {m:Nat} (B:cH C) (K:gQ C c) (T:jB C c name a) (T':uV C c name a) (hcd:(clsIn C.K (C.cls c)).any (·.hasDict)=true)
  (hp:eC C m a [] Φ) (hm:m≤n) (ho:aV C true n sc o f) (h1:aV C true n sc e₁ g) (h2:aV C true n sc e₂ g₂)
  (hev:autoParam (∀env,eval (.Call (.Attribute o name apos) [e₁,.Starred e₂ p₂] [] pos) env=(do
   let ov ←eval o env
   standAt apos.atName
   let (f,first) ←holding [ov] (do pure (←getAttr ov name true,[]))
   callWith pos f first (backTo pos (starEach [e₁,.Starred e₂ p₂] env)) [])) dL._auto_1)
  (hst:autoParam (∀env,starEach [e₁,.Starred e₂ p₂] env= [(false,eval e₁ env),(true,eval e₂ env)]) dL._auto_1):
  aV C true n sc (.Call (.Attribute o name apos) [e₁,.Starred e₂ p₂] [] pos) (M.bind f fun x=>M.bind (instCk c x) fun _=>M.bind g fun y=>M.bind g₂ fun l=>M.bind (M.ne (aBr l)) fun l=>gP Φ (x::y::l) []):=by
 intro A env G σ s hA I r σ' e
 rw [hev env]
 refine wB ((ho A env G σ s hA I).thenQ e (fun k G' s' y q st I' x=>⟨k,G',q,st,I',x⟩) fun y σ₁ G₁ s₁ v e1 st1 I1 p1=>?_)
 focus (refine elrEAoEEA (M.bind_some e1) (fun k e2 r_2=>?_) fun _ σ₂ e2 e3=>?_;obtain rfl:=r_2;rotate_left;rotate_left)
 ·obtain ⟨q,_⟩:=iX I1 p1 e2;exact lU q
 (refine lZ (iX I1 p1 e2) fun _ e_2 x ox od ess ep e_3 IA q1 q2 q3=>?_;obtain rfl:=e_2;obtain rfl:=e_3)
 refine aJ (any_some hcd) fun cd hcl hdd=>?_
 refine wB (wpAny_standAt (wB (wpAny_holding (wB ?_))))
 refine get_bind (g:= .builtin "function.__get__") (a:= .ref a) (I1.kin B) IA K.ga ?_ K.gn ?_
 ·exact zQ T T' hcl hdd q1 q2 q3
 refine wpAny_call (fn_get (s:={ s₁ with toks:=s₁.toks+1 }) (I1.kin B) T.fn ?_)
 show wpAny _ _ (handedOut (.ref s₁.heap.objs.size)) _ _ _
 rw [handedOut_of rfl]
 refine wP (wP ?_)
 have X:Ext s₁ { s₁ with heap:=s₁.heap.push (methodObj (.ref a) (.ref x)),toks:=s₁.toks+1 }:=⟨(Ext.push s₁ _).1,rfl,rfl⟩
 obtain ⟨stm,Im, -⟩:=I1.addW (wr:= [s₁.heap.objs.size]) X (fun b hb=>by rw [mS hb];exact bD _) (fun b hb=>by rw [mS hb];exact ⟨_,Heap.get?_push_size _ rfl⟩)
 have hmo:(s₁.heap.push (methodObj (.ref a) (.ref x))).get? s₁.heap.objs.size=some (methodObj (.ref a) (.ref x)):=Heap.get?_push_size _ rfl
 show wpAny _ A (callWith pos (.ref s₁.heap.objs.size) [] (backTo pos (starEach [e₁,.Starred e₂ p₂] env)) []) _ _ _
 have nW:∀{G':Gh} {s':Shared},bB (G₁.addW [s₁.heap.objs.size]) { s₁ with heap:=s₁.heap.push (methodObj (.ref a) (.ref x)),toks:=s₁.toks+1 } G' s'→C.K.In s'.heap→MethP C.K s₁.heap.objs.size a (.ref x) s'.heap:=fun st' q=>by
  refine ⟨st'.keep _ _ hmo (fun w=>?_) (fun w=>?_),q⟩
  ·obtain ⟨o,ho⟩:=I1.g.lt _ (I1.g.own _ w);rw [bD] at ho;exact aP ho
  ·obtain ⟨o,ho⟩:=I1.g.lt _ (I1.g.frs _ w);rw [bD] at ho;exact aP ho
 refine ks_call (P:=MethP C.K s₁.heap.objs.size a (.ref x)) (by rw [hst];rfl) (keeps_M T'.fn) ?_
 rw [hst]
 rw [show backTo pos [(false,eval e₁ env),(true,eval e₂ env)]= [(false,eval e₁ env),(true,eval e₂ env >>=fun v=>standAt pos >>=fun _=>pure v)] from rfl]
 refine evalArgs_plain ?_
 rw [spliced]
 refine wB ((h1 A env _ σ₂ _ hA Im).thenQ e3 (fun k G' s' y q st I' x=>⟨k,G',q,st1.trans (stm.trans st),I',x⟩) fun z σ₃ G₃ s₃ u e4 st3 I3 p3=>?_)
 refine wB (wP ?_)
 refine wB (wpAny_holding (ks_spliced ?_))
 refine (h2 A env _ σ₃ s₃ hA I3).thenQ e4 (fun k G' s' y q st I' x=>⟨k,G',q,st1.trans (stm.trans (st3.trans st)),I',x⟩) fun l σ₄ G₄ s₄ u₂ e5 st4 I4 p4=>?_
 focus (refine elrEAoEEA (M.bind_some e5) (fun k e6 r_1=>?_) fun items σ₅ e6 e7=>?_;obtain rfl:=r_1;rotate_left;rotate_left)
 ·exact (M.ne_exc e6).elim
 refine aJ (M.ne_some e6) fun items' q e6=>?_
 (obtain rfl:=eU q)
 have hσ:σ₅=σ₄:=by
  exact aKg e6 fun _ e=>dG e fun _ e=>(aZ e).2.symm
 subst hσ
 refine aKz I4 p4 e6 fun vs s₅ X5 r5=>?_
 have I5:=I4.ext X5
 have stA:bB (G₁.addW [s₁.heap.objs.size]) { s₁ with heap:=s₁.heap.push (methodObj (.ref a) (.ref x)),toks:=s₁.toks+1 } G₄ s₅:=st3.trans (st4.trans (X5.step G₄))
 rw [spliced]
 have mp:=nW stA (I5.kin B)
 refine wP (wP ⟨mp,?_⟩)
 show wpAny _ A (call (.ref s₁.heap.objs.size) ([]++([u]++(vs++ []))) []) _ _ s₅
 rw [nil_append,append_nil]
 refine wpAny_call (method_call mp.1 ?_)
 have ra:aK G₄ s₅.heap (y::z::items) (.ref x::([u]++vs)):= .cons (((p1.step I1.g stm).step Im.g st3).step I3.g (st4.trans (X5.step G₄))) (.cons (p3.step I3.g (st4.trans (X5.step G₄))) r5)
 refine aBk e7 fun w H' e8 z1 z2=>?_
 ·rw [z1,z2]
  refine codeAny_mono (hp.2 A G₄ s₅ σ₅.H _ [] _ [] w H' (hA.le hm) I5.b I5.cells ra .nil e8) fun res s' h=>?_
  (refine cD h fun vv G' e_1 hl rv=>?_;try clear h;obtain rfl:=e_1)
  refine iC (I5.opened hl) fun st' I' mv=>?_
  exact ⟨w,_,rfl,st1.trans (stm.trans (stA.trans st')),I',mv _ _ rv⟩
end
section
variable {C:Cx} {hd:Bool} {n:Nat} {sc:SC} {A:Around} {env:Env} {G:Gh} {σ:St} {s:Shared} {Q E:Value→Shared→Prop}
theorem Inv.around {A':Around} (I:Inv C sc A env G σ s) (hf:A'.frames=A.frames) (hh:A'.handled=A.handled):Inv C sc A' env G σ s:=
 ⟨I.x0,I.baseW,I.gens,I.os,I.ok,I.g,I.vars,I.cells,I.apart,by rw [hf];exact I.lnk,I.frs,fun q=>let ⟨e,o,vs,h1,r⟩:=I.held q;⟨e,o,vs,hh.trans h1,r⟩⟩
noncomputable def nL (mo:Nat→MO) (Φ:List MV→List MV→List MO→Option (MV×List MO)) (args:List MV):M MV:=fun σ=>match Φ (.cell (σ.H.length+1)::args) [] (σ.H++ [.attrs []]++ [mo σ.H.length]) with
 | some (x,H')=>(match x with| .none=>some (.ok (.cell (σ.H.length+1)),⟨σ.r,H'⟩)|_=>none)
 | none=>none
theorem aLa {mo:Nat→MO} {Φ:List MV→List MV→List MO→Option (MV×List MO)} {args:List MV} {r:R MV} {σ':St} (e:nL mo Φ args σ=some (r,σ')) {P:Prop}
  (k:∀H',Φ (.cell (σ.H.length+1)::args) [] (σ.H++ [.attrs []]++ [mo σ.H.length])=some (.none,H')→r= .ok (.cell (σ.H.length+1))→σ'=⟨σ.r,H'⟩→P):P:=by
 delta nL at e
 generalize Φ (.cell (σ.H.length+1)::args) [] (σ.H++ [.attrs []]++ [mo σ.H.length])=o at e k
 rcases o with _|⟨x,H'⟩
 ·exact aP e
 ·cases x with
  | none=>exact k H' rfl (aZ e).1.symm (aZ e).2.symm
  | _=>exact aP e
structure rA (C:Cx) (c:Nat) (a:Addr):Prop where
 fnd:findIn C.K (.ref (C.cls c)) "__init__"=some (some (.ref a))
 fn:typeIn C.K (.ref a)=some (.type "function")
 kp:keepIn C.K (.ref (C.cls c))=true
noncomputable def nM (C:Cx) (c:Nat) (mo:Nat→MO):Prop:=∀(G:Gh) (h:Heap) (d:Nat) (dx:Addr),G.phi[d]?=some dx→OIs C G h (instObj (C.cls c) dx) (mo d)
theorem uX (c:Nat):nM C c (fun d=> .inst c d):=fun G h d dx hd=>⟨rfl,rfl,dx,rfl,hd⟩
theorem sO (c:Nat):nM C c (fun d=> .slots c d []):=fun G h d dx hd=>⟨rfl,⟨dx,rfl,hd⟩,rfl,rfl,fun i y e=>by simp at e⟩
theorem aBs {c:Nat} {mo:Nat→MO} {a:Addr} {Φ:List MV→List MV→List MO→Option (MV×List MO)} {m:Nat} {args:List MV} {vals:List Value} (B:cH C) (K:gQ C c) (T:rA C c a) (hmo:nM C c mo) (hp:eC C m a [] Φ) (hm:m+1≤n) (hA:AOk true n A)
  (I:Inv C sc A env G σ s) (ra:aK G s.heap args vals):Tr C sc A env G σ s (call (.ref (C.cls c)) vals []) (nL mo Φ args) (fun G h x v=>aI G h x v):=by
 intro r σ' e
 refine aLa e fun H' e1 z1 z2=>?_
 ·rw [z1,z2]
  refine wpAny_call ?_
  obtain ⟨h,g,d,t,os⟩:=s
  have X:=I.kin B
  refine make_core (makes_of X K.mak) (looks_findIn X T.fnd) (fun self=>bind_fn X self T.fn) (.inl rfl) ?_
  have hframes:(A.under (.builtin "type.__call__" ⟨.ref (C.cls c)::vals,[]⟩)).frames=A.frames:=rfl
  have hw:(Code.builtin "type.__call__" ⟨.ref (C.cls c)::vals,[]⟩).weight=1:=rfl
  have hc:(Code.builtin "type.__call__" ⟨.ref (C.cls c)::vals,[]⟩).cUnits=1:=rfl
  have hA':AOk true m (A.under (.builtin "type.__call__" ⟨.ref (C.cls c)::vals,[]⟩)):=by
   refine ⟨?_,?_,hA.handled⟩
   ·show A.depth+_+m≤900;rw [hw];have:=hA.depth;lia
   ·show A.units+_+100 * m≤9000;rw [hc];have:=hA.units;lia
  have x1:=Ext.push (⟨h,g,d,t,os⟩:Shared) emptyDict
  have I1:=I.addC (y:= .attrs []) x1 (bD _) (Heap.get?_push_size _ rfl) ⟨#[],0,rfl,(fun e he=>by simp at he),List.Pairwise.nil,(fun x y e=>by simp at e),(fun z _=>rfl)⟩
  have st1:=bB.addC (G:=G) x1 (bD h)
  have x2:=Ext.push ({ (⟨h,g,d,t,os⟩:Shared) with heap:=h.push emptyDict }:Shared) (instObj (C.cls c) h.objs.size)
  have hd:(G.addC h.objs.size).phi[σ.H.length]?=some h.objs.size:=by
   show (G.phi++ [h.objs.size])[σ.H.length]?=_
   rw [←I.cells.len];simp
  have I2:=I1.addC (y:=mo σ.H.length) x2 (bD _) (Heap.get?_push_size _ rfl) (hmo _ _ _ _ (getElem?_prefix hd))
  have st2:=bB.addC (G:=G.addC h.objs.size) x2 (bD _)
  have hsz:(h.push emptyDict).objs.size=h.objs.size+1:=Heap.size_push ..
  have rx:aI ((G.addC h.objs.size).addC (h.push emptyDict).objs.size) ((h.push emptyDict).push (instObj (C.cls c) h.objs.size)) (.cell (σ.H.length+1)) (.ref (h.objs.size+1)):=by
   refine .cell ?_
   show ((G.phi++ [h.objs.size])++ [(h.push emptyDict).objs.size])[σ.H.length+1]?=_
   rw [←I.cells.len,hsz];simp
  have I2':=I2.around (A':=A.under (.builtin "type.__call__" ⟨.ref (C.cls c)::vals,[]⟩)) rfl rfl
  have ra2:aK _ _ args vals:=(ra.step I.g st1).step I1.g st2
  refine codeAny_mono (hp.2 _ _ _ _ _ [] _ [] .none H' hA' I2'.b I2'.cells (.cons rx ra2) .nil e1) fun res s' q=>?_
  (refine cD q fun v G' e_1 hl rv=>?_;try clear q;obtain rfl:=e_1)
  cases rv
  refine iC (I2'.opened hl) fun st' I' mv=>?_
  refine ⟨rfl,⟨_,_,rfl,st1.trans (st2.trans st'),I'.around rfl rfl,rx.step I2.g st'⟩⟩
theorem aGi (i c:Nat) {z:Str} {p pos:Pos} {e₀:Expr} {es:List Expr} {mo:Nat→MO} {a:Addr} {f₀:M MV} {fs:List (M MV)} {Φ:List MV→List MV→List MO→Option (MV×List MO)} {m:Nat} (B:cH C) (K:gQ C c) (T:rA C c a) (hmo:nM C c mo)
  (hz:sc.gs[i]?=some z) (hv:C.mg z=some (.ref (C.cls c))) (hdb:(z==("__debug__":Str))=false) (hp:eC C m a [] Φ) (hm:m+1≤n) (he:dD C true n sc (e₀::es) (f₀::fs)):
  aV C true n sc (.Call (.Name z p) (e₀::es) [] pos) (M.bind (aO (f₀::fs)) (nL mo Φ)):=by
 intro A env G σ s hA I r σ' e
 refine wpAny_Call_Name_kw (gB B I (I.ok.globs i z hz) hv hdb ?_)
 show wpAny _ A (callWith pos (.ref (C.cls c)) [] (backTo pos (starEach (e₀::es) env)) []) _ _ s
 refine callWith_of (P:=C.K.In) (by rw [hC he];rfl) (keeps_K T.kp) ?_
 have hs:starEach (e₀::es) env=(false,eval e₀ env)::starEach es env:=by cases he with|cons h0 _ _=>exact h0 env es
 have main:=(eK (pos:=pos) he hA I)
 rw [hs] at main ⊢
 refine evalArgs_plain (main.thenQ e (fun k G' s' y q st I' x=>⟨k,G',q,st,I',x⟩) fun l σ₁ G₁ s₁ vs e1 st1 I1 p1=>⟨I1.kin B,?_⟩)
 refine wpAny_mono (aBs B K T hmo hp hm hA I1 p1 r σ' e1) (fun v s' h=>?_) fun y s' h=>?_
 ·(refine bL h fun b G'' q st' I'' p=>?_;try clear h);exact ⟨b,G'',q,st1.trans st',I'',p⟩
 ·(refine bL h fun b G'' q st' I'' p=>?_;try clear h);exact ⟨b,G'',q,st1.trans st',I'',p⟩
theorem aEc (i c:Nat) {z:Str} {p pos:Pos} {mo:Nat→MO} {a:Addr} {Φ:List MV→List MV→List MO→Option (MV×List MO)} {m:Nat} (B:cH C) (K:gQ C c) (T:rA C c a) (hmo:nM C c mo)
  (hz:sc.gs[i]?=some z) (hv:C.mg z=some (.ref (C.cls c))) (hdb:(z==("__debug__":Str))=false) (hp:eC C m a [] Φ) (hm:m+1≤n):
  aV C true n sc (.Call (.Name z p) [] [] pos) (nL mo Φ []):=by
 intro A env G σ s hA I r σ' e
 refine wpAny_Call_Name_kw (gB B I (I.ok.globs i z hz) hv hdb ?_)
 show wpAny _ A (callWith pos (.ref (C.cls c)) [] (backTo pos (starEach [] env)) []) _ _ s
 exact callWith_K0 (I.kin B) T.kp (aBs B K T hmo hp hm hA I .nil r σ' e)
theorem tH (x:Nat) {z:Str} {e:Expr} {p pos:Pos} {f:M MV} (h:aV C hd n sc e f) (hz:autoParam (nm x=z) aX._auto_1) (hk:autoParam (cZ (sc.lookup x)=true) aX._auto_1):
  aV C hd n sc (.NamedExpr (.Name z p) e pos) (M.bind f fun v=>M.bind (bE x v) fun _=>M.pure v):=by
 subst hz
 intro A env G σ s hA I
 show Tr C sc A env G σ s (eval e env >>=fun v=>holding [v] (assign (.Name (nm x) p) env v) >>=fun _=>pure v) _ _
 refine Tr.bind (h A env G σ s hA I) fun y v G' σ' s' st I' q=>?_
 refine Tr.bind (Tr.holding (Tr.stand (eM I' hk q))) fun _ _ G'' σ'' s'' st' I'' _=>Tr.pure I'' (q.step I'.g st')
theorem Inv.adopt {D:Addr} {vs:List Value} {k:Nat} {l:List MV} (I:Inv C sc A env G σ s) (sd:eS sc env G [D]) (hl:IsL s.heap D (List.toArray vs) k) (hr:aK G s.heap l vs):
  Inv C sc A env ⟨G.W,fun a=>G.own a∨a=D,G.frs,G.phi++ [D]⟩ ⟨σ.r,σ.H++ [.list l]⟩ s∧aI ⟨G.W,fun a=>G.own a∨a=D,G.frs,G.phi++ [D]⟩ s.heap (.cell σ.H.length) (.ref D):=by
 obtain ⟨dW,dA⟩:=sd D (mem_singleton.mpr rfl)
 have mv:∀z v,aI G s.heap z v→aI ⟨G.W,fun a=>G.own a∨a=D,G.frs,G.phi++ [D]⟩ s.heap z v:=fun z v r=>aI.go (G:=G) (G':=⟨G.W,fun a=>G.own a∨a=D,G.frs,G.phi++ [D]⟩) (fun a o e n=>⟨e,n⟩) (fun m a q=>getElem?_prefix q) r
 have old:∀(m:Nat) b,(G.phi++ [D])[m]?=some b→(m < G.phi.length∧G.phi[m]?=some b)∨(m=G.phi.length∧b=D):=by
  intro m b q
  rcases Nat.lt_trichotomy m G.phi.length with h|h|h
  ·rw [getElem?_append_left h] at q;exact .inl ⟨h,q⟩
  ·subst h;simp at q;exact .inr ⟨rfl,q.symm⟩
  ·rw [getElem?_append_right (Nat.le_of_lt h),getElem?_eq_none (by simp;lia)] at q;exact aP q
 have nphi:∀(m:Nat) b,G.phi[m]?=some b→b≠D:=fun m b q e=>dA.own (e ▸ I.cells.own m b q)
 have hl':s.heap.get? D=some { cls:= .type "list",data:= .seq vs.toArray k }:=hl
 refine ⟨⟨I.x0,I.baseW,I.gens,I.os,I.ok,⟨fun a q=>q.elim (I.g.own a) fun q=>q ▸ dW,I.g.frs,I.g.lt⟩,⟨?_,?_,.inl I.vars.ownL,fun y c h1 h2=> .inl (I.vars.ownC y c h1 h2),I.vars.apart⟩,⟨?_,?_,?_,?_,?_⟩,?_,I.lnk,I.frs,fun q=>?_⟩,.cell ?_⟩
 ·refine aJ (I.vars.loc) fun m hn hm=>?_
  exact ⟨m,hn,fun y z h1 h2=>let ⟨v,hv,r⟩:=hm y z h1 h2;⟨v,hv,mv _ _ r⟩⟩
 ·intro y ky h1 h2
  refine cD (I.vars.cel y ky h1 h2) fun c ov hc hi hr=>?_
  exact ⟨c,ov,hc,hi,fun z hz=>let ⟨v,hv,r⟩:=hr z hz;⟨v,hv,mv _ _ r⟩⟩
 ·show (G.phi++ [D]).length=(σ.H++ [MO.list l]).length
  simp [I.cells.len]
 ·intro m b q
  refine fZ (old m b q) (fun _ q=>?_) fun _ q=>?_
  ·exact .inl (I.cells.own m b q)
  ·exact .inr q
 ·intro m m' b q q'
  refine fZ (old m b q) (fun h1 q1=>?_) fun h1 q1=>?_ <;> refine fZ (old m' b q') (fun h2 q2=>?_) fun h2 q2=>?_
  ·exact I.cells.inj m m' b q1 q2
  ·exact absurd q2 (nphi m b q1)
  ·exact absurd q1 (nphi m' b q2)
  ·rw [h1,h2]
 ·intro m b q f
  refine fZ (old m b q) (fun _ q=>?_) fun _ q=>?_
  ·exact I.cells.nfr m b q f
  ·exact dA.frs (q ▸ f)
 ·intro m b z q e
  refine fZ (old m b q) (fun h1 q=>?_) fun h1 q=>?_
  ·have e:(σ.H++ [MO.list l])[m]?=some z:=e
   rw [getElem?_append_left (by rw [←I.cells.len];exact h1)] at e
   refine aJ (I.cells.at' m b z q e) fun o ho r=>?_
   exact ⟨o,ho,r.mono mv fun _ _ q=>getElem?_prefix q⟩
  ·have e:(σ.H++ [MO.list l])[m]?=some z:=e
   rw [h1,I.cells.len] at e
   simp at e
   subst e
   exact ⟨_,q ▸ hl',⟨rfl,rfl⟩,rfl,vs,k,rfl,hr.map1 mv⟩
 ·intro m b q
  refine fZ (old m b q) (fun _ q=>?_) fun _ q=>?_
  ·exact I.apart m b q
  ·rw [q];exact ⟨dA.loc,fun x c h1 h2=>dA.cel x _ c h1 (.inl rfl) h2⟩
 ·refine iT (I.held q) fun e o ws h1 h2 h3 h4 h5 h6 h7=>?_
  refine ⟨e,o,ws,h1,h2,h3,h4,h5,fun w=>w.elim h6 fun w=>?_,h7⟩
  rw [w,hl'] at h2;(obtain rfl:=sJ h2);cases h3
 ·show (G.phi++ [D])[σ.H.length]?=_
  rw [←I.cells.len];simp
theorem tI {sc':SC} {scope:Scope} (loc:List Nat) {elt target iter:Expr} {ifs:List Expr} {pos:Pos} {okT:Expr→Bool} {fi:M (Nat×Nxt)} {tg:MV→M Unit} {cond:M Bool} {f:M MV}
  (hi:sF C n sc okT iter fi) (ht:wV C n sc' target tg) (hc:zK C n sc' ifs cond) (he:aV C true n sc' elt f) (S:autoParam (qS sc sc' scope loc=true) aX._auto_1) (hT:autoParam (okT target=true) aX._auto_1) (hs:autoParam (∀env x,foldedSetIterable iter env x=pure x) nB._auto_1):
  aV C true n sc (.ListComp elt [⟨target,iter,ifs,0⟩] scope pos) (M.bind (M.ne (dH loc fi tg cond f)) fun l=>oF (.list l)):=by
 intro A env G σ s hA I r σ' e
 focus (refine elrEAoEEA (M.bind_some e) (fun j e1 r_1=>?_) fun l σ₁ e1 e2=>?_;obtain rfl:=r_1;rotate_left;rotate_left)
 ·exact (M.ne_exc e1).elim
 refine aJ (M.ne_some e1) fun l' q e1=>?_
 (obtain rfl:=eU q)
 (have q_:=aZ e2;clear e2;obtain ⟨rfl,rfl⟩:=q_)
 rw [eval_ListComp]
 refine qT (use:=none) (oJ S) hi ht hc he hT (hs env) hA I e1 fun D L G' s' st I' sd hl hns fD fL nDL hz=>?_
 obtain ⟨m,hn⟩:=hns
 (refine cJ hl fun vs k h1 h2=>?_;try clear hl)
 refine ⟨m,hn,fun h' hs'=>?_⟩
 have md:Mod [L] s' { s' with heap:=h' }:=⟨fun b o hb e=>(hs'.2 b fun q=>hb (by rw [q];simp)).trans e,rfl,rfl⟩
 have fr:∀b∈ [L],s.heap.get? b=none:=fun b hb=>by rw [mS hb];exact fL
 have sdL:eS sc env G' [L]:=fun b hb=>sd b (by rw [mS hb];simp)
 have hk:IsL h' D (List.toArray vs) k:=(hs'.2 D nDL).trans h1
 have I1:=Inv.modEnd (hA.handled rfl) I' sdL md
 have st1:=st.modEnd I.g fr md
 have sdD:eS sc env (G'.subW [L]) [D]:=fun b hb=>by
  rw [mS hb]
  have:=sd D (by simp)
  exact ⟨⟨this.1,fun q=>nDL (mS q)⟩,this.2.own,this.2.frs,this.2.loc,this.2.cel⟩
 obtain ⟨I2,r2⟩:=I1.adopt sdD hk (aK.weakW (G:=G') (G':=G'.subW [L]) (fun _ q=>q.1) rfl (h2.keep (md.vk fun b hb=>(sdL b hb).1)))
 refine ⟨_,_,rfl,?_,I2,r2⟩
 refine ⟨st1.keep,st1.slots,st1.alive,st1.W,st1.W',fun a q=> .inl (st1.own a q),fun a q=>q.elim (st1.own' a) fun q=> .inr (q ▸ fD),st1.frs,?_,st1.gens,st1.os⟩
 refine aJ (st1.phi) fun l1 e1 f1=>?_
 refine ⟨l1++ [D],by show (G'.subW [L]).phi++ [D]=_;rw [e1,append_assoc],fun a ha=>?_⟩
 rcases mem_append.mp ha with q|q
 ·exact f1 a q
 ·rw [mS q];exact fD
end
end Mine
end
section
open PySem PySem.W PyProof.Rows PySem.SeqAt PySem.Calls Builtin Builtin.ObjectAttr
set_option maxRecDepth 100000
set_option tactic.hygienic false
namespace Mine
namespace FN
theorem ga_look:typeLookup (.type "list_iterator") "__getattribute__"=pure (some (.builtin "object.__getattribute__")):=by rw [typeLookup_type,builtinLookup_eq_fast];kernel_rfl
theorem nx_look:typeLookup (.type "list_iterator") "__next__"=pure (some (.builtin "list_iterator.__next__")):=by rw [typeLookup_type,builtinLookup_eq_fast];kernel_rfl
theorem nx_type:typeOf (.builtin "list_iterator.__next__")=pure (.type "wrapper_descriptor"):=by kernel_rfl
theorem wd_get:Slot "wrapper_descriptor" "__get__" "wrapper_descriptor.__get__":=
 .of (owner:= "wrapper_descriptor") (n:= "__get__") (by rw [typeLookup_type,builtinLookup_eq_fast];kernel_rfl) (by decide+kernel) (by decide+kernel) (by decide+kernel)
  (by exact .inl (by decide+kernel)) (by rw [isSubtype_type];kernel_rfl)
theorem wd_set:typeLookup (.type "wrapper_descriptor") "__set__"=pure none:=by rw [typeLookup_type,builtinLookup_eq_fast];kernel_rfl
theorem wd_del:typeLookup (.type "wrapper_descriptor") "__delete__"=pure none:=by rw [typeLookup_type,builtinLookup_eq_fast];kernel_rfl
theorem wd_entry:entryFor table "wrapper_descriptor.__get__"=some Builtin.«wrapper_descriptor.__get__»:=entryFor_of_tree (by kernel_rfl)
theorem wd_args (a b c:Value):argsOk "wrapper_descriptor.__get__" ⟨[a,b,c],[]⟩:=by unfold argsOk;kernel_rfl
theorem ga_slot:Slot "list_iterator" "__getattribute__" "object.__getattribute__":=
 .of (owner:= "object") (n:= "__getattribute__") (by rw [typeLookup_type,builtinLookup_eq_fast];kernel_rfl) (by decide+kernel) (by decide+kernel) (by decide+kernel)
  (by exact .inl (by decide+kernel)) (by rw [isSubtype_type];kernel_rfl)
theorem aGj:(".".intercalate ("list_iterator.__next__".cutAt '.').dropLast)= "list_iterator":=by
 have e0: "list_iterator.__next__".cutAt '.'= ["list_iterator","__next__"]:=by rfl
 rw [e0];decide+kernel
theorem sub_owner:isSubtype (.type "list_iterator") (.type (".".intercalate ("list_iterator.__next__".cutAt '.').dropLast))=pure true:=by rw [aGj,isSubtype_type];kernel_rfl
end FN
theorem _root_.PySem.Obj.dict_mapFields' {o:Obj} {vs:Array Value} (hd:o.data= .fields vs) (f:Array Value→Array Value):(Obj.mapFields f o).dict=o.dict:=by
 obtain ⟨c,d,x,l⟩:=o;cases hd;rfl
section
variable {prog:Program} {w:World} {A:Around} {E:Value→Shared→Prop} {h:Heap} {g:Array GenState} {d:Drawn} {t:Nat} {os:OsState} {a:Addr} {o:Obj}
theorem aLb {M:Model} {o:Obj} (ho:h.get? a=some o) (hc:o.cls= .type "list_iterator") (hd:o.dict=none) {vs:Array Value} (hf:o.data= .fields vs):Looks M h (find (.ref a) (.type "list_iterator") "__next__") (.bind (.builtin "wrapper_descriptor.__get__") (.builtin "list_iterator.__next__")):=by
 obtain ⟨c,dd,dt,sl⟩:=o
 simp only at hc hd hf
 subst hc hd hf
 have L1:Looks M h (typeLookup (.type "list_iterator") "__next__") (some (.builtin "list_iterator.__next__")):=Looks.of_pure FN.nx_look
 have LT:Looks M h (typeOf (.builtin "list_iterator.__next__")) (.type "wrapper_descriptor"):=Looks.of_pure FN.nx_type
 have L2:Looks M h (getOf (some (.builtin "list_iterator.__next__"))) (some (.builtin "wrapper_descriptor.__get__")):=LT.andThen (Looks.of_pure FN.wd_get.lookup)
 have S1:Looks M h (specialOf (.builtin "list_iterator.__next__") "__set__") none:=LT.andThen (Looks.of_pure FN.wd_set)
 have S2:Looks M h (specialOf (.builtin "list_iterator.__next__") "__delete__") none:=LT.andThen (Looks.of_pure FN.wd_del)
 have L3:Looks M h (takesStores (.builtin "list_iterator.__next__")) false:=by
  intro A Q E s k q
  unfold takesStores
  refine wB (S1 A _ E s k ?_)
  simp only [Option.isSome_none,Bool.false_eq_true,if_false]
  exact wB (S2 A _ E s k (wP q))
 refine L1.andThen (L2.andThen ?_)
 refine (show Looks M h (dataDescriptor? (some (.builtin "list_iterator.__next__")) (some (.builtin "wrapper_descriptor.__get__"))) none from L3.andThen .now).andThen ?_
 show Looks M h (ownThenClass (.ref a) "__next__" _ _) _
 have L4:Looks M h (inOwnDict "__next__" (.ref a)) none:=by
  intro A Q E s k q
  unfold inOwnDict
  dsimp only
  refine wB ?_
  unfold ObjectAttr.ownDict
  refine wB (wpAny_loadPart (k _ _ ho) ?_)
  dsimp only
  unfold instanceDict
  refine wB (wpAny_loadPart (k _ _ ho) ?_)
  dsimp only
  exact wP (wP q)
 refine L4.andThen (Looks.now.andThen ?_)
 exact Looks.tag .now
theorem aSo {R:Result→Shared→Prop} {o:Obj} (ho:h.get? a=some o) (hc:o.cls= .type "list_iterator")
  (hQ:R (.ok (.ret (.ref h.objs.size))) ⟨h.push { cls:= .type "method-wrapper",data:= .fields #[.builtin "list_iterator.__next__",.ref a] },g,d,t,os⟩):
  codeAny (model prog w) A (.call (.builtin "wrapper_descriptor.__get__") ⟨[.builtin "list_iterator.__next__",.ref a,.type "list_iterator"],[]⟩) R ⟨h,g,d,t,os⟩:=by
 have hT5:(⟨h,g,d,t,os⟩:Shared).TypeIs (.builtin "list_iterator.__next__") "wrapper_descriptor":=FN.nx_type
 have hT:(⟨h,g,d,t,os⟩:Shared).TypeIs (.ref a) "list_iterator":=⟨_,ho,hc⟩
 have f8:=FN.sub_owner
 refine codeAny_call_builtin FN.wd_get.plain FN.wd_entry (FN.wd_get.check _ _ _ _ _ _ _ _ hT5 (FN.wd_args _ _ _) ?_)
 repeat (any_goals (first|assumption|wp_step))
theorem aSp {R:Result→Shared→Prop} {o:Obj} {vs:Array Value} {tk:Tok} (ho:h.get? a=some o) (hc:o.cls= .type "list_iterator") (hd:o.dict=none) (hf:o.data= .fields vs)
  (hQ:R (.ok (.ret (.ref h.objs.size))) ⟨h.push { cls:= .type "method-wrapper",data:= .fields #[.builtin "list_iterator.__next__",.ref a] },g,d,t,os⟩):
  codeAny (model prog w) A (.call (.builtin "object.__getattribute__") ⟨[.ref a,.str "__next__" tk],[]⟩) R ⟨h,g,d,t,os⟩:=by
 have hT:(⟨h,g,d,t,os⟩:Shared).TypeIs (.ref a) "list_iterator":=⟨_,ho,hc⟩
 have L0:Looks (model prog w) h (typeOf (.ref a)) (.type "list_iterator"):=hc ▸ (Looks.ld ho).andThen .now
 have L2:=aLb (M:=model prog w) ho hc hd hf
 refine codeAny_call_builtin FN.ga_slot.plain F.entry_object_getattribute (FN.ga_slot.check _ _ _ _ _ _ _ _ hT (F.args_object_getattribute_2 _ _) ?_)
 refine wB (wP (wB (wP (wB (L0.at (wB (L2.at ?_)))))))
 show wpAny _ _ (holding [.builtin "list_iterator.__next__"] (call (.builtin "wrapper_descriptor.__get__") [.builtin "list_iterator.__next__",.ref a,.type "list_iterator"]) >>=ret) _ _ _
 refine wB (wpAny_holding (wpAny_call (aSo ho hc ?_)))
 exact wP hQ
theorem uY {o:Obj} {vs:Array Value} {expr:Bool} {Q:Value→Shared→Prop} (ho:h.get? a=some o) (hc:o.cls= .type "list_iterator") (hd:o.dict=none) (hf:o.data= .fields vs)
  (hQ:Q (.ref h.objs.size) ⟨h.push { cls:= .type "method-wrapper",data:= .fields #[.builtin "list_iterator.__next__",.ref a] },g,d,t+1,os⟩):wpAny (model prog w) A (getAttr (.ref a) "__next__" expr) Q E ⟨h,g,d,t,os⟩:=by
 have L0:Looks (model prog w) h (typeOf (.ref a)) (.type "list_iterator"):=hc ▸ (Looks.ld ho).andThen .now
 have L1:Looks (model prog w) h (typeLookup (.type "list_iterator") "__getattribute__") _:=Looks.of_pure FN.ga_look
 unfold getAttr getAttrBy
 refine wB (wpAny_mkText (wpAny_holding (wB (L0.at (wB (L1.at ?_))))))
 dsimp only
 rw [if_neg (by decide)]
 unfold getAttrByItsOwn
 have f3:=FN.ga_slot.bind (.ref a)
 refine wB (wpAny_of_eq (a:=none) (by rfl) ?_)
 refine wB (wpAny_attempt (wpAny_holding ?_))
 unfold callGetattribute
 rw [if_neg (by cases expr <;> decide)]
 unfold boundAndCalled
 rw [f3]
 refine wB (wP ?_)
 show wpAny _ _ (call (.builtin "object.__getattribute__") [.ref a,.str "__next__" t] []) _ _ _
 refine wpAny_call (aSp ho hc hd hf ?_)
 show wpAny _ _ (handedOut (.ref h.objs.size)) _ _ _
 rw [handedOut_of rfl]
 exact wP hQ
theorem zR {M:Model} {mw it:Addr} {Q:Fin→Shared→Prop} {s:Shared} (hm:s.heap.get? mw=some (qH it)) (h:Q (.again (.builtin "list_iterator.__next__" ⟨[.ref it],[]⟩)) s):wpAny M A (callAny (.ref mw) ⟨[],[]⟩) Q E s:=by
 show wpAny _ _ (load mw >>=_) _ _ _
 refine wB (wpAny_load hm ?_)
 dsimp only
 rw [if_pos (by decide)]
 show wpAny M A (if (Value.type "method-wrapper" !=Value.type "method")=true then (checkBoundCall "list_iterator.__next__" ⟨[.ref it],[]⟩ >>=fun _=>again (Code.builtin "list_iterator.__next__" ⟨[.ref it],[]⟩)) else _) Q E s
 rw [if_pos (by decide)]
 have hk:builtinKind "list_iterator.__next__"=some .slot:=by decide+kernel
 have ha:=args_listiter_next (.ref it)
 refine wB ?_
 unfold checkBoundCall
 cases q:Manifest.signature? "list_iterator.__next__" with
 | none=>exact wP (wP h)
 | some sig=>
  simp only [argsOk,q] at ha
  have ha':Bind.checkArgs "list_iterator.__next__" sig ⟨[.ref it],[]⟩=pure ():=ha
  rw [hk]
  dsimp only
  rw [if_pos (by decide),ha']
  exact wP (wP h)
theorem aBt {mw it:Addr} {R:Result→Shared→Prop} {s:Shared} (hm:s.heap.get? mw=some (qH it))
  (h:wpAny (model prog w) A.in1 (Builtin.«list_iterator.__next__» ⟨[.ref it],[]⟩) (fun fin s'=>match fin with| .done f=>R (.ok f) s'| .again c'=>c'.quiet=true∧codeAny (model prog w) A c' R s') (fun e s'=>R (.error e) s') s):
  codeAny (model prog w) A (.call (.ref mw) ⟨[],[]⟩) R s:=by
 refine codeAny_of_tree ?_
 show wpAny _ A.in1 (callAny (.ref mw) ⟨[],[]⟩) _ _ _
 refine zR hm ⟨Code.quiet_builtin _ (by decide+kernel),codeAny_builtin entry_listiter_next ?_⟩
 exact h
theorem uZ {mw it l:Addr} {i:Nat} {o:Obj} {items:Array Value} {x:Value} {R:Result→Shared→Prop} {s:Shared} (hm:s.heap.get? mw=some (qH it)) (ho:s.heap.get? it=some o) (hc:o.cls= .type "list_iterator") (hd:o.data= .fields #[.ref l,.int i 0]) (hl:s.heap.IsList l items) (hx:items[i]?=some x)
  (hQ:∀h' o',h'.get? it=some o'→o'.cls= .type "list_iterator"→o'.dict=o.dict→o'.data= .fields #[.ref l,.int ((i:Int)+1) 0]→Heap.SameBut it s.heap h'→R (.ok (.ret x)) { s with heap:=h' }):codeAny (model prog w) A (.call (.ref mw) ⟨[],[]⟩) R s:=by
 (refine fJ hl fun ol hol _ nl hdl=>?_;try clear hl)
 refine aBt hm ?_
 show wpAny _ _ (field (.ref it) 0 >>=_) _ _ s
 refine wB (wpAny_field ho hd (x:= .ref l) rfl ?_)
 show wpAny _ _ (if (Value.ref l==Value.none)=true then _ else _) _ _ s
 rw [if_neg (show ¬((Value.ref l==Value.none)=true) from Bool.false_ne_true)]
 show wpAny _ _ (field (.ref it) 1 >>=_) _ _ s
 refine wB (wpAny_field ho hd (x:= .int i 0) rfl ?_)
 show wpAny _ _ (seqItems? (.ref l) >>=_) _ _ s
 refine wB (wpAny_seqItems hol hdl ?_)
 simp only [Int.toNat_natCast,hx]
 refine wB (wpAny_setField ho hd (by simp) (wP ?_))
 exact hQ _ _ (Heap.get?_update_self _ ho (Obj.isFreed_of_fields (Obj.data_mapFields hd _))) ((Obj.cls_mapFields ..).trans hc) (Obj.dict_mapFields' hd _) (by rw [Obj.data_mapFields hd];simp [rawInt]) (Heap.SameBut.update ..)
theorem xK {mw it l:Addr} {i:Nat} {items:Array Value} {R:Result→Shared→Prop} {s:Shared} (hh:A.handled=none) (hm:s.heap.get? mw=some (qH it)) (hit:s.heap.IsListIter it l i) (hl:s.heap.IsList l items) (hx:items[i]?=none)
  (hQ:∀h₁ h' e ob vs,Heap.SameBut it s.heap h₁→(∃o,h₁.get? it=some o∧∃ws,o.data= .fields ws)→(∀b o,h₁.get? b=some o→h'.get? b=some o)→h₁.get? e=none→h'.get? e=some ob→ob.cls= .type "StopIteration"→ob.data= .fields vs→4 < vs.size→vs[1]?=some .none→vs[2]?=some .none→
   R (.error (.ref e)) { s with heap:=h' }):codeAny (model prog w) A (.call (.ref mw) ⟨[],[]⟩) R s:=by
 refine bG (id hit) fun o ho hc hd=>?_
 (refine fJ hl fun ol hol _ nl hdl=>?_;try clear hl)
 refine aBt hm ?_
 show wpAny _ _ (field (.ref it) 0 >>=_) _ _ s
 refine wB (wpAny_field ho hd (x:= .ref l) rfl ?_)
 show wpAny _ _ (if (Value.ref l==Value.none)=true then _ else _) _ _ s
 rw [if_neg (show ¬((Value.ref l==Value.none)=true) from Bool.false_ne_true)]
 show wpAny _ _ (field (.ref it) 1 >>=_) _ _ s
 refine wB (wpAny_field ho hd (x:= .int i 0) rfl ?_)
 show wpAny _ _ (seqItems? (.ref l) >>=_) _ _ s
 refine wB (wpAny_seqItems hol hdl ?_)
 simp only [Int.toNat_natCast,hx]
 refine wB (wpAny_rule (wB (wpAny_setField ho hd (by simp) ?_)))
 show wpAny _ _ (newExc (.type "StopIteration") [] >>=_) _ _ _
 refine wB ?_
 unfold newExc newTuple
 refine wB (wpAny_newObj_type ?_ (by size_fits))
 refine wB (m:=firstArgMember _ _) (wpAny_of_eq (a:=Value.none) (by rfl) ?_)
 refine wpAny_newObj_type ?_ (by size_fits)
 unfold raiseNew
 refine wB (wpAny_handled ?_)
 rw [show A.in1.handled=none from hh]
 refine wB (wP (wpAny_throw ?_))
 refine hQ _ _ _ _ _ (Heap.SameBut.update ..) ⟨_,Heap.get?_update_self _ ho (Obj.isFreed_of_fields (Obj.data_mapFields hd _)),_,Obj.data_mapFields hd _⟩ (fun b o e=>Heap.get?_push_of_some _ (Heap.get?_push_of_some _ e)) ?_ (Heap.get?_push_size _ rfl) rfl rfl (by simp;lia) rfl rfl
 exact Heap.get?_none_of_le (by rw [Heap.size_push];exact Nat.le_succ _)
end
end Mine
end
section
open PySem PySem.W PyProof.Rows PySem.SeqAt
set_option maxRecDepth 10000
set_option tactic.hygienic false
namespace Mine
section
variable {prog:Program} {w:World} {K:Type} [DecidableEq K] {knd:KeyKind prog w K} {A:Around} {E:Value→Shared→Prop} {s:Shared} {d:Addr} {o:Obj} {kvs:List (K×Value)} {k:K} {key v:Value} {ep:Nat}
theorem KdkAt.of' {h:Heap} (hm:KdkAt knd o kvs ep) (ho:h.get? d=some o):h.DictOf knd d kvs:=let ⟨es,r⟩:=hm;⟨o,es,ep,ho,r⟩
theorem zS {Q:Unit→Shared→Prop} (hkey:knd.is k key=true) (ho:s.heap.get? d=some o) (hm:KdkAt knd o kvs ep)
  (hQ:∀h' o',h'.get? d=some o'→KdkAt knd o' (stored kvs k v) (if kvs.any (fun kv=>kv.1=k) then ep else ep+1)→Heap.SameBut d s.heap h'→Q () { s with heap:=h',toks:=s.toks+1 })
  (hsz:kvs.length≤sizeLine):wpAny (model prog w) A (dictSet d key v) Q E s:=by
 (refine mX hm fun es hc hd hk hp hn=>?_;try clear hm)
 have hes:es.size≤sizeLine:=by have e1:=hp.length;rw [Array.length_toList] at e1;lia
 unfold dictSet
 try with_reducible refine wpAny_holding ?_
 refine wB (knd.pyHash hkey ?_)
 unfold dictSetHashed
 try with_reducible refine wpAny_holding ?_
 refine wB (wpAny_dictFind_of (s:={ s with toks:=s.toks+1 }) hkey ho hd hk ?_)
 have hidx:(es.findIdx? fun e=>knd.is k e.key)=kvs.findIdx? fun kv=>decide (kv.1=k):=by
  rw [←hp.findIdx k];obtain ⟨l⟩:=es;simp
 cases hi:es.findIdx? fun e=>knd.is k e.key with
 | some i=>
  have hany:=any_of_findIdx_some (hidx ▸ hi)
  refine wB (wpAny_rule (wB (wpAny_updateDict (s:={ s with toks:=s.toks+1 }) ho hd (wpAny_point (hQ _ _ (Heap.get?_update_self _ ho (Obj.isFreed_of_dict (Obj.data_mapDict hd _)))
   ⟨_,hc.mapDict _,(Obj.data_mapDict hd _).trans (by rw [if_pos hany]),hk.modify _ _,?_,?_⟩ (Heap.SameBut.update ..))))))
  ·rw [stored,if_pos hany]
   have hl:(es.toList.findIdx? fun e=>knd.is k e.key)=some i:=by rw [←hi];obtain ⟨l⟩:=es;simp
   have:=hp.modify hn hl v
   obtain ⟨l⟩:=es
   simpa using this
  ·rw [stored,if_pos hany,keys_map_store];exact hn
 | none=>
  have hnot:k∉kvs.map (·.1):=not_mem_of_findIdx_none (hidx ▸ hi)
  have hany:¬(kvs.any fun kv=>decide (kv.1=k))=true:=by
   rw [any_eq_true];rintro ⟨kv,hkv,he⟩
   exact hnot (mem_map.mpr ⟨kv,hkv,of_decide_eq_true he⟩)
  refine wB (wpAny_rule (wpAny_updateDictKeys (hz:=hes) (s:={ s with toks:=s.toks+1 }) ho hd (hQ _ _ (Heap.get?_update_self _ ho (Obj.isFreed_of_dict (Obj.data_mapDictKeys hd _)))
   ⟨_,hc.mapDictKeys _,(Obj.data_mapDictKeys hd _).trans (by rw [if_neg hany]),hk.push hkey _,?_,?_⟩ (Heap.SameBut.update ..))))
  ·rw [stored,if_neg hany]
   have:=hp.append hkey (knd.hash k) v
   obtain ⟨l⟩:=es
   simpa using this
  ·rw [stored,if_neg hany,map_append,nodup_append]
   refine ⟨hn,by simp,?_⟩
   intro a ha b hb
   simp only [map_cons,List.map_nil,mem_singleton] at hb
   subst hb
   exact fun e=>hnot (e ▸ ha)
theorem zT {Q:Option DictEntry→Shared→Prop} (hkey:knd.is k key=true) (ho:s.heap.get? d=some o) (hm:KdkAt knd o kvs ep) (hv:(valueAt kvs k).isSome=true)
  (hsome:∀e h' o',h'.get? d=some o'→KdkAt knd o' (without kvs k) (ep+1)→Heap.SameBut d s.heap h'→Q (some e) { s with heap:=h',toks:=s.toks+1 })
  (hsz:kvs.length≤sizeLine):wpAny (model prog w) A (Builtin.Dict.takeOut d key) Q E s:=by
 (refine mX hm fun es hc hd hk hp hn=>?_;try clear hm)
 have hes:es.size≤sizeLine:=by have e1:=hp.length;rw [Array.length_toList] at e1;lia
 unfold Builtin.Dict.takeOut
 try with_reducible refine wpAny_holding ?_
 refine wB (knd.pyHash hkey ?_)
 refine wB (wpAny_dictFind_of (s:={ s with toks:=s.toks+1 }) hkey ho hd hk ?_)
 cases hi:es.findIdx? fun e=>knd.is k e.key with
 | none=>
  have:valueAt kvs k=none:=by
   rw [←hp.find k]
   have:(es.toList.find? fun e=>knd.is k e.key)=none:=by
    rw [List.find?_eq_none]
    intro e he
    have:=Array.findIdx?_eq_none_iff.mp hi e (Array.mem_toList_iff.mp he)
    simpa using this
   rw [this];rfl
  rw [this] at hv;exact jI hv
 | some i=>
  have hl:(es.toList.findIdx? fun e=>knd.is k e.key)=some i:=by rw [←hi];obtain ⟨l⟩:=es;simp
  refine bG (hp.at hl) fun e he hek hev=>?_
  refine wB (wpAny_dictEntries (s:={ s with toks:=s.toks+1 }) ho hd ?_)
  have he':es[i]?=some e:=by rw [←he];obtain ⟨l⟩:=es;simp
  rw [he']
  refine wB (wpAny_updateDictKeys (hz:=hes) (s:={ s with toks:=s.toks+1 }) ho hd (wP (hsome e _ _ (Heap.get?_update_self _ ho (Obj.isFreed_of_dict (Obj.data_mapDictKeys hd _)))
   ⟨_,hc.mapDictKeys _,Obj.data_mapDictKeys hd _,hk.erase _,?_,nodup_without hn k⟩ (Heap.SameBut.update ..))))
  have:=hp.erase hn hl
  obtain ⟨l⟩:=es
  simpa using this
theorem zU {Q:Unit→Shared→Prop} (hkey:knd.is k key=true) (ho:s.heap.get? d=some o) (hm:KdkAt knd o kvs ep)
  (hQ:∀h' o',h'.get? d=some o'→KdkAt knd o' (stored kvs k v) (if kvs.any (fun kv=>kv.1=k) then ep else ep+1)→Heap.SameBut d s.heap h'→Q () { s with heap:=h',toks:=s.toks+1 })
  (hsz:kvs.length≤sizeLine):wpAny (model prog w) A (setItem (.ref d) key v) Q E s:=by
 have hT:s.TypeIs (.ref d) "dict":=(KdkAt.of' hm ho).typeIs
 unfold setItem
 try with_reducible refine wpAny_holding ?_
 refine wB (wpAny_sequenceKey hT (by decide) ?_)
 refine wB (wpAny_callSpecial?_slot (name:=Str.ofString "__setitem__") hT slot_dict_setitem
  (wpAny_call_entry slot_dict_setitem hT entry_dict_setitem ?_ (args_dict_setitem _ _ _)))
 show wpAny _ _ (Builtin.Dict.notOrdered "__setitem__" ⟨[.ref d,key,v],[]⟩ >>=_) _ _ s
 refine wB (wpAny_notOrdered_dict hT ?_)
 show wpAny _ _ (dictSet d key v >>=_) _ _ s
 exact wB (zS (hsz:=hsz) hkey ho hm fun h' o' h1 h2 hs'=>wP ⟨.none,rfl,wP (hQ h' o' h1 h2 hs')⟩)
theorem zV {Q:Unit→Shared→Prop} (hkey:knd.is k key=true) (ho:s.heap.get? d=some o) (hm:KdkAt knd o kvs ep) (hv:(valueAt kvs k).isSome=true)
  (hQ:∀h' o',h'.get? d=some o'→KdkAt knd o' (without kvs k) (ep+1)→Heap.SameBut d s.heap h'→Q () { s with heap:=h',toks:=s.toks+1 })
  (hsz:kvs.length≤sizeLine):wpAny (model prog w) A (delItem (.ref d) key) Q E s:=by
 have hT:s.TypeIs (.ref d) "dict":=(KdkAt.of' hm ho).typeIs
 refine wpAny_delItem_slot hT (by decide) PySem.F.slot_dict_delitem (wpAny_call_entry PySem.F.slot_dict_delitem hT PySem.F.entry_dict_delitem ?_ (PySem.F.args_dict_delitem_2 _ _))
 unfold Builtin.«dict.__delitem__»
 refine wB ?_
 unfold Builtin.Dict.dictSlotArgs
 refine wB (wpAny_notOrdered_dict hT ?_)
 show wpAny _ _ (pure (Value.ref d,key)) _ _ s
 refine wP ?_
 show wpAny _ _ (Builtin.Dict.takeOut d key >>=_) _ _ s
 refine wB (zT (hsz:=hsz) hkey ho hm hv fun e h' o' h1 h2 hs'=>?_)
 exact wB (wpAny_letGo (wP ⟨.none,rfl,hQ h' o' h1 h2 hs'⟩))
end
noncomputable def dget (l:List (Int×MV)) (k:Int):Option MV:=(l.find? fun p=>p.1==k).map (·.2)
noncomputable def iN (l:List (Int×MV)) (k:Int):Bool:=l.any fun p=>p.1==k
noncomputable def aEd (l:List (Int×MV)) (k:Int) (x:MV):List (Int×MV):=if iN l k then l.map (fun p=>if p.1==k then (p.1,x) else p) else l++ [(k,x)]
noncomputable def nN (l:List (Int×MV)) (k:Int):List (Int×MV):=l.filter fun p=>p.1 !=k
structure eI (G:Gh) (h:Heap) (l:List (Int×MV)) (kvs:List (Int×Value)):Prop where
 keys:kvs.map (·.1)=l.map (·.1)
 vals:aK G h (l.map (·.2)) (kvs.map (·.2))
theorem eI.nil {G:Gh} {h:Heap}:eI G h [] []:=⟨rfl,.nil⟩
theorem eI.cons {G:Gh} {h:Heap} {k:Int} {x:MV} {v:Value} {l:List (Int×MV)} {kvs:List (Int×Value)} (r:aI G h x v) (t:eI G h l kvs):eI G h ((k,x)::l) ((k,v)::kvs):=
 ⟨by simp [t.keys],.cons r t.vals⟩
theorem eI.rec' {G:Gh} {h:Heap} {P:List (Int×MV)→List (Int×Value)→Prop} (h0:P [] []) (h1:∀k x v l kvs,aI G h x v→eI G h l kvs→P l kvs→P ((k,x)::l) ((k,v)::kvs)):
  ∀{l:List (Int×MV)} {kvs:List (Int×Value)},eI G h l kvs→P l kvs
 | [],[],_=>h0
 | [],_::_,r=>by have:=r.keys;simp at this
 | _::_,[],r=>by have:=r.keys;simp at this
 | (k,x)::l,(k',v)::kvs,r=>by
  obtain ⟨q,w⟩:=r
  simp at q
  obtain ⟨rfl,q⟩:=q
  cases w with|cons hx t=>exact h1 _ x v l kvs hx ⟨q,t⟩ (eI.rec' h0 h1 ⟨q,t⟩)
theorem eI.len {G:Gh} {h:Heap} {l:List (Int×MV)} {kvs:List (Int×Value)} (r:eI G h l kvs):kvs.length=l.length:=by have:=congrArg List.length r.keys;simpa using this
theorem eI.has {G:Gh} {h:Heap} {l:List (Int×MV)} {kvs:List (Int×Value)} (r:eI G h l kvs) (k:Int):(kvs.any fun kv=>kv.1=k)=iN l k:=by
 revert r
 refine eI.rec' (P:=fun l kvs=>(kvs.any fun kv=>kv.1=k)=iN l k) rfl fun j x v l kvs _ _ ih=>?_
 show (decide (j=k)||kvs.any _)=((j==k)||iN l k)
 rw [ih];rfl
theorem eI.get {G:Gh} {h:Heap} {l:List (Int×MV)} {kvs:List (Int×Value)} (r:eI G h l kvs) (k:Int):(∀x,dget l k=some x→∃v,valueAt kvs k=some v∧aI G h x v)∧(dget l k=none→valueAt kvs k=none):=by
 revert r
 refine eI.rec' (P:=fun l kvs=>(∀x,dget l k=some x→∃v,valueAt kvs k=some v∧aI G h x v)∧(dget l k=none→valueAt kvs k=none)) ⟨fun x e=>(by exact aP e),fun _=>rfl⟩ fun j x v l kvs hx _ ih=>?_
 unfold dget valueAt at ih ⊢
 by_cases q:j=k
 ·subst q
  simp
  exact hx
 ·have q1:(j==k)=false:=by simpa using q
  simp only [List.find?_cons,q1,decide_eq_false q]
  exact ih
theorem eI.put {G:Gh} {h:Heap} {l:List (Int×MV)} {kvs:List (Int×Value)} {x:MV} {v:Value} (r:eI G h l kvs) (k:Int) (hx:aI G h x v):eI G h (aEd l k x) (stored kvs k v):=by
 have hh:=r.has k
 unfold aEd stored
 by_cases q:iN l k=true
 ·rw [if_pos q,if_pos (hh.trans q)]
  clear hh q
  revert r
  refine eI.rec' (P:=fun l kvs=>eI G h (l.map fun p=>if p.1==k then (p.1,x) else p) (kvs.map fun kv=>if kv.1=k then (kv.1,v) else kv)) .nil fun j y u l kvs hy _ ih=>?_
  by_cases q:j=k
  ·subst q;simp only [map_cons,beq_self_eq_true,if_true];exact .cons hx ih
  ·have q1:(j==k)=false:=by simpa using q
   simp only [map_cons,q1,if_neg q,Bool.false_eq_true,if_false];exact .cons hy ih
 ·rw [if_neg q,if_neg (fun e=>q (hh.symm.trans e))]
  exact ⟨by simp [r.keys],by simp only [map_append,map_cons,List.map_nil];exact r.vals.append (.cons hx .nil)⟩
theorem eI.del {G:Gh} {h:Heap} {l:List (Int×MV)} {kvs:List (Int×Value)} (r:eI G h l kvs) (k:Int):eI G h (nN l k) (without kvs k):=by
 revert r
 refine eI.rec' (P:=fun l kvs=>eI G h (nN l k) (without kvs k)) .nil fun j y u l kvs hy _ ih=>?_
 unfold nN without at ih ⊢
 by_cases q:j=k
 ·subst q;simpa using ih
 ·have q1:(j !=k)=true:=by simpa using q
  simp only [List.filter_cons,q1,if_true,decide_eq_true (show j≠k from q)];exact .cons hy ih
section
variable {C:Cx} {hd:Bool} {n:Nat} {sc:SC} {A:Around} {env:Env} {G:Gh} {σ:St} {s:Shared} {Q E:Value→Shared→Prop}
theorem jP {m ep:Nat} {v:Value} {l:List (Int×MV)} (B:cH C) (I:Inv C sc A env G σ s) (hx:aI G s.heap (.cell m) v) (hl:σ.H[m]?=some (.dict ep l)):
  ∃a o kvs,v= .ref a∧G.phi[m]?=some a∧s.heap.get? a=some o∧KdkAt (intKind C.prog C.w) o kvs ep∧eI G s.heap l kvs∧(a==sysModules)=false:=by
 refine aI.cell_e hx fun a hp=>?_
 refine mY (I.cells.at' _ _ _ hp hl) fun o ho kvs h1 h2 h3=>?_
 refine ⟨a,o,kvs,rfl,hp,ho,h1,⟨h2,h3⟩,?_⟩
 have hn:=I.baseW a (I.g.own a (I.cells.own _ _ hp))
 obtain ⟨os,hos⟩:=B.sysm
 have:a≠sysModules:=fun e=>by rw [e,hos] at hn;exact iS hn
 simpa using this
noncomputable def pM {α:Type} (x:MV) (f:Nat→Nat→List (Int×MV)→M α):M α:=fun σ=>oC x fun m=>pD σ.H[m]? fun ep l=>if cC l.length then f m ep l σ else none
theorem Tr.dict {α β:Type} {x:MV} {v:Value} {t:Sem α} {f:Nat→Nat→List (Int×MV)→M β} {P:Gh→Heap→β→α→Prop} (B:cH C) (I:Inv C sc A env G σ s) (hx:aI G s.heap x v)
  (h:∀m ep l a o kvs,v= .ref a→σ.H[m]?=some (.dict ep l)→G.phi[m]?=some a→s.heap.get? a=some o→KdkAt (intKind C.prog C.w) o kvs ep→eI G s.heap l kvs→(a==sysModules)=false→kvs.length≤sizeLine→
   Tr C sc A env G σ s t (f m ep l) P):Tr C sc A env G σ s t (pM x f) P:=by
 intro r σ' e
 revert hx
 refine kN e fun m e hx=>wF e fun {ep l} hl e=>dG e fun hz e=>?_
 exact iF (jP B I hx hl) fun a o kvs q h1 h2 h3 h4 h5=>h _ ep l a o kvs q hl h1 h2 h3 h4 h5 (by rw [h4.len];have:=bN.mp hz;show _≤16777216;lia) r σ' e
theorem Tr.tok {α β:Type} {b:β} {a:α} {P:Gh→Heap→β→α→Prop} (I:Inv C sc A env G σ s) (p:P G s.heap b a) (t:Nat):
  ∃b' G',R.ok b= .ok b'∧bB G s G' { s with toks:=t }∧Inv C sc A env G' σ { s with toks:=t }∧P G' s.heap b' a:=⟨b,G,rfl,(Ext.toks s t).step G,I.ext (Ext.toks s t),p⟩
theorem tJ {pos:Pos}:aV C hd n sc (.Dict [] [] pos) (oF (.dict 0 [])):=by
 intro A env G σ s hA I r σ' e
 (have q_:=aZ e;clear e;obtain ⟨rfl,rfl⟩:=q_)
 refine wpAny_Dict_empty ?_
 have x:=Ext.push s { cls:= .type "dict",data:= .dict #[] }
 have st:=bB.addC (G:=G) x (bD _)
 have ho:(s.heap.push { cls:= .type "dict",data:= .dict #[] }).get? s.heap.objs.size=some { cls:= .type "dict",data:= .dict #[] }:=Heap.get?_push_size _ rfl
 refine ⟨_,_,rfl,st,I.addC x (bD _) ho ⟨[],⟨#[],⟨rfl,rfl,rfl⟩,rfl,fun _ he=>by simp at he,Pairs.nil,nodup_nil⟩,rfl,.nil⟩,.cell ?_⟩
 show (G.phi++ [s.heap.objs.size])[_]?=_
 rw [←I.cells.len];simp
noncomputable def xL (l:List MV):M MV:=M.l2 l fun x y=>M.oI y fun k=>pM x fun m ep l=>M.pure ((dget l k).getD .none)
theorem aGk (B:cH C):BOp C hd (.builtin "dict.get") xL:=by
 intro sc A env G σ s l vs hh hu I r
 refine Tr.l2 r fun x y v w hx hy=>Tr.oI (fun u=>call (.builtin "dict.get") [_,u]) hy fun k tk=>?_
 refine Tr.dict B I hx fun m ep l a o kvs ha hl hp ho hK hD hs hz=>?_
 subst ha
 intro r σ' e
 (have q_:=aZ e;clear e;obtain ⟨rfl,rfl⟩:=q_)
 have hD':=(KdkAt.of' hK ho)
 refine call_meetsIn PySem.F.slot_dict_get hD'.typeIs PySem.F.entry_dict_get (PySem.F.args_dict_get_2 _ _) (meets_dict_get (intKind C.prog C.w) a (intKind_is C.prog C.w k _) hs) ⟨_,hD'.mapOf,?_⟩
 refine Tr.tok I (P:=fun G h x v=>aI G h x v) ?_ _
 obtain ⟨h1,h2⟩:=hD.get k
 cases q:dget l k with
 | none=>rw [h2 q];exact .none
 | some y=>refine aJ (h1 y q) fun u hu ru=>?_;rw [hu];exact ru
theorem tK {T:String} {o:Expr} {name:Str} {apos pos:Pos} {args:List Expr} {id:String} {f:M MV} {fs:List (M MV)} {g:List MV→M MV} {ck:MV→M Unit} (pa:PlainAttrs T) (slot:Slot T name id) (hty:typeOf (.builtin id)=pure (.type "method_descriptor"))
  (hop:BOp C hd (.builtin id) g) (hck:∀{sc:SC} {A env G σ s x v r σ'},Inv C sc A env G σ s→aI G s.heap x v→ck x σ=some (r,σ')→r= .ok ()∧σ'=σ∧s.TypeIs v T∧∀b,v= .ref b→∃o,s.heap.get? b=some o∧o.dict=none)
  (ho:aV C hd n sc o f) (he:dD C hd n sc args fs)
  (hbase:autoParam (∀env,attributeBase o name env (eval o env)=eval o env) dL._auto_1) (hline:autoParam ((apos.endLine==pos.line)=true) aX._auto_1) (hlen:autoParam (decide (args.length < 30)=true) aX._auto_1) (hf:autoParam (keeperOf (.builtin id)=pure .machine) aX._auto_1):
  aV C hd n sc (.Call (.Attribute o name apos) args [] pos) (M.bind f fun x=>M.bind (ck x) fun _=>M.bind (aO fs) fun l=>g (x::l)):=by
 intro A env G σ s hA I r σ' e
 refine wpAny_Call_method (hbase env) (zF he hlen) hline pa slot hty ?_
 refine (ho A env G σ s hA I).thenQ e (fun k G' s' y q st I' x=>⟨k,G',q,st,I',x⟩) fun x σ₁ G' s' v e2 st I' rv=>?_
 focus (refine elrEAoEEA (M.bind_some e2) (fun k e3 r_1=>?_) fun _ σ₂ e3 e4=>?_;obtain rfl:=r_1;rotate_left;rotate_left)
 ·obtain ⟨q,_⟩:=hck I' rv e3;exact lU q
 ·(refine gW (hck I' rv e3) fun _ e_4 h1 h2=>?_;obtain rfl:=e_4)
  refine ⟨h1,h2,?_⟩
  have:=gD (cpos:=pos) (pos:=pos) hf he hA I' (aK.cons rv .nil) hop r σ' e4
  refine wpAny_mono this (fun v s'' h=>?_) fun y s'' h=>?_
  ·(refine bL h fun b G'' q st' I'' p=>?_;try clear h);exact ⟨b,G'',q,st.trans st',I'',p⟩
  ·(refine bL h fun b G'' q st' I'' p=>?_;try clear h);exact ⟨b,G'',q,st.trans st',I'',p⟩
noncomputable def dictCk (x:MV):M Unit:=fun σ=>oC x fun m=>pD σ.H[m]? fun _ _=>some (.ok (),σ)
theorem aEe (B:cH C) {x:MV} {v:Value} {r:R Unit} {σ':St} (I:Inv C sc A env G σ s) (hx:aI G s.heap x v) (e:dictCk x σ=some (r,σ')):
  r= .ok ()∧σ'=σ∧s.TypeIs v "dict"∧∀b,v= .ref b→∃o,s.heap.get? b=some o∧o.dict=none:=by
 revert hx
 refine kN e fun m e hx=>wF e fun {ep l} hl e=>?_
 refine iF (jP B I hx hl) fun a o kvs q h1 h2 h3 h4 h5=>?_
 subst q
 refine ⟨(aZ e).1.symm,(aZ e).2.symm,(KdkAt.of' h3 h2).typeIs,fun b hb=>?_⟩
 obtain rfl:=Value.ref.inj hb
 exact aJ h3 fun es q _=>⟨o,h2,q.2.1⟩
theorem xM {o:Expr} {name:Str} {apos pos:Pos} {args:List Expr} {f:M MV} {fs:List (M MV)} (B:cH C) (ho:aV C hd n sc o f) (he:dD C hd n sc args fs) (hz:autoParam (name= "get") aX._auto_1)
  (hbase:autoParam (∀env,attributeBase o name env (eval o env)=eval o env) dL._auto_1) (hline:autoParam ((apos.endLine==pos.line)=true) aX._auto_1) (hlen:autoParam (decide (args.length < 30)=true) aX._auto_1):
  aV C hd n sc (.Call (.Attribute o name apos) args [] pos) (M.bind f fun x=>M.bind (dictCk x) fun _=>M.bind (aO fs) fun l=>xL (x::l)):=by
 subst hz
 exact tK PySem.F.plainAttrs_dict PySem.F.slot_dict_get PySem.F.type_dict_get (aGk B) (fun I hx e=>aEe B I hx e) ho he hbase hline hlen
noncomputable def jC (x y:MV):M MV:=M.oI y fun k=>pM x fun m ep l=>M.lift (dget l k)
theorem oO {value slice:Expr} {pos:Pos} {f g:M MV} (B:cH C) (hv:aV C hd n sc value f) (hs:aV C hd n sc slice g)
  (hsub:autoParam (∀o i,subscripted slice false o i=operate [o,i] (getItem o i)) nB._auto_1):aV C hd n sc (.Subscript value slice pos) (M.bind f fun x=>M.bind g fun y=>jC x y):=by
 intro A env G σ s hA I
 rw [eval_Subscript]
 refine Tr.bind (hv A env G σ s hA I) fun x v G' σ' s' st I' p=>Tr.bind (Tr.holding (hs A env G' σ' s' hA I')) fun y u G'' σ'' s'' st' I'' p'=>Tr.stand ?_
 show Tr C sc A env G'' σ'' s'' (subscriptTail value slice v u) _ _
 have p:=p.step I'.g st'
 refine Tr.oI (fun u=>subscriptTail value slice v u) p' fun k tk=>?_
 refine Tr.dict B I'' p fun m ep l a o kvs ha hl hp ho hK hD hss hz=>?_
 subst ha
 intro r σ₁ e
 (refine bG (M.lift_some e) fun y hy e_1 e_2=>?_;obtain rfl:=e_1;obtain rfl:=e_2)
 refine aJ ((hD.get k).1 y hy) fun w hw rw=>?_
 have hD':=(KdkAt.of' hK ho)
 refine tail_any hD'.typeIs slot_dict_getitem.lookup (wpAny_getItem_of (intKind_is C.prog C.w k _) hD'.mapOf hw ?_) (hsub _ _)
 exact Tr.tok I'' (P:=fun G h x v=>aI G h x v) rw _
noncomputable def tL (x y z:MV):M Unit:=M.oI y fun k=>pM x fun m ep l=>fun σ=>some (.ok (),{ σ with H:=σ.H.set m (.dict (if iN l k then ep else ep+1) (aEd l k z)) })
theorem aBu {x y z:MV} {v u w:Value} (B:cH C) (I:Inv C sc A env G σ s) (hx:aI G s.heap x v) (hy:aI G s.heap y u) (hz:aI G s.heap z w):
  Tr C sc A env G σ s (setItem v u w) (tL x y z) (fun _ _ _ _=>True):=by
 refine Tr.oI (fun u=>setItem v u w) hy fun k tk=>?_
 refine Tr.dict B I hx fun m ep l a o kvs ha hl hp ho hK hD hss hsz=>?_
 subst ha
 intro r σ₁ e
 (refine elA (aZ e) fun z1 z2=>?_;obtain rfl:=z1;obtain rfl:=z2)
 refine zU (intKind_is C.prog C.w k _) ho hK (fun h' o' h1 h2 hs'=>?_) hsz
 rw [hD.has k] at h2
 obtain ⟨st,I'⟩:=I.updC (tk:=s.toks+1) (y:= .dict (if iN l k then ep else ep+1) (aEd l k z)) hp hs' h1 fun mv=>by
  have:=hD.put k hz
  exact ⟨_,h2,this.keys,this.vals.map1 mv⟩
 exact ⟨(),G,rfl,st,I',trivial⟩
theorem aEf {o i e:Expr} {p pos:Pos} {f g h:M MV} (B:cH C) (he:aV C hd n sc e f) (ho:aV C hd n sc o g) (hi:aV C hd n sc i h)
  (hs:autoParam (∀env,swapsWith e (some (.Subscript o i p)) pos.line env=pure false) dL._auto_1):
  fK C hd n sc (.Assign [.Subscript o i p] e pos) (M.bind f fun z=>M.bind g fun x=>M.bind h fun y=>M.bind (tL x y z) fun _=>M.pure .next):=by
 intro A env G σ s hA I r σ' er
 refine wpAny_Assign_Subscript ?_ (hs env)
 refine (he A env G σ s hA I).thenQ er (fun k G' s' y q st I' x=>⟨k,G',q,st,I',x⟩) fun z σ₁ G₁ s₁ w e1 st1 I1 p1=>?_
 refine (ho A env G₁ σ₁ s₁ hA I1).thenQ e1 (fun k G' s' y q st I' x=>⟨k,G',q,st1.trans st,I',x⟩) fun x σ₂ G₂ s₂ v e2 st2 I2 p2=>?_
 refine (hi A env G₂ σ₂ s₂ hA I2).thenQ e2 (fun k G' s' y q st I' x=>⟨k,G',q,st1.trans (st2.trans st),I',x⟩) fun y σ₃ G₃ s₃ u e3 st3 I3 p3=>?_
 refine (aBu B I3 (p2.step I2.g st3) p3 (p1.step I1.g (st2.trans st3))).thenQ e3 (fun k G' s' y q st I' x=>⟨k,G',q,st1.trans (st2.trans (st3.trans st)),I',x⟩) fun _ σ₄ G₄ s₄ _ e4 st4 I4 _=>?_
 (have q_:=aZ e4;clear e4;obtain ⟨rfl,rfl⟩:=q_)
 exact ⟨.next,G₄,rfl,st1.trans (st2.trans (st3.trans st4)),I4,.next⟩
theorem zW (x:Nat) {o i e:Expr} {z:Str} {p q pos:Pos} {f g h:M MV} (B:cH C) (he:aV C hd n sc e f) (ho:aV C hd n sc o g) (hi:aV C hd n sc i h) (hz:autoParam (nm x=z) aX._auto_1) (hk:autoParam (cZ (sc.lookup x)=true) aX._auto_1)
  (hee:autoParam (∀env,(assignEach [.Subscript o i p,.Name z q] env).map (·.2)= [assign (.Subscript o i p) env,assign (.Name z q) env]) dL._auto_1)
  (hw:autoParam (∀env,swappedStores [.Subscript o i p,.Name z q] e env=pure none) dL._auto_1):
  fK C hd n sc (.Assign [.Subscript o i p,.Name z q] e pos) (M.bind f fun w=>M.bind g fun a=>M.bind h fun y=>M.bind (tL a y w) fun _=>M.bind (bE x w) fun _=>M.pure .next):=by
 subst hz
 intro A env G σ s hA I r σ' er
 refine wpAny_Assign_two ?_ (hee env) (hw env)
 refine (he A env G σ s hA I).thenQ er (fun k G' s' y q st I' x=>⟨k,G',q,st,I',x⟩) fun z σ₁ G₁ s₁ w e1 st1 I1 p1=>?_
 rw [assign_Subscript]
 refine wB (wpAny_holding ?_)
 refine (ho A env G₁ σ₁ s₁ hA I1).thenQ e1 (fun k G' s' y q st I' x=>⟨k,G',q,st1.trans st,I',x⟩) fun a σ₂ G₂ s₂ v e2 st2 I2 p2=>?_
 refine wB (wpAny_holding ?_)
 refine (hi A env G₂ σ₂ s₂ hA I2).thenQ e2 (fun k G' s' y q st I' x=>⟨k,G',q,st1.trans (st2.trans st),I',x⟩) fun y σ₃ G₃ s₃ u e3 st3 I3 p3=>?_
 refine wB (wpAny_standAt (wB (wpAny_holding ?_)))
 refine (aBu B I3 (p2.step I2.g st3) p3 (p1.step I1.g (st2.trans st3))).thenQ e3 (fun k G' s' y q st I' x=>⟨k,G',q,st1.trans (st2.trans (st3.trans st)),I',x⟩) fun _ σ₄ G₄ s₄ _ e4 st4 I4 _=>?_
 refine wpAny_releaseD ?_
 have stA:=st1.trans (st2.trans (st3.trans st4))
 refine (Tr.stand (p:=q) (k:=fun _=>bindName env (nm x) w) (eM I4 hk ((((p1.step I1.g st2).step I2.g st3).step I3.g st4)))).thenQ e4 (fun k G' s' y q st I' x=>⟨k,G',q,stA.trans st,I',x⟩) fun _ σ₅ G₅ s₅ _ e5 st5 I5 _=>?_
 (have q_:=aZ e5;clear e5;obtain ⟨rfl,rfl⟩:=q_)
 exact ⟨.next,G₅,rfl,stA.trans st5,I5,.next⟩
noncomputable def aGl (m:Nat) (x:MO):M Unit:=fun σ=>some (.ok (),{ σ with H:=σ.H.set m x })
noncomputable def aBv (x y:MV):M Unit:=M.oI y fun k=>pM x fun m ep l=>if iN l k then aGl m (.dict (ep+1) (nN l k)) else M.fail
theorem aGm {l:List (Int×MV)} {k:Int} (h:iN l k=true):∃x,dget l k=some x:=by
 unfold iN at h
 unfold dget
 refine aJ (any_eq_true.mp h) fun p hp e=>?_
 cases q:l.find? fun p=>p.1==k with
 | some y=>exact ⟨_,rfl⟩
 | none=>exact absurd e (by simpa using List.find?_eq_none.mp q p hp)
theorem aGn {o i:Expr} {p pos:Pos} {f g:M MV} (B:cH C) (ho:aV C hd n sc o f) (hi:aV C hd n sc i g)
  (hs:autoParam (∀env,exec (.Delete [.Subscript o i p] pos) env=(do standAt pos;(do delete (.Subscript o i p) env;pure ());pure .next)) dL._auto_1):
  fK C hd n sc (.Delete [.Subscript o i p] pos) (M.bind f fun x=>M.bind g fun y=>M.bind (aBv x y) fun _=>M.pure .next):=by
 intro A env G σ s hA I r σ' er
 rw [hs env]
 refine wB (wpAny_standAt (wB (wB (delete_Subscript ?_))))
 refine (ho A env G σ s hA I).thenQ er (fun k G' s' y q st I' x=>⟨k,G',q,st,I',x⟩) fun x σ₂ G₂ s₂ v e2 st2 I2 p2=>?_
 refine (hi A env G₂ σ₂ s₂ hA I2).thenQ e2 (fun k G' s' y q st I' x=>⟨k,G',q,st2.trans st,I',x⟩) fun y σ₃ G₃ s₃ u e3 st3 I3 p3=>?_
 have t:Tr C sc A env G₃ σ₃ s₃ (delItem v u) (aBv x y) (fun _ _ _ _=>True):=by
  refine Tr.oI (fun u=>delItem v u) p3 fun k tk=>?_
  refine Tr.dict B I3 (p2.step I2.g st3) fun m ep l a o kvs ha hl hp ho hK hD hss hsz=>?_
  subst ha
  by_cases hh:iN l k=true
  ·rw [if_pos hh]
   intro r σ₁ e
   (refine elA (aZ e) fun z1 z2=>?_;obtain rfl:=z1;obtain rfl:=z2)
   obtain ⟨w,hw⟩:=aGm hh
   refine aJ ((hD.get k).1 w hw) fun w' hw' _=>?_
   refine zV (intKind_is C.prog C.w k _) ho hK (by rw [hw'];rfl) (fun h' o' h1 h2 hs'=>?_) hsz
   obtain ⟨st,I'⟩:=I3.updC (tk:=s₃.toks+1) (y:= .dict (ep+1) (nN l k)) hp hs' h1 fun mv=>by
    have:=hD.del k
    exact ⟨_,h2,this.keys,this.vals.map1 mv⟩
   exact ⟨(),G₃,rfl,st,I',trivial⟩
  ·rw [if_neg hh];exact Tr.fail
 refine t.thenQ e3 (fun k G' s' y q st I' x=>⟨k,G',q,st2.trans (st3.trans st),I',x⟩) fun _ σ₄ G₄ s₄ _ e4 st4 I4 _=>?_
 (have q_:=aZ e4;clear e4;obtain ⟨rfl,rfl⟩:=q_)
 exact wP (wP ⟨.next,G₄,rfl,st2.trans (st3.trans st4),I4,.next⟩)
end
end Mine
end
section
open PySem PySem.W PyProof.Rows PySem.SeqAt PySem.Calls
set_option maxRecDepth 100000
set_option tactic.hygienic false
namespace Mine
section
variable {C:Cx} {hd:Bool} {n:Nat} {sc:SC} {A:Around} {env:Env} {G:Gh} {σ:St} {s:Shared} {Q E:Value→Shared→Prop}
theorem rB {m:Nat} {v:Value} {l:List Int} (I:Inv C sc A env G σ s) (hx:aI G s.heap (.cell m) v) (hl:σ.H[m]?=some (.set l)):
  ∃a o,v= .ref a∧G.phi[m]?=some a∧s.heap.get? a=some o∧o.SetObjOf (intKind C.prog C.w) (fun k=>l.contains k) l.length:=by
 refine aI.cell_e hx fun a hp=>?_
 refine aJ (I.cells.at' _ _ _ hp hl) fun o ho h1=>?_
 exact ⟨a,o,rfl,hp,ho,h1⟩
noncomputable def aSq (l:List MV):M MV:=match l with
 | []=>oF (.set [])
 | _::_=>M.fail
theorem aGo:BOp C hd (.type "set") aSq:=by
 intro sc A env G σ s l vs hh hu I r
 cases r with
 | cons=>exact Tr.fail
 | nil=>
  intro r σ' e
  (refine elA (aZ e) fun z1 z2=>?_;obtain rfl:=z1;obtain rfl:=z2)
  refine call_set_0 fun led=>?_
  have x:=Ext.push s { cls:= .type "set",dict:=none,data:= .set #[] 0 (.fresh 0 0 led) }
  have st:=bB.addC (G:=G) x (bD _)
  have ho:(s.heap.push { cls:= .type "set",dict:=none,data:= .set #[] 0 (.fresh 0 0 led) }).get? s.heap.objs.size=some { cls:= .type "set",dict:=none,data:= .set #[] 0 (.fresh 0 0 led) }:=Heap.get?_push_size _ rfl
  refine ⟨_,_,rfl,st,I.addC x (bD _) ho (setObjOf_fresh led),.cell ?_⟩
  show (G.phi++ [s.heap.objs.size])[_]?=_
  rw [←I.cells.len];simp
noncomputable def aQs {α:Type} (x:MV) (f:Nat→List Int→M α):M α:=fun σ=>oC x fun m=>pS σ.H[m]? fun l=>if Nat.ble l.length 4000 then f m l σ else none
theorem Tr.set {α β:Type} {x:MV} {v:Value} {t:Sem α} {f:Nat→List Int→M β} {P:Gh→Heap→β→α→Prop} (I:Inv C sc A env G σ s) (hx:aI G s.heap x v)
  (h:∀m l a o,v= .ref a→σ.H[m]?=some (.set l)→G.phi[m]?=some a→s.heap.get? a=some o→o.SetObjOf (intKind C.prog C.w) (fun k=>l.contains k) l.length→l.length≤4000→
   Tr C sc A env G σ s t (f m l) P):Tr C sc A env G σ s t (aQs x f) P:=by
 intro r σ' e
 revert hx
 exact kN e fun m e hx=>aRz e fun {l} hl e=>dG e fun hz e=>bL (rB I hx hl) fun a o q h1 h2 h3=>h _ l a o q hl h1 h2 h3 (bT hz) r σ' e
noncomputable def vA (l:List Int) (k:Int):List Int:=if l.contains k then l else l++ [k]
noncomputable def aBw (l:List MV):M MV:=M.l2 l fun x y=>M.oI y fun k=>aQs x fun m l=>M.bind (aGl m (.set (vA l k))) fun _=>M.pure .none
theorem aGp (l:List Int) (k:Int):(fun k'=>l.contains k'||decide (k'=k))=fun k'=>(vA l k).contains k':=by
 funext k'
 unfold vA
 by_cases q:l.contains k=true
 ·rw [if_pos q]
  by_cases w:k'=k
  ·subst w;simp at q ⊢;exact q
  ·simp [w]
 ·rw [if_neg q];simp
theorem aGq (l:List Int) (k:Int):(if l.contains k then l.length else l.length+1)=(vA l k).length:=by
 unfold vA
 by_cases q:l.contains k=true
 ·rw [if_pos q,if_pos q]
 ·rw [if_neg q,if_neg q];simp
theorem aGr:BOp C hd (.builtin "set.add") aBw:=by
 intro sc A env G σ s l vs hh hu I r
 refine Tr.l2 r fun x y v w hx hy=>Tr.oI (fun u=>call (.builtin "set.add") [_,u]) hy fun k tk=>?_
 refine Tr.set I hx fun m l a o ha hl hp ho hS hz=>?_
 subst ha
 intro r σ' e
 (refine elA (aZ e) fun z1 z2=>?_;obtain rfl:=z1;obtain rfl:=z2)
 have sb:l.length+1 < scanBound:=by
  have:scanBound=4096:=rfl
  lia
 refine call_set_add (intKind_is C.prog C.w k _) rfl (hS.setOf ho (by lia)) sb fun h' hs' hS'=>?_
 refine aJ (hS'.objOf) fun o' ho' hS''=>?_
 rw [aGp,aGq] at hS''
 obtain ⟨st,I'⟩:=I.updC (tk:=s.toks+1) (y:= .set (vA l k)) hp hs' ho' fun _=>hS''
 exact ⟨.none,G,rfl,st,I',.none⟩
noncomputable def aBx (x:MV):M Unit:=fun σ=>oC x fun m=>pS σ.H[m]? fun l=>if Nat.ble l.length 4000 then some (.ok (),σ) else none
theorem aGs {x:MV} {v:Value} {r:R Unit} {σ':St} (I:Inv C sc A env G σ s) (hx:aI G s.heap x v) (e:aBx x σ=some (r,σ')):
  r= .ok ()∧σ'=σ∧s.TypeIs v "set"∧∀b,v= .ref b→∃o,s.heap.get? b=some o∧o.dict=none:=by
 revert hx
 refine kN e fun m e hx=>aRz e fun {l} hl e=>dG e fun hz e=>bL (rB I hx hl) fun a o q h1 h2 h3=>?_
 subst q
 refine ⟨(aZ e).1.symm,(aZ e).2.symm,⟨o,h2,h3.1.1⟩,fun b hb=>?_⟩
 obtain rfl:=Value.ref.inj hb
 exact ⟨o,h2,h3.1.2.1⟩
theorem aGt {o:Expr} {name:Str} {apos pos:Pos} {args:List Expr} {f:M MV} {fs:List (M MV)} (ho:aV C hd n sc o f) (he:dD C hd n sc args fs) (hz:autoParam (name= "add") aX._auto_1)
  (hbase:autoParam (∀env,attributeBase o name env (eval o env)=eval o env) dL._auto_1) (hline:autoParam ((apos.endLine==pos.line)=true) aX._auto_1) (hlen:autoParam (decide (args.length < 30)=true) aX._auto_1):
  aV C hd n sc (.Call (.Attribute o name apos) args [] pos) (M.bind f fun x=>M.bind (aBx x) fun _=>M.bind (aO fs) fun l=>aBw (x::l)):=by
 subst hz
 exact tK PySem.F.plainAttrs_set PySem.F.slot_set_add PySem.F.type_set_add aGr (fun I hx e=>aGs I hx e) ho he hbase hline hlen
noncomputable def inO (k:Int) (o:Option MO):Option Bool:=match o with
 | some x=>(match x with
  | .dict _ l=>some (iN l k)
  | .set l=>if Nat.ble l.length 4000 then some (l.contains k) else none
  | _=>none)
 | none=>none
noncomputable def inM (x y:MV):M Bool:=fun σ=>oI x fun k=>oC y fun m=>M.lift (inO k σ.H[m]?) σ
theorem xN {kvs:List (Int×Value)} {k:Int}:(valueAt kvs k).isSome=kvs.any fun kv=>kv.1=k:=by
 unfold valueAt
 rw [Option.isSome_map,Bool.eq_iff_iff,List.find?_isSome,any_eq_true]
theorem aGu {x y:MV} {b:Bool} {v u:Value} {σ':St} (B:cH C) (I:Inv C sc A env G σ s) (e:inM x y σ=some (.ok b,σ')) (hx:aI G s.heap x v) (hy:aI G s.heap y u)
  (h:∀s',Ext s s'→Q (.bool b) s'):wpAny (model C.prog C.w) A (compareOp .In v u) Q E s:=by
 refine kO e hx fun k tk e=>?_
 revert hy
 refine kN e fun m e hy=>?_
 refine bG (M.lift_some e) fun c e1 q _=>?_
 rw [←eU q] at e1
 cases hl:σ.H[m]? with
 | none=>rw [hl] at e1;exact aP e1
 | some x=>
  rw [hl] at e1
  cases x with
  | dict ep l=>
   refine iF (jP B I hy hl) fun a o kvs q h1 h2 h3 h4 h5=>?_
   rw [q]
   refine wpAny_in_of (intKind_is C.prog C.w k _) h5 (KdkAt.of' h3 h2).mapOf ?_
   rw [xN,h4.has,sJ e1]
   exact h _ (Ext.toks s _)
  | set l=>
   refine dG e1 fun hz e1=>bL (rB I hy hl) fun a o q h1 h2 h3=>?_
   have hz:=bT hz
   rw [q];rw [←sJ e1] at h
   exact wpAny_inSet_of (intKind_is C.prog C.w k _) rfl (h3.setOf h2 (by have:scanBound=4096:=rfl;lia)) (h _ (Ext.toks s _))
  | _=>exact aP e1
theorem aQt {x y:MV} {r:R Bool} {σ':St} (e:inM x y σ=some (r,σ')):σ'=σ∧∃b,r= .ok b:=
 yQ (P:=fun _=>σ'=σ∧∃b,r= .ok b) e fun _ e=>kN (P:=fun _=>σ'=σ∧∃b,r= .ok b) e fun _ e=>bG (M.lift_some e) fun c _ q q2=>⟨q2,c,q⟩
theorem vB {l r:Expr} {pos:Pos} {f g:M MV} (B:cH C) (hl:aV C hd n sc l f) (hr:aV C hd n sc r g) (hb:autoParam (behindInMarks .In r=false) aX._auto_1):
  mL C hd n sc (.Compare l [.In] [r] pos) (M.bind f fun x=>M.bind g fun y=>inM x y):=by
 intro A env G σ s hA I
 rw [isTrue_Compare1,markedBehindIn_of_false hb]
 refine Tr.bind (hl A env G σ s hA I) fun x v G' σ' s' st I' p=>?_
 refine Tr.bind (Tr.holding (hr A env G' σ' s' hA I')) fun y u G'' σ'' s'' st' I'' p'=>Tr.stand ?_
 intro r σ₁ e
 (refine aUe (aQt e) fun e_4 b e_5=>?_;obtain rfl:=e_4;obtain rfl:=e_5)
 refine wB (wpAny_operate' (aGu B I'' e (p.step I'.g st') p' fun s3 x3=>?_))
 exact wpAny_holding (wpAny_truthy_bool ⟨b,G'',rfl,x3.step G'',I''.ext x3,rfl⟩)
noncomputable def aGv (x:MV):M MV:=fun σ=>oC x fun m=>pL σ.H[m]? fun _=>oF (.iter m 0) σ
noncomputable def aBy (l:List MV):M MV:=M.l1 l aGv
theorem aGw:BOp C hd (.builtin "iter") aBy:=by
 intro sc A env G σ s l vs hh hu I r
 refine Tr.l1 r fun x v hx r σ' e=>?_
 revert hx
 refine kN e fun m e hx=>qG e fun {l} hl e=>?_
 (refine nA (oG I hx hl) fun a vs k e_3 h1 h2 h3=>?_;obtain rfl:=e_3)
 (refine elA (aZ e) fun z1 z2=>?_;obtain rfl:=z1;obtain rfl:=z2)
 refine call_function_entry (by decide+kernel) (by decide+kernel) kdk_entry_iter (kdk_args_iter _) ?_
 unfold Builtin.«iter»
 refine wB (m:=someArgs "iter" 1 2 _) (wpAny_of_eq (a:= [Value.ref a]) (by rfl) ?_)
 show wpAny _ _ (pyIter (.ref a) >>=_) _ _ _
 refine wB (wpAny_pyIter_list (items:=vs.toArray) ⟨_,h2,rfl,k,rfl⟩ ?_)
 refine wP ⟨_,rfl,?_⟩
 have x:=Ext.push s { cls:= .type "list_iterator",data:= .fields #[.ref a,.int 0 0] }
 have st:=bB.addC (G:=G) x (bD _)
 have ho:(s.heap.push { cls:= .type "list_iterator",data:= .fields #[.ref a,.int 0 0] }).get? s.heap.objs.size=some { cls:= .type "list_iterator",data:= .fields #[.ref a,.int 0 0] }:=Heap.get?_push_size _ rfl
 refine ⟨_,_,rfl,st,I.addC x (bD _) ho ⟨⟨rfl,rfl⟩,a,rfl,getElem?_prefix h1⟩,.cell ?_⟩
 show (G.phi++ [s.heap.objs.size])[_]?=_
 rw [←I.cells.len];simp
noncomputable def xO (v:MV):M MV:=fun σ=>oC v fun m=>pT σ.H[m]? fun _ _=>some (.ok (.nxt m),σ)
theorem aLc {y:MV} {v:Value} (I:Inv C sc A env G σ s) (hx:aI G s.heap y v):Tr C sc A env G σ s (getAttr v "__next__" true) (xO y) (fun G h x v=>aI G h x v):=by
 intro r σ' e
 refine aUi e hx fun m a hp e=>aSb e fun {l i} hm e=>?_
 (refine elA (aZ e) fun z1 z2=>?_;obtain rfl:=z1;obtain rfl:=z2)
 (refine aBb (I.cells.at' m a _ hp hm) fun o ho t_2 b hdt hb=>?_;obtain ⟨hc,hd⟩:=t_2)
 obtain ⟨h,g,d,t,os⟩:=s
 refine uY ho hc hd hdt ?_
 have X:Ext ⟨h,g,d,t,os⟩ ⟨h.push { cls:= .type "method-wrapper",data:= .fields #[.builtin "list_iterator.__next__",.ref a] },g,d,t+1,os⟩:=⟨(Ext.push ⟨h,g,d,t,os⟩ _).1,rfl,rfl⟩
 exact ⟨.nxt m,G,rfl,X.step G,I.ext X,.nxt (it:=a) (Heap.get?_push_size _ rfl) (I.fresh_notW (bD _)) hp⟩
theorem aGx {value:Expr} {attr:Str} {pos:Pos} {f:M MV} (hv:aV C hd n sc value f) (hz:autoParam (attr= "__next__") aX._auto_1)
  (he:∀env,eval (.Attribute value attr pos) env=(do
    let o ←eval value env
    standAt pos.atName
    let r ←holding [o] (getAttr o attr true)
    letTemporaryGo value o r
    pure r):=by intro _;with_unfolding_all rfl):
  aV C hd n sc (.Attribute value attr pos) (M.bind f xO):=fun A env G σ s hA I=>
 uU hA hv (fun _ _ _ _ _ I r=>by subst hz;exact aLc I r) (he env) I
noncomputable def iO (v:MV):M MV:=fun σ=>oN v fun m=>pT σ.H[m]? fun l i=>pL σ.H[l]? fun items=>(match items[i]? with
    | some x=>some (.ok x,{ σ with H:=σ.H.set m (.iter l (i+1)) })
    | none=>some (.exc 1,{ σ with H:=σ.H.set m .dead }))
theorem aLd {M:Model} {mw it:Addr} (h:Heap) (X:h.get? mw=some (qH it)):∃k,(k=Keeper.frame∨k=Keeper.machine∨k=Keeper.boundFrame)∧Looks M h (keeperOf (.ref mw)) k:=
 ⟨.machine,.inr (.inl rfl),(Looks.ld (part:=none) X).andThen .now⟩
theorem zX {v:MV} {u:Value} (hh:A.handled=none) (I:Inv C sc A env G σ s) (hx:aI G s.heap v u):Tr C sc A env G σ s (call u [] []) (iO v) (fun G h x v=>aI G h x v):=by
 intro r σ' e
 revert hx
 refine aRy e fun m e hx=>aSb e fun {l i} hm e=>qG e fun {items} hl e=>?_
 cases hx with| @nxt _ mw it ho hW hp=>?_
 (refine aBb (I.cells.at' m it _ hp hm) fun oi hoi t_1 b hdt hb=>?_;obtain ⟨hc,hd⟩:=t_1)
 refine fF (I.cells.at' l b _ hb hl) fun ol hol _ hcl vs k hdl h4=>?_
 have hL:s.heap.IsList b vs.toArray:=⟨ol,hol,hcl,k,hdl⟩
 cases hx:items[i]? with
 | some x=>
  rw [hx] at e
  (refine elA (aZ e) fun z1 z2=>?_;obtain rfl:=z1;obtain rfl:=z2)
  refine aJ (h4.get hx) fun w hw rw=>?_
  refine wpAny_call (uZ ho hoi hc hdt hL (x:=w) (by simpa using hw) fun h' o' h1 h2 h3 h5 hs=>?_)
  obtain ⟨st,I'⟩:=I.updC (tk:=s.toks) (y:= .iter l (i+1)) hp hs h1 fun _=>⟨⟨h2,h3.trans hd⟩,b,h5,hb⟩
  exact ⟨_,G,rfl,st,I',rw.step I.g st⟩
 | none=>
  rw [hx] at e
  (refine elA (aZ e) fun z1 z2=>?_;obtain rfl:=z1;obtain rfl:=z2)
  refine wpAny_call (xK hh ho ⟨oi,hoi,hc,hdt⟩ hL (by have:=getElem?_eq_none_iff.mp hx;simp;rw [←h4.length];exact this) fun h₁ h' e ob ws hs1 ⟨o1,ho1,ws1,hw1⟩ hk hn he hc' hd' hz h11 h22=>?_)
  obtain ⟨st,I'⟩:=I.updC (tk:=s.toks) (y:= .dead) hp hs1 ho1 fun _ v q=>by rw [hw1] at q;cases q
  refine bG (I'.raiseOf (s:={ s with heap:=h₁,toks:=s.toks }) (h':=h') (tk:=s.toks) (k:=1) hk hn he hc' hd' hz h11 fun _ _=>h22) fun G' st' I'' xr=>?_
  exact ⟨1,G',rfl,st.trans st',I'',xr⟩
theorem xP {value:Expr} {pos:Pos} {f:M MV} (hv:aV C true n sc value f)
  (he:autoParam (∀env,eval (.Call value [] [] pos) env=(do callWith pos (←eval value env) [] (backTo pos (starEach [] env)) (backToKw pos (keywordEach [] env)))) dL._auto_1):
  aV C true n sc (.Call value [] [] pos) (M.bind f iO):=by
 intro A env G σ s hA I
 rw [he env]
 refine Tr.bind (hv A env G σ s hA I) fun x v G' σ' s' st I' p=>?_
 intro r σ₁ e
 have hn:∃m,x= .nxt m:=by
  exact aRy (P:=fun x=>∃m,x= .nxt m) e fun m _=>⟨m,rfl⟩
 obtain ⟨m,rfl⟩:=hn
 cases id p with| @nxt _ mw it ho hW hp=>?_
 exact callWith_of (P:=fun h=>h.get? mw=some (qH it)) rfl (aLd) (evalArgs_nil3 ⟨ho,zX (hA.handled rfl) I' p r σ₁ e⟩)
theorem tM {e:Expr} {f:M MV} (he:aV C hd n sc e f) (hw:autoParam (∀env (w:Sem Value),isTrue e env w=(w >>=fun v=>standAt e.pos >>=fun _=>holding [v] (truthy v))) nB._auto_1):
  mL C hd n sc e (M.bind f fun x=>M.bind (cK x) fun l=>M.lift (if cC l.length then some (l.length !=0) else none)):=by
 intro A env G σ s hA I
 rw [hw]
 refine Tr.bind (he A env G σ s hA I) fun x v G' σ' s' st I' p=>Tr.stand (Tr.holding ?_)
 refine Tr.items I' p fun l a vs ha h1 h3=>?_
 subst ha
 refine Tr.of_ext I' fun b e Q E h=>?_
 ·refine dG e fun hz e=>?_
  rw [←sJ e] at h
  have:=bN.mp hz
  have q:=h3.length
  refine wpAny_truthy_list h1 (by rw [size_toArray];lia) ?_
  have e:(!vs.toArray.isEmpty)=(l.length !=0):=by rw [q];cases vs <;> rfl
  rw [e];exact h _ _ (Ext.toks _ _) rfl
theorem lX (l:Addr) (items:Array Value) (hz:(items.size:Int) < 2 ^ 63):Meets (Builtin.«bool.__new__» ⟨[.type "bool",.ref l],[]⟩)
  (fun A R s=>s.heap.IsList l items∧R (.ok (.ret (.bool (!items.isEmpty)))) { s with toks:=s.toks+1+1 }):=
 Meets.of_wp fun prog w A R s hs=>by
  obtain ⟨hp,g,d,tk,os⟩:=s
  obtain ⟨hL,hs⟩:=hs
  have f1:=PySem.F.conv_sub_bool
  repeat (any_goals (first|with_reducible refine wpAny_truthy_list hL hz ?_|wp_step))
  all_goals first|exact ⟨_,rfl,hs⟩|skip
noncomputable def aSr (l:List MV):M MV:=M.l1 l fun x=>M.bind (cK x) fun l=>M.lift (if cC l.length then some (.bool (l.length !=0)) else none)
theorem aGy:BOp C hd (.type "bool") aSr:=by
 intro sc A env G σ s l vs hh hu I r
 refine Tr.li I r fun l a vs h1 h3=>?_
 refine Tr.of_ext I fun b e Q E h=>?_
 ·refine dG e fun hz e=>?_
  rw [←sJ e] at h
  have:=bN.mp hz
  have q:=h3.length
  have e:(!vs.toArray.isEmpty)=(l.length !=0):=by rw [q];cases vs <;> rfl
  refine call_bool_1 (lX a vs.toArray (by rw [size_toArray];lia)) (show _ from ⟨h1,rfl,?_⟩)
  rw [e];exact h _ _ (Ext.toks s _) (.bool _)
end
section
variable {C:Cx} {hd:Bool} {n:Nat} {sc:SC} {A:Around} {env:Env} {G:Gh} {σ:St} {s:Shared} {Q E:Value→Shared→Prop}
noncomputable def nxK (m ep k:Nat):Nxt:=fun i H=>pD H[m]? fun ep' l=>if Nat.beq ep' ep && Nat.beq l.length k then some ((l[i]?).map fun p=> .int p.1) else none
noncomputable def nxV (m ep k:Nat):Nxt:=fun i H=>pD H[m]? fun ep' l=>if Nat.beq ep' ep && Nat.beq l.length k then some ((l[i]?).map (·.2)) else none
theorem eI.at {h:Heap} {l:List (Int×MV)} {kvs:List (Int×Value)} (r:eI G h l kvs):∀{i:Nat} {k:Int} {x:MV},l[i]?=some (k,x)→∃v,kvs[i]?=some (k,v)∧aI G h x v:=by
 revert r
 refine eI.rec' (P:=fun l kvs=>∀{i:Nat} {k:Int} {x:MV},l[i]?=some (k,x)→∃v,kvs[i]?=some (k,v)∧aI G h x v) (fun e=>by exact aP e) fun j y u l kvs hy _ ih=>?_
 intro i k x e
 cases i with
 | zero=>(refine elA (aZ e) fun e3_6 e3_7=>?_;obtain rfl:=e3_6;obtain rfl:=e3_7);exact ⟨u,rfl,hy⟩
 | succ i=>exact ih (i:=i) e
theorem fV.dkeys {I:Addr} (m ep k:Nat) (hh:A.handled=none):
  fV C A I [I] pR (nxK m ep k) (fun i G h=>∃l,G.phi[m]?=some l∧h.IsKeyIter I l i k ep) where
 frame:=fun i G G' s s' g hW hp st=>by
  (refine aJ hp fun l h0 h1=>?_;try clear hp)
  have hI:=hW I (mem_singleton.mpr rfl)
  exact ⟨l,(by refine aJ (st.phi) fun z q _=>?_;rw [q];exact getElem?_prefix h0),h1.at fun o e=>st.keep _ o e hI.2.1 hI.2.2⟩
 turn:=fun i G H s x t Q E _ g hH hW hp hn hQ=>by
  (refine aJ hp fun l h0 h1=>?_;try clear hp)
  refine wF hn fun {ep' items} hm hn1=>dG hn1 fun hc hn2=>?_
  refine elA (and_eq_true_iff.mp hc) fun c1 c2=>?_
  have c1:=Nat.eq_of_beq_eq_true c1
  have c2:=Nat.eq_of_beq_eq_true c2
  subst c1
  replace hn2:=sJ hn2
  (refine aJ (map_eq_some_iff.mp hn2) fun t_5 hx e_6=>?_;obtain ⟨kk,xx⟩:=t_5;obtain rfl:=e_6)
  refine mY (hH.at' m l _ h0 hm) fun o ho kvs hK q1 q2=>?_
  have D:eI G s.heap items kvs:=⟨q1,q2⟩
  refine aJ (D.at hx) fun v hv rv=>?_
  have hk:k=kvs.length:=by rw [D.len,c2]
  subst hk
  refine wpAny_pyNext_dict_item h1 (hK.dictAt ho) hv fun key h' hkey hit' hs'=>?_
  (refine elE (PySem.Value.isInt_shape hkey) fun t' e3_5=>?_;obtain rfl:=e3_5)
  have md:Mod [I] s { s with heap:=h' }:=⟨fun b o hb e=>hs'.extBut b o (cN hb) e,rfl,rfl⟩
  refine bG (id hit') fun o e c _=>?_
  refine hQ _ _ fun Q' E' hq=>dQ (s:={ s with heap:=h' }) e c (by decide+kernel) (hq _ (.int _ _) md (fun b hb=>?_) ⟨l,h0,hit'⟩)
  rw [mS hb];exact ⟨o,e⟩
 fin:=fun i G H s Q E hH hW hp hn hQ=>by
  (refine aJ hp fun l h0 h1=>?_;try clear hp)
  refine wF hn fun {ep' items} hm hn1=>dG hn1 fun hc hn2=>?_
  refine elA (and_eq_true_iff.mp hc) fun c1 c2=>?_
  have c1:=Nat.eq_of_beq_eq_true c1
  have c2:=Nat.eq_of_beq_eq_true c2
  subst c1
  replace hn2:=Option.map_eq_none_iff.mp (sJ hn2)
  refine mY (hH.at' m l _ h0 hm) fun o ho kvs hK q1 q2=>?_
  have D:eI G s.heap items kvs:=⟨q1,q2⟩
  have hk:k=kvs.length:=by rw [D.len,c2]
  subst hk
  refine wpAny_pyNext_dict_end hh h1 (hK.dictAt ho) (by have:=getElem?_eq_none_iff.mp hn2;rw [getElem?_eq_none_iff,D.len];exact this) fun h' he'=>?_
  exact hQ _ ⟨fun b o hb e=>he' b o (cN hb) e,rfl,rfl⟩
 self:=fun i G s Q E hp h=>let ⟨l,_,h1⟩:=hp;wpAny_pyIter_keyiter h1 h
 ghost:=fun i G own' h hp=>hp
 other:=fun i G h h' k hp=>let ⟨l,h0,h1⟩:=hp;⟨l,h0,h1.at fun o e=>k _ o (.inr (mem_singleton.mpr rfl)) e⟩
theorem fV.dvals {I:Addr} (m ep k:Nat) (hh:A.handled=none):
  fV C A I [I] pR (nxV m ep k) (fun i G h=>∃l,G.phi[m]?=some l∧h.IsValIter I l i k ep) where
 frame:=fun i G G' s s' g hW hp st=>by
  (refine aJ hp fun l h0 h1=>?_;try clear hp)
  have hI:=hW I (mem_singleton.mpr rfl)
  exact ⟨l,(by refine aJ (st.phi) fun z q _=>?_;rw [q];exact getElem?_prefix h0),h1.at fun o e=>st.keep _ o e hI.2.1 hI.2.2⟩
 turn:=fun i G H s x t Q E _ g hH hW hp hn hQ=>by
  (refine aJ hp fun l h0 h1=>?_;try clear hp)
  refine wF hn fun {ep' items} hm hn1=>dG hn1 fun hc hn2=>?_
  refine elA (and_eq_true_iff.mp hc) fun c1 c2=>?_
  have c1:=Nat.eq_of_beq_eq_true c1
  have c2:=Nat.eq_of_beq_eq_true c2
  subst c1
  replace hn2:=sJ hn2
  (refine aJ (map_eq_some_iff.mp hn2) fun t_3 hx e_4=>?_;obtain ⟨kk,xx⟩:=t_3;obtain rfl:=e_4)
  refine mY (hH.at' m l _ h0 hm) fun o ho kvs hK q1 q2=>?_
  have D:eI G s.heap items kvs:=⟨q1,q2⟩
  refine aJ (D.at hx) fun v hv rv=>?_
  have hk:k=kvs.length:=by rw [D.len,c2]
  subst hk
  refine wpAny_pyNext_values_item h1 (hK.dictAt ho) hv fun h' hit' hs'=>?_
  have md:Mod [I] s { s with heap:=h' }:=⟨fun b o hb e=>hs'.extBut b o (cN hb) e,rfl,rfl⟩
  have vk:=md.vk fun b hb=>(hW b hb).1
  refine bG (id hit') fun o e c _=>?_
  refine hQ _ _ fun Q' E' hq=>dQ (s:={ s with heap:=h' }) e c (by decide+kernel) (hq _ (rv.keep vk) md (fun b hb=>?_) ⟨l,h0,hit'⟩)
  rw [mS hb];exact ⟨o,e⟩
 fin:=fun i G H s Q E hH hW hp hn hQ=>by
  (refine aJ hp fun l h0 h1=>?_;try clear hp)
  refine wF hn fun {ep' items} hm hn1=>dG hn1 fun hc hn2=>?_
  refine elA (and_eq_true_iff.mp hc) fun c1 c2=>?_
  have c1:=Nat.eq_of_beq_eq_true c1
  have c2:=Nat.eq_of_beq_eq_true c2
  subst c1
  replace hn2:=Option.map_eq_none_iff.mp (sJ hn2)
  refine mY (hH.at' m l _ h0 hm) fun o ho kvs hK q1 q2=>?_
  have D:eI G s.heap items kvs:=⟨q1,q2⟩
  have hk:k=kvs.length:=by rw [D.len,c2]
  subst hk
  refine wpAny_pyNext_values_end hh h1 (hK.dictAt ho) (by have:=getElem?_eq_none_iff.mp hn2;rw [getElem?_eq_none_iff,D.len];exact this) fun h' he'=>?_
  exact hQ _ ⟨fun b o hb e=>he' b o (cN hb) e,rfl,rfl⟩
 self:=fun i G s Q E hp h=>let ⟨l,_,h1⟩:=hp;wpAny_pyIter_valiter h1 h
 ghost:=fun i G own' h hp=>hp
 other:=fun i G h h' k hp=>let ⟨l,h0,h1⟩:=hp;⟨l,h0,h1.at fun o e=>k _ o (.inr (mem_singleton.mpr rfl)) e⟩
theorem aSs {G₀:Gh} {s₀ s':Shared} {Ia:Addr} {k:Nat} {okT:Expr→Bool} {nx:Nxt} {Pos:Nat→Gh→Heap→Prop} (I:Inv C sc A env G σ s) (st₀:bB G₀ s₀ G s) (x:Ext s s') (hn:s.heap.get? Ia=none) (ho:∃o,s'.heap.get? Ia=some o)
  (it:fV C A Ia [Ia] okT nx Pos) (hp:Pos 0 (G.addW [Ia]) s'.heap):
  ∃p G' I wr Pos,(R.ok (k,nx):R (Nat×Nxt))= .ok p∧Value.ref Ia= .ref I∧bB G₀ s₀ G' s'∧Inv C sc A env G' σ s'∧(∀b∈wr,s₀.heap.get? b=none)∧eS sc env G' wr∧fV C A I wr okT p.2 Pos∧Pos 0 G' s'.heap:=by
 have fr:∀b∈ [Ia],s₀.heap.get? b=none:=fun b hb=>by
  rw [mS hb]
  cases q:s₀.heap.get? Ia with
  | none=>rfl
  | some o=>refine elE (st₀.alive _ o q) fun o' q'=>?_;rw [hn] at q';exact aP q'
 refine iC (I.addW x (fun b hb=>by rw [mS hb];exact hn) (fun b hb=>by rw [mS hb];exact ho)) fun st I' sd=>?_
 exact ⟨_,_,_,_,_,rfl,rfl,st₀.trans st,I',fr,sd,it,hp⟩
noncomputable def aGz (x:MV):M (Nat×Nxt):=fun σ=>oC x fun m=>pD σ.H[m]? fun ep l=>some (.ok (l.length+1,nxK m ep l.length),σ)
theorem zY {e:Expr} {f:M MV} (B:cH C) (h:aV C true n sc e f):sF C n sc pR e (M.bind f aGz):=by
 intro A env G σ s hA I r σ' er
 refine (h A env G σ s hA I).thenQ er (fun k G' s' y q st I' x=>⟨k,G',q,st,I',x⟩) fun x σ₁ G' s' v e1 st I' p=>?_
 revert p
 refine kN e1 fun m e2 p=>wF e2 fun {ep l} hl e3=>?_
 (refine elA (aZ e3) fun z1 z2=>?_;obtain rfl:=z1;obtain rfl:=z2)
 (refine iF (jP B I' p hl) fun a o kvs e_2 h1 h2 h3 h4 h5=>?_;obtain rfl:=e_2)
 refine wpAny_pyIter_dict h5 (h3.dictAt h2) ?_
 refine aSs I' st (Ext.push s' _) (bD _) ⟨_,Heap.get?_push_size _ rfl⟩ (fV.dkeys m ep l.length (hA.handled rfl)) ⟨a,h1,_,Heap.get?_push_size _ rfl,rfl,?_⟩
 rw [h4.len];rfl
noncomputable def vC (x:MV):M (Nat×Nxt):=fun σ=>oC x fun m=>pD σ.H[m]? fun ep l=>some (.ok (l.length+1,nxV m ep l.length),σ)
theorem zZ {o:Expr} {name:Str} {apos pos:Pos} {f:M MV} (B:cH C) (ho:aV C true n sc o f) (hz:autoParam (name= "values") aX._auto_1)
  (hbase:autoParam (∀env,attributeBase o name env (eval o env)=eval o env) dL._auto_1) (hline:autoParam ((apos.endLine==pos.line)=true) aX._auto_1) (hf:autoParam (keeperOf (.builtin "dict.values")=pure .machine) aX._auto_1):
  sF C n sc pR (.Call (.Attribute o name apos) [] [] pos) (M.bind f vC):=by
 subst hz
 intro A env G σ s hA I r σ' er
 refine wpAny_Call_method (hbase env) (zF (C:=C) (hd:=true) (n:=n) (sc:=sc) .nil rfl) hline PySem.F.plainAttrs_dict PySem.F.slot_dict_values PySem.F.type_dict_values ?_
 refine (ho A env G σ s hA I).thenQ er (fun k G' s' y q st I' x=>⟨k,G',q,st,I',x⟩) fun x σ₁ G' s' v e1 st I' p=>?_
 revert p
 refine kN e1 fun m e2 p=>wF e2 fun {ep l} hl e3=>?_
 (refine elA (aZ e3) fun z1 z2=>?_;obtain rfl:=z1;obtain rfl:=z2)
 (refine iF (jP B I' p hl) fun a ob kvs e_1 h1 h2 h3 h4 h5=>?_;obtain rfl:=e_1)
 have hD:=KdkAt.of' h3 h2
 refine ⟨hD.typeIs,fun b hb=>?_,?_⟩
 ·cases hb
  (refine aJ h3 fun es q _=>?_;try clear h3)
  exact ⟨ob,h2,q.2.1⟩
 ·refine callWith_of (P:=fun _=>True) rfl (fun h _=>⟨.machine,.inr (.inl rfl),Looks.of_pure hf⟩) (evalArgs_nil3 ⟨trivial,?_⟩)
  refine call_meetsIn PySem.F.slot_dict_values hD.typeIs PySem.F.entry_dict_values (PySem.F.args_dict_values_1 _) (meets_dict_values (intKind C.prog C.w) a h5) ⟨⟨_,hD⟩,?_⟩
  have x1:=Ext.push s' { cls:= .type "dict_values",data:= .fields #[.ref a] }
  have I1:=I'.ext x1
  refine wpAny_pyIter_values (d:=a) (kvs:=kvs) (ep:=ep) (knd:=intKind C.prog C.w) ⟨_,Heap.get?_push_size _ rfl,rfl,rfl⟩ ((h3.dictAt h2).push _) ?_
  refine aSs I1 (st.trans (x1.step G')) (Ext.push _ _) (bD _) ⟨_,Heap.get?_push_size _ rfl⟩ (fV.dvals m ep l.length (hA.handled rfl)) ⟨a,h1,_,Heap.get?_push_size _ rfl,rfl,?_⟩
  rw [h4.len];rfl
end
namespace EN
open KBw Builtin
section
variable {prog:Program} {w:World} {A:Around} {E:Value→Shared→Prop} {s:Shared} {b:Array UInt8} {t:Tok} {it e:Addr} {i:Nat}
theorem pN {c:UInt8} {Q:Value→Shared→Prop} (hit:IsBytesIter s.heap it b t i) (hx:b[i]?=some c)
  (hQ:∀h',IsBytesIter h' it b t (i+1)→Heap.SameBut it s.heap h'→Q (.int (c.toNat:Int) s.toks) { s with heap:=h',toks:=s.toks+1 }):wpAny (model prog w) A (Builtin.SmallTypes.nextOf (.ref it)) Q E s:=by
 refine bG (id hit) fun o ho hc hd=>?_
 unfold Builtin.SmallTypes.nextOf
 refine wB (wpAny_callSpecial?_slot (name:=PySem.Str.ofString "__next__") (iter_typeIs hit) slot_next
  (wpAny_call_entry slot_next (iter_typeIs hit) entry_next ?_ (args_next _)))
 show wpAny _ _ (field (.ref it) 0 >>=_) _ _ s
 refine wB (wpAny_field ho hd (x:= .bytes b t) rfl ?_)
 show wpAny _ _ (if (Value.bytes b t==Value.none)=true then _ else _) _ _ s
 rw [if_neg (show ¬((Value.bytes b t==Value.none)=true) from Bool.false_ne_true)]
 show wpAny _ _ (field (.ref it) 1 >>=_) _ _ s
 refine wB (wpAny_field ho hd (x:= .int i 0) rfl ?_)
 refine wB (wpAny_of_eq (a:=b) rfl ?_)
 simp only [Int.toNat_natCast,hx]
 refine wB (wpAny_setField ho hd (by simp) (wB (wpAny_mkInt (wP ⟨_,rfl,wP (hQ _ ?_ (Heap.SameBut.update ..))⟩))))
 exact ⟨_,Heap.get?_update_self _ ho (Obj.isFreed_of_fields (Obj.data_mapFields hd _)),(Obj.cls_mapFields ..).trans hc,by
  rw [Obj.data_mapFields hd];simp [rawInt]⟩
theorem rC {Q:Value→Shared→Prop} (hh:A.handled=none) (hit:IsBytesIter s.heap it b t i) (hx:b[i]?=none)
  (hE:∀h' e,Heap.ExtBut it s.heap h'→(∃o,h'.get? e=some o∧o.cls= .type "StopIteration")→E (.ref e) { s with heap:=h' }):wpAny (model prog w) A (Builtin.SmallTypes.nextOf (.ref it)) Q E s:=by
 refine bG (id hit) fun o ho hc hd=>?_
 unfold Builtin.SmallTypes.nextOf
 refine wB (wpAny_callSpecial?_slot (name:=PySem.Str.ofString "__next__") (iter_typeIs hit) slot_next
  (wpAny_call_entry slot_next (iter_typeIs hit) entry_next ?_ (args_next _)))
 show wpAny _ _ (field (.ref it) 0 >>=_) _ _ s
 refine wB (wpAny_field ho hd (x:= .bytes b t) rfl ?_)
 show wpAny _ _ (if (Value.bytes b t==Value.none)=true then _ else _) _ _ s
 rw [if_neg (show ¬((Value.bytes b t==Value.none)=true) from Bool.false_ne_true)]
 show wpAny _ _ (field (.ref it) 1 >>=_) _ _ s
 refine wB (wpAny_field ho hd (x:= .int i 0) rfl ?_)
 refine wB (wpAny_of_eq (a:=b) rfl ?_)
 simp only [Int.toNat_natCast,hx]
 refine wB (wpAny_rule (wB (wpAny_setField ho hd (by simp) ?_)))
 show wpAny _ _ (newExc (.type "StopIteration") [] >>=_) _ _ _
 refine wB ?_
 unfold newExc newTuple
 refine wB (wpAny_newObj_type ?_ (by size_fits))
 refine wB (m:=firstArgMember _ _) (wpAny_of_eq (a:=Value.none) (by rfl) ?_)
 refine wpAny_newObj_type ?_ (by size_fits)
 unfold raiseNew
 refine wB (wpAny_handled ?_)
 rw [show A.in1.handled=none from hh]
 refine wB (wP (wpAny_throw ?_))
 exact hE _ _ (((Heap.SameBut.update ..).extBut.push _).push _) ⟨_,Heap.get?_push_size _ rfl,rfl⟩
theorem aNu {prog:Program} {w:World} {A:Around} (hh:A.handled=none) (it:Addr) (b:Array UInt8) (t:Tok):
  Draws prog w A it [it] b.size (fun i v=>∃c u,b[i]?=some c∧v= .int (c.toNat:Int) u) (fun i h=>IsBytesIter h it b t i) where
 live:=fun _ _ st=>let ⟨o,ho,_⟩:=st;⟨o,ho⟩
 frame:=fun _ _ _ st hk=>let ⟨o,ho,r⟩:=st;⟨o,hk it (by simp) o ho,r⟩
 item:=fun i s Q E hi st hQ=>by
  refine pN st (c:=b[i]) (by simp [hi]) fun h' hit' hs'=>?_
  exact hQ _ h' (s.toks+1) ⟨_,_,by simp [hi],rfl⟩ hit' hs'
 done:=fun s Q E st hE=>rC hh st (by simp) hE
noncomputable abbrev mF (h:Heap) (e it a:Addr) (f:Bool) (i:Int) (item:Value):Prop:=
 h.get? e=some { cls:= .type "enumerate",dict:=none,data:= .fields #[rawInt a,.bool f,.ref it,rawInt i,.none,item],slots:= #[] }
theorem aHa {a:Addr} {f:Bool} {oa:Obj} {old:Value} {c:UInt8} {Q:Option Value→Shared→Prop} (he:mF s.heap e it a f i old) (ha:s.heap.get? a=some oa) (hae:a≠e) (hai:a≠it) (hit:IsBytesIter s.heap it b t i) (hx:b[i]?=some c) (hne:e≠it)
  (hQ:∀h' t1 t2 tk,mF h' e it a true ((i:Int)+1) old→IsBytesIter h' it b t (i+1)→
   h'.get? s.heap.objs.size=some { cls:= .type "tuple",data:= .seq #[.int i t1,.int (c.toNat:Int) t2] }→
   (∀b o,b≠e→b≠it→s.heap.get? b=some o→h'.get? b=some o)→Q (some (.ref s.heap.objs.size)) { s with heap:=h',toks:=tk }):
  wpAny (model prog w) A (pyNext (.ref e)) Q E s:=by
 have hT:s.TypeIs (.ref e) "enumerate":=⟨_,he,rfl⟩
 unfold pyNext
 refine wB (wpAny_attempt (wpAny_callSpecial?_slot (name:=Str.ofString "__next__") hT PySem.F.slot_enumerate_next
  (wpAny_call_entry PySem.F.slot_enumerate_next hT PySem.F.entry_enumerate_next ?_ (PySem.F.args_enumerate_next_1 _))))
 obtain ⟨hp,g,d,tk₀,os⟩:=s
 show wpAny _ _ (field (.ref e) 2 >>=_) _ _ _
 refine wB (wpAny_field he rfl (x:= .ref it) rfl ?_)
 refine wB (pN hit hx fun h₁ hit₁ hs₁=>?_)
 replace hs₁:Heap.SameBut it hp h₁:=hs₁
 have he₁:mF h₁ e it a f i old:=(hs₁.2 e hne).trans he
 show wpAny _ _ (field (.ref e) 3 >>=_) _ _ ⟨h₁,g,d,tk₀+1,os⟩
 refine wB (wpAny_field he₁ rfl (x:=rawInt i) rfl ?_)
 show wpAny _ _ (field (.ref e) 4 >>=_) _ _ ⟨h₁,g,d,tk₀+1,os⟩
 refine wB (wpAny_field he₁ rfl (x:= .none) rfl ?_)
 show wpAny _ _ (mkInt i >>=_) _ _ ⟨h₁,g,d,tk₀+1,os⟩
 refine wB (wpAny_mkInt ?_)
 show wpAny _ _ (setField (.ref e) 3 (rawInt ((i:Int)+1)) >>=_) _ _ ⟨h₁,g,d,tk₀+1+1,os⟩
 refine wB (wpAny_setField_rec he₁ (by simp) fun h₂ he₂ hs₂=>?_)
 replace hs₂:Heap.SameBut e h₁ h₂:=hs₂
 replace he₂:mF h₂ e it a f ((i:Int)+1) old:=he₂
 show wpAny _ _ (setField (.ref e) 4 .none >>=_) _ _ ⟨h₂,g,d,tk₀+1+1,os⟩
 refine wB (wpAny_setField_rec he₂ (by simp) fun h₃ he₃ hs₃=>?_)
 replace hs₃:Heap.SameBut e h₂ h₃:=hs₃
 replace he₃:mF h₃ e it a f ((i:Int)+1) old:=he₃
 show wpAny _ _ (newTuple [.int i (tk₀+1),.int (c.toNat:Int) tk₀] >>=_) _ _ ⟨h₃,g,d,tk₀+1+1,os⟩
 refine wB (wpAny_newTuple ?_)
 have he₄:mF (h₃.push { cls:= .type "tuple",data:= .seq #[.int i (tk₀+1),.int (c.toNat:Int) tk₀] }) e it a f ((i:Int)+1) old:=Heap.get?_push_of_some _ he₃
 have hsz:h₃.objs.size=hp.objs.size:=by rw [hs₃.1,hs₂.1,hs₁.1]
 have hel:e < hp.objs.size:=Heap.lt_size he
 have ht₄:(h₃.push { cls:= .type "tuple",data:= .seq #[.int i (tk₀+1),.int (c.toNat:Int) tk₀] }).get? hp.objs.size=some { cls:= .type "tuple",data:= .seq #[.int i (tk₀+1),.int (c.toNat:Int) tk₀] }:=by rw [←hsz];exact Heap.get?_push_size _ rfl
 have hk₄:∀b o,b≠e→b≠it→hp.get? b=some o→(h₃.push { cls:= .type "tuple",data:= .seq #[.int i (tk₀+1),.int (c.toNat:Int) tk₀] }).get? b=some o:=fun b o hbe hbi hb=>Heap.get?_push_of_some _ (hs₃.extBut b o hbe (hs₂.extBut b o hbe (hs₁.extBut b o hbi hb)))
 have hit₄:IsBytesIter (h₃.push { cls:= .type "tuple",data:= .seq #[.int i (tk₀+1),.int (c.toNat:Int) tk₀] }) it b t (i+1):=by
  (refine aJ hit₁ fun o ho r=>?_;try clear hit₁)
  exact ⟨o,Heap.get?_push_of_some _ (hs₃.extBut it o (Ne.symm hne) (hs₂.extBut it o (Ne.symm hne) ho)),r⟩
 generalize h₃.push { cls:= .type "tuple",data:= .seq #[.int i (tk₀+1),.int (c.toNat:Int) tk₀] }=h₄ at he₄ ht₄ hk₄ hit₄
 show wpAny _ _ (Builtin.SmallTypes.ownedTupleIsFree (.ref e) >>=_) _ _ ⟨h₄,g,d,tk₀+1+1,os⟩
 rw [hsz]
 clear he₃ hs₃ he₂ hs₂ he₁ hs₁ hit₁ hsz h₃ h₂ h₁
 have ha₄:=hk₄ a oa hae hai ha
 refine wB ?_
 unfold Builtin.SmallTypes.ownedTupleIsFree
 refine wB (wpAny_field he₄ rfl (x:=rawInt a) rfl ?_)
 show wpAny _ _ (loadIfAlive ((a:Int).toNat) >>=_) _ _ _
 rw [Int.toNat_natCast]
 refine wB (kdx_alive ha₄ ?_)
 simp only [Option.isNone_some,Bool.false_eq_true,if_false]
 refine wB (wpAny_field he₄ rfl (x:= .bool f) rfl ?_)
 have fin:∀h₅:Heap,mF h₅ e it a true ((i:Int)+1) old→Heap.SameBut e h₄ h₅→Q (some (.ref hp.objs.size)) ⟨h₅,g,d,tk₀+1+1,os⟩:=fun h₅ he₅ hs₅=>
  hQ h₅ _ _ _ he₅ (let ⟨o,ho,r⟩:=hit₄;⟨o,hs₅.extBut it o (Ne.symm hne) ho,r⟩) (hs₅.extBut _ _ (Nat.ne_of_gt hel) ht₄) fun b o hbe hbi hb=>hs₅.extBut b o hbe (hk₄ b o hbe hbi hb)
 cases f with
 | true=>
  rw [if_neg (show ¬((Value.bool true !=Value.bool true)=true) from Bool.false_ne_true)]
  refine wP ?_
  simp only [Bool.false_eq_true,if_false]
  exact wP ⟨_,rfl,wP (fin h₄ he₄ (Heap.SameBut.refl _ _))⟩
 | false=>
  rw [if_pos (show (Value.bool false !=Value.bool true)=true from rfl)]
  refine wB (wpAny_setField_rec he₄ (by simp) fun h₅ he₅ hs₅=>?_)
  replace hs₅:Heap.SameBut e h₄ h₅:=hs₅
  replace he₅:mF h₅ e it a true ((i:Int)+1) old:=he₅
  refine wP ?_
  simp only [Bool.false_eq_true,if_false]
  exact wP ⟨_,rfl,wP (fin h₅ he₅ hs₅)⟩
theorem aLe {a:Addr} {f:Bool} {old:Value} {k:Int} {Q:Option Value→Shared→Prop} (hh:A.handled=none) (he:mF s.heap e it a f k old) (hit:IsBytesIter s.heap it b t i) (hx:b[i]?=none)
  (hQ:∀h',Heap.ExtBut it s.heap h'→Q none { s with heap:=h' }):wpAny (model prog w) A (pyNext (.ref e)) Q E s:=by
 have hT:s.TypeIs (.ref e) "enumerate":=⟨_,he,rfl⟩
 unfold pyNext
 refine wB (wpAny_attempt (wpAny_callSpecial?_slot (name:=Str.ofString "__next__") hT PySem.F.slot_enumerate_next
  (wpAny_call_entry PySem.F.slot_enumerate_next hT PySem.F.entry_enumerate_next ?_ (PySem.F.args_enumerate_next_1 _))))
 show wpAny _ _ (field (.ref e) 2 >>=_) _ _ _
 refine wB (wpAny_field he rfl (x:= .ref it) rfl ?_)
 refine wB (rC hh hit hx fun h' x he' hx'=>?_)
 (refine aJ hx' fun o ho hc=>?_;try clear hx')
 refine wB (wpAny_isInstance (T:= "StopIteration") (b:=true) ⟨o,ho,hc⟩ isSubtype_stop ?_)
 exact wP (hQ _ he')
noncomputable def aAa (h:Heap) (e it S:Addr) (b:Array UInt8) (t:Tok) (i:Nat):Prop:=
 IsBytesIter h it b t i∧((i=0∧∃old,IsEnum h e it 0 old)∨∃a f old oa,mF h e it a f i old∧h.get? a=some oa∧a≠e∧a≠it∧a≠S)
theorem aAa.keep {h h':Heap} {S:Addr} (x:aAa h e it S b t i) (hk:∀c o,c≠S→h.get? c=some o→h'.get? c=some o) (h1:it≠S) (h2:e≠S):aAa h' e it S b t i:=by
 obtain ⟨⟨o,ho,r⟩,x⟩:=x
 refine ⟨⟨o,hk _ _ h1 ho,r⟩,?_⟩
 focus (refine elrAEoEEEEAA x (fun q old he=>?_) fun a f old oa he ha w=>?_;try clear x;rotate_left;try clear x;rotate_left)
 ·exact .inl ⟨q,old,hk _ _ h2 he⟩
 ·exact .inr ⟨a,f,old,oa,hk _ _ h2 he,hk _ _ w.2.2 ha,w⟩
theorem aLf {S:Addr} {c:UInt8} {Q:Option Value→Shared→Prop} (hst:aAa s.heap e it S b t i) (hS:S < s.heap.objs.size) (hne:e≠it) (hh:A.handled=none) (hx:b[i]?=some c)
  (hQ:∀h' t1 t2 tk,aAa h' e it S b t (i+1)→h'.get? s.heap.objs.size=some { cls:= .type "tuple",data:= .seq #[.int i t1,.int (c.toNat:Int) t2] }→
   (∀b o,b≠e→b≠it→s.heap.get? b=some o→h'.get? b=some o)→Q (some (.ref s.heap.objs.size)) { s with heap:=h',toks:=tk }):
  wpAny (model prog w) A (pyNext (.ref e)) Q E s:=by
 obtain ⟨hit,x⟩:=hst
 have hil:it < s.heap.objs.size:=let ⟨_,ho,_⟩:=hit;Heap.lt_size ho
 focus (refine elrAEoEEEEAAAA x (fun r_2 old he=>?_) fun a f old oa he ha h1 h2 h3=>?_;try clear x;obtain rfl:=r_2;rotate_left;try clear x;rotate_left)
 ·have hel:e < s.heap.objs.size:=Heap.lt_size he
  refine wpAny_pyNext_enum_itemD (aNu (A:=A.in1) hh it b t) he hit (Array.getElem?_eq_some_iff.mp hx).1 hne (by simp [hne]) fun x h' tk hP ho hs hT hz hk=>?_
  (refine cJ hP fun c' u hc' e_6=>?_;try clear hP;obtain rfl:=e_6)
  rw [hx] at hc';(obtain rfl:=sJ hc')
  exact hQ h' _ _ _ ⟨hs,.inr ⟨_,false,_,_,ho,hT,Nat.ne_of_gt hel,Nat.ne_of_gt hil,Nat.ne_of_gt hS⟩⟩ hT hk
 ·exact aHa he ha h1 h2 hit hx hne fun h' t1 t2 tk q1 q2 q3 q4=>hQ h' t1 t2 tk ⟨q2,.inr ⟨a,true,old,oa,q1,q4 a oa h1 h2 ha,h1,h2,h3⟩⟩ q3 q4
theorem aLg {S:Addr} {Q:Option Value→Shared→Prop} (hh:A.handled=none) (hst:aAa s.heap e it S b t b.size)
  (hQ:∀h',Heap.ExtBut it s.heap h'→Q none { s with heap:=h' }):wpAny (model prog w) A (pyNext (.ref e)) Q E s:=by
 obtain ⟨hit,x⟩:=hst
 focus (refine elrAEoEEEEAAAA x (fun q old he=>?_) fun a f old oa he ha h1 h2 h3=>?_;try clear x;rotate_left;try clear x;rotate_left)
 ·refine wpAny_pyNext_enum_endD (aNu (A:=A.in1) hh it b t) he hit hQ
 ·exact aLe hh he hit (by simp) hQ
structure Prs (b:Array UInt8) (lo:Addr) (h:Heap) (as:List Addr):Prop where
 above:∀a∈as,lo < a
 pairs:∀(j:Nat) (a:Addr),as[j]?=some a→∃c t1 t2,b[j]?=some c∧h.get? a=some { cls:= .type "tuple",data:= .seq #[.int j t1,.int (c.toNat:Int) t2] }
end
section
variable {prog:Program} {w:World} {A:Around} {s:Shared} {R:Result→Shared→Prop} {b:Array UInt8} {t:Tok} {it e:Addr}
theorem loop {S:Addr} (hh:A.handled=none) (hSe:e≠S) (hSi:it≠S) (hne:e≠it) (lo:Addr) (hle:e≤lo) (hli:it≤lo) (hlS:S≤lo) (hn:b.size≤sizeLine) (res:Value) {h₁:Heap}
  (hR:∀h' tk acc c as,(∀b o,b≠S→b≠e→b≠it→h₁.get? b=some o→h'.get? b=some o)→h'.get? S=some { cls:= .type "list",dict:=none,data:= .seq acc c,slots:= #[] }→as.length=b.size→Prs b lo h' as→
   acc.toList=as.map Value.ref→R (.ok (.ret res)) { s with heap:=h',toks:=tk }):
  ∀(k i:Nat) (h:Heap) (tk c:Nat) (acc:Array Value) (as:List Addr),b.size - i=k→i≤b.size→aAa h e it S b t i→(∀b o,b≠S→b≠e→b≠it→h₁.get? b=some o→h.get? b=some o)→
   h.get? S=some { cls:= .type "list",dict:=none,data:= .seq acc c,slots:= #[] }→acc.toList=as.map Value.ref→as.length=i→Prs b lo h as→lo < h.objs.size→
   codeAny (model prog w) A (.builtin "list.extend.loop" ⟨[.ref S,.ref e,res],[]⟩) R { s with heap:=h,toks:=tk }:=by
 intro k
 induction k with
 | zero=>
  intro i h tk c acc as hk hi hst hkeep hS hacc hal hG hIs
  have hin:i=b.size:=by lia
  subst hin
  refine codeAny_builtin PySem.F.entry_extend_loop ?_
  rw [Around.under_plainId PySem.F.plain_extend_loop _]
  show wpAny _ A.in1 (pyNext (.ref e) >>=_) _ _ _
  refine wB (aLg (s:={ s with heap:=h,toks:=tk }) (A:=A.in1) hh hst fun h' he=>?_)
  refine wP (hR h' tk acc c as (fun b o h1 h2 h3 e=>he b o h3 (hkeep b o h1 h2 h3 e)) (he S _ (Ne.symm hSi) hS) hal ⟨hG.above,fun j a hj=>?_⟩ hacc)
  refine iD (hG.pairs j a hj) fun c t1 t2 e1 e2=>?_
  have:=hG.above a (mem_of_getElem? hj)
  exact ⟨c,t1,t2,e1,he a _ (fun q=>by rw [q] at this;exact absurd this (Nat.not_lt.mpr hli)) e2⟩
 | succ k ih=>
  intro i h tk c acc as hk hi hst hkeep hS hacc hal hG hIs
  have hlt:i < b.size:=by lia
  have hx:b[i]?=some b[i]:=Array.getElem?_eq_getElem hlt
  have hsz:acc.size=i:=by rw [←Array.length_toList,hacc,length_map,hal]
  refine codeAny_builtin PySem.F.entry_extend_loop ?_
  rw [Around.under_plainId PySem.F.plain_extend_loop _]
  show wpAny _ A.in1 (pyNext (.ref e) >>=_) _ _ _
  refine wB (aLf (s:={ s with heap:=h,toks:=tk }) (S:=S) (A:=A.in1) hst (Heap.lt_size hS) hne hh hx fun h' t1 t2 tk' hst' ht hkp=>?_)
  dsimp only at ht hkp ⊢
  have hS':=hkp S _ (Ne.symm hSe) (Ne.symm hSi) hS
  have up:∀b o,b≠S→h'.get? b=some o→(h'.update S (Obj.mapSeq (·.push (Value.ref h.objs.size)))).get? b=some o:=fun b o hb e=>(Heap.get?_update_other _ _ (Ne.symm hb)).trans e
  have hSl:S < h.objs.size:=Heap.lt_size hS
  show wpAny _ A.in1 (updateSeq S (·.push (Value.ref h.objs.size)) >>=_) _ _ _
  refine wB ?_
  refine wpAny_updateSeq hS' rfl (wP ⟨plainId_quiet PySem.F.plain_extend_loop _,ih (i+1) _ tk' _ (acc.push (Value.ref h.objs.size)) (as++ [h.objs.size]) (by lia) hlt (hst'.keep up hSi hSe)
   (fun b o h1 h2 h3 e=>up b o h1 (hkp b o h2 h3 (hkeep b o h1 h2 h3 e))) (Heap.get?_update_self _ hS' rfl) (by rw [Array.toList_push,hacc,map_append];rfl) (by rw [length_append,hal];rfl) ⟨?_,?_⟩ ?_⟩) (by rw [hsz];lia) (by show (acc.push (Value.ref h.objs.size)).size≤sizeLine+1;rw [Array.size_push,hsz];lia)
  ·intro a ha
   rcases mem_append.mp ha with ha|ha
   ·exact hG.above a ha
   ·rw [mS ha];exact hIs
  ·intro j a hj
   rcases Nat.lt_trichotomy j as.length with h1|h1|h1
   ·rw [getElem?_append_left h1] at hj
    refine iD (hG.pairs j a hj) fun c' t1' t2' e1 e3=>?_
    have hb:=hG.above a (mem_of_getElem? hj)
    have nn:∀z,z≤lo→a≠z:=fun z hz q=>by rw [q] at hb;exact absurd hb (Nat.not_lt.mpr hz)
    exact ⟨c',t1',t2',e1,up a _ (nn S hlS) (hkp a _ (nn e hle) (nn it hli) e3)⟩
   ·subst h1
    have hb:h.objs.size=a:=by simpa using hj
    subst hb
    rw [hal]
    exact ⟨_,t1,t2,hx,up _ _ (Nat.ne_of_gt hSl) ht⟩
   ·have hnone:(as++ [h.objs.size])[j]?=none:=getElem?_eq_none (by rw [length_append,length_singleton];lia)
    rw [hnone] at hj;exact aP hj
  ·have e':(h'.update S (Obj.mapSeq (·.push (Value.ref h.objs.size)))).get? h.objs.size=_:=up _ _ (Nat.ne_of_gt hSl) ht
   exact Nat.lt_trans hIs (Heap.lt_size e')
end
theorem aQu:typeLookup (.type "enumerate") "__len__"=pure none:=by rw [typeLookup_type,builtinLookup_eq_fast];kernel_rfl
theorem aLh:typeLookup (.type "enumerate") "__length_hint__"=pure none:=by rw [typeLookup_type,builtinLookup_eq_fast];kernel_rfl
section
variable {prog:Program} {w:World} {A:Around} {E:Value→Shared→Prop} {s:Shared} {b:Array UInt8} {t:Tok} {it e:Addr}
theorem extend {R:Result→Shared→Prop} {S:Addr} {c₀:Nat} (hh:A.handled=none) (he:IsEnum s.heap e it 0 .none) (hit:KBw.IsBytesIter s.heap it b t 0) (hSe:e < S) (hSi:it < S) (hne:e≠it) (hn:b.size≤sizeLine) (res:Value)
  (hS:s.heap.get? S=some { cls:= .type "list",data:= .seq #[] c₀ })
  (hR:∀h' tk acc c as,(∀b o,b≠S→b≠e→b≠it→s.heap.get? b=some o→h'.get? b=some o)→h'.get? S=some { cls:= .type "list",dict:=none,data:= .seq acc c,slots:= #[] }→as.length=b.size→Prs b S h' as→
   acc.toList=as.map Value.ref→R (.ok (.ret res)) { s with heap:=h',toks:=tk }):
  wpAny (model prog w) A.in1 (Builtin.List.listExtendWith (.ref S) (.ref e) res)
   (fun fin s'=>match fin with| .done f=>R (.ok f) s'| .again c'=>c'.quiet=true∧codeAny (model prog w) A c' R s') (fun e s'=>R (.error e) s') s:=by
 unfold Builtin.List.listExtendWith
 refine wB (wpAny_typeOf (T:= "enumerate") ⟨_,he,rfl⟩ ?_)
 have h1:Builtin.List.listSameRef (.ref S) (.ref e)=false:=by simp [Builtin.List.listSameRef,Nat.ne_of_gt hSe]
 have h2:(Value.type "enumerate"==Value.type "list")=false:=by decide
 have h3:(Value.type "enumerate"==Value.type "tuple")=false:=by decide
 simp only [h1,h2,h3,Bool.or_false,Bool.false_eq_true,if_false]
 refine wB (wpAny_pyIter_enum he ?_)
 refine wB (wpAny_holding ?_)
 unfold Builtin.List.listLengthHint
 refine wB (wpAny_specialOf (T:= "enumerate") ⟨_,he,rfl⟩ aQu ?_)
 show wpAny _ A.in1 (specialOf (Value.ref e) (Str.ofString "__length_hint__") >>=_) _ _ _
 refine wB (wpAny_specialOf (T:= "enumerate") ⟨_,he,rfl⟩ aLh ?_)
 refine wP ?_
 show wpAny _ A.in1 (rule "list.extend.makes-room" >>=fun _=>Builtin.List.listTouch (.ref S) >>=fun _=>
  again (.builtin "list.extend.loop" ⟨[.ref S,.ref e,res],[]⟩)) _ _ _
 refine wB (wpAny_rule ?_)
 refine wB ?_
 show wpAny _ A.in1 (updateSeq S (·.push .none) >>=fun _=>updateSeq S (·.pop)) _ _ _
 refine wB (wpAny_updateSeq hS rfl ?_)
 have hS₂:=Heap.get?_update_self (Obj.mapSeq (·.push Value.none)) hS rfl
 refine wpAny_updateSeq (hz:=by seq_fits) hS₂ rfl ?_
 have hS₃:=Heap.get?_update_self (Obj.mapSeq (·.pop)) hS₂ rfl
 have oth:∀b o,b≠S→s.heap.get? b=some o→((s.heap.update S (Obj.mapSeq (·.push Value.none))).update S (Obj.mapSeq (·.pop))).get? b=some o:=
  fun b o hb e=>(Heap.get?_update_other _ _ (Ne.symm hb)).trans ((Heap.get?_update_other _ _ (Ne.symm hb)).trans e)
 refine wP ⟨plainId_quiet PySem.F.plain_extend_loop _,loop (t:=t) (h₁:=s.heap) hh (Nat.ne_of_lt hSe) (Nat.ne_of_lt hSi) hne S (Nat.le_of_lt hSe) (Nat.le_of_lt hSi) (Nat.le_refl _) hn res hR b.size 0 _ _ _ #[] [] rfl (Nat.zero_le _) ⟨?_,.inl ⟨rfl,.none,oth _ _ (Nat.ne_of_lt hSe) he⟩⟩ (fun b o h1 _ _ e=>oth b o h1 e) hS₃ rfl rfl ⟨(fun _ ha=>nomatch ha),(fun j a hj=>by simp at hj)⟩ (Heap.lt_size hS₃)⟩
 (refine aJ hit fun o ho r=>?_;try clear hit)
 exact ⟨o,oth _ _ (Nat.ne_of_lt hSi) ho,r⟩
theorem call_list {Q:Value→Shared→Prop} (hh:A.handled=none) (he:IsEnum s.heap e it 0 .none) (hit:KBw.IsBytesIter s.heap it b t 0) (hne:e≠it) (hn:b.size≤sizeLine)
  (hQ:∀h' tk acc c as,(∀b o,b≠e→b≠it→s.heap.get? b=some o→h'.get? b=some o)→h'.get? s.heap.objs.size=some { cls:= .type "list",dict:=none,data:= .seq acc c,slots:= #[] }→as.length=b.size→Prs b s.heap.objs.size h' as→
   acc.toList=as.map Value.ref→Q (.ref s.heap.objs.size) { s with heap:=h',toks:=tk }):
  wpAny (model prog w) A (call (.type "list") [.ref e]) Q E s:=by
 refine callType_codes (Q₁:=fun obj s₁=>obj= .ref s.heap.objs.size∧s₁={ s with heap:=s.heap.push { cls:= .type "list",data:= .seq #[] } }) PySem.F.called_list (PySem.F.typeCall_list_1 _) PySem.F.entry_list_init
  (code_list_new _ ⟨rfl,rfl⟩) fun obj s₁ h₁=>?_
 obtain ⟨rfl,rfl⟩:=h₁
 have hS:(s.heap.push { cls:= .type "list",data:= .seq #[] }).get? s.heap.objs.size=some { cls:= .type "list",data:= .seq #[] }:=Heap.get?_push_size _ rfl
 have hel:e < s.heap.objs.size:=Heap.lt_size he
 have hil:it < s.heap.objs.size:=let ⟨_,ho,_⟩:=hit;Heap.lt_size ho
 refine ⟨⟨_,hS,rfl⟩,PySem.F.args_list_init_2 _ _,?_⟩
 show wpAny _ _ (do let old ←Builtin.List.listItems (.ref s.heap.objs.size);Builtin.List.listUpdate (.ref s.heap.objs.size) (fun _=> #[]);letGo old.toList.reverse;Builtin.List.listExtendWith (.ref s.heap.objs.size) (.ref e) .none) _ _ _
 refine wB ?_
 unfold Builtin.List.listItems
 refine wB (wpAny_seqItems hS rfl (wP ?_))
 show wpAny _ _ (updateSeq s.heap.objs.size (fun _=> #[]) >>=fun _=>letGo (#[]:Array Value).toList.reverse >>=fun _=>Builtin.List.listExtendWith (.ref s.heap.objs.size) (.ref e) .none) _ _ _
 refine wB (wpAny_updateSeq hS rfl ?_)
 have hS₂:=Heap.get?_update_self (Obj.mapSeq (fun _=>(#[]:Array Value))) hS rfl
 have oth:∀b o,b≠s.heap.objs.size→(s.heap.push { cls:= .type "list",data:= .seq #[] }).get? b=some o→((s.heap.push { cls:= .type "list",data:= .seq #[] }).update s.heap.objs.size (Obj.mapSeq (fun _=>(#[]:Array Value)))).get? b=some o:=
  fun b o hb e=>(Heap.get?_update_other _ _ (Ne.symm hb)).trans e
 refine wB (wpAny_letGo ?_)
 refine extend (A:=A.in1) (b:=b) (t:=t) hh (oth _ _ (Nat.ne_of_lt hel) (Heap.get?_push_of_some _ he)) (let ⟨o,ho,r⟩:=hit;⟨o,oth _ _ (Nat.ne_of_lt hil) (Heap.get?_push_of_some _ ho),r⟩) hel hil hne hn .none hS₂ fun h' tk acc c as hk hS' hl hG hacc=>?_
 exact ⟨rfl,hQ h' tk acc c as (fun b o h1 h2 e=>hk b o (Nat.ne_of_lt (Heap.lt_size e)) h1 h2 (oth b o (Nat.ne_of_lt (Heap.lt_size e)) (Heap.get?_push_of_some _ e))) hS' hl hG hacc⟩
set_option maxHeartbeats 1000000 in
theorem aEg (b:Array UInt8) (t:Tok):
  Meets (Builtin.«enumerate.__new__» ⟨[.type "enumerate",.bytes b t],[]⟩) (fun _ R s=>
   R (.ok (.ret (.ref (s.heap.push { cls:= .type "bytes_iterator",data:= .fields #[.bytes b t,.int 0 0] }).objs.size)))
    { s with heap:=(s.heap.push { cls:= .type "bytes_iterator",data:= .fields #[.bytes b t,.int 0 0] }).push { cls:= .type "enumerate",data:= .fields #[.none,.bool false,.ref s.heap.objs.size,rawInt 0,.none,.none] } }):=
 .of_wp fun prog w A R s h=>by
  obtain ⟨hp,g,d,tk,os⟩:=s
  have hsub:=sub_enumerate
  wp_walk
  refine wpAny_stack_any fun st=>wP ?_
  generalize (@PySem.Builtin.SmallTypes.calledThroughType.match_1 (fun _=>Bool) (List.drop 1 st) _ _)=b0
  cases b0 <;> (wp_walk using KBw.pyIter_bytes;exact ⟨_,rfl,h⟩)
theorem call_enum {Q:Value→Shared→Prop}
  (h:∀h',IsEnum h' (s.heap.objs.size+1) s.heap.objs.size 0 .none→KBw.IsBytesIter h' s.heap.objs.size b t 0→h'.objs.size=s.heap.objs.size+2→
   (∀b o,s.heap.get? b=some o→h'.get? b=some o)→Q (.ref (s.heap.objs.size+1)) { s with heap:=h' }):
  wpAny (model prog w) A (call (.type "enumerate") [.bytes b t]) Q E s:=by
 refine callType_new PySem.F.called_enumerate (by decide) (PySem.F.typeCall_enumerate_1 _) (PySem.F.newCall_enumerate_1 _) (fun obj=>PySem.F.args_object_init_2 obj _) PySem.F.entry_enumerate_new
  (aEg b t) ?_
 have hz:(s.heap.push { cls:= .type "bytes_iterator",data:= .fields #[.bytes b t,.int 0 0] }).objs.size=s.heap.objs.size+1:=Heap.size_push ..
 show _∧_
 rw [hz]
 have he:IsEnum ((s.heap.push { cls:= .type "bytes_iterator",data:= .fields #[.bytes b t,.int 0 0] }).push
   { cls:= .type "enumerate",data:= .fields #[.none,.bool false,.ref s.heap.objs.size,rawInt 0,.none,.none] }) (s.heap.objs.size+1) s.heap.objs.size 0 .none:=by
  have:=Heap.get?_push_size (s.heap.push { cls:= .type "bytes_iterator",data:= .fields #[.bytes b t,.int 0 0] })
   (o:={ cls:= .type "enumerate",data:= .fields #[.none,.bool false,.ref s.heap.objs.size,rawInt 0,.none,.none] }) rfl
  rw [hz] at this;exact this
 refine ⟨⟨_,he,rfl⟩,h _ he ⟨_,Heap.get?_push_of_some _ (Heap.get?_push_size _ rfl),rfl,rfl⟩ (by rw [Heap.size_push,hz]) fun b o y=>Heap.get?_push_of_some _ (Heap.get?_push_of_some _ y)⟩
end
end EN
section
variable {C:Cx} {hd:Bool} {n:Nat} {sc:SC} {A:Around} {env:Env} {G:Gh} {σ:St} {s:Shared} {Q E:Value→Shared→Prop}
noncomputable def dT (l:List Int):List MV:=l.zipIdx.map fun p=> .tup [.int p.2,.int p.1]
noncomputable def xQ (l:List MV):Option MV:=l1 l fun x=>oB x fun l=>if cC l.length then some (.lst (dT l)) else none
theorem aAb {l:List MV} {y:MV} (e:xQ l=some y):∃k,l= [.bytes k]∧k.length≤1000000∧y= .lst (dT k):=by
 exact aQj e fun x e=>aRx (P:=fun x=>∃k,[x]= [MV.bytes k]∧k.length≤1000000∧y= .lst (dT k)) e fun k e=>dG e fun hz e=>⟨k,rfl,bN.mp hz,(sJ e).symm⟩
theorem nO (i j:Nat) {z z':Str} {p p' pos pos':Pos} {es:List Expr} {fs:List (M MV)} (B:cH C) (hz:sc.gs[i]?=some z) (hm:C.mg z=none) (hv:C.mb z=some (.type "list")) (hdb:(z==("__debug__":Str))=false)
  (hz':sc.gs[j]?=some z') (hm':C.mg z'=none) (hv':C.mb z'=some (.type "enumerate")) (hdb':(z'==("__debug__":Str))=false) (he:dD C true n sc es fs)
  (hst:autoParam (∀env,backTo pos (starEach [.Call (.Name z' p') es [] pos'] env)= [(false,eval (.Call (.Name z' p') es [] pos') env)]) dL._auto_1):
  aV C true n sc (.Call (.Name z p) [.Call (.Name z' p') es [] pos'] [] pos) (M.bind (M.ne (aO fs)) fun l=>M.lift (xQ l)):=by
 intro A env G σ s hA I r σ' er
 focus (refine elrEAoEEA (M.bind_some er) (fun k e1 r_1=>?_) fun l σ₁ e1 e2=>?_;obtain rfl:=r_1;rotate_left;rotate_left)
 ·exact (M.ne_exc e1).elim
 refine aJ (M.ne_some e1) fun l' q e1=>?_
 (obtain rfl:=eU q)
 (refine bG (M.lift_some e2) fun y e3 e_4 e_5=>?_;obtain rfl:=e_4;obtain rfl:=e_5)
 (refine bG (aAb e3) fun k e_2 hk e_3=>?_;obtain rfl:=e_2;obtain rfl:=e_3)
 refine wpAny_Call_Name_kw (gC B I (I.ok.globs i z hz) hm hv hdb ?_)
 show wpAny _ A (callWith pos (.type "list") [] (backTo pos (starEach [.Call (.Name z' p') es [] pos'] env)) []) _ _ s
 rw [hst]
 refine callWith_of (P:=fun _=>True) rfl (fun h _=>⟨.machine,.inr (.inl rfl),.now⟩) (evalArgs_plain ?_)
 rw [spliced]
 refine wB ?_
 refine wpAny_Call_Name_kw (gC B I (I.ok.globs j z' hz') hm' hv' hdb' ?_)
 refine jX (by rfl) he hA I e1 fun vs G' s' st I' rl=>?_
 cases rl with|cons hx t=>?_
 refine aK.nil_e t ?_
 cases hx with|bytes b t=>?_
 refine EN.call_enum fun h' hE hI hsz hkp=>?_
 refine wB (wP (wB (wpAny_holding ?_)))
 rw [spliced]
 refine wP (wP ⟨trivial,?_⟩)
 show wpAny _ A (call (.type "list") [.ref (s'.heap.objs.size+1)] []) _ _ _
 refine EN.call_list (b:=b) (t:=t) (hA.handled rfl) hE hI (by simp) (by rw [KBw.ints_length] at hk;show _≤16777216;lia) fun h'' tk acc c as hkk hS hl hP hacc=>?_
 have lt:∀b o,s'.heap.get? b=some o→b < s'.heap.objs.size:=fun b o e=>Heap.lt_size e
 have X:Ext s' { s' with heap:=h'',toks:=tk }:=⟨fun b o e=>hkk b o (fun q=>by have:=lt b o e;rw [q] at this;exact absurd this (by simp)) (fun q=>by have:=lt b o e;rw [q] at this;exact absurd this (by simp)) (hkp b o e),rfl,rfl⟩
 have nW:∀a,s'.heap.objs.size≤a→¬G'.W a:=fun a h=>I'.fresh_notW (Heap.get?_none_of_le h)
 have hsz':h'.objs.size=s'.heap.objs.size+2:=hsz
 refine ⟨_,G',rfl,st.trans (X.step G'),I'.ext X,.lst (vs:=as.map Value.ref) ⟨_,hS,rfl,c,by rw [←hacc]⟩ (nW _ (by show _≤h'.objs.size;rw [hsz'];lia)) (aK.mk' ?_ fun j x v hx hv=>?_)⟩
 ·rw [length_map,hl];simp [dT,KBw.bInts]
 ·rw [getElem?_map] at hv
  (refine aJ (map_eq_some_iff.mp hv) fun a ha e_1=>?_;obtain rfl:=e_1)
  refine iD (hP.pairs j a ha) fun c' t1 t2 q1 q2=>?_
  have hab:=hP.above a (mem_of_getElem? ha)
  have hab':h'.objs.size < a:=hab
  have q3:(bInts b)[j]?=some (c'.toNat:Int):=KBw.ints_get q1
  have hx':x= .tup [.int j,.int (c'.toNat:Int)]:=by
   unfold dT at hx
   rw [getElem?_map,List.getElem?_zipIdx,q3] at hx
   simp at hx
   exact hx.symm
  subst hx'
  exact .tup (vs:= [.int j t1,.int (c'.toNat:Int) t2]) ⟨_,q2,rfl,_,rfl⟩ (nW _ (by lia)) (.cons (.int _ _) (.cons (.int _ _) .nil))
end
end Mine
end
section
open PySem PySem.W PyProof.Rows PySem.SeqAt PySem.Calls
set_option maxRecDepth 10000
set_option tactic.hygienic false
namespace Mine
section
variable {C:Cx} {hd:Bool} {n:Nat} {sc:SC} {A:Around} {env:Env} {G:Gh} {σ:St} {s:Shared} {Q E:Value→Shared→Prop}
theorem aAc {pos:Pos} {body:List Stmt} {h₀:ExceptHandler} {hs:List ExceptHandler} {f:M Fl} (hb:bQ C hd n sc body f):fK C hd n sc (.Try body (h₀::hs) [] [] pos) (M.ne f):=by
 intro A env G σ s hA I r σ' e
 (refine aJ (M.ne_some e) fun fl e_2 e0=>?_;obtain rfl:=e_2)
 refine wpAny_Try_except (wpAny_mono (hb A env G σ s hA I _ _ e0) (fun fw s' h=>?_) fun x s' h=>?_)
 ·(refine bG (trq h) fun G' st I' p=>?_)
  cases p with
  | next=>exact wpAny_execs_nil ⟨_,G',rfl,st,I',.next⟩
  | brk=>exact ⟨_,G',rfl,st,I',.brk⟩
  | cont=>exact ⟨_,G',rfl,st,I',.cont⟩
  | ret rv=>exact ⟨_,G',rfl,st,I',.ret rv⟩
 ·exact (fI h).elim
theorem oP (i:Nat) {z:Str} {pos:Pos} {x:Int} (B:cH C) (hz:sc.gs[i]?=some z) (hv:∃t,C.mg z=some (.int x t)) (hdb:(z==("__debug__":Str))=false):aV C hd n sc (.Name z pos) (M.pure (.int x)):=
 let ⟨_,h⟩:=hv;wM i B hz h (fun _ _=> .int _ _) hdb
theorem rD (x:Nat) {z:Str} {p pos:Pos} {elt:Expr} {gs:List Comprehension} {scope:Scope} {cp:Pos} {f:M MV} (h:aV C hd n sc (.ListComp elt gs scope cp) f) (hz:autoParam (nm x=z) aX._auto_1) (hk:autoParam (sc.lookup x=some .cell) aX._auto_1):
  fK C hd n sc (.Assign [.Name z p] (.ListComp elt gs scope cp) pos) (M.bind f fun y=>M.bind (bE x y) fun _=>M.pure .next):=by
 subst hz
 intro A env G σ s hA I
 rw [PySem.exec_Assign_Name (hs:=by
  unfold swapsWith
  have hk':=I.ok.kinds x _ hk (by decide)
  simp only [hk']
  rw [show (some NameKind.cell==some NameKind.local)=false from rfl]
  simp)]
 refine Tr.stand (Tr.bind (h A env G σ s hA I) fun y v G' σ' s' st I' q=>Tr.stand ?_)
 exact Tr.then_pure (eM I' (by rw [hk];rfl) q) fun _ _=> .next
noncomputable def kK:List Int:= [65,66,67,68,69,70,71,72,73,74,75,76,77,78,79,80,81,82,83,84,85,86,87,88,89,90,97,98,99,100,101,102,103,104,105,106,107,108,109,110,111,112,113,114,115,116,117,118,119,120,121,122,48,49,50,51,52,53,54,55,56,57,43,47]
theorem oQ (i:Nat) {z:Str} {pos:Pos} {l:List Int} (B:cH C) (hz:sc.gs[i]?=some z) (hv:∃b t,C.mg z=some (.bytes b t)∧bInts b=l) (hdb:(z==("__debug__":Str))=false):aV C hd n sc (.Name z pos) (M.pure (.bytes l)):=by
 (refine cJ hv fun b t h e_1=>?_;try clear hv;obtain rfl:=e_1)
 exact wM i B hz h (fun _ _=> .bytes _ _) hdb
theorem aAd (i:Nat) {z:Str} {pos:Pos} {T U:String} (B:cH C) (hz:sc.gs[i]?=some z) (hv:∃a,C.mg z=some (.ref a)∧C.h₀.IsTuple a #[.type T,.type U]) (hdb:(z==("__debug__":Str))=false):aV C hd n sc (.Name z pos) (M.pure (.tup [.ty T,.ty U])):=
 let ⟨_,h,h'⟩:=hv;aEb i B hz h h' hdb
end
noncomputable def aW:Stmt→List Stmt
 | .FunctionDef _ _ b _ _ _ _ _ _ _=>b
 | .ClassDef _ _ _ b _ _ _ _ _ _ _=>b
 | _=> []
noncomputable abbrev dC:Stmt→List Stmt:=aW
noncomputable def bI (i:Nat):Stmt:=PySem.Challenge.pw_pa0063_01.main.body.getD i (.Pass default)
noncomputable def aU (n:Nat) (args kws:List MV):Option (List MV):=if Nat.beq args.length n && kws.isEmpty then some args else none
noncomputable def aAe (n:Nat) (args kws:List MV):Option (List MV):=if Nat.beq args.length n && Nat.beq kws.length 1 then some (args++kws) else none
noncomputable def mT (args kws:List MV):Option (List MV):=if Nat.beq args.length 1 && kws.isEmpty then some (args++ [.none]) else none
noncomputable def xR (args kws:List MV):Option (List MV):=if Nat.beq args.length 1 && Nat.beq kws.length 1 then some (args++ [.none]++kws) else none
noncomputable def mG (n:Nat) (args kws:List MV):Option (List MV):=if Nat.ble n args.length && kws.isEmpty && Nat.ble args.length (n+8) then some (args.take n++ [.tup (args.drop n)]) else none
noncomputable def cR (C:Cx) (a:Addr) (body:List Stmt) (sc:SC) (ps:List Nat) (zs:List Str) (pm:List MV→List MV→Option (List MV)):Prop:=
 ∃fd,FnD C a fd body∧yV sc fd.scope ps∧mB C fd zs ps pm
end Mine
end
section
open PySem PySem.W PyProof.Rows PySem.SeqAt
set_option maxRecDepth 10000
set_option tactic.hygienic false
namespace Mine
noncomputable abbrev aSt:SC:=⟨[(58,.local)],["isinstance","str","UnicodeEncodeError","ValueError","bytes_types","memoryview","TypeError"],false⟩
noncomputable abbrev aSu:List Nat:= [58]
noncomputable abbrev aNv:SC:=⟨[(13,.local),(72,.local)],["type","str","ValueError","bytes","bytearray","_wall"],false⟩
noncomputable abbrev aNw:List Nat:= [13]
noncomputable abbrev aNx:SC:=⟨[(13,.local),(72,.local)],["type","bytes","bytearray","_wall"],false⟩
noncomputable abbrev aNy:List Nat:= [13]
noncomputable abbrev aNz:SC:=⟨[(84,.local),(72,.local)],["type","bool","int","float","complex","str","bytes","bytearray","list","tuple","dict","set","frozenset","range","_wall"],false⟩
noncomputable abbrev aOa:List Nat:= [84]
noncomputable abbrev aOb:SC:=⟨[(8,.local)],[],false⟩
noncomputable abbrev aOc:List Nat:= [8]
noncomputable abbrev aOd:SC:=⟨[(13,.local),(69,.local),(4,.local),(42,.local),(54,.local),(29,.local),(44,.local),(23,.local),(75,.local)],["_ascii_buffer","_truth","Error","_b64_value","len","bytes"],false⟩
noncomputable abbrev aOe:List Nat:= [13,69]
noncomputable abbrev aOf:SC:=⟨[(13,.local),(33,.local),(7,.local),(42,.local),(28,.local),(29,.local),(6,.local)],["_buffer","_truth","_B64","bytes"],false⟩
noncomputable abbrev aOg:List Nat:= [13,33]
noncomputable abbrev aOh:SC:=⟨[(58,.local),(3,.local),(15,.local)],["b2a_base64","len","repr","bytes"],false⟩
noncomputable abbrev aOi:List Nat:= [58,3]
noncomputable abbrev aOj:SC:=⟨[(58,.local),(3,.local),(80,.local)],["_bytes_from_decode_data","len","repr","bytes","a2b_base64"],false⟩
noncomputable abbrev aOk:List Nat:= [58,3,80]
noncomputable abbrev aOl:SC:=⟨[(16,.local),(1,.local),(23,.local),(26,.local),(30,.local),(78,.local),(14,.local),(0,.local)],["IndexError"],false⟩
noncomputable abbrev aOm:List Nat:= [16,1]
noncomputable abbrev aOn:SC:=⟨[(16,.local),(1,.local),(30,.local),(24,.local)],["ValueError"],false⟩
noncomputable abbrev aOo:List Nat:= [16,1]
noncomputable abbrev aOp:SC:=⟨[(38,.local),(57,.local),(79,.local),(56,.local),(5,.local)],[],false⟩
noncomputable abbrev aOq:List Nat:= [38]
noncomputable abbrev aOr:SC:=⟨[(56,.local),(81,.cell),(39,.local)],["range"],false⟩
noncomputable abbrev aLi:SC:=⟨[(27,.local),(81,.free)],[],false⟩
noncomputable abbrev aOs:List Nat:= [56]
noncomputable abbrev aOt:SC:=⟨[(18,.local),(81,.cell),(17,.local)],["bytes","range"],false⟩
noncomputable abbrev aLj:SC:=⟨[(27,.local),(81,.free)],[],false⟩
noncomputable abbrev aOu:List Nat:= [18]
noncomputable abbrev aOv:SC:=⟨[(18,.local),(2,.cell)],["bytes"],false⟩
noncomputable abbrev aLk:SC:=⟨[(17,.local),(2,.free)],[],false⟩
noncomputable abbrev aOw:List Nat:= [18]
noncomputable abbrev aOx:SC:=⟨[(48,.cell)],["range","len"],false⟩
noncomputable abbrev aLl:SC:=⟨[(53,.cell),(48,.free)],[],false⟩
noncomputable abbrev aLm:SC:=⟨[(27,.cell),(53,.free),(48,.free)],["len","range"],false⟩
noncomputable abbrev aLn:SC:=⟨[(43,.local),(27,.free),(48,.free)],[],false⟩
noncomputable abbrev aOy:List Nat:= [48]
noncomputable abbrev aOz:SC:=⟨[(48,.cell),(76,.cell),(21,.cell),(9,.cell)],["range","len"],false⟩
noncomputable abbrev aLo:SC:=⟨[(27,.cell),(21,.free),(48,.free)],["len"],false⟩
noncomputable abbrev aLp:SC:=⟨[(43,.local),(27,.free),(48,.free)],[],false⟩
noncomputable abbrev aLq:SC:=⟨[(53,.local),(21,.free),(76,.free),(9,.free)],[],false⟩
noncomputable abbrev aLr:SC:=⟨[(27,.local),(11,.local),(9,.free)],[],false⟩
noncomputable abbrev aPa:List Nat:= [48,76,21]
noncomputable abbrev aHb:SC:=⟨[(62,.local),(34,.local)],[],false⟩
noncomputable abbrev aHc:List Nat:= [62,34]
noncomputable abbrev aHd:SC:=⟨[(62,.local),(22,.local),(34,.local),(52,.local)],[],false⟩
noncomputable abbrev aHe:List Nat:= [62,22]
noncomputable abbrev aHf:SC:=⟨[(62,.local),(34,.local),(55,.local)],["_NodeInfo"],false⟩
noncomputable abbrev aHg:List Nat:= [62,34]
noncomputable abbrev aHh:SC:=⟨[(62,.local),(34,.local),(52,.local),(36,.local),(50,.local),(51,.local)],["ValueError","len"],false⟩
noncomputable abbrev aHi:List Nat:= [62,34,52]
noncomputable abbrev aHj:SC:=⟨[(62,.local),(32,.local),(65,.local),(25,.local),(61,.local),(35,.local),(34,.local)],["set","iter","len","StopIteration"],false⟩
noncomputable abbrev aHk:List Nat:= [62]
noncomputable abbrev aHl:SC:=⟨[(62,.local),(12,.local)],["ValueError","CycleError"],false⟩
noncomputable abbrev aHm:SC:=⟨[(23,.local)],[],false⟩
noncomputable abbrev aHn:List Nat:= [62]
noncomputable abbrev aHo:SC:=⟨[(62,.local),(55,.local),(32,.local),(34,.local)],["ValueError","tuple","_NODE_OUT","len"],false⟩
noncomputable abbrev aHp:List Nat:= [62]
noncomputable abbrev aHq:SC:=⟨[(62,.local)],["ValueError","bool"],false⟩
noncomputable abbrev aHr:List Nat:= [62]
noncomputable abbrev aHs:SC:=⟨[(62,.local),(37,.local),(32,.local),(34,.local),(36,.local),(67,.local),(70,.local),(71,.local)],["ValueError","_NODE_OUT","_NODE_DONE"],false⟩
noncomputable abbrev aHt:List Nat:= [62,37]
noncomputable abbrev aPb:SC:=⟨[(48,.cell),(77,.local),(49,.local),(76,.local),(53,.cell),(21,.local),(82,.local),(68,.local),(46,.local)],["TopologicalSorter","_law_tickets","range","len","unorderable_list_difference","list","_law_called"],false⟩
noncomputable abbrev aLs:SC:=⟨[(43,.local),(48,.free),(53,.free)],[],false⟩
noncomputable abbrev aLt:SC:=⟨[(27,.local),(48,.free),(53,.free)],[],false⟩
noncomputable abbrev aPc:List Nat:= [48,77]
noncomputable abbrev aPd:SC:=⟨[(73,.local),(64,.local),(27,.local),(63,.local)],["bytes"],false⟩
noncomputable abbrev aPe:List Nat:= [73,64]
noncomputable abbrev aPf:SC:=⟨[(73,.local),(66,.cell),(48,.cell),(21,.cell),(31,.local),(40,.local)],["range","_law_octets","b64encode","b64decode"],false⟩
noncomputable abbrev aLu:SC:=⟨[(27,.cell),(66,.free),(21,.free),(48,.free)],["max"],false⟩
noncomputable abbrev aLv:SC:=⟨[(43,.local),(27,.free),(48,.free)],[],false⟩
noncomputable abbrev aPg:List Nat:= [73,66,48,21]
noncomputable abbrev aPh:SC:=⟨[(74,.local),(48,.local),(47,.local),(41,.cell),(20,.cell),(45,.local),(46,.local)],["zip","range","sorted_list_difference","list","enumerate"],false⟩
noncomputable abbrev aLw:SC:=⟨[(27,.local),(41,.free),(20,.free)],[],false⟩
noncomputable abbrev aLx:SC:=⟨[(27,.local),(20,.free)],[],false⟩
noncomputable abbrev aLy:SC:=⟨[(27,.local),(41,.free)],[],false⟩
noncomputable abbrev aPi:List Nat:= [74]
noncomputable abbrev aPj:SC:=⟨[(73,.local),(66,.local),(48,.local),(47,.local),(83,.local),(68,.local)],["range","len","_law_put","_law_stands"],false⟩
noncomputable abbrev aPk:List Nat:= [73,66,48,47,83]
noncomputable abbrev aPl:SC:=⟨[(73,.local),(66,.local),(48,.local),(47,.local),(83,.local),(68,.local)],["range","len","_law_put","_law_stands"],false⟩
noncomputable abbrev aPm:List Nat:= [73,66,48,47,83]
noncomputable abbrev aPn:SC:=⟨[(59,.local),(38,.local),(57,.local),(66,.local),(74,.local),(48,.local),(47,.local),(19,.local),(60,.local)],["_law_versions","_law_patches","_law_walk","sum","_law_there","_law_back"],false⟩
noncomputable abbrev aLz:SC:=⟨[(10,.local)],["int"],false⟩
noncomputable abbrev aMa:SC:=⟨[(56,.local)],["_law_figures"],false⟩
noncomputable abbrev aMb:SC:=⟨[(56,.local)],["b64encode","bytes"],false⟩
noncomputable abbrev aMc:SC:=⟨[(18,.local)],["_law_text"],false⟩
noncomputable abbrev aPo:List Nat:= [59]
structure Facts (C:Cx) (fa:Nat→Addr):Prop where
 x0:cH C
 x1:C.mg "IndexError"=none
 x2:C.mb "IndexError"=some (.type "IndexError")
 x3:C.mg "StopIteration"=none
 x4:C.mb "StopIteration"=some (.type "StopIteration")
 x5:C.mg "bool"=none
 x6:C.mb "bool"=some (.type "bool")
 x7:C.mg "bytearray"=none
 x8:C.mb "bytearray"=some (.type "bytearray")
 x9:C.mg "bytes"=none
 x10:C.mb "bytes"=some (.type "bytes")
 x11:C.mg "complex"=none
 x12:C.mb "complex"=some (.type "complex")
 x13:C.mg "dict"=none
 x14:C.mb "dict"=some (.type "dict")
 x15:C.mg "enumerate"=none
 x16:C.mb "enumerate"=some (.type "enumerate")
 x17:C.mg "float"=none
 x18:C.mb "float"=some (.type "float")
 x19:C.mg "frozenset"=none
 x20:C.mb "frozenset"=some (.type "frozenset")
 x21:C.mg "int"=none
 x22:C.mb "int"=some (.type "int")
 x23:C.mg "isinstance"=none
 x24:C.mb "isinstance"=some (.builtin "isinstance")
 x25:C.mg "iter"=none
 x26:C.mb "iter"=some (.builtin "iter")
 x27:C.mg "len"=none
 x28:C.mb "len"=some (.builtin "len")
 x29:C.mg "list"=none
 x30:C.mb "list"=some (.type "list")
 x31:C.mg "max"=none
 x32:C.mb "max"=some (.builtin "max")
 x33:C.mg "range"=none
 x34:C.mb "range"=some (.type "range")
 x35:C.mg "set"=none
 x36:C.mb "set"=some (.type "set")
 x37:C.mg "str"=none
 x38:C.mb "str"=some (.type "str")
 x39:C.mg "sum"=none
 x40:C.mb "sum"=some (.builtin "sum")
 x41:C.mg "tuple"=none
 x42:C.mb "tuple"=some (.type "tuple")
 x43:C.mg "type"=none
 x44:C.mb "type"=some (.type "type")
 x45:C.mg "zip"=none
 x46:C.mb "zip"=some (.type "zip")
 x47:C.mg "TopologicalSorter"=some (.ref (C.cls 0))
 x48:∃b t,C.mg "_B64"=some (.bytes b t)∧bInts b=kK
 x49:∃t,C.mg "_NODE_DONE"=some (.int (-2) t)
 x50:∃t,C.mg "_NODE_OUT"=some (.int (-1) t)
 x51:C.mg "_NodeInfo"=some (.ref (C.cls 1))
 x52:C.mg "_ascii_buffer"=some (.ref (fa 12))
 x53:C.mg "_b64_value"=some (.ref (fa 16))
 x54:C.mg "_buffer"=some (.ref (fa 13))
 x55:C.mg "_bytes_from_decode_data"=some (.ref (fa 9))
 x56:C.mg "_law_back"=some (.ref (fa 37))
 x57:C.mg "_law_called"=some (.ref (fa 31))
 x58:C.mg "_law_figures"=some (.ref (fa 27))
 x59:C.mg "_law_octets"=some (.ref (fa 28))
 x60:C.mg "_law_patches"=some (.ref (fa 35))
 x61:C.mg "_law_put"=some (.ref (fa 33))
 x62:C.mg "_law_stands"=some (.ref (fa 34))
 x63:C.mg "_law_text"=some (.ref (fa 29))
 x64:C.mg "_law_there"=some (.ref (fa 36))
 x65:C.mg "_law_tickets"=some (.ref (fa 30))
 x66:C.mg "_law_versions"=some (.ref (fa 26))
 x67:C.mg "_law_walk"=some (.ref (fa 32))
 x68:C.mg "_truth"=some (.ref (fa 14))
 x69:C.mg "a2b_base64"=some (.ref (fa 17))
 x70:C.mg "b2a_base64"=some (.ref (fa 18))
 x71:C.mg "b64decode"=some (.ref (fa 21))
 x72:C.mg "b64encode"=some (.ref (fa 20))
 x73:∃a,C.mg "bytes_types"=some (.ref a)∧C.h₀.IsTuple a #[.type "bytes",.type "bytearray"]
 x74:C.mg "sorted_list_difference"=some (.ref (fa 23))
 x75:C.mg "unorderable_list_difference"=some (.ref (fa 24))
 c0:gQ C 0
 c1:gQ C 1
 x76:kC C 0 "_node2info"
 x77:kC C 0 "_ready_nodes"
 x78:kC C 0 "_npassedout"
 x79:kC C 0 "_nfinished"
 x80:kD C 1 "node" 0
 x81:kD C 1 "npredecessors" 1
 x82:kD C 1 "successors" 2
 x83:jB C 0 "_get_nodeinfo" (fa 601)
 x84:jB C 0 "add" (fa 602)
 x85:jB C 0 "prepare" (fa 603)
 x86:jB C 0 "get_ready" (fa 604)
 x87:jB C 0 "is_active" (fa 605)
 x88:jB C 0 "done" (fa 607)
 x89:jB C 0 "_find_cycle" (fa 608)
 x90:uV C 0 "add" (fa 602)
 hd0:(clsIn C.K (C.cls 0)).any (·.hasDict)=true
 i0:rA C 0 (fa 600)
 i1:rA C 1 (fa 401)
 d_9:cR C (fa 9) (aW (bI 9)) aSt aSu [] (aU 1)
 x91:cR C (fa 12) (aW (bI 12)) aNv aNw [] (aU 1)
 x92:cR C (fa 13) (aW (bI 13)) aNx aNy [] (aU 1)
 x93:cR C (fa 14) (aW (bI 14)) aNz aOa [] (aU 1)
 x94:cR C (fa 16) (aW (bI 16)) aOb aOc [] (aU 1)
 x95:cR C (fa 17) (aW (bI 17)) aOd aOe ["strict_mode"] (aAe 1)
 x96:cR C (fa 18) (aW (bI 18)) aOf aOg ["newline"] (aAe 1)
 x97:cR C (fa 20) (aW (bI 20)) aOh aOi [] mT
 x98:cR C (fa 21) (aW (bI 21)) aOj aOk ["validate"] xR
 x99:cR C (fa 23) (aW (bI 23)) aOl aOm [] (aU 2)
 x100:cR C (fa 24) (aW (bI 24)) aOn aOo [] (aU 2)
 x101:cR C (fa 26) (aW (bI 26)) aOp aOq [] (aU 1)
 x102:cR C (fa 27) (aW (bI 27)) aOr aOs [] (aU 1)
 x103:cR C (fa 28) (aW (bI 28)) aOt aOu [] (aU 1)
 x104:cR C (fa 29) (aW (bI 29)) aOv aOw [] (aU 1)
 x105:cR C (fa 30) (aW (bI 30)) aOx aOy [] (aU 1)
 x106:cR C (fa 31) (aW (bI 31)) aOz aPa [] (aU 3)
 x107:cR C (fa 401) (aW ((dC (bI 4)).getD 1 (.Pass default))) aHb aHc [] (aU 2)
 x108:cR C (fa 600) (aW ((dC (bI 6)).getD 0 (.Pass default))) aHd aHe [] mT
 x109:cR C (fa 601) (aW ((dC (bI 6)).getD 1 (.Pass default))) aHf aHg [] (aU 2)
 x110:cR C (fa 602) (aW ((dC (bI 6)).getD 2 (.Pass default))) aHh aHi [] (mG 2)
 x111:cR C (fa 608) (aW ((dC (bI 6)).getD 8 (.Pass default))) aHj aHk [] (aU 1)
 x112:cR C (fa 603) (aW ((dC (bI 6)).getD 3 (.Pass default))) aHl aHn [] (aU 1)
 x113:cR C (fa 604) (aW ((dC (bI 6)).getD 4 (.Pass default))) aHo aHp [] (aU 1)
 x114:cR C (fa 605) (aW ((dC (bI 6)).getD 5 (.Pass default))) aHq aHr [] (aU 1)
 x115:cR C (fa 607) (aW ((dC (bI 6)).getD 7 (.Pass default))) aHs aHt [] (mG 1)
 x116:cR C (fa 32) (aW (bI 32)) aPb aPc [] (aU 2)
 x117:cR C (fa 33) (aW (bI 33)) aPd aPe [] (aU 2)
 x118:cR C (fa 34) (aW (bI 34)) aPf aPg [] (aU 4)
 x119:cR C (fa 35) (aW (bI 35)) aPh aPi [] (aU 1)
 x120:cR C (fa 36) (aW (bI 36)) aPj aPk [] (aU 5)
 x121:cR C (fa 37) (aW (bI 37)) aPl aPm [] (aU 5)
 x122:cR C (fa 38) (aW (bI 38)) aPn aPo [] (aU 1)
noncomputable def f_9:{f:M Fl // ∀{C:Cx} {fa:Nat→Addr} (F:Facts C fa),bQ C true 0 aSt (aW (bI 9)) f}:=⟨_,fun F=>
 (aC (aT (cO (bP 0 F.x0 rfl F.x23 F.x24 rfl aBj (.cons (fun _ _=>rfl) (aB 58) (.cons (fun _ _=>rfl) (dY 1 F.x0 rfl F.x37 F.x38 rfl) .nil)))) cB aN)
 (aC (aT (cO (bP 0 F.x0 rfl F.x23 F.x24 rfl aBj (.cons (fun _ _=>rfl) (aB 58) (.cons (fun _ _=>rfl) (aAd 4 F.x0 rfl F.x73 rfl) .nil))))
 (aE (aQ (aB 58))) aN)
 (aE dS)))⟩
noncomputable abbrev Φ_9 (args kws:List MV):Option MV:=((aU 1) args kws).bind fun xs=>eJ f_9.1 aSu xs
theorem aUn {C:Cx} {fa:Nat→Addr} (F:Facts C fa):cV C 1 (fa 9) [] Φ_9:=let ⟨_,h1,h2,h3⟩:=F.d_9;cI F.x0 h1 h2 h3 (f_9.2 F)
noncomputable def aSv:{f:M Fl // ∀{C:Cx} {fa:Nat→Addr} (F:Facts C fa),bQ C true 0 aNv (aW (bI 12)) f}:=⟨_,fun F=>
 (aC (aH 72 (bP 0 F.x0 rfl F.x43 F.x44 rfl qY (.cons (fun _ _=>rfl) (aB 13) .nil)))
 (aC (aT (aM (aB 72) (dY 1 F.x0 rfl F.x37 F.x38 rfl)) cB aN)
 (aC (aT (aM (aB 72) (dY 3 F.x0 rfl F.x9 F.x10 rfl))
 (aE (aQ (aB 13))) aN)
 (aC (aT (aM (aB 72) (dY 4 F.x0 rfl F.x7 F.x8 rfl)) cB aN)
 (aE dS)))))⟩
noncomputable abbrev Φ_12 (args kws:List MV):Option MV:=((aU 1) args kws).bind fun xs=>eJ aSv.1 aNw xs
theorem aSw {C:Cx} {fa:Nat→Addr} (F:Facts C fa):cV C 1 (fa 12) [] Φ_12:=let ⟨_,h1,h2,h3⟩:=F.x91;cI F.x0 h1 h2 h3 (aSv.2 F)
noncomputable def aSx:{f:M Fl // ∀{C:Cx} {fa:Nat→Addr} (F:Facts C fa),bQ C true 0 aNx (aW (bI 13)) f}:=⟨_,fun F=>
 (aC (aH 72 (bP 0 F.x0 rfl F.x43 F.x44 rfl qY (.cons (fun _ _=>rfl) (aB 13) .nil)))
 (aC (aT (aM (aB 72) (dY 1 F.x0 rfl F.x9 F.x10 rfl))
 (aE (aQ (aB 13))) aN)
 (aC (aT (aM (aB 72) (dY 2 F.x0 rfl F.x7 F.x8 rfl)) cB aN)
 (aE dS))))⟩
noncomputable abbrev Φ_13 (args kws:List MV):Option MV:=((aU 1) args kws).bind fun xs=>eJ aSx.1 aNy xs
theorem aSy {C:Cx} {fa:Nat→Addr} (F:Facts C fa):cV C 1 (fa 13) [] Φ_13:=let ⟨_,h1,h2,h3⟩:=F.x92;cI F.x0 h1 h2 h3 (aSx.2 F)
noncomputable def aSz:{f:M Fl // ∀{C:Cx} {fa:Nat→Addr} (F:Facts C fa),bQ C true 0 aNz (aW (bI 14)) f}:=⟨_,fun F=>
 (aC (aH 72 (bP 0 F.x0 rfl F.x43 F.x44 rfl qY (.cons (fun _ _=>rfl) (aB 84) .nil)))
 (aC (aT (gA (dN (aM (aB 84) aD) (dN (aM (aB 72) (dY 1 F.x0 rfl F.x5 F.x6 rfl)) (dN (aM (aB 72) (dY 2 F.x0 rfl F.x21 F.x22 rfl)) (dN (aM (aB 72) (dY 3 F.x0 rfl F.x17 F.x18 rfl)) (dN (aM (aB 72) (dY 4 F.x0 rfl F.x11 F.x12 rfl)) (dN (aM (aB 72) (dY 5 F.x0 rfl F.x37 F.x38 rfl)) (dN (aM (aB 72) (dY 6 F.x0 rfl F.x9 F.x10 rfl)) (dN (aM (aB 72) (dY 7 F.x0 rfl F.x7 F.x8 rfl)) (dN (aM (aB 72) (dY 8 F.x0 rfl F.x29 F.x30 rfl)) (dN (aM (aB 72) (dY 9 F.x0 rfl F.x41 F.x42 rfl)) (dN (aM (aB 72) (dY 10 F.x0 rfl F.x13 F.x14 rfl)) (dN (aM (aB 72) (dY 11 F.x0 rfl F.x35 F.x36 rfl)) (dN (aM (aB 72) (dY 12 F.x0 rfl F.x19 F.x20 rfl)) (dN (aM (aB 72) (dY 13 F.x0 rfl F.x33 F.x34 rfl)) iH)))))))))))))))
 (aE (aQ (sV (cO (aB 84)) aD aD))) aN)
 (aE dS)))⟩
noncomputable abbrev Φ_14 (args kws:List MV):Option MV:=((aU 1) args kws).bind fun xs=>eJ aSz.1 aOa xs
theorem aPp {C:Cx} {fa:Nat→Addr} (F:Facts C fa):cV C 1 (fa 14) [] Φ_14:=let ⟨_,h1,h2,h3⟩:=F.x93;cI F.x0 h1 h2 h3 (aSz.2 F)
noncomputable def aTa:{f:M Fl // ∀{C:Cx} {fa:Nat→Addr} (F:Facts C fa),bQ C true 0 aOb (aW (bI 16)) f}:=⟨_,fun F=>
 (aC (aT (oE aD (aB 8) aD)
 (aE (aQ (aR (aB 8) aD))) aN)
 (aC (aT (oE aD (aB 8) aD)
 (aE (aQ (aR (aB 8) aD))) aN)
 (aC (aT (oE aD (aB 8) aD)
 (aE (aQ (aR (aB 8) aD))) aN)
 (aC (aT (aM (aB 8) aD)
 (aE (aQ aD)) aN)
 (aC (aT (aM (aB 8) aD)
 (aE (aQ aD)) aN)
 (aE (aQ aD)))))))⟩
noncomputable abbrev Φ_16 (args kws:List MV):Option MV:=((aU 1) args kws).bind fun xs=>eJ aTa.1 aOc xs
theorem aTb {C:Cx} {fa:Nat→Addr} (F:Facts C fa):cV C 1 (fa 16) [] Φ_16:=let ⟨_,h1,h2,h3⟩:=F.x94;cI F.x0 h1 h2 h3 (aTa.2 F)
noncomputable def aMd:{f:M Fl // ∀{C:Cx} {fa:Nat→Addr} (F:Facts C fa),bQ C true 1 aOd (aW (bI 17)) f}:=⟨_,fun F=>
 (aC (aH 4 (bR 0 F.x0 rfl F.x52 rfl (aSw F) (bT rfl) (.cons (fun _ _=>rfl) (aB 13) .nil) .nil))
 (aC (aH 69 (bR 1 F.x0 rfl F.x68 rfl (aPp F) (bT rfl) (.cons (fun _ _=>rfl) (aB 69) .nil) .nil))
 (aC (aH 42 (cW .nil))
 (aC (aH 54 aD)
 (aC (aH 29 aD)
 (aC (aH 44 aD)
 (aC (aH 23 aD)
 (aC (cS (bX (aB 4)) (bC 75)
 (aC (aT (aM (aB 75) aD)
  (aC (aH 44 (aR (aB 44) aD))
  (aC (aT (gA (eV (aM (aB 54) aD) (eV (aM (aR (aB 54) (aB 44)) aD) iH)))
  (aC (aH 23 (aR (aB 23) aD))
  (aE gI)) aN)
  (aC (aT (kR (cO (aB 69)))
  (aC (aH 23 (aR (aB 23) aD))
  (aE gI)) aN)
  (aC (aT (aM (aB 54) aD)
  (aE jV) aN)
  (aC (aT (gA (eV (aM (aB 54) aD) (eV (aM (aB 23) aD) iH)))
  (aE dS) aN)
  (aE dS)))))) aN)
 (aC (aH 75 (bR 3 F.x0 rfl F.x53 rfl (aTb F) (bT rfl) (.cons (fun _ _=>rfl) (aB 75) .nil) .nil))
 (aC (aT (aM (aB 75) aD)
  (aC (aT (cO (aB 69))
  (aE dS) aN)
  (aC (aH 23 (aR (aB 23) aD))
  (aE gI))) aN)
 (aC (aT (gA (eV (cO (aB 44)) (eV (cO (aB 69)) iH)))
  (aC (aT (aM (aR (aB 54) (aB 44)) aD)
  (aE dS) aN)
  (aE dS)) aN)
 (aC (aH 44 aD)
 (aC (aT (aM (aB 54) aD)
  (aC (aH 54 aD)
  (aE (aH 29 (aB 75))))
  (aE (aT (aM (aB 54) aD)
  (aC (aH 54 aD)
  (aC (bF (bO (aB 42) (.cons (fun _ _=>rfl) (aR (aR (aB 29) aD) (aR (aB 75) aD)) .nil)))
  (aE (aH 29 (aR (aB 75) aD)))))
  (aE (aT (aM (aB 54) aD)
   (aC (aH 54 aD)
   (aC (bF (bO (aB 42) (.cons (fun _ _=>rfl) (aR (aR (aB 29) aD) (aR (aB 75) aD)) .nil)))
   (aE (aH 29 (aR (aB 75) aD)))))
   (aC (aH 54 aD)
   (aC (bF (bO (aB 42) (.cons (fun _ _=>rfl) (aR (aR (aB 29) aD) (aB 75)) .nil)))
   (aE (aH 29 aD)))))))))
 (aE (aH 23 (aR (aB 23) aD))))))))))
 (aC (aT (aM (aB 54) aD)
 (aE dS) aN)
 (aC (aT (gA (eV (aM (aB 54) aD) (eV (aM (aR (aB 54) (aB 44)) aD) iH)))
 (aE dS) aN)
 (aE (aQ (bP 5 F.x0 rfl F.x9 F.x10 rfl iA (.cons (fun _ _=>rfl) (aB 42) .nil))))))))))))))⟩
noncomputable abbrev Φ_17 (args kws:List MV):Option MV:=((aAe 1) args kws).bind fun xs=>eJ aMd.1 aOe xs
theorem aTc {C:Cx} {fa:Nat→Addr} (F:Facts C fa):cV C 2 (fa 17) ["strict_mode"] Φ_17:=let ⟨_,h1,h2,h3⟩:=F.x95;cI F.x0 h1 h2 h3 (aMd.2 F)
noncomputable def aMe:{f:M Fl // ∀{C:Cx} {fa:Nat→Addr} (F:Facts C fa),bQ C true 1 aOf (aW (bI 18)) f}:=⟨_,fun F=>
 (aC (aH 7 (bR 0 F.x0 rfl F.x54 rfl (aSy F) (bT rfl) (.cons (fun _ _=>rfl) (aB 13) .nil) .nil))
 (aC (aH 33 (bR 1 F.x0 rfl F.x68 rfl (aPp F) (bT rfl) (.cons (fun _ _=>rfl) (aB 33) .nil) .nil))
 (aC (aH 42 (cW .nil))
 (aC (aH 28 aD)
 (aC (aH 29 aD)
 (aC (cS (bX (aB 7)) (bC 6)
 (aC (aH 29 (aR (aR (aR (aB 29) aD) (aB 6)) aD))
 (aC (aH 28 (aR (aB 28) aD))
 (aE (dK 1000 (aM (aB 28) aD)
  (aC (bF (bO (aB 42) (.cons (fun _ _=>rfl) (bH (oQ 2 F.x0 rfl F.x48 rfl) (aR (aR (aB 29) (aR (aB 28) aD)) aD)) .nil)))
  (aE (aH 28 (aR (aB 28) aD)))) aN)))))
 (aC (aT (aM (aB 28) aD)
 (aC (bF (bO (aB 42) (.cons (fun _ _=>rfl) (bH (oQ 2 F.x0 rfl F.x48 rfl) (aR (aR (aB 29) aD) aD)) .nil)))
 (aC (bF (bO (aB 42) (.cons (fun _ _=>rfl) aD .nil)))
 (aE (bF (bO (aB 42) (.cons (fun _ _=>rfl) aD .nil))))))
 (aE (aT (aM (aB 28) aD)
  (aC (bF (bO (aB 42) (.cons (fun _ _=>rfl) (bH (oQ 2 F.x0 rfl F.x48 rfl) (aR (aR (aB 29) aD) aD)) .nil)))
  (aE (bF (bO (aB 42) (.cons (fun _ _=>rfl) aD .nil))))) aN)))
 (aC (aT (cO (aB 33))
 (aE (bF (bO (aB 42) (.cons (fun _ _=>rfl) aD .nil)))) aN)
 (aE (aQ (bP 3 F.x0 rfl F.x9 F.x10 rfl iA (.cons (fun _ _=>rfl) (aB 42) .nil))))))))))))⟩
noncomputable abbrev Φ_18 (args kws:List MV):Option MV:=((aAe 1) args kws).bind fun xs=>eJ aMe.1 aOg xs
theorem aTd {C:Cx} {fa:Nat→Addr} (F:Facts C fa):cV C 2 (fa 18) ["newline"] Φ_18:=let ⟨_,h1,h2,h3⟩:=F.x96;cI F.x0 h1 h2 h3 (aMe.2 F)
noncomputable def aMf:{f:M Fl // ∀{C:Cx} {fa:Nat→Addr} (F:Facts C fa),bQ C true 2 aOh (aW (bI 20)) f}:=⟨_,fun F=>
 (aC (aH 15 (bR 0 F.x0 rfl F.x70 rfl (aTd F) (bT rfl) (.cons (fun _ _=>rfl) (aB 58) .nil) (.cons aD .nil)))
 (aC (aT (aM (aB 3) aD) cB aN)
 (aE (aQ (aB 15)))))⟩
noncomputable abbrev Φ_20 (args kws:List MV):Option MV:=(mT args kws).bind fun xs=>eJ aMf.1 aOi xs
theorem aPq {C:Cx} {fa:Nat→Addr} (F:Facts C fa):cV C 3 (fa 20) [] Φ_20:=let ⟨_,h1,h2,h3⟩:=F.x97;cI F.x0 h1 h2 h3 (aMf.2 F)
noncomputable def aMg:{f:M Fl // ∀{C:Cx} {fa:Nat→Addr} (F:Facts C fa),bQ C true 2 aOj (aW (bI 21)) f}:=⟨_,fun F=>
 (aC (aH 58 (bR 0 F.x0 rfl F.x55 rfl (aUn F) (bT rfl) (.cons (fun _ _=>rfl) (aB 58) .nil) .nil))
 (aC (aT (aM (aB 3) aD) cB aN)
 (aE (aQ (bR 4 F.x0 rfl F.x69 rfl (aTc F) (bT rfl) (.cons (fun _ _=>rfl) (aB 58) .nil) (.cons (aB 80) .nil))))))⟩
noncomputable abbrev Φ_21 (args kws:List MV):Option MV:=(xR args kws).bind fun xs=>eJ aMg.1 aOk xs
theorem aTe {C:Cx} {fa:Nat→Addr} (F:Facts C fa):cV C 3 (fa 21) ["validate"] Φ_21:=let ⟨_,h1,h2,h3⟩:=F.x98;cI F.x0 h1 h2 h3 (aMg.2 F)
noncomputable def aHu:{f:M Fl // ∀{C:Cx} {fa:Nat→Addr} (F:Facts C fa),bQ C true 0 aOl (aW (bI 23)) f}:=⟨_,fun F=>
 (aC (uJ 23 26 aD)
 (aC (aH 30 (cW .nil))
 (aC (aH 78 (cW .nil))
 (aC (dK 1000 (cO aD)
 (aE (xE 0 0 F.x0 rfl F.x1 F.x2 rfl
  (aC (aH 14 (bH (aB 16) (aB 23)))
  (aC (aH 0 (bH (aB 1) (aB 26)))
  (aE (aT (aM (aB 14) (aB 0))
  (aC (bF (bO (aB 30) (.cons (fun _ _=>rfl) (aB 14) .nil)))
  (aC (eW 23 aD)
  (aE (dK 1000 (aM (bH (aB 16) (aB 23)) (aB 14))
   (aE (eW 23 aD)) aN))))
  (aE (aT (aM (aB 14) (aB 0))
   (aC (bF (bO (aB 78) (.cons (fun _ _=>rfl) (aB 0) .nil)))
   (aC (eW 26 aD)
   (aE (dK 1000 (aM (bH (aB 1) (aB 26)) (aB 0))
   (aE (eW 26 aD)) aN))))
   (aC (eW 23 aD)
   (aE (uR
   (aE (dK 1000 (aM (bH (aB 16) (aB 23)) (aB 14))
    (aE (eW 23 aD)) aN))
   (aC (eW 26 aD)
   (aE (dK 1000 (aM (bH (aB 1) (aB 26)) (aB 0))
    (aE (eW 26 aD)) aN)))
   (aC (eW 26 aD)
   (aE (dK 1000 (aM (zO (aB 1) (aB 26)) (aB 0))
    (aE (eW 26 aD)) aN))))))))))))
  (aC (bF (mP (aB 30) (.cons (fun _ _=>rfl) (kY (aB 16) (aB 23)) .nil)))
  (aC (bF (mP (aB 78) (.cons (fun _ _=>rfl) (kY (aB 1) (aB 26)) .nil)))
  (aE jV))))) aN)
 (aE (aQ (eG (.cons (fun _ _=>rfl) (aB 30) (.cons (fun _ _=>rfl) (aB 78) .nil)))))))))⟩
noncomputable abbrev Φ_23 (args kws:List MV):Option MV:=((aU 2) args kws).bind fun xs=>eJ aHu.1 aOm xs
theorem aTf {C:Cx} {fa:Nat→Addr} (F:Facts C fa):cV C 1 (fa 23) [] Φ_23:=let ⟨_,h1,h2,h3⟩:=F.x99;cI F.x0 h1 h2 h3 (aHu.2 F)
noncomputable def aMh:{f:M Fl // ∀{C:Cx} {fa:Nat→Addr} (F:Facts C fa),bQ C true 0 aOn (aW (bI 24)) f}:=⟨_,fun F=>
 (aC (aH 30 (cW .nil))
 (aC (dK 1000 (tM (aB 16))
 (aC (aH 24 (pW (aB 16) .nil))
 (aE (aAc
  (aE (bF (zG (aB 1) (.cons (fun _ _=>rfl) (aB 24) .nil))))))) aN)
 (aE (aQ (eG (.cons (fun _ _=>rfl) (aB 30) (.cons (fun _ _=>rfl) (aB 1) .nil)))))))⟩
noncomputable abbrev Φ_24 (args kws:List MV) (H:List MO):Option (MV×List MO):=((aU 2) args kws).bind fun xs=>kB aMh.1 aOo xs H
theorem aTg {C:Cx} {fa:Nat→Addr} (F:Facts C fa):eC C 1 (fa 24) [] Φ_24:=let ⟨_,h1,h2,h3⟩:=F.x100;fS F.x0 h1 h2 h3 (aMh.2 F)
noncomputable def aHv:{f:M Fl // ∀{C:Cx} {fa:Nat→Addr} (F:Facts C fa),bQ C true 0 aOp (aW (bI 26)) f}:=⟨_,fun F=>
 (aC (aH 57 (cW (.cons (fun _ _=>rfl) (iG (.cons (fun _ _=>rfl) aD (.cons (fun _ _=>rfl) aD (.cons (fun _ _=>rfl) aD (.cons (fun _ _=>rfl) aD (.cons (fun _ _=>rfl) aD .nil)))))) .nil)))
 (aC (cS (bX (aB 38)) (bC 79)
 (aC (jM 56 5 (.cons (fun _ _=>rfl) (bH (aB 57) (qJ aD)) (.cons (fun _ _=>rfl) (aR (aB 79) aD) .nil)))
 (aE (bF (bO (aB 57) (.cons (fun _ _=>rfl) (aR (aR (kX (aB 56) (aB 5)) (iG (.cons (fun _ _=>rfl) (aR (aR (aR (bH (aB 56) (aB 5)) aD) (aR (aR (aB 79) aD) aD)) aD) .nil))) (kY (aB 56) (aR (aB 5) aD))) .nil))))))
 (aE (aQ (aB 57)))))⟩
noncomputable abbrev Φ_26 (args kws:List MV):Option MV:=((aU 1) args kws).bind fun xs=>eJ aHv.1 aOq xs
theorem aTh {C:Cx} {fa:Nat→Addr} (F:Facts C fa):cV C 1 (fa 26) [] Φ_26:=let ⟨_,h1,h2,h3⟩:=F.x101;cI F.x0 h1 h2 h3 (aHv.2 F)
noncomputable def aMi:{f:M Fl // ∀{C:Cx} {fa:Nat→Addr} (F:Facts C fa),bQ C true 0 aOr (aW (bI 27)) f}:=⟨_,fun F=>
 (aC (aH 81 aD)
 (aC (cS (bX (aB 56)) (bC 39)
 (aE (aH 81 (aR (aR (aB 81) aD) (aB 39)))))
 (aE (aQ (cT (sc':=aLi) [27] (cL 0 F.x0 rfl F.x33 F.x34 rfl (.cons (fun _ _=>rfl) aD .nil)) (bC 27) dR (aR (aR (aR (aB 81) aD) (aR aD (aR aD (aB 27)))) aD))))))⟩
noncomputable abbrev Φ_27 (args kws:List MV):Option MV:=((aU 1) args kws).bind fun xs=>eJ aMi.1 aOs xs
theorem aTi {C:Cx} {fa:Nat→Addr} (F:Facts C fa):cV C 1 (fa 27) [] Φ_27:=let ⟨_,h1,h2,h3⟩:=F.x102;cI F.x0 h1 h2 h3 (aMi.2 F)
noncomputable def aMj:{f:M Fl // ∀{C:Cx} {fa:Nat→Addr} (F:Facts C fa),bQ C true 0 aOt (aW (bI 28)) f}:=⟨_,fun F=>
 (aC (aH 81 aD)
 (aC (cS (bX (aB 18)) (bC 17)
 (aE (aH 81 (aR (aR (aB 81) aD) (aB 17)))))
 (aE (aQ (bP 0 F.x0 rfl F.x9 F.x10 rfl iA (.cons (fun _ _=>rfl) (cT (sc':=aLj) [27] (cL 1 F.x0 rfl F.x33 F.x34 rfl (.cons (fun _ _=>rfl) aD .nil)) (bC 27) dR (aR (aR (aR (aB 81) aD) (aR aD (aR aD (aB 27)))) aD)) .nil))))))⟩
noncomputable abbrev Φ_28 (args kws:List MV):Option MV:=((aU 1) args kws).bind fun xs=>eJ aMj.1 aOu xs
theorem aTj {C:Cx} {fa:Nat→Addr} (F:Facts C fa):cV C 1 (fa 28) [] Φ_28:=let ⟨_,h1,h2,h3⟩:=F.x103;cI F.x0 h1 h2 h3 (aMj.2 F)
noncomputable def aMk:{f:M Fl // ∀{C:Cx} {fa:Nat→Addr} (F:Facts C fa),bQ C true 0 aOv (aW (bI 29)) f}:=⟨_,fun F=>
 (aC (aH 2 aD)
 (aE (aQ (aR (bP 0 F.x0 rfl F.x9 F.x10 rfl iA (.cons (fun _ _=>rfl) (cT (sc':=aLk) [17] (bX (aB 18)) (bC 17) dR (bH (aB 2) (aB 17))) .nil)) aD))))⟩
noncomputable abbrev Φ_29 (args kws:List MV):Option MV:=((aU 1) args kws).bind fun xs=>eJ aMk.1 aOw xs
theorem aTk {C:Cx} {fa:Nat→Addr} (F:Facts C fa):cV C 1 (fa 29) [] Φ_29:=let ⟨_,h1,h2,h3⟩:=F.x104;cI F.x0 h1 h2 h3 (aMk.2 F)
noncomputable def aMl:{f:M Fl // ∀{C:Cx} {fa:Nat→Addr} (F:Facts C fa),bQ C true 0 aOx (aW (bI 30)) f}:=⟨_,fun F=>
 (aE (aQ (cT (sc':=aLl) [53] (cL 0 F.x0 rfl F.x33 F.x34 rfl (.cons (fun _ _=>rfl) (bP 1 F.x0 rfl F.x27 F.x28 rfl eZ (.cons (fun _ _=>rfl) (aB 48) .nil)) .nil)) (bC 53) dR (cT (sc':=aLm) [27] (bX (bH (aB 48) (aB 53))) (bC 27) dR (eG (.cons (fun _ _=>rfl) (aB 27) (.cons (fun _ _=>rfl) (bP 0 F.x0 rfl F.x27 F.x28 rfl eZ (.cons (fun _ _=>rfl) (cT (sc':=aLn) [43] (cL 1 F.x0 rfl F.x33 F.x34 rfl (.cons (fun _ _=>rfl) (aB 53) .nil)) (bC 43) (fQ (aM (aB 27) (bH (aB 48) (aB 43)))) (aB 43)) .nil)) .nil)))))))⟩
noncomputable abbrev Φ_30 (args kws:List MV):Option MV:=((aU 1) args kws).bind fun xs=>eJ aMl.1 aOy xs
theorem aTl {C:Cx} {fa:Nat→Addr} (F:Facts C fa):cV C 1 (fa 30) [] Φ_30:=let ⟨_,h1,h2,h3⟩:=F.x105;cI F.x0 h1 h2 h3 (aMl.2 F)
noncomputable def aMm:{f:M Fl // ∀{C:Cx} {fa:Nat→Addr} (F:Facts C fa),bQ C true 0 aOz (aW (bI 31)) f}:=⟨_,fun F=>
 (aC (rD 9 (cT (sc':=aLo) [27] (cL 0 F.x0 rfl F.x33 F.x34 rfl (.cons (fun _ _=>rfl) aD .nil)) (bC 27) dR (bP 0 F.x0 rfl F.x27 F.x28 rfl eZ (.cons (fun _ _=>rfl) (cT (sc':=aLp) [43] (bX (aB 21)) (bC 43) (fQ (aM (aB 27) (bH (aB 48) (aB 43)))) (aB 43)) .nil))))
 (aE (aQ (tI (sc':=aLq) [53] (cL 0 F.x0 rfl F.x33 F.x34 rfl (.cons (fun _ _=>rfl) (bP 1 F.x0 rfl F.x27 F.x28 rfl eZ (.cons (fun _ _=>rfl) (aB 48) .nil)) .nil)) (bC 53) (fQ (gA (eV (tD (aB 53) (aB 21)) (eV (kR (cO (cT (sc':=aLr) [27,11] (bX (bH (aB 76) (aB 53))) (jL 27 11) (fQ (aM (bH (aB 9) (aB 27)) (aB 11))) (aB 27)))) iH)))) (aB 53)))))⟩
noncomputable abbrev Φ_31 (args kws:List MV) (H:List MO):Option (MV×List MO):=((aU 3) args kws).bind fun xs=>kB aMm.1 aPa xs H
theorem aTm {C:Cx} {fa:Nat→Addr} (F:Facts C fa):eC C 1 (fa 31) [] Φ_31:=let ⟨_,h1,h2,h3⟩:=F.x106;fS F.x0 h1 h2 h3 (aMm.2 F)
noncomputable def aBz:{f:M Fl // ∀{C:Cx} {fa:Nat→Addr} (F:Facts C fa),bQ C true 0 aHb (aW ((dC (bI 4)).getD 1 (.Pass default))) f}:=⟨_,fun F=>
 (aC (jO 1 0 F.x0 F.c1 F.x80 (aB 34) (aB 62))
 (aC (jO 1 1 F.x0 F.c1 F.x81 aD (aB 62))
 (aE (jO 1 2 F.x0 F.c1 F.x82 (cW .nil) (aB 62)))))⟩
noncomputable abbrev Φ_401 (args kws:List MV) (H:List MO):Option (MV×List MO):=((aU 2) args kws).bind fun xs=>kB aBz.1 aHc xs H
theorem aQv {C:Cx} {fa:Nat→Addr} (F:Facts C fa):eC C 1 (fa 401) [] Φ_401:=let ⟨_,h1,h2,h3⟩:=F.x107;fS F.x0 h1 h2 h3 (aBz.2 F)
noncomputable def aPr:{f:M Fl // ∀{C:Cx} {fa:Nat→Addr} (F:Facts C fa),bQ C true 0 aHd (aW ((dC (bI 6)).getD 0 (.Pass default))) f}:=⟨_,fun F=>
 (aC (jN 0 0 F.x0 F.c0 F.x76 tJ (aB 62))
 (aC (jN 0 1 F.x0 F.c0 F.x77 aD (aB 62))
 (aC (jN 0 2 F.x0 F.c0 F.x78 aD (aB 62))
 (aC (jN 0 3 F.x0 F.c0 F.x79 aD (aB 62))
 (aE (aT (aM (aB 22) aD) cB aN))))))⟩
noncomputable abbrev Φ_600 (args kws:List MV) (H:List MO):Option (MV×List MO):=(mT args kws).bind fun xs=>kB aPr.1 aHe xs H
theorem aQw {C:Cx} {fa:Nat→Addr} (F:Facts C fa):eC C 1 (fa 600) [] Φ_600:=let ⟨_,h1,h2,h3⟩:=F.x108;fS F.x0 h1 h2 h3 (aPr.2 F)
noncomputable def tN:{f:M Fl // ∀{C:Cx} {fa:Nat→Addr} (F:Facts C fa),bQ C true 2 aHf (aW ((dC (bI 6)).getD 1 (.Pass default))) f}:=⟨_,fun F=>
 (aC (aT (aM (tH 55 (xM F.x0 (cE 0 0 F.x0 F.c0 F.x76 (aB 62)) (.cons (fun _ _=>rfl) (aB 34) .nil))) aD)
 (aE (zW 55 F.x0 (aGi 0 1 F.x0 F.c1 F.i1 (sO 1) rfl F.x51 rfl (aQv F) (bT rfl) (.cons (fun _ _=>rfl) (aB 34) .nil)) (cE 0 0 F.x0 F.c0 F.x76 (aB 62)) (aB 34))) aN)
 (aE (aQ (aB 55))))⟩
noncomputable abbrev Φ_601 (args kws:List MV) (H:List MO):Option (MV×List MO):=((aU 2) args kws).bind fun xs=>kB tN.1 aHg xs H
theorem aHw {C:Cx} {fa:Nat→Addr} (F:Facts C fa):eC C 3 (fa 601) [] Φ_601:=let ⟨_,h1,h2,h3⟩:=F.x109;fS F.x0 h1 h2 h3 (tN.2 F)
noncomputable def aCa:{f:M Fl // ∀{C:Cx} {fa:Nat→Addr} (F:Facts C fa),bQ C true 3 aHh (aW ((dC (bI 6)).getD 2 (.Pass default))) f}:=⟨_,fun F=>
 (aC (aT (aM (cE 0 1 F.x0 F.c0 F.x77 (aB 62)) aD) cB aN)
 (aC (aH 36 (iM 0 F.x0 F.c0 F.x83 (aHw F) (bT rfl) (aB 62) (.cons (fun _ _=>rfl) (aB 34) .nil)))
 (aC (tG 1 1 F.x0 F.c1 F.x81 (bP 1 F.x0 rfl F.x27 F.x28 rfl eZ (.cons (fun _ _=>rfl) (aB 52) .nil)) (aB 36))
 (aE (cS (bX (aB 52)) (bC 50)
 (aC (aH 51 (iM 0 F.x0 F.c0 F.x83 (aHw F) (bT rfl) (aB 62) (.cons (fun _ _=>rfl) (aB 50) .nil)))
 (aE (bF (bO (gG 1 2 F.x0 F.c1 F.x82 (aB 51)) (.cons (fun _ _=>rfl) (aB 34) .nil))))))))))⟩
noncomputable abbrev Φ_602 (args kws:List MV) (H:List MO):Option (MV×List MO):=((mG 2) args kws).bind fun xs=>kB aCa.1 aHi xs H
theorem aQx {C:Cx} {fa:Nat→Addr} (F:Facts C fa):eC C 4 (fa 602) [] Φ_602:=let ⟨_,h1,h2,h3⟩:=F.x110;fS F.x0 h1 h2 h3 (aCa.2 F)
noncomputable def aCb:{f:M Fl // ∀{C:Cx} {fa:Nat→Addr} (F:Facts C fa),bQ C true 0 aHj (aW ((dC (bI 6)).getD 8 (.Pass default))) f}:=⟨_,fun F=>
 (aC (aH 32 (cE 0 0 F.x0 F.c0 F.x76 (aB 62)))
 (aC (aH 65 (cW .nil))
 (aC (aH 25 (cW .nil))
 (aC (aH 61 (bP 0 F.x0 rfl F.x35 F.x36 rfl aGo .nil))
 (aC (aH 35 tJ)
 (aC (cS (zY F.x0 (aB 32)) (bC 34)
 (aC (aT (vB F.x0 (aB 34) (aB 61))
  (aE gI) aN)
 (aE (dK 1000 (cO aD)
  (aC (aT (vB F.x0 (aB 34) (aB 61))
  (aE (aT (vB F.x0 (aB 34) (aB 35)) cB aN))
  (aC (bF (aGt (aB 61) (.cons (fun _ _=>rfl) (aB 34) .nil)))
  (aC (bF (bO (aB 25) (.cons (fun _ _=>rfl) (aGx (bP 1 F.x0 rfl F.x25 F.x26 rfl aGw (.cons (fun _ _=>rfl) (gG 1 2 F.x0 F.c1 F.x82 (oO F.x0 (aB 32) (aB 34))) .nil))) .nil)))
  (aC (aEf F.x0 (bP 2 F.x0 rfl F.x27 F.x28 rfl eZ (.cons (fun _ _=>rfl) (aB 65) .nil)) (aB 35) (aB 34))
  (aE (bF (bO (aB 65) (.cons (fun _ _=>rfl) (aB 34) .nil))))))))
  (aE (dK 1000 (tM (aB 65))
  (aE (xE 1 3 F.x0 rfl F.x3 F.x4 rfl
   (aC (aH 34 (xP (bH (aB 25) (qJ aD))))
   (aE jV))
   (aC (aGn F.x0 (aB 35) (pW (aB 65) .nil))
   (aE (bF (pW (aB 25) .nil))))))
  (aE jV)))) aN))))
 (aE (aQ aD))))))))⟩
noncomputable abbrev Φ_608 (args kws:List MV) (H:List MO):Option (MV×List MO):=((aU 1) args kws).bind fun xs=>kB aCb.1 aHk xs H
theorem aQy {C:Cx} {fa:Nat→Addr} (F:Facts C fa):eC C 1 (fa 608) [] Φ_608:=let ⟨_,h1,h2,h3⟩:=F.x111;fS F.x0 h1 h2 h3 (aCb.2 F)
noncomputable def aCc:{f:M Fl // ∀{C:Cx} {fa:Nat→Addr} (F:Facts C fa),bQ C true 1 aHl (aW ((dC (bI 6)).getD 3 (.Pass default))) f}:=⟨_,fun F=>
 (aC (aT (aM (cE 0 1 F.x0 F.c0 F.x77 (aB 62)) aD) cB aN)
 (aC (jN 0 1 F.x0 F.c0 F.x77 (tI (sc':=aHm) [23] (zZ F.x0 (cE 0 0 F.x0 F.c0 F.x76 (aB 62))) (bC 23) (fQ (aM (gG 1 1 F.x0 F.c1 F.x81 (aB 23)) aD)) (gG 1 0 F.x0 F.c1 F.x80 (aB 23))) (aB 62))
 (aC (aH 12 (iM 0 F.x0 F.c0 F.x89 (aQy F) (bT rfl) (aB 62) .nil))
 (aE (aT (cO (aB 12)) cB aN)))))⟩
noncomputable abbrev Φ_603 (args kws:List MV) (H:List MO):Option (MV×List MO):=((aU 1) args kws).bind fun xs=>kB aCc.1 aHn xs H
theorem aQz {C:Cx} {fa:Nat→Addr} (F:Facts C fa):eC C 2 (fa 603) [] Φ_603:=let ⟨_,h1,h2,h3⟩:=F.x112;fS F.x0 h1 h2 h3 (aCc.2 F)
noncomputable def aCd:{f:M Fl // ∀{C:Cx} {fa:Nat→Addr} (F:Facts C fa),bQ C true 0 aHo (aW ((dC (bI 6)).getD 4 (.Pass default))) f}:=⟨_,fun F=>
 (aC (aT (aM (cE 0 1 F.x0 F.c0 F.x77 (aB 62)) aD) cB aN)
 (aC (aH 55 (bP 1 F.x0 rfl F.x41 F.x42 rfl aDr (.cons (fun _ _=>rfl) (cE 0 1 F.x0 F.c0 F.x77 (aB 62)) .nil)))
 (aC (aH 32 (cE 0 0 F.x0 F.c0 F.x76 (aB 62)))
 (aC (cS (bX (aB 55)) (bC 34)
 (aE (jO 1 1 F.x0 F.c1 F.x81 (oP 2 F.x0 rfl F.x50 rfl) (oO F.x0 (aB 32) (aB 34)))))
 (aC (bF (aDt (cE 0 1 F.x0 F.c0 F.x77 (aB 62)) .nil))
 (aC (tF 0 2 F.x0 F.c0 F.x78 (bP 3 F.x0 rfl F.x27 F.x28 rfl eZ (.cons (fun _ _=>rfl) (aB 55) .nil)) (aB 62))
 (aE (aQ (aB 55)))))))))⟩
noncomputable abbrev Φ_604 (args kws:List MV) (H:List MO):Option (MV×List MO):=((aU 1) args kws).bind fun xs=>kB aCd.1 aHp xs H
theorem aRa {C:Cx} {fa:Nat→Addr} (F:Facts C fa):eC C 1 (fa 604) [] Φ_604:=let ⟨_,h1,h2,h3⟩:=F.x113;fS F.x0 h1 h2 h3 (aCd.2 F)
noncomputable def aCe:{f:M Fl // ∀{C:Cx} {fa:Nat→Addr} (F:Facts C fa),bQ C true 0 aHq (aW ((dC (bI 6)).getD 5 (.Pass default))) f}:=⟨_,fun F=>
 (aC (aT (aM (cE 0 1 F.x0 F.c0 F.x77 (aB 62)) aD) cB aN)
 (aE (aQ (aQn (uI (cE 0 3 F.x0 F.c0 F.x79 (aB 62)) (cE 0 2 F.x0 F.c0 F.x78 (aB 62))) (bP 1 F.x0 rfl F.x5 F.x6 rfl aGy (.cons (fun _ _=>rfl) (cE 0 1 F.x0 F.c0 F.x77 (aB 62)) .nil))))))⟩
noncomputable abbrev Φ_605 (args kws:List MV) (H:List MO):Option (MV×List MO):=((aU 1) args kws).bind fun xs=>kB aCe.1 aHr xs H
theorem aRb {C:Cx} {fa:Nat→Addr} (F:Facts C fa):eC C 1 (fa 605) [] Φ_605:=let ⟨_,h1,h2,h3⟩:=F.x114;fS F.x0 h1 h2 h3 (aCe.2 F)
noncomputable def xS:{f:M Fl // ∀{C:Cx} {fa:Nat→Addr} (F:Facts C fa),bQ C true 0 aHs (aW ((dC (bI 6)).getD 7 (.Pass default))) f}:=⟨_,fun F=>
 (aC (aT (aM (cE 0 1 F.x0 F.c0 F.x77 (aB 62)) aD) cB aN)
 (aC (aH 32 (cE 0 0 F.x0 F.c0 F.x76 (aB 62)))
 (aE (cS (bX (aB 37)) (bC 34)
 (aC (aT (aM (tH 36 (xM F.x0 (aB 32) (.cons (fun _ _=>rfl) (aB 34) .nil))) aD) cB aN)
 (aC (aH 67 (gG 1 1 F.x0 F.c1 F.x81 (aB 36)))
 (aC (aT (aM (aB 67) (oP 1 F.x0 rfl F.x50 rfl)) cB aN)
 (aC (jO 1 1 F.x0 F.c1 F.x81 (oP 2 F.x0 rfl F.x49 rfl) (aB 36))
 (aC (cS (bX (gG 1 2 F.x0 F.c1 F.x82 (aB 36))) (bC 70)
  (aC (aH 71 (oO F.x0 (aB 32) (aB 70)))
  (aC (tG 1 1 F.x0 F.c1 F.x81 aD (aB 71))
  (aE (aT (aM (gG 1 1 F.x0 F.c1 F.x81 (aB 71)) aD)
  (aE (bF (bO (cE 0 1 F.x0 F.c0 F.x77 (aB 62)) (.cons (fun _ _=>rfl) (aB 70) .nil)))) aN)))))
 (aE (tF 0 3 F.x0 F.c0 F.x79 aD (aB 62))))))))))))⟩
noncomputable abbrev Φ_607 (args kws:List MV) (H:List MO):Option (MV×List MO):=((mG 1) args kws).bind fun xs=>kB xS.1 aHt xs H
theorem aRc {C:Cx} {fa:Nat→Addr} (F:Facts C fa):eC C 1 (fa 607) [] Φ_607:=let ⟨_,h1,h2,h3⟩:=F.x115;fS F.x0 h1 h2 h3 (xS.2 F)
noncomputable def aHx:{f:M Fl // ∀{C:Cx} {fa:Nat→Addr} (F:Facts C fa),bQ C true 4 aPb (aW (bI 32)) f}:=⟨_,fun F=>
 (aC (jM 49 76 (.cons (fun _ _=>rfl) (aEc 0 0 F.x0 F.c0 F.i0 (uX 0) rfl F.x47 rfl (aQw F) (bT rfl)) (.cons (fun _ _=>rfl) (bR 1 F.x0 rfl F.x65 rfl (aTl F) (bT rfl) (.cons (fun _ _=>rfl) (aB 48) .nil) .nil) .nil)))
 (aC (cS (cL 2 F.x0 rfl F.x33 F.x34 rfl (.cons (fun _ _=>rfl) (bP 3 F.x0 rfl F.x27 F.x28 rfl eZ (.cons (fun _ _=>rfl) (aB 48) .nil)) .nil)) (bC 53)
 (aE (bF (uW 0 F.x0 F.c0 F.x84 F.x90 F.hd0 (aQx F) (bT rfl) (aB 49) (aB 53) (cT (sc':=aLs) [43] (cL 2 F.x0 rfl F.x33 F.x34 rfl (.cons (fun _ _=>rfl) (aB 53) .nil)) (bC 43) (fQ (cO (cT (sc':=aLt) [27] (bX (bH (aB 48) (aB 43))) (bC 27) (fQ (aM (aB 27) (bH (aB 48) (aB 53)))) (aB 27)))) (aB 43))))))
 (aC (bF (iM 0 F.x0 F.c0 F.x85 (aQz F) (bT rfl) (aB 49) .nil))
 (aC (jM 21 82 (.cons (fun _ _=>rfl) (cW .nil) (.cons (fun _ _=>rfl) (cW .nil) .nil)))
 (aC (cS (cL 2 F.x0 rfl F.x33 F.x34 rfl (.cons (fun _ _=>rfl) (bP 3 F.x0 rfl F.x27 F.x28 rfl eZ (.cons (fun _ _=>rfl) (aB 48) .nil)) .nil)) (bC 68)
 (aC (bF (mP (aB 82) (.cons (fun _ _=>rfl) (iM 0 F.x0 F.c0 F.x86 (aRa F) (bT rfl) (aB 49) .nil) .nil)))
 (aC (aT (tD (tE 4 F.x0 rfl F.x75 rfl (aTg F) (bT rfl) (.cons (fun _ _=>rfl) (bP 5 F.x0 rfl F.x29 F.x30 rfl aDq (.cons (fun _ _=>rfl) (aB 82) .nil)) (.cons (fun _ _=>rfl) (tE 6 F.x0 rfl F.x57 rfl (aTm F) (bT rfl) (.cons (fun _ _=>rfl) (aB 48) (.cons (fun _ _=>rfl) (aB 76) (.cons (fun _ _=>rfl) (aB 21) .nil))) .nil) .nil)) .nil) (eG (.cons (fun _ _=>rfl) (iG .nil) (.cons (fun _ _=>rfl) (iG .nil) .nil))))
  (aE (aQ aD)) aN)
 (aC (aH 46 (pW (aB 82) (.cons (fun _ _=>rfl) (aR (aR (aB 77) (aR aD (aB 68))) (bP 3 F.x0 rfl F.x27 F.x28 rfl eZ (.cons (fun _ _=>rfl) (aB 82) .nil))) .nil)))
 (aC (bF (iM 0 F.x0 F.c0 F.x88 (aRc F) (bT rfl) (aB 49) (.cons (fun _ _=>rfl) (aB 46) .nil)))
 (aE (bF (bO (aB 21) (.cons (fun _ _=>rfl) (aB 46) .nil)))))))))
 (aE (aQ (sV (cO (iM 0 F.x0 F.c0 F.x87 (aRb F) (bT rfl) (aB 49) .nil)) aD (aB 21)))))))))⟩
noncomputable abbrev Φ_32 (args kws:List MV):Option MV:=((aU 2) args kws).bind fun xs=>eJ aHx.1 aPc xs
theorem aPs {C:Cx} {fa:Nat→Addr} (F:Facts C fa):cV C 5 (fa 32) [] Φ_32:=let ⟨_,h1,h2,h3⟩:=F.x116;cI F.x0 h1 h2 h3 (aHx.2 F)
noncomputable def aMn:{f:M Fl // ∀{C:Cx} {fa:Nat→Addr} (F:Facts C fa),bQ C true 0 aPd (aW (bI 33)) f}:=⟨_,fun F=>
 (aC (cS (bX (aB 64)) (jL 27 63)
 (aE (aH 73 (aR (aR (kX (aB 73) (aB 27)) (bP 0 F.x0 rfl F.x9 F.x10 rfl iA (.cons (fun _ _=>rfl) (iG (.cons (fun _ _=>rfl) (aB 63) .nil)) .nil))) (kY (aB 73) (aR (aB 27) aD))))))
 (aE (aQ (aB 73))))⟩
noncomputable abbrev Φ_33 (args kws:List MV):Option MV:=((aU 2) args kws).bind fun xs=>eJ aMn.1 aPe xs
theorem aPt {C:Cx} {fa:Nat→Addr} (F:Facts C fa):cV C 1 (fa 33) [] Φ_33:=let ⟨_,h1,h2,h3⟩:=F.x117;cI F.x0 h1 h2 h3 (aMn.2 F)
noncomputable def aMo:{f:M Fl // ∀{C:Cx} {fa:Nat→Addr} (F:Facts C fa),bQ C true 3 aPf (aW (bI 34)) f}:=⟨_,fun F=>
 (aC (eP (sc':=aLu) 31 [27] (cL 0 F.x0 rfl F.x33 F.x34 rfl (.cons (fun _ _=>rfl) aD .nil)) (bC 27) dR (bH (bH (aB 66) (bP 0 F.x0 rfl F.x31 F.x32 rfl aKt (.cons (fun _ _=>rfl) (aR (iG (.cons (fun _ _=>rfl) aD .nil)) (cT (sc':=aLv) [43] (bX (aB 21)) (bC 43) (fQ (aM (aB 27) (bH (aB 48) (aB 43)))) (aR (aB 43) aD))) .nil))) (aB 27)))
 (aC (aH 40 (bR 1 F.x0 rfl F.x59 rfl (aTj F) (bT rfl) (.cons (fun _ _=>rfl) (aB 31) .nil) .nil))
 (aE (aQ (aKl (uI (bR 2 F.x0 rfl F.x72 rfl (aPq F) (bT rfl) (.cons (fun _ _=>rfl) (aB 40) .nil) .nil) (aB 73)) (uI (bR 3 F.x0 rfl F.x71 rfl (aTe F) (bT rfl) (.cons (fun _ _=>rfl) (aB 73) .nil) (.cons aD .nil)) (aB 40)))))))⟩
noncomputable abbrev Φ_34 (args kws:List MV):Option MV:=((aU 4) args kws).bind fun xs=>eJ aMo.1 aPg xs
theorem aPu {C:Cx} {fa:Nat→Addr} (F:Facts C fa):cV C 4 (fa 34) [] Φ_34:=let ⟨_,h1,h2,h3⟩:=F.x118;cI F.x0 h1 h2 h3 (aMo.2 F)
noncomputable def aHy:{f:M Fl // ∀{C:Cx} {fa:Nat→Addr} (F:Facts C fa),bQ C true 1 aPh (aW (bI 35)) f}:=⟨_,fun F=>
 (aC (jM 48 47 (.cons (fun _ _=>rfl) (cW .nil) (.cons (fun _ _=>rfl) (cW .nil) .nil)))
 (aC (cS (aFz 0 F.x0 rfl F.x45 F.x46 rfl (.cons (fun _ _=>rfl) (aB 74) (.cons (fun _ _=>rfl) (kY (aB 74) aD) .nil))) (jL 41 20)
 (aC (eP (sc':=aLw) 45 [27] (cL 1 F.x0 rfl F.x33 F.x34 rfl (.cons (fun _ _=>rfl) aD .nil)) (bC 27) (fQ (aM (bH (aB 41) (aB 27)) (bH (aB 20) (aB 27)))) (aB 27))
 (aC (aH 46 (bR 2 F.x0 rfl F.x74 rfl (aTf F) (bT rfl) (.cons (fun _ _=>rfl) (nO 3 4 F.x0 rfl F.x29 F.x30 rfl rfl F.x15 F.x16 rfl (.cons (fun _ _=>rfl) (aB 41) .nil)) (.cons (fun _ _=>rfl) (nO 3 4 F.x0 rfl F.x29 F.x30 rfl rfl F.x15 F.x16 rfl (.cons (fun _ _=>rfl) (aB 20) .nil)) .nil)) .nil))
 (aC (aT (aM (aB 46) (eG (.cons (fun _ _=>rfl) (cT (sc':=aLy) [27] (bX (aB 45)) (bC 27) dR (eG (.cons (fun _ _=>rfl) (aB 27) (.cons (fun _ _=>rfl) (bH (aB 41) (aB 27)) .nil)))) (.cons (fun _ _=>rfl) (cT (sc':=aLx) [27] (bX (aB 45)) (bC 27) dR (eG (.cons (fun _ _=>rfl) (aB 27) (.cons (fun _ _=>rfl) (bH (aB 20) (aB 27)) .nil)))) .nil))))
  (aE (aQ (eG (.cons (fun _ _=>rfl) aD (.cons (fun _ _=>rfl) aD .nil))))) aN)
 (aC (bF (bO (aB 48) (.cons (fun _ _=>rfl) (aB 45) .nil)))
 (aE (bF (bO (aB 47) (.cons (fun _ _=>rfl) (aB 46) .nil)))))))))
 (aE (aQ (eG (.cons (fun _ _=>rfl) (aB 48) (.cons (fun _ _=>rfl) (aB 47) .nil)))))))⟩
noncomputable abbrev Φ_35 (args kws:List MV):Option MV:=((aU 1) args kws).bind fun xs=>eJ aHy.1 aPi xs
theorem aTn {C:Cx} {fa:Nat→Addr} (F:Facts C fa):cV C 2 (fa 35) [] Φ_35:=let ⟨_,h1,h2,h3⟩:=F.x119;cI F.x0 h1 h2 h3 (aHy.2 F)
noncomputable def aMp:{f:M Fl // ∀{C:Cx} {fa:Nat→Addr} (F:Facts C fa),bQ C true 4 aPj (aW (bI 36)) f}:=⟨_,fun F=>
 (aC (cS (cL 0 F.x0 rfl F.x33 F.x34 rfl (.cons (fun _ _=>rfl) (bP 1 F.x0 rfl F.x27 F.x28 rfl eZ (.cons (fun _ _=>rfl) (aB 83) .nil)) .nil)) (bC 68)
 (aC (aH 73 (bR 2 F.x0 rfl F.x61 rfl (aPt F) (bT rfl) (.cons (fun _ _=>rfl) (aB 73) (.cons (fun _ _=>rfl) (bH (bH (aB 47) (bH (aB 83) (aB 68))) aD) .nil)) .nil))
 (aE (aT (kR (cO (bR 3 F.x0 rfl F.x62 rfl (aPu F) (bT rfl) (.cons (fun _ _=>rfl) (aB 73) (.cons (fun _ _=>rfl) (aB 66) (.cons (fun _ _=>rfl) (aB 48) (.cons (fun _ _=>rfl) (kX (aB 83) (aR (aB 68) aD)) .nil)))) .nil)))
  (aE (aQ aD)) aN))))
 (aE (aQ aD)))⟩
noncomputable abbrev Φ_36 (args kws:List MV):Option MV:=((aU 5) args kws).bind fun xs=>eJ aMp.1 aPk xs
theorem aTo {C:Cx} {fa:Nat→Addr} (F:Facts C fa):cV C 5 (fa 36) [] Φ_36:=let ⟨_,h1,h2,h3⟩:=F.x120;cI F.x0 h1 h2 h3 (aMp.2 F)
noncomputable def aMq:{f:M Fl // ∀{C:Cx} {fa:Nat→Addr} (F:Facts C fa),bQ C true 4 aPl (aW (bI 37)) f}:=⟨_,fun F=>
 (aC (cS (cL 0 F.x0 rfl F.x33 F.x34 rfl (.cons (fun _ _=>rfl) (aR (bP 1 F.x0 rfl F.x27 F.x28 rfl eZ (.cons (fun _ _=>rfl) (aB 83) .nil)) aD) (.cons (fun _ _=>rfl) (qJ aD) (.cons (fun _ _=>rfl) (qJ aD) .nil)))) (bC 68)
 (aC (aH 73 (bR 2 F.x0 rfl F.x61 rfl (aPt F) (bT rfl) (.cons (fun _ _=>rfl) (aB 73) (.cons (fun _ _=>rfl) (bH (bH (aB 47) (bH (aB 83) (aB 68))) aD) .nil)) .nil))
 (aE (aT (kR (cO (bR 3 F.x0 rfl F.x62 rfl (aPu F) (bT rfl) (.cons (fun _ _=>rfl) (aB 73) (.cons (fun _ _=>rfl) (aB 66) (.cons (fun _ _=>rfl) (aB 48) (.cons (fun _ _=>rfl) (kX (aB 83) (aB 68)) .nil)))) .nil)))
  (aE (aQ aD)) aN))))
 (aE (aQ aD)))⟩
noncomputable abbrev Φ_37 (args kws:List MV):Option MV:=((aU 5) args kws).bind fun xs=>eJ aMq.1 aPm xs
theorem aTp {C:Cx} {fa:Nat→Addr} (F:Facts C fa):cV C 5 (fa 37) [] Φ_37:=let ⟨_,h1,h2,h3⟩:=F.x121;cI F.x0 h1 h2 h3 (aMq.2 F)
noncomputable def aMr:{f:M Fl // ∀{C:Cx} {fa:Nat→Addr} (F:Facts C fa),bQ C true 5 aPn (aW (bI 38)) f}:=⟨_,fun F=>
 (aC (aH 38 (aR (iG (.cons (fun _ _=>rfl) aD (.cons (fun _ _=>rfl) aD (.cons (fun _ _=>rfl) aD (.cons (fun _ _=>rfl) aD .nil))))) (cT (sc':=aLz) [10] (bX (kX (aB 59) aD)) (bC 10) dR (aR (bP 0 F.x0 rfl F.x21 F.x22 rfl aKu (.cons (fun _ _=>rfl) (aB 10) .nil)) (aR aD aD)))))
 (aC (aH 57 (bR 0 F.x0 rfl F.x66 rfl (aTh F) (bT rfl) (.cons (fun _ _=>rfl) (aB 38) .nil) .nil))
 (aC (eP (sc':=aMa) 66 [56] (bX (aB 57)) (bC 56) dR (bR 0 F.x0 rfl F.x58 rfl (aTi F) (bT rfl) (.cons (fun _ _=>rfl) (aB 56) .nil) .nil))
 (aC (eP (sc':=aMb) 74 [56] (bX (aB 57)) (bC 56) dR (bR 0 F.x0 rfl F.x72 rfl (aPq F) (bT rfl) (.cons (fun _ _=>rfl) (bP 1 F.x0 rfl F.x9 F.x10 rfl iA (.cons (fun _ _=>rfl) (aB 56) .nil)) .nil) .nil))
 (aC (aT (aM (aB 74) (cT (sc':=aMc) [18] (bX (aB 66)) (bC 18) dR (bR 0 F.x0 rfl F.x63 rfl (aTk F) (bT rfl) (.cons (fun _ _=>rfl) (aB 18) .nil) .nil)))
 (aE (aQ aD)) aN)
 (aC (xB 48 47 (bR 1 F.x0 rfl F.x60 rfl (aTn F) (bT rfl) (.cons (fun _ _=>rfl) (aB 74) .nil) .nil))
 (aC (aT (aM (aB 48) aD)
 (aE (aQ aD)) aN)
 (aC (jM 19 60 (.cons (fun _ _=>rfl) (bR 2 F.x0 rfl F.x67 rfl (aPs F) (bT rfl) (.cons (fun _ _=>rfl) (aB 48) (.cons (fun _ _=>rfl) (bP 3 F.x0 rfl F.x39 F.x40 rfl aBf (.cons (fun _ _=>rfl) (aB 38) .nil)) .nil)) .nil) (.cons (fun _ _=>rfl) (bR 2 F.x0 rfl F.x67 rfl (aPs F) (bT rfl) (.cons (fun _ _=>rfl) (aB 48) (.cons (fun _ _=>rfl) (aR (aR aD (bP 3 F.x0 rfl F.x39 F.x40 rfl aBf (.cons (fun _ _=>rfl) (aB 38) .nil))) aD) .nil)) .nil) .nil)))
 (aC (aT (gA (dN (aM (aB 19) aD) (dN (aM (aB 60) aD) iH)))
 (aE (aQ aD)) aN)
 (aC (aT (kR (cO (bR 4 F.x0 rfl F.x64 rfl (aTo F) (bT rfl) (.cons (fun _ _=>rfl) (bH (aB 74) aD) (.cons (fun _ _=>rfl) (aB 66) (.cons (fun _ _=>rfl) (aB 48) (.cons (fun _ _=>rfl) (aB 47) (.cons (fun _ _=>rfl) (aB 19) .nil))))) .nil)))
 (aE (aQ aD)) aN)
 (aE (aQ (bR 5 F.x0 rfl F.x56 rfl (aTp F) (bT rfl) (.cons (fun _ _=>rfl) (bH (aB 74) (qJ aD)) (.cons (fun _ _=>rfl) (aB 66) (.cons (fun _ _=>rfl) (aB 48) (.cons (fun _ _=>rfl) (aB 47) (.cons (fun _ _=>rfl) (aB 60) .nil))))) .nil)))))))))))))⟩
noncomputable abbrev Φ_38 (args kws:List MV):Option MV:=((aU 1) args kws).bind fun xs=>eJ aMr.1 aPo xs
theorem aTq {C:Cx} {fa:Nat→Addr} (F:Facts C fa):cV C 6 (fa 38) [] Φ_38:=let ⟨_,h1,h2,h3⟩:=F.x122;cI F.x0 h1 h2 h3 (aMr.2 F)
end Mine
end
section
open PySem
set_option tactic.hygienic false
namespace Mine
theorem aA {α β:Type} {f:M α} {g:α→M β} {σ σ':St} {a:α} (h:f σ=some (.ok a,σ')):M.bind f g σ=g a σ':=by unfold M.bind;rw [h]
theorem nP {α β:Type} {f:M α} {g:α→M β} {σ σ':St} {k:Nat} (h:f σ=some (.exc k,σ')):M.bind f g σ=some (.exc k,σ'):=by unfold M.bind;rw [h]
theorem bJ {α:Type} {f:M α} {σ σ':St} {a:α} (h:f σ=some (.ok a,σ')):M.ne f σ=some (.ok a,σ'):=by unfold M.ne;rw [h]
theorem bY {α:Type} {o:Option α} {a:α} {σ:St} (h:o=some a):M.lift o σ=some (.ok a,σ):=by subst h;rfl
theorem bA {x:Nat} {y:MV} {σ:St} (h:σ.r.lookup x=some y):aF x σ=some (.ok y,σ):=by unfold aF;rw [h]
theorem dO {x:Nat} {y:MV} {σ:St}:bE x y σ=some (.ok (),⟨aL x y σ.r,σ.H⟩):=rfl
theorem aG {f g:M Fl} {σ σ':St} (h:f σ=some (.ok .next,σ')):bS f g σ=g σ':=by unfold bS;rw [aA h]
theorem rE {f g:M Fl} {σ σ':St} {fl:Fl} (h:f σ=some (.ok fl,σ')) (hn:fl≠ .next):bS f g σ=some (.ok fl,σ'):=by
 unfold bS;rw [aA h]
 cases fl <;> first|exact absurd rfl hn|rfl
noncomputable def Ev {α:Type} (f:M α) (σ:St) (a:α):Prop:=f σ=some (.ok a,σ)
theorem Ev.bind {α β:Type} {f:M α} {g:α→M β} {σ:St} {a:α} {b:β} (h:Ev f σ a) (h':Ev (g a) σ b):Ev (M.bind f g) σ b:=(aA h).trans h'
theorem Ev.lift {α:Type} {o:Option α} {a:α} {σ:St} (h:o=some a):Ev (M.lift o) σ a:=bY h
theorem Ev.var {x:Nat} {y:MV} {σ:St} (h:σ.r.lookup x=some y):Ev (aF x) σ y:=bA h
theorem Ev.pure {α:Type} {a:α} {σ:St}:Ev (M.pure a) σ a:=rfl
theorem Ev.ne {α:Type} {f:M α} {a:α} {σ:St} (h:Ev f σ a):Ev (M.ne f) σ a:=bJ h
theorem Ev.nil {σ:St}:Ev (aO []) σ []:=rfl
theorem Ev.cons {f:M MV} {fs:List (M MV)} {σ:St} {a:MV} {l:List MV} (h:Ev f σ a) (t:Ev (aO fs) σ l):Ev (aO (f::fs)) σ (a::l):=Ev.bind h (Ev.bind t rfl)
theorem Ev.src_lst {l:List MV} {σ:St}:Ev (gZ (.lst l)) σ (l.length+1,fun i _=>some l[i]?):=rfl
theorem Ev.src_bytes {l:List Int} {σ:St}:Ev (gZ (.bytes l)) σ (l.length+1,fun i _=>some (l.map MV.int)[i]?):=rfl
theorem Ev.src_tup {l:List MV} {σ:St}:Ev (gZ (.tup l)) σ (l.length+1,fun i _=>some l[i]?):=rfl
noncomputable def Agr (loc:List Nat) (r r':List (Nat×MV)):Prop:=∀x,x∉loc→r'.lookup x=r.lookup x
theorem Agr.drop (loc:List Nat) (r:List (Nat×MV)):Agr loc r (iV loc r):=fun x hx=>eO.2 hx
theorem Agr.set {loc:List Nat} {r r':List (Nat×MV)} {k:Nat} {v:MV} (h:Agr loc r r') (hk:k∈loc):Agr loc r (aL k v r'):=fun x hx=>by
 rw [aS,if_neg (fun e:x=k=>hx (by rw [e];exact hk))];exact h x hx
theorem aAf {nx:Nxt} {k:Nat} {cond:M Bool} {elt:M MV} {l:List MV} {e:MV→Option MV} {loc:List Nat} {r:List (Nat×MV)} {H:List MO} (hk:k∈loc) (hnx:∀i,nx i H=some l[i]?)
  (hstep:∀x,x∈l→∀r',Agr loc r r'→r'.lookup k=some x→(e x=none∧Ev cond ⟨r',H⟩ false)∨∃v,e x=some v∧Ev cond ⟨r',H⟩ true∧Ev elt ⟨r',H⟩ v) (hsz:l.length≤1000000):
  ∀(m i:Nat) (acc:List MV) (r':List (Nat×MV)),l.length - i < m→i≤l.length→acc.length≤i→Agr loc r r'→∃r'',kI nx (bE k) cond elt m i acc ⟨r',H⟩=some (.ok (acc++(l.drop i).filterMap e),⟨r'',H⟩):=by
 intro m
 induction m with
 | zero=>intro i acc r' h;lia
 | succ m ih=>
  intro i acc r' hm hi ha hr
  unfold kI
  simp only [hnx i]
  cases hx:l[i]? with
  | none=>
   have:l.length≤i:=getElem?_eq_none_iff.mp hx
   simp only
   rw [if_pos (bK (by lia)),drop_of_length_le this]
   exact ⟨r',by simp⟩
  | some x=>
   simp only
   have hlt:=(gS hx).1
   have hmem:x∈l:=mem_of_getElem? hx
   have hd:l.drop i=x::l.drop (i+1):=by
    rw [List.drop_eq_getElem_cons hlt]
    congr 1
    have:=(gS hx).2
    exact this
   rw [aA (bJ dO)]
   have hr1:Agr loc r (aL k x r'):=hr.set hk
   rcases hstep x hmem (aL k x r') hr1 (by rw [aS,if_pos rfl]) with ⟨h1,h2⟩|⟨v,h1,h2,h3⟩
   ·rw [aA (bJ h2)]
    obtain ⟨r'',e⟩:=ih (i+1) acc (aL k x r') (by lia) hlt (by lia) hr1
    refine ⟨r'',?_⟩
    rw [hd,filterMap_cons_none h1]
    exact e
   ·rw [aA (bJ h2)]
    simp only
    rw [aA (bJ h3)]
    obtain ⟨r'',e⟩:=ih (i+1) (acc++ [v]) (aL k x r') (by lia) hlt (by simp;lia) hr1
    refine ⟨r'',?_⟩
    rw [hd,filterMap_cons_some h1,e]
    simp
theorem Ev.comp {loc:List Nat} {k m:Nat} {fi:M (Nat×Nxt)} {nx:Nxt} {cond:M Bool} {elt:M MV} {l:List MV} {e:MV→Option MV} {σ:St} (hk:k∈loc) (hfi:Ev fi σ (m,nx)) (hm:l.length < m) (hnx:∀i,nx i σ.H=some l[i]?)
  (hstep:∀x,x∈l→∀r',Agr loc σ.r r'→r'.lookup k=some x→(e x=none∧Ev cond ⟨r',σ.H⟩ false)∨∃v,e x=some v∧Ev cond ⟨r',σ.H⟩ true∧Ev elt ⟨r',σ.H⟩ v) (hsz:l.length≤1000000):
  Ev (dH loc fi (bE k) cond elt) σ (l.filterMap e):=by
 refine (uC (bJ hfi)).trans ?_
 obtain ⟨r'',e1⟩:=aAf hk hnx hstep hsz m 0 [] (iV loc σ.r) (by lia) (Nat.zero_le _) (Nat.le_refl _) (Agr.drop loc σ.r)
 refine (uC e1).trans ?_
 simp
theorem eE {nx:Nxt} {tg:MV→M Unit} {body:M Fl} {l:List MV} (P:Nat→St→Prop) (hnx:∀i σ,P i σ→nx i σ.H=some l[i]?)
  (hstep:∀i x σ,P i σ→l[i]?=some x→∃σ₁ σ₂ fl,tg x σ=some (.ok (),σ₁)∧body σ₁=some (.ok fl,σ₂)∧(fl= .next∨fl= .cont)∧P (i+1) σ₂):
  ∀(k i:Nat) (σ:St),l.length - i < k→i≤l.length→P i σ→∃σ',iI nx tg body k i σ=some (.ok .next,σ')∧P l.length σ':=by
 intro k
 induction k with
 | zero=>intro i σ h;lia
 | succ k ih=>
  intro i σ hk hi hp
  unfold iI
  simp only [hnx i σ hp]
  cases hx:l[i]? with
  | none=>
   have:i=l.length:=by have:=getElem?_eq_none_iff.mp hx;lia
   subst this
   exact ⟨σ,rfl,hp⟩
  | some x=>
   have hlt:=(gS hx).1
   refine nA (hstep i x σ hp hx) fun σ₁ σ₂ fl h1 h2 h3 h4=>?_
   refine aJ (ih (i+1) σ₂ (by lia) hlt h4) fun σ' e p=>?_
   refine ⟨σ',?_,p⟩
   simp only
   rw [aA (bJ h1),aA (bJ h2)]
   rcases h3 with rfl|rfl <;> exact e
end Mine
end
section
open PySem
set_option maxRecDepth 10000
set_option tactic.hygienic false
namespace Mine
theorem xT {H:List MO} {x:MV} (h:clo x=true):wR H x=some x:=by
 cases x with
 | cell n=>exact jI h
 | _=>exact if_pos (e:=none) h
theorem aHz {H:List MO} {l:List MV}:dZ l=true→yW H l=some l:=by
 induction l with
 | nil=>exact fun _=>rfl
 | cons x l ih=>
  intro h
  have h:=and_eq_true_iff.mp h
  show ((wR H x).bind fun y=>(yW H l).map (y::·))=_
  rw [xT h.1,ih h.2];rfl
theorem aMs {H:List MO} {x:MV} (h:clo x=true):frz H x=some x:=by
 cases x with
 | tup l=>show (yW H l).map MV.tup=_;rw [aHz h];rfl
 | _=>exact xT (H:=H) h
theorem eQ {f:M Fl} {ps:List Nat} {xs:List MV} {x:MV} (hc:clo x=true) (h:∃σ',f ⟨ps.zip xs,[]⟩=some (.ok (.ret x),σ')):eJ f ps xs=some x:=by
 obtain ⟨σ',h⟩:=h
 unfold eJ;rw [h];exact aMs hc
theorem hM (l:List Int):clo (.lst (l.map .int))=true:=by exact wN l
theorem cX (l:List Int):clo (.bytes l)=true:=by rfl
noncomputable def eF (n:Nat):List MV:=(List.range n).map fun (i:Nat)=> .int i
theorem aEh (n:Nat):eB 0 1 n=eF n:=by
 unfold eB eF
 refine map_congr_left fun i _=>?_
 congr 1;lia
theorem dE (n:Nat):(eF n).length=n:=by unfold eF;simp
theorem tO {n:Nat} {x:MV} (h:x∈eF n):∃k:Nat,k < n∧x= .int k:=by
 unfold eF at h
 (refine aJ (mem_map.mp h) fun k hk e_3=>?_;obtain rfl:=e_3)
 exact ⟨k,mem_range.mp hk,rfl⟩
theorem Ev.range {fs:List (M MV)} {σ:St} {n:Nat} (h:Ev (aO fs) σ [.int n]) (hn:n≤1000000):Ev (M.bind (M.ne (aO fs)) fun l=>M.bind (M.lift (fN l)) fun l=>M.pure (nxL l)) σ (n+1,fun i _=>some (eF n)[i]?):=by
 refine Ev.bind h.ne (Ev.bind (Ev.lift (a:=eF n) ?_) ?_)
 ·show (if rOk (n:Int)=true then some (eB 0 1 (n:Int).toNat) else none)=_
  rw [if_pos (nK.mpr (by lia)),Int.toNat_natCast,aEh]
 ·show some (R.ok (nxL (eF n)),σ)=_
  unfold nxL
  rw [dE]
theorem Ev.compR {loc:List Nat} {k n:Nat} {fs:List (M MV)} {cond:M Bool} {elt:M MV} {e:Nat→Option MV} {σ:St} (hk:k∈loc) (h:Ev (aO fs) σ [.int n]) (hn:n≤1000000)
  (hstep:∀i,i < n→∀r',Agr loc σ.r r'→r'.lookup k=some (.int i)→(e i=none∧Ev cond ⟨r',σ.H⟩ false)∨∃v,e i=some v∧Ev cond ⟨r',σ.H⟩ true∧Ev elt ⟨r',σ.H⟩ v):
  Ev (dH loc (M.bind (M.ne (aO fs)) fun l=>M.bind (M.lift (fN l)) fun l=>M.pure (nxL l)) (bE k) cond elt) σ ((List.range n).filterMap e):=by
 have:=Ev.comp (e:=fun x=>oI x fun i=>e i.toNat) hk (Ev.range h hn) (by rw [dE];lia) (fun i=>rfl) (fun x hx r' ha hl=>by
  (refine aJ (tO hx) fun i hi e_2=>?_;obtain rfl:=e_2)
  exact hstep i hi r' ha hl) (by rw [dE];exact hn)
 rw [show (List.range n).filterMap e=(eF n).filterMap fun x=>oI x fun i=>e i.toNat from by
  unfold eF
  rw [filterMap_map]
  rfl]
 exact this
theorem fT {α β:Type} (f:α→β) (l:List α):l.filterMap (fun x=>some (f x))=l.map f:=by
 induction l with
 | nil=>rfl
 | cons x l ih=>simp
theorem Ev.compRm {loc:List Nat} {k n:Nat} {fs:List (M MV)} {elt:M MV} {e:Nat→MV} {σ:St} (hk:k∈loc) (h:Ev (aO fs) σ [.int n]) (hn:n≤1000000)
  (hstep:∀i,i < n→∀r',Agr loc σ.r r'→r'.lookup k=some (.int i)→Ev elt ⟨r',σ.H⟩ (e i)):
  Ev (dH loc (M.bind (M.ne (aO fs)) fun l=>M.bind (M.lift (fN l)) fun l=>M.pure (nxL l)) (bE k) (M.pure true) elt) σ ((List.range n).map e):=by
 have:=Ev.compR (cond:=M.pure true) (elt:=elt) (e:=fun i=>some (e i)) hk h hn fun i hi r' ha hl=> .inr ⟨e i,rfl,rfl,hstep i hi r' ha hl⟩
 rw [fT] at this
 exact this
noncomputable def val (b:Int) (l:List Int):Int:=l.foldl (fun v o=>v * b+o) 0
noncomputable def fU (row:List Int):List Int:=(List.range 7).map fun k=>((val 256 row * 4).fdiv (64 ^ (6 - k))).fmod 64
theorem aTr {P:Nat→Prop} (h0:P 0) (h1:P 1) (h2:P 2) (h3:P 3) (h4:P 4) (h5:P 5) (h6:P 6):∀k,k < 7→P k:=
 fun k h=>by
  rcases k with _|_|_|_|_|_|_|k
  ·exact h0
  ·exact h1
  ·exact h2
  ·exact h3
  ·exact h4
  ·exact h5
  ·exact h6
  ·exact absurd h (Nat.not_lt.mpr (Nat.le_add_left 7 k))
theorem xU {x v:Nat} {b:Int} {l:List Int} {body:M Fl} (hxv:x≠v) (hbody:∀(r:List (Nat×MV)) (H:List MO) (o w:Int),r.lookup x=some (.int o)→r.lookup v=some (.int w)→body ⟨r,H⟩=some (.ok .next,⟨aL v (.int (w * b+o)) r,H⟩))
  {r:List (Nat×MV)} {H:List MO} (hv:r.lookup v=some (.int 0)):∃r',iI (fun i _=>some (l.map MV.int)[i]?) (bE x) body (l.length+1) 0 ⟨r,H⟩=some (.ok .next,⟨r',H⟩)∧r'.lookup v=some (.int (val b l)):=by
 obtain ⟨σ',h1,h2,h3⟩:=eE (nx:=fun i _=>some (l.map MV.int)[i]?) (tg:=bE x) (body:=body) (l:=l.map MV.int) (fun i σ=>σ.H=H∧σ.r.lookup v=some (.int (val b (l.take i)))) (fun i σ _=>rfl)
  (fun i y σ hp hy=>by
   obtain ⟨hH,hl⟩:=hp
   rw [getElem?_map] at hy
   (refine aJ (map_eq_some_iff.mp hy) fun o ho e_1=>?_;obtain rfl:=e_1)
   refine ⟨_,_,.next,dO,hbody _ _ o _ (by rw [aS,if_pos rfl]) (by rw [aS,if_neg (Ne.symm hxv)];exact hl),.inl rfl,hH,?_⟩
   show List.lookup v (aL v _ _)=_
   rw [aS,if_pos rfl,take_add_one,ho]
   unfold val
   simp [foldl_append]) (l.length+1) 0 ⟨r,H⟩ (by simp) (Nat.zero_le _) ⟨rfl,by simpa [val] using hv⟩
 obtain ⟨r',H'⟩:=σ'
 simp only at h2 h3
 subst h2
 refine ⟨r',h1,?_⟩
 rw [length_map,take_length] at h3
 exact h3
theorem vD (row:List Int):Φ_27 [.lst (row.map .int)] []=some (.lst ((fU row).map .int)):=by
 refine eQ (f:=aMi.1) (ps:= [56]) (hM _) ?_
 refine aJ (xU (x:=39) (v:=81) (b:=256) (l:=row) (by decide) (body:=(((aF 81).bind fun x=>(M.lift (kM (Const.int 256))).bind fun y=>M.lift (bM Operator.Mult x y)).bind
        fun x=>(aF 39).bind fun y=>M.lift (bM Operator.Add x y)).bind
      fun y=>(bE 81 y).bind fun x=>M.pure Fl.next) (fun r H o w ho hw=>(aA (show Ev _ _ (.int (w * 256+o)) by (repeat' (first|exact Ev.pure|exact Ev.var (by assumption)|apply Ev.bind)))).trans rfl) (r:= [(56,.lst (row.map .int)),(81,.int 0)]) (H:= []) rfl) fun r' h1 h2=>?_
 simp only [aMi]
 refine ⟨⟨r',[]⟩,(aG (σ':=⟨[(56,.lst (row.map .int)),(81,.int 0)],[]⟩) rfl).trans ((aG (σ':=⟨r',[]⟩) ?_).trans ?_)⟩
 ·refine (aA (bJ (Ev.bind (Ev.var rfl) Ev.src_lst))).trans ?_
  simp only [length_map]
  exact h1
 ·refine aA (Ev.bind (Ev.ne (Ev.compRm (n:=7) (e:=fun k=> .int (((val 256 row * 4).fdiv (64 ^ (6 - k))).fmod 64)) (by decide) (Ev.cons (Ev.lift rfl) Ev.nil) (by decide) fun k hk r2 ha hl=>?_)) ?_)
  ·have hv:r2.lookup 81=some (.int (val 256 row)):=(ha 81 (by decide)).trans h2
   have:k=0∨k=1∨k=2∨k=3∨k=4∨k=5∨k=6:=by lia
   rcases this with rfl|rfl|rfl|rfl|rfl|rfl|rfl <;> (repeat' (first|exact Ev.pure|exact Ev.var (by assumption)|apply Ev.bind))
  ·show some _=some _
   unfold fU
   rw [map_map]
   rfl
theorem Ev.bytes {l:List Int} {σ:St} (hb:∀i∈l,0≤i∧i < 256) (hz:l.length≤1000000):Ev (mN [.lst (l.map .int)]) σ (.bytes l):=by
 show Ev (M.bind (cK (.lst (l.map .int))) fun l=>M.lift ((fC l).bind fun ns=>if aFw ns && cC l.length then some (MV.bytes ns) else none)) _ _
 refine Ev.bind (a:=l.map MV.int) (show Ev _ _ _ from rfl) (Ev.lift ?_)
 rw [fE,Option.bind_some,if_pos]
 rw [Bool.and_eq_true]
 refine ⟨all_eq_true.mpr fun i hi=>?_,bK (by simpa using hz)⟩
 rw [Bool.and_eq_true,decide_eq_true_iff,decide_eq_true_iff]
 exact hb i hi
theorem gR (a:Int) {b:Int} (hb:0 < b):0≤a.fmod b∧a.fmod b < b:=⟨Int.fmod_nonneg_of_pos a hb,Int.fmod_lt_of_pos a hb⟩
noncomputable def iP (fs:List Int):List Int:=(List.range 5).map fun k=>(((val 64 fs).fdiv 4).fdiv (256 ^ (4 - k))).fmod 256
theorem rF (fs:List Int):∀i∈iP fs,0≤i∧i < 256:=by
 intro i hi
 unfold iP at hi
 (refine aJ (mem_map.mp hi) fun k _ e_3=>?_;obtain rfl:=e_3)
 exact gR _ (by decide)
theorem xV (fs:List Int):Φ_28 [.lst (fs.map .int)] []=some (.bytes (iP fs)):=by
 refine eQ (f:=aMj.1) (ps:= [18]) (cX _) ?_
 refine aJ (xU (x:=17) (v:=81) (b:=64) (l:=fs) (by decide) (body:=(((aF 81).bind fun x=>(M.lift (kM (Const.int 64))).bind fun y=>M.lift (bM Operator.Mult x y)).bind
        fun x=>(aF 17).bind fun y=>M.lift (bM Operator.Add x y)).bind
      fun y=>(bE 81 y).bind fun x=>M.pure Fl.next) (fun r H o w ho hw=>(aA (show Ev _ _ (.int (w * 64+o)) by (repeat' (first|exact Ev.pure|exact Ev.var (by assumption)|apply Ev.bind)))).trans rfl) (r:= [(18,.lst (fs.map .int)),(81,.int 0)]) (H:= []) rfl) fun r' h1 h2=>?_
 simp only [aMj]
 refine ⟨⟨r',[]⟩,(aG (σ':=⟨[(18,.lst (fs.map .int)),(81,.int 0)],[]⟩) rfl).trans ((aG (σ':=⟨r',[]⟩) ?_).trans ?_)⟩
 ·refine (aA (bJ (Ev.bind (Ev.var rfl) Ev.src_lst))).trans ?_
  simp only [length_map]
  exact h1
 ·refine aA (Ev.bind (Ev.cons (Ev.bind (Ev.ne (Ev.compRm (n:=5) (e:=fun k=> .int ((((val 64 fs).fdiv 4).fdiv (256 ^ (4 - k))).fmod 256)) (by decide) (Ev.cons (Ev.lift rfl) Ev.nil) (by decide) fun k hk r2 ha hl=>?_)) Ev.pure) Ev.nil) ?_)
  ·have hv:r2.lookup 81=some (.int (val 64 fs)):=(ha 81 (by decide)).trans h2
   have:k=0∨k=1∨k=2∨k=3∨k=4:=by lia
   rcases this with rfl|rfl|rfl|rfl|rfl <;> (repeat' (first|exact Ev.pure|exact Ev.var (by assumption)|apply Ev.bind))
  ·have:=Ev.bytes (σ:=⟨r',[]⟩) (rF fs) (by unfold iP;simp)
   unfold iP at this
   rw [map_map] at this
   exact this
noncomputable def al (f:Int):Int:=kK.getD f.toNat 0
theorem aIa:kK.length=64:=rfl
theorem aAg {f:Int} (h0:0≤f) (h1:f < 64):kK[f.toNat]?=some (al f):=by
 have:f.toNat < kK.length:=by rw [aIa];lia
 unfold al
 rw [getD_eq_getElem?_getD,getElem?_eq_getElem this];rfl
theorem aIb {P:Int→Prop} (h:∀n:Nat,n < 64→P n) {f:Int} (h0:0≤f) (h1:f < 64):P f:=by
 have:=h f.toNat (by lia)
 rwa [Int.toNat_of_nonneg h0] at this
theorem vE {f:Int}:f∈kK→0≤f∧f < 256∧f≠61:=by
 have:∀x∈kK,0≤x∧x < 256∧x≠61:=by decide
 exact this f
theorem vF {f:Int} (h0:0≤f) (h1:f < 64):al f∈kK:=mem_of_getElem? (aAg h0 h1)
noncomputable def isI (o:Option MV) (f:Int):Bool:=(o.bind fun x=>oI x fun i=>if i=f then some () else none).isSome
theorem aMt {o:Option MV} {f:Int} (h:isI o f=true):o=some (.int f):=by
 refine elE (Option.isSome_iff_exists.mp h) fun u e=>?_
 refine aJ (bind_eq_some_iff.mp e) fun x hx e=>?_
 revert hx
 exact yQ e fun i e hx=>dG e fun q _=>q ▸ hx
theorem iQ {f:Int} (h0:0≤f) (h1:f < 64):Φ_16 [.int (al f)] []=some (.int f):=by
 refine aIb (P:=fun f=>Φ_16 [.int (al f)] []=some (.int f)) ?_ h0 h1
 have:(List.range 64).all (fun n=>isI (Φ_16 [.int (al n)] []) n)=true:=by decide+kernel
 intro n hn
 exact aMt (all_eq_true.mp this n (mem_range.mpr hn))
theorem aRd {f g:Int} (h0:0≤f) (h1:f < 64) (h2:0≤g) (h3:g < 64) (h:al f=al g):f=g:=by
 have a:=iQ h0 h1
 rw [h,iQ h2 h3] at a
 cases a;rfl
noncomputable def txt (fs:List Int):List Int:=fs.map al++ [61]
theorem aEi (fs:List Int) (hf:∀f∈fs,0≤f∧f < 64) (hz:fs.length≤1000):Φ_29 [.lst (fs.map .int)] []=some (.bytes (txt fs)):=by
 refine eQ (f:=aMk.1) (ps:= [18]) (cX _) ?_
 simp only [aMk]
 refine ⟨⟨[(18,.lst (fs.map .int)),(2,.bytes kK)],[]⟩,(aG (σ':=⟨[(18,.lst (fs.map .int)),(2,.bytes kK)],[]⟩) rfl).trans ?_⟩
 refine aA (Ev.bind (Ev.bind (b:=MV.bytes (fs.map al)) (Ev.cons (Ev.bind (Ev.ne (Ev.comp (e:=fun x=>oI x fun f=>some (.int (al f))) (by decide) (Ev.bind (Ev.var rfl) Ev.src_lst) (Nat.lt_succ_self _) (fun i=>rfl) (fun x hx r2 ha hl=>?_) ?_)) Ev.pure) Ev.nil) ?_) (Ev.bind (Ev.lift rfl) (Ev.lift ?_)))
 ·(refine aJ (mem_map.mp hx) fun f hfm e_2=>?_;obtain rfl:=e_2)
  obtain ⟨h0,h1⟩:=hf f hfm
  have hv:r2.lookup 2=some (.bytes kK):=ha 2 (by decide)
  refine .inr ⟨_,rfl,rfl,Ev.bind (Ev.var hv) (Ev.bind (Ev.var hl) ?_)⟩
  show M.liftR (idxB kK f) _=_
  have:idxB kK f=some (.ok (.int (al f))):=by
   unfold idxB
   rw [if_pos (by rw [Bool.and_eq_true];exact ⟨decide_eq_true h0,rfl⟩),aAg h0 h1]
  rw [this];rfl
 ·simp;lia
 ·have e:(fs.map MV.int).filterMap (fun x=>oI x fun f=>some (.int (al f)))=(fs.map al).map MV.int:=by
   rw [filterMap_map,map_map];exact fT (fun f=>MV.int (al f)) fs
  rw [e]
  refine Ev.bytes (fun i hi=>?_) (by simp;lia)
  (refine aJ (mem_map.mp hi) fun f hfm e_1=>?_;obtain rfl:=e_1)
  obtain ⟨h0,h1⟩:=hf f hfm
  have:=vE (vF h0 h1)
  exact ⟨this.1,this.2.1⟩
 ·show (if cC _=true then some (MV.bytes (fs.map al++ [61])) else none)=_
  rw [if_pos (bK (by simp;lia))]
  rfl
theorem aMu (x y:Nat):Builtin.bitOr (x:Int) (y:Int)=((x|||y:Nat):Int):=by
 unfold Builtin.bitOr Builtin.bitAnd Builtin.bitNot
 have h1:¬(0≤ -(x:Int) - 1):=by lia
 have h2:¬(0≤ -(y:Int) - 1):=by lia
 simp only [decide_eq_false h1,decide_eq_false h2]
 have e1:(-(-(x:Int) - 1) - 1)=(x:Int):=by lia
 have e2:(-(-(y:Int) - 1) - 1)=(y:Int):=by lia
 rw [e1,e2,Int.toNat_natCast,Int.toNat_natCast]
 lia
theorem aCf {c b:Int} (k:Nat) (hc:0≤c) (hb0:0≤b) (hb:b < 2 ^ k):Builtin.bitOr (c * 2 ^ k) b=c * 2 ^ k+b:=by
 obtain ⟨m,rfl⟩:=Int.eq_ofNat_of_zero_le hc
 obtain ⟨n,rfl⟩:=Int.eq_ofNat_of_zero_le hb0
 have hn:n < 2 ^ k:=by exact_mod_cast hb
 have e:((m:Int) * 2 ^ k)=((2 ^ k * m:Nat):Int):=by push_cast;rw [Int.mul_comm]
 rw [e,aMu,←Nat.two_pow_add_eq_or_of_lt hn]
 push_cast;rfl
theorem dI {t:M Bool} {f g:M Fl} {k:Nat} {σ σ':St} (h:Ev t σ true) (hb:f σ=some (.ok .next,σ')):bW t f g (k+1) σ=bW t f g k σ':=by
 show (M.bind t _) σ=_
 rw [aA h]
 exact aA hb
theorem gH {t:M Bool} {f:M Fl} {k:Nat} {σ:St} (h:Ev t σ false):bW t f (M.pure .next) (k+1) σ=some (.ok .next,σ):=by
 show (M.bind t _) σ=_
 rw [aA h]
structure BSt (σ:St) (L c:Int) (out:List Int):Prop where
 H:σ.H= [.list (out.map .int)]
 o:σ.r.lookup 42=some (.cell 0)
 l:σ.r.lookup 28=some (.int L)
 c:σ.r.lookup 29=some (.int c)
 n:σ.r.lookup 33=some (.bool false)
theorem aPv {x:Int} {σ:St} (h0:0≤x) (h1:x < 64):Ev (cA (.bytes kK) (.int x)) σ (.int (al x)):=by
 show M.liftR (idxB kK x) _=_
 have:idxB kK x=some (.ok (.int (al x))):=by
  unfold idxB
  rw [if_pos (by rw [Bool.and_eq_true];exact ⟨decide_eq_true h0,rfl⟩),aAg h0 h1]
 rw [this];rfl
theorem aCg {σ:St} {L:List MV} {y:MV} (hH:σ.H= [.list L]) (hz:L.length≤1000):cQ [.cell 0,y] σ=some (.ok .none,⟨σ.r,[.list (L++ [y])]⟩):=by
 show (pL σ.H[0]? fun l=>if cC l.length=true then lW 0 (l++ [y]) .none σ else none)=_
 rw [hH]
 refine (if_pos (bK (by lia))).trans ?_
 unfold lW
 rw [hH]
 rfl
theorem pX {σ:St} {out:List Int} {f:M MV} {x:Int} (hH:σ.H= [.list (out.map .int)]) (ho:σ.r.lookup 42=some (.cell 0)) (hf:Ev f σ (.int x)) (hz:out.length≤1000):
  (((aF 42).bind fun x=>(lstCk x).bind fun x_1=>(aO [f]).bind fun l=>cQ (x::l)).bind fun x=>M.pure Fl.next) σ=some (.ok .next,⟨σ.r,[.list ((out++ [x]).map .int)]⟩):=by
 have e:((aF 42).bind fun x=>(lstCk x).bind fun x_1=>(aO [f]).bind fun l=>cQ (x::l)) σ=some (.ok .none,⟨σ.r,[.list ((out++ [x]).map .int)]⟩):=by
  rw [aA (bA ho),aA (show lstCk (.cell 0) σ=some (.ok (),σ) by unfold lstCk;rw [hH];rfl),aA (Ev.cons hf Ev.nil)]
  exact (aCg hH (by simp;lia)).trans (by simp)
 rw [aA e]
noncomputable abbrev tP:M Bool:=(aF 28).bind fun x=>(M.lift (kM (Const.int 6))).bind fun y=>M.lift (cG CmpOp.GtE x y)
noncomputable abbrev xW:M Fl:=bS (((aF 42).bind fun x=>(lstCk x).bind fun x_1=>(aO [(M.pure (MV.bytes kK)).bind fun x=>(((aF 29).bind fun x=>((aF 28).bind fun x=>(M.lift (kM (Const.int 6))).bind fun y=>M.lift (bM Operator.Sub x y)).bind fun y=>M.lift (bM Operator.RShift x y)).bind fun x=>(M.lift (kM (Const.int 63))).bind fun y=>M.lift (bM Operator.BitAnd x y)).bind fun y=>cA x y]).bind fun l=>cQ (x::l)).bind fun x=>M.pure Fl.next) (((aF 28).bind fun x=>(M.lift (kM (Const.int 6))).bind fun y=>M.lift (bM Operator.Sub x y)).bind fun y=>(bE 28 y).bind fun x=>M.pure Fl.next)
theorem aAh {σ:St} {L c:Int} {out:List Int} {k:Nat} (h:BSt σ L c out) (hL:6≤L) (hL':L≤12) (hz:out.length≤1000):
  ∃σ',bW tP xW (M.pure .next) (k+1) σ=bW tP xW (M.pure .next) k σ'∧BSt σ' (L - 6) c (out++ [al ((c.fdiv (2 ^ (L - 6).toNat)) % 64)]):=by
 have ht:Ev tP σ true:=by
  refine Ev.bind (Ev.var h.l) (Ev.bind (Ev.lift rfl) (Ev.lift ?_))
  show some (decide (L≥6))=some true
  rw [decide_eq_true hL]
 refine ⟨⟨aL 28 (.int (L - 6)) σ.r,[.list ((out++ [al ((c.fdiv (2 ^ (L - 6).toNat)) % 64)]).map .int)]⟩,dI ht ?_,⟨rfl,?_,?_,?_,?_⟩⟩
 ·refine (aG (pX (x:=al ((c.fdiv (2 ^ (L - 6).toNat)) % 64)) h.H h.o ?_ hz)).trans ?_
  ·refine Ev.bind Ev.pure (Ev.bind (Ev.bind (Ev.bind (Ev.var h.c) (Ev.bind (Ev.bind (Ev.var h.l) (Ev.bind (Ev.lift rfl) (Ev.lift rfl))) (Ev.lift (a:= .int (c.fdiv (2 ^ (L - 6).toNat))) ?_))) (Ev.bind (Ev.lift rfl) (Ev.lift (a:= .int ((c.fdiv (2 ^ (L - 6).toNat)) % 64)) ?_))) (aPv (Int.emod_nonneg _ (by decide)) (Int.emod_lt_of_pos _ (by decide))))
   ·show ((if decide (0≤L - 6)=true then some (c.fdiv (2 ^ (L - 6).toNat)) else none):Option Int).map MV.int=_
    rw [if_pos (decide_eq_true (by lia))];rfl
   ·show some (MV.int (Builtin.bitAnd _ 63))=_
    rw [PyProof.Rows.bitAnd_m6]
  ·refine (aA (a:=MV.int (L - 6)) (σ':=⟨σ.r,[.list ((out++ [al ((c.fdiv (2 ^ (L - 6).toNat)) % 64)]).map .int)]⟩) ?_).trans rfl
   have hl:=h.l
   exact (by (repeat' (first|exact Ev.pure|exact Ev.var (by assumption)|apply Ev.bind)):Ev (M.bind (aF 28) fun x=>M.bind (M.lift (kM (Const.int 6))) fun y=>M.lift (bM Operator.Sub x y)) ⟨σ.r,[.list ((out++ [al ((c.fdiv (2 ^ (L - 6).toNat)) % 64)]).map .int)]⟩ (MV.int (L - 6)))
 ·exact (aS ..).trans ((if_neg (by decide)).trans h.o)
 ·exact (aS ..).trans (if_pos rfl)
 ·exact (aS ..).trans ((if_neg (by decide)).trans h.c)
 ·exact (aS ..).trans ((if_neg (by decide)).trans h.n)
theorem aPw {σ:St} {L c:Int} {out:List Int} {k:Nat} (h:BSt σ L c out) (hL:L < 6):bW tP xW (M.pure .next) (k+1) σ=some (.ok .next,σ):=by
 refine gH (Ev.bind (Ev.var h.l) (Ev.bind (Ev.lift rfl) (Ev.lift ?_)))
 show some (decide (L≥6))=some false
 rw [decide_eq_false (by lia)]
noncomputable abbrev rG:M Fl:=bS (((((aF 29).bind fun x=>(M.lift (kM (Const.int 8))).bind fun y=>M.lift (bM Operator.LShift x y)).bind fun x=>(aF 6).bind fun y=>M.lift (bM Operator.BitOr x y)).bind fun x=>(M.lift (kM (Const.int 65535))).bind fun y=>M.lift (bM Operator.BitAnd x y)).bind fun y=>(bE 29 y).bind fun x=>M.pure Fl.next) (bS (((aF 28).bind fun x=>(M.lift (kM (Const.int 8))).bind fun y=>M.lift (bM Operator.Add x y)).bind fun y=>(bE 28 y).bind fun x=>M.pure Fl.next) (bW tP xW (M.pure Fl.next) 1000))
theorem aIc {σ:St} {L c b:Int} {out:List Int} (h:BSt σ L c out) (hb:σ.r.lookup 6=some (.int b)) (hc0:0≤c) (hc:c < 65536) (hb0:0≤b) (hb1:b < 256):
  ∃σ',rG σ=bW tP xW (M.pure Fl.next) 1000 σ'∧BSt σ' (L+8) ((c * 256+b) % 65536) out:=by
 have e1:Ev ((((aF 29).bind fun x=>(M.lift (kM (Const.int 8))).bind fun y=>M.lift (bM Operator.LShift x y)).bind fun x=>(aF 6).bind fun y=>M.lift (bM Operator.BitOr x y)).bind
   fun x=>(M.lift (kM (Const.int 65535))).bind fun y=>M.lift (bM Operator.BitAnd x y)) σ (.int ((c * 256+b) % 65536)):=by
  refine Ev.bind (Ev.bind (Ev.bind (Ev.var h.c) (Ev.bind (Ev.lift rfl) (Ev.lift (a:= .int (c * 2 ^ 8)) ?_))) (Ev.bind (Ev.var hb) (Ev.lift (a:= .int (c * 256+b)) ?_))) (Ev.bind (Ev.lift rfl) (Ev.lift ?_))
  ·show ((if (decide ((0:Int)≤8) && decide ((8:Int)≤1000) && small c)=true then some (c * 2 ^ (8:Int).toNat) else none):Option Int).map MV.int=_
   rw [if_pos]
   ·rfl
   ·rw [Bool.and_eq_true]
    exact ⟨rfl,fG.mpr (by lia)⟩
  ·show some (MV.int (Builtin.bitOr (c * 2 ^ 8) b))=_
   rw [aCf 8 hc0 hb0 (by lia)]
   rfl
  ·show some (MV.int (Builtin.bitAnd _ 65535))=_
   rw [PyProof.Rows.bitAnd_m16]
 have r1:=(aA (g:=fun y=>(bE 29 y).bind fun x=>M.pure Fl.next) e1)
 refine ⟨⟨aL 28 (.int (L+8)) (aL 29 (.int ((c * 256+b) % 65536)) σ.r),σ.H⟩,?_,?_⟩
 ·refine (aG (σ':=⟨aL 29 (.int ((c * 256+b) % 65536)) σ.r,σ.H⟩) r1).trans ?_
  have hl:(aL 29 (.int ((c * 256+b) % 65536)) σ.r).lookup 28=some (.int L):=(aS ..).trans ((if_neg (by decide)).trans h.l)
  refine aG ?_
  refine (aA (a:=MV.int (L+8)) (σ':=⟨aL 29 (.int ((c * 256+b) % 65536)) σ.r,σ.H⟩) ?_).trans rfl
  exact (by (repeat' (first|exact Ev.pure|exact Ev.var (by assumption)|apply Ev.bind)):Ev (M.bind (aF 28) fun x=>M.bind (M.lift (kM (Const.int 8))) fun y=>M.lift (bM Operator.Add x y)) ⟨aL 29 (.int ((c * 256+b) % 65536)) σ.r,σ.H⟩ (MV.int (L+8)))
 ·refine ⟨h.H,?_,?_,?_,?_⟩
  ·exact (aS ..).trans ((if_neg (by decide)).trans ((aS ..).trans ((if_neg (by decide)).trans h.o)))
  ·exact (aS ..).trans (if_pos rfl)
  ·exact (aS ..).trans ((if_neg (by decide)).trans ((aS ..).trans (if_pos rfl)))
  ·exact (aS ..).trans ((if_neg (by decide)).trans ((aS ..).trans ((if_neg (by decide)).trans h.n)))
theorem aCh {σ:St} {L c b:Int} {out:List Int} (hL:L=0∨L=2) (h:BSt σ L c out) (hb:σ.r.lookup 6=some (.int b)) (hc0:0≤c) (hc:c < 65536) (hb0:0≤b) (hb1:b < 256) (hz:out.length≤1000):
  ∃σ',rG σ=some (.ok .next,σ')∧BSt σ' (L+2) ((c * 256+b) % 65536) (out++ [al ((((c * 256+b) % 65536).fdiv (2 ^ (L+8 - 6).toNat)) % 64)]):=by
 refine aJ (aIc h hb hc0 hc hb0 hb1) fun σ₁ e1 s1=>?_
 refine aJ (aAh (k:=999) s1 (by lia) (by lia) hz) fun σ₂ e2 s2=>?_
 refine ⟨σ₂,e1.trans (e2.trans (aPw (k:=998) s2 (by lia))),?_⟩
 have:L+8 - 6=L+2:=by lia
 rw [this] at s2 ⊢
 exact s2
theorem aMv {σ:St} {c b:Int} {out:List Int} (h:BSt σ 4 c out) (hb:σ.r.lookup 6=some (.int b)) (hc0:0≤c) (hc:c < 65536) (hb0:0≤b) (hb1:b < 256) (hz:out.length≤900):
  ∃σ',rG σ=some (.ok .next,σ')∧BSt σ' 0 ((c * 256+b) % 65536) (out++ [al ((((c * 256+b) % 65536).fdiv 64) % 64)]++ [al ((((c * 256+b) % 65536).fdiv 1) % 64)]):=by
 refine aJ (aIc h hb hc0 hc hb0 hb1) fun σ₁ e1 s1=>?_
 refine aJ (aAh (k:=999) s1 (by lia) (by lia) (by lia)) fun σ₂ e2 s2=>?_
 refine aJ (aAh (k:=998) s2 (by lia) (by lia) (by simp;lia)) fun σ₃ e3 s3=>?_
 exact ⟨σ₃,e1.trans (e2.trans (e3.trans (aPw (k:=997) s3 (by lia)))),s3⟩
theorem cY {nx:Nxt} {tg:MV→M Unit} {body:M Fl} {k i:Nat} {σ σ₁ σ₂:St} {x:MV} (h1:nx i σ.H=some (some x)) (h2:tg x σ=some (.ok (),σ₁)) (h3:body σ₁=some (.ok .next,σ₂)):iI nx tg body (k+1) i σ=iI nx tg body k (i+1) σ₂:=by
 rw [iI]
 simp only [h1]
 rw [aA (bJ h2),aA (bJ h3)]
theorem rH {nx:Nxt} {tg:MV→M Unit} {body:M Fl} {k i:Nat} {σ:St} (h1:nx i σ.H=some none):iI nx tg body (k+1) i σ=some (.ok .next,σ):=by
 rw [iI]
 simp only [h1]
theorem BSt.six {σ:St} {L c:Int} {out:List Int} (h:BSt σ L c out) (v:MV):BSt ⟨aL 6 v σ.r,σ.H⟩ L c out:=
 ⟨h.H,(aS ..).trans ((if_neg (by decide)).trans h.o),(aS ..).trans ((if_neg (by decide)).trans h.l),(aS ..).trans ((if_neg (by decide)).trans h.c),(aS ..).trans ((if_neg (by decide)).trans h.n)⟩
theorem aTs {σ:St} {c b:Int} {out:List Int} (h:BSt σ 0 c out) (hb:σ.r.lookup 6=some (.int b)) (hc0:0≤c) (hc:c < 65536) (hb0:0≤b) (hb1:b < 256) (hz:out.length≤900):
  ∃σ' c',rG σ=some (.ok .next,σ')∧BSt σ' 2 c' (out++ [al (b / 4)])∧0≤c'∧c' < 65536∧c' % 256=b:=by
 refine aJ (aCh (.inl rfl) h hb hc0 hc hb0 hb1 (by lia)) fun σ' e s=>?_
 rw [show ((c * 256+b) % 65536).fdiv (2 ^ ((0:Int)+8 - 6).toNat) % 64=b / 4 from by rw [Int.fdiv_eq_ediv_of_nonneg _ (by decide)];show (c * 256+b) % 65536 / 4 % 64=_;lia] at s
 exact ⟨σ',_,e,s,by first|lia|omega,by first|lia|omega,by lia⟩
theorem aTt {σ:St} {c b:Int} {out:List Int} (h:BSt σ 2 c out) (hb:σ.r.lookup 6=some (.int b)) (hc0:0≤c) (hc:c < 65536) (hb0:0≤b) (hb1:b < 256) (hz:out.length≤900):
  ∃σ' c',rG σ=some (.ok .next,σ')∧BSt σ' 4 c' (out++ [al ((c % 4) * 16+b / 16)])∧0≤c'∧c' < 65536∧c' % 256=b:=by
 refine aJ (aCh (.inr rfl) h hb hc0 hc hb0 hb1 (by lia)) fun σ' e s=>?_
 rw [show ((c * 256+b) % 65536).fdiv (2 ^ ((2:Int)+8 - 6).toNat) % 64=(c % 4) * 16+b / 16 from by rw [Int.fdiv_eq_ediv_of_nonneg _ (by decide)];show (c * 256+b) % 65536 / 16 % 64=_;lia] at s
 exact ⟨σ',_,e,s,by first|lia|omega,by first|lia|omega,by lia⟩
theorem aUo {σ:St} {c b:Int} {out:List Int} (h:BSt σ 4 c out) (hb:σ.r.lookup 6=some (.int b)) (hc0:0≤c) (hc:c < 65536) (hb0:0≤b) (hb1:b < 256) (hz:out.length≤900):
  ∃σ' c',rG σ=some (.ok .next,σ')∧BSt σ' 0 c' (out++ [al ((c % 16) * 4+b / 64)]++ [al (b % 64)])∧0≤c'∧c' < 65536∧c' % 256=b:=by
 refine aJ (aMv h hb hc0 hc hb0 hb1 hz) fun σ' e s=>?_
 rw [show ((c * 256+b) % 65536).fdiv 64 % 64=(c % 16) * 4+b / 64 from by rw [Int.fdiv_eq_ediv_of_nonneg _ (by decide)];first|lia|omega,show ((c * 256+b) % 65536).fdiv 1 % 64=b % 64 from by rw [Int.fdiv_one];lia] at s
 exact ⟨σ',_,e,s,by first|lia|omega,by first|lia|omega,by lia⟩
theorem aMw {c b:Int} (h:c % 256=b):c % 4=b % 4∧c % 16=b % 16:=by lia
theorem aId {l:List Int} {b0 b1 b2 b3 b4:Int} (hl:l= [b0,b1,b2,b3,b4]) (hb:∀b∈l,0≤b∧b < 256) {σ:St} (h:BSt σ 0 0 []):
  ∃σ' c,iI (fun i _=>some (l.map MV.int)[i]?) (bE 6) rG 6 0 σ=some (.ok .next,σ')∧c % 16=b4 % 16∧BSt σ' 4 c [al (b0 / 4),al ((b0 % 4) * 16+b1 / 16),al ((b1 % 16) * 4+b2 / 64),al (b2 % 64),al (b3 / 4),al ((b3 % 4) * 16+b4 / 16)]:=by
 subst hl
 have r0:=hb b0 (by simp)
 have r1:=hb b1 (by simp)
 have r2:=hb b2 (by simp)
 have r3:=hb b3 (by simp)
 have r4:=hb b4 (by simp)
 have six:∀(σ:St) (b:Int),(⟨aL 6 (.int b) σ.r,σ.H⟩:St).r.lookup 6=some (.int b):=fun σ b=>(aS ..).trans (if_pos rfl)
 refine jF (aTs (h.six (.int b0)) (six σ b0) (by decide) (by decide) r0.1 r0.2 (by simp)) fun σ1 c1 e1 s1 l1 u1 m1=>?_
 refine jF (aTt (s1.six (.int b1)) (six σ1 b1) l1 u1 r1.1 r1.2 (by simp)) fun σ2 c2 e2 s2 l2 u2 m2=>?_
 refine jF (aUo (s2.six (.int b2)) (six σ2 b2) l2 u2 r2.1 r2.2 (by simp)) fun σ3 c3 e3 s3 l3 u3 m3=>?_
 refine jF (aTs (s3.six (.int b3)) (six σ3 b3) l3 u3 r3.1 r3.2 (by simp)) fun σ4 c4 e4 s4 l4 u4 m4=>?_
 refine jF (aTt (s4.six (.int b4)) (six σ4 b4) l4 u4 r4.1 r4.2 (by simp)) fun σ5 c5 e5 s5 l5 u5 m5=>?_
 rw [(aMw m1).1,(aMw m2).2,(aMw m4).1] at s5
 exact ⟨σ5,c5,(cY rfl dO e1).trans ((cY rfl dO e2).trans ((cY rfl dO e3).trans ((cY rfl dO e4).trans ((cY rfl dO e5).trans (rH rfl))))),(aMw m5).2,s5⟩
theorem aIe (row:List Int):∀f∈fU row,0≤f∧f < 64:=by
 intro f hf
 unfold fU at hf
 (refine aJ (mem_map.mp hf) fun k _ e_2=>?_;obtain rfl:=e_2)
 exact gR _ (by decide)
theorem aMx {fs:List Int} (hf:∀f∈fs,0≤f∧f < 64):∀i∈txt fs,0≤i∧i < 256:=by
 intro i hi
 unfold txt at hi
 rcases mem_append.mp hi with hi|hi
 ·(refine aJ (mem_map.mp hi) fun f hfm e_1=>?_;obtain rfl:=e_1)
  obtain ⟨h0,h1⟩:=hf f hfm
  have:=vE (vF h0 h1)
  exact ⟨this.1,this.2.1⟩
 ·rw [mS hi];decide
theorem Ev.call {fs gs:List (M MV)} {Φ:List MV→List MV→Option MV} {l m:List MV} {r:MV} {σ:St} (h:Ev (aO fs) σ l) (h':Ev (aO gs) σ m) (e:bV Φ l m=some r):
  Ev (M.bind (M.bind (aO fs) fun l=>M.bind (aO gs) fun m=>M.pure (l,m)) fun q=>M.lift (bV Φ q.1 q.2)) σ r:=
 Ev.bind (a:=(l,m)) (Ev.bind h (Ev.bind h' Ev.pure)) (Ev.lift e)
theorem aIf (b:Int) (l:List Int) (x:Int):val b (l++ [x])=val b l * b+x:=by unfold val;rw [foldl_append];rfl
theorem vG {b:Int} (hb:0 < b):∀(n:Nat) (l:List Int),l.length=n→(∀x∈l,0≤x∧x < b)→∀k,k < n→val b l / b ^ (n - 1 - k) % b=l.getD k 0
 | 0,l,_,_,k,hk=>absurd hk (Nat.not_lt_zero _)
 | n+1,l,hl,hx,k,hk=>by
  rcases List.eq_nil_or_concat l with rfl|⟨m,x,rfl⟩
  ·cases hl
  ·rw [List.concat_eq_append] at *
   have hm:m.length=n:=by simpa using hl
   obtain ⟨h0,h1⟩:=hx x (by simp)
   rw [aIf]
   by_cases e:k=n
   ·subst e
    rw [show k+1 - 1 - k=0 from by lia,Int.pow_zero,Int.ediv_one,Int.add_comm,Int.add_mul_emod_self_right,Int.emod_eq_of_lt h0 h1,getD_eq_getElem?_getD,getElem?_append_right (by lia),hm,Nat.sub_self];rfl
   ·have ih:=vG hb n m hm (fun y hy=>hx y (mem_append_left _ hy)) k (by lia)
    rw [show n+1 - 1 - k=(n - 1 - k)+1 from by lia,Int.pow_succ,Int.mul_comm (b ^ (n - 1 - k)) b,←Int.ediv_ediv_of_nonneg (Int.le_of_lt hb),Int.add_comm,Int.add_mul_ediv_right _ _ (Int.ne_of_gt hb),Int.ediv_eq_zero_of_lt h0 h1,Int.zero_add,ih]
    rw [getD_eq_getElem?_getD,getD_eq_getElem?_getD,getElem?_append_left (by lia)]
theorem aCi {row fs:List Int} (hf:∀f∈fs,0≤f∧f < 64) (hl:fs.length=7) (h:val 256 row * 4=val 64 fs):fU row=fs:=by
 unfold fU
 rw [h]
 refine List.ext_getElem (by simp [hl]) fun k h1 h2=>?_
 rw [List.getElem_map,List.getElem_range,Int.fmod_eq_emod_of_nonneg _ (by decide),Int.fdiv_eq_ediv_of_nonneg _ (Int.le_of_lt (Int.pow_pos (by decide)))]
 have:=vG (b:=64) (by decide) 7 fs hl hf k (by lia)
 rw [this,getD_eq_getElem?_getD,getElem?_eq_getElem h2];rfl
theorem aTu {b0 b1 b2 b3 b4:Int} (hb:∀b∈ [b0,b1,b2,b3,b4],0≤b∧b < 256):
  fU [b0,b1,b2,b3,b4]= [b0 / 4,(b0 % 4) * 16+b1 / 16,(b1 % 16) * 4+b2 / 64,b2 % 64,b3 / 4,(b3 % 4) * 16+b4 / 16,(b4 % 16) * 4]:=by
 have r0:=hb b0 (by simp)
 have r1:=hb b1 (by simp)
 have r2:=hb b2 (by simp)
 have r3:=hb b3 (by simp)
 have r4:=hb b4 (by simp)
 refine aCi (fun f hf=>?_) rfl ?_
 ·simp only [mem_cons,not_mem_nil,or_false] at hf
  rcases hf with rfl|rfl|rfl|rfl|rfl|rfl|rfl
  ·exact ⟨by lia,by lia⟩
  ·exact ⟨by lia,by lia⟩
  ·exact ⟨by lia,by lia⟩
  ·exact ⟨by lia,by lia⟩
  ·exact ⟨by lia,by lia⟩
  ·exact ⟨by lia,by lia⟩
  ·exact ⟨by lia,by lia⟩
 ·show (((((0 * 256+b0) * 256+b1) * 256+b2) * 256+b3) * 256+b4) * 4=((((((0 * 64+b0 / 4) * 64+((b0 % 4) * 16+b1 / 16)) * 64+((b1 % 16) * 4+b2 / 64)) * 64+b2 % 64) * 64+b3 / 4) * 64+((b3 % 4) * 16+b4 / 16)) * 64+(b4 % 16) * 4
  lia
theorem aIg {l:List Int} {b0 b1 b2 b3 b4:Int} (hl:l= [b0,b1,b2,b3,b4]) (hb:∀b∈l,0≤b∧b < 256):Φ_18 [.bytes l] [.bool false]=some (.bytes (txt (fU l))):=by
 have hf:=aTu (hl ▸ hb)
 rw [←hl] at hf
 refine eQ (f:=aMe.1) (ps:= [13,33]) (cX _) ?_
 have s0:BSt ⟨[(13,.bytes l),(33,.bool false),(7,.bytes l),(42,.cell 0),(28,.int 0),(29,.int 0)],[.list []]⟩ 0 0 []:=⟨rfl,rfl,rfl,rfl,rfl⟩
 refine cD (aId hl hb s0) fun σ' c e1 hc s1=>?_
 have r4:=hb b4 (by rw [hl];simp)
 have hc0:0≤c % 16∧c % 16 < 16:=⟨Int.emod_nonneg _ (by decide),Int.emod_lt_of_pos _ (by decide)⟩
 have hlen:l.length=5:=by rw [hl];rfl
 have p13:bV Φ_13 [.bytes l] []=some (.bytes l):=rfl
 have p14:bV Φ_14 [.bool false] []=some (.bool false):=rfl
 have ha:al ((b4 % 16) * 4)=al ((c % 16) * 4):=by rw [hc]
 have out7:txt (fU l)= [al (b0 / 4),al ((b0 % 4) * 16+b1 / 16),al ((b1 % 16) * 4+b2 / 64),al (b2 % 64),al (b3 / 4),al ((b3 % 4) * 16+b4 / 16)]++ [al ((c % 16) * 4)]++ [61]:=by
  rw [hf,←ha];rfl
 simp only [aMe]
 have a1:=pX (f:=(M.pure (MV.bytes kK)).bind fun x=>(((aF 29).bind fun x=>(M.lift (kM (Const.int 15))).bind fun y=>M.lift (bM Operator.BitAnd x y)).bind fun x=>(M.lift (kM (Const.int 2))).bind fun y=>M.lift (bM Operator.LShift x y)).bind fun y=>cA x y)
  (x:=al ((c % 16) * 4)) s1.H s1.o (by
   refine Ev.bind Ev.pure (Ev.bind (Ev.bind (Ev.bind (Ev.var s1.c) (Ev.bind (Ev.lift rfl) (Ev.lift (a:= .int (c % 16)) ?_))) (Ev.bind (Ev.lift rfl) (Ev.lift (a:= .int ((c % 16) * 4)) ?_))) (aPv (by lia) (by lia)))
   ·show some (MV.int (Builtin.bitAnd c 15))=_
    rw [PyProof.Rows.bitAnd_m4]
   ·show ((if (decide ((0:Int)≤2) && decide ((2:Int)≤1000) && small (c % 16))=true then some ((c % 16) * 2 ^ (2:Int).toNat) else none):Option Int).map MV.int=_
    rw [if_pos]
    ·rfl
    ·rw [Bool.and_eq_true]
     exact ⟨rfl,fG.mpr (by lia)⟩) (by simp)
 have a2:=pX (σ:=⟨σ'.r,[.list (([al (b0 / 4),al ((b0 % 4) * 16+b1 / 16),al ((b1 % 16) * 4+b2 / 64),al (b2 % 64),al (b3 / 4),al ((b3 % 4) * 16+b4 / 16)]++ [al ((c % 16) * 4)]).map .int)]⟩) (f:=M.lift (kM (Const.int 61))) (x:=61) rfl s1.o (Ev.lift rfl) (by simp)
 refine ⟨⟨σ'.r,[.list ((txt (fU l)).map .int)]⟩,(aG (σ':=⟨[(13,.bytes l),(33,.bool false),(7,.bytes l)],[]⟩) ?_).trans ((aG (σ':=⟨[(13,.bytes l),(33,.bool false),(7,.bytes l)],[]⟩) ?_).trans ((aG (σ':=⟨[(13,.bytes l),(33,.bool false),(7,.bytes l),(42,.cell 0)],[.list []]⟩) rfl).trans
  ((aG (σ':=⟨[(13,.bytes l),(33,.bool false),(7,.bytes l),(42,.cell 0),(28,.int 0)],[.list []]⟩) rfl).trans ((aG (σ':=⟨[(13,.bytes l),(33,.bool false),(7,.bytes l),(42,.cell 0),(28,.int 0),(29,.int 0)],[.list []]⟩) rfl).trans
  ((aG (σ':=σ') ?_).trans ((aG (σ':=⟨σ'.r,[.list ((txt (fU l)).map .int)]⟩) ?_).trans ((aG (σ':=⟨σ'.r,[.list ((txt (fU l)).map .int)]⟩) ?_).trans ?_)))))))⟩
 ·exact (aA (Ev.call (Ev.cons (Ev.var rfl) Ev.nil) Ev.nil p13)).trans rfl
 ·exact (aA (Ev.call (Ev.cons (Ev.var rfl) Ev.nil) Ev.nil p14)).trans rfl
 ·refine (aA (bJ (Ev.bind (Ev.var rfl) Ev.src_bytes))).trans ?_
  simp only [hlen]
  exact e1
 ·have h4:=s1.l
  refine (aA (a:=false) (by (repeat' (first|exact Ev.pure|exact Ev.var (by assumption)|apply Ev.bind)))).trans ?_
  refine (aA (a:=true) (by (repeat' (first|exact Ev.pure|exact Ev.var (by assumption)|apply Ev.bind)))).trans ?_
  refine (aG a1).trans (a2.trans ?_)
  rw [out7]
 ·have hn:=s1.n
  exact aA (a:=false) (show Ev _ _ _ by exact Ev.bind (Ev.var hn) (Ev.lift rfl))
 ·refine aA (a:=MV.bytes (txt (fU l))) (σ':=⟨σ'.r,[.list ((txt (fU l)).map .int)]⟩) ?_
  refine Ev.bind (Ev.cons (Ev.var s1.o) Ev.nil) ?_
  have hr:∀i∈txt (fU l),0≤i∧i < 256:=aMx (aIe l)
  unfold mN
  refine Ev.bind (a:=(txt (fU l)).map MV.int) (show Ev _ _ _ from rfl) (Ev.lift ?_)
  rw [fE,Option.bind_some,if_pos]
  rw [Bool.and_eq_true]
  refine ⟨all_eq_true.mpr fun i hi=>?_,bK (by rw [length_map,out7];simp)⟩
  rw [Bool.and_eq_true,decide_eq_true_iff,decide_eq_true_iff]
  exact hr i hi
theorem lC {l:List Int} {b0 b1 b2 b3 b4:Int} (hl:l= [b0,b1,b2,b3,b4]) (hb:∀b∈l,0≤b∧b < 256):Φ_20 [.bytes l] []=some (.bytes (txt (fU l))):=by
 refine eQ (f:=aMf.1) (ps:= [58,3]) (xs:= [.bytes l,.none]) (cX _) ?_
 simp only [aMf]
 have p:bV Φ_18 [.bytes l] [.bool false]=some (.bytes (txt (fU l))):=aIg hl hb
 refine ⟨⟨[(58,.bytes l),(3,.none),(15,.bytes (txt (fU l)))],[]⟩,(aG (σ':=⟨[(58,.bytes l),(3,.none),(15,.bytes (txt (fU l)))],[]⟩) ?_).trans ((aG (σ':=⟨[(58,.bytes l),(3,.none),(15,.bytes (txt (fU l)))],[]⟩) rfl).trans rfl)⟩
 exact (aA (Ev.call (Ev.cons (Ev.var rfl) Ev.nil) (Ev.cons (Ev.lift rfl) Ev.nil) p)).trans rfl
noncomputable abbrev aIh:M Fl:=(bS
  (((aF 75).bind fun x=>
     (M.lift (kM (Const.int 61))).bind fun y=>M.lift (cG CmpOp.Eq x y)).bind
   fun x=>
   match x with
   | true=>
    bS
     (((aF 44).bind fun x=>
        (M.lift (kM (Const.int 1))).bind fun y=>M.lift (bM Operator.Add x y)).bind
      fun y=>(bE 44 y).bind fun x=>M.pure Fl.next)
     (bS
      ((andM
         ((aF 54).bind fun x=>(M.lift (kM (Const.int 2))).bind fun y=>M.lift (cG CmpOp.GtE x y))
         (andM (((aF 54).bind fun x=>(aF 44).bind fun y=>M.lift (bM Operator.Add x y)).bind fun x=>(M.lift (kM (Const.int 4))).bind fun y=>M.lift (cG CmpOp.LtE x y)) (M.pure (BoolOp.And==BoolOp.And)))).bind
       fun x=>
       match x with
       | true=>
        bS
         (((aF 23).bind fun x=>(M.lift (kM (Const.int 1))).bind fun y=>M.lift (bM Operator.Add x y)).bind fun y=>(bE 23 y).bind fun x=>M.pure Fl.next)
         (M.pure Fl.cont)
       | false=>M.pure Fl.next)
      (bS
       ((((aF 69).bind fun x=>M.lift (trM x)).bind fun b=>M.pure !b).bind fun x=>
        match x with
        | true=>
         bS (((aF 23).bind fun x=>(M.lift (kM (Const.int 1))).bind fun y=>M.lift (bM Operator.Add x y)).bind fun y=>(bE 23 y).bind fun x=>M.pure Fl.next) (M.pure Fl.cont)
        | false=>M.pure Fl.next)
       (bS
        (((aF 54).bind fun x=>(M.lift (kM (Const.int 1))).bind fun y=>M.lift (cG CmpOp.Eq x y)).bind
         fun x=>
         match x with
         | true=>M.pure Fl.brk
         | false=>M.pure Fl.next)
        (bS
         ((andM ((aF 54).bind fun x=>(M.lift (kM (Const.int 0))).bind fun y=>M.lift (cG CmpOp.Eq x y)) (andM ((aF 23).bind fun x=>(M.lift (kM (Const.int 0))).bind fun y=>M.lift (cG CmpOp.Eq x y)) (M.pure (BoolOp.And==BoolOp.And)))).bind fun x=>match x with
          | true=>M.fail
          | false=>M.pure Fl.next)
         M.fail))))
   | false=>M.pure Fl.next)
  (bS
   ((((aO [aF 75]).bind fun l=>(aO []).bind fun m=>M.pure (l,m)).bind fun q=>
      M.lift (bV Φ_16 q.fst q.snd)).bind
    fun y=>(bE 75 y).bind fun x=>M.pure Fl.next)
   (bS
    (((aF 75).bind fun x=>
       (M.lift (kM (Const.int 64))).bind fun y=>M.lift (cG CmpOp.GtE x y)).bind
     fun x=>
     match x with
     | true=>
      bS
       (((aF 69).bind fun x=>M.lift (trM x)).bind fun x=>
        match x with
        | true=>M.fail
        | false=>M.pure Fl.next)
       (bS
        (((aF 23).bind fun x=>(M.lift (kM (Const.int 1))).bind fun y=>M.lift (bM Operator.Add x y)).bind
         fun y=>(bE 23 y).bind fun x=>M.pure Fl.next)
        (M.pure Fl.cont))
     | false=>M.pure Fl.next)
    (bS
     ((andM ((aF 44).bind fun x=>M.lift (trM x))
        (andM ((aF 69).bind fun x=>M.lift (trM x))
         (M.pure (BoolOp.And==BoolOp.And)))).bind
      fun x=>
      match x with
      | true=>
       bS
        ((((aF 54).bind fun x=>(aF 44).bind fun y=>M.lift (bM Operator.Add x y)).bind fun x=>(M.lift (kM (Const.int 4))).bind fun y=>M.lift (cG CmpOp.Eq x y)).bind
         fun x=>
         match x with
         | true=>M.fail
         | false=>M.pure Fl.next)
        M.fail
      | false=>M.pure Fl.next)
     (bS ((M.lift (kM (Const.int 0))).bind fun y=>(bE 44 y).bind fun x=>M.pure Fl.next)
      (bS
       (((aF 54).bind fun x=>(M.lift (kM (Const.int 0))).bind fun y=>M.lift (cG CmpOp.Eq x y)).bind
        fun x=>
        match x with
        | true=>
         bS ((M.lift (kM (Const.int 1))).bind fun y=>(bE 54 y).bind fun x=>M.pure Fl.next) ((aF 75).bind fun y=>(bE 29 y).bind fun x=>M.pure Fl.next)
        | false=>
         ((aF 54).bind fun x=>(M.lift (kM (Const.int 1))).bind fun y=>M.lift (cG CmpOp.Eq x y)).bind fun x=>match x with
          | true=>bS ((M.lift (kM (Const.int 2))).bind fun y=>(bE 54 y).bind fun x=>M.pure Fl.next) (bS (((aF 42).bind fun x=>(lstCk x).bind fun x_1=>(aO [((aF 29).bind fun x=>(M.lift (kM (Const.int 2))).bind fun y=>M.lift (bM Operator.LShift x y)).bind fun x=>((aF 75).bind fun x=>(M.lift (kM (Const.int 4))).bind fun y=>M.lift (bM Operator.RShift x y)).bind fun y=>M.lift (bM Operator.BitOr x y)]).bind fun l=>cQ (x::l)).bind fun x=>M.pure Fl.next) (((aF 75).bind fun x=>(M.lift (kM (Const.int 15))).bind fun y=>M.lift (bM Operator.BitAnd x y)).bind fun y=>(bE 29 y).bind fun x=>M.pure Fl.next))
          | false=>((aF 54).bind fun x=>(M.lift (kM (Const.int 2))).bind fun y=>M.lift (cG CmpOp.Eq x y)).bind fun x=>match x with
            | true=>bS ((M.lift (kM (Const.int 3))).bind fun y=>(bE 54 y).bind fun x=>M.pure Fl.next) (bS (((aF 42).bind fun x=>(lstCk x).bind fun x_1=>(aO [((aF 29).bind fun x=>(M.lift (kM (Const.int 4))).bind fun y=>M.lift (bM Operator.LShift x y)).bind fun x=>((aF 75).bind fun x=>(M.lift (kM (Const.int 2))).bind fun y=>M.lift (bM Operator.RShift x y)).bind fun y=>M.lift (bM Operator.BitOr x y)]).bind fun l=>cQ (x::l)).bind fun x=>M.pure Fl.next) (((aF 75).bind fun x=>(M.lift (kM (Const.int 3))).bind fun y=>M.lift (bM Operator.BitAnd x y)).bind fun y=>(bE 29 y).bind fun x=>M.pure Fl.next))
            | false=>bS ((M.lift (kM (Const.int 0))).bind fun y=>(bE 54 y).bind fun x=>M.pure Fl.next) (bS (((aF 42).bind fun x=>(lstCk x).bind fun x_1=>(aO [((aF 29).bind fun x=>(M.lift (kM (Const.int 6))).bind fun y=>M.lift (bM Operator.LShift x y)).bind fun x=>(aF 75).bind fun y=>M.lift (bM Operator.BitOr x y)]).bind fun l=>cQ (x::l)).bind fun x=>M.pure Fl.next) ((M.lift (kM (Const.int 0))).bind fun y=>(bE 29 y).bind fun x=>M.pure Fl.next)))
       (((aF 23).bind fun x=>(M.lift (kM (Const.int 1))).bind fun y=>M.lift (bM Operator.Add x y)).bind
        fun y=>(bE 23 y).bind fun x=>M.pure Fl.next)))))))
structure ASt (σ:St) (q c p:Int) (out:List Int):Prop where
 H:σ.H= [.list (out.map .int)]
 o:σ.r.lookup 42=some (.cell 0)
 q:σ.r.lookup 54=some (.int q)
 c:σ.r.lookup 29=some (.int c)
 p:σ.r.lookup 44=some (.int p)
 s:σ.r.lookup 69=some (.bool true)
 i:∃i,σ.r.lookup 23=some (.int i)
noncomputable def nq (q:Int):Int:=if q=3 then 0 else q+1
noncomputable def nc (q f:Int):Int:=if q=0 then f else if q=1 then f % 16 else if q=2 then f % 4 else 0
noncomputable def no (q c f:Int):List Int:=if q=0 then [] else if q=1 then [c * 4+f / 16] else if q=2 then [c * 16+f / 4] else [c * 64+f]
theorem lk {x z:Nat} {y v:MV} {r:List (Nat×MV)} (h:r.lookup z=some v) (hn:z≠x):(aL x y r).lookup z=some v:=(aS ..).trans ((if_neg hn).trans h)
theorem lk' {x:Nat} {y:MV} {r:List (Nat×MV)}:(aL x y r).lookup x=some y:=(aS ..).trans (if_pos rfl)
theorem rI {c m:Int} {k:Nat} (h0:0≤c) (h1:c < 65536) (hm:((k:Int))=m) (hk:k≤100:=by decide):bM .LShift (.int c) (.int m)=some (.int (c * 2 ^ k)):=by
 subst hm
 show ((if (decide ((0:Int)≤k) && decide ((k:Int)≤1000) && small c)=true then some (c * 2 ^ (k:Int).toNat) else none):Option Int).map MV.int=_
 rw [if_pos]
 ·rfl
 ·rw [Bool.and_eq_true,Bool.and_eq_true]
  exact ⟨⟨decide_eq_true (by lia),decide_eq_true (by lia)⟩,fG.mpr (by lia)⟩
theorem xX {f m:Int} (k:Nat) (hm:((k:Int))=m):bM .RShift (.int f) (.int m)=some (.int (f / 2 ^ k)):=by
 subst hm
 show ((if decide ((0:Int)≤k)=true then some (f.fdiv (2 ^ (k:Int).toNat)) else none):Option Int).map MV.int=_
 rw [if_pos (decide_eq_true (by lia)),Int.toNat_natCast,Int.fdiv_eq_ediv_of_nonneg _ (Int.le_of_lt (Int.pow_pos (by decide)))]
 rfl
theorem vH {c f:Int} (k:Nat) (h0:0≤c) (h1:0≤f) (h2:f < 2 ^ k):bM .BitOr (.int (c * 2 ^ k)) (.int f)=some (.int (c * 2 ^ k+f)):=by
 show some (MV.int (Builtin.bitOr _ _))=_
 rw [aCf k h0 h1 h2]
theorem aUp (f:Int):bM .BitAnd (.int f) (.int 15)=some (.int (f % 16)):=by
 show some (MV.int (Builtin.bitAnd f 15))=_
 rw [PyProof.Rows.bitAnd_m4]
theorem aUq (f:Int):bM .BitAnd (.int f) (.int 3)=some (.int (f % 4)):=by
 show some (MV.int (Builtin.bitAnd f 3))=_
 rw [PyProof.Rows.bitAnd_m2]
theorem mU {σ:St} {q c f:Int} {out:List Int} (h:ASt σ q c 0 out) (hx:σ.r.lookup 75=some (.int (al f))) (h0:0≤f) (h1:f < 64) (hc0:0≤c) (hc:c < 64) (hq:q=0∨q=1∨q=2∨q=3) (hz:out.length≤900):
  ∃σ',aIh σ=some (.ok .next,σ')∧ASt σ' (nq q) (nc q f) 0 (out++no q c f):=by
 obtain ⟨i,hi⟩:=h.i
 have hal:=vE (vF h0 h1)
 have t1:Ev ((aF 75).bind fun x=>(M.lift (kM (Const.int 61))).bind fun y=>M.lift (cG CmpOp.Eq x y)) σ false:=by
  refine Ev.bind (Ev.var hx) (Ev.bind (Ev.lift rfl) (Ev.lift ?_))
  show some (decide (al f=61))=_
  rw [decide_eq_false hal.2.2]
 have p16:bV Φ_16 [.int (al f)] []=some (.int f):=iQ h0 h1
 have r1h:(aL 75 (.int f) σ.r).lookup 75=some (.int f):=lk'
 have t3:Ev ((aF 75).bind fun x=>(M.lift (kM (Const.int 64))).bind fun y=>M.lift (cG CmpOp.GtE x y)) ⟨aL 75 (.int f) σ.r,σ.H⟩ false:=by
  refine Ev.bind (Ev.var r1h) (Ev.bind (Ev.lift rfl) (Ev.lift ?_))
  show some (decide (f≥64))=_
  rw [decide_eq_false (by lia)]
 have t4:Ev (andM ((aF 44).bind fun x=>M.lift (trM x)) (andM ((aF 69).bind fun x=>M.lift (trM x)) (M.pure (BoolOp.And==BoolOp.And)))) ⟨aL 75 (.int f) σ.r,σ.H⟩ false:=
  Ev.bind (a:=false) (Ev.bind (Ev.var (lk h.p (by decide))) (Ev.lift rfl)) Ev.pure
 let r2:=aL 44 (.int 0) (aL 75 (.int f) σ.r)
 have g75:r2.lookup 75=some (.int f):=lk lk' (by decide)
 have g54:r2.lookup 54=some (.int q):=lk (lk h.q (by decide)) (by decide)
 have g29:r2.lookup 29=some (.int c):=lk (lk h.c (by decide)) (by decide)
 have g42:r2.lookup 42=some (.cell 0):=lk (lk h.o (by decide)) (by decide)
 have g23:r2.lookup 23=some (.int i):=lk (lk hi (by decide)) (by decide)
 have g69:r2.lookup 69=some (.bool true):=lk (lk h.s (by decide)) (by decide)
 have g44:r2.lookup 44=some (.int 0):=lk'
 have fin:∀(r3:List (Nat×MV)) (H3:List MO),r3.lookup 23=some (.int i)→((((aF 23).bind fun x=>(M.lift (kM (Const.int 1))).bind fun y=>M.lift (bM Operator.Add x y)).bind fun y=>(bE 23 y).bind fun x=>M.pure Fl.next) ⟨r3,H3⟩=some (.ok .next,⟨aL 23 (.int (i+1)) r3,H3⟩)):=fun r3 H3 h3=>
  (aA (show Ev _ _ (.int (i+1)) by (repeat' (first|exact Ev.pure|exact Ev.var (by assumption)|apply Ev.bind)))).trans rfl
 have tq:∀k:Int,Ev ((aF 54).bind fun x=>(M.lift (kM (Const.int k))).bind fun y=>M.lift (cG CmpOp.Eq x y)) ⟨r2,σ.H⟩ (decide (q=k)):=fun k=>Ev.bind (Ev.var g54) (Ev.bind (Ev.lift rfl) (Ev.lift rfl))
 have mk:∀(q' c':Int) (out':List Int),ASt ⟨aL 23 (.int (i+1)) (aL 29 (.int c') (aL 54 (.int q') r2)),[.list (out'.map .int)]⟩ q' c' 0 out':=fun q' c' out'=>
  ⟨rfl,lk (lk (lk g42 (by decide)) (by decide)) (by decide),lk (lk lk' (by decide)) (by decide),lk lk' (by decide),lk (lk (lk g44 (by decide)) (by decide)) (by decide),lk (lk (lk g69 (by decide)) (by decide)) (by decide),_,lk'⟩
 refine ⟨⟨aL 23 (.int (i+1)) (aL 29 (.int (nc q f)) (aL 54 (.int (nq q)) r2)),[.list ((out++no q c f).map .int)]⟩,(aG (σ':=σ) ((aA t1).trans rfl)).trans ((aG (σ':=⟨aL 75 (.int f) σ.r,σ.H⟩) ((aA (Ev.call (Ev.cons (Ev.var hx) Ev.nil) Ev.nil p16)).trans rfl)).trans
  ((aG (σ':=⟨aL 75 (.int f) σ.r,σ.H⟩) ((aA t3).trans rfl)).trans ((aG (σ':=⟨aL 75 (.int f) σ.r,σ.H⟩) ((aA t4).trans rfl)).trans ((aG (σ':=⟨r2,σ.H⟩) rfl).trans
  ((aG (σ':=⟨aL 29 (.int (nc q f)) (aL 54 (.int (nq q)) r2),[.list ((out++no q c f).map .int)]⟩) ?_).trans (fin _ _ (lk (lk g23 (by decide)) (by decide)))))))),mk _ _ _⟩
 have app:∀(q':Int) (fe:M MV) (x:Int),Ev fe ⟨aL 54 (.int q') r2,σ.H⟩ (.int x)→_:=fun q' fe x he=>pX (σ:=⟨aL 54 (.int q') r2,σ.H⟩) (out:=out) h.H (lk g42 (by decide)) he (by lia)
 rcases hq with rfl|rfl|rfl|rfl
 ·refine (aA (tq 0)).trans ((aG (σ':=⟨aL 54 (.int 1) r2,σ.H⟩) rfl).trans ?_)
  refine (aA (bA (lk g75 (by decide)))).trans ?_
  show some _=some _
  rw [h.H]
  simp [nc,nq,no]
 ·refine (aA (show Ev _ _ false from tq 0)).trans ((aA (show Ev _ _ true from tq 1)).trans ((aG (σ':=⟨aL 54 (.int 2) r2,σ.H⟩) rfl).trans ((aG (app 2 _ (c * 4+f / 16) ?_)).trans ?_)))
  ·refine Ev.bind (Ev.bind (Ev.var (lk g29 (by decide))) (Ev.bind (Ev.lift rfl) (Ev.lift (a:= .int (c * 2 ^ 2)) ?_))) (Ev.bind (Ev.bind (Ev.var (lk g75 (by decide))) (Ev.bind (Ev.lift rfl) (Ev.lift (a:= .int (f / 16)) ?_))) (Ev.lift ?_))
   ·exact rI (by lia) (by lia) rfl
   ·exact xX 4 rfl
   ·exact vH 2 hc0 (by lia) (by lia)
  ·exact (aA (Ev.bind (Ev.var (lk g75 (by decide))) (Ev.bind (Ev.lift rfl) (Ev.lift (aUp f))))).trans rfl
 ·refine (aA (show Ev _ _ false from tq 0)).trans ((aA (show Ev _ _ false from tq 1)).trans ((aA (show Ev _ _ true from tq 2)).trans ((aG (σ':=⟨aL 54 (.int 3) r2,σ.H⟩) rfl).trans ((aG (app 3 _ (c * 16+f / 4) ?_)).trans ?_))))
  ·refine Ev.bind (Ev.bind (Ev.var (lk g29 (by decide))) (Ev.bind (Ev.lift rfl) (Ev.lift (a:= .int (c * 2 ^ 4)) ?_))) (Ev.bind (Ev.bind (Ev.var (lk g75 (by decide))) (Ev.bind (Ev.lift rfl) (Ev.lift (a:= .int (f / 4)) ?_))) (Ev.lift ?_))
   ·exact rI (by lia) (by lia) rfl
   ·exact xX 2 rfl
   ·exact vH 4 hc0 (by lia) (by lia)
  ·exact (aA (Ev.bind (Ev.var (lk g75 (by decide))) (Ev.bind (Ev.lift rfl) (Ev.lift (aUq f))))).trans rfl
 ·refine (aA (show Ev _ _ false from tq 0)).trans ((aA (show Ev _ _ false from tq 1)).trans ((aA (show Ev _ _ false from tq 2)).trans ((aG (σ':=⟨aL 54 (.int 0) r2,σ.H⟩) rfl).trans ((aG (app 0 _ (c * 64+f) ?_)).trans ?_))))
  ·refine Ev.bind (Ev.bind (Ev.var (lk g29 (by decide))) (Ev.bind (Ev.lift rfl) (Ev.lift (a:= .int (c * 2 ^ 6)) ?_))) (Ev.bind (Ev.var (lk g75 (by decide))) (Ev.lift ?_))
   ·exact rI (by lia) (by lia) rfl
   ·exact vH 6 hc0 (by lia) (by lia)
  ·rfl
theorem aEj {nx:Nxt} {tg:MV→M Unit} {body:M Fl} {k i:Nat} {σ σ₁ σ₂:St} {x:MV} (h1:nx i σ.H=some (some x)) (h2:tg x σ=some (.ok (),σ₁)) (h3:body σ₁=some (.ok .cont,σ₂)):iI nx tg body (k+1) i σ=iI nx tg body k (i+1) σ₂:=by
 rw [iI]
 simp only [h1]
 rw [aA (bJ h2),aA (bJ h3)]
theorem ASt.set75 {σ:St} {q c p:Int} {out:List Int} (h:ASt σ q c p out) (v:MV):ASt ⟨aL 75 v σ.r,σ.H⟩ q c p out:=
 let ⟨i,hi⟩:=h.i
 ⟨h.H,lk h.o (by decide),lk h.q (by decide),lk h.c (by decide),lk h.p (by decide),lk h.s (by decide),i,lk hi (by decide)⟩
theorem aUr {σ:St} {c:Int} {out:List Int} (h:ASt σ 3 c 0 out) (hx:σ.r.lookup 75=some (.int 61)):∃σ',aIh σ=some (.ok .cont,σ')∧ASt σ' 3 c 1 out:=by
 obtain ⟨i,hi⟩:=h.i
 have hp:=h.p
 have g44:(aL 44 (.int 1) σ.r).lookup 44=some (.int 1):=lk'
 have g54:(aL 44 (.int 1) σ.r).lookup 54=some (.int 3):=lk h.q (by decide)
 have g23:(aL 44 (.int 1) σ.r).lookup 23=some (.int i):=lk hi (by decide)
 refine ⟨⟨aL 23 (.int (i+1)) (aL 44 (.int 1) σ.r),σ.H⟩,rE ?_ (by intro e;cases e),⟨h.H,lk (lk h.o (by decide)) (by decide),lk (lk h.q (by decide)) (by decide),lk (lk h.c (by decide)) (by decide),lk lk' (by decide),lk (lk h.s (by decide)) (by decide),_,lk'⟩⟩
 refine (aA (show Ev _ _ true by (repeat' (first|exact Ev.pure|exact Ev.var (by assumption)|apply Ev.bind)))).trans ?_
 refine (aG (σ':=⟨aL 44 (.int 1) σ.r,σ.H⟩) ((aA (show Ev _ _ (.int 1) from Ev.bind (Ev.var hp) (Ev.bind (Ev.lift rfl) (Ev.lift rfl)))).trans rfl)).trans ?_
 refine rE ?_ (by intro e;cases e)
 refine (aA (a:=true) (σ':=⟨aL 44 (.int 1) σ.r,σ.H⟩) ?_).trans ?_
 ·refine Ev.bind (a:=true) (by (repeat' (first|exact Ev.pure|exact Ev.var (by assumption)|apply Ev.bind))) (Ev.bind (a:=true) (by (repeat' (first|exact Ev.pure|exact Ev.var (by assumption)|apply Ev.bind))) Ev.pure)
 ·exact (aG (σ':=⟨aL 23 (.int (i+1)) (aL 44 (.int 1) σ.r),σ.H⟩) ((aA (show Ev _ _ (.int (i+1)) from Ev.bind (Ev.var g23) (Ev.bind (Ev.lift rfl) (Ev.lift rfl)))).trans rfl)).trans rfl
theorem aIi {fs:List Int} {f0 f1 f2 f3 f4 f5 f6:Int} (hl:fs= [f0,f1,f2,f3,f4,f5,f6]) (hf:∀f∈fs,0≤f∧f < 64) {σ:St} (h:ASt σ 0 0 0 []):
  ∃σ' c,iI (fun i _=>some ((txt fs).map MV.int)[i]?) (bE 75) aIh 9 0 σ=some (.ok .next,σ')∧ASt σ' 3 c 1 [f0 * 4+f1 / 16,(f1 % 16) * 16+f2 / 4,(f2 % 4) * 64+f3,f4 * 4+f5 / 16,(f5 % 16) * 16+f6 / 4]:=by
 subst hl
 have r0:=hf f0 (by simp)
 have r1:=hf f1 (by simp)
 have r2:=hf f2 (by simp)
 have r3:=hf f3 (by simp)
 have r4:=hf f4 (by simp)
 have r5:=hf f5 (by simp)
 have r6:=hf f6 (by simp)
 have m:∀(σ:St) (v:MV),(⟨aL 75 v σ.r,σ.H⟩:St).r.lookup 75=some v:=fun σ v=>lk'
 refine aJ (mU (h.set75 (.int (al f0))) (m _ _) r0.1 r0.2 (by decide) (by decide) (by lia) (by simp)) fun σ1 e1 s1=>?_
 refine aJ (mU (f:=f1) (q:=1) (c:=f0) (out:= []) (ASt.set75 (σ:=σ1) s1 (.int (al f1))) (m _ _) r1.1 r1.2 r0.1 r0.2 (by lia) (by simp)) fun σ2 e2 s2=>?_
 refine aJ (mU (f:=f2) (q:=2) (c:=f1 % 16) (out:= [f0 * 4+f1 / 16]) (ASt.set75 (σ:=σ2) s2 (.int (al f2))) (m _ _) r2.1 r2.2 (by lia) (by lia) (by lia) (by simp)) fun σ3 e3 s3=>?_
 refine aJ (mU (f:=f3) (q:=3) (c:=f2 % 4) (out:= [f0 * 4+f1 / 16,(f1 % 16) * 16+f2 / 4]) (ASt.set75 (σ:=σ3) s3 (.int (al f3))) (m _ _) r3.1 r3.2 (by lia) (by lia) (by lia) (by simp)) fun σ4 e4 s4=>?_
 refine aJ (mU (f:=f4) (q:=0) (c:=0) (out:= [f0 * 4+f1 / 16,(f1 % 16) * 16+f2 / 4,(f2 % 4) * 64+f3]) (ASt.set75 (σ:=σ4) s4 (.int (al f4))) (m _ _) r4.1 r4.2 (by lia) (by lia) (by lia) (by simp)) fun σ5 e5 s5=>?_
 refine aJ (mU (f:=f5) (q:=1) (c:=f4) (out:= [f0 * 4+f1 / 16,(f1 % 16) * 16+f2 / 4,(f2 % 4) * 64+f3]) (ASt.set75 (σ:=σ5) (by simpa [no,nq,nc] using s5) (.int (al f5))) (m _ _) r5.1 r5.2 r4.1 r4.2 (by lia) (by simp)) fun σ6 e6 s6=>?_
 refine aJ (mU (f:=f6) (q:=2) (c:=f5 % 16) (out:= [f0 * 4+f1 / 16,(f1 % 16) * 16+f2 / 4,(f2 % 4) * 64+f3,f4 * 4+f5 / 16]) (ASt.set75 (σ:=σ6) s6 (.int (al f6))) (m _ _) r6.1 r6.2 (by lia) (by lia) (by lia) (by simp)) fun σ7 e7 s7=>?_
 refine aJ (aUr (ASt.set75 (σ:=σ7) s7 (.int 61)) (m _ _)) fun σ8 e8 s8=>?_
 exact ⟨σ8,_,(cY rfl dO e1).trans ((cY rfl dO e2).trans ((cY rfl dO e3).trans ((cY rfl dO e4).trans ((cY rfl dO e5).trans ((cY rfl dO e6).trans ((cY rfl dO e7).trans ((aEj rfl dO e8).trans (rH rfl)))))))),s8⟩
theorem aMy {fs bs:List Int} (hb:∀b∈bs,0≤b∧b < 256) (hl:bs.length=5) (h:val 64 fs / 4=val 256 bs):iP fs=bs:=by
 unfold iP
 refine List.ext_getElem (by simp [hl]) fun k h1 h2=>?_
 rw [List.getElem_map,List.getElem_range,Int.fmod_eq_emod_of_nonneg _ (by decide),Int.fdiv_eq_ediv_of_nonneg _ (Int.le_of_lt (Int.pow_pos (by decide))),Int.fdiv_eq_ediv_of_nonneg _ (by decide),h]
 have:=vG (b:=256) (by decide) 5 bs hl hb k (by lia)
 rw [this,getD_eq_getElem?_getD,getElem?_eq_getElem h2];rfl
theorem aRe {f0 f1 f2 f3 f4 f5 f6:Int} (hf:∀f∈ [f0,f1,f2,f3,f4,f5,f6],0≤f∧f < 64):
  (∀b∈ [f0 * 4+f1 / 16,(f1 % 16) * 16+f2 / 4,(f2 % 4) * 64+f3,f4 * 4+f5 / 16,(f5 % 16) * 16+f6 / 4],0≤b∧b < 256)∧
  val 64 [f0,f1,f2,f3,f4,f5,f6] / 4=val 256 [f0 * 4+f1 / 16,(f1 % 16) * 16+f2 / 4,(f2 % 4) * 64+f3,f4 * 4+f5 / 16,(f5 % 16) * 16+f6 / 4]:=by
 have r0:=hf f0 (by simp)
 have r1:=hf f1 (by simp)
 have r2:=hf f2 (by simp)
 have r3:=hf f3 (by simp)
 have r4:=hf f4 (by simp)
 have r5:=hf f5 (by simp)
 have r6:=hf f6 (by simp)
 refine ⟨fun b hb=>?_,?_⟩
 ·simp only [mem_cons,not_mem_nil,or_false] at hb
  rcases hb with rfl|rfl|rfl|rfl|rfl
  ·exact ⟨by first|lia|omega,by lia⟩
  ·exact ⟨by first|lia|omega,by lia⟩
  ·exact ⟨by first|lia|omega,by lia⟩
  ·exact ⟨by first|lia|omega,by lia⟩
  ·exact ⟨by first|lia|omega,by lia⟩
 ·show (((((((0 * 64+f0) * 64+f1) * 64+f2) * 64+f3) * 64+f4) * 64+f5) * 64+f6) / 4=((((0 * 256+(f0 * 4+f1 / 16)) * 256+((f1 % 16) * 16+f2 / 4)) * 256+((f2 % 4) * 64+f3)) * 256+(f4 * 4+f5 / 16)) * 256+((f5 % 16) * 16+f6 / 4)
  lia
theorem aPx {f0 f1 f2 f3 f4 f5 f6:Int} (hf:∀f∈ [f0,f1,f2,f3,f4,f5,f6],0≤f∧f < 64):
  iP [f0,f1,f2,f3,f4,f5,f6]= [f0 * 4+f1 / 16,(f1 % 16) * 16+f2 / 4,(f2 % 4) * 64+f3,f4 * 4+f5 / 16,(f5 % 16) * 16+f6 / 4]:=aMy (aRe hf).1 rfl (aRe hf).2
theorem aIj {fs:List Int} {f0 f1 f2 f3 f4 f5 f6:Int} (hl:fs= [f0,f1,f2,f3,f4,f5,f6]) (hf:∀f∈fs,0≤f∧f < 64):Φ_17 [.bytes (txt fs)] [.bool true]=some (.bytes (iP fs)):=by
 have ho:=aPx (hl ▸ hf)
 rw [←hl] at ho
 refine eQ (f:=aMd.1) (ps:= [13,69]) (cX _) ?_
 have s0:ASt ⟨[(13,.bytes (txt fs)),(69,.bool true),(4,.bytes (txt fs)),(42,.cell 0),(54,.int 0),(29,.int 0),(44,.int 0),(23,.int 0)],[.list []]⟩ 0 0 0 []:=⟨rfl,rfl,rfl,rfl,rfl,rfl,0,rfl⟩
 refine cJ (aIi hl hf s0) fun σ' c e1 s1=>?_
 rw [←ho] at s1
 have hlen:(txt fs).length=8:=by rw [hl];rfl
 have p12:bV Φ_12 [.bytes (txt fs)] []=some (.bytes (txt fs)):=rfl
 have p14:bV Φ_14 [.bool true] []=some (.bool true):=rfl
 simp only [aMd]
 refine ⟨σ',(aG (σ':=⟨[(13,.bytes (txt fs)),(69,.bool true),(4,.bytes (txt fs))],[]⟩) ((aA (Ev.call (Ev.cons (Ev.var rfl) Ev.nil) Ev.nil p12)).trans rfl)).trans
  ((aG (σ':=⟨[(13,.bytes (txt fs)),(69,.bool true),(4,.bytes (txt fs))],[]⟩) ((aA (Ev.call (Ev.cons (Ev.var rfl) Ev.nil) Ev.nil p14)).trans rfl)).trans
  ((aG (σ':=⟨[(13,.bytes (txt fs)),(69,.bool true),(4,.bytes (txt fs)),(42,.cell 0)],[.list []]⟩) rfl).trans
  ((aG (σ':=⟨[(13,.bytes (txt fs)),(69,.bool true),(4,.bytes (txt fs)),(42,.cell 0),(54,.int 0)],[.list []]⟩) rfl).trans
  ((aG (σ':=⟨[(13,.bytes (txt fs)),(69,.bool true),(4,.bytes (txt fs)),(42,.cell 0),(54,.int 0),(29,.int 0)],[.list []]⟩) rfl).trans
  ((aG (σ':=⟨[(13,.bytes (txt fs)),(69,.bool true),(4,.bytes (txt fs)),(42,.cell 0),(54,.int 0),(29,.int 0),(44,.int 0)],[.list []]⟩) rfl).trans
  ((aG (σ':=⟨[(13,.bytes (txt fs)),(69,.bool true),(4,.bytes (txt fs)),(42,.cell 0),(54,.int 0),(29,.int 0),(44,.int 0),(23,.int 0)],[.list []]⟩) rfl).trans
  ((aG (σ':=σ') ?_).trans ((aG (σ':=σ') ?_).trans ((aG (σ':=σ') ?_).trans ?_)))))))))⟩
 ·refine (aA (bJ (Ev.bind (Ev.var rfl) Ev.src_bytes))).trans ?_
  simp only [hlen]
  exact e1
 ·have h4:=s1.q
  exact (aA (show Ev _ _ false by (repeat' (first|exact Ev.pure|exact Ev.var (by assumption)|apply Ev.bind)))).trans rfl
 ·refine (aA (a:=false) (σ':=σ') ?_).trans rfl
  have h4:=s1.q
  have h5:=s1.p
  exact Ev.bind (a:=true) (Ev.bind (Ev.var h4) (Ev.bind (Ev.lift rfl) (Ev.lift rfl))) (Ev.bind (a:=false) (Ev.bind (Ev.bind (Ev.var h4) (Ev.bind (Ev.var h5) (Ev.lift rfl))) (Ev.bind (Ev.lift rfl) (Ev.lift rfl))) Ev.pure)
 ·refine aA (a:=MV.bytes (iP fs)) (σ':=σ') ?_
  refine Ev.bind (Ev.cons (Ev.var s1.o) Ev.nil) ?_
  unfold mN
  refine Ev.bind (a:=(iP fs).map MV.int) (show Ev _ _ _ from ?_) (Ev.lift ?_)
  ·unfold Ev cK
   rw [s1.H];rfl
  rw [fE,Option.bind_some,if_pos]
  rw [Bool.and_eq_true]
  refine ⟨all_eq_true.mpr fun i hi=>?_,bK (by rw [length_map,ho];simp)⟩
  rw [Bool.and_eq_true,decide_eq_true_iff,decide_eq_true_iff]
  exact rF fs i hi
theorem rJ {fs:List Int} {f0 f1 f2 f3 f4 f5 f6:Int} (hl:fs= [f0,f1,f2,f3,f4,f5,f6]) (hf:∀f∈fs,0≤f∧f < 64):Φ_21 [.bytes (txt fs)] [.bool true]=some (.bytes (iP fs)):=by
 refine eQ (f:=aMg.1) (ps:= [58,3,80]) (xs:= [.bytes (txt fs),.none,.bool true]) (cX _) ?_
 simp only [aMg]
 have p9:bV Φ_9 [.bytes (txt fs)] []=some (.bytes (txt fs)):=rfl
 have p17:bV Φ_17 [.bytes (txt fs)] [.bool true]=some (.bytes (iP fs)):=aIj hl hf
 refine ⟨⟨[(58,.bytes (txt fs)),(3,.none),(80,.bool true)],[]⟩,(aG (σ':=⟨[(58,.bytes (txt fs)),(3,.none),(80,.bool true)],[]⟩) ((aA (Ev.call (Ev.cons (Ev.var rfl) Ev.nil) Ev.nil p9)).trans rfl)).trans
  ((aG (σ':=⟨[(58,.bytes (txt fs)),(3,.none),(80,.bool true)],[]⟩) rfl).trans ?_)⟩
 exact (aA (Ev.call (Ev.cons (Ev.var rfl) Ev.nil) (Ev.cons (Ev.var rfl) Ev.nil) p17)).trans rfl
noncomputable def lD (t:List Int) (p:Nat×Int):List Int:=t.take p.1++ [p.2]++t.drop (p.1+1)
noncomputable def sgn (p:Nat×Int):MV:= .tup [.int p.1,.int p.2]
noncomputable abbrev aPy:M Fl:=(((((aF 73).bind fun x=>(aF 27).bind fun y=>M.lift (kU x y)).bind fun x=>
         ((aO [(aO [aF 63]).bind fun l=>M.lift (uF l)]).bind mN).bind fun y=>M.lift (bM Operator.Add x y)).bind
       fun x=>
       ((aF 73).bind fun x=>((aF 27).bind fun x=>(M.lift (kM (Const.int 1))).bind fun y=>M.lift (bM Operator.Add x y)).bind fun y=>M.lift (kW x y)).bind
        fun y=>M.lift (bM Operator.Add x y)).bind
     fun y=>(bE 73 y).bind fun x=>M.pure Fl.next)
theorem aRf {σ:St} {t:List Int} {p:Nat×Int} (h:σ.r.lookup 73=some (.bytes t)) (hk:σ.r.lookup 27=some (.int p.1)) (hs:σ.r.lookup 63=some (.int p.2)) (h2:0≤p.2∧p.2 < 256) (hz:t.length≤1000):
  aPy σ=some (.ok .next,⟨aL 73 (.bytes (lD t p)) σ.r,σ.H⟩):=by
 refine (aA (a:=MV.bytes (lD t p)) (σ':=σ) ?_).trans rfl
 refine Ev.bind (a:=MV.bytes (t.take p.1++ [p.2])) (Ev.bind (a:=MV.bytes (t.take p.1)) (Ev.bind (Ev.var h) (Ev.bind (Ev.var hk) (Ev.lift ?_))) (Ev.bind (a:=MV.bytes [p.2]) (Ev.bind (Ev.cons (Ev.bind (Ev.cons (Ev.var hs) Ev.nil) (Ev.lift rfl)) Ev.nil) ?_) (Ev.lift ?_)))
  (Ev.bind (a:=MV.bytes (t.drop (p.1+1))) (Ev.bind (Ev.var h) (Ev.bind (a:=MV.int (p.1+1)) (Ev.bind (Ev.var hk) (Ev.bind (Ev.lift rfl) (Ev.lift rfl))) (Ev.lift ?_))) (Ev.lift ?_))
 ·show (if (decide ((0:Int)≤p.1) && cC t.length)=true then some (MV.bytes (t.take (p.1:Int).toNat)) else none)=_
  rw [if_pos (by rw [Bool.and_eq_true];exact ⟨decide_eq_true (by lia),bK (by lia)⟩),Int.toNat_natCast]
 ·exact Ev.bytes (l:= [p.2]) (fun i hi=>by rw [mS hi];exact h2) (by simp)
 ·show (if cC _=true then some (MV.bytes (t.take p.1++ [p.2])) else none)=_
  rw [if_pos (bK (by simp;lia))]
 ·show (if (decide ((0:Int)≤(p.1:Int)+1) && cC t.length)=true then some (MV.bytes (t.drop ((p.1:Int)+1).toNat)) else none)=_
  rw [if_pos (by rw [Bool.and_eq_true];exact ⟨decide_eq_true (by lia),bK (by lia)⟩),show ((p.1:Int)+1).toNat=p.1+1 from by lia]
 ·show (if cC _=true then some (MV.bytes (t.take p.1++ [p.2]++t.drop (p.1+1))) else none)=_
  rw [if_pos (bK (by simp;lia))]
  rfl
theorem rK {t:List Int} {p:Nat×Int} (h:p.1 < t.length):(lD t p).length=t.length:=by
 unfold lD;simp;lia
theorem aCj {t:List Int}:∀{ps:List (Nat×Int)} {t:List Int},(∀p∈ps,p.1 < t.length)→(ps.foldl lD t).length=t.length
 | [],_,_=>rfl
 | p::ps,t,h=>by
  rw [foldl_cons,aCj (t:=t) (fun q hq=>by rw [rK (h p (mem_cons_self ..))];exact h q (mem_cons_of_mem _ hq)),rK (h p (mem_cons_self ..))]
theorem aIk {t:List Int} {ps:List (Nat×Int)} (hp:∀p∈ps,p.1 < t.length∧0≤p.2∧p.2 < 256) (hz:t.length≤1000) (hn:ps.length≤1000):Φ_33 [.bytes t,.lst (ps.map sgn)] []=some (.bytes (ps.foldl lD t)):=by
 refine eQ (f:=aMn.1) (ps:= [73,64]) (cX _) ?_
 simp only [aMn]
 obtain ⟨σ',h1,h2⟩:=eE (nx:=fun i _=>some (ps.map sgn)[i]?) (tg:=qQ 27 63) (body:=aPy) (l:=ps.map sgn) (fun i σ=>σ.r.lookup 73=some (.bytes ((ps.take i).foldl lD t))) (fun i σ _=>rfl)
  (fun i y σ hpp hy=>by
   rw [getElem?_map] at hy
   (refine aJ (map_eq_some_iff.mp hy) fun p hpi e_1=>?_;obtain rfl:=e_1)
   have hpm:=hp p (mem_of_getElem? hpi)
   have hl:((ps.take i).foldl lD t).length=t.length:=aCj (t:=t) fun q hq=>(hp q (mem_of_mem_take hq)).1
   refine ⟨⟨aL 63 (.int p.2) (aL 27 (.int p.1) σ.r),σ.H⟩,_,.next,rfl,aRf (t:=(ps.take i).foldl lD t) (p:=p) (lk (lk hpp (by decide)) (by decide)) (lk lk' (by decide)) lk' hpm.2 (by lia),.inl rfl,?_⟩
   show List.lookup 73 (aL 73 _ _)=_
   rw [lk',take_add_one,hpi]
   simp [foldl_append]) (ps.length+1) 0 ⟨[(73,.bytes t),(64,.lst (ps.map sgn))],[]⟩ (by simp) (Nat.zero_le _) rfl
 rw [length_map,take_length] at h2
 refine ⟨σ',(aG (σ':=σ') ?_).trans ?_⟩
 ·refine (aA (bJ (Ev.bind (Ev.var rfl) Ev.src_lst))).trans ?_
  simp only [length_map]
  exact h1
 ·exact aA (bA h2)
noncomputable def dU (row:List Int) (v:Int):List Int:=lD row ((v.fmod 5).toNat,(row.getD (v.fmod 5).toNat 0+1+(v.fdiv 5).fmod 255).fmod 256)
theorem rL {row:List Int} (h:row.length=5) (v:Int):(dU row v).length=5:=by
 unfold dU
 rw [rK,h]
 have:=gR v (b:=5) (by decide)
 simp only
 lia
theorem rM {row:List Int} (h:∀b∈row,0≤b∧b < 256) (v:Int):∀b∈dU row v,0≤b∧b < 256:=by
 intro b hb
 unfold dU lD at hb
 rcases mem_append.mp hb with hb|hb
 ·rcases mem_append.mp hb with hb|hb
  ·exact h b (mem_of_mem_take hb)
  ·rw [mS hb];exact gR _ (by decide)
 ·exact h b (List.mem_of_mem_drop hb)
noncomputable def bZ (row:List Int):MV:= .lst (row.map .int)
theorem aIl {σ:St} {L:List MV} {x:MV} (hH:σ.H[0]?=some (.list L)) (hz:L.length≤1000) (hl:L.getLast?=some x):Ev (cA (.cell 0) (.int (-1))) σ x:=by
 have hn:L≠ []:=fun e=>by rw [e] at hl;exact aP hl
 have hp:0 < L.length:=List.length_pos_iff.mpr hn
 have e:idxL L (-1)=some (.ok x):=by
  unfold idxL
  rw [if_pos (fM.mpr (by lia)),if_neg (by decide),if_pos (decide_eq_true (by lia))]
  have:((-1:Int)+L.length).toNat=L.length - 1:=by lia
  rw [this]
  rw [List.getLast?_eq_getElem?] at hl
  rw [hl]
 show (match σ.H[0]? with|some (.list l)=>M.liftR (idxL l (-1)) σ|_=>none)=_
 rw [hH]
 simp only
 rw [e];rfl
theorem aMz {σ:St} {l:List Int} {i:Int} (h0:0≤i) (h1:i < 1000) (h2:i.toNat < l.length):Ev (cA (bZ l) (.int i)) σ (.int (l.getD i.toNat 0)):=by
 have e:idxL (l.map MV.int) i=some (.ok (.int (l.getD i.toNat 0))):=by
  unfold idxL
  rw [if_pos (fM.mpr (by lia)),if_pos (decide_eq_true h0),getElem?_map,getElem?_eq_getElem h2,getD_eq_getElem?_getD,getElem?_eq_getElem h2]
  rfl
 show M.liftR (idxL (l.map MV.int) i) σ=_
 rw [e];rfl
noncomputable abbrev aPz:M Fl:=(bS
  (((aO
        [(aF 57).bind fun x=>((M.lift (kM (Const.int 1))).bind fun x=>M.lift (unM UnaryOp.USub x)).bind fun y=>cA x y,
         (aF 79).bind fun x=>(M.lift (kM (Const.int 5))).bind fun y=>M.lift (bM Operator.Mod x y)]).bind
      fun l=>M.lift (pQ l)).ne.bind
   fun v=>(aGc 56 5 v).bind fun x=>M.pure Fl.next)
  (((aF 57).bind fun x=>
     (lstCk x).bind fun x_1=>
      (aO
         [(((aF 56).bind fun x=>(aF 5).bind fun y=>M.lift (kU x y)).bind fun x=>((aO [((((aF 56).bind fun x=>(aF 5).bind fun y=>cA x y).bind fun x=>(M.lift (kM (Const.int 1))).bind fun y=>M.lift (bM Operator.Add x y)).bind fun x=>(((aF 79).bind fun x=>(M.lift (kM (Const.int 5))).bind fun y=>M.lift (bM Operator.FloorDiv x y)).bind fun x=>(M.lift (kM (Const.int 255))).bind fun y=>M.lift (bM Operator.Mod x y)).bind fun y=>M.lift (bM Operator.Add x y)).bind fun x=>(M.lift (kM (Const.int 256))).bind fun y=>M.lift (bM Operator.Mod x y)]).bind fun l=>M.lift (uF l)).bind fun y=>M.lift (bM Operator.Add x y)).bind fun x=>((aF 56).bind fun x=>((aF 5).bind fun x=>(M.lift (kM (Const.int 1))).bind fun y=>M.lift (bM Operator.Add x y)).bind fun y=>M.lift (kW x y)).bind fun y=>M.lift (bM Operator.Add x y)]).bind
       fun l=>cQ (x::l)).bind
   fun x=>M.pure Fl.next))
theorem aIm {l:List Int} {i:Int} (h0:0≤i) (hz:l.length≤1000):kU (bZ l) (.int i)=some (bZ (l.take i.toNat)):=by
 show (if (decide (0≤i) && cC (l.map MV.int).length)=true then some (MV.lst ((l.map MV.int).take i.toNat)) else none)=_
 rw [if_pos (by rw [Bool.and_eq_true];exact ⟨decide_eq_true h0,bK (by rw [length_map];lia)⟩),←List.map_take];rfl
theorem aIn {l:List Int} {i:Int} (h0:0≤i) (hz:l.length≤1000):kW (bZ l) (.int i)=some (bZ (l.drop i.toNat)):=by
 show (if (decide (0≤i) && cC (l.map MV.int).length)=true then some (MV.lst ((l.map MV.int).drop i.toNat)) else none)=_
 rw [if_pos (by rw [Bool.and_eq_true];exact ⟨decide_eq_true h0,bK (by rw [length_map];lia)⟩),←List.map_drop];rfl
theorem xY {l m:List Int} (hz:l.length+m.length≤1000):bM .Add (bZ l) (bZ m)=some (bZ (l++m)):=by
 show (if cC ((l.map MV.int).length+(m.map MV.int).length)=true then some (MV.lst (l.map MV.int++m.map MV.int)) else none)=_
 rw [if_pos (bK (by rw [length_map,length_map];lia)),←map_append];rfl
theorem aRg {σ:St} {rows:List (List Int)} {row:List Int} {v:Int} (hH:σ.H= [.list (rows.map bZ)]) (hc:σ.r.lookup 57=some (.cell 0)) (hv:σ.r.lookup 79=some (.int v)) (hl:rows.getLast?=some row) (h5:row.length=5) (hz:rows.length≤500):
  ∃σ',aPz σ=some (.ok .next,σ')∧σ'.H= [.list ((rows++ [dU row v]).map bZ)]∧σ'.r.lookup 57=some (.cell 0):=by
 have hm:=gR v (b:=5) (by decide)
 let r2:=aL 56 (bZ row) (aL 5 (.int (v.fmod 5)) σ.r)
 have g56:r2.lookup 56=some (bZ row):=lk'
 have g5:r2.lookup 5=some (.int (v.fmod 5)):=lk lk' (by decide)
 have g79:r2.lookup 79=some (.int v):=lk (lk hv (by decide)) (by decide)
 have g57:r2.lookup 57=some (.cell 0):=lk (lk hc (by decide)) (by decide)
 have e1:Ev ((aO [(aF 57).bind fun x=>((M.lift (kM (Const.int 1))).bind fun x=>M.lift (unM UnaryOp.USub x)).bind fun y=>cA x y,(aF 79).bind fun x=>(M.lift (kM (Const.int 5))).bind fun y=>M.lift (bM Operator.Mod x y)]).bind fun l=>M.lift (pQ l)) σ (.tup [bZ row,.int (v.fmod 5)]):=by
  refine Ev.bind (Ev.cons (Ev.bind (Ev.var hc) (Ev.bind (Ev.bind (Ev.lift rfl) (Ev.lift rfl)) (aIl (L:=rows.map bZ) (by rw [hH];rfl) (by simp;lia) (by rw [List.getLast?_map,hl];rfl)))) (Ev.cons (Ev.bind (Ev.var hv) (Ev.bind (Ev.lift rfl) (Ev.lift rfl))) Ev.nil)) (Ev.lift rfl)
 refine ⟨⟨r2,[.list ((rows++ [dU row v]).map bZ)]⟩,(aG (σ':=⟨r2,σ.H⟩) ((aA (bJ e1)).trans rfl)).trans ?_,rfl,g57⟩
 have ha:v.fmod 5 < 1000:=by lia
 have hn:(v.fmod 5).toNat < row.length:=by lia
 have e2:dU row v=row.take (v.fmod 5).toNat++ [(row.getD (v.fmod 5).toNat 0+1+(v.fdiv 5).fmod 255).fmod 256]++row.drop (v.fmod 5+1).toNat:=by
  unfold dU lD
  rw [show (v.fmod 5+1).toNat=(v.fmod 5).toNat+1 from by lia]
 refine (aA (a:=MV.none) (σ':=⟨r2,[.list ((rows++ [dU row v]).map bZ)]⟩) ?_).trans rfl
 rw [aA (bA g57),aA (show lstCk (.cell 0) ⟨r2,σ.H⟩=some (.ok (),⟨r2,σ.H⟩) by unfold lstCk;rw [hH];rfl),aA (a:= [bZ (dU row v)]) (σ':=⟨r2,σ.H⟩) ?_]
 ·exact (aCg (σ:=⟨r2,σ.H⟩) (L:=rows.map bZ) (y:=bZ (dU row v)) hH (by simp;lia)).trans (by rw [map_append];rfl)
 ·refine Ev.cons ?_ Ev.nil
  rw [e2]
  refine Ev.bind (a:=bZ (row.take (v.fmod 5).toNat++ [(row.getD (v.fmod 5).toNat 0+1+(v.fdiv 5).fmod 255).fmod 256])) (Ev.bind (Ev.bind (Ev.var g56) (Ev.bind (Ev.var g5) (Ev.lift (aIm hm.1 (by lia))))) (Ev.bind (a:=bZ [(row.getD (v.fmod 5).toNat 0+1+(v.fdiv 5).fmod 255).fmod 256]) (Ev.bind (Ev.cons (Ev.bind (Ev.bind (Ev.bind (Ev.bind (Ev.var g56) (Ev.bind (Ev.var g5) (aMz hm.1 ha hn))) (Ev.bind (Ev.lift rfl) (Ev.lift rfl))) (Ev.bind (Ev.bind (Ev.bind (Ev.var g79) (Ev.bind (Ev.lift rfl) (Ev.lift rfl))) (Ev.bind (Ev.lift rfl) (Ev.lift rfl))) (Ev.lift rfl))) (Ev.bind (Ev.lift rfl) (Ev.lift rfl))) Ev.nil) (Ev.lift rfl)) (Ev.lift (xY (by simp;lia)))))
   (Ev.bind (a:=bZ (row.drop (v.fmod 5+1).toNat)) (Ev.bind (Ev.var g56) (Ev.bind (Ev.bind (Ev.var g5) (Ev.bind (Ev.lift rfl) (Ev.lift rfl))) (Ev.lift (aIn (by lia) (by lia))))) (Ev.lift (xY (by simp;lia))))
noncomputable def cF (vs:List Int):List (List Int):=vs.foldl (fun rs v=>rs++ [dU (rs.getLast?.getD []) v]) [[77,97,110,9,200]]
theorem aAi (vs:List Int) (v:Int):cF (vs++ [v])=cF vs++ [dU ((cF vs).getLast?.getD []) v]:=by
 unfold cF;rw [foldl_append];rfl
theorem tQ:∀(vs:List Int) (rs:List (List Int)) (row:List Int),rs.getLast?=some row→row.length=5→(∀r∈rs,∀b∈r,0≤b∧b < 256)→
  (vs.foldl (fun rs v=>rs++ [dU (rs.getLast?.getD []) v]) rs).length=rs.length+vs.length∧∃row',(vs.foldl (fun rs v=>rs++ [dU (rs.getLast?.getD []) v]) rs).getLast?=some row'∧row'.length=5
 | [],rs,row,h,h5,hb=>⟨rfl,row,h,h5⟩
 | v::vs,rs,row,h,h5,hb=>by
  rw [foldl_cons,h]
  have hm:row∈rs:=List.mem_of_getLast? h
  obtain ⟨a,b⟩:=tQ vs (rs++ [dU row v]) (dU row v) (by simp) (rL h5 v) (fun r hr=>by
   rcases mem_append.mp hr with hr|hr
   ·exact hb r hr
   ·rw [mS hr];exact rM (hb row hm) v)
  exact ⟨by rw [show (some row).getD []=row from rfl,a];simp;lia,b⟩
theorem xZ (vs:List Int):(cF vs).length=vs.length+1∧∃row,(cF vs).getLast?=some row∧row.length=5:=by
 obtain ⟨a,b⟩:=tQ vs [[77,97,110,9,200]] [77,97,110,9,200] rfl rfl (by decide)
 exact ⟨by unfold cF;rw [a];simp;lia,b⟩
theorem aIo (rows:List (List Int)):clo (.lst (rows.map bZ))=true:=by
 exact cU fun x hx=>by
  (refine aJ (mem_map.mp hx) fun r _ e_2=>?_;obtain rfl:=e_2)
  exact hM r
theorem sP (vs:List Int) (hz:vs.length≤100):Φ_26 [.lst (vs.map .int)] []=some (.lst ((cF vs).map bZ)):=by
 show eJ aHv.1 [38] [.lst (vs.map .int)]=_
 obtain ⟨σ',h1,h2,h3⟩:=eE (nx:=fun i _=>some (vs.map MV.int)[i]?) (tg:=bE 79) (body:=aPz) (l:=vs.map MV.int) (fun i σ=>σ.H= [.list ((cF (vs.take i)).map bZ)]∧σ.r.lookup 57=some (.cell 0)) (fun i σ _=>rfl)
  (fun i y σ hp hy=>by
   obtain ⟨hH,hc⟩:=hp
   rw [getElem?_map] at hy
   (refine aJ (map_eq_some_iff.mp hy) fun v hv e_1=>?_;obtain rfl:=e_1)
   refine kG (xZ (vs.take i)) fun hlen row hr h5=>?_
   have hle:(vs.take i).length≤vs.length:=by simp;lia
   refine bG (aRg (σ:=⟨aL 79 (.int v) σ.r,σ.H⟩) (v:=v) hH (lk hc (by decide)) lk' hr h5 (by lia)) fun σ₂ e1 e2 e3=>?_
   refine ⟨_,σ₂,.next,dO,e1,.inl rfl,?_,e3⟩
   rw [e2,take_add_one,hv]
   show _= [MO.list ((cF (vs.take i++ [v])).map bZ)]
   rw [aAi,hr];rfl) (vs.length+1) 0 ⟨[(38,.lst (vs.map .int)),(57,.cell 0)],[.list [bZ [77,97,110,9,200]]]⟩ (by simp) (Nat.zero_le _) ⟨rfl,rfl⟩
 rw [length_map,take_length] at h2
 have e:aHv.1 ⟨[38].zip [.lst (vs.map .int)],[]⟩=some (.ok (.ret (.cell 0)),σ'):=by
  simp only [aHv]
  refine (aG (σ':=⟨[(38,.lst (vs.map .int)),(57,.cell 0)],[.list [bZ [77,97,110,9,200]]]⟩) rfl).trans ((aG (σ':=σ') ?_).trans ?_)
  ·refine (aA (bJ (Ev.bind (Ev.var rfl) Ev.src_lst))).trans ?_
   simp only [length_map]
   exact h1
  ·exact aA (bA h3)
 unfold eJ uK
 rw [e]
 show frz σ'.H (.cell 0)=_
 rw [h2]
 have hcl:=aIo (cF vs)
 exact if_pos (c:=dZ ((cF vs).map bZ)=true) hcl
end Mine
end
section
set_option tactic.hygienic false
namespace Mine
noncomputable def PL (pl:List (List Nat)) (q:Nat):List Nat:=pl.getD q []
noncomputable def dep (pl:List (List Nat)) (p q:Nat):Bool:=(PL pl p).any fun k=>(PL pl q).contains k
noncomputable def cM (pl:List (List Nat)) (q:Nat):List Nat:=(List.range q).filter fun p=>dep pl p q
noncomputable def fW (pl:List (List Nat)) (n p:Nat):List Nat:=(List.range n).filter fun q=>decide (p < q) && dep pl p q
noncomputable def cnt (pl:List (List Nat)) (l:List Nat) (k:Nat):Nat:=(l.filter fun p=>(PL pl p).contains k).length
noncomputable def vI (pl:List (List Nat)) (gone:List Nat):List Nat:=(List.range pl.length).filter fun q=> !gone.contains q && (PL pl q).all fun k=>cnt pl gone k==cnt pl (List.range q) k
noncomputable def gT (pl:List (List Nat)) (gone:List Nat):List Nat:=(List.range pl.length).filter fun q=> !gone.contains q && (cM pl q).all fun p=>gone.contains p
theorem pY {pl:List (List Nat)} {p q:Nat}:dep pl p q=true ↔ ∃k,k∈PL pl p∧k∈PL pl q:=by
 unfold dep;simp
theorem dF {pl:List (List Nat)} {p q:Nat}:p∈cM pl q ↔ p < q∧dep pl p q=true:=by unfold cM;simp
theorem eR {pl:List (List Nat)} {n p q:Nat}:q∈fW pl n p ↔ q < n∧p∈cM pl q:=by rw [dF];unfold fW;simp
theorem dX {pl:List (List Nat)} {gone:List Nat} {q:Nat}:q∈gT pl gone ↔ q < pl.length∧q∉gone∧∀p∈cM pl q,p∈gone:=by unfold gT;simp
theorem dJ {α:Type} {l:List α} (f:α→Bool) (h:l.Nodup):(l.filter f).Nodup:=List.Pairwise.filter f h
theorem lE (pl:List (List Nat)) (q:Nat):(cM pl q).Nodup:=dJ _ nodup_range
theorem pO (pl:List (List Nat)) (n q:Nat):(fW pl n q).Nodup:=dJ _ nodup_range
theorem yA (pl:List (List Nat)) (g:List Nat):(gT pl g).Nodup:=dJ _ nodup_range
structure Clo (pl:List (List Nat)) (gone:List Nat):Prop where
 nd:gone.Nodup
 lt:∀q∈gone,q < pl.length
 ord:∀i q,gone[i]?=some q→∀p∈cM pl q,p∈gone.take i
theorem Clo.cl {pl:List (List Nat)} {gone:List Nat} (h:Clo pl gone):∀q∈gone,∀p∈cM pl q,p∈gone:=fun q hq p hp=>by
 obtain ⟨i,hi,rfl⟩:=getElem_of_mem hq
 exact mem_of_mem_take (h.ord i _ (getElem?_eq_getElem hi) p hp)
theorem Clo.take {pl:List (List Nat)} {gone:List Nat} (h:Clo pl gone) (n:Nat):Clo pl (gone.take n):=by
 refine ⟨h.nd.sublist (List.take_sublist ..),fun q hq=>h.lt q (mem_of_mem_take hq),fun i q hq p hp=>?_⟩
 rw [List.getElem?_take] at hq
 split at hq
 ·rename_i hi
  rw [List.take_take]
  rw [Nat.min_eq_left (by lia)]
  exact h.ord i q hq p hp
 ·exact aP hq
theorem Clo.lt_of {pl:List (List Nat)} {gone:List Nat} (h:Clo pl gone) {q k p:Nat} (hq:q∉gone) (hk:k∈PL pl q) (hp:p∈gone) (hpk:k∈PL pl p):p < q:=by
 rcases Nat.lt_trichotomy p q with x|x|x
 ·exact x
 ·exact absurd (x ▸ hp) hq
 ·exact absurd (h.cl p hp q (dF.mpr ⟨x,pY.mpr ⟨k,hk,hpk⟩⟩)) hq
theorem rN {a b:List Nat} (ha:a.Nodup) (hs:∀x∈a,x∈b) (hl:b.length≤a.length):∀x∈b,x∈a:=by
 intro x hx
 refine Decidable.byContradiction fun hn=>?_
 have h1:(x::a).Nodup:=nodup_cons.mpr ⟨hn,ha⟩
 have h2:(x::a) ⊆ b:=fun y hy=>by
  rcases mem_cons.mp hy with rfl|hy
  ·exact hx
  ·exact hs y hy
 have:=h1.length_le_of_subset h2
 simp at this
 lia
theorem aEk {pl:List (List Nat)} {gone:List Nat} (h:Clo pl gone):vI pl gone=gT pl gone:=by
 unfold vI gT
 refine filter_congr fun q hq=>?_
 cases hg:gone.contains q with
 | true=>rfl
 | false=>
  simp only [Bool.not_false,Bool.true_and]
  have hqg:q∉gone:=by simpa using hg
  rw [Bool.eq_iff_iff,all_eq_true,all_eq_true]
  have sub:∀k∈PL pl q,∀x∈gone.filter (fun p=>(PL pl p).contains k),x∈(List.range q).filter (fun p=>(PL pl p).contains k):=fun k hk x hx=>by
   obtain ⟨h1,h2⟩:=mem_filter.mp hx
   refine mem_filter.mpr ⟨mem_range.mpr (h.lt_of hqg hk h1 (by simpa using h2)),h2⟩
  constructor
  ·intro hc p hp
   obtain ⟨h1,h2⟩:=dF.mp hp
   refine aJ (pY.mp h2) fun k hk1 hk2=>?_
   have hl:=beq_iff_eq.mp (hc k hk2)
   unfold cnt at hl
   have:=rN (dJ _ h.nd) (sub k hk2) (Nat.le_of_eq hl.symm) p (mem_filter.mpr ⟨mem_range.mpr h1,by simpa using hk1⟩)
   simpa using (mem_filter.mp this).1
  ·intro hc k hk
   refine beq_iff_eq.mpr ?_
   unfold cnt
   refine Nat.le_antisymm (List.Nodup.length_le_of_subset (dJ _ h.nd) fun x hx=>sub k hk x hx) (List.Nodup.length_le_of_subset (dJ _ nodup_range) fun x hx=>?_)
   obtain ⟨h1,h2⟩:=mem_filter.mp hx
   refine mem_filter.mpr ⟨?_,h2⟩
   have:=hc x (dF.mpr ⟨mem_range.mp h1,pY.mpr ⟨k,by simpa using h2,hk⟩⟩)
   simpa using this
theorem aIp {pl:List (List Nat)} {gone:List Nat} (h:Clo pl gone) (hl:gone.length < pl.length):gT pl gone≠ []:=by
 have ex:∃x,x < pl.length∧x∉gone:=by
  refine Decidable.byContradiction fun hn=>?_
  have:List.range pl.length ⊆ gone:=fun x hx=>Decidable.byContradiction fun hg=>hn ⟨x,mem_range.mp hx,hg⟩
  have:=nodup_range.length_le_of_subset this
  simp at this
  lia
 have key:∀m x,x < m→x < pl.length→x∉gone→gT pl gone≠ []:=by
  intro m
  induction m with
  | zero=>intro x h;lia
  | succ m ih=>
   intro x hm hx hg
   by_cases hp:∀p∈cM pl x,p∈gone
   ·exact List.ne_nil_of_mem (dX.mpr ⟨hx,hg,hp⟩)
   ·obtain ⟨p,hp⟩:=Classical.not_forall.mp hp
    obtain ⟨hp1,hp2⟩:=Classical.not_imp.mp hp
    have:=(dF.mp hp1).1
    exact ih p (by lia) (by lia) hp2
 (refine aJ ex fun x hx hg=>?_;try clear ex)
 exact key (x+1) x (by lia) hx hg
theorem yB {pl:List (List Nat)} {gone:List Nat} (h:Clo pl gone) (hl:gone.length=pl.length):∀x,x < pl.length→x∈gone:=fun x hx=>
 rN h.nd (b:=List.range pl.length) (fun x hx=>mem_range.mpr (h.lt x hx)) (by simp;lia) x (mem_range.mpr hx)
structure WI (pl:List (List Nat)) (gone wait rd:List Nat) (np:Nat→Int):Prop where
 clo:Clo pl gone
 perm:∀x,x∈wait++rd ↔ x∈gT pl gone
 nd:(wait++rd).Nodup
 ng:∀j∈gone,np j= -2
 nw:∀j∈wait,np j= -1
 no:∀j,j < pl.length→j∉gone→j∉wait→np j=(((cM pl j).filter fun p=> !gone.contains p).length:Nat)
theorem WI.init (pl:List (List Nat)):WI pl [] [] ((List.range pl.length).filter fun j=>((cM pl j).length:Int)==0) fun j=>(cM pl j).length:=by
 refine ⟨⟨nodup_nil,fun q hq=>(by cases hq),fun i q hq=>(by simp at hq)⟩,fun x=>?_,dJ _ nodup_range,fun j hj=>(by cases hj),fun j hj=>(by cases hj),fun j _ _ _=>?_⟩
 ·rw [dX]
  simp only [nil_append,mem_filter,mem_range,beq_iff_eq]
  constructor
  ·rintro ⟨h1,h2⟩
   have:cM pl x= []:=List.eq_nil_of_length_eq_zero (by lia)
   rw [this]
   exact ⟨h1,by simp,by simp⟩
  ·rintro ⟨h1,_,h2⟩
   refine ⟨h1,?_⟩
   have:cM pl x= []:=List.eq_nil_iff_forall_not_mem.mpr fun p hp=>by have:=h2 p hp;cases this
   rw [this];rfl
 ·congr 1
  rw [List.filter_eq_self.mpr]
  intro p _;rfl
theorem WI.ready {pl:List (List Nat)} {gone wait rd:List Nat} {np:Nat→Int} (h:WI pl gone wait rd np):WI pl gone (wait++rd) [] (fun j=>if j∈rd then -1 else np j):=by
 refine ⟨h.clo,fun x=>by rw [append_nil];exact h.perm x,by rw [append_nil];exact h.nd,fun j hj=>?_,fun j hj=>?_,fun j h1 h2 h3=>?_⟩
 ·rw [if_neg]
  ·exact h.ng j hj
  ·intro hr
   exact (dX.mp ((h.perm j).mp (mem_append_right _ hr))).2.1 hj
 ·show (if j∈rd then (-1:Int) else np j)= -1
  split
  ·rfl
  ·rename_i hr
   exact h.nw j ((mem_append.mp hj).resolve_right hr)
 ·rw [if_neg (fun q=>h3 (mem_append_right _ q))]
  exact h.no j h1 h2 fun q=>h3 (mem_append_left _ q)
theorem aRh {l:List Nat} (hl:l.length=1) {p:Nat} (hp:p∈l):l= [p]:=by
 match l,hl with
 | [x],_=>rw [mS hp]
theorem mH {l:List Nat} {f:Nat→Bool} {p:Nat} (hn:l.Nodup) (hp:p∈l) (hf:f p=true):(l.filter f).length=(l.filter fun x=>f x && decide (x≠p)).length+1:=by
 induction l with
 | nil=>cases hp
 | cons x l ih=>
  have hx:=(nodup_cons.mp hn).1
  by_cases e:x=p
  ·subst e
   rw [filter_cons_of_pos hf,filter_cons_of_neg (by simp)]
   rw [length_cons]
   congr 2
   refine filter_congr fun y hy=>?_
   have:y≠x:=fun e=>hx (e ▸ hy)
   simp [this]
  ·have hm:p∈l:=(mem_cons.mp hp).resolve_left (Ne.symm e)
   have:=ih (nodup_cons.mp hn).2 hm
   by_cases hfx:f x=true
   ·rw [filter_cons_of_pos hfx,filter_cons_of_pos (by simp [hfx,e])]
    simp only [length_cons]
    lia
   ·rw [filter_cons_of_neg hfx,filter_cons_of_neg (by simp [hfx])]
    exact this
theorem WI.done {pl:List (List Nat)} {gone wait:List Nat} {np:Nat→Int} (h:WI pl gone wait [] np) {i p:Nat} (hi:wait[i]?=some p):
  p < pl.length∧np p= -1∧WI pl (gone++ [p]) (wait.eraseIdx i) ((fW pl pl.length p).filter fun j=>np j - 1==0) (fun j=>if j=p then -2 else if j∈fW pl pl.length p then np j - 1 else np j):=by
 have hpw:p∈wait:=mem_of_getElem? hi
 have hnd:wait.Nodup:=by have:=h.nd;rwa [append_nil] at this
 have hav:∀x,x∈wait ↔ x∈gT pl gone:=fun x=>by have:=h.perm x;rwa [append_nil] at this
 refine iC (dX.mp ((hav p).mp hpw)) fun hp1 hp2 hp3=>?_
 have her:∀x,x∈wait.eraseIdx i ↔ x∈wait∧x≠p:=fun x=>by
  have hil:=(gS hi).1
  have:wait.eraseIdx i=wait.erase p:=by
   refine (List.erase_eq_eraseIdx_of_idxOf ?_).symm
   have e:=(gS hi).2
   rw [←e]
   exact List.Nodup.idxOf_getElem hnd i hil
  rw [this,hnd.mem_erase_iff]
  exact And.comm
 have sg:∀j∈fW pl pl.length p,j∉gone∧j∉wait∧j≠p:=fun j hj=>by
  obtain ⟨h1,h2⟩:=eR.mp hj
  refine ⟨fun q=>hp2 (h.clo.cl j q p h2),fun q=>hp2 ((dX.mp ((hav j).mp q)).2.2 p h2),fun e=>?_⟩
  have:=(dF.mp h2).1
  lia
 have fl:∀j,((cM pl j).filter fun x=> !(gone++ [p]).contains x)=(cM pl j).filter fun x=>(!gone.contains x) && decide (x≠p):=fun j=>filter_congr fun x _=>by
  rw [Bool.eq_iff_iff];simp
 have cl:Clo pl (gone++ [p]):=by
  refine ⟨?_,fun q hq=>?_,fun m q hm r hr=>?_⟩
  ·rw [nodup_append]
   refine ⟨h.clo.nd,by simp,fun a ha b hb e=>?_⟩
   rw [mS hb] at e
   exact hp2 (e ▸ ha)
  ·rcases mem_append.mp hq with hq|hq
   ·exact h.clo.lt q hq
   ·rw [mS hq];exact hp1
  ·by_cases hml:m < gone.length
   ·rw [getElem?_append_left hml] at hm
    rw [take_append_of_le_length (Nat.le_of_lt hml)]
    exact h.clo.ord m q hm r hr
   ·rw [getElem?_append_right (by lia)] at hm
    have hm0:m - gone.length=0:=by
     have:=(gS hm).1
     simp at this
     lia
    rw [hm0] at hm
    have hq:q=p:=by simpa using hm.symm
    subst hq
    have:m=gone.length:=by lia
    subst this
    rw [take_append_of_le_length (Nat.le_refl _),take_length]
    exact hp3 r hr
 refine ⟨hp1,h.nw p hpw,cl,fun x=>?_,?_,fun j hj=>?_,fun j hj=>?_,fun j h1 h2 h3=>?_⟩
 ·rw [mem_append,her,mem_filter,dX]
  constructor
  ·rintro (⟨hx,hne⟩|⟨hx,h0⟩)
   ·refine iC (dX.mp ((hav x).mp hx)) fun a1 a2 a3=>?_
    exact ⟨a1,by simp [a2,hne],fun r hr=>mem_append_left _ (a3 r hr)⟩
   ·refine iC (sg x hx) fun b1 b2 b3=>?_
    obtain ⟨c1,c2⟩:=eR.mp hx
    refine ⟨c1,by simp [b1,b3],fun r hr=>?_⟩
    have hlen:((cM pl x).filter fun p=> !gone.contains p).length=1:=by
     have:=h.no x c1 b1 b2
     have h0:=beq_iff_eq.mp h0
     lia
    have hone:=aRh hlen (p:=p) (mem_filter.mpr ⟨c2,by simpa using hp2⟩)
    by_cases hrg:r∈gone
    ·exact mem_append_left _ hrg
    ·have:r∈(cM pl x).filter fun p=> !gone.contains p:=mem_filter.mpr ⟨hr,by simpa using hrg⟩
     rw [hone] at this
     exact mem_append_right _ this
  ·rintro ⟨a1,a2,a3⟩
   have a2g:x∉gone:=fun q=>a2 (mem_append_left _ q)
   have a2p:x≠p:=fun q=>a2 (mem_append_right _ (mem_singleton.mpr q))
   by_cases hpx:p∈cM pl x
   ·right
    have hs:x∈fW pl pl.length p:=eR.mpr ⟨a1,hpx⟩
    refine ⟨hs,?_⟩
    have hl:=mH (f:=fun q=> !gone.contains q) (lE pl x) hpx (by simpa using hp2)
    have hz:((cM pl x).filter fun q=>(!gone.contains q) && decide (q≠p))= []:=filter_eq_nil_iff.mpr fun r hr=>by
     rcases mem_append.mp (a3 r hr) with q|q
     ·simp [q]
     ·simp [mS q]
    rw [hz] at hl
    have:=h.no x a1 a2g (sg x hs).2.1
    rw [this,hl];rfl
   ·left
    refine ⟨(hav x).mpr (dX.mpr ⟨a1,a2g,fun r hr=>?_⟩),a2p⟩
    rcases mem_append.mp (a3 r hr) with q|q
    ·exact q
    ·rw [mS q] at hr;exact absurd hr hpx
 ·rw [nodup_append]
  refine ⟨hnd.sublist (List.eraseIdx_sublist ..),dJ _ (pO ..),fun a ha b hb e=>?_⟩
  subst e
  exact (sg a (mem_filter.mp hb).1).2.1 ((her a).mp ha).1
 ·rcases mem_append.mp hj with hj|hj
  ·have:j≠p:=fun e=>hp2 (e ▸ hj)
   rw [if_neg this,if_neg (fun q=>(sg j q).1 hj)]
   exact h.ng j hj
  ·rw [if_pos (mS hj)]
 ·obtain ⟨h1,h2⟩:=(her j).mp hj
  rw [if_neg h2,if_neg (fun q=>(sg j q).2.1 h1)]
  exact h.nw j h1
 ·have h2g:j∉gone:=fun q=>h2 (mem_append_left _ q)
  have h2p:j≠p:=fun q=>h2 (mem_append_right _ (mem_singleton.mpr q))
  have h3w:j∉wait:=fun q=>h3 ((her j).mpr ⟨q,h2p⟩)
  rw [if_neg h2p,fl,h.no j h1 h2g h3w]
  split
  ·rename_i hs
   have:=mH (f:=fun q=> !gone.contains q) (lE pl j) (eR.mp hs).2 (by simpa using hp2)
   lia
  ·rename_i hs
   congr 2
   refine filter_congr fun x hx=>?_
   have:x≠p:=fun e=>hs (eR.mpr ⟨h1,e ▸ hx⟩)
   simp [this]
noncomputable def mI (pl:List (List Nat)) (g:List Nat) (k:Nat):Nat:=(g.filter fun p=>(PL pl p).contains k).foldl (fun m p=>max m (p+1)) 0
theorem vJ (l:List Nat) (q m:Nat):(l++ [q]).foldl (fun m p=>max m (p+1)) m=max (l.foldl (fun m p=>max m (p+1)) m) (q+1):=by rw [foldl_append];rfl
theorem kE:∀{l:List Nat} {m b:Nat},m≤b→(∀p∈l,p < b)→l.foldl (fun m p=>max m (p+1)) m≤b
 | [],_,_,h,_=>h
 | p::l,m,b,h,h'=>by
  rw [foldl_cons]
  exact kE (by have:=h' p (mem_cons_self ..);lia) fun q hq=>h' q (mem_cons_of_mem _ hq)
theorem rO:∀{l:List Nat} {m:Nat},m≤l.foldl (fun m p=>max m (p+1)) m∧∀p∈l,p < l.foldl (fun m p=>max m (p+1)) m
 | [],m=>⟨Nat.le_refl _,fun p hp=>by cases hp⟩
 | q::l,m=>by
  rw [foldl_cons]
  obtain ⟨a,b⟩:=rO (l:=l) (m:=max m (q+1))
  refine ⟨by lia,fun p hp=>?_⟩
  rcases mem_cons.mp hp with rfl|hp
  ·lia
  ·exact b p hp
theorem aAj {pl:List (List Nat)} {g:List Nat} {k q:Nat} (hk:k∈PL pl q) (h:∀p∈g,k∈PL pl p→p < q):mI pl (g++ [q]) k=q+1:=by
 unfold mI
 rw [filter_append,filter_cons_of_pos (by simpa using hk),filter_nil,vJ]
 have:(g.filter fun p=>(PL pl p).contains k).foldl (fun m p=>max m (p+1)) 0≤q:=kE (Nat.zero_le _) fun p hp=>by
  obtain ⟨h1,h2⟩:=mem_filter.mp hp
  exact h p h1 (by simpa using h2)
 lia
theorem pP {pl:List (List Nat)} {g:List Nat} {k q:Nat} (hk:k∉PL pl q):mI pl (g++ [q]) k=mI pl g k:=by
 unfold mI
 rw [filter_append,filter_cons_of_neg (by simpa using hk),filter_nil,append_nil]
noncomputable def Chg (pl:List (List Nat)) (st:Nat→Nat→Int):Prop:=∀p,p < pl.length→∀k,k < 7→k∉PL pl p→st p k=st (p+1) k
theorem aQa {pl:List (List Nat)} {st:Nat→Nat→Int} (hc:Chg pl st) {g:List Nat} {k q:Nat} (hq:q≤pl.length) (hk:k < 7) (h1:∀p∈g,k∈PL pl p→p < q) (h2:∀p,p < q→k∈PL pl p→p∈g):st (mI pl g k) k=st q k:=by
 have hle:mI pl g k≤q:=kE (Nat.zero_le _) fun p hp=>by
  obtain ⟨a,b⟩:=mem_filter.mp hp
  exact h1 p a (by simpa using b)
 have key:∀d,∀j,j+d=q→mI pl g k≤j→st j k=st q k:=by
  intro d
  induction d with
  | zero=>intro j e _;rw [show j=q from by lia]
  | succ d ih=>
   intro j e hj
   have hn:k∉PL pl j:=fun hin=>by
    have hg:=h2 j (by lia) hin
    have:=(rO (l:=g.filter fun p=>(PL pl p).contains k) (m:=0)).2 j (mem_filter.mpr ⟨hg,by simpa using hin⟩)
    unfold mI at hj
    lia
   rw [hc j (by lia) k hk hn]
   exact ih (j+1) (by lia) (by lia)
 exact key (q - mI pl g k) _ (by lia) (Nat.le_refl _)
noncomputable def mix (pl:List (List Nat)) (st:Nat→Nat→Int) (g:List Nat):List Int:=(List.range 7).map fun k=>st (mI pl g k) k
theorem aIq (f:Nat→Int) (v:Int):∀k,k < 7→lD (txt ((List.range 7).map f)) (k,al v)=txt ((List.range 7).map fun j=>if j=k then v else f j):=
 aTr rfl rfl rfl rfl rfl rfl rfl
theorem vK:∀(ks:List Nat) (f g:Nat→Int),(∀k∈ks,k < 7)→(∀k,k < 7→k∉ks→f k=g k)→(ks.map fun k=>(k,al (g k))).foldl lD (txt ((List.range 7).map f))=txt ((List.range 7).map g)
 | [],f,g,_,h=>by
  show txt ((List.range 7).map f)=_
  congr 1
  exact map_congr_left fun k hk=>h k (mem_range.mp hk) (by simp)
 | k::ks,f,g,hk,h=>by
  rw [map_cons,foldl_cons,aIq f (g k) k (hk k (mem_cons_self ..))]
  refine vK ks _ g (fun j hj=>hk j (mem_cons_of_mem _ hj)) fun j hj hn=>?_
  by_cases e:j=k
  ·subst e;rw [if_pos rfl]
  ·rw [if_neg e];exact h j hj fun q=>hn ((mem_cons.mp q).resolve_left e)
theorem Clo.upto {pl:List (List Nat)} {g:List Nat} {q k:Nat} (h:Clo pl (g++ [q])) (hk:k∈PL pl q):(∀p∈g,k∈PL pl p→p < q)∧∀p,p < q→k∈PL pl p→p∈g:=by
 have hg:Clo pl g:=by have:=h.take g.length;rwa [take_append_of_le_length (Nat.le_refl _),take_length] at this
 have hq:q∉g:=fun hm=>(nodup_append.mp h.nd).2.2 q hm q (mem_singleton.mpr rfl) rfl
 refine ⟨fun p hp hpk=>hg.lt_of hq hk hp hpk,fun p hp hpk=>?_⟩
 have:=h.ord g.length q (by simp) p (dF.mpr ⟨hp,pY.mpr ⟨k,hpk,hk⟩⟩)
 rwa [take_append_of_le_length (Nat.le_refl _),take_length] at this
theorem aAk {pl:List (List Nat)} {st:Nat→Nat→Int} (h7:∀p,∀k∈PL pl p,k < 7) {g:List Nat} {q:Nat} (h:Clo pl (g++ [q])):
  ((PL pl q).map fun k=>(k,al (st (q+1) k))).foldl lD (txt (mix pl st g))=txt (mix pl st (g++ [q])):=by
 have e:((PL pl q).map fun k=>(k,al (st (q+1) k)))=(PL pl q).map fun k=>(k,al (st (mI pl (g++ [q]) k) k)):=map_congr_left fun k hk=>by
  rw [aAj hk (h.upto hk).1]
 rw [e]
 exact vK (PL pl q) (fun k=>st (mI pl g k) k) (fun k=>st (mI pl (g++ [q]) k) k) (h7 q) fun k hk hn=>by rw [pP hn]
theorem aEl {pl:List (List Nat)} {st:Nat→Nat→Int} (hc:Chg pl st) (h7:∀p,∀k∈PL pl p,k < 7) {g:List Nat} {q:Nat} (h:Clo pl (g++ [q])):
  ((PL pl q).map fun k=>(k,al (st q k))).foldl lD (txt (mix pl st (g++ [q])))=txt (mix pl st g):=by
 have e:((PL pl q).map fun k=>(k,al (st q k)))=(PL pl q).map fun k=>(k,al (st (mI pl g k) k)):=map_congr_left fun k hk=>by
  obtain ⟨a,b⟩:=h.upto hk
  rw [aQa hc (Nat.le_of_lt (h.lt q (by simp))) (h7 q k hk) a b]
 rw [e]
 exact vK (PL pl q) (fun k=>st (mI pl (g++ [q]) k) k) (fun k=>st (mI pl g k) k) (h7 q) fun k hk hn=>by rw [pP hn]
theorem aNa {pl:List (List Nat)} {st:Nat→Nat→Int} (hc:Chg pl st) {g:List Nat} (h:Clo pl g) (hl:g.length=pl.length):mix pl st g=(List.range 7).map (st pl.length):=by
 refine map_congr_left fun k hk=>?_
 exact aQa hc (Nat.le_refl _) (mem_range.mp hk) (fun p hp _=>h.lt p hp) fun p hp _=>yB h hl p hp
end Mine
end
section
open PySem
set_option maxRecDepth 10000
set_option tactic.hygienic false
namespace Mine
section
variable {σ:St} {m d c i x:Nat} {l:List MV} {y v:MV} {k:Int}
section
variable {β:Type} {o:Option MO}
theorem nQ {f:List MV→Option β} {a:List MV} (h:o=some (.list a)):pL o f=f a:=by rw [h];rfl
theorem aIr {f:Nat→Nat→Option β} {a b:Nat} (h:o=some (.inst a b)):pI o f=f a b:=by rw [h];rfl
theorem aIs {f:List (Nat×MV)→Option β} {a:List (Nat×MV)} (h:o=some (.attrs a)):pA o f=f a:=by rw [h];rfl
theorem aIt {f:Nat→Nat→List (Option MV)→Option β} {a b:Nat} {c:List (Option MV)} (h:o=some (.slots a b c)):pZ o f=f a b c:=by rw [h];rfl
theorem tR {f:Nat→List (Int×MV)→Option β} {a:Nat} {b:List (Int×MV)} (h:o=some (.dict a b)):pD o f=f a b:=by rw [h];rfl
theorem aQb {f:List Int→Option β} {a:List Int} (h:o=some (.set a)):pS o f=f a:=by rw [h];rfl
theorem aIu {f:Nat→Nat→Option β} {a b:Nat} (h:o=some (.iter a b)):pT o f=f a b:=by rw [h];rfl
theorem aTv {i:Int} {f:Int→Option β}:oI (.int i) f=f i:=rfl
theorem aQc {i:Nat} {f:Nat→Option β}:oC (.cell i) f=f i:=rfl
theorem aTw {i:List MV} {f:List MV→Option β}:oL (.lst i) f=f i:=rfl
theorem lM {n:Nat} {q:Option β}:gd (Nat.beq n n) q=q:=by rw [Nat.beq_refl];rfl
end
theorem lN {H:List MO} {n:Nat} {l:List MV} (h:H[n]?=some (.list l)) (hc:dZ l=true):wR H (.cell n)=some (.lst l):=(nQ h).trans (if_pos hc)
theorem vL {H:List MO} {m n:Nat} {k l:List MV} (h:H[m]?=some (.list k)) (hk:dZ k=true) (h':H[n]?=some (.list l)) (hl:dZ l=true):frz H (.tup [.cell m,.cell n])=some (.tup [.lst k,.lst l]):=by
 show ((wR H (.cell m)).bind fun y=>(((wR H (.cell n)).bind fun y=>(some []).map (y::·))).map (y::·)).map MV.tup=_
 rw [lN h hk,lN h' hl];rfl
theorem rP {l:List MV} {i:Int} {σ:St}:cA (.lst l) (.int i) σ=M.liftR (idxL l i) σ:=rfl
theorem aAl {l:List Int} {i:Int} {σ:St}:cA (.bytes l) (.int i) σ=M.liftR (idxB l i) σ:=rfl
theorem aIv {l:List MV} {i:Int} {σ:St}:cA (.tup l) (.int i) σ=M.liftR (aKn l i) σ:=rfl
theorem iY {α:Type} {l:List α} {i:Nat} {a b:α} (h:l[i]?=some b):(l.set i a)[i]?=some a:=by
 rw [List.getElem?_set,if_pos rfl,if_pos (gS h).1]
theorem aY {α:Type} {l:List α} {i j:Nat} {a:α} {o:Option α} (hn:i≠j) (h:l[j]?=o):(l.set i a)[j]?=o:=(getElem?_set_ne hn).trans h
theorem Ev.getA {as:List (Nat×MV)} (h0:σ.H[m]?=some (.inst c d)) (h1:σ.H[d]?=some (.attrs as)) (h2:as.lookup x=some y):Ev (kJ c x (.cell m)) σ y:=(aIr h0).trans (lM.trans ((aIs h1).trans (by rw [h2];rfl)))
theorem rQ {as:List (Nat×MV)} (h0:σ.H[m]?=some (.inst c d)) (h1:σ.H[d]?=some (.attrs as)):aBo c x (.cell m) v σ=some (.ok (),⟨σ.r,σ.H.set d (.attrs (aL x v as))⟩):=(aIr h0).trans (lM.trans (aIs h1))
theorem Ev.getS {s:List (Option MV)} (h0:σ.H[m]?=some (.slots c d s)) (h2:s[i]?=some (some y)):Ev (fH c i (.cell m)) σ y:=(aIt h0).trans (lM.trans (by rw [h2];rfl))
theorem nR {s:List (Option MV)} (h0:σ.H[m]?=some (.slots c d s)) (hi:i+1≤s.length):pJ c i (.cell m) v σ=some (.ok (),⟨σ.r,σ.H.set m (.slots c d (s.set i (some v)))⟩):=by
 refine (aIt h0).trans (lM.trans ?_)
 rw [Nat.sub_eq_zero_of_le hi,List.replicate_zero,append_nil]
theorem iZ {f:Nat→List MV→M MV} (h:σ.H[m]?=some (.list l)) (hz:l.length≤1000):gX (.cell m) f σ=f m l σ:=(nQ h).trans (if_pos (bK (by lia)))
theorem Ev.lstCk (h:σ.H[m]?=some (.list l)):Ev (lstCk (.cell m)) σ ():=nQ h
theorem Ev.dictCk {ep:Nat} {q:List (Int×MV)} (h:σ.H[m]?=some (.dict ep q)):Ev (dictCk (.cell m)) σ ():=tR h
theorem qA {α:Type} {f:Nat→Nat→List (Int×MV)→M α} {ep:Nat} {q:List (Int×MV)} (h:σ.H[m]?=some (.dict ep q)) (hz:q.length≤1000):pM (.cell m) f σ=f m ep q σ:=(tR h).trans (if_pos (bK (by lia)))
theorem Ev.dget {ep:Nat} {q:List (Int×MV)} (h:σ.H[m]?=some (.dict ep q)) (hz:q.length≤1000):Ev (xL [.cell m,.int k]) σ ((Mine.dget q k).getD .none):=by
 show pM (.cell m) (fun m ep l=>M.pure ((Mine.dget l k).getD .none)) σ=some (.ok ((Mine.dget q k).getD .none),σ)
 rw [qA h hz]
theorem Ev.ditem {ep:Nat} {q:List (Int×MV)} (h:σ.H[m]?=some (.dict ep q)) (hz:q.length≤1000) (hk:Mine.dget q k=some y):Ev (jC (.cell m) (.int k)) σ y:=by
 show pM (.cell m) (fun m ep l=>M.lift (Mine.dget l k)) σ=some (.ok y,σ)
 rw [qA h hz]
 exact bY hk
theorem Ev.items (h:σ.H[m]?=some (.list l)):Ev (cK (.cell m)) σ l:=nQ h
theorem Ev.lenC (h:σ.H[m]?=some (.list l)) (hz:l.length≤1000):Ev (nH [.cell m]) σ (.int l.length):=
 Ev.bind (Ev.items h) (Ev.lift (if_pos (bK (by lia))))
theorem Ev.lenL (hz:l.length≤1000):Ev (nH [.lst l]) σ (.int l.length):=by
 show M.bind (cK (.lst l)) (fun l=>M.lift (if cC l.length then some (MV.int l.length) else none)) σ=some (.ok (.int l.length),σ)
 exact Ev.bind (f:=cK (.lst l)) (a:=l) (show Ev _ _ _ from rfl) (Ev.lift (if_pos (bK (by lia))))
theorem Ev.src_cell (h:σ.H[m]?=some (.list l)):Ev (gZ (.cell m)) σ (l.length+1,nxC m):=nQ h
theorem aIw {H:List MO} (h:H[m]?=some (.list l)) (i:Nat):nxC m i H=some l[i]?:=nQ h
theorem gU {fx fe:M MV} (hx:Ev fx σ (.cell m)) (he:Ev fe σ y) (h:σ.H[m]?=some (.list l)) (hz:l.length≤1000):
  (M.bind (M.bind fx fun x=>M.bind (Mine.lstCk x) fun _=>M.bind (aO [fe]) fun l=>cQ (x::l)) fun _=>M.pure Fl.next) σ=some (.ok .next,⟨σ.r,σ.H.set m (.list (l++ [y]))⟩):=by
 rw [aA (a:=MV.none) (σ':=⟨σ.r,σ.H.set m (.list (l++ [y]))⟩)]
 rw [aA hx,aA (Ev.lstCk h),aA (Ev.cons he Ev.nil)]
 show gX (.cell m) (fun m l=>lW m (l++ [y]) .none) σ=_
 rw [iZ h hz]
 rfl
end
noncomputable def nI (l:List Nat):List MV:=l.map fun (j:Nat)=> .int (j:Int)
theorem bU (l:List Nat):(nI l).length=l.length:=by unfold nI;simp
theorem mV (l m:List Nat):nI (l++m)=nI l++nI m:=by unfold nI;simp
theorem aAm {l:List Nat} {i p:Nat} (h:l[i]?=some p):(nI l)[i]?=some (.int p):=by unfold nI;rw [getElem?_map,h];rfl
theorem vM {l:List Nat} {i:Nat} {x:MV} (h:(nI l)[i]?=some x):∃p,l[i]?=some p∧x= .int (p:Int):=by
 unfold nI at h
 rw [getElem?_map] at h
 refine aJ (map_eq_some_iff.mp h) fun p h1 h2=>?_
 exact ⟨p,h1,h2.symm⟩
noncomputable def dl (n:Nat):List (Int×MV):=(List.range n).map fun (j:Nat)=>((j:Int),.cell (4+3 * j))
theorem jD (n:Nat):(dl n).length=n:=by unfold dl;simp
theorem aCk (n:Nat):dl (n+1)=dl n++ [((n:Int),.cell (4+3 * n))]:=by unfold dl;rw [range_succ,map_append];rfl
theorem qB {n k:Nat}:dget (dl n) (k:Int)=if k < n then some (.cell (4+3 * k)) else none:=by
 induction n with
 | zero=>rw [if_neg (Nat.not_lt_zero k)];rfl
 | succ n ih=>
  unfold dget at ih ⊢
  rw [aCk,List.find?_append,Option.map_or,ih]
  by_cases h:k < n
  ·rw [if_pos h,if_pos (by lia)];rfl
  ·rw [if_neg h,Option.none_or]
   by_cases e:k=n
   ·subst e
    rw [if_pos (by lia)]
    simp
   ·rw [if_neg (by lia)]
    have:((n:Int)==(k:Int))=false:=by rw [beq_eq_false_iff_ne];lia
    simp [this]
theorem aNb {n:Nat}:iN (dl n) (n:Int)=false:=by
 unfold iN dl
 rw [any_eq_false]
 intro p hp
 (refine aJ (mem_map.mp hp) fun j hj e_1=>?_;obtain rfl:=e_1)
 have:=mem_range.mp hj
 simp;lia
structure Srt (n:Nat) (K:Nat→List Nat) (np:Nat→Int) (rv:MV) (po nf:Int) (H:List MO):Prop where
 at0:H[0]?=some (.attrs [(0,.cell 2),(1,rv),(2,.int po),(3,.int nf)])
 inst:H[1]?=some (.inst 0 0)
 dict:H[2]?=some (.dict n (dl n))
 node:∀j,j < n→H[4+3 * j]?=some (.slots 1 (3+3 * j) [some (.int j),some (.int (np j)),some (.cell (5+3 * j))])
 succ:∀j,j < n→H[5+3 * j]?=some (.list (nI (K j)))
theorem Ev.instCk {σ:St} {m c d:Nat} {as:List (Nat×MV)} (h0:σ.H[m]?=some (.inst c d)) (h1:σ.H[d]?=some (.attrs as)):Ev (instCk c (.cell m)) σ ():=by
 exact (aIr h0).trans (lM.trans (aIs h1))
theorem eX {Φ:List MV→List MV→List MO→Option (MV×List MO)} {a k:List MV} {σ:St} {x:MV} {H':List MO} (h:Φ a k σ.H=some (x,H')):gP Φ a k σ=some (.ok x,⟨σ.r,H'⟩):=by
 unfold gP;rw [h]
theorem kF {f:M Fl} {ps:List Nat} {xs:List MV} {H H':List MO} {x:MV} {r:List (Nat×MV)} (h:f ⟨ps.zip xs,H⟩=some (.ok (.ret x),⟨r,H'⟩)):kB f ps xs H=some (x,H'):=by
 unfold kB uK;rw [h]
theorem lO {f:M Fl} {ps:List Nat} {xs:List MV} {H H':List MO} {r:List (Nat×MV)} (h:f ⟨ps.zip xs,H⟩=some (.ok .next,⟨r,H'⟩)):kB f ps xs H=some (.none,H'):=by
 unfold kB uK;rw [h]
theorem vN {α:Type} {A:List α} {x y:α} {l:List α} {n:Nat} (h:A.length=n):(A++x::l).set n y=A++y::l:=by
 subst h;simp
theorem gL {α:Type} {A:List α} {x:α} {l:List α} {n:Nat} (h:A.length=n):(A++x::l)[n]?=some x:=by
 subst h;simp
theorem oR {σ:St} {m c d i:Nat} {v:MV} {s:List (Option MV)} (h0:σ.H[m]?=some (.slots c d s)):pJ c i (.cell m) v σ=some (.ok (),⟨σ.r,σ.H.set m (.slots c d ((s++List.replicate (i+1 - s.length) none).set i (some v)))⟩):=by
 exact (aIt h0).trans lM
theorem aEm {A:List MO} {L:Nat} {k:Int} {d:Nat} (hL:A.length=L):Φ_401 [.cell L,.int k] [] (A++ [.slots 1 d []])=some (.none,A++ [.slots 1 d [some (.int k),some (.int 0),some (.cell (L+1))],.list []]):=by
 refine lO (f:=aBz.1) (ps:= [62,34]) (xs:= [.cell L,.int k]) (r:= [(62,.cell L),(34,.int k)]) ?_
 simp only [aBz]
 have s1:=oR (σ:=⟨[(62,.cell L),(34,.int k)],A++ [.slots 1 d []]⟩) (i:=0) (v:= .int k) (gL hL)
 rw [show A++ [MO.slots 1 d []]=A++MO.slots 1 d []:: [] from rfl] at s1
 simp only [vN hL] at s1
 have s2:=oR (σ:=⟨[(62,.cell L),(34,.int k)],A++ [.slots 1 d [some (.int k)]]⟩) (i:=1) (v:= .int 0) (gL hL)
 simp only [vN hL] at s2
 have s3:=oR (σ:=⟨[(62,.cell L),(34,.int k)],A++ [.slots 1 d [some (.int k),some (.int 0)],.list []]⟩) (i:=2) (v:= .cell (L+1)) (gL hL)
 simp only [vN hL] at s3
 refine (aG (σ':=⟨[(62,.cell L),(34,.int k)],A++ [.slots 1 d [some (.int k)]]⟩) ((aA (bA rfl)).trans ((aA (bA rfl)).trans (aA s1)))).trans ?_
 refine (aG (σ':=⟨[(62,.cell L),(34,.int k)],A++ [.slots 1 d [some (.int k),some (.int 0)]]⟩) ((aA (bY rfl)).trans ((aA (bA rfl)).trans (aA s2)))).trans ?_
 refine (aA (a:=MV.cell (L+1)) (σ':=⟨[(62,.cell L),(34,.int k)],A++ [.slots 1 d [some (.int k),some (.int 0)],.list []]⟩) ?_).trans ((aA (bA rfl)).trans (aA s3))
 show some (R.ok (MV.cell (A++ [MO.slots 1 d [some (.int k),some (.int 0)]]).length),_)=_
 rw [length_append,hL,append_assoc];rfl
theorem aEn {σ:St} {k:Int} {L:Nat} (hL:σ.H.length=L):nL (fun d=>MO.slots 1 d []) Φ_401 [.int k] σ=some (.ok (.cell (L+1)),⟨σ.r,σ.H++ [.attrs [],.slots 1 L [some (.int k),some (.int 0),some (.cell (L+2))],.list []]⟩):=by
 unfold nL
 have:=aEm (A:=σ.H++ [.attrs []]) (L:=L+1) (k:=k) (d:=L) (by simp [hL])
 rw [hL,this]
 simp
section
variable {n:Nat} {K:Nat→List Nat} {np:Nat→Int} {rv:MV} {po nf:Int} {H:List MO}
theorem Srt.a0 (S:Srt n K np rv po nf H) {r:List (Nat×MV)} (h:r.lookup 62=some (.cell 1)):Ev ((aF 62).bind (kJ 0 0)) ⟨r,H⟩ (.cell 2):=Ev.bind (Ev.var h) (Ev.getA S.inst S.at0 rfl)
theorem Srt.a1 (S:Srt n K np rv po nf H) {r:List (Nat×MV)} (h:r.lookup 62=some (.cell 1)):Ev ((aF 62).bind (kJ 0 1)) ⟨r,H⟩ rv:=Ev.bind (Ev.var h) (Ev.getA S.inst S.at0 rfl)
theorem Srt.ck (S:Srt n K np rv po nf H) {r:List (Nat×MV)}:Ev (instCk 0 (.cell 1)) ⟨r,H⟩ ():=Ev.instCk S.inst S.at0
theorem Srt.np_at (S:Srt n K np rv po nf H) {r:List (Nat×MV)} {j:Nat} (hj:j < n):Ev (fH 1 1 (.cell (4+3 * j))) ⟨r,H⟩ (.int (np j)):=Ev.getS (S.node j hj) rfl
theorem Srt.sc_at (S:Srt n K np rv po nf H) {r:List (Nat×MV)} {j:Nat} (hj:j < n):Ev (fH 1 2 (.cell (4+3 * j))) ⟨r,H⟩ (.cell (5+3 * j)):=Ev.getS (S.node j hj) rfl
theorem Srt.item (S:Srt n K np rv po nf H) (hz:n≤100) {r:List (Nat×MV)} {j:Nat} (hj:j < n):Ev (jC (.cell 2) (.int j)) ⟨r,H⟩ (.cell (4+3 * j)):=Ev.ditem S.dict (by rw [jD];lia) (by rw [qB,if_pos hj])
theorem Srt.congr (S:Srt n K np rv po nf H) {H':List MO} (h:∀i,i < 3+3 * n→H'[i]?=H[i]?) (h1:0 < 3+3 * n:=by lia):Srt n K np rv po nf H':=
 ⟨(h 0 (by lia)).trans S.at0,(h 1 (by lia)).trans S.inst,(h 2 (by lia)).trans S.dict,fun j hj=>(h _ (by lia)).trans (S.node j hj),fun j hj=>(h _ (by lia)).trans (S.succ j hj)⟩
theorem Srt.app (S:Srt n K np rv po nf H) (hL:3+3 * n≤H.length) (X:List MO):Srt n K np rv po nf (H++X):=S.congr fun i hi=>getElem?_append_left (by lia)
theorem Srt.setNp (S:Srt n K np rv po nf H) {j:Nat} (hj:j < n) (v:Int):Srt n K (fun i=>if i=j then v else np i) rv po nf (H.set (4+3 * j) (.slots 1 (3+3 * j) [some (.int j),some (.int v),some (.cell (5+3 * j))])):=by
 refine ⟨aY (by lia) S.at0,aY (by lia) S.inst,aY (by lia) S.dict,fun i hi=>?_,fun i hi=>aY (by lia) (S.succ i hi)⟩
 by_cases e:i=j
 ·subst e
  rw [if_pos rfl]
  exact iY (S.node i hi)
 ·rw [if_neg e]
  exact aY (by lia) (S.node i hi)
theorem Srt.setSc (S:Srt n K np rv po nf H) {j:Nat} (hj:j < n) (l:List Nat):Srt n (fun i=>if i=j then l else K i) np rv po nf (H.set (5+3 * j) (.list (nI l))):=by
 refine ⟨aY (by lia) S.at0,aY (by lia) S.inst,aY (by lia) S.dict,fun i hi=>aY (by lia) (S.node i hi),fun i hi=>?_⟩
 by_cases e:i=j
 ·subst e
  rw [if_pos rfl]
  exact iY (S.succ i hi)
 ·rw [if_neg e]
  exact aY (by lia) (S.succ i hi)
theorem Srt.ext (S:Srt n K np rv po nf H) {K':Nat→List Nat} {np':Nat→Int} (h1:∀j,j < n→K j=K' j) (h2:∀j,j < n→np j=np' j):Srt n K' np' rv po nf H:=
 ⟨S.at0,S.inst,S.dict,fun j hj=>h2 j hj ▸ S.node j hj,fun j hj=>h1 j hj ▸ S.succ j hj⟩
theorem Srt.grow (S:Srt n K np rv po nf H) (hL:H.length=3+3 * n):
  Srt (n+1) (fun j=>if j=n then [] else K j) (fun j=>if j=n then 0 else np j) rv po nf ((H++ [MO.attrs [],MO.slots 1 (3+3 * n) [some (.int n),some (.int 0),some (.cell (5+3 * n))],MO.list []]).set 2 (MO.dict (n+1) (dl (n+1)))):=by
 have S1:=S.app (Nat.le_of_eq hL.symm) [MO.attrs [],MO.slots 1 (3+3 * n) [some (.int n),some (.int 0),some (.cell (5+3 * n))],MO.list []]
 refine ⟨aY (by lia) S1.at0,aY (by lia) S1.inst,iY S1.dict,fun j hj=>?_,fun j hj=>?_⟩
 ·refine aY (by lia) ?_
  by_cases e:j=n
  ·subst e
   rw [if_pos rfl,getElem?_append_right (by lia),show 4+3 * j - H.length=1 from by lia];rfl
  ·rw [if_neg e];exact S1.node j (by lia)
 ·refine aY (by lia) ?_
  by_cases e:j=n
  ·subst e
   rw [if_pos rfl,getElem?_append_right (by lia),show 5+3 * j - H.length=2 from by lia];rfl
  ·rw [if_neg e];exact S1.succ j (by lia)
theorem yC {σ:St} {m ep:Nat} {q:List (Int×MV)} {k:Int} {z:MV} (h:σ.H[m]?=some (.dict ep q)) (hz:q.length≤1000) (hn:iN q k=false):tL (.cell m) (.int k) z σ=some (.ok (),⟨σ.r,σ.H.set m (.dict (ep+1) (q++ [(k,z)]))⟩):=by
 refine (qA (α:=Unit) (f:=fun m ep l=>(fun σ=>some (.ok (),{ σ with H:=σ.H.set m (.dict (if iN l k then ep else ep+1) (aEd l k z)) }):M Unit)) h hz).trans ?_
 unfold aEd
 rw [hn];rfl
theorem aCl (S:Srt n K np rv po nf H) (hz:n≤100) {k:Int} {v:MV} (hv:(dget (dl n) k).getD .none=v):
  ((((((aF 62).bind (kJ 0 0)).bind fun x=>(dictCk x).bind fun x_1=>(aO [aF 34]).bind fun l=>xL (x::l)).bind fun v=>(bE 55 v).bind fun x=>M.pure v).bind
    fun x=>(M.lift (kM Const.none)).bind fun y=>M.lift (cG CmpOp.Is x y))) ⟨[(62,.cell 1),(34,.int k)],H⟩=some (.ok (uH v),⟨[(62,.cell 1),(34,.int k),(55,v)],H⟩):=by
 refine (aA (a:=v) (σ':=⟨[(62,.cell 1),(34,.int k),(55,v)],H⟩) ?_).trans rfl
 refine (aA (a:=v) (σ':=⟨[(62,.cell 1),(34,.int k)],H⟩) ?_).trans rfl
 exact Ev.bind (S.a0 rfl) (Ev.bind (Ev.dictCk S.dict) (Ev.bind (Ev.cons (Ev.var rfl) Ev.nil) (hv ▸ Ev.dget S.dict (by rw [jD];lia))))
theorem aNc (S:Srt n K np rv po nf H) (hz:n≤100) {k:Nat} (hk:k < n):Φ_601 [.cell 1,.int k] [] H=some (.cell (4+3 * k),H):=by
 refine kF (f:=tN.1) (ps:= [62,34]) (xs:= [.cell 1,.int k]) (r:= [(62,.cell 1),(34,.int k),(55,.cell (4+3 * k))]) ?_
 simp only [tN]
 refine (aG (σ':=⟨[(62,.cell 1),(34,.int k),(55,.cell (4+3 * k))],H⟩) ((aA (aCl S hz (v:= .cell (4+3 * k)) (by rw [qB,if_pos hk];rfl))).trans rfl)).trans ?_
 exact aA (bA rfl)
theorem aNd (S:Srt n K np rv po nf H) (hz:n≤100) (hL:H.length=3+3 * n):∃H',Φ_601 [.cell 1,.int n] [] H=some (.cell (4+3 * n),H')∧H'.length=3+3 * (n+1)∧
  Srt (n+1) (fun j=>if j=n then [] else K j) (fun j=>if j=n then 0 else np j) rv po nf H':=by
 refine ⟨_,?_,?_,S.grow hL⟩
 ·refine kF (f:=tN.1) (ps:= [62,34]) (xs:= [.cell 1,.int n]) (r:= [(62,.cell 1),(34,.int n),(55,.cell (4+3 * n))]) ?_
  simp only [tN]
  have mk:=aEn (σ:=⟨[(62,.cell 1),(34,.int n),(55,.none)],H⟩) (k:=n) hL
  rw [show 3+3 * n+1=4+3 * n from by first|lia|omega,show 3+3 * n+2=5+3 * n from by lia] at mk
  have S1:=S.app (Nat.le_of_eq hL.symm) [MO.attrs [],MO.slots 1 (3+3 * n) [some (.int n),some (.int 0),some (.cell (5+3 * n))],MO.list []]
  have ds:tL (.cell 2) (.int n) (.cell (4+3 * n)) ⟨[(62,.cell 1),(34,.int n),(55,.none)],H++ [MO.attrs [],MO.slots 1 (3+3 * n) [some (.int n),some (.int 0),some (.cell (5+3 * n))],MO.list []]⟩=some (.ok (),⟨[(62,.cell 1),(34,.int n),(55,.none)],(H++ [MO.attrs [],MO.slots 1 (3+3 * n) [some (.int n),some (.int 0),some (.cell (5+3 * n))],MO.list []]).set 2 (MO.dict (n+1) (dl (n+1)))⟩):=by
   rw [aCk]
   exact yC S1.dict (by rw [jD];lia) aNb
  refine (aG (σ':=⟨[(62,.cell 1),(34,.int n),(55,.cell (4+3 * n))],_⟩) ((aA (aCl S hz (v:= .none) (by rw [qB,if_neg (Nat.lt_irrefl n)];rfl))).trans ?_)).trans (aA (bA rfl))
  refine (aA ((aA (Ev.cons (Ev.var rfl) Ev.nil)).trans mk)).trans ((aA (S1.a0 rfl)).trans ((aA (bA rfl)).trans ((aA ds).trans rfl)))
 ·rw [length_set,length_append,hL];simp;lia
theorem aIx (S:Srt n K np .none po nf H) (hz:n≤8) (hL:H.length=3+3 * n) {ps:List Nat} (hp:∀p∈ps,p < n) (hnd:ps.Nodup) (hlen:ps.length≤8) (hK:∀j,(K j).length≤100):
  ∃H',Φ_602 (.cell 1:: .int n::nI ps) [] H=some (.none,H')∧H'.length=3+3 * (n+1)∧Srt (n+1) (fun j=>if j=n then [] else if j∈ps then K j++ [n] else K j) (fun j=>if j=n then (ps.length:Int) else np j) .none po nf H':=by
 refine bG (aNd S (by lia) hL) fun H1 e1 hL1 S1=>?_
 have S2:=S1.setNp (j:=n) (by lia) (0+(ps.length:Int))
 have hlp:(nI ps).length=ps.length:=bU ps
 obtain ⟨σ',f1,f2,f3,f4,f5⟩:=eE (nx:=fun i _=>some (nI ps)[i]?) (tg:=bE 50) (body:=(bS
      (((aF 62).bind fun x=>(instCk 0 x).bind fun x_1=>(aO [aF 50]).bind fun l=>gP Φ_601 (x::l) []).bind fun y=>(bE 51 y).bind fun x=>M.pure Fl.next)
      ((((aF 51).bind (fH 1 2)).bind fun x=>(lstCk x).bind fun x_1=>(aO [aF 34]).bind fun l=>cQ (x::l)).bind fun x=>M.pure Fl.next))) (l:=nI ps)
  (fun i σ=>σ.r.lookup 62=some (.cell 1)∧σ.r.lookup 34=some (.int n)∧σ.H.length=3+3 * (n+1)∧Srt (n+1) (fun j=>if j=n then [] else if j∈ps.take i then K j++ [n] else K j) (fun j=>if j=n then (ps.length:Int) else np j) .none po nf σ.H)
  (fun i σ _=>rfl) (fun i y σ hP hy=>by
   (refine gW hP fun g1 g2 g3 g4=>?_;try clear hP)
   (refine aJ (vM hy) fun p hpi e_1=>?_;obtain rfl:=e_1)
   have hpm:=mem_of_getElem? hpi
   have hpn:=hp p hpm
   have hni:p∉ps.take i:=fun hm=>by
    obtain ⟨j,hj,e⟩:=List.mem_take_iff_getElem.mp hm
    have hj2:ps[j]?=some p:=by rw [←e,getElem?_eq_getElem]
    have:=(List.getElem?_inj (gS hj2).1 hnd).mp (hj2.trans hpi.symm)
    lia
   have hs:=g4.succ p (by lia)
   rw [if_neg (by lia),if_neg hni] at hs
   refine ⟨⟨aL 50 (.int p) σ.r,σ.H⟩,⟨aL 51 (.cell (4+3 * p)) (aL 50 (.int p) σ.r),σ.H.set (5+3 * p) (.list (nI (K p)++ [.int n]))⟩,.next,rfl,?_,.inl rfl,lk (lk g1 (by decide)) (by decide),lk (lk g2 (by decide)) (by decide),by rw [length_set];exact g3,?_⟩
   ·refine (aG (σ':=⟨aL 51 (.cell (4+3 * p)) (aL 50 (.int p) σ.r),σ.H⟩) ?_).trans ?_
    ·refine (aA (a:=MV.cell (4+3 * p)) (σ':=⟨aL 50 (.int p) σ.r,σ.H⟩) ?_).trans rfl
     exact Ev.bind (Ev.var (lk g1 (by decide))) (Ev.bind g4.ck (Ev.bind (Ev.cons (Ev.var lk') Ev.nil) (eX (aNc g4 (by lia) (by lia)))))
    ·exact gU (Ev.bind (Ev.var lk') (Ev.getS (g4.node p (by lia)) rfl)) (Ev.var (lk (lk g2 (by decide)) (by decide))) hs (by rw [bU];have:=hK p;lia)
   ·have:=g4.setSc (j:=p) (by lia) (K p++ [n])
    rw [mV] at this
    refine this.ext (fun j hj=>?_) fun j hj=>rfl
    rw [take_add_one,hpi]
    by_cases e:j=p
    ·subst e
     rw [if_pos rfl,if_neg (by lia),if_pos (by simp)]
    ·rw [if_neg e]
     by_cases e2:j=n
     ·rw [if_pos e2,if_pos e2]
     ·rw [if_neg e2,if_neg e2]
      by_cases e3:j∈ps.take i
      ·rw [if_pos e3,if_pos (mem_append_left _ e3)]
      ·rw [if_neg e3,if_neg]
       intro h
       rcases mem_append.mp h with h|h
       ·exact e3 h
       ·exact e (by simpa using h)) (ps.length+1) 0 ⟨[(62,.cell 1),(34,.int n),(52,.tup (nI ps)),(36,.cell (4+3 * n))],_⟩ (by rw [hlp];lia) (Nat.zero_le _) ⟨rfl,rfl,(length_set ..).trans hL1,S2.ext (fun j hj=>by simp) fun j hj=>by
    by_cases e:j=n
    ·rw [if_pos e,if_pos e];lia
    ·rw [if_neg e,if_neg e,if_neg e]⟩
 rw [hlp,take_length] at f5
 refine ⟨σ'.H,?_,f4,f5⟩
 have hb:mG 2 (.cell 1:: .int n::nI ps) []=some [.cell 1,.int n,.tup (nI ps)]:=by
  unfold mG
  rw [if_pos]
  ·rfl
  ·rw [Bool.and_eq_true,Bool.and_eq_true]
   refine ⟨⟨Nat.ble_eq_true_of_le (by simp),rfl⟩,Nat.ble_eq_true_of_le ?_⟩
   show (nI ps).length+1+1≤2+8
   lia
 show (mG 2 (.cell 1:: .int n::nI ps) []).bind _=_
 rw [hb]
 refine lO (f:=aCa.1) (ps:= [62,34,52]) (xs:= [.cell 1,.int n,.tup (nI ps)]) (r:=σ'.r) ?_
 simp only [aCa]
 refine (aG (σ':=⟨[(62,.cell 1),(34,.int n),(52,.tup (nI ps))],H⟩) ((aA (Ev.bind (S.a1 rfl) (Ev.bind (Ev.lift rfl) (Ev.lift rfl)))).trans rfl)).trans ?_
 refine (aG (σ':=⟨[(62,.cell 1),(34,.int n),(52,.tup (nI ps)),(36,.cell (4+3 * n))],H1⟩) ?_).trans ?_
 ·refine (aA (a:=MV.cell (4+3 * n)) (σ':=⟨[(62,.cell 1),(34,.int n),(52,.tup (nI ps))],H1⟩) ?_).trans rfl
  exact (aA (bA rfl)).trans ((aA S.ck).trans ((aA (Ev.cons (Ev.var rfl) Ev.nil)).trans (eX e1)))
 ·refine (aG (σ':=⟨[(62,.cell 1),(34,.int n),(52,.tup (nI ps)),(36,.cell (4+3 * n))],_⟩) ?_).trans ((aA (bJ (Ev.bind (Ev.var rfl) Ev.src_tup))).trans (by rw [hlp];exact f1))
  have hn1:=S1.node n (by lia)
  rw [if_pos rfl] at hn1
  have e2:Ev (fH 1 1 (.cell (4+3 * n))) ⟨[(62,.cell 1),(34,.int n),(52,.tup (nI ps)),(36,.cell (4+3 * n))],H1⟩ (.int 0):=Ev.getS hn1 rfl
  have e3:=nR (σ:=⟨[(62,.cell 1),(34,.int n),(52,.tup (nI ps)),(36,.cell (4+3 * n))],H1⟩) (i:=1) (v:= .int (0+(ps.length:Int))) hn1 (by show 2≤3;decide)
  refine (aA (bA rfl)).trans ((aA e2).trans ?_)
  refine (aA (a:=MV.int ps.length) (Ev.bind (Ev.cons (Ev.var rfl) Ev.nil) (Ev.lift ?_))).trans ?_
  ·show (if cC (nI ps).length=true then some (MV.int (nI ps).length) else none)=_
   rw [hlp,if_pos (bK (by lia))]
  ·exact (aA (bY (a:=MV.int (0+(ps.length:Int))) rfl)).trans ((aA e3).trans rfl)
end
theorem eH {l:List Nat} {i p j:Nat} (h:l[i]?=some p):j∈l.take (i+1) ↔ j∈l.take i∨j=p:=by
 rw [take_add_one,h];simp
theorem vO {l:List Nat} {i p:Nat} (hn:l.Nodup) (h:l[i]?=some p):p∉l.take i:=fun hm=>by
 obtain ⟨j,hj,e⟩:=List.mem_take_iff_getElem.mp hm
 have h2:l[j]?=some p:=by rw [←e,getElem?_eq_getElem]
 have:=(List.getElem?_inj (gS h2).1 hn).mp (h2.trans h.symm)
 lia
structure Frm (n R:Nat) (H H':List MO):Prop where
 len:H'.length=H.length
 same:∀i,3+3 * n≤i→i≠R→H'[i]?=H[i]?
theorem Frm.refl (n R:Nat) (H:List MO):Frm n R H H:=⟨rfl,fun _ _ _=>rfl⟩
theorem Frm.trans {n R:Nat} {H H' H'':List MO} (a:Frm n R H H') (b:Frm n R H' H''):Frm n R H H'':=⟨b.len.trans a.len,fun i h1 h2=>(b.same i h1 h2).trans (a.same i h1 h2)⟩
theorem Frm.set {n R:Nat} {H:List MO} {i:Nat} {x:MO} (h:i < 3+3 * n∨i=R):Frm n R H (H.set i x):=⟨length_set ..,fun j h1 h2=>getElem?_set_ne (by lia)⟩
section
variable {n R:Nat} {K:Nat→List Nat} {np:Nat→Int} {po nf:Int} {H:List MO} {rd:List Nat}
noncomputable abbrev aRi:M Fl:=((M.pure (MV.int (-1))).bind fun z=>((aF 32).bind fun x=>(aF 34).bind fun y=>jC x y).bind fun y=>(pJ 1 1 y z).bind fun x=>M.pure Fl.next)
theorem aAn (S:Srt n K np (.cell R) po nf H) (hz:n≤100) (hR:3+3 * n≤R) (hr:H[R]?=some (.list (nI rd))) (hrd:∀p∈rd,p < n) (hl:rd.length≤100):
  ∃H',Φ_604 [.cell 1] [] H=some (.tup (nI rd),H')∧Srt n K (fun j=>if j∈rd then -1 else np j) (.cell R) (po+rd.length) nf H'∧H'[R]?=some (.list [])∧Frm n R H H':=by
 have hlr:(nI rd).length=rd.length:=bU rd
 obtain ⟨σ',f1,f2,f3,f4,f5,f6,f7⟩:=eE (nx:=fun i _=>some (nI rd)[i]?) (tg:=bE 34) (body:=aRi) (l:=nI rd)
  (fun i σ=>σ.r.lookup 62=some (.cell 1)∧σ.r.lookup 32=some (.cell 2)∧σ.r.lookup 55=some (.tup (nI rd))∧Srt n K (fun j=>if j∈rd.take i then -1 else np j) (.cell R) po nf σ.H∧σ.H[R]?=some (.list (nI rd))∧Frm n R H σ.H)
  (fun i σ _=>rfl) (fun i y σ hP hy=>by
   (refine aKd hP fun g1 g2 g3 g4 g5 g6=>?_;try clear hP)
   (refine aJ (vM hy) fun p hpi e_1=>?_;obtain rfl:=e_1)
   have hpn:=hrd p (mem_of_getElem? hpi)
   refine ⟨⟨aL 34 (.int p) σ.r,σ.H⟩,⟨aL 34 (.int p) σ.r,σ.H.set (4+3 * p) (.slots 1 (3+3 * p) [some (.int p),some (.int (-1)),some (.cell (5+3 * p))])⟩,.next,rfl,?_,.inl rfl,lk g1 (by decide),lk g2 (by decide),lk g3 (by decide),?_,aY (by lia) g5,g6.trans (.set (.inl (by lia)))⟩
   ·have e1:Ev ((aF 32).bind fun x=>(aF 34).bind fun y=>jC x y) ⟨aL 34 (.int p) σ.r,σ.H⟩ (.cell (4+3 * p)):=Ev.bind (Ev.var (lk g2 (by decide))) (Ev.bind (Ev.var lk') (g4.item hz hpn))
    have e2:=nR (σ:=⟨aL 34 (.int p) σ.r,σ.H⟩) (i:=1) (v:= .int (-1)) (g4.node p hpn) (by show 2≤3;decide)
    exact (aA e1).trans ((aA e2).trans rfl)
   ·refine (g4.setNp hpn (-1)).ext (fun j _=>rfl) fun j hj=>?_
    by_cases e:j=p
    ·rw [if_pos e,if_pos ((eH hpi).mpr (.inr e))]
    ·rw [if_neg e]
     by_cases e2:j∈rd.take i
     ·rw [if_pos e2,if_pos ((eH hpi).mpr (.inl e2))]
     ·rw [if_neg e2,if_neg (fun q=>((eH hpi).mp q).elim e2 e)]) (rd.length+1) 0 ⟨[(62,.cell 1),(55,.tup (nI rd)),(32,.cell 2)],H⟩ (by rw [hlr];lia) (Nat.zero_le _) ⟨rfl,rfl,rfl,S.ext (fun j _=>rfl) fun j _=>by simp,hr,.refl ..⟩
 rw [hlr,take_length] at f5
 obtain ⟨r',H2⟩:=σ'
 have S3:=f5.congr (H':=H2.set R (.list [])) fun i hi=>getElem?_set_ne (by lia)
 have hR2:(H2.set R (.list []))[R]?=some (.list []):=iY f6
 refine ⟨(H2.set R (.list [])).set 0 (.attrs [(0,.cell 2),(1,.cell R),(2,.int (po+rd.length)),(3,.int nf)]),?_,⟨iY S3.at0,aY (by decide) S3.inst,aY (by decide) S3.dict,fun j hj=>aY (by lia) (S3.node j hj),fun j hj=>aY (by lia) (S3.succ j hj)⟩,aY (by lia) hR2,f7.trans (.trans (.set (.inr rfl)) (.set (.inl (by lia))))⟩
 refine kF (f:=aCd.1) (ps:= [62]) (xs:= [.cell 1]) (r:=r') ?_
 simp only [aCd]
 have tup:Ev (aFx [.cell R]) ⟨[(62,.cell 1)],H⟩ (.tup (nI rd)):=by
  show M.bind (cK (.cell R)) (fun l=>M.lift (if cC l.length then some (MV.tup l) else none)) _=some (.ok (.tup (nI rd)),_)
  exact Ev.bind (Ev.items hr) (Ev.lift (if_pos (bK (by lia))))
 refine (aG (σ':=⟨[(62,.cell 1)],H⟩) ((aA (show Ev _ _ false from Ev.bind (S.a1 rfl) (Ev.bind (Ev.lift rfl) (Ev.lift rfl)))).trans rfl)).trans ?_
 refine (aG (σ':=⟨[(62,.cell 1),(55,.tup (nI rd))],H⟩) ((aA (show Ev _ _ (.tup (nI rd)) from Ev.bind (Ev.cons (S.a1 rfl) Ev.nil) tup)).trans rfl)).trans ?_
 refine (aG (σ':=⟨[(62,.cell 1),(55,.tup (nI rd)),(32,.cell 2)],H⟩) ((aA (S.a0 rfl)).trans rfl)).trans ?_
 refine (aG (σ':=⟨r',H2⟩) ((aA (bJ (Ev.bind (Ev.var rfl) Ev.src_tup))).trans (by rw [hlr];exact f1))).trans ?_
 refine (aG (σ':=⟨r',H2.set R (.list [])⟩) ?_).trans ?_
 ·refine (aA (a:=MV.none) (σ':=⟨r',H2.set R (.list [])⟩) ?_).trans rfl
  refine (aA (f5.a1 f2)).trans ((aA (Ev.lstCk f6)).trans ((aA Ev.nil).trans ?_))
  show gX (.cell R) (fun m l=>lW m [] .none) _=_
  rw [iZ f6 (by lia)];rfl
 ·refine (aG (σ':=⟨r',_⟩) ?_).trans (aA (bA (σ:=⟨r',_⟩) f4))
  have e0:Ev (kJ 0 2 (.cell 1)) ⟨r',H2.set R (.list [])⟩ (.int po):=Ev.getA S3.inst S3.at0 rfl
  have f4':List.lookup 55 r'=some (.tup (nI rd)):=f4
  refine (aA (bA (σ:=⟨r',H2.set R (.list [])⟩) f2)).trans ?_
  refine (aA e0).trans ?_
  refine (aA (a:=MV.int rd.length) (Ev.bind (Ev.cons (Ev.var f4') Ev.nil) (Ev.lift ?_))).trans ?_
  ·show (if cC (nI rd).length=true then some (MV.int (nI rd).length) else none)=_
   rw [hlr,if_pos (bK (by lia))]
  ·exact (aA (bY (a:=MV.int (po+(rd.length:Int))) rfl)).trans ((aA (rQ S3.inst S3.at0)).trans rfl)
theorem yD (S:Srt n K np (.cell R) po nf H) (hr:H[R]?=some (.list (nI rd))) (hl:rd.length≤100) (h:po≤nf):Φ_605 [.cell 1] [] H=some (.bool (rd.length !=0),H):=by
 refine kF (f:=aCe.1) (ps:= [62]) (xs:= [.cell 1]) (r:= [(62,.cell 1)]) ?_
 simp only [aCe]
 have hlr:(nI rd).length=rd.length:=bU rd
 refine (aG (σ':=⟨[(62,.cell 1)],H⟩) ((aA (show Ev _ _ false from Ev.bind (S.a1 rfl) (Ev.bind (Ev.lift rfl) (Ev.lift rfl)))).trans rfl)).trans ?_
 refine aA (show Ev _ _ (MV.bool (rd.length !=0)) from Ev.bind (a:=MV.bool false) (Ev.bind (Ev.bind (Ev.var rfl) (Ev.getA S.inst S.at0 rfl)) (Ev.bind (Ev.bind (Ev.var rfl) (Ev.getA S.inst S.at0 rfl)) (Ev.bind (Ev.lift (a:=false) ?_) Ev.pure))) (Ev.bind (Ev.lift rfl) (Ev.bind (Ev.cons (S.a1 rfl) Ev.nil) ?_)))
 ·show some (decide (nf < po))=some false
  rw [decide_eq_false (by lia)]
 ·show M.bind (cK (.cell R)) (fun l=>M.lift (if cC l.length then some (MV.bool (l.length !=0)) else none)) _=some (.ok (.bool (rd.length !=0)),_)
  rw [←hlr]
  exact Ev.bind (Ev.items hr) (Ev.lift (if_pos (bK (by lia))))
noncomputable abbrev aAo:M Fl:=(bS (((aF 32).bind fun x=>(aF 70).bind fun y=>jC x y).bind fun y=>(bE 71 y).bind fun x=>M.pure Fl.next) (bS ((aF 71).bind fun y=>(fH 1 1 y).bind fun a=>(M.lift (kM (Const.int 1))).bind fun b=>(M.lift (sC Operator.Sub a b)).bind fun d=>(pJ 1 1 y d).bind fun x=>M.pure Fl.next) ((((aF 71).bind (fH 1 1)).bind fun x=>(M.lift (kM (Const.int 0))).bind fun y=>M.lift (cG CmpOp.Eq x y)).bind fun x=>match x with
              | true=>(((aF 62).bind (kJ 0 1)).bind fun x=>(lstCk x).bind fun x_1=>(aO [aF 70]).bind fun l=>cQ (x::l)).bind fun x=>M.pure Fl.next
              | false=>M.pure Fl.next)))
theorem aNe {np':Nat→Int} {σ:St} {s:Nat} {rd':List Nat} (g1:σ.r.lookup 62=some (.cell 1)) (g2:σ.r.lookup 32=some (.cell 2)) (g3:σ.r.lookup 70=some (.int s)) (g4:Srt n K np' (.cell R) po nf σ.H) (g5:σ.H[R]?=some (.list (nI rd'))) (hz:n≤100) (hs:s < n) (hR:3+3 * n≤R) (hl:rd'.length≤1000):
  ∃H',aAo σ=some (.ok .next,⟨aL 71 (.cell (4+3 * s)) σ.r,H'⟩)∧Srt n K (fun j=>if j=s then np' s - 1 else np' j) (.cell R) po nf H'∧H'[R]?=some (.list (nI (rd'++if np' s - 1==0 then [s] else [])))∧Frm n R σ.H H':=by
 have S1:=g4.setNp hs (np' s - 1)
 have hR1:(σ.H.set (4+3 * s) (.slots 1 (3+3 * s) [some (.int s),some (.int (np' s - 1)),some (.cell (5+3 * s))]))[R]?=some (.list (nI rd')):=aY (by lia) g5
 have fr:Frm n R σ.H (σ.H.set (4+3 * s) (.slots 1 (3+3 * s) [some (.int s),some (.int (np' s - 1)),some (.cell (5+3 * s))])):= .set (.inl (by lia))
 have st1:(((aF 32).bind fun x=>(aF 70).bind fun y=>jC x y).bind fun y=>(bE 71 y).bind fun x=>M.pure Fl.next) σ=some (.ok .next,⟨aL 71 (.cell (4+3 * s)) σ.r,σ.H⟩):=
  (aA (show Ev _ _ (.cell (4+3 * s)) from Ev.bind (Ev.var g2) (Ev.bind (Ev.var g3) (g4.item hz hs)))).trans rfl
 have st2:((aF 71).bind fun y=>(fH 1 1 y).bind fun a=>(M.lift (kM (Const.int 1))).bind fun b=>(M.lift (sC Operator.Sub a b)).bind fun d=>(pJ 1 1 y d).bind fun x=>M.pure Fl.next) ⟨aL 71 (.cell (4+3 * s)) σ.r,σ.H⟩=some (.ok .next,⟨aL 71 (.cell (4+3 * s)) σ.r,σ.H.set (4+3 * s) (.slots 1 (3+3 * s) [some (.int s),some (.int (np' s - 1)),some (.cell (5+3 * s))])⟩):=by
  have e2:=nR (σ:=⟨aL 71 (.cell (4+3 * s)) σ.r,σ.H⟩) (i:=1) (v:= .int (np' s - 1)) (g4.node s hs) (by show 2≤3;decide)
  exact (aA (bA lk')).trans ((aA (g4.np_at hs)).trans ((aA (bY rfl)).trans ((aA (bY (a:=MV.int (np' s - 1)) rfl)).trans ((aA e2).trans rfl))))
 have e3:Ev (((aF 71).bind (fH 1 1)).bind fun x=>(M.lift (kM (Const.int 0))).bind fun y=>M.lift (cG CmpOp.Eq x y)) ⟨aL 71 (.cell (4+3 * s)) σ.r,σ.H.set (4+3 * s) (.slots 1 (3+3 * s) [some (.int s),some (.int (np' s - 1)),some (.cell (5+3 * s))])⟩ (np' s - 1==0):=by
  have:=S1.np_at (r:=aL 71 (.cell (4+3 * s)) σ.r) hs
  rw [if_pos rfl] at this
  exact Ev.bind (Ev.bind (Ev.var lk') this) (Ev.bind (Ev.lift rfl) (Ev.lift rfl))
 have S1':=S1.ext (K':=K) (np':=fun j=>if j=s then np' s - 1 else np' j) (fun _ _=>rfl) fun j _=>by simp
 cases hc:(np' s - 1==0) with
 | false=>
  rw [hc] at e3
  refine ⟨_,(aG st1).trans ((aG st2).trans ((aA e3).trans rfl)),S1',?_,fr⟩
  rw [if_neg (by decide),append_nil];exact hR1
 | true=>
  rw [hc] at e3
  have ap:=gU (σ:=⟨aL 71 (.cell (4+3 * s)) σ.r,σ.H.set (4+3 * s) (.slots 1 (3+3 * s) [some (.int s),some (.int (np' s - 1)),some (.cell (5+3 * s))])⟩) (S1.a1 (lk g1 (by decide))) (Ev.var (lk g3 (by decide))) hR1 (by rw [bU];exact hl)
  refine ⟨_,(aG st1).trans ((aG st2).trans ((aA e3).trans ap)),S1'.congr fun i hi=>getElem?_set_ne (by lia),?_,fr.trans (.set (.inr rfl))⟩
  rw [if_pos rfl,mV]
  exact iY hR1
end
section
variable {n R:Nat} {K:Nat→List Nat} {np:Nat→Int} {po nf:Int} {H:List MO} {rd:List Nat}
theorem aNf {p:Nat} (S:Srt n K (fun j=>if j=p then -2 else np j) (.cell R) po nf H) {r:List (Nat×MV)} (h62:r.lookup 62=some (.cell 1)) (h32:r.lookup 32=some (.cell 2)) (hz:n≤100) (hR:3+3 * n≤R) (hr:H[R]?=some (.list (nI rd)))
  (hp:p < n) (hk:∀s∈K p,s < n∧s≠p) (hnd:(K p).Nodup) (hl:rd.length+(K p).length≤100):
  ∃σ',iI (nxC (5+3 * p)) (bE 70) aAo ((K p).length+1) 0 ⟨r,H⟩=some (.ok .next,σ')∧σ'.r.lookup 62=some (.cell 1)∧
   Srt n K (fun j=>if j=p then -2 else if j∈K p then np j - 1 else np j) (.cell R) po nf σ'.H∧σ'.H[R]?=some (.list (nI (rd++(K p).filter fun j=>np j - 1==0)))∧Frm n R H σ'.H:=by
 have hlk:(nI (K p)).length=(K p).length:=bU _
 obtain ⟨σ',f1,f2,f3,f4,f5,f6⟩:=eE (nx:=nxC (5+3 * p)) (tg:=bE 70) (body:=aAo) (l:=nI (K p))
  (fun i σ=>σ.r.lookup 62=some (.cell 1)∧σ.r.lookup 32=some (.cell 2)∧Srt n K (fun j=>if j=p then -2 else if j∈(K p).take i then np j - 1 else np j) (.cell R) po nf σ.H∧σ.H[R]?=some (.list (nI (rd++((K p).take i).filter fun j=>np j - 1==0)))∧Frm n R H σ.H)
  (fun i σ hP=>aIw (hP.2.2.1.succ p hp) i) (fun i y σ hP hy=>by
   (refine aFc hP fun g1 g2 g3 g4 g5=>?_;try clear hP)
   (refine aJ (vM hy) fun s hsi e_2=>?_;obtain rfl:=e_2)
   obtain ⟨hs,hsp⟩:=hk s (mem_of_getElem? hsi)
   have hnt:=vO hnd hsi
   have hle:(((K p).take i).filter fun j=>np j - 1==0).length≤(K p).length:=Nat.le_trans (length_filter_le ..) (List.length_take_le' ..)
   refine uA (aNe (σ:=⟨aL 70 (.int s) σ.r,σ.H⟩) (s:=s) (lk g1 (by decide)) (lk g2 (by decide)) lk' g3 g4 hz hs hR (by rw [length_append];lia)) fun H' e1 e2 e3 e4=>?_
   rw [if_neg hsp,if_neg hnt] at e3
   refine ⟨_,_,.next,rfl,e1,.inl rfl,lk (lk g1 (by decide)) (by decide),lk (lk g2 (by decide)) (by decide),e2.ext (fun _ _=>rfl) fun j _=>?_,?_,g5.trans e4⟩
   ·by_cases e:j=s
    ·subst e
     rw [if_pos rfl,if_neg hsp,if_neg hnt,if_neg hsp,if_pos ((eH hsi).mpr (.inr rfl))]
    ·rw [if_neg e]
     by_cases e':j=p
     ·rw [if_pos e',if_pos e']
     ·rw [if_neg e',if_neg e']
      by_cases e'':j∈(K p).take i
      ·rw [if_pos e'',if_pos ((eH hsi).mpr (.inl e''))]
      ·rw [if_neg e'',if_neg (fun q=>((eH hsi).mp q).elim e'' e)]
   ·rw [take_add_one,hsi,filter_append,←append_assoc]
    refine e3.trans ?_
    congr 3
    show _=rd++_++List.filter _ [s]
    congr 1
    cases hc:(np s - 1==0) <;> simp [hc]) ((K p).length+1) 0 ⟨r,H⟩ (by rw [hlk];lia) (Nat.zero_le _) ⟨h62,h32,S.ext (fun _ _=>rfl) fun j _=>by simp,by simpa using hr,.refl ..⟩
 rw [hlk,take_length] at f4 f5
 exact ⟨σ',f1,f2,f4,f5,f6⟩
theorem aEo (S:Srt n K np (.cell R) po nf H) (hz:n≤100) (hR:3+3 * n≤R) (hr:H[R]?=some (.list (nI rd))) {p:Nat} (hp:p < n) (hnp:np p= -1) (hk:∀s∈K p,s < n∧s≠p) (hnd:(K p).Nodup) (hl:rd.length+(K p).length≤100):
  ∃H',Φ_607 [.cell 1,.int p] [] H=some (.none,H')∧Srt n K (fun j=>if j=p then -2 else if j∈K p then np j - 1 else np j) (.cell R) po (nf+1) H'∧H'[R]?=some (.list (nI (rd++(K p).filter fun j=>np j - 1==0)))∧Frm n R H H':=by
 have S2:=S.setNp hp (-2)
 have hR2:(H.set (4+3 * p) (.slots 1 (3+3 * p) [some (.int p),some (.int (-2)),some (.cell (5+3 * p))]))[R]?=some (.list (nI rd)):=aY (by lia) hr
 (refine mX (aNf (r:= [(62,.cell 1),(37,.tup [.int p]),(32,.cell 2),(34,.int p),(36,.cell (4+3 * p)),(67,.int (-1))]) S2 rfl rfl hz hR hR2 hp hk hnd hl) fun t_1 f1 f2 f3 f4 f5=>?_;obtain ⟨r',H3⟩:=t_1)
 have f3':Srt n K (fun j=>if j=p then -2 else if j∈K p then np j - 1 else np j) (.cell R) po nf H3:=f3
 refine ⟨H3.set 0 (.attrs [(0,.cell 2),(1,.cell R),(2,.int po),(3,.int (nf+1))]),?_,⟨iY f3'.at0,aY (by decide) f3'.inst,aY (by decide) f3'.dict,fun j hj=>aY (by lia) (f3'.node j hj),fun j hj=>aY (by lia) (f3'.succ j hj)⟩,aY (by lia) f4,(Frm.set (.inl (by lia))).trans (f5.trans (.set (.inl (by lia))))⟩
 show kB xS.1 [62,37] [.cell 1,.tup [.int p]] H=_
 refine lO (f:=xS.1) (ps:= [62,37]) (xs:= [.cell 1,.tup [.int p]]) (r:=r') ?_
 simp only [xS]
 refine (aG (σ':=⟨[(62,.cell 1),(37,.tup [.int p])],H⟩) ((aA (show Ev _ _ false from Ev.bind (S.a1 rfl) (Ev.bind (Ev.lift rfl) (Ev.lift rfl)))).trans rfl)).trans ?_
 refine (aG (σ':=⟨[(62,.cell 1),(37,.tup [.int p]),(32,.cell 2)],H⟩) ((aA (S.a0 rfl)).trans rfl)).trans ?_
 refine (aA (bJ (Ev.bind (Ev.var rfl) Ev.src_tup))).trans ?_
 refine (cY (σ₁:=⟨[(62,.cell 1),(37,.tup [.int p]),(32,.cell 2),(34,.int p)],H⟩) (σ₂:=⟨r',H3.set 0 (.attrs [(0,.cell 2),(1,.cell R),(2,.int po),(3,.int (nf+1))])⟩) rfl rfl ?_).trans (rH rfl)
 have dg:Ev (xL [.cell 2,.int p]) ⟨[(62,.cell 1),(37,.tup [.int p]),(32,.cell 2),(34,.int p)],H⟩ (.cell (4+3 * p)):=by
  have:=Ev.dget (σ:=⟨[(62,.cell 1),(37,.tup [.int p]),(32,.cell 2),(34,.int p)],H⟩) (k:=p) S.dict (by rw [jD];lia)
  rw [qB,if_pos hp] at this
  exact this
 have npa:=S.np_at (r:= [(62,.cell 1),(37,.tup [.int p]),(32,.cell 2),(34,.int p),(36,.cell (4+3 * p))]) hp
 rw [hnp] at npa
 refine (aG (σ':=⟨[(62,.cell 1),(37,.tup [.int p]),(32,.cell 2),(34,.int p),(36,.cell (4+3 * p))],H⟩) ?_).trans ?_
 ·refine (aA (a:=false) (σ':=⟨[(62,.cell 1),(37,.tup [.int p]),(32,.cell 2),(34,.int p),(36,.cell (4+3 * p))],H⟩) ?_).trans rfl
  refine (aA (a:=MV.cell (4+3 * p)) (σ':=⟨[(62,.cell 1),(37,.tup [.int p]),(32,.cell 2),(34,.int p),(36,.cell (4+3 * p))],H⟩) ?_).trans rfl
  exact (aA (show Ev _ _ (MV.cell (4+3 * p)) from Ev.bind (Ev.var rfl) (Ev.bind (Ev.dictCk S.dict) (Ev.bind (Ev.cons (Ev.var rfl) Ev.nil) dg)))).trans rfl
 refine (aG (σ':=⟨[(62,.cell 1),(37,.tup [.int p]),(32,.cell 2),(34,.int p),(36,.cell (4+3 * p)),(67,.int (-1))],H⟩) ((aA (show Ev _ _ (MV.int (-1)) from Ev.bind (Ev.var rfl) npa)).trans rfl)).trans ?_
 refine (aG (σ':=⟨[(62,.cell 1),(37,.tup [.int p]),(32,.cell 2),(34,.int p),(36,.cell (4+3 * p)),(67,.int (-1))],H⟩) ((aA (a:=false) (show Ev _ _ _ from Ev.bind (Ev.var rfl) (Ev.bind Ev.pure (Ev.lift rfl)))).trans rfl)).trans ?_
 have e2:=nR (σ:=⟨[(62,.cell 1),(37,.tup [.int p]),(32,.cell 2),(34,.int p),(36,.cell (4+3 * p)),(67,.int (-1))],H⟩) (i:=1) (v:= .int (-2)) (S.node p hp) (by show 2≤3;decide)
 refine (aG ((aA (a:=MV.int (-2)) Ev.pure).trans ((aA (bA rfl)).trans ((aA e2).trans rfl)))).trans ?_
 refine (aG (σ':=⟨r',H3⟩) ?_).trans ?_
 ·refine (aA (bJ (Ev.bind (Ev.bind (Ev.var rfl) (S2.sc_at hp)) (Ev.src_cell (S2.succ p hp))))).trans ?_
  simp only [bU]
  exact f1
 ·have e0:Ev (kJ 0 3 (.cell 1)) ⟨r',H3⟩ (.int nf):=Ev.getA f3'.inst f3'.at0 rfl
  refine (aA (bA (σ:=⟨r',H3⟩) f2)).trans ?_
  refine (aA e0).trans ?_
  exact (aA (bY rfl)).trans ((aA (bY (a:=MV.int (nf+1)) rfl)).trans ((aA (rQ f3'.inst f3'.at0)).trans rfl))
end
noncomputable abbrev FrL:=List (Nat×Nat×Nat)
noncomputable def sI (st:FrL):List MV:=st.map fun f=>MV.nxt f.2.1
noncomputable def sN (l:List Nat):List Int:=l.map fun (s:Nat)=>(s:Int)
noncomputable def sD (st:FrL):List Int:=st.map fun f=>(f.1:Int)
noncomputable def sS (st:FrL):List Nat:=st.map fun f=>f.1
noncomputable def sM (st:FrL):List Nat:=st.map fun f=>f.2.1
theorem rR (a b:FrL):sI (a++b)=sI a++sI b:=map_append
theorem aRj (a b:List Nat):sN (a++b)=sN a++sN b:=map_append
theorem rS (a b:FrL):sD (a++b)=sD a++sD b:=map_append
theorem oS (a b:FrL):sS (a++b)=sS a++sS b:=map_append
theorem vP (a b:FrL):sM (a++b)=sM a++sM b:=map_append
structure FH (n:Nat) (K:Nat→List Nat) (H0:List MO) (B:Nat) (st:FrL) (seen:List Nat) (H:List MO):Prop where
 x0:∀i,i < B→H[i]?=H0[i]?
 len:B+4≤H.length
 hst:H[B]?=some (.list (nI (sS st)))
 hit:H[B+1]?=some (.list (sI st))
 hse:H[B+2]?=some (.set (sN seen))
 hdi:∃ep d,H[B+3]?=some (.dict ep d)∧d.map (·.1)=sD st
 its:∀f∈st,B+4≤f.2.1∧H[f.2.1]?=some (.iter (5+3 * f.1) f.2.2)∧f.2.2≤(K f.1).length∧f.1 < n
 dis:(sM st).Nodup
 inc:(sS st).Pairwise (· < ·)
 snd:seen.Nodup
 slt:∀s∈seen,s < n
section
variable {n B:Nat} {K:Nat→List Nat} {H0 H:List MO} {st:FrL} {seen:List Nat}
theorem FH.seen_len (F:FH n K H0 B st seen H):seen.length≤n:=by
 have:=F.snd.length_le_of_subset (l₂:=List.range n) fun x hx=>mem_range.mpr (F.slt x hx)
 simpa using this
theorem aIy {st:FrL} {f:Nat×Nat×Nat} (h:(sS (st++ [f])).Pairwise (· < ·)):(sS st).Pairwise (· < ·)∧∀g∈st,g.1 < f.1:=by
 rw [oS,List.pairwise_append] at h
 exact ⟨h.1,fun g hg=>h.2.2 g.1 (mem_map_of_mem hg) f.1 (mem_singleton.mpr rfl)⟩
theorem aIz {st:FrL} {f:Nat×Nat×Nat} (h:(sS st).Pairwise (· < ·)) (h':∀g∈st,g.1 < f.1):(sS (st++ [f])).Pairwise (· < ·):=by
 rw [oS,List.pairwise_append]
 refine ⟨h,List.pairwise_singleton ..,fun a ha b hb=>?_⟩
 (refine aJ (mem_map.mp ha) fun g hg e_4=>?_;obtain rfl:=e_4)
 rw [mS hb]
 exact h' g hg
theorem FH.st_len (F:FH n K H0 B st seen H):st.length≤n:=by
 have h:(sS st).Nodup:=F.inc.imp fun h=>Nat.ne_of_lt h
 have:=h.length_le_of_subset (l₂:=List.range n) fun x hx=>by
  (refine aJ (mem_map.mp hx) fun g hg e_3=>?_;obtain rfl:=e_3)
  exact mem_range.mpr (F.its g hg).2.2.2
 rw [length_range] at this
 exact Nat.le_trans (Nat.le_of_eq (length_map ..).symm) this
theorem FH.d_len (F:FH n K H0 B st seen H) {d:List (Int×MV)} (h:d.map (·.1)=sD st):d.length≤n:=by
 have:=congrArg List.length h
 unfold sD at this
 simp at this
 have:=F.st_len
 lia
theorem FH.push (F:FH n K H0 B st seen H) {v:Nat} (hv:v < n) (hn:v∉seen) (hlt:∀f∈st,f.1 < v) {ep:Nat} {d:List (Int×MV)} (hd:d.map (·.1)=sD st) {x:MV}:
  FH n K H0 B (st++ [(v,H.length,0)]) (seen++ [v]) (((((H.set (B+2) (MO.set (sN (seen++ [v]))))++ [MO.iter (5+3 * v) 0]).set (B+1) (MO.list (sI (st++ [(v,H.length,0)])))).set (B+3) (MO.dict ep (d++ [((v:Int),x)]))).set B (MO.list (nI (sS (st++ [(v,H.length,0)]))))):=by
 have hl:=F.len
 have hlen:((((H.set (B+2) (MO.set (sN (seen++ [v]))))++ [MO.iter (5+3 * v) 0]).set (B+1) (MO.list (sI (st++ [(v,H.length,0)])))).set (B+3) (MO.dict ep (d++ [((v:Int),x)]))).length=H.length+1:=by simp
 have old:∀i o,i < H.length→H[i]?=o→i≠B→i≠B+1→i≠B+2→i≠B+3→(((((H.set (B+2) (MO.set (sN (seen++ [v]))))++ [MO.iter (5+3 * v) 0]).set (B+1) (MO.list (sI (st++ [(v,H.length,0)])))).set (B+3) (MO.dict ep (d++ [((v:Int),x)]))).set B (MO.list (nI (sS (st++ [(v,H.length,0)])))))[i]?=o:=fun i o hi h h0 h1 h2 h3=>
  aY (Ne.symm h0) (aY (Ne.symm h3) (aY (Ne.symm h1) (by rw [getElem?_append_left (by simpa using hi)];exact aY (Ne.symm h2) h)))
 refine ⟨fun i hi=>old i _ (by lia) (F.x0 i hi) (by lia) (by lia) (by lia) (by lia),by rw [length_set,hlen];lia,?_,?_,?_,⟨ep,d++ [((v:Int),x)],?_,by rw [map_append,rS,hd];rfl⟩,fun f hf=>?_,?_,aIz F.inc hlt,?_,fun s hs=>?_⟩
 ·rw [getElem?_set_self (by rw [hlen];lia)]
 ·refine aY (by lia) (aY (by lia) ?_)
  rw [getElem?_set_self (by simp;lia)]
 ·refine aY (by lia) (aY (by lia) (aY (by lia) ?_))
  rw [getElem?_append_left (by simp;lia),getElem?_set_self (by lia)]
 ·refine aY (by lia) ?_
  rw [getElem?_set_self (by simp;lia)]
 ·rcases mem_append.mp hf with hf|hf
  ·refine gW (F.its f hf) fun h1 h2 h3 h4=>?_
   exact ⟨h1,old _ _ (gS h2).1 h2 (by lia) (by lia) (by lia) (by lia),h3,h4⟩
  ·rw [mS hf]
   refine ⟨hl,aY (by simp;lia) (aY (by simp;lia) (aY (by simp;lia) ?_)),Nat.zero_le _,hv⟩
   rw [getElem?_append_right (by simp)];simp
 ·rw [vP,nodup_append]
  refine ⟨F.dis,List.pairwise_singleton ..,fun a ha b hb e=>?_⟩
  (refine aJ (mem_map.mp ha) fun g hg e_2=>?_;obtain rfl:=e_2)
  have h1:=(gS (F.its g hg).2.1).1
  rw [mS hb] at e
  simp only at e
  lia
 ·rw [nodup_append]
  exact ⟨F.snd,by simp,fun a ha b hb e=>hn (by rw [mS hb] at e;exact e ▸ ha)⟩
 ·rcases mem_append.mp hs with hs|hs
  ·exact F.slt s hs
  ·rw [mS hs];exact hv
theorem FH.ne_it {s m k:Nat} (F:FH n K H0 B (st++ [(s,m,k)]) seen H):∀f∈st,f.2.1≠m:=fun f hf e=>by
 have:=F.dis
 rw [vP,nodup_append] at this
 exact this.2.2 f.2.1 (mem_map_of_mem hf) m (mem_singleton.mpr rfl) e
theorem FH.next {s m k:Nat} (F:FH n K H0 B (st++ [(s,m,k)]) seen H) (hk:k < (K s).length):FH n K H0 B (st++ [(s,m,k+1)]) seen (H.set m (.iter (5+3 * s) (k+1))):=by
 refine gW (F.its (s,m,k) (by simp)) fun h1 h2 h3 h4=>?_
 simp only at h1 h2 h3 h4
 have e1:sS (st++ [(s,m,k+1)])=sS (st++ [(s,m,k)]):=by rw [oS,oS];rfl
 have e2:sI (st++ [(s,m,k+1)])=sI (st++ [(s,m,k)]):=by rw [rR,rR];rfl
 have e3:sD (st++ [(s,m,k+1)])=sD (st++ [(s,m,k)]):=by rw [rS,rS];rfl
 refine cJ (F.hdi) fun ep d hd1 hd2=>?_
 refine ⟨fun i hi=>aY (by lia) (F.x0 i hi),by rw [length_set];exact F.len,e1 ▸ aY (by lia) F.hst,e2 ▸ aY (by lia) F.hit,aY (by lia) F.hse,⟨ep,d,aY (by lia) hd1,by rw [e3];exact hd2⟩,fun f hf=>?_,by have:=F.dis;rw [vP] at this ⊢;exact this,e1 ▸ F.inc,F.snd,F.slt⟩
 rcases mem_append.mp hf with hf|hf
 ·refine gW (F.its f (mem_append_left _ hf)) fun a b c e=>?_
  exact ⟨a,aY (fun q=>F.ne_it f hf q.symm) b,c,e⟩
 ·rw [mS hf]
  exact ⟨h1,iY h2,hk,h4⟩
theorem FH.pop {s m k:Nat} (F:FH n K H0 B (st++ [(s,m,k)]) seen H) {ep:Nat} {d:List (Int×MV)} (hd:d.map (·.1)=sD (st++ [(s,m,k)])):
  FH n K H0 B st seen ((((H.set m MO.dead).set B (MO.list (nI (sS st)))).set (B+3) (MO.dict ep (nN d s))).set (B+1) (MO.list (sI st))):=by
 refine gW (F.its (s,m,k) (by simp)) fun h1 h2 h3 h4=>?_
 simp only at h1 h2 h3 h4
 have hl:=F.len
 obtain ⟨i1,i2⟩:=aIy F.inc
 have hdis:=F.dis
 rw [vP,nodup_append] at hdis
 refine ⟨fun i hi=>aY (by lia) (aY (by lia) (aY (by lia) (aY (by lia) (F.x0 i hi)))),by simpa using hl,aY (by lia) (aY (by lia) (getElem?_set_self (by simp;lia))),getElem?_set_self (by simp;lia),aY (by lia) (aY (by lia) (aY (by lia) (aY (by lia) F.hse))),⟨ep,_,aY (by lia) (getElem?_set_self (by simp;lia)),?_⟩,fun f hf=>?_,hdis.1,i1,F.snd,F.slt⟩
 ·unfold nN
  rw [show (fun p:Int×MV=>p.1 !=(s:Int))=(fun x:Int=>x !=(s:Int)) ∘ Prod.fst from rfl,←List.filter_map,hd,rS,filter_append,List.filter_eq_self.mpr,filter_eq_nil_iff.mpr,append_nil]
  ·intro x hx;rw [mS hx];simp
  ·intro x hx
   (refine aJ (mem_map.mp hx) fun g hg e_1=>?_;obtain rfl:=e_1)
   have:=i2 g hg
   simp only at this
   rw [bne_iff_ne];lia
 ·refine gW (F.its f (mem_append_left _ hf)) fun a b c e=>?_
  exact ⟨a,aY (by lia) (aY (by lia) (aY (by lia) (aY (fun q=>F.ne_it f hf q.symm) b))),c,e⟩
noncomputable def lY (K:Nat→List Nat) (st:FrL):Nat:=(st.map fun f=>(K f.1).length - f.2.2+1).sum
theorem lP (st:FrL) (f:Nat×Nat×Nat):lY K (st++ [f])=lY K st+((K f.1).length - f.2.2+1):=by unfold lY;simp
end
noncomputable abbrev fIT:M Bool:=((aF 65).bind fun x=>(cK x).bind fun l=>M.lift (if cC l.length=true then some (l.length !=0) else none))
noncomputable abbrev fIB:M Fl:=(mR 1 (bS ((((aF 25).bind fun x=>((M.lift (kM (Const.int 1))).bind fun x=>M.lift (unM UnaryOp.USub x)).bind fun y=>cA x y).bind iO).bind fun y=>(bE 34 y).bind fun x=>M.pure Fl.next) (M.pure Fl.brk)) (bS ((aF 35).bind fun x=>((aF 65).bind fun x=>(lstCk x).bind fun x_1=>(aO []).bind fun l=>wX (x::l)).bind fun y=>(aBv x y).bind fun x=>M.pure Fl.next) (((aF 25).bind fun x=>(lstCk x).bind fun x_1=>(aO []).bind fun l=>wX (x::l)).bind fun x=>M.pure Fl.next)))
noncomputable abbrev fA:M Fl:=(((aF 34).bind fun x=>(aF 61).bind fun y=>inM x y).bind fun x=>match x with
            | true=>((aF 34).bind fun x=>(aF 35).bind fun y=>inM x y).bind fun x=>match x with
              | true=>M.fail
              | false=>M.pure Fl.next
            | false=>bS (((aF 61).bind fun x=>(aBx x).bind fun x_1=>(aO [aF 34]).bind fun l=>aBw (x::l)).bind fun x=>M.pure Fl.next) (bS (((aF 25).bind fun x=>(lstCk x).bind fun x_1=>(aO [((aO [((aF 32).bind fun x=>(aF 34).bind fun y=>jC x y).bind (fH 1 2)]).bind aBy).bind xO]).bind fun l=>cQ (x::l)).bind fun x=>M.pure Fl.next) (bS (((aO [aF 65]).bind nH).bind fun z=>(aF 35).bind fun x=>(aF 34).bind fun y=>(tL x y z).bind fun x=>M.pure Fl.next) (((aF 65).bind fun x=>(lstCk x).bind fun x_1=>(aO [aF 34]).bind fun l=>cQ (x::l)).bind fun x=>M.pure Fl.next))))
noncomputable abbrev fOB:M Fl:=bS fA (bW fIT fIB (M.pure Fl.brk) 1000)
structure RV (B:Nat) (r:List (Nat×MV)):Prop where
 r32:r.lookup 32=some (.cell 2)
 r65:r.lookup 65=some (.cell B)
 r25:r.lookup 25=some (.cell (B+1))
 r61:r.lookup 61=some (.cell (B+2))
 r35:r.lookup 35=some (.cell (B+3))
theorem RV.set {B:Nat} {r:List (Nat×MV)} (h:RV B r) (v:MV):RV B (aL 34 v r):=⟨lk h.r32 (by decide),lk h.r65 (by decide),lk h.r25 (by decide),lk h.r61 (by decide),lk h.r35 (by decide)⟩
theorem tS {σ:St} {m:Nat} {L:List MV} {x:MV} (hH:σ.H[m]?=some (.list (L++ [x]))) (hz:L.length≤1000):Ev (cA (.cell m) (.int (-1))) σ x:=by
 have e:idxL (L++ [x]) (-1)=some (.ok x):=by
  unfold idxL
  rw [if_pos (fM.mpr (by lia)),if_neg (by decide),if_pos (decide_eq_true (by simp;lia))]
  have:((-1:Int)+(L++ [x]).length).toNat=L.length:=by rw [length_append];show ((-1:Int)+((L.length+1:Nat):Int)).toNat=L.length;lia
  rw [this,getElem?_append_right (Nat.le_refl _)];simp
 show (match σ.H[m]? with|some (.list l)=>M.liftR (idxL l (-1)) σ|_=>none)=_
 rw [hH]
 simp only
 rw [e];rfl
theorem rT {σ:St} {m:Nat} {l:List MV} {y:MV} (h:σ.H[m]?=some (.list (l++ [y]))) (hz:l.length < 1000):wX [.cell m] σ=some (.ok y,⟨σ.r,σ.H.set m (.list l)⟩):=by
 show gX (.cell m) (fun m l=>(match l[l.length - 1]? with|some y=>lW m (l.take (l.length - 1)) y|none=>M.fail)) σ=_
 rw [iZ h (by simp;lia)]
 have:(l++ [y])[(l++ [y]).length - 1]?=some y:=by simp
 simp only [this]
 show some (R.ok y,_)=_
 simp
section
variable {n B:Nat} {K:Nat→List Nat} {np:Nat→Int} {rv:MV} {po nf:Int} {H0:List MO} {st:FrL} {seen:List Nat}
theorem FH.srt (S:Srt n K np rv po nf H0) {H:List MO} (F:FH n K H0 B st seen H) (hB:3+3 * n≤B):Srt n K np rv po nf H:=S.congr fun i hi=>F.x0 i (by lia)
theorem aTx {σ:St} (F:FH n K H0 B st seen σ.H) (V:RV B σ.r) (hz:n≤8):Ev fIT σ (st.length !=0):=by
 have h:(nI (sS st)).length=st.length:=(bU _).trans (length_map ..)
 rw [←h]
 have:=F.st_len
 exact Ev.bind (Ev.var V.r65) (Ev.bind (Ev.items F.hst) (Ev.lift (if_pos (bK (by lia)))))
theorem aNg {σ:St} {s m k v:Nat} (S:Srt n K np rv po nf H0) (hB:3+3 * n≤B) (F:FH n K H0 B (st++ [(s,m,k)]) seen σ.H) (V:RV B σ.r) (hz:n≤8) (hv:(K s)[k]?=some v):
  fIB σ=some (.ok .brk,⟨aL 34 (.int v) σ.r,σ.H.set m (.iter (5+3 * s) (k+1))⟩):=by
 refine gW (F.its (s,m,k) (by simp)) fun h1 h2 h3 h4=>?_
 have hit:=F.hit
 rw [rR] at hit
 have hl:=F.st_len
 rw [length_append] at hl
 have e1:Ev ((aF 25).bind fun x=>((M.lift (kM (Const.int 1))).bind fun x=>M.lift (unM UnaryOp.USub x)).bind fun y=>cA x y) σ (.nxt m):=
  Ev.bind (Ev.var V.r25) (Ev.bind (Ev.bind (Ev.lift rfl) (Ev.lift rfl)) (tS hit (Nat.le_trans (Nat.le_of_eq (length_map ..)) (by lia))))
 have e2:iO (.nxt m) σ=some (.ok (.int v),⟨σ.r,σ.H.set m (.iter (5+3 * s) (k+1))⟩):=by
  exact (aIu h2).trans ((nQ ((F.srt S hB).succ s h4)).trans (by rw [aAm hv]))
 have e3:(bS ((((aF 25).bind fun x=>((M.lift (kM (Const.int 1))).bind fun x=>M.lift (unM UnaryOp.USub x)).bind fun y=>cA x y).bind iO).bind fun y=>(bE 34 y).bind fun x=>M.pure Fl.next) (M.pure Fl.brk)) σ=some (.ok .brk,⟨aL 34 (.int v) σ.r,σ.H.set m (.iter (5+3 * s) (k+1))⟩):=
  (aG (σ':=⟨aL 34 (.int v) σ.r,σ.H.set m (.iter (5+3 * s) (k+1))⟩) ((aA ((aA e1).trans e2)).trans rfl)).trans rfl
 show mR 1 _ _ σ=_
 unfold mR
 rw [e3]
theorem aRk {σ:St} {s m k:Nat} (S:Srt n K np rv po nf H0) (hB:3+3 * n≤B) (F:FH n K H0 B (st++ [(s,m,k)]) seen σ.H) (V:RV B σ.r) (hz:n≤8) (hv:(K s)[k]?=none):
  ∃H',fIB σ=some (.ok .next,⟨σ.r,H'⟩)∧FH n K H0 B st seen H':=by
 refine gW (F.its (s,m,k) (by simp)) fun h1 h2 h3 h4=>?_
 simp only at h1 h2 h3 h4
 refine cJ (F.hdi) fun ep d hd1 hd2=>?_
 have hit:=F.hit
 rw [rR] at hit
 have hst:=F.hst
 rw [oS,mV] at hst
 have hl:=F.st_len
 rw [length_append] at hl
 have hli:(sI st).length=st.length:=length_map ..
 have hls:(nI (sS st)).length=st.length:=(bU _).trans (length_map ..)
 have e1:Ev ((aF 25).bind fun x=>((M.lift (kM (Const.int 1))).bind fun x=>M.lift (unM UnaryOp.USub x)).bind fun y=>cA x y) σ (.nxt m):=
  Ev.bind (Ev.var V.r25) (Ev.bind (Ev.bind (Ev.lift rfl) (Ev.lift rfl)) (tS hit (by lia)))
 have hnone:(nI (K s))[k]?=none:=by
  have:=getElem?_eq_none_iff.mp hv
  exact getElem?_eq_none_iff.mpr (by rw [bU];exact this)
 have e2:iO (.nxt m) σ=some (.exc 1,⟨σ.r,σ.H.set m .dead⟩):=by
  exact (aIu h2).trans ((nQ ((F.srt S hB).succ s h4)).trans (by rw [hnone]))
 have e3:(bS ((((aF 25).bind fun x=>((M.lift (kM (Const.int 1))).bind fun x=>M.lift (unM UnaryOp.USub x)).bind fun y=>cA x y).bind iO).bind fun y=>(bE 34 y).bind fun x=>M.pure Fl.next) (M.pure Fl.brk)) σ=some (.exc 1,⟨σ.r,σ.H.set m .dead⟩):=
  nP (nP ((aA e1).trans e2))
 refine ⟨_,?_,F.pop (ep:=ep+1) hd2⟩
 show mR 1 _ _ σ=_
 unfold mR
 rw [e3]
 show M.ne (bS _ _) _=_
 have p1:=rT (σ:=⟨σ.r,σ.H.set m .dead⟩) (m:=B) (aY (by lia) hst) (by lia)
 have hd3:((σ.H.set m MO.dead).set B (MO.list (nI (sS st))))[B+3]?=some (.dict ep d):=aY (by lia) (aY (by lia) hd1)
 have dd:aBv (.cell (B+3)) (.int s) ⟨σ.r,(σ.H.set m MO.dead).set B (MO.list (nI (sS st)))⟩=some (.ok (),⟨σ.r,((σ.H.set m MO.dead).set B (MO.list (nI (sS st)))).set (B+3) (.dict (ep+1) (nN d s))⟩):=by
  refine (qA (α:=Unit) (f:=fun m ep l=>if iN l s then aGl m (.dict (ep+1) (nN l s)) else M.fail) hd3 (by have:=F.d_len hd2;lia)).trans ?_
  have:iN d s=true:=by
   unfold iN
   have hm:(s:Int)∈d.map (·.1):=by rw [hd2,rS];exact mem_append_right _ (mem_singleton.mpr rfl)
   refine aJ (mem_map.mp hm) fun p hp e=>?_
   exact any_eq_true.mpr ⟨p,hp,beq_iff_eq.mpr e⟩
  rw [if_pos this];rfl
 have q1:(((σ.H.set m MO.dead).set B (MO.list (nI (sS st)))).set (B+3) (.dict (ep+1) (nN d s)))[B+1]?=some (.list (sI st++sI [(s,m,k)])):=aY (by lia) (aY (by lia) (aY (by lia) hit))
 have p2:=rT (σ:=⟨σ.r,((σ.H.set m MO.dead).set B (MO.list (nI (sS st)))).set (B+3) (.dict (ep+1) (nN d s))⟩) (m:=B+1) q1 (by lia)
 refine bJ ((aG (σ':=⟨σ.r,((σ.H.set m MO.dead).set B (MO.list (nI (sS st)))).set (B+3) (.dict (ep+1) (nN d s))⟩) ?_).trans ?_)
 ·refine (aA (bA (σ:=⟨σ.r,σ.H.set m .dead⟩) V.r35)).trans ?_
  refine (aA ((aA (bA (σ:=⟨σ.r,σ.H.set m .dead⟩) V.r65)).trans ((aA (Ev.lstCk (σ:=⟨σ.r,σ.H.set m .dead⟩) (aY (by lia) hst))).trans ((aA Ev.nil).trans p1)))).trans ?_
  exact (aA dd).trans rfl
 ·refine (aA (a:=MV.nxt m) ?_).trans rfl
  refine (aA (bA (σ:=⟨σ.r,((σ.H.set m MO.dead).set B (MO.list (nI (sS st)))).set (B+3) (.dict (ep+1) (nN d s))⟩) V.r25)).trans ?_
  refine (aA (Ev.lstCk (σ:=⟨σ.r,((σ.H.set m MO.dead).set B (MO.list (nI (sS st)))).set (B+3) (.dict (ep+1) (nN d s))⟩) q1)).trans ?_
  exact (aA Ev.nil).trans p2
theorem aEp {t:M Bool} {f g:M Fl} {k:Nat} {σ:St} (h:Ev t σ false):bW t f g (k+1) σ=g σ:=aA h
theorem mW {t:M Bool} {f g:M Fl} {k:Nat} {σ σ':St} (h:Ev t σ true) (hb:f σ=some (.ok .brk,σ')):bW t f g (k+1) σ=some (.ok .next,σ'):=(aA h).trans (aA hb)
theorem yE (S:Srt n K np rv po nf H0) (hB:3+3 * n≤B) (hz:n≤8):∀(fuel:Nat) (st:FrL) (σ:St),st.length < fuel→FH n K H0 B st seen σ.H→RV B σ.r→
  (∃H',bW fIT fIB (M.pure .brk) fuel σ=some (.ok .brk,⟨σ.r,H'⟩)∧FH n K H0 B [] seen H')∨
  (∃(st':FrL) (s m k v:Nat) (H':List MO),bW fIT fIB (M.pure .brk) fuel σ=some (.ok .next,⟨aL 34 (.int v) σ.r,H'⟩)∧FH n K H0 B (st'++ [(s,m,k+1)]) seen H'∧(K s)[k]?=some v∧lY K (st'++ [(s,m,k+1)]) < lY K st)
 | 0,st,σ,h,_,_=>absurd h (Nat.not_lt_zero _)
 | fuel+1,st,σ,h,F,V=>by
  have ht:=aTx F V hz
  rcases List.eq_nil_or_concat st with rfl|⟨st',⟨s,m,k⟩,rfl⟩
  ·exact .inl ⟨σ.H,aEp ht,F⟩
  ·rw [List.concat_eq_append] at *
   rw [show ((st'++ [(s,m,k)]).length !=0)=true from by simp] at ht
   cases hv:(K s)[k]? with
   | some v=>
    have hk:=(gS hv).1
    exact .inr ⟨st',s,m,k,v,_,mW ht (aNg S hB F V hz hv),F.next hk,hv,by rw [lP,lP];simp only;lia⟩
   | none=>
    refine aJ (aRk S hB F V hz hv) fun H' e F'=>?_
    rw [dI ht e]
    rw [length_append] at h
    rcases yE S hB hz fuel st' ⟨σ.r,H'⟩ (by simp at h;lia) F' V with ⟨H2,a,b⟩|⟨st2,s2,m2,k2,v2,H2,a,b,c,d⟩
    ·exact .inl ⟨H2,a,b⟩
    ·exact .inr ⟨st2,s2,m2,k2,v2,H2,a,b,c,by have:=lP (K:=K) st' (s,m,k);lia⟩
end
section
variable {n B:Nat} {K:Nat→List Nat} {np:Nat→Int} {rv:MV} {po nf:Int} {H0:List MO} {st:FrL} {seen:List Nat}
theorem aJa {l:List Nat} {v:Nat}:(sN l).contains (v:Int)=decide (v∈l):=by
 rw [Bool.eq_iff_iff,decide_eq_true_iff,List.contains_iff_mem]
 unfold sN
 constructor
 ·intro h
  refine aJ (mem_map.mp h) fun x hx e=>?_
  have:x=v:=by exact_mod_cast e
  exact this ▸ hx
 ·intro h;exact mem_map_of_mem h
theorem aJb {σ:St} {v:Nat} (F:FH n K H0 B st seen σ.H) (hz:n≤8):Ev (inM (.int v) (.cell (B+2))) σ (decide (v∈seen)):=by
 show M.lift (inO v σ.H[B+2]?) σ=_
 refine bY ?_
 rw [F.hse]
 have:=F.seen_len
 show (if Nat.ble (sN seen).length 4000=true then some ((sN seen).contains (v:Int)) else none)=_
 rw [if_pos (Nat.ble_eq_true_of_le (by rw [show (sN seen).length=seen.length from length_map ..];lia)),aJa]
theorem aRl {σ:St} {v:Nat} (F:FH n K H0 B st seen σ.H) (V:RV B σ.r) (hz:n≤8) (h34:σ.r.lookup 34=some (.int v)) (hv:v∈seen) (hlt:∀f∈st,f.1 < v):fA σ=some (.ok .next,σ):=by
 refine cJ (F.hdi) fun ep d hd1 hd2=>?_
 have e1:=aJb (v:=v) F hz
 rw [decide_eq_true hv] at e1
 have e2:Ev (inM (.int v) (.cell (B+3))) σ false:=by
  show M.lift (inO v σ.H[B+3]?) σ=_
  rw [hd1]
  refine bY ?_
  show some (iN d v)=_
  congr 1
  unfold iN
  refine any_eq_false.mpr fun p hp e=>?_
  have hm:(v:Int)∈d.map (·.1):=(beq_iff_eq.mp e) ▸ mem_map_of_mem hp
  rw [hd2] at hm
  refine aJ (mem_map.mp hm) fun f hf e=>?_
  have:=hlt f hf
  lia
 exact (aA (show Ev _ σ true from Ev.bind (Ev.var h34) (Ev.bind (Ev.var V.r61) e1))).trans ((aA (show Ev _ σ false from Ev.bind (Ev.var h34) (Ev.bind (Ev.var V.r35) e2))).trans rfl)
theorem aRm {σ:St} {v:Nat} (S:Srt n K np rv po nf H0) (hB:3+3 * n≤B) (F:FH n K H0 B st seen σ.H) (V:RV B σ.r) (hz:n≤8) (h34:σ.r.lookup 34=some (.int v)) (hvn:v < n) (hv:v∉seen) (hlt:∀f∈st,f.1 < v):
  ∃H' m,fA σ=some (.ok .next,⟨σ.r,H'⟩)∧FH n K H0 B (st++ [(v,m,0)]) (seen++ [v]) H':=by
 refine cJ (F.hdi) fun ep d hd1 hd2=>?_
 have e1:=aJb (v:=v) F hz
 rw [decide_eq_false hv] at e1
 have hl:=F.len
 have hsl:=F.seen_len
 have hstl:=F.st_len
 have hdl:=F.d_len hd2
 have S':=F.srt S hB
 have hli:(sI st).length=st.length:=length_map ..
 have hls:(nI (sS st)).length=st.length:=(bU _).trans (length_map ..)
 have hdn:iN d v=false:=by
  unfold iN
  refine any_eq_false.mpr fun p hp e=>?_
  have hm:(v:Int)∈d.map (·.1):=(beq_iff_eq.mp e) ▸ mem_map_of_mem hp
  rw [hd2] at hm
  refine aJ (mem_map.mp hm) fun f hf e=>?_
  have:=hlt f hf
  lia
 refine ⟨_,_,?_,F.push hvn hv hlt (ep:=ep+1) hd2 (x:= .int st.length)⟩
 refine (aA (show Ev _ σ false from Ev.bind (Ev.var h34) (Ev.bind (Ev.var V.r61) e1))).trans ?_
 have ck:Ev (aBx (.cell (B+2))) σ ():=by
  refine (aQb F.hse).trans ?_
  exact if_pos (Nat.ble_eq_true_of_le (by rw [show (sN seen).length=seen.length from length_map ..];lia))
 have ad:aBw [.cell (B+2),.int v] σ=some (.ok .none,⟨σ.r,σ.H.set (B+2) (MO.set (sN (seen++ [v])))⟩):=by
  show aQs (.cell (B+2)) (fun m l=>M.bind (aGl m (.set (vA l v))) fun _=>M.pure MV.none) σ=_
  refine (aQb F.hse).trans ((if_pos (Nat.ble_eq_true_of_le (by rw [show (sN seen).length=seen.length from length_map ..];lia))).trans ?_)
  show M.bind (aGl (B+2) (.set (vA (sN seen) v))) (fun _=>M.pure MV.none) σ=_
  unfold vA
  rw [aJa,decide_eq_false hv,aRj];rfl
 refine (aG (σ':=⟨σ.r,σ.H.set (B+2) (MO.set (sN (seen++ [v])))⟩) ((aA ((aA (bA V.r61)).trans ((aA ck).trans ((aA (Ev.cons (Ev.var h34) Ev.nil)).trans ad)))).trans rfl)).trans ?_
 have S1:=S'.congr (H':=σ.H.set (B+2) (MO.set (sN (seen++ [v])))) fun i hi=>getElem?_set_ne (by lia)
 have len1:(σ.H.set (B+2) (MO.set (sN (seen++ [v])))).length=σ.H.length:=length_set ..
 have hit1:(σ.H.set (B+2) (MO.set (sN (seen++ [v]))))[B+1]?=some (.list (sI st)):=aY (by lia) F.hit
 have hit2:((σ.H.set (B+2) (MO.set (sN (seen++ [v]))))++ [MO.iter (5+3 * v) 0])[B+1]?=some (.list (sI st)):=(getElem?_append_left (by lia)).trans hit1
 have mk:(aO [((aO [((aF 32).bind fun x=>(aF 34).bind fun y=>jC x y).bind (fH 1 2)]).bind aBy).bind xO]) ⟨σ.r,σ.H.set (B+2) (MO.set (sN (seen++ [v])))⟩=some (.ok [.nxt σ.H.length],⟨σ.r,(σ.H.set (B+2) (MO.set (sN (seen++ [v]))))++ [MO.iter (5+3 * v) 0]⟩):=by
  have i1:Ev (aO [((aF 32).bind fun x=>(aF 34).bind fun y=>jC x y).bind (fH 1 2)]) ⟨σ.r,σ.H.set (B+2) (MO.set (sN (seen++ [v])))⟩ [.cell (5+3 * v)]:=Ev.cons (Ev.bind (Ev.bind (Ev.var V.r32) (Ev.bind (Ev.var h34) (S1.item (by lia) hvn))) (S1.sc_at hvn)) Ev.nil
  have i2:aBy [.cell (5+3 * v)] ⟨σ.r,σ.H.set (B+2) (MO.set (sN (seen++ [v])))⟩=some (.ok (.cell σ.H.length),⟨σ.r,(σ.H.set (B+2) (MO.set (sN (seen++ [v]))))++ [MO.iter (5+3 * v) 0]⟩):=by
   show aGv (.cell (5+3 * v)) _=_
   refine (nQ (S1.succ v hvn)).trans ?_
   show some (R.ok (MV.cell (σ.H.set (B+2) (MO.set (sN (seen++ [v])))).length),_)=_
   rw [len1]
  have i3:xO (.cell σ.H.length) ⟨σ.r,(σ.H.set (B+2) (MO.set (sN (seen++ [v]))))++ [MO.iter (5+3 * v) 0]⟩=some (.ok (.nxt σ.H.length),⟨σ.r,(σ.H.set (B+2) (MO.set (sN (seen++ [v]))))++ [MO.iter (5+3 * v) 0]⟩):=by
   exact aIu (gL (x:=MO.iter (5+3 * v) 0) (l:= []) len1)
  exact (aA ((aA ((aA i1).trans i2)).trans i3)).trans rfl
 refine (aG (σ':=⟨σ.r,((σ.H.set (B+2) (MO.set (sN (seen++ [v]))))++ [MO.iter (5+3 * v) 0]).set (B+1) (MO.list (sI (st++ [(v,σ.H.length,0)])))⟩) ?_).trans ?_
 ·refine (aA (a:=MV.none) ?_).trans rfl
  refine (aA (bA (σ:=⟨σ.r,σ.H.set (B+2) (MO.set (sN (seen++ [v])))⟩) V.r25)).trans ((aA (Ev.lstCk (σ:=⟨σ.r,σ.H.set (B+2) (MO.set (sN (seen++ [v])))⟩) hit1)).trans ((aA mk).trans ?_))
  show gX (.cell (B+1)) (fun m l=>lW m (l++ [.nxt σ.H.length]) .none) _=_
  rw [iZ hit2 (by lia),rR];rfl
 have hst3:(((σ.H.set (B+2) (MO.set (sN (seen++ [v]))))++ [MO.iter (5+3 * v) 0]).set (B+1) (MO.list (sI (st++ [(v,σ.H.length,0)]))))[B]?=some (.list (nI (sS st))):=aY (by lia) ((getElem?_append_left (by lia)).trans (aY (by lia) F.hst))
 have hdi3:(((σ.H.set (B+2) (MO.set (sN (seen++ [v]))))++ [MO.iter (5+3 * v) 0]).set (B+1) (MO.list (sI (st++ [(v,σ.H.length,0)]))))[B+3]?=some (.dict ep d):=aY (by lia) ((getElem?_append_left (by lia)).trans (aY (by lia) hd1))
 generalize ((σ.H.set (B+2) (MO.set (sN (seen++ [v]))))++ [MO.iter (5+3 * v) 0]).set (B+1) (MO.list (sI (st++ [(v,σ.H.length,0)])))=H3 at hst3 hdi3 ⊢
 have ds:=yC (σ:=⟨σ.r,H3⟩) (k:=v) (z:= .int st.length) hdi3 (by lia) hdn
 have ln:Ev ((aO [aF 65]).bind nH) ⟨σ.r,H3⟩ (.int st.length):=by
  rw [←hls]
  exact Ev.bind (Ev.cons (Ev.var V.r65) Ev.nil) (Ev.lenC hst3 (by lia))
 refine (aG (σ':=⟨σ.r,H3.set (B+3) (.dict (ep+1) (d++ [((v:Int),.int st.length)]))⟩) ?_).trans ?_
 ·refine (aA ln).trans ?_
  refine (aA (bA (σ:=⟨σ.r,H3⟩) V.r35)).trans ?_
  refine (aA (bA (σ:=⟨σ.r,H3⟩) h34)).trans ?_
  exact (aA ds).trans rfl
 have ap:=gU (σ:=⟨σ.r,H3.set (B+3) (.dict (ep+1) (d++ [((v:Int),.int st.length)]))⟩) (Ev.var V.r65) (Ev.var h34) (aY (by lia) hst3) (by lia)
 rw [show nI (sS st)++ [MV.int (v:Int)]=nI (sS (st++ [(v,σ.H.length,0)])) from by rw [oS,mV];rfl] at ap
 exact ap
end
noncomputable abbrev fT1:M Bool:=((M.lift (kM (Const.bool true))).bind fun x=>M.lift (trM x))
section
variable {n B:Nat} {K:Nat→List Nat} {np:Nat→Int} {rv:MV} {po nf:Int} {H0:List MO}
theorem yF (S:Srt n K np rv po nf H0) (hB:3+3 * n≤B) (hz:n≤8) (hK:∀j,j < n→(∀s∈K j,j < s∧s < n)∧(K j).length≤n):∀(fuel:Nat) (st:FrL) (seen:List Nat) (σ:St) (v:Nat),(n - seen.length) * (n+1)+lY K st < fuel→
  FH n K H0 B st seen σ.H→RV B σ.r→σ.r.lookup 34=some (.int v)→v < n→(∀f∈st,f.1 < v)→∃seen' σ',bW fT1 fOB (M.pure .next) fuel σ=some (.ok .next,σ')∧FH n K H0 B [] seen' σ'.H∧RV B σ'.r
 | 0,_,_,_,_,h,_,_,_,_,_=>absurd h (Nat.not_lt_zero _)
 | fuel+1,st,seen,σ,v,hm,F,V,h34,hv,hlt=>by
  have ht:Ev fT1 σ true:=rfl
  have key:∃st1 seen1 H1,fA σ=some (.ok .next,⟨σ.r,H1⟩)∧FH n K H0 B st1 seen1 H1∧(n - seen1.length) * (n+1)+lY K st1≤(n - seen.length) * (n+1)+lY K st:=by
   by_cases hs:v∈seen
   ·exact ⟨st,seen,σ.H,aRl F V hz h34 hs hlt,F,Nat.le_refl _⟩
   ·refine cJ (aRm S hB F V hz h34 hv hs hlt) fun H1 m e F1=>?_
    refine ⟨_,_,H1,e,F1,?_⟩
    have h1:=F1.seen_len
    rw [length_append] at h1 ⊢
    have h2:=(hK v hv).2
    rw [lP]
    simp only [length_singleton] at h1 ⊢
    obtain ⟨c,hc⟩:∃c,n - seen.length=c+1:=⟨n - seen.length - 1,by lia⟩
    rw [hc,show n - (seen.length+1)=c from by lia,Nat.succ_mul]
    lia
  (refine mZ key fun st1 seen1 H1 eA F1 hm1=>?_;try clear key)
  have hl1:=F1.st_len
  rcases yE (seen:=seen1) S hB hz 1000 st1 ⟨σ.r,H1⟩ (by lia) F1 V with ⟨H2,e,F2⟩|⟨st2,s,m,k,v2,H2,e,F2,hv2,hr⟩
  ·exact ⟨seen1,⟨σ.r,H2⟩,mW ht ((aG eA).trans e),F2,V⟩
  ·rw [dI ht ((aG eA).trans e)]
   refine gW (F2.its (s,m,k+1) (by simp)) fun _ _ _ h4=>?_
   obtain ⟨h5,h6⟩:=(hK s h4).1 v2 (mem_of_getElem? hv2)
   refine yF S hB hz hK fuel _ seen1 ⟨aL 34 (.int v2) σ.r,H2⟩ v2 (by lia) F2 (V.set _) lk' h6 fun f hf=>?_
   rcases mem_append.mp hf with hf|hf
   ·have:=(aIy F2.inc).2 f hf
    simp only at this
    lia
   ·rw [mS hf];exact h5
theorem lQ {σ:St} {y:MO} {L:Nat} (h:σ.H.length=L):oF y σ=some (.ok (.cell L),⟨σ.r,σ.H++ [y]⟩):=by subst h;rfl
theorem lF {σ:St} {x L:Nat} (h:σ.H.length=L):(((aO []).bind fun l=>(M.lift (if cC l.length=true then some () else none)).bind fun x=>oF (MO.list l)).bind fun y=>(bE x y).bind fun x=>M.pure Fl.next) σ=some (.ok .next,⟨aL x (.cell L) σ.r,σ.H++ [.list []]⟩):=
 (aA (lQ (y:= .list []) h)).trans rfl
theorem FH.init (S:Srt n K np rv po nf H0) (hB:H0.length=B):FH n K H0 B [] [] (H0++ [MO.list []]++ [MO.list []]++ [MO.set []]++ [MO.dict 0 []]):=by
 subst hB
 have e:H0++ [MO.list []]++ [MO.list []]++ [MO.set []]++ [MO.dict 0 []]=H0++ [MO.list [],MO.list [],MO.set [],MO.dict 0 []]:=by simp
 rw [e]
 have g:∀i,(H0++ [MO.list [],MO.list [],MO.set [],MO.dict 0 []])[H0.length+i]?= [MO.list [],MO.list [],MO.set [],MO.dict 0 []][i]?:=fun i=>by rw [getElem?_append_right (by lia),Nat.add_sub_cancel_left]
 exact ⟨fun i hi=>getElem?_append_left hi,by simp,g 0,g 1,g 2,⟨0,[],g 3,rfl⟩,fun f hf=>(by cases hf),nodup_nil,List.Pairwise.nil,nodup_nil,fun s hs=>(by cases hs)⟩
theorem aAp (S:Srt n K np rv po nf H0) (hB:H0.length=B) (h3:3+3 * n≤B) (hz:n≤8) (hK:∀j,j < n→(∀s∈K j,j < s∧s < n)∧(K j).length≤n):∃H',Φ_608 [.cell 1] [] H0=some (.none,H')∧∀i,i < B→H'[i]?=H0[i]?:=by
 have F0:=FH.init S hB
 have S0:=F0.srt S h3
 obtain ⟨σ',f1,⟨seen',F'⟩,V'⟩:=eE (nx:=nxK 2 n n) (tg:=bE 34) (body:=(bS
         (((aF 34).bind fun x=>(aF 61).bind fun y=>inM x y).bind fun x=>match x with
          | true=>M.pure Fl.cont
          | false=>M.pure Fl.next)
         (bW fT1 fOB (M.pure Fl.next) 1000))) (l:=eF n)
  (fun i σ=>(∃seen,FH n K H0 B [] seen σ.H)∧RV B σ.r)
  (fun i σ hP=>by
   obtain ⟨⟨seen,F⟩,V⟩:=hP
   refine (tR (F.srt S h3).dict).trans ((if_pos (by rw [jD,Nat.beq_refl];rfl)).trans ?_)
   congr 1
   unfold dl eF
   rw [getElem?_map,getElem?_map,Option.map_map]
   rfl)
  (fun i y σ hP hy=>by
   obtain ⟨⟨seen,F⟩,V⟩:=hP
   (refine aJ (tO (mem_of_getElem? hy)) fun v hv e_1=>?_;obtain rfl:=e_1)
   have e1:=aJb (σ:=⟨aL 34 (.int v) σ.r,σ.H⟩) (v:=v) F hz
   have e2:Ev ((aF 34).bind fun x=>(aF 61).bind fun y=>inM x y) ⟨aL 34 (.int v) σ.r,σ.H⟩ (decide (v∈seen)):=Ev.bind (Ev.var lk') (Ev.bind (Ev.var (V.set _).r61) e1)
   by_cases hs:v∈seen
   ·rw [decide_eq_true hs] at e2
    exact ⟨_,⟨aL 34 (.int v) σ.r,σ.H⟩,.cont,rfl,rE ((aA e2).trans rfl) (by intro e;cases e),.inr rfl,⟨seen,F⟩,V.set _⟩
   ·rw [decide_eq_false hs] at e2
    have hq:(n - seen.length) * (n+1)≤8 * 9:=Nat.mul_le_mul (by lia) (by lia)
    refine cD (yF S h3 hz hK 1000 [] seen ⟨aL 34 (.int v) σ.r,σ.H⟩ v (by show _+0 < 1000;lia) F (V.set _) lk' hv fun f hf=>by cases hf) fun seen' σ' e3 F' V'=>?_
    exact ⟨_,σ',.next,rfl,(aG ((aA e2).trans rfl)).trans e3,.inl rfl,⟨seen',F'⟩,V'⟩)
  (n+1) 0 ⟨[(62,.cell 1),(32,.cell 2),(65,.cell B),(25,.cell (B+1)),(61,.cell (B+2)),(35,.cell (B+3))],_⟩ (by rw [dE];lia) (Nat.zero_le _) ⟨⟨[],F0⟩,⟨rfl,rfl,rfl,rfl,rfl⟩⟩
 refine ⟨σ'.H,?_,F'.x0⟩
 refine kF (f:=aCb.1) (ps:= [62]) (xs:= [.cell 1]) (r:=σ'.r) ?_
 simp only [aCb]
 refine (aG (σ':=⟨[(62,.cell 1),(32,.cell 2)],H0⟩) ((aA (S.a0 rfl)).trans rfl)).trans ?_
 refine (aG (lF hB)).trans ?_
 refine (aG (lF (L:=B+1) (by simp [hB]))).trans ?_
 refine (aG ((aA (a:=MV.cell (B+2)) ((aA Ev.nil).trans (lQ (y:= .set []) (by simp [hB])))).trans rfl)).trans ?_
 refine (aG ((aA (lQ (L:=B+3) (y:= .dict 0 []) (by simp [hB]))).trans rfl)).trans ?_
 refine (aG (σ':=σ') ?_).trans rfl
 have dk:aGz (.cell 2) ⟨[(62,.cell 1),(32,.cell 2),(65,.cell B),(25,.cell (B+1)),(61,.cell (B+2)),(35,.cell (B+3))],H0++ [MO.list []]++ [MO.list []]++ [MO.set []]++ [MO.dict 0 []]⟩=some (.ok (n+1,nxK 2 n n),⟨[(62,.cell 1),(32,.cell 2),(65,.cell B),(25,.cell (B+1)),(61,.cell (B+2)),(35,.cell (B+3))],H0++ [MO.list []]++ [MO.list []]++ [MO.set []]++ [MO.dict 0 []]⟩):=by
  exact (tR S0.dict).trans (by rw [jD])
 exact (aA (a:=(n+1,nxK 2 n n)) (bJ ((aA (bA rfl)).trans dk))).trans f1
end
section
variable {n:Nat} {K:Nat→List Nat} {np:Nat→Int} {po nf:Int} {H0:List MO}
theorem sQ (l:List Nat) (p:Nat→Bool):(l.filterMap fun j=>if p j then some (MV.int (j:Int)) else none)=nI (l.filter p):=by
 unfold nI
 induction l with
 | nil=>rfl
 | cons x l ih=>
  by_cases h:p x=true
  ·rw [filterMap_cons_some (by rw [if_pos h]),filter_cons_of_pos h,ih];rfl
  ·rw [filterMap_cons_none (by rw [if_neg h]),filter_cons_of_neg h,ih]
theorem jQ {α β:Type} {f g:α→Option β}:∀{l:List α},(∀x∈l,f x=g x)→l.filterMap f=l.filterMap g
 | [],_=>rfl
 | x::l,h=>by
  rw [List.filterMap_cons,List.filterMap_cons,h x (mem_cons_self ..),jQ fun y hy=>h y (mem_cons_of_mem _ hy)]
theorem vQ (S:Srt n K np .none po nf H0) (hL:H0.length=3+3 * n) (hz:n≤8) (hK:∀j,j < n→(∀s∈K j,j < s∧s < n)∧(K j).length≤n):
  ∃H',Φ_603 [.cell 1] [] H0=some (.none,H')∧Srt n K np (.cell (3+3 * n)) po nf H'∧H'[3+3 * n]?=some (.list (nI ((List.range n).filter fun j=>np j==0))):=by
 have cmp:Ev (dH [23] (((aF 62).bind (kJ 0 0)).bind vC) (bE 23) (((aF 23).bind (fH 1 1)).bind fun x=>(M.lift (kM (Const.int 0))).bind fun y=>M.lift (cG CmpOp.Eq x y)) ((aF 23).bind (fH 1 0))) ⟨[(62,.cell 1)],H0⟩ (nI ((List.range n).filter fun j=>np j==0)):=by
  have:=Ev.comp (loc:= [23]) (k:=23) (m:=n+1) (fi:=((aF 62).bind (kJ 0 0)).bind vC) (nx:=nxV 2 n n) (cond:=((aF 23).bind (fH 1 1)).bind fun x=>(M.lift (kM (Const.int 0))).bind fun y=>M.lift (cG CmpOp.Eq x y)) (elt:=(aF 23).bind (fH 1 0)) (l:=(dl n).map (·.2))
   (e:=fun x=>oC x fun m=>if np ((m - 4) / 3)==0 then some (MV.int (((m - 4) / 3:Nat):Int)) else none) (σ:=⟨[(62,.cell 1)],H0⟩) (by decide) (Ev.bind (S.a0 rfl) (by
    show vC (.cell 2) _=_
    exact (tR S.dict).trans (by rw [jD]))) (by rw [length_map,jD];lia) (fun i=>by
    exact (tR S.dict).trans ((if_pos (by rw [jD,Nat.beq_refl];rfl)).trans (by rw [getElem?_map]))) (fun x hx r' ha hl=>by
    (refine aJ (mem_map.mp hx) fun p hp e_2=>?_;obtain rfl:=e_2)
    unfold dl at hp
    (refine aJ (mem_map.mp hp) fun j hj e_1=>?_;obtain rfl:=e_1)
    have hj:=mem_range.mp hj
    simp only [aQc]
    rw [show (4+3 * j - 4) / 3=j from by lia]
    have c1:Ev (((aF 23).bind (fH 1 1)).bind fun x=>(M.lift (kM (Const.int 0))).bind fun y=>M.lift (cG CmpOp.Eq x y)) ⟨r',H0⟩ (np j==0):=Ev.bind (Ev.bind (Ev.var hl) (S.np_at hj)) (Ev.bind (Ev.lift rfl) (Ev.lift rfl))
    cases hc:(np j==0) with
    | false=>rw [hc] at c1;exact .inl ⟨if_neg (by decide),c1⟩
    | true=>rw [hc] at c1;exact .inr ⟨_,if_pos rfl,c1,Ev.bind (Ev.var hl) (Ev.getS (S.node j hj) rfl)⟩) (by rw [length_map,jD];lia)
  rw [filterMap_map] at this
  unfold dl at this
  rw [filterMap_map] at this
  rw [←sQ]
  refine Eq.trans this ?_
  congr 3
  refine jQ fun j hj=>?_
  simp only [Function.comp,aQc]
  rw [show (4+3 * j - 4) / 3=j from by lia]
 have S1:=S.app (Nat.le_of_eq hL.symm) [MO.list (nI ((List.range n).filter fun j=>np j==0))]
 have sa:=rQ (σ:=⟨[(62,.cell 1)],H0++ [MO.list (nI ((List.range n).filter fun j=>np j==0))]⟩) (x:=1) (v:= .cell (3+3 * n)) S1.inst S1.at0
 have S2:Srt n K np (.cell (3+3 * n)) po nf ((H0++ [MO.list (nI ((List.range n).filter fun j=>np j==0))]).set 0 (.attrs [(0,.cell 2),(1,.cell (3+3 * n)),(2,.int po),(3,.int nf)])):=
  ⟨iY S1.at0,aY (by decide) S1.inst,aY (by decide) S1.dict,fun j hj=>aY (by lia) (S1.node j hj),fun j hj=>aY (by lia) (S1.succ j hj)⟩
 refine aJ (aAp S2 (B:=3+3 * n+1) (by simp [hL]) (by lia) hz hK) fun H' e1 e2=>?_
 refine ⟨H',?_,S2.congr fun i hi=>e2 i (by lia),(e2 _ (by lia)).trans (aY (by lia) (gL hL))⟩
 refine lO (f:=aCc.1) (ps:= [62]) (xs:= [.cell 1]) (r:= [(62,.cell 1),(12,.none)]) ?_
 simp only [aCc]
 refine (aG (σ':=⟨[(62,.cell 1)],H0⟩) ((aA (show Ev _ _ false from Ev.bind (S.a1 rfl) (Ev.bind (Ev.lift rfl) (Ev.lift rfl)))).trans rfl)).trans ?_
 refine (aG (σ':=⟨[(62,.cell 1)],(H0++ [MO.list (nI ((List.range n).filter fun j=>np j==0))]).set 0 (.attrs [(0,.cell 2),(1,.cell (3+3 * n)),(2,.int po),(3,.int nf)])⟩) ?_).trans ?_
 ·refine (aA ((aA (bJ cmp)).trans (lQ hL))).trans ?_
  refine (aA (bA rfl)).trans ?_
  exact (aA sa).trans rfl
 refine (aG (σ':=⟨[(62,.cell 1),(12,.none)],H'⟩) ?_).trans rfl
 exact (aA (a:=MV.none) (σ':=⟨[(62,.cell 1)],H'⟩) ((aA (bA rfl)).trans ((aA S2.ck).trans ((aA Ev.nil).trans (eX e1))))).trans rfl
end
theorem yG {r:List (Nat×MV)}:nL (fun d=>MO.inst 0 d) Φ_600 [] ⟨r,[]⟩=some (.ok (.cell 1),⟨r,[.attrs [(0,.cell 2),(1,.none),(2,.int 0),(3,.int 0)],.inst 0 0,.dict 0 []]⟩):=rfl
theorem aEq {nx:Nxt} {tg:MV→M Unit} {cond:M Bool} {elt:M MV} {l:List MV} {e:MV→Option MV} {loc:List Nat} {r:List (Nat×MV)} {H:List MO} (hnx:∀i,nx i H=some l[i]?)
  (hstep:∀x,x∈l→∀r',Agr loc r r'→∃r2,tg x ⟨r',H⟩=some (.ok (),⟨r2,H⟩)∧Agr loc r r2∧((e x=none∧Ev cond ⟨r2,H⟩ false)∨∃v,e x=some v∧Ev cond ⟨r2,H⟩ true∧Ev elt ⟨r2,H⟩ v)) (hsz:l.length≤1000000):
  ∀(m i:Nat) (acc:List MV) (r':List (Nat×MV)),l.length - i < m→i≤l.length→acc.length≤i→Agr loc r r'→∃r'',kI nx tg cond elt m i acc ⟨r',H⟩=some (.ok (acc++(l.drop i).filterMap e),⟨r'',H⟩):=by
 intro m
 induction m with
 | zero=>intro i acc r' h;lia
 | succ m ih=>
  intro i acc r' hm hi ha hr
  unfold kI
  simp only [hnx i]
  cases hx:l[i]? with
  | none=>
   have:l.length≤i:=getElem?_eq_none_iff.mp hx
   simp only
   rw [if_pos (bK (by lia)),drop_of_length_le this]
   exact ⟨r',by simp⟩
  | some x=>
   simp only
   have hlt:=(gS hx).1
   have hd:l.drop i=x::l.drop (i+1):=by
    rw [List.drop_eq_getElem_cons hlt]
    congr 1
    exact (gS hx).2
   refine bG (hstep x (mem_of_getElem? hx) r' hr) fun r2 h0 hr1 hc=>?_
   rw [aA (bJ h0)]
   rcases hc with ⟨h1,h2⟩|⟨v,h1,h2,h3⟩
   ·rw [aA (bJ h2)]
    obtain ⟨r'',e⟩:=ih (i+1) acc r2 (by lia) hlt (by lia) hr1
    refine ⟨r'',?_⟩
    rw [hd,filterMap_cons_none h1]
    exact e
   ·rw [aA (bJ h2)]
    simp only
    rw [aA (bJ h3)]
    obtain ⟨r'',e⟩:=ih (i+1) (acc++ [v]) r2 (by lia) hlt (by simp;lia) hr1
    refine ⟨r'',?_⟩
    rw [hd,filterMap_cons_some h1,e]
    simp
theorem Ev.compG {loc:List Nat} {m:Nat} {fi:M (Nat×Nxt)} {nx:Nxt} {tg:MV→M Unit} {cond:M Bool} {elt:M MV} {l:List MV} {e:MV→Option MV} {σ:St} (hfi:Ev fi σ (m,nx)) (hm:l.length < m) (hnx:∀i,nx i σ.H=some l[i]?)
  (hstep:∀x,x∈l→∀r',Agr loc σ.r r'→∃r2,tg x ⟨r',σ.H⟩=some (.ok (),⟨r2,σ.H⟩)∧Agr loc σ.r r2∧((e x=none∧Ev cond ⟨r2,σ.H⟩ false)∨∃v,e x=some v∧Ev cond ⟨r2,σ.H⟩ true∧Ev elt ⟨r2,σ.H⟩ v)) (hsz:l.length≤1000000):
  Ev (dH loc fi tg cond elt) σ (l.filterMap e):=by
 refine (uC (bJ hfi)).trans ?_
 obtain ⟨r'',e1⟩:=aEq hnx hstep hsz m 0 [] (iV loc σ.r) (by lia) (Nat.zero_le _) (Nat.le_refl _) (Agr.drop loc σ.r)
 refine (uC e1).trans ?_
 simp
theorem Ev.compN {loc:List Nat} {k m:Nat} {fi:M (Nat×Nxt)} {nx:Nxt} {cond:M Bool} {elt:M MV} {l:List Nat} {p:Nat→Bool} {e:Nat→MV} {σ:St} (hk:k∈loc) (hfi:Ev fi σ (m,nx)) (hm:l.length < m) (hnx:∀i,nx i σ.H=some (nI l)[i]?)
  (hstep:∀j,j∈l→∀r',Agr loc σ.r r'→r'.lookup k=some (.int (j:Int))→Ev cond ⟨r',σ.H⟩ (p j)∧(p j=true→Ev elt ⟨r',σ.H⟩ (e j))) (hz:l.length≤1000):
  Ev (dH loc fi (bE k) cond elt) σ ((l.filter p).map e):=by
 have:=Ev.compG (e:=fun x=>oI x fun i=>if p i.toNat then some (e i.toNat) else none) (tg:=bE k) (cond:=cond) (elt:=elt) hfi (by rw [bU];exact hm) hnx (fun x hx r' ha=>by
  unfold nI at hx
  (refine aJ (mem_map.mp hx) fun j hj e_4=>?_;obtain rfl:=e_4)
  refine ⟨aL k (.int j) r',rfl,ha.set hk,?_⟩
  obtain ⟨h1,h2⟩:=hstep j hj _ (ha.set hk) lk'
  show ((if p j=true then some (e j) else none)=none∧_)∨∃v,(if p j=true then some (e j) else none)=some v∧_∧_
  cases hp:p j with
  | false=>rw [hp] at h1;exact .inl ⟨if_neg (by decide),h1⟩
  | true=>rw [hp] at h1;exact .inr ⟨_,if_pos rfl,h1,h2 hp⟩) (by rw [bU];lia)
 rw [show (l.filter p).map e=(nI l).filterMap fun x=>oI x fun i=>if p i.toNat then some (e i.toNat) else none from by
  unfold nI
  rw [filterMap_map]
  clear hstep hz hnx hm this hfi
  induction l with
  | nil=>rfl
  | cons x l ih=>
   by_cases h:p x=true
   ·rw [filter_cons_of_pos h,map_cons,filterMap_cons_some (b:=e x) (by show (if p (x:Int).toNat then _ else _)=_;rw [Int.toNat_natCast,if_pos h]),ih]
   ·rw [filter_cons_of_neg h,filterMap_cons_none (by show (if p (x:Int).toNat then _ else _)=_;rw [Int.toNat_natCast,if_neg h]),ih]]
 exact this
theorem Ev.rng {fs:List (M MV)} {σ:St} {n:Nat} (h:Ev (aO fs) σ [.int n]) (hn:n≤1000):Ev (M.bind (M.ne (aO fs)) fun l=>M.bind (M.lift (fN l)) fun l=>M.pure (nxL l)) σ (n+1,fun i _=>some (nI (List.range n))[i]?):=Ev.range h (by lia)
theorem gV {α:Type} (l:List α):l.filter (fun _=>true)=l:=by simp
noncomputable def plM (pl:List (List Nat)):MV:= .lst (pl.map fun ks=> .lst (nI ks))
theorem Ev.idxL {l:List MV} {i:Nat} {x:MV} {σ:St} (h:l[i]?=some x) (hi:i≤1000):Ev (cA (.lst l) (.int i)) σ x:=by
 have e:Mine.idxL l (i:Int)=some (.ok x):=by
  unfold Mine.idxL
  rw [if_pos (fM.mpr (by lia)),if_pos (decide_eq_true (by lia)),Int.toNat_natCast,h]
 refine rP.trans ?_
 rw [e];rfl
theorem vR {pl:List (List Nat)} {q:Nat} (h:q < pl.length):pl[q]?=some (PL pl q):=by
 unfold PL
 rw [getD_eq_getElem?_getD,getElem?_eq_getElem h];rfl
theorem Ev.pl {pl:List (List Nat)} {q:Nat} {σ:St} (h:q < pl.length) (hz:pl.length≤8):Ev (cA (plM pl) (.int q)) σ (.lst (nI (PL pl q))):=
 Ev.idxL (by rw [getElem?_map,vR h];rfl) (by lia)
theorem aCm {l:List Nat} {k:Nat}:yT (k:Int) (nI l)=some (l.contains k):=by
 induction l with
 | nil=>rfl
 | cons x l ih=>
  show (yT (k:Int) (nI l)).map (fun b=>(x:Int)==(k:Int)||b)=_
  rw [ih,List.contains_cons]
  show some ((x:Int)==(k:Int)||l.contains k)=some _
  congr 2
  rw [Bool.eq_iff_iff,beq_iff_eq,beq_iff_eq]
  lia
theorem Ev.inPl {pl:List (List Nat)} {p k:Nat} {x y z:Nat} {r:List (Nat×MV)} {H:List MO} (hx:r.lookup x=some (.int k)) (hy:r.lookup y=some (plM pl)) (hw:r.lookup z=some (.int p)) (hp:p < pl.length) (hz:pl.length≤8):
  Ev ((aF x).bind fun x=>((aF y).bind fun x=>(aF z).bind fun y=>cA x y).bind fun y=>M.lift (cG CmpOp.In x y)) ⟨r,H⟩ ((PL pl p).contains k):=
 Ev.bind (Ev.var hx) (Ev.bind (Ev.bind (Ev.var hy) (Ev.bind (Ev.var hw) (Ev.pl hp hz))) (Ev.lift aCm))
theorem aCn (pl:List (List Nat)):(pl.map fun ks=>MV.lst (nI ks)).length=pl.length:=length_map ..
theorem Ev.lenPl {pl:List (List Nat)} {σ:St} (hx:σ.r.lookup 48=some (plM pl)) (hz:pl.length≤8):Ev (aO [(aO [aF 48]).bind nH]) σ [.int pl.length]:=by
 rw [←aCn pl]
 exact Ev.cons (Ev.bind (Ev.cons (Ev.var hx) Ev.nil) (Ev.lenL (by rw [aCn];lia))) Ev.nil
noncomputable def tkQ (pl:List (List Nat)) (q:Nat):MV:= .lst ((PL pl q).map fun (k:Nat)=> .tup [.int (k:Int),.int (cnt pl (List.range q) k:Nat)])
noncomputable def tkM (pl:List (List Nat)):MV:= .lst ((List.range pl.length).map (tkQ pl))
theorem rU (l:List Nat):dZ (nI l)=true:=cU fun x hx=>by
 unfold nI at hx
 (refine aJ (mem_map.mp hx) fun j _ e_3=>?_;obtain rfl:=e_3)
 rfl
theorem vS {pl:List (List Nat)} (hz:pl.length≤8) (h7:∀ks∈pl,ks.length≤7):Φ_30 [plM pl] []=some (tkM pl):=by
 refine eQ (f:=aMl.1) (ps:= [48]) ?_ ⟨⟨[(48,plM pl)],[]⟩,?_⟩
 ·unfold tkM
  refine cU fun x hx=>?_
  (refine aJ (mem_map.mp hx) fun q _ e_2=>?_;obtain rfl:=e_2)
  unfold tkQ
  refine cU fun x hx=>?_
  (refine aJ (mem_map.mp hx) fun k _ e_1=>?_;obtain rfl:=e_1)
  rfl
 ·simp only [aMl]
  have hPL:∀q,(PL pl q).length≤7:=fun q=>by
   by_cases h:q < pl.length
   ·exact h7 _ (mem_of_getElem? (vR h))
   ·unfold PL;rw [getD_eq_getElem?_getD,getElem?_eq_none (by lia)];exact Nat.zero_le _
  refine aA (show Ev _ _ (tkM pl) from Ev.bind (Ev.ne (Ev.compN (p:=fun _=>true) (e:=tkQ pl) (by decide) (Ev.rng (Ev.lenPl rfl hz) (by lia)) (by rw [length_range];lia) (fun _=>rfl) (fun q hq r1 ha1 hl1=>⟨Ev.pure,fun _=>?_⟩) (by rw [length_range];lia))) (by rw [gV];exact Ev.pure))
  have hq:=mem_range.mp hq
  have p1:r1.lookup 48=some (plM pl):=ha1 48 (by decide)
  refine Ev.bind (Ev.ne (Ev.compN (p:=fun _=>true) (e:=fun (k:Nat)=> .tup [.int (k:Int),.int (cnt pl (List.range q) k:Nat)]) (by decide) (Ev.bind (Ev.bind (Ev.var p1) (Ev.bind (Ev.var hl1) (Ev.pl hq hz))) Ev.src_lst) (by rw [bU];lia) (fun _=>rfl) (fun k hk r2 ha2 hl2=>⟨Ev.pure,fun _=>?_⟩) (by have:=hPL q;lia))) (by rw [gV];exact Ev.pure (a:=tkQ pl q))
  have p2:r2.lookup 48=some (plM pl):=(ha2 48 (by decide)).trans p1
  have q2:r2.lookup 53=some (.int q):=(ha2 53 (by decide)).trans hl1
  refine Ev.bind (Ev.cons (Ev.var hl2) (Ev.cons (Ev.bind (Ev.cons (Ev.bind (Ev.ne (Ev.compN (p:=fun p=>(PL pl p).contains k) (e:=fun p=> .int (p:Int)) (by decide) (Ev.rng (Ev.cons (Ev.var q2) Ev.nil) (by lia)) (by rw [length_range];lia) (fun _=>rfl) (fun p hp r3 ha3 hl3=>⟨?_,fun _=>Ev.var hl3⟩) (by rw [length_range];lia))) Ev.pure) Ev.nil) (Ev.lenL ?_)) Ev.nil)) (Ev.lift ?_)
  ·have hp:=mem_range.mp hp
   exact Ev.inPl ((ha3 27 (by decide)).trans hl2) ((ha3 48 (by decide)).trans p2) hl3 (by lia) hz
  ·rw [length_map]
   have:=length_filter_le (fun p=>(PL pl p).contains k) (List.range q)
   rw [length_range] at this
   lia
  ·rw [length_map];rfl
theorem vT {pl:List (List Nat)} (h7:∀ks∈pl,ks.length≤7) (q:Nat):(PL pl q).length≤7:=by
 by_cases h:q < pl.length
 ·exact h7 _ (mem_of_getElem? (vR h))
 ·unfold PL;rw [getD_eq_getElem?_getD,getElem?_eq_none (by lia)];exact Nat.zero_le _
theorem aCo {pl:List (List Nat)} {b:Nat} (h7:∀ks∈pl,∀k∈ks,k < b) (q:Nat):∀k∈PL pl q,k < b:=by
 by_cases h:q < pl.length
 ·exact h7 _ (mem_of_getElem? (vR h))
 ·unfold PL;rw [getD_eq_getElem?_getD,getElem?_eq_none (by lia)];intro k hk;cases hk
noncomputable def nS (pl:List (List Nat)) (gone:List Nat):List MV:=(List.range 7).map fun k=> .int (cnt pl gone k:Nat)
theorem aRn {pl:List (List Nat)} {q:Nat} (h:q < pl.length):((List.range pl.length).map (tkQ pl))[q]?=some (tkQ pl q):=by
 rw [getElem?_map,getElem?_range h];rfl
theorem aJc {pl:List (List Nat)} {gone:List Nat} {k:Nat} (h:k < 7):(nS pl gone)[k]?=some (.int (cnt pl gone k:Nat)):=by
 unfold nS
 rw [getElem?_map,getElem?_range h];rfl
noncomputable def tT (pl:List (List Nat)) (gone:List Nat):MV→Option MV:=fun x=>oT x fun l=>l2 l fun a b=>oI a fun k=>oI b fun c=>if (cnt pl gone k.toNat:Int) !=c then some (MV.int k) else none
theorem yH {pl:List (List Nat)} {gone:List Nat} {g:Nat} {H:List MO} (hz:pl.length≤8) (h7:∀ks∈pl,ks.length≤7∧∀k∈ks,k < 7) (hg:H[g]?=some (.list (nI gone))) (hgl:gone.length≤8) (hgn:∀p∈gone,p < pl.length):
  Φ_31 [plM pl,tkM pl,.cell g] [] H=some (.cell H.length,H++ [.list (nI (vI pl gone))]):=by
 refine kF (f:=aMm.1) (ps:= [48,76,21]) (xs:= [plM pl,tkM pl,.cell g]) (r:= [(48,plM pl),(76,tkM pl),(21,.cell g),(9,.lst (nS pl gone))]) ?_
 simp only [aMm]
 refine (aG (σ':=⟨[(48,plM pl),(76,tkM pl),(21,.cell g),(9,.lst (nS pl gone))],H⟩) ((aA (show Ev _ _ (.lst (nS pl gone)) from Ev.bind (Ev.ne (Ev.compN (l:=List.range 7) (p:=fun _=>true) (e:=fun (k:Nat)=> .int (cnt pl gone k:Nat)) (by decide) (Ev.rng (n:=7) (Ev.cons (Ev.lift rfl) Ev.nil) (by decide)) (by decide) (fun _=>rfl) (fun k hk r1 ha1 hl1=>⟨Ev.pure,fun _=>?_⟩) (by decide))) (by rw [gV];exact Ev.pure (a:=MV.lst (nS pl gone))))).trans rfl)).trans ?_
 ·have p1:r1.lookup 48=some (plM pl):=ha1 48 (by decide)
  have p2:r1.lookup 21=some (.cell g):=ha1 21 (by decide)
  have he:cnt pl gone k=((gone.filter fun p=>(PL pl p).contains k).map fun (p:Nat)=>MV.int (p:Int)).length:=by rw [length_map];rfl
  rw [he]
  refine Ev.bind (Ev.cons (Ev.bind (Ev.ne (Ev.compN (l:=gone) (p:=fun p=>(PL pl p).contains k) (e:=fun (p:Nat)=> .int (p:Int)) (by decide) (Ev.bind (Ev.var p2) (Ev.src_cell hg)) (by rw [bU];lia) (aIw hg) (fun p hp r2 ha2 hl2=>⟨Ev.inPl ((ha2 27 (by decide)).trans hl1) ((ha2 48 (by decide)).trans p1) hl2 (hgn p hp) hz,fun _=>Ev.var hl2⟩) (by lia))) Ev.pure) Ev.nil) (Ev.lenL ?_)
  rw [length_map]
  have:=length_filter_le (fun p=>(PL pl p).contains k) gone
  lia
 ·have cmp:Ev (dH [53] ((aO [(aO [aF 48]).bind nH]).ne.bind fun l=>(M.lift (fN l)).bind fun l=>M.pure (nxL l)) (bE 53)
       (Mine.andM ((aF 53).bind fun x=>(aF 21).bind fun y=>aGg CmpOp.NotIn x y)
        (Mine.andM
         ((((dH [27,11] (((aF 76).bind fun x=>(aF 53).bind fun y=>cA x y).bind gZ) (qQ 27 11) (((aF 9).bind fun x=>(aF 27).bind fun y=>cA x y).bind fun x=>(aF 11).bind fun y=>M.lift (cG CmpOp.NotEq x y)) (aF 27)).ne.bind fun l=>M.pure (MV.lst l)).bind fun x=>M.lift (trM x)).bind fun b=>M.pure !b)
         (M.pure (BoolOp.And==BoolOp.And))))
       (aF 53)) ⟨[(48,plM pl),(76,tkM pl),(21,.cell g),(9,.lst (nS pl gone))],H⟩ (nI (vI pl gone)):=by
   refine Ev.compN (l:=List.range pl.length) (p:=fun q=> !gone.contains q && (PL pl q).all fun k=>cnt pl gone k==cnt pl (List.range q) k) (e:=fun (q:Nat)=> .int (q:Int)) (by decide) (Ev.rng (Ev.lenPl rfl hz) (by lia)) (by rw [length_range];lia) (fun _=>rfl) (fun q hq r1 ha1 hl1=>⟨?_,fun _=>Ev.var hl1⟩) (by rw [length_range];lia)
   have hq:=mem_range.mp hq
   have p1:r1.lookup 76=some (tkM pl):=ha1 76 (by decide)
   have p2:r1.lookup 21=some (.cell g):=ha1 21 (by decide)
   have p3:r1.lookup 9=some (.lst (nS pl gone)):=ha1 9 (by decide)
   have c1:Ev ((aF 53).bind fun x=>(aF 21).bind fun y=>aGg CmpOp.NotIn x y) ⟨r1,H⟩ (!gone.contains q):=by
    refine Ev.bind (Ev.var hl1) (Ev.bind (Ev.var p2) ?_)
    show ((frz H (.int q)).bind fun x'=>(frz H (.cell g)).bind fun y'=>M.lift (cG .NotIn x' y') _)=_
    have f1:frz H (.int q)=some (.int q):=rfl
    have f2:frz H (.cell g)=some (.lst (nI gone)):=by
     exact lN hg (rU gone)
    rw [f1,f2]
    show M.lift ((yT (q:Int) (nI gone)).map (!·)) _=_
    rw [aCm];rfl
   have c2:Ev (dH [27,11] (((aF 76).bind fun x=>(aF 53).bind fun y=>cA x y).bind gZ) (qQ 27 11) (((aF 9).bind fun x=>(aF 27).bind fun y=>cA x y).bind fun x=>(aF 11).bind fun y=>M.lift (cG CmpOp.NotEq x y)) (aF 27)) ⟨r1,H⟩ (((PL pl q).map fun (k:Nat)=>MV.tup [.int (k:Int),.int (cnt pl (List.range q) k:Nat)]).filterMap (tT pl gone)):=by
    have hPL:=vT (fun ks h=>(h7 ks h).1) q
    refine Ev.compG (Ev.bind (Ev.bind (Ev.var p1) (Ev.bind (Ev.var hl1) (Ev.idxL (aRn hq) (by lia)))) Ev.src_lst) (Nat.lt_succ_self _) (fun _=>rfl) (fun x hx r2 ha2=>?_) (by rw [length_map];lia)
    (refine aJ (mem_map.mp hx) fun k hk e_1=>?_;obtain rfl:=e_1)
    have hk7:=aCo (fun ks h=>(h7 ks h).2) q k hk
    refine ⟨aL 11 (.int (cnt pl (List.range q) k:Nat)) (aL 27 (.int (k:Int)) r2),rfl,(ha2.set (by decide)).set (by decide),?_⟩
    have q1:(aL 11 (MV.int (cnt pl (List.range q) k:Nat)) (aL 27 (.int (k:Int)) r2)).lookup 27=some (.int (k:Int)):=lk lk' (by decide)
    have q2:(aL 11 (MV.int (cnt pl (List.range q) k:Nat)) (aL 27 (.int (k:Int)) r2)).lookup 9=some (.lst (nS pl gone)):=lk (lk ((ha2 9 (by decide)).trans p3) (by decide)) (by decide)
    have cc:Ev (((aF 9).bind fun x=>(aF 27).bind fun y=>cA x y).bind fun x=>(aF 11).bind fun y=>M.lift (cG CmpOp.NotEq x y)) ⟨aL 11 (.int (cnt pl (List.range q) k:Nat)) (aL 27 (.int (k:Int)) r2),H⟩ ((cnt pl gone k:Int) !=(cnt pl (List.range q) k:Int)):=
     Ev.bind (Ev.bind (Ev.var q2) (Ev.bind (Ev.var q1) (Ev.idxL (aJc hk7) (by lia)))) (Ev.bind (Ev.var lk') (Ev.lift rfl))
    by_cases hc:((cnt pl gone k:Int) !=(cnt pl (List.range q) k:Int))=true
    ·rw [hc] at cc;exact .inr ⟨_,if_pos hc,cc,Ev.var q1⟩
    ·rw [Bool.eq_false_iff.mpr hc] at cc;exact .inl ⟨if_neg hc,cc⟩
   have e3:∀l:List Nat,(!((l.map fun (k:Nat)=>MV.tup [.int (k:Int),.int (cnt pl (List.range q) k:Nat)]).filterMap (tT pl gone)).length !=0)=l.all fun k=>cnt pl gone k==cnt pl (List.range q) k:=fun l=>by
    induction l with
    | nil=>rfl
    | cons k l ih=>
     rw [map_cons,List.all_cons,←ih]
     by_cases h:cnt pl gone k=cnt pl (List.range q) k
     ·rw [filterMap_cons_none (show tT pl gone (MV.tup [.int (k:Int),.int (cnt pl (List.range q) k:Nat)])=none from if_neg (c:=((cnt pl gone k:Int) !=(cnt pl (List.range q) k:Int))=true) (by simp [h]))];simp [h]
     ·rw [filterMap_cons_some (show tT pl gone (MV.tup [.int (k:Int),.int (cnt pl (List.range q) k:Nat)])=some (.int k) from if_pos (c:=((cnt pl gone k:Int) !=(cnt pl (List.range q) k:Int))=true) (by simp;lia))];simp [h]
   have hlen:(((PL pl q).map fun (k:Nat)=>MV.tup [.int (k:Int),.int (cnt pl (List.range q) k:Nat)]).filterMap (tT pl gone)).length≤1000:=by
    have:=vT (fun ks h=>(h7 ks h).1) q
    refine Nat.le_trans (List.length_filterMap_le ..) ?_
    rw [length_map];lia
   cases hb:gone.contains q with
   | true=>
    rw [hb] at c1
    exact Ev.bind c1 Ev.pure
   | false=>
    rw [hb] at c1
    refine Ev.bind c1 (Ev.bind (Ev.bind (Ev.bind (Ev.bind (Ev.ne c2) Ev.pure) (Ev.lift (if_pos (bK (by lia))))) Ev.pure) ?_)
    have:=e3 (PL pl q)
    generalize (((PL pl q).map fun (k:Nat)=>MV.tup [.int (k:Int),.int (cnt pl (List.range q) k:Nat)]).filterMap (tT pl gone)).length=N at this ⊢
    rw [←this]
    cases hN:(N !=0) <;> rfl
  exact aA ((aA (bJ cmp)).trans rfl)
theorem jE {α β:Type} (f:α→β):∀(l:List α) (i:Nat),(l.map f).eraseIdx i=(l.eraseIdx i).map f
 | [],_=>rfl
 | _::_,0=>rfl
 | x::l,i+1=>by rw [map_cons,List.eraseIdx_cons_succ,List.eraseIdx_cons_succ,map_cons,jE f l i]
theorem vU (A:List Nat) (i:Nat):(A.map fun (j:Nat)=>(j:Int)).findIdx (· ==(i:Int))=A.idxOf i:=by
 rw [List.findIdx_map]
 unfold List.idxOf
 congr 1
 funext x
 rw [Bool.eq_iff_iff]
 simp only [Function.comp,beq_iff_eq]
 lia
theorem aEr (A:List Nat):fC (nI A)=some (A.map fun (j:Nat)=>(j:Int)):=by
 rw [show nI A=(A.map fun (j:Nat)=>(j:Int)).map MV.int from by unfold nI;rw [map_map];rfl]
 exact fE _
theorem aAq {σ:St} {m i:Nat} {A:List Nat} (h:σ.H[m]?=some (.list (nI A))) (hz:A.length≤1000) (hi:i∈A):pV [.cell m,.int i] σ=some (.ok .none,⟨σ.r,σ.H.set m (.list (nI (A.erase i)))⟩):=by
 show gX (.cell m) (fun m l=>(match fC l with
  | some ns=>if decide (ns.findIdx (· ==(i:Int)) < ns.length) then lW m (l.eraseIdx (ns.findIdx (· ==(i:Int)))) .none else M.fail
  | none=>M.fail)) σ=_
 rw [iZ h (by rw [bU];lia)]
 simp only [aEr,vU,length_map]
 rw [if_pos (decide_eq_true (List.idxOf_lt_length_of_mem hi))]
 show some (R.ok MV.none,(⟨σ.r,σ.H.set m (.list ((nI A).eraseIdx (A.idxOf i)))⟩:St))=_
 have:(nI A).eraseIdx (A.idxOf i)=nI (A.erase i):=by
  rw [List.erase_eq_eraseIdx_of_idxOf rfl]
  unfold nI
  exact jE ..
 rw [this]
noncomputable abbrev uT:M Bool:=((aF 16).bind fun x=>(cK x).bind fun l=>M.lift (if cC l.length=true then some (l.length !=0) else none))
noncomputable abbrev uB:M Fl:=(bS (((aF 16).bind fun x=>(lstCk x).bind fun x_1=>(aO []).bind fun l=>wX (x::l)).bind fun y=>(bE 24 y).bind fun x=>M.pure Fl.next)
    (((aF 1).bind fun x=>(lstCk x).bind fun x_1=>(aO [aF 24]).bind fun l=>pV (x::l)).bind fun x=>M.pure Fl.next).ne)
theorem aJd {a b:Nat} (hab:a≠b):∀(fuel:Nat) (E A:List Nat) (σ:St),E.length < fuel→E.length≤100→E.Perm A→σ.r.lookup 16=some (.cell a)→σ.r.lookup 1=some (.cell b)→σ.H[a]?=some (.list (nI E))→σ.H[b]?=some (.list (nI A))→
  ∃σ',bW uT uB (M.pure .next) fuel σ=some (.ok .next,σ')∧σ'.r.lookup 1=σ.r.lookup 1∧σ'.r.lookup 30=σ.r.lookup 30∧σ'.H[b]?=some (.list [])∧∀i,i≠a→i≠b→σ'.H[i]?=σ.H[i]?
 | 0,_,_,_,h,_,_,_,_,_,_=>absurd h (Nat.not_lt_zero _)
 | fuel+1,E,A,σ,hf,hz,hp,h16,h1,ha,hb=>by
  have ht:Ev uT σ (E.length !=0):=by
   rw [←bU E]
   exact Ev.bind (Ev.var h16) (Ev.bind (Ev.items ha) (Ev.lift (if_pos (bK (by rw [bU];lia)))))
  rcases List.eq_nil_or_concat E with rfl|⟨E',x,rfl⟩
  ·have:A= []:=(List.nil_perm.mp hp)
   subst this
   exact ⟨σ,gH ht,rfl,rfl,hb,fun _ _ _=>rfl⟩
  ·rw [List.concat_eq_append] at *
   rw [length_append] at hf hz
   simp only [length_singleton] at hf hz
   rw [show ((E'++ [x]).length !=0)=true from by simp] at ht
   have hxA:x∈A:=(hp.mem_iff).mp (by simp)
   have hlen:=hp.length_eq
   rw [length_append] at hlen
   simp only [length_singleton] at hlen
   have hp':E'.Perm (A.erase x):=by
    have h1:(x::E').Perm A:=List.perm_append_comm.trans hp
    have:=h1.erase x
    rwa [List.erase_cons_head] at this
   rw [mV] at ha
   have p1:=rT (σ:=σ) (m:=a) ha (by rw [bU];lia)
   have hb2:(σ.H.set a (.list (nI E')))[b]?=some (.list (nI A)):=aY hab hb
   have p2:=aAq (σ:=⟨aL 24 (.int x) σ.r,σ.H.set a (.list (nI E'))⟩) (i:=x) hb2 (by lia) hxA
   have body:uB σ=some (.ok .next,⟨aL 24 (.int x) σ.r,(σ.H.set a (.list (nI E'))).set b (.list (nI (A.erase x)))⟩):=by
    refine (aG (σ':=⟨aL 24 (.int x) σ.r,σ.H.set a (.list (nI E'))⟩) ?_).trans (bJ ?_)
    ·exact (aA ((aA (bA h16)).trans ((aA (Ev.lstCk ha)).trans ((aA Ev.nil).trans p1)))).trans rfl
    ·refine (aA (a:=MV.none) (σ':=⟨aL 24 (.int x) σ.r,(σ.H.set a (.list (nI E'))).set b (.list (nI (A.erase x)))⟩) ?_).trans rfl
     refine (aA (bA (lk h1 (by decide)))).trans ?_
     refine (aA (Ev.lstCk hb2)).trans ?_
     exact (aA (Ev.cons (Ev.var lk') Ev.nil)).trans p2
   rw [dI ht body]
   refine mX (aJd hab fuel E' (A.erase x) ⟨aL 24 (.int x) σ.r,(σ.H.set a (.list (nI E'))).set b (.list (nI (A.erase x)))⟩ (by lia) (by lia) hp' (lk h16 (by decide)) (lk h1 (by decide)) (aY (Ne.symm hab) (iY ha)) (iY hb2)) fun σ' e1 e2 e3 e4 e5=>?_
   refine ⟨σ',e1,e2.trans (aS ..),e3.trans (aS ..),e4,fun i hia hib=>(e5 i hia hib).trans (aY (Ne.symm hib) (aY (Ne.symm hia) rfl))⟩
theorem aAr {a b:Nat} {E A:List Nat} {H:List MO} (hab:a≠b) (ha:H[a]?=some (.list (nI E))) (hb:H[b]?=some (.list (nI A))) (hz:E.length≤100) (hp:E.Perm A):
  ∃H',Φ_24 [.cell a,.cell b] [] H=some (.tup [.cell H.length,.cell b],H')∧H'[H.length]?=some (.list [])∧H'[b]?=some (.list [])∧∀i,i < H.length→i≠a→i≠b→H'[i]?=H[i]?:=by
 have hal:=(gS ha).1
 have hbl:=(gS hb).1
 refine mX (aJd hab 1000 E A ⟨[(16,.cell a),(1,.cell b),(30,.cell H.length)],H++ [.list []]⟩ (by lia) hz hp rfl rfl ((getElem?_append_left hal).trans ha) ((getElem?_append_left hbl).trans hb)) fun σ' e1 e2 e3 e4 e5=>?_
 refine ⟨σ'.H,?_,(e5 _ (by lia) (by lia)).trans (gL rfl),e4,fun i hi h1 h2=>(e5 i h1 h2).trans (getElem?_append_left hi)⟩
 refine kF (f:=aMh.1) (ps:= [16,1]) (xs:= [.cell a,.cell b]) (r:=σ'.r) ?_
 simp only [aMh]
 refine (aG (lF rfl)).trans ((aG (σ':=σ') e1).trans ?_)
 exact aA (show Ev _ σ' (MV.tup [.cell H.length,.cell b]) from Ev.bind (Ev.cons (Ev.var e3) (Ev.cons (Ev.var e2) Ev.nil)) (Ev.lift rfl))
theorem aAs (pl:List (List Nat)) (q j:Nat) (hj:j < q+1):fW pl (q+1) j=if j=q then [] else if j∈cM pl q then fW pl q j++ [q] else fW pl q j:=by
 unfold fW
 rw [range_succ,filter_append]
 by_cases e:j=q
 ·subst e
  rw [if_pos rfl,filter_eq_nil_iff.mpr,nil_append,filter_eq_nil_iff.mpr]
  ·intro x hx;rw [mS hx];simp
  ·intro x hx;have:=mem_range.mp hx;simp;lia
 ·rw [if_neg e]
  have hjq:j < q:=by lia
  by_cases h:dep pl j q=true
  ·rw [if_pos (dF.mpr ⟨hjq,h⟩),filter_cons_of_pos (by simp [hjq,h]),filter_nil]
  ·rw [if_neg (fun m=>h (dF.mp m).2),filter_cons_of_neg (by simp [h]),filter_nil,append_nil]
theorem oU (pl:List (List Nat)) (n j:Nat):(fW pl n j).length≤n:=by
 unfold fW
 refine Nat.le_trans (length_filter_le ..) ?_
 rw [length_range];exact Nat.le_refl _
theorem aEs (pl:List (List Nat)) (j:Nat):(cM pl j).length≤j:=by
 unfold cM
 refine Nat.le_trans (length_filter_le ..) ?_
 rw [length_range];exact Nat.le_refl _
noncomputable abbrev aJe:M Bool:=(((dH [27] (((aF 48).bind fun x=>(aF 43).bind fun y=>cA x y).bind gZ) (bE 27) ((aF 27).bind fun x=>((aF 48).bind fun x=>(aF 53).bind fun y=>cA x y).bind fun y=>M.lift (cG CmpOp.In x y)) (aF 27)).ne.bind fun l=>M.pure (MV.lst l)).bind fun x=>M.lift (trM x))
theorem aRo {pl:List (List Nat)} {p q:Nat} {r:List (Nat×MV)} {H:List MO} (hz:pl.length≤8) (h7:∀ks∈pl,ks.length≤7∧∀k∈ks,k < 7) (h48:r.lookup 48=some (plM pl)) (h43:r.lookup 43=some (.int p)) (h53:r.lookup 53=some (.int q)) (hp:p < pl.length) (hq:q < pl.length):Ev aJe ⟨r,H⟩ (dep pl p q):=by
 have hP:=vT (fun ks h=>(h7 ks h).1) p
 have hl:(((PL pl p).filter fun k=>(PL pl q).contains k).map fun (k:Nat)=>MV.int (k:Int)).length≤7:=by
  rw [length_map];exact Nat.le_trans (length_filter_le ..) hP
 have e:dep pl p q=((((PL pl p).filter fun k=>(PL pl q).contains k).map fun (k:Nat)=>MV.int (k:Int)).length !=0):=by
  rw [length_map]
  unfold dep
  generalize PL pl p=l
  induction l with
  | nil=>rfl
  | cons x l ih=>
   rw [List.any_cons]
   by_cases h:(PL pl q).contains x=true
   ·rw [h,filter_cons_of_pos h];simp
   ·rw [filter_cons_of_neg h,ih,Bool.eq_false_iff.mpr h,Bool.false_or]
 rw [e]
 exact Ev.bind (Ev.bind (Ev.ne (Ev.compN (l:=PL pl p) (p:=fun k=>(PL pl q).contains k) (e:=fun (k:Nat)=> .int (k:Int)) (by decide) (Ev.bind (Ev.bind (Ev.var h48) (Ev.bind (Ev.var h43) (Ev.pl hp hz))) Ev.src_lst) (by rw [bU];lia) (fun _=>rfl) (fun k hk r2 ha2 hl2=>⟨Ev.inPl hl2 ((ha2 48 (by decide)).trans h48) ((ha2 53 (by decide)).trans h53) hq hz,fun _=>Ev.var hl2⟩) (by lia))) Ev.pure) (Ev.lift (if_pos (bK (by lia))))
noncomputable abbrev aRp:M Fl:=(((aF 49).bind fun x=>
       (instCk 0 x).bind fun x_1=>
        (aF 53).bind fun y=>
         ((dH [43] ((aO [aF 53]).ne.bind fun l=>(M.lift (fN l)).bind fun l=>M.pure (nxL l)) (bE 43) aJe (aF 43)).ne.bind fun l=>M.pure (MV.lst l)).bind fun l=>(aBr l).ne.bind fun l=>gP Φ_602 (x::y::l) []).bind
     fun x=>M.pure Fl.next)
structure WR (pl:List (List Nat)) (turn:Int) (r:List (Nat×MV)):Prop where
 r48:r.lookup 48=some (plM pl)
 r77:r.lookup 77=some (.int turn)
 r76:r.lookup 76=some (tkM pl)
 r49:r.lookup 49=some (.cell 1)
theorem WR.set {pl:List (List Nat)} {turn:Int} {r:List (Nat×MV)} (h:WR pl turn r) {x:Nat} (v:MV) (hx:x≠48∧x≠77∧x≠76∧x≠49):WR pl turn (aL x v r):=
 ⟨lk h.r48 (Ne.symm hx.1),lk h.r77 (Ne.symm hx.2.1),lk h.r76 (Ne.symm hx.2.2.1),lk h.r49 (Ne.symm hx.2.2.2)⟩
theorem aTy {pl:List (List Nat)} {turn:Int} {σ:St} {q:Nat} (hz:pl.length≤8) (h7:∀ks∈pl,ks.length≤7∧∀k∈ks,k < 7) (V:WR pl turn σ.r) (h53:σ.r.lookup 53=some (.int q)) (hq:q < pl.length) (hL:σ.H.length=3+3 * q) (S:Srt q (fW pl q) (fun j=>((cM pl j).length:Nat)) .none 0 0 σ.H):
  ∃H',aRp σ=some (.ok .next,⟨σ.r,H'⟩)∧H'.length=3+3 * (q+1)∧Srt (q+1) (fW pl (q+1)) (fun j=>((cM pl j).length:Nat)) .none 0 0 H':=by
 have hpl:=aEs pl q
 refine bG (aIx S (by lia) hL (ps:=cM pl q) (fun p hp=>(dF.mp hp).1) (lE pl q) (by lia) fun j=>Nat.le_trans (oU pl q j) (by lia)) fun H' e1 e2 e3=>?_
 refine ⟨H',?_,e2,e3.ext (fun j hj=>(aAs pl q j hj).symm) fun j hj=>?_⟩
 ·have cmp:Ev (dH [43] ((aO [aF 53]).ne.bind fun l=>(M.lift (fN l)).bind fun l=>M.pure (nxL l)) (bE 43) aJe (aF 43)) σ (nI (cM pl q)):=
   Ev.compN (l:=List.range q) (p:=fun p=>dep pl p q) (e:=fun (p:Nat)=> .int (p:Int)) (by decide) (Ev.rng (Ev.cons (Ev.var h53) Ev.nil) (by lia)) (by rw [length_range];lia) (fun _=>rfl) (fun p hp r2 ha2 hl2=>⟨aRo hz h7 ((ha2 48 (by decide)).trans V.r48) hl2 ((ha2 53 (by decide)).trans h53) (by have:=mem_range.mp hp;lia) hq,fun _=>Ev.var hl2⟩) (by rw [length_range];lia)
  have st:Ev (aBr (.lst (nI (cM pl q)))) σ (nI (cM pl q)):=by
   show (if cC (nI (cM pl q)).length then some (R.ok (nI (cM pl q)),σ) else none)=_
   exact if_pos (bK (by rw [bU];lia))
  refine (aA (a:=MV.none) (σ':=⟨σ.r,H'⟩) ?_).trans rfl
  refine (aA (bA V.r49)).trans ?_
  refine (aA (Ev.instCk S.inst S.at0)).trans ?_
  refine (aA (bA h53)).trans ?_
  refine (aA (a:=MV.lst (nI (cM pl q))) (σ':=σ) ((aA (bJ cmp)).trans rfl)).trans ?_
  exact (aA (bJ st)).trans (eX e1)
 ·by_cases e:j=q
  ·rw [if_pos e,e]
  ·rw [if_neg e]
theorem aRq {pl:List (List Nat)} {turn:Int} (hz:pl.length≤8) (h7:∀ks∈pl,ks.length≤7∧∀k∈ks,k < 7) {σ:St} (V:WR pl turn σ.r) (hH:σ.H= [.attrs [(0,.cell 2),(1,.none),(2,.int 0),(3,.int 0)],.inst 0 0,.dict 0 []]):
  ∃σ',iI (fun i _=>some (eF pl.length)[i]?) (bE 53) aRp (pl.length+1) 0 σ=some (.ok .next,σ')∧WR pl turn σ'.r∧σ'.H.length=3+3 * pl.length∧Srt pl.length (fW pl pl.length) (fun j=>((cM pl j).length:Nat)) .none 0 0 σ'.H:=by
 obtain ⟨σ',f1,f2,f3,f4⟩:=eE (nx:=fun i _=>some (eF pl.length)[i]?) (tg:=bE 53) (body:=aRp) (l:=eF pl.length)
  (fun i σ=>WR pl turn σ.r∧σ.H.length=3+3 * i∧Srt i (fW pl i) (fun j=>((cM pl j).length:Nat)) .none 0 0 σ.H) (fun i σ _=>rfl)
  (fun i y σ hP hy=>by
   (refine iC hP fun g1 g2 g3=>?_;try clear hP)
   have hi:=(gS hy).1
   rw [dE] at hi
   have hy':y= .int (i:Int):=by
    unfold eF at hy
    rw [getElem?_map,getElem?_range hi] at hy
    exact (sJ hy).symm
   subst hy'
   refine bG (aTy (σ:=⟨aL 53 (.int i) σ.r,σ.H⟩) hz h7 (g1.set _ (by decide)) lk' hi g2 g3) fun H' e1 e2 e3=>?_
   exact ⟨_,_,.next,rfl,e1,.inl rfl,g1.set _ (by decide),e2,e3⟩)
  (pl.length+1) 0 σ (by rw [dE];lia) (Nat.zero_le _) ⟨V,by rw [hH];rfl,by rw [hH];exact ⟨rfl,rfl,rfl,fun j hj=>absurd hj (Nat.not_lt_zero _),fun j hj=>absurd hj (Nat.not_lt_zero _)⟩⟩
 rw [dE] at f3 f4
 exact ⟨σ',f1,f2,f3,f4⟩
noncomputable abbrev wS1:M Fl:=(((aF 82).bind fun x=>(lstCk x).bind fun x_1=>(aO [(aF 49).bind fun x=>(instCk 0 x).bind fun x_2=>(aO []).bind fun l=>gP Φ_604 (x::l) []]).bind fun l=>lK (x::l)).bind
         fun x=>M.pure Fl.next)
noncomputable abbrev wS2:M Fl:=(((((aO [(aO [aF 82]).bind qO,((aO [aF 48,aF 76,aF 21]).bind fun l=>(aO []).bind fun m=>M.pure (l,m)).bind fun q=>gP Φ_31 q.fst q.snd]).bind fun l=>(aO []).bind fun m=>M.pure (l,m)).bind fun q=>gP Φ_24 q.fst q.snd).bind fun x=>((aO [(aO []).bind fun l=>M.lift (uF l),(aO []).bind fun l=>M.lift (uF l)]).bind fun l=>M.lift (pQ l)).bind fun y=>aGg CmpOp.NotEq x y).bind fun x=>match x with
          | true=>(M.lift (kM Const.none)).bind fun x=>M.pure (Fl.ret x)
          | false=>M.pure Fl.next)
noncomputable abbrev wS3:M Fl:=(((aF 82).bind fun x=>(lstCk x).bind fun x_1=>(aO [((aF 77).bind fun x=>((M.lift (kM (Const.int 3))).bind fun x=>(aF 68).bind fun y=>M.lift (bM Operator.Pow x y)).bind fun y=>M.lift (bM Operator.FloorDiv x y)).bind fun x=>((aO [aF 82]).bind nH).bind fun y=>M.lift (bM Operator.Mod x y)]).bind fun l=>wX (x::l)).bind fun y=>(bE 46 y).bind fun x=>M.pure Fl.next)
noncomputable abbrev wS4:M Fl:=(((aF 49).bind fun x=>(instCk 0 x).bind fun x_1=>(aO [aF 46]).bind fun l=>gP Φ_607 (x::l) []).bind fun x=>M.pure Fl.next)
noncomputable abbrev wS5:M Fl:=(((aF 21).bind fun x=>(lstCk x).bind fun x_1=>(aO [aF 46]).bind fun l=>cQ (x::l)).bind fun x=>M.pure Fl.next)
noncomputable abbrev aJf:M Fl:=bS wS1 (bS wS2 (bS wS3 (bS wS4 wS5)))
structure WS (pl:List (List Nat)) (turn:Int) (g w:Nat) (gone wait rd:List Nat) (np:Nat→Int) (r:List (Nat×MV)) (H:List MO):Prop where
 wr:WR pl turn r
 r21:r.lookup 21=some (.cell g)
 r82:r.lookup 82=some (.cell w)
 wi:WI pl gone wait rd np
 srt:Srt pl.length (fW pl pl.length) np (.cell (3+3 * pl.length)) (gone.length+wait.length:Nat) (gone.length:Nat) H
 hr:H[3+3 * pl.length]?=some (.list (nI rd))
 hg:H[g]?=some (.list (nI gone))
 hw:H[w]?=some (.list (nI wait))
 gr:3+3 * pl.length < g
 gw:g < w
theorem WI.len {pl:List (List Nat)} {gone wait rd:List Nat} {np:Nat→Int} (h:WI pl gone wait rd np):wait.length+rd.length≤pl.length∧gone.length≤pl.length:=by
 have h1:=h.nd.length_le_of_subset (l₂:=List.range pl.length) fun x hx=>mem_range.mpr (dX.mp ((h.perm x).mp hx)).1
 have h2:=h.clo.nd.length_le_of_subset (l₂:=List.range pl.length) fun x hx=>mem_range.mpr (h.clo.lt x hx)
 rw [length_append,length_range] at h1
 rw [length_range] at h2
 exact ⟨h1,h2⟩
section
variable {pl:List (List Nat)} {turn:Int} {g w:Nat} {gone wait rd:List Nat} {np:Nat→Int} {r:List (Nat×MV)} {H:List MO}
theorem WS.s1 (h:WS pl turn g w gone wait rd np r H) (hz:pl.length≤8):∃H',wS1 ⟨r,H⟩=some (.ok .next,⟨r,H'⟩)∧WS pl turn g w gone (wait++rd) [] (fun j=>if j∈rd then -1 else np j) r H':=by
 have hl:=h.wi.len
 have hrd:∀p∈rd,p < pl.length:=fun p hp=>(dX.mp ((h.wi.perm p).mp (mem_append_right _ hp))).1
 refine uA (aAn h.srt (by lia) (Nat.le_refl _) h.hr hrd (by lia)) fun H1 e1 e2 e3 e4=>?_
 have gr:=h.gr
 have gw:=h.gw
 have hw1:H1[w]?=some (.list (nI wait)):=(e4.same w (by lia) (by lia)).trans h.hw
 refine ⟨H1.set w (.list (nI wait++nI rd)),?_,h.wr,h.r21,h.r82,h.wi.ready,?_,aY (by lia) e3,aY (by lia) ((e4.same g (by lia) (by lia)).trans h.hg),by rw [mV];exact iY hw1,gr,gw⟩
 ·refine (aA (a:=MV.none) (σ':=⟨r,H1.set w (.list (nI wait++nI rd))⟩) ?_).trans rfl
  refine (aA (bA (σ:=⟨r,H⟩) h.r82)).trans ?_
  refine (aA (Ev.lstCk (σ:=⟨r,H⟩) h.hw)).trans ?_
  have gr1:((aF 49).bind fun x=>(instCk 0 x).bind fun x_2=>(aO []).bind fun l=>gP Φ_604 (x::l) []) ⟨r,H⟩=some (.ok (.tup (nI rd)),⟨r,H1⟩):=(aA (bA (σ:=⟨r,H⟩) h.wr.r49)).trans ((aA h.srt.ck).trans ((aA Ev.nil).trans (eX e1)))
  refine (aA (a:= [MV.tup (nI rd)]) (σ':=⟨r,H1⟩) ((aA gr1).trans rfl)).trans ?_
  show M.bind (M.pure (nI rd)) (fun l2=>gX (.cell w) fun m l=>if cC (l.length+l2.length) then lW m (l++l2) MV.none else M.fail) _=_
  refine (aA (a:=nI rd) (σ':=⟨r,H1⟩) rfl).trans ?_
  rw [iZ hw1 (by rw [bU];lia),if_pos (bK (by rw [bU,bU];lia))]
  rfl
 ·have:=e2.congr (H':=H1.set w (.list (nI wait++nI rd))) fun i hi=>getElem?_set_ne (by lia)
  rw [length_append]
  have e:((gone.length+wait.length:Nat):Int)+(rd.length:Int)=((gone.length+(wait.length+rd.length):Nat):Int):=by lia
  rw [e] at this
  exact this
theorem WS.move (h:WS pl turn g w gone wait rd np r H) {H':List MO} (hH:∀i,i < H.length→H'[i]?=H[i]?):WS pl turn g w gone wait rd np r H':=by
 have h1:=(gS h.hw).1
 have gr:=h.gr
 have gw:=h.gw
 exact ⟨h.wr,h.r21,h.r82,h.wi,h.srt.congr fun i hi=>hH i (by lia),(hH _ (by lia)).trans h.hr,(hH _ (by lia)).trans h.hg,(hH _ h1).trans h.hw,gr,gw⟩
theorem WS.s2 (h:WS pl turn g w gone wait [] np r H) (hz:pl.length≤8) (h7:∀ks∈pl,ks.length≤7∧∀k∈ks,k < 7):∃H',wS2 ⟨r,H⟩=some (.ok .next,⟨r,H'⟩)∧WS pl turn g w gone wait [] np r H':=by
 have hl:=h.wi.len
 have hlw:=(gS h.hw).1
 have gr:=h.gr
 have gw:=h.gw
 have l1:qO [.cell w] ⟨r,H⟩=some (.ok (.cell H.length),⟨r,H++ [.list (nI wait)]⟩):=by
  show M.bind (cK (.cell w)) (fun l=>M.bind (M.lift (if cC l.length then some () else none)) fun _=>oF (MO.list l)) _=_
  exact (aA (Ev.items h.hw)).trans ((aA (bY (if_pos (bK (by rw [bU];lia))))).trans rfl)
 have hg1:(H++ [MO.list (nI wait)])[g]?=some (.list (nI gone)):=(getElem?_append_left (by lia)).trans h.hg
 have c1:=yH (g:=g) hz h7 hg1 (by lia) h.wi.clo.lt
 have hlen:(H++ [MO.list (nI wait)]).length=H.length+1:=by simp
 rw [hlen,aEk h.wi.clo] at c1
 have hperm:wait.Perm (gT pl gone):=(List.perm_ext_iff_of_nodup (by have:=h.wi.nd;rwa [append_nil] at this) (yA pl gone)).mpr fun x=>by have:=h.wi.perm x;rwa [append_nil] at this
 obtain ⟨H',u1,u2,u3,u4⟩:=aAr (a:=H.length) (b:=H.length+1) (E:=wait) (A:=gT pl gone) (H:=H++ [MO.list (nI wait)]++ [.list (nI (gT pl gone))]) (by lia)
  ((getElem?_append_left (by simp)).trans (gL rfl)) (gL hlen) (by lia) hperm
 refine ⟨H',?_,h.move fun i hi=>(u4 i (by simp;lia) (by lia) (by lia)).trans ((getElem?_append_left (by simp;lia)).trans (getElem?_append_left hi))⟩
 have cv:aGg CmpOp.NotEq (.tup [.cell (H++ [MO.list (nI wait)]++ [MO.list (nI (gT pl gone))]).length,.cell (H.length+1)]) (.tup [.lst [],.lst []]) ⟨r,H'⟩=some (.ok false,⟨r,H'⟩):=by
  show ((frz H' _).bind fun x'=>(frz H' _).bind fun y'=>M.lift (cG .NotEq x' y') _)=_
  have f1:frz H' (.tup [.cell (H++ [MO.list (nI wait)]++ [MO.list (nI (gT pl gone))]).length,.cell (H.length+1)])=some (.tup [.lst [],.lst []]):=vL u2 rfl u3 rfl
  rw [f1]
  rfl
 refine (aA (a:=false) (σ':=⟨r,H'⟩) ?_).trans rfl
 refine (aA (a:=MV.tup [.cell (H++ [MO.list (nI wait)]++ [MO.list (nI (gT pl gone))]).length,.cell (H.length+1)]) (σ':=⟨r,H'⟩) ?_).trans ((aA (a:=MV.tup [.lst [],.lst []]) (σ':=⟨r,H'⟩) rfl).trans cv)
 have a1:((aO [aF 82]).bind qO) ⟨r,H⟩=some (.ok (.cell H.length),⟨r,H++ [.list (nI wait)]⟩):=(aA (Ev.cons (Ev.var h.r82) Ev.nil)).trans l1
 have a2:(((aO [aF 48,aF 76,aF 21]).bind fun l=>(aO []).bind fun m=>M.pure (l,m)).bind fun q=>gP Φ_31 q.fst q.snd) ⟨r,H++ [.list (nI wait)]⟩=some (.ok (.cell (H.length+1)),⟨r,H++ [.list (nI wait)]++ [.list (nI (gT pl gone))]⟩):=
  (aA (a:=([plM pl,tkM pl,.cell g],[])) (Ev.bind (Ev.cons (Ev.var h.wr.r48) (Ev.cons (Ev.var h.wr.r76) (Ev.cons (Ev.var h.r21) Ev.nil))) (Ev.bind (a:= []) Ev.nil (Ev.pure (a:=([plM pl,tkM pl,MV.cell g],([]:List MV))))))).trans (eX c1)
 have a3:(aO [(aO [aF 82]).bind qO,((aO [aF 48,aF 76,aF 21]).bind fun l=>(aO []).bind fun m=>M.pure (l,m)).bind fun q=>gP Φ_31 q.fst q.snd]) ⟨r,H⟩=some (.ok [.cell H.length,.cell (H.length+1)],⟨r,H++ [.list (nI wait)]++ [.list (nI (gT pl gone))]⟩):=
  (aA a1).trans ((aA ((aA a2).trans rfl)).trans rfl)
 exact (aA (a:=([MV.cell H.length,.cell (H.length+1)],[])) ((aA a3).trans rfl)).trans (eX u1)
theorem WS.s3 (h:WS pl turn g w gone wait [] np r H) (hz:pl.length≤8) {t:Nat} (ht:t < 8) (h68:r.lookup 68=some (.int t)) (hne:wait≠ []):
  ∃i p:Nat,wait[i]?=some p∧wS3 ⟨r,H⟩=some (.ok .next,⟨aL 46 (.int p) r,H.set w (.list (nI (wait.eraseIdx i)))⟩):=by
 have hl:=h.wi.len
 have hpos:0 < wait.length:=List.length_pos_iff.mpr hne
 have hm:=gR (turn.fdiv (3 ^ t)) (b:=(wait.length:Int)) (by lia)
 have hi:((turn.fdiv (3 ^ t)).fmod wait.length).toNat < wait.length:=by lia
 refine ⟨((turn.fdiv (3 ^ t)).fmod wait.length).toNat,wait[((turn.fdiv (3 ^ t)).fmod wait.length).toNat],getElem?_eq_getElem hi,?_⟩
 have hp:bM Operator.Pow (.int 3) (.int (t:Int))=some (.int (3 ^ t)):=by
  show ((if (decide ((0:Int)≤t) && decide ((t:Int)≤1000) && small 3)=true then some ((3:Int) ^ (t:Int).toNat) else none):Option Int).map MV.int=_
  rw [if_pos (by rw [decide_eq_true (by lia:(0:Int)≤t),decide_eq_true (by lia:(t:Int)≤1000)];rfl),Int.toNat_natCast];rfl
 have h3:(1:Int)≤3 ^ t∧(3:Int) ^ t≤2187:=by
  have:∀t,t < 8→(1:Int)≤3 ^ t∧(3:Int) ^ t≤2187:=by decide
  exact this t ht
 have hd:bM Operator.FloorDiv (.int turn) (.int (3 ^ t))=some (.int (turn.fdiv (3 ^ t))):=by
  show ((if (decide ((3:Int) ^ t≠0) && small (3 ^ t))=true then some (turn.fdiv (3 ^ t)) else none):Option Int).map MV.int=_
  rw [if_pos (by rw [decide_eq_true (by lia:(3:Int) ^ t≠0),wG (by lia) (by lia)];rfl)];rfl
 have hmod:bM Operator.Mod (.int (turn.fdiv (3 ^ t))) (.int (wait.length:Nat))=some (.int ((turn.fdiv (3 ^ t)).fmod wait.length)):=by
  show ((if decide ((wait.length:Int)≠0)=true then some ((turn.fdiv (3 ^ t)).fmod (wait.length:Nat)) else none):Option Int).map MV.int=_
  rw [if_pos (decide_eq_true (by lia))];rfl
 have ln:Ev ((aO [aF 82]).bind nH) ⟨r,H⟩ (.int (wait.length:Nat)):=by
  rw [←bU wait]
  exact Ev.bind (Ev.cons (Ev.var h.r82) Ev.nil) (Ev.lenC h.hw (by rw [bU];lia))
 refine (aA (a:=MV.int (wait[((turn.fdiv (3 ^ t)).fmod wait.length).toNat]:Nat)) (σ':=⟨r,H.set w (.list (nI (wait.eraseIdx ((turn.fdiv (3 ^ t)).fmod wait.length).toNat)))⟩) ?_).trans rfl
 refine (aA (bA (σ:=⟨r,H⟩) h.r82)).trans ?_
 refine (aA (Ev.lstCk (σ:=⟨r,H⟩) h.hw)).trans ?_
 have x0:Ev ((M.lift (kM (Const.int 3))).bind fun x=>(aF 68).bind fun y=>M.lift (bM Operator.Pow x y)) ⟨r,H⟩ (.int (3 ^ t)):=Ev.bind (Ev.lift rfl) (Ev.bind (Ev.var h68) (Ev.lift hp))
 have x1:Ev ((aF 77).bind fun x=>((M.lift (kM (Const.int 3))).bind fun x=>(aF 68).bind fun y=>M.lift (bM Operator.Pow x y)).bind fun y=>M.lift (bM Operator.FloorDiv x y)) ⟨r,H⟩ (.int (turn.fdiv (3 ^ t))):=Ev.bind (Ev.var h.wr.r77) (Ev.bind x0 (Ev.lift hd))
 have x2:Ev (((aF 77).bind fun x=>((M.lift (kM (Const.int 3))).bind fun x=>(aF 68).bind fun y=>M.lift (bM Operator.Pow x y)).bind fun y=>M.lift (bM Operator.FloorDiv x y)).bind fun x=>((aO [aF 82]).bind nH).bind fun y=>M.lift (bM Operator.Mod x y)) ⟨r,H⟩ (.int ((turn.fdiv (3 ^ t)).fmod wait.length)):=Ev.bind x1 (Ev.bind ln (Ev.lift hmod))
 refine (aA (Ev.cons x2 Ev.nil)).trans ?_
 show gX (.cell w) (fun m l=>if decide (0≤(turn.fdiv (3 ^ t)).fmod wait.length) then (match l[((turn.fdiv (3 ^ t)).fmod wait.length).toNat]? with
  | some y=>lW m (l.eraseIdx ((turn.fdiv (3 ^ t)).fmod wait.length).toNat) y
  | none=>M.fail) else M.fail) _=_
 rw [iZ h.hw (by rw [bU];lia),if_pos (decide_eq_true hm.1)]
 simp only [aAm (getElem?_eq_getElem hi)]
 show some (R.ok _,(⟨r,H.set w (.list ((nI wait).eraseIdx _))⟩:St))=_
 rw [show nI wait=wait.map fun (j:Nat)=>MV.int (j:Int) from rfl,jE];rfl
theorem WS.s45 (h:WS pl turn g w gone wait [] np r H) (hz:pl.length≤8) {i p:Nat} (hi:wait[i]?=some p):∃H',(bS wS4 wS5) ⟨aL 46 (.int p) r,H.set w (.list (nI (wait.eraseIdx i)))⟩=some (.ok .next,⟨aL 46 (.int p) r,H'⟩)∧
  ∃wait' rd' np',WS pl turn g w (gone++ [p]) wait' rd' np' (aL 46 (.int p) r) H':=by
 refine iC (h.wi.done hi) fun hp hnp W'=>?_
 have hl:=h.wi.len
 have gr:=h.gr
 have gw:=h.gw
 have hil:=(gS hi).1
 have S1:=h.srt.congr (H':=H.set w (.list (nI (wait.eraseIdx i)))) fun j hj=>getElem?_set_ne (by lia)
 have sl:=oU pl pl.length p
 refine uA (aEo S1 (by lia) (Nat.le_refl _) (aY (by lia) h.hr) hp hnp (fun s hs=>⟨(eR.mp hs).1,fun e=>by have:=(dF.mp (eR.mp hs).2).1;lia⟩) (pO ..) (by rw [List.length_nil];lia)) fun H' e1 e2 e3 e4=>?_
 have hg1:H'[g]?=some (.list (nI gone)):=(e4.same g (by lia) (by lia)).trans (aY (by lia) h.hg)
 have hw1:H'[w]?=some (.list (nI (wait.eraseIdx i))):=(e4.same w (by lia) (by lia)).trans (iY h.hw)
 refine ⟨H'.set g (.list (nI gone++ [.int p])),?_,_,_,_,h.wr.set _ (by decide),lk h.r21 (by decide),lk h.r82 (by decide),W',?_,aY (by lia) e3,by rw [mV];exact iY hg1,aY (by lia) hw1,gr,gw⟩
 ·refine (aG (σ':=⟨aL 46 (.int p) r,H'⟩) ?_).trans (gU (Ev.var (lk h.r21 (by decide))) (Ev.var lk') hg1 (by rw [bU];lia))
  refine (aA (a:=MV.none) (σ':=⟨aL 46 (.int p) r,H'⟩) ?_).trans rfl
  refine (aA (bA (σ:=⟨aL 46 (.int p) r,H.set w (.list (nI (wait.eraseIdx i)))⟩) (lk h.wr.r49 (by decide)))).trans ?_
  refine (aA S1.ck).trans ?_
  exact (aA (Ev.cons (Ev.var lk') Ev.nil)).trans (eX e1)
 ·have:=e2.congr (H':=H'.set g (.list (nI gone++ [.int p]))) fun j hj=>getElem?_set_ne (by lia)
  rw [length_append,List.length_eraseIdx_of_lt hil]
  simp only [length_singleton]
  have e:gone.length+1+(wait.length - 1)=gone.length+wait.length:=by lia
  rw [e]
  exact this
theorem aRr (h:WS pl turn g w gone wait rd np r H) (hz:pl.length≤8) (h7:∀ks∈pl,ks.length≤7∧∀k∈ks,k < 7) (ht:gone.length < pl.length) (h68:r.lookup 68=some (.int gone.length)):
  ∃p r' H' wait' rd' np',aJf ⟨r,H⟩=some (.ok .next,⟨r',H'⟩)∧WS pl turn g w (gone++ [p]) wait' rd' np' r' H':=by
 refine aJ (h.s1 hz) fun H1 e1 W1=>?_
 refine aJ (W1.s2 hz h7) fun H2 e2 W2=>?_
 have hne:wait++rd≠ []:=fun e=>by
  refine aIp h.wi.clo ht (List.eq_nil_iff_forall_not_mem.mpr fun x hx=>?_)
  have:=(h.wi.perm x).mpr hx
  rw [e] at this;cases this
 refine cJ (W2.s3 hz (by lia) h68 hne) fun i p hi e3=>?_
 refine aKe (W2.s45 hz hi) fun H4 e4 wait' rd' np' W4=>?_
 exact ⟨p,_,H4,wait',rd',np',(aG e1).trans ((aG e2).trans ((aG e3).trans e4)),W4⟩
end
theorem WS.set68 {pl:List (List Nat)} {turn:Int} {g w:Nat} {gone wait rd:List Nat} {np:Nat→Int} {r:List (Nat×MV)} {H:List MO} (h:WS pl turn g w gone wait rd np r H) (v:MV):WS pl turn g w gone wait rd np (aL 68 v r) H:=
 ⟨h.wr.set v (by decide),lk h.r21 (by decide),lk h.r82 (by decide),h.wi,h.srt,h.hr,h.hg,h.hw,h.gr,h.gw⟩
theorem aRs {pl:List (List Nat)} {turn:Int} {g w:Nat} (hz:pl.length≤8) (h7:∀ks∈pl,ks.length≤7∧∀k∈ks,k < 7) {rd:List Nat} {np:Nat→Int} {σ:St} (W:WS pl turn g w [] [] rd np σ.r σ.H):
  ∃σ' gone wait rd np,iI (fun i _=>some (eF pl.length)[i]?) (bE 68) aJf (pl.length+1) 0 σ=some (.ok .next,σ')∧gone.length=pl.length∧WS pl turn g w gone wait rd np σ'.r σ'.H:=by
 obtain ⟨σ',f1,gone,wait,rd',np',f2,f3⟩:=eE (nx:=fun i _=>some (eF pl.length)[i]?) (tg:=bE 68) (body:=aJf) (l:=eF pl.length)
  (fun i σ=>∃gone wait rd np,gone.length=i∧WS pl turn g w gone wait rd np σ.r σ.H) (fun i σ _=>rfl)
  (fun i y σ hP hy=>by
   (refine aBc hP fun gone wait rd np hi W=>?_;try clear hP)
   have hil:=(gS hy).1
   rw [dE] at hil
   have hy':y= .int (i:Int):=by
    unfold eF at hy
    rw [getElem?_map,getElem?_range hil] at hy
    exact (sJ hy).symm
   subst hy' hi
   refine jG (aRr (W.set68 (.int gone.length)) hz h7 hil lk') fun p r' H' wait' rd' np' e1 W'=>?_
   exact ⟨_,_,.next,rfl,e1,.inl rfl,gone++ [p],wait',rd',np',by simp,W'⟩)
  (pl.length+1) 0 σ (by rw [dE];lia) (Nat.zero_le _) ⟨[],[],rd,np,rfl,W⟩
 rw [dE] at f2
 exact ⟨σ',gone,wait,rd',np',f1,f2,f3⟩
theorem tU {pl:List (List Nat)} (turn:Int) (hz:pl.length≤8) (h7:∀ks∈pl,ks.length≤7∧∀k∈ks,k < 7):∃gone,Φ_32 [plM pl,.int turn] []=some (.lst (nI gone))∧Clo pl gone∧gone.length=pl.length:=by
 (refine uA (aRq (turn:=turn) (σ:=⟨[(48,plM pl),(77,.int turn),(76,tkM pl),(49,.cell 1)],[.attrs [(0,.cell 2),(1,.none),(2,.int 0),(3,.int 0)],.inst 0 0,.dict 0 []]⟩) hz h7 ⟨rfl,rfl,rfl,rfl⟩ rfl) fun t_2 f1 V1 L1 S1=>?_;obtain ⟨r1,H1⟩:=t_2)
 refine bG (vQ S1 L1 hz fun j hj=>⟨fun s hs=>⟨(dF.mp (eR.mp hs).2).1,(eR.mp hs).1⟩,oU ..⟩) fun H2 e2 S2 R2=>?_
 have hRl:=(gS R2).1
 have g0:(H2++ [MO.list []]++ [MO.list []])[H2.length]?=some (.list []):=(getElem?_append_left (by simp)).trans (gL rfl)
 have w0:(H2++ [MO.list []]++ [MO.list []])[H2.length+1]?=some (.list []):=gL (by simp)
 have old:∀i,i < H2.length→(H2++ [MO.list []]++ [MO.list []])[i]?=H2[i]?:=fun i hi=>(getElem?_append_left (by simp;lia)).trans (getElem?_append_left hi)
 have V1':WR pl turn r1:=V1
 have W0:WS pl turn H2.length (H2.length+1) [] [] ((List.range pl.length).filter fun j=>((cM pl j).length:Int)==0) (fun j=>(cM pl j).length) (aL 21 (.cell H2.length) (aL 82 (.cell (H2.length+1)) r1)) (H2++ [MO.list []]++ [MO.list []]):=
  ⟨(V1'.set _ (by decide)).set _ (by decide),lk',lk lk' (by decide),WI.init pl,S2.congr fun i hi=>old i (by lia),(old _ hRl).trans R2,g0,w0,hRl,Nat.lt_succ_self _⟩
 refine aDe (aRs (σ:=⟨aL 21 (.cell H2.length) (aL 82 (.cell (H2.length+1)) r1),H2++ [MO.list []]++ [MO.list []]⟩) hz h7 W0) fun σ' gone wait rd np f3 hgl W=>?_
 have hcl:=W.wi.clo
 have hno:∀x,x∉wait++rd:=fun x hx=>by
  refine iC (dX.mp ((W.wi.perm x).mp hx)) fun h1 h2 _=>?_
  exact h2 (yB hcl hgl x h1)
 have hwr:wait++rd= []:=List.eq_nil_iff_forall_not_mem.mpr hno
 obtain ⟨rfl,rfl⟩:=List.append_eq_nil_iff.mp hwr
 have act:=yD W.srt W.hr (by simp) (by simp)
 refine ⟨gone,?_,hcl,hgl⟩
 show eJ aHx.1 [48,77] [plM pl,.int turn]=_
 have e:aHx.1 ⟨[48,77].zip [plM pl,.int turn],[]⟩=some (.ok (.ret (.cell H2.length)),σ'):=by
  simp only [aHx]
  have tk:bV Φ_30 [plM pl] []=some (tkM pl):=by
   unfold bV
   rw [if_pos]
   ·exact vS hz fun ks h=>(h7 ks h).1
   ·rw [Bool.and_eq_true]
    refine ⟨cU fun x hx=>?_,rfl⟩
    rw [mS hx]
    unfold plM
    refine cU fun y hy=>?_
    (refine aJ (mem_map.mp hy) fun ks _ e_1=>?_;obtain rfl:=e_1)
    exact rU ks
  have s1:(aO [nL (fun d=>MO.inst 0 d) Φ_600 [],((aO [aF 48]).bind fun l=>(aO []).bind fun m=>M.pure (l,m)).bind fun q=>M.lift (bV Φ_30 q.fst q.snd)]) ⟨[(48,plM pl),(77,.int turn)],[]⟩=some (.ok [.cell 1,tkM pl],⟨[(48,plM pl),(77,.int turn)],[.attrs [(0,.cell 2),(1,.none),(2,.int 0),(3,.int 0)],.inst 0 0,.dict 0 []]⟩):=
   (aA yG).trans ((aA ((aA (Ev.call (Ev.cons (Ev.var rfl) Ev.nil) Ev.nil tk)).trans rfl)).trans rfl)
  refine (aG (σ':=⟨[(48,plM pl),(77,.int turn),(76,tkM pl),(49,.cell 1)],[.attrs [(0,.cell 2),(1,.none),(2,.int 0),(3,.int 0)],.inst 0 0,.dict 0 []]⟩) ((aA (bJ ((aA s1).trans (bY rfl)))).trans rfl)).trans ?_
  have rg:∀{r:List (Nat×MV)} {H:List MO},r.lookup 48=some (plM pl)→Ev (M.bind (M.ne (aO [(aO [aF 48]).bind nH])) fun l=>M.bind (M.lift (fN l)) fun l=>M.pure (nxL l)) ⟨r,H⟩ (pl.length+1,fun i _=>some (eF pl.length)[i]?):=fun h=>Ev.rng (Ev.lenPl h hz) (by lia)
  refine (aG (σ':=⟨r1,H1⟩) ((aA (bJ (rg rfl))).trans f1)).trans ?_
  refine (aG (σ':=⟨r1,H2⟩) ?_).trans ?_
  ·refine (aA (a:=MV.none) (σ':=⟨r1,H2⟩) ?_).trans rfl
   exact (aA (bA (σ:=⟨r1,H1⟩) V1'.r49)).trans ((aA S1.ck).trans ((aA Ev.nil).trans (eX e2)))
  have s4:((aO [(aO []).bind fun l=>(M.lift (if cC l.length=true then some () else none)).bind fun x=>oF (MO.list l),(aO []).bind fun l=>(M.lift (if cC l.length=true then some () else none)).bind fun x=>oF (MO.list l)])) ⟨r1,H2⟩=some (.ok [.cell H2.length,.cell (H2.length+1)],⟨r1,H2++ [MO.list []]++ [MO.list []]⟩):=by
   have n1:((aO []).bind fun l=>(M.lift (if cC l.length=true then some () else none)).bind fun x=>oF (MO.list l)) ⟨r1,H2⟩=some (.ok (.cell H2.length),⟨r1,H2++ [MO.list []]⟩):=lQ (y:= .list []) rfl
   have n2:((aO []).bind fun l=>(M.lift (if cC l.length=true then some () else none)).bind fun x=>oF (MO.list l)) ⟨r1,H2++ [MO.list []]⟩=some (.ok (.cell (H2.length+1)),⟨r1,H2++ [MO.list []]++ [MO.list []]⟩):=lQ (y:= .list []) (by simp)
   exact (aA n1).trans ((aA ((aA n2).trans rfl)).trans rfl)
  refine (aG (σ':=⟨aL 21 (.cell H2.length) (aL 82 (.cell (H2.length+1)) r1),H2++ [MO.list []]++ [MO.list []]⟩) ((aA (bJ ((aA s4).trans (bY rfl)))).trans rfl)).trans ?_
  refine (aG (σ':=σ') ((aA (bJ (rg W0.wr.r48))).trans f3)).trans ?_
  refine aA (a:=MV.cell H2.length) (σ':=σ') ?_
  refine (aA (a:=false) (σ':=σ') ?_).trans (bA W.r21)
  refine (aA (a:=MV.bool false) (σ':=σ') ?_).trans rfl
  exact (aA (bA W.wr.r49)).trans ((aA W.srt.ck).trans ((aA Ev.nil).trans (eX act)))
 unfold eJ uK
 rw [e]
 exact lN W.hg (rU gone)
noncomputable abbrev rV:M Fl:=((aF 23).bind fun a=>(M.lift (kM (Const.int 1))).bind fun b=>(M.lift (sC Operator.Add a b)).bind fun c=>(bE 23 c).bind fun x=>M.pure Fl.next)
noncomputable abbrev iR:M Fl:=((aF 26).bind fun a=>(M.lift (kM (Const.int 1))).bind fun b=>(M.lift (sC Operator.Add a b)).bind fun c=>(bE 26 c).bind fun x=>M.pure Fl.next)
noncomputable abbrev yI:M Bool:=(((aF 16).bind fun x=>(aF 23).bind fun y=>cA x y).bind fun x=>(aF 14).bind fun y=>M.lift (cG CmpOp.Eq x y))
noncomputable abbrev aJg:M Bool:=(((aF 1).bind fun x=>(aF 26).bind fun y=>cA x y).bind fun x=>(aF 0).bind fun y=>M.lift (cG CmpOp.Eq x y))
noncomputable abbrev aJh:M Bool:=(((aF 1).bind fun x=>(aF 26).bind fun y=>fun σ=>oL x fun l=>oI y fun i=>M.liftR (idxL l i) σ).bind fun x=>(aF 0).bind fun y=>M.lift (cG CmpOp.Eq x y))
noncomputable abbrev dIn:M Fl:=(bS (((aF 16).bind fun x=>(aF 23).bind fun y=>cA x y).bind fun y=>(bE 14 y).bind fun x=>M.pure Fl.next) (bS (((aF 1).bind fun x=>(aF 26).bind fun y=>cA x y).bind fun y=>(bE 0 y).bind fun x=>M.pure Fl.next) (((aF 14).bind fun x=>(aF 0).bind fun y=>M.lift (cG CmpOp.Lt x y)).bind fun x=>match x with
             | true=>bS (((aF 30).bind fun x=>(lstCk x).bind fun x_1=>(aO [aF 14]).bind fun l=>cQ (x::l)).bind fun x=>M.pure Fl.next) (bS rV (bW yI rV (M.pure Fl.next) 1000))
             | false=>((aF 14).bind fun x=>(aF 0).bind fun y=>M.lift (cG CmpOp.Gt x y)).bind fun x=>match x with
               | true=>bS (((aF 78).bind fun x=>(lstCk x).bind fun x_1=>(aO [aF 0]).bind fun l=>cQ (x::l)).bind fun x=>M.pure Fl.next) (bS iR (bW aJg iR (M.pure Fl.next) 1000))
               | false=>bS rV (zN (bW yI rV (M.pure Fl.next) 1000) (bS iR (bW aJg iR (M.pure Fl.next) 1000)) (bS iR (bW aJh iR (M.pure Fl.next) 1000))))))
noncomputable abbrev tV:M Fl:=mR 0 dIn (bS (((aF 30).bind fun x=>(lstCk x).bind fun x_1=>(aO [(aF 16).bind fun x=>(aF 23).bind fun y=>M.lift (kW x y)]).bind fun l=>lK (x::l)).bind fun x=>M.pure Fl.next) (bS (((aF 78).bind fun x=>(lstCk x).bind fun x_1=>(aO [(aF 1).bind fun x=>(aF 26).bind fun y=>M.lift (kW x y)]).bind fun l=>lK (x::l)).bind fun x=>M.pure Fl.next) (M.pure Fl.brk)))
noncomputable def pr (a:Nat) (x:Int):MV:= .tup [.int a,.int x]
structure DV (E A:List MV) (i j:Nat) (r:List (Nat×MV)):Prop where
 r16:r.lookup 16=some (.lst E)
 r1:r.lookup 1=some (.lst A)
 r23:r.lookup 23=some (.int i)
 r26:r.lookup 26=some (.int j)
 r30:r.lookup 30=some (.cell 0)
 r78:r.lookup 78=some (.cell 1)
section
variable {E A:List MV} {i j:Nat} {r:List (Nat×MV)} {m u:List MV} {a b:Nat} {x y x' y':Int}
theorem DV.set (h:DV E A i j r) {k:Nat} (v:MV) (hk:k≠16∧k≠1∧k≠23∧k≠26∧k≠30∧k≠78):DV E A i j (aL k v r):=
 ⟨lk h.r16 (Ne.symm hk.1),lk h.r1 (Ne.symm hk.2.1),lk h.r23 (Ne.symm hk.2.2.1),lk h.r26 (Ne.symm hk.2.2.2.1),lk h.r30 (Ne.symm hk.2.2.2.2.1),lk h.r78 (Ne.symm hk.2.2.2.2.2)⟩
theorem DV.inc (h:DV E A i j r):DV E A (i+1) j (aL 23 (.int (i+1:Nat)) r):=⟨lk h.r16 (by decide),lk h.r1 (by decide),lk',lk h.r26 (by decide),lk h.r30 (by decide),lk h.r78 (by decide)⟩
theorem DV.inc' (h:DV E A i j r):DV E A i (j+1) (aL 26 (.int (j+1:Nat)) r):=⟨lk h.r16 (by decide),lk h.r1 (by decide),lk h.r23 (by decide),lk',lk h.r30 (by decide),lk h.r78 (by decide)⟩
theorem oV (h:DV E A i j r) {H:List MO}:rV ⟨r,H⟩=some (.ok .next,⟨aL 23 (.int (i+1:Nat)) r,H⟩):=(aA (bA h.r23)).trans rfl
theorem oW (h:DV E A i j r) {H:List MO}:iR ⟨r,H⟩=some (.ok .next,⟨aL 26 (.int (j+1:Nat)) r,H⟩):=(aA (bA h.r26)).trans rfl
theorem aQd:cG .Eq (pr a x) (pr b y)=some (((a:Int)==(b:Int)) && ((x==y) && true)):=rfl
theorem vV (h:DV E A i j r) (hi:i≤1000) (hj:j≤1000) (he:E[i]?=some (pr a x)) (ha:A[j]?=some (pr b y)) {H:List MO} {f:M Fl}:
  (bS (((aF 16).bind fun x=>(aF 23).bind fun y=>cA x y).bind fun y=>(bE 14 y).bind fun x=>M.pure Fl.next)
   (bS (((aF 1).bind fun x=>(aF 26).bind fun y=>cA x y).bind fun y=>(bE 0 y).bind fun x=>M.pure Fl.next) f)) ⟨r,H⟩=f ⟨aL 0 (pr b y) (aL 14 (pr a x) r),H⟩:=
 (aG (σ':=⟨aL 14 (pr a x) r,H⟩) ((aA (show Ev _ _ _ from Ev.bind (Ev.var h.r16) (Ev.bind (Ev.var h.r23) (Ev.idxL he hi)))).trans rfl)).trans
  (aG (σ':=⟨aL 0 (pr b y) (aL 14 (pr a x) r),H⟩) ((aA (show Ev _ _ _ from Ev.bind (Ev.var (lk h.r1 (by decide))) (Ev.bind (Ev.var (lk h.r26 (by decide))) (Ev.idxL ha hj)))).trans rfl))
theorem vW {k:Nat} {f g:M Fl} {σ σ':St} {fl:Fl} (h:f σ=some (.ok fl,σ')):mR k f g σ=some (.ok fl,σ'):=by unfold mR;rw [h]
theorem aCp:(((a+1:Nat):Int)==(a:Int) && ((x'==x) && true))=false:=by
 have:(((a+1:Nat):Int)==(a:Int))=false:=by rw [beq_eq_false_iff_ne];lia
 rw [this];rfl
theorem t16 (h:DV E A (i+1) j r) (h14:r.lookup 14=some (pr a x)) (hi:i+1≤1000) (he:E[i+1]?=some (pr (a+1) x')) {H:List MO}:Ev yI ⟨r,H⟩ false:=
 Ev.bind (Ev.bind (Ev.var h.r16) (Ev.bind (Ev.var h.r23) (Ev.idxL he hi))) (Ev.bind (Ev.var h14) (Ev.lift (by rw [aQd,aCp])))
theorem t1 (h:DV E A i (j+1) r) (h0:r.lookup 0=some (pr b y)) (hj:j+1≤1000) (ha:A[j+1]?=some (pr (b+1) y')) {H:List MO}:Ev aJg ⟨r,H⟩ false:=
 Ev.bind (Ev.bind (Ev.var h.r1) (Ev.bind (Ev.var h.r26) (Ev.idxL ha hj))) (Ev.bind (Ev.var h0) (Ev.lift (by rw [aQd,aCp])))
theorem aTz (h:DV E A i j r) (hi:i < 1000) (hj:j≤1000) (he:E[i]?=some (pr a x)) (ha:A[j]?=some (pr b y)) (hn:E[i+1]?=some (pr (a+1) x')) (hlt:cG .Lt (pr a x) (pr b y)=some true) (hm:m.length≤1000):
  ∃r',tV ⟨r,[.list m,.list u]⟩=some (.ok .next,⟨r',[.list (m++ [pr a x]),.list u]⟩)∧DV E A (i+1) j r':=by
 have h2:=(h.set (k:=14) (pr a x) (by decide)).set (k:=0) (pr b y) (by decide)
 refine ⟨aL 23 (.int (i+1:Nat)) (aL 0 (pr b y) (aL 14 (pr a x) r)),vW ((vV h (by lia) hj he ha).trans ?_),h2.inc⟩
 refine (aA (show Ev _ _ true from Ev.bind (Ev.var (lk lk' (by decide))) (Ev.bind (Ev.var lk') (Ev.lift hlt)))).trans ?_
 refine (aG (gU (m:=0) (Ev.var h2.r30) (Ev.var (lk lk' (by decide))) rfl hm)).trans ?_
 exact (aG (oV h2)).trans (gH (t16 h2.inc (lk (lk lk' (by decide)) (by decide)) (by lia) hn))
theorem aUa (h:DV E A i j r) (hi:i≤1000) (hj:j < 1000) (he:E[i]?=some (pr a x)) (ha:A[j]?=some (pr b y)) (hn:A[j+1]?=some (pr (b+1) y')) (hlt:cG .Lt (pr a x) (pr b y)=some false) (hgt:cG .Gt (pr a x) (pr b y)=some true) (hu:u.length≤1000):
  ∃r',tV ⟨r,[.list m,.list u]⟩=some (.ok .next,⟨r',[.list m,.list (u++ [pr b y])]⟩)∧DV E A i (j+1) r':=by
 have h2:=(h.set (k:=14) (pr a x) (by decide)).set (k:=0) (pr b y) (by decide)
 refine ⟨aL 26 (.int (j+1:Nat)) (aL 0 (pr b y) (aL 14 (pr a x) r)),vW ((vV h hi (by lia) he ha).trans ?_),h2.inc'⟩
 refine (aA (show Ev _ _ false from Ev.bind (Ev.var (lk lk' (by decide))) (Ev.bind (Ev.var lk') (Ev.lift hlt)))).trans ?_
 refine (aA (show Ev _ _ true from Ev.bind (Ev.var (lk lk' (by decide))) (Ev.bind (Ev.var lk') (Ev.lift hgt)))).trans ?_
 refine (aG (gU (m:=1) (Ev.var h2.r78) (Ev.var lk') rfl hu)).trans ?_
 exact (aG (oW h2)).trans (gH (t1 h2.inc' (lk lk' (by decide)) (by lia) hn))
theorem aCq:cG .Lt (pr a x) (pr a x)=some false:=by
 show some (if (a:Int)=a then decide (x < x) else decide ((a:Int) < a))=_
 rw [if_pos rfl,decide_eq_false (Int.lt_irrefl x)]
theorem aCr:cG .Gt (pr a x) (pr a x)=some false:=by
 show some (if (a:Int)=a then decide (x < x) else decide ((a:Int) < a))=_
 rw [if_pos rfl,decide_eq_false (Int.lt_irrefl x)]
theorem aUs (h:DV E A i j r) (hi:i < 1000) (hj:j < 1000) (he:E[i]?=some (pr a x)) (ha:A[j]?=some (pr a x)) (hn:E[i+1]?=some (pr (a+1) x')) (hn':A[j+1]?=some (pr (a+1) y')) {H:List MO}:
  ∃r',tV ⟨r,H⟩=some (.ok .next,⟨r',H⟩)∧DV E A (i+1) (j+1) r':=by
 have h2:=(h.set (k:=14) (pr a x) (by decide)).set (k:=0) (pr a x) (by decide)
 refine ⟨aL 26 (.int (j+1:Nat)) (aL 23 (.int (i+1:Nat)) (aL 0 (pr a x) (aL 14 (pr a x) r))),vW ((vV h (by lia) (by lia) he ha).trans ?_),h2.inc.inc'⟩
 refine (aA (show Ev _ _ false from Ev.bind (Ev.var (lk lk' (by decide))) (Ev.bind (Ev.var lk') (Ev.lift aCq)))).trans ?_
 refine (aA (show Ev _ _ false from Ev.bind (Ev.var (lk lk' (by decide))) (Ev.bind (Ev.var lk') (Ev.lift aCr)))).trans ?_
 refine (aG (oV h2)).trans ?_
 have w1:bW yI rV (M.pure Fl.next) 1000 ⟨aL 23 (.int (i+1:Nat)) (aL 0 (pr a x) (aL 14 (pr a x) r)),H⟩=some (.ok .next,⟨aL 23 (.int (i+1:Nat)) (aL 0 (pr a x) (aL 14 (pr a x) r)),H⟩):=gH (t16 h2.inc (lk (lk lk' (by decide)) (by decide)) (by lia) hn)
 have w2:(bS iR (bW aJg iR (M.pure Fl.next) 1000)) ⟨aL 23 (.int (i+1:Nat)) (aL 0 (pr a x) (aL 14 (pr a x) r)),H⟩=some (.ok .next,⟨aL 26 (.int (j+1:Nat)) (aL 23 (.int (i+1:Nat)) (aL 0 (pr a x) (aL 14 (pr a x) r))),H⟩):=
  (aG (oW h2.inc)).trans (gH (t1 h2.inc.inc' (lk (lk lk' (by decide)) (by decide)) (by lia) hn'))
 unfold zN
 rw [w1]
 show qW (bS iR (bW aJg iR (M.pure Fl.next) 1000) _) _ _=_
 rw [w2];rfl
theorem aJi {α:Type} {l:List α} {i:Nat} {x:α} (h:l[i]?=some x):l.set i x=l:=by
 have:=(gS h).2
 rw [←this,List.set_getElem_self]
theorem rW {t:M Bool} {f g:M Fl} {k e:Nat} {σ σ':St} (h:t σ=some (.exc e,σ')):bW t f g (k+1) σ=some (.exc e,σ'):=nP h
theorem aCs {l:List MV} {k:Nat} (h:l[k]?=none) (hk:k≤1000):idxL l (k:Int)=some (.exc 0):=by
 unfold idxL
 rw [if_pos (fM.mpr (by lia)),if_pos (decide_eq_true (by lia)),Int.toNat_natCast,h]
theorem aJj {l:List MV} {k:Nat} {σ:St} (h:l[k]?=none) (hk:k≤1000):cA (.lst l) (.int (k:Nat)) σ=some (.exc 0,σ):=by
 have e:=aCs h hk
 refine rP.trans ?_
 rw [e];rfl
theorem aEt {l:List MV} {k:Nat} {σ:St} (h:l[k]?=none) (hk:k≤1000):oL (.lst l) (fun l=>oI (.int (k:Nat)) fun i=>M.liftR (idxL l i) σ)=some (.exc 0,σ):=by
 refine aTw.trans (aTv.trans ?_)
 rw [aCs h hk];rfl
theorem aCt {l:List MV} {k n z:Nat} {H:List MO} {v:Nat} (hl:H[v]?=some (.list l)) (hlz:l.length≤1000) {L:List MV} (hz:r.lookup z=some (.lst L)) (hk:r.lookup k=some (.int (L.length:Nat))) (hn:r.lookup n=some (.cell v)) (hL:L.length≤1000):
  (((aF n).bind fun x=>(lstCk x).bind fun x_1=>(aO [(aF z).bind fun x=>(aF k).bind fun y=>M.lift (kW x y)]).bind fun l=>lK (x::l)).bind fun x=>M.pure Fl.next) ⟨r,H⟩=some (.ok .next,⟨r,H⟩):=by
 have d:kW (.lst L) (.int (L.length:Nat))=some (.lst []):=by
  show (if (decide ((0:Int)≤(L.length:Nat)) && cC L.length)=true then some (MV.lst (L.drop ((L.length:Nat):Int).toNat)) else none)=_
  rw [if_pos (by rw [Bool.and_eq_true];exact ⟨decide_eq_true (by lia),bK (by lia)⟩),Int.toNat_natCast,List.drop_length]
 refine (aA (a:=MV.none) (σ':=⟨r,H⟩) ?_).trans rfl
 refine (aA (bA (σ:=⟨r,H⟩) hn)).trans ?_
 refine (aA (Ev.lstCk (σ:=⟨r,H⟩) hl)).trans ?_
 refine (aA (a:= [MV.lst []]) (σ':=⟨r,H⟩) (Ev.cons (Ev.bind (Ev.var hz) (Ev.bind (Ev.var hk) (Ev.lift d))) Ev.nil)).trans ?_
 show M.bind (cK (.lst [])) (fun l2=>gX (.cell v) fun m l=>if cC (l.length+l2.length) then lW m (l++l2) MV.none else M.fail) _=_
 refine (aA (a:= []) (σ':=⟨r,H⟩) rfl).trans ?_
 rw [iZ hl hlz,if_pos (bK (by rw [List.length_nil];lia)),append_nil]
 show some (R.ok MV.none,(⟨r,H.set v (.list l)⟩:St))=_
 rw [aJi hl]
theorem aUb (h:DV E A i j r) (hi:i < 1000) (hj:j < 1000) (he:E[i]?=some (pr a x)) (ha:A[j]?=some (pr a x)) (hn:E.length=i+1) (hn':A.length=j+1) (hm:m.length≤1000) (hu:u.length≤1000):
  ∃r',tV ⟨r,[.list m,.list u]⟩=some (.ok .brk,⟨r',[.list m,.list u]⟩)∧DV E A (i+1) (j+1) r':=by
 have h2:=(h.set (k:=14) (pr a x) (by decide)).set (k:=0) (pr a x) (by decide)
 have h3:=h2.inc.inc'
 refine ⟨aL 26 (.int (j+1:Nat)) (aL 23 (.int (i+1:Nat)) (aL 0 (pr a x) (aL 14 (pr a x) r))),?_,h3⟩
 have w1:bW yI rV (M.pure Fl.next) 1000 ⟨aL 23 (.int (i+1:Nat)) (aL 0 (pr a x) (aL 14 (pr a x) r)),[.list m,.list u]⟩=some (.exc 0,⟨aL 23 (.int (i+1:Nat)) (aL 0 (pr a x) (aL 14 (pr a x) r)),[.list m,.list u]⟩):=by
  refine rW (k:=999) ?_
  refine nP ?_
  refine (aA (bA h2.inc.r16)).trans ?_
  exact (aA (bA h2.inc.r23)).trans (aJj (getElem?_eq_none (by lia)) (by lia))
 have w2:(bS iR (bW aJh iR (M.pure Fl.next) 1000)) ⟨aL 23 (.int (i+1:Nat)) (aL 0 (pr a x) (aL 14 (pr a x) r)),[.list m,.list u]⟩=some (.exc 0,⟨aL 26 (.int (j+1:Nat)) (aL 23 (.int (i+1:Nat)) (aL 0 (pr a x) (aL 14 (pr a x) r))),[.list m,.list u]⟩):=by
  refine (aG (oW h2.inc)).trans ?_
  refine rW (k:=999) ?_
  refine nP ?_
  refine (aA (bA h3.r1)).trans ?_
  refine (aA (bA h3.r26)).trans ?_
  exact aEt (getElem?_eq_none (by lia)) (by lia)
 have e1:dIn ⟨r,[.list m,.list u]⟩=some (.exc 2,⟨aL 26 (.int (j+1:Nat)) (aL 23 (.int (i+1:Nat)) (aL 0 (pr a x) (aL 14 (pr a x) r))),[.list m,.list u]⟩):=by
  refine (vV h (by lia) (by lia) he ha).trans ?_
  refine (aA (show Ev _ _ false from Ev.bind (Ev.var (lk lk' (by decide))) (Ev.bind (Ev.var lk') (Ev.lift aCq)))).trans ?_
  refine (aA (show Ev _ _ false from Ev.bind (Ev.var (lk lk' (by decide))) (Ev.bind (Ev.var lk') (Ev.lift aCr)))).trans ?_
  refine (aG (oV h2)).trans ?_
  unfold zN
  rw [w1]
  show qW (bS iR (bW aJh iR (M.pure Fl.next) 1000) _) _ _=_
  rw [w2];rfl
 unfold tV mR
 rw [e1]
 have x1:=aCt (l:=m) (k:=23) (n:=30) (z:=16) (v:=0) (H:= [.list m,.list u]) rfl hm h3.r16 (by rw [hn];exact h3.r23) h3.r30 (by lia)
 have x2:=aCt (l:=u) (k:=26) (n:=78) (z:=1) (v:=1) (H:= [.list m,.list u]) rfl hu h3.r1 (by rw [hn'];exact h3.r26) h3.r78 (by lia)
 exact bJ ((aG x1).trans ((aG x2).trans rfl))
end
theorem jR {l:List Int} {i:Nat} (h:i < l.length):(dT l)[i]?=some (pr i (l.getD i 0)):=by
 unfold dT
 rw [getElem?_map,List.getElem?_zipIdx,getElem?_eq_getElem h,getD_eq_getElem?_getD,getElem?_eq_getElem h]
 simp [pr]
theorem yJ (l:List Int):(dT l).length=l.length:=by unfold dT;simp
noncomputable def dif (o f g:List Int) (i:Nat):List MV:=((List.range i).filter fun k=>o.getD k 0 !=f.getD k 0).map fun k=>pr k (g.getD k 0)
theorem qC (o f g:List Int) (i:Nat):(dif o f g i).length≤i:=by
 unfold dif
 rw [length_map]
 refine Nat.le_trans (length_filter_le ..) ?_
 rw [length_range];exact Nat.le_refl _
theorem aJk {o f g:List Int} {i:Nat} (h:o.getD i 0=f.getD i 0):dif o f g (i+1)=dif o f g i:=by
 unfold dif
 rw [range_succ,filter_append,filter_cons_of_neg (by simp only [h,bne_self_eq_false];decide),filter_nil,append_nil]
theorem vX {o f g:List Int} {i:Nat} (h:o.getD i 0≠f.getD i 0):dif o f g (i+1)=dif o f g i++ [pr i (g.getD i 0)]:=by
 unfold dif
 rw [range_succ,filter_append,filter_cons_of_pos (by simpa using h),filter_nil,map_append];rfl
theorem aQe {a b:Nat} {x y:Int} (h:a < b∨(a=b∧x < y)):cG .Lt (pr a x) (pr b y)=some true:=by
 show some (if (a:Int)=b then decide (x < y) else decide ((a:Int) < b))=_
 rcases h with h|⟨rfl,h⟩
 ·rw [if_neg (by lia),decide_eq_true (by lia)]
 ·rw [if_pos rfl,decide_eq_true h]
theorem aQf {a b:Nat} {x y:Int} (h:b < a∨(a=b∧y < x)):cG .Lt (pr a x) (pr b y)=some false∧cG .Gt (pr a x) (pr b y)=some true:=by
 constructor
 ·show some (if (a:Int)=b then decide (x < y) else decide ((a:Int) < b))=_
  rcases h with h|⟨rfl,h⟩
  ·rw [if_neg (by lia),decide_eq_false (by lia)]
  ·rw [if_pos rfl,decide_eq_false (by lia)]
 ·show some (if (a:Int)=b then decide (y < x) else decide ((b:Int) < a))=_
  rcases h with h|⟨rfl,h⟩
  ·rw [if_neg (by lia),decide_eq_true (by lia)]
  ·rw [if_pos rfl,decide_eq_true h]
theorem oX {σ:St}:Ev fT1 σ true:=rfl
theorem vY {o f:List Int} {N:Nat} (ho:o.length=N+1) (hf:f.length=N+1) (hN:N≤100) (hl:o.getD N 0=f.getD N 0):∀(d i fuel:Nat) (r:List (Nat×MV)),i+d=N→2 * d < fuel→DV (dT o) (dT f) i i r→
  ∃r',bW fT1 tV (M.pure .next) fuel ⟨r,[.list (dif o f o i),.list (dif o f f i)]⟩=some (.ok .next,⟨r',[.list (dif o f o N),.list (dif o f f N)]⟩)∧r'.lookup 30=some (.cell 0)∧r'.lookup 78=some (.cell 1)
 | 0,i,fuel,r,hi,hfu,h=>by
  obtain ⟨k,rfl⟩:∃k,fuel=k+1:=⟨fuel - 1,by lia⟩
  obtain rfl:i=N:=by lia
  have lm:=qC o f o i
  have lu:=qC o f f i
  refine aJ (aUb h (by lia) (by lia) (jR (by lia)) (hl ▸ jR (by lia)) (by rw [yJ];exact ho) (by rw [yJ];exact hf) (m:=dif o f o i) (u:=dif o f f i) (by lia) (by lia)) fun r' e h'=>?_
  exact ⟨r',mW oX e,h'.r30,h'.r78⟩
 | d+1,i,fuel,r,hi,hfu,h=>by
  obtain ⟨k,rfl⟩:∃k,fuel=k+2:=⟨fuel - 2,by lia⟩
  have lm:=qC o f o i
  have lu:=qC o f f i
  have o0:=jR (l:=o) (i:=i) (by lia)
  have o1:=jR (l:=o) (i:=i+1) (by lia)
  have f0:=jR (l:=f) (i:=i) (by lia)
  have f1:=jR (l:=f) (i:=i+1) (by lia)
  rcases Int.lt_trichotomy (o.getD i 0) (f.getD i 0) with c|c|c
  ·refine aJ (aTz h (by lia) (by lia) o0 f0 o1 (aQe (.inr ⟨rfl,c⟩)) (m:=dif o f o i) (u:=dif o f f i) (by lia)) fun r1 e1 h1=>?_
   have gp:=aQf (x:=o.getD (i+1) 0) (y:=f.getD i 0) (.inl (Nat.lt_succ_self i))
   refine aJ (aUa h1 (by lia) (by lia) o1 f0 f1 gp.1 gp.2 (m:=dif o f o i++ [pr i (o.getD i 0)]) (u:=dif o f f i) (by lia)) fun r2 e2 h2=>?_
   rw [dI oX e1,dI oX e2,←vX (by lia),←vX (by lia)]
   exact vY ho hf hN hl d (i+1) k r2 (by lia) (by lia) h2
  ·refine aJ (aUs h (by lia) (by lia) o0 (c ▸ f0) o1 f1 (H:= [.list (dif o f o i),.list (dif o f f i)])) fun r1 e1 h1=>?_
   rw [dI oX e1,←aJk (g:=o) c,←aJk (g:=f) c]
   exact vY ho hf hN hl d (i+1) (k+1) r1 (by lia) (by lia) h1
  ·have gp:=aQf (a:=i) (b:=i) (.inr ⟨rfl,c⟩)
   refine aJ (aUa h (by lia) (by lia) o0 f0 f1 gp.1 gp.2 (m:=dif o f o i) (u:=dif o f f i) (by lia)) fun r1 e1 h1=>?_
   refine aJ (aTz h1 (by lia) (by lia) o0 f1 o1 (aQe (.inl (Nat.lt_succ_self i))) (m:=dif o f o i) (u:=dif o f f i++ [pr i (f.getD i 0)]) (by lia)) fun r2 e2 h2=>?_
   rw [dI oX e1,dI oX e2,←vX (by lia),←vX (by lia)]
   exact vY ho hf hN hl d (i+1) k r2 (by lia) (by lia) h2
theorem aRt (a:Nat) (x:Int):clo (pr a x)=true:=by unfold pr;rfl
theorem nT (o f g:List Int) (i:Nat):dZ (dif o f g i)=true:=cU fun x hx=>by
 unfold dif at hx
 (refine aJ (mem_map.mp hx) fun k _ e_1=>?_;obtain rfl:=e_1)
 exact aRt ..
theorem aEu {o f:List Int} {N:Nat} (ho:o.length=N+1) (hf:f.length=N+1) (hN:N≤100) (hl:o.getD N 0=f.getD N 0):Φ_23 [.lst (dT o),.lst (dT f)] []=some (.tup [.lst (dif o f o N),.lst (dif o f f N)]):=by
 refine bG (vY ho hf hN hl N 0 1000 [(16,.lst (dT o)),(1,.lst (dT f)),(23,.int 0),(26,.int 0),(30,.cell 0),(78,.cell 1)] (by lia) (by lia) ⟨rfl,rfl,rfl,rfl,rfl,rfl⟩) fun r' e1 e2 e3=>?_
 show eJ aHu.1 [16,1] [.lst (dT o),.lst (dT f)]=_
 have e:aHu.1 ⟨[16,1].zip [.lst (dT o),.lst (dT f)],[]⟩=some (.ok (.ret (.tup [.cell 0,.cell 1])),⟨r',[.list (dif o f o N),.list (dif o f f N)]⟩):=by
  simp only [aHu]
  refine (aG (σ':=⟨[(16,.lst (dT o)),(1,.lst (dT f)),(23,.int 0),(26,.int 0)],[]⟩) rfl).trans ?_
  refine (aG (lF (L:=0) rfl)).trans ?_
  refine (aG (lF (L:=1) rfl)).trans ?_
  refine (aG (σ':=⟨r',[.list (dif o f o N),.list (dif o f f N)]⟩) e1).trans ?_
  exact aA (show Ev _ ⟨r',[.list (dif o f o N),.list (dif o f f N)]⟩ (MV.tup [.cell 0,.cell 1]) from Ev.bind (Ev.cons (Ev.var e2) (Ev.cons (Ev.var e3) Ev.nil)) (Ev.lift rfl))
 unfold eJ uK
 rw [e]
 exact vL rfl (nT ..) rfl (nT ..)
theorem nU {f:MV→MV→Option Bool}:∀{l:List MV},(∀x∈l,f x x=some true)→eqL f l l=some true
 | [],_=>rfl
 | x::l,h=>by
  show ((f x x).bind fun a=>(eqL f l l).map (a && ·))=some true
  rw [h x (mem_cons_self ..),nU fun y hy=>h y (mem_cons_of_mem _ hy)];rfl
theorem aRu (n a:Nat) (x:Int):eqD (n+2) (pr a x) (pr a x)=some true:=by
 have e1:∀i:Int,eqD (n+1) (.int i) (.int i)=some true:=fun i=>congrArg some (beq_self_eq_true i)
 refine nU (f:=eqD (n+1)) (l:= [.int a,.int x]) fun y hy=>?_
 rcases mem_cons.mp hy with rfl|hy
 ·exact e1 _
 ·rw [mS hy];exact e1 _
theorem aCu {n:Nat} {l:List MV} (h:∀x∈l,eqD n x x=some true):eqD (n+1) (.lst l) (.lst l)=some true:=by
 show (if (l.length==l.length)=true then eqL (eqD n) l l else some false)=_
 rw [if_pos (beq_self_eq_true _),nU h]
theorem aCv (n:Nat) (o f g:List Int) (i:Nat):eqD (n+3) (.lst (dif o f g i)) (.lst (dif o f g i))=some true:=aCu fun x hx=>by
 unfold dif at hx
 (refine aJ (mem_map.mp hx) fun k _ e_4=>?_;obtain rfl:=e_4)
 exact aRu ..
theorem Ev.idxB {l:List Int} {k:Nat} {σ:St} (h:k < l.length) (hz:l.length≤1000):Ev (cA (.bytes l) (.int (k:Nat))) σ (.int (l.getD k 0)):=by
 have e:Mine.idxB l (k:Int)=some (.ok (.int (l.getD k 0))):=by
  unfold Mine.idxB
  rw [if_pos (by rw [Bool.and_eq_true];exact ⟨decide_eq_true (by lia),bK (by lia)⟩),Int.toNat_natCast,getElem?_eq_getElem h,getD_eq_getElem?_getD,getElem?_eq_getElem h];rfl
 refine aAl.trans ?_
 rw [e];rfl
noncomputable def part (o f:List Int):List Nat:=(List.range 7).filter fun k=>o.getD k 0 !=f.getD k 0
noncomputable def ptc (o f:List Int):MV:= .tup [.lst (dif o f o 7),.lst (dif o f f 7)]
noncomputable abbrev aJl:M Fl:=(bS
     ((dH [27] ((aO [M.lift (kM (Const.int 7))]).ne.bind fun l=>(M.lift (fN l)).bind fun l=>M.pure (nxL l)) (bE 27)
         (((aF 41).bind fun x=>(aF 27).bind fun y=>cA x y).bind fun x=>((aF 20).bind fun x=>(aF 27).bind fun y=>cA x y).bind fun y=>M.lift (cG CmpOp.NotEq x y))
         (aF 27)).ne.bind
      fun l=>(bE 45 (MV.lst l)).bind fun x=>M.pure Fl.next)
     (bS
      ((((aO [(aO [aF 41]).ne.bind fun l=>M.lift (xQ l),(aO [aF 20]).ne.bind fun l=>M.lift (xQ l)]).bind fun l=>(aO []).bind fun m=>M.pure (l,m)).bind
         fun q=>M.lift (bV Φ_23 q.fst q.snd)).bind
       fun y=>(bE 46 y).bind fun x=>M.pure Fl.next)
      (bS
       (((aF 46).bind fun x=>((aO [(dH [27] ((aF 45).bind gZ) (bE 27) (M.pure true) ((aO [aF 27,(aF 41).bind fun x=>(aF 27).bind fun y=>cA x y]).bind fun l=>M.lift (pQ l))).ne.bind fun l=>M.pure (MV.lst l),(dH [27] ((aF 45).bind gZ) (bE 27) (M.pure true) ((aO [aF 27,(aF 20).bind fun x=>(aF 27).bind fun y=>cA x y]).bind fun l=>M.lift (pQ l))).ne.bind fun l=>M.pure (MV.lst l)]).bind fun l=>M.lift (pQ l)).bind fun y=>M.lift (cG CmpOp.NotEq x y)).bind
        fun x=>
        match x with
        | true=>((aO [M.lift (kM Const.none),M.lift (kM Const.none)]).bind fun l=>M.lift (pQ l)).bind fun x=>M.pure (Fl.ret x)
        | false=>M.pure Fl.next)
       (bS (((aF 48).bind fun x=>(lstCk x).bind fun x_1=>(aO [aF 45]).bind fun l=>cQ (x::l)).bind fun x=>M.pure Fl.next)
        (((aF 47).bind fun x=>(lstCk x).bind fun x_1=>(aO [aF 46]).bind fun l=>cQ (x::l)).bind fun x=>M.pure Fl.next)))))
theorem yK (l:List Int):clo (.lst (dT l))=true:=by
 unfold dT
 refine cU fun x hx=>?_
 (refine aJ (mem_map.mp hx) fun p _ e_3=>?_;obtain rfl:=e_3)
 rfl
theorem aNh {o f:List Int} {r:List (Nat×MV)} {P Q:List MV} (ho:o.length=8) (hf:f.length=8) (hl:o.getD 7 0=f.getD 7 0) (h41:r.lookup 41=some (.bytes o)) (h20:r.lookup 20=some (.bytes f)) (h48:r.lookup 48=some (.cell 0)) (h47:r.lookup 47=some (.cell 1)) (hP:P.length≤100) (hQ:Q.length≤100):
  aJl ⟨r,[.list P,.list Q]⟩=some (.ok .next,⟨aL 46 (ptc o f) (aL 45 (.lst (nI (part o f))) r),[.list (P++ [.lst (nI (part o f))]),.list (Q++ [ptc o f])]⟩):=by
 have hpl:∀k∈part o f,k < 7:=fun k hk=>mem_range.mp (mem_filter.mp hk).1
 have hpz:(part o f).length≤7:=Nat.le_trans (length_filter_le ..) (by rw [length_range];exact Nat.le_refl _)
 refine (aG (σ':=⟨aL 45 (.lst (nI (part o f))) r,[.list P,.list Q]⟩) ((aA (bJ (Ev.compN (l:=List.range 7) (p:=fun k=>o.getD k 0 !=f.getD k 0) (e:=fun (k:Nat)=> .int (k:Int)) (by decide) (Ev.rng (n:=7) (Ev.cons (Ev.lift rfl) Ev.nil) (by decide)) (by decide) (fun _=>rfl) (fun k hk r2 ha hk2=>⟨?_,fun _=>Ev.var hk2⟩) (by decide)))).trans rfl)).trans ?_
 ·have hk:=mem_range.mp hk
  exact Ev.bind (Ev.bind (Ev.var ((ha 41 (by decide)).trans h41)) (Ev.bind (Ev.var hk2) (Ev.idxB (by lia) (by lia)))) (Ev.bind (Ev.bind (Ev.var ((ha 20 (by decide)).trans h20)) (Ev.bind (Ev.var hk2) (Ev.idxB (by lia) (by lia)))) (Ev.lift rfl))
 have en:∀{l:List Int},l.length=8→xQ [.bytes l]=some (.lst (dT l)):=fun {l} h=>by
  show (if cC l.length=true then some (MV.lst (dT l)) else none)=_
  rw [if_pos (bK (by lia))]
 have pc:bV Φ_23 [.lst (dT o),.lst (dT f)] []=some (ptc o f):=by
  unfold bV
  rw [if_pos]
  ·exact aEu (N:=7) ho hf (by decide) hl
  ·rw [Bool.and_eq_true]
   refine ⟨cU fun x hx=>?_,rfl⟩
   rcases mem_cons.mp hx with rfl|hx
   ·exact yK o
   ·rw [mS hx];exact yK f
 have a41:(aL 45 (MV.lst (nI (part o f))) r).lookup 41=some (.bytes o):=lk h41 (by decide)
 have a20:(aL 45 (MV.lst (nI (part o f))) r).lookup 20=some (.bytes f):=lk h20 (by decide)
 refine (aG (σ':=⟨aL 46 (ptc o f) (aL 45 (.lst (nI (part o f))) r),[.list P,.list Q]⟩) ((aA (Ev.call (Ev.cons (Ev.bind (Ev.ne (Ev.cons (Ev.var a41) Ev.nil)) (Ev.lift (en ho))) (Ev.cons (Ev.bind (Ev.ne (Ev.cons (Ev.var a20) Ev.nil)) (Ev.lift (en hf))) Ev.nil)) Ev.nil pc)).trans rfl)).trans ?_
 have b41:(aL 46 (ptc o f) (aL 45 (MV.lst (nI (part o f))) r)).lookup 41=some (.bytes o):=lk a41 (by decide)
 have b20:(aL 46 (ptc o f) (aL 45 (MV.lst (nI (part o f))) r)).lookup 20=some (.bytes f):=lk a20 (by decide)
 have b45:(aL 46 (ptc o f) (aL 45 (MV.lst (nI (part o f))) r)).lookup 45=some (.lst (nI (part o f))):=lk lk' (by decide)
 have cp:∀{g:List Int} {z:Nat},z≠27→g.length=8→(aL 46 (ptc o f) (aL 45 (MV.lst (nI (part o f))) r)).lookup z=some (.bytes g)→Ev ((dH [27] ((aF 45).bind gZ) (bE 27) (M.pure true) ((aO [aF 27,(aF z).bind fun x=>(aF 27).bind fun y=>cA x y]).bind fun l=>M.lift (pQ l))).ne.bind fun l=>M.pure (MV.lst l)) ⟨aL 46 (ptc o f) (aL 45 (.lst (nI (part o f))) r),[.list P,.list Q]⟩ (.lst (dif o f g 7)):=fun {g z} hz hg hv=>
  Ev.bind (a:=dif o f g 7) (Ev.ne (by
   have:=Ev.compN (k:=27) (loc:= [27]) (m:=(nI (part o f)).length+1) (nx:=fun i _=>some (nI (part o f))[i]?) (fi:=(aF 45).bind gZ) (l:=part o f) (p:=fun _=>true) (cond:=M.pure true) (elt:=(aO [aF 27,(aF z).bind fun x=>(aF 27).bind fun y=>cA x y]).bind fun l=>M.lift (pQ l)) (e:=fun k=>pr k (g.getD k 0)) (σ:=⟨aL 46 (ptc o f) (aL 45 (.lst (nI (part o f))) r),[.list P,.list Q]⟩) (by decide) (Ev.bind (Ev.var b45) Ev.src_lst) (by rw [bU];lia) (fun _=>rfl) (fun k hk r2 ha hk2=>⟨Ev.pure,fun _=>Ev.bind (Ev.cons (Ev.var hk2) (Ev.cons (Ev.bind (Ev.var ((ha z (by simpa using hz)).trans hv)) (Ev.bind (Ev.var hk2) (Ev.idxB (by have:=hpl k hk;lia) (by lia)))) Ev.nil)) (Ev.lift rfl)⟩) (by lia)
   rw [gV] at this
   exact this)) Ev.pure
 have ne:M.lift (cG CmpOp.NotEq (ptc o f) (ptc o f)) ⟨aL 46 (ptc o f) (aL 45 (.lst (nI (part o f))) r),[.list P,.list Q]⟩=some (.ok false,⟨aL 46 (ptc o f) (aL 45 (.lst (nI (part o f))) r),[.list P,.list Q]⟩):=by
  refine bY ?_
  show (eqD 5 (ptc o f) (ptc o f)).map (!·)=some false
  have:eqD 5 (ptc o f) (ptc o f)=some true:=nU (f:=eqD 4) fun x hx=>by
   rcases mem_cons.mp hx with rfl|hx
   ·exact aCv 1 ..
   ·rw [mS hx];exact aCv 1 ..
  rw [this];rfl
 refine (aG (σ':=⟨aL 46 (ptc o f) (aL 45 (.lst (nI (part o f))) r),[.list P,.list Q]⟩) ?_).trans ?_
 ·refine (aA (a:=false) (σ':=⟨aL 46 (ptc o f) (aL 45 (.lst (nI (part o f))) r),[.list P,.list Q]⟩) ?_).trans rfl
  refine (aA (bA lk')).trans ?_
  exact (aA (a:=ptc o f) ((aA (Ev.cons (cp (by decide) ho b41) (Ev.cons (cp (by decide) hf b20) Ev.nil))).trans (bY rfl))).trans ne
 refine (aG (gU (m:=0) (Ev.var (lk (lk h48 (by decide)) (by decide))) (Ev.var b45) rfl (by lia))).trans ?_
 exact gU (m:=1) (Ev.var (lk (lk h47 (by decide)) (by decide))) (Ev.var lk') rfl (by lia)
noncomputable def plT (T:Nat→List Int) (n:Nat):List (List Nat):=(List.range n).map fun i=>part (T i) (T (i+1))
noncomputable def ptM (T:Nat→List Int) (n:Nat):List MV:=(List.range n).map fun i=>ptc (T i) (T (i+1))
theorem aJm (T:Nat→List Int) (n:Nat):(plT T (n+1)).map (fun ks=>MV.lst (nI ks))=(plT T n).map (fun ks=>MV.lst (nI ks))++ [.lst (nI (part (T n) (T (n+1))))]:=by
 unfold plT;rw [range_succ,map_append,map_append];rfl
theorem aJn (T:Nat→List Int) (n:Nat):ptM T (n+1)=ptM T n++ [ptc (T n) (T (n+1))]:=by
 unfold ptM;rw [range_succ,map_append];rfl
theorem lR (pl:List (List Nat)):clo (plM pl)=true:=by
 unfold plM
 refine cU fun y hy=>?_
 (refine aJ (mem_map.mp hy) fun ks _ e_2=>?_;obtain rfl:=e_2)
 exact rU ks
theorem aCw (T:Nat→List Int) (n:Nat):dZ (ptM T n)=true:=cU fun x hx=>by
 unfold ptM at hx
 (refine aJ (mem_map.mp hx) fun i _ e_1=>?_;obtain rfl:=e_1)
 unfold ptc
 refine cU fun y hy=>?_
 rcases mem_cons.mp hy with rfl|hy
 ·exact nT ..
 ·rw [mS hy];exact nT ..
theorem vZ {n:Nat} {T:Nat→List Int} (hn:n≤8) (hT:∀i,(T i).length=8∧(T i).getD 7 0=61):Φ_35 [.lst ((List.range (n+1)).map fun i=> .bytes (T i))] []=some (.tup [plM (plT T n),.lst (ptM T n)]):=by
 have hlen:((List.range (n+1)).map fun i=>MV.bytes (T i)).length=n+1:=by simp
 have hget:∀i,i < n+1→((List.range (n+1)).map fun i=>MV.bytes (T i))[i]?=some (.bytes (T i)):=fun i hi=>by rw [getElem?_map,getElem?_range hi];rfl
 have hzl:(fO ((List.range (n+1)).map fun i=>MV.bytes (T i)) (((List.range (n+1)).map fun i=>MV.bytes (T i)).drop 1)).length=n:=by unfold fO;simp
 obtain ⟨σ',f1,f2,f3,f4⟩:=eE (nx:=fun i _=>some (fO ((List.range (n+1)).map fun i=>MV.bytes (T i)) (((List.range (n+1)).map fun i=>MV.bytes (T i)).drop 1))[i]?) (tg:=qQ 41 20) (body:=aJl) (l:=fO ((List.range (n+1)).map fun i=>MV.bytes (T i)) (((List.range (n+1)).map fun i=>MV.bytes (T i)).drop 1))
  (fun i σ=>σ.r.lookup 48=some (.cell 0)∧σ.r.lookup 47=some (.cell 1)∧σ.H= [.list ((plT T i).map fun ks=>MV.lst (nI ks)),.list (ptM T i)]) (fun i σ _=>rfl)
  (fun i y σ hP hy=>by
   (refine iC hP fun g1 g2 g3=>?_;try clear hP)
   have hi:=(gS hy).1
   rw [hzl] at hi
   unfold fO at hy
   rw [List.getElem?_zipWith,hget i (by lia),List.getElem?_drop,Nat.add_comm 1 i,hget (i+1) (by lia)] at hy
   obtain rfl:=sJ hy
   obtain ⟨r,H⟩:=σ
   simp only at g1 g2 g3
   subst g3
   refine ⟨⟨aL 20 (.bytes (T (i+1))) (aL 41 (.bytes (T i)) r),_⟩,_,.next,rfl,aNh (hT i).1 (hT (i+1)).1 ((hT i).2.trans (hT (i+1)).2.symm) (lk lk' (by decide)) lk' (lk (lk g1 (by decide)) (by decide)) (lk (lk g2 (by decide)) (by decide)) (by unfold plT;simp;lia) (by unfold ptM;simp;lia),.inl rfl,lk (lk (lk (lk g1 (by decide)) (by decide)) (by decide)) (by decide),lk (lk (lk (lk g2 (by decide)) (by decide)) (by decide)) (by decide),?_⟩
   rw [aJm,aJn])
  (n+1) 0 ⟨[(74,.lst ((List.range (n+1)).map fun i=> .bytes (T i))),(47,.cell 1),(48,.cell 0)],[.list [],.list []]⟩ (by rw [hzl];lia) (Nat.zero_le _) ⟨rfl,rfl,rfl⟩
 rw [hzl] at f4
 show eJ aHy.1 [74] [.lst ((List.range (n+1)).map fun i=> .bytes (T i))]=_
 have e:aHy.1 ⟨[74].zip [.lst ((List.range (n+1)).map fun i=> .bytes (T i))],[]⟩=some (.ok (.ret (.tup [.cell 0,.cell 1])),σ'):=by
  simp only [aHy]
  refine (aG (σ':=⟨[(74,.lst ((List.range (n+1)).map fun i=> .bytes (T i))),(47,.cell 1),(48,.cell 0)],[.list [],.list []]⟩) rfl).trans ?_
  have dr:kW (.lst ((List.range (n+1)).map fun i=> .bytes (T i))) (.int 1)=some (.lst (((List.range (n+1)).map fun i=>MV.bytes (T i)).drop 1)):=by
   show (if (decide ((0:Int)≤1) && cC _)=true then some (MV.lst (((List.range (n+1)).map fun i=>MV.bytes (T i)).drop (1:Int).toNat)) else none)=_
   rw [if_pos (by rw [Bool.and_eq_true];exact ⟨rfl,bK (by rw [hlen];lia)⟩)];rfl
  have zp:Ev ((aO [aF 74,(aF 74).bind fun x=>(M.lift (kM (Const.int 1))).bind fun y=>M.lift (kW x y)]).ne.bind fun l=>(M.lift (aSh l)).bind fun l=>M.pure (nxL l)) ⟨[(74,.lst ((List.range (n+1)).map fun i=> .bytes (T i))),(47,.cell 1),(48,.cell 0)],[.list [],.list []]⟩ (n+1,fun i _=>some (fO ((List.range (n+1)).map fun i=>MV.bytes (T i)) (((List.range (n+1)).map fun i=>MV.bytes (T i)).drop 1))[i]?):=by
   refine Ev.bind (Ev.ne (Ev.cons (Ev.var rfl) (Ev.cons (Ev.bind (Ev.var rfl) (Ev.bind (Ev.lift rfl) (Ev.lift dr))) Ev.nil))) (Ev.bind (Ev.lift rfl) ?_)
   show some (R.ok (nxL _),_)=_
   unfold nxL
   rw [hzl]
  refine (aG (σ':=σ') ((aA (bJ zp)).trans f1)).trans ?_
  exact aA (show Ev _ σ' (MV.tup [.cell 0,.cell 1]) from Ev.bind (Ev.cons (Ev.var f2) (Ev.cons (Ev.var f3) Ev.nil)) (Ev.lift rfl))
 unfold eJ uK
 rw [e]
 show frz σ'.H _=_
 rw [f4]
 exact vL rfl (lR (plT T n)) rfl (aCw ..)
noncomputable def fg (st:Nat→Nat→Int) (i:Nat):List Int:=(List.range 7).map (st i)
noncomputable def stM (st:Nat→Nat→Int) (n:Nat):MV:= .lst ((List.range (n+1)).map fun i=>bZ (fg st i))
structure Fig (st:Nat→Nat→Int) (n:Nat):Prop where
 rng:∀i,i≤n→∀k,k < 7→0≤st i k∧st i k < 64
 last:∀i,i≤n→st i 6 % 4=0
theorem aEv {f0 f1 f2 f3 f4 f5 f6:Int} (hf:∀f∈ [f0,f1,f2,f3,f4,f5,f6],0≤f∧f < 64) (h6:f6 % 4=0):fU (iP [f0,f1,f2,f3,f4,f5,f6])= [f0,f1,f2,f3,f4,f5,f6]:=by
 refine aCi hf rfl ?_
 rw [aPx hf,← (aRe hf).2]
 show (((((((0 * 64+f0) * 64+f1) * 64+f2) * 64+f3) * 64+f4) * 64+f5) * 64+f6) / 4 * 4=((((((0 * 64+f0) * 64+f1) * 64+f2) * 64+f3) * 64+f4) * 64+f5) * 64+f6
 lia
theorem aJo (l:List Nat):aQo ((0:Int)::l.map fun (p:Nat)=>(p:Int)+1)=some ((l.foldl (fun m p=>max m (p+1)) 0:Nat):Int):=by
 show some ((l.map fun (p:Nat)=>(p:Int)+1).foldl max 0)=_
 congr 1
 have:∀(l:List Nat) (m:Nat),(l.map fun (p:Nat)=>(p:Int)+1).foldl max (m:Int)=((l.foldl (fun m p=>max m (p+1)) m:Nat):Int):=by
  intro l
  induction l with
  | nil=>intro m;rfl
  | cons x l ih=>
   intro m
   rw [map_cons,foldl_cons,foldl_cons,←ih]
   congr 1
   lia
 exact this l 0
theorem nV (l:List Int):clo (bZ l)=true:=hM l
theorem rX (l:List Nat):clo (.lst (nI l))=true:=by exact rU l
theorem wA (st:Nat→Nat→Int) (n:Nat):clo (stM st n)=true:=by
 unfold stM
 refine cU fun x hx=>?_
 (refine aJ (mem_map.mp hx) fun i _ e_2=>?_;obtain rfl:=e_2)
 exact nV _
theorem aJp {pl:List (List Nat)} {g:List Nat} {k n:Nat} (h:∀p∈g,p < n):mI pl g k≤n:=kE (Nat.zero_le _) fun p hp=>h p (mem_filter.mp hp).1
theorem yL {pl:List (List Nat)} {st:Nat→Nat→Int} {n:Nat} {g:List Nat} (hn:pl.length=n) (hz:n≤8) (hF:Fig st n) (hg:∀p∈g,p < n) (hgl:g.length≤8):Φ_34 [.bytes (txt (mix pl st g)),stM st n,plM pl,.lst (nI g)] []=some (.bool true):=by
 refine eQ (f:=aMo.1) (ps:= [73,66,48,21]) (by rfl) ⟨⟨[(73,.bytes (txt (mix pl st g))),(66,stM st n),(48,plM pl),(21,.lst (nI g)),(31,bZ (mix pl st g)),(40,.bytes (iP (mix pl st g)))],[]⟩,?_⟩
 simp only [aMo]
 have cmp:Ev (dH [27] ((aO [M.lift (kM (Const.int 7))]).ne.bind fun l=>(M.lift (fN l)).bind fun l=>M.pure (nxL l)) (bE 27) (M.pure true)
     (((aF 66).bind fun x=>
        ((aO [((aO [M.lift (kM (Const.int 0))]).bind fun l=>M.lift (uF l)).bind fun x=>((dH [43] ((aF 21).bind gZ) (bE 43) ((aF 27).bind fun x=>((aF 48).bind fun x=>(aF 43).bind fun y=>cA x y).bind fun y=>M.lift (cG CmpOp.In x y)) ((aF 43).bind fun x=>(M.lift (kM (Const.int 1))).bind fun y=>M.lift (bM Operator.Add x y))).ne.bind fun l=>M.pure (MV.lst l)).bind fun y=>M.lift (bM Operator.Add x y)]).bind aKs).bind
         fun y=>cA x y).bind
      fun x=>(aF 27).bind fun y=>cA x y)) ⟨[(73,.bytes (txt (mix pl st g))),(66,stM st n),(48,plM pl),(21,.lst (nI g))],[]⟩ ((mix pl st g).map .int):=by
  have e0:=Ev.compN (l:=List.range 7) (p:=fun _=>true) (cond:=M.pure true) (e:=fun k=> .int (st (mI pl g k) k)) (loc:= [27]) (k:=27) (elt:=(((aF 66).bind fun x=>
        ((aO [((aO [M.lift (kM (Const.int 0))]).bind fun l=>M.lift (uF l)).bind fun x=>((dH [43] ((aF 21).bind gZ) (bE 43) ((aF 27).bind fun x=>((aF 48).bind fun x=>(aF 43).bind fun y=>cA x y).bind fun y=>M.lift (cG CmpOp.In x y)) ((aF 43).bind fun x=>(M.lift (kM (Const.int 1))).bind fun y=>M.lift (bM Operator.Add x y))).ne.bind fun l=>M.pure (MV.lst l)).bind fun y=>M.lift (bM Operator.Add x y)]).bind aKs).bind
         fun y=>cA x y).bind
      fun x=>(aF 27).bind fun y=>cA x y)) (σ:=⟨[(73,.bytes (txt (mix pl st g))),(66,stM st n),(48,plM pl),(21,.lst (nI g))],[]⟩) (by decide) (Ev.rng (n:=7) (Ev.cons (Ev.lift rfl) Ev.nil) (by decide)) (by decide) (fun _=>rfl) (fun k hk r1 ha1 hl1=>⟨Ev.pure,fun _=>?_⟩) (by decide)
  ·rw [gV] at e0
   unfold mix
   rw [map_map]
   exact e0
  ·have hk:=mem_range.mp hk
   have p66:r1.lookup 66=some (stM st n):=ha1 66 (by decide)
   have p48:r1.lookup 48=some (plM pl):=ha1 48 (by decide)
   have p21:r1.lookup 21=some (.lst (nI g)):=ha1 21 (by decide)
   have c2:=Ev.compN (loc:= [43]) (k:=43) (l:=g) (fi:=(aF 21).bind gZ) (m:=(nI g).length+1) (nx:=fun i _=>some (nI g)[i]?) (p:=fun p=>(PL pl p).contains k) (e:=fun (p:Nat)=> .int ((p:Int)+1)) (cond:=((aF 27).bind fun x=>((aF 48).bind fun x=>(aF 43).bind fun y=>cA x y).bind fun y=>M.lift (cG CmpOp.In x y))) (elt:=((aF 43).bind fun x=>(M.lift (kM (Const.int 1))).bind fun y=>M.lift (bM Operator.Add x y))) (σ:=⟨r1,[]⟩) (by decide) (Ev.bind (Ev.var p21) Ev.src_lst) (by rw [bU];lia) (fun _=>rfl) (fun p hp r2 ha2 hl2=>⟨Ev.inPl ((ha2 27 (by decide)).trans hl1) ((ha2 48 (by decide)).trans p48) hl2 (by have:=hg p hp;lia) (by lia),fun _=>Ev.bind (Ev.var hl2) (Ev.bind (Ev.lift rfl) (Ev.lift rfl))⟩) (by lia)
   have hfl:(g.filter fun p=>(PL pl p).contains k).length≤8:=Nat.le_trans (length_filter_le ..) hgl
   have c3:Ev (((aO [M.lift (kM (Const.int 0))]).bind fun l=>M.lift (uF l)).bind fun x=>((dH [43] ((aF 21).bind gZ) (bE 43) ((aF 27).bind fun x=>((aF 48).bind fun x=>(aF 43).bind fun y=>cA x y).bind fun y=>M.lift (cG CmpOp.In x y)) ((aF 43).bind fun x=>(M.lift (kM (Const.int 1))).bind fun y=>M.lift (bM Operator.Add x y))).ne.bind fun l=>M.pure (MV.lst l)).bind fun y=>M.lift (bM Operator.Add x y)) ⟨r1,[]⟩ (.lst (((0:Int)::(g.filter fun p=>(PL pl p).contains k).map fun (p:Nat)=>(p:Int)+1).map .int)):=by
    refine Ev.bind (a:= .lst [.int 0]) (Ev.bind (Ev.cons (Ev.lift rfl) Ev.nil) (Ev.lift rfl)) (Ev.bind (Ev.bind (Ev.ne c2) Ev.pure) (Ev.lift ?_))
    show (if cC (1+((g.filter fun p=>(PL pl p).contains k).map fun (p:Nat)=>MV.int ((p:Int)+1)).length)=true then some (MV.lst ([.int 0]++_)) else none)=_
    rw [if_pos (bK (by rw [length_map];lia)),map_cons,map_map];rfl
   have c4:Ev (aKs [.lst (((0:Int)::(g.filter fun p=>(PL pl p).contains k).map fun (p:Nat)=>(p:Int)+1).map .int)]) ⟨r1,[]⟩ (.int (mI pl g k:Nat)):=by
    show M.bind (cK (.lst _)) (fun l=>M.lift ((fC l).bind fun ns=>(aQo ns).map MV.int)) _=_
    refine Ev.bind (a:=((0:Int)::(g.filter fun p=>(PL pl p).contains k).map fun (p:Nat)=>(p:Int)+1).map MV.int) rfl (Ev.lift ?_)
    rw [fE,Option.bind_some,aJo];rfl
   have hm:=aJp (pl:=pl) (k:=k) hg
   have c5:Ev (cA (stM st n) (.int (mI pl g k:Nat))) ⟨r1,[]⟩ (bZ (fg st (mI pl g k))):=Ev.idxL (by rw [getElem?_map,getElem?_range (by lia)];rfl) (by lia)
   have c6:Ev (cA (bZ (fg st (mI pl g k))) (.int (k:Nat))) ⟨r1,[]⟩ (.int (st (mI pl g k) k)):=Ev.idxL (by unfold fg;rw [getElem?_map,getElem?_map,getElem?_range hk];rfl) (by lia)
   exact Ev.bind (Ev.bind (Ev.var p66) (Ev.bind (Ev.bind (Ev.cons c3 Ev.nil) c4) c5)) (Ev.bind (Ev.var hl1) c6)
 have hr:∀k,k < 7→0≤st (mI pl g k) k∧st (mI pl g k) k < 64:=fun k hk=>hF.rng _ (aJp hg) k hk
 have hmix:mix pl st g= [st (mI pl g 0) 0,st (mI pl g 1) 1,st (mI pl g 2) 2,st (mI pl g 3) 3,st (mI pl g 4) 4,st (mI pl g 5) 5,st (mI pl g 6) 6]:=rfl
 have hrng:∀f∈mix pl st g,0≤f∧f < 64:=fun f hf=>by
  unfold mix at hf
  (refine aJ (mem_map.mp hf) fun k hk e_1=>?_;obtain rfl:=e_1)
  exact hr k (mem_range.mp hk)
 have hfo:fU (iP (mix pl st g))=mix pl st g:=by
  rw [hmix] at hrng ⊢
  exact aEv hrng (hF.last _ (aJp hg))
 have p28:bV Φ_28 [bZ (mix pl st g)] []=some (.bytes (iP (mix pl st g))):=by
  unfold bV
  rw [if_pos]
  ·exact xV _
  ·rw [Bool.and_eq_true]
   exact ⟨cU fun x hx=>by rw [mS hx];exact nV _,rfl⟩
 have p20:bV Φ_20 [.bytes (iP (mix pl st g))] []=some (.bytes (txt (mix pl st g))):=by
  have h:=lC (l:=iP (mix pl st g)) (b0:=_) (b1:=_) (b2:=_) (b3:=_) (b4:=_) rfl (rF _)
  rw [hfo] at h
  exact h
 have p21:bV Φ_21 [.bytes (txt (mix pl st g))] [.bool true]=some (.bytes (iP (mix pl st g))):=rJ hmix hrng
 have eqb:∀l:List Int,cG .Eq (.bytes l) (.bytes l)=some true:=fun l=>by show some (l==l)=_;rw [beq_self_eq_true]
 refine (aG (σ':=⟨[(73,.bytes (txt (mix pl st g))),(66,stM st n),(48,plM pl),(21,.lst (nI g)),(31,bZ (mix pl st g))],[]⟩) ((aA (bJ cmp)).trans rfl)).trans ?_
 refine (aG (σ':=⟨[(73,.bytes (txt (mix pl st g))),(66,stM st n),(48,plM pl),(21,.lst (nI g)),(31,bZ (mix pl st g)),(40,.bytes (iP (mix pl st g)))],[]⟩) ((aA (Ev.call (Ev.cons (Ev.var rfl) Ev.nil) Ev.nil p28)).trans rfl)).trans ?_
 refine aA (a:=MV.bool true) (σ':=⟨[(73,.bytes (txt (mix pl st g))),(66,stM st n),(48,plM pl),(21,.lst (nI g)),(31,bZ (mix pl st g)),(40,.bytes (iP (mix pl st g)))],[]⟩) ?_
 refine (aA (a:=MV.bool true) (σ':=⟨[(73,.bytes (txt (mix pl st g))),(66,stM st n),(48,plM pl),(21,.lst (nI g)),(31,bZ (mix pl st g)),(40,.bytes (iP (mix pl st g)))],[]⟩) ?_).trans ?_
 ·refine (aA (Ev.call (Ev.cons (Ev.var rfl) Ev.nil) Ev.nil p20)).trans ?_
  exact (aA (bA rfl)).trans ((aA (bY (eqb _))).trans rfl)
 ·refine (aA (bY (a:=true) rfl)).trans ?_
  refine (aA (Ev.call (Ev.cons (Ev.var rfl) Ev.nil) (Ev.cons (Ev.lift rfl) Ev.nil) p21)).trans ?_
  exact (aA (bA rfl)).trans ((aA (bY (eqb _))).trans rfl)
theorem wC {st:Nat→Nat→Int} {i k:Nat} (hk:k < 7):(txt (fg st i)).getD k 0=al (st i k):=by
 unfold txt
 rw [getD_eq_getElem?_getD,getElem?_append_left (by unfold fg;simpa using hk),getElem?_map]
 unfold fg
 rw [getElem?_map,getElem?_range hk];rfl
theorem aJq (st:Nat→Nat→Int) (i:Nat):(txt (fg st i)).length=8∧(txt (fg st i)).getD 7 0=61:=⟨rfl,rfl⟩
noncomputable abbrev TX (st:Nat→Nat→Int):Nat→List Int:=fun i=>txt (fg st i)
theorem aJr {T:Nat→List Int} {n p:Nat} (h:p < n):PL (plT T n) p=part (T p) (T (p+1)):=by
 unfold PL plT
 rw [getD_eq_getElem?_getD,getElem?_map,getElem?_range h];rfl
theorem hO (T:Nat→List Int) (n:Nat):(plT T n).length=n:=by unfold plT;simp
theorem oZ {T:Nat→List Int} {n:Nat}:∀ks∈plT T n,ks.length≤7∧∀k∈ks,k < 7:=fun ks h=>by
 unfold plT at h
 (refine aJ (mem_map.mp h) fun i _ e_2=>?_;obtain rfl:=e_2)
 exact ⟨Nat.le_trans (length_filter_le ..) (by rw [length_range];exact Nat.le_refl _),fun k hk=>mem_range.mp (mem_filter.mp hk).1⟩
theorem aJs {st:Nat→Nat→Int} {n:Nat} (hF:Fig st n):Chg (plT (TX st) n) st:=fun p hp k hk hn=>by
 rw [hO] at hp
 rw [aJr hp] at hn
 have:(TX st p).getD k 0=(TX st (p+1)).getD k 0:=Decidable.byContradiction fun h=>hn (mem_filter.mpr ⟨mem_range.mpr hk,by simpa using h⟩)
 rw [wC hk,wC hk] at this
 have a:=hF.rng p (by lia) k hk
 have b:=hF.rng (p+1) (by lia) k hk
 exact aRd a.1 a.2 b.1 b.2 this
theorem aNi {st:Nat→Nat→Int} {n p i:Nat} (h:p < n):dif (TX st p) (TX st (p+1)) (TX st i) 7=((PL (plT (TX st) n) p).map fun k=>(k,al (st i k))).map sgn:=by
 rw [aJr h]
 unfold dif part
 rw [map_map]
 refine map_congr_left fun k hk=>?_
 have:=mem_range.mp (mem_filter.mp hk).1
 show pr k _=pr k _
 rw [wC this]
section
variable {st:Nat→Nat→Int} {n:Nat} {walk:List Nat}
theorem aJt {g g':List Nat} {p i:Nat} (hn:n≤8) (hF:Fig st n) (hp:p < n) (hi:i≤n) (he:((PL (plT (TX st) n) p).map fun k=>(k,al (st i k))).foldl lD (txt (mix (plT (TX st) n) st g))=txt (mix (plT (TX st) n) st g')):
  bV Φ_33 [.bytes (txt (mix (plT (TX st) n) st g)),.lst (dif (TX st p) (TX st (p+1)) (TX st i) 7)] []=some (.bytes (txt (mix (plT (TX st) n) st g'))):=by
 have h7:=aCo (b:=7) (fun ks h=>(oZ (T:=TX st) (n:=n) ks h).2) p
 have hl:=vT (fun ks h=>(oZ (T:=TX st) (n:=n) ks h).1) p
 unfold bV
 rw [if_pos]
 ·rw [aNi hp]
  have:=aIk (t:=txt (mix (plT (TX st) n) st g)) (ps:=(PL (plT (TX st) n) p).map fun k=>(k,al (st i k))) (fun q hq=>by
   (refine aJ (mem_map.mp hq) fun k hk e_1=>?_;obtain rfl:=e_1)
   have hk7:=h7 k hk
   have hr:=hF.rng i hi k hk7
   have ha:=vE (vF hr.1 hr.2)
   exact ⟨Nat.lt_of_lt_of_le hk7 (by decide:7≤8),ha.1,ha.2.1⟩) (by show 8≤1000;decide) (by rw [length_map];lia)
  rw [he] at this
  exact this
 ·rw [Bool.and_eq_true]
  refine ⟨cU fun x hx=>?_,rfl⟩
  rcases mem_cons.mp hx with rfl|hx
  ·exact cX _
  ·rw [mS hx];exact nT ..
theorem tW {g:List Nat} (hn:n≤8) (hF:Fig st n) (hc:Clo (plT (TX st) n) g) (hgl:g.length≤n):bV Φ_34 [.bytes (txt (mix (plT (TX st) n) st g)),stM st n,plM (plT (TX st) n),.lst (nI g)] []=some (.bool true):=by
 unfold bV
 rw [if_pos]
 ·exact yL (hO ..) hn hF (fun p hp=>by have:=hc.lt p hp;rwa [hO] at this) (by lia)
 ·rw [Bool.and_eq_true]
  refine ⟨cU fun x hx=>?_,rfl⟩
  rcases mem_cons.mp hx with rfl|hx
  ·exact cX _
  rcases mem_cons.mp hx with rfl|hx
  ·exact wA ..
  rcases mem_cons.mp hx with rfl|hx
  ·exact lR _
  ·rw [mS hx];exact rX _
structure TV (st:Nat→Nat→Int) (n:Nat) (walk:List Nat) (t:List Int) (r:List (Nat×MV)):Prop where
 r73:r.lookup 73=some (.bytes t)
 r66:r.lookup 66=some (stM st n)
 r48:r.lookup 48=some (plM (plT (TX st) n))
 r47:r.lookup 47=some (.lst (ptM (TX st) n))
 r83:r.lookup 83=some (.lst (nI walk))
theorem TV.set68 {t:List Int} {r:List (Nat×MV)} (h:TV st n walk t r) (v:MV):TV st n walk t (aL 68 v r):=⟨lk h.r73 (by decide),lk h.r66 (by decide),lk h.r48 (by decide),lk h.r47 (by decide),lk h.r83 (by decide)⟩
theorem TV.set73 {t:List Int} {r:List (Nat×MV)} (h:TV st n walk t r) (t':List Int):TV st n walk t' (aL 73 (.bytes t') r):=⟨lk',lk h.r66 (by decide),lk h.r48 (by decide),lk h.r47 (by decide),lk h.r83 (by decide)⟩
theorem aCx {t:List Int} {r:List (Nat×MV)} {H:List MO} {s p c:Nat} {x:MV} (h:TV st n walk t r) (hn:n≤8) (h68:r.lookup 68=some (.int s)) (hs:walk[s]?=some p) (hsl:s≤8) (hp:p < n) (hc:c≤1) (hx: [MV.lst (dif (TX st p) (TX st (p+1)) (TX st p) 7),.lst (dif (TX st p) (TX st (p+1)) (TX st (p+1)) 7)][c]?=some x):
  Ev (((aF 47).bind fun x=>((aF 83).bind fun x=>(aF 68).bind fun y=>cA x y).bind fun y=>cA x y).bind fun x=>(M.lift (kM (Const.int (c:Nat)))).bind fun y=>cA x y) ⟨r,H⟩ x:=by
 have e1:Ev (cA (.lst (nI walk)) (.int (s:Nat))) ⟨r,H⟩ (.int (p:Nat)):=Ev.idxL (aAm hs) (by lia)
 have e2:Ev (cA (.lst (ptM (TX st) n)) (.int (p:Nat))) ⟨r,H⟩ (ptc (TX st p) (TX st (p+1))):=Ev.idxL (by unfold ptM;rw [getElem?_map,getElem?_range hp];rfl) (by lia)
 have e3:Ev (cA (ptc (TX st p) (TX st (p+1))) (.int (c:Nat))) ⟨r,H⟩ x:=by
  have e:aKn [MV.lst (dif (TX st p) (TX st (p+1)) (TX st p) 7),.lst (dif (TX st p) (TX st (p+1)) (TX st (p+1)) 7)] (c:Int)=some (.ok x):=by
   unfold aKn
   rw [if_pos (by rw [Bool.and_eq_true];exact ⟨fM.mpr (by lia),decide_eq_true (by lia)⟩),Int.toNat_natCast,hx]
  refine aIv.trans ?_
  rw [e];rfl
 exact Ev.bind (Ev.bind (Ev.var h.r47) (Ev.bind (Ev.bind (Ev.var h.r83) (Ev.bind (Ev.var h68) e1)) e2)) (Ev.bind (Ev.lift rfl) e3)
theorem aCy {l:List Nat} {k:Nat} (hl:l.length≤8):kU (.lst (nI l)) (.int (k:Nat))=some (.lst (nI (l.take k))):=by
 show (if (decide ((0:Int)≤k) && cC (nI l).length)=true then some (MV.lst ((nI l).take ((k:Nat):Int).toNat)) else none)=_
 rw [if_pos (by rw [Bool.and_eq_true];exact ⟨decide_eq_true (by lia),bK (by rw [bU];lia)⟩),Int.toNat_natCast]
 unfold nI
 rw [List.map_take]
theorem lS {l:List Nat} {i p:Nat} (h:l[i]?=some p):l.take (i+1)=l.take i++ [p]:=by rw [take_add_one,h];rfl
theorem aCz {t t':List Int} {r:List (Nat×MV)} {f g:M MV} {x y:MV} (h:TV st n walk t r) (hf:Ev f ⟨r,[]⟩ x) (hp:bV Φ_33 [.bytes t,x] []=some (.bytes t')) (hg:Ev g ⟨aL 73 (.bytes t') r,[]⟩ y) (hs:bV Φ_34 [.bytes t',stM st n,plM (plT (TX st) n),y] []=some (.bool true)):
  (bS ((((aO [aF 73,f]).bind fun l=>(aO []).bind fun m=>M.pure (l,m)).bind fun q=>M.lift (bV Φ_33 q.fst q.snd)).bind fun y=>(bE 73 y).bind fun x=>M.pure Fl.next)
   ((((((aO [aF 73,aF 66,aF 48,g]).bind fun l=>(aO []).bind fun m=>M.pure (l,m)).bind fun q=>M.lift (bV Φ_34 q.fst q.snd)).bind fun x=>M.lift (trM x)).bind fun b=>M.pure !b).bind fun x=>
     match x with
     | true=>(M.lift (kM (Const.bool false))).bind fun x=>M.pure (Fl.ret x)
     | false=>M.pure Fl.next)) ⟨r,[]⟩=some (.ok .next,⟨aL 73 (.bytes t') r,[]⟩):=by
 have h':=h.set73 t'
 refine (aG (σ':=⟨aL 73 (.bytes t') r,[]⟩) ((aA (Ev.call (Ev.cons (Ev.var h.r73) (Ev.cons hf Ev.nil)) Ev.nil hp)).trans rfl)).trans ?_
 refine (aA (a:=false) (σ':=⟨aL 73 (.bytes t') r,[]⟩) ?_).trans rfl
 refine (aA (a:=true) (σ':=⟨aL 73 (.bytes t') r,[]⟩) ?_).trans rfl
 exact (aA (Ev.call (Ev.cons (Ev.var h'.r73) (Ev.cons (Ev.var h'.r66) (Ev.cons (Ev.var h'.r48) (Ev.cons hg Ev.nil)))) Ev.nil hs)).trans (bY rfl)
theorem aAt (hn:n≤8) (hF:Fig st n) (hc:Clo (plT (TX st) n) walk) (hl:walk.length=n):Φ_36 [.bytes (TX st 0),stM st n,plM (plT (TX st) n),.lst (ptM (TX st) n),.lst (nI walk)] []=some (.bool true):=by
 have hlt:∀p∈walk,p < n:=fun p hp=>by have:=hc.lt p hp;rwa [hO] at this
 obtain ⟨σ',f1,f2,f3⟩:=eE (nx:=fun i _=>some (eF n)[i]?) (tg:=bE 68) (body:=(bS ((((aO [aF 73,((aF 47).bind fun x=>((aF 83).bind fun x=>(aF 68).bind fun y=>cA x y).bind fun y=>cA x y).bind fun x=>(M.lift (kM (Const.int 1))).bind fun y=>cA x y]).bind fun l=>(aO []).bind fun m=>M.pure (l,m)).bind fun q=>M.lift (bV Φ_33 q.fst q.snd)).bind fun y=>(bE 73 y).bind fun x=>M.pure Fl.next)
   ((((((aO [aF 73,aF 66,aF 48,(aF 83).bind fun x=>((aF 68).bind fun x=>(M.lift (kM (Const.int 1))).bind fun y=>M.lift (bM Operator.Add x y)).bind fun y=>M.lift (kU x y)]).bind fun l=>(aO []).bind fun m=>M.pure (l,m)).bind fun q=>M.lift (bV Φ_34 q.fst q.snd)).bind fun x=>M.lift (trM x)).bind fun b=>M.pure !b).bind fun x=>
     match x with
     | true=>(M.lift (kM (Const.bool false))).bind fun x=>M.pure (Fl.ret x)
     | false=>M.pure Fl.next))) (l:=eF n)
  (fun i σ=>TV st n walk (txt (mix (plT (TX st) n) st (walk.take i))) σ.r∧σ.H= []) (fun i σ _=>rfl)
  (fun i y σ hP hy=>by
   obtain ⟨g1,g2⟩:=hP
   obtain ⟨r,H⟩:=σ
   simp only at g1 g2
   subst g2
   have hi:=(gS hy).1
   rw [dE] at hi
   have hy':y= .int (i:Int):=by
    unfold eF at hy
    rw [getElem?_map,getElem?_range hi] at hy
    exact (sJ hy).symm
   subst hy'
   obtain ⟨p,hp⟩:∃p,walk[i]?=some p:=⟨_,getElem?_eq_getElem (by lia)⟩
   have hpn:=hlt p (mem_of_getElem? hp)
   have hc1:=hc.take (i+1)
   have hl1:(walk.take (i+1)).length≤n:=by rw [length_take];lia
   have hst:=tW hn hF hc1 hl1
   rw [lS hp] at hc1 hst
   have hs:=aAk (st:=st) (fun q=>aCo (fun ks h=>(oZ ks h).2) q) hc1
   have g1':=g1.set68 (.int i)
   refine ⟨⟨aL 68 (.int i) r,[]⟩,_,.next,rfl,aCz (x:= .lst (dif (TX st p) (TX st (p+1)) (TX st (p+1)) 7)) (y:= .lst (nI (walk.take i++ [p]))) g1' (aCx (c:=1) g1' hn lk' hp (by lia) hpn (by lia) rfl) (aJt hn hF hpn (by lia) hs) ?_ hst,.inl rfl,?_,rfl⟩
   ·rw [←lS hp]
    exact Ev.bind (Ev.var (g1'.set73 _).r83) (Ev.bind (a:= .int ((i+1:Nat):Int)) (Ev.bind (Ev.var (lk lk' (by decide))) (Ev.bind (Ev.lift rfl) (Ev.lift rfl))) (Ev.lift (aCy (by lia))))
   ·rw [lS hp];exact g1'.set73 _)
  (n+1) 0 ⟨[(73,.bytes (TX st 0)),(66,stM st n),(48,plM (plT (TX st) n)),(47,.lst (ptM (TX st) n)),(83,.lst (nI walk))],[]⟩ (by rw [dE];lia) (Nat.zero_le _) ⟨⟨rfl,rfl,rfl,rfl,rfl⟩,rfl⟩
 refine eQ (f:=aMp.1) (ps:= [73,66,48,47,83]) (by rfl) ⟨σ',?_⟩
 simp only [aMp]
 have ln:Ev (aO [(aO [aF 83]).bind nH]) ⟨[(73,.bytes (TX st 0)),(66,stM st n),(48,plM (plT (TX st) n)),(47,.lst (ptM (TX st) n)),(83,.lst (nI walk))],[]⟩ [.int (n:Nat)]:=by
  have:=Ev.lenL (l:=nI walk) (σ:=⟨[(73,.bytes (TX st 0)),(66,stM st n),(48,plM (plT (TX st) n)),(47,.lst (ptM (TX st) n)),(83,.lst (nI walk))],[]⟩) (by rw [bU];lia)
  rw [bU,hl] at this
  exact Ev.cons (Ev.bind (Ev.cons (Ev.var rfl) Ev.nil) this) Ev.nil
 exact (aG (σ':=σ') ((aA (bJ (Ev.rng ln (by lia)))).trans f1)).trans rfl
theorem aEw (hn:n≤8) (hF:Fig st n) (hc:Clo (plT (TX st) n) walk) (hl:walk.length=n):Φ_37 [.bytes (TX st n),stM st n,plM (plT (TX st) n),.lst (ptM (TX st) n),.lst (nI walk)] []=some (.bool true):=by
 have hlt:∀p∈walk,p < n:=fun p hp=>by have:=hc.lt p hp;rwa [hO] at this
 have hrl:(eB ((n:Int) - 1) (-1) n).length=n:=by unfold eB;simp
 obtain ⟨σ',f1,f2,f3⟩:=eE (nx:=fun i _=>some (eB ((n:Int) - 1) (-1) n)[i]?) (tg:=bE 68) (body:=(bS ((((aO [aF 73,((aF 47).bind fun x=>((aF 83).bind fun x=>(aF 68).bind fun y=>cA x y).bind fun y=>cA x y).bind fun x=>(M.lift (kM (Const.int 0))).bind fun y=>cA x y]).bind fun l=>(aO []).bind fun m=>M.pure (l,m)).bind fun q=>M.lift (bV Φ_33 q.fst q.snd)).bind fun y=>(bE 73 y).bind fun x=>M.pure Fl.next)
   ((((((aO [aF 73,aF 66,aF 48,(aF 83).bind fun x=>(aF 68).bind fun y=>M.lift (kU x y)]).bind fun l=>(aO []).bind fun m=>M.pure (l,m)).bind fun q=>M.lift (bV Φ_34 q.fst q.snd)).bind fun x=>M.lift (trM x)).bind fun b=>M.pure !b).bind fun x=>
     match x with
     | true=>(M.lift (kM (Const.bool false))).bind fun x=>M.pure (Fl.ret x)
     | false=>M.pure Fl.next))) (l:=eB ((n:Int) - 1) (-1) n)
  (fun i σ=>TV st n walk (txt (mix (plT (TX st) n) st (walk.take (n - i)))) σ.r∧σ.H= []) (fun i σ _=>rfl)
  (fun i y σ hP hy=>by
   obtain ⟨g1,g2⟩:=hP
   obtain ⟨r,H⟩:=σ
   simp only at g1 g2
   subst g2
   have hi:=(gS hy).1
   rw [hrl] at hi
   obtain ⟨s,hs⟩:∃s,n - i=s+1:=⟨n - i - 1,by lia⟩
   have hy':y= .int (s:Int):=by
    unfold eB at hy
    rw [getElem?_map,getElem?_range hi] at hy
    rw [←sJ hy]
    show MV.int ((n:Int) - 1+(i:Int) * -1)=_
    congr 1
    lia
   subst hy'
   rw [hs] at g1
   obtain ⟨p,hp⟩:∃p,walk[s]?=some p:=⟨_,getElem?_eq_getElem (by lia)⟩
   have hpn:=hlt p (mem_of_getElem? hp)
   have hc1:=hc.take (s+1)
   rw [lS hp] at hc1 g1
   have hst:=tW hn hF (hc.take s) (by rw [length_take];lia)
   have hs':=aEl (st:=st) (aJs hF) (fun q=>aCo (fun ks h=>(oZ ks h).2) q) hc1
   have g1':=g1.set68 (.int s)
   refine ⟨⟨aL 68 (.int s) r,[]⟩,_,.next,rfl,aCz (x:= .lst (dif (TX st p) (TX st (p+1)) (TX st p) 7)) (y:= .lst (nI (walk.take s))) g1' (aCx (c:=0) g1' hn lk' hp (by lia) hpn (by lia) rfl) (aJt hn hF hpn (by lia) hs') ?_ hst,.inl rfl,?_,rfl⟩
   ·exact Ev.bind (Ev.var (g1'.set73 _).r83) (Ev.bind (Ev.var (lk lk' (by decide))) (Ev.lift (aCy (by lia))))
   ·rw [show n - (i+1)=s from by lia];exact g1'.set73 _)
  (n+1) 0 ⟨[(73,.bytes (TX st n)),(66,stM st n),(48,plM (plT (TX st) n)),(47,.lst (ptM (TX st) n)),(83,.lst (nI walk))],[]⟩ (by rw [hrl];lia) (Nat.zero_le _) ⟨by
   have:mix (plT (TX st) n) st (walk.take (n - 0))=fg st n:=by
    rw [Nat.sub_zero,←hl,take_length]
    have:=aNa (aJs hF) hc (by rw [hO];exact hl)
    rw [hO] at this
    rw [hl]
    exact this
   rw [this]
   exact ⟨rfl,rfl,rfl,rfl,rfl⟩,rfl⟩
 refine eQ (f:=aMq.1) (ps:= [73,66,48,47,83]) (by rfl) ⟨σ',?_⟩
 simp only [aMq]
 have ln:Ev ((aO [aF 83]).bind nH) ⟨[(73,.bytes (TX st n)),(66,stM st n),(48,plM (plT (TX st) n)),(47,.lst (ptM (TX st) n)),(83,.lst (nI walk))],[]⟩ (.int (n:Nat)):=by
  have:=Ev.lenL (l:=nI walk) (σ:=⟨[(73,.bytes (TX st n)),(66,stM st n),(48,plM (plT (TX st) n)),(47,.lst (ptM (TX st) n)),(83,.lst (nI walk))],[]⟩) (by rw [bU];lia)
  rw [bU,hl] at this
  exact Ev.bind (Ev.cons (Ev.var rfl) Ev.nil) this
 have rm:fN [.int ((n:Int) - 1),.int (-1),.int (-1)]=some (eB ((n:Int) - 1) (-1) n):=by
  show (if (rOk ((n:Int) - 1) && rOk (-1) && decide ((-1:Int)= -1))=true then some (eB ((n:Int) - 1) (-1) ((n:Int) - 1 - -1).toNat) else none)=_
  rw [if_pos (by rw [Bool.and_eq_true,Bool.and_eq_true];exact ⟨⟨nK.mpr (by lia),rfl⟩,rfl⟩),show ((n:Int) - 1 - -1).toNat=n from by lia]
 have rg:Ev ((aO [((aO [aF 83]).bind nH).bind fun x=>(M.lift (kM (Const.int 1))).bind fun y=>M.lift (bM Operator.Sub x y),(M.lift (kM (Const.int 1))).bind fun x=>M.lift (unM UnaryOp.USub x),(M.lift (kM (Const.int 1))).bind fun x=>M.lift (unM UnaryOp.USub x)]).ne.bind fun l=>(M.lift (fN l)).bind fun l=>M.pure (nxL l)) ⟨[(73,.bytes (TX st n)),(66,stM st n),(48,plM (plT (TX st) n)),(47,.lst (ptM (TX st) n)),(83,.lst (nI walk))],[]⟩ (n+1,fun i _=>some (eB ((n:Int) - 1) (-1) n)[i]?):=by
  refine Ev.bind (a:= [.int ((n:Int) - 1),.int (-1),.int (-1)]) (Ev.ne (Ev.cons (Ev.bind ln (Ev.bind (Ev.lift rfl) (Ev.lift rfl))) (Ev.cons (Ev.bind (Ev.lift rfl) (Ev.lift rfl)) (Ev.cons (Ev.bind (Ev.lift rfl) (Ev.lift rfl)) Ev.nil)))) (Ev.bind (Ev.lift rm) ?_)
  show some (R.ok (nxL _),_)=_
  unfold nxL
  rw [hrl]
 exact (aG (σ':=σ') ((aA (bJ rg)).trans f1)).trans rfl
end
theorem yM:∀(vs:List Int) (rs:List (List Int)) (row:List Int),rs.getLast?=some row→(∀r∈rs,r.length=5∧∀b∈r,0≤b∧b < 256)→∀r∈vs.foldl (fun rs v=>rs++ [dU (rs.getLast?.getD []) v]) rs,r.length=5∧∀b∈r,0≤b∧b < 256
 | [],rs,row,h,hg=>hg
 | v::vs,rs,row,h,hg=>by
  rw [foldl_cons,h]
  have hm:=hg row (List.mem_of_getLast? h)
  refine yM vs (rs++ [dU row v]) (dU row v) (by simp) fun r hr=>?_
  rcases mem_append.mp hr with hr|hr
  ·exact hg r hr
  ·rw [mS hr];exact ⟨rL hm.1 v,rM hm.2 v⟩
theorem aEx (vs:List Int):∀r∈cF vs,r.length=5∧∀b∈r,0≤b∧b < 256:=yM vs _ [77,97,110,9,200] rfl (by decide)
noncomputable def stR (ms:List Int) (i k:Nat):Int:=((val 256 ((cF ms).getD i []) * 4).fdiv (64 ^ (6 - k))).fmod 64
theorem aNj (ms:List Int) (n:Nat):Fig (stR ms) n:=by
 refine ⟨fun i _ k _=>gR _ (by decide),fun i _=>?_⟩
 have:stR ms i 6=(val 256 ((cF ms).getD i []) * 4).fmod 64:=by
  unfold stR
  rw [show (64:Int) ^ (6 - 6)=1 from rfl,Int.fdiv_one]
 rw [this,Int.fmod_eq_emod_of_nonneg _ (by decide)]
 lia
theorem tX {α β:Type} (l:List α) (d:α) (f:α→β):l.map f=(List.range l.length).map fun i=>f (l.getD i d):=by
 refine List.ext_getElem (by simp) fun i h1 h2=>?_
 rw [length_map] at h1
 simp [getD_eq_getElem?_getD,h1]
noncomputable def aEy (ns:List Int):List Int:= [0,2,81,397]++(ns.take 4).map fun i=>i.fmod 1000000
theorem aJu (ns:List Int):(aEy ns).length≤8:=by unfold aEy;simp;lia
theorem pB {z k:Nat} {l:List MV} {loc:List Nat} {elt:M MV} {e:MV→MV} {σ:St} {tgt:Nat} (hk:tgt∈loc) (hv:σ.r.lookup z=some (.lst l)) (hz:l.length≤1000) (h:∀x∈l,∀r',Agr loc σ.r r'→r'.lookup tgt=some x→Ev elt ⟨r',σ.H⟩ (e x)):
  Ev (dH loc ((aF z).bind gZ) (bE tgt) (M.pure true) elt) σ (l.map e):=by
 have:=Ev.compG (e:=fun x=>some (e x)) (tg:=bE tgt) (cond:=M.pure true) (elt:=elt) (loc:=loc) (Ev.bind (Ev.var hv) Ev.src_lst) (Nat.lt_succ_self _) (fun _=>rfl) (fun x hx r' ha=>⟨aL tgt x r',rfl,ha.set hk,.inr ⟨e x,rfl,Ev.pure,h x hx _ (ha.set hk) lk'⟩⟩) (by lia)
 rw [fT] at this
 exact this
theorem aJv (l:List Int) {σ:St}:Ev (aDp [.lst (l.map .int)]) σ (.int l.sum):=by
 show M.bind (cK (.lst (l.map .int))) (fun l=>M.lift ((fC l).map fun ns=>MV.int ns.sum)) σ=_
 refine Ev.bind (a:=l.map MV.int) rfl (Ev.lift ?_)
 rw [fE];rfl
theorem aJw (ns:List Int):0≤(aEy ns).sum∧(aEy ns).sum≤5000000:=by
 unfold aEy
 have h:∀l:List Int,0≤(l.map fun i=>i.fmod 1000000).sum∧(l.map fun i=>i.fmod 1000000).sum≤1000000 * l.length:=by
  intro l
  induction l with
  | nil=>exact ⟨Int.le_refl _,Int.le_refl _⟩
  | cons x l ih=>
   have:=gR x (b:=1000000) (by decide)
   rw [map_cons,List.sum_cons,length_cons]
   lia
 have h4:=h (ns.take 4)
 have hl:(ns.take 4).length≤4:=by simp;lia
 have e:([0,2,81,397]++(ns.take 4).map fun (i:Int)=>i.fmod 1000000:List Int).sum=480+((ns.take 4).map fun (i:Int)=>i.fmod 1000000).sum:=by
  rw [List.sum_append];rfl
 rw [e]
 lia
theorem aEz {σ:St} {L:List MV} {x:MV} (hz:L.length≤1000):Ev (cA (.lst (L++ [x])) (.int (-1))) σ x:=by
 have e:idxL (L++ [x]) (-1)=some (.ok x):=by
  unfold idxL
  rw [if_pos (fM.mpr (by lia)),if_neg (by decide),if_pos (decide_eq_true (by simp;lia))]
  have:((-1:Int)+(L++ [x]).length).toNat=L.length:=by rw [length_append];show ((-1:Int)+((L.length+1:Nat):Int)).toNat=L.length;lia
  rw [this,getElem?_append_right (Nat.le_refl _)];simp
 refine rP.trans ?_
 rw [e];rfl
theorem hU {Φ:List MV→List MV→Option MV} {l:List MV} {y:MV} (h:Φ l []=some y) (hc:∀x∈l,clo x=true):bV Φ l []=some y:=by
 unfold bV
 rw [if_pos]
 ·exact h
 ·rw [Bool.and_eq_true]
  exact ⟨cU hc,rfl⟩
theorem wD {P:MV→Prop} {a:MV} (h:P a):∀x∈ [a],P x:=fun x hx=>by rw [mS hx];exact h
theorem sR {P:MV→Prop} {a:MV} {l:List MV} (h:P a) (h':∀x∈l,P x):∀x∈a::l,P x:=fun x hx=>by
 rcases mem_cons.mp hx with rfl|hx
 ·exact h
 ·exact h' x hx
theorem aJx {r:List Int} (h:r.length=5):∃b0 b1 b2 b3 b4,r= [b0,b1,b2,b3,b4]:=by
 have st:∀{n:Nat} {l:List Int},l.length=n+1→∃a t,l=a::t∧t.length=n:=fun h=>yO (List.exists_cons_of_length_eq_add_one h) fun a t e=>⟨a,t,e,by rw [e] at h;exact Nat.succ.inj h⟩
 exact cJ (st h) fun b0 t0 e0 h0=>cJ (st h0) fun b1 t1 e1 h1=>cJ (st h1) fun b2 t2 e2 h2=>cJ (st h2) fun b3 t3 e3 h3=>cJ (st h3) fun b4 t4 e4 h4=>⟨b0,b1,b2,b3,b4,by rw [e0,e1,e2,e3,e4,List.length_eq_zero_iff.mp h4]⟩
noncomputable def unI:MV→Int
 | .int i=>i
 | _=>0
noncomputable def unL:MV→List Int
 | .lst l=>l.map unI
 | _=> []
theorem lG (l:List Int):unL (bZ l)=l:=by
 show (l.map MV.int).map unI=l
 rw [map_map]
 exact (map_congr_left fun _ _=>rfl).trans (List.map_id l)
theorem LP (ns:List Int) (hn:ns.length≤63):Φ_38 [.lst (ns.map .int)] []=some (.bool true):=by
 generalize hms:aEy ns=ms
 generalize hN:ms.length=n
 have hn8:n≤8:=by have:=aJu ns;rw [hms,hN] at this;exact this
 have hs:=aJw ns
 rw [hms] at hs
 have hrl:(cF ms).length=n+1:=by rw [(xZ ms).1,hN]
 have hst:(cF ms).map (fun r=>bZ (fU r))=(List.range (n+1)).map fun i=>bZ (fg (stR ms) i):=by rw [tX (cF ms) [],hrl];rfl
 have htx:(cF ms).map (fun r=>MV.bytes (txt (fU r)))=(List.range (n+1)).map fun i=>MV.bytes (TX (stR ms) i):=by rw [tX (cF ms) [],hrl];rfl
 have hF:=aNj ms n
 have hall:=aEx ms
 have p35:bV Φ_35 [.lst ((List.range (n+1)).map fun i=>MV.bytes (TX (stR ms) i))] []=some (.tup [plM (plT (TX (stR ms)) n),.lst (ptM (TX (stR ms)) n)]):=hU (vZ hn8 fun i=>aJq (stR ms) i) (wD (by
  refine cU fun x hx=>?_
  (refine aJ (mem_map.mp hx) fun i _ e_7=>?_;obtain rfl:=e_7)
  exact cX _))
 have hpz:(plT (TX (stR ms)) n).length≤8:=by rw [hO];exact hn8
 refine bG (tU ms.sum hpz oZ) fun w1 k1 c1 l1=>?_
 refine bG (tU (7 * ms.sum+1) hpz oZ) fun w2 k2 c2 l2=>?_
 rw [hO] at l1 l2
 have ci:∀i:Int,clo (.int i)=true:=fun i=>by rfl
 have q1:=hU k1 (sR (lR _) (wD (ci _)))
 have q2:=hU k2 (sR (lR _) (wD (ci _)))
 have cpt:clo (.lst (ptM (TX (stR ms)) n))=true:=by exact aCw ..
 have t1:=hU (aAt hn8 hF c1 l1) (sR (cX _) (sR (wA ..) (sR (lR _) (sR cpt (wD (rX _))))))
 have t2:=hU (aEw hn8 hF c2 l2) (sR (cX _) (sR (wA ..) (sR (lR _) (sR cpt (wD (rX _))))))
 have p26:bV Φ_26 [.lst (ms.map .int)] []=some (.lst ((cF ms).map bZ)):=hU (sP ms (by lia)) (wD (hM _))
 refine eQ (f:=aMr.1) (ps:= [59]) (by rfl) ⟨⟨[(59,.lst (ns.map .int)),(38,.lst (ms.map .int)),(57,.lst ((cF ms).map bZ)),(66,stM (stR ms) n),(74,.lst ((List.range (n+1)).map fun i=>MV.bytes (TX (stR ms) i))),(48,plM (plT (TX (stR ms)) n)),(47,.lst (ptM (TX (stR ms)) n)),(60,.lst (nI w2)),(19,.lst (nI w1))],[]⟩,?_⟩
 simp only [aMr]
 have s1:Ev (((aO [M.lift (kM (Const.int 0)),M.lift (kM (Const.int 2)),M.lift (kM (Const.int 81)),M.lift (kM (Const.int 397))]).bind fun l=>M.lift (uF l)).bind fun x=>
    ((dH [10] (((aF 59).bind fun x=>(M.lift (kM (Const.int 4))).bind fun y=>M.lift (kU x y)).bind gZ) (bE 10) (M.pure true) (((aO [aF 10]).bind zA).bind fun x=>((M.lift (kM (Const.int 10))).bind fun x=>(M.lift (kM (Const.int 6))).bind fun y=>M.lift (bM Operator.Pow x y)).bind fun y=>M.lift (bM Operator.Mod x y))).ne.bind
       fun l=>M.pure (MV.lst l)).bind
     fun y=>M.lift (bM Operator.Add x y)) ⟨[(59,.lst (ns.map .int))],[]⟩ (.lst (ms.map .int)):=by
  have tk:kU (.lst (ns.map .int)) (.int 4)=some (.lst ((ns.take 4).map .int)):=by
   rw [List.map_take]
   show (if (decide ((0:Int)≤4) && cC (ns.map MV.int).length)=true then some (MV.lst ((ns.map MV.int).take (4:Int).toNat)) else none)=_
   rw [if_pos (by rw [Bool.and_eq_true];exact ⟨rfl,bK (by rw [length_map];lia)⟩)];rfl
  have cm:=Ev.compG (e:=fun x=>oI x fun i=>some (.int (i.fmod 1000000))) (tg:=bE 10) (cond:=M.pure true) (elt:=(((aO [aF 10]).bind zA).bind fun x=>((M.lift (kM (Const.int 10))).bind fun x=>(M.lift (kM (Const.int 6))).bind fun y=>M.lift (bM Operator.Pow x y)).bind fun y=>M.lift (bM Operator.Mod x y))) (loc:= [10]) (fi:=(((aF 59).bind fun x=>(M.lift (kM (Const.int 4))).bind fun y=>M.lift (kU x y)).bind gZ)) (σ:=⟨[(59,.lst (ns.map .int))],[]⟩) (l:=(ns.take 4).map .int) (Ev.bind (Ev.bind (Ev.var rfl) (Ev.bind (Ev.lift rfl) (Ev.lift tk))) Ev.src_lst) (Nat.lt_succ_self _) (fun _=>rfl) (fun x hx r' ha=>by
    (refine aJ (mem_map.mp hx) fun i _ e_6=>?_;obtain rfl:=e_6)
    exact ⟨aL 10 (.int i) r',rfl,ha.set (by decide),.inr ⟨_,rfl,Ev.pure,Ev.bind (Ev.bind (Ev.cons (Ev.var lk') Ev.nil) Ev.pure) (Ev.bind (Ev.bind (Ev.lift rfl) (Ev.bind (Ev.lift rfl) (Ev.lift rfl))) (Ev.lift rfl))⟩⟩) (by rw [length_map];simp;lia)
  have hfm:((ns.take 4).map MV.int).filterMap (fun x=>oI x fun i=>some (MV.int (i.fmod 1000000)))=((ns.take 4).map fun i=>i.fmod 1000000).map .int:=by
   rw [filterMap_map,map_map]
   exact fT ..
  rw [hfm] at cm
  refine Ev.bind (a:= .lst ([0,2,81,397].map .int)) (Ev.bind (Ev.cons (Ev.lift rfl) (Ev.cons (Ev.lift rfl) (Ev.cons (Ev.lift rfl) (Ev.cons (Ev.lift rfl) Ev.nil)))) (Ev.lift rfl)) (Ev.bind (Ev.bind (Ev.ne cm) Ev.pure) (Ev.lift ?_))
  show (if cC _=true then some (MV.lst ([0,2,81,397].map MV.int++((ns.take 4).map fun i=>i.fmod 1000000).map MV.int)) else none)=_
  rw [if_pos (bK (by simp;lia)),←map_append,←hms];rfl
 refine (aG (σ':=⟨[(59,.lst (ns.map .int)),(38,.lst (ms.map .int))],[]⟩) ((aA s1).trans rfl)).trans ?_
 refine (aG (σ':=⟨[(59,.lst (ns.map .int)),(38,.lst (ms.map .int)),(57,.lst ((cF ms).map bZ))],[]⟩) ((aA (Ev.call (Ev.cons (Ev.var rfl) Ev.nil) Ev.nil p26)).trans rfl)).trans ?_
 have s3:Ev (dH [56] ((aF 57).bind gZ) (bE 56) (M.pure true) (((aO [aF 56]).bind fun l=>(aO []).bind fun m=>M.pure (l,m)).bind fun q=>M.lift (bV Φ_27 q.fst q.snd))) ⟨[(59,.lst (ns.map .int)),(38,.lst (ms.map .int)),(57,.lst ((cF ms).map bZ))],[]⟩ ((List.range (n+1)).map fun i=>bZ (fg (stR ms) i)):=by
  have:=pB (z:=57) (k:=0) (l:=(cF ms).map bZ) (loc:= [56]) (tgt:=56) (elt:=(((aO [aF 56]).bind fun l=>(aO []).bind fun m=>M.pure (l,m)).bind fun q=>M.lift (bV Φ_27 q.fst q.snd))) (e:=fun x=>bZ (fU (unL x))) (σ:=⟨[(59,.lst (ns.map .int)),(38,.lst (ms.map .int)),(57,.lst ((cF ms).map bZ))],[]⟩) (by decide) rfl (by rw [length_map];lia) fun x hx r' ha hl=>by
   (refine aJ (mem_map.mp hx) fun row _ e_5=>?_;obtain rfl:=e_5)
   rw [lG]
   exact Ev.call (Ev.cons (Ev.var hl) Ev.nil) Ev.nil (hU (vD row) (wD (nV row)))
  rw [map_map] at this
  rw [←hst]
  refine Eq.trans this ?_
  congr 3
  refine map_congr_left fun row _=>?_
  show bZ (fU (unL (bZ row)))=_
  rw [lG]
 refine (aG (σ':=⟨[(59,.lst (ns.map .int)),(38,.lst (ms.map .int)),(57,.lst ((cF ms).map bZ)),(66,stM (stR ms) n)],[]⟩) ((aA (bJ s3)).trans rfl)).trans ?_
 have s4:Ev (dH [56] ((aF 57).bind gZ) (bE 56) (M.pure true) (((aO [(aO [aF 56]).bind mN]).bind fun l=>(aO []).bind fun m=>M.pure (l,m)).bind fun q=>M.lift (bV Φ_20 q.fst q.snd))) ⟨[(59,.lst (ns.map .int)),(38,.lst (ms.map .int)),(57,.lst ((cF ms).map bZ)),(66,stM (stR ms) n)],[]⟩ ((List.range (n+1)).map fun i=>MV.bytes (TX (stR ms) i)):=by
  have:=pB (z:=57) (k:=0) (l:=(cF ms).map bZ) (loc:= [56]) (tgt:=56) (elt:=(((aO [(aO [aF 56]).bind mN]).bind fun l=>(aO []).bind fun m=>M.pure (l,m)).bind fun q=>M.lift (bV Φ_20 q.fst q.snd))) (e:=fun x=> .bytes (txt (fU (unL x)))) (σ:=⟨[(59,.lst (ns.map .int)),(38,.lst (ms.map .int)),(57,.lst ((cF ms).map bZ)),(66,stM (stR ms) n)],[]⟩) (by decide) rfl (by rw [length_map];lia) fun x hx r' ha hl=>by
   (refine aJ (mem_map.mp hx) fun row hrow e_4=>?_;obtain rfl:=e_4)
   rw [lG]
   obtain ⟨h5,hb⟩:=hall row hrow
   refine aKf (aJx h5) fun b0 b1 b2 b3 b4 hr=>?_
   exact Ev.call (Ev.cons (Ev.bind (Ev.cons (Ev.var hl) Ev.nil) (Ev.bytes hb (by lia))) Ev.nil) Ev.nil (hU (lC hr hb) (wD (cX row)))
  rw [map_map] at this
  rw [←htx]
  refine Eq.trans this ?_
  congr 3
  refine map_congr_left fun row _=>?_
  show MV.bytes (txt (fU (unL (bZ row))))=_
  rw [lG]
 refine (aG (σ':=⟨[(59,.lst (ns.map .int)),(38,.lst (ms.map .int)),(57,.lst ((cF ms).map bZ)),(66,stM (stR ms) n),(74,.lst ((List.range (n+1)).map fun i=>MV.bytes (TX (stR ms) i)))],[]⟩) ((aA (bJ s4)).trans rfl)).trans ?_
 have s5:Ev (dH [18] ((aF 66).bind gZ) (bE 18) (M.pure true) (((aO [aF 18]).bind fun l=>(aO []).bind fun m=>M.pure (l,m)).bind fun q=>M.lift (bV Φ_29 q.fst q.snd))) ⟨[(59,.lst (ns.map .int)),(38,.lst (ms.map .int)),(57,.lst ((cF ms).map bZ)),(66,stM (stR ms) n),(74,.lst ((List.range (n+1)).map fun i=>MV.bytes (TX (stR ms) i)))],[]⟩ ((List.range (n+1)).map fun i=>MV.bytes (TX (stR ms) i)):=by
  have:=pB (z:=66) (k:=0) (l:=(List.range (n+1)).map fun i=>bZ (fg (stR ms) i)) (loc:= [18]) (tgt:=18) (elt:=(((aO [aF 18]).bind fun l=>(aO []).bind fun m=>M.pure (l,m)).bind fun q=>M.lift (bV Φ_29 q.fst q.snd))) (e:=fun x=> .bytes (txt (unL x))) (σ:=⟨[(59,.lst (ns.map .int)),(38,.lst (ms.map .int)),(57,.lst ((cF ms).map bZ)),(66,stM (stR ms) n),(74,.lst ((List.range (n+1)).map fun i=>MV.bytes (TX (stR ms) i)))],[]⟩) (by decide) rfl (by rw [length_map,length_range];lia) fun x hx r' ha hl=>by
   (refine aJ (mem_map.mp hx) fun i hi e_3=>?_;obtain rfl:=e_3)
   have hi:=mem_range.mp hi
   rw [lG]
   refine Ev.call (Ev.cons (Ev.var hl) Ev.nil) Ev.nil (hU (aEi (fg (stR ms) i) (fun f hf=>?_) (by show 7≤1000;decide)) (wD (nV _)))
   unfold fg at hf
   (refine aJ (mem_map.mp hf) fun k hk e_2=>?_;obtain rfl:=e_2)
   exact hF.rng i (by lia) k (mem_range.mp hk)
  rw [map_map] at this
  refine Eq.trans this ?_
  congr 3
 have ne:cG CmpOp.NotEq (.lst ((List.range (n+1)).map fun i=>MV.bytes (TX (stR ms) i))) (.lst ((List.range (n+1)).map fun i=>MV.bytes (TX (stR ms) i)))=some false:=by
  show (eqD 5 (.lst ((List.range (n+1)).map fun i=>MV.bytes (TX (stR ms) i))) (.lst ((List.range (n+1)).map fun i=>MV.bytes (TX (stR ms) i)))).map (!·)=_
  rw [aCu fun x hx=>by
   (refine aJ (mem_map.mp hx) fun i _ e_1=>?_;obtain rfl:=e_1)
   show some (TX (stR ms) i==TX (stR ms) i)=_
   rw [beq_self_eq_true]]
  rfl
 refine (aG (σ':=⟨[(59,.lst (ns.map .int)),(38,.lst (ms.map .int)),(57,.lst ((cF ms).map bZ)),(66,stM (stR ms) n),(74,.lst ((List.range (n+1)).map fun i=>MV.bytes (TX (stR ms) i)))],[]⟩) ?_).trans ?_
 ·refine (aA (a:=false) (σ':=⟨[(59,.lst (ns.map .int)),(38,.lst (ms.map .int)),(57,.lst ((cF ms).map bZ)),(66,stM (stR ms) n),(74,.lst ((List.range (n+1)).map fun i=>MV.bytes (TX (stR ms) i)))],[]⟩) ?_).trans rfl
  refine (aA (bA rfl)).trans ?_
  exact (aA ((aA (bJ s5)).trans rfl)).trans (bY ne)
 refine (aG (σ':=⟨[(59,.lst (ns.map .int)),(38,.lst (ms.map .int)),(57,.lst ((cF ms).map bZ)),(66,stM (stR ms) n),(74,.lst ((List.range (n+1)).map fun i=>MV.bytes (TX (stR ms) i))),(48,plM (plT (TX (stR ms)) n)),(47,.lst (ptM (TX (stR ms)) n))],[]⟩) ((aA (Ev.call (Ev.cons (Ev.var rfl) Ev.nil) Ev.nil p35)).trans rfl)).trans ?_
 refine (aG (σ':=⟨[(59,.lst (ns.map .int)),(38,.lst (ms.map .int)),(57,.lst ((cF ms).map bZ)),(66,stM (stR ms) n),(74,.lst ((List.range (n+1)).map fun i=>MV.bytes (TX (stR ms) i))),(48,plM (plT (TX (stR ms)) n)),(47,.lst (ptM (TX (stR ms)) n))],[]⟩) rfl).trans ?_
 have m7:bM Operator.Mult (.int 7) (.int ms.sum)=some (.int (7 * ms.sum)):=by
  show ((if small ms.sum=true then some (7 * ms.sum) else none):Option Int).map MV.int=_
  rw [if_pos (wG (by lia) (by lia))];rfl
 have sm:∀{r:List (Nat×MV)},r.lookup 38=some (.lst (ms.map .int))→Ev ((aO [aF 38]).bind aDp) ⟨r,[]⟩ (.int ms.sum):=fun h=>Ev.bind (Ev.cons (Ev.var h) Ev.nil) (aJv ms)
 have s8:Ev ((aO [((aO [aF 48,(aO [aF 38]).bind aDp]).bind fun l=>(aO []).bind fun m=>M.pure (l,m)).bind fun q=>M.lift (bV Φ_32 q.fst q.snd),((aO [aF 48,((M.lift (kM (Const.int 7))).bind fun x=>((aO [aF 38]).bind aDp).bind fun y=>M.lift (bM Operator.Mult x y)).bind fun x=>(M.lift (kM (Const.int 1))).bind fun y=>M.lift (bM Operator.Add x y)]).bind fun l=>(aO []).bind fun m=>M.pure (l,m)).bind fun q=>M.lift (bV Φ_32 q.fst q.snd)]).bind fun l=>M.lift (pQ l)) ⟨[(59,.lst (ns.map .int)),(38,.lst (ms.map .int)),(57,.lst ((cF ms).map bZ)),(66,stM (stR ms) n),(74,.lst ((List.range (n+1)).map fun i=>MV.bytes (TX (stR ms) i))),(48,plM (plT (TX (stR ms)) n)),(47,.lst (ptM (TX (stR ms)) n))],[]⟩ (.tup [.lst (nI w1),.lst (nI w2)]):=by
  have x7:∀{r:List (Nat×MV)},r.lookup 38=some (.lst (ms.map .int))→Ev (((M.lift (kM (Const.int 7))).bind fun x=>((aO [aF 38]).bind aDp).bind fun y=>M.lift (bM Operator.Mult x y)).bind fun x=>(M.lift (kM (Const.int 1))).bind fun y=>M.lift (bM Operator.Add x y)) ⟨r,[]⟩ (.int (7 * ms.sum+1)):=fun h=>Ev.bind (Ev.bind (Ev.lift rfl) (Ev.bind (sm h) (Ev.lift m7))) (Ev.bind (Ev.lift rfl) (Ev.lift rfl))
  exact Ev.bind (Ev.cons (Ev.call (Ev.cons (Ev.var rfl) (Ev.cons (sm rfl) Ev.nil)) Ev.nil q1) (Ev.cons (Ev.call (Ev.cons (Ev.var rfl) (Ev.cons (x7 rfl) Ev.nil)) Ev.nil q2) Ev.nil)) (Ev.lift rfl)
 refine (aG (σ':=⟨[(59,.lst (ns.map .int)),(38,.lst (ms.map .int)),(57,.lst ((cF ms).map bZ)),(66,stM (stR ms) n),(74,.lst ((List.range (n+1)).map fun i=>MV.bytes (TX (stR ms) i))),(48,plM (plT (TX (stR ms)) n)),(47,.lst (ptM (TX (stR ms)) n)),(60,.lst (nI w2)),(19,.lst (nI w1))],[]⟩) ((aA (bJ s8)).trans rfl)).trans ?_
 generalize hr:([(59,.lst (ns.map .int)),(38,.lst (ms.map .int)),(57,.lst ((cF ms).map bZ)),(66,stM (stR ms) n),(74,.lst ((List.range (n+1)).map fun i=>MV.bytes (TX (stR ms) i))),(48,plM (plT (TX (stR ms)) n)),(47,.lst (ptM (TX (stR ms)) n)),(60,.lst (nI w2)),(19,.lst (nI w1))]:List (Nat×MV))=r
 have v74:r.lookup 74=some (.lst ((List.range (n+1)).map fun i=>MV.bytes (TX (stR ms) i))):=by subst hr;rfl
 have v66:r.lookup 66=some (stM (stR ms) n):=by subst hr;rfl
 have v48:r.lookup 48=some (plM (plT (TX (stR ms)) n)):=by subst hr;rfl
 have v47:r.lookup 47=some (.lst (ptM (TX (stR ms)) n)):=by subst hr;rfl
 have v19:r.lookup 19=some (.lst (nI w1)):=by subst hr;rfl
 have v60:r.lookup 60=some (.lst (nI w2)):=by subst hr;rfl
 clear hr
 have o1:Ev (Mine.orM ((aF 19).bind fun x=>(M.lift (kM Const.none)).bind fun y=>M.lift (cG CmpOp.Is x y)) (Mine.orM ((aF 60).bind fun x=>(M.lift (kM Const.none)).bind fun y=>M.lift (cG CmpOp.Is x y)) (M.pure (BoolOp.Or==BoolOp.And)))) ⟨r,[]⟩ false:=
  Ev.bind (a:=false) (Ev.bind (Ev.var v19) (Ev.bind (Ev.lift rfl) (Ev.lift rfl))) (Ev.bind (a:=false) (Ev.bind (Ev.var v60) (Ev.bind (Ev.lift rfl) (Ev.lift rfl))) rfl)
 refine (aG (σ':=⟨r,[]⟩) ((aA o1).trans rfl)).trans ?_
 have i0:Ev ((aF 74).bind fun x=>(M.lift (kM (Const.int 0))).bind fun y=>cA x y) ⟨r,[]⟩ (.bytes (TX (stR ms) 0)):=Ev.bind (Ev.var v74) (Ev.bind (Ev.lift rfl) (Ev.idxL (i:=0) (by rw [getElem?_map,getElem?_range (by lia)];rfl) (by lia)))
 have i1:Ev ((aF 74).bind fun x=>((M.lift (kM (Const.int 1))).bind fun x=>M.lift (unM UnaryOp.USub x)).bind fun y=>cA x y) ⟨r,[]⟩ (.bytes (TX (stR ms) n)):=by
  rw [range_succ,map_append] at v74
  exact Ev.bind (Ev.var v74) (Ev.bind (Ev.bind (Ev.lift rfl) (Ev.lift rfl)) (aEz (by rw [length_map,length_range];lia)))
 refine (aG (σ':=⟨r,[]⟩) ?_).trans ?_
 ·refine (aA (a:=false) (σ':=⟨r,[]⟩) ?_).trans rfl
  refine (aA (a:=true) (σ':=⟨r,[]⟩) ?_).trans rfl
  exact (aA (Ev.call (Ev.cons i0 (Ev.cons (Ev.var v66) (Ev.cons (Ev.var v48) (Ev.cons (Ev.var v47) (Ev.cons (Ev.var v19) Ev.nil))))) Ev.nil t1)).trans (bY rfl)
 exact aA (Ev.call (Ev.cons i1 (Ev.cons (Ev.var v66) (Ev.cons (Ev.var v48) (Ev.cons (Ev.var v47) (Ev.cons (Ev.var v60) Ev.nil))))) Ev.nil t2)
end Mine
end
section
open PySem PySem.W PyProof.Rows PySem.SeqAt PySem.Calls
set_option maxRecDepth 100000
set_option tactic.hygienic false
namespace Mine
section
variable {C:Cx} {fd:FuncData}
theorem lT {zs:List Str} {ps:List Nat} {pm:List MV→List MV→Option (List MV)} (B:cH C)
  (h:∀(args kws:List MV) (xs:List MV),pm args kws=some xs→(dZ args=true→dZ kws=true→dZ xs=true)∧
   ∀(G:Gh) (hp:Heap) (vals kvs:List Value),aK G hp args vals→aK G hp kws kvs→∃ws,aK G hp xs ws∧∀S,peek C.K S (bindArgs fd ⟨vals,zs.zip kvs⟩)=some ((ps.map nm).zip ws)):mB C fd zs ps pm:=by
 intro G s args kws vals kvs xs hb g ra rk e
 obtain ⟨h1,h2⟩:=h args kws xs e
 refine ⟨h1,fun A E Q hq=>?_⟩
 refine aJ (h2 G s.heap vals kvs ra rk) fun ws rw hp=>?_
 exact kp_binds (B.kin.keeps hb) hp _ _ _ _ (hq ws s (Ext.refl s) rw)
theorem wE {n:Nat} {args kws xs:List MV} (e:aU n args kws=some xs):args.length=n∧kws= []∧xs=args:=by
 unfold aU at e
 split at e
 ·rename_i h;(obtain rfl:=sJ e)
  obtain ⟨a,b⟩:=and_eq_true_iff.mp h
  exact ⟨Nat.eq_of_beq_eq_true a,by simpa using b,rfl⟩
 ·exact aP e
noncomputable def aJy:Nat→(List Value→Prop)→Prop
 | 0,P=>P []
 | n+1,P=>∀v,aJy n fun l=>P (v::l)
theorem qD:∀{n:Nat} {P:List Value→Prop},aJy n P→∀l:List Value,l.length=n→P l
 | 0,P,h,l,e=>by rw [List.eq_nil_of_length_eq_zero e];exact h
 | n+1,P,h,v::l,e=>qD (h v) l (Nat.succ.inj e)
noncomputable def aRv:Nat→Nat→(List Value→Prop)→Prop
 | n,0,P=>aJy n P
 | n,k+1,P=>aJy n P∧aRv (n+1) k P
theorem aDa:∀{k n:Nat} {P:List Value→Prop},aRv n k P→∀l:List Value,n≤l.length→l.length≤n+k→P l
 | 0,n,P,h,l,h1,h2=>qD h l (Nat.le_antisymm h2 h1)
 | k+1,n,P,h,l,h1,h2=>if e:l.length=n then qD h.1 l e else aDa h.2 l (Nat.lt_of_le_of_ne h1 (Ne.symm e)) (by omega)
theorem aAu {G:Gh} {h:Heap} {vs:List Value} (r:aK G h [] vs):vs= []:=List.eq_nil_of_length_eq_zero r.length.symm
theorem cP {n:Nat} {ps:List Nat} (B:cH C) (h:∀S,aJy n fun vals=>peek C.K S (bindArgs fd ⟨vals,[]⟩)=some ((ps.map nm).zip vals)):mB C fd [] ps (aU n):=
 lT B fun args kws xs e=>by
  (refine iC (wE e) fun h1 e_7 e_8=>?_;obtain rfl:=e_7;obtain rfl:=e_8)
  exact ⟨fun a _=>a,fun G hp vals kvs ra rk=>⟨vals,ra,fun S=>by rw [aAu rk];exact qD (h S) vals (ra.length.symm.trans h1)⟩⟩
theorem nY {vs:List Value} (h:vs.length=1):∃v,vs= [v]:=List.length_eq_one_iff.mp h
theorem aFa {args kws xs:List MV} (e:aAe 1 args kws=some xs):args.length=1∧kws.length=1∧xs=args++kws:=by
 unfold aAe at e
 split at e
 ·rename_i h'
  obtain ⟨a,b⟩:=and_eq_true_iff.mp h'
  exact ⟨Nat.eq_of_beq_eq_true a,Nat.eq_of_beq_eq_true b,(sJ e).symm⟩
 ·exact aP e
theorem aDb {p q:Nat} {z:Str} (B:cH C) (h:∀v u S,peek C.K S (bindArgs fd ⟨[v],[(z,u)]⟩)=some [(nm p,v),(nm q,u)]):mB C fd [z] [p,q] (aAe 1):=
 lT B fun args kws xs e=>by
  (refine iC (aFa e) fun a b e_6=>?_;obtain rfl:=e_6)
  refine ⟨fun c d=>by rw [gO,c,d];rfl,fun G hp vals kvs ra rk=>⟨vals++kvs,ra.append rk,fun S=>?_⟩⟩
  obtain ⟨v,rfl⟩:=nY (ra.length.symm.trans a)
  obtain ⟨u,rfl⟩:=nY (rk.length.symm.trans b)
  exact h v u S
theorem yN {args kws xs:List MV} (e:mT args kws=some xs):args.length=1∧kws= []∧xs=args++ [.none]:=by
 unfold mT at e
 split at e
 ·rename_i h'
  obtain ⟨a,b⟩:=and_eq_true_iff.mp h'
  exact ⟨Nat.eq_of_beq_eq_true a,by simpa using b,(sJ e).symm⟩
 ·exact aP e
theorem tY {p q:Nat} (B:cH C) (h:∀v S,peek C.K S (bindArgs fd ⟨[v],[]⟩)=some [(nm p,v),(nm q,.none)]):mB C fd [] [p,q] mT:=
 lT B fun args kws xs e=>by
  (refine iC (yN e) fun a e_4 e_5=>?_;obtain rfl:=e_4;obtain rfl:=e_5)
  refine ⟨fun c d=>by rw [gO,c];rfl,fun G hp vals kvs ra rk=>⟨vals++ [.none],ra.append (.cons .none .nil),fun S=>?_⟩⟩
  obtain ⟨v,rfl⟩:=nY (ra.length.symm.trans a)
  rw [aAu rk]
  exact h v S
theorem aAv {args kws xs:List MV} (e:xR args kws=some xs):args.length=1∧kws.length=1∧xs=args++ [.none]++kws:=by
 unfold xR at e
 split at e
 ·rename_i h'
  obtain ⟨a,b⟩:=and_eq_true_iff.mp h'
  exact ⟨Nat.eq_of_beq_eq_true a,Nat.eq_of_beq_eq_true b,(sJ e).symm⟩
 ·exact aP e
theorem aJz {p q r:Nat} {z:Str} (B:cH C) (h:∀v u S,peek C.K S (bindArgs fd ⟨[v],[(z,u)]⟩)=some [(nm p,v),(nm q,.none),(nm r,u)]):mB C fd [z] [p,q,r] xR:=
 lT B fun args kws xs e=>by
  (refine iC (aAv e) fun a b e_3=>?_;obtain rfl:=e_3)
  refine ⟨fun c d=>by rw [gO,gO,c,d];rfl,fun G hp vals kvs ra rk=>⟨vals++ [.none]++kvs,(ra.append (.cons .none .nil)).append rk,fun S=>?_⟩⟩
  obtain ⟨v,rfl⟩:=nY (ra.length.symm.trans a)
  obtain ⟨u,rfl⟩:=nY (rk.length.symm.trans b)
  exact h v u S
set_option tactic.hygienic true in
theorem aKa {α:Type} {K:Frag} {M:Model} {A:Around} {E:Value→Shared→Prop} {Q:α→Shared→Prop} {s:Shared} {o:Obj} {r:Addr→α} (X:K.In s.heap)
  (q:Q (r s.heap.objs.size) { s with heap:=s.heap.push o }):∀(t:Sem α) (g:Addr→Option α),peek1 K ⟨M.prog,M.w.params⟩ t=some (o,g)→(∀D,g D=some (r D))→wpAny M A t Q E s:=by
 intro t
 induction t with
 | rule _ k ih=>intro g e hg Γ p hΓ;exact ih () g e hg Γ p hΓ
 | point _ k ih=>intro g e hg Γ p hΓ;exact ih () g e hg Γ p hΓ
 | ask k ih=>intro g e hg Γ p hΓ;exact ih _ g e hg Γ p hΓ
 | load a _ k ih=>
  intro g e hg Γ p hΓ
  simp only [peek1] at e
  split at e
  ·rename_i ob ho;exact ⟨ob,X _ _ ho,ih ob g e hg Γ p hΓ⟩
  ·exact aP e
 | alloc ob k _=>
  intro g e hg
  have e:some (ob,fun D=>peek K ⟨M.prog,M.w.params⟩ (k D))=some (o,g):=e
  obtain ⟨e1,e2⟩:=Prod.mk.inj (sJ e)
  subst e1
  subst e2
  have X':K.In (s.heap.push ob):=X.keeps fun b x hb=>Heap.get?_push_of_some _ hb
  show wpAny M A (alloc ob >>=k) Q E s
  refine wB (wpAny_alloc ?_)
  exact (Looks.of_peek (M:=M) (h:=s.heap.push ob) X' (hg s.heap.objs.size)).here (s:={ s with heap:=s.heap.push ob }) q
 | _=>intro g e;exact aP e
theorem aAw {n:Nat} {args kws xs:List MV} (e:mG n args kws=some xs):n≤args.length∧kws= []∧xs=args.take n++ [.tup (args.drop n)]∧args.length≤n+8:=by
 unfold mG at e
 split at e
 ·rename_i h;(obtain rfl:=sJ e)
  obtain ⟨h,c⟩:=and_eq_true_iff.mp h
  obtain ⟨a,b⟩:=and_eq_true_iff.mp h
  exact ⟨bT a,by simpa using b,rfl,bT c⟩
 ·exact aP e
theorem aFb (n:Nat) (l:List MV) (h:dZ l=true):dZ (l.take n++ [.tup (l.drop n)])=true:=by
 have h1:dZ (l.take n)=true:=by rw [gN,all_eq_true] at h ⊢;exact fun x hx=>h x (mem_of_mem_take hx)
 have h2:dZ (l.drop n)=true:=by rw [gN,all_eq_true] at h ⊢;exact fun x hx=>h x (List.mem_of_mem_drop hx)
 rw [gO,h1,Bool.true_and]
 show (dZ (l.drop n) && true)=true
 rw [h2];rfl
theorem nZ {n:Nat} {ps:List Nat} (B:cH C) (h0:∀S D,aRv n 8 fun vals=>(peek1 C.K S (bindArgs fd ⟨vals,[]⟩)).map (fun p=>(p.1,p.2 D))=some ({ cls:= .type "tuple",data:= .seq (vals.drop n).toArray },some ((ps.map nm).zip (vals.take n++ [.ref D])))):mB C fd [] ps (mG n):=by
 intro G s args kws vals kvs xs hb g ra rk e
 (refine gW (aAw e) fun h1 e_1 e_2 h2=>?_;obtain rfl:=e_1;obtain rfl:=e_2)
 refine ⟨fun a _=>aFb n args a,fun A E Q hq=>?_⟩
 rw [aAu rk]
 have hl:n≤vals.length:=by rw [←ra.length];exact h1
 have Xk:=B.kin.keeps hb
 have hh:=fun D=>aDa (h0 ⟨C.prog,C.w.params⟩ D) vals hl (by rw [←ra.length];exact h2)
 obtain ⟨gg,e1,e2⟩:∃g,peek1 C.K ⟨C.prog,C.w.params⟩ (bindArgs fd ⟨vals,[]⟩)=some ({ cls:= .type "tuple",data:= .seq (vals.drop n).toArray },g)∧∀D,g D=some ((ps.map nm).zip (vals.take n++ [.ref D])):=by
  cases q:peek1 C.K ⟨C.prog,C.w.params⟩ (bindArgs fd ⟨vals,[]⟩) with
  | none=>have:=hh 0;rw [q] at this;exact aP this
  | some p=>
   obtain ⟨o,g⟩:=p
   have h0:=hh 0
   rw [q] at h0
   have h0':=sJ h0
   have eo:o=_:=(Prod.mk.inj h0').1
   subst eo
   refine ⟨g,rfl,fun D=>?_⟩
   have hD:=hh D
   rw [q] at hD
   exact (Prod.mk.inj (sJ hD)).2
 refine aKa (M:=model C.prog C.w) (r:=fun D=>(ps.map nm).zip (vals.take n++ [.ref D])) Xk ?_ _ gg e1 e2
 have X:=Ext.push s { cls:= .type "tuple",data:= .seq (vals.drop n).toArray }
 refine hq _ _ X ?_
 have nW:¬G.W s.heap.objs.size:=fun q=>by obtain ⟨o,e⟩:=g.lt _ q;rw [bD] at e;exact aP e
 refine ((ra.take n).ext g X).append (.cons (.tup (vs:=vals.drop n) ⟨_,Heap.get?_push_size _ rfl,rfl,_,rfl⟩ nW ((ra.drop n).ext g X)) .nil)
end
noncomputable def aAx:List Nat→Bool
 | []=>true
 | x::l=> !l.contains x && aAx l
theorem rY:∀{l:List Nat},aAx l=true→l.Nodup
 | [],_=>nodup_nil
 | x::l,h=>by
  obtain ⟨a,b⟩:=and_eq_true_iff.mp h
  exact nodup_cons.mpr ⟨by simpa using a,rY b⟩
noncomputable def aKb (sc:SC) (scope:Scope) (ps:List Nat):Bool:=
 (sc.vs.all fun p=>decide (p.1 < 85) && gE p.2 (scope.names.lookup (nm p.1)) && !gE p.2 (some .free)) && (sc.gs.all fun z=>gE .globalImplicit (scope.names.lookup z)) &&
 (ps.all fun x=>gE .local (sc.lookup x)||gE .cell (sc.lookup x)) && aAx ps && !sc.hm
theorem aNk {sc:SC} {scope:Scope} {ps:List Nat} (h:aKb sc scope ps=true):yV sc scope ps:=by
 unfold aKb at h
 simp only [Bool.and_eq_true,all_eq_true] at h
 obtain ⟨⟨⟨⟨h1,h2⟩,h3⟩,h4⟩,h5⟩:=h
 have key:∀x k,sc.lookup x=some k→x < 85∧scope.names.lookup (nm x)=some k∧k≠ .free:=fun x k hx=>by
  obtain ⟨⟨a,b⟩,c⟩:=h1 (x,k) (iK hx)
  exact ⟨of_decide_eq_true a,dB b,fun q=>by subst q;exact jI c⟩
 refine ⟨fun x k hx=>(key x k hx).1,fun x k hx=>(key x k hx).2.1,fun i z hz=>dB (h2 z (mem_of_getElem? hz)),fun x k hx=>(key x k hx).2.2,fun x hx=>?_,rY h4,by simpa using h5⟩
 rcases Bool.or_eq_true_iff.mp (h3 x hx) with q|q
 ·exact .inl (dB q)
 ·exact .inr (dB q)
noncomputable section
noncomputable def aUt:Array UInt8:= #[65,66,67,68,69,70,71,72,73,74,75,76,77,78,79,80,81,82,83,84,85,86,87,88,89,90,97,98,99,100,101,102,103,104,105,106,107,108,109,110,111,112,113,114,115,116,117,118,119,120,121,122,48,49,50,51,52,53,54,55,56,57,43,47]
theorem dM (h:True:=by kernel_rfl):True:=h
theorem aUc (h:True:=by decide):True:=h
noncomputable def glob (K:Params→Frag) (P:Params) (z:Str):Option Value:=match (K P).lookup 3 with
 | some o=>(match o.data with| .dict es _=>nsFind es z|_=>none)
 | none=>none
theorem aNl {K:Params→Frag} {P:Params} {h:Heap} {m:Str→Option Value} (KX:(K P).In h) (hn:h.Ns mainGlobals m) (e:autoParam (((K P).lookup 3).isSome=true) dM._auto_1) (z:Str):m z=glob K P z:=by
 obtain ⟨o,es,ep,ho,hdd,_,hf⟩:=hn
 obtain ⟨o',e⟩:=Option.isSome_iff_exists.mp e
 have:=KX 3 o' e
 have ho:h.get? 3=some o:=ho
 rw [ho] at this;cases this
 unfold glob
 rw [e,←hf z]
 dsimp only
 rw [hdd]
theorem gl {K:Params→Frag} {P:Params} {m:Str→Option Value} (gK:∀z,m z=glob K P z) {z:Str} {v:Option Value} (e:autoParam (glob K P z=v) dM._auto_1):m z=v:=(gK z).trans e
theorem bl {mb:Str→Option Value} (hb:∀x:Str,x≠ "__name__"→mb x=bootBuiltins x) {z:Str} {v:Option Value} (e0:autoParam (z≠ "__name__") aUc._auto_1) (e:autoParam (bootBuiltins z=v) dM._auto_1):mb z=v:=(hb z e0).trans e
noncomputable def hV (K:Params→Frag) (P:Params) (a:Addr):FuncData:=match (K P).lookup a with
 | some o=>(match o.data with| .func fd=>fd|_=>default)
 | none=>default
noncomputable def aNm (K:Params→Frag) (P:Params) (a:Addr):Bool:=match (K P).lookup a with
 | some o=>(match o.data with| .func _=>true|_=>false)
 | none=>false
set_option tactic.hygienic true in
theorem aNn {K:Params→Frag} {P:Params} {a:Addr} (h:aNm K P a=true):∃o,(K P).lookup a=some o∧o.data= .func (hV K P a):=by
 unfold aNm at h
 unfold hV
 split at h
 ·rename_i o e
  refine ⟨o,e,?_⟩
  split at h
  ·rename_i fd hdd;rw [hdd]
  ·cases h
 ·cases h
noncomputable def aDc (K:Params→Frag) (prog:Program) (w:World) (s:Shared) (mg mb:Str→Option Value):Cx:=
 { prog,w,h₀:=s.heap,gens:=s.gens,os:=s.os,mg,mb,K:=K w.params,cls:=fun n=>match n with|0=>137|_=>40 }
noncomputable def aUd (k:Nat):Addr:=match k with
 | 9=>149
 | 12=>169
 | 13=>176
 | 14=>183
 | 16=>190
 | 17=>198
 | 18=>206
 | 20=>214
 | 21=>222
 | 23=>229
 | 24=>236
 | 26=>243
 | 27=>248
 | 28=>253
 | 29=>258
 | 30=>263
 | 31=>268
 | 32=>273
 | 33=>280
 | 34=>285
 | 35=>290
 | 36=>297
 | 37=>304
 | 38=>309
 | 401=>36
 | 600=>73
 | 601=>80
 | 602=>87
 | 603=>92
 | 604=>99
 | 605=>106
 | 607=>120
 | 608=>127
 | _=>0
theorem fnd {C:Cx} {K:Params→Frag} {P:Params} (KX:(K P).In C.h₀) {a:Addr} {body:List Stmt} (h:autoParam (aNm K P a=true) dM._auto_1) (h1:autoParam ((hV K P a).body= .stmts body) dM._auto_1) (h2:autoParam ((hV K P a).globals=mainGlobals) dM._auto_1) (h3:autoParam ((hV K P a).builtins=builtinsNs) dM._auto_1) (h4:autoParam ((hV K P a).closure= []) dM._auto_1)
  (h5:autoParam ((hV K P a).scope.isCoroutine=false) dM._auto_1) (h6:autoParam ((hV K P a).scope.isGenerator=false) dM._auto_1) (h7:autoParam ((hV K P a).scope.kind= .function) dM._auto_1) (h8:autoParam (codeIn (K P) (hV K P a).code (hV K P a).qualname=true) dM._auto_1):FnD C a (hV K P a) body:=by
 obtain ⟨o,ho,hdd⟩:=aNn h
 exact ⟨⟨o,KX a o ho,hdd⟩,h1,h2,h3,h4,h5,h6,h7,codeRec_of KX h8⟩
theorem dfp {C:Cx} {K:Params→Frag} {P:Params} (KX:(K P).In C.h₀) {a:Addr} {body:List Stmt} {sc:SC} {ps:List Nat} {zs:List Str} {pm:List MV→List MV→Option (List MV)} (hB:mB C (hV K P a) zs ps pm) (h:autoParam (aNm K P a=true) dM._auto_1) (h1:autoParam ((hV K P a).body= .stmts body) dM._auto_1) (h2:autoParam ((hV K P a).globals=mainGlobals) dM._auto_1) (h3:autoParam ((hV K P a).builtins=builtinsNs) dM._auto_1) (h4:autoParam ((hV K P a).closure= []) dM._auto_1)
  (h5:autoParam ((hV K P a).scope.isCoroutine=false) dM._auto_1) (h6:autoParam ((hV K P a).scope.isGenerator=false) dM._auto_1) (h7:autoParam ((hV K P a).scope.kind= .function) dM._auto_1) (h8:autoParam (codeIn (K P) (hV K P a).code (hV K P a).qualname=true) dM._auto_1) (h9:autoParam (aKb sc (hV K P a).scope ps=true) dM._auto_1):cR C a body sc ps zs pm:=
 ⟨hV K P a,fnd KX h h1 h2 h3 h4 h5 h6 h7 h8,aNk h9,hB⟩
theorem mkB {K:Params→Frag} {prog:Program} {w:World} {s:Shared} {mg mb:Str→Option Value} (a:s.heap.Ns mainGlobals mg) (b:s.heap.Ns builtinsNs mb) (c:s.heap.NoLimit) (KX:(K w.params).In s.heap) (d:∃o,s.heap.get? sysModules=some o):cH (aDc K prog w s mg mb):=⟨a,b,c,KX,d⟩
theorem aKc {K:Frag} {h:Heap} {a:Addr} {o:Obj} {vs:Array Value} {n:Nat} (KX:K.In h) (e:K.lookup a=some o) (h1:o.cls= .type "tuple") (h2:o.data= .seq vs n):h.IsTuple a vs:=⟨o,KX a o e,h1,n,h2⟩
theorem pC {C:Cx} {c i:Nat} {z:Str} {p:Addr} (h1:autoParam (findIn C.K (.ref (C.cls c)) z=some (some (.ref p))) dM._auto_1) (h2:autoParam (typeIn C.K (.ref p)=some (.type "member_descriptor")) dM._auto_1) (h3:autoParam (specialIn C.K (.ref p) "__get__"=some (some (.builtin "member_descriptor.__get__"))) dM._auto_1) (h4:autoParam (takesIn C.K (.ref p)=some true) dM._auto_1) (h5:autoParam (slotIn C.K p (C.cls c)=some i) dM._auto_1) (h6:autoParam ((clsIn C.K (C.cls c)).isSome=true) dM._auto_1):kD C c z i:=⟨p,h1,h2,h3,h4,h5,h6⟩
end
end Mine
end
section
open PySem PySem.W PyProof.Rows PySem.SeqAt PySem.Calls
set_option maxRecDepth 100000
set_option pp.deepTerms false
namespace Mine
noncomputable def G0:Gh:=⟨fun _=>False,fun _=>False,fun _=>False,[]⟩
theorem tZ {G:Gh} {h:Heap}:∀{vs:List Value} {ns:List Int},IntsAre vs ns→aK G h (ns.map MV.int) vs
 | _,_,.nil=> .nil
 | _,_,.cons b t r=> .cons (.int b t) (tZ r)
theorem aAy {n:Nat} (hn:n≤80):AOk true n callerA:=⟨by show 301+n≤900;omega,by show 4+100 * n≤9000;omega,fun _=>rfl⟩
theorem aNo {K:Params→Frag} {prog:Program} {w:World} {s:Shared} {mg mb:Str→Option Value} (B0:cH (aDc K prog w s mg mb)) (F:Facts (aDc K prog w s mg mb) aUd)
  {l:Addr} {vs:List Value} {ns:List Int} (hl:s.heap.IsList l vs.toArray) (hi:IntsAre vs ns) (LP:Φ_38 [.lst (ns.map .int)] []=some (.bool true)) {R:Result→Shared→Prop}
  (hR:∀s',(∀a o,s.heap.get? a=some o→s'.heap.get? a=some o)→s'.gens=s.gens→s'.os=s.os→R (.ok (.ret (.bool true))) s'):
  codeAny (model prog w) callerA (.call (.ref 309) ⟨[.ref l],[]⟩) R s:=by
 have ok:=aTq F
 have b:sE (aDc K prog w s mg mb) callerA G0 s:=⟨fun _ _ e=>e,fun _ q=>q.elim,rfl,rfl,⟨fun _ q=>q.elim,fun _ q=>q.elim,fun _ q=>q.elim⟩,⟨[],rfl,fun e he=>by cases he⟩,fun _ q=>q.elim⟩
 refine codeAny_mono (ok.2 callerA G0 s [.lst (ns.map .int)] [] [.ref l] [] (.bool true) (aAy (by decide)) b (.cons (.lst hl (fun q=>q) (tZ hi)) .nil) .nil ?_ rfl LP) fun res s' h=>?_
 ·rw [gN]
  simp only [List.all_cons,List.all_nil,Bool.and_true]
  exact wN ns
 ·obtain ⟨v,rfl,q,r⟩:=h
  cases r
  exact hR s' (fun a o e=>q.keep a o e fun f=>f.elim) q.gens q.os
theorem fin.tw1012361349325877821:True:=⟨⟩
theorem fin.tw1014637456484912126:True:=⟨⟩
theorem fin.tw10147658903529517814:True:=⟨⟩
theorem fin.tw10196768644732416780:True:=⟨⟩
theorem fin.tw10242451874928486539:True:=⟨⟩
theorem fin.tw10329872625359487480:True:=⟨⟩
theorem fin.tw10383673109516279431:True:=⟨⟩
theorem fin.tw10391319463526535247:True:=⟨⟩
theorem fin.tw10567028658651823492:True:=⟨⟩
theorem fin.tw10580198807604790814:True:=⟨⟩
theorem fin.tw10599938827571368224:True:=⟨⟩
theorem fin.tw10807920368746810246:True:=⟨⟩
theorem fin.tw10829458402184033698:True:=⟨⟩
theorem fin.tw10852849658779182186:True:=⟨⟩
theorem fin.tw10874316729293906858:True:=⟨⟩
theorem fin.tw10875463905939285979:True:=⟨⟩
theorem fin.tw10925335251469727208:True:=⟨⟩
theorem fin.tw11039862389202566683:True:=⟨⟩
theorem fin.tw11192643925408225281:True:=⟨⟩
theorem fin.tw11273041486466551846:True:=⟨⟩
theorem fin.tw11298980531735778240:True:=⟨⟩
theorem fin.tw11336253725339858928:True:=⟨⟩
theorem fin.tw11414674201277728305:True:=⟨⟩
theorem fin.tw11454252539852477091:True:=⟨⟩
theorem fin.tw11466478281803324712:True:=⟨⟩
theorem fin.tw11587955951900863698:True:=⟨⟩
theorem fin.tw12118000046449163591:True:=⟨⟩
theorem fin.tw12135189313929291683:True:=⟨⟩
theorem fin.tw12180539936304867106:True:=⟨⟩
theorem fin.tw12212933522069011988:True:=⟨⟩
theorem fin.tw12284014389350100970:True:=⟨⟩
theorem fin.tw12325499807345597089:True:=⟨⟩
theorem fin.tw12355744275394475900:True:=⟨⟩
theorem fin.tw12409915417874342407:True:=⟨⟩
theorem fin.tw12448240930570709186:True:=⟨⟩
theorem fin.tw12464766053444552404:True:=⟨⟩
theorem fin.tw12494888245299231016:True:=⟨⟩
theorem fin.tw1252854909445205041:True:=⟨⟩
theorem fin.tw12550770813317053977:True:=⟨⟩
theorem fin.tw12567809125941998234:True:=⟨⟩
theorem fin.tw12578018394657142640:True:=⟨⟩
theorem fin.tw12649782002744950493:True:=⟨⟩
theorem fin.tw12669758225909598566:True:=⟨⟩
theorem fin.tw12711679700452659978:True:=⟨⟩
theorem fin.tw12740692763255036000:True:=⟨⟩
theorem fin.tw12751662967071866640:True:=⟨⟩
theorem fin.tw12829507556594621215:True:=⟨⟩
theorem fin.tw12876064707754696378:True:=⟨⟩
theorem fin.tw12962497063298326498:True:=⟨⟩
theorem fin.tw12977279227502587607:True:=⟨⟩
theorem fin.tw12996517811204074000:True:=⟨⟩
theorem fin.tw13066358836101814915:True:=⟨⟩
theorem fin.tw13162651487661262736:True:=⟨⟩
theorem fin.tw13177410634674063896:True:=⟨⟩
theorem fin.tw13199158710529813207:True:=⟨⟩
theorem fin.tw13294311002278339166:True:=⟨⟩
theorem fin.tw13337293482115323266:True:=⟨⟩
theorem fin.tw13360279666012451719:True:=⟨⟩
theorem fin.tw13383306551100868464:True:=⟨⟩
theorem fin.tw13423622936843584764:True:=⟨⟩
theorem fin.tw13467322939085005891:True:=⟨⟩
theorem fin.tw13516622038369049944:True:=⟨⟩
theorem fin.tw13724452099449386491:True:=⟨⟩
theorem fin.tw13725345394420048845:True:=⟨⟩
theorem fin.tw13870153662132920491:True:=⟨⟩
theorem fin.tw13925877587632400325:True:=⟨⟩
theorem fin.tw1397303283331804279:True:=⟨⟩
theorem fin.tw14139026862911339306:True:=⟨⟩
theorem fin.tw14166196953294261902:True:=⟨⟩
theorem fin.tw14210890002308233579:True:=⟨⟩
theorem fin.tw1422313219903470601:True:=⟨⟩
theorem fin.tw14245171486683049214:True:=⟨⟩
theorem fin.tw14347400895652799225:True:=⟨⟩
theorem fin.tw14431720936831517352:True:=⟨⟩
theorem fin.tw14497727239971306367:True:=⟨⟩
theorem fin.tw14517287926952318261:True:=⟨⟩
theorem fin.tw14568449535678555946:True:=⟨⟩
theorem fin.tw14574801432027512755:True:=⟨⟩
theorem fin.tw14814673180317915700:True:=⟨⟩
theorem fin.tw15201286185872193147:True:=⟨⟩
theorem fin.tw15205425988870721313:True:=⟨⟩
theorem fin.tw15344004072050561172:True:=⟨⟩
theorem fin.tw1535588207084551279:True:=⟨⟩
theorem fin.tw15373703851562958014:True:=⟨⟩
theorem fin.tw1544503264643628384:True:=⟨⟩
theorem fin.tw15533503492667675913:True:=⟨⟩
theorem fin.tw15583698165555649274:True:=⟨⟩
theorem fin.tw15621619335703214680:True:=⟨⟩
theorem fin.tw15675102808854859970:True:=⟨⟩
theorem fin.tw15688172546075569117:True:=⟨⟩
theorem fin.tw15815952407149668801:True:=⟨⟩
theorem fin.tw15832999045522443761:True:=⟨⟩
theorem fin.tw1601457331334615783:True:=⟨⟩
theorem fin.tw1608889593578281727:True:=⟨⟩
theorem fin.tw16103849850496634939:True:=⟨⟩
theorem fin.tw16109372258727991565:True:=⟨⟩
theorem fin.tw16115155874713506467:True:=⟨⟩
theorem fin.tw1613116972386908190:True:=⟨⟩
theorem fin.tw16175276709679454751:True:=⟨⟩
theorem fin.tw16229209127682248589:True:=⟨⟩
theorem fin.tw16237762584071213788:True:=⟨⟩
theorem fin.tw1625080806587739848:True:=⟨⟩
theorem fin.tw16252508478716706905:True:=⟨⟩
theorem fin.tw16275787546110486726:True:=⟨⟩
theorem fin.tw16285329926789087883:True:=⟨⟩
theorem fin.tw16401934584784274106:True:=⟨⟩
theorem fin.tw16480054136930315747:True:=⟨⟩
theorem fin.tw16496857829328116044:True:=⟨⟩
theorem fin.tw16502652511500755:True:=⟨⟩
theorem fin.tw16510490156224867327:True:=⟨⟩
theorem fin.tw16530489862217454893:True:=⟨⟩
theorem fin.tw16540275574145912595:True:=⟨⟩
theorem fin.tw16656299143469825513:True:=⟨⟩
theorem fin.tw1666694428299288667:True:=⟨⟩
theorem fin.tw16906536467411238026:True:=⟨⟩
theorem fin.tw16934629359412608497:True:=⟨⟩
theorem fin.tw16958243865122950064:True:=⟨⟩
theorem fin.tw17041991840579044601:True:=⟨⟩
theorem fin.tw17067295170570645592:True:=⟨⟩
theorem fin.tw17123178472405020103:True:=⟨⟩
theorem fin.tw1717465138777567415:True:=⟨⟩
theorem fin.tw17197158672614542318:True:=⟨⟩
theorem fin.tw17204297501091165112:True:=⟨⟩
theorem fin.tw17362494058136835672:True:=⟨⟩
theorem fin.tw17416127249078093707:True:=⟨⟩
theorem fin.tw17449020081951674710:True:=⟨⟩
theorem fin.tw17570709534508481193:True:=⟨⟩
theorem fin.tw17628183408451194143:True:=⟨⟩
theorem fin.tw17656766251404061198:True:=⟨⟩
theorem fin.tw17662344363894024548:True:=⟨⟩
theorem fin.tw17698704350827878285:True:=⟨⟩
theorem fin.tw17784850919643140607:True:=⟨⟩
theorem fin.tw17801579834951734752:True:=⟨⟩
theorem fin.tw17821466097196317003:True:=⟨⟩
theorem fin.tw17861066769153400444:True:=⟨⟩
theorem fin.tw17869975865946814897:True:=⟨⟩
theorem fin.tw17896612028031085017:True:=⟨⟩
theorem fin.tw17933470926392208243:True:=⟨⟩
theorem fin.tw17963964198891936676:True:=⟨⟩
theorem fin.tw18105285910621931680:True:=⟨⟩
theorem fin.tw18105942590061964161:True:=⟨⟩
theorem fin.tw18195182924450695511:True:=⟨⟩
theorem fin.tw18230178534529381785:True:=⟨⟩
theorem fin.tw18295790063311454060:True:=⟨⟩
theorem fin.tw18387650150990424433:True:=⟨⟩
theorem fin.tw1887099378405440850:True:=⟨⟩
theorem fin.tw1921391257341544841:True:=⟨⟩
theorem fin.tw1963134401048803436:True:=⟨⟩
theorem fin.tw1976505206021243879:True:=⟨⟩
theorem fin.tw1982079694162106894:True:=⟨⟩
theorem fin.tw2086631506510373192:True:=⟨⟩
theorem fin.tw216489041496292469:True:=⟨⟩
theorem fin.tw2236755162388048479:True:=⟨⟩
theorem fin.tw2304379251839397102:True:=⟨⟩
theorem fin.tw2305881189932309285:True:=⟨⟩
theorem fin.tw2367325634123391141:True:=⟨⟩
theorem fin.tw2462912638960843985:True:=⟨⟩
theorem fin.tw2512408688544751470:True:=⟨⟩
theorem fin.tw251868834278440796:True:=⟨⟩
theorem fin.tw2608567993692976607:True:=⟨⟩
theorem fin.tw2824846461999071874:True:=⟨⟩
theorem fin.tw2866121171748074186:True:=⟨⟩
theorem fin.tw2910385600587045654:True:=⟨⟩
theorem fin.tw2976117146107443816:True:=⟨⟩
theorem fin.tw3105451386036433885:True:=⟨⟩
theorem fin.tw3125960719983571848:True:=⟨⟩
theorem fin.tw3173534031939492945:True:=⟨⟩
theorem fin.tw3199103547748192838:True:=⟨⟩
theorem fin.tw3243682811363688027:True:=⟨⟩
theorem fin.tw3314143786362844604:True:=⟨⟩
theorem fin.tw3343445320678177929:True:=⟨⟩
theorem fin.tw3404873503106905745:True:=⟨⟩
theorem fin.tw3459265974087741279:True:=⟨⟩
theorem fin.tw3598329298470268980:True:=⟨⟩
theorem fin.tw3683778510129048087:True:=⟨⟩
theorem fin.tw3810338749695602999:True:=⟨⟩
theorem fin.tw3810570522144960214:True:=⟨⟩
theorem fin.tw3975253019698251321:True:=⟨⟩
theorem fin.tw4040260094072895976:True:=⟨⟩
theorem fin.tw4170516301191304579:True:=⟨⟩
theorem fin.tw4171678462856256454:True:=⟨⟩
theorem fin.tw4209717502836232480:True:=⟨⟩
theorem fin.tw428092273266315144:True:=⟨⟩
theorem fin.tw4312942655851389009:True:=⟨⟩
theorem fin.tw4326780796455107134:True:=⟨⟩
theorem fin.tw452842511749404161:True:=⟨⟩
theorem fin.tw4570111826955561243:True:=⟨⟩
theorem fin.tw4588413851689716618:True:=⟨⟩
theorem fin.tw4598667867955821814:True:=⟨⟩
theorem fin.tw4640724917100965312:True:=⟨⟩
theorem fin.tw4719063310657182621:True:=⟨⟩
theorem fin.tw4759752924163587094:True:=⟨⟩
theorem fin.tw4768634762848416435:True:=⟨⟩
theorem fin.tw4769821431679368130:True:=⟨⟩
theorem fin.tw4788878847521262168:True:=⟨⟩
theorem fin.tw480829909506669009:True:=⟨⟩
theorem fin.tw4868334931027891882:True:=⟨⟩
theorem fin.tw4878226113927451544:True:=⟨⟩
theorem fin.tw4879674094562380441:True:=⟨⟩
theorem fin.tw4898026214463823928:True:=⟨⟩
theorem fin.tw4924110625330727750:True:=⟨⟩
theorem fin.tw4928979718650693569:True:=⟨⟩
theorem fin.tw5011121235533021005:True:=⟨⟩
theorem fin.tw5098551885099359569:True:=⟨⟩
theorem fin.tw5293390819737331289:True:=⟨⟩
theorem fin.tw5320702786494000081:True:=⟨⟩
theorem fin.tw5486226609284752418:True:=⟨⟩
theorem fin.tw5615129895364139138:True:=⟨⟩
theorem fin.tw5678346346211369953:True:=⟨⟩
theorem fin.tw5734618986648460908:True:=⟨⟩
theorem fin.tw5776136370200156792:True:=⟨⟩
theorem fin.tw5897612983314593646:True:=⟨⟩
theorem fin.tw6068950659093879613:True:=⟨⟩
theorem fin.tw6081921254191324426:True:=⟨⟩
theorem fin.tw6127190174262240918:True:=⟨⟩
theorem fin.tw6144012678527597917:True:=⟨⟩
theorem fin.tw6207176494656529804:True:=⟨⟩
theorem fin.tw6381419901266130222:True:=⟨⟩
theorem fin.tw6454446336052903152:True:=⟨⟩
theorem fin.tw6498334528663615478:True:=⟨⟩
theorem fin.tw6515953530934532768:True:=⟨⟩
theorem fin.tw6531376189190222733:True:=⟨⟩
theorem fin.tw6567050819087999508:True:=⟨⟩
theorem fin.tw6634307039904815820:True:=⟨⟩
theorem fin.tw6650461044873433052:True:=⟨⟩
theorem fin.tw6667815254911646788:True:=⟨⟩
theorem fin.tw6671992857765853949:True:=⟨⟩
theorem fin.tw670465573061467203:True:=⟨⟩
theorem fin.tw6712194924023145494:True:=⟨⟩
theorem fin.tw6718411051458867188:True:=⟨⟩
theorem fin.tw6956187926921108005:True:=⟨⟩
theorem fin.tw6968583824967984638:True:=⟨⟩
theorem fin.tw7000300075881102575:True:=⟨⟩
theorem fin.tw7282745182861764756:True:=⟨⟩
theorem fin.tw7284238750084343041:True:=⟨⟩
theorem fin.tw7380833856163905736:True:=⟨⟩
theorem fin.tw7451905468542833597:True:=⟨⟩
theorem fin.tw7522001649326652513:True:=⟨⟩
theorem fin.tw7547296005191728479:True:=⟨⟩
theorem fin.tw7613857476909055813:True:=⟨⟩
theorem fin.tw7675655780812522254:True:=⟨⟩
theorem fin.tw7684487725183542926:True:=⟨⟩
theorem fin.tw7740688021903297510:True:=⟨⟩
theorem fin.tw7744349105725886766:True:=⟨⟩
theorem fin.tw7779959011674639804:True:=⟨⟩
theorem fin.tw7783950685163080668:True:=⟨⟩
theorem fin.tw7845872953664198349:True:=⟨⟩
theorem fin.tw7976502392129159676:True:=⟨⟩
theorem fin.tw799341379326975648:True:=⟨⟩
theorem fin.tw7995362448368537469:True:=⟨⟩
theorem fin.tw8018989035897545986:True:=⟨⟩
theorem fin.tw8025084765662995669:True:=⟨⟩
theorem fin.tw807531904560671035:True:=⟨⟩
theorem fin.tw8119881530291889089:True:=⟨⟩
theorem fin.tw8269367382603917829:True:=⟨⟩
theorem fin.tw8272817396058243321:True:=⟨⟩
theorem fin.tw8330952907988395303:True:=⟨⟩
theorem fin.tw8352470293576582857:True:=⟨⟩
theorem fin.tw8383268338085895543:True:=⟨⟩
theorem fin.tw8399098705505230059:True:=⟨⟩
theorem fin.tw8408514402456403777:True:=⟨⟩
theorem fin.tw8416529770105884409:True:=⟨⟩
theorem fin.tw846297522682114974:True:=⟨⟩
theorem fin.tw8559517257967667466:True:=⟨⟩
theorem fin.tw8577089030196625639:True:=⟨⟩
theorem fin.tw8590288500278120515:True:=⟨⟩
theorem fin.tw8643116662766533202:True:=⟨⟩
theorem fin.tw8656503046869711584:True:=⟨⟩
theorem fin.tw876206183137641144:True:=⟨⟩
theorem fin.tw891787732878383699:True:=⟨⟩
theorem fin.tw8919302590299486024:True:=⟨⟩
theorem fin.tw8947099994592609211:True:=⟨⟩
theorem fin.tw895571856199123645:True:=⟨⟩
theorem fin.tw9001875181463519149:True:=⟨⟩
theorem fin.tw9113340658982188547:True:=⟨⟩
theorem fin.tw9218923581257491847:True:=⟨⟩
theorem fin.tw9387745189664136937:True:=⟨⟩
theorem fin.tw9544026089342320630:True:=⟨⟩
theorem fin.tw9722632081671974098:True:=⟨⟩
theorem fin.tw9746214513668125432:True:=⟨⟩
theorem fin.tw9746901515087519452:True:=⟨⟩
theorem fin.tw9806666330580929782:True:=⟨⟩
theorem fin.tw9913140749668108558:True:=⟨⟩
theorem fin.tw999798209818781672:True:=⟨⟩
set_option Elab.async true in
set_option maxRecDepth 100000 in
set_option maxHeartbeats 16000000 in
theorem fin:PySem.Challenge.rw_pa0063_01.Holds:=by
 w_on
 o_law
 k_head
 (case hw=>w_witness2)
 k_fill
 intro w s0 s1 mg mb G Y fa o pm cd doc dV kV ho hdat hcd hD hmg hg args vals as hpre hlay hrd hwl hlo
 have KX:=kIn_of Y
 have X:=(Ground.X G).1
 have V:=(Ground.X G).2
 refine Ground.open G ?_
 intro T B D TE TW
 have TA:=at_of_top T
 wrow_args hpre hlay hrd hwl hlo
 all_goals ((refine enter_call ?_;w_top on))
 rename_i ns _ _ _ _ _ _ _ l vs _ hL _ _ _ hI _ hlen _
 have hsys:∃o,s1.heap.get? sysModules=some o:=by
  obtain ⟨mm,⟨o,_,_,e,_⟩,_⟩:=(T.seer (by decide+kernel)).mods
  exact ⟨o,e⟩
 have gK:=aNl KX T.g
 have Bs:=mkB (prog:=PySem.Challenge.rw_pa0063_01.row.prog) T.g T.b T.nolimit KX hsys
 have hfa:fa=309:=by
  have e2:mg (Str.ofString "law")=some (.ref 309):=gl gK
  have e3:mg (Str.ofString "law")=some (.ref fa):=hmg
  rw [e2] at e3
  exact (Value.ref.inj (sJ e3)).symm
 subst hfa
 refine aNo Bs ?_ hL hI (LP ns (by omega)) fun s' hk hgens hos=>?_
 rotate_left
 refine ⟨.inl ⟨.bool true,.bool true,[],rfl,?_,?_,?_,?_⟩,.of_keep hk,hos,?_⟩
 ·intro c;rfl
 ·exact .bool true
 ·wrow_post
 ·intro q;exact ⟨nodup_nil,fun a ha=>by cases ha⟩
 ·exact .of_eq (hgens.trans hg)
 ·exact {
  x0:=Bs
  x1:=gl gK
  x2:=bl T.builtins
  x3:=gl gK
  x4:=bl T.builtins
  x5:=gl gK
  x6:=bl T.builtins
  x7:=gl gK
  x8:=bl T.builtins
  x9:=gl gK
  x10:=bl T.builtins
  x11:=gl gK
  x12:=bl T.builtins
  x13:=gl gK
  x14:=bl T.builtins
  x15:=gl gK
  x16:=bl T.builtins
  x17:=gl gK
  x18:=bl T.builtins
  x19:=gl gK
  x20:=bl T.builtins
  x21:=gl gK
  x22:=bl T.builtins
  x23:=gl gK
  x24:=bl T.builtins
  x25:=gl gK
  x26:=bl T.builtins
  x27:=gl gK
  x28:=bl T.builtins
  x29:=gl gK
  x30:=bl T.builtins
  x31:=gl gK
  x32:=bl T.builtins
  x33:=gl gK
  x34:=bl T.builtins
  x35:=gl gK
  x36:=bl T.builtins
  x37:=gl gK
  x38:=bl T.builtins
  x39:=gl gK
  x40:=bl T.builtins
  x41:=gl gK
  x42:=bl T.builtins
  x43:=gl gK
  x44:=bl T.builtins
  x45:=gl gK
  x46:=bl T.builtins
  x47:=gl gK
  x48:=⟨aUt,430,gl gK,by decide+kernel⟩
  x49:=⟨200,gl gK⟩
  x50:=⟨197,gl gK⟩
  x51:=gl gK
  x52:=gl gK
  x53:=gl gK
  x54:=gl gK
  x55:=gl gK
  x56:=gl gK
  x57:=gl gK
  x58:=gl gK
  x59:=gl gK
  x60:=gl gK
  x61:=gl gK
  x62:=gl gK
  x63:=gl gK
  x64:=gl gK
  x65:=gl gK
  x66:=gl gK
  x67:=gl gK
  x68:=gl gK
  x69:=gl gK
  x70:=gl gK
  x71:=gl gK
  x72:=gl gK
  x73:=⟨142,gl gK,aKc (o:={ cls:= .type "tuple",data:= .seq #[.type "bytes",.type "bytearray"] }) (n:=0) KX (by kernel_rfl) rfl rfl⟩
  x74:=gl gK
  x75:=gl gK
  c0:=⟨by kernel_rfl,by kernel_rfl,by kernel_rfl,by kernel_rfl,by kernel_rfl⟩
  c1:=⟨by kernel_rfl,by kernel_rfl,by kernel_rfl,by kernel_rfl,by kernel_rfl⟩
  x76:=⟨by kernel_rfl,by kernel_rfl⟩
  x77:=⟨by kernel_rfl,by kernel_rfl⟩
  x78:=⟨by kernel_rfl,by kernel_rfl⟩
  x79:=⟨by kernel_rfl,by kernel_rfl⟩
  x80:=pC (p:=41)
  x81:=pC (p:=42)
  x82:=pC (p:=43)
  x83:=⟨by kernel_rfl,by kernel_rfl,by decide⟩
  x84:=⟨by kernel_rfl,by kernel_rfl,by decide⟩
  x85:=⟨by kernel_rfl,by kernel_rfl,by decide⟩
  x86:=⟨by kernel_rfl,by kernel_rfl,by decide⟩
  x87:=⟨by kernel_rfl,by kernel_rfl,by decide⟩
  x88:=⟨by kernel_rfl,by kernel_rfl,by decide⟩
  x89:=⟨by kernel_rfl,by kernel_rfl,by decide⟩
  x90:=⟨by kernel_rfl,by kernel_rfl,by kernel_rfl,by decide+kernel⟩
  hd0:=by kernel_rfl
  i0:=⟨by kernel_rfl,by kernel_rfl,by kernel_rfl⟩
  i1:=⟨by kernel_rfl,by kernel_rfl,by kernel_rfl⟩
  d_9:=dfp KX (cP (n:=1) Bs (fun _ _=>by show _=_;kernel_rfl))
  x91:=dfp KX (cP (n:=1) Bs (fun _ _=>by show _=_;kernel_rfl))
  x92:=dfp KX (cP (n:=1) Bs (fun _ _=>by show _=_;kernel_rfl))
  x93:=dfp KX (cP (n:=1) Bs (fun _ _=>by show _=_;kernel_rfl))
  x94:=dfp KX (cP (n:=1) Bs (fun _ _=>by show _=_;kernel_rfl))
  x95:=dfp KX (aDb Bs (fun _ _ _=>by kernel_rfl))
  x96:=dfp KX (aDb Bs (fun _ _ _=>by kernel_rfl))
  x97:=dfp KX (tY Bs (fun _ _=>by kernel_rfl))
  x98:=dfp KX (aJz Bs (fun _ _ _=>by kernel_rfl))
  x99:=dfp KX (cP (n:=2) Bs (fun _ _ _=>by show _=_;kernel_rfl))
  x100:=dfp KX (cP (n:=2) Bs (fun _ _ _=>by show _=_;kernel_rfl))
  x101:=dfp KX (cP (n:=1) Bs (fun _ _=>by show _=_;kernel_rfl))
  x102:=dfp KX (cP (n:=1) Bs (fun _ _=>by show _=_;kernel_rfl))
  x103:=dfp KX (cP (n:=1) Bs (fun _ _=>by show _=_;kernel_rfl))
  x104:=dfp KX (cP (n:=1) Bs (fun _ _=>by show _=_;kernel_rfl))
  x105:=dfp KX (cP (n:=1) Bs (fun _ _=>by show _=_;kernel_rfl))
  x106:=dfp KX (cP (n:=3) Bs (fun _ _ _ _=>by show _=_;kernel_rfl))
  x107:=dfp KX (cP (n:=2) Bs (fun _ _ _=>by show _=_;kernel_rfl))
  x108:=dfp KX (tY Bs (fun _ _=>by kernel_rfl))
  x109:=dfp KX (cP (n:=2) Bs (fun _ _ _=>by show _=_;kernel_rfl))
  x110:=dfp KX (nZ Bs (fun _ _=>⟨fun _ _=>by show _=_;kernel_rfl,fun _ _ _=>by show _=_;kernel_rfl,fun _ _ _ _=>by show _=_;kernel_rfl,fun _ _ _ _ _=>by show _=_;kernel_rfl,fun _ _ _ _ _ _=>by show _=_;kernel_rfl,fun _ _ _ _ _ _ _=>by show _=_;kernel_rfl,fun _ _ _ _ _ _ _ _=>by show _=_;kernel_rfl,fun _ _ _ _ _ _ _ _ _=>by show _=_;kernel_rfl,fun _ _ _ _ _ _ _ _ _ _=>by show _=_;kernel_rfl⟩))
  x111:=dfp KX (cP (n:=1) Bs (fun _ _=>by show _=_;kernel_rfl))
  x112:=dfp KX (cP (n:=1) Bs (fun _ _=>by show _=_;kernel_rfl))
  x113:=dfp KX (cP (n:=1) Bs (fun _ _=>by show _=_;kernel_rfl))
  x114:=dfp KX (cP (n:=1) Bs (fun _ _=>by show _=_;kernel_rfl))
  x115:=dfp KX (nZ Bs (fun _ _=>⟨fun _=>by show _=_;kernel_rfl,fun _ _=>by show _=_;kernel_rfl,fun _ _ _=>by show _=_;kernel_rfl,fun _ _ _ _=>by show _=_;kernel_rfl,fun _ _ _ _ _=>by show _=_;kernel_rfl,fun _ _ _ _ _ _=>by show _=_;kernel_rfl,fun _ _ _ _ _ _ _=>by show _=_;kernel_rfl,fun _ _ _ _ _ _ _ _=>by show _=_;kernel_rfl,fun _ _ _ _ _ _ _ _ _=>by show _=_;kernel_rfl⟩))
  x116:=dfp KX (cP (n:=2) Bs (fun _ _ _=>by show _=_;kernel_rfl))
  x117:=dfp KX (cP (n:=2) Bs (fun _ _ _=>by show _=_;kernel_rfl))
  x118:=dfp KX (cP (n:=4) Bs (fun _ _ _ _ _=>by show _=_;kernel_rfl))
  x119:=dfp KX (cP (n:=1) Bs (fun _ _=>by show _=_;kernel_rfl))
  x120:=dfp KX (cP (n:=5) Bs (fun _ _ _ _ _ _=>by show _=_;kernel_rfl))
  x121:=dfp KX (cP (n:=5) Bs (fun _ _ _ _ _ _=>by show _=_;kernel_rfl))
  x122:=dfp KX (cP (n:=1) Bs (fun _ _=>by show _=_;kernel_rfl)) }
end Mine
end
theorem PySem.Challenge.cw_pa0063_01_holds : PySem.Challenge.rw_pa0063_01.Holds :=
  Mine.fin
