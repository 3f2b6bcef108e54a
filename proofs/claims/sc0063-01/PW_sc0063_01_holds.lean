import PyProof.Rows.All
import Wide.All
import OpenK.AllK
import Wide.FinOn
import KE.BitLaws
import KE.KLam
import KE.KSortTup
import PySem.Challenge.RW_sc0063_01
set_option Elab.async false
set_option compiler.extract_closed false
set_option maxRecDepth 100000
set_option linter.all false
namespace Mine.Internal
def Z5:Lean.Syntax:=.node .none `Lean.Parser.Tactic.tacticSeq #[.node .none `Lean.Parser.Tactic.tacticSeq1Indented #[.node .none `null #[.node .none `Lean.Parser.Tactic.tacticRfl #[.atom .none "rfl"]]]]
section
theorem ZG{P0 P1:Prop}{G:Prop}(h:P0∧P1)(k:P0→P1→G):G:=k h.1 h.2
theorem Z0K{P0 P1 P2:Prop}{G:Prop}(h:P0∧P1∧P2)(k:P0→P1→P2→G):G:=k h.1 h.2.1 h.2.2
theorem Zcy{P0 P1 P2 P3:Prop}{G:Prop}(h:P0∧P1∧P2∧P3)(k:P0→P1→P2→P3→G):G:=k h.1 h.2.1 h.2.2.1 h.2.2.2
theorem Zcx{P0 P1 P2 P3 P4:Prop}{G:Prop}(h:P0∧P1∧P2∧P3∧P4)(k:P0→P1→P2→P3→P4→G):G:=k h.1 h.2.1 h.2.2.1 h.2.2.2.1 h.2.2.2.2
theorem Za5{P0 P1 P2 P3 P4 P5:Prop}{G:Prop}(h:P0∧P1∧P2∧P3∧P4∧P5)(k:P0→P1→P2→P3→P4→P5→G):G:=k h.1 h.2.1 h.2.2.1 h.2.2.2.1 h.2.2.2.2.1 h.2.2.2.2.2
theorem Zi{T0:Type}{P0:T0→Prop}{G:Prop}(h:∃x0,P0 x0)(k:∀x0,P0 x0→G):G:=h.elim fun x0 h=>k x0 h
theorem Z4{T0:Type}{P0 P1:T0→Prop}{G:Prop}(h:∃x0,P0 x0∧P1 x0)(k:∀x0,P0 x0→P1 x0→G):G:=h.elim fun x0 h=>k x0 h.1 h.2
theorem Zm{T0:Type}{P0 P1 P2:T0→Prop}{G:Prop}(h:∃x0,P0 x0∧P1 x0∧P2 x0)(k:∀x0,P0 x0→P1 x0→P2 x0→G):G:=h.elim fun x0 h=>k x0 h.1 h.2.1 h.2.2
theorem Z5L{T0:Type}{P0 P1 P2 P3:T0→Prop}{G:Prop}(h:∃x0,P0 x0∧P1 x0∧P2 x0∧P3 x0)(k:∀x0,P0 x0→P1 x0→P2 x0→P3 x0→G):G:=h.elim fun x0 h=>k x0 h.1 h.2.1 h.2.2.1 h.2.2.2
theorem ZcH{T0:Type}{P0 P1 P2 P3 P4:T0→Prop}{G:Prop}(h:∃x0,P0 x0∧P1 x0∧P2 x0∧P3 x0∧P4 x0)(k:∀x0,P0 x0→P1 x0→P2 x0→P3 x0→P4 x0→G):G:=h.elim fun x0 h=>k x0 h.1 h.2.1 h.2.2.1 h.2.2.2.1 h.2.2.2.2
theorem QD{T0 T1:Type}{P0:T0→T1→Prop}{G:Prop}(h:∃x0 x1,P0 x0 x1)(k:∀x0 x1,P0 x0 x1→G):G:=h.elim fun x0 h=>h.elim fun x1 h=>k x0 x1 h
theorem ZP{T0 T1:Type}{P0 P1:T0→T1→Prop}{G:Prop}(h:∃x0 x1,P0 x0 x1∧P1 x0 x1)(k:∀x0 x1,P0 x0 x1→P1 x0 x1→G):G:=h.elim fun x0 h=>h.elim fun x1 h=>k x0 x1 h.1 h.2
theorem Zw{T0 T1:Type}{P0 P1 P2:T0→T1→Prop}{G:Prop}(h:∃x0 x1,P0 x0 x1∧P1 x0 x1∧P2 x0 x1)(k:∀x0 x1,P0 x0 x1→P1 x0 x1→P2 x0 x1→G):G:=h.elim fun x0 h=>h.elim fun x1 h=>k x0 x1 h.1 h.2.1 h.2.2
theorem Zcv{T0 T1:Type}{P0 P1 P2 P3:T0→T1→Prop}{G:Prop}(h:∃x0 x1,P0 x0 x1∧P1 x0 x1∧P2 x0 x1∧P3 x0 x1)(k:∀x0 x1,P0 x0 x1→P1 x0 x1→P2 x0 x1→P3 x0 x1→G):G:=h.elim fun x0 h=>h.elim fun x1 h=>k x0 x1 h.1 h.2.1 h.2.2.1 h.2.2.2
theorem ZcG{T0 T1:Type}{P0 P1 P2 P3 P4:T0→T1→Prop}{G:Prop}(h:∃x0 x1,P0 x0 x1∧P1 x0 x1∧P2 x0 x1∧P3 x0 x1∧P4 x0 x1)(k:∀x0 x1,P0 x0 x1→P1 x0 x1→P2 x0 x1→P3 x0 x1→P4 x0 x1→G):G:=h.elim fun x0 h=>h.elim fun x1 h=>k x0 x1 h.1 h.2.1 h.2.2.1 h.2.2.2.1 h.2.2.2.2
theorem ZcF{T0 T1:Type}{P0 P1 P2 P3 P4 P5:T0→T1→Prop}{G:Prop}(h:∃x0 x1,P0 x0 x1∧P1 x0 x1∧P2 x0 x1∧P3 x0 x1∧P4 x0 x1∧P5 x0 x1)(k:∀x0 x1,P0 x0 x1→P1 x0 x1→P2 x0 x1→P3 x0 x1→P4 x0 x1→P5 x0 x1→G):G:=h.elim fun x0 h=>h.elim fun x1 h=>k x0 x1 h.1 h.2.1 h.2.2.1 h.2.2.2.1 h.2.2.2.2.1 h.2.2.2.2.2
theorem Z5K{T0 T1 T2:Type}{P0:T0→T1→T2→Prop}{G:Prop}(h:∃x0 x1 x2,P0 x0 x1 x2)(k:∀x0 x1 x2,P0 x0 x1 x2→G):G:=h.elim fun x0 h=>h.elim fun x1 h=>h.elim fun x2 h=>k x0 x1 x2 h
theorem Za4{T0 T1 T2:Type}{P0 P1:T0→T1→T2→Prop}{G:Prop}(h:∃x0 x1 x2,P0 x0 x1 x2∧P1 x0 x1 x2)(k:∀x0 x1 x2,P0 x0 x1 x2→P1 x0 x1 x2→G):G:=h.elim fun x0 h=>h.elim fun x1 h=>h.elim fun x2 h=>k x0 x1 x2 h.1 h.2
theorem ZO{T0 T1 T2:Type}{P0 P1 P2:T0→T1→T2→Prop}{G:Prop}(h:∃x0 x1 x2,P0 x0 x1 x2∧P1 x0 x1 x2∧P2 x0 x1 x2)(k:∀x0 x1 x2,P0 x0 x1 x2→P1 x0 x1 x2→P2 x0 x1 x2→G):G:=h.elim fun x0 h=>h.elim fun x1 h=>h.elim fun x2 h=>k x0 x1 x2 h.1 h.2.1 h.2.2
theorem Jk{T0 T1 T2:Type}{P0 P1 P2 P3:T0→T1→T2→Prop}{G:Prop}(h:∃x0 x1 x2,P0 x0 x1 x2∧P1 x0 x1 x2∧P2 x0 x1 x2∧P3 x0 x1 x2)(k:∀x0 x1 x2,P0 x0 x1 x2→P1 x0 x1 x2→P2 x0 x1 x2→P3 x0 x1 x2→G):G:=h.elim fun x0 h=>h.elim fun x1 h=>h.elim fun x2 h=>k x0 x1 x2 h.1 h.2.1 h.2.2.1 h.2.2.2
theorem Za3{T0 T1 T2:Type}{P0 P1 P2 P3 P4:T0→T1→T2→Prop}{G:Prop}(h:∃x0 x1 x2,P0 x0 x1 x2∧P1 x0 x1 x2∧P2 x0 x1 x2∧P3 x0 x1 x2∧P4 x0 x1 x2)(k:∀x0 x1 x2,P0 x0 x1 x2→P1 x0 x1 x2→P2 x0 x1 x2→P3 x0 x1 x2→P4 x0 x1 x2→G):G:=h.elim fun x0 h=>h.elim fun x1 h=>h.elim fun x2 h=>k x0 x1 x2 h.1 h.2.1 h.2.2.1 h.2.2.2.1 h.2.2.2.2
theorem ZcE{T0 T1 T2:Type}{P0 P1 P2 P3 P4 P5 P6:T0→T1→T2→Prop}{G:Prop}(h:∃x0 x1 x2,P0 x0 x1 x2∧P1 x0 x1 x2∧P2 x0 x1 x2∧P3 x0 x1 x2∧P4 x0 x1 x2∧P5 x0 x1 x2∧P6 x0 x1 x2)(k:∀x0 x1 x2,P0 x0 x1 x2→P1 x0 x1 x2→P2 x0 x1 x2→P3 x0 x1 x2→P4 x0 x1 x2→P5 x0 x1 x2→P6 x0 x1 x2→G):G:=h.elim fun x0 h=>h.elim fun x1 h=>h.elim fun x2 h=>k x0 x1 x2 h.1 h.2.1 h.2.2.1 h.2.2.2.1 h.2.2.2.2.1 h.2.2.2.2.2.1 h.2.2.2.2.2.2
theorem Zcu{T0 T1 T2:Type}{P0 P1 P2 P3 P4 P5 P6 P7:T0→T1→T2→Prop}{G:Prop}(h:∃x0 x1 x2,P0 x0 x1 x2∧P1 x0 x1 x2∧P2 x0 x1 x2∧P3 x0 x1 x2∧P4 x0 x1 x2∧P5 x0 x1 x2∧P6 x0 x1 x2∧P7 x0 x1 x2)(k:∀x0 x1 x2,P0 x0 x1 x2→P1 x0 x1 x2→P2 x0 x1 x2→P3 x0 x1 x2→P4 x0 x1 x2→P5 x0 x1 x2→P6 x0 x1 x2→P7 x0 x1 x2→G):G:=h.elim fun x0 h=>h.elim fun x1 h=>h.elim fun x2 h=>k x0 x1 x2 h.1 h.2.1 h.2.2.1 h.2.2.2.1 h.2.2.2.2.1 h.2.2.2.2.2.1 h.2.2.2.2.2.2.1 h.2.2.2.2.2.2.2
theorem ZcD{T0 T1 T2 T3:Type}{P0:T0→T1→T2→T3→Prop}{G:Prop}(h:∃x0 x1 x2 x3,P0 x0 x1 x2 x3)(k:∀x0 x1 x2 x3,P0 x0 x1 x2 x3→G):G:=h.elim fun x0 h=>h.elim fun x1 h=>h.elim fun x2 h=>h.elim fun x3 h=>k x0 x1 x2 x3 h
theorem ZbY{T0 T1 T2 T3:Type}{P0 P1:T0→T1→T2→T3→Prop}{G:Prop}(h:∃x0 x1 x2 x3,P0 x0 x1 x2 x3∧P1 x0 x1 x2 x3)(k:∀x0 x1 x2 x3,P0 x0 x1 x2 x3→P1 x0 x1 x2 x3→G):G:=h.elim fun x0 h=>h.elim fun x1 h=>h.elim fun x2 h=>h.elim fun x3 h=>k x0 x1 x2 x3 h.1 h.2
theorem Z8k{T0 T1 T2 T3:Type}{P0 P1 P2:T0→T1→T2→T3→Prop}{G:Prop}(h:∃x0 x1 x2 x3,P0 x0 x1 x2 x3∧P1 x0 x1 x2 x3∧P2 x0 x1 x2 x3)(k:∀x0 x1 x2 x3,P0 x0 x1 x2 x3→P1 x0 x1 x2 x3→P2 x0 x1 x2 x3→G):G:=h.elim fun x0 h=>h.elim fun x1 h=>h.elim fun x2 h=>h.elim fun x3 h=>k x0 x1 x2 x3 h.1 h.2.1 h.2.2
theorem Z6Y{T0 T1 T2 T3:Type}{P0 P1 P2 P3:T0→T1→T2→T3→Prop}{G:Prop}(h:∃x0 x1 x2 x3,P0 x0 x1 x2 x3∧P1 x0 x1 x2 x3∧P2 x0 x1 x2 x3∧P3 x0 x1 x2 x3)(k:∀x0 x1 x2 x3,P0 x0 x1 x2 x3→P1 x0 x1 x2 x3→P2 x0 x1 x2 x3→P3 x0 x1 x2 x3→G):G:=h.elim fun x0 h=>h.elim fun x1 h=>h.elim fun x2 h=>h.elim fun x3 h=>k x0 x1 x2 x3 h.1 h.2.1 h.2.2.1 h.2.2.2
theorem ZaI{T0 T1 T2 T3:Type}{P0 P1 P2 P3 P4:T0→T1→T2→T3→Prop}{G:Prop}(h:∃x0 x1 x2 x3,P0 x0 x1 x2 x3∧P1 x0 x1 x2 x3∧P2 x0 x1 x2 x3∧P3 x0 x1 x2 x3∧P4 x0 x1 x2 x3)(k:∀x0 x1 x2 x3,P0 x0 x1 x2 x3→P1 x0 x1 x2 x3→P2 x0 x1 x2 x3→P3 x0 x1 x2 x3→P4 x0 x1 x2 x3→G):G:=h.elim fun x0 h=>h.elim fun x1 h=>h.elim fun x2 h=>h.elim fun x3 h=>k x0 x1 x2 x3 h.1 h.2.1 h.2.2.1 h.2.2.2.1 h.2.2.2.2
theorem ZcC{T0 T1 T2 T3:Type}{P0 P1 P2 P3 P4 P5 P6:T0→T1→T2→T3→Prop}{G:Prop}(h:∃x0 x1 x2 x3,P0 x0 x1 x2 x3∧P1 x0 x1 x2 x3∧P2 x0 x1 x2 x3∧P3 x0 x1 x2 x3∧P4 x0 x1 x2 x3∧P5 x0 x1 x2 x3∧P6 x0 x1 x2 x3)(k:∀x0 x1 x2 x3,P0 x0 x1 x2 x3→P1 x0 x1 x2 x3→P2 x0 x1 x2 x3→P3 x0 x1 x2 x3→P4 x0 x1 x2 x3→P5 x0 x1 x2 x3→P6 x0 x1 x2 x3→G):G:=h.elim fun x0 h=>h.elim fun x1 h=>h.elim fun x2 h=>h.elim fun x3 h=>k x0 x1 x2 x3 h.1 h.2.1 h.2.2.1 h.2.2.2.1 h.2.2.2.2.1 h.2.2.2.2.2.1 h.2.2.2.2.2.2
theorem ZbX{T0 T1 T2 T3:Type}{P0 P1 P2 P3 P4 P5 P6 P7:T0→T1→T2→T3→Prop}{G:Prop}(h:∃x0 x1 x2 x3,P0 x0 x1 x2 x3∧P1 x0 x1 x2 x3∧P2 x0 x1 x2 x3∧P3 x0 x1 x2 x3∧P4 x0 x1 x2 x3∧P5 x0 x1 x2 x3∧P6 x0 x1 x2 x3∧P7 x0 x1 x2 x3)(k:∀x0 x1 x2 x3,P0 x0 x1 x2 x3→P1 x0 x1 x2 x3→P2 x0 x1 x2 x3→P3 x0 x1 x2 x3→P4 x0 x1 x2 x3→P5 x0 x1 x2 x3→P6 x0 x1 x2 x3→P7 x0 x1 x2 x3→G):G:=h.elim fun x0 h=>h.elim fun x1 h=>h.elim fun x2 h=>h.elim fun x3 h=>k x0 x1 x2 x3 h.1 h.2.1 h.2.2.1 h.2.2.2.1 h.2.2.2.2.1 h.2.2.2.2.2.1 h.2.2.2.2.2.2.1 h.2.2.2.2.2.2.2
theorem ZcB{T0 T1 T2 T3 T4:Type}{P0 P1 P2:T0→T1→T2→T3→T4→Prop}{G:Prop}(h:∃x0 x1 x2 x3 x4,P0 x0 x1 x2 x3 x4∧P1 x0 x1 x2 x3 x4∧P2 x0 x1 x2 x3 x4)(k:∀x0 x1 x2 x3 x4,P0 x0 x1 x2 x3 x4→P1 x0 x1 x2 x3 x4→P2 x0 x1 x2 x3 x4→G):G:=h.elim fun x0 h=>h.elim fun x1 h=>h.elim fun x2 h=>h.elim fun x3 h=>h.elim fun x4 h=>k x0 x1 x2 x3 x4 h.1 h.2.1 h.2.2
theorem Z00{T0 T1 T2 T3 T4:Type}{P0 P1 P2 P3:T0→T1→T2→T3→T4→Prop}{G:Prop}(h:∃x0 x1 x2 x3 x4,P0 x0 x1 x2 x3 x4∧P1 x0 x1 x2 x3 x4∧P2 x0 x1 x2 x3 x4∧P3 x0 x1 x2 x3 x4)(k:∀x0 x1 x2 x3 x4,P0 x0 x1 x2 x3 x4→P1 x0 x1 x2 x3 x4→P2 x0 x1 x2 x3 x4→P3 x0 x1 x2 x3 x4→G):G:=h.elim fun x0 h=>h.elim fun x1 h=>h.elim fun x2 h=>h.elim fun x3 h=>h.elim fun x4 h=>k x0 x1 x2 x3 x4 h.1 h.2.1 h.2.2.1 h.2.2.2
theorem Z6X{T0 T1 T2 T3 T4 T5 T6:Type}{P0 P1:T0→T1→T2→T3→T4→T5→T6→Prop}{G:Prop}(h:∃x0 x1 x2 x3 x4 x5 x6,P0 x0 x1 x2 x3 x4 x5 x6∧P1 x0 x1 x2 x3 x4 x5 x6)(k:∀x0 x1 x2 x3 x4 x5 x6,P0 x0 x1 x2 x3 x4 x5 x6→P1 x0 x1 x2 x3 x4 x5 x6→G):G:=h.elim fun x0 h=>h.elim fun x1 h=>h.elim fun x2 h=>h.elim fun x3 h=>h.elim fun x4 h=>h.elim fun x5 h=>h.elim fun x6 h=>k x0 x1 x2 x3 x4 x5 x6 h.1 h.2
theorem Zcw{T0 T1 T2 T3 T4 T5 T6 T7 T8 T9:Type}{P0:T0→T1→T2→T3→T4→T5→T6→T7→T8→T9→Prop}{G:Prop}(h:∃x0 x1 x2 x3 x4 x5 x6 x7 x8 x9,P0 x0 x1 x2 x3 x4 x5 x6 x7 x8 x9)(k:∀x0 x1 x2 x3 x4 x5 x6 x7 x8 x9,P0 x0 x1 x2 x3 x4 x5 x6 x7 x8 x9→G):G:=h.elim fun x0 h=>h.elim fun x1 h=>h.elim fun x2 h=>h.elim fun x3 h=>h.elim fun x4 h=>h.elim fun x5 h=>h.elim fun x6 h=>h.elim fun x7 h=>h.elim fun x8 h=>h.elim fun x9 h=>k x0 x1 x2 x3 x4 x5 x6 x7 x8 x9 h
theorem ZaT{T0 T1 T2 T3 T4 T5 T6 T7 T8 T9 T10 T11:Type}{P0:T0→T1→T2→T3→T4→T5→T6→T7→T8→T9→T10→T11→Prop}{G:Prop}(h:∃x0 x1 x2 x3 x4 x5 x6 x7 x8 x9 x10 x11,P0 x0 x1 x2 x3 x4 x5 x6 x7 x8 x9 x10 x11)(k:∀x0 x1 x2 x3 x4 x5 x6 x7 x8 x9 x10 x11,P0 x0 x1 x2 x3 x4 x5 x6 x7 x8 x9 x10 x11→G):G:=h.elim fun x0 h=>h.elim fun x1 h=>h.elim fun x2 h=>h.elim fun x3 h=>h.elim fun x4 h=>h.elim fun x5 h=>h.elim fun x6 h=>h.elim fun x7 h=>h.elim fun x8 h=>h.elim fun x9 h=>h.elim fun x10 h=>h.elim fun x11 h=>k x0 x1 x2 x3 x4 x5 x6 x7 x8 x9 x10 x11 h
theorem ZZ{α:Type}{P:α→Prop}:∀x∈([]:List α),P x:=fun V h=>nomatch h
theorem ZY{α:Type}{P:α→Prop}{a:α}{l:List α}(h:P a)(t:∀x∈l,P x):∀x∈a::l,P x:=List.forall_mem_cons.mpr ⟨h,t⟩
theorem Zr{α:Type}{P:α→Prop}{a:α}(h:P a):∀x∈[a],P x:=ZY h ZZ
theorem Zct{α:Type}{P:α→Prop}{l m:List α}(h:∀x∈l,P x)(t:∀x∈m,P x):∀x∈l++m,P x:=List.forall_mem_append.mpr ⟨h,t⟩
theorem Y8{α:Type}{a b:α}{l:List α}(h:(a::b::l).Nodup):b≠a:=fun e=>(List.nodup_cons.mp h).1 (e▸.head _)
theorem ZR{α:Type}{x:Option α}{a:α}{G:Prop}(h:x=some a)(e:x=none):G:=nomatch h.symm.trans e
theorem J0{α:Type}{x:Option α}{a b:α}(h:x=some a)(e:x=some b):a=b:=Option.some.inj (h.symm.trans e)
end
section
open PySem PySem.Spec PySem.Calls PyProof.Rows PySem.W
set_option genSizeOf false in
inductive D where
 |none
 |bool (b:Bool)
 |int (i:Int)
 |str (s:List Nat)
 |tup (l:List D)
 |lst (l:List D)
 |raw (v:Value)
noncomputable abbrev Im:=Addr→Option Obj
noncomputable def sq(c:String)(its:Array Value)(n:Nat):Obj:={cls:=.type c,data:=.seq its n}
noncomputable def S(s:List Nat):Str:=⟨s.toArray⟩
mutual
noncomputable def Zu(im:Im):D→Value→Prop
 |.none,v=>v=.none
 |.bool b,v=>v=.bool b
 |.int i,v=>∃t,v=.int i t
 |.str s,v=>∃t,v=.str (S s) t
 |.tup l,v=>∃a its n,v=.ref a∧im a=some (sq "tuple" its n)∧Z7 im l its.toList
 |.lst l,v=>∃a its n,v=.ref a∧im a=some (sq "list" its n)∧Z7 im l its.toList
 |.raw u,v=>v=u
noncomputable def Z7(im:Im):List D→List Value→Prop
 |[],vs=>vs=[]
 |d::ds,vs=>∃v vs',vs=v::vs'∧Zu im d v∧Z7 im ds vs'
end
theorem Zj:Zu im (.lst l) v↔∃a its n,v=.ref a∧im a=some (sq "list" its n)∧Z7 im l its.toList:=Iff.rfl
theorem J1:Zu im (.tup l) v↔∃a its n,v=.ref a∧im a=some (sq "tuple" its n)∧Z7 im l its.toList:=Iff.rfl
theorem ZV(x:Z7 im [] vs):vs=[]:=x
theorem ZA(x:Z7 im (d::ds) vs):∃v vs',vs=v::vs'∧Zu im d v∧Z7 im ds vs':=x
mutual
theorem Zu.mono(h:∀a o,im a=some o→im' a=some o):∀(d:D) (v:Value),Zu im d v→Zu im' d v
 |.none,_,x=>x
 |.bool _,_,x=>x
 |.int _,_,x=>x
 |.str _,_,x=>x
 |.tup l,v,x=>by
  refine ZO (J1.mp x) fun a its n e hi r=>?_
  exact⟨a,its,n,e,h _ _ hi,Z7.mono h l _ r⟩
 |.lst l,v,x=>by
  refine ZO (Zj.mp x) fun a its n e hi r=>?_
  exact⟨a,its,n,e,h _ _ hi,Z7.mono h l _ r⟩
 |.raw _,_,x=>x
theorem Z7.mono(h:∀a o,im a=some o→im' a=some o):∀(d:List D) (v:List Value),Z7 im d v→Z7 im' d v
 |[],_,x=>x
 |d::ds,vs,x=>by
  refine Zw (ZA x) fun v vs' e r rs=>?_
  exact⟨v,vs',e,Zu.mono h d v r,Z7.mono h ds vs' rs⟩
end
theorem Z7.length:∀{ds:List D} {vs:List Value},Z7 im ds vs→vs.length=ds.length
 |[],_,x=>by replace x:=ZV x;subst x;rfl
 |d::ds,_,x=>by
  refine Zw (ZA x) ?_
  rintro v vs' rfl V rs
  simp[Z7.length rs]
theorem Z7.nil:Z7 im [] []:=by exact rfl
theorem Z7.cons(h:Zu im d v)(hs:Z7 im ds vs):Z7 im (d::ds) (v::vs):=by
 exact⟨v,vs,rfl,h,hs⟩
theorem Z7.append:∀{ds es:List D} {vs ws:List Value},Z7 im ds vs→Z7 im es ws→Z7 im (ds++es) (vs++ws)
 |[],_,_,_,x,y=>by replace x:=ZV x;subst x;simpa using y
 |d::ds,_,_,_,x,y=>by
  refine Zw (ZA x) ?_
  rintro v vs' rfl r rs
  exact Z7.cons r (Z7.append rs y)
theorem Z7.get:∀{ds:List D} {vs:List Value},Z7 im ds vs→∀{i:Nat} {d:D},ds[i]? = some d→∃v,vs[i]? = some v∧Zu im d v
 |[],_,_,_,_,e=>by simp at e
 |d::ds,_,x,i,d',e=>by
  refine Zw (ZA x) ?_
  rintro v vs' rfl r rs
  cases i with
  |zero=>simp at e;subst e;exact⟨v,by exact rfl,r⟩
  |succ i=>simpa using Z7.get rs (i:=i) (by exact e)
theorem Z7.get':∀{ds:List D} {vs:List Value},Z7 im ds vs→∀{i:Nat} {v:Value},vs[i]? = some v→∃d,ds[i]? = some d∧Zu im d v
 |[],_,x,_,_,e=>by replace x:=ZV x;subst x;simp at e
 |d::ds,_,x,i,v',e=>by
  refine Zw (ZA x) ?_
  rintro v vs' rfl r rs
  cases i with
  |zero=>simp at e;subst e;exact⟨d,by exact rfl,r⟩
  |succ i=>simpa using Z7.get' rs (i:=i) (by exact e)
theorem Z7.take:∀{ds:List D} {vs:List Value},Z7 im ds vs→∀n,Z7 im (ds.take n) (vs.take n)
 |[],_,x,n=>by replace x:=ZV x;subst x;rw[List.take_nil,List.take_nil];exact Z7.nil
 |d::ds,_,x,0=>by exact rfl
 |d::ds,_,x,n+1=>by
  refine Zw (ZA x) ?_
  rintro v vs' rfl r rs
  exact Z7.cons r (Z7.take rs n)
theorem Z7.reverse:∀{ds:List D} {vs:List Value},Z7 im ds vs→Z7 im ds.reverse vs.reverse
 |[],_,x=>by replace x:=ZV x;subst x;exact Z7.nil
 |d::ds,_,x=>by
  refine Zw (ZA x) ?_
  rintro v vs' rfl r rs
  simp only[List.reverse_cons]
  exact Z7.append (Z7.reverse rs) (Z7.cons r Z7.nil)
theorem Z7.set:∀{ds:List D} {vs:List Value},Z7 im ds vs→∀(n:Nat) {d:D} {v:Value},Zu im d v→Z7 im (ds.set n d) (vs.set n v)
 |[],_,x,n,_,_,_=>by replace x:=ZV x;subst x;exact Z7.nil
 |d::ds,_,x,0,_,_,r'=>by
  refine Zw (ZA x) ?_
  rintro v vs' rfl r rs
  exact Z7.cons r' rs
 |d::ds,_,x,n+1,_,_,r'=>by
  refine Zw (ZA x) ?_
  rintro v vs' rfl r rs
  exact Z7.cons r (Z7.set rs n r')
set_option genInjectivity false in
set_option genSizeOf false in
structure Gh where
 im:Im
 mu:Im
 gs:Array GenState
set_option genInjectivity false in
set_option genSizeOf false in
structure Base where
 h₀:Heap
 os:OsState
 im:Im
 tabs:List (Addr×Addr)
 qn:Nat→Nat→Option Str
 lim:∃o es ep,im cStatics=some o∧o.data=.dict es ep∧StrKeys es∧nsFind es "sys.recursionlimit" = none
 top:∃a o,im a=some o∧h₀.objs.size=a+1
noncomputable def TabFit(qn:Nat→Nat→Option Str)(im:Im)(ps:Array Value):Prop:=
 ∀(pos:Pos) q c,qn pos.line pos.col=some q→codeAmong pos ps.toList=some c→∃a o vs t,c=.ref a∧im a=some o∧o.data=.fields vs∧vs[1]? = some (.str q t)
theorem TabFit.mono(h:∀a o,im a=some o→im' a=some o)(x:TabFit qn im ps):TabFit qn im' ps:=
 fun pos q c e e'=>Z8k (x pos q c e e') fun a o vs t e1 e2 r=>⟨a,o,vs,t,e1,h _ _ e2,r⟩
structure Gh.Ok(B:Base)(g:Gh)(s:Shared):Prop where
 im:∀a o,g.im a=some o→s.heap.get? a=some o
 mu:∀a o,g.mu a=some o→s.heap.get? a=some o
 dis:∀a o o',g.im a=some o→g.mu a=some o'→False
 base:∀a o,B.im a=some o→g.im a=some o
 new:∀a o,g.mu a=some o→B.h₀.objs.size≤a
 size:B.h₀.objs.size≤s.heap.objs.size
 old:OldK B.h₀ s.heap
 os:s.os=B.os
 gens:∃ex:Array GenState,s.gens=g.gs++ex∧AllBare ex
 tabs:∀c P,(c,P)∈B.tabs→g.im P=none∧P<B.h₀.objs.size∧(∃o,B.im c=some o)∧P≠cStatics∧(∃ps₀,B.h₀.TableAt c P ps₀)∧∃ps,s.heap.IsCode c P ps∧s.heap.TableAt c P ps∧TabFit B.qn g.im ps
 apart:(B.tabs.map (·.2)).Nodup
theorem Gh.Ok.nolimit{g:Gh}(ok:g.Ok B s):s.heap.NoLimit:=
 Jk B.lim fun o es ep h1 h2 h3 h4=>⟨nsFind es,⟨o,es,ep,ok.im _ _ (ok.base _ _ h1),h2,h3,fun V=>rfl⟩,h4⟩
structure LeX(S:List Addr)(g g':Gh):Prop where
 im:∀a o,g.im a=some o→g'.im a=some o
 mu:∀a o,a∉S→g.mu a=some o→g'.mu a=some o
 gs:g'.gs=g.gs
noncomputable abbrev Le:=LeX []
theorem LeX.refl(S:List Addr)(g:Gh):LeX S g g:=⟨fun V V e=>e,fun V V V e=>e,rfl⟩
theorem LeX.trans{S:List Addr}(x:LeX S g g')(y:LeX S g' g''):LeX S g g'':=⟨fun a o e=>y.im a o (x.im a o e),fun a o h e=>y.mu a o h (x.mu a o h e),y.gs.trans x.gs⟩
theorem LeX.sub{S S':List Addr}(x:LeX S g g')(h:∀a∈S,a∈S'):LeX S' g g':=⟨x.im,fun a o hn e=>x.mu a o (fun hm=>hn (h a hm)) e,x.gs⟩
theorem LeX.of{S:List Addr}(x:Le g g'):LeX S g g':=x.sub (by simp)
theorem Le.at(x:Le g g')(e:g.mu a=some o):g'.mu a=some o:=x.mu a o (by exact List.not_mem_nil) e
set_option genInjectivity false in
set_option genSizeOf false in
structure Wd where
 prog:Program
 w:World
 B:Base
variable{K:Wd}{B:Base}{α β:Type}{A:Around}{g:Gh}
noncomputable def gwp(K:Wd)(A:Around)(t:Sem α)(Q:α→Gh→Prop)(g:Gh):Prop:=
 ∀(s:Shared) (E:Value→Shared→Prop),g.Ok K.B s→wpAny (model K.prog K.w) A t (fun v s'=>∃g':Gh,g'.Ok K.B s'∧Q v g') E s
section
variable{Q:α→Gh→Prop}
theorem Z6(h:Q a g):gwp K A (pure a) Q g:=fun V V ok=>wpAny_pure ⟨g,ok,h⟩
theorem Qz(e:t=t')(h:gwp K A t' Q g):gwp K A t Q g:=e▸h
theorem Za(h:gwp K A t Q' g)(hq:∀a g',Q' a g'→Q a g'):gwp K A t Q g:=
 fun s E ok=>wpAny_mono (h s E ok) (fun a V z₀=>Z4 z₀ fun g' ok' q=>⟨g',ok',hq a g' q⟩) fun V V e=>e
theorem Z0(h:gwp K A m (fun b g'=>gwp K A (f b) Q g') g):gwp K A (m>>=f) Q g:=
 fun s E ok=>wpAny_bind (wpAny_mono (h s E ok) (fun b s' z₀=>Z4 z₀ fun V ok' q=>q s' E ok') fun V V e=>e)
theorem Zs(h:gwp K A t Q g):gwp K A (holding vs t) Q g:=fun s E ok=>wpAny_holding (h s E ok)
theorem Z9B(h:gwp K A t Q g):gwp K A (t.keep vs) Q g:=fun s E ok=>wpAny_keep (h s E ok)
theorem Z11(h:gwp K A t Q g):gwp K A (t.onRaise k) Q g:=
 fun s V ok=>wpAny_onRaise (wpAny_mono (h s (fun V V=>False) ok) (fun V V x=>x) fun V V f=>f.elim)
theorem Z5o{Q:Except Value α→Gh→Prop}(h:gwp K A t (fun a=>Q (.ok a)) g):gwp K A t.attempt Q g:=
 fun s V ok=>wpAny_attempt (wpAny_mono (h s (fun V V=>False) ok) (fun V V x=>x) fun V V f=>f.elim)
end
section
variable{Q:Unit→Gh→Prop}
theorem Z1T(h:Q () g):gwp K A (rule tag) Q g:=fun V V ok=>wpAny_rule ⟨g,ok,h⟩
theorem ZF(h:Q () g):gwp K A (standAt pos) Q g:=fun V V ok=>wpAny_standAt ⟨g,ok,h⟩
theorem Yt(h:Q () g):gwp K A point Q g:=fun V V ok=>wpAny_point ⟨g,ok,h⟩
end
noncomputable def Gh.has(g:Gh)(a:Addr)(o:Obj):Prop:=g.im a=some o∨g.mu a=some o
theorem Gh.has.get(h:g.has a o)(ok:g.Ok B s):s.heap.get? a=some o:=h.elim (ok.im a o) (ok.mu a o)
theorem Gh.has.le(h:g.has a o)(l:Le g g'):g'.has a o:=h.imp (l.im a o) (l.at)
theorem Gh.has.inj(h:g.has a o)(h':g.has a o')(ok:g.Ok B s):o=o':=Option.some.inj ((h.get ok).symm.trans (h'.get ok))
theorem Z1V(ho:g.has a o)(h:Q o g):gwp K A (load a) Q g:=fun V V ok=>wpAny_load (ho.get ok) ⟨g,ok,h⟩
theorem Gh.Ok.tok(ok:g.Ok B s)(t:Nat):g.Ok B {s with toks:=t}:=⟨ok.im,ok.mu,ok.dis,ok.base,ok.new,ok.size,ok.old,ok.os,ok.gens,ok.tabs,ok.apart⟩
noncomputable def Gh.addIm(g:Gh)(a:Addr)(o:Obj):Gh:={g with im:=fun b=>if b=a then some o else g.im b}
noncomputable def Gh.setMu(g:Gh)(a:Addr)(o:Obj):Gh:={g with mu:=fun b=>if b=a then some o else g.mu b}
noncomputable def TabS(B:Base)(im:Im)(h:Heap)(c P:Addr):Prop:=im P=none∧P<B.h₀.objs.size∧(∃o,B.im c=some o)∧P≠cStatics∧(∃ps₀,B.h₀.TableAt c P ps₀)∧∃ps,h.IsCode c P ps∧h.TableAt c P ps∧TabFit B.qn im ps
theorem TabS.keeps(t:TabS B im h c P)(hk:∀b o,h.get? b=some o→h'.get? b=some o)(hP:im' P=none)(hi:∀a o,im a=some o→im' a=some o):TabS B im' h' c P:=
 Za5 t fun V a2 a3 a4 a5 a6=>⟨hP,a2,a3,a4,a5,Zm a6 fun ps b1 b2 b3=>⟨ps,b1.keeps hk,b2.keeps hk,b3.mono hi⟩⟩
theorem Zd9(t:TabS B im h c P)(hk:Heap.ExtBut a h h')(hc:c≠a)(hP:P≠a):TabS B im h' c P:=
 Za5 t fun a1 a2 a3 a4 a5 a6=>⟨a1,a2,a3,a4,a5,Zm a6 fun ps b1 b2 b3=>⟨ps,b1.extBut hk hc hP,b2.extBut hk hc hP,b3⟩⟩
theorem Gh.Ok.keeps(ok:g.Ok B s)(hk:∀b o,s.heap.get? b=some o→h'.get? b=some o):g.Ok B {s with heap:=h',toks:=tk}:=
 ⟨fun a o e=>hk _ _ (ok.im a o e),fun a o e=>hk _ _ (ok.mu a o e),ok.dis,ok.base,ok.new,by
  refine ZP B.top fun a o h1 h2=>?_
  rw[h2]
  exact Heap.lt_size (hk _ _ (ok.im _ _ (ok.base _ _ h1))),ok.old.step_keeps hk,ok.os,ok.gens,
  fun c P hm=>TabS.keeps (ok.tabs c P hm) hk (ok.tabs c P hm).1 fun V V e=>e,ok.apart⟩
theorem Gh.Ok.extBut(ok:g.Ok B s)(he:Heap.ExtBut s.heap.objs.size s.heap h'):g.Ok B {s with heap:=h',toks:=tk}:=
 ok.keeps fun b o e=>he b o (Nat.ne_of_lt (Heap.lt_size e)) e
theorem Gh.Ok.freshAt(ok:g.Ok B s)(hge:s.heap.objs.size≤c):g.im c=none∧g.mu c=none:=
 ⟨Option.eq_none_iff_forall_ne_some.mpr fun V e=>absurd (Heap.lt_size (ok.im _ _ e)) (Nat.not_lt.mpr hge),Option.eq_none_iff_forall_ne_some.mpr fun V e=>absurd (Heap.lt_size (ok.mu _ _ e)) (Nat.not_lt.mpr hge)⟩
theorem Gh.Ok.fresh(ok:g.Ok B s):g.im s.heap.objs.size=none∧g.mu s.heap.objs.size=none:=ok.freshAt (Nat.le_refl _)
theorem Gh.Ok.noIm(ok:g.Ok B s)(h:g.mu a=some o):g.im a=none:=Option.eq_none_iff_forall_ne_some.mpr fun V e=>ok.dis _ _ _ e h
theorem Le.addIm(h:g.im a=none):Le g (g.addIm a o):=⟨fun b o' e=>(if_neg (fun z:b=a=>ZR e (z▸h))).trans e,fun V V V e=>e,rfl⟩
theorem ZcL(h:g.mu a=none):Le g (g.setMu a o):=⟨fun V V e=>e,fun b o' V e=>(if_neg (fun z:b=a=>ZR e (z▸h))).trans e,rfl⟩
theorem LeX.setMu:LeX [a] g (g.setMu a o):=⟨fun V V e=>e,fun b o' hb e=>(if_neg (fun z:b=a=>hb (z▸.head _))).trans e,rfl⟩
theorem ZcJ:(g.addIm a o).im a=some o:=if_pos rfl
theorem ZcI:(g.setMu a o).mu a=some o:=if_pos rfl
theorem ZcK(h:b≠a):(g.setMu a o).mu b=g.mu b:=if_neg h
theorem ZcR{G:Prop}(e:(g.addIm a o).im b=some o')(k1:b=a→o=o'→G)(k2:b≠a→g.im b=some o'→G):G:=
 (Classical.em (b=a)).elim (fun hb=>k1 hb (Option.some.inj ((if_pos hb).symm.trans e))) fun hb=>k2 hb ((if_neg hb).symm.trans e)
theorem ZcU{G:Prop}(e:(g.setMu a o).mu b=some o')(k1:b=a→o=o'→G)(k2:b≠a→g.mu b=some o'→G):G:=
 (Classical.em (b=a)).elim (fun hb=>k1 hb (Option.some.inj ((if_pos hb).symm.trans e))) fun hb=>k2 hb ((if_neg hb).symm.trans e)
theorem Gh.Ok.putIm(ok:g.Ok B s){o:Obj}(hf:s'.heap.get? a=some o)(h1:g.im a=none)(h2:g.mu a=none)(hn:B.h₀.objs.size≤a)(hk:∀b o,s.heap.get? b=some o→s'.heap.get? b=some o)(hs:B.h₀.objs.size≤s'.heap.objs.size)(ho:s'.os=s.os)(hg:s'.gens=s.gens):(g.addIm a o).Ok B s' where
 im b o' e:=ZcR e (fun hb z=>by rw[hb,←z];exact hf) fun V e=>hk _ _ (ok.im b o' e)
 mu b o' e:=hk _ _ (ok.mu b o' e)
 dis b o1 o2 e e':=ZcR e (fun hb V=>ZR e' (hb▸h2)) fun V e=>ok.dis _ _ _ e e'
 base b o' e:=(Le.addIm h1).im _ _ (ok.base b o' e)
 new:=ok.new
 size:=hs
 old:=ok.old.step_keeps hk
 os:=ho.trans ok.os
 gens:=hg▸ok.gens
 tabs c P hm:=TabS.keeps (ok.tabs c P hm) hk ((if_neg (Nat.ne_of_lt (Nat.lt_of_lt_of_le (ok.tabs c P hm).2.1 hn))).trans (ok.tabs c P hm).1) (Le.addIm h1).im
 apart:=ok.apart
theorem Gh.Ok.putMu(ok:g.Ok B s){o:Obj}(hf:s'.heap.get? a=some o)(h1:g.im a=none)(hn:B.h₀.objs.size≤a)(hk:Heap.ExtBut a s.heap s'.heap)(hs:B.h₀.objs.size≤s'.heap.objs.size)(hold:OldK B.h₀ s'.heap)(ho:s'.os=s.os)(hg:s'.gens=s.gens):(g.setMu a o).Ok B s' where
 im b o' e:=hk _ _ (fun z=>ZR e (z▸h1)) (ok.im b o' e)
 mu b o' e:=ZcU e (fun hb z=>by rw[hb,←z];exact hf) fun hb e=>hk _ _ hb (ok.mu b o' e)
 dis b o1 o2 e e':=ZcU e' (fun hb V=>ZR e (hb▸h1)) fun V e'=>ok.dis _ _ _ e e'
 base:=ok.base
 new b o' e:=ZcU e (fun hb V=>hb▸hn) fun V e=>ok.new _ _ e
 size:=hs
 old:=hold
 os:=ho.trans ok.os
 gens:=hg▸ok.gens
 tabs c P hm:=Zd9 (ok.tabs c P hm) hk (fun z=>Zi (ok.tabs c P hm).2.2.1 fun o e=>ZR (ok.base _ _ e) (z▸h1)) (Nat.ne_of_lt (Nat.lt_of_lt_of_le (ok.tabs c P hm).2.1 hn))
 apart:=ok.apart
theorem Gh.Ok.extIm(ok:g.Ok B s)(hk:∀b o,s.heap.get? b=some o→h'.get? b=some o)(hf:h'.get? s.heap.objs.size=some o):(g.addIm s.heap.objs.size o).Ok B {s with heap:=h',toks:=tk}:=
 ok.putIm hf ok.fresh.1 ok.fresh.2 ok.size hk (Nat.le_trans ok.size (Nat.le_of_lt (Heap.lt_size hf))) rfl rfl
theorem Gh.Ok.extMu(ok:g.Ok B s)(hk:∀b o,s.heap.get? b=some o→h'.get? b=some o)(hf:h'.get? s.heap.objs.size=some o):(g.setMu s.heap.objs.size o).Ok B {s with heap:=h',toks:=tk}:=
 ok.putMu hf ok.fresh.1 ok.size (fun b o V e=>hk b o e) (Nat.le_trans ok.size (Nat.le_of_lt (Heap.lt_size hf))) (ok.old.step_keeps hk) rfl rfl
theorem Gh.Ok.pushIm(ok:g.Ok B s)(hf:o.isFreed=false):(g.addIm s.heap.objs.size o).Ok B {s with heap:=s.heap.push o}:=ok.extIm (tk:=s.toks) (fun V V e=>Heap.get?_push_of_some _ e) (Heap.get?_push_size _ hf)
theorem Gh.Ok.pushMu(ok:g.Ok B s)(hf:o.isFreed=false):(g.setMu s.heap.objs.size o).Ok B {s with heap:=s.heap.push o}:=ok.extMu (tk:=s.toks) (fun V V e=>Heap.get?_push_of_some _ e) (Heap.get?_push_size _ hf)
theorem Gh.Ok.sameBut(ok:g.Ok B s)(ha:g.mu a=some o)(hs:Heap.SameBut a s.heap h')(hf:h'.get? a=some o'):(g.setMu a o').Ok B {s with heap:=h',toks:=tk}:=
 ok.putMu hf (ok.noIm ha) (ok.new _ _ ha) hs.extBut (Nat.le_trans ok.size (Nat.le_of_eq hs.1.symm)) (ok.old.step_same (ok.new _ _ ha) hs) rfl rfl
theorem Gh.Ok.upd(ok:g.Ok B s)(ha:g.mu a=some o)(hf:(f o).isFreed=false):(g.setMu a (f o)).Ok B {s with heap:=s.heap.update a f}:=
 ok.sameBut (tk:=s.toks) ha (Heap.SameBut.update ..) (Heap.get?_update_self f (ok.mu _ _ ha) hf)
theorem Gh.Ok.knowMu(ok:g.Ok B s)(h1:g.im a=none)(h2:B.h₀.objs.size≤a)(hf:s.heap.get? a=some o):(g.setMu a o).Ok B s:=ok.putMu hf h1 h2 (fun V V V e=>e) ok.size ok.old rfl rfl
theorem Gh.Ok.knowIm(ok:g.Ok B s)(h1:g.mu a=none)(h3:g.im a=none)(h2:B.h₀.objs.size≤a)(hf:s.heap.get? a=some o):(g.addIm a o).Ok B s:=ok.putIm hf h3 h1 h2 (fun V V e=>e) ok.size rfl rfl
theorem Z15(hf:o.isFreed=false)(h:∀a,g.im a=none→g.mu a=none→Q a (g.setMu a o)):gwp K A (alloc o) Q g:=
 fun V V ok=>wpAny_alloc ⟨_,ok.pushMu hf,h _ ok.fresh.1 ok.fresh.2⟩
theorem cps(h:∀Q:α→Gh→Prop,(∀v g',P v g'→Q v g')→gwp K A t Q g):gwp K A t P g:=h P fun V V h=>h
end
section
open PySem PySem.Spec PySem.Calls PyProof.Rows PySem.W
section
variable{K:Wd}{α β:Type}{A:Around}{g:Gh}{c:Prop}[Decidable c]{t e m m':Sem α}{f:α→Sem β}{Q:α→Gh→Prop}{R:β→Gh→Prop}
end
section
variable{prog:Program}{w:World}{α β:Type}{A:Around}{s:Shared}{E:Value→Shared→Prop}{c:Prop}[Decidable c]{t e m m':Sem α}{f:α→Sem β}{Q:α→Shared→Prop}{R:β→Shared→Prop}
end
section
variable{K:Wd}{α:Type}{A:Around}{g:Gh}{t:Sem α}
theorem Zg{P0 P1:α→Gh→Prop}(h:gwp K A t (fun v s=>P0 v s∧P1 v s) g)(k:∀v s,P0 v s→P1 v s→Q v s):gwp K A t Q g:=Za h fun v s z=>ZG z (k v s)
theorem Qj{P0 P1 P2:α→Gh→Prop}(h:gwp K A t (fun v s=>P0 v s∧P1 v s∧P2 v s) g)(k:∀v s,P0 v s→P1 v s→P2 v s→Q v s):gwp K A t Q g:=Za h fun v s z=>Z0K z (k v s)
theorem Zcr{T0:Type}{P0 P1 P2:α→Gh→T0→Prop}(h:gwp K A t (fun v s=>∃x0,P0 v s x0∧P1 v s x0∧P2 v s x0) g)(k:∀v s x0,P0 v s x0→P1 v s x0→P2 v s x0→Q v s):gwp K A t Q g:=Za h fun v s z=>Zm z (k v s)
theorem Zcq{T0:Type}{T1:Type}{P0 P1:α→Gh→T0→T1→Prop}(h:gwp K A t (fun v s=>∃x0 x1,P0 v s x0 x1∧P1 v s x0 x1) g)(k:∀v s x0 x1,P0 v s x0 x1→P1 v s x0 x1→Q v s):gwp K A t Q g:=Za h fun v s z=>ZP z (k v s)
theorem Zcp{T0:Type}{T1:Type}{P0 P1 P2:α→Gh→T0→T1→Prop}(h:gwp K A t (fun v s=>∃x0 x1,P0 v s x0 x1∧P1 v s x0 x1∧P2 v s x0 x1) g)(k:∀v s x0 x1,P0 v s x0 x1→P1 v s x0 x1→P2 v s x0 x1→Q v s):gwp K A t Q g:=Za h fun v s z=>Zw z (k v s)
theorem Zco{T0:Type}{T1:Type}{P0 P1 P2 P3 P4 P5:α→Gh→T0→T1→Prop}(h:gwp K A t (fun v s=>∃x0 x1,P0 v s x0 x1∧P1 v s x0 x1∧P2 v s x0 x1∧P3 v s x0 x1∧P4 v s x0 x1∧P5 v s x0 x1) g)(k:∀v s x0 x1,P0 v s x0 x1→P1 v s x0 x1→P2 v s x0 x1→P3 v s x0 x1→P4 v s x0 x1→P5 v s x0 x1→Q v s):gwp K A t Q g:=Za h fun v s z=>ZcF z (k v s)
theorem Zcn{T0:Type}{T1:Type}{T2:Type}{P0 P1 P2 P3 P4 P5 P6:α→Gh→T0→T1→T2→Prop}(h:gwp K A t (fun v s=>∃x0 x1 x2,P0 v s x0 x1 x2∧P1 v s x0 x1 x2∧P2 v s x0 x1 x2∧P3 v s x0 x1 x2∧P4 v s x0 x1 x2∧P5 v s x0 x1 x2∧P6 v s x0 x1 x2) g)(k:∀v s x0 x1 x2,P0 v s x0 x1 x2→P1 v s x0 x1 x2→P2 v s x0 x1 x2→P3 v s x0 x1 x2→P4 v s x0 x1 x2→P5 v s x0 x1 x2→P6 v s x0 x1 x2→Q v s):gwp K A t Q g:=Za h fun v s z=>ZcE z (k v s)
end
section
variable{prog:Program}{w:World}{α:Type}{A:Around}{s:Shared}{E:Value→Shared→Prop}{t:Sem α}
theorem Zn{T0:Type}{P0 P1:α→Shared→T0→Prop}(h:wpAny (model prog w) A t (fun v s=>∃x0,P0 v s x0∧P1 v s x0) E s)(k:∀v s x0,P0 v s x0→P1 v s x0→Q v s):wpAny (model prog w) A t Q E s:=wpAny_mono h (fun v s z=>Z4 z (k v s)) fun V V z=>z
theorem Qc{T0:Type}{P0 P1 P2:α→Shared→T0→Prop}(h:wpAny (model prog w) A t (fun v s=>∃x0,P0 v s x0∧P1 v s x0∧P2 v s x0) E s)(k:∀v s x0,P0 v s x0→P1 v s x0→P2 v s x0→Q v s):wpAny (model prog w) A t Q E s:=wpAny_mono h (fun v s z=>Zm z (k v s)) fun V V z=>z
theorem ZaJ{P0 P1:α→Shared→Prop}(h:wpAny (model prog w) A t (fun v s=>P0 v s∧P1 v s) E s)(k:∀v s,P0 v s→P1 v s→Q v s):wpAny (model prog w) A t Q E s:=wpAny_mono h (fun v s z=>ZG z (k v s)) fun V V z=>z
end
theorem Zc9{α:Type}{a:α}:a∉([]:List α):=fun h=>nomatch h
theorem Zc8{α:Type}{a b:α}{l:List α}(h:a≠b)(t:a∉l):a∉b::l:=fun m=>(List.mem_cons.mp m).elim h t
theorem Z78{α:Type}{a b:α}(h:a≠b):a∉[b]:=Zc8 h Zc9
theorem ZaN{α:Type}{a:α}{l m:List α}(h:a∈l):a∈l++m:=List.mem_append.mpr (.inl h)
end
section
open PySem PySem.Spec PySem.Calls PyProof.Rows PySem.W
variable{K:Wd}{B:Base}{α β:Type}{A:Around}{g:Gh}
noncomputable def Room(A:Around)(n:Nat):Prop:=A.handled=none∧A.depth+n<recursionLimit∧A.units+8*n<cLine
theorem Room.sub(h:Room A n)(hm:m≤n):Room A m:=⟨h.1,Nat.lt_of_le_of_lt (Nat.add_le_add_left hm _) h.2.1,Nat.lt_of_le_of_lt (Nat.add_le_add_left (Nat.mul_le_mul_left 8 hm) _) h.2.2⟩
theorem Room.in1(h:Room A (n+1)):Room A.in1 n:=⟨h.1,by have:=h.2.1;dsimp only[Around.in1_depth];exact Nat.le_of_lt this,by have:=h.2.2;dsimp only[Around.in1_units];lia⟩
theorem Room.deeper(h:Room A (n+1)):Room (A.deeper env) n:=⟨h.1,by have:=h.2.1;dsimp only[Around.deeper];lia,by have:=h.2.2;dsimp only[Around.deeper_units];exact Nat.lt_of_le_of_lt (by rw[Nat.mul_succ,Nat.add_assoc,Nat.add_comm (8*n)];exact Nat.add_le_add_left (Nat.add_le_add_right (by decide) _) _) this⟩
theorem Room.units(h:Room A n):A.units<cLine:=by have:=h.2.2;exact Nat.lt_of_le_of_lt (Nat.le_add_right _ _) this
theorem Room.depth(h:Room A n):A.depth<recursionLimit:=by have:=h.2.1;exact Nat.lt_of_le_of_lt (Nat.le_add_right _ _) this
noncomputable def Pv(K:Wd)(n:Nat)(g:Gh)(t:Sem α)(P:Gh→α→Prop):Prop:=
 ∀A,Room A n→∀g₁,Le g g₁→gwp K A t (fun v g₂=>Le g₁ g₂∧P g₂ v) g₁
noncomputable abbrev Pe(K:Wd)(n:Nat)(g:Gh)(t:Sem Value)(d:D):Prop:=Pv K n g t (fun g v=>Zu g.im d v)
theorem Pv.le(h:Pv K n g t P)(l:Le g g'):Pv K n g' t P:=fun A r g₁ l₁=>h A r g₁ (l.trans l₁)
theorem Pv.room(h:Pv K n g t P)(hm:n≤m):Pv K m g t P:=fun A r g₁ l₁=>h A (r.sub hm) g₁ l₁
theorem Pv.mono(h:Pv K n g t P)(hp:∀g₂ v,Le g g₂→P g₂ v→P' g₂ v):Pv K n g t P':=
 fun A r g₁ l₁=>Zg (h A r g₁ l₁) fun v g₂ l₂ p=>⟨l₂,hp g₂ v (l₁.trans l₂) p⟩
theorem Pv.use(h:Pv K n g t P)(r:Room A n)(k:∀v g',Le g g'→P g' v→Q v g'):gwp K A t Q g:=
 Zg (h A r g (LeX.refl _ _)) fun v g' l p=>k v g' l p
theorem Zk(h:Zu im (.raw u) v):v=u:=h
theorem Pv.useR(h:Pv K n g t fun g' v=>Zu g'.im (.raw w) v)(r:Room A n)(k:∀g',Le g g'→Q w g'):gwp K A t Q g:=
 Za (h A r g (LeX.refl _ _)) fun v g' z=>(Zk z.2)▸k g' z.1
theorem Pe.is(h:Pe K n g t d)(e:d=d'):Pe K n g t d':=e▸h
theorem Zu.le(h:Zu g.im d v)(l:Le g g'):Zu g'.im d v:=h.mono l.im
theorem Z7.le(h:Z7 g.im d v)(l:Le g g'):Z7 g'.im d v:=h.mono l.im
set_option genInjectivity false in
set_option genSizeOf false in
structure MO where
 P:Im→Obj→Prop
 mono:∀im im' o,(∀a o,im a=some o→im' a=some o)→P im o→P im' o
noncomputable def MO.list(ds:List D):MO:=⟨fun im o=>∃its n,o=sq "list" its n∧Z7 im ds its.toList,fun V V V h z₀=>ZP z₀ fun its n e r=>⟨its,n,e,r.mono h⟩⟩
noncomputable def MO.obj(o:Obj):MO:=⟨fun V o'=>o'=o,fun V V V V e=>e⟩
noncomputable def NsObj(o:Obj)(f:Str→Option Value):Prop:=∃es ep,o.data=.dict es ep∧StrKeys es∧∀x,nsFind es x=f x
theorem NsObj.ns(x:NsObj o f){h:Heap}(e:h.get? a=some o):h.Ns a f:=QD x fun es ep r=>⟨o,es,ep,e,r⟩
noncomputable def GlobIs(B:Base)(x:Str)(v:Value):Prop:=
 (∃o f,B.im mainGlobals=some o∧NsObj o f∧f x=some v)∨
 (∃o f o' f',B.im mainGlobals=some o∧NsObj o f∧f x=none∧B.im builtinsNs=some o'∧NsObj o' f'∧f' x=some v)
structure Frm(K:Wd)(b:Gh)(S:List Addr)(fn:List Nat)(cs:List Addr)(env:Env)(nm:List (Str×NameKind))(σ:List (Option D))(own:List (Addr×MO))(g:Gh):Prop where
 le:LeX S b g
 names:env.scope.names=nm
 kind:env.scope.kind=.function
 ndup:(nm.map (·.1)).Nodup
 ndbg:∀x∈nm,(x.1==("__debug__":Str))=false∧(x.1==("__classdict__":Str))=false
 globals:env.globals=mainGlobals
 builtins:env.builtins=builtinsNs
 loc:∃o f,g.mu env.locals=some o∧NsObj o f∧∀(i:Nat) (x:Str) (d:D),nm[i]? = some (x,NameKind.local)→σ[i]? = some (some d)→∃v,f x=some v∧Zu g.im d v
 cel:∀(i:Nat) (x:Str) (k:NameKind),nm[i]? = some (x,k)→(k=NameKind.cell∨k=NameKind.free)→∃c o w,env.cells.lookup x=some c∧g.has c o∧o.data=.cell w∧(∀d:D,σ[i]? = some (some d)→∃v,w=some v∧Zu g.im d v)
 glo:∀(i:Nat) (x:Str) (d:D),nm[i]? = some (x,NameKind.globalImplicit)→σ[i]? = some (some d)→∃v,d=D.raw v∧GlobIs K.B x v
 cw:∀(i:Nat) (x:Str),i∈fn→nm[i]? = some (x,NameKind.cell)→∃c o,env.cells.lookup x=some c∧c∈cs∧g.mu c=some o
 csm:∀c∈cs,∃o w,g.mu c=some o∧o.data=.cell w
 cinj:∀(i j:Nat) (x y:Str) (k k':NameKind) (c:Addr),nm[i]? = some (x,k)→nm[j]? = some (y,k')→env.cells.lookup x=some c→env.cells.lookup y=some c→i=j
 apart:(env.locals::cs++own.map (·.1)).Nodup
 fresh:∀a∈env.locals::cs,b.mu a=none
 own:∀p∈own,∃o,g.mu p.1=some o∧p.2.P g.im o∧(p.1∈S∨b.mu p.1=none)
variable{b:Gh}{S:List Addr}{fn:List Nat}{cs:List Addr}{env:Env}{nm:List (Str×NameKind)}{σ σ':List (Option D)}{own:List (Addr×MO)}{n:Nat}
theorem Frm.up(F:Frm K b S fn cs env nm σ own g)(l:Le g g'):Frm K b S fn cs env nm σ own g' where
 le:=F.le.trans (.of l)
 names:=F.names
 kind:=F.kind
 ndup:=F.ndup
 ndbg:=F.ndbg
 globals:=F.globals
 builtins:=F.builtins
 loc:=Zw F.loc fun o f e h r=>⟨o,f,l.at e,h,fun i x d h1 h2=>Z4 (r i x d h1 h2) fun v e1 e2=>⟨v,e1,e2.le l⟩⟩
 cel:=fun i x k h1 h2=>Jk (F.cel i x k h1 h2) fun c o w e1 e2 e3 r=>⟨c,o,w,e1,e2.le l,e3,fun d hd=>Z4 (r d hd) fun v a1 a2=>⟨v,a1,a2.le l⟩⟩
 glo:=F.glo
 cw:=fun i x hf h=>Zw (F.cw i x hf h) fun c o e1 e2 e3=>⟨c,o,e1,e2,l.at e3⟩
 csm:=fun c hc=>ZP (F.csm c hc) fun o w e1 e2=>⟨o,w,l.at e1,e2⟩
 cinj:=F.cinj
 apart:=F.apart
 fresh:=F.fresh
 own:=fun p hp=>Zm (F.own p hp) fun o e1 e2 e3=>⟨o,l.at e1,p.2.mono _ _ _ l.im e2,e3⟩
theorem Frm.less(F:Frm K b S fn cs env nm σ own g)(h:∀(i:Nat) (d:D),σ'[i]? = some (some d)→σ[i]? = some (some d)):Frm K b S fn cs env nm σ' own g:=
 {F with
  loc:=Zw F.loc fun o f e hh r=>⟨o,f,e,hh,fun i x d h1 h2=>r i x d h1 (h i d h2)⟩
  cel:=fun i x k h1 h2=>Jk (F.cel i x k h1 h2) fun c o w e1 e2 e3 r=>⟨c,o,w,e1,e2,e3,fun d hd=>r d (h i d hd)⟩
  glo:=fun i x d h1 h2=>F.glo i x d h1 (h i d h2)}
theorem Frm.drop(F:Frm K b S fn cs env nm σ own g)(h:own'.Sublist own):Frm K b S fn cs env nm σ own' g:=
 {F with
  apart:=F.apart.sublist (List.Sublist.append (List.Sublist.refl _) (h.map _))
  own:=fun p hp=>F.own p (h.subset hp)}
theorem JG{γ:Type}:∀{l:List (Str×γ)} {i:Nat} {x:Str} {k:γ},(l.map (·.1)).Nodup→l[i]? = some (x,k)→l.lookup x=some k
 |[],_,_,_,_,e=>by simp at e
 |(y,k')::l,0,x,k,_,e=>by
  simp at e
  refine ZG e ?_
  rintro rfl rfl
  simp[List.lookup_cons]
 |(y,k')::l,i+1,x,k,hn,e=>by
  simp at e
  rw[List.map_cons,List.nodup_cons] at hn
  have hx:x∈l.map (·.1):=List.mem_map_of_mem (List.mem_of_getElem? e)
  have hne:(x==y)=false:=by
   rw[beq_eq_false_iff_ne]
   rintro rfl
   exact hn.1 hx
  simp only[List.lookup_cons,hne]
  exact JG hn.2 e
theorem Frm.kindOf{i:Nat}(F:Frm K b S fn cs env nm σ own g)(h:nm[i]? = some (x,k)):env.kindOf x=some k:=by
 delta Env.kindOf
 rw[F.names]
 exact JG F.ndup h
theorem Frm.dbg{i:Nat}(F:Frm K b S fn cs env nm σ own g)(h:nm[i]? = some (x,k)):(x==("__debug__":Str))=false:=(F.ndbg _ (List.mem_of_getElem? h)).1
theorem Z5H{B:Base}(hB:∀a o,B.im a=some o→s.heap.get? a=some o)(hg:GlobIs B x v)(h1:env.globals=mainGlobals)(h2:env.builtins=builtinsNs)(q:Q v s):wpAny (model prog w) A (loadGlobal env x) Q E s:=by
 rcases hg with⟨o,f,e,hh,hx⟩ | ⟨o,f,o',f',e,hh,hx,e',hh',hx'⟩
 ·exact loadGlobal_global (h1.symm▸hh.ns (hB _ _ e)) hx q
 ·exact loadGlobal_builtin (h1.symm▸hh.ns (hB _ _ e)) hx (h2.symm▸hh'.ns (hB _ _ e')) hx' q
theorem Frm.read{i:Nat}{k:NameKind}(F:Frm K b S fn cs env nm σ own g)(h:nm[i]? = some (x,k))(hd:σ[i]? = some (some d))(hk:k≠.globalExplicit)(q:∀v,Zu g.im d v→Q v g) :
  gwp K A (loadName env x) Q g:=by
 intro s E ok
 have hkx:=F.kindOf h
 cases k with
 | «local»=>exact Zw F.loc fun o f e hh r=>Z4 (r i x d h hd) fun v e1 e2=>wpAny_loadName_local F.kind hkx (hh.ns (ok.mu _ _ e)) e1 ⟨g,ok,q v e2⟩
 |globalImplicit=>
  rw[loadName_read F.kind hkx]
  exact Z4 (F.glo i x d h hd) fun v e hg=>Z5H (fun a o e=>ok.im a o (ok.base a o e)) hg F.globals F.builtins ⟨g,ok,q v (e▸rfl)⟩
 |globalExplicit=>exact absurd rfl hk
 |cell=>exact Jk (F.cel i x _ h (.inl rfl)) fun c o w e1 e2 e3 r=>Z4 (r d hd) fun v e e4=>wpAny_loadName_cell F.kind hkx e1 ⟨o,e2.get ok,e3.trans (congrArg _ e)⟩ ⟨g,ok,q v e4⟩
 |free=>exact Jk (F.cel i x _ h (.inr rfl)) fun c o w e1 e2 e3 r=>Z4 (r d hd) fun v e e4=>wpAny_loadName_free F.kind hkx e1 ⟨o,e2.get ok,e3.trans (congrArg _ e)⟩ ⟨g,ok,q v e4⟩ (F.ndbg _ (List.mem_of_getElem? h)).2
theorem getElem?_set_cases{γ:Type}{l:List γ}{a b:γ}(h:(l.set i a)[j]? = some b):(i=j∧b=a)∨(i≠j∧l[j]? = some b):=by
 rw[List.getElem?_set] at h
 by_cases hij:i=j
 ·rw[if_pos hij] at h
  split at h
  ·cases h;exact .inl ⟨hij,rfl⟩
  ·cases h
 ·rw[if_neg hij] at h;exact .inr ⟨hij,h⟩
theorem Z0r{γ:Type}{l:List γ}(hn:l.Nodup){i j:Nat}{a:γ}(hi:l[i]? = some a)(hj:l[j]? = some a):i=j:=by
 obtain⟨h1,e1⟩:=List.getElem?_eq_some_iff.mp hi
 obtain⟨h2,e2⟩:=List.getElem?_eq_some_iff.mp hj
 have hp:=List.pairwise_iff_getElem.mp hn
 rcases Nat.lt_trichotomy i j with h | h | h
 ·exact absurd (e1.trans e2.symm) (hp i j h1 h2 h)
 ·exact h
 ·exact absurd (e2.trans e1.symm) (hp j i h2 h1 h)
theorem Y7:∀{l:List (Str×NameKind)} {i j:Nat} {x:Str} {k k':NameKind},(l.map (·.1)).Nodup→l[i]? = some (x,k)→l[j]? = some (x,k')→i=j:=by
 intro l i j x k k' hn hi hj
 have hi':(l.map (·.1))[i]? = some x:=by rw[List.getElem?_map,hi];rfl
 have hj':(l.map (·.1))[j]? = some x:=by rw[List.getElem?_map,hj];rfl
 exact Z0r hn hi' hj'
theorem Gh.has.other(hx:g.has c o)(hne:c≠a):(g.setMu a o').has c o:=hx.imp (fun z=>z) fun z=>(ZcK hne).trans z
theorem Frm.put{i:Nat}{k:NameKind}(F:Frm K b S fn cs env nm σ own g)(h:nm[i]? = some (x,k))(hk:k≠.globalImplicit)(ha:a∈env.locals::cs)(hcs:a∈cs→∃w,o'.data=.cell w)
  (loc':∃o f,(g.setMu a o').mu env.locals=some o∧NsObj o f∧∀(j:Nat) (y:Str) (d':D),nm[j]? = some (y,NameKind.local)→(σ.set i (some d))[j]? = some (some d')→∃v,f y=some v∧Zu g.im d' v)
  (cel':∀(j:Nat) (y:Str) (k:NameKind),nm[j]? = some (y,k)→(k=NameKind.cell∨k=NameKind.free)→∃c o w,env.cells.lookup y=some c∧(g.setMu a o').has c o∧o.data=.cell w∧(∀d':D,(σ.set i (some d))[j]? = some (some d')→∃v,w=some v∧Zu g.im d' v)):Frm K b S fn cs env nm (σ.set i (some d)) own (g.setMu a o'):=
 have mu:∀{c:Addr} {o:Obj},g.mu c=some o→∃o,(g.setMu a o').mu c=some o:=fun{c o} e=>(Classical.em (c=a)).elim (fun z=>⟨o',z▸ZcI⟩) fun z=>⟨o,(ZcK z).trans e⟩
 {le:=⟨F.le.im,fun c oa hc ea=>(ZcK fun z=>ZR ea (by rw[z];exact F.fresh _ ha)).trans (F.le.mu c oa hc ea),F.le.gs⟩
  names:=F.names,kind:=F.kind,ndup:=F.ndup,ndbg:=F.ndbg,globals:=F.globals,builtins:=F.builtins
  loc:=loc'
  cel:=cel'
  glo:=fun j y d' hj hd'=>(getElem?_set_cases hd').elim (fun z=>absurd (congrArg Prod.snd (J0 h (z.1▸hj))) hk) fun z=>F.glo j y d' hj z.2
  cw:=fun j y hf hj=>Zw (F.cw j y hf hj) fun c oc e1 e2 e3=>Zi (mu e3) fun o e=>⟨c,o,e1,e2,e⟩
  csm:=fun c hc=>(Classical.em (c=a)).elim (fun z=>Zi (hcs (z▸hc)) fun w e=>⟨o',w,z▸ZcI,e⟩) fun z=>ZP (F.csm c hc) fun oc wc e1 e2=>⟨oc,wc,(ZcK z).trans e1,e2⟩
  cinj:=F.cinj
  apart:=F.apart
  fresh:=F.fresh
  own:=fun p hp=>Zm (F.own p hp) fun op e1 e2 e3=>⟨op,(ZcK fun z=>(List.nodup_append.mp F.apart).2.2 a ha p.1 (List.mem_map_of_mem hp) z.symm).trans e1,e2,e3⟩}
theorem Frm.storeLocal{i:Nat}{d:D}(F:Frm K b S fn cs env nm σ own g)(h:nm[i]? = some (x,NameKind.local))(hv:Zu g.im d v)
  (q:∀g',LeX [env.locals] g g'→Frm K b S fn cs env nm (σ.set i (some d)) own g'→Q () g'):gwp K A (storeName env x v) Q g:=fun s E ok=>
 Zw F.loc fun o f e hh r=>wpAny_storeName_local (F.kindOf h) (hh.ns (ok.mu _ _ e)) (fun h' hn' hs'=>Jk hn' fun o' es' ep' ho' hd' hk' hf'=>
  ⟨_,ok.sameBut (tk:=s.toks+1) e hs' ho',q _ LeX.setMu (F.put h (fun z=>nomatch z) (.head _) (fun z=>absurd z (fun z=>(List.nodup_cons.mp F.apart).1 (List.mem_append.mpr (.inl z))))
   ⟨o',_,ZcI,⟨es',ep',hd',hk',hf'⟩,fun j y d' hj hd'=>(getElem?_set_cases hd').elim (fun z=>⟨v,if_pos (congrArg Prod.fst (J0 (z.1▸hj) h)),Option.some.inj z.2▸hv⟩)
    fun z=>Z4 (r j y d' hj z.2) fun v' a1 a2=>⟨v',(if_neg fun e=>z.1 (Y7 F.ndup h (e▸hj))).trans a1,a2⟩⟩
   fun j y k hj hk=>Jk (F.cel j y k hj hk) fun c oc wc e1 e2 e3 e4=>
    ⟨c,oc,wc,e1,e2.other (fun z=>ZP hh fun es ep hde V=>by have:=e2.inj (.inr (by rw[z];exact e)) ok;rw[this,hde] at e3;cases e3),
    e3,fun d' hd'=>(getElem?_set_cases hd').elim (fun z=>by rw[←z.1,h] at hj;cases hj;rcases hk with hk | hk<;>cases hk) fun z=>e4 d' z.2⟩)⟩) (by rw[F.kind];rfl)
theorem Frm.storeCell{i:Nat}{d:D}(F:Frm K b S fn cs env nm σ own g)(h:nm[i]? = some (x,NameKind.cell))(hin:i∈fn)(hv:Zu g.im d v)
  (q:∀g',LeX cs g g'→Frm K b S fn cs env nm (σ.set i (some d)) own g'→Q () g'):gwp K A (storeName env x v) Q g:=fun s E ok=>
 Zw (F.cw i x hin h) fun c oc' e1 e2' e3'=>ZP (F.csm c e2') fun oc wc e3 e4=>Zw F.loc fun o f e hh r=>
  have hcl:env.locals≠c:=fun z=>(List.nodup_cons.mp F.apart).1 (List.mem_append.mpr (.inl (z▸e2')))
  wpAny_storeName_cell F.kind (F.kindOf h) e1 ⟨oc,ok.mu _ _ e3,e4⟩ fun h' hc' hs'=>Z4 hc' fun o' ho' hd'=>
  ⟨_,ok.sameBut (tk:=s.toks) e3 hs' ho',q _ (LeX.setMu.sub (Zr e2')) (F.put h (fun z=>nomatch z) (.tail _ e2') (fun V=>⟨_,hd'⟩)
   ⟨o,f,(ZcK hcl).trans e,hh,fun j y d' hj hd'=>(getElem?_set_cases hd').elim (fun z=>absurd (congrArg Prod.snd (J0 (b:=(y,NameKind.local)) h (by rw[z.1];exact hj))) fun z=>nomatch z) fun z=>r j y d' hj z.2⟩
   fun j y k hj hk=>Jk (F.cel j y k hj hk) fun c2 oc2 wc2 f1 f2 f3 f4=>(Classical.em (c2=c)).elim
    (fun hc=>⟨c,o',some v,f1.trans (congrArg some hc),.inr ZcI,hd',fun d' hd'=>(getElem?_set_cases hd').elim (fun z=>⟨v,rfl,Option.some.inj z.2▸hv⟩) fun z=>absurd (F.cinj i j x y _ _ _ h hj e1 (f1.trans (congrArg some hc))) z.1⟩)
    fun hc=>⟨c2,oc2,wc2,f1,f2.other hc,f3,fun d' hd'=>(getElem?_set_cases hd').elim (fun z=>absurd (Option.some.inj (f1.symm.trans ((congrArg (fun p=>env.cells.lookup p.1) (J0 (z.1▸hj) h)).trans e1))) hc) fun z=>f4 d' z.2⟩)⟩
theorem Frm.addOwn(F:Frm K b S fn cs env nm σ own g)(hm:m.P g.im o)(ha:g.mu a=none)(hb:b.mu a=none):Frm K b S fn cs env nm σ ((a,m)::own) (g.setMu a o):=by
 have F':=F.up (ZcL ha (o:=o))
 exact{F' with
  apart:=by
   have hap:=F.apart
   rw[List.map_cons]
   have hn:a∉env.locals::cs++own.map (·.1):=by
    intro hm'
    rw[List.cons_append] at hm'
    rcases List.mem_cons.mp hm' with rfl | hm'
    ·refine ZP F.loc fun o f e V=>?_
     cases((ha).symm.trans e)
    rcases List.mem_append.mp hm' with hm' | hm'
    ·refine ZP (F.csm a hm') fun oc wc e1 V=>?_
     cases((ha).symm.trans e1)
    ·refine Z4 (List.mem_map.mp hm') ?_
     clear hm';rintro p hp rfl
     refine Z4 (F.own p hp) fun op e1 V=>?_
     clear hm' F;cases((ha).symm.trans e1)
   rw[List.nodup_append] at hap ⊢
   refine⟨hap.1,List.nodup_cons.mpr ⟨fun h=>hn (List.mem_append.mpr (.inr h)),hap.2.1⟩,fun x hx y hy=>?_⟩
   rcases List.mem_cons.mp hy with rfl | hy
   ·clear ha F;rintro rfl;exact hn (List.mem_append.mpr (.inl hx))
   ·exact hap.2.2 x hx y hy
  own:=fun p hp=>by
   rcases List.mem_cons.mp hp with rfl | hp
   ·exact⟨o,ZcI,hm,.inr hb⟩
   ·exact F'.own p hp}
end
section
open PySem PySem.Spec PySem.Calls PyProof.Rows PySem.W
variable{K:Wd}{B:Base}{α β:Type}{A:Around}{g:Gh}{n:Nat}{env:Env}
variable{b:Gh}{S':List Addr}{fn:List Nat}{cs:List Addr}{nm:List (Str×NameKind)}{σ σ':List (Option D)}{own:List (Addr×MO)}
section
variable{Q:Value→Gh→Prop}
theorem Z32(h:gwp K A (eval l env) (fun a g₁=>gwp K A (eval r env) (fun b g₂=>gwp K A (binaryOp op a b) Q g₂) g₁) g):gwp K A (eval (.BinOp l op r pos) env) Q g:=
 fun s E ok=>wpAny_BinOp (Zn (h s E ok) (fun a s₁ V ok₁ h₁=>Zn (h₁ s₁ E ok₁) (fun b s₂ V ok₂ h₂=>h₂ s₂ E ok₂)))
theorem Z5r(h:gwp K A (eval l env) (fun a g₁=>gwp K A (eval r env) (fun b g₂=>gwp K A (compareOp op a b) Q g₂) g₁) g)(hm:autoParam (behindInMarks op r=false) Z5):gwp K A (eval (.Compare l [op] [r] pos) env) Q g:=
 fun s E ok=>wpAny_Compare1 (Zn (h s E ok) (fun a s₁ V ok₁ h₁=>Zn (h₁ s₁ E ok₁) (fun b s₂ V ok₂ h₂=>h₂ s₂ E ok₂))) hm
theorem Z5q(h:gwp K A (eval x env) (fun a g₁=>gwp K A (unaryOp op a) Q g₁) g):gwp K A (eval (.UnaryOp op x pos) env) Q g:=
 fun s E ok=>wpAny_UnaryOp (Zn (h s E ok) (fun a s₁ V ok₁ h₁=>h₁ s₁ E ok₁))
theorem Z9E(h:gwp K A (loadName env x) Q g)(hd:(x==("__debug__":Str))=false):gwp K A (eval (.Name x pos) env) Q g:=fun s E ok=>wpAny_Name (h s E ok) hd
theorem Zat(h:∀t,Q (.int i t) g):gwp K A (eval (.Constant (.int i) k pos) env) Q g:=fun s E ok=>wpAny_Constant_int ⟨g,ok.tok _,h _⟩
theorem Zas(h:∀t,Q (.str x t) g):gwp K A (eval (.Constant (.str x) k pos) env) Q g:=fun s E ok=>wpAny_Constant_str ⟨g,ok.tok _,h _⟩
theorem Z9C(h:Q (.bool v) g):gwp K A (eval (.Constant (.bool v) k pos) env) Q g:=fun s E ok=>wpAny_Constant_bool ⟨g,ok,h⟩
theorem Z31(h:gwp K A (isTrue t env (eval t env)) (fun b g₁=>if b then gwp K A (eval x env) Q g₁ else gwp K A (eval y env) Q g₁) g):gwp K A (eval (.IfExp t x y pos) env) Q g:=
 fun s E ok=>wpAny_IfExp (Zn (h s E ok) (fun b s₁ V ok₁ h₁=>by cases b<;>exact h₁ s₁ E ok₁))
end
theorem Zae{i:Nat}(F:Frm K b S' fn cs env nm σ own g)(h:nm[i]? = some (x,k))(hd:σ[i]? = some (some d))(hk:autoParam ((k==NameKind.globalExplicit)=false) Z5):Pe K n g (eval (.Name x pos) env) d:=
 fun A r g₁ l=>Z9E ((F.up l).read h hd (ne_of_beq_false hk) fun v hv=>⟨LeX.refl _ _,hv⟩) (F.dbg h)
theorem Z9:Pe K n g (eval (.Constant (.int i) k pos) env) (.int i):=fun A r g₁ l=>Zat fun t=>⟨LeX.refl _ _,t,rfl⟩
theorem Zy(h:x=S l):Pe K n g (eval (.Constant (.str x) k pos) env) (.str l):=fun A r g₁ V=>Zas fun t=>⟨LeX.refl _ _,by subst h;exact⟨t,rfl⟩⟩
theorem Zaf:Pe K n g (eval (.Constant (.bool v) k pos) env) (.bool v):=fun A r g₁ V=>Z9C ⟨LeX.refl _ _,by exact rfl⟩
theorem Pv.bind(h:Pv K n g m P)(k:∀v g',Le g g'→P g' v→Pv K n g' (f v) P'):Pv K n g (m>>=f) P':=
 fun A r g₁ l=>Z0 (Zg (h A r g₁ l) fun v g₂ l₂ p=>Zg (k v g₂ (l.trans l₂) p A r g₂ (LeX.refl _ _)) fun u g₃ l₃ p'=>⟨l₂.trans l₃,p'⟩)
noncomputable def OpSem(K:Wd)(n:Nat)(g₀:Gh)(f:Value→Value→Sem Value)(d₁ d₂ d:D):Prop:=∀g,Le g₀ g→∀v₁ v₂,Zu g.im d₁ v₁→Zu g.im d₂ v₂→Pe K n g (f v₁ v₂) d
noncomputable def UnSem(K:Wd)(n:Nat)(g₀:Gh)(f:Value→Sem Value)(d₁ d:D):Prop:=∀g,Le g₀ g→∀v₁,Zu g.im d₁ v₁→Pe K n g (f v₁) d
theorem Z8(hl:Pe K n g (eval l env) d₁)(hr:Pe K n g (eval r env) d₂)(h:OpSem K n g (binaryOp op) d₁ d₂ d):Pe K n g (eval (.BinOp l op r pos) env) d:=
 fun A rm g₁ l=>Z32 (Zg (hl A rm g₁ l) fun v₁ g₂ l₂ p₁=>Zg (hr A rm g₂ (l.trans l₂)) fun v₂ g₃ l₃ p₂=>Zg (h g₃ (l.trans (l₂.trans l₃)) v₁ v₂ (p₁.le l₃) p₂ A rm g₃ (LeX.refl _ _)) fun v g₄ l₄ p=>⟨l₂.trans (l₃.trans l₄),p⟩)
theorem Z92(hl:Pe K n g (eval l env) d₁)(hr:Pe K n g (eval r env) d₂)(h:OpSem K n g (compareOp op) d₁ d₂ d)(hm:autoParam (behindInMarks op r=false) Z5):Pe K n g (eval (.Compare l [op] [r] pos) env) d:=
 fun A rm g₁ l=>Z5r (Zg (hl A rm g₁ l) fun v₁ g₂ l₂ p₁=>Zg (hr A rm g₂ (l.trans l₂)) fun v₂ g₃ l₃ p₂=>Zg (h g₃ (l.trans (l₂.trans l₃)) v₁ v₂ (p₁.le l₃) p₂ A rm g₃ (LeX.refl _ _)) fun v g₄ l₄ p=>⟨l₂.trans (l₃.trans l₄),p⟩) hm
theorem QY(hl:Pe K n g (eval x env) d₁)(h:UnSem K n g (unaryOp op) d₁ d):Pe K n g (eval (.UnaryOp op x pos) env) d:=
 fun A rm g₁ l=>Z5q (Zg (hl A rm g₁ l) fun v₁ g₂ l₂ p₁=>Zg (h g₂ (l.trans l₂) v₁ p₁ A rm g₂ (LeX.refl _ _)) fun v g₄ l₄ p=>⟨l₂.trans l₄,p⟩)
noncomputable abbrev Pt(K:Wd)(n:Nat)(g:Gh)(e:Expr)(env:Env)(v:Bool):Prop:=Pv K n g (isTrue e env (eval e env)) (fun V u=>u=v)
theorem Pt.is(h:Pt K n g e env v)(q:v=v'):Pt K n g e env v':=q▸h
theorem Z0T(ht:Pt K n g t env v)(hx:v=true→Pe K n g (eval x env) d)(hy:v=false→Pe K n g (eval y env) d):Pe K n g (eval (.IfExp t x y pos) env) d:=
 fun A rm g₁ l=>Z31 (Zg (ht A rm g₁ l) fun u g₂ l₂ p=>by
  subst p
  cases u with
  |true=>exact Zg (hx rfl A rm g₂ (l.trans l₂)) fun w g₃ l₃ p=>⟨l₂.trans l₃,p⟩
  |false=>exact Zg (hy rfl A rm g₂ (l.trans l₂)) fun w g₃ l₃ p=>⟨l₂.trans l₃,p⟩)
noncomputable def TruthSem(K:Wd)(n:Nat)(g₀:Gh)(d:D)(v:Bool):Prop:=∀g,Le g₀ g→∀x,Zu g.im d x→Pv K n g (truthy x) (fun V u=>u=v)
theorem Z0z(h:gwp K A (eval e env) (fun v g₁=>gwp K A (truthy v) Q g₁) g)
  (he:autoParam (isTrue e env (eval e env)=(do let v ←eval e env;standAt e.pos;holding [v] (truthy v))) Z5):gwp K A (isTrue e env (eval e env)) Q g:=fun s E ok=>
 wpAny_isTrue_value (Zn (h s E ok) (fun v s₁ V ok₁ h₁=>h₁ s₁ E ok₁)) he
theorem Z3v(h:Pe K n g (eval e env) d)(ht:TruthSem K n g d v)(he:autoParam (isTrue e env (eval e env)=(do let v ←eval e env;standAt e.pos;holding [v] (truthy v))) Z5):Pt K n g e env v:=
 fun A rm g₁ l=>Z0z (Zg (h A rm g₁ l) fun x g₂ l₂ p=>Zg (ht g₂ (l.trans l₂) x p A rm g₂ (LeX.refl _ _)) fun u g₃ l₃ q=>⟨l₂.trans l₃,q⟩) he
theorem Jw(h:gwp K A (eval l env) (fun a g₁=>gwp K A (eval r env) (fun b g₂=>gwp K A (compareOp op a b) (fun c g₃=>gwp K A (truthy c) Q g₃) g₂) g₁) g)
  (hm:autoParam (behindInMarks op r=false) Z5):gwp K A (isTrue (.Compare l [op] [r] pos) env whole) Q g:=
 fun s E ok=>wpAny_isTrue_Compare1 (Zn (h s E ok) (fun a s₁ V ok₁ h₁=>Zn (h₁ s₁ E ok₁) (fun b s₂ V ok₂ h₂=>Zn (h₂ s₂ E ok₂) (fun c s₃ V ok₃ h₃=>h₃ s₃ E ok₃)))) hm
theorem Y0(h:Zu g.im (.bool v) x):Pv K n g (truthy x) (fun V u=>u=v):=by
 replace h:x=.bool v:=h;subst h
 exact fun A rm g₁ l s E ok=>wpAny_truthy_bool ⟨g₁,ok,LeX.refl _ _,rfl⟩
theorem Zx(hl:Pe K n g (eval l env) d₁)(hr:Pe K n g (eval r env) d₂)(h:OpSem K n g (compareOp op) d₁ d₂ (.bool v))(hm:autoParam (behindInMarks op r=false) Z5) :
  Pt K n g (.Compare l [op] [r] pos) env v:=
 fun A rm g₁ l=>Jw (Zg (hl A rm g₁ l) fun v₁ g₂ l₂ p₁=>Zg (hr A rm g₂ (l.trans l₂)) fun v₂ g₃ l₃ p₂=>Za (h g₃ (l.trans (l₂.trans l₃)) v₁ v₂ (p₁.le l₃) p₂ A rm g₃ (LeX.refl _ _)) fun v g₄ ⟨l₄,p⟩=>
  Zg (Y0 p A rm g₄ (LeX.refl _ _)) fun u g₅ l₅ q=>⟨l₂.trans (l₃.trans (l₄.trans l₅)),q⟩) hm
theorem Zb9(hx:Pt K n g x env u)(hy:u=true→Pt K n g y env v):Pt K n g (.BoolOp .And [x,y] pos) env (u&&v):=
 fun A rm g₁ l s E ok=>wpAny_isTrue_BoolOp (wpAny_allTrue_And_cons (Qc (hx A rm g₁ l s E ok) (fun c s₁ g₂ ok₂ l₂ q=>by
  subst q
  cases c with
  |false=>exact⟨g₂,ok₂,l₂,rfl⟩
  |true=>exact wpAny_allTrue_And_cons (Qc (hy rfl A rm g₂ (l.trans l₂) s₁ E ok₂) (fun c s₂ g₃ ok₃ l₃ q=>by
    clear hy;subst q
    cases c with
    |false=>exact⟨g₃,ok₃,l₂.trans l₃,rfl⟩
    |true=>exact wpAny_allTrue_And_nil ⟨g₃,ok₃,l₂.trans l₃,rfl⟩)))))
theorem Zo(h:Zu im (.int i) v):∃t,v=.int i t:=h
theorem Zp:Zu im (.int i) (.int i t):=⟨t,rfl⟩
theorem Z07(h:Zu im (.bool i) v):v=.bool i:=h
theorem Jj:Zu im (.bool i) (.bool i):=by exact rfl
theorem Zz(h:Zu im (.str l) v):∃t,v=.str (S l) t:=h
theorem ZU:Zu im (.str l) (.str (S l) t):=⟨t,rfl⟩
theorem Zl:Zu im (.raw u) u:=by exact rfl
theorem JR(h:∀(g:Gh) (A:Around) (s:Shared) (E:Value→Shared→Prop) (t u:Tok),Room A n→g.Ok K.B s→wpAny (model K.prog K.w) A (f (.int x t) (.int y u)) (fun v s'=>∃g':Gh,g'.Ok K.B s'∧Le g g'∧Zu g'.im d v) E s) :
  OpSem K n g₀ f (.int x) (.int y) d:=fun g V v₁ v₂ h₁ h₂ A r g₁ l s E ok=>by
 obtain⟨t,rfl⟩:=Zo h₁;obtain⟨u,rfl⟩:=Zo h₂
 exact h g₁ A s E t u r ok
theorem ZQ:OpSem K n g (binaryOp .Add) (.int x) (.int y) (.int (x+y)):=JR fun g A s E t u r ok=>P.add_int ⟨g,ok.tok _,LeX.refl _ _,Zp⟩
theorem Qm:OpSem K n g (binaryOp .Sub) (.int x) (.int y) (.int (x-y)):=JR fun g A s E t u r ok=>P.sub_int ⟨g,ok.tok _,LeX.refl _ _,Zp⟩
theorem Jq(hm:IntMulOk x y):OpSem K n g (binaryOp .Mult) (.int x) (.int y) (.int (x*y)):=JR fun g A s E t u r ok=>P.mul_int ⟨g,ok.tok _,LeX.refl _ _,Zp⟩ hm
theorem Z3F(hy:y≠0):OpSem K n g (binaryOp .Mod) (.int x) (.int y) (.int (x.fmod y)):=JR fun g A s E t u r ok=>mod_int_or r.1 (fun h=>absurd h hy) (fun V=>⟨g,ok.tok _,LeX.refl _ _,Zp⟩)
theorem Zbk(hy:y≠0)(hp:Builtin.divisionGoesByPylong x y=false):OpSem K n g (binaryOp .FloorDiv) (.int x) (.int y) (.int (x.fdiv y)):=JR fun g A s E t u r ok=>floordiv_int hy ⟨g,ok.tok _,LeX.refl _ _,Zp⟩ (.inl hp)
theorem Z6j(hy:0≤y):OpSem K n g (binaryOp .RShift) (.int x) (.int y) (.int (x.fdiv (2^y.toNat))):=JR fun g A s E t u r ok=>rshift_int hy ⟨g,ok.tok _,LeX.refl _ _,Zp⟩
theorem Z6k(hy:0≤y)(h2:y≤1000000)(hx:x.natAbs<2^64):OpSem K n g (binaryOp .LShift) (.int x) (.int y) (.int (x*2^y.toNat)):=JR fun g A s E t u r ok=>lshift_int_small hy h2 hx ⟨g,ok.tok _,LeX.refl _ _,Zp⟩
theorem Zbj:OpSem K n g (binaryOp .BitXor) (.int x) (.int y) (.int (Builtin.bitXor x y)):=JR fun g A s E t u r ok=>xor_int ⟨g,ok.tok _,LeX.refl _ _,Zp⟩
theorem Y6:OpSem K n g (compareOp .Eq) (.int x) (.int y) (.bool (x==y)):=JR fun g A s E t u r ok=>P.eq_int ⟨g,ok,LeX.refl _ _,Jj⟩
theorem ZaK:OpSem K n g (compareOp .NotEq) (.int x) (.int y) (.bool (x !=y)):=JR fun g A s E t u r ok=>P.ne_int ⟨g,ok,LeX.refl _ _,Jj⟩
theorem Z1E:OpSem K n g (compareOp .Lt) (.int x) (.int y) (.bool (decide (x<y))):=JR fun g A s E t u r ok=>P.lt_int ⟨g,ok,LeX.refl _ _,Jj⟩
theorem Zc4:OpSem K n g (compareOp .LtE) (.int x) (.int y) (.bool (decide (x≤y))):=JR fun g A s E t u r ok=>P.le_int ⟨g,ok,LeX.refl _ _,Jj⟩
theorem Zc5:OpSem K n g (compareOp .Gt) (.int x) (.int y) (.bool (decide (x>y))):=JR fun g A s E t u r ok=>P.gt_int ⟨g,ok,LeX.refl _ _,Jj⟩
theorem ZaL:OpSem K n g (compareOp .GtE) (.int x) (.int y) (.bool (decide (x≥y))):=JR fun g A s E t u r ok=>P.ge_int ⟨g,ok,LeX.refl _ _,Jj⟩
theorem QJ:UnSem K n g (unaryOp .USub) (.int x) (.int (-x)):=fun g V v h A r g₁ l s E ok=>by
 refine Zi (Zo h) ?_
 rintro t rfl
 exact P.neg_int ⟨g₁,ok.tok _,LeX.refl _ _,Zp⟩
theorem Z6l:UnSem K n g (unaryOp .Invert) (.int x) (.int (-x-1)):=fun g V v h A r g₁ l s E ok=>by
 refine Zi (Zo h) ?_
 rintro t rfl
 exact invert_int ⟨g₁,ok.tok _,LeX.refl _ _,Zp⟩
theorem Z7w:TruthSem K n g (.int x) (x !=0):=fun g V v h A r g₁ l s E ok=>by
 refine Zi (Zo h) ?_
 rintro t rfl
 exact P.truthy_int ⟨g₁,ok,LeX.refl _ _,rfl⟩
noncomputable abbrev Pes(K:Wd)(n:Nat)(g:Gh)(es:List Expr)(env:Env)(pos:Pos)(ds:List D):Prop:=Pv K n g (spliced (backTo pos (starEach es env))) (fun g vs=>Z7 g.im ds vs)
theorem Zd(h:Q [] g):gwp K A (spliced (backTo pos (starEach [] env))) Q g:=fun s E ok=>wpAny_items_nil ⟨g,ok,h⟩
theorem Zb
  (h:gwp K A (eval e env) (fun v g₁=>gwp K A (spliced (backTo pos (starEach rest env))) (fun vs g₂=>Q (v::vs) g₂) g₁) g)
  (he:autoParam (starEach (e::rest) env=(false,eval e env)::starEach rest env) Z5):gwp K A (spliced (backTo pos (starEach (e::rest) env))) Q g:=
 fun s E ok=>wpAny_items_cons (Zn (h s E ok) (fun v s₁ V ok₁ h₁=>h₁ s₁ E ok₁)) he
theorem Z2:Pes K n g [] env pos []:=fun A r g₁ l=>Zd ⟨LeX.refl _ _,Z7.nil⟩
theorem Z1(h:Pe K n g (eval e env) d)(hs:Pes K n g rest env pos ds)
  (he:autoParam (starEach (e::rest) env=(false,eval e env)::starEach rest env) Z5):Pes K n g (e::rest) env pos (d::ds):=
 fun A r g₁ l=>Zb (Zg (h A r g₁ l) fun v g₂ l₂ p=>Zg (hs A r g₂ (l.trans l₂)) fun vs g₃ l₃ q=>⟨l₂.trans l₃,Z7.cons (p.le l₃) q⟩) he
theorem QQ{vs:List Value}(hsz:vs.length≤sizeLine)(h:∀a,g.im a=none→g.mu a=none→Q (.ref a) (g.addIm a (sq T vs.toArray 0))) :
  gwp K A (newObj (.type T) (.seq vs.toArray)) Q g:=fun s E ok=>
 wpAny_newObj_type (T:=T) (dict:=none) ⟨_,ok.pushIm (o:=sq T vs.toArray 0) rfl,h _ ok.fresh.1 ok.fresh.2⟩ (by show vs.toArray.size≤sizeLine;rw[List.size_toArray];exact hsz)
theorem JZ{vs:List Value}(hsz:vs.length≤sizeLine)(h:∀a,g.im a=none→g.mu a=none→Q (.ref a) (g.setMu a (sq T vs.toArray 0))) :
  gwp K A (newObj (.type T) (.seq vs.toArray)) Q g:=fun s E ok=>
 wpAny_newObj_type (T:=T) (dict:=none) ⟨_,ok.pushMu (o:=sq T vs.toArray 0) rfl,h _ ok.fresh.1 ok.fresh.2⟩ (by show vs.toArray.size≤sizeLine;rw[List.size_toArray];exact hsz)
theorem Z6c{ds:List D}(h:Z7 g.im ds vs)(hsz:ds.length≤sizeLine):Pe K n g (newList vs) (.lst ds):=fun A r g₁ l=>
 QQ (by rw[h.length];exact hsz) fun a h1 h2=>⟨Le.addIm h1,Zj.mpr ⟨a,_,0,rfl,ZcJ,by exact(h.mono (l.trans (Le.addIm h1)).im)⟩⟩
theorem Z4G{ds:List D}(h:Z7 g.im ds vs)(hsz:ds.length≤sizeLine):Pe K n g (newTuple vs) (.tup ds):=fun A r g₁ l=>
 QQ (by rw[h.length];exact hsz) fun a h1 h2=>⟨Le.addIm h1,J1.mpr ⟨a,_,0,rfl,ZcJ,by exact(h.mono (l.trans (Le.addIm h1)).im)⟩⟩
theorem Yn(h:Pes K n g es env pos ds)(hsz:autoParam (Nat.ble ds.length sizeLine=true) Z5):Pe K n g (eval (.List es pos) env) (.lst ds):=by
 rw[arm_eval_List]
 exact fun A r g₁ l=>Z0 (ZF ((Pv.bind h fun vs g' l' p=>Z6c p (Nat.le_of_ble_eq_true hsz)) A r g₁ l))
theorem J4(h:Pes K n g es env pos ds)(hsz:autoParam (Nat.ble ds.length sizeLine=true) Z5):Pe K n g (eval (.Tuple es k pos) env) (.tup ds):=by
 rw[arm_eval_Tuple]
 exact fun A r g₁ l=>Z0 (ZF ((Pv.bind h fun vs g' l' p=>Z4G p (Nat.le_of_ble_eq_true hsz)) A r g₁ l))
theorem Jx(h:Pes K n g es env pos ds)(r:Room A n)(hsz:ds.length≤sizeLine)
  (k:∀a g' its,Le g g'→g'.im a=none→g'.mu a=none→Z7 g'.im ds its.toList→Q (.ref a) (g'.setMu a (sq "list" its 0))):gwp K A (eval (.List es pos) env) Q g:=by
 rw[arm_eval_List]
 exact Z0 (ZF (Z0 (h.use r fun vs g' l p=>JZ (by rw[p.length];exact hsz) fun a h1 h2=>k a g' _ l h1 h2 (by exact p))))
theorem Zc(h:(backTo pos (starEach es env)).any (·.1)=false)
  (hs:gwp K A (spliced (backTo pos (starEach es env))) (fun vs g'=>Q ⟨vs,[]⟩ g') g):gwp K A (evalArgs f true (backTo pos (starEach es env)) []) Q g:=by
 have key:∀ts:List (Bool×Sem Value),ts.any (·.1)=false→gwp K A (spliced ts) (fun vs g'=>Q ⟨vs,[]⟩ g') g→gwp K A (evalArgs f true ts []) Q g:=by
  intro ts ht hs
  cases ts with
  |nil=>
   refine Qz (t':=spliced []>>=fun vs=>pure ⟨vs,[]⟩) rfl (Z0 (Za hs fun vs g' q=>Z6 q))
  |cons t ts=>
   obtain⟨st,x⟩:=t
   simp only[List.any_cons,Bool.or_eq_false_iff] at ht
   obtain⟨h1,h2⟩:=ht
   cases h1
   exact fun s E ok=>evalArgs_plain (hs s E ok)
 exact key _ h hs
theorem Zq(hf:∀a,f≠.ref a)(hplain:args.any (·.1)=false)
  (h:gwp K A (evalArgs f true args []) (fun a g₁=>gwp K A (call f (first++a.pos) a.kw) Q g₁) g):gwp K A (callWith pos f first args []) Q g:=by
 refine Z0 (Zs (Za h fun a g₁ h₁=>Z0 (ZF ?_)))
 simp only[hplain,List.any_nil,Bool.or_false]
 have hk:keeperOf f=pure .machine:=by
  unfold keeperOf
  clear h hplain;cases f<;>first | rfl | exact absurd rfl (hf _)
 rw[hk]
 refine Z0 (Z6 ?_)
 exact Z0 (Za h₁ fun r g₂ hr=>Z0 (Zs (Yt (Z6 hr))))
theorem ZI(ho:g.has a o)(hd:o.data=.func fd)
  (h:gwp K A (evalArgs (.ref a) true args []) (fun x g₁=>g₁.has a o∧gwp K A (call (.ref a) (first++x.pos) x.kw) Q g₁) g):gwp K A (callWith pos (.ref a) first args []) Q g:=
 fun s E ok=>callWith_function (Qc (h s E ok) (fun x s₁ g₁ ok₁ h1 h2=>⟨⟨h1.get ok₁,hd⟩,h2 s₁ E ok₁⟩))
noncomputable def CallSem(K:Wd)(n:Nat)(g₀:Gh)(f:Value)(ds:List D)(d:D):Prop:=∀g,Le g₀ g→∀vs,Z7 g.im ds vs→Pe K n g (call f vs) d
theorem ZK
  (h:gwp K A (eval func env) (fun f g₁=>gwp K A (callWith pos f [] (backTo pos (starEach args env)) []) Q g₁) g)
  (he:autoParam (eval (.Call func args [] pos) env=(do callWith pos (←eval func env) [] (backTo pos (starEach args env)) (backToKw pos (keywordEach [] env)))) Z5):gwp K A (eval (.Call func args [] pos) env) Q g:=by
 rw[he];exact Z0 h
theorem Zt(hf:Pe K n g (eval func env) (.raw f))(hn:∀a,f≠.ref a)(ha:Pes K n g args env pos ds)(h:CallSem K n g f ds d)
  (hp:autoParam ((backTo pos (starEach args env)).any (·.1)=false) Z5)
  (he:autoParam (eval (.Call func args [] pos) env=(do callWith pos (←eval func env) [] (backTo pos (starEach args env)) (backToKw pos (keywordEach [] env)))) Z5):Pe K n g (eval (.Call func args [] pos) env) d:=
 fun A r g₁ l=>ZK (he:=he) (Zg (hf A r g₁ l) fun f' g₂ l₂ p=>by
  have:=Zk p;subst this
  refine Zq hn hp (Zc hp (Zg (ha A r g₂ (l.trans l₂)) fun vs g₃ l₃ q=>?_))
  exact Zg (h g₃ (l.trans (l₂.trans l₃)) vs q A r g₃ (LeX.refl _ _)) fun v g₄ l₄ z=>⟨l₂.trans (l₃.trans l₄),z⟩)
theorem Z93(hf:Pe K n g (eval func env) (.raw (.ref a)))(ho:g.has a o)(hd:o.data=.func fd)
  (ha:Pes K n g args env pos ds)(h:CallSem K n g (.ref a) ds d)
  (hp:autoParam ((backTo pos (starEach args env)).any (·.1)=false) Z5)
  (he:autoParam (eval (.Call func args [] pos) env=(do callWith pos (←eval func env) [] (backTo pos (starEach args env)) (backToKw pos (keywordEach [] env)))) Z5):Pe K n g (eval (.Call func args [] pos) env) d:=
 fun A r g₁ l=>ZK (he:=he) (Zg (hf A r g₁ l) fun f' g₂ l₂ p=>by
  have:=Zk p;subst this
  refine ZI (ho.le (l.trans l₂)) hd (Zc hp (Zg (ha A r g₂ (l.trans l₂)) fun vs g₃ l₃ q=>⟨ho.le (l.trans (l₂.trans l₃)),?_⟩))
  exact Zg (h g₃ (l.trans (l₂.trans l₃)) vs q A r g₃ (LeX.refl _ _)) fun v g₄ l₄ z=>⟨l₂.trans (l₃.trans l₄),z⟩)
noncomputable def D.ty:D→String
 |.none=> "NoneType" | .bool _=> "bool" | .int _=> "int" | .str _=> "str" | .tup _=> "tuple" | .lst _=> "list" | .raw _=> "?"
noncomputable def D.known:D→Bool
 |.raw _=>false
 |_=>true
theorem Zu.type(h:Zu g.im d v)(ok:g.Ok B s)(hk:d.known=true):s.TypeIs v d.ty∧∀a,v=.ref a→∃ob,s.heap.get? a=some ob∧ob.dict=none:=by
 cases d with
 |none=>replace h:v=.none:=h;subst h;exact⟨rfl,fun a e=>by cases e⟩
 |bool=>replace h:v=.bool _:=h;subst h;exact⟨rfl,fun a e=>by cases e⟩
 |int=>obtain⟨t,rfl⟩:=Zo h;exact⟨rfl,fun a e=>by cases e⟩
 |str=>obtain⟨t,rfl⟩:=Zz h;exact⟨rfl,fun a e=>by cases e⟩
 |tup=>obtain⟨a,its,m,rfl,e,V⟩:=J1.mp h;exact⟨⟨_,ok.im _ _ e,rfl⟩,fun a' e'=>by cases e';exact⟨_,ok.im _ _ e,rfl⟩⟩
 |lst=>obtain⟨a,its,m,rfl,e,V⟩:=Zj.mp h;exact⟨⟨_,ok.im _ _ e,rfl⟩,fun a' e'=>by cases e';exact⟨_,ok.im _ _ e,rfl⟩⟩
 |raw=>cases hk
theorem Z1U{T id:String}
  (pa:PlainAttrs T)(slot:Slot T name id)(hty:typeOf (.builtin id)=pure (.type "method_descriptor"))
  (h:gwp K A (eval o env) (fun ov g₁=>(∀s,g₁.Ok K.B s→s.TypeIs ov T∧∀a,ov=.ref a→∃ob,s.heap.get? a=some ob∧ob.dict=none)∧
   gwp K A (spliced (backTo pos (starEach args env))) (fun vs g₂=>gwp K A (call (.builtin id) (ov::vs)) Q g₂) g₁) g)
  (hbase:attributeBase o name env (eval o env)=eval o env) (hline:(apos.endLine==pos.line)=true)
  (hfew:((backTo pos (starEach args env)).all (fun x=>!x.1)&&(backToKw pos (keywordEach [] env)).all (fun x=>x.1.isSome)
   &&decide (args.length+([]:List Keyword).length+(if([]:List Keyword).isEmpty then 0 else 1)<30))=true)
  (hp:(backTo pos (starEach args env)).any (·.1)=false):gwp K A (eval (.Call (.Attribute o name apos) args [] pos) env) Q g:=fun s E ok=>
 wpAny_Call_method hbase hfew hline pa slot hty (Qc (h s E ok) (fun ov s₁ g₁ ok₁ h1 h2=>⟨(h1 s₁ ok₁).1,(h1 s₁ ok₁).2,
  Zq (fun a=>by intro e;cases e) hp (Zc hp h2) s₁ E ok₁⟩))
theorem Ja{T id:String}
  (pa:PlainAttrs T)(slot:Slot T name id)(hty:typeOf (.builtin id)=pure (.type "method_descriptor"))(ho:Pe K n g (eval o env) d₀)(ha:Pes K n g args env pos ds)(h:CallSem K n g (.builtin id) (d₀::ds) d)
  (hT:autoParam (d₀.ty=T) Z5)(hk:autoParam (d₀.known=true) Z5)
  (hbase:autoParam (attributeBase o name env (eval o env)=eval o env) Z5)(hline:autoParam ((apos.endLine==pos.line)=true) Z5)
  (hfew:autoParam (((backTo pos (starEach args env)).all (fun x=>!x.1)&&(backToKw pos (keywordEach [] env)).all (fun x=>x.1.isSome)
   &&decide (args.length+([]:List Keyword).length+(if([]:List Keyword).isEmpty then 0 else 1)<30))=true) Z5)
  (hp:autoParam ((backTo pos (starEach args env)).any (·.1)=false) Z5):Pe K n g (eval (.Call (.Attribute o name apos) args [] pos) env) d:=
 fun A r g₁ l=>Z1U pa slot hty (Zg (ho A r g₁ l) fun ov g₂ l₂ p=>⟨fun s ok=>hT▸p.type ok hk,
  Zg (ha A r g₂ (l.trans l₂)) fun vs g₃ l₃ q=>Zg (h g₃ (l.trans (l₂.trans l₃)) _ (Z7.cons (p.le l₃) q) A r g₃ (LeX.refl _ _)) fun v g₄ l₄ z=>⟨l₂.trans (l₃.trans l₄),z⟩⟩) hbase hline hfew hp
theorem Z13(h:Q () g):gwp K A (letTemporaryGo base o r) Q g:=fun s E ok=>wpAny_letTemporaryGo ⟨g,ok,h⟩
theorem Z2q(hT:∀s,g.Ok K.B s→s.TypeIs v T)(hl:typeLookup (.type T) name=pure r)(h:Q r g):gwp K A (specialOf v name) Q g:=
 fun s E ok=>wpAny_specialOf (hT s ok) hl ⟨g,ok,h⟩
theorem Z5a(h:Q () g):gwp K A (release vs keep) Q g:=fun s E ok Γ p hΓ=>by rw[Sem.wp_release];exact⟨g,ok,h⟩
theorem Z5d(h:gwp K A t Q g):gwp K A (operate vs t) Q g:=by
 exact Z0 (Zs (Za h fun v g' q=>Z0 (Z5a (Z6 q))))
theorem Z19(h:gwp K A (getItem o i) Q g):gwp K A (subscripted slice false o i>>=fun r=>letTemporaryGo value o r>>=fun V=>pure r) Q g:=by
 have e:∃vs,subscripted slice false o i=operate vs (getItem o i):=by
  cases slice with
  |Slice a b c p=>cases c<;>exact⟨_,rfl⟩
  |_=>exact⟨_,rfl⟩
 refine Zi e fun vs e=>Z0 ?_
 rw[e]
 exact Z5d (Za h fun r g₃ q=>Z0 (Z13 (Z6 q)))
theorem JI{T id:String}(hl:typeLookup (.type T) "__getitem__" = pure (some (.builtin id)))
  (h:gwp K A (eval value env) (fun o g₁=>gwp K A (eval slice env) (fun i g₂=>(∀s,g₂.Ok K.B s→s.TypeIs o T)∧gwp K A (getItem o i) Q g₂) g₁) g):gwp K A (eval (.Subscript value slice pos) env) Q g:=by
 rw[eval_Subscript]
 refine Z0 (Za h fun o g₁ h₁=>Z0 (Zs (Zg h₁ fun i g₂ hT h₂=>Z0 (ZF ?_))))
 have hgp:∀{Q:Bool→Gh→Prop},Q false g₂→gwp K A (getitemInPython o) Q g₂:=fun{Q} q=>by
  exact Z0 (Z2q hT hl (Z6 q))
 refine Z0 (hgp ?_)
 exact Z19 h₂
theorem Z90{id:String}(hv:Pe K n g (eval value env) d₀)(hi:Pe K n g (eval slice env) d₁)(h:OpSem K n g getItem d₀ d₁ d)
  (hl:typeLookup (.type d₀.ty) "__getitem__" = pure (some (.builtin id)))(hk:d₀.known=true):Pe K n g (eval (.Subscript value slice pos) env) d:=
 fun A r g₁ l=>JI hl (Zg (hv A r g₁ l) fun o g₂ l₂ p=>Zg (hi A r g₂ (l.trans l₂)) fun i g₃ l₃ q=>⟨fun s ok=>((p.le l₃).type ok hk).1,
  Zg (h g₃ (l.trans (l₂.trans l₃)) o i (p.le l₃) q A r g₃ (LeX.refl _ _)) fun v g₄ l₄ z=>⟨l₂.trans (l₃.trans l₄),z⟩⟩)
noncomputable def atInt{γ:Type}(l:List γ)(i:Int):Option γ:=if 0≤i then l[i.toNat]? else if 0≤i+l.length then l[(i+l.length).toNat]? else none
theorem Jm{γ:Type}{l:List γ}{i:Nat}:atInt l (i:Int)=l[i]?:=by exact rfl
theorem Z7Y(h:atInt l i=some d)(hsz:l.length<2^62):OpSem K n g getItem (.lst l) (.int i) d:=fun g V v₁ v₂ h₁ h₂ A r g₁ le s E ok=>by
 refine ZO (Zj.mp h₁) ?_
 rintro a its m rfl e rs
 refine Zi (Zo h₂) ?_
 rintro t rfl
 have hl:s.heap.IsList a its:=⟨_,ok.im _ _ (le.im _ _ e),rfl,m,rfl⟩
 have hlen:its.size=l.length:=by rw[←Array.length_toList,rs.length]
 unfold atInt at h
 by_cases h0:0≤i
 ·rw[if_pos h0] at h
  refine Z4 (rs.get h) fun v hv hr=>?_
  have hlt:i.toNat<l.length:=(List.getElem?_eq_some_iff.mp h).1
  exact wpAny_getItem_list hl h0 (Int.lt_trans ((Int.toNat_lt h0).mp hlt) (Int.lt_trans (Int.ofNat_lt.mpr hsz) (by decide))) (by simpa using hv) ⟨g₁,ok,LeX.refl _ _,hr.le le⟩
 ·rw[if_neg h0] at h
  by_cases h1:0≤i+l.length
  ·rw[if_pos h1] at h
   refine Z4 (rs.get h) fun v hv hr=>?_
   exact wpAny_getItem_list_neg hl (by lia) (by rw[hlen];lia) (by lia) (by rw[hlen];simpa using hv) ⟨g₁,ok,LeX.refl _ _,hr.le le⟩
  ·rw[if_neg h1] at h;cases h
theorem Jb(hv:Pe K n g (eval value env) (.lst l))(hi:Pe K n g (eval slice env) (.int i))(h:atInt l i=some d)(hsz:l.length<2^62):Pe K n g (eval (.Subscript value slice pos) env) d:=
 Z90 hv hi (Z7Y h hsz) slot_list_getitem.lookup rfl
noncomputable def pick{γ:Type}(l:List γ)(lo hi st:Option Int):List γ:=
 (sliceRange (sliceBounds lo hi st l.length).1 (sliceBounds lo hi st l.length).2.1 (sliceBounds lo hi st l.length).2.2).filterMap (l[·]?)
noncomputable abbrev PPart(K:Wd)(n:Nat)(g:Gh)(e:Option Expr)(env:Env)(x:Option Int):Prop:=Pv K n g (evalPart e env) (fun V v=>IsPart v x)
theorem J2:PPart K n g none env none:=fun A r g₁ l=>by rw[evalPart_none];exact Z6 ⟨LeX.refl _ _,.none⟩
theorem Qd(h:Pe K n g (eval e env) (.int i)):PPart K n g (some e) env (some i):=fun A r g₁ l=>by
 rw[evalPart_some]
 exact Zg (h A r g₁ l) fun v g₂ l₂ p=>⟨l₂,by obtain⟨t,rfl⟩:=Zo p;exact .int i t⟩
noncomputable def IsSl(g:Gh)(v:Value)(lo hi st:Option Int):Prop:=∃a vl vu vs,v=.ref a∧g.im a=some {cls:=.type "slice",data:=.fields #[vl,vu,vs]}∧IsPart vl lo∧IsPart vu hi∧IsPart vs st
theorem Z4F{lower upper step:Option Expr}{lo hi st:Option Int}(h1:PPart K n g lower env lo)(h2:PPart K n g upper env hi)(h3:PPart K n g step env st):Pv K n g (eval (.Slice lower upper step p) env) (fun g v=>IsSl g v lo hi st):=
 fun A r g₁ l s E ok=>wpAny_Slice (Qc (h1 A r g₁ l s E ok) (fun vl s₁ g₂ ok₂ l₂ p₁=>wpAny_mono (h2 A r g₂ (l.trans l₂) s₁ E ok₂) (fun vu s₂ ⟨g₃,ok₃,l₃,p₂⟩=>
  Qc (h3 A r g₃ (l.trans (l₂.trans l₃)) s₂ E ok₃) (fun vs s₃ g₄ ok₄ l₄ p₃=>⟨_,ok₄.pushIm (o:={cls:=.type "slice",data:=.fields #[vl,vu,vs]}) rfl,l₂.trans (l₃.trans (l₄.trans (Le.addIm ok₄.fresh.1))),_,vl,vu,vs,rfl,ZcJ,p₁,p₂,p₃⟩)) fun V V e=>e))
theorem Z7.pick(h:Z7 im ds its.toList)(lo hi st:Option Int):Z7 im (pick ds lo hi st) (slicePick its lo hi st).toList:=by
 have hlen:its.size=ds.length:=by rw[←Array.length_toList,h.length]
 delta Mine.Internal.pick slicePick
 rw[hlen]
 generalize (sliceRange (sliceBounds lo hi st ds.length).1 (sliceBounds lo hi st ds.length).2.1 (sliceBounds lo hi st ds.length).2.2)=r
 simp only
 induction r with
 |nil=>simpa using Z7.nil
 |cons i r ih=>
  rw[List.filterMap_cons,List.filterMap_cons]
  cases e:ds[i]? with
  |none=>
   have:its[i]? = none:=by
    rw[Array.getElem?_eq_none_iff];rw[List.getElem?_eq_none_iff] at e;exact hlen▸e
   rw[this];exact ih
  |some d=>
   refine Z4 (h.get e) fun v hv hr=>?_
   have:its[i]? = some v:=by simpa using hv
   rw[this]
   exact Z7.cons hr ih
theorem Z64{lo hi st:Option Int}(hv:Zu g.im (.lst l) v)(hs:IsSl g sl lo hi st)(h0:st≠some 0)(hsz:l.length≤sizeLine):Pe K n g (getItem v sl) (.lst (pick l lo hi st)):=fun A r g₁ le s E ok=>by
 refine ZO (Zj.mp hv) ?_
 rintro a its m rfl e rs
 refine ZaI hs ?_
 rintro b vl vu vs rfl eb p1 p2 p3
 have hl:s.heap.IsList a its:=⟨_,ok.im _ _ (le.im _ _ e),rfl,m,rfl⟩
 have hlen:its.size=l.length:=by rw[←Array.length_toList,rs.length]
 refine wpAny_getItem_list_slice hl ⟨_,ok.im _ _ (le.im _ _ eb),rfl,rfl⟩ p1 p2 p3 h0 ⟨_,ok.pushIm (o:=sq "list" (slicePick its lo hi st) 0) rfl,Le.addIm ok.fresh.1,?_⟩ (by rw[hlen];exact hsz)
 exact Zj.mpr ⟨_,_,0,rfl,ZcJ,(rs.pick lo hi st).mono (le.trans (Le.addIm ok.fresh.1)).im⟩
theorem Q5{lower upper step:Option Expr}{lo hi st:Option Int}(hv:Pe K n g (eval value env) (.lst l))(h1:PPart K n g lower env lo)(h2:PPart K n g upper env hi)(h3:PPart K n g step env st)
  (h0:st≠some 0)(hsz:l.length≤sizeLine):Pe K n g (eval (.Subscript value (.Slice lower upper step p) pos) env) (.lst (pick l lo hi st)):=
 fun A r g₁ l'=>JI slot_list_getitem.lookup (Zg (hv A r g₁ l') fun o g₂ l₂ p=>Zg (Z4F h1 h2 h3 A r g₂ (l'.trans l₂)) fun i g₃ l₃ q=>⟨fun s ok=>((p.le l₃).type ok rfl).1,
  Zg (Z64 (p.le l₃) q h0 hsz A r g₃ (LeX.refl _ _)) fun v g₄ l₄ z=>⟨l₂.trans (l₃.trans l₄),z⟩⟩)
theorem Z4r(h:∀(g:Gh) (A:Around) (s:Shared) (E:Value→Shared→Prop) (t u:Tok),Room A n→g.Ok K.B s→wpAny (model K.prog K.w) A (f (.str (S x) t) (.str (S y) u)) (fun v s'=>∃g':Gh,g'.Ok K.B s'∧Le g g'∧Zu g'.im d v) E s) :
  OpSem K n g₀ f (.str x) (.str y) d:=fun g V v₁ v₂ h₁ h₂ A r g₁ l s E ok=>by
 obtain⟨t,rfl⟩:=Zz h₁;obtain⟨u,rfl⟩:=Zz h₂
 exact h g₁ A s E t u r ok
theorem Jp(x:List Nat):(S x).length=x.length:=by exact rfl
theorem Za2(x:List Nat):(S x).cps.toList=x:=by exact rfl
theorem Z7n(x y:List Nat):S x++S y=S (x++y):=by
 show Str.append (S x) (S y)=S (x++y)
 simp[Str.append,S]
theorem ZaS(h:S x=S y):x=y:=by have:=congrArg (fun z=>z.cps.toList) h;simpa [S] using this
theorem Z3D:OpSem K n g (compareOp .Eq) (.str x) (.str y) (.bool (x==y)):=Z4r fun g A s E t u r ok=>P.eq_str ⟨g,ok,LeX.refl _ _,by exact rfl⟩
theorem Z3B:OpSem K n g (compareOp .NotEq) (.str x) (.str y) (.bool (x !=y)):=Z4r fun g A s E t u r ok=>P.ne_str ⟨g,ok,LeX.refl _ _,by exact rfl⟩
theorem Jf(h:x.length+y.length≤sizeLine):OpSem K n g (binaryOp .Add) (.str x) (.str y) (.str (x++y)):=Z4r fun g A s E t u r ok=>by
 refine P.add_str ?_
 rw[Jp,Jp]
 by_cases hx:x=[]
 ·subst hx;exact⟨g,ok,LeX.refl _ _,by exact ZU⟩
 by_cases hy:y=[]
 ·subst hy
  rw[if_neg (by simpa using hx)];exact⟨g,ok,LeX.refl _ _,by rw[List.append_nil];exact ZU⟩
 rw[if_neg (by simpa using hx),if_neg (by simpa using hy),Z7n]
 exact⟨by rw[Jp,List.length_append];exact h,g,ok.tok _,LeX.refl _ _,ZU⟩
theorem Z94(h:x.length+y.length≤sizeLine):OpSem K n g (inplaceOp .Add) (.str x) (.str y) (.str (x++y)):=Z4r fun g A s E t u r ok=>by
 refine P.iadd_str ?_
 rw[Jp,Jp]
 by_cases hx:x=[]
 ·subst hx;exact⟨g,ok,LeX.refl _ _,by exact ZU⟩
 by_cases hy:y=[]
 ·subst hy
  rw[if_neg (by simpa using hx)];exact⟨g,ok,LeX.refl _ _,by rw[List.append_nil];exact ZU⟩
 rw[if_neg (by simpa using hx),if_neg (by simpa using hy),Z7n]
 exact⟨by rw[Jp,List.length_append];exact h,g,ok.tok _,LeX.refl _ _,ZU⟩
theorem Z6m:OpSem K n g (compareOp .In) (.str [c]) (.str x) (.bool (decide (c∈x))):=Z4r fun g A s E t u r ok=>by
 refine P.in_str ?_
 have:(!(Builtin.Str.occurrences (S x) (S [c]) 0 (S x).length 1).isEmpty)=decide (c∈x):=by
  have:=StrLaws.found_one (S x) c
  rw[Za2] at this;exact this
 rw[this]
 exact⟨g,ok,LeX.refl _ _,Jj⟩
noncomputable abbrev cellObj(w:Option Value):Obj:={cls:=.type "cell",data:=.cell w}
theorem Z0A(f:Str×NameKind→List (Str×Addr)→Sem (ForInStep (List (Str×Addr))))
  (hf:∀name kind cells,f (name,kind) cells=if kind == .cell then(do let a ←alloc (cellObj none);pure (.yield ((name,a)::cells))) else pure (.yield cells)) :
  ∀(names:List (Str×NameKind)) (acc:List (Str×Addr)) (g:Gh) (Q:List (Str×Addr)→Gh→Prop),
   (∀g' new,Le g g'→new.map (·.1)=((names.filter (·.2 == .cell)).map (·.1)).reverse→(∀p∈new,g'.mu p.2=some (cellObj none)∧g.mu p.2=none∧g.im p.2=none)→(new.map (·.2)).Nodup→Q (new++acc) g')→
   gwp K A (forIn names acc f) Q g
 |[],acc,g,Q,h=>by rw[List.forIn_nil];exact Z6 (h g [] (LeX.refl _ _) rfl (by exact ZZ) (by exact List.nodup_nil))
 |(name,kind)::r,acc,g,Q,h=>by
  rw[List.forIn_cons,hf]
  by_cases hk:(kind==NameKind.cell)=true
  ·rw[if_pos hk]
   refine Z0 (Z0 (Z15 rfl fun a h1 h2=>Z6 ?_))
   refine Z0A f hf r _ _ _ fun g' new l e1 e2 e3=>?_
   have:=h g' (new++[(name,a)]) ((ZcL h2).trans l) (by simp[hk,e1]) (fun p hp=>by
    rcases List.mem_append.mp hp with hp | hp
    ·refine Z0K (e2 p hp) fun x1 x2 x3=>?_
     refine⟨x1,?_,x3⟩
     by_cases hpa:p.2=a
     ·rw[hpa];exact h2
     ·rw[ZcK hpa] at x2;exact x2
    ·simp at hp;subst hp
     exact⟨l.at ZcI,h2,h1⟩) (by
    rw[List.map_append,List.nodup_append]
    refine⟨e3,by simp,fun x hx y hy=>?_⟩
    clear h2 h1;simp at hy;subst hy
    rintro rfl
    refine Z4 (List.mem_map.mp hx) ?_
    clear hx;rintro p hp rfl
    have:=(e2 p hp).2.1
    clear hp;cases((ZcI).symm.trans this))
   simpa using this
  ·rw[if_neg hk]
   refine Z0 (Z6 ?_)
   refine Z0A f hf r _ _ _ fun g' new l e1 e2 e3=>h g' new l (by simp[hk,e1]) e2 e3
theorem YB{γ:Type}{l:List (Str×γ)}(h:x∈l.map (·.1)):∃c,l.lookup x=some c∧(x,c)∈l:=by
 induction l with
 |nil=>simp at h
 |cons p l ih=>
  obtain⟨y,c⟩:=p
  by_cases hx:x=y
  ·subst hx;exact⟨c,by simp[List.lookup_cons],List.mem_cons_self⟩
  ·have:x∈l.map (·.1):=by rw[List.map_cons] at h;exact(List.mem_cons.mp h).resolve_left hx
   refine Z4 (ih this) fun c' h1 h2=>?_
   have hb:(x==y)=false:=by rw[beq_eq_false_iff_ne];exact hx
   exact⟨c',by simp only[List.lookup_cons,hb];exact h1,List.mem_cons_of_mem _ h2⟩
theorem Z1K{γ:Type}{l:List (Str×γ)}(h:x∉l.map (·.1)):l.lookup x=none:=by
 cases e:l.lookup x with
 |none=>rfl
 |some c=>exact absurd (List.mem_map_of_mem (f:=(·.1)) (mem_of_lookup e)) h
theorem Z9X{l:List (Str×Addr)}(hn:(l.map (·.2)).Nodup)(hx:l.lookup x=some c)(hy:l.lookup y=some c):x=y:=by
 have h1:=mem_of_lookup hx
 have h2:=mem_of_lookup hy
 refine Zi (List.getElem?_of_mem h1) fun i hi=>?_
 refine Zi (List.getElem?_of_mem h2) fun j hj=>?_
 have hij:i=j:=Z0r hn (i:=i) (j:=j) (a:=c) (by rw[List.getElem?_map,hi];rfl) (by rw[List.getElem?_map,hj];rfl)
 clear h2 h1 hy hx hn;subst hij
 cases((hi).symm.trans hj);rfl
noncomputable def bindSt:List (Option D)→List (Nat×D)→List (Option D)
 |σ,[]=>σ
 |σ,(i,d)::r=>bindSt (σ.set i (some d)) r
noncomputable def BindOk(nm:List (Str×NameKind))(fn:List Nat)(im:Im):List (Str×Value)→List (Nat×D)→Prop
 |[],[]=>True
 |(x,v)::r,(i,d)::r'=>(nm[i]? = some (x,NameKind.local)∨(nm[i]? = some (x,NameKind.cell)∧i∈fn))∧Zu im d v∧BindOk nm fn im r r'
 |_,_=>False
theorem BindOk.mono(h:∀a o,im a=some o→im' a=some o):∀{l:List (Str×Value)} {l':List (Nat×D)},BindOk nm fn im l l'→BindOk nm fn im' l l'
 |[],[],_=>trivial
 |(_,_)::_,(_,_)::_,⟨a,b,c⟩=>⟨a,b.mono h,BindOk.mono h c⟩
 |[],_::_,h=>h.elim
 |_::_,[],h=>h.elim
theorem Z0C:∀(binds:List (Str×Value)) (bi:List (Nat×D)) (g:Gh) (σ:List (Option D)) (Q:Unit→Gh→Prop),BindOk nm fn g.im binds bi→Frm K b S' fn cs env nm σ own g→
  (∀g',LeX (env.locals::cs) g g'→Frm K b S' fn cs env nm (bindSt σ bi) own g'→Q () g')→gwp K A (forIn binds () fun x V=>(do storeName env x.1 x.2;pure (ForInStep.yield ()))) Q g
 |[],[],g,σ,Q,_,F,h=>by rw[List.forIn_nil];exact Z6 (h g (LeX.refl _ _) F)
 |(x,v)::r,(i,d)::r',g,σ,Q,⟨h1,h2,h3⟩,F,h=>by
  rw[List.forIn_cons]
  rcases h1 with h1 | ⟨h1,h1'⟩
  ·refine Z0 (Z0 (F.storeLocal h1 h2 fun g' l F'=>Z6 ?_))
   exact Z0C r r' g' _ Q (h3.mono l.im) F' fun g'' l' F''=>h g'' ((l.sub (by exact Zr (.head _))).trans l') F''
  ·refine Z0 (Z0 (F.storeCell h1 h1' h2 fun g' l F'=>Z6 ?_))
   exact Z0C r r' g' _ Q (h3.mono l.im) F' fun g'' l' F''=>h g'' ((l.sub (fun a ha=>List.mem_cons_of_mem _ ha)).trans l') F''
 |[],_::_,_,_,_,h,_,_=>h.elim
 |_::_,[],_,_,_,h,_,_=>h.elim
structure ClosOk(nm:List (Str×NameKind))(cl:List (Str×Addr))(σ:List (Option D))(g:Gh):Prop where
 free:∀(i:Nat) (x:Str),nm[i]? = some (x,NameKind.free)→∃c o w,cl.lookup x=some c∧g.has c o∧o.data=.cell w∧(∀d:D,σ[i]? = some (some d)→∃v,w=some v∧Zu g.im d v)
 has:∀p∈cl,∃o,g.has p.2 o
 apart:(cl.map (·.2)).Nodup
theorem ClosOk.nil(h:∀x∈nm,x.2≠NameKind.free):ClosOk nm [] σ g:=⟨fun i x e=>absurd rfl (h _ (List.mem_of_getElem? e)),by exact ZZ,by exact List.nodup_nil⟩
structure NamesOk(nm:List (Str×NameKind)):Prop where
 ndup:(nm.map (·.1)).Nodup
 ndbg:∀x∈nm,(x.1==("__debug__":Str))=false∧(x.1==("__classdict__":Str))=false
noncomputable def namesOk(nm:List (Str×NameKind)):Bool:=decide (nm.map (·.1)).Nodup&&nm.all fun x=>(x.1==("__debug__":Str))==false&&(x.1==("__classdict__":Str))==false
theorem NamesOk.of(h:namesOk nm=true):NamesOk nm:=by
 unfold namesOk at h
 simp only[Bool.and_eq_true,decide_eq_true_eq,List.all_eq_true,beq_iff_eq] at h
 exact⟨h.1,fun x hx=>h.2 x hx⟩
noncomputable def startOk(nm:List (Str×NameKind))(σ:List (Option D)):Prop:=∀(i:Nat) (x:Str) (k:NameKind) (d:D),nm[i]? = some (x,k)→σ[i]? = some (some d)→k≠.local∧k≠.cell
noncomputable def globOk(B:Base)(nm:List (Str×NameKind))(σ:List (Option D)):Prop:=∀(i:Nat) (x:Str) (d:D),nm[i]? = some (x,NameKind.globalImplicit)→σ[i]? = some (some d)→∃v,d=D.raw v∧GlobIs B x v
theorem YR{scope:Scope}{code:Value}
  (hn:NamesOk scope.names)(hk:scope.kind=.function)(hs:startOk scope.names σ)(hg:globOk K.B scope.names σ)(hc:ClosOk scope.names closure σ g)(hb:BindOk scope.names fn g.im binds bi)
  (hbu:∀outer,around=some outer→outer.builtins=builtinsNs)
  (h:∀L cells cs g',g.mu L=none→g.im L=none→(∀c∈cs,g.mu c=none∧g.im c=none)→Frm K g S' fn cs (newEnv scope L mainGlobals cells qual func code around builtinsNs) scope.names (bindSt σ bi) [] g'→Q (newEnv scope L mainGlobals cells qual func code around builtinsNs) g') :
  gwp K A (newFunctionEnv scope mainGlobals closure binds qual func code around builtinsNs) Q g:=by
 refine Z0 (Z15 rfl fun L hL1 hL2=>?_)
 have hL:=ZcL hL2 (o:=({cls:=.type (if around.isSome then "dict" else "frame"),data:=.dict #[]}:Obj))
 refine Z0 (Z0A _ (fun name kind cells=>rfl) _ _ _ _ fun g₂ new l e1 e2 e3=>?_)
 have hne:∀p∈new,p.2≠L:=fun p hp e=>by
  have:=(e2 p hp).2.1
  rw[e,ZcI] at this;cases this
 have hnew:∀p∈new,g.mu p.2=none∧g.im p.2=none:=fun p hp=>⟨by have:=(e2 p hp).2.1;rwa [ZcK (hne p hp)] at this,(e2 p hp).2.2⟩
 have hap:((new++closure).map (·.2)).Nodup:=by
  rw[List.map_append,List.nodup_append]
  refine⟨e3,hc.apart,fun x hx y hy=>?_⟩
  rintro rfl
  refine Z4 (List.mem_map.mp hx) ?_
  rintro p hp rfl
  refine Z4 (List.mem_map.mp hy) fun q hq eq=>?_
  refine Zi (hc.has q hq) fun o ho=>?_
  rw[eq] at ho
  rcases ho with ho | ho
  ·clear eq hq hy;cases(((hnew p hp).2).symm.trans ho)
  ·clear eq hq hy;cases(((hnew p hp).1).symm.trans ho)
 have hmem:∀(i:Nat) (x:Str),scope.names[i]? = some (x,NameKind.cell)→∃c,(new++closure).lookup x=some c∧(x,c)∈new:=fun i x hi=>by
  have hx:x∈new.map (·.1):=by
   rw[e1,List.mem_reverse,List.mem_map]
   exact⟨(x,.cell),List.mem_filter.mpr ⟨List.mem_of_getElem? hi,rfl⟩,rfl⟩
  refine Z4 (YB hx) fun c h1 h2=>?_
  exact⟨c,by rw[List.lookup_append,h1];rfl,h2⟩
 have hfree:∀(i:Nat) (x:Str),scope.names[i]? = some (x,NameKind.free)→(new++closure).lookup x=closure.lookup x:=fun i x hi=>by
  rw[List.lookup_append,Z1K,Option.none_or]
  rw[e1,List.mem_reverse]
  intro hm
  refine Z4 (List.mem_map.mp hm) ?_
  rintro⟨y,k⟩ hm2 e
  have e':y=x:=e
  subst e'
  have hm3:=List.mem_filter.mp hm2
  refine Zi (List.getElem?_of_mem hm3.1) fun j hj=>?_
  have hk':k=.cell:=by exact of_decide_eq_true hm3.2
  clear hm3 hm2;subst hk'
  have:=Y7 hn.ndup hi hj
  subst this
  cases((hi).symm.trans hj)
 have F:∀env:Env,env.scope=scope→env.locals=L→env.globals=mainGlobals→env.cells=new++closure→env.builtins=builtinsNs→Frm K g S' fn (new.map (·.2)) env scope.names σ [] g₂:=by
  intro env es el eg ec eb
  exact{
   le:=.of (hL.trans l)
   names:=by rw[es]
   kind:=by rw[es,hk]
   ndup:=hn.ndup
   ndbg:=hn.ndbg
   globals:=eg
   builtins:=eb
   loc:=⟨_,fun x=>none,by rw[el];exact l.at ZcI,⟨#[],0,rfl,fun e he=>by clear ec hfree hmem hap hnew hne e3 e2 e1 l hL h hbu;simp at he,fun V=>rfl⟩,fun i x d h1 h2=>absurd rfl (hs i x _ d h1 h2).1⟩
   cel:=fun i x k h1 h2=>by
    rw[ec]
    rcases h2 with rfl | rfl
    ·refine Z4 (hmem i x h1) fun c a1 a2=>?_
     exact⟨c,cellObj none,none,a1,.inr (e2 _ a2).1,rfl,fun d hd=>absurd rfl (hs i x _ d h1 hd).2⟩
    ·refine Jk (hc.free i x h1) fun c o w a1 a2 a3 a4=>?_
     exact⟨c,o,w,(hfree i x h1).trans (a1),a2.le (hL.trans l),a3,fun d hd=>Z4 (a4 d hd) fun v z1 z2=>⟨v,z1,z2.le (hL.trans l)⟩⟩
   glo:=hg
   cw:=fun i x V h1=>by
    rw[ec]
    refine Z4 (hmem i x h1) fun c a1 a2=>?_
    exact⟨c,cellObj none,a1,List.mem_map_of_mem (f:=(·.2)) a2,(e2 _ a2).1⟩
   csm:=fun c hc=>by
    refine Z4 (List.mem_map.mp hc) ?_
    rintro p hp rfl
    exact⟨_,none,(e2 p hp).1,rfl⟩
   cinj:=fun i j x y k k' c hi hj h1 h2=>by
    rw[ec] at h1 h2
    have:=Z9X hap h1 h2
    clear h2 h1 ec;subst this
    exact Y7 hn.ndup hi hj
   apart:=by
    rw[List.map_nil,List.append_nil,el,List.nodup_cons]
    refine⟨fun hm=>?_,e3⟩
    refine Z4 (List.mem_map.mp hm) fun p hp e=>?_
    exact hne p hp e
   fresh:=fun a ha=>by
    rw[el] at ha
    rcases List.mem_cons.mp ha with rfl | ha
    ·exact hL2
    ·refine Z4 (List.mem_map.mp ha) ?_
     clear ha ec;rintro p hp rfl
     exact(hnew p hp).1
   own:=by simp}
 have hb₂:BindOk scope.names fn g₂.im binds bi:=hb.mono (hL.trans l).im
 have key:∀env:Env,env=newEnv scope L mainGlobals (new++closure) qual func code around builtinsNs→gwp K A (do
   for (name,v) in binds do storeName env name v
   return env) Q g₂:=by
  intro env he
  refine Z0 ?_
  have hF:=F env (by clear F hfree hmem hap hnew hne e3 e2 e1 l hL h hbu;subst he;cases around<;>rfl) (by clear F hfree hmem hap hnew hne e3 e2 e1 l hL h hbu;subst he;cases around<;>rfl) (by clear F hfree hmem hap hnew hne e3 e2 e1 l hL h hbu;subst he;cases around<;>rfl) (by clear F hfree hmem hap hnew hne e3 e2 e1 l hL h hbu;subst he;cases around<;>rfl) (by
   clear hb;subst he
   cases around with
   |none=>rfl
   |some outer=>exact hbu outer rfl)
  refine Z0C binds bi g₂ σ _ hb₂ hF fun g₃ l₃ F₃=>Z6 ?_
  clear hb₂ hb;subst he
  exact h L _ _ g₃ hL2 hL1 (fun c hc=>by clear F₃ l₃ hF F hfree hmem hap hne e3 e2 e1 l hL h hbu;obtain⟨p,hp,rfl⟩:=List.mem_map.mp hc;exact hnew p hp) F₃
 clear hb₂ F hfree hmem hap hnew hne e3 e2 e1 l hL hL2 hL1 h hbu hb;cases around with
 |none=>exact key _ rfl
 |some outer=>exact key _ rfl
structure FnAt(g:Gh)(a:Addr)(fd:FuncData):Prop where
 obj:∃o,g.has a o∧o.data=.func fd
 code:∃c oc vs tq,fd.code=.ref c∧g.has c oc∧oc.data=.fields vs∧vs[1]? = some (.str fd.qualname tq)
theorem FnAt.le(h:FnAt g a fd)(l:Le g g'):FnAt g' a fd:=
 ⟨Z4 h.obj fun o h1 h2=>⟨o,h1.le l,h2⟩,Z8k h.code fun c oc vs tq h1 h2 h3=>⟨c,oc,vs,tq,h1,h2.le l,h3⟩⟩
noncomputable def BindTo(K:Wd)(fd:FuncData)(args:Args)(binds:List (Str×Value))(g:Gh):Prop:=∀A (Q:List (Str×Value)→Gh→Prop),Q binds g→gwp K A (bindArgs fd args) Q g
theorem Zd8(h:bindArgs fd args=pure binds):BindTo K fd args binds g:=fun A Q q=>by rw[h];exact Z6 q
noncomputable abbrev fnEnv(fd:FuncData)(a L:Addr)(cells:List (Str×Addr)):Env:=newEnv fd.scope L mainGlobals cells (fd.qualname++ ".<locals>.") (some a) fd.code none builtinsNs
noncomputable def RetQ(Q:Value→Gh→Prop):Flow→Gh→Prop:=fun f g'=>Q (match f with | .ret v=>v | _=>.none) g'
noncomputable def gcc(K:Wd)(A:Around)(c:Code)(Q:Value→Gh→Prop)(g:Gh):Prop:=∀(s:Shared) (E:Value→Shared→Prop),g.Ok K.B s→codeAny (model K.prog K.w) A c (fun r s'=>match r with | .ok (.ret v)=>∃g':Gh,g'.Ok K.B s'∧Q v g' | .ok _=>False | .error e=>E e s') s
theorem JC(h:gcc K A (.call f ⟨vals,[]⟩) Q g):gwp K A (call f vals) Q g:=fun s E ok=>wpAny_call (h s E ok)
noncomputable def gat(K:Wd)(A:Around)(c:Code)(t:Sem α)(Q:α→Gh→Prop)(g:Gh):Prop:=∀(s:Shared) (E:Value→Shared→Prop),g.Ok K.B s→_root_.PySem.wpAt (model K.prog K.w) A c t (fun v s'=>∃g':Gh,g'.Ok K.B s'∧Q v g') E s
theorem Z47(h:gwp K A t Q g):gat K A c t Q g:=fun s E ok=>_root_.PySem.wpAt_of_wpAny (h s E ok)
theorem Z0g
  (r:Room A (n+2))(hf:FnAt g a fd)(hbody:fd.body=.stmts body)(hbind:BindTo K fd ⟨vals,[]⟩ binds g)
  (hn:NamesOk fd.scope.names)(hs:startOk fd.scope.names σ)(hg:globOk K.B fd.scope.names σ)(hc:ClosOk fd.scope.names fd.closure σ g)(hb:BindOk fd.scope.names fn g.im binds bi)
  (h:∀A' L cells cs g',Room A' n→g.mu L=none→g.im L=none→(∀c∈cs,g.mu c=none∧g.im c=none)→Frm K g S' fn cs (fnEnv fd a L cells) fd.scope.names (bindSt σ bi) [] g'→
   gat K A' (.func body (fnEnv fd a L cells)) (execs body (fnEnv fd a L cells)) (RetQ Q) g')
  (hgl:autoParam (fd.globals=mainGlobals) Z5) (hbu:autoParam (fd.builtins=builtinsNs) Z5) (hco:autoParam (fd.scope.isCoroutine=false) Z5) (hgen:autoParam (fd.scope.isGenerator=false) Z5) (hk:autoParam (fd.scope.kind=.function) Z5) :
  gcc K A (.call (.ref a) ⟨vals,[]⟩) Q g:=fun s E ok=>by
 refine Z4 hf.obj fun o ho hd=>?_
 refine Z6Y hf.code fun c oc vs tq c1 c2 c3 c4=>?_
 have r1:Room A.in1 (n+1):=r.in1
 have key:=hbind A.in1 (fun bs g₁=>gwp K A.in1 (newFunctionEnv fd.scope mainGlobals fd.closure bs (fd.qualname++ ".<locals>.") (some a) fd.code none builtinsNs)
   (fun env g'=>∃L cells cs,env=fnEnv fd a L cells∧g.mu L=none∧g.im L=none∧(∀c∈cs,g.mu c=none∧g.im c=none)∧Frm K g S' fn cs env fd.scope.names (bindSt σ bi) [] g') g₁)
  (YR hn hk hs hg hc hb (by intro V e;cases e) fun L cells cs g' h1 h2 h3 F=>⟨L,cells,cs,rfl,h1,h2,h3,F⟩)
 refine codeAny_call_function r.depth (ho.get ok) hd hco hgen hbody ⟨c,oc,vs,tq,c1,c2.get ok,c3,c4⟩ ?_
 rw[hgl,hbu]
 refine Zn (key s _ ok) (fun bs s₁ g₁ ok₁ h₁=>Zn (h₁ s₁ _ ok₁) (fun env s₂ g' ok' z₁=>Za3 z₁ fun L cells cs e h1 h2 h3 F=>⟨ok'.nolimit,ks_codeAny_funcAt ?_⟩))
 subst e
 exact h _ L cells cs g' ((r.sub (Nat.le_succ _)).deeper) h1 h2 h3 F s₂ _ ok'
theorem YX
  (r:Room A (n+2))(hf:FnAt g a fd)(hbody:fd.body=.stmts body)(hbind:BindTo K fd ⟨vals,[]⟩ binds g)
  (hn:NamesOk fd.scope.names)(hs:startOk fd.scope.names σ)(hg:globOk K.B fd.scope.names σ)(hc:ClosOk fd.scope.names fd.closure σ g)(hb:BindOk fd.scope.names fn g.im binds bi)
  (h:∀A' L cells cs g',Room A' n→g.mu L=none→g.im L=none→(∀c∈cs,g.mu c=none∧g.im c=none)→Frm K g S' fn cs (fnEnv fd a L cells) fd.scope.names (bindSt σ bi) [] g'→
   gwp K A' (execs body (fnEnv fd a L cells)) (RetQ Q) g')
  (hgl:autoParam (fd.globals=mainGlobals) Z5) (hbu:autoParam (fd.builtins=builtinsNs) Z5) (hco:autoParam (fd.scope.isCoroutine=false) Z5) (hgen:autoParam (fd.scope.isGenerator=false) Z5) (hk:autoParam (fd.scope.kind=.function) Z5) :
  gcc K A (.call (.ref a) ⟨vals,[]⟩) Q g:=
 Z0g r hf hbody hbind hn hs hg hc hb (fun A' L cells cs g' a b c d e=>Z47 (h A' L cells cs g' a b c d e)) hgl hbu hco hgen hk
theorem YU
  (r:Room A (n+2))(hf:FnAt g a fd)(hbody:fd.body=.stmts body)(hbind:BindTo K fd ⟨vals,[]⟩ binds g)
  (hn:NamesOk fd.scope.names)(hs:startOk fd.scope.names σ)(hg:globOk K.B fd.scope.names σ)(hc:ClosOk fd.scope.names fd.closure σ g)(hb:BindOk fd.scope.names fn g.im binds bi)
  (h:∀A' L cells cs g',Room A' n→g.mu L=none→g.im L=none→(∀c∈cs,g.mu c=none∧g.im c=none)→Frm K g S' fn cs (fnEnv fd a L cells) fd.scope.names (bindSt σ bi) [] g'→
   gwp K A' (execs body (fnEnv fd a L cells)) (RetQ Q) g')
  (hgl:autoParam (fd.globals=mainGlobals) Z5) (hbu:autoParam (fd.builtins=builtinsNs) Z5) (hco:autoParam (fd.scope.isCoroutine=false) Z5) (hgen:autoParam (fd.scope.isGenerator=false) Z5) (hk:autoParam (fd.scope.kind=.function) Z5) :
  gwp K A (call (.ref a) vals) Q g:=JC (YX r hf hbody hbind hn hs hg hc hb h hgl hbu hco hgen hk)
noncomputable def Then(K:Wd)(A:Around)(env:Env)(rest:List Stmt)(Q:Flow→Gh→Prop):Flow→Gh→Prop:=fun f g'=>match f with | .next=>gwp K A (execs rest env) Q g' | f=>Q f g'
section
variable{Q:Flow→Gh→Prop}
theorem ZC(h:Q .next g):gwp K A (execs [] env) Q g:=fun s E ok=>wpAny_execs_nil ⟨g,ok,h⟩
theorem Zf{st:Stmt}(h:gwp K A (exec st env) (Then K A env rest Q) g):gwp K A (execs (st::rest) env) Q g:=by
 rw[execs_cons]
 refine Z0 (Za h fun f g' q=>?_)
 cases f<;>first | exact q | exact Z6 q
theorem J3(h:gwp K A (eval value env) (fun v g₁=>gwp K A (storeName env x v) (fun V g₂=>Q .next g₂) g₁) g)
  (hs:autoParam (swapsWith value (some (.Name x pos')) pos.line env=pure false) Z5):gwp K A (exec (.Assign [.Name x pos'] value pos) env) Q g:=
 fun s E ok=>wpAny_Assign_Name (Zn (h s E ok) (fun v s₁ V ok₁ h₁=>h₁ s₁ E ok₁)) hs
theorem ZaY(h:gwp K A (loadName env x) (fun old g₁=>gwp K A (eval value env) (fun v g₂=>gwp K A (inplaceOp op old v) (fun r g₃=>gwp K A (storeName env x r) (fun V g₄=>Q .next g₄) g₃) g₂) g₁) g) :
  gwp K A (exec (.AugAssign (.Name x pos') op value pos) env) Q g:=
 fun s E ok=>wpAny_AugAssign_Name (Zn (h s E ok) (fun v s₁ V ok₁ h₁=>Zn (h₁ s₁ E ok₁) (fun v s₁ V ok₁ h₁=>Zn (h₁ s₁ E ok₁) (fun v s₁ V ok₁ h₁=>h₁ s₁ E ok₁))))
theorem Z74(h:gwp K A (isTrue test env (eval test env)) (fun b g₁=>if b then gwp K A (execs body env) Q g₁ else gwp K A (execs orelse env) Q g₁) g):gwp K A (exec (.If test body orelse pos) env) Q g:=
 fun s E ok=>wpAny_If (Zn (h s E ok) (fun b s₁ V ok₁ h₁=>by cases b<;>exact h₁ s₁ E ok₁))
theorem Z0l(h:gwp K A (eval e env) (fun v g₁=>Q (.ret v) g₁) g):gwp K A (exec (.Return (some e) pos) env) Q g:=fun s E ok=>wpAny_Return_some (h s E ok)
theorem Z4s(h:Q (.ret .none) g):gwp K A (exec (.Return none pos) env) Q g:=fun s E ok=>wpAny_Return_none ⟨g,ok,h⟩
theorem Za8(h:Q .cont g):gwp K A (exec (.Continue pos) env) Q g:=by
 have:exec (.Continue pos) env=(do standAt pos;pure .cont):=rfl
 rw[this];exact Z0 (ZF (Z6 h))
theorem JF(h:gwp K A (eval e env) (fun v g₁=>(∀a,v≠.ref a)∧Q .next g₁) g)(hi:interactive env=false)(hs:autoParam (swapsWith e none pos.line env=pure false) Z5):gwp K A (exec (.Expr e pos) env) Q g:=
 fun s E ok=>wpAny_Expr (Qc (h s E ok) (fun v s₁ g₁ ok₁ h₁ h₂=>by
  cases v<;>first | exact⟨g₁,ok₁,h₂⟩ | exact absurd rfl (h₁ _))) hi hs
theorem Frm.inter(F:Frm K b S' fn cs env nm σ own g):interactive env=false:=by
 unfold interactive;rw[F.kind];rfl
theorem Jc(F:Frm K b S' fn cs env nm σ own g)(r:Room A n)(h:nm[i]? = some (x,NameKind.local))(hv:Pe K n g (eval value env) d)
  (k:∀g',LeX [env.locals] g g'→Frm K b S' fn cs env nm (σ.set i (some d)) own g'→gwp K A (execs rest env) Q g')
  (hs:autoParam (swapsWith value (some (.Name x pos')) pos.line env=pure false) Z5):gwp K A (execs (.Assign [.Name x pos'] value pos::rest) env) Q g:=
 Zf (J3 (hv.use r fun v g' l p=>(F.up l).storeLocal h p fun g'' l' F'=>k g'' ((LeX.of l).trans l') F') hs)
theorem JX(F:Frm K b S' fn cs env nm σ own g)(r:Room A n)(h:nm[i]? = some (x,NameKind.cell))(hin:i∈fn)(hv:Pe K n g (eval value env) d)
  (k:∀g',LeX cs g g'→Frm K b S' fn cs env nm (σ.set i (some d)) own g'→gwp K A (execs rest env) Q g')
  (hs:autoParam (swapsWith value (some (.Name x pos')) pos.line env=pure false) Z5):gwp K A (execs (.Assign [.Name x pos'] value pos::rest) env) Q g:=
 Zf (J3 (hv.use r fun v g' l p=>(F.up l).storeCell h hin p fun g'' l' F'=>k g'' ((LeX.of l).trans l') F') hs)
theorem ZM(r:Room A n)(hv:Pe K n g (eval e env) d)(k:∀v g',Le g g'→Zu g'.im d v→Q (.ret v) g'):gwp K A (execs (.Return (some e) pos::rest) env) Q g:=
 Zf (Z0l (hv.use r fun v g' l p=>k v g' l p))
theorem Jd(r:Room A n)(ht:Pt K n g test env v)
  (h1:v=true→∀g',Le g g'→gwp K A (execs body env) (Then K A env rest Q) g')(h2:v=false→∀g',Le g g'→gwp K A (execs orelse env) (Then K A env rest Q) g'):gwp K A (execs (.If test body orelse pos::rest) env) Q g:=
 Zf (Z74 (ht.use r fun u g' l p=>by
  subst p
  cases u with
  |true=>exact h1 rfl g' l
  |false=>exact h2 rfl g' l))
theorem JW(h:gwp K A (execs rest env) Q g):gwp K A (execs [] env) (Then K A env rest Q) g:=ZC h
theorem Qs
  (h:gwp K A (eval value env) (fun v g₁=>gwp K A (unpackItems v names.length none) (fun items g₂=>gwp K A (assignInOrder (names.reverse.map fun n=>bindName env n) items.reverse) (fun V g₃=>Q .next g₃) g₂) g₁) g)
  (hs:autoParam (swapsWithSole [.Tuple elts k tpos] value pos.line env=pure false) Z5)(hw:autoParam (swappedStores [.Tuple elts k tpos] value env=pure (some names)) Z5):gwp K A (exec (.Assign [.Tuple elts k tpos] value pos) env) Q g:=
 fun s E ok=>Assign_Tuple_swapped (Zn (h s E ok) (fun v s₁ V ok₁ h₁=>Zn (h₁ s₁ E ok₁) (fun v s₁ V ok₁ h₁=>h₁ s₁ E ok₁))) hs hw
theorem Z1q(h:gwp K A (eval value env) (fun v g₁=>gwp K A (assign (.Tuple elts k tpos) env v) (fun V g₂=>Q .next g₂) g₁) g)
  (hs:autoParam (swapsWithSole [.Tuple elts k tpos] value pos.line env=pure false) Z5)(hw:autoParam (swappedStores [.Tuple elts k tpos] value env=pure none) Z5):gwp K A (exec (.Assign [.Tuple elts k tpos] value pos) env) Q g:=
 fun s E ok=>Assign_Tuple (Zn (h s E ok) (fun v s₁ V ok₁ h₁=>h₁ s₁ E ok₁)) hs hw
end
theorem JO(hv:Zu g.im (.tup ds) v)(r:A.handled=none)(hm:m=ds.length)(h:∀vs g',Le g g'→Z7 g'.im ds vs→Q vs g'):gwp K A (unpackItems v m none) Q g:=fun s E ok=>by
 refine ZO (J1.mp hv) ?_
 rintro a its k rfl e rs
 have hlen:its.size=ds.length:=by rw[←Array.length_toList,rs.length]
 subst hm
 rw[←hlen]
 exact wpAny_unpackItems_tuple r ⟨_,ok.im _ _ e,rfl,k,rfl⟩ fun h' he=>⟨g,ok.extBut he,h _ g (LeX.refl _ _) rs⟩
noncomputable def Gh.drop(g:Gh)(a:Addr):Gh:={g with mu:=fun b=>if b=a then none else g.mu b}
theorem ZcX{a c:Addr}(h:c≠a):(g.drop a).mu c=g.mu c:=if_neg h
theorem ZcV{a c:Addr}{o:Obj}(h:(g.drop a).mu c=some o):c≠a∧g.mu c=some o:=(Classical.em (c=a)).elim (fun hb=>ZR h (if_pos hb)) fun hb=>⟨hb,(if_neg hb).symm.trans h⟩
theorem LeX.drop{a:Addr}:LeX [a] g (g.drop a):=⟨fun V V e=>e,fun c o hc e=>(ZcX (by simpa using hc)).trans (e),rfl⟩
theorem Z95{h₀ h h':Heap}(K:OldK h₀ h){a:Addr}(ha:h₀.objs.size≤a)(hs:Heap.ExtBut a h h'):OldK h₀ h':=by
 have ne:∀b o,h₀.get? b=some o→b≠a:=fun b o e=>Nat.ne_of_lt (Nat.lt_of_lt_of_le (Heap.lt_size e) ha)
 refine⟨fun b o e=>?_,fun b o e=>Zi (K.there b o e) fun o' ho'=>⟨o',hs b _ (ne b o e) ho'⟩⟩
 rcases K.old b o e with x | ⟨t,hc,vs,more,hv,x⟩ | ⟨rfl,hc,⟨o',es,n,ho',r⟩,z⟩
 ·exact .inl (hs b _ (ne b o e) x)
 ·exact .inr (.inl ⟨t,hc,vs,more,hv,hs b _ (ne b o e) x⟩)
 ·exact .inr (.inr ⟨rfl,hc,⟨o',es,n,hs _ _ (ne _ o e) ho',r⟩,fun key=>by rw[OldK.staticOf_congr ((hs _ _ (ne _ o e) ho').trans ho'.symm) key];exact z key⟩)
theorem Gh.Ok.lost{s:Shared}(ok:g.Ok B s){a:Addr}{o:Obj}(ha:g.mu a=some o){h':Heap}{tk:Nat}(he:Heap.ExtBut a s.heap h'):(g.drop a).Ok B {s with heap:=h',toks:=tk}:=by
 have hne:∀b o',g.im b=some o'→b≠a:=fun b o' e z=>ZR e (z▸ok.noIm ha)
 refine⟨fun b o' e=>he b _ (hne b o' e) (ok.im b o' e),fun b o' e=>?_,fun b o1 o2 e e'=>ok.dis b o1 o2 e (ZcV e').2,ok.base,fun b o' e=>ok.new b o' (ZcV e).2,?_,Z95 ok.old (ok.new _ _ ha) he,ok.os,ok.gens,
  fun c P hm=>?_,ok.apart⟩
 ·refine ZG (ZcV e) fun h1 h2=>?_
  exact he b _ h1 (ok.mu b o' h2)
 ·refine ZP B.top fun t ot h1 h2=>?_
  rw[h2]
  exact Heap.lt_size (he t _ (hne _ _ (ok.base _ _ h1)) (ok.im _ _ (ok.base _ _ h1)))
 ·exact Zd9 (ok.tabs c P hm) he (fun z=>Zi (ok.tabs c P hm).2.2.1 fun o e=>ZR (ok.base _ _ e) (z▸ok.noIm ha)) (Nat.ne_of_lt (Nat.lt_of_lt_of_le (ok.tabs c P hm).2.1 (ok.new _ _ ha)))
noncomputable def Gh.fix(g:Gh)(a:Addr)(o:Obj):Gh:={g with im:=fun b=>if b=a then some o else g.im b,mu:=fun b=>if b=a then none else g.mu b}
theorem Gh.Ok.fix{s:Shared}(ok:g.Ok B s){a:Addr}{o:Obj}(ha:g.mu a=some o):(g.fix a o).Ok B s:=
 have hi:=ok.noIm ha
 have hmu:∀b o',(g.fix a o).mu b=some o'→b≠a∧g.mu b=some o':=fun b o' e=>(Classical.em (b=a)).elim (fun hb=>ZR e (if_pos hb)) fun hb=>⟨hb,(if_neg hb).symm.trans e⟩
 {im:=fun b o' e=>ZcR e (fun hb z=>by rw[hb,←z];exact ok.mu _ _ ha) fun V e=>ok.im b o' e
  mu:=fun b o' e=>ok.mu _ _ (hmu b o' e).2
  dis:=fun b o1 o2 e e'=>ZcR e (fun hb V=>absurd hb (hmu b o2 e').1) fun V e=>ok.dis _ _ _ e (hmu b o2 e').2
  base:=fun b o' e=>(Le.addIm hi).im _ _ (ok.base b o' e)
  new:=fun b o' e=>ok.new _ _ (hmu b o' e).2
  size:=ok.size,old:=ok.old,os:=ok.os,gens:=ok.gens
  tabs:=fun c P hm=>TabS.keeps (ok.tabs c P hm) (fun V V e=>e) ((if_neg (Nat.ne_of_lt (Nat.lt_of_lt_of_le (ok.tabs c P hm).2.1 (ok.new _ _ ha)))).trans (ok.tabs c P hm).1) (Le.addIm hi).im
  apart:=ok.apart}
theorem Z7g{t:Sem α}{Q:α→Gh→Prop}{a:Addr}{o:Obj}(ha:g.mu a=some o)(h:gwp K A t Q (g.fix a o)):gwp K A t Q g:=fun s E ok=>h s E (ok.fix ha)
theorem LeX.fix{a:Addr}{o:Obj}(hi:g.im a=none):LeX [a] g (g.fix a o):=⟨fun b o' e=>by
  show(if b=a then some o else g.im b)=some o'
  rw[if_neg (by rintro rfl;cases((hi).symm.trans e))];exact e,fun b o' hb e=>by
  show(if b=a then none else g.mu b)=some o'
  rw[if_neg (by simpa using hb)];exact e,rfl⟩
theorem ZcO{a:Addr}{o:Obj}:(g.fix a o).im a=some o:=if_pos rfl
theorem LeX.forget{T:List Addr}{g':Gh}(l:LeX T g g')(h:∀a∈T,a∈S'∨g.mu a=none):LeX S' g g':=
 ⟨l.im,fun a o ha e=>l.mu a o (fun hm=>(h a hm).elim ha fun z=>by clear h;cases((z).symm.trans e)) e,l.gs⟩
theorem Frm.other{T:List Addr}{g':Gh}(F:Frm K b S' fn cs env nm σ own g)(l:LeX T g g')(h1:∀a∈T,a∉env.locals::cs++own.map (·.1))(h2:∀a∈T,b.mu a=none∨a∈S')
  (h3:∀a∈T,∀o w,g.mu a=some o→o.data≠.cell w):Frm K b S' fn cs env nm σ own g' where
 le:=⟨fun a o e=>l.im _ _ (F.le.im a o e),fun a o ha e=>l.mu a o (fun hT=>(h2 a hT).elim (fun z=>by clear h3 h2 h1;cases((z).symm.trans e)) ha) (F.le.mu a o ha e),l.gs.trans F.le.gs⟩
 names:=F.names
 kind:=F.kind
 ndup:=F.ndup
 ndbg:=F.ndbg
 globals:=F.globals
 builtins:=F.builtins
 loc:=Zw F.loc fun o f e hh r=>⟨o,f,l.mu _ _ (fun hT=>h1 _ hT (by exact .head _)) e,hh,fun i x d a1 a2=>Z4 (r i x d a1 a2) fun v e1 e2=>⟨v,e1,e2.mono l.im⟩⟩
 cel:=fun i x k a1 a2=>Jk (F.cel i x k a1 a2) fun c o w e1 e2 e3 r=>
  ⟨c,o,w,e1,e2.elim (fun z=>.inl (l.im _ _ z)) (fun z=>.inr (l.mu _ _ (fun hT=>h3 c hT o w z e3) z)),e3,fun d hd=>Z4 (r d hd) fun v q1 q2=>⟨v,q1,q2.mono l.im⟩⟩
 glo:=F.glo
 cw:=fun i x a1 a2=>Zw (F.cw i x a1 a2) fun c o e1 e2 e3=>⟨c,o,e1,e2,l.mu _ _ (fun hT=>h1 _ hT (by exact .tail _ (ZaN e2))) e3⟩
 csm:=fun c hc=>ZP (F.csm c hc) fun o w e1 e2=>⟨o,w,l.mu _ _ (fun hT=>h1 _ hT (by exact .tail _ (ZaN hc))) e1,e2⟩
 cinj:=F.cinj
 apart:=F.apart
 fresh:=F.fresh
 own:=fun p hp=>Zm (F.own p hp) fun o e1 e2 e3=>⟨o,l.mu _ _ (fun hT=>h1 _ hT (by simp only[List.cons_append,List.mem_cons,List.mem_append];exact .inr (.inr (List.mem_map_of_mem (f:=(·.1)) hp)))) e1,p.2.mono _ _ _ l.im e2,e3⟩
theorem Frm.rebase{b':Gh}(F:Frm K b S' fn cs env nm σ own g)(l:Le b' b):Frm K b' S' fn cs env nm σ own g:=
 have nb:∀a,b.mu a=none→b'.mu a=none:=fun a h=>by
  cases e:b'.mu a with
  |none=>rfl
  |some o=>have:=l.at e;cases((h).symm.trans this)
 {F with
  le:=(LeX.of l).trans F.le
  fresh:=fun a ha=>nb a (F.fresh a ha)
  own:=fun p hp=>Zm (F.own p hp) fun o e1 e2 e3=>⟨o,e1,e2,e3.imp (fun z=>z) (nb _)⟩}
theorem Frm.may{S'':List Addr}(F:Frm K b S' fn cs env nm σ own g)(h:∀a∈S',a∈S''):Frm K b S'' fn cs env nm σ own g:=
 {F with le:=F.le.sub h,own:=fun p hp=>Zm (F.own p hp) fun o e1 e2 e3=>⟨o,e1,e2,e3.imp (h _) (fun z=>z)⟩}
structure It(K:Wd)(it:Value)(T R:List Addr)(St:List D→Gh→Prop):Prop where
 item:∀{d:D} {ds:List D} {g:Gh} {A:Around},A.handled=none→St (d::ds) g→gwp K A (pyNext it) (fun r g'=>LeX T g g'∧∃v,r=some v∧Zu g'.im d v∧∀(target:Expr) (A:Around),gwp K A (letOwnedTupleGo target it v) (fun V g''=>LeX T g' g''∧St ds g'') g') g
 done:∀{g:Gh} {A:Around},A.handled=none→St [] g→gwp K A (pyNext it) (fun r g'=>LeX T g g'∧r=none) g
 self:∀{ds:List D} {g:Gh} {A:Around} {Q:Value→Gh→Prop},St ds g→Q it g→gwp K A (pyIter it) Q g
 frame:∀{ds:List D} {g g':Gh} {W:List Addr},St ds g→LeX W g g'→(∀a∈W,a∉T∧a∉R)→St ds g'
 mem:∀{ds:List D} {g:Gh},St ds g→∀a∈T,∃o,g.mu a=some o
 cell:∀{ds:List D} {g:Gh},St ds g→∀a∈T,∀o w,g.mu a=some o→o.data≠.cell w
noncomputable def Gh.reads(g:Gh)(R:List Addr)(a:Addr)(o:Obj):Prop:=g.im a=some o∨(a∈R∧g.mu a=some o)
theorem Gh.reads.get{R:List Addr}{a:Addr}{o:Obj}(h:g.reads R a o){s:Shared}(ok:g.Ok B s):s.heap.get? a=some o:=h.elim (ok.im a o) fun z=>ok.mu a o z.2
theorem Gh.reads.up{R W:List Addr}{a:Addr}{o:Obj}{g':Gh}(h:g.reads R a o)(l:LeX W g g')(hw:∀a∈W,a∉R):g'.reads R a o:=h.imp (l.im a o) fun z₀=>ZG z₀ fun z1 z2=>⟨z1,l.mu a o (fun hm=>hw a hm z1) z2⟩
noncomputable def LI(o:Obj)(l:Addr)(i:Nat):Prop:=o.cls=.type "list_iterator"∧o.data=.fields #[.ref l,.int i 0]
noncomputable def TI(o:Obj)(l:Addr)(i:Nat):Prop:=o.cls=.type "tuple_iterator"∧o.data=.fields #[.ref l,.int i 0]
noncomputable def StL(R:List Addr)(it:Addr)(ds:List D)(g:Gh):Prop:=∃o l i its m,g.mu it=some o∧LI o l i∧g.reads R l (sq "list" its m)∧Z7 g.im ds (its.toList.drop i)
theorem Yc(t:Expr)(it v:Value):letOwnedTupleGo t it v=pure ()∨letOwnedTupleGo t it v=letOwnedTupleGo (.Tuple [] 0 default) it v:=by
 cases t<;>first | exact .inl rfl | exact .inr rfl
theorem Je{it a:Addr}{o:Obj}{vs:Array Value}{c:String}{v:Value}{target:Expr}{Q:Unit→Gh→Prop}(ho:g.has it o)(hc:o.cls=.type c)(hd:o.data=.fields vs)
  (hn:["enumerate", "zip", "dict_itemiterator", "dict_reverseitemiterator", "odict_iterator", "itertools.zip_longest", "itertools.pairwise"].contains c=false)(h:Q () g):gwp K A (letOwnedTupleGo target (.ref it) v) Q g:=by
 rcases Yc target (.ref it) v with e | e<;>rw[e]
 ·exact Z6 h
 ·cases v<;>try exact Z6 h
  refine Z0 (Z1V ho ?_)
  simp only[hc,hd,hn,Bool.false_and]
  exact Z6 h
theorem Z76{its:Array Value}(h:Z7 im (d::ds) (its.toList.drop i)):∃v,its[i]? = some v∧Zu im d v∧Z7 im ds (its.toList.drop (i+1)):=by
 refine Zw (ZA h) fun v vs e1 e2 e3=>⟨v,?_,e2,?_⟩
 ·rw[←Array.getElem?_toList,←Nat.add_zero i,←List.getElem?_drop,e1];rfl
 ·rw[←List.drop_drop,e1];exact e3
theorem Z4C{its:Array Value}(h:Z7 im [] (its.toList.drop i)):its[i]? = none:=by
 rw[Array.getElem?_eq_none_iff,←Array.length_toList]
 exact List.drop_eq_nil_iff.mp (ZV h)
theorem It.list{it:Addr}(hR:it∉R):It K (.ref it) [it] R (StL R it) where
 item:=fun{d ds g A} hh st s E ok=>by
  refine Z00 st fun o l i its m h1 h2 h3 h4=>?_
  refine Zm (Z76 h4) fun v hv e2 e3=>?_
  refine wpAny_pyNext_list_item ⟨o,ok.mu _ _ h1,h2⟩ ⟨_,h3.get ok,rfl,m,rfl⟩ hv fun h' hit' hs=>?_
  refine Zm hit' fun o' ho' hc' hd'=>?_
  have ok':=ok.sameBut (tk:=s.toks) h1 hs ho'
  refine⟨_,ok',LeX.setMu,v,rfl,e2,fun target A=>?_⟩
  refine Je (a:=it) (.inr ZcI) hc' hd' (by decide) ⟨LeX.refl _ _,o',l,i+1,its,m,ZcI,⟨hc',hd'⟩,h3.up LeX.setMu (Zr hR),e3⟩
 done:=fun{g A} hh st s E ok=>by
  refine Z00 st fun o l i its m h1 h2 h3 h4=>?_
  have hv:=Z4C h4
  exact wpAny_pyNext_list_end hh ⟨o,ok.mu _ _ h1,h2⟩ ⟨_,h3.get ok,rfl,m,rfl⟩ hv fun h' he=>⟨_,ok.lost (tk:=s.toks) h1 he,LeX.drop,rfl⟩
 self:=fun{ds g A Q} st q s E ok=>by
  refine Z00 st fun o l i its m h1 h2 h3 h4=>?_
  exact wpAny_pyIter_listiter ⟨o,ok.mu _ _ h1,h2⟩ ⟨g,ok,q⟩
 frame:=fun{ds g g' W} st l hw=>by
  refine Z00 st fun o a i its m h1 h2 h3 h4=>?_
  exact⟨o,a,i,its,m,l.mu _ _ (fun hm=>(hw _ hm).1 (by exact .head _)) h1,h2,h3.up l (fun a ha=>(hw a ha).2),h4.mono l.im⟩
 mem:=fun{ds g} st=>Zr (Z00 st fun o l i its m h1 h2 h3 h4=>⟨o,h1⟩)
 cell:=fun{ds g} st=>Zr (fun o' w e=>Z00 st fun o l i its m h1 h2 h3 h4 z=>by rw[←J0 h1 e,h2.2] at z;cases z)
noncomputable def NewIt(K:Wd)(R:List Addr)(ds:List D)(g:Gh)(it:Value)(g':Gh):Prop:=Le g g'∧∃T St,It K it T R St∧St ds g'∧∀a∈T,g.mu a=none∧a∉R
noncomputable def PIt(K:Wd)(n:Nat)(g:Gh)(iter:Expr)(env:Env)(R:List Addr)(ds:List D):Prop:=∀A,Room A n→∀g₁,Le g g₁→gwp K A (eval iter env) (fun x g₂=>gwp K A (pyIter x) (NewIt K R ds g₁) g₂) g₁
theorem Z9q{ds:List D}{v:Value}(h:Zu g.im (.lst ds) v):gwp K A (pyIter v) (NewIt K [] ds g) g:=fun s E ok=>by
 refine ZO (Zj.mp h) ?_
 rintro a its m rfl e rs
 refine wpAny_pyIter_list ⟨_,ok.im _ _ e,rfl,m,rfl⟩ ⟨_,ok.pushMu (o:={cls:=.type "list_iterator",data:=.fields #[.ref a,.int 0 0]}) rfl,ZcL ok.fresh.2,_,_,It.list (R:=[]) (by exact List.not_mem_nil),?_,?_⟩
 ·exact⟨_,a,0,its,m,ZcI,⟨rfl,rfl⟩,.inl e,by rw[List.drop_zero];exact rs⟩
 ·intro c hc;simp at hc;subst hc;exact⟨ok.fresh.2,by exact List.not_mem_nil⟩
theorem Le.nomu{g g':Gh}(l:Le g g'){a:Addr}(h:g'.mu a=none):g.mu a=none:=by
 cases e:g.mu a with
 |none=>rfl
 |some o=>cases((l.at e).symm.trans h)
noncomputable def Holds(l:List (Addr×MO))(g:Gh):Prop:=∀p∈l,∃o,g.mu p.1=some o∧p.2.P g.im o
theorem Holds.up(h:Holds l g)(le:LeX W g g')(hw:∀a∈W,a∉l.map (·.1)):Holds l g':=fun p hp=>
 Z4 (h p hp) fun o h1 h2=>⟨o,le.mu _ _ (fun hm=>hw _ hm (List.mem_map_of_mem hp)) h1,p.2.mono _ _ _ le.im h2⟩
structure ItM(K:Wd)(it:Value)(T:List Addr)(ms:List D→List (Addr×MO)):Prop where
 keys:∀ds,(ms ds).map (·.1)=T
 nodup:T.Nodup
 item:∀{d:D} {ds:List D} {g:Gh} {A:Around},A.handled=none→Holds (ms (d::ds)) g→gwp K A (pyNext it) (fun r g'=>LeX T g g'∧∃v,r=some v∧Zu g'.im d v∧∀(target:Expr) (A:Around),gwp K A (letOwnedTupleGo target it v) (fun V g''=>LeX T g' g''∧Holds (ms ds) g'') g') g
 done:∀{g:Gh} {A:Around},A.handled=none→Holds (ms []) g→gwp K A (pyNext it) (fun r g'=>LeX T g g'∧r=none) g
 self:∀{ds:List D} {g:Gh} {A:Around} {Q:Value→Gh→Prop},Holds (ms ds) g→Q it g→gwp K A (pyIter it) Q g
 cell:∀{ds:List D} {im:Im},∀p∈ms ds,∀o w,p.2.P im o→o.data≠.cell w
theorem ItM.it{it:Value}(h:ItM K it T ms):It K it T [] (fun ds=>Holds (ms ds)) where
 item:=h.item
 done:=h.done
 self:=h.self
 frame:=fun st l hw=>st.up l fun a ha=>by rw[h.keys];exact(hw a ha).1
 mem:=fun{ds g} st a ha=>by
  rw[←h.keys ds] at ha
  refine Z4 (List.mem_map.mp ha) ?_
  rintro p hp rfl
  exact Z4 (st p hp) fun o h1 V=>⟨o,h1⟩
 cell:=fun{ds g} st a ha o w e=>by
  rw[←h.keys ds] at ha
  refine Z4 (List.mem_map.mp ha) ?_
  clear ha;rintro p hp rfl
  refine Z4 (st p hp) fun o' h1 h2=>?_
  cases((h1).symm.trans e)
  exact h.cell p hp _ w h2
theorem Zd1{m:List D→MO}{St:List D→Gh→Prop}(h:It K (.ref a) [a] [] St)(e:∀ds g,St ds g↔∃o,g.mu a=some o∧(m ds).P g.im o)(hc:∀ds im o w,(m ds).P im o→o.data≠.cell w):ItM K (.ref a) [a] (fun ds=>[(a,m ds)]):=by
 have e':∀ds g,Holds [(a,m ds)] g↔St ds g:=fun ds g=>by rw[e];simp[Holds]
 refine⟨fun ds=>rfl,by simp,fun hh st=>?_,fun hh st=>h.done hh ((e' _ _).mp st),fun st q=>h.self ((e' _ _).mp st) q,fun p hp o w hP=>?_⟩
 ·refine Zg (h.item hh ((e' _ _).mp st)) fun r g' l v00=>Zm v00 fun v h1 h2 h3=>⟨l,v,h1,h2,fun t A=>Zg (h3 t A) fun V g'' l' s'=>⟨l',(e' _ _).mpr s'⟩⟩
 ·simp at hp;subst hp;exact hc _ _ _ w hP
noncomputable def MO.li(ds:List D):MO:=⟨fun im o=>∃l i its m,LI o l i∧im l=some (sq "list" its m)∧Z7 im ds (its.toList.drop i),fun V V V h z₀=>Z8k z₀ fun l i its m h1 h2 h3=>⟨l,i,its,m,h1,h _ _ h2,h3.mono h⟩⟩
theorem ItM.list:ItM K (.ref a) [a] (fun ds=>[(a,MO.li ds)]):=Zd1 (It.list (R:=[]) (by exact List.not_mem_nil)) (fun ds g=>by
 constructor
 ·rintro⟨o,l,i,its,m,h1,h2,h3,h4⟩
  exact⟨o,h1,l,i,its,m,h2,h3.resolve_right (by simp),h4⟩
 ·rintro⟨o,h1,l,i,its,m,h2,h3,h4⟩
  exact⟨o,l,i,its,m,h1,h2,.inl h3,h4⟩) (by rintro ds im o w ⟨l,i,its,m,⟨V,h⟩,V⟩ z;cases((h).symm.trans z))
noncomputable def NewM(K:Wd)(ds:List D)(g:Gh)(it:Value)(g':Gh):Prop:=Le g g'∧∃T ms,ItM K it T ms∧Holds (ms ds) g'∧∀a∈T,g.mu a=none
theorem NewM.it{ds:List D}{it:Value}(h:NewM K ds g it g'):NewIt K [] ds g it g':=ZG h fun l v00=>Zw v00 fun T ms h1 h2 h3=>⟨l,T,_,h1.it,h2,fun a ha=>⟨h3 a ha,by exact List.not_mem_nil⟩⟩
theorem NewM.since{it:Value}(h:NewM K ds g it g')(l:Le g₀ g):NewM K ds g₀ it g':=ZG h fun l' v00=>Zw v00 fun T ms h1 h2 h3=>⟨l.trans l',T,ms,h1,h2,fun a ha=>l.nomu (h3 a ha)⟩
theorem ZcW(ok:g.Ok B s){m:List D→MO}(h:ItM K (.ref s.heap.objs.size) [s.heap.objs.size] (fun ds=>[(s.heap.objs.size,m ds)]))(hp:(m ds).P g.im o):NewM K ds g (.ref s.heap.objs.size) (g.setMu s.heap.objs.size o):=
 ⟨ZcL ok.fresh.2,_,_,h,fun p hp'=>by simp at hp';subst hp';exact⟨o,ZcI,hp⟩,fun a ha=>by simp at ha;subst ha;exact ok.fresh.2⟩
theorem Z7W(h:Zu g.im (.lst ds) v):gwp K A (pyIter v) (NewM K ds g) g:=fun s E ok=>by
 refine ZO (Zj.mp h) ?_
 rintro a its m rfl e rs
 exact wpAny_pyIter_list ⟨_,ok.im _ _ e,rfl,m,rfl⟩ ⟨_,ok.pushMu (o:={cls:=.type "list_iterator",data:=.fields #[.ref a,.int 0 0]}) rfl,ZcW ok ItM.list ⟨a,0,its,m,⟨rfl,rfl⟩,e,by rw[List.drop_zero];exact rs⟩⟩
noncomputable def PItM(K:Wd)(n:Nat)(g:Gh)(iter:Expr)(env:Env)(ds:List D):Prop:=∀A,Room A n→∀g₁,Le g g₁→gwp K A (eval iter env) (fun x g₂=>gwp K A (pyIter x) (NewM K ds g₁) g₂) g₁
theorem PItM.pit(h:PItM K n g iter env ds):PIt K n g iter env [] ds:=fun A r g₁ l=>Za (h A r g₁ l) fun x g₂ q=>Za q fun it g₃ z=>z.it
theorem Qe(h:Pe K n g (eval iter env) (.lst ds)):PItM K n g iter env ds:=fun A r g₁ l=>Zg (h A r g₁ l) fun v g₂ l₂ p=>Za (Z7W p) fun it g₃ q=>q.since l₂
theorem Frm.adopt(F:Frm K b S' fn cs env nm σ own g)(F₀:Frm K b S' fn cs env nm σ own g₀)(h:Holds ms g)(hk:(ms.map (·.1)).Nodup)(h0:∀a∈ms.map (·.1),g₀.mu a=none)(hb:∀a∈ms.map (·.1),a∈S'∨b.mu a=none):Frm K b S' fn cs env nm σ (ms++own) g:=
 {F with
  apart:=by
   have hap:=F.apart
   have hn:∀a∈ms.map (·.1),a∉env.locals::cs++own.map (·.1):=by
    intro a ha hm
    have hz:=h0 a ha
    rw[List.cons_append] at hm
    rcases List.mem_cons.mp hm with rfl | hm
    ·refine ZP F₀.loc fun o f e V=>?_
     clear ha h0;cases((hz).symm.trans e)
    rcases List.mem_append.mp hm with hm | hm
    ·refine ZP (F₀.csm a hm) fun o w e V=>?_
     clear ha h0;cases((hz).symm.trans e)
    ·refine Z4 (List.mem_map.mp hm) ?_
     clear hm ha h0;rintro p hp rfl
     refine Z4 (F₀.own p hp) fun o e V=>?_
     clear hm F₀;cases((hz).symm.trans e)
   rw[List.map_append]
   rw[List.nodup_append] at hap ⊢
   refine⟨hap.1,List.nodup_append.mpr ⟨hk,hap.2.1,fun x hx y hy=>?_⟩,fun x hx y hy=>?_⟩
   ·clear h0 hk F₀;rintro rfl;exact hn x hx (List.mem_append.mpr (.inr hy))
   ·rcases List.mem_append.mp hy with hy | hy
    ·clear h0 hk F₀;rintro rfl;exact hn x hy (List.mem_append.mpr (.inl hx))
    ·exact hap.2.2 x hx y hy
  own:=fun p hp=>by
   rcases List.mem_append.mp hp with hp | hp
   ·refine Z4 (h p hp) fun o h1 h2=>?_
    exact⟨o,h1,h2,hb _ (List.mem_map_of_mem (f:=(·.1)) hp)⟩
   ·exact F.own p hp}
theorem Frm.advance(F:Frm K b S' fn cs env nm σ (ms++own) g)(l:LeX (ms.map (·.1)) g g')(hk:ms'.map (·.1)=ms.map (·.1))(h:Holds ms' g')(hc:∀p∈ms,∀o w,p.2.P g.im o→o.data≠.cell w):Frm K b S' fn cs env nm σ (ms'++own) g':=by
 have hap:=F.apart
 have hms:∀p∈ms,∃o,g.mu p.1=some o∧p.2.P g.im o∧(p.1∈S'∨b.mu p.1=none):=fun p hp=>F.own p (List.mem_append.mpr (.inl hp))
 have F1:Frm K b S' fn cs env nm σ own g':=(F.drop (List.sublist_append_right _ _)).other l (fun a ha hm=>by
   rw[List.map_append,List.nodup_append] at hap
   rcases List.mem_append.mp hm with hm | hm
   ·exact hap.2.2 a hm a (List.mem_append.mpr (.inl ha)) rfl
   ·exact(List.nodup_append.mp hap.2.1).2.2 a ha a hm rfl)
  (fun a ha=>by
   refine Z4 (List.mem_map.mp ha) ?_
   clear hap l;rintro p hp rfl
   refine Zm (hms p hp) fun o V V h3=>?_
   exact h3.symm) (fun a ha o w e=>by
   refine Z4 (List.mem_map.mp ha) ?_
   clear ha hap l;rintro p hp rfl
   refine Zm (hms p hp) fun o' h1 h2 V=>?_
   cases((h1).symm.trans e)
   exact hc p hp _ w h2)
 exact{F1 with
  apart:=by rw[List.map_append,hk,←List.map_append];exact F.apart
  own:=fun p hp=>by
   rcases List.mem_append.mp hp with hp | hp
   ·refine Z4 (h p hp) fun o h1 h2=>?_
    have:p.1∈ms.map (·.1):=by rw[←hk];exact List.mem_map_of_mem (f:=(·.1)) hp
    refine Z4 (List.mem_map.mp this) fun q hq e=>?_
    refine Zm (hms q hq) fun V V V h3=>?_
    rw[e] at h3
    exact⟨o,h1,h2,h3⟩
   ·exact F1.own p hp}
theorem Frm.lose(F:Frm K b S' fn cs env nm σ (ms++own) g)(l:LeX (ms.map (·.1)) g g')(hc:∀p∈ms,∀o w,p.2.P g.im o→o.data≠.cell w):Frm K b S' fn cs env nm σ own g':=by
 have hap:=F.apart
 have hms:∀p∈ms,∃o,g.mu p.1=some o∧p.2.P g.im o∧(p.1∈S'∨b.mu p.1=none):=fun p hp=>F.own p (List.mem_append.mpr (.inl hp))
 exact(F.drop (List.sublist_append_right _ _)).other l (fun a ha hm=>by
   rw[List.map_append,List.nodup_append] at hap
   rcases List.mem_append.mp hm with hm | hm
   ·exact hap.2.2 a hm a (List.mem_append.mpr (.inl ha)) rfl
   ·exact(List.nodup_append.mp hap.2.1).2.2 a ha a hm rfl)
  (fun a ha=>by
   refine Z4 (List.mem_map.mp ha) ?_
   clear hap l F;rintro p hp rfl
   refine Zm (hms p hp) fun o V V h3=>?_
   exact h3.symm) (fun a ha o w e=>by
   refine Z4 (List.mem_map.mp ha) ?_
   clear ha hap l F;rintro p hp rfl
   refine Zm (hms p hp) fun o' h1 h2 V=>?_
   clear hms;cases((h1).symm.trans e)
   exact hc p hp _ w h2)
theorem Z1r(h:gwp K A (eval iter env) (fun x g₁=>gwp K A (pyIter x) (fun it g₂=>
   ∀s,g₂.Ok K.B s→codeAny (model K.prog K.w) A (.forLoop target it body [] env) (fun r s'=>match r with | .ok f=>∃g':Gh,g'.Ok K.B s'∧Q f g' | .error _=>False) s) g₁) g)
  (hs:autoParam (foldedSetIterable iter env=pure) Z5):gwp K A (exec (.For target iter body [] pos) env) Q g:=fun s E ok=>
 wpAny_For (Zn (h s E ok) (fun x s₁ g₁ ok₁ h₁=>Zn (h₁ s₁ E ok₁) (fun it s₂ g₂ ok₂ h₂=>codeAny_mono (h₂ s₂ ok₂) fun r s' hr=>by
  cases r with
  |ok f=>exact hr
  |error e=>exact hr.elim))) (congrFun hs)
theorem ZbL{X:Type}(σf:List D→X→List (Option D))(of:List D→X→List (Addr×MO))(P:List D→X→Prop){x₀:X}
  (r:Room A n)(hit:PItM K n g iter env ds)(F:Frm K b S' fn cs env nm (σf ds x₀) (of ds x₀) g)(hP:P ds x₀)
  (turn:∀d ds x ms g v,P (d::ds) x→Frm K b S' fn cs env nm (σf (d::ds) x) (ms++of (d::ds) x) g→Zu g.im d v→
   gwp K A (assign target env v) (fun V g₁=>gwp K A (execs body env) (fun f g₂=>match f with
    |.next | .cont=>∃x',P ds x'∧Frm K b S' fn cs env nm (σf ds x') (ms++of ds x') g₂
    |.brk=>False
    |.ret v=>Q (.ret v) g₂) g₁) g)
  (fin:∀x g,P [] x→Frm K b S' fn cs env nm (σf [] x) (of [] x) g→gwp K A (execs rest env) Q g)
  (hs:autoParam (foldedSetIterable iter env=pure) Z5):gwp K A (execs (.For target iter body [] pos::rest) env) Q g:=by
 refine Zf (Z1r (Za (hit A r g (LeX.refl _ _)) fun x g₁ h₁=>Za h₁ fun it g₂ z₀ s ok=>ZG z₀ fun l v00=>Zw v00 fun T ms hm hh hf=>?_) hs)
 have hk0:∀ds',(ms ds').map (·.1)=T:=hm.keys
 have F₂:Frm K b S' fn cs env nm (σf ds x₀) (ms ds++of ds x₀) g₂:=(F.up l).adopt F hh (by rw[hk0];exact hm.nodup) (by rw[hk0];exact hf) (by
  rw[hk0]
  intro a ha
  have:=hf a ha
  by_cases hS:a∈S'
  ·exact .inl hS
  ·cases e:b.mu a with
   |none=>exact .inr rfl
   |some o=>have:=F.le.mu a o hS e;cases((hf a ha).symm.trans this))
 refine codeAny_forLoop_any (fun k s'=>∃ds' x g',g'.Ok K.B s'∧P ds' x∧Frm K b S' fn cs env nm (σf ds' x) (ms ds'++of ds' x) g'∧k=ds'.length) ?_ ds.length ⟨ds,x₀,g₂,ok,hP,F₂,rfl⟩
 rintro k s' ⟨ds',x,g',ok',hP',F',rfl⟩
 have hH:Holds (ms ds') g':=fun p hp=>Zm (F'.own p (List.mem_append.mpr (.inl hp))) fun o h1 h2 V=>⟨o,h1,h2⟩
 cases ds' with
 |nil=>
  refine Qc (hm.done r.1 hH s' _ ok') (fun o s₁ g₁ ok₁ l₁ e=>?_)
  subst e
  exact wpAny_execs_nil ⟨g₁,ok₁,fin x g₁ hP' (F'.lose (by rw[hk0];exact l₁) fun p hp o w hp'=>hm.cell p hp o w hp')⟩
 |cons d ds'=>
  refine Qc (hm.item r.1 hH s' _ ok') (fun o s₁ g₁ ok₁ l₁ v00=>Zm v00 fun v e hv hgo=>?_)
  subst e
  refine Qc (hgo target A s₁ _ ok₁) (fun V s₂ g₂' ok₂ l₂ h₂=>?_)
  have F₃:Frm K b S' fn cs env nm (σf (d::ds') x) (ms ds'++of (d::ds') x) g₂':=F'.advance (by rw[hk0];exact l₁.trans l₂) (by rw[hk0,hk0]) h₂ fun p hp o w hp'=>hm.cell p hp o w hp'
  refine Zn (turn d ds' x _ g₂' v hP' F₃ (hv.mono l₂.im) s₂ _ ok₂) (fun V s₃ g₃ ok₃ h₃=>Zn (h₃ s₃ _ ok₃) (fun f s₄ g₄ ok₄ h₄=>?_))
  cases f with
  |next=>obtain⟨x',h5,h6⟩:=h₄;exact⟨ds'.length,by exact Nat.le_refl _,ds',x',g₄,ok₄,h5,h6,rfl⟩
  |cont=>obtain⟨x',h5,h6⟩:=h₄;exact⟨ds'.length,by exact Nat.le_refl _,ds',x',g₄,ok₄,h5,h6,rfl⟩
  |brk=>exact h₄.elim
  |ret v=>exact⟨g₄,ok₄,h₄⟩
set_option genSizeOf false in
inductive Src where
 |no
 |glob (v:Value)
 |outer (j:Nat)
noncomputable def srcSt(σ:List (Option D))(src:List Src):List (Option D):=src.map fun x=>match x with | .no=>none | .glob v=>some (.raw v) | .outer j=>(σ[j]?).getD none
noncomputable def relab(nm names:List (Str×NameKind)):List (Str×NameKind):=names.map fun(n,k)=>if(k == .free&&nm.lookup n==some .cell) then(n,.cell) else(n,k)
noncomputable def srcOk1(nm:List (Str×NameKind))(x:Str)(k:NameKind):Src→Bool
 |.no=>k !=.free
 |.glob _=>k == .globalImplicit
 |.outer j=>k == .free&&(nm[j]? == some (x,.cell)||nm[j]? == some (x,.free))
noncomputable def srcOk(nm names:List (Str×NameKind))(src:List Src):Bool:=src.length==names.length&&(List.range names.length).all fun i=>match names[i]?,src[i]? with
 |some (x,k),some s=>srcOk1 nm x k s
 |_,_=>false
theorem Qt(h:srcOk nm names src=true){i:Nat}(hi:names[i]? = some (x,k)):∃s,src[i]? = some s∧srcOk1 nm x k s=true:=by
 unfold srcOk at h
 simp only[Bool.and_eq_true,List.all_eq_true,List.mem_range] at h
 have:=h.2 i (List.getElem?_eq_some_iff.mp hi).1
 rw[hi] at this
 cases e:src[i]? with
 |none=>rw[e] at this;cases this
 |some s=>rw[e] at this;exact⟨s,rfl,this⟩
theorem Z05{i:Nat}(h:(srcSt σ src)[i]? = some (some d)):(∃v,src[i]? = some (.glob v)∧d=.raw v)∨(∃j,src[i]? = some (.outer j)∧σ[j]? = some (some d)):=by
 unfold srcSt at h
 rw[List.getElem?_map] at h
 cases e:src[i]? with
 |none=>rw[e] at h;cases h
 |some s=>
  rw[e] at h
  clear e;cases s with
  |no=>simp at h
  |glob v=>simp at h;exact .inl ⟨v,rfl,h.symm⟩
  |outer j=>
   simp at h
   refine .inr ⟨j,rfl,?_⟩
   cases e':σ[j]? with
   |none=>rw[e'] at h;simp at h
   |some o=>rw[e'] at h;simp at h;rw[h]
theorem J7{src:List Src}(h:srcOk nm names src=true):startOk names (srcSt σ src):=fun i x k d hi hd=>by
 refine Z4 (Qt h hi) fun s hs h1=>?_
 rcases Z05 hd with⟨v,e,V⟩ | ⟨j,e,V⟩
 ·clear hd hi;cases((hs).symm.trans e)
  simp[srcOk1] at h1;subst h1;exact⟨by decide,by decide⟩
 ·clear hd hi;cases((hs).symm.trans e)
  simp[srcOk1] at h1;rw[h1.1];exact⟨by decide,by decide⟩
noncomputable def GlobsAre(B:Base)(names:List (Str×NameKind))(src:List Src):Prop:=∀(i:Nat) (x:Str) (v:Value),names[i]? = some (x,NameKind.globalImplicit)→src[i]? = some (.glob v)→GlobIs B x v
theorem Jh{src:List Src}(h:srcOk nm names src=true)(hg:GlobsAre B names src):globOk B names (srcSt σ src):=fun i x d hi hd=>by
 refine Z4 (Qt h hi) fun s hs h1=>?_
 rcases Z05 hd with⟨v,e,rfl⟩ | ⟨j,e,V⟩
 ·exact⟨v,rfl,hg i x v hi e⟩
 ·cases((hs).symm.trans e)
  simp[srcOk1] at h1
noncomputable def closOf(cells:List (Str×Addr)):List (Str×NameKind)→List (Str×Addr)→List (Str×Addr)
 |[],acc=>acc
 |(x,k)::r,acc=>if k == .free then closOf cells r ((x,(cells.lookup x).getD 0)::acc) else closOf cells r acc
theorem JD(h:∀x,(x,NameKind.free)∈scope.names→∃c,env.cells.lookup x=some c):closureFor scope env=pure (closOf env.cells scope.names []):=by
 unfold closureFor
 generalize ([]:List (Str×Addr))=acc
 generalize scope.names=names at h ⊢
 have key:∀(names:List (Str×NameKind)) (acc:List (Str×Addr)),(∀x,(x,NameKind.free)∈names→∃c,env.cells.lookup x=some c)→
   (forIn names acc fun x cs=>(match x with
    |(name,kind)=>(if(kind==NameKind.free)=true then(do let c ←cellOf env name;pure (ForInStep.yield ((name,c)::cs))) else pure (ForInStep.yield cs):Sem _)))=(pure (closOf env.cells names acc):Sem _):=by
  intro names
  induction names with
  |nil=>intro acc V;rfl
  |cons y r ih=>
   intro acc h
   obtain⟨x,k⟩:=y
   rw[List.forIn_cons]
   have ihr:=ih
   unfold closOf
   by_cases hk:(k==NameKind.free)=true
   ·have hk':k=.free:=by lia
    subst hk'
    refine Zi (h x (by exact .head _)) fun c hc=>?_
    dsimp only[hk,if_true]
    have:cellOf env x=pure c:=by unfold cellOf;rw[hc]
    rw[this,hc]
    exact ihr _ fun z hz=>h z (List.mem_cons_of_mem _ hz)
   ·simp only[hk,if_false]
    exact ihr _ fun z hz=>h z (List.mem_cons_of_mem _ hz)
 have:=key names acc h
 first | exact this | (simp only[bind_pure];exact this)
theorem JE:∀{names:List (Str×NameKind)} {acc:List (Str×Addr)} {p:Str×Addr},p∈closOf cells names acc→p∈acc∨((p.1,NameKind.free)∈names∧p.2=(cells.lookup p.1).getD 0)
 |[],_,_,h=>.inl h
 |(x,k)::r,acc,p,h=>by
  unfold closOf at h
  split at h
  ·rename_i hk
   have hk':k=.free:=by lia
   clear hk;subst hk'
   rcases JE h with h | ⟨h1,h2⟩
   ·rcases List.mem_cons.mp h with rfl | h
    ·exact .inr ⟨by exact .head _,rfl⟩
    ·exact .inl h
   ·exact .inr ⟨List.mem_cons_of_mem _ h1,h2⟩
  ·rcases JE h with h | ⟨h1,h2⟩
   ·exact .inl h
   ·exact .inr ⟨List.mem_cons_of_mem _ h1,h2⟩
theorem Q0:∀(names:List (Str×NameKind)) (acc:List (Str×Addr)),(closOf cells names acc).map (·.1)=((names.filter (·.2 == .free)).map (·.1)).reverse++acc.map (·.1)
 |[],acc=>by exact rfl
 |(x,k)::r,acc=>by
  unfold closOf
  split
  ·rename_i hk
   rw[Q0 r];simp[hk]
  ·rename_i hk
   rw[Q0 r];simp[hk]
theorem Frm.clos(F:Frm K b S' fn cs env nm σ own g){names:List (Str×NameKind)}{src:List Src}(hn:NamesOk names)(h:srcOk nm names src=true) :
  (∀x,(x,NameKind.free)∈names→∃c,env.cells.lookup x=some c)∧ClosOk names (closOf env.cells names []) (srcSt σ src) g:=by
 have hat:∀(i:Nat) (x:Str),names[i]? = some (x,NameKind.free)→∃j k,src[i]? = some (.outer j)∧nm[j]? = some (x,k)∧(k=.cell∨k=.free):=fun i x hi=>by
  refine Z4 (Qt h hi) fun s hs h1=>?_
  cases s with
  |no=>simp[srcOk1] at h1
  |glob v=>simp[srcOk1] at h1
  |outer j=>
   simp[srcOk1] at h1
   rcases h1 with h1 | h1
   ·exact⟨j,_,hs,h1,.inl rfl⟩
   ·exact⟨j,_,hs,h1,.inr rfl⟩
 have hmem:∀x,(x,NameKind.free)∈names→∃j k c o w,nm[j]? = some (x,k)∧env.cells.lookup x=some c∧g.has c o∧o.data=.cell w:=fun x hx=>by
  refine Zi (List.getElem?_of_mem hx) fun i hi=>?_
  refine Zw (hat i x hi) fun j k h1 h2 h3=>?_
  refine Jk (F.cel j x k h2 h3) fun c o w e1 e2 e3 V=>?_
  exact⟨j,k,c,o,w,h2,e1,e2,e3⟩
 refine⟨fun x hx=>ZcB (hmem x hx) fun V V c V V V e V=>⟨c,e⟩,fun i x hi=>?_,fun p hp=>?_,?_⟩
 ·refine Zw (hat i x hi) fun j k h1 h2 h3=>?_
  refine Jk (F.cel j x k h2 h3) fun c o w e1 e2 e3 e4=>?_
  have hx:x∈(closOf env.cells names []).map (·.1):=by
   rw[Q0,List.mem_append,List.mem_reverse,List.mem_map]
   exact .inl ⟨(x,.free),List.mem_filter.mpr ⟨List.mem_of_getElem? hi,rfl⟩,rfl⟩
  refine Z4 (YB hx) fun c' a1 a2=>?_
  have:c'=c:=by
   rcases JE a2 with a2 | ⟨V,a2⟩
   ·clear hx h3 hi hat;cases a2
   ·rw[e1] at a2;exact a2
  clear a2 hx h3 hi hat;subst this
  refine⟨c',o,w,a1,e2,e3,fun d hd=>?_⟩
  rcases Z05 hd with⟨v,e,V⟩ | ⟨j',e,hj⟩
  ·clear hd a1;cases((h1).symm.trans e)
  ·clear hd a1;cases((h1).symm.trans e)
   exact e4 d hj
 ·rcases JE hp with hp | ⟨h1,h2⟩
  ·clear hat;cases hp
  ·refine Z00 (hmem _ h1) fun j k c o w V e1 e2 V=>?_
   rw[e1] at h2
   exact⟨o,by rw[h2];exact e2⟩
 ·have hnd:((closOf env.cells names []).map (·.1)).Nodup:=by
   rw[Q0,List.map_nil,List.append_nil]
   exact((List.reverse_perm _).nodup_iff).mpr (((List.filter_sublist (l:=names)).map (fun x:Str×NameKind=>x.1)).nodup hn.ndup)
  rw[List.nodup_iff_pairwise_ne,List.pairwise_map] at hnd ⊢
  refine hnd.imp_of_mem fun{p q} hp hq hne he=>hne ?_
  rcases JE hp with hp | ⟨p1,p2⟩
  ·clear hne hnd hat;cases hp
  rcases JE hq with hq | ⟨q1,q2⟩
  ·clear hne hp hnd hat;cases hq
  refine Z00 (hmem _ p1) fun j k c o w hj e1 V V=>?_
  refine Z00 (hmem _ q1) fun j' k' c' o' w' hj' e1' V V=>?_
  rw[e1] at p2;rw[e1'] at q2
  have hcc:c=c':=by
   have h1:p.2=c:=p2
   have h2:q.2=c':=q2
   rw[←h1,←h2];exact he
  clear q2 p2 q1 p1 he hne hq hp hnd hmem hat;subst hcc
  have:=F.cinj j j' p.1 q.1 k k' c hj hj' e1 e1'
  clear e1' e1 F;subst this
  exact congrArg (·.1) (Option.some.inj (hj.symm.trans hj'))
theorem Frm.relab(F:Frm K b S' fn cs env nm σ own g)(hs:env'.scope.names=nm')(hk:env'.scope.kind=.function)(hl:env'.locals=env.locals)(hg:env'.globals=env.globals)(hc:env'.cells=env.cells)(hb:env'.builtins=env.builtins)
  (h:∀(i:Nat) (x:Str) (k:NameKind),nm'[i]? = some (x,k)→∃k',nm[i]? = some (x,k')∧(k=k'∨(k=.cell∧k'=.free)))(hlen:nm'.map (·.1)=nm.map (·.1))(hfn:∀i∈fn,∀x,nm'[i]? = some (x,NameKind.cell)→nm[i]? = some (x,NameKind.cell)) :
  Frm K b S' fn cs env' nm' σ own g where
 le:=F.le
 names:=hs
 kind:=hk
 ndup:=by rw[hlen];exact F.ndup
 ndbg:=fun x hx=>by
  have:x.1∈nm.map (·.1):=by rw[←hlen];exact List.mem_map_of_mem (f:=(·.1)) hx
  refine Z4 (List.mem_map.mp this) fun y hy e=>?_
  rw[←e];exact F.ndbg y hy
 globals:=hg.trans F.globals
 builtins:=hb.trans F.builtins
 loc:=Zw F.loc fun o f e hh r=>⟨o,f,by rw[hl];exact e,hh,fun i x d h1 h2=>by
  refine Z4 (h i x _ h1) fun k' h3 h4=>?_
  rcases h4 with rfl | ⟨h4,V⟩
  ·exact r i x d h3 h2
  ·cases h4⟩
 cel:=fun i x k h1 h2=>by
  refine Z4 (h i x k h1) fun k' h3 h4=>?_
  rw[hc]
  refine F.cel i x k' h3 ?_
  rcases h4 with rfl | ⟨V,h4⟩
  ·exact h2
  ·exact .inr h4
 glo:=fun i x d h1 h2=>by
  refine Z4 (h i x _ h1) fun k' h3 h4=>?_
  rcases h4 with rfl | ⟨h4,V⟩
  ·exact F.glo i x d h3 h2
  ·cases h4
 cw:=fun i x h1 h2=>by rw[hc];exact F.cw i x h1 (hfn i h1 x h2)
 csm:=F.csm
 cinj:=fun i j x y k k' c hi hj h1 h2=>by
  refine Z4 (h i x k hi) fun k1 h3 V=>?_
  refine Z4 (h j y k' hj) fun k2 h4 V=>?_
  rw[hc] at h1 h2
  exact F.cinj i j x y k1 k2 c h3 h4 h1 h2
 apart:=by rw[hl];exact F.apart
 fresh:=by rw[hl];exact F.fresh
 own:=F.own
structure Tgt(K:Wd)(nm:List (Str×NameKind))(fn:List Nat)(target:Expr)(σ₀:List (Option D))(d:D)(σ₁:List (Option D)):Prop where
 set:∀{A:Around} {env:Env} {g b:Gh} {S:List Addr} {cs:List Addr} {own:List (Addr×MO)} {v:Value},A.handled=none→Frm K b S fn cs env nm σ₀ own g→Zu g.im d v→
  gwp K A (assign target env v) (fun V g'=>LeX (env.locals::cs) g g'∧Frm K b S fn cs env nm σ₁ own g') g
theorem ZE(h:gwp K A (storeName env x v) Q g):gwp K A (assign (.Name x pos) env v) Q g:=fun s E ok=>wpAny_assign_Name (h s E ok)
theorem Tgt.loc(h:nm[i]? = some (x,NameKind.local)):Tgt K nm fn (.Name x pos) σ d (σ.set i (some d)):=
 ⟨fun hh F hv=>ZE (F.storeLocal h hv fun g' l F'=>⟨l.sub (by exact Zr (.head _)),F'⟩)⟩
theorem Tgt.cel(h:nm[i]? = some (x,NameKind.cell))(hin:i∈fn):Tgt K nm fn (.Name x pos) σ d (σ.set i (some d)):=
 ⟨fun hh F hv=>ZE (F.storeCell h hin hv fun g' l F'=>⟨l.sub (fun a ha=>List.mem_cons_of_mem _ ha),F'⟩)⟩
theorem Z0D(hh:A.handled=none)(hv:Zu g.im (.tup ds) v)
  (h:∀vs g',Le g g'→Z7 g'.im ds vs→gwp K A (assignInOrder ((assignEach elts env).map (·.2)) vs) Q g')(hn:(assignEach elts env).length=ds.length)(hstar:(assignEach elts env).findIdx? (·.1)=none):gwp K A (assign (.Tuple elts k pos) env v) Q g:=by
 have e:assign (.Tuple elts k pos) env v=(do standAt pos;unpack v (assignEach elts env)):=rfl
 rw[e]
 refine Z0 (ZF ?_)
 unfold unpack
 rw[hn,hstar]
 exact Z0 (Zs (JO hv hh rfl h))
theorem Tgt.pair(hx:Tgt K nm fn x σ d₁ σ₁)(hy:Tgt K nm fn y σ₁ d₂ σ₂)
  (he:autoParam (assignEach [x,y]=fun env:Env=>[(false,assign x env),(false,assign y env)]) Z5):Tgt K nm fn (.Tuple [x,y] k pos) σ (.tup [d₁,d₂]) σ₂:=
 ⟨fun{A env g b S cs own v} hh F hv=>by
  have he:assignEach [x,y] env=[(false,assign x env),(false,assign y env)]:=congrFun he env
  refine Z0D hh hv (fun vs g' l rs=>?_) (by rw[he];rfl) (by rw[he];rfl)
  rw[he]
  obtain⟨v1,V,rfl,r1,rs⟩:=ZA rs
  obtain⟨v2,V,rfl,r2,rs⟩:=ZA rs
  obtain rfl:=ZV rs
  show gwp K A (do holding [v2] (assign x env v1);holding [] (assign y env v2);pure ()) _ g'
  refine Z0 (Zs (Zg (hx.set hh (F.up l) r1) fun V g₁ l₁ F₁=>Z0 (Zs (Zg (hy.set hh F₁ (r2.mono l₁.im)) fun V g₂ l₂ F₂=>Z6 ⟨(LeX.of l).trans (l₁.trans l₂),F₂⟩))))⟩
noncomputable def compTestsOf(ifs:List Expr)(env:Env):Sem Bool:=forIn ifs true fun c r=>if r=true then do let ok ←isTrue c env (eval c env);pure (ForInStep.yield ok) else pure (ForInStep.yield r)
theorem Z2p(h:Q true g):gwp K A (compTestsOf [] env) Q g:=Z6 h
theorem Z2o(h:gwp K A (isTrue c env (eval c env)) Q g):gwp K A (compTestsOf [c] env) Q g:=fun s E ok=>wpAny_tests_one (h s E ok)
theorem Z23{Fin:Gh→Prop}(J:Nat→Gh→Prop)
  (hR:∀g s,g.Ok K.B s→Fin g→R (.ok .next) s)
  (turn:∀k g,J k g→gwp K A (pyNext it) (fun r g₁=>match r with
   |none=>Fin g₁
   |some v=>gwp K A (letOwnedTupleGo target it v) (fun V g₂=>gwp K A (assign target env v) (fun V g₃=>gwp K A (compTestsOf ifs env) (fun ok g₄=>
     if ok=true then gwp K A (eval elt env) (fun x g₅=>gwp K A (call (.builtin "list.append") [acc,x]) (fun V g₆=>∃m,m<k∧J m g₆) g₅) g₄ else∃m,m<k∧J m g₄) g₃) g₂) g₁) g)
  (k:Nat) (ok:g.Ok K.B s) (h:J k g):codeAny (model K.prog K.w) A (.compLoop (.ListComp elt [⟨target,iter,ifs,0⟩] scope pos) 0 it acc env) R s:=by
 refine codeAny_loop rfl (fun k s=>∃g,g.Ok K.B s∧J k g) (fun k s ⟨g,ok,hJ⟩=>?_) k ⟨g,ok,h⟩
 show wpAny _ _ ((compTurn (.ListComp elt [⟨target,iter,ifs,0⟩] scope pos) 0 it acc env).onRaise (fun x=>do noteFrame x env;theTreesLotGoes x)) _ _ s
 refine wpAny_noted ?_
 rw[compTurn_list]
 refine wpAny_bind (wpAny_standAt (wpAny_bind (wpAny_mono (turn k g hJ s _ ok) (fun r s₁ z₀=>Z4 z₀ fun g₁ ok₁ h₁=>?_) fun V V h'=>h')))
 cases r with
 |none=>exact wpAny_pure (hR g₁ s₁ ok₁ h₁)
 |some v=>
  refine wpAny_bind (wpAny_mono (h₁ s₁ _ ok₁) (fun V s₂ z₀=>Z4 z₀ fun g₂ ok₂ h₂=>?_) fun V V h'=>h')
  refine wpAny_bind (wpAny_mono (h₂ s₂ _ ok₂) (fun V s₃ z₀=>Z4 z₀ fun g₃ ok₃ h₃=>wpAny_bind (wpAny_mono (h₃ s₃ _ ok₃) (fun ok s₄ z₀=>Z4 z₀ fun g₄ ok₄ h₄=>?_) fun V V h'=>h')) fun V V h'=>h')
  cases ok with
  |false=>exact wpAny_pure ⟨rfl,by obtain⟨m,h5,h6⟩:=h₄;exact⟨m,h5,g₄,ok₄,h6⟩⟩
  |true=>
   exact wpAny_bind (wpAny_bind (wpAny_mono (h₄ s₄ _ ok₄) (fun x s₅ z₀=>Z4 z₀ fun g₅ ok₅ h₅=>wpAny_bind (wpAny_mono (h₅ s₅ _ ok₅) (fun V s₆ z₀=>Z4 z₀ fun g₆ ok₆ v00=>Z4 v00 fun m h6 h7=>wpAny_pure (wpAny_pure ⟨rfl,m,h6,g₆,ok₆,h7⟩)) fun V V h'=>h')) fun V V h'=>h'))
theorem YV(h:g.mu a=some (sq "list" its m))(hsz:its.size≤sizeLine)(q:∀m',Q .none (g.setMu a (sq "list" (its.push x) m'))):gwp K A (call (.builtin "list.append") [.ref a,x]) Q g:=fun s E ok=>by
 have hl:s.heap.IsList a its:=⟨_,ok.mu _ _ h,rfl,m,rfl⟩
 refine wpAny_call_entry slot_list_append hl.typeIs entry_list_append ?_ (args_list_append _ _)
 show wpAny _ _ (updateSeq a (·.push x)>>=fun V=>ret .none) _ _ s
 refine wpAny_bind ?_
 refine wpAny_updateSeq (ok.mu _ _ h) rfl (wpAny_pure ⟨.none,rfl,?_⟩)
 exact⟨_,ok.upd h rfl,q _⟩
theorem Z8P(F:Frm K b S' fn cs env nm σ own g)(scope:Scope):(relabel scope env).names=relab nm scope.names:=by
 delta relabel relab
 show scope.names.map _=scope.names.map _
 refine List.map_congr_left fun x hx=>?_
 obtain⟨y,k⟩:=x
 have h1:env.kindOf y=nm.lookup y:=by delta Env.kindOf;rw[F.names]
 have h2:(env.scope.kind==ScopeKind.function)=true:=by rw[F.kind];rfl
 simp only[h1,h2,Bool.and_true]
theorem Y5{i:Nat}(h:(relab nm names)[i]? = some (x,k)):∃k',names[i]? = some (x,k')∧(k=k'∨(k=.cell∧k'=.free)):=by
 unfold relab at h
 rw[List.getElem?_map] at h
 cases e:names[i]? with
 |none=>rw[e] at h;cases h
 |some y=>
  rw[e] at h
  obtain⟨y,ky⟩:=y
  dsimp only[Option.map_some] at h
  by_cases hc:(ky==NameKind.free&&nm.lookup y==some NameKind.cell)=true
  ·clear e;rw[if_pos hc] at h;cases h
   rw[Bool.and_eq_true] at hc
   exact⟨ky,rfl,.inr ⟨rfl,by exact of_decide_eq_true hc.1⟩⟩
  ·clear e;rw[if_neg hc] at h;cases h
   exact⟨k,rfl,.inl rfl⟩
theorem Z4D(names:List (Str×NameKind)):(relab nm names).map (·.1)=names.map (·.1):=by
 delta relab
 rw[List.map_map]
 refine List.map_congr_left fun x hx=>?_
 obtain⟨y,k⟩:=x
 show(if _ then _ else _:Str×NameKind).1=y
 split<;>rfl
noncomputable def backOk(σ₀ σ₁:List (Option D)):Prop:=∀(i:Nat) (d:D),σ₀[i]? = some (some d)→σ₁[i]? = some (some d)
noncomputable abbrev compEnv(scope:Scope)(L:Addr)(cells:List (Str×Addr))(env:Env):Env:={newEnv scope L mainGlobals cells env.qual none .none (some env) builtinsNs with scope:=relabel scope env}
theorem Z35{ifs:List Expr}{R S:List Addr}{σ₁:D→List (Option D)}{E:Value→Shared→Prop}{Q:Value→Shared→Prop}(I:List D→List D→Gh→Prop)
  (r:Room A n)(F:Frm K b S' fn cs env nm σ own g)(hn:NamesOk scope.names)(hk:scope.kind=.function)(hsrc:srcOk nm scope.names src=true)(hg:GlobsAre K.B scope.names src)
  (hfn:∀i∈fn',∀x,scope.names[i]?≠some (x,NameKind.free))
  (hS:∀a∈S,(∃o,g.mu a=some o)∧a∉R)(hRm:∀a∈R,∃o,g.mu a=some o)(hSc:∀rest out g,I rest out g→∀a∈S,∀o w,g.mu a=some o→o.data≠.cell w)
  (htgt:∀d∈ds,Tgt K (relab nm scope.names) fn' target (srcSt σ src) d (σ₁ d))(hback:∀d∈ds,backOk (srcSt σ src) (σ₁ d))
  (hI:∀rest out g g' W,I rest out g→LeX W g g'→(∀a∈W,a∉S)→I rest out g')
  (hIl:∀rest out g,I rest out g→out.length≤ds.length)
  (hsz:ds.length≤sizeLine)
  (step:∀d rest out g' L cells cs',d∈ds→I (d::rest) out g'→Frm K g S fn' cs' (compEnv scope L cells env) (relab nm scope.names) (σ₁ d) [] g'→
   gwp K A (compTestsOf ifs (compEnv scope L cells env)) (fun ok g₁=>LeX S g' g₁∧if ok=true then gwp K A (eval elt (compEnv scope L cells env)) (fun v g₂=>LeX S g₁ g₂∧∃e,Zu g₂.im e v∧I rest (out++[e]) g₂) g₁ else I rest out g₁) g')
  {it:Value} {g₂:Gh} (hit:NewIt K R ds g it g₂) (hi:I ds [] g₂)
  (fin:∀out C o v g' s',g'.Ok K.B s'→LeX S g g'→I [] out g'→Zu g'.im (.lst out) v→g.mu C=none→g'.mu C=some o→(∃es ep,o.data=.dict es ep∧StrKeys es)→compPost (model K.prog K.w) A E use Q v C (.ok .next) s') :
  ∀s,g₂.Ok K.B s→wpAny (model K.prog K.w) A (newList []) (fun acc s₃=>wpAny (model K.prog K.w) A (newFunctionEnv scope env.globals (closOf env.cells scope.names []) [] env.qual none .none (some env)) (fun cenv s₄=>
    codeAny (model K.prog K.w) A (.compStart (.ListComp elt [⟨target,iter,ifs,0⟩] scope pos) 0 it acc {cenv with scope:=relabel scope env}) (compPost (model K.prog K.w) A E use Q acc cenv.locals) s₄) E s₃) E s:=by
 intro s ok
 obtain⟨l,T,St,hIt,hSt,hT⟩:=hit
 have F₂:=F.up l
 refine wpAny_mono (JZ (K:=K) (A:=A) (T:= "list") (vs:=[]) (Q:=fun v g'=>∃Dl,v=.ref Dl∧g₂.im Dl=none∧g₂.mu Dl=none∧g'=g₂.setMu Dl (sq "list" #[] 0)) (by simp[sizeLine]) (fun Dl h1 h2=>⟨Dl,rfl,h1,h2,rfl⟩) s E ok) (fun acc s₃ h=>?_) fun V V z=>z
 obtain⟨g₃,ok₃,Dl,e,hD1,hD2,eg⟩:=h
 clear hD1;subst e;subst eg
 have l₃:Le g₂ (g₂.setMu Dl (sq "list" #[] 0)):=ZcL hD2
 generalize hg3:g₂.setMu Dl (sq "list" #[] 0)=g₃ at l₃ ok₃
 have hDm:g₃.mu Dl=some (sq "list" #[] 0):=by rw[←hg3];exact ZcI
 have l₀:Le g g₃:=l.trans l₃
 have F₃:=F₂.up l₃
 refine ZG (F₃.clos hn hsrc) fun hfree hclos=>?_
 rw[F.globals]
 have key:=YR (K:=K) (A:=A) (fn:=fn') (S':=[]) (g:=g₃) (scope:=scope) (closure:=closOf env.cells scope.names []) (binds:=[]) (bi:=[]) (qual:=env.qual) (func:=none) (code:=.none) (around:=some env)
  (Q:=fun env' g'=>∃L cells cs',env'=newEnv scope L mainGlobals cells env.qual none .none (some env) builtinsNs∧g₃.mu L=none∧(∀c∈cs',g₃.mu c=none)∧Frm K g₃ [] fn' cs' env' scope.names (srcSt σ src) [] g')
  hn hk (J7 hsrc) (Jh hsrc hg) hclos trivial (by intro o e;cases e;exact F.builtins) (fun L cells cs' g' h1 V h3 F'=>⟨L,cells,cs',rfl,h1,fun c hc=>(h3 c hc).1,F'⟩)
 refine wpAny_mono (key s₃ E ok₃) (fun cenv s₄ h=>?_) fun V V z=>z
 obtain⟨g₄,ok₄,L,cells,cs',e,hL,hcs,F₄⟩:=h
 clear key hclos hfree F₃ hg3 F₂ hsrc;subst e
 have l₄:Le g₃ g₄:=F₄.le
 have hlocL:∀(a:Addr) (o:Obj),g₃.mu a=some o→a∉L::cs':=fun a o ho hm=>by
  rcases List.mem_cons.mp hm with rfl | hm
  ·cases((hL).symm.trans ho)
  ·cases((hcs a hm).symm.trans ho)
 have hTm:∀a∈T,∃o,g₂.mu a=some o:=fun a ha=>hIt.mem hSt a ha
 have hTL:∀a∈T,a∉L::cs':=fun a ha=>Zi (hTm a ha) fun o ho=>hlocL a o (l₃.at ho)
 have hTD:Dl∉T:=fun hm=>by obtain⟨o,ho⟩:=hTm _ hm;cases((hD2).symm.trans ho)
 have hTS:∀a∈S,a∉T:=fun a ha hm=>by obtain⟨o,ho⟩:=(hS a ha).1;cases(((hT a hm).1).symm.trans ho)
 have hSL:∀a∈S,a∉L::cs':=fun a ha=>Zi ((hS a ha).1) fun o ho=>hlocL a o (l₀.at ho)
 have hRL:∀a∈R,a∉L::cs':=fun a ha=>Zi (hRm a ha) fun o ho=>hlocL a o (l₀.at ho)
 have hDg:g.mu Dl=none:=l.nomu hD2
 have hDS:Dl∉S:=fun hm=>by obtain⟨o,ho⟩:=(hS _ hm).1;cases((hDg).symm.trans ho)
 have hDR:Dl∉R:=fun hm=>by obtain⟨o,ho⟩:=hRm _ hm;cases((hDg).symm.trans ho)
 have hDL:Dl∉L::cs':=hlocL _ _ hDm
 have F₅:Frm K g S fn' cs' (compEnv scope L cells env) (relab nm scope.names) (srcSt σ src) [] g₄:=((F₄.may (by exact ZZ)).rebase l₀).relab (Z8P F scope) hk rfl rfl rfl rfl
  (fun i x k h=>Y5 h) (Z4D _) (fun i hi x hx=>by
   refine Z4 (Y5 hx) fun k' h1 h2=>?_
   rcases h2 with rfl | ⟨V,h2⟩
   ·exact h1
   ·clear hTm hlocL F₄ hcs hD2 hRm F;subst h2;exact absurd h1 (hfn i hi x))
 have hloc:(compEnv scope L cells env).locals=L:=rfl
 have loop:∀g' s',g'.Ok K.B s'→Le g₃ g'→Frm K g S fn' cs' (compEnv scope L cells env) (relab nm scope.names) (srcSt σ src) [] g'→codeAny (model K.prog K.w) A (.compLoop (.ListComp elt [⟨target,iter,ifs,0⟩] scope pos) 0 it (.ref Dl) (compEnv scope L cells env)) (compPost (model K.prog K.w) A E use Q (.ref Dl) L) s':=by
  intro g' s' ok' l' F'
  refine Z23 (Fin:=fun g'=>∃out its m,I [] out g'∧Frm K g S fn' cs' (compEnv scope L cells env) (relab nm scope.names) (srcSt σ src) [] g'∧g'.mu Dl=some (sq "list" its m)∧Z7 g'.im out its.toList)
   (J:=fun k g'=>∃rest out its m,k=rest.length∧(∀d∈rest,d∈ds)∧St rest g'∧I rest out g'∧Frm K g S fn' cs' (compEnv scope L cells env) (relab nm scope.names) (srcSt σ src) [] g'∧g'.mu Dl=some (sq "list" its m)∧Z7 g'.im out its.toList)
   (fun g' s' ok' hf=>?_) (fun k g' hJ=>?_) ds.length ok'
   ⟨ds,[],#[],0,rfl,fun d hd=>hd,(hIt.frame hSt (l₃.trans l') (by exact ZZ)),hI _ _ _ _ _ hi (l₃.trans l') (by exact ZZ),F',l'.at hDm,Z7.nil⟩
  ·refine Jk hf fun out its m h1 h2 h3 h4=>?_
   have hDi:g'.im Dl=none:=by
    clear hf F' hTm hlocL F₄ hcs hDm hD2 hRm hfn F;cases e:g'.im Dl with
    |none=>rfl
    |some o=>exact(ok'.dis _ _ _ e h3).elim
   have lf:LeX [Dl] g' (g'.fix Dl (sq "list" its m)):=LeX.fix hDi
   refine Zw h2.loc ?_
   rintro o f e1 ⟨es,ep,e2,e3,V⟩ V
   refine fin out L o (.ref Dl) (g'.fix Dl (sq "list" its m)) s' (ok'.fix h3) ?_ (hI _ _ _ _ _ h1 lf (by simpa using hDS)) (Zj.mpr ⟨Dl,its,m,rfl,ZcO,h4.mono lf.im⟩) (l₀.nomu hL) (lf.mu _ _ (by simp only[List.mem_singleton];rintro rfl;exact hDL (by exact .head _)) e1) ⟨es,ep,e2,e3⟩
   have l5:LeX (Dl::S) g (g'.fix Dl (sq "list" its m)):=(h2.le.sub (by simp_all)).trans (lf.sub (by exact Zr (.head _)))
   refine l5.forget fun a ha=>?_
   rcases List.mem_cons.mp ha with rfl | ha
   ·exact .inr hDg
   ·exact .inl ha
  ·refine ZcC hJ ?_
   clear hJ F' hTm hlocL F₄ hcs hL hDm hD2 fin hRm hfn F;rintro rest out its m rfl hd hst hi' hF hm hr
   have other:∀{σ' g₁ g₂ W},Frm K g S fn' cs' (compEnv scope L cells env) (relab nm scope.names) σ' [] g₁→LeX W g₁ g₂→(∀a∈W,a∉L::cs')→(∀a∈W,g.mu a=none∨a∈S)→(∀a∈W,∀o w,g₁.mu a=some o→o.data≠.cell w)→Frm K g S fn' cs' (compEnv scope L cells env) (relab nm scope.names) σ' [] g₂:=
    fun hF l h1 h2 h3=>hF.other l (fun a ha hm=>h1 a ha (by rw[List.map_nil,List.append_nil] at hm;exact hm)) h2 h3
   cases rest with
   |nil=>
    refine Zg (hIt.done r.1 hst) fun o g₁ l₁ e=>?_
    subst e
    exact⟨out,its,m,hI _ _ _ _ _ hi' l₁ (fun a ha hs=>hTS a hs ha),other hF l₁ hTL (fun a ha=>.inl (hT a ha).1) (fun a ha=>hIt.cell hst a ha),l₁.mu _ _ hTD hm,hr.mono l₁.im⟩
   |cons d rest=>
    refine Zg (hIt.item r.1 hst) fun o g₁ l₁ v00=>Zm v00 fun v e hv hgo=>?_
    subst e
    refine Zg (hgo target A) fun V g₂' l₂ hst₂=>?_
    have l₁₂:=l₁.trans l₂
    have hF₂:=other hF l₁₂ hTL (fun a ha=>.inl (hT a ha).1) (fun a ha=>hIt.cell hst a ha)
    have hi₂:=hI _ _ _ _ _ hi' l₁₂ (fun a ha hs=>hTS a hs ha)
    have hm₂:=l₁₂.mu _ _ hTD hm
    have hr₂:=hr.mono l₁₂.im
    refine Zg ((htgt d (hd d (by exact .head _))).set r.1 hF₂ (hv.mono l₂.im)) fun V g₃' l₃' hF₃=>?_
    rw[hloc] at l₃'
    have hst₃:=hIt.frame hst₂ l₃' fun a ha=>⟨fun hm=>hTL a hm ha,fun hm=>hRL a hm ha⟩
    have hi₃:=hI _ _ _ _ _ hi₂ l₃' fun a ha hs=>hSL a hs ha
    have hm₃:=l₃'.mu _ _ hDL hm₂
    have hr₃:=hr₂.mono l₃'.im
    refine Zg (step d rest out g₃' L cells cs' (hd d (by exact .head _)) hi₃ hF₃) fun okk g₄' l₄' h₄=>?_
    have hst₄:=hIt.frame hst₃ l₄' fun a ha=>⟨hTS a ha,(hS a ha).2⟩
    clear hm₂ hF₂ hgo hm hF hloc hRL hTL hT step htgt;cases okk with
    |false=>
     refine⟨rest.length,by exact Nat.le_refl _,rest,out,its,m,rfl,fun x hx=>hd x (by exact .tail _ hx),hst₄,h₄,?_,l₄'.mu _ _ hDS hm₃,hr₃.mono l₄'.im⟩
     exact(other hF₃ l₄' hSL (fun a ha=>.inr ha) (fun a ha=>hSc _ _ _ hi₃ a ha)).less (hback d (hd d (by exact .head _)))
    |true=>
     refine Zg h₄ fun x g₅ l₅ v00=>Z4 v00 fun e he h₅=>?_
     have l₄₅:=l₄'.trans l₅
     have hst₅:=hIt.frame hst₄ l₅ fun a ha=>⟨hTS a ha,(hS a ha).2⟩
     have hF₅:=other hF₃ l₄₅ hSL (fun a ha=>.inr ha) (fun a ha=>hSc _ _ _ hi₃ a ha)
     have hm₅:=l₄₅.mu _ _ hDS hm₃
     have hr₅:=hr₃.mono l₄₅.im
     have hlen:its.size=out.length:=by rw[←Array.length_toList,hr.length]
     refine YV hm₅ (by rw[hlen];exact Nat.le_trans (hIl _ _ _ hi') hsz) fun m'=>?_
     have l₆:LeX [Dl] g₅ (g₅.setMu Dl (sq "list" (its.push x) m')):=LeX.setMu
     refine⟨rest.length,by exact Nat.le_refl _,rest,out++[e],its.push x,m',rfl,fun x hx=>hd x (by exact .tail _ hx),hIt.frame hst₅ l₆ (by simp[hTD,hDR]),hI _ _ _ _ _ h₅ l₆ (by simpa using hDS),?_,ZcI,?_⟩
     ·exact(other hF₅ l₆ (by simpa using hDL) (by simp[hDg]) (by intro a ha o w ho;simp at ha;subst ha;cases((hm₅).symm.trans ho);intro z;cases z)).less (hback d (hd d (by exact .head _)))
     ·rw[Array.toList_push]
      exact Z7.append (hr₅.mono l₆.im) (Z7.cons (he.mono l₆.im) Z7.nil)
 refine codeAny_compStart_list (loop g₄ s₄ ok₄ l₄ F₅) ?_
 refine wpAny_mono (hIt.self (K:=K) (A:=A) (Q:=fun v g'=>v=it∧g'=g₄) (hIt.frame hSt (l₃.trans l₄) (by exact ZZ)) ⟨rfl,rfl⟩ s₄ _ ok₄) (fun v s₅ h=>?_) fun V V z=>z
 refine Zm h fun g₅ ok₅ e1 e2=>?_
 clear h hloc hDL hDR hDS hDg hRL hSL hTS hTD hTL hTm hlocL F₄ hcs hL hDm hD2 hT fin step hIl hI hback htgt hSc hRm hS hfn F;subst e1;subst e2
 exact loop _ s₅ ok₅ l₄ F₅
theorem Z5J{h:Heap}(e:h.get? a=some o)(hd:∃es ep,o.data=.dict es ep∧StrKeys es):∃m,h.Ns a m:=ZP hd fun es ep h1 h2=>⟨nsFind es,o,es,ep,e,h1,h2,fun V=>rfl⟩
theorem Z5j{scope:Scope}{R S:List Addr}{σ₁:D→List (Option D)}(I:List D→List D→Gh→Prop)
  (r:Room A n)(F:Frm K b S' fn cs env nm σ own g)(hn:NamesOk scope.names)(hk:scope.kind=.function)(hsrc:srcOk nm scope.names src=true)(hg:GlobsAre K.B scope.names src)
  (hfn:∀i∈fn',∀x,scope.names[i]?≠some (x,NameKind.free))
  (hS:∀a∈S,(∃o,g.mu a=some o)∧a∉R)(hRm:∀a∈R,∃o,g.mu a=some o)(hSc:∀rest out g,I rest out g→∀a∈S,∀o w,g.mu a=some o→o.data≠.cell w)
  (htgt:∀d∈ds,Tgt K (relab nm scope.names) fn' target (srcSt σ src) d (σ₁ d))(hback:∀d∈ds,backOk (srcSt σ src) (σ₁ d))
  (hI:∀rest out g g' W,I rest out g→LeX W g g'→(∀a∈W,a∉S)→I rest out g')
  (hIl:∀rest out g,I rest out g→out.length≤ds.length)
  (hsz:ds.length≤sizeLine)
  (step:∀d rest out g' L cells cs',d∈ds→I (d::rest) out g'→Frm K g S fn' cs' (compEnv scope L cells env) (relab nm scope.names) (σ₁ d) [] g'→
   gwp K A (compTestsOf ifs (compEnv scope L cells env)) (fun ok g₁=>LeX S g' g₁∧if ok=true then gwp K A (eval elt (compEnv scope L cells env)) (fun v g₂=>LeX S g₁ g₂∧∃e,Zu g₂.im e v∧I rest (out++[e]) g₂) g₁ else I rest out g₁) g')
  (hit:gwp K A (eval iter env) (fun x g₁=>gwp K A (pyIter x) (NewIt K R ds g) g₁) g) (init:I ds [] g)
  (fin:∀out v g',LeX S g g'→I [] out g'→Zu g'.im (.lst out) v→Q v g')
  (hs:autoParam (foldedSetIterable iter env=pure) Z5) :
  gwp K A (eval (.ListComp elt [⟨target,iter,ifs,0⟩] scope pos) env) Q g:=fun s E ok=>by
 refine ZG (F.clos hn hsrc) fun hfree hclos=>?_
 rw[eval_ListComp]
 refine wpAny_comprehension_free (use:=none) (cl:=closOf env.cells scope.names []) rfl (congrFun hs) (JD hfree) hk
  (fun x hx hl=>by obtain⟨y,k⟩:=x;cases hl;obtain⟨i,hi⟩:=List.getElem?_of_mem hx;exact JG hn.ndup hi)
  (Zn (hit s E ok) (fun x s₁ g₁ ok₁ h₁=>Zn (h₁ s₁ E ok₁) (fun it s₂ g₂ ok₂ h₂=>?_)))
 refine Z35 (use:=none) I r F hn hk hsrc hg hfn hS hRm hSc htgt hback hI hIl hsz step h₂ (hI _ _ _ _ _ init h₂.1 (by exact ZZ)) (fun out C o v g' s' ok' l' hi' hr hC hCo hCd=>?_) s₂ ok₂
 refine⟨_,(Z5J (ok'.mu _ _ hCo) hCd).choose_spec,fun h' hs'=>⟨g'.drop C,ok'.lost (tk:=s'.toks) hCo hs'.extBut,?_⟩⟩
 have hCS:C∉S:=fun hm=>by obtain⟨o,ho⟩:=(hS _ hm).1;cases((hC).symm.trans ho)
 refine fin out v _ ?_ (hI _ _ _ _ _ hi' LeX.drop (by simpa using hCS)) (hr.mono LeX.drop.im)
 refine LeX.forget (T:=C::S) ((l'.sub (by simp_all)).trans (LeX.drop.sub (by exact Zr (.head _)))) fun a ha=>?_
 rcases List.mem_cons.mp ha with rfl | ha
 ·exact .inr hC
 ·exact .inl ha
noncomputable abbrev PTests(K:Wd)(n:Nat)(g:Gh)(ifs:List Expr)(env:Env)(v:Bool):Prop:=Pv K n g (compTestsOf ifs env) (fun V u=>u=v)
theorem Zv:PTests K n g [] env true:=fun A r g₁ l=>Z2p ⟨LeX.refl _ _,rfl⟩
theorem Z1A(h:Pt K n g c env v):PTests K n g [c] env v:=fun A r g₁ l=>Z2o (h A r g₁ l)
structure CompP(K:Wd)(n:Nat)(g:Gh)(env:Env)(nm:List (Str×NameKind))(σ:List (Option D))(elt target:Expr)(ifs:List Expr)(scope:Scope)(ds:List D)(p:D→Bool)(f:D→D):Prop where
 mk::
 ex:∃(src:List Src) (fn':List Nat) (σ₁:D→List (Option D)),NamesOk scope.names∧scope.kind=.function∧srcOk nm scope.names src=true∧GlobsAre K.B scope.names src∧(∀i∈fn',∀x,scope.names[i]?≠some (x,NameKind.free))∧
  (∀d∈ds,Tgt K (relab nm scope.names) fn' target (srcSt σ src) d (σ₁ d))∧(∀d∈ds,backOk (srcSt σ src) (σ₁ d))∧
  ∀d∈ds,∀b g' L cells cs',Le g b→Le b g'→Frm K b [] fn' cs' (compEnv scope L cells env) (relab nm scope.names) (σ₁ d) [] g'→PTests K n g' ifs (compEnv scope L cells env) (p d)∧(p d=true→Pe K n g' (eval elt (compEnv scope L cells env)) (f d))
theorem Z27(p:D→Bool)(f:D→D)(rest out:List D)(done:List D)(h:done++rest=ds)(ho:out=(done.filter p).map f):out.length≤ds.length:=by
 subst ho;subst h
 rw[List.length_map,List.length_append]
 exact Nat.le_trans (List.length_filter_le _ _) (Nat.le_add_right _ _)
theorem ZN{p:D→Bool}
  (F:Frm K b S' fn cs env nm σ own g)(hit:PIt K n g iter env R ds)(hRm:∀a∈R,∃o,g.mu a=some o)(H:CompP K n g env nm σ elt target ifs scope ds p f)(hsz:ds.length≤sizeLine)
  (hs:autoParam (foldedSetIterable iter env=pure) Z5) :
  Pe K n g (eval (.ListComp elt [⟨target,iter,ifs,0⟩] scope pos) env) (.lst ((ds.filter p).map f)):=fun A r g₁ l=>by
 refine Zcu H.ex fun src fn' σ₁ h1 h2 h3 h4 h5 h6 h7 h8=>?_
 refine Z5j (S:=[]) (R:=R) (ds:=ds) (σ₁:=σ₁) (I:=fun rest out V=>∃done,done++rest=ds∧out=(done.filter p).map f) r (F.up l) h1 h2 h3 h4 h5 (by exact ZZ) (fun a ha=>Zi (hRm a ha) fun o ho=>⟨o,l.at ho⟩) (fun V V V V a ha=>by cases ha) h6 h7 (fun V V V V V h V V=>h)
  (fun rest out g z₀=>Z4 z₀ fun done e1 e2=>Z27 p f rest out done e1 e2) hsz ?_ (hit A r g₁ l) ⟨[],rfl,rfl⟩ ?_ hs
 ·intro d rest out g' L cells cs' hd ⟨done,e1,e2⟩ F'
  refine ZG (h8 d hd g₁ g' L cells cs' l F'.le F') fun t1 t2=>?_
  refine Zg (t1 A r g' (LeX.refl _ _)) fun ok g₂ l₂ e=>⟨l₂,?_⟩
  clear t1 F' hd h8 h7 h6 h5 h3 hs H hRm hit F;subst e
  cases hp:p d with
  |true=>
   refine Zg (t2 hp A r g₂ l₂) fun v g₃ l₃ hv=>⟨l₃,f d,hv,done++[d],by simp[e1],?_⟩
   clear hv t2;subst e2;simp[hp]
  |false=>
   exact⟨done++[d],by simp[e1],by subst e2;simp[hp]⟩
 ·intro out v g' l' ⟨done,e1,e2⟩ hr
  rw[List.append_nil] at e1
  clear h8 h7 h6 h5 h3 hs H hRm hit F;subst e1;subst e2
  exact⟨l',hr⟩
theorem Frm.lostNew(F:Frm K b S' fn cs env nm σ' own g)(F₀:Frm K b S' fn cs env nm σ own g₀)(hC:g₀.mu C=none)(hd:∀o w,g.mu C=some o→o.data≠.cell w):Frm K b S' fn cs env nm σ' own (g.drop C):=by
 refine F.other LeX.drop (fun a ha hm=>?_) (fun a ha=>?_) (fun a ha=>?_)
 ·clear F;simp at ha;subst ha
  rw[List.cons_append] at hm
  rcases List.mem_cons.mp hm with rfl | hm
  ·refine ZP F₀.loc fun o f e V=>?_
   cases((hC).symm.trans e)
  rcases List.mem_append.mp hm with hm | hm
  ·refine ZP (F₀.csm a hm) fun o w e V=>?_
   cases((hC).symm.trans e)
  ·refine Z4 (List.mem_map.mp hm) ?_
   clear hm;rintro p hp rfl
   refine Z4 (F₀.own p hp) fun o e V=>?_
   clear hm hp;cases((hC).symm.trans e)
 ·clear F;simp at ha;subst ha
  by_cases hS:a∈S'
  ·exact .inr hS
  ·cases e:b.mu a with
   |none=>exact .inl rfl
   |some o=>have:=F₀.le.mu a o hS e;cases((hC).symm.trans this)
 ·clear hC F₀ F;simp at ha;subst ha;exact hd
theorem Z1Q{scope:Scope}{f:D→D}{Q:Flow→Gh→Prop}
  (F:Frm K b S' fn cs env nm σ own g)(r:Room A n)(h:nm[i]? = some (x,NameKind.local))(hit:PIt K n g iter env R ds)(hRm:∀a∈R,∃o,g.mu a=some o)(H:CompP K n g env nm σ elt target ifs scope ds p f)(hsz:ds.length≤sizeLine)
  (k:∀g',LeX [env.locals] g g'→Frm K b S' fn cs env nm (σ.set i (some (.lst ((ds.filter p).map f)))) own g'→gwp K A (execs rest env) Q g')
  (hline:pos'.line=pos.line)(hnot:(scope.names.any fun(n,k)=>n==x&&(k == .local||k == .cell))=false)
  (hs:autoParam (foldedSetIterable iter env=pure) Z5):gwp K A (execs (.Assign [.Name x pos'] (.ListComp elt [⟨target,iter,ifs,0⟩] scope pos) spos::rest) env) Q g:=by
 refine Zf fun s E ok=>?_
 have hsw:swapsWith (.ListComp elt [⟨target,iter,ifs,0⟩] scope pos) (some (.Name x pos')) spos.line env=pure true:=by
  show(pure (env.blockKind == .function&&env.kindOf x==some .local&&pos'.line==pos.line&&!(scope.names.any fun(n,k)=>n==x&&(k == .local||k == .cell))):Sem Bool)=_
  rw[hnot,hline,F.kindOf h]
  have hb:env.blockKind=.function:=by unfold Env.blockKind;rw[F.kind];rfl
  rw[hb]
  simp
 refine Zcu H.ex fun src fn' σ₁ h1 h2 h3 h4 h5 h6 h7 h8=>?_
 refine ZG (F.clos h1 h3) fun hfree hclos=>?_
 rw[exec_Assign_Name_used _ _ _ _ hsw]
 refine wpAny_bind (wpAny_standAt (wpAny_bind ?_))
 show wpAny _ A (do let _ ←comprehension (.ListComp elt [⟨target,iter,ifs,0⟩] scope pos) scope env _ (newList []) false (eval iter env) (some (assign (.Name x pos') env))) _ _ s
 refine wpAny_bind (wpAny_mono (wpAny_comprehension_free (use:=some (assign (.Name x pos') env)) (Q:=fun V s'=>∃g':Gh,g'.Ok K.B s'∧Then K A env rest Q .next g') (cl:=closOf env.cells scope.names []) rfl (congrFun hs) (JD hfree) h2
  (fun x hx hl=>by obtain⟨y,k⟩:=x;cases hl;obtain⟨i,hi⟩:=List.getElem?_of_mem hx;exact JG h1.ndup hi)
  (Zn (hit A r g (LeX.refl _ _) s E ok) (fun x s₁ g₁ ok₁ h₁=>Zn (h₁ s₁ E ok₁) (fun it s₂ g₂ ok₂ h₂=>?_)))) (fun V s' hq=>wpAny_pure (wpAny_pure hq)) fun V V z=>z)
 refine Z35 (use:=some (assign (.Name _ pos') env)) (S:=[]) (R:=R) (ds:=ds) (σ₁:=σ₁) (I:=fun rest out V=>∃done,done++rest=ds∧out=(done.filter p).map f) r F h1 h2 h3 h4 h5 (by exact ZZ) hRm (fun V V V V a ha=>by cases ha) h6 h7 (fun V V V V V h V V=>h)
  (fun rest out g z₀=>Z4 z₀ fun done e1 e2=>Z27 p f rest out done e1 e2) hsz ?_ h₂ ⟨[],rfl,rfl⟩ ?_ s₂ ok₂
 ·intro d rest out g' L cells cs' hd ⟨done,e1,e2⟩ F'
  refine ZG (h8 d hd g g' L cells cs' (LeX.refl _ _) F'.le F') fun t1 t2=>?_
  refine Zg (t1 A r g' (LeX.refl _ _)) fun ok g₂ l₂ e=>⟨l₂,?_⟩
  clear t1 F' hd h₁ hclos hfree h8 h7 h6 h5 h3 hsw hs hnot H hRm hit;subst e
  cases hp:p d with
  |true=>
   refine Zg (t2 hp A r g₂ l₂) fun v g₃ l₃ hv=>⟨l₃,f d,hv,done++[d],by simp[e1],?_⟩
   clear hv t2;subst e2;simp[hp]
  |false=>
   exact⟨done++[d],by simp[e1],by subst e2;simp[hp]⟩
 ·intro out C o v g' s' ok' l' ⟨done,e1,e2⟩ hr hC hCo hCd
  rw[List.append_nil] at e1
  clear h₁ hclos hfree h8 h7 h6 h5 h3 hsw hs hnot H hRm hit;subst e1;subst e2
  have hCL:C≠env.locals:=by
   rintro rfl
   refine ZP F.loc fun o f e V=>?_
   cases((hC).symm.trans e)
  show wpAny _ A (assign (.Name _ pos') env v) _ _ s'
  refine wpAny_mono (ZE (K:=K) (A:=A) (Q:=fun V g''=>LeX [env.locals] g' g''∧Frm K b S' fn cs env nm (σ.set i (some (.lst ((done.filter p).map f)))) own g'') ((F.up l').storeLocal h hr fun g'' l'' F''=>⟨l'',F''⟩) s' E ok') (fun V s'' hh=>?_) fun V V z=>z
  refine Zm hh fun g'' ok'' l'' F''=>?_
  have hCo':=l''.mu C o (by exact Z78 hCL) hCo
  refine⟨_,(Z5J (ok''.mu _ _ hCo') hCd).choose_spec,fun h' hs'=>⟨g''.drop C,ok''.lost (tk:=s''.toks) hCo' hs'.extBut,?_⟩⟩
  refine k _ ?_ (F''.lostNew F hC fun o' w e=>by cases((hCo').symm.trans e);obtain⟨es,ep,e,V⟩:=hCd;rw[e];intro z;cases z)
  refine LeX.forget (T:=[C,env.locals]) (((LeX.of l').trans (l''.sub (by exact Zr (.tail _ (.head _))))).trans (LeX.drop.sub (by exact Zr (.head _)))) fun a ha=>?_
  rcases List.mem_cons.mp ha with rfl | ha
  ·exact .inr hC
  ·exact .inl ha
theorem Z1v{im:Im}{d:D}{ds:List D}{vs:List Value}(h:Z7 im (d::ds) vs):∃v vs',vs=v::vs'∧Zu im d v∧Z7 im ds vs':=h
theorem Zc2{im:Im}{vs:List Value}(h:Z7 im [] vs):vs=[]:=h
theorem Jo{im:Im}{d:D}{vs:List Value}(h:Z7 im [d] vs):∃v,vs=[v]∧Zu im d v:=Zw (Z1v h) fun v V e r z=>⟨v,e.trans (congrArg _ (Zc2 z)),r⟩
theorem Jn{im:Im}{d e:D}{vs:List Value}(h:Z7 im [d,e] vs):∃v w,vs=[v,w]∧Zu im d v∧Zu im e w:=Zw (Z1v h) fun v V e r z=>Z4 (Jo z) fun w e' q=>⟨v,w,e.trans (congrArg _ e'),r,q⟩
theorem Z1w{im:Im}{d e f:D}{vs:List Value}(h:Z7 im [d,e,f] vs):∃v w x,vs=[v,w,x]∧Zu im d v∧Zu im e w∧Zu im f x:=Zw (Z1v h) fun v V e r z=>Zw (Jn z) fun w x e' q p=>⟨v,w,x,e.trans (congrArg _ e'),r,q,p⟩
theorem Ju{a:Int}:CallSem K n g (.builtin "int.bit_length") [.int a] (.int (Builtin.Int.intBits a)):=fun g V vs h A r g₁ l s E ok=>by
 obtain⟨v,rfl,h1⟩:=Jo h;obtain⟨t,rfl⟩:=Zo h1
 exact call_int_bit_length ⟨g₁,ok.tok _,LeX.refl _ _,Zp⟩
theorem Z8f{a c:Int}(hb:c≠0)(hp:Builtin.divisionGoesByPylong a c=false):CallSem K n g (.builtin "divmod") [.int a,.int c] (.tup [.int (a.fdiv c),.int (a.fmod c)]):=fun g V vs h A r g₁ l s E ok=>by
 obtain⟨v,w,rfl,h1,h2⟩:=Jn h;obtain⟨t,rfl⟩:=Zo h1;obtain⟨u,rfl⟩:=Zo h2
 refine divmod_int hb ⟨_,(ok.pushIm (o:=sq "tuple" #[.int (a.fdiv c) s.toks,.int (a.fmod c) (s.toks+1)] 0) rfl).tok _,Le.addIm ok.fresh.1,?_⟩ (.inl hp)
 exact J1.mpr ⟨_,_,0,rfl,ZcJ,Z7.cons Zp (Z7.cons Zp Z7.nil)⟩
theorem YY{x:List Nat}(hx:x.length<2^62):CallSem K n g (.builtin "len") [.str x] (.int x.length):=fun g V vs h A r g₁ l s E ok=>by
 obtain⟨v,rfl,h1⟩:=Jo h;obtain⟨t,rfl⟩:=Zz h1
 refine P.len_str (by rw[Jp];lia) ⟨g₁,ok.tok _,LeX.refl _ _,?_⟩
 rw[Jp];exact Zp
theorem Z0Y{a:Addr}{its:Array Value}{m:Nat}{T:String}{id:String}{s:Shared}{E:Value→Shared→Prop}{Q:Value→Shared→Prop}(hl:s.heap.IsList a its)(hsz:its.size<2^62)(h:Q (.int its.size (s.toks+1)) {s with toks:=s.toks+1+1}) :
  wpAny (model K.prog K.w) A (call (.builtin "len") [.ref a]) Q E s:=by
 refine Calls.call_function_entry kind_len plain_len entry_len (args_len1 _) ?_
 refine wpAny_len_body_list hl (by lia) h
theorem ZD(hx:x.length<2^62):CallSem K n g (.builtin "len") [.lst x] (.int x.length):=fun g V vs h A r g₁ l s E ok=>by
 obtain⟨v,rfl,h1⟩:=Jo h;obtain⟨a,its,m,rfl,e,rs⟩:=Zj.mp h1
 have hlen:its.size=x.length:=by rw[←Array.length_toList,rs.length]
 refine Z0Y (m:=m) (T:= "") (id:= "") ⟨_,ok.im _ _ (l.im _ _ e),rfl,m,rfl⟩ (by exact hlen▸hx) ⟨g₁,ok.tok _,LeX.refl _ _,?_⟩
 rw[hlen];exact Zp
theorem Z8c(hm:g.mu a=some (sq "list" its m))(hx:its.size<2^62):CallSem K n g (.builtin "len") [.raw (.ref a)] (.int its.size):=fun g l₀ vs h A r g₁ l s E ok=>by
 obtain⟨v,rfl,h1⟩:=Jo h;have:=Zk h1;subst this
 exact Z0Y (m:=m) (T:= "") (id:= "") ⟨_,ok.mu _ _ (l.at (l₀.at hm)),rfl,m,rfl⟩ hx ⟨g₁,ok.tok _,LeX.refl _ _,Zp⟩
theorem Z2A(its:Array Value)(k:Nat):(List.foldl (fun x1 x2=>x1++x2) #[] (List.replicate k its)).toList=(List.replicate k its.toList).flatten:=by
 have key:∀(k:Nat) (acc:Array Value),(List.foldl (fun x1 x2=>x1++x2) acc (List.replicate k its)).toList=acc.toList++(List.replicate k its.toList).flatten:=by
  intro k
  induction k with
  |zero=>intro acc;simp
  |succ k ih=>intro acc;simp[List.replicate_succ,ih]
 simpa using key k #[]
theorem Z7.replicate{im:Im}{ds:List D}{vs:List Value}(h:Z7 im ds vs):∀k,Z7 im (List.replicate k ds).flatten (List.replicate k vs).flatten
 |0=>by exact Z7.nil
 |k+1=>by
  rw[List.replicate_succ,List.replicate_succ,List.flatten_cons,List.flatten_cons]
  exact Z7.append h (Z7.replicate h k)
theorem Zal{a:Addr}{its:Array Value}{m:Nat}{x:Int}{u:Tok}{s:Shared}{E:Value→Shared→Prop}{Q:Value→Shared→Prop}(hl:s.heap.get? a=some (sq "list" its m))(hlo:-(2^63:Int)≤x)(hhi:x<2^63)(hsz:its.size*x.toNat≤2^24)
  (h:∀its',its'.toList=(List.replicate x.toNat its.toList).flatten→Q (.ref s.heap.objs.size) {s with heap:=s.heap.push (sq "list" its' 0)}):wpAny (model K.prog K.w) A (binaryOp .Mult (.ref a) (.int x u)) Q E s:=by
 refine wpAny_binaryOp_repeat_ref (T:= "list") (U:= "int") (by decide) ⟨_,hl,rfl⟩ (fun s'=>typeIs_int s' x u) noFill_list_mul F.fills_int_mul F.slot_int_rmul repeat_list F.slot_int_index.lookup
  (call_meets F.slot_int_rmul (typeIs_int s x u) F.entry_int_rmul (F.args_int_rmul_2 _ _) (int___rmul___int_list x u a its m)
   ⟨hl,rfl,⟨_,hl,rfl⟩,call_meets F.slot_list_mul ⟨_,hl,rfl⟩ F.entry_list_mul (F.args_list_mul_2 _ _)
    (AutoListH.list___mul___list_int_3 a its m x u (by simp[Builtin.List.listFitsIndex];lia) (by lia) (by simp[Builtin.List.listTooLong,sizeLine];exact hsz))
    ⟨hl,h _ ?_⟩⟩)
 rw[Z2A]
 by_cases he:its.isEmpty=true
 ·rw[if_pos he]
  have:its = #[]:=Array.isEmpty_iff.mp he
  clear h hsz hhi hlo hl;subst this
  simp
 ·rw[if_neg he]
theorem Z6C{v:Value}{t:Tok}{l:List D}{x:Int}{Q:Value→Gh→Prop}(hv:Zu g.im (.lst l) v)(hlo:-(2^62:Int)≤x)(hhi:x<2^62)(hsz:l.length*x.toNat≤2^24)
  (h:∀a its,g.im a=none→g.mu a=none→Z7 g.im (List.replicate x.toNat l).flatten its.toList→Q (.ref a) (g.setMu a (sq "list" its 0))):gwp K A (binaryOp .Mult v (.int x t)) Q g:=fun s E ok=>by
 refine ZO (Zj.mp hv) ?_
 rintro a its m rfl e rs
 have hlen:its.size=l.length:=by rw[←Array.length_toList,rs.length]
 exact Zal (ok.im _ _ e) (by lia) (by lia) (by rw[hlen];exact hsz) fun its' he=>⟨_,ok.pushMu (o:=sq "list" its' 0) rfl,h _ its' ok.fresh.1 ok.fresh.2 (by rw[he];exact rs.replicate _)⟩
theorem Z7v{x:List D}(hx:x.length<2^62):TruthSem K n g (.lst x) (!x.isEmpty):=fun g V v h A r g₁ l s E ok=>by
 refine ZO (Zj.mp h) ?_
 rintro a its m rfl e rs
 have hlen:its.size=x.length:=by rw[←Array.length_toList,rs.length]
 refine wpAny_truthy_list ⟨_,ok.im _ _ (l.im _ _ e),rfl,m,rfl⟩ (by lia) ⟨g₁,ok.tok _,LeX.refl _ _,?_⟩
 show(!its.isEmpty) = !x.isEmpty
 rw[Bool.eq_iff_iff]
 simp only[Bool.not_eq_true',Array.isEmpty_eq_false_iff,List.isEmpty_eq_false_iff,ne_eq]
 rw[←Array.size_eq_zero_iff,←List.length_eq_zero_iff,hlen]
theorem Z68{a:Addr}{its:Array Value}{o:Obj}{m:Nat}{k:Int}{t:Tok}{v:Value}{s:Shared}{E:Value→Shared→Prop}{Q:Unit→Shared→Prop}(ho:s.heap.get? a=some o)(hc:o.cls=.type "list")(hd:o.data=.seq its m)
  (h0:0≤k)(hfit:k<2^63)(hn:k<its.size)(h:Q () {s with heap:=s.heap.update a (Obj.mapSeq (·.setIfInBounds k.toNat v))}):wpAny (model K.prog K.w) A (setItem (.ref a) (.int k t) v) Q E s:=by
 have hl:s.heap.IsList a its:=⟨_,ho,hc,m,hd⟩
 unfold setItem
 try with_reducible refine wpAny_holding ?_
 first | refine wpAny_bind (wpAny_pure ?_) | skip
 refine wpAny_bind (wpAny_sequenceKey hl.typeIs (by decide) ?_)
 refine wpAny_bind (wpAny_callSpecial?_slot (name:=Str.ofString "__setitem__") hl.typeIs slot_list_setitem
  (wpAny_call_entry slot_list_setitem hl.typeIs entry_list_setitem ?_ (args_list_setitem _ _ _)))
 show wpAny _ _ (Builtin.List.listSubscript? (.int k t)>>=_) _ _ s
 refine wpAny_bind (wpAny_listSubscript_int (fitsIndex_of h0 hfit) ?_)
 clear hfit
 refine Zi (Int.eq_ofNat_of_zero_le h0) ?_
 rintro j rfl
 have hj:j<its.size:=by exact Int.ofNat_le.mp hn
 have hx':its[j]? = some its[j]:=Array.getElem?_eq_getElem hj
 show wpAny _ _ ((seqItemAt a j>>=fun r=>pure (r.map (j,·)))>>=_) _ _ s
 refine wpAny_bind (wpAny_bind (wpAny_seqItemAt ho hd (wpAny_pure ?_)))
 rw[hx']
 show wpAny _ _ (setSeqItemAt a j v>>=_) _ _ s
 refine wpAny_bind (wpAny_setSeqItemAt ho hd ?_)
 first
  |exact wpAny_bind (wpAny_pure (wpAny_pure ⟨.none,rfl,wpAny_pure h⟩))
  |exact wpAny_pure ⟨.none,rfl,wpAny_pure h⟩
theorem Z58{a:Addr}{its:Array Value}{m:Nat}{k:Nat}{t:Tok}{v:Value}{Q:Unit→Gh→Prop}(ha:g.mu a=some (sq "list" its m))(hn:k<its.size)(hk:k<2^62)
  (h:∀m',Q () (g.setMu a (sq "list" (its.setIfInBounds k v) m'))):gwp K A (setItem (.ref a) (.int k t) v) Q g:=fun s E ok=>
 Z68 (ok.mu _ _ ha) rfl rfl (by exact Int.natCast_nonneg _) (by lia) (by exact Int.ofNat_le.mpr hn) ⟨_,ok.upd ha rfl,h _⟩
theorem Z5c{a:Addr}{its:Array Value}{m:Nat}{t:Tok}{y:Value}{Q:Value→Gh→Prop}(ha:g.mu a=some (sq "list" its m))(hy:its[0]? = some y)(hsz:its.size≤sizeLine)
  (h:∀m',Q y (g.setMu a (sq "list" (its.eraseIdxIfInBounds 0) m'))):gwp K A (call (.builtin "list.pop") [.ref a,.int 0 t]) Q g:=fun s E ok=>
 call_meets F.slot_list_pop ⟨_,ok.mu _ _ ha,rfl⟩ F.entry_list_pop (F.args_list_pop_2 _ _) (MeetsSeq.list_pop_at a its m 0 t 0 y (by decide) (by
  have:0<its.size:=(Array.getElem?_eq_some_iff.mp hy).1
  unfold seqIndex?;simp[this]) hy hsz) ⟨ok.mu _ _ ha,_,ok.upd ha rfl,h _⟩
theorem Z59{a:Addr}{its:Array Value}{m:Nat}{Q:Value→Gh→Prop}(ha:g.mu a=some (sq "list" its m))(hsz:its.size≤sizeLine)
  (h:∀m',Q .none (g.setMu a (sq "list" its.reverse m'))):gwp K A (call (.builtin "list.reverse") [.ref a]) Q g:=fun s E ok=>
 call_meets F.slot_list_reverse ⟨_,ok.mu _ _ ha,rfl⟩ F.entry_list_reverse (F.args_list_reverse_1 _) (AutoListH.list_reverse_list_0 a its m hsz) ⟨ok.mu _ _ ha,_,ok.upd ha rfl,h _⟩
noncomputable def RI(o:Obj)(l:Addr)(i:Int):Prop:=o.cls=.type "list_reverseiterator"∧o.data=.fields #[.ref l,rawInt i]
noncomputable def MO.ri(ds:List D):MO:=⟨fun im o=>∃l its m,RI o l ((ds.length:Int)-1)∧im l=some (sq "list" its m)∧Z7 im ds.reverse (its.toList.take ds.length),fun V V V h z₀=>ZO z₀ fun l its m h1 h2 h3=>⟨l,its,m,h1,h _ _ h2,h3.mono h⟩⟩
theorem It.rev{it:Addr}:It K (.ref it) [it] [] (fun ds g=>∃o,g.mu it=some o∧(MO.ri ds).P g.im o) where
 item:=fun{d ds g A} hh st s E ok=>by
  refine Z4 st fun o h1 z=>ZO z fun l its m h2 h3 h4=>?_
  have hv:∃v,its[ds.length]? = some v∧Zu g.im d v:=by
   refine Z4 (h4.get (i:=ds.length) (d:=d) (by rw[List.reverse_cons,List.getElem?_append_right (Nat.le_of_eq List.length_reverse),List.length_reverse,Nat.sub_self];rfl)) fun v e1 e2=>?_
   refine⟨v,?_,e2⟩
   rw[List.getElem?_take] at e1
   simpa using e1
  refine Z4 hv fun v hv hr=>?_
  have hl2:((((d::ds).length:Nat):Int)-1)=((ds.length:Nat):Int):=by simp
  rw[hl2] at h2
  refine wpAny_pyNext_rev_item ⟨o,ok.mu _ _ h1,h2⟩ ⟨_,ok.im _ _ h3,rfl,m,rfl⟩ hv fun h' hit' hs=>?_
  refine Zm hit' fun o' ho' hc' hd'=>?_
  have ok':=ok.sameBut (tk:=s.toks) h1 hs ho'
  refine⟨_,ok',LeX.setMu,v,rfl,hr,fun target A=>?_⟩
  refine Je (a:=it) (.inr ZcI) hc' hd' (by decide) ⟨LeX.refl _ _,o',ZcI,l,its,m,⟨hc',hd'⟩,h3,?_⟩
  have h5:=h4.take ds.length
  rw[List.take_take] at h5
  rw[List.reverse_cons,List.take_append_of_le_length (by simp),List.take_of_length_le (by simp)] at h5
  have:min ds.length (d::ds).length=ds.length:=by simp
  rw[this] at h5;exact h5
 done:=fun{g A} hh st s E ok=>by
  refine Z4 st fun o h1 z=>ZO z fun l its m h2 h3 h4=>?_
  exact wpAny_pyNext_rev_end hh ⟨o,ok.mu _ _ h1,h2⟩ fun h' he=>⟨_,ok.lost (tk:=s.toks) h1 he,LeX.drop,rfl⟩
 self:=fun{ds g A Q} st q s E ok=>by
  refine Z4 st fun o h1 z=>ZO z fun l its m h2 h3 h4=>?_
  have hT:s.TypeIs (.ref it) "list_reverseiterator":=⟨o,ok.mu _ _ h1,h2.1⟩
  refine wpAny_pyIter_slot hT F.slot_lri_iter (wpAny_call_entry F.slot_lri_iter hT F.entry_lri_iter ?_ (F.args_lri_iter_1 _))
  show wpAny _ _ (ret (.ref it)) _ _ s
  exact wpAny_pure ⟨_,rfl, "list_reverseiterator",_,hT,F.slot_lri_next.lookup,⟨g,ok,q⟩⟩
 frame:=fun{ds g g' W} st l hw=>by
  refine Z4 st fun o h1 h2=>?_
  exact⟨o,l.mu _ _ (fun hm=>(hw _ hm).1 (by exact .head _)) h1,(MO.ri ds).mono _ _ _ l.im h2⟩
 mem:=fun{ds g} st=>Zr (Z4 st fun o h1 V=>⟨o,h1⟩)
 cell:=fun{ds g} st=>Zr (fun o' w e=>Z4 st fun o h1 z=>ZO z fun l its m h2 V V z=>by rw[←J0 h1 e,h2.2] at z;cases z)
theorem ItM.rev{a:Addr}:ItM K (.ref a) [a] (fun ds=>[(a,MO.ri ds)]):=Zd1 It.rev (fun ds g=>Iff.rfl) (fun ds im o w z₀=>ZO z₀ fun l its m h V V z=>by rw[h.2] at z;cases z)
theorem YH{func arg:Expr}{pos:Pos}{f:Value}{Q:Value→Gh→Prop}(r:Room A n)(hf:Pe K n g (eval func env) (.raw f))(hn:∀a,f≠.ref a)
  (h:∀g',Le g g'→gwp K A (spliced (backTo pos (starEach [arg] env))) (fun vs g₂=>gwp K A (call f vs) Q g₂) g')
  (hp:autoParam ((backTo pos (starEach [arg] env)).any (·.1)=false) Z5)
  (he:autoParam (eval (.Call func [arg] [] pos) env=(do callWith pos (←eval func env) [] (backTo pos (starEach [arg] env)) (backToKw pos (keywordEach [] env)))) Z5):gwp K A (eval (.Call func [arg] [] pos) env) Q g:=
 ZK (he:=he) (hf.use r fun f' g₂ l₂ p=>by
  have:=Zk p;subst this
  exact Zq hn hp (Zc hp (h g₂ l₂)))
theorem Z3y{func arg:Expr}{pos:Pos}{ds:List D}(hf:Pe K n g (eval func env) (.raw (.type "reversed")))(ha:Pe K n g (eval arg env) (.lst ds))
  (hst:autoParam (starEach [arg] env=[(false,eval arg env)]) Z5)
  (hp:autoParam ((backTo pos (starEach [arg] env)).any (·.1)=false) Z5)
  (he:autoParam (eval (.Call func [arg] [] pos) env=(do callWith pos (←eval func env) [] (backTo pos (starEach [arg] env)) (backToKw pos (keywordEach [] env)))) Z5):PItM K n g (.Call func [arg] [] pos) env ds.reverse:=fun A r g₁ l=>
 YH r (hf.le l) (by intro a z;cases z) (fun g' l'=>Pv.use ((Z1 (ha.le l) Z2 hst).le l') r fun vs g₂ l₂ rs=>by
  refine Z4 (Jo rs) ?_
  rintro v rfl h1
  refine ZO (Zj.mp h1) ?_
  rintro a its m rfl e rs
  intro s E ok
  have hlen:its.size=ds.length:=by rw[←Array.length_toList,rs.length]
  refine call_reversed_list ⟨_,ok.im _ _ e,rfl,m,rfl⟩ ⟨_,ok.pushMu (o:=revObj a ((its.size:Int)-1)) rfl,?_⟩
  have hi:NewM K ds.reverse g₂ (.ref s.heap.objs.size) (g₂.setMu s.heap.objs.size (revObj a ((its.size:Int)-1))):=ZcW ok ItM.rev ⟨a,its,m,⟨rfl,by rw[hlen,List.length_reverse];rfl⟩,e,by rw[List.reverse_reverse,List.length_reverse,←rs.length,List.take_length];exact rs⟩
  obtain⟨x1,T,ms,x2,x3,x4⟩:=hi
  exact x2.self x3 ⟨(l'.trans l₂).trans x1,T,ms,x2,x3,fun a ha=>Le.nomu (l'.trans l₂) (x4 a ha)⟩) hp he
theorem Z0I:∀(ps:List Value),TriplesOk ps→codeAmong pos (ps++[rawInt l,rawInt c,w])=some v→codeAmong pos ps=some v∨(l=pos.line∧c=pos.col∧v=w):=by
 intro ps
 fun_induction TriplesOk ps with
 |case1=>
  intro V h
  right
  dsimp only[List.nil_append,rawInt,codeAmong] at h
  split at h
  ·rename_i hc
   simp only[Bool.and_eq_true,beq_iff_eq] at hc
   exact⟨hc.1,hc.2,by clear hc;cases h;rfl⟩
  ·cases h
 |case2 a t b u x rest ih=>
  intro ht h
  dsimp only[List.cons_append,codeAmong] at h ⊢
  split at h
  ·rename_i hc;rw[if_pos hc];exact .inl h
  ·rename_i hc;rw[if_neg hc];exact ih ht h
 |case3 l h1 h2=>intro ht;exact ht.elim
theorem Z1N{h:Heap}{G:Prop}(b1:h.IsCode c P ps)(k:∀o vs op,h.get? c=some o→o.data=.fields vs→vs.getD 11 .none=.ref P→h.get? P=some op→op.data=.fields ps→TriplesOk ps.toList→G):G:=
 Zcw b1 fun o vs V V V V V V V op z=>k o vs op z.1 z.2.1 z.2.2.1 z.2.2.2.2.2.2.2.1 z.2.2.2.2.2.2.2.2.1 z.2.2.2.2.2.2.2.2.2.1
theorem Qp{prog:Program}{E:Value→Shared→Prop}(hc:env.code=.ref c)(b1:s.heap.IsCode c P ps)(hf:codeAmong pos ps.toList=some v)(q:Q v s):wpAny (model prog w) A (codeAt env pos mk) Q E s:=by
 refine Z1N b1 fun o vs op ho hd h11 hop hpd V=>?_
 delta codeAt
 rw[hc,if_neg (show¬((Value.ref c==Value.none)=true) from Bool.false_ne_true)]
 refine wpAny_bind (wpAny_fieldsOf ho hd ?_)
 rw[h11]
 refine wpAny_bind (wpAny_fieldsOf hop hpd ?_)
 rw[hf]
 exact wpAny_pure q
theorem Z4n{pos:Pos}(hq:qn pos.line pos.col=some qual)(htr:TriplesOk ps.toList)(b3:TabFit qn g.im ps)(l:Le g (g.addIm c' oc))(r2:oc.data=.fields vs)(r3:vs[1]? = some (.str qual tq)) :
  TabFit qn (g.addIm c' oc).im (ps++#[rawInt pos.line,rawInt pos.col,.ref c']):=fun pos' q v hq' hv=>by
 have hl:(ps++#[rawInt pos.line,rawInt pos.col,Value.ref c']).toList=ps.toList++[rawInt pos.line,rawInt pos.col,.ref c']:=Array.toList_append
 rw[hl] at hv
 rcases Z0I _ htr hv with hv | ⟨h1,h2,h3⟩
 ·exact(b3.mono l.im) pos' q v hq' hv
 ·rw[←Int.ofNat.inj h1,←Int.ofNat.inj h2,hq] at hq'
  cases hq'
  exact⟨c',oc,vs,tq,h3,ZcJ,r2,r3⟩
theorem Z5S(ap:(B.tabs.map (·.2)).Nodup)(hm:(c2,P)∈B.tabs)(ht:(c,P)∈B.tabs):c2=c:=by
 refine Zi (List.getElem?_of_mem hm) fun i hi=>Zi (List.getElem?_of_mem ht) fun j hj=>?_
 have:i=j:=Z0r ap (i:=i) (j:=j) (a:=P) (by rw[List.getElem?_map,hi];rfl) (by rw[List.getElem?_map,hj];rfl)
 rw[this,hj] at hi
 cases hi;rfl
theorem Gh.Ok.grow{s:Shared}(ok:g.Ok B s){pos:Pos}{qual:Str}(ht:(c,P)∈B.tabs)(hq:B.qn pos.line pos.col=some qual)(a1:g.im P=none)(a2:P<B.h₀.objs.size)(a4:P≠cStatics)(a5:B.h₀.TableAt c P ps₀)
  (b1:s.heap.IsCode c P ps)(b2:s.heap.TableAt c P ps)(b3:TabFit B.qn g.im ps){vs:Array Value}{tq:Tok}(hx:Heap.ExtBut P s.heap h')(hge:s.heap.objs.size≤c')(hlt:c'<h'.objs.size)(hok':h'.IsCode c P (ps++#[rawInt pos.line,rawInt pos.col,.ref c']))(htab':h'.TableAt c P (ps++#[rawInt pos.line,rawInt pos.col,.ref c']))(r1:h'.get? c'=some oc)(r2:oc.data=.fields vs)(r3:vs[1]? = some (.str qual tq)) :
  (g.addIm c' oc).Ok B {s with heap:=h',toks:=tk}:=by
 have hPim:∀b o,g.im b=some o→b≠P:=fun b o e z=>by rw[z,a1] at e;cases e
 have hfr:=ok.freshAt hge
 have l:Le g (g.addIm c' oc):=Le.addIm hfr.1
 have hb1:∀b o,(g.addIm c' oc).im b=some o→b≠c'→g.im b=some o:=fun b o e hb=>(if_neg hb).symm.trans e
 refine⟨fun b o e=>(Classical.em (b=c')).elim (fun hb=>?_) fun hb=>hx _ _ (hPim _ _ (hb1 b o e hb)) (ok.im _ _ (hb1 b o e hb)),fun b o e=>hx _ _ (Nat.ne_of_gt (Nat.lt_of_lt_of_le a2 (ok.new _ _ e))) (ok.mu _ _ e),fun b o1 o2 e e'=>(Classical.em (b=c')).elim (fun hb=>?_) fun hb=>ok.dis _ _ _ (hb1 b o1 e hb) e',fun b o e=>l.im _ _ (ok.base b o e),ok.new,Nat.le_trans ok.size (Nat.le_trans hge (Nat.le_of_lt hlt)),ok.old.step_table a5 b2 htab' hx a4,ok.os,ok.gens,fun c2 P2 hm=>?_,ok.apart⟩
 ·rw[hb] at e ⊢;cases(ZcJ.symm.trans e);exact r1
 ·rw[hb] at e';cases(hfr.2.symm.trans e')
 ·refine Za5 (ok.tabs c2 P2 hm) fun x1 x2 x3 x4 x5 x6=>?_
  have hi2:(g.addIm c' oc).im P2=none:=(if_neg (Nat.ne_of_lt (Nat.lt_of_lt_of_le x2 (Nat.le_trans ok.size hge)))).trans x1
  by_cases hPP:P2=P
  ·rw[hPP] at hm x5 hi2 ⊢
   rw[Z5S ok.apart hm ht] at x3 x5 ⊢
   exact⟨hi2,a2,x3,a4,x5,_,hok',htab',(Z1N b1 fun V V V V V V V V htr=>Z4n hq htr b3 l r2 r3)⟩
  ·refine Zi x3 fun o2 x3=>Zm x6 fun ps2 y1 y2 y3=>?_
   have hc2:c2≠P:=hPim _ _ (ok.base _ _ x3)
   exact⟨hi2,x2,⟨o2,x3⟩,x4,x5,ps2,y1.extBut hx hc2 hPP,y2.extBut hx hc2 hPP,y3.mono l.im⟩
theorem Z20(ht:(c,P)∈K.B.tabs)(hq:K.B.qn pos.line pos.col=some qual)
  (H1:∀(s:Shared) (E:Value→Shared→Prop) (ps:Array Value) (v:Value) (Q:Value→Shared→Prop),s.heap.IsCode c P ps→codeAmong pos ps.toList=some v→Q v s→wpAny (model K.prog K.w) A t Q E s)
  (H2:∀(s:Shared) (E:Value→Shared→Prop) (ps:Array Value) (Q:Value→Shared→Prop),s.heap.IsCode c P ps→s.heap.TableAt c P ps→codeAmong pos ps.toList=none→(∀c' h' tk,Heap.ExtBut P s.heap h'→s.heap.objs.size≤c'→c'<h'.objs.size→h'.IsCode c P (ps++#[rawInt pos.line,rawInt pos.col,.ref c'])→h'.CodeRec (.ref c') qual→
   h'.TableAt c P (ps++#[rawInt pos.line,rawInt pos.col,.ref c'])→(∃P',s.heap.objs.size≤P'∧h'.IsCode c' P' #[]∧h'.TableAt c' P' #[])→Q (.ref c') {s with heap:=h',toks:=tk})→wpAny (model K.prog K.w) A t Q E s)
  (h:∀c' g' oc vs tq,Le g g'→g'.im c'=some oc→oc.data=.fields vs→vs[1]? = some (.str qual tq)→Q (.ref c') g'):gwp K A t Q g:=fun s E ok=>
 Za5 (ok.tabs c P ht) fun a1 a2 V a4 a5 a6=>Zi a5 fun ps₀ a5=>Zm a6 fun ps b1 b2 b3=>match hf:codeAmong pos ps.toList with
 |some v=>Z6Y (b3 pos qual v hq hf) fun a o vs t e e1 e2 e3=>H1 s E ps v _ b1 hf ⟨g,ok,e▸h a g o vs t (LeX.refl _ _) e1 e2 e3⟩
 |none=>H2 s E ps _ b1 b2 hf fun c' h' tk hx hge hlt hok' hrec htab' V=>Z6Y hrec fun c2 oc vs tq e r1 r2 r3=>by
  rw[←Value.ref.inj e] at r1
  exact⟨_,ok.grow ht hq a1 a2 a4 a5 b1 b2 b3 hx hge hlt hok' htab' r1 r2 r3,h c' _ oc vs tq (Le.addIm (ok.freshAt hge).1) ZcJ r2 r3⟩
theorem QA(hc:env.code=.ref c)(ht:(c,P)∈K.B.tabs)(hq:K.B.qn pos.line pos.col=some qual)
  (h:∀c' g' oc vs tq,Le g g'→g'.im c'=some oc→oc.data=.fields vs→vs[1]? = some (.str qual tq)→Q (.ref c') g'):gwp K A (functionCode env pos firstLine name qual p scope body) Q g:=
 Z20 ht hq (fun V V V V V b1 hf q=>Qp hc b1 hf q) (fun V V V V b1 b2 hf k=>wpAny_functionCodeX hc b1 b2 hf k) h
structure ModB(B:Base):Prop where
 bi:∃o f bm ob,B.im mainGlobals=some o∧NsObj o f∧f "__builtins__" = some (.ref bm)∧bm≠builtinsNs∧B.im bm=some ob∧ob.cls=.type "module"∧ob.dict=some builtinsNs∧ob.data=.plain
theorem YS(M:ModB K.B)(hkw:params.kwonlyargs=[])(hgl:env.globals=mainGlobals)(hcl:closureFor scope env=pure cl)(hc:env.code=.ref c)(ht:(c,P)∈K.B.tabs)(hq:K.B.qn pos.line pos.col=some qual)
  (hdoc:∀b,body=.stmts b→docOf b=none)
  (h:∀g' c' pm ct,Le g g'→(∃oc vs tq,g'.im c'=some oc∧oc.data=.fields vs∧vs[1]? = some (.str qual tq))→
   gwp K A (newObj (.type "function") (.func {name,qualname:=qual,params,body,scope,globals:=mainGlobals,closure:=cl,closureTuple:=ct,code:=.ref c',builtins:=builtinsNs,defaults:=.none,kwdefaults:=.none,annotations:=none,pyModule:=pm,doc:=.none})) Q g') :
  gwp K A (makeFunction name qual params body scope env [] [] [] pos firstLine) Q g:=by
 rw[makeFunction_eq,hkw]
 refine Z0 (Z6 (Z0 (Z6 (Z0 (Z6 ?_)))))
 delta makeTail
 rw[hcl,hgl]
 refine Z0 (Z6 ?_)
 by_cases he:cl.isEmpty=true
 ·rw[if_pos he]
  refine Z0 (Z6 ?_)
  refine Z0 (QA hc ht hq fun c' g₂ oc vs tq l₂ e1 e2 e3=>?_)
  refine ZbX M.bi fun o f bm ob m1 m2 m3 m4 m5 m6 m7 m8=>?_
  refine Z0 fun s E ok=>?_
  refine wpAny_builtinsFor (m2.ns (ok.im _ _ (ok.base _ _ m1))) m3 m4 (ok.im _ _ (ok.base _ _ m5)) m6 m7 m8 ⟨g₂,ok,?_⟩
  refine Z0 fun s E ok=>?_
  refine wpAny_nsGet (m2.ns (ok.im _ _ (ok.base _ _ m1))) ⟨g₂,ok,?_⟩
  cases body with
  |stmts b=>simp only[hdoc b rfl];exact Z0 (Z6 (h g₂ c' _ _ l₂ ⟨oc,vs,tq,e1,e2,e3⟩))
  |expr e=>exact Z0 (Z6 (h g₂ c' _ _ l₂ ⟨oc,vs,tq,e1,e2,e3⟩))
 ·rw[if_neg he]
  refine Z0 fun s E ok=>wpAny_newTextTuple ⟨_,ok.pushIm (o:={cls:=.type "tuple",data:=.seq ((cl.mergeSort fun a b=>a.1.cps.toList≤b.1.cps.toList).map (.ref ·.2)).toArray}) rfl,?_⟩
  have l₁:=Le.addIm (g:=g) (o:={cls:=.type "tuple",data:=.seq ((cl.mergeSort fun a b=>a.1.cps.toList≤b.1.cps.toList).map (.ref ·.2)).toArray}) ok.fresh.1
  refine Z0 (QA hc ht hq fun c' g₂ oc vs tq l₂ e1 e2 e3=>?_)
  refine ZbX M.bi fun o f bm ob m1 m2 m3 m4 m5 m6 m7 m8=>?_
  refine Z0 fun s E ok=>?_
  refine wpAny_builtinsFor (m2.ns (ok.im _ _ (ok.base _ _ m1))) m3 m4 (ok.im _ _ (ok.base _ _ m5)) m6 m7 m8 ⟨g₂,ok,?_⟩
  refine Z0 fun s E ok=>?_
  refine wpAny_nsGet (m2.ns (ok.im _ _ (ok.base _ _ m1))) ⟨g₂,ok,?_⟩
  cases body with
  |stmts b=>simp only[hdoc b rfl];exact Z0 (Z6 (h g₂ c' _ _ (l₁.trans l₂) ⟨oc,vs,tq,e1,e2,e3⟩))
  |expr e=>exact Z0 (Z6 (h g₂ c' _ _ (l₁.trans l₂) ⟨oc,vs,tq,e1,e2,e3⟩))
noncomputable abbrev nestFd(name qual:Str)(params:Arguments)(body:FuncBody)(scope:Scope)(cl:List (Str×Addr))(c':Addr)(pm ct:Value):FuncData:=
 {name,qualname:=qual,params,body,scope,globals:=mainGlobals,closure:=cl,closureTuple:=ct,code:=.ref c',builtins:=builtinsNs,defaults:=.none,kwdefaults:=.none,annotations:=none,pyModule:=pm,doc:=.none}
noncomputable abbrev fnObj(fd:FuncData):Obj:={cls:=.type "function",data:=.func fd}
theorem ZaX(hd0:params.defaults=[])(hk0:params.kw_defaults=[])(ha:annTrees params none env=[])
  (h:gwp K A (makeFunction name (qualnameIn env name name) params (.stmts body) scope env [] [] [] pos pos.line) (fun v g₁=>gwp K A (storeName env name v) (fun V g₂=>Q .next g₂) g₁) g):gwp K A (exec (.FunctionDef name params body [] none [] scope none name pos) env) Q g:=
 fun s E ok=>nestDef_K hd0 hk0 ha (Zn (h s E ok) (fun v s₁ V ok₁ h₁=>h₁ s₁ E ok₁))
noncomputable def Gh.fixed(g:Gh):Gh:={g with mu:=fun V=>none}
theorem ZcS:Le g.fixed g:=⟨fun V V e=>e,(fun V V V e=>by cases e),rfl⟩
theorem LeX.fixed(l:LeX W g g'):Le g.fixed g'.fixed:=⟨l.im,(fun V V V e=>by cases e),l.gs⟩
theorem FnAt.unfix(h:FnAt g.fixed a fd):FnAt g a fd:=h.le ZcS
theorem Z7f(M:ModB K.B)
  (F:Frm K b S' fn cs env nm σ own g)(hi:nm[i]? = some (name,k))(hk:k=.local∨(k=.cell∧i∈fn))(hn:NamesOk scope.names)(hsrc:srcOk nm scope.names src=true)
  (hc:env.code=.ref c)(ht:(c,P)∈K.B.tabs)(hq:K.B.qn pos.line pos.col=some q)(hqq:env.qual++name=q)(hdoc:docOf body=none)
  (h:∀a fd g' c' pm ct,fd=nestFd name q params (.stmts body) scope (closOf env.cells scope.names []) c' pm ct→FnAt g'.fixed a fd→LeX (env.locals::cs) g g'→Frm K b S' fn cs env nm (σ.set i (some (.raw (.ref a)))) own g'→gwp K A (execs rest env) Q g')
  (hd0:autoParam (params.defaults=[]) Z5)(hk0:autoParam (params.kw_defaults=[]) Z5)(hkw:autoParam (params.kwonlyargs=[]) Z5)(ha:autoParam (annTrees params none env=[]) Z5) :
  gwp K A (execs (.FunctionDef name params body [] none [] scope none name pos::rest) env) Q g:=by
 refine ZG (F.clos hn hsrc) fun hfree hclos=>?_
 have hqn:qualnameIn env name name=q:=by
  unfold qualnameIn
  rw[F.kindOf hi]
  rcases hk with rfl | ⟨rfl,V⟩<;>exact hqq
 refine Zf (ZaX hd0 hk0 ha ?_)
 rw[hqn]
 refine YS M hkw F.globals (JD hfree) hc ht hq (fun b hb=>by cases hb;exact hdoc) fun g' c' pm ct l hrec=>?_
 refine fun s E ok=>wpAny_newObj_type (T:= "function") (dict:=none) ⟨_,ok.pushIm (o:=fnObj _) rfl,?_⟩ (by trivial)
 refine ZO hrec fun oc vs tq r1 r2 r3=>?_
 have l₁:Le g' (g'.addIm s.heap.objs.size (fnObj (nestFd name q params (.stmts body) scope (closOf env.cells scope.names []) c' pm ct))):=Le.addIm ok.fresh.1
 have hfa:∀g'' W,LeX W (g'.addIm s.heap.objs.size (fnObj (nestFd name q params (.stmts body) scope (closOf env.cells scope.names []) c' pm ct))) g''→FnAt g''.fixed s.heap.objs.size (nestFd name q params (.stmts body) scope (closOf env.cells scope.names []) c' pm ct):=fun g'' W l₂=>
  ⟨⟨_,.inl (l₂.im _ _ ZcJ),rfl⟩,⟨c',oc,vs,tq,rfl,.inl (l₂.im _ _ (l₁.im _ _ r1)),r2,r3⟩⟩
 have F':=F.up (l.trans l₁)
 rcases hk with rfl | ⟨rfl,hin⟩
 ·refine F'.storeLocal hi (d:=.raw (.ref s.heap.objs.size)) Zl fun g'' l'' F''=>?_
  exact h _ _ g'' c' pm ct rfl (hfa g'' _ l'') ((LeX.of (l.trans l₁)).trans (l''.sub (by exact Zr (.head _)))) F''
 ·refine F'.storeCell hi hin (d:=.raw (.ref s.heap.objs.size)) Zl fun g'' l'' F''=>?_
  exact h _ _ g'' c' pm ct rfl (hfa g'' _ l'') ((LeX.of (l.trans l₁)).trans (l''.sub (fun a ha=>List.mem_cons_of_mem _ ha))) F''
theorem Z9w(M:ModB K.B)
  (F:Frm K b S' fn cs env nm σ own g)(hi:nm[i]? = some (name,k))(hk:k=.local∨(k=.cell∧i∈fn))(hn:NamesOk scope.names)(hsrc:srcOk nm scope.names src=true)
  (hc:env.code=.ref c)(ht:(c,P)∈K.B.tabs)(hq:K.B.qn pos.line pos.col=some q)(hqq:env.qual++name=q)(hdoc:docOf body=none)
  (h:∀a fd g' c' pm ct,fd=nestFd name q params (.stmts body) scope (closOf env.cells scope.names []) c' pm ct→FnAt g' a fd→LeX (env.locals::cs) g g'→Frm K b S' fn cs env nm (σ.set i (some (.raw (.ref a)))) own g'→gwp K A (execs rest env) Q g')
  (hd0:autoParam (params.defaults=[]) Z5)(hk0:autoParam (params.kw_defaults=[]) Z5)(hkw:autoParam (params.kwonlyargs=[]) Z5)(ha:autoParam (annTrees params none env=[]) Z5) :
  gwp K A (execs (.FunctionDef name params body [] none [] scope none name pos::rest) env) Q g:=
 Z7f M F hi hk hn hsrc hc ht hq hqq hdoc (fun a fd g' c' pm ct e f=>h a fd g' c' pm ct e f.unfix) hd0 hk0 hkw ha
structure FnB(B:Base)(a:Addr)(fd:FuncData):Prop where
 obj:∃o,B.im a=some o∧o.data=.func fd∧o.cls=.type "function"
 code:∃c oc vs tq,fd.code=.ref c∧B.im c=some oc∧oc.data=.fields vs∧vs[1]? = some (.str fd.qualname tq)
theorem FnB.at(h:FnB K.B a fd)(ok:g.Ok K.B s):FnAt g a fd:=
 ⟨Zm h.obj fun o h1 h2 V=>⟨o,.inl (ok.base _ _ h1),h2⟩,Z8k h.code fun c oc vs tq h1 h2 h3=>⟨c,oc,vs,tq,h1,.inl (ok.base _ _ h2),h3⟩⟩
noncomputable def paramsOf:Stmt→Arguments
 |.FunctionDef _ p _ _ _ _ _ _ _ _=>p
 |_=>⟨[],[],none,[],[],none,[]⟩
noncomputable def bodyOf:Stmt→List Stmt
 |.FunctionDef _ _ b _ _ _ _ _ _ _=>b
 |.ClassDef _ _ _ b _ _ _ _ _ _ _=>b
 |_=>[]
noncomputable def scopeOf:Stmt→Scope
 |.FunctionDef _ _ _ _ _ _ s _ _ _=>s
 |_=>⟨.function,[],false,false,[]⟩
noncomputable def nameOf:Stmt→Str
 |.FunctionDef n _ _ _ _ _ _ _ _ _=>n
 |_=>Str.empty
noncomputable def stNo(l:List Stmt)(i:Nat):Stmt:=l.getD i (.Pass ⟨0,0,0,0⟩)
noncomputable def topFd(st:Stmt)(q:Str)(c:Addr)(cl:List (Str×Addr))(dv pm ct:Value):FuncData:=
 {name:=nameOf st,qualname:=q,params:=paramsOf st,body:=.stmts (bodyOf st),scope:=scopeOf st,globals:=mainGlobals,closure:=cl,defaults:=dv,kwdefaults:=.none,doc:=.none,pyModule:=pm,annotations:=none,code:=.ref c,closureTuple:=ct,builtins:=builtinsNs}
theorem Qn(h:(∃s,g.Ok K.B s)→gwp K A t Q g):gwp K A t Q g:=fun s E ok=>h ⟨s,ok⟩ s E ok
theorem Z16{st:Stmt}
  (hf:FnB K.B a (topFd st q c [] dv pm ct))(r:Room A (n+2))(hbind:BindTo K (topFd st q c [] dv pm ct) ⟨vals,[]⟩ binds g)
  (hn:NamesOk (scopeOf st).names)(hsrc:srcOk [] (scopeOf st).names src=true)(hg:GlobsAre K.B (scopeOf st).names src)(hb:BindOk (scopeOf st).names fn g.im binds bi)
  (h:∀A' L cells cs g',Room A' n→Frm K g S' fn cs (newEnv (scopeOf st) L mainGlobals cells (q++ ".<locals>.") (some a) (.ref c) none builtinsNs) (scopeOf st).names (bindSt (srcSt [] src) bi) [] g'→
   gwp K A' (execs (bodyOf st) (newEnv (scopeOf st) L mainGlobals cells (q++ ".<locals>.") (some a) (.ref c) none builtinsNs)) (RetQ Q) g')
  (hco:autoParam ((scopeOf st).isCoroutine=false) Z5) (hgen:autoParam ((scopeOf st).isGenerator=false) Z5) (hk:autoParam ((scopeOf st).kind=.function) Z5) :
  gcc K A (.call (.ref a) ⟨vals,[]⟩) Q g:=fun s E ok=>by
 have hnf:∀x∈(scopeOf st).names,x.2≠NameKind.free:=fun x hx e=>by
  refine Zi (List.getElem?_of_mem hx) fun i hi=>?_
  obtain⟨y,k⟩:=x
  clear hx;cases e
  refine Z4 (Qt hsrc hi) fun s V h1=>?_
  clear hi;cases s<;>simp[srcOk1] at h1
 exact YX (fd:=topFd st q c [] dv pm ct) (σ:=srcSt [] src) r (hf.at ok) rfl hbind hn (J7 hsrc) (Jh hsrc hg) (ClosOk.nil hnf) hb (fun A' L cells cs g' hr V V V F=>h A' L cells cs g' hr F) rfl rfl hco hgen hk s E ok
theorem Zh{st:Stmt}
  (hf:FnB K.B a (topFd st q c [] dv pm ct))(r:Room A (n+2))(hbind:BindTo K (topFd st q c [] dv pm ct) ⟨vals,[]⟩ binds g)
  (hn:NamesOk (scopeOf st).names)(hsrc:srcOk [] (scopeOf st).names src=true)(hg:GlobsAre K.B (scopeOf st).names src)(hb:BindOk (scopeOf st).names fn g.im binds bi)
  (h:∀A' L cells cs g',Room A' n→Frm K g S' fn cs (newEnv (scopeOf st) L mainGlobals cells (q++ ".<locals>.") (some a) (.ref c) none builtinsNs) (scopeOf st).names (bindSt (srcSt [] src) bi) [] g'→
   gwp K A' (execs (bodyOf st) (newEnv (scopeOf st) L mainGlobals cells (q++ ".<locals>.") (some a) (.ref c) none builtinsNs)) (RetQ Q) g')
  (hco:autoParam ((scopeOf st).isCoroutine=false) Z5) (hgen:autoParam ((scopeOf st).isGenerator=false) Z5) (hk:autoParam ((scopeOf st).kind=.function) Z5) :
  gwp K A (call (.ref a) vals) Q g:=JC (Z16 hf r hbind hn hsrc hg hb h hco hgen hk)
theorem Ze(h:bindArgs fd ⟨vals,[]⟩=pure binds):BindTo K fd ⟨vals,[]⟩ binds g:=Zd8 h
end
section
open PySem PySem.Spec PySem.Calls PyProof.Rows PySem.W
variable{K:Wd}{B:Base}{α β:Type}{A:Around}{g:Gh}{n:Nat}{env:Env}
variable{b:Gh}{S':List Addr}{fn:List Nat}{cs:List Addr}{nm:List (Str×NameKind)}{σ σ':List (Option D)}{own:List (Addr×MO)}
theorem Z7J(h:Pe K n g t (.raw (.int i k))):Pe K n g t (.int i):=h.mono fun g₂ v V p=>by rw[Zk p];exact Zp
set_option genSizeOf false in
inductive SI where
 |no
 |glob (j:Nat)
 |outer (j:Nat)
noncomputable def mkSrc(gt:List (Str×Value)):SI→Src
 |.no=>.no
 |.glob j=>.glob ((gt[j]?.map (·.2)).getD .none)
 |.outer j=>.outer j
noncomputable def mkSrcs(gt:List (Str×Value))(l:List SI):List Src:=l.map (mkSrc gt)
noncomputable def globIdx(gt:List Str)(names:List (Str×NameKind))(l:List SI):Bool:=(List.range names.length).all fun i=>match names[i]?,l[i]? with
 |some (x,_),some (.glob j)=>gt[j]? == some x
 |_,_=>true
noncomputable def GtOk(B:Base)(gt:List (Str×Value)):Prop:=∀(j:Nat) (x:Str) (v:Value),gt[j]? = some (x,v)→GlobIs B x v
theorem Z3(h:GtOk B gt)(hc:globIdx (gt.map (·.1)) names l=true):GlobsAre B names (mkSrcs gt l):=fun i x v hi hs=>by
 unfold globIdx at hc
 simp only[List.all_eq_true,List.mem_range] at hc
 have hlt:=(List.getElem?_eq_some_iff.mp hi).1
 have:=hc i hlt
 unfold mkSrcs at hs
 rw[List.getElem?_map] at hs
 clear hlt hc;cases e:l[i]? with
 |none=>rw[e] at hs;cases hs
 |some s=>
  rw[e] at hs
  cases s with
  |no=>simp[mkSrc] at hs
  |outer j=>simp[mkSrc] at hs
  |glob j=>
   rw[hi,e] at this
   simp only[List.getElem?_map,beq_iff_eq,Option.map_eq_some_iff] at this
   refine Z4 this ?_
   clear this e hi;rintro p hp rfl
   simp[mkSrc,hp] at hs
   subst hs
   exact h j p.1 p.2 (by rw[hp])
theorem pn(F:Frm K b S' fn cs env nm σ own g)(i:Nat)(h:autoParam (nm[i]? = some (x,k)) Z5)(hd:autoParam (σ[i]? = some (some d)) Z5)(hk:autoParam ((k==NameKind.globalExplicit)=false) Z5):Pe K n g (eval (.Name x pos) env) d:=Zae F h hd hk
theorem Z0B(r:Room A n)(hf:Pe K n g (eval func env) (.raw (.ref a)))(hfn:FnAt g a fd)(ha:Pes K n g args env pos ds)
  (h:∀vs g',Le g g'→Z7 g'.im ds vs→gwp K A (call (.ref a) vs) Q g')
  (hp:autoParam ((backTo pos (starEach args env)).any (·.1)=false) Z5)
  (he:autoParam (eval (.Call func args [] pos) env=(do callWith pos (←eval func env) [] (backTo pos (starEach args env)) (backToKw pos (keywordEach [] env)))) Z5):gwp K A (eval (.Call func args [] pos) env) Q g:=by
 refine Z4 hfn.obj fun o h1 h2=>?_
 exact ZK (he:=he) (hf.use r fun f' g₂ l₂ p=>by
  have:=Zk p;subst this
  exact ZI (h1.le l₂) h2 (Zc hp ((ha.le l₂).use r fun vs g₃ l₃ rs=>⟨h1.le (l₂.trans l₃),h vs g₃ (l₂.trans l₃) rs⟩)))
theorem Z5Y(h:gwp K A (eval value env) (fun v g₁=>gwp K A (eval o env) (fun ov g₂=>gwp K A (eval i env) (fun iv g₃=>gwp K A (setItem ov iv v) (fun V g₄=>Q .next g₄) g₃) g₂) g₁) g)
  (hs:autoParam (swapsWith value (some (.Subscript o i pos')) pos.line env=pure false) Z5):gwp K A (exec (.Assign [.Subscript o i pos'] value pos) env) Q g:=
 fun s E ok=>wpAny_Assign_Subscript (Zn (h s E ok) (fun v s₁ V ok₁ h₁=>Zn (h₁ s₁ E ok₁) (fun v s₁ V ok₁ h₁=>Zn (h₁ s₁ E ok₁) (fun v s₁ V ok₁ h₁=>h₁ s₁ E ok₁)))) hs
theorem ClosOk.up(h:ClosOk nm cl σ g)(l:LeX W g g')(hw:∀a∈W,g.mu a=none∨∀o w,g.mu a=some o→o.data≠.cell w)(hh:∀p∈cl,∃o,g'.has p.2 o):ClosOk nm cl σ g' where
 free:=fun i x hi=>by
  refine Jk (h.free i x hi) fun c o w h1 h2 h3 h4=>?_
  refine⟨c,o,w,h1,h2.imp (l.im _ _) (fun z=>l.mu _ _ (fun hm=>?_) z),h3,fun d hd=>Z4 (h4 d hd) fun v a1 a2=>⟨v,a1,a2.mono l.im⟩⟩
  rcases hw c hm with hw | hw
  ·cases((hw).symm.trans z)
  ·exact hw o w z h3
 has:=hh
 apart:=h.apart
theorem ClosOk.le(h:ClosOk nm cl σ g)(l:Le g g'):ClosOk nm cl σ g':=h.up l (by exact ZZ) fun p hp=>Zi (h.has p hp) fun o ho=>⟨o,ho.le l⟩
theorem FnAt.up(h:FnAt g a fd)(l:LeX W g g')(hi:∀b∈W,b≠a∧∀o,g.mu b=some o→∀vs,o.data≠.fields vs):FnAt g' a fd:=by
 refine Z4 h.obj fun o h1 h2=>?_
 refine Z6Y h.code fun c oc vs tq c1 c2 c3 c4=>?_
 exact⟨⟨o,h1.imp (l.im _ _) (fun z=>l.mu _ _ (fun hm=>(hi a hm).1 rfl) z),h2⟩,⟨c,oc,vs,tq,c1,c2.imp (l.im _ _) (fun z=>l.mu _ _ (fun hm=>(hi c hm).2 oc z vs c3) z),c3,c4⟩⟩
noncomputable def putD(ds:List D)(L:Nat)(vs:List D):List D:=ds.take L++vs++ds.drop (L+vs.length)
theorem Z8R(h:L+v.length≤ds.length):putD (putD ds L v) (L+v.length) w=putD ds L (v++w):=by
 unfold putD
 have h1:(ds.take L).length=L:=by rw[List.length_take];exact Nat.min_eq_left (Nat.le_trans (Nat.le_add_right _ _) h)
 have h2:(ds.take L++v).length=L+v.length:=by rw[List.length_append,h1]
 rw[List.take_append_of_le_length (by rw[h2];exact Nat.le_refl _),List.take_of_length_le (by rw[h2];exact Nat.le_refl _),List.drop_append,h2,List.drop_eq_nil_of_le (by rw[h2];exact Nat.le_add_right _ _),List.nil_append,List.drop_drop,List.append_assoc (ds.take L),List.length_append]
 congr 2
 rw[Nat.add_sub_cancel_left,Nat.add_assoc]
theorem Z8S(h:L<ds.length):putD ds L [v]=ds.set L v:=by
 unfold putD
 rw[List.set_eq_take_append_cons_drop,if_pos h]
 simp
theorem Z8T(h:v.length=ds.length):putD ds 0 v=v:=by
 unfold putD;rw[h];simp
theorem Z4I(h:L+v.length≤ds.length):(putD ds L v).length=ds.length:=by
 rw[putD,List.length_append,List.length_append,List.length_take,List.length_drop,Nat.min_eq_left (Nat.le_trans (Nat.le_add_right _ _) h),Nat.add_sub_cancel' h]
theorem Z7.setA{its:Array Value}(h:Z7 im ds its.toList)(k:Nat)(hd:Zu im d v):Z7 im (ds.set k d) (its.setIfInBounds k v).toList:=by
 rw[Array.toList_setIfInBounds];exact h.set k hd
open PySem PySem.Spec PySem.Calls PyProof.Rows PySem.W
variable{K:Wd}{B:Base}{α β:Type}{A:Around}{g:Gh}{n:Nat}{env:Env}
variable{b:Gh}{S':List Addr}{fn:List Nat}{cs:List Addr}{nm:List (Str×NameKind)}{σ σ':List (Option D)}{own:List (Addr×MO)}
theorem Frm.adopt'(F:Frm K b S' fn cs env nm σ own g)(h:Holds ms g)(hk:(ms.map (·.1)).Nodup)(hn:∀a∈ms.map (·.1),a∉env.locals::cs++own.map (·.1))(hb:∀a∈ms.map (·.1),a∈S'∨b.mu a=none):Frm K b S' fn cs env nm σ (ms++own) g:=
 {F with
  apart:=by
   have hap:=F.apart
   rw[List.map_append]
   rw[List.nodup_append] at hap ⊢
   refine⟨hap.1,List.nodup_append.mpr ⟨hk,hap.2.1,fun x hx y hy=>?_⟩,fun x hx y hy=>?_⟩
   ·rintro rfl;exact hn x hx (List.mem_append.mpr (.inr hy))
   ·rcases List.mem_append.mp hy with hy | hy
    ·rintro rfl;exact hn x hy (List.mem_append.mpr (.inl hx))
    ·exact hap.2.2 x hx y hy
  own:=fun p hp=>by
   rcases List.mem_append.mp hp with hp | hp
   ·refine Z4 (h p hp) fun o h1 h2=>?_
    exact⟨o,h1,h2,hb _ (List.mem_map_of_mem (f:=(·.1)) hp)⟩
   ·exact F.own p hp}
theorem Frm.own1(F:Frm K b S' fn cs env nm σ ((a,m)::own) g):∃o,g.mu a=some o∧m.P g.im o:=Zm (F.own (a,m) (by exact .head _)) fun o h1 h2 V=>⟨o,h1,h2⟩
theorem Frm.adv1(F:Frm K b S' fn cs env nm σ ((a,m)::own) g)(l:LeX [a] g g')(h:∃o,g'.mu a=some o∧m'.P g'.im o)(hc:∀o w,m.P g.im o→o.data≠.cell w):Frm K b S' fn cs env nm σ ((a,m')::own) g':=
 Frm.advance (ms:=[(a,m)]) (ms':=[(a,m')]) F l rfl (Zr (h)) (Zr (hc))
theorem ZcN(o:Obj)(w:Option Value)(h:(MO.list ds).P im o):o.data≠.cell w:=by
 obtain⟨its,m,rfl,V⟩:=h;intro z;cases z
theorem Frm.setList(F:Frm K b S' fn cs env nm σ ((a,MO.list ds)::own) g)(h:Z7 g.im ds' its'.toList):Frm K b S' fn cs env nm σ ((a,MO.list ds')::own) (g.setMu a (sq "list" its' m')):=
 F.adv1 LeX.setMu ⟨_,ZcI,its',m',rfl,h⟩ ZcN
theorem Frm.fix1(F:Frm K b [] fn cs env nm σ ((a,MO.list ds)::own) g)(hi:g.im a=none)(h:g.mu a=some (sq "list" its m)) :
  Frm K b [] fn cs env nm σ own (g.fix a (sq "list" its m))∧Zu (g.fix a (sq "list" its m)).im (.lst ds) (.ref a):=by
 obtain⟨o,e,its',m',e2,hr⟩:=F.own1
 cases((h).symm.trans e);cases e2
 refine⟨Frm.lose (ms:=[(a,MO.list ds)]) F (LeX.fix hi) (fun p hp o w=>by simp at hp;subst hp;exact ZcN o w),Zj.mpr ⟨a,its,m,rfl,ZcO,hr.mono (LeX.fix hi).im⟩⟩
theorem Qa(F:Frm K b [] fn cs env nm σ ((a,MO.list ds)::own) g)(k:∀g',LeX [a] g g'→Frm K b [] fn cs env nm σ own g'→Zu g'.im (.lst ds) (.ref a)→gwp K A t Q g'):gwp K A t Q g:=Qn fun z₀=>Zi z₀ fun s ok=>by
 obtain⟨o,e,its,m,rfl,hr⟩:=F.own1
 have hi:g.im a=none:=by
  cases e':g.im a with
  |none=>rfl
  |some o=>exact(ok.dis _ _ _ e' e).elim
 refine ZG (F.fix1 hi e) fun F' hr'=>?_
 exact Z7g e (k _ (LeX.fix hi) F' hr')
theorem Z9z(d:D)(h:Pe K n g t d)(r:Room A n)(k:∀v g',Le g g'→Zu g'.im d v→Q v g'):gwp K A t Q g:=h.use r k
theorem FnAt.ne(h:FnAt g a fd)(ok:g.Ok B s)(hm:g.mu c=some o)(hd:∀fd,o.data≠.func fd):a≠c:=by
 rintro rfl
 refine Z4 h.obj fun o' h1 h2=>?_
 have:=h1.inj (.inr hm) ok
 clear hm;subst this
 exact hd _ h2
theorem CallSem.room(h:CallSem K n g f ds d)(hm:n≤m):CallSem K m g f ds d:=fun g' l vs r=>(h g' l vs r).room hm
theorem CallSem.le(h:CallSem K n g f ds d)(l:Le g g'):CallSem K n g' f ds d:=fun g'' l' vs r=>h g'' (l.trans l') vs r
theorem Z0a(hf:Pe K n g (eval func env) (.raw (.ref a)))(hfn:FnAt g a fd)(ha:Pes K n g args env pos ds)(h:CallSem K n g (.ref a) ds d)
  (hp:autoParam ((backTo pos (starEach args env)).any (·.1)=false) Z5)
  (he:autoParam (eval (.Call func args [] pos) env=(do callWith pos (←eval func env) [] (backTo pos (starEach args env)) (backToKw pos (keywordEach [] env)))) Z5):Pe K n g (eval (.Call func args [] pos) env) d:=by
 refine Z4 hfn.obj fun o h1 h2=>?_
 exact Z93 hf h1 h2 ha h hp he
theorem ZJ(hf:Pe K n g (eval func env) (.raw (.ref a)))(hfn:FnB K.B a fd)(ha:Pes K n g args env pos ds)(h:CallSem K n g (.ref a) ds d)
  (hp:autoParam ((backTo pos (starEach args env)).any (·.1)=false) Z5)
  (he:autoParam (eval (.Call func args [] pos) env=(do callWith pos (←eval func env) [] (backTo pos (starEach args env)) (backToKw pos (keywordEach [] env)))) Z5):Pe K n g (eval (.Call func args [] pos) env) d:=fun A r g₁ l=>Qn fun⟨s,ok⟩=>
 Z0a (hf.le l) (hfn.at ok) (Pv.le ha l) (h.le l) hp he A r g₁ (LeX.refl _ _)
end
section
open PySem PySem.Spec PySem.Calls PyProof.Rows PySem.W
variable{K:Wd}{B:Base}{α β:Type}{A:Around}{g:Gh}{n:Nat}{env:Env}
variable{b:Gh}{S':List Addr}{fn:List Nat}{cs:List Addr}{nm:List (Str×NameKind)}{σ σ':List (Option D)}{own:List (Addr×MO)}
theorem Z1D(h:Pe K n g t (.raw v))(hr:Zu g.im d v):Pe K n g t d:=h.mono fun g₂ w l p=>by rw[Zk p];exact hr.le l
theorem QR{id:String}(r:Room A n)
  (ho:Pe K n g (eval o env) (.raw (.ref a)))(ha:g.mu a=some (sq "list" its m))(hargs:Pes K n g args env pos ds)(slot:Slot "list" name id)(hty:typeOf (.builtin id)=pure (.type "method_descriptor"))
  (h:∀vs g',Le g g'→Z7 g'.im ds vs→gwp K A (call (.builtin id) (.ref a::vs)) Q g')
  (hbase:autoParam (attributeBase o name env (eval o env)=eval o env) Z5)(hline:autoParam ((apos.endLine==pos.line)=true) Z5)
  (hfew:autoParam (((backTo pos (starEach args env)).all (fun x=>!x.1)&&(backToKw pos (keywordEach [] env)).all (fun x=>x.1.isSome)
   &&decide (args.length+([]:List Keyword).length+(if([]:List Keyword).isEmpty then 0 else 1)<30))=true) Z5)
  (hp:autoParam ((backTo pos (starEach args env)).any (·.1)=false) Z5):gwp K A (eval (.Call (.Attribute o name apos) args [] pos) env) Q g:=
 Z1U F.plainAttrs_list slot hty (ho.useR r fun g₂ l₂=>by
  exact⟨fun s ok=>⟨⟨_,ok.mu _ _ (l₂.at ha),rfl⟩,fun a' e=>by cases e;exact⟨_,ok.mu _ _ (l₂.at ha),rfl⟩⟩,(hargs.le l₂).use r fun vs g₃ l₃ rs=>h vs g₃ (l₂.trans l₃) rs⟩) hbase hline hfew hp
theorem Ys(H:Frm K b S' fn cs env nm σ ((a,MO.list ds)::own) g)(r:Room A n)(ho:Pe K n g (eval o env) (.raw (.ref a)))(he:Pe K n g (eval e env) d)
  (hsz:ds.length≤sizeLine)(k:∀g',LeX [a] g g'→Frm K b S' fn cs env nm σ ((a,MO.list (ds++[d]))::own) g'→gwp K A (execs rest env) Q g')
  (hst:autoParam (starEach [e] env=[(false,eval e env)]) Z5)
  (hbase:autoParam (attributeBase o "append" env (eval o env)=eval o env) Z5)(hline:autoParam ((apos.endLine==pos.line)=true) Z5)
  (hfew:autoParam (((backTo pos (starEach [e] env)).all (fun x=>!x.1)&&(backToKw pos (keywordEach [] env)).all (fun x=>x.1.isSome)
   &&decide ([e].length+([]:List Keyword).length+(if([]:List Keyword).isEmpty then 0 else 1)<30))=true) Z5)
  (hp:autoParam ((backTo pos (starEach [e] env)).any (·.1)=false) Z5):gwp K A (execs (.Expr (.Call (.Attribute o "append" apos) [e] [] pos) spos::rest) env) Q g:=by
 obtain⟨ob,e1,its,m,rfl,hr⟩:=H.own1
 have hsize:its.size=ds.length:=by rw[←Array.length_toList,hr.length]
 refine Zf (JF (QR r ho e1 (Z1 he Z2 hst) slot_list_append F.type_list_append (fun vs g' l rs=>?_) hbase hline hfew hp) H.inter)
 refine Z4 (Jo rs) ?_
 clear rs hp hfew hline hbase hst he ho;rintro v rfl rv
 refine YV (l.at e1) (by rw[hsize];exact hsz) fun m'=>⟨(fun a z=>by cases z),k _ ((LeX.of l).trans LeX.setMu) ?_⟩
 exact(H.up l).setList (by rw[Array.toList_push];exact Z7.append (hr.le l) (Z7.cons rv Z7.nil))
theorem Z6x(H:Frm K b S' fn cs env nm σ ((a,MO.list ds)::own) g)(r:Room A n)(ho:Pe K n g (eval o env) (.raw (.ref a)))
  (hsz:ds.length≤sizeLine)(k:∀g',LeX [a] g g'→Frm K b S' fn cs env nm σ ((a,MO.list ds.reverse)::own) g'→gwp K A (execs rest env) Q g')
  (hbase:autoParam (attributeBase o "reverse" env (eval o env)=eval o env) Z5)(hline:autoParam ((apos.endLine==pos.line)=true) Z5)
  (hfew:autoParam (((backTo pos (starEach [] env)).all (fun x=>!x.1)&&(backToKw pos (keywordEach [] env)).all (fun x=>x.1.isSome)
   &&decide (([]:List Expr).length+([]:List Keyword).length+(if([]:List Keyword).isEmpty then 0 else 1)<30))=true) Z5)
  (hp:autoParam ((backTo pos (starEach [] env)).any (·.1)=false) Z5):gwp K A (execs (.Expr (.Call (.Attribute o "reverse" apos) [] [] pos) spos::rest) env) Q g:=by
 obtain⟨ob,e1,its,m,rfl,hr⟩:=H.own1
 have hsize:its.size=ds.length:=by rw[←Array.length_toList,hr.length]
 refine Zf (JF (QR r ho e1 Z2 F.slot_list_reverse F.type_list_reverse (fun vs g' l rs=>?_) hbase hline hfew hp) H.inter)
 replace rs:=ZV rs;subst rs
 refine Z59 (l.at e1) (by rw[hsize];exact hsz) fun m'=>⟨(fun a z=>by cases z),k _ ((LeX.of l).trans LeX.setMu) ?_⟩
 exact(H.up l).setList (by rw[Array.toList_reverse];exact(hr.le l).reverse)
theorem Z6y(H:Frm K b S' fn cs env nm σ own g)(r:Room A n)(h:nm[i]? = some (x,NameKind.local))(hs:Pes K n g es env pos ds)(hsz:ds.length≤sizeLine)
  (k:∀a g',LeX [env.locals] g g'→g.mu a=none→Frm K b S' fn cs env nm (σ.set i (some (.raw (.ref a)))) ((a,MO.list ds)::own) g'→gwp K A (execs rest env) Q g')
  (hsw:autoParam (swapsWith (.List es pos) (some (.Name x pos')) spos.line env=pure false) Z5):gwp K A (execs (.Assign [.Name x pos'] (.List es pos) spos::rest) env) Q g:=by
 refine Zf (J3 (Jx hs r hsz fun a g₂ its l h1 h2 hr=>?_) hsw)
 have hba:b.mu a=none∨a∈S':=by
  by_cases hS:a∈S'
  ·exact .inr hS
  ·refine .inl ?_
   cases e:b.mu a with
   |none=>rfl
   |some o=>have:=(H.up l).le.mu a o hS e;cases((h2).symm.trans this)
 have H₂:Frm K b S' fn cs env nm σ ((a,MO.list ds)::own) (g₂.setMu a (sq "list" its 0)):=Frm.adopt (ms:=[(a,MO.list ds)]) ((H.up l).up (ZcL h2)) (H.up l) (Zr ⟨_,ZcI,its,0,rfl,hr⟩) (by simp) (by simp[h2]) (by simpa using hba.symm)
 exact H₂.storeLocal h (d:=.raw (.ref a)) Zl fun g₃ l₃ H₃=>k a g₃ (((LeX.of (l.trans (ZcL h2)))).trans l₃) (l.nomu h2) H₃
theorem Yr(H:Frm K b S' fn cs env nm σ own g)(r:Room A n)(hv:Pe K n g (eval value env) (.tup [d₁,d₂]))(ht:Tgt K nm fn (.Tuple [e₁,e₂] k tpos) σ (.tup [d₁,d₂]) σ₁)
  (kk:∀g',LeX (env.locals::cs) g g'→Frm K b S' fn cs env nm σ₁ own g'→gwp K A (execs rest env) Q g')
  (hs:autoParam (swapsWithSole [.Tuple [e₁,e₂] k tpos] value pos.line env=pure false) Z5)(hw:autoParam (swappedStores [.Tuple [e₁,e₂] k tpos] value env=pure none) Z5):gwp K A (execs (.Assign [.Tuple [e₁,e₂] k tpos] value pos::rest) env) Q g:=
 Zf (Z1q (hv.use r fun v g₁ l p=>Zg (ht.set r.1 (H.up l) p) fun V g₂ l₂ H₂=>kk g₂ ((LeX.of l).trans l₂) H₂) hs hw)
noncomputable def leSt:List (Option D)→List (Option D)→Prop
 |[],_=>True
 |none::σ₀,_::σ₁=>leSt σ₀ σ₁
 |some d::σ₀,o::σ₁=>o=some d∧leSt σ₀ σ₁
 |none::σ₀,[]=>leSt σ₀ []
 |some _::_,[]=>False
theorem Z1h:∀{σ₀ σ₁:List (Option D)},leSt σ₀ σ₁→backOk σ₀ σ₁
 |[],_,_,i,d,e=>by simp at e
 |none::σ₀,o::σ₁,h,0,d,e=>by simp at e
 |none::σ₀,o::σ₁,h,i+1,d,e=>by simpa using Z1h (σ₀:=σ₀) (σ₁:=σ₁) h i d (by simpa using e)
 |some d'::σ₀,o::σ₁,h,0,d,e=>by simp at e;subst e;simp[h.1]
 |some d'::σ₀,o::σ₁,h,i+1,d,e=>by simpa using Z1h (σ₀:=σ₀) (σ₁:=σ₁) h.2 i d (by simpa using e)
 |none::σ₀,[],h,0,d,e=>by simp at e
 |none::σ₀,[],h,i+1,d,e=>by have:=Z1h (σ₀:=σ₀) (σ₁:=[]) h i d (by simpa using e);simp at this
 |some _::_,[],h,_,_,_=>h.elim
theorem Frm.lessL(F:Frm K b S' fn cs env nm σ own g)(h:leSt σ' σ):Frm K b S' fn cs env nm σ' own g:=F.less (Z1h h)
theorem Z9V(i:Nat):backOk (σ.set i none) σ:=fun j d e=>by
 rw[List.getElem?_set] at e
 split at e
 ·split at e<;>cases e
 ·exact e
theorem Z37:∀(is:List Nat) (σ:List (Option D)),backOk (is.foldl (fun s i=>s.set i none) σ) σ
 |[],_=>fun V V e=>e
 |i::is,σ=>fun j d e=>Z9V i j d (Z37 is (σ.set i none) j d e)
theorem Frm.lessN{is:List Nat}(F:Frm K b S' fn cs env nm σ own g)(h:autoParam (σ'=is.foldl (fun s i=>s.set i none) σ) Z5):Frm K b S' fn cs env nm σ' own g:=h▸F.less (Z37 is σ)
theorem Z0d{X:Type}(F₀:Frm K b S' fn cs env nm σ own g)(σf:List D→X→List (Option D))(of:List D→X→List (Addr×MO))(P:List D→X→Prop)(x₀:X)
  (r:Room A n)(hit:PItM K n g iter env ds)(F:Frm K b S' fn cs env nm (σf ds x₀) (of ds x₀) g)(hP:P ds x₀)
  (turn:∀d ds x ms g v,P (d::ds) x→Frm K b S' fn cs env nm (σf (d::ds) x) (ms++of (d::ds) x) g→Zu g.im d v→
   gwp K A (assign target env v) (fun V g₁=>gwp K A (execs body env) (fun f g₂=>match f with
    |.next | .cont=>∃x',P ds x'∧Frm K b S' fn cs env nm (σf ds x') (ms++of ds x') g₂
    |.brk=>False
    |.ret v=>Q (.ret v) g₂) g₁) g)
  (fin:∀x g,P [] x→Frm K b S' fn cs env nm (σf [] x) (of [] x) g→gwp K A (execs rest env) Q g)
  (hs:autoParam (foldedSetIterable iter env=pure) Z5):gwp K A (execs (.For target iter body [] pos::rest) env) Q g:=
 ZbL σf of P r hit F hP turn fin hs
theorem Zd0(F:Frm K b S' fn cs env nm σ (l₁++p::l₂) g):Frm K b S' fn cs env nm σ (p::(l₁++l₂)) g:=
 {F with
  apart:=by
   have:=F.apart
   refine(List.Perm.nodup_iff ?_).mp this
   refine List.Perm.append_left _ ?_
   exact(List.perm_middle (a:=p) (l₁:=l₁) (l₂:=l₂)).map _
  own:=fun q hq=>F.own q (by
   rcases List.mem_cons.mp hq with rfl | hq
   ·simp
   ·rcases List.mem_append.mp hq with hq | hq<;>simp[hq])}
theorem ZcY(F:Frm K b S' fn cs env nm σ (p::(l₁++l₂)) g):Frm K b S' fn cs env nm σ (l₁++p::l₂) g:=
 {F with
  apart:=by
   have:=F.apart
   refine(List.Perm.nodup_iff ?_).mpr this
   refine List.Perm.append_left _ ?_
   exact(List.perm_middle (a:=p) (l₁:=l₁) (l₂:=l₂)).map _
  own:=fun q hq=>F.own q (by
   rcases List.mem_append.mp hq with hq | hq
   ·simp[hq]
   ·rcases List.mem_cons.mp hq with rfl | hq
    ·simp
    ·simp[hq])}
noncomputable def NsObj1(o:Obj)(f:Str→Option Value):Prop:=∃es ep,o.data=.dict es ep∧StrKeys es∧UniqKeys es∧∀x,nsFind es x=f x
theorem NsObj1.ns1(x:NsObj1 o f){h:Heap}(e:h.get? a=some o):h.Ns1 a f:=QD x fun es ep r=>⟨o,es,ep,e,r⟩
theorem NsObj1.nocell(x:NsObj1 o f)(w:Option Value):o.data≠.cell w:=ZP x fun es ep e V=>by rw[e];intro z;cases z
structure ClsB(B:Base)(C N:Addr)(bm:List Value)(newId:String)(mN:Str→Option Value):Prop where
 cls:∃nm q bs sn sub col dd k0 k1 k2 k3 k5,B.im C=some (excClassObj nm q C N bs bm true sn sub false col dd k0 k1 k2 k3 k5 newId)
 ns:∃oN,B.im N=some oN∧NsObj oN mN
theorem ClsB.elim{G:Prop}(hc:ClsB B C N bm newId mN)(ok:g.Ok B s)(k:∀nm q bs sn sub col dd k0 k1 k2 k3 k5,s.heap.get? C=some (excClassObj nm q C N bs bm true sn sub false col dd k0 k1 k2 k3 k5 newId)→s.heap.Ns N mN→G):G:=
 Z4 hc.ns fun V h1 h2=>ZaT hc.cls fun nm q bs sn sub col dd k0 k1 k2 k3 k5 h=>k nm q bs sn sub col dd k0 k1 k2 k3 k5 (ok.im _ _ (ok.base _ _ h)) (h2.ns (ok.im _ _ (ok.base _ _ h1)))
noncomputable def MO.inst(L:List (Str×D)):MO:=⟨fun im o=>∃m,NsObj1 o m∧(∀x d,(x,d)∈L→∃v,m x=some v∧Zu im d v)∧∀x,x∉L.map (·.1)→m x=none,
 fun _ _ _ h ⟨m,h1,h2,h3⟩=>⟨m,h1,fun x d hx=>let ⟨v,a,r⟩:=h2 x d hx;⟨v,a,r.mono h⟩,h3⟩⟩
theorem ZcP(o:Obj)(w:Option Value)(h:(MO.inst L).P im o):o.data≠.cell w:=Z4 h fun m h1 V=>h1.nocell w
noncomputable abbrev instObj(C dx:Addr):Obj:={cls:=.ref C,dict:=some dx,data:=.plain}
theorem Gh.Ok.extSet(ok:g.Ok B s)(ha:g.mu a=some o)(hk:∀b o,b≠a→s.heap.get? b=some o→h'.get? b=some o)(hf:h'.get? a=some o'):(g.setMu a o').Ok B {s with heap:=h',toks:=tk}:=
 have l:=ok.lost (tk:=tk) ha hk
 ok.putMu hf (ok.noIm ha) (ok.new _ _ ha) hk l.size l.old rfl rfl
theorem Z6S{g:Array GenState}{os:OsState}{nm q:Str}{C N:Addr}{bs:List Value}{sn:List Str}{sub:List Value}{col:Option Bool}{dd:Option Addr}{k0 k1 k2 k3 k5:Option Value}
  {mN:Str→Option Value}{rest:List Value}{fI:Addr}{oI:Obj}{Q:Value→Shared→Prop}
  (hC:h.get? C=some (excClassObj nm q C N bs [.type "object"] true sn sub false col dd k0 k1 k2 k3 k5 "object.__new__"))(hn:h.Ns N mN)(hi:mN "__init__" = some (.ref fI))(hfI:h.get? fI=some oI)(hfc:oI.cls=.type "function")
  (hq:wpAny (model prog w) (A.under (.builtin "type.__call__" ⟨.ref C::rest,[]⟩)) (call (.ref fI) (.ref (h.objs.size+1)::rest)) (fun r s'=>r=.none∧Q (.ref (h.objs.size+1)) s') E ⟨(h.push {cls:=.type "dict",data:=.dict #[]}).push (instObj C h.objs.size),g,d,t,os⟩) :
  wpAny (model prog w) A (call (.ref C) rest) Q E ⟨h,g,d,t,os⟩:=by
 have f1:=tc_lookup
 have f2:=tc_bind (.ref C)
 have hT:(⟨h,g,d,t,os⟩:Shared).TypeIs (.ref C) "type":=⟨_,hC,rfl⟩
 have hlk:typeLookup (.type "object") "__init__" = pure (some (.builtin "object.__init__")):=by rw[typeLookup_type,builtinLookup_eq_fast];kernel_rfl
 refine wpAny_call (codeAny_of_tree ?_)
 show wpAny _ _ (callAny (.ref C) _) _ _ _
 repeat (any_goals (first | assumption | with_reducible refine wpAny_loadPart_at hC ?_ | wp_step))
 refine⟨rfl,?_⟩
 refine codeAny_call_builtin_at (Code.quiet_builtin _ (by decide +kernel)) entry_typeCall (wpAny_check_type_call_sub hC ?_)
 repeat (first | with_reducible refine wpAny_loadPart_at hC ?_ | with_reducible refine wpAny_madeBy_exc hC ?_ | wp_step)
 refine codeAny_call_builtin_code (Code.quiet_builtin _ F.objNew.quiet) (wpAny_check_obj_new F.objNew hC ?_)
 refine codeAny_obj_new F.objNew hC hn hi ?_
 show wpAny _ _ _ _ _ _
 have k2':∀b o,h.get? b=some o→((h.push {cls:=.type "dict",data:=.dict #[]}).push (instObj C h.objs.size)).get? b=some o:=fun b o e=>Heap.get?_push_of_some _ (Heap.get?_push_of_some _ e)
 have hget:((h.push {cls:=.type "dict",data:=.dict #[]}).push (instObj C h.objs.size)).get? (h.objs.size+1)=some (instObj C h.objs.size):=by
  have:=Heap.get?_push_size (h.push {cls:=.type "dict",data:=.dict #[]}) (o:=instObj C h.objs.size) rfl
  rwa [Heap.size_push] at this
 have hcC:(Value.ref C::[Value.type "object"]).contains (.ref C)=true:=by simp
 repeat (first | with_reducible refine wpAny_loadPart_at hget ?_ | (with_reducible refine wpAny_isSubtype_exc (k2' _ _ hC) ?_;rw[hcC]) | wp_step)
 show wpAny _ _ (typeLookup (.ref C) _) _ _ _
 refine wpAny_typeLookup_exc (k2' _ _ hC) (hn.keeps k2') F.mro_object hlk ?_
 rw[hi]
 refine wpAny_holding (wpAny_bind ?_)
 refine wpAny_bind (wpAny_typeOf (T:= "function") ⟨_,k2' _ _ hfI,hfc⟩ ?_)
 rw[if_pos (by decide)]
 refine wpAny_pure (wpAny_bind (wpAny_mono hq (fun r s' hr=>?_) fun V V x=>x))
 refine ZG hr ?_
 clear hr hcC hget k2' hlk hT f2 f1 hq hfI hi hC;rintro rfl hQ
 wp_walk
 exact hQ
theorem Z0f(hplain:args.any (·.1)=false)
  (h:gwp K A (evalArgs f true args []) (fun a g₁=>gwp K A (keeperOf f) (fun k g₂=>(k=.frame∨k=.machine∨k=.boundFrame)∧gwp K A (call f (first++a.pos) a.kw) Q g₂) g₁) g):gwp K A (callWith pos f first args []) Q g:=by
 refine Z0 (Zs (Za h fun a g₁ h₁=>Z0 (ZF ?_)))
 simp only[hplain,List.any_nil,Bool.or_false]
 refine Z0 (Zg h₁ fun k g₂ hk h₂=>?_)
 have tail:∀{t:Sem Value},gwp K A t Q g₂→gwp K A (t>>=fun r=>holding [r] point>>=fun V=>pure r) Q g₂:=fun ht=>Z0 (Za ht fun r g₃ hr=>Z0 (Zs (Yt (Z6 hr))))
 have marked (mk:Value):gwp K A (callMarked mk f (first++a.pos) a.kw) Q g₂:=by unfold callMarked;exact Z9B h₂
 rcases hk with rfl | rfl | rfl<;>dsimp only<;>first | exact tail h₂ | (split<;>first | exact tail h₂ | exact tail (marked _))
theorem Jt
  (h:gwp K A (attributeBase o name env (eval o env)) (fun ov g₁=>∀pl,gwp K A (getMethod ov name pl) (fun fx g₂=>gwp K A (callWith pos fx.1 fx.2 (backTo pos (starEach args env)) []) Q g₂) g₁) g)
  (hline:autoParam ((apos.endLine==pos.line)=true) Z5)
  (hfew:autoParam (((backTo pos (starEach args env)).all (fun x=>!x.1)&&(backToKw pos (keywordEach [] env)).all (fun x=>x.1.isSome)
   &&decide (args.length+([]:List Keyword).length+(if([]:List Keyword).isEmpty then 0 else 1)<30))=true) Z5):gwp K A (eval (.Call (.Attribute o name apos) args [] pos) env) Q g:=by
 rw[arm_eval_Call]
 refine Z0 (Za h fun ov g₁ h₁=>Z0 (ZF ?_))
 have hform:methodCallForm (args.length+([]:List Keyword).length) (backTo pos (starEach args env)) (backToKw pos (keywordEach [] env))=true:=hfew
 have hpos:methodCallPos true o env apos pos=pure pos:=by unfold methodCallPos;simp[hline]
 unfold methodCall
 rw[hform]
 refine Z0 (Zs (Za (h₁ _) fun fx g₂ h₂=>?_))
 exact Z0 (Qz hpos (Z6 h₂))
theorem YI(h:gwp K A (eval o env) (fun ov g₁=>gwp K A (getAttr ov attr true) Q g₁) g)(hbase:autoParam (attributeBase o attr env (eval o env)=eval o env) Z5):gwp K A (eval (.Attribute o attr pos) env) Q g:=by
 rw[arm_eval_Attribute,hbase]
 exact Z0 (Za h fun ov g₁ h₁=>Z0 (ZF (Z0 (Zs (Za h₁ fun r g₂ q=>Z0 (Z13 (Z6 q)))))))
theorem QE(h:gwp K A (eval value env) (fun v g₁=>gwp K A (eval o env) (fun ov g₂=>gwp K A (setAttr ov attr v) (fun V g₃=>Q .next g₃) g₂) g₁) g)
  (hs:autoParam (swapsWith value (some (.Attribute o attr pos')) pos.line env=pure false) Z5):gwp K A (exec (.Assign [.Attribute o attr pos'] value pos) env) Q g:=
 fun s E ok=>plainObj_wpAny_Assign_Attribute (Zn (h s E ok) (fun v s₁ V ok₁ h₁=>Zn (h₁ s₁ E ok₁) (fun v s₁ V ok₁ h₁=>h₁ s₁ E ok₁))) hs
theorem Z0p{m:Str→Option Value}{h:Heap}(hx:h.get? x=some ox)(hxc:ox.cls=.ref C)(hxd:ox.dict=some dx)(hnc:∀c,ox.data≠.cls c)(hne:dx≠x)(hd:h.get? dx=some od)(hm:NsObj1 od m):h.Inst x C m:=
 ⟨ox,hx,hxc,hnc,.inr ⟨dx,hxd,hne,hm.ns1 hd⟩⟩
theorem Z3O(h:Zu im d v)(hd:∀id,d≠.raw (.builtin id)):handedOut v=pure v:=by
 cases d with
 |none=>replace h:v=.none:=h;subst h;rfl
 |bool=>replace h:v=.bool _:=h;subst h;rfl
 |int=>obtain⟨t,rfl⟩:=Zo h;rfl
 |str=>obtain⟨t,rfl⟩:=Zz h;rfl
 |tup=>obtain⟨a,its,m,rfl,V⟩:=J1.mp h;rfl
 |lst=>obtain⟨a,its,m,rfl,V⟩:=Zj.mp h;rfl
 |raw v=>have:=Zk h;subst this;cases v<;>first | rfl | exact absurd rfl (hd _)
theorem Z14{L:List (Str×D)}{d:D}(hc:ClsB K.B C N [.type "object"] newId mN)(hng:mN "__getattribute__" = none)(hna:mN name=none)(hB:typeLookup (.type "object") name=pure none)
  (hx:g.mu x=some (instObj C dx))(hd:g.mu dx=some od)(hm:(MO.inst L).P g.im od)(hne:dx≠x)(hv:(name,d)∈L)(hb:∀id,d≠.raw (.builtin id))(q:∀v,Zu g.im d v→Q v g):gwp K A (getAttr (.ref x) name true) Q g:=fun s E ok=>by
 refine hc.elim ok ?_
 intro nm q' bs sn sub col dd k0 k1 k2 k3 k5 hC hNS
 refine Zm hm fun m m1 m2 m3=>?_
 refine Z4 (m2 name d hv) fun v hv1 hv2=>?_
 exact load_attr hC hNS hng hna hB (Z0p (ok.mu _ _ hx) rfl rfl (by intro c z;cases z) hne (ok.mu _ _ hd) m1) hv1 (Z3O hv2 hb) ⟨g,ok.tok _,q v hv2⟩
theorem YG{L:List (Str×D)}{fd:FuncData}(hc:ClsB K.B C N [.type "object"] newId mN)(hng:mN "__getattribute__" = none)(hnh:mN "__getattr__" = none)(hf:mN name=some (.ref f))(hfn:FnB K.B f fd)
  (hB:typeLookup (.type "object") name=pure y)(hx:g.mu x=some (instObj C dx))(hd:g.mu dx=some od)(hm:(MO.inst L).P g.im od)(hne:dx≠x)(hv:name∉L.map (·.1))(q:Q (.ref f,[.ref x]) g):gwp K A (getMethod (.ref x) name pl) Q g:=fun s E ok=>by
 refine hc.elim ok ?_
 intro nm q' bs sn sub col dd k0 k1 k2 k3 k5 hC hNS
 refine Zm hm fun m m1 m2 m3=>?_
 refine Zm hfn.obj fun of f1 f2 f3=>?_
 exact method_of hC hNS hng hnh hf (ok.im _ _ (ok.base _ _ f1)) f3 hB (Z0p (ok.mu _ _ hx) rfl rfl (by intro c z;cases z) hne (ok.mu _ _ hd) m1) (m3 _ hv) ⟨g,ok,q⟩
noncomputable def putN(L:List (Str×D))(x:Str)(d:D):List (Str×D):=(x,d)::L.filter (fun p=>p.1 !=x)
theorem Z9s{m:Str→Option Value}(m2:∀x d,(x,d)∈L→∃v,m x=some v∧Zu im d v)(m3:∀x,x∉L.map (·.1)→m x=none)(hr:Zu im d v)(ho:NsObj1 o' (fun y=>if y=name then some v else m y)):(MO.inst (putN L name d)).P im o':=by
 refine⟨_,ho,fun z dz hz=>(List.mem_cons.mp hz).elim (fun e=>?_) fun hz=>?_,fun z hz=>?_⟩
 ·exact⟨v,if_pos (Prod.mk.inj e).1,(Prod.mk.inj e).2▸hr⟩
 ·exact ZG (List.mem_filter.mp hz) fun hz1 hz2=>Z4 (m2 z dz hz1) fun u u1 u2=>⟨u,(if_neg (bne_iff_ne.mp hz2)).trans u1,u2⟩
 ·have hz:=fun e=>hz (List.mem_cons.mpr e)
  exact(if_neg fun e=>hz (.inl e)).trans (m3 z fun hm=>Z4 (List.mem_map.mp hm) fun p hp e=>hz (.inr (e▸List.mem_map_of_mem (List.mem_filter.mpr ⟨hp,bne_iff_ne.mpr fun e'=>hz (.inl (e.symm.trans e'))⟩))))
theorem YE{ox od:Obj}{L:List (Str×D)}{d:D}(SF:StoreFacts Bn bm sa owner)(hc:ClsB K.B C N bm newId mN)(hns:mN "__setattr__" = none)(hna:mN name=none)(hB:typeLookup (.type Bn) name=pure none)(hxC:K.B.h₀.objs.size>C)
  (hx:g.mu x=some ox)(hxc:ox.cls=.ref C)(hxd:ox.dict=some dx)(hnc:∀c,ox.data≠.cls c)(hd:g.mu dx=some od)(hm:(MO.inst L).P g.im od)(hne:dx≠x)(hr:Zu g.im d v)(hsz:L.length≤sizeLine)(q:∀o',(MO.inst (putN L name d)).P g.im o'→Q () (g.setMu dx o')):gwp K A (setAttr (.ref x) name v) Q g:=fun s E ok=>
 hc.elim ok fun V V V V V V V V V V V V hC hNS=>Zm hm fun m m1 m2 m3=>store_attr (ns:=L.map (·.1)) SF hC hNS hns hna hB (Nat.ne_of_gt (Nat.lt_of_lt_of_le hxC (ok.new _ _ hx))) (Z0p (ok.mu _ _ hx) hxc hxd hnc hne (ok.mu _ _ hd) m1)
  (fun h' tk' I' hk hsame=>ZcH (hsame _ (ok.mu _ _ hx)) fun o₁ e1 e2 e3 e4 e5=>by
   have ho₁:o₁=ox:=by
    have:=(e5 dx hxd).trans hxd.symm
    cases o₁;cases ox
    cases e2;cases e3;cases e4;cases this;rfl
   refine Z5L I' fun o₂ f1 f2 f3 f4=>?_
   rw[J0 f1 e1,ho₁,hxd] at f4
   refine f4.elim (fun z=>nomatch z.1) fun z=>Zm z fun dx' z1 z2 z3=>?_
   rw[←Option.some.inj z1] at z3
   refine Za3 z3 fun o' es ep f6 f7 f8 f9 f10=>⟨g.setMu dx o',ok.extSet (tk:=tk') hd (fun b o hb e=>(Classical.em (b=x)).elim (fun hbx=>?_) fun hbx=>hk b o hbx (fun o₀ dx' h1 h2=>?_) e) f6,q o' (Z9s m2 m3 hr ⟨es,ep,f7,f8,f9,f10⟩)⟩
   ·rw[hbx,ok.mu _ _ hx] at e
    rw[hbx,e1,ho₁];exact e
   ·rw[←J0 (ok.mu _ _ hx) h1,hxd] at h2
    exact Option.some.inj h2▸hb)
  (fun y hy=>Classical.byContradiction fun z=>hy (m3 y z)) (by rw[List.length_map];exact hsz)
theorem Ye(hc:ClsB K.B C N [.type "object"] newId mN)(hns:mN "__setattr__" = none)(hna:mN name=none)(hB:typeLookup (.type "object") name=pure none)(hxC:K.B.h₀.objs.size>C)
  (hx:g.mu x=some (instObj C dx))(hd:g.mu dx=some od)(hm:(MO.inst L).P g.im od)(hne:dx≠x)(hr:Zu g.im d v)(hsz:L.length≤sizeLine)(q:∀o',(MO.inst (putN L name d)).P g.im o'→Q () (g.setMu dx o')):gwp K A (setAttr (.ref x) name v) Q g:=
 YE F.store_object hc hns hna hB hxC hx rfl rfl (fun c z=>nomatch z) hd hm hne hr hsz q
theorem Room.under1(r:Room A (n+1))(h1:c.weight=1)(h2:c.cUnits≤8):Room (A.under c) n:=⟨r.1,by have:=r.2.1;show A.depth+c.weight+n<_;lia,by have:=r.2.2;show A.units+c.cUnits+8*n<_;lia⟩
theorem QX(C:Addr)(rest:List Value):(Code.builtin "type.__call__" ⟨.ref C::rest,[]⟩).weight=1:=by kernel_rfl
theorem QZ(C:Addr)(rest:List Value):(Code.builtin "type.__call__" ⟨.ref C::rest,[]⟩).cUnits≤8:=by
 have:(Code.builtin "type.__call__" ⟨.ref C::rest,[]⟩).cUnits=1:=by kernel_rfl
 exact Nat.succ_pos _
theorem Z5e(r:Room A (n+1))(hc:ClsB K.B C N [.type "object"] "object.__new__" mN)(hi:mN "__init__" = some (.ref fI))(hfn:FnB K.B fI fd)
  (h:∀A' x dx od g',Room A' n→Le g g'→g.mu x=none→g.mu dx=none→dx≠x→g'.mu x=some (instObj C dx)→g'.mu dx=some od→(MO.inst []).P g'.im od→gwp K A' (call (.ref fI) (.ref x::vals)) (fun v g''=>v=.none∧Q (.ref x) g'') g'):gwp K A (call (.ref C) vals) Q g:=fun s E ok=>by
 refine hc.elim ok ?_
 intro nm q' bs sn sub col dd k0 k1 k2 k3 k5 hC hNS
 refine Zm hfn.obj fun of f1 f2 f3=>?_
 obtain⟨hp,gs,dr,tk,os⟩:=s
 refine Z6S hC hNS hi (ok.im _ _ (ok.base _ _ f1)) f3 ?_
 have ok1:=ok.pushMu (o:=({cls:=.type "dict",data:=.dict #[]}:Obj)) rfl
 have ok2:=ok1.pushMu (o:=instObj C hp.objs.size) rfl
 have l1:Le g (g.setMu hp.objs.size {cls:=.type "dict",data:=.dict #[]}):=ZcL ok.fresh.2
 have l2:=ZcL (o:=instObj C hp.objs.size) ok1.fresh.2
 have hs:(hp.push ({cls:=.type "dict",data:=.dict #[]}:Obj)).objs.size=hp.objs.size+1:=Heap.size_push ..
 simp only[hs] at ok2 l2
 have hne:hp.objs.size≠hp.objs.size+1:=Nat.ne_of_lt (Nat.lt_succ_self _)
 refine wpAny_mono (h _ (hp.objs.size+1) hp.objs.size {cls:=.type "dict",data:=.dict #[]} _ (r.under1 (QX _ _) (QZ _ _)) (l1.trans l2) (l1.nomu (by have:=ok1.fresh.2;simp only[hs] at this;exact this)) ok.fresh.2 hne ZcI ((ZcK hne).trans ZcI) ⟨fun V=>none,⟨#[],0,rfl,fun e he=>by simp at he,?_,fun V=>rfl⟩,by simp,by simp⟩ _ E ok2) (fun v s' hh=>?_) fun V V z=>z
 ·have:=(Heap.Ns1.of_empty (h:=hp.push {cls:=.type "dict",data:=.dict #[]}) (a:=hp.objs.size) ⟨_,#[],_,Heap.get?_push_size _ rfl,rfl,fun e he=>by simp at he,fun V=>rfl⟩)
  refine Za3 this fun o es ep e1 e2 e3 e4 e5=>?_
  clear e5 this hne l2 ok2 hs l1 ok1 ok f1 hC h hi hc r;rw[Heap.get?_push_size _ rfl] at e1
  cases e1;cases e2;exact e4
 ·refine Zm hh ?_
  clear hh hne l2 ok2 hs l1 ok1 ok f1 hC h hi hc r;rintro g' ok' rfl hq
  exact⟨rfl,g',ok',hq⟩
end
section
open PySem PySem.Spec PySem.Calls PyProof.Rows PySem.W
open Builtin Builtin.ObjectAttr
namespace FA
theorem slot_setattr:Slot "function" "__setattr__" "object.__setattr__":=
 .of (owner:= "object") (n:= "__setattr__") (by rw[typeLookup_type,builtinLookup_eq_fast];kernel_rfl) (by decide +kernel) (by decide +kernel) (by decide +kernel)
  (by first | exact .inl (by decide +kernel) | exact .inr (by decide +kernel)) (by rw[isSubtype_type];kernel_rfl)
theorem lk_read:typeLookup (.type "function") "read" = pure none:=by rw[typeLookup_type,builtinLookup_eq_fast];kernel_rfl
theorem mro_fn:mroOf (.type "function")=pure [.type "function",.type "object"]:=by rw[mroOf_type];kernel_rfl
theorem args_sa(a b c:Value):argsOk "object.__setattr__" ⟨[a,b,c],[]⟩:=by unfold argsOk;kernel_rfl
theorem refuse_fn(self:Value):refuseLoop self "__setattr__" [.type "function",.type "object"]=pure ():=by kernel_rfl
end FA
open PySem PySem.Spec PySem.Calls PyProof.Rows PySem.W
open Builtin Builtin.ObjectAttr
noncomputable abbrev fnObjD(fd:FuncData)(dx:Addr):Obj:={cls:=.type "function",dict:=some dx,data:=.func fd}
section
variable{prog:Program}{w:World}{A:Around}{E:Value→Shared→Prop}{h:Heap}{g:Array GenState}{d:Drawn}{t:Nat}{os:OsState}
set_option maxHeartbeats 4000000 in
theorem Z25(hx:h.get? x=some (fnObj fd))
  (hq:∀h' o' tk',h'.get? x=some (fnObjD fd h.objs.size)→h'.get? h.objs.size=some o'→NsObj1 o' (fun y=>if y=Str.ofString "read" then some v else none)→(∀b o,b≠x→h.get? b=some o→h'.get? b=some o)→Q (.done (.ret .none)) ⟨h',g,d,tk',os⟩) :
  wpAny (model prog w) A (Builtin.«object.__setattr__» ⟨[.ref x,.str (Str.ofString "read") tk,v],[]⟩) Q E ⟨h,g,d,t,os⟩:=by
 have hT:(⟨h,g,d,t,os⟩:Shared).TypeIs (.ref x) "function":=⟨_,hx,rfl⟩
 have h1:=FA.mro_fn
 have h2:=FA.refuse_fn (.ref x)
 have h3:=FA.lk_read
 have hxs:x≠h.objs.size:=Nat.ne_of_lt (Heap.lt_size hx)
 have hx₁:(h.push {cls:=.type "dict",data:=.dict #[]}).get? x=some (fnObj fd):=Heap.get?_push_of_some _ hx
 have hgd:((h.push {cls:=.type "dict",data:=.dict #[]}).update x fun o=>{cls:=o.cls,dict:=some h.objs.size,data:=o.data,slots:=o.slots}).get? h.objs.size
     = some {cls:=.type "dict",data:=.dict #[]}:=
    (Heap.get?_update_ne _ _ _ _ hxs.symm).trans (Heap.get?_push_at rfl rfl)
 have hnd:((h.push {cls:=.type "dict",data:=.dict #[]}).update x fun o=>{cls:=o.cls,dict:=some h.objs.size,data:=o.data,slots:=o.slots}).Ns h.objs.size (fun V=>none):=
    ⟨_,#[],_,hgd,rfl,fun e he=>absurd he (by simp),fun V=>rfl⟩
 have hgx:((h.push {cls:=.type "dict",data:=.dict #[]}).update x fun o=>{cls:=o.cls,dict:=some h.objs.size,data:=o.data,slots:=o.slots}).get? x=some (fnObjD fd h.objs.size):=
  Heap.get?_update_self _ hx₁ rfl
 repeat (first | rw[refuse_eq] | (with_reducible refine wpAny_loadPart_at hx ?_) | (with_reducible refine wpAny_nsSet1 (Heap.Ns1.of_empty hnd) fun h' hn' hs=>?_) | wp_step)
 refine ZO (hn'.count (Within.cons (Str.ofString "read") v Within.nil)) fun oD esD epD hoD hdD hcD=>?_
 refine wpAny_loadPart hoD ?_
 have hp:oD.data.pastItsLine=none:=by rw[hdD];exact pastItsLine_dict (Nat.le_trans hcD (by rw[List.length_cons,List.length_nil,sizeLine_eq];lia))
 rw[hp]
 refine wpAny_pure (wpAny_pure ?_)
 refine Za3 hn' fun o' es ep e1 e2 e3 e4 e5=>?_
 refine hq h' o' _ ((hs.2 x hxs).trans hgx) e1 ⟨es,ep,e2,e3,e4,e5⟩ fun b o hb e=>?_
 exact(hs.2 b (Nat.ne_of_lt (Heap.lt_size e))).trans ((Heap.get?_update_ne _ _ _ _ hb).trans (Heap.get?_push_of_some _ e))
theorem Z6N(hx:h.get? x=some (fnObj fd))
  (hq:∀h' o' tk',h'.get? x=some (fnObjD fd h.objs.size)→h'.get? h.objs.size=some o'→NsObj1 o' (fun y=>if y=Str.ofString "read" then some v else none)→(∀b o,b≠x→h.get? b=some o→h'.get? b=some o)→Q () ⟨h',g,d,tk',os⟩) :
  wpAny (model prog w) A (setAttr (.ref x) (Str.ofString "read") v) Q E ⟨h,g,d,t,os⟩:=by
 have hT:∀t',(⟨h,g,d,t',os⟩:Shared).TypeIs (.ref x) "function":=fun t'=>⟨_,hx,rfl⟩
 refine wpAny_bind (wpAny_mkText ?_)
 refine wpAny_bind (wpAny_callSpecial?_slot (name:=Str.ofString "__setattr__") (hT _) FA.slot_setattr (wpAny_call_entry FA.slot_setattr (hT _) F.entry_object_sa ?_ (FA.args_sa _ _ _)))
 refine Z25 hx fun h' o' tk' h1 h2 h3 h4=>?_
 exact⟨_,rfl,wpAny_pure (hq h' o' tk' h1 h2 h3 h4)⟩
end
end
section
open PySem PySem.Spec PySem.Calls PyProof.Rows PySem.W
open Builtin Builtin.ObjectAttr
namespace FA
theorem slot_ga:Slot "function" "__getattribute__" "object.__getattribute__":=
 .of (owner:= "object") (n:= "__getattribute__") (by rw[typeLookup_type,builtinLookup_eq_fast];kernel_rfl) (by decide +kernel) (by decide +kernel) (by decide +kernel)
  (by first | exact .inl (by decide +kernel) | exact .inr (by decide +kernel)) (by rw[isSubtype_type];kernel_rfl)
theorem lk_getattr:typeLookup (.type "function") "__getattr__" = pure none:=by rw[typeLookup_type,builtinLookup_eq_fast];kernel_rfl
theorem args_ga(a b:Value):argsOk "object.__getattribute__" ⟨[a,b],[]⟩:=by unfold argsOk;kernel_rfl
theorem entry_ga:entryFor table "object.__getattribute__" = some Builtin.«object.__getattribute__»:=entryFor_of_tree (by kernel_rfl)
end FA
open PySem PySem.Spec PySem.Calls PyProof.Rows PySem.W
open Builtin Builtin.ObjectAttr
section
variable{prog:Program}{w:World}{A:Around}{E:Value→Shared→Prop}{h:Heap}{g:Array GenState}{d:Drawn}{t:Nat}{os:OsState}
theorem Z5v(hx:h.get? x=some (fnObjD fd dx))(hn:h.Ns dx m)(hv:m (Str.ofString "read")=some v)(hq:Q (.done (.ret v)) ⟨h,g,d,t,os⟩) :
  wpAny (model prog w) A (Builtin.«object.__getattribute__» ⟨[.ref x,.str (Str.ofString "read") tk],[]⟩) Q E ⟨h,g,d,t,os⟩:=by
 have hT:(⟨h,g,d,t,os⟩:Shared).TypeIs (.ref x) "function":=⟨_,hx,rfl⟩
 have h3:=FA.lk_read
 refine wpAny_bind (wpAny_of_eq (a:=(Value.ref x,[Value.str (Str.ofString "read") tk])) rfl ?_)
 refine wpAny_bind (m:=attrName _) (wpAny_of_eq (a:=Str.ofString "read") rfl ?_)
 refine wpAny_bind (wpAny_typeOf hT ?_)
 refine wpAny_bind (m:=find _ _ _) ?_
 refine wpAny_bind (wpAny_of_eq h3 ?_)
 refine wpAny_bind (m:=getOf none) (wpAny_pure ?_)
 refine wpAny_bind (m:=dataDescriptor? none none) (wpAny_pure ?_)
 show wpAny _ _ (ownThenClass (.ref x) (Str.ofString "read") none none) _ _ _
 refine wpAny_bind (m:=inOwnDict _ _) ?_
 show wpAny _ _ (ObjectAttr.ownDict x>>=fun d=>inDict (Str.ofString "read") d) _ _ _
 refine wpAny_bind (m:=ObjectAttr.ownDict x) ?_
 refine wpAny_bind (m:=loadHead x) (wpAny_loadPart hx ?_)
 show wpAny _ _ (instanceDict x false) _ _ _
 refine wpAny_bind (wpAny_loadPart hx ?_)
 show wpAny _ _ (pure (some dx)) _ _ _
 refine wpAny_pure ?_
 show wpAny _ _ (nsGet dx (Str.ofString "read")) _ _ _
 refine wpAny_nsGet hn ?_
 rw[hv]
 refine wpAny_bind (wpAny_rule (wpAny_pure ?_))
 exact wpAny_pure hq
theorem Z48(hx:h.get? x=some (fnObjD fd dx))(hn:h.Ns dx m)(hv:m (Str.ofString "read")=some (.ref fr))(hq:Q (.ref fr,[]) ⟨h,g,d,t+1,os⟩) :
  wpAny (model prog w) A (getMethod (.ref x) (Str.ofString "read") pl) Q E ⟨h,g,d,t,os⟩:=by
 have hT:∀t',(⟨h,g,d,t',os⟩:Shared).TypeIs (.ref x) "function":=fun t'=>⟨_,hx,rfl⟩
 refine wpAny_bind (wpAny_specialOf (hT _) FA.slot_ga.lookup ?_)
 dsimp only
 rw[if_neg (by rw[F.canon_object_ga];exact Bool.false_ne_true)]
 refine wpAny_bind (wpAny_specialOf (hT _) FA.lk_getattr ?_)
 rw[if_neg (by decide)]
 refine wpAny_bind (wpAny_specialOf (hT _) FA.lk_read ?_)
 refine wpAny_bind (m:=getAttr (.ref x) (Str.ofString "read")) ?_
 refine wpAny_bind (wpAny_mkText ?_)
 refine wpAny_holding (wpAny_bind (wpAny_typeOf (hT _) ?_))
 refine wpAny_bind (wpAny_of_eq FA.slot_ga.lookup ?_)
 show wpAny _ _ (getAttrByItsOwn (.ref x) _ (.type "function") (.builtin "object.__getattribute__") true false) _ _ _
 refine wpAny_bind (m:=hookBefore _) (wpAny_of_eq (a:=none) rfl ?_)
 refine wpAny_bind (wpAny_attempt (wpAny_holding ?_))
 show wpAny _ _ (boundAndCalled (.builtin "object.__getattribute__") (.ref x) _) _ _ _
 refine wpAny_bind (wpAny_of_eq (FA.slot_ga.bind _) ?_)
 refine wpAny_call_entry FA.slot_ga (hT _) FA.entry_ga (Z5v hx hn hv ?_) (FA.args_ga _ _)
 exact⟨_,rfl,wpAny_pure (wpAny_pure hq)⟩
end
open PySem PySem.Spec PySem.Calls PyProof.Rows PySem.W
open Builtin Builtin.ObjectAttr
namespace FA
theorem lk_set:typeLookup (.type "function") "__set__" = pure none:=by rw[typeLookup_type,builtinLookup_eq_fast];kernel_rfl
theorem lk_delete:typeLookup (.type "function") "__delete__" = pure none:=by rw[typeLookup_type,builtinLookup_eq_fast];kernel_rfl
end FA
section
variable{prog:Program}{w:World}{A:Around}{E:Value→Shared→Prop}{h:Heap}{g:Array GenState}{d:Drawn}{t:Nat}{os:OsState}
variable{nm q:Str}{C N x:Addr}{bs:List Value}{sn:List Str}{sub:List Value}{ab:Bool}{col:Option Bool}{dd:Option Addr}{k0 k1 k2 k3 k5:Option Value}{newId:String}
 {mN mA:Str→Option Value}{name:Str}
theorem Z5E
  (hC:h.get? C=some (excClassObj nm q C N bs [.type "object"] true sn sub ab col dd k0 k1 k2 k3 k5 newId))(hn:h.Ns N mN)(hf:mN name=some (.ref f))(hfo:h.get? f=some of)(hfc:of.cls=.type "function")(hnh:mN "__getattr__" = none)
 (hB:typeLookup (.type "object") name=pure y)(hx:h.get? x=some ox)(hxc:ox.cls=.ref C)(hxn:∀c,ox.data≠.cls c)(hxd:ox.dict=some dx)(hns:h.Ns dx mA)(hv:mA name=none)
  (hcp:copiedAttributeGuard name (.ref x)=pure ())(hq:Q (.done (.ret (.ref h.objs.size))) ⟨h.push {cls:=.type "method",data:=.fields #[.ref f,.ref x]},g,d,t,os⟩) :
  wpAny (model prog w) A (Builtin.«proto.getattr_hooked» ⟨[.ref x,.str name tk],[]⟩) Q E ⟨h,g,d,t,os⟩:=by
 have hTf:(⟨h,g,d,t,os⟩:Shared).TypeIs (.ref f) "function":=⟨_,hfo,hfc⟩
 refine wpAny_bind (m:=attrName _) (wpAny_of_eq (a:=name) rfl ?_)
 refine wpAny_bind (m:=typeOf (.ref x)) ?_
 refine wpAny_typeOf_ref hx ?_
 rw[hxc]
 refine wpAny_bind (m:=find _ _ _) ?_
 refine wpAny_bind (wpAny_typeLookup_exc hC hn F.mro_object hB ?_)
 rw[hf]
 refine wpAny_bind (m:=getOf _) ?_
 show wpAny _ _ (specialOf (.ref f) "__get__") _ _ _
 refine wpAny_specialOf hTf F.ks_slot_function_get.lookup ?_
 refine wpAny_bind (m:=dataDescriptor? _ _) ?_
 show wpAny _ _ (takesStores (.ref f)>>=fun b=>if b=true then pure (some _) else pure none) _ _ _
 refine wpAny_bind ?_
 refine wpAny_bind (wpAny_specialOf hTf FA.lk_set ?_)
 rw[if_neg (by decide)]
 refine wpAny_bind (wpAny_specialOf hTf FA.lk_delete (wpAny_pure ?_))
 refine wpAny_pure ?_
 show wpAny _ _ (ownThenClass (.ref x) name (some (.ref f)) (some (.builtin "function.__get__"))) _ _ _
 refine wpAny_bind (m:=inOwnDict _ _) ?_
 show wpAny _ _ (ObjectAttr.ownDict x>>=fun d=>inDict name d) _ _ _
 refine wpAny_bind (m:=ObjectAttr.ownDict x) ?_
 refine wpAny_bind (m:=loadHead x) (wpAny_loadPart hx ?_)
 have hi:∀{Q:Option Addr→Shared→Prop},Q (some dx) ⟨h,g,d,t,os⟩→wpAny (model prog w) A (instanceDict x false) Q E ⟨h,g,d,t,os⟩:=fun{Q} hq=>by
  refine wpAny_bind (wpAny_loadPart hx ?_)
  rw[hxc]
  refine wpAny_bind (wpAny_bind (wpAny_load hC (wpAny_pure ?_)))
  rw[hxd]
  exact wpAny_pure hq
 split
 ·rename_i c hcd
  exact absurd hcd (hxn c)
 refine hi ?_
 show wpAny _ _ (nsGet dx name) _ _ _
 refine wpAny_nsGet hns ?_
 rw[hv]
 rw[hcp]
 refine wpAny_bind (wpAny_pure ?_)
 show wpAny _ _ (rule "getattr.non-data-descriptor" >>= fun V=>pure (Found.bind (.builtin "function.__get__") (.ref f))) _ _ _
 refine wpAny_bind (wpAny_rule (wpAny_pure ?_))
 refine wpAny_bind (wpAny_typeLookup_exc hC hn F.mro_object F.lk_object_getattr ?_)
 rw[hnh]
 show wpAny _ _ (bindTo (.builtin "function.__get__") (.ref f) (.ref x) (.ref C)) _ _ _
 show wpAny _ _ (holding [.ref f] (call (.builtin "function.__get__") [.ref f,.ref x,.ref C])>>=fun v=>ret v) _ _ _
 refine wpAny_bind (wpAny_holding ?_)
 refine wpAny_call_entry F.ks_slot_function_get hTf F.ks_entry_function_get ?_ (F.ks_getArgs_function _ _ _)
 repeat wp_step
 exact⟨_,rfl,wpAny_pure hq⟩
end
end
section
open PySem PySem.Spec PySem.Calls PyProof.Rows PySem.W
theorem YK(h:wpAny M A (call f pos) Q E s):wpAny M A (callBorrowed f pos) Q E s:=fun Γ p hΓ=>by
 have h':=h Γ p hΓ
 unfold call at h'
 rw[Sem.wp_runValue] at h'
 unfold callBorrowed
 rw[Sem.wp_call]
 refine wpCode_mono ?_ h'
 intro r s' hr
 cases r with
 |error e=>rw[Sem.wp_raise];exact hr
 |ok f=>
  cases f with
  |ret v=>exact hr
  |_=>exact hr.elim
namespace FA
theorem slot_ci_next:Slot "callable_iterator" "__next__" "callable_iterator.__next__":=
 .of (owner:= "callable_iterator") (n:= "__next__") (by rw[typeLookup_type,builtinLookup_eq_fast];kernel_rfl) (by decide +kernel) (by decide +kernel) (by decide +kernel)
  (by first | exact .inl (by decide +kernel) | exact .inr (by decide +kernel)) (by rw[isSubtype_type];kernel_rfl)
theorem slot_ci_iter:Slot "callable_iterator" "__iter__" "callable_iterator.__iter__":=
 .of (owner:= "callable_iterator") (n:= "__iter__") (by rw[typeLookup_type,builtinLookup_eq_fast];kernel_rfl) (by decide +kernel) (by decide +kernel) (by decide +kernel)
  (by first | exact .inl (by decide +kernel) | exact .inr (by decide +kernel)) (by rw[isSubtype_type];kernel_rfl)
theorem entry_ci_next:entryFor table "callable_iterator.__next__" = some Builtin.«callable_iterator.__next__»:=entryFor_of_tree (by kernel_rfl)
theorem args_ci_next(a:Value):argsOk "callable_iterator.__next__" ⟨[a],[]⟩:=by unfold argsOk;kernel_rfl
theorem args_ci_iter(a:Value):argsOk "callable_iterator.__iter__" ⟨[a],[]⟩:=by unfold argsOk;kernel_rfl
theorem entry_ci_iter:entryFor table "callable_iterator.__iter__" = some Builtin.«dict_keyiterator.__iter__»:=
 entryFor_alias (id':= "dict_keyiterator.__iter__") (by kernel_rfl) (by first | rfl | decide +kernel | (unfold String.splitOn;simp +decide [String.splitOnAux])) (by decide +kernel) (by kernel_rfl)
theorem entry_iter2:entryFor table "iter" = some Builtin.«iter»:=entryFor_of_tree (by kernel_rfl)
theorem lk_method_call:typeLookup (.type "method") "__call__" = pure (some (.builtin "method.__call__")):=by rw[typeLookup_type,builtinLookup_eq_fast];kernel_rfl
end FA
section
open Builtin Builtin.SmallTypes
variable{prog:Program}{w:World}{A:Around}{E:Value→Shared→Prop}{s:Shared}
theorem JQ{α:Type}{Q:α→Shared→Prop}(hh:A.handled=none)(h:∀s',(∀b o,s.heap.get? b=some o→s'.heap.get? b=some o)→s' = {s with heap:=s'.heap}→∀e,s'.TypeIs (.ref e) "StopIteration"→E (.ref e) s'):wpAny (model prog w) A (SmallTypes.stopIteration:Sem α) Q E s:=by
 refine wpAny_bind ?_
 refine wpAny_bind (wpAny_newObj_type ?_ (by size_fits))
 refine wpAny_bind (m:=firstArgMember _ _) (wpAny_of_eq (a:=Value.none) (by first | rfl | (dsimp only[firstArgMember];rfl)) ?_)
 refine wpAny_newObj_type ?_ (by size_fits)
 refine wpAny_bind (wpAny_handled ?_)
 rw[hh]
 refine wpAny_bind (wpAny_pure (wpAny_throw ?_))
 refine h _ (fun b o e=>Heap.get?_push_of_some _ (Heap.get?_push_of_some _ e)) rfl _ ⟨_,Heap.get?_push_size _ rfl,rfl⟩
noncomputable abbrev ciObj(f sent:Value)(b:Bool):Obj:={cls:=.type "callable_iterator",data:=.fields #[f,sent,.bool b]}
theorem ZaD{it mth f:Addr}(hh:A.handled=none)
  (hit:s.heap.get? it=some (ciObj (.ref mth) (.str x tk) false))(hm:s.heap.get? mth=some {cls:=.type "method",data:=.fields #[.ref f,self]})(hf:s.heap.get? f=some of)(hfd:of.data=.func fd)
  (h:codeAny (model prog w) A.in1 (.call (.ref f) ⟨[self],[]⟩) (fun r s'=>match r with | .ok (.ret r)=>(∃y u,r=.str y u∧s'.heap.get? it=some (ciObj (.ref mth) (.str x tk) false)∧s'.heap.get? mth=some {cls:=.type "method",data:=.fields #[.ref f,self]}∧s'.heap.get? f=some of∧
   if(x==y)=true then∀h',Heap.ExtBut it s'.heap h'→h'.get? it=some (ciObj .none .none true)→Q none {s' with heap:=h'} else Q (some r) s') | .ok _=>False | .error _=>False) s):wpAny (model prog w) A (pyNext (.ref it)) Q E s:=by
 have hT:s.TypeIs (.ref it) "callable_iterator":=⟨_,hit,rfl⟩
 refine wpAny_bind (wpAny_attempt (wpAny_callSpecial?_slot (name:=Str.ofString "__next__") hT FA.slot_ci_next
  (wpAny_call_entry FA.slot_ci_next hT FA.entry_ci_next ?_ (FA.args_ci_next _))))
 refine wpAny_bind (wpAny_of_eq (a:=(Value.ref it,[])) rfl ?_)
 refine wpAny_bind (wpAny_field hit rfl (x:=.bool false) rfl ?_)
 rw[if_neg (by decide)]
 refine wpAny_bind (m:=field (.ref it) 0) (wpAny_field hit rfl (x:=.ref mth) rfl ?_)
 refine wpAny_bind (wpAny_attempt ?_)
 have hb:∀(s:Shared) {Q:Bool→Shared→Prop} {E:Value→Shared→Prop},s.heap.get? mth=some {cls:=.type "method",data:=.fields #[.ref f,self]}→s.heap.get? f=some of→Q true s→∀A:Around,wpAny (model prog w) A (borrowsExactly (.ref mth)) Q E s:=fun s {Q E} hm hf hq A=>by
  refine wpAny_bind (wpAny_load hm ?_)
  show wpAny _ _ (do match (←load f).data with | .func _=>pure true | _=>pure false) _ _ _
  refine wpAny_bind (wpAny_load hf ?_)
  rw[hfd]
  exact wpAny_pure hq
 refine wpAny_bind (hb s hm hf ?_ _)
 rw[if_pos rfl]
 refine YK ?_
 refine wpAny_call (W.method_call hm (codeAny_mono h fun r s' hr=>?_))
 cases r with
 |error e=>exact hr.elim
 |ok fl=>
  cases fl with
  |ret r=>
   refine ZcG hr ?_
   rintro y u rfl hit' hm' hf' hQ
   refine wpAny_bind (m:=field (.ref it) 2) (wpAny_field hit' rfl (x:=.bool false) rfl ?_)
   rw[if_neg (by decide)]
   refine wpAny_bind (m:=field (.ref it) 1) (wpAny_field hit' rfl (x:=.str x tk) rfl ?_)
   refine wpAny_bind (wpAny_holding (PyProof.Rows.eqGives_str x y tk u _ _ _ _ _ _ ?_))
   cases hxy:x==y with
   |false=>
    rw[hxy] at hQ
    simp only[Bool.false_eq_true,if_false] at hQ
    rw[if_pos (by decide)]
    exact wpAny_pure ⟨_,rfl,wpAny_pure hQ⟩
   |true=>
    rw[hxy] at hQ
    simp only[if_true] at hQ
    rw[if_neg (by decide)]
    refine wpAny_bind (wpAny_rule ?_)
    refine wpAny_bind (wpAny_bind (wpAny_field hit' rfl (x:=.ref mth) rfl ?_))
    refine wpAny_bind ?_
    refine wpAny_bind (hb _ hm' hf' ?_ _)
    rw[if_pos rfl]
    refine wpAny_pure ?_
    refine wpAny_bind (wpAny_setField_rec hit' (by exact Nat.succ_pos _) fun h1 e1 s1=>?_)
    refine wpAny_bind (wpAny_setField_rec (s:={s' with heap:=h1}) e1 (by simp) fun h2 e2 s2=>?_)
    refine wpAny_setField_rec (s:={s' with heap:=h2}) e2 (by exact Nat.le_refl _) fun h3 e3 s3=>?_
    refine JQ hh fun s4 k4 e4 ex hex=>?_
    refine wpAny_bind (wpAny_isInstance (T:= "StopIteration") (b:=true) hex isSubtype_stop ?_)
    rw[if_pos rfl]
    refine wpAny_pure ?_
    rw[e4]
    refine hQ s4.heap (fun b o hb e=>k4 b o ?_) (k4 _ _ e3)
    exact s3.extBut b o hb (s2.extBut b o hb (s1.extBut b o hb e))
  |_=>exact hr.elim
theorem Z9Q{it:Addr}(hh:A.handled=none)(hit:s.heap.get? it=some (ciObj f sent true))(hQ:∀h',(∀b o,s.heap.get? b=some o→h'.get? b=some o)→Q none {s with heap:=h'}):wpAny (model prog w) A (pyNext (.ref it)) Q E s:=by
 have hT:s.TypeIs (.ref it) "callable_iterator":=⟨_,hit,rfl⟩
 refine wpAny_bind (wpAny_attempt (wpAny_callSpecial?_slot (name:=Str.ofString "__next__") hT FA.slot_ci_next
  (wpAny_call_entry FA.slot_ci_next hT FA.entry_ci_next ?_ (FA.args_ci_next _))))
 refine wpAny_bind (wpAny_of_eq (a:=(Value.ref it,[])) rfl ?_)
 refine wpAny_bind (wpAny_field hit rfl (x:=.bool true) rfl ?_)
 rw[if_pos (by decide)]
 refine wpAny_bind (wpAny_rule ?_)
 refine wpAny_bind (JQ hh fun s4 k4 e4 ex hex=>?_)
 refine wpAny_bind (wpAny_isInstance (T:= "StopIteration") (b:=true) hex isSubtype_stop ?_)
 rw[if_pos rfl]
 refine wpAny_pure ?_
 rw[e4]
 exact hQ s4.heap k4
theorem ZaE(hit:s.heap.get? it=some (ciObj f sent b))(h:Q (.ref it) s):wpAny (model prog w) A (pyIter (.ref it)) Q E s:=by
 have hT:s.TypeIs (.ref it) "callable_iterator":=⟨_,hit,rfl⟩
 refine wpAny_pyIter_slot hT FA.slot_ci_iter (wpAny_call_entry FA.slot_ci_iter hT FA.entry_ci_iter ?_ (FA.args_ci_iter _))
 show wpAny _ _ (ret (.ref it)) _ _ s
 exact wpAny_pure ⟨_,rfl, "callable_iterator",_,hT,FA.slot_ci_next.lookup,h⟩
end
end
section
open PySem PySem.Spec PySem.Calls PyProof.Rows PySem.W
variable{K:Wd}{B:Base}{α β:Type}{A:Around}{g:Gh}{n:Nat}{env:Env}
variable{b:Gh}{S':List Addr}{fn:List Nat}{cs:List Addr}{nm:List (Str×NameKind)}{σ σ':List (Option D)}{own:List (Addr×MO)}
noncomputable abbrev mthObj(f:Addr)(self:Value):Obj:={cls:=.type "method",data:=.fields #[.ref f,self]}
theorem Z3U(hc:ClsB K.B C N [.type "object"] newId mN)(hng:mN "__getattribute__" = none)(hnh:mN "__getattr__" = none)(hf:mN name=some (.ref f))(hfn:FnB K.B f fd)
  (hB:typeLookup (.type "object") name=pure y)(hx:g.mu x=some (instObj C dx))(hd:g.mu dx=some od)(hm:(MO.inst L).P g.im od)(hne:dx≠x)(hv:name∉L.map (·.1))(hcp:Builtin.ObjectAttr.copiedAttributeGuard name (.ref x)=pure ())
  (q:∀p,g.im p=none→g.mu p=none→Q (.ref p) (g.addIm p (mthObj f (.ref x)))):gwp K A (getAttr (.ref x) name true) Q g:=fun s E ok=>by
 refine hc.elim ok ?_
 intro nm q' bs sn sub col dd k0 k1 k2 k3 k5 hC hNS
 refine Zm hm fun m m1 m2 m3=>?_
 refine Zm hfn.obj fun of f1 f2 f3=>?_
 obtain⟨hp,gs,dr,tk,os⟩:=s
 have hC':=hC
 have hN':=hNS
 have hx':=ok.mu _ _ hx
 refine wpAny_bind (wpAny_mkText (wpAny_holding ?_))
 refine wpAny_bind (m:=typeOf (.ref x)) (wpAny_typeOf_ref hx' ?_)
 refine wpAny_bind (wpAny_typeLookup_exc hC' hN' F.mro_object F.lk_object_ga ?_)
 rw[hng]
 show wpAny _ _ (getAttrEveryday (.ref x) (.str name tk) true) _ _ _
 refine wpAny_bind (wpAny_onRaise (wpAny_runValue (codeAny_builtin F.plainObj_entry_getattr_hooked (Z5E (y:=y) hC' hN' hf (ok.im _ _ (ok.base _ _ f1)) f3 hnh hB hx' rfl (by intro c z;cases z) rfl ((m1.ns1 (ok.mu _ _ hd)).ns) (m3 _ hv) hcp ?_))))
 show wpAny _ _ (handedOut (.ref hp.objs.size)) _ _ _
 exact wpAny_pure ⟨_,(ok.pushIm (o:=mthObj f (.ref x)) rfl).tok _,q _ ok.fresh.1 ok.fresh.2⟩
theorem Z82(hp:g.im p=some (mthObj f self))(q:∀it,g.im it=none→g.mu it=none→Q (.ref it) (g.setMu it (ciObj (.ref p) (.str x t) false))):gwp K A (call (.builtin "iter") [.ref p,.str x t]) Q g:=fun s E ok=>by
 have hT:s.TypeIs (.ref p) "method":=⟨_,ok.im _ _ hp,rfl⟩
 refine Calls.call_function_entry (by decide +kernel) (by decide +kernel) FA.entry_iter2 (by delta argsOk;kernel_rfl) ?_
 refine wpAny_bind (m:=someArgs "iter" 1 2 _) (wpAny_pure ?_)
 refine wpAny_bind (wpAny_specialOf hT FA.lk_method_call ?_)
 rw[if_neg (by simp)]
 refine wpAny_bind (wpAny_rule ?_)
 exact wpAny_bind (wpAny_newObj_type (wpAny_pure ⟨_,rfl,_,ok.pushMu (o:=ciObj (.ref p) (.str x t) false) rfl,q _ ok.fresh.1 ok.fresh.2⟩) (by size_fits))
theorem Z6E(r:Room A (n+1))(hit:g.mu it=some (ciObj (.ref p) (.str (S x) t) false))(hp:g.im p=some (mthObj f self))(hfn:FnB K.B f fd)(hT:it∉T)
  (h:∀A',Room A' n→gcc K A' (.call (.ref f) ⟨[self],[]⟩) (fun v g'=>∃y,Zu g'.im (.str y) v∧LeX T g g'∧if x=y then Q none (g'.setMu it (ciObj .none .none true)) else Q (some v) g') g):gwp K A (pyNext (.ref it)) Q g:=fun s E ok=>by
 refine Zm hfn.obj fun of f1 f2 f3=>?_
 refine ZaD r.1 (ok.mu _ _ hit) (ok.im _ _ hp) (ok.im _ _ (ok.base _ _ f1)) f2 (codeAny_mono (h _ r.in1 s (fun V V=>False) ok) fun r s' hr=>?_)
 clear h;cases r with
 |error e=>exact hr.elim
 |ok fl=>
  clear r;cases fl with
  |ret v=>
   obtain⟨g',ok',y,hy,l,hQ⟩:=hr
   refine Zi (Zz hy) ?_
   rintro u rfl
   have hit':=l.mu _ _ hT hit
   refine⟨S y,u,rfl,ok'.mu _ _ hit',ok'.im _ _ (l.im _ _ hp),ok'.im _ _ (ok'.base _ _ f1),?_⟩
   by_cases hxy:x=y
   ·clear hy f1 hT hp hit;subst hxy
    rw[if_pos rfl] at hQ
    rw[if_pos (by exact beq_self_eq_true _)]
    exact fun h' he hf=>⟨_,ok'.extSet (tk:=s'.toks) hit' (fun b o hb e=>he b o hb e) hf,hQ⟩
   ·rw[if_neg hxy] at hQ
    rw[if_neg (by intro z;exact hxy (ZaS (by exact of_decide_eq_true z)))]
    exact⟨g',ok',hQ⟩
  |_=>exact hr.elim
theorem Z5k(hh:A.handled=none)(hit:g.mu it=some (ciObj f sent true))(q:Q none g):gwp K A (pyNext (.ref it)) Q g:=fun s E ok=>
 Z9Q hh (ok.mu _ _ hit) fun h' hk=>⟨g,ok.keeps (tk:=s.toks) hk,q⟩
theorem Z6F{b:Bool}(hit:g.mu it=some (ciObj f sent b))(q:Q (.ref it) g):gwp K A (pyIter (.ref it)) Q g:=fun s E ok=>ZaE (ok.mu _ _ hit) ⟨g,ok,q⟩
theorem Z2v(hx:g.mu x=some (fnObj fd))(q:∀dx od,g.im dx=none→g.mu dx=none→dx≠x→NsObj1 od (fun y=>if y=Str.ofString "read" then some v else none)→Q () ((g.setMu dx od).setMu x (fnObjD fd dx))):gwp K A (setAttr (.ref x) (Str.ofString "read") v) Q g:=fun s E ok=>by
 obtain⟨hp,gs,dr,tk,os⟩:=s
 have hne:hp.objs.size≠x:=Nat.ne_of_gt (Heap.lt_size (ok.mu _ _ hx))
 refine Z6N (ok.mu _ _ hx) fun h' o' tk' h1 h2 h3 h4=>⟨_,?_,q _ o' ok.fresh.1 ok.fresh.2 hne h3⟩
 have ok1:(g.setMu x (fnObjD fd hp.objs.size)).Ok K.B ⟨h',gs,dr,tk',os⟩:=ok.extSet (s:=⟨hp,gs,dr,tk,os⟩) (tk:=tk') (ok.mu _ _ hx |> fun V=>hx) (fun b o hb e=>h4 b o hb e) h1
 refine⟨ok1.im,fun a o e=>?_,fun a o1 o2 e e'=>?_,ok1.base,fun a o e=>?_,ok1.size,ok1.old,ok1.os,ok1.gens,ok1.tabs,ok1.apart⟩
 ·by_cases hax:a=x
  ·clear h4 h3 q;subst hax;cases((ZcI).symm.trans e);exact h1
  ·rw[ZcK hax] at e
   by_cases had:a=hp.objs.size
   ·clear h4 h3 h1 q;subst had;cases((ZcI).symm.trans e);exact h2
   ·rw[ZcK had] at e
    exact ok1.mu a o ((ZcK hax).trans (e))
 ·by_cases hax:a=x
  ·clear ok1 h4 h3 h2 h1 q;subst hax;exact ok.dis _ _ _ e hx
  ·rw[ZcK hax] at e'
   by_cases had:a=hp.objs.size
   ·clear ok1 h4 h3 h2 h1 q;subst had
    have e1:g.im hp.objs.size=some o1:=e
    have:=ok.fresh.1
    have e2:g.im hp.objs.size=none:=this
    clear this;cases((e2).symm.trans e1)
   ·rw[ZcK had] at e';exact ok.dis _ _ _ e e'
 ·by_cases hax:a=x
  ·clear ok1 h4 h3 h2 h1 q;subst hax;exact ok.new _ _ hx
  ·rw[ZcK hax] at e
   by_cases had:a=hp.objs.size
   ·clear ok1 h4 h3 h2 h1 q hx;subst had;exact ok.size
   ·rw[ZcK had] at e;exact ok.new _ _ e
theorem Z2w(hx:g.has x (fnObjD fd dx))(hd:g.has dx od)(hm:NsObj od m)(hv:m (Str.ofString "read")=some (.ref fr))(q:Q (.ref fr,[]) g):gwp K A (getMethod (.ref x) (Str.ofString "read") pl) Q g:=fun s E ok=>by
 exact Z48 (hx.get ok) (hm.ns (hd.get ok)) hv ⟨g,ok.tok _,q⟩
end
section
open PySem PySem.Spec PySem.Calls PyProof.Rows PySem.W PySem.SeqAt
variable{K:Wd}{B:Base}{α β:Type}{A:Around}{g:Gh}{n:Nat}{env:Env}
theorem Z04(a b:List Nat):(S a==S b)=(a==b):=by
 rw[Bool.eq_iff_iff,beq_iff_eq,beq_iff_eq]
 exact⟨ZaS,congrArg S⟩
structure Lk(k:Nat)(d e:D)(b:Bool):Prop where
 same:∀{im:Im} {v:Value},Zu im d v→Zu im e v→b=true
 at_:∀{im:Im} {A:Around} {s:Shared} {v w:Value},(∀a o,im a=some o→s.heap.get? a=some o)→A.units+k<cLine→Zu im d v→Zu im e w→EqAt A s v w b∧RcAt A s v w b∧RcNeAt A s v w (!b)
structure Lks(k:Nat)(l l':List D)(b:Bool):Prop where
 same:∀{im:Im} {vs:List Value},Z7 im l vs→Z7 im l' vs→b=true
 ex:∃f:Nat→Bool,(∀j d d',l[j]? = some d→l'[j]? = some d'→Lk k d d' (f j))∧b=((List.range (min l.length l'.length)).all f&&l.length==l'.length)
section
variable{k:Nat}{d e:D}{ds es:List D}{x y b:Bool}
theorem Z9h:Lk k (.int i) (.int j) (i==j) where
 same h1 h2:=Zi (Zo h1) fun t e=>Zi (Zo h2) fun u e'=>by cases e.symm.trans e';exact beq_self_eq_true i
 at_ _ _ h1 h2:=Zi (Zo h1) fun t e=>Zi (Zo h2) fun u e'=>by rw[e,e'];exact⟨EqAt.int_int _ _ _ _,RcAt.int_int _ _ _ _,RcNeAt.int_int _ _ _ _⟩
theorem Zby:Lk k (.str i) (.str j) (i==j) where
 same h1 h2:=Zi (Zz h1) fun t e=>Zi (Zz h2) fun u e'=>by
  rw[←Z04];injection e.symm.trans e' with h _;rw[h];exact beq_self_eq_true (S j)
 at_ _ _ h1 h2:=Zi (Zz h1) fun t e=>Zi (Zz h2) fun u e'=>by rw[e,e',←Z04];exact⟨EqAt.str_str _ _ _ _,RcAt.str_str _ _ _ _,RcNeAt.str_str _ _ _ _⟩
theorem Lks.seq(H:Lks k ds es b){its its2:Array Value}(ok:∀a o,im a=some o→s.heap.get? a=some o)(hu:A.units+k<cLine)(r1:Z7 im ds its.toList)(r2:Z7 im es its2.toList) :
  ∃e:Nat→Bool,(∀j (h1:j<its.size) (h2:j<its2.size),EqAt A s its[j] its2[j] (e j))∧b=((List.range (min its.size its2.size)).all e&&its.size==its2.size):=
 Z4 H.ex fun f f1 f2=>⟨f,fun j h1 h2=>Z4 (r1.get' (i:=j) (v:=its[j]) (by rw[Array.getElem?_toList,Array.getElem?_eq_getElem h1])) fun d hd rd=>Z4 (r2.get' (i:=j) (v:=its2[j]) (by rw[Array.getElem?_toList,Array.getElem?_eq_getElem h2])) fun d' hd' rd'=>((f1 j d d' hd hd').at_ ok hu rd rd').1,
  by rw[←Array.length_toList,←Array.length_toList,r1.length,r2.length];exact f2⟩
theorem Z7j(h:a=a'→b=true)(l:RcAt A s (.ref a) (.ref a') b∧RcNeAt A s (.ref a) (.ref a') (!b)):EqAt A s (.ref a) (.ref a') b∧RcAt A s (.ref a) (.ref a') b∧RcNeAt A s (.ref a) (.ref a') (!b):=
 ⟨(Classical.em (a=a')).elim (fun z=>by rw[h z,z];exact EqAt.same _) fun z=>EqAt.of_refs z l.1,l⟩
theorem Z8E(h:sq T its m=sq T its' m'):its=its':=by cases h;rfl
theorem YP(H:Lks k ds es b):Lk (k+1) (.lst ds) (.lst es) b:=by
 have sm:∀{im:Im} {v:Value},Zu im (.lst ds) v→Zu im (.lst es) v→b=true:=fun h1 h2=>ZO (Zj.mp h1) fun a its m e e1 r1=>ZO (Zj.mp h2) fun a' its' m' e' e2 r2=>by
  rw[Value.ref.inj (e.symm.trans e')] at e1
  exact H.same r1 (Z8E (J0 e1 e2)▸r2)
 refine⟨sm,fun{im A s v w} ok hu h1 h2=>ZO (Zj.mp h1) fun a its m e e1 r1=>ZO (Zj.mp h2) fun a' its' m' e' e2 r2=>?_⟩
 rw[e] at h1 ⊢;rw[e'] at h2 ⊢
 refine Z4 (H.seq (A:=A.in1) ok (by rw[Around.in1_units];lia) r1 r2) fun f f1 f2=>?_
 have hl1:s.heap.IsList a its:=⟨_,ok _ _ e1,rfl,m,rfl⟩
 have hl2:s.heap.IsList a' its':=⟨_,ok _ _ e2,rfl,m',rfl⟩
 refine Z7j (fun z=>sm h1 (z▸h2)) ?_
 by_cases hsz:its.size=its'.size
 ·rw[f2,←hsz,Nat.min_self,beq_self_eq_true,Bool.and_true]
  exact⟨RcAt.lists hl1 hl2 hsz (by lia) f1,RcNeAt.lists hl1 hl2 hsz (by lia) f1⟩
 ·rw[f2,beq_eq_false_iff_ne.mpr hsz,Bool.and_false]
  exact⟨RcAt.lists_lengths hl1 hl2 (bne_iff_ne.mpr hsz) (by lia),RcNeAt.lists_lengths hl1 hl2 (bne_iff_ne.mpr hsz) (by lia)⟩
theorem Z9f(H:Lks k ds es b):Lk (k+1) (.tup ds) (.tup es) b:=by
 have sm:∀{im:Im} {v:Value},Zu im (.tup ds) v→Zu im (.tup es) v→b=true:=fun h1 h2=>ZO (J1.mp h1) fun a its m e e1 r1=>ZO (J1.mp h2) fun a' its' m' e' e2 r2=>by
  rw[Value.ref.inj (e.symm.trans e')] at e1
  exact H.same r1 (Z8E (J0 e1 e2)▸r2)
 refine⟨sm,fun{im A s v w} ok hu h1 h2=>ZO (J1.mp h1) fun a its m e e1 r1=>ZO (J1.mp h2) fun a' its' m' e' e2 r2=>?_⟩
 rw[e] at h1 ⊢;rw[e'] at h2 ⊢
 refine Z4 (H.seq (A:=A.in1) ok (by rw[Around.in1_units];lia) r1 r2) fun f f1 f2=>?_
 have hl1:s.heap.IsTuple a its:=⟨_,ok _ _ e1,rfl,m,rfl⟩
 have hl2:s.heap.IsTuple a' its':=⟨_,ok _ _ e2,rfl,m',rfl⟩
 refine Z7j (fun z=>sm h1 (z▸h2)) ?_
 rw[f2]
 exact⟨RcAt.tuples hl1 hl2 (by lia) f1,RcNeAt.tuples hl1 hl2 (by lia) f1⟩
theorem Z1g:Lks k [] [] true:=⟨fun V V=>rfl,fun V=>true,fun V V V h=>ZR h rfl,rfl⟩
theorem Zbx:Lks k [] (e::es) false:=⟨fun r1 r2=>absurd (r1.length.symm.trans r2.length) (Nat.succ_ne_zero _).symm,fun V=>true,fun V V V h=>ZR h rfl,rfl⟩
theorem Zbw:Lks k (d::ds) [] false:=⟨fun r1 r2=>absurd (r1.length.symm.trans r2.length) (Nat.succ_ne_zero _),fun V=>true,fun V V V V h=>ZR h rfl,rfl⟩
theorem Q6(h:Lk k d e x)(t:Lks k ds es y):Lks k (d::ds) (e::es) (x&&y):=by
 refine⟨fun r1 r2=>?_,Z4 t.ex fun f h1 h2=>⟨fun j=>Nat.casesOn j x f,fun j d1 d2 e1 e2=>?_,?_⟩⟩
 ·refine Zw (ZA r1) fun v vs e r1 rs1=>Zw (ZA r2) fun v' vs' e' r2 rs2=>?_
  cases e.symm.trans e'
  rw[h.same r1 r2,t.same rs1 rs2];rfl
 ·cases j with
  |zero=>cases e1;cases e2;exact h
  |succ j=>exact h1 j d1 d2 e1 e2
 ·rw[h2,List.length_cons,List.length_cons,Nat.succ_min_succ,List.range_succ_eq_map,List.all_cons,List.all_map,Bool.and_assoc]
  congr 2
  exact(Bool.eq_iff_iff.mpr (by rw[beq_iff_eq,beq_iff_eq,Nat.succ_inj]))
theorem Z4Y:∀{l:List D},(∀d∈l,Lk k d d true)→Lks k l l true
 |[],_=>Z1g
 |_::_,h=>Q6 (h _ (.head _)) (Z4Y fun e he=>h e (.tail _ he))
theorem Qh:Lk k (.int i) (.int i) true:=(beq_self_eq_true i)▸Z9h (i:=i) (j:=i)
theorem Qg:Lk k (.str i) (.str i) true:=(beq_self_eq_true i)▸Zby (i:=i) (j:=i)
theorem Yq{γ:Type}{f:γ→D}{l:List γ}(h:∀a,Lk k (f a) (f a) true):Lks k (l.map f) (l.map f) true:=Z4Y fun V hd=>Z4 (List.mem_map.mp hd) fun a V e=>e▸h a
end
theorem hk8{k m n:Nat}(h:Nat.ble k (8*m)=true):k≤8*(n+m):=Nat.le_trans (Nat.le_of_ble_eq_true h) (Nat.mul_le_mul_left 8 (Nat.le_add_left m n))
theorem Z0q(h:Lk k d e v)(hk:k≤8*n):OpSem K n g (compareOp .NotEq) d e (.bool (!v)):=fun g V v₁ v₂ h₁ h₂ A r g₁ le s E ok=>
 (h.at_ (A:=A) ok.im (by have:=r.2.2;lia) (h₁.le le) (h₂.le le)).2.2 K.prog K.w E _ ⟨g₁,ok,LeX.refl _ _,Jj⟩
end
section
open PySem PySem.Spec PySem.Calls PyProof.Rows PySem.W PySem.SeqAt
variable{K:Wd}{B:Base}{α β:Type}{A:Around}{g:Gh}{n:Nat}{env:Env}
variable{b:Gh}{S':List Addr}{fn:List Nat}{cs:List Addr}{nm:List (Str×NameKind)}{σ σ':List (Option D)}{own:List (Addr×MO)}
theorem Zag(ha:g.mu a=some (sq "list" its m)):OpSem K n g (compareOp .NotEq) (.raw (.ref a)) (.lst []) (.bool (decide (its.size≠0))):=fun g' l₀ v₁ v₂ h₁ h₂ A r g₁ le s E ok=>by
 have:=Zk h₁;subst this
 refine ZO (Zj.mp h₂) ?_
 rintro a' its' m' rfl e rs
 have h0:its'.size=0:=by rw[←Array.length_toList,rs.length];rfl
 have hl1:s.heap.IsList a its:=⟨_,ok.mu _ _ (le.at (l₀.at ha)),rfl,m,rfl⟩
 have hl2:s.heap.IsList a' its':=⟨_,ok.im _ _ (le.im _ _ e),rfl,m',rfl⟩
 have hu:A.units<cLine:=r.units
 by_cases hz:its.size=0
 ·have hd:decide (its.size≠0)=false:=by simp[hz]
  rw[hd]
  refine(RcNeAt.lists (e:=fun V=>true) hl1 hl2 (by rw[hz,h0]) hu (fun j h1=>by lia)) K.prog K.w E _ ?_
  rw[hz]
  exact⟨g₁,ok,LeX.refl _ _,Jj⟩
 ·have hd:decide (its.size≠0)=true:=by exact if_pos hz
  rw[hd]
  exact(RcNeAt.lists_lengths hl1 hl2 (by rw[h0];simpa using hz) hu) K.prog K.w E _ ⟨g₁,ok,LeX.refl _ _,Jj⟩
theorem Frm.at{i:Nat}(F:Frm K b S' fn cs env nm σ own g)(h:own[i]? = some (a,m)):∃o,g.mu a=some o∧m.P g.im o:=Zm (F.own _ (List.mem_of_getElem? h)) fun o h1 h2 V=>⟨o,h1,h2⟩
theorem Frm.adv(F:Frm K b S' fn cs env nm σ own g)(hi:own[i]? = some (a,m))(l:LeX [a] g g')(h:∃o,g'.mu a=some o∧m'.P g'.im o)(hc:∀o w,m.P g.im o→o.data≠.cell w):Frm K b S' fn cs env nm σ (own.set i (a,m')) g':=by
 obtain⟨hlt,e⟩:=List.getElem?_eq_some_iff.mp hi
 have hsplit:own=own.take i++(a,m)::own.drop (i+1):=by
  rw[←e,←List.drop_eq_getElem_cons hlt,List.take_append_drop]
 have hset:own.set i (a,m')=own.take i++(a,m')::own.drop (i+1):=by
  rw[List.set_eq_take_append_cons_drop,if_pos hlt]
 rw[hsplit] at F
 rw[hset]
 exact ZcY ((Zd0 F).adv1 l h hc)
noncomputable def isBI:D→Bool | .raw (.builtin _)=>true | _=>false
theorem QI{o:Expr}{i j:Nat}(F:Frm K b S' fn cs env nm σ own g)(hc:ClsB K.B C N [.type "object"] newId mN)(hng:mN "__getattribute__" = none)(hna:mN attr=none)(hB:typeLookup (.type "object") attr=pure none)
  (hi:own[i]? = some (x,MO.obj (instObj C dx)))(hj:own[j]? = some (dx,MO.inst L))(hne:dx≠x)(hv:(attr,d)∈L)(ho:Pe K n g (eval o env) (.raw (.ref x)))(hb:autoParam (isBI d=false) Z5)(hbase:autoParam (attributeBase o attr env (eval o env)=eval o env) Z5) :
  Pe K n g (eval (.Attribute o attr pos) env) d:=fun A r g₁ l=>YI (Zg (ho A r g₁ l) fun v g₂ l₂ p=>by
  have:=Zk p;subst this
  refine Z4 (F.at hi) fun ox x1 x2=>?_
  refine Z4 (F.at hj) fun od d1 d2=>?_
  have hxo:ox=instObj C dx:=x2
  clear x2 p ho hj hi F;subst hxo
  exact Z14 hc hng hna hB (l₂.at (l.at x1)) (l₂.at (l.at d1)) ((MO.inst L).mono _ _ _ (l.trans l₂).im d2) hne hv (fun V z=>by rw[z] at hb;cases hb) fun v hv=>⟨l₂,hv⟩) hbase
theorem YQ{o value:Expr}{i j:Nat}{Q:Flow→Gh→Prop}(F:Frm K b S' fn cs env nm σ own g)(r:Room A n)(hc:ClsB K.B C N [.type "object"] newId mN)(hns:mN "__setattr__" = none)(hna:mN attr=none)(hB:typeLookup (.type "object") attr=pure none)(hxC:K.B.h₀.objs.size>C)
  (hi:own[i]? = some (x,MO.obj (instObj C dx)))(hj:own[j]? = some (dx,MO.inst L))(hne:dx≠x)(hsz:L.length≤1000)(ho:Pe K n g (eval o env) (.raw (.ref x)))(hval:Pe K n g (eval value env) d)
  (k:∀g',LeX [dx] g g'→Frm K b S' fn cs env nm σ (own.set j (dx,MO.inst (putN L attr d))) g'→gwp K A (execs rest env) Q g')
  (hs:autoParam (swapsWith value (some (.Attribute o attr pos')) pos.line env=pure false) Z5):gwp K A (execs (.Assign [.Attribute o attr pos'] value pos::rest) env) Q g:=
 Zf (QE (hval.use r fun v g₁ l₁ hv=>(ho.le l₁).useR r fun g₂ l₂=>by
  have F₂:=F.up (l₁.trans l₂)
  refine Z4 (F₂.at hi) fun ox x1 x2=>?_
  refine Z4 (F₂.at hj) fun od d1 d2=>?_
  have hxo:ox=instObj C dx:=x2
  clear x2 hval ho hi F;subst hxo
  refine Ye hc hns hna hB hxC x1 d1 d2 hne (hv.le l₂) (Nat.le_trans hsz (by decide)) fun o' ho'=>?_
  exact k _ ((LeX.of (l₁.trans l₂)).trans LeX.setMu) (F₂.adv hj LeX.setMu ⟨o',ZcI,ho'⟩ ZcP)) hs)
end
section
open PySem
theorem Z9W(x s:Nat):x&&&(x/2^s*2^s)=x/2^s*2^s:=by
 have e:x/2^s*2^s=(x >>> s) <<< s:=by rw[Nat.shiftLeft_eq,Nat.shiftRight_eq_div_pow]
 rw[e]
 apply Nat.eq_of_testBit_eq
 intro i
 rw[Nat.testBit_and,Nat.testBit_shiftLeft,Nat.testBit_shiftRight]
 by_cases h:s≤i
 ·simp[h]
 ·simp[h]
theorem Z8p(x s:Nat):Builtin.bitXor (x:Int) (((x/2^s:Nat):Int)*2^s)=((x%2^s:Nat):Int):=by
 rw[PyProof.Rows.bitXor_and]
 have e:(((x/2^s:Nat):Int)*2^s)=((x/2^s*2^s:Nat):Int):=by push_cast;rfl
 rw[e]
 have h:Builtin.bitAnd (x:Int) ((x/2^s*2^s:Nat):Int)=((x/2^s*2^s:Nat):Int):=by
  show((((x:Int).toNat&&&((x/2^s*2^s:Nat):Int).toNat:Nat)):Int)=_
  rw[Int.toNat_natCast,Int.toNat_natCast,Z9W]
 rw[h]
 have:=Nat.div_add_mod x (2^s)
 have h2:x/2^s*2^s=2^s*(x/2^s):=Nat.mul_comm _ _
 lia
theorem Z1i(a:Nat):a<2^(Builtin.Int.intBits (a:Int)):=by
 unfold Builtin.Int.intBits
 by_cases h:a=0
 ·subst h;simp
 ·have:((a:Int)==0)=false:=by simpa using h
  rw[this]
  exact Nat.lt_log2_self
theorem Q1{a k:Nat}(h:a<2^k):Builtin.Int.intBits (a:Int)≤k:=by
 unfold Builtin.Int.intBits
 by_cases h0:a=0
 ·subst h0;simp
 ·have:((a:Int)==0)=false:=by simpa using h0
  rw[this]
  exact(Nat.log2_lt h0).mpr h
theorem Z2b{a:Nat}(h:a≠0):1≤Builtin.Int.intBits (a:Int):=by
 unfold Builtin.Int.intBits
 have:((a:Int)==0)=false:=by simpa using h
 rw[this]
 simp
noncomputable def dig(n x i:Nat):Nat:=x/2^(n*i)%2^n
noncomputable def nd(n a:Nat):Nat:=(Builtin.Int.intBits (a:Int)+n-1)/n
theorem ZaO{n a:Nat}(hn:1≤n):a<2^(n*nd n a):=by
 refine Nat.lt_of_lt_of_le (Z1i a) (Nat.pow_le_pow_right (by exact Nat.succ_pos _) ?_)
 unfold nd
 generalize Builtin.Int.intBits (a:Int)=k
 have h1:=Nat.div_add_mod (k+n-1) n
 have h2:=Nat.mod_lt (k+n-1) (by exact hn:n>0)
 have h3:k+(n-1)≤n*((k+n-1)/n)+(n-1):=by
  rw[←Nat.add_sub_assoc hn]
  exact Nat.le_trans (Nat.le_of_eq h1.symm) (Nat.add_le_add_left (Nat.le_sub_one_of_lt h2) _)
 exact Nat.le_of_add_le_add_right h3
theorem Zca{n a k:Nat}(hn:1≤n)(h:a<2^k):nd n a≤k:=by
 unfold nd
 have hb:=Q1 h
 generalize Builtin.Int.intBits (a:Int)=j at hb
 refine Nat.le_trans (Nat.div_le_div_right (c:=n) (Nat.sub_le_sub_right (Nat.add_le_add_right hb n) 1)) ?_
 rw[Nat.div_le_iff_le_mul_add_pred (by exact hn)]
 rw[Nat.add_sub_assoc hn]
 exact Nat.add_le_add_right (Nat.le_mul_of_pos_left k hn) _
theorem Zbr(hn:1≤n)(h:a≠0):1≤nd n a:=by
 have hb:=Z2b h
 exact(Nat.le_div_iff_mul_le (by exact hn)).mpr (by rw[Nat.one_mul];exact Nat.le_sub_of_add_le (by rw[Nat.add_comm];exact Nat.add_le_add_right hb n))
theorem Z79{n:Nat}(hn:1≤n):nd n 0=0:=by
 unfold nd
 have:Builtin.Int.intBits ((0:Nat):Int)=0:=rfl
 rw[this]
 exact Nat.div_eq_of_lt (by rw[Nat.zero_add];exact Nat.sub_lt hn (by decide))
theorem Zaz{n x i j:Nat}(h:i<j):dig n (x%2^(j*n)) i=dig n x i:=by
 unfold dig
 have e:j*n=n*i+n*(j-i):=by rw[←Nat.mul_add,Nat.mul_comm,Nat.add_sub_cancel' (Nat.le_of_lt h)]
 rw[e,Nat.pow_add,Nat.mod_mul_right_div_self]
 have e2:2^(n*(j-i))=2^n*2^(n*(j-i-1)):=by
  rw[←Nat.pow_add];congr 1
  have:j-i=(j-i-1)+1:=(Nat.sub_add_cancel (Nat.sub_pos_of_lt h)).symm
  rw[this,Nat.mul_add];simp;exact Nat.add_comm _ _
 rw[e2,Nat.mod_mul_right_mod]
theorem Z9N{n x i j:Nat}:dig n (x/2^(j*n)) i=dig n x (j+i):=by
 unfold dig
 rw[Nat.div_div_eq_div_mul,←Nat.pow_add]
 congr 3
 rw[Nat.mul_add,Nat.mul_comm j n]
noncomputable def seg(n:Nat)(f:Nat→Nat):Nat→Nat→Nat
 |_,0=>0
 |L,k+1=>f L+2^n*seg n f (L+1) k
theorem Z4y(n:Nat)(f:Nat→Nat)(L k:Nat):seg n f L (k+1)=f L+2^n*seg n f (L+1) k:=rfl
theorem Yj(n:Nat)(f:Nat→Nat):∀(j L k:Nat),seg n f L (j+k)=seg n f L j+2^(j*n)*seg n f (L+j) k
 |0,L,k=>by simp[seg]
 |j+1,L,k=>by
  have:j+1+k=(j+k)+1:=by exact Nat.add_right_comm _ _ _
  rw[this,Z4y,Z4y,Yj n f j (L+1) k,Nat.mul_add,←Nat.mul_assoc,←Nat.pow_add,show L+1+j=L+(j+1) by exact Nat.add_right_comm _ _ _,show n+j*n=(j+1)*n by rw[Nat.add_mul];lia]
  exact(Nat.add_assoc _ _ _).symm
theorem Zb4(n:Nat)(f:Nat→Nat)(L j k:Nat):seg n f L j≤seg n f L (j+k):=by rw[Yj];exact Nat.le_add_right _ _
theorem Za9(n:Nat)(f:Nat→Nat)(L j k:Nat):seg n f (L+j) k≤seg n f L (j+k):=by
 rw[Yj]
 have:seg n f (L+j) k≤2^(j*n)*seg n f (L+j) k:=Nat.le_mul_of_pos_left _ (Nat.pow_pos (by exact Nat.succ_pos _))
 exact Nat.le_trans this (Nat.le_add_left _ _)
noncomputable def qd(n a c i:Nat):Nat:=(a/2^(n*(i+1))%c*2^n+dig n a i)/c
theorem Z73(n a i:Nat):a/2^(n*i)=a/2^(n*(i+1))*2^n+dig n a i:=by
 have e:n*(i+1)=n*i+n:=by rw[Nat.mul_add];simp
 rw[e,Nat.pow_add,←Nat.div_div_eq_div_mul]
 have:=Nat.div_add_mod (a/2^(n*i)) (2^n)
 rw[Nat.mul_comm] at this
 exact this.symm
theorem Z8B(n a c i:Nat):(a/2^(n*(i+1))%c*2^n+dig n a i)%c=a/2^(n*i)%c:=by
 conv=>rhs;rw[Z73]
 rw[Nat.add_mod,Nat.mul_mod,Nat.mod_mod,←Nat.mul_mod,←Nat.add_mod]
theorem Z8C{c:Nat}(n a i:Nat)(hc:0<c):a/2^(n*i)/c=a/2^(n*(i+1))/c*2^n+qd n a c i:=by
 unfold qd
 rw[Z73 n a i]
 generalize a/2^(n*(i+1))=A
 generalize dig n a i=d
 have h:A*2^n+d=c*(A/c*2^n)+(A%c*2^n+d):=by
  have:=Nat.div_add_mod A c
  conv=>lhs;rw[←this]
  rw[Nat.add_mul]
  rw[Nat.mul_assoc];exact Nat.add_assoc _ _ _
 rw[h,Nat.mul_add_div hc]
theorem Z3r{c:Nat}(n a:Nat)(hc:0<c):∀(k i:Nat),a/2^(n*(i+k))=0→seg n (qd n a c) i k=a/2^(n*i)/c
 |0,i,h=>by
  rw[Nat.add_zero] at h
  rw[h];simp[seg]
 |k+1,i,h=>by
  unfold seg
  rw[Z3r n a hc k (i+1) (by rw[show i+1+k=i+(k+1) by exact Nat.add_right_comm _ _ _];exact h),Z8C n a i hc,Nat.mul_comm]
  exact Nat.add_comm _ _
end
section
open PySem PySem.Spec PySem.Calls PyProof.Rows PySem.W
noncomputable def PB:List Stmt:=PySem.Challenge.pw_sc0063_01.main.body
noncomputable def GT:List (Str×Value):=[(Str.ofString "_wall",Value.ref 21),(Str.ofString "EMPTYSTRING",Value.str (Str.ofString "") 196),(Str.ofString "_Accumulator",Value.ref 101),(Str.ofString "_DIV_LIMIT",Value.int 4000 295),(Str.ofString "_div2n1n",Value.ref 112),(Str.ofString "_div3n2n",Value.ref 119),(Str.ofString "_int2digits",Value.ref 126),(Str.ofString "_digits2int",Value.ref 133),(Str.ofString "_divmod_pos",Value.ref 140),(Str.ofString "int_divmod",Value.ref 147),(Str.ofString "_netrclex",Value.ref 185),(Str.ofString "_law_stream",Value.ref 196),(Str.ofString "_law_divided",Value.ref 203),(Str.ofString "_law_doubled",Value.ref 210),(Str.ofString "_law_place",Value.ref 215),(Str.ofString "_law_words",Value.ref 222),(Str.ofString "_law_bare",Value.ref 227),(Str.ofString "_law_rounds",Value.ref 234),(Str.ofString "_law_stage",Value.ref 239),(Str.ofString "_law_pile",Value.ref 246),(Str.ofString "_law_state",Value.ref 251),(Str.ofString "law",Value.ref 256),(Str.ofString "super",Value.type "super"),(Str.ofString "sum",Value.builtin "sum"),(Str.ofString "len",Value.builtin "len"),(Str.ofString "divmod",Value.builtin "divmod"),(Str.ofString "reversed",Value.type "reversed"),(Str.ofString "ZeroDivisionError",Value.type "ZeroDivisionError"),(Str.ofString "iter",Value.builtin "iter"),(Str.ofString "range",Value.type "range"),(Str.ofString "list",Value.type "list"),(Str.ofString "sorted",Value.builtin "sorted"),(Str.ofString "enumerate",Value.type "enumerate"),(Str.ofString "zip",Value.type "zip"),(Str.ofString "set",Value.type "set"),(Str.ofString "str",Value.type "str"),(Str.ofString "max",Value.builtin "max")]
noncomputable def st_Ac:Stmt:=stNo PB 3
noncomputable def st_Ac_init:Stmt:=stNo (bodyOf st_Ac) 0
theorem Z6q:NamesOk (scopeOf st_Ac_init).names:=NamesOk.of (by decide +kernel)
noncomputable def sr_Ac_init:List SI:=[.no,.no,.outer 0,.glob 22]
theorem Z63:srcOk [("__class__",.cell)] (scopeOf st_Ac_init).names (mkSrcs GT sr_Ac_init)=true:=by decide +kernel
theorem Z6L:globIdx (GT.map (·.1)) (scopeOf st_Ac_init).names sr_Ac_init=true:=by decide +kernel
noncomputable abbrev a_Ac_init:Addr:=38
noncomputable abbrev c_Ac_init:Addr:=37
noncomputable abbrev fd_Ac_init:FuncData:=topFd st_Ac_init "_Accumulator.__init__" 37 [("__class__",25)] (Value.ref 30) (Value.str (Str.ofString "cpy313.email.header") 194) (Value.ref 31)
noncomputable def st_Ac_push:Stmt:=stNo (bodyOf st_Ac) 1
theorem Z6p:NamesOk (scopeOf st_Ac_push).names:=NamesOk.of (by decide +kernel)
noncomputable def sr_Ac_push:List SI:=[.no,.no,.no]
theorem Z62:srcOk [] (scopeOf st_Ac_push).names (mkSrcs GT sr_Ac_push)=true:=by decide +kernel
theorem Z6K:globIdx (GT.map (·.1)) (scopeOf st_Ac_push).names sr_Ac_push=true:=by decide +kernel
noncomputable abbrev a_Ac_push:Addr:=45
noncomputable abbrev c_Ac_push:Addr:=44
noncomputable abbrev fd_Ac_push:FuncData:=topFd st_Ac_push "_Accumulator.push" 44 [] (Value.none) (Value.str (Str.ofString "cpy313.email.header") 194) (Value.none)
noncomputable def st_Ac_pop:Stmt:=stNo (bodyOf st_Ac) 3
theorem Z7O:NamesOk (scopeOf st_Ac_pop).names:=NamesOk.of (by decide +kernel)
noncomputable def sr_Ac_pop:List SI:=[.no,.outer 0,.glob 22]
theorem Z7z:srcOk [("__class__",.cell)] (scopeOf st_Ac_pop).names (mkSrcs GT sr_Ac_pop)=true:=by decide +kernel
theorem Z87:globIdx (GT.map (·.1)) (scopeOf st_Ac_pop).names sr_Ac_pop=true:=by decide +kernel
noncomputable abbrev a_Ac_pop:Addr:=61
noncomputable abbrev c_Ac_pop:Addr:=60
noncomputable abbrev fd_Ac_pop:FuncData:=topFd st_Ac_pop "_Accumulator.pop" 60 [("__class__",25)] (Value.none) (Value.str (Str.ofString "cpy313.email.header") 194) (Value.ref 54)
noncomputable def st_Ac_len:Stmt:=stNo (bodyOf st_Ac) 4
theorem Z7P:NamesOk (scopeOf st_Ac_len).names:=NamesOk.of (by decide +kernel)
noncomputable def sr_Ac_len:List SI:=[.no,.glob 23]
theorem Z7A:srcOk [] (scopeOf st_Ac_len).names (mkSrcs GT sr_Ac_len)=true:=by decide +kernel
theorem Z88:globIdx (GT.map (·.1)) (scopeOf st_Ac_len).names sr_Ac_len=true:=by decide +kernel
noncomputable abbrev a_Ac_len:Addr:=68
noncomputable abbrev c_Ac_len:Addr:=67
noncomputable abbrev fd_Ac_len:FuncData:=topFd st_Ac_len "_Accumulator.__len__" 67 [] (Value.none) (Value.str (Str.ofString "cpy313.email.header") 194) (Value.none)
noncomputable def st_Ac_str:Stmt:=stNo (bodyOf st_Ac) 5
theorem Z7N:NamesOk (scopeOf st_Ac_str).names:=NamesOk.of (by decide +kernel)
noncomputable def sr_Ac_str:List SI:=[.no,.glob 1]
theorem Z7y:srcOk [] (scopeOf st_Ac_str).names (mkSrcs GT sr_Ac_str)=true:=by decide +kernel
theorem Z86:globIdx (GT.map (·.1)) (scopeOf st_Ac_str).names sr_Ac_str=true:=by decide +kernel
noncomputable abbrev a_Ac_str:Addr:=75
noncomputable abbrev c_Ac_str:Addr:=74
noncomputable abbrev fd_Ac_str:FuncData:=topFd st_Ac_str "_Accumulator.__str__" 74 [] (Value.none) (Value.str (Str.ofString "cpy313.email.header") 194) (Value.none)
noncomputable def st_Ac_pc:Stmt:=stNo (bodyOf st_Ac) 8
theorem Z98:NamesOk (scopeOf st_Ac_pc).names:=NamesOk.of (by decide +kernel)
noncomputable def sr_Ac_pc:List SI:=[.no,.outer 0,.glob 22]
theorem Z8H:srcOk [("__class__",.cell)] (scopeOf st_Ac_pc).names (mkSrcs GT sr_Ac_pc)=true:=by decide +kernel
theorem Z9I:globIdx (GT.map (·.1)) (scopeOf st_Ac_pc).names sr_Ac_pc=true:=by decide +kernel
noncomputable abbrev a_Ac_pc:Addr:=98
noncomputable abbrev c_Ac_pc:Addr:=97
noncomputable abbrev fd_Ac_pc:FuncData:=topFd st_Ac_pc "_Accumulator.part_count" 97 [("__class__",25)] (Value.none) (Value.str (Str.ofString "cpy313.email.header") 194) (Value.ref 91)
noncomputable def st_d21:Stmt:=stNo PB 6
theorem Zbq:NamesOk (scopeOf st_d21).names:=NamesOk.of (by decide +kernel)
noncomputable def sr_d21:List SI:=[.no,.no,.no,.no,.no,.no,.no,.no,.no,.no,.no,.glob 3,.glob 25,.glob 5]
theorem Zb3:srcOk [] (scopeOf st_d21).names (mkSrcs GT sr_d21)=true:=by decide +kernel
theorem ZbR:globIdx (GT.map (·.1)) (scopeOf st_d21).names sr_d21=true:=by decide +kernel
noncomputable abbrev a_d21:Addr:=112
noncomputable abbrev c_d21:Addr:=111
noncomputable abbrev fd_d21:FuncData:=topFd st_d21 "_div2n1n" 111 [] (Value.none) (Value.str (Str.ofString "cpy313._pylong") 293) (Value.none)
noncomputable def st_d32:Stmt:=stNo PB 7
noncomputable abbrev a_d32:Addr:=119
noncomputable abbrev c_d32:Addr:=118
noncomputable abbrev fd_d32:FuncData:=topFd st_d32 "_div3n2n" 118 [] (Value.none) (Value.str (Str.ofString "cpy313._pylong") 293) (Value.none)
noncomputable def st_i2d:Stmt:=stNo PB 8
theorem Zbn:NamesOk (scopeOf st_i2d).names:=NamesOk.of (by decide +kernel)
noncomputable def sr_i2d:List SI:=[.no,.no,.no,.no,.glob 24]
theorem Zb0:srcOk [] (scopeOf st_i2d).names (mkSrcs GT sr_i2d)=true:=by decide +kernel
theorem ZbO:globIdx (GT.map (·.1)) (scopeOf st_i2d).names sr_i2d=true:=by decide +kernel
noncomputable abbrev q_i2d_inner:Str:= "_int2digits.<locals>.inner"
noncomputable def st_i2d_inner:Stmt:=stNo (bodyOf st_i2d) 1
theorem QK:NamesOk (scopeOf st_i2d_inner).names:=NamesOk.of (by decide +kernel)
noncomputable def sr_i2d_inner:List SI:=[.no,.no,.no,.no,.no,.no,.no,.outer 2,.outer 3,.outer 1]
theorem JS:srcOk (scopeOf st_i2d).names (scopeOf st_i2d_inner).names (mkSrcs GT sr_i2d_inner)=true:=by decide +kernel
theorem Z42:globIdx (GT.map (·.1)) (scopeOf st_i2d_inner).names sr_i2d_inner=true:=by decide +kernel
noncomputable abbrev a_i2d:Addr:=126
noncomputable abbrev c_i2d:Addr:=125
noncomputable abbrev fd_i2d:FuncData:=topFd st_i2d "_int2digits" 125 [] (Value.none) (Value.str (Str.ofString "cpy313._pylong") 293) (Value.none)
noncomputable def st_d2i:Stmt:=stNo PB 9
theorem Zbp:NamesOk (scopeOf st_d2i).names:=NamesOk.of (by decide +kernel)
noncomputable def sr_d2i:List SI:=[.no,.no,.no,.glob 24]
theorem Zb2:srcOk [] (scopeOf st_d2i).names (mkSrcs GT sr_d2i)=true:=by decide +kernel
theorem ZbQ:globIdx (GT.map (·.1)) (scopeOf st_d2i).names sr_d2i=true:=by decide +kernel
noncomputable abbrev q_d2i_inner:Str:= "_digits2int.<locals>.inner"
noncomputable def st_d2i_inner:Stmt:=stNo (bodyOf st_d2i) 0
theorem QL:NamesOk (scopeOf st_d2i_inner).names:=NamesOk.of (by decide +kernel)
noncomputable def sr_d2i_inner:List SI:=[.no,.no,.no,.no,.outer 0,.outer 2,.outer 1]
theorem JT:srcOk (scopeOf st_d2i).names (scopeOf st_d2i_inner).names (mkSrcs GT sr_d2i_inner)=true:=by decide +kernel
theorem Z43:globIdx (GT.map (·.1)) (scopeOf st_d2i_inner).names sr_d2i_inner=true:=by decide +kernel
noncomputable abbrev a_d2i:Addr:=133
noncomputable abbrev c_d2i:Addr:=132
noncomputable abbrev fd_d2i:FuncData:=topFd st_d2i "_digits2int" 132 [] (Value.none) (Value.str (Str.ofString "cpy313._pylong") 293) (Value.none)
noncomputable def st_dmp:Stmt:=stNo PB 10
theorem Zbo:NamesOk (scopeOf st_dmp).names:=NamesOk.of (by decide +kernel)
noncomputable def sr_dmp:List SI:=[.no,.no,.no,.no,.no,.no,.no,.no,.no,.glob 6,.glob 26,.glob 4,.glob 7]
theorem Zb1:srcOk [] (scopeOf st_dmp).names (mkSrcs GT sr_dmp)=true:=by decide +kernel
theorem ZbP:globIdx (GT.map (·.1)) (scopeOf st_dmp).names sr_dmp=true:=by decide +kernel
noncomputable abbrev a_dmp:Addr:=140
noncomputable abbrev c_dmp:Addr:=139
noncomputable abbrev fd_dmp:FuncData:=topFd st_dmp "_divmod_pos" 139 [] (Value.none) (Value.str (Str.ofString "cpy313._pylong") 293) (Value.none)
noncomputable def st_idm:Stmt:=stNo PB 11
theorem Z6o:NamesOk (scopeOf st_idm).names:=NamesOk.of (by decide +kernel)
noncomputable def sr_idm:List SI:=[.no,.no,.no,.no,.glob 27,.glob 9,.glob 8]
theorem Z61:srcOk [] (scopeOf st_idm).names (mkSrcs GT sr_idm)=true:=by decide +kernel
theorem Z6J:globIdx (GT.map (·.1)) (scopeOf st_idm).names sr_idm=true:=by decide +kernel
noncomputable abbrev a_idm:Addr:=147
noncomputable abbrev c_idm:Addr:=146
noncomputable abbrev fd_idm:FuncData:=topFd st_idm "int_divmod" 146 [] (Value.none) (Value.str (Str.ofString "cpy313._pylong") 293) (Value.none)
noncomputable def st_nl:Stmt:=stNo PB 13
noncomputable def st_nl_init:Stmt:=stNo (bodyOf st_nl) 0
theorem Z6n:NamesOk (scopeOf st_nl_init).names:=NamesOk.of (by decide +kernel)
noncomputable def sr_nl_init:List SI:=[.no,.no]
theorem Z60:srcOk [] (scopeOf st_nl_init).names (mkSrcs GT sr_nl_init)=true:=by decide +kernel
theorem Z6I:globIdx (GT.map (·.1)) (scopeOf st_nl_init).names sr_nl_init=true:=by decide +kernel
noncomputable abbrev a_nl_init:Addr:=161
noncomputable abbrev c_nl_init:Addr:=160
noncomputable abbrev fd_nl_init:FuncData:=topFd st_nl_init "_netrclex.__init__" 160 [] (Value.none) (Value.str (Str.ofString "cpy313.netrc") 375) (Value.none)
noncomputable def st_nl_rc:Stmt:=stNo (bodyOf st_nl) 1
theorem Z96:NamesOk (scopeOf st_nl_rc).names:=NamesOk.of (by decide +kernel)
noncomputable def sr_nl_rc:List SI:=[.no,.no]
theorem Z8F:srcOk [] (scopeOf st_nl_rc).names (mkSrcs GT sr_nl_rc)=true:=by decide +kernel
theorem Z9G:globIdx (GT.map (·.1)) (scopeOf st_nl_rc).names sr_nl_rc=true:=by decide +kernel
noncomputable abbrev a_nl_rc:Addr:=168
noncomputable abbrev c_nl_rc:Addr:=167
noncomputable abbrev fd_nl_rc:FuncData:=topFd st_nl_rc "_netrclex._read_char" 167 [] (Value.none) (Value.str (Str.ofString "cpy313.netrc") 375) (Value.none)
noncomputable def st_nl_gt:Stmt:=stNo (bodyOf st_nl) 2
theorem Z4S:NamesOk (scopeOf st_nl_gt).names:=NamesOk.of (by decide +kernel)
noncomputable def sr_nl_gt:List SI:=[.no,.no,.no,.no,.glob 28]
theorem Z4t:srcOk [] (scopeOf st_nl_gt).names (mkSrcs GT sr_nl_gt)=true:=by decide +kernel
theorem Z5s:globIdx (GT.map (·.1)) (scopeOf st_nl_gt).names sr_nl_gt=true:=by decide +kernel
noncomputable abbrev a_nl_gt:Addr:=175
noncomputable abbrev c_nl_gt:Addr:=174
noncomputable abbrev fd_nl_gt:FuncData:=topFd st_nl_gt "_netrclex.get_token" 174 [] (Value.none) (Value.str (Str.ofString "cpy313.netrc") 375) (Value.none)
noncomputable def st_nl_pt:Stmt:=stNo (bodyOf st_nl) 3
theorem Z97:NamesOk (scopeOf st_nl_pt).names:=NamesOk.of (by decide +kernel)
noncomputable def sr_nl_pt:List SI:=[.no,.no]
theorem Z8G:srcOk [] (scopeOf st_nl_pt).names (mkSrcs GT sr_nl_pt)=true:=by decide +kernel
theorem Z9H:globIdx (GT.map (·.1)) (scopeOf st_nl_pt).names sr_nl_pt=true:=by decide +kernel
noncomputable abbrev a_nl_pt:Addr:=182
noncomputable abbrev c_nl_pt:Addr:=181
noncomputable abbrev fd_nl_pt:FuncData:=topFd st_nl_pt "_netrclex.push_token" 181 [] (Value.none) (Value.str (Str.ofString "cpy313.netrc") 375) (Value.none)
noncomputable def st_ls:Stmt:=stNo PB 15
theorem Zc6:NamesOk (scopeOf st_ls).names:=NamesOk.of (by decide +kernel)
noncomputable def sr_ls:List SI:=[.no,.no,.no]
theorem Zc1:srcOk [] (scopeOf st_ls).names (mkSrcs GT sr_ls)=true:=by decide +kernel
theorem Zcm:globIdx (GT.map (·.1)) (scopeOf st_ls).names sr_ls=true:=by decide +kernel
noncomputable abbrev q_ls_lrd:Str:= "_law_stream.<locals>._law_read"
noncomputable def st_ls_lrd:Stmt:=stNo (bodyOf st_ls) 0
theorem Z2P:NamesOk (scopeOf st_ls_lrd).names:=NamesOk.of (by decide +kernel)
noncomputable def sr_ls_lrd:List SI:=[.no,.outer 0]
theorem Z0n:srcOk (scopeOf st_ls).names (scopeOf st_ls_lrd).names (mkSrcs GT sr_ls_lrd)=true:=by decide +kernel
theorem Z85:globIdx (GT.map (·.1)) (scopeOf st_ls_lrd).names sr_ls_lrd=true:=by decide +kernel
noncomputable abbrev a_ls:Addr:=196
noncomputable abbrev c_ls:Addr:=195
noncomputable abbrev fd_ls:FuncData:=topFd st_ls "_law_stream" 195 [] (Value.none) (Value.str (Str.ofString "law_sc0063_01") 435) (Value.none)
noncomputable def st_law_divided:Stmt:=stNo PB 16
theorem Z1G:NamesOk (scopeOf st_law_divided).names:=NamesOk.of (by decide +kernel)
noncomputable def sr_law_divided:List SI:=[.no,.no,.no,.no,.no,.no,.glob 9,.glob 6]
theorem Z1t:srcOk [] (scopeOf st_law_divided).names (mkSrcs GT sr_law_divided)=true:=by decide +kernel
theorem Z22:globIdx (GT.map (·.1)) (scopeOf st_law_divided).names sr_law_divided=true:=by decide +kernel
noncomputable abbrev a_law_divided:Addr:=203
noncomputable abbrev c_law_divided:Addr:=202
noncomputable abbrev fd_law_divided:FuncData:=topFd st_law_divided "_law_divided" 202 [] (Value.none) (Value.str (Str.ofString "law_sc0063_01") 435) (Value.none)
noncomputable def st_law_doubled:Stmt:=stNo PB 17
theorem Z1F:NamesOk (scopeOf st_law_doubled).names:=NamesOk.of (by decide +kernel)
noncomputable def sr_law_doubled:List SI:=[.no,.no,.no,.no,.no,.glob 29]
theorem Z1s:srcOk [] (scopeOf st_law_doubled).names (mkSrcs GT sr_law_doubled)=true:=by decide +kernel
theorem Z21:globIdx (GT.map (·.1)) (scopeOf st_law_doubled).names sr_law_doubled=true:=by decide +kernel
noncomputable abbrev a_law_doubled:Addr:=210
noncomputable abbrev c_law_doubled:Addr:=209
noncomputable abbrev fd_law_doubled:FuncData:=topFd st_law_doubled "_law_doubled" 209 [] (Value.none) (Value.str (Str.ofString "law_sc0063_01") 435) (Value.none)
noncomputable def st_law_place:Stmt:=stNo PB 18
theorem Z3J:NamesOk (scopeOf st_law_place).names:=NamesOk.of (by decide +kernel)
noncomputable def sr_law_place:List SI:=[.no,.no,.glob 33]
theorem Z3o:srcOk [] (scopeOf st_law_place).names (mkSrcs GT sr_law_place)=true:=by decide +kernel
theorem Z41:globIdx (GT.map (·.1)) (scopeOf st_law_place).names sr_law_place=true:=by decide +kernel
noncomputable abbrev a_law_place:Addr:=215
noncomputable abbrev c_law_place:Addr:=214
noncomputable abbrev fd_law_place:FuncData:=topFd st_law_place "_law_place" 214 [] (Value.none) (Value.str (Str.ofString "law_sc0063_01") 435) (Value.none)
noncomputable def st_law_words:Stmt:=stNo PB 19
theorem Z3G:NamesOk (scopeOf st_law_words).names:=NamesOk.of (by decide +kernel)
noncomputable def sr_law_words:List SI:=[.no,.no,.no,.glob 10,.glob 11,.glob 30]
theorem Z3l:srcOk [] (scopeOf st_law_words).names (mkSrcs GT sr_law_words)=true:=by decide +kernel
theorem Z3Y:globIdx (GT.map (·.1)) (scopeOf st_law_words).names sr_law_words=true:=by decide +kernel
noncomputable abbrev a_law_words:Addr:=222
noncomputable abbrev c_law_words:Addr:=221
noncomputable abbrev fd_law_words:FuncData:=topFd st_law_words "_law_words" 221 [] (Value.none) (Value.str (Str.ofString "law_sc0063_01") 435) (Value.none)
noncomputable def st_law_bare:Stmt:=stNo PB 20
theorem Z4U:NamesOk (scopeOf st_law_bare).names:=NamesOk.of (by decide +kernel)
noncomputable def sr_law_bare:List SI:=[.no]
theorem Z4v:srcOk [] (scopeOf st_law_bare).names (mkSrcs GT sr_law_bare)=true:=by decide +kernel
theorem Z5u:globIdx (GT.map (·.1)) (scopeOf st_law_bare).names sr_law_bare=true:=by decide +kernel
noncomputable abbrev a_law_bare:Addr:=227
noncomputable abbrev c_law_bare:Addr:=226
noncomputable abbrev fd_law_bare:FuncData:=topFd st_law_bare "_law_bare" 226 [] (Value.none) (Value.str (Str.ofString "law_sc0063_01") 435) (Value.none)
noncomputable def st_law_rounds:Stmt:=stNo PB 21
theorem Z2m:NamesOk (scopeOf st_law_rounds).names:=NamesOk.of (by decide +kernel)
noncomputable def sr_law_rounds:List SI:=[.no,.no,.no,.no,.no,.no,.no,.no,.no,.glob 29,.glob 15,.glob 24,.glob 16]
theorem Z2j:srcOk [] (scopeOf st_law_rounds).names (mkSrcs GT sr_law_rounds)=true:=by decide +kernel
theorem Z2y:globIdx (GT.map (·.1)) (scopeOf st_law_rounds).names sr_law_rounds=true:=by decide +kernel
noncomputable abbrev a_law_rounds:Addr:=234
noncomputable abbrev c_law_rounds:Addr:=233
noncomputable abbrev fd_law_rounds:FuncData:=topFd st_law_rounds "_law_rounds" 233 [] (Value.none) (Value.str (Str.ofString "law_sc0063_01") 435) (Value.none)
noncomputable def st_law_stage:Stmt:=stNo PB 22
theorem Z3I:NamesOk (scopeOf st_law_stage).names:=NamesOk.of (by decide +kernel)
noncomputable def sr_law_stage:List SI:=[.no,.no,.no,.no,.no,.glob 29,.glob 24]
theorem Z3n:srcOk [] (scopeOf st_law_stage).names (mkSrcs GT sr_law_stage)=true:=by decide +kernel
theorem Z40:globIdx (GT.map (·.1)) (scopeOf st_law_stage).names sr_law_stage=true:=by decide +kernel
noncomputable abbrev a_law_stage:Addr:=239
noncomputable abbrev c_law_stage:Addr:=238
noncomputable abbrev fd_law_stage:FuncData:=topFd st_law_stage "_law_stage" 238 [] (Value.none) (Value.str (Str.ofString "law_sc0063_01") 435) (Value.none)
noncomputable def st_law_pile:Stmt:=stNo PB 23
theorem Z4T:NamesOk (scopeOf st_law_pile).names:=NamesOk.of (by decide +kernel)
noncomputable def sr_law_pile:List SI:=[.no,.no,.no,.no,.no,.no,.no,.no,.no,.no,.glob 2,.glob 33,.glob 24,.glob 35]
theorem Z4u:srcOk [] (scopeOf st_law_pile).names (mkSrcs GT sr_law_pile)=true:=by decide +kernel
theorem Z5t:globIdx (GT.map (·.1)) (scopeOf st_law_pile).names sr_law_pile=true:=by decide +kernel
noncomputable abbrev a_law_pile:Addr:=246
noncomputable abbrev c_law_pile:Addr:=245
noncomputable abbrev fd_law_pile:FuncData:=topFd st_law_pile "_law_pile" 245 [] (Value.none) (Value.str (Str.ofString "law_sc0063_01") 435) (Value.none)
noncomputable def st_law_state:Stmt:=stNo PB 24
theorem Z3H:NamesOk (scopeOf st_law_state).names:=NamesOk.of (by decide +kernel)
noncomputable def sr_law_state:List SI:=[.no,.no,.no,.no,.no,.no,.glob 29,.glob 24,.glob 34]
theorem Z3m:srcOk [] (scopeOf st_law_state).names (mkSrcs GT sr_law_state)=true:=by decide +kernel
theorem Z3Z:globIdx (GT.map (·.1)) (scopeOf st_law_state).names sr_law_state=true:=by decide +kernel
noncomputable abbrev a_law_state:Addr:=251
noncomputable abbrev c_law_state:Addr:=250
noncomputable abbrev fd_law_state:FuncData:=topFd st_law_state "_law_state" 250 [] (Value.none) (Value.str (Str.ofString "law_sc0063_01") 435) (Value.none)
noncomputable def st_law:Stmt:=stNo PB 25
theorem Zbm:NamesOk (scopeOf st_law).names:=NamesOk.of (by decide +kernel)
noncomputable def sr_law:List SI:=[.no,.no,.no,.no,.no,.no,.no,.no,.no,.no,.no,.no,.no,.no,.no,.no,.no,.no,.no,.glob 24,.glob 23,.glob 29,.glob 31,.glob 34,.glob 10,.glob 11,.glob 30,.glob 17,.glob 19,.glob 36]
theorem ZaZ:srcOk [] (scopeOf st_law).names (mkSrcs GT sr_law)=true:=by decide +kernel
theorem ZbN:globIdx (GT.map (·.1)) (scopeOf st_law).names sr_law=true:=by decide +kernel
noncomputable abbrev a_law:Addr:=256
noncomputable abbrev c_law:Addr:=255
noncomputable abbrev fd_law:FuncData:=topFd st_law "law" 255 [] (Value.none) (Value.str (Str.ofString "law_sc0063_01") 435) (Value.none)
noncomputable def QN:List (Nat×Nat×Str):=[(24,19, "_Accumulator.__len__.<locals>.<genexpr>"),(27,32, "_Accumulator.__str__.<locals>.<genexpr>"),(68,4, "_int2digits.<locals>.inner"),(83,4, "_digits2int.<locals>.inner"),(159,4, "_law_stream.<locals>._law_read"),(161,13, "_law_stream.<locals>.<lambda>"),(245,38, "law.<locals>.<lambda>")]
noncomputable def TABS:List (Addr×Addr):=[(67,63),(74,70),(125,121),(132,128),(195,191),(255,253)]
noncomputable def CN_Ac:List (Str×Value):=[(Str.ofString "__module__",Value.str (Str.ofString "cpy313.email.header") 194),(Str.ofString "__firstlineno__",Value.int 6 208),(Str.ofString "__init__",Value.ref 38),(Str.ofString "push",Value.ref 45),(Str.ofString "pop_from",Value.ref 53),(Str.ofString "pop",Value.ref 61),(Str.ofString "__len__",Value.ref 68),(Str.ofString "__str__",Value.ref 75),(Str.ofString "reset",Value.ref 83),(Str.ofString "is_onlyws",Value.ref 90),(Str.ofString "part_count",Value.ref 98),(Str.ofString "__static_attributes__",Value.ref 99),(Str.ofString "__dict__",Value.ref 102),(Str.ofString "__weakref__",Value.ref 103),(Str.ofString "__doc__",Value.none)]
noncomputable abbrev C_Ac:Addr:=101
noncomputable abbrev N_Ac:Addr:=100
noncomputable abbrev M_Ac:Str→Option Value:=fun x=>CN_Ac.lookup x
noncomputable def CN_nl:List (Str×Value):=[(Str.ofString "__module__",Value.str (Str.ofString "cpy313.netrc") 375),(Str.ofString "__firstlineno__",Value.int 113 387),(Str.ofString "__init__",Value.ref 161),(Str.ofString "_read_char",Value.ref 168),(Str.ofString "get_token",Value.ref 175),(Str.ofString "push_token",Value.ref 182),(Str.ofString "__static_attributes__",Value.ref 183),(Str.ofString "__dict__",Value.ref 186),(Str.ofString "__weakref__",Value.ref 187),(Str.ofString "__doc__",Value.none)]
noncomputable abbrev C_nl:Addr:=185
noncomputable abbrev N_nl:Addr:=184
noncomputable abbrev M_nl:Str→Option Value:=fun x=>CN_nl.lookup x
structure WX(K:Wd):Prop where
 gt:GtOk K.B GT
 md:ModB K.B
 qn:∀l c q,(l,c,q)∈QN→K.B.qn l c=some q
 tab:∀p∈TABS,p∈K.B.tabs
 f_Ac_init:FnB K.B a_Ac_init fd_Ac_init
 f_Ac_push:FnB K.B a_Ac_push fd_Ac_push
 f_Ac_pop:FnB K.B a_Ac_pop fd_Ac_pop
 f_Ac_len:FnB K.B a_Ac_len fd_Ac_len
 f_Ac_str:FnB K.B a_Ac_str fd_Ac_str
 f_Ac_pc:FnB K.B a_Ac_pc fd_Ac_pc
 f_d21:FnB K.B a_d21 fd_d21
 f_d32:FnB K.B a_d32 fd_d32
 f_i2d:FnB K.B a_i2d fd_i2d
 f_d2i:FnB K.B a_d2i fd_d2i
 f_dmp:FnB K.B a_dmp fd_dmp
 f_idm:FnB K.B a_idm fd_idm
 f_nl_init:FnB K.B a_nl_init fd_nl_init
 f_nl_rc:FnB K.B a_nl_rc fd_nl_rc
 f_nl_gt:FnB K.B a_nl_gt fd_nl_gt
 f_nl_pt:FnB K.B a_nl_pt fd_nl_pt
 f_ls:FnB K.B a_ls fd_ls
 f_law_divided:FnB K.B a_law_divided fd_law_divided
 f_law_doubled:FnB K.B a_law_doubled fd_law_doubled
 f_law_place:FnB K.B a_law_place fd_law_place
 f_law_words:FnB K.B a_law_words fd_law_words
 f_law_bare:FnB K.B a_law_bare fd_law_bare
 f_law_rounds:FnB K.B a_law_rounds fd_law_rounds
 f_law_stage:FnB K.B a_law_stage fd_law_stage
 f_law_pile:FnB K.B a_law_pile fd_law_pile
 f_law_state:FnB K.B a_law_state fd_law_state
 f_law:FnB K.B a_law fd_law
 k_Ac:ClsB K.B C_Ac N_Ac [Value.type "list",Value.type "object"] "list.__new__" M_Ac
 k_nl:ClsB K.B C_nl N_nl [Value.type "object"] "object.__new__" M_nl
 low:200<K.B.h₀.objs.size
 cc:K.B.im 25=some {cls:=.type "cell",data:=.cell (some (.ref C_Ac))}
 pr:K.prog=PySem.Challenge.pw_sc0063_01
 cf:∀c∈[c_Ac_init,c_Ac_pop,c_Ac_pc],∃oc vs t,K.B.im c=some oc∧oc.data=.fields vs∧vs[2]? = some (.str K.prog.main.file t)
 stt:∃o f,K.B.im cStatics=some o∧NsObj o f∧f "thirdparty.any" = none
 dv:∀a∈[(30:Addr)],∃o v n,K.B.im a=some o∧o.data=.seq #[v] n
end
section
open PySem PySem.Spec PySem.Calls PyProof.Rows PySem.W
variable{K:Wd}{A:Around}{g:Gh}{n:Nat}{env:Env}
theorem WX.qnOf(X:WX K)(h:(l,c,q)∈QN):K.B.qn l c=some q:=X.qn l c q h
theorem Z7q(X:WX K)(h1:b≠0)(h2:Builtin.divisionGoesByPylong a b=false)(h3:(Builtin.Int.intBits a:Int)-m≤4000) :
  CallSem K (n+3) g (.ref a_d21) [.int a,.int b,.int m] (.tup [.int (a.fdiv b),.int (a.fmod b)]):=fun g V vs hvs A r g₁ l=>by
 refine Jk (Z1w hvs) ?_
 clear hvs;rintro va vb vm rfl ra rb rm
 refine Zh (fn:=[]) (S':=[]) (binds:=[("a",va),("b",vb),("n",vm)]) (bi:=[(0,.int a),(1,.int b),(2,.int m)]) X.f_d21 (r.sub (by exact Nat.le_refl _)) (Ze (by rfl)) Zbq Zb3 (Z3 X.gt ZbR)
  ⟨.inl rfl,ra.le l,.inl rfl,rb.le l,.inl rfl,rm.le l,trivial⟩ (n:=n+1) fun A' L cells cs g' r' H=>?_
 have lH:=H.le
 refine Jd (v:=decide ((Builtin.Int.intBits a:Int)-m≤4000)) r' ?_ ?_ ?_
 ·exact Zx (Z8 (Ja F.plainAttrs_int F.slot_int_bit_length F.type_int_bit_length (pn H 0) Z2 Ju) (pn H 2) Qm) (Z7J (pn H 11)) Zc4
 ·intro V g' l'
  refine ZM r' (Zt (pn (H.up l') 12) (by intro a z;cases z) (Z1 (pn (H.up l') 0) (Z1 (pn (H.up l') 1) Z2)) (Z8f h1 h2)) fun v g'' l'' hr=>?_
  exact⟨lH.trans (l'.trans l''),hr⟩
 ·intro hv;simp[h3] at hv
noncomputable def digsD(n x k:Nat):List D:=(List.range k).map fun i=>.int (dig n x i)
theorem ZL(n x k:Nat):(digsD n x k).length=k:=by simp[digsD]
theorem Z5y(h:j≤k):digsD n (x%2^(j*n)) j++digsD n (x/2^(j*n)) (k-j)=digsD n x k:=by
 unfold digsD
 apply List.ext_getElem (by simp;exact Nat.add_sub_cancel' h)
 intro i h1 h2
 simp at h2
 rw[List.getElem_append]
 split
 ·rename_i hi;simp at hi
  simp[Zaz hi]
 ·rename_i hi;simp at hi
  simp only[List.getElem_map,List.getElem_range,Z9N,List.length_map,List.length_range]
  have:j+(i-j)=i:=Nat.add_sub_cancel' hi
  rw[this]
theorem Z3q(a s:Nat):(a:Int).fdiv (2^((s:Int)).toNat)=((a/2^s:Nat):Int):=by
 rw[Int.toNat_natCast]
 have:((2:Int)^s)=((2^s:Nat):Int):=by push_cast;rfl
 rw[this]
 rw[Int.fdiv_eq_ediv_of_nonneg _ (Int.natCast_nonneg _)]
 exact(Int.natCast_ediv _ _).symm
theorem Z75(a s:Nat):(a:Int)*2^((s:Int)).toNat=((a*2^s:Nat):Int):=by
 rw[Int.toNat_natCast];push_cast;rfl
theorem ZaR{L k:Nat}(h:((L:Int)+1==((L+k:Nat):Int))=true):k=1:=by
 have:=beq_iff_eq.mp h
 rw[←Int.natCast_one,←Int.natCast_add,Int.natCast_inj] at this
 exact(Nat.add_left_cancel this).symm
theorem ZaQ{L k:Nat}(h:((L:Int)+1==((L+k:Nat):Int))=false)(h1:1≤k):2≤k:=Nat.lt_of_le_of_ne h1 fun e=>by rw[←e] at h;exact(beq_eq_false_iff_ne.mp h) rfl
theorem Z7a(L k:Nat):(L+(L+k))/2^1=L+k/2:=by
 rw[←Nat.add_assoc,←Nat.two_mul,Nat.pow_one,Nat.mul_add_div (by decide)]
theorem Qk(L j:Nat):(((L+j:Nat):Int)-(L:Int))=((j:Nat):Int):=by rw[Int.natCast_add,Int.add_comm,Int.add_sub_cancel]
theorem rm4(h:j<k):4*j+4≤4*k+2:=Nat.le_trans (Nat.mul_le_mul_left 4 h) (Nat.le_add_right _ _)
noncomputable def fdInner(cl:List (Str×Addr))(c':Addr)(pm ct:Value):FuncData:=nestFd "inner" q_i2d_inner (paramsOf st_i2d_inner) (.stmts (bodyOf st_i2d_inner)) (scopeOf st_i2d_inner) cl c' pm ct
noncomputable def sgI(m:Nat)(ad ai:Addr):List (Option D):=[none,none,none,none,none,none,none,some (.raw (.ref ad)),some (.raw (.ref ai)),some (.int m)]
theorem Z8L(m:Nat)(ad ai:Addr):sgI m ad ai=srcSt [none,some (.int m),some (.raw (.ref ad)),some (.raw (.ref ai)),none] (mkSrcs GT sr_i2d_inner):=rfl
theorem Z4i(X:WX K){ai ad:Addr}(hm:1≤m):∀(k:Nat) (x L:Nat) (g:Gh) (A:Around) (ds:List D) (its:Array Value) (mm:Nat) (vs:List Value),
  1≤k→x<2^(m*k)→m*k≤64→L+k≤ds.length→L+k<2^40→Room A (4*k+4)→FnAt g ai (fdInner cl c' pm ct)→ClosOk (scopeOf st_i2d_inner).names cl (sgI m ad ai) g→g.mu ad=some (sq "list" its mm)→ai≠ad→Z7 g.im ds its.toList→Z7 g.im [.int x,.int L,.int (L+k:Nat)] vs→
  gwp K A (call (.ref ai) vs) (fun v g'=>v=.none∧LeX [ad] g g'∧∃its' mm',g'.mu ad=some (sq "list" its' mm')∧Z7 g'.im (putD ds L (digsD m x k)) its'.toList) g:=by
 intro k
 induction k using Nat.strongRecOn with
 |_ k ih=>
 intro x L g A ds its mm vs hk hx h64 hL h40 r hf hcl had hne hds hvs
 refine Jk (Z1w hvs) ?_
 rintro vx vL vR rfl rx rL rR
 refine YU (n:=4*k+2) (σ:=sgI m ad ai) (fn:=[]) (S':=[]) (binds:=[("x",vx),("L",vL),("R",vR)]) (bi:=[(0,.int x),(1,.int L),(2,.int (L+k:Nat))]) r hf rfl (Ze (by rfl)) QK
  (by rw[Z8L];exact J7 JS) (by rw[Z8L];exact Jh JS (Z3 X.gt Z42)) hcl
  ⟨.inl rfl,rx,.inl rfl,rL,.inl rfl,rR,trivial⟩ (fun A' L' cells cs g' r' hL1 hL2 hcs H=>?_)
 have l0:=H.le
 have hnl:ad∉L'::cs:=fun hm'=>by
  rcases List.mem_cons.mp hm' with rfl | hm'
  ·cases((hL1).symm.trans had)
  ·cases(((hcs _ hm').1).symm.trans had)
 replace H:=(H.may (S'':=[ad]) (by simp)).adopt' (ms:=[(ad,MO.list ds)]) (fun p hp=>by simp at hp;subst hp;exact⟨_,Le.at l0 had,its,mm,rfl,hds.mono l0.im⟩) (by simp) (fun a ha=>by
  simp at ha;subst ha
  rw[List.map_nil,List.append_nil];exact hnl) (by simp)
 change gwp K A' (execs (bodyOf st_i2d_inner) (fnEnv (fdInner cl c' pm ct) ai L' cells)) _ g'
 have up:∀g'',LeX [ad] g g''→(∃o,g''.mu ad=some o)→FnAt g'' ai (fdInner cl c' pm ct)∧ClosOk (scopeOf st_i2d_inner).names cl (sgI m ad ai) g'':=fun g'' l he=>by
  refine⟨hf.up l (fun a ha=>?_),hcl.up l (fun a ha=>.inr fun o w e=>?_) fun p hp=>?_⟩
  ·simp at ha;subst ha
   exact⟨Ne.symm hne,fun o e vs=>by cases((had).symm.trans e);intro z;cases z⟩
  ·simp at ha;subst ha
   cases((had).symm.trans e);intro z;cases z
  ·refine Zi (hcl.has p hp) fun o ho=>?_
   by_cases hpa:p.2=ad
   ·rw[hpa];obtain⟨o,ho⟩:=he;exact⟨o,.inr ho⟩
   ·exact⟨o,ho.imp (l.im _ _) (l.mu _ _ (by simpa using hpa))⟩
 refine Jd (v:=((L:Int)+1==((L+k:Nat):Int))) r' (Zx (Z8 (pn H 1) Z9 ZQ) (pn H 2) Y6) ?_ ?_
 ·intro hv g₁ l₁
  have hk1:k=1:=ZaR hv
  subst hk1
  replace H:=H.up l₁
  refine Zf (Z5Y ((pn H 0).use r' fun v g₂ l₂ rv=>(pn (H.up l₂) 7).useR r' fun g₃ l₃=>(pn (H.up (l₂.trans l₃)) 1).use r' fun iv g₄ l₄ ri=>?_))
  refine Zi (Zo ri) ?_
  rintro t rfl
  replace H:=H.up (l₂.trans (l₃.trans l₄))
  obtain⟨o,e1,its₁,m₁,rfl,hr⟩:=H.own1
  have hsz:its₁.size=ds.length:=by rw[←Array.length_toList,hr.length]
  refine Z58 e1 (by rw[hsz];exact hL) (Nat.lt_trans (Nat.lt_of_succ_lt h40) (by decide)) fun m'=>?_
  have H':=H.setList (m':=m') (hr.setA L (rv.le (l₃.trans l₄)))
  refine Zf (Z4s ?_)
  refine⟨rfl,H'.le,_,_,ZcI,?_⟩
  obtain⟨o,e2,its₂,m₂,e3,hr₂⟩:=H'.own1
  cases((ZcI).symm.trans e2);cases e3
  have:digsD m x 1=[.int x]:=by
   have h0:dig m x 0=x:=by
    unfold dig
    rw[Nat.mul_zero,Nat.pow_zero,Nat.div_one,Nat.mod_eq_of_lt (by rw[Nat.mul_one] at hx;exact hx)]
   simp[digsD,h0]
  rw[this,Z8S (by assumption)]
  exact hr₂
 ·intro hv g₁ l₁
  have hk2:2≤k:=ZaQ hv (by assumption)
  replace H:=H.up l₁
  refine JW ?_
  obtain⟨j,hj⟩:∃j,j=k/2:=⟨_,rfl⟩
  have hj1:1≤j:=hj▸Nat.div_pos hk2 (by decide)
  have hjk:j<k:=hj▸Nat.div_lt_self (Nat.lt_of_lt_of_le (by decide) hk2) (by decide)
  have hmj:m*j≤64:=Nat.le_trans (Nat.mul_le_mul_left m (by exact Nat.le_of_lt ‹_›)) h64
  have hLj:L+j≤ds.length:=Nat.le_trans (Nat.add_le_add_left (Nat.le_of_lt hjk) L) hL
  have hmk:m*j+m*(k-j)=m*k:=by rw[←Nat.mul_add,Nat.add_sub_cancel' (Nat.le_of_lt hjk)]
  refine Jc H r' (i:=3) (d:=.int (L+j:Nat)) rfl ((Z8 (Z8 (pn H 1) (pn H 2) ZQ) Z9 (Z6j (by decide))).is ?_) fun g₂ l₂ H=>?_
  ·have:=Z3q (L+(L+k)) 1
   congr 1
   have e:((L:Int)+((L+k:Nat):Int))=((L+(L+k):Nat):Int):=by push_cast;rfl
   rw[e]
   refine this.trans ?_
   rw[Z7a,hj]
  refine Jc H r' (i:=4) (d:=.int (j*m:Nat)) rfl ((Z8 (Z8 (pn H 3) (pn H 1) Qm) (pn H 9) (Jq (IntMulOk.of_left ?_))).is ?_) fun g₃ l₃ H=>?_
  ·have e:=Qk L j
   rw[e]
   exact Q1 (Nat.lt_of_lt_of_le Nat.lt_two_pow_self (Nat.pow_le_pow_right (by exact Nat.le_add_left _ _) (Nat.le_trans (Nat.le_mul_of_pos_left j hm) hmj)))
  ·congr 1
   have e:=Qk L j
   rw[e];push_cast;rfl
  refine Jc H r' (i:=5) (d:=.int (x/2^(j*m):Nat)) rfl ((Z8 (pn H 0) (pn H 4) (Z6j (by exact Int.natCast_nonneg _))).is (by rw[Z3q])) fun g₄ l₄ H=>?_
  have hup:x/2^(j*m)<2^(m*(k-j)):=by
   refine Nat.div_lt_of_lt_mul ?_
   rw[←Nat.pow_add,show j*m+m*(k-j)=m*k by rw[←hmk,Nat.mul_comm]]
   exact hx
  refine Jc H r' (i:=6) (d:=.int (x%2^(j*m):Nat)) rfl ((Z8 (pn H 0) (Z8 (pn H 5) (pn H 4) (Z6k (by exact Int.natCast_nonneg _) ?_ ?_)) Zbj).is ?_) fun g₅ l₅ H=>?_
  ·have:j*m≤64:=by rw[Nat.mul_comm];exact hmj
   exact Int.le_trans (Int.ofNat_le.mpr this) (by decide)
  ·rw[Int.natAbs_natCast]
   exact Nat.lt_of_lt_of_le hup (Nat.pow_le_pow_right (by exact Nat.le_add_left _ _) (Nat.le_trans (Nat.mul_le_mul_left m (Nat.sub_le k j)) h64))
  ·rw[Int.toNat_natCast,Z8p]
  obtain⟨o,e1,its₁,m₁,rfl,hr⟩:=H.own1
  refine ZG (up g₅ H.le ⟨_,e1⟩) fun hf₁ hcl₁=>?_
  refine Zf (JF (Z0B r' (pn H 8) hf₁ (Z1 (pn H 6) (Z1 (pn H 1) (Z1 (pn H 3) Z2))) fun vs g₆ l₆ rs=>?_) H.inter)
  refine Za (ih j hjk (x%2^(j*m)) L g₆ A' ds its₁ m₁ vs hj1 (by rw[Nat.mul_comm m j];exact Nat.mod_lt _ (Nat.pow_pos (by exact Nat.le_add_left _ _))) hmj hLj (Nat.lt_of_le_of_lt (Nat.add_le_add_left (Nat.le_of_lt hjk) L) h40) (r'.sub (rm4 hjk)) (hf₁.le l₆) (hcl₁.le l₆) (Le.at l₆ e1) hne (hr.mono l₆.im) rs) fun v g₇ z₀=>Z0K z₀ fun hv0 l₇ v00=>ZP v00 fun its₂ m₂ e2 hr₂=>?_
  subst hv0
  refine⟨(fun a z=>by cases z),?_⟩
  have H₇:=(H.up l₆).adv1 (m':=MO.list (putD ds L (digsD m (x%2^(j*m)) j))) l₇ ⟨_,e2,its₂,m₂,rfl,hr₂⟩ ZcN
  refine ZG (up g₇ H₇.le ⟨_,e2⟩) fun hf₂ hcl₂=>?_
  have hlen:(putD ds L (digsD m (x%2^(j*m)) j)).length=ds.length:=Z4I (by rw[ZL];exact hLj)
  refine Zf (JF (Z0B r' (pn H₇ 8) hf₂ (Z1 (pn H₇ 5) (Z1 (pn H₇ 3) (Z1 (pn H₇ 2) Z2))) fun vs g₈ l₈ rs=>?_) H₇.inter)
  have hLk:L+k=L+j+(k-j):=by rw[Nat.add_assoc,Nat.add_sub_cancel' (Nat.le_of_lt hjk)]
  rw[hLk] at rs
  refine Za (ih (k-j) (Nat.sub_lt (Nat.lt_trans hj1 hjk) hj1) (x/2^(j*m)) (L+j) g₈ A' _ its₂ m₂ vs (Nat.sub_pos_of_lt hjk) hup (Nat.le_trans (Nat.mul_le_mul_left m (Nat.sub_le k j)) h64) (by rw[hlen,←hLk];exact hL) (hLk▸h40) (r'.sub (rm4 (Nat.sub_lt (Nat.lt_trans hj1 hjk) hj1))) (hf₂.le l₈) (hcl₂.le l₈) (Le.at l₈ e2) hne (hr₂.mono l₈.im) rs) fun v g₉ z₀=>Z0K z₀ fun hv0 l₉ v00=>ZP v00 fun its₃ m₃ e3 hr₃=>?_
  subst hv0
  refine⟨(fun a z=>by cases z),ZC ⟨rfl,?_,its₃,m₃,e3,?_⟩⟩
  ·exact(H₇.le.trans (LeX.of l₈)).trans l₉
  ·have:=Z8R (ds:=ds) (v:=digsD m (x%2^(j*m)) j) (w:=digsD m (x/2^(j*m)) (k-j)) (L:=L) (by rw[ZL];exact hLj)
   rw[ZL,Z5y (by exact Nat.le_of_lt ‹_›)] at this
   rw[this] at hr₃
   exact hr₃
theorem Yv:(("_int2digits":Str)++ ".<locals>.")++ "inner" = q_i2d_inner:=by decide +kernel
theorem Z01(X:WX K)(hm:1≤m)(hm2:m≤60)(ha:a<2^60)(hk:m*nd m a≤64):CallSem K (n+270) g (.ref a_i2d) [.int a,.int m] (.lst (digsD m a (nd m a))):=fun g V vs hvs A r g₁ l=>by
 refine Zw (Jn hvs) ?_
 rintro va vm rfl ra rm
 have hnd:nd m a≤60:=Zca hm ha
 refine Zh (fn:=[1,2,3]) (S':=[]) (binds:=[("a",va),("n",vm)]) (bi:=[(0,.int a),(1,.int m)]) X.f_i2d (r.sub (Nat.le_refl _)) (Ze (by rfl)) Zbn Zb0 (Z3 X.gt ZbO)
  ⟨.inl rfl,ra.le l,.inr ⟨rfl,by decide⟩,rm.le l,trivial⟩ (n:=n+268) fun A' L cells cs g' r' H=>?_
 refine Zf (J3 (Z32 ((Yn (Z1 Z9 Z2)).use r' fun v g₂ l₂ rv=>?_)))
 refine Z9z (.int (nd m a:Nat)) ((Z8 (Z8 (Z8 (Ja F.plainAttrs_int F.slot_int_bit_length F.type_int_bit_length (pn (H.up l₂) 0) Z2 Ju) (pn (H.up l₂) 1) ZQ) Z9 Qm) (pn (H.up l₂) 1) (Zbk (by exact Int.ne_of_gt (Int.ofNat_lt.mpr hm)) (PyProof.noPylong_small (by rw[Int.natAbs_natCast];exact Nat.lt_of_le_of_lt hm2 (by decide))))).is ?_) r' fun v2 g₃ l₃ rv2=>?_
 ·
  congr 1
  have e:(((Builtin.Int.intBits (a:Int):Nat):Int)+(m:Int)-1)=((Builtin.Int.intBits (a:Int)+m-1:Nat):Int):=(Int.ofNat_sub (Nat.le_trans hm (Nat.le_add_left _ _))).symm
  rw[e,Int.fdiv_eq_ediv_of_nonneg _ (Int.natCast_nonneg _)]
  exact(Int.natCast_ediv _ _).symm
 refine Zi (Zo rv2) ?_
 rintro t rfl
 refine Z6C (rv.le l₃) (Int.le_trans (by decide) (Int.natCast_nonneg _)) (Int.lt_of_le_of_lt (Int.ofNat_le.mpr hnd) (by decide)) (by rw[Int.toNat_natCast,List.length_singleton,Nat.one_mul];exact Nat.le_trans hnd (by decide)) fun ad its h1 h2 hr=>?_
 have H₃:=(H.up (l₂.trans l₃)).addOwn (a:=ad) (m:=MO.list (List.replicate (nd m a) (.int 0))) (o:=sq "list" its 0) ⟨its,0,rfl,by simpa [List.flatten_replicate_singleton] using hr⟩ h2 (Le.nomu (H.le.trans (l₂.trans l₃)) h2)
 refine H₃.storeCell (i:=2) rfl (by decide) (d:=.raw (.ref ad)) Zl fun g₄ l₄ H=>?_
 refine Z9w (src:=mkSrcs GT sr_i2d_inner) (c:=c_i2d) (P:=121) (i:=3) (q:=q_i2d_inner) X.md H rfl (.inr ⟨rfl,by decide⟩) QK JS rfl (X.tab _ (by decide)) (X.qnOf (by decide +kernel)) Yv (by rfl) fun ai fdi g₅ c' pm ct hfd hfn l₅ H=>?_
 refine Jd (v:=((a:Int) !=0)) r' (Z3v (pn H 0) Z7w) ?_ ?_
 ·intro hv g₆ l₆
  have ha0:a≠0:=by rintro rfl;cases hv
  replace H:=H.up l₆
  have hnd1:=Zbr hm ha0
  obtain⟨o,e1,its₁,m₁,rfl,hr⟩:=H.own1
  have hsz:its₁.size=nd m a:=by rw[←Array.length_toList,hr.length,List.length_replicate]
  have hcl:ClosOk (scopeOf st_i2d_inner).names (closOf (newEnv (scopeOf st_i2d) L mainGlobals cells ("_int2digits"++ ".<locals>.") (some a_i2d) (.ref c_i2d) none builtinsNs).cells (scopeOf st_i2d_inner).names []) (sgI m ad ai) g₆:=(H.clos QK JS).2
  refine Zf (JF (Z0B r' (pn H 3) (hfn.le l₆) (Z1 (pn H 0) (Z1 Z9 (Z1 (Zt (pn H 4) (by intro a z;cases z) (Z1 (pn H 2) Z2) (Z8c e1 (by rw[hsz];exact Nat.lt_of_le_of_lt hnd (by decide)))) Z2))) fun vs g₇ l₇ rs=>?_) H.inter)
  replace H:=H.up l₇
  refine Qn fun z₀=>Zi z₀ fun s ok=>?_
  have hne:ai≠ad:=(hfn.le (l₆.trans l₇)).ne ok (Le.at l₇ e1) (fun fd z=>by cases z)
  subst hfd
  refine Za (Z4i X hm (nd m a) a 0 g₇ A' (List.replicate (nd m a) (.int 0)) its₁ m₁ vs hnd1 (ZaO hm) hk (by simp) (Nat.lt_of_le_of_lt (Nat.le_trans (Nat.le_of_eq (Nat.zero_add _)) hnd) (by decide)) (r'.sub (Nat.le_trans (Nat.add_le_add_right (Nat.mul_le_mul_left 4 hnd) 4) (Nat.le_trans (show 4*60+4≤268 by decide) (Nat.le_add_left _ _)))) (hfn.le (l₆.trans l₇)) (hcl.le l₇) (Le.at l₇ e1) hne (hr.le l₇) (by simpa [hsz] using rs)) fun v g₈ z₀=>Z0K z₀ fun hv0 l₈ v00=>ZP v00 fun its₂ m₂ e2 hr₂=>?_
  subst hv0
  refine⟨(fun a z=>by cases z),?_⟩
  rw[Z8T (by rw[ZL,List.length_replicate])] at hr₂
  have H₈:=H.adv1 (m':=MO.list (digsD m a (nd m a))) l₈ ⟨_,e2,its₂,m₂,rfl,hr₂⟩ ZcN
  refine JW (Qa H₈ fun g₉ l₉ H₉ hr₉=>?_)
  refine ZM r' (pn H₉ 2) fun v g₁₀ l₁₀ hv=>?_
  have:=Zk hv;subst this
  exact⟨H₉.le.trans l₁₀,hr₉.le l₁₀⟩
 ·intro hv g₆ l₆
  refine JW ?_
  have ha0:a=0:=by lia
  subst ha0
  rw[Z79 hm] at H
  refine Qa (H.up l₆) fun g₉ l₉ H₉ hr₉=>?_
  refine ZM r' (pn H₉ 2) fun v g₁₀ l₁₀ hv=>?_
  have:=Zk hv;subst this
  rw[Z79 hm]
  exact⟨H₉.le.trans l₁₀,hr₉.le l₁₀⟩
noncomputable def numsD(f:Nat→Nat)(N:Nat):List D:=(List.range N).map fun i=>.int (f i)
theorem Jl(f:Nat→Nat)(N:Nat):(numsD f N).length=N:=by simp[numsD]
theorem Z99(h:i<N):atInt (numsD f N) (i:Int)=some (.int (f i)):=by rw[Jm];simp[numsD,h]
noncomputable def sgJ(f:Nat→Nat)(N m:Nat)(ai:Addr):List (Option D):=[none,none,none,none,some (.lst (numsD f N)),some (.raw (.ref ai)),some (.int m)]
theorem Z8K(f:Nat→Nat)(N m:Nat)(ai:Addr):sgJ f N m ai=srcSt [some (.lst (numsD f N)),some (.int m),some (.raw (.ref ai)),none] (mkSrcs GT sr_d2i_inner):=rfl
noncomputable def fdInner2(cl:List (Str×Addr))(c':Addr)(pm ct:Value):FuncData:=nestFd "inner" q_d2i_inner (paramsOf st_d2i_inner) (.stmts (bodyOf st_d2i_inner)) (scopeOf st_d2i_inner) cl c' pm ct
theorem Z4j(X:WX K){ai:Addr}(hm:1≤m)(hN:m*N≤10000)(hb:∀L k,L+k≤N→seg m f L k<2^64):∀(k L:Nat) (g:Gh),
  1≤k→L+k≤N→FnAt g ai (fdInner2 cl c' pm ct)→ClosOk (scopeOf st_d2i_inner).names cl (sgJ f N m ai) g→CallSem K (4*k+4) g (.ref ai) [.int L,.int (L+k:Nat)] (.int (seg m f L k)):=by
 intro k
 induction k using Nat.strongRecOn with
 |_ k ih=>
 intro L g₀ hk hL hf hcl g l₀ vs hvs A r g₁ l
 refine Zw (Jn hvs) ?_
 rintro vL vR rfl rL rR
 have hmN:N≤m*N:=Nat.le_mul_of_pos_left N hm
 refine YU (n:=4*k+2) (σ:=sgJ f N m ai) (fn:=[]) (S':=[]) (binds:=[("L",vL),("R",vR)]) (bi:=[(0,.int L),(1,.int (L+k:Nat))]) r (hf.le (l₀.trans l)) rfl (Ze (by rfl)) QL
  (by rw[Z8K];exact J7 JT) (by rw[Z8K];exact Jh JT (Z3 X.gt Z43)) (hcl.le (l₀.trans l))
  ⟨.inl rfl,rL.le l,.inl rfl,rR.le l,trivial⟩ (fun A' L' cells cs g' r' hL1 hL2 hcs H=>?_)
 have lH:=H.le
 have hf':FnAt g' ai (fdInner2 cl c' pm ct):=hf.le ((l₀.trans l).trans lH)
 have hcl':=hcl.le ((l₀.trans l).trans lH)
 change gwp K A' (execs (bodyOf st_d2i_inner) (fnEnv (fdInner2 cl c' pm ct) ai L' cells)) _ g'
 refine Jd (v:=((L:Int)+1==((L+k:Nat):Int))) r' (Zx (Z8 (pn H 0) Z9 ZQ) (pn H 1) Y6) ?_ ?_
 ·intro hv g₂ l₂
  have hk1:k=1:=ZaR hv
  subst hk1
  refine ZM r' (Jb (pn (H.up l₂) 4) (pn (H.up l₂) 0) (Z99 (by assumption)) (by rw[Jl];exact Nat.lt_of_le_of_lt (Nat.le_trans hmN hN) (by decide))) fun v g₃ l₃ hv=>?_
  exact⟨lH.trans (l₂.trans l₃),by simpa [seg] using hv⟩
 ·intro hv g₂ l₂
  have hk2:2≤k:=ZaQ hv (by assumption)
  replace H:=H.up l₂
  refine JW ?_
  obtain⟨j,hj⟩:∃j,j=k/2:=⟨_,rfl⟩
  have hj1:1≤j:=hj▸Nat.div_pos hk2 (by decide)
  have hjk:j<k:=hj▸Nat.div_lt_self (Nat.lt_of_lt_of_le (by decide) hk2) (by decide)
  have hmj:m*j≤10000:=Nat.le_trans (Nat.mul_le_mul_left m (Nat.le_trans (Nat.le_of_lt hjk) (Nat.le_trans (Nat.le_add_left _ _) hL))) hN
  refine Jc H r' (i:=2) (d:=.int (L+j:Nat)) rfl ((Z8 (Z8 (pn H 0) (pn H 1) ZQ) Z9 (Z6j (by decide))).is ?_) fun g₃ l₃ H=>?_
  ·have:=Z3q (L+(L+k)) 1
   congr 1
   have e:((L:Int)+((L+k:Nat):Int))=((L+(L+k):Nat):Int):=by push_cast;rfl
   rw[e]
   refine this.trans ?_
   rw[Z7a,hj]
  refine Jc H r' (i:=3) (d:=.int (j*m:Nat)) rfl ((Z8 (Z8 (pn H 2) (pn H 0) Qm) (pn H 6) (Jq (IntMulOk.of_left ?_))).is ?_) fun g₄ l₄ H=>?_
  ·have e:=Qk L j
   rw[e]
   have hjl:j≤m*j:=Nat.le_mul_of_pos_left j hm
   exact Q1 (Nat.lt_of_lt_of_le (show j<2^14 from Nat.lt_of_le_of_lt (Nat.le_trans hjl hmj) (by decide)) (Nat.pow_le_pow_right (by exact Nat.le_add_left _ _) (by exact Nat.le_add_left _ _)))
  ·congr 1
   have e:=Qk L j
   rw[e];push_cast;rfl
  have l₂₄:Le g₁ g₄:=H.le
  have hf₄:FnAt g₄ ai (fdInner2 cl c' pm ct):=hf.le ((l₀.trans l).trans l₂₄)
  have hcl₄:=hcl.le ((l₀.trans l).trans l₂₄)
  have hLk:L+j+(k-j)≤N:=by rw[Nat.add_assoc,Nat.add_sub_cancel' (Nat.le_of_lt hjk)];exact hL
  have c1:CallSem K (4*k+2) g₄ (.ref ai) [.int (L+j:Nat),.int (L+k:Nat)] (.int (seg m f (L+j) (k-j))):=by
   have:=(ih (k-j) (Nat.sub_lt (Nat.lt_trans hj1 hjk) hj1) (L+j) g₄ (Nat.sub_pos_of_lt hjk) hLk hf₄ hcl₄).room (m:=4*k+2) (rm4 (Nat.sub_lt (Nat.lt_trans hj1 hjk) hj1))
   rw[show L+j+(k-j)=L+k by rw[Nat.add_assoc,Nat.add_sub_cancel' (Nat.le_of_lt hjk)]] at this
   exact this
  have c2:=(ih j hjk L g₄ hj1 (Nat.le_trans (Nat.add_le_add_left (Nat.le_of_lt hjk) L) hL) hf₄ hcl₄).room (m:=4*k+2) (rm4 hjk)
  refine ZM r' ((Z8 (Z8 (Z0a (pn H 5) hf₄ (Z1 (pn H 2) (Z1 (pn H 1) Z2)) c1) (pn H 3) (Z6k (by exact Int.natCast_nonneg _) ?_ ?_)) (Z0a (pn H 5) hf₄ (Z1 (pn H 0) (Z1 (pn H 2) Z2)) c2) ZQ).is (d':=.int (seg m f L k)) ?_) fun v g₅ l₅ hv=>⟨l₂₄.trans l₅,hv⟩
  ·have:j*m≤10000:=by rw[Nat.mul_comm];exact hmj
   exact Int.le_trans (Int.ofNat_le.mpr this) (by decide)
  ·rw[Int.natAbs_natCast];exact hb _ _ hLk
  ·rw[Z75]
   have:=Yj m f j L (k-j)
   rw[Nat.add_sub_cancel' (Nat.le_of_lt hjk)] at this
   rw[this,Nat.mul_comm (2^(j*m))]
   congr 1
   push_cast
   lia
theorem Yw:(("_digits2int":Str)++ ".<locals>.")++ "inner" = q_d2i_inner:=by decide +kernel
theorem Z3h(X:WX K)(hm:1≤m)(hN:m*N≤64)(hb:∀L k,L+k≤N→seg m f L k<2^64):CallSem K (n+270) g (.ref a_d2i) [.lst (numsD f N),.int m] (.int (seg m f 0 N)):=fun g V vs hvs A r g₁ l=>by
 refine Zw (Jn hvs) ?_
 rintro vd vm rfl rd rm
 have hmN:N≤m*N:=Nat.le_mul_of_pos_left N hm
 refine Zh (fn:=[0,1,2]) (S':=[]) (binds:=[("digits",vd),("n",vm)]) (bi:=[(0,.lst (numsD f N)),(1,.int m)]) X.f_d2i (r.sub (Nat.le_refl _)) (Ze (by rfl)) Zbp Zb2 (Z3 X.gt ZbQ)
  ⟨.inr ⟨rfl,by decide⟩,rd.le l,.inr ⟨rfl,by decide⟩,rm.le l,trivial⟩ (n:=n+268) fun A' L cells cs g' r' H=>?_
 refine Z9w (src:=mkSrcs GT sr_d2i_inner) (c:=c_d2i) (P:=128) (i:=2) (q:=q_d2i_inner) X.md H rfl (.inr ⟨rfl,by decide⟩) QL JT rfl (X.tab _ (by decide)) (X.qnOf (by decide +kernel)) Yw (by rfl) fun ai fdi g₅ c' pm ct hfd hfn l₅ H=>?_
 have hcl:ClosOk (scopeOf st_d2i_inner).names (closOf (newEnv (scopeOf st_d2i) L mainGlobals cells ("_digits2int"++ ".<locals>.") (some a_d2i) (.ref c_d2i) none builtinsNs).cells (scopeOf st_d2i_inner).names []) (sgJ f N m ai) g₅:=(H.clos QL JT).2
 subst hfd
 refine ZM r' (d:=.int (seg m f 0 N)) (Z0T (v:=!(numsD f N).isEmpty) (Z3v (pn H 0) (Z7v (by rw[Jl];exact Nat.lt_of_le_of_lt (Nat.le_trans hmN hN) (by decide)))) (fun hv=>?_) (fun hv=>?_)) fun v g₆ l₆ hv=>⟨H.le.trans l₆,hv⟩
 ·have hN1:1≤N:=by
   rw[Bool.not_eq_true',List.isEmpty_eq_false_iff,←List.length_pos_iff,Jl] at hv
   exact hv
  have c1:=(Z4j X hm (Nat.le_trans hN (by decide)) hb N 0 g₅ hN1 (Nat.le_of_eq (Nat.zero_add N)) hfn hcl).room (m:=n+268) (Nat.le_trans (Nat.add_le_add_right (Nat.mul_le_mul_left 4 (Nat.le_trans hmN hN)) 4) (Nat.le_trans (show 4*64+4≤268 by decide) (Nat.le_add_left _ _)))
  rw[Nat.zero_add] at c1
  refine Z0a (pn H 2) hfn (Z1 Z9 (Z1 ((Zt (pn H 3) (by intro a z;cases z) (Z1 (pn H 0) Z2) (ZD (by rw[Jl];exact Nat.lt_of_le_of_lt (Nat.le_trans hmN hN) (by decide)))).is (by rw[Jl])) Z2)) c1
 ·have hN0:N=0:=by
   rw[Bool.not_eq_false',List.isEmpty_iff,←List.length_eq_zero_iff,Jl] at hv
   exact hv
  subst hN0
  exact Z9
theorem Zbs(hm:1≤m):m*nd m a≤Builtin.Int.intBits (a:Int)+m-1:=by
 exact Nat.mul_div_le _ _
theorem Z8a(m a t:Nat):(digsD m a (t+1)).reverse=.int (dig m a t)::(digsD m a t).reverse:=by
 simp[digsD,List.range_succ]
noncomputable def quotD(m a b N t:Nat):List D:=(List.range (N-t)).map fun i=>.int (qd m a b (N-1-i))
theorem Z6b(h:t<N):quotD m a b N t=quotD m a b N (t+1)++[.int (qd m a b t)]:=by
 delta quotD
 have:N-t=(N-(t+1))+1:=(Nat.sub_add_cancel (Nat.sub_pos_of_lt h)).symm
 rw[this,List.range_succ,List.map_append]
 simp only[List.map_cons,List.map_nil]
 have e:N-1-(N-(t+1))=t:=by rw[Nat.add_comm t 1,←Nat.sub_sub,Nat.sub_sub_self (Nat.le_sub_one_of_lt h)]
 rw[e]
theorem Z7D(m a b N:Nat):(quotD m a b N 0).reverse=numsD (qd m a b) N:=by
 delta quotD numsD
 apply List.ext_getElem
 ·simp
 ·intro i h1 h2
  simp at h1 h2
  simp only[List.getElem_reverse,List.getElem_map,List.getElem_range,List.length_map,List.length_range]
  have:N-1-(N-0-1-i)=i:=Nat.sub_sub_self (Nat.le_sub_one_of_lt h2)
  rw[this]
theorem Z3g(X:WX K){a b:Nat}(ha:a<2^48)(hb:1≤b)(hb2:b<2^16):CallSem K (n+280) g (.ref a_dmp) [.int a,.int b] (.tup [.int (a/b:Nat),.int (a%b:Nat)]):=fun g V vs hvs A r g₁ l=>by
 refine Zw (Jn hvs) ?_
 rintro va vb rfl ra rb
 obtain⟨m,hmd⟩:∃m,m=Builtin.Int.intBits (b:Int):=⟨_,rfl⟩
 have hm1:1≤m:=hmd▸Z2b (by exact Nat.ne_of_gt ‹_›)
 have hm16:m≤16:=hmd▸Q1 hb2
 have hbm:b<2^m:=hmd▸Z1i b
 obtain⟨N,hNd⟩:∃N,N=nd m a:=⟨_,rfl⟩
 have hmN:m*N≤63:=by
  have:=Zbs (a:=a) hm1
  have h2:=Q1 ha
  rw[hNd]
  exact Nat.le_trans this (Nat.sub_le_sub_right (Nat.add_le_add h2 hm16) 1)
 have hNm:N≤m*N:=Nat.le_mul_of_pos_left N hm1
 have hbig:a/2^(m*N)=0:=Nat.div_eq_of_lt (hNd▸ZaO hm1)
 refine Zh (fn:=[]) (S':=[]) (binds:=[("a",va),("b",vb)]) (bi:=[(0,.int a),(1,.int b)]) X.f_dmp (r.sub (Nat.le_refl _)) (Ze (by rfl)) Zbo Zb1 (Z3 X.gt ZbP)
  ⟨.inl rfl,ra.le l,.inl rfl,rb.le l,trivial⟩ (n:=n+278) fun A' L cells cs g' r' H=>?_
 refine Jc H r' (i:=2) (d:=.int m) rfl ((Ja F.plainAttrs_int F.slot_int_bit_length F.type_int_bit_length (pn H 1) Z2 Ju).is (by rw[hmd])) fun g₂ l₂ H=>?_
 refine Jc H r' (i:=3) (d:=.lst (digsD m a N)) rfl ((ZJ (pn H 9) X.f_i2d (Z1 (pn H 0) (Z1 (pn H 2) Z2)) ((Z01 X (n:=0) (a:=a) (m:=m) hm1 (by exact Nat.le_trans hm16 (by decide)) (by exact Nat.le_trans ha (by decide)) (by rw[←hNd];exact Nat.le_trans hmN (by decide))).room (by exact Nat.le_add_left _ _))).is (by rw[hNd])) fun g₃ l₃ H=>?_
 refine Jc H r' (i:=4) (d:=.int (a/2^(m*N)%b:Nat)) rfl (Z9.is (by rw[hbig,Nat.zero_mod];rfl)) fun g₄ l₄ H=>?_
 refine Z6y H r' (i:=5) rfl Z2 (by decide) fun aq g₅ l₅ hq H=>?_
 let S0:Nat→List (Option D):=fun t=>[some (.int a),some (.int b),some (.int m),some (.lst (digsD m a N)),some (.int (a/2^(m*t)%b:Nat)),some (.raw (.ref aq)),none,none,none,some (.raw (.ref a_i2d)),some (.raw (.type "reversed")),some (.raw (.ref a_d21)),some (.raw (.ref a_d2i))]
 refine Z0d (X:=Unit) H (fun rest V=>S0 rest.length) (fun rest V=>[(aq,MO.list (quotD m a b N rest.length))]) (fun rest V=>rest.length≤N∧rest=(digsD m a rest.length).reverse) (ds:=(digsD m a N).reverse) () r' (Z3y (pn H 10) (pn H 3)) ?_ ?_ ?_ ?_
 ·have hl:(digsD m a N).reverse.length=N:=by simp[ZL]
  rw[hl]
  have hq:quotD m a b N N=[]:=by simp[quotD]
  rw[hq]
  exact H.lessN (is:=[])
 ·simp[ZL]
 ·intro d rest x ms g v ⟨hP1,hP2⟩ H rv
  obtain⟨t,ht⟩:∃t,t=rest.length:=⟨_,rfl⟩
  rw[List.length_cons,←ht] at hP1 hP2 H
  rw[Z8a] at hP2
  cases hP2
  refine ZE (H.storeLocal (i:=6) rfl rv fun g₆ l₆ H=>?_)
  have hr0:a/2^(m*(t+1))%b<b:=Nat.mod_lt _ hb
  have hdg:dig m a t<2^m:=Nat.mod_lt _ (Nat.pow_pos (by exact Nat.le_add_left _ _))
  have hbits:Builtin.Int.intBits ((a/2^(m*(t+1))%b*2^m+dig m a t:Nat):Int)≤32:=Q1 (by
   have h1:2^m≤2^16:=Nat.pow_le_pow_right (by exact Nat.le_add_left _ _) hm16
   have h2:a/2^(m*(t+1))%b*2^m≤2^16*2^16-2^16:=by
    have:a/2^(m*(t+1))%b≤2^16-1:=Nat.le_sub_one_of_lt (Nat.lt_trans hr0 hb2)
    exact Nat.le_trans (Nat.mul_le_mul this h1) (by exact Nat.le_refl _)
   exact Nat.lt_of_lt_of_le (Nat.add_lt_add_of_le_of_lt h2 (Nat.lt_of_lt_of_le hdg h1)) (by decide))
  refine Yr (d₁:=.int (qd m a b t:Nat)) (d₂:=.int (a/2^(m*t)%b:Nat)) H r' ((ZJ (pn H 11) X.f_d21 (Z1 (Z8 (Z8 (pn H 4) (pn H 2) (Z6k (by exact Int.natCast_nonneg _) (by exact Int.ofNat_le.mpr (Nat.le_trans hm16 (by decide))) (by rw[Int.natAbs_natCast];lia))) (pn H 6) ZQ) (Z1 (pn H 1) (Z1 (pn H 2) Z2)))
   ((Z7q X (n:=0) (a:=(a/2^(m*(t+1))%b*2^m+dig m a t:Nat)) (b:=(b:Int)) (m:=(m:Int)) (by exact Int.ne_of_gt (Int.ofNat_lt.mpr hb)) (PyProof.noPylong_small (by exact Nat.le_trans hb2 (by decide))) (Int.le_trans (Int.sub_le_self _ (Int.natCast_nonneg _)) (Int.le_trans (Int.ofNat_le.mpr hbits) (by decide)))).room (by exact Nat.le_add_left _ _) |> fun z=>by rw[Z75];exact z)).is ?_) (Tgt.pair (Tgt.loc (i:=7) rfl) (Tgt.loc (i:=4) rfl)) fun g₇ l₇ H=>?_
  ·rw[Int.fdiv_eq_ediv_of_nonneg _ (Int.natCast_nonneg _),Int.fmod_eq_emod_of_nonneg _ (Int.natCast_nonneg _),←Int.natCast_ediv,←Int.natCast_emod,Z8B]
   rfl
  refine Ys (Zd0 H) r' (pn H 5) (pn H 7) (by simp[quotD,sizeLine];exact Nat.le_trans (Nat.le_trans hNm hmN) (Nat.le_trans (show 63≤16777216 by decide) (Nat.le_add_right _ _))) fun g₈ l₈ H=>?_
  refine ZC ⟨(),⟨by rw[←ht];exact Nat.le_of_lt hP1,by rw[←ht]⟩,?_⟩
  rw[←ht,Z6b (by exact hP1:t<N)]
  exact(ZcY H).lessN (is:=[6,7])
 ·intro x g ⟨hP1,hP2⟩ H
  rw[List.length_nil] at H
  refine Z6x H r' (pn H 5) (by simp[quotD,sizeLine];exact Nat.le_trans (Nat.le_trans hNm hmN) (by decide)) fun g₆ l₆ H=>?_
  rw[Z7D] at H
  refine Qa H fun g₇ l₇ H hr=>?_
  have hq0:∀L k,L+k≤N→seg m (qd m a b) L k<2^64:=fun L k hLk=>by
   have h1:=Za9 m (qd m a b) 0 L k
   have h2:=Zb4 m (qd m a b) 0 (L+k) (N-(L+k))
   rw[Nat.zero_add] at h1
   rw[show L+k+(N-(L+k))=N by exact Nat.add_sub_cancel' hLk] at h2
   have h3:=Z3r m a hb N 0 (by rw[Nat.zero_add];exact hbig)
   rw[h3,Nat.mul_zero,Nat.pow_zero,Nat.div_one] at h2
   have h4:a/b≤a:=Nat.div_le_self _ _
   exact Nat.lt_of_le_of_lt (Nat.le_trans h1 (Nat.le_trans h2 h4)) (Nat.lt_trans ha (by decide))
  have hsum:seg m (qd m a b) 0 N=a/b:=by
   have h3:=Z3r m a hb N 0 (by rw[Nat.zero_add];exact hbig)
   rw[h3,Nat.mul_zero,Nat.pow_zero,Nat.div_one]
  refine Jc H r' (i:=8) (d:=.int (a/b:Nat)) rfl ((ZJ (pn H 12) X.f_d2i (Z1 (Z1D (pn H 5) hr) (Z1 (pn H 2) Z2)) ((Z3h X (n:=0) hm1 (by exact Nat.le_trans hmN (by decide)) hq0).room (by exact Nat.le_add_left _ _))).is (by rw[hsum])) fun g₈ l₈ H=>?_
  refine ZM r' (J4 (Z1 (pn H 8) (Z1 (pn H 4) Z2))) fun v g₉ l₉ hv=>⟨H.le.trans l₉,?_⟩
  rw[Nat.mul_zero,Nat.pow_zero,Nat.div_one] at hv
  exact hv
theorem Z0F(a:Int)(b:Nat)(hb:1≤b)(ha:a<0):a.fdiv b = -((-a-1).fdiv b)-1∧a.fmod b=b+(-((-a-1).fmod b)-1):=by
 have hb':(0:Int)≤(b:Int):=Int.natCast_nonneg _
 rw[Int.fdiv_eq_ediv_of_nonneg _ hb',Int.fdiv_eq_ediv_of_nonneg _ hb',Int.fmod_eq_emod_of_nonneg _ hb',Int.fmod_eq_emod_of_nonneg _ hb']
 have hb0:(b:Int)≠0:=Int.ne_of_gt (Int.ofNat_lt.mpr hb)
 have h1:=Int.emod_add_mul_ediv (-a-1) b
 have h2:=Int.emod_nonneg (-a-1) hb0
 have h3:=Int.emod_lt_of_pos (-a-1) (by exact Int.ofNat_le.mpr hb:(0:Int)<b)
 have key:a/(b:Int) = -((-a-1)/(b:Int))-1∧a%(b:Int)=(b:Int)+(-((-a-1)%(b:Int))-1):=by
  have h5:a=(b:Int)+(-((-a-1)%(b:Int))-1)+(b:Int)*(-((-a-1)/(b:Int))-1):=by
   have e:(b:Int)*(-((-a-1)/(b:Int))-1) = -((b:Int)*((-a-1)/(b:Int)))-b:=by
    rw[Int.mul_sub,Int.mul_neg,Int.mul_one]
   rw[e];lia
  generalize hR:(b:Int)+(-((-a-1)%(b:Int))-1)=R at h5 ⊢
  generalize hQ:-((-a-1)/(b:Int))-1=Qq at h5 ⊢
  constructor
  ·rw[h5,Int.add_mul_ediv_left _ _ hb0,Int.ediv_eq_zero_of_lt (by lia) (by lia)];lia
  ·rw[h5,Int.add_mul_emod_self_left,Int.emod_eq_of_lt (by lia) (by lia)]
 exact key
theorem Z2B(a b:Int):(-a).fdiv (-b)=a.fdiv b∧-((-a).fmod (-b))=a.fmod b:=by
 constructor
 ·exact Int.neg_fdiv_neg a b
 ·rw[Int.fmod_def,Int.fmod_def,Int.neg_fdiv_neg,Int.neg_mul]
  lia
theorem JP:bindArgs fd_idm ⟨[va,vb],[]⟩=pure [(Str.ofString "a",va),(Str.ofString "b",vb)]:=by rfl
theorem Yy(X:WX K){a:Nat}{b:Nat}(ha:a<2^48)(hb:1≤b)(hb2:b<2^16):CallSem K (n+284) g (.ref a_idm) [.int a,.int b] (.tup [.int ((a:Int).fdiv b),.int ((a:Int).fmod b)]):=fun g V vs hvs A r g₁ l=>by
 refine Zw (Jn hvs) ?_
 clear hvs;rintro va vb rfl ra rb
 refine Zh (fn:=[]) (S':=[]) (binds:=[("a",va),("b",vb)]) (bi:=[(0,.int a),(1,.int b)]) X.f_idm (r.sub (Nat.le_refl _)) (Ze JP) Z6o Z61 (Z3 X.gt Z6J)
  ⟨.inl rfl,ra.le l,.inl rfl,rb.le l,trivial⟩ (n:=n+282) fun A' L cells cs g' r' H=>?_
 refine Jd (v:=((b:Int)==0)) r' (Zx (pn H 1) Z9 Y6) (fun hv=>?_) (fun hv g₂ l₂=>?_)
 ·exact absurd (Int.natCast_eq_zero.mp (eq_of_beq hv)) (Nat.ne_of_gt hb)
 replace H:=H.up l₂
 refine Jd (v:=decide ((b:Int)<0)) r' (Zx (pn H 1) Z9 Z1E) (fun hv=>?_) (fun hv g₃ l₃=>?_)
 ·exact absurd (of_decide_eq_true hv) (Int.not_lt.mpr (Int.natCast_nonneg _))
 replace H:=H.up l₃
 refine Jd (v:=decide ((a:Int)<0)) r' (Zx (pn H 0) Z9 Z1E) (fun hv=>?_) (fun hv g₄ l₄=>?_)
 ·exact absurd (of_decide_eq_true hv) (Int.not_lt.mpr (Int.natCast_nonneg _))
 replace H:=H.up l₄
 refine ZM r' ((ZJ (pn H 6) X.f_dmp (Z1 (pn H 0) (Z1 (pn H 1) Z2)) ((Z3g X (n:=0) ha hb hb2).room (by exact Nat.le_add_left _ _))).is (d':=.tup [.int ((a:Int).fdiv b),.int ((a:Int).fmod b)]) ?_) fun v g₅ l₅ hv=>⟨H.le.trans l₅,hv⟩
 rw[Int.fdiv_eq_ediv_of_nonneg _ (Int.natCast_nonneg _),Int.fmod_eq_emod_of_nonneg _ (Int.natCast_nonneg _),←Int.natCast_ediv,←Int.natCast_emod]
theorem Yx(X:WX K){a:Int}{b:Nat}(ha:a.natAbs<2^48)(hb:1≤b)(hb2:b<2^16):CallSem K (n+288) g (.ref a_idm) [.int a,.int b] (.tup [.int (a.fdiv b),.int (a.fmod b)]):=by
 by_cases h0:0≤a
 ·refine Zi (Int.eq_ofNat_of_zero_le h0) ?_
  rintro k rfl
  exact(Yy X (n:=n) (by assumption) hb hb2).room (by exact Nat.add_le_add_left (by decide) _)
 intro g V vs hvs A r g₁ l
 refine Zw (Jn hvs) ?_
 rintro va vb rfl ra rb
 refine Zh (fn:=[]) (S':=[]) (binds:=[("a",va),("b",vb)]) (bi:=[(0,.int a),(1,.int b)]) X.f_idm (r.sub (Nat.le_refl _)) (Ze JP) Z6o Z61 (Z3 X.gt Z6J)
  ⟨.inl rfl,ra.le l,.inl rfl,rb.le l,trivial⟩ (n:=n+286) fun A' L cells cs g' r' H=>?_
 refine Jd (v:=((b:Int)==0)) r' (Zx (pn H 1) Z9 Y6) (fun hv=>?_) (fun hv g₂ l₂=>?_)
 ·exact absurd (Int.natCast_eq_zero.mp (eq_of_beq hv)) (Nat.ne_of_gt hb)
 replace H:=H.up l₂
 refine Jd (v:=decide ((b:Int)<0)) r' (Zx (pn H 1) Z9 Z1E) (fun hv=>?_) (fun hv g₃ l₃=>?_)
 ·exact absurd (of_decide_eq_true hv) (Int.not_lt.mpr (Int.natCast_nonneg _))
 replace H:=H.up l₃
 refine Jd (v:=decide ((a:Int)<0)) r' (Zx (pn H 0) Z9 Z1E) (fun hv g₄ l₄=>?_) (fun hv=>?_)
 ·replace H:=H.up l₄
  refine Zi (Int.eq_ofNat_of_zero_le (show 0≤-a-1 from Int.sub_nonneg_of_le (Int.neg_pos_of_neg (Int.not_le.mp h0)))) fun k hk=>?_
  refine Yr (d₁:=.int ((-a-1).fdiv b)) (d₂:=.int ((-a-1).fmod b)) H r' (ZJ (pn H 5) X.f_idm (Z1 (QY (pn H 0) Z6l) (Z1 (pn H 1) Z2)) ?_) (Tgt.pair (Tgt.loc (i:=2) rfl) (Tgt.loc (i:=3) rfl)) fun g₅ l₅ H=>?_
  ·rw[hk]
   exact(Yy X (n:=0) (a:=k) (Nat.lt_of_succ_lt (show k+1<2^48 by have e:=congrArg Int.natAbs (Int.sub_eq_iff_eq_add.mp hk);rw[Int.natAbs_neg] at e;rw[←show a.natAbs=k+1 from e];exact ha)) hb hb2).room (by exact Nat.le_add_left _ _)
  refine ZM r' ((J4 (Z1 (QY (pn H 2) Z6l) (Z1 (Z8 (pn H 1) (QY (pn H 3) Z6l) ZQ) Z2))).is (d':=.tup [.int (a.fdiv b),.int (a.fmod b)]) ?_) fun v g₆ l₆ hv=>⟨H.le.trans l₆,hv⟩
  refine ZG (Z0F a b hb (Int.not_le.mp h0)) fun e1 e2=>?_
  rw[e1,e2]
 ·exact absurd (Int.not_le.mp h0) (of_decide_eq_false hv)
theorem Z3f(X:WX K)(ha:a.natAbs<2^48)(hb:b≠0)(hb2:b.natAbs<2^16):CallSem K (n+292) g (.ref a_idm) [.int a,.int b] (.tup [.int (a.fdiv b),.int (a.fmod b)]):=by
 by_cases h0:0≤b
 ·refine Zi (Int.eq_ofNat_of_zero_le h0) ?_
  rintro k rfl
  exact(Yx X (n:=n) ha (Nat.pos_of_ne_zero fun z=>hb (by rw[z];rfl)) (by assumption)).room (by exact Nat.add_le_add_left (by decide) _)
 intro g V vs hvs A r g₁ l
 refine Zw (Jn hvs) ?_
 rintro va vb rfl ra rb
 refine Zh (fn:=[]) (S':=[]) (binds:=[("a",va),("b",vb)]) (bi:=[(0,.int a),(1,.int b)]) X.f_idm (r.sub (Nat.le_refl _)) (Ze JP) Z6o Z61 (Z3 X.gt Z6J)
  ⟨.inl rfl,ra.le l,.inl rfl,rb.le l,trivial⟩ (n:=n+290) fun A' L cells cs g' r' H=>?_
 refine Jd (v:=(b==0)) r' (Zx (pn H 1) Z9 Y6) (fun hv=>?_) (fun hv g₂ l₂=>?_)
 ·exact absurd (eq_of_beq hv) hb
 replace H:=H.up l₂
 refine Jd (v:=decide (b<0)) r' (Zx (pn H 1) Z9 Z1E) (fun hv g₃ l₃=>?_) (fun hv=>?_)
 ·replace H:=H.up l₃
  refine Zi (Int.eq_ofNat_of_zero_le (show 0≤-b from Int.neg_nonneg_of_nonpos (Int.le_of_lt (Int.not_le.mp h0)))) fun k hk=>?_
  refine Yr (d₁:=.int ((-a).fdiv (-b))) (d₂:=.int ((-a).fmod (-b))) H r' (ZJ (pn H 5) X.f_idm (Z1 (QY (pn H 0) QJ) (Z1 (QY (pn H 1) QJ) Z2)) ?_) (Tgt.pair (Tgt.loc (i:=2) rfl) (Tgt.loc (i:=3) rfl)) fun g₅ l₅ H=>?_
  ·rw[hk]
   exact(Yx X (n:=0) (a:=-a) (b:=k) (by rw[Int.natAbs_neg];exact ha) (Nat.pos_of_ne_zero fun z=>hb (Int.neg_eq_zero.mp (by rw[hk,z];rfl))) (by rw[←Int.natAbs_natCast k,←hk,Int.natAbs_neg];exact hb2)).room (by exact Nat.le_add_left _ _)
  refine ZM r' ((J4 (Z1 (pn H 2) (Z1 (QY (pn H 3) QJ) Z2))).is (d':=.tup [.int (a.fdiv b),.int (a.fmod b)]) ?_) fun v g₆ l₆ hv=>⟨H.le.trans l₆,hv⟩
  refine ZG (Z2B a b) fun e1 e2=>?_
  rw[e1,e2]
 ·exact absurd (Int.not_le.mp h0) (of_decide_eq_false hv)
end
section
open PySem PySem.Spec PySem.Calls PyProof.Rows PySem.W PySem.SeqAt
variable{K:Wd}{A:Around}{g:Gh}{n:Nat}{env:Env}
noncomputable def chD(c:Nat):D:=.str [c]
noncomputable def fdRead(cl:List (Str×Addr))(c':Addr)(pm ct:Value):FuncData:=nestFd "_law_read" q_ls_lrd (paramsOf st_ls_lrd) (.stmts (bodyOf st_ls_lrd)) (scopeOf st_ls_lrd) cl c' pm ct
noncomputable def sgR(lf:Addr):List (Option D):=[none,some (.raw (.ref lf))]
theorem Z8J(lf:Addr):sgR lf=srcSt [some (.raw (.ref lf)),none,none] (mkSrcs GT sr_ls_lrd):=rfl
structure StreamAt(g:Gh)(fs lf:Addr):Prop where
 ex:∃dfs fr fd od cl c' pm ct,g.im fs=some (fnObjD fd dfs)∧g.im dfs=some od∧NsObj od (fun y=>if y=Str.ofString "read" then some (.ref fr) else none)∧FnAt g.fixed fr (fdRead cl c' pm ct)∧ClosOk (scopeOf st_ls_lrd).names cl (sgR lf) g.fixed
theorem StreamAt.up(h:StreamAt g fs lf)(l:LeX W g g'):StreamAt g' fs lf:=
 ⟨ZcD h.ex fun dfs fr fd od z=>ZaI z fun cl c' pm ct h1 h2 h3 h4 h5=>⟨dfs,fr,fd,od,cl,c',pm,ct,l.im _ _ h1,l.im _ _ h2,h3,h4.le l.fixed,h5.le l.fixed⟩⟩
noncomputable def CharsAt(g:Gh)(lf:Addr)(chars:List Nat):Prop:=∃its m,g.mu lf=some (sq "list" its m)∧Z7 g.im (chars.map chD) its.toList
theorem Z9L{its:Array Value}(h:its.toList=v::vs):(its.eraseIdxIfInBounds 0).toList=vs:=by
 obtain⟨l⟩:=its
 simp only at h
 subst h
 simp[Array.eraseIdxIfInBounds]
theorem Z5O(X:WX K){fr lf:Addr}(r:Room A (n+2))(hf:FnAt g fr (fdRead cl c' pm ct))(hcl:ClosOk (scopeOf st_ls_lrd).names cl (sgR lf) g)(hch:CharsAt g lf chars)(hsz:chars.length≤10000)(hv:Zu g.im (.int 1) v1) :
  gwp K A (call (.ref fr) [v1]) (fun v g'=>Zu g'.im (.str (chars.take 1)) v∧LeX [lf] g g'∧CharsAt g' lf (chars.drop 1)) g:=by
 refine cps fun Q₀ k₀=>?_
 refine ZP hch fun its m hm hr=>?_
 have hlen:its.size=chars.length:=by rw[←Array.length_toList,hr.length,List.length_map]
 refine YU (n:=n) (σ:=sgR lf) (fn:=[]) (S':=[]) (binds:=[("size",v1)]) (bi:=[(0,.int 1)]) r hf rfl (Ze (by rfl)) Z2P
  (by rw[Z8J];exact J7 Z0n) (by rw[Z8J];exact Jh Z0n (Z3 X.gt Z85)) hcl
  ⟨.inl rfl,hv,trivial⟩ (fun A' L' cells cs g' r' hL1 hL2 hcs H=>?_)
 have l0:=H.le
 change gwp K A' (execs (bodyOf st_ls_lrd) (fnEnv (fdRead cl c' pm ct) fr L' cells)) _ g'
 refine Zf (Z0l (Z31 ?_))
 refine(Zb9 (u:=true) (v:=decide (its.size≠0)) ((Zx (pn H 0) Z9 Y6).is rfl) (fun V=>Zx (pn H 1) (Yn Z2) (Zag (Le.at l0 hm)))).use r' fun bb g₂ l₂ hb=>?_
 clear hcs hL2 hL1 hcl hf r;subst hb
 by_cases hz:its.size=0
 ·have:(true&&decide (its.size≠0))=false:=by simp[hz]
  rw[this]
  have hc0:chars=[]:=by rw[←List.length_eq_zero_iff,←hlen];exact hz
  subst hc0
  refine(Zy (l:=[]) rfl).use r' fun v g₃ l₃ hv=>(k₀ _ _ ⟨hv,LeX.of (l0.trans (l₂.trans l₃)),its,m,Le.at (l0.trans (l₂.trans l₃)) hm,hr.le (l0.trans (l₂.trans l₃))⟩)
 ·have:(true&&decide (its.size≠0))=true:=by exact if_pos hz
  rw[this]
  cases chars with
  |nil=>rw[List.length_nil] at hlen;exact absurd hlen hz
  |cons c chars=>
   refine Zw (ZA hr) fun v vs e1 hv hrs=>?_
   have hy:its[0]? = some v:=by
    have:its.toList[0]? = some v:=by rw[e1];rfl
    simpa using this
   refine QR r' (pn (H.up l₂) 1) (Le.at (l0.trans l₂) hm) (Z1 Z9 Z2) F.slot_list_pop F.type_list_pop fun vs' g₃ l₃ rs=>?_
   refine Z4 (Jo rs) ?_
   clear rs hr this hz H;rintro w rfl rw'
   refine Zi (Zo rw') ?_
   clear rw';rintro t rfl
   have l03:=l0.trans (l₂.trans l₃)
   refine Z5c (Le.at l03 hm) hy (Nat.le_trans (by rw[hlen];exact hsz) (by decide)) fun m'=>?_
   exact(k₀ _ _ ⟨hv.mono l03.im,(LeX.of l03).trans LeX.setMu,_,m',ZcI,by rw[Z9L e1];exact hrs.mono l03.im⟩)
end
section
open PySem PySem.Spec PySem.Calls PyProof.Rows PySem.W PySem.SeqAt
variable{K:Wd}{A:Around}{g:Gh}{n:Nat}{env:Env}
variable{b:Gh}{S':List Addr}{fn:List Nat}{cs:List Addr}{nm:List (Str×NameKind)}{σ σ':List (Option D)}{own:List (Addr×MO)}
theorem Zah:OpSem K n g (inplaceOp .Add) (.int x) (.int y) (.int (x+y)):=JR fun g A s E t u r ok=>P.iadd_int ⟨g,ok.tok _,LeX.refl _ _,Zp⟩
theorem Z5Z(h:gwp K A (eval o env) (fun ov g₁=>gwp K A (getAttr ov attr true) (fun old g₂=>gwp K A (eval value env) (fun v g₃=>gwp K A (inplaceOp op old v) (fun new g₄=>gwp K A (setAttr ov attr new) (fun V g₅=>Q .next g₅) g₄) g₃) g₂) g₁) g) :
  gwp K A (exec (.AugAssign (.Attribute o attr tpos) op value pos) env) Q g:=
 fun s E ok=>wpAny_AugAssign_AttributeAny (Zn (h s E ok) (fun v s₁ V ok₁ h₁=>Zn (h₁ s₁ E ok₁) (fun v s₁ V ok₁ h₁=>Zn (h₁ s₁ E ok₁) (fun v s₁ V ok₁ h₁=>Zn (h₁ s₁ E ok₁) (fun v s₁ V ok₁ h₁=>h₁ s₁ E ok₁)))))
theorem Frm.adoptB(F:Frm K b [] fn cs env nm σ [] g)(h:Holds ms b)(hk:(ms.map (·.1)).Nodup):Frm K b (ms.map (·.1)) fn cs env nm σ ms g:=by
 have hle:Le b g:=F.le
 have:=(F.may (S'':=ms.map (·.1)) (by exact ZZ)).adopt' (ms:=ms) (h.up hle (by exact ZZ)) hk (fun a ha hm=>by
  rw[List.map_nil,List.append_nil] at hm
  refine Z4 (List.mem_map.mp ha) ?_
  rintro p hp rfl
  refine Z4 (h p hp) fun o ho V=>?_
  cases((F.fresh _ hm).symm.trans ho)) (fun a ha=>.inl ha)
 rw[List.append_nil] at this
 exact this
theorem Frm.holds(F:Frm K b S' fn cs env nm σ own g):Holds own g:=fun p hp=>Zm (F.own p hp) fun o h1 h2 V=>⟨o,h1,h2⟩
noncomputable def lexL(ln:Int)(fs pb:Addr):List (Str×D):=[(Str.ofString "lineno",.int ln),(Str.ofString "instream",.raw (.ref fs)),(Str.ofString "whitespace",.str [10,9,13,32]),(Str.ofString "pushback",.raw (.ref pb))]
noncomputable def LexOwn(x dx pb lf fs:Addr)(ln:Int)(chars:List Nat)(pbs:List D):List (Addr×MO):=[(x,MO.obj (instObj C_nl dx)),(dx,MO.inst (lexL ln fs pb)),(pb,MO.list pbs),(lf,MO.list (chars.map chD))]
theorem Q8:M_nl "__getattribute__" = none:=by kernel_rfl
theorem Z6u:M_nl "__getattr__" = none:=by kernel_rfl
theorem Z1L:M_nl "__setattr__" = none:=by kernel_rfl
theorem Q7:M_nl "lineno" = none:=by kernel_rfl
theorem Z0c:M_nl "instream" = none:=by kernel_rfl
theorem Yb:M_nl "whitespace" = none:=by kernel_rfl
theorem JV:M_nl "pushback" = none:=by kernel_rfl
theorem YC:M_nl "_read_char" = some (.ref a_nl_rc):=by kernel_rfl
theorem JH:M_nl "get_token" = some (.ref a_nl_gt):=by kernel_rfl
theorem Z1M:M_nl "push_token" = some (.ref a_nl_pt):=by kernel_rfl
theorem Z9j:M_nl "__init__" = some (.ref a_nl_init):=by kernel_rfl
theorem Qx:typeLookup (.type "object") "lineno" = pure none:=by rw[typeLookup_type,builtinLookup_eq_fast];kernel_rfl
theorem Z0V:typeLookup (.type "object") "instream" = pure none:=by rw[typeLookup_type,builtinLookup_eq_fast];kernel_rfl
theorem YA:typeLookup (.type "object") "whitespace" = pure none:=by rw[typeLookup_type,builtinLookup_eq_fast];kernel_rfl
theorem Qf:typeLookup (.type "object") "pushback" = pure none:=by rw[typeLookup_type,builtinLookup_eq_fast];kernel_rfl
theorem ZaM:typeLookup (.type "object") "_read_char" = pure none:=by rw[typeLookup_type,builtinLookup_eq_fast];kernel_rfl
theorem Z77:typeLookup (.type "object") "get_token" = pure none:=by rw[typeLookup_type,builtinLookup_eq_fast];kernel_rfl
theorem Zc7:typeLookup (.type "object") "push_token" = pure none:=by rw[typeLookup_type,builtinLookup_eq_fast];kernel_rfl
theorem Z4H(ln ln':Int)(fs pb:Addr):putN (lexL ln fs pb) (Str.ofString "lineno") (.int ln')=lexL ln' fs pb:=by
 have h1:((Str.ofString "lineno") !=(Str.ofString "lineno"))=false:=by decide +kernel
 have h2:((Str.ofString "instream") !=(Str.ofString "lineno"))=true:=by decide +kernel
 have h3:((Str.ofString "whitespace") !=(Str.ofString "lineno"))=true:=by decide +kernel
 have h4:((Str.ofString "pushback") !=(Str.ofString "lineno"))=true:=by decide +kernel
 simp only[putN,lexL,List.filter,h1,h2,h3,h4]
noncomputable def lnUp(ln:Int)(chars:List Nat):Int:=if chars.take 1=[10] then ln+1 else ln
theorem Z0L(X:WX K)(r:Room A (n+6))(hH:Holds (LexOwn x dx pb lf fs ln chars pbs) g)(hnd:[x,dx,pb,lf].Nodup)(hst:StreamAt g fs lf)(hsz:chars.length≤10000) :
  gcc K A (.call (.ref a_nl_rc) ⟨[.ref x],[]⟩) (fun v g'=>Zu g'.im (.str (chars.take 1)) v∧LeX [x,dx,pb,lf] g g'∧Holds (LexOwn x dx pb lf fs (lnUp ln chars) (chars.drop 1) pbs) g') g:=by
 refine Z16 (n:=n+4) (fn:=[]) (S':=[]) (binds:=[("self",.ref x)]) (bi:=[(0,.raw (.ref x))]) X.f_nl_rc r (Ze (by rfl)) Z96 Z8F (Z3 X.gt Z9G)
  ⟨.inl rfl,Zl,trivial⟩ fun A' L cells cs g' r' H=>?_
 have l0:=H.le
 replace hst:=hst.up l0
 replace H:=H.adoptB hH hnd
 have hne:dx≠x:=Y8 hnd
 refine Zf (J3 (Jt ?_))
 refine Z9z (.raw (.ref fs)) (QI H X.k_nl Q8 Z0c Z0V (i:=0) (j:=1) rfl rfl hne (by exact .tail _ (.head _)) (pn H 0)) r' fun ov g₂ l₂ p pl=>?_
 have:=Zk p;subst this
 obtain⟨dfs,fr,fd,od,cl,c',pm,ct,t1,t2,t3,t4,t5⟩:=(hst.up l₂).ex
 refine Z2w (.inl t1) (.inl t2) t3 (if_pos rfl) ?_
 refine Z4 t4.obj fun fo fo1 fo2=>?_
 refine ZI (fo1.le ZcS) fo2 (Zc rfl ((Z1 Z9 Z2).use r' fun vs g₃ l₃ rs=>⟨(fo1.le ZcS).le l₃,?_⟩))
 refine Z4 (Jo rs) ?_
 clear rs fo2 t3 t2 t1 hnd hH r;rintro v1 rfl rv1
 replace H:=H.up (l₂.trans l₃)
 obtain⟨lo,e1,its,m,rfl,hr⟩:=H.at (i:=3) rfl
 refine Qj (Z5O X (r'.sub (by exact Nat.add_le_add_left (by decide) _):Room A' (n+2)) ((t4.le ZcS).le l₃) ((t5.le ZcS).le l₃) ⟨its,m,e1,hr⟩ hsz rv1) fun v g₄ hv l₄ v00=>ZP v00 fun its' m' e2 hr'=>?_
 replace H:=H.adv (i:=3) rfl l₄ (m':=MO.list ((chars.drop 1).map chD)) ⟨_,e2,its',m',rfl,hr'⟩ ZcN
 refine H.storeLocal (i:=1) rfl hv fun g₅ l₅ H=>?_
 refine Jd (v:=(chars.take 1==[10])) r' (Zx (pn H 1) (Zy rfl) Z3D) (fun hc g₆ l₆=>?_) (fun hc g₆ l₆=>?_)
 ·have hc':chars.take 1=[10]:=by lia
  replace H:=H.up l₆
  refine Zf (Z5Z ((pn H 0).useR r' fun g₇ l₇=>?_))
  replace H:=H.up l₇
  refine Z4 (H.at (i:=0) rfl) fun ox x1 x2=>?_
  refine Z4 (H.at (i:=1) rfl) fun odx d1 d2=>?_
  have hxo:ox=instObj C_nl dx:=x2
  clear x2;subst hxo
  refine Z14 X.k_nl Q8 Q7 Qx x1 d1 d2 hne (d:=.int ln) (by exact .head _) (by intro id z;cases z) fun old hold=>?_
  refine Z9.use r' fun v1 g₈ l₈ hv1=>?_
  refine(Zah (K:=K) (n:=n+4) (g:=g₈) g₈ (LeX.refl _ _) _ _ (hold.le l₈) hv1).use r' fun nv g₉ l₉ hnv=>?_
  replace H:=H.up (l₈.trans l₉)
  clear hv1;refine Z4 (H.at (i:=1) rfl) ?_
  rintro odx d1 d2
  refine Ye X.k_nl Z1L Q7 Qx (Nat.lt_of_lt_of_le (by decide) (Nat.le_of_lt X.low)) (Le.at (l₈.trans l₉) x1) d1 d2 hne hnv (by simp[lexL,sizeLine]) fun o' ho'=>?_
  rw[Z4H] at ho'
  replace H:=H.adv (i:=1) rfl LeX.setMu ⟨o',ZcI,ho'⟩ ZcP
  refine ZC (ZM r' (pn H 1) fun v g₁₀ l₁₀ hv=>⟨hv,H.le.trans (LeX.of l₁₀),?_⟩)
  have:=(H.up l₁₀).holds
  unfold lnUp
  rw[if_pos hc']
  exact this
 ·have hc':¬chars.take 1=[10]:=by lia
  replace H:=H.up l₆
  refine ZC (ZM r' (pn H 1) fun v g₁₀ l₁₀ hv=>⟨hv,H.le.trans (LeX.of l₁₀),?_⟩)
  have:=(H.up l₁₀).holds
  unfold lnUp
  rw[if_neg hc']
  exact this
theorem Z3b(X:WX K)(r:Room A (n+2))(hH:Holds (LexOwn x dx pb lf fs ln chars pbs) g)(hnd:[x,dx,pb,lf].Nodup)(hsz:pbs.length≤10000)(hv:Zu g.im d v) :
  gwp K A (call (.ref a_nl_pt) [.ref x,v]) (fun u g'=>u=.none∧LeX [x,dx,pb,lf] g g'∧Holds (LexOwn x dx pb lf fs ln chars (pbs++[d])) g') g:=by
 refine Zh (n:=n) (fn:=[]) (S':=[]) (binds:=[("self",.ref x),("token",v)]) (bi:=[(0,.raw (.ref x)),(1,d)]) X.f_nl_pt r (Ze (by rfl)) Z97 Z8G (Z3 X.gt Z9H)
  ⟨.inl rfl,Zl,.inl rfl,hv,trivial⟩ fun A' L cells cs g' r' H=>?_
 have l0:=H.le
 replace H:=H.adoptB hH hnd
 have hne:dx≠x:=Y8 hnd
 refine Ys (Zd0 (l₁:=[(x,MO.obj (instObj C_nl dx)),(dx,MO.inst (lexL ln fs pb))]) (l₂:=[(lf,MO.list (chars.map chD))]) H) r' (QI H X.k_nl Q8 JV Qf (i:=0) (j:=1) (d:=.raw (.ref pb)) rfl rfl hne (by exact .tail _ (.tail _ (.tail _ (.head _)))) (pn H 0)) (pn H 1) (Nat.le_trans hsz (by decide)) fun g₂ l₂ H=>?_
 refine ZC ⟨rfl,H.le,?_⟩
 exact(ZcY H).holds
theorem Z2Y(J:Nat→Gh→Prop)(itv:Value)(k₀:Nat)
  (hit:gwp K A (eval iter env) (fun x g₁=>gwp K A (pyIter x) (fun it g₂=>it=itv∧J k₀ g₂) g₁) g)
  (turn:∀k g,J k g→gwp K A (pyNext itv) (fun r g₁=>match r with
   |none=>gwp K A (execs rest env) Q g₁
   |some v=>gwp K A (assign target env v) (fun V g₃=>gwp K A (execs body env) (fun f g₄=>match f with
    |.next | .cont=>∃m,m<k∧J m g₄
    |.brk=>gwp K A (execs rest env) Q g₄
    |.ret v=>Q (.ret v) g₄) g₃) g₁) g)
  (ht:autoParam (letOwnedTupleGo target itv=fun V=>pure ()) Z5)
  (hs:autoParam (foldedSetIterable iter env=pure) Z5):gwp K A (execs (.For target iter body [] pos::rest) env) Q g:=by
 refine Zf (Z1r (Za hit fun x g₁ h₁=>Za h₁ fun it g₂ z₀ s ok=>ZG z₀ fun e hJ=>?_) hs)
 clear hs hit;subst e
 refine codeAny_forLoop_any (fun k s'=>∃g',g'.Ok K.B s'∧J k g') ?_ k₀ ⟨g₂,ok,hJ⟩
 rintro k s' ⟨g',ok',hJ'⟩
 refine Zn (turn k g' hJ' s' _ ok') (fun o s₁ g₁ ok₁ h₁=>?_)
 clear turn;cases o with
 |none=>exact wpAny_execs_nil ⟨g₁,ok₁,h₁⟩
 |some v=>
  refine wpAny_of_eq (congrFun ht v) ?_
  refine Zn (h₁ s₁ _ ok₁) (fun V s₂ g₂' ok₂ h₂=>Zn (h₂ s₂ _ ok₂) (fun f s₄ g₄ ok₄ h₄=>?_))
  clear h₂ h₁ ht;cases f with
  |next=>obtain⟨m,h5,h6⟩:=h₄;exact⟨m,h5,g₄,ok₄,h6⟩
  |cont=>obtain⟨m,h5,h6⟩:=h₄;exact⟨m,h5,g₄,ok₄,h6⟩
  |brk=>exact⟨g₄,ok₄,h₄⟩
  |ret v=>exact⟨g₄,ok₄,h₄⟩
theorem Z4l(ha:g.mu a=some (sq "list" its m))(hx:its.size<2^62):TruthSem K n g (.raw (.ref a)) (!its.isEmpty):=fun g₀ l₀ v h A r g₁ l s E ok=>by
 have:=Zk h;subst this
 exact wpAny_truthy_list ⟨_,ok.mu _ _ (l.at (l₀.at ha)),rfl,m,rfl⟩ (by lia) ⟨g₁,ok.tok _,LeX.refl _ _,rfl⟩
theorem ZbM(F:Frm K b S' fn cs env nm σ own g)(r:Room A n)(h:nm[i]? = some (x,NameKind.local))(hd:σ[i]? = some (some d₀))(hv:Pe K n g (eval value env) d₁)(ho:OpSem K n g (inplaceOp op) d₀ d₁ d)
  (k:∀g',LeX [env.locals] g g'→Frm K b S' fn cs env nm (σ.set i (some d)) own g'→gwp K A (execs rest env) Q g'):gwp K A (execs (.AugAssign (.Name x pos') op value pos::rest) env) Q g:=by
 refine Zf (ZaY (F.read h hd (by decide) fun v hv'=>?_))
 refine hv.use r fun v1 g₁ l₁ r1=>?_
 refine(ho _ l₁ _ _ (hv'.le l₁) r1).use r fun v2 g₂ l₂ r2=>?_
 exact(F.up (l₁.trans l₂)).storeLocal h r2 fun g'' l' F'=>k g'' ((LeX.of (l₁.trans l₂)).trans l') F'
noncomputable def wsL:List Nat:=[10,9,13,32]
noncomputable def lexA:Nat→List Nat→List Nat→List Nat×List Nat
 |_,t,[]=>(t,[])
 |0,t,c::cs=>if c∈wsL then lexA 0 t cs else if c=34 then lexA 1 t cs else if c=92 then lexA 4 t cs else lexA 2 (t++[c]) cs
 |1,t,c::cs=>if c=34 then(t,cs) else if c=92 then lexA 3 t cs else lexA 1 (t++[c]) cs
 |2,t,c::cs=>if c∈wsL then(t,cs) else if c=92 then lexA 4 t cs else lexA 2 (t++[c]) cs
 |3,t,c::cs=>lexA 1 (t++[c]) cs
 |_,t,c::cs=>lexA 2 (t++[c]) cs
theorem Zbz(t cs:List Nat):lexA 3 t cs=lexA 1 (t++cs.take 1) (cs.drop 1):=by cases cs<;>simp[lexA]
theorem Z9k(t cs:List Nat):lexA 4 t cs=lexA 2 (t++cs.take 1) (cs.drop 1):=by cases cs<;>simp[lexA]
noncomputable abbrev itO(p:Addr)(t:Tok)(e:Bool):Obj:=if e then ciObj .none .none true else ciObj (.ref p) (.str (S []) t) false
noncomputable abbrev LexIt(x dx pb lf fs it p:Addr)(t:Tok)(tot:Int)(chars:List Nat)(pbs:List D)(e:Bool):List (Addr×MO):=LexOwn x dx pb lf fs (tot-chars.count 10) chars pbs++[(it,MO.obj (itO p t e))]
theorem Jg:∀q∈LexOwn x dx pb lf fs ln chars pbs,∀o w,q.2.P im o→o.data≠.cell w:=by
 intro q hq o w h
 simp only[LexOwn,List.mem_cons,List.not_mem_nil,or_false] at hq
 rcases hq with rfl | rfl | rfl | rfl
 ·have:o=_:=h
  subst this;intro z;cases z
 ·exact ZcP _ _ h
 ·exact ZcN _ _ h
 ·exact ZcN _ _ h
theorem Z0X:Str.ofString "_read_char"∉(lexL ln fs pb).map (·.1):=by
 show Str.ofString "_read_char"∉[Str.ofString "lineno",Str.ofString "instream",Str.ofString "whitespace",Str.ofString "pushback"]
 decide +kernel
theorem Z9J(h:gcc K A c Q g)(hq:∀v g',Q v g'→Q' v g'):gcc K A c Q' g:=fun s E ok=>codeAny_mono (h s E ok) fun r s' hr=>by
 cases r with
 |error e=>exact hr
 |ok f=>cases f with
  |ret v=>obtain⟨g',h1,h2⟩:=hr;exact⟨g',h1,hq v g' h2⟩
  |_=>exact hr.elim
structure LexFr(K:Wd)(b:Gh)(fn:List Nat)(cs:List Addr)(env:Env)(nm:List (Str×NameKind))(σ:List (Option D))(x dx pb lf fs it p:Addr)(t:Tok)(tot:Int)(chars:List Nat)(pbs:List D)(e:Bool)(g:Gh):Prop where
 F:Frm K b [x,dx,pb,lf] fn cs env nm σ (LexIt x dx pb lf fs it p t tot chars pbs e) g
 hp:g.im p=some (mthObj a_nl_rc (.ref x))
 st:StreamAt g fs lf
 sz:chars.length≤10000
 nd:[x,dx,pb,lf].Nodup
section
variable{x dx pb lf fs it p:Addr}{t:Tok}{tot:Int}{chars:List Nat}{pbs:List D}{e:Bool}
theorem LexFr.up(h:LexFr K b fn cs env nm σ x dx pb lf fs it p t tot chars pbs e g)(l:Le g g'):LexFr K b fn cs env nm σ x dx pb lf fs it p t tot chars pbs e g':=⟨h.F.up l,l.im _ _ h.hp,h.st.up l,h.sz,h.nd⟩
theorem LexFr.setF(h:LexFr K b fn cs env nm σ x dx pb lf fs it p t tot chars pbs e g)(l:LeX W g g')(F:Frm K b [x,dx,pb,lf] fn cs env nm σ' (LexIt x dx pb lf fs it p t tot chars pbs e) g'):LexFr K b fn cs env nm σ' x dx pb lf fs it p t tot chars pbs e g':=⟨F,l.im _ _ h.hp,h.st.up l,h.sz,h.nd⟩
theorem LexFr.less(h:LexFr K b fn cs env nm σ x dx pb lf fs it p t tot chars pbs e g)(hl:leSt σ' σ):LexFr K b fn cs env nm σ' x dx pb lf fs it p t tot chars pbs e g:=⟨h.F.lessL hl,h.hp,h.st,h.sz,h.nd⟩
theorem LexFr.lex(h:LexFr K b fn cs env nm σ x dx pb lf fs it p t tot chars pbs e g):Holds (LexOwn x dx pb lf fs (tot-chars.count 10) chars pbs) g:=fun q hq=>h.F.holds q (List.mem_append.mpr (.inl hq))
theorem Z9e(tot:Int)(chars:List Nat):lnUp (tot-chars.count 10) chars=tot-(chars.drop 1).count 10:=by
 unfold lnUp
 cases chars with
 |nil=>simp
 |cons c cs=>
  by_cases hc:c=10
  ·subst hc;simp;lia
  ·have:¬(10=c):=fun h=>hc h.symm
   simp[hc,List.count_cons]
theorem LexFr.adv(h:LexFr K b fn cs env nm σ x dx pb lf fs it p t tot chars pbs e g)(l:LeX [x,dx,pb,lf] g g')(hh:Holds (LexOwn x dx pb lf fs (lnUp (tot-chars.count 10) chars) (chars.drop 1) pbs) g'):LexFr K b fn cs env nm σ x dx pb lf fs it p t tot (chars.drop 1) pbs e g':=by
 rw[Z9e] at hh
 exact⟨Frm.advance (ms:=LexOwn x dx pb lf fs (tot-chars.count 10) chars pbs) (ms':=LexOwn x dx pb lf fs (tot-(chars.drop 1).count 10) (chars.drop 1) pbs) h.F l rfl hh Jg,l.im _ _ h.hp,h.st.up l,by have:=h.sz;rw[List.length_drop];exact Nat.le_trans (Nat.sub_le _ _) this,h.nd⟩
theorem LexFr.read(X:WX K)(h:LexFr K b fn cs env nm σ x dx pb lf fs it p t tot chars pbs e g)(r:Room A (n+6))(ho:Pe K (n+6) g (eval o env) (.raw (.ref x)))
  (k:∀v g',Zu g'.im (.str (chars.take 1)) v→LexFr K b fn cs env nm σ x dx pb lf fs it p t tot (chars.drop 1) pbs e g'→Q v g')
  (hb:autoParam (attributeBase o "_read_char" env (eval o env)=eval o env) Z5)
  (hline:autoParam ((apos.endLine==pos.line)=true) Z5)
  (hfew:autoParam (((backTo pos (starEach [] env)).all (fun x=>!x.1)&&(backToKw pos (keywordEach [] env)).all (fun x=>x.1.isSome)
   &&decide (([]:List Expr).length+([]:List Keyword).length+(if([]:List Keyword).isEmpty then 0 else 1)<30))=true) Z5)
  (hp:autoParam ((backTo pos (starEach [] env)).any (·.1)=false) Z5):gwp K A (eval (.Call (.Attribute o "_read_char" apos) [] [] pos) env) Q g:=by
 refine Jt ?_ hline hfew
 rw[hb]
 refine ho.use r fun ov g₁ l₁ p' pl=>?_
 have:=Zk p';subst this
 replace h:=h.up l₁
 have hne:dx≠x:=Y8 h.nd
 clear p' hfew hline hb ho;refine Z4 (h.F.at (i:=0) rfl) ?_
 rintro ox x1 x2
 refine Z4 (h.F.at (i:=1) rfl) fun od d1 d2=>?_
 have hxo:ox=instObj C_nl dx:=x2
 clear x2;subst hxo
 refine YG X.k_nl Q8 Z6u YC X.f_nl_rc ZaM x1 d1 d2 hne Z0X ?_
 refine Zm X.f_nl_rc.obj fun of f1 f2 f3=>?_
 refine Qn fun z₀=>Zi z₀ fun s ok=>?_
 refine Z4 ((X.f_nl_rc.at ok).obj) fun of' f1' f2'=>?_
 refine ZI f1' f2' (Zc hp (Z2.use r fun vs g₂ l₂ rs=>⟨f1'.le l₂,?_⟩))
 clear f1 x1 d2 d1 hp;replace rs:=ZV rs;subst rs
 replace h:=h.up l₂
 exact Qj (JC (Z0L X r h.lex h.nd h.st h.sz)) fun v g₃ hv l₃ hh=>k v g₃ hv (h.adv l₃ hh)
theorem LexFr.next(X:WX K)(h:LexFr K b fn cs env nm σ x dx pb lf fs it p t tot chars pbs false g)(r:Room A (n+7))(hit:it∉[x,dx,pb,lf])
  (k0:∀g',chars=[]→LexFr K b fn cs env nm σ x dx pb lf fs it p t tot [] pbs true g'→Q none g')
  (k1:∀c rest v g',chars=c::rest→Zu g'.im (.str [c]) v→LexFr K b fn cs env nm σ x dx pb lf fs it p t tot rest pbs false g'→Q (some v) g'):gwp K A (pyNext (.ref it)) Q g:=by
 refine Z4 (h.F.at (i:=4) rfl) fun o i1 i2=>?_
 have hio:o=itO p t false:=i2
 clear i2;subst hio
 refine Z6E (T:=[x,dx,pb,lf]) r i1 h.hp X.f_nl_rc hit fun A' r'=>?_
 refine Z9J (Z0L X r' h.lex h.nd h.st h.sz) fun v g' z₀=>Z0K z₀ fun hv l hh=>⟨_,hv,l,?_⟩
 have h':=h.adv l hh
 clear hh l r' i1 hit r;cases chars with
 |nil=>
  rw[if_pos (by rfl)]
  have lt:LeX [it] g' (g'.setMu it (ciObj .none .none true)):=LeX.setMu
  refine k0 _ rfl ⟨?_,lt.im _ _ h'.hp,h'.st.up lt,h'.sz,h'.nd⟩
  exact Frm.adv (i:=4) h'.F rfl LeX.setMu ⟨_,ZcI,rfl⟩ (fun o w h=>by have:o=_:=h;subst this;intro z;cases z)
 |cons c rest=>
  rw[if_neg (by simp)]
  exact k1 c rest v g' rfl hv h'
theorem LexFr.ended(h:LexFr K b fn cs env nm σ x dx pb lf fs it p t tot chars pbs true g)(hh:A.handled=none)(q:Q none g):gwp K A (pyNext (.ref it)) Q g:=by
 refine Z4 (h.F.at (i:=4) rfl) fun o i1 i2=>?_
 have hio:o=itO p t true:=i2
 clear i2 h;subst hio
 exact Z5k hh i1 q
end
theorem LexFr.hit(h:LexFr K b fn cs env nm σ x dx pb lf fs it p t tot chars pbs e g):it∉[x,dx,pb,lf]:=by
 have h1:=h.F.apart
 have h2:([x,dx,pb,lf]++[it]).Nodup:=(List.nodup_append.mp h1).2.1
 intro hm
 exact(List.nodup_append.mp h2).2.2 it hm it (by exact .head _) rfl
theorem Z02(X:WX K)(r:Room A (n+2))(hH:Holds (LexOwn x dx pb lf fs ln chars (d::pbs)) g)(hnd:[x,dx,pb,lf].Nodup)(hsz:pbs.length≤10000) :
  gwp K A (call (.ref a_nl_gt) [.ref x]) (fun v g'=>Zu g'.im d v∧LeX [x,dx,pb,lf] g g'∧Holds (LexOwn x dx pb lf fs ln chars pbs) g') g:=by
 refine Zh (n:=n) (fn:=[]) (S':=[]) (binds:=[("self",.ref x)]) (bi:=[(0,.raw (.ref x))]) X.f_nl_gt r (Ze (by rfl)) Z4S Z4t (Z3 X.gt Z5s)
  ⟨.inl rfl,Zl,trivial⟩ fun A' L cells cs g' r' H=>?_
 have l0:=H.le
 replace H:=H.adoptB hH hnd
 have hne:dx≠x:=Y8 hnd
 clear hnd hH r;obtain⟨ob,e1,its,m,rfl,hr⟩:=H.at (i:=2) rfl
 have hlen:its.size=pbs.length+1:=by rw[←Array.length_toList,hr.length];rfl
 have pa:∀{g₁:Gh} {pos pos':Pos},Le g' g₁→Pe K n g₁ (eval (.Attribute (.Name "self" pos) "pushback" pos') _) (.raw (.ref pb)):=fun l=>QI (H.up l) X.k_nl Q8 JV Qf (i:=0) (j:=1) (d:=.raw (.ref pb)) rfl rfl hne (by exact .tail _ (.tail _ (.tail _ (.head _)))) (pn (H.up l) 0)
 refine Jd (v:=!its.isEmpty) r' (Z3v (pa (LeX.refl _ _)) (Z4l e1 (by lia))) (fun hc g₂ l₂=>?_) (fun hc g₂ l₂=>?_)
 ·replace H:=H.up l₂
  refine Zw (ZA hr) fun v vs e2 hv hrs=>?_
  have hy:its[0]? = some v:=by
   have:its.toList[0]? = some v:=by rw[e2];rfl
   simpa using this
  refine Zf (Z0l ?_)
  refine QR r' (pa l₂) (Le.at l₂ e1) (Z1 Z9 Z2) F.slot_list_pop F.type_list_pop fun vs' g₃ l₃ rs=>?_
  refine Z4 (Jo rs) ?_
  clear rs pa hr;rintro w rfl rw'
  refine Zi (Zo rw') ?_
  clear rw';rintro t rfl
  refine Z5c (Le.at (l₂.trans l₃) e1) hy (by rw[hlen];exact Nat.le_trans (Nat.succ_le_succ hsz) (by decide)) fun m'=>?_
  have H₃:=(H.up l₃).adv (i:=2) rfl (m':=MO.list pbs) (LeX.setMu (a:=pb) (o:=sq "list" (its.eraseIdxIfInBounds 0) m')) ⟨_,ZcI,_,m',rfl,by rw[Z9L e2];exact(hrs.mono l₂.im).mono l₃.im⟩ ZcN
  exact⟨(hv.mono l₂.im).mono l₃.im,H₃.le,H₃.holds⟩
 ·have:its.size=0:=by simpa using hc
  lia
noncomputable abbrev gtSt(x:Addr)(it:Addr)(tok:List Nat)(ch:Option D):List (Option D):=[some (.raw (.ref x)),some (.str tok),some (.raw (.ref it)),ch,some (.raw (.builtin "iter"))]
set_option genInjectivity false in
set_option genSizeOf false in
structure LxW where
 K:Wd
 b:Gh
 cs:List Addr
 L:Addr
 cells:List (Str×Addr)
 x:Addr
 dx:Addr
 pb:Addr
 lf:Addr
 fs:Addr
 it:Addr
 p:Addr
 t:Tok
 tot:Int
noncomputable abbrev LxW.en(w:LxW):Env:=fnEnv fd_nl_gt a_nl_gt w.L w.cells
structure LxF(w:LxW)(tok:List Nat)(ch:Option D)(chars:List Nat)(e:Bool)(g:Gh):Prop where
 h:LexFr w.K w.b [] w.cs w.en (scopeOf st_nl_gt).names (gtSt w.x w.it tok ch) w.x w.dx w.pb w.lf w.fs w.it w.p w.t w.tot chars [] e g
section
variable{w:LxW}{tok:List Nat}{ch:Option D}{chars:List Nat}{e:Bool}{pos:Pos}{rest:List Stmt}
theorem LxF.up(H:LxF w tok ch chars e g)(l:Le g g'):LxF w tok ch chars e g':=⟨H.h.up l⟩
theorem LxF.ne(H:LxF w tok ch chars e g):w.dx≠w.x:=Y8 H.h.nd
theorem LxF.n0(H:LxF w tok ch chars e g):Pe w.K n g (eval (.Name "self" pos) w.en) (.raw (.ref w.x)):=pn H.h.F 0
theorem LxF.n1(H:LxF w tok ch chars e g):Pe w.K n g (eval (.Name "token" pos) w.en) (.str tok):=pn H.h.F 1
theorem LxF.n2(H:LxF w tok ch chars e g):Pe w.K n g (eval (.Name "fiter" pos) w.en) (.raw (.ref w.it)):=pn H.h.F 2
theorem LxF.n3(H:LxF w tok (some d) chars e g):Pe w.K n g (eval (.Name "ch" pos) w.en) d:=pn H.h.F 3
theorem LxF.store(H:LxF w tok ch chars e g)(hv:Zu g.im d v)(k:∀g',LxF w tok (some d) chars e g'→Q () g'):gwp w.K A (storeName w.en "ch" v) Q g:=
 H.h.F.storeLocal (i:=3) rfl hv fun g' l F=>k g' ⟨H.h.setF l F⟩
theorem LxF.aug(H:LxF w tok (some (.str s)) chars e g)(r:Room A n)(hs:tok.length+s.length≤sizeLine)(k:∀g',LxF w (tok++s) (some (.str s)) chars e g'→gwp w.K A (execs rest w.en) Q g') :
  gwp w.K A (execs (.AugAssign (.Name "token" p1) .Add (.Name "ch" p2) p3::rest) w.en) Q g:=
 ZbM (i:=1) (d:=.str (tok++s)) H.h.F r rfl rfl H.n3 (Z94 hs) fun g' l F=>k g' ⟨H.h.setF l F⟩
theorem LxF.ws(X:WX w.K)(H:LxF w tok (some (.str [c])) chars e g):Pt w.K n g (.Compare (.Name "ch" p1) [.In] [.Attribute (.Name "self" p2) "whitespace" p3] p4) w.en (decide (c∈wsL)):=
 Zx H.n3 (QI H.h.F X.k_nl Q8 Yb YA (i:=0) (j:=1) (d:=.str wsL) rfl rfl H.ne (by exact .tail _ (.tail _ (.head _))) H.n0) Z6m
theorem LxF.iter(H:LxF w tok ch chars false g)(q:Q (.ref w.it) g):gwp w.K A (pyIter (.ref w.it)) Q g:=by
 obtain⟨o,i1,i2⟩:=H.h.F.at (i:=4) rfl
 cases(show o=itO w.p w.t false from i2)
 exact Z6F i1 q
theorem LxF.next(X:WX w.K)(H:LxF w tok ch chars false g)(r:Room A (n+7))(k0:∀g',chars=[]→LxF w tok ch [] true g'→Q none g')
  (k1:∀c cs v g',chars=c::cs→Zu g'.im (.str [c]) v→LxF w tok ch cs false g'→Q (some v) g'):gwp w.K A (pyNext (.ref w.it)) Q g:=
 H.h.next X r H.h.hit (fun g' e h=>k0 g' e ⟨h⟩) fun c cs v g' e hv h=>k1 c cs v g' e hv ⟨h⟩
theorem LxF.esc(X:WX w.K)(H:LxF w tok (some (.str [c])) chars false g)(r:Room A (n+8))(hl:(p6.endLine==p7.line)=true)
  (k:∀s cs g',(s,cs)=(if c=92 then(chars.take 1,chars.drop 1) else([c],chars))→LxF w tok (some (.str s)) cs false g'→gwp w.K A (execs rest w.en) Q g') :
  gwp w.K A (execs (.If (.Compare (.Name "ch" p1) [.Eq] [.Constant (.str "\\") 0 p2] p3) [.Assign [.Name "ch" p4] (.Call (.Attribute (.Name "self" p5) "_read_char" p6) [] [] p7) p8] [] p9::rest) w.en) Q g:=by
 refine Jd (v:=([c]==[92])) r (Zx H.n3 (Zy rfl) Z3D) (fun hb g₁ l₁=>?_) (fun hb g₁ l₁=>JW ?_)
 ·have hc:c=92:=by simpa using hb
  refine Zf (J3 ((H.up l₁).h.read X (n:=n+2) r (H.up l₁).n0 (fun v g₂ hv h2=>?_) (hline:=hl)))
  exact LxF.store ⟨h2⟩ hv fun g₃ H3=>JW (k _ _ g₃ (if_pos hc).symm H3)
 ·have hc:¬c=92:=by simpa using hb
  exact k _ _ g₁ (if_neg hc).symm (H.up l₁)
theorem Z7i(h:(s,cs)=(if c=92 then(r.take 1,r.drop 1) else([c],r))):s.length+cs.length≤r.length+1∧cs.length≤r.length:=by
 split at h<;>cases h
 ·exact⟨by rw[List.length_take,List.length_drop];exact Nat.le_trans (Nat.add_le_add (Nat.min_le_left _ _) (Nat.sub_le _ _)) (Nat.le_of_eq (Nat.add_comm _ _)),by rw[List.length_drop];exact Nat.sub_le _ _⟩
 ·exact⟨Nat.le_of_eq (Nat.add_comm _ _),Nat.le_refl _⟩
theorem LxF.loop(X:WX w.K){stop:Nat→Bool}(hm0:∀tk,lexA m tk []=(tk,[]))(hm1:∀tk c r s cs,(s,cs)=(if c=92 then(r.take 1,r.drop 1) else([c],r))→lexA m tk (c::r)=if stop c=true then(tk,r) else lexA m (tk++s) cs)
  (ht:∀{tk c cs g'},LxF w tk (some (.str [c])) cs false g'→Pt w.K (n+8) g' test w.en (stop c))(H:LxF w tok ch chars false g)(r:Room A (n+8))(hlen:tok.length+chars.length≤10001)
 (h0:lexA m tok chars=(tokR,restR))(hl:(p6.endLine==p7.line)=true)
  (kret:∀ch v g',LxF w tokR ch restR false g'→Zu g'.im (.str tokR) v→Q (.ret v) g')(kend:∀ch g',LxF w tokR ch [] true g'→restR=[]→gwp w.K A (execs rest w.en) Q g') :
  gwp w.K A (execs (.For (.Name "ch" q1) (.Name "fiter" q2) [.If test [.Return (some (.Name "token" q3)) q4] [.If (.Compare (.Name "ch" p1) [.Eq] [.Constant (.str "\\") 0 p2] p3) [.Assign [.Name "ch" p4] (.Call (.Attribute (.Name "self" p5) "_read_char" p6) [] [] p7) p8] [] p9] q5,
   .AugAssign (.Name "token" q6) .Add (.Name "ch" q7) q8] [] q9::rest) w.en) Q g:=by
 refine Z2Y (fun k g'=>∃ch' cs tk,k=cs.length∧LxF w tk ch' cs false g'∧lexA m tk cs=(tokR,restR)∧tk.length+cs.length≤10001) (.ref w.it) chars.length ?_ ?_
 ·refine H.n2.use r fun v g₁ l₁ hv=>?_
  cases Zk hv
  exact(H.up l₁).iter ⟨rfl,ch,chars,tok,rfl,H.up l₁,h0,hlen⟩
 ·clear h0 hlen;rintro k g₁ ⟨ch',cs',tk,rfl,H1,h1,hs⟩
  refine H1.next X (n:=n+1) r (fun g₂ ec H2=>?_) (fun c r2 v g₂ ec hv H2=>?_)
  ·subst ec
   rw[hm0] at h1;cases h1
   exact kend _ _ H2 rfl
  ·clear kend hm0;subst ec
   clear H1
   refine ZE (H2.store hv fun g₃ H3=>?_)
   clear H2 hv
   refine Jd r (ht H3) (fun hq g₄ l₄=>?_) (fun hq g₄ l₄=>?_)
   ·clear ht;obtain⟨s,cs,es⟩:∃s cs,(s,cs)=(if c=92 then(r2.take 1,r2.drop 1) else([c],r2)):=⟨_,_,rfl⟩
    rw[hm1 tk c r2 s cs es,if_pos hq] at h1;cases h1
    exact ZM r (H3.up l₄).n1 fun v g₅ l₅ hv=>kret _ v g₅ ((H3.up l₄).up l₅) hv
   ·refine(H3.up l₄).esc X r hl fun s cs g₅ es H5=>JW ?_
    have h2:=Z7i es
    rw[hm1 tk c r2 s cs es,if_neg (by rw[hq];exact Bool.false_ne_true)] at h1
    have hs':tk.length+(r2.length+1)≤10001:=hs
    exact H5.aug r (Nat.le_trans (by lia) (by decide:10001≤sizeLine)) fun g₆ H6=>ZC ⟨cs.length,Nat.lt_succ_of_le h2.2,_,cs,tk++s,rfl,H6,h1,by rw[List.length_append];lia⟩
theorem Zan(tk:List Nat)(c:Nat)(r s cs:List Nat)(h:(s,cs)=(if c=92 then(r.take 1,r.drop 1) else([c],r))):lexA 1 tk (c::r)=if([c]==[34])=true then(tk,r) else lexA 1 (tk++s) cs:=by
 have e:([c]==[34])=true↔c=34:=by simp
 rw[lexA]
 by_cases h1:c=34
 ·rw[if_pos h1,if_pos (e.mpr h1)]
 ·rw[if_neg h1,if_neg fun z=>h1 (e.mp z)]
  split at h<;>cases h
  ·rename_i h2;rw[if_pos h2,Zbz]
  ·rename_i h2;rw[if_neg h2]
theorem Zam(tk:List Nat)(c:Nat)(r s cs:List Nat)(h:(s,cs)=(if c=92 then(r.take 1,r.drop 1) else([c],r))):lexA 2 tk (c::r)=if decide (c∈wsL)=true then(tk,r) else lexA 2 (tk++s) cs:=by
 rw[lexA]
 by_cases h1:c∈wsL
 ·rw[if_pos h1,if_pos (decide_eq_true h1)]
 ·rw[if_neg h1,if_neg fun z=>h1 (of_decide_eq_true z)]
  split at h<;>cases h
  ·rename_i h2;rw[if_pos h2,Z9k]
  ·rename_i h2;rw[if_neg h2]
theorem Zao(c:Nat)(r s cs:List Nat)(h:(s,cs)=(if c=92 then(r.take 1,r.drop 1) else([c],r)))(h1:¬c∈wsL)(h2:¬c=34):lexA 0 [] (c::r)=lexA 2 ([]++s) cs:=by
 rw[lexA,if_neg h1,if_neg h2]
 split at h<;>cases h
 ·rename_i h2;rw[if_pos h2,Z9k]
 ·rename_i h2;rw[if_neg h2]
theorem Z5Q(X:WX w.K)(r:Room A (n+8))(H:LxF w [] ch chars false g)(h0:lexA 0 [] chars=(tokR,restR))
  (k:∀ch e v g',LxF w tokR ch restR e g'→Zu g'.im (.str tokR) v→Q (.ret v) g'):gwp w.K A (execs ((bodyOf st_nl_gt).drop 3) w.en) Q g:=by
 refine Z2Y (fun k g'=>∃ch cs e tok,k=(if e then 0 else cs.length+1)∧LxF w tok ch cs e g'∧(e=false→tok=[]∧lexA 0 [] cs=(tokR,restR))∧(e=true→(tok,cs)=(tokR,restR))) (.ref w.it) (chars.length+1) ?_ ?_
 ·refine H.n2.use r fun v g₁ l₁ hv=>?_
  cases Zk hv
  exact(H.up l₁).iter ⟨rfl,ch,chars,false,[],rfl,H.up l₁,fun V=>⟨rfl,h0⟩,fun z=>by cases z⟩
 ·rintro m g₁ ⟨ch,cs,e,tok,rfl,H,h0,h1⟩
  cases e with
  |true=>
   cases h1 rfl
   exact H.h.ended r.1 (ZM r H.n1 fun v g₂ l₂ hv=>k _ _ v g₂ (H.up l₂) hv)
  |false=>
   obtain⟨rfl,h2⟩:=h0 rfl
   clear h0 h1
   refine H.next X (n:=n+1) r (fun g₂ ec H2=>?_) (fun c r2 v g₂ ec hv H2=>?_)
   ·clear h0;subst ec
    cases(show([],[])=(tokR,restR) from h2)
    exact ZM r H2.n1 fun v g₂ l₂ hv=>k _ _ v g₂ (H2.up l₂) hv
   ·clear h0;subst ec
    have hsz:=H.h.sz
    clear H
    refine ZE (H2.store hv fun g₃ H3=>?_)
    clear H2 hv
    refine Jd r (H3.ws X) (fun hc g₄ l₄=>?_) (fun hc g₄ l₄=>JW ?_)
    ·rw[lexA,if_pos (of_decide_eq_true hc)] at h2
     exact Zf (Za8 ⟨r2.length+1,by exact Nat.le_refl _,some (.str [c]),r2,false,[],rfl,H3.up l₄,fun V=>⟨rfl,h2⟩,fun z=>by cases z⟩)
    ·have hc':¬c∈wsL:=of_decide_eq_false hc
     have H4:=H3.up l₄
     clear H3
     have kend:∀ch' g',LxF w tokR ch' [] true g'→restR=[]→∃m,m<(if false=true then 0 else(c::r2).length+1)∧∃ch cs e tok,m=(if e then 0 else cs.length+1)∧LxF w tok ch cs e g'∧(e=false→tok=[]∧lexA 0 [] cs=(tokR,restR))∧(e=true→(tok,cs)=(tokR,restR)):=fun ch' g' H' e=>by
      clear hc;subst e
      exact⟨0,by exact Nat.succ_pos _,ch',[],true,tokR,rfl,H',(fun z=>by cases z),fun V=>rfl⟩
     refine Jd (v:=([c]==[34])) r (Zx H4.n3 (Zy rfl) Z3D) (fun hq g₅ l₅=>?_) (fun hq g₅ l₅=>?_)
     ·have hq':c=34:=by simpa using hq
      rw[lexA,if_neg hc',if_pos hq'] at h2
      have hlen:([]:List Nat).length+r2.length≤10001:=by simp at hsz ⊢;exact Nat.le_trans hsz (by decide)
      exact LxF.loop X (m:=1) (stop:=fun c=>[c]==[34]) (n:=n) (fun V=>rfl) Zan (fun H=>Zx H.n3 (Zy rfl) Z3D) (H4.up l₅) r hlen h2 rfl (fun ch v g' H' hv=>k ch false v g' H' hv) fun ch' g' H' e=>ZC (ZC (kend ch' g' H' e))
     ·have hq':¬c=34:=by simpa using hq
      refine(H4.up l₅).esc X r rfl fun s cs g₆ es H6=>?_
      have h3:=Z7i es
      rw[Zao c r2 s cs es hc' hq'] at h2
      simp at hsz
      refine H6.aug r (Nat.le_trans (by simp;lia) (by decide:10001≤sizeLine)) fun g₇ H7=>?_
      have hlen:([]++s:List Nat).length+cs.length≤10001:=by rw[List.nil_append];lia
      exact LxF.loop X (m:=2) (stop:=fun c=>decide (c∈wsL)) (n:=n) (fun V=>rfl) Zam (fun H=>H.ws X) H7 r hlen h2 rfl (fun ch v g' H' hv=>k ch false v g' H' hv) fun ch' g' H' e=>ZC (ZC (kend ch' g' H' e))
end
theorem Z1k(X:WX K)(r:Room A (n+10))(hH:Holds (LexOwn x dx pb lf fs ln chars []) g)(hnd:[x,dx,pb,lf].Nodup)(hst:StreamAt g fs lf)(hsz:chars.length≤10000) :
  gwp K A (call (.ref a_nl_gt) [.ref x]) (fun v g'=>Zu g'.im (.str (lexA 0 [] chars).1) v∧LeX [x,dx,pb,lf] g g'∧Holds (LexOwn x dx pb lf fs (ln+chars.count 10-(lexA 0 [] chars).2.count 10) (lexA 0 [] chars).2 []) g') g:=by
 refine cps fun Q₀ k₀=>?_
 refine Zh (n:=n+8) (fn:=[]) (S':=[]) (binds:=[("self",.ref x)]) (bi:=[(0,.raw (.ref x))]) X.f_nl_gt r (Ze (by rfl)) Z4S Z4t (Z3 X.gt Z5s)
  ⟨.inl rfl,Zl,trivial⟩ fun A' L cells cs g' r' H=>?_
 have l0:=H.le
 replace H:=H.adoptB hH hnd
 replace hst:=hst.up l0
 have hne:dx≠x:=Y8 hnd
 clear hH r;obtain⟨ob,e1,its,m,rfl,hr⟩:=H.at (i:=2) rfl
 have hlen:its.size=0:=by rw[←Array.length_toList,hr.length];rfl
 refine Jd (v:=!its.isEmpty) r' (Z3v (QI H X.k_nl Q8 JV Qf (i:=0) (j:=1) (d:=.raw (.ref pb)) rfl rfl hne (by exact .tail _ (.tail _ (.tail _ (.head _)))) (pn H 0)) (Z4l e1 (by lia))) (fun hc g₂ l₂=>?_) (fun hc g₂ l₂=>?_)
 ·have:its.size≠0:=by exact bne_iff_ne.mp hc
  exact absurd hlen this
 refine JW ?_
 replace H:=H.up l₂
 replace hst:=hst.up l₂
 refine Jc (i:=1) (d:=.str []) H r' rfl (Zy rfl) fun g₃ l₃ H=>?_
 replace hst:=hst.up l₃
 clear l₃ hlen e1 hr;refine Z4 (H.at (i:=0) rfl) ?_
 rintro ox x1 x2
 refine Z4 (H.at (i:=1) rfl) fun od d1 d2=>?_
 have hxo:ox=instObj C_nl dx:=x2
 clear x2;subst hxo
 refine Zf (J3 (ZK ((pn H 4).useR r' fun g₄ l₄=>?_)))
 refine Zq (by intro a z;cases z) rfl (Zc rfl (Zb (YI ((pn (H.up l₄) 0).useR r' fun g₅ l₅=>?_)) rfl))
 have l45:=l₄.trans l₅
 refine Z3U X.k_nl Q8 Z6u YC X.f_nl_rc ZaM (Le.at l45 x1) (Le.at l45 d1) ((MO.inst _).mono _ _ _ l45.im d2) hne Z0X rfl fun p hp1 hp2=>?_
 have l6:Le g₅ (g₅.addIm p (mthObj a_nl_rc (.ref x))):=Le.addIm hp1
 have hp:(g₅.addIm p (mthObj a_nl_rc (.ref x))).im p=some (mthObj a_nl_rc (.ref x)):=ZcJ
 refine Zb ((Zy (l:=[]) rfl).use r' fun w g₇ l₇ p7=>Zd ?_) rfl
 refine Zi (Zz p7) ?_
 clear hp2 hp1 x1 d2 d1;rintro t rfl
 have l47:=l45.trans (l6.trans l₇)
 refine Z82 (l₇.im _ _ hp) fun it hi1 hi2=>?_
 replace H:=H.up l47
 replace hst:=hst.up l47
 have hS:it∉[x,dx,pb,lf]:=fun hm=>by
  have h8:∃q∈LexOwn x dx pb lf fs ln chars [],q.1=it:=List.mem_map.mp (show it∈(LexOwn x dx pb lf fs ln chars []).map (·.1) from hm)
  refine Z4 h8 ?_
  clear h8 hm hi1 p7 l6;rintro q hq rfl
  refine Z4 (H.holds q hq) fun o ho V=>?_
  rw[hi2] at ho;cases ho
 have hba:g.mu it=none∨it∈[x,dx,pb,lf]:=.inl (by
  clear hi1 p7 l6;cases e:g.mu it with
  |none=>rfl
  |some o=>have:=H.le.mu it o hS e;rw[hi2] at this;cases this)
 have l8:Le _ (Gh.setMu _ it (ciObj (.ref p) (.str (S []) t) false)):=ZcL hi2
 have H₈:=ZcY (l₁:=LexOwn x dx pb lf fs ln chars []) (l₂:=[]) (p:=(it,MO.obj (itO p t false)))
  (Frm.adopt (ms:=[(it,MO.obj (itO p t false))]) (H.up l8) H (Zr ⟨_,ZcI,rfl⟩) (by simp) (by simp[hi2]) (Zr (hba.symm)))
 replace hp:=l8.im _ _ (l₇.im _ _ hp)
 replace hst:=hst.up l8
 have etot:ln=(ln+chars.count 10)-chars.count 10:=by lia
 have H₉:LexFr K g [] cs (fnEnv fd_nl_gt a_nl_gt L cells) (scopeOf st_nl_gt).names _ x dx pb lf fs it p t (ln+chars.count 10) chars [] false _:=⟨by rw[LexIt,←etot];exact H₈,hp,hst,hsz,hnd⟩
 clear H₈ H hst hp
 refine H₉.F.storeLocal (i:=2) (d:=.raw (.ref it)) rfl Zl fun g₉ l₉ F₉=>?_
 refine Z5Q (w:=⟨K,g,cs,L,cells,x,dx,pb,lf,fs,it,p,t,ln+chars.count 10⟩) (n:=n) X r' (ch:=none) (chars:=chars) ⟨(H₉.setF l₉ F₉).less (by repeat (first | exact trivial | refine And.intro rfl ?_))⟩ rfl fun ch e v g' H hv=>?_
 exact(k₀ _ _ ⟨hv,H.h.F.le,H.h.lex⟩)
theorem Zd5(h:(MO.inst L).P im o)(h1:∀p∈L',p∈L)(h2:∀p∈L,p∈L'):(MO.inst L').P im o:=by
 refine Zm h fun m m1 m2 m3=>?_
 refine⟨m,m1,fun x d hx=>m2 x d (h1 _ hx),fun x hx=>m3 x fun hm=>hx ?_⟩
 refine Z4 (List.mem_map.mp hm) ?_
 clear hm hx m3 m2 h1;rintro p hp rfl
 exact List.mem_map_of_mem (h2 p hp)
theorem Z8Q(h:x∉L.map (·.1)):putN L x d=(x,d)::L:=by
 unfold putN
 congr 1
 refine List.filter_eq_self.mpr fun p hp=>?_
 simp only[bne_iff_ne,ne_eq]
 rintro rfl
 exact h (List.mem_map_of_mem hp)
theorem Qu:(putN L x d).length≤L.length+1:=by
 unfold putN
 rw[List.length_cons]
 exact Nat.succ_le_succ (List.length_filter_le _ _)
theorem ZbJ:putN (putN (putN (putN [] (Str.ofString "lineno") (.int 1)) (Str.ofString "instream") (.raw (.ref fs))) (Str.ofString "whitespace") (.str [10,9,13,32])) (Str.ofString "pushback") (.raw (.ref pb)) =
  [(Str.ofString "pushback",.raw (.ref pb)),(Str.ofString "whitespace",.str [10,9,13,32]),(Str.ofString "instream",.raw (.ref fs)),(Str.ofString "lineno",.int 1)]:=by
 have h1:((Str.ofString "lineno") !=(Str.ofString "instream"))=true:=by decide +kernel
 have h2:((Str.ofString "lineno") !=(Str.ofString "whitespace"))=true:=by decide +kernel
 have h3:((Str.ofString "lineno") !=(Str.ofString "pushback"))=true:=by decide +kernel
 have h4:((Str.ofString "instream") !=(Str.ofString "whitespace"))=true:=by decide +kernel
 have h5:((Str.ofString "instream") !=(Str.ofString "pushback"))=true:=by decide +kernel
 have h6:((Str.ofString "whitespace") !=(Str.ofString "pushback"))=true:=by decide +kernel
 simp only[putN,List.filter,h1,h2,h3,h4,h5,h6]
theorem ZaW(X:WX K)(r:Room A (n+2))(hH:Holds [(x,MO.obj (instObj C_nl dx)),(dx,MO.inst [])] g)(hnd:[x,dx].Nodup) :
  gwp K A (call (.ref a_nl_init) [.ref x,.ref fs]) (fun v g'=>v=.none∧∃pb,g.mu pb=none∧pb∉[x,dx]∧LeX [x,dx] g g'∧Holds [(x,MO.obj (instObj C_nl dx)),(dx,MO.inst (lexL 1 fs pb)),(pb,MO.list [])] g') g:=by
 refine cps fun Q₀ k₀=>?_
 refine Zh (n:=n) (fn:=[]) (S':=[]) (binds:=[("self",.ref x),("fp",.ref fs)]) (bi:=[(0,.raw (.ref x)),(1,.raw (.ref fs))]) X.f_nl_init r (Ze (by rfl)) Z6n Z60 (Z3 X.gt Z6I)
  ⟨.inl rfl,Zl,.inl rfl,Zl,trivial⟩ fun A' L cells cs g' r' H=>?_
 have l0:=H.le
 replace H:=H.adoptB hH hnd
 have hne:dx≠x:=Y8 hnd
 have hC:K.B.h₀.objs.size>C_nl:=Nat.lt_of_lt_of_le (by decide) (Nat.le_of_lt X.low)
 refine YQ (i:=0) (j:=1) (d:=.int 1) H r' X.k_nl Z1L Q7 Qx hC rfl rfl hne (by decide) (pn H 0) Z9 fun g₁ l₁ H=>?_
 refine YQ (i:=0) (j:=1) (d:=.raw (.ref fs)) H r' X.k_nl Z1L Z0c Z0V hC rfl rfl hne (Nat.le_trans Qu (by decide)) (pn H 0) (pn H 1) fun g₂ l₂ H=>?_
 refine YQ (i:=0) (j:=1) (d:=.str [10,9,13,32]) H r' X.k_nl Z1L Yb YA hC rfl rfl hne (Nat.le_trans Qu (Nat.le_trans (Nat.succ_le_succ Qu) (by decide))) (pn H 0) (Zy rfl) fun g₃ l₃ H=>?_
 refine Zf (QE (Jx Z2 r' (by decide) fun pb g₄ its l₄ i4 m4 hr=>?_))
 have lm:Le g₄ (g₄.setMu pb (sq "list" its 0)):=ZcL m4
 replace H:=H.up (l₄.trans lm)
 refine(pn H 0).useR r' fun g₅ l₅=>?_
 replace H:=H.up l₅
 clear i4 hnd;refine Z4 (H.at (i:=0) rfl) ?_
 rintro ox x1 x2
 refine Z4 (H.at (i:=1) rfl) fun od d1 d2=>?_
 have hxo:ox=instObj C_nl dx:=x2
 clear x2;subst hxo
 refine Ye X.k_nl Z1L JV Qf hC x1 d1 d2 hne (d:=.raw (.ref pb)) Zl (Nat.le_trans Qu (Nat.le_trans (Nat.succ_le_succ Qu) (Nat.le_trans (Nat.succ_le_succ (Nat.succ_le_succ Qu)) (by decide:3≤sizeLine)))) fun o' ho'=>?_
 replace H:=H.adv (i:=1) rfl (LeX.setMu (a:=dx) (o:=o')) ⟨o',ZcI,ho'⟩ ZcP
 have hS:pb∉[x,dx]:=fun hm=>by
  have h5:(g₅.mu pb)=some (sq "list" its 0):=Le.at l₅ ZcI
  simp only[List.mem_cons,List.not_mem_nil,or_false] at hm
  rcases hm with rfl | rfl
  ·clear hC;cases((x1).symm.trans h5)
  ·clear x1 hC;cases((d1).symm.trans h5);obtain⟨m,m1,V⟩:=d2;obtain⟨es,ep,e1,V⟩:=m1;cases e1
 have hpb:(Gh.setMu g₅ dx o').mu pb=some (sq "list" its 0):=(ZcK (fun e=>hS (by rw[e];simp))).trans (Le.at l₅ ZcI)
 clear x1 d1 hC;refine Z4 (H.at (i:=0) rfl) ?_
 rintro ox x1' x2'
 refine Z4 (H.at (i:=1) rfl) fun od' d1' d2'=>?_
 refine ZC (k₀ _ _ ⟨rfl,pb,?_,hS,H.le,?_⟩)
 ·cases e:g.mu pb with
  |none=>rfl
  |some o=>
   have h6:=l₁.mu _ _ (fun hm=>hS (by clear d2' hpb hS H ho' d2 l₅ lm hH r;simp at hm;simp[hm])) (l0.mu _ _ (by exact List.not_mem_nil) e)
   have h7:=l₄.at (l₃.mu _ _ (fun hm=>hS (by clear d2' hpb hS H ho' d2 l₅ lm hH r;simp at hm;simp[hm])) (l₂.mu _ _ (fun hm=>hS (by clear d2' hpb hS H ho' d2 l₅ lm hH r;simp at hm;simp[hm])) h6))
   clear h6 e hS H ho' d2 lm l₃ l₂ l₁ hH r;cases((m4).symm.trans h7)
 ·intro p hp
  simp only[List.mem_cons,List.not_mem_nil,or_false] at hp
  rcases hp with rfl | rfl | rfl
  ·exact⟨ox,x1',x2'⟩
  ·rw[ZbJ] at d2'
   exact⟨od',d1',Zd5 d2' (ZY (.tail _ (.tail _ (.tail _ (.head _)))) (ZY (.tail _ (.tail _ (.head _))) (ZY (.tail _ (.head _)) (Zr (.head _))))) (ZY (.tail _ (.tail _ (.tail _ (.head _)))) (ZY (.tail _ (.tail _ (.head _))) (ZY (.tail _ (.head _)) (Zr (.head _)))))⟩
  ·exact⟨_,hpb,its,0,rfl,hr.mono (l₅.im)⟩
theorem Z2t(hc:ClsB K.B C N bm newId mN)(q:Q .machine g):gwp K A (keeperOf (.ref C)) Q g:=fun s E ok=>by
 refine hc.elim ok ?_
 intro nm q' bs sn sub col dd k0 k1 k2 k3 k5 hC hNS
 exact wpAny_keeperOf_exc hC ⟨g,ok,q⟩
theorem QC(hc:ClsB K.B C N bm newId mN)(hplain:args.any (·.1)=false)
  (h:gwp K A (evalArgs (.ref C) true args []) (fun a g₁=>gwp K A (call (.ref C) a.pos a.kw) Q g₁) g):gwp K A (callWith pos (.ref C) [] args []) Q g:=
 Z0f hplain (Za h fun a g₁ h₁=>Z2t hc ⟨.inr (.inl rfl),h₁⟩)
theorem Z5N(X:WX K)(r:Room A (n+4)) :
  gwp K A (call (.ref C_nl) [.ref fs]) (fun v g'=>∃x dx pb,v=.ref x∧[x,dx,pb].Nodup∧g.mu x=none∧g.mu dx=none∧g.mu pb=none∧Le g g'∧Holds [(x,MO.obj (instObj C_nl dx)),(dx,MO.inst (lexL 1 fs pb)),(pb,MO.list [])] g') g:=by
 refine Z5e (n:=n+3) r X.k_nl Z9j X.f_nl_init fun A' x dx od g' r' l hx hdx hne h1 h2 h3=>?_
 refine Zg (ZaW X (n:=n+1) r' (x:=x) (dx:=dx) (fun p hp=>?_) (by simpa using fun e=>hne e.symm)) fun v g'' hv v00=>Z5L v00 fun pb h4 h5 h6 h7=>⟨hv,x,dx,pb,rfl,?_,hx,hdx,?_,?_,h7⟩
 ·simp only[List.mem_cons,List.not_mem_nil,or_false] at hp
  rcases hp with rfl | rfl
  ·exact⟨_,h1,rfl⟩
  ·exact⟨_,h2,h3⟩
 ·simp only[List.mem_cons,List.not_mem_nil,or_false,not_or] at h5
  simp only[List.nodup_cons,List.mem_cons,List.not_mem_nil,or_false,not_or,not_false_eq_true,List.nodup_nil,and_true]
  exact⟨⟨fun e=>hne e.symm,fun e=>h5.1 e.symm⟩,fun e=>h5.2 e.symm⟩
 ·exact l.nomu h4
 ·exact((LeX.of l).trans h6).forget (ZY (.inr hx) (Zr (.inr hdx)))
end
section
open PySem PySem.Spec PySem.Calls PyProof.Rows PySem.W PySem.SeqAt
variable{K:Wd}{A:Around}{g:Gh}{n:Nat}{env:Env}{α:Type}
variable{b:Gh}{S':List Addr}{fn:List Nat}{cs:List Addr}{nm:List (Str×NameKind)}{σ σ':List (Option D)}{own:List (Addr×MO)}
theorem Z6D(M:ModB K.B)(hgl:env.globals=mainGlobals)(hcl:closureFor scope env=pure cl)
  (hc:env.code=.ref c)(ht:(c,P)∈K.B.tabs)(hq:K.B.qn pos.line pos.col=some q)(hqq:env.qual++ "<lambda>" = q)
  (h:∀a fd g',Le g g'→g.mu a=none→g'.mu a=none→g'.im a=none→Q (.ref a) (g'.setMu a (fnObj fd)))
  (hdef:autoParam (defaultsOf params env=([],[])) Z5)(hkw:autoParam (params.kwonlyargs=[]) Z5):gwp K A (eval (.Lambda params body scope pos) env) Q g:=by
 rw[arm_eval_Lambda,hdef]
 show gwp K A (do let dv ←evalAll [];let kdv ←holding dv (evalAllOpt []);makeFunction "<lambda>" (env.qual++ "<lambda>") params (.expr body) scope env dv kdv [] pos pos.line) Q g
 refine Z0 (Z6 (Z0 (Zs (Z6 ?_))))
 rw[hqq]
 refine YS M hkw hgl hcl hc ht hq (fun b hb=>by cases hb) fun g' c' pm ct l hrec=>?_
 exact fun s E ok=>wpAny_newObj_type (T:= "function") (dict:=none) ⟨_,ok.pushMu (o:=fnObj _) rfl,h _ _ g' l (l.nomu ok.fresh.2) ok.fresh.2 ok.fresh.1⟩ (by trivial)
theorem Z5b(h:gwp K A t (fun v g'=>(∃s,g'.Ok K.B s)→∃g'':Gh,(∀s,g'.Ok K.B s→g''.Ok K.B s)∧Q v g'') g):gwp K A t Q g:=fun s E ok=>Zn (h s E ok) (fun v s' g' ok' h=>Z4 (h ⟨s',ok'⟩) fun g'' h1 h2=>⟨g'',h1 s' ok',h2⟩)
theorem Z3W{st:Stmt}
  (hf:FnB K.B a (topFd st q c [] dv pm ct))(r:Room A (n+2))(hbind:BindTo K (topFd st q c [] dv pm ct) ⟨vals,[]⟩ binds g)
  (hn:NamesOk (scopeOf st).names)(hsrc:srcOk [] (scopeOf st).names src=true)(hg:GlobsAre K.B (scopeOf st).names src)(hb:BindOk (scopeOf st).names fn g.im binds bi)
  (h:∀A' L cells cs g',Room A' n→(∀c∈cs,g.mu c=none∧g.im c=none)→Frm K g S' fn cs (newEnv (scopeOf st) L mainGlobals cells (q++ ".<locals>.") (some a) (.ref c) none builtinsNs) (scopeOf st).names (bindSt (srcSt [] src) bi) [] g'→
   gwp K A' (execs (bodyOf st) (newEnv (scopeOf st) L mainGlobals cells (q++ ".<locals>.") (some a) (.ref c) none builtinsNs)) (RetQ Q) g')
  (hco:autoParam ((scopeOf st).isCoroutine=false) Z5) (hgen:autoParam ((scopeOf st).isGenerator=false) Z5) (hk:autoParam ((scopeOf st).kind=.function) Z5) :
  gwp K A (call (.ref a) vals) Q g:=JC fun s E ok=>by
 have hnf:∀x∈(scopeOf st).names,x.2≠NameKind.free:=fun x hx e=>by
  refine Zi (List.getElem?_of_mem hx) fun i hi=>?_
  obtain⟨y,k⟩:=x
  clear hx;cases e
  refine Z4 (Qt hsrc hi) fun s V h1=>?_
  clear hi;cases s<;>simp[srcOk1] at h1
 exact YX (fd:=topFd st q c [] dv pm ct) (σ:=srcSt [] src) r (hf.at ok) rfl hbind hn (J7 hsrc) (Jh hsrc hg) (ClosOk.nil hnf) hb (fun A' L cells cs g' hr V V h3 F=>h A' L cells cs g' hr h3 F) rfl rfl hco hgen hk s E ok
theorem ZcZ(h:c≠a):(g.fix a o).mu c=g.mu c:=if_neg h
theorem ZcQ(h:c≠a):(g.fix a o).im c=g.im c:=if_neg h
theorem noIm(ok:g.Ok K.B s)(h:g.mu a=some o):g.im a=none:=ok.noIm h
theorem Z4E:(("_law_stream":Str)++ ".<locals>.")++ "_law_read" = q_ls_lrd:=by decide +kernel
theorem Z2l:(("_law_stream":Str)++ ".<locals>.")++ "<lambda>" = "_law_stream.<locals>.<lambda>":=by decide +kernel
theorem Z3d(X:WX K)(r:Room A (n+4)):gwp K A (call (.ref a_ls) [.ref lf]) (fun v g'=>∃fs,v=.ref fs∧Le g g'∧StreamAt g' fs lf) g:=by
 refine Z5b ?_
 refine Z3W (n:=n+2) (fn:=[0]) (S':=[]) (binds:=[("left",.ref lf)]) (bi:=[(0,.raw (.ref lf))]) X.f_ls r (Ze (by rfl)) Zc6 Zc1 (Z3 X.gt Zcm)
  ⟨.inr ⟨rfl,by decide⟩,Zl,trivial⟩ fun A' L cells cs g' r' hcs H=>?_
 refine Z7f (src:=mkSrcs GT sr_ls_lrd) (c:=c_ls) (P:=191) (i:=1) (q:=q_ls_lrd) X.md H rfl (.inl rfl) Z2P Z0n rfl (X.tab _ (by decide)) (X.qnOf (by decide +kernel)) Z4E (by rfl) fun fr fdr g₁ c' pm ct hfd hfr l₁ H=>?_
 refine Zf (J3 (Z6D (P:=191) X.md rfl (by rfl) rfl (X.tab _ (by decide)) (X.qnOf (q:= "_law_stream.<locals>.<lambda>") (by decide +kernel)) Z2l fun fs fdl g₂ l₂ m0 m2 i2=>?_))
 have lm:Le g₂ (g₂.setMu fs (fnObj fdl)):=ZcL m2
 have hba:fs∈([]:List Addr)∨g.mu fs=none:=.inr (by
  clear i2 m0;cases e:g.mu fs with
  |none=>rfl
  |some o=>have:=(H.up l₂).le.mu fs o (by exact List.not_mem_nil) e;cases((m2).symm.trans this))
 have H₂:=Frm.adopt (ms:=[(fs,MO.obj (fnObj fdl))]) ((H.up l₂).up lm) (H.up l₂) (Zr ⟨_,ZcI,rfl⟩) (by simp) (by simp[m2]) (Zr (hba))
 have hfr₂:FnAt (g₂.setMu fs (fnObj fdl)).fixed fr fdr:=hfr.le (LeX.fixed (l₂.trans lm))
 clear H hfr
 refine H₂.storeLocal (i:=2) (d:=.raw (.ref fs)) rfl Zl fun g₃ l₃ H=>?_
 have hfr₃:=hfr₂.le (LeX.fixed l₃)
 refine Zf (QE ((pn H 1).useR r' fun g₄ l₄=>(pn (H.up l₄) 2).useR r' fun g₅ l₅=>?_))
 replace H:=H.up (l₄.trans l₅)
 have hfr₅:=hfr₃.le (LeX.fixed (l₄.trans l₅))
 clear hfr₂ i2 m2 m0;refine Z4 (H.at (i:=0) rfl) ?_
 rintro of f1 f2
 have hof:of=fnObj fdl:=f2
 subst hof
 refine Z2v f1 fun dx od d1 d2 hne hns=>?_
 have l6:LeX [fs] g₅ ((g₅.setMu dx od).setMu fs (fnObjD fdl dx)):=(LeX.of (ZcL d2)).trans LeX.setMu
 have hdx:g.mu dx=none:=by
  clear d1 f2 f1;cases e:g.mu dx with
  |none=>rfl
  |some o=>have:=H.le.mu dx o (by exact List.not_mem_nil) e;cases((d2).symm.trans this)
 have hD₆:((g₅.setMu dx od).setMu fs (fnObjD fdl dx)).mu dx=some od:=(ZcK hne).trans ZcI
 replace H:=H.adv (i:=0) rfl l6 (m':=MO.obj (fnObjD fdl dx)) ⟨_,ZcI,rfl⟩ (fun o w h=>by have:o=_:=h;subst this;intro z;cases z)
 have hfr₆:=hfr₅.le (LeX.fixed l6)
 refine ZM r' (pn H 2) fun v g₇ l₇ p7=>?_
 have:=Zk p7;subst this
 replace H:=H.up l₇
 have hfr₇:=hfr₆.le (LeX.fixed l₇)
 have hS₇:g₇.mu fs=some (fnObjD fdl dx):=Le.at l₇ ZcI
 have hD₇:g₇.mu dx=some od:=Le.at l₇ hD₆
 rintro⟨s,ok⟩
 clear p7 l₇ d2 d1 f2 f1;refine Jk (H.cel 0 _ _ rfl (.inl rfl)) ?_
 rintro c oc w c1 c2 c3 c4
 refine Zw (H.cw 0 _ (by decide) rfl) fun c0 oc' e1 e2 e3=>?_
 cases((c1).symm.trans e1)
 refine Z4 (c4 (.raw (.ref lf)) rfl) fun u hu hu'=>?_
 have hu2:=Zk hu';subst hu2;subst hu
 have hoc:oc=oc':=Gh.has.inj c2 (.inr e3) ok
 clear hu';subst hoc
 have hcf:c≠fs:=fun e=>by clear c4 e1 c1 H hfr₆ hD₆ l6 hns l₃ H₂ hba l₁ hfd hcs r' r;subst e;cases((hS₇).symm.trans e3);cases c3
 have hcd:c≠dx:=fun e=>by clear c4 e1 c1 H hfr₆ hD₆ l6 l₃ H₂ hba l₁ hfd hcs r' r;subst e;cases((hD₇).symm.trans e3);exact hns.nocell _ c3
 refine⟨((g₇.fix c oc).fix fs (fnObjD fdl dx)).fix dx od,fun s ok=>((ok.fix e3).fix ((ZcZ hcf.symm).trans hS₇)).fix ((ZcZ hne).trans ((ZcZ hcd.symm).trans hD₇)),fs,rfl,?_,?_⟩
 ·have hi1:g₇.im c=none:=noIm ok e3
  have hi2:(g₇.fix c oc).im fs=none:=(ZcQ hcf.symm).trans (noIm ok hS₇)
  have hi3:((g₇.fix c oc).fix fs (fnObjD fdl dx)).im dx=none:=(ZcQ hne).trans ((ZcQ hcd.symm).trans (noIm ok hD₇))
  have l8:LeX [c,fs,dx] g₇ (((g₇.fix c oc).fix fs (fnObjD fdl dx)).fix dx od):=((LeX.fix hi1).sub (by exact Zr (.head _))).trans (((LeX.fix hi2).sub (by exact Zr (.tail _ (.head _)))).trans ((LeX.fix hi3).sub (by exact Zr (.tail _ (.tail _ (.head _))))))
  refine((LeX.of H.le).trans l8).forget (fun a ha=>.inr ?_)
  simp only[List.mem_cons,List.not_mem_nil,or_false] at ha
  rcases ha with rfl | rfl | rfl
  ·exact(hcs _ e2).1
  ·exact hba.resolve_left (by exact List.not_mem_nil)
  ·exact hdx
 ·clear c4 e2 e1 H hfr₆ hD₆ hdx l6 l₃ H₂ hba l₁ hcs r' r;subst hfd
  have hi1:g₇.im c=none:=noIm ok e3
  have hi2:(g₇.fix c oc).im fs=none:=(ZcQ hcf.symm).trans (noIm ok hS₇)
  have hi3:((g₇.fix c oc).fix fs (fnObjD fdl dx)).im dx=none:=(ZcQ hne).trans ((ZcQ hcd.symm).trans (noIm ok hD₇))
  have l8:LeX [c,fs,dx] g₇ (((g₇.fix c oc).fix fs (fnObjD fdl dx)).fix dx od):=((LeX.fix hi1).sub (by exact Zr (.head _))).trans (((LeX.fix hi2).sub (by exact Zr (.tail _ (.head _)))).trans ((LeX.fix hi3).sub (by exact Zr (.tail _ (.tail _ (.head _))))))
  refine⟨dx,fr,fdl,od,_,c',pm,ct,(ZcQ hne.symm).trans ZcO,ZcO,?_,hfr₇.le l8.fixed,?_⟩
  ·refine Zcv hns fun es ep a1 a2 V a4=>?_
   exact⟨es,ep,a1,a2,a4⟩
  ·have hcl:closOf (newEnv (scopeOf st_ls) L mainGlobals cells ("_law_stream"++ ".<locals>.") (some a_ls) (.ref c_ls) none builtinsNs).cells (scopeOf st_ls_lrd).names []=[(Str.ofString "left",c)]:=by
    show[(Str.ofString "left",(cells.lookup (Str.ofString "left")).getD 0)]=_
    have c1':cells.lookup (Str.ofString "left")=some c:=c1
    clear l8 hi3 hi2 hi1 hfr₇ hfr₅ hfr₃ e3 c1 hD₇ hS₇ hns H;rw[c1'];rfl
   have hGc:(((g₇.fix c oc).fix fs (fnObjD fdl dx)).fix dx od).im c=some oc:=(ZcQ hcd).trans ((ZcQ hcf).trans ZcO)
   show ClosOk _ (closOf (newEnv (scopeOf st_ls) L mainGlobals cells ("_law_stream"++ ".<locals>.") (some a_ls) (.ref c_ls) none builtinsNs).cells (scopeOf st_ls_lrd).names []) _ _
   rw[hcl]
   refine⟨fun i x hi=>?_,fun p hp=>?_,by simp⟩
   ·rcases i with V | V | i
    ·clear hcl l8 hi3 hi2 hi1 hfr₇ hfr₅ hfr₃ e3 c1 hD₇ hS₇ hns H;cases hi
    ·have hx:some (Str.ofString "left",NameKind.free)=some (x,NameKind.free):=hi
     clear hcl l8 hi3 hi2 hi1 hfr₇ hfr₅ hfr₃ e3 c1 hD₇ hS₇ hns H;cases hx
     refine⟨c,oc,_,rfl,.inl hGc,c3,fun d hd=>?_⟩
     have hd':some (some (D.raw (.ref lf)))=some (some d):=hd
     clear hd c3;cases hd'
     exact⟨_,rfl,Zl⟩
    ·clear hcl l8 hi3 hi2 hi1 hfr₇ hfr₅ hfr₃ e3 c3 c1 hD₇ hS₇ hns H;cases hi
   ·clear hcl l8 hi3 hi2 hi1 hfr₇ hfr₅ hfr₃ e3 c3 c1 hD₇ hS₇ hns H;simp at hp;subst hp
    exact⟨oc,.inl hGc⟩
end
section
open PySem PySem.Spec PySem.Calls PyProof.Rows PySem.W PySem.SeqAt
variable{K:Wd}{B:Base}{α β:Type}{A:Around}{g:Gh}{n:Nat}{env:Env}{c:Code}
variable{b:Gh}{S':List Addr}{fn:List Nat}{cs:List Addr}{nm:List (Str×NameKind)}{σ σ':List (Option D)}{own:List (Addr×MO)}
theorem Ji{st:Stmt}(h:gat K A c (exec st env) (fun f g'=>match f with | .next=>gat K A c (execs rest env) Q g' | f=>Q f g') g):gat K A c (execs (st::rest) env) Q g:=fun s E ok=>
 ks_wpAt_execs_cons (_root_.PySem.wpAt_mono (h s E ok) (fun f s' z₀=>Z4 z₀ fun g' h1 h2=>by
  cases f with
  |next=>exact h2 s' E h1
  |_=>exact⟨g',h1,h2⟩) fun V V z=>z)
theorem Z24(h:gat K A c (eval e env) (fun v g'=>Q (.ret v) g') g):gat K A c (exec (.Return (some e) pos) env) Q g:=fun s E ok=>ks_wpAt_Return_some (h s E ok)
theorem Z9K(h:gat K A c (eval e env) (fun V g'=>Q .next g') g)(hi:interactive env=false)(hs:autoParam (swapsWith e none pos.line env=pure false) Z5):gat K A c (exec (.Expr e pos) env) Q g:=fun s E ok=>
 ks_wpAt_Expr_any (h s E ok) hi hs
theorem Qb
  (h:gat K A c (attributeBase o name env (eval o env)) (fun ov g₁=>gwp K A (getMethod ov name pl) (fun fx g₂=>gwp K A (callWith pos fx.1 fx.2 (backTo pos (starEach args env)) []) Q g₂) g₁) g)
  (he:autoParam (eval (.Call (.Attribute o name apos) args [] pos) env=(do
   let ov ←attributeBase o name env (eval o env)
   standAt apos.atName
   let (f,first) ←holding [ov] (getMethod ov name pl)
   callWith pos f first (backTo pos (starEach args env)) [])) Z5):gat K A c (eval (.Call (.Attribute o name apos) args [] pos) env) Q g:=fun s E ok=>
 ks_wpAt_MethodCall (_root_.PySem.wpAt_mono (h s E ok) (fun ov s₁ z₀=>Z4 z₀ fun g₁ ok₁ h₁=>Zn (h₁ s₁ E ok₁) (fun fx s₂ g₂ ok₂ h₂=>h₂ s₂ E ok₂)) fun V V z=>z) he
theorem Zaw(h:Q .next g):gat K A c (execs [] env) Q g:=Z47 (ZC h)
end
section
open PySem PySem.Spec PySem.Calls PyProof.Rows PySem.W
namespace FL
theorem split:splitId "list.__new__" = some ("list", "__new__"):=by decide +kernel
theorem kind:builtinKind "list.__new__" = some .builtinFn:=by decide +kernel
theorem row:Manifest.signature? "list.__new__" = some ⟨.any, "list", "list",.cls,[⟨"args",.varPos,false⟩,⟨"kwargs",.varKw,false⟩]⟩:=by kernel_rfl
end FL
section
variable{prog:Program}{w:World}{A:Around}{E:Value→Shared→Prop}{h:Heap}{g:Array GenState}{d:Drawn}{t:Nat}{os:OsState}
variable{nm q:Str}{C N:Addr}{bs:List Value}{sn:List Str}{sub:List Value}{col:Option Bool}{dd:Option Addr}{k0 k1 k2 k3 k5:Option Value}
theorem Z28
  (hC:h.get? C=some (excClassObj nm q C N bs [.type "list",.type "object"] true sn sub false col dd k0 k1 k2 k3 k5 "list.__new__"))(hq:Q () ⟨h,g,d,t,os⟩) :
  wpAny M A (checkBuiltinCall "list.__new__" ⟨.ref C::rest,[]⟩) Q E ⟨h,g,d,t,os⟩:=by
 have hcont:(Value.ref C::[Value.type "list",Value.type "object"]).contains (.type "list")=true:=by rw[List.contains_cons,show[Value.type "list",Value.type "object"].contains (.type "list")=true from by decide,Bool.or_true]
 simp only[checkBuiltinCall,FL.kind,FL.split,FL.row]
 repeat (first | refine wpAny_loadPart_at hC ?_ | (refine wpAny_isSubtype_exc hC ?_;rw[hcont]) | refine wpAny_staticBase_exc hC ?_ | refine wpAny_madeBy_exc hC ?_ | simp only[bne_self_eq_false,Bool.false_eq_true,if_false] | wp_step)
 exact hq
noncomputable abbrev lsObj(C dx:Addr)(its:Array Value)(m:Nat):Obj:={cls:=.ref C,dict:=some dx,data:=.seq its m}
theorem Z03
  (hC:h.get? C=some (excClassObj nm q C N bs [.type "list",.type "object"] true sn sub false col dd k0 k1 k2 k3 k5 "list.__new__"))
  (hq:R (.ok (.ret (.ref (h.objs.size+1)))) ⟨(h.push {cls:=.type "dict",data:=.dict #[]}).push (lsObj C h.objs.size #[] 0),g,d,t,os⟩) :
  codeAny (model prog w) A (.builtin "list.__new__" ⟨.ref C::rest,[]⟩) R ⟨h,g,d,t,os⟩:=by
 have hcont:(Value.ref C::[Value.type "list",Value.type "object"]).contains (.type "list")=true:=by rw[List.contains_cons,show[Value.type "list",Value.type "object"].contains (.type "list")=true from by decide,Bool.or_true]
 have hown:=owner_list_new
 have hT:(⟨h,g,d,t,os⟩:Shared).TypeIs (.ref C) "type":=⟨_,hC,rfl⟩
 refine codeAny_builtin_stack F.entry_list_new rfl fun p st=>?_
 simp only[hown]
 repeat (first | with_reducible refine wpAny_loadPart_at hC ?_ | (with_reducible refine wpAny_isSubtype_exc hC ?_;rw[hcont]) | wp_step)
 show R _ _
 rw[Heap.size_push]
 exact hq
theorem Z4c
  (hC:h.get? C=some (excClassObj nm q C N bs [.type "list",.type "object"] true sn sub false col dd k0 k1 k2 k3 k5 "list.__new__"))(hn:h.Ns N mN)(hi:mN "__init__" = some (.ref fI))(hfI:h.get? fI=some oI)(hfc:oI.cls=.type "function")
  (hq:wpAny (model prog w) (A.under (.builtin "type.__call__" ⟨.ref C::rest,[]⟩)) (call (.ref fI) (.ref (h.objs.size+1)::rest)) (fun r s'=>r=.none∧Q (.ref (h.objs.size+1)) s') E ⟨(h.push {cls:=.type "dict",data:=.dict #[]}).push (lsObj C h.objs.size #[] 0),g,d,t,os⟩) :
  wpAny (model prog w) A (call (.ref C) rest) Q E ⟨h,g,d,t,os⟩:=by
 have f1:=tc_lookup
 have f2:=tc_bind (.ref C)
 have hT:(⟨h,g,d,t,os⟩:Shared).TypeIs (.ref C) "type":=⟨_,hC,rfl⟩
 have hlk:typeLookup (.type "list") "__init__" = pure (some (.builtin "list.__init__")):=by rw[typeLookup_type,builtinLookup_eq_fast];kernel_rfl
 refine wpAny_call (codeAny_of_tree ?_)
 show wpAny _ _ (callAny (.ref C) _) _ _ _
 repeat (any_goals (first | assumption | with_reducible refine wpAny_loadPart_at hC ?_ | wp_step))
 refine⟨rfl,?_⟩
 refine codeAny_call_builtin_at (Code.quiet_builtin _ (by decide +kernel)) entry_typeCall (wpAny_check_type_call_sub hC ?_)
 repeat (first | with_reducible refine wpAny_loadPart_at hC ?_ | with_reducible refine wpAny_madeBy_exc hC ?_ | wp_step)
 refine codeAny_call_builtin_code (Code.quiet_builtin _ (by decide +kernel)) (Z28 hC ?_)
 refine Z03 hC ?_
 show wpAny _ _ _ _ _ _
 have k2':∀b o,h.get? b=some o→((h.push {cls:=.type "dict",data:=.dict #[]}).push (lsObj C h.objs.size #[] 0)).get? b=some o:=fun b o e=>Heap.get?_push_of_some _ (Heap.get?_push_of_some _ e)
 have hget:((h.push {cls:=.type "dict",data:=.dict #[]}).push (lsObj C h.objs.size #[] 0)).get? (h.objs.size+1)=some (lsObj C h.objs.size #[] 0):=by
  have:=Heap.get?_push_size (h.push {cls:=.type "dict",data:=.dict #[]}) (o:=lsObj C h.objs.size #[] 0) rfl
  rwa [Heap.size_push] at this
 have hcC:(Value.ref C::[Value.type "list",Value.type "object"]).contains (.ref C)=true:=by simp
 repeat (first | with_reducible refine wpAny_loadPart_at hget ?_ | (with_reducible refine wpAny_isSubtype_exc (k2' _ _ hC) ?_;rw[hcC]) | wp_step)
 show wpAny _ _ (typeLookup (.ref C) _) _ _ _
 refine wpAny_typeLookup_exc (k2' _ _ hC) (hn.keeps k2') F.mro_list hlk ?_
 rw[hi]
 refine wpAny_holding (wpAny_bind ?_)
 refine wpAny_bind (wpAny_typeOf (T:= "function") ⟨_,k2' _ _ hfI,hfc⟩ ?_)
 rw[if_pos (by decide)]
 refine wpAny_pure (wpAny_bind (wpAny_mono hq (fun r s' hr=>?_) fun V V x=>x))
 obtain⟨rfl,hQ⟩:=hr
 wp_walk
 exact hQ
end
end
section
open PySem PySem.Spec PySem.Calls PyProof.Rows PySem.W PySem.SeqAt
variable{K:Wd}{B:Base}{α β:Type}{A:Around}{g:Gh}{n:Nat}{env:Env}
variable{b:Gh}{S':List Addr}{fn:List Nat}{cs:List Addr}{nm:List (Str×NameKind)}{σ σ':List (Option D)}{own:List (Addr×MO)}
noncomputable def MO.lsub(C dx:Addr)(ds:List D):MO:=⟨fun im o=>∃its m,o=lsObj C dx its m∧Z7 im ds its.toList,fun im im' o l z₀=>ZP z₀ fun its m e h=>⟨its,m,e,h.mono l⟩⟩
theorem ZcT(o:Obj)(w:Option Value)(h:(MO.lsub C dx ds).P im o):o.data≠.cell w:=by
 obtain⟨its,m,rfl,V⟩:=h;intro z;cases z
theorem Z6A(r:Room A (n+1))(hc:ClsB K.B C N [.type "list",.type "object"] "list.__new__" mN)(hi:mN "__init__" = some (.ref fI))(hfn:FnB K.B fI fd)
  (h:∀A' x dx od g',Room A' n→Le g g'→g.mu x=none→g.mu dx=none→dx≠x→g'.mu x=some (lsObj C dx #[] 0)→g'.mu dx=some od→(MO.inst []).P g'.im od→gwp K A' (call (.ref fI) (.ref x::vals)) (fun v g''=>v=.none∧Q (.ref x) g'') g'):gwp K A (call (.ref C) vals) Q g:=fun s E ok=>by
 refine hc.elim ok ?_
 intro nm q' bs sn sub col dd k0 k1 k2 k3 k5 hC hNS
 refine Zm hfn.obj fun of f1 f2 f3=>?_
 obtain⟨hp,gs,dr,tk,os⟩:=s
 refine Z4c hC hNS hi (ok.im _ _ (ok.base _ _ f1)) f3 ?_
 have ok1:=ok.pushMu (o:=({cls:=.type "dict",data:=.dict #[]}:Obj)) rfl
 have ok2:=ok1.pushMu (o:=lsObj C hp.objs.size #[] 0) rfl
 have l1:Le g (g.setMu hp.objs.size {cls:=.type "dict",data:=.dict #[]}):=ZcL ok.fresh.2
 have l2:=ZcL (o:=lsObj C hp.objs.size #[] 0) ok1.fresh.2
 have hs:(hp.push ({cls:=.type "dict",data:=.dict #[]}:Obj)).objs.size=hp.objs.size+1:=Heap.size_push ..
 simp only[hs] at ok2 l2
 have hne:hp.objs.size≠hp.objs.size+1:=Nat.ne_of_lt (Nat.lt_succ_self _)
 refine wpAny_mono (h _ (hp.objs.size+1) hp.objs.size {cls:=.type "dict",data:=.dict #[]} _ (r.under1 (QX _ _) (QZ _ _)) (l1.trans l2) (l1.nomu (by have:=ok1.fresh.2;simp only[hs] at this;exact this)) ok.fresh.2 hne ZcI ((ZcK hne).trans ZcI) ⟨fun V=>none,⟨#[],0,rfl,fun e he=>by simp at he,?_,fun V=>rfl⟩,by simp,by lia⟩ _ E ok2) (fun v s' hh=>?_) fun V V z=>z
 ·have:=(Heap.Ns1.of_empty (h:=hp.push {cls:=.type "dict",data:=.dict #[]}) (a:=hp.objs.size) ⟨_,#[],_,Heap.get?_push_size _ rfl,rfl,fun e he=>by simp at he,fun V=>rfl⟩)
  refine Za3 this fun o es ep e1 e2 e3 e4 e5=>?_
  clear e5 this hne l2 ok2 hs l1 ok1 ok f1 hC h hi hc r;rw[Heap.get?_push_size _ rfl] at e1
  cases e1;cases e2;exact e4
 ·refine Zm hh ?_
  clear hh hne l2 ok2 hs l1 ok1 ok f1 hC h hi hc r;rintro g' ok' rfl hq
  exact⟨rfl,g',ok',hq⟩
end
section
open PySem PySem.Spec PySem.Calls PyProof.Rows PySem.W Builtin Builtin.ObjectAttr
namespace FL
theorem lk_ga:typeLookup (.type "list") "__getattribute__" = pure (some (.builtin "list.__getattribute__")):=by rw[typeLookup_type,builtinLookup_eq_fast];kernel_rfl
theorem lk_sa:typeLookup (.type "list") "__setattr__" = pure (some (.builtin "object.__setattr__")):=by rw[typeLookup_type,builtinLookup_eq_fast];kernel_rfl
theorem lk_getattr:typeLookup (.type "list") "__getattr__" = pure none:=by rw[typeLookup_type,builtinLookup_eq_fast];kernel_rfl
theorem canon_ga:(Manifest.canonical "list.__getattribute__" !="object.__getattribute__")=false:=by decide +kernel
theorem slot_ga:Slot "list" "__getattribute__" "list.__getattribute__":=
 .of (owner:= "list") (n:= "__getattribute__") lk_ga (by decide +kernel) (by decide +kernel) (by decide +kernel)
  (by first | exact .inl (by decide +kernel) | exact .inr (by decide +kernel)) (by rw[isSubtype_type];kernel_rfl)
theorem args_ga(a b:Value):argsOk "list.__getattribute__" ⟨[a,b],[]⟩:=by delta argsOk;kernel_rfl
theorem entry_ga:entryFor table "list.__getattribute__" = some Builtin.«object.__getattribute__»:=
 entryFor_alias (id':= "object.__getattribute__") (by kernel_rfl) (by first | rfl | decide +kernel | (delta String.splitOn;simp +decide [String.splitOnAux])) (by decide +kernel) (by kernel_rfl)
end FL
section
variable{prog:Program}{w:World}{A:Around}{E:Value→Shared→Prop}{h:Heap}{g:Array GenState}{d:Drawn}{t:Nat}{os:OsState}
variable{nm q:Str}{C N x:Addr}{bs:List Value}{sn:List Str}{sub:List Value}{col:Option Bool}{dd:Option Addr}{k0 k1 k2 k3 k5:Option Value}{ox:Obj}
theorem Z1o{id owner n:String}
  (hC:h.get? C=some (excClassObj nm q C N bs [.type "list",.type "object"] true sn sub false col dd k0 k1 k2 k3 k5 "list.__new__"))(hx:h.get? x=some ox)(hxc:ox.cls=.ref C)
  (hsplit:splitId id=some (owner,n))(hkind:(Manifest.find? owner).bind (·.attrs.lookup n)=some .slot∨(Manifest.find? owner).bind (·.attrs.lookup n)=some .method)
  (how:owner = "list"∨owner = "object")(hp:plainId id=true)(hb:entryFor table id=some b)(ha:argsOk id ⟨.ref x::rest,[]⟩)
  (hc:wpAny (model prog w) A.in1 (b ⟨.ref x::rest,[]⟩) (fun fin s'=>∃v,fin=.done (.ret v)∧Q v s') E ⟨h,g,d,t,os⟩):wpAny (model prog w) A (call (.builtin id) (.ref x::rest)) Q E ⟨h,g,d,t,os⟩:=by
 have hcont:(Value.ref C::[Value.type "list",Value.type "object"]).contains (.type owner)=true:=by
  rw[List.contains_cons]
  rcases how with rfl | rfl
  ·rw[show[Value.type "list",Value.type "object"].contains (.type "list")=true from by decide,Bool.or_true]
  ·rw[show[Value.type "list",Value.type "object"].contains (.type "object")=true from by decide,Bool.or_true]
 refine wpAny_call (codeAny_call_builtin hp hb ?_)
 have hk:builtinKind id=(Manifest.find? owner).bind (·.attrs.lookup n):=by simp only[builtinKind,hsplit]
 refine wpAny_mono (Q:=fun V s₁=>s₁=⟨h,g,d,t,os⟩) (E:=fun V V=>False) ?_ (fun V s₁ e=>?_) fun V V z=>z.elim
 ·rcases hkind with hh | hh<;>
  ·simp only[checkBuiltinCall,hk,hh,hsplit]
   delta isInstance
   repeat (first | with_reducible refine wpAny_loadPart_at hx ?_ | with_reducible refine wpAny_bind ?_ | (with_reducible refine wpAny_isSubtype_exc hC ?_;rw[hcont]) | wp_step)
   rw[hxc]
   refine wpAny_isSubtype_exc hC ?_
   rw[hcont]
   cases hsig:Manifest.signature? id with
   |none=>exact wpAny_pure rfl
   |some sig=>
    simp only[argsOk,hsig] at ha
    have h2:Bind.checkArgs id sig ⟨.ref x::rest,[]⟩=pure ():=ha
    show wpAny _ _ (Bind.checkArgs id sig ⟨.ref x::rest,[]⟩) _ _ _
    rw[h2];exact wpAny_pure rfl
 ·subst e
  exact wpAny_mono hc (fun fin s' h'=>by obtain⟨v,rfl,hv⟩:=h';exact hv) fun V V z=>z
theorem Z3j
  (hC:h.get? C=some (excClassObj nm q C N bs [.type "list",.type "object"] true sn sub false col dd k0 k1 k2 k3 k5 "list.__new__"))(hn:h.Ns N mN)(hna:mN name=none)
  (hB:typeLookup (.type "list") name=pure none)(hx:h.get? x=some ox)(hxc:ox.cls=.ref C)(hnc:∀c,ox.data≠.cls c)(hdx:ox.dict=some dx)(hns:h.Ns dx mA)(hv:mA name=some v)(hq:Q (.done (.ret v)) ⟨h,g,d,t,os⟩) :
  wpAny (model prog w) A (Builtin.«object.__getattribute__» ⟨[.ref x,.str name tk],[]⟩) Q E ⟨h,g,d,t,os⟩:=by
 repeat (first | (with_reducible refine wpAny_loadPart_at hx ?_;rw[hxc]) | (with_reducible refine wpAny_typeLookup_exc hC hn F.mro_list hB ?_;rw[hna]) | wp_step)
 split
 ·rename_i c hcd
  exact absurd hcd (hnc c)
 repeat (first | (with_reducible refine wpAny_loadPart_at hx ?_;rw[hxc]) | with_reducible refine wpAny_loadPart_at hC ?_ | wp_step)
 rw[hdx]
 repeat (first | (with_reducible refine wpAny_nsGet hns ?_;rw[hv]) | wp_step)
 exact hq
theorem Z4q{mN mA:Str→Option Value}
  (hC:h.get? C=some (excClassObj nm q C N bs [.type "list",.type "object"] true sn sub false col dd k0 k1 k2 k3 k5 "list.__new__"))(hn:h.Ns N mN)(hng:mN "__getattribute__" = none)(hnh:mN "__getattr__" = none)(hna:mN name=none)
  (hB:typeLookup (.type "list") name=pure none)(hx:h.get? x=some ox)(hxc:ox.cls=.ref C)(hnc:∀c,ox.data≠.cls c)(hdx:ox.dict=some dx)(hns:h.Ns dx mA)(hv:mA name=some v)(hh:handedOut v=pure v)(hq:Q v ⟨h,g,d,t+1,os⟩) :
  wpAny (model prog w) A (getAttr (.ref x) name expr) Q E ⟨h,g,d,t,os⟩:=by
 repeat (first | (with_reducible refine wpAny_loadPart_at hx ?_;rw[hxc]) | (with_reducible refine wpAny_typeLookup_exc hC hn F.mro_list FL.lk_ga ?_;rw[hng]) | wp_step)
 refine wpAny_typeLookup_exc hC hn F.mro_list FL.lk_getattr ?_
 rw[hnh]
 refine wpAny_bind (wpAny_attempt (wpAny_holding ?_))
 delta callGetattribute
 rw[if_neg (show¬(expr&&onTheHeap (.builtin "list.__getattribute__"))=true from by simp[onTheHeap])]
 refine wpAny_bind (wpAny_of_eq (FL.slot_ga.bind _) ?_)
 show wpAny _ _ (call (.builtin "list.__getattribute__") [.ref x,.str name t]) _ _ _
 refine Z1o (n:= "__getattribute__") hC hx hxc (by decide +kernel) (by first | exact .inl (by decide +kernel) | exact .inr (by decide +kernel)) (.inl rfl) (by decide +kernel) FL.entry_ga (FL.args_ga _ _) ?_
 refine Z3j hC hn hna hB hx hxc hnc hdx hns hv ⟨_,rfl,?_⟩
 show wpAny _ _ (handedOut v) _ _ _
 rw[hh]
 exact wpAny_pure hq
end
end
section
open PySem PySem.Spec PySem.Calls PyProof.Rows PySem.W PySem.SeqAt
variable{K:Wd}{B:Base}{α β:Type}{A:Around}{g:Gh}{n:Nat}{env:Env}
variable{b:Gh}{S':List Addr}{fn:List Nat}{cs:List Addr}{nm:List (Str×NameKind)}{σ σ':List (Option D)}{own:List (Addr×MO)}
theorem Zd2:StoreFacts "list" [.type "list",.type "object"] "object.__setattr__" "object" where
 mro:=F.mro_list
 slot:=.of (owner:= "object") (n:= "__setattr__") FL.lk_sa (by decide +kernel) (by decide +kernel) (by decide +kernel)
  (by first | exact .inl (by decide +kernel) | exact .inr (by decide +kernel)) (by rw[isSubtype_type];kernel_rfl)
 entry:=F.store_object.entry
 kind:=by decide +kernel
 split:=by decide +kernel
 hasOwner:=by decide +kernel
 args:=F.store_object.args
 passes:=fun self=>by kernel_rfl
theorem Z3S(hc:ClsB K.B C N [.type "list",.type "object"] "list.__new__" mN)(hns:mN "__setattr__" = none)(hna:mN name=none)(hB:typeLookup (.type "list") name=pure none)(hxC:K.B.h₀.objs.size>C)
  (hx:g.mu x=some (lsObj C dx its mm))(hd:g.mu dx=some od)(hm:(MO.inst L).P g.im od)(hne:dx≠x)(hr:Zu g.im d v)(hsz:L.length≤sizeLine)(q:∀o',(MO.inst (putN L name d)).P g.im o'→Q () (g.setMu dx o')):gwp K A (setAttr (.ref x) name v) Q g:=
 YE Zd2 hc hns hna hB hxC hx rfl rfl (fun c z=>nomatch z) hd hm hne hr hsz q
end
section
open PySem PySem.Spec PySem.Calls PyProof.Rows PySem.W PySem.SeqAt
section
variable{prog:Program}{w:World}{A:Around}{E:Value→Shared→Prop}{h:Heap}{g:Array GenState}{d:Drawn}{t:Nat}{os:OsState}
variable{nm q:Str}{C N x:Addr}{bs:List Value}{sn:List Str}{sub:List Value}{col:Option Bool}{dd:Option Addr}{k0 k1 k2 k3 k5:Option Value}{ox:Obj}{mN mA:Str→Option Value}{name:Str}{dx:Addr}
set_option maxHeartbeats 1000000 in
theorem Z5W
  (hC:h.get? C=some (excClassObj nm q C N bs [.type "list",.type "object"] true sn sub false col dd k0 k1 k2 k3 k5 "list.__new__"))(hn:h.Ns N mN)(hng:mN "__getattribute__" = none)(hnh:mN "__getattr__" = none)
  (hf:mN name=some (.ref f))(hfo:h.get? f=some of)(hfc:of.cls=.type "function")(hB:typeLookup (.type "list") name=pure y)
  (hx:h.get? x=some ox)(hc:ox.cls=.ref C)(hdx:ox.dict=some dx)(hns:h.Ns dx mA)(hsh:mA name=none)(hq:Q (.ref f,[.ref x]) ⟨h,g,d,t,os⟩) :
  wpAny (model prog w) A (getMethod (.ref x) name pl) Q E ⟨h,g,d,t,os⟩:=by
 have hcan:=FL.canon_ga
 repeat (first | (with_reducible refine wpAny_loadPart_at hx ?_;rw[hc]) | (with_reducible refine wpAny_typeLookup_exc hC hn F.mro_list FL.lk_ga ?_;rw[hng]) | (with_reducible refine wpAny_typeLookup_exc hC hn F.mro_list FL.lk_getattr ?_;rw[hnh]) | (with_reducible refine wpAny_typeLookup_exc hC hn F.mro_list hB ?_;rw[hf]) | (with_reducible refine wpAny_typeOf (T:= "function") ⟨_,hfo,hfc⟩ ?_) | dsimp only[hcan,Bool.false_eq_true,if_false] | wp_step)
 rw[hdx]
 repeat (first | (with_reducible refine wpAny_nsGet hns ?_;rw[hsh]) | wp_step)
 exact hq
set_option maxHeartbeats 1000000 in
theorem Z4p{id:String}
  (hC:h.get? C=some (excClassObj nm q C N bs [.type "list",.type "object"] true sn sub false col dd k0 k1 k2 k3 k5 "list.__new__"))(hn:h.Ns N mN)(hng:mN "__getattribute__" = none)(hnh:mN "__getattr__" = none)
  (hf:mN name=none)(hB:typeLookup (.type "list") name=pure (some (.builtin id)))(hty:typeOf (.builtin id)=pure (.type "method_descriptor"))
  (hx:h.get? x=some ox)(hc:ox.cls=.ref C)(hdx:ox.dict=some dx)(hns:h.Ns dx mA)(hsh:mA name=none)(hq:Q (.builtin id,[.ref x]) ⟨h,g,d,t,os⟩) :
  wpAny (model prog w) A (getMethod (.ref x) name pl) Q E ⟨h,g,d,t,os⟩:=by
 have hcan:=FL.canon_ga
 repeat (first | (with_reducible refine wpAny_loadPart_at hx ?_;rw[hc]) | (with_reducible refine wpAny_typeLookup_exc hC hn F.mro_list FL.lk_ga ?_;rw[hng]) | (with_reducible refine wpAny_typeLookup_exc hC hn F.mro_list FL.lk_getattr ?_;rw[hnh]) | (with_reducible refine wpAny_typeLookup_exc hC hn F.mro_list hB ?_;rw[hf]) | (with_reducible refine wpAny_of_eq hty ?_) | dsimp only[hcan,Bool.false_eq_true,if_false] | wp_step)
 rw[hdx]
 repeat (first | (with_reducible refine wpAny_nsGet hns ?_;rw[hsh]) | wp_step)
 exact hq
end
end
section
open PySem PySem.Spec PySem.Calls PyProof.Rows PySem.W PySem.SeqAt
variable{K:Wd}{B:Base}{α β:Type}{A:Around}{g:Gh}{n:Nat}{env:Env}
theorem Z1X(hc:ClsB K.B C N [.type "list",.type "object"] "list.__new__" mN)(hng:mN "__getattribute__" = none)(hnh:mN "__getattr__" = none)(hf:mN name=some (.ref f))(hfn:FnB K.B f fd)
  (hB:typeLookup (.type "list") name=pure y)(hx:g.mu x=some (lsObj C dx its mm))(hd:g.mu dx=some od)(hm:(MO.inst L).P g.im od)(hv:name∉L.map (·.1))(q:Q (.ref f,[.ref x]) g):gwp K A (getMethod (.ref x) name pl) Q g:=fun s E ok=>by
 refine hc.elim ok ?_
 intro nm q' bs sn sub col dd k0 k1 k2 k3 k5 hC hNS
 refine Zm hm fun m m1 m2 m3=>?_
 refine Zm hfn.obj fun of f1 f2 f3=>?_
 exact Z5W hC hNS hng hnh hf (ok.im _ _ (ok.base _ _ f1)) f3 hB (ok.mu _ _ hx) rfl rfl ((m1.ns1 (ok.mu _ _ hd)).ns) (m3 _ hv) ⟨g,ok,q⟩
theorem Z1Y{id:String}(hc:ClsB K.B C N [.type "list",.type "object"] "list.__new__" mN)(hng:mN "__getattribute__" = none)(hnh:mN "__getattr__" = none)(hf:mN name=none)
  (hB:typeLookup (.type "list") name=pure (some (.builtin id)))(hty:typeOf (.builtin id)=pure (.type "method_descriptor"))(hx:g.mu x=some (lsObj C dx its mm))(hd:g.mu dx=some od)(hm:(MO.inst L).P g.im od)(hv:name∉L.map (·.1))(q:Q (.builtin id,[.ref x]) g):gwp K A (getMethod (.ref x) name pl) Q g:=fun s E ok=>by
 refine hc.elim ok ?_
 intro nm q' bs sn sub col dd k0 k1 k2 k3 k5 hC hNS
 refine Zm hm fun m m1 m2 m3=>?_
 exact Z4p hC hNS hng hnh hf hB hty (ok.mu _ _ hx) rfl rfl ((m1.ns1 (ok.mu _ _ hd)).ns) (m3 _ hv) ⟨g,ok,q⟩
end
section
open PySem PySem.Spec PySem.Calls PyProof.Rows PySem.W PySem.SeqAt Builtin
section
variable{prog:Program}{w:World}{A:Around}{E:Value→Shared→Prop}{h:Heap}{g:Array GenState}{d:Drawn}{t:Nat}{os:OsState}
variable{nm q:Str}{C N x:Addr}{bs:List Value}{sn:List Str}{sub:List Value}{col:Option Bool}{dd:Option Addr}{k0 k1 k2 k3 k5:Option Value}{ox:Obj}{mN mA mS:Str→Option Value}{name:Str}{dx so:Addr}
theorem Z6r(hs:h.Ns cStatics mS)(hm:mS "thirdparty.any" = none)(hq:Q () ⟨h,g,d,t,os⟩):wpAny M A (notOfAnOpaqueClass what how (.ref C)) Q E ⟨h,g,d,t,os⟩:=by
 repeat (first | (with_reducible refine wpAny_nsGet hs ?_;rw[hm]) | wp_step)
 exact hq
noncomputable abbrev supO(D x C:Addr):Obj:={cls:=.type "super",dict:=none,data:=.fields #[.ref D,.ref x,.ref C],slots:=#[]}
namespace FL
theorem own_len:classOwn (.type "list") "__len__" = pure (some (.builtin "list.__len__")):=by kernel_rfl
theorem own_pop:classOwn (.type "list") "pop" = pure (some (.builtin "list.pop")):=by kernel_rfl
theorem type_len:typeOf (.builtin "list.__len__")=pure (.type "wrapper_descriptor"):=by kernel_rfl
theorem type_pop:typeOf (.builtin "list.pop")=pure (.type "method_descriptor"):=by kernel_rfl
theorem get_md:typeLookup (.type "method_descriptor") "__get__" = pure (some (.builtin "method_descriptor.__get__")):=by rw[typeLookup_type,builtinLookup_eq_fast];kernel_rfl
theorem own_init:classOwn (.type "list") "__init__" = pure (some (.builtin "list.__init__")):=by kernel_rfl
theorem type_init:typeOf (.builtin "list.__init__")=pure (.type "wrapper_descriptor"):=by kernel_rfl
theorem get_wd:typeLookup (.type "wrapper_descriptor") "__get__" = pure (some (.builtin "wrapper_descriptor.__get__")):=by rw[typeLookup_type,builtinLookup_eq_fast];kernel_rfl
end FL
structure SupAt(nm bn ty gn mt:String):Prop where
 own:classOwn (.type "list") nm=pure (some (.builtin bn))
 tyo:typeOf (.builtin bn)=pure (.type ty)
 get:typeLookup (.type ty) "__get__" = pure (some (.builtin gn))
 nc:(Str.ofString nm==("__class__":Str))=false
 slot:Slot ty "__get__" gn
theorem Z8v{nn bn ty gn mt:String}(SA:SupAt nn bn ty gn mt)
  (hC:h.get? C=some (excClassObj nm q C N bs [.type "list",.type "object"] true sn sub false col dd k0 k1 k2 k3 k5 "list.__new__"))(hx:h.get? x=some ox)(hxc:ox.cls=.ref C)(hxC:x≠C)
  (hso:h.get? so=some (supO C x C))(hs:h.Ns cStatics mS)(hm:mS "thirdparty.any" = none)
  (hq:wpAny (model prog w) A (call (.builtin gn) [.builtin bn,.ref x,.ref C]) (fun v s'=>Q (.done (.ret v)) s') E ⟨h,g,d,t,os⟩) :
  wpAny (model prog w) A (Builtin.«super.__getattribute__» ⟨[.ref so,.str (Str.ofString nn) tk],[]⟩) Q E ⟨h,g,d,t,os⟩:=by
 have hne:(Value.ref x==Value.ref C)=false:=by simp[hxC]
 have hdt:(supO C x C).data=.fields #[.ref C,.ref x,.ref C]:=rfl
 have f0:(#[.ref C,.ref x,.ref C]:Array Value)[0]? = some (.ref C):=rfl
 have f1:(#[.ref C,.ref x,.ref C]:Array Value)[1]? = some (.ref x):=rfl
 have f2:(#[.ref C,.ref x,.ref C]:Array Value)[2]? = some (.ref C):=rfl
 have hn:=SA.nc
 have o1:=SA.own
 have o2:=SA.tyo
 have o3:=SA.get
 repeat (first
  |(with_reducible refine wpAny_field hso hdt f0 ?_) | (with_reducible refine wpAny_field hso hdt f1 ?_) | (with_reducible refine wpAny_field hso hdt f2 ?_)
  |(with_reducible refine Z6r hs hm ?_)
  |(with_reducible refine wpAny_mroOf_exc hC ?_)
  |(simp only[hn,hne,Bool.or_false,Bool.false_eq_true,if_false])
  |wp_step
  |dsimp only)
 have e:List.drop 1 (List.dropWhile (fun x=>x !=Value.ref C) [Value.ref C,Value.type "list",Value.type "object"])=[Value.type "list",Value.type "object"]:=by simp
 simp only[e,List.forIn'.loop]
 refine wpAny_bind (wpAny_bind (wpAny_of_eq o1 ?_))
 refine wpAny_bind (wpAny_of_eq o2 (wpAny_bind (wpAny_of_eq o3 ?_)))
 refine wpAny_bind (wpAny_holding (wpAny_mono hq (fun v s' hv=>?_) fun V V z=>z))
 exact wpAny_bind (wpAny_pure (wpAny_pure (wpAny_pure (wpAny_pure hv))))
namespace FL
theorem slot_wd:Slot "wrapper_descriptor" "__get__" "wrapper_descriptor.__get__":=
 .of (owner:= "wrapper_descriptor") (n:= "__get__") get_wd (by decide +kernel) (by decide +kernel) (by decide +kernel)
  (by first | exact .inl (by decide +kernel) | exact .inr (by decide +kernel)) (by rw[isSubtype_type];kernel_rfl)
theorem slot_md:Slot "method_descriptor" "__get__" "method_descriptor.__get__":=
 .of (owner:= "method_descriptor") (n:= "__get__") get_md (by decide +kernel) (by decide +kernel) (by decide +kernel)
  (by first | exact .inl (by decide +kernel) | exact .inr (by decide +kernel)) (by rw[isSubtype_type];kernel_rfl)
theorem entry_md:entryFor table "method_descriptor.__get__" = some Builtin.«method_descriptor.__get__»:=entryFor_of_tree (by kernel_rfl)
theorem args_md(a b c:Value):argsOk "method_descriptor.__get__" ⟨[a,b,c],[]⟩:=by delta argsOk;kernel_rfl
theorem entry_wd:entryFor table "wrapper_descriptor.__get__" = some Builtin.«wrapper_descriptor.__get__»:=entryFor_of_tree (by kernel_rfl)
theorem args_wd(a b c:Value):argsOk "wrapper_descriptor.__get__" ⟨[a,b,c],[]⟩:=by delta argsOk;kernel_rfl
end FL
noncomputable def GetAt(prog:Program)(w:World)(bn gn mt:String):Prop:=∀{A:Around} {E:Value→Shared→Prop} {h:Heap} {g:Array GenState} {d:Drawn} {t:Nat} {os:OsState} {nm q:Str} {C N x:Addr} {bs:List Value} {sn:List Str} {sub:List Value} {col:Option Bool} {dd:Option Addr} {k0 k1 k2 k3 k5:Option Value} {ox:Obj} {Q:Value→Shared→Prop},
  h.get? C=some (excClassObj nm q C N bs [.type "list",.type "object"] true sn sub false col dd k0 k1 k2 k3 k5 "list.__new__")→h.get? x=some ox→ox.cls=.ref C→
  Q (.ref h.objs.size) ⟨h.push {cls:=.type mt,data:=.fields #[.builtin bn,.ref x]},g,d,t,os⟩→
  wpAny (model prog w) A (call (.builtin gn) [.builtin bn,.ref x,.ref C]) Q E ⟨h,g,d,t,os⟩
theorem Z8r(ht:typeOf (.builtin bn)=pure (.type "wrapper_descriptor"))(ecut:".".intercalate (bn.cutAt '.').dropLast = "list"):GetAt prog w bn "wrapper_descriptor.__get__" "method-wrapper":=fun{A E h g d t os nm q C N x bs sn sub col dd k0 k1 k2 k3 k5 ox Q} hC hx hxc hq=>by
 refine wpAny_call_entry FL.slot_wd (show typeOf _=_ from ht) FL.entry_wd ?_ (FL.args_wd _ _ _)
 repeat wp_step
 have hcont:(Value.ref C::[Value.type "list",Value.type "object"]).contains (.type "list")=true:=by rw[List.contains_cons,show[Value.type "list",Value.type "object"].contains (.type "list")=true from by decide,Bool.or_true]
 rw[hxc,ecut]
 refine wpAny_isSubtype_exc hC ?_
 rw[hcont]
 rw[if_neg (by decide)]
 repeat (first | (with_reducible refine wpAny_newObj_type ?_ (by size_fits)) | wp_step)
 exact⟨_,rfl,hq⟩
theorem Zbt(ht:typeOf (.builtin bn)=pure (.type "method_descriptor"))(ecut:".".intercalate (bn.cutAt '.').dropLast = "list")(htold:Manifest.toldItsClass.contains bn=false):GetAt prog w bn "method_descriptor.__get__" "builtin_function_or_method":=fun{A E h g d t os nm q C N x bs sn sub col dd k0 k1 k2 k3 k5 ox Q} hC hx hxc hq=>by
 refine wpAny_call_entry FL.slot_md (show typeOf _=_ from ht) FL.entry_md ?_ (FL.args_md _ _ _)
 repeat (first | (rw[htold];rw[if_neg (by decide)]) | wp_step)
 have hcont:(Value.ref C::[Value.type "list",Value.type "object"]).contains (.type "list")=true:=by rw[List.contains_cons,show[Value.type "list",Value.type "object"].contains (.type "list")=true from by decide,Bool.or_true]
 rw[hxc,ecut]
 refine wpAny_isSubtype_exc hC ?_
 rw[hcont]
 rw[if_neg (by decide)]
 repeat (first | (with_reducible refine wpAny_newObj_type ?_ (by size_fits)) | wp_step)
 exact⟨_,rfl,hq⟩
theorem Z2i{nn bn ty gn mt:String}(SA:SupAt nn bn ty gn mt)(GA:GetAt prog w bn gn mt)
  (hC:h.get? C=some (excClassObj nm q C N bs [.type "list",.type "object"] true sn sub false col dd k0 k1 k2 k3 k5 "list.__new__"))(hx:h.get? x=some ox)(hxc:ox.cls=.ref C)(hxC:x≠C)
  (hso:h.get? so=some (supO C x C))(hs:h.Ns cStatics mS)(hm:mS "thirdparty.any" = none)
  (hq:Q (.ref h.objs.size,[]) ⟨h.push {cls:=.type mt,data:=.fields #[.builtin bn,.ref x]},g,d,t+1,os⟩) :
  wpAny (model prog w) A (getMethod (.ref so) (Str.ofString nn) pl) Q E ⟨h,g,d,t,os⟩:=by
 have hlk:=F.ks_slot_super_ga.lookup
 have hcan:=F.ks_canon_super_ga
 have hT:∀t',(⟨h,g,d,t',os⟩:Shared).TypeIs (.ref so) "super":=fun V=>⟨_,hso,rfl⟩
 refine wpAny_bind (wpAny_specialOf (hT _) hlk ?_)
 show wpAny _ _ (if(Manifest.canonical "super.__getattribute__" !="object.__getattribute__")=true then _ else _) _ _ _
 rw[if_pos hcan]
 refine wpAny_bind (wpAny_bind (wpAny_mkText (wpAny_holding (wpAny_bind (wpAny_typeOf (hT _) (wpAny_bind (wpAny_of_eq hlk ?_)))))))
 show wpAny _ _ (getAttrByItsOwn (.ref so) (.str (Str.ofString nn) t) (.type "super") (.builtin "super.__getattribute__") true false) _ _ _
 refine wpAny_bind (wpAny_of_eq (show(if onTheHeap (.type "super") then typeLookup (.type "super") "__getattr__" else pure none)=pure none from rfl) ?_)
 refine wpAny_bind (wpAny_attempt (wpAny_holding ?_))
 show wpAny _ _ (bindSpecial (.builtin "super.__getattribute__") (.ref so)>>=_) _ _ _
 refine wpAny_bind (wpAny_of_eq (F.ks_slot_super_ga.bind _) ?_)
 refine wpAny_mono (Q:=fun v s'=>v=.ref h.objs.size∧s'=⟨h.push {cls:=.type mt,data:=.fields #[.builtin bn,.ref x]},g,d,t+1,os⟩) (E:=fun V V=>False)
  (wpAny_call_entry F.ks_slot_super_ga (hT _) F.ks_entry_super_ga (Z8v SA hC hx hxc hxC hso hs hm (GA hC hx hxc ⟨_,rfl,rfl,rfl⟩)) (F.ks_gaArgs_super _ _)) (fun v s' hv=>?_) fun V V z=>z.elim
 obtain⟨rfl,rfl⟩:=hv
 exact wpAny_pure (wpAny_pure hq)
theorem Zd6:SupAt "__init__" "list.__init__" "wrapper_descriptor" "wrapper_descriptor.__get__" "method-wrapper":=⟨FL.own_init,FL.type_init,FL.get_wd,by decide +kernel,FL.slot_wd⟩
theorem Zdb:SupAt "__len__" "list.__len__" "wrapper_descriptor" "wrapper_descriptor.__get__" "method-wrapper":=⟨FL.own_len,FL.type_len,FL.get_wd,by decide +kernel,FL.slot_wd⟩
theorem Zda:SupAt "pop" "list.pop" "method_descriptor" "method_descriptor.__get__" "builtin_function_or_method":=⟨FL.own_pop,FL.type_pop,FL.get_md,by decide +kernel,FL.slot_md⟩
theorem Zd7:GetAt prog w "list.__init__" "wrapper_descriptor.__get__" "method-wrapper":=Z8r FL.type_init (by decide +kernel)
theorem Zdd:GetAt prog w "list.__len__" "wrapper_descriptor.__get__" "method-wrapper":=Z8r FL.type_len (by decide +kernel)
theorem Zdc:GetAt prog w "list.pop" "method_descriptor.__get__" "builtin_function_or_method":=Zbt FL.type_pop (by decide +kernel) (by decide +kernel)
end
section
variable{prog:Program}{w:World}{A:Around}{E:Value→Shared→Prop}{h:Heap}{g:Array GenState}{d:Drawn}{t:Nat}{os:OsState}
variable{x p:Addr}{C dx N:Addr}{nm q:Str}{bs:List Value}{sn:List Str}{sub:List Value}{col:Option Bool}{dd:Option Addr}{k0 k1 k2 k3 k5:Option Value}
noncomputable def BoundOk(bn:String)(x:Addr)(h:Heap):Prop:=∀{M:Model} {A:Around} {E:Value→Shared→Prop} {g:Array GenState} {d:Drawn} {t:Nat} {os:OsState} {Q:Unit→Shared→Prop},Q () ⟨h,g,d,t,os⟩→wpAny M A (checkBoundCall bn ⟨[.ref x],[]⟩) Q E ⟨h,g,d,t,os⟩
namespace FL
theorem bound_init:BoundOk "list.__init__" x h:=fun q=>wpAny_of_eq (show checkBoundCall "list.__init__" ⟨[Value.ref x],[]⟩=pure () by kernel_rfl) q
theorem entry_init:entryFor table "list.__init__" = some Builtin.«list.__init__»:=entryFor_of_tree (by kernel_rfl)
theorem bound_len:BoundOk "list.__len__" x h:=fun q=>wpAny_of_eq (show checkBoundCall "list.__len__" ⟨[Value.ref x],[]⟩=pure () by kernel_rfl) q
theorem entry_len:entryFor table "list.__len__" = some Builtin.«list.__len__»:=entryFor_of_tree (by kernel_rfl)
theorem entry_pop:entryFor table "list.pop" = some Builtin.«list.pop»:=entryFor_of_tree (by kernel_rfl)
noncomputable abbrev popSig(s:String):Manifest.Signature:=⟨.positional,s, "pop",.self,[⟨"index",.posOnly,false⟩]⟩
theorem Z4N(hs:(s !="*")=true):Bind.printed s b sg r=pure s:=by delta Bind.printed;rw[if_pos hs]
theorem Z7G(hs:(s !="*")=true):Bind.checkArgs "list.pop" (popSig s) ⟨[.ref x],[]⟩=pure ():=by
 show(Bind.printed s true (popSig s) (some (.ref x))>>=fun f=>Bind.printed "pop" false (popSig s) (some (.ref x))>>=fun p=>(Bind.check (popSig s) f p 0 []).onRaise _)=_
 rw[Z4N hs]
 rfl
theorem Z8W:builtinKind "list.pop" = some .method:=by kernel_rfl
theorem bound_pop(hC:h.get? C=some (excClassObj nm q C N bs [.type "list",.type "object"] true sn sub false col dd k0 k1 k2 k3 k5 "list.__new__"))(hx:h.get? x=some (lsObj C dx its mm)):BoundOk "list.pop" x h:=fun{M A E g d t os Q} hq=>by
 delta checkBoundCall
 have hm:(Value.ref C::[Value.type "list",Value.type "object"]).contains (.type "module")=false:=by rw[List.contains_cons,show[Value.type "list",Value.type "object"].contains (.type "module")=false from by decide,Bool.or_false];rfl
 rw[show Manifest.signature? "list.pop" = some ⟨.positional, "list.pop", "pop",.self,[⟨"index",.posOnly,false⟩]⟩ by kernel_rfl,Z8W]
 refine wpAny_bind (m:=isInstance (.ref x) (.type "module")) (wpAny_bind (m:=typeOf (.ref x)) ?_)
 refine wpAny_bind (wpAny_loadPart_at hx (wpAny_pure (wpAny_isSubtype_exc hC ?_)))
 rw[hm]
 refine wpAny_bind (m:=isType (.ref x)) (wpAny_bind (wpAny_loadPart_at (part:=none) hx (wpAny_pure ?_)))
 refine wpAny_bind (m:=typeOf (.ref x)) (wpAny_bind (wpAny_loadPart_at hx (wpAny_pure ?_)))
 refine wpAny_bind (m:=classData C) (wpAny_bind (wpAny_load hC (wpAny_pure ?_)))
 refine wpAny_bind (m:=typeOf (.ref C)) (wpAny_bind (wpAny_loadPart_at hC (wpAny_pure ?_)))
 refine wpAny_ite ?_
 show if(Value.type "type" == Value.type "type")=true then _ else _
 rw[if_pos (by decide)]
 refine wpAny_of_eq (Z7G ?_) hq
 refine bne_iff_ne.mpr fun e=>?_
 have e1:(toString (Bind.lastOf "list.pop")).length=3:=by decide +kernel
 have:=congrArg String.length e
 rw[String.length_append,e1] at this
 have e2:"*".length=1:=by decide +kernel
 lia
end FL
theorem Z29{mt bn:String}(h1:(Value.type mt == .type "method"||Value.type mt == .type "builtin_function_or_method"||Value.type mt == .type "method-wrapper")=true)(h2:(Value.type mt !=.type "method")=true)
  (hb:BoundOk bn x h)(he:entryFor table bn=some B)(hpl:plainId bn=true)
  (hp:h.get? p=some {cls:=.type mt,data:=.fields #[.builtin bn,.ref x]})
  (hq:∀A',wpAny (model prog w) A' (B ⟨[.ref x],[]⟩) (fun f s=>∃v,f=.done (.ret v)∧Q v s) E ⟨h,g,d,t,os⟩):wpAny (model prog w) A (call (.ref p) []) Q E ⟨h,g,d,t,os⟩:=by
 refine wpAny_call (codeAny_of_tree ?_)
 show wpAny _ A.in1 (callAny (.ref p) _) _ _ _
 refine wpAny_bind (wpAny_load hp ?_)
 dsimp only
 rw[if_pos h1]
 show wpAny _ _ (if(Value.type mt !=.type "method")=true then _ else _) _ _ _
 rw[if_pos h2]
 show wpAny _ _ (checkBoundCall bn ⟨[.ref x],[]⟩>>=fun V=>again (.builtin bn ⟨[.ref x],[]⟩)) _ _ _
 refine wpAny_bind (hb (wpAny_pure ⟨plainId_quiet hpl _,codeAny_builtin he (wpAny_mono (hq _) (fun f s' hf=>?_) fun V V z=>z)⟩))
 obtain⟨v,rfl,hv⟩:=hf
 exact hv
theorem Z4b(hp:h.get? p=some {cls:=.type "method-wrapper",data:=.fields #[.builtin "list.__init__",.ref x]})(hx:h.get? x=some (lsObj C dx #[] mm))
  (hq:∀h',h'=h.update x (Obj.mapSeq fun V=>#[])→Q .none ⟨h',g,d,t,os⟩):wpAny (model prog w) A (call (.ref p) []) Q E ⟨h,g,d,t,os⟩:=
 Z29 (by decide) (by decide) FL.bound_init FL.entry_init (by decide +kernel) hp fun A'=>by
  repeat wp_step
  exact⟨_,rfl,hq _ rfl⟩
theorem Z5D(hp:h.get? p=some {cls:=.type "method-wrapper",data:=.fields #[.builtin "list.__len__",.ref x]})(hx:h.get? x=some (lsObj C dx its mm))
  (hq:Q (.int its.size t) ⟨h,g,d,t+1,os⟩):wpAny (model prog w) A (call (.ref p) []) Q E ⟨h,g,d,t,os⟩:=
 Z29 (by decide) (by decide) FL.bound_len FL.entry_len (by decide +kernel) hp fun A'=>by
  repeat wp_step
  exact⟨_,rfl,hq⟩
theorem Z26{its:Array Value}:(its.push v).eraseIdxIfInBounds its.size=its:=by
 apply Array.toList_inj.mp
 rw[Array.toList_eraseIdxIfInBounds,Array.toList_push,List.eraseIdx_append_of_length_le (by simp)]
 simp
theorem Z5C{its:Array Value}(hp:h.get? p=some {cls:=.type "builtin_function_or_method",data:=.fields #[.builtin "list.pop",.ref x]})
  (hC:h.get? C=some (excClassObj nm q C N bs [.type "list",.type "object"] true sn sub false col dd k0 k1 k2 k3 k5 "list.__new__"))(hx:h.get? x=some (lsObj C dx (its.push v) mm))
  (hsz:its.size≤sizeLine)(hq:∀h',h'=h.update x (Obj.mapSeq fun xs=>xs.eraseIdxIfInBounds its.size)→Q v ⟨h',g,d,t,os⟩):wpAny (model prog w) A (call (.ref p) []) Q E ⟨h,g,d,t,os⟩:=
 Z29 (by decide) (by decide) (FL.bound_pop hC hx) FL.entry_pop (by decide +kernel) hp fun A'=>by
  repeat wp_step
  have e1:seqIndex? (-1) (its.push v).size=some its.size:=by
   have e:(-1:Int)+((its.push v).size:Nat)=its.size:=by rw[Array.size_push];lia
   delta seqIndex?
   rw[if_pos (show(-1:Int)<0 by decide),e,if_pos (by rw[Array.size_push];simp;lia)]
   rfl
  rw[e1,Option.bind_some,Array.getElem?_push_size]
  repeat wp_step
  rw[show(Obj.mapSeq (fun x=>x.eraseIdxIfInBounds its.size) (lsObj C dx (its.push v) mm)).data.pastItsLine=none from pastItsLine_seq (Nat.le_succ_of_le (by show Array.size (Array.eraseIdxIfInBounds _ _)≤_;rw[Z26];exact hsz))]
  exact wpAny_pure (wpAny_pure ⟨_,rfl,hq _ rfl⟩)
end
end
section
open PySem PySem.Spec PySem.Calls PyProof.Rows PySem.W PySem.SeqAt
variable{K:Wd}{B:Base}{α β:Type}{A:Around}{g:Gh}{n:Nat}{env:Env}{c:Code}
variable{b:Gh}{S':List Addr}{fn:List Nat}{cs:List Addr}{nm:List (Str×NameKind)}{σ σ':List (Option D)}{own:List (Addr×MO)}
noncomputable abbrev bndO(mt bn:String)(x:Addr):Obj:={cls:=.type mt,data:=.fields #[.builtin bn,.ref x]}
noncomputable abbrev mwInit(x:Addr):Obj:=bndO "method-wrapper" "list.__init__" x
theorem Z0E{i j k:Nat}{oc of:Obj}{vs:Array Value}{file:Str}{tf:Tok}{its:Array Value}{mm:Nat}{nw:String}{Q:Value→Gh→Prop}(F:Frm K b S' fn cs env nm σ own g)
  (hc:ClsB K.B C N [.type "list",.type "object"] nw mN)
  (hi:nm[i]? = some (("super":Str),.globalImplicit))(hi':σ[i]? = some (some (.raw (.type "super"))))(hj:nm[j]? = some (("__class__":Str),.free))(hj':σ[j]? = some (some (.raw (.ref C))))
  (hk:nm[k]? = some (ar.arg,.local))(hk':σ[k]? = some (some (.raw (.ref x))))
  (hat:(attr==("__class__":Str))=false)(hfu:env.func=some f)(hf:g.has f of)(hfd:of.data=.func fd)(hp:(fd.params.posonlyargs++fd.params.args).head? = some ar)(hco:env.code=.ref cc)(hcc:g.has cc oc)(hoc:oc.data=.fields vs)(hvs:vs[2]? = some (.str file tf))
  (hfile:((K.prog.main.file:Str)==file)=true)(htop:(K.prog.main.scope.names.lookup ("super":Str)).isSome=false)
  (hx:g.mu x=some (lsObj C dx its mm))(r:Room A n)
  (q:∀so g',Le g g'→g'.im so=some (supO C x C)→Q (.ref so) g'):gat K A (.func body env) (attributeBase (.Call (.Name "super" p0) [] [] p1) attr env whole) Q g:=fun s E ok=>by
 refine ks_wpAt_super_base (F.kindOf hi) (F.kindOf hj) hat hfu (hf.get ok) hfd hp hco (hcc.get ok) hoc hvs hfile htop ?_
 have h1:gwp K A (loadName env "super") (fun v g₁=>v=.type "super"∧gwp K A (loadName env "__class__") (fun cls g₂=>gwp K A (loadName env ar.arg) (fun self g₃=>gwp K A (isType cls) (fun b g₄=>b=true∧gwp K A (call (.type "super") [cls,self]) Q g₄) g₃) g₂) g₁) g:=by
  refine F.read hi hi' (by decide) fun v hv=>⟨Zk hv,?_⟩
  refine F.read hj hj' (by decide) fun cls hcl=>?_
  have:=Zk hcl;subst this
  refine F.read hk hk' (by decide) fun sf hsf=>?_
  have:=Zk hsf;subst this
  clear ok s E
  intro s E ok
  refine ZaT hc.cls ?_
  intro nm' q' bs sn sub col dd k0 k1 k2 k3 k5 hC
  have hC':=ok.im _ _ (ok.base _ _ hC)
  have hx':=ok.mu _ _ hx
  refine wpAny_bind (wpAny_load hC' ?_)
  refine wpAny_pure ⟨g,ok,rfl,?_⟩
  clear hC' hx' ok s E
  intro s E ok
  obtain⟨h,gg,d,t,os⟩:=s
  have hC':h.get? C=_:=ok.im _ _ (ok.base _ _ hC)
  have hx':h.get? x=_:=ok.mu _ _ hx
  refine ks_wpAny_call_super hC' rfl hx' rfl (fun c z=>by cases z) (fun A Q E s hs hq=>?_) fun h' hso hkp=>?_
  ·obtain⟨h2,gg2,d2,t2,os2⟩:=s
   refine wpAny_isSubtype_exc (hs _ _ hC') ?_
   have hcont:(Value.ref C::[Value.type "list",Value.type "object"]).contains (.ref C)=true:=by simp
   rw[hcont]
   exact hq
  ·have l:Le g (g.addIm h.objs.size (supO C x C)):=Le.addIm ok.fresh.1
   refine⟨_,?_,q h.objs.size (g.addIm h.objs.size (supO C x C)) l ZcJ⟩
   exact ok.extIm (tk:=t) hkp hso
 exact Qc (h1 s E ok) (fun v s₁ g₁ ok₁ e₁ h₁=>⟨e₁,Zn (h₁ s₁ E ok₁) (fun cls s₂ g₂ ok₂ h₂=>Zn (h₂ s₂ E ok₂) (fun sf s₃ g₃ ok₃ h₃=>Qc (h₃ s₃ E ok₃) (fun b s₄ g₄ ok₄ e₄ h₄=>⟨e₄,h₄ s₄ E ok₄⟩)))⟩)
theorem Z3P{nn bn ty gn mt:String}(SA:SupAt nn bn ty gn mt)(GA:∀{p:Program} {w:World},GetAt p w bn gn mt)(hc:ClsB K.B C N [.type "list",.type "object"] "list.__new__" mN)
  (hS:K.B.im cStatics=some oS)(hS1:NsObj oS mS)(hS2:mS "thirdparty.any" = none)(hx:g.mu x=some (lsObj C dx its mm))(hso:g.im so=some (supO C x C))
  (q:∀p,g.im p=none→g.mu p=none→Q (.ref p,[]) (g.addIm p (bndO mt bn x))):gwp K A (getMethod (.ref so) (Str.ofString nn) pl) Q g:=fun s E ok=>by
 refine hc.elim ok ?_
 intro nm' q' bs sn sub col dd k0 k1 k2 k3 k5 hC hNS
 obtain⟨h,gg,d,t,os⟩:=s
 have hC':h.get? C=_:=hC
 have hx':h.get? x=_:=ok.mu _ _ hx
 have hxC:x≠C:=by rintro rfl;cases((hC').symm.trans hx')
 refine Z2i SA GA hC' hx' rfl hxC (ok.im _ _ hso) (hS1.ns (ok.im _ _ (ok.base _ _ hS))) hS2 ?_
 exact⟨_,(ok.pushIm (o:=bndO mt bn x) rfl).tok _,q _ ok.fresh.1 ok.fresh.2⟩
theorem Yh{mt bn:String}(hp:g.im p=some (bndO mt bn x))(h1:(Value.type mt !=.type "method")=true)(h2:(Value.type mt == .type "builtin_function_or_method"||Value.type mt == .type "method-wrapper")=true)
  (q:gwp K A (call (.ref p) []) Q g):gwp K A (callWith pos (.ref p) [] (backTo pos (starEach [] env)) []) Q g:=by
 refine Z0f rfl ?_
 refine Zc rfl (Zd ?_)
 refine Z0 (Z1V (.inl hp) ?_)
 dsimp only
 rw[if_pos h1,if_pos h2]
 exact Z6 ⟨.inr (.inl rfl),q⟩
theorem Z3X(hp:g.im p=some (mwInit x))(hx:g.mu x=some (lsObj C dx #[] mm))
  (q:Q .none (g.setMu x (lsObj C dx #[] mm))):gwp K A (callWith pos (.ref p) [] (backTo pos (starEach [] env)) []) Q g:=Yh hp (by decide) (by decide) fun s E ok=>
 Z4b (ok.im _ _ hp) (ok.mu _ _ hx) fun h' hh=>by
  subst hh
  exact⟨_,ok.upd hx (f:=Obj.mapSeq fun V=>#[]) rfl,q⟩
theorem Z5m(hp:g.im p=some (bndO "method-wrapper" "list.__len__" x))(hx:g.mu x=some (lsObj C dx its mm))
  (q:∀t,Q (.int its.size t) g):gwp K A (callWith pos (.ref p) [] (backTo pos (starEach [] env)) []) Q g:=Yh hp (by decide) (by decide) fun s E ok=>
 Z5D (ok.im _ _ hp) (ok.mu _ _ hx) ⟨g,ok.tok _,q _⟩
theorem Z5l(hc:ClsB K.B C N [.type "list",.type "object"] "list.__new__" mN)(hp:g.im p=some (bndO "builtin_function_or_method" "list.pop" x))(hx:g.mu x=some (lsObj C dx (its.push v) mm))(hsz:its.size≤sizeLine)
  (q:∀m',Q v (g.setMu x (lsObj C dx its m'))):gwp K A (callWith pos (.ref p) [] (backTo pos (starEach [] env)) []) Q g:=Yh hp (by decide) (by decide) fun s E ok=>by
 refine hc.elim ok ?_
 intro nm' q' bs sn sub col dd k0 k1 k2 k3 k5 hC hNS
 refine Z5C (ok.im _ _ hp) hC (ok.mu _ _ hx) hsz fun h' hh=>?_
 subst hh
 have e:Obj.mapSeq (fun xs=>xs.eraseIdxIfInBounds its.size) (lsObj C dx (its.push v) mm)=lsObj C dx its (mm+1):=by
  show lsObj C dx ((its.push v).eraseIdxIfInBounds its.size) (if(((its.push v).eraseIdxIfInBounds its.size).size==(its.push v).size)=true then mm else mm+1)=_
  rw[Z26,if_neg (by simp)]
 have ok':=ok.upd hx (f:=Obj.mapSeq fun xs=>xs.eraseIdxIfInBounds its.size) (by rw[e];rfl)
 rw[e] at ok'
 exact⟨_,ok',q _⟩
theorem QS{st:Stmt}{c:Addr}
  (hf:FnB K.B a (topFd st q c [("__class__",cl)] dv pm ct))(hcl:K.B.im cl=some {cls:=.type "cell",data:=.cell (some u)})(r:Room A (n+2))(hbind:BindTo K (topFd st q c [("__class__",cl)] dv pm ct) ⟨vals,[]⟩ binds g)
  (hn:NamesOk (scopeOf st).names)(hsrc:srcOk [("__class__",.cell)] (scopeOf st).names src=true)(hg:GlobsAre K.B (scopeOf st).names src)(hb:BindOk (scopeOf st).names fn g.im binds bi)
  (h:∀A' L cells cs g',Room A' n→Frm K g S' fn cs (newEnv (scopeOf st) L mainGlobals cells (q++ ".<locals>.") (some a) (.ref c) none builtinsNs) (scopeOf st).names (bindSt (srcSt [some (.raw u)] src) bi) [] g'→
   gat K A' (.func (bodyOf st) (newEnv (scopeOf st) L mainGlobals cells (q++ ".<locals>.") (some a) (.ref c) none builtinsNs)) (execs (bodyOf st) (newEnv (scopeOf st) L mainGlobals cells (q++ ".<locals>.") (some a) (.ref c) none builtinsNs)) (RetQ Q) g')
  (hco:autoParam ((scopeOf st).isCoroutine=false) Z5) (hgen:autoParam ((scopeOf st).isGenerator=false) Z5) (hk:autoParam ((scopeOf st).kind=.function) Z5) :
  gwp K A (call (.ref a) vals) Q g:=JC fun s E ok=>by
 have hclos:ClosOk (scopeOf st).names [("__class__",cl)] (srcSt [some (.raw u)] src) g:=by
  refine⟨fun i x hi=>?_,fun p hp=>?_,by simp⟩
  ·refine Z4 (Qt hsrc hi) fun s' h1 h2=>?_
   clear hi;cases s' with
   |no=>simp[srcOk1] at h2
   |glob v=>simp[srcOk1] at h2
   |outer j=>
    have hx:x=Str.ofString "__class__":=by
     rcases j with V | j
     ·have h3:(some (("__class__":Str),NameKind.cell)==some (x,NameKind.cell)||some (("__class__":Str),NameKind.cell)==some (x,NameKind.free))=true:=by simpa [srcOk1] using h2
      simp at h3;exact h3.symm
     ·simp[srcOk1] at h2
    clear h2;subst hx
    refine⟨cl,_,some u,by exact rfl,.inl (ok.base _ _ hcl),rfl,fun d hd=>?_⟩
    rcases Z05 hd with⟨v,e,V⟩ | ⟨j',e,e'⟩
    ·clear hd;cases((h1).symm.trans e)
    ·rcases j' with V | j'
     ·clear e hd h1;simp at e';subst e';exact⟨u,rfl,Zl⟩
     ·simp at e'
  ·simp at hp;subst hp;exact⟨_,.inl (ok.base _ _ hcl)⟩
 exact Z0g (fd:=topFd st q c [("__class__",cl)] dv pm ct) (σ:=srcSt [some (.raw u)] src) r (hf.at ok) rfl hbind hn (J7 hsrc) (Jh hsrc hg) hclos hb (fun A' L cells cs g' hr V V h3 F=>h A' L cells cs g' hr F) rfl rfl hco hgen hk s E ok
theorem Z3R{i j:Nat}(F:Frm K b S' fn cs env nm σ own g)(r:Room A n)(hc:ClsB K.B C N [.type "list",.type "object"] "list.__new__" mN)(hns:mN "__setattr__" = none)(hna:mN attr=none)(hB:typeLookup (.type "list") attr=pure none)(hxC:K.B.h₀.objs.size>C)
  (hi:own[i]? = some (x,MO.lsub C dx ds))(hj:own[j]? = some (dx,MO.inst L))(hne:dx≠x)(hsz:L.length≤1000)(ho:Pe K n g (eval o env) (.raw (.ref x)))(hval:Pe K n g (eval value env) d)
  (k:∀g',LeX [dx] g g'→Frm K b S' fn cs env nm σ (own.set j (dx,MO.inst (putN L attr d))) g'→Q .next g')
  (hs:autoParam (swapsWith value (some (.Attribute o attr pos')) pos.line env=pure false) Z5):gwp K A (exec (.Assign [.Attribute o attr pos'] value pos) env) Q g:=
 QE (hval.use r fun v g₁ l₁ hv=>(ho.le l₁).useR r fun g₂ l₂=>by
  have F₂:=F.up (l₁.trans l₂)
  refine Z4 (F₂.at hi) fun ox x1 x2=>?_
  refine Z4 (F₂.at hj) fun od d1 d2=>?_
  refine ZP x2 ?_
  clear x2 hval ho hi F;rintro its mm rfl hr
  refine Z3S hc hns hna hB hxC x1 d1 d2 hne (hv.le l₂) (Nat.le_trans hsz (by decide)) fun o' ho'=>?_
  exact k _ ((LeX.of (l₁.trans l₂)).trans LeX.setMu) (F₂.adv hj LeX.setMu ⟨o',ZcI,ho'⟩ ZcP)) hs
end
section
open PySem PySem.Spec PySem.Calls PyProof.Rows PySem.W PySem.SeqAt
variable{K:Wd}{A:Around}{g:Gh}{n:Nat}{env:Env}{α:Type}
variable{b:Gh}{S':List Addr}{fn:List Nat}{cs:List Addr}{nm:List (Str×NameKind)}{σ σ':List (Option D)}{own:List (Addr×MO)}
theorem Z4e:M_Ac "__getattribute__" = none:=by decide +kernel
theorem Z4d:M_Ac "__getattr__" = none:=by decide +kernel
theorem ZbU:M_Ac "__setattr__" = none:=by decide +kernel
theorem Z7m:M_Ac "_initial_size" = none:=by decide +kernel
theorem Za0:M_Ac "__init__" = some (.ref a_Ac_init):=by decide +kernel
theorem Z5I:M_Ac "push" = some (.ref a_Ac_push):=by decide +kernel
theorem Z9d:typeLookup (.type "list") "_initial_size" = pure none:=by rw[typeLookup_type,builtinLookup_eq_fast];kernel_rfl
theorem Z7b:typeLookup (.type "list") "push" = pure none:=by rw[typeLookup_type,builtinLookup_eq_fast];kernel_rfl
noncomputable def accL(d:D):List (Str×D):=[(Str.ofString "_initial_size",d)]
noncomputable def AccOwn(x dx:Addr)(d:D)(ds:List D):List (Addr×MO):=[(x,MO.lsub C_Ac dx ds),(dx,MO.inst (accL d))]
theorem Z3K(X:WX K):(K.prog.main.scope.names.lookup ("super":Str)).isSome=false:=by rw[X.pr];decide +kernel
theorem Z3T(ho:g.has a o)(hd:o.data=.seq its m)(q:Q (some its) g):gwp K A (seqItems? (.ref a)) Q g:=fun s E ok=>wpAny_seqItems (ho.get ok) hd ⟨g,ok,q⟩
theorem Z2C(X:WX K):BindTo K fd_Ac_init ⟨[x,v],[]⟩ [("self",x),("initial_size",v)] g:=fun A Q q=>by
 refine Za4 (X.dv 30 (by exact .head _)) fun o u m h1 h2=>?_
 show gwp K A (Bind.bind (seqItems? (Value.ref 30)) _) Q g
 refine Z0 (Qn fun z₀=>Zi z₀ fun s ok=>Z3T (.inl (ok.base _ _ h1)) h2 ?_)
 exact Qz rfl (Z6 q)
theorem Z5R(X:WX K)(r:Room A (n+2))(hH:Holds [(x,MO.lsub C_Ac dx []),(dx,MO.inst [])] g)(hnd:[x,dx].Nodup)(hv:Zu g.im d v) :
  gwp K A (call (.ref a_Ac_init) [.ref x,v]) (fun u g'=>u=.none∧LeX [x,dx] g g'∧Holds (AccOwn x dx d []) g') g:=by
 refine cps fun Q₀ k₀=>?_
 refine ZO (X.cf c_Ac_init (by exact .head _)) fun oc vs t c1 c2 c3=>?_
 refine Zw X.stt fun oS mS s1 s2 s3=>?_
 refine QS (n:=n) (fn:=[]) (S':=[]) (binds:=[("self",.ref x),("initial_size",v)]) (bi:=[(0,.raw (.ref x)),(1,d)]) X.f_Ac_init X.cc r (Z2C X) Z6q Z63 (Z3 X.gt Z6L)
  ⟨.inl rfl,Zl,.inl rfl,hv,trivial⟩ fun A' L cells cs g' r' H=>?_
 have l0:=H.le
 replace H:=H.adoptB hH hnd
 have hne:dx≠x:=Y8 hnd
 have hC:K.B.h₀.objs.size>C_Ac:=Nat.lt_of_lt_of_le (by decide) (Nat.le_of_lt X.low)
 refine Ji (Z47 (Z3R (i:=0) (j:=1) (d:=d) H r' X.k_Ac ZbU Z7m Z9d hC rfl rfl hne (by decide) (pn H 0) (pn H 1) fun g₁ l₁ H=>?_))
 refine Ji (Z9K (Qb ?_ (by rfl)) H.inter)
 refine Zm X.f_Ac_init.obj fun oF f1 f2 f3=>?_
 refine fun s E ok=>?_
 clear l₁ hC hnd hH r;obtain⟨ox,x1,its,mm,rfl,x2⟩:=H.at (i:=0) rfl
 refine Z0E H X.k_Ac (i:=3) (j:=2) (k:=0) (ar:=((paramsOf st_Ac_init).posonlyargs++(paramsOf st_Ac_init).args).headD ⟨"",none,⟨0,0,0,0⟩⟩) rfl rfl rfl rfl rfl rfl (by decide +kernel) rfl (.inl (ok.base _ _ f1)) f2 rfl rfl (.inl (ok.base _ _ c1)) c2 c3 (by lia) (Z3K X) x1 r' (fun so g₂ l₂ hso=>?_) s E ok
 refine Z3P Zd6 Zd7 X.k_Ac s1 s2 s3 (l₂.at x1) hso fun p p1 p2=>?_
 have lp:Le g₂ (g₂.addIm p (mwInit x)):=Le.addIm p1
 replace H:=H.up (l₂.trans lp)
 clear p2 p1 hso x1 x2 f1 s3 s1 c3 c1;obtain⟨ox,y1,its',mm',rfl,y2⟩:=H.at (i:=0) rfl
 have he:its' = #[]:=Array.toList_eq_nil_iff.mp (ZV y2)
 clear y2;subst he
 refine Z3X ZcJ y1 ?_
 replace H:=H.adv (i:=0) rfl (LeX.setMu (a:=x) (o:=lsObj C_Ac dx #[] mm')) (m':=MO.lsub C_Ac dx []) ⟨_,ZcI,#[],mm',rfl,by exact rfl⟩ ZcT
 refine Zaw (k₀ _ _ ⟨rfl,H.le,?_⟩)
 have:=H.holds
 rw[Z8Q (by exact List.not_mem_nil)] at this
 exact this
end
section
open PySem PySem.Spec PySem.Calls PyProof.Rows PySem.W PySem.SeqAt Builtin
section
variable{prog:Program}{w:World}{A:Around}{E:Value→Shared→Prop}{h:Heap}{g:Array GenState}{d:Drawn}{t:Nat}{os:OsState}
variable{nm q:Str}{C N x:Addr}{bs:List Value}{sn:List Str}{sub:List Value}{col:Option Bool}{dd:Option Addr}{k0 k1 k2 k3 k5:Option Value}{ox:Obj}{mN mA mS:Str→Option Value}{name:Str}{dx so:Addr}
noncomputable abbrev subCls(nm q:Str)(C N:Addr)(bs:List Value)(sn:List Str)(sub:List Value)(col:Option Bool)(dd:Option Addr)(k0 k1 k2 k3 k5:Option Value):Obj:=excClassObj nm q C N bs [.type "list",.type "object"] true sn sub false col dd k0 k1 k2 k3 k5 "list.__new__"
theorem Z5V(hx:h.get? x=some ox)(hxc:ox.cls=.ref C)(hq:Q (.ref C) ⟨h,g,d,t,os⟩):wpAny M A (typeOf (.ref x)) Q E ⟨h,g,d,t,os⟩:=by
 repeat (first | (with_reducible refine wpAny_loadPart_at hx ?_;rw[hxc]) | wp_step)
 exact hq
theorem Ql(hC:h.get? C=some (subCls nm q C N bs sn sub col dd k0 k1 k2 k3 k5))(hn:h.Ns N mN)(hx:h.get? x=some ox)(hxc:ox.cls=.ref C)
  (hB:typeLookup (.type "list") name=pure y)(hq:Q (match mN name with | some v=>some v | none=>y) ⟨h,g,d,t,os⟩):wpAny M A (specialOf (.ref x) name) Q E ⟨h,g,d,t,os⟩:=by
 exact wpAny_bind (Z5V hx hxc (wpAny_typeLookup_exc hC hn F.mro_list hB hq))
theorem Qr(hC:h.get? C=some (subCls nm q C N bs sn sub col dd k0 k1 k2 k3 k5))(hn:h.Ns N mN)(hx:h.get? x=some ox)(hxc:ox.cls=.ref C)
  (hB:typeLookup (.type "list") name=pure y)(hm:mN name=some (.ref f))(hf:h.get? f=some of)(hfc:of.cls=.type "function")(hc:wpAny (model prog w) A (call (.ref f) (.ref x::args)) (fun v=>Q (some v)) E ⟨h,g,d,t,os⟩):wpAny (model prog w) A (callSpecial? (.ref x) name args) Q E ⟨h,g,d,t,os⟩:=by
 refine wpAny_bind (Ql hC hn hx hxc hB ?_)
 rw[hm]
 refine wpAny_holding (wpAny_bind ?_)
 refine wpAny_bind (wpAny_typeOf (T:= "function") ⟨_,hf,hfc⟩ ?_)
 rw[if_pos (by decide)]
 refine wpAny_pure ?_
 exact wpAny_bind (wpAny_mono (by exact hc) (fun v s' hv=>wpAny_pure hv) fun V V z=>z)
theorem Z8y(hC:h.get? C=some (subCls nm q C N bs sn sub col dd k0 k1 k2 k3 k5))(hn:h.Ns N mN)(hx:h.get? x=some ox)(hxc:ox.cls=.ref C)(hm:mN "__iter__" = none)
  (hQ:Q (.ref h.objs.size) ⟨h.push {cls:=.type "list_iterator",data:=.fields #[.ref x,.int 0 0]},g,d,t,os⟩):wpAny (model prog w) A (pyIter (.ref x)) Q E ⟨h,g,d,t,os⟩:=by
 refine wpAny_bind (Ql hC hn hx hxc slot_list_iter.lookup ?_)
 rw[hm]
 show wpAny _ _ (callSpecialIfBoundUnlessNone? (.ref x) "__iter__" _>>=_) _ _ _
 refine wpAny_bind ?_
 refine wpAny_holding (wpAny_bind (wpAny_bind (Ql hC hn hx hxc slot_list_iter.lookup ?_)))
 rw[hm]
 refine wpAny_bind (wpAny_askSetting (wpAny_ite ?_))
 have key:wpAny (model prog w) A (call (.builtin "list.__iter__") [.ref x]) (fun v s'=>v=.ref h.objs.size∧s'=⟨h.push {cls:=.type "list_iterator",data:=.fields #[.ref x,.int 0 0]},g,d,t,os⟩) E ⟨h,g,d,t,os⟩:=by
  refine Z1o hC hx hxc (show splitId "list.__iter__" = some ("list", "__iter__") from by decide +kernel) (by first | exact .inl (by decide +kernel) | exact .inr (by decide +kernel)) (.inl rfl) (by decide +kernel) entry_list_iter (args_list_iter _) ?_
  show wpAny _ _ (do ret (←newFields "list_iterator" [.ref x,rawInt 0])) _ _ _
  exact wpAny_bind (wpAny_newObj_type (wpAny_pure ⟨_,rfl,rfl,rfl⟩))
 have fin:∀(refuse:Sem Value) (Q':Option Value→Shared→Prop),Q' (some (.ref h.objs.size)) ⟨h.push {cls:=.type "list_iterator",data:=.fields #[.ref x,.int 0 0]},g,d,t,os⟩→wpAny (model prog w) A (if(Value.builtin "list.__iter__" == Value.none)=true then(refuse>>=fun v=>pure (some v)) else(call (.builtin "list.__iter__") [.ref x]>>=fun v=>pure (some v))) Q' E ⟨h,g,d,t,os⟩:=fun refuse Q' q=>by
  refine wpAny_bind (wpAny_mono key (fun v s' h'=>?_) fun V V h'=>h')
  refine ZG h' ?_
  clear h' key hm hx hC;rintro rfl rfl
  exact wpAny_pure q
 have aft:∀{Q':Value→Shared→Prop},Q' (.ref h.objs.size) ⟨h.push {cls:=.type "list_iterator",data:=.fields #[.ref x,.int 0 0]},g,d,t,os⟩→wpAny (model prog w) A (specialOf (.ref h.objs.size) "__next__" >>= fun r=>match r with | none=>(do rule "iter.non-iterator";raiseError "TypeError" s!"iter() returned non-iterator of type '{← typeNameOf (.ref h.objs.size)}'") | some _=>pure (.ref h.objs.size)) Q' E ⟨h.push {cls:=.type "list_iterator",data:=.fields #[.ref x,.int 0 0]},g,d,t,os⟩:=fun{Q'} q=>by
  refine wpAny_bind (wpAny_specialOf (T:= "list_iterator") ⟨_,Heap.get?_push_size _ rfl,rfl⟩ slot_listiter_next.lookup ?_)
  exact wpAny_pure q
 split
 ·exact wpAny_bind (wpAny_pure (wpAny_pure (fin _ _ (aft hQ))))
 ·exact wpAny_tryCatch (wpAny_bind (wpAny_pure (wpAny_pure (fin _ _ (aft hQ)))))
end
end
section
open PySem PySem.Spec PySem.Calls PyProof.Rows PySem.W PySem.SeqAt
open Builtin
section
variable{prog:Program}{w:World}{A:Around}{E:Value→Shared→Prop}{s:Shared}
theorem Z2n(hit:s.heap.IsListIter it l i)
  (hol:s.heap.get? l=some ol)(hdl:ol.data=.seq items nl)(hx:items[i]? = some x)
  (hQ:∀h',h'.IsListIter it l (i+1)→Heap.SameBut it s.heap h'→Q (some x) {s with heap:=h'}) :
  wpAny (model prog w) A (pyNext (.ref it)) Q E s:=by
 refine Zm (id hit) fun o ho hc hd=>?_
 refine wpAny_bind (wpAny_attempt (wpAny_callSpecial?_slot (name:=Str.ofString "__next__") hit.typeIs slot_listiter_next
  (wpAny_call_entry slot_listiter_next hit.typeIs entry_listiter_next ?_ (args_listiter_next _))))
 show wpAny _ _ (field (.ref it) 0>>=_) _ _ s
 refine wpAny_bind (wpAny_field ho hd (x:=.ref l) rfl ?_)
 show wpAny _ _ (if(Value.ref l==Value.none)=true then _ else _) _ _ s
 rw[if_neg (show¬((Value.ref l==Value.none)=true) from Bool.false_ne_true)]
 show wpAny _ _ (field (.ref it) 1>>=_) _ _ s
 refine wpAny_bind (wpAny_field ho hd (x:=.int i 0) rfl ?_)
 show wpAny _ _ (seqItems? (.ref l)>>=_) _ _ s
 refine wpAny_bind (wpAny_seqItems hol hdl ?_)
 simp only[Int.toNat_natCast,hx]
 refine wpAny_bind (wpAny_setField ho hd (by exact Nat.le_refl _) (wpAny_pure ⟨x,rfl,wpAny_pure (hQ _ ?_ (Heap.SameBut.update ..))⟩))
 exact⟨_,Heap.get?_update_self _ ho (Obj.isFreed_of_fields (Obj.data_mapFields hd _)),(Obj.cls_mapFields ..).trans hc,by
  rw[Obj.data_mapFields hd];simp[rawInt]⟩
theorem Z3L(hh:A.handled=none)
  (hit:s.heap.IsListIter it l i)(hol:s.heap.get? l=some ol)(hdl:ol.data=.seq items nl)(hx:items[i]? = none)
  (hQ:∀h',Heap.ExtBut it s.heap h'→Q none {s with heap:=h'}):wpAny (model prog w) A (pyNext (.ref it)) Q E s:=by
 refine Zm (id hit) fun o ho hc hd=>?_
 refine wpAny_bind (wpAny_attempt (wpAny_callSpecial?_slot (name:=Str.ofString "__next__") hit.typeIs slot_listiter_next
  (wpAny_call_entry slot_listiter_next hit.typeIs entry_listiter_next ?_ (args_listiter_next _))))
 show wpAny _ _ (field (.ref it) 0>>=_) _ _ s
 refine wpAny_bind (wpAny_field ho hd (x:=.ref l) rfl ?_)
 show wpAny _ _ (if(Value.ref l==Value.none)=true then _ else _) _ _ s
 rw[if_neg (show¬((Value.ref l==Value.none)=true) from Bool.false_ne_true)]
 show wpAny _ _ (field (.ref it) 1>>=_) _ _ s
 refine wpAny_bind (wpAny_field ho hd (x:=.int i 0) rfl ?_)
 show wpAny _ _ (seqItems? (.ref l)>>=_) _ _ s
 refine wpAny_bind (wpAny_seqItems hol hdl ?_)
 simp only[Int.toNat_natCast,hx]
 refine wpAny_bind (wpAny_rule (wpAny_bind (wpAny_setField ho hd (by exact Nat.succ_pos _) ?_)))
 show wpAny _ _ (newExc (.type "StopIteration") []>>=_) _ _ _
 refine wpAny_bind ?_
 refine wpAny_bind (wpAny_newObj_type ?_ (by size_fits))
 refine wpAny_bind (m:=firstArgMember _ _) (wpAny_of_eq (a:=Value.none) (by first | rfl | (dsimp only[firstArgMember];rfl)) ?_)
 refine wpAny_newObj_type ?_ (by size_fits)
 refine wpAny_bind (wpAny_handled ?_)
 rw[show A.in1.handled=none from hh]
 refine wpAny_bind (wpAny_pure (wpAny_throw ?_))
 refine wpAny_bind (wpAny_isInstance (T:= "StopIteration") (b:=true) ⟨_,Heap.get?_push_size _ rfl,rfl⟩ isSubtype_stop ?_)
 exact wpAny_pure (hQ _ (((Heap.SameBut.update ..).extBut.push _).push _))
end
variable{K:Wd}{B:Base}{α β:Type}{A:Around}{g:Gh}{n:Nat}{env:Env}{c:Code}
variable{b:Gh}{S':List Addr}{fn:List Nat}{cs:List Addr}{nm:List (Str×NameKind)}{σ σ':List (Option D)}{own:List (Addr×MO)}
noncomputable abbrev ClsL(B:Base)(C N:Addr)(mN:Str→Option Value):Prop:=ClsB B C N [.type "list",.type "object"] "list.__new__" mN
theorem Y2(hc:ClsL K.B C N mN)(hx:g.mu x=some (lsObj C dx its m))(ok:g.Ok K.B s){G:Prop}(k:∀nm q bs sn sub col dd k0 k1 k2 k3 k5,s.heap.get? C=some (subCls nm q C N bs sn sub col dd k0 k1 k2 k3 k5)→s.heap.Ns N mN→s.heap.get? x=some (lsObj C dx its m)→G):G:=
 hc.elim ok fun nm q bs sn sub col dd k0 k1 k2 k3 k5 h1 h2=>k nm q bs sn sub col dd k0 k1 k2 k3 k5 h1 h2 (ok.mu _ _ hx)
theorem Z2Z(r:Room A n)(hc:ClsL K.B C N mN)
  (hng:mN "__getattribute__" = none)(hnh:mN "__getattr__" = none)(hf:mN name=some (.ref f))(hfn:FnB K.B f fd)(hB:typeLookup (.type "list") name=pure y)
  (ho:Pe K n g (eval o env) (.raw (.ref x)))(hx:g.mu x=some (lsObj C dx its mm))(hd:g.mu dx=some od)(hm:(MO.inst L).P g.im od)(hv:name∉L.map (·.1))(hargs:Pes K n g args env pos ds)
  (h:∀vs g',Le g g'→Z7 g'.im ds vs→gwp K A (call (.ref f) (.ref x::vs)) Q g')
  (hb:autoParam (attributeBase o name env (eval o env)=eval o env) Z5)
  (hline:autoParam ((apos.endLine==pos.line)=true) Z5)
  (hfew:autoParam (((backTo pos (starEach args env)).all (fun x=>!x.1)&&(backToKw pos (keywordEach [] env)).all (fun x=>x.1.isSome)
   &&decide (args.length+([]:List Keyword).length+(if([]:List Keyword).isEmpty then 0 else 1)<30))=true) Z5)
  (hp:autoParam ((backTo pos (starEach args env)).any (·.1)=false) Z5):gwp K A (eval (.Call (.Attribute o name apos) args [] pos) env) Q g:=by
 refine Jt ?_ hline hfew
 rw[hb]
 refine ho.use r fun ov g₁ l₁ p' pl=>?_
 have:=Zk p';subst this
 refine Z1X hc hng hnh hf hfn hB (l₁.at hx) (l₁.at hd) ((MO.inst L).mono _ _ _ l₁.im hm) hv ?_
 refine Qn fun z₀=>Zi z₀ fun s ok=>?_
 refine Z4 ((hfn.at ok).obj) fun of' f1' f2'=>?_
 refine ZI f1' f2' (Zc hp ((hargs.le l₁).use r fun vs g₂ l₂ rs=>⟨f1'.le l₂,?_⟩))
 exact h vs g₂ (l₁.trans l₂) rs
theorem Z5p{Q:Value→Gh→Prop}(hc:ClsL K.B C N mN)(hx:g.mu x=some (lsObj C dx its m))(hsz:its.size≤sizeLine)(q:∀m',Q .none (g.setMu x (lsObj C dx (its.push v) m'))):gwp K A (call (.builtin "list.append") [.ref x,v]) Q g:=fun s E ok=>by
 refine Y2 hc hx ok ?_
 intro nm' q' bs sn sub col dd k0 k1 k2 k3 k5 hC hN hx'
 refine Z1o hC hx' rfl (show splitId "list.append" = some ("list", "append") from by decide +kernel) (by first | exact .inl (by decide +kernel) | exact .inr (by decide +kernel)) (.inl rfl) (by decide +kernel) entry_list_append (args_list_append _ _) ?_
 show wpAny _ _ (Builtin.List.listUpdate (.ref x) (·.push v)>>=_) _ _ _
 refine wpAny_bind (wpAny_updateSeq (o:=lsObj C dx its m) hx' rfl (wpAny_pure ⟨_,rfl,?_⟩) hsz (by simp;exact hsz))
 exact⟨_,ok.upd hx (f:=Obj.mapSeq (·.push v)) rfl,q _⟩
end
section
open PySem PySem.Spec PySem.Calls PyProof.Rows PySem.W PySem.SeqAt Builtin
variable{K:Wd}{B:Base}{α β:Type}{A:Around}{g:Gh}{n:Nat}{env:Env}{c:Code}
variable{b:Gh}{S':List Addr}{fn:List Nat}{cs:List Addr}{nm:List (Str×NameKind)}{σ σ':List (Option D)}{own:List (Addr×MO)}
theorem Q2(s e:Nat):sliceRange (s:Int) (e:Int) 1=(List.range (e-s)).map (s + ·):=by
 delta sliceRange
 simp only[show(1:Int)>0 from by decide,if_true]
 have:(if(s:Int)<e then((e:Int)-s+1-1)/1 else 0).toNat=e-s:=by
  split
  ·rw[Int.ediv_one,Int.add_sub_cancel];exact Int.toNat_sub _ _
  ·rename_i z;exact(Nat.sub_eq_zero_of_le (Int.ofNat_le.mp (Int.not_lt.mp z))).symm
 rw[this]
 refine List.map_congr_left fun k hk=>?_
 rw[Int.one_mul];rfl
theorem Qw{γ:Type}(l:List γ)(s e:Nat):(sliceRange (s:Int) (e:Int) 1).filterMap (l[·]?)=(l.take e).drop s:=by
 rw[Q2,List.filterMap_map]
 apply List.ext_getElem?
 intro i
 have key:∀(m:Nat),((List.range m).filterMap ((l[·]?)∘(s + ·)))=(l.drop s).take m:=by
  intro m
  induction m with
  |zero=>simp
  |succ m ih=>
   rw[List.range_succ,List.filterMap_append,ih,List.take_succ]
   congr 1
   simp only[List.filterMap_cons,List.filterMap_nil,Function.comp,List.getElem?_drop]
   cases l[s+m]?<;>rfl
 rw[key]
 congr 1
 rw[List.drop_take]
theorem Z2L{γ:Type}(l:List γ)(i:Nat):pick l (some (i:Int)) none none=l.drop i:=by
 delta pick sliceBounds
 simp only[Option.getD_none,show(1:Int)>0 from by decide,if_true,show¬((i:Int)<0) from Int.not_lt.mpr (Int.natCast_nonneg _),if_false]
 rcases Nat.le_total i l.length with h | h
 ·rw[show max (0:Int) (min (i:Int) l.length)=(i:Nat) from by rw[Int.min_eq_left (Int.ofNat_le.mpr h),Int.max_eq_right (Int.natCast_nonneg _)],Qw,List.take_length]
 ·rw[show max (0:Int) (min (i:Int) l.length)=(l.length:Nat) from by rw[Int.min_eq_right (Int.ofNat_le.mpr h),Int.max_eq_right (Int.natCast_nonneg _)],Qw,List.take_length,List.drop_length,List.drop_eq_nil_iff.mpr h]
theorem Z08{γ:Type}(l:List γ)(i:Nat):pick l none (some (i:Int)) none=l.take i:=by
 delta pick sliceBounds
 simp only[Option.getD_none,show(1:Int)>0 from by decide,if_true,show¬((i:Int)<0) from Int.not_lt.mpr (Int.natCast_nonneg _),if_false]
 rw[show(0:Int)=(0:Nat) from rfl]
 rcases Nat.le_total i l.length with h | h
 ·rw[show max ((0:Nat):Int) (min (i:Int) l.length)=(i:Nat) from by rw[Int.min_eq_left (Int.ofNat_le.mpr h)];exact Int.max_eq_right (Int.natCast_nonneg _),Qw,List.drop_zero]
 ·rw[show max ((0:Nat):Int) (min (i:Int) l.length)=(l.length:Nat) from by rw[Int.min_eq_right (Int.ofNat_le.mpr h)];exact Int.max_eq_right (Int.natCast_nonneg _),Qw,List.drop_zero,List.take_length,List.take_of_length_le h]
end
section
open PySem PySem.Spec PySem.Calls PyProof.Rows PySem.W PySem.SeqAt
variable{K:Wd}{A:Around}{g:Gh}{n:Nat}{env:Env}{α:Type}
variable{b:Gh}{S':List Addr}{fn:List Nat}{cs:List Addr}{nm:List (Str×NameKind)}{σ σ':List (Option D)}{own:List (Addr×MO)}
theorem Z6W:M_Ac "append" = none:=by decide +kernel
theorem Z9Z:M_Ac "__iter__" = none:=by decide +kernel
theorem ZaG:M_Ac "__len__" = some (.ref a_Ac_len):=by decide +kernel
theorem Z7R:typeLookup (.type "list") "append" = pure (some (.builtin "list.append")):=by rw[typeLookup_type,builtinLookup_eq_fast];kernel_rfl
theorem Z7u:typeOf (.builtin "list.append")=pure (.type "method_descriptor"):=by kernel_rfl
theorem Za1:∀p∈AccOwn x dx d ds,∀o w,p.2.P im o→o.data≠.cell w:=by
 intro p hp o w h
 simp only[AccOwn,List.mem_cons,List.not_mem_nil,or_false] at hp
 rcases hp with rfl | rfl
 ·exact ZcT o w h
 ·exact ZcP o w h
theorem Z1l(X:WX K)(r:Room A (n+2))(hH:Holds (AccOwn x dx d ds) g)(hnd:[x,dx].Nodup)(hsz:ds.length≤10000)(hv:Zu g.im e v)(hw:Zu g.im f w) :
  gwp K A (call (.ref a_Ac_push) [.ref x,v,w]) (fun u g'=>u=.none∧LeX [x,dx] g g'∧Holds (AccOwn x dx d (ds++[.tup [e,f]])) g') g:=by
 refine cps fun Q₀ k₀=>?_
 refine Zh (n:=n) (fn:=[]) (S':=[]) (binds:=[("self",.ref x),("fws",v),("string",w)]) (bi:=[(0,.raw (.ref x)),(1,e),(2,f)]) X.f_Ac_push r (Ze (by rfl)) Z6p Z62 (Z3 X.gt Z6K)
  ⟨.inl rfl,Zl,.inl rfl,hv,.inl rfl,hw,trivial⟩ fun A' L cells cs g' r' H=>?_
 replace H:=H.adoptB hH hnd
 refine Zf (JF (Jt ?_) H.inter)
 show gwp K A' (eval (.Name "self" _) _) _ g'
 refine(pn H 0).use r' fun ov g₁ l₁ p pl=>?_
 have:=Zk p;subst this
 replace H:=H.up l₁
 obtain⟨ox,x1,its,m,rfl,x2⟩:=H.at (i:=0) rfl
 refine Z4 (H.at (i:=1) rfl) fun od d1 d2=>?_
 refine Z1Y X.k_Ac Z4e Z4d Z6W Z7R Z7u x1 d1 d2 (by simp only[accL,List.map_cons,List.map_nil,List.mem_singleton];decide +kernel) ?_
 refine Zq (fun a z=>by clear x1 H r;cases z) rfl ?_
 refine Zc rfl ((Z1 (J4 (Z1 (pn H 1) (Z1 (pn H 2) Z2))) Z2).use r' fun vs g₂ l₂ rs=>?_)
 refine Z4 (Jo rs) ?_
 rintro t rfl ht
 replace H:=H.up l₂
 have hlen:its.size≤sizeLine:=by rw[←Array.length_toList,x2.length];exact Nat.le_trans hsz (by decide)
 refine Z5p X.k_Ac (l₂.at x1) hlen fun m'=>⟨(fun a z=>by clear H ht rs x1 r;cases z),?_⟩
 replace H:=H.adv (i:=0) rfl (LeX.setMu (a:=x) (o:=lsObj C_Ac dx (its.push t) m')) (m':=MO.lsub C_Ac dx (ds++[.tup [e,f]])) ⟨_,ZcI,_,m',rfl,by rw[Array.toList_push];exact Z7.append (x2.mono l₂.im) (Z7.cons ht Z7.nil)⟩ ZcT
 exact ZC (k₀ _ _ ⟨rfl,H.le,H.holds⟩)
end
section
open PySem PySem.Spec PySem.Calls PyProof.Rows PySem.W PySem.SeqAt Builtin
variable{K:Wd}{B:Base}{α β:Type}{A:Around}{g:Gh}{n:Nat}{env:Env}
variable{b:Gh}{S':List Addr}{fn:List Nat}{cs:List Addr}{nm:List (Str×NameKind)}{σ σ':List (Option D)}{own:List (Addr×MO)}
theorem Z1a(hc:env.code=.ref c)(ht:(c,P)∈K.B.tabs)(hq:K.B.qn pos.line pos.col=some qual)
  (h:∀c' g' oc vs tq,Le g g'→g'.im c'=some oc→oc.data=.fields vs→vs[1]? = some (.str qual tq)→Q (.ref c') g'):gwp K A (genexprCode env pos qual scope) Q g:=
 Z20 ht hq (fun V V V V V b1 hf q=>Qp hc b1 hf q) (fun V V V V b1 b2 hf k=>wpAny_genexprCodeX hc b1 b2 hf k) h
theorem Gh.Ok.any(ok:g.Ok B s)(h:s'.heap=s.heap)(ho:s'.os=s.os)(hg:∃ex,s'.gens=g.gs++ex∧AllBare ex):g.Ok B s':=
 ⟨fun a o e=>by rw[h];exact ok.im a o e,fun a o e=>by rw[h];exact ok.mu a o e,ok.dis,ok.base,ok.new,by rw[h];exact ok.size,by rw[h];exact ok.old,ho.trans ok.os,hg,
  fun c P hm=>by rw[h];exact ok.tabs c P hm,ok.apart⟩
theorem Zd4(hh:A.handled=none)(I ax:Addr)(hne:ax≠I)(ol:Obj)(nl:Nat)(items:Array Value)(hol:ol.data=.seq items nl)(Ts:Nat→Addr)(vals:Nat→Array Value)
  (hit:∀j,j<items.size→items[j]? = some (.ref (Ts j)))(hTI:∀j,j<items.size→Ts j≠I) :
  WalksU prog w A I (I::ax::(List.range items.size).map Ts) [I] items.size (fun j v=>j<items.size∧v=vals j)
   (fun j h=>h.IsListIter I ax j∧h.get? ax=some ol∧∀k,k<items.size→h.IsTuple (Ts k) (vals k))
   (fun j T h=>(j<items.size∧T=Ts j)∧h.IsListIter I ax (j+1)∧h.get? ax=some ol∧∀k,k<items.size→h.IsTuple (Ts k) (vals k)) where
 sub:=fun b hb=>by clear hTI hit;simp at hb;simp[hb]
 frame:=fun V V V st hk=>⟨st.1.at fun o e=>hk I (by exact .head _) o e,hk ax (by exact .tail _ (.head _)) _ st.2.1,
  fun k hk'=>(st.2.2 k hk').at fun o e=>hk (Ts k) (List.mem_cons_of_mem _ (List.mem_cons_of_mem _ (List.mem_map.mpr ⟨k,List.mem_range.mpr hk',rfl⟩))) o e⟩
 item:=fun i s Q E hi st hQ=>by
  refine Z2n st.1 st.2.1 hol (x:=.ref (Ts i)) (hit i hi) fun h' hit' hs'=>?_
  have tup:∀k,k<items.size→h'.IsTuple (Ts k) (vals k):=fun k hk'=>(st.2.2 k hk').extBut hs'.extBut (hTI k hk')
  exact hQ (Ts i) (vals i) h' s.toks ⟨hi,rfl⟩ (tup i hi) ⟨⟨hi,rfl⟩,hit',hs'.extBut ax _ hne st.2.1,tup⟩ fun b o hb e=>hs'.extBut b o (fun h=>hb (by simp[h])) e
 go:=fun V V V V V s Q V hm hQ=>wpAny_letOwnedTupleGo_listiter hm.2.1 (hQ s.heap hm.2 fun V V V e=>e)
 apart:=fun j T V hm hmem=>by
  rcases List.mem_cons.mp hmem with e | e
  ·exact hTI j hm.1.1 (hm.1.2▸e)
  ·cases e
 done:=fun s Q E st hQ=>Z3L hh st.1 st.2.1 hol (by simp) fun h' he'=>hQ h' s.toks fun b o hb e=>he' b o (fun h=>hb (by simp[h])) e
 self:=fun V V V V st hQ=>wpAny_pyIter_listiter st.1 hQ
theorem WalksS.imp{St:Nat→Shared→Prop}
  (W:WalksS prog w A I fp wr G n P St)(h:∀i v,P i v→P' i v):WalksS prog w A I fp wr G n P' St:=
 {W with item:=fun i s Q E hi st hQ=>W.item i s Q E hi st fun v s' hp=>hQ v s' (h i v hp)}
theorem Z0U(n:Nat):passing (fun V=>true) n 0=List.range n:=by delta passing;simp
theorem Z44{gs ex a b:Array GenState}(ha:a=(gs++ex).push y)(hy:y.bare=true)(he:AllBare ex)(h:GenOnlyQ (gs++ex).size a b):∃ex',b=gs++ex'∧AllBare ex':=by
 rcases h with rfl | ⟨⟨h1,h2⟩,h3⟩
 ·exact⟨ex.push y,by rw[ha,Array.push_append],he.push hy⟩
 ·subst ha
  have hs:b.size=(gs++ex).size+1:=by rw[h1,Array.size_push]
  have hb:b=(gs++ex).push b[(gs++ex).size]:=by
   apply Array.ext_getElem?
   intro k
   by_cases hk:k=(gs++ex).size
   ·subst hk
    rw[Array.getElem?_push_size,Array.getElem?_eq_getElem (by exact Nat.le_of_eq (Eq.symm hs))]
   ·rw[h2 k hk,Array.getElem?_push,Array.getElem?_push,if_neg hk,if_neg hk]
  refine⟨ex.push b[(gs++ex).size],by rw[←Array.push_append];exact hb,he.push (h3 _ ?_)⟩
  rw[Array.getElem?_eq_getElem (by exact Nat.le_of_eq (Eq.symm hs))]
theorem Z7L{its:Array Value}{da db:Nat→D}(hr:Z7 im ds its.toList)(hds:∀(j:Nat) d,ds[j]? = some d→d=.tup [da j,db j]) :
  ∃(Ts:Nat→Addr) (vals:Nat→Array Value),∀j,j<its.size→its[j]? = some (.ref (Ts j))∧∃va vb,vals j = #[va,vb]∧(∃k,im (Ts j)=some (sq "tuple" #[va,vb] k))∧Zu im (da j) va∧Zu im (db j) vb:=by
 have hrow:∀j,∃p:Addr×Array Value,j<its.size→its[j]? = some (.ref p.1)∧∃va vb,p.2 = #[va,vb]∧(∃k,im p.1=some (sq "tuple" #[va,vb] k))∧Zu im (da j) va∧Zu im (db j) vb:=fun j=>by
  by_cases hj:j<its.size
  ·refine Z4 (hr.get' (i:=j) (v:=its[j]) (by rw[Array.getElem?_toList,Array.getElem?_eq_getElem hj])) fun d e1 e2=>?_
   rw[hds j _ e1] at e2
   refine ZO (J1.mp e2) fun T its' k e e3 e4=>?_
   refine Zw (ZA e4) fun va l e5 e6 z=>Zw (ZA z) fun vb l' e7 e8 e9=>have e9:=ZV e9;⟨(T,its'),fun V=>⟨(Array.getElem?_eq_getElem hj).trans (congrArg some e),va,vb,Array.ext' (by rw[e5,e7,e9]),⟨k,?_⟩,e6,e8⟩⟩
   rw[e3,Array.ext' (xs:=its') (ys:=#[va,vb]) (by rw[e5,e7,e9])]
  ·exact⟨(0,#[]),fun h=>absurd h hj⟩
 exact Zi (Classical.axiomOfChoice hrow) fun f h=>⟨fun j=>(f j).1,fun j=>(f j).2,h⟩
theorem Z0j{x dx C N c P:Addr}{mN:Str→Option Value}{m:Nat}{da db:Nat→D}{elt iter:Expr}{pa pb pt:Pos}{scope:Scope}{pos:Pos}{F':Nat→Value→Prop}{s:Shared}{E:Value→Shared→Prop}{Q:Value→Shared→Prop}
  (M:ModB K.B)(ok:g.Ok K.B s)(r:Room A n)(hc:ClsL K.B C N mN)(hm:mN "__iter__" = none)(hx:g.mu x=some (lsObj C dx its m))(hr:Z7 g.im ds its.toList)(hds:∀(j:Nat) d,ds[j]? = some d→d=.tup [da j,db j])(hiter:Pe K n g (eval iter env) (.raw (.ref x)))
  (hcode:env.code=.ref c)(ht:(c,P)∈K.B.tabs)(hq:K.B.qn pos.line pos.col=some qual)(hqq:env.qual++ "<genexpr>" = qual)(hgl:env.globals=mainGlobals)
  (hco:scope.isCoroutine=false)(hclos:closureFor scope env=pure [])(hcell:∀y∈scope.names,y.2≠.cell)(h0:scope.names.lookup (".0":Str)=some NameKind.local)
  (hxa:scope.names.lookup xa=some .local)(hxb:scope.names.lookup xb=some .local)(hab:xa≠xb)(hkind:scope.kind=.function)
  (helt:∀(A':Around) E' i va vb (s₂:Shared) m₂ L code,A'.handled=none→A'.depth≤A.depth+1→A'.units≤A.units+8→i<ds.length→Zu g.im (da i) va→Zu g.im (db i) vb→(∀a o,g.im a=some o→s₂.heap.get? a=some o)→
   s₂.heap.Ns L m₂→m₂ xa=some va→m₂ xb=some vb→wpAny (model K.prog K.w) A' (eval elt (genEnv scope [] L code builtinsNs env)) (fun y s₃=>F' i y∧Keeps s₂ s₃) E' s₂)
  (fin:∀a g' s' fp wr gi St,Le g g'→g'.Ok K.B s'→WalksS K.prog K.w A.in4 a fp wr (GenOnlyQ gi) ds.length F' St→St 0 s'→(∀i s,St i s→s.TypeIs (.ref a) "generator")→a∈fp→(∀b∈fp,b<s'.heap.objs.size)→(∀s'',Moved wr (GenOnlyQ gi) s' s''→g'.Ok K.B s'')→Q (.ref a) s')
  (hs:autoParam (genFold iter env=pure) Z5) :
  wpAny (model K.prog K.w) A (eval (.GeneratorExp elt [⟨.Tuple [.Name xa pa,.Name xb pb] kt pt,iter,[],0⟩] scope pos) env) Q E s:=by
 have hh:=r.1
 refine wpAny_GeneratorExp_walksQTD hh hco hclos hcell h0 hxa hxb hab hkind r.depth (Qc (hiter.use r (Q:=fun v g₁=>v=.ref x∧Le g g₁) (fun v g₁ l p=>⟨Zk p,l⟩) s E ok) (fun v s₁ g₁ ok₁ e l₁=>?_)) (congrFun hs)
 subst e
 have hx₁:=l₁.at hx
 refine Y2 hc hx₁ ok₁ ?_
 intro nm' q' bs sn sub col dd k0 k1 k2 k3 k5 hC hN hxh
 have hIx:x≠s₁.heap.objs.size:=Nat.ne_of_lt (Heap.lt_size hxh)
 refine Z8y hC hN hxh rfl hm ?_
 have hfr:=ok₁.fresh
 have ok₂:=ok₁.pushMu (o:={cls:=.type "list_iterator",data:=.fields #[.ref x,.int 0 0]}) rfl
 have l₂:Le g₁ (g₁.setMu s₁.heap.objs.size {cls:=.type "list_iterator",data:=.fields #[.ref x,.int 0 0]}):=ZcL hfr.2
 refine⟨ok₂.nolimit,Zn (Z1a (Q:=fun v g₃=>Le (g₁.setMu s₁.heap.objs.size {cls:=.type "list_iterator",data:=.fields #[.ref x,.int 0 0]}) g₃) hcode ht hq (fun c' g₃ oc vs tq l₃ V V V=>l₃) _ E ok₂ |> fun z=>hqq▸z) (fun code s₄ g₃ ok₃ l₃=>?_)⟩
 refine ZbX M.bi fun o f bm ob m1 m2 m3 m4 m5 m6 m7 m8=>?_
 rw[hgl]
 refine wpAny_builtinsFor (m2.ns (ok₃.im _ _ (ok₃.base _ _ m1))) m3 m4 (ok₃.im _ _ (ok₃.base _ _ m5)) m6 m7 m8 ?_
 have hI₃:g₃.mu s₁.heap.objs.size=some {cls:=.type "list_iterator",data:=.fields #[.ref x,.int 0 0]}:=l₃.at ZcI
 have hx₃:g₃.mu x=some (lsObj C dx its m):=l₃.at (l₂.at hx₁)
 have l03:∀a o,g.im a=some o→g₃.im a=some o:=fun a o e=>l₃.im _ _ (l₂.im _ _ (l₁.im _ _ e))
 have hlen:its.size=ds.length:=by rw[←Array.length_toList,hr.length]
 refine QD (Z7L hr hds) fun Ts vals hvals=>?_
 have hTI:∀j,j<its.size→Ts j≠s₁.heap.objs.size:=fun j hj e=>by
  refine Zw (hvals j hj).2 ?_
  rintro va vb V ⟨k,e1⟩ V
  rw[e] at e1
  exact ok₃.dis _ _ _ (l03 _ _ e1) hI₃
 have hIlt:s₁.heap.objs.size<s₄.heap.objs.size:=Heap.lt_size (ok₃.mu _ _ hI₃)
 have hcI:cStatics≠s₁.heap.objs.size:=fun e=>by
  refine Za4 K.B.lim fun o es ep e1 V=>?_
  rw[e] at e1
  exact ok₃.dis _ _ _ (ok₃.base _ _ e1) hI₃
 refine⟨s₁.heap.objs.size,s₁.heap.objs.size::x::(List.range its.size).map Ts,[s₁.heap.objs.size],its.size,_,_,_,fun V=>true,F',rfl,fun A' hA'=>Zd4 hA' s₁.heap.objs.size x hIx (lsObj C dx its m) m its rfl Ts vals (fun j hj=>(hvals j hj).1) hTI,fun i vs hv=>?_,⟨⟨_,ok₃.mu _ _ hI₃,rfl,rfl⟩,ok₃.mu _ _ hx₃,fun k hk=>?_⟩,fun b hb=>?_,ok₃.nolimit,by exact Z78 hcI,fun href hkp=>⟨fun A' E' i va vb s₂ m₂ V V V V V V V V=>wpAny_pure ⟨rfl,⟨_,_,rfl,fun V V e=>e⟩⟩,fun A' E' i va vb s₂ m₂ hA hd hu hpt V hns e1 e2 hk2=>?_⟩,fun a h₅ tk gs hgb hlt hsz5 hk5 W hat=>?_⟩
 ·refine ZG hv ?_
  rintro hi rfl
  refine ZP (hvals i hi).2 fun va vb e V=>?_
  exact⟨va,vb,e⟩
 ·refine Zw (hvals k hk).2 ?_
  rintro va vb e ⟨k',e1⟩ V
  rw[e]
  exact⟨_,ok₃.im _ _ (l03 _ _ e1),rfl,k',rfl⟩
 ·rcases List.mem_cons.mp hb with rfl | hb
  ·exact hIlt
  rcases List.mem_cons.mp hb with rfl | hb
  ·exact Heap.lt_size (ok₃.mu _ _ hx₃)
  refine Z4 (List.mem_map.mp hb) ?_
  rintro k hk rfl
  refine Zw (hvals k (List.mem_range.mp hk)).2 ?_
  rintro va vb e ⟨k',e1⟩ V
  exact Heap.lt_size (ok₃.im _ _ (l03 _ _ e1))
 ·refine ZG hpt fun hi hpt=>?_
  refine Zcv (hvals i hi).2 fun va' vb' e V e3 e4=>?_
  rw[e] at hpt
  have h5:va=va'∧vb=vb':=by lia
  refine ZG h5 ?_
  rintro rfl rfl
  refine helt A' E' i va vb s₂ m₂ _ code hA hd hu (by exact Nat.lt_of_lt_of_eq hi hlen) e3 e4 (fun a o ea=>hk2 a (List.mem_range.mpr (Heap.lt_size (ok₃.im _ _ (l03 _ _ ea)))) (fun hm=>?_) o (hkp _ _ (ok₃.im _ _ (l03 _ _ ea)))) hns e1 e2
  simp at hm;subst hm
  exact ok₃.dis _ _ _ (l03 _ _ ea) hI₃
 ·have hlp:(passing (fun V=>true) its.size 0).length=ds.length:=by rw[Z0U,List.length_range,hlen]
  have W':=WalksS.imp (P':=F') W (fun j y hy=>by
   refine Z4 hy fun i e1 e2=>?_
   rw[Z0U] at e1
   have:i=j:=by
    rw[List.getElem?_range] at e1
    ·exact(Option.some.inj e1).symm
    ·exact Nat.lt_of_not_le fun h=>by cases((List.getElem?_eq_none (by simpa using h)).symm.trans e1)
   exact this▸e2)
  rw[hlp] at W'
  refine Z4 ok₃.gens fun ex hex hbare=>?_
  have hI0:g.mu s₁.heap.objs.size=none:=l₁.nomu hfr.2
  have lf:Le g (g₃.drop s₁.heap.objs.size):=⟨fun a o e=>l03 a o e,fun a o V e=>by
   have hne:a≠s₁.heap.objs.size:=fun z=>by subst z;cases((hI0).symm.trans e)
   rw[ZcX hne]
   exact l₃.at (l₂.at (l₁.at e)),(l₃.gs.trans (l₂.gs.trans l₁.gs):g₃.gs=g.gs)⟩
  have key:∀s'':Shared,(∀b o,b≠s₁.heap.objs.size→s₄.heap.get? b=some o→s''.heap.get? b=some o)→s''.os=s₄.os→(∃ex,s''.gens=g₃.gs++ex∧AllBare ex)→(g₃.drop s₁.heap.objs.size).Ok K.B s'':=fun s'' hk ho hg=>by
   have:=ok₃.lost (tk:=0) hI₃ (h':=s''.heap) hk
   exact this.any (s':=s'') rfl ho hg
  refine fin a (g₃.drop s₁.heap.objs.size) _ _ _ _ _ lf (key _ (fun b o V e=>hk5 b o e) rfl ⟨ex.push gs,?_,hbare.push hgb⟩) W' hat (fun i s st=>st.1.typeIs) List.mem_cons_self (fun b hb=>?_) fun s'' hm=>key s'' (fun b o hb e=>hm.heap b o (fun hmem=>?_) (hk5 b o e)) hm.os ?_
  ·show s₄.gens.push gs=_
   rw[hex,Array.push_append]
  ·show b<h₅.objs.size
   rw[hsz5]
   rcases List.mem_cons.mp hb with rfl | hb
   ·exact Nat.lt_succ_self _
   ·rcases List.mem_cons.mp hb with rfl | hb
    ·exact Nat.lt_succ_of_lt hlt
    ·exact Nat.lt_succ_of_lt (Nat.lt_trans (List.mem_range.mp hb) hlt)
  ·rcases List.mem_cons.mp hmem with rfl | hmem
   ·exact Nat.lt_irrefl _ (Heap.lt_size e)
   ·simp at hmem;exact hb hmem
  ·have h7:=hm.gens
   rw[hex] at h7
   exact Z44 rfl hgb hbare h7
end
section
open PySem PySem.Spec PySem.Calls PyProof.Rows PySem.W PySem.SeqAt Builtin
section
variable{prog:Program}{w:World}{A:Around}{E:Value→Shared→Prop}{s:Shared}{env:Env}
theorem QV(h:(backTo pos (starEach es env)).any (·.1)=false)
  (hs:wpAny (model prog w) A (spliced (backTo pos (starEach es env))) (fun vs s'=>Q ⟨vs,[]⟩ s') E s):wpAny (model prog w) A (evalArgs f true (backTo pos (starEach es env)) []) Q E s:=by
 have key:∀ts:List (Bool×Sem Value),ts.any (·.1)=false→wpAny (model prog w) A (spliced ts) (fun vs s'=>Q ⟨vs,[]⟩ s') E s→wpAny (model prog w) A (evalArgs f true ts []) Q E s:=by
  intro ts ht hs
  cases ts with
  |nil=>
   have e:evalArgs f true [] []=(spliced []>>=fun vs=>pure ⟨vs,[]⟩:Sem Args):=rfl
   rw[e]
   exact wpAny_bind (wpAny_mono hs (fun vs s' q=>wpAny_pure q) fun V V z=>z)
  |cons t ts=>
   obtain⟨st,x⟩:=t
   simp only[List.any_cons,Bool.or_eq_false_iff] at ht
   obtain⟨h1,h2⟩:=ht
   cases h1
   exact evalArgs_plain hs
 exact key _ h hs
theorem QW(hB:∀a o,B.im a=some o→s.heap.get? a=some o)(hg:GlobIs B x v)(h1:env.globals=mainGlobals)(h2:env.builtins=builtinsNs)(hk:env.kindOf x=some .globalImplicit)(hf:env.scope.kind=.function)(q:Q v s):wpAny (model prog w) A (loadName env x) Q E s:=by
 rw[loadName_read hf hk]
 exact Z5H hB hg h1 h2 q
theorem Z8i(a b:Value):argsOk "sum" ⟨[a,b],[]⟩:=by unfold argsOk;kernel_rfl
theorem Z7x{St:Nat→Shared→Prop}{st:Int}
  (W:WalksS prog w A.in1 a fp wr G n P St)(hst:St 0 s)(hfp:∀b∈fp,b<s.heap.objs.size)(hval:∀i v,P i v→∃t,v=.int (val i) t)(h0:InLong st)(hfit:∀j,j<n→InLong (val j)∧InLong (st+preSum val (j+1)))
  (hQ:∀s' t',Moved wr G s s'→Q (.int (st+preSum val n) t') s'):wpAny (model prog w) A (call (.builtin "sum") [.ref a,.int st tok]) Q E s:=by
 have W':WalksS prog w A.in1 a fp wr G (n+1) (fun i v=>∃j,i=j+1∧P j v) (fun i s=>∃j,i=j+1∧St j s):=
  {sub:=W.sub,grefl:=W.grefl,gtrans:=W.gtrans
   frame:=fun i s h' tk z₀ h1 h2=>Z4 z₀ fun j e hs=>⟨j,e,W.frame j s h' tk hs h1 h2⟩
   item:=fun i s Q E hi z₀ hQ=>Z4 z₀ fun j e hs=>W.item j s Q E (by lia) hs fun v s' hp hs' hm=>hQ v s' ⟨j,e,hp⟩ ⟨j+1,by lia,hs'⟩ hm
   done:=fun s Q E z₀ hQ=>Z4 z₀ fun j e hs=>W.done s Q E ((Nat.succ.inj e:n=j)▸hs) hQ
   self:=fun i s Q E z₀ q=>Z4 z₀ fun j e hs=>W.self j s Q E hs q}
 have hpre:∀j,preSum (fun i=>match i with | 0=>st | i+1=>val i) (j+1)=st+preSum val j:=by
  intro j
  induction j with
  |zero=>simp[preSum]
  |succ j ih=>rw[preSum,ih];dsimp only[preSum];lia
 refine call_function_tree F.kind_sum F.plain_sum F.entry_sum (Z8i _ _) ?_
 unfold Builtin.«sum»
 dsimp only[List.length_cons,List.length_nil]
 rw[if_neg (by decide)]
 refine wpAny_bind (wpAny_of_eq (show Builtin.Builtins.bindParams "sum" ["start"] 0 ⟨[.int st tok],[]⟩=pure [some (.int st tok)] from rfl) ?_)
 refine wpAny_bind (W.self 0 _ _ _ hst ?_)
 have hfl:(decide (-(2^63)≤st)&&decide (st<2^63))=true:=by
  obtain⟨h1,h2⟩:=h0;simp;lia
 refine wpAny_ite ?_
 split
 case isFalse hn=>exact absurd hfl hn
 refine wpAny_bind (wpAny_rule (wpAny_bind (wpAny_mkInt (wpAny_bind (wpAny_pure ?_)))))
 refine wpAny_bind (wpAny_bind (wpAny_bind (wpAny_isInstance (T:= "int") (b:=false) (typeIs_int _ _ _) F.sub_int_str ?_)))
 refine wpAny_pure (wpAny_bind (wpAny_bind (wpAny_isInstance (T:= "int") (b:=false) (typeIs_int _ _ _) F.sub_int_bytes ?_)))
 refine wpAny_pure (wpAny_bind (wpAny_bind (wpAny_isInstance (T:= "int") (b:=false) (typeIs_int _ _ _) F.sub_int_bytearray ?_)))
 refine wpAny_pure (wpAny_pure ?_)
 refine wpAny_bind (wpAny_newObj_type ?_)
 have hSf:s.heap.objs.size∉fp:=fun hm=>Nat.lt_irrefl _ (hfp _ hm)
 refine wpAny_pure ⟨plainId_quiet F.plain_sum_loop _,codeAny_sum_loopS W' (fun i=>match i with | 0=>st | i+1=>val i) (fun i v z₀=>Z4 z₀ fun j e hp=>by subst e;exact hval j v hp) (fun j hj=>?_) s.heap.objs.size hSf n 1 _ s.toks 0 (by exact rfl) (by exact Nat.le_add_left _ _)
  ⟨0,rfl,W.frame 0 s _ _ hst (by first | exact Nat.le_refl _ | exact Nat.le_succ _ | lia) fun b V o e=>Heap.get?_push_of_some _ e⟩ ?_ fun s' t' hm=>?_⟩
 ·cases j with
  |zero=>exact⟨h0,by rw[hpre];simpa [preSum] using h0⟩
  |succ j=>rw[hpre];exact hfit j (by exact Nat.le_of_lt_succ hj)
 ·have:=hpre 0
  rw[this]
  simp only[preSum,Int.add_zero]
  exact Heap.get?_push_size _ rfl
 ·rw[hpre]
  exact hQ s' t' (hm.drop_new (by first | exact Nat.le_refl _ | exact Nat.le_succ _ | lia))
theorem Z8j{id:String}(hf:wpAny (model prog w) A (eval func env) (fun f s₁=>f=.builtin id∧wpAny (model prog w) A (eval e env) (fun v s₂=>wpAny (model prog w) A (call (.builtin id) [v]) Q E s₂) E s₁) E s)
  (hst:autoParam (starEach [e] env=[(false,eval e env)]) Z5)
  (he:autoParam (eval (.Call func [e] [] pos) env=(do callWith pos (←eval func env) [] (backTo pos (starEach [e] env)) (backToKw pos (keywordEach [] env)))) Z5):wpAny (model prog w) A (eval (.Call func [e] [] pos) env) Q E s:=by
 rw[he]
 refine wpAny_bind (ZaJ hf (fun f s₁ e1 h=>?_))
 subst e1
 have hany:(backTo pos (starEach [e] env)).any (·.1)=false:=by rw[hst];rfl
 refine callWith_builtin hany (QV hany (wpAny_items_cons (wpAny_mono h (fun v s₂ h₂=>wpAny_items_nil h₂) fun V V z=>z) (by rw[hst];rfl)))
theorem JJ(hk:env.kindOf x=some .local)(hf:env.scope.kind=.function)(hd:(x==("__debug__":Str))=false)(hn:s.heap.Ns env.locals m)(hv:m x=some v)(q:Q v s):wpAny (model prog w) A (eval (.Name x pos) env) Q E s:=
 wpAny_Name (wpAny_loadName_local hf hk hn hv q) hd
theorem Z18(hB:∀a o,B.im a=some o→s.heap.get? a=some o)(hg:GlobIs B "len" (.builtin "len"))(h1:env.globals=mainGlobals)(h2:env.builtins=builtinsNs)
  (hkl:env.kindOf "len" = some .globalImplicit)(hk:env.kindOf nx=some .local)(hf:env.scope.kind=.function)(hd:(nx==("__debug__":Str))=false)(hn:s.heap.Ns env.locals m)(hv:m nx=some (.str (S y) t))(hy:y.length<2^62)
  (q:Q (.int y.length (s.toks+1)) {s with toks:=s.toks+1+1})
  (he:autoParam (eval (.Call (.Name "len" pf) [.Name nx px] [] pc) env=(do callWith pc (←eval (.Name "len" pf) env) [] (backTo pc (starEach [.Name nx px] env)) (backToKw pc (keywordEach [] env)))) Z5):wpAny (model prog w) A (eval (.Call (.Name "len" pf) [.Name nx px] [] pc) env) Q E s:=by
 refine Z8j (wpAny_Name (QW hB hg h1 h2 hkl hf ⟨rfl,JJ hk hf hd hn hv ?_⟩) (by decide +kernel)) rfl he
 exact P.len_str (by rw[Jp];lia) (by rw[Jp];exact q)
end
end
section
open PySem PySem.Spec PySem.Calls PyProof.Rows PySem.W PySem.SeqAt
variable{K:Wd}{A:Around}{g:Gh}{n:Nat}{env:Env}{α:Type}
variable{b:Gh}{S':List Addr}{fn:List Nat}{cs:List Addr}{nm:List (Str×NameKind)}{σ σ':List (Option D)}{own:List (Addr×MO)}
theorem Z9F(X:WX K):GlobIs K.B "len" (.builtin "len"):=X.gt 24 _ _ rfl
noncomputable def pieceD(p:List Nat×List Nat):D:=.tup [.str p.1,.str p.2]
noncomputable def pieceLen(p:List Nat×List Nat):Int:=(p.1.length:Int)+p.2.length
theorem Zb8:(("_Accumulator.__len__":Str)++ ".<locals>.")++ "<genexpr>" = "_Accumulator.__len__.<locals>.<genexpr>":=by decide +kernel
theorem Z4o{l:List Int}:∀j,j≤l.length→preSum (fun i=>l.getD i 0) j=(l.take j).sum:=by
 intro j
 induction j with
 |zero=>intro V;rfl
 |succ j ih=>
  intro h
  rw[preSum,ih (by exact Nat.le_of_lt ‹_›),List.take_add_one,List.getElem?_eq_getElem (by assumption),List.sum_append]
  simp[List.getD_eq_getElem?_getD,List.getElem?_eq_getElem (show j<l.length by assumption)]
theorem Z5U{l:List (List Nat×List Nat)}(h:∀p∈l,p.1.length≤10000∧p.2.length≤10000):0≤(l.map pieceLen).sum∧(l.map pieceLen).sum≤20000*l.length:=by
 induction l with
 |nil=>simp
 |cons p l ih=>
  have h1:=h p (by exact .head _)
  have h2:=ih fun q hq=>h q (List.mem_cons_of_mem _ hq)
  simp only[List.map_cons,List.sum_cons,List.length_cons,pieceLen] at h2 ⊢
  exact⟨Int.add_nonneg (Int.add_nonneg (Int.natCast_nonneg _) (Int.natCast_nonneg _)) h2.1,by rw[Int.natCast_succ,Int.mul_add];exact Int.le_trans (Int.le_of_eq (Int.add_comm _ _)) (Int.add_le_add h2.2 (Int.add_le_add (Int.ofNat_le.mpr h1.1) (Int.ofNat_le.mpr h1.2)))⟩
theorem Z0v(h1:-(2^62)≤i)(h2:i<2^62):InLong i:=⟨by lia,by exact Int.le_trans h2 (by decide)⟩
theorem Z7t(X:WX K){x dx:Addr}{ps:List (List Nat×List Nat)}(hx:g.mu x=some (lsObj C_Ac dx its m))(hr:Z7 g.im (ps.map pieceD) its.toList)(hdx:g.mu dx=some od)(hin:(MO.inst (accL (.int k))).P g.im od)(hsz:ps.length≤10000)(hps:∀p∈ps,p.1.length≤10000∧p.2.length≤10000)(hk:0≤k∧k≤1000000) :
  Pe K (n+6) g (call (.ref a_Ac_len) [.ref x]) (.int (k+(ps.map pieceLen).sum)):=fun A r g₀ l₀=>by
 refine Zh (n:=n+4) (fn:=[]) (S':=[]) (binds:=[("self",.ref x)]) (bi:=[(0,.raw (.ref x))]) X.f_Ac_len r (Ze (by rfl)) Z7P Z7A (Z3 X.gt Z88)
  ⟨.inl rfl,Zl,trivial⟩ fun A' L cells cs g' r' H=>?_
 refine Zf (Z0l (ZK ((pn H 1).useR r' fun g₁ l₁=>?_)))
 replace H:=H.up l₁
 have lA:Le g g₁:=l₀.trans H.le
 have x1:=lA.at hx
 have x2:Z7 g₁.im (ps.map pieceD) its.toList:=hr.le lA
 intro s E ok
 refine callWith_builtin rfl (QV rfl (wpAny_items_cons ?_))
 have hmem:∀(j:Nat) (d:D),(ps.map pieceD)[j]? = some d→∃p,ps[j]? = some p∧d=pieceD p:=fun j d h=>by
  rw[List.getElem?_map] at h
  cases e:ps[j]? with
  |none=>rw[e] at h;cases h
  |some p=>rw[e] at h;cases h;exact⟨p,rfl,rfl⟩
 refine Z0j (n:=n+4) (c:=c_Ac_len) (P:=63) (qual:= "_Accumulator.__len__.<locals>.<genexpr>") (da:=fun j=>.str (ps.getD j ([],[])).1) (db:=fun j=>.str (ps.getD j ([],[])).2) (F':=fun i y=>∃t,y=.int ((ps.map pieceLen).getD i 0) t)
  X.md ok r' X.k_Ac Z9Z x1 x2 (fun j d h=>by
   refine Z4 (hmem j d h) ?_
   rintro p e1 rfl
   simp[List.getD_eq_getElem?_getD,e1,pieceD])
  (pn H 0) rfl (X.tab _ (by decide)) (X.qnOf (by decide +kernel)) Zb8 rfl rfl (by rfl) (by decide) (by decide +kernel) (by decide +kernel) (by decide +kernel) (by decide +kernel) rfl
  (fun A'' E' i va vb s₂ m₂ L' code hA hd hu hi hva hvb him hns e1 e2=>?_)
  (fun a g₂ s' fp wr gi St l₂ ok₂ W hst hT ha hfp hmv=>?_)
 ·-- len(fws)+len(part)
  refine Zi (Zz hva) ?_
  rintro t1 rfl
  refine Zi (Zz hvb) ?_
  rintro t2 rfl
  have hpi:ps[i]? = some (ps.getD i ([],[])):=by
   have:i<ps.length:=by simpa using hi
   simp[List.getD_eq_getElem?_getD,List.getElem?_eq_getElem this]
  have hb:=hps _ (List.mem_of_getElem? hpi)
  have hval:(ps.map pieceLen).getD i 0=((ps.getD i ([],[])).1.length:Int)+(ps.getD i ([],[])).2.length:=by
   simp[List.getD_eq_getElem?_getD,List.getElem?_map]
   have:i<ps.length:=by simpa using hi
   simp[List.getElem?_eq_getElem this,pieceLen]
  have hBim:∀a o,K.B.im a=some o→s₂.heap.get? a=some o:=fun a o e=>him a o (ok.base a o e)
  have g1:=Z9F X
  refine wpAny_BinOp (Z18 hBim g1 rfl rfl (by rfl) (by rfl) rfl (by decide +kernel) hns e1 (by exact Nat.lt_of_le_of_lt hb.1 (by decide)) ?_)
  refine Z18 hBim g1 rfl rfl (by rfl) (by rfl) rfl (by decide +kernel) hns e2 (by exact Nat.lt_of_le_of_lt hb.2 (by decide)) ?_
  refine P.add_int ⟨⟨_,by rw[hval]⟩,⟨_,_,rfl,fun V V e=>e⟩⟩
 ·-- self._initial_size
  have H₂:=H.up l₂
  have d1:=l₂.at (lA.at hdx)
  refine Zm ((MO.inst (accL (.int k))).mono _ _ _ (lA.trans l₂).im hin) fun mA a1 a2 a3=>?_
  refine Z4 (a2 (Str.ofString "_initial_size") (.int k) (by exact .head _)) fun kv b1 b2=>?_
  refine Zi (Zo b2) ?_
  rintro tk rfl
  refine Y2 X.k_Ac (l₂.at x1) ok₂ ?_
  intro nm' q' bs sn sub col dd k0 k1 k2 k3 k5 hC hN hxh
  refine Zw H₂.loc fun oL fL c1 c2 c3=>?_
  refine Z4 (c3 0 _ (.raw (.ref x)) rfl rfl) fun vs c4 c5=>?_
  have:=Zk c5;subst this
  refine wpAny_items_cons (Attribute_name (JJ (H₂.kindOf (i:=0) rfl) rfl (by decide +kernel) (c2.ns (ok₂.mu _ _ c1)) c4 ?_))
  obtain⟨h,gg,d,t,os⟩:=s'
  have hns:h.Ns dx mA:=a1.ns1 (ok₂.mu _ _ d1) |>.ns
  refine Z4q hC hN Z4e Z4d Z7m Z9d hxh rfl (fun c z=>by cases z) rfl hns b1 (by rfl) (wpAny_items_nil ?_)
  have hb:=Z5U hps
  refine Z7x (st:=k) (val:=fun i=>(ps.map pieceLen).getD i 0) W.in4_1 (W.frame 0 _ h (t+1) hst (Nat.le_succ _) fun V V V e=>e) hfp (fun i v hv=>hv) (Z0v (by lia) (by exact Int.lt_of_le_of_lt hk.2 (by decide))) (fun j hj=>?_) fun s'' t' hm=>?_
  ·have hj':j<ps.length:=by simpa using hj
   have e1:(ps.map pieceLen).getD j 0=pieceLen ps[j]:=by simp[List.getD_eq_getElem?_getD,List.getElem?_eq_getElem hj']
   have h1:=hps ps[j] (List.getElem_mem hj')
   have h2:=Z5U (l:=ps.take (j+1)) fun p hp=>hps p (List.mem_of_mem_take hp)
   have h3:(ps.take (j+1)).length≤ps.length:=by rw[List.length_take];lia
   rw[Z4o _ (by simpa using Nat.succ_le_of_lt hj'),←List.map_take,e1]
   unfold pieceLen at h2 ⊢
   refine⟨Z0v (by exact Int.natCast_nonneg _) (by lia),Z0v (by lia) (by lia)⟩
  ·have ok₃:=hmv s'' ⟨hm.heap,hm.gens,hm.drawn,hm.os,Nat.le_trans (Nat.le_succ _) hm.toks⟩
   refine⟨g₂,ok₃,H₂.le,?_⟩
   have:preSum (fun i=>(ps.map pieceLen).getD i 0) (ps.map pieceD).length=(ps.map pieceLen).sum:=by
    rw[Z4o _ (by simp),List.take_of_length_le (by simp)]
   rw[this]
   exact Zp
theorem Z9A(r:Room A (n+1))(hc:ClsL K.B C N mN)(hl:mN "__len__" = some (.ref f))(hfn:FnB K.B f fd)(hB:typeLookup (.type "list") "__len__" = pure y)(hx:g.mu x=some (lsObj C dx its m))
  (h:∀A',Room A' n→gwp K A' (call (.ref f) [.ref x]) (fun v g'=>∃i:Int,Zu g'.im (.int i) v∧0≤i∧i<2^62∧∀t,Q (.int i t) g') g):gwp K A (call (.builtin "len") [.ref x]) Q g:=fun s E ok=>by
 refine Y2 hc hx ok ?_
 intro nm' q' bs sn sub col dd k0 k1 k2 k3 k5 hC hN hxh
 refine Zm hfn.obj fun of f1 f2 f3=>?_
 have hfo:s.heap.get? f=some of:=ok.im _ _ (ok.base _ _ f1)
 have h1:=h A.in1 r.in1 s
 refine Calls.call_function_entry kind_len plain_len entry_len (args_len1 _) ?_
 refine wpAny_bind (m:=oneArg "len" _) (wpAny_pure (wpAny_bind (Qr hC hN hxh rfl hB hl hfo f3 (Zn (h1 E ok) (fun v s₁ g₁ ok₁ v00=>Z5L v00 fun i hi h0 h2 q=>?_)))))
 refine Zi (Zo hi) ?_
 rintro tk rfl
 refine wpAny_bind (wpAny_holding (wpAny_of_eq (show asIndex (.int i tk)=pure i from rfl) ?_))
 refine wpAny_bind (wpAny_letGo ?_)
 rw[if_neg (by lia),if_neg (by lia)]
 exact wpAny_bind (wpAny_mkInt (wpAny_pure ⟨_,rfl,g₁,ok₁.tok _,q _⟩))
theorem Z6i(X:WX K){x dx:Addr}{ps:List (List Nat×List Nat)}(hx:g.mu x=some (lsObj C_Ac dx its m))(hr:Z7 g.im (ps.map pieceD) its.toList)(hdx:g.mu dx=some od)(hin:(MO.inst (accL (.int k))).P g.im od)(hsz:ps.length≤10000)(hps:∀p∈ps,p.1.length≤10000∧p.2.length≤10000)(hk:0≤k∧k≤1000000)
  (Z6t:typeLookup (.type "list") "__len__" = pure (some (.builtin "list.__len__"))):CallSem K (n+7) g (.builtin "len") [.raw (.ref x)] (.int (k+(ps.map pieceLen).sum)):=fun g₁ l vs h A r g₂ l₂=>by
 refine Z4 (Jo h) ?_
 clear h;rintro v rfl h1
 have:=Zk h1;subst this
 have l':Le g g₂:=l.trans l₂
 refine Z9A r X.k_Ac ZaG X.f_Ac_len Z6t (l'.at hx) fun A' r'=>Zg (Z7t X (n:=n) (l'.at hx) (hr.le l') (l'.at hdx) ((MO.inst _).mono _ _ _ l'.im hin) hsz hps hk A' r' g₂ (LeX.refl _ _)) fun v g₃ l₃ p=>?_
 have hb:=Z5U hps
 exact⟨_,p,by lia,by lia,fun t=>⟨l₃,Zp⟩⟩
theorem Z6t:typeLookup (.type "list") "__len__" = pure (some (.builtin "list.__len__")):=by rw[typeLookup_type,builtinLookup_eq_fast];kernel_rfl
theorem Z2h(X:WX K)(r:Room A (n+4))(hv:Zu g.im d v) :
  gwp K A (call (.ref C_Ac) [v]) (fun u g'=>∃x dx,u=.ref x∧[x,dx].Nodup∧g.mu x=none∧g.mu dx=none∧Le g g'∧Holds (AccOwn x dx d []) g') g:=by
 refine Z6A (n:=n+3) r X.k_Ac Za0 X.f_Ac_init fun A' x dx od g' r' l hx hdx hne h1 h2 h3=>?_
 refine Qj (Z5R X (n:=n+1) r' (x:=x) (dx:=dx) (fun p hp=>?_) (by simpa using fun e=>hne e.symm) (hv.le l)) fun u g'' hu l6 h7=>⟨hu,x,dx,rfl,by simpa using fun e=>hne e.symm,hx,hdx,?_,h7⟩
 ·simp only[List.mem_cons,List.not_mem_nil,or_false] at hp
  rcases hp with rfl | rfl
  ·exact⟨_,h1,#[],0,rfl,by exact rfl⟩
  ·exact⟨_,h2,h3⟩
 ·exact((LeX.of l).trans l6).forget (ZY (.inr hx) (Zr (.inr hdx)))
end
section
open PySem
noncomputable def fig(m T k:Nat):Nat:=2^k*m/T%2
noncomputable def pre(m T k:Nat):Nat:=2^k*m/(2*T)
noncomputable def leftF(m T k:Nat):Nat:=2^k*m%(2*T)
noncomputable def rowF(m T b:Nat):List Nat:=1::(List.range (2*b)).map (fig m T)
theorem Z70:2^k*m/T=2*pre m T k+leftF m T k/T:=by
 delta pre leftF
 rcases Nat.eq_zero_or_pos T with h | h
 ·subst h;simp
 ·have e:=Nat.div_add_mod (2^k*m) (2*T)
  generalize 2^k*m/(2*T)=q at *
  generalize 2^k*m%(2*T)=r at *
  rw[←e,Nat.mul_assoc,Nat.mul_comm 2,Nat.mul_assoc,Nat.mul_add_div h,Nat.mul_comm q 2]
theorem Z3M(hT:0<T):leftF m T k<2*T:=Nat.mod_lt _ (by lia)
theorem Z54(hT:0<T):leftF m T k/T<2:=by
 rw[Nat.div_lt_iff_lt_mul hT];exact Z3M hT
theorem Z6P(hT:0<T):fig m T k=leftF m T k/T:=by
 have:=Z54 (m:=m) (k:=k) hT
 delta fig;rw[Z70,Nat.mul_add_mod,Nat.mod_eq_of_lt this]
theorem ZbT(hT:0<T):(if T≤leftF m T k then 1 else 0)=fig m T k:=by
 rw[Z6P hT]
 have h:=Z54 (m:=m) (k:=k) hT
 split
 ·rename_i h1
  have:1≤leftF m T k/T:=(Nat.le_div_iff_mul_le hT).mpr (by lia)
  lia
 ·rename_i h1
  exact(Nat.div_eq_of_lt (by exact Nat.not_le.mp h1)).symm
theorem Z7U(hT:0<T):((leftF m T (k+1):Nat):Int)=2*(leftF m T k:Int)-2*(T:Int)*(fig m T k:Int):=by
 rw[Z6P hT]
 have e:=Nat.div_add_mod (leftF m T k) T
 have h1:leftF m T (k+1)=2*(leftF m T k%T):=by
  delta leftF
  rw[Nat.pow_succ,Nat.mul_right_comm,Nat.mul_comm _ 2,Nat.mul_mod_mul_left,Nat.mod_mul_left_mod]
 rw[h1]
 have e':((leftF m T k:Nat):Int)=(T:Int)*((leftF m T k/T:Nat):Int)+((leftF m T k%T:Nat):Int):=by rw[←Int.natCast_mul,←Int.natCast_add,e]
 rw[e',Int.natCast_mul]
 have:(2:Int)*((T:Int)*((leftF m T k/T:Nat):Int))=2*(T:Int)*((leftF m T k/T:Nat):Int):=by rw[Int.mul_assoc]
 rw[Int.mul_add,this]
 simp;lia
theorem Z6e(hT:0<T)(hm:m<2*T):pre m T k<2^k:=by
 delta pre
 rw[Nat.div_lt_iff_lt_mul (by lia)]
 exact(Nat.mul_lt_mul_left (Nat.pow_pos (by decide))).mpr hm
theorem Z3w(hT:0<T)(h:j≤k):pre m T k/2^(k-j)=pre m T j:=by
 delta pre
 rw[Nat.div_div_eq_div_mul]
 have:2^k*m=2^(k-j)*(2^j*m):=by rw[←Nat.mul_assoc,←Nat.pow_add,Nat.sub_add_cancel h]
 rw[this,Nat.mul_comm (2*T),Nat.mul_div_mul_left _ _ (Nat.pow_pos (by decide))]
theorem Q3(hT:0<T):pre m T (k+1)=2*pre m T k+fig m T k:=by
 have:pre m T (k+1)=2^k*m/T:=by
  delta pre
  rw[Nat.pow_succ,Nat.mul_right_comm,Nat.mul_comm _ 2,Nat.mul_div_mul_left _ _ (by decide)]
 rw[this,Z70,Z6P hT]
theorem Z9S(hT:0<T)(hm:m<2*T):nd 1 (2^(2*b)+pre m T (2*b))=2*b+1:=by
 have h:=Z6e (k:=2*b) hT hm
 delta nd
 rw[Nat.add_sub_cancel,Nat.div_one]
 have h1:Builtin.Int.intBits ((2^(2*b)+pre m T (2*b):Nat):Int)≤2*b+1:=Q1 (by rw[Nat.pow_succ];lia)
 have h2:=Z1i (2^(2*b)+pre m T (2*b))
 have h3:2*b<Builtin.Int.intBits ((2^(2*b)+pre m T (2*b):Nat):Int):=by
  refine Nat.lt_of_not_le fun hle=>?_
  have:=Nat.pow_le_pow_right (n:=2) (by decide) hle
  lia
 exact Nat.le_antisymm h1 h3
theorem Zay(hT:0<T)(hm:m<2*T)(hk:k<2*b+1):(rowF m T b)[k]? = some (dig 1 (2^(2*b)+pre m T (2*b)) (2*b-k)):=by
 have h:=Z6e (k:=2*b) hT hm
 delta dig
 rw[Nat.one_mul,Nat.pow_one]
 cases k with
 |zero=>
  have hp:0<2^(2*b):=Nat.pow_pos (by decide)
  rw[Nat.sub_zero,show 2^(2*b)+pre m T (2*b)=2^(2*b)*1+pre m T (2*b) by rw[Nat.mul_one],Nat.mul_add_div hp,Nat.div_eq_of_lt h]
  rfl
 |succ j=>
  have hj:j<2*b:=by exact Nat.le_of_lt_succ hk
  show((List.range (2*b)).map (fig m T))[j]? = _
  rw[List.getElem?_map,List.getElem?_range hj,Option.map_some]
  have e:2*b-(j+1)+(j+1)=2*b:=by exact Nat.sub_add_cancel hj
  have e2:2^(2*b)=2^(2*b-(j+1))*2^(j+1):=by rw[←Nat.pow_add,e]
  have hp:0<2^(2*b-(j+1)):=Nat.pow_pos (by decide)
  have hpre:=Z3w (m:=m) hT (show j+1≤2*b by assumption)
  have:(2^(2*b)+pre m T (2*b))/2^(2*b-(j+1))=2^(j+1)+pre m T (j+1):=by
   rw[e2,Nat.mul_add_div hp,hpre]
  rw[this,Q3 hT,Nat.pow_succ]
  have hf:fig m T j<2:=Nat.mod_lt _ (by decide)
  congr 1;rw[Nat.mul_comm,←Nat.add_assoc,←Nat.mul_add,Nat.mul_add_mod,Nat.mod_eq_of_lt hf]
end
section
open PySem PySem.Spec PySem.Calls PyProof.Rows PySem.W PySem.SeqAt
variable{K:Wd}{B:Base}{α β:Type}{A:Around}{g:Gh}{n:Nat}{env:Env}
variable{b:Gh}{S':List Addr}{fn:List Nat}{cs:List Addr}{nm:List (Str×NameKind)}{σ σ':List (Option D)}{own:List (Addr×MO)}
theorem ZbW(x:List Nat)(k:Nat):(⟨(List.replicate k (S x).cps).foldl (·++·) #[]⟩:Str)=S (List.replicate k x).flatten:=by
 have h:∀(k:Nat) (acc:Array Nat),((List.replicate k (S x).cps).foldl (·++·) acc)=(acc.toList++(List.replicate k x).flatten).toArray:=by
  intro k
  induction k with
  |zero=>intro acc;simp
  |succ k ih=>intro acc;rw[List.replicate_succ,List.foldl_cons,ih,List.replicate_succ,List.flatten_cons];simp[S]
 rw[h];simp[S]
theorem Z3C(hk:k≤1000000)(hk0:-1000000≤k)(hx:x.length≤10):OpSem K n g (binaryOp .Mult) (.str x) (.int k) (.str (List.replicate k.toNat x).flatten):=fun g₁ l v₁ v₂ h1 h2 A r g₂ l₂ s E ok=>by
 refine Zi (Zz h1) ?_
 rintro t rfl
 refine Zi (Zo h2) ?_
 rintro u rfl
 have hl:(S x).length=x.length:=Jp x
 refine SB.mul ⟨by simp;lia,fun h3 V=>?_,fun h3 V=>?_⟩ fun t' tk=>⟨g₂,ok.tok _,LeX.refl _ _,?_⟩
 ·rw[hl]
  have h5:(2^63-1)/k≥10:=(Int.le_ediv_iff_mul_le (by lia)).mpr (by lia)
  lia
 ·rw[hl]
  have:x.length*k.toNat≤10*1000000:=Nat.mul_le_mul hx (by lia)
  simp[Builtin.Str.tooLong,sizeLine];exact Nat.le_trans this (by decide)
 ·have:Txt.mul (S x) k=S (List.replicate k.toNat x).flatten:=by
   unfold Txt.mul
   split
   ·rw[show k.toNat=0 by lia];rfl
   ·rename_i h3
    split
    ·rename_i h4
     rcases Bool.or_eq_true _ _ |>.mp h4 with h5 | h5
     ·rw[show k=1 by exact of_decide_eq_true h5];simp
     ·have:x=[]:=by rw[hl] at h5;exact List.length_eq_zero_iff.mp (by exact of_decide_eq_true h5)
      subst this;simp
    ·exact ZbW x _
  rw[this];exact ZU
theorem Z2E{i:Int}(h:(0≤i∧i.toNat=j∧j<m)∨(i<0∧0≤i+m∧(i+m).toNat=j∧j<m)):seqIndex? i m=some j:=by
 unfold seqIndex?
 rcases h with⟨h1,h2,h3⟩ | ⟨h1,h2,h3,h4⟩
 ·have e:(if i<0 then i+(m:Int) else i)=i:=if_neg (Int.not_lt.mpr h1)
  rw[e]
  show(if(decide (0≤i)&&decide (i<(m:Int)))=true then some i.toNat else none)=some j
  rw[if_pos (by rw[decide_eq_true h1,decide_eq_true ((Int.toNat_lt h1).mp (h2▸h3))];rfl),h2]
 ·have e:(if i<0 then i+(m:Int) else i)=i+m:=if_pos h1
  rw[e]
  show(if(decide (0≤i+(m:Int))&&decide (i+(m:Int)<(m:Int)))=true then some (i+(m:Int)).toNat else none)=some j
  rw[if_pos (by rw[decide_eq_true h2,decide_eq_true ((Int.toNat_lt h2).mp (h3▸h4))];rfl),h3]
theorem Z7X(h:atInt x i=some c)(hsz:x.length<2^62):OpSem K n g getItem (.str x) (.int i) (.str [c]):=fun g₁ l v₁ v₂ h1 h2 A r g₂ l₂ s E ok=>by
 refine Zi (Zz h1) ?_
 rintro t rfl
 refine Zi (Zo h2) ?_
 rintro u rfl
 have hl:(S x).length=x.length:=Jp x
 have key:(-(x.length:Int)≤i∧i<x.length)∧(seqIndex? i (S x).length).bind ((S x).cps[·]?)=some c:=by
  rw[hl]
  unfold atInt at h
  have hc:∀j:Nat,(S x).cps[j]? = x[j]?:=fun j=>by simp[S]
  split at h
  ·rename_i h0
   have hj:=(List.getElem?_eq_some_iff.mp h).1
   refine⟨by lia,?_⟩
   rw[Z2E (j:=i.toNat) (.inl ⟨h0,rfl,hj⟩),Option.bind_some,hc];exact h
  ·rename_i h0
   split at h
   ·rename_i h1
    have hj:=(List.getElem?_eq_some_iff.mp h).1
    refine⟨by lia,?_⟩
    rw[Z2E (j:=(i+x.length).toNat) (.inr ⟨by lia,h1,rfl,hj⟩),Option.bind_some,hc];exact h
   ·cases h
 exact P.getItem_str (by simp;lia) key.2 ⟨g₂,ok.tok _,LeX.refl _ _,ZU⟩
theorem JK(hv:Pe K n g (eval value env) (.str x))(hi:Pe K n g (eval slice env) (.int i))(h:atInt x i=some c)(hsz:x.length<2^62):Pe K n g (eval (.Subscript value slice pos) env) (.str [c]):=
 Z90 (id:= "str.__getitem__") hv hi (Z7X h hsz) PySem.F.slot_str_getitem.lookup rfl
noncomputable def jn(sep:List Nat):List (List Nat)→List Nat
 |[]=>[]
 |[x]=>x
 |x::y::r=>x++sep++jn sep (y::r)
theorem Yd:∀l,jn [] l=l.flatten
 |[]=>rfl
 |[x]=>by simp[jn]
 |x::y::r=>by rw[jn,Yd (y::r)];simp
theorem Zaq(sep:List Nat):∀l,Str.join (S sep) (l.map S)=S (jn sep l)
 |[]=>rfl
 |[x]=>rfl
 |x::y::r=>by
  rw[List.map_cons,List.map_cons]
  show S x++S sep++Str.join (S sep) (S y::r.map S)=_
  have:=Zaq sep (y::r)
  rw[List.map_cons] at this
  rw[this,Z7n,Z7n,jn]
theorem Z72:∀{xs:List (List Nat)} {vs:List Value},Z7 im (xs.map .str) vs→StrsAre vs (xs.map S)
 |[],vs,h=>by replace h:=ZV h;subst h;exact .nil
 |x::xs,vs,h=>by
  refine Zw (ZA h) ?_
  clear h;rintro v vs' rfl h1 h2
  refine Zi (Zz h1) ?_
  rintro t rfl
  exact .cons _ t (Z72 h2)
theorem Z2S(xs:List (List Nat)):(xs.map S).map (·.length)=xs.map (·.length):=by
 rw[List.map_map];exact List.map_congr_left fun x V=>Jp x
theorem Yu(hsz:(xs.map (·.length)).sum+xs.length*sep.length≤16777216):CallSem K n g (.builtin "str.join") [.str sep,.lst (xs.map .str)] (.str (jn sep xs)):=fun g₁ l vs h A r g₂ l₂ s E ok=>by
 refine Zw (Jn h) ?_
 clear h;rintro v w rfl h1 h2
 refine Zi (Zz h1) ?_
 rintro t rfl
 refine ZO (Zj.mp h2) ?_
 clear h1 h2;rintro a its m rfl e rs
 refine join_list ⟨_,ok.im _ _ (l₂.im _ _ e),rfl,m,rfl⟩ (Z72 rs) (by rw[Z2S,List.length_map,Jp];exact hsz) fun t' k=>⟨g₂,ok.tok _,LeX.refl _ _,?_⟩
 have:Txt.join (S sep) (xs.map S)=S (jn sep xs):=by rw[←Zaq];exact StrLaws.glued_eq_join _ _
 rw[this];exact ZU
theorem Z6R(x:Str)(c N hi:Nat):∀(m lo free:Nat) (found:Array Nat),found.size≤lo→free≤lo→lo+m≤N→x.length=hi→
  (forIn (List.range' lo m) (found,free) (StrLaws.occBody x ⟨#[c]⟩ hi N)).run.fst.size=found.size+(List.range' lo m).countP (fun i=>x.cps.toList[i]? == some c):=by
 intro m
 induction m with
 |zero=>intro lo free found V V V V;simp
 |succ m ih=>
  intro lo free found h1 h2 h3 h4
  rw[List.range'_succ,List.forIn_cons]
  unfold StrLaws.occBody
  rw[List.countP_cons]
  by_cases hc:x.cps.toList[lo]? = some c
  ·have hlt:lo<x.length:=by
    have:=(List.getElem?_eq_some_iff.mp hc).1
    simpa [Str.length] using this
   have hs:Builtin.Str.subAt x ⟨#[c]⟩ lo=true:=((StrLaws.subAt_one x c lo).mpr hc).2
   rw[if_pos ⟨⟨⟨by dsimp only;lia,h2⟩,by show lo+1≤hi;exact Nat.lt_of_lt_of_eq hlt h4⟩,hs⟩]
   have:=ih (lo+1) (lo+1) (found.push lo) (by simp;exact h1) (Nat.le_refl _) (by lia) h4
   refine Eq.trans this ?_
   rw[Array.size_push]
   simp[hc];exact Nat.add_right_comm _ _ _
  ·have hs:¬((((found,free).fst.size<N∧(found,free).snd≤lo)∧lo+Str.length ⟨#[c]⟩≤hi)∧Builtin.Str.subAt x ⟨#[c]⟩ lo=true):=fun h=>hc ((StrLaws.subAt_one x c lo).mp ⟨by have:=h.1.2;exact Nat.lt_of_lt_of_eq this (Eq.symm h4),h.2⟩)
   rw[if_neg hs]
   have:=ih (lo+1) free found (by exact Nat.le_succ_of_le h1) (by exact Nat.le_succ_of_le h2) (by lia) h4
   refine Eq.trans this ?_
   have:((x.cps.toList[lo]? == some c))=false:=by simpa using hc
   rw[this];simp
theorem Z4a(c:Nat):∀(l:List Nat),(List.range' 0 (l.length+1)).countP (fun i=>l[i]? == some c)=l.count c:=by
 intro l
 have key:∀(l:List Nat) (k:Nat) (p:Nat→Option Nat),(∀i,i≤l.length→p (k+i)=l[i]?)→(List.range' k (l.length+1)).countP (fun i=>p i==some c)=l.count c:=by
  intro l
  induction l with
  |nil=>
   intro k p hp
   have:=hp 0 (by exact Nat.zero_le _)
   simp at this
   simp[this]
  |cons a l ih=>
   intro k p hp
   rw[List.length_cons,List.range'_succ,List.countP_cons,ih (k+1) p (fun i hi=>by
    have:=hp (i+1) (by simp;exact hi)
    rw[show k+(i+1)=k+1+i by lia] at this
    simpa using this)]
   have:=hp 0 (by exact Nat.zero_le _)
   simp at this
   rw[this,List.count_cons]
   simp
 exact key l 0 (fun i=>l[i]?) (fun i V=>by simp)
theorem ZaC(x:List Nat)(c:Nat):Txt.count (S x) (S [c])=(x.count c:Nat):=by
 unfold Txt.count
 rw[StrLaws.occ_eq]
 have h:=Z6R (S x) c ((S x).length+1) (S x).length ((S x).length+1) 0 0 #[] (by exact Nat.zero_le _) (Nat.le_refl _) (by lia) rfl
 have e:(S [c])=(⟨#[c]⟩:Str):=rfl
 rw[e,Array.length_toList,show(S x).length+1-0=(S x).length+1 from rfl,h,Jp]
 have:=Z4a c x
 simp only[Za2]
 rw[this];simp
theorem Z5z:CallSem K n g (.builtin "str.count") [.str x,.str [c]] (.int (x.count c:Nat)):=fun g₁ l vs h A r g₂ l₂ s E ok=>by
 refine Zw (Jn h) ?_
 clear h;rintro v w rfl h1 h2
 refine Zi (Zz h1) ?_
 rintro t rfl
 refine Zi (Zz h2) ?_
 clear h1 h2;rintro u rfl
 refine call_gives PySem.F.slot_str_count (typeIs_str _ _ _) PySem.F.entry_str_count (PySem.F.args_str_count_2 _ _) (gives_str_count (S x) (S [c]) t u) ⟨g₂,ok.tok _,LeX.refl _ _,?_⟩
 have:=ZaC x c
 unfold Txt.count at this
 rw[this];exact Zp
theorem Z1e(h:x.length+y.length≤sizeLine):OpSem K n g (binaryOp .Add) (.lst x) (.lst y) (.lst (x++y)):=fun g₁ l v₁ v₂ h1 h2 A r g₂ l₂ s E ok=>by
 refine ZO (Zj.mp h1) ?_
 rintro a its m rfl e rs
 refine ZO (Zj.mp h2) ?_
 rintro b its2 m2 rfl e2 rs2
 have ho:=ok.im _ _ (l₂.im _ _ e)
 have ho2:=ok.im _ _ (l₂.im _ _ e2)
 have hs1:its.size=x.length:=by rw[←Array.length_toList,rs.length]
 have hs2:its2.size=y.length:=by rw[←Array.length_toList,rs2.length]
 refine concat_meets ⟨_,ho,rfl⟩ ⟨_,ho2,rfl⟩ noFill_list_add seq_list_add PySem.F.slot_list_add PySem.F.entry_list_add (PySem.F.args_list_add_2 _ _) (list_addW a b its its2 m m2 none none #[] #[] (by rw[hs1,hs2];exact h)) ⟨ho,ho2,?_⟩
 refine⟨_,ok.pushIm (o:=sq "list" (its++its2) 0) rfl,Le.addIm ok.fresh.1,Zj.mpr ⟨_,_,0,rfl,ZcJ,?_⟩⟩
 rw[Array.toList_append]
 exact((rs.le l₂).append (rs2.le l₂)).mono (Le.addIm ok.fresh.1).im
end
section
open PySem PySem.Spec PySem.Calls PyProof.Rows PySem.W PySem.SeqAt Builtin
variable{K:Wd}{B:Base}{α β:Type}{A:Around}{g:Gh}{n:Nat}{env:Env}
variable{b:Gh}{S':List Addr}{fn:List Nat}{cs:List Addr}{nm:List (Str×NameKind)}{σ σ':List (Option D)}{own:List (Addr×MO)}
noncomputable abbrev fo(c:String)(vs:Array Value):Obj:={cls:=.type c,dict:=none,data:=.fields vs,slots:=#[]}
theorem QB(ho:g.has a o)(hd:o.data=.fields vs)(hx:vs[i]? = some x)(q:Q x g):gwp K A (field (.ref a) i) Q g:=fun s E ok=>wpAny_field (ho.get ok) hd hx ⟨g,ok,q⟩
theorem ZH(ho:g.mu a=some (fo c vs))(hi:i<vs.size)(q:Q () (g.setMu a (fo c (vs.setIfInBounds i x)))):gwp K A (setField (.ref a) i x) Q g:=fun s E ok=>
 wpAny_setField_rec (ok.mu _ _ ho) hi fun h' e hs=>⟨_,ok.sameBut (tk:=s.toks) ho hs e,q⟩
theorem Z83(ho:g.has a o)(q:Q (some o) g):gwp K A (loadIfAlive a) Q g:=fun s E ok Γ p hΓ=>by
 show Sem.wp _ _ (Sem.loadIfAlive a .pure) _ _ _ _
 rw[Sem.wp_loadIfAlive,ho.get ok]
 exact⟨g,ok,q⟩
theorem YD(ho:g.mu a=some (sq c its m))(h1:its.size≤sizeLine)(h2:(f its).size≤sizeLine+1)(q:∀m',Q () (g.setMu a (sq c (f its) m'))):gwp K A (updateSeq a f) Q g:=fun s E ok=>
 wpAny_updateSeq (ok.mu _ _ ho) rfl ⟨_,ok.upd ho (f:=Obj.mapSeq f) rfl,q _⟩ h1 h2
theorem Z0y(q:Q () g):gwp K A (letGo vs ks) Q g:=fun s E ok=>wpAny_letGo ⟨g,ok,q⟩
structure ItN(K:Wd)(it:Value)(T R:List Addr)(St:List D→Gh→Prop):Prop where
 item:∀{d:D} {ds:List D} {g:Gh} {A:Around},A.handled=none→St (d::ds) g→gwp K A (SmallTypes.nextOf it) (fun v g'=>LeX T g g'∧Zu g'.im d v∧St ds g') g
 done:∀{g:Gh} {A:Around} {s:Shared} {Q:Value→Shared→Prop} {E:Value→Shared→Prop},A.handled=none→St [] g→g.Ok K.B s→(∀e s' g',g'.Ok K.B s'→LeX T g g'→s'.TypeIs (.ref e) "StopIteration"→E (.ref e) s')→wpAny (model K.prog K.w) A (SmallTypes.nextOf it) Q E s
 frame:∀{ds:List D} {g g':Gh} {W:List Addr},St ds g→LeX W g g'→(∀a∈W,a∉T∧a∉R)→St ds g'
 mem:∀{ds:List D} {g:Gh},St ds g→∀a∈T,∃o,g.mu a=some o
 cell:∀{ds:List D} {g:Gh},St ds g→∀a∈T,∀o w,g.mu a=some o→o.data≠.cell w
theorem ItN.list:ItN K (.ref it) [it] [] (StL [] it) where
 item:=fun{d ds g A} hh st s E ok=>by
  refine Z00 st fun o l i its m h1 h2 h3 h4=>?_
  refine Zm (Z76 h4) fun v hv e2 e3=>?_
  refine wpAny_nextOf_list_item ⟨o,ok.mu _ _ h1,h2⟩ ⟨_,h3.get ok,rfl,m,rfl⟩ hv fun h' hit' hs=>?_
  refine Zm hit' fun o' ho' hc' hd'=>?_
  have ok':=ok.sameBut (tk:=s.toks) h1 hs ho'
  exact⟨_,ok',LeX.setMu,e2,o',l,i+1,its,m,ZcI,⟨hc',hd'⟩,h3.up LeX.setMu (fun a ha=>by exact List.not_mem_nil),e3⟩
 done:=fun{g A s Q E} hh st ok hE=>by
  refine Z00 st fun o l i its m h1 h2 h3 h4=>?_
  have hv:=Z4C h4
  exact wpAny_nextOf_list_end hh ⟨o,ok.mu _ _ h1,h2⟩ ⟨_,h3.get ok,rfl,m,rfl⟩ hv fun h' e he ht=>hE e _ _ (ok.lost (tk:=s.toks) h1 he) LeX.drop ht
 frame:=fun{ds g g' W} st l hw=>by
  refine Z00 st fun o a i its m h1 h2 h3 h4=>?_
  exact⟨o,a,i,its,m,l.mu _ _ (fun hm=>(hw _ hm).1 (by exact .head _)) h1,h2,h3.up l (fun a ha=>(hw a ha).2),h4.mono l.im⟩
 mem:=fun{ds g} st=>Zr (Z00 st fun o l i its m h1 h2 h3 h4=>⟨o,h1⟩)
 cell:=fun{ds g} st=>Zr (fun o' w e=>Z00 st fun o l i its m h1 h2 h3 h4 z=>by rw[←J0 h1 e,h2.2] at z;cases z)
noncomputable def Owned(g:Gh)(f0:Value):Prop:=f0=.none∨∃T o,f0=rawInt (T:Nat)∧g.im T=some o
theorem Owned.mono(h:Owned g f0)(l:∀a o,g.im a=some o→g'.im a=some o):Owned g' f0:=h.imp id fun z₀=>ZP z₀ fun T o e h=>⟨T,o,e,l _ _ h⟩
theorem Z1W(ho:g.mu a=some (fo c (f0::f1::rest).toArray))(hf:Owned g f0)
  (q1:f0=.none→Q true g)(q2:∀f1',Q false (g.setMu a (fo c (f0::f1'::rest).toArray))):gwp K A (SmallTypes.ownedTupleIsFree (.ref a)) Q g:=by
 unfold SmallTypes.ownedTupleIsFree
 refine Z0 (QB (x:=f0) (.inr ho) rfl (by exact rfl) ?_)
 rcases hf with rfl | ⟨T,o,rfl,hT⟩
 ·exact Z6 (q1 rfl)
 ·show gwp K A (loadIfAlive T>>=_) Q g
  refine Z0 (Z83 (.inl hT) ?_)
  dsimp only[Option.isNone_some,Bool.false_eq_true,if_false]
  refine Z0 (QB (x:=f1) (.inr ho) rfl (by exact rfl) ?_)
  have hsame:∀(q:Q false (g.setMu a (fo c (rawInt T::f1::rest).toArray))),gwp K A (pure false) Q g:=fun q s E ok=>by
   have ok':=ok.sameBut (tk:=s.toks) ho (h':=s.heap) ⟨rfl,fun V V=>rfl⟩ (ok.mu _ _ ho)
   exact wpAny_pure ⟨_,ok',q⟩
  split
  ·refine Z0 (ZH ho (by simp) (Z6 ?_))
   have:((rawInt T::f1::rest).toArray.setIfInBounds 1 (.bool true))=(rawInt T::.bool true::rest).toArray:=by exact rfl
   rw[this];exact q2 _
  ·exact hsame (q2 f1)
theorem Z5h(ho:g.mu a=some (fo c (f0::f1::rest).toArray))(q:Q () (g.setMu a (fo c (rawInt T::.bool false::rest).toArray))):gwp K A (SmallTypes.ownedTupleHandOut (.ref a) (.ref T)) Q g:=by
 unfold SmallTypes.ownedTupleHandOut
 refine Z0 (ZH ho (by exact Nat.succ_pos _) ?_)
 refine ZH (c:=c) (vs:=(rawInt T::f1::rest).toArray) (by rw[ZcI];simp) (by simp) ?_
 have e:((rawInt T::f1::rest).toArray.setIfInBounds 1 (.bool false))=(rawInt T::.bool false::rest).toArray:=by exact rfl
 rw[e]
 have e2:∀o o',(g.setMu a o).setMu a o'=g.setMu a o':=fun o o'=>by
  unfold Gh.setMu
  congr 1
  funext x
  by_cases hx:x=a<;>simp[hx]
 rw[e2];exact q
theorem Js(ho:g.has a o)(hd:o.data=.seq its m)(q:Q (some its) g):gwp K A (seqItems? (.ref a)) Q g:=fun s E ok=>wpAny_seqItems (ho.get ok) hd ⟨g,ok,q⟩
noncomputable def zipD(ds1 ds2:List D):List D:=List.zipWith (fun d e=>.tup [d,e]) ds1 ds2
noncomputable abbrev zo(f0 f1:Value)(TI TO:Addr):Obj:=fo "zip" (f0::f1::[.bool false,.ref TI,.ref TO]).toArray
structure ZipSt(z TI TO i1 i2:Addr)(St1 St2:List D→Gh→Prop)(ds1 ds2:List D)(g:Gh):Prop where
 z:∃f0 f1,g.mu z=some (zo f0 f1 TI TO)∧Owned g f0
 TO:∃a b m,g.mu TO=some (sq "tuple" #[a,b] m)
 TI:∃m,g.im TI=some (sq "tuple" #[.ref i1,.ref i2] m)
 len:ds1.length=ds2.length
 st1:St1 ds1 g
 st2:St2 ds2 g
theorem Yg(hx:Zu g.im d x)(hy:Zu g.im e y)(q:∀T o g',Le g g'→g'.im T=some o→Zu g'.im (.tup [d,e]) (.ref T)→Q (.ref T) g'):gwp K A (newTuple [x,y]) Q g:=fun s E ok=>by
 refine wpAny_newTuple ⟨_,ok.pushIm (o:={cls:=.type "tuple",data:=.seq #[x,y]}) rfl,q _ _ _ (Le.addIm ok.fresh.1) ZcJ ?_⟩
 have l:=Le.addIm (g:=g) (o:={cls:=.type "tuple",data:=.seq #[x,y]}) ok.fresh.1
 exact J1.mpr ⟨_,#[x,y],0,rfl,ZcJ,Z7.cons (hx.le l) (Z7.cons (hy.le l) Z7.nil)⟩
section
variable{z TI TO i1 i2:Addr}{T1 T2 R1 R2:List Addr}{St1 St2:List D→Gh→Prop}
theorem Z8m(I1:ItN K (.ref i1) T1 R1 St1)(I2:ItN K (.ref i2) T2 R2 St2)(hnd:(z::TO::(T1++T2)).Nodup)(hR:∀a∈R1++R2,a∉z::TO::(T1++T2))(hh:A.handled=none)
  (st:ZipSt z TI TO i1 i2 St1 St2 (d::ds1) (e::ds2) g):gwp K A (Builtin.«zip.__next__» ⟨[.ref z],[]⟩) (fun fin g'=>∃v,fin=.done (.ret v)∧LeX (z::TO::(T1++T2)) g g'∧Zu g'.im (.tup [d,e]) v∧ZipSt z TI TO i1 i2 St1 St2 ds1 ds2 g') g:=by
 refine cps fun Q₀ k₀=>?_
 obtain⟨⟨f0,f1,hz,hown⟩,⟨a,b,m,hTO⟩,⟨mI,hTI⟩,hlen,st1,st2⟩:=st
 simp only[List.nodup_cons,List.mem_cons,List.mem_append,not_or,List.nodup_append] at hnd
 obtain⟨⟨hzTO,hz1,hz2⟩,⟨hTO1,hTO2⟩,hn1,hn2,h12⟩:=hnd
 have hR':∀a,a∈R1∨a∈R2→a≠z∧a≠TO∧a∉T1∧a∉T2:=fun a ha=>by
  have:=hR a (List.mem_append.mpr ha)
  simp only[List.mem_cons,List.mem_append,not_or] at this
  exact⟨this.1,this.2.1,this.2.2.1,this.2.2.2⟩
 have sub1:∀a∈T1,a∈z::TO::(T1++T2):=fun a h=>.tail _ (.tail _ (List.mem_append.mpr (.inl h)))
 have sub2:∀a∈T2,a∈z::TO::(T1++T2):=fun a h=>.tail _ (.tail _ (List.mem_append.mpr (.inr h)))
 have subz:∀a∈[z],a∈z::TO::(T1++T2):=Zr (.head _)
 have subTO:∀a∈[TO],a∈z::TO::(T1++T2):=Zr (.tail _ (.head _))
 show gwp K A (field (.ref z) 2>>=_) _ g
 refine Z0 (QB (x:=.bool false) (.inr hz) rfl (by exact rfl) ?_)
 show gwp K A (field (.ref z) 3>>=_) _ g
 refine Z0 (QB (x:=.ref TI) (.inr hz) rfl (by exact rfl) ?_)
 refine Z0 (Js (.inl hTI) rfl ?_)
 show gwp K A (SmallTypes.ownedTupleIsFree (.ref z)>>=_) _ g
 refine Z0 (Z1W hz hown (fun e0=>?_) (fun f1'=>?_))
 ·subst e0
  refine Z0 (Z1T ?_)
  refine Z0 (QB (x:=.ref TO) (.inr hz) rfl (by exact rfl) ?_)
  refine Z0 (ZH hz (by exact Nat.succ_pos _) ?_)
  have l₁:LeX [z] g (g.setMu z (zo .ellipsis f1 TI TO)):=LeX.setMu
  have e1:((Value.none::f1::[Value.bool false,.ref TI,.ref TO]).toArray.setIfInBounds 0 .ellipsis)=(.ellipsis::f1::[Value.bool false,.ref TI,.ref TO]).toArray:=by exact rfl
  rw[e1]
  refine Z0 ?_
  refine Z0 (Z0 (Z11 ?_))
  show gwp K A (SmallTypes.nextOf (.ref i1)>>=_) _ _
  have st1':=I1.frame st1 l₁ (Zr ⟨hz1,fun h=>(hR' _ (.inl h)).1 rfl⟩)
  refine Z0 (Qj (I1.item hh st1') fun x g₂ l₂ hx st1₂=>Z6 ?_)
  have hTO₂:g₂.mu TO=some (sq "tuple" #[a,b] m):=l₂.mu _ _ hTO1 ((ZcK (Ne.symm hzTO)).trans hTO)
  have hz₂:g₂.mu z=some (zo .ellipsis f1 TI TO):=l₂.mu _ _ hz1 ZcI
  refine Z0 (Js (.inr hTO₂) rfl ?_)
  refine Z0 (YD hTO₂ (by exact Nat.le_of_ble_eq_true rfl) (by exact Nat.le_of_ble_eq_true rfl) fun m₃=>?_)
  refine Z0 (Z0y (Z6 ?_))
  have hTOe:(#[a,b]:Array Value).setIfInBounds 0 x = #[x,b]:=rfl
  rw[hTOe]
  generalize hg₃:g₂.setMu TO (sq "tuple" #[x,b] m₃)=g₃
  have l₃:LeX [TO] g₂ g₃:=hg₃▸LeX.setMu
  have hTO₃:g₃.mu TO=some (sq "tuple" #[x,b] m₃):=hg₃▸ZcI
  have hz₃:g₃.mu z=some (zo .ellipsis f1 TI TO):=l₃.mu _ _ (fun h=>hzTO (List.mem_singleton.mp h)) hz₂
  refine Z0 (Z0 (Z11 ?_))
  show gwp K A (SmallTypes.nextOf (.ref i2)>>=_) _ _
  have l₁₃:LeX (z::TO::T1) g g₃:=(l₁.sub (Zr (.head _))).trans ((l₂.sub (fun a h=>.tail _ (.tail _ h))).trans (l₃.sub (Zr (.tail _ (.head _)))))
  have st2':=I2.frame st2 l₁₃ (ZY ⟨hz2,fun h=>(hR' _ (.inr h)).1 rfl⟩ (ZY ⟨hTO2,fun h=>(hR' _ (.inr h)).2.1 rfl⟩ (fun a ha=>⟨fun h=>h12 a ha a h rfl,fun h=>(hR' _ (.inr h)).2.2.1 ha⟩)))
  refine Z0 (Qj (I2.item hh st2') fun y g₄ l₄ hy st2₄=>Z6 ?_)
  have hTO₄:g₄.mu TO=some (sq "tuple" #[x,b] m₃):=l₄.mu _ _ hTO2 hTO₃
  have hz₄:g₄.mu z=some (zo .ellipsis f1 TI TO):=l₄.mu _ _ hz2 hz₃
  refine Z0 (Js (.inr hTO₄) rfl ?_)
  refine Z0 (YD hTO₄ (by exact Nat.le_of_ble_eq_true rfl) (by exact Nat.le_of_ble_eq_true rfl) fun m₅=>?_)
  refine Z0 (Z0y (Z6 (Z6 ?_)))
  have hTOe:(#[x,b]:Array Value).setIfInBounds 1 y = #[x,y]:=rfl
  rw[hTOe]
  generalize hg₅:g₄.setMu TO (sq "tuple" #[x,y] m₅)=g₅
  have l₅:LeX [TO] g₄ g₅:=hg₅▸LeX.setMu
  have hTO₅:g₅.mu TO=some (sq "tuple" #[x,y] m₅):=hg₅▸ZcI
  have hz₅:g₅.mu z=some (zo .ellipsis f1 TI TO):=l₅.mu _ _ (fun h=>hzTO (List.mem_singleton.mp h)) hz₄
  refine Z0 (Js (.inr hTO₅) rfl ?_)
  have hx₅:Zu g₅.im d x:=((hx.mono l₃.im).mono l₄.im).mono l₅.im
  refine Z0 (Yg hx₅ (hy.mono l₅.im) fun T o g₆ l₆ hT ht=>?_)
  refine Z0 (Z5h (l₆.at hz₅) (Z6 (k₀ _ _ ⟨.ref T,rfl,?_,ht,?_⟩)))
  ·exact(l₁.sub subz).trans ((l₂.sub sub1).trans ((l₃.sub subTO).trans ((l₄.sub sub2).trans ((l₅.sub subTO).trans ((LeX.of l₆).trans (LeX.setMu.sub subz))))))
  ·have l₇:LeX [z] g₆ (g₆.setMu z (zo (rawInt T) (.bool false) TI TO)):=LeX.setMu
   refine⟨⟨_,_,ZcI,.inr ⟨T,o,rfl,hT⟩⟩,⟨x,y,m₅,(ZcK (Ne.symm hzTO)).trans (l₆.at hTO₅)⟩,⟨mI,l₆.im _ _ (l₅.im _ _ (l₄.im _ _ (l₃.im _ _ (l₂.im _ _ hTI))))⟩,Nat.succ.inj hlen,?_,?_⟩
   ·have lA:LeX (z::TO::T2) g₂ (g₆.setMu z (zo (rawInt T) (.bool false) TI TO)):=(l₃.sub (Zr (.tail _ (.head _)))).trans ((l₄.sub (fun a h=>.tail _ (.tail _ h))).trans ((l₅.sub (Zr (.tail _ (.head _)))).trans ((LeX.of l₆).trans (l₇.sub (Zr (.head _))))))
    exact I1.frame st1₂ lA (ZY ⟨hz1,fun h=>(hR' _ (.inl h)).1 rfl⟩ (ZY ⟨hTO1,fun h=>(hR' _ (.inl h)).2.1 rfl⟩ (fun a ha=>⟨fun h=>h12 a h a ha rfl,fun h=>(hR' _ (.inl h)).2.2.2 ha⟩)))
   ·have lA:LeX (z::TO::[]) g₄ (g₆.setMu z (zo (rawInt T) (.bool false) TI TO)):=(l₅.sub (Zr (.tail _ (.head _)))).trans ((LeX.of l₆).trans (l₇.sub (Zr (.head _))))
    exact I2.frame st2₄ lA (ZY ⟨hz2,fun h=>(hR' _ (.inr h)).1 rfl⟩ (Zr ⟨hTO2,fun h=>(hR' _ (.inr h)).2.1 rfl⟩))
 ·have l₁:LeX [z] g (g.setMu z (zo f0 f1' TI TO)):=LeX.setMu
  generalize hg₁:g.setMu z (zo f0 f1' TI TO)=g₁ at *
  have hz₁:g₁.mu z=some (zo f0 f1' TI TO):=hg₁▸ZcI
  have hTO₁:g₁.mu TO=some (sq "tuple" #[a,b] m):=l₁.mu _ _ (fun h=>hzTO (List.mem_singleton.mp h).symm) hTO
  refine Z0 ?_
  refine Z0 (Z0 (Zs ?_))
  show gwp K A (SmallTypes.nextOf (.ref i1)>>=_) _ _
  have st1':=I1.frame st1 l₁ (Zr ⟨hz1,fun h=>(hR' _ (.inl h)).1 rfl⟩)
  refine Z0 (Qj (I1.item hh st1') fun x g₂ l₂ hx st1₂=>Z6 (Z6 ?_))
  refine Z0 (Z0 (Zs ?_))
  show gwp K A (SmallTypes.nextOf (.ref i2)>>=_) _ _
  have l₁₂:LeX (z::T1) g g₂:=(l₁.sub (Zr (.head _))).trans (l₂.sub (fun a h=>.tail _ h))
  have st2':=I2.frame st2 l₁₂ (ZY ⟨hz2,fun h=>(hR' _ (.inr h)).1 rfl⟩ (fun a ha=>⟨fun h=>h12 a ha a h rfl,fun h=>(hR' _ (.inr h)).2.2.1 ha⟩))
  refine Z0 (Qj (I2.item hh st2') fun y g₃ l₃ hy st2₃=>Z6 (Z6 (Z6 ?_)))
  refine Z0 (Yg (hx.mono l₃.im) hy fun T o g₄ l₄ hT ht=>Z6 (k₀ _ _ ⟨.ref T,rfl,?_,ht,?_⟩))
  ·exact(l₁.sub subz).trans ((l₂.sub sub1).trans ((l₃.sub sub2).trans (LeX.of l₄)))
  ·refine⟨⟨f0,f1',l₄.at (l₃.mu _ _ hz2 (l₂.mu _ _ hz1 hz₁)),hown.mono fun a o h=>l₄.im _ _ (l₃.im _ _ (l₂.im _ _ (l₁.im _ _ h)))⟩,⟨a,b,m,l₄.at (l₃.mu _ _ hTO2 (l₂.mu _ _ hTO1 hTO₁))⟩,⟨mI,l₄.im _ _ (l₃.im _ _ (l₂.im _ _ (l₁.im _ _ hTI)))⟩,Nat.succ.inj hlen,?_,?_⟩
   ·exact I1.frame st1₂ ((l₃.sub (fun a h=>h)).trans (LeX.of l₄)) (fun a ha=>⟨fun h=>h12 a h a ha rfl,fun h=>(hR' _ (.inl h)).2.2.2 ha⟩)
   ·exact I2.frame st2₃ l₄ ZZ
end
theorem Z81(ho:g.mu it=some (fo c (f0::rest).toArray))(q0:Q () g)(q1:Q () (g.setMu it (fo c (.none::rest).toArray))):gwp K A (letOwnedTupleGo target (.ref it) v) Q g:=by
 rcases Yc target (.ref it) v with e | e<;>rw[e]
 ·exact Z6 q0
 ·cases v with
  |ref a=>
   show gwp K A (load it>>=_) Q g
   refine Z0 (Z1V (.inr ho) ?_)
   dsimp only
   split
   ·exact Z0 (Z1T (ZH ho (Nat.succ_pos _) q1))
   ·exact Z6 q0
  |_=>exact Z6 q0
section
variable{z TI TO i1 i2:Addr}{T1 T2 R1 R2:List Addr}{St1 St2:List D→Gh→Prop}
theorem ZipSt.frame(I1:ItN K (.ref i1) T1 R1 St1)(I2:ItN K (.ref i2) T2 R2 St2)(st:ZipSt z TI TO i1 i2 St1 St2 ds1 ds2 g)(l:LeX W g g')(hw:∀a∈W,a∉z::TO::(T1++T2)∧a∉R1++R2):ZipSt z TI TO i1 i2 St1 St2 ds1 ds2 g':=by
 obtain⟨⟨f0,f1,hz,hown⟩,⟨a,b,m,hTO⟩,⟨mI,hTI⟩,hlen,st1,st2⟩:=st
 simp only[List.mem_cons,List.mem_append,not_or] at hw
 exact⟨⟨f0,f1,l.mu _ _ (fun h=>(hw _ h).1.1 rfl) hz,hown.mono l.im⟩,⟨a,b,m,l.mu _ _ (fun h=>(hw _ h).1.2.1 rfl) hTO⟩,⟨mI,l.im _ _ hTI⟩,hlen,
  I1.frame st1 l fun a ha=>⟨(hw a ha).1.2.2.1,(hw a ha).2.1⟩,I2.frame st2 l fun a ha=>⟨(hw a ha).1.2.2.2,(hw a ha).2.2⟩⟩
theorem It.zip(I1:ItN K (.ref i1) T1 R1 St1)(I2:ItN K (.ref i2) T2 R2 St2)(hnd:(z::TO::(T1++T2)).Nodup)(hR:∀a∈R1++R2,a∉z::TO::(T1++T2)) :
  It K (.ref z) (z::TO::(T1++T2)) (R1++R2) (fun ds g=>∃ds1 ds2,ds=zipD ds1 ds2∧ZipSt z TI TO i1 i2 St1 St2 ds1 ds2 g) where
 item:=fun{d ds g A} hh st₀ s E ok=>by
  refine ZP st₀ fun ds1 ds2 e st=>?_
  refine ZP st.z fun f0 f1 hz hown=>?_
  have hT:s.TypeIs (.ref z) "zip":=⟨_,ok.mu _ _ hz,rfl⟩
  cases ds1 with
  |nil=>cases e
  |cons d1 ds1=>
   cases ds2 with
   |nil=>cases e
   |cons d2 ds2=>
    have e':d::ds=D.tup [d1,d2]::zipD ds1 ds2:=e
    cases e'
    refine wpAny_bind (wpAny_attempt (wpAny_callSpecial?_slot (name:=Str.ofString "__next__") hT PySem.F.slot_zip_next (wpAny_call_entry PySem.F.slot_zip_next hT PySem.F.entry_zip_next (Zn (Z8m I1 I2 hnd hR (A:=A.in1) hh st s _ ok) (fun fin s' g' ok' z₀=>Z5L z₀ fun v e1 l hv st'=>?_)) (PySem.F.args_zip_next_1 _))))
    refine⟨v,e1,wpAny_pure ⟨g',ok',l,v,rfl,hv,fun target A=>?_⟩⟩
    refine ZP st'.z fun f0' f1' hz' hown'=>?_
    refine Z81 hz' ⟨LeX.refl _ _,_,_,rfl,st'⟩ ⟨LeX.setMu.sub (Zr (.head _)),ds1,ds2,rfl,?_⟩
    have l₁:LeX [z] g' (g'.setMu z (zo .none f1' TI TO)):=LeX.setMu
    simp only[List.nodup_cons,List.mem_cons,List.mem_append,not_or,List.nodup_append] at hnd
    refine Zcx hnd ?_
    rintro⟨hzTO,hz1,hz2⟩ ⟨hTO1,hTO2⟩ hn1 hn2 h12
    refine Z5K st'.TO fun a b m hTO=>?_
    refine⟨⟨_,_,ZcI,.inl rfl⟩,⟨a,b,m,(ZcK (Ne.symm hzTO)).trans hTO⟩,st'.TI,st'.len,I1.frame st'.st1 l₁ (Zr ⟨hz1,fun h=>hR _ (List.mem_append.mpr (.inl h)) (.head _)⟩),I2.frame st'.st2 l₁ (Zr ⟨hz2,fun h=>hR _ (List.mem_append.mpr (.inr h)) (.head _)⟩)⟩
 done:=fun{g A} hh st₀ s E ok=>by
  refine ZP st₀ fun ds1 ds2 e st=>?_
  refine ZP st.z fun f0 f1 hz hown=>?_
  refine Z5K st.TO fun a b m hTO=>?_
  refine Zi st.TI fun mI hTI=>?_
  have hT:s.TypeIs (.ref z) "zip":=⟨_,ok.mu _ _ hz,rfl⟩
  have h1:ds1=[]:=by
   cases ds1 with
   |nil=>rfl
   |cons d1 ds1=>
    cases ds2 with
    |nil=>exact absurd st.len (by exact Nat.succ_ne_zero _)
    |cons d2 ds2=>cases e
  subst h1
  have hnd':=hnd
  simp only[List.nodup_cons,List.mem_cons,List.mem_append,not_or,List.nodup_append] at hnd'
  refine Zcx hnd' ?_
  rintro⟨hzTO,hz1,hz2⟩ ⟨hTO1,hTO2⟩ hn1 hn2 h12
  have sub1:∀a∈T1,a∈z::TO::(T1++T2):=fun a h=>.tail _ (.tail _ (List.mem_append.mpr (.inl h)))
  refine wpAny_bind (wpAny_attempt (wpAny_callSpecial?_slot (name:=Str.ofString "__next__") hT PySem.F.slot_zip_next (wpAny_call_entry PySem.F.slot_zip_next hT PySem.F.entry_zip_next ?_ (PySem.F.args_zip_next_1 _))))
  have stop:∀(g':Gh) (s':Shared) (e:Addr),g'.Ok K.B s'→LeX (z::TO::(T1++T2)) g g'→s'.TypeIs (.ref e) "StopIteration"→wpAny (model K.prog K.w) A (isInstance (.ref e) (.type "StopIteration")>>=fun c=>if c=true then pure (none:Option Value) else throw (.ref e)) (fun v s'=>∃g',g'.Ok K.B s'∧LeX (z::TO::(T1++T2)) g g'∧v=none) E s':=fun g' s' e ok' l ht=>
   wpAny_bind (wpAny_isInstance ht isSubtype_stop (wpAny_pure ⟨g',ok',l,rfl⟩))
  show wpAny _ _ (field (.ref z) 2>>=_) _ _ s
  refine wpAny_bind (wpAny_field (ok.mu _ _ hz) rfl (x:=.bool false) (by exact rfl) ?_)
  show wpAny _ _ (field (.ref z) 3>>=_) _ _ s
  refine wpAny_bind (wpAny_field (ok.mu _ _ hz) rfl (x:=.ref TI) (by exact rfl) ?_)
  refine wpAny_bind (wpAny_seqItems (ok.im _ _ hTI) rfl ?_)
  show wpAny _ _ (SmallTypes.ownedTupleIsFree (.ref z)>>=_) _ _ s
  refine wpAny_bind (wpAny_mono (Z1W (Q:=fun c g'=>LeX [z] g g'∧(∃f0 f1,g'.mu z=some (zo f0 f1 TI TO))∧St1 [] g') hz hown (fun V=>⟨LeX.refl _ _,⟨_,_,hz⟩,st.st1⟩) (fun f1'=>⟨LeX.setMu,⟨_,_,ZcI⟩,I1.frame st.st1 (LeX.setMu (a:=z)) (Zr ⟨hz1,fun h=>hR _ (List.mem_append.mpr (.inl h)) (.head _)⟩)⟩) s (fun V V=>False) ok) (fun c s₁ z₀=>Z5L z₀ fun g₁ ok₁ l₁ z₀ st1₁=>QD z₀ fun f0' f1' hz₁=>?_) fun V V z=>z.elim)
  cases c with
  |true=>
   refine wpAny_bind (wpAny_rule ?_)
   refine wpAny_bind (wpAny_field (ok₁.mu _ _ hz₁) rfl (x:=.ref TO) (by exact rfl) ?_)
   refine wpAny_bind (wpAny_mono (ZH (i:=0) (x:=.ellipsis) (Q:=fun V g'=>LeX [z] g₁ g'∧(∃f0 f1,g'.mu z=some (zo f0 f1 TI TO))∧St1 [] g') hz₁ (by exact Nat.succ_pos _) ⟨LeX.setMu,⟨.ellipsis,f1',by rw[ZcI];simp⟩,I1.frame st1₁ (LeX.setMu (a:=z)) (Zr ⟨hz1,fun h=>hR _ (List.mem_append.mpr (.inl h)) (.head _)⟩)⟩ s₁ (fun V V=>False) ok₁) (fun V s₂ z₀=>Z5L z₀ fun g₂ ok₂ l₂ z₀ st1₂=>QD z₀ fun f0'' f1'' hz₂=>?_) fun V V z=>z.elim)
   refine wpAny_bind ?_
   refine wpAny_bind (wpAny_bind (wpAny_onRaise ?_))
   show wpAny _ _ (SmallTypes.nextOf (.ref i1)>>=_) _ _ _
   refine wpAny_bind (I1.done hh st1₂ ok₂ fun e s₃ g₃ ok₃ l₃ ht=>?_)
   have hz₃:g₃.mu z=some (zo f0'' f1'' TI TO):=l₃.mu _ _ hz1 hz₂
   refine wpAny_setField_rec (ok₃.mu _ _ hz₃) (by exact Nat.succ_pos _) fun h' hz' hs'=>?_
   refine stop _ _ e (ok₃.sameBut (tk:=s₃.toks) hz₃ hs' hz') ((l₁.sub (Zr (.head _))).trans ((l₂.sub (Zr (.head _))).trans ((l₃.sub sub1).trans (LeX.setMu.sub (Zr (.head _)))))) ?_
   refine Z4 ht fun oe ho hc=>?_
   have hez:e≠z:=fun x=>by
    rw[x,ok₃.mu _ _ hz₃] at ho
    rw[←Option.some.inj ho] at hc
    exact absurd (Value.type.inj hc) (by decide)
   exact⟨oe,(hs'.2 e hez).trans ho,hc⟩
  |false=>
   refine wpAny_bind ?_
   refine wpAny_bind (wpAny_bind (wpAny_holding ?_))
   show wpAny _ _ (SmallTypes.nextOf (.ref i1)>>=_) _ _ _
   refine wpAny_bind (I1.done hh st1₁ ok₁ fun e s₃ g₃ ok₃ l₃ ht=>?_)
   exact stop g₃ s₃ e ok₃ ((l₁.sub (Zr (.head _))).trans (l₃.sub sub1)) ht
 self:=fun{ds g A Q} st₀ q s E ok=>by
  refine ZP st₀ fun ds1 ds2 e st=>?_
  refine ZP st.z fun f0 f1 hz hown=>?_
  have hT:s.TypeIs (.ref z) "zip":=⟨_,ok.mu _ _ hz,rfl⟩
  refine wpAny_pyIter_slot hT PySem.F.slot_zip_iter (wpAny_call_entry PySem.F.slot_zip_iter hT PySem.F.entry_zip_iter ?_ (PySem.F.args_zip_iter_1 _))
  show wpAny _ _ (ret (.ref z)) _ _ s
  exact wpAny_pure ⟨_,rfl, "zip",_,hT,PySem.F.slot_zip_next.lookup,g,ok,q⟩
 frame:=fun{ds g g' W} st₀ l hw=>ZP st₀ fun ds1 ds2 e st=>⟨ds1,ds2,e,st.frame I1 I2 l hw⟩
 mem:=fun{ds g} st₀=>ZP st₀ fun ds1 ds2 e st=>ZP st.z fun f0 f1 hz V=>Z5K st.TO fun x y m hTO=>
  ZY ⟨_,hz⟩ (ZY ⟨_,hTO⟩ (Zct (I1.mem st.st1) (I2.mem st.st2)))
 cell:=fun{ds g} st₀=>ZP st₀ fun ds1 ds2 e st=>ZP st.z fun f0 f1 hz V=>Z5K st.TO fun x y m hTO=>
  ZY (fun o w e z=>by rw[←J0 hz e] at z;cases z) (ZY (fun o w e z=>by rw[←J0 hTO e] at z;cases z) (Zct (I1.cell st.st1) (I2.cell st.st2)))
end
theorem Y3:(g.setMu a o).setMu a o'=g.setMu a o':=by
 unfold Gh.setMu
 congr 1
 funext x
 by_cases hx:x=a<;>simp[hx]
section
variable{e it:Addr}{T1 R1:List Addr}{St1:List D→Gh→Prop}
end
theorem Gh.Ok.above(ok:g.Ok B s)(h:s.heap.objs.size≤a):g.im a=none∧g.mu a=none:=ok.freshAt h
theorem Z9x(hv:Zu g.im (.lst ds1) v)(hw:Zu g.im (.lst ds2) w)(hlen:ds1.length=ds2.length):gwp K A (call (.type "zip") [v,w]) (fun it g'=>NewIt K [] (zipD ds1 ds2) g it g'∧∃z o,it=.ref z∧g'.mu z=some o∧o.cls=.type "zip") g:=fun s E ok=>by
 refine ZO (Zj.mp hv) ?_
 rintro a its m rfl e rs
 refine ZO (Zj.mp hw) ?_
 rintro b its2 m2 rfl e2 rs2
 refine call_zip_2 ⟨_,ok.im _ _ e,rfl,m,rfl⟩ ⟨_,ok.im _ _ e2,rfl,m2,rfl⟩ fun h' hz hTI hTO hi1 hi2 hsz hk=>?_
 refine Zm hi1 fun o1 ho1 hc1 hd1=>?_
 refine Zm hi2 fun o2 ho2 hc2 hd2=>?_
 generalize hN:s.heap.objs.size=N at *
 have fr:∀k,g.im (N+k)=none∧g.mu (N+k)=none:=fun k=>ok.above (by rw[hN];exact Nat.le_add_right _ _)
 have hB:∀k,K.B.h₀.objs.size≤N+k:=fun k=>Nat.le_trans ok.size (by rw[hN];exact Nat.le_add_right _ _)
 have ok₁:=ok.keeps (tk:=s.toks) hk
 have ok₂:=ok₁.knowIm (a:=N+2) (fr 2).2 (fr 2).1 (hB 2) hTI
 have ok₃:=ok₂.knowMu (a:=N) (show(if N=N+2 then _ else g.im N)=none by rw[if_neg (by lia)];exact(fr 0).1) (hB 0) ho1
 have ok₄:=ok₃.knowMu (a:=N+1) (show(if N+1=N+2 then _ else g.im (N+1))=none by rw[if_neg (by lia)];exact(fr 1).1) (hB 1) ho2
 have ok₅:=ok₄.knowMu (a:=N+3) (show(if N+3=N+2 then _ else g.im (N+3))=none by rw[if_neg (by lia)];exact(fr 3).1) (hB 3) hTO
 have ok₆:=ok₅.knowMu (a:=N+4) (show(if N+4=N+2 then _ else g.im (N+4))=none by rw[if_neg (by lia)];exact(fr 4).1) (hB 4) hz
 generalize hg:((((g.addIm (N+2) (sq "tuple" #[.ref N,.ref (N+1)] 0)).setMu N o1).setMu (N+1) o2).setMu (N+3) (sq "tuple" #[.none,.none] 0)).setMu (N+4) (zo .none (.bool false) (N+2) (N+3))=g₆
 have q1:g₆.mu N=some o1:=by rw[←hg];simp[Gh.setMu,Gh.addIm]
 have q2:g₆.mu (N+1)=some o2:=by rw[←hg];simp[Gh.setMu,Gh.addIm]
 have q3:g₆.mu (N+3)=some (sq "tuple" #[.none,.none] 0):=by rw[←hg];simp[Gh.setMu,Gh.addIm]
 have q4:g₆.mu (N+4)=some (zo .none (.bool false) (N+2) (N+3)):=by rw[←hg];exact ZcI
 have q5:g₆.im (N+2)=some (sq "tuple" #[.ref N,.ref (N+1)] 0):=by rw[←hg];exact ZcJ
 have l:Le g g₆:=by
  rw[←hg]
  refine(Le.addIm (fr 2).1).trans ((ZcL ?_).trans ((ZcL ?_).trans ((ZcL ?_).trans (ZcL ?_))))
  ·exact(fr 0).2
  ·simp[Gh.setMu,Gh.addIm];exact(fr 1).2
  ·simp[Gh.setMu,Gh.addIm];exact(fr 3).2
  ·simp[Gh.setMu,Gh.addIm];exact(fr 4).2
 refine⟨g₆,?_,⟨l,_,_,It.zip (z:=N+4) (TI:=N+2) (TO:=N+3) (ItN.list (it:=N)) (ItN.list (it:=N+1)) (by simp) (by exact ZZ),⟨ds1,ds2,rfl,⟨_,_,q4,.inl rfl⟩,⟨_,_,_,q3⟩,⟨_,q5⟩,hlen,⟨o1,a,0,its,m,q1,⟨hc1,hd1⟩,.inl (l.im _ _ e),by rw[List.drop_zero];exact rs.le l⟩,⟨o2,b,0,its2,m2,q2,⟨hc2,hd2⟩,.inl (l.im _ _ e2),by rw[List.drop_zero];exact rs2.le l⟩⟩,fun c hc'=>?_⟩,N+4,_,rfl,q4,rfl⟩
 ·rw[←hg];exact ok₆
 ·simp at hc'
  rcases hc' with rfl | rfl | rfl | rfl
  ·exact⟨(fr 4).2,by exact List.not_mem_nil⟩
  ·exact⟨(fr 3).2,by exact List.not_mem_nil⟩
  ·exact⟨(fr 0).2,by exact List.not_mem_nil⟩
  ·exact⟨(fr 1).2,by exact List.not_mem_nil⟩
noncomputable abbrev rgO(x l:Nat):Obj:={cls:=.type "range_iterator",dict:=none,data:=.fields #[rawInt x,rawInt l,rawInt 1],slots:=#[]}
noncomputable def rgD(x l:Nat):List D:=(List.range' x l).map fun(i:Nat)=>D.int i
noncomputable def MO.rgi(ds:List D):MO:=⟨fun V o=>∃x l:Nat,ds=rgD x l∧o=rgO x l,fun V V V V h=>h⟩
theorem It.range:It K (.ref it) [it] [] (fun ds g=>∃o,g.mu it=some o∧(MO.rgi ds).P g.im o) where
 item:=fun{d ds g A} hh st s E ok=>by
  obtain⟨o,h1,x,l,e,rfl⟩:=st
  cases l with
  |zero=>cases e
  |succ l=>
   have e':d::ds=D.int x::rgD (x+1) l:=e
   cases e'
   refine wpAny_pyNext_range_item (ok.mu _ _ h1) (by lia) fun h' hit' hs=>?_
   have hit2:h'.get? it=some (rgO (x+1) l):=by
    have:=hit'
    rw[show((l+1:Nat):Int)-1=(l:Nat) by lia] at this
    exact this
   have ok':=ok.sameBut (tk:=s.toks+1) h1 hs hit2
   refine⟨_,ok',LeX.setMu,_,rfl,Zp,fun target A=>?_⟩
   exact Je (a:=it) (.inr ZcI) rfl rfl (by decide) ⟨LeX.refl _ _,_,ZcI,x+1,l,rfl,rfl⟩
 done:=fun{g A} hh st s E ok=>by
  obtain⟨o,h1,x,l,e,rfl⟩:=st
  cases l with
  |succ l=>cases e
  |zero=>exact wpAny_pyNext_range_end hh (ok.mu _ _ h1) (by decide) fun h' he=>⟨_,ok.lost (tk:=s.toks) h1 he,LeX.drop,rfl⟩
 self:=fun{ds g A Q} st q s E ok=>by
  obtain⟨o,h1,x,l,e,rfl⟩:=st
  have hT:s.TypeIs (.ref it) "range_iterator":=⟨_,ok.mu _ _ h1,rfl⟩
  refine wpAny_pyIter_slot hT PySem.F.slot_range_iterator_iter (wpAny_call_entry PySem.F.slot_range_iterator_iter hT PySem.F.entry_range_iterator_iter ?_ (PySem.F.args_range_iterator_iter_1 _))
  show wpAny _ _ (ret (.ref it)) _ _ s
  exact wpAny_pure ⟨_,rfl, "range_iterator",_,hT,PySem.F.slot_range_iterator_next.lookup,⟨g,ok,q⟩⟩
 frame:=fun{ds g g' W} st l hw=>by
  refine Z4 st fun o h1 h2=>?_
  exact⟨o,l.mu _ _ (fun h=>(hw _ h).1 (by exact .head _)) h1,h2⟩
 mem:=fun{ds g} st=>Zr (Z4 st fun o h1 V=>⟨o,h1⟩)
 cell:=fun{ds g} st=>Zr (fun o' w e=>Z4 st fun o h1 z=>ZP z fun x l V e' z=>by rw[←J0 h1 e,e'] at z;cases z)
theorem ItM.range:ItM K (.ref a) [a] (fun ds=>[(a,MO.rgi ds)]):=Zd1 It.range (fun ds g=>Iff.rfl) (by rintro ds im o w ⟨x,l,V,rfl⟩;intro z;cases z)
theorem Z4w(h1:-1000000000≤k)(h2:k≤1000000000):Builtin.Range.small 0 k 1=true:=by
 delta Builtin.Range.small
 rw[rangeSize_one]
 delta Builtin.Range.rangeFitsLong
 split<;>simp<;>lia
theorem ZS(hf:Pe K n g (eval func env) (.raw (.type "range")))(ha:Pe K n g (eval arg env) (.int k))(h1:-1000000000≤k)(h2:k≤1000000000)
  (hst:autoParam (starEach [arg] env=[(false,eval arg env)]) Z5)
  (hp:autoParam ((backTo pos (starEach [arg] env)).any (·.1)=false) Z5)
  (he:autoParam (eval (.Call func [arg] [] pos) env=(do callWith pos (←eval func env) [] (backTo pos (starEach [arg] env)) (backToKw pos (keywordEach [] env)))) Z5):PItM K n g (.Call func [arg] [] pos) env (rgD 0 k.toNat):=fun A r g₁ l=>
 YH r (hf.le l) (by intro a z;cases z) (fun g' l'=>Pv.use ((Z1 (ha.le l) Z2 hst).le l') r fun vs g₂ l₂ rs=>by
  refine Z4 (Jo rs) ?_
  rintro v rfl h3
  refine Zi (Zo h3) ?_
  rintro t rfl
  intro s E ok
  refine call_range_1 ?_
  have ok₁:=(ok.pushIm (o:={cls:=.type "range",data:=.fields #[.int 0 s.toks,.int k t,.int 1 (s.toks+1)]}) rfl).tok (s.toks+1+1)
  have l₁:Le g₂ (g₂.addIm s.heap.objs.size {cls:=.type "range",data:=.fields #[.int 0 s.toks,.int k t,.int 1 (s.toks+1)]}):=Le.addIm ok.fresh.1
  refine⟨_,ok₁,?_⟩
  clear rs h3
  intro s₂ E₂ ok₂
  refine wpAny_pyIter_range (ok₂.im _ _ ZcJ) (Z4w h1 h2) ?_
  rw[rangeSize_one]
  have hsz:(if(0:Int)<k then k-0 else 0)=(k.toNat:Int):=by split<;>lia
  rw[hsz]
  have hi:=ZcW (K:=K) ok₂ (o:=rgO 0 k.toNat) (ds:=rgD 0 k.toNat) (ItM.range) ⟨0,k.toNat,rfl,rfl⟩
  obtain⟨x1,T,ms,x2,x3,x4⟩:=hi
  exact⟨_,ok₂.pushMu (o:=rgO 0 k.toNat) rfl,((l'.trans l₂).trans l₁).trans x1,T,ms,x2,x3,fun a ha=>Le.nomu ((l'.trans l₂).trans l₁) (x4 a ha)⟩) hp he
theorem J9(x l:Nat):(rgD x l).length=l:=by simp[rgD]
theorem Z65(h:ItemsOf (SignAt (S x)) acc (S x).cps.size):Z7 im (x.map fun c=>D.str [c]) acc.toList:=by
 refine ZG h fun h1 h2=>?_
 have h1':acc.size=x.length:=h1.trans (Jp x)
 have key:∀(x:List Nat) (l:List Value),l.length=x.length→(∀(j:Nat) v,l[j]? = some v→∃c u,x[j]? = some c∧v=.str ⟨#[c]⟩ u)→Z7 im (x.map fun c=>D.str [c]) l:=by
  intro x
  induction x with
  |nil=>intro l hl V;cases l with
   |nil=>exact Z7.nil
   |cons _ _=>simp at hl
  |cons c x ih=>
   intro l hl hh
   cases l with
   |nil=>simp at hl
   |cons v l=>
    refine ZP (hh 0 v rfl) fun c' u e1 e2=>?_
    simp at e1;subst e1;subst e2
    exact Z7.cons ZU (ih l (by exact Nat.succ.inj hl) fun j v hv=>by
     refine ZP (hh (j+1) v (by exact hv)) fun c' u e1 e2=>?_
     exact⟨c',u,by exact e1,e2⟩)
 refine key x acc.toList (by exact h1') fun j v hv=>?_
 refine ZP (h2 j v (by simpa using hv)) fun c u e1 e2=>?_
 exact⟨c,u,by simpa [S] using e1,e2⟩
theorem Z12(hh:A.handled=none)(hv:Zu g.im (.str x) v)(hsz:x.length≤sizeLine)(q:∀a its m,g.im a=none→g.mu a=none→Z7 g.im (x.map fun c=>D.str [c]) its.toList→Q (.ref a) (g.setMu a (sq "list" its m))):gwp K A (call (.type "list") [v]) Q g:=fun s E ok=>by
 refine Zi (Zz hv) ?_
 rintro t rfl
 refine call_list_str hh (S x) t (fun h' tk acc c hk hS hacc=>?_) (by rw[show(S x).cps.size=x.length from Jp x];exact hsz)
 exact⟨_,ok.extMu hk hS,q _ acc c ok.fresh.1 ok.fresh.2 (Z65 hacc)⟩
theorem Z1u(m:Nat):sliceRange ((m:Int)-1) (-1) (-1)=(List.range m).map fun k=>m-1-k:=by
 delta sliceRange
 simp only[show¬((-1:Int)>0) from by decide,if_false]
 have:(if(m:Int)-1 > -1 then((m:Int)-1 - -1 - -1-1) / -(-1) else 0).toNat=m:=by
  split
  ·rw[show -(-1:Int)=1 from rfl,Int.ediv_one];lia
  ·lia
 rw[this]
 refine List.map_congr_left fun k hk=>?_
 have h:=Nat.le_sub_one_of_lt (List.mem_range.mp hk)
 have h1:=Nat.lt_of_le_of_lt (Nat.zero_le _) (List.mem_range.mp hk)
 rw[Int.neg_one_mul,←Int.sub_eq_add_neg,show(m:Int)-1=((m-1:Nat):Int) from(Int.ofNat_sub h1).symm,←Int.ofNat_sub h,Int.toNat_natCast]
theorem Z8O{γ:Type}(l:List γ):((List.range l.length).map fun k=>l.length-1-k).filterMap (l[·]?)=l.reverse:=by
 rw[List.filterMap_map]
 have:∀(m:Nat),m≤l.length→(List.range m).filterMap ((l[·]?)∘fun k=>l.length-1-k)=l.reverse.take m:=by
  intro m
  induction m with
  |zero=>intro V;simp
  |succ m ih=>
   intro hm
   rw[List.range_succ,List.filterMap_append,ih (by exact Nat.le_of_lt ‹_›),List.take_add_one]
   congr 1
   have h1:l.length-1-m<l.length:=Nat.lt_of_le_of_lt (Nat.sub_le _ _) (Nat.sub_lt (Nat.lt_of_lt_of_le (Nat.succ_pos m) hm) (by decide))
   dsimp only[List.filterMap_cons,List.filterMap_nil,Function.comp]
   rw[List.getElem?_reverse (by assumption)]
   rw[List.getElem?_eq_getElem h1]
   rfl
 rw[this _ (Nat.le_refl _)]
 rw[←List.length_reverse,List.take_length]
end
section
open PySem PySem.Spec PySem.Calls PyProof.Rows PySem.W PySem.SeqAt
variable{K:Wd}{A:Around}{g:Gh}{n:Nat}{env:Env}{α:Type}
variable{b:Gh}{S':List Addr}{fn:List Nat}{cs:List Addr}{nm:List (Str×NameKind)}{σ σ':List (Option D)}{own:List (Addr×MO)}
theorem Z3E(hy:0≤y)(h2:y≤1000000)(hx:x.natAbs<2^64):OpSem K n g (binaryOp .Pow) (.int x) (.int y) (.int (x^y.toNat)):=JR fun g A s E t u r ok=>pow_int_small hy h2 hx ⟨g,ok.tok _,LeX.refl _ _,Zp⟩
noncomputable def bl(T:Nat):Nat:=Builtin.Int.intBits (T:Int)
theorem Zcs(T:Nat):T<2^bl T:=Z1i T
theorem ZbK(x:Int):Builtin.Int.intBits x=Builtin.Int.intBits (x.natAbs:Int):=by
 unfold Builtin.Int.intBits;simp
theorem JN(hx:x.natAbs<2^40)(hy:y.natAbs<2^40):IntMulOk x y:=IntMulOk.of_left (show Builtin.Int.intBits x≤64 by rw[ZbK];exact Nat.le_trans (Q1 hx) (by decide))
theorem Z2a(h:T≤6000):bl T≤13:=Q1 (k:=13) (by exact Nat.lt_of_le_of_lt h (by decide))
theorem Z9R(h:0<T):1≤bl T:=Z2b (by exact Nat.ne_of_gt ‹_›)
noncomputable def halfF(T:Nat):Nat:=2^(2*bl T-1)
theorem Z0w(h:0<T):2*halfF T=2^(2*bl T):=by
 have:=Z9R h
 unfold halfF
 rw[Nat.mul_comm,←Nat.pow_succ,Nat.succ_eq_add_one,Nat.sub_add_cancel (Nat.le_trans this (Nat.le_mul_of_pos_left _ (by decide)))]
theorem Z9u(h:T≤6000):halfF T≤2^25:=Nat.pow_le_pow_right (by decide) (Nat.sub_le_sub_right (Nat.mul_le_mul_left 2 (Z2a h)) 1)
theorem Z9M{m T:Nat}(hT:0<T)(ht:t=1∨t = -1):(t*(halfF T:Int)*((m:Int)-T)).fdiv (t*T)=((pre m T (2*bl T):Nat):Int)-halfF T∧2*t*(t*(halfF T:Int)*((m:Int)-T)).fmod (t*T)=((leftF m T (2*bl T):Nat):Int):=by
 have h0:(T:Int)≠0:=Int.ne_of_gt (Int.ofNat_lt.mpr hT)
 have e1:pre m T (2*bl T)=halfF T*m/T:=by
  unfold pre;rw[←Z0w hT,Nat.mul_assoc,Nat.mul_div_mul_left _ _ (by decide)]
 have e2:leftF m T (2*bl T)=2*(halfF T*m%T):=by
  unfold leftF;rw[←Z0w hT,Nat.mul_assoc,Nat.mul_mod_mul_left]
 have hX:(halfF T:Int)*((m:Int)-T)=((halfF T*m:Nat):Int) + -(halfF T:Int)*T:=by rw[Int.mul_sub,Int.natCast_mul,Int.neg_mul];exact rfl
 have d1:((halfF T:Int)*((m:Int)-T)).fdiv T=((pre m T (2*bl T):Nat):Int)-halfF T:=by
  rw[hX,Int.add_mul_fdiv_right _ _ h0,e1,Int.fdiv_eq_ediv_of_nonneg _ (by exact Int.natCast_nonneg _)];rfl
 have d2:((halfF T:Int)*((m:Int)-T)).fmod T=((halfF T*m%T:Nat):Int):=by
  rw[hX,Int.add_mul_fmod_self_right,Int.fmod_eq_emod_of_nonneg _ (by exact Int.natCast_nonneg _)];rfl
 rcases ht with rfl | rfl
 ·rw[Int.one_mul,Int.one_mul,d1,d2,e2]
  exact⟨rfl,by push_cast;rfl⟩
 ·rw[Int.neg_mul,Int.one_mul,Int.neg_mul,Int.neg_mul,Int.one_mul,Int.neg_fdiv_neg,Int.neg_fmod_neg,d1,d2,e2]
  exact⟨rfl,by push_cast;lia⟩
theorem Z9n(hT:0<T):leftF m T k<2*T:=Z3M hT
theorem Z8M(hT:0<T)(hm:m<2*T):(digsD 1 (2^(2*bl T)+pre m T (2*bl T)) (nd 1 (2^(2*bl T)+pre m T (2*bl T)))).reverse=(rowF m T (bl T)).map fun x:Nat=>.int x:=by
 rw[Z9S hT hm]
 apply List.ext_getElem?
 intro k
 rcases Nat.lt_or_ge k (2*bl T+1) with hk | hk
 ·rw[List.getElem?_map,Zay hT hm hk,List.getElem?_reverse (by rw[ZL];exact hk),ZL,digsD,List.getElem?_map,List.getElem?_range (Nat.sub_one_sub_lt_of_lt hk)]
  simp only[Option.map_some]
  congr 4
 ·rw[List.getElem?_eq_none (by rw[List.length_reverse,ZL];exact hk),List.getElem?_eq_none (by simp[rowF];exact hk)]
theorem Z8Z{γ:Type}(l:List γ):pick l none none (some (-1))=l.reverse:=by
 delta pick
 rw[show sliceBounds none none (some (-1)) l.length=((l.length:Int)-1,-1,-1) from rfl,Z1u,Z8O]
theorem Z2g(X:WX K){m T:Nat}(ht:t=1∨t = -1)(hT:0<T)(hT2:T≤6000)(hm:m<2*T):CallSem K (n+300) g (.ref a_law_divided) [.int m,.int T,.int t] (.tup [.lst ((rowF m T (bl T)).map fun x:Nat=>.int x),.int (leftF m T (2*bl T):Nat)]):=fun g V vs hvs A r g₁ l=>by
 refine cps fun Q₀ k₀=>?_
 refine Jk (Z1w hvs) fun v1 v2 v3 e r1 r2 r3=>?_
 clear hvs;subst e
 have hb:=Z9R hT
 have hb2:=Z2a hT2
 have hh:=Z9u hT2
 have hp:=Z6e (k:=2*bl T) hT hm
 refine ZG (Z9M (m:=m) hT ht) fun q1 q2=>?_
 have habs:t.natAbs=1:=by rcases ht with rfl | rfl<;>rfl
 refine Zh (n:=n+298) (fn:=[]) (S':=[]) (binds:=[("middle",v1),("total",v2),("turn",v3)]) (bi:=[(0,.int m),(1,.int T),(2,.int t)]) X.f_law_divided r (Ze (by rfl)) Z1G Z1t (Z3 X.gt Z22)
  ⟨.inl rfl,r1.le l,.inl rfl,r2.le l,.inl rfl,r3.le l,trivial⟩ fun A' L cells cs g' r' H=>?_
 refine Jc H r' (i:=3) (d:=.int (halfF T:Nat)) rfl ((Z8 Z9 (Z8 (Z8 Z9 (Ja F.plainAttrs_int F.slot_int_bit_length F.type_int_bit_length (pn H 1) Z2 Ju) (Jq ?_)) Z9 Qm) (Z3E ?_ ?_ (by decide))).is ?_) fun g₂ l₂ H=>?_
 ·exact IntMulOk.of_left (by decide)
 ·exact Int.sub_nonneg_of_le (Int.ofNat_le.mpr (Nat.le_trans hb (Nat.le_mul_of_pos_left _ (by decide))))
 ·exact Int.le_trans (Int.sub_le_self _ (by decide)) (Int.le_trans (Int.ofNat_le.mpr (Nat.mul_le_mul_left 2 hb2)) (by decide))
 ·show D.int ((2:Int)^(2*(bl T:Int)-1).toNat)=_
  rw[show(2*(bl T:Int)-1)=((2*bl T-1:Nat):Int) from(Int.ofNat_sub (Nat.le_trans hb (Nat.le_mul_of_pos_left _ (by decide)))).symm,Int.toNat_natCast]
  unfold halfF;push_cast;rfl
 refine Yr (d₁:=.int (((pre m T (2*bl T):Nat):Int)-halfF T)) (d₂:=.int ((t*(halfF T:Int)*((m:Int)-T)).fmod (t*T))) H r' (ZJ (pn H 6) X.f_idm (Z1 (Z8 (Z8 (pn H 2) (pn H 3) (Jq ?_)) (Z8 (pn H 0) (pn H 1) Qm) (Jq ?_)) (Z1 (Z8 (pn H 2) (pn H 1) (Jq ?_)) Z2)) ?_) (Tgt.pair (Tgt.loc (i:=4) rfl) (Tgt.loc (i:=5) rfl)) fun g₃ l₃ H=>?_
 ·exact JN (by rw[habs];decide) (by rw[Int.natAbs_natCast];exact Nat.lt_of_le_of_lt hh (by decide))
 ·exact JN (by rw[Int.natAbs_mul,habs,Int.natAbs_natCast];lia) (by exact Nat.lt_of_le_of_lt (show _≤2*6000+6000 from Nat.le_trans (Int.natAbs_sub_le _ _) (Nat.add_le_add (Nat.le_trans (Nat.le_of_lt hm) (Nat.mul_le_mul_left 2 hT2)) hT2)) (by decide))
 ·exact JN (by rw[habs];decide) (by rw[Int.natAbs_natCast];exact Nat.lt_of_le_of_lt hT2 (by decide))
 ·rw[←q1]
  refine Z3f X (n:=n+6) (a:=t*(halfF T:Int)*((m:Int)-T)) (b:=t*T) ?_ ?_ ?_
  ·rw[Int.natAbs_mul,Int.natAbs_mul,habs,Int.natAbs_natCast,Nat.one_mul]
   have h1:((m:Int)-T).natAbs≤2*6000+6000:=Nat.le_trans (Int.natAbs_sub_le _ _) (Nat.add_le_add (Nat.le_trans (Nat.le_of_lt hm) (Nat.mul_le_mul_left 2 hT2)) hT2)
   have:=Nat.mul_le_mul hh h1
   exact Nat.lt_of_le_of_lt this (by decide)
  ·exact Int.mul_ne_zero (by rcases ht with rfl | rfl<;>decide) (Int.ne_of_gt (Int.ofNat_lt.mpr hT))
  ·rw[Int.natAbs_mul,habs,Int.natAbs_natCast,Nat.one_mul];exact Nat.lt_of_le_of_lt hT2 (by decide)
 have hp2:2^(2*bl T)≤2^26:=Nat.pow_le_pow_right (by decide) (by exact Nat.mul_le_mul_left _ hb2)
 have hnd:=Z9S (b:=bl T) hT hm
 refine ZM r' (J4 (Z1 ((Q5 (ZJ (pn H 7) X.f_i2d (Z1 ((Z8 (pn H 4) (Z8 Z9 (pn H 3) (Jq ?_)) ZQ).is (d':=.int ((2^(2*bl T)+pre m T (2*bl T):Nat):Int)) ?_) (Z1 Z9 Z2)) (Z01 X (n:=n+28) (a:=2^(2*bl T)+pre m T (2*bl T)) (m:=1) (by decide) (by decide) ?_ ?_)) J2 J2 (Qd (QY Z9 QJ)) ?_ ?_).is ?_) (Z1 ((Z8 (Z8 Z9 (pn H 2) (Jq ?_)) (pn H 5) (Jq ?_)).is ?_) Z2))) fun v g₄ l₄ hv=>k₀ _ _ ⟨H.le.trans l₄,hv⟩
 ·exact JN (by decide) (by rw[Int.natAbs_natCast];exact Nat.lt_of_le_of_lt hh (by decide))
 ·have:=Z0w hT
  refine congrArg D.int ?_
  rw[←this];push_cast;lia
 ·exact Nat.lt_of_lt_of_le (Nat.add_lt_add_left hp _) (Nat.le_trans (Nat.add_le_add hp2 hp2) (by decide))
 ·rw[Nat.one_mul,hnd];exact Nat.le_trans (Nat.succ_le_succ (Nat.mul_le_mul_left 2 hb2)) (by decide)
 ·exact fun h=>by cases h
 ·rw[ZL,hnd];exact Nat.le_trans (Nat.succ_le_succ (Nat.mul_le_mul_left 2 hb2)) (by decide)
 ·rw[Z8Z,Z8M hT hm]
 ·exact JN (by decide) (by rw[habs];decide)
 ·refine JN (by rw[Int.natAbs_mul,habs];decide) ?_
  have h1:=Z9n (m:=m) (k:=2*bl T) hT
  have h2:=congrArg Int.natAbs q2
  rw[Int.natAbs_mul,Int.natAbs_mul,habs,Int.natAbs_natCast] at h2
  exact Nat.lt_of_le_of_lt (Nat.le_trans (Nat.le_mul_of_pos_left _ (by decide)) (Nat.le_of_eq h2)) (Nat.lt_trans h1 (Nat.lt_of_le_of_lt (Nat.mul_le_mul_left 2 hT2) (by decide)))
 ·exact congrArg D.int q2
end
section
open PySem
noncomputable def placeF(r r':List Nat):Nat:=(List.zipWith (fun x y=>!(x==y)) r r').idxOf true
theorem Y4(m T b:Nat):(rowF m T b).length=2*b+1:=by simp[rowF]
theorem Z4z(h:j<2*b):(rowF m T b)[j+1]? = some (fig m T j):=by
 show((List.range (2*b)).map (fig m T))[j]? = _
 rw[List.getElem?_map,List.getElem?_range h];rfl
theorem Z6O:fig m T j<2:=Nat.mod_lt _ (by decide)
theorem Z4M(hT:0<T)(h:j≤k)(e:pre m T k=pre m' T k):pre m T j=pre m' T j:=by
 rw[←Z3w hT h,←Z3w hT h,e]
theorem Qv(h:m≤m'):pre m T k≤pre m' T k:=Nat.div_le_div_right (Nat.mul_le_mul_left _ h)
theorem Z4L(hT:0<T)(h0:pre m T 0=pre m' T 0)(h:∀i,i<j→fig m T i=fig m' T i):pre m T j=pre m' T j:=by
 induction j with
 |zero=>exact h0
 |succ j ih=>rw[Q3 hT,Q3 hT,ih fun i hi=>h i (by exact Nat.lt_succ_of_lt hi),h j (by exact Nat.le_refl _)]
theorem Z4K(hm:m<2*T):pre m T 0=0:=by
 unfold pre;rw[Nat.pow_zero,Nat.one_mul];exact Nat.div_eq_of_lt hm
theorem Z6f(hT:0<T)(hm:m<2*T)(hm':m'<2*T)(hd:pre m T (2*b)≠pre m' T (2*b)) :
  1≤placeF (rowF m T b) (rowF m' T b)∧placeF (rowF m T b) (rowF m' T b)≤2*b∧∀j,j≤2*b→(pre m T j=pre m' T j↔j<placeF (rowF m T b) (rowF m' T b)):=by
 have hz:∀j,j<2*b→(List.zipWith (fun x y=>!(x==y)) (rowF m T b) (rowF m' T b))[j+1]? = some (!(fig m T j==fig m' T j)):=fun j hj=>by
  rw[List.getElem?_zipWith,Z4z hj,Z4z hj]
 have hz0:(List.zipWith (fun x y=>!(x==y)) (rowF m T b) (rowF m' T b))[0]? = some false:=rfl
 have hlen:(List.zipWith (fun x y=>!(x==y)) (rowF m T b) (rowF m' T b)).length=2*b+1:=by rw[List.length_zipWith,Y4,Y4,Nat.min_self]
 have h00:pre m T 0=pre m' T 0:=by rw[Z4K hm,Z4K hm']
 have hex:∃j,j<2*b∧fig m T j≠fig m' T j:=Classical.byContradiction fun h=>hd (Z4L hT h00 fun i hi=>Classical.byContradiction fun e=>h ⟨i,hi,e⟩)
 obtain⟨j,hj,hne⟩:=hex
 have hmem:true∈List.zipWith (fun x y=>!(x==y)) (rowF m T b) (rowF m' T b):=List.mem_of_getElem? (i:=j+1) (by rw[hz j hj,beq_eq_false_iff_ne.mpr hne];rfl)
 have hlt:=List.idxOf_lt_length_of_mem hmem
 have hat:=List.getElem_idxOf hlt
 have hbef:∀i,i<placeF (rowF m T b) (rowF m' T b)→(List.zipWith (fun x y=>!(x==y)) (rowF m T b) (rowF m' T b))[i]?≠some true:=fun i hi e=>by
  have:=List.not_of_lt_findIdx (p:=(· == true)) hi
  rw[List.getElem?_eq_getElem (Nat.lt_trans hi hlt)] at e
  rw[Option.some.inj e] at this
  cases this
 have hat':(List.zipWith (fun x y=>!(x==y)) (rowF m T b) (rowF m' T b))[placeF (rowF m T b) (rowF m' T b)]? = some true:=by
  show(List.zipWith (fun x y=>!(x==y)) (rowF m T b) (rowF m' T b))[List.idxOf true (List.zipWith (fun x y=>!(x==y)) (rowF m T b) (rowF m' T b))]? = some true
  rw[List.getElem?_eq_getElem hlt];exact congrArg some hat
 clear hat
 change placeF (rowF m T b) (rowF m' T b)<_ at hlt
 generalize placeF (rowF m T b) (rowF m' T b)=p at *
 have hp1:1≤p:=by
  rcases p with V | p
  ·rw[hz0] at hat';cases hat'
  ·exact Nat.succ_pos _
 obtain⟨q,rfl⟩:∃q,p=q+1:=⟨p-1,by exact(Nat.sub_add_cancel hp1).symm⟩
 have hq:q<2*b:=Nat.lt_of_succ_lt_succ (Nat.lt_of_lt_of_eq hlt hlen)
 have hfq:fig m T q≠fig m' T q:=fun e=>by
  rw[hz q hq,e,beq_self_eq_true] at hat';cases hat'
 have hbf:∀i,i<q→fig m T i=fig m' T i:=fun i hi=>Classical.byContradiction fun e=>hbef (i+1) (by exact Nat.lt_succ_of_le hi) (by rw[hz i (by exact Nat.lt_trans hi hq),beq_eq_false_iff_ne.mpr e];rfl)
 have hpq:=Z4L hT h00 hbf
 refine⟨hp1,by exact hq,fun j hj=>⟨fun e=>Nat.lt_of_not_le fun hle=>?_,fun h=>Z4M hT (by exact Nat.le_of_lt_succ h) hpq⟩⟩
 have h2:=Z4M hT hle e
 rw[Q3 hT,Q3 hT,hpq] at h2
 exact hfq (by lia)
theorem Z7F(hT:0<T)(hb:T≤2^b)(h:m+2≤m'):pre m T (2*b)≠pre m' T (2*b):=by
 refine Nat.ne_of_lt ?_
 unfold pre
 have h1:2^(2*b)*m+2*T≤2^(2*b)*m':=by
  have h2:2^(2*b)*(m+2)≤2^(2*b)*m':=Nat.mul_le_mul_left _ h
  have h3:2^b≤2^(2*b):=Nat.pow_le_pow_right (by decide) (by lia)
  rw[Nat.mul_add] at h2
  exact Nat.le_trans (Nat.add_le_add_left (Nat.le_trans (Nat.le_of_eq (Nat.mul_comm 2 T)) (Nat.mul_le_mul_right 2 (Nat.le_trans hb h3))) _) h2
 have h4:=Nat.div_le_div_right (c:=2*T) h1
 rw[Nat.add_div_right _ (by lia)] at h4
 exact h4
section
variable{M:Nat→Nat}{T b n:Nat}
structure Mids(M:Nat→Nat)(T b n:Nat):Prop where
 pos:0<T
 big:T≤2^b
 lt:∀k,k<n→M k<2*T
 up:∀k,k+1<n→M k+2≤M (k+1)
noncomputable def powF(M:Nat→Nat)(T b k:Nat):Nat:=placeF (rowF (M k) T b) (rowF (M (k+1)) T b)
theorem Mids.mono(h:Mids M T b n)(hk:i+k<n):M i≤M (i+k):=by
 induction k with
 |zero=>exact Nat.le_refl _
 |succ k ih=>exact Nat.le_trans (ih (by exact Nat.le_of_lt hk)) (Nat.le_trans (Nat.le_add_right _ 2) (h.up (i+k) hk))
theorem Mids.mono'(h:Mids M T b n)(hik:i≤k)(hk:k<n):M i≤M k:=by
 obtain⟨d,rfl⟩:=Nat.exists_eq_add_of_le hik
 exact h.mono hk
theorem Mids.two(h:Mids M T b n)(hik:i<k)(hk:k<n):M i+2≤M k:=Nat.le_trans (h.up i (by exact Nat.lt_of_le_of_lt hik hk)) (h.mono' (i:=i+1) hik hk)
theorem Mids.place(h:Mids M T b n)(hik:i<k)(hk:k<n) :
  1≤placeF (rowF (M i) T b) (rowF (M k) T b)∧placeF (rowF (M i) T b) (rowF (M k) T b)≤2*b∧∀j,j≤2*b→(pre (M i) T j=pre (M k) T j↔j<placeF (rowF (M i) T b) (rowF (M k) T b)):=
 Z6f h.pos (h.lt i (by exact Nat.lt_trans hik hk)) (h.lt k hk) (Z7F h.pos h.big (h.two hik hk))
theorem Mids.least(h:Mids M T b n)(hik:i≤k)(hk:k+1<n)(hj:j≤2*b):j<placeF (rowF (M i) T b) (rowF (M (k+1)) T b)↔∀t,i≤t→t≤k→j<powF M T b t:=by
 rw[←(h.place (i:=i) (k:=k+1) (by exact Nat.lt_succ_of_le hik) hk).2.2 j hj]
 constructor
 ·intro e t h1 h2
  refine((h.place (i:=t) (k:=t+1) (by exact Nat.le_refl _) (by lia)).2.2 j hj).mp ?_
  have a1:=Qv (T:=T) (k:=j) (h.mono' (i:=i) (k:=t) h1 (by lia))
  have a2:=Qv (T:=T) (k:=j) (h.mono' (i:=t) (k:=t+1) (by exact Nat.le_succ _) (by lia))
  have a3:=Qv (T:=T) (k:=j) (h.mono' (i:=t+1) (k:=k+1) (by exact Nat.lt_succ_of_le h2) hk)
  lia
 ·intro ht
  have:∀d,i+d≤k+1→pre (M i) T j=pre (M (i+d)) T j:=fun d=>by
   induction d with
   |zero=>intro V;rfl
   |succ d ih=>
    intro hd
    exact(ih (by exact Nat.le_of_lt hd)).trans (((h.place (i:=i+d) (k:=i+d+1) (by exact Nat.le_refl _) (by exact Nat.lt_of_le_of_lt hd hk)).2.2 j hj).mpr (ht (i+d) (by exact Nat.le_add_right _ _) (by exact Nat.le_of_lt_succ hd)))
  have e:=this (k+1-i) (by lia)
  rwa [Nat.add_sub_cancel' (Nat.le_succ_of_le hik)] at e
theorem Mids.sep(h:Mids M T b n)(hik:i<k)(hk:k+1<n)(e:powF M T b i=powF M T b k):∃t,i<t∧t<k∧powF M T b t<powF M T b i:=by
 refine Classical.byContradiction fun hno=>?_
 obtain⟨p1,p2,p3⟩:=h.place (i:=i) (k:=i+1) (by exact Nat.le_refl _) (Nat.lt_of_le_of_lt hik (Nat.lt_of_succ_lt hk))
 obtain⟨q1,q2,q3⟩:=h.place (i:=k) (k:=k+1) (by exact Nat.le_refl _) hk
 change 1≤powF M T b i at p1;change powF M T b i≤2*b at p2;change∀j,j≤2*b→(_↔j<powF M T b i) at p3
 change∀j,j≤2*b→(_↔j<powF M T b k) at q3
 obtain⟨c,hc⟩:∃c,powF M T b i=c+1:=⟨powF M T b i-1,by exact(Nat.sub_add_cancel p1).symm⟩
 have hall:∀t,i≤t→t≤k→c<powF M T b t:=fun t h1 h2=>by
  rcases Nat.lt_or_ge i t with h3 | h3
  ·rcases Nat.lt_or_ge t k with h4 | h4
   ·have:=fun z=>hno ⟨t,h3,h4,z⟩
    exact Nat.lt_of_lt_of_le (Nat.lt_of_lt_of_le (Nat.lt_succ_self c) (Nat.le_of_eq hc.symm)) (Nat.le_of_not_lt this)
   ·rw[show t=k by exact Nat.le_antisymm h2 h4,←e];exact Nat.le_of_eq (Eq.symm hc)
  ·rw[show t=i by exact Nat.le_antisymm h3 h1];exact Nat.le_of_eq (Eq.symm hc)
 have hz:=(h.least (i:=i) (k:=k) (j:=c) (by exact Nat.le_of_lt hik) hk (Nat.le_of_lt (by rw[hc] at p2;exact p2))).mpr hall
 have z1:=((h.place (i:=i) (k:=k+1) (by exact Nat.lt_succ_of_lt hik) hk).2.2 c (Nat.le_of_lt (by rw[hc] at p2;exact p2))).mpr hz
 have n1:pre (M i) T (c+1)≠pre (M (i+1)) T (c+1):=fun z=>by have:=(p3 (c+1) (by exact hc▸p2)).mp z;exact Nat.lt_irrefl _ (Nat.lt_of_lt_of_le this (Nat.le_of_eq hc))
 have n2:pre (M k) T (c+1)≠pre (M (k+1)) T (c+1):=fun z=>by have:=(q3 (c+1) (by exact hc▸p2)).mp z;exact Nat.lt_irrefl _ (Nat.lt_of_lt_of_le this (Nat.le_of_eq (e.symm.trans hc)))
 have a1:=Qv (T:=T) (k:=c+1) (h.mono' (i:=i) (k:=i+1) (by exact Nat.le_succ _) (Nat.lt_of_le_of_lt hik (Nat.lt_of_succ_lt hk)))
 have a2:=Qv (T:=T) (k:=c+1) (h.mono' (i:=i+1) (k:=k) (by exact hik) (by exact Nat.le_of_lt hk))
 have a3:=Qv (T:=T) (k:=c+1) (h.mono' (i:=k) (k:=k+1) (by exact Nat.le_succ _) hk)
 have b1:=Q3 (m:=M i) (k:=c) h.pos
 have b2:=Q3 (m:=M (k+1)) (k:=c) h.pos
 have f1:fig (M i) T c<2:=Z6O
 have f2:fig (M (k+1)) T c<2:=Z6O
 lia
theorem Mids.bound(h:Mids M T b n)(hk:k+1<n):2^powF M T b k*(M (k+1)-M k)<4*T:=by
 obtain⟨p1,p2,p3⟩:=h.place (i:=k) (k:=k+1) (by lia) hk
 change 1≤powF M T b k at p1;change powF M T b k≤2*b at p2;change∀j,j≤2*b→(_↔j<powF M T b k) at p3
 obtain⟨c,hc⟩:∃c,powF M T b k=c+1:=⟨powF M T b k-1,(Nat.sub_add_cancel p1).symm⟩
 have e:=(p3 c (by lia)).mpr (by lia)
 unfold pre at e
 have d1:=Nat.div_add_mod (2^c*M k) (2*T)
 have d2:=Nat.div_add_mod (2^c*M (k+1)) (2*T)
 have r2:=Nat.mod_lt (2^c*M (k+1)) (show 0<2*T by have:=h.pos;lia)
 rw[hc,Nat.pow_succ,Nat.mul_right_comm,Nat.mul_sub]
 rw[e] at d1
 have h5:2^c*M (k+1)-2^c*M k<2*T:=by
  rw[←d2,←d1,Nat.add_sub_add_left];exact Nat.lt_of_le_of_lt (Nat.sub_le _ _) r2
 exact Nat.lt_of_lt_of_eq (Nat.mul_lt_mul_of_pos_right h5 (by decide)) (Nat.mul_right_comm 2 T 2)
end
end
section
open PySem PySem.Spec PySem.Calls PyProof.Rows PySem.W PySem.SeqAt Builtin
variable{K:Wd}{B:Base}{α β:Type}{A:Around}{g:Gh}{n:Nat}{env:Env}
variable{b:Gh}{S':List Addr}{fn:List Nat}{cs:List Addr}{nm:List (Str×NameKind)}{σ σ':List (Option D)}{own:List (Addr×MO)}
theorem Z45{it S:Addr}{St:List D→Gh→Prop}(I:It K (.ref it) T R St)(hST:S∉T)(hSR:S∉R)(hh:A.handled=none) :
  ∀(ds out:List D) (its:Array Value) (m:Nat) (g g₀:Gh) (s:Shared),St ds g→g.mu S=some (sq "list" its m)→Z7 g.im out its.toList→out.length+ds.length≤100000→LeX (S::T) g₀ g→g.Ok K.B s→
   (∀s' g' its' m',g'.Ok K.B s'→LeX (S::T) g₀ g'→g'.mu S=some (sq "list" its' m')→Z7 g'.im (out++ds) its'.toList→Rr (.ok (.ret res)) s')→
   codeAny (model K.prog K.w) A (.builtin "list.extend.loop" ⟨[.ref S,.ref it,res],[]⟩) Rr s:=by
 intro ds
 induction ds with
 |nil=>
  intro out its m g g₀ s st hS hr hsz l ok hR
  refine codeAny_builtin PySem.F.entry_extend_loop ?_
  rw[Around.under_plainId PySem.F.plain_extend_loop _]
  show wpAny _ A.in1 (pyNext (.ref it)>>=_) _ _ s
  refine wpAny_bind (wpAny_mono (I.done (A:=A.in1) hh st s (fun V V=>False) ok) (fun r s₁ z₀=>Zm z₀ fun g₁ ok₁ l₁ e=>?_) fun V V z=>z.elim)
  subst e
  have l₁':LeX (S::T) g g₁:=l₁.sub (fun a h=>by exact .tail _ h)
  exact wpAny_pure (hR s₁ g₁ its m ok₁ (l.trans l₁') (l₁.mu _ _ hST hS) (by rw[List.append_nil];exact hr.mono l₁.im))
 |cons d ds ih=>
  intro out its m g g₀ s st hS hr hsz l ok hR
  have hlen:its.size=out.length:=by rw[←Array.length_toList,hr.length]
  refine codeAny_builtin PySem.F.entry_extend_loop ?_
  rw[Around.under_plainId PySem.F.plain_extend_loop _]
  show wpAny _ A.in1 (pyNext (.ref it)>>=_) _ _ s
  refine wpAny_bind (wpAny_mono (I.item (A:=A.in1) hh st s (fun V V=>False) ok) (fun r s₁ z₀=>Zm z₀ fun g₁ ok₁ l₁ v00=>Zm v00 fun v e hv hgo=>?_) fun V V z=>z.elim)
  subst e
  have hX:∀(X:Sem Fin),wpAny (model K.prog K.w) A.in1 (letOwnedTupleGo (.Constant .none 0 ⟨0,0,0,0⟩) (.ref it) v>>=fun V=>X) (fun fin s'=>match fin with | .done f=>Rr (.ok f) s' | .again c'=>c'.quiet=true∧codeAny (model K.prog K.w) A c' Rr s') (fun e s'=>Rr (.error e) s') s₁→wpAny (model K.prog K.w) A.in1 X (fun fin s'=>match fin with | .done f=>Rr (.ok f) s' | .again c'=>c'.quiet=true∧codeAny (model K.prog K.w) A c' Rr s') (fun e s'=>Rr (.error e) s') s₁:=fun X h=>h
  show wpAny _ A.in1 (Builtin.List.listUpdate (.ref S) (·.push v)>>=fun V=>again (.builtin "list.extend.loop" ⟨[.ref S,.ref it,res],[]⟩)) _ _ s₁
  refine hX _ (wpAny_bind (wpAny_mono (hgo (.Constant .none 0 ⟨0,0,0,0⟩) A.in1 s₁ (fun V V=>False) ok₁) (fun V s₂ z₀=>Zm z₀ fun g₂ ok₂ l₂ st₂=>?_) fun V V z=>z.elim))
  have hS₂:g₂.mu S=some (sq "list" its m):=l₂.mu _ _ hST (l₁.mu _ _ hST hS)
  refine wpAny_bind (wpAny_updateSeq (ok₂.mu _ _ hS₂) rfl ?_ (by rw[hlen];exact Nat.le_trans (Nat.le_trans (Nat.le_add_right _ _) hsz) (by decide)) (by rw[Array.size_push,hlen];exact Nat.succ_le_succ (Nat.le_trans (Nat.le_trans (Nat.le_add_right _ _) hsz) (by decide))))
  have ok₃:=ok₂.upd hS₂ (f:=Obj.mapSeq (·.push v)) rfl
  have l₃:LeX [S] g₂ (g₂.setMu S (Obj.mapSeq (·.push v) (sq "list" its m))):=LeX.setMu
  refine wpAny_pure ⟨plainId_quiet PySem.F.plain_extend_loop _,ih (out++[d]) (its.push v) _ _ g₀ _ (I.frame st₂ l₃ fun a ha=>by clear l₃ ok₃ hX hgo hR hsz ih;simp at ha;subst ha;exact⟨hST,hSR⟩) ZcI ?_ ?_ ?_ ok₃ fun s' g' its' m' ok' l' hS' hr'=>hR s' g' its' m' ok' l' hS' (by simpa using hr')⟩
  ·rw[Array.toList_push]
   exact Z7.append ((hr.mono l₁.im).mono l₂.im) (Z7.cons (hv.mono l₂.im) Z7.nil)
  ·simp at hsz ⊢;lia
  ·exact l.trans ((l₁.sub (fun a h=>by exact .tail _ h)).trans ((l₂.sub (fun a h=>by exact .tail _ h)).trans (l₃.sub (by exact Zr (.head _)))))
namespace FL
end FL
end
section
open PySem PySem.Spec PySem.Calls PyProof.Rows PySem.W PySem.SeqAt
variable{K:Wd}{B:Base}{α β:Type}{A:Around}{g:Gh}{n:Nat}{env:Env}
variable{b:Gh}{S':List Addr}{fn:List Nat}{cs:List Addr}{nm:List (Str×NameKind)}{σ σ':List (Option D)}{own:List (Addr×MO)}
theorem Z8D(h:∀s,g.Ok K.B s→codeAny (model K.prog K.w) A (.whileLoop test body [] env) (fun r s'=>match r with | .ok f=>∃g':Gh,g'.Ok K.B s'∧Q f g' | .error _=>False) s):gwp K A (exec (.While test body [] pos) env) Q g:=fun s E ok=>
 wpAny_While (codeAny_mono (h s ok) fun r s' hr=>by
  cases r with
  |ok f=>exact hr
  |error e=>exact hr.elim)
theorem Z1P(J:Nat→Gh→Prop)(k₀:Nat)(h₀:J k₀ g)
  (turn:∀k g,J k g→gwp K A (isTrue test env (eval test env)) (fun b g₁=>if b=true then gwp K A (execs body env) (fun f g₂=>match f with
    |.next | .cont=>∃m,m<k∧J m g₂
    |.brk=>False
    |.ret v=>Q (.ret v) g₂) g₁ else gwp K A (execs rest env) Q g₁) g):gwp K A (execs (.While test body [] pos::rest) env) Q g:=by
 refine Zf (Z8D fun s ok=>?_)
 refine codeAny_whileLoop (fun k s'=>∃g',g'.Ok K.B s'∧J k g') ?_ k₀ ⟨g,ok,h₀⟩
 rintro k s' ⟨g',ok',hJ'⟩
 refine Zn (turn k g' hJ' s' _ ok') (fun b s₁ g₁ ok₁ h₁=>?_)
 cases b with
 |true=>
  dsimp only[if_true] at h₁ ⊢
  refine Zn (h₁ s₁ _ ok₁) (fun f s₄ g₄ ok₄ h₄=>?_)
  cases f with
  |next=>obtain⟨m,h5,h6⟩:=h₄;exact⟨m,h5,g₄,ok₄,h6⟩
  |cont=>obtain⟨m,h5,h6⟩:=h₄;exact⟨m,h5,g₄,ok₄,h6⟩
  |brk=>exact h₄.elim
  |ret v=>exact⟨g₄,ok₄,h₄⟩
 |false=>
  dsimp only[Bool.false_eq_true,if_false] at h₁ ⊢
  exact wpAny_execs_nil ⟨g₁,ok₁,h₁⟩
theorem JB(h:gwp K A (storeName env x v) Q g):gwp K A (bindName env x v) Q g:=by
 exact Z0 (Zs (Yt (Z0 (Za h fun V g' q=>Yt q))))
theorem J5(h:gwp K A (t x) (fun V g₁=>gwp K A (assignInOrder ts xs) Q g₁) g):gwp K A (assignInOrder (t::ts) (x::xs)) Q g:=by
 exact Z0 (Zs h)
theorem Z0x(hh:A.handled=none)
  (h:gwp K A (eval value env) (fun v g₁=>∃d₁ d₂,Zu g₁.im (.tup [d₁,d₂]) v∧∀u w g₂,Le g₁ g₂→Zu g₂.im d₁ u→Zu g₂.im d₂ w→gwp K A (storeName env y w) (fun V g₃=>gwp K A (storeName env x u) (fun V g₄=>gwp K A (execs rest env) Q g₄) g₃) g₂) g)
  (hs:autoParam (swapsWithSole [.Tuple elts k tpos] value pos.line env=pure false) Z5)(hw:autoParam (swappedStores [.Tuple elts k tpos] value env=pure (some [x,y])) Z5):gwp K A (execs (.Assign [.Tuple elts k tpos] value pos::rest) env) Q g:=by
 refine Zf (Qs (Zcq h fun v g₁ d₁ d₂ p hk=>JO p hh rfl fun vs g₂ l₂ rs=>?_) hs hw)
 refine Zw (Jn rs) ?_
 clear rs p hw hs h;rintro u w rfl h1 h2
 refine J5 (JB (Za (hk u w g₂ l₂ h1 h2) fun V g₃ h₃=>?_))
 exact J5 (JB (Za h₃ fun V g₄ h₄=>Z6 h₄))
noncomputable def signsD(x:List Nat):List D:=x.map fun c=>.str [c]
noncomputable abbrev siO(x:List Nat)(t:Tok)(i:Nat):Obj:={cls:=.type "str_ascii_iterator",data:=.fields #[.str (S x) t,.int i 0]}
noncomputable def MO.si(ds:List D):MO:=⟨fun V o=>∃(x:List Nat) (t:Tok) (i:Nat),o.cls=.type "str_ascii_iterator"∧o.data=.fields #[.str (S x) t,.int i 0]∧ds=signsD (x.drop i),fun V V V V h=>h⟩
theorem It.ascii:It K (.ref it) [it] [] (fun ds g=>∃o,g.mu it=some o∧(MO.si ds).P g.im o) where
 item:=fun{d ds g A} hh st s E ok=>by
  obtain⟨o,h1,x,t,i,h2,h3,e⟩:=st
  cases hx:x.drop i with
  |nil=>rw[hx] at e;cases e
  |cons c r=>
   rw[hx] at e
   have e':d::ds=D.str [c]::signsD r:=e
   cases e'
   have hc:(S x).cps[i]? = some c:=by
    have:(x.drop i)[0]? = some c:=by rw[hx];rfl
    simpa [S] using this
   have hr:x.drop (i+1)=r:=by
    have:(x.drop i).drop 1=r:=by rw[hx];rfl
    rwa [List.drop_drop] at this
   refine wpAny_pyNext_ascii_item ⟨o,ok.mu _ _ h1,h2,h3⟩ hc fun h' hit' hs=>?_
   refine Zm hit' fun o' ho' hc' hd'=>?_
   have ok':=ok.sameBut (tk:=s.toks+1) h1 hs ho'
   refine⟨_,ok',LeX.setMu,_,rfl,ZU,fun target A=>?_⟩
   exact Je (a:=it) (.inr ZcI) hc' hd' (by decide) ⟨LeX.refl _ _,_,ZcI,x,t,i+1,hc',hd',by rw[hr]⟩
 done:=fun{g A} hh st s E ok=>by
  obtain⟨o,h1,x,t,i,h2,h3,e⟩:=st
  have hx:x.drop i=[]:=by
   cases hx:x.drop i with
   |nil=>rfl
   |cons c r=>rw[hx] at e;cases e
  have hc:(S x).cps[i]? = none:=by
   have:=List.drop_eq_nil_iff.mp hx
   simp[S];exact this
  exact wpAny_pyNext_ascii_end hh ⟨o,ok.mu _ _ h1,h2,h3⟩ hc fun h' he=>⟨_,ok.lost (tk:=s.toks) h1 he,LeX.drop,rfl⟩
 self:=fun{ds g A Q} st q s E ok=>by
  obtain⟨o,h1,x,t,i,h2,h3,e⟩:=st
  exact wpAny_pyIter_striter_ascii ⟨o,ok.mu _ _ h1,h2,h3⟩ ⟨g,ok,q⟩
 frame:=fun{ds g g' W} st l hw=>by
  refine Z4 st fun o h1 h2=>?_
  exact⟨o,l.mu _ _ (fun h=>(hw _ h).1 (by exact .head _)) h1,h2⟩
 mem:=fun{ds g} st=>Zr (Z4 st fun o h1 V=>⟨o,h1⟩)
 cell:=fun{ds g} st=>Zr (fun o' w e=>Z4 st fun o h1 z=>ZO z fun x t i V h3 V z=>by rw[←J0 h1 e,h3] at z;cases z)
theorem ItM.ascii:ItM K (.ref a) [a] (fun ds=>[(a,MO.si ds)]):=Zd1 It.ascii (fun ds g=>Iff.rfl) (by rintro ds im o w ⟨x,t,i,V,h,V⟩;rw[h];intro z;cases z)
theorem Z7V(h:Zu g.im (.str x) v)(ha:∀c∈x,c<128):gwp K A (pyIter v) (NewM K (signsD x) g) g:=fun s E ok=>by
 refine Zi (Zz h) ?_
 rintro t rfl
 refine wpAny_pyIter_ascii (by simpa [S] using ha) ?_
 exact⟨_,ok.pushMu (o:=siO x t 0) rfl,ZcW (K:=K) ok (o:=siO x t 0) (ds:=signsD x) ItM.ascii ⟨x,t,0,rfl,rfl,by exact rfl⟩⟩
theorem Z3x(h:Pe K n g (eval iter env) (.str x))(ha:∀c∈x,c<128):PItM K n g iter env (signsD x):=fun A r g₁ l=>Zg (h A r g₁ l) fun v g₂ l₂ p=>Za (Z7V p ha) fun it g₃ hi=>hi.since l₂
theorem ZaP(h:a≤1000000):a≤sizeLine:=Nat.le_trans h (by decide)
theorem QU(h:σ[i]? = some none):backOk σ (σ.set i (some d)):=fun j e hj=>by
 have hne:i≠j:=fun z=>by subst z;cases((h).symm.trans hj)
 rw[List.getElem?_set,if_neg hne];exact hj
theorem backOk.trans{a b c:List (Option D)}(h:backOk a b)(h':backOk b c):backOk a c:=fun i d e=>h' i d (h i d e)
noncomputable def noFree(names:List (Str×NameKind))(fn:List Nat):Bool:=fn.all fun i=>match names[i]? with | some (_,.free)=>false | _=>true
theorem Yo(h:noFree names fn=true):∀i∈fn,∀x,names[i]?≠some (x,NameKind.free):=fun i hi x e=>by
 have:=List.all_eq_true.mp h i hi
 rw[e] at this
 cases this
theorem ZcM(src:List Src)(i:Nat)(hsrc:(srcOk nm scope.names src&&namesOk scope.names)=true)(hg:GlobsAre K.B scope.names src)
  (hi:(relab nm scope.names)[i]? = some (x,NameKind.local)∨((relab nm scope.names)[i]? = some (x,NameKind.cell)∧noFree scope.names [i]=true))(h0:(srcSt σ src)[i]? = some none)
  (step:∀d∈ds,∀b g' env' cs',Le g b→Le b g'→Frm K b [] [i] cs' env' (relab nm scope.names) ((srcSt σ src).set i (some d)) [] g'→env'.scope.names=relab nm scope.names→(∀L cells,env'=compEnv scope L cells env→True)→(∃L cells,env'=compEnv scope L cells env)→
   PTests K n g' ifs env' (p d)∧(p d=true→Pe K n g' (eval elt env') (f d)))
  (hk:autoParam (scope.kind=.function) Z5):CompP K n g env nm σ elt (.Name x pos) ifs scope ds p f:=by
 refine⟨src,[i],fun d=>(srcSt σ src).set i (some d),NamesOk.of (Bool.and_eq_true_iff.mp hsrc).2,hk,(Bool.and_eq_true_iff.mp hsrc).1,hg,fun j hj y e=>?_,fun d V=>?_,fun d V=>QU h0,fun d hd b g' L cells cs' lb lb' F=>step d hd b g' _ cs' lb lb' F F.names (fun V V V=>trivial) ⟨L,cells,rfl⟩⟩
 ·clear step h0 hsrc;simp at hj;subst hj
  rcases hi with hi | ⟨V,hi⟩
  ·refine Z4 (Y5 hi) fun k' e1 e2=>?_
   cases((e).symm.trans e1)
   rcases e2 with e2 | ⟨e2,V⟩<;>cases e2
  ·exact Yo hi j (by exact .head _) y e
 ·rcases hi with hi | ⟨hi,V⟩
  ·exact Tgt.loc hi
  ·exact Tgt.cel hi (by exact .head _)
theorem CompP.pair(src:List Src)(i j:Nat)(hij:i≠j)(hsrc:(srcOk nm scope.names src&&namesOk scope.names)=true)(hg:GlobsAre K.B scope.names src)
  (hi:(relab nm scope.names)[i]? = some (x,NameKind.local)∨((relab nm scope.names)[i]? = some (x,NameKind.cell)∧noFree scope.names [i]=true))(h0:(srcSt σ src)[i]? = some none)
  (hj:(relab nm scope.names)[j]? = some (y,NameKind.local)∨((relab nm scope.names)[j]? = some (y,NameKind.cell)∧noFree scope.names [j]=true))(h1:(srcSt σ src)[j]? = some none)
  (hds:∀d∈ds,∃d₁ d₂,d=.tup [d₁,d₂])
  (step:∀d₁ d₂,D.tup [d₁,d₂]∈ds→∀b g' env' cs',Le g b→Le b g'→Frm K b [] [i,j] cs' env' (relab nm scope.names) (((srcSt σ src).set i (some d₁)).set j (some d₂)) [] g'→(∃L cells,env'=compEnv scope L cells env)→
   PTests K n g' ifs env' (p (.tup [d₁,d₂]))∧(p (.tup [d₁,d₂])=true→Pe K n g' (eval elt env') (f (.tup [d₁,d₂]))))
  (hk:autoParam (scope.kind=.function) Z5):CompP K n g env nm σ elt (.Tuple [.Name x px,.Name y py] kt pt) ifs scope ds p f:=by
 let st:D→List (Option D):=fun d=>match d with | .tup [d₁,d₂]=>((srcSt σ src).set i (some d₁)).set j (some d₂) | _=>srcSt σ src
 refine⟨src,[i,j],st,NamesOk.of (Bool.and_eq_true_iff.mp hsrc).2,hk,(Bool.and_eq_true_iff.mp hsrc).1,hg,fun m hm z e=>?_,fun d hd=>?_,fun d hd=>?_,fun d hd b g' L cells cs' lb lb' F=>?_⟩
 ·simp at hm
  rcases hm with rfl | rfl
  ·rcases hi with hi | ⟨V,hi⟩
   ·refine Z4 (Y5 hi) fun k' e1 e2=>?_
    cases((e).symm.trans e1)
    rcases e2 with e2 | ⟨e2,V⟩<;>cases e2
   ·exact Yo hi m (by exact .head _) z e
  ·rcases hj with hj | ⟨V,hj⟩
   ·refine Z4 (Y5 hj) fun k' e1 e2=>?_
    cases((e).symm.trans e1)
    rcases e2 with e2 | ⟨e2,V⟩<;>cases e2
   ·exact Yo hj m (by exact .head _) z e
 ·refine QD (hds d hd) ?_
  rintro d₁ d₂ rfl
  refine Tgt.pair (σ₁:=(srcSt σ src).set i (some d₁)) ?_ ?_
  ·rcases hi with hi | ⟨hi,V⟩
   ·exact Tgt.loc hi
   ·exact Tgt.cel hi (by exact .head _)
  ·rcases hj with hj | ⟨hj,V⟩
   ·exact Tgt.loc hj
   ·exact Tgt.cel hj (by exact .tail _ (.head _))
 ·refine QD (hds d hd) ?_
  rintro d₁ d₂ rfl
  refine(QU h0).trans (QU ?_)
  rw[List.getElem?_set,if_neg hij];exact h1
 ·refine QD (hds d hd) ?_
  rintro d₁ d₂ rfl
  exact step d₁ d₂ hd b g' _ cs' lb lb' F ⟨L,cells,rfl⟩
end
section
open PySem PySem.Spec PySem.Calls PyProof.Rows PySem.W PySem.SeqAt
variable{K:Wd}{B:Base}{α β:Type}{A:Around}{g:Gh}{n:Nat}{env:Env}
variable{b:Gh}{S':List Addr}{fn:List Nat}{cs:List Addr}{nm:List (Str×NameKind)}{σ σ':List (Option D)}{own own':List (Addr×MO)}
theorem Frm.perm(F:Frm K b S' fn cs env nm σ own g)(h:own.Perm own'):Frm K b S' fn cs env nm σ own' g:=
 {F with
  apart:=(List.Perm.nodup_iff (List.Perm.append (List.Perm.refl _) (h.map _))).mp F.apart
  own:=fun p hp=>F.own p (h.mem_iff.mpr hp)}
theorem Frm.advAt{pre ms ms' post:List (Addr×MO)}{g':Gh}(F:Frm K b S' fn cs env nm σ (pre++(ms++post)) g)(l:LeX (ms.map (·.1)) g g')(hk:ms'.map (·.1)=ms.map (·.1))(h:Holds ms' g')(hc:∀p∈ms,∀o w,p.2.P g.im o→o.data≠.cell w):Frm K b S' fn cs env nm σ (pre++(ms'++post)) g':=by
 have p:∀(ms:List (Addr×MO)),(pre++(ms++post)).Perm (ms++(pre++post)):=fun ms=>by
  rw[←List.append_assoc,←List.append_assoc]
  exact List.Perm.append List.perm_append_comm (List.Perm.refl _)
 exact((F.perm (p ms)).advance l hk h hc).perm (p ms').symm
theorem Frm.holdsAt{pre ms post:List (Addr×MO)}(F:Frm K b S' fn cs env nm σ (pre++(ms++post)) g):Holds ms g:=fun p hp=>Zm (F.own p (by simp[hp])) fun o e1 e2 V=>⟨o,e1,e2⟩
theorem YW
  (h:gwp K A (eval e₁ env) (fun v g₁=>gwp K A (eval e₂ env) (fun w g₂=>∃d₁ d₂,Zu g₂.im d₁ v∧Zu g₂.im d₂ w∧∀T g₃,Le g₂ g₃→Zu g₃.im (.tup [d₁,d₂]) T→Q T g₃) g₁) g)
  (h1:autoParam (starEach [e₁,e₂] env=(false,eval e₁ env)::starEach [e₂] env) Z5)(h2:autoParam (starEach [e₂] env=(false,eval e₂ env)::starEach [] env) Z5):gwp K A (eval (.Tuple [e₁,e₂] k pos) env) Q g:=by
 rw[arm_eval_Tuple]
 refine Z0 (ZF (Z0 (Zb (Za h fun v g₁ h₁=>Zb (Zcp h₁ fun w g₂ d₁ d₂ r1 r2 hq=>Zd ?_) h2) h1)))
 exact Yg r1 r2 fun T o g₃ l₃ hT ht=>hq _ g₃ l₃ ht
end
section
open PySem PySem.Spec PySem.Calls PyProof.Rows PySem.W PySem.SeqAt
variable{K:Wd}{A:Around}{g:Gh}{n:Nat}{env:Env}{α:Type}
variable{b:Gh}{S':List Addr}{fn:List Nat}{cs:List Addr}{nm:List (Str×NameKind)}{σ σ':List (Option D)}{own:List (Addr×MO)}
theorem Z6M(ho:s.heap.get? a=some (sq "list" its m))(rs:Z7 im ds its.toList)(h:atInt ds i=some d)(hsz:ds.length<2^62)(q:∀v,Zu im d v→Q v s):wpAny (model prog w) A (getItem (.ref a) (.int i t)) Q E s:=by
 have hl:s.heap.IsList a its:=⟨_,ho,rfl,m,rfl⟩
 have hlen:its.size=ds.length:=by rw[←Array.length_toList,rs.length]
 unfold atInt at h
 by_cases h0:0≤i
 ·rw[if_pos h0] at h
  refine Z4 (rs.get h) fun v hv hr=>?_
  have hlt:i.toNat<ds.length:=(List.getElem?_eq_some_iff.mp h).1
  exact wpAny_getItem_list hl h0 (by lia) (Array.getElem?_toList▸hv) (q v hr)
 ·rw[if_neg h0] at h
  by_cases h1:0≤i+ds.length
  ·rw[if_pos h1] at h
   refine Z4 (rs.get h) fun v hv hr=>?_
   exact wpAny_getItem_list_neg hl (by lia) (by rw[hlen];lia) (by lia) (by rw[hlen];exact Array.getElem?_toList▸hv) (q v hr)
  ·rw[if_neg h1] at h;cases h
theorem Z2M(hv:Pe K n g (eval value env) (.raw (.ref a)))(hi:Pe K n g (eval slice env) (.int i))(ha:g.mu a=some (sq "list" its m))(hr:Z7 g.im ds its.toList)(h:atInt ds i=some d)(hsz:ds.length<2^62):Pe K n g (eval (.Subscript value slice pos) env) d:=
 fun A r g₁ l=>JI slot_list_getitem.lookup ((hv.le l).useR r fun g₂ l₂=>Zg (hi A r g₂ (l.trans l₂)) fun i' g₃ l₃ q=>⟨fun s ok=>⟨_,ok.mu _ _ (l₃.at (l₂.at (l.at ha))),rfl⟩,fun s E ok=>by
  refine Zi (Zo q) fun t e=>?_
  rw[e]
  exact Z6M (ok.mu _ _ (l₃.at (l₂.at (l.at ha)))) (((hr.le l).le l₂).le l₃) h hsz fun v p=>⟨g₃,ok,l₂.trans l₃,p⟩⟩)
theorem Z0J{γ:Type}(l:List γ)(d:γ):atInt (l++[d]) (-1)=some d:=by
 have hl:(l++[d]).length=l.length+1:=List.length_append
 unfold atInt
 rw[if_neg (by decide),if_pos (by rw[hl];lia),show(-1+((l++[d]).length:Int)).toNat=l.length by rw[hl];lia,List.getElem?_append_right (Nat.le_refl _),Nat.sub_self];rfl
noncomputable def dblS(m T:Nat)(ra:Addr)(j:Nat)(k:Option D):List (Option D):=[some (.int m),some (.int T),some (.raw (.ref ra)),some (.int (leftF m T j:Nat)),k,some (.raw (.type "range"))]
noncomputable def figD(m T j:Nat):List D:=(1::(List.range j).map (fig m T)).map fun x:Nat=>.int x
theorem Z33(m T j:Nat):figD m T (j+1)=figD m T j++[.int (fig m T j:Nat)]:=by simp[figD,List.range_succ]
theorem Z5x(m T j:Nat):(figD m T j).length=j+1:=by simp[figD]
theorem Z2f(X:WX K){m T:Nat}(hT:0<T)(hT2:T≤6000)(hm:m<2*T):CallSem K (n+10) g (.ref a_law_doubled) [.int m,.int T] (.tup [.lst ((rowF m T (bl T)).map fun x:Nat=>.int x),.int (leftF m T (2*bl T):Nat)]):=fun g V vs hvs A r g₁ l=>by
 refine cps fun Q₀ k₀=>?_
 refine Zw (Jn hvs) fun v1 v2 e r1 r2=>?_
 subst e
 have hb2:=Z2a hT2
 refine Zh (n:=n+8) (fn:=[]) (S':=[]) (binds:=[("middle",v1),("total",v2)]) (bi:=[(0,.int m),(1,.int T)]) X.f_law_doubled r (Ze (by rfl)) Z1F Z1s (Z3 X.gt Z21)
  ⟨.inl rfl,r1.le l,.inl rfl,r2.le l,trivial⟩ fun A' L cells cs g' r' H=>?_
 refine Z0x r'.1 (YW (Jx (Z1 (Z9 (K:=K) (n:=n+8)) Z2) r' (by decide) fun ra g₅ its l₅ hi hmu hr=>?_))
 replace H:=H.up l₅
 have hbr:g₁.mu ra=none:=have z:Le g₁ g₅:=H.le;z.nomu hmu
 replace H:=(H.up (ZcL hmu)).adopt (ms:=[(ra,MO.list [.int 1])]) H (Zr ⟨_,ZcI,its,0,rfl,hr⟩) (by simp) (Zr hmu) (Zr (.inr hbr))
 refine(pn H 0).use r' fun w g₆ l₆ hw=>⟨.raw (.ref ra),.int m,Zl,hw,fun Tp g₇ l₇ hTp=>⟨_,_,hTp,fun u w g₈ l₈ hu hw'=>?_⟩⟩
 refine(((H.up l₆).up l₇).up l₈).storeLocal (i:=3) rfl hw' fun g₉ l₉ H=>?_
 refine H.storeLocal (i:=2) rfl (hu.mono l₉.im) fun g₁₀ l₁₀ H=>?_
 have hl0:leftF m T 0=m:=by unfold leftF;rw[Nat.pow_zero,Nat.one_mul];exact Nat.mod_eq_of_lt hm
 refine Z0d (X:=Nat) H (fun V j=>dblS m T ra j none) (fun V j=>[(ra,MO.list (figD m T j))]) (fun rest j=>j+rest.length=2*bl T) (ds:=rgD 0 (2*(bl T:Int)).toNat) 0 r' (ZS (pn H 5) (Z8 Z9 (Ja F.plainAttrs_int F.slot_int_bit_length F.type_int_bit_length (pn H 1) Z2 Ju) (Jq (IntMulOk.of_left (by decide)))) (by show -1000000000≤2*(bl T:Int);exact Int.natCast_nonneg _) (by show 2*(bl T:Int)≤1000000000;lia)) ?_ (by rw[J9];exact Nat.add_comm _ _) ?_ ?_
 ·show Frm K g₁ [] [] cs _ _ (dblS m T ra 0 none) _ _
  unfold dblS;rw[hl0]
  exact H.lessN (is:=[])
 ·rintro d rest j ms g v hP H rv
  refine ZE (H.storeLocal (i:=4) rfl rv fun g₁₁ l₁₁ H=>?_)
  have H1:=H.perm (own':=(ra,MO.list (figD m T j))::ms) (List.perm_append_comm (l₁:=ms) (l₂:=[(ra,MO.list (figD m T j))]))
  have hj:j<2*bl T:=by rw[List.length_cons] at hP;lia
  refine Ys (d:=.int (fig m T j:Nat)) H1 r' (pn H1 2) ?_ ?_ fun g₁₂ l₁₂ H2=>?_
  ·rw[←ZbT hT]
   refine(Z0T (v:=decide ((T:Int)≤leftF m T j)) (d:=.int ((if T≤leftF m T j then 1 else 0:Nat):Int)) (Zx (pn H1 3) (pn H1 1) ZaL) (fun hv=>?_) (fun hv=>?_))
   ·have h:=Int.ofNat_le.mp (of_decide_eq_true hv)
    rw[if_pos h];exact Z9
   ·have h:¬T≤leftF m T j:=fun z=>of_decide_eq_false hv (Int.ofNat_le.mpr z)
    rw[if_neg h];exact Z9
  ·rw[Z5x];exact Nat.le_trans (show _≤100 by lia) (by decide)
  rw[←Z33] at H2
  obtain⟨ob,e1,its',m',e,hr'⟩:=H2.own1
  subst e
  have hlt:=Z3M (m:=m) (k:=j) hT
  have hf:=Z6O (m:=m) (T:=T) (j:=j)
  refine Jc H2 r' (i:=3) (d:=.int (leftF m T (j+1):Nat)) rfl ((Z8 (Z8 Z9 (pn H2 3) (Jq ?_)) (Z8 (Z8 Z9 (pn H2 1) (Jq ?_)) (Z2M (d:=.int (fig m T j:Nat)) (pn H2 2) (QY Z9 QJ) e1 hr' ?_ ?_) (Jq ?_)) Qm).is ?_) fun g₁₃ l₁₃ H3=>?_
  ·exact JN (by decide) (by rw[Int.natAbs_natCast];lia)
  ·exact JN (by decide) (by rw[Int.natAbs_natCast];exact Nat.lt_of_le_of_lt hT2 (by decide))
  ·rw[Z33];exact Z0J _ _
  ·rw[Z5x];lia
  ·exact JN (by rw[Int.natAbs_mul,Int.natAbs_natCast];show 2*T<_;lia) (by rw[Int.natAbs_natCast];exact Nat.le_trans hf (by decide))
  ·exact congrArg D.int (Z7U hT).symm
  refine ZC ⟨j+1,by rw[List.length_cons] at hP;lia,?_⟩
  have H4:=H3.perm (own':=ms++[(ra,MO.list (figD m T (j+1)))]) (List.perm_append_comm (l₁:=[(ra,MO.list (figD m T (j+1)))]) (l₂:=ms))
  exact H4.lessN (is:=[4])
 ·intro j g hP H
  have hj:j=2*bl T:=hP
  subst hj
  refine Qa H fun g' l' H hr=>?_
  refine ZM r' (J4 (Z1 (Z1D (pn H 2) hr) (Z1 (pn H 3) Z2))) fun v g'' l'' p=>k₀ _ _ ⟨H.le.trans l'',p⟩
theorem Zad(h2:Pe K n g (eval f2 env) (.raw (.type "zip")))(ha:Pe K n g (eval e1 env) (.lst ds1))(hb:Pe K n g (eval e2 env) (.lst ds2))(hlen:ds1.length=ds2.length)
  (hp2:autoParam ((backTo p2 (starEach [e1,e2] env)).any (·.1)=false) Z5)
  (hst:autoParam (starEach [e1,e2] env=(false,eval e1 env)::starEach [e2] env) Z5)(hst2:autoParam (starEach [e2] env=(false,eval e2 env)::starEach [] env) Z5)
  (hc2:autoParam (eval (.Call f2 [e1,e2] [] p2) env=(do callWith p2 (←eval f2 env) [] (backTo p2 (starEach [e1,e2] env)) (backToKw p2 (keywordEach [] env)))) Z5) :
  PIt K n g (.Call f2 [e1,e2] [] p2) env [] (zipD ds1 ds2):=fun A r g₁ l₁=>by
 refine ZK ((h2.le l₁).useR r fun g₂ l₂=>?_) hc2
 have l12:=l₁.trans l₂
 refine Zq (fun a z=>by cases z) hp2 (Zc hp2 (Zb ((ha.le l12).use r fun v g₃ l₃ hv=>Zb ((hb.le (l12.trans l₃)).use r fun w g₄ l₄ hw=>Zd ?_) hst2) hst))
 refine Zg (Z9x (hv.le l₄) hw hlen) fun it g₅ hi V=>?_
 refine ZG hi fun l₅ hi=>Zw hi fun T St I st hT=>?_
 have l24:Le g₁ g₄:=l₂.trans (l₃.trans l₄)
 exact I.self st ⟨l24.trans l₅,T,St,I,st,fun a ha=>⟨l24.nomu (hT a ha).1,(hT a ha).2⟩⟩
theorem Z8e{xs:List Bool}(hx:x∈xs)(hsz:xs.length<2^62):CallSem K (n+1) g (.builtin "list.index") [.lst (xs.map .bool),.bool x] (.int (xs.idxOf x:Nat)):=fun g₁ l vs h A r g₂ l₂ s E ok=>by
 refine Zw (Jn h) fun v w e0 h1 h2=>ZO (Zj.mp h1) fun a its m e1 e rs=>?_
 rw[e0,e1,Z07 h2]
 have ho:=ok.im _ _ (l₂.im _ _ e)
 have hlen:its.size=xs.length:=by rw[←Array.length_toList,rs.length,List.length_map]
 have hj:xs.idxOf x<xs.length:=List.idxOf_lt_length_iff.mpr hx
 have hat:∀(i:Nat) (hi:i<its.size),its[i]=.bool (xs[i]'(by exact Nat.lt_of_lt_of_eq hi hlen)):=fun i hi=>by
  refine Z4 (rs.get (i:=i) (d:=.bool (xs[i]'(by exact Nat.lt_of_lt_of_eq hi hlen))) (by rw[List.getElem?_map,List.getElem?_eq_getElem (by exact Nat.lt_of_lt_of_eq hi hlen)];rfl)) fun v e1 e2=>?_
  rw[Array.getElem?_toList,Array.getElem?_eq_getElem hi,Z07 e2] at e1
  exact Option.some.inj e1
 let f:Value→Bool:=fun v=>match v with | .bool y=>y==x | _=>false
 refine call_meets PySem.F.slot_list_index ⟨_,ho,rfl⟩ PySem.F.entry_list_index (PySem.F.args_list_index_2 _ _)
  (list_indexAt a its m none #[] (.bool x) f (xs.idxOf x) (by rw[hlen];exact hj) (by lia) ?_ ?_) ⟨ho,fun y hy=>?_,g₂,ok.tok _,LeX.refl _ _,Zp⟩
 ·rw[hat (xs.idxOf x) (by exact Nat.lt_of_lt_of_eq hj (Eq.symm hlen)),List.getElem_idxOf hj]
  exact beq_self_eq_true _
 ·intro i hi hlt
  rw[hat i hi]
  have:=List.not_of_lt_findIdx (p:=(· == x)) (xs:=xs) hlt
  exact this
 ·obtain⟨i,hi,e⟩:=Array.mem_iff_getElem.mp hy
  rw[←e,hat i hi]
  exact EqAt.bool_bool _ _
theorem Z8o(r r':List Nat)(h:r.length=r'.length):(List.zipWith (fun x y=>!(x==y)) r r').length=r.length:=by rw[List.length_zipWith,←h,Nat.min_self]
theorem Z8n{r₁ r₂:List Nat}(h:D.tup [d,e]∈zipD (r₁.map fun x:Nat=>.int x) (r₂.map fun x:Nat=>.int x)):∃x y:Nat,d=.int x∧e=.int y:=by
 refine Zi (List.mem_iff_getElem?.mp h) fun i e=>?_
 rw[zipD,List.getElem?_zipWith,List.getElem?_map,List.getElem?_map] at e
 clear h;cases h1:r₁[i]? with
 |none=>rw[h1] at e;cases e
 |some x=>
  cases h2:r₂[i]? with
  |none=>rw[h1,h2] at e;cases e
  |some y=>rw[h1,h2] at e;cases e;exact⟨x,y,rfl,rfl⟩
theorem Z0M(X:WX K){r₁ r₂:List Nat}(hl:r₁.length=r₂.length)(hs:r₁.length≤1000)(hd:true∈List.zipWith (fun x y=>!(x==y)) r₁ r₂):CallSem K (n+20) g (.ref a_law_place) [.lst (r₁.map fun x:Nat=>.int x),.lst (r₂.map fun x:Nat=>.int x)] (.int (placeF r₁ r₂:Nat)):=fun g V vs hvs A r g₁ l=>by
 refine cps fun Q₀ k₀=>?_
 refine Zw (Jn hvs) fun v1 v2 e r1 r2=>?_
 clear hvs;subst e
 refine Zh (n:=n+18) (fn:=[]) (S':=[]) (binds:=[("one",v1),("other",v2)]) (bi:=[(0,.lst (r₁.map fun x:Nat=>.int x)),(1,.lst (r₂.map fun x:Nat=>.int x))]) X.f_law_place r (Ze (by rfl)) Z3J Z3o (Z3 X.gt Z41)
  ⟨.inl rfl,r1.le l,.inl rfl,r2.le l,trivial⟩ fun A' L cells cs g' r' H=>?_
 refine ZM r' (Ja (T:= "list") (id:= "list.index") (d₀:=.lst ((List.zipWith (fun x y=>!(x==y)) r₁ r₂).map .bool)) (ds:=[.bool true]) PySem.F.plainAttrs_list PySem.F.slot_list_index PySem.F.type_list_index ((ZN (p:=fun V=>true) (f:=fun d=>match d with | .tup [.int x,.int y]=>.bool (!(x==y)) | d=>d) H (Zad (pn H 2) (pn H 0) (pn H 1) (by rw[List.length_map,List.length_map,hl])) ZZ
  (CompP.pair (mkSrcs GT [.no,.no,.no]) 1 2 (by decide) (by decide +kernel) (Z3 X.gt (by decide +kernel)) (.inl (by decide +kernel)) rfl (.inl (by decide +kernel)) rfl (fun d hd=>?_) fun e1 e2 hd b g' env' cs' lb lb' F2 henv=>?_) ?_).is ?_) (Z1 Zaf Z2) (Z8e hd (by rw[Z8o _ _ hl];exact Nat.lt_of_le_of_lt hs (by decide)))) fun v g₄ l₄ hv=>k₀ _ _ ⟨H.le.trans l₄,hv⟩
 ·refine Zi (List.mem_iff_getElem?.mp hd) fun i e=>?_
  rw[zipD,List.getElem?_zipWith] at e
  split at e
  ·exact⟨_,_,(Option.some.inj e).symm⟩
  ·clear H r' r2 r1 k₀ r;cases e
 ·refine QD henv ?_
  clear henv H r' r2 r1 k₀ r;rintro L'' cells'' rfl
  refine ZP (Z8n hd) ?_
  clear hd;rintro x y rfl rfl
  exact⟨Zv,fun V=>(Z92 (pn F2 1) (pn F2 2) ZaK).is (by exact rfl)⟩
 ·rw[zipD,List.length_zipWith,List.length_map,List.length_map,←hl,Nat.min_self];exact Nat.le_trans hs (by decide)
 ·clear H r' r2 r1 k₀ r hd hs hl;rw[List.filter_eq_self.mpr (fun V V=>rfl),zipD,List.map_zipWith,List.zipWith_map,List.map_zipWith]
  have:(fun(x y:Nat)=>D.bool (!((x:Int)==(y:Int))))=fun(x y:Nat)=>D.bool (!(x==y)):=by
   funext x y
   rw[show((x:Int)==(y:Int))=(x==y) from Bool.eq_iff_iff.mpr (by rw[beq_iff_eq,beq_iff_eq,Int.natCast_inj])]
  exact congrArg D.lst (congrArg (fun F=>List.zipWith F r₁ r₂) this)
end
section
open PySem
noncomputable def Rz(p:Array Nat):Prop:=p.toList.Pairwise (· < ·)
theorem Rz.lt(h:Rz p)(hik:i<k)(hk:k<p.size):p.getD i 0<p.getD k 0:=by
 have:=List.pairwise_iff_getElem.mp h i k (by simp;exact Nat.lt_trans hik hk) (by exact hk) hik
 simp only[Array.getElem_toList] at this
 simpa [Array.getD_eq_getD_getElem?,Array.getElem?_eq_getElem hk,Array.getElem?_eq_getElem (show i<p.size by exact Nat.lt_trans hik hk)] using this
theorem Zav{p:Array Nat}(h:m<p.size)(a b:Nat):p.getD m a=p.getD m b:=by
 simp[Array.getD_eq_getD_getElem?,Array.getElem?_eq_getElem h]
theorem Z9T{p:Array Nat}(h:Rz p)(j:Nat):∀(fuel lo hi:Nat),hi≤p.size→lo≤hi→hi-lo≤fuel→(∀i,i<lo→p.getD i 0<j)→(∀i,hi≤i→i<p.size→j≤p.getD i 0)→
  SetTable.below.go p j fuel lo hi≤p.size∧(∀i,i<SetTable.below.go p j fuel lo hi→p.getD i 0<j)∧(∀i,SetTable.below.go p j fuel lo hi≤i→i<p.size→j≤p.getD i 0):=by
 intro fuel
 induction fuel with
 |zero=>
  intro lo hi h1 h2 h3 h4 h5
  have:lo=hi:=Nat.le_antisymm h2 (Nat.le_of_sub_eq_zero (Nat.le_zero.mp h3))
  subst this
  exact⟨h1,h4,h5⟩
 |succ fuel ih=>
  intro lo hi h1 h2 h3 h4 h5
  unfold SetTable.below.go
  by_cases hlt:lo<hi
  ·rw[if_pos hlt]
   dsimp only
   have hm:(lo+hi)/2<hi:=(Nat.div_lt_iff_lt_mul (by decide)).mpr (by rw[Nat.mul_two];exact Nat.add_lt_add_right hlt hi)
   have hm2:lo≤(lo+hi)/2:=(Nat.le_div_iff_mul_le (by decide)).mpr (by rw[Nat.mul_two];exact Nat.add_le_add_left h2 lo)
   generalize (lo+hi)/2=mid at *
   rw[Zav (by exact Nat.le_trans hm h1:mid<p.size) j 0]
   by_cases hc:p.getD mid 0<j
   ·rw[if_pos hc]
    refine ih (mid+1) hi h1 (by assumption) (Nat.sub_le_iff_le_add.mpr (Nat.le_trans (Nat.sub_le_iff_le_add.mp h3) (by rw[Nat.add_assoc,Nat.add_comm 1];exact Nat.add_le_add_left (Nat.succ_le_succ hm2) fuel))) (fun i hi'=>?_) h5
    by_cases e:i=mid
    ·subst e;exact hc
    ·exact Nat.lt_trans (h.lt (Nat.lt_of_le_of_ne (Nat.le_of_lt_succ hi') e) (by exact Nat.lt_of_lt_of_le ‹_› ‹_›)) hc
   ·rw[if_neg hc]
    refine ih lo mid (by exact Nat.le_trans (Nat.le_of_lt hm) h1) hm2 (Nat.le_of_lt_succ (Nat.lt_of_lt_of_le (Nat.sub_lt_sub_right hm2 hm) h3)) h4 (fun i hi' hs=>?_)
    by_cases e:i=mid
    ·subst e;exact Nat.not_lt.mp hc
    ·have:=h.lt (show mid<i by lia) hs
     exact Nat.le_of_lt (Nat.lt_of_le_of_lt (Nat.not_lt.mp hc) this)
  ·rw[if_neg hlt]
   have:lo=hi:=Nat.le_antisymm h2 (Nat.not_lt.mp hlt)
   subst this
   exact⟨h1,h4,h5⟩
theorem Z2c(h:Rz p)(j:Nat):SetTable.below p j≤p.size∧(∀i,i<SetTable.below p j→p.getD i 0<j)∧(∀i,SetTable.below p j≤i→i<p.size→j≤p.getD i 0):=
 Z9T h j p.size 0 p.size (Nat.le_refl _) (Nat.zero_le _) (Nat.le_refl _) (by lia) (by lia)
theorem Rz.insert(h:Rz p)(hj:p[SetTable.below p j]?≠some j):Rz (SetTable.insertAt p (SetTable.below p j) j):=by
 obtain⟨h1,h2,h3⟩:=Z2c h j
 generalize SetTable.below p j=k at *
 have hgt:∀i,k≤i→i<p.size→j<p.getD i 0:=fun i hk hi=>by
  have hk':k<p.size:=by exact Nat.lt_of_le_of_lt ‹_› ‹_›
  have h4:=h3 k (Nat.le_refl _) hk'
  have h5:p.getD k 0≠j:=fun e=>hj (by rw[Array.getElem?_eq_getElem hk'];simpa [Array.getD_eq_getD_getElem?,Array.getElem?_eq_getElem hk'] using e)
  by_cases e:i=k
  ·subst e;lia
  ·have:=h.lt (show k<i by lia) hi;exact Nat.lt_of_le_of_lt h4 this
 show(SetTable.insertAt p k j).toList.Pairwise (· < ·)
 rw[SetTable.toList_insertAt]
 refine List.pairwise_append.mpr ⟨h.sublist (List.take_sublist _ _),List.pairwise_cons.mpr ⟨fun b hb=>?_,h.sublist (List.drop_sublist _ _)⟩,fun a ha b hb=>?_⟩
 ·obtain⟨i,hi,rfl⟩:=List.mem_iff_getElem.mp hb
  have hi':k+i<p.size:=by simp at hi;exact Nat.add_lt_of_lt_sub' hi
  have:=hgt (k+i) (by exact Nat.le_add_right _ _) hi'
  simpa [Array.getD_eq_getD_getElem?,Array.getElem?_eq_getElem hi'] using this
 ·obtain⟨i,hi,rfl⟩:=List.mem_iff_getElem.mp ha
  have hi':i<k:=by simp at hi;lia
  have hi2:i<p.size:=by simp at hi;exact Nat.le_trans hi' h1
  have h6:=h2 i hi'
  have h7:(p.toList.take k)[i]=p.getD i 0:=by simp[Array.getD_eq_getD_getElem?,Array.getElem?_eq_getElem hi2]
  rw[h7]
  rcases List.mem_cons.mp hb with rfl | hb
  ·exact h6
  ·obtain⟨m,hm,rfl⟩:=List.mem_iff_getElem.mp hb
   have hm':k+m<p.size:=by simp at hm;lia
   have:=hgt (k+m) (by exact Nat.le_add_right _ _) hm'
   refine Nat.lt_trans h6 ?_
   simpa [Array.getD_eq_getD_getElem?,Array.getElem?_eq_getElem hm'] using this
theorem Rz.range(n:Nat):Rz (Array.range n):=by
 show(Array.range n).toList.Pairwise (· < ·)
 rw[Array.toList_range]
 exact List.pairwise_lt_range
theorem Z7B{t:SetTable}(h:∀i,t.slot j≠.live i):t.place[SetTable.below t.place j]?≠some j:=by
 intro e
 refine h (SetTable.below t.place j) ?_
 unfold SetTable.slot
 simp[e]
theorem YJ(t:SetTable)(p:SetTable.Probe):(t.advance p).dummy=p.dummy:=by
 unfold SetTable.advance
 split<;>rfl
theorem Z6d:∀(fuel:Nat) (p:SetTable.Probe) (j:Nat) (d:Option Nat),(∀k,p.dummy=some k→t.slot k=.dummy)→SetTable.probe.go t f h fuel p=some (.empty j d)→∀i,t.slot (d.getD j)≠.live i:=by
 intro fuel
 induction fuel with
 |zero=>intro p j d V e;simp[SetTable.probe.go] at e
 |succ fuel ih=>
  intro p j d hd e i
  unfold SetTable.probe.go at e
  cases hs:t.slot p.j with
  |empty=>
   rw[hs] at e
   simp only[Option.some.injEq,SetTable.Met.empty.injEq] at e
   obtain⟨rfl,rfl⟩:=e
   cases hp:p.dummy with
   |none=>simp[hs]
   |some k=>simp[hd k hp]
  |dummy=>
   rw[hs] at e
   exact ih _ j d (fun k hk=>by rw[YJ] at hk;simp at hk;subst hk;exact hs) e i
  |live i'=>
   rw[hs] at e
   dsimp only at e
   split at e
   ·cases e
   ·exact ih _ j d (fun k hk=>by rw[YJ] at hk;exact hd k hk) e i
theorem Z2z{t:SetTable}(e:t.freeSlot h=some (j,w)):t.place[SetTable.below t.place j]?≠some j:=by
 unfold SetTable.freeSlot at e
 split at e
 ·rename_i j' d hp
  simp only[Option.some.injEq,Prod.mk.injEq] at e
  obtain⟨rfl,V⟩:=e
  exact Z7B (Z6d _ _ j' d (fun k hk=>by simp[SetTable.probeStart] at hk) hp)
 ·cases e
noncomputable def TabOk(led:Bool)(t:SetTable):Prop:=Rz t.place∧t.led=led
theorem TabOk.standIn(h:TabOk led t)(n:Nat):TabOk led (t.standIn n):=⟨Rz.range n,h.2⟩
theorem Z6w{led:Bool}(h:TabOk led t)(es:Array (Int×Value))(k:Int)(x:Value):TabOk led (layNew t es k x).2.1:=by
 unfold layNew
 split
 ·rename_i j w e
  have hf:=Z2z e
  have hp:TabOk led (t.put j).1:=⟨h.1.insert hf,h.2⟩
  dsimp only
  unfold SetTable.orStandIn
  split
  ·exact hp
  ·exact hp.standIn _
 ·exact h.standIn _
theorem Zap{led plain:Bool}(e:SetTable.laid mask finger moves led plain hs=some (t,o)):TabOk led t:=by
 unfold SetTable.laid at e
 cases ho:SetTable.layClean mask hs with
 |none=>rw[ho] at e;cases e
 |some owner=>
  rw[ho] at e
  have e':=Option.some.inj e
  have e1:=(Prod.mk.inj e').1
  rw[←e1]
  refine⟨?_,rfl⟩
  show(((List.range (mask+1)).filterMap fun j=>(owner.getD j none).map (j,·)).map (·.1)).toArray.toList.Pairwise (· < ·)
  rw[List.map_filterMap]
  refine List.Pairwise.filterMap _ (R:=(· < ·)) ?_ List.pairwise_lt_range
  intro a a' haa b hb b' hb'
  have h1:b=a:=by
   cases hg:owner.getD a none with
   |none=>simp[hg] at hb
   |some v=>simp[hg] at hb;exact hb.symm
  have h2:b'=a':=by
   cases hg:owner.getD a' none with
   |none=>simp[hg] at hb'
   |some v=>simp[hg] at hb';exact hb'.symm
  rw[h1,h2];exact haa
theorem Z3u{t:SetTable}(h:TabOk led t)(es:Array (Int×Value))(k:Nat):TabOk led (relayAll t es k).2.1:=by
 unfold relayAll
 split
 ·rename_i t' o e
  dsimp only
  split
  ·have:=Zap e
   rw[h.2] at this
   exact this
  ·exact h.standIn _
 ·exact h.standIn _
theorem TabOk.fresh(led:Bool):TabOk led (.fresh 0 0 led):=⟨by show(#[]:Array Nat).toList.Pairwise (· < ·);simp,rfl⟩
theorem TabOk.plainOff(h:TabOk led t)(b:Bool):TabOk led {t with plain:=b}:=⟨h.1,h.2⟩
end
section
open PySem PySem.Spec PySem.Calls PyProof.Rows PySem.W
variable{prog:Program}{w:World}{A:Around}{E:Value→Shared→Prop}{s:Shared}
structure SetT(prog:Program)(w:World)(o:Obj)(S:Int→Bool)(n:Nat)(led:Bool)(es:Array (Int×Value))(ep:Nat)(t:SetTable):Prop where
 ex:o.ExactSet
 data:o.data=.set es ep t
 els:ElemsOf (intKind prog w) es.toList
 mem:∀k,S k=true↔∃e∈es.toList,(intKind prog w).is k e.2=true
 small:es.size<scanBound
 fits:t.fits es.size=true
 size:es.size=n
 tab:TabOk led t
noncomputable def HasT(prog:Program)(w:World)(h:Heap)(a:Addr)(S:Int→Bool)(n:Nat)(led:Bool):Prop:=∃o es ep t,h.get? a=some o∧SetT prog w o S n led es ep t
theorem HasT.of{S S':Int→Bool}(x:HasT prog w h a S n led)(e:h'.get? a=h.get? a)(hS:∀k,S k=S' k)(hn:n=n'):HasT prog w h' a S' n' led:=by
 refine ZbY x fun o es ep t h1 h2=>?_
 have:S=S':=funext hS
 subst this;subst hn
 exact⟨o,es,ep,t,(e).trans (h1),h2⟩
theorem SetT.store{h:Heap}{S S':Int→Bool}(ho:h.get? a=some o)(x:SetT prog w o S n led es ep t)
  (h1:ElemsOf (intKind prog w) es'.toList)(h2:∀k,S' k=true↔∃e∈es'.toList,(intKind prog w).is k e.2=true)(h3:es'.size<scanBound)(h4:t'.fits es'.size=true)(h5:TabOk led t') :
  (h.update a (Obj.putSet es' t')).get? a=some {o with data:=.set es' (ep+1) t'}∧SetT prog w {o with data:=.set es' (ep+1) t'} S' es'.size led es' (ep+1) t':=
 ⟨(SetOf_store (knd:=intKind prog w) ho x.ex x.data h1 h2 h3 h4).1,⟨x.ex,rfl,h1,h2,h3,h4,rfl,h5⟩⟩
theorem Z46(h:Q' () s₁):wpAny (model prog w) A (match b with | true=>rule "set.scan.the-table-gave-way" | false=>pure ()) Q' E s₁:=by
 cases b
 ·exact wpAny_pure h
 ·exact wpAny_rule h
theorem Z0P{a:Addr}{S S':Int→Bool}(ho:s.heap.get? a=some o)(x:SetT prog w o S n led es ep t)
  (h1:ElemsOf (intKind prog w) es1.toList)(h2:∀k,S' k=true↔∃e∈es1.toList,(intKind prog w).is k e.2=true)(h3:es1.size<scanBound)(h4:t2.fits es1.size=true)(h5:TabOk led t2)
  {g:Bool→Sem Unit}(hg:∀(b:Bool) (s₁:Shared) (Q':Unit→Shared→Prop),Q' () s₁→wpAny (model prog w) A (g b) Q' E s₁)
  (h:∀h',Heap.SameBut a s.heap h'→HasT prog w h' a S' es1.size led→R (some true) {s with heap:=h'}) :
  wpAny (model prog w) A (do
    storeSet a es1 t2
    if(!wasDummy&&t2.tooFull)=true then do
      g (relayAll t2 es1 (SetTable.grown es1.size)).2.2
      storeSet a (relayAll t2 es1 (SetTable.grown es1.size)).1 (relayAll t2 es1 (SetTable.grown es1.size)).2.1
      pure (some true)
     else pure (some true)) R E s:=by
 refine wpAny_bind (wpAny_storeSet_of ho x.data ?_ (fits_of_scanBound h3))
 refine ZG (x.store (S':=S') ho h1 h2 h3 h4 h5) fun ho1 x1=>?_
 have sb:=Heap.SameBut.update s.heap a (Obj.putSet es1 t2)
 split
 ·have hp:=relayAll_perm t2 es1 (SetTable.grown es1.size)
  have hf:=relayAll_fits t2 es1 (SetTable.grown es1.size)
  have ht:=Z3u h5 es1 (SetTable.grown es1.size)
  generalize relayAll t2 es1 (SetTable.grown es1.size)=Rl at hp hf ht ⊢
  obtain⟨es2,t3,gave⟩:=Rl
  dsimp only at hp hf ht ⊢
  have hsz:es2.size=es1.size:=by rw[←Array.length_toList,hp.length_eq,Array.length_toList]
  refine wpAny_bind (hg _ _ _ ?_)
  refine wpAny_bind (wpAny_storeSet_of ho1 rfl ?_ (fits_of_scanBound (by rw[hsz];exact h3)))
  obtain⟨ho2,x2⟩:=x1.store (S':=S') ho1 (h1.perm hp) (fun k=>(h2 k).trans ⟨fun z₀=>Z4 z₀ fun e he q=>⟨e,hp.mem_iff.mpr he,q⟩,fun z₀=>Z4 z₀ fun e he q=>⟨e,hp.mem_iff.mp he,q⟩⟩) (by rw[hsz];exact h3) hf ht
  rw[hsz] at x2
  exact wpAny_pure (h _ (sb.trans (Heap.SameBut.update _ a _)) ⟨_,_,_,_,ho2,x2⟩)
 ·exact wpAny_pure (h _ sb ⟨_,_,_,_,ho1,x1⟩)
theorem Z69{S:Int→Bool}(hk:(intKind prog w).is k x=true)(hsc:x.scannable=true)(hS:HasT prog w s.heap a S n led)(hroom:n+1<scanBound)
  (h:∀h',Heap.SameBut a s.heap h'→HasT prog w h' a (fun k'=>S k'||decide (k'=k)) (if S k then n else n+1) led→Q (!S k) {s with heap:=h'}) :
  wpAny (model prog w) A (setAddHashed a x ((intKind prog w).hash k)) Q E s:=by
 refine ZbY hS fun o es ep t ho z=>?_
 have hb1:es.size+1<scanBound:=by rw[z.size];exact hroom
 refine wpAny_holding (wpAny_bind (wpAny_setState_of ho z.data z.fits ?_))
 dsimp only
 rw[byScan_of hsc z.small z.els]
 refine wpAny_bind (wpAny_bind (wpAny_rule (wpAny_bind (wpAny_setScan_of hk ho z.data z.fits z.els ?_))))
 cases hr:List.findIdx? (fun e=>(intKind prog w).is k e.2) es.toList with
 |some j=>
  obtain⟨hj,hpj,V⟩:=List.findIdx?_eq_some_iff_getElem.mp hr
  have hSk:S k=true:=(z.mem k).mpr ⟨es.toList[j],List.getElem_mem hj,hpj⟩
  refine wpAny_pure (wpAny_pure ?_)
  have hm':∀k',(S k'||decide (k'=k))=true↔∃e∈es.toList,(intKind prog w).is k' e.2=true:=fun k'=>by
   rw[Bool.or_eq_true,decide_eq_true_eq,←z.mem k']
   exact⟨fun hk=>hk.elim id (fun e=>e▸hSk),.inl⟩
  have:=h s.heap (Heap.SameBut.refl a s.heap) ⟨o,es,ep,t,ho,{z with mem:=hm',size:=(by rw[hSk];exact z.size)}⟩
  rw[hSk] at this
  exact this
 |none=>
  have hSk:S k=false:=by
   cases hk':S k with
   |false=>rfl
   |true=>
    refine Z4 ((z.mem k).mp hk') fun e he hp=>?_
    have:=List.findIdx?_eq_none_iff.mp hr e he
    rw[hp] at this;exact Bool.noConfusion this
  have hp:=layNew_perm t es ((intKind prog w).hash k) x
  have hf:=layNew_fits t es ((intKind prog w).hash k) x
  have ht:=Z6w z.tab es ((intKind prog w).hash k) x
  generalize layNew t es ((intKind prog w).hash k) x=L at hp hf ht ⊢
  obtain⟨es1,t1,wasDummy,gave⟩:=L
  dsimp only at hp hf ht ⊢
  rw[Array.toList_push] at hp
  have h1:ElemsOf (intKind prog w) es1.toList:=(z.els.push hk hsc).perm hp
  have h2:∀k',(S k'||decide (k'=k))=true↔∃e∈es1.toList,(intKind prog w).is k' e.2=true:=mem_push_iff hk z.mem hp
  have hsz:es1.size=n+1:=by rw[←Array.length_toList,hp.length_eq,List.length_append,Array.length_toList,z.size];rfl
  have h3:es1.size<scanBound:=by rw[hsz];exact hroom
  have hend:∀h',Heap.SameBut a s.heap h'→HasT prog w h' a (fun k'=>S k'||decide (k'=k)) es1.size led→Q true {s with heap:=h'}:=by
   intro h' hsb hS'
   have:=h h' hsb
   rw[hSk] at this;rw[hsz] at hS'
   exact this hS'
  refine wpAny_bind (Z46 ?_)
  split
  ·refine wpAny_bind ?_
   rw[hashByValue_scannable 8 hsc]
   refine wpAny_pure ?_
   refine Z0P ho z h1 h2 h3 ?_ ?_ (fun b s₁ Q' hq=>Z46 hq) fun h' hsb hS'=>?_
   ·split
    ·exact hf
    ·exact SetTable.fits_plain_off hf
   ·split
    ·exact ht
    ·exact ht.plainOff _
   ·dsimp only;exact wpAny_pure (hend h' hsb hS')
  ·refine wpAny_bind (wpAny_pure ?_)
   refine Z0P ho z h1 h2 h3 hf ht (fun b s₁ Q' hq=>Z46 hq) fun h' hsb hS'=>?_
   dsimp only;exact wpAny_pure (hend h' hsb hS')
end
section
open PySem PySem.Spec PySem.Calls PyProof.Rows PySem.W Builtin
variable{K:Wd}{B:Base}{α β:Type}{A:Around}{g:Gh}{n:Nat}{env:Env}
variable{b:Gh}{S':List Addr}{fn:List Nat}{cs:List Addr}{nm:List (Str×NameKind)}{σ σ':List (Option D)}{own:List (Addr×MO)}
noncomputable def ledOf(w:World):Bool:=!(w.params.followText "set-order")
noncomputable def SetAt(K:Wd)(o:Obj)(l:List Int):Prop:=∃es ep t,SetT K.prog K.w o (fun k=>l.any (· == k)) l.length (ledOf K.w) es ep t
theorem Z9O(l:List Int)(σ:List Int):(l.foldl step_dedup σ).length≤σ.length+l.length:=by
 induction l generalizing σ with
 |nil=>simp
 |cons x l ih=>
  rw[List.foldl_cons,List.length_cons]
  have:=ih (step_dedup σ x)
  rw[step_length] at this
  split at this<;>lia
theorem Z1b{S:Addr}{St:List D→Gh→Prop}(I:It K it T R St)(hST:S∉T)(hSR:S∉R)(hh:A.handled=none) :
  ∀(ns acc:List Int) (g g₀:Gh) (s:Shared),St (ns.map .int) g→(∃o,g.mu S=some o∧SetAt K o acc)→acc.length+ns.length+1<scanBound→LeX (S::T) g₀ g→g.Ok K.B s→
   (∀s' g',g'.Ok K.B s'→LeX (S::T) g₀ g'→(∃o,g'.mu S=some o∧SetAt K o (ns.foldl step_dedup acc))→Rr (.ok (.ret .none)) s')→
   codeAny (model K.prog K.w) A (.builtin "set.update.loop" ⟨[.ref S,it],[]⟩) Rr s:=by
 intro ns
 induction ns with
 |nil=>
  intro acc g g₀ s st hS hsz l ok hR
  refine codeAny_builtin PyProof.Rows.F.entry_set_update_loop ?_
  rw[Around.under_plainId PyProof.Rows.F.plain_set_update_loop _]
  show wpAny _ A.in1 (pyNext it>>=_) _ _ s
  refine wpAny_bind (wpAny_mono (I.done (A:=A.in1) hh st s (fun V V=>False) ok) (fun r s₁ z₀=>Zm z₀ fun g₁ ok₁ l₁ e=>?_) fun V V z=>z.elim)
  subst e
  refine Z4 hS fun o h1 h2=>?_
  exact wpAny_pure (hR s₁ g₁ ok₁ (l.trans (l₁.sub fun a h=>by exact .tail _ h)) ⟨o,l₁.mu _ _ hST h1,h2⟩)
 |cons x ns ih=>
  intro acc g g₀ s st hS hsz l ok hR
  refine codeAny_builtin PyProof.Rows.F.entry_set_update_loop ?_
  rw[Around.under_plainId PyProof.Rows.F.plain_set_update_loop _]
  show wpAny _ A.in1 (pyNext it>>=_) _ _ s
  refine wpAny_bind (wpAny_mono (I.item (A:=A.in1) hh st s (fun V V=>False) ok) (fun r s₁ z₀=>Zm z₀ fun g₁ ok₁ l₁ v00=>Zm v00 fun v e hv hgo=>?_) fun V V z=>z.elim)
  subst e
  refine Zi (Zo hv) ?_
  rintro tk rfl
  have hX:∀(X:Sem Fin),wpAny (model K.prog K.w) A.in1 (letOwnedTupleGo (.Constant .none 0 ⟨0,0,0,0⟩) it (.int x tk)>>=fun V=>X) (fun fin s'=>match fin with | .done f=>Rr (.ok f) s' | .again c'=>c'.quiet=true∧codeAny (model K.prog K.w) A c' Rr s') (fun e s'=>Rr (.error e) s') s₁→wpAny (model K.prog K.w) A.in1 X (fun fin s'=>match fin with | .done f=>Rr (.ok f) s' | .again c'=>c'.quiet=true∧codeAny (model K.prog K.w) A c' Rr s') (fun e s'=>Rr (.error e) s') s₁:=fun X h=>h
  show wpAny _ A.in1 (holding [Value.int x tk] (setAdd S (.int x tk))>>=fun V=>again (.builtin "set.update.loop" ⟨[.ref S,it],[]⟩)) _ _ s₁
  refine hX _ (wpAny_bind (wpAny_mono (hgo (.Constant .none 0 ⟨0,0,0,0⟩) A.in1 s₁ (fun V V=>False) ok₁) (fun V s₂ z₀=>Zm z₀ fun g₂ ok₂ l₂ st₂=>?_) fun V V z=>z.elim))
  obtain⟨o,h1,es,ep,t,h2⟩:=hS
  have hS₂:g₂.mu S=some o:=l₂.mu _ _ hST (l₁.mu _ _ hST h1)
  refine wpAny_bind (wpAny_holding ?_)
  refine wpAny_holding (wpAny_bind ((intKind K.prog K.w).pyHash (k:=x) (intKind_is _ _ _ _) ?_))
  refine Z69 (s:={s₂ with toks:=s₂.toks+1}) (S:=fun k=>acc.any (· == k)) (n:=acc.length) (led:=ledOf K.w) (intKind_is _ _ _ _) rfl ⟨o,es,ep,t,ok₂.mu _ _ hS₂,h2⟩ (by lia) fun h' sb hS'=>?_
  have hS3:=hS'.of (h':=h') rfl (S':=fun k=>(step_dedup acc x).any (· == k)) (fun k=>(step_any acc x k).symm) (step_length acc x).symm
  refine ZbY hS3 fun o' es' ep' t' e1 e2=>?_
  have ok₃:=ok₂.sameBut (tk:=s₂.toks+1) hS₂ sb e1
  have l₃:LeX [S] g₂ (g₂.setMu S o'):=LeX.setMu
  refine wpAny_pure ⟨plainId_quiet PyProof.Rows.F.plain_set_update_loop _,ih (step_dedup acc x) _ g₀ _ (I.frame st₂ l₃ fun a ha=>by clear ok₃ e2 hS3 hS' sb h2 hX hgo hR hsz ih;simp at ha;subst ha;exact⟨hST,hSR⟩) ⟨o',ZcI,es',ep',t',e2⟩ ?_ ?_ ok₃ fun s' g' ok' l' hS'=>hR s' g' ok' l' hS'⟩
  ·rw[step_length];simp at hsz;split<;>lia
  ·exact l.trans ((l₁.sub (fun a h=>by exact .tail _ h)).trans ((l₂.sub (fun a h=>by exact .tail _ h)).trans (l₃.sub (by exact Zr (.head _)))))
theorem Z5A(v:Value)
  (h:Q₁ (.ref s.heap.objs.size) {s with heap:=s.heap.push {cls:=.type "set",dict:=none,data:=.set #[] 0 (.fresh 0 0 (ledOf K.w))}}) :
  codeAny (model K.prog K.w) A (.call (.builtin "set.__new__") ⟨[.type "set",v],[]⟩) (wants Q₁ E) s:=by
 refine codeAny_of_tree ?_
 show wpAny _ A.in1 (do checkBuiltinCall "set.__new__" ⟨[.type "set",v],[]⟩;again (.builtin "set.__new__" ⟨[.type "set",v],[]⟩)) _ _ s
 refine wpAny_bind (wpAny_of_eq (PySem.F.newCall_set_1 v) (wpAny_pure ⟨plainId_quiet PySem.F.plain_set_new _,codeAny_builtin PySem.F.entry_set_new ?_⟩))
 rw[Around.under_plainId PySem.F.plain_set_new _]
 have hsub:=sub_set_self
 wp_walk
 refine wpAny_askSetting (wpAny_pure ?_)
 refine wpAny_bind (wpAny_alloc (wpAny_pure ?_))
 exact wpAny_pure h
set_option maxHeartbeats 3200000 in
theorem Z2k
  (hol:s.heap.get? lv=some (sq "list" its m))(hN₁:s.heap.get? N=some {cls:=.type "set",dict:=none,data:=.set #[] 0 (.fresh 0 0 led)})
  (h:wpAny (model prog w) A (pyIter (.ref lv)) (fun it s'=>wpAny (model prog w) A (do let _ ←runValue (.builtin "set.update.loop" ⟨[.ref N,it],[]⟩);pure ()) (fun V s'=>wpAny (model prog w) A (ret Value.none) P E s') E s') E s) :
  wpAny (model prog w) A (Builtin.«set.__init__» ⟨[.ref N,.ref lv],[]⟩) P E s:=by
 have hsls:=PySem.F.sub_list_set
 have hslf:=PySem.F.sub_list_frozenset
 have hne:(Value.type "list" == Value.type "dict")=false:=by decide
 unfold sq at hol
 obtain⟨hp₁,gn₁,dr₁,tk₁,os₁⟩:=s
 dsimp only at hol hN₁
 unfold Builtin.«set.__init__» noKeywords Builtin.Frozenset.updateFrom
 generalize hPI:pyIter=PI at h ⊢
 wp_walk
 exact h
set_option maxHeartbeats 3200000 in
theorem Z10{ns:List Int}(hh:A.handled=none)(hv:Zu g.im (.lst (ns.map .int)) v)(hsz:ns.length≤4000)
  (q:∀S o g',Le g g'→g'.im S=some o→SetAt K o (ns.foldl step_dedup [])→Q (.ref S) g'):gwp K A (call (.type "set") [v]) Q g:=fun s E ok=>by
 obtain⟨lv,its,m,rfl,hlv,hr⟩:=Zj.mp hv
 obtain⟨c,tl,hmro⟩:=PySem.F.called_set.mro
 have hmade:=PySem.F.called_set.made
 have hsub:=PySem.F.called_set.sub
 refine wpAny_call (codeAny_of_tree ?_)
 show wpAny _ _ (callAny (.type "set") _) _ _ _
 refine wpAny_pure ⟨Code.quiet_builtin _ (by decide +kernel),codeAny_builtin PySem.F.entry_type_call ?_⟩
 rw[Around.under_plain (weight_type_call_type "set" [.ref lv] []) rfl]
 have h1:=PySem.F.called_set.notType
 have h2:=PySem.F.called_set.canCreate
 have hct:=PySem.F.typeCall_set_1 (.ref lv)
 repeat (any_goals (first | assumption | wp_step))
 refine codeAny_mono (Z5A (.ref lv) (E:=E) (Q₁:=fun obj s₁=>obj=.ref s.heap.objs.size∧s₁ = {s with heap:=s.heap.push {cls:=.type "set",dict:=none,data:=.set #[] 0 (.fresh 0 0 (ledOf K.w))}}) ⟨rfl,rfl⟩) fun r s₁ hr₁=>?_
 cases r with
 |error e=>exact hr₁
 |ok fl=>
  cases fl with
  |ret obj=>
   obtain⟨rfl,rfl⟩:=hr₁
   have fr:=ok.fresh
   have ok₁:=ok.pushMu (o:={cls:=.type "set",dict:=none,data:=.set #[] 0 (.fresh 0 0 (ledOf K.w))}) rfl
   have hT:Shared.TypeIs {s with heap:=s.heap.push {cls:=.type "set",dict:=none,data:=.set #[] 0 (.fresh 0 0 (ledOf K.w))}} (.ref s.heap.objs.size) "set":=⟨_,Heap.get?_push_size _ rfl,rfl⟩
   generalize hN:s.heap.objs.size=N at *
   generalize hs₁:({s with heap:=s.heap.push {cls:=.type "set",dict:=none,data:=.set #[] 0 (.fresh 0 0 (ledOf K.w))}}:Shared)=s₁ at *
   have hli:=PySem.F.called_set.init.lookup
   have hbi:=PySem.F.called_set.init.bind (.ref N)
   repeat (any_goals (first | assumption | wp_step))
   refine codeAny_mono (codeAny_call_builtin (R:=wants (fun r s₂=>r=.none∧∃g' o,g'.Ok K.B s₂∧Le g g'∧g'.im N=some o∧SetAt K o (ns.foldl step_dedup [])) (fun V V=>False)) PySem.F.called_set.init.plain PySem.F.entry_set_init (check_set_init_1 hT ?_)) fun r₂ s₂ hr₂=>?_
   ·have l₁:Le g (g.setMu N {cls:=.type "set",dict:=none,data:=.set #[] 0 (.fresh 0 0 (ledOf K.w))}):=ZcL fr.2
    have hS₁:(g.setMu N {cls:=.type "set",dict:=none,data:=.set #[] 0 (.fresh 0 0 (ledOf K.w))}).mu N=some {cls:=.type "set",dict:=none,data:=.set #[] 0 (.fresh 0 0 (ledOf K.w))}:=ZcI
    have hSA:SetAt K {cls:=.type "set",dict:=none,data:=.set #[] 0 (.fresh 0 0 (ledOf K.w))} []:=⟨#[],0,_,⟨⟨rfl,rfl,rfl⟩,rfl,(fun e he=>by simp at he),(fun k=>by simp),by decide,by rfl,rfl,TabOk.fresh _⟩⟩
    generalize hob:({cls:=.type "set",dict:=none,data:=.set #[] 0 (.fresh 0 0 (ledOf K.w))}:Obj)=ob at *
    generalize hg₁:g.setMu N ob=g₁ at *
    have ok₁':g₁.Ok K.B s₁:=ok₁
    have hol:=ok₁'.im _ _ (l₁.im _ _ hlv)
    have hN₁:=ok₁'.mu _ _ hS₁
    rw[←hob] at hN₁
    refine Z2k hol hN₁ ?_
    have hh2:A.in1.in1.handled=none:=hh
    refine wpAny_mono (Z9q (A:=A.in1.in1) (hv.mono l₁.im) s₁ (fun V V=>False) ok₁') (fun it s₂ z₀=>Zm z₀ fun g₂ ok₂ l₂ v00=>Zw v00 fun T St I st hT=>?_) fun V V z=>z.elim
    have hNT:N∉T:=fun h=>by
     have:=(hT N h).1
     cases((hS₁).symm.trans this)
    refine wpAny_bind (wpAny_runValue (Z1b I hNT (by exact List.not_mem_nil) (by exact hh2) ns [] g₂ g₂ s₂ st ⟨_,l₂.at hS₁,hSA⟩ (by simp[scanBound];lia) (LeX.refl _ _) ok₂ fun s₃ g₃ ok₃ l₃ z₀=>Z4 z₀ fun o₃ hS₃ hSA₃=>?_))
    have hi₃:g₃.im N=none:=by
     cases e:g₃.im N with
     |none=>rfl
     |some o=>exact(ok₃.dis _ _ _ e hS₃).elim
    refine wpAny_pure (wpAny_pure ⟨rfl,g₃.fix N o₃,o₃,ok₃.fix hS₃,?_,ZcO,hSA₃⟩)
    have l₄:LeX (N::T) g₁ (g₃.fix N o₃):=(LeX.of l₂).trans (l₃.trans ((LeX.fix hi₃).sub (by simp)))
    have l₅:LeX (N::T) g (g₃.fix N o₃):=(LeX.of l₁).trans l₄
    refine l₅.forget fun a ha=>.inr ?_
    rcases List.mem_cons.mp ha with rfl | ha
    ·exact fr.2
    ·exact l₁.nomu (hT a ha).1
   ·cases r₂ with
    |error e=>exact hr₂.elim
    |ok fl₂=>
     cases fl₂ with
     |ret r=>
      obtain⟨rfl,g',o',ok',l',h',hSA'⟩:=hr₂
      repeat (any_goals (first | assumption | wp_step))
      exact⟨g',ok',q _ _ _ l' h' hSA'⟩
     |_=>exact hr₂.elim
  |_=>exact hr₁.elim
end
section
open PySem PySem.Spec PySem.Calls PyProof.Rows PySem.W
namespace FM
open PySem.F
theorem Z2O:Manifest.owners.lookup (String.ofList ['r', 'o', 't', 'a', 'r', 'e', 't', 'i', '_', 't', 'e', 's'].reverse)=some Manifest.sig_set_iterator:=by kernel_rfl
theorem slot_setit_next:Slot "set_iterator" "__next__" "set_iterator.__next__":=
 .of (owner:= "set_iterator") (n:= "__next__") (by rw[typeLookup_type,builtinLookup_eq_fast];kernel_rfl) (by decide +kernel) (by decide +kernel) (by decide +kernel)
  (by first | exact .inl (by decide +kernel) | exact .inr (by decide +kernel)) (by rw[isSubtype_type];kernel_rfl)
theorem slot_setit_iter:Slot "set_iterator" "__iter__" "set_iterator.__iter__":=
 .of (owner:= "set_iterator") (n:= "__iter__") (by rw[typeLookup_type,builtinLookup_eq_fast];kernel_rfl) (by decide +kernel) (by decide +kernel) (by decide +kernel)
  (by first | exact .inl (by decide +kernel) | exact .inr (by decide +kernel)) (by rw[isSubtype_type];kernel_rfl)
theorem entry_setit_next:entryFor table "set_iterator.__next__" = some Builtin.«set_iterator.__next__»:=entryFor_of_tree (by kernel_rfl)
theorem args_setit_next(a:Value):argsOk "set_iterator.__next__" ⟨[a],[]⟩:=by
 unfold argsOk;rw[signature?_of (id:= "set_iterator.__next__") (n:=['_', '_', 't', 'x', 'e', 'n', '_', '_']) (o:=['r', 'o', 't', 'a', 'r', 'e', 't', 'i', '_', 't', 'e', 's']) (by kernel_rfl) Z2O];kernel_rfl
theorem entry_set_iter':entryFor table "set.__iter__" = some Builtin.«frozenset.__iter__»:=
 entryFor_alias (id':= "frozenset.__iter__") (by kernel_rfl) rfl (by decide +kernel) (by kernel_rfl)
end FM
open Builtin
variable{K:Wd}{B:Base}{α β:Type}{A:Around}{g:Gh}{n:Nat}{env:Env}
variable{b:Gh}{S':List Addr}{fn:List Nat}{cs:List Addr}{nm:List (Str×NameKind)}{σ σ':List (Option D)}{own:List (Addr×MO)}
theorem YZ:∀(xs:List α) (i:Nat) (h:i<xs.length),(xs[i]::xs.eraseIdx i).Perm xs
 |[],i,h=>by cases h
 |x::xs,0,h=>.refl _
 |x::xs,i+1,h=>by
  have h':i<xs.length:=by exact Nat.lt_of_succ_lt_succ h
  show(xs[i]::x::xs.eraseIdx i).Perm (x::xs)
  exact(List.Perm.swap _ _ _).trans ((YZ xs i h').cons x)
theorem Z6G(hn:n≠0)(q:∀x,x<n→Q x g):gwp K A (choose src n) Q g:=fun s E ok Γ p hΓ=>by
 show n≠0∧_
 exact⟨hn,g,ok.any rfl rfl ok.gens,q _ (Nat.mod_lt _ (Nat.pos_of_ne_zero hn))⟩
theorem Z2x:∀(k:Nat) (xs:List α),xs.length=k→gwp K A (drawOrder k xs) (fun ys g'=>g'=g∧ys.Perm xs) g:=by
 intro k
 induction k with
 |zero=>
  intro xs h
  have:xs=[]:=List.length_eq_zero_iff.mp h
  subst this
  exact Z6 ⟨rfl,.nil⟩
 |succ k ih=>
  intro xs h
  cases xs with
  |nil=>cases h
  |cons x xs=>
   refine Z0 (Z6G (by exact Nat.succ_ne_zero _) fun i hi=>?_)
   have hi':i<(x::xs).length:=hi
   rw[List.getElem?_eq_getElem hi']
   refine Z0 (Zg (ih ((x::xs).eraseIdx i) (by rw[List.length_eraseIdx_of_lt hi',h];rfl)) fun ys g' e hp=>Z6 ⟨e,?_⟩)
   refine(hp.cons _).trans ?_
   exact YZ _ _ hi'
theorem Z3z(f:Nat→Nat):∀(k j:Nat) (xs:List α) (out:Array α),xs.length=k→(pickOrder.go f k j xs out).toList.Perm (out.toList++xs):=by
 intro k
 induction k with
 |zero=>
  intro j xs out h
  have:xs=[]:=List.length_eq_zero_iff.mp h
  subst this
  simp[pickOrder.go]
 |succ k ih=>
  intro j xs out h
  unfold pickOrder.go
  have hi:f j%xs.length<xs.length:=Nat.mod_lt _ (by lia)
  rw[List.getElem?_eq_getElem hi]
  refine(ih (j+1) _ _ (by rw[List.length_eraseIdx_of_lt hi,h];rfl)).trans ?_
  rw[Array.toList_push,List.append_assoc]
  exact List.Perm.append_left _ (YZ _ _ hi)
theorem Z1C(f:Nat→Nat)(xs:Array α):(pickOrder f xs).toList.Perm xs.toList:=by
 have:=Z3z f xs.size 0 xs.toList #[] (by exact rfl)
 simpa [pickOrder] using this
theorem JY(ho:g.has a o)(hd:o.data=.set es ep t)(hf:t.fits es.size=true)(q:Q (es,ep,t) g):gwp K A (setState a) Q g:=fun s E ok=>
 wpAny_setState_of (ho.get ok) hd hf ⟨g,ok,q⟩
theorem Z1S(ho:g.has a o)(hd:o.data=.set es ep t)(hf:t.fits es.size=true)(q:Q es g):gwp K A (setEntries a) Q g:=fun s E ok=>
 wpAny_setEntries_of (ho.get ok) hd hf ⟨g,ok,q⟩
theorem QT(q:Q (!ledOf K.w) g):gwp K A setsByText Q g:=fun s E ok=>by
 refine wpAny_bind (wpAny_askSetting (wpAny_pure ⟨g,ok,?_⟩))
 have:K.w.params.followText "set-order" = !ledOf K.w:=by unfold ledOf;simp
 show Q (K.w.params.followText "set-order") g
 rw[this];exact q
theorem Z3V(ho:g.has a o)(hd:o.data=.fields vs)(q:Q vs g):gwp K A (fieldsOf (.ref a)) Q g:=fun s E ok=>wpAny_fieldsOf (ho.get ok) hd ⟨g,ok,q⟩
noncomputable abbrev siObj(first:Value)(i:Nat)(S:Addr)(n ep:Nat):Obj:=fo "set_iterator" #[first,rawInt i,.ref S,rawInt n,rawInt ep]
noncomputable def IntV(e:Int×Value)(k:Int):Prop:=∃tk,e.2=.int k tk
inductive Mode(K:Wd)(S:Addr)(es:Array (Int×Value))(ep:Nat)(t:SetTable)(seq:List (Int×Value))(i:Nat)(first:Value)(g:Gh):Prop where
 |text (slot:Nat) (h1:ledOf K.w=false) (h2:seq=(pickOrder (K.w.params.setOrder S ep) es).toList) (h3:first=rawInt slot):Mode K S es ep t seq i first g
 |order (slot:Nat) (h1:ledOf K.w=true) (h2:seq=es.toList) (h3:first=rawInt slot) (h4:SetTable.below t.place slot=i) (h5:(!t.plain&&decide (es.size>1))=false):Mode K S es ep t seq i first g
 |draw (P:Addr) (ps:List Nat) (m:Nat) (h1:first=.ref P) (h2:g.im P=some (sq "tuple" (ps.map fun p:Nat=>rawInt p).toArray m)) (h3:ps.map (fun p=>es[p]?)=seq.map some):Mode K S es ep t seq i first g
noncomputable def ivD(e:Int×Value):D:=match e.2 with | .int k _=>.int k | _=>.int 0
structure SiAt(K:Wd)(S it:Addr)(o:Obj)(es:Array (Int×Value))(ep:Nat)(t:SetTable)(seq:List (Int×Value))(i:Nat)(first:Value)(g:Gh):Prop where
 data:o.data=.set es ep t
 fits:t.fits es.size=true
 tab:TabOk (ledOf K.w) t
 im:g.im S=some o
 it:g.mu it=some (siObj first i S es.size ep)
 mode:Mode K S es ep t seq i first g
 len:seq.length=es.size
 allInt:∀e∈seq,∃k,IntV e k
noncomputable def SiSt(K:Wd)(S it:Addr)(ds:List D)(g:Gh):Prop:=∃o es ep t seq i first,SiAt K S it o es ep t seq i first g∧ds=(seq.drop i).map ivD
theorem Z6U(h:Rz p)(hi:i<p.size):SetTable.below p (p.getD i 0+1)=i+1:=by
 obtain⟨h1,h2,h3⟩:=Z2c h (p.getD i 0+1)
 generalize SetTable.below p (p.getD i 0+1)=k at *
 rcases Nat.lt_trichotomy k (i+1) with hk | hk | hk
 ·exfalso
  have:=h3 i (by exact Nat.le_of_lt_succ hk) hi
  exact Nat.lt_irrefl _ this
 ·exact hk
 ·exfalso
  have h4:=h2 (i+1) hk
  have:=h.lt (show i<i+1 by exact Nat.le_refl _) (by exact Nat.lt_of_lt_of_le ‹_› ‹_›)
  exact absurd this (Nat.not_le.mpr h4)
theorem Z6T:SetTable.below p 0=0:=by
 by_cases h:0<SetTable.below p 0
 ·exfalso
  have go:∀(fuel lo hi:Nat),SetTable.below.go p 0 fuel lo hi=lo:=by
   intro fuel
   induction fuel with
   |zero=>intros;rfl
   |succ f ih=>
    intro lo hi
    unfold SetTable.below.go
    split
    ·rw[if_neg (by lia)];exact ih _ _
    ·rfl
  unfold SetTable.below at h
  rw[go] at h;exact Nat.lt_irrefl _ h
 ·lia
theorem Z9D(q:Q ⟨K.prog,K.w.params⟩ g):gwp K A ask Q g:=fun s E ok=>wpAny_askSetting ⟨g,ok,q⟩
theorem Qy{S:Addr}(h1:ledOf K.w=false)(ho:g.has S o)(hd:o.data=.set es ep t)(hf:t.fits es.size=true)
  (q:Q (((pickOrder (K.w.params.setOrder S ep) es)[i]?).map fun e=>(e.2,slot)) g):gwp K A (setNext S slot i ep) Q g:=by
 refine Z0 (JY ho hd hf ?_)
 refine Z0 (QT ?_)
 rw[h1]
 simp only[Bool.not_false,if_true,bne_self_eq_false,Bool.false_eq_true,if_false]
 refine Z0 ?_
 refine Z0 (JY ho hd hf ?_)
 refine Z0 (QT ?_)
 rw[h1]
 refine Z0 (Z9D (Z6 ?_))
 exact Z6 q
theorem Qi{S:Addr}(h1:ledOf K.w=true)(hl:t.led=true)(h5:(!t.plain&&decide (es.size>1))=false)(ho:g.has S o)(hd:o.data=.set es ep t)(hf:t.fits es.size=true)
  (q:Q (match es[SetTable.below t.place slot]?,t.place[SetTable.below t.place slot]? with | some (_,x),some j=>some (x,j+1) | _,_=>none) g):gwp K A (setNext S slot i ep) Q g:=by
 refine Z0 (JY ho hd hf ?_)
 refine Z0 (QT ?_)
 rw[h1]
 simp only[Bool.not_true,Bool.false_eq_true,if_false]
 split
 ·rename_i hc
  exact absurd (show(!t.plain&&decide (es.size>1))=true from hc) (by rw[h5];simp)
 ·refine Z0 ?_
  show gwp K A (if(!t.led&&!es.isEmpty)=true then unsupported "set:maker-not-led" else pure ()) _ g
  rw[hl]
  exact Z6 (Z6 q)
theorem Z66{S it:Addr}(st:SiSt K S it (d::ds) g):gwp K A (Builtin.«set_iterator.__next__» ⟨[.ref it],[]⟩) (fun fin g'=>∃v,fin=.done (.ret v)∧LeX [it] g g'∧Zu g'.im d v∧SiSt K S it ds g') g:=by
 refine cps fun Q₀ k₀=>?_
 obtain⟨o,es,ep,t,seq,i,first,st,hds⟩:=st
 have hi:i<seq.length:=by
  rcases Nat.lt_or_ge i seq.length with h | h
  ·exact h
  ·rw[List.drop_eq_nil_of_le h] at hds;cases hds
 rw[List.drop_eq_getElem_cons hi] at hds
 obtain⟨k,tk,hk⟩:=st.allInt _ (List.getElem_mem hi)
 have hd:d=D.int k∧ds=(seq.drop (i+1)).map ivD:=by
  simp only[List.map_cons,List.cons.injEq] at hds
  refine⟨?_,hds.2⟩
  rw[hds.1,ivD,hk]
 clear hds;obtain⟨rfl,rfl⟩:=hd
 refine Z0 (m:=slotArgs _ _ _) (Qz rfl (Z6 ?_))
 refine Z0 (Z3V (.inr st.it) rfl ?_)
 refine Z0 (Z1S (.inl st.im) st.data st.fits ?_)
 rw[if_neg (by lia)]
 have hit:=st.it
 have hmo:=st.mode
 have hput:∀(first':Value),(∀g',g'.im=g.im→Mode K S es ep t seq (i+1) first' g')→SiSt K S it ((seq.drop (i+1)).map ivD) (g.setMu it (siObj first' (i+1) S es.size ep)):=fun first' hm=>
  ⟨o,es,ep,t,seq,i+1,first',⟨st.data,st.fits,st.tab,st.im,ZcI,hm _ rfl,st.len,st.allInt⟩,rfl⟩
 cases hmo with
 |text slot h1 h2 h3=>
  subst h3
  simp only[Int.toNat_natCast]
  refine Z0 (Qy h1 (.inl st.im) st.data st.fits ?_)
  have e:(pickOrder (K.w.params.setOrder S ep) es)[i]? = some seq[i]:=by
   rw[←Array.getElem?_toList,←h2];exact List.getElem?_eq_getElem hi
  rw[e]
  refine Z0 (ZH hit (by exact Nat.succ_pos _) ?_)
  refine Z0 (ZH ZcI (by simp) (Z6 ?_))
  rw[Y3]
  refine(k₀ _ _ ⟨_,rfl,LeX.setMu,by rw[hk];exact Zp,?_⟩)
  exact hput (rawInt slot) fun g' e=>.text slot h1 h2 rfl
 |order slot h1 h2 h3 h4 h5=>
  subst h3
  dsimp only[rawInt]
  simp only[Int.toNat_natCast]
  refine Z0 (Qi h1 (st.tab.2.trans h1) h5 (.inl st.im) st.data st.fits ?_)
  rw[h4]
  have hsz:t.place.size=es.size:=by
   have:=st.fits
   simp only[SetTable.fits,Bool.and_eq_true,beq_iff_eq] at this
   exact this.1
  have hi':i<es.size:=by rw[←st.len];exact hi
  have e:es[i]? = some seq[i]:=by
   rw[←Array.getElem?_toList,←h2];exact List.getElem?_eq_getElem hi
  have e2:t.place[i]? = some (t.place.getD i 0):=by
   rw[Array.getElem?_eq_getElem (by exact Nat.lt_of_lt_of_eq hi' (Eq.symm hsz))]
   simp[Array.getD_eq_getD_getElem?,Array.getElem?_eq_getElem (show i<t.place.size by exact Nat.lt_of_lt_of_eq hi' (Eq.symm hsz))]
  rw[e,e2]
  dsimp only
  refine Z0 (ZH hit (by exact Nat.succ_pos _) ?_)
  refine Z0 (ZH ZcI (by simp) (Z6 ?_))
  rw[Y3]
  refine(k₀ _ _ ⟨_,rfl,LeX.setMu,by rw[hk];exact Zp,?_⟩)
  exact hput (rawInt (t.place.getD i 0+1:Nat)) fun g' e=>.order _ h1 h2 rfl (Z6U st.tab.1 (by exact Nat.lt_of_lt_of_eq hi' (Eq.symm hsz))) h5
 |draw P ps m h1 h2 h3=>
  subst h1
  refine Z0 (Js (.inl h2) rfl ?_)
  simp only[Int.toNat_natCast]
  have hps:i<ps.length:=by
   have:=congrArg List.length h3
   simp at this;exact this▸hi
  have e:((ps.map fun p:Nat=>rawInt p).toArray)[i]? = some (rawInt ps[i]):=by
   rw[List.getElem?_toArray,List.getElem?_map,List.getElem?_eq_getElem hps];rfl
  have e2:es[ps[i]]? = some seq[i]:=by
   have:=congrArg (·[i]?) h3
   simpa [List.getElem?_eq_getElem hps,List.getElem?_eq_getElem hi] using this
  rw[e]
  dsimp only[rawInt]
  simp only[Int.toNat_natCast]
  refine Z0 ?_
  unfold setNextDrawn
  refine Z0 (JY (.inl st.im) st.data st.fits ?_)
  simp only[bne_self_eq_false,Bool.false_eq_true,if_false]
  rw[e2]
  refine Z6 ?_
  refine Z0 (ZH hit (by simp) (Z6 ?_))
  refine(k₀ _ _ ⟨_,rfl,LeX.setMu,by show Zu _ _ (seq[i]).2;rw[hk];exact Zp,?_⟩)
  exact hput (.ref P) fun g' e=>.draw P ps m rfl (by rw[e];exact h2) h3
end
section
open PySem PySem.Spec PySem.Calls PyProof.Rows PySem.W PySem.SeqAt
namespace FM
open PySem.F
theorem entry_setit_iter:entryFor table "set_iterator.__iter__" = some Builtin.«dict_keyiterator.__iter__»:=
 entryFor_alias (id':= "dict_keyiterator.__iter__") (by kernel_rfl) rfl (by decide +kernel) (by kernel_rfl)
theorem args_setit_iter(a:Value):argsOk "set_iterator.__iter__" ⟨[a],[]⟩:=by
 unfold argsOk;rw[signature?_of (id:= "set_iterator.__iter__") (n:=['_', '_', 'r', 'e', 't', 'i', '_', '_']) (o:=['r', 'o', 't', 'a', 'r', 'e', 't', 'i', '_', 't', 'e', 's']) (by kernel_rfl) Z2O];kernel_rfl
end FM
open Builtin
variable{K:Wd}{B:Base}{α β:Type}{A:Around}{g:Gh}{n:Nat}{env:Env}
variable{b:Gh}{S':List Addr}{fn:List Nat}{cs:List Addr}{nm:List (Str×NameKind)}{σ σ':List (Option D)}{own:List (Addr×MO)}
theorem SiSt.up{S it:Addr}(st:SiSt K S it ds g)(l:LeX W g g')(h:it∉W):SiSt K S it ds g':=by
 refine Z6X st fun o es ep t seq i first st hds=>?_
 refine⟨o,es,ep,t,seq,i,first,⟨st.data,st.fits,st.tab,l.im _ _ st.im,l.mu _ _ h st.it,?_,st.len,st.allInt⟩,hds⟩
 cases st.mode with
 |text slot h1 h2 h3=>exact .text slot h1 h2 h3
 |order slot h1 h2 h3 h4 h5=>exact .order slot h1 h2 h3 h4 h5
 |draw P ps m h1 h2 h3=>exact .draw P ps m h1 (l.im _ _ h2) h3
theorem Z2d(hh:A.handled=none)(ho:s.heap.get? it=some o)(hd:o.data=.fields vs)(hsz:2<vs.size)
  (hQ:∀h',Heap.ExtBut it s.heap h'→Q none {s with heap:=h'}) :
  wpAny (model prog w) A.in1 (do setField (.ref it) 2 .none;raiseNew (←newExc (.type "StopIteration") []):Sem Fin)
   P (fun e s'=>wpAny (model prog w) A (do if←isInstance e (.type "StopIteration") then pure none else throw e:Sem (Option Value)) Q E s') s:=by
 refine wpAny_bind (wpAny_setField ho hd hsz ?_)
 refine wpAny_bind ?_
 refine wpAny_bind (wpAny_newObj_type ?_ (by size_fits))
 refine wpAny_bind (m:=firstArgMember _ _) (wpAny_of_eq (a:=Value.none) (by first | rfl | (dsimp only[firstArgMember];rfl)) ?_)
 refine wpAny_newObj_type ?_ (by size_fits)
 refine wpAny_bind (wpAny_handled ?_)
 rw[show A.in1.handled=none from hh]
 refine wpAny_bind (wpAny_pure (wpAny_throw ?_))
 refine wpAny_bind (wpAny_isInstance (T:= "StopIteration") (b:=true) ⟨_,Heap.get?_push_size _ rfl,rfl⟩ isSubtype_stop ?_)
 exact wpAny_pure (hQ _ (((Heap.SameBut.update ..).extBut.push _).push _))
theorem Z67{S it:Addr}(hh:A.handled=none)(st:SiSt K S it [] g):gwp K A (pyNext (.ref it)) (fun r g'=>LeX [it] g g'∧r=none) g:=fun s E ok=>by
 refine Z6X st fun o es ep t seq i first st hds=>?_
 have hi:seq.length≤i:=by
  have:=congrArg List.length hds
  simp at this;lia
 have hget:=ok.mu _ _ st.it
 have hT:s.TypeIs (.ref it) "set_iterator":=⟨_,hget,rfl⟩
 have hQ:∀h',Heap.ExtBut it s.heap h'→∃g':Gh,g'.Ok K.B {s with heap:=h'}∧LeX [it] g g'∧(none:Option Value)=none:=fun h' he=>⟨_,ok.lost (tk:=s.toks) st.it he,LeX.drop,rfl⟩
 refine wpAny_bind (wpAny_attempt (wpAny_callSpecial?_slot (name:=Str.ofString "__next__") hT FM.slot_setit_next (wpAny_call_entry FM.slot_setit_next hT FM.entry_setit_next ?_ (FM.args_setit_next _))))
 refine wpAny_bind (m:=slotArgs _ _ _) (wpAny_of_eq rfl ?_)
 refine wpAny_bind (wpAny_fieldsOf hget rfl ?_)
 refine wpAny_bind (wpAny_setEntries_of (ok.im _ _ st.im) st.data st.fits ?_)
 rw[if_neg (by simp)]
 have hmo:=st.mode
 cases hmo with
 |text slot h1 h2 h3=>
  subst h3
  dsimp only[Int.toNat_natCast]
  have e:(pickOrder (K.w.params.setOrder S ep) es)[i]? = none:=by
   rw[←Array.getElem?_toList,←h2];exact List.getElem?_eq_none hi
  refine wpAny_bind (wpAny_mono (Qy (A:=A.in1) (g:=g) (Q:=fun r g'=>r=none∧g'=g) h1 (.inl st.im) st.data st.fits (by rw[e];exact⟨rfl,rfl⟩) s (fun V V=>False) ok) (fun r s₁ z₀=>Zm z₀ fun g₁ ok₁ e1 e2=>?_) fun V V z=>z.elim)
  subst e1;subst e2
  exact Z2d (Q:=fun v s'=>∃g':Gh,g'.Ok K.B s'∧(LeX [it] g₁ g'∧v=none)) hh (ok₁.mu _ _ st.it) rfl (by simp) fun h' he=>⟨_,ok₁.lost (tk:=s₁.toks) st.it he,LeX.drop,rfl⟩
 |order slot h1 h2 h3 h4 h5=>
  subst h3
  dsimp only[rawInt]
  dsimp only[Int.toNat_natCast]
  have e:es[i]? = none:=by
   rw[←Array.getElem?_toList,←h2];exact List.getElem?_eq_none hi
  refine wpAny_bind (wpAny_mono (Qi (A:=A.in1) (g:=g) (Q:=fun r g'=>r=none∧g'=g) h1 (st.tab.2.trans h1) h5 (.inl st.im) st.data st.fits (by rw[h4,e];exact⟨rfl,rfl⟩) s (fun V V=>False) ok) (fun r s₁ z₀=>Zm z₀ fun g₁ ok₁ e1 e2=>?_) fun V V z=>z.elim)
  subst e1;subst e2
  exact Z2d (Q:=fun v s'=>∃g':Gh,g'.Ok K.B s'∧(LeX [it] g₁ g'∧v=none)) hh (ok₁.mu _ _ st.it) rfl (by simp) fun h' he=>⟨_,ok₁.lost (tk:=s₁.toks) st.it he,LeX.drop,rfl⟩
 |draw P ps m h1 h2 h3=>
  subst h1
  refine wpAny_bind (wpAny_seqItems (ok.im _ _ h2) rfl ?_)
  dsimp only[Int.toNat_natCast]
  have e:((ps.map fun p:Nat=>rawInt p).toArray)[i]? = none:=by
   have:=congrArg List.length h3
   rw[List.getElem?_toArray]
   refine List.getElem?_eq_none ?_
   simp at this ⊢;exact this▸hi
  rw[e]
  refine wpAny_bind (wpAny_setField_rec hget (by simp) fun h' e1 hs=>?_)
  have ok':=ok.sameBut (tk:=s.toks) st.it hs e1
  exact Z2d (Q:=fun v s'=>∃g':Gh,g'.Ok K.B s'∧(LeX [it] g g'∧v=none)) (vs:=#[Value.ref P,rawInt i,.ref S,rawInt es.size,rawInt ep].setIfInBounds 0 (.int 0 0)) hh e1 rfl (by simp) fun h'' he=>⟨_,ok'.lost (tk:=s.toks) ZcI he,(LeX.setMu (a:=it)).trans LeX.drop,rfl⟩
theorem It.set{S it:Addr}:It K (.ref it) [it] [] (SiSt K S it) where
 item:=fun{d ds g A} hh st s E ok=>by
  refine Z6X (id st) fun o es ep t seq i first st' hds=>?_
  have hT:s.TypeIs (.ref it) "set_iterator":=⟨_,ok.mu _ _ st'.it,rfl⟩
  refine wpAny_bind (wpAny_attempt (wpAny_callSpecial?_slot (name:=Str.ofString "__next__") hT FM.slot_setit_next (wpAny_call_entry FM.slot_setit_next hT FM.entry_setit_next (Zn (Z66 (A:=A.in1) st s _ ok) (fun fin s' g' ok' v00=>Z5L v00 fun v e1 l hv st'=>?_)) (FM.args_setit_next _))))
  refine⟨v,e1,wpAny_pure ⟨g',ok',l,v,rfl,hv,fun target A=>?_⟩⟩
  refine Z6X (id st') fun o' es' ep' t' seq' i' first' st'' hds'=>?_
  exact Je (a:=it) (.inr st''.it) rfl rfl (by decide) ⟨LeX.refl _ _,st'⟩
 done:=fun{g A} hh st=>Z67 hh st
 self:=fun{ds g A Q} st q s E ok=>by
  refine Z6X st fun o es ep t seq i first st hds=>?_
  have hT:s.TypeIs (.ref it) "set_iterator":=⟨_,ok.mu _ _ st.it,rfl⟩
  refine wpAny_pyIter_slot hT FM.slot_setit_iter (wpAny_call_entry FM.slot_setit_iter hT FM.entry_setit_iter ?_ (FM.args_setit_iter _))
  show wpAny _ _ (ret (.ref it)) _ _ s
  exact wpAny_pure ⟨_,rfl, "set_iterator",_,hT,FM.slot_setit_next.lookup,⟨g,ok,q⟩⟩
 frame:=fun{ds g g' W} st l hw=>st.up l fun h=>(hw _ h).1 (by exact .head _)
 mem:=fun{ds g} st=>Zr (Z6X st fun o es ep t seq i first st V=>⟨_,st.it⟩)
 cell:=fun{ds g} st=>Zr (fun o' w e=>Z6X st fun o es ep t seq i first st V z=>by rw[←J0 st.it e] at z;cases z)
end
section
open PySem PySem.Spec PySem.Calls PyProof.Rows PySem.W PySem.SeqAt Builtin
variable{K:Wd}{B:Base}{α β:Type}{A:Around}{g:Gh}{n:Nat}{env:Env}
variable{b:Gh}{S':List Addr}{fn:List Nat}{cs:List Addr}{nm:List (Str×NameKind)}{σ σ':List (Option D)}{own:List (Addr×MO)}
theorem Z0S{α:Type}[DecidableEq α]:∀(l k:List α),l.Nodup→(∀x∈l,x∈k)→k.length=l.length→k.Perm l
 |[],k,_,_,h=>by rw[List.length_eq_zero_iff.mp h]
 |a::l,k,hn,hs,h=>by
  have ha:=hs a (by exact .head _)
  have hp:k.Perm (a::k.erase a):=List.perm_cons_erase ha
  rw[List.nodup_cons] at hn
  refine hp.trans (.cons a (Z0S l (k.erase a) hn.2 (fun x hx=>?_) ?_))
  ·exact(List.mem_erase_of_ne (fun e=>hn.1 (by clear hp hs hn;subst e;exact hx))).mpr (hs x (List.mem_cons_of_mem _ hx))
  ·have:=hp.length_eq
   simp at this h;lia
theorem Z17:∀(l σ:List Int),σ.Nodup→(l.foldl step_dedup σ).Nodup:=by
 intro l
 induction l with
 |nil=>intro σ h;exact h
 |cons x l ih=>
  intro σ h
  rw[List.foldl_cons]
  refine ih _ ?_
  unfold step_dedup
  split
  ·exact h
  ·rename_i hc
   refine List.nodup_append.mpr ⟨h,by simp,fun a ha b hb e=>hc ?_⟩
   clear hc ih;simp at hb;subst hb;subst e
   exact List.any_eq_true.mpr ⟨a,ha,by lia⟩
theorem Z34(l:List Int)(k:Int):k∈l.foldl step_dedup []↔k∈l:=by
 have h:∀(l σ:List Int),k∈l.foldl step_dedup σ↔(k∈σ∨k∈l):=by
  intro l
  induction l with
  |nil=>simp
  |cons x l ih=>
   intro σ
   rw[List.foldl_cons,ih,List.mem_cons]
   unfold step_dedup
   split
   ·rename_i hc
    refine Z4 (List.any_eq_true.mp hc) fun y hy he=>?_
    clear hc ih;simp at he;subst he
    constructor
    ·rintro(h | h)
     ·exact .inl h
     ·exact .inr (.inr h)
    ·rintro(h | h | h)
     ·exact .inl h
     ·exact .inl (h▸hy)
     ·exact .inr h
   ·simp[or_assoc]
 rw[h];simp
noncomputable def ivI(e:Int×Value):Int:=match e.2 with | .int k _=>k | _=>0
theorem ZbI(e:Int×Value)(h:∃k,IntV e k):ivD e=.int (ivI e):=by
 refine QD h fun k tk hk=>?_
 simp[ivD,ivI,hk]
theorem Z2X:Value.isInt k v=true↔∃t,v=.int k t:=⟨Value.isInt_shape,fun z₀=>Zi z₀ fun t e=>by subst e;simp[Value.isInt]⟩
theorem SetAt.perm(h:SetT K.prog K.w o (fun k=>l.any (· == k)) l.length (ledOf K.w) es ep t)(hn:l.Nodup):(∀e∈es.toList,∃k,IntV e k)∧(es.toList.map ivI).Perm l:=by
 have h1:∀e∈es.toList,∃k,IntV e k:=fun e he=>by
  refine ZG (h.els e he) ?_
  rintro⟨k,hk,V⟩ V
  exact⟨k,Z2X.mp hk⟩
 refine⟨h1,Z0S l _ hn (fun k hk=>?_) (by rw[List.length_map,Array.length_toList,h.size])⟩
 obtain⟨e,he,hi⟩:=(h.mem k).mp (List.any_eq_true.mpr ⟨k,hk,by lia⟩)
 refine Zi (Z2X.mp hi) fun tk ht=>?_
 exact List.mem_map.mpr ⟨e,he,by simp[ivI,ht]⟩
theorem Z2s(hsz:items.length≤sizeLine)(q:∀T g',Le g g'→g'.im T=some (sq "tuple" items.toArray 0)→Q (.ref T) g'):gwp K A (newTuple items) Q g:=fun s E ok=>
 wpAny_newTuple ⟨_,ok.pushIm (o:={cls:=.type "tuple",data:=.seq items.toArray}) rfl,q _ _ (Le.addIm ok.fresh.1) ZcJ⟩ hsz
theorem Z0W{α:Type}{es:Array α}:∀ps:List Nat,(∀p∈ps,p<es.size)→ps.map (fun p=>es[p]?)=(ps.filterMap fun p=>es[p]?).map some
 |[],_=>rfl
 |p::ps,h=>by
  have hp:=h p (by exact .head _)
  have ih:=Z0W (es:=es) ps fun q hq=>h q (List.mem_cons_of_mem _ hq)
  rw[List.map_cons,List.filterMap_cons,Array.getElem?_eq_getElem hp,ih]
  rfl
theorem Z9p{S:Addr}(ho:g.im S=some o)(h:SetAt K o l)(hn:l.Nodup)(hl:l.length≤4000):gwp K A (pyIter (.ref S)) (fun it g'=>∃ks:List Int,ks.Perm l∧∃T,it=.ref T∧g.mu T=none∧Le g g'∧SiSt K S T (ks.map .int) g') g:=fun s E ok=>by
 refine Z5K h fun es ep t hS=>?_
 refine ZG (SetAt.perm hS hn) fun hall hperm=>?_
 have hT:s.TypeIs (.ref S) "set":=⟨_,ok.im _ _ ho,hS.ex.1⟩
 have hsz:es.size≤4000:=by rw[hS.size];exact hl
 have tail:∀(g₁:Gh) (first:Value) (seq:List (Int×Value)) (s₁:Shared),Le g g₁→g₁.Ok K.B s₁→(∀g',Le g₁ g'→Mode K S es ep t seq 0 first g')→seq.Perm es.toList→
   wpAny (model K.prog K.w) A.in1 (do ret (←newFields "set_iterator" [first,rawInt 0,.ref S,rawInt es.size,rawInt (←setEpoch S)]):Sem Fin)
    (fun fin s'=>∃v,fin=.done (.ret v)∧∃T' r,s'.TypeIs v T'∧typeLookup (.type T') "__next__" = pure (some r)∧∃g',g'.Ok K.B s'∧∃ks:List Int,ks.Perm l∧∃T,v=.ref T∧g.mu T=none∧Le g g'∧SiSt K S T (ks.map .int) g') E s₁:=by
  intro g₁ first seq s₁ l₁ ok₁ hm hp
  refine wpAny_bind (wpAny_setEpoch_of (ok₁.im _ _ (l₁.im _ _ ho)) hS.data hS.fits ?_)
  refine wpAny_bind (wpAny_newObj_type (wpAny_pure ⟨_,rfl, "set_iterator",_,⟨_,Heap.get?_push_size _ rfl,rfl⟩,FM.slot_setit_next.lookup,_,ok₁.pushMu (o:=siObj first 0 S es.size ep) rfl,seq.map ivI,(hp.map ivI).trans hperm,_,rfl,l₁.nomu ok₁.fresh.2,l₁.trans (ZcL ok₁.fresh.2),o,es,ep,t,seq,0,first,?_,?_⟩))
  ·exact⟨hS.data,hS.fits,hS.tab,l₁.im _ _ ho,ZcI,hm _ (ZcL ok₁.fresh.2),by rw[hp.length_eq,Array.length_toList],fun e he=>hall e (hp.mem_iff.mp he)⟩
  ·rw[List.drop_zero,List.map_map]
   exact List.map_congr_left fun e he=>(ZbI e (hall e (hp.mem_iff.mp he))).symm
 refine wpAny_pyIter_slot hT PySem.F.slot_set_iter (wpAny_call_entry PySem.F.slot_set_iter hT FM.entry_set_iter' ?_ (PySem.F.args_set_iter_1 _))
 refine wpAny_bind (m:=Frozenset.slot0 _ _) (wpAny_of_eq (a:=S) rfl ?_)
 refine wpAny_bind (wpAny_bind (wpAny_setEntries_of (ok.im _ _ ho) hS.data hS.fits (wpAny_pure ?_)))
 refine wpAny_bind ?_
 refine wpAny_bind (wpAny_setState_of (ok.im _ _ ho) hS.data hS.fits ?_)
 refine wpAny_bind (wpAny_mono (QT (A:=A.in1) (g:=g) (Q:=fun r g'=>r = !ledOf K.w∧g'=g) ⟨rfl,rfl⟩ s (fun V V=>False) ok) (fun r s₁ z₀=>Zm z₀ fun g₁ ok₁ e1 e2=>?_) fun V V z=>z.elim)
 clear hperm hall hS hl ho;subst e1;subst e2
 refine wpAny_pure ?_
 split
 ·rename_i hc
  refine wpAny_bind (wpAny_mono (Z2x (A:=A.in1) (g:=g₁) es.size (List.range es.size) (by exact List.length_range) s₁ (fun V V=>False) ok₁) (fun ps s₂ z₀=>Zm z₀ fun g₂ ok₂ e2 hps=>?_) fun V V z=>z.elim)
  subst e2
  refine wpAny_bind (wpAny_mono (Z2s (A:=A.in1) (g:=g₂) (items:=ps.map fun i:Nat=>rawInt i) (Q:=fun v g'=>∃T,v=.ref T∧Le g₂ g'∧g'.im T=some (sq "tuple" (ps.map fun i:Nat=>rawInt i).toArray 0)) (by rw[List.length_map,hps.length_eq,List.length_range];exact Nat.le_trans hsz (by decide)) (fun T g' l e=>⟨T,rfl,l,e⟩) s₂ (fun V V=>False) ok₂) (fun v s₃ z₀=>Z4 z₀ fun g₃ ok₃ v00=>Zm v00 fun T e1 l₃ e2=>?_) fun V V z=>z.elim)
  clear hsz;subst e1
  have hlt:∀p∈ps,p<es.size:=fun p hp=>by exact List.mem_range.mp (hps.mem_iff.mp hp)
  refine tail g₃ (.ref T) (ps.filterMap fun p=>es[p]?) s₃ l₃ ok₃ (fun g' l=>.draw T ps 0 rfl (l.im _ _ e2) ?_) ?_
  ·exact Z0W ps hlt
  ·refine(hps.filterMap _).trans ?_
   rw[filterMap_getElem?_range]
 ·rename_i hc
  refine wpAny_bind (wpAny_pure ?_)
  clear hsz;cases hled:ledOf K.w with
  |false=>exact tail g₁ (rawInt 0) _ s₁ (LeX.refl _ _) ok₁ (fun g' l=>.text 0 hled rfl rfl) (Z1C _ _)
  |true=>
   rw[hled] at hc
   exact tail g₁ (rawInt 0) es.toList s₁ (LeX.refl _ _) ok₁ (fun g' l=>.order 0 hled rfl rfl Z6T (by
    have:¬((!t.plain&&decide (es.size>1))=true):=fun z=>hc (by show(!!true&&(!t.plain&&decide (es.size>1)))=true;rw[z];rfl)
    simpa using this)) (.refl _)
theorem Z1Z{S:Addr}(hh:A.handled=none)(ho:g.im S=some o)(h:SetAt K o l)(hn:l.Nodup)(hl:l.length≤4000) :
  gwp K A (collect (.ref S)) (fun vs g'=>∃ks:List Int,ks.Perm l∧Le g g'∧Z7 g'.im (ks.map .int) vs) g:=fun s E ok=>by
 have hcls:o.cls=.type "set":=by obtain⟨es,ep,t,hS⟩:=h;exact hS.ex.1
 have fr:=ok.fresh
 have ok₁:=ok.pushMu (o:=sq "list" #[] 0) rfl
 refine wpAny_bind (wpAny_runValue (codeAny_builtin PyProof.Rows.entry_proto_collect' ?_))
 show wpAny _ _ (do again (.builtin "list.__iadd__" ⟨[←newList [],.ref S],[]⟩)) _ _ s
 refine wpAny_bind (wpAny_newList (wpAny_pure ⟨Code.quiet_builtin _ (by decide +kernel),codeAny_builtin PyProof.Rows.entry_list_iadd' ?_⟩))
 replace ok₁:(g.setMu s.heap.objs.size (sq "list" #[] 0)).Ok K.B {s with heap:=s.heap.push {cls:=.type "list",data:=.seq ([]:List Value).toArray}}:=ok₁
 generalize hN:s.heap.objs.size=N at *
 generalize ({s with heap:=s.heap.push {cls:=.type "list",data:=.seq ([]:List Value).toArray}}:Shared)=s₁ at *
 clear hN
 have l₁:Le g (g.setMu N (sq "list" #[] 0)):=ZcL fr.2
 have hS₁:(g.setMu N (sq "list" #[] 0)).mu N=some (sq "list" #[] 0):=ZcI
 generalize hg₁:g.setMu N (sq "list" #[] 0)=g₁ at *
 show wpAny (model K.prog K.w) _ (Builtin.List.listExtendWith (.ref N) (.ref S) (.ref N)) _ _ s₁
 have hNS:N≠S:=fun e=>by clear hS₁ hg₁;rw[e] at fr;cases((fr.1).symm.trans ho)
 refine wpAny_bind (wpAny_typeOf (T:= "set") ⟨o,ok₁.im _ _ (l₁.im _ _ ho),hcls⟩ ?_)
 have h1:Builtin.List.listSameRef (.ref N) (.ref S)=false:=by simp[Builtin.List.listSameRef,hNS]
 have h2:(Value.type "set" == Value.type "list")=false:=by decide
 have h3:(Value.type "set" == Value.type "tuple")=false:=by decide
 simp only[h1,h2,h3,Bool.or_false,Bool.false_eq_true,if_false]
 refine wpAny_bind (wpAny_mono (Z9p (l₁.im _ _ ho) h hn hl s₁ (fun V V=>False) ok₁) (fun v s₂ z₀=>Z4 z₀ fun g₂ ok₂ v00=>Z4 v00 fun ks hp v01=>Z5L v01 fun T e1 hT l₂ st=>?_) fun V V z=>z.elim)
 subst e1
 refine wpAny_bind (wpAny_holding ?_)
 have hT₂:s₂.TypeIs (.ref S) "set":=⟨_,ok₂.im _ _ (l₂.im _ _ (l₁.im _ _ ho)),hcls⟩
 refine wpAny_bind (wpAny_specialOf hT₂ PySem.F.slot_set_len.lookup ?_)
 have hsp:splitId "set.__len__" = some ("set", "__len__"):=by kernel_rfl
 dsimp only
 rw[hsp]
 refine wpAny_bind (wpAny_isInstance (T:= "set") (b:=true) hT₂ sub_set_self ?_)
 rw[if_neg (show¬((!true)=true) by decide)]
 rw[if_pos]
 rotate_left
 ·decide +kernel
 refine wpAny_bind (wpAny_typeOf hT₂ ?_)
 refine wpAny_pure ?_
 have hS₂:=l₂.at hS₁
 have hNT:N≠T:=fun e=>by clear hS₂ hsp hg₁ fr;rw[e] at hS₁;cases((hT).symm.trans hS₁)
 have fin5:∀(s':Shared) (g':Gh) (its':Array Value) (m':Nat),g'.Ok K.B s'→LeX [N,T] g₂ g'→g'.mu N=some (sq "list" its' m')→Z7 g'.im ([]++ks.map .int) its'.toList→
   ∃g'':Gh,g''.Ok K.B s'∧∃ks:List Int,ks.Perm l∧Le g g''∧Z7 g''.im (ks.map .int) its'.toList:=fun s' g' its' m' ok' l' hS' hr'=>
  ⟨g',ok',ks,hp,((LeX.of (l₁.trans l₂)).trans l').forget (fun a ha=>.inr (by
   simp only[List.mem_cons,List.not_mem_nil,or_false] at ha
   rcases ha with rfl | rfl
   ·exact fr.2
   ·exact l₁.nomu hT)),by exact hr'⟩
 rw[if_pos]
 rotate_left
 ·decide +kernel
 refine wpAny_bind (wpAny_rule ?_)
 refine wpAny_bind ?_
 show wpAny _ _ (updateSeq N (·.push .none)>>=fun V=>updateSeq N (·.pop)) _ _ _
 refine wpAny_bind (wpAny_updateSeq (ok₂.mu _ _ hS₂) rfl ?_ (by decide) (by decide))
 have ok₄:=ok₂.upd hS₂ (f:=Obj.mapSeq (·.push Value.none)) rfl
 refine wpAny_updateSeq (ok₄.mu _ _ ZcI) rfl ?_ (by decide) (by decide)
 have ok₅:=ok₄.upd ZcI (f:=Obj.mapSeq (·.pop)) rfl
 rw[Y3] at ok₅
 generalize hg₅:g₂.setMu N (Obj.mapSeq (·.pop) (Obj.mapSeq (·.push Value.none) (sq "list" #[] 0)))=g₅ at *
 have l₅:LeX [N] g₂ g₅:=hg₅▸LeX.setMu
 have hS₅:g₅.mu N=some (sq "list" #[] 2):=by rw[←hg₅];exact ZcI
 refine wpAny_pure ⟨plainId_quiet PySem.F.plain_extend_loop _,Z45 (A:=A) (S:=N) It.set (by exact Z78 hNT) (by exact List.not_mem_nil) hh (ks.map .int) [] #[] 2 g₅ g₅ _ (st.up l₅ (by exact Z78 (fun e=>hNT e.symm))) hS₅ Z7.nil (by simp;have:=hp.length_eq;lia) (LeX.refl _ _) ok₅ fun s' g' its' m' ok' l' hS' hr'=>?_⟩
 refine wpAny_bind (wpAny_load (ok'.mu _ _ hS') (wpAny_pure ?_))
 exact fin5 s' g' its' m' ok' ((l₅.sub (by exact Zr (.head _))).trans l') hS' hr'
theorem Z3N:∀{ks:List Int} {vs:List Value},Z7 im (ks.map .int) vs→IntsAre vs ks
 |[],vs,h=>by
  have:vs=[]:=ZV h
  subst this;exact .nil
 |k::ks,vs,h=>by
  obtain⟨v,vs',rfl,h1,h2⟩:=ZA h
  obtain⟨t,rfl⟩:=Zo h1
  exact .cons k t (Z3N h2)
theorem Z06:∀{vs:List Value} {ks:List Int},IntsAre vs ks→Z7 im (ks.map .int) vs
 |_,_,.nil=>Z7.nil
 |_,_,.cons n t h=>Z7.cons Zp (Z06 h)
theorem Z0m(ha:h.get? a=some (sq "list" its m)) :
  (∃e,(sortedHeap h a vs out).get? a=some (sq "list" out e))∧∀b o,b≠a→h.get? b=some o→(sortedHeap h a vs out).get? b=some o:=by
 have hlt:a<h.objs.size:=Heap.lt_size ha
 have h1:=get?_update_seq ha (fun V=>#[])
 unfold sortedHeap
 refine⟨?_,fun b o hb e=>?_⟩
 ·have h6:(((h.update a (Obj.mapSeq fun V=>#[])).push (seqObj "tuple" vs.toArray 0)).push (seqObj "list" #[] 0)).get? a=some (seqObj "list" #[] (if((#[]:Array Value).size==its.size)=true then m else m+1)):=by
   rw[Heap.get?_push_ne _ _ _ (by rw[size_push',Heap.size_update];exact Nat.ne_of_lt (Nat.lt_succ_of_lt hlt)),Heap.get?_push_ne _ _ _ (by rw[Heap.size_update];exact Nat.ne_of_lt hlt)]
   exact h1
  exact⟨_,get?_update_seq h6 (fun V=>out)⟩
 ·rw[(Heap.SameBut.update _ a _).2 b hb]
  refine Heap.get?_push_of_some _ (Heap.get?_push_of_some _ ?_)
  rw[(Heap.SameBut.update _ a _).2 b hb]
  exact e
theorem Z2r{S:Addr}{l rs:List Int}(hh:A.handled=none)(ho:g.im S=some o)(h:SetAt K o l)(hn:l.Nodup)(hl:l.length<64)(hrs:rs.Pairwise (· < ·))(hm:∀k,k∈rs↔k∈l)
  (q:∀v g',Le g g'→Zu g'.im (.lst (rs.map .int)) v→Q v g'):gwp K A (call (.builtin "sorted") [.ref S]) Q g:=fun s E ok=>by
 refine Calls.call_function_entry kind_sorted plain_sorted entry_sorted (args_sorted1 _) ?_
 refine wpAny_bind (m:=checkCount "sorted" 1 1 _) (wpAny_pure ?_)
 refine wpAny_bind (wpAny_mono (Z1Z (A:=A.in1) hh ho h hn (by exact Nat.le_trans (Nat.le_of_lt hl) (by decide)) s (fun V V=>False) ok) (fun vs s₁ z₀=>Z4 z₀ fun g₁ ok₁ v00=>Zm v00 fun ks hp l₁ hr=>?_) fun V V z=>z.elim)
 have hlen:vs.length<64:=by rw[hr.length,List.length_map,hp.length_eq];exact hl
 refine wpAny_bind (wpAny_newList ?_ (ZaP (by exact Nat.le_trans (Nat.le_of_lt hlen) (by decide))))
 have fr:=ok₁.fresh
 have hN:(s₁.heap.push {cls:=.type "list",data:=.seq vs.toArray}).get? s₁.heap.objs.size=some (sq "list" vs.toArray 0):=Heap.get?_push_size _ rfl
 refine wpAny_bind (wpAny_holding (wpAny_call_entry slot_list_sort ⟨_,hN,rfl⟩ entry_list_sort (list_sort_tree (ns:=ks) hN (Z3N hr) hlen fun out ns' a1 a2 a3=>⟨_,rfl,?_⟩) (args_list_sort _)))
 obtain⟨⟨e,he⟩,hk⟩:=Z0m (vs:=vs) (out:=out) hN
 have hrsn:ns'=rs:=by
  refine List.Perm.eq_of_pairwise (le:=fun a b:Int=>a≤b) (fun a b V V h5 h6=>Int.le_antisymm h5 h6) a3 (hrs.imp fun h=>Int.le_of_lt h) ?_
  refine(a2.trans hp).trans ((List.perm_ext_iff_of_nodup hn (hrs.imp fun h=>Int.ne_of_lt h)).mpr fun k=>(hm k).symm)
 clear a3 hN hlen hr hm hrs hl ho;subst hrsn
 have ok₃:=ok₁.extIm (tk:=s₁.toks) (o:=sq "list" out e) (h':=sortedHeap (s₁.heap.push {cls:=.type "list",data:=.seq vs.toArray}) s₁.heap.objs.size vs out) (fun b o hb=>hk b o (Nat.ne_of_lt (Heap.lt_size hb)) (Heap.get?_push_of_some _ hb)) he
 have l₃:=Le.addIm (g:=g₁) (o:=sq "list" out e) fr.1
 refine wpAny_pure ⟨_,rfl,_,ok₃,q _ _ (l₁.trans l₃) ?_⟩
 exact Zj.mpr ⟨_,out,e,rfl,ZcJ,Z06 a1⟩
theorem Z3A{f1 f2 e:Expr}{ns rs:List Int}(h1:Pe K n g (eval f1 env) (.raw (.builtin "sorted")))(h2:Pe K n g (eval f2 env) (.raw (.type "set")))(he:Pe K n g (eval e env) (.lst (ns.map .int)))(hsz:ns.length≤4000)(h64:rs.length<64)
  (hrs:rs.Pairwise (· < ·))(hm:∀k,k∈rs↔k∈ns)
  (ht1:autoParam (starEach [.Call f2 [e] [] p2] env=(false,eval (.Call f2 [e] [] p2) env)::starEach [] env) Z5)
  (hp1:autoParam ((backTo p1 (starEach [.Call f2 [e] [] p2] env)).any (·.1)=false) Z5)(hp2:autoParam ((backTo p2 (starEach [e] env)).any (·.1)=false) Z5)
  (hst:autoParam (starEach [e] env=(false,eval e env)::starEach [] env) Z5)
  (hc1:autoParam (eval (.Call f1 [.Call f2 [e] [] p2] [] p1) env=(do callWith p1 (←eval f1 env) [] (backTo p1 (starEach [.Call f2 [e] [] p2] env)) (backToKw p1 (keywordEach [] env)))) Z5)
  (hc2:autoParam (eval (.Call f2 [e] [] p2) env=(do callWith p2 (←eval f2 env) [] (backTo p2 (starEach [e] env)) (backToKw p2 (keywordEach [] env)))) Z5) :
  Pe K n g (eval (.Call f1 [.Call f2 [e] [] p2] [] p1) env) (.lst (rs.map .int)):=fun A r g₁ l₁=>by
 refine ZK ((h1.le l₁).useR r fun g₂ l₂=>?_) hc1
 refine Zq (fun a z=>by cases z) hp1 (Zc hp1 (Zb ?_ ht1))
 have l12:=l₁.trans l₂
 refine ZK ((h2.le l12).useR r fun g₃ l₃=>?_) hc2
 refine Zq (fun a z=>by cases z) hp2 (Zc hp2 (Zb (((he.le l12).le l₃).use r fun v g₄ l₄ hv=>Zd ?_) hst))
 have hdl:(ns.foldl step_dedup []).length=rs.length:=((List.perm_ext_iff_of_nodup (Z17 ns [] (by exact List.nodup_nil)) (hrs.imp fun h=>Int.ne_of_lt h)).mpr fun k=>by rw[hm,Z34]).length_eq
 refine Z10 r.1 hv hsz fun S o g₅ l₅ hS hSA=>Zd ?_
 refine Z2r r.1 hS hSA (Z17 _ _ (by exact List.nodup_nil)) (by rw[hdl];exact h64) hrs (fun k=>by rw[hm,Z34]) fun v g₆ l₆ hv=>⟨?_,hv⟩
 exact((l₂.trans l₃).trans (l₄.trans l₅)).trans l₆
theorem Z4R{i:Nat}(hv:Pe K n g (eval value env) (.str x))(h3:Pe K n g (eval upper env) (.int i))(hi:i≤x.length)(hsz:x.length≤sizeLine):Pe K n g (eval (.Subscript value (.Slice none (some upper) none p) pos) env) (.str (x.take i)):=fun A r g₁ l=>
 JI (T:= "str") (id:= "str.__getitem__") PySem.F.slot_str_getitem.lookup ((hv.le l).use r fun v g₂ l₂ hx=>(Z4F J2 (Qd (h3.le (l.trans l₂))) J2).use r fun sl g₃ l₃ hsl=>by
  refine Zi (Zz hx) ?_
  clear h3 hv;rintro t rfl
  refine⟨fun s V=>typeIs_str _ _ _,fun s E ok=>?_⟩
  refine ZaI hsl ?_
  clear hx hsl;rintro a vl vu vs rfl ea p1 p2 p3
  cases p1;cases p3
  cases p2 with
  |int i' u=>
   refine wpAny_getItem_str_slice (l:=none) (u:=some ((i:Int),u)) (st:=none) ⟨_,ok.im _ _ ea,rfl,rfl⟩ (by rfl) ?_
   have e0:slicePicked (S x) none (some ((i:Int),u)) none=(List.range i).map fun k=>0+k:=by
    delta slicePicked Builtin.Str.strSliceIndices
    have hl:(S x).length=x.length:=Jp x
    simp only[Option.map_none,Option.map_some,Option.getD_some,Option.getD_none,hl]
    have h0:((1:Int)>0):=by decide
    simp only[h0,if_true]
    rw[if_neg (by lia),show Max.max (0:Int) (Min.min (i:Int) x.length)=((i:Nat):Int) from by rw[Int.min_eq_left (Int.ofNat_le.mpr hi),Int.max_eq_right (Int.natCast_nonneg _)]]
    exact Q2 0 i
   have e:((slicePicked (S x) none (some ((i:Int),u)) none).filterMap ((S x).cps[·]?)).toArray=(x.take i).toArray:=by
    rw[e0]
    have hc:(fun(i:Nat)=>(S x).cps[i]?)=fun(i:Nat)=>x[i]?:=by funext i;simp[S]
    rw[hc]
    congr 1
    have:=Qw x 0 i
    rw[Q2] at this
    simpa using this
   delta sliceMade
   rw[e]
   have hl:(S x).length=x.length:=Jp x
   have hlen:(slicePicked (S x) none (some ((i:Int),u)) none).length=i:=by rw[e0];simp
   rw[hlen,hl]
   by_cases hix:i=x.length
   ·rw[if_pos (by exact if_pos hix)]
    clear hlen hl e e0 ea;subst hix
    rw[List.take_length]
    exact⟨g₃,ok,l₂.trans l₃,ZU⟩
   ·rw[if_neg (by simp[hix])]
    refine⟨?_,?_⟩
    ·show(x.take i).toArray.size≤sizeLine
     simp;exact Nat.le_trans (Nat.min_le_right _ _) hsz
    ·exact⟨g₃,ok.tok _,l₂.trans l₃,ZU⟩)
end
section
open PySem PySem.Spec PySem.Calls PyProof.Rows PySem.W PySem.SeqAt
variable{K:Wd}{A:Around}{g:Gh}{n:Nat}{env:Env}{α:Type}
variable{b:Gh}{S':List Addr}{fn:List Nat}{cs:List Addr}{nm:List (Str×NameKind)}{σ σ':List (Option D)}{own:List (Addr×MO)}
theorem Z3p{x y:Nat}(h1:x≤1000000)(h2:y≤1000000):Builtin.Range.small (x:Int) (y:Int) 1=true:=by
 delta Builtin.Range.small
 rw[rangeSize_one]
 delta Builtin.Range.rangeFitsLong
 have a:(x:Int)<9223372036854775808:=Int.lt_of_le_of_lt (Int.ofNat_le.mpr h1) (by decide)
 have b:(y:Int)<9223372036854775808:=Int.lt_of_le_of_lt (Int.ofNat_le.mpr h2) (by decide)
 split<;>simp
 ·exact⟨⟨⟨a,b⟩,Int.le_trans (by decide) (Int.sub_nonneg_of_le (Int.le_of_lt ‹_›)),Int.lt_of_le_of_lt (Int.sub_le_self _ (Int.natCast_nonneg _)) b⟩,.inr b⟩
 ·exact⟨a,b⟩
theorem Z6g{func e1 e2:Expr}{x y:Nat}(hf:Pe K n g (eval func env) (.raw (.type "range")))(ha:Pe K n g (eval e1 env) (.int x))(hb:Pe K n g (eval e2 env) (.int y))(h1:x≤1000000)(h2:y≤1000000)
  (hp2:autoParam ((backTo pos (starEach [e1,e2] env)).any (·.1)=false) Z5)
  (hst:autoParam (starEach [e1,e2] env=(false,eval e1 env)::starEach [e2] env) Z5)(hst2:autoParam (starEach [e2] env=(false,eval e2 env)::starEach [] env) Z5)
  (hc2:autoParam (eval (.Call func [e1,e2] [] pos) env=(do callWith pos (←eval func env) [] (backTo pos (starEach [e1,e2] env)) (backToKw pos (keywordEach [] env)))) Z5) :
  PItM K n g (.Call func [e1,e2] [] pos) env (rgD x (y-x)):=fun A r g₁ l₁=>by
 refine ZK ((hf.le l₁).useR r fun g₂ l₂=>?_) hc2
 have l12:=l₁.trans l₂
 refine Zq (fun a z=>by cases z) hp2 (Zc hp2 (Zb ((ha.le l12).use r fun v g₃ l₃ hv=>Zb ((hb.le (l12.trans l₃)).use r fun w g₄ l₄ hw=>Zd ?_) hst2) hst))
 refine Zi (Zo hv) fun t e=>Zi (Zo hw) fun u e'=>?_
 clear hw hv hc2 hst2 hst hp2 hb hf;subst e;subst e'
 intro s E ok
 refine call_range_2 ?_
 have ok₁:=(ok.pushIm (o:={cls:=.type "range",data:=.fields #[.int x t,.int y u,.int 1 s.toks]}) rfl).tok (s.toks+1)
 have l₅:Le g₄ (g₄.addIm s.heap.objs.size {cls:=.type "range",data:=.fields #[.int x t,.int y u,.int 1 s.toks]}):=Le.addIm ok.fresh.1
 refine⟨_,ok₁,?_⟩
 intro s₂ E₂ ok₂
 refine wpAny_pyIter_range (ok₂.im _ _ ZcJ) (Z3p h1 h2) ?_
 rw[rangeSize_one]
 have hsz:(if(x:Int)<y then(y:Int)-x else 0)=((y-x:Nat):Int):=by
  split
  ·exact(Int.ofNat_sub (Nat.le_of_lt (Int.ofNat_lt.mp ‹_›))).symm
  ·rw[Nat.sub_eq_zero_of_le (Int.ofNat_le.mp (Int.not_lt.mp ‹_›))];rfl
 rw[hsz]
 have hi:=ZcW (K:=K) ok₂ (o:=rgO x (y-x)) (ds:=rgD x (y-x)) (ItM.range) ⟨x,y-x,rfl,rfl⟩
 obtain⟨x1,T,ms,x2,x3,x4⟩:=hi
 have l24:Le g₁ g₄:=l₂.trans (l₃.trans l₄)
 exact⟨_,ok₂.pushMu (o:=rgO x (y-x)) rfl,(l24.trans l₅).trans x1,T,ms,x2,x3,fun a ha=>Le.nomu (l24.trans l₅) (x4 a ha)⟩
theorem Z3t(h:d∈rgD x l):∃k:Nat,x≤k∧k<x+l∧d=.int k:=by
 refine Z4 (List.mem_map.mp h) fun k hk e=>⟨k,(List.mem_range'_1.mp hk).1,(List.mem_range'_1.mp hk).2,e.symm⟩
noncomputable def natsI(l:List Nat):D:=.lst (l.map fun x:Nat=>.int x)
theorem Z2T:∀a b:List Nat,Lks 0 (a.map fun x:Nat=>D.int x) (b.map fun x:Nat=>D.int x) (decide (a=b))
 |[],[]=>Z1g
 |[],_::_=>Zbx
 |_::_,[]=>Zbw
 |x::a,y::b=>by
  have e:decide (x::a=y::b)=(((x:Int)==(y:Int))&&decide (a=b)):=by rw[Bool.eq_iff_iff,Bool.and_eq_true,decide_eq_true_eq,decide_eq_true_eq,beq_iff_eq,List.cons.injEq,Int.natCast_inj]
  rw[e];exact Q6 Z9h (Z2T a b)
noncomputable def partF(rows:List (List Nat))(letters:List Nat)(place k:Nat):List Nat:=if(rows.getD k []).take (place+1)=(rows.getD (k-1) []).take (place+1) then[letters.getD k 0] else[124,letters.getD k 0]
noncomputable def stageF(rows:List (List Nat))(letters:List Nat)(place:Nat):List Nat:=letters.getD 0 0::((List.range' 1 (rows.length-1)).map (partF rows letters place)).flatten
theorem Z0k(rows:List (List Nat))(letters:List Nat)(place:Nat):∀n s,((((List.range' s n).map (partF rows letters place)).map (·.length)).sum)≤2*n
 |0,_=>Nat.le_refl _
 |n+1,s=>by
  rw[List.range'_succ,List.map_cons,List.map_cons,List.sum_cons]
  have:=Z0k rows letters place n (s+1)
  have h:(partF rows letters place s).length≤2:=by unfold partF;split<;>simp
  lia
theorem Z4h(X:WX K){place:Nat}(hl:letters.length=rows.length)(h1:1≤rows.length)(h6:rows.length≤6)(hr:∀r∈rows,r.length≤1000)(hp:place≤1000):CallSem K (n+30) g (.ref a_law_stage) [.lst (rows.map natsI),.str letters,.int place] (.str (stageF rows letters place)):=fun g V vs hvs A r g₁ l=>by
 refine cps fun Q₀ k₀=>?_
 refine Jk (Z1w hvs) fun v1 v2 v3 e r1 r2 r3=>?_
 subst e
 refine Zh (n:=n+28) (fn:=[1,2,3]) (S':=[]) (binds:=[("rows",v1),("letters",v2),("place",v3)]) (bi:=[(0,.lst (rows.map natsI)),(1,.str letters),(2,.int place)]) X.f_law_stage r (Ze (by rfl)) Z3I Z3n (Z3 X.gt Z40)
  ⟨.inl rfl,r1.le l,.inr ⟨rfl,by decide⟩,r2.le l,.inr ⟨rfl,by decide⟩,r3.le l,trivial⟩ fun A' L cells cs g' r' H=>?_
 refine JX (i:=3) (d:=.lst (rows.map fun r=>natsI (r.take (place+1)))) H r' rfl (by decide) ((ZN (p:=fun V=>true) (f:=fun d=>match d with | .lst l=>.lst (l.take (place+1)) | d=>d) H (Qe (pn H 0)).pit ZZ
  (ZcM (mkSrcs GT [.no,.no,.outer 2]) 1 (by decide +kernel) (Z3 X.gt (by decide +kernel)) (.inl (by decide +kernel)) rfl fun d hd b g' env' cs' lb lb' F2 V V henv=>?_) ?_).is ?_) fun g₂ l₂ H=>?_
 ·obtain⟨L'',cells'',rfl⟩:=henv
  obtain⟨r,hrm,rfl⟩:=List.mem_map.mp hd
  have hrl:=hr r hrm
  refine⟨Zv,fun V=>(Q5 (l:=r.map fun x:Nat=>.int x) (pn F2 1) J2 (Qd ((Z8 (pn F2 2) Z9 ZQ).is (d':=.int ((place+1:Nat):Int)) rfl)) J2 (fun h=>by cases h) (by rw[List.length_map];exact Nat.le_trans hrl (by decide))).is ?_⟩
  rw[Z08];rfl
 ·rw[List.length_map];exact Nat.le_trans h6 (by decide)
 ·rw[List.filter_eq_self.mpr (fun V V=>rfl),List.map_map]
  refine congrArg D.lst (List.map_congr_left fun r V=>?_)
  show D.lst ((r.map fun x:Nat=>D.int x).take (place+1))=_
  rw[natsI,List.map_take]
 refine Z1Q (i:=4) (p:=fun V=>true) (f:=fun d=>match d with | .int k=>.str (partF rows letters place k.toNat) | d=>d) H r' rfl (Z6g (x:=1) (y:=rows.length) (pn H 5) Z9 ((Zt (pn H 6) (fun a z=>by cases z) (Z1 (pn H 0) Z2) (ZD (by rw[List.length_map];exact Nat.lt_of_le_of_lt h6 (by decide)))).is (by rw[List.length_map])) (by decide) (by exact Nat.le_trans h6 (by decide))).pit ZZ
  (ZcM (mkSrcs GT [.no,.no,.outer 3,.outer 1]) 1 (by decide +kernel) (Z3 X.gt (by decide +kernel)) (.inl (by decide +kernel)) rfl fun d hd b g' env' cs' lb lb' F2 V V henv=>?_) (by rw[J9];exact Nat.le_trans (show _≤6 by exact Nat.le_trans (Nat.sub_le _ _) h6) (by decide)) (fun g₃ l₃ H=>?_) rfl rfl
 ·obtain⟨L'',cells'',rfl⟩:=henv
  obtain⟨k,hk1,hk2,rfl⟩:=Z3t hd
  have hk3:k<rows.length:=Nat.lt_of_lt_of_le hk2 (Nat.le_of_eq (Nat.add_sub_cancel' h1))
  have hfr:∀j,j<rows.length→atInt ((rows.map fun r=>natsI (r.take (place+1)))) ((j:Nat):Int)=some (natsI ((rows.getD j []).take (place+1))):=fun j hj=>by
   rw[Jm,List.getElem?_map,List.getElem?_eq_getElem hj,List.getD_eq_getElem?_getD,List.getElem?_eq_getElem hj];rfl
  have hle:atInt letters ((k:Nat):Int)=some (letters.getD k 0):=by
   rw[Jm,List.getElem?_eq_getElem (by exact Nat.lt_of_lt_of_eq hk3 (Eq.symm hl)),List.getD_eq_getElem?_getD,List.getElem?_eq_getElem (by exact Nat.lt_of_lt_of_eq hk3 (Eq.symm hl))];rfl
  refine⟨Zv,fun V=>Z0T (v:=!(decide ((rows.getD k []).take (place+1)=(rows.getD (k-1) []).take (place+1)))) (Zx (Jb (l:=rows.map fun r=>natsI (r.take (place+1))) (i:=(k:Int)) (pn F2 2) (pn F2 1) (hfr k hk3) (by rw[List.length_map];exact Nat.lt_of_le_of_lt h6 (by decide))) (Jb (l:=rows.map fun r=>natsI (r.take (place+1))) (i:=((k-1:Nat):Int)) (pn F2 2) ((Z8 (pn F2 1) Z9 Qm).is (by congr 1;exact(Int.ofNat_sub hk1).symm)) (hfr (k-1) (by exact Nat.sub_lt_of_lt ‹_›)) (by rw[List.length_map];exact Nat.lt_of_le_of_lt h6 (by decide))) (Z0q (YP (Z2T _ _)) (by exact Nat.le_add_left _ _))) (fun hv=>?_) (fun hv=>?_)⟩
  ·have hne:¬(rows.getD k []).take (place+1)=(rows.getD (k-1) []).take (place+1):=fun z=>by rw[decide_eq_true z] at hv;cases hv
   refine(Z8 (Zy (l:=[124]) rfl) (JK (pn F2 3) (pn F2 1) hle (by lia)) (Jf (by show 2≤_;decide))).is ?_
   show D.str _=D.str (partF rows letters place ((k:Int)).toNat)
   rw[Int.toNat_natCast,partF,if_neg hne];rfl
  ·have he:(rows.getD k []).take (place+1)=(rows.getD (k-1) []).take (place+1):=Classical.byContradiction fun z=>by rw[decide_eq_false z] at hv;cases hv
   refine(JK (pn F2 3) (pn F2 1) hle (by lia)).is ?_
   show D.str _=D.str (partF rows letters place ((k:Int)).toNat)
   rw[Int.toNat_natCast,partF,if_pos he]
 have heq:D.lst (((rgD 1 (rows.length-1)).filter fun V=>true).map fun d=>match d with | .int k=>.str (partF rows letters place k.toNat) | d=>d)=.lst (((List.range' 1 (rows.length-1)).map (partF rows letters place)).map .str):=by
  rw[List.filter_eq_self.mpr (fun V V=>rfl),rgD,List.map_map,List.map_map]
  exact congrArg D.lst (List.map_congr_left fun k V=>rfl)
 rw[heq] at H
 have hle:atInt letters 0=some (letters.getD 0 0):=by
  show letters[0]? = _
  rw[List.getElem?_eq_getElem (by exact Nat.lt_of_lt_of_eq h1 (Eq.symm hl)),List.getD_eq_getElem?_getD,List.getElem?_eq_getElem (by exact Nat.lt_of_lt_of_eq h1 (Eq.symm hl))];rfl
 refine ZM r' (Z8 (JK (pn H 1) Z9 hle (by lia)) ((Ja (T:= "str") (id:= "str.join") (d₀:=.str []) (ds:=[.lst (((List.range' 1 (rows.length-1)).map (partF rows letters place)).map .str)]) PySem.F.plainAttrs_str PySem.F.slot_str_join PySem.F.type_str_join (Zy rfl) (Z1 (pn H 4) Z2) (Yu ?_)).is (d':=.str (((List.range' 1 (rows.length-1)).map (partF rows letters place)).flatten)) (by rw[Yd])) (Jf ?_)) fun v g₄ l₄ hv=>k₀ _ _ ⟨H.le.trans l₄,hv⟩
 ·have:=Z0k rows letters place (rows.length-1) 1
  rw[List.length_map,List.length_range']
  exact Nat.le_trans this (Nat.le_trans (Nat.mul_le_mul_left 2 (Nat.le_trans (Nat.sub_le _ _) h6)) (by decide))
 ·have:=Z0k rows letters place (rows.length-1) 1
  rw[List.length_flatten]
  exact Nat.le_trans (show _≤100 by rw[List.length_singleton];exact Nat.le_trans (Nat.add_le_add_left (Nat.le_trans this (Nat.mul_le_mul_left 2 (Nat.le_trans (Nat.sub_le _ _) h6))) 1) (by decide)) (by decide)
noncomputable def bareW(w:List Nat):List Nat:=w.filter fun c=>decide (c∈[97,98,99,100,101,102])
noncomputable def bareF(ws:List (List Nat)):List Nat:=jn [124] (ws.map bareW)
theorem Z8w(l:List Nat):(l.map fun V=>1).sum=l.length:=by
 induction l with
 |nil=>rfl
 |cons c l ih=>rw[List.map_cons,List.sum_cons,ih,List.length_cons,Nat.add_comm]
theorem Z89(l:List Nat):(l.map fun c=>[c]).flatten=l:=by
 induction l with
 |nil=>rfl
 |cons c l ih=>rw[List.map_cons,List.flatten_cons,ih];rfl
theorem Z8x(ws:List (List Nat))(hw:∀w∈ws,w.length≤10000∧∀c∈w,c<128):((ws.map bareW).map (·.length)).sum≤10000*ws.length:=by
 induction ws with
 |nil=>exact Nat.le_refl _
 |cons w ws ih=>
  have h1:=ih fun w h=>hw w (.tail _ h)
  have h2:=(hw w (.head _)).1
  have h3:(bareW w).length≤w.length:=List.length_filter_le _ _
  rw[List.map_cons,List.map_cons,List.sum_cons,List.length_cons]
  lia
set_option maxHeartbeats 2000000 in
theorem Z1j(X:WX K)(hn:ws.length≤10)(hw:∀w∈ws,w.length≤10000∧∀c∈w,c<128):CallSem K (n+30) g (.ref a_law_bare) [.lst (ws.map .str)] (.str (bareF ws)):=fun g V vs hvs A r g₁ l=>by
 refine cps fun Q₀ k₀=>?_
 refine Z4 (Jo hvs) fun v1 e r1=>?_
 clear hvs;subst e
 refine Zh (n:=n+28) (fn:=[]) (S':=[]) (binds:=[("words",v1)]) (bi:=[(0,.lst (ws.map .str))]) X.f_law_bare r (Ze (by rfl)) Z4U Z4v (Z3 X.gt Z5u)
  ⟨.inl rfl,r1.le l,trivial⟩ fun A' L cells cs g' r' H=>?_
 refine ZM r' (Ja (T:= "str") (id:= "str.join") (d₀:=.str [124]) (ds:=[.lst ((ws.map bareW).map .str)]) PySem.F.plainAttrs_str PySem.F.slot_str_join PySem.F.type_str_join (Zy rfl) (Z1 ((ZN (p:=fun V=>true) (f:=fun d=>match d with | .str w=>.str (bareW w) | d=>d) H (Qe (pn H 0)).pit ZZ
  (ZcM (mkSrcs GT [.no,.no]) 1 (by decide +kernel) (Z3 X.gt (by decide +kernel)) (.inl (by decide +kernel)) rfl fun d hd b g' env' cs' lb lb' F2 V V henv=>?_) ?_).is ?_) Z2) (Yu ?_)) fun v g₄ l₄ hv=>k₀ _ _ ⟨H.le.trans l₄,hv⟩
 ·refine QD henv ?_
  clear H r' r1 k₀ r;rintro L'' cells'' rfl
  refine Z4 (List.mem_map.mp hd) ?_
  rintro w hwm rfl
  refine ZG (hw w hwm) fun hwl hwc=>?_
  refine⟨Zv,fun V=>(Ja (T:= "str") (id:= "str.join") (d₀:=.str []) (ds:=[.lst (((bareW w).map fun c=>[c]).map .str)]) PySem.F.plainAttrs_str PySem.F.slot_str_join PySem.F.type_str_join (Zy rfl) (Z1 ((ZN (p:=fun d=>match d with | .str [c]=>decide (c∈[97,98,99,100,101,102]) | _=>false) (f:=id) F2 (Z3x (pn F2 1) hwc).pit ZZ
   (ZcM (mkSrcs GT [.no,.no]) 1 (by decide +kernel) (Z3 X.gt (by decide +kernel)) (.inl (by decide +kernel)) rfl fun d hd b g' env' cs' lb lb' F3 V V henv=>?_) ?_).is ?_) Z2) (Yu ?_)).is ?_⟩
  ·refine QD henv ?_
   clear henv hwc F2 hwm;rintro L3 cells3 rfl
   refine Z4 (List.mem_map.mp hd) ?_
   clear hd henv;rintro c hc rfl
   exact⟨Z1A (Zx (pn F3 1) (Zy (l:=[97,98,99,100,101,102]) rfl) Z6m),fun V=>pn F3 1⟩
  ·rw[signsD,List.length_map];exact Nat.le_trans hwl (by decide)
  ·clear hwc hwl F2 hd hwm henv;rw[List.map_id,signsD,List.filter_map,bareW,List.map_map];rfl
  ·rw[List.map_map,List.length_map]
   show(((bareW w).map fun V=>1).sum)+(bareW w).length*0≤_
   have:(bareW w).length≤w.length:=List.length_filter_le _ _
   rw[Z8w];lia
  ·rw[Yd,Z89]
 ·rw[List.length_map];exact Nat.le_trans hn (by decide)
 ·clear H r' r1 k₀ r hn;rw[List.filter_eq_self.mpr (fun V V=>rfl),List.map_map,List.map_map]
  exact congrArg D.lst (List.map_congr_left fun w V=>rfl)
 ·have:=Z8x ws hw
  rw[List.length_map]
  show _+_*1≤_
  lia
theorem Zc3(z:Z7 im [d,e,f,h] vs):∃v w x y,vs=[v,w,x,y]∧Zu im d v∧Zu im e w∧Zu im f x∧Zu im h y:=Zw (Z1v z) fun v V e r z=>Jk (Z1w z) fun w x y e' q p o=>⟨v,w,x,y,e.trans (congrArg _ e'),r,q,p,o⟩
theorem Z7M{ns:List Int}:OpSem K (n+1) g (compareOp .In) (.int x) (.lst (ns.map .int)) (.bool (decide (x∈ns))):=fun g₁ V v₁ v₂ h₁ h₂ A r g₂ le s E ok=>by
 refine Zi (Zo h₁) fun t e0=>ZO (Zj.mp h₂) fun a its m e1 e rs=>?_
 rw[e0,e1]
 have hlen:its.size=ns.length:=by rw[←Array.length_toList,rs.length,List.length_map]
 have hat:∀(i:Nat) (hi:i<its.size),∃t,its[i]=.int (ns[i]'(by lia)) t:=fun i hi=>by
  refine Z4 (rs.get (i:=i) (d:=.int (ns[i]'(by lia))) (by rw[List.getElem?_map,List.getElem?_eq_getElem (by lia)];rfl)) fun v e1 e2=>Zi (Zo e2) fun t e3=>⟨t,?_⟩
  rw[Array.getElem?_toList,Array.getElem?_eq_getElem hi,e3] at e1
  exact Option.some.inj e1
 let f:Value→Bool:=fun v=>match v with | .int y _=>y==x | _=>false
 refine in_listAt f ⟨_,ok.im _ _ (le.im _ _ e),rfl,m,rfl⟩ (fun y hy=>?_) ⟨g₂,ok,LeX.refl _ _,?_⟩
 ·obtain⟨i,hi,rfl⟩:=Array.mem_iff_getElem.mp hy
  refine Zi (hat i hi) fun t' e'=>?_
  rw[e']
  exact EqAt.int_int _ _ _ _
 ·have:its.any f=decide (x∈ns):=by
   rw[Bool.eq_iff_iff,decide_eq_true_eq,Array.any_eq_true]
   constructor
   ·rintro⟨i,hi,h⟩
    refine Zi (hat i hi) fun t' e'=>?_
    rw[e'] at h
    have:ns[i]'(by lia)=x:=eq_of_beq h
    exact this▸List.getElem_mem _
   ·intro h
    obtain⟨i,hi,e⟩:=List.mem_iff_getElem.mp h
    refine⟨i,by lia,Zi (hat i (by lia)) fun t' e'=>?_⟩
    rw[e',e]
    exact beq_self_eq_true x
  rw[this];exact Jj
theorem Z7K{ns:List Int}(h1:Pe K n g (eval f1 env) (.raw (.builtin "len")))(h2:Pe K n g (eval f2 env) (.raw (.type "set")))(he:Pe K n g (eval e env) (.lst (ns.map .int)))(hsz:ns.length≤4000)
  (ht1:autoParam (starEach [.Call f2 [e] [] p2] env=(false,eval (.Call f2 [e] [] p2) env)::starEach [] env) Z5)
  (hp1:autoParam ((backTo p1 (starEach [.Call f2 [e] [] p2] env)).any (·.1)=false) Z5)(hp2:autoParam ((backTo p2 (starEach [e] env)).any (·.1)=false) Z5)
  (hst:autoParam (starEach [e] env=(false,eval e env)::starEach [] env) Z5)
  (hc1:autoParam (eval (.Call f1 [.Call f2 [e] [] p2] [] p1) env=(do callWith p1 (←eval f1 env) [] (backTo p1 (starEach [.Call f2 [e] [] p2] env)) (backToKw p1 (keywordEach [] env)))) Z5)
  (hc2:autoParam (eval (.Call f2 [e] [] p2) env=(do callWith p2 (←eval f2 env) [] (backTo p2 (starEach [e] env)) (backToKw p2 (keywordEach [] env)))) Z5) :
  Pe K n g (eval (.Call f1 [.Call f2 [e] [] p2] [] p1) env) (.int ((ns.foldl step_dedup []).length:Nat)):=fun A r g₁ l₁=>by
 refine ZK ((h1.le l₁).useR r fun g₂ l₂=>?_) hc1
 refine Zq (fun a z=>by cases z) hp1 (Zc hp1 (Zb ?_ ht1))
 have l12:=l₁.trans l₂
 refine ZK ((h2.le l12).useR r fun g₃ l₃=>?_) hc2
 refine Zq (fun a z=>by cases z) hp2 (Zc hp2 (Zb (((he.le l12).le l₃).use r fun v g₄ l₄ hv=>Zd ?_) hst))
 refine Z10 r.1 hv hsz fun S o g₅ l₅ hS hSA=>Zd fun s E ok=>?_
 obtain⟨es,ep,t,st⟩:=hSA
 have hle:=Z9O ns []
 refine call_len_set (ok.im _ _ hS) ?_ st.data st.fits ?_ ?_
 ·exact st.ex
 ·rw[st.size];rw[List.length_nil] at hle;lia
 ·exact⟨g₅,(ok.tok _).tok _,(l₂.trans l₃).trans (l₄.trans l₅),by rw[st.size];exact Zp⟩
noncomputable def placesI(rows:List (List Nat))(k:Nat):List Int:=(List.range (k+1)).map fun i=>if k+1<rows.length then(placeF (rows.getD i []) (rows.getD (k+1) []):Int) else 0
noncomputable def stPart(pl:List Int)(letters:List Nat)(i:Nat):List Nat:=List.replicate (if pl.getD i 0∈pl.take i then 0 else(pl.getD i 0).toNat) 32++[letters.getD i 0]
noncomputable def stateF(pl:List Int)(letters:List Nat)(k:Nat):List Nat:=((List.range (k+1)).map (stPart pl letters)).flatten
theorem Z0R(rows:List (List Nat))(hi:i<k+1):(placesI rows k).getD i 0=if k+1<rows.length then(placeF (rows.getD i []) (rows.getD (k+1) []):Int) else 0:=by
 rw[List.getD_eq_getElem?_getD,placesI,List.getElem?_map,List.getElem?_range hi];rfl
theorem ZW(rows:List (List Nat))(k:Nat):(placesI rows k).length=k+1:=by rw[placesI,List.length_map,List.length_range]
theorem Z4Q(rows:List (List Nat))(k:Nat):(placesI rows k).map D.int=(List.range' 0 (k+1)).map fun i=>D.int ((placesI rows k).getD i 0):=by
 apply List.ext_getElem?
 intro i
 rcases Nat.lt_or_ge i (k+1) with h | h
 ·rw[List.getElem?_map,List.getElem?_map,List.getElem?_range' h,List.getElem?_eq_getElem (by rw[ZW];exact h),Option.map_some,Option.map_some,List.getD_eq_getElem?_getD,List.getElem?_eq_getElem (by rw[ZW];lia)]
  congr 2
  simp
 ·rw[List.getElem?_eq_none (by rw[List.length_map,ZW];exact h),List.getElem?_eq_none (by simp;exact h)]
theorem YM(rows:List (List Nat))(hr:∀r∈rows,r.length=(rows.getD 0 []).length)(hr2:(rows.getD 0 []).length≤100)(hk:k<rows.length)(hi:i<k+1):0≤(placesI rows k).getD i 0∧(placesI rows k).getD i 0≤100:=by
 rw[Z0R rows hi]
 split
 ·have h1:placeF (rows.getD i []) (rows.getD (k+1) [])≤(rows.getD i []).length:=by
   refine Nat.le_trans (List.idxOf_le_length) ?_
   rw[List.length_zipWith];exact Nat.min_le_left _ _
  have h2:(rows.getD i []).length=(rows.getD 0 []).length:=hr _ (by rw[List.getD_eq_getElem?_getD,List.getElem?_eq_getElem (by exact Nat.lt_of_lt_of_le ‹_› ‹_›)];exact List.getElem_mem _)
  lia
 ·exact⟨by decide,by decide⟩
theorem Z0h(c:Nat):∀n:Nat,(List.replicate n [c]).flatten=List.replicate n c
 |0=>rfl
 |n+1=>by rw[List.replicate_succ,List.flatten_cons,Z0h c n];rfl
theorem Z5T(letters:List Nat)(h:∀{i},i<k+1→pl.getD i 0≤100):∀n s,s+n≤k+1→(((List.range' s n).map (stPart pl letters)).map (·.length)).sum≤101*n
 |0,_,_=>Nat.le_refl _
 |n+1,s,hs=>by
  rw[List.range'_succ,List.map_cons,List.map_cons,List.sum_cons]
  have h1:=Z5T letters h n (s+1) (by lia)
  have h2:=h (i:=s) (by lia)
  have h3:(stPart pl letters s).length≤101:=by
   rw[stPart,List.length_append,List.length_replicate,List.length_singleton]
   split<;>lia
  lia
set_option maxHeartbeats 4000000 in
theorem Z4g(X:WX K){letters:List Nat}{k T:Nat}(hl:letters.length=rows.length)(h6:rows.length≤6)(hk:k<rows.length)(hT:T≤6000)(hr:∀r∈rows,r.length=(rows.getD 0 []).length)(hr2:(rows.getD 0 []).length≤100)
  (hd':∀i,i≤k→k+1<rows.length→true∈List.zipWith (fun x y=>!(x==y)) (rows.getD i []) (rows.getD (k+1) [])):CallSem K (n+60) g (.ref a_law_state) [.lst (rows.map natsI),.str letters,.int k,.int T] (.tup [.str (stateF (placesI rows k) letters k),.int ((stateF (placesI rows k) letters k).length+T:Nat),.int (((placesI rows k).foldl step_dedup []).length:Nat)]):=fun g V vs hvs A r g₁ l=>by
 refine cps fun Q₀ k₀=>?_
 refine ZaI (Zc3 hvs) fun v1 v2 v3 v4 e r1 r2 r3 r4=>?_
 subst e
 refine Zh (n:=n+58) (fn:=[0,1,2,4]) (S':=[]) (binds:=[("rows",v1),("letters",v2),("k",v3),("total",v4)]) (bi:=[(0,.lst (rows.map natsI)),(1,.str letters),(2,.int k),(3,.int T)]) X.f_law_state r (Ze (by rfl)) Z3H Z3m (Z3 X.gt Z3Z)
  ⟨.inr ⟨rfl,by decide⟩,r1.le l,.inr ⟨rfl,by decide⟩,r2.le l,.inr ⟨rfl,by decide⟩,r3.le l,.inl rfl,r4.le l,trivial⟩ fun A' L cells cs g' r' H=>?_
 refine JX (i:=4) (d:=.lst ((placesI rows k).map .int)) H r' rfl (by decide) ((ZN (p:=fun V=>true) (f:=fun d=>match d with | .int i=>.int ((placesI rows k).getD i.toNat 0) | d=>d) H (ZS (pn H 6) (Z8 (pn H 2) Z9 ZQ) (by lia) (by lia)).pit ZZ
  (ZcM (mkSrcs GT [.no,.no,.glob 24,.glob 14,.outer 2,.outer 0]) 1 (by decide +kernel) (Z3 X.gt (by decide +kernel)) (.inl (by decide +kernel)) rfl fun d hd b g' env' cs' lb lb' F2 V V henv=>?_) ?_).is ?_) fun g₂ l₂ H=>?_
 ·obtain⟨L'',cells'',rfl⟩:=henv
  obtain⟨i,V,hi2,rfl⟩:=Z3t hd
  have hi:i<k+1:=by lia
  have hrow:∀j,j<rows.length→atInt (rows.map natsI) ((j:Nat):Int)=some (natsI (rows.getD j [])):=fun j hj=>by
   rw[Jm,List.getElem?_map,List.getElem?_eq_getElem hj,List.getD_eq_getElem?_getD,List.getElem?_eq_getElem hj];rfl
  have hrl:∀j,j<rows.length→(rows.getD j []).length=(rows.getD 0 []).length:=fun j hj=>hr _ (by rw[List.getD_eq_getElem?_getD,List.getElem?_eq_getElem hj];exact List.getElem_mem hj)
  have hpl:=Z0R rows hi
  refine⟨Zv,fun V=>(Z0T (v:=decide (((k:Int)+1)<(rows.length:Nat))) (d:=.int (if k+1<rows.length then(placeF (rows.getD i []) (rows.getD (k+1) []):Int) else 0)) (Zx (Z8 (pn F2 4) Z9 ZQ) ((Zt (pn F2 2) (fun a z=>by cases z) (Z1 (pn F2 5) Z2) (ZD (by rw[List.length_map];lia))).is (by rw[List.length_map])) Z1E) (fun hv=>?_) (fun hv=>?_)).is ?_⟩
  ·have hk1:k+1<rows.length:=by have:=of_decide_eq_true hv;lia
   rw[if_pos hk1]
   exact ZJ (pn F2 3) X.f_law_place (Z1 (Jb (pn F2 5) (pn F2 1) (hrow i (by exact Nat.lt_of_lt_of_le ‹_› ‹_›)) (by rw[List.length_map];lia)) (Z1 (Jb (i:=((k+1:Nat):Int)) (pn F2 5) (Z8 (pn F2 4) Z9 ZQ) (hrow (k+1) hk1) (by rw[List.length_map];lia)) Z2)) (Z0M X (n:=n+38) ((hrl i (by exact Nat.lt_of_lt_of_le ‹_› ‹_›)).trans (hrl (k+1) hk1).symm) (by rw[hrl i (by exact Nat.lt_of_lt_of_le ‹_› ‹_›)];lia) (hd' i (by lia) hk1))
  ·have hk1:¬k+1<rows.length:=by have:=of_decide_eq_false hv;lia
   rw[if_neg hk1];exact Z9
  ·show D.int _=D.int ((placesI rows k).getD ((i:Int)).toNat 0)
   rw[Int.toNat_natCast,hpl]
 ·rw[J9];exact Nat.le_trans (show _≤100 by lia) (by decide)
 ·rw[List.filter_eq_self.mpr (fun V V=>rfl)]
  refine congrArg D.lst ?_
  rw[rgD,List.map_map,show((k:Int)+1).toNat=k+1 by lia,Z4Q]
  exact List.map_congr_left fun i hi=>rfl
 refine Jc H r' (i:=5) (d:=.str (stateF (placesI rows k) letters k)) rfl ((Ja (T:= "str") (id:= "str.join") (d₀:=.str []) (ds:=[.lst (((List.range (k+1)).map (stPart (placesI rows k) letters)).map .str)]) PySem.F.plainAttrs_str PySem.F.slot_str_join PySem.F.type_str_join (Zy rfl) (Z1 ((ZN (p:=fun V=>true) (f:=fun d=>match d with | .int i=>.str (stPart (placesI rows k) letters i.toNat) | d=>d) H (ZS (pn H 6) (Z8 (pn H 2) Z9 ZQ) (by lia) (by lia)).pit ZZ
  (ZcM (mkSrcs GT [.no,.no,.outer 1,.outer 4]) 1 (by decide +kernel) (Z3 X.gt (by decide +kernel)) (.inl (by decide +kernel)) rfl fun d hd b g' env' cs' lb lb' F2 V V henv=>?_) ?_).is ?_) Z2) (Yu ?_)).is (by rw[Yd];rfl)) fun g₃ l₃ H=>?_
 ·obtain⟨L'',cells'',rfl⟩:=henv
  obtain⟨i,V,hi2,rfl⟩:=Z3t hd
  have hi:i<k+1:=by lia
  have hit:atInt ((placesI rows k).map D.int) ((i:Nat):Int)=some (.int ((placesI rows k).getD i 0)):=by
   rw[Jm,List.getElem?_map,List.getElem?_eq_getElem (by rw[ZW];exact hi),List.getD_eq_getElem?_getD,List.getElem?_eq_getElem (by rw[ZW];exact hi)];rfl
  have hle:atInt letters ((i:Nat):Int)=some (letters.getD i 0):=by
   rw[Jm,List.getElem?_eq_getElem (by lia),List.getD_eq_getElem?_getD,List.getElem?_eq_getElem (by lia)];rfl
  have hpb:=YM rows hr hr2 hk hi
  refine⟨Zv,fun V=>(Z8 (Z8 (Zy (l:=[32]) rfl) (Z0T (v:=decide ((placesI rows k).getD i 0∈(placesI rows k).take i)) (d:=.int (if(placesI rows k).getD i 0∈(placesI rows k).take i then 0 else(placesI rows k).getD i 0)) (Zx (Jb (l:=(placesI rows k).map D.int) (pn F2 3) (pn F2 1) hit (by rw[List.length_map,ZW];lia)) ((Q5 (l:=(placesI rows k).map D.int) (pn F2 3) J2 (Qd (pn F2 1)) J2 (fun h=>by cases h) (by rw[List.length_map,ZW];exact Nat.le_trans (show _≤100 by lia) (by decide))).is (d':=.lst (((placesI rows k).take i).map D.int)) (by rw[Z08,List.map_take])) Z7M) (fun hv=>?_) (fun hv=>?_)) (Z3C ?_ ?_ (by decide))) (JK (pn F2 2) (pn F2 1) hle (by lia)) (Jf ?_)).is ?_⟩
  ·rw[if_pos (of_decide_eq_true hv)];exact Z9
  ·rw[if_neg (of_decide_eq_false hv)]
   exact Jb (l:=(placesI rows k).map D.int) (pn F2 3) (pn F2 1) hit (by rw[List.length_map,ZW];lia)
  ·split<;>lia
  ·split<;>lia
  ·rw[Z0h,List.length_replicate]
   exact Nat.le_trans (show _≤101 by rw[List.length_singleton];split<;>lia) (by decide)
  ·rw[Z0h]
   show D.str _=D.str (stPart (placesI rows k) letters ((i:Int)).toNat)
   rw[Int.toNat_natCast,stPart]
   congr 3
   split<;>rfl
 ·rw[J9];exact Nat.le_trans (show _≤100 by lia) (by decide)
 ·rw[List.filter_eq_self.mpr (fun V V=>rfl)]
  refine congrArg D.lst ?_
  rw[rgD,List.map_map,List.map_map,show((k:Int)+1).toNat=k+1 by lia,List.range_eq_range']
  exact List.map_congr_left fun i hi=>rfl
 ·have:=Z5T (pl:=placesI rows k) letters (fun{i} hi=>(YM rows hr hr2 hk hi).2) (k+1) 0 (by lia)
  rw[List.range_eq_range',List.length_map,List.length_range']
  show _+_*0≤_
  lia
 refine ZM r' (J4 (Z1 (pn H 5) (Z1 (Z8 (Zt (pn H 7) (fun a z=>by cases z) (Z1 (pn H 5) Z2) (YY ?_)) (pn H 3) ZQ) (Z1 (Z7K (pn H 7) (pn H 8) (pn H 4) ?_) Z2)))) fun v g₄ l₄ hv=>k₀ _ _ ⟨H.le.trans l₄,hv⟩
 ·have:=Z5T (pl:=placesI rows k) letters (fun{i} hi=>(YM rows hr hr2 hk hi).2) (k+1) 0 (by lia)
  rw[stateF,List.length_flatten,List.range_eq_range']
  lia
 ·rw[ZW];lia
theorem Z6B(h:gwp K A t Q g)(hq:∀v g',(∃s,g'.Ok K.B s)→Q v g'→Q' v g'):gwp K A t Q' g:=fun s E ok=>
 Zn (h s E ok) (fun v s' g' ok' q=>⟨g',ok',hq v g' ⟨s',ok'⟩ q⟩)
theorem JM(X:WX K)
  (hH:Holds (LexOwn x dx pb lf fs ln chars pbs) g)(hnd:[x,dx,pb,lf].Nodup)(r:Room A n)(hf:M_nl name=some (.ref f))(hfn:FnB K.B f fd)(hB:typeLookup (.type "object") name=pure y)(hv:name∉(lexL ln fs pb).map (·.1))
  (ho:Pe K n g (eval o env) (.raw (.ref x)))
  (h:∀g₁,Le g g₁→gwp K A (spliced (backTo pos (starEach args env))) (fun vs g₂=>gwp K A (call (.ref f) (.ref x::vs)) Q g₂) g₁)
  (hb:autoParam (attributeBase o name env (eval o env)=eval o env) Z5)
  (hline:autoParam ((apos.endLine==pos.line)=true) Z5)
  (hfew:autoParam (((backTo pos (starEach args env)).all (fun x=>!x.1)&&(backToKw pos (keywordEach [] env)).all (fun x=>x.1.isSome)
   &&decide (args.length+([]:List Keyword).length+(if([]:List Keyword).isEmpty then 0 else 1)<30))=true) Z5)
  (hp:autoParam ((backTo pos (starEach args env)).any (·.1)=false) Z5):gwp K A (eval (.Call (.Attribute o name apos) args [] pos) env) Q g:=by
 refine Jt ?_ hline hfew
 rw[hb]
 refine ho.use r fun ov g₁ l₁ p' pl=>?_
 have:=Zk p';subst this
 have hne:dx≠x:=Y8 hnd
 refine Z4 (hH (x,MO.obj (instObj C_nl dx)) (by exact .head _)) fun ox x1 x2=>?_
 refine Z4 (hH (dx,MO.inst (lexL ln fs pb)) (by exact .tail _ (.head _))) fun od d1 d2=>?_
 have hxo:ox=instObj C_nl dx:=x2
 clear x2 p' hfew hline hb ho hnd hH;subst hxo
 refine YG X.k_nl Q8 Z6u hf hfn hB (l₁.at x1) (l₁.at d1) ((MO.inst _).mono _ _ _ l₁.im d2) hne hv ?_
 refine Zm hfn.obj fun of f1 f2 f3=>?_
 refine Qn fun z₀=>Zi z₀ fun s ok=>?_
 refine Z4 ((hfn.at ok).obj) fun of' f1' f2'=>?_
 have hof:g₁.has f of:=.inl (ok.base _ _ f1)
 exact ZI hof f2 (Zc hp (Z6B (h g₁ l₁) fun vs g₂ z₀ h₂=>Zi z₀ fun s' ok'=>⟨.inl (ok'.base _ _ f1),h₂⟩))
theorem QM:Str.ofString "get_token"∉(lexL ln fs pb).map (·.1):=by
 show Str.ofString "get_token"∉[Str.ofString "lineno",Str.ofString "instream",Str.ofString "whitespace",Str.ofString "pushback"]
 decide +kernel
theorem Z50:Str.ofString "push_token"∉(lexL ln fs pb).map (·.1):=by
 show Str.ofString "push_token"∉[Str.ofString "lineno",Str.ofString "instream",Str.ofString "whitespace",Str.ofString "pushback"]
 decide +kernel
theorem Z30(X:WX K)(r:Room A (n+20))(h1:Pe K (n+20) g (eval f1 env) (.raw (.ref C_nl)))(h2:Pe K (n+20) g (eval f2 env) (.raw (.ref a_ls)))(h3:Pe K (n+20) g (eval f3 env) (.raw (.type "list")))(he:Pe K (n+20) g (eval e env) (.str T))(hT:T.length≤10000)
  (k:∀x dx pb lf fs g',[x,dx,pb,lf].Nodup→(∀a∈[x,dx,pb,lf],g.mu a=none)→Le g g'→Holds (LexOwn x dx pb lf fs 1 T []) g'→StreamAt g' fs lf→Q (.ref x) g')
  (hs3:autoParam (starEach [e] env=(false,eval e env)::starEach [] env) Z5)
  (hs2:autoParam (starEach [.Call f3 [e] [] p3] env=(false,eval (.Call f3 [e] [] p3) env)::starEach [] env) Z5)
  (hs1:autoParam (starEach [.Call f2 [.Call f3 [e] [] p3] [] p2] env=(false,eval (.Call f2 [.Call f3 [e] [] p3] [] p2) env)::starEach [] env) Z5)
  (hp3:autoParam ((backTo p3 (starEach [e] env)).any (·.1)=false) Z5)(hp2:autoParam ((backTo p2 (starEach [.Call f3 [e] [] p3] env)).any (·.1)=false) Z5)(hp1:autoParam ((backTo p1 (starEach [.Call f2 [.Call f3 [e] [] p3] [] p2] env)).any (·.1)=false) Z5)
  (hc3:autoParam (eval (.Call f3 [e] [] p3) env=(do callWith p3 (←eval f3 env) [] (backTo p3 (starEach [e] env)) (backToKw p3 (keywordEach [] env)))) Z5)
  (hc2:autoParam (eval (.Call f2 [.Call f3 [e] [] p3] [] p2) env=(do callWith p2 (←eval f2 env) [] (backTo p2 (starEach [.Call f3 [e] [] p3] env)) (backToKw p2 (keywordEach [] env)))) Z5)
  (hc1:autoParam (eval (.Call f1 [.Call f2 [.Call f3 [e] [] p3] [] p2] [] p1) env=(do callWith p1 (←eval f1 env) [] (backTo p1 (starEach [.Call f2 [.Call f3 [e] [] p3] [] p2] env)) (backToKw p1 (keywordEach [] env)))) Z5) :
  gwp K A (eval (.Call f1 [.Call f2 [.Call f3 [e] [] p3] [] p2] [] p1) env) Q g:=by
 refine ZK (h1.useR r fun g₁ l₁=>?_) hc1
 refine QC X.k_nl hp1 (Zc hp1 (Zb (ZK ((h2.le l₁).useR r fun g₂ l₂=>?_) hc2) hs1))
 have l12:=l₁.trans l₂
 refine Zm X.f_ls.obj fun of f1 f2 f3=>?_
 refine Qn fun z₀=>Zi z₀ fun s ok=>?_
 have hof:=ok.base _ _ f1
 refine ZI (.inl hof) f2 (Zc hp2 (Zb (ZK ((h3.le l12).useR r fun g₃ l₃=>?_) hc3) hs2))
 have l13:=l12.trans l₃
 refine Zq (fun a z=>by cases z) hp3 (Zc hp3 (Zb ((he.le l13).use r fun v g₄ l₄ hv=>Zd ?_) hs3))
 have l14:=l13.trans l₄
 refine Z12 r.1 hv (ZaP (by exact Nat.le_trans hT (by decide))) fun lf its m hi hm hr=>Zd ?_
 have l₅:Le g₄ (g₄.setMu lf (sq "list" its m)):=ZcL hm
 refine⟨.inl (l₅.im _ _ (l₄.im _ _ (l₃.im _ _ hof))),Zcr (Z3d X (n:=n+16) (r.sub (by exact Nat.le_refl _)) (lf:=lf)) fun v g₆ fs hv l₆ hst=>Zd ?_⟩
 subst hv
 refine Zcn (Z5N X (n:=n+16) (r.sub (by exact Nat.le_refl _)) (fs:=fs)) fun v g₇ x dx pb hv hnd hx hdx hpb l₇ hH=>?_
 subst hv
 have l56:Le g₄ g₆:=l₅.trans l₆
 have hlf:g₆.mu lf=some (sq "list" its m):=l₆.at ZcI
 refine k x dx pb lf fs g₇ ?_ (ZY (Le.nomu (l14.trans l56) hx) (ZY (Le.nomu (l14.trans l56) hdx) (ZY (Le.nomu (l14.trans l56) hpb) (Zr (Le.nomu l14 hm))))) (l14.trans (l56.trans l₇)) ?_ (hst.up l₇)
 ·have h1:x≠lf:=fun e=>ZR hlf (e▸hx)
  have h2:dx≠lf:=fun e=>ZR hlf (e▸hdx)
  have h3:pb≠lf:=fun e=>ZR hlf (e▸hpb)
  simp only[List.nodup_cons,List.mem_cons,List.not_mem_nil,or_false,not_or,List.nodup_nil,and_true,not_false_eq_true] at hnd ⊢
  exact⟨⟨hnd.1.1,hnd.1.2,h1⟩,⟨hnd.2,h2⟩,h3⟩
 ·exact ZY (hH (x,MO.obj (instObj C_nl dx)) (.head _)) (ZY (hH (dx,MO.inst (lexL 1 fs pb)) (.tail _ (.head _))) (ZY (hH (pb,MO.list []) (.tail _ (.tail _ (.head _)))) (Zr ⟨_,l₇.at hlf,its,m,rfl,hr.le (l56.trans l₇)⟩)))
theorem Frm.ndAt{pre ms post:List (Addr×MO)}(F:Frm K b S' fn cs env nm σ (pre++(ms++post)) g):(ms.map (·.1)).Nodup:=by
 have:=F.apart
 rw[List.map_append,List.map_append] at this
 exact(List.nodup_append.mp (List.nodup_append.mp (List.nodup_append.mp this).2.1).2.1).1
theorem Z84(h:gwp K A (eval e env) (fun v g'=>∃d,Zu g'.im d v∧∀a its,g'.im a=none→g'.mu a=none→Z7 g'.im [d] its.toList→Q (.ref a) (g'.setMu a (sq "list" its 0))) g)
  (hst:autoParam (starEach [e] env=(false,eval e env)::starEach [] env) Z5):gwp K A (eval (.List [e] pos) env) Q g:=by
 rw[arm_eval_List]
 exact Z0 (ZF (Z0 (Zb (Za h fun v g' z=>Z4 z fun d hv hq=>Zd (JZ (show(1:Nat)≤sizeLine by decide) fun a h1 h2=>hq a _ h1 h2 (Z7.cons hv Z7.nil))) hst)))
theorem Z6z(r:Room A n)(ho:Pe K n g (eval o env) (.raw (.ref a)))(ha:g.mu a=some (sq "list" its₀ m₀))
  (h:∀g₁,Le g g₁→gwp K A (eval e env) (fun v g₂=>∃its m,g₂.mu a=some (sq "list" its m)∧its.size≤sizeLine∧∀m',gwp K A (execs rest env) Q (g₂.setMu a (sq "list" (its.push v) m'))) g₁)
  (hint:interactive env=false)
  (hst:autoParam (starEach [e] env=(false,eval e env)::starEach [] env) Z5)
  (hbase:autoParam (attributeBase o "append" env (eval o env)=eval o env) Z5)(hline:autoParam ((apos.endLine==pos.line)=true) Z5)
  (hfew:autoParam (((backTo pos (starEach [e] env)).all (fun x=>!x.1)&&(backToKw pos (keywordEach [] env)).all (fun x=>x.1.isSome)
   &&decide ([e].length+([]:List Keyword).length+(if([]:List Keyword).isEmpty then 0 else 1)<30))=true) Z5)
  (hp:autoParam ((backTo pos (starEach [e] env)).any (·.1)=false) Z5):gwp K A (execs (.Expr (.Call (.Attribute o "append" apos) [e] [] pos) spos::rest) env) Q g:=
 Zf (JF (Z1U F.plainAttrs_list slot_list_append F.type_list_append (ho.useR r fun g₂ l₂=>
  ⟨fun s ok=>⟨⟨_,ok.mu _ _ (l₂.at ha),rfl⟩,fun a' e=>by cases e;exact⟨_,ok.mu _ _ (l₂.at ha),rfl⟩⟩,
   Zb (Za (h g₂ l₂) fun v g₃ z=>Zw z fun its m h1 h2 hq=>Zd (YV h1 h2 fun m'=>⟨(fun a z=>by cases z),hq m'⟩)) hst⟩) hbase hline hfew hp) hint)
noncomputable def Reads:List Nat→List (List Nat)→Prop
 |T,[]=>lexA 0 [] T=([],[])
 |T,w::ws=>w≠[]∧∃T',lexA 0 [] T=(w,T')∧T'.length≤T.length∧Reads T' ws
theorem YT(X:WX K){o:Expr}{T chars:List Nat}{pre post:List (Addr×MO)}(F:Frm K b S' fn cs env nm σ (pre++(LexOwn x dx pb lf fs (1+(T.count 10:Nat)-(chars.count 10:Nat)) chars []++post)) g)(hst:StreamAt g fs lf)(r:Room A (n+10))(hsz:chars.length≤10000)
  (ho:Pe K (n+10) g (eval o env) (.raw (.ref x)))
  (k:∀v g',LeX [x,dx,pb,lf] g g'→StreamAt g' fs lf→Zu g'.im (.str (lexA 0 [] chars).1) v→Frm K b S' fn cs env nm σ (pre++(LexOwn x dx pb lf fs (1+(T.count 10:Nat)-((lexA 0 [] chars).2.count 10:Nat)) (lexA 0 [] chars).2 []++post)) g'→Q v g')
  (hb:autoParam (attributeBase o "get_token" env (eval o env)=eval o env) Z5)(hline:autoParam ((apos.endLine==pos.line)=true) Z5)
  (hfew:autoParam (((backTo pos (starEach [] env)).all (fun x=>!x.1)&&(backToKw pos (keywordEach [] env)).all (fun x=>x.1.isSome)
   &&decide (([]:List Expr).length+([]:List Keyword).length+(if([]:List Keyword).isEmpty then 0 else 1)<30))=true) Z5)
  (hp:autoParam ((backTo pos (starEach [] env)).any (·.1)=false) Z5):gwp K A (eval (.Call (.Attribute o "get_token" apos) [] [] pos) env) Q g:=
 JM X F.holdsAt F.ndAt r JH X.f_nl_gt Z77 QM ho (fun g₁ l₁=>Zd (Qj (Z1k X (n:=n) r (F.up l₁).holdsAt F.ndAt (hst.up l₁) hsz) fun v g₂ hv l₂ hH=>by
  refine k v g₂ ((LeX.of l₁).trans l₂) ((hst.up l₁).up l₂) hv ?_
  have:=(F.up l₁).advAt (ms':=LexOwn x dx pb lf fs (1+(T.count 10:Nat)-(chars.count 10:Nat)+chars.count 10-(lexA 0 [] chars).2.count 10) (lexA 0 [] chars).2 []) l₂ rfl hH Jg
  rw[show(1+(T.count 10:Nat)-(chars.count 10:Nat)+(chars.count 10:Nat)-((lexA 0 [] chars).2.count 10:Nat):Int)=1+(T.count 10:Nat)-((lexA 0 [] chars).2.count 10:Nat) by lia] at this
  exact this)) hb hline hfew hp
end
section
open PySem
noncomputable def ltr(i:Nat):Nat:=97+i%6
noncomputable def wsg(t i:Nat):Nat:=[10,9,13,32].getD ((i+t)%4) 0
noncomputable def gapT(t i r:Nat):List Nat:=List.replicate (2^r-1) 92++[wsg t i]
noncomputable def tlT(t:Nat):Nat→List Nat→List Nat
 |_,[]=>[]
 |i,r::rs=>gapT t i r++ltr (i+1)::tlT t (i+1) rs
noncomputable def txt(t i:Nat)(rs:List Nat):List Nat:=ltr i::tlT t i rs
noncomputable def splitR:Nat→List Nat→List Nat×List (Nat×List Nat)
 |_,[]=>([],[])
 |i,0::rs=>([],(i+1,(splitR (i+1) rs).1)::(splitR (i+1) rs).2)
 |i,(r+1)::rs=>(r::(splitR (i+1) rs).1,(splitR (i+1) rs).2)
noncomputable def splitW(w:Nat×List Nat):List (Nat×List Nat):=(w.1,(splitR w.1 w.2).1)::(splitR w.1 w.2).2
noncomputable def txtW(t:Nat)(w:Nat×List Nat):List Nat:=txt t w.1 w.2
theorem Z3a(t i:Nat):wsg t i∈wsL:=(by decide:∀k,k<4→[10,9,13,32].getD k 0∈wsL) _ (Nat.mod_lt _ (by decide))
theorem Z1J(i:Nat):ltr i∈[97,98,99,100,101,102]:=(by decide:∀k,k<6→97+k∈[97,98,99,100,101,102]) _ (Nat.mod_lt _ (by decide))
theorem Yp(h:c∈[97,98,99,100,101,102]):c∉wsL∧c≠34∧c≠92:=by
 revert c;decide
theorem Z6v(acc rest:List Nat):∀m,lexA 2 acc (List.replicate (2*m) 92++rest)=lexA 2 (acc++List.replicate m 92) rest:=by
 intro m
 induction m generalizing acc with
 |zero=>simp
 |succ m ih=>
  rw[show 2*(m+1)=(2*m)+1+1 from by exact rfl,List.replicate_succ,List.replicate_succ,List.cons_append,List.cons_append]
  have:lexA 2 acc (92::92::(List.replicate (2*m) 92++rest))=lexA 2 (acc++[92]) (List.replicate (2*m) 92++rest):=by exact rfl
  rw[this,ih,List.replicate_succ,List.append_assoc];rfl
theorem Z9m(acc rest:List Nat)(t i r:Nat):lexA 2 acc (gapT t i (r+1)++rest)=lexA 2 (acc++gapT t i r) rest:=by
 unfold gapT
 have e:2^(r+1)-1=2*(2^r-1)+1:=by
  have:=Nat.pow_pos (n:=r) (show 0<2 by decide)
  rw[Nat.pow_succ]
  generalize 2^r=q at *
  cases q with
  |zero=>cases this
  |succ q=>show(q+1)*2-1=2*q+1;rw[Nat.succ_mul,Nat.mul_comm];rfl
 rw[e,List.replicate_succ',List.append_assoc,List.append_assoc,Z6v]
 show lexA 2 _ (92::wsg t i::rest)=_
 have:∀a:List Nat,lexA 2 a (92::wsg t i::rest)=lexA 2 (a++[wsg t i]) rest:=fun a=>by exact rfl
 rw[this,List.append_assoc]
theorem Z9l(acc rest:List Nat)(i:Nat):lexA 2 acc (ltr i::rest)=lexA 2 (acc++[ltr i]) rest:=by
 refine Z0K (Yp (Z1J i)) fun h1 h2 h3=>?_
 rw[lexA,if_neg h1,if_neg h3]
theorem Z52(rest:List Nat)(i:Nat):lexA 0 [] (ltr i::rest)=lexA 2 [ltr i] rest:=by
 refine Z0K (Yp (Z1J i)) fun h1 h2 h3=>?_
 rw[lexA,if_neg h1,if_neg h2,if_neg h3];rfl
theorem Z7c:∀(cs t:List Nat) (m:Nat),(lexA m t cs).2.length≤cs.length:=by
 intro cs
 induction cs with
 |nil=>intro t m;simp[lexA]
 |cons c cs ih=>
  intro t m
  have h:∀m t,(lexA m t cs).2.length≤(c::cs).length:=fun m t=>Nat.le_trans (ih t m) (by simp)
  match m with
  |0=>rw[lexA];(repeat' split)<;>exact h _ _
  |1=>rw[lexA];(repeat' split)<;>first | exact h _ _ | exact Nat.le_succ _
  |2=>rw[lexA];(repeat' split)<;>first | exact h _ _ | exact Nat.le_succ _
  |3=>rw[lexA];exact h _ _
  |k+4=>rw[lexA];exact h _ _;all_goals intros;lia
theorem Z1y(t:Nat):∀(rs:List Nat) (i:Nat) (acc:List Nat),∃T',lexA 2 acc (tlT t i rs)=(acc++tlT t i (splitR i rs).1,T')∧Reads T' ((splitR i rs).2.map (txtW t))
 |[],i,acc=>⟨[],by rw[splitR,tlT,lexA,List.append_nil],rfl⟩
 |0::rs,i,acc=>by
  refine⟨ltr (i+1)::tlT t (i+1) rs,?_,?_⟩
  ·rw[splitR,tlT,tlT,List.append_nil]
   show lexA 2 acc (wsg t i::_)=_
   rw[lexA,if_pos (Z3a t i)];rfl
  ·refine Z4 (Z1y t rs (i+1) [ltr (i+1)]) fun T' h1 h2=>?_
   rw[splitR]
   have h0:lexA 0 [] (ltr (i+1)::tlT t (i+1) rs)=(txt t (i+1) (splitR (i+1) rs).1,T'):=by rw[Z52];exact h1
   refine⟨by simp[txtW,txt],T',h0,?_,h2⟩
   have:=Z7c (ltr (i+1)::tlT t (i+1) rs) [] 0
   rw[h0] at this;exact this
 |(r+1)::rs,i,acc=>by
  refine Z4 (Z1y t rs (i+1) (acc++gapT t i r++[ltr (i+1)])) fun T' h1 h2=>?_
  refine⟨T',?_,h2⟩
  rw[splitR,tlT,tlT,Z9m,Z9l,h1]
  simp[List.append_assoc]
theorem Z0o(t:Nat)(w:Nat×List Nat):Reads (txtW t w) ((splitW w).map (txtW t)):=by
 refine Z4 (Z1y t w.2 w.1 [ltr w.1]) fun T' h1 h2=>?_
 have h0:lexA 0 [] (txtW t w)=(txt t w.1 (splitR w.1 w.2).1,T'):=by rw[txtW,txt,Z52];exact h1
 refine⟨by simp[txtW,txt],T',h0,?_,h2⟩
 have:=Z7c (txtW t w) [] 0
 rw[h0] at this;exact this
theorem Z2I:∀{ws ws':List (List Nat)} {T:List Nat},Reads T ws→Reads T ws'→ws=ws'
 |[],[],_,_,_=>rfl
 |[],w::ws',T,h,⟨h1,T',h2,_⟩=>by
  have h:lexA 0 [] T=([],[]):=h
  rw[h] at h2;injection h2 with h2;exact absurd h2.symm h1
 |w::ws,[],T,⟨h1,T',h2,_⟩,h=>by
  have h:lexA 0 [] T=([],[]):=h
  rw[h] at h2;injection h2 with h2;exact absurd h2.symm h1
 |w::ws,w'::ws',T,⟨_,T',h2,_,h3⟩,⟨_,T'',h5,_,h6⟩=>by
  rw[h2] at h5;injection h5 with h5 h7
  subst h5;subst h7
  rw[Z2I h3 h6]
open Classical in
noncomputable def spF(w:List Nat):List (List Nat):=if h:∃ws,Reads w ws then choose h else[]
theorem Z1c(t:Nat)(w:Nat×List Nat):spF (txtW t w)=(splitW w).map (txtW t):=by
 have h:∃ws,Reads (txtW t w) ws:=⟨_,Z0o t w⟩
 rw[spF,dif_pos h]
 exact Z2I (Classical.choose_spec h) (Z0o t w)
noncomputable def wordsR(w:Nat×List Nat):Nat→List (Nat×List Nat)
 |0=>[w]
 |k+1=>(wordsR w k).flatMap splitW
theorem Z3i(t:Nat):∀(rs:List Nat) (i:Nat),(∀r∈rs,r≤5)→(tlT t i rs).length≤33*rs.length
 |[],_,_=>Nat.le_refl _
 |r::rs,i,h=>by
  have h1:=Z3i t rs (i+1) fun r hr=>h r (.tail _ hr)
  have h2:2^r≤2^5:=Nat.pow_le_pow_right (by decide) (h r (.head _))
  rw[tlT,gapT,List.length_append,List.length_append,List.length_replicate,List.length_cons,List.length_cons,List.length_cons (a:=r),List.length_nil]
  refine Nat.le_trans (Nat.add_le_add (Nat.add_le_add_right (Nat.sub_le_sub_right h2 1) 1) (Nat.add_le_add_right h1 1)) (Nat.le_of_eq ?_)
  rw[Nat.add_comm,Nat.mul_succ]
theorem ZaU(t i:Nat):wsg t i<128:=by
 have:=Z3a t i
 revert this;generalize wsg t i=c;revert c;decide
theorem Z6s(i:Nat):ltr i<128:=by exact Nat.lt_trans (Nat.add_lt_add_left (Nat.mod_lt i (by decide)) 97) (by decide)
theorem Z8u(t:Nat):∀(rs:List Nat) (i:Nat),∀c∈tlT t i rs,c<128
 |[],_,c,h=>nomatch h
 |r::rs,i,c,h=>by
  rw[tlT,gapT] at h
  rcases List.mem_append.mp h with h | h
  ·rcases List.mem_append.mp h with h | h
   ·rw[List.eq_of_mem_replicate h];decide
   ·rw[List.mem_singleton.mp h];exact ZaU t i
  ·rcases List.mem_cons.mp h with rfl | h
   ·exact Z6s _
   ·exact Z8u t rs (i+1) c h
theorem Z6Z(t:Nat)(w:Nat×List Nat):∀c∈txtW t w,c<128:=fun c h=>by
 rcases List.mem_cons.mp h with rfl | h
 ·exact Z6s _
 ·exact Z8u t _ _ c h
end
section
open PySem PySem.Spec PySem.Calls PyProof.Rows PySem.W PySem.SeqAt
variable{K:Wd}{A:Around}{g:Gh}{n:Nat}{env:Env}{α:Type}
variable{b:Gh}{S':List Addr}{fn:List Nat}{cs:List Addr}{nm:List (Str×NameKind)}{σ σ':List (Option D)}{own:List (Addr×MO)}
theorem Z1z(h:Reads chars todo)(e:done++todo=ws):(lexA 0 [] chars).2.length≤chars.length∧(((lexA 0 [] chars).1≠[]∧∃todo',done++[(lexA 0 [] chars).1]++todo'=ws∧Reads (lexA 0 [] chars).2 todo'∧todo.length=todo'.length+1)∨((lexA 0 [] chars).1=[]∧done=ws∧(lexA 0 [] chars).2=[])):=by
 cases todo with
 |nil=>
  have h:lexA 0 [] chars=([],[]):=h
  rw[h,←e]
  exact⟨Nat.zero_le _,.inr ⟨rfl,(List.append_nil _).symm,rfl⟩⟩
 |cons w todo=>
  obtain⟨h1,T',h2,h3,h4⟩:=h
  rw[h2]
  exact⟨h3,.inl ⟨h1,todo,by rw[←e,List.append_assoc];rfl,h4,rfl⟩⟩
theorem Z7I{γ:Type}(l:List γ)(d:γ):pick (l++[d]) none (some (-1)) none=l:=by
 have hl:(l++[d]).length=l.length+1:=List.length_append
 delta pick sliceBounds
 simp only[Option.getD_none,show(1:Int)>0 from by decide,if_true,show((-1:Int)<0) from by decide]
 rw[hl,show max 0 (min (-1+((l.length+1:Nat):Int)) ((l.length+1:Nat):Int))=((l.length:Nat):Int) by lia,show(0:Int)=((0:Nat):Int) from rfl,Qw,List.drop_zero,List.take_left]
noncomputable def wdsS(T:List Nat)(x ra:Addr):List (Option D):=[some (.str T),some (.raw (.ref x)),some (.raw (.ref ra)),some (.raw (.ref C_nl)),some (.raw (.ref a_ls)),some (.raw (.type "list"))]
noncomputable abbrev lnF(T chars:List Nat):Int:=1+(T.count 10:Nat)-(chars.count 10:Nat)
theorem Z4f(X:WX K)(hT:T.length≤10000)(hn:ws.length≤100)(hR:Reads T ws):CallSem K (n+30) g (.ref a_law_words) [.str T] (.lst (ws.map .str)):=fun g V vs hvs A r g₁ l=>by
 refine cps fun Q₀ k₀=>?_
 refine Z4 (Jo hvs) fun v1 e r1=>?_
 subst e
 refine Zh (n:=n+28) (fn:=[]) (S':=[]) (binds:=[("text",v1)]) (bi:=[(0,.str T)]) X.f_law_words r (Ze (by rfl)) Z3G Z3l (Z3 X.gt Z3Y)
  ⟨.inl rfl,r1.le l,trivial⟩ fun A' L cells cs g' r' H=>?_
 refine Zf (J3 (Z30 X (n:=n+8) r' (pn H 3) (pn H 4) (pn H 5) (pn H 0) hT fun x dx pb lf fs g₂ hnd hmu l₂ hH hst=>?_))
 have hbm:∀a,g'.mu a=none→g₁.mu a=none:=fun a h=>have z:Le g₁ g':=H.le;z.nomu h
 replace H:=(H.up l₂).adopt H hH hnd hmu (fun a ha=>.inr (hbm a (hmu a ha)))
 refine H.storeLocal (i:=1) rfl (d:=.raw (.ref x)) Zl fun g₃ l₃ H=>?_
 replace hst:=hst.up l₃
 rw[List.append_nil] at H
 have hl0:(1:Int)=lnF T T:=by unfold lnF;lia
 rw[hl0] at H
 refine Zf (J3 (Z84 (YT X (n:=n+18) (pre:=[]) (post:=[]) (T:=T) (by rw[List.nil_append,List.append_nil];exact H) hst r' hT (pn H 1) fun v g₄ l₄ hst hv H=>⟨_,hv,fun ra its hi hm hr=>?_⟩)))
 rw[List.nil_append,List.append_nil] at H
 have hbr:g₁.mu ra=none:=have z:Le g₁ g₄:=H.le;z.nomu hm
 have lm:Le g₄ (g₄.setMu ra (sq "list" its 0)):=ZcL hm
 replace H:=(H.up lm).adopt (ms:=[(ra,MO.list [.str (lexA 0 [] T).1])]) H (Zr ⟨_,ZcI,its,0,rfl,hr⟩) (by simp) (Zr hm) (Zr (.inr hbr))
 replace hst:=hst.up lm
 refine H.storeLocal (i:=2) rfl (d:=.raw (.ref ra)) Zl fun g₅ l₅ H=>?_
 replace hst:=hst.up l₅
 let J:Nat→Gh→Prop:=fun k g=>∃(done:List (List Nat)) (cur chars:List Nat),done.length≤ws.length∧chars.length≤T.length∧StreamAt g fs lf∧((cur≠[]∧∃todo,done++[cur]++todo=ws∧Reads chars todo∧k=todo.length+1)∨(cur=[]∧done=ws∧chars=[]))∧
  Frm K g₁ [] [] cs (newEnv (scopeOf st_law_words) L mainGlobals cells ("_law_words"++ ".<locals>.") (some a_law_words) (.ref c_law_words) none builtinsNs) (scopeOf st_law_words).names (wdsS T x ra) ([(ra,MO.list ((done++[cur]).map .str))]++LexOwn x dx pb lf fs (lnF T chars) chars []) g
 refine Z1P J ws.length ?_ ?_
 ·refine ZG (Z1z (done:=[]) hR (List.nil_append _)) fun s1 s2=>?_
  exact⟨[],(lexA 0 [] T).1,(lexA 0 [] T).2,Nat.zero_le _,s1,hst,s2.imp (fun z=>⟨z.1,Zm z.2 fun todo a b c=>⟨todo,a,b,c⟩⟩) id,H.lessN (is:=[])⟩
 ·rintro k g ⟨done,cur,chars,hdl,hcl,hst,hc,H⟩
  obtain⟨ob,e1,its',m',e,hr'⟩:=H.own1
  subst e
  refine Pv.use (Zx (Z2M (d:=.str cur) (pn H 2) (QY Z9 QJ) e1 hr' (by rw[List.map_append];exact Z0J _ _) (by rw[List.length_map,List.length_append,List.length_singleton];lia)) (Zy (l:=[]) rfl) Z3B) r' fun v g₆ l₆ hv=>?_
  replace H:=H.up l₆
  replace hst:=hst.up l₆
  subst hv
  rcases hc with⟨hne,todo,e1',hrd,hk⟩ | ⟨hcur,hdone,hch⟩
  ·rw[if_pos (bne_iff_ne.mpr hne)]
   refine Z6z r' (pn H 2) (l₆.at e1) (fun g₇ l₇=>YT X (n:=n+18) (pre:=[(ra,MO.list ((done++[cur]).map .str))]) (post:=[]) (T:=T) (by rw[List.append_nil];exact H.up l₇) (hst.up l₇) r' (Nat.le_trans hcl hT) (pn (H.up l₇) 1) fun v g₈ l₈ hst hv H=>?_) H.inter
   rw[List.append_nil] at H
   obtain⟨ob,e1,its'',m'',e,hr''⟩:=H.own1
   subst e
   refine⟨its'',m'',e1,?_,fun m3=>?_⟩
   ·rw[←Array.length_toList,hr''.length,List.length_map,List.length_append,List.length_singleton];exact Nat.le_trans (show _≤101 by exact Nat.lt_of_le_of_lt (Nat.le_trans hdl hn) (by decide)) (by decide)
   ·have H':=H.setList (m':=m3) (its':=its''.push v) (ds':=((done++[cur]++[(lexA 0 [] chars).1]).map .str)) (by
     rw[Array.toList_push,List.map_append (l₁:=done++[cur])]
     exact Z7.append hr'' (Z7.cons hv Z7.nil))
    refine ZG (Z1z hrd e1') fun s1 s2=>?_
    have hlen:(done++[cur]).length≤ws.length:=by rw[←e1',List.length_append (as:=done++[cur])];exact Nat.le_add_right _ _
    have hst':StreamAt (g₈.setMu ra (sq "list" (its''.push v) m3)) fs lf:=hst.up (LeX.setMu (a:=ra))
    refine ZC ?_
    rcases s2 with⟨z1,todo',z2,z3,z4⟩ | ⟨z1,z2,z3⟩
    ·exact⟨todo'.length+1,by lia,done++[cur],_,_,hlen,Nat.le_trans s1 hcl,hst',.inl ⟨z1,todo',z2,z3,rfl⟩,H'⟩
    ·exact⟨0,by lia,done++[cur],_,_,hlen,Nat.le_trans s1 hcl,hst',.inr ⟨z1,z2,z3⟩,H'⟩
  ·rw[if_neg (by rw[hcur];decide)]
   subst hcur;subst hdone;subst hch
   refine Qa H fun g₇ l₇ H hrw=>?_
   have hne:dx≠x:=Y8 hnd
   refine ZM r' (Z0T (v:=true) (Zx (v:=true) (d₁:=.int (lnF T [])) (d₂:=.int (1+(T.count 10:Nat))) (QI H X.k_nl Q8 Q7 Qx (i:=0) (j:=1) (d:=.int (lnF T [])) rfl rfl hne (.head _) (pn H 1)) (Z8 Z9 (Ja (T:= "str") (id:= "str.count") PySem.F.plainAttrs_str PySem.F.slot_str_count PySem.F.type_str_count (pn H 0) (Z1 (Zy (l:=[10]) rfl) Z2) Z5z) ZQ) ?_) (fun V=>(Q5 (Z1D (pn H 2) hrw) J2 (Qd (QY Z9 QJ)) J2 (fun h=>by cases h) ?_).is ?_) (fun z=>by cases z)) fun v g₈ l₈ hv=>k₀ _ _ ⟨H.le.trans l₈,hv⟩
   ·have:=Y6 (K:=K) (n:=n+28) (g:=g₇) (x:=lnF T []) (y:=1+(T.count 10:Nat))
    rw[show(lnF T []==1+((T.count 10:Nat):Int))=true by rw[beq_iff_eq];unfold lnF;simp] at this
    exact this
   ·rw[List.length_map,List.length_append,List.length_singleton];exact Nat.le_trans (show _≤101 by exact Nat.lt_of_le_of_lt hn (by decide)) (by decide)
   ·rw[List.map_append];exact congrArg D.lst (Z7I _ _)
theorem ZbV:M_Ac "part_count" = some (.ref a_Ac_pc):=by decide +kernel
theorem ZaF:M_Ac "pop" = some (.ref a_Ac_pop):=by decide +kernel
theorem Zcb:typeLookup (.type "list") "part_count" = pure none:=by rw[typeLookup_type,builtinLookup_eq_fast];kernel_rfl
theorem Zbv:typeLookup (.type "list") "pop" = pure (some (.builtin "list.pop")):=by rw[typeLookup_type,builtinLookup_eq_fast];kernel_rfl
theorem Z3c(X:WX K)(hx:g.mu x=some (lsObj C_Ac dx its m)):Pe K (n+2) g (call (.ref a_Ac_pc) [.ref x]) (.int its.size):=fun A r g₀ l₀=>by
 refine cps fun Q₀ k₀=>?_
 refine ZO (X.cf c_Ac_pc (by exact .tail _ (.tail _ (.head _)))) fun oc vs t c1 c2 c3=>?_
 refine Zw X.stt fun oS mS s1 s2 s3=>?_
 refine QS (n:=n) (fn:=[]) (S':=[]) (binds:=[("self",.ref x)]) (bi:=[(0,.raw (.ref x))]) X.f_Ac_pc X.cc r (Ze (by rfl)) Z98 Z8H (Z3 X.gt Z9I)
  ⟨.inl rfl,Zl,trivial⟩ fun A' L cells cs g' r' H=>?_
 have lA:Le g g':=l₀.trans H.le
 have x1:=lA.at hx
 refine Ji (Z24 (Qb ?_ (by rfl)))
 refine Zm X.f_Ac_pc.obj fun oF f1 f2 f3=>?_
 refine fun s E ok=>?_
 refine Z0E H X.k_Ac (i:=2) (j:=1) (k:=0) (ar:=((paramsOf st_Ac_pc).posonlyargs++(paramsOf st_Ac_pc).args).headD ⟨"",none,⟨0,0,0,0⟩⟩) rfl rfl rfl rfl rfl rfl (by decide +kernel) rfl (.inl (ok.base _ _ f1)) f2 rfl rfl (.inl (ok.base _ _ c1)) c2 c3 (by lia) (Z3K X) x1 r' (fun so g₂ l₂ hso=>?_) s E ok
 refine Z3P Zdb Zdd X.k_Ac s1 s2 s3 (l₂.at x1) hso fun p p1 p2=>?_
 have lp:Le g₂ (g₂.addIm p (bndO "method-wrapper" "list.__len__" x)):=Le.addIm p1
 refine Z5m ZcJ (lp.at (l₂.at x1)) fun t=>?_
 exact k₀ _ _ ⟨H.le.trans (l₂.trans lp),Zp⟩
theorem Yz(X:WX K)(ho:Pe K (n+2) g (eval o env) (.raw (.ref x)))(hx:g.mu x=some (lsObj C_Ac dx its m))(hd:g.mu dx=some od)(hm:(MO.inst (accL d)).P g.im od)
  (hb:autoParam (attributeBase o ("part_count":Str) env (eval o env)=eval o env) Z5)
  (hline:autoParam ((apos.endLine==pos.line)=true) Z5):Pe K (n+2) g (eval (.Call (.Attribute o ("part_count":Str) apos) [] [] pos) env) (.int its.size):=fun A r g₁ l₁=>
 Z2Z r X.k_Ac Z4e Z4d ZbV X.f_Ac_pc Zcb (ho.le l₁) (l₁.at hx) (l₁.at hd) ((MO.inst (accL d)).mono _ _ _ l₁.im hm) (by simp only[accL,List.map_cons,List.map_nil,List.mem_singleton];decide +kernel) Z2 (fun vs g' l rs=>by
  have:vs=[]:=rs;subst this
  exact Zg (Z3c X (n:=n) (l.at (l₁.at hx)) A r g' (LeX.refl _ _)) fun v g'' l2 p=>⟨l.trans l2,p⟩) hb hline (by rfl) (by rfl)
theorem Zd3:∀{ds:List D} {vs:List Value},Z7 im (ds++[e]) vs→∃ws v,vs=ws++[v]∧Z7 im ds ws∧Zu im e v
 |[],vs,h=>Z4 (Jo h) fun v e r=>⟨[],v,e,rfl,r⟩
 |d::ds,vs,h=>Zw (Z1v h) fun u us e r z=>Zw (Zd3 z) fun ws v e' rs rv=>⟨u::ws,v,by rw[e,e'];rfl,Z7.cons r rs,rv⟩
theorem Zde(h:Z7 im (ds++[e]) its.toList):∃its' v,its=Array.push its' v∧Z7 im ds its'.toList∧Zu im e v:=
 Zw (Zd3 h) fun ws v e' rs rv=>⟨ws.toArray,v,Array.ext' (by rw[e',Array.toList_push]),rs,rv⟩
noncomputable def popD(ds:List D):D:=ds.getLastD (.tup [.str [],.str []])
theorem Z7s(X:WX K)(r:Room A (n+4))(hH:Holds (AccOwn x dx d ds) g)(hnd:[x,dx].Nodup)(hsz:ds.length≤10000) :
  gwp K A (call (.ref a_Ac_pop) [.ref x]) (fun u g'=>Zu g'.im (popD ds) u∧LeX [x,dx] g g'∧Holds (AccOwn x dx d ds.dropLast) g') g:=by
 refine cps fun Q₀ k₀=>?_
 refine ZO (X.cf c_Ac_pop (by exact .tail _ (.head _))) fun oc vs t c1 c2 c3=>?_
 refine Zw X.stt fun oS mS s1 s2 s3=>?_
 refine QS (n:=n+2) (fn:=[]) (S':=[]) (binds:=[("self",.ref x)]) (bi:=[(0,.raw (.ref x))]) X.f_Ac_pop X.cc r (Ze (by rfl)) Z7O Z7z (Z3 X.gt Z87)
  ⟨.inl rfl,Zl,trivial⟩ fun A' L cells cs g' r' H=>?_
 replace H:=H.adoptB hH hnd
 clear hnd r;obtain⟨ox,x1,its,mm,rfl,x2⟩:=H.at (i:=0) rfl
 refine Z4 (H.at (i:=1) rfl) fun od d1 d2=>?_
 refine Ji (Z47 (Z74 ((Zx (Yz X (pn H 0) x1 d1 d2) Z9 Y6).use r' fun u g₁ l₁ p=>?_)))
 clear d1;subst p
 replace H:=H.up l₁
 have hlen:=x2.length
 refine(List.eq_nil_or_concat ds).elim (fun e0=>?_) fun z=>QD z fun ds' e eds=>?_
 ·subst e0
  have e0:its.size=0:=by rw[←Array.length_toList,hlen];rfl
  rw[e0]
  refine Zf (Z0l ((J4 (Z1 (Zy (l:=[]) rfl) (Z1 (Zy (l:=[]) rfl) Z2))).use r' fun v g₂ l₂ p=>?_))
  replace H:=H.up l₂
  exact k₀ _ _ ⟨p,H.le,H.holds⟩
 ·rw[List.concat_eq_append] at eds
  clear z;subst eds
  rw[List.length_append] at hlen hsz
  have e0:1≤its.size:=by rw[←Array.length_toList,hlen];exact Nat.le_add_left _ _
  rw[show((its.size:Int)==(0:Int))=false from beq_false_of_ne (by lia)]
  refine ZC ?_
  refine Zw (Zde x2) fun its' v ei rs rv=>?_
  clear e0 hlen x2 hH;subst ei
  have hsz':its'.size≤sizeLine:=by rw[←Array.length_toList,rs.length];exact Nat.le_trans (Nat.le_of_add_right_le hsz) (by decide)
  refine Ji (Z24 (Qb ?_ (by rfl)))
  refine Zm X.f_Ac_pop.obj fun oF f1 f2 f3=>?_
  refine fun s E ok=>?_
  have y1:=l₁.at x1
  refine Z0E H X.k_Ac (i:=2) (j:=1) (k:=0) (ar:=((paramsOf st_Ac_pop).posonlyargs++(paramsOf st_Ac_pop).args).headD ⟨"",none,⟨0,0,0,0⟩⟩) rfl rfl rfl rfl rfl rfl (by decide +kernel) rfl (.inl (ok.base _ _ f1)) f2 rfl rfl (.inl (ok.base _ _ c1)) c2 c3 (by lia) (Z3K X) y1 r' (fun so g₂ l₂ hso=>?_) s E ok
  refine Z3P Zda Zdc X.k_Ac s1 s2 s3 (l₂.at y1) hso fun p p1 p2=>?_
  have lp:Le g₂ (g₂.addIm p (bndO "builtin_function_or_method" "list.pop" x)):=Le.addIm p1
  refine Z5l X.k_Ac ZcJ (lp.at (l₂.at y1)) hsz' fun m'=>?_
  have lA:Le g' (g₂.addIm p (bndO "builtin_function_or_method" "list.pop" x)):=LeX.trans (LeX.trans l₁ l₂) lp
  replace H:=(H.up (l₂.trans lp)).adv (i:=0) rfl (LeX.setMu (a:=x) (o:=lsObj C_Ac dx its' m')) (m':=MO.lsub C_Ac dx ds') ⟨_,ZcI,its',m',rfl,rs.mono lA.im⟩ ZcT
  refine k₀ _ _ ⟨?_,H.le,?_⟩
  ·rw[popD,List.getLastD_concat]
   exact rv.mono lA.im
  ·rw[List.dropLast_concat]
   exact H.holds
end
section
open PySem PySem.Spec PySem.Calls PyProof.Rows PySem.W PySem.SeqAt
open Builtin Builtin.Str
section
variable{prog:Program}{w:World}{A:Around}{E:Value→Shared→Prop}{s:Shared}{env:Env}
theorem Z0i
  (h:wpAny (model prog w) A (eval o env) (fun v s₁=>v=.str x t∧wpAny (model prog w) A (spliced (backTo pos (starEach [e] env))) (fun vs s₂=>wpAny (model prog w) A (call (.builtin "str.join") (.str x t::vs)) Q E s₂) E s₁) E s)
  (hb:autoParam (attributeBase o ("join":Str) env (eval o env)=eval o env) Z5)(hline:autoParam ((apos.endLine==pos.line)=true) Z5)
  (hp:autoParam ((backTo pos (starEach [e] env)).any (·.1)=false) Z5)
  (hfew:autoParam (((backTo pos (starEach [e] env)).all (fun x=>!x.1)&&(backToKw pos (keywordEach [] env)).all (fun x=>x.1.isSome)
   &&decide ([e].length+([]:List Keyword).length+(if([]:List Keyword).isEmpty then 0 else 1)<30))=true) Z5):wpAny (model prog w) A (eval (.Call (.Attribute o ("join":Str) apos) [e] [] pos) env) Q E s:=by
 rw[arm_eval_Call,hb]
 refine wpAny_bind (ZaJ h (fun ov s₁ e1 h₁=>wpAny_bind (wpAny_standAt ?_)))
 subst e1
 have hform:methodCallForm ([e].length+([]:List Keyword).length) (backTo pos (starEach [e] env)) (backToKw pos (keywordEach [] env))=true:=hfew
 have hpos:methodCallPos true o env apos pos=pure pos:=by unfold methodCallPos;simp[hline]
 unfold methodCall
 rw[hform]
 refine wpAny_bind (wpAny_holding (GM.join ?_))
 refine wpAny_bind (wpAny_of_eq hpos ?_)
 exact callWith_builtin hp (QV hp h₁)
theorem Z6V(hv:isExactStr v=false)(hu:A.in1.in1.units<cLine)(h:wpAny (model prog w) A.in1.in1 (callSpecial? v "__str__") (fun r s₁=>∃x t,r=some (.str x t)∧Q (.str x t) s₁) E s):wpAny (model prog w) A (call (.type "str") [v]) Q E s:=
 callType_newIn F.called_str (by decide) (F.typeCall_str_1 _) (F.newCall_str_1 _) (fun obj=>F.args_object_init_2 obj _) F.entry_str_new
  (S:=fun A R s=>wpAny (model prog w) A.in1 (Str.strOf v) (fun r s'=>R (.ok (.ret r)) s') (fun e s'=>R (.error e) s') s) (fun A R s hs=>by
   rw[str_new_tree v]
   refine wpAny_bind (wpAny_pure ?_)
   refine wpAny_bind (wpAny_of_eq isSubtype_str_str ?_)
   exact wpAny_bind (wpAny_mono hs (fun r s' h'=>wpAny_pure h') fun V V e=>e)) (by
   show wpAny (model prog w) A.in1.in1 (Str.strOf v) _ _ s
   unfold Str.strOf
   rw[hv]
   refine wpAny_bind (wpAny_cRoomFor hu ?_)
   refine wpAny_bind (m:=callSpecial? v (Str.ofString "__str__")) (wpAny_mono h (fun r s₁ hr=>?_) fun V V z=>z)
   refine ZP hr ?_
   clear hr h hu;rintro x t rfl hq
   exact wpAny_bind (wpAny_pure (wpAny_pure ⟨typeIs_str _ _ _,hq⟩)))
end
variable{K:Wd}{A:Around}{g:Gh}{n:Nat}{env:Env}{α:Type}
theorem Z9y(r:Room A (n+2))(hc:ClsL K.B C N mN)(hl:mN "__str__" = some (.ref f))(hfn:FnB K.B f fd)(hB:typeLookup (.type "list") "__str__" = pure y)(hx:g.mu x=some (lsObj C dx its m))
  (h:∀A',Room A' n→gwp K A' (call (.ref f) [.ref x]) (fun v g'=>∃l,Zu g'.im (.str l) v∧Q v g') g):gwp K A (call (.type "str") [.ref x]) Q g:=fun s E ok=>by
 refine Y2 hc hx ok ?_
 intro nm' q' bs sn sub col dd k0 k1 k2 k3 k5 hC hN hxh
 refine Zm hfn.obj fun of f1 f2 f3=>?_
 have hfo:s.heap.get? f=some of:=ok.im _ _ (ok.base _ _ f1)
 refine Z6V rfl r.in1.in1.units (Qr hC hN hxh rfl hB hl hfo f3 (Zn (h _ r.in1.in1 s E ok) (fun v s₁ g₁ ok₁ v00=>Z4 v00 fun l hi q=>?_)))
 refine Zi (Zz hi) ?_
 clear v00 hfo f1 hxh hC h hx hB hl r;rintro tk rfl
 exact⟨_,_,rfl,g₁,ok₁,q⟩
end
section
open PySem PySem.Spec PySem.Calls PyProof.Rows PySem.W PySem.SeqAt
variable{K:Wd}{A:Around}{g:Gh}{n:Nat}{env:Env}{α:Type}
variable{b:Gh}{S':List Addr}{fn:List Nat}{cs:List Addr}{nm:List (Str×NameKind)}{σ σ':List (Option D)}{own:List (Addr×MO)}
theorem Zau(X:WX K):GlobIs K.B "EMPTYSTRING" (.str (S []) 196):=X.gt 1 _ _ rfl
theorem Z9Y:M_Ac "__str__" = some (.ref a_Ac_str):=by decide +kernel
theorem Zbu:typeLookup (.type "list") "__str__" = pure (some (.builtin "object.__str__")):=by rw[typeLookup_type,builtinLookup_eq_fast];kernel_rfl
noncomputable def pieceTxt(p:List Nat×List Nat):List Nat:=p.1++p.2
theorem Zb7:(("_Accumulator.__str__":Str)++ ".<locals>.")++ "<genexpr>" = "_Accumulator.__str__.<locals>.<genexpr>":=by decide +kernel
theorem Za6{l:List (List Nat×List Nat)}(h:∀p∈l,p.1.length≤10000∧p.2.length≤10000):((l.map pieceTxt).map (·.length)).sum≤20000*l.length:=by
 induction l with
 |nil=>simp
 |cons p l ih=>
  have h1:=h p (by exact .head _)
  have h2:=ih fun q hq=>h q (List.mem_cons_of_mem _ hq)
  simp only[List.map_cons,List.sum_cons,List.length_cons,pieceTxt,List.length_append] at h2 ⊢
  lia
theorem Z7r(X:WX K){x dx:Addr}{ps:List (List Nat×List Nat)}(hx:g.mu x=some (lsObj C_Ac dx its m))(hr:Z7 g.im (ps.map pieceD) its.toList)(hsz:ps.length≤100)(hps:∀p∈ps,p.1.length≤10000∧p.2.length≤10000) :
  Pe K (n+6) g (call (.ref a_Ac_str) [.ref x]) (.str (ps.map pieceTxt).flatten):=fun A r g₀ l₀=>by
 refine Zh (n:=n+4) (fn:=[]) (S':=[]) (binds:=[("self",.ref x)]) (bi:=[(0,.raw (.ref x))]) X.f_Ac_str r (Ze (by rfl)) Z7N Z7y (Z3 X.gt Z86)
  ⟨.inl rfl,Zl,trivial⟩ fun A' L cells cs g₁ r' H=>?_
 have lA:Le g g₁:=l₀.trans H.le
 have x1:=lA.at hx
 have x2:Z7 g₁.im (ps.map pieceD) its.toList:=hr.le lA
 have g1:=Zau X
 refine Zf (Z0l fun s E ok=>?_)
 refine Z0i (x:=S []) (t:=196) (wpAny_Name (QW (fun a o e=>ok.im _ _ (ok.base _ _ e)) g1 rfl rfl (by rfl) rfl ⟨rfl,?_⟩) (by decide +kernel))
 refine wpAny_items_cons ?_
 have hmem:∀(j:Nat) (d:D),(ps.map pieceD)[j]? = some d→∃p,ps[j]? = some p∧d=pieceD p:=fun j d h=>by
  rw[List.getElem?_map] at h
  clear r hr hx;cases e:ps[j]? with
  |none=>rw[e] at h;cases h
  |some p=>rw[e] at h;cases h;exact⟨p,rfl,rfl⟩
 refine Z0j (n:=n+4) (c:=c_Ac_str) (P:=70) (qual:= "_Accumulator.__str__.<locals>.<genexpr>") (da:=fun j=>.str (ps.getD j ([],[])).1) (db:=fun j=>.str (ps.getD j ([],[])).2) (F':=fun i y=>∃t,y=.str (S (pieceTxt (ps.getD i ([],[])))) t)
  X.md ok r' X.k_Ac Z9Z x1 x2 (fun j d h=>by
   refine Z4 (hmem j d h) ?_
   clear h hmem x2 x1 r' r hr hx;rintro p e1 rfl
   simp[List.getD_eq_getElem?_getD,e1,pieceD])
  (pn H 0) rfl (X.tab _ (by decide)) (X.qnOf (by decide +kernel)) Zb7 rfl rfl (by rfl) (by decide) (by decide +kernel) (by decide +kernel) (by decide +kernel) (by decide +kernel) rfl
  (fun A'' E' i va vb s₂ m₂ L' code hA hd hu hi hva hvb him hns e1 e2=>?_)
  (fun a g₂ s' fp wr gi St l₂ ok₂ W hst hT ha hfp hmv=>?_)
 ·-- EMPTYSTRING.join((fws,part))
  refine Zi (Zz hva) ?_
  clear hva hu hd hmem x2 x1 r' r hr hx;rintro t1 rfl
  refine Zi (Zz hvb) ?_
  clear hvb;rintro t2 rfl
  have hpi:ps[i]? = some (ps.getD i ([],[])):=by
   have:i<ps.length:=by simpa using hi
   simp[List.getD_eq_getElem?_getD,List.getElem?_eq_getElem this]
  have hb:=hps _ (List.mem_of_getElem? hpi)
  have hBim:∀a o,K.B.im a=some o→s₂.heap.get? a=some o:=fun a o e=>him a o (ok.base a o e)
  refine Z0i (x:=S []) (t:=196) (wpAny_Name (QW hBim g1 rfl rfl (by rfl) rfl ⟨rfl,?_⟩) (by decide +kernel))
  refine wpAny_items_cons (wpAny_Tuple (wpAny_items_cons (JJ (by rfl) rfl (by decide +kernel) hns e1 (wpAny_items_cons (JJ (by rfl) rfl (by decide +kernel) hns e2 (wpAny_items_nil ⟨show 2≤sizeLine by decide,?_⟩))))))
  refine wpAny_items_nil ?_
  refine join_tuple (ys:=[S (ps.getD i ([],[])).1,S (ps.getD i ([],[])).2]) ⟨_,Heap.get?_push_size _ rfl,rfl,_,rfl⟩ (.cons _ _ (.cons _ _ .nil)) ?_ fun t' k=>?_
  ·simp only[List.map_cons,List.map_nil,List.sum_cons,List.sum_nil,Jp,List.length_nil,Nat.mul_zero,Nat.add_zero];lia
  ·refine⟨⟨t',?_⟩,⟨_,_,rfl,fun a o e=>Heap.get?_push_of_some _ e⟩⟩
   have:Txt.join (S []) ([(ps.getD i ([],[])).1,(ps.getD i ([],[])).2].map S)=S (jn [] [(ps.getD i ([],[])).1,(ps.getD i ([],[])).2]):=by rw[←Zaq];exact StrLaws.glued_eq_join _ _
   exact congrArg (Value.str · t') (this.trans (by rw[Yd];simp[pieceTxt]))
 ·refine wpAny_items_nil ?_
  have hpl:(ps.map pieceD).length=ps.length:=List.length_map _
  refine SC.joinGen W.in4_2 hT hst hfp ha (fun i v z=>Zi z fun t e=>⟨_,_,e⟩) (fun s'' l hm hacc=>?_) (by rw[hpl];exact Nat.le_trans hsz (by decide))
  have hl:l.map (·.1)=(ps.map pieceTxt).map S:=by
   have h1:l.length=ps.length:=by have:=hacc.1;rw[hpl] at this;simpa [strValues] using this
   apply List.ext_getElem?
   intro j
   by_cases hj:j<ps.length
   ·clear hpl hfp ha hT W hmem g1 x2 x1 r' r hsz hr hx;refine Zi (hacc.2 j _ (by rw[List.getElem?_toArray,strValues,List.getElem?_map,List.getElem?_eq_getElem (h1▸hj)];rfl)) fun t e=>?_
    injection e with e3 e4
    simp only[List.getElem?_map,List.getElem?_eq_getElem hj,List.getElem?_eq_getElem (show j<l.length from h1▸hj),Option.map_some,e3,List.getD_eq_getElem?_getD,Option.getD_some]
   ·simp[List.getElem?_map,List.getElem?_eq_none (show l.length≤j by lia),List.getElem?_eq_none (Nat.le_of_not_lt hj)]
  have hts:=Za6 hps
  refine⟨?_,fun t' k=>?_⟩
  ·rw[hl]
   refine joinOk_of ?_
   rw[Z2S,List.length_map,List.length_map,Jp,List.length_nil,Nat.mul_zero,Nat.add_zero]
   lia
  ·refine⟨g₂,(hmv s'' hm).tok k,H.le.trans l₂,?_⟩
   rw[hl]
   have:Txt.join (S []) ((ps.map pieceTxt).map S)=S (jn [] (ps.map pieceTxt)):=by rw[←Zaq];exact StrLaws.glued_eq_join _ _
   rw[this,Yd]
   exact ZU
end
section
open PySem PySem.Spec PySem.Calls PyProof.Rows PySem.W PySem.SeqAt
variable{K:Wd}{B:Base}{α β:Type}{A:Around}{g:Gh}{n:Nat}{env:Env}
noncomputable abbrev StA(it:Addr)(ds:List D)(g:Gh):Prop:=∃o,g.mu it=some o∧(MO.si ds).P g.im o
theorem ItN.ascii:ItN K (.ref it) [it] [] (StA it) where
 item:=fun{d ds g A} hh st s E ok=>by
  obtain⟨o,h1,x,t,i,h2,h3,e⟩:=st
  cases hx:x.drop i with
  |nil=>rw[hx] at e;cases e
  |cons c r=>
   rw[hx] at e
   have e':d::ds=D.str [c]::signsD r:=e
   cases e'
   have hc:(S x).cps[i]? = some c:=by
    have:(x.drop i)[0]? = some c:=by rw[hx];rfl
    simpa [S] using this
   have hr:x.drop (i+1)=r:=by
    have:(x.drop i).drop 1=r:=by rw[hx];rfl
    rwa [List.drop_drop] at this
   refine wpAny_nextOf_ascii_item ⟨o,ok.mu _ _ h1,h2,h3⟩ hc fun h' hit' hs=>Zm hit' fun o' ho' hc' hd'=>?_
   exact⟨_,ok.sameBut (tk:=s.toks+1) h1 hs ho',LeX.setMu,ZU,_,ZcI,x,t,i+1,hc',hd',by rw[hr]⟩
 done:=fun{g A s Q E} hh st ok hE=>by
  obtain⟨o,h1,x,t,i,h2,h3,e⟩:=st
  have hx:x.drop i=[]:=by
   cases hx:x.drop i with
   |nil=>rfl
   |cons c r=>rw[hx] at e;cases e
  have hc:(S x).cps[i]? = none:=by
   have:=List.drop_eq_nil_iff.mp hx
   simp[S];exact this
  exact wpAny_nextOf_ascii_end hh ⟨o,ok.mu _ _ h1,h2,h3⟩ hc fun h' e he ht=>hE e _ _ (ok.lost (tk:=s.toks) h1 he) LeX.drop ht
 frame:=It.ascii (K:=K).frame
 mem:=It.ascii (K:=K).mem
 cell:=It.ascii (K:=K).cell
noncomputable def fstD:D→D | .tup [a,_]=>a | d=>d
noncomputable def sndD:D→D | .tup [_,b]=>b | d=>d
theorem Z39:∀{a b:List D},a.length=b.length→(zipD a b).map fstD=a
 |[],[],_=>rfl
 |x::a,y::b,h=>congrArg (x::·) (Z39 (Nat.succ.inj h))
theorem Z38:∀{a b:List D},a.length=b.length→(zipD a b).map sndD=b
 |[],[],_=>rfl
 |x::a,y::b,h=>congrArg (y::·) (Z38 (Nat.succ.inj h))
noncomputable def MO.zz(TI TO i1 i2:Addr)(ds:List D):MO:=⟨fun im o=>∃f0 f1 m,o=zo f0 f1 TI TO∧(f0=.none∨∃T o,f0=rawInt (T:Nat)∧im T=some o)∧im TI=some (sq "tuple" #[.ref i1,.ref i2] m)∧ds=zipD (ds.map fstD) (ds.map sndD),
 fun V V V h z=>Jk z fun f0 f1 m h1 h2 h3 h4=>⟨f0,f1,m,h1,h2.imp id fun z=>ZP z fun T o e1 e2=>⟨T,o,e1,h _ _ e2⟩,h _ _ h3,h4⟩⟩
noncomputable def MO.po:MO:=⟨fun V o=>∃a b m,o=sq "tuple" #[a,b] m,fun V V V V h=>h⟩
noncomputable def zipMs(z TI TO i1 i2:Addr)(ds:List D):List (Addr×MO):=[(z,MO.zz TI TO i1 i2 ds),(TO,MO.po),(i1,MO.li (ds.map fstD)),(i2,MO.si (ds.map sndD))]
theorem Z8z:StL [] it ds g↔∃o,g.mu it=some o∧(MO.li ds).P g.im o:=by
 constructor
 ·exact fun z=>Z00 z fun o l i its m h1 h2 h3 h4=>⟨o,h1,l,i,its,m,h2,h3.resolve_right (by simp),h4⟩
 ·exact fun z=>Z4 z fun o h1 z=>Z8k z fun l i its m h2 h3 h4=>⟨o,l,i,its,m,h1,h2,.inl h3,h4⟩
theorem Qo{z TI TO i1 i2:Addr}:Holds (zipMs z TI TO i1 i2 ds) g↔∃ds1 ds2,ds=zipD ds1 ds2∧ZipSt z TI TO i1 i2 (StL [] i1) (StA i2) ds1 ds2 g:=by
 constructor
 ·intro h
  refine Z4 (h _ (.head _)) fun oz z1 z2=>Z4 (h _ (.tail _ (.head _))) fun oT t1 t2=>?_
  refine Jk z2 fun f0 f1 m e1 e2 e3 e4=>Z5K t2 fun a b m2 e5=>?_
  clear t2 z2;subst e1;subst e5
  exact⟨_,_,e4,⟨f0,f1,z1,e2⟩,⟨a,b,m2,t1⟩,⟨m,e3⟩,by rw[List.length_map,List.length_map],Z8z.mpr (h _ (.tail _ (.tail _ (.head _)))),h _ (.tail _ (.tail _ (.tail _ (.head _))))⟩
 ·intro h
  refine ZP h fun ds1 ds2 e st=>ZP st.z fun f0 f1 hz hown=>Z5K st.TO fun a b m hTO=>Zi st.TI fun mI hTI=>?_
  clear h;subst e
  refine ZY ⟨_,hz,f0,f1,mI,rfl,hown,hTI,by rw[Z39 st.len,Z38 st.len]⟩ (ZY ⟨_,hTO,a,b,m,rfl⟩ (ZY ?_ (Zr ?_)))
  ·show∃o,g.mu i1=some o∧(MO.li ((zipD ds1 ds2).map fstD)).P g.im o
   rw[Z39 st.len];exact Z8z.mp st.st1
  ·show∃o,g.mu i2=some o∧(MO.si ((zipD ds1 ds2).map sndD)).P g.im o
   rw[Z38 st.len];exact st.st2
theorem ItM.zip{z TI TO i1 i2:Addr}(hnd:[z,TO,i1,i2].Nodup):ItM K (.ref z) [z,TO,i1,i2] (zipMs z TI TO i1 i2) where
 keys:=fun ds=>rfl
 nodup:=hnd
 item:=fun hh st=>Zg ((It.zip (TI:=TI) (ItN.list (K:=K)) ItN.ascii hnd ZZ).item hh (Qo.mp st)) fun r g' l v00=>Zm v00 fun v h1 h2 h3=>⟨l,v,h1,h2,fun t A=>Zg (h3 t A) fun V g'' l' s'=>⟨l',Qo.mpr s'⟩⟩
 done:=fun hh st=>(It.zip (TI:=TI) (ItN.list (K:=K)) ItN.ascii hnd ZZ).done hh (Qo.mp st)
 self:=fun st q=>(It.zip (TI:=TI) (ItN.list (K:=K)) ItN.ascii hnd ZZ).self (Qo.mp st) q
 cell:=fun{ds im}=>ZY (fun o w h=>Jk h fun f0 f1 m e V V V z=>by rw[e] at z;cases z) (ZY (fun o w h=>Z5K h fun a b m e z=>by rw[e] at z;cases z) (ZY (fun o w h=>Z8k h fun l i its m e V V z=>by rw[e.2] at z;cases z) (Zr fun o w h=>ZO h fun x t i V e V z=>by rw[e] at z;cases z)))
section
open Builtin
noncomputable abbrev zH1(h:Heap)(l1:Addr):Heap:=h.push {cls:=.type "list_iterator",data:=.fields #[.ref l1,.int 0 0]}
noncomputable abbrev zH2(h:Heap)(l1:Addr)(x:Str)(t:Tok):Heap:=(zH1 h l1).push {cls:=.type "str_ascii_iterator",data:=.fields #[.str x t,.int 0 0]}
noncomputable abbrev zH3(h:Heap)(l1:Addr)(x:Str)(t:Tok):Heap:=(zH2 h l1 x t).push {cls:=.type "tuple",data:=.seq #[.ref h.objs.size,.ref (zH1 h l1).objs.size]}
noncomputable abbrev zH4(h:Heap)(l1:Addr)(x:Str)(t:Tok):Heap:=(zH3 h l1 x t).push {cls:=.type "tuple",data:=.seq #[.none,.none]}
noncomputable abbrev zH5(h:Heap)(l1:Addr)(x:Str)(t:Tok):Heap:=(zH4 h l1 x t).push {cls:=.type "zip",data:=.fields #[.none,.bool false,.bool false,.ref (zH2 h l1 x t).objs.size,.ref (zH3 h l1 x t).objs.size]}
theorem Z7o(ha:x.cps.all (· < 128)=true)(xs:Array Value) :
  Meets (Builtin.«zip.__new__» ⟨[.type "zip",.ref l1,.str x t],[]⟩) (fun V R s=>s.heap.IsList l1 xs∧
   R (.ok (.ret (.ref (zH4 s.heap l1 x t).objs.size))) {s with heap:=zH5 s.heap l1 x t}):=
 .of_wp fun prog w A R s h=>by
  obtain⟨hp,g,d,tk,os⟩:=s;obtain⟨hl1,h⟩:=h
  have hsub:=sub_zip
  have hL1:Heap.IsList (Shared.heap ⟨hp,g,d,tk,os⟩) l1 xs:=hl1
  repeat (first | (with_reducible refine wpAny_pyIter_list hL1 ?_) | (with_reducible refine wpAny_pyIter_ascii ha ?_) | wp_step)
  refine⟨_,rfl,?_⟩
  dsimp only at h ⊢
  refine Eq.mp ?_ h
  kernel_rfl
end
theorem Z80{v w:Value}(hv:Zu g.im (.lst ds1) v)(hw:Zu g.im (.str x) w)(hlen:ds1.length=x.length)(hx:∀c∈x,c<128):gwp K A (call (.type "zip") [v,w]) (fun it g'=>NewM K (zipD ds1 (signsD x)) g it g'∧∃z o,it=.ref z∧g'.mu z=some o∧o.cls=.type "zip") g:=fun s E ok=>by
 refine ZO (Zj.mp hv) fun a its m e1 e rs=>Zi (Zz hw) fun t e2=>?_
 subst e1;subst e2
 refine callType_new F.called_zip (by decide) (F.typeCall_zip_2 _ _) (F.newCall_zip_2 _ _) (fun obj=>F.args_object_init_3 obj _ _) F.entry_zip_new
  (Z7o (by simpa [S] using hx) its) ⟨⟨_,ok.im _ _ e,rfl,m,rfl⟩,⟨_,Heap.get?_push_size _ rfl,rfl⟩,?_⟩
 have ok₁:=ok.pushMu (o:={cls:=.type "list_iterator",data:=.fields #[.ref a,.int 0 0]}) rfl
 have ok₂:=ok₁.pushMu (o:=siO x t 0) rfl
 have ok₃:=ok₂.pushIm (o:=sq "tuple" #[.ref s.heap.objs.size,.ref (zH1 s.heap a).objs.size] 0) rfl
 have ok₄:=ok₃.pushMu (o:=sq "tuple" #[.none,.none] 0) rfl
 have ok₅:=ok₄.pushMu (o:=zo .none (.bool false) (zH2 s.heap a (S x) t).objs.size (zH3 s.heap a (S x) t).objs.size) rfl
 have f₁:=ok.fresh
 have f₂:=ok₁.fresh
 have f₃:=ok₂.fresh
 have f₄:=ok₃.fresh
 have f₅:=ok₄.fresh
 have l₅:=ZcL (o:=zo .none (.bool false) (zH2 s.heap a (S x) t).objs.size (zH3 s.heap a (S x) t).objs.size) f₅.2
 have l₄:=(ZcL (o:=sq "tuple" #[.none,.none] 0) f₄.2).trans l₅
 have l₃:=(Le.addIm (o:=sq "tuple" #[.ref s.heap.objs.size,.ref (zH1 s.heap a).objs.size] 0) f₃.1).trans l₄
 have l₂:=(ZcL (o:=siO x t 0) f₂.2).trans l₃
 have l₁:=(ZcL (o:={cls:=.type "list_iterator",data:=.fields #[.ref a,.int 0 0]}) f₁.2).trans l₂
 have z1:(zH1 s.heap a).objs.size=s.heap.objs.size+1:=Heap.size_push ..
 have z2:(zH2 s.heap a (S x) t).objs.size=s.heap.objs.size+2:=by rw[Heap.size_push,z1]
 have z3:(zH3 s.heap a (S x) t).objs.size=s.heap.objs.size+3:=by rw[Heap.size_push,z2]
 have z4:(zH4 s.heap a (S x) t).objs.size=s.heap.objs.size+4:=by rw[Heap.size_push,z3]
 have fr:∀k,g.mu (s.heap.objs.size+k)=none:=fun k=>(ok.above (Nat.le_add_right _ _)).2
 refine⟨_,ok₅,⟨l₁,_,_,ItM.zip (z:=(zH4 s.heap a (S x) t).objs.size) (TI:=(zH2 s.heap a (S x) t).objs.size) (TO:=(zH3 s.heap a (S x) t).objs.size) (i1:=s.heap.objs.size) (i2:=(zH1 s.heap a).objs.size) (by rw[z1,z3,z4];simp),Qo.mpr ⟨ds1,signsD x,rfl,⟨_,_,ZcI,.inl rfl⟩,⟨_,_,_,Le.at l₅ ZcI⟩,⟨_,l₄.im _ _ ZcJ⟩,by rw[hlen,signsD,List.length_map],
  ⟨_,a,0,its,m,Le.at l₂ ZcI,⟨rfl,rfl⟩,.inl (l₁.im _ _ e),by rw[List.drop_zero];exact rs.le l₁⟩,⟨_,Le.at l₃ ZcI,x,t,0,rfl,rfl,by rw[List.drop_zero]⟩⟩,?_⟩,_,_,rfl,ZcI,rfl⟩
 rw[z1,z3,z4]
 exact ZY (fr 4) (ZY (fr 3) (ZY (fr 0) (Zr (fr 1))))
theorem Z7H(h2:Pe K n g (eval f2 env) (.raw (.type "zip")))(ha:Pe K n g (eval e1 env) (.lst ds1))(hb:Pe K n g (eval e2 env) (.str x))(hlen:ds1.length=x.length)(hx:∀c∈x,c<128)
  (hp2:autoParam ((backTo p2 (starEach [e1,e2] env)).any (·.1)=false) Z5)
  (hst:autoParam (starEach [e1,e2] env=(false,eval e1 env)::starEach [e2] env) Z5)(hst2:autoParam (starEach [e2] env=(false,eval e2 env)::starEach [] env) Z5)
  (hc2:autoParam (eval (.Call f2 [e1,e2] [] p2) env=(do callWith p2 (←eval f2 env) [] (backTo p2 (starEach [e1,e2] env)) (backToKw p2 (keywordEach [] env)))) Z5) :
  PItM K n g (.Call f2 [e1,e2] [] p2) env (zipD ds1 (signsD x)):=fun A r g₁ l₁=>by
 refine ZK ((h2.le l₁).useR r fun g₂ l₂=>?_) hc2
 have l12:=l₁.trans l₂
 refine Zq (fun a z=>by cases z) hp2 (Zc hp2 (Zb ((ha.le l12).use r fun v g₃ l₃ hv=>Zb ((hb.le (l12.trans l₃)).use r fun w g₄ l₄ hw=>Zd ?_) hst2) hst))
 refine Zg (Z80 (hv.le l₄) hw hlen hx) fun it g₅ hi V=>?_
 refine ZG hi fun l₅ hi=>Zw hi fun T ms I st hT=>?_
 have l24:Le g₁ g₄:=l₂.trans (l₃.trans l₄)
 exact I.self st ⟨l24.trans l₅,T,ms,I,st,fun a ha=>l24.nomu (hT a ha)⟩
end
section
noncomputable abbrev Pc:=Nat×List Nat
noncomputable def mergeR(p:Nat):List Pc→List Nat→List (List Nat)→List Pc×List Nat×List (List Nat)
 |[],hand,ms=>([],hand,ms)
 |(w,q)::rp,hand,ms=>if p<w then mergeR p rp (q++hand) (ms++[q++[124]++hand]) else((w,q)::rp,hand,ms)
noncomputable def stepP(st:List Pc×List (List Nat))(x:Nat×Nat):List Pc×List (List Nat):=
 let m:=mergeR x.1 st.1 [x.2] st.2
 ((x.1,m.2.1)::m.1,m.2.2)
noncomputable def pileR(l:List (Nat×Nat)):List Pc×List (List Nat):=l.foldl stepP ([],[])
theorem Q4(l:List (Nat×Nat))(x:Nat×Nat):pileR (l++[x])=stepP (pileR l) x:=List.foldl_append
noncomputable def handsP(rp:List Pc):Nat:=(rp.map (·.2.length)).sum
theorem YO:∀{rp:List Pc} {hand:List Nat} {ms:List (List Nat)},handsP (mergeR p rp hand ms).1+(mergeR p rp hand ms).2.1.length=handsP rp+hand.length∧(mergeR p rp hand ms).1.length+(mergeR p rp hand ms).2.2.length=rp.length+ms.length∧∀x∈(mergeR p rp hand ms).1,x∈rp
 |[],hand,ms=>⟨rfl,rfl,fun V h=>h⟩
 |(w,q)::rp,hand,ms=>by
  unfold mergeR
  split
  ·have h:=YO (p:=p) (rp:=rp) (hand:=q++hand) (ms:=ms++[q++[124]++hand])
   rw[List.length_append] at h
   simp only[List.length_append (as:=ms),List.length_singleton] at h
   have e:handsP ((w,q)::rp)=q.length+handsP rp:=rfl
   refine⟨by rw[e,h.1];lia,?_,fun x hx=>.tail _ (h.2.2 x hx)⟩
   have:=h.2.1;rw[List.length_cons];lia
  ·exact⟨rfl,rfl,fun V h=>h⟩
structure PileOk(B k:Nat)(st:List Pc×List (List Nat)):Prop where
 hands:handsP st.1=k
 len:st.1.length+st.2.length=k
 whites:∀x∈st.1,x.1≤B
theorem PileOk.step(h:PileOk B k st)(hx:x.1≤B):PileOk B (k+1) (stepP st x):=by
 have m:=YO (p:=x.1) (rp:=st.1) (hand:=[x.2]) (ms:=st.2)
 refine⟨?_,?_,fun y hy=>?_⟩
 ·show(mergeR x.1 st.1 [x.2] st.2).2.1.length+handsP (mergeR x.1 st.1 [x.2] st.2).1=k+1
  rw[Nat.add_comm,m.1,h.hands];rfl
 ·show(mergeR x.1 st.1 [x.2] st.2).1.length+1+(mergeR x.1 st.1 [x.2] st.2).2.2.length=k+1
  rw[Nat.add_right_comm,m.2.1,h.len]
 ·rcases List.mem_cons.mp hy with rfl | hy
  ·exact hx
  ·exact h.whites y (m.2.2 y hy)
theorem PileOk.nil:PileOk B 0 ([],[]):=⟨rfl,rfl,fun V h=>nomatch h⟩
end
section
open PySem PySem.Spec PySem.Calls PyProof.Rows PySem.W PySem.SeqAt
variable{K:Wd}{A:Around}{g:Gh}{n:Nat}{env:Env}{α:Type}
variable{b:Gh}{S':List Addr}{fn:List Nat}{cs:List Addr}{nm:List (Str×NameKind)}{σ σ':List (Option D)}{own own':List (Addr×MO)}
theorem Z2e(X:WX K){pre post:List (Addr×MO)}{R:Value→Gh→Prop}{Q:Value→Gh→Prop}
  (F:Frm K b S' fn cs env nm σ (pre++(AccOwn x dx d ds++post)) g)(r:Room A n)(hf:M_Ac name=some (.ref f))(hfn:FnB K.B f fd)(hB:typeLookup (.type "list") name=pure y)
  (ho:Pe K n g (eval o env) (.raw (.ref x)))(hargs:Pes K n g args env pos es)(hv:name≠Str.ofString "_initial_size")
  (h:∀vs g',Le g g'→Z7 g'.im es vs→Holds (AccOwn x dx d ds) g'→[x,dx].Nodup→gwp K A (call (.ref f) (.ref x::vs)) (fun u g''=>R u g''∧LeX [x,dx] g' g''∧Holds (AccOwn x dx d' ds') g'') g')
  (k:∀u g',LeX [x,dx] g g'→R u g'→Frm K b S' fn cs env nm σ (pre++(AccOwn x dx d' ds'++post)) g'→Q u g')
  (hb:autoParam (attributeBase o name env (eval o env)=eval o env) Z5)
  (hline:autoParam ((apos.endLine==pos.line)=true) Z5)
  (hfew:autoParam (((backTo pos (starEach args env)).all (fun x=>!x.1)&&(backToKw pos (keywordEach [] env)).all (fun x=>x.1.isSome)
   &&decide (args.length+([]:List Keyword).length+(if([]:List Keyword).isEmpty then 0 else 1)<30))=true) Z5)
  (hp:autoParam ((backTo pos (starEach args env)).any (·.1)=false) Z5):gwp K A (eval (.Call (.Attribute o name apos) args [] pos) env) Q g:=by
 have hh:=F.holdsAt
 obtain⟨ox,x1,its,m,rfl,x2⟩:=hh (x,MO.lsub C_Ac dx ds) (by exact .head _)
 refine Z4 (hh (dx,MO.inst (accL d)) (by exact .tail _ (.head _))) fun od d1 d2=>?_
 have hnd:[x,dx].Nodup:=by
  have:=F.apart
  rw[List.map_append,List.map_append] at this
  have h2:=(List.nodup_append.mp (List.nodup_append.mp (List.nodup_append.mp this).2.1).2.1).1
  simpa [AccOwn] using h2
 refine Z2Z r X.k_Ac Z4e Z4d hf hfn hB ho x1 d1 d2 (by simpa [accL] using hv) hargs (fun vs g' l rs=>Qj (h vs g' l rs (fun p hp=>?_) hnd) fun u g'' hR l2 hH=>k u g'' ((LeX.of l).trans l2) hR ?_) hb hline hfew hp
 ·refine Z4 (hh p hp) fun o e1 e2=>?_
  exact⟨o,l.at e1,p.2.mono _ _ _ l.im e2⟩
 ·exact(F.up l).advAt (ms:=AccOwn x dx d ds) l2 rfl hH Za1
theorem Z7Z(hh:A.handled=none)
  (h:gwp K A (eval value env) (fun v g₁=>∃u w t,Zu g₁.im (.tup [.raw u,.raw w,.raw t]) v∧∀g₂,Le g₁ g₂→gwp K A (storeName env z t) (fun V g₃=>gwp K A (storeName env y w) (fun V g₄=>gwp K A (storeName env x u) (fun V g₅=>gwp K A (execs rest env) Q g₅) g₄) g₃) g₂) g)
  (hs:autoParam (swapsWithSole [.Tuple elts k tpos] value pos.line env=pure false) Z5)(hw:autoParam (swappedStores [.Tuple elts k tpos] value env=pure (some [x,y,z])) Z5):gwp K A (execs (.Assign [.Tuple elts k tpos] value pos::rest) env) Q g:=by
 refine Zf (Qs (Za h fun v g₁ hv=>Za4 hv fun u w t p hk=>JO p hh rfl fun vs g₂ l₂ rs=>?_) hs hw)
 refine Jk (Z1w rs) fun u' w' t' e h1 h2 h3=>?_
 rw[e,Zk h1,Zk h2,Zk h3]
 refine J5 (JB (Za (hk g₂ l₂) fun V g₃ h₃=>?_))
 refine J5 (JB (Za h₃ fun V g₄ h₄=>?_))
 exact J5 (JB (Za h₄ fun V g₅ h₅=>Z6 h₅))
theorem Z6H
  (h:gwp K A (eval e₁ env) (fun u g₁=>gwp K A (eval e₂ env) (fun w g₂=>gwp K A (eval e₃ env) (fun t g₃=>∀T g₄,Le g₃ g₄→Zu g₄.im (.tup [.raw u,.raw w,.raw t]) T→Q T g₄) g₂) g₁) g)
  (h1:autoParam (starEach [e₁,e₂,e₃] env=(false,eval e₁ env)::starEach [e₂,e₃] env) Z5)(h2:autoParam (starEach [e₂,e₃] env=(false,eval e₂ env)::starEach [e₃] env) Z5)(h3:autoParam (starEach [e₃] env=(false,eval e₃ env)::starEach [] env) Z5):gwp K A (eval (.Tuple [e₁,e₂,e₃] k pos) env) Q g:=by
 rw[arm_eval_Tuple]
 refine Z0 (ZF (Z0 (Zb (Za h fun u g₁ h₁=>Zb (Za h₁ fun w g₂ h₂=>Zb (Za h₂ fun t g₃ hq=>Zd fun s E ok=>?_) h3) h2) h1)))
 refine wpAny_newTuple ⟨_,ok.pushIm (o:={cls:=.type "tuple",data:=.seq #[u,w,t]}) rfl,hq _ _ (Le.addIm ok.fresh.1) ?_⟩
 exact J1.mpr ⟨_,#[u,w,t],0,rfl,ZcJ,Z7.cons Zl (Z7.cons Zl (Z7.cons Zl Z7.nil))⟩
theorem QP(H:Frm K b S' fn cs env nm σ own g)(hp1:own.Perm ((a,MO.list ds)::oth))(hp2:((a,MO.list (ds++[d]))::oth).Perm own')(r:Room A n)(ho:Pe K n g (eval o env) (.raw (.ref a)))(he:Pe K n g (eval e env) d)
  (hsz:ds.length≤sizeLine)(k:∀g',LeX [a] g g'→Frm K b S' fn cs env nm σ own' g'→gwp K A (execs rest env) Q g')
  (hst:autoParam (starEach [e] env=[(false,eval e env)]) Z5)
  (hbase:autoParam (attributeBase o "append" env (eval o env)=eval o env) Z5)(hline:autoParam ((apos.endLine==pos.line)=true) Z5)
  (hfew:autoParam (((backTo pos (starEach [e] env)).all (fun x=>!x.1)&&(backToKw pos (keywordEach [] env)).all (fun x=>x.1.isSome)
   &&decide ([e].length+([]:List Keyword).length+(if([]:List Keyword).isEmpty then 0 else 1)<30))=true) Z5)
  (hp:autoParam ((backTo pos (starEach [e] env)).any (·.1)=false) Z5):gwp K A (execs (.Expr (.Call (.Attribute o "append" apos) [e] [] pos) spos::rest) env) Q g:=
 Ys (H.perm hp1) r ho he hsz (fun g' l H'=>k g' l (H'.perm hp2)) hst hbase hline hfew hp
theorem Z9v{J:Gh→Prop}(r:Room A n)(ht:Pt K n g test env v)
  (h1:v=true→∀g',Le g g'→gwp K A (execs body env) (fun f g₂=>f=.next∧J g₂) g')(h2:v=false→∀g',Le g g'→gwp K A (execs orelse env) (fun f g₂=>f=.next∧J g₂) g')(k:∀g',J g'→gwp K A (execs rest env) Q g'):gwp K A (execs (.If test body orelse pos::rest) env) Q g:=
 Jd r ht (fun e g' l=>Za (h1 e g' l) fun f g₂ z=>ZG z fun ef j=>by rw[ef];exact k _ j) (fun e g' l=>Za (h2 e g' l) fun f g₂ z=>ZG z fun ef j=>by rw[ef];exact k _ j)
theorem Z8b(X:WX K){ps:List (List Nat×List Nat)}(hx:g.mu x=some (lsObj C_Ac dx its m))(hr:Z7 g.im (ps.map pieceD) its.toList)(hsz:ps.length≤100)(hps:∀p∈ps,p.1.length≤10000∧p.2.length≤10000) :
  CallSem K (n+8) g (.type "str") [.raw (.ref x)] (.str (ps.map pieceTxt).flatten):=fun g₁ l vs h A r g₂ l₂=>by
 refine Z4 (Jo h) fun v e h1=>?_
 rw[e,Zk h1]
 have l':Le g g₂:=l.trans l₂
 exact Z9y (n:=n+6) r X.k_Ac Z9Y X.f_Ac_str Zbu (l'.at hx) fun A' r'=>Zg (Z7r X (n:=n) (l'.at hx) (hr.le l') hsz hps A' r' g₂ (LeX.refl _ _)) fun v g₃ l₃ p=>⟨_,p,l₃,p⟩
noncomputable def pieceOf(x:Pc):List Nat×List Nat:=(List.replicate x.1 32,x.2)
noncomputable def pileP(rp:List Pc):List (List Nat×List Nat):=rp.reverse.map pieceOf
noncomputable def pileD(rp:List Pc):List D:=(pileP rp).map pieceD
noncomputable def stateD(T:Nat)(rp:List Pc):D:=.tup [.str ((pileP rp).map pieceTxt).flatten,.int (T+((pileP rp).map pieceLen).sum),.int rp.length]
noncomputable def statesD(T:Nat)(l:List (Nat×Nat)):List D:=(List.range l.length).map fun k=>stateD T (pileR (l.take (k+1))).1
theorem YN(x:Pc)(rp:List Pc):pileD (x::rp)=pileD rp++[.tup [.str (List.replicate x.1 32),.str x.2]]:=by simp[pileD,pileP,pieceOf,pieceD]
theorem Yl(rp:List Pc):(pileD rp).length=rp.length:=by simp[pileD,pileP]
theorem Z3k(T:Nat)(l:List (Nat×Nat))(x:Nat×Nat):statesD T (l++[x])=statesD T l++[stateD T (pileR (l++[x])).1]:=by
 unfold statesD
 rw[List.length_append,List.length_singleton,List.range_succ,List.map_append,List.map_singleton,List.take_of_length_le (by simp)]
 refine congrArg (·++_) (List.map_congr_left fun k hk=>?_)
 rw[List.take_append_of_le_length (by have:=List.mem_range.mp hk;exact this)]
theorem Z4O(rp:List Pc):popD (pileD rp)=.tup [.str (List.replicate (rp.headD (0,[])).1 32),.str (rp.headD (0,[])).2]∧(pileD rp).dropLast=pileD rp.tail:=by
 cases rp with
 |nil=>exact⟨rfl,rfl⟩
 |cons x rp=>rw[YN,popD,List.getLastD_concat,List.dropLast_concat];exact⟨rfl,rfl⟩
theorem Z56:∀{rp:List Pc},x∈rp→x.2.length≤handsP rp
 |y::rp,h=>by
  have e:handsP (y::rp)=y.2.length+handsP rp:=rfl
  rcases List.mem_cons.mp h with rfl | h
  ·exact Nat.le_add_right _ _
  ·have:=Z56 h;exact Nat.le_trans this (Nat.le_add_left _ _)
theorem Z8Y(hB:B≤10000)(hk:k≤10000)(hw:∀x∈rp,x.1≤B)(hh:handsP rp≤k):∀p∈pileP rp,p.1.length≤10000∧p.2.length≤10000:=fun p hp=>by
 refine Z4 (List.mem_map.mp hp) ?_
 rintro x hx rfl
 have hx:=List.mem_reverse.mp hx
 have:=Z56 hx
 have:=hw x hx
 exact⟨by rw[pieceOf,List.length_replicate];exact Nat.le_trans this hB,by show x.2.length≤_;lia⟩
noncomputable def pilS(ps letters:List Nat)(T:Nat)(x rs rm:Addr)(e:List (Option D)):List (Option D):=
 [some (.lst (ps.map fun p:Nat=>.int p)),some (.str letters),some (.int T),some (.raw (.ref x)),some (.raw (.ref rs)),some (.raw (.ref rm))]++e++[some (.raw (.ref C_Ac)),some (.raw (.type "zip")),some (.raw (.builtin "len")),some (.raw (.type "str"))]
theorem Zaa(p:Nat):(List.replicate (p:Int).toNat [32]).flatten=List.replicate p 32:=by
 rw[Int.toNat_natCast]
 induction p with
 |zero=>rfl
 |succ p ih=>rw[List.replicate_succ,List.flatten_cons,ih];rfl
noncomputable abbrev pilE(L:Addr)(cells:List (Str×Addr)):Env:=newEnv (scopeOf st_law_pile) L mainGlobals cells ("_law_pile"++ ".<locals>.") (some a_law_pile) (.ref c_law_pile) none builtinsNs
noncomputable abbrev PilF(K:Wd)(b:Gh)(cs:List Addr)(L:Addr)(cells:List (Str×Addr))(σ:List (Option D))(own:List (Addr×MO))(g:Gh):Prop:=Frm K b [] [] cs (pilE L cells) (scopeOf st_law_pile).names σ own g
theorem Z1R(X:WX K){pre post:List (Addr×MO)}{cells:List (Str×Addr)}{L:Addr}
  (F:PilF K b cs L cells (pilS ps letters T x rs rm [e0,e1,e2,e3]) (pre++(AccOwn x dx (.int T) (pileD rp)++post)) g)(r:Room A (n+4))(hsz:rp.length≤100)
  (kk:∀g',PilF K b cs L cells (pilS ps letters T x rs rm [e0,e1,some (.str (List.replicate (rp.headD (0,[])).1 32)),some (.str (rp.headD (0,[])).2)]) (pre++(AccOwn x dx (.int T) (pileD rp.tail)++post)) g'→gwp K A (execs rest (pilE L cells)) Q g')
  (hline:autoParam ((p5.endLine==p6.line)=true) Z5)
  (hs:autoParam (swapsWithSole [.Tuple [.Name "white" p1,.Name "part" p2] k p3] (.Call (.Attribute (.Name "pile" p4) "pop" p5) [] [] p6) p7.line (pilE L cells)=pure false) Z5)(hw:autoParam (swappedStores [.Tuple [.Name "white" p1,.Name "part" p2] k p3] (.Call (.Attribute (.Name "pile" p4) "pop" p5) [] [] p6) (pilE L cells)=pure none) Z5) :
  gwp K A (execs (.Assign [.Tuple [.Name "white" p1,.Name "part" p2] k p3] (.Call (.Attribute (.Name "pile" p4) "pop" p5) [] [] p6) p7::rest) (pilE L cells)) Q g:=by
 refine Zf (Z1q (Z2e X (d':=.int T) (ds':=(pileD rp).dropLast) (R:=fun u g=>Zu g.im (popD (pileD rp)) u) F r ZaF X.f_Ac_pop Zbv (pn F 3) Z2 (by decide) (fun vs g' l rs hH hnd=>?_) (fun u g' l hu H=>?_) rfl hline) hs hw)
 ·have e:vs=[]:=rs
  rw[e]
  exact Z7s X (n:=n) r hH hnd (by rw[Yl];exact Nat.le_trans hsz (by decide))
 ·rw[(Z4O rp).1] at hu
  rw[(Z4O rp).2] at H
  exact Zg ((Tgt.pair (Tgt.loc (i:=8) rfl) (Tgt.loc (i:=9) rfl)).set r.1 H hu) fun V g₂ l₂ H=>kk g₂ H
theorem Z4W{p:Nat}{vr:List Pc}{hand:List Nat}{ms:List (List Nat)}(h:¬p<(vr.headD (0,[])).1):mergeR p vr hand ms=(vr,hand,ms):=by
 cases vr with
 |nil=>rfl
 |cons x vr=>obtain⟨w,q⟩:=x;exact if_neg h
theorem Z8l(ps letters:List Nat):zipD ((ps.map fun p:Nat=>D.int p)++[.int 0]) (signsD letters)=((ps++[0]).zip letters).map fun x:Nat×Nat=>.tup [.int x.1,.str [x.2]]:=by
 have:(ps.map fun p:Nat=>D.int p)++[.int 0]=(ps++[0]).map fun p:Nat=>D.int p:=by simp
 rw[this]
 generalize ps++[0]=l
 induction l generalizing letters with
 |nil=>rfl
 |cons p l ih=>
  cases letters with
  |nil=>rfl
  |cons c r=>exact congrArg (_::·) (ih r)
theorem Z8I{α:Type}{P:List α→Prop}(h0:P [])(h1:∀l x,P l→P (l++[x]))(l:List α):P l:=by
 rw[←List.reverse_reverse l]
 induction l.reverse with
 |nil=>exact h0
 |cons x r ih=>rw[List.reverse_cons];exact h1 _ _ ih
theorem Z7p:∀(l:List (Nat×Nat)),(∀x∈l,1≤x.1)→∀x∈(pileR l).1,1≤x.1:=by
 refine Z8I (fun V x hx=>nomatch hx) fun l y ih h x hx=>?_
 ·rw[Q4] at hx
  rcases List.mem_cons.mp hx with rfl | hx
  ·exact h y (List.mem_append.mpr (.inr (.head _)))
  ·exact ih (fun z hz=>h z (List.mem_append.mpr (.inl hz))) x ((YO).2.2 x hx)
theorem PileOk.all{B:Nat}:∀(l:List (Nat×Nat)),(∀x∈l,x.1≤B)→PileOk B l.length (pileR l):=by
 refine Z8I (fun V=>PileOk.nil) fun l y ih h=>?_
 ·rw[Q4,List.length_append]
  exact(ih fun z hz=>h z (List.mem_append.mpr (.inl hz))).step (h y (List.mem_append.mpr (.inr (.head _))))
theorem Ym{γ:Type}{ms acc:List γ}{s m:γ}:(ms++(acc++[s,m])).Perm (m::(ms++(acc++[s]))):=by
 have:ms++(acc++[s,m])=(ms++(acc++[s]))++[m]:=by simp
 rw[this];exact List.perm_append_comm (l₂:=[m])
theorem Z09{γ:Type}{ms acc:List γ}{s m:γ}:(ms++(acc++[s,m])).Perm (s::(ms++(acc++[m]))):=by
 have h:ms++(acc++[s,m])=(ms++acc)++s::[m]:=by simp
 have h':ms++(acc++[m])=(ms++acc)++[m]:=by simp
 rw[h,h'];exact List.perm_middle
theorem ZB{k:Nat}(h:k≤1000):k≤sizeLine:=Nat.le_trans h (by decide)
theorem Z5P(X:WX K){T:Nat}(hl:ps.length+1=letters.length)(hL:letters.length≤10)(hc:∀c∈letters,c<128)(hp:∀p∈ps,1≤p∧p≤100)(hT:T≤1000000) :
  CallSem K (n+20) g (.ref a_law_pile) [.lst (ps.map fun p:Nat=>.int p),.str letters,.int T] (.tup [.lst (statesD T ((ps++[0]).zip letters)),.lst ((pileR ((ps++[0]).zip letters)).2.map .str)]):=fun g V vs hvs A r g₁ l=>by
 refine cps fun Q₀ k₀=>?_
 refine Jk (Z1w hvs) fun v1 v2 v3 e r1 r2 r3=>?_
 rw[e]
 refine Zh (n:=n+18) (fn:=[]) (S':=[]) (binds:=[("powers",v1),("letters",v2),("total",v3)]) (bi:=[(0,.lst (ps.map fun p:Nat=>.int p)),(1,.str letters),(2,.int T)]) X.f_law_pile r (Ze (by rfl)) Z4T Z4u (Z3 X.gt Z5t)
  ⟨.inl rfl,r1.le l,.inl rfl,r2.le l,.inl rfl,r3.le l,trivial⟩ fun A' L cells cs g' r' H=>?_
 refine Z7Z r'.1 (Z6H (ZK ((pn H 10).useR r' fun g₂ l₂=>?_)))
 replace H:=H.up l₂
 refine QC X.k_Ac rfl (Zc rfl ((Z1 (pn H 2) Z2).use r' fun vs g₃ l₃ rs=>?_))
 refine Z4 (Jo rs) fun u e hu=>?_
 rw[e]
 replace H:=H.up l₃
 refine Zco (Z2h X (n:=n) (r'.sub (by exact Nat.add_le_add_left (by decide) _)) hu) fun v g₄ x dx hv hnd hx hdx l₄ hH=>?_
 subst hv
 have hbm:∀a,g₃.mu a=none→g₁.mu a=none:=fun a h=>have z:Le g₁ g₃:=H.le;z.nomu h
 replace H:=(H.up l₄).adopt H hH hnd (ZY hx (Zr hdx)) (ZY (.inr (hbm _ hx)) (Zr (.inr (hbm _ hdx))))
 refine Jx (Z2 (K:=K) (n:=n+7)) (r'.sub (by exact Nat.add_le_add_left (by decide) _)) (by decide) fun rs g₅ its l₅ hi hm hr=>?_
 replace H:=H.up l₅
 have hbr:g₁.mu rs=none:=have z:Le g₁ g₅:=H.le;z.nomu hm
 replace H:=(H.up (ZcL hm)).adopt (ms:=[(rs,MO.list [])]) H (Zr ⟨_,ZcI,its,0,rfl,hr⟩) (by simp) (Zr hm) (Zr (.inr hbr))
 refine Jx (Z2 (K:=K) (n:=n+7)) (r'.sub (by exact Nat.add_le_add_left (by decide) _)) (by decide) fun rm g₆ its l₆ hi hm hr=>?_
 replace H:=H.up l₆
 have hbr:g₁.mu rm=none:=have z:Le g₁ g₆:=H.le;z.nomu hm
 replace H:=(H.up (ZcL hm)).adopt (ms:=[(rm,MO.list [])]) H (Zr ⟨_,ZcI,its,0,rfl,hr⟩) (by simp) (Zr hm) (Zr (.inr hbr))
 clear hi hm hr hbr hbm
 refine fun Tp g₇ l₇ hTp=>⟨_,_,_,hTp,fun g₈ l₈=>?_⟩
 refine((H.up l₇).up l₈).storeLocal (i:=5) rfl (d:=.raw (.ref rm)) Zl fun g₉ l₉ H=>?_
 refine H.storeLocal (i:=4) rfl (d:=.raw (.ref rs)) Zl fun g₁₀ l₁₀ H=>?_
 refine H.storeLocal (i:=3) rfl (d:=.raw (.ref x)) Zl fun g₁₁ l₁₁ H=>?_
 have hL0:((ps++[0]).zip letters).length=letters.length:=by rw[List.length_zip,List.length_append,List.length_singleton,hl,Nat.min_self]
 have hLp:∀y∈(ps++[0]).zip letters,y.1≤100:=fun y hy=>by
  have:=(List.of_mem_zip hy).1
  rcases List.mem_append.mp this with h | h
  ·exact(hp _ h).2
  ·rw[List.mem_singleton.mp h];decide
 have hL1:∀(done todo:List (Nat×Nat)) (z:Nat×Nat),done++z::todo=(ps++[0]).zip letters→∀y∈done,1≤y.1:=fun done todo z e y hy=>by
  obtain⟨i,hi,e1⟩:=List.mem_iff_getElem.mp hy
  have h1:i<ps.length:=by have:=congrArg List.length e;rw[hL0,List.length_append,List.length_cons] at this;lia
  have h2:((ps++[0]).zip letters)[i]? = some y:=by rw[←e,List.getElem?_append_left hi,List.getElem?_eq_getElem hi,e1]
  have h3:=(List.getElem?_zip_eq_some.mp h2).1
  rw[List.getElem?_append_left h1,List.getElem?_eq_getElem h1] at h3
  exact(hp _ (Option.some.inj h3▸List.getElem_mem h1)).1
 generalize hLL:(ps++[0]).zip letters=LL at *
 refine Z0d (X:=List (Nat×Nat)) H (fun V V=>pilS ps letters T x rs rm [none,none,none,none]) (fun V done=>AccOwn x dx (.int T) (pileD (pileR done).1)++[(rs,MO.list (statesD T done)),(rm,MO.list ((pileR done).2.map .str))]) (fun rest done=>∃todo,rest=todo.map (fun x:Nat×Nat=>.tup [.int x.1,.str [x.2]])∧done++todo=LL)
  (ds:=LL.map fun x:Nat×Nat=>.tup [.int x.1,.str [x.2]]) [] r' (by rw[←hLL,←Z8l];exact Z7H (pn H 11) (Z8 (pn H 0) (Yn (Z1 Z9 Z2)) (Z1e (by rw[List.length_map];exact Nat.le_trans (show _≤100 by simp;lia) (by decide)))) (pn H 1) (by simp[hl]) hc) ?_ ⟨LL,rfl,rfl⟩ ?_ ?_
 ·exact(H.perm ((List.perm_append_comm (l₁:=[_,_])).trans ((List.Perm.swap _ _ _).append_left [_,_]))).lessN (is:=[])
 ·rintro d rest done ms g v ⟨todo,e1,e2⟩ H rv
  cases todo with
  |nil=>cases e1
  |cons y todo=>
  obtain⟨p,c⟩:=y
  injection e1 with e1 e1'
  subst e1;subst e1'
  have hlen:done.length+1≤10:=by have:=congrArg List.length e2;rw[hL0,List.length_append,List.length_cons] at this;lia
  have hmem:∀z∈done,z∈LL:=fun z hz=>by rw[←e2];exact List.mem_append.mpr (.inl hz)
  have hp100:p≤100:=hLp (p,c) (by rw[←e2];exact List.mem_append.mpr (.inr (.head _)))
  have pk:=PileOk.all (B:=100) done fun z hz=>hLp z (hmem z hz)
  have hw1:=Z7p done (hL1 done todo (p,c) e2)
  have hpl:=pk.len
  refine Zg ((Tgt.pair (Tgt.loc (i:=6) rfl) (Tgt.loc (i:=7) rfl)).set r'.1 H rv) fun V g₂ l₂ H=>?_
  replace H:PilF K g₁ cs L cells (pilS ps letters T x rs rm [some (.int p),some (.str [c]),none,none]) (ms++(AccOwn x dx (.int T) (pileD (pileR done).1)++[(rs,MO.list (statesD T done)),(rm,MO.list ((pileR done).2.map .str))])) g₂:=H
  refine Z1R X H (r'.sub (by exact Nat.add_le_add_left (by decide) _)) (by lia) fun g₃ H=>?_
  let J:Nat→Gh→Prop:=fun k g=>∃(vr:List Pc) (hand:List Nat) (msx:List (List Nat)),vr.length=k∧mergeR p vr hand msx=mergeR p (pileR done).1 [c] (pileR done).2∧(∀y∈vr,y∈(pileR done).1)∧handsP vr+hand.length=done.length+1∧vr.length+msx.length=done.length∧
   PilF K g₁ cs L cells (pilS ps letters T x rs rm [some (.int p),some (.str hand),some (.str (List.replicate (vr.headD (0,[])).1 32)),some (.str (vr.headD (0,[])).2)]) (ms++(AccOwn x dx (.int T) (pileD vr.tail)++[(rs,MO.list (statesD T done)),(rm,MO.list (msx.map .str))])) g
  refine Z1P J (pileR done).1.length ⟨_,_,_,rfl,rfl,fun V h=>h,by rw[pk.hands];rfl,hpl,H⟩ ?_
  clear H
  rintro k g ⟨vr,hand,msx,e3,e4,e5,e6,e7,H⟩
  have hvw:(vr.headD (0,[])).1≤100∧((vr.headD (0,[])).1=0→vr=[]):=by
   cases vr with
   |nil=>exact⟨Nat.zero_le _,fun V=>rfl⟩
   |cons y vr=>exact⟨pk.whites y (e5 y (.head _)),fun e=>absurd e (by have:=hw1 y (e5 y (.head _));show y.1≠0;exact Nat.ne_of_gt this)⟩
  refine Pv.use (Zx (Zt (pn H 12) (fun a z=>by cases z) (Z1 (pn H 8) Z2) (YY (by rw[List.length_replicate];exact Nat.lt_of_le_of_lt hvw.1 (by decide)))) (pn H 6) Zc5) r' fun v g₆ l₆ hv=>?_
  subst hv
  replace H:=H.up l₆
  rw[List.length_replicate]
  by_cases hlt:p<(vr.headD (0,[])).1
  ·rw[if_pos (decide_eq_true (by exact Int.ofNat_le.mpr hlt))]
   cases vr with
   |nil=>exact absurd hlt (Nat.not_lt_zero _)
   |cons y vr=>
   obtain⟨w,q⟩:=y
   have e8:handsP ((w,q)::vr)=q.length+handsP vr:=rfl
   have e9:mergeR p ((w,q)::vr) hand msx=mergeR p vr (q++hand) (msx++[q++[124]++hand]):=if_pos hlt
   rw[e8] at e6
   rw[List.length_cons] at e7 e3
   refine QP (ds:=msx.map .str) (d:=.str (q++[124]++hand)) (oth:=ms++(AccOwn x dx (.int T) (pileD vr)++[(rs,MO.list (statesD T done))])) (own':=ms++(AccOwn x dx (.int T) (pileD vr)++[(rs,MO.list (statesD T done)),(rm,MO.list ((msx++[q++[124]++hand]).map .str))])) H Ym (by rw[List.map_append];exact Ym.symm) r' (pn H 5) (Z8 (Z8 (pn H 9) (Zy (l:=[124]) rfl) (Jf ?_)) (pn H 7) (Jf ?_)) ?_ fun g₇ l₇ H=>?_
   ·exact ZB (show q.length+1≤1000 by lia)
   ·rw[List.length_append];exact ZB (show q.length+1+hand.length≤1000 by lia)
   ·rw[List.length_map];exact ZB (by lia)
   ·refine Jc (i:=7) (d:=.str (q++hand)) H r' rfl (Z8 (pn H 9) (pn H 7) (Jf (ZB (show q.length+hand.length≤1000 by lia)))) fun g₈ l₈ H=>?_
    replace H:PilF K g₁ cs L cells (pilS ps letters T x rs rm [some (.int p),some (.str (q++hand)),some (.str (List.replicate w 32)),some (.str q)]) (ms++(AccOwn x dx (.int T) (pileD vr)++[(rs,MO.list (statesD T done)),(rm,MO.list ((msx++[q++[124]++hand]).map .str))])) g₈:=H
    refine Z1R X H (r'.sub (by exact Nat.add_le_add_left (by decide) _)) (by lia) fun g₉ H=>ZC ⟨vr.length,by exact Nat.le_of_eq e3,vr,q++hand,msx++[q++[124]++hand],rfl,e9.symm.trans e4,fun y hy=>e5 y (.tail _ hy),by rw[List.length_append];lia,by rw[List.length_append,List.length_singleton];lia,H⟩
  ·rw[if_neg (by rw[decide_eq_true_eq];lia)]
   rw[Z4W hlt] at e4
   have hst:stepP (pileR done) (p,c)=((p,hand)::vr,msx):=by show((p,(mergeR p (pileR done).1 [c] (pileR done).2).2.1)::(mergeR p (pileR done).1 [c] (pileR done).2).1,(mergeR p (pileR done).1 [c] (pileR done).2).2.2)=_;rw[←e4]
   refine Z9v (J:=fun g=>PilF K g₁ cs L cells (pilS ps letters T x rs rm [some (.int p),some (.str hand),none,none]) (ms++(AccOwn x dx (.int T) (pileD vr)++[(rs,MO.list (statesD T done)),(rm,MO.list (msx.map .str))])) g) r' (Zx (pn H 8) (Zy (l:=[]) rfl) Z3B) (fun hv g₇ l₇=>?_) (fun hv g₇ l₇=>?_) fun g₇ H=>?_
   ·replace H:=H.up l₇
    cases vr with
    |nil=>cases hv
    |cons y vr=>
    refine Zf (JF (Z2e X (d':=.int T) (ds':=pileD (y::vr)) (R:=fun u V=>u=.none) H r' Z5I X.f_Ac_push Z7b (pn H 3) (Z1 (pn H 8) (Z1 (pn H 9) Z2)) (by decide) (fun vs g' l rs hH hnd=>?_) fun u g' l hu H=>⟨fun a z=>(by subst hu;cases z),ZC ⟨rfl,H.lessN (is:=[8,9])⟩⟩) H.inter)
    refine Zw (Jn rs) fun v1 v2 e r1 r2=>?_
    rw[e,YN]
    exact Z1l X (n:=n) (r'.sub (by exact Nat.add_le_add_left (by decide) _)) hH hnd (by rw[Yl];show vr.length≤_;rw[List.length_cons] at e7;lia) r1 r2
   ·have h0:(vr.headD (0,[])).1=0:=by
     cases h:(vr.headD (0,[])).1 with
     |zero=>rfl
     |succ k=>rw[h] at hv;cases hv
    have h1:=hvw.2 h0
    subst h1
    exact ZC ⟨rfl,(H.up l₇).lessN (is:=[8,9])⟩
   ·-- pile.push(' ' * power,hand)
    refine Zf (JF (Z2e X (d':=.int T) (ds':=pileD ((p,hand)::vr)) (R:=fun u V=>u=.none) H r' Z5I X.f_Ac_push Z7b (pn H 3) (Z1 (d:=.str (List.replicate p 32)) ((Z8 (Zy (l:=[32]) rfl) (pn H 6) (Z3C (by exact Int.ofNat_le.mpr (Nat.le_trans hp100 (by decide))) (by exact Int.natCast_nonneg _) (by decide))).is (congrArg D.str (Zaa p))) (Z1 (pn H 7) Z2)) (by decide) (fun vs g' l rs hH hnd=>?_) fun u g' l hu H=>⟨fun a z=>(by subst hu;cases z),?_⟩) H.inter)
    ·refine Zw (Jn rs) fun v1 v2 e r1 r2=>?_
     rw[e,YN]
     exact Z1l X (n:=n) (r'.sub (by exact Nat.add_le_add_left (by decide) _)) hH hnd (by rw[Yl];lia) r1 r2
    ·-- states.append((str(pile),len(pile),pile.part_count()))
     have hh:=H.holdsAt
     refine Z4 (hh (x,MO.lsub C_Ac dx (pileD ((p,hand)::vr))) (.head _)) fun ox x1 x2=>Z4 (hh (dx,MO.inst (accL (.int T))) (.tail _ (.head _))) fun od d1 d2=>ZP x2 fun its mm e8 x3=>?_
     subst e8
     have hbd:=Z8Y (rp:=(p,hand)::vr) (B:=100) (k:=10) (by decide) (by decide) (fun y hy=>by rcases List.mem_cons.mp hy with rfl | hy;exact hp100;exact pk.whites y (e5 y hy)) (show hand.length+handsP vr≤10 by lia)
     have hpl2:(pileP ((p,hand)::vr)).length=vr.length+1:=by rw[pileP,List.length_map,List.length_reverse,List.length_cons]
     have hits:its.size=vr.length+1:=by rw[←Array.length_toList,x3.length,Yl,List.length_cons]
     refine QP (ds:=statesD T done) (d:=stateD T ((p,hand)::vr)) (oth:=ms++(AccOwn x dx (.int T) (pileD ((p,hand)::vr))++[(rm,MO.list (msx.map .str))])) (own':=ms++(AccOwn x dx (.int T) (pileD ((p,hand)::vr))++[(rs,MO.list (statesD T done++[stateD T ((p,hand)::vr)])),(rm,MO.list (msx.map .str))])) H Z09 Z09.symm r' (pn H 4)
      (J4 (Z1 (Zt (pn H 13) (fun a z=>by cases z) (Z1 (pn H 3) Z2) (Z8b X (n:=n+10) x1 x3 (by rw[hpl2];lia) hbd)) (Z1 (Zt (pn H 12) (fun a z=>by cases z) (Z1 (pn H 3) Z2) (Z6i X (n:=n+11) x1 x3 d1 d2 (by rw[hpl2];lia) hbd ⟨by exact Int.natCast_nonneg _,by exact Int.ofNat_le.mpr hT⟩ Z6t)) (Z1 ((Yz X (n:=n+16) (pn H 3) x1 d1 d2).is (by rw[hits];rfl)) Z2)))) (by rw[statesD,List.length_map,List.length_range];exact ZB (by exact Nat.le_trans (Nat.le_of_lt hlen) (by decide))) fun g₈ l₈ H=>ZC ⟨done++[(p,c)],⟨todo,rfl,by rw[List.append_assoc];exact e2⟩,?_⟩
     rw[Z3k,Q4,hst]
     exact H.lessN (is:=[6,7])
 ·rintro done g ⟨todo,e1,e2⟩ H
  have h0:todo=[]:=by cases todo with | nil=>rfl | cons y t=>cases e1
  subst h0
  rw[List.append_nil] at e2
  subst e2
  refine Qa (a:=rs) (ds:=statesD T done) (own:=AccOwn x dx (.int T) (pileD (pileR done).1)++[(rm,MO.list ((pileR done).2.map .str))]) (H.perm List.perm_middle) fun g₂ l₂ H hs=>Qa (a:=rm) (ds:=(pileR done).2.map .str) (own:=AccOwn x dx (.int T) (pileD (pileR done).1)) (H.perm (by exact List.perm_append_comm (l₂:=[(rm,MO.list ((pileR done).2.map .str))]))) fun g₃ l₃ H hm=>?_
  exact ZM r' (J4 (Z1 (Z1D (pn H 4) (hs.mono l₃.im)) (Z1 (Z1D (pn H 5) hm) Z2))) fun v g₄ l₄ hv=>k₀ _ _ ⟨H.le.trans l₄,hv⟩
end
section
open PySem PySem.Spec PySem.Calls PyProof.Rows PySem.W PySem.SeqAt
variable{K:Wd}{A:Around}{g:Gh}{n:Nat}{env:Env}{α:Type}
variable{b:Gh}{S':List Addr}{fn:List Nat}{cs:List Addr}{nm:List (Str×NameKind)}{σ σ':List (Option D)}{own:List (Addr×MO)}
theorem Z2u(X:WX K){pre post:List (Addr×MO)}(F:Frm K b S' fn cs env nm σ (pre++(LexOwn x dx pb lf fs ln chars (d::pbs)++post)) g)(r:Room A (n+2))(hsz:pbs.length≤10000)
  (ho:Pe K (n+2) g (eval o env) (.raw (.ref x)))
  (k:∀v g',LeX [x,dx,pb,lf] g g'→Zu g'.im d v→Frm K b S' fn cs env nm σ (pre++(LexOwn x dx pb lf fs ln chars pbs++post)) g'→Q v g')
  (hb:autoParam (attributeBase o "get_token" env (eval o env)=eval o env) Z5)(hline:autoParam ((apos.endLine==pos.line)=true) Z5)
  (hfew:autoParam (((backTo pos (starEach [] env)).all (fun x=>!x.1)&&(backToKw pos (keywordEach [] env)).all (fun x=>x.1.isSome)
   &&decide (([]:List Expr).length+([]:List Keyword).length+(if([]:List Keyword).isEmpty then 0 else 1)<30))=true) Z5)
  (hp:autoParam ((backTo pos (starEach [] env)).any (·.1)=false) Z5):gwp K A (eval (.Call (.Attribute o "get_token" apos) [] [] pos) env) Q g:=
 JM X F.holdsAt F.ndAt r JH X.f_nl_gt Z77 QM ho (fun g₁ l₁=>Zd (Qj (Z02 X (n:=n) r (F.up l₁).holdsAt F.ndAt hsz) fun v g₂ hv l₂ hH=>
  k v g₂ ((LeX.of l₁).trans l₂) hv ((F.up l₁).advAt (ms':=LexOwn x dx pb lf fs ln chars pbs) l₂ rfl hH Jg))) hb hline hfew hp
theorem QO(X:WX K){pre post:List (Addr×MO)}(F:Frm K b S' fn cs env nm σ (pre++(LexOwn x dx pb lf fs ln chars pbs++post)) g)(r:Room A (n+2))(hsz:pbs.length≤10000)
  (ho:Pe K (n+2) g (eval o env) (.raw (.ref x)))(he:Pe K (n+2) g (eval e env) d)
  (k:∀g',LeX [x,dx,pb,lf] g g'→Frm K b S' fn cs env nm σ (pre++(LexOwn x dx pb lf fs ln chars (pbs++[d])++post)) g'→gwp K A (execs rest env) Q g')
  (hst:autoParam (starEach [e] env=(false,eval e env)::starEach [] env) Z5)
  (hb:autoParam (attributeBase o "push_token" env (eval o env)=eval o env) Z5)(hline:autoParam ((apos.endLine==pos.line)=true) Z5)
  (hfew:autoParam (((backTo pos (starEach [e] env)).all (fun x=>!x.1)&&(backToKw pos (keywordEach [] env)).all (fun x=>x.1.isSome)
   &&decide ([e].length+([]:List Keyword).length+(if([]:List Keyword).isEmpty then 0 else 1)<30))=true) Z5)
  (hp:autoParam ((backTo pos (starEach [e] env)).any (·.1)=false) Z5):gwp K A (execs (.Expr (.Call (.Attribute o "push_token" apos) [e] [] pos) spos::rest) env) Q g:=
 Zf (JF (JM X F.holdsAt F.ndAt r Z1M X.f_nl_pt Zc7 Z50 ho (fun g₁ l₁=>Zb ((he.le l₁).use r fun v g₂ l₂ hv=>Zd (Qj (Z3b X (n:=n) r ((F.up l₁).up l₂).holdsAt F.ndAt hsz hv) fun u g₃ hu l₃ hH=>
  ⟨(fun a z=>(by cases((hu).symm.trans z))),k g₃ ((LeX.of (l₁.trans l₂)).trans l₃) (((F.up l₁).up l₂).advAt (ms':=LexOwn x dx pb lf fs ln chars (pbs++[d])) l₃ rfl hH Jg)⟩)) hst) hb hline hfew hp) F.inter)
theorem Z5i(F:Frm K b S' fn cs env nm σ ((a,MO.list ds)::own) g)(k:∀g',LeX [a] g g'→Frm K b S' fn cs env nm σ own g'→Zu g'.im (.lst ds) (.ref a)→gwp K A t Q g'):gwp K A t Q g:=Qn fun z₀=>Zi z₀ fun s ok=>by
 obtain⟨o,e,its,m,rfl,hr⟩:=F.own1
 have hi:g.im a=none:=by
  cases e':g.im a with
  |none=>rfl
  |some o=>exact(ok.dis _ _ _ e' e).elim
 exact Z7g e (k _ (LeX.fix hi) (Frm.lose (ms:=[(a,MO.list ds)]) F (LeX.fix hi) (fun p hp o w=>by clear k F;simp at hp;subst hp;exact ZcN o w)) (Zj.mpr ⟨a,its,m,rfl,ZcO,hr.mono (LeX.fix hi).im⟩))
end
section
open PySem PySem.Spec PySem.Calls PyProof.Rows PySem.W PySem.SeqAt
variable{K:Wd}{A:Around}{g:Gh}{n:Nat}{env:Env}{α:Type}
variable{b:Gh}{S':List Addr}{fn:List Nat}{cs:List Addr}{nm:List (Str×NameKind)}{σ σ':List (Option D)}{own own':List (Addr×MO)}
noncomputable def prtF(sp:List Nat→List (List Nat))(ws:List (List Nat)):List (List Nat):=(ws.filter fun w=>(sp w).length !=1).map fun w=>bareF (sp w)
theorem Z2J(sp:List Nat→List (List Nat))(ws:List (List Nat))(w:List Nat):prtF sp (ws++[w])=prtF sp ws++if(sp w).length !=1 then[bareF (sp w)] else[]:=by
 unfold prtF
 rw[List.filter_append,List.map_append]
 congr 1
 cases h:((sp w).length !=1)<;>simp[h]
theorem Z4J(sp:List Nat→List (List Nat))(ws:List (List Nat)):(prtF sp ws).length≤ws.length:=by
 unfold prtF;rw[List.length_map];exact List.length_filter_le _ _
noncomputable def prtsF(sp:List Nat→List (List Nat))(W:Nat→List (List Nat))(k:Nat):List (List Nat):=(List.range k).flatMap fun j=>prtF sp (W j)
noncomputable def stgsF(W:Nat→List (List Nat))(k:Nat):List (List Nat):=(List.range k).map fun j=>bareF (W (j+1))
theorem Z5X(W:Nat→List (List Nat))(k:Nat):stgsF W (k+1)=stgsF W k++[bareF (W (k+1))]:=by simp[stgsF,List.range_succ]
theorem Z1B(sp:List Nat→List (List Nat))(W:Nat→List (List Nat))(k:Nat):prtsF sp W (k+1)=prtsF sp W k++prtF sp (W k):=by simp[prtsF,List.range_succ]
structure RndOk(sp:List Nat→List (List Nat))(W:Nat→List (List Nat))(R:Nat):Prop where
 rounds:R≤10
 next:∀k,W (k+1)=(W k).flatMap sp
 few:∀k≤R,(W k).length≤10
 word:∀k≤R,∀w∈W k,w≠[]∧w.length≤10000∧∀c∈w,c<128
 reads:∀k<R,∀w∈W k,Reads w (sp w)
theorem RndOk.prts(h:RndOk sp W R):∀k≤R,(prtsF sp W k).length≤10*k
 |0,_=>Nat.zero_le _
 |k+1,hk=>by
  have h1:=h.prts k (by exact Nat.le_of_lt hk)
  have h2:=Z4J sp (W k)
  have h3:=h.few k (by exact Nat.le_of_lt hk)
  rw[Z1B,List.length_append];lia
noncomputable def rndS(x ra rp:Addr)(R:Nat)(e:List (Option D)):List (Option D):=
 [some (.raw (.ref x)),some (.int R),some (.raw (.ref ra)),some (.raw (.ref rp))]++e++[some (.raw (.type "range")),some (.raw (.ref a_law_words)),some (.raw (.builtin "len")),some (.raw (.ref a_law_bare))]
noncomputable abbrev rndE(L:Addr)(cells:List (Str×Addr)):Env:=newEnv (scopeOf st_law_rounds) L mainGlobals cells ("_law_rounds"++ ".<locals>.") (some a_law_rounds) (.ref c_law_rounds) none builtinsNs
noncomputable abbrev RndF(K:Wd)(b:Gh)(S':List Addr)(cs:List Addr)(L:Addr)(cells:List (Str×Addr))(σ:List (Option D))(own:List (Addr×MO))(g:Gh):Prop:=Frm K b S' [] cs (rndE L cells) (scopeOf st_law_rounds).names σ own g
theorem Zb6(todo acc:List (List Nat)):∃t,(todo++[[]]++acc).map D.str=.str (todo.headD [])::t∧t=((todo++[[]]).tail++acc).map D.str∧t.length=todo.length+acc.length:=by
 cases todo with
 |nil=>exact⟨_,rfl,rfl,by simp⟩
 |cons w t=>exact⟨_,rfl,rfl,by simp;lia⟩
theorem Frm.newList(F:Frm K b S' fn cs env nm σ own g)(hm:g.mu a=none)(hr:Z7 g.im ds its.toList):Frm K b S' fn cs env nm σ ((a,MO.list ds)::own) (g.setMu a (sq "list" its 0)):=by
 have hba:b.mu a=none∨a∈S':=by
  by_cases hS:a∈S'
  ·exact .inr hS
  ·refine .inl ?_
   cases e:b.mu a with
   |none=>rfl
   |some o=>have:=F.le.mu a o hS e;cases(hm.symm.trans this)
 exact Frm.adopt (ms:=[(a,MO.list ds)]) (F.up (ZcL hm)) F (Zr ⟨_,ZcI,its,0,rfl,hr⟩) (by simp) (Zr hm) (Zr hba.symm)
theorem Z0Z(X:WX K){cells:List (Str×Addr)}{e0 e1 e2 e3 e4:Option D}{pre post:List (Addr×MO)}{rest:List Stmt}{Q:Flow→Gh→Prop}
  (F:RndF K b S' cs L cells (rndS x ra rp R [e0,e1,e2,e3,e4]) (pre++(LexOwn x dx pb lf fs ln chars ((todo++[[]]++acc).map .str)++post)) g)(r:Room A (n+2))(ht:todo.length+acc.length≤10000)(he:Pe K (n+2) g (eval e (rndE L cells)) dw)
  (k:∀g',RndF K b S' cs L cells (rndS x ra rp R [e0,some dw,some (.str (todo.headD [])),e3,e4]) (pre++(LexOwn x dx pb lf fs ln chars (((todo++[[]]).tail++acc).map .str)++post)) g'→gwp K A (execs rest (rndE L cells)) Q g')
  (hline:autoParam ((p5.endLine==p6.line)=true) Z5)
  (hst:autoParam (starEach [e,.Call (.Attribute (.Name "desk" p4) "get_token" p5) [] [] p6] (rndE L cells)=(false,eval e (rndE L cells))::starEach [.Call (.Attribute (.Name "desk" p4) "get_token" p5) [] [] p6] (rndE L cells)) Z5)
  (hs:autoParam (swapsWithSole [.Tuple [.Name "words" p1,.Name "word" p2] i p3] (.Tuple [e,.Call (.Attribute (.Name "desk" p4) "get_token" p5) [] [] p6] j p7) p8.line (rndE L cells)=pure false) Z5)(hw:autoParam (swappedStores [.Tuple [.Name "words" p1,.Name "word" p2] i p3] (.Tuple [e,.Call (.Attribute (.Name "desk" p4) "get_token" p5) [] [] p6] j p7) (rndE L cells)=pure (some [Str.ofString "words",Str.ofString "word"])) Z5) :
  gwp K A (execs (.Assign [.Tuple [.Name "words" p1,.Name "word" p2] i p3] (.Tuple [e,.Call (.Attribute (.Name "desk" p4) "get_token" p5) [] [] p6] j p7) p8::rest) (rndE L cells)) Q g:=by
 refine Zm (Zb6 todo acc) fun t e1 e2 e3=>?_
 rw[e1] at F
 refine Z0x r.1 (YW (he.use r fun v g₁ l₁ hv=>Z2u X (n:=n) (F.up l₁) r (by rw[e3];exact ht) (pn (F.up l₁) 0) (fun u g₂ l₂ hu H=>⟨_,_,hv.mono l₂.im,hu,fun T g₃ l₃ hT=>⟨_,_,hT,fun u w g₄ l₄ h1 h2=>?_⟩⟩) rfl hline) hst) hs hw
 rw[e2] at H
 exact((H.up l₃).up l₄).storeLocal (i:=6) rfl h2 fun g₅ l₅ H=>H.storeLocal (i:=5) rfl (h1.mono l₅.im) fun g₆ l₆ H=>k g₆ H
theorem Z3e(X:WX K)(hk:RndOk sp W R)(r:Room A (n+40))(hH:Holds (LexOwn x dx pb lf fs ln chars ((W 0++[[]]).map .str)) g)(hnd:[x,dx,pb,lf].Nodup)(r2:Zu g.im (.int R) v2) :
  gwp K A (call (.ref a_law_rounds) [.ref x,v2]) (fun u g'=>Zu g'.im (.tup [.lst ((stgsF W R).map .str),.lst ((prtsF sp W R).map .str)]) u∧LeX [x,dx,pb,lf] g g'∧Holds (LexOwn x dx pb lf fs ln chars ((W R++[[]]).map .str)) g') g:=by
 refine cps fun Q₀ k₀=>?_
 refine Zh (n:=n+38) (fn:=[]) (S':=[]) (binds:=[("desk",.ref x),("rounds",v2)]) (bi:=[(0,.raw (.ref x)),(1,.int R)]) X.f_law_rounds r (Ze (by rfl)) Z2m Z2j (Z3 X.gt Z2y)
  ⟨.inl rfl,Zl,.inl rfl,r2,trivial⟩ fun A' L cells cs g' r' H=>?_
 replace H:Frm K g [x,dx,pb,lf] [] cs (rndE L cells) (scopeOf st_law_rounds).names _ (LexOwn x dx pb lf fs ln chars ((W 0++[[]]).map .str)) g':=H.adoptB hH hnd
 have hR:=hk.rounds
 refine Z0x r'.1 (YW (Jx (Z2 (K:=K) (n:=n+38)) r' (by decide) fun ra g₂ its l₂ hi hm hr=>?_))
 replace H:=(H.up l₂).newList hm hr
 refine Jx (Z2 (K:=K) (n:=n+38)) r' (by decide) fun rp g₃ its l₃ hi hm hr=>?_
 replace H:=(H.up l₃).newList hm hr
 refine⟨.raw (.ref ra),.raw (.ref rp),Zl,Zl,fun Tp g₄ l₄ hT=>⟨_,_,hT,fun u w g₅ l₅ h1 h2=>?_⟩⟩
 rw[Zk h1,Zk h2]
 refine((H.up l₄).up l₅).storeLocal (i:=3) rfl (d:=.raw (.ref rp)) Zl fun g₆ l₆ H=>?_
 refine H.storeLocal (i:=2) rfl (d:=.raw (.ref ra)) Zl fun g₇ l₇ H=>?_
 clear hi hm hr h1 h2 hT
 refine Z0d (X:=Nat) H (fun V V=>rndS x ra rp R [none,none,none,none,none]) (fun V k=>LexOwn x dx pb lf fs ln chars ((W k++[[]]).map .str)++[(ra,MO.list ((stgsF W k).map .str)),(rp,MO.list ((prtsF sp W k).map .str))]) (fun rest k=>k+rest.length=R) (ds:=rgD 0 (R:Int).toNat) 0 r' (ZS (pn H 9) (pn H 1) (by exact Int.natCast_nonneg _) (by exact Int.ofNat_le.mpr (Nat.le_trans hR (by decide)))) ?_ (by rw[J9];exact Nat.add_comm _ _) ?_ ?_
 ·exact(H.perm (by exact(List.perm_append_comm (l₁:=[_,_])).trans ((List.Perm.swap _ _ _).append_left _))).lessN (is:=[])
 ·intro d rest k ms gk v hkR H rv
  rw[List.length_cons] at hkR
  have hkl:k<R:=by lia
  have hfew:=hk.few k (by exact Nat.le_of_lt hkl)
  have hfew1:=hk.few (k+1) (by exact hkl)
  have hprt:=hk.prts k (by exact Nat.le_of_lt hkl)
  refine ZE (H.storeLocal (i:=4) rfl rv fun g₆ l₆ H=>?_)
  let J:Nat→Gh→Prop:=fun j gi=>∃todo done:List (List Nat),todo.length=j∧done++todo=W k∧
   RndF K g [x,dx,pb,lf] cs L cells (rndS x ra rp R [none,some (.lst ((done.flatMap sp).map .str)),some (.str (todo.headD [])),none,none]) (ms++(LexOwn x dx pb lf fs ln chars (((todo++[[]]).tail++done.flatMap sp).map .str)++[(ra,MO.list ((stgsF W k).map .str)),(rp,MO.list ((prtsF sp W k++prtF sp done).map .str))])) gi
  have H0:RndF K g [x,dx,pb,lf] cs L cells (rndS x ra rp R [some d,none,none,none,none]) (ms++(LexOwn x dx pb lf fs ln chars ((W k++[[]]++[]).map .str)++[(ra,MO.list ((stgsF W k).map .str)),(rp,MO.list ((prtsF sp W k).map .str))])) g₆:=by rw[List.append_nil];exact H
  clear H
  refine Z0Z X (n:=n+36) (todo:=W k) (acc:=[]) H0 r' (by rw[List.length_nil];exact Nat.le_trans hfew (by decide)) (Yn Z2) fun g₇ H=>?_
  refine Z1P J (W k).length ⟨W k,[],rfl,rfl,?_⟩ ?_
  ·rw[show prtsF sp W k++prtF sp []=prtsF sp W k from List.append_nil _]
   exact H.lessN (is:=[4])
  clear H
  rintro j gj ⟨todo,done,e1,e2,H⟩
  have hdl:done.length+todo.length=(W k).length:=by rw[←e2,List.length_append]
  refine Pv.use (Zx (pn H 6) (Zy (l:=[]) rfl) Z3B) r' fun v g₈ l₈ hv=>?_
  replace H:=H.up l₈
  subst hv
  cases todo with
  |nil=>
   rw[if_neg (by decide)]
   rw[List.append_nil] at e2
   subst e2
   rw[←hk.next] at H
   refine QO X (n:=n+36) (pbs:=(W (k+1)).map .str) H r' (by rw[List.length_map];exact Nat.le_trans hfew1 (by decide)) (pn H 0) (Zy (l:=[]) rfl) fun g₉ l₉ H=>?_
   rw[←Z1B,show(W (k+1)).map D.str++[.str []]=(W (k+1)++[[]]).map D.str by simp] at H
   refine QP (ds:=(stgsF W k).map .str) (d:=.str (bareF (W (k+1)))) (oth:=ms++(LexOwn x dx pb lf fs ln chars ((W (k+1)++[[]]).map .str)++[(rp,MO.list ((prtsF sp W (k+1)).map .str))])) (own':=ms++(LexOwn x dx pb lf fs ln chars ((W (k+1)++[[]]).map .str)++[(ra,MO.list ((stgsF W (k+1)).map .str)),(rp,MO.list ((prtsF sp W (k+1)).map .str))])) H Z09 ?_ r' (pn H 2)
    (ZJ (pn H 12) X.f_law_bare (Z1 (pn H 5) Z2) (Z1j X (n:=n+8) hfew1 fun y hy=>(hk.word (k+1) (by exact hkl) y hy).2)) ?_ fun g₁₀ l₁₀ H=>ZC ⟨k+1,by lia,H.lessN (is:=[5,6])⟩
   ·rw[show(stgsF W k).map D.str++[.str (bareF (W (k+1)))]=(stgsF W (k+1)).map D.str by rw[Z5X,List.map_append];rfl];exact Z09.symm
   ·rw[List.length_map,stgsF,List.length_map,List.length_range];exact ZB (by exact Nat.le_trans (Nat.le_of_lt (Nat.lt_of_lt_of_le hkl hR)) (by decide))
  |cons w todo=>
   rw[List.length_cons] at hdl
   have hw:w∈W k:=by rw[←e2];exact List.mem_append.mpr (.inr (.head _))
   obtain⟨w0,w1,w2⟩:=hk.word k (by exact Nat.le_of_lt hkl) w hw
   rw[if_pos (show((w::todo).headD [] !=[])=true from bne_iff_ne.mpr w0)]
   have hsub:∀y∈sp w,y∈W (k+1):=fun y hy=>by rw[hk.next];exact List.mem_flatMap.mpr ⟨w,hw,hy⟩
   have hfl:(done.flatMap sp).length+(sp w).length≤10:=by
    have e:W (k+1)=(done.flatMap sp++sp w)++todo.flatMap sp:=by rw[hk.next,←e2];simp
    rw[e,List.length_append,List.length_append] at hfew1;exact Nat.le_trans (Nat.le_add_right _ _) hfew1
   refine Jc (i:=7) (d:=.lst ((sp w).map .str)) H r' rfl (ZJ (pn H 10) X.f_law_words (Z1 (pn H 6) Z2) (Z4f X (n:=n+8) w1 (by lia) (hk.reads k hkl w hw))) fun g₉ l₉ H=>?_
   replace H:RndF K g [x,dx,pb,lf] cs L cells (rndS x ra rp R [none,some (.lst ((done.flatMap sp).map .str)),some (.str w),some (.lst ((sp w).map .str)),none]) (ms++(LexOwn x dx pb lf fs ln chars ((todo++[[]]++done.flatMap sp).map .str)++[(ra,MO.list ((stgsF W k).map .str)),(rp,MO.list ((prtsF sp W k++prtF sp done).map .str))])) g₉:=H
   have hv1:((((sp w).map D.str).length:Int) !=1)=((sp w).length !=1):=by
    rw[List.length_map,Bool.eq_iff_iff,bne_iff_ne,bne_iff_ne];lia
   refine Z9v (J:=fun gi=>RndF K g [x,dx,pb,lf] cs L cells (rndS x ra rp R [none,some (.lst ((done.flatMap sp).map .str)),some (.str w),some (.lst ((sp w).map .str)),none]) (ms++(LexOwn x dx pb lf fs ln chars ((todo++[[]]++done.flatMap sp).map .str)++[(ra,MO.list ((stgsF W k).map .str)),(rp,MO.list ((prtsF sp W k++prtF sp (done++[w])).map .str))])) gi) r'
    (Zx (Zt (pn H 11) (fun a z=>by cases z) (Z1 (pn H 7) Z2) (ZD (by rw[List.length_map];lia))) Z9 ZaK) (fun hv g₁₀ l₁₀=>?_) (fun hv g₁₀ l₁₀=>?_) fun g₁₀ H=>?_
   ·rw[hv1] at hv
    refine QP (ds:=(prtsF sp W k++prtF sp done).map .str) (d:=.str (bareF (sp w))) (oth:=ms++(LexOwn x dx pb lf fs ln chars ((todo++[[]]++done.flatMap sp).map .str)++[(ra,MO.list ((stgsF W k).map .str))])) (own':=ms++(LexOwn x dx pb lf fs ln chars ((todo++[[]]++done.flatMap sp).map .str)++[(ra,MO.list ((stgsF W k).map .str)),(rp,MO.list ((prtsF sp W k++prtF sp (done++[w])).map .str))])) (H.up l₁₀) Ym ?_ r' (pn (H.up l₁₀) 3)
     (ZJ (pn (H.up l₁₀) 12) X.f_law_bare (Z1 (pn (H.up l₁₀) 7) Z2) (Z1j X (n:=n+8) (by exact Nat.le_trans (Nat.le_add_left _ _) hfl) fun y hy=>(hk.word (k+1) (by exact hkl) y (hsub y hy)).2)) ?_ fun g₁₁ l₁₁ H=>ZC ⟨rfl,H⟩
    ·rw[show(prtsF sp W k++prtF sp done).map D.str++[.str (bareF (sp w))]=(prtsF sp W k++prtF sp (done++[w])).map D.str by rw[Z2J,if_pos hv];simp]
     exact Ym.symm
    ·have:=Z4J sp done
     rw[List.length_map,List.length_append];exact ZB (Nat.le_trans (Nat.add_le_add (Nat.le_trans hprt (Nat.mul_le_mul_left 10 (Nat.le_trans (Nat.le_add_right k _) (Nat.le_trans (Nat.le_of_eq hkR) hR)))) (Nat.le_trans this (Nat.le_trans (Nat.le_add_right _ _) (Nat.le_trans (Nat.le_of_eq hdl) hfew)))) (by decide))
   ·rw[hv1] at hv
    refine ZC ⟨rfl,?_⟩
    rw[Z2J,if_neg (by rw[hv];decide),List.append_nil]
    exact H.up l₁₀
   refine Z0d (X:=List (List Nat)) H (fun V V=>rndS x ra rp R [none,some (.lst ((done.flatMap sp).map .str)),some (.str w),some (.lst ((sp w).map .str)),none]) (fun V dn=>ms++(LexOwn x dx pb lf fs ln chars ((todo++[[]]++(done.flatMap sp++dn)).map .str)++[(ra,MO.list ((stgsF W k).map .str)),(rp,MO.list ((prtsF sp W k++prtF sp (done++[w])).map .str))])) (fun rest dn=>∃tl:List (List Nat),rest=tl.map .str∧dn++tl=sp w) (ds:=(sp w).map .str) [] r' (Qe (pn H 7)) (by rw[List.append_nil];exact H) ⟨sp w,rfl,rfl⟩ ?_ ?_
   ·rintro d rest dn ms' gd v ⟨tl,e3,e4⟩ H rv
    cases tl with
    |nil=>cases e3
    |cons y tl=>
    injection e3 with e3 e3'
    subst e3;subst e3'
    refine ZE (H.storeLocal (i:=8) rfl rv fun g₁₁ l₁₁ H=>?_)
    have hdn:dn.length<(sp w).length:=by rw[←e4,List.length_append,List.length_cons];lia
    rw[←List.append_assoc] at H
    refine QO X (n:=n+36) H r' ?_ (pn H 0) (pn H 8) fun g₁₂ l₁₂ H=>ZC ⟨dn++[y],⟨tl,rfl,by rw[List.append_assoc];exact e4⟩,?_⟩
    ·rw[List.length_map,List.length_append,List.length_append,List.length_append,List.length_singleton];lia
    ·have e9:List.map D.str (todo++[[]]++(done.flatMap sp++dn))++[D.str y]=List.map D.str (todo++[[]]++(done.flatMap sp++(dn++[y]))):=by simp
     rw[List.append_assoc,e9] at H
     exact H.lessN (is:=[8])
   rintro dn gd ⟨tl,e3,e4⟩ H
   have h0:tl=[]:=by cases tl with | nil=>rfl | cons y t=>cases e3
   subst h0
   rw[List.append_nil] at e4
   subst e4
   have e5:(done.flatMap sp).map D.str++(sp w).map .str=((done++[w]).flatMap sp).map .str:=by simp
   have e6:done.flatMap sp++sp w=(done++[w]).flatMap sp:=by simp
   refine Z0Z X (n:=n+36) (todo:=todo) (acc:=done.flatMap sp++sp w) H r' (by rw[List.length_append];exact Nat.le_trans (Nat.add_le_add (Nat.le_trans (Nat.le_trans (Nat.le_succ _) (Nat.le_add_left _ _)) (Nat.le_trans (Nat.le_of_eq hdl) hfew)) hfl) (by decide)) ((Z8 (pn H 5) (pn H 7) (Z1e (by rw[List.length_map,List.length_map];exact ZB (by exact Nat.le_trans hfl (by decide))))).is (congrArg D.lst e5)) fun g₁₁ H=>ZC ⟨todo.length,by rw[←e1];exact Nat.lt_succ_self _,todo,done++[w],rfl,by rw[List.append_assoc];exact e2,?_⟩
   rw[e6] at H
   exact H.lessN (is:=[7])
 ·intro k g hkR H
  have:k=R:=by exact hkR
  subst this
  refine Z5i (a:=ra) (H.perm (by exact(List.perm_append_comm (l₂:=[_,_])))) fun g₈ l₈ H hs=>Z5i (a:=rp) H fun g₉ l₉ H hp=>?_
  exact ZM r' (J4 (Z1 (Z1D (pn H 2) (hs.mono l₉.im)) (Z1 (Z1D (pn H 3) hp) Z2))) fun v g₁₀ l₁₀ hv=>k₀ _ _ ⟨hv,(H.up l₁₀).le,(H.up l₁₀).holds⟩
theorem Z0N(hB:0≤B):∀{ns:List Int} (hb:∀x∈ns,0≤x∧x≤B) (j:Nat),0≤(ns.take j).sum∧(ns.take j).sum≤B*ns.length
 |[],_,j=>by rw[List.take_nil];exact⟨Int.le_refl _,by simp⟩
 |x::ns,hb,0=>⟨Int.le_refl _,Int.mul_nonneg hB (Int.natCast_nonneg _)⟩
 |x::ns,hb,j+1=>by
  have h:=Z0N hB (fun y hy=>hb y (.tail _ hy)) (ns:=ns) j
  have h1:=hb x (.head _)
  rw[List.take_succ_cons,List.sum_cons,List.length_cons,Int.natCast_succ,Int.mul_add,Int.mul_one]
  exact⟨Int.add_nonneg h1.1 h.1,by rw[Int.add_comm];exact Int.add_le_add h.2 h1.2⟩
theorem Z1O(rs:Z7 im (ns.map .int) its.toList):∃xs,its=intItems xs∧ns=xs.toList.map (·.1)∧xs.size=ns.length:=by
 have hi:=Z3N rs
 refine Zi hi.allInts.items fun xs ex=>?_
 have hns:ns=xs.toList.map (·.1):=by rw[←hi.numsOf,←nums_intItems,←ex]
 exact⟨xs,by rw[←ex],hns,by rw[hns,List.length_map,Array.length_toList]⟩
theorem ZaA{ns:List Int}(hb:∀x∈ns,0≤x∧x≤1000000)(hl:ns.length≤1000):CallSem K n g (.builtin "sum") [.lst (ns.map .int)] (.int ns.sum):=fun g₁ l vs h A r g₂ l₂ s E ok=>by
 refine Z4 (Jo h) fun v e0 h1=>ZO (Zj.mp h1) fun a its m e1 e rs=>?_
 rw[e0,e1]
 refine Zm (Z1O rs) fun xs ex hns hsz=>?_
 subst ex
 have bd:=fun j=>Z0N (B:=1000000) (by decide) hb j
 have hp:∀j,preSum (numAt xs) j=(ns.take j).sum:=fun j=>by rw[preSum_eq,←hns]
 refine sum_intList (xs:=xs) r.1 ⟨_,ok.im _ _ (l₂.im _ _ e),rfl,m,by exact rfl⟩ (fun j hj=>?_) fun h' tk t' hk=>⟨g₂,ok.keeps hk,LeX.refl _ _,?_⟩
 ·have big:∀x:Int,0≤x→x≤1000000*1000→InLong x:=fun x h0 h1=>⟨Int.le_trans (by decide) h0,Int.lt_of_le_of_lt h1 (by decide)⟩
  have h3:numAt xs j∈ns:=by rw[hns,numAt_eq];exact getD_mem (by rw[List.length_map,Array.length_toList];exact hj)
  have h1:=bd (j+1)
  rw[←hp] at h1
  exact⟨big _ (hb _ h3).1 (Int.le_trans (hb _ h3).2 (by decide)),big _ h1.1 (Int.le_trans h1.2 (Int.mul_le_mul_of_nonneg_left (Int.ofNat_le.mpr hl) (by decide)))⟩
 ·rw[hp,hsz,List.take_length];exact Zp
theorem ZaB{ns:List Int}(hM:M∈ns)(hm:∀a∈ns,a≤M):CallSem K n g (.builtin "max") [.lst (ns.map .int)] (.int M):=fun g₁ l vs h A r g₂ l₂ s E ok=>by
 refine Z4 (Jo h) fun v e0 h1=>ZO (Zj.mp h1) fun a its m e1 e rs=>?_
 rw[e0,e1]
 refine Zm (Z1O rs) fun xs ex hns hsz=>?_
 subst ex
 have hne:0<xs.size:=by rw[hsz];exact List.length_pos_of_mem hM
 refine max_intList (xs:=xs) r.1 ⟨_,ok.im _ _ (l₂.im _ _ e),rfl,m,by exact rfl⟩ hne fun v h' tk hv hk=>⟨g₂,ok.keeps hk,LeX.refl _ _,?_⟩
 refine Zi (intItems_at hv) ?_
 rintro t rfl
 refine ZG (argBest_gt (numAt xs) (xs.size-1)) fun h1 h2=>?_
 have h3:numAt xs (argBest (fun i j=>decide (numAt xs i>numAt xs j)) (xs.size-1))∈ns:=by
  rw[hns,numAt_eq];exact getD_mem (by rw[List.length_map,Array.length_toList];exact Nat.lt_of_le_of_lt h1 (Nat.sub_lt hne (by decide)))
 have h4:M≤numAt xs (argBest (fun i j=>decide (numAt xs i>numAt xs j)) (xs.size-1)):=by
  rw[hns] at hM
  refine Z4 (mem_getD hM) ?_
  rintro j hj rfl
  rw[List.length_map,Array.length_toList] at hj
  rw[←numAt_eq];exact h2 j (Nat.le_sub_one_of_lt hj)
 rw[Int.le_antisymm (hm _ h3) h4];exact Zp
theorem Z8d{xs:List Int}(hx:x∈xs)(hsz:xs.length<2^62):CallSem K (n+1) g (.builtin "list.index") [.lst (xs.map .int),.int x] (.int (xs.idxOf x:Nat)):=fun g₁ l vs h A r g₂ l₂ s E ok=>by
 refine Zw (Jn h) fun v w e0 h1 h2=>ZO (Zj.mp h1) fun a its m e1 e rs=>Zi (Zo h2) fun t et=>?_
 rw[e0,e1,et]
 have ho:=ok.im _ _ (l₂.im _ _ e)
 have hlen:its.size=xs.length:=by rw[←Array.length_toList,rs.length,List.length_map]
 have hj:xs.idxOf x<xs.length:=List.idxOf_lt_length_iff.mpr hx
 have hat:∀(i:Nat) (hi:i<its.size),∃t,its[i]=.int (xs[i]'(by exact Nat.lt_of_lt_of_eq hi hlen)) t:=fun i hi=>by
  refine Z4 (rs.get (i:=i) (d:=.int (xs[i]'(by exact Nat.lt_of_lt_of_eq hi hlen))) (by rw[List.getElem?_map,List.getElem?_eq_getElem (by exact Nat.lt_of_lt_of_eq hi hlen)];rfl)) fun v e1 e2=>Zi (Zo e2) fun t et=>?_
  rw[Array.getElem?_toList,Array.getElem?_eq_getElem hi,et] at e1
  exact⟨t,Option.some.inj e1⟩
 let f:Value→Bool:=fun v=>match v with | .int y _=>y==x | _=>false
 refine call_meets PySem.F.slot_list_index ⟨_,ho,rfl⟩ PySem.F.entry_list_index (PySem.F.args_list_index_2 _ _)
  (list_indexAt a its m none #[] (.int x t) f (xs.idxOf x) (by rw[hlen];exact hj) (by lia) ?_ ?_) ⟨ho,fun y hy=>?_,g₂,ok.tok _,LeX.refl _ _,Zp⟩
 ·refine Zi (hat (xs.idxOf x) (by exact Nat.lt_of_lt_of_eq hj (Eq.symm hlen))) fun t' e'=>?_
  rw[e',List.getElem_idxOf hj]
  exact beq_self_eq_true _
 ·intro i hi hlt
  refine Zi (hat i hi) fun t' e'=>?_
  rw[e']
  have:=List.not_of_lt_findIdx (p:=(· == x)) (xs:=xs) hlt
  exact this
 ·obtain⟨i,hi,e⟩:=Array.mem_iff_getElem.mp hy
  refine Zi (hat i hi) fun t' e'=>?_
  rw[←e,e']
  exact EqAt.int_int _ _ _ _
noncomputable def kasRun{α:Type}(lt:Nat→Nat→Bool):KasT α→α
 |.ret a=>a
 |.ask i j k=>kasRun lt (k (lt i j))
noncomputable def bdB{α:Type}(n:Nat):KasT α→Bool
 |.ret _=>true
 |.ask i j k=>decide (i<n)&&decide (j<n)&&bdB n (k true)&&bdB n (k false)
theorem Z2V{α:Type}{I:Shared→Prop}{Q:α→Shared→Prop}(hc:∀i j s C,i<n→j<n→I s→(∀s',I s'→C (lt i j) s')→cmp i j C s) :
  ∀(t:KasT α) (s:Shared),bdB n t=true→I s→(∀s',I s'→Q (kasRun lt t) s')→t.kasWp cmp Q s
 |.ret a,s,_,hi,hq=>hq s hi
 |.ask i j k,s,hb,hi,hq=>by
  replace hb:(decide (i<n)&&decide (j<n)&&bdB n (k true)&&bdB n (k false))=true:=hb
  simp only[Bool.and_eq_true,decide_eq_true_eq] at hb
  exact hc i j s _ hb.1.1.1 hb.1.1.2 hi fun s' hi'=>Z2V hc (k (lt i j)) s' (by cases lt i j;exact hb.2;exact hb.1.2) hi' hq
noncomputable abbrev KeyP:=List Nat×Int
noncomputable def keyD(k:KeyP):D:=.tup [.str k.1,.int k.2]
noncomputable def keyLtB(a b:KeyP):Bool:=if a.1=b.1 then decide (a.2<b.2) else decide (a.1<b.1)
noncomputable def permF(ks:List KeyP):List Nat:=(kasRun (fun i j=>keyLtB (ks.getD i ([],0)) (ks.getD j ([],0))) (kas_sort ks.length)).toList
theorem ZbH(h1:Zu g.im (keyD κ₁) v)(h2:Zu g.im (keyD κ₂) w)(r:Room A n)(ok:g.Ok K.B s)(h:∀g' s',g'.Ok K.B s'→Le g g'→C (keyLtB κ₁ κ₂) s') :
  wpAny (model K.prog K.w) A (keyLt' (tuples' true) v w) C E s:=by
 refine ZO (J1.mp h1) fun a its m e1 e2 rs=>ZO (J1.mp h2) fun a' its' m' e1' e2' rs'=>?_
 refine Zw (Jn rs) fun v1 v2 e3 p1 p2=>Zw (Jn rs') fun w1 w2 e3' q1 q2=>?_
 obtain⟨t1,rfl⟩:=Zz p1
 obtain⟨t2,rfl⟩:=Zo p2
 obtain⟨u1,rfl⟩:=Zz q1
 obtain⟨u2,rfl⟩:=Zo q2
 rw[e1,e1']
 refine kat_lt (ok.im _ _ e2) rfl (ok.im _ _ e2') rfl ?_
 rw[e3,e3']
 refine kat_cons (EqAt.str_str _ _ _ _ _ _ _ _ ?_)
 by_cases hs:κ₁.1=κ₂.1
 ·rw[show(S κ₁.1==S κ₂.1)=true by rw[Z04,hs];exact beq_self_eq_true _]
  refine kat_yes (kat_cons (EqAt.int_int _ _ _ _ _ _ _ _ ?_))
  by_cases hi:κ₁.2=κ₂.2
  ·rw[show(κ₁.2==κ₂.2)=true by rw[hi];exact beq_self_eq_true _]
   refine kat_yes (kat_nil ?_)
   have:decide (its.size<its'.size)=keyLtB κ₁ κ₂:=by
    rw[keyLtB,if_pos hs,←Array.length_toList,←Array.length_toList,e3,e3',hi];simp
   rw[this];exact h g s ok (LeX.refl _ _)
  ·rw[show(κ₁.2==κ₂.2)=false from beq_eq_false_iff_ne.mpr hi]
   refine kat_no (kat_one _ _ (Zn (Z1E (K:=K) (n:=n) (g:=g) g (LeX.refl _ _) (.int κ₁.2 t2) (.int κ₂.2 u2) Zp Zp A r g (LeX.refl _ _) s _ ok) fun v s' g' ok' z=>?_))
   obtain⟨l',hv⟩:=z
   rw[Z07 hv]
   have:=h g' s' ok' l'
   rw[keyLtB,if_pos hs] at this
   exact this
 ·rw[show(S κ₁.1==S κ₂.1)=false by rw[Z04];exact beq_eq_false_iff_ne.mpr hs]
  refine kat_no (oneLt_str ?_)
  have:=h g s ok (LeX.refl _ _)
  rw[keyLtB,if_neg hs] at this
  exact this
end
section
open PySem
noncomputable def sepX(rs:List Nat):Bool:=(List.range rs.length).all fun k=>(List.range k).all fun i=>rs.getD i 0 !=rs.getD k 0||(List.range k).any fun t=>decide (i<t)&&decide (rs.getD t 0<rs.getD i 0)
noncomputable def surB(rs:List Nat)(R:Nat):Bool:=((List.range R).all fun r=>decide (r∈rs))&&rs.all fun r=>decide (r<R)
noncomputable def leastR(rs:List Nat)(i k:Nat):Nat:=((rs.take (k+1)).drop i).foldl min 100
noncomputable def lettersW(w:Nat×List Nat):List Nat:=(List.range' w.1 (w.2.length+1)).map ltr
noncomputable def stageR(rs:List Nat)(j:Nat):List Nat:=ltr 0::((List.range' 1 rs.length).map fun k=>if rs.getD (k-1) 0≤j then[124,ltr k] else[ltr k]).flatten
noncomputable def upR(rs:List Nat):List (Nat×Nat):=((rs.map (· + 1))++[0]).zip ((List.range (rs.length+1)).map ltr)
noncomputable def flatP(rp:List Pc):List (Nat×Nat):=(rp.reverse.map fun x=>x.2.zip (x.1::List.replicate 10 0)).flatten
noncomputable def placesR(rs:List Nat)(k:Nat):List Nat:=(List.range (k+1)).map fun i=>if k<rs.length then leastR rs i k+1 else 0
noncomputable def stateR(rs:List Nat)(k:Nat):List (Nat×Nat):=(List.range (k+1)).map fun i=>(ltr i,if(placesR rs k).getD i 0∈(placesR rs k).take i then 0 else(placesR rs k).getD i 0)
noncomputable def dedupN(l:List Nat):List Nat:=l.foldl (fun acc x=>if x∈acc then acc else acc++[x]) []
noncomputable def movesR(ms:List (List Nat))(c:Nat):Nat:=(ms.filter fun m=>c∈m).length
noncomputable def partsR(ws:List (Nat×List Nat)):List (List Nat):=(ws.filter fun w=>(splitW w).length !=1).map fun w=>jn [124] ((splitW w).map lettersW)
noncomputable def prtsR(rs:List Nat)(R:Nat):List (List Nat):=(List.range R).flatMap fun j=>partsR (wordsR (0,rs) j)
noncomputable def kfL(w:List Nat):KeyP:=([w.getLastD 0],(w.length:Int))
noncomputable def patW(rs:List Nat)(R:Nat):Bool:=((List.range (R+1)).all fun k=>decide ((wordsR (0,rs) k).length≤6)&&(wordsR (0,rs) k).all fun w=>w.2.all (fun r=>decide (r≤5))&&decide (w.2.length≤5))
noncomputable def patEnd(rs:List Nat)(R:Nat):Bool:=wordsR (0,rs) R==(List.range (rs.length+1)).map fun i=>(i,[])
noncomputable def patStage(rs:List Nat)(R:Nat):Bool:=(List.range R).all fun j=>jn [124] ((wordsR (0,rs) (j+1)).map lettersW)==stageR rs j
noncomputable def patSort(rs:List Nat)(R:Nat):Bool:=
 let ps:=prtsR rs R
 let p:=permF (ps.map kfL)
 ((p.map fun i=>ps.getD i [])==(pileR (upR rs)).2)&&(p.all fun i=>decide (i<ps.length))&&decide (ps.length=rs.length)&&ps.all fun w=>w !=[]&&decide (w.length≤100)
noncomputable def patState(rs:List Nat):Bool:=(List.range (rs.length+1)).all fun k=>
 let st:=(pileR ((upR rs).take (k+1))).1
 (flatP st==stateR rs k)&&((dedupN (placesR rs k)).length==st.length)&&st.all fun x=>x.2 !=[]&&decide (x.2.length≤10)
noncomputable def patMove(rs:List Nat):Bool:=(List.range (rs.length+1)).all fun k=>decide (movesR (pileR (upR rs)).2 (ltr k)≤max (if k=0 then 0 else rs.getD (k-1) 0+1) (if k<rs.length then rs.getD k 0+1 else 0))
noncomputable def patOk(rs:List Nat)(R:Nat):Bool:=patW rs R&&patEnd rs R&&patStage rs R&&patSort rs R&&patState rs&&patMove rs
noncomputable def tups:Nat→Nat→List (List Nat)
 |0,_=>[[]]
 |n+1,m=>(tups n m).flatMap fun l=>(List.range m).map fun x=>x::l
noncomputable def patCk(n:Nat)(rs:List Nat):Bool:=!(sepX rs)||(List.range (n+1)).all fun R=>!(surB rs R)||patOk rs R
noncomputable def patAll(n x:Nat):Bool:=(tups (n-1) n).all fun l=>patCk n (x::l)
noncomputable def drawn(ds:List Int):List Int:=ds.take 6++[1,0,1,2,1].drop ds.length
noncomputable def sizesOf(ds:List Int):List Nat:=(drawn ds).map fun x=>(1+x.fmod 1000).toNat
structure SzOk(S:List Nat):Prop where
 lo:5≤S.length
 hi:S.length≤6
 each:∀s∈S,1≤s∧s≤1000
noncomputable def midF(S:List Nat)(k:Nat):Nat:=2*(S.take k).sum+S.getD k 0
noncomputable def rowOf(S:List Nat)(k:Nat):List Nat:=rowF (midF S k) S.sum (bl S.sum)
noncomputable def powOf(S:List Nat)(k:Nat):Nat:=placeF (rowOf S k) (rowOf S (k+1))
noncomputable def powsOf(S:List Nat):List Nat:=(List.range (S.length-1)).map (powOf S)
noncomputable def kindsF(ps:List Nat):List Nat:=(List.range 60).filter fun p=>decide (p∈ps)
noncomputable def ranksOf(ps:List Nat):List Nat:=ps.map fun p=>(kindsF ps).idxOf p
noncomputable def letsF(n:Nat):List Nat:=(List.range n).map ltr
noncomputable def lineOf(S:List Nat):List Nat:=txt S.sum 0 (ranksOf (powsOf S))
noncomputable def bareOf(w:List Nat):List Nat:=(w.map fun c=>[92,c]).flatten
noncomputable def textOf(T:Nat)(w:List Nat):List Nat:=(if T%2=1 then bareOf w else([34]++StrLaws.dbl 92 w)++[34])++[10,35]
theorem Z0G(ds:List Int):5≤(drawn ds).length∧(drawn ds).length≤6:=by
 unfold drawn
 rw[List.length_append,List.length_take,List.length_drop]
 show 5≤min 6 ds.length+(5-ds.length)∧min 6 ds.length+(5-ds.length)≤6
 rcases Nat.le_total ds.length 5 with h | h
 ·rw[Nat.min_eq_right (Nat.le_trans h (by decide)),Nat.add_sub_cancel' h];exact⟨Nat.le_refl _,by decide⟩
 ·rw[Nat.sub_eq_zero_of_le h];exact⟨Nat.le_min.mpr ⟨by decide,h⟩,Nat.min_le_left _ _⟩
theorem Z4x(ds:List Int):SzOk (sizesOf ds) where
 lo:=by rw[sizesOf,List.length_map];exact(Z0G ds).1
 hi:=by rw[sizesOf,List.length_map];exact(Z0G ds).2
 each s h:=by
  refine Z4 (List.mem_map.mp h) ?_
  clear h;rintro x V rfl
  have h1:0≤x.fmod 1000:=Int.fmod_nonneg_of_pos _ (by decide)
  have h2:x.fmod 1000<1000:=Int.fmod_lt_of_pos _ (by decide)
  refine Zi (Int.eq_ofNat_of_zero_le h1) fun k hk=>?_
  rw[hk] at h2 ⊢
  exact⟨show 1≤1+k from Nat.le_add_right _ _,show 1+k≤1000 by rw[Nat.add_comm];exact Int.ofNat_lt.mp h2⟩
theorem Z71:∀{S:List Nat},(∀s∈S,1≤s∧s≤1000)→S.length≤S.sum∧S.sum≤1000*S.length
 |[],_=>⟨Nat.le_refl _,Nat.le_refl _⟩
 |s::S,h=>by
  have:=Z71 fun x hx=>h x (.tail _ hx)
  have:=h s (.head _)
  rw[List.sum_cons,List.length_cons];lia
theorem SzOk.tot{S:List Nat}(h:SzOk S):5≤S.sum∧S.sum≤6000:=by
 have:=Z71 h.each;have:=h.lo;have:=h.hi;lia
theorem Z0O(S:List Nat)(k:Nat):(S.take k).sum+S.getD k 0≤S.sum:=by
 induction S generalizing k with
 |nil=>simp
 |cons s S ih=>
  cases k with
  |zero=>simp[List.getD]
  |succ k=>
   have:=ih k
   rw[List.take_succ_cons,List.sum_cons,List.sum_cons,List.getD_cons_succ];lia
theorem Y1(S:List Nat)(k:Nat):(S.take (k+1)).sum=(S.take k).sum+S.getD k 0:=by
 induction S generalizing k with
 |nil=>simp
 |cons s S ih=>
  cases k with
  |zero=>simp[List.getD]
  |succ k=>rw[List.take_succ_cons,List.sum_cons,ih k,List.take_succ_cons,List.sum_cons,List.getD_cons_succ];exact(Nat.add_assoc _ _ _).symm
theorem SzOk.at{S:List Nat}(h:SzOk S)(hk:k<S.length):1≤S.getD k 0∧S.getD k 0≤1000:=by
 rw[List.getD_eq_getElem?_getD,List.getElem?_eq_getElem hk];exact h.each _ (List.getElem_mem hk)
theorem SzOk.mids{S:List Nat}(h:SzOk S):Mids (midF S) S.sum (bl S.sum) S.length where
 pos:=by have:=h.tot;exact Nat.lt_of_lt_of_le (by decide) this.1
 big:=Nat.le_of_lt (Zcs _)
 lt k hk:=by
  have:=Z0O S k;have:=h.at hk
  unfold midF;lia
 up k hk:=by
  have h1:=Y1 S k;have:=h.at (k:=k) (by exact Nat.le_of_lt ‹_›);have:=h.at hk
  unfold midF;rw[h1];lia
theorem SzOk.pow{S:List Nat}(h:SzOk S)(hk:k+1<S.length):1≤powOf S k∧powOf S k≤26:=by
 have:=h.mids.place (i:=k) (k:=k+1) (by exact Nat.le_refl _) hk
 have h2:bl S.sum≤13:=Z2a h.tot.2
 exact⟨this.1,Nat.le_trans this.2.1 (by exact Nat.mul_le_mul_left _ h2)⟩
theorem Q9(ps:List Nat):(kindsF ps).Pairwise (· < ·):=List.Pairwise.filter _ List.pairwise_lt_range
theorem Jy(h:∀p∈ps,p<60):p∈kindsF ps↔p∈ps:=by
 unfold kindsF
 rw[List.mem_filter,List.mem_range,decide_eq_true_eq]
 exact⟨fun z=>z.2,fun z=>⟨h p z,z⟩⟩
theorem Z9P(l:List Nat)(p:Nat)(ps:List Nat):(l.filter fun x=>decide (x∈p::ps)).length≤(l.filter fun x=>x==p).length+(l.filter fun x=>decide (x∈ps)).length:=by
 induction l with
 |nil=>exact Nat.le_refl _
 |cons x l ih=>
  by_cases h1:x=p
  ·rw[List.filter_cons_of_pos (by simp[h1]),List.filter_cons_of_pos (p:=fun x=>x==p) (by exact if_pos h1)]
   by_cases h2:x∈ps
   ·rw[List.filter_cons_of_pos (p:=fun x=>decide (x∈ps)) (by exact if_pos h2)];simp only[List.length_cons];lia
   ·rw[List.filter_cons_of_neg (p:=fun x=>decide (x∈ps)) (by simp[h2])];simp only[List.length_cons];lia
  ·rw[List.filter_cons_of_neg (p:=fun x=>x==p) (by simp[h1])]
   by_cases h2:x∈ps
   ·rw[List.filter_cons_of_pos (p:=fun x=>decide (x∈ps)) (by exact if_pos h2),List.filter_cons_of_pos (by simp[h2])];simp only[List.length_cons];exact Nat.lt_succ_of_le ih
   ·rw[List.filter_cons_of_neg (p:=fun x=>decide (x∈ps)) (by simp[h2]),List.filter_cons_of_neg (by simp[h1,h2])];exact ih
theorem Zbl(l:List Nat)(h:l.Nodup)(p:Nat):(l.filter fun x=>x==p).length≤1:=by
 have:=List.nodup_iff_count.mp h p
 rw[List.count,List.countP_eq_length_filter] at this
 exact this
theorem JL:∀ps:List Nat,(kindsF ps).length≤ps.length
 |[]=>by simp[kindsF]
 |p::ps=>by
  have h1:=JL ps
  have h2:=Z9P (List.range 60) p ps
  have h3:=Zbl (List.range 60) List.nodup_range p
  unfold kindsF at *
  rw[List.length_cons];lia
theorem SzOk.pows{S:List Nat}(h:SzOk S)(hp:p∈powsOf S):1≤p∧p≤26:=by
 refine Z4 (List.mem_map.mp hp) ?_
 clear hp;rintro k hk rfl
 exact h.pow (Nat.add_lt_of_lt_sub (List.mem_range.mp hk))
theorem Jr(S:List Nat):(powsOf S).length=S.length-1:=by simp[powsOf]
theorem Yk(ps:List Nat):(ranksOf ps).length=ps.length:=List.length_map _
theorem Z1d(h:∀p∈ps,p<60)(hp:p∈ps):(kindsF ps).idxOf p<(kindsF ps).length:=List.idxOf_lt_length_iff.mpr ((Jy h).mpr hp)
theorem SzOk.ranks{S:List Nat}(h:SzOk S)(hr:r∈ranksOf (powsOf S)):r<S.length-1∧r≤4:=by
 refine Z4 (List.mem_map.mp hr) ?_
 clear hr;rintro p hp rfl
 have h1:=Z1d (fun p hp=>by have:=(h.pows hp).2;exact Nat.lt_of_le_of_lt this (by decide)) hp
 have h2:=JL (powsOf S)
 have h4:=Nat.lt_of_lt_of_le h1 (Nat.le_trans h2 (Nat.le_of_eq (Jr S)))
 exact⟨h4,Nat.le_of_lt_succ (Nat.lt_of_lt_of_le h4 (Nat.sub_le_sub_right h.hi 1))⟩
theorem Z8t(t:Nat):∀(rs:List Nat) (i:Nat),tlT t i rs=((List.range rs.length).map fun k=>gapT t (i+k) (rs.getD k 0)++[ltr (i+k+1)]).flatten
 |[],_=>rfl
 |r::rs,i=>by
  rw[tlT,Z8t t rs (i+1),List.length_cons,List.range_succ_eq_map,List.map_cons,List.flatten_cons,List.map_map,List.append_assoc]
  show gapT t i r++(ltr (i+1)::_)=gapT t i r++([ltr (i+1)]++_)
  congr 2
  refine congrArg List.flatten (List.map_congr_left fun k V=>?_)
  show gapT t (i+1+k) (rs.getD k 0)++[ltr (i+1+k+1)]=gapT t (i+(k+1)) ((r::rs).getD (k+1) 0)++[ltr (i+(k+1)+1)]
  rw[List.getD_cons_succ,Nat.add_assoc i 1 k,Nat.add_comm 1 k]
theorem SzOk.line{S:List Nat}(h:SzOk S):(lineOf S).length≤200∧∀c∈lineOf S,c<128:=by
 refine⟨?_,Z6Z S.sum (0,ranksOf (powsOf S))⟩
 have h1:=Z3i S.sum (ranksOf (powsOf S)) 0 fun r hr=>by have:=(h.ranks hr).2;exact Nat.le_trans this (by decide)
 rw[Yk,Jr] at h1
 have:=h.hi
 rw[lineOf,txt,List.length_cons];exact Nat.le_trans (Nat.succ_le_succ (Nat.le_trans h1 (Nat.mul_le_mul_left _ (Nat.sub_le_sub_right this 1)))) (by decide)
theorem Z1f(hk:k<n):(letsF n)[k]? = some (ltr k):=by rw[letsF,List.getElem?_map,List.getElem?_range hk];rfl
theorem ZT(n:Nat):(letsF n).length=n:=by simp[letsF]
theorem Z53(h:c∈letsF n):c<128:=by
 refine Z4 (List.mem_map.mp h) ?_
 clear h;rintro k V rfl
 exact Z6s k
theorem Z1m(T:Nat)(w:List Nat):(textOf T w).length≤2*w.length+4:=by
 have h1:(bareOf w).length=2*w.length:=by
  unfold bareOf
  induction w with
  |nil=>rfl
  |cons c w ih=>rw[List.map_cons,List.flatten_cons,List.length_append,ih];show 2+2*w.length=2*(w.length+1);exact Nat.add_comm _ _
 have h2:(StrLaws.dbl 92 w).length≤2*w.length:=by
  clear h1
  induction w with
  |nil=>exact Nat.le_refl _
  |cons c w ih=>unfold StrLaws.dbl;split<;>simp only[List.length_cons]<;>lia
 unfold textOf
 split
 ·rw[List.length_append,h1];show 2*w.length+2≤_;lia
 ·rw[List.length_append,List.length_append,List.length_append];show 1+_+1+2≤_;lia
theorem Z51(rest:List Nat):∀(w acc:List Nat),lexA 2 acc (bareOf w++rest)=lexA 2 (acc++w) rest
 |[],acc=>by rw[List.append_nil];rfl
 |c::w,acc=>by
  have e:bareOf (c::w)++rest=92::c::(bareOf w++rest):=rfl
  have e2:lexA 2 acc (92::c::(bareOf w++rest))=lexA 2 (acc++[c]) (bareOf w++rest):=by exact rfl
  rw[e,e2,Z51 rest w,List.append_assoc];rfl
theorem Z4Z(rest:List Nat):∀(w acc:List Nat),(∀c∈w,c≠34)→lexA 1 acc (StrLaws.dbl 92 w++rest)=lexA 1 (acc++w) rest
 |[],acc,_=>by rw[List.append_nil];rfl
 |c::w,acc,h=>by
  have ih:=Z4Z rest w (acc++[c]) fun x hx=>h x (.tail _ hx)
  rw[List.append_assoc] at ih
  unfold StrLaws.dbl
  split
  ·rename_i hc;subst hc
   rw[←show _=lexA 1 (acc++92::w) rest from ih]
   simp[lexA]
  ·rename_i hc
   rw[←show _=lexA 1 (acc++c::w) rest from ih]
   have:=h c (.head _)
   simp[lexA,hc,this]
theorem Z9i(h:∀c∈w,c≠34)(h0:w≠[]):∃rest,lexA 0 [] (textOf T w)=(w,rest)∧lexA 0 [] rest=([35],[])∧rest.length≤2:=by
 unfold textOf
 split
 ·cases w with
  |nil=>exact absurd rfl h0
  |cons c w=>
   refine⟨[35],?_,by decide,by decide⟩
   have e:bareOf (c::w)++[10,35]=92::c::(bareOf w++[10,35]):=rfl
   have e2:lexA 0 [] (92::c::(bareOf w++[10,35]))=lexA 2 [c] (bareOf w++[10,35]):=by exact rfl
   rw[e,e2,Z51];rfl
 ·refine⟨[10,35],?_,by decide,by decide⟩
  have e:[34]++StrLaws.dbl 92 w++[34]++[10,35]=34::(StrLaws.dbl 92 w++[34,10,35]):=by simp
  have e2:lexA 0 [] (34::(StrLaws.dbl 92 w++[34,10,35]))=lexA 1 [] (StrLaws.dbl 92 w++[34,10,35]):=by exact rfl
  rw[e,e2,Z4Z _ _ _ h];rfl
theorem Z4m(t:Nat):∀(rs:List Nat) (i:Nat),∀c∈tlT t i rs,c≠34
 |[],_,c,h=>nomatch h
 |r::rs,i,c,h=>by
  rw[tlT,gapT] at h
  rcases List.mem_append.mp h with h | h
  ·rcases List.mem_append.mp h with h | h
   ·rw[List.eq_of_mem_replicate h];decide
   ·rw[List.mem_singleton.mp h]
    have:=Z3a t i
    revert this;generalize wsg t i=c;revert c;decide
  ·rcases List.mem_cons.mp h with rfl | h
   ·exact(Yp (Z1J _)).2.1
   ·exact Z4m t rs (i+1) c h
theorem Z7S(S:List Nat):∀c∈lineOf S,c≠34:=fun c h=>by
 rcases List.mem_cons.mp h with rfl | h
 ·exact(Yp (Z1J _)).2.1
 ·exact Z4m _ _ _ c h
theorem Z4k:∀{n:Nat} {l:List Nat},l.length=n→(∀x∈l,x<m)→l∈tups n m
 |0,l,h,_=>by rw[List.length_eq_zero_iff.mp h];exact .head _
 |n+1,[],h,_=>by cases h
 |n+1,x::l,h,hm=>List.mem_flatMap.mpr ⟨l,Z4k (Nat.succ.inj h) fun y hy=>hm y (.tail _ hy),List.mem_map.mpr ⟨x,List.mem_range.mpr (hm x (.head _)),rfl⟩⟩
theorem Z8h(a b:List Nat):bareW (a++b)=bareW a++bareW b:=List.filter_append ..
theorem Z9U(t i r:Nat):bareW (gapT t i r)=[]:=by
 refine List.filter_eq_nil_iff.mpr fun c hc=>?_
 rw[decide_eq_true_eq]
 rcases List.mem_append.mp hc with h | h
 ·rw[List.eq_of_mem_replicate h];decide
 ·rw[List.mem_singleton.mp h]
  have:=Z3a t i
  revert this;generalize wsg t i=c;revert c;decide
theorem Z5F(i:Nat)(w:List Nat):bareW (ltr i::w)=ltr i::bareW w:=List.filter_cons_of_pos (decide_eq_true (Z1J i))
theorem Z7l(t:Nat):∀(rs:List Nat) (i:Nat),bareW (tlT t i rs)=(List.range' (i+1) rs.length).map ltr
 |[],_=>rfl
 |r::rs,i=>by rw[tlT,Z8h,Z9U,Z5F,Z7l t rs (i+1),List.length_cons,List.range'_succ,List.map_cons];rfl
theorem Z8g(t:Nat)(w:Nat×List Nat):bareW (txtW t w)=lettersW w:=by
 rw[txtW,txt,Z5F,Z7l,lettersW,List.range'_succ,List.map_cons]
theorem Z36(t:Nat)(ws:List (Nat×List Nat)):bareF (ws.map (txtW t))=jn [124] (ws.map lettersW):=by
 rw[bareF,List.map_map]
 exact congrArg _ (List.map_congr_left fun w V=>Z8g t w)
theorem Z5w{α β:Type}{l:List α}{f g:α→List β}(h:∀x∈l,f x=g x):l.flatMap f=l.flatMap g:=by rw[List.flatMap_def,List.flatMap_def,List.map_congr_left h]
noncomputable def wordsT(t:Nat)(rs:List Nat)(k:Nat):List (List Nat):=(wordsR (0,rs) k).map (txtW t)
theorem Z5M(t:Nat)(rs:List Nat)(k:Nat):wordsT t rs (k+1)=(wordsT t rs k).flatMap spF:=by
 rw[wordsT,wordsT,wordsR,List.map_flatMap,List.flatMap_map]
 exact Z5w fun w V=>(Z1c t w).symm
theorem Z8V(t:Nat)(ws:List (Nat×List Nat)):prtF spF (ws.map (txtW t))=partsR ws:=by
 rw[prtF,partsR,List.filter_map,List.map_map]
 have e:(fun w=>(spF w).length !=1)∘txtW t=fun w=>(splitW w).length !=1:=by
  funext w;show((spF (txtW t w)).length !=1)=_;rw[Z1c,List.length_map]
 rw[e]
 refine List.map_congr_left fun w V=>?_
 show bareF (spF (txtW t w))=_
 rw[Z1c,Z36]
theorem Z8U(t:Nat)(rs:List Nat)(R:Nat):prtsF spF (wordsT t rs) R=prtsR rs R:=Z5w fun j V=>Z8V t _
theorem Z8A(t:Nat)(rs:List Nat)(R:Nat):stgsF (wordsT t rs) R=(List.range R).map fun j=>jn [124] ((wordsR (0,rs) (j+1)).map lettersW):=List.map_congr_left fun j V=>Z36 t _
theorem Zb5(t:Nat)(hR:R≤10)(h:patW rs R=true):RndOk spF (wordsT t rs) R where
 rounds:=hR
 next:=Z5M t rs
 few k hk:=by
  have:=List.all_eq_true.mp h k (List.mem_range.mpr (by exact Nat.lt_succ_of_le hk))
  simp only[Bool.and_eq_true,decide_eq_true_eq] at this
  rw[wordsT,List.length_map];exact Nat.le_trans this.1 (by decide)
 word k hk w hw:=by
  have:=List.all_eq_true.mp h k (List.mem_range.mpr (by exact Nat.lt_succ_of_le hk))
  simp only[Bool.and_eq_true,decide_eq_true_eq] at this
  refine Z4 (List.mem_map.mp hw) ?_
  clear hR;rintro v hv rfl
  have h2:=List.all_eq_true.mp this.2 v hv
  simp only[Bool.and_eq_true,decide_eq_true_eq,List.all_eq_true] at h2
  have h3:=Z3i t v.2 v.1 h2.1
  refine⟨by simp[txtW,txt],?_,Z6Z t v⟩
  rw[txtW,txt,List.length_cons];lia
 reads k hk w hw:=by
  refine Z4 (List.mem_map.mp hw) ?_
  clear hw hR;rintro v hv rfl
  rw[Z1c];exact Z0o t v
end
section
theorem Zbi:patAll 4 0=true:=by decide +kernel
theorem Zbh:patAll 4 1=true:=by decide +kernel
theorem Zbg:patAll 4 2=true:=by decide +kernel
theorem Zbf:patAll 4 3=true:=by decide +kernel
theorem Zbe:patAll 5 0=true:=by decide +kernel
theorem Zbd:patAll 5 1=true:=by decide +kernel
theorem Zbc:patAll 5 2=true:=by decide +kernel
theorem Zbb:patAll 5 3=true:=by decide +kernel
theorem Zba:patAll 5 4=true:=by decide +kernel
theorem ZcA:∀x∈List.range 4,patAll 4 x=true:=show∀x∈[0,1,2,3],patAll 4 x=true from ZY Zbi (ZY Zbh (ZY Zbg (Zr Zbf)))
theorem Zcz:∀x∈List.range 5,patAll 5 x=true:=show∀x∈[0,1,2,3,4],patAll 5 x=true from ZY Zbe (ZY Zbd (ZY Zbc (ZY Zbb (Zr Zba))))
end
section
open PySem
theorem Z3s{l:List Nat}(h:l.Pairwise (· < ·))(hj:j<l.length)(hij:i<j):l.getD i 0<l.getD j 0:=by
 rw[List.getD_eq_getElem?_getD,List.getD_eq_getElem?_getD,List.getElem?_eq_getElem hj,List.getElem?_eq_getElem (Nat.lt_trans hij hj)]
 exact List.pairwise_iff_getElem.mp h i j _ hj hij
theorem Z4B{l:List Nat}(h:l.Pairwise (· < ·))(hi:i<l.length)(hj:j<l.length):l.getD i 0<l.getD j 0↔i<j:=by
 rcases Nat.lt_trichotomy i j with z | z | z
 ·exact⟨fun V=>z,fun V=>Z3s h hj z⟩
 ·subst z;exact⟨fun e=>absurd e (Nat.lt_irrefl _),fun e=>absurd e (Nat.lt_irrefl _)⟩
 ·exact⟨fun e=>absurd e (Nat.not_lt.mpr (Nat.le_of_lt (Z3s h hi z))),fun e=>absurd e (Nat.not_lt.mpr (Nat.le_of_lt z))⟩
section
variable{S:List Nat}
noncomputable abbrev rksOf(S:List Nat):List Nat:=ranksOf (powsOf S)
noncomputable abbrev kdsOf(S:List Nat):List Nat:=kindsF (powsOf S)
noncomputable def FF(S:List Nat)(r:Nat):Nat:=if r=0 then 0 else(kdsOf S).getD (r-1) 0
theorem SzOk.sixty(h:SzOk S):∀p∈powsOf S,p<60:=fun p hp=>by have:=(h.pows hp).2;exact Nat.lt_of_le_of_lt this (by decide)
theorem Jv(S:List Nat):(rksOf S).length=S.length-1:=by rw[Yk,Jr]
theorem Zac(hk:k+1<S.length):powOf S k∈powsOf S:=List.mem_map.mpr ⟨k,List.mem_range.mpr (Nat.lt_sub_of_add_lt hk),rfl⟩
theorem Z8N(hk:k+1<S.length):(rksOf S).getD k 0=(kdsOf S).idxOf (powOf S k):=by
 rw[rksOf,ranksOf,List.getD_eq_getElem?_getD,List.getElem?_map,powsOf,List.getElem?_map,List.getElem?_range (Nat.lt_sub_of_add_lt hk)];rfl
theorem SzOk.rk_lt(h:SzOk S)(hk:k+1<S.length):(rksOf S).getD k 0<(kdsOf S).length:=by rw[Z8N hk];exact Z1d h.sixty (Zac hk)
theorem SzOk.kd_rk(h:SzOk S)(hk:k+1<S.length):(kdsOf S).getD ((rksOf S).getD k 0) 0=powOf S k:=by
 have h1:=h.rk_lt hk
 rw[List.getD_eq_getElem?_getD,List.getElem?_eq_getElem h1]
 simp only[Z8N hk] at h1 ⊢
 exact List.getElem_idxOf h1
theorem SzOk.FF_rk(h:SzOk S)(hk:k+1<S.length):FF S ((rksOf S).getD k 0+1)=powOf S k:=by rw[FF,if_neg (by exact Nat.succ_ne_zero _)];exact h.kd_rk hk
theorem SzOk.FF_lt(h:SzOk S){a b:Nat}(ha:a≤(kdsOf S).length)(hb:b≤(kdsOf S).length):FF S a<FF S b↔a<b:=by
 have pos:∀{i},i<(kdsOf S).length→1≤(kdsOf S).getD i 0:=fun{i} hi=>by
  rw[List.getD_eq_getElem?_getD,List.getElem?_eq_getElem hi]
  exact(h.pows ((Jy h.sixty).mp (List.getElem_mem hi))).1
 unfold FF
 by_cases h1:a=0
 ·by_cases h2:b=0
  ·rw[if_pos h1,if_pos h2,h1,h2]
  ·rw[if_pos h1,if_neg h2,h1];exact⟨fun V=>Nat.pos_of_ne_zero h2,fun V=>pos (Nat.lt_of_lt_of_le (Nat.sub_lt (Nat.pos_of_ne_zero h2) (by decide)) hb)⟩
 ·by_cases h2:b=0
  ·rw[if_neg h1,if_pos h2,h2];exact⟨fun h=>absurd h (Nat.not_lt_zero _),fun h=>absurd h (Nat.not_lt_zero _)⟩
  ·rw[if_neg h1,if_neg h2,Z4B (show(kdsOf S).Pairwise (· < ·) from Q9 _) (Nat.lt_of_lt_of_le (Nat.sub_lt (Nat.pos_of_ne_zero h1) (by decide)) ha) (Nat.lt_of_lt_of_le (Nat.sub_lt (Nat.pos_of_ne_zero h2) (by decide)) hb)];exact Nat.sub_lt_sub_iff_right (Nat.pos_of_ne_zero h1)
theorem SzOk.rk_iff(h:SzOk S)(hi:i+1<S.length)(hk:k+1<S.length):(rksOf S).getD i 0<(rksOf S).getD k 0↔powOf S i<powOf S k:=by
 rw[←h.FF_rk hi,←h.FF_rk hk,h.FF_lt (h.rk_lt hi) (h.rk_lt hk)];exact Nat.succ_lt_succ_iff.symm
theorem SzOk.sepX(h:SzOk S):sepX (rksOf S)=true:=by
 refine List.all_eq_true.mpr fun k hk=>List.all_eq_true.mpr fun i hi=>?_
 have hk:=List.mem_range.mp hk
 have hi:=List.mem_range.mp hi
 rw[Jv] at hk
 have hk1:k+1<S.length:=Nat.add_lt_of_lt_sub hk
 have hi1:i+1<S.length:=Nat.lt_of_le_of_lt hi (Nat.lt_of_succ_lt hk1)
 rw[Bool.or_eq_true]
 by_cases e:(rksOf S).getD i 0=(rksOf S).getD k 0
 ·have e2:powOf S i=powOf S k:=by rw[←h.FF_rk hi1,←h.FF_rk hk1,e]
  refine Zm (h.mids.sep hi hk1 e2) fun t t1 t2 t3=>?_
  refine .inr (List.any_eq_true.mpr ⟨t,List.mem_range.mpr t2,?_⟩)
  rw[Bool.and_eq_true,decide_eq_true_eq,decide_eq_true_eq]
  exact⟨t1,(h.rk_iff (Nat.lt_of_le_of_lt t2 (Nat.lt_of_succ_lt hk1)) hi1).mpr t3⟩
 ·exact .inl (bne_iff_ne.mpr e)
theorem SzOk.surB(h:SzOk S):surB (rksOf S) (kdsOf S).length=true:=by
 rw[Mine.Internal.surB,Bool.and_eq_true]
 refine⟨List.all_eq_true.mpr fun r hr=>decide_eq_true ?_,List.all_eq_true.mpr fun r hr=>decide_eq_true ?_⟩
 ·have hr:=List.mem_range.mp hr
  have hn:(kdsOf S).Nodup:=(Q9 _).imp fun h=>Nat.ne_of_lt h
  refine List.mem_map.mpr ⟨(kdsOf S)[r],(Jy h.sixty).mp (List.getElem_mem hr),hn.idxOf_getElem r hr⟩
 ·refine Z4 (List.mem_map.mp hr) ?_
  clear hr;rintro p hp rfl
  exact Z1d h.sixty hp
theorem SzOk.pat(h:SzOk S):patOk (rksOf S) (kdsOf S).length=true:=by
 have h1:(kdsOf S).length≤(powsOf S).length:=JL (powsOf S)
 have h2:=Jr S
 have h3:∀n,S.length-1=n+1→(∀x∈List.range (n+1),patAll (n+1) x=true)→patOk (rksOf S) (kdsOf S).length=true:=fun n hn hp=>by
  have hl:=(Jv S).trans hn
  obtain⟨x,l,e⟩:=List.exists_cons_of_length_eq_add_one hl
  have hm:∀r∈x::l,r<n+1:=fun r hr=>by rw[←e] at hr;rw[←hn];exact(h.ranks hr).1
  have h4:=List.all_eq_true.mp (hp x (List.mem_range.mpr (hm x (.head _)))) l (Z4k (by rw[e] at hl;exact Nat.succ.inj hl) fun r hr=>hm r (.tail _ hr))
  rw[patCk,←e,h.sepX,Bool.not_true,Bool.false_or] at h4
  have h5:=List.all_eq_true.mp h4 (kdsOf S).length (List.mem_range.mpr (Nat.lt_succ_of_le (Nat.le_trans h1 (Nat.le_of_eq (h2.trans hn)))))
  rw[h.surB,Bool.not_true,Bool.false_or] at h5
  exact h5
 have hlo:=h.lo
 have hhi:=h.hi
 rcases(show S.length-1=4∨S.length-1=5 from(Nat.lt_or_ge S.length 6).elim (fun z=>Or.inl (by rw[Nat.le_antisymm (Nat.le_of_lt_succ z) hlo])) fun z=>Or.inr (by rw[Nat.le_antisymm hhi z])) with e | e
 ·exact h3 3 e ZcA
 ·exact h3 4 e Zcz
end
end
section
open PySem PySem.Spec PySem.Calls PyProof.Rows PySem.W PySem.SeqAt
variable{K:Wd}{A:Around}{g:Gh}{n:Nat}{env:Env}{α:Type}
theorem YF(ha:g.mu a=some (sq "list" its m))(h:Q its g):gwp K A (Builtin.List.listItems (.ref a)) Q g:=fun s E ok=>listItems_at (ok.mu _ _ ha) rfl ⟨g,ok,h⟩
theorem JA(ha:g.mu a=some (sq "list" its m))(h1:its.size≤64)(h2:(f its).size≤64)(h:∀m',Q () (g.setMu a (sq "list" (f its) m'))):gwp K A (Builtin.List.listUpdate (.ref a) f) Q g:=fun s E ok=>
 listUpdate_at (ok.mu _ _ ha) rfl ⟨_,ok.sameBut (tk:=s.toks) ha (Heap.SameBut.update s.heap a (Obj.mapSeq f)) (get?_update_seq (ok.mu _ _ ha) f),h _⟩ (Nat.le_trans h1 (by decide)) (Nat.le_trans h2 (by decide))
theorem Z0e(ha:g.mu a=some (sq "list" its m))(h:Q m g):gwp K A (seqEpoch a) Q g:=fun s E ok=>seqEpoch_at (ok.mu _ _ ha) rfl ⟨g,ok,h⟩
theorem LeX.put(l:Le g₀ g)(h:g₀.mu a=none):Le g₀ (g.setMu a o):=(LeX.of (S:=[a]) l).trans LeX.setMu |>.forget (by intro b hb;rw[List.mem_singleton.mp hb];exact .inr h)
theorem Z0b(hac:a≠c)(h:g.mu a=some o):(g.setMu c o').mu a=some o:=(if_neg hac).trans h
theorem Z5g(r:Room A n)(hD:g₀.mu dA=none)(hS:g₀.mu kS=none)(hne:dA≠kS)
  (hb:∀x g (Q:ForInStep PUnit→Gh→Prop),gwp K A (call f [x]) (fun k g₁=>gwp K A (Builtin.List.listUpdate (.ref kS) (·.push k)) (fun V g₂=>Q (.yield ⟨⟩) g₂) g₁) g→gwp K A (body x ⟨⟩) Q g) :
  ∀(vs:List Value) (ds:List D) (done:List KeyP) (g:Gh) (ks:Array Value) (m:Nat),Le g₀ g→Z7 g₀.im ds vs→(∀d∈ds,CallSem K n g₀ f [d] (keyD (kf d)))→g.mu kS=some (sq "list" ks m)→Z7 g.im (done.map keyD) ks.toList→g.mu dA=some (sq "list" #[] mD)→done.length+ds.length≤63→
   (∀g' ks' m',Le g₀ g'→g'.mu kS=some (sq "list" ks' m')→Z7 g'.im ((done++ds.map kf).map keyD) ks'.toList→g'.mu dA=some (sq "list" #[] mD)→Q ⟨⟩ g')→gwp K A (forIn vs PUnit.unit body) Q g
 |[],ds,done,g,ks,m,l,hr,hk,h1,h2,h3,hl,fin=>by
  have:ds=[]:=List.length_eq_zero_iff.mp hr.length.symm
  subst this
  rw[List.forIn_nil]
  exact Z6 (fin g ks m l h1 (by rw[List.map_nil,List.append_nil];exact h2) h3)
 |x::vs,[],done,g,ks,m,l,hr,hk,h1,h2,h3,hl,fin=>by have:=hr.length;cases this
 |x::vs,d::ds,done,g,ks,m,l,hr,hk,h1,h2,h3,hl,fin=>by
  refine Zw (Z1v hr) fun v vs' e rx rv=>?_
  injection e with e e';subst e;subst e'
  rw[List.length_cons] at hl
  rw[List.forIn_cons]
  refine Z0 (hb _ _ _ (Zg (hk d (.head _) g l [x] (Z7.cons (rx.mono l.im) Z7.nil) A r g (LeX.refl _ _)) fun k g₁ l₁ hk₁=>?_))
  have hsz:ks.size≤62:=by rw[←Array.length_toList,h2.length,List.length_map];lia
  refine JA (l₁.at h1) (by exact Nat.le_trans hsz (by decide)) (by rw[Array.size_push];exact Nat.lt_of_le_of_lt hsz (by decide)) fun m'=>?_
  refine Z5g r hD hS hne hb vs ds (done++[kf d]) _ _ m' ((l.trans l₁).put hS) rv (fun y hy=>hk y (.tail _ hy)) ZcI ?_ (Z0b hne (l₁.at h3)) (by rw[List.length_append,List.length_singleton];lia) fun g' ks' m' l h1 h2 h3=>fin g' ks' m' l h1 (by rw[List.append_assoc] at h2;exact h2) h3
  rw[Array.toList_push,List.map_append]
  exact Z7.append (h2.mono l₁.im) (Z7.cons hk₁ Z7.nil)
theorem Z7C(h:Z7 im ds vs)(i:Nat):Zu im (ds.getD i .none) (vs.getD i Value.none):=by
 rw[List.getD_eq_getElem?_getD,List.getD_eq_getElem?_getD]
 cases e:ds[i]? with
 |none=>rw[List.getElem?_eq_none (by rw[h.length];exact List.getElem?_eq_none_iff.mp e)];exact rfl
 |some d=>obtain⟨v,e1,e2⟩:=h.get e;rw[e1];exact e2
theorem Z2H(h:Z7 im ds vs):∀p:List Nat,Z7 im (p.map fun i=>ds.getD i .none) (p.map fun i=>vs.getD i Value.none)
 |[]=>Z7.nil
 |i::p=>Z7.cons (Z7C h i) (Z2H h p)
theorem Z2U{s:Shared}(ok:∀a o,im a=some o→s.heap.get? a=some o):∀{ks:List KeyP} {vs:List Value},Z7 im (ks.map keyD) vs→∃fs,KatTups s.heap vs fs∧fs.length=ks.length∧∀v∈fs,∃x t,v=.str x t
 |[],vs,h=>by
  have:vs=[]:=h
  subst this;exact⟨[],KatTups.nil,rfl,fun V h=>nomatch h⟩
 |k::ks,vs,h=>by
  refine Zw (Z1v h) ?_
  clear h;rintro v vs' rfl h1 h2
  refine ZO (J1.mp h1) ?_
  rintro a its m rfl e2 rs
  refine Zw (Jn rs) fun v1 v2 e3 p1 p2=>?_
  refine Zi (Zz p1) ?_
  clear p2 p1 rs;rintro t rfl
  refine Zm (Z2U ok h2) fun fs f1 f2 f3=>?_
  refine⟨.str (S k.1) t::fs,KatTups.cons (ok _ _ e2) rfl rfl (by rw[←Array.getElem?_toList,e3];rfl) f1,by exact congrArg _ f2,fun v hv=>?_⟩
  rcases List.mem_cons.mp hv with rfl | hv
  ·exact⟨_,_,rfl⟩
  ·exact f3 v hv
noncomputable def sortF(ks:List KeyP)(ds:List D):List D:=(permF ks).map fun i=>ds.getD i .none
theorem Z3Q{dA:Addr}(r:Room A n)(h2:2≤ds.length)(h63:ds.length≤63)(hbd:bdB ds.length (kas_sort ds.length)=true)(l:Le g₀ g)(hD0:g₀.mu dA=none)(hD:g.mu dA=some (sq "list" its m))(rs:Z7 g₀.im ds its.toList)
  (hk:∀d∈ds,CallSem K n g₀ f [d] (keyD (kf d)))(h:∀g' out m',Le g₀ g'→g'.mu dA=some (sq "list" out m')→Z7 g'.im (sortF (ds.map kf) ds) out.toList→Q (.done (.ret .none)) g'):gwp K A (ksk_tree dA f false) Q g:=by
 have hsz:its.size=ds.length:=by rw[←Array.length_toList,rs.length]
 refine Z0 (YF hD (Z0 (JA hD (by lia) (Nat.zero_le _) fun m₁=>Z0 (Z0e ZcI ?_))))
 have l₁:=l.put (o:=sq "list" #[] m₁) hD0
 refine Z0 (QQ (T:= "tuple") (by rw[Array.length_toList];exact Nat.le_trans (show _≤63 by exact hsz▸h63) (by decide)) fun th t1 t2=>Z0 (JZ (T:= "list") (vs:=[]) (Nat.zero_le _) fun kS k1 k2=>Zs ?_))
 have l₂:Le g₀ (((g.setMu dA (sq "list" #[] m₁)).addIm th (sq "tuple" its.toList.toArray 0)).setMu kS (sq "list" #[] 0)):=(l₁.trans (Le.addIm t1)).trans (ZcL k2)
 have hne:dA≠kS:=fun e=>ZR (ZcI (g:=g) (a:=dA) (o:=sq "list" #[] m₁)) (e▸k2)
 have hS0:g₀.mu kS=none:=Le.nomu (l₁.trans (Le.addIm t1)) k2
 refine Z0 (Z1T ?_)
 rw[←Array.forIn_toList]
 refine Z0 (Z5g (g₀:=g₀) (kf:=kf) (mD:=m₁) r hD0 hS0 hne (fun x g Q hx=>Z0 (Z5o (Za hx fun k g₁ h₁=>Z0 (Za h₁ fun V g₂ hq=>Z6 hq)))) its.toList ds [] _ #[] 0 l₂ rs hk ZcI Z7.nil (Z0b hne ZcI) (by rw[List.length_nil];exact Nat.add_le_add_left h63 _) fun g' ks' m' l₃ e1 e2 e3=>?_)
 refine Z0 (YF e1 ?_)
 rw[List.nil_append] at e2
 have hlen:ks'.toList.length=its.toList.length:=by rw[e2.length,rs.length,List.length_map,List.length_map]
 have hn2:¬its.size<2:=by lia
 unfold ksk_end
 simp only[Bool.false_eq_true,if_false,if_neg hn2]
 intro s E ok
 refine Zm (Z2U (s:=s) ok.im e2) fun fs f1 f2 f3=>?_
 refine wpAny_bind (kat_kind (T:=.type "str") f1 (by rw[f2,List.length_map];exact Nat.le_of_lt h2) (fun v hv=>?_) (by decide) ?_)
 ·refine QD (f3 v hv) ?_
  clear hv f3 f2 hn2 l₂ k2 k1 t2 t1 l₁ hsz hk hD h63;rintro x t rfl
  exact .now
 have hr:∀i,i<ds.length→Zu g'.im (keyD ((ds.map kf).getD i ([],0))) (ks'.toList.getD i Value.none):=fun i hi=>by
  clear f3 f2 hn2 l₂ k2 k1 t2 t1 l₁ hsz hk hD h63;obtain⟨v,e4,e5⟩:=e2.get (i:=i) (d:=keyD ((ds.map kf).getD i ([],0))) (by rw[List.getElem?_map,List.getD_eq_getElem?_getD,List.getElem?_map,List.getElem?_eq_getElem hi];rfl)
  rw[List.getD_eq_getElem?_getD (l:=ks'.toList),e4];exact e5
 refine wpAny_bind (wpAny_mono (kat_run (ks:=ks'.toList) (vs:=its.toList) (Q:=fun st' s'=>∃p:Array Nat,p.size=its.toList.length∧arrOf st'=p.map (kas_item ((List.toArray ks'.toList).zip (List.toArray its.toList)))∧failedOf st'=none∧p.toList=permF (ds.map kf)∧∃g₅:Gh,g₅.Ok K.B s'∧Le g' g₅)
  (G:=fun p s'=>p.toList=permF (ds.map kf)∧∃g₅:Gh,g₅.Ok K.B s'∧Le g' g₅) hlen (by rw[rs.length];exact h2) (by rw[rs.length];exact Nat.lt_of_le_of_lt h63 (by decide)) (fun p st' s' a1 a2 a3 a4=>⟨p,a1,a2,a3,a4.1,a4.2⟩)
  (by
   rw[rs.length]
   refine Z2V (n:=ds.length) (lt:=fun i j=>keyLtB ((ds.map kf).getD i ([],0)) ((ds.map kf).getD j ([],0))) (I:=fun s'=>∃g₅:Gh,g₅.Ok K.B s'∧Le g' g₅) (fun i j s C hi hj z hC=>Z4 z fun g₅ ok₅ l₅=>?_) (kas_sort ds.length) s hbd ⟨g',ok,LeX.refl _ _⟩ fun s' hi=>⟨by rw[permF,List.length_map],hi⟩
   exact ZbH (g:=g₅) ((hr i hi).mono l₅.im) ((hr j hj).mono l₅.im) r ok₅ fun g₆ s' ok₆ l₆=>hC s' ⟨g₆,ok₆,l₅.trans l₆⟩)) ?_ fun V V x=>x)
 rintro⟨⟨⟩,st'⟩ s' ⟨p,hps,har,hf,hp,g₅,ok₅,l₅⟩
 have fin:gwp K A (ksk_tail dA false m₁ (.ref kS) st') Q g₅:=by
  unfold ksk_tail
  dsimp only
  rw[kat_snds hlen har,hp]
  have hks:ks'.size≤64:=by rw[←Array.length_toList,hlen,rs.length];exact Nat.le_trans h63 (by decide)
  have hr2:=Z2H (rs.mono (l₃.trans l₅).im) (permF (ds.map kf))
  refine Z0 (JA (l₅.at e1) hks (Nat.zero_le _) fun m₂=>Z0 (Z0y (Z0 (Z0e (Z0b hne (l₅.at e3)) (Z0 (JA (Z0b hne (l₅.at e3)) (Nat.zero_le _) ?_ fun m₃=>?_))))))
  ·show(List.toArray _).size≤_
   rw[List.size_toArray,List.length_map,←hp,Array.length_toList,hps,rs.length];exact Nat.le_trans h63 (by decide)
  ·rw[hf]
   simp only[bne_self_eq_false,Bool.false_eq_true,if_false]
   exact Z6 (h _ _ m₃ (((l₃.trans l₅).put hS0).put hD0) ZcI hr2)
 exact fin s' E ok₅
theorem Z57(r:Room A (n+2))(h2:2≤ds.length)(h63:ds.length≤63)(hbd:bdB ds.length (kas_sort ds.length)=true)(hv:Zu g.im (.lst ds) v)
  (hk:∀d∈ds,CallSem K n g f [d] (keyD (kf d)))(h:∀g' u,Le g g'→Zu g'.im (.lst (sortF (ds.map kf) ds)) u→Q u g')(ht:∀x,Builtin.«list.sort» ⟨[.ref x],[(Str.ofString "key",f)]⟩=ksk_tree x f false):gwp K A (call (.builtin "sorted") [v] [(Str.ofString "key",f)]) Q g:=fun s E ok=>by
 refine ZO (Zj.mp hv) ?_
 rintro l its m rfl e rs
 have hsz:its.toList.length≤sizeLine:=by rw[rs.length];exact Nat.le_trans h63 (by decide)
 refine call_function_entry_kw kind_sorted plain_sorted entry_sorted (ksk_s1 _ _) ?_
 refine wpAny_bind (m:=checkCount "sorted" 1 1 _) (wpAny_pure ?_)
 refine wpAny_bind (collect_list (vs:=its.toList) ⟨_,ok.im _ _ e,rfl,m,by exact rfl⟩ ?_ hsz)
 refine wpAny_bind (wpAny_newList ?_ hsz)
 have ok₁:=ok.keeps (tk:=s.toks) (h':=(s.heap.push (seqObj "list" #[] 0)).update s.heap.objs.size (Obj.mapSeq (·++its.toList.toArray))) fun b o q=>by
  have hlt:b<s.heap.objs.size:=Heap.lt_size q
  rw[Heap.get?_update_ne _ _ _ _ (Nat.ne_of_lt hlt),Heap.get?_push_ne _ _ _ (Nat.ne_of_lt hlt)]
  exact q
 have ok₂:=ok₁.pushMu (o:=sq "list" its.toList.toArray 0) rfl
 have fr:=ok₁.fresh
 refine wpAny_bind (wpAny_holding (wpAny_call_entry_kw slot_list_sort ⟨_,ok₂.mu _ _ ZcI,rfl⟩ entry_list_sort ?_ (ksk_l1 _ _)))
 rw[ht]
 refine Zn (Z3Q (g₀:=g) (n:=n) (A:=A.in1.in1) (Q:=fun fin g'=>fin=.done (.ret .none)∧∃out m',Le g g'∧g'.mu _=some (sq "list" out m')∧Z7 g'.im (sortF (ds.map kf) ds) out.toList) r.in1.in1 h2 h63 hbd (ZcL fr.2) fr.2 ZcI rs hk (fun g' out m' a b c=>⟨rfl,out,m',a,b,c⟩) _ _ ok₂) fun fin s' g' ok' z=>?_
 obtain⟨rfl,out,m',l',e',rs'⟩:=z
 refine⟨_,rfl,wpAny_pure ⟨_,rfl,?_⟩⟩
 have hi:g'.im _=none:=ok'.noIm e'
 exact⟨_,ok'.fix e',h _ _ ((LeX.of (S:=[_]) l').trans (LeX.fix hi) |>.forget (by intro b hb;rw[List.mem_singleton.mp hb];exact .inr fr.2)) (Zj.mpr ⟨_,out,m',rfl,ZcO,rs'.mono (LeX.fix hi).im⟩)⟩
end
section
open PySem PySem.Spec PySem.Calls PyProof.Rows PySem.W PySem.SeqAt
variable{K:Wd}{A:Around}{g:Gh}{n:Nat}{env:Env}{α:Type}
variable{b:Gh}{S':List Addr}{fn:List Nat}{cs:List Addr}{nm:List (Str×NameKind)}{σ σ':List (Option D)}{own own':List (Addr×MO)}
theorem Z5f(M:ModB K.B)(hgl:env.globals=mainGlobals)(hcl:closureFor scope env=pure [])
  (hc:env.code=.ref c)(ht:(c,P)∈K.B.tabs)(hq:K.B.qn pos.line pos.col=some q)(hqq:env.qual++ "<lambda>" = q)
  (h:∀a g' c' pm ct,FnAt g' a (kla_fn "<lambda>" q params body scope [] pm (.ref c') ct)→Le g g'→Q (.ref a) g')
  (hdef:autoParam (defaultsOf params env=([],[])) Z5)(hkw:autoParam (params.kwonlyargs=[]) Z5):gwp K A (eval (.Lambda params body scope pos) env) Q g:=by
 rw[arm_eval_Lambda,hdef]
 show gwp K A (do let dv ←evalAll [];let kdv ←holding dv (evalAllOpt []);makeFunction "<lambda>" (env.qual++ "<lambda>") params (.expr body) scope env dv kdv [] pos pos.line) Q g
 refine Z0 (Z6 (Z0 (Zs (Z6 ?_))))
 rw[hqq]
 refine YS M hkw hgl hcl hc ht hq (fun b hb=>by cases hb) fun g' c' pm ct l hrec=>?_
 refine fun s E ok=>wpAny_newObj_type (T:= "function") (dict:=none) ⟨_,ok.pushIm (o:=fnObj _) rfl,h _ _ c' pm ct ⟨⟨_,.inl ZcJ,rfl⟩,?_⟩ (l.trans (Le.addIm ok.fresh.1))⟩ (by trivial)
 refine ZO hrec fun oc vs tq e1 e2 e3=>?_
 exact⟨c',oc,vs,tq,rfl,.inl ((Le.addIm ok.fresh.1).im _ _ e1),e2,e3⟩
theorem Z5n
  (r:Room A (n+2))(hf:FnAt g a fd)(hbody:fd.body=.expr body)(hbind:BindTo K fd ⟨vals,[]⟩ binds g)(hcl:fd.closure=[])
  (hn:NamesOk fd.scope.names)(hsrc:srcOk [] fd.scope.names src=true)(hg:GlobsAre K.B fd.scope.names src)(hnf:∀x∈fd.scope.names,x.2≠NameKind.free)(hb:BindOk fd.scope.names fn g.im binds bi)
  (h:∀A' L cells cs g',Room A' n→Frm K g S' fn cs (fnEnv fd a L cells) fd.scope.names (bindSt (srcSt [] src) bi) [] g'→gwp K A' (eval body (fnEnv fd a L cells)) Q g')
  (hgl:autoParam (fd.globals=mainGlobals) Z5)(hbu:autoParam (fd.builtins=builtinsNs) Z5)(hco:autoParam (fd.scope.isCoroutine=false) Z5)(hgen:autoParam (fd.scope.isGenerator=false) Z5)(hk:autoParam (fd.scope.kind=.function) Z5) :
  gwp K A (call (.ref a) vals) Q g:=JC fun s E ok=>by
 refine Z4 hf.obj fun o ho hd=>?_
 refine Z6Y hf.code fun c oc vs tq c1 c2 c3 c4=>?_
 have key:=hbind A.in1 (fun bs g₁=>gwp K A.in1 (newFunctionEnv fd.scope mainGlobals fd.closure bs (fd.qualname++ ".<locals>.") (some a) fd.code none builtinsNs)
   (fun env g'=>∃L cells cs,env=fnEnv fd a L cells∧Frm K g S' fn cs env fd.scope.names (bindSt (srcSt [] src) bi) [] g') g₁)
  (YR hn hk (J7 hsrc) (Jh hsrc hg) (by rw[hcl];exact ClosOk.nil hnf) hb (by intro V e;cases e) fun L cells cs g' h1 h2 h3 F=>⟨L,cells,cs,rfl,F⟩)
 refine kla_callFunE r.depth (ho.get ok) hd hco hgen hbody ⟨c,oc,vs,tq,c1,c2.get ok,c3,c4⟩ ?_
 rw[hgl,hbu]
 refine Zn (key s _ ok) fun bs s₁ g₁ ok₁ h₁=>Zn (h₁ s₁ _ ok₁) fun env s₂ g' ok' z=>⟨ok'.nolimit,kla_codeExpr ?_⟩
 refine Za4 z ?_
 clear z h₁ key c4 hb hnf hsrc hcl hbind;rintro L cells cs rfl F
 exact h _ L cells cs g' ((r.sub (Nat.le_succ _)).deeper) F s₂ _ ok'
theorem Z6h(h2:2≤ds.length)(h63:ds.length≤63)(hbd:bdB ds.length (kas_sort ds.length)=true)(hf:Pe K (n+2) g (eval fe env) (.raw (.builtin "sorted")))(he:Pe K (n+2) g (eval e env) (.lst ds))
  (hl:∀A g',Room A (n+2)→Le g g'→gwp K A (eval lam env) (fun u g''=>Le g' g''∧(∃a,u=.ref a)∧∀d∈ds,CallSem K n g'' u [d] (keyD (kf d))) g')
  (hst:autoParam (starEach [e] env=(false,eval e env)::starEach [] env) Z5)(he0:autoParam (backTo pos (starEach [e] env)=(false,eval e env)::backTo pos (starEach [] env)) Z5)(hp:autoParam ((backTo pos (starEach [e] env)).any (·.1)=false) Z5)
  (hc:autoParam (eval (.Call fe [e] [⟨some (Str.ofString "key"),lam,kp⟩] pos) env=(do callWith pos (←eval fe env) [] (backTo pos (starEach [e] env)) (backToKw pos (keywordEach [⟨some (Str.ofString "key"),lam,kp⟩] env)))) Z5) :
  Pe K (n+2) g (eval (.Call fe [e] [⟨some (Str.ofString "key"),lam,kp⟩] pos) env) (.lst (sortF (ds.map kf) ds)):=fun A r g₁ l=>by
 rw[hc]
 refine Z0 (Zg (hf A r g₁ l) fun f' g₂ l₂ p=>?_)
 rw[Zk p]
 intro s E ok
 have l12:=l.trans l₂
 have hi:gwp K A (spliced (backTo pos (starEach [e] env))) (fun vs g'=>∃v,vs=[v]∧Le g₂ g'∧Zu g'.im (.lst ds) v) g₂:=Zb (he.le l12 |>.use r fun v g₃ l₃ hv=>Zd ⟨v,rfl,l₃,hv⟩) hst
 refine callWith_kw (Zn (hi s E ok) fun vs s' g₃ ok₃ z=>?_) he0 hp
 refine Zm z ?_
 clear hi p hc hp he0 hst he hf;rintro v rfl l₃ hv
 refine kws_cons (Zn (hl A g₃ r (l12.trans l₃) s' E ok₃) fun u s'' g₄ ok₄ z=>kws_nil ?_)
 refine Z0K z ?_
 clear z hl;rintro l₄ ⟨a,rfl⟩ hk
 exact Z57 r h2 h63 hbd (hv.mono l₄.im) hk (fun g' w l' hw=>⟨l₂.trans (l₃.trans (l₄.trans l')),hw⟩) (ksk_t1 a) s'' E ok₄
theorem Z49(c:Nat):∀x:List Nat,(StrLaws.dbl c x).length≤2*x.length
 |[]=>Nat.le_refl _
 |k::x=>by
  have:=Z49 c x
  unfold StrLaws.dbl;split<;>simp only[List.length_cons]<;>lia
theorem Z91{i k0 k1 k2:Nat}(F:Frm K b S' fn cs env nm σ own g)(h:nm[i]? = some (xn,NameKind.local))(hd:σ[i]? = some (some (.str x)))(hx:q.length+2*x.length≤10000)
  (hbase:autoParam (attributeBase (.Name xn px) "replace" env (eval (.Name xn px) env)=eval (.Name xn px) env) Z5)(hline:autoParam ((ap.endLine==cp.line)=true) Z5)
  (hfew:autoParam (((backTo cp (starEach [.Constant (.str ⟨#[c]⟩) k1 p1,.Constant (.str ⟨#[c,c]⟩) k2 p2] env)).all (fun x=>!x.1)&&(backToKw cp (keywordEach [] env)).all (fun x=>x.1.isSome)
   &&decide (2+([]:List Keyword).length+(if([]:List Keyword).isEmpty then 0 else 1)<30))=true) Z5)
  (hp:autoParam ((backTo cp (starEach [.Constant (.str ⟨#[c]⟩) k1 p1,.Constant (.str ⟨#[c,c]⟩) k2 p2] env)).any (·.1)=false) Z5) :
  Pe K n g (eval (.BinOp (.Constant (.str ⟨q.toArray⟩) k0 p0) .Add (.Call (.Attribute (.Name xn px) "replace" ap) [.Constant (.str ⟨#[c]⟩) k1 p1,.Constant (.str ⟨#[c,c]⟩) k2 p2] [] cp) bp) env) (.str (q++StrLaws.dbl c x)):=fun A r g₁ l s E ok=>by
 have F':=F.up l
 refine wpAny_BinOp (wpAny_Constant_str ?_)
 refine wpAny_Call_method hbase hfew hline PySem.F.plainAttrs_str PySem.F.slot_str_replace PySem.F.type_str_replace (wpAny_Name (Zw F'.loc fun o f e hh rr=>Z4 (rr i xn _ h hd) fun v e1 e2=>wpAny_loadName_local F'.kind (F'.kindOf h) (hh.ns ((ok.tok _).mu _ _ e)) e1 ?_) (F.dbg h))
 refine Zi (Zz e2) ?_
 rintro t rfl
 refine⟨typeIs_str _ _ _,fun a e=>(by cases e),?_⟩
 refine callWith_builtin_kwB hp rfl (evalArgs_plain (wpAny_items_cons (wpAny_Constant_str (wpAny_items_cons (wpAny_Constant_str (wpAny_items_nil ?_))))))
 refine SC.replaceW (Nat.succ_ne_zero _) (Nat.succ_ne_zero _) (Nat.ne_of_lt (Nat.lt_succ_self _)) ?_ ?_ ?_ fun t' k=>?_
 ·exact beq_eq_false_iff_ne.mpr (by simp)
 ·rw[Jp];lia
 ·exact(by decide:2≤14)
 ·rw[replace_dbl (S x) _ _ c rfl rfl]
  refine Zn (Jf (K:=K) (n:=n) (x:=q) (y:=StrLaws.dbl c x) ?_ g₁ (LeX.refl _ _) _ _ ZU ZU A r g₁ (LeX.refl _ _) _ E (ok.tok _)) fun v s' g' ok' z=>⟨g',ok',z⟩
  have:=Z49 c x
  exact Nat.le_trans (show _≤10000 by lia) (by decide)
noncomputable def lawFn:List Nat:=[1,2,3,4,6,7,8,9,13,17,18]
noncomputable def lawG:List (Option D):=(srcSt [] (mkSrcs GT sr_law)).drop 19
noncomputable abbrev lawEnv(L:Addr)(cells:List (Str×Addr)):Env:=newEnv (scopeOf st_law) L mainGlobals cells ("law"++ ".<locals>.") (some a_law) (.ref c_law) none builtinsNs
noncomputable abbrev LF(K:Wd)(b:Gh)(cs:List Addr)(L:Addr)(cells:List (Str×Addr))(σ:List (Option D))(own:List (Addr×MO))(g:Gh):Prop:=Frm K b [] lawFn cs (lawEnv L cells) (scopeOf st_law).names σ own g
theorem Z7T(h:N≤6):([97,98,99,100,101,102]:List Nat).take N=letsF N:=(by decide:∀k,k<7→([97,98,99,100,101,102]:List Nat).take k=letsF k) N (Nat.lt_succ_of_le h)
theorem Z9a(S:List Nat):(S.map fun x:Nat=>(x:Int)).sum=(S.sum:Nat):=by
 induction S with
 |nil=>rfl
 |cons s S ih=>rw[List.map_cons,List.sum_cons,ih,List.sum_cons,Int.natCast_add]
theorem Z0s{S:List Nat}(h:k<S.length):((S.map fun x:Nat=>D.int x))[k]? = some (.int (S.getD k 0:Nat)):=by
 rw[List.getElem?_map,List.getElem?_eq_getElem h,List.getD_eq_getElem?_getD,List.getElem?_eq_getElem h];rfl
theorem QG(h:d∈rgD 0 n):∃k:Nat,k<n∧d=.int k:=Zm (Z3t h) fun k V h2 h3=>⟨k,Nat.zero_add n▸h2,h3⟩
theorem QH(n:Nat)(f:D→D):(rgD 0 n).map f=(List.range n).map fun k:Nat=>f (.int (k:Int)):=by
 simp[rgD,List.range_eq_range',List.map_map,Function.comp_def]
noncomputable def lawS1(S:List Nat):List (Option D):=[none,some (natsI S),some (.int S.sum),some (.str (letsF S.length)),some (natsI ((List.range S.length).map (midF S)))]
theorem Z7k{S:List Nat}(hb:∀s∈S,s≤1000000)(hl:S.length≤1000):CallSem K n g (.builtin "sum") [natsI S] (.int S.sum):=by
 have:=ZaA (K:=K) (n:=n) (g:=g) (ns:=S.map fun x:Nat=>(x:Int)) (fun x hx=>by obtain⟨s,hs,rfl⟩:=List.mem_map.mp hx;exact⟨Int.natCast_nonneg _,Int.ofNat_le.mpr (hb s hs)⟩) (by rw[List.length_map];exact hl)
 rw[Z9a,List.map_map] at this
 exact this
theorem Zck(X:WX K){ds:List Int}(hds:ds.length≤63)
  (F:LF K b cs L cells (bindSt (srcSt [] (mkSrcs GT sr_law)) [(0,.lst (ds.map .int))]) [] g)(r:Room A (n+2))
  (k:∀g':Gh,LF K b cs L cells (lawS1 (sizesOf ds)++List.replicate 14 none++lawG) [] g'→gwp K A (execs ((bodyOf st_law).drop 3) (lawEnv L cells)) Q g') :
  gwp K A (execs (bodyOf st_law) (lawEnv L cells)) Q g:=by
 have hS:=Z4x ds
 refine JX (i:=1) (d:=natsI (sizesOf ds)) F r rfl (by decide) ((ZN (p:=fun V=>true) (f:=fun d=>match d with | .int x=>.int ((1+x.fmod 1000).toNat:Nat) | d=>d) F
  (Qe (ds:=(drawn ds).map .int) ((Z8 (Q5 (pn F 0) J2 (Qd Z9) J2 (by decide) ?_) (Q5 (Yn (Z1 Z9 (Z1 Z9 (Z1 Z9 (Z1 Z9 (Z1 Z9 Z2)))))) (Qd (Zt (pn F 19) (fun a z=>by cases z) (Z1 (pn F 0) Z2) (ZD (by rw[List.length_map];exact Nat.lt_of_le_of_lt hds (by decide))))) J2 J2 (by decide) (by exact Nat.le_of_ble_eq_true rfl)) (Z1e ?_)).is ?_)).pit ZZ
  (ZcM (mkSrcs GT [.no,.no]) 1 (by decide +kernel) (Z3 X.gt (by decide +kernel)) (.inl (by decide +kernel)) rfl fun d hd b g' env' cs' lb lb' F1 V V henv=>?_) ?_).is ?_) fun g₁ l₁ F=>?_
 ·rw[List.length_map];exact ZB (by exact Nat.le_trans hds (by decide))
 ·rw[show(6:Int)=((6:Nat):Int) from rfl,Z08,Z2L,List.length_take,List.length_drop,List.length_map]
  exact ZB (show min 6 ds.length+(5-ds.length)≤1000 from Nat.le_trans (Nat.add_le_add (Nat.min_le_left _ _) (Nat.sub_le _ _)) (by decide))
 ·rw[show(6:Int)=((6:Nat):Int) from rfl,Z08,Z2L,List.length_map,drawn,List.map_append,List.map_take,List.map_drop];rfl
 ·obtain⟨L',cells',rfl⟩:=henv
  obtain⟨x,hx,rfl⟩:=List.mem_map.mp hd
  refine⟨Zv,fun V=>(Z8 Z9 (Z8 (pn F1 1) Z9 (Z3F (by decide))) ZQ).is (congrArg D.int ?_)⟩
  have h1:0≤x.fmod 1000:=Int.fmod_nonneg_of_pos _ (by decide)
  exact(Int.toNat_of_nonneg (Int.add_nonneg (show(0:Int)≤1 by decide) h1)).symm
 ·rw[List.length_map];exact ZB (by have:=(Z0G ds).2;exact Nat.le_trans this (by decide))
 ·rw[List.filter_eq_self.mpr (fun V V=>rfl),List.map_map,natsI,sizesOf,List.map_map];rfl
 generalize sizesOf ds=S at *
 have hN:=hS.hi
 have hlen:(S.map fun x:Nat=>D.int x).length=S.length:=List.length_map _
 have hsum:CallSem K (n+2) g₁ (.builtin "sum") [natsI S] (.int S.sum):=Z7k (fun s hs=>by have:=hS.each s hs;exact Nat.le_trans this.2 (by decide)) (by exact Nat.le_trans hN (by decide))
 refine Yr (d₁:=.int S.sum) (d₂:=.str (letsF S.length)) F r ((J4 (Z1 (Zt (pn F 20) (fun a z=>by cases z) (Z1 (pn F 1) Z2) hsum) (Z1 (Z4R (Zy (l:=[97,98,99,100,101,102]) rfl) (Zt (pn F 19) (fun a z=>by cases z) (Z1 (pn F 1) Z2) (ZD (by rw[hlen];exact Nat.lt_of_le_of_lt hN (by decide)))) ?_ (by decide)) Z2))).is ?_) (Tgt.pair (Tgt.cel (i:=2) rfl (by decide)) (Tgt.cel (i:=3) rfl (by decide))) fun g₂ l₂ F=>?_
 ·rw[hlen];exact hN
 ·rw[hlen,Z7T hN]
 refine JX (i:=4) (d:=natsI ((List.range S.length).map (midF S))) F r rfl (by decide) ((ZN (p:=fun V=>true) (f:=fun d=>match d with | .int k=>.int (midF S k.toNat:Nat) | d=>d) F
  (ZS (k:=S.length) (pn F 21) ((Zt (pn F 19) (fun a z=>by cases z) (Z1 (pn F 1) Z2) (ZD (by rw[hlen];exact Nat.lt_of_le_of_lt hN (by decide)))).is (by rw[hlen])) (by exact Int.natCast_nonneg _) (by exact Int.ofNat_le.mpr (Nat.le_trans hN (by decide)))).pit ZZ
  (ZcM (mkSrcs GT [.no,.no,.glob 23,.outer 1]) 1 (by decide +kernel) (Z3 X.gt (by decide +kernel)) (.inl (by decide +kernel)) rfl fun d hd b g' env' cs' lb lb' F1 V V henv=>?_) (by rw[J9];exact ZB (by exact Nat.le_trans hN (by decide)))).is ?_) fun g₃ l₃ F=>k g₃ (F.lessN (is:=[0]))
 ·obtain⟨L',cells',rfl⟩:=henv
  obtain⟨j,hj,rfl⟩:=QG hd
  have hj:j<S.length:=hj
  have hT:=hS.tot
  have hTk:=Z0O S j
  refine⟨Zv,fun V=>(Z8 (d₁:=.int (2*((S.take j).sum:Nat))) (d₂:=.int (S.getD j 0:Nat)) (Z8 (d₂:=.int ((S.take j).sum:Nat)) Z9 (Zt (ds:=[natsI (S.take j)]) (pn F1 2) (fun a z=>by cases z) (Z1 ((Q5 (l:=S.map fun x:Nat=>.int x) (hi:=some (j:Int)) (pn F1 3) J2 (Qd (pn F1 1)) J2 (by decide) (by rw[hlen];exact ZB (by exact Nat.le_trans hN (by decide)))).is ?_) Z2) (Z7k (fun s hs=>?_) (by rw[List.length_take];lia))) (Jq (JN (by decide) (by rw[Int.natAbs_natCast];exact Nat.lt_of_le_of_lt (Nat.le_trans (Nat.le_trans (Nat.le_add_right _ _) hTk) hT.2) (by decide))))) (Jb (l:=S.map fun x:Nat=>.int x) (i:=(j:Int)) (pn F1 3) (pn F1 1) (Z0s hj) (by rw[hlen];exact Nat.lt_of_le_of_lt hN (by decide))) ZQ).is (congrArg D.int ?_)⟩
  ·rw[Z08,natsI,List.map_take]
  ·have:=hS.each s (List.mem_of_mem_take hs);exact Nat.le_trans this.2 (by decide)
  show 2*((S.take j).sum:Int)+(S.getD j 0:Nat)=_
  unfold midF;rw[Int.toNat_natCast];push_cast;rfl
 ·rw[List.filter_eq_self.mpr (fun V V=>rfl),QH,natsI,List.map_map];rfl
theorem SzOk.differ{S:List Nat}(h:SzOk S)(hik:i<k)(hk:k<S.length):true∈List.zipWith (fun x y=>!(x==y)) (rowOf S i) (rowOf S k):=by
 refine List.idxOf_lt_length_iff.mp (Nat.lt_of_le_of_lt (h.mids.place hik hk).2.1 ?_)
 rw[List.length_zipWith,rowOf,rowOf,Y4,Y4,Nat.min_self];exact Nat.le_refl _
theorem JU(S:List Nat)(k:Nat):(rowOf S k).length=2*bl S.sum+1:=Y4 _ _ _
theorem Zab(k:Nat):((-1:Int)^k=1)∨((-1:Int)^k = -1):=by
 induction k with
 |zero=>exact .inl rfl
 |succ k ih=>
  rw[Int.pow_succ]
  rcases ih with e | e
  ·rw[e];exact .inr rfl
  ·rw[e];exact .inl rfl
noncomputable def toldE(S:List Nat)(k:Nat):D:=.tup [natsI (rowOf S k),.int (leftF (midF S k) S.sum (2*bl S.sum):Nat)]
noncomputable def lawS2(S:List Nat):List (Option D):=lawS1 S++[none,some (.lst ((List.range S.length).map fun k=>natsI (rowOf S k))),some (natsI (powsOf S))]
theorem Z9g(l:List Nat):Lk (k+1) (natsI l) (natsI l) true:=YP (Yq fun V=>Qh)
theorem Zaj{S:List Nat}(hj:j<S.length):((((List.range S.length).map (midF S)).map fun x:Nat=>D.int x))[j]? = some (.int (midF S j:Nat)):=by
 rw[List.map_map,List.getElem?_map,List.getElem?_range hj];rfl
theorem Zcj(X:WX K){S:List Nat}(hS:SzOk S)(r:Room A (n+300))
  (F:LF K b cs L cells (lawS1 S++List.replicate 14 none++lawG) [] g)
  (k:∀g':Gh,LF K b cs L cells (lawS2 S++List.replicate 11 none++lawG) [] g'→gwp K A (execs ((bodyOf st_law).drop 7) (lawEnv L cells)) Q g') :
  gwp K A (execs ((bodyOf st_law).drop 3) (lawEnv L cells)) Q g:=by
 have hN:=hS.hi
 have hT:=hS.tot
 have hlen:(S.map fun x:Nat=>D.int x).length=S.length:=List.length_map _
 have hlt:=hS.mids.lt
 refine Z1Q (i:=5) (p:=fun V=>true) (f:=fun d=>match d with | .int k=>toldE S k.toNat | d=>d) F r rfl
  (ZS (k:=S.length) (pn F 21) ((Zt (pn F 19) (fun a z=>by cases z) (Z1 (pn F 1) Z2) (ZD (by rw[hlen];exact Nat.lt_of_le_of_lt hN (by decide)))).is (by rw[hlen])) (by exact Int.natCast_nonneg _) (by exact Int.ofNat_le.mpr (Nat.le_trans hN (by decide)))).pit ZZ
  (ZcM (mkSrcs GT [.no,.no,.glob 12,.outer 4,.outer 2]) 1 (by decide +kernel) (Z3 X.gt (by decide +kernel)) (.inl (by decide +kernel)) rfl fun d hd b g' env' cs' lb lb' F1 V V henv=>?_) (by rw[J9];exact ZB (by exact Nat.le_trans hN (by decide))) (fun g₁ l₁ F=>?_) rfl (by decide +kernel)
 ·obtain⟨L',cells',rfl⟩:=henv
  obtain⟨j,hj,rfl⟩:=QG hd
  have hj:j<S.length:=hj
  exact⟨Zv,fun V=>ZJ (pn F1 2) X.f_law_divided (Z1 (Jb (l:=(((List.range S.length).map (midF S)).map fun x:Nat=>.int x)) (i:=(j:Int)) (pn F1 3) (pn F1 1) (Zaj hj) (by simp;exact Nat.lt_of_le_of_lt hN (by decide))) (Z1 (pn F1 4) (Z1 (Z8 (d₁:=.int (-1)) (d₂:=.int (j:Nat)) (QY Z9 QJ) (pn F1 1) (Z3E (by exact Int.natCast_nonneg _) (by exact Int.ofNat_le.mpr (Nat.le_trans (Nat.le_of_lt (Nat.lt_of_lt_of_le hj hN)) (by decide))) (by decide))) Z2))) (Z2g X (n:=n) (Zab _) (by exact Nat.lt_of_lt_of_le (by decide) hT.1) hT.2 (hlt j hj))⟩
 rw[List.filter_eq_self.mpr (fun V V=>rfl),QH] at F
 refine Jd (v:=false) r (Zx (d₁:=.lst ((List.range S.length).map (toldE S))) (d₂:=.lst ((List.range S.length).map (toldE S))) (pn F 5) ((ZN (p:=fun V=>true) (f:=fun d=>match d with | .int m=>.tup [natsI (rowF m.toNat S.sum (bl S.sum)),.int (leftF m.toNat S.sum (2*bl S.sum):Nat)] | d=>d) F
  (Qe (ds:=((List.range S.length).map (midF S)).map fun x:Nat=>.int x) (pn F 4)).pit ZZ (ZcM (mkSrcs GT [.no,.no,.glob 13,.outer 2]) 1 (by decide +kernel) (Z3 X.gt (by decide +kernel)) (.inl (by decide +kernel)) rfl fun d hd b g' env' cs' lb lb' F1 V V henv=>?_) (by simp;exact ZB (by exact Nat.le_trans hN (by decide)))).is ?_)
  (Z0q (v:=true) (k:=3) (YP (Yq fun k=>Z9f (Q6 (Z9g _) (Q6 Qh Z1g)))) (hk8 rfl))) (fun z=>by cases z) fun V g₂ l₂=>ZC ?_
 ·obtain⟨L',cells',rfl⟩:=henv
  obtain⟨m,hm,rfl⟩:=List.mem_map.mp hd
  obtain⟨j,hj,rfl⟩:=List.mem_map.mp hm
  exact⟨Zv,fun V=>ZJ (pn F1 2) X.f_law_doubled (Z1 (pn F1 1) (Z1 (pn F1 3) Z2)) (Z2f X (n:=n+290) (by exact Nat.lt_of_lt_of_le (by decide) hT.1) hT.2 (hlt j (List.mem_range.mp hj)))⟩
 ·rw[List.filter_eq_self.mpr (fun V V=>rfl),List.map_map,List.map_map];rfl
 replace F:=F.up l₂
 have hrows:(((List.range S.length).map fun k=>natsI (rowOf S k))).length=S.length:=by exact(List.length_map _).trans List.length_range
 refine JX (i:=6) (d:=.lst ((List.range S.length).map fun k=>natsI (rowOf S k))) F r rfl (by decide) ((ZN (p:=fun V=>true) (f:=fun d=>match d with | .tup [r,_]=>r | d=>d) F
  (Qe (ds:=(List.range S.length).map (toldE S)) (pn F 5)).pit ZZ (CompP.pair (mkSrcs GT [.no,.no,.no]) 1 2 (by decide) (by decide +kernel) (Z3 X.gt (by decide +kernel)) (.inl (by decide +kernel)) rfl (.inl (by decide +kernel)) rfl (fun d hd=>?_) fun e1 e2 hd b g' env' cs' lb lb' F1 henv=>?_) (by simp;exact ZB (by exact Nat.le_trans hN (by decide)))).is ?_) fun g₃ l₃ F=>?_
 ·obtain⟨j,hj,rfl⟩:=List.mem_map.mp hd
  exact⟨_,_,rfl⟩
 ·obtain⟨L',cells',rfl⟩:=henv
  exact⟨Zv,fun V=>pn F1 1⟩
 ·rw[List.filter_eq_self.mpr (fun V V=>rfl),List.map_map];rfl
 have hat:∀{j:Nat},j<S.length→((List.range S.length).map fun k=>natsI (rowOf S k))[j]? = some (natsI (rowOf S j)):=fun hj=>by rw[List.getElem?_map,List.getElem?_range hj];rfl
 have hlo:=hS.lo
 refine JX (i:=7) (d:=natsI (powsOf S)) F r rfl (by decide) ((ZN (p:=fun V=>true) (f:=fun d=>match d with | .int k=>.int (powOf S k.toNat:Nat) | d=>d) F
  (ZS (k:=((S.length-1:Nat):Int)) (pn F 21) ((Z8 (Zt (pn F 19) (fun a z=>by cases z) (Z1 (pn F 1) Z2) (ZD (by rw[hlen];exact Nat.lt_of_le_of_lt hN (by decide)))) Z9 Qm).is (by rw[hlen];congr 1;exact(Int.ofNat_sub (Nat.le_trans (by decide) hlo)).symm)) (by exact Int.natCast_nonneg _) (Int.le_trans (Int.ofNat_le.mpr (Nat.le_trans (Nat.sub_le _ _) hN)) (by decide))).pit ZZ
  (ZcM (mkSrcs GT [.no,.no,.glob 14,.outer 6]) 1 (by decide +kernel) (Z3 X.gt (by decide +kernel)) (.inl (by decide +kernel)) rfl fun d hd b g' env' cs' lb lb' F1 V V henv=>?_) (by rw[J9];exact ZB (show S.length-1≤1000 from Nat.le_trans (Nat.le_trans (Nat.sub_le _ _) hN) (by decide)))).is ?_) fun g₄ l₄ F=>k g₄ (F.lessN (is:=[5]))
 ·obtain⟨L',cells',rfl⟩:=henv
  obtain⟨j,hj,rfl⟩:=QG hd
  have hj:j<S.length-1:=hj
  have hb:=Z2a hT.2
  exact⟨Zv,fun V=>ZJ (pn F1 2) X.f_law_place (Z1 (Jb (i:=(j:Int)) (pn F1 3) (pn F1 1) (hat (j:=j) (by exact Nat.lt_of_lt_of_le hj (Nat.sub_le _ _))) (by rw[hrows];exact Nat.lt_of_le_of_lt hN (by decide))) (Z1 (Jb (i:=((j+1:Nat):Int)) (pn F1 3) (Z8 (pn F1 1) Z9 ZQ) (hat (j:=j+1) (Nat.add_lt_of_lt_sub hj)) (by rw[hrows];exact Nat.lt_of_le_of_lt hN (by decide))) Z2))
   (Z0M X (n:=n+280) (by rw[JU,JU]) (by rw[JU];lia) (hS.differ (Nat.lt_succ_self j) (Nat.add_lt_of_lt_sub hj)))⟩
 ·rw[List.filter_eq_self.mpr (fun V V=>rfl),QH,natsI,powsOf,List.map_map];rfl
noncomputable def gapsF(S:List Nat):List (List Nat):=(List.range (S.length-1)).map fun k=>gapT S.sum k ((ranksOf (powsOf S)).getD k 0)
noncomputable def lawS3a(S:List Nat)(ln:Option D):List (Option D):=[none,some (natsI S),some (.int S.sum),some (.str (letsF S.length)),none,none,some (.lst ((List.range S.length).map fun k=>natsI (rowOf S k))),some (natsI (powsOf S)),some (natsI (kindsF (powsOf S))),some (.lst ((gapsF S).map .str)),ln]
noncomputable def lawS3(S:List Nat):List (Option D):=[none,some (natsI S),some (.int S.sum),some (.str (letsF S.length)),none,none,some (.lst ((List.range S.length).map fun k=>natsI (rowOf S k))),some (natsI (powsOf S)),some (natsI (kindsF (powsOf S))),none,some (.str (lineOf S)),none,some (.str (textOf S.sum (lineOf S)))]
theorem Z0u(l:List Nat):(l.map fun x:Nat=>(x:Int)).map D.int=l.map fun x:Nat=>D.int x:=by rw[List.map_map];rfl
theorem Zar(l:List Nat)(p:Nat):(l.map fun x:Nat=>(x:Int)).idxOf (p:Int)=l.idxOf p:=by
 induction l with
 |nil=>rfl
 |cons a l ih=>
  rw[List.map_cons,List.idxOf_cons,List.idxOf_cons,ih]
  have:((a:Int)==(p:Int))=(a==p):=by rw[Bool.eq_iff_iff,beq_iff_eq,beq_iff_eq];lia
  rw[this]
theorem ZaV(t k:Nat):atInt ([10,9,13,32]:List Nat) (((k+t)%4:Nat):Int)=some (wsg t k):=(by decide:∀j,j<4→atInt ([10,9,13,32]:List Nat) ((j:Nat):Int)=some ([10,9,13,32].getD j 0)) _ (Nat.mod_lt _ (by decide))
theorem Zax{S:List Nat}(hj:j<S.length-1):(((List.range (S.length-1)).map fun k=>gapT S.sum k ((ranksOf (powsOf S)).getD k 0)).map D.str)[j]? = some (.str (gapT S.sum j ((ranksOf (powsOf S)).getD j 0))):=by
 rw[List.map_map,List.getElem?_map,List.getElem?_range hj];rfl
theorem Z7h(t i:Nat)(h:r≤4):(gapT t i r).length≤16:=by
 have h2:2^r≤2^4:=Nat.pow_le_pow_right (by decide) h
 rw[gapT,List.length_append,List.length_replicate];exact Nat.le_trans (Nat.succ_le_succ (Nat.sub_le_sub_right h2 1)) (by decide)
theorem Yi{γ:Type}{f:γ→List Nat}:∀{l:List γ},(∀x∈l,(f x).length≤B)→((l.map f).map (·.length)).sum≤B*l.length
 |[],_=>Nat.le_refl _
 |x::l,h=>by
  have h1:=Yi fun y hy=>h y (List.Mem.tail x hy)
  have h2:=h x (.head _)
  rw[List.map_cons,List.map_cons,List.sum_cons,List.length_cons,Nat.mul_add];exact Nat.le_trans (Nat.le_of_eq (Nat.add_comm _ _)) (Nat.add_le_add h1 (Nat.le_trans h2 (Nat.le_of_eq (Nat.mul_one B).symm)))
theorem Z7d{xs:List (List Nat)}(h:(xs.map (·.length)).sum≤B)(hB:B≤10000000):(xs.map (·.length)).sum+xs.length*([]:List Nat).length≤16777216:=by
 rw[List.length_nil,Nat.mul_zero];lia
theorem Zci(X:WX K){S:List Nat}(hS:SzOk S)(r:Room A (n+300))
  (F:LF K b cs L cells (lawS2 S++List.replicate 11 none++lawG) [] g)
  (k:∀g':Gh,LF K b cs L cells (lawS3a S none++List.replicate 8 none++lawG) [] g'→gwp K A (execs ((bodyOf st_law).drop 9) (lawEnv L cells)) Q g') :
  gwp K A (execs ((bodyOf st_law).drop 7) (lawEnv L cells)) Q g:=by
 have hN:=hS.hi
 have hlo:=hS.lo
 have hT:=hS.tot
 have hp:∀p∈powsOf S,p<60:=fun p h=>by have:=(hS.pows h).2;lia
 have hkl:=JL (powsOf S)
 have hpl:=Jr S
 have hrl:(ranksOf (powsOf S)).length=S.length-1:=by rw[Yk,hpl]
 have hrk:∀j,(ranksOf (powsOf S)).getD j 0≤4:=fun j=>by
  rw[List.getD_eq_getElem?_getD]
  cases e:(ranksOf (powsOf S))[j]? with
  |none=>exact Nat.zero_le _
  |some x=>exact(hS.ranks (List.mem_of_getElem? e)).2
 refine JX (i:=8) (d:=natsI (kindsF (powsOf S))) F r rfl (by decide) ((Z3A (ns:=(powsOf S).map fun x:Nat=>(x:Int)) (rs:=(kindsF (powsOf S)).map fun x:Nat=>(x:Int)) (pn F 22) (pn F 23) ((pn F 7).is (congrArg D.lst (Z0u _).symm)) (by rw[List.length_map];lia) (by rw[List.length_map];exact Nat.lt_of_le_of_lt (Nat.le_trans hkl (Nat.le_trans (Nat.le_of_eq hpl) (Nat.le_trans (Nat.sub_le _ _) hN))) (by decide)) ?_ ?_).is (congrArg D.lst (Z0u _))) fun g₁ l₁ F=>?_
 ·exact(Q9 _).map _ fun a b h=>by lia
 ·intro z
  rw[List.mem_map,List.mem_map]
  exact⟨fun z₀=>Z4 z₀ fun x hx e=>⟨x,(Jy hp).mp hx,e⟩,fun z₀=>Z4 z₀ fun x hx e=>⟨x,(Jy hp).mpr hx,e⟩⟩
 refine JX (i:=9) (d:=.lst (((List.range (S.length-1)).map fun k=>gapT S.sum k ((ranksOf (powsOf S)).getD k 0)).map .str)) F r rfl (by decide) ((ZN (p:=fun V=>true) (f:=fun d=>match d with | .int k=>.str (gapT S.sum k.toNat ((ranksOf (powsOf S)).getD k.toNat 0)) | d=>d) F
  (ZS (k:=((S.length-1:Nat):Int)) (pn F 21) ((Zt (pn F 19) (fun a z=>by cases z) (Z1 (pn F 7) Z2) (ZD (by rw[List.length_map,hpl];exact Nat.lt_of_le_of_lt (Nat.le_trans (Nat.sub_le _ _) hN) (by decide)))).is (by rw[List.length_map,hpl])) (Int.natCast_nonneg _) (Int.le_trans (Int.ofNat_le.mpr (Nat.le_trans (Nat.sub_le _ _) hN)) (by decide))).pit ZZ
  (ZcM (mkSrcs GT [.no,.no,.outer 8,.outer 7,.outer 2]) 1 (by decide +kernel) (Z3 X.gt (by decide +kernel)) (.inl (by decide +kernel)) rfl fun d hd b g' env' cs' lb lb' F1 V V henv=>?_) (by rw[J9];exact ZB (show S.length-1≤1000 from Nat.le_trans (Nat.le_trans (Nat.sub_le _ _) hN) (by decide)))).is ?_) fun g₂ l₂ F=>k g₂ (F.lessN (is:=[4]))
 ·obtain⟨L',cells',rfl⟩:=henv
  obtain⟨j,hj,rfl⟩:=QG hd
  have hj:j<S.length-1:=hj
  have hpj:((powsOf S).map fun x:Nat=>D.int x)[j]? = some (.int ((powsOf S).getD j 0:Nat)):=Z0s (by lia)
  have hmem:(powsOf S).getD j 0∈powsOf S:=by rw[List.getD_eq_getElem?_getD,List.getElem?_eq_getElem (by lia)];exact List.getElem_mem _
  have hrj:(kindsF (powsOf S)).idxOf ((powsOf S).getD j 0)=(ranksOf (powsOf S)).getD j 0:=by
   rw[List.getD_eq_getElem?_getD,List.getD_eq_getElem?_getD,ranksOf,List.getElem?_map,List.getElem?_eq_getElem (by lia)];rfl
  have h2:2^(ranksOf (powsOf S)).getD j 0≤2^4:=Nat.pow_le_pow_right (by decide) (hrk j)
  refine⟨Zv,fun V=>(Z8 (d₁:=.str (List.replicate (2^(ranksOf (powsOf S)).getD j 0-1) 92)) (d₂:=.str [wsg S.sum j]) ((Z8 (d₂:=.int ((2^(ranksOf (powsOf S)).getD j 0-1:Nat):Int)) (Zy (l:=[92]) rfl) ((Z8 (d₂:=.int 1) (d₁:=.int ((2:Int)^(ranksOf (powsOf S)).getD j 0)) ((Z8 (Z9 (i:=2)) ((Ja (T:= "list") (id:= "list.index") PySem.F.plainAttrs_list PySem.F.slot_list_index PySem.F.type_list_index ((pn F1 2).is (congrArg D.lst (Z0u _).symm)) (Z1 (Jb (l:=(powsOf S).map fun x:Nat=>.int x) (i:=(j:Int)) (pn F1 3) (pn F1 1) hpj (by rw[List.length_map];lia)) Z2)
   (Z8d (n:=n+299) (List.mem_map.mpr ⟨_,(Jy hp).mpr hmem,rfl⟩) (by rw[List.length_map];lia))).is (congrArg D.int (by rw[Zar,hrj]))) (Z3E (by lia) (by have:=hrk j;lia) (by decide))).is (by rw[Int.toNat_natCast])) Z9 Qm).is ?_) (Z3C (by exact Int.le_trans (Int.ofNat_le.mpr (Nat.le_trans (Nat.sub_le _ _) h2)) (by decide)) (by exact Int.le_trans (by decide) (Int.natCast_nonneg _)) (by decide))).is ?_) (JK (x:=[10,9,13,32]) (i:=(((j+S.sum)%4:Nat):Int)) (Zy rfl) ((Z8 (Z8 (pn F1 1) (pn F1 4) ZQ) Z9 (Z3F (by decide))).is ?_) (ZaV _ _) (by decide)) (Jf ?_))⟩
  ·refine congrArg D.int ?_
   have h3:=Nat.pow_pos (n:=(ranksOf (powsOf S)).getD j 0) (show 0<2 by decide)
   have h4:((2^(ranksOf (powsOf S)).getD j 0:Nat):Int)=(2:Int)^(ranksOf (powsOf S)).getD j 0:=by push_cast;rfl
   rw[←h4];exact(Int.ofNat_sub h3).symm
  ·rw[Int.toNat_natCast,Z0h]
  ·refine congrArg D.int ?_
   rw[Int.fmod_eq_emod_of_nonneg _ (by decide)];rfl
  ·rw[List.length_replicate];exact ZB (Nat.le_trans (Nat.succ_le_succ (Nat.sub_le_sub_right h2 1)) (by decide))
 ·rw[List.filter_eq_self.mpr (fun V V=>rfl),QH,List.map_map];rfl
theorem ZbB(X:WX K){S:List Nat}(hS:SzOk S)(r:Room A (n+300))
  (F:LF K b cs L cells (lawS3a S none++List.replicate 8 none++lawG) [] g)
  (k:∀g':Gh,LF K b cs L cells (lawS3a S (some (.str (lineOf S)))++List.replicate 8 none++lawG) [] g'→gwp K A (execs ((bodyOf st_law).drop 10) (lawEnv L cells)) Q g') :
  gwp K A (execs ((bodyOf st_law).drop 9) (lawEnv L cells)) Q g:=by
 have hN:=hS.hi
 have hlo:=hS.lo
 have hT:=hS.tot
 have hp:∀p∈powsOf S,p<60:=fun p h=>by have:=(hS.pows h).2;lia
 have hkl:=JL (powsOf S)
 have hpl:=Jr S
 have hrl:(ranksOf (powsOf S)).length=S.length-1:=by rw[Yk,hpl]
 have hrk:∀j,(ranksOf (powsOf S)).getD j 0≤4:=fun j=>by
  rw[List.getD_eq_getElem?_getD]
  cases e:(ranksOf (powsOf S))[j]? with
  |none=>exact Nat.zero_le _
  |some x=>exact(hS.ranks (List.mem_of_getElem? e)).2
 have hln:=hS.line
 have hgl:(((List.range (S.length-1)).map fun k=>gapT S.sum k ((ranksOf (powsOf S)).getD k 0)).map D.str).length=S.length-1:=by simp
 refine Jc (i:=10) (d:=.str (lineOf S)) F r rfl ((Z8 (d₁:=.str [ltr 0]) (d₂:=.str (((List.range (S.length-1)).map fun k=>gapT S.sum k ((ranksOf (powsOf S)).getD k 0)++[ltr (k+1)]).flatten)) (JK (i:=0) (pn F 3) Z9 (Z1f (show 0<S.length by lia)) (by rw[ZT];lia)) ((Ja (T:= "str") (id:= "str.join") (d₀:=.str []) (ds:=[.lst (((List.range (S.length-1)).map fun k=>gapT S.sum k ((ranksOf (powsOf S)).getD k 0)++[ltr (k+1)]).map .str)]) PySem.F.plainAttrs_str PySem.F.slot_str_join PySem.F.type_str_join (Zy rfl) (Z1 ((ZN (p:=fun V=>true) (f:=fun d=>match d with | .int k=>.str (gapT S.sum k.toNat ((ranksOf (powsOf S)).getD k.toNat 0)++[ltr (k.toNat+1)]) | d=>d) F
  (ZS (k:=((S.length-1:Nat):Int)) (pn F 21) ((Zt (pn F 19) (fun a z=>by cases z) (Z1 (pn F 7) Z2) (ZD (by rw[List.length_map,hpl];exact Nat.lt_of_le_of_lt (Nat.le_trans (Nat.sub_le _ _) hN) (by decide)))).is (by rw[List.length_map,hpl])) (Int.natCast_nonneg _) (Int.le_trans (Int.ofNat_le.mpr (Nat.le_trans (Nat.sub_le _ _) hN)) (by decide))).pit ZZ
  (ZcM (mkSrcs GT [.no,.no,.outer 9,.outer 3]) 1 (by decide +kernel) (Z3 X.gt (by decide +kernel)) (.inl (by decide +kernel)) rfl fun d hd b g' env' cs' lb lb' F1 V V henv=>?_) (by rw[J9];exact ZB (show S.length-1≤1000 from Nat.le_trans (Nat.le_trans (Nat.sub_le _ _) hN) (by decide)))).is ?_) Z2) (Yu (Z7d (B:=17*(S.length-1)) ?_ (Nat.le_trans (Nat.mul_le_mul_left 17 (Nat.le_trans (Nat.sub_le _ _) hN)) (by decide))))).is (by rw[Yd])) (Jf ?_)).is ?_) fun g₃ l₃ F=>k g₃ (F.lessN (is:=[]))
 ·obtain⟨L',cells',rfl⟩:=henv
  obtain⟨j,hj,rfl⟩:=QG hd
  have hj:j<S.length-1:=hj
  exact⟨Zv,fun V=>Z8 (Jb (i:=(j:Int)) (pn F1 2) (pn F1 1) (Zax hj) (by rw[hgl];exact Nat.lt_of_le_of_lt (Nat.le_trans (Nat.sub_le _ _) hN) (by decide))) (JK (i:=((j+1:Nat):Int)) (pn F1 3) (Z8 (pn F1 1) Z9 ZQ) (Z1f (show j+1<S.length from Nat.add_lt_of_lt_sub hj)) (by rw[ZT];lia)) (Jf (ZB (by have:=Z7h S.sum j (hrk j);show(gapT S.sum j ((ranksOf (powsOf S)).getD j 0)).length+1≤1000;lia)))⟩
 ·rw[List.filter_eq_self.mpr (fun V V=>rfl),QH,List.map_map];rfl
 ·have:=Yi (B:=17) (l:=List.range (S.length-1)) (f:=fun k=>gapT S.sum k ((ranksOf (powsOf S)).getD k 0)++[ltr (k+1)]) fun j V=>by have:=Z7h S.sum j (hrk j);rw[List.length_append];show _+1≤_;lia
  rw[List.length_range] at this;exact this
 ·have e:lineOf S=[ltr 0]++((List.range (S.length-1)).map fun k=>gapT S.sum k ((ranksOf (powsOf S)).getD k 0)++[ltr (k+1)]).flatten:=by rw[lineOf,txt,Z8t,hrl];simp only[Nat.zero_add];rfl
  rw[←List.length_append,←e];exact ZB (by lia)
 ·rw[lineOf,txt,Z8t,hrl];simp only[Nat.zero_add];rfl
theorem ZbA(X:WX K){S:List Nat}(hS:SzOk S)(r:Room A (n+300))
  (F:LF K b cs L cells (lawS3a S (some (.str (lineOf S)))++List.replicate 8 none++lawG) [] g)
  (k:∀g':Gh,LF K b cs L cells (lawS3 S++List.replicate 6 none++lawG) [] g'→gwp K A (execs ((bodyOf st_law).drop 12) (lawEnv L cells)) Q g') :
  gwp K A (execs ((bodyOf st_law).drop 10) (lawEnv L cells)) Q g:=by
 have hN:=hS.hi
 have hlo:=hS.lo
 have hT:=hS.tot
 have hln:=hS.line
 have hsg:(signsD (lineOf S)).length=(lineOf S).length:=by rw[signsD,List.length_map]
 refine Jc (i:=11) (d:=.str (bareOf (lineOf S))) F r rfl ((Ja (T:= "str") (id:= "str.join") (d₀:=.str []) (ds:=[.lst (((lineOf S).map fun c=>[92,c]).map .str)]) PySem.F.plainAttrs_str PySem.F.slot_str_join PySem.F.type_str_join (Zy rfl) (Z1 ((ZN (p:=fun V=>true) (f:=fun d=>match d with | .str c=>.str (92::c) | d=>d) F
  (Z3x (pn F 10) hln.2).pit ZZ (ZcM (mkSrcs GT [.no,.no]) 1 (by decide +kernel) (Z3 X.gt (by decide +kernel)) (.inl (by decide +kernel)) rfl fun d hd b g' env' cs' lb lb' F1 V V henv=>?_) (by rw[hsg];exact ZB (by lia))).is ?_) Z2) (Yu (Z7d (B:=2*(lineOf S).length) (Yi fun V V=>Nat.le_refl _) (by lia)))).is (by rw[Yd];rfl)) fun g₄ l₄ F=>?_
 ·obtain⟨L',cells',rfl⟩:=henv
  obtain⟨c,hc,rfl⟩:=List.mem_map.mp hd
  exact⟨Zv,fun V=>Z8 (Zy (l:=[92]) rfl) (pn F1 1) (Jf (show 2≤sizeLine by decide))⟩
 ·rw[List.filter_eq_self.mpr (fun V V=>rfl),signsD,List.map_map,List.map_map];rfl
 have htx:=Z1m S.sum (lineOf S)
 have hdb:=Z49 92 (lineOf S)
 have hbr:(bareOf (lineOf S)).length≤2*(lineOf S).length:=by
  rw[bareOf,List.length_flatten];exact Yi fun V V=>Nat.le_refl _
 refine Jc (i:=12) (d:=.str (textOf S.sum (lineOf S))) F r rfl ?_ fun g₅ l₅ F=>k g₅ (F.lessN (is:=[9,11]))
 have hm:(S.sum:Int).fmod 2=((S.sum%2:Nat):Int):=by rw[Int.fmod_eq_emod_of_nonneg _ (by decide)];rfl
 by_cases h1:S.sum%2=1
 ·exact(Z8 (Z0T (v:=true) ((Zx (Z8 (pn F 2) Z9 (Z3F (by decide))) Z9 Y6).is (by rw[hm,h1];rfl)) (fun V=>pn F 11) fun z=>by cases z) (Zy (l:=[10,35]) rfl) (Jf (ZB (by show _+2≤1000;lia)))).is (by rw[textOf,if_pos h1])
 ·exact(Z8 (Z0T (v:=false) ((Zx (Z8 (pn F 2) Z9 (Z3F (by decide))) Z9 Y6).is (by rw[hm];exact beq_eq_false_iff_ne.mpr (by lia))) (fun z=>by cases z) fun V=>Z8 (Z91 (c:=92) (q:=[34]) F (i:=10) rfl rfl (by show 1+_≤_;lia)) (Zy (l:=[34]) rfl) (Jf (ZB (by rw[List.length_append];show 1+_+1≤1000;lia)))) (Zy (l:=[10,35]) rfl) (Jf (ZB (by rw[List.length_append,List.length_append];show 1+_+1+2≤1000;lia)))).is (by rw[textOf,if_neg h1])
noncomputable abbrev DeskO(S:List Nat)(x dx pb lf fs:Addr)(rest:List Nat)(ws:List (List Nat)):List (Addr×MO):=LexOwn x dx pb lf fs (lnF (textOf S.sum (lineOf S)) rest) rest (ws.map .str)
theorem Zch(X:WX K){S:List Nat}(hS:SzOk S)(r:Room A (n+300))
  (F:LF K b cs L cells (lawS3 S++List.replicate 6 none++lawG) [] g)
  (k:∀(x dx pb lf fs:Addr) (rest:List Nat) (g':Gh),[x,dx,pb,lf].Nodup→lexA 0 [] rest=([35],[])→rest.length≤2→StreamAt g' fs lf→LF K b cs L cells (lawS3 S++[some (.raw (.ref x))]++List.replicate 5 none++lawG) (DeskO S x dx pb lf fs rest ([lineOf S]++[[]])) g'→gwp K A (execs ((bodyOf st_law).drop 16) (lawEnv L cells)) Q g') :
  gwp K A (execs ((bodyOf st_law).drop 12) (lawEnv L cells)) Q g:=by
 have hln:=hS.line
 have htl:(textOf S.sum (lineOf S)).length≤10000:=Nat.le_trans (Z1m _ _) (by lia)
 refine Zm (Z9i (T:=S.sum) (Z7S S) (by simp[lineOf,txt])) fun rest x1 x2 x3=>?_
 refine Zf (J3 (Z30 X (n:=n+280) r (pn F 24) (pn F 25) (pn F 26) (pn F 12) htl fun x dx pb lf fs g₂ hnd hmu l₂ hH hst=>?_))
 have hbm:∀a,g.mu a=none→b.mu a=none:=fun a h=>have z:Le b g:=F.le;z.nomu h
 replace F:=(F.up l₂).adopt F hH hnd hmu (fun a ha=>.inr (hbm a (hmu a ha)))
 refine F.storeCell (i:=13) rfl (by decide) (d:=.raw (.ref x)) Zl fun g₃ l₃ F=>?_
 have F0:LF K b cs L cells (lawS3 S++[some (.raw (.ref x))]++List.replicate 5 none++lawG) ([]++(LexOwn x dx pb lf fs (1+((textOf S.sum (lineOf S)).count 10:Nat)-((textOf S.sum (lineOf S)).count 10:Nat)) (textOf S.sum (lineOf S)) []++[])) g₃:=by rw[Int.add_sub_cancel];exact F.lessN (is:=[])
 clear F
 refine Zf (Z74 (Jw (YT X (n:=n+290) F0 (hst.up l₃) r htl (pn F0 13) fun v g₄ l₄ hst hv F=>(pn F 10).use r fun w g₅ l₅ hw=>?_)))
 rw[x1] at hv F
 refine Zg (Z3B (K:=K) (n:=n+300) g₅ (LeX.refl _ _) v w (hv.mono l₅.im) hw A r g₅ (LeX.refl _ _)) fun c g₆ l₆ hc=>Zg (Y0 (n:=n+300) hc A r g₆ (LeX.refl _ _)) fun u g₇ l₇ hu=>?_
 rw[hu,if_neg (by simp)]
 replace F:=((F.up l₅).up l₆).up l₇
 replace hst:=((hst.up l₅).up l₆).up l₇
 refine ZC ?_
 refine QO X (n:=n+298) F r (Nat.zero_le _) (pn F 13) (pn F 10) fun g₈ l₈ F=>QO X (n:=n+298) F r (show 1≤10000 by decide) (pn F 13) (Zy (l:=[]) rfl) fun g₉ l₉ F=>?_
 rw[List.nil_append,List.append_nil] at F
 exact k x dx pb lf fs rest g₉ hnd x2 x3 ((hst.up l₈).up l₉) F
theorem Zcg(X:WX K){S:List Nat}(hS:SzOk S)(hW0:W 0=[lineOf S])(hk:RndOk sp W (kindsF (powsOf S)).length)(r:Room A (n+300))(hnd:[x,dx,pb,lf].Nodup)(hst:StreamAt g fs lf)
  (F:LF K b cs L cells (lawS3 S++[some (.raw (.ref x))]++List.replicate 5 none++lawG) (DeskO S x dx pb lf fs rest ([lineOf S]++[[]])) g)
  (k:∀g':Gh,StreamAt g' fs lf→LF K b cs L cells (lawS3 S++[some (.raw (.ref x)),some (.lst ((stgsF W (kindsF (powsOf S)).length).map .str)),some (.lst ((prtsF sp W (kindsF (powsOf S)).length).map .str))]++List.replicate 3 none++lawG) (DeskO S x dx pb lf fs rest (W (kindsF (powsOf S)).length++[[]])) g'→gwp K A (execs ((bodyOf st_law).drop 17) (lawEnv L cells)) Q g') :
  gwp K A (execs ((bodyOf st_law).drop 16) (lawEnv L cells)) Q g:=by
 rw[←hW0] at F
 refine Zf (Z1q (ZK ((pn F 27).useR r fun g₁ l₁=>?_)))
 replace F:=F.up l₁
 refine Zm X.f_law_rounds.obj fun of f1 f2 f3=>Qn fun z₀=>Zi z₀ fun s ok=>?_
 have hof:=ok.base _ _ f1
 refine ZI (.inl hof) f2 (Zc rfl ((Z1 (pn F 13) (Z1 (Zt (pn F 19) (fun a z=>by cases z) (Z1 (pn F 8) Z2) (ZD (by rw[List.length_map];exact Nat.lt_of_le_of_lt hk.rounds (by decide)))) Z2)).use r fun vs g₂ l₂ rs=>⟨.inl (l₂.im _ _ hof),?_⟩))
 refine Zw (Jn rs) fun u v1 e r0 r1=>?_
 rw[e,Zk r0]
 rw[List.length_map] at r1
 replace F:=F.up l₂
 refine Qj (Z3e X (n:=n+260) hk r F.holds hnd r1) fun u g₃ hu l₃ hH=>?_
 have F2:=F.advAt (pre:=[]) (post:=[]) (ms:=DeskO S x dx pb lf fs rest (W 0++[[]])) (ms':=DeskO S x dx pb lf fs rest (W (kindsF (powsOf S)).length++[[]])) l₃ rfl hH Jg
 refine Zg ((Tgt.pair (Tgt.loc (i:=14) rfl) (Tgt.loc (i:=15) rfl)).set r.1 F2 hu) fun V g₄ l₄ F=>?_
 exact k g₄ ((((hst.up l₁).up l₂).up l₃).up l₄) (F.lessN (is:=[]))
noncomputable def rowsOf(S:List Nat):List (List Nat):=(List.range S.length).map (rowOf S)
noncomputable def pairsOf(S:List Nat):List (Nat×Nat):=(powsOf S++[0]).zip (letsF S.length)
noncomputable def lawS4(S:List Nat)(x:Addr)(a b c d:Option D):List (Option D):=lawS3 S++[some (.raw (.ref x)),a,b,c,d]
theorem Z2F(S:List Nat):(rowsOf S).map natsI=(List.range S.length).map fun k=>natsI (rowOf S k):=by rw[rowsOf,List.map_map];rfl
theorem J8(S:List Nat):(rowsOf S).length=S.length:=by simp[rowsOf]
theorem Z2G{S:List Nat}(h:q∈rowsOf S):q.length=2*bl S.sum+1:=by
 refine Z4 (List.mem_map.mp h) ?_
 clear h;rintro k V rfl
 exact JU S k
theorem Zcf(X:WX K){S:List Nat}(hS:SzOk S)(p1:stg=(kindsF (powsOf S)).map (stageF (rowsOf S) (letsF S.length)))(r:Room A (n+300))(hst:StreamAt g fs lf)
  (F:LF K b cs L cells (lawS3 S++[some (.raw (.ref x)),some (.lst (stg.map .str)),some d15]++List.replicate 3 none++lawG) own g)
  (k:∀g':Gh,StreamAt g' fs lf→LF K b cs L cells (lawS4 S x none (some d15) (some (.lst (statesD S.sum (pairsOf S)))) (some (.lst ((pileR (pairsOf S)).2.map .str)))++[none]++lawG) own g'→gwp K A (execs ((bodyOf st_law).drop 19) (lawEnv L cells)) Q g') :
  gwp K A (execs ((bodyOf st_law).drop 17) (lawEnv L cells)) Q g:=by
 have hN:=hS.hi
 have hlo:=hS.lo
 have hT:=hS.tot
 have hb:=Z2a hT.2
 have hkl:=JL (powsOf S)
 have hpl:=Jr S
 have hp:∀p∈powsOf S,p<60:=fun p h=>by have:=(hS.pows h).2;exact Nat.lt_of_le_of_lt this (by decide)
 subst p1
 refine Jd (v:=false) r (Zx (d₂:=.lst (((kindsF (powsOf S)).map (stageF (rowsOf S) (letsF S.length))).map .str)) (pn F 14) ((ZN (p:=fun V=>true) (f:=fun d=>match d with | .int p=>.str (stageF (rowsOf S) (letsF S.length) p.toNat) | d=>d) F
  (Qe (ds:=(kindsF (powsOf S)).map fun x:Nat=>.int x) (pn F 8)).pit ZZ (ZcM (mkSrcs GT [.no,.no,.glob 18,.outer 3,.outer 6]) 1 (by decide +kernel) (Z3 X.gt (by decide +kernel)) (.inl (by decide +kernel)) rfl fun d hd b g' env' cs' lb lb' F1 V V henv=>?_) (by rw[List.length_map];exact ZB (by lia))).is ?_)
  (Z0q (v:=true) (k:=1) (YP (Yq fun V=>Qg)) (hk8 rfl))) (fun z=>by cases z) fun V g₂ l₂=>ZC ?_
 ·refine QD henv ?_
  rintro L' cells' rfl
  refine Z4 (List.mem_map.mp hd) ?_
  rintro p hpm rfl
  exact⟨Zv,fun V=>ZJ (pn F1 2) X.f_law_stage (Z1 ((pn F1 4).is (congrArg D.lst (Z2F S).symm)) (Z1 (pn F1 3) (Z1 (pn F1 1) Z2))) (Z4h X (n:=n+270) (place:=p) (by rw[ZT,J8]) (by rw[J8];exact Nat.lt_of_lt_of_le (by decide) hlo) (by rw[J8];exact hN) (fun q hq=>by rw[Z2G hq];lia) (by have:=hp p ((Jy hp).mp hpm);exact Nat.le_trans (Nat.le_of_lt this) (by decide)))⟩
 ·rw[List.filter_eq_self.mpr (fun V V=>rfl),List.map_map,List.map_map];rfl
 replace F:=F.up l₂
 refine Yr F r (ZJ (pn F 28) X.f_law_pile (Z1 (pn F 7) (Z1 (pn F 3) (Z1 (pn F 2) Z2))) (Z5P X (n:=n+280) (ps:=powsOf S) (letters:=letsF S.length) (T:=S.sum) (by rw[ZT,hpl];lia) (by rw[ZT];exact Nat.le_trans hN (by decide)) (fun c hc=>Z53 hc) (fun p h=>by have:=hS.pows h;lia) (by exact Nat.le_trans hT.2 (by decide)))) (Tgt.pair (Tgt.loc (i:=16) rfl) (Tgt.cel (i:=17) rfl (by decide))) fun g₃ l₃ F=>?_
 exact k g₃ ((hst.up l₂).up l₃) (F.lessN (is:=[14]))
noncomputable def mergesOf(S:List Nat):List (List Nat):=(pileR (pairsOf S)).2
noncomputable def movesOf(S:List Nat):List Nat:=(letsF S.length).map (movesR (mergesOf S))
theorem Z2N{S:List Nat}(h:SzOk S):(pairsOf S).length=S.length:=by
 have:=h.lo
 rw[pairsOf,List.length_zip,List.length_append,Jr,ZT];show min (S.length-1+1) _=_;lia
theorem Z2Q{S:List Nat}(h:SzOk S):(mergesOf S).length≤6:=by
 have:=(PileOk.all (B:=100) (pairsOf S) fun y hy=>by
  have:=(List.of_mem_zip hy).1
  rcases List.mem_append.mp this with z | z
  ·have:=h.pows z;exact Nat.le_trans this.2 (by decide)
  ·rw[List.mem_singleton.mp z];decide).len
 have:=Z2N h
 have:=h.hi
 unfold mergesOf;lia
theorem Z4V{S:List Nat}(h:SzOk S)(c:Nat):movesR (mergesOf S) c≤6:=Nat.le_trans (List.length_filter_le _ _) (Z2Q h)
theorem Z9b:∀l:List Int,l≠[]→∃M∈l,∀a∈l,a≤M
 |[],h=>absurd rfl h
 |[a],_=>⟨a,.head _,fun b hb=>by rw[List.mem_singleton.mp hb];exact Int.le_refl _⟩
 |a::c::l,_=>by
  obtain⟨M,h1,h2⟩:=Z9b (c::l) (by simp)
  by_cases h:a≤M
  ·exact⟨M,.tail _ h1,fun b hb=>by rcases List.mem_cons.mp hb with rfl | hb;exact h;exact h2 b hb⟩
  ·exact⟨a,.head _,fun b hb=>by rcases List.mem_cons.mp hb with rfl | hb;exact Int.le_refl _;have:=h2 b hb;lia⟩
theorem Zce(X:WX K){S:List Nat}(hS:SzOk S)(p2:∀k<S.length,2^movesR (mergesOf S) (ltr k)*S.getD k 0<4*S.sum)(r:Room A (n+300))(hst:StreamAt g fs lf)
  (F:LF K b cs L cells (lawS4 S x none (some d15) (some d16) (some (.lst ((mergesOf S).map .str)))++[none]++lawG) own g)
  (k:∀g':Gh,StreamAt g' fs lf→LF K b cs L cells (lawS4 S x none (some d15) (some d16) (some (.lst ((mergesOf S).map .str)))++[none]++lawG) own g'→gwp K A (execs ((bodyOf st_law).drop 21) (lawEnv L cells)) Q g') :
  gwp K A (execs ((bodyOf st_law).drop 19) (lawEnv L cells)) Q g:=by
 have hN:=hS.hi
 have hlo:=hS.lo
 have hT:=hS.tot
 have hm:=Z2Q hS
 have hlen:(S.map fun x:Nat=>D.int x).length=S.length:=List.length_map _
 have hsg:(signsD (letsF S.length)).length=S.length:=by rw[signsD,List.length_map,ZT]
 refine JX (i:=18) (d:=natsI (movesOf S)) F r rfl (by decide) ((ZN (p:=fun V=>true) (f:=fun d=>match d with | .str c=>.int (movesR (mergesOf S) (c.headD 0):Nat) | d=>d) F
  (Z3x (pn F 3) fun c hc=>Z53 hc).pit ZZ (ZcM (mkSrcs GT [.no,.no,.glob 24,.outer 17]) 1 (by decide +kernel) (Z3 X.gt (by decide +kernel)) (.inr ⟨by decide +kernel,by decide +kernel⟩) rfl fun d hd b g' env' cs' lb lb' F1 V V henv=>?_) (by rw[hsg];exact ZB (by lia))).is ?_) fun g₁ l₁ F=>?_
 ·obtain⟨L',cells',rfl⟩:=henv
  obtain⟨c,hc,rfl⟩:=List.mem_map.mp hd
  have hfl:(((mergesOf S).map D.str).filter fun d=>match d with | .str w=>decide (c∈w) | _=>false).map id=((mergesOf S).filter fun w=>decide (c∈w)).map D.str:=by rw[List.map_id,List.filter_map];rfl
  refine⟨Zv,fun V=>(Zt (pn F1 2) (fun a z=>by cases z) (Z1 ((ZN (p:=fun d=>match d with | .str w=>decide (c∈w) | _=>false) (f:=id) F1 (Qe (pn F1 3)).pit ZZ
   (ZcM (mkSrcs GT [.no,.no,.outer 1]) 1 (by decide +kernel) (Z3 X.gt (by decide +kernel)) (.inl (by decide +kernel)) rfl fun d hd b g' env' cs' lb lb' F2 V V henv=>?_) (by rw[List.length_map];exact ZB (by lia))).is (congrArg D.lst hfl)) Z2) (ZD (by rw[List.length_map];exact Nat.lt_of_le_of_lt (Z4V hS c) (by decide)))).is (by rw[List.length_map];rfl)⟩
  obtain⟨L'',cells'',rfl⟩:=henv
  obtain⟨w,hw,rfl⟩:=List.mem_map.mp hd
  exact⟨Z1A (Zx (pn F2 2) (pn F2 1) Z6m),fun V=>pn F2 1⟩
 ·rw[List.filter_eq_self.mpr (fun V V=>rfl),signsD,List.map_map,natsI,movesOf,List.map_map];rfl
 have hmv:∀{j:Nat},j<S.length→((movesOf S).map fun x:Nat=>D.int x)[j]? = some (.int (movesR (mergesOf S) (ltr j):Nat)):=fun hj=>by rw[movesOf,List.map_map,List.getElem?_map,Z1f hj];rfl
 have hml:((movesOf S).map fun x:Nat=>D.int x).length=S.length:=by rw[List.length_map,movesOf,List.length_map,ZT]
 obtain⟨M,m1,m2⟩:=Z9b ((List.range S.length).map fun j=>((2^movesR (mergesOf S) (ltr j)*S.getD j 0:Nat):Int)) (by intro e;have:=congrArg List.length e;rw[List.length_map,List.length_range] at this;have:S.length=0:=this;lia)
 have hM:¬M≥4*(S.sum:Int):=by
  obtain⟨j,hj,e⟩:=List.mem_map.mp m1
  have:=p2 j (List.mem_range.mp hj)
  lia
 refine Jd (v:=false) r ((Zx (d₂:=.int (4*S.sum)) (Zt (pn F 29) (fun a z=>by cases z) (Z1 ((ZN (p:=fun V=>true) (f:=fun d=>match d with | .int k=>.int ((2^movesR (mergesOf S) (ltr k.toNat)*S.getD k.toNat 0:Nat):Int) | d=>d) F
  (ZS (k:=S.length) (pn F 21) ((Zt (pn F 19) (fun a z=>by cases z) (Z1 (pn F 1) Z2) (ZD (by rw[hlen];lia))).is (by rw[hlen])) (by exact Int.natCast_nonneg _) (by lia)).pit ZZ
  (ZcM (mkSrcs GT [.no,.no,.outer 18,.outer 1]) 1 (by decide +kernel) (Z3 X.gt (by decide +kernel)) (.inl (by decide +kernel)) rfl fun d hd b g' env' cs' lb lb' F1 V V henv=>?_) (by rw[J9];exact ZB (by lia))).is ?_) Z2) (ZaB m1 m2)) (Z8 Z9 (pn F 2) (Jq (JN (by decide) (by lia)))) ZaL).is (decide_eq_false hM)) (fun z=>by cases z) fun V g₂ l₂=>ZC (k g₂ ((hst.up l₁).up l₂) ((F.up l₂).lessN (is:=[18])))
 ·obtain⟨L',cells',rfl⟩:=henv
  obtain⟨j,hj,rfl⟩:=QG hd
  have hj:j<S.length:=hj
  have h1:=Z4V hS (ltr j)
  have h2:2^movesR (mergesOf S) (ltr j)≤2^6:=Nat.pow_le_pow_right (by decide) h1
  have h3:=(hS.at hj).2
  have h4:((2^movesR (mergesOf S) (ltr j):Nat):Int)=(2:Int)^movesR (mergesOf S) (ltr j):=by push_cast;rfl
  have h5:(((2^movesR (mergesOf S) (ltr j):Nat):Int)).natAbs<2^40:=by rw[Int.natAbs_natCast];exact Nat.lt_of_le_of_lt h2 (by decide)
  refine⟨Zv,fun V=>(Z8 (d₁:=.int ((2^movesR (mergesOf S) (ltr j):Nat):Int)) (d₂:=.int (S.getD j 0:Nat)) ((Z8 (Z9 (i:=2)) (Jb (i:=(j:Int)) (d:=.int (movesR (mergesOf S) (ltr j):Nat)) (pn F1 2) (pn F1 1) (hmv hj) (by rw[hml];lia)) (Z3E (by exact Int.natCast_nonneg _) (by lia) (by decide))).is (congrArg D.int (by rw[Int.toNat_natCast,h4]))) (Jb (i:=(j:Int)) (pn F1 3) (pn F1 1) (Z0s hj) (by rw[hlen];lia)) (Jq (JN h5 (by lia)))).is (congrArg D.int (by push_cast;rfl))⟩
 ·rw[List.filter_eq_self.mpr (fun V V=>rfl),QH,List.map_map];rfl
noncomputable def kfD(d:D):KeyP:=match d with | .str w=>([w.getLastD 0],(w.length:Int)) | _=>([],0)
theorem Z5G(h:w≠[]):atInt w (-1)=some (w.getLastD 0):=by
 have e:=List.dropLast_concat_getLast h
 rw[←e,Z0J,List.getLastD_concat]
theorem Z7E:(lawEnv L cells).qual++ "<lambda>" = Str.ofString "law.<locals>.<lambda>":=by show("law"++ ".<locals>.":Str)++ "<lambda>" = _;decide +kernel
noncomputable def lamNm:List (Str×NameKind):=[(Str.ofString "pair",.local),(Str.ofString "len",.globalImplicit)]
theorem ZbE:NamesOk lamNm:=NamesOk.of (by decide +kernel)
theorem ZbD:srcOk [] lamNm (mkSrcs GT [.no,.glob 24])=true:=by decide +kernel
theorem ZbG:globIdx (GT.map (·.1)) lamNm [.no,.glob 24]=true:=by decide +kernel
theorem ZbF:∀x∈lamNm,x.2≠NameKind.free:=by decide +kernel
noncomputable def stateE(S:List Nat)(k:Nat):D:=.tup [.str (stateF (placesI (rowsOf S) k) (letsF S.length) k),.int ((stateF (placesI (rowsOf S) k) (letsF S.length) k).length+S.sum:Nat),.int (((placesI (rowsOf S) k).foldl step_dedup []).length:Nat)]
theorem Zcd(X:WX K){S:List Nat}(hS:SzOk S){parts:List (List Nat)}(hp:∀w∈parts,w≠[]∧w.length≤1000)(h2:2≤parts.length)(h63:parts.length≤63)(hbd:bdB parts.length (kas_sort parts.length)=true)(p3:sortF ((parts.map D.str).map kfD) (parts.map .str)=(mergesOf S).map .str)
 (r:Room A (n+300))(hst:StreamAt g fs lf)
  (F:LF K b cs L cells (lawS4 S x none (some (.lst (parts.map .str))) (some d16) (some (.lst ((mergesOf S).map .str)))++[none]++lawG) own g)
  (k:∀g':Gh,StreamAt g' fs lf→LF K b cs L cells (lawS4 S x none none (some d16) none++[none]++lawG) own g'→gwp K A (execs ((bodyOf st_law).drop 22) (lawEnv L cells)) Q g') :
  gwp K A (execs ((bodyOf st_law).drop 21) (lawEnv L cells)) Q g:=by
 refine Jd (v:=false) r (Zx (d₂:=.lst ((mergesOf S).map .str)) (pn F 17) ((Z6h (n:=n+298) (ds:=parts.map .str) (kf:=kfD) (by rw[List.length_map];exact h2) (by rw[List.length_map];exact h63) (by rw[List.length_map];exact hbd) (pn F 22) (pn F 15) fun A g₁ r l=>?_).is (congrArg D.lst p3)) (Z0q (v:=true) (k:=1) (YP (Yq fun V=>Qg)) (hk8 rfl))) (fun z=>by cases z) fun V g₂ l₂=>ZC (k g₂ (hst.up l₂) ((F.up l₂).lessN (is:=[15,17])))
 refine Z5f (P:=253) X.md rfl (by rfl) rfl (X.tab _ (by decide)) (X.qnOf (q:= "law.<locals>.<lambda>") (by decide +kernel)) Z7E fun a g₂ c' pm ct hf l₂=>⟨l₂,⟨a,rfl⟩,fun d hd g₃ l₃ vs hvs A r g₄ l₄=>?_⟩
 refine Z4 (List.mem_map.mp hd) ?_
 clear hd k F p3 hbd h63 h2;rintro w hw rfl
 refine Z4 (Jo hvs) ?_
 clear hvs;rintro v rfl hv
 refine ZG (hp w hw) fun w0 w1=>?_
 refine Z5n (n:=n+296) (fn:=[]) (S':=[]) (binds:=[("pair",v)]) (bi:=[(0,.str w)]) (src:=mkSrcs GT [.no,.glob 24]) r ((hf.le l₃).le l₄) rfl (Ze (by rfl)) rfl ZbE ZbD (Z3 X.gt ZbG) ZbF ⟨.inl rfl,hv.le l₄,trivial⟩ fun A' L cells cs g₅ r' H=>?_
 refine Zg (J4 (K:=K) (n:=n+296) (g:=g₅) (Z1 (JK (pn H 0) (QY Z9 QJ) (Z5G w0) (Nat.lt_of_le_of_lt w1 (by decide))) (Z1 (Zt (pn H 1) (fun a z=>by cases z) (Z1 (pn H 0) Z2) (YY (Nat.lt_of_le_of_lt w1 (by decide)))) Z2)) rfl A' r' g₅ (LeX.refl _ _)) fun u g₆ l₆ hu=>⟨H.le.trans l₆,hu⟩
theorem Zcc(X:WX K){S:List Nat}(hS:SzOk S)(p4:statesD S.sum (pairsOf S)=(List.range S.length).map (stateE S))
 (r:Room A (n+300))(hst:StreamAt g fs lf)
  (F:LF K b cs L cells (lawS4 S x none none (some (.lst (statesD S.sum (pairsOf S)))) none++[none]++lawG) own g)
  (k:∀g':Gh,StreamAt g' fs lf→LF K b cs L cells (lawS4 S x none none none none++[none]++lawG) own g'→gwp K A (execs ((bodyOf st_law).drop 23) (lawEnv L cells)) Q g') :
  gwp K A (execs ((bodyOf st_law).drop 22) (lawEnv L cells)) Q g:=by
 have hN:=hS.hi
 have hlo:=hS.lo
 have hT:=hS.tot
 have hb:=Z2a hT.2
 have hlen:(S.map fun x:Nat=>D.int x).length=S.length:=List.length_map _
 have hg:∀{i},i<S.length→(rowsOf S).getD i []=rowOf S i:=fun{i} hi=>by rw[rowsOf,List.getD_eq_getElem?_getD,List.getElem?_map,List.getElem?_range hi];rfl
 rw[p4] at F
 refine Jd (v:=false) r (Zx (d₂:=.lst ((List.range S.length).map (stateE S))) (pn F 16) ((ZN (p:=fun V=>true) (f:=fun d=>match d with | .int k=>stateE S k.toNat | d=>d) F
  (ZS (k:=S.length) (pn F 21) ((Zt (pn F 19) (fun a z=>by cases z) (Z1 (pn F 1) Z2) (ZD (by rw[hlen];exact Nat.lt_of_le_of_lt hN (by decide)))).is (by rw[hlen])) (by exact Int.natCast_nonneg _) (by exact Int.ofNat_le.mpr (Nat.le_trans hN (by decide)))).pit ZZ
  (ZcM (mkSrcs GT [.no,.no,.glob 20,.outer 3,.outer 6,.outer 2]) 1 (by decide +kernel) (Z3 X.gt (by decide +kernel)) (.inl (by decide +kernel)) rfl fun d hd b g' env' cs' lb lb' F1 V V henv=>?_) (by rw[J9];exact ZB (by exact Nat.le_trans hN (by decide)))).is ?_)
  (Z0q (v:=true) (k:=2) (YP (k:=1) (Yq fun k=>Z9f (k:=0) (Q6 Qg (Q6 Qh (Q6 Qh Z1g))))) (hk8 rfl))) (fun z=>by cases z) fun V g₂ l₂=>ZC (k g₂ (hst.up l₂) ((F.up l₂).lessN (is:=[16])))
 ·refine QD henv ?_
  rintro L' cells' rfl
  refine Z4 (QG hd) ?_
  rintro j hj rfl
  have hj:j<S.length:=hj
  refine⟨Zv,fun V=>ZJ (pn F1 2) X.f_law_state (Z1 ((pn F1 4).is (congrArg D.lst (Z2F S).symm)) (Z1 (pn F1 3) (Z1 (pn F1 1) (Z1 (pn F1 5) Z2)))) (Z4g X (n:=n+240) (k:=j) (T:=S.sum) (by rw[ZT,J8]) (by rw[J8];exact hN) (by rw[J8];exact hj) hT.2 (fun q hq=>?_) ?_ fun i hi h1=>?_)⟩
  ·rw[Z2G hq,hg (by exact Nat.lt_of_le_of_lt (Nat.le_add_left _ _) hj),JU]
  ·rw[hg (by exact Nat.lt_of_le_of_lt (Nat.le_add_left _ _) hj),JU];lia
  ·rw[J8] at h1
   rw[hg (by exact Nat.lt_of_le_of_lt ‹_› ‹_›),hg h1]
   exact hS.differ (by exact Nat.lt_succ_of_le hi) h1
 ·rw[List.filter_eq_self.mpr (fun V V=>rfl),QH];rfl
theorem Z6Q(hx:x.length≤sizeLine):CallSem K n g (.type "list") [.str x] (.lst (x.map fun c=>.str [c])):=fun g₁ l vs h A r g₂ l₂=>by
 refine Z4 (Jo h) ?_
 clear h;rintro v rfl h1
 refine Z5b (Z12 r.1 (h1.le l₂) hx fun a its m hi hm hr=>fun z=>⟨(g₂.setMu a (sq "list" its m)).fix a (sq "list" its m),fun s ok=>ok.fix ZcI,?_,?_⟩)
 ·exact((LeX.of (S:=[a]) (ZcL hm)).trans (LeX.fix hi)).forget (by intro c hc;rw[List.mem_singleton.mp hc];exact .inr hm)
 ·exact Zj.mpr ⟨a,its,m,rfl,ZcO,hr.mono (LeX.fix (g:=g₂.setMu a (sq "list" its m)) hi).im⟩
noncomputable def waitJ(ws:List (List Nat))(rest:List Nat)(j:Nat):List Nat:=if j≤ws.length then rest else[]
noncomputable def tokJ(ws:List (List Nat))(j:Nat):List Nat:=(ws++[[35],[]]).getD j []
noncomputable def endI(T:List Nat)(ws:List (List Nat))(rest:List Nat)(x dx pb lf fs:Addr)(todo out:List D)(g:Gh):Prop:=
 out.length+todo.length=ws.length+2∧out=(List.range out.length).map (fun j=>D.str (tokJ ws j))∧Holds (LexOwn x dx pb lf fs (lnF T (waitJ ws rest out.length)) (waitJ ws rest out.length) ((ws.drop out.length).map .str)) g∧StreamAt g fs lf
theorem Z8s(h:ws.drop j=w::t):tokJ ws j=w∧ws.drop (j+1)=t∧j<ws.length:=by
 have hj:j<ws.length:=by
  rcases Nat.lt_or_ge j ws.length with z | z
  ·exact z
  ·cases((List.drop_eq_nil_of_le z).symm.trans h)
 rw[List.drop_eq_getElem_cons hj] at h
 injection h with h1 h2
 refine⟨?_,h2,hj⟩
 rw[tokJ,List.getD_eq_getElem?_getD,List.getElem?_append_left hj,List.getElem?_eq_getElem hj];exact h1
theorem ZbC(X:WX K){S:List Nat}(hS:SzOk S)(hws:ws.length=S.length+1)(htk:(List.range (S.length+3)).map (tokJ ws)=((letsF S.length).map fun c=>[c])++[[],[35],[]])(hr1:lexA 0 [] rest=([35],[]))(hr2:rest.length≤2)
 (r:Room A (n+300))(hnd:[x,dx,pb,lf].Nodup)(hst:StreamAt g fs lf)
  (F:LF K b cs L cells (lawS4 S x none none none none++[none]++lawG) (DeskO S x dx pb lf fs rest ws) g)
  (k:∀v (g':Gh),Le b g'→Zu g'.im (.bool true) v→Q (.ret v) g') :
  gwp K A (execs ((bodyOf st_law).drop 23) (lawEnv L cells)) Q g:=by
 have hN:=hS.hi
 have hlen:(S.map fun x:Nat=>D.int x).length=S.length:=List.length_map _
 obtain⟨T,hT⟩:∃T,T=textOf S.sum (lineOf S):=⟨_,rfl⟩
 have hTl:T.length≤10000:=by rw[hT];exact Nat.le_trans (Z1m _ _) (by have:=hS.line;lia)
 have F0:LF K b cs L cells (lawS4 S x none none none none++[none]++lawG) (LexOwn x dx pb lf fs (lnF T rest) rest (ws.map .str)) g:=by rw[hT];exact F
 clear F
 refine Zf (Z74 (Jw ?_))
 refine Z5j (n:=n+300) (src:=mkSrcs GT [.no,.no,.outer 13]) (fn':=[1]) (R:=[]) (S:=[x,dx,pb,lf]) (ds:=rgD 0 ((S.length:Int)+3).toNat) (σ₁:=fun d=>(srcSt (lawS4 S x none none none none++[none]++lawG) (mkSrcs GT [.no,.no,.outer 13])).set 1 (some d)) (endI T ws rest x dx pb lf fs) r F0
  (NamesOk.of (by decide +kernel)) rfl (by decide +kernel) (Z3 X.gt (by decide +kernel)) (Yo (by decide +kernel)) (fun a ha=>?_) (by exact ZZ) (fun todo out g hI a ha o w e=>?_) (fun d hd=>Tgt.loc (by decide +kernel)) (fun d hd=>QU (by rfl)) (fun todo out g g' W hI l hW=>?_) (fun todo out g hI=>?_) (by rw[J9];exact ZB (by lia)) (fun d todo out g' L' cells' cs' hd hI F'=>?_) ?_ ?_ (fun out v g' l hI hv=>?_)
 ·refine Z4 (List.mem_map.mp (show a∈(LexOwn x dx pb lf fs (lnF T rest) rest (ws.map .str)).map (·.1) from ha)) ?_
  rintro p hp rfl
  refine Z4 (F0.own p hp) fun o e1 V=>?_
  exact⟨⟨o,e1⟩,by exact List.not_mem_nil⟩
 ·refine Z4 (List.mem_map.mp (show a∈(LexOwn x dx pb lf fs (lnF T (waitJ ws rest out.length)) (waitJ ws rest out.length) ((ws.drop out.length).map .str)).map (·.1) from ha)) ?_
  rintro p hp rfl
  refine Z4 (hI.2.2.1 p hp) fun o' e1 e2=>?_
  cases e.symm.trans e1
  exact Jg p hp o w e2
 ·exact⟨hI.1,hI.2.1,hI.2.2.1.up l hW,hI.2.2.2.up l⟩
 ·rw[J9];show out.length≤S.length+1+2;exact Nat.le_trans (Nat.le_add_right _ _) (Nat.le_of_eq (hI.1.trans (congrArg (· + 2) hws)))
 ·refine Zcy hI fun h1 h2 h3 h4=>?_
  refine Qz rfl (Z6 ⟨LeX.refl _ _,?_⟩)
  rw[if_pos rfl]
  simp only[List.length_cons] at h1
  cases hd:ws.drop out.length with
  |cons w t=>
   refine Z0K (Z8s hd) fun t1 t2 t3=>?_
   rw[hd] at h3
   have htl:t.length≤10000:=by rw[←t2,List.length_drop];exact Nat.le_trans (Nat.sub_le _ _) (Nat.le_trans (Nat.le_of_eq hws) (Nat.le_trans (Nat.succ_le_succ hN) (by decide)))
   refine JM X h3 hnd r JH X.f_nl_gt Z77 QM (pn F' 2) fun g₁ l₁=>Zd (Qj (Z02 X (n:=n+298) (pbs:=t.map .str) r (Holds.up h3 l₁ (by exact ZZ)) hnd (by rw[List.length_map];exact htl)) fun v g₂ hv l₂ hH=>⟨(LeX.of l₁).trans l₂,.str w,hv,?_,?_,?_,(h4.up l₁).up l₂⟩)
   ·rw[List.length_append,List.length_singleton];lia
   ·rw[List.length_append,List.length_singleton,List.range_succ,List.map_append,←h2,List.map_singleton,t1]
   ·rw[List.length_append,List.length_singleton,t2]
    have e:waitJ ws rest (out.length+1)=waitJ ws rest out.length:=by rw[waitJ,waitJ,if_pos (show out.length+1≤ws.length from t3),if_pos (Nat.le_of_lt t3)]
    rw[e];exact hH
  |nil=>
   rw[hd] at h3
   have hge:ws.length≤out.length:=List.drop_eq_nil_iff.mp hd
   have hw:lexA 0 [] (waitJ ws rest out.length)=(tokJ ws out.length,[])∧(waitJ ws rest out.length).length≤2:=by
    rw[waitJ,tokJ,List.getD_eq_getElem?_getD,List.getElem?_append_right hge]
    split
    ·rw[Nat.sub_eq_zero_of_le ‹out.length≤ws.length›];exact⟨hr1,hr2⟩
    ·rw[show out.length-ws.length=1 from Nat.le_antisymm (Nat.sub_le_iff_le_add'.mpr (Nat.le_of_succ_le_succ (Nat.le_trans (Nat.add_le_add_left (Nat.succ_le_succ (Nat.zero_le _)) _) (Nat.le_of_eq h1)))) (Nat.sub_pos_of_lt (Nat.not_le.mp ‹_›))];exact⟨rfl,Nat.zero_le _⟩
   refine JM X h3 hnd r JH X.f_nl_gt Z77 QM (pn F' 2) fun g₁ l₁=>Zd (Qj (Z1k X (n:=n+290) r (Holds.up h3 l₁ (by exact ZZ)) hnd (h4.up l₁) (by lia)) fun v g₂ hv l₂ hH=>⟨(LeX.of l₁).trans l₂,.str (tokJ ws out.length),?_,?_,?_,?_,(h4.up l₁).up l₂⟩)
   ·rw[hw.1] at hv;exact hv
   ·rw[List.length_append,List.length_singleton];lia
   ·rw[List.length_append,List.length_singleton,List.range_succ,List.map_append,←h2,List.map_singleton]
   ·rw[hw.1] at hH
    have e:waitJ ws rest (out.length+1)=[]:=by rw[waitJ,if_neg (by lia)]
    have e2:lnF T (waitJ ws rest out.length)+((waitJ ws rest out.length).count 10:Nat)-(([]:List Nat).count 10:Nat)=lnF T []:=by unfold lnF;simp
    rw[List.length_append,List.length_singleton,e,List.drop_eq_nil_of_le (by lia),←e2];exact hH
 ·exact(ZS (n:=n+300) (k:=(S.length:Int)+3) (pn F0 21) (Z8 ((Zt (pn F0 19) (fun a z=>by cases z) (Z1 (pn F0 1) Z2) (ZD (by rw[hlen];lia))).is (by rw[hlen])) Z9 ZQ) (by lia) (by lia)).pit A r g (LeX.refl _ _)
 ·refine⟨by rw[J9];simp;lia,rfl,?_,hst⟩
  show Holds (LexOwn x dx pb lf fs (lnF T (waitJ ws rest 0)) (waitJ ws rest 0) ((ws.drop 0).map .str)) g
  rw[waitJ,if_pos (Nat.zero_le _)]
  exact F0.holds
 ·refine Zcy hI fun h1 h2 h3 h4=>?_
  have hol:out.length=S.length+3:=by have:out.length=ws.length+2:=h1;lia
  rw[hol] at h2 h3
  have hout:out=(((letsF S.length).map fun c=>[c])++[[],[35],[]]).map D.str:=by rw[h2,←htk,List.map_map];rfl
  rw[waitJ,if_neg (by lia),List.drop_eq_nil_of_le (by lia)] at h3
  subst hout
  have F2:=F0.advAt (pre:=[]) (post:=[]) (ms:=LexOwn x dx pb lf fs (lnF T rest) rest (ws.map .str)) (ms':=LexOwn x dx pb lf fs (lnF T []) [] []) l rfl h3 Jg
  refine(Z8 (Zt (pn F2 26) (fun a z=>by cases z) (Z1 (pn F2 3) Z2) (Z6Q (by rw[ZT];exact ZB (by lia)))) (Yn (Z1 (Zy (l:=[]) rfl) (Z1 (Zy (l:=[35]) rfl) (Z1 (Zy (l:=[]) rfl) Z2)))) (Z1e (by rw[List.length_map,ZT];exact ZB (show S.length+3≤1000 by lia)))).use r fun w g₃ l₃ hw=>?_
  have hw':Zu g₃.im (.lst ((((letsF S.length).map fun c=>[c])++[[],[35],[]]).map D.str)) w:=by rw[List.map_append,List.map_map];exact hw
  refine Zg (Z0q (K:=K) (n:=n+300) (g:=g₃) (v:=true) (k:=1) (YP (Yq fun V=>Qg)) (by exact Nat.le_add_left _ _) g₃ (LeX.refl _ _) v w (hv.le l₃) hw' A r g₃ (LeX.refl _ _)) fun c g₄ l₄ hc=>Zg (Y0 (n:=n+300) hc A r g₄ (LeX.refl _ _)) fun u g₅ l₅ hu=>?_
  rw[hu,if_neg (by decide)]
  have F3:=((F2.up l₃).up l₄).up l₅
  have hne:dx≠x:=Y8 hnd
  refine ZC ?_
  exact ZM r ((Z92 (QI F3 X.k_nl Q8 Q7 Qx (i:=0) (j:=1) (d:=.int (lnF T [])) rfl rfl hne (by exact .head _) (pn F3 13)) (Z8 Z9 (Ja (T:= "str") (id:= "str.count") PySem.F.plainAttrs_str PySem.F.slot_str_count PySem.F.type_str_count ((pn F3 12).is (congrArg D.str hT.symm)) (Z1 (Zy (l:=[10]) rfl) Z2) Z5z) ZQ) Y6).is (congrArg D.bool (by rw[beq_iff_eq];unfold lnF;simp))) fun v g₆ l₆ hv=>k v g₆ (F3.le.trans l₆) hv
end
section
open PySem
theorem Z1n:∀{r r':List Nat},r.length=r'.length→placeF r r'<r.length→∀p,r.take (p+1)=r'.take (p+1)↔p<placeF r r'
 |[],_,_,h,_=>absurd h (Nat.not_lt_zero _)
 |x::r,[],h,_,_=>by cases h
 |x::r,y::r',h,h2,p=>by
  have e:placeF (x::r) (y::r')=if x=y then placeF r r'+1 else 0:=by
   unfold placeF
   rw[List.zipWith_cons_cons,List.idxOf_cons]
   by_cases hxy:x=y
   ·rw[if_pos hxy,hxy];simp
   ·rw[if_neg hxy,show(x==y)=false from beq_eq_false_iff_ne.mpr hxy];rfl
  rw[e] at h2 ⊢
  rw[List.take_succ_cons,List.take_succ_cons,List.cons.injEq]
  by_cases hxy:x=y
  ·rw[if_pos hxy] at h2 ⊢
   rw[List.length_cons] at h2
   cases p with
   |zero=>rw[List.take_zero,List.take_zero];exact⟨fun V=>Nat.succ_pos _,fun V=>⟨hxy,rfl⟩⟩
   |succ p=>
    have ih:=Z1n (r:=r) (r':=r') (by exact Nat.succ.inj h) (by exact Nat.le_of_lt_succ h2) p
    rw[ih];exact⟨fun z=>by exact Nat.lt_succ_of_le z.2,fun z=>⟨hxy,by exact Nat.le_of_lt_succ z⟩⟩
  ·rw[if_neg hxy]
   exact⟨fun z=>absurd z.1 hxy,fun z=>absurd z (Nat.not_lt_zero _)⟩
theorem Z9c{γ:Type}(f:Nat→γ)(l:List Nat):l.map f=(List.range l.length).map fun j=>f (l.getD j 0):=by
 apply List.ext_getElem (by simp)
 intro i h1 h2
 rw[List.length_map] at h1
 rw[List.getElem_map,List.getElem_map,List.getElem_range,List.getD_eq_getElem?_getD,List.getElem?_eq_getElem h1];rfl
section
variable{S:List Nat}
theorem QF(hk:k<S.length):(rowsOf S).getD k []=rowOf S k:=by rw[rowsOf,List.getD_eq_getElem?_getD,List.getElem?_map,List.getElem?_range hk];rfl
theorem Z0t(hk:k<n):(letsF n).getD k 0=ltr k:=by rw[List.getD_eq_getElem?_getD,Z1f hk];rfl
theorem SzOk.stage(h:SzOk S)(hj:j<(kdsOf S).length):stageF (rowsOf S) (letsF S.length) ((kdsOf S).getD j 0)=stageR (rksOf S) j:=by
 have hlo:=h.lo
 rw[stageF,stageR,Z0t (by exact Nat.lt_of_lt_of_le (by decide) hlo),J8,Jv]
 refine congrArg (_::·) (congrArg List.flatten (List.map_congr_left fun k hk=>?_))
 refine ZG (List.mem_range'_1.mp hk) fun k1 k2=>?_
 have hpl:placeF (rowOf S (k-1)) (rowOf S k)=powOf S (k-1):=by rw[powOf,Nat.sub_add_cancel k1]
 have hkN:k<S.length:=by rw[Nat.add_sub_cancel' (Nat.le_trans (by decide) hlo)] at k2;exact k2
 have hk0:k-1<k:=Nat.sub_lt k1 (by decide)
 have hk3:k-1+1<S.length:=by rw[Nat.sub_add_cancel k1];exact hkN
 have hm:=h.mids.place (i:=k-1) (k:=k) hk0 hkN
 rw[partF,QF hkN,QF (Nat.lt_trans hk0 hkN),Z0t hkN]
 have ht:=Z1n (r:=rowOf S (k-1)) (r':=rowOf S k) (by rw[JU,JU]) (by rw[JU];exact Nat.lt_succ_of_le hm.2.1) ((kdsOf S).getD j 0)
 rw[hpl,←h.kd_rk hk3,Z4B (show(kdsOf S).Pairwise (· < ·) from Q9 _) hj (h.rk_lt hk3)] at ht
 by_cases z:j<(rksOf S).getD (k-1) 0
 ·rw[if_pos (ht.mpr z).symm,if_neg (by exact Nat.not_le.mpr z)]
 ·rw[if_neg (fun e=>z (ht.mp e.symm)),if_pos (by exact Nat.not_lt.mp z)]
theorem SzOk.p1(h:SzOk S):stgsF (wordsT S.sum (rksOf S)) (kdsOf S).length=(kdsOf S).map (stageF (rowsOf S) (letsF S.length)):=by
 have hp:=h.pat
 simp only[patOk,Bool.and_eq_true] at hp
 rw[Z8A,Z9c (stageF (rowsOf S) (letsF S.length)) (kdsOf S)]
 refine List.map_congr_left fun j hj=>?_
 have:=List.all_eq_true.mp hp.1.1.1.2 j hj
 rw[beq_iff_eq.mp this,h.stage (List.mem_range.mp hj)]
end
noncomputable abbrev wF(F:Nat→Nat)(y:Pc):Pc:=(F y.1,y.2)
theorem Z2R(hF:∀a b,a≤B→b≤B→(F a<F b↔a<b)):∀(rp:List Pc) (p:Nat) (hand:List Nat) (ms:List (List Nat)),p≤B→(∀x∈rp,x.1≤B)→mergeR (F p) (rp.map (wF F)) hand ms=((mergeR p rp hand ms).1.map (wF F),(mergeR p rp hand ms).2)
 |[],p,hand,ms,_,_=>rfl
 |(w,q)::rp,p,hand,ms,hp,h=>by
  have e:=hF p w hp (h _ (.head _))
  have ih:=Z2R hF rp p (q++hand) (ms++[q++[124]++hand]) hp fun x hx=>h x (.tail _ hx)
  rw[List.map_cons]
  show(if F p<F w then _ else _)=_
  rw[mergeR]
  by_cases z:p<w
  ·rw[if_pos (e.mpr z),if_pos z];exact ih
  ·rw[if_neg (fun y=>z (e.mp y)),if_neg z];rfl
theorem Z8X(hF:∀a b,a≤B→b≤B→(F a<F b↔a<b)):∀l:List (Nat×Nat),(∀x∈l,x.1≤B)→pileR (l.map fun x=>(F x.1,x.2))=((pileR l).1.map (wF F),(pileR l).2):=by
 refine Z8I (fun V=>rfl) fun l x ih h=>?_
 have h1:∀y∈l,y.1≤B:=fun y hy=>h y (List.mem_append.mpr (.inl hy))
 have h2:x.1≤B:=h x (List.mem_append.mpr (.inr (.head _)))
 rw[List.map_append,List.map_singleton,Q4,Q4,ih h1]
 have m:=Z2R hF (pileR l).1 x.1 [x.2] (pileR l).2 h2 (PileOk.all l h1).whites
 unfold stepP
 simp only[m,List.map_cons]
section
variable{S:List Nat}
theorem SzOk.pows_map(h:SzOk S):(rksOf S).map (fun r=>FF S (r+1))=powsOf S:=by
 rw[rksOf,ranksOf,List.map_map]
 have:∀p∈powsOf S,((fun r=>FF S (r+1))∘fun p=>(kindsF (powsOf S)).idxOf p) p=id p:=fun p hp=>by
  refine Z4 (List.mem_map.mp hp) ?_
  clear hp;rintro k hk rfl
  have hk:k+1<S.length:=Nat.add_lt_of_lt_sub (List.mem_range.mp hk)
  show FF S ((kdsOf S).idxOf (powOf S k)+1)=_
  rw[←Z8N hk,h.FF_rk hk];rfl
 rw[List.map_congr_left this,List.map_id]
theorem SzOk.pairs_map(h:SzOk S):pairsOf S=(upR (rksOf S)).map fun x=>(FF S x.1,x.2):=by
 have hlo:=h.lo
 have e:(rksOf S).length+1=S.length:=by rw[Jv,Nat.sub_add_cancel (Nat.le_trans (by decide) hlo)]
 have z:=List.zip_map_left (f:=FF S) (l₁:=(rksOf S).map (· + 1)++[0]) (l₂:=letsF S.length)
 rw[List.map_append,List.map_map,show((rksOf S).map ((FF S)∘fun x=>x+1))=powsOf S from h.pows_map] at z
 rw[pairsOf,upR,e]
 exact z
theorem SzOk.up_le(h:SzOk S):∀x∈upR (rksOf S),x.1≤(kdsOf S).length:=fun x hx=>by
 have h1:=(List.of_mem_zip hx).1
 rcases List.mem_append.mp h1 with z | z
 ·refine Z4 (List.mem_map.mp z) fun r hr e=>?_
  refine Z4 (List.mem_map.mp hr) ?_
  rintro p hp rfl
  have:_<(kdsOf S).length:=Z1d h.sixty hp
  exact e▸this
 ·rw[List.mem_singleton.mp z];exact Nat.zero_le _
theorem SzOk.pile(h:SzOk S)(k:Nat):pileR ((pairsOf S).take k)=((pileR ((upR (rksOf S)).take k)).1.map (wF (FF S)),(pileR ((upR (rksOf S)).take k)).2):=by
 rw[h.pairs_map,←List.map_take]
 exact Z8X (B:=(kdsOf S).length) (fun a b ha hb=>h.FF_lt ha hb) _ fun x hx=>h.up_le x (List.mem_of_mem_take hx)
theorem SzOk.merges(h:SzOk S):mergesOf S=(pileR (upR (rksOf S))).2:=by
 have:=h.pile (pairsOf S).length
 rw[List.take_length,show(pairsOf S).length=(upR (rksOf S)).length by rw[h.pairs_map,List.length_map],List.take_length] at this
 rw[mergesOf,this]
theorem SzOk.rise(h:SzOk S):∀{i:Nat},i<(kdsOf S).length→i+1≤(kdsOf S).getD i 0
 |0,hi=>by
  rw[List.getD_eq_getElem?_getD,List.getElem?_eq_getElem hi]
  exact(h.pows ((Jy h.sixty).mp (List.getElem_mem hi))).1
 |i+1,hi=>by
  have h1:=h.rise (i:=i) (by exact Nat.le_of_lt ‹_›)
  have h2:=Z3s (show(kdsOf S).Pairwise (· < ·) from Q9 _) hi (Nat.lt_succ_self i)
  exact Nat.lt_of_le_of_lt h1 h2
theorem SzOk.rk_le(h:SzOk S)(hk:k+1<S.length):(rksOf S).getD k 0+1≤powOf S k:=by
 have:=h.rise (h.rk_lt hk)
 rw[h.kd_rk hk] at this;exact this
theorem SzOk.bound(h:SzOk S)(hk:k+1<S.length)(hm:m≤(rksOf S).getD k 0+1):2^m*(S.getD k 0+S.getD (k+1) 0)<4*S.sum:=by
 have h1:=h.mids.bound hk
 have h2:midF S (k+1)-midF S k=S.getD k 0+S.getD (k+1) 0:=by unfold midF;rw[Y1 S k,Nat.mul_add,Nat.two_mul (S.getD k 0),←Nat.add_assoc,Nat.add_assoc (2*_+_),Nat.add_sub_cancel_left]
 rw[h2] at h1
 exact Nat.lt_of_le_of_lt (Nat.mul_le_mul_right _ (Nat.pow_le_pow_right (by decide) (Nat.le_trans hm (h.rk_le hk)))) h1
theorem SzOk.p2(h:SzOk S):∀k<S.length,2^movesR (mergesOf S) (ltr k)*S.getD k 0<4*S.sum:=fun k hk=>by
 have hp:=h.pat
 simp only[patOk,Bool.and_eq_true] at hp
 have hlo:=h.lo
 have h1:=decide_eq_true_eq.mp (List.all_eq_true.mp hp.2 k (List.mem_range.mpr (by rw[Jv,Nat.sub_add_cancel (Nat.le_trans (by decide) hlo)];exact hk)))
 rw[←h.merges,Jv] at h1
 generalize movesR (mergesOf S) (ltr k)=m at h1 ⊢
 have left:1≤k→m≤(rksOf S).getD (k-1) 0+1→2^m*S.getD k 0<4*S.sum:=fun k1 hm=>by
  have:=h.bound (k:=k-1) (by rw[Nat.sub_add_cancel k1];exact hk) hm
  rw[Nat.sub_add_cancel k1] at this
  exact Nat.lt_of_le_of_lt (Nat.mul_le_mul_left _ (Nat.le_add_left _ _)) this
 have right:k+1<S.length→m≤(rksOf S).getD k 0+1→2^m*S.getD k 0<4*S.sum:=fun k1 hm=>
  Nat.lt_of_le_of_lt (Nat.mul_le_mul_left _ (Nat.le_add_right _ _)) (h.bound k1 hm)
 by_cases z:k=0
 ·rw[if_pos z,if_pos (by rw[z];exact Nat.sub_pos_of_lt (Nat.lt_of_lt_of_le (by decide) hlo))] at h1
  exact right (by rw[z];exact Nat.lt_of_lt_of_le (by decide) hlo) (by assumption)
 ·rw[if_neg z] at h1
  by_cases y:k<S.length-1
  ·rw[if_pos y] at h1
   rcases Nat.le_total ((rksOf S).getD (k-1) 0+1) ((rksOf S).getD k 0+1) with w | w
   ·exact right (Nat.add_lt_of_lt_sub y) (Nat.le_trans h1 (Nat.le_of_eq (Nat.max_eq_right w)))
   ·exact left (by exact Nat.pos_of_ne_zero ‹_›) (Nat.le_trans h1 (Nat.le_of_eq (Nat.max_eq_left w)))
  ·rw[if_neg y] at h1
   exact left (by exact Nat.pos_of_ne_zero ‹_›) (by assumption)
theorem SzOk.p3(h:SzOk S):let parts:=prtsF spF (wordsT S.sum (rksOf S)) (kdsOf S).length
  (∀w∈parts,w≠[]∧w.length≤1000)∧parts.length=S.length-1∧sortF ((parts.map D.str).map kfD) (parts.map .str)=(mergesOf S).map .str:=by
 have hp:=h.pat
 simp only[patOk,patSort,Bool.and_eq_true] at hp
 refine ZG hp.1.1.2 ?_
 rintro⟨⟨q1,q2⟩,q3⟩ q4
 rw[Z8U]
 refine⟨fun w hw=>?_,by rw[of_decide_eq_true q3,Jv],?_⟩
 ·have:=List.all_eq_true.mp q4 w hw
  rw[Bool.and_eq_true,bne_iff_ne,decide_eq_true_eq] at this
  exact⟨this.1,by exact Nat.le_trans this.2 (by decide)⟩
 ·have e:((prtsR (rksOf S) (kdsOf S).length).map D.str).map kfD=(prtsR (rksOf S) (kdsOf S).length).map kfL:=by rw[List.map_map];rfl
  rw[e,sortF,h.merges,←beq_iff_eq.mp q1,List.map_map]
  refine List.map_congr_left fun i hi=>?_
  have hi:=of_decide_eq_true (List.all_eq_true.mp q2 i hi)
  rw[List.getD_eq_getElem?_getD,List.getElem?_map,List.getElem?_eq_getElem hi]
  show _=D.str ((prtsR (rksOf S) (kdsOf S).length).getD i [])
  rw[List.getD_eq_getElem?_getD,List.getElem?_eq_getElem hi];rfl
end
end
section
open PySem PySem.W PyProof.Rows
noncomputable def render(F:Nat→Nat)(l:List (Nat×Nat)):List Nat:=(l.map fun x=>List.replicate (F x.2) 32++[x.1]).flatten
theorem Z6a(F:Nat→Nat)(a b:List (Nat×Nat)):render F (a++b)=render F a++render F b:=by rw[render,List.map_append,List.flatten_append];rfl
theorem Z1x(h0:F 0=0):∀(cs:List Nat) (n:Nat),cs.length≤n→render F (cs.zip (List.replicate n 0))=cs
 |[],_,_=>rfl
 |c::cs,0,h=>absurd h (Nat.not_succ_le_zero _)
 |c::cs,n+1,h=>by
  rw[List.replicate_succ,List.zip_cons_cons,render,List.map_cons,List.flatten_cons,h0]
  show c::render F _=_
  rw[Z1x h0 cs n (by simpa using h)]
theorem Z0Q(h0:F 0=0):∀X:List Pc,(∀x∈X,x.2≠[]∧x.2.length≤10)→(((X.map (wF F)).map pieceOf).map pieceTxt).flatten=render F (X.map fun x=>x.2.zip (x.1::List.replicate 10 0)).flatten
 |[],_=>rfl
 |(w,[])::X,h=>absurd rfl (h _ (.head _)).1
 |(w,c::cs)::X,h=>by
  have h1:=(h _ (.head _)).2
  have ih:=Z0Q h0 X fun x hx=>h x (.tail _ hx)
  rw[List.map_cons,List.map_cons,List.map_cons,List.flatten_cons,ih,List.map_cons,List.flatten_cons,Z6a]
  refine congrArg (·++_) ?_
  show List.replicate (F w) 32++(c::cs)=render F ((c,w)::cs.zip (List.replicate 10 0))
  have e:=Z1x h0 cs 10 (by have h1:cs.length+1≤10:=h1;exact Nat.le_of_lt h1)
  rw[render,List.map_cons,List.flatten_cons]
  show _=(List.replicate (F w) 32++[c])++render F _
  rw[e,List.append_assoc];rfl
theorem Z2K:∀ps:List (List Nat×List Nat),(ps.map pieceLen).sum=(((ps.map pieceTxt).flatten).length:Int)
 |[]=>rfl
 |p::ps=>by
  rw[List.map_cons,List.sum_cons,Z2K ps,List.map_cons,List.flatten_cons,List.length_append,pieceLen,pieceTxt,List.length_append];exact rfl
theorem Z1I:∀(l:List Nat) (a:Nat),l.foldl min a≤a∧(∀x∈l,l.foldl min a≤x)∧(l.foldl min a=a∨l.foldl min a∈l)
 |[],a=>⟨Nat.le_refl _,(fun V h=>nomatch h),.inl rfl⟩
 |x::l,a=>by
  refine Z0K (Z1I l (min a x)) fun h1 h2 h3=>?_
  rw[List.foldl_cons]
  refine⟨Nat.le_trans h1 (Nat.min_le_left _ _),fun y hy=>?_,?_⟩
  ·rcases List.mem_cons.mp hy with rfl | hy
   ·exact Nat.le_trans h1 (Nat.min_le_right _ _)
   ·exact h2 y hy
  ·rcases h3 with h3 | h3
   ·rcases Nat.le_total a x with z | z
    ·exact .inl (h3.trans (Nat.min_eq_left z))
    ·exact .inr (by rw[h3,Nat.min_eq_right z];exact .head _)
   ·exact .inr (.tail _ h3)
theorem Z0H{G:Nat→Int}:∀(l acc:List Nat),(∀a∈acc++l,∀c∈acc++l,G a=G c→a=c)→(l.map G).foldl step_dedup (acc.map G)=(l.foldl (fun acc x=>if x∈acc then acc else acc++[x]) acc).map G
 |[],_,_=>rfl
 |x::l,acc,h=>by
  rw[List.map_cons,List.foldl_cons,List.foldl_cons]
  have hx:x∈acc++x::l:=List.mem_append.mpr (.inr (.head _))
  by_cases z:x∈acc
  ·have e:step_dedup (acc.map G) (G x)=acc.map G:=if_pos (show((acc.map G).any fun y=>y==G x)=true from List.any_eq_true.mpr ⟨G x,List.mem_map.mpr ⟨x,z,rfl⟩,beq_self_eq_true (G x)⟩)
   rw[e,if_pos z]
   exact Z0H l acc fun a ha c hc=>h a (by rcases List.mem_append.mp ha with q | q;exact List.mem_append.mpr (.inl q);exact List.mem_append.mpr (.inr (.tail _ q))) c (by rcases List.mem_append.mp hc with q | q;exact List.mem_append.mpr (.inl q);exact List.mem_append.mpr (.inr (.tail _ q)))
  ·have e:step_dedup (acc.map G) (G x)=(acc++[x]).map G:=by
    refine(if_neg fun y=>z ?_).trans (by rw[List.map_append];rfl)
    refine Z4 (List.any_eq_true.mp y) fun v hv e=>?_
    refine Z4 (List.mem_map.mp hv) ?_
    clear hv y;rintro a ha rfl
    have:=h a (List.mem_append.mpr (.inl ha)) x hx (beq_iff_eq.mp e)
    exact this▸ha
   rw[e,if_neg z]
   exact Z0H l (acc++[x]) (by rw[List.append_assoc];exact h)
section
variable{S:List Nat}
theorem SzOk.place(h:SzOk S)(hik:i≤k)(hk:k+1<S.length):placeF (rowOf S i) (rowOf S (k+1))=FF S (leastR (rksOf S) i k+1):=by
 have hl:∀t,i≤t→t≤k→(rksOf S).getD t 0∈((rksOf S).take (k+1)).drop i:=fun t h1 h2=>by
  have ht:t<(rksOf S).length:=by rw[Jv];exact Nat.lt_of_le_of_lt h2 (Nat.lt_sub_of_add_lt hk)
  refine List.mem_iff_getElem?.mpr ⟨t-i,?_⟩
  rw[List.getElem?_drop,Nat.add_sub_cancel' h1,List.getElem?_take,if_pos (Nat.lt_succ_of_le h2),List.getD_eq_getElem?_getD,List.getElem?_eq_getElem ht];rfl
 refine Z0K (Z1I (((rksOf S).take (k+1)).drop i) 100) fun m1 m2 m3=>?_
 have h0:=m2 _ (hl i (Nat.le_refl _) hik)
 have h1:=h.rk_lt (k:=i) (Nat.lt_of_le_of_lt (Nat.succ_le_succ hik) hk)
 have hK:(kdsOf S).length≤(powsOf S).length:=JL (powsOf S)
 have hP:=Jr S
 have hhi:=h.hi
 have hm:∃t,i≤t∧t≤k∧(rksOf S).getD t 0=leastR (rksOf S) i k:=by
  rcases m3 with m3 | m3
  ·exact absurd (Nat.lt_of_lt_of_le (Nat.lt_of_le_of_lt h0 h1) (Nat.le_trans hK (Nat.le_trans (Nat.le_of_eq hP) (Nat.le_trans (Nat.sub_le _ _) hhi)))) (by rw[m3];decide)
  ·refine Zi (List.mem_iff_getElem?.mp m3) fun d hd=>?_
   rw[List.getElem?_drop,List.getElem?_take] at hd
   split at hd
   ·rename_i z
    exact⟨i+d,by exact Nat.le_add_right _ _,by exact Nat.le_of_lt_succ z,by rw[List.getD_eq_getElem?_getD,hd];rfl⟩
   ·cases hd
 refine Zm hm fun t t1 t2 t3=>?_
 have ht1:t+1<S.length:=Nat.lt_of_le_of_lt (Nat.succ_le_succ t2) hk
 rw[←t3,h.FF_rk ht1]
 have p1:=h.mids.place (i:=i) (k:=k+1) (Nat.lt_succ_of_le hik) hk
 have p2:=h.mids.place (i:=t) (k:=t+1) (by exact Nat.le_refl _) ht1
 have key:∀j,j≤2*bl S.sum→(j<placeF (rowOf S i) (rowOf S (k+1))↔j<powOf S t):=fun j hj=>by
  refine(h.mids.least hik hk hj).trans ⟨fun z=>z t t1 t2,fun z u u1 u2=>?_⟩
  have e1:¬(rksOf S).getD u 0<(rksOf S).getD t 0:=by
   have:=m2 _ (hl u u1 u2)
   rw[t3];exact Nat.not_lt.mpr this
  rw[h.rk_iff (Nat.lt_of_le_of_lt (Nat.succ_le_succ u2) hk) ht1] at e1
  exact Nat.lt_of_lt_of_le z (Nat.not_lt.mp e1)
 rcases Nat.lt_trichotomy (placeF (rowOf S i) (rowOf S (k+1))) (powOf S t) with z | z | z
 ·exact absurd ((key _ p1.2.1).mpr z) (Nat.lt_irrefl _)
 ·exact z
 ·exact absurd ((key _ p2.2.1).mp z) (Nat.lt_irrefl _)
end
section
variable{S:List Nat}
theorem Z4P(rs:List Nat)(k:Nat):(placesR rs k).length=k+1:=by simp[placesR]
theorem ZaH:FF S 0=0:=rfl
theorem SzOk.places(h:SzOk S)(hk:k<S.length):placesI (rowsOf S) k=(placesR (rksOf S) k).map fun r=>((FF S r:Nat):Int):=by
 rw[placesI,placesR,List.map_map]
 refine List.map_congr_left fun i hi=>?_
 have hi:i<k+1:=List.mem_range.mp hi
 show _=((FF S (if k<(rksOf S).length then leastR (rksOf S) i k+1 else 0):Nat):Int)
 rw[J8,Jv]
 by_cases z:k+1<S.length
 ·rw[if_pos z,if_pos (Nat.lt_sub_of_add_lt z),QF (by exact Nat.lt_trans hi z),QF z,h.place (by exact Nat.le_of_lt_succ hi) z]
 ·clear hi;rw[if_neg z,if_neg fun y=>z (Nat.add_lt_of_lt_sub y)];rfl
theorem SzOk.placesR_le(h:SzOk S):∀r∈placesR (rksOf S) k,r≤(kdsOf S).length:=fun r hr=>by
 refine Z4 (List.mem_map.mp hr) ?_
 clear hr;rintro i hi rfl
 have hi:i<k+1:=List.mem_range.mp hi
 split
 ·rename_i z
  have hi':i<(rksOf S).length:=by exact Nat.le_trans hi z
  have h1:=(Z1I (((rksOf S).take (k+1)).drop i) 100).2.1 ((rksOf S).getD i 0) (List.mem_iff_getElem?.mpr ⟨0,by rw[List.getElem?_drop,List.getElem?_take,if_pos (by exact hi),List.getD_eq_getElem?_getD,List.getElem?_eq_getElem hi'];simp⟩)
  have h2:=h.rk_lt (k:=i) (by rw[Jv] at hi';exact Nat.add_lt_of_lt_sub hi')
  exact Nat.le_trans (Nat.succ_le_succ h1) h2
 ·exact Nat.zero_le _
theorem SzOk.FF_inj(h:SzOk S)(ha:a≤(kdsOf S).length)(hc:c≤(kdsOf S).length)(e:FF S a=FF S c):a=c:=by
 rcases Nat.lt_trichotomy a c with z | z | z
 ·have:=(h.FF_lt ha hc).mpr z;lia
 ·exact z
 ·have:=(h.FF_lt hc ha).mpr z;lia
theorem SzOk.stateTxt(h:SzOk S)(hk:k<S.length):stateF (placesI (rowsOf S) k) (letsF S.length) k=render (FF S) (stateR (rksOf S) k):=by
 have hl:=Z4P (rksOf S) k
 rw[stateF,render,stateR,List.map_map,h.places hk]
 refine congrArg List.flatten (List.map_congr_left fun i hi=>?_)
 have hi:i<k+1:=List.mem_range.mp hi
 have hg:((placesR (rksOf S) k).map fun r=>((FF S r:Nat):Int)).getD i 0=(FF S ((placesR (rksOf S) k).getD i 0):Nat):=by
  rw[List.getD_eq_getElem?_getD,List.getElem?_map,List.getD_eq_getElem?_getD,List.getElem?_eq_getElem (by exact Nat.lt_of_lt_of_eq hi (Eq.symm hl))];rfl
 have hmem:(placesR (rksOf S) k).getD i 0∈placesR (rksOf S) k:=by rw[List.getD_eq_getElem?_getD,List.getElem?_eq_getElem (by exact Nat.lt_of_lt_of_eq hi (Eq.symm hl))];exact List.getElem_mem _
 have hin:((placesR (rksOf S) k).map fun r=>((FF S r:Nat):Int)).getD i 0∈((placesR (rksOf S) k).map fun r=>((FF S r:Nat):Int)).take i↔(placesR (rksOf S) k).getD i 0∈(placesR (rksOf S) k).take i:=by
  rw[hg,←List.map_take,List.mem_map]
  constructor
  ·rintro⟨r,hr,e⟩
   have:=h.FF_inj (h.placesR_le r (List.mem_of_mem_take hr)) (h.placesR_le _ hmem) (by exact Int.natCast_inj.mp e)
   exact this▸hr
  ·exact fun z=>⟨_,z,rfl⟩
 show stPart _ _ i=List.replicate (FF S (if _ then 0 else _)) 32++[ltr i]
 rw[stPart,Z0t (by exact Nat.lt_of_lt_of_le ‹_› ‹_›)]
 congr 2
 by_cases z:(placesR (rksOf S) k).getD i 0∈(placesR (rksOf S) k).take i
 ·rw[if_pos (hin.mpr z),if_pos z];rfl
 ·rw[if_neg (fun y=>z (hin.mp y)),if_neg z,hg,Int.toNat_natCast]
theorem SzOk.p4(h:SzOk S):statesD S.sum (pairsOf S)=(List.range S.length).map (stateE S):=by
 have hp:=h.pat
 simp only[patOk,Bool.and_eq_true] at hp
 have hlo:=h.lo
 rw[statesD,Z2N h]
 refine List.map_congr_left fun k hk=>?_
 have hk:=List.mem_range.mp hk
 have h1:=List.all_eq_true.mp hp.1.2 k (List.mem_range.mpr (by rw[Jv];lia))
 simp only[Bool.and_eq_true] at h1
 refine ZG h1 ?_
 rintro⟨e1,e2⟩ e3
 rw[h.pile (k+1)]
 generalize (pileR ((upR (rksOf S)).take (k+1))).1=X at e1 e2 e3
 have ht:(((pileP (X.map (wF (FF S)))).map pieceTxt)).flatten=stateF (placesI (rowsOf S) k) (letsF S.length) k:=by
  rw[pileP,←List.map_reverse,Z0Q ZaH,h.stateTxt hk,←beq_iff_eq.mp e1];rfl
  intro x hx
  have:=List.all_eq_true.mp e3 x (List.mem_reverse.mp hx)
  rw[Bool.and_eq_true,bne_iff_ne,decide_eq_true_eq] at this
  exact this
 have hd:(((placesI (rowsOf S) k).foldl step_dedup []).length:Nat)=X.length:=by
  rw[h.places hk,show([]:List Int)=([]:List Nat).map (fun r=>((FF S r:Nat):Int)) from rfl,Z0H _ _ fun a ha c hc e=>h.FF_inj (h.placesR_le a (by exact ha)) (h.placesR_le c (by exact hc)) (by exact Int.natCast_inj.mp e),List.length_map]
  exact beq_iff_eq.mp e2
 rw[stateD,stateE,Z2K,ht,hd,List.length_map,show(S.sum:Int)+((stateF (placesI (rowsOf S) k) (letsF S.length) k).length:Int)=(((stateF (placesI (rowsOf S) k) (letsF S.length) k).length+S.sum:Nat):Int) by push_cast;lia]
end
end
section
open PySem PySem.Spec PySem.Calls PyProof.Rows PySem.W PySem.SeqAt
variable{K:Wd}{A:Around}{g:Gh}{n:Nat}{env:Env}{α:Type}
theorem Zak(l:List (List Nat)):(List.range l.length).map (fun j=>l.getD j [])=l:=by
 apply List.ext_getElem (by exact(List.length_map _).trans List.length_range)
 intro i h1 h2
 rw[List.getElem_map,List.getElem_range,List.getD_eq_getElem?_getD,List.getElem?_eq_getElem h2];rfl
theorem SzOk.last{S:List Nat}(h:SzOk S):wordsT S.sum (rksOf S) (kdsOf S).length=(letsF S.length).map fun c=>[c]:=by
 have hp:=h.pat
 have hlo:=h.lo
 simp only[patOk,Bool.and_eq_true] at hp
 have:=hp.1.1.1.1.2
 rw[patEnd,beq_iff_eq,Jv,Nat.sub_add_cancel (Nat.le_trans (show 1≤5 by decide) hlo)] at this
 rw[wordsT,this,letsF,List.map_map,List.map_map];rfl
theorem Zc0(X:WX K){ds:List Int}(hds:ds.length≤63)(hv:Zu g.im (.lst (ds.map .int)) v)(r:Room A (n+302)):gwp K A (call (.ref a_law) [v]) (fun u g'=>u=.bool true∧g'.gs=g.gs) g:=by
 refine Zh (n:=n+300) (fn:=lawFn) (S':=[]) (binds:=[("script",v)]) (bi:=[(0,.lst (ds.map .int))]) X.f_law r (Ze (by rfl)) Zbm ZaZ (Z3 X.gt ZbN)
  ⟨.inl rfl,hv,trivial⟩ fun A' L cells cs g' r' H=>?_
 have hS:=Z4x ds
 refine Zck (n:=n+298) X hds H r' fun g₁ F=>?_
 generalize sizesOf ds=S at *
 have hp:=hS.pat
 simp only[patOk,Bool.and_eq_true] at hp
 have hK:(kdsOf S).length≤(powsOf S).length:=JL (powsOf S)
 have hP:=Jr S
 have hhi:=hS.hi
 have hlo:=hS.lo
 refine Z0K hS.p3 fun q1 q2 q3=>?_
 refine Zcj (n:=n) X hS r' F fun g₂ F=>Zci (n:=n) X hS r' F fun g₃ F=>ZbB (n:=n) X hS r' F fun g₄ F=>ZbA (n:=n) X hS r' F fun g₅ F=>?_
 refine Zch (n:=n) X hS r' F fun x dx pb lf fs rest g₆ hnd x2 x3 hst F=>?_
 refine Zcg (n:=n) X hS (sp:=spF) (W:=wordsT S.sum (rksOf S)) rfl (Zb5 _ (show(kdsOf S).length≤10 by lia) hp.1.1.1.1.1) r' hnd hst F fun g₇ hst F=>?_
 refine Zcf (n:=n) X hS hS.p1 r' hst F fun g₈ hst F=>?_
 refine Zce (n:=n) X hS hS.p2 r' hst F fun g₉ hst F=>?_
 have hbd:bdB (prtsF spF (wordsT S.sum (rksOf S)) (kdsOf S).length).length (kas_sort (prtsF spF (wordsT S.sum (rksOf S)) (kdsOf S).length).length)=true:=by
  rw[q2]
  rcases(show S.length-1=4∨S.length-1=5 from(Nat.lt_or_ge S.length 6).elim (fun z=>Or.inl (by rw[Nat.le_antisymm (Nat.le_of_lt_succ z) hlo])) fun z=>Or.inr (by rw[Nat.le_antisymm hhi z])) with e | e
  ·rw[e];decide +kernel
  ·rw[e];decide +kernel
 refine Zcd (n:=n) X hS q1 (by lia) (Nat.le_trans (Nat.le_of_eq q2) (Nat.le_trans (Nat.sub_le _ _) (Nat.le_trans hhi (by decide)))) hbd q3 r' hst F fun g₁₀ hst F=>?_
 refine Zcc (n:=n) X hS hS.p4 r' hst F fun g₁₁ hst F=>?_
 have hlast:=hS.last
 have hl2:(wordsT S.sum (rksOf S) (kdsOf S).length++[[]]).length=S.length+1:=by rw[hlast,List.length_append,List.length_map,ZT];rfl
 refine ZbC (n:=n) X hS hl2 ?_ x2 x3 r' hnd hst F fun v g₁₂ l hv=>?_
 ·have:=Zak (wordsT S.sum (rksOf S) (kdsOf S).length++[[]]++[[35],[]])
  rw[List.length_append,hl2] at this
  refine this.trans ?_
  rw[hlast,List.append_assoc];rfl
 ·exact⟨Z07 hv,l.gs⟩
end
section
open PySem PySem.Spec PySem.Calls PyProof.Rows PySem.W
noncomputable def imOf(h:Heap):Im:=fun a=>if a∈TABS.map (·.2) then none else h.get? a
noncomputable def qnF(l c:Nat):Option Str:=(QN.find? fun x=>x.1==l&&x.2.1==c).map (·.2.2)
theorem ZX(e:h.get? a=some o)(ha:a∉TABS.map (·.2)):imOf h a=some o:=by
 unfold imOf;rw[if_neg ha];exact e
theorem Z9t(e:imOf h a=some o):h.get? a=some o:=by
 unfold imOf at e;split at e
 ·cases e
 ·exact e
noncomputable def baseOf(h:Heap)(os:OsState)(hl:h.NoLimit)(ht:∃o,h.get? 257=some o∧h.objs.size=258):Base where
 h₀:=h
 os:=os
 im:=imOf h
 tabs:=TABS
 qn:=qnF
 lim:=Z4 hl fun mc w01 h5=>Jk w01 fun o es ep h1 h2 h3 h4=>⟨o,es,ep,ZX h1 (by decide),h2,h3,by rw[h4];exact h5⟩
 top:=Z4 ht fun o h1 h2=>⟨257,o,ZX h1 (by decide),h2⟩
noncomputable def gh0(h:Heap)(gs:Array GenState):Gh:={im:=imOf h,mu:=fun V=>none,gs:=gs}
theorem ZbS(hl:s.heap.NoLimit)(ht:∃o,s.heap.get? 257=some o∧s.heap.objs.size=258)(hg:s.gens = #[])
  (htab:∀c P,(c,P)∈TABS→∃ps,s.heap.IsCode c P ps∧s.heap.TableAt c P ps∧TabFit qnF (imOf s.heap) ps):(gh0 s.heap #[]).Ok (baseOf s.heap s.os hl ht) s where
 im:=fun a o e=>Z9t e
 mu:=fun a o e=>by cases e
 dis:=fun a o o' V e=>by cases e
 base:=fun a o e=>e
 new:=fun a o e=>by cases e
 size:=Nat.le_refl _
 old:=OldK.refl _
 os:=rfl
 gens:=⟨#[],by rw[hg];rfl,fun x hx=>by simp at hx⟩
 tabs:=fun c P hm=>by
  replace hm:(c,P)∈TABS:=hm
  refine Zm (htab c P hm) fun ps h1 h2 h3=>?_
  have hP:P∈TABS.map (·.2):=List.mem_map.mpr ⟨(c,P),hm,rfl⟩
  have hc:c∉TABS.map (·.2):=by
   simp only[TABS,List.mem_cons,Prod.mk.injEq,List.not_mem_nil,or_false] at hm
   rcases hm with⟨rfl,V⟩ | ⟨rfl,V⟩ | ⟨rfl,V⟩ | ⟨rfl,V⟩ | ⟨rfl,V⟩ | ⟨rfl,V⟩<;>decide
  refine⟨by show imOf s.heap P=none;unfold imOf;rw[if_pos hP],?_,?_,?_,⟨ps,h2⟩,ps,h1,h2,h3⟩
  ·exact Heap.lt_size h2.2
  ·refine ZG h2 ?_
   rintro⟨o,vs,e,V⟩ V
   exact⟨o,ZX e hc⟩
  ·simp only[TABS,List.mem_cons,Prod.mk.injEq,List.not_mem_nil,or_false] at hm
   rcases hm with⟨V,rfl⟩ | ⟨V,rfl⟩ | ⟨V,rfl⟩ | ⟨V,rfl⟩ | ⟨V,rfl⟩ | ⟨V,rfl⟩<;>decide
 apart:=by show(TABS.map (·.2)).Nodup;decide
theorem Z7e(hn:h.Ns a m)(ha:a∉TABS.map (·.2)):∃o,imOf h a=some o∧NsObj o m:=
 Jk hn fun o es ep h1 h2 h3 h4=>⟨o,ZX h1 ha,es,ep,h2,h3,h4⟩
theorem Zcl{os:OsState}{hl ht}(hg:h.Ns mainGlobals mg)(hb:h.Ns builtinsNs mb)(h1:∀x v,(x,v)∈GT.take 22→mg x=some v)(h2:∀x v,(x,v)∈GT.drop 22→mg x=none∧mb x=some v):GtOk (baseOf h os hl ht) GT:=fun j x v e=>by
 refine Z4 (Z7e hg (by decide)) fun o e1 e2=>?_
 refine Z4 (Z7e hb (by decide)) fun o' e1' e2'=>?_
 have hm:=List.mem_of_getElem? e
 rw[←List.take_append_drop 22 GT] at hm
 rcases List.mem_append.mp hm with hm | hm
 ·exact .inl ⟨o,mg,e1,e2,h1 x v hm⟩
 ·exact .inr ⟨o,mg,o',mb,e1,e2,(h2 x v hm).1,e1',e2',(h2 x v hm).2⟩
noncomputable def strOf:Option Value→Option Str
 |some (.str x _)=>some x
 |_=>none
theorem Z1p(h:strOf v=some x):∃t,v=some (.str x t):=by
 unfold strOf at h;split at h
 ·cases h;exact⟨_,rfl⟩
 ·cases h
noncomputable def isInt:Value→Bool
 |.int _ _=>true
 |_=>false
theorem Z55(h:isInt v=true):∃i t,v=.int i t:=by cases v<;>first | exact⟨_,_,rfl⟩ | cases h
noncomputable def isBoo:Value→Bool
 |.bool _=>true
 |_=>false
theorem Z9r(h:isBoo v=true):∃i,v=.bool i:=by cases v<;>first | exact⟨_,rfl⟩ | cases h
noncomputable def isStrV:Value→Bool
 |.str _ _=>true
 |_=>false
theorem Z2W(h:isStrV v=true):∃i t,v=.str i t:=by cases v<;>first | exact⟨_,_,rfl⟩ | cases h
noncomputable def keysB(es:Array DictEntry):Bool:=es.toList.all fun e=>isStrV e.key
theorem YL(h:keysB es=true):StrKeys es:=fun e he=>Z2W (List.all_eq_true.mp h e (by simpa using he))
noncomputable def kv(e:DictEntry):Str×Value:=(match e.key with | .str n _=>n | _=> "",e.val)
theorem Z7Q(hs:StrKeys es)(h:es.toList.map kv=l)(x:Str):nsFind es x=l.lookup x:=by
 subst h
 obtain⟨es⟩:=es
 replace hs:∀e∈es,∃n t,e.key=.str n t:=fun e he=>hs e (by simpa using he)
 show((Array.mk es).find? fun e=>e.key.isStr x).map (·.val)=_
 rw[List.find?_toArray]
 induction es with
 |nil=>rfl
 |cons e es ih=>
  refine QD (hs e (List.mem_cons_self ..)) fun n t hk=>?_
  have e1:kv e=(n,e.val):=by unfold kv;rw[hk]
  have ih':=ih fun e' he'=>hs e' (List.mem_cons_of_mem _ he')
  rw[List.find?_cons,List.map_cons,List.lookup_cons,e1]
  have e2:e.key.isStr x=(x==n):=by rw[hk];show(n==x)=_;exact BEq.comm
  rw[e2]
  cases(x==n) with
  |true=>rfl
  |false=>exact ih'
noncomputable def lookF(h:Heap)(a:Addr):Option (Value×Data):=(h.get? a).map fun o=>(o.cls,o.data)
noncomputable def codeV(h:Heap)(c:Addr):Option (Option Str×Option Str):=(h.get? c).bind fun o=>match o.data with
 |.fields vs=>some (strOf vs[1]?,strOf vs[2]?)
 |_=>none
noncomputable def nsV(h:Heap)(a:Addr)(ns:List Str):Option (Bool×List (Option Value)):=(h.get? a).bind fun o=>match o.data with
 |.dict es _=>some (keysB es,ns.map (nsFind es))
 |_=>none
noncomputable def kvV(h:Heap)(a:Addr):Option (Bool×List (Str×Value)):=(h.get? a).bind fun o=>match o.data with
 |.dict es _=>some (keysB es,es.toList.map kv)
 |_=>none
noncomputable def tabV(h:Heap)(c:Addr):Option (Value×Option Value×Bool×Bool×Bool×Bool):=(h.get? c).bind fun o=>match o.data with
 |.fields vs=>some (o.cls,vs[11]?,isStrV (vs.getD 18 .none),isInt (vs.getD 7 .none),isBoo (vs.getD 9 .none),isInt (vs.getD 10 .none))
 |_=>none
noncomputable def oneV(h:Heap)(a:Addr):Option Nat:=(h.get? a).bind fun o=>match o.data with
 |.seq vs _=>some vs.size
 |_=>none
noncomputable def FL:List (Addr×Addr×FuncData):=[(a_Ac_init,c_Ac_init,fd_Ac_init),(a_Ac_push,c_Ac_push,fd_Ac_push),(a_Ac_pop,c_Ac_pop,fd_Ac_pop),(a_Ac_len,c_Ac_len,fd_Ac_len),(a_Ac_str,c_Ac_str,fd_Ac_str),(a_Ac_pc,c_Ac_pc,fd_Ac_pc),(a_d21,c_d21,fd_d21),(a_d32,c_d32,fd_d32),(a_i2d,c_i2d,fd_i2d),(a_d2i,c_d2i,fd_d2i),(a_dmp,c_dmp,fd_dmp),(a_idm,c_idm,fd_idm),(a_nl_init,c_nl_init,fd_nl_init),(a_nl_rc,c_nl_rc,fd_nl_rc),(a_nl_gt,c_nl_gt,fd_nl_gt),(a_nl_pt,c_nl_pt,fd_nl_pt),(a_ls,c_ls,fd_ls),(a_law_divided,c_law_divided,fd_law_divided),(a_law_doubled,c_law_doubled,fd_law_doubled),(a_law_place,c_law_place,fd_law_place),(a_law_words,c_law_words,fd_law_words),(a_law_bare,c_law_bare,fd_law_bare),(a_law_rounds,c_law_rounds,fd_law_rounds),(a_law_stage,c_law_stage,fd_law_stage),(a_law_pile,c_law_pile,fd_law_pile),(a_law_state,c_law_state,fd_law_state),(a_law,c_law,fd_law)]
noncomputable def headY(s:Shared):=(FL.map (fun x=>lookF s.heap x.1),FL.map (fun x=>codeV s.heap x.2.1),nsV s.heap mainGlobals ("__builtins__"::GT.map (·.1)),nsV s.heap builtinsNs ((GT.drop 22).map (·.1)),nsV s.heap cStatics ["thirdparty.any"],
 s.heap.get? 4,[C_Ac,C_nl,25].map s.heap.get?,kvV s.heap N_Ac,kvV s.heap N_nl,([(30:Addr)]).map (oneV s.heap),TABS.map (fun x=>tabV s.heap x.1),TABS.map (fun x=>s.heap.get? x.2),s.heap.objs.size)
noncomputable def ob_Ac:Obj:=excClassObj "_Accumulator" "_Accumulator" 101 100 [.type "list"] [.type "list",.type "object"] true [] [] false none none (some (.ref 22)) none (some (.str "_Accumulator" 198)) (some (.str "_Accumulator" 206)) (some (.bool true)) "list.__new__"
noncomputable def ob_nl:Obj:=excClassObj "_netrclex" "_netrclex" 185 184 [.type "object"] [.type "object"] true [] [] false none none none none (some (.str "_netrclex" 377)) (some (.str "_netrclex" 385)) (some (.bool true)) "object.__new__"
noncomputable def headA (_:World):=(FL.map (fun x=>some (Value.type "function",Data.func x.2.2)),FL.map (fun x=>some (some x.2.2.qualname,some PySem.Challenge.pw_sc0063_01.main.file)),some (true,some (Value.ref 4)::(GT.take 22).map (fun p=>some p.2)++(GT.drop 22).map fun V=>(none:Option Value)),some (true,(GT.drop 22).map fun p=>some p.2),some (true,[(none:Option Value)]),
 some ({cls:=.type "module",dict:=some builtinsNs}:Obj),[some ob_Ac,some ob_nl,some ({cls:=.type "cell",data:=.cell (some (.ref C_Ac))}:Obj)],some (true,CN_Ac),some (true,CN_nl),([(30:Addr)]).map (fun V=>some 1),TABS.map (fun x=>some (Value.type "code",some (Value.ref x.2),true,true,true,true)),TABS.map (fun V=>some ({cls:=.none,data:=.fields #[]}:Obj)),257)
theorem Y9{α β:Type}{f g:α→β}{l:List α}(h:l.map f=l.map g){a:α}(ha:a∈l):f a=g a:=by
 obtain⟨i,hi,rfl⟩:=List.getElem_of_mem ha
 have:=congrArg (fun l=>l[i]?) h
 simpa [hi] using this
theorem Z4X(e:lookF h a=some (c,d)):∃o,h.get? a=some o∧o.data=d∧o.cls=c:=by
 unfold lookF at e
 cases z:h.get? a with
 |none=>rw[z] at e;cases e
 |some o=>rw[z] at e;cases e;exact⟨o,rfl,rfl,rfl⟩
theorem Z5B(e:codeV h c=some (some q,some f)):∃o vs t t',h.get? c=some o∧o.data=.fields vs∧vs[1]? = some (.str q t)∧vs[2]? = some (.str f t'):=by
 unfold codeV at e
 cases z:h.get? c with
 |none=>rw[z] at e;cases e
 |some o=>
  rw[z] at e
  simp only[Option.bind_some] at e
  split at e
  ·rename_i vs hd
   simp only[Option.some.injEq,Prod.mk.injEq] at e
   refine Zi (Z1p e.1) fun t h1=>?_
   refine Zi (Z1p e.2) fun t' h2=>?_
   exact⟨o,vs,t,t',rfl,hd,h1,h2⟩
  ·cases e
theorem Z1H(e:nsV h a ns=some (true,l)):∃o es ep,h.get? a=some o∧o.data=.dict es ep∧StrKeys es∧ns.map (nsFind es)=l:=by
 unfold nsV at e
 cases z:h.get? a with
 |none=>rw[z] at e;cases e
 |some o=>
  rw[z] at e
  simp only[Option.bind_some] at e
  split at e
  ·rename_i es ep hd
   simp only[Option.some.injEq,Prod.mk.injEq] at e
   exact⟨o,es,ep,rfl,hd,YL e.1,e.2⟩
  ·cases e
theorem Z9o(e:kvV h a=some (true,l)):∃o es ep,h.get? a=some o∧o.data=.dict es ep∧StrKeys es∧∀x,nsFind es x=l.lookup x:=by
 unfold kvV at e
 cases z:h.get? a with
 |none=>rw[z] at e;cases e
 |some o=>
  rw[z] at e
  simp only[Option.bind_some] at e
  split at e
  ·rename_i es ep hd
   simp only[Option.some.injEq,Prod.mk.injEq] at e
   exact⟨o,es,ep,rfl,hd,YL e.1,Z7Q (YL e.1) e.2⟩
  ·cases e
theorem Za7(e:tabV h c=some (.type "code",some (.ref P),true,true,true,true))(eP:h.get? P=some {cls:=.none,data:=.fields #[]})(ne:c≠P):∃ps,h.IsCode c P ps∧h.TableAt c P ps∧TabFit qnF (imOf h) ps:=by
 unfold tabV at e
 cases z:h.get? c with
 |none=>rw[z] at e;cases e
 |some o=>
  rw[z] at e
  simp only[Option.bind_some] at e
  split at e
  ·rename_i vs hd
   simp only[Option.some.injEq,Prod.mk.injEq] at e
   refine Za5 e fun e1 e2 e3 e4 e5 e6=>?_
   refine QD (Z2W e3) fun f tf g3=>?_
   refine QD (Z55 e4) fun fl tg g4=>?_
   refine Zi (Z9r e5) fun inF g5=>?_
   refine QD (Z55 e6) fun tx tt g6=>?_
   have g2:vs.getD 11 .none=.ref P:=by rw[Array.getD_eq_getD_getElem?,e2];rfl
   exact⟨#[],⟨o,vs,f,tf,fl,tg,inF,tx,tt,_,z,hd,g2,g3,g4,g5,g6,eP,rfl,by simp[TriplesOk],ne⟩,⟨⟨o,vs,z,e1,hd,e2⟩,eP⟩,fun pos q c V e=>by cases e⟩
  ·cases e
theorem Zai(e:oneV h a=some 1):∃o v n,h.get? a=some o∧o.data=.seq #[v] n:=by
 unfold oneV at e
 cases z:h.get? a with
 |none=>rw[z] at e;cases e
 |some o=>
  rw[z] at e
  simp only[Option.bind_some] at e
  split at e
  ·rename_i vs n hd
   simp only[Option.some.injEq] at e
   exact Zi (Array.size_eq_one_iff.mp e) fun v hv=>⟨o,v,n,rfl,hv▸hd⟩
  ·cases e
section
variable{h:Heap}{os:OsState}{hl:h.NoLimit}{ht:∃o,h.get? 257=some o∧h.objs.size=258}
theorem J6 (h1:∀x∈FL,lookF h x.1=some (.type "function",.func x.2.2)) (h2:∀x∈FL,codeV h x.2.1=some (some x.2.2.qualname,some PySem.Challenge.pw_sc0063_01.main.file)) (hm:(a,c,fd)∈FL) (hc:fd.code=.ref c) (ha:a∉TABS.map (·.2)) (hn:c∉TABS.map (·.2)):FnB (baseOf h os hl ht) a fd:=by
 refine Zm (Z4X (h1 _ hm)) fun o e1 e2 e3=>?_
 refine Z6Y (Z5B (h2 _ hm)) fun oc vs t t' f1 f2 f3 f4=>?_
 exact⟨⟨o,ZX e1 ha,e2,e3⟩,c,oc,vs,t,hc,ZX f1 hn,f2,f3⟩
end
structure HeadOk(h:Heap):Prop where
 fns:∀x∈FL,lookF h x.1=some (.type "function",.func x.2.2)
 codes:∀x∈FL,codeV h x.2.1=some (some x.2.2.qualname,some PySem.Challenge.pw_sc0063_01.main.file)
 mg:nsV h mainGlobals ("__builtins__"::GT.map (·.1))=some (true,some (Value.ref 4)::(GT.take 22).map (fun p=>some p.2)++(GT.drop 22).map fun V=>(none:Option Value))
 mb:nsV h builtinsNs ((GT.drop 22).map (·.1))=some (true,(GT.drop 22).map fun p=>some p.2)
 st:nsV h cStatics ["thirdparty.any"]=some (true,[(none:Option Value)])
 bm:h.get? 4=some {cls:=.type "module",dict:=some builtinsNs}
 cA:h.get? C_Ac=some ob_Ac
 cN:h.get? C_nl=some ob_nl
 cc:h.get? 25=some {cls:=.type "cell",data:=.cell (some (.ref C_Ac))}
 nA:kvV h N_Ac=some (true,CN_Ac)
 nN:kvV h N_nl=some (true,CN_nl)
 dv:∀a∈[(30:Addr)],oneV h a=some 1
 tb:∀x∈TABS,tabV h x.1=some (Value.type "code",some (Value.ref x.2),true,true,true,true)
 tp:∀x∈TABS,h.get? x.2=some {cls:=.none,data:=.fields #[]}
theorem headOk{s:Shared}{w:World}(e:headY s=headA w):HeadOk s.heap∧s.heap.objs.size=257:=by
 refine ZG (Prod.mk.inj e) fun e1 e=>?_
 refine ZG (Prod.mk.inj e) fun e2 e=>?_
 refine ZG (Prod.mk.inj e) fun e3 e=>?_
 refine ZG (Prod.mk.inj e) fun e4 e=>?_
 refine ZG (Prod.mk.inj e) fun e5 e=>?_
 refine ZG (Prod.mk.inj e) fun e6 e=>?_
 refine ZG (Prod.mk.inj e) fun e7 e=>?_
 refine ZG (Prod.mk.inj e) fun e8 e=>?_
 refine ZG (Prod.mk.inj e) fun e9 e=>?_
 refine ZG (Prod.mk.inj e) fun e10 e=>?_
 refine ZG (Prod.mk.inj e) fun e11 e=>?_
 refine ZG (Prod.mk.inj e) fun e12 e13=>?_
 refine ZG (List.cons.inj e7) fun c1 e7=>?_
 refine ZG (List.cons.inj e7) fun c2 e7=>?_
 refine ZG (List.cons.inj e7) fun c3 e7=>?_
 exact⟨⟨fun x hx=>Y9 e1 hx,fun x hx=>Y9 e2 hx,e3,e4,e5,e6,c1,c2,c3,e8,e9,fun a ha=>Y9 e10 ha,fun x hx=>Y9 e11 hx,fun x hx=>Y9 e12 hx⟩,e13⟩
theorem Jz{h h':Heap}{α:Type}{f:Obj→Option α}{a:Addr}{x:α}(k:∀b o,h.get? b=some o→h'.get? b=some o)(e:(h.get? a).bind f=some x):(h'.get? a).bind f=some x:=by
 cases z:h.get? a with
 |none=>rw[z] at e;cases e
 |some o=>rw[z] at e;rw[k _ _ z];exact e
theorem HeadOk.keep{h h':Heap}(H:HeadOk h)(k:∀b o,h.get? b=some o→h'.get? b=some o):HeadOk h' where
 fns:=fun x hx=>by obtain⟨o,e,r,r'⟩:=Z4X (H.fns x hx);unfold lookF;rw[k _ _ e,←r,←r'];rfl
 codes:=fun x hx=>Jz k (H.codes x hx)
 mg:=Jz k H.mg
 mb:=Jz k H.mb
 st:=Jz k H.st
 bm:=k _ _ H.bm
 cA:=k _ _ H.cA
 cN:=k _ _ H.cN
 cc:=k _ _ H.cc
 nA:=Jz k H.nA
 nN:=Jz k H.nN
 dv:=fun a ha=>Jz k (H.dv a ha)
 tb:=fun x hx=>Jz k (H.tb x hx)
 tp:=fun x hx=>k _ _ (H.tp x hx)
theorem HeadOk.tab{h:Heap}(H:HeadOk h)(c P:Addr)(hm:(c,P)∈TABS):∃ps,h.IsCode c P ps∧h.TableAt c P ps∧TabFit qnF (imOf h) ps:=by
 refine Za7 (H.tb _ hm) (H.tp _ hm) ?_
 have:∀x∈TABS,x.1≠x.2:=by decide
 exact this _ hm
theorem ZbZ {h:Heap} {os:OsState} {hl:h.NoLimit} {ht:∃o,h.get? 257=some o∧h.objs.size=258} (H:HeadOk h) (w:World):WX ⟨PySem.Challenge.pw_sc0063_01,w,baseOf h os hl ht⟩ where
 gt:=by
  refine Jk (Z1H H.mg) fun o es ep a1 a2 a3 a4=>?_
  refine Jk (Z1H H.mb) fun o' es' ep' b1 b2 b3 b4=>?_
  rw[List.map_map] at b4
  have a4:=(List.cons.inj a4).2
  rw[List.append_eq] at a4
  have a5:(GT.take 22).map (fun p=>nsFind es p.1)++(GT.drop 22).map (fun p=>nsFind es p.1)=(GT.take 22).map (fun p=>some p.2)++(GT.drop 22).map fun V=>(none:Option Value):=by
   rw[←a4,←List.map_append,List.take_append_drop,List.map_map];rfl
  refine ZG (List.append_inj a5 (by simp only[List.length_map])) fun a6 a7=>?_
  exact Zcl (hl:=hl) (ht:=ht) ⟨o,es,ep,a1,a2,a3,fun V=>rfl⟩ ⟨o',es',ep',b1,b2,b3,fun V=>rfl⟩ (fun x v hm=>Y9 a6 hm) fun x v hm=>⟨Y9 a7 hm,Y9 b4 hm⟩
 md:=by
  refine Jk (Z1H H.mg) fun o es ep a1 a2 a3 a4=>?_
  exact⟨o,nsFind es,4,_,ZX a1 (by decide),⟨es,ep,a2,a3,fun V=>rfl⟩,(List.cons.inj a4).1,by decide,ZX H.bm (by decide),rfl,rfl,rfl⟩
 qn:=fun l c q hm=>by
  show qnF l c=some q
  have:∀p∈QN,qnF p.1 p.2.1=some p.2.2:=by decide +kernel
  exact this _ hm
 tab:=fun p hp=>hp
 f_Ac_init:=J6 (hl:=hl) (ht:=ht) H.fns H.codes (List.mem_of_getElem? (i:=0) rfl) rfl (by decide) (by decide)
 f_Ac_push:=J6 (hl:=hl) (ht:=ht) H.fns H.codes (List.mem_of_getElem? (i:=1) rfl) rfl (by decide) (by decide)
 f_Ac_pop:=J6 (hl:=hl) (ht:=ht) H.fns H.codes (List.mem_of_getElem? (i:=2) rfl) rfl (by decide) (by decide)
 f_Ac_len:=J6 (hl:=hl) (ht:=ht) H.fns H.codes (List.mem_of_getElem? (i:=3) rfl) rfl (by decide) (by decide)
 f_Ac_str:=J6 (hl:=hl) (ht:=ht) H.fns H.codes (List.mem_of_getElem? (i:=4) rfl) rfl (by decide) (by decide)
 f_Ac_pc:=J6 (hl:=hl) (ht:=ht) H.fns H.codes (List.mem_of_getElem? (i:=5) rfl) rfl (by decide) (by decide)
 f_d21:=J6 (hl:=hl) (ht:=ht) H.fns H.codes (List.mem_of_getElem? (i:=6) rfl) rfl (by decide) (by decide)
 f_d32:=J6 (hl:=hl) (ht:=ht) H.fns H.codes (List.mem_of_getElem? (i:=7) rfl) rfl (by decide) (by decide)
 f_i2d:=J6 (hl:=hl) (ht:=ht) H.fns H.codes (List.mem_of_getElem? (i:=8) rfl) rfl (by decide) (by decide)
 f_d2i:=J6 (hl:=hl) (ht:=ht) H.fns H.codes (List.mem_of_getElem? (i:=9) rfl) rfl (by decide) (by decide)
 f_dmp:=J6 (hl:=hl) (ht:=ht) H.fns H.codes (List.mem_of_getElem? (i:=10) rfl) rfl (by decide) (by decide)
 f_idm:=J6 (hl:=hl) (ht:=ht) H.fns H.codes (List.mem_of_getElem? (i:=11) rfl) rfl (by decide) (by decide)
 f_nl_init:=J6 (hl:=hl) (ht:=ht) H.fns H.codes (List.mem_of_getElem? (i:=12) rfl) rfl (by decide) (by decide)
 f_nl_rc:=J6 (hl:=hl) (ht:=ht) H.fns H.codes (List.mem_of_getElem? (i:=13) rfl) rfl (by decide) (by decide)
 f_nl_gt:=J6 (hl:=hl) (ht:=ht) H.fns H.codes (List.mem_of_getElem? (i:=14) rfl) rfl (by decide) (by decide)
 f_nl_pt:=J6 (hl:=hl) (ht:=ht) H.fns H.codes (List.mem_of_getElem? (i:=15) rfl) rfl (by decide) (by decide)
 f_ls:=J6 (hl:=hl) (ht:=ht) H.fns H.codes (List.mem_of_getElem? (i:=16) rfl) rfl (by decide) (by decide)
 f_law_divided:=J6 (hl:=hl) (ht:=ht) H.fns H.codes (List.mem_of_getElem? (i:=17) rfl) rfl (by decide) (by decide)
 f_law_doubled:=J6 (hl:=hl) (ht:=ht) H.fns H.codes (List.mem_of_getElem? (i:=18) rfl) rfl (by decide) (by decide)
 f_law_place:=J6 (hl:=hl) (ht:=ht) H.fns H.codes (List.mem_of_getElem? (i:=19) rfl) rfl (by decide) (by decide)
 f_law_words:=J6 (hl:=hl) (ht:=ht) H.fns H.codes (List.mem_of_getElem? (i:=20) rfl) rfl (by decide) (by decide)
 f_law_bare:=J6 (hl:=hl) (ht:=ht) H.fns H.codes (List.mem_of_getElem? (i:=21) rfl) rfl (by decide) (by decide)
 f_law_rounds:=J6 (hl:=hl) (ht:=ht) H.fns H.codes (List.mem_of_getElem? (i:=22) rfl) rfl (by decide) (by decide)
 f_law_stage:=J6 (hl:=hl) (ht:=ht) H.fns H.codes (List.mem_of_getElem? (i:=23) rfl) rfl (by decide) (by decide)
 f_law_pile:=J6 (hl:=hl) (ht:=ht) H.fns H.codes (List.mem_of_getElem? (i:=24) rfl) rfl (by decide) (by decide)
 f_law_state:=J6 (hl:=hl) (ht:=ht) H.fns H.codes (List.mem_of_getElem? (i:=25) rfl) rfl (by decide) (by decide)
 f_law:=J6 (hl:=hl) (ht:=ht) H.fns H.codes (List.mem_of_getElem? (i:=26) rfl) rfl (by decide) (by decide)
 k_Ac:=Jk (Z9o H.nA) fun o es ep e1 e2 e3 e4=>⟨⟨_,_,_,_,_,_,_,_,_,_,_,_,ZX H.cA (by decide)⟩,o,ZX e1 (by decide),es,ep,e2,e3,e4⟩
 k_nl:=Jk (Z9o H.nN) fun o es ep e1 e2 e3 e4=>⟨⟨_,_,_,_,_,_,_,_,_,_,_,_,ZX H.cN (by decide)⟩,o,ZX e1 (by decide),es,ep,e2,e3,e4⟩
 low:=by obtain⟨o,h1,h2⟩:=ht;show 200<h.objs.size;lia
 cc:=ZX H.cc (by decide)
 pr:=rfl
 cf:=fun c hc=>by
  have:∃x∈FL,x.2.1=c:=by
   simp only[List.mem_cons,List.not_mem_nil,or_false] at hc
   rcases hc with rfl | rfl | rfl<;>first | exact⟨_,List.mem_of_getElem? (i:=0) rfl,rfl⟩ | exact⟨_,List.mem_of_getElem? (i:=2) rfl,rfl⟩ | exact⟨_,List.mem_of_getElem? (i:=5) rfl,rfl⟩
  refine Z4 this ?_
  clear this;rintro x hx rfl
  refine Z6Y (Z5B (H.codes x hx)) fun oc vs t t' e1 e2 e3 e4=>?_
  refine⟨oc,vs,t',ZX e1 ?_,e2,e4⟩
  simp only[List.mem_cons,List.not_mem_nil,or_false] at hc
  rcases hc with h | h | h<;>rw[h]<;>decide
 stt:=by
  refine Jk (Z1H H.st) fun o es ep e1 e2 e3 e4=>?_
  exact⟨o,nsFind es,ZX e1 (by decide),⟨es,ep,e2,e3,fun V=>rfl⟩,(List.cons.inj e4).1⟩
 dv:=fun a ha=>by
  refine Za4 (Zai (H.dv a ha)) fun o v n e1 e2=>?_
  refine⟨o,v,n,ZX e1 ?_,e2⟩
  simp only[List.mem_cons,List.not_mem_nil,or_false] at ha
  rcases ha with rfl<;>decide
theorem Z2D{P:Params}{h:Heap}{im:Im}:∀{vs:List Value} {ns:List Int},WellAll P h vs (ofPys (ns.map PyData.int))→Z7 im (ns.map .int) vs
 |vs,[],w=>by
  simp only[List.map_nil,ofPys] at w
  cases w;exact Z7.nil
 |vs,n::ns,w=>by
  simp only[List.map_cons,ofPys] at w
  cases w with
  |cons a b=>
   simp only[ofPy] at a
   cases a
   exact Z7.cons Zp (Z2D b)
theorem Z8q{P:Params}{h:Heap}{im:Im}{a:Addr}{ns:List Int}(w:Well P h (.ref a) (ofPy (.list (ns.map PyData.int))))(hi:∀o,h.get? a=some o→im a=some o):Zu im (.lst (ns.map .int)) (.ref a):=by
 simp only[ofPy] at w
 cases w with
 |list h1 h2=>exact Zj.mpr ⟨_,_,0,rfl,hi _ h1,Z2D h2⟩
theorem Z4A:Room callerA (0+302):=⟨rfl,by decide +kernel,by decide +kernel⟩
theorem fin_of{s:Shared}(H:HeadOk s.heap)(hl:s.heap.NoLimit){P:Params}{ns:List Int}(W:Well P s.heap (.ref 257) (ofPy (.list (ns.map PyData.int))))(hsz:s.heap.objs.size=257+1)(hg:s.gens = #[])(hds:¬((63:Int)<(ns.length:Int))){w:World}{Q:Value→Shared→Prop}{E:Value→Shared→Prop}
  (hQ:∀s',OldK s.heap s'.heap→s'.os=s.os→AllBare s'.gens→Q (.bool true) s'):wpAny (model PySem.Challenge.pw_sc0063_01 w) callerA (call (.ref a_law) [.ref 257]) Q E s:=by
 have ht:∃o,s.heap.get? 257=some o∧s.heap.objs.size=258:=by
  simp only[ofPy] at W
  cases W with
  |list h1 h2=>exact⟨_,h1,hsz⟩
 have Wx:=ZbZ (os:=s.os) H w (hl:=hl) (ht:=ht)
 have ok:=ZbS hl ht hg H.tab
 have hr:Zu (gh0 s.heap #[]).im (.lst (ns.map .int)) (.ref 257):=Z8q W fun o e=>ZX e (by decide)
 have:=Zc0 (K:=⟨PySem.Challenge.pw_sc0063_01,w,baseOf s.heap s.os hl ht⟩) (A:=callerA) (n:=0) (g:=gh0 s.heap #[]) Wx (ds:=ns) (by lia) hr Z4A
 refine Qc (this s E ok) (fun v s' g' ok' e eg=>?_)
 subst e
 refine hQ s' ok'.old ok'.os ?_
 refine Z4 ok'.gens fun ex e1 e2=>?_
 rw[e1,eg,show(gh0 s.heap #[]).gs = #[] from rfl,Array.empty_append];exact e2
theorem law_addr{h:Heap}(H:HeadOk h){mg:Str→Option Value}(hn:h.Ns mainGlobals mg){fa:Addr}(hm:mg "law" = some (.ref fa)):fa=a_law:=by
 refine Jk hn fun o es ep e1 e2 e3 e4=>?_
 refine Jk (Z1H H.mg) fun o' es' ep' b1 b2 b3 b4=>?_
 rw[e1] at b1;cases b1
 clear e1;rw[e2] at b2;cases b2
 have z:some (nsFind es "law")=some (some (Value.ref a_law)):=congrArg (fun l=>l[22]?) b4
 rw[Option.some.injEq,e4,hm] at z
 clear b4 e4 hm;cases z;rfl
noncomputable def viewL:Program:={PySem.Challenge.pw_sc0063_01 with main:={PySem.Challenge.pw_sc0063_01.main with body:=PB.drop 25}}
noncomputable def looseL:List Str:=(GT.take 21).map (·.1)
end
open PySem PySem.Spec PySem.Calls PyProof.Rows PySem.W
theorem left_law:LeftO PySem.Challenge.pw_sc0063_01 viewL looseL (fun V=>true) headY headA 4000:=fun w=>by kernel_rfl
theorem said_law:PySem.Challenge.rw_sc0063_01.wellSaid=true:=by kernel_rfl
end Mine.Internal
open PySem PySem.W PySem.W.X PyProof.Rows
set_option maxHeartbeats 4000000 in
theorem PySem.Challenge.cw_sc0063_01_holds : PySem.Challenge.rw_sc0063_01.Holds := by
 w_on
 refine holds_law Mine.Internal.said_law fun said=>?_
 refine holds_openX (q:=Mine.Internal.viewL) (loose:=Mine.Internal.looseL) (Xt:=fun V=>true) (XP:=fun V V=>True) (Yf:=Mine.Internal.headY) (Ya:=Mine.Internal.headA) Mine.Internal.left_law (fun V V=>trivial) (fun V V V V V=>trivial) (by rfl) (by rfl) (by rfl) (fun s V=>recFacts_nil rfl) (by rfl) said (by decide +kernel) ⟨rfl,rfl,rfl,rfl,rfl,by decide +kernel⟩ ?hw ?hc
 case hw=>w_witness2
 case hc=>
  intro w s₀ s₁ mg mb G y fa o pm cd doc dV kV ho hd hcd hD hmg hg args vals as L hpre hlay hrd hwl hlo
  obtain⟨H,hn⟩:=Mine.Internal.headOk y
  have H1:=H.keep L.keeps
  refine Ground.open G ?_
  intro T B D TE TW
  have hfa:fa=Mine.Internal.a_law:=Mine.Internal.law_addr H1 T.g hmg
  subst hfa
  wrow_args hpre hlay hrd hwl hlo
  obtain⟨hat,hsz⟩:=script_at L
  rw[hn] at hat hsz
  subst hat
  all_lens
  exact Mine.Internal.fin_of H1 T.nolimit (ns:=‹List Int›) (by assumption) hsz hg (by first | assumption | omega) fun s' h1 h2 h3=>⟨.inl ⟨_,_,[],rfl,fun V=>rfl,.bool true,by kernel_rfl,fun V=>⟨List.nodup_nil,fun V h=>nomatch h⟩⟩,h1,h2,h3⟩
